import PyProof.Rows.All
import Wide.All
import OpenK.AllK
import Wide.FinOn
import PyProof.StrWalks
import PyProof.CompFree
import PyProof.WalksMore
import PyProof.ListNew
import KE.KStar
import PySem.Challenge.RW_xn0030_01
open PySem PySem.W PySem.Calls PyProof.Rows
set_option Elab.async false
set_option maxRecDepth 100000
set_option maxHeartbeats 8000000
set_option linter.unusedVariables false
set_option compiler.extract_closed false
noncomputable section
namespace Mine
local macro_rules | `(tactic| walk_at $s:str) => `(tactic| k_extra $s)
section
/-! the written objects of the top (their defs' texts are read out of the given program) -/
def top (i : Nat) : Stmt := (PySem.Challenge.pw_xn0030_01.main.body[i]?).getD (.Pass ⟨0, 0, 0, 0⟩)
def inCls (i j : Nat) : Stmt := match top i with
  | .ClassDef (body := b) .. => (b[j]?).getD (.Pass ⟨0, 0, 0, 0⟩)
  | s => s
def mkFn (st : Stmt) (qual : Str) (g : Addr) (cl : List (Str × Addr)) (dv kv doc pm code ct : Value) : Obj := match st with
  | .FunctionDef n a b _ _ _ sc _ _ _ => ⟨.type "function", none, .func { name := n, qualname := qual, params := a, body := .stmts b, scope := sc, globals := g, closure := cl, defaults := dv, kwdefaults := kv, doc := doc, pyModule := pm, annotations := none, code := code, closureTuple := ct, builtins := 0 }, #[]⟩
  | _ => default
def preFn (st : Stmt) (qual : Str) (sl : Array (Option Value)) : Obj := match st with
  | .FunctionDef n a b _ _ _ sc _ _ _ => ⟨.none, none, .func { name := n, qualname := qual, params := a, body := .stmts b, scope := sc, globals := 0, closure := [], defaults := .none, kwdefaults := .none }, sl⟩
  | _ => default
def litInt : Option Expr → Int
  | some (.Constant (.int i) _ _) => i
  | _ => 0
def litStr : Expr → Str
  | .Constant (.str x) _ _ => x
  | _ => ""
def b3pairs : List (Int × Str) := match top 13 with
  | .Assign _ (.Dict ks vs _) _ => (ks.zip vs).map fun q => (litInt q.1, litStr q.2)
  | _ => []
def ents (t st : Nat) : List (Int × Str) → List DictEntry
  | [] => []
  | (k, v) :: r => ⟨k, .int k t, .str v (t + 1)⟩ :: ents (t + st) st r
def chunk (j : Nat) : List (Int × Str) := (b3pairs.drop (17 * j)).take 17
def chunkEnts (j : Nat) : List DictEntry := ents (522 + 51 * j) (if j = 38 then 2 else 3) (chunk j)
def dictAt (es : List DictEntry) : Obj := ⟨.type "dict", none, .dict es.toArray es.length, #[]⟩
def b3sub (j : Nat) : Obj := dictAt (chunkEnts j)
def b3main : Obj := dictAt ((List.range 39).flatMap chunkEnts)
noncomputable def o11 (P : Params) : Obj := ⟨(.type "tuple"), none, (.seq #[] 0), #[]⟩
noncomputable def o12_B (P : Params) : Obj := ⟨.none, none, (.fields #[]), #[]⟩
noncomputable def o13 (P : Params) : Obj := ⟨(.type "code"), none, (.fields #[(.str "<module>" 182), (.str "<module>" 183), (.str "/claim/cut.py" 184), (.int 1 0), (.int 0 0), (.int 0 0), (.int 0 0), (.int 0 0), (.ref 11), (.bool false), (.int 181 0), (.ref 12), .none, .none, .none, .none, (.int 185 0), (.int 1 0), (.str "/claim/cut.py" 186)]), #[]⟩
noncomputable def o14 (P : Params) : Obj := ⟨(.type "frame"), none, .plain, #[(some (.ref 13)), (some (.ref 3)), (some (.ref 3)), none, (some (.str "__main__" 164)), none, (some (.ref 0))]⟩
noncomputable def objsB (P : Params) : List Obj := [boot_o_0 P, boot_o_1 P, boot_o_2 P, boot_o_3 P, boot_o_4 P, boot_o_5 P, boot_o_6 P, boot_o_7 P, boot_o_8 P, boot_o_9 P, boot_o_10 P, o11 P, o12_B P, o13 P, o14 P]
noncomputable def o3_5 (P : Params) : Obj := ⟨(.type "dict"), none, (.dict #[⟨PyData.keyHash P "__name__", (.str "__name__" 165), (.str "cpy313.email.header" 194)⟩, ⟨PyData.keyHash P "__doc__", (.str "__doc__" 166), .none⟩, ⟨PyData.keyHash P "__package__", (.str "__package__" 167), .none⟩, ⟨PyData.keyHash P "__loader__", (.str "__loader__" 168), (.builtin "__main__.__loader__#opaque")⟩, ⟨PyData.keyHash P "__spec__", (.str "__spec__" 169), .none⟩, ⟨PyData.keyHash P "__annotations__", (.str "__annotations__" 170), (.ref 6)⟩, ⟨PyData.keyHash P "__builtins__", (.str "__builtins__" 171), (.ref 4)⟩, ⟨PyData.keyHash P "__file__", (.str "__file__" 173), (.str "/claim/cut.py" 172)⟩, ⟨PyData.keyHash P "__cached__", (.str "__cached__" 174), .none⟩, ⟨PyData.keyHash P "_wall", (.str "_wall" 193), (.ref 21)⟩, ⟨PyData.keyHash P "NL", (.str "NL" 197), (.str "\n" 196)⟩, ⟨PyData.keyHash P "EMPTYSTRING", (.str "EMPTYSTRING" 199), (.str "" 198)⟩, ⟨PyData.keyHash P "_ValueFormatter", (.str "_ValueFormatter" 307), (.ref 94)⟩, ⟨PyData.keyHash P "_Accumulator", (.str "_Accumulator" 403), (.ref 178)⟩] 14), #[]⟩
noncomputable def o12_5 (P : Params) : Obj := ⟨.none, none, (.fields #[(.int 1 0), (.int 0 0), (.ref 20), (.int 7 0), (.int 0 0), (.ref 27), (.int 73 0), (.int 0 0), (.ref 105)]), #[]⟩
noncomputable def o15 (P : Params) : Obj := ⟨(.type "tuple"), none, (.seq #[] 0), #[]⟩
noncomputable def o16 (P : Params) : Obj := ⟨.none, none, (.fields #[]), #[]⟩
noncomputable def o17 (P : Params) : Obj := ⟨(.type "tuple"), none, (.seq #[(.str "k" 190)] 0), #[]⟩
noncomputable def o18 (P : Params) : Obj := ⟨(.type "tuple"), none, (.seq #[] 0), #[]⟩
noncomputable def o19 (P : Params) : Obj := preFn (top 0) "_wall" #[]
noncomputable def o20 (P : Params) : Obj := ⟨(.type "code"), none, (.fields #[(.str "_wall" 187), (.str "_wall" 188), (.str "/claim/cut.py" 189), (.int 1 0), (.int 1 0), (.int 0 0), (.int 0 0), (.int 3 0), (.ref 15), (.bool true), (.int 181 0), (.ref 16), .none, (.ref 17), (.ref 18), (.ref 19), (.int 191 0), (.int 1 0), (.str "/claim/cut.py" 192)]), #[]⟩
noncomputable def o21 : Obj := (fun (o : Obj) (_ : mkFn (top 0) "_wall" 3 [] .none .none .none (.str "__main__" 164) (.ref 20) .none = o) => o) _ (by (conv => lhs; whnf))
noncomputable def o22 (P : Params) : Obj := ⟨(.type "tuple"), none, (.seq #[] 0), #[]⟩
noncomputable def o23 (P : Params) : Obj := ⟨(.type "builtin_function_or_method"), none, (.fields #[(.builtin "type.__prepare__"), (.type "type")]), #[]⟩
noncomputable def o24 (P : Params) : Obj := ⟨(.type "dict"), none, (.dict #[⟨PyData.keyHash P "__module__", (.str "__module__" 207), (.str "cpy313.email.header" 194)⟩, ⟨PyData.keyHash P "__qualname__", (.str "__qualname__" 209), (.str "_ValueFormatter" 208)⟩, ⟨PyData.keyHash P "__firstlineno__", (.str "__firstlineno__" 211), (.int 7 210)⟩, ⟨PyData.keyHash P "__init__", (.str "__init__" 222), (.ref 35)⟩, ⟨PyData.keyHash P "_str", (.str "_str" 230), (.ref 42)⟩, ⟨PyData.keyHash P "__str__", (.str "__str__" 237), (.ref 49)⟩, ⟨PyData.keyHash P "newline", (.str "newline" 245), (.ref 56)⟩, ⟨PyData.keyHash P "add_transition", (.str "add_transition" 252), (.ref 63)⟩, ⟨PyData.keyHash P "feed", (.str "feed" 262), (.ref 70)⟩, ⟨PyData.keyHash P "_maxlengths", (.str "_maxlengths" 269), (.ref 77)⟩, ⟨PyData.keyHash P "_ascii_split", (.str "_ascii_split" 279), (.ref 84)⟩, ⟨PyData.keyHash P "_append_chunk", (.str "_append_chunk" 293), (.ref 91)⟩, ⟨PyData.keyHash P "__static_attributes__", (.str "__static_attributes__" 300), (.ref 92)⟩] 13), #[]⟩
noncomputable def o25 (P : Params) : Obj := ⟨(.type "tuple"), none, (.seq #[] 0), #[]⟩
noncomputable def o26 (P : Params) : Obj := ⟨.none, none, (.fields #[(.int 9 0), (.int 4 0), (.ref 34), (.int 17 0), (.int 4 0), (.ref 41), (.int 21 0), (.int 4 0), (.ref 48), (.int 24 0), (.int 4 0), (.ref 55), (.int 35 0), (.int 4 0), (.ref 62), (.int 38 0), (.int 4 0), (.ref 69), (.int 41 0), (.int 4 0), (.ref 76), (.int 44 0), (.int 4 0), (.ref 83), (.int 47 0), (.int 4 0), (.ref 90)]), #[]⟩
noncomputable def o27 (P : Params) : Obj := ⟨(.type "code"), none, (.fields #[(.str "_ValueFormatter" 202), (.str "_ValueFormatter" 203), (.str "/claim/cut.py" 204), (.int 7 0), (.int 0 0), (.int 0 0), (.int 0 0), (.int 0 0), (.ref 25), (.bool false), (.int 181 0), (.ref 26), .none, .none, .none, .none, (.int 205 0), (.int 7 0), (.str "/claim/cut.py" 206)]), #[]⟩
noncomputable def o28 (P : Params) : Obj := ⟨(.type "frame"), none, .plain, #[(some (.ref 27)), (some (.ref 3)), (some (.ref 24)), none, (some (.str "cpy313.email.header" 194)), none, (some (.ref 0))]⟩
noncomputable def o29 (P : Params) : Obj := ⟨(.type "tuple"), none, (.seq #[] 0), #[]⟩
noncomputable def o30 (P : Params) : Obj := ⟨.none, none, (.fields #[]), #[]⟩
noncomputable def o31 (P : Params) : Obj := ⟨(.type "tuple"), none, (.seq #[(.str "self" 215), (.str "headerlen" 216), (.str "maxlen" 217), (.str "continuation_ws" 218), (.str "splitchars" 219)] 0), #[]⟩
noncomputable def o32 (P : Params) : Obj := ⟨(.type "tuple"), none, (.seq #[] 0), #[]⟩
noncomputable def o33 (P : Params) : Obj := preFn (inCls 4 0) "_ValueFormatter.__init__" #[]
noncomputable def o34 (P : Params) : Obj := ⟨(.type "code"), none, (.fields #[(.str "__init__" 212), (.str "_ValueFormatter.__init__" 213), (.str "/claim/cut.py" 214), (.int 9 0), (.int 5 0), (.int 0 0), (.int 0 0), (.int 3 0), (.ref 29), (.bool true), (.int 181 0), (.ref 30), .none, (.ref 31), (.ref 32), (.ref 33), (.int 220 0), (.int 9 0), (.str "/claim/cut.py" 221)]), #[]⟩
noncomputable def o35 : Obj := (fun (o : Obj) (_ : mkFn (inCls 4 0) "_ValueFormatter.__init__" 3 [] .none .none .none (.str "cpy313.email.header" 194) (.ref 34) .none = o) => o) _ (by (conv => lhs; whnf))
noncomputable def o36 (P : Params) : Obj := ⟨(.type "tuple"), none, (.seq #[] 0), #[]⟩
noncomputable def o37 (P : Params) : Obj := ⟨.none, none, (.fields #[]), #[]⟩
noncomputable def o38 (P : Params) : Obj := ⟨(.type "tuple"), none, (.seq #[(.str "self" 226), (.str "linesep" 227)] 0), #[]⟩
noncomputable def o39 (P : Params) : Obj := ⟨(.type "tuple"), none, (.seq #[] 0), #[]⟩
noncomputable def o40 (P : Params) : Obj := preFn (inCls 4 1) "_ValueFormatter._str" #[]
noncomputable def o41 (P : Params) : Obj := ⟨(.type "code"), none, (.fields #[(.str "_str" 223), (.str "_ValueFormatter._str" 224), (.str "/claim/cut.py" 225), (.int 17 0), (.int 2 0), (.int 0 0), (.int 0 0), (.int 3 0), (.ref 36), (.bool true), (.int 181 0), (.ref 37), .none, (.ref 38), (.ref 39), (.ref 40), (.int 228 0), (.int 17 0), (.str "/claim/cut.py" 229)]), #[]⟩
noncomputable def o42 : Obj := (fun (o : Obj) (_ : mkFn (inCls 4 1) "_ValueFormatter._str" 3 [] .none .none .none (.str "cpy313.email.header" 194) (.ref 41) .none = o) => o) _ (by (conv => lhs; whnf))
noncomputable def o43 (P : Params) : Obj := ⟨(.type "tuple"), none, (.seq #[] 0), #[]⟩
noncomputable def o44 (P : Params) : Obj := ⟨.none, none, (.fields #[]), #[]⟩
noncomputable def o45 (P : Params) : Obj := ⟨(.type "tuple"), none, (.seq #[(.str "self" 234)] 0), #[]⟩
noncomputable def o46 (P : Params) : Obj := ⟨(.type "tuple"), none, (.seq #[] 0), #[]⟩
noncomputable def o47 (P : Params) : Obj := preFn (inCls 4 2) "_ValueFormatter.__str__" #[]
noncomputable def o48 (P : Params) : Obj := ⟨(.type "code"), none, (.fields #[(.str "__str__" 231), (.str "_ValueFormatter.__str__" 232), (.str "/claim/cut.py" 233), (.int 21 0), (.int 1 0), (.int 0 0), (.int 0 0), (.int 3 0), (.ref 43), (.bool true), (.int 181 0), (.ref 44), .none, (.ref 45), (.ref 46), (.ref 47), (.int 235 0), (.int 21 0), (.str "/claim/cut.py" 236)]), #[]⟩
noncomputable def o49 : Obj := (fun (o : Obj) (_ : mkFn (inCls 4 2) "_ValueFormatter.__str__" 3 [] .none .none .none (.str "cpy313.email.header" 194) (.ref 48) .none = o) => o) _ (by (conv => lhs; whnf))
noncomputable def o50 (P : Params) : Obj := ⟨(.type "tuple"), none, (.seq #[] 0), #[]⟩
noncomputable def o51 (P : Params) : Obj := ⟨.none, none, (.fields #[]), #[]⟩
noncomputable def o52 (P : Params) : Obj := ⟨(.type "tuple"), none, (.seq #[(.str "self" 241), (.str "end_of_line" 242)] 0), #[]⟩
noncomputable def o53 (P : Params) : Obj := ⟨(.type "tuple"), none, (.seq #[] 0), #[]⟩
noncomputable def o54 (P : Params) : Obj := preFn (inCls 4 3) "_ValueFormatter.newline" #[]
noncomputable def o55 (P : Params) : Obj := ⟨(.type "code"), none, (.fields #[(.str "newline" 238), (.str "_ValueFormatter.newline" 239), (.str "/claim/cut.py" 240), (.int 24 0), (.int 1 0), (.int 0 0), (.int 0 0), (.int 3 0), (.ref 50), (.bool true), (.int 181 0), (.ref 51), .none, (.ref 52), (.ref 53), (.ref 54), (.int 243 0), (.int 24 0), (.str "/claim/cut.py" 244)]), #[]⟩
noncomputable def o56 : Obj := (fun (o : Obj) (_ : mkFn (inCls 4 3) "_ValueFormatter.newline" 3 [] .none .none .none (.str "cpy313.email.header" 194) (.ref 55) .none = o) => o) _ (by (conv => lhs; whnf))
noncomputable def o57 (P : Params) : Obj := ⟨(.type "tuple"), none, (.seq #[] 0), #[]⟩
noncomputable def o58 (P : Params) : Obj := ⟨.none, none, (.fields #[]), #[]⟩
noncomputable def o59 (P : Params) : Obj := ⟨(.type "tuple"), none, (.seq #[(.str "self" 249)] 0), #[]⟩
noncomputable def o60 (P : Params) : Obj := ⟨(.type "tuple"), none, (.seq #[] 0), #[]⟩
noncomputable def o61 (P : Params) : Obj := preFn (inCls 4 4) "_ValueFormatter.add_transition" #[]
noncomputable def o62 (P : Params) : Obj := ⟨(.type "code"), none, (.fields #[(.str "add_transition" 246), (.str "_ValueFormatter.add_transition" 247), (.str "/claim/cut.py" 248), (.int 35 0), (.int 1 0), (.int 0 0), (.int 0 0), (.int 3 0), (.ref 57), (.bool true), (.int 181 0), (.ref 58), .none, (.ref 59), (.ref 60), (.ref 61), (.int 250 0), (.int 35 0), (.str "/claim/cut.py" 251)]), #[]⟩
noncomputable def o63 : Obj := (fun (o : Obj) (_ : mkFn (inCls 4 4) "_ValueFormatter.add_transition" 3 [] .none .none .none (.str "cpy313.email.header" 194) (.ref 62) .none = o) => o) _ (by (conv => lhs; whnf))
noncomputable def o64 (P : Params) : Obj := ⟨(.type "tuple"), none, (.seq #[] 0), #[]⟩
noncomputable def o65 (P : Params) : Obj := ⟨.none, none, (.fields #[]), #[]⟩
noncomputable def o66 (P : Params) : Obj := ⟨(.type "tuple"), none, (.seq #[(.str "self" 256), (.str "fws" 257), (.str "string" 258), (.str "charset" 259)] 0), #[]⟩
noncomputable def o67 (P : Params) : Obj := ⟨(.type "tuple"), none, (.seq #[] 0), #[]⟩
noncomputable def o68 (P : Params) : Obj := preFn (inCls 4 5) "_ValueFormatter.feed" #[]
noncomputable def o69 (P : Params) : Obj := ⟨(.type "code"), none, (.fields #[(.str "feed" 253), (.str "_ValueFormatter.feed" 254), (.str "/claim/cut.py" 255), (.int 38 0), (.int 4 0), (.int 0 0), (.int 0 0), (.int 3 0), (.ref 64), (.bool true), (.int 181 0), (.ref 65), .none, (.ref 66), (.ref 67), (.ref 68), (.int 260 0), (.int 38 0), (.str "/claim/cut.py" 261)]), #[]⟩
noncomputable def o70 : Obj := (fun (o : Obj) (_ : mkFn (inCls 4 5) "_ValueFormatter.feed" 3 [] .none .none .none (.str "cpy313.email.header" 194) (.ref 69) .none = o) => o) _ (by (conv => lhs; whnf))
noncomputable def o71 (P : Params) : Obj := ⟨(.type "tuple"), none, (.seq #[] 0), #[]⟩
noncomputable def o72 (P : Params) : Obj := ⟨.none, none, (.fields #[]), #[]⟩
noncomputable def o73 (P : Params) : Obj := ⟨(.type "tuple"), none, (.seq #[(.str "self" 266)] 0), #[]⟩
noncomputable def o74 (P : Params) : Obj := ⟨(.type "tuple"), none, (.seq #[] 0), #[]⟩
noncomputable def o75 (P : Params) : Obj := preFn (inCls 4 6) "_ValueFormatter._maxlengths" #[]
noncomputable def o76 (P : Params) : Obj := ⟨(.type "code"), none, (.fields #[(.str "_maxlengths" 263), (.str "_ValueFormatter._maxlengths" 264), (.str "/claim/cut.py" 265), (.int 41 0), (.int 1 0), (.int 0 0), (.int 0 0), (.int 3 0), (.ref 71), (.bool true), (.int 181 0), (.ref 72), .none, (.ref 73), (.ref 74), (.ref 75), (.int 267 0), (.int 41 0), (.str "/claim/cut.py" 268)]), #[]⟩
noncomputable def o77 : Obj := (fun (o : Obj) (_ : mkFn (inCls 4 6) "_ValueFormatter._maxlengths" 3 [] .none .none .none (.str "cpy313.email.header" 194) (.ref 76) .none = o) => o) _ (by (conv => lhs; whnf))
noncomputable def o78 (P : Params) : Obj := ⟨(.type "tuple"), none, (.seq #[] 0), #[]⟩
noncomputable def o79 (P : Params) : Obj := ⟨.none, none, (.fields #[]), #[]⟩
noncomputable def o80 (P : Params) : Obj := ⟨(.type "tuple"), none, (.seq #[(.str "self" 273), (.str "fws" 274), (.str "string" 275), (.str "splitchars" 276)] 0), #[]⟩
noncomputable def o81 (P : Params) : Obj := ⟨(.type "tuple"), none, (.seq #[] 0), #[]⟩
noncomputable def o82 (P : Params) : Obj := preFn (inCls 4 7) "_ValueFormatter._ascii_split" #[]
noncomputable def o83 (P : Params) : Obj := ⟨(.type "code"), none, (.fields #[(.str "_ascii_split" 270), (.str "_ValueFormatter._ascii_split" 271), (.str "/claim/cut.py" 272), (.int 44 0), (.int 4 0), (.int 0 0), (.int 0 0), (.int 3 0), (.ref 78), (.bool true), (.int 181 0), (.ref 79), .none, (.ref 80), (.ref 81), (.ref 82), (.int 277 0), (.int 44 0), (.str "/claim/cut.py" 278)]), #[]⟩
noncomputable def o84 : Obj := (fun (o : Obj) (_ : mkFn (inCls 4 7) "_ValueFormatter._ascii_split" 3 [] .none .none .none (.str "cpy313.email.header" 194) (.ref 83) .none = o) => o) _ (by (conv => lhs; whnf))
noncomputable def o85 (P : Params) : Obj := ⟨(.type "tuple"), none, (.seq #[] 0), #[]⟩
noncomputable def o86 (P : Params) : Obj := ⟨.none, none, (.fields #[]), #[]⟩
noncomputable def o87 (P : Params) : Obj := ⟨(.type "tuple"), none, (.seq #[(.str "self" 283), (.str "fws" 284), (.str "string" 285), (.str "ch" 286), (.str "i" 287), (.str "prevpart" 288), (.str "part" 289), (.str "remainder" 290)] 0), #[]⟩
noncomputable def o88 (P : Params) : Obj := ⟨(.type "tuple"), none, (.seq #[] 0), #[]⟩
noncomputable def o89 (P : Params) : Obj := preFn (inCls 4 8) "_ValueFormatter._append_chunk" #[]
noncomputable def o90 (P : Params) : Obj := ⟨(.type "code"), none, (.fields #[(.str "_append_chunk" 280), (.str "_ValueFormatter._append_chunk" 281), (.str "/claim/cut.py" 282), (.int 47 0), (.int 3 0), (.int 0 0), (.int 0 0), (.int 3 0), (.ref 85), (.bool true), (.int 181 0), (.ref 86), .none, (.ref 87), (.ref 88), (.ref 89), (.int 291 0), (.int 47 0), (.str "/claim/cut.py" 292)]), #[]⟩
noncomputable def o91 : Obj := (fun (o : Obj) (_ : mkFn (inCls 4 8) "_ValueFormatter._append_chunk" 3 [] .none .none .none (.str "cpy313.email.header" 194) (.ref 90) .none = o) => o) _ (by (conv => lhs; whnf))
noncomputable def o92 (P : Params) : Obj := ⟨(.type "tuple"), none, (.seq #[(.str "_continuation_ws" 294), (.str "_continuation_ws_len" 295), (.str "_current_line" 296), (.str "_lines" 297), (.str "_maxlen" 298), (.str "_splitchars" 299)] 0), #[]⟩
noncomputable def o93 (P : Params) : Obj := ⟨(.type "dict"), none, (.dict #[⟨PyData.keyHash P "__module__", (.str "__module__" 207), (.str "cpy313.email.header" 194)⟩, ⟨PyData.keyHash P "__firstlineno__", (.str "__firstlineno__" 211), (.int 7 210)⟩, ⟨PyData.keyHash P "__init__", (.str "__init__" 222), (.ref 35)⟩, ⟨PyData.keyHash P "_str", (.str "_str" 230), (.ref 42)⟩, ⟨PyData.keyHash P "__str__", (.str "__str__" 237), (.ref 49)⟩, ⟨PyData.keyHash P "newline", (.str "newline" 245), (.ref 56)⟩, ⟨PyData.keyHash P "add_transition", (.str "add_transition" 252), (.ref 63)⟩, ⟨PyData.keyHash P "feed", (.str "feed" 262), (.ref 70)⟩, ⟨PyData.keyHash P "_maxlengths", (.str "_maxlengths" 269), (.ref 77)⟩, ⟨PyData.keyHash P "_ascii_split", (.str "_ascii_split" 279), (.ref 84)⟩, ⟨PyData.keyHash P "_append_chunk", (.str "_append_chunk" 293), (.ref 91)⟩, ⟨PyData.keyHash P "__static_attributes__", (.str "__static_attributes__" 300), (.ref 92)⟩, ⟨PyData.keyHash P "__dict__", (.str "__dict__" 302), (.ref 95)⟩, ⟨PyData.keyHash P "__weakref__", (.str "__weakref__" 304), (.ref 96)⟩, ⟨PyData.keyHash P "__doc__", (.str "__doc__" 305), .none⟩] 4), #[]⟩
noncomputable def o94 (P : Params) : Obj := ⟨(.type "type"), none, (.cls ⟨"_ValueFormatter", [(.type "object")], [(.ref 94), (.type "object")], 93, "_ValueFormatter", true, [], [], false, none, false⟩), #[none, none, (some (.str "_ValueFormatter" 200)), (some (.str "_ValueFormatter" 208)), (some (.builtin "object.__new__")), (some (.bool true))]⟩
noncomputable def o95 (P : Params) : Obj := ⟨(.type "getset_descriptor"), none, (.fields #[(.str "__dict__" 301), (.ref 94), (.builtin "function.__dict__"), (.builtin "function.__dict__#set")]), #[]⟩
noncomputable def o96 (P : Params) : Obj := ⟨(.type "getset_descriptor"), none, (.fields #[(.str "__weakref__" 303), (.ref 94), (.builtin "ExceptionGroup.__weakref__"), .none]), #[]⟩
noncomputable def o97 (P : Params) : Obj := ⟨(.type "super"), none, (.fields #[(.ref 94), (.ref 94), (.ref 94)]), #[]⟩
noncomputable def o98 (P : Params) : Obj := ⟨(.type "builtin_function_or_method"), none, (.fields #[(.builtin "object.__init_subclass__"), (.ref 94)]), #[]⟩
noncomputable def o99 (P : Params) : Obj := ⟨(.type "tuple"), none, (.seq #[(.type "list")] 0), #[]⟩
noncomputable def o100 (P : Params) : Obj := ⟨(.type "builtin_function_or_method"), none, (.fields #[(.builtin "type.__prepare__"), (.type "type")]), #[]⟩
noncomputable def o101 (P : Params) : Obj := ⟨(.type "dict"), none, (.dict #[⟨PyData.keyHash P "__module__", (.str "__module__" 315), (.str "cpy313.email.header" 194)⟩, ⟨PyData.keyHash P "__qualname__", (.str "__qualname__" 317), (.str "_Accumulator" 316)⟩, ⟨PyData.keyHash P "__firstlineno__", (.str "__firstlineno__" 319), (.int 73 318)⟩, ⟨PyData.keyHash P "__init__", (.str "__init__" 329), (.ref 115)⟩, ⟨PyData.keyHash P "push", (.str "push" 338), (.ref 122)⟩, ⟨PyData.keyHash P "pop_from", (.str "pop_from" 348), (.ref 130)⟩, ⟨PyData.keyHash P "pop", (.str "pop" 356), (.ref 138)⟩, ⟨PyData.keyHash P "__len__", (.str "__len__" 363), (.ref 145)⟩, ⟨PyData.keyHash P "__str__", (.str "__str__" 370), (.ref 152)⟩, ⟨PyData.keyHash P "reset", (.str "reset" 378), (.ref 160)⟩, ⟨PyData.keyHash P "is_onlyws", (.str "is_onlyws" 385), (.ref 167)⟩, ⟨PyData.keyHash P "part_count", (.str "part_count" 393), (.ref 175)⟩, ⟨PyData.keyHash P "__static_attributes__", (.str "__static_attributes__" 395), (.ref 176)⟩, ⟨PyData.keyHash P "__classcell__", (.str "__classcell__" 396), (.ref 102)⟩] 14), #[]⟩
noncomputable def o102 (P : Params) : Obj := ⟨(.type "cell"), none, (.cell (some (.ref 178))), #[]⟩
noncomputable def o103 (P : Params) : Obj := ⟨(.type "tuple"), none, (.seq #[] 0), #[]⟩
noncomputable def o104 (P : Params) : Obj := ⟨.none, none, (.fields #[(.int 75 0), (.int 4 0), (.ref 114), (.int 79 0), (.int 4 0), (.ref 121), (.int 82 0), (.int 4 0), (.ref 129), (.int 87 0), (.int 4 0), (.ref 137), (.int 92 0), (.int 4 0), (.ref 144), (.int 95 0), (.int 4 0), (.ref 151), (.int 98 0), (.int 4 0), (.ref 159), (.int 104 0), (.int 4 0), (.ref 166), (.int 107 0), (.int 4 0), (.ref 174)]), #[]⟩
noncomputable def o105 (P : Params) : Obj := ⟨(.type "code"), none, (.fields #[(.str "_Accumulator" 310), (.str "_Accumulator" 311), (.str "/claim/cut.py" 312), (.int 73 0), (.int 0 0), (.int 0 0), (.int 0 0), (.int 0 0), (.ref 103), (.bool false), (.int 181 0), (.ref 104), .none, .none, .none, .none, (.int 313 0), (.int 73 0), (.str "/claim/cut.py" 314)]), #[]⟩
noncomputable def o106 (P : Params) : Obj := ⟨(.type "frame"), none, .plain, #[(some (.ref 105)), (some (.ref 3)), (some (.ref 101)), none, (some (.str "cpy313.email.header" 194)), none, (some (.ref 0))]⟩
noncomputable def o107 (P : Params) : Obj := ⟨(.type "tuple"), none, (.seq #[(.int 0 320)] 0), #[]⟩
noncomputable def o108 (P : Params) : Obj := ⟨(.type "tuple"), none, (.seq #[(.ref 102)] 0), #[]⟩
noncomputable def o109 (P : Params) : Obj := ⟨(.type "tuple"), none, (.seq #[(.str "__class__" 324)] 0), #[]⟩
noncomputable def o110 (P : Params) : Obj := ⟨.none, none, (.fields #[]), #[]⟩
noncomputable def o111 (P : Params) : Obj := ⟨(.type "tuple"), none, (.seq #[(.str "self" 325), (.str "initial_size" 326)] 0), #[]⟩
noncomputable def o112 (P : Params) : Obj := ⟨(.type "tuple"), none, (.seq #[] 0), #[]⟩
noncomputable def o113 (P : Params) : Obj := preFn (inCls 5 0) "_Accumulator.__init__" #[]
noncomputable def o114 (P : Params) : Obj := ⟨(.type "code"), none, (.fields #[(.str "__init__" 321), (.str "_Accumulator.__init__" 322), (.str "/claim/cut.py" 323), (.int 75 0), (.int 2 0), (.int 0 0), (.int 0 0), (.int 3 0), (.ref 109), (.bool true), (.int 181 0), (.ref 110), .none, (.ref 111), (.ref 112), (.ref 113), (.int 327 0), (.int 75 0), (.str "/claim/cut.py" 328)]), #[]⟩
noncomputable def o115 : Obj := (fun (o : Obj) (_ : mkFn (inCls 5 0) "_Accumulator.__init__" 3 [("__class__", 102)] (.ref 107) .none .none (.str "cpy313.email.header" 194) (.ref 114) (.ref 108) = o) => o) _ (by (conv => lhs; whnf))
noncomputable def o116 (P : Params) : Obj := ⟨(.type "tuple"), none, (.seq #[] 0), #[]⟩
noncomputable def o117 (P : Params) : Obj := ⟨.none, none, (.fields #[]), #[]⟩
noncomputable def o118 (P : Params) : Obj := ⟨(.type "tuple"), none, (.seq #[(.str "self" 333), (.str "fws" 334), (.str "string" 335)] 0), #[]⟩
noncomputable def o119 (P : Params) : Obj := ⟨(.type "tuple"), none, (.seq #[] 0), #[]⟩
noncomputable def o120 (P : Params) : Obj := preFn (inCls 5 1) "_Accumulator.push" #[]
noncomputable def o121 (P : Params) : Obj := ⟨(.type "code"), none, (.fields #[(.str "push" 330), (.str "_Accumulator.push" 331), (.str "/claim/cut.py" 332), (.int 79 0), (.int 3 0), (.int 0 0), (.int 0 0), (.int 3 0), (.ref 116), (.bool true), (.int 181 0), (.ref 117), .none, (.ref 118), (.ref 119), (.ref 120), (.int 336 0), (.int 79 0), (.str "/claim/cut.py" 337)]), #[]⟩
noncomputable def o122 : Obj := (fun (o : Obj) (_ : mkFn (inCls 5 1) "_Accumulator.push" 3 [] .none .none .none (.str "cpy313.email.header" 194) (.ref 121) .none = o) => o) _ (by (conv => lhs; whnf))
noncomputable def o123 (P : Params) : Obj := ⟨(.type "tuple"), none, (.seq #[(.int 0 339)] 0), #[]⟩
noncomputable def o124 (P : Params) : Obj := ⟨(.type "tuple"), none, (.seq #[] 0), #[]⟩
noncomputable def o125 (P : Params) : Obj := ⟨.none, none, (.fields #[]), #[]⟩
noncomputable def o126 (P : Params) : Obj := ⟨(.type "tuple"), none, (.seq #[(.str "self" 343), (.str "i" 344), (.str "popped" 345)] 0), #[]⟩
noncomputable def o127 (P : Params) : Obj := ⟨(.type "tuple"), none, (.seq #[] 0), #[]⟩
noncomputable def o128 (P : Params) : Obj := preFn (inCls 5 2) "_Accumulator.pop_from" #[]
noncomputable def o129 (P : Params) : Obj := ⟨(.type "code"), none, (.fields #[(.str "pop_from" 340), (.str "_Accumulator.pop_from" 341), (.str "/claim/cut.py" 342), (.int 82 0), (.int 2 0), (.int 0 0), (.int 0 0), (.int 3 0), (.ref 124), (.bool true), (.int 181 0), (.ref 125), .none, (.ref 126), (.ref 127), (.ref 128), (.int 346 0), (.int 82 0), (.str "/claim/cut.py" 347)]), #[]⟩
noncomputable def o130 : Obj := (fun (o : Obj) (_ : mkFn (inCls 5 2) "_Accumulator.pop_from" 3 [] (.ref 123) .none .none (.str "cpy313.email.header" 194) (.ref 129) .none = o) => o) _ (by (conv => lhs; whnf))
noncomputable def o131 (P : Params) : Obj := ⟨(.type "tuple"), none, (.seq #[(.ref 102)] 0), #[]⟩
noncomputable def o132 (P : Params) : Obj := ⟨(.type "tuple"), none, (.seq #[(.str "__class__" 352)] 0), #[]⟩
noncomputable def o133 (P : Params) : Obj := ⟨.none, none, (.fields #[]), #[]⟩
noncomputable def o134 (P : Params) : Obj := ⟨(.type "tuple"), none, (.seq #[(.str "self" 353)] 0), #[]⟩
noncomputable def o135 (P : Params) : Obj := ⟨(.type "tuple"), none, (.seq #[] 0), #[]⟩
noncomputable def o136 (P : Params) : Obj := preFn (inCls 5 3) "_Accumulator.pop" #[]
noncomputable def o137 (P : Params) : Obj := ⟨(.type "code"), none, (.fields #[(.str "pop" 349), (.str "_Accumulator.pop" 350), (.str "/claim/cut.py" 351), (.int 87 0), (.int 1 0), (.int 0 0), (.int 0 0), (.int 3 0), (.ref 132), (.bool true), (.int 181 0), (.ref 133), .none, (.ref 134), (.ref 135), (.ref 136), (.int 354 0), (.int 87 0), (.str "/claim/cut.py" 355)]), #[]⟩
noncomputable def o138 : Obj := (fun (o : Obj) (_ : mkFn (inCls 5 3) "_Accumulator.pop" 3 [("__class__", 102)] .none .none .none (.str "cpy313.email.header" 194) (.ref 137) (.ref 131) = o) => o) _ (by (conv => lhs; whnf))
noncomputable def o139 (P : Params) : Obj := ⟨(.type "tuple"), none, (.seq #[] 0), #[]⟩
noncomputable def o140 (P : Params) : Obj := ⟨.none, none, (.fields #[]), #[]⟩
noncomputable def o141 (P : Params) : Obj := ⟨(.type "tuple"), none, (.seq #[(.str "self" 360)] 0), #[]⟩
noncomputable def o142 (P : Params) : Obj := ⟨(.type "tuple"), none, (.seq #[] 0), #[]⟩
noncomputable def o143 (P : Params) : Obj := preFn (inCls 5 4) "_Accumulator.__len__" #[]
noncomputable def o144 (P : Params) : Obj := ⟨(.type "code"), none, (.fields #[(.str "__len__" 357), (.str "_Accumulator.__len__" 358), (.str "/claim/cut.py" 359), (.int 92 0), (.int 1 0), (.int 0 0), (.int 0 0), (.int 3 0), (.ref 139), (.bool true), (.int 181 0), (.ref 140), .none, (.ref 141), (.ref 142), (.ref 143), (.int 361 0), (.int 92 0), (.str "/claim/cut.py" 362)]), #[]⟩
noncomputable def o145 : Obj := (fun (o : Obj) (_ : mkFn (inCls 5 4) "_Accumulator.__len__" 3 [] .none .none .none (.str "cpy313.email.header" 194) (.ref 144) .none = o) => o) _ (by (conv => lhs; whnf))
noncomputable def o146 (P : Params) : Obj := ⟨(.type "tuple"), none, (.seq #[] 0), #[]⟩
noncomputable def o147 (P : Params) : Obj := ⟨.none, none, (.fields #[]), #[]⟩
noncomputable def o148 (P : Params) : Obj := ⟨(.type "tuple"), none, (.seq #[(.str "self" 367)] 0), #[]⟩
noncomputable def o149 (P : Params) : Obj := ⟨(.type "tuple"), none, (.seq #[] 0), #[]⟩
noncomputable def o150 (P : Params) : Obj := preFn (inCls 5 5) "_Accumulator.__str__" #[]
noncomputable def o151 (P : Params) : Obj := ⟨(.type "code"), none, (.fields #[(.str "__str__" 364), (.str "_Accumulator.__str__" 365), (.str "/claim/cut.py" 366), (.int 95 0), (.int 1 0), (.int 0 0), (.int 0 0), (.int 3 0), (.ref 146), (.bool true), (.int 181 0), (.ref 147), .none, (.ref 148), (.ref 149), (.ref 150), (.int 368 0), (.int 95 0), (.str "/claim/cut.py" 369)]), #[]⟩
noncomputable def o152 : Obj := (fun (o : Obj) (_ : mkFn (inCls 5 5) "_Accumulator.__str__" 3 [] .none .none .none (.str "cpy313.email.header" 194) (.ref 151) .none = o) => o) _ (by (conv => lhs; whnf))
noncomputable def o153 (P : Params) : Obj := ⟨(.type "tuple"), none, (.seq #[.none] 0), #[]⟩
noncomputable def o154 (P : Params) : Obj := ⟨(.type "tuple"), none, (.seq #[] 0), #[]⟩
noncomputable def o155 (P : Params) : Obj := ⟨.none, none, (.fields #[]), #[]⟩
noncomputable def o156 (P : Params) : Obj := ⟨(.type "tuple"), none, (.seq #[(.str "self" 374), (.str "startval" 375)] 0), #[]⟩
noncomputable def o157 (P : Params) : Obj := ⟨(.type "tuple"), none, (.seq #[] 0), #[]⟩
noncomputable def o158 (P : Params) : Obj := preFn (inCls 5 6) "_Accumulator.reset" #[]
noncomputable def o159 (P : Params) : Obj := ⟨(.type "code"), none, (.fields #[(.str "reset" 371), (.str "_Accumulator.reset" 372), (.str "/claim/cut.py" 373), (.int 98 0), (.int 2 0), (.int 0 0), (.int 0 0), (.int 3 0), (.ref 154), (.bool true), (.int 181 0), (.ref 155), .none, (.ref 156), (.ref 157), (.ref 158), (.int 376 0), (.int 98 0), (.str "/claim/cut.py" 377)]), #[]⟩
noncomputable def o160 : Obj := (fun (o : Obj) (_ : mkFn (inCls 5 6) "_Accumulator.reset" 3 [] (.ref 153) .none .none (.str "cpy313.email.header" 194) (.ref 159) .none = o) => o) _ (by (conv => lhs; whnf))
noncomputable def o161 (P : Params) : Obj := ⟨(.type "tuple"), none, (.seq #[] 0), #[]⟩
noncomputable def o162 (P : Params) : Obj := ⟨.none, none, (.fields #[]), #[]⟩
noncomputable def o163 (P : Params) : Obj := ⟨(.type "tuple"), none, (.seq #[(.str "self" 382)] 0), #[]⟩
noncomputable def o164 (P : Params) : Obj := ⟨(.type "tuple"), none, (.seq #[] 0), #[]⟩
noncomputable def o165 (P : Params) : Obj := preFn (inCls 5 7) "_Accumulator.is_onlyws" #[]
noncomputable def o166 (P : Params) : Obj := ⟨(.type "code"), none, (.fields #[(.str "is_onlyws" 379), (.str "_Accumulator.is_onlyws" 380), (.str "/claim/cut.py" 381), (.int 104 0), (.int 1 0), (.int 0 0), (.int 0 0), (.int 3 0), (.ref 161), (.bool true), (.int 181 0), (.ref 162), .none, (.ref 163), (.ref 164), (.ref 165), (.int 383 0), (.int 104 0), (.str "/claim/cut.py" 384)]), #[]⟩
noncomputable def o167 : Obj := (fun (o : Obj) (_ : mkFn (inCls 5 7) "_Accumulator.is_onlyws" 3 [] .none .none .none (.str "cpy313.email.header" 194) (.ref 166) .none = o) => o) _ (by (conv => lhs; whnf))
noncomputable def o168 (P : Params) : Obj := ⟨(.type "tuple"), none, (.seq #[(.ref 102)] 0), #[]⟩
noncomputable def o169 (P : Params) : Obj := ⟨(.type "tuple"), none, (.seq #[(.str "__class__" 389)] 0), #[]⟩
noncomputable def o170 (P : Params) : Obj := ⟨.none, none, (.fields #[]), #[]⟩
noncomputable def o171 (P : Params) : Obj := ⟨(.type "tuple"), none, (.seq #[(.str "self" 390)] 0), #[]⟩
noncomputable def o172 (P : Params) : Obj := ⟨(.type "tuple"), none, (.seq #[] 0), #[]⟩
noncomputable def o173 (P : Params) : Obj := preFn (inCls 5 8) "_Accumulator.part_count" #[]
noncomputable def o174 (P : Params) : Obj := ⟨(.type "code"), none, (.fields #[(.str "part_count" 386), (.str "_Accumulator.part_count" 387), (.str "/claim/cut.py" 388), (.int 107 0), (.int 1 0), (.int 0 0), (.int 0 0), (.int 3 0), (.ref 169), (.bool true), (.int 181 0), (.ref 170), .none, (.ref 171), (.ref 172), (.ref 173), (.int 391 0), (.int 107 0), (.str "/claim/cut.py" 392)]), #[]⟩
noncomputable def o175 : Obj := (fun (o : Obj) (_ : mkFn (inCls 5 8) "_Accumulator.part_count" 3 [("__class__", 102)] .none .none .none (.str "cpy313.email.header" 194) (.ref 174) (.ref 168) = o) => o) _ (by (conv => lhs; whnf))
noncomputable def o176 (P : Params) : Obj := ⟨(.type "tuple"), none, (.seq #[(.str "_initial_size" 394)] 0), #[]⟩
noncomputable def o177 (P : Params) : Obj := ⟨(.type "dict"), none, (.dict #[⟨PyData.keyHash P "__module__", (.str "__module__" 315), (.str "cpy313.email.header" 194)⟩, ⟨PyData.keyHash P "__firstlineno__", (.str "__firstlineno__" 319), (.int 73 318)⟩, ⟨PyData.keyHash P "__init__", (.str "__init__" 329), (.ref 115)⟩, ⟨PyData.keyHash P "push", (.str "push" 338), (.ref 122)⟩, ⟨PyData.keyHash P "pop_from", (.str "pop_from" 348), (.ref 130)⟩, ⟨PyData.keyHash P "pop", (.str "pop" 356), (.ref 138)⟩, ⟨PyData.keyHash P "__len__", (.str "__len__" 363), (.ref 145)⟩, ⟨PyData.keyHash P "__str__", (.str "__str__" 370), (.ref 152)⟩, ⟨PyData.keyHash P "reset", (.str "reset" 378), (.ref 160)⟩, ⟨PyData.keyHash P "is_onlyws", (.str "is_onlyws" 385), (.ref 167)⟩, ⟨PyData.keyHash P "part_count", (.str "part_count" 393), (.ref 175)⟩, ⟨PyData.keyHash P "__static_attributes__", (.str "__static_attributes__" 395), (.ref 176)⟩, ⟨PyData.keyHash P "__dict__", (.str "__dict__" 398), (.ref 179)⟩, ⟨PyData.keyHash P "__weakref__", (.str "__weakref__" 400), (.ref 180)⟩, ⟨PyData.keyHash P "__doc__", (.str "__doc__" 401), .none⟩] 5), #[]⟩
noncomputable def o178 (P : Params) : Obj := ⟨(.type "type"), none, (.cls ⟨"_Accumulator", [(.type "list")], [(.ref 178), (.type "list"), (.type "object")], 177, "_Accumulator", true, [], [], false, none, false⟩), #[(some (.ref 99)), none, (some (.str "_Accumulator" 308)), (some (.str "_Accumulator" 316)), (some (.builtin "list.__new__")), (some (.bool true))]⟩
noncomputable def o179 (P : Params) : Obj := ⟨(.type "getset_descriptor"), none, (.fields #[(.str "__dict__" 397), (.ref 178), (.builtin "function.__dict__"), (.builtin "function.__dict__#set")]), #[]⟩
noncomputable def o180 (P : Params) : Obj := ⟨(.type "getset_descriptor"), none, (.fields #[(.str "__weakref__" 399), (.ref 178), (.builtin "ExceptionGroup.__weakref__"), .none]), #[]⟩
noncomputable def o181 (P : Params) : Obj := ⟨(.type "super"), none, (.fields #[(.ref 178), (.ref 178), (.ref 178)]), #[]⟩
noncomputable def o182 (P : Params) : Obj := ⟨(.type "builtin_function_or_method"), none, (.fields #[(.builtin "object.__init_subclass__"), (.ref 178)]), #[]⟩
noncomputable def objs5 (P : Params) : List Obj := [boot_o_0 P, boot_o_1 P, boot_o_2 P, o3_5 P, boot_o_4 P, boot_o_5 P, boot_o_6 P, boot_o_7 P, boot_o_8 P, boot_o_9 P, boot_o_10 P, o11 P, o12_5 P, o13 P, o14 P, o15 P, o16 P, o17 P, o18 P, o19 P, o20 P, o21, o22 P, o23 P, o24 P, o25 P, o26 P, o27 P, o28 P, o29 P, o30 P, o31 P, o32 P, o33 P, o34 P, o35, o36 P, o37 P, o38 P, o39 P, o40 P, o41 P, o42, o43 P, o44 P, o45 P, o46 P, o47 P, o48 P, o49, o50 P, o51 P, o52 P, o53 P, o54 P, o55 P, o56, o57 P, o58 P, o59 P, o60 P, o61 P, o62 P, o63, o64 P, o65 P, o66 P, o67 P, o68 P, o69 P, o70, o71 P, o72 P, o73 P, o74 P, o75 P, o76 P, o77, o78 P, o79 P, o80 P, o81 P, o82 P, o83 P, o84, o85 P, o86 P, o87 P, o88 P, o89 P, o90 P, o91, o92 P, o93 P, o94 P, o95 P, o96 P, o97 P, o98 P, o99 P, o100 P, o101 P, o102 P, o103 P, o104 P, o105 P, o106 P, o107 P, o108 P, o109 P, o110 P, o111 P, o112 P, o113 P, o114 P, o115, o116 P, o117 P, o118 P, o119 P, o120 P, o121 P, o122, o123 P, o124 P, o125 P, o126 P, o127 P, o128 P, o129 P, o130, o131 P, o132 P, o133 P, o134 P, o135 P, o136 P, o137 P, o138, o139 P, o140 P, o141 P, o142 P, o143 P, o144 P, o145, o146 P, o147 P, o148 P, o149 P, o150 P, o151 P, o152, o153 P, o154 P, o155 P, o156 P, o157 P, o158 P, o159 P, o160, o161 P, o162 P, o163 P, o164 P, o165 P, o166 P, o167, o168 P, o169 P, o170 P, o171 P, o172 P, o173 P, o174 P, o175, o176 P, o177 P, o178 P, o179 P, o180 P, o181 P, o182 P]
noncomputable def o2 (P : Params) : Obj := ⟨.none, none, (.dict #[⟨PyData.keyHash P "type.__subclasses__.Exception.0", (.str "type.__subclasses__.Exception.0" 422), (.int 192 0)⟩, ⟨PyData.keyHash P "type.__subclasses__.Exception.n", (.str "type.__subclasses__.Exception.n" 423), (.int 1 0)⟩] 2), #[]⟩
noncomputable def o3_10 (P : Params) : Obj := ⟨(.type "dict"), none, (.dict #[⟨PyData.keyHash P "__name__", (.str "__name__" 165), (.str "cpy313.stringprep" 453)⟩, ⟨PyData.keyHash P "__doc__", (.str "__doc__" 166), .none⟩, ⟨PyData.keyHash P "__package__", (.str "__package__" 167), .none⟩, ⟨PyData.keyHash P "__loader__", (.str "__loader__" 168), (.builtin "__main__.__loader__#opaque")⟩, ⟨PyData.keyHash P "__spec__", (.str "__spec__" 169), .none⟩, ⟨PyData.keyHash P "__annotations__", (.str "__annotations__" 170), (.ref 6)⟩, ⟨PyData.keyHash P "__builtins__", (.str "__builtins__" 171), (.ref 4)⟩, ⟨PyData.keyHash P "__file__", (.str "__file__" 173), (.str "/claim/cut.py" 172)⟩, ⟨PyData.keyHash P "__cached__", (.str "__cached__" 174), .none⟩, ⟨PyData.keyHash P "_wall", (.str "_wall" 193), (.ref 21)⟩, ⟨PyData.keyHash P "NL", (.str "NL" 197), (.str "\n" 196)⟩, ⟨PyData.keyHash P "EMPTYSTRING", (.str "EMPTYSTRING" 199), (.str "" 198)⟩, ⟨PyData.keyHash P "_ValueFormatter", (.str "_ValueFormatter" 307), (.ref 94)⟩, ⟨PyData.keyHash P "_Accumulator", (.str "_Accumulator" 403), (.ref 178)⟩, ⟨PyData.keyHash P "Error", (.str "Error" 425), (.ref 192)⟩, ⟨PyData.keyHash P "error_reply", (.str "error_reply" 441), (.ref 205)⟩, ⟨PyData.keyHash P "parse257", (.str "parse257" 452), (.ref 214)⟩] 17), #[]⟩
noncomputable def o12_10 (P : Params) : Obj := ⟨.none, none, (.fields #[(.int 1 0), (.int 0 0), (.ref 20), (.int 7 0), (.int 0 0), (.ref 27), (.int 73 0), (.int 0 0), (.ref 105), (.int 110 0), (.int 0 0), (.ref 188), (.int 112 0), (.int 0 0), (.ref 201), (.int 114 0), (.int 0 0), (.ref 213)]), #[]⟩
noncomputable def o183 (P : Params) : Obj := ⟨(.type "tuple"), none, (.seq #[(.type "Exception")] 0), #[]⟩
noncomputable def o184 (P : Params) : Obj := ⟨(.type "builtin_function_or_method"), none, (.fields #[(.builtin "type.__prepare__"), (.type "type")]), #[]⟩
noncomputable def o185 (P : Params) : Obj := ⟨(.type "dict"), none, (.dict #[⟨PyData.keyHash P "__module__", (.str "__module__" 413), (.str "cpy313.ftplib" 404)⟩, ⟨PyData.keyHash P "__qualname__", (.str "__qualname__" 415), (.str "Error" 414)⟩, ⟨PyData.keyHash P "__firstlineno__", (.str "__firstlineno__" 417), (.int 110 416)⟩, ⟨PyData.keyHash P "__static_attributes__", (.str "__static_attributes__" 418), (.ref 190)⟩] 4), #[]⟩
noncomputable def o186 (P : Params) : Obj := ⟨(.type "tuple"), none, (.seq #[] 0), #[]⟩
noncomputable def o187 (P : Params) : Obj := ⟨.none, none, (.fields #[]), #[]⟩
noncomputable def o188 (P : Params) : Obj := ⟨(.type "code"), none, (.fields #[(.str "Error" 408), (.str "Error" 409), (.str "/claim/cut.py" 410), (.int 110 0), (.int 0 0), (.int 0 0), (.int 0 0), (.int 0 0), (.ref 186), (.bool false), (.int 181 0), (.ref 187), .none, .none, .none, .none, (.int 411 0), (.int 110 0), (.str "/claim/cut.py" 412)]), #[]⟩
noncomputable def o189 (P : Params) : Obj := ⟨(.type "frame"), none, .plain, #[(some (.ref 188)), (some (.ref 3)), (some (.ref 185)), none, (some (.str "cpy313.ftplib" 404)), none, (some (.ref 0))]⟩
noncomputable def o190 (P : Params) : Obj := ⟨(.type "tuple"), none, (.seq #[] 0), #[]⟩
noncomputable def o191 (P : Params) : Obj := ⟨(.type "dict"), none, (.dict #[⟨PyData.keyHash P "__module__", (.str "__module__" 413), (.str "cpy313.ftplib" 404)⟩, ⟨PyData.keyHash P "__firstlineno__", (.str "__firstlineno__" 417), (.int 110 416)⟩, ⟨PyData.keyHash P "__static_attributes__", (.str "__static_attributes__" 418), (.ref 190)⟩, ⟨PyData.keyHash P "__weakref__", (.str "__weakref__" 420), (.ref 193)⟩, ⟨PyData.keyHash P "__doc__", (.str "__doc__" 421), .none⟩] 3), #[]⟩
noncomputable def o192 (P : Params) : Obj := ⟨(.type "type"), none, (.cls ⟨"Error", [(.type "Exception")], [(.ref 192), (.type "Exception"), (.type "BaseException"), (.type "object")], 191, "Error", true, [], [(.ref 205)], false, none, false⟩), #[(some (.ref 183)), none, (some (.str "Error" 406)), (some (.str "Error" 414)), (some (.builtin "Exception.__new__")), (some (.bool true))]⟩
noncomputable def o193 (P : Params) : Obj := ⟨(.type "getset_descriptor"), none, (.fields #[(.str "__weakref__" 419), (.ref 192), (.builtin "ExceptionGroup.__weakref__"), .none]), #[]⟩
noncomputable def o194 (P : Params) : Obj := ⟨(.type "super"), none, (.fields #[(.ref 192), (.ref 192), (.ref 192)]), #[]⟩
noncomputable def o195 (P : Params) : Obj := ⟨(.type "builtin_function_or_method"), none, (.fields #[(.builtin "object.__init_subclass__"), (.ref 192)]), #[]⟩
noncomputable def o196 (P : Params) : Obj := ⟨(.type "tuple"), none, (.seq #[(.ref 192)] 0), #[]⟩
noncomputable def o197 (P : Params) : Obj := ⟨(.type "builtin_function_or_method"), none, (.fields #[(.builtin "type.__prepare__"), (.type "type")]), #[]⟩
noncomputable def o198 (P : Params) : Obj := ⟨(.type "dict"), none, (.dict #[⟨PyData.keyHash P "__module__", (.str "__module__" 433), (.str "cpy313.ftplib" 404)⟩, ⟨PyData.keyHash P "__qualname__", (.str "__qualname__" 435), (.str "error_reply" 434)⟩, ⟨PyData.keyHash P "__firstlineno__", (.str "__firstlineno__" 437), (.int 112 436)⟩, ⟨PyData.keyHash P "__static_attributes__", (.str "__static_attributes__" 438), (.ref 203)⟩] 4), #[]⟩
noncomputable def o199 (P : Params) : Obj := ⟨(.type "tuple"), none, (.seq #[] 0), #[]⟩
noncomputable def o200 (P : Params) : Obj := ⟨.none, none, (.fields #[]), #[]⟩
noncomputable def o201 (P : Params) : Obj := ⟨(.type "code"), none, (.fields #[(.str "error_reply" 428), (.str "error_reply" 429), (.str "/claim/cut.py" 430), (.int 112 0), (.int 0 0), (.int 0 0), (.int 0 0), (.int 0 0), (.ref 199), (.bool false), (.int 181 0), (.ref 200), .none, .none, .none, .none, (.int 431 0), (.int 112 0), (.str "/claim/cut.py" 432)]), #[]⟩
noncomputable def o202 (P : Params) : Obj := ⟨(.type "frame"), none, .plain, #[(some (.ref 201)), (some (.ref 3)), (some (.ref 198)), none, (some (.str "cpy313.ftplib" 404)), none, (some (.ref 0))]⟩
noncomputable def o203 (P : Params) : Obj := ⟨(.type "tuple"), none, (.seq #[] 0), #[]⟩
noncomputable def o204 (P : Params) : Obj := ⟨(.type "dict"), none, (.dict #[⟨PyData.keyHash P "__module__", (.str "__module__" 433), (.str "cpy313.ftplib" 404)⟩, ⟨PyData.keyHash P "__firstlineno__", (.str "__firstlineno__" 437), (.int 112 436)⟩, ⟨PyData.keyHash P "__static_attributes__", (.str "__static_attributes__" 438), (.ref 203)⟩, ⟨PyData.keyHash P "__doc__", (.str "__doc__" 439), .none⟩] 2), #[]⟩
noncomputable def o205 (P : Params) : Obj := ⟨(.type "type"), none, (.cls ⟨"error_reply", [(.ref 192)], [(.ref 205), (.ref 192), (.type "Exception"), (.type "BaseException"), (.type "object")], 204, "error_reply", true, [], [], false, none, false⟩), #[(some (.ref 196)), none, (some (.str "error_reply" 426)), (some (.str "error_reply" 434)), (some (.builtin "Exception.__new__")), (some (.bool true))]⟩
noncomputable def o206 (P : Params) : Obj := ⟨(.type "super"), none, (.fields #[(.ref 205), (.ref 205), (.ref 205)]), #[]⟩
noncomputable def o207 (P : Params) : Obj := ⟨(.type "builtin_function_or_method"), none, (.fields #[(.builtin "object.__init_subclass__"), (.ref 205)]), #[]⟩
noncomputable def o208 (P : Params) : Obj := ⟨(.type "tuple"), none, (.seq #[] 0), #[]⟩
noncomputable def o209 (P : Params) : Obj := ⟨.none, none, (.fields #[]), #[]⟩
noncomputable def o210 (P : Params) : Obj := ⟨(.type "tuple"), none, (.seq #[(.str "resp" 445), (.str "dirname" 446), (.str "i" 447), (.str "n" 448), (.str "c" 449)] 0), #[]⟩
noncomputable def o211 (P : Params) : Obj := ⟨(.type "tuple"), none, (.seq #[] 0), #[]⟩
noncomputable def o212 (P : Params) : Obj := preFn (top 9) "parse257" #[]
noncomputable def o213 (P : Params) : Obj := ⟨(.type "code"), none, (.fields #[(.str "parse257" 442), (.str "parse257" 443), (.str "/claim/cut.py" 444), (.int 114 0), (.int 1 0), (.int 0 0), (.int 0 0), (.int 3 0), (.ref 208), (.bool true), (.int 181 0), (.ref 209), .none, (.ref 210), (.ref 211), (.ref 212), (.int 450 0), (.int 114 0), (.str "/claim/cut.py" 451)]), #[]⟩
noncomputable def o214 : Obj := (fun (o : Obj) (_ : mkFn (top 9) "parse257" 3 [] .none .none .none (.str "cpy313.ftplib" 404) (.ref 213) .none = o) => o) _ (by (conv => lhs; whnf))
noncomputable def objs10 (P : Params) : List Obj := [boot_o_0 P, boot_o_1 P, o2 P, o3_10 P, boot_o_4 P, boot_o_5 P, boot_o_6 P, boot_o_7 P, boot_o_8 P, boot_o_9 P, boot_o_10 P, o11 P, o12_10 P, o13 P, o14 P, o15 P, o16 P, o17 P, o18 P, o19 P, o20 P, o21, o22 P, o23 P, o24 P, o25 P, o26 P, o27 P, o28 P, o29 P, o30 P, o31 P, o32 P, o33 P, o34 P, o35, o36 P, o37 P, o38 P, o39 P, o40 P, o41 P, o42, o43 P, o44 P, o45 P, o46 P, o47 P, o48 P, o49, o50 P, o51 P, o52 P, o53 P, o54 P, o55 P, o56, o57 P, o58 P, o59 P, o60 P, o61 P, o62 P, o63, o64 P, o65 P, o66 P, o67 P, o68 P, o69 P, o70, o71 P, o72 P, o73 P, o74 P, o75 P, o76 P, o77, o78 P, o79 P, o80 P, o81 P, o82 P, o83 P, o84, o85 P, o86 P, o87 P, o88 P, o89 P, o90 P, o91, o92 P, o93 P, o94 P, o95 P, o96 P, o97 P, o98 P, o99 P, o100 P, o101 P, o102 P, o103 P, o104 P, o105 P, o106 P, o107 P, o108 P, o109 P, o110 P, o111 P, o112 P, o113 P, o114 P, o115, o116 P, o117 P, o118 P, o119 P, o120 P, o121 P, o122, o123 P, o124 P, o125 P, o126 P, o127 P, o128 P, o129 P, o130, o131 P, o132 P, o133 P, o134 P, o135 P, o136 P, o137 P, o138, o139 P, o140 P, o141 P, o142 P, o143 P, o144 P, o145, o146 P, o147 P, o148 P, o149 P, o150 P, o151 P, o152, o153 P, o154 P, o155 P, o156 P, o157 P, o158 P, o159 P, o160, o161 P, o162 P, o163 P, o164 P, o165 P, o166 P, o167, o168 P, o169 P, o170 P, o171 P, o172 P, o173 P, o174 P, o175, o176 P, o177 P, o178 P, o179 P, o180 P, o181 P, o182 P, o183 P, o184 P, o185 P, o186 P, o187 P, o188 P, o189 P, o190 P, o191 P, o192 P, o193 P, o194 P, o195 P, o196 P, o197 P, o198 P, o199 P, o200 P, o201 P, o202 P, o203 P, o204 P, o205 P, o206 P, o207 P, o208 P, o209 P, o210 P, o211 P, o212 P, o213 P, o214]
noncomputable def o3_12 (P : Params) : Obj := ⟨(.type "dict"), none, (.dict #[⟨PyData.keyHash P "__name__", (.str "__name__" 165), (.str "cpy313.stringprep" 453)⟩, ⟨PyData.keyHash P "__doc__", (.str "__doc__" 166), .none⟩, ⟨PyData.keyHash P "__package__", (.str "__package__" 167), .none⟩, ⟨PyData.keyHash P "__loader__", (.str "__loader__" 168), (.builtin "__main__.__loader__#opaque")⟩, ⟨PyData.keyHash P "__spec__", (.str "__spec__" 169), .none⟩, ⟨PyData.keyHash P "__annotations__", (.str "__annotations__" 170), (.ref 6)⟩, ⟨PyData.keyHash P "__builtins__", (.str "__builtins__" 171), (.ref 4)⟩, ⟨PyData.keyHash P "__file__", (.str "__file__" 173), (.str "/claim/cut.py" 172)⟩, ⟨PyData.keyHash P "__cached__", (.str "__cached__" 174), .none⟩, ⟨PyData.keyHash P "_wall", (.str "_wall" 193), (.ref 21)⟩, ⟨PyData.keyHash P "NL", (.str "NL" 197), (.str "\n" 196)⟩, ⟨PyData.keyHash P "EMPTYSTRING", (.str "EMPTYSTRING" 199), (.str "" 198)⟩, ⟨PyData.keyHash P "_ValueFormatter", (.str "_ValueFormatter" 307), (.ref 94)⟩, ⟨PyData.keyHash P "_Accumulator", (.str "_Accumulator" 403), (.ref 178)⟩, ⟨PyData.keyHash P "Error", (.str "Error" 425), (.ref 192)⟩, ⟨PyData.keyHash P "error_reply", (.str "error_reply" 441), (.ref 205)⟩, ⟨PyData.keyHash P "parse257", (.str "parse257" 452), (.ref 214)⟩, ⟨PyData.keyHash P "b1_set", (.str "b1_set" 514), (.ref 222)⟩, ⟨PyData.keyHash P "in_table_b1", (.str "in_table_b1" 521), (.ref 232)⟩] 19), #[]⟩
noncomputable def o12_12 (P : Params) : Obj := ⟨.none, none, (.fields #[(.int 1 0), (.int 0 0), (.ref 20), (.int 7 0), (.int 0 0), (.ref 27), (.int 73 0), (.int 0 0), (.ref 105), (.int 110 0), (.int 0 0), (.ref 188), (.int 112 0), (.int 0 0), (.ref 201), (.int 114 0), (.int 0 0), (.ref 213), (.int 133 0), (.int 0 0), (.ref 231)]), #[]⟩
noncomputable def o215 (P : Params) : Obj := ⟨(.type "list"), none, (.seq #[(.int 173 455), (.int 847 456), (.int 6150 457), (.int 6155 458), (.int 6156 459), (.int 6157 460), (.int 8203 461), (.int 8204 462), (.int 8205 463), (.int 8288 464), (.int 65279 465)] 0), #[]⟩
noncomputable def o216 (P : Params) : Obj := ⟨(.type "range"), none, (.fields #[(.int 65024 466), (.int 65040 467), (.int 1 468)]), #[]⟩
noncomputable def o217 (P : Params) : Obj := ⟨(.type "list"), none, (.seq #[(.int 65024 471), (.int 65025 472), (.int 65026 473), (.int 65027 474), (.int 65028 475), (.int 65029 476), (.int 65030 477), (.int 65031 478), (.int 65032 479), (.int 65033 480), (.int 65034 481), (.int 65035 482), (.int 65036 483), (.int 65037 484), (.int 65038 485), (.int 65039 486)] 18), #[]⟩
noncomputable def o218 (P : Params) : Obj := ⟨(.type "range_iterator"), none, (.fields #[(.int 65040 0), (.int 0 0), (.int 1 0)]), #[]⟩
noncomputable def o219 (P : Params) : Obj := ⟨(.type "tuple"), none, (.seq #[] 0), #[]⟩
noncomputable def o220 (P : Params) : Obj := ⟨(.type "StopIteration"), none, (.fields #[(.ref 219), .none, .none, .none, (.bool false), .none]), #[]⟩
noncomputable def o221 (P : Params) : Obj := ⟨(.type "list"), none, (.seq #[(.int 173 455), (.int 847 456), (.int 6150 457), (.int 6155 458), (.int 6156 459), (.int 6157 460), (.int 8203 461), (.int 8204 462), (.int 8205 463), (.int 8288 464), (.int 65279 465), (.int 65024 471), (.int 65025 472), (.int 65026 473), (.int 65027 474), (.int 65028 475), (.int 65029 476), (.int 65030 477), (.int 65031 478), (.int 65032 479), (.int 65033 480), (.int 65034 481), (.int 65035 482), (.int 65036 483), (.int 65037 484), (.int 65038 485), (.int 65039 486)] 0), #[]⟩
noncomputable def o222 (P : Params) : Obj := ⟨(.type "set"), none, (.set #[(65024, (.int 65024 471)), (65025, (.int 65025 472)), (65026, (.int 65026 473)), (65027, (.int 65027 474)), (65028, (.int 65028 475)), (65029, (.int 65029 476)), (6150, (.int 6150 457)), (65030, (.int 65030 477)), (65031, (.int 65031 478)), (65032, (.int 65032 479)), (65033, (.int 65033 480)), (6155, (.int 6155 458)), (6156, (.int 6156 459)), (6157, (.int 6157 460)), (8203, (.int 8203 461)), (8204, (.int 8204 462)), (8205, (.int 8205 463)), (65034, (.int 65034 481)), (65035, (.int 65035 482)), (65036, (.int 65036 483)), (65037, (.int 65037 484)), (65038, (.int 65038 485)), (65039, (.int 65039 486)), (173, (.int 173 455)), (847, (.int 847 456)), (8288, (.int 8288 464)), (65279, (.int 65279 465))] 29 ⟨127, #[0, 1, 2, 3, 4, 5, 6, 7, 8, 9, 10, 11, 12, 13, 14, 15, 16, 17, 18, 19, 20, 21, 22, 45, 79, 96, 127], #[], 0, !(P.followText "set-order"), 2, true⟩), #[]⟩
noncomputable def o223 (P : Params) : Obj := ⟨(.type "list_iterator"), none, (.fields #[.none, (.int 27 0)]), #[]⟩
noncomputable def o224 (P : Params) : Obj := ⟨(.type "tuple"), none, (.seq #[] 0), #[]⟩
noncomputable def o225 (P : Params) : Obj := ⟨(.type "StopIteration"), none, (.fields #[(.ref 224), .none, .none, .none, (.bool false), .none]), #[]⟩
noncomputable def o226 (P : Params) : Obj := ⟨(.type "tuple"), none, (.seq #[] 0), #[]⟩
noncomputable def o227 (P : Params) : Obj := ⟨.none, none, (.fields #[]), #[]⟩
noncomputable def o228 (P : Params) : Obj := ⟨(.type "tuple"), none, (.seq #[(.str "code" 518)] 0), #[]⟩
noncomputable def o229 (P : Params) : Obj := ⟨(.type "tuple"), none, (.seq #[] 0), #[]⟩
noncomputable def o230 (P : Params) : Obj := preFn (top 12) "in_table_b1" #[]
noncomputable def o231 (P : Params) : Obj := ⟨(.type "code"), none, (.fields #[(.str "in_table_b1" 515), (.str "in_table_b1" 516), (.str "/claim/cut.py" 517), (.int 133 0), (.int 1 0), (.int 0 0), (.int 0 0), (.int 3 0), (.ref 226), (.bool true), (.int 181 0), (.ref 227), .none, (.ref 228), (.ref 229), (.ref 230), (.int 519 0), (.int 133 0), (.str "/claim/cut.py" 520)]), #[]⟩
noncomputable def o232 : Obj := (fun (o : Obj) (_ : mkFn (top 12) "in_table_b1" 3 [] .none .none .none (.str "cpy313.stringprep" 453) (.ref 231) .none = o) => o) _ (by (conv => lhs; whnf))
noncomputable def objs12 (P : Params) : List Obj := [boot_o_0 P, boot_o_1 P, o2 P, o3_12 P, boot_o_4 P, boot_o_5 P, boot_o_6 P, boot_o_7 P, boot_o_8 P, boot_o_9 P, boot_o_10 P, o11 P, o12_12 P, o13 P, o14 P, o15 P, o16 P, o17 P, o18 P, o19 P, o20 P, o21, o22 P, o23 P, o24 P, o25 P, o26 P, o27 P, o28 P, o29 P, o30 P, o31 P, o32 P, o33 P, o34 P, o35, o36 P, o37 P, o38 P, o39 P, o40 P, o41 P, o42, o43 P, o44 P, o45 P, o46 P, o47 P, o48 P, o49, o50 P, o51 P, o52 P, o53 P, o54 P, o55 P, o56, o57 P, o58 P, o59 P, o60 P, o61 P, o62 P, o63, o64 P, o65 P, o66 P, o67 P, o68 P, o69 P, o70, o71 P, o72 P, o73 P, o74 P, o75 P, o76 P, o77, o78 P, o79 P, o80 P, o81 P, o82 P, o83 P, o84, o85 P, o86 P, o87 P, o88 P, o89 P, o90 P, o91, o92 P, o93 P, o94 P, o95 P, o96 P, o97 P, o98 P, o99 P, o100 P, o101 P, o102 P, o103 P, o104 P, o105 P, o106 P, o107 P, o108 P, o109 P, o110 P, o111 P, o112 P, o113 P, o114 P, o115, o116 P, o117 P, o118 P, o119 P, o120 P, o121 P, o122, o123 P, o124 P, o125 P, o126 P, o127 P, o128 P, o129 P, o130, o131 P, o132 P, o133 P, o134 P, o135 P, o136 P, o137 P, o138, o139 P, o140 P, o141 P, o142 P, o143 P, o144 P, o145, o146 P, o147 P, o148 P, o149 P, o150 P, o151 P, o152, o153 P, o154 P, o155 P, o156 P, o157 P, o158 P, o159 P, o160, o161 P, o162 P, o163 P, o164 P, o165 P, o166 P, o167, o168 P, o169 P, o170 P, o171 P, o172 P, o173 P, o174 P, o175, o176 P, o177 P, o178 P, o179 P, o180 P, o181 P, o182 P, o183 P, o184 P, o185 P, o186 P, o187 P, o188 P, o189 P, o190 P, o191 P, o192 P, o193 P, o194 P, o195 P, o196 P, o197 P, o198 P, o199 P, o200 P, o201 P, o202 P, o203 P, o204 P, o205 P, o206 P, o207 P, o208 P, o209 P, o210 P, o211 P, o212 P, o213 P, o214, o215 P, o216 P, o217 P, o218 P, o219 P, o220 P, o221 P, o222 P, o223 P, o224 P, o225 P, o226 P, o227 P, o228 P, o229 P, o230 P, o231 P, o232]
noncomputable def o3_13 (P : Params) : Obj := ⟨(.type "dict"), none, (.dict #[⟨PyData.keyHash P "__name__", (.str "__name__" 165), (.str "cpy313.stringprep" 453)⟩, ⟨PyData.keyHash P "__doc__", (.str "__doc__" 166), .none⟩, ⟨PyData.keyHash P "__package__", (.str "__package__" 167), .none⟩, ⟨PyData.keyHash P "__loader__", (.str "__loader__" 168), (.builtin "__main__.__loader__#opaque")⟩, ⟨PyData.keyHash P "__spec__", (.str "__spec__" 169), .none⟩, ⟨PyData.keyHash P "__annotations__", (.str "__annotations__" 170), (.ref 6)⟩, ⟨PyData.keyHash P "__builtins__", (.str "__builtins__" 171), (.ref 4)⟩, ⟨PyData.keyHash P "__file__", (.str "__file__" 173), (.str "/claim/cut.py" 172)⟩, ⟨PyData.keyHash P "__cached__", (.str "__cached__" 174), .none⟩, ⟨PyData.keyHash P "_wall", (.str "_wall" 193), (.ref 21)⟩, ⟨PyData.keyHash P "NL", (.str "NL" 197), (.str "\n" 196)⟩, ⟨PyData.keyHash P "EMPTYSTRING", (.str "EMPTYSTRING" 199), (.str "" 198)⟩, ⟨PyData.keyHash P "_ValueFormatter", (.str "_ValueFormatter" 307), (.ref 94)⟩, ⟨PyData.keyHash P "_Accumulator", (.str "_Accumulator" 403), (.ref 178)⟩, ⟨PyData.keyHash P "Error", (.str "Error" 425), (.ref 192)⟩, ⟨PyData.keyHash P "error_reply", (.str "error_reply" 441), (.ref 205)⟩, ⟨PyData.keyHash P "parse257", (.str "parse257" 452), (.ref 214)⟩, ⟨PyData.keyHash P "b1_set", (.str "b1_set" 514), (.ref 222)⟩, ⟨PyData.keyHash P "in_table_b1", (.str "in_table_b1" 521), (.ref 232)⟩, ⟨PyData.keyHash P "b3_exceptions", (.str "b3_exceptions" 2472), (.ref 233)⟩] 20), #[]⟩
noncomputable def objs13 (P : Params) : List Obj := [boot_o_0 P, boot_o_1 P, o2 P, o3_13 P, boot_o_4 P, boot_o_5 P, boot_o_6 P, boot_o_7 P, boot_o_8 P, boot_o_9 P, boot_o_10 P, o11 P, o12_12 P, o13 P, o14 P, o15 P, o16 P, o17 P, o18 P, o19 P, o20 P, o21, o22 P, o23 P, o24 P, o25 P, o26 P, o27 P, o28 P, o29 P, o30 P, o31 P, o32 P, o33 P, o34 P, o35, o36 P, o37 P, o38 P, o39 P, o40 P, o41 P, o42, o43 P, o44 P, o45 P, o46 P, o47 P, o48 P, o49, o50 P, o51 P, o52 P, o53 P, o54 P, o55 P, o56, o57 P, o58 P, o59 P, o60 P, o61 P, o62 P, o63, o64 P, o65 P, o66 P, o67 P, o68 P, o69 P, o70, o71 P, o72 P, o73 P, o74 P, o75 P, o76 P, o77, o78 P, o79 P, o80 P, o81 P, o82 P, o83 P, o84, o85 P, o86 P, o87 P, o88 P, o89 P, o90 P, o91, o92 P, o93 P, o94 P, o95 P, o96 P, o97 P, o98 P, o99 P, o100 P, o101 P, o102 P, o103 P, o104 P, o105 P, o106 P, o107 P, o108 P, o109 P, o110 P, o111 P, o112 P, o113 P, o114 P, o115, o116 P, o117 P, o118 P, o119 P, o120 P, o121 P, o122, o123 P, o124 P, o125 P, o126 P, o127 P, o128 P, o129 P, o130, o131 P, o132 P, o133 P, o134 P, o135 P, o136 P, o137 P, o138, o139 P, o140 P, o141 P, o142 P, o143 P, o144 P, o145, o146 P, o147 P, o148 P, o149 P, o150 P, o151 P, o152, o153 P, o154 P, o155 P, o156 P, o157 P, o158 P, o159 P, o160, o161 P, o162 P, o163 P, o164 P, o165 P, o166 P, o167, o168 P, o169 P, o170 P, o171 P, o172 P, o173 P, o174 P, o175, o176 P, o177 P, o178 P, o179 P, o180 P, o181 P, o182 P, o183 P, o184 P, o185 P, o186 P, o187 P, o188 P, o189 P, o190 P, o191 P, o192 P, o193 P, o194 P, o195 P, o196 P, o197 P, o198 P, o199 P, o200 P, o201 P, o202 P, o203 P, o204 P, o205 P, o206 P, o207 P, o208 P, o209 P, o210 P, o211 P, o212 P, o213 P, o214, o215 P, o216 P, o217 P, o218 P, o219 P, o220 P, o221 P, o222 P, o223 P, o224 P, o225 P, o226 P, o227 P, o228 P, o229 P, o230 P, o231 P, o232, b3main, b3sub 1, b3sub 2, b3sub 3, b3sub 4, b3sub 5, b3sub 6, b3sub 7, b3sub 8, b3sub 9, b3sub 10, b3sub 11, b3sub 12, b3sub 13, b3sub 14, b3sub 15, b3sub 16, b3sub 17, b3sub 18, b3sub 19, b3sub 20, b3sub 21, b3sub 22, b3sub 23, b3sub 24, b3sub 25, b3sub 26, b3sub 27, b3sub 28, b3sub 29, b3sub 30, b3sub 31, b3sub 32, b3sub 33, b3sub 34, b3sub 35, b3sub 36, b3sub 37, b3sub 38]
noncomputable def o3 (P : Params) : Obj := ⟨(.type "dict"), none, (.dict #[⟨PyData.keyHash P "__name__", (.str "__name__" 165), (.str "law_xn0030_01" 2481)⟩, ⟨PyData.keyHash P "__doc__", (.str "__doc__" 166), .none⟩, ⟨PyData.keyHash P "__package__", (.str "__package__" 167), .none⟩, ⟨PyData.keyHash P "__loader__", (.str "__loader__" 168), (.builtin "__main__.__loader__#opaque")⟩, ⟨PyData.keyHash P "__spec__", (.str "__spec__" 169), .none⟩, ⟨PyData.keyHash P "__annotations__", (.str "__annotations__" 170), (.ref 6)⟩, ⟨PyData.keyHash P "__builtins__", (.str "__builtins__" 171), (.ref 4)⟩, ⟨PyData.keyHash P "__file__", (.str "__file__" 173), (.str "/claim/cut.py" 172)⟩, ⟨PyData.keyHash P "__cached__", (.str "__cached__" 174), .none⟩, ⟨PyData.keyHash P "_wall", (.str "_wall" 193), (.ref 21)⟩, ⟨PyData.keyHash P "NL", (.str "NL" 197), (.str "\n" 196)⟩, ⟨PyData.keyHash P "EMPTYSTRING", (.str "EMPTYSTRING" 199), (.str "" 198)⟩, ⟨PyData.keyHash P "_ValueFormatter", (.str "_ValueFormatter" 307), (.ref 94)⟩, ⟨PyData.keyHash P "_Accumulator", (.str "_Accumulator" 403), (.ref 178)⟩, ⟨PyData.keyHash P "Error", (.str "Error" 425), (.ref 192)⟩, ⟨PyData.keyHash P "error_reply", (.str "error_reply" 441), (.ref 205)⟩, ⟨PyData.keyHash P "parse257", (.str "parse257" 452), (.ref 214)⟩, ⟨PyData.keyHash P "b1_set", (.str "b1_set" 514), (.ref 222)⟩, ⟨PyData.keyHash P "in_table_b1", (.str "in_table_b1" 521), (.ref 232)⟩, ⟨PyData.keyHash P "b3_exceptions", (.str "b3_exceptions" 2472), (.ref 233)⟩, ⟨PyData.keyHash P "map_table_b3", (.str "map_table_b3" 2480), (.ref 278)⟩, ⟨PyData.keyHash P "_law_spelled", (.str "_law_spelled" 2497), (.ref 285)⟩, ⟨PyData.keyHash P "_law_folded", (.str "_law_folded" 2503), (.ref 290)⟩, ⟨PyData.keyHash P "_law_letter", (.str "_law_letter" 2512), (.ref 297)⟩, ⟨PyData.keyHash P "_law_grown", (.str "_law_grown" 2518), (.ref 302)⟩, ⟨PyData.keyHash P "_law_read", (.str "_law_read" 2524), (.ref 307)⟩, ⟨PyData.keyHash P "law", (.str "law" 2530), (.ref 312)⟩] 27), #[]⟩
noncomputable def o12 (P : Params) : Obj := ⟨.none, none, (.fields #[(.int 1 0), (.int 0 0), (.ref 20), (.int 7 0), (.int 0 0), (.ref 27), (.int 73 0), (.int 0 0), (.ref 105), (.int 110 0), (.int 0 0), (.ref 188), (.int 112 0), (.int 0 0), (.ref 201), (.int 114 0), (.int 0 0), (.ref 213), (.int 133 0), (.int 0 0), (.ref 231), (.int 136 0), (.int 0 0), (.ref 277), (.int 142 0), (.int 0 0), (.ref 284), (.int 157 0), (.int 0 0), (.ref 289), (.int 159 0), (.int 0 0), (.ref 296), (.int 165 0), (.int 0 0), (.ref 301), (.int 171 0), (.int 0 0), (.ref 306), (.int 176 0), (.int 0 0), (.ref 311)]), #[]⟩
noncomputable def o272 (P : Params) : Obj := ⟨(.type "tuple"), none, (.seq #[] 0), #[]⟩
noncomputable def o273 (P : Params) : Obj := ⟨.none, none, (.fields #[]), #[]⟩
noncomputable def o274 (P : Params) : Obj := ⟨(.type "tuple"), none, (.seq #[(.str "code" 2476), (.str "r" 2477)] 0), #[]⟩
noncomputable def o275 (P : Params) : Obj := ⟨(.type "tuple"), none, (.seq #[] 0), #[]⟩
noncomputable def o276 (P : Params) : Obj := preFn (top 14) "map_table_b3" #[]
noncomputable def o277 (P : Params) : Obj := ⟨(.type "code"), none, (.fields #[(.str "map_table_b3" 2473), (.str "map_table_b3" 2474), (.str "/claim/cut.py" 2475), (.int 136 0), (.int 1 0), (.int 0 0), (.int 0 0), (.int 3 0), (.ref 272), (.bool true), (.int 181 0), (.ref 273), .none, (.ref 274), (.ref 275), (.ref 276), (.int 2478 0), (.int 136 0), (.str "/claim/cut.py" 2479)]), #[]⟩
noncomputable def o278 : Obj := (fun (o : Obj) (_ : mkFn (top 14) "map_table_b3" 3 [] .none .none .none (.str "cpy313.stringprep" 453) (.ref 277) .none = o) => o) _ (by (conv => lhs; whnf))
noncomputable def o279 (P : Params) : Obj := ⟨(.type "tuple"), none, (.seq #[] 0), #[]⟩
noncomputable def o280 (P : Params) : Obj := ⟨.none, none, (.fields #[]), #[]⟩
noncomputable def o281 (P : Params) : Obj := ⟨(.type "tuple"), none, (.seq #[(.str "word" 2486), (.str "seed" 2487), (.str "starts" 2488), (.str "others" 2489), (.str "text" 2490), (.str "place" 2491), (.str "dice" 2492), (.str "great" 2493), (.str "drop" 2494)] 0), #[]⟩
noncomputable def o282 (P : Params) : Obj := ⟨(.type "tuple"), none, (.seq #[] 0), #[]⟩
noncomputable def o283 (P : Params) : Obj := preFn (top 16) "_law_spelled" #[]
noncomputable def o284 (P : Params) : Obj := ⟨(.type "code"), none, (.fields #[(.str "_law_spelled" 2483), (.str "_law_spelled" 2484), (.str "/claim/cut.py" 2485), (.int 142 0), (.int 2 0), (.int 0 0), (.int 0 0), (.int 3 0), (.ref 279), (.bool true), (.int 181 0), (.ref 280), .none, (.ref 281), (.ref 282), (.ref 283), (.int 2495 0), (.int 142 0), (.str "/claim/cut.py" 2496)]), #[]⟩
noncomputable def o285 : Obj := (fun (o : Obj) (_ : mkFn (top 16) "_law_spelled" 3 [] .none .none .none (.str "law_xn0030_01" 2481) (.ref 284) .none = o) => o) _ (by (conv => lhs; whnf))
noncomputable def o286 (P : Params) : Obj := ⟨(.type "tuple"), none, (.seq #[] 0), #[]⟩
noncomputable def o287 (P : Params) : Obj := ⟨.none, none, (.fields #[]), #[]⟩
noncomputable def o288 (P : Params) : Obj := preFn (top 17) "_law_folded" #[]
noncomputable def o289 (P : Params) : Obj := ⟨(.type "code"), none, (.fields #[(.str "_law_folded" 2498), (.str "_law_folded" 2499), (.str "/claim/cut.py" 2500), (.int 157 0), (.int 2 0), (.int 0 0), (.int 0 0), (.int 3 0), (.ref 286), (.bool true), (.int 181 0), (.ref 287), .none, .none, .none, (.ref 288), (.int 2501 0), (.int 157 0), (.str "/claim/cut.py" 2502)]), #[]⟩
noncomputable def o290 : Obj := (fun (o : Obj) (_ : mkFn (top 17) "_law_folded" 3 [] .none .none .none (.str "law_xn0030_01" 2481) (.ref 289) .none = o) => o) _ (by (conv => lhs; whnf))
noncomputable def o291 (P : Params) : Obj := ⟨(.type "tuple"), none, (.seq #[] 0), #[]⟩
noncomputable def o292 (P : Params) : Obj := ⟨.none, none, (.fields #[]), #[]⟩
noncomputable def o293 (P : Params) : Obj := ⟨(.type "tuple"), none, (.seq #[(.str "place" 2507), (.str "left" 2508), (.str "amount" 2509)] 0), #[]⟩
noncomputable def o294 (P : Params) : Obj := ⟨(.type "tuple"), none, (.seq #[] 0), #[]⟩
noncomputable def o295 (P : Params) : Obj := preFn (top 18) "_law_letter" #[]
noncomputable def o296 (P : Params) : Obj := ⟨(.type "code"), none, (.fields #[(.str "_law_letter" 2504), (.str "_law_letter" 2505), (.str "/claim/cut.py" 2506), (.int 159 0), (.int 1 0), (.int 0 0), (.int 0 0), (.int 3 0), (.ref 291), (.bool true), (.int 181 0), (.ref 292), .none, (.ref 293), (.ref 294), (.ref 295), (.int 2510 0), (.int 159 0), (.str "/claim/cut.py" 2511)]), #[]⟩
noncomputable def o297 : Obj := (fun (o : Obj) (_ : mkFn (top 18) "_law_letter" 3 [] .none .none .none (.str "law_xn0030_01" 2481) (.ref 296) .none = o) => o) _ (by (conv => lhs; whnf))
noncomputable def o298 (P : Params) : Obj := ⟨(.type "tuple"), none, (.seq #[] 0), #[]⟩
noncomputable def o299 (P : Params) : Obj := ⟨.none, none, (.fields #[]), #[]⟩
noncomputable def o300 (P : Params) : Obj := preFn (top 19) "_law_grown" #[]
noncomputable def o301 (P : Params) : Obj := ⟨(.type "code"), none, (.fields #[(.str "_law_grown" 2513), (.str "_law_grown" 2514), (.str "/claim/cut.py" 2515), (.int 165 0), (.int 2 0), (.int 0 0), (.int 0 0), (.int 3 0), (.ref 298), (.bool true), (.int 181 0), (.ref 299), .none, .none, .none, (.ref 300), (.int 2516 0), (.int 165 0), (.str "/claim/cut.py" 2517)]), #[]⟩
noncomputable def o302 : Obj := (fun (o : Obj) (_ : mkFn (top 19) "_law_grown" 3 [] .none .none .none (.str "law_xn0030_01" 2481) (.ref 301) .none = o) => o) _ (by (conv => lhs; whnf))
noncomputable def o303 (P : Params) : Obj := ⟨(.type "tuple"), none, (.seq #[] 0), #[]⟩
noncomputable def o304 (P : Params) : Obj := ⟨.none, none, (.fields #[]), #[]⟩
noncomputable def o305 (P : Params) : Obj := preFn (top 20) "_law_read" #[]
noncomputable def o306 (P : Params) : Obj := ⟨(.type "code"), none, (.fields #[(.str "_law_read" 2519), (.str "_law_read" 2520), (.str "/claim/cut.py" 2521), (.int 171 0), (.int 2 0), (.int 0 0), (.int 0 0), (.int 3 0), (.ref 303), (.bool true), (.int 181 0), (.ref 304), .none, .none, .none, (.ref 305), (.int 2522 0), (.int 171 0), (.str "/claim/cut.py" 2523)]), #[]⟩
noncomputable def o307 : Obj := (fun (o : Obj) (_ : mkFn (top 20) "_law_read" 3 [] .none .none .none (.str "law_xn0030_01" 2481) (.ref 306) .none = o) => o) _ (by (conv => lhs; whnf))
noncomputable def o308 (P : Params) : Obj := ⟨(.type "tuple"), none, (.seq #[] 0), #[]⟩
noncomputable def o309 (P : Params) : Obj := ⟨.none, none, (.fields #[]), #[]⟩
noncomputable def o310 (P : Params) : Obj := preFn (top 21) "law" #[]
noncomputable def o311 (P : Params) : Obj := ⟨(.type "code"), none, (.fields #[(.str "law" 2525), (.str "law" 2526), (.str "/claim/cut.py" 2527), (.int 176 0), (.int 1 0), (.int 0 0), (.int 0 0), (.int 3 0), (.ref 308), (.bool true), (.int 181 0), (.ref 309), .none, .none, .none, (.ref 310), (.int 2528 0), (.int 176 0), (.str "/claim/cut.py" 2529)]), #[]⟩
noncomputable def o312 : Obj := (fun (o : Obj) (_ : mkFn (top 21) "law" 3 [] .none .none .none (.str "law_xn0030_01" 2481) (.ref 311) .none = o) => o) _ (by (conv => lhs; whnf))
noncomputable def objsF (P : Params) : List Obj := [boot_o_0 P, boot_o_1 P, o2 P, o3 P, boot_o_4 P, boot_o_5 P, boot_o_6 P, boot_o_7 P, boot_o_8 P, boot_o_9 P, boot_o_10 P, o11 P, o12 P, o13 P, o14 P, o15 P, o16 P, o17 P, o18 P, o19 P, o20 P, o21, o22 P, o23 P, o24 P, o25 P, o26 P, o27 P, o28 P, o29 P, o30 P, o31 P, o32 P, o33 P, o34 P, o35, o36 P, o37 P, o38 P, o39 P, o40 P, o41 P, o42, o43 P, o44 P, o45 P, o46 P, o47 P, o48 P, o49, o50 P, o51 P, o52 P, o53 P, o54 P, o55 P, o56, o57 P, o58 P, o59 P, o60 P, o61 P, o62 P, o63, o64 P, o65 P, o66 P, o67 P, o68 P, o69 P, o70, o71 P, o72 P, o73 P, o74 P, o75 P, o76 P, o77, o78 P, o79 P, o80 P, o81 P, o82 P, o83 P, o84, o85 P, o86 P, o87 P, o88 P, o89 P, o90 P, o91, o92 P, o93 P, o94 P, o95 P, o96 P, o97 P, o98 P, o99 P, o100 P, o101 P, o102 P, o103 P, o104 P, o105 P, o106 P, o107 P, o108 P, o109 P, o110 P, o111 P, o112 P, o113 P, o114 P, o115, o116 P, o117 P, o118 P, o119 P, o120 P, o121 P, o122, o123 P, o124 P, o125 P, o126 P, o127 P, o128 P, o129 P, o130, o131 P, o132 P, o133 P, o134 P, o135 P, o136 P, o137 P, o138, o139 P, o140 P, o141 P, o142 P, o143 P, o144 P, o145, o146 P, o147 P, o148 P, o149 P, o150 P, o151 P, o152, o153 P, o154 P, o155 P, o156 P, o157 P, o158 P, o159 P, o160, o161 P, o162 P, o163 P, o164 P, o165 P, o166 P, o167, o168 P, o169 P, o170 P, o171 P, o172 P, o173 P, o174 P, o175, o176 P, o177 P, o178 P, o179 P, o180 P, o181 P, o182 P, o183 P, o184 P, o185 P, o186 P, o187 P, o188 P, o189 P, o190 P, o191 P, o192 P, o193 P, o194 P, o195 P, o196 P, o197 P, o198 P, o199 P, o200 P, o201 P, o202 P, o203 P, o204 P, o205 P, o206 P, o207 P, o208 P, o209 P, o210 P, o211 P, o212 P, o213 P, o214, o215 P, o216 P, o217 P, o218 P, o219 P, o220 P, o221 P, o222 P, o223 P, o224 P, o225 P, o226 P, o227 P, o228 P, o229 P, o230 P, o231 P, o232, b3main, b3sub 1, b3sub 2, b3sub 3, b3sub 4, b3sub 5, b3sub 6, b3sub 7, b3sub 8, b3sub 9, b3sub 10, b3sub 11, b3sub 12, b3sub 13, b3sub 14, b3sub 15, b3sub 16, b3sub 17, b3sub 18, b3sub 19, b3sub 20, b3sub 21, b3sub 22, b3sub 23, b3sub 24, b3sub 25, b3sub 26, b3sub 27, b3sub 28, b3sub 29, b3sub 30, b3sub 31, b3sub 32, b3sub 33, b3sub 34, b3sub 35, b3sub 36, b3sub 37, b3sub 38, o272 P, o273 P, o274 P, o275 P, o276 P, o277 P, o278, o279 P, o280 P, o281 P, o282 P, o283 P, o284 P, o285, o286 P, o287 P, o288 P, o289 P, o290, o291 P, o292 P, o293 P, o294 P, o295 P, o296 P, o297, o298 P, o299 P, o300 P, o301 P, o302, o303 P, o304 P, o305 P, o306 P, o307, o308 P, o309 P, o310 P, o311 P, o312]
def Kf (P : Params) : Frag := (nat_lit 2, o2 P) :: (nat_lit 3, o3 P) :: (nat_lit 15, o15 P) :: (nat_lit 17, o17 P) :: (nat_lit 18, o18 P) :: (nat_lit 20, o20 P) :: (nat_lit 21, o21) :: (nat_lit 29, o29 P) :: (nat_lit 31, o31 P) :: (nat_lit 32, o32 P) :: (nat_lit 34, o34 P) :: (nat_lit 35, o35) :: (nat_lit 36, o36 P) :: (nat_lit 38, o38 P) :: (nat_lit 39, o39 P) :: (nat_lit 41, o41 P) :: (nat_lit 42, o42) :: (nat_lit 43, o43 P) :: (nat_lit 45, o45 P) :: (nat_lit 46, o46 P) :: (nat_lit 48, o48 P) :: (nat_lit 49, o49) :: (nat_lit 50, o50 P) :: (nat_lit 52, o52 P) :: (nat_lit 53, o53 P) :: (nat_lit 55, o55 P) :: (nat_lit 56, o56) :: (nat_lit 57, o57 P) :: (nat_lit 59, o59 P) :: (nat_lit 60, o60 P) :: (nat_lit 62, o62 P) :: (nat_lit 63, o63) :: (nat_lit 64, o64 P) :: (nat_lit 66, o66 P) :: (nat_lit 67, o67 P) :: (nat_lit 69, o69 P) :: (nat_lit 70, o70) :: (nat_lit 71, o71 P) :: (nat_lit 73, o73 P) :: (nat_lit 74, o74 P) :: (nat_lit 76, o76 P) :: (nat_lit 77, o77) :: (nat_lit 78, o78 P) :: (nat_lit 80, o80 P) :: (nat_lit 81, o81 P) :: (nat_lit 83, o83 P) :: (nat_lit 84, o84) :: (nat_lit 85, o85 P) :: (nat_lit 87, o87 P) :: (nat_lit 88, o88 P) :: (nat_lit 90, o90 P) :: (nat_lit 91, o91) :: (nat_lit 92, o92 P) :: (nat_lit 93, o93 P) :: (nat_lit 94, o94 P) :: (nat_lit 95, o95 P) :: (nat_lit 96, o96 P) :: (nat_lit 99, o99 P) :: (nat_lit 102, o102 P) :: (nat_lit 107, o107 P) :: (nat_lit 108, o108 P) :: (nat_lit 109, o109 P) :: (nat_lit 111, o111 P) :: (nat_lit 112, o112 P) :: (nat_lit 114, o114 P) :: (nat_lit 115, o115) :: (nat_lit 116, o116 P) :: (nat_lit 118, o118 P) :: (nat_lit 119, o119 P) :: (nat_lit 121, o121 P) :: (nat_lit 122, o122) :: (nat_lit 123, o123 P) :: (nat_lit 124, o124 P) :: (nat_lit 126, o126 P) :: (nat_lit 127, o127 P) :: (nat_lit 129, o129 P) :: (nat_lit 130, o130) :: (nat_lit 131, o131 P) :: (nat_lit 132, o132 P) :: (nat_lit 134, o134 P) :: (nat_lit 135, o135 P) :: (nat_lit 137, o137 P) :: (nat_lit 138, o138) :: (nat_lit 139, o139 P) :: (nat_lit 141, o141 P) :: (nat_lit 142, o142 P) :: (nat_lit 144, o144 P) :: (nat_lit 145, o145) :: (nat_lit 146, o146 P) :: (nat_lit 148, o148 P) :: (nat_lit 149, o149 P) :: (nat_lit 151, o151 P) :: (nat_lit 152, o152) :: (nat_lit 153, o153 P) :: (nat_lit 154, o154 P) :: (nat_lit 156, o156 P) :: (nat_lit 157, o157 P) :: (nat_lit 159, o159 P) :: (nat_lit 160, o160) :: (nat_lit 161, o161 P) :: (nat_lit 163, o163 P) :: (nat_lit 164, o164 P) :: (nat_lit 166, o166 P) :: (nat_lit 167, o167) :: (nat_lit 168, o168 P) :: (nat_lit 169, o169 P) :: (nat_lit 171, o171 P) :: (nat_lit 172, o172 P) :: (nat_lit 174, o174 P) :: (nat_lit 175, o175) :: (nat_lit 176, o176 P) :: (nat_lit 177, o177 P) :: (nat_lit 178, o178 P) :: (nat_lit 179, o179 P) :: (nat_lit 180, o180 P) :: (nat_lit 183, o183 P) :: (nat_lit 190, o190 P) :: (nat_lit 191, o191 P) :: (nat_lit 192, o192 P) :: (nat_lit 193, o193 P) :: (nat_lit 196, o196 P) :: (nat_lit 203, o203 P) :: (nat_lit 204, o204 P) :: (nat_lit 205, o205 P) :: (nat_lit 208, o208 P) :: (nat_lit 210, o210 P) :: (nat_lit 211, o211 P) :: (nat_lit 213, o213 P) :: (nat_lit 214, o214) :: (nat_lit 222, o222 P) :: (nat_lit 226, o226 P) :: (nat_lit 228, o228 P) :: (nat_lit 229, o229 P) :: (nat_lit 231, o231 P) :: (nat_lit 232, o232) :: (nat_lit 233, b3main) :: (nat_lit 272, o272 P) :: (nat_lit 274, o274 P) :: (nat_lit 275, o275 P) :: (nat_lit 277, o277 P) :: (nat_lit 278, o278) :: (nat_lit 279, o279 P) :: (nat_lit 281, o281 P) :: (nat_lit 282, o282 P) :: (nat_lit 284, o284 P) :: (nat_lit 285, o285) :: (nat_lit 286, o286 P) :: (nat_lit 289, o289 P) :: (nat_lit 290, o290) :: (nat_lit 291, o291 P) :: (nat_lit 293, o293 P) :: (nat_lit 294, o294 P) :: (nat_lit 296, o296 P) :: (nat_lit 297, o297) :: (nat_lit 298, o298 P) :: (nat_lit 301, o301 P) :: (nat_lit 302, o302) :: (nat_lit 303, o303 P) :: (nat_lit 306, o306 P) :: (nat_lit 307, o307) :: (nat_lit 308, o308 P) :: (nat_lit 311, o311 P) :: (nat_lit 312, o312) :: []
def Kas : List Addr := [2, 3, 15, 17, 18, 20, 21, 29, 31, 32, 34, 35, 36, 38, 39, 41, 42, 43, 45, 46, 48, 49, 50, 52, 53, 55, 56, 57, 59, 60, 62, 63, 64, 66, 67, 69, 70, 71, 73, 74, 76, 77, 78, 80, 81, 83, 84, 85, 87, 88, 90, 91, 92, 93, 94, 95, 96, 99, 102, 107, 108, 109, 111, 112, 114, 115, 116, 118, 119, 121, 122, 123, 124, 126, 127, 129, 130, 131, 132, 134, 135, 137, 138, 139, 141, 142, 144, 145, 146, 148, 149, 151, 152, 153, 154, 156, 157, 159, 160, 161, 163, 164, 166, 167, 168, 169, 171, 172, 174, 175, 176, 177, 178, 179, 180, 183, 190, 191, 192, 193, 196, 203, 204, 205, 208, 210, 211, 213, 214, 222, 226, 228, 229, 231, 232, 233, 272, 274, 275, 277, 278, 279, 281, 282, 284, 285, 286, 289, 290, 291, 293, 294, 296, 297, 298, 301, 302, 303, 306, 307, 308, 311, 312]
def btGo : List Obj → Nat → BT → BT
  | [], _, t => t
  | o :: r, n, t => btGo r (n + 1) (t.ins n o)
def bt (l : List Obj) : BT := btGo l 0 .nil
def stT (l : Params → List Obj) (n toks : Nat) (w : World) (os : OsState) : SharedT := ⟨bt (l w.params), n, {}, #[], {}, toks, os⟩
def envM : Env := { scope := PySem.Challenge.pw_xn0030_01.main.scope, locals := mainNs, globals := mainNs, cells := [], code := .ref 13, frame := some 14 }
def codM : Code := .body (behindTheImports PySem.Challenge.pw_xn0030_01) envM
def segM (w : World) (n : Nat) (s : SharedT) (sts : List Stmt) (q : Pos) : Option (Flow × SharedT × Code × Pos) :=
  segRunT treeTable PySem.Challenge.pw_xn0030_01 w 11 (some (.ref 6)) 1 n s (piecesOf sts envM codM q [topFrame ⟨0, 0, 0, 0⟩])
def stsA : List Stmt := PySem.Challenge.pw_xn0030_01.main.body.take 6
def stsB : List Stmt := (PySem.Challenge.pw_xn0030_01.main.body.drop 6).take 5
def stsC : List Stmt := (PySem.Challenge.pw_xn0030_01.main.body.drop 11).take 2
def stsF : List Stmt := PySem.Challenge.pw_xn0030_01.main.body.drop 14
end
section
section
variable (p : Program) (w : World)
/-- n steps of the top's run, one after the other -/
def SG (n : Nat) (s : Shared) (t : Thread) (s' : Shared) (t' : Thread) : Prop := segGo treeTable p w 11 (some (.ref 6)) 1 n s t = some (s', t')
variable {p w}
theorem SG.nil {s : Shared} {t : Thread} : SG p w 0 s t s t := rfl
theorem SG.comp : ∀ {n m : Nat} {a b c : Shared} {t u v : Thread}, SG p w n a t b u → SG p w m b u c v → SG p w (n + m) a t c v
  | 0, m, a, b, c, t, u, v, h, k => by
    obtain ⟨rfl, rfl⟩ : a = b ∧ t = u := by simpa [SG, segGo] using h
    rw [Nat.zero_add]; exact k
  | n + 1, m, a, b, c, t, u, v, h, k => by
    rw [show n + 1 + m = n + m + 1 by omega]
    unfold SG segGo at h ⊢
    cases he : endAt 1 t with
    | some f => rw [he] at h; cases h
    | none =>
      rw [he] at h
      cases hk : stepOk 11 (some (.ref 6)) t with
      | false => rw [hk] at h; cases h
      | true =>
        rw [hk] at h
        cases hs : step (denote treeTable) p w a t with
        | halt o s₂ => rw [hs] at h; cases h
        | go s₂ t₂ => rw [hs] at h; exact SG.comp (n := n) h k
theorem SG.one {a b : Shared} {t u : Thread} (he : endAt 1 t = none) (hk : stepOk 11 (some (.ref 6)) t = true) (hs : step (denote treeTable) p w a t = .go b u) : SG p w 1 a t b u := by
  unfold SG segGo
  rw [he, hk, hs]; rfl
theorem SG.cons {m : Nat} {a b c : Shared} {t u v : Thread} (h : SG p w 1 a t b u) (k : SG p w m b u c v) : SG p w (m + 1) a t c v := by
  rw [Nat.add_comm]; exact h.comp k
variable (p w)
/-- a code that is called comes back in m steps -/
def CallR (m : Nat) (c : Code) (q : Pos) (s : Shared) (f : Flow) (s₁ : Shared) : Prop :=
  ∀ (k : Result → Sem Fin) (hd : Option Value) (g : Bool) (l : List Value) (code : Code) (pos : Pos) (kept : List Value) (B : List Frame), 1 ≤ B.length →
    SG p w m s ⟨denote treeTable c, c, q, .ret k hd g l code pos kept :: B⟩ s₁ ⟨k (.ok f), code, pos, B⟩
def W {α : Type} : Sem α → Pos → Shared → (Nat → α → Pos → Shared → Prop) → Prop
  | .pure a, q, s, K => K 0 a q s
  | .rule _ k, q, s, K => W (k ()) q s fun n => K (n + 1)
  | .at q' k, _, s, K => W (k ()) q' s fun n => K (n + 1)
  | .load a _ k, q, s, K => ∃ o, s.heap.get? a = some o ∧ W (k o) q s fun n => K (n + 1)
  | .update a _ f k, q, s, K => (s.heap.get? a).isSome = true ∧ (11 ≤ a ∨ a = 3) ∧ W (k ()) q { s with heap := s.heap.update a f } fun n => K (n + 1)
  | .alloc o k, q, s, K => W (k s.heap.objs.size) q { s with heap := s.heap.push o } fun n => K (n + 1)
  | .point _ k, q, s, K => W (k ()) q s fun n => K (n + 1)
  | .fresh k, q, s, K => W (k s.toks) q { s with toks := s.toks + 1 } fun n => K (n + 1)
  | .ask k, q, s, K => W (k ⟨p, w.params⟩) q s fun n => K (n + 1)
  | .call c _ _ _ k, q, s, K => ∃ m f s₁, CallR p w m c q s f s₁ ∧ W (k (.ok f)) q s₁ fun n => K (n + (m + 1))
  | _, _, _, _ => False
variable {p w}
theorem W.mono {α : Type} : ∀ {t : Sem α} {q : Pos} {s : Shared} {K K' : Nat → α → Pos → Shared → Prop}, W p w t q s K → (∀ n a q s, K n a q s → K' n a q s) → W p w t q s K' := by
  intro t
  induction t with
  | pure a => intro q s K K' h hk; exact hk _ _ _ _ h
  | rule tg k ih => intro q s K K' h hk; exact ih () h fun n => hk (n + 1)
  | «at» q' k ih => intro q s K K' h hk; exact ih () h fun n => hk (n + 1)
  | load a pt k ih => intro q s K K' h hk; obtain ⟨o, e, h⟩ := h; exact ⟨o, e, ih o h fun n => hk (n + 1)⟩
  | update a pt f k ih => intro q s K K' h hk; obtain ⟨e, e2, h⟩ := h; exact ⟨e, e2, ih () h fun n => hk (n + 1)⟩
  | alloc o k ih => intro q s K K' h hk; exact ih _ h fun n => hk (n + 1)
  | point l k ih => intro q s K K' h hk; exact ih () h fun n => hk (n + 1)
  | fresh k ih => intro q s K K' h hk; exact ih _ h fun n => hk (n + 1)
  | ask k ih => intro q s K K' h hk; exact ih _ h fun n => hk (n + 1)
  | call c m g l k ih => intro q s K K' h hk; obtain ⟨mm, f, s₁, e, h⟩ := h; exact ⟨mm, f, s₁, e, ih _ h fun n => hk _⟩
  | _ => intro q s K K' h hk; cases h
theorem W.bind {α β : Type} {f : α → Sem β} : ∀ {t : Sem α} {q : Pos} {s : Shared} {K : Nat → β → Pos → Shared → Prop}, W p w t q s (fun n a q' s' => W p w (f a) q' s' fun n' => K (n' + n)) → W p w (t >>= f) q s K := by
  intro t
  induction t with
  | pure a => intro q s K h; exact h
  | rule tg k ih => intro q s K h; exact ih () h
  | «at» q' k ih => intro q s K h; exact ih () h
  | load a pt k ih => intro q s K h; obtain ⟨o, e, h⟩ := h; exact ⟨o, e, ih o h⟩
  | update a pt f k ih => intro q s K h; obtain ⟨e, e2, h⟩ := h; exact ⟨e, e2, ih () h⟩
  | alloc o k ih => intro q s K h; exact ih _ h
  | point l k ih => intro q s K h; exact ih () h
  | fresh k ih => intro q s K h; exact ih _ h
  | ask k ih => intro q s K h; exact ih _ h
  | call c m g l k ih =>
    intro q s K h
    obtain ⟨mm, f', s₁, e, h⟩ := h
    refine ⟨mm, f', s₁, e, ih _ (W.mono h fun n a q s h => W.mono h fun n' b q s h => ?_)⟩
    rw [Nat.add_assoc]; exact h
  | _ => intro q s K h; cases h
theorem W.keep {α : Type} {vs : List Value} : ∀ {t : Sem α} {q : Pos} {s : Shared} {K : Nat → α → Pos → Shared → Prop}, W p w t q s K → W p w (t.keep vs) q s K := by
  intro t
  induction t with
  | pure a => intro q s K h; exact h
  | rule tg k ih => intro q s K h; exact ih () h
  | «at» q' k ih => intro q s K h; exact ih () h
  | load a pt k ih => intro q s K h; obtain ⟨o, e, h⟩ := h; exact ⟨o, e, ih o h⟩
  | update a pt f k ih => intro q s K h; obtain ⟨e, e2, h⟩ := h; exact ⟨e, e2, ih () h⟩
  | alloc o k ih => intro q s K h; exact ih _ h
  | point l k ih => intro q s K h; exact ih () h
  | fresh k ih => intro q s K h; exact ih _ h
  | ask k ih => intro q s K h; exact ih _ h
  | call c m g l k ih => intro q s K h; obtain ⟨mm, f', s₁, e, h⟩ := h; exact ⟨mm, f', s₁, e, ih _ h⟩
  | _ => intro q s K h; cases h
theorem W.holding {α : Type} {vs : List Value} {t : Sem α} {q : Pos} {s : Shared} {K : Nat → α → Pos → Shared → Prop} (h : W p w t q s K) : W p w (holding vs t) q s K := by
  unfold PySem.holding
  split
  · exact h
  · exact h.keep
theorem W.onRaise {α : Type} {hd : Value → Sem Unit} : ∀ {t : Sem α} {q : Pos} {s : Shared} {K : Nat → α → Pos → Shared → Prop}, W p w t q s K → W p w (t.onRaise hd) q s K := by
  intro t
  induction t with
  | pure a => intro q s K h; exact h
  | rule tg k ih => intro q s K h; exact ih () h
  | «at» q' k ih => intro q s K h; exact ih () h
  | load a pt k ih => intro q s K h; obtain ⟨o, e, h⟩ := h; exact ⟨o, e, ih o h⟩
  | update a pt f k ih => intro q s K h; obtain ⟨e, e2, h⟩ := h; exact ⟨e, e2, ih () h⟩
  | alloc o k ih => intro q s K h; exact ih _ h
  | point l k ih => intro q s K h; exact ih () h
  | fresh k ih => intro q s K h; exact ih _ h
  | ask k ih => intro q s K h; exact ih _ h
  | call c m g l k ih => intro q s K h; obtain ⟨mm, f', s₁, e, h⟩ := h; exact ⟨mm, f', s₁, e, ih _ h⟩
  | _ => intro q s K h; cases h
theorem ends_none {α : Type} {B : List Frame} {c : Code} {q : Pos} {cur : Sem Fin} (h : ∀ x, cur ≠ .pure x) : endAt 1 ⟨cur, c, q, B⟩ = none := by
  unfold endAt
  cases (B.length == 1) <;> cases cur <;> first | rfl | (exfalso; exact h _ rfl)
theorem W.sound {α : Type} : ∀ {t : Sem α} {q : Pos} {s : Shared} {K : Nat → α → Pos → Shared → Prop}, W p w t q s K → ∃ n a q' s', K n a q' s' ∧
    ∀ (Kf : α → Sem Fin) (H : Value → Sem Fin) (gd : Bool → Bool) (lv : List Value → List Value) (code : Code) (B : List Frame), 1 ≤ B.length → SG p w n s ⟨t.wrap Kf H gd lv, code, q, B⟩ s' ⟨Kf a, code, q', B⟩ := by
  intro t
  induction t with
  | pure a => intro q s K h; exact ⟨0, a, q, s, h, fun _ _ _ _ _ _ _ => SG.nil⟩
  | rule tg k ih => intro q s K h; obtain ⟨n, a, q', s', hK, R⟩ := ih () h; exact ⟨n + 1, a, q', s', hK, fun Kf H gd lv code B hB => SG.cons (.one (ends_none (α := α) (fun _ e => nomatch e)) rfl rfl) (R Kf H gd lv code B hB)⟩
  | «at» q₁ k ih => intro q s K h; obtain ⟨n, a, q', s', hK, R⟩ := ih () h; exact ⟨n + 1, a, q', s', hK, fun Kf H gd lv code B hB => SG.cons (.one (ends_none (α := α) (fun _ e => nomatch e)) rfl rfl) (R Kf H gd lv code B hB)⟩
  | load a₁ pt k ih =>
    intro q s K h
    obtain ⟨o, e, h⟩ := h
    obtain ⟨n, a, q', s', hK, R⟩ := ih o h
    refine ⟨n + 1, a, q', s', hK, fun Kf H gd lv code B hB => SG.cons (.one (ends_none (α := α) (fun _ e => nomatch e)) rfl ?_) (R Kf H gd lv code B hB)⟩
    obtain ⟨hp, gs, d, tk, os⟩ := s
    simp only [Sem.wrap, step]
    rw [show hp.get? a₁ = some o from e]
  | update a₁ pt f k ih =>
    intro q s K h
    obtain ⟨e, e2, h⟩ := h
    obtain ⟨n, a, q', s', hK, R⟩ := ih () h
    refine ⟨n + 1, a, q', s', hK, fun Kf H gd lv code B hB => SG.cons (.one (ends_none (α := α) (fun _ e => nomatch e)) ?_ ?_) (R Kf H gd lv code B hB)⟩
    · show (true && (Nat.ble 11 a₁ || a₁ == mainNs || a₁ == cStatics || some (Value.ref 6) == some (Value.ref a₁))) = true
      rcases e2 with e2 | rfl
      · rw [Nat.ble_eq_true_of_le e2]; rfl
      · rfl
    · obtain ⟨hp, gs, d, tk, os⟩ := s
      simp only [Sem.wrap, step]
      rw [if_pos e]
  | alloc o k ih => intro q s K h; obtain ⟨n, a, q', s', hK, R⟩ := ih _ h; exact ⟨n + 1, a, q', s', hK, fun Kf H gd lv code B hB => SG.cons (.one (ends_none (α := α) (fun _ e => nomatch e)) rfl rfl) (R Kf H gd lv code B hB)⟩
  | point l k ih => intro q s K h; obtain ⟨n, a, q', s', hK, R⟩ := ih _ h; exact ⟨n + 1, a, q', s', hK, fun Kf H gd lv code B hB => SG.cons (.one (ends_none (α := α) (fun _ e => nomatch e)) rfl rfl) (R Kf H gd lv code B hB)⟩
  | fresh k ih => intro q s K h; obtain ⟨n, a, q', s', hK, R⟩ := ih _ h; exact ⟨n + 1, a, q', s', hK, fun Kf H gd lv code B hB => SG.cons (.one (ends_none (α := α) (fun _ e => nomatch e)) rfl rfl) (R Kf H gd lv code B hB)⟩
  | ask k ih => intro q s K h; obtain ⟨n, a, q', s', hK, R⟩ := ih _ h; exact ⟨n + 1, a, q', s', hK, fun Kf H gd lv code B hB => SG.cons (.one (ends_none (α := α) (fun _ e => nomatch e)) rfl rfl) (R Kf H gd lv code B hB)⟩
  | call c m g l k ih =>
    intro q s K h
    obtain ⟨mm, f, s₁, e, h⟩ := h
    obtain ⟨n, a, q', s', hK, R⟩ := ih _ h
    refine ⟨n + (mm + 1), a, q', s', hK, fun Kf H gd lv code B hB => ?_⟩
    rw [Nat.add_comm]
    exact SG.comp (SG.cons (.one (ends_none (α := α) (fun _ e => nomatch e)) rfl rfl) (e _ _ _ _ _ _ _ _ hB)) (R Kf H gd lv code B hB)
  | _ => intro q s K h; cases h
end
end
section
variable {p : Program} {w : World}
theorem W.pureR {α : Type} {a : α} {q : Pos} {s : Shared} {K : Nat → α → Pos → Shared → Prop} (h : K 0 a q s) : W p w (pure a) q s K := h
theorem W.neg {α : Type} {c : Prop} [Decidable c] {a b : Sem α} {q : Pos} {s : Shared} {K : Nat → α → Pos → Shared → Prop} (hc : ¬ c) (h : W p w b q s K) : W p w (if c then a else b) q s K := by rw [if_neg hc]; exact h
theorem W.pos {α : Type} {c : Prop} [Decidable c] {a b : Sem α} {q : Pos} {s : Shared} {K : Nat → α → Pos → Shared → Prop} (hc : c) (h : W p w a q s K) : W p w (if c then a else b) q s K := by rw [if_pos hc]; exact h
theorem hash_again (k : Int) (t : Tok) : denote treeTable (.call (.builtin "int.__hash__") ⟨[.int k t], []⟩) = .pure (.again (.builtin "int.__hash__" ⟨[.int k t], []⟩)) := by
  rw [PySem.W.Fast.te11892475500146522536, PySem.W.Fast.te14364793385576792824]
  kernel_rfl
theorem hash_tree (k : Int) (t : Tok) : denote treeTable (.builtin "int.__hash__" ⟨[.int k t], []⟩) = .fresh fun u => .pure (.done (.ret (.int (rawHash k) u))) := by
  show (match entryFor treeTable "int.__hash__" with | some b => b _ | none => unsupported ((withoutEnding? "int.__hash__" "#data").getD "int.__hash__")) = _
  rw [← table_eq_tree, entry_int_hash]
  rfl
theorem hash_ok (k : Int) (t : Tok) (B : List Frame) (c : Code) (q : Pos) : stepOk 11 (some (.ref 6)) ⟨.pure (.again (.builtin "int.__hash__" ⟨[.int k t], []⟩)), c, q, B⟩ = true := by
  have h : "int.__hash__".startsWith "lifetime." = false := by decide +kernel
  simp [stepOk, Thread.calm, Thread.atCollectorCode, Thread.yieldsInsideHandler, h]
theorem hash_call {k : Int} {t : Tok} {q : Pos} {s : Shared} : CallR p w 3 (.call (.builtin "int.__hash__") ⟨[.int k t], []⟩) q s (.ret (.int (rawHash k) s.toks)) { s with toks := s.toks + 1 } := by
  intro kk hd g l code pos kept B hB
  rw [hash_again]
  obtain ⟨b, B, rfl⟩ : ∃ b C, B = b :: C := by cases B with | nil => simp at hB | cons b C => exact ⟨b, C, rfl⟩
  refine SG.cons (.one rfl (hash_ok ..) rfl) ?_
  rw [hash_tree]
  exact SG.cons (.one rfl rfl rfl) (SG.cons (.one rfl rfl rfl) SG.nil)
theorem W.askB {β : Type} {f : Setting → Sem β} {q : Pos} {s : Shared} {K : Nat → β → Pos → Shared → Prop} (h : W p w (f ⟨p, w.params⟩) q s fun n => K (n + 1)) : W p w (ask >>= f) q s K := h
theorem pb {α β : Type} (a : α) (f : α → Sem β) : (pure a >>= f) = f a := rfl
theorem W.pyHash {k : Int} {t : Tok} {q : Pos} {s : Shared} {K : Nat → Int → Pos → Shared → Prop} (h : K 5 (hashInt k) q { s with toks := s.toks + 1 }) : W p w (PySem.pyHash (.int k t)) q s K := by
  have hr := rawHash_range k
  unfold PySem.pyHash pyHashByItsType
  have hv : [Value.int k t].any Value.onHeap = false := rfl
  have hl : specialOf (.int k t) "__hash__" = pure (some (.builtin "int.__hash__")) := slot_int_hash.lookup
  simp only [cRoomFor, hv, hl, pb, beq_builtin_none, Bool.false_eq_true, if_false, Option.isNone_some]
  refine W.bind ?_
  simp only [callSpecialIfBoundUnlessNone?, bindSpecialIfBound?, hl, pb, slot_int_hash.bind]
  have fin : ∀ (q : Pos) (s : Shared) (K : Nat → Option Value → Pos → Shared → Prop) (r : Sem Value), K 4 (some (.int (rawHash k) s.toks)) q { s with toks := s.toks + 1 } → W p w (if (Value.builtin "int.__hash__" == Value.none) = true then (r >>= fun v => pure (some v)) else (call (.builtin "int.__hash__") [.int k t] >>= fun v => pure (some v))) q s K := by
    intro q s K r hK
    simp only [builtin_beq_none, Bool.false_eq_true, if_false]
    exact ⟨3, _, _, hash_call, hK⟩
  have last : ∀ (q : Pos) (s : Shared) (K : Nat → Int → Pos → Shared → Prop), K 0 (hashInt k) q s → W p w (pyHashByItsType.reduced (rawHash k)) q s K := by
    intro q s K hK
    unfold pyHashByItsType.reduced
    rw [if_pos (by rw [decide_eq_true hr.1, decide_eq_true hr.2]; rfl)]
    exact hK
  refine W.holding (W.bind (W.askB ?_))
  split
  · refine W.pureR (fin _ _ _ _ ?_); exact last _ _ _ h
  · refine W.pureR (fin _ _ _ _ ?_); exact last _ _ _ h
end
section
variable {p : Program} {w : World}
theorem W.loadB {β : Type} {a : Addr} {pt : Option Value} {o : Obj} {f : Obj → Sem β} {q : Pos} {s : Shared} {K : Nat → β → Pos → Shared → Prop} (ho : s.heap.get? a = some o) (h : W p w (f o) q s fun n => K (n + 1)) : W p w (loadPart a pt >>= f) q s K := ⟨o, ho, h⟩
theorem W.ruleR {tg : String} {q : Pos} {s : Shared} {K : Nat → Unit → Pos → Shared → Prop} (h : K 1 () q s) : W p w (rule tg) q s K := h
theorem places_nil {es : Array DictEntry} {h : Int} (hn : ∀ e ∈ es, e.hash ≠ h) : placesWithHash es.size (fun i => es[i]?.map (·.hash)) h = [] := by
  unfold placesWithHash
  rw [List.filter_eq_nil_iff]
  intro i hi
  have hi' : i < es.size := by simpa using hi
  simp only [Array.getElem?_eq_getElem hi', Option.map_some, beq_iff_eq, Option.some.injEq]
  exact hn _ (Array.getElem_mem hi')
theorem W.dictFind {d : Addr} {c : Value} {dd : Option Addr} {es : Array DictEntry} {ep : Nat} {sl : Array (Option Value)} {k : Int} {t : Tok} {h : Int} {q : Pos} {s : Shared} {K : Nat → Option Nat → Pos → Shared → Prop}
    (ho : s.heap.get? d = some ⟨c, dd, .dict es ep, sl⟩) (hn : ∀ e ∈ es, e.hash ≠ h) (hK : K 1 none q s) : W p w (PySem.dictFind d (.int k t) h) q s K := by
  unfold PySem.dictFind
  refine W.holding ?_
  simp only [dictEntries]
  refine W.bind (W.loadB ho ?_)
  refine W.pureR ?_
  simp only [places_nil hn]
  exact hK
theorem W.updKeys {d : Addr} {c : Value} {dd : Option Addr} {es : Array DictEntry} {ep : Nat} {sl : Array (Option Value)} {f : Array DictEntry → Array DictEntry} {pt : Option Value} {q : Pos} {s : Shared} {K : Nat → Unit → Pos → Shared → Prop}
    (ho : s.heap.get? d = some ⟨c, dd, .dict es ep, sl⟩) (hd : 11 ≤ d) (hz : (f es).size ≤ sizeLine + 1) (hK : K 3 () q { s with heap := s.heap.update d (Obj.mapDictKeys f) }) : W p w (updateDictKeys d f pt) q s K := by
  unfold updateDictKeys
  refine W.loadB ho ?_
  refine ⟨by rw [ho]; rfl, .inl hd, ?_⟩
  show W p w (lookBehind d pt) q _ _
  unfold lookBehind
  refine W.loadB (o := ⟨c, dd, .dict (f es) (ep + 1), sl⟩) (Heap.get?_update_self _ ho rfl) ?_
  have : Data.pastItsLine (.dict (f es) (ep + 1)) = none := pastItsLine_dict hz
  simp only [this]
  exact hK
theorem W.setH {d : Addr} {c : Value} {dd : Option Addr} {es : Array DictEntry} {ep : Nat} {sl : Array (Option Value)} {k : Int} {t : Tok} {h : Int} {v : Value} {q : Pos} {s : Shared} {K : Nat → Unit → Pos → Shared → Prop}
    (ho : s.heap.get? d = some ⟨c, dd, .dict es ep, sl⟩) (hn : ∀ e ∈ es, e.hash ≠ h) (hd : 11 ≤ d) (hz : es.size ≤ sizeLine)
    (hK : K 5 () q { s with heap := s.heap.update d (Obj.mapDictKeys (·.push ⟨h, .int k t, v⟩)) }) : W p w (dictSetHashed d (.int k t) h v) q s K := by
  unfold dictSetHashed
  refine W.holding (W.bind (W.dictFind ho hn ?_))
  refine W.bind (W.ruleR ?_)
  exact W.updKeys ho hd (by simp only [Array.size_push]; omega) hK
theorem W.dset {d : Addr} {c : Value} {dd : Option Addr} {es : Array DictEntry} {ep : Nat} {sl : Array (Option Value)} {k : Int} {t : Tok} {v : Value} {q : Pos} {s : Shared} {K : Nat → Unit → Pos → Shared → Prop}
    (ho : s.heap.get? d = some ⟨c, dd, .dict es ep, sl⟩) (hn : ∀ e ∈ es, e.hash ≠ hashInt k) (hd : 11 ≤ d) (hz : es.size ≤ sizeLine)
    (hK : K 10 () q { s with heap := s.heap.update d (Obj.mapDictKeys (·.push ⟨hashInt k, .int k t, v⟩)), toks := s.toks + 1 }) : W p w (dictSet d (.int k t) v) q s K := by
  unfold dictSet
  refine W.holding (W.bind (W.pyHash ?_))
  exact W.setH (s := { s with toks := s.toks + 1 }) ho hn hd hz hK
theorem W.dput {d : Addr} {c : Value} {dd : Option Addr} {es : Array DictEntry} {ep : Nat} {sl : Array (Option Value)} {k : Int} {t : Tok} {h : Int} {v : Value} {q : Pos} {s : Shared} {K : Nat → Unit → Pos → Shared → Prop}
    (ho : s.heap.get? d = some ⟨c, dd, .dict es ep, sl⟩) (hn : ∀ e ∈ es, e.hash ≠ h) (hd : 11 ≤ d) (hz : es.size ≤ sizeLine)
    (hK : K 4 () q { s with heap := s.heap.update d (Obj.mapDictKeys (·.push ⟨h, .int k t, v⟩)) }) : W p w (dictPut d h (.int k t) v) q s K := by
  unfold dictPut
  refine W.bind (W.dictFind ho hn ?_)
  exact W.updKeys ho hd (by simp only [Array.size_push]; omega) hK
end
section
variable {p : Program} {w : World}
def hl (l : List Obj) : Heap := ⟨l.toArray, {}⟩
theorem hl_size (l : List Obj) : (hl l).objs.size = l.length := by simp [hl]
theorem hl_push (l : List Obj) (o : Obj) : (hl l).push o = hl (l ++ [o]) := by simp [hl, Heap.push]
theorem hl_upd (l : List Obj) (i : Nat) (f : Obj → Obj) : (hl l).update i f = hl (l.modify i f) := by simp [hl, Heap.update]
theorem hl_get {l : List Obj} {i : Nat} {es : List DictEntry} (h : l[i]? = some (dictAt es)) : (hl l).get? i = some (dictAt es) := by
  unfold Heap.get? hl
  rw [List.getElem?_toArray, h]; rfl
theorem dictAt_push (es : List DictEntry) (e : DictEntry) : Obj.mapDictKeys (·.push e) (dictAt es) = dictAt (es ++ [e]) := by
  simp [dictAt, Obj.mapDictKeys]
theorem mod_last (L : List Obj) (o : Obj) (f : Obj → Obj) : (L ++ [o]).modify L.length f = L ++ [f o] := by
  apply List.ext_getElem?
  intro i
  rw [List.getElem?_modify]
  by_cases h : i = L.length
  · subst h; simp
  · by_cases h2 : i < L.length
    · have e : ¬ L.length = i := fun e => h e.symm
      simp [List.getElem?_append_left h2, e]
    · have h3 : L.length < i := by omega
      rw [List.getElem?_eq_none (by simp; omega), List.getElem?_eq_none (by simp; omega)]; rfl
def itm (pos : Pos) (x : Int × Str) : Sem Value × Sem Value := (mkInt x.1, do let v ← mkText x.2; standAt pos; pure v)
theorem W.mkInt {i : Int} {q : Pos} {s : Shared} {K : Nat → Value → Pos → Shared → Prop} (h : K 1 (.int i s.toks) q { s with toks := s.toks + 1 }) : W p w (PySem.mkInt i) q s K := h
theorem W.itmV {pos : Pos} {x : Int × Str} {q : Pos} {s : Shared} {K : Nat → Value → Pos → Shared → Prop} (h : K 2 (.str x.2 s.toks) pos { s with toks := s.toks + 1 }) : W p w (itm pos x).2 q s K := h
theorem ents_cons (t st : Nat) (k : Int) (v : Str) (r : List (Int × Str)) : ents t st ((k, v) :: r) = ⟨k, .int k t, .str v (t + 1)⟩ :: ents (t + st) st r := rfl
theorem W.subLoop {pos : Pos} {L : List Obj} (hL : 11 ≤ L.length) : ∀ (ps : List (Int × Str)) (es : List DictEntry) (q : Pos) (s : Shared) (K : Nat → PUnit → Pos → Shared → Prop), s.heap = hl (L ++ [dictAt es]) → es.length + ps.length ≤ 1000 →
    (∀ x ∈ ps, hashInt x.1 = x.1) → (∀ e ∈ es, ∀ x ∈ ps, e.hash ≠ x.1) → ps.Pairwise (fun a b => a.1 ≠ b.1) →
    (∀ q', K (13 * ps.length) PUnit.unit q' { s with heap := hl (L ++ [dictAt (es ++ ents s.toks 3 ps)]), toks := s.toks + 3 * ps.length }) →
    W p w (forIn (ps.map (itm pos)) PUnit.unit fun x _ => match x with
      | (k, v) => do
        let kv ← k
        let vv ← PySem.holding [kv] v
        PySem.holding [kv, vv] (dictSet L.length kv vv)
        pure (ForInStep.yield PUnit.unit)) q s K
  | [], es, q, s, K, hs, hn, hh, hd, hp, h => by
    have := h q
    simp only [ents, List.append_nil, List.length_nil, Nat.mul_zero, Nat.add_zero] at this
    rw [← hs] at this
    exact this
  | (k, v) :: ps, es, q, s, K, hs, hn, hh, hd, hp, h => by
    rw [List.map_cons, List.forIn_cons]
    have hk : hashInt k = k := hh _ (.head _)
    have e1 : itm pos (k, v) = (PySem.mkInt k, do let x ← mkText v; standAt pos; pure x) := rfl
    rw [e1]
    refine W.bind (W.bind (W.mkInt ?_))
    refine W.bind (W.holding ?_)
    show W p w (itm pos (k, v)).2 q _ _
    refine W.itmV ?_
    refine W.bind (W.holding ?_)
    have hg : s.heap.get? L.length = some (dictAt es) := by rw [hs]; exact hl_get (by simp)
    refine W.dset (s := { s with toks := s.toks + 1 + 1 }) (es := es.toArray) (ep := es.length) hg (fun e he => ?_) hL (by simp only [List.size_toArray, sizeLine]; simp at hn; omega) ?_
    · rw [hk]; exact hd e (by simpa using he) _ (.head _)
    · rw [hk]
      refine W.pureR ?_
      have e2 : s.heap.update L.length (Obj.mapDictKeys fun x => x.push ⟨k, .int k s.toks, .str v (s.toks + 1)⟩) = hl (L ++ [dictAt (es ++ [⟨k, .int k s.toks, .str v (s.toks + 1)⟩])]) := by
        rw [hs, hl_upd, mod_last, dictAt_push]
      refine W.subLoop hL ps (es ++ [⟨k, .int k s.toks, .str v (s.toks + 1)⟩]) pos _ (fun n' => K (n' + 13)) e2 (by simp at hn ⊢; omega) (fun x hx => hh x (.tail _ hx)) (fun e he x hx => ?_) (List.pairwise_cons.mp hp).2 fun q' => ?_
      · rcases List.mem_append.mp he with he | he
        · exact hd e he x (.tail _ hx)
        · rw [List.mem_singleton.mp he]; exact (List.pairwise_cons.mp hp).1 x hx
      · have := h q'
        have e5 : es ++ ents s.toks 3 ((k, v) :: ps) = (es ++ [⟨k, .int k s.toks, .str v (s.toks + 1)⟩]) ++ ents (s.toks + 3) 3 ps := by rw [ents_cons]; simp
        rw [e5] at this
        have e3 : 13 * ((k, v) :: ps).length = 13 * ps.length + 13 := by simp; omega
        have e4 : s.toks + 3 * ((k, v) :: ps).length = s.toks + 1 + 1 + 1 + 3 * ps.length := by simp; omega
        rw [e3, e4] at this
        exact this
theorem W.allocB {β : Type} {o : Obj} {f : Addr → Sem β} {q : Pos} {s : Shared} {K : Nat → β → Pos → Shared → Prop} (h : W p w (f s.heap.objs.size) q { s with heap := s.heap.push o } fun n => K (n + 1)) : W p w (alloc o >>= f) q s K := h
/-- a written dict of more than fifteen pairs, built at the heap's end -/
theorem W.subLong {pos : Pos} {L : List Obj} (hL : 11 ≤ L.length) {ps : List (Int × Str)} {q : Pos} {s : Shared} {K : Nat → Addr → Pos → Shared → Prop} (hs : s.heap = hl L) (hn : 15 < ps.length) (hn2 : ps.length ≤ 1000)
    (hh : ∀ x ∈ ps, hashInt x.1 = x.1) (hp : ps.Pairwise (fun a b => a.1 ≠ b.1))
    (h : ∀ q', K (13 * ps.length + 2) L.length q' { s with heap := hl (L ++ [dictAt (ents s.toks 3 ps)]), toks := s.toks + 3 * ps.length }) :
    W p w (subDict (ps.map (itm pos))) q s K := by
  unfold subDict
  refine W.allocB ?_
  have e0 : s.heap.push { cls := .type "dict", data := .dict #[] } = hl (L ++ [dictAt []]) := by rw [hs, hl_push]; rfl
  have e1 : s.heap.objs.size = L.length := by rw [hs, hl_size]
  rw [e0, e1]
  refine W.bind (W.holding (W.neg (by simp; omega) ?_))
  refine W.bind (W.ruleR ?_)
  refine W.bind (W.subLoop hL ps [] q _ _ rfl (by simp; omega) hh (fun _ he => by cases he) hp fun q' => ?_)
  refine W.pureR (W.pureR ?_)
  have := h q'
  rw [show 13 * ps.length + 2 = 0 + (0 + 13 * ps.length + 1) + 1 by omega] at this
  exact this
end
section
variable {p : Program} {w : World}
def vals (t : Nat) : List (Int × Str) → List (Value × Value)
  | [] => []
  | (k, v) :: r => (.int k t, .str v (t + 1)) :: vals (t + 2) r
theorem W.evalP {pos : Pos} : ∀ (ps : List (Int × Str)) (q : Pos) (s : Shared) (K : Nat → List (Value × Value) → Pos → Shared → Prop),
    (∀ q', K (3 * ps.length) (vals s.toks ps) q' { s with toks := s.toks + 2 * ps.length }) → W p w (evalPairs (ps.map (itm pos))) q s K
  | [], q, s, K, h => h q
  | (k, v) :: ps, q, s, K, h => by
    rw [List.map_cons]
    show W p w (do
      let kv ← PySem.mkInt k
      let vv ← PySem.holding [kv] (itm pos (k, v)).2
      return (kv, vv) :: (← PySem.holding [kv, vv] (evalPairs (ps.map (itm pos))))) q s K
    refine W.bind (W.mkInt ?_)
    refine W.bind (W.holding (W.itmV ?_))
    refine W.bind (W.holding (W.evalP ps _ _ _ fun q' => ?_))
    refine W.pureR ?_
    have := h q'
    have e3 : 3 * ((k, v) :: ps).length = 0 + 3 * ps.length + 2 + 1 := by simp; omega
    have e4 : s.toks + 2 * ((k, v) :: ps).length = s.toks + 1 + 1 + 2 * ps.length := by simp; omega
    rw [e3, e4] at this
    exact this
theorem W.setLoop {L : List Obj} (hL : 11 ≤ L.length) : ∀ (ps : List (Int × Str)) (t : Nat) (es : List DictEntry) (q : Pos) (s : Shared) (K : Nat → PUnit → Pos → Shared → Prop), s.heap = hl (L ++ [dictAt es]) → es.length + ps.length ≤ 1000 →
    (∀ x ∈ ps, hashInt x.1 = x.1) → (∀ e ∈ es, ∀ x ∈ ps, e.hash ≠ x.1) → ps.Pairwise (fun a b => a.1 ≠ b.1) →
    (K (10 * ps.length) PUnit.unit q { s with heap := hl (L ++ [dictAt (es ++ ents t 2 ps)]), toks := s.toks + ps.length }) →
    W p w (forIn (vals t ps) PUnit.unit fun x _ => match x with
      | (k, v) => do
        dictSet L.length k v
        pure (ForInStep.yield PUnit.unit)) q s K
  | [], t, es, q, s, K, hs, hn, hh, hd, hp, h => by
    simp only [ents, List.append_nil, List.length_nil, Nat.mul_zero, Nat.add_zero] at h
    rw [← hs] at h
    exact h
  | (k, v) :: ps, t, es, q, s, K, hs, hn, hh, hd, hp, h => by
    have e0 : vals t ((k, v) :: ps) = (.int k t, .str v (t + 1)) :: vals (t + 2) ps := rfl
    rw [e0, List.forIn_cons]
    have hk : hashInt k = k := hh _ (.head _)
    have hg : s.heap.get? L.length = some (dictAt es) := by rw [hs]; exact hl_get (by simp)
    refine W.bind (W.bind ?_)
    refine W.dset (es := es.toArray) (ep := es.length) hg (fun e he => ?_) hL (by simp only [List.size_toArray, sizeLine]; simp at hn; omega) ?_
    · rw [hk]; exact hd e (by simpa using he) _ (.head _)
    · rw [hk]
      refine W.pureR ?_
      have e2 : s.heap.update L.length (Obj.mapDictKeys fun x => x.push ⟨k, .int k t, .str v (t + 1)⟩) = hl (L ++ [dictAt (es ++ [⟨k, .int k t, .str v (t + 1)⟩])]) := by
        rw [hs, hl_upd, mod_last, dictAt_push]
      refine W.setLoop hL ps (t + 2) (es ++ [⟨k, .int k t, .str v (t + 1)⟩]) q _ (fun n' => K (n' + 10)) e2 (by simp at hn ⊢; omega) (fun x hx => hh x (.tail _ hx)) (fun e he x hx => ?_) (List.pairwise_cons.mp hp).2 ?_
      · rcases List.mem_append.mp he with he | he
        · exact hd e he x (.tail _ hx)
        · rw [List.mem_singleton.mp he]; exact (List.pairwise_cons.mp hp).1 x hx
      · have e5 : es ++ ents t 2 ((k, v) :: ps) = (es ++ [⟨k, .int k t, .str v (t + 1)⟩]) ++ ents (t + 2) 2 ps := by rw [ents_cons]; simp
        have e3 : 10 * ((k, v) :: ps).length = 10 * ps.length + 10 := by simp; omega
        have e4 : s.toks + ((k, v) :: ps).length = s.toks + 1 + ps.length := by simp; omega
        rw [e5, e3, e4] at h
        exact h
theorem W.subShort {pos : Pos} {L : List Obj} (hL : 11 ≤ L.length) {ps : List (Int × Str)} {q : Pos} {s : Shared} {K : Nat → Addr → Pos → Shared → Prop} (hs : s.heap = hl L) (hn : ps.length ≤ 15)
    (hh : ∀ x ∈ ps, hashInt x.1 = x.1) (hp : ps.Pairwise (fun a b => a.1 ≠ b.1))
    (h : ∀ q', K (13 * ps.length + 1) L.length q' { s with heap := hl (L ++ [dictAt (ents s.toks 2 ps)]), toks := s.toks + 3 * ps.length }) :
    W p w (subDict (ps.map (itm pos))) q s K := by
  unfold subDict
  refine W.allocB ?_
  have e0 : s.heap.push { cls := .type "dict", data := .dict #[] } = hl (L ++ [dictAt []]) := by rw [hs, hl_push]; rfl
  have e1 : s.heap.objs.size = L.length := by rw [hs, hl_size]
  rw [e0, e1]
  refine W.bind (W.holding (W.pos (by simpa using hn) ?_))
  refine W.bind (W.evalP ps _ _ _ fun q' => ?_)
  refine W.holding (W.bind (W.setLoop hL ps s.toks [] q' _ _ rfl (by simp; omega) hh (fun _ he => by cases he) hp ?_))
  refine W.pureR (W.pureR ?_)
  have := h q'
  rw [show 13 * ps.length + 1 = 0 + (0 + 10 * ps.length + 3 * ps.length) + 1 by omega, show s.toks + 3 * ps.length = s.toks + 2 * ps.length + ps.length by omega] at this
  exact this
end
section
variable {p : Program} {w : World}
theorem set_mod {l : List Obj} {d : Nat} {o : Obj} (h : l[d]? = some o) (f : Obj → Obj) : l.modify d f = l.set d (f o) := by
  apply List.ext_getElem?
  intro i
  rw [List.getElem?_modify, List.getElem?_set]
  by_cases e : d = i
  · subst e
    obtain ⟨hl, e⟩ := List.getElem?_eq_some_iff.mp h
    simp [hl, e]
  · simp [e]
def IntEnts (S : List DictEntry) : Prop := ∀ e ∈ S, ∃ k t, e.key = .int k t
theorem W.mergeLoop {d a : Nat} (hda : d ≠ a) (hd : 11 ≤ d) {S : List DictEntry} (hS : IntEnts S) : ∀ (es : List DictEntry) (j : Nat) (l : List Obj) (E : List DictEntry) (q : Pos) (s : Shared) (K : Nat → PUnit → Pos → Shared → Prop),
    (∀ i : Nat, es[i]? = S[j + i]?) → s.heap = hl l → l[d]? = some (dictAt E) → l[a]? = some (dictAt S) → E.length + es.length ≤ 1000 →
    (∀ e ∈ E, ∀ x ∈ es, e.hash ≠ x.hash) → es.Pairwise (fun x y => x.hash ≠ y.hash) →
    K (6 * es.length) PUnit.unit q { s with heap := hl (l.set d (dictAt (E ++ es))) } →
    W p w (forIn (List.range' j es.length) PUnit.unit fun i __s => do
                  let __do_lift ← dictEntries a
                  match __do_lift[i]? with
                    | some e => do
                      PySem.holding [DictEntry.key e, DictEntry.val e] (dictPut d (DictEntry.hash e) (DictEntry.key e) (DictEntry.val e))
                      let __do_lift ← dictEpoch a
                      if (__do_lift != S.length) = true then do
                          unsupported "dict.changed-during-merge"
                          pure (ForInStep.yield PUnit.unit)
                        else pure (ForInStep.yield PUnit.unit)
                    | x => do
                      unsupported "dict.changed-during-merge"
                      pure (ForInStep.yield PUnit.unit)) q s K
  | [], j, l, E, q, s, K, hi, hs, hld, hla, hn, hne, hp, h => by
    have : l.set d (dictAt (E ++ [])) = l := by
      rw [List.append_nil]
      apply List.ext_getElem?
      intro i
      rw [List.getElem?_set]
      by_cases e : d = i
      · subst e
        obtain ⟨hl, e⟩ := List.getElem?_eq_some_iff.mp hld
        simp [hl, e]
      · simp [e]
    rw [this, ← hs] at h
    exact h
  | x :: es, j, l, E, q, s, K, hi, hs, hld, hla, hn, hne, hp, h => by
    rw [List.length_cons, List.range'_succ, List.forIn_cons]
    have hx : S[j]? = some x := by have := hi 0; simpa using this.symm
    obtain ⟨k, t, hk⟩ := hS x (List.mem_of_getElem? hx)
    have hga : s.heap.get? a = some (dictAt S) := by rw [hs]; exact hl_get hla
    have hgd : s.heap.get? d = some (dictAt E) := by rw [hs]; exact hl_get hld
    refine W.bind (W.bind ?_)
    simp only [dictEntries]
    refine W.loadB hga (W.pureR ?_)
    have e1 : S.toArray[j]? = some x := by rw [List.getElem?_toArray]; exact hx
    simp only [e1]
    refine W.bind (W.holding ?_)
    rw [hk]
    refine W.dput (es := E.toArray) (ep := E.length) hgd (fun e he => hne e (by simpa using he) x (.head _)) hd (by simp only [List.size_toArray, sizeLine]; simp at hn; omega) ?_
    have e2 : s.heap.update d (Obj.mapDictKeys fun y => y.push ⟨x.hash, .int k t, x.val⟩) = hl (l.set d (dictAt (E ++ [x]))) := by
      rw [hs, hl_upd, set_mod hld, dictAt_push]
      have : (⟨x.hash, .int k t, x.val⟩ : DictEntry) = x := by rw [← hk]
      rw [this]
    rw [e2]
    have hla' : (l.set d (dictAt (E ++ [x])))[a]? = some (dictAt S) := by rw [List.getElem?_set_ne hda]; exact hla
    have hld' : (l.set d (dictAt (E ++ [x])))[d]? = some (dictAt (E ++ [x])) := by
      rw [List.getElem?_set_self (List.getElem?_eq_some_iff.mp hld).1]
    simp only [dictEpoch]
    refine W.bind (W.loadB (hl_get hla') (W.pureR ?_))
    refine W.neg (by simp) (W.pureR ?_)
    refine W.mergeLoop hda hd hS es (j + 1) _ (E ++ [x]) q _ (fun n' => K (n' + 6)) (fun i => ?_) rfl hld' hla' (by simp at hn ⊢; omega) (fun e he y hy => ?_) (List.pairwise_cons.mp hp).2 ?_
    · have := hi (i + 1)
      rw [List.getElem?_cons_succ] at this
      rw [this]; congr 1; omega
    · rcases List.mem_append.mp he with he | he
      · exact hne e he y (.tail _ hy)
      · rw [List.mem_singleton.mp he]; exact (List.pairwise_cons.mp hp).1 y hy
    · have e5 : E ++ x :: es = (E ++ [x]) ++ es := by simp
      have e3 : 6 * (x :: es).length = 6 * es.length + 6 := by simp; omega
      rw [e5, e3] at h
      rw [List.set_set]
      exact h
end
section
variable {p : Program} {w : World}
theorem dict_sub : isSubtype (.type "dict") (.type "dict") = pure true := by rw [isSubtype_type]; kernel_rfl
theorem dict_iter : typeLookup (.type "dict") "__iter__" = pure (some (.builtin "dict.__iter__")) := by rw [typeLookup_type, builtinLookup_eq_fast]; kernel_rfl
theorem W.typeOfR {a : Nat} {o : Obj} {q : Pos} {s : Shared} {K : Nat → Value → Pos → Shared → Prop} (ho : s.heap.get? a = some o) (h : K 1 o.cls q s) : W p w (typeOf (.ref a)) q s K := ⟨o, ho, h⟩
theorem W.isDict {a : Nat} {es : List DictEntry} {q : Pos} {s : Shared} {K : Nat → Bool → Pos → Shared → Prop} (ho : s.heap.get? a = some (dictAt es)) (h : K 1 true q s) : W p w (isInstance (.ref a) (.type "dict")) q s K := by
  unfold isInstance
  refine W.bind (W.typeOfR ho ?_)
  have e1 : (dictAt es).cls = .type "dict" := rfl
  rw [e1, dict_sub]
  exact h
theorem W.iterDict {a : Nat} {es : List DictEntry} {q : Pos} {s : Shared} {K : Nat → Option Value → Pos → Shared → Prop} (ho : s.heap.get? a = some (dictAt es)) (h : K 1 (some (.builtin "dict.__iter__")) q s) : W p w (specialOf (.ref a) "__iter__") q s K := by
  unfold specialOf
  refine W.bind (W.typeOfR ho ?_)
  have e1 : (dictAt es).cls = .type "dict" := rfl
  rw [e1, dict_iter]
  exact h
theorem W.entsR {a : Nat} {es : List DictEntry} {q : Pos} {s : Shared} {K : Nat → Array DictEntry → Pos → Shared → Prop} (ho : s.heap.get? a = some (dictAt es)) (h : K 1 es.toArray q s) : W p w (dictEntries a) q s K := ⟨_, ho, h⟩
theorem W.epochR {a : Nat} {es : List DictEntry} {q : Pos} {s : Shared} {K : Nat → Nat → Pos → Shared → Prop} (ho : s.heap.get? a = some (dictAt es)) (h : K 1 es.length q s) : W p w (dictEpoch a) q s K := ⟨_, ho, h⟩
theorem W.merge {d a : Nat} (hda : d ≠ a) (hd : 11 ≤ d) (ha : 11 ≤ a) {S E : List DictEntry} (hS : IntEnts S) {l : List Obj} {q : Pos} {s : Shared} {K : Nat → Unit → Pos → Shared → Prop}
    (hs : s.heap = hl l) (hld : l[d]? = some (dictAt E)) (hla : l[a]? = some (dictAt S)) (hE : E ≠ []) (hn : E.length + S.length ≤ 1000)
    (hne : ∀ e ∈ E, ∀ x ∈ S, e.hash ≠ x.hash) (hp : S.Pairwise (fun x y => x.hash ≠ y.hash))
    (h : K (6 * S.length + 5) () q { s with heap := hl (l.set d (dictAt (E ++ S))) }) : W p w (mergeMapping d (.ref a) false) q s K := by
  have hga : s.heap.get? a = some (dictAt S) := by rw [hs]; exact hl_get hla
  have hgd : s.heap.get? d = some (dictAt E) := by rw [hs]; exact hl_get hld
  unfold mergeMapping
  dsimp only
  refine W.bind (W.isDict hga ?_)
  refine W.pos rfl (W.bind (W.iterDict hga ?_))
  refine W.bind (W.pureR ?_)
  have e1 : ((some (Value.builtin "dict.__iter__") : Option Value) == some (.builtin "dict.__iter__")) = true := by decide +kernel
  simp only [e1]
  refine W.neg (by simp [sysModules]; intro e; subst e; exact absurd ha (by decide)) ?_
  refine W.bind (W.entsR hgd ?_)
  have e2 : E.toArray.isEmpty = false := by simpa using hE
  simp only [e2]
  refine W.neg (by decide) ?_
  refine W.bind (W.entsR hga ?_)
  refine W.bind (W.epochR hga ?_)
  simp only [Bool.false_eq_true, if_false, List.size_toArray, List.range_eq_range']
  refine W.bind ?_
  have e3 : 6 * S.length + 5 = 0 + (6 * S.length + 1 + 1 + 1 + 1 + 1) := by omega
  rw [e3] at h
  exact W.mergeLoop hda hd hS S 0 l E q s _ (fun i => by rw [Nat.zero_add]) hs hld hla hn hne hp h
end
section
variable {p : Program} {w : World}
abbrev Pr := Sem Value × Sem Value
def im (pos : Pos) (x : Int × Str) : Option (Sem Value) × Sem Value := (some (itm pos x).1, (itm pos x).2)
def flush (run : List Pr) (main : Option Addr) : Sem (Option Addr) :=
  if run.isEmpty = true then pure main else
    match main with
    | none => do
      let a ← subDict run
      pure (some a)
    | some d => do
      let sub ← holding [Value.ref d] (subDict run)
      (holding [Value.ref d, Value.ref sub] (mergeMapping d (Value.ref sub) false)).onRaise fun x => do
          let _ ← holding [Value.ref d, x] (runValue (Code.builtin "proto.let_go" { }))
          pure ()
      pure (some d)
abbrev Bd := Option (Sem Value) × Sem Value → Option Addr × List Pr → Sem (ForInStep (Option Addr × List Pr))
def BdOk (f : Bd) : Prop := ∀ k v st, f (some k, v) st =
  (if ((st.2 ++ [(k, v)]).length == 17) = true then do
      let m ← flush (st.2 ++ [(k, v)]) st.1
      pure (ForInStep.yield (m, []))
    else pure (ForInStep.yield (st.1, st.2 ++ [(k, v)])))
theorem acc {f : Bd} (hf : BdOk f) {pos : Pos} (rest : List (Option (Sem Value) × Sem Value)) : ∀ (c : List (Int × Str)) (m : Option Addr) (run : List Pr), run.length + c.length < 17 →
    forIn (c.map (im pos) ++ rest) (m, run) f = forIn rest (m, run ++ c.map (itm pos)) f
  | [], m, run, h => by simp
  | x :: c, m, run, h => by
    rw [List.map_cons, List.cons_append, List.forIn_cons]
    have e : im pos x = (some (itm pos x).1, (itm pos x).2) := rfl
    rw [e, hf, if_neg (by simp at h ⊢; omega), pb]
    show forIn (c.map (im pos) ++ rest) (m, run ++ [itm pos x]) f = _
    rw [acc hf rest c m (run ++ [itm pos x]) (by simp at h ⊢; omega)]
    simp
theorem accF {f : Bd} (hf : BdOk f) {pos : Pos} (rest : List (Option (Sem Value) × Sem Value)) (c : List (Int × Str)) (m : Option Addr) (h : c.length = 17) :
    forIn (c.map (im pos) ++ rest) (m, []) f = (flush (c.map (itm pos)) m >>= fun m' => forIn rest (m', []) f) := by
  obtain ⟨c', x, rfl⟩ : ∃ c' x, c = c' ++ [x] := ⟨c.dropLast, c.getLast (by intro e; subst e; cases h), (List.dropLast_concat_getLast _).symm⟩
  have h' : c'.length = 16 := by simpa using h
  rw [List.map_append, List.append_assoc, acc hf _ c' m [] (by simp; omega)]
  rw [List.map_cons, List.map_nil, List.cons_append, List.nil_append, List.forIn_cons]
  have e : im pos x = (some (itm pos x).1, (itm pos x).2) := rfl
  rw [e, hf, if_pos (by simp [h'])]
  simp only [List.nil_append, List.map_append, List.map_cons, List.map_nil]
  rw [LawfulMonad.bind_assoc]
  rfl
theorem ents_len (st : Nat) : ∀ (ps : List (Int × Str)) (t : Nat), (ents t st ps).length = ps.length
  | [], _ => rfl
  | (k, v) :: r, t => by rw [ents_cons, List.length_cons, ents_len st r, List.length_cons]
theorem ents_hash (st : Nat) : ∀ (ps : List (Int × Str)) (t : Nat), (ents t st ps).map (·.hash) = ps.map (·.1)
  | [], _ => rfl
  | (k, v) :: r, t => by rw [ents_cons, List.map_cons, ents_hash st r, List.map_cons]
theorem ents_int (st : Nat) : ∀ (ps : List (Int × Str)) (t : Nat), IntEnts (ents t st ps)
  | [], _ => fun e he => by cases he
  | (k, v) :: r, t => fun e he => by
    rw [ents_cons] at he
    rcases List.mem_cons.mp he with rfl | he
    · exact ⟨k, t, rfl⟩
    · exact ents_int st r _ e he
theorem ents_pw {st t : Nat} {ps : List (Int × Str)} (h : ps.Pairwise (fun a b => a.1 ≠ b.1)) : (ents t st ps).Pairwise (fun x y => x.hash ≠ y.hash) := by
  rw [← List.pairwise_map (f := fun e : DictEntry => e.hash) (R := fun a b => a ≠ b), ents_hash, List.pairwise_map]
  exact h
theorem W.flush1 {L subs : List Obj} (hL : 11 ≤ L.length) {E S : List DictEntry} {run : List Pr} (hr : run.isEmpty = false) {n0 t' : Nat} {q : Pos} {s : Shared} {K : Nat → Option Addr → Pos → Shared → Prop}
    (hsub : ∀ K : Nat → Addr → Pos → Shared → Prop, (∀ q', K n0 (L ++ dictAt E :: subs).length q' { s with heap := hl ((L ++ dictAt E :: subs) ++ [dictAt S]), toks := t' }) → W p w (subDict run) q s K)
    (hS : IntEnts S) (hE : E ≠ []) (hn : E.length + S.length ≤ 1000) (hne : ∀ e ∈ E, ∀ x ∈ S, e.hash ≠ x.hash) (hp : S.Pairwise (fun x y => x.hash ≠ y.hash))
    (h : ∀ q', K (n0 + (6 * S.length + 5)) (some L.length) q' { s with heap := hl (L ++ dictAt (E ++ S) :: (subs ++ [dictAt S])), toks := t' }) :
    W p w (flush run (some L.length)) q s K := by
  unfold flush
  rw [if_neg (by rw [hr]; decide)]
  refine W.bind (W.holding (hsub _ fun q' => ?_))
  have hld : ((L ++ dictAt E :: subs) ++ [dictAt S])[L.length]? = some (dictAt E) := by simp
  have hla : ((L ++ dictAt E :: subs) ++ [dictAt S])[(L ++ dictAt E :: subs).length]? = some (dictAt S) := by simp
  refine W.bind (W.onRaise (W.holding (W.merge (by simp) hL (by simp; omega) hS rfl hld hla hE hn hne hp ?_)))
  refine W.pureR ?_
  have e : (((L ++ dictAt E :: subs) ++ [dictAt S]).set L.length (dictAt (E ++ S))) = L ++ dictAt (E ++ S) :: (subs ++ [dictAt S]) := by simp
  have e2 : n0 + (6 * S.length + 5) = 0 + (6 * S.length + 5) + n0 := by omega
  have := h q'
  rw [e2, ← e] at this
  exact this
def entsC : Nat → List (List (Int × Str)) → List DictEntry
  | _, [] => []
  | t, c :: cs => ents t 3 c ++ entsC (t + 51) cs
def subsC : Nat → List (List (Int × Str)) → List Obj
  | _, [] => []
  | t, c :: cs => dictAt (ents t 3 c) :: subsC (t + 51) cs
theorem W.outer {f : Bd} (hf : BdOk f) {pos : Pos} {L : List Obj} (hL : 11 ≤ L.length) (rest : List (Option (Sem Value) × Sem Value)) : ∀ (cs : List (List (Int × Str))) (E : List DictEntry) (subs : List Obj) (q : Pos) (s : Shared) (K : Nat → Option Addr × List Pr → Pos → Shared → Prop),
    s.heap = hl (L ++ dictAt E :: subs) → E ≠ [] → (∀ c ∈ cs, c.length = 17) → E.length + 17 * cs.length ≤ 1000 → (∀ c ∈ cs, ∀ x ∈ c, hashInt x.1 = x.1) →
    (E.map (·.hash) ++ cs.flatten.map (·.1)).Nodup →
    (∀ q', W p w (forIn rest (some L.length, []) f) q' { s with heap := hl (L ++ dictAt (E ++ entsC s.toks cs) :: (subs ++ subsC s.toks cs)), toks := s.toks + 51 * cs.length } fun n => K (n + 330 * cs.length)) →
    W p w (forIn (cs.flatten.map (im pos) ++ rest) (some L.length, []) f) q s K
  | [], E, subs, q, s, K, hs, hE, hc, hn, hh, hd, h => by
    have := h q
    simp only [entsC, subsC, List.append_nil, List.length_nil, Nat.mul_zero, Nat.add_zero] at this
    rw [← hs] at this
    exact this
  | c :: cs, E, subs, q, s, K, hs, hE, hc, hn, hh, hd, h => by
    rw [List.flatten_cons, List.map_append, List.append_assoc]
    have h17 := hc c (.head _)
    rw [accF hf _ c _ h17]
    rw [List.flatten_cons, List.map_append, ← List.append_assoc] at hd
    have hd1 := (List.nodup_append.mp hd).1
    have hd2 := List.nodup_append.mp hd1
    have hpc : c.Pairwise (fun a b => a.1 ≠ b.1) := by
      have := hd2.2.1
      rw [List.Nodup, List.pairwise_map] at this
      exact this
    have hcl : (c :: cs).length = cs.length + 1 := List.length_cons
    refine W.bind (W.flush1 (subs := subs) (S := ents s.toks 3 c) (t' := s.toks + 51) (n0 := 13 * 17 + 2) hL (by cases c with | nil => cases h17 | cons a b => rfl) (fun K hK => ?_) (ents_int _ _ _) hE (by rw [ents_len]; omega) (fun e he x hx => ?_) (ents_pw hpc) (fun q' => ?_))
    · refine W.subLong (by simp; omega) hs (by omega) (by omega) (hh c (.head _)) hpc fun q' => ?_
      rw [h17]
      exact hK q'
    · exact hd2.2.2 _ (List.mem_map.mpr ⟨e, he, rfl⟩) _ (by rw [← ents_hash 3 c s.toks]; exact List.mem_map.mpr ⟨x, hx, rfl⟩)
    · refine W.outer hf hL rest cs (E ++ ents s.toks 3 c) (subs ++ [dictAt (ents s.toks 3 c)]) q' _ _ rfl (by simp [hE]) (fun c hc' => hc c (.tail _ hc')) (by rw [List.length_append, ents_len]; omega) (fun c hc' => hh c (.tail _ hc')) (by rw [List.map_append, ents_hash]; exact hd) fun q'' => ?_
      have := h q''
      simp only [entsC, subsC, hcl] at this
      have e1 : s.toks + 51 * (cs.length + 1) = s.toks + 51 + 51 * cs.length := by omega
      have e2 : (fun n => K (n + 330 * (cs.length + 1))) = fun n => K (n + 330 * cs.length + (13 * 17 + 2 + (6 * (ents s.toks 3 c).length + 5))) := by
        funext n; rw [ents_len, h17]; congr 1
      rw [e1, e2] at this
      simpa using this
end
section
variable {p : Program} {w : World}
theorem W.flush0 {run : List Pr} (hr : run.isEmpty = false) {q : Pos} {s : Shared} {K : Nat → Option Addr → Pos → Shared → Prop}
    (h : W p w (subDict run) q s fun n a => K n (some a)) : W p w (flush run none) q s K := by
  unfold flush
  rw [if_neg (by rw [hr]; decide)]
  refine W.bind (h.mono fun n a q s hK => W.pureR ?_)
  rw [Nat.zero_add]; exact hK
theorem entsC_hash : ∀ (cs : List (List (Int × Str))) (t : Nat), (entsC t cs).map (·.hash) = cs.flatten.map (·.1)
  | [], _ => rfl
  | c :: cs, t => by
    show (ents t 3 c ++ entsC (t + 51) cs).map (·.hash) = _
    rw [List.map_append, ents_hash, entsC_hash cs, List.flatten_cons, List.map_append]
theorem flat_len : ∀ (cs : List (List (Int × Str))), (∀ c ∈ cs, c.length = 17) → cs.flatten.length = 17 * cs.length
  | [], _ => rfl
  | c :: cs, h => by
    rw [List.flatten_cons, List.length_append, h c (.head _), flat_len cs fun c hc => h c (.tail _ hc), List.length_cons]; omega
theorem W.disp {pos : Pos} {L : List Obj} (hL : 11 ≤ L.length) {c0 r : List (Int × Str)} {cs : List (List (Int × Str))} {q : Pos} {s : Shared} {K : Nat → Value → Pos → Shared → Prop}
    (hs : s.heap = hl L) (h0 : c0.length = 17) (hc : ∀ c ∈ cs, c.length = 17) (hr0 : 0 < r.length) (hr : r.length ≤ 15) (hn : 17 * cs.length ≤ 900)
    (hh : ∀ x ∈ c0 ++ (cs.flatten ++ r), hashInt x.1 = x.1) (hd : ((c0 ++ (cs.flatten ++ r)).map (·.1)).Nodup)
    (h : ∀ q', K (13 * 17 + 2 + 330 * cs.length + (13 * r.length + 1 + (6 * r.length + 5))) (.ref L.length) q'
      { s with heap := hl (L ++ dictAt ((ents s.toks 3 c0 ++ entsC (s.toks + 51) cs) ++ ents (s.toks + 51 + 51 * cs.length) 2 r) :: (subsC (s.toks + 51) cs ++ [dictAt (ents (s.toks + 51 + 51 * cs.length) 2 r)])), toks := s.toks + 51 + 51 * cs.length + 3 * r.length }) :
    W p w (dictDisplay ((c0 ++ (cs.flatten ++ r)).map (im pos))) q s K := by
  have hd3 : (c0.map (·.1)).Nodup ∧ ((cs.flatten ++ r).map (·.1)).Nodup ∧ ∀ a ∈ c0.map (·.1), ∀ b ∈ (cs.flatten ++ r).map (·.1), a ≠ b := by
    rw [List.map_append] at hd; exact List.nodup_append.mp hd
  have hd4 : (cs.flatten.map (·.1)).Nodup ∧ (r.map (·.1)).Nodup ∧ ∀ a ∈ cs.flatten.map (·.1), ∀ b ∈ r.map (·.1), a ≠ b := by
    have := hd3.2.1
    rw [List.map_append] at this; exact List.nodup_append.mp this
  have pw : ∀ {c : List (Int × Str)}, (c.map (·.1)).Nodup → c.Pairwise (fun a b => a.1 ≠ b.1) := by
    intro c h; rw [List.Nodup, List.pairwise_map] at h; exact h
  unfold dictDisplay
  dsimp only
  refine W.bind ?_
  rw [List.map_append, List.map_append]
  generalize hf : (fun (x : Option (Sem Value) × Sem Value) (__s : Option Addr × List Pr) => _) = f
  have hB : BdOk f := by subst hf; intro k v st; rfl
  clear hf
  rw [accF hB _ c0 _ h0]
  refine W.bind (W.flush0 (by cases c0 with | nil => cases h0 | cons a b => rfl) ?_)
  refine W.subLong hL hs (by omega) (by omega) (fun x hx => hh x (List.mem_append.mpr (.inl hx))) (pw hd3.1) fun q1 => ?_
  rw [h0]
  have hh2 : ∀ c ∈ cs, ∀ x ∈ c, hashInt x.1 = x.1 := fun c hcm x hx => hh x (List.mem_append.mpr (.inr (List.mem_append.mpr (.inl (List.mem_flatten.mpr ⟨c, hcm, hx⟩)))))
  refine W.outer hB hL _ cs (ents s.toks 3 c0) [] q1 _ _ rfl (fun e => by have := ents_len 3 c0 s.toks; rw [e, h0] at this; cases this) hc (by rw [ents_len]; omega) hh2 ?_ fun q2 => ?_
  · rw [ents_hash]
    refine List.nodup_append.mpr ⟨hd3.1, hd4.1, fun a ha b hb => hd3.2.2 a ha b ?_⟩
    rw [List.map_append]; exact List.mem_append.mpr (.inl hb)
  · have e := acc (pos := pos) hB [] r (some L.length) [] (by simp; omega)
    rw [List.append_nil] at e
    rw [e]
    refine W.pureR ?_
    refine W.bind ?_
    have hE2 : ents s.toks 3 c0 ++ entsC (s.toks + 51) cs ≠ [] := fun e => by
      have := congrArg List.length e
      rw [List.length_append, ents_len, h0] at this; simp at this
    have hEl : (ents s.toks 3 c0 ++ entsC (s.toks + 51) cs).map (·.hash) = (c0 ++ cs.flatten).map (·.1) := by
      rw [List.map_append, List.map_append, ents_hash, entsC_hash]
    have hlen : (ents s.toks 3 c0 ++ entsC (s.toks + 51) cs).length = 17 + cs.flatten.length := by
      have := congrArg List.length hEl
      rw [List.length_map, List.length_map] at this
      rw [this, List.length_append, h0]
    have hcf : cs.flatten.length = 17 * cs.length := flat_len cs hc
    refine W.flush1 (subs := subsC (s.toks + 51) cs) (E := ents s.toks 3 c0 ++ entsC (s.toks + 51) cs) (S := ents (s.toks + 51 + 51 * cs.length) 2 r) (t' := s.toks + 51 + 51 * cs.length + 3 * r.length) (n0 := 13 * r.length + 1)
      hL (by cases r with | nil => cases hr0 | cons a b => rfl) (fun K hK => ?_) (ents_int _ _ _) hE2 (by rw [hlen, hcf, ents_len]; omega) (fun e he x hx => ?_) (ents_pw (pw hd4.2.1)) (fun q' => ?_)
    · refine W.subShort (by simp; omega) rfl hr (fun x hx => hh x (List.mem_append.mpr (.inr (List.mem_append.mpr (.inr hx))))) (pw hd4.2.1) fun q' => ?_
      exact hK q'
    · have h1 : e.hash ∈ (c0 ++ cs.flatten).map (·.1) := by rw [← hEl]; exact List.mem_map.mpr ⟨e, he, rfl⟩
      have h2 : x.hash ∈ r.map (·.1) := by rw [← ents_hash 2 r (s.toks + 51 + 51 * cs.length)]; exact List.mem_map.mpr ⟨x, hx, rfl⟩
      rw [List.map_append] at h1
      rcases List.mem_append.mp h1 with h1 | h1
      · exact hd3.2.2 _ h1 _ (by rw [List.map_append]; exact List.mem_append.mpr (.inr h2))
      · exact hd4.2.2 _ h1 _ h2
    · refine W.pureR ?_
      have := h q'
      rw [ents_len]
      have e : 0 + (13 * r.length + 1 + (6 * r.length + 5)) + (0 + 330 * cs.length + (13 * 17 + 2)) = 13 * 17 + 2 + 330 * cs.length + (13 * r.length + 1 + (6 * r.length + 5)) := by omega
      rw [← e] at this
      exact this
end
section
variable {w : World}
def exI : Option Expr → Int × Nat × Pos
  | some (.Constant (.int i) a p) => (i, a, p)
  | _ => (0, 0, ⟨0, 0, 0, 0⟩)
def exS : Expr → Str × Nat × Pos
  | .Constant (.str s) a p => (s, a, p)
  | _ => ("", 0, ⟨0, 0, 0, 0⟩)
def mkI (q : Int × Nat × Pos) : Option Expr := some (.Constant (.int q.1) q.2.1 q.2.2)
def mkS (q : Str × Nat × Pos) : Expr := .Constant (.str q.1) q.2.1 q.2.2
def prOf (ks : List (Option Expr)) (vs : List Expr) : List (Int × Str) := (ks.zip vs).map fun q => (litInt q.1, litStr q.2)
theorem good_map (env : Env) (pos : Pos) : ∀ (xs : List (Int × Nat × Pos)) (ys : List (Str × Nat × Pos)), xs.length = ys.length →
    (evalEachOpt (xs.map mkI) env).zip ((evalEach (ys.map mkS) env).map fun v => do let x ← v; standAt pos; pure x) = (prOf (xs.map mkI) (ys.map mkS)).map (im pos) := by
  intro xs
  induction xs with
  | nil => intro ys h; cases ys with
    | nil => rfl
    | cons y ys => cases h
  | cons x xs ih => intro ys h; cases ys with
    | nil => cases h
    | cons y ys =>
      have ih := ih ys (Nat.succ.inj h)
      show (some (mkInt x.1), (do let x ← mkText y.1; standAt pos; pure x : Sem Value)) :: ((evalEachOpt (xs.map mkI) env).zip ((evalEach (ys.map mkS) env).map fun v => do let x ← v; standAt pos; pure x)) = im pos (x.1, y.1) :: (prOf (xs.map mkI) (ys.map mkS)).map (im pos)
      rw [ih]; rfl
def ksD : List (Option Expr) := match top 13 with | .Assign _ (.Dict ks _ _) _ => ks | _ => []
def vsD : List Expr := match top 13 with | .Assign _ (.Dict _ vs _) _ => vs | _ => []
def posD : Pos := match top 13 with | .Assign _ (.Dict _ _ p) _ => p | _ => ⟨0, 0, 0, 0⟩
def posN : Pos := match top 13 with | .Assign (.Name _ p :: _) _ _ => p | _ => ⟨0, 0, 0, 0⟩
def posS : Pos := match top 13 with | .Assign _ _ p => p | _ => ⟨0, 0, 0, 0⟩
theorem stmt13 : top 13 = .Assign [.Name "b3_exceptions" posN] (.Dict ksD vsD posD) posS := by kernel_rfl
theorem goodK : ksD = (ksD.map exI).map mkI := by kernel_rfl
theorem goodV : vsD = (vsD.map exS).map mkS := by kernel_rfl
theorem goodL : (ksD.map exI).length = (vsD.map exS).length := by kernel_rfl
theorem goodKV (env : Env) (pos : Pos) : (evalEachOpt ksD env).zip ((evalEach vsD env).map fun v => do let x ← v; standAt pos; pure x) = (prOf ksD vsD).map (im pos) := by
  have h := good_map env pos (ksD.map exI) (vsD.map exS) goodL
  rw [← goodK, ← goodV] at h
  exact h
theorem prKV : prOf ksD vsD = b3pairs := by kernel_rfl
def midC : List (List (Int × Str)) := (List.range' 1 37).map chunk
theorem pairs_split : b3pairs = chunk 0 ++ (midC.flatten ++ chunk 38) := by kernel_rfl
theorem len0 : (chunk 0).length = 17 := by kernel_rfl
theorem lenR : (chunk 38).length = 4 := by kernel_rfl
theorem lenM : (midC.all fun c => c.length == 17) = true := by kernel_rfl
theorem lenMid : midC.length = 37 := by kernel_rfl
theorem hashD : (b3pairs.all fun x => hashInt x.1 == x.1) = true := by kernel_rfl
def asc : List (Int × Str) → Bool
  | [] => true
  | [_] => true
  | a :: b :: r => decide (a.1 < b.1) && asc (b :: r)
theorem ascD : asc b3pairs = true := by kernel_rfl
def entsD : List DictEntry := (ents 522 3 (chunk 0) ++ entsC (522 + 51) midC) ++ ents (522 + 51 + 51 * 37) 2 (chunk 38)
def subsD : List Obj := subsC (522 + 51) midC ++ [dictAt (ents (522 + 51 + 51 * 37) 2 (chunk 38))]
theorem entsD_eq : entsD = (List.range 39).flatMap chunkEnts := by kernel_rfl
theorem subsD_eq : subsD = (List.range' 1 38).map b3sub := by kernel_rfl
theorem store13 (P : Params) : (objs12 P ++ b3main :: (List.range' 1 38).map b3sub).modify 3 (Obj.putName "b3_exceptions" (PyData.keyHash P "b3_exceptions") (.str "b3_exceptions" 2472) (.ref 233)) = objs13 P := by kernel_rfl
theorem asc_pw : ∀ (l : List (Int × Str)), asc l = true → l.Pairwise (fun a b => a.1 < b.1)
  | [], _ => .nil
  | [a], _ => by simp
  | a :: b :: r, h => by
    simp only [asc, Bool.and_eq_true, decide_eq_true_eq] at h
    have ih := asc_pw (b :: r) h.2
    refine List.pairwise_cons.mpr ⟨fun c hc => ?_, ih⟩
    rcases List.mem_cons.mp hc with rfl | hc
    · exact h.1
    · have := (List.pairwise_cons.mp ih).1 c hc; omega
theorem nodupD : (b3pairs.map (·.1)).Nodup := by
  rw [List.Nodup, List.pairwise_map]
  exact (asc_pw _ ascD).imp fun h => by omega
theorem evalD : eval (.Dict ksD vsD posD) envM = (do standAt posD; dictDisplay ((chunk 0 ++ (midC.flatten ++ chunk 38)).map (im posD))) := by
  have e : eval (.Dict ksD vsD posD) envM = (do standAt posD; dictDisplay ((evalEachOpt ksD envM).zip ((evalEach vsD envM).map fun v => do let x ← v; standAt posD; pure x))) := rfl
  rw [e, goodKV envM posD, prKV, pairs_split]
theorem execD : exec (top 13) envM = (do
    standAt posS
    let v ← eval (.Dict ksD vsD posD) envM
    standAt posN
    bindName envM "b3_exceptions" v
    pure .next) := by
  rw [stmt13]
  exact exec_Assign_Name _ _ _ _ _ rfl
theorem execD2 : exec (top 13) envM = (do
    standAt posS
    let v ← (do standAt posD; dictDisplay ((chunk 0 ++ (midC.flatten ++ chunk 38)).map (im posD)))
    standAt posN
    bindName envM "b3_exceptions" v
    pure .next) := by rw [execD, evalD]
theorem storeD (v : Value) : storeName envM "b3_exceptions" v = nsSet 3 "b3_exceptions" v := by kernel_rfl
theorem W.standB {p : Program} {w : World} {β : Type} {pos : Pos} {f : Unit → Sem β} {q : Pos} {s : Shared} {K : Nat → β → Pos → Shared → Prop} (h : W p w (f ()) pos s fun n => K (n + 1)) : W p w (standAt pos >>= f) q s K := h
theorem mainD : dictAt ((ents 522 3 (chunk 0) ++ entsC (522 + 51) midC) ++ ents (522 + 51 + 51 * 37) 2 (chunk 38)) = b3main := by
  have := entsD_eq
  unfold entsD at this
  rw [this]; rfl
theorem subsD2 : subsC (522 + 51) midC ++ [dictAt (ents (522 + 51 + 51 * 37) 2 (chunk 38))] = (List.range' 1 38).map b3sub := subsD_eq
theorem abs12 (w : World) (os : OsState) : (stT objs12 233 522 w os).abs = ⟨hl (objs12 w.params), #[], {}, 522, os⟩ := by kernel_rfl
theorem abs13 (w : World) (os : OsState) : (stT objs13 272 2473 w os).abs = ⟨hl (objs13 w.params), #[], {}, 2473, os⟩ := by kernel_rfl
theorem len12 (P : Params) : (objs12 P).length = 233 := by kernel_rfl
theorem W.assignOne {p : Program} {w : World} {st : Stmt} {env : Env} {p1 p2 p3 : Pos} {D : Sem Value} {x : Str} (he : exec st env = (do
    standAt p1
    let v ← (do standAt p2; D)
    standAt p3
    bindName env x v
    pure .next)) {q : Pos} {s : Shared} {K : Nat → Flow → Pos → Shared → Prop}
    (h : W p w D p2 s fun n v q' s' => W p w (bindName env x v) p3 s' fun n' _ q'' s'' => K (n' + n + 3) .next q'' s'') : W p w (execs [st] env) q s K := by
  rw [execs_cons, he]
  refine W.bind (W.standB (W.bind (W.standB (h.mono fun n v q' s' h => W.standB (W.bind (h.mono fun n' u q'' s'' h => ?_))))))
  show K _ .next q'' s''
  have e : n' + n + 3 = 0 + (0 + n' + 1 + (n + 1) + 1) := by omega
  rw [e] at h
  exact h
theorem W.dispG {p : Program} {w : World} {pos : Pos} {L : List Obj} (hL : L.length = 233) {c0 r : List (Int × Str)} {cs : List (List (Int × Str))} {M : Obj} {subs : List Obj} {os : OsState} {q : Pos} {K : Nat → Value → Pos → Shared → Prop}
    (h0 : c0.length = 17) (hc : (cs.all fun c => c.length == 17) = true) (hr : r.length = 4) (hn : cs.length = 37)
    (hh : ((c0 ++ (cs.flatten ++ r)).all fun x => hashInt x.1 == x.1) = true) (hd : ((c0 ++ (cs.flatten ++ r)).map (·.1)).Nodup)
    (hM : dictAt ((ents 522 3 c0 ++ entsC (522 + 51) cs) ++ ents (522 + 51 + 51 * 37) 2 r) = M) (hS : subsC (522 + 51) cs ++ [dictAt (ents (522 + 51 + 51 * 37) 2 r)] = subs)
    (h : ∀ q', K (13 * 17 + 2 + 330 * 37 + (13 * 4 + 1 + (6 * 4 + 5))) (.ref 233) q' ⟨hl (L ++ M :: subs), #[], {}, 2472, os⟩) :
    W p w (dictDisplay ((c0 ++ (cs.flatten ++ r)).map (im pos))) q ⟨hl L, #[], {}, 522, os⟩ K := by
  refine W.disp (L := L) (by omega) rfl h0 (fun c hcm => by have := List.all_eq_true.mp hc c hcm; simpa using this) (by omega) (by omega) (by omega)
    (fun x hx => by have := List.all_eq_true.mp hh x hx; simpa using this) hd fun q' => ?_
  rw [hn, hr, hL]
  have := h q'
  rw [← hM, ← hS] at this
  exact this
theorem W.mkTx {p : Program} {w : World} {x : Str} {q : Pos} {s : Shared} {K : Nat → Value → Pos → Shared → Prop} (h : K 1 (.str x s.toks) q { s with toks := s.toks + 1 }) : W p w (mkText x) q s K := h
theorem W.bindG {p : Program} {w : World} {env : Env} {v : Value} (hst : storeName env "b3_exceptions" v = nsSet 3 "b3_exceptions" v) {L : List Obj} {t : Nat} {os : OsState} {q : Pos} {K : Nat → Unit → Pos → Shared → Prop}
    {c : Value} {d : Option Addr} {es : Array DictEntry} {n : Nat} {sl : Array (Option Value)} (hg : (hl L).get? 3 = some ⟨c, d, .dict es n, sl⟩) (hr : aRefKeyMayBeTheName "b3_exceptions" es = false)
    (h : K 6 () q ⟨hl (L.modify 3 (Obj.putName "b3_exceptions" (PyData.keyHash w.params "b3_exceptions") (.str "b3_exceptions" t) v)), #[], {}, t + 1, os⟩) :
    W p w (bindName env "b3_exceptions" v) q ⟨hl L, #[], {}, t, os⟩ K := by
  unfold bindName
  rw [hst]
  refine W.bind (W.holding ?_)
  show W p w (nsSet 3 "b3_exceptions" v >>= fun _ => point) q ⟨hl L, #[], {}, t, os⟩ fun n' => K (n' + 1)
  refine W.bind ?_
  unfold nsSet
  refine W.bind (W.askB (W.pureR ?_))
  refine W.bind (W.mkTx ?_)
  refine W.loadB (o := ⟨c, d, .dict es n, sl⟩) hg ?_
  dsimp only
  refine W.neg (by rw [hr]; decide) ?_
  refine ⟨by rw [hg]; rfl, .inr rfl, ?_⟩
  have e1 : (hl L).update 3 (Obj.putName "b3_exceptions" (PyData.keyHash w.params "b3_exceptions") (.str "b3_exceptions" t) v) = hl (L.modify 3 (Obj.putName "b3_exceptions" (PyData.keyHash w.params "b3_exceptions") (.str "b3_exceptions" t) v)) := hl_upd ..
  rw [← e1] at h
  exact h
/-- W, shut: the elaborator looks not into it -/
structure WX (p : Program) (w : World) {α : Type} (E : Sem α) (q : Pos) (s : Shared) (K : Nat → α → Pos → Shared → Prop) : Prop where
  out : W p w E q s K
theorem WX.stmtG {p : Program} {w : World} {st : Stmt} {env : Env} {p1 p2 p3 : Pos} {c0 r : List (Int × Str)} {cs : List (List (Int × Str))} (he : exec st env = (do
    standAt p1
    let v ← (do standAt p2; dictDisplay ((c0 ++ (cs.flatten ++ r)).map (im p2)))
    standAt p3
    bindName env "b3_exceptions" v
    pure .next)) (hst : ∀ v, storeName env "b3_exceptions" v = nsSet 3 "b3_exceptions" v)
    {L L' : List Obj} (hL : L.length = 233) {M : Obj} {subs : List Obj} {os : OsState} {q : Pos} {K : Nat → Flow → Pos → Shared → Prop}
    (h0 : c0.length = 17) (hc : (cs.all fun c => c.length == 17) = true) (hr : r.length = 4) (hn : cs.length = 37)
    (hh : ((c0 ++ (cs.flatten ++ r)).all fun x => hashInt x.1 == x.1) = true) (hd : ((c0 ++ (cs.flatten ++ r)).map (·.1)).Nodup)
    (hM : dictAt ((ents 522 3 c0 ++ entsC (522 + 51) cs) ++ ents (522 + 51 + 51 * 37) 2 r) = M) (hS : subsC (522 + 51) cs ++ [dictAt (ents (522 + 51 + 51 * 37) 2 r)] = subs)
    {c : Value} {d : Option Addr} {es : Array DictEntry} {n : Nat} {sl : Array (Option Value)} (hg : ∀ R, (hl (L ++ R)).get? 3 = some ⟨c, d, .dict es n, sl⟩) (hR : aRefKeyMayBeTheName "b3_exceptions" es = false)
    (hL' : (L ++ M :: subs).modify 3 (Obj.putName "b3_exceptions" (PyData.keyHash w.params "b3_exceptions") (.str "b3_exceptions" 2472) (.ref 233)) = L')
    {s0 s1 : Shared} (e0 : s0 = ⟨hl L, #[], {}, 522, os⟩) (e1 : s1 = ⟨hl L', #[], {}, 2473, os⟩)
    (h : K (13 * 17 + 2 + 330 * 37 + (13 * 4 + 1 + (6 * 4 + 5)) + 9) .next p3 s1) : WX p w (execs [st] env) q s0 K := by
  refine ⟨?_⟩
  rw [e1, ← hL'] at h
  rw [e0]
  refine W.assignOne he (W.dispG hL h0 hc hr hn hh hd hM hS fun q' => ?_)
  refine W.bindG (hst _) (hg _) hR ?_
  exact h
end
section
def es12 (P : Params) : Array DictEntry := match (o3_12 P).data with | .dict es _ => es | _ => #[]
def ep12 (P : Params) : Nat := match (o3_12 P).data with | .dict _ n => n | _ => 0
theorem hl_get3' (P : Params) (R : List Obj) : (hl (objs12 P ++ R)).get? 3 = some ⟨.type "dict", none, .dict (es12 P) (ep12 P), #[]⟩ := by kernel_rfl
theorem noRef' (P : Params) : aRefKeyMayBeTheName "b3_exceptions" (es12 P) = false := by kernel_rfl
theorem posN_eq : posN = ⟨135, 0, 135, 13⟩ := by kernel_rfl
theorem hashD' : ((chunk 0 ++ (midC.flatten ++ chunk 38)).all fun x => hashInt x.1 == x.1) = true := by rw [← pairs_split]; exact hashD
theorem nodupD' : ((chunk 0 ++ (midC.flatten ++ chunk 38)).map (·.1)).Nodup := by rw [← pairs_split]; exact nodupD
abbrev ND : Nat := 13 * 17 + 2 + 330 * 37 + (13 * 4 + 1 + (6 * 4 + 5)) + 9
def KD (w : World) (os : OsState) : Nat → Flow → Pos → Shared → Prop := fun n f q' s' => n = ND ∧ f = .next ∧ q' = posN ∧ s' = (stT objs13 272 2473 w os).abs
theorem KD_at (w : World) (os : OsState) : KD w os ND .next posN (stT objs13 272 2473 w os).abs := And.intro rfl (And.intro rfl (And.intro rfl rfl))
theorem WX.stmtD (w : World) (os : OsState) : WX PySem.Challenge.pw_xn0030_01 w (execs [top 13] envM) ⟨133, 0, 134, 30⟩ (stT objs12 233 522 w os).abs (KD w os) :=
  @WX.stmtG PySem.Challenge.pw_xn0030_01 w (top 13) envM posS posD posN (chunk 0) (chunk 38) midC execD2 storeD (objs12 w.params) (objs13 w.params) (len12 w.params) b3main ((List.range' 1 38).map b3sub) os ⟨133, 0, 134, 30⟩ (KD w os)
    len0 lenM lenR lenMid hashD' nodupD' mainD subsD2 (.type "dict") none (es12 w.params) (ep12 w.params) #[] (hl_get3' w.params) (noRef' w.params) (store13 w.params)
    (stT objs12 233 522 w os).abs (stT objs13 272 2473 w os).abs (abs12 w os) (abs13 w os) (KD_at w os)
theorem segEnd {p : Program} {w : World} {s : Shared} {c : Code} {q : Pos} {B : List Frame} (hB : B.length = 1) : segRun treeTable p w 11 (some (.ref 6)) 1 1 s ⟨doneF .next, c, q, B⟩ = some (.next, s, c, q) := by
  unfold segRun endAt
  rw [show ((⟨doneF .next, c, q, B⟩ : Thread).stack.length == 1) = true by show (B.length == 1) = true; rw [hB]; rfl]
theorem WX.seg {p : Program} {w : World} {E : Sem Flow} {N : Nat} {q q1 : Pos} {s s1 : Shared} {c : Code} {B : List Frame} (hB : B.length = 1) (h : WX p w E q s fun n f q' s' => n = N ∧ f = .next ∧ q' = q1 ∧ s' = s1) :
    segRun treeTable p w 11 (some (.ref 6)) 1 (N + 1) s ⟨E.wrap doneF deadEnd id id, c, q, B⟩ = some (.next, s1, c, q1) := by
  obtain ⟨n, a, q', s', ⟨rfl, rfl, rfl, rfl⟩, R⟩ := h.out.sound
  exact seg_go (R doneF deadEnd id id c B (by omega)) (segEnd hB)
theorem pD13 (w : World) (os : OsState) : segRun treeTable PySem.Challenge.pw_xn0030_01 w 11 (some (.ref 6)) 1 (ND + 1) (stT objs12 233 522 w os).abs ⟨(execs [top 13] envM).wrap doneF deadEnd id id, codM, ⟨133, 0, 134, 30⟩, [topFrame ⟨0, 0, 0, 0⟩]⟩ = some (.next, (stT objs13 272 2473 w os).abs, codM, posN) :=
  @WX.seg PySem.Challenge.pw_xn0030_01 w (execs [top 13] envM) ND ⟨133, 0, 134, 30⟩ posN (stT objs12 233 522 w os).abs (stT objs13 272 2473 w os).abs codM [topFrame ⟨0, 0, 0, 0⟩] (by exact rfl) (WX.stmtD w os)
theorem pD14 (w : World) (os : OsState) : segRun treeTable PySem.Challenge.pw_xn0030_01 w 11 (some (.ref 6)) 1 (ND + 1) (stT objs12 233 522 w os).abs (piecesOf [top 13] envM codM ⟨133, 0, 134, 30⟩ [topFrame ⟨0, 0, 0, 0⟩]) = some (.next, (stT objs13 272 2473 w os).abs, codM, ⟨135, 0, 135, 13⟩) := by
  have h := pD13 w os
  rw [posN_eq] at h
  exact h
end
section
theorem pA (w : World) : (fun os => segM w 1054 (stT objsB 15 187 w os) stsA ⟨0, 0, 0, 0⟩) = fun os => some (.next, stT objs5 183 404 w os, codM, ⟨73, 0, 108, 32⟩) := by
  unfold segM
  rw [PySem.W.Fast.te10110043849684766642, PySem.W.Fast.te14364793385576792824]
  kernel_rfl
noncomputable def stepB (w : World) : Prop := (fun os => segM w 461 (stT objs5 183 404 w os) stsB ⟨73, 0, 108, 32⟩) = fun os => some (.next, stT objs10 215 455 w os, codM, ⟨131, 0, 131, 8⟩)
theorem pB (w : World) : stepB w := by
  unfold stepB segM
  rw [PySem.W.Fast.te10110043849684766642, PySem.W.Fast.te14364793385576792824]
  kernel_rfl
noncomputable def stepC (w : World) : Prop := (fun os => segM w 1028 (stT objs10 215 455 w os) stsC ⟨131, 0, 131, 8⟩) = fun os => some (.next, stT objs12 233 522 w os, codM, ⟨133, 0, 134, 30⟩)
theorem pC_at (a b : Bool) (w : World) : stepC ((w.withFollow "set-order" a).withFollow "special-get-raises" b) := by
  unfold stepC segM
  rw [PySem.W.Fast.te10110043849684766642, PySem.W.Fast.te14364793385576792824]
  cases a <;> cases b <;> kernel_rfl
theorem pC (w : World) : stepC w :=
  byRow2 "special-get-raises" (P := stepC)
    (fun w => byRow2 "set-order" (P := fun w => stepC (w.withFollow "special-get-raises" false)) (pC_at false false) (pC_at true false) w)
    (fun w => byRow2 "set-order" (P := fun w => stepC (w.withFollow "special-get-raises" true)) (pC_at false true) (pC_at true true) w) w
theorem pF (w : World) : (fun os => segM w 212 (stT objs13 272 2473 w os) stsF ⟨135, 0, 135, 13⟩) = fun os => some (.next, stT objsF 313 2531 w os, codM, ⟨176, 0, 189, 15⟩) := by
  unfold segM
  rw [PySem.W.Fast.te10110043849684766642, PySem.W.Fast.te14364793385576792824]
  kernel_rfl
end
section
theorem pPre (w : World) : (fun os => topGo treeTable PySem.Challenge.pw_xn0030_01 w 11 (some (.ref 6)) 12 ⟨boot_heap w.params, Array.mk [], boot_drawn, boot_toks, os⟩ (topStub PySem.Challenge.pw_xn0030_01)) =
    fun os => some ((stT objsB 15 187 w os).abs, ⟨denote treeTable codM, codM, ⟨0, 0, 0, 0⟩, [topFrame ⟨0, 0, 0, 0⟩]⟩) := by
  rw [PySem.W.Fast.te15667345088766844465, PySem.W.Fast.te14364793385576792824, PySem.W.Fast.te11892475500146522536]
  kernel_rfl
theorem pBlk (w : World) : (fun os => segRun treeTable PySem.Challenge.pw_xn0030_01 w 11 (some (.ref 6)) 1 1 (stT objsB 15 187 w os).abs (blockOf (behindTheImports PySem.Challenge.pw_xn0030_01) envM codM ⟨0, 0, 0, 0⟩ [topFrame ⟨0, 0, 0, 0⟩])) =
    fun os => some (.next, (stT objsB 15 187 w os).abs, codM, ⟨0, 0, 0, 0⟩) := by
  rw [PySem.W.Fast.te14374325043358763698, PySem.W.Fast.te14364793385576792824]
  kernel_rfl
theorem pFin (w : World) : (fun os => topRun treeTable PySem.Challenge.pw_xn0030_01 w 11 (some (.ref 6)) 2 (stT objsF 313 2531 w os).abs ⟨doneF .next, codM, ⟨176, 0, 189, 15⟩, [topFrame ⟨0, 0, 0, 0⟩]⟩) =
    fun os => some (stT objsF 313 2531 w os).abs := by
  rw [PySem.W.Fast.te14082659384304107361, PySem.W.Fast.te14364793385576792824]
  kernel_rfl
noncomputable def stsD : List Stmt := [top 13]
theorem body_split : behindTheImports PySem.Challenge.pw_xn0030_01 = stsA ++ (stsB ++ (stsC ++ (stsD ++ (stsF ++ [])))) := by kernel_rfl
theorem pD : ∃ n : Nat, n ≤ 20000 ∧ ∀ (w : World) (os : OsState), segRun treeTable PySem.Challenge.pw_xn0030_01 w 11 (some (.ref 6)) 1 n (stT objs12 233 522 w os).abs (piecesOf stsD envM codM ⟨133, 0, 134, 30⟩ [topFrame ⟨0, 0, 0, 0⟩]) = some (.next, (stT objs13 272 2473 w os).abs, codM, ⟨135, 0, 135, 13⟩) := ⟨ND + 1, by decide, pD14⟩
noncomputable abbrev thM (sts : List Stmt) (q : Pos) : Thread := piecesOf sts envM codM q [topFrame ⟨0, 0, 0, 0⟩]
noncomputable abbrev runM (w : World) (n : Nat) (s : Shared) (t : Thread) : Option Shared := topRun treeTable PySem.Challenge.pw_xn0030_01 w 11 (some (.ref 6)) n s t
noncomputable abbrev restM (sts : List Stmt) (q : Pos) : Thread := restOf sts envM codM q [topFrame ⟨0, 0, 0, 0⟩]
theorem qSeg {w : World} {n : Nat} {s s' : SharedT} {sts : List Stmt} {q q' : Pos} (h : segM w n s sts q = some (.next, s', codM, q')) :
    segRun treeTable PySem.Challenge.pw_xn0030_01 w 11 (some (.ref 6)) 1 n s.abs (thM sts q) = some (.next, s'.abs, codM, q') := segRun_of h
theorem qApp {w : World} {n N : Nat} {s s' r : Shared} {l rest : List Stmt} {q q' : Pos}
    (h : segRun treeTable PySem.Challenge.pw_xn0030_01 w 11 (some (.ref 6)) 1 n s (thM l q) = some (.next, s', codM, q'))
    (k : runM w N s' (restM rest q') = some r) : runM w (n + N) s (restM (l ++ rest) q) = some r := piece_app h k
theorem qA (w : World) (os : OsState) : segM w 1054 (stT objsB 15 187 w os) stsA ⟨0, 0, 0, 0⟩ = some (.next, stT objs5 183 404 w os, codM, ⟨73, 0, 108, 32⟩) := congrFun (pA w) os
theorem qB (w : World) (os : OsState) : segM w 461 (stT objs5 183 404 w os) stsB ⟨73, 0, 108, 32⟩ = some (.next, stT objs10 215 455 w os, codM, ⟨131, 0, 131, 8⟩) := congrFun (pB w) os
theorem qC (w : World) (os : OsState) : segM w 1028 (stT objs10 215 455 w os) stsC ⟨131, 0, 131, 8⟩ = some (.next, stT objs12 233 522 w os, codM, ⟨133, 0, 134, 30⟩) := congrFun (pC w) os
theorem qF (w : World) (os : OsState) : segM w 212 (stT objs13 272 2473 w os) stsF ⟨135, 0, 135, 13⟩ = some (.next, stT objsF 313 2531 w os, codM, ⟨176, 0, 189, 15⟩) := congrFun (pF w) os
theorem qFin (w : World) (os : OsState) : runM w 2 (stT objsF 313 2531 w os).abs (restM [] ⟨176, 0, 189, 15⟩) = some (stT objsF 313 2531 w os).abs := piece_nil (congrFun (pFin w) os)
theorem qTail {w : World} {os : OsState} {n : Nat} (hD : segRun treeTable PySem.Challenge.pw_xn0030_01 w 11 (some (.ref 6)) 1 n (stT objs12 233 522 w os).abs (thM stsD ⟨133, 0, 134, 30⟩) = some (.next, (stT objs13 272 2473 w os).abs, codM, ⟨135, 0, 135, 13⟩)) :
    runM w (1054 + (461 + (1028 + (n + (212 + 2))))) (stT objsB 15 187 w os).abs (restM (stsA ++ (stsB ++ (stsC ++ (stsD ++ (stsF ++ []))))) ⟨0, 0, 0, 0⟩) = some (stT objsF 313 2531 w os).abs :=
  qApp (qSeg (qA w os)) (qApp (qSeg (qB w os)) (qApp (qSeg (qC w os)) (qApp hD (qApp (qSeg (qF w os)) (qFin w os)))))
theorem qBlk {w : World} {os : OsState} {N : Nat} {r : Shared} (k : runM w N (stT objsB 15 187 w os).abs (restM (behindTheImports PySem.Challenge.pw_xn0030_01) ⟨0, 0, 0, 0⟩) = some r) :
    runM w (1 + N) (stT objsB 15 187 w os).abs ⟨denote treeTable codM, codM, ⟨0, 0, 0, 0⟩, [topFrame ⟨0, 0, 0, 0⟩]⟩ = some r := piece_block (congrFun (pBlk w) os) k
theorem qPre {w : World} {os : OsState} {N : Nat} {r : Shared} (k : runM w N (stT objsB 15 187 w os).abs ⟨denote treeTable codM, codM, ⟨0, 0, 0, 0⟩, [topFrame ⟨0, 0, 0, 0⟩]⟩ = some r) :
    runM w (12 + N) ⟨boot_heap w.params, Array.mk [], boot_drawn, boot_toks, os⟩ (topStub PySem.Challenge.pw_xn0030_01) = some r := go_top (congrFun (pPre w) os) k
theorem pRun : ∃ M : Nat, M ≤ 30000 ∧ ∀ (w : World) (os : OsState), runM w M ⟨boot_heap w.params, Array.mk [], boot_drawn, boot_toks, os⟩ (topStub PySem.Challenge.pw_xn0030_01) = some (stT objsF 313 2531 w os).abs := by
  obtain ⟨n, hn, hD⟩ := pD
  refine ⟨12 + (1 + (1054 + (461 + (1028 + (n + (212 + 2)))))), by omega, fun w os => qPre (qBlk ?_)⟩
  rw [body_split]
  exact qTail (hD w os)
end
section
abbrev Ext (h h' : Heap) : Prop := ∀ b o, h.get? b = some o → h'.get? b = some o
section
variable {prog : Program} {w : World} {A : Around} {s : Shared} {K : Frag} {p : Program} {loose : List Str} {mean : ExcName → Option Value} {mg mb : Str → Option Value}
  {R : Result → Shared → Prop} {name qual : Str} {params : Arguments} {body : List Stmt} {scope : Scope} {dV kV doc pm cdv ct oc : Value} {an od : Option Addr} {osl : Array (Option Value)} {f : Addr} {args : Args} {binds : List (Str × Value)}
theorem pure_enter (X : K.In s.heap) (T : TopRead p loose mg mb s.heap) (ho : K.lookup f = some ⟨oc, od, .func (fnOf name qual params body scope dV kV doc pm an cdv ct), osl⟩) (hcd : codeIn K cdv qual = true) (hroom : A.depth < recursionLimit)
    (hbind : BindsTo s (fnOf name qual params body scope dV kV doc pm an cdv ct) args binds) (hloc : ∀ y ∈ binds, scope.names.lookup y.1 = some .local)
    (h : ∀ L' h₁, Fr s.heap L' h₁ (fun y => binds.reverse.lookup y) → News s.heap L' h₁ [] →
      wpAny (model prog w) (A.deeper (envOf qual scope L' f cdv)) (execs body (envOf qual scope L' f cdv))
        (fun fl s' => R (.ok (.ret (match fl with | .ret v => v | _ => .none))) s')
        (fun e s' => wpAny (model prog w) (A.deeper (envOf qual scope L' f cdv)) (leaving (envOf qual scope L' f cdv) e) (fun _ s'' => R (.error e) s'') (fun e' s'' => R (.error e') s'') s')
        { s with heap := h₁, toks := s.toks + binds.length })
    (hco : scope.isCoroutine = false) (hgen : scope.isGenerator = false) (hk : scope.kind = .function)
    (hcell : ∀ x ∈ scope.names, x.2 ≠ .cell) : codeAny (model prog w) A (.call (.ref f) args) R s := by
  refine codeAny_call_def (fd := fnOf name qual params body scope dV kV doc pm an cdv ct) (body := body) (binds := binds) hroom (X _ _ ho) rfl T.nolimit (codeRec_of X hcd) rfl hbind hcell hloc (fun h₁ hns hk₁ => ?_) hco hgen hk
  exact h s.heap.objs.size h₁ ⟨hns, hk₁, Nat.le_refl _⟩ News.nil
end
abbrev Ar (dp un : Nat) (gd : Option (List Code)) (outer : List Env) : Around := { handled := none, depth := dp, frames := some outer, guards := gd, units := un }
def Pure (w : World) (p' : Program) (loose : List Str) (f : Addr) (args : List Value) (R : Tok → Value) : Prop :=
  ∀ (dp un : Nat) (gd : Option (List Code)) (outer : List Env) (base : Heap) (mean : ExcName → Option Value) (mg mb : Str → Option Value) (s : Shared) (Q E : Value → Shared → Prop), dp + 3 < recursionLimit → un + 20 < cLine → Below (Ar dp un gd outer) base outer s.heap →
    (Kf w.params).In s.heap → TopRead p' loose mg mb s.heap →
    (∀ t h' tk', Ext s.heap h' → Q (R t) { s with heap := h', toks := tk' }) →
    wpAny (model PySem.Challenge.rw_xn0030_01.row.prog w) (Ar dp un gd outer) (call (.ref f) args) Q E s
end
section
open PyProof.V
variable {prog : Program} {w : World}
/-- entries that bear pairs -/
inductive Bear : List DictEntry → List (Int × Str) → Prop
  | nil : Bear [] []
  | cons {k : Int} {v : Str} {t u : Nat} {es : List DictEntry} {ps : List (Int × Str)} : Bear es ps → Bear (⟨k, .int k t, .str v u⟩ :: es) ((k, v) :: ps)
theorem Bear.app {a b : List DictEntry} {x y : List (Int × Str)} (h : Bear a x) (k : Bear b y) : Bear (a ++ b) (x ++ y) := by
  induction h with
  | nil => exact k
  | cons _ ih => exact .cons ih
theorem bear_ents (st : Nat) : ∀ (ps : List (Int × Str)) (t : Nat), Bear (ents t st ps) ps
  | [], _ => .nil
  | (k, v) :: r, t => by rw [ents_cons]; exact .cons (bear_ents st r _)
theorem bear_C : ∀ (cs : List (List (Int × Str))) (t : Nat), Bear (entsC t cs) cs.flatten
  | [], _ => .nil
  | c :: cs, t => by rw [List.flatten_cons]; exact (bear_ents 3 c t).app (bear_C cs _)
def kvsB (es : List DictEntry) : List (Int × Value) := es.map fun e => (e.hash, e.val)
def datB (ps : List (Int × Str)) : List (PyData × PyData) := ps.map fun x => (.int x.1, .str x.2)
theorem Bear.pairs {es : List DictEntry} {ps : List (Int × Str)} (h : Bear es ps) : Pairs (intKind prog w) es (kvsB es) := by
  induction h with
  | nil => exact .nil
  | cons _ ih => exact .cons (intKind_is prog w _ _) rfl ih
theorem Bear.flat {es : List DictEntry} {ps : List (Int × Str)} (h : Bear es ps) : FlatPairs PyData.int (kvsB es) (datB ps) := by
  induction h with
  | nil => exact .nil
  | cons _ ih => exact .cons (Flat.str _ _) ih
theorem Bear.keys {es : List DictEntry} {ps : List (Int × Str)} (h : Bear es ps) (hh : ∀ x ∈ ps, hashInt x.1 = x.1) : KeysOf (intKind prog w) es.toArray := by
  intro e he
  have he : e ∈ es := by simpa using he
  induction h with
  | nil => cases he
  | cons h' ih =>
    rcases List.mem_cons.mp he with rfl | he
    · exact ⟨_, intKind_is prog w _ _, (hh _ (.head _)).symm⟩
    · exact ih (fun x hx => hh x (.tail _ hx)) (by simpa using he) he
theorem Bear.firsts {es : List DictEntry} {ps : List (Int × Str)} (h : Bear es ps) : (kvsB es).map (·.1) = ps.map (·.1) := by
  induction h with
  | nil => rfl
  | cons _ ih => exact congrArg _ ih
theorem bear_main : Bear ((List.range 39).flatMap chunkEnts) b3pairs := by
  rw [← entsD_eq, pairs_split, entsD, List.append_assoc]
  exact (bear_ents 3 _ _).app ((bear_C midC _).app (bear_ents 2 _ _))
theorem hashAll : ∀ x ∈ b3pairs, hashInt x.1 = x.1 := fun x hx => by have := List.all_eq_true.mp hashD x hx; simpa using this
theorem main_dict : Obj.IsDictOf (intKind prog w) b3main (kvsB ((List.range 39).flatMap chunkEnts)) :=
  ⟨_, _, ⟨rfl, rfl, rfl⟩, rfl, bear_main.keys hashAll, by simpa using bear_main.pairs, by rw [bear_main.firsts]; exact nodupD⟩
theorem tabB3 {h : Heap} (X : (Kf w.params).In h) : TabAt (intKind prog w) PyData.int h 233 (datB b3pairs) := by
  refine ⟨by decide, _, Heap.dictOf_iff.mpr ⟨b3main, X 233 b3main rfl, main_dict⟩, bear_main.flat⟩
/-- the set of table B.1 -/
def b1es (P : Params) : Array (Int × Value) := match (o222 P).data with | .set es _ _ => es | _ => #[]
def b1ep (P : Params) : Nat := match (o222 P).data with | .set _ n _ => n | _ => 0
def b1t (P : Params) : SetTable := match (o222 P).data with | .set _ _ t => t | _ => default
def b1S (P : Params) (k : Int) : Bool := (b1es P).toList.any fun e => Value.isInt k e.2
def chkE (e : Int × Value) : Bool := match e.2 with | .int i _ => e.1 == hashInt i | _ => false
theorem b1_obj (P : Params) : o222 P = ⟨.type "set", none, .set (b1es P) (b1ep P) (b1t P), #[]⟩ := by kernel_rfl
theorem b1_chk (P : Params) : ((b1es P).toList.all chkE) = true := by kernel_rfl
theorem b1_fits (P : Params) : (b1t P).fits (b1es P).size = true := by kernel_rfl
theorem b1_size (P : Params) : (b1es P).size = 27 := by kernel_rfl
theorem setB1 {h : Heap} (X : (Kf w.params).In h) : h.SetOf (intKind prog w) 222 (b1S w.params) 27 := by
  refine ⟨_, b1es w.params, b1ep w.params, b1t w.params, (X 222 (o222 w.params) rfl).trans (congrArg some (b1_obj _)), ⟨rfl, rfl, rfl⟩, rfl, fun e he => ?_, fun k => ?_, by rw [b1_size]; decide, b1_fits _, b1_size _⟩
  · have := List.all_eq_true.mp (b1_chk w.params) e he
    obtain ⟨h, v⟩ := e
    cases v <;> simp [chkE] at this
    rename_i i t
    exact ⟨⟨i, intKind_is prog w i t, this⟩, rfl⟩
  · unfold b1S
    rw [List.any_eq_true]; exact Iff.rfl
end
section
noncomputable def qv : Program := view PySem.Challenge.pw_xn0030_01 [0, 2, 3, 4, 5, 7, 8, 9, 11, 12, 13, 14, 16, 17, 18, 19, 20, 21]
noncomputable def looseV : List Str := ["_Accumulator", "b1_set", "b3_exceptions"]
noncomputable def Kg (P : Params) : Frag := (nat_lit 140, o140 P) :: (nat_lit 147, o147 P) :: Kf P
noncomputable def Kgs : List Addr := 140 :: 147 :: Kas
noncomputable abbrev hookV : Hook := kHook Kg Kgs (fun _ => by kernel_rfl)
theorem kf_of_kg {P : Params} {h : Heap} (X : (Kg P).In h) : (Kf P).In h := by
  intro a o e
  have h1 : (Kf P).lookup 140 = none := by kernel_rfl
  have h2 : (Kf P).lookup 147 = none := by kernel_rfl
  refine X a o ?_
  show List.lookup a ((nat_lit 140, o140 P) :: (nat_lit 147, o147 P) :: Kf P) = some o
  by_cases e1 : a = 140
  · subst e1; rw [h1] at e; cases e
  · by_cases e2 : a = 147
    · subst e2; rw [h2] at e; cases e
    · have b1 : (a == nat_lit 140) = false := by simpa using e1
      have b2 : (a == nat_lit 147) = false := by simpa using e2
      rw [List.lookup_cons, b1, List.lookup_cons, b2]
      exact e
noncomputable abbrev rowV : RowW := PySem.Challenge.rw_xn0030_01.row.toRowW
noncomputable def XtV (s : Shared) : Bool := xlAt qv [] s && recOk (RowW.records rowV) s
noncomputable def hF (P : Params) : Heap := absHeap (bt (objsF P)) 313 {}
noncomputable def shF (w : World) (os : OsState) : Shared := ⟨hF w.params, #[], {}, 2531, os⟩
theorem lkA (w : World) (os : OsState) : (staticsOk (importedModules PySem.Challenge.pw_xn0030_01.main.body) (boot_heap w.params) (hF w.params) && namesBound PySem.Challenge.pw_xn0030_01 (hF w.params) && gensDone (shF w os) && laidKept (boot_heap w.params) (hF w.params)) = true := by
  rw [PySem.W.Fast.te5923862056798008813]
  kernel_rfl
theorem lkY (w : World) (os : OsState) : hookV.obs (shF w os) = hookV.val w := by
  kernel_rfl
theorem lk1 (w : World) (os : OsState) : seen ((recsOf qv).map (·.name)) (ownsOf qv) [] { shF w os with gens := #[] } = expectedOf qv := by
  rw [PySem.W.Fast.te5160383126252970620, PySem.W.Fast.te3399658132070893891, PySem.W.Fast.te5991557255702980513]
  kernel_rfl
theorem lk2 (w : World) (os : OsState) : (shF w os).heap.bltView = bltViewBooted := by
  kernel_rfl
/-- one table by a proof, the other names by a look -/
noncomputable def tabF (q : Program) (h : Heap) (x : Str) : Bool := (match tupIntsOf q x with | some ns => h.tupIntsOk x ns | none => true) &&
  (match tupStrsOf q x with | some ss => h.tupStrsOk x ss | none => true) && (match tabIntOf q x with | some D => h.tabIntOk x D | none => true)
theorem tabs_one {q : Program} {h : Heap} {x : Str} {D : List (PyData × PyData)} (l r : List Str) (hv : valNames q = l ++ x :: r) (hl : (l ++ r).all (tabF q h) = true)
    (h1 : tupIntsOf q x = none) (h2 : tupStrsOf q x = none) (h3 : tabIntOf q x = some D) (h4 : h.tabIntOk x D = true) : tablesOk q h = true := by
  show (valNames q).all (tabF q h) = true
  have hx : tabF q h x = true := by unfold tabF; rw [h1, h2, h3]; exact h4
  rw [hv]
  rw [List.all_append, Bool.and_eq_true] at hl
  rw [List.all_append, List.all_cons, hx, hl.1, hl.2]
  rfl
theorem vnV : valNames qv = [Str.ofString "NL", Str.ofString "EMPTYSTRING", Str.ofString "b1_set"] ++ Str.ofString "b3_exceptions" :: [] := by kernel_rfl
theorem tdV : tabIntOf qv (Str.ofString "b3_exceptions") = some (datB b3pairs) := by kernel_rfl
theorem nsB3 (P : Params) : (hF P).nsMap mainGlobals (Str.ofString "b3_exceptions") = some (.ref 233) := by kernel_rfl
theorem hfB3 (P : Params) : (hF P).get? 233 = some b3main := by kernel_rfl
theorem tabH (w : World) : (hF w.params).tabIntOk (Str.ofString "b3_exceptions") (datB b3pairs) = true :=
  tabIntOk_complete (prog := qv) (w := w) (nsB3 _) ⟨by decide, _, Heap.dictOf_iff.mpr ⟨b3main, hfB3 _, main_dict⟩, bear_main.flat⟩
theorem tabsV (w : World) (os : OsState) : tablesOk qv (shF w os).heap = true :=
  tabs_one _ _ vnV (by kernel_rfl) (by kernel_rfl) (by kernel_rfl) tdV (tabH w)
theorem lk3a (w : World) (os : OsState) : ((shF w os).heap.keysOk (looseW qv looseV) ((recsOf qv).map (·.name)) ((litsOf qv).map (·.1)) ((clssOf qv (looseW qv looseV)).map (·.name)) && (shF w os).heap.accountedOkI (importedModules PySem.Challenge.pw_xn0030_01.main.body) && (shF w os).heap.isNs mainGlobals && (shF w os).heap.isNs builtinsNs) = true := by
  rw [PySem.W.Fast.te10880121769531294198, PySem.W.Fast.te821141287760084731, PySem.W.Fast.te3399658132070893891, PySem.W.Fast.te7409074990110511671, PySem.W.Fast.te13664370479719496447, PySem.W.Fast.te5923862056798008813]
  kernel_rfl
theorem lk3b (w : World) (os : OsState) : XtV (shF w os) = true := by kernel_rfl
theorem lk3 (w : World) (os : OsState) : ((shF w os).heap.keysOk (looseW qv looseV) ((recsOf qv).map (·.name)) ((litsOf qv).map (·.1)) ((clssOf qv (looseW qv looseV)).map (·.name)) && (shF w os).heap.accountedOkI (importedModules PySem.Challenge.pw_xn0030_01.main.body) && (shF w os).heap.isNs mainGlobals && (shF w os).heap.isNs builtinsNs && tablesOk qv (shF w os).heap && XtV (shF w os) && (if true then (shF w os).gens.size == 0 else !leftWithCleanup (shF w os).gens)) = true := by
  rw [lk3a w os, tabsV w os, lk3b w os]
  rfl
theorem lk4 (w : World) (os : OsState) : tabsOk qv (shF w os) = true := by
  rw [PySem.W.Fast.te479339242167458305]
  kernel_rfl
theorem lk5 (w : World) (os : OsState) : pinSeenD qv (drecsOf qv) (shF w os) = pinGoodD (drecsOf qv) := by
  rw [PySem.W.Fast.te16090120013241838585, PySem.W.Fast.te3247288618530077131]
  kernel_rfl
theorem lk6 (w : World) (os : OsState) : plainSeenE qv (looseW qv looseV) (shF w os) = plainGoodE qv (looseW qv looseV) := by
  rw [PySem.W.Fast.te2386780881361962483, PySem.W.Fast.te821141287760084731]
  kernel_rfl
theorem lk7 (w : World) (os : OsState) : plainSeenD qv looseV (shF w os) = plainGoodD qv looseV := by
  rw [PySem.W.Fast.te11698064438423848299]
  kernel_rfl
theorem lk8 (w : World) (os : OsState) : wideSeen qv (shF w os) = wideGood qv := by
  rw [PySem.W.Fast.te7317090234206586261]
  kernel_rfl
theorem lk9 (w : World) (os : OsState) : clsSeenW qv looseV (shF w os) = clsGoodW qv looseV := by
  rw [PySem.W.Fast.te7369524293546568484]
  kernel_rfl
theorem lkS (w : World) (os : OsState) : openSeen qv looseV (importedModules PySem.Challenge.pw_xn0030_01.main.body) XtV true (shF w os) = openGood qv looseV := by
  unfold openSeen openGood
  rw [lk1 w os, lk2 w os, lk3 w os, lk4 w os, lk5 w os, lk6 w os, lk7 w os, lk8 w os, lk9 w os]
theorem opV : opening PySem.Challenge.pw_xn0030_01 = plainProg PySem.Challenge.pw_xn0030_01.main.scope.names := by kernel_rfl
theorem fenV (s : Shared) : fenceModules? PySem.Challenge.pw_xn0030_01 s = some s := by kernel_rfl
theorem szV (w : World) : ((boot_heap w.params).isNs mainGlobals && (Array.mk [] : Array GenState).size == 0, (boot_heap w.params).objs.size, (boot_heap w.params).nsMap mainGlobals "__annotations__") = (true, 11, some (Value.ref 6)) := by
  rw [PySem.W.Fast.te8920871248978507458]
  kernel_rfl
theorem absV (w : World) (os : OsState) : (stT objsF 313 2531 w os).abs = shF w os := by kernel_rfl
theorem runV : ∃ M : Nat, M ≤ 30000 ∧ ∀ (w : World) (os : OsState), topRun treeTable PySem.Challenge.pw_xn0030_01 w 11 (some (.ref 6)) M ⟨boot_heap w.params, Array.mk [], boot_drawn, boot_toks, os⟩ (topStub PySem.Challenge.pw_xn0030_01) = some (shF w os) := by
  obtain ⟨M, hM, hR⟩ := pRun
  exact ⟨M, hM, fun w os => (hR w os).trans (congrArg some (absV w os))⟩
theorem lookV (w : World) : (fun os => ((staticsOk (importedModules PySem.Challenge.pw_xn0030_01.main.body) (boot_heap w.params) (hF w.params) && namesBound PySem.Challenge.pw_xn0030_01 (hF w.params) && gensDone (shF w os) && laidKept (boot_heap w.params) (hF w.params)),
    openSeen qv looseV (importedModules PySem.Challenge.pw_xn0030_01.main.body) XtV true (shF w os), hookV.obs (shF w os))) = fun _ => (true, openGood qv looseV, hookV.val w) :=
  funext fun os => looks_pair (lkA w os) (looks_pair (lkS w os) (lkY w os))
theorem openV (w : World) : (fencedOpening treeTable PySem.Challenge.pw_xn0030_01 w 40000).map (fun s => (s.heap, s.gens, s.drawn, s.toks)) = some (boot_heap w.params, Array.mk [], boot_drawn, boot_toks) := boot_open opV (by decide) fenV w
theorem left_of {M : Nat} (hM : M ≤ 30000) (hR : ∀ (w : World) (os : OsState), topRun treeTable PySem.Challenge.pw_xn0030_01 w 11 (some (.ref 6)) M ⟨boot_heap w.params, Array.mk [], boot_drawn, boot_toks, os⟩ (topStub PySem.Challenge.pw_xn0030_01) = some (shF w os)) :
    LeftO PySem.Challenge.pw_xn0030_01 qv looseV XtV hookV.obs hookV.val 40000 :=
  LeftO.of_pieces (p := PySem.Challenge.pw_xn0030_01) (q := qv) (loose := looseV) (Xt := XtV) (Yf := hookV.obs) (Ya := hookV.val) (N := 40000) (g0 := true) (H₀ := fun P => boot_heap P) (H₁ := fun P => hF P) (gs₀ := Array.mk []) (gs₁ := #[]) (d₀ := boot_drawn) (d₁ := {}) (k₀ := boot_toks) (k₁ := 2531) (m₀ := 11) (ann := some (.ref 6)) (M := M)
    openV szV hR (Nat.ble_eq_true_of_le (by omega)) lookV
theorem left : LeftO PySem.Challenge.pw_xn0030_01 qv looseV XtV hookV.obs hookV.val 40000 := by
  obtain ⟨M, hM, hR⟩ := runV
  exact left_of hM hR
end
section
open PyProof.V
local macro_rules | `(tactic| k_data) => `(tactic| skip)
abbrev chS (c : Nat) : Str := ⟨#[c]⟩
section
theorem kw1 : True := by
  k_with "compareOp In int ref" => ((k_here; (with_reducible show wpAny _ _ (compareOp CmpOp.In (Value.int _ _) (Value.ref _)) _ _ _); refine wpAny_inSet_of (intKind_is _ _ _ _) rfl (setB1 (Frag.In.keeps (by assumption) (Fr.keep (by k_asm)))) ?_))
  exact trivial
theorem b1_spec (w : World) (p' : Program) (loose : List Str) (c : Nat) (tk : Tok) : Pure w p' loose 232 [.str (chS c) tk] (fun _ => .bool (b1S w.params c)) := by
  intro dp un gd outer base mean mg mb s Q E hd hu B X T hret
  revert X; k_fill; intro X
  refine wpAny_call ?_
  refine' pure_enter X T ?k6 ?k7 ?k8 ?k9 ?kB ?_ ?c2 ?c3 ?c4 ?c5
  (case k6 => k_is)
  (case k7 => k_is)
  (case k8 => (show dp < _; omega))
  (case k9 => exact BindsTo.of_eq rfl)
  (case kB => exact locs rfl)
  (case c2 => exact rfl)
  (case c3 => exact rfl)
  (case c4 => exact rfl)
  (case c5 => decide)
  intro L' h' F' N'
  try dsimp only
  k_steps
  exact hret 0 _ _ (Fr.keep (by assumption))
end
section
variable {prog : Program} {w : World} {A : Around} {E : Value → Shared → Prop} {s : Shared}
theorem miss70 : PySem.Spec.lookup (.int 70) (datB b3pairs) = none := by kernel_rfl
theorem miss73 : PySem.Spec.lookup (.int 73) (datB b3pairs) = none := by kernel_rfl
theorem get_b3 {c : Int} {t : Tok} {x : Str} {Q : Value → Shared → Prop} (X : (Kf w.params).In s.heap) (hl : PySem.Spec.lookup (.int c) (datB b3pairs) = some (.str x)) (h : ∀ u, Q (.str x u) { s with toks := s.toks + 1 }) :
    wpAny (model prog w) A (call (.builtin "dict.get") [.ref 233, .int c t]) Q E s := by
  refine call_get1_intTab (tabB3 X) fun v hv => ?_
  rw [hl] at hv
  obtain ⟨u, rfl⟩ := Flat.str_inv hv
  exact h u
theorem get_b3n {c : Int} {t : Tok} {Q : Value → Shared → Prop} (X : (Kf w.params).In s.heap) (hc : c = 70 ∨ c = 73) (h : Q .none { s with toks := s.toks + 1 }) :
    wpAny (model prog w) A (call (.builtin "dict.get") [.ref 233, .int c t]) Q E s := by
  have hl : PySem.Spec.lookup (.int c) (datB b3pairs) = none := by rcases hc with rfl | rfl <;> first | exact miss70 | exact miss73
  refine call_get1_intTab (tabB3 X) fun v hv => ?_
  rw [hl] at hv
  obtain rfl := Flat.none_inv hv
  exact h
end
section
theorem kw2 : True := by
  k_with "getMethod ref" => ((k_here; refine getMethod_intTab_get (tabB3 (Frag.In.keeps (by assumption) (Fr.keep (by k_asm)))) ?_))
  k_with "call builtin:dict.get" => ((k_here; refine get_b3 (Frag.In.keeps (by assumption) (Fr.keep (by k_asm))) (by assumption) ?_; intro _))
  exact trivial
theorem b3_spec (w : World) (p' : Program) (loose : List Str) (c : Nat) (x : Str) (tk : Tok) (hl : PySem.Spec.lookup (.int c) (datB b3pairs) = some (.str x)) : Pure w p' loose 278 [.str (chS c) tk] (fun t => .str x t) := by
  intro dp un gd outer base mean mg mb s Q E hd hu B X T hret
  revert X; k_fill; intro X
  refine wpAny_call ?_
  refine' pure_enter X T ?k6 ?k7 ?k8 ?k9 ?kB ?_ ?c2 ?c3 ?c4 ?c5
  (case k6 => k_is)
  (case k7 => k_is)
  (case k8 => (show dp < _; omega))
  (case k9 => exact BindsTo.of_eq rfl)
  (case kB => exact locs rfl)
  (case c2 => exact rfl)
  (case c3 => exact rfl)
  (case c4 => exact rfl)
  (case c5 => decide)
  intro L' h' F' N'
  try dsimp only
  k_steps
  dsimp only
  exact hret _ _ _ (Fr.keep (by assumption))
end
section
theorem kw3 : True := by
  k_with "getMethod ref" => ((k_here; refine getMethod_intTab_get (tabB3 (Frag.In.keeps (by assumption) (Fr.keep (by k_asm)))) ?_))
  k_with "call builtin:dict.get" => ((k_here; refine' get_b3n ?a ?b ?_; (case a => exact (Frag.In.keeps (by assumption) (Fr.keep (by k_asm)))); (case b => with_unfolding_all (first | exact Or.inl rfl | exact Or.inr rfl))))
  exact trivial
theorem b3_spec70 (w : World) (p' : Program) (loose : List Str) (tk : Tok) : Pure w p' loose 278 [.str (chS 70) tk] (fun t => .str (Str.ofString "f") t) := by
  intro dp un gd outer base mean mg mb s Q E hd hu B X T hret
  revert X; k_fill; intro X
  refine wpAny_call ?_
  refine' pure_enter X T ?k6 ?k7 ?k8 ?k9 ?kB ?_ ?c2 ?c3 ?c4 ?c5
  (case k6 => k_is)
  (case k7 => k_is)
  (case k8 => (show dp < _; omega))
  (case k9 => exact BindsTo.of_eq rfl)
  (case kB => exact locs rfl)
  (case c2 => exact rfl)
  (case c3 => exact rfl)
  (case c4 => exact rfl)
  (case c5 => decide)
  intro L' h' F' N'
  try dsimp only
  k_steps
  try walk_at "call builtin:dict.get"
  k_steps
  dsimp only
  exact hret _ _ _ (Fr.keep (by assumption))
theorem b3_spec73 (w : World) (p' : Program) (loose : List Str) (tk : Tok) : Pure w p' loose 278 [.str (chS 73) tk] (fun t => .str (Str.ofString "i") t) := by
  intro dp un gd outer base mean mg mb s Q E hd hu B X T hret
  revert X; k_fill; intro X
  refine wpAny_call ?_
  refine' pure_enter X T ?k6 ?k7 ?k8 ?k9 ?kB ?_ ?c2 ?c3 ?c4 ?c5
  (case k6 => k_is)
  (case k7 => k_is)
  (case k8 => (show dp < _; omega))
  (case k9 => exact BindsTo.of_eq rfl)
  (case kB => exact locs rfl)
  (case c2 => exact rfl)
  (case c3 => exact rfl)
  (case c4 => exact rfl)
  (case c5 => decide)
  intro L' h' F' N'
  try dsimp only
  k_steps
  try walk_at "call builtin:dict.get"
  k_steps
  dsimp only
  exact hret _ _ _ (Fr.keep (by assumption))
end
def starts : List Nat := [65, 119808, 119860, 119912, 120016, 120172, 120224, 120276, 120328, 120380, 120432]
def fC : List Nat := starts.map (· + 5)
def iC : List Nat := starts.map (· + 8)
def mapC (c : Nat) : Str := if fC.contains c then Str.ofString "f" else if iC.contains c then Str.ofString "i" else Str.ofString "fi"
def hitC (c : Nat) : Bool := match PySem.Spec.lookup (.int c) (datB b3pairs) with
  | some (.str y) => y == mapC c
  | _ => false
theorem hits : ((fC.drop 1 ++ (iC.drop 1 ++ [64257])).all hitC) = true := by kernel_rfl
theorem hit_at {c : Nat} (h : hitC c = true) : PySem.Spec.lookup (.int c) (datB b3pairs) = some (.str (mapC c)) := by
  unfold hitC at h
  split at h
  · rename_i y e; rw [e]; congr 2; exact eq_of_beq h
  · cases h
theorem b3_all (w : World) (p' : Program) (loose : List Str) (c : Nat) (hc : c ∈ fC ++ (iC ++ [64257])) (tk : Tok) : Pure w p' loose 278 [.str (chS c) tk] (fun t => .str (mapC c) t) := by
  have h := (by decide +kernel : ∀ c ∈ fC ++ (iC ++ [64257]), c = 70 ∨ c = 73 ∨ c ∈ fC.drop 1 ++ (iC.drop 1 ++ [64257])) c hc
  rcases h with rfl | rfl | h
  · exact b3_spec70 w p' loose tk
  · exact b3_spec73 w p' loose tk
  · exact b3_spec w p' loose c (mapC c) tk (hit_at (List.all_eq_true.mp hits c h))
end
theorem kw4 : True := by
  k_with_none
  exact trivial
section
open PyProof.V
local macro_rules | `(tactic| k_data) => `(tactic| skip)
noncomputable def take1 (left amount : Int) : Int := if left ≥ amount then left - amount else left
noncomputable def leftI (place : Int) : Int := [13, 8, 5, 3, 2].foldl take1 place
noncomputable def letterI (place : Int) : Str := if leftI place = 1 then Str.ofString "i" else Str.ofString "f"
theorem fin_str {s : Shared} {Q : Value → Shared → Prop} {x y : Str} {L : Addr} {h' : Heap} {m : Str → Option Value} {t : Tok} {tk : Nat}
    (hret : ∀ (t : Tok) (h' : Heap) (tk' : Nat), Ext s.heap h' → Q (.str x t) { s with heap := h', toks := tk' }) (F : Fr s.heap L h' m) (e : x = y) : Q (.str y t) { s with heap := h', toks := tk } := by
  subst e; exact hret _ _ _ F.keep
end
section
open PyProof.V
local macro_rules | `(tactic| k_data) => `(tactic| skip)
theorem len7 : (Str.ofString "257 \"\"i").length = 7 := by kernel_rfl
theorem len8 : (Str.ofString "257 \"\"\"i").length = 8 := by kernel_rfl
theorem parse_spec0 (w : World) (p' : Program) (loose : List Str) (tk : Tok) : Pure w p' loose 214 [.str (Str.ofString "257 \"\"i") tk] (fun t => .str (Str.ofString "") t) := by
  intro dp un gd outer base mean mg mb s Q E hd hu B X T hret
  revert X; k_fill; intro X
  refine wpAny_call ?_
  refine' pure_enter X T ?k6 ?k7 ?k8 ?k9 ?kB ?_ ?c2 ?c3 ?c4 ?c5
  (case k6 => k_is)
  (case k7 => k_is)
  (case k8 => (show dp < _; omega))
  (case k9 => exact BindsTo.of_eq rfl)
  (case kB => exact locs rfl)
  (case c2 => exact rfl)
  (case c3 => exact rfl)
  (case c4 => exact rfl)
  (case c5 => decide)
  intro L' h' F' N'
  try dsimp only
  (repeat' (first | (k_unfold; (try ((first | (with_reducible show PySem.W.StrBack _ _ _) | (with_reducible show PySem.W.LenBack _ _ _) | (with_reducible show PySem.W.BoolBack _ _ _)); dsimp only [PySem.W.StrBack, PySem.W.LenBack, PySem.W.BoolBack]))) | (k_end; wrow_close) | (walk1 <;> ((try dsimp only [List.cons_append, List.nil_append]); (try k_fold))) | (dsimp only; walk1 <;> (try k_fold)) | (leave1; walk_say "STEP leave1"; (try dsimp only); (try k_fold)) | fail "no step"))
  all_goals first
    | (exfalso; (have h7 := len7); clear hret T; omega)
    | (refine fin_str hret (by assumption) ?_; clear hret; first | rfl | kernel_rfl)
theorem parse_spec1 (w : World) (p' : Program) (loose : List Str) (tk : Tok) : Pure w p' loose 214 [.str (Str.ofString "257 \"\"\"i") tk] (fun t => .str (Str.ofString "\"i") t) := by
  intro dp un gd outer base mean mg mb s Q E hd hu B X T hret
  revert X; k_fill; intro X
  refine wpAny_call ?_
  refine' pure_enter X T ?k6 ?k7 ?k8 ?k9 ?kB ?_ ?c2 ?c3 ?c4 ?c5
  (case k6 => k_is)
  (case k7 => k_is)
  (case k8 => (show dp < _; omega))
  (case k9 => exact BindsTo.of_eq rfl)
  (case kB => exact locs rfl)
  (case c2 => exact rfl)
  (case c3 => exact rfl)
  (case c4 => exact rfl)
  (case c5 => decide)
  intro L' h' F' N'
  try dsimp only
  (repeat' (first | (k_unfold; (try ((first | (with_reducible show PySem.W.StrBack _ _ _) | (with_reducible show PySem.W.LenBack _ _ _) | (with_reducible show PySem.W.BoolBack _ _ _)); dsimp only [PySem.W.StrBack, PySem.W.LenBack, PySem.W.BoolBack]))) | (k_end; wrow_close) | (walk1 <;> ((try dsimp only [List.cons_append, List.nil_append]); (try k_fold))) | (dsimp only; walk1 <;> (try k_fold)) | (leave1; walk_say "STEP leave1"; (try dsimp only); (try k_fold)) | fail "no step"))
  all_goals first
    | (exfalso; (have h7 := len8); clear hret T; omega)
    | (refine fin_str hret (by assumption) ?_; clear hret; first | rfl | kernel_rfl)
end
section
open PyProof.V
local macro_rules | `(tactic| k_data) => `(tactic| skip)
noncomputable abbrev startsI : List Int := [65, 119808, 119860, 119912, 120016, 120172, 120224, 120276, 120328, 120380, 120432]
noncomputable abbrev othersI : List Int := [173, 847, 6150, 6155, 6156, 6157, 8203, 8204, 8205, 8288, 65279]
noncomputable abbrev greatI (seed place k : Int) : Str := { cps := #[(startsI.getD ((seed + 5 * place).fmod 11).toNat 0 + k).toNat] }
noncomputable def spStep (word : Str) (seed : Int) (acc : Str) (place : Int) : Str :=
  if (Txt.item word place == Str.ofString "i") = true then acc ++ greatI seed place 5
  else if (seed + 5 * place).fmod 2 = 0 then acc ++ { cps := #[Int.toNat 64257] }
  else acc ++ greatI seed place 5 ++ (if (seed + 5 * place).fmod 27 < 16 then { cps := #[(65024 + (seed + 5 * place).fmod 27).toNat] } else { cps := #[(othersI.getD ((seed + 5 * place).fmod 27 - 16).toNat 0).toNat] }) ++ greatI seed place 8
noncomputable def spellL (word : Str) (seed : Int) (pre : List Int) : Str := pre.foldl (spStep word seed) (Str.ofString "")
theorem starts_bnd : ∀ i : Nat, 0 ≤ startsI.getD i 0 ∧ startsI.getD i 0 ≤ 120432 := by
  have h : (startsI.all fun x => decide (0 ≤ x ∧ x ≤ 120432)) = true := by decide +kernel
  intro i
  rw [List.getD_eq_getElem?_getD]
  cases e : startsI[i]? with
  | none => simp
  | some x => have := List.all_eq_true.mp h x (List.mem_of_getElem? e); simpa using this
theorem others_bnd : ∀ i : Nat, 0 ≤ othersI.getD i 0 ∧ othersI.getD i 0 ≤ 120432 := by
  have h : (othersI.all fun x => decide (0 ≤ x ∧ x ≤ 120432)) = true := by decide +kernel
  intro i
  rw [List.getD_eq_getElem?_getD]
  cases e : othersI[i]? with
  | none => simp
  | some x => have := List.all_eq_true.mp h x (List.mem_of_getElem? e); simpa using this
theorem app_len (x y : Str) : (x ++ y).length = x.length + y.length := by
  show (x.cps ++ y.cps).size = _
  rw [Array.size_append]; rfl
theorem step_len (word : Str) (seed : Int) (acc : Str) (n : Int) : (spStep word seed acc n).length ≤ acc.length + 3 := by
  unfold spStep
  split
  · rw [app_len]; exact Nat.add_le_add_left (show 1 ≤ 3 by decide) _
  · split
    · rw [app_len]; exact Nat.add_le_add_left (show 1 ≤ 3 by decide) _
    · rw [app_len, app_len, app_len]
      have : (if (seed + 5 * n).fmod 27 < 16 then ({ cps := #[(65024 + (seed + 5 * n).fmod 27).toNat] } : Str) else { cps := #[(othersI.getD ((seed + 5 * n).fmod 27 - 16).toNat 0).toNat] }).length = 1 := by split <;> rfl
      rw [this]; exact Nat.le_refl _
theorem spell_len (word : Str) (seed : Int) : ∀ (pre : List Int) (acc : Str), (pre.foldl (spStep word seed) acc).length ≤ acc.length + 3 * pre.length
  | [], acc => Nat.le_refl _
  | n :: r, acc => by
    have h1 := spell_len word seed r (spStep word seed acc n)
    have h2 := step_len word seed acc n
    rw [List.foldl_cons, List.length_cons]; omega
theorem one_le (c : Nat) : ({ cps := #[c] } : Str).length ≤ 10 := by show 1 ≤ 10; decide
theorem smallApp {x : Str} {n c : Nat} (h : x.length ≤ n) : (x ++ { cps := #[c] }).length ≤ n + 1 := by
  rw [app_len]; exact Nat.add_le_add_right h 1
theorem st1 {x word : Str} {seed n : Int} {pre : List Int} (h : x = spellL word seed pre) (h1 : (Txt.item word n == Str.ofString "i") = true) :
    x ++ { cps := #[(startsI.getD ((seed + 5 * n).fmod 11).toNat 0 + 5).toNat] } = spellL word seed (pre ++ [n]) := by
  unfold spellL; rw [List.foldl_append, List.foldl_cons, List.foldl_nil, spStep, if_pos h1, h]; rfl
theorem st2 {x word : Str} {seed n : Int} {pre : List Int} (h : x = spellL word seed pre) (h1 : (Txt.item word n == Str.ofString "i") = false) (h2 : (seed + 5 * n).fmod 2 = 0) :
    x ++ { cps := #[Int.toNat 64257] } = spellL word seed (pre ++ [n]) := by
  unfold spellL; rw [List.foldl_append, List.foldl_cons, List.foldl_nil, spStep, if_neg (by rw [h1]; decide), if_pos h2, h]; rfl
theorem st3 {x word : Str} {seed n : Int} {pre : List Int} (h : x = spellL word seed pre) (h1 : (Txt.item word n == Str.ofString "i") = false) (h2 : (seed + 5 * n).fmod 2 ≠ 0) (h3 : (seed + 5 * n).fmod 27 < 16) :
    x ++ { cps := #[(startsI.getD ((seed + 5 * n).fmod 11).toNat 0 + 5).toNat] } ++ { cps := #[(65024 + (seed + 5 * n).fmod 27).toNat] } ++ { cps := #[(startsI.getD ((seed + 5 * n).fmod 11).toNat 0 + 8).toNat] } = spellL word seed (pre ++ [n]) := by
  unfold spellL; rw [List.foldl_append, List.foldl_cons, List.foldl_nil, spStep, if_neg (by rw [h1]; decide), if_neg h2, if_pos h3, h]; rfl
theorem st4 {x word : Str} {seed n : Int} {pre : List Int} (h : x = spellL word seed pre) (h1 : (Txt.item word n == Str.ofString "i") = false) (h2 : (seed + 5 * n).fmod 2 ≠ 0) (h3 : ¬ (seed + 5 * n).fmod 27 < 16) :
    x ++ { cps := #[(startsI.getD ((seed + 5 * n).fmod 11).toNat 0 + 5).toNat] } ++ { cps := #[(othersI.getD ((seed + 5 * n).fmod 27 - 16).toNat 0).toNat] } ++ { cps := #[(startsI.getD ((seed + 5 * n).fmod 11).toNat 0 + 8).toNat] } = spellL word seed (pre ++ [n]) := by
  unfold spellL; rw [List.foldl_append, List.foldl_cons, List.foldl_nil, spStep, if_neg (by rw [h1]; decide), if_neg h2, if_neg h3, h]; rfl
section
variable {prog : Program} {w : World} {A : Around} {E : Value → Shared → Prop} {s : Shared}
theorem chr_start {k : Int} {i : Nat} {t : Tok} {Q : Value → Shared → Prop} (hk : 0 ≤ k ∧ k ≤ 100) (h : Q (.str { cps := #[(startsI.getD i 0 + k).toNat] } s.toks) { s with toks := s.toks + 1 }) :
    wpAny (model prog w) A (call (.builtin "chr") [.int (startsI.getD i 0 + k) t]) Q E s :=
  chr_of_range (by have := starts_bnd i; omega) (by have := starts_bnd i; omega) h
theorem chr_other {i : Nat} {t : Tok} {Q : Value → Shared → Prop} (h : Q (.str { cps := #[(othersI.getD i 0).toNat] } s.toks) { s with toks := s.toks + 1 }) :
    wpAny (model prog w) A (call (.builtin "chr") [.int (othersI.getD i 0) t]) Q E s :=
  chr_of_range (by have := others_bnd i; omega) (by have := others_bnd i; omega) h
theorem add_sp {x y : Str} {t u : Tok} {Q : Value → Shared → Prop} (h : ∀ t' tk, Q (.str (x ++ y) t') { s with toks := tk }) (hy : y.length ≤ 10) (hx : ∃ n, n ≤ 1000 ∧ x.length ≤ n) :
    wpAny (model prog w) A (binaryOp .Add (.str x t) (.str y u)) Q E s := by
  obtain ⟨n, h1, h2⟩ := hx
  exact PyProof.Rows.add_str h (by unfold sizeLine; omega)
end
end
section
/-- a ledger over a base: base g lies within h, the ledger's objects lie in h and not in g -/
structure Led (g h : Heap) (led : List (Addr × Obj)) : Prop where
  keep : ∀ b o, g.get? b = some o → h.get? b = some o
  size : g.objs.size ≤ h.objs.size
  at_ : ∀ p ∈ led, h.get? p.1 = some p.2 ∧ g.get? p.1 = none
theorem Led.of_frame {g h' : Heap} {led : List (Addr × Obj)} {L : Addr} {m : Str → Option Value} (F : Fr g L h' m) (N : News g L h' led) : Led g h' led :=
  ⟨F.keep, Nat.le_of_lt (Nat.lt_of_le_of_lt F.above F.ns.lt), fun q hq => ⟨(N q hq).1, (N q hq).2.2⟩⟩
theorem Led.sub {g h : Heap} {led led' : List (Addr × Obj)} (l : Led g h led) (hs : ∀ p ∈ led', p ∈ led) : Led g h led' := ⟨l.keep, l.size, fun p hp => l.at_ p (hs p hp)⟩
section
variable {prog : Program} {w : World} {A : Around} {s : Shared} {g : Heap} {K : Frag} {p : Program} {loose : List Str} {mg mb : Str → Option Value} {led : List (Addr × Obj)}
  {R : Result → Shared → Prop} {name qual : Str} {params : Arguments} {body : List Stmt} {scope : Scope} {dV kV doc pm cdv ct oc : Value} {an od : Option Addr} {osl : Array (Option Value)} {f : Addr} {args : Args} {binds : List (Str × Value)}
theorem mut_enter (X : K.In g) (T : TopRead p loose mg mb g) (Ld : Led g s.heap led) (ho : K.lookup f = some ⟨oc, od, .func (fnOf name qual params body scope dV kV doc pm an cdv ct), osl⟩) (hcd : codeIn K cdv qual = true) (hroom : A.depth < recursionLimit)
    (hbind : BindsTo s (fnOf name qual params body scope dV kV doc pm an cdv ct) args binds) (hloc : ∀ y ∈ binds, scope.names.lookup y.1 = some .local)
    (h : ∀ L' h₁, Fr g L' h₁ (fun y => binds.reverse.lookup y) → News g L' h₁ led →
      wpAny (model prog w) (A.deeper (envOf qual scope L' f cdv)) (execs body (envOf qual scope L' f cdv))
        (fun fl s' => R (.ok (.ret (match fl with | .ret v => v | _ => .none))) s')
        (fun e s' => wpAny (model prog w) (A.deeper (envOf qual scope L' f cdv)) (leaving (envOf qual scope L' f cdv) e) (fun _ s'' => R (.error e) s'') (fun e' s'' => R (.error e') s'') s')
        { s with heap := h₁, toks := s.toks + binds.length })
    (hco : scope.isCoroutine = false) (hgen : scope.isGenerator = false) (hk : scope.kind = .function)
    (hcell : ∀ x ∈ scope.names, x.2 ≠ .cell) : codeAny (model prog w) A (.call (.ref f) args) R s := by
  refine codeAny_call_def (fd := fnOf name qual params body scope dV kV doc pm an cdv ct) (body := body) (binds := binds) hroom (Ld.keep _ _ (X _ _ ho)) rfl (T.nolimit.keeps Ld.keep) (codeRec_of (X.keeps Ld.keep) hcd) rfl hbind hcell hloc (fun h₁ hns hk₁ => ?_) hco hgen hk
  exact h s.heap.objs.size h₁ ⟨hns, fun b o e => hk₁ b o (Ld.keep b o e), Ld.size⟩ fun q hq => ⟨hk₁ _ _ (Ld.at_ q hq).1, Nat.ne_of_lt (Heap.lt_size (Ld.at_ q hq).1), (Ld.at_ q hq).2⟩
/-- the same for a def that closes over __class__ -/
theorem mut_enterC {cc : Addr} (X : K.In g) (T : TopRead p loose mg mb g) (Ld : Led g s.heap led) (ho : K.lookup f = some ⟨oc, od, .func (ksFn name qual params body scope dV kV doc pm an cdv ct cc), osl⟩) (hcd : codeIn K cdv qual = true) (hroom : A.depth < recursionLimit)
    (hbind : BindsTo s (ksFn name qual params body scope dV kV doc pm an cdv ct cc) args binds) (hloc : ∀ y ∈ binds, scope.names.lookup y.1 = some .local)
    (h : ∀ L' h₁, Fr g L' h₁ (fun y => binds.reverse.lookup y) → News g L' h₁ led →
      _root_.PySem.wpAt (model prog w) (A.deeper (ksEnv qual scope L' f cdv cc)) (.func body (ksEnv qual scope L' f cdv cc)) (execs body (ksEnv qual scope L' f cdv cc))
        (fun fl s' => R (.ok (.ret (match fl with | .ret v => v | _ => .none))) s')
        (fun e s' => wpAny (model prog w) (A.deeper (ksEnv qual scope L' f cdv cc)) (leaving (ksEnv qual scope L' f cdv cc) e) (fun _ s'' => R (.error e) s'') (fun e' s'' => R (.error e') s'') s')
        { s with heap := h₁, toks := s.toks + binds.length })
    (hco : scope.isCoroutine = false) (hgen : scope.isGenerator = false) (hk : scope.kind = .function)
    (hcell : ∀ x ∈ scope.names, x.2 ≠ .cell) : codeAny (model prog w) A (.call (.ref f) args) R s := by
  refine ks_codeAny_call_defAt (fd := ksFn name qual params body scope dV kV doc pm an cdv ct cc) (body := body) (binds := binds) hroom (Ld.keep _ _ (X _ _ ho)) rfl (T.nolimit.keeps Ld.keep) (codeRec_of (X.keeps Ld.keep) hcd) rfl hbind hcell hloc (fun h₁ hns hk₁ => ?_) hco hgen hk
  exact h s.heap.objs.size h₁ ⟨hns, fun b o e => hk₁ b o (Ld.keep b o e), Ld.size⟩ fun q hq => ⟨hk₁ _ _ (Ld.at_ q hq).1, Nat.ne_of_lt (Heap.lt_size (Ld.at_ q hq).1), (Ld.at_ q hq).2⟩
end
/-- what the top tells of the built-ins' module -/
structure Bm (h : Heap) (mg : Str → Option Value) : Prop where
  bm : ∃ bm ob, mg "__builtins__" = some (.ref bm) ∧ bm ≠ builtinsNs ∧ h.get? bm = some ob ∧ ob.cls = .type "module" ∧ ob.dict = some builtinsNs ∧ ob.data = .plain
theorem Bm.keeps {h h' : Heap} {mg : Str → Option Value} (B : Bm h mg) (k : ∀ b o, h.get? b = some o → h'.get? b = some o) : Bm h' mg := let ⟨bm, ob, h1, h2, h3, r⟩ := B.bm; ⟨bm, ob, h1, h2, k _ _ h3, r⟩
/-- contract of a def that changes the objects of led alone -/
noncomputable def Mut (w : World) (p' : Program) (loose : List Str) (D U : Nat) (f : Addr) (args : List Value) (pre : Heap → Prop) (led : List (Addr × Obj)) (Post : Value → List (Addr × Obj) → Prop) : Prop :=
  ∀ (dp un : Nat) (gd : Option (List Code)) (outer : List Env) (base g : Heap) (mean : ExcName → Option Value) (mg mb : Str → Option Value) (s : Shared) (Q E : Value → Shared → Prop), dp + D < recursionLimit → un + U < cLine → Below (Ar dp un gd outer) base outer g →
    (Kf w.params).In g → TopRead p' loose mg mb g → Led g s.heap led → pre g → Bm g mg → AllBare s.gens →
    (∀ v led' h' gs' tk', Post v led' → Led g h' led' → AllBare gs' → Q v { s with heap := h', gens := gs', toks := tk' }) →
    wpAny (model PySem.Challenge.rw_xn0030_01.row.prog w) (Ar dp un gd outer) (call (.ref f) args) Q E s
/-- contract of a def that changes nothing it did not make and reads what pre says -/
noncomputable def PureH (w : World) (p' : Program) (loose : List Str) (D U : Nat) (f : Addr) (args : List Value) (pre : Heap → Prop) (Post : Value → Prop) : Prop :=
  ∀ (dp un : Nat) (gd : Option (List Code)) (outer : List Env) (base : Heap) (mean : ExcName → Option Value) (mg mb : Str → Option Value) (s : Shared) (Q E : Value → Shared → Prop), dp + D < recursionLimit → un + U < cLine → Below (Ar dp un gd outer) base outer s.heap →
    (Kf w.params).In s.heap → TopRead p' loose mg mb s.heap → pre s.heap →
    (∀ v h' tk', Post v → Ext s.heap h' → Q v { s with heap := h', toks := tk' }) →
    wpAny (model PySem.Challenge.rw_xn0030_01.row.prog w) (Ar dp un gd outer) (call (.ref f) args) Q E s
section
variable {w : World} {p' : Program} {loose : List Str} {f : Addr} {args : List Value} {pre : Heap → Prop} {led rest news : List (Addr × Obj)} {Post : Value → List (Addr × Obj) → Prop} {PostP : Value → Prop} {R : Tok → Value}
  {A₀ A : Around} {s : Shared} {base h₀ : Heap} {outer : List Env} {L : Addr} {m mg mb : Str → Option Value} {env : Env} {Q E : Value → Shared → Prop} {dp un D U : Nat} {gd : Option (List Code)}
theorem base_of (B : Below A₀ base outer h₀) (F : Fr h₀ L s.heap m) (X : (Kf w.params).In h₀) (T : TopRead p' loose mg mb h₀) (N : News h₀ L s.heap led) (hA : A.frames = some (env :: outer)) (hf : env.frame = some L) (hke : env.scope.kind = .function) :
    ∃ g, Fr h₀ L g m ∧ Below A base (env :: outer) g ∧ (Kf w.params).In g ∧ TopRead p' loose mg mb g ∧ Led g s.heap led ∧ (∀ b o, s.heap.get? b = some o → b ∉ led.map (·.1) → g.get? b = some o) := by
  obtain ⟨FG, BG, st, _⟩ := groundX (R := fun _ _ => True) B F N hA hf hke
  exact ⟨_, FG, BG, X.keeps st, T.keeps st, ⟨fun b o e => of_hideAll _ e, Nat.le_of_eq (hideAll_size _ _), fun p hp => ⟨(N p hp).1, hideAll_none _ (List.mem_map_of_mem hp)⟩⟩, fun b o e n => hideAll_get _ e n⟩
theorem mut_callK (c : Mut w p' loose D U f args pre led Post) (B : Below A₀ base outer h₀) (F : Fr h₀ L s.heap m) (X : (Kf w.params).In h₀) (T : TopRead p' loose mg mb h₀) (N : News h₀ L s.heap news) (hA : A = Ar dp un gd (env :: outer)) (hf : env.frame = some L) (hke : env.scope.kind = .function)
    (hd : dp + D < recursionLimit) (hu : un + U < cLine)
    (hled : ∀ p ∈ led, p ∈ news) (hrest : ∀ p ∈ rest, p ∈ news ∧ p.1 ∉ led.map (·.1)) (hpre : ∀ g, (∀ b o, s.heap.get? b = some o → b ∉ led.map (·.1) → g.get? b = some o) → pre g)
    (BM : Bm h₀ mg) (hgs : AllBare s.gens)
    (h : ∀ v led' h' gs' tk', Post v led' → Fr h₀ L h' m → News h₀ L h' (led' ++ rest) → (∀ b o, s.heap.get? b = some o → b ∉ led.map (·.1) → h'.get? b = some o) → AllBare gs' → Q v { s with heap := h', gens := gs', toks := tk' }) :
    wpAny (model PySem.Challenge.rw_xn0030_01.row.prog w) A (call (.ref f) args) Q E s := by
  subst hA
  obtain ⟨g, FG, BG, XG, TG, LG, back⟩ := base_of (A := Ar dp un gd (env :: outer)) B F X T (fun p hp => N p (hled p hp)) rfl hf hke
  refine c dp un gd (env :: outer) base g (fun _ => none) mg mb s Q E hd hu BG XG TG LG (hpre g back) (BM.keeps FG.keep) hgs fun v led' h' gs' tk' hp l hb => ?_
  refine h v led' h' gs' tk' hp ⟨FG.ns.at' fun o e => l.keep _ o e, fun b o e => l.keep b o (FG.keep b o e), F.above⟩ (fun q hq => ?_) (fun b o e n => l.keep b o (back b o e n)) hb
  rcases List.mem_append.mp hq with hq | hq
  · refine ⟨(l.at_ q hq).1, fun e => ?_, ?_⟩
    · obtain ⟨o, _, _, ho, _⟩ := FG.ns
      have := (l.at_ q hq).2
      rw [e, ho] at this; cases this
    · cases z : h₀.get? q.1 with
      | none => rfl
      | some o => have := (l.at_ q hq).2; rw [FG.keep _ _ z] at this; cases this
  · obtain ⟨a, b⟩ := hrest q hq
    exact ⟨l.keep _ _ (back _ _ (N q a).1 b), (N q a).2⟩
theorem pureH_callK (c : PureH w p' loose D U f args pre PostP) (B : Below A₀ base outer h₀) (F : Fr h₀ L s.heap m) (X : (Kf w.params).In h₀) (T : TopRead p' loose mg mb h₀) (N : News h₀ L s.heap news) (hA : A = Ar dp un gd (env :: outer)) (hf : env.frame = some L) (hke : env.scope.kind = .function)
    (hd : dp + D < recursionLimit) (hu : un + U < cLine) (hpre : pre s.heap)
    (h : ∀ v h' tk', PostP v → Fr h₀ L h' m → News h₀ L h' news → Ext s.heap h' → Q v { s with heap := h', toks := tk' }) :
    wpAny (model PySem.Challenge.rw_xn0030_01.row.prog w) A (call (.ref f) args) Q E s := by
  subst hA
  have B' : Below (Ar dp un gd (env :: outer)) base (env :: outer) s.heap := by
    have z := pushX (A := A₀) B F hf hke
    exact ⟨rfl, z.stays, z.frames⟩
  exact c dp un gd (env :: outer) base (fun _ => none) mg mb s Q E hd hu B' (X.keeps F.keep) (T.keeps F.keep) hpre fun v h' tk' hp e => h v h' tk' hp (F.keeps e) (N.grown e) e
theorem pure_callK (c : Pure w p' loose f args R) (B : Below A₀ base outer h₀) (F : Fr h₀ L s.heap m) (X : (Kf w.params).In h₀) (T : TopRead p' loose mg mb h₀) (N : News h₀ L s.heap news) (hA : A = Ar dp un gd (env :: outer)) (hf : env.frame = some L) (hke : env.scope.kind = .function)
    (hd : dp + 3 < recursionLimit) (hu : un + 20 < cLine)
    (h : ∀ t h' tk', Fr h₀ L h' m → News h₀ L h' news → Ext s.heap h' → Q (R t) { s with heap := h', toks := tk' }) :
    wpAny (model PySem.Challenge.rw_xn0030_01.row.prog w) A (call (.ref f) args) Q E s := by
  subst hA
  have B' : Below (Ar dp un gd (env :: outer)) base (env :: outer) s.heap := by
    have z := pushX (A := A₀) B F hf hke
    exact ⟨rfl, z.stays, z.frames⟩
  exact c dp un gd (env :: outer) base (fun _ => none) mg mb s Q E hd hu B' (X.keeps F.keep) (T.keeps F.keep) fun t h' tk' e => h t h' tk' (F.keeps e) (N.grown e) e
end
end
section
section
variable {w : World} {p' : Program} {loose : List Str} {f : Addr} {args : List Value} {pre : Heap → Prop} {led rest news news1 : List (Addr × Obj)} {fN : Obj → List (Addr × Obj)} {Post : Value → List (Addr × Obj) → Prop}
  {A₀ A : Around} {s : Shared} {base h₀ : Heap} {outer : List Env} {L a d : Addr} {o o1 od : Obj} {m mg mb : Str → Option Value} {env : Env} {Q E : Value → Shared → Prop} {dp un D U : Nat} {gd : Option (List Code)}
theorem mut2_callK (c : Mut w p' loose D U f args pre [(a, o), (d, od)] Post) (B : Below A₀ base outer h₀) (F : Fr h₀ L s.heap m) (X : (Kf w.params).In h₀) (T : TopRead p' loose mg mb h₀) (N : News h₀ L s.heap news) (hA : A = Ar dp un gd (env :: outer)) (hf : env.frame = some L) (hke : env.scope.kind = .function)
    (hd : dp + D < recursionLimit) (hu : un + U < cLine) (BM : Bm h₀ mg) (hgs : AllBare s.gens) (had : a ≠ d) (Ua : Upd a o o1 news news1) (Uf : UpdF d od news1 fN)
    (hpre : ∀ g, (∀ b o', s.heap.get? b = some o' → b ≠ a → b ≠ d → g.get? b = some o') → pre g) (hpost : ∀ v led', Post v led' → ∃ od', led' = [(a, o1), (d, od')])
    (h : ∀ v od' h' gs' tk', Post v [(a, o1), (d, od')] → Fr h₀ L h' m → News h₀ L h' (fN od') → AllBare gs' → (∀ b ob, s.heap.get? b = some ob → b ≠ a → b ≠ d → h'.get? b = some ob) → Q v { s with heap := h', gens := gs', toks := tk' }) :
    wpAny (model PySem.Challenge.rw_xn0030_01.row.prog w) A (call (.ref f) args) Q E s := by
  obtain ⟨p1, p2, rfl, e1, h1, h2⟩ := Ua.split
  obtain ⟨q1, q2, e2, hfN, h3, h4⟩ := Uf.split
  have hmem : (d, od) ∈ p1 ++ (a, o) :: p2 := by
    have hm : (d, od) ∈ news1 := by rw [e2]; exact List.mem_append_right _ (.head _)
    rw [e1] at hm
    rcases List.mem_append.mp hm with hm | hm
    · exact List.mem_append_left _ hm
    · rcases List.mem_cons.mp hm with hm | hm
      · exact absurd (congrArg Prod.fst hm).symm had
      · exact List.mem_append_right _ (.tail _ hm)
  refine mut_callK (rest := (p1 ++ p2).filter fun q => !(Nat.beq q.1 d)) c B F X T N hA hf hke hd hu (fun p hp => ?_) (fun p hp => ?_) (fun g hg => hpre g fun b o' e n n' => hg b o' e (by simp [n, n'])) BM hgs fun v led' h' gs' tk' hP F' N' hk hb => ?_
  · rcases List.mem_cons.mp hp with rfl | hp
    · simp
    · rw [List.mem_singleton.mp hp]; exact hmem
  · obtain ⟨hp, hn⟩ := List.mem_filter.mp hp
    have hpd : p.1 ≠ d := fun e => by rw [e] at hn; simp at hn
    rcases List.mem_append.mp hp with hp | hp
    · exact ⟨List.mem_append_left _ hp, by simp [hpd, h1 p hp]⟩
    · exact ⟨List.mem_append_right _ (.tail _ hp), by simp [hpd, h2 p hp]⟩
  · obtain ⟨od', rfl⟩ := hpost v led' hP
    refine h v od' h' gs' tk' hP F' (fun q hq => N' q ?_) hb fun b ob e n n' => hk b ob e (by simp [n, n'])
    rw [hfN] at hq
    have old : ∀ q ∈ q1 ++ q2, q ∈ [(a, o1), (d, od')] ++ (p1 ++ p2).filter fun q => !(Nat.beq q.1 d) := fun q hq => by
      have hqd : q.1 ≠ d := by
        rcases List.mem_append.mp hq with hq | hq
        · exact h3 q hq
        · exact h4 q hq
      have hm : q ∈ news1 := by
        rw [e2]
        rcases List.mem_append.mp hq with hq | hq
        · exact List.mem_append_left _ hq
        · exact List.mem_append_right _ (.tail _ hq)
      rw [e1] at hm
      have flt : ∀ q ∈ p1 ++ p2, q.1 ≠ d → q ∈ (p1 ++ p2).filter fun q => !(Nat.beq q.1 d) := fun q hq n => List.mem_filter.mpr ⟨hq, by
        cases z : Nat.beq q.1 d with
        | true => exact absurd (Nat.eq_of_beq_eq_true z) n
        | false => rfl⟩
      rcases List.mem_append.mp hm with hm | hm
      · exact List.mem_append_right _ (flt q (List.mem_append_left _ hm) hqd)
      · rcases List.mem_cons.mp hm with rfl | hm
        · simp
        · exact List.mem_append_right _ (flt q (List.mem_append_right _ hm) hqd)
    rcases List.mem_append.mp hq with hq | hq
    · exact old q (List.mem_append_left _ hq)
    · rcases List.mem_cons.mp hq with rfl | hq
      · simp
      · exact old q (List.mem_append_right _ hq)
end
end
section
theorem inst_seq {h : Heap} {x C dx : Addr} {od : Obj} {sl : Array (Option Value)} {vs : Array Value} {n : Nat} (h1 : h.get? x = some ⟨.ref C, some dx, .seq vs n, sl⟩) (h2 : h.get? dx = some od) : InstAt h x ⟨.ref C, some dx, .seq vs n, sl⟩ C (some od) :=
  ⟨h1, rfl, rfl, h2⟩
section
variable {prog : Program} {w : World} {A : Around} {E : Value → Shared → Prop} {s : Shared} {K : Frag} {x C : Addr} {ox : Obj} {od : Option Obj} {name : Str} {id owner nm : String}
theorem canon_lga : (Manifest.canonical "list.__getattribute__" != "object.__getattribute__") = false := by decide +kernel
theorem method_bi {pl : Sem Bool} {Q : Value × List Value → Shared → Prop} (X : K.In s.heap) (I : InstAt s.heap x ox C od) (hga : findIn K (.ref C) "__getattribute__" = some (some (.builtin "list.__getattribute__"))) (hk : findIn K (.ref C) "__getattr__" = some none)
    (hf : findIn K (.ref C) name = some (some (.builtin id))) (ht : builtinType id = pure (.type "method_descriptor")) (hs : shadowIn od name = some false) (h : Q (.builtin id, [.ref x]) s) :
    wpAny (model prog w) A (getMethod (.ref x) name pl) Q E s := by
  have hcan := canon_lga
  unfold getMethod specialOf
  refine wpAny_bind (wpAny_bind (I.type.here ((looks_findIn X hga).here ?_)))
  dsimp only
  rw [hcan, if_neg (by decide)]
  refine wpAny_bind (wpAny_bind (I.type.here ((looks_findIn X hk).here ?_)))
  refine wpAny_bind (wpAny_bind (I.type.here ((looks_findIn X hf).here (wpAny_bind (wpAny_of_eq ht ?_)))))
  rw [if_neg (by decide +kernel)]
  refine wpAny_bind (wpAny_loadPart I.at_ ?_)
  have hd := I.dict
  cases e : ox.dict with
  | none => exact wpAny_bind (wpAny_rule (wpAny_pure h))
  | some dx =>
    cases od with
    | none => rw [e] at hd; exact hd.elim
    | some o =>
      rw [e] at hd
      obtain ⟨r, a, b⟩ := Option.map_eq_some_iff.mp hs
      refine wpAny_bind (wpAny_bind (wpAny_loadPart hd ?_))
      rw [nsLook_of a]
      refine wpAny_pure ?_
      rw [b]
      exact wpAny_bind (wpAny_rule (wpAny_pure h))
theorem method_fnL {f : Addr} {pl : Sem Bool} {Q : Value × List Value → Shared → Prop} (X : K.In s.heap) (I : InstAt s.heap x ox C od) (hga : findIn K (.ref C) "__getattribute__" = some (some (.builtin "list.__getattribute__"))) (hk : findIn K (.ref C) "__getattr__" = some none)
    (hf : findIn K (.ref C) name = some (some (.ref f))) (ht : typeIn K (.ref f) = some (.type "function")) (hs : shadowIn od name = some false) (h : Q (.ref f, [.ref x]) s) :
    wpAny (model prog w) A (getMethod (.ref x) name pl) Q E s := by
  have hcan := canon_lga
  unfold getMethod specialOf
  refine wpAny_bind (wpAny_bind (I.type.here ((looks_findIn X hga).here ?_)))
  dsimp only
  rw [hcan, if_neg (by decide)]
  refine wpAny_bind (wpAny_bind (I.type.here ((looks_findIn X hk).here ?_)))
  refine wpAny_bind (wpAny_bind (I.type.here ((looks_findIn X hf).here (wpAny_bind ((looks_typeIn X ht).here ?_)))))
  rw [if_neg (by decide +kernel)]
  refine wpAny_bind (wpAny_loadPart I.at_ ?_)
  have hd := I.dict
  cases e : ox.dict with
  | none => exact wpAny_bind (wpAny_rule (wpAny_pure h))
  | some dx =>
    cases od with
    | none => rw [e] at hd; exact hd.elim
    | some o =>
      rw [e] at hd
      obtain ⟨r, a, b⟩ := Option.map_eq_some_iff.mp hs
      refine wpAny_bind (wpAny_bind (wpAny_loadPart hd ?_))
      rw [nsLook_of a]
      refine wpAny_pure ?_
      rw [b]
      exact wpAny_bind (wpAny_rule (wpAny_pure h))
/-- facts of a built-in that is a slot or a method of owner -/
structure OfOwner (id owner nm : String) (b : Builtin) : Prop where
  split : splitId id = some (owner, nm)
  op : withoutEnding? id "#opaque" = none
  dat : withoutEnding? id "#data" = none
  kind : (Manifest.find? owner).bind (·.attrs.lookup nm) = some .slot ∨ (Manifest.find? owner).bind (·.attrs.lookup nm) = some .method
  plain : plainId id = true
  entry : entryFor table id = some b
theorem check_sub {b : Builtin} {rest : List Value} {kw : List (Str × Value)} {Q : Unit → Shared → Prop} (O : OfOwner id owner nm b) (X : K.In s.heap) (I : InstAt s.heap x ox C od) (hsub : mroIn K C (.type owner) = some true)
    (ha : argsOk id ⟨.ref x :: rest, kw⟩) (h : Q () s) : wpAny (model prog w) A (checkBuiltinCall id ⟨.ref x :: rest, kw⟩) Q E s := by
  have hk : builtinKind id = (Manifest.find? owner).bind (·.attrs.lookup nm) := by simp only [builtinKind, O.split]
  have hi : Looks (model prog w) s.heap (isInstance (.ref x) (.type owner)) true := I.type.andThen (looks_mroIn X hsub)
  rcases O.kind with h' | h' <;>
  · simp only [checkBuiltinCall, hk, h', O.split]
    refine wpAny_bind (hi.here ?_)
    simp only [Bool.not_true, Bool.false_eq_true, if_false]
    cases hsig : Manifest.signature? id with
    | none => exact wpAny_pure h
    | some sig =>
      simp only [argsOk, hsig] at ha
      have h2 : Bind.checkArgs id sig ⟨.ref x :: rest, kw⟩ = pure () := ha
      show wpAny _ A (Bind.checkArgs id sig ⟨.ref x :: rest, kw⟩) Q E s
      rw [h2]; exact wpAny_pure h
theorem call_sub {b : Builtin} {rest : List Value} {Q : Value → Shared → Prop} (O : OfOwner id owner nm b) (X : K.In s.heap) (I : InstAt s.heap x ox C od) (hsub : mroIn K C (.type owner) = some true)
    (hc : wpAny (model prog w) A.in1 (b ⟨.ref x :: rest, []⟩) (fun fin s' => ∃ v, fin = .done (.ret v) ∧ Q v s') E s)
    (ha : argsOk id ⟨.ref x :: rest, []⟩ := by (unfold argsOk; kernel_rfl)) : wpAny (model prog w) A (call (.builtin id) (.ref x :: rest)) Q E s := by
  refine wpAny_call (codeAny_call_builtin O.plain O.entry (check_sub O X I hsub ha (wpAny_mono hc (fun fin s' h' => ?_) fun _ _ h' => h')))
  obtain ⟨v, rfl, hv⟩ := h'; exact hv
theorem bind_own {b : Builtin} (O : OfOwner id owner nm b) (self : Value) : bindSpecial (.builtin id) self = pure (.builtin id, [self]) := by
  have hk : builtinKind id = (Manifest.find? owner).bind (·.attrs.lookup nm) := by simp only [builtinKind, O.split]
  rcases O.kind with h | h <;> (simp only [bindSpecial, typeOf, builtinType, O.op, O.dat, hk, h]; rfl)
theorem special_sub {b : Builtin} {args : List Value} {Q : Option Value → Shared → Prop} (O : OfOwner id owner nm b) (X : K.In s.heap) (I : InstAt s.heap x ox C od) (hf : findIn K (.ref C) name = some (some (.builtin id)))
    (hc : wpAny (model prog w) A (call (.builtin id) (.ref x :: args)) (fun v => Q (some v)) E s) : wpAny (model prog w) A (callSpecial? (.ref x) name args) Q E s := by
  unfold callSpecial? specialOf
  refine wpAny_bind (wpAny_bind (I.type.here ((looks_findIn X hf).here ?_)))
  dsimp only
  rw [bind_own O]
  exact wpAny_holding (wpAny_bind (wpAny_pure (wpAny_bind (wpAny_mono hc (fun v s' h' => wpAny_pure h') fun _ _ h' => h'))))
end
theorem O_ga : OfOwner "list.__getattribute__" "list" "__getattribute__" Builtin.«object.__getattribute__» := ⟨by decide +kernel, by decide +kernel, by decide +kernel, .inl (by decide +kernel), by decide +kernel,
  entryFor_alias (id' := "object.__getattribute__") (by kernel_rfl) (by decide +kernel) (by decide +kernel) (by kernel_rfl)⟩
theorem T_append : builtinType "list.append" = pure (.type "method_descriptor") := by kernel_rfl
theorem O_append : OfOwner "list.append" "list" "append" Builtin.«list.append» := ⟨by decide +kernel, by decide +kernel, by decide +kernel, .inr (by decide +kernel), by decide +kernel, entry_list_append⟩
theorem O_pop : OfOwner "list.pop" "list" "pop" Builtin.«list.pop» := ⟨by decide +kernel, by decide +kernel, by decide +kernel, .inr (by decide +kernel), by decide +kernel, entryFor_of_tree (by kernel_rfl)⟩
theorem O_len : OfOwner "list.__len__" "list" "__len__" Builtin.«list.__len__» := ⟨by decide +kernel, by decide +kernel, by decide +kernel, .inl (by decide +kernel), by decide +kernel, entryFor_of_tree (by kernel_rfl)⟩
theorem O_init : OfOwner "list.__init__" "list" "__init__" Builtin.«list.__init__» := ⟨by decide +kernel, by decide +kernel, by decide +kernel, .inl (by decide +kernel), by decide +kernel, entryFor_of_tree (by kernel_rfl)⟩
theorem O_iter : OfOwner "list.__iter__" "list" "__iter__" Builtin.«list.__iter__» := ⟨by decide +kernel, by decide +kernel, by decide +kernel, .inl (by decide +kernel), by decide +kernel, entry_list_iter⟩
theorem O_getitem : OfOwner "list.__getitem__" "list" "__getitem__" Builtin.«list.__getitem__» := ⟨by decide +kernel, by decide +kernel, by decide +kernel, by first | exact .inl (by decide +kernel) | exact .inr (by decide +kernel), by decide +kernel, entryFor_of_tree (by kernel_rfl)⟩
theorem O_setitem : OfOwner "list.__setitem__" "list" "__setitem__" Builtin.«list.__setitem__» := ⟨by decide +kernel, by decide +kernel, by decide +kernel, by first | exact .inl (by decide +kernel) | exact .inr (by decide +kernel), by decide +kernel, entryFor_of_tree (by kernel_rfl)⟩
noncomputable abbrev accO (d : Addr) (its : List Value) (n : Nat) : Obj := ⟨.ref 178, some d, .seq its.toArray n, #[]⟩
noncomputable abbrev tupO (x : Str) (tx : Tok) (y : Str) (ty : Tok) (n : Nat) : Obj := ⟨.type "tuple", none, .seq #[.str x tx, .str y ty] n, #[]⟩
theorem mapSeq_acc {d : Option Addr} {its : List Value} {n : Nat} {c : Value} {f : Array Value → Array Value} {its' : List Value} (hf : f its.toArray = its'.toArray) : Obj.mapSeq f ⟨c, d, .seq its.toArray n, #[]⟩ = ⟨c, d, .seq its'.toArray (if its'.length == its.length then n else n + 1), #[]⟩ := by
  unfold Obj.mapSeq
  dsimp only
  rw [hf]
  simp
section
variable {prog : Program} {w : World} {A : Around} {E : Value → Shared → Prop} {s : Shared} {K : Frag} {x C : Addr} {ox : Obj} {od : Option Obj} {name : Str}
theorem get_valueL {v : Value} {expr : Bool} {Q : Value → Shared → Prop} (X : K.In s.heap) (I : InstAt s.heap x ox C od) (hga : findIn K (.ref C) "__getattribute__" = some (some (.builtin "list.__getattribute__")))
    (hk : findIn K (.ref C) "__getattr__" = some none) (hsub : mroIn K C (.type "list") = some true) (hf : findObj K C od name = some (.value v)) (hh : handedIn v = true) (h : Q v { s with toks := s.toks + 1 }) : wpAny (model prog w) A (getAttr (.ref x) name expr) Q E s := by
  obtain ⟨hh', g, d, t, os⟩ := s
  have L0 := I.type (M := model prog w)
  have L1 := looks_findIn (M := model prog w) X hga
  have L2 := looks_findIn (M := model prog w) X hk
  have L3 := looks_find (M := model prog w) X I hf
  unfold getAttr getAttrBy
  refine wpAny_bind (wpAny_mkText (wpAny_holding (wpAny_bind (L0.at (wpAny_bind (L1.at ?_))))))
  show wpAny _ _ (getAttrByItsOwn _ _ _ _ _ _) _ _ _
  unfold getAttrByItsOwn
  refine wpAny_bind (L2.at (wpAny_bind (wpAny_attempt (wpAny_holding ?_))))
  show wpAny _ _ (callGetattribute _ _ _ _) _ _ _
  unfold callGetattribute
  rw [if_neg (by simp [onTheHeap])]
  unfold boundAndCalled
  rw [bind_own O_ga]
  refine wpAny_bind (wpAny_pure (call_sub O_ga X I hsub ?_))
  refine wpAny_bind (wpAny_pure (wpAny_bind (wpAny_pure (wpAny_bind (L0.at (wpAny_bind (L3.at ?_)))))))
  refine wpAny_pure ⟨_, rfl, ?_⟩
  show wpAny _ _ (handedOut v) _ _ _
  rw [handedOut_of hh]; exact wpAny_pure h
end
section
variable {prog : Program} {w : World} {A : Around} {E : Value → Shared → Prop} {s : Shared} {K : Frag} {a d C L : Addr} {od : Obj} {its : List Value} {n : Nat} {h₀ : Heap} {m : Str → Option Value} {news news' : List (Addr × Obj)}
/-- a store into the instance's items -/
theorem upd_acc {its' : List Value} {f : Array Value → Array Value} {Q : Unit → Shared → Prop} (F : Fr h₀ L s.heap m) (N : News h₀ L s.heap news) (hf : f its.toArray = its'.toArray)
    (U : Upd a ⟨.ref C, some d, .seq its.toArray n, #[]⟩ ⟨.ref C, some d, .seq its'.toArray (if its'.length == its.length then n else n + 1), #[]⟩ news news') (hz : its.length ≤ 1000) (hz' : its'.length ≤ 1000)
    (h : ∀ h', Fr h₀ L h' m → News h₀ L h' news' → Q () { s with heap := h' }) : wpAny (model prog w) A (updateSeq a f) Q E s := by
  obtain ⟨pre, post, rfl, rfl, h1, h2⟩ := U.split
  have hm := N (a, _) (List.mem_append_right _ (.head _))
  obtain ⟨F', N'⟩ := news_upd (f := Obj.mapSeq f) F N h1 h2 (mapSeq_acc hf) rfl
  exact wpAny_updateSeq hm.1 rfl (h _ F' N') (by rw [List.size_toArray]; unfold sizeLine; omega) (by rw [hf, List.size_toArray]; unfold sizeLine; omega)
theorem append_sub {v : Value} {Q : Value → Shared → Prop} (F : Fr h₀ L s.heap m) (X : K.In h₀) (N : News h₀ L s.heap news) (I : InstAt s.heap a ⟨.ref C, some d, .seq its.toArray n, #[]⟩ C (some od)) (hsub : mroIn K C (.type "list") = some true)
    (U : Upd a ⟨.ref C, some d, .seq its.toArray n, #[]⟩ ⟨.ref C, some d, .seq (its ++ [v]).toArray (if (its ++ [v]).length == its.length then n else n + 1), #[]⟩ news news') (hz : its.length ≤ 900)
    (h : ∀ h', Fr h₀ L h' m → News h₀ L h' news' → Q .none { s with heap := h' }) : wpAny (model prog w) A (call (.builtin "list.append") [.ref a, v]) Q E s := by
  refine call_sub O_append (X.keeps F.keep) I hsub ?_ (args_list_append _ _)
  show wpAny _ _ (updateSeq a (·.push v) >>= fun _ => ret .none) _ _ s
  exact wpAny_bind (upd_acc F N (by simp) U (by omega) (by simp; omega) fun h' F' N' => wpAny_pure ⟨_, rfl, h h' F' N'⟩)
end
end
section
open Builtin Builtin.ObjectAttr
theorem refuse_list (self : Value) : refuseLoop self "__setattr__" [.type "list", .type "object"] = pure () := by kernel_rfl
section
variable {prog : Program} {w : World} {A : Around} {E : Value → Shared → Prop} {s : Shared} {K : Frag} {x C dx L : Addr} {ox od : Obj} {name : Str} {h₀ : Heap} {m : Str → Option Value} {news news' : List (Addr × Obj)} {R : Result → Shared → Prop} {es es' : List DictEntry} {n n' : Nat}
theorem store_dict {tk : Tok} {v : Value} {b : Bool} {cd : ClassData} {Q : Fin → Shared → Prop} (F : Fr h₀ L s.heap m) (N : News h₀ L s.heap news) (X : K.In s.heap)
    (I : InstAt s.heap x ox C (some (dictOf es n))) (hd : ox.dict = some dx) (hc : clsIn K C = some cd) (hh : cd.hasDict = true) (hl : (getL name es).isSome = true)
    (e : (putL name (PyData.keyHash w.params name) (.str name s.toks) v es, putN name es n) = (es', n')) (U : Upd dx (dictOf es n) (dictOf es' n') news news') (hz : es'.length ≤ 1000)
    (h : ∀ h', Fr h₀ L h' m → News h₀ L h' news' → Q (.done (.ret .none)) { s with heap := h', toks := s.toks + 1 }) :
    wpAny (model prog w) A (storeInOwnDict (.ref x) (.ref C) (.str name tk) name v b) Q E s := by
  obtain ⟨pre, post, rfl, rfl, h1, h2⟩ := U.split
  obtain ⟨e1, e2⟩ := Prod.mk.inj e
  have e : Obj.putName name (PyData.keyHash w.params name) (.str name s.toks) v (dictOf es n) = dictOf es' n' := by rw [putName_dict, e1, e2]
  obtain ⟨U1, U2⟩ := news_upd (f := Obj.putName name (PyData.keyHash w.params name) (.str name s.toks) v) F N h1 h2 e rfl
  have D := (N (dx, dictOf es n) (by simp)).1
  have D' := (U2 (dx, dictOf es' n') (by simp)).1
  obtain ⟨hx, hcl, hn, -⟩ := I
  obtain ⟨oc, odi, oda, osl⟩ := ox
  dsimp only at hcl hd
  subst hcl hd
  refine wpAny_bind (wpAny_pure (wpAny_bind (wpAny_bind (wpAny_loadPart hx (wpAny_bind ((looks_clsIn X hc).here ?_))))))
  rw [hh]
  refine wpAny_pure (a := some dx) (wpAny_bind (wpAny_pure (wpAny_bind ?_)))
  unfold nsSet
  refine wpAny_bind (wpAny_bind (wpAny_askSetting (wpAny_pure (wpAny_bind (wpAny_mkText (wpAny_bind (wpAny_loadPart D ?_)))))))
  dsimp only
  have hl' : (lookIn name (dictOf es n)).isSome = true := hl
  unfold lookIn at hl'
  dsimp only at hl'
  have c : (!es.toArray.any (·.key.isStr name) && es.toArray.any (·.refKey)) = false := by
    rw [← Array.any_toList, ← Array.any_toList]
    split at hl'
    · rename_i en he
      rw [List.any_eq_true.mpr ⟨en, List.mem_of_find?_eq_some he, List.find?_some he⟩]; rfl
    · split at hl'
      · cases hl'
      · rename_i z; rw [Bool.not_eq_true] at z; rw [z, Bool.and_false]
  rw [aRefKeyMayBeTheName_at, c]
  refine wpAny_updatePart D ?_
  refine wpAny_bind (wpAny_lookBehind D' (pastItsLine_dict (by rw [List.size_toArray, sizeLine_eq]; omega)) ?_)
  exact wpAny_pure (h _ U1 U2)
theorem set_dictL {v : Value} {cd : ClassData} {Q : Unit → Shared → Prop} (F : Fr h₀ L s.heap m) (X₀ : K.In h₀) (N : News h₀ L s.heap news) (I : InstAt s.heap x ox C (some (dictOf es n))) (hd : ox.dict = some dx)
    (hs : findIn K (.ref C) "__setattr__" = some (some (.builtin "object.__setattr__"))) (hc : clsIn K C = some cd) (hm : cd.mro = [.ref C, .type "list", .type "object"]) (ht : takerIn K C name = some none) (hh : cd.hasDict = true) (hl : (getL name es).isSome = true)
    (e : (putL name (PyData.keyHash w.params name) (.str name (s.toks + 1)) v es, putN name es n) = (es', n')) (U : Upd dx (dictOf es n) (dictOf es' n') news news') (hz : es'.length ≤ 1000)
    (h : ∀ h', Fr h₀ L h' m → News h₀ L h' news' → Q () { s with heap := h', toks := s.toks + 2 }) :
    wpAny (model prog w) A (setAttr (.ref x) name v) Q E s := by
  have X := X₀.keeps F.keep
  have SF := PySem.F.store_object
  refine set_plain X I hs ?_
  have sub : Looks (model prog w) s.heap (isInstance (.ref x) (.type "object")) true := I.type.andThen (looks_mroIn X (by unfold mroIn; rw [hc, Option.bind_some, hm]; rfl))
  refine codeAny_call_builtin SF.slot.plain SF.entry (@check_slot (model prog w) _ _ { s with toks := s.toks + 1 } "object.__setattr__" "object" "__setattr__" (.ref x) [.str name s.toks, v] [] _ SF.kind SF.split sub (SF.args (.ref x) (.str name s.toks) v) ?_)
  obtain ⟨attr, ha, hr⟩ := Option.bind_eq_some_iff.mp ht
  have hmr : Looks (model prog w) s.heap (mroOf (.ref C)) cd.mro := (looks_clsIn X hc).andThen .now
  have L3 : Looks (model prog w) s.heap (storeTaker? attr) none := by
    cases attr with
    | none => cases hr; exact .now
    | some a =>
      obtain ⟨b, hb, hb'⟩ := Option.map_eq_some_iff.mp hr
      refine (looks_takesIn X hb).andThen ?_
      cases b
      · exact .now
      · cases hb'
  have L0 := I.type (M := model prog w)
  have LF := looks_findIn (M := model prog w) X ha
  rw [osa_eq, refuse_eq]
  refine wpAny_bind (wpAny_bind (L0 _ _ _ _ (fun _ _ e => e) (wpAny_bind (hmr _ _ _ _ (fun _ _ e => e) ?_))))
  rw [hm, refuseLoop_ref, refuse_list]
  refine wpAny_pure (wpAny_bind (L0 _ _ _ _ (fun _ _ e => e) (wpAny_bind (LF _ _ _ _ (fun _ _ e => e) (wpAny_bind (L3 _ _ _ _ (fun _ _ e => e) ?_))))))
  exact store_dict (s := { s with toks := s.toks + 1 }) F N X I hd hc hh hl e U hz fun h' F' N' => h h' F' N'
end
end
section
open Builtin Builtin.List
section
variable {prog : Program} {w : World} {A : Around} {E : Value → Shared → Prop} {s : Shared} {K : Frag} {a d C L : Addr} {od : Obj} {its zs : List Value} {n : Nat} {h₀ : Heap} {m : Str → Option Value} {news news' : List (Addr × Obj)}
theorem seqKey_sub {M : Model} {k : Value} {name : Str} {ox : Obj} {odx : Option Obj} {Q : Value → Shared → Prop} (X : K.In s.heap) (I : InstAt s.heap a ox C odx) (hq : noSeq K C = true) (h : Q k s) : wpAny M A (sequenceKey (.ref a) k name) Q E s := by
  unfold sequenceKey
  refine wpAny_bind (I.type.here ?_)
  refine wpAny_bind ((anyM_none X hq).here ?_)
  rw [if_pos (show (!false) = true from rfl)]
  exact wpAny_pure h
theorem getItem_sub {k : Int} {t : Tok} {x : Value} {Q : Value → Shared → Prop} (X : K.In s.heap) (I : InstAt s.heap a ⟨.ref C, some d, .seq its.toArray n, #[]⟩ C (some od)) (hsub : mroIn K C (.type "list") = some true) (hq : noSeq K C = true)
    (hf : findIn K (.ref C) "__getitem__" = some (some (.builtin "list.__getitem__"))) (h0 : 0 ≤ k) (hfit : k < 2 ^ 63) (hx : its[k.toNat]? = some x) (h : Q x s) : wpAny (model prog w) A (getItem (.ref a) (.int k t)) Q E s := by
  unfold getItem
  refine wpAny_holding (wpAny_bind (seqKey_sub X I hq (wpAny_bind (special_sub O_getitem X I hf (call_sub O_getitem X I hsub ?_ (args_list_getitem _ _))))))
  show wpAny _ _ (listSubscript? (.int k t) >>= _) _ _ s
  refine wpAny_bind (wpAny_listSubscript_int (fitsIndex_of h0 hfit) ?_)
  clear hfit
  obtain ⟨j, rfl⟩ := Int.eq_ofNat_of_zero_le h0
  have hx' : its.toArray[j]? = some x := by simpa using hx
  show wpAny _ _ ((seqItemAt a j >>= fun r => pure (r.map (j, ·))) >>= _) _ _ s
  refine wpAny_bind (wpAny_bind (wpAny_seqItemAt I.at_ rfl (wpAny_pure ?_)))
  rw [hx']
  first
    | exact wpAny_bind (wpAny_pure (wpAny_pure ⟨x, rfl, wpAny_pure h⟩))
    | exact wpAny_pure ⟨x, rfl, wpAny_pure h⟩
theorem tail_sub {value slice : Expr} {i : Value} {ops : List Value} {ox : Obj} {odx : Option Obj} {Q : Value → Shared → Prop} (X : K.In s.heap) (I : InstAt s.heap a ox C odx)
    (hf : findIn K (.ref C) "__getitem__" = some (some (.builtin "list.__getitem__"))) (hg : wpAny (model prog w) A (getItem (.ref a) i) Q E s)
    (hs : subscripted slice false (.ref a) i = operate ops (getItem (.ref a) i)) : wpAny (model prog w) A (subscriptTail value slice (.ref a) i) Q E s := by
  unfold subscriptTail getitemInPython specialOf
  refine wpAny_bind (wpAny_bind (wpAny_bind (I.type.here ((looks_findIn X hf).here ?_))))
  refine wpAny_pure ?_
  rw [hs]
  refine wpAny_bind (wpAny_operating (wpAny_mono hg (fun r s₃ h₃ => wpAny_bind (wpAny_letTemporaryGo (wpAny_pure h₃))) fun _ _ x => x))
theorem tailInt_sub {value slice : Expr} {k : Int} {t : Tok} {x : Value} {Q : Value → Shared → Prop} (X : K.In s.heap) (I : InstAt s.heap a ⟨.ref C, some d, .seq its.toArray n, #[]⟩ C (some od)) (hsub : mroIn K C (.type "list") = some true) (hq : noSeq K C = true)
    (hf : findIn K (.ref C) "__getitem__" = some (some (.builtin "list.__getitem__"))) (h0 : 0 ≤ k) (hfit : k < 2 ^ 63) (hx : its[k.toNat]? = some x) (h : Q x s)
    (hs : subscripted slice false (.ref a) (.int k t) = operate [.ref a, .int k t] (getItem (.ref a) (.int k t)) := by with_unfolding_all rfl) : wpAny (model prog w) A (subscriptTail value slice (.ref a) (.int k t)) Q E s :=
  tail_sub X I hf (getItem_sub X I hsub hq hf h0 hfit hx h) hs
theorem slice_sub {value slice : Expr} {vl vu : Value} {lo hi : Option Int} {Q : Value → Shared → Prop} (F : Fr h₀ L s.heap m) (X₀ : K.In h₀) (N : News h₀ L s.heap news) (I : InstAt s.heap a ⟨.ref C, some d, .seq its.toArray n, #[]⟩ C (some od)) (hsub : mroIn K C (.type "list") = some true) (hq : noSeq K C = true)
    (hf : findIn K (.ref C) "__getitem__" = some (some (.builtin "list.__getitem__"))) (pl : IsPart vl lo) (pu : IsPart vu hi) (e : (slicePick its.toArray lo hi none).toList = zs)
    (h : ∀ D h', Fr h₀ L h' m → News h₀ L h' ((D, listOf zs.toArray 0) :: news) → (∀ p ∈ news, p.1 < D) → Q (.ref D) { s with heap := h' })
    (hs : subscripted slice false (.ref a) (.ref s.heap.objs.size) = operate [.ref s.heap.objs.size, .ref a] (getItem (.ref a) (.ref s.heap.objs.size))) (hz : its.length ≤ 1000) :
    wpAny (model prog w) A (subscriptTail value slice (.ref a) (.ref s.heap.objs.size)) Q E { s with heap := s.heap.push { cls := .type "slice", data := .fields #[vl, vu, .none] } } := by
  have up : ∀ b o, s.heap.get? b = some o → (s.heap.push { cls := .type "slice", data := .fields #[vl, vu, .none] }).get? b = some o := fun b o e => Heap.get?_push_of_some _ e
  have X : K.In (s.heap.push { cls := .type "slice", data := .fields #[vl, vu, .none] }) := fun b o q => up b o ((X₀.keeps F.keep) b o q)
  have I' : InstAt (s.heap.push { cls := .type "slice", data := .fields #[vl, vu, .none] }) a ⟨.ref C, some d, .seq its.toArray n, #[]⟩ C (some od) := ⟨up _ _ I.at_, I.cls, I.no, up _ _ I.dict⟩
  have F1 := F.push { cls := .type "slice", data := .fields #[vl, vu, .none] }
  have N1 : News h₀ L (s.heap.push { cls := .type "slice", data := .fields #[vl, vu, .none] }) news := N.grown up
  have hs' := Heap.IsSliceOf.new s.heap vl vu .none
  generalize hH : s.heap.push { cls := .type "slice", data := .fields #[vl, vu, .none] } = H at *
  have hsz : H.objs.size = s.heap.objs.size + 1 := by rw [← hH, Heap.size_push]
  have hpl : s.heap.objs.size < H.objs.size := by omega
  refine tail_sub (s := { s with heap := H }) X I' hf ?_ hs
  unfold getItem
  refine wpAny_holding (wpAny_bind (seqKey_sub X I' hq (wpAny_bind (special_sub O_getitem X I' hf (call_sub O_getitem X I' hsub ?_ (args_list_getitem _ _))))))
  obtain ⟨os, hos, hcs, hds⟩ := id hs'
  have hTs : Shared.TypeIs { s with heap := H } (.ref s.heap.objs.size) "slice" := ⟨os, hos, hcs⟩
  show wpAny _ _ (listSubscript? (.ref s.heap.objs.size) >>= _) _ _ _
  refine wpAny_bind ?_
  unfold listSubscript?
  refine wpAny_bind (wpAny_specialOf hTs slice_no_index ?_)
  simp only [Option.isNone_none, if_true]
  refine wpAny_pure ?_
  show wpAny _ _ (typeOf (.ref s.heap.objs.size) >>= _) _ _ _
  refine wpAny_bind (wpAny_typeOf hTs ?_)
  rw [if_neg (by decide)]
  rw [listSliceParts_eq]
  refine wpAny_bind (wpAny_bind (wpAny_field hos hds (x := .none) rfl (wpAny_bind (wpAny_listPart .none ?_))))
  rw [if_neg (show ¬ ((rawPart none == rawInt 0) = true) from Bool.false_ne_true)]
  refine wpAny_bind (wpAny_field hos hds (x := vl) rfl (wpAny_bind (wpAny_listPart pl ?_)))
  refine wpAny_bind (wpAny_field hos hds (x := vu) rfl (wpAny_bind (wpAny_listPart pu (wpAny_pure ?_))))
  refine wpAny_bind (m := listItems (.ref a)) ?_
  unfold listItems
  refine wpAny_bind (wpAny_seqItems I'.at_ rfl (wpAny_pure ?_))
  refine wpAny_bind (wpAny_of_eq (sliceIndices_raw lo hi none its.toArray.size (by simp)) ?_)
  have hps := slicePick_size_le its.toArray lo hi none
  refine wpAny_bind (wpAny_newObj_type (wpAny_pure ⟨_, rfl, wpAny_pure ?_⟩) (Nat.le_trans hps (by rw [List.size_toArray, sizeLine_eq]; omega)))
  have ez : slicePick its.toArray lo hi none = zs.toArray := by rw [← e, Array.toArray_toList]
  show Q (.ref H.objs.size) { s with heap := H.push { cls := .type "list", data := .seq (slicePick its.toArray lo hi none) } }
  rw [ez]
  exact h _ _ (F1.push _) (N1.push F1 _) fun q hq => Heap.lt_size (N1 q hq).1
theorem setSlice_sub {vl : Value} {lo : Option Int} {l : Addr} {vs its' : List Value} {nl : Nat} {Q : Unit → Shared → Prop} (F : Fr h₀ L s.heap m) (X₀ : K.In h₀) (N : News h₀ L s.heap news) (I : InstAt s.heap a ⟨.ref C, some d, .seq its.toArray n, #[]⟩ C (some od)) (hsub : mroIn K C (.type "list") = some true) (hq : noSeq K C = true)
    (hf : findIn K (.ref C) "__setitem__" = some (some (.builtin "list.__setitem__"))) (hal : a ≠ l) (pl : IsPart vl lo) (hl : s.heap.get? l = some (listOf vs.toArray nl))
    (e : (its.toArray.extract 0 (sliceBounds lo none none its.length).1.toNat ++ vs.toArray ++ its.toArray.extract (max (sliceBounds lo none none its.length).1 (sliceBounds lo none none its.length).2.1).toNat its.toArray.size) = its'.toArray)
    (U : Upd a ⟨.ref C, some d, .seq its.toArray n, #[]⟩ ⟨.ref C, some d, .seq its'.toArray (if its'.length == its.length then n else n + 1), #[]⟩ news news') (hz : its.length + vs.length ≤ 1000) (hz' : its'.length ≤ 1000)
    (h : ∀ h', Fr h₀ L h' m → News h₀ L h' news' → Q () { s with heap := h' }) :
    wpAny (model prog w) A (setItem (.ref a) (.ref s.heap.objs.size) (.ref l)) Q E { s with heap := s.heap.push { cls := .type "slice", data := .fields #[vl, .none, .none] } } := by
  have up : ∀ b o, s.heap.get? b = some o → (s.heap.push { cls := .type "slice", data := .fields #[vl, .none, .none] }).get? b = some o := fun b o e => Heap.get?_push_of_some _ e
  have X : K.In (s.heap.push { cls := .type "slice", data := .fields #[vl, .none, .none] }) := fun b o q => up b o ((X₀.keeps F.keep) b o q)
  have I' : InstAt (s.heap.push { cls := .type "slice", data := .fields #[vl, .none, .none] }) a ⟨.ref C, some d, .seq its.toArray n, #[]⟩ C (some od) := ⟨up _ _ I.at_, I.cls, I.no, up _ _ I.dict⟩
  have F1 := F.push { cls := .type "slice", data := .fields #[vl, .none, .none] }
  have N1 : News h₀ L (s.heap.push { cls := .type "slice", data := .fields #[vl, .none, .none] }) news := N.grown up
  have hs' := Heap.IsSliceOf.new s.heap vl .none .none
  generalize hH : s.heap.push { cls := .type "slice", data := .fields #[vl, .none, .none] } = H at *
  have hll := up _ _ hl
  unfold setItem
  refine wpAny_holding (wpAny_bind (seqKey_sub (s := { s with heap := H }) X I' hq (wpAny_bind (special_sub O_setitem X I' hf (call_sub O_setitem X I' hsub ?_ (args_list_setitem _ _ _))))))
  obtain ⟨os, hos, hcs, hds⟩ := id hs'
  have hTs : Shared.TypeIs { s with heap := H } (.ref s.heap.objs.size) "slice" := ⟨os, hos, hcs⟩
  show wpAny _ _ (listSubscript? (.ref s.heap.objs.size) >>= _) _ _ _
  refine wpAny_bind ?_
  unfold listSubscript?
  refine wpAny_bind (wpAny_specialOf hTs slice_no_index ?_)
  simp only [Option.isNone_none, if_true]
  refine wpAny_pure ?_
  show wpAny _ _ (typeOf (.ref s.heap.objs.size) >>= _) _ _ _
  refine wpAny_bind (wpAny_typeOf hTs ?_)
  rw [if_neg (by decide)]
  rw [listSliceParts_eq]
  refine wpAny_bind (wpAny_bind (wpAny_field hos hds (x := .none) rfl (wpAny_bind (wpAny_listPart .none ?_))))
  rw [if_neg (show ¬ ((rawPart none == rawInt 0) = true) from Bool.false_ne_true)]
  refine wpAny_bind (wpAny_field hos hds (x := vl) rfl (wpAny_bind (wpAny_listPart pl ?_)))
  refine wpAny_bind (wpAny_field hos hds (x := .none) rfl (wpAny_bind (wpAny_listPart .none (wpAny_pure ?_))))
  rw [if_neg (by simpa [listSameRef] using hal)]
  refine wpAny_bind (m := listAllItems (.ref l) _) ?_
  unfold listAllItems
  have hTl : Shared.TypeIs { s with heap := H } (.ref l) "list" := ⟨_, hll, rfl⟩
  refine wpAny_bind (wpAny_typeOf hTl ?_)
  rw [if_pos (by decide)]
  unfold listItems
  refine wpAny_bind (wpAny_seqItems hll rfl (wpAny_pure ?_))
  refine wpAny_bind (wpAny_bind (wpAny_seqItems I'.at_ rfl (wpAny_pure ?_)))
  refine wpAny_bind (wpAny_of_eq (sliceIndices_raw lo none none its.toArray.size (by simp)) ?_)
  have e1 : (sliceBounds lo none none its.toArray.size).2.2 = 1 := rfl
  rw [if_pos (by rw [e1]; decide)]
  refine wpAny_bind (wpAny_rule ?_)
  have hlong : ¬ (listTooLong (its.toArray.size + vs.toArray.size) = true) := by
    unfold listTooLong
    rw [List.size_toArray, List.size_toArray, sizeLine_eq, decide_eq_true_eq]; omega
  rw [if_neg hlong]
  refine wpAny_bind (m := updateSeq a _) ?_
  refine upd_acc (s := { s with heap := H }) F1 N1 (by rw [← e]; simp) U (by omega) hz' fun h' F' N' => ?_
  refine wpAny_bind (wpAny_letGo ?_)
  exact wpAny_pure ⟨_, rfl, wpAny_pure (h h' F' N')⟩
end
end
section
open Builtin Builtin.List
noncomputable abbrev boundO (T id : String) (x : Addr) : Obj := { cls := .type T, data := .fields #[.builtin id, .ref x] }
theorem slot_md_get : Slot "method_descriptor" "__get__" "method_descriptor.__get__" := .of (owner := "method_descriptor") (n := "__get__") (by rw [typeLookup_type, builtinLookup_eq_fast]; kernel_rfl) (by decide +kernel) (by decide +kernel) (by decide +kernel)
  (by first | exact .inl (by decide +kernel) | exact .inr (by decide +kernel)) (by rw [isSubtype_type]; kernel_rfl)
theorem slot_wd_get : Slot "wrapper_descriptor" "__get__" "wrapper_descriptor.__get__" := .of (owner := "wrapper_descriptor") (n := "__get__") (by rw [typeLookup_type, builtinLookup_eq_fast]; kernel_rfl) (by decide +kernel) (by decide +kernel) (by decide +kernel)
  (by first | exact .inl (by decide +kernel) | exact .inr (by decide +kernel)) (by rw [isSubtype_type]; kernel_rfl)
theorem entry_md_get : entryFor table "method_descriptor.__get__" = some Builtin.«method_descriptor.__get__» := entryFor_of_tree (by kernel_rfl)
theorem entry_wd_get : entryFor table "wrapper_descriptor.__get__" = some Builtin.«wrapper_descriptor.__get__» := entryFor_of_tree (by kernel_rfl)
theorem args_md_get (a b c : Value) : argsOk "method_descriptor.__get__" ⟨[a, b, c], []⟩ := by unfold argsOk; kernel_rfl
theorem args_wd_get (a b c : Value) : argsOk "wrapper_descriptor.__get__" ⟨[a, b, c], []⟩ := by unfold argsOk; kernel_rfl
section
variable {prog : Program} {w : World} {A : Around} {E : Value → Shared → Prop} {h : Heap} {g : Array GenState} {d : Drawn} {t : Nat} {os : OsState} {K : Frag} {x C : Addr} {ox : Obj} {odx : Option Obj}
/-- what binding gives -/
noncomputable def Binds (T id BT : String) : Prop := ∀ (prog : Program) (w : World) (A : Around) (E : Value → Shared → Prop) (h : Heap) (g : Array GenState) (d : Drawn) (t : Nat) (os : OsState) (K : Frag) (x C : Addr) (ox : Obj) (odx : Option Obj) (Q : Value → Shared → Prop),
  K.In h → InstAt h x ox C odx → mroIn K C (.type "list") = some true → Q (.ref h.objs.size) ⟨h.push (boundO BT id x), g, d, t, os⟩ →
  wpAny (model prog w) A (call (.builtin (T ++ ".__get__")) [.builtin id, .ref x, .ref C]) Q E ⟨h, g, d, t, os⟩
theorem binds_tail {T id : String} {BT : String} {Q : Value → Shared → Prop} (X : K.In h) (I : InstAt h x ox C odx) (hsub : mroIn K C (.type "list") = some true) (hq : Q (.ref h.objs.size) ⟨h.push (boundO BT id x), g, d, t, os⟩) {bad : Sem Unit} :
    wpAny (model prog w) A (loadPart x (some headPart)) (fun a s' => wpAny (model prog w) A (pure a.cls) (fun a s' => wpAny (model prog w) A (isSubtype a (.type "list")) (fun a s' =>
      wpAny (model prog w) A (if (!a) = true then bad else pure ()) (fun a s' => wpAny (model prog w) A (do let v ← newFields BT [.builtin id, .ref x]; ret v) (fun fin s' => ∃ v, fin = .done (.ret v) ∧ Q v s') E s') E s') E s') E s') E ⟨h, g, d, t, os⟩ := by
  refine wpAny_loadPart_at I.at_ (wpAny_pure ?_)
  rw [I.cls]
  refine Looks.at (looks_mroIn X hsub) ?_
  rw [if_neg (by decide)]
  refine wpAny_pure (wpAny_bind ?_)
  unfold newFields
  exact wpAny_newObj_type (wpAny_pure ⟨_, rfl, hq⟩) (by show 2 ≤ _; decide)
theorem binds_pop : Binds "method_descriptor" "list.pop" "builtin_function_or_method" := by
  intro prog w A E h g d t os K x C ox odx Q X I hsub hq
  show wpAny _ _ (call (.builtin "method_descriptor.__get__") _) _ _ _
  have hT : (⟨h, g, d, t, os⟩ : Shared).TypeIs (.builtin "list.pop") "method_descriptor" := by
    show typeOf (.builtin "list.pop") = pure (.type "method_descriptor")
    kernel_rfl
  have ho : (".".intercalate ("list.pop".cutAt '.').dropLast) = "list" := by decide +kernel
  refine wpAny_call_entry slot_md_get hT entry_md_get ?_ (args_md_get _ _ _)
  refine wpAny_bind (wpAny_pure ?_)
  have hc : Manifest.toldItsClass.contains "list.pop" = false := by decide +kernel
  dsimp only
  split
  · rename_i e
    obtain ⟨h1, h2, h3⟩ : _ ∧ _ ∧ _ := by simpa using e
    subst h1
    rw [if_neg (by rw [hc]; decide)]
    repeat wp_step
    rw [ho]
    exact binds_tail (T := "") X I hsub hq
  · rename_i hne
    exact (hne "list.pop" (.ref x) (.ref C) rfl).elim
theorem binds_slot {id : String} (hT : typeOf (.builtin id) = pure (.type "wrapper_descriptor")) (ho : (".".intercalate (id.cutAt '.').dropLast) = "list") : Binds "wrapper_descriptor" id "method-wrapper" := by
  intro prog w A E h g d t os K x C ox odx Q X I hsub hq
  show wpAny _ _ (call (.builtin "wrapper_descriptor.__get__") _) _ _ _
  refine wpAny_call_entry slot_wd_get (s := ⟨h, g, d, t, os⟩) hT entry_wd_get ?_ (args_wd_get _ _ _)
  refine wpAny_bind (wpAny_pure ?_)
  repeat wp_step
  rw [ho]
  exact binds_tail (T := "") X I hsub hq
theorem binds_len : Binds "wrapper_descriptor" "list.__len__" "method-wrapper" := binds_slot (by kernel_rfl) (by decide +kernel)
theorem binds_init : Binds "wrapper_descriptor" "list.__init__" "method-wrapper" := binds_slot (by kernel_rfl) (by decide +kernel)
theorem super_ga_bi {so D : Addr} {l₀ l : List Value} {name : Str} {tk : Tok} {T id BT : String} {Q : Fin → Shared → Prop}
    (hso : h.get? so = some (ks_superObj D x C)) (hno : Looks (model prog w) h (opaqueClassAbove (.ref C)) none)
    (hC : Looks (model prog w) h (mroOf (.ref C)) l₀) (hl : (l₀.dropWhile (· != .ref D)).drop 1 = l) (X : K.In h) (I : InstAt h x ox C odx) (hsub : mroIn K C (.type "list") = some true)
    (hf : alongIn K name l = some (some (.builtin id))) (hT : typeOf (.builtin id) = pure (.type T)) (hlk : typeLookup (.type T) "__get__" = pure (some (.builtin (T ++ ".__get__")))) (hB : Binds T id BT) (hxC : x ≠ C) (hn : (name == ("__class__" : Str)) = false)
    (hq : Q (.done (.ret (.ref h.objs.size))) ⟨h.push (boundO BT id x), g, d, t, os⟩) :
    wpAny (model prog w) A (Builtin.«super.__getattribute__» ⟨[.ref so, .str name tk], []⟩) Q E ⟨h, g, d, t, os⟩ := by
  have hne : (Value.ref x == Value.ref C) = false := by simp [hxC]
  have hTf : (⟨h, g, d, t, os⟩ : Shared).TypeIs (.builtin id) T := hT
  have hdt : ({ cls := .type "super", dict := none, data := .fields #[.ref D, .ref x, .ref C], slots := #[] } : Obj).data = .fields #[.ref D, .ref x, .ref C] := rfl
  have f0 : (#[.ref D, .ref x, .ref C] : Array Value)[0]? = some (.ref D) := rfl
  have f1 : (#[.ref D, .ref x, .ref C] : Array Value)[1]? = some (.ref x) := rfl
  have f2 : (#[.ref D, .ref x, .ref C] : Array Value)[2]? = some (.ref C) := rfl
  unfold Binds at hB
  unfold Builtin.«super.__getattribute__»
  repeat (first
    | (with_reducible refine wpAny_field hso hdt f0 ?_) | (with_reducible refine wpAny_field hso hdt f1 ?_) | (with_reducible refine wpAny_field hso hdt f2 ?_)
    | (with_reducible refine ks_wpAny_notOpaque hno ?_)
    | (with_reducible refine Looks.at hC ?_; rw [hl])
    | (refine ks_forIn_along X (fun _ _ => rfl) rfl ?_ hf)
    | (with_reducible refine wpAny_typeOf hTf ?_)
    | (with_reducible refine hB prog w _ _ h g d t os K x C ox odx _ X I hsub ?_)
    | (simp only [hn, hne, Bool.or_false, Bool.false_eq_true, if_false])
    | wp_step
    | dsimp only)
  all_goals exact hq
theorem super_meth {so D : Addr} {l₀ l : List Value} {name : Str} {pl : Sem Bool} {T id BT : String} {Q : Value × List Value → Shared → Prop}
    (hso : h.get? so = some (ks_superObj D x C)) (hno : Looks (model prog w) h (opaqueClassAbove (.ref C)) none)
    (hC : Looks (model prog w) h (mroOf (.ref C)) l₀) (hl : (l₀.dropWhile (· != .ref D)).drop 1 = l) (X : K.In h) (I : InstAt h x ox C odx) (hsub : mroIn K C (.type "list") = some true)
    (hf : alongIn K name l = some (some (.builtin id))) (hT : typeOf (.builtin id) = pure (.type T)) (hlk : typeLookup (.type T) "__get__" = pure (some (.builtin (T ++ ".__get__")))) (hB : Binds T id BT) (hxC : x ≠ C) (hn : (name == ("__class__" : Str)) = false)
    (hq : Q (.ref h.objs.size, []) ⟨h.push (boundO BT id x), g, d, t + 1, os⟩) :
    wpAny (model prog w) A (getMethod (.ref so) name pl) Q E ⟨h, g, d, t, os⟩ := by
  have hlk' := PySem.F.ks_slot_super_ga.lookup
  have hcan := PySem.F.ks_canon_super_ga
  have hT' : ∀ t', (⟨h, g, d, t', os⟩ : Shared).TypeIs (.ref so) "super" := fun _ => ⟨_, hso, rfl⟩
  unfold getMethod
  refine wpAny_bind (wpAny_specialOf (hT' _) hlk' ?_)
  show wpAny _ _ (if (Manifest.canonical "super.__getattribute__" != "object.__getattribute__") = true then _ else _) _ _ _
  rw [if_pos hcan]
  unfold getAttr getAttrBy
  refine wpAny_bind (wpAny_bind (wpAny_mkText (wpAny_holding (wpAny_bind (wpAny_typeOf (hT' _) (wpAny_bind (wpAny_of_eq hlk' ?_)))))))
  show wpAny _ _ (getAttrByItsOwn (.ref so) (.str name t) (.type "super") (.builtin "super.__getattribute__") true false) _ _ _
  unfold getAttrByItsOwn hookBefore callGetattribute boundAndCalled
  refine wpAny_bind (wpAny_of_eq (show (if onTheHeap (.type "super") then typeLookup (.type "super") "__getattr__" else pure none) = pure none from rfl) ?_)
  refine wpAny_bind (wpAny_attempt (wpAny_holding ?_))
  show wpAny _ _ (bindSpecial (.builtin "super.__getattribute__") (.ref so) >>= _) _ _ _
  refine wpAny_bind (wpAny_of_eq (PySem.F.ks_slot_super_ga.bind _) ?_)
  refine wpAny_mono (Q := fun v s' => v = .ref h.objs.size ∧ s' = ⟨h.push (boundO BT id x), g, d, t + 1, os⟩) (E := fun _ _ => False)
    (wpAny_call_entry PySem.F.ks_slot_super_ga (hT' _) PySem.F.ks_entry_super_ga (super_ga_bi hso hno hC hl X I hsub hf hT hlk hB hxC hn ⟨_, rfl, rfl, rfl⟩) (PySem.F.ks_gaArgs_super _ _)) (fun v s' hv => ?_) fun _ _ z => z.elim
  obtain ⟨rfl, rfl⟩ := hv
  exact wpAny_pure (wpAny_pure hq)
end
end
section
open Builtin Builtin.List
theorem chk_len (x : Addr) : checkBoundCall "list.__len__" ⟨[.ref x], []⟩ = pure () := by kernel_rfl
theorem chk_init (x : Addr) : checkBoundCall "list.__init__" ⟨[.ref x], []⟩ = pure () := by kernel_rfl
noncomputable def popSig (f : Manifest.Signature → Sem Unit) : Sem Unit := match Manifest.signature? "list.pop" with | some sig => f sig | none => pure ()
theorem chk_pop (x : Addr) : popSig (fun sig => Bind.checkArgs "list.pop" { sig with full := s!"{"_Accumulator"}.{Bind.lastOf "list.pop"}" } ⟨[.ref x], []⟩) = pure () := by kernel_rfl
theorem kind_pop : builtinKind "list.pop" = some .method := by kernel_rfl
theorem va_pop : Manifest.varargsMethods.contains "list.pop" = false := by decide +kernel
section
variable {prog : Program} {w : World} {A : Around} {E : Value → Shared → Prop} {s : Shared} {K : Frag} {x C q : Addr} {ox : Obj} {odx : Option Obj} {id owner nm BT : String} {b : Builtin}
theorem keeps_B (hbt : (Value.type BT == .type "method") = false) (hbt' : (Value.type BT == .type "builtin_function_or_method" || Value.type BT == .type "method-wrapper") = true) {M : Model} (h : Heap) (X : h.get? q = some (boundO BT id x)) : ∃ k, (k = Keeper.frame ∨ k = Keeper.machine ∨ k = Keeper.boundFrame) ∧ Looks M h (keeperOf (.ref q)) k := by
  refine ⟨.machine, .inr (.inl rfl), (Looks.ld (part := none) X).andThen ?_⟩
  dsimp only
  rw [if_pos (by simp only [bne, hbt]; rfl), if_pos hbt']
  exact .now
theorem callWith_B0 {M : Model} {env : Env} {pos : Pos} {Q : Value → Shared → Prop} (X : s.heap.get? q = some (boundO BT id x)) (hbt : (Value.type BT == .type "method") = false) (hbt' : (Value.type BT == .type "builtin_function_or_method" || Value.type BT == .type "method-wrapper") = true) (h : wpAny M A (call (.ref q) []) Q E s) : wpAny M A (callWith pos (.ref q) [] (backTo pos (starEach [] env)) []) Q E s :=
  callWith_of rfl (keeps_B hbt hbt') (evalArgs_nil3 ⟨X, h⟩)
theorem call_B0 {Q : Value → Shared → Prop} (X : s.heap.get? q = some (boundO BT id x)) (hbt : (Value.type BT == .type "method") = false) (hbt' : (Value.type BT == .type "method" || Value.type BT == .type "builtin_function_or_method" || Value.type BT == .type "method-wrapper") = true)
    (O : OfOwner id owner nm b) (hchk : ∀ {Q' : Unit → Shared → Prop} {E' : Value → Shared → Prop}, Q' () s → wpAny (model prog w) A.in1 (checkBoundCall id ⟨[.ref x], []⟩) Q' E' s)
    (hc : wpAny (model prog w) A.in1 (b ⟨[.ref x], []⟩) (fun fin s' => ∃ v, fin = .done (.ret v) ∧ Q v s') E s) : wpAny (model prog w) A (call (.ref q) []) Q E s := by
  refine wpAny_call (codeAny_of_tree ?_)
  show wpAny _ A.in1 (callAny (.ref q) _) _ _ _
  unfold callAny
  refine wpAny_bind (wpAny_load X ?_)
  dsimp only
  rw [if_pos hbt']
  have e0 : (#[Value.builtin id, Value.ref x] : Array Value)[0]? = some (.builtin id) := rfl
  have e1 : (#[Value.builtin id, Value.ref x] : Array Value)[1]? = some (.ref x) := rfl
  rw [e0, e1]
  dsimp only
  rw [if_pos (by simp only [bne, hbt]; rfl)]
  refine wpAny_bind (hchk (wpAny_pure ⟨plainId_quiet O.plain _, codeAny_builtin O.entry ?_⟩))
  rw [Around.under_plainId O.plain _]
  refine wpAny_mono hc (fun fin s' h' => ?_) fun _ _ e => e
  obtain ⟨v, rfl, hv⟩ := h'
  exact hv
theorem check_pop {cd : ClassData} {Q : Unit → Shared → Prop} (X : K.In s.heap) (I : InstAt s.heap x ox C odx) (hc : clsIn K C = some cd) (hq : cd.qualname.toString = "_Accumulator") (hm : mroIn K C (.type "module") = some false) (ht : typeIn K (.ref C) = some (.type "type")) (h : Q () s) : wpAny (model prog w) A (checkBoundCall "list.pop" ⟨[.ref x], []⟩) Q E s := by
  obtain ⟨hh, g, d, t, os⟩ := s
  have hi : Looks (model prog w) hh (isInstance (.ref x) (.type "module")) false := I.type.andThen (looks_mroIn X hm)
  have L0 := I.type (M := model prog w)
  have Lc := looks_clsIn (M := model prog w) X hc
  have Lt := looks_typeIn (M := model prog w) X ht
  have cp := chk_pop x
  have hnc : ∀ c, ox.data ≠ .cls c := fun c e => by
    have := I.no
    unfold notCls at this
    rw [e] at this
    exact Bool.noConfusion this
  unfold checkBoundCall
  cases hs : Manifest.signature? "list.pop" with
  | none => exact wpAny_pure h
  | some sig =>
    unfold popSig at cp
    rw [hs] at cp
    dsimp only at cp
    rw [kind_pop]
    dsimp only
    rw [if_neg (by decide)]
    refine wpAny_bind (hi.at ?_)
    rw [if_neg (by rw [va_pop]; decide)]
    refine wpAny_bind (ks_wpAny_isType_inst I.at_ hnc ?_)
    rw [if_neg (by decide)]
    refine wpAny_bind (L0.at ?_)
    refine wpAny_bind (Lc.at ?_)
    refine wpAny_bind (Lt.at ?_)
    rw [if_pos (by decide)]
    rw [hq]
    exact wpAny_of_eq cp h
end
end
section
open Builtin Builtin.List
section
variable {prog : Program} {w : World} {A : Around} {E : Value → Shared → Prop} {s : Shared} {h₀ : Heap} {L : Addr} {m mg mb : Str → Option Value} {news news' : List (Addr × Obj)} {K : Frag} {x C D so q d : Addr} {ox od : Obj} {odx : Option Obj} {T id BT : String} {its its' : List Value} {n : Nat}
theorem super_methK {name : Str} {pl : Sem Bool} {Q : Value × List Value → Shared → Prop} (F : Fr h₀ L s.heap m) (X₀ : K.In h₀) (N : News h₀ L s.heap news) (hso : (so, ks_superObj D x C) ∈ news) (I : InstAt s.heap x ox C odx) (ho : nsIn K cStatics "thirdparty.any" = some none)
    (hm : ks_superIn K C D name = some (some (.builtin id))) (hsub : mroIn K C (.type "list") = some true) (hT : typeOf (.builtin id) = pure (.type T)) (hlk : typeLookup (.type T) "__get__" = pure (some (.builtin (T ++ ".__get__")))) (hB : Binds T id BT) (hn : (name == ("__class__" : Str)) = false)
    (h : ∀ q h', Fr h₀ L h' m → News h₀ L h' ((q, boundO BT id x) :: news) → (∀ p ∈ news, p.1 < q) → Q (.ref q, []) { s with heap := h', toks := s.toks + 1 }) : wpAny (model prog w) A (getMethod (.ref so) name pl) Q E s := by
  have X : K.In s.heap := X₀.keeps F.keep
  obtain ⟨hh, g, dr, t, os⟩ := s
  cases hc : clsIn K C with
  | none => unfold ks_superIn at hm; rw [hc] at hm; cases hm
  | some cd =>
    unfold ks_superIn at hm
    rw [hc] at hm
    refine super_meth (N _ hso).1 (looks_opaque X ho) (l₀ := cd.mro) ?_ rfl X I hsub hm hT hlk hB (ks_ne X I hc) hn ?_
    · exact fun A Q E s k q => wpAny_bind ((looks_clsIn X hc) A _ E s k (wpAny_pure q))
    · obtain ⟨F', N', l'⟩ := ks_newsPush (s := ⟨hh, g, dr, t, os⟩) (o := boundO BT id x) F N rfl (Heap.get?_push_at rfl rfl) (fun b o e => Heap.get?_push_of_some _ e)
      exact h _ _ F' N' l'
theorem len_B {Q : Value → Shared → Prop} (X : s.heap.get? q = some (boundO "method-wrapper" "list.__len__" x)) (hx : s.heap.get? x = some ⟨.ref C, some d, .seq its.toArray n, #[]⟩) (hz : its.length ≤ 1000)
    (h : ∀ tk, Q (.int (its.length : Int) tk) { s with toks := s.toks + 1 }) : wpAny (model prog w) A (call (.ref q) []) Q E s := by
  refine call_B0 X rfl rfl O_len (fun h => wpAny_of_eq (chk_len x) h) ?_
  refine wpAny_bind (wpAny_pure ?_)
  show wpAny _ _ (seqSize x >>= _) _ _ s
  unfold seqSize
  refine wpAny_bind (wpAny_bind (wpAny_loadPart hx (wpAny_pure ?_)))
  rw [List.size_toArray]
  refine wpAny_bind ?_
  exact wpAny_mkInt (wpAny_pure ⟨_, rfl, h _⟩)
theorem pop_at (its : List Value) (v : Value) : ((seqIndex? (-1) (its ++ [v]).toArray.size).bind fun k => Option.map (fun x => (k, x)) (its ++ [v]).toArray[k]?) = some (its.length, v) := by
  have e : seqIndex? (-1) (its ++ [v]).toArray.size = some its.length := by
    unfold seqIndex?
    simp
    omega
  rw [e]
  simp
theorem pop_erase (its : List Value) (v : Value) : (its ++ [v]).toArray.eraseIdxIfInBounds its.length = its.toArray := by
  simp [Array.eraseIdxIfInBounds]
  rw [List.eraseIdx_append_of_length_le (Nat.le_refl _)]
  simp
theorem pop_B {v : Value} {Q : Value → Shared → Prop} (F : Fr h₀ L s.heap m) (N : News h₀ L s.heap news) (X : K.In s.heap) (I : InstAt s.heap x ⟨.ref C, some d, .seq (its ++ [v]).toArray n, #[]⟩ C odx) (Xq : s.heap.get? q = some (boundO "builtin_function_or_method" "list.pop" x))
    {cd : ClassData} (hc : clsIn K C = some cd) (hq : cd.qualname.toString = "_Accumulator") (hm : mroIn K C (.type "module") = some false) (ht : typeIn K (.ref C) = some (.type "type")) (hz : its.length ≤ 900)
    (U : Upd x ⟨.ref C, some d, .seq (its ++ [v]).toArray n, #[]⟩ ⟨.ref C, some d, .seq its.toArray (if its.length == (its ++ [v]).length then n else n + 1), #[]⟩ news news')
    (h : ∀ h', Fr h₀ L h' m → News h₀ L h' news' → Q v { s with heap := h' }) : wpAny (model prog w) A (call (.ref q) []) Q E s := by
  refine call_B0 Xq rfl rfl O_pop (fun h => check_pop X I hc hq hm ht h) ?_
  refine wpAny_bind (wpAny_pure ?_)
  dsimp only
  refine wpAny_bind (wpAny_pure ?_)
  rw [if_neg (show ¬ ((!listFitsIndex (-1)) = true) by decide)]
  refine wpAny_bind (m := listItems (.ref x)) ?_
  unfold listItems
  refine wpAny_bind (wpAny_seqItems I.at_ rfl (wpAny_pure ?_))
  have hne : ¬ ((its ++ [v]).toArray.isEmpty = true) := by simp
  rw [if_neg hne, pop_at]
  dsimp only
  refine wpAny_bind (m := updateSeq x _) ?_
  refine upd_acc F N (pop_erase its v) U (by simp; omega) (by omega) fun h' F' N' => ?_
  exact wpAny_pure ⟨_, rfl, h h' F' N'⟩
theorem init_B {Q : Value → Shared → Prop} (F : Fr h₀ L s.heap m) (N : News h₀ L s.heap news) (Xq : s.heap.get? q = some (boundO "method-wrapper" "list.__init__" x)) 
    (U : Upd x ⟨.ref C, some d, .seq ([] : List Value).toArray n, #[]⟩ ⟨.ref C, some d, .seq ([] : List Value).toArray (if ([] : List Value).length == ([] : List Value).length then n else n + 1), #[]⟩ news news')
    (h : ∀ h', Fr h₀ L h' m → News h₀ L h' news' → Q .none { s with heap := h' }) : wpAny (model prog w) A (call (.ref q) []) Q E s := by
  refine call_B0 Xq rfl rfl O_init (fun h => wpAny_of_eq (chk_init x) h) ?_
  have hx : s.heap.get? x = some ⟨.ref C, some d, .seq ([] : List Value).toArray n, #[]⟩ := by
    obtain ⟨pre, post, e, -⟩ := U.split
    exact (N (x, _) (by rw [e]; exact List.mem_append_right _ (.head _))).1
  unfold Builtin.«list.__init__»
  dsimp only
  rw [if_neg (by decide), if_neg (by decide)]
  refine wpAny_bind (m := listItems (.ref x)) ?_
  unfold listItems
  refine wpAny_bind (wpAny_seqItems hx rfl (wpAny_pure ?_))
  refine wpAny_bind (m := updateSeq x _) ?_
  refine upd_acc F N (by rfl) U (by decide) (by decide) fun h' F' N' => ?_
  refine wpAny_bind (wpAny_letGo ?_)
  exact wpAny_pure ⟨_, rfl, h h' F' N'⟩
end
end
section
theorem inst_acc {h₀ h : Heap} {L x C dx : Addr} {news : List (Addr × Obj)} {od : Obj} {sl : Array (Option Value)} {vs : Array Value} {n : Nat} (N : News h₀ L h news) (h1 : (x, (⟨.ref C, some dx, .seq vs n, sl⟩ : Obj)) ∈ news) (h2 : (dx, od) ∈ news) : InstAt h x ⟨.ref C, some dx, .seq vs n, sl⟩ C (some od) :=
  ⟨(N _ h1).1, rfl, rfl, (N _ h2).1⟩
noncomputable abbrev accD (w : World) (k u : Tok) : Obj := dictOf [⟨PyData.keyHash w.params (Str.ofString "_initial_size"), .str (Str.ofString "_initial_size") k, .int 0 u⟩] 1
theorem newsSub {h₀ h : Heap} {L : Addr} {news news' : List (Addr × Obj)} (N : News h₀ L h news) (hs : ∀ p ∈ news', p ∈ news) : News h₀ L h news' := fun p hp => N p (hs p hp)
theorem cut_all (its vs : List Value) : (its.toArray.extract 0 (sliceBounds none none none its.length).1.toNat ++ vs.toArray ++ its.toArray.extract (max (sliceBounds none none none its.length).1 (sliceBounds none none none its.length).2.1).toNat its.toArray.size) = vs.toArray := by
  have e : sliceBounds none none none its.length = (((0 : Nat) : Int), (its.length : Int), 1) := by simp [sliceBounds]
  rw [e]
  simp
theorem cut_from (its : List Value) (i : Nat) (h : i ≤ its.length) : (its.toArray.extract 0 (sliceBounds (some (i : Int)) none none its.length).1.toNat ++ ([] : List Value).toArray ++ its.toArray.extract (max (sliceBounds (some (i : Int)) none none its.length).1 (sliceBounds (some (i : Int)) none none its.length).2.1).toNat its.toArray.size) = (its.take i).toArray := by
  have e : sliceBounds (some (i : Int)) none none its.length = ((i : Int), (its.length : Int), 1) := by
    simp only [sliceBounds, Option.getD_none]
    have h1 : ¬ ((i : Int) < 0) := by omega
    simp only [h1, if_false, show (1 : Int) > 0 by decide, if_true]
    congr 1
    omega
  rw [e]
  have e2 : (max (i : Int) (its.length : Int)).toNat = its.length := by omega
  simp [e2]
theorem pick_from (its : List Value) (i : Nat) (h : i ≤ its.length) : (slicePick its.toArray (some (i : Int)) none none).toList = its.drop i := by
  rw [slicePick_from _ _ (by simpa using h)]
theorem Led.self (h : Heap) : Led h h [] := ⟨fun _ _ e => e, Nat.le_refl _, fun _ hp => nomatch hp⟩
section
variable {prog : Program} {w : World} {A : Around} {E : Value → Shared → Prop} {s : Shared} {h₀ : Heap} {L : Addr} {m mg mb : Str → Option Value} {news : List (Addr × Obj)} {K : Frag} {p : Program} {loose : List Str} {x C D f cc cda : Addr} {ox : Obj} {odx : Option Obj}
theorem node_sup {body : List Stmt} {q : Str} {scope : Scope} {p0 p1 : Pos} {attr : Str} {whole : Sem Value} {fd : FuncData} {ar : Arg} {vs : Array Value} {file : Str} {tf : Tok} {oc ccl cl : Value} {od cdd cld : Option Addr} {osl ccs csl : Array (Option Value)} {cdD : ClassData} {Q : Value → Shared → Prop}
    (F : Fr h₀ L s.heap m) (X₀ : K.In h₀) (N : News h₀ L s.heap news) (T : TopRead p loose mg mb h₀)
    (hf : K.lookup f = some ⟨oc, od, .func fd, osl⟩) (hp : (fd.params.posonlyargs ++ fd.params.args).head? = some ar) (hv : m ar.arg = some (.ref x)) (I : InstAt s.heap x ox C odx)
    (hcode : K.lookup cda = some ⟨ccl, cdd, .fields vs, ccs⟩) (hvs : vs[2]? = some (.str file tf)) (hfile : ((prog.main.file : Str) == file) = true)
    (hcell : K.lookup cc = some ⟨cl, cld, .cell (some (.ref D)), csl⟩) (hD : clsIn K D = some cdD) (hsub : mroIn K C (.ref D) = some true) (hsuper : nsIn K mainGlobals "super" = some none)
    (hat : (attr == ("__class__" : Str)) = false) (hks : scope.names.lookup ("super" : Str) = some .globalImplicit) (hkc : scope.names.lookup ("__class__" : Str) = some .free) (hka : scope.names.lookup ar.arg = some .local) (hk : scope.kind = .function)
    (htop : (prog.main.scope.names.lookup ("super" : Str)).isSome = false) (hboot : bootBuiltins "super" = some (.type "super"))
    (h : ∀ so h', Fr h₀ L h' m → News h₀ L h' ((so, ks_superObj D x C) :: news) → (∀ p ∈ news, p.1 < so) → Q (.ref so) { s with heap := h' }) :
    _root_.PySem.wpAt (model prog w) A (.func body (ksEnv q scope L f (.ref cda) cc)) (attributeBase (.Call (.Name "super" p0) [] [] p1) attr (ksEnv q scope L f (.ref cda) cc) whole) Q E s := by
  have X : K.In s.heap := X₀.keeps F.keep
  obtain ⟨hh, g, d, t, os⟩ := s
  obtain ⟨oD, hD1, hD2⟩ : ∃ oD, hh.get? D = some oD ∧ oD.data = .cls cdD := by
    unfold clsIn at hD
    split at hD
    · rename_i c d cd' sl ho
      cases hD
      exact ⟨_, X _ _ ho, rfl⟩
    · cases hD
  refine ks_wpAt_super_base (env := ksEnv q scope L f (.ref cda) cc) hks hkc hat rfl (X _ _ hf) rfl hp rfl (X _ _ hcode) rfl hvs hfile htop ?_
  refine ks_loadName_global hk hks (loadGlobal_builtin (env := ksEnv q scope L f (.ref cda) cc) (T.g.keeps F.keep) (mg_none_of X₀ T.g hsuper) (T.b.keeps F.keep) ((T.builtins _ (by decide +kernel)).trans hboot) ⟨rfl, ?_⟩)
  refine wpAny_loadName_free hk hkc rfl ⟨_, X _ _ hcell, rfl⟩ ?_
  refine wpAny_loadName_local hk hka F.ns hv ?_
  refine ks_wpAny_isType_cls hD1 hD2 ⟨rfl, ?_⟩
  refine ks_wpAny_call_super hD1 hD2 I.at_ I.cls (fun c e => ?_) (looks_mroIn X hsub) (fun h' e k => ?_)
  · have := I.no
    unfold notCls at this
    rw [e] at this
    exact Bool.noConfusion this
  · obtain ⟨F', N', l'⟩ := ks_newsPush (s := ⟨hh, g, d, t, os⟩) F N rfl e k
    exact h _ _ F' N' l'
end
end
section
open Builtin Builtin.List
/-- an object that holds a sequence, of whatever class -/
noncomputable def HasSeq (h : Heap) (a : Addr) (its : Array Value) : Prop := ∃ o n, h.get? a = some o ∧ o.data = .seq its n
theorem HasSeq.at {h h' : Heap} {a : Addr} {its : Array Value} (x : HasSeq h a its) (e : ∀ o, h.get? a = some o → h'.get? a = some o) : HasSeq h' a its := let ⟨o, n, p, q⟩ := x; ⟨o, n, e _ p, q⟩
theorem HasSeq.extBut {h h' : Heap} {a b : Addr} {its : Array Value} (x : HasSeq h a its) (e : Heap.ExtBut b h h') (ne : a ≠ b) : HasSeq h' a its := x.at fun o p => e a o ne p
section
variable {prog : Program} {w : World} {A : Around} {E : Value → Shared → Prop} {s : Shared}
theorem next_item_seq {it l : Addr} {i : Nat} {items : Array Value} {x : Value} {Q : Option Value → Shared → Prop} (hit : s.heap.IsListIter it l i)
    (hl : HasSeq s.heap l items) (hx : items[i]? = some x)
    (hQ : ∀ h', h'.IsListIter it l (i + 1) → Heap.SameBut it s.heap h' → Q (some x) { s with heap := h' }) :
    wpAny (model prog w) A (pyNext (.ref it)) Q E s := by
  obtain ⟨o, ho, hc, hd⟩ := id hit
  obtain ⟨ol, nl, hol, hdl⟩ := hl
  unfold pyNext
  refine wpAny_bind (wpAny_attempt (wpAny_callSpecial?_slot (name := Str.ofString "__next__") hit.typeIs slot_listiter_next
    (wpAny_call_entry slot_listiter_next hit.typeIs entry_listiter_next ?_ (args_listiter_next _))))
  show wpAny _ _ (field (.ref it) 0 >>= _) _ _ s
  refine wpAny_bind (wpAny_field ho hd (x := .ref l) rfl ?_)
  show wpAny _ _ (if (Value.ref l == Value.none) = true then _ else _) _ _ s
  rw [if_neg (show ¬ ((Value.ref l == Value.none) = true) from Bool.false_ne_true)]
  show wpAny _ _ (field (.ref it) 1 >>= _) _ _ s
  refine wpAny_bind (wpAny_field ho hd (x := .int i 0) rfl ?_)
  show wpAny _ _ (seqItems? (.ref l) >>= _) _ _ s
  refine wpAny_bind (wpAny_seqItems hol hdl ?_)
  simp only [Int.toNat_natCast, hx]
  refine wpAny_bind (wpAny_setField ho hd (by simp) (wpAny_pure ⟨x, rfl, wpAny_pure (hQ _ ?_ (Heap.SameBut.update ..))⟩))
  exact ⟨_, Heap.get?_update_self _ ho (Obj.isFreed_of_fields (Obj.data_mapFields hd _)), (Obj.cls_mapFields ..).trans hc, by
    rw [Obj.data_mapFields hd]; simp [rawInt]⟩
theorem next_end_seq {it l : Addr} {i : Nat} {items : Array Value} {Q : Option Value → Shared → Prop} (hh : A.handled = none)
    (hit : s.heap.IsListIter it l i) (hl : HasSeq s.heap l items) (hx : items[i]? = none)
    (hQ : ∀ h', Heap.ExtBut it s.heap h' → Q none { s with heap := h' }) : wpAny (model prog w) A (pyNext (.ref it)) Q E s := by
  obtain ⟨o, ho, hc, hd⟩ := id hit
  obtain ⟨ol, nl, hol, hdl⟩ := hl
  unfold pyNext
  refine wpAny_bind (wpAny_attempt (wpAny_callSpecial?_slot (name := Str.ofString "__next__") hit.typeIs slot_listiter_next
    (wpAny_call_entry slot_listiter_next hit.typeIs entry_listiter_next ?_ (args_listiter_next _))))
  show wpAny _ _ (field (.ref it) 0 >>= _) _ _ s
  refine wpAny_bind (wpAny_field ho hd (x := .ref l) rfl ?_)
  show wpAny _ _ (if (Value.ref l == Value.none) = true then _ else _) _ _ s
  rw [if_neg (show ¬ ((Value.ref l == Value.none) = true) from Bool.false_ne_true)]
  show wpAny _ _ (field (.ref it) 1 >>= _) _ _ s
  refine wpAny_bind (wpAny_field ho hd (x := .int i 0) rfl ?_)
  show wpAny _ _ (seqItems? (.ref l) >>= _) _ _ s
  refine wpAny_bind (wpAny_seqItems hol hdl ?_)
  simp only [Int.toNat_natCast, hx]
  refine wpAny_bind (wpAny_rule (wpAny_bind (wpAny_setField ho hd (by simp) ?_)))
  show wpAny _ _ (newExc (.type "StopIteration") [] >>= _) _ _ _
  refine wpAny_bind ?_
  simp only [newExc, newTuple]
  refine wpAny_bind (wpAny_newObj_type ?_ (by size_fits))
  refine wpAny_bind (m := firstArgMember _ _) (wpAny_of_eq (a := Value.none) (by first | rfl | (simp only [firstArgMember]; rfl)) ?_)
  refine wpAny_newObj_type ?_ (by size_fits)
  simp only [raiseNew]
  refine wpAny_bind (wpAny_handled ?_)
  rw [show A.in1.handled = none from hh]
  refine wpAny_bind (wpAny_pure (wpAny_throw ?_))
  refine wpAny_bind (wpAny_isInstance (T := "StopIteration") (b := true) ⟨_, Heap.get?_push_size _ rfl, rfl⟩ isSubtype_stop ?_)
  exact wpAny_pure (hQ _ (((Heap.SameBut.update ..).extBut.push _).push _))
theorem ifBound_sub {K : Frag} {a C : Addr} {ox : Obj} {odx : Option Obj} {id owner nm : String} {b : Builtin} {name : Str} {refuse : Sem Value} {Q : Option Value → Shared → Prop} (O : OfOwner id owner nm b) (X : K.In s.heap) (I : InstAt s.heap a ox C odx) (hf : findIn K (.ref C) name = some (some (.builtin id)))
    (hc : wpAny (model prog w) A (call (.builtin id) [.ref a]) (fun v => Q (some v)) E s) : wpAny (model prog w) A (callSpecialIfBoundUnlessNone? (.ref a) name refuse) Q E s := by
  simp only [callSpecialIfBoundUnlessNone?, bindSpecialIfBound?]
  unfold specialOf
  refine wpAny_holding (wpAny_bind (wpAny_bind (wpAny_bind (I.type.here ((looks_findIn X hf).here ?_)))))
  simp only [bind_own O]
  refine wpAny_bind (wpAny_askSetting (wpAny_ite ?_))
  have fin : wpAny (model prog w) A (if (Value.builtin id == Value.none) = true then (refuse >>= fun v => pure (some v)) else (call (.builtin id) [.ref a] >>= fun v => pure (some v))) Q E s := by
    simp only [builtin_beq_none, Bool.false_eq_true, if_false]
    exact wpAny_bind (wpAny_mono hc (fun v s' h' => wpAny_pure h') fun _ _ h' => h')
  split
  · exact wpAny_bind (wpAny_pure (wpAny_pure fin))
  · exact wpAny_tryCatch (wpAny_bind (wpAny_pure (wpAny_pure fin)))
theorem iter_sub {K : Frag} {a C : Addr} {ox : Obj} {odx : Option Obj} {Q : Value → Shared → Prop} (X : K.In s.heap) (I : InstAt s.heap a ox C odx) (hsub : mroIn K C (.type "list") = some true)
    (hf : findIn K (.ref C) "__iter__" = some (some (.builtin "list.__iter__")))
    (hQ : Q (.ref s.heap.objs.size) { s with heap := s.heap.push { cls := .type "list_iterator", data := .fields #[.ref a, .int 0 0] } }) :
    wpAny (model prog w) A (pyIter (.ref a)) Q E s := by
  unfold pyIter
  refine wpAny_bind (wpAny_bind (I.type.here ((looks_findIn X hf).here ?_)))
  show wpAny _ A (callSpecialIfBoundUnlessNone? (.ref a) "__iter__" _ >>= _) Q E s
  refine wpAny_bind (ifBound_sub O_iter X I hf (call_sub O_iter X I hsub ?_ (args_list_iter _)))
  show wpAny _ _ (do ret (← newFields "list_iterator" [.ref a, rawInt 0])) _ _ s
  exact wpAny_bind (wpAny_newObj_type (wpAny_pure ⟨_, rfl, wpAny_bind (wpAny_specialOf (T := "list_iterator") ⟨_, Heap.get?_push_size _ rfl, rfl⟩ slot_listiter_next.lookup (wpAny_pure hQ))⟩))
end
theorem walks_pairs {prog : Program} {w : World} {A : Around} (hh : A.handled = none) (I ax : Addr) (hne : ax ≠ I) (items : Array Value) (Ts : Nat → Addr) (vals : Nat → Array Value)
    (hit : ∀ j, j < items.size → items[j]? = some (.ref (Ts j))) (hTI : ∀ j, j < items.size → Ts j ≠ I) :
    WalksU prog w A I (I :: ax :: (List.range items.size).map Ts) [I] items.size (fun j v => v = vals j)
      (fun j h => h.IsListIter I ax j ∧ HasSeq h ax items ∧ ∀ k, k < items.size → h.IsTuple (Ts k) (vals k))
      (fun j T h => (j < items.size ∧ T = Ts j) ∧ h.IsListIter I ax (j + 1) ∧ HasSeq h ax items ∧ ∀ k, k < items.size → h.IsTuple (Ts k) (vals k)) where
  sub := fun b hb => by simp at hb; simp [hb]
  frame := fun _ _ _ st hk => ⟨st.1.at fun o e => hk I (by simp) o e, st.2.1.at fun o e => hk ax (by simp) o e,
    fun k hk' => (st.2.2 k hk').at fun o e => hk (Ts k) (List.mem_cons_of_mem _ (List.mem_cons_of_mem _ (List.mem_map.mpr ⟨k, List.mem_range.mpr hk', rfl⟩))) o e⟩
  item := fun i s Q E hi st hQ => by
    refine next_item_seq st.1 st.2.1 (x := .ref (Ts i)) (hit i hi) fun h' hit' hs' => ?_
    have tup : ∀ k, k < items.size → h'.IsTuple (Ts k) (vals k) := fun k hk' => (st.2.2 k hk').extBut hs'.extBut (hTI k hk')
    exact hQ (Ts i) (vals i) h' s.toks rfl (tup i hi) ⟨⟨hi, rfl⟩, hit', st.2.1.extBut hs'.extBut hne, tup⟩ fun b o hb e => hs'.extBut b o (fun h => hb (by simp [h])) e
  go := fun _ _ _ _ _ s Q _ hm hQ => wpAny_letOwnedTupleGo_listiter hm.2.1 (hQ s.heap hm.2 fun _ _ _ e => e)
  apart := fun j T _ hm hmem => by
    rcases List.mem_cons.mp hmem with e | e
    · exact hTI j hm.1.1 (hm.1.2 ▸ e)
    · cases e
  done := fun s Q E st hQ => next_end_seq hh st.1 st.2.1 (by simp) fun h' he' => hQ h' s.toks fun b o hb e => he' b o (fun h => hb (by simp [h])) e
  self := fun _ _ _ _ st hQ => wpAny_pyIter_listiter st.1 hQ
end
section
open Builtin Builtin.List
section
variable {prog : Program} {w : World} {A : Around} {E : Value → Shared → Prop} {s : Shared} {M : Model}
theorem gcode {env : Env} {c P : Addr} {ps : Array Value} {pos : Pos} {qualname : Str} {scope : Scope} {Q : Value → Shared → Prop} (hc : env.code = .ref c) (hok : s.heap.IsCode c P ps) (htab : s.heap.TableAt c P ps)
    (hQ : ∀ code h' tk ps', Heap.ExtBut P s.heap h' → s.heap.objs.size ≤ h'.objs.size → h'.IsCode c P ps' → h'.TableAt c P ps' → Q code { s with heap := h', toks := tk }) : wpAny M A (genexprCode env pos qualname scope) Q E s := by
  cases hnf : codeAmong pos ps.toList with
  | some c' => exact wpAny_genexprCode_hit hc hok hnf (hQ c' s.heap s.toks ps (Heap.ExtBut.refl _ _) (Nat.le_refl _) hok htab)
  | none => exact wpAny_genexprCodeX hc hok htab hnf fun c' h' tk hx hge hlt hcode _ htab' _ => hQ _ _ _ _ hx (Nat.le_trans hge (Nat.le_of_lt hlt)) hcode htab'
end
theorem walksS_mono {prog : Program} {w : World} {A : Around} {I : Addr} {fp wr : List Addr} {G : Array GenState → Array GenState → Prop} {n : Nat} {P P' : Nat → Value → Prop} {St : Nat → Shared → Prop} (W : WalksS prog w A I fp wr G n P St) (h : ∀ i v, P i v → P' i v) : WalksS prog w A I fp wr G n P' St where
  sub := W.sub
  grefl := W.grefl
  gtrans := W.gtrans
  frame := W.frame
  item := fun i s Q E hi st hQ => W.item i s Q E hi st fun v s' hp => hQ v s' (h i v hp)
  done := W.done
  self := W.self
section
variable {prog : Program} {w : World} {A : Around} {E : Value → Shared → Prop} {s : Shared}
theorem genexp_pairs {env : Env} {elt iter : Expr} {xa xb : Str} {pa pb pt : Pos} {kt : Nat} {scope : Scope} {cl : List (Str × Addr)} {pos : Pos} {Q : Value → Shared → Prop} {c P : Addr} {ps : Array Value} {K : Frag} {a C d Lb : Addr} {its : List Value} {n : Nat} {od : Obj}
    {mg : Str → Option Value} {Ts : Nat → Addr} {va vb : Nat → Value} {F : Nat → Value → Prop}
    (hh : A.handled = none) (hco : scope.isCoroutine = false) (hclos : closureFor scope env = pure cl) (hcell : ∀ y ∈ scope.names, y.2 ≠ .cell) (h0 : scope.names.lookup (".0" : Str) = some NameKind.local)
    (hxa : scope.names.lookup xa = some .local) (hxb : scope.names.lookup xb = some .local) (hab : xa ≠ xb) (hkind : scope.kind = .function) (hroom : A.depth < recursionLimit)
    (hcode : env.code = .ref c) (hok : s.heap.IsCode c P ps) (htab : s.heap.TableAt c P ps) (hlim : s.heap.NoLimit) (hg : s.heap.Ns env.globals mg) (hbm : Bm s.heap mg) (hgP : env.globals ≠ P) (hPs : cStatics ≠ P)
    (X : K.In s.heap) (I : InstAt s.heap a ⟨.ref C, some d, .seq its.toArray n, #[]⟩ C (some od)) (hsub : mroIn K C (.type "list") = some true) (hf : findIn K (.ref C) "__iter__" = some (some (.builtin "list.__iter__")))
    (hT : ∀ j, j < its.length → its[j]? = some (.ref (Ts j)) ∧ s.heap.IsTuple (Ts j) #[va j, vb j]) (hLb : Lb < s.heap.objs.size) (hb : AllBare s.gens)
    (hiter : wpAny (model prog w) A (eval iter env) (fun xv s₁ => xv = .ref a ∧ s₁ = s) E s)
    (helt : ∀ (A' : Around) (E' : Value → Shared → Prop) (j : Nat) (t : Shared) (C₁ : Addr) (m₂ : Str → Option Value) (code : Value), A'.handled = none → A'.depth ≤ A.depth + 1 → A'.units ≤ A.units + 8 → j < its.length → t.heap.Ns C₁ m₂ → m₂ xa = some (va j) → m₂ xb = some (vb j) →
      (∀ b o, b ≠ P → s.heap.get? b = some o → t.heap.get? b = some o) → wpAny (model prog w) A' (eval elt (genEnv scope cl C₁ code builtinsNs env)) (fun y s₃ => F j y ∧ Keeps t s₃) E' t)
    (fin : ∀ (g : Addr) (h₅ : Heap) (gs : Array GenState) (tk : Nat) (ps' : Array Value), AllBare gs → (∀ b o, b ≠ P → s.heap.get? b = some o → h₅.get? b = some o) → h₅.IsCode c P ps' → h₅.TableAt c P ps' →
      Gen prog w A Lb g its.length F { s with heap := h₅, gens := gs, toks := tk } → Q (.ref g) { s with heap := h₅, gens := gs, toks := tk })
    (hs : ∀ x, genFold iter env x = pure x) :
    wpAny (model prog w) A (eval (.GeneratorExp elt [⟨.Tuple [.Name xa pa, .Name xb pb] kt pt, iter, [], 0⟩] scope pos) env) Q E s := by
  refine wpAny_GeneratorExp_walksQTD hh hco hclos hcell h0 hxa hxb hab hkind hroom (wpAny_mono hiter (fun xv s₁ h₁' => ?_) fun _ _ e => e) hs
  obtain ⟨rfl, rfl⟩ := h₁'
  have tab := htab.2
  have hPlt : P < s₁.heap.objs.size := Heap.lt_size tab
  have halt : a < s₁.heap.objs.size := Heap.lt_size I.at_
  have haP : a ≠ P := fun e => by have := I.at_; rw [e, tab] at this; cases this
  have hTlt : ∀ j, j < its.length → Ts j < s₁.heap.objs.size := fun j hj => by obtain ⟨_, e, _⟩ := (hT j hj).2; exact Heap.lt_size e
  have hTP : ∀ j, j < its.length → Ts j ≠ P := fun j hj e => by
    obtain ⟨o, ho, hc, _⟩ := (hT j hj).2
    rw [e, tab] at ho; cases ho; exact absurd hc (by simp)
  refine iter_sub X I hsub hf ?_
  have up : ∀ b o, s₁.heap.get? b = some o → (s₁.heap.push { cls := .type "list_iterator", data := .fields #[.ref a, .int 0 0] }).get? b = some o := fun b o e => Heap.get?_push_of_some _ e
  have hI := Heap.get?_push_size s₁.heap (o := { cls := .type "list_iterator", data := .fields #[.ref a, .int 0 0] }) rfl
  have hsz2 : (s₁.heap.push { cls := .type "list_iterator", data := .fields #[.ref a, .int 0 0] }).objs.size = s₁.heap.objs.size + 1 := Heap.size_push ..
  generalize hH : s₁.heap.push { cls := .type "list_iterator", data := .fields #[.ref a, .int 0 0] } = H at up hI hsz2 ⊢
  refine ⟨hlim.keeps up, gcode hcode (hok.keeps up) (htab.keeps up) fun code h₃ tk₃ ps' hx₃ hge hcode₃ htab₃ => ?_⟩
  have up₃ : ∀ b o, b ≠ P → s₁.heap.get? b = some o → h₃.get? b = some o := fun b o n e => hx₃ b o n (up b o e)
  have hl₃ : h₃.NoLimit := (hlim.keeps up).extBut hx₃ hPs
  obtain ⟨bm, ob, hb1, hb2, hb3, hb4, hb5, hb6⟩ := hbm.bm
  have hbP : bm ≠ P := fun e => by rw [e, tab] at hb3; cases hb3; cases hb6
  refine wpAny_builtinsFor (hg.at' fun o e => up₃ _ o hgP e) hb1 hb2 (up₃ _ _ hbP hb3) hb4 hb5 hb6 ?_
  have hgeS : s₁.heap.objs.size + 1 ≤ h₃.objs.size := by have hge' : H.objs.size ≤ h₃.objs.size := hge; omega
  have hit : ∀ j, j < its.toArray.size → its.toArray[j]? = some (.ref (Ts j)) := fun j hj => by
    have := (hT j (by simpa using hj)).1
    simpa using this
  have hps : passing (fun _ => true) its.length 0 = List.range its.length := by unfold passing; simp
  have hnIw : ∀ b o, s₁.heap.get? b = some o → b ∉ [s₁.heap.objs.size] := fun b o e hm => by
    rcases List.mem_cons.mp hm with rfl | hm
    · exact Nat.lt_irrefl _ (Heap.lt_size e)
    · cases hm
  refine ⟨s₁.heap.objs.size, _, _, its.length, _, _, _, (fun _ => true), F, rfl, (fun A' hA => by
      have W := (walks_pairs (prog := prog) (w := w) hA s₁.heap.objs.size a (Nat.ne_of_lt halt) its.toArray Ts (fun j => #[va j, vb j]) hit fun j hj => Nat.ne_of_lt (hTlt j (by simpa using hj))).bound
      rw [List.size_toArray] at W; exact W), ?_, ?_, ?_, hl₃, ?_, ?_, ?_⟩
  · rintro i vals ⟨_, rfl⟩
    exact ⟨_, _, rfl⟩
  · refine ⟨⟨_, hx₃ _ _ (Nat.ne_of_gt hPlt) hI, rfl, rfl⟩, ⟨_, _, up₃ _ _ haP I.at_, rfl⟩, fun k hk => ?_⟩
    obtain ⟨o, ho, r⟩ := (hT k hk).2
    exact ⟨o, up₃ _ _ (hTP k hk) ho, r⟩
  · have hgeS' : s₁.heap.objs.size + 1 ≤ h₃.objs.size := hgeS
    intro b hb
    show b < h₃.objs.size
    rcases List.mem_cons.mp hb with rfl | hb
    · exact Nat.lt_of_lt_of_le (Nat.lt_succ_self _) hgeS
    · rcases List.mem_cons.mp hb with rfl | hb
      · exact Nat.lt_of_lt_of_le (Nat.lt_succ_of_lt halt) hgeS
      · obtain ⟨k, hk, rfl⟩ := List.mem_map.mp hb
        exact Nat.lt_of_lt_of_le (Nat.lt_succ_of_lt (hTlt k (by simpa using hk))) hgeS
  · intro hm
    obtain ⟨o, es, ep, ho, -⟩ := hlim.choose_spec.1
    exact hnIw _ _ ho hm
  · intro href hhref
    have back : ∀ (t : Heap), (∀ b ∈ List.range h₃.objs.size, b ∉ [s₁.heap.objs.size] → ∀ o, href.get? b = some o → t.get? b = some o) → ∀ b o, b ≠ P → s₁.heap.get? b = some o → t.get? b = some o := fun t hkp b o n e =>
      hkp b (List.mem_range.mpr (Heap.lt_size (up₃ b o n e))) (hnIw b o e) o (hhref b o (up₃ b o n e))
    refine ⟨fun A' E' i va' vb' t m₂ hA hD hU hP hn hma hmb hkp => wpAny_tests_nil ⟨rfl, _, _, rfl, fun _ _ e => e⟩, fun A' E' i va' vb' t m₂ hA hD hU hP hp hn hma hmb hkp => ?_⟩
    obtain ⟨hi, hv⟩ := hP
    obtain ⟨e1, e2⟩ : va' = va i ∧ vb' = vb i := by simpa using congrArg Array.toList hv
    subst e1 e2
    exact helt A' E' i t _ m₂ code hA hD hU hi hn hma hmb (back _ hkp)
  · intro g h₅ tk gs hgb hag hsz₅ hk₅ W hat
    rw [hps] at W
    have W' := walksS_mono W fun j y (h : ∃ i, (List.range its.length)[j]? = some i ∧ F i y) => by
      obtain ⟨i, hi, hf⟩ := h
      obtain ⟨hlt, e⟩ := List.getElem?_eq_some_iff.mp hi
      have e2 : i = j := by rw [← e]; simp
      exact e2 ▸ hf
    rw [List.length_range] at W'
    refine fin g h₅ _ tk ps' (hb.push hgb) (fun b o n e => hk₅ b o (up₃ b o n e)) (hcode₃.keeps hk₅) (htab₃.keeps hk₅) ⟨_, _, _, _, W', hat, (fun i s' st => st.1.typeIs), List.mem_cons_self, ?_, ?_⟩
    · intro b hb
      show b < h₅.objs.size
      rw [hsz₅]
      rcases List.mem_cons.mp hb with rfl | hb
      · exact Nat.lt_succ_self _
      · rcases List.mem_cons.mp hb with rfl | hb
        · exact Nat.lt_succ_of_lt hag
        · exact Nat.lt_succ_of_lt (Nat.lt_trans (List.mem_range.mp hb) hag)
    · intro b hb
      rcases List.mem_cons.mp hb with rfl | hb
      · exact Nat.lt_of_lt_of_le (Nat.lt_succ_of_lt hLb) hgeS
      · rcases List.mem_cons.mp hb with rfl | hb
        · exact hLb
        · cases hb
end
end
section
open Builtin Builtin.List
theorem args_sum2 (a : Value) (i : Int) (t : Tok) : argsOk "sum" ⟨[a, .int i t], []⟩ := by unfold argsOk; kernel_rfl
theorem moved_state {wr : List Addr} {G : Array GenState → Array GenState → Prop} {s s' : Shared} (m : Moved wr G s s') : s' = { s with heap := s'.heap, gens := s'.gens, toks := s'.toks } := by
  obtain ⟨h, g, d, t, o⟩ := s'
  have h1 := m.drawn
  have h2 := m.os
  dsimp only at h1 h2 ⊢
  subst h1 h2
  rfl
section
variable {prog : Program} {w : World} {A : Around} {E : Value → Shared → Prop} {s : Shared} {Fp : Nat → Value → Prop} {n : Nat} {g Lb : Addr}
theorem sum2_gen {t : Tok} {Q : Value → Shared → Prop} (G : AllBare s.gens) (X : Gen prog w A Lb g n Fp s) (val : Nat → Int) (hval : ∀ j v, Fp j v → ∃ t, v = .int (val j) t) (hfit : ∀ j, j < n → InLong (val j) ∧ InLong (preSum val (j + 1)))
    (hQ : ∀ h' gs' tk t', (∀ b o, b ≤ Lb → s.heap.get? b = some o → h'.get? b = some o) → AllBare gs' → Q (.int (preSum val n) t') { s with heap := h', gens := gs', toks := tk }) :
    wpAny (model prog w) A (call (.builtin "sum") [.ref g, .int 0 t]) Q E s := by
  obtain ⟨fp, wr, gn, St, W, hst, _, _, hfp, hwr⟩ := X
  have W := W.in4_1
  refine call_function_tree F.kind_sum F.plain_sum F.entry_sum (args_sum2 _ _ _) ?_
  unfold Builtin.«sum»
  simp only [List.length_cons, List.length_nil]
  rw [if_neg (by decide)]
  refine wpAny_bind (wpAny_of_eq (show Builtin.Builtins.bindParams "sum" ["start"] 0 { pos := [.int 0 t] } = pure [some (.int 0 t)] from rfl) ?_)
  refine wpAny_bind (W.self 0 _ _ _ hst ?_)
  have hw : ∀ s' : Shared, Moved wr (GenOnlyQ gn) s s' → ∀ t', Q (.int (preSum val n) t') s' := fun s' hm t' => by
    rw [moved_state hm]
    exact hQ _ _ _ _ (fun b o hb e => hm.heap b o (fun hmem => Nat.lt_irrefl _ (Nat.lt_of_lt_of_le (hwr b hmem) hb)) e) (G.movedS hm)
  refine wpAny_bind (wpAny_rule (wpAny_bind (wpAny_mkInt (wpAny_bind (wpAny_pure ?_)))))
  simp only [List.forIn_cons, List.forIn_nil]
  refine wpAny_bind (wpAny_bind (wpAny_bind (wpAny_isInstance (T := "int") (b := false) (typeIs_int _ _ _) PySem.sub_int_str ?_)))
  simp only [Bool.false_eq_true, if_false]
  refine wpAny_pure (wpAny_bind (wpAny_bind (wpAny_isInstance (T := "int") (b := false) (typeIs_int _ _ _) PySem.sub_int_bytes ?_)))
  simp only [Bool.false_eq_true, if_false]
  refine wpAny_pure (wpAny_bind (wpAny_bind (wpAny_isInstance (T := "int") (b := false) (typeIs_int _ _ _) PySem.sub_int_bytearray ?_)))
  simp only [Bool.false_eq_true, if_false]
  refine wpAny_pure (wpAny_pure ?_)
  refine wpAny_bind (wpAny_newObj_type ?_)
  have hSf : s.heap.objs.size ∉ fp := fun hm => Nat.lt_irrefl _ (hfp _ hm)
  refine wpAny_pure ⟨plainId_quiet F.plain_sum_loop _, codeAny_sum_loopS W val hval hfit s.heap.objs.size hSf n 0 _ s.toks 0 rfl (Nat.zero_le _)
    (W.frame 0 s _ _ hst (by first | exact Nat.le_refl _ | exact Nat.le_succ _ | omega) fun b _ o e => Heap.get?_push_of_some _ e) (Heap.get?_push_size _ rfl) fun s' t' hm => ?_⟩
  exact hw s' (hm.drop_new (by first | exact Nat.le_refl _ | exact Nat.le_succ _ | omega)) t'
theorem join2_gen {sep : Str} {t : Tok} {Q : Value → Shared → Prop} (G : AllBare s.gens) (X : Gen prog w A Lb g n Fp s) (tx : Nat → Str) (htx : ∀ j v, Fp j v → ∃ u, v = .str (tx j) u) (hok : JoinOk sep ((List.range n).map tx) = true)
    (hQ : ∀ h' gs' tk t', (∀ b o, b ≤ Lb → s.heap.get? b = some o → h'.get? b = some o) → AllBare gs' → Q (.str (Txt.join sep ((List.range n).map tx)) t') { s with heap := h', gens := gs', toks := tk }) (hsz : n ≤ sizeLine) :
    wpAny (model prog w) A (call (.builtin "str.join") [.str sep t, .ref g]) Q E s := by
  obtain ⟨fp, wr, gn, St, W, hst, hT, ha, hfp, hwr⟩ := X
  have W := W.in4_2
  refine SC.joinGen W hT hst hfp ha (fun j v hv => let ⟨u, e⟩ := htx j v hv; ⟨_, u, e⟩) (fun s' lt hm hacc => ?_) hsz
  have hl : lt.map (·.1) = (List.range n).map tx := by
    apply List.ext_getElem?
    intro j
    have hsz : lt.length = n := by simpa [strValues] using hacc.1
    by_cases hj : j < n
    · have hj' : j < lt.length := hsz ▸ hj
      obtain ⟨u, hv⟩ := htx j _ (hacc.2 j (.str lt[j].1 lt[j].2) (by simp [strValues, List.getElem?_eq_getElem hj']))
      injection hv with h1 _
      simp [List.getElem?_eq_getElem hj', hj, h1]
    · rw [List.getElem?_eq_none (by simpa [hsz] using Nat.le_of_not_lt hj), List.getElem?_eq_none (by simpa using Nat.le_of_not_lt hj)]
  rw [hl]
  refine ⟨hok, fun t' k => ?_⟩
  have hb' := G.movedS hm
  have hk' : ∀ b o, b ≤ Lb → s.heap.get? b = some o → s'.heap.get? b = some o := fun b o hb e => hm.heap b o (fun hmem => Nat.lt_irrefl _ (Nat.lt_of_lt_of_le (hwr b hmem) hb)) e
  rw [moved_state hm]
  exact hQ _ _ _ _ hk' hb'
end
end
section
theorem kw5 : True := by
  k_with_none
  exact trivial
local macro_rules | `(tactic| k_room) => `(tactic| ((try dsimp only [Ar, Around.deeper, Around.in1]); omega))
local macro_rules | `(tactic| k_data) => `(tactic| skip)
local macro_rules | `(tactic| k_inst) => `(tactic| (refine' inst_acc ?N ?h1 ?h2; (case N => k_asm); (case h1 => k_mem); (case h2 => k_mem)))
local macro_rules | `(tactic| k_inst) => `(tactic| exact inst_seq (Fr.keep (by k_asm) _ _ (by assumption)) (Fr.keep (by k_asm) _ _ (by assumption)))
local macro_rules | `(tactic| k_inst) => `(tactic| exact inst_seq (News.get (by k_asm) (by k_mem)) (Fr.keep (by k_asm) _ _ (by assumption)))
local macro_rules | `(tactic| k_ne) => `(tactic| (refine neN ?_; (try dsimp only); first | with_reducible assumption | (refine Ne.symm ?_; with_reducible assumption) | omega))
theorem kw6 : True := by
  k_with "getMethod ref" => ((k_here; k_dflt (refine' method_bi ?k1 ?k2 ?k3 ?k4 ?k5 ?k6 ?k7 ?_; (case k1 => k_in); (case k2 => k_inst); (case k3 => k_is); (case k4 => k_is); (case k5 => k_is); (case k6 => exact T_append); (case k7 => first | assumption | rfl); k_whole)))
  k_with "getMethod ref" => ((k_here; k_dflt (refine' method_fnL ?k1 ?k2 ?k3 ?k4 ?k5 ?k6 ?k7 ?_; (case k1 => k_in); (case k2 => k_inst); (case k3 => k_is); (case k4 => k_is); (case k5 => k_is); (case k6 => k_is); (case k7 => first | assumption | rfl); k_whole)))
  k_with "getMethod ref" => ((k_here; k_dflt (refine' super_methK ?k1 ?k2 ?k3 ?k4 ?k5 ?k6 ?k7 ?k8 ?k9 ?kA ?kB ?kC ?_; (case k1 => k_asm); (case k2 => k_asm); (case k3 => k_asm); (case k4 => k_mem); (case k5 => k_inst); (case k6 => k_is); (case k7 => ks_is); (case k8 => k_is); (case kB => first | exact binds_pop | exact binds_len | exact binds_init); (case k9 => kernel_rfl); (case kA => first | exact slot_md_get.lookup | exact slot_wd_get.lookup); (case kC => decide); intro q' h' F' N' l1; (try k_lt l1))))
  k_with "callWith ref" => ((k_here; k_dflt (refine' callWith_B0 ?k1 ?k2 ?k3 ?_; (case k1 => exact (News.get (by k_asm) (by k_mem))); (case k2 => rfl); (case k3 => rfl); k_whole)))
  k_with "call ref" => ((k_here; k_dflt (refine' len_B ?k1 ?k2 ?k3 ?_; (case k1 => exact (News.get (by k_asm) (by k_mem))); (case k2 => first | exact (News.get (by k_asm) (by k_mem)) | exact Fr.keep (by k_asm) _ _ (by assumption)); (case k3 => omega); k_whole); intro _))
  k_with "call ref" => ((k_here; k_dflt (refine' pop_B ?k1 ?k2 ?k3 ?k4 ?k5 ?k6 ?k7 ?k8 ?k9 ?kA ?kB ?_; (case k1 => k_asm); (case k2 => k_asm); (case k3 => k_in); (case k4 => k_inst); (case k5 => exact (News.get (by k_asm) (by k_mem))); (case k6 => k_is); (case k7 => decide +kernel); (case k8 => k_is); (case k9 => k_is); (case kA => omega); (case kB => k_upd); k_whole); intro h' F' N'))
  k_with "call builtin:list.append" => ((k_here; k_dflt (refine' append_sub ?k1 ?k2 ?k3 ?k4 ?k5 ?k6 ?k7 ?_; (case k1 => k_asm); (case k2 => k_asm); (case k3 => k_asm); (case k4 => k_inst); (case k5 => k_is); (case k6 => k_upd); (case k7 => omega); k_whole; intro h' F' N')))
  k_with "wpAt" => ((dsimp only; walk_at "wpAt"))
  k_with "wpAt" => ((ks_step "eval Call"; (with_unfolding_all refine ks_wpAt_MethodCall (pl := (do return (← importBound _ _).getD true)) ?_)))
  k_with "setItem ref ref" => ((k_here; k_dflt (refine' setSlice_sub ?k1 ?k2 ?k3 ?k4 ?k5 ?k6 ?k7 ?k8 ?k9 ?kA ?kB ?kC ?kD ?kE ?_; (case k1 => k_asm); (case k2 => k_asm); (case k3 => k_asm); (case k4 => k_inst); (case k5 => k_is); (case k6 => k_is); (case k7 => k_is); (case kA => first | exact News.get (by k_asm) (by k_mem) | exact Fr.keep (by k_asm) _ _ (by assumption)); (case k8 => first | omega | k_ne); (case k9 => first | exact PySem.IsPart.none | exact PySem.IsPart.int _ _); (case kB => first | exact cut_all _ _ | exact cut_from _ _ (by omega)); (case kC => k_upd); (case kD => first | omega | (simp; done) | (simp; omega)); (case kE => first | omega | (simp; done) | (simp; omega)); k_whole); intro h' F' N'))
  k_with "setAttr ref" => ((k_here; k_dflt (refine' set_dictL ?k1 ?k2 ?k3 ?k4 ?k5 ?k6 ?k7 ?k8 ?k9 ?kA ?kB ?kC ?kD ?kE ?_; (case k1 => k_asm); (case k2 => k_asm); (case k3 => k_asm); (case k4 => k_inst); (case k5 => exact rfl); (case k6 => k_is); (case k7 => k_is); (case k8 => rfl); (case k9 => k_is); (case kA => rfl); (case kB => first | k_get | exact rfl); (case kC => first | k_put | exact rfl); (case kD => k_upd); (case kE => exact Nat.le_of_ble_eq_true rfl); k_whole; intro h' F' N')))
  k_with "subscriptTail Name Slice ref ref" => ((k_here; (with_reducible show wpAny _ _ (subscriptTail _ (PySem.Expr.Slice _ _ none _) (Value.ref _) (Value.ref _)) _ _ _); k_dflt (refine' slice_sub ?k1 ?k2 ?k3 ?k4 ?k5 ?k6 ?k7 ?k8 ?k9 ?kA ?_ ?kB ?kC; (case k1 => k_asm); (case k2 => k_asm); (case k3 => k_asm); (case k4 => k_inst); (case k5 => k_is); (case k6 => k_is); (case k7 => k_is); (case k8 => first | exact PySem.IsPart.none | exact PySem.IsPart.int _ _); (case k9 => first | exact PySem.IsPart.none | exact PySem.IsPart.int _ _); (case kA => exact pick_from _ _ (by omega)); (case kB => with_unfolding_all rfl); (case kC => omega); k_whole); intro D' h' F' N' l1; (try k_lt l1)))
  k_with "wpAt" => ((ks_step "attributeBase Call"; k_here; k_dflt (refine node_sup (by k_asm) (by k_asm) (by k_asm) (by k_asm) (by k_is) (by rfl) (by rfl) (by k_inst) (by k_is) (by rfl) (by first | rfl | decide +kernel) (by k_is) (by k_is) (by k_is) (by k_is) (by decide) (by rfl) (by rfl) (by rfl) (by rfl) (by decide +kernel) (by first | boot_by_name | rfl | kernel_rfl) ?_; intro so' h' F' N' l1; (try k_lt l1))))
  exact trivial
section
section
theorem pc_spec (w : World) (p' : Program) (loose : List Str) (a d : Addr) (k u : Tok) (its : List Value) (n kk : Nat) (hz : its.length ≤ 900) (hkk : its.length = kk) :
    PureH w p' loose 3 20 175 [.ref a] (fun h => h.get? a = some (accO d its n) ∧ h.get? d = some (accD w k u)) (fun v => ∃ tk, v = .int (kk : Int) tk) := by
  intro dp un gd outer base mean mg mb s Q E hd hu B X T ⟨ha, hdd⟩ hret
  have Ld := Led.self s.heap
  revert X; k_fill; intro X
  refine wpAny_call ?_
  refine' mut_enterC X T Ld ?k6 ?k7 ?k8 ?k9 ?kB ?_ ?c2 ?c3 ?c4 ?c5
  (case k6 => k_is)
  (case k7 => k_is)
  (case k8 => (show dp < _; omega))
  (case k9 => first | exact BindsTo.of_eq rfl | exact binds_K (X.keeps Ld.keep) rfl (by k_is) rfl rfl rfl)
  (case kB => exact locs rfl)
  (case c2 => exact rfl)
  (case c3 => exact rfl)
  (case c4 => exact rfl)
  (case c5 => decide)
  intro L' h' F' N'
  try dsimp only
  k_steps
  dsimp only
  rw [hkk]
  exact hret _ _ _ ⟨_, rfl⟩ (Fr.keep (by assumption))
theorem push_spec (w : World) (p' : Program) (loose : List Str) (a d : Addr) (k u : Tok) (its : List Value) (n : Nat) (x y : Str) (tx ty : Tok) (hsz : its.length ≤ 900) :
    Mut w p' loose 3 20 122 [.ref a, .str x tx, .str y ty] (fun h => h.get? d = some (accD w k u)) [(a, accO d its n)] (fun v led => v = .none ∧ ∃ t n' m, led = [(t, tupO x tx y ty m)] ++ [(a, accO d (its ++ [.ref t]) n')]) := by
  intro dp un gd outer base g mean mg mb s Q E hd hu B X T Ld hdd BM hgs hret
  revert X; k_fill; intro X
  refine wpAny_call ?_
  refine' mut_enter X T Ld ?k6 ?k7 ?k8 ?k9 ?kB ?_ ?c2 ?c3 ?c4 ?c5
  (case k6 => k_is)
  (case k7 => k_is)
  (case k8 => (show dp < _; omega))
  (case k9 => first | exact BindsTo.of_eq rfl | exact binds_K (X.keeps Ld.keep) rfl (by k_is) rfl rfl rfl)
  (case kB => exact locs rfl)
  (case c2 => exact rfl)
  (case c3 => exact rfl)
  (case c4 => exact rfl)
  (case c5 => decide)
  intro L' h' F' N'
  try dsimp only
  k_steps
  dsimp only
  exact hret _ _ _ _ _ ⟨rfl, _, _, _, rfl⟩ (Led.of_frame (by assumption) (by assumption)) hgs
end
end
section
theorem kw7 : True := by
  k_with "call ref" => ((k_here; (with_reducible show wpAny _ _ (call (Value.ref 175) _) _ _ _); (refine' pureH_callK (pc_spec _ _ _ _ _ _ _ _ _ _ ?hz ?hkk) ?kB ?kF ?kX ?kT ?kN ?kA ?kf ?kk ?kd ?ku ?kp ?_; (case kA => exact rfl); (case kf => exact rfl); (case kk => exact rfl); (case kp => exact ⟨(by first | exact News.get (by k_asm) (by k_mem) | exact Fr.keep (by k_asm) _ _ (by assumption)), (by first | exact News.get (by k_asm) (by k_mem) | exact Fr.keep (by k_asm) _ _ (by assumption))⟩); (case hkk => first | (simp only [List.length_append, List.length_cons, List.length_nil, Nat.zero_add, Nat.reduceAdd]; rfl) | rfl); (case hz => first | omega | (simp; omega) | simp); (case kB => assumption); (case kF => k_asm); (case kX => k_asm); (case kT => k_asm); (case kN => k_asm); (case kd => ((try dsimp only [Ar, Around.deeper, Around.in1]); omega)); (case ku => ((try dsimp only [Ar, Around.deeper, Around.in1]); omega)); intro v' h' tk' hv' F' N' e'; obtain ⟨_, e9⟩ := hv'; subst e9)))
  exact trivial
section
section
theorem pop_spec (w : World) (p' : Program) (loose : List Str) (a d : Addr) (k u : Tok) (its : List Value) (v : Value) (n : Nat) (hz : its.length ≤ 800) :
    Mut w p' loose 5 30 138 [.ref a] (fun h => h.get? d = some (accD w k u)) [(a, accO d (its ++ [v]) n)] (fun r led => r = v ∧ ∃ n', led = [] ++ [(a, accO d its n')]) := by
  intro dp un gd outer base g mean mg mb s Q E hd hu B X T Ld hdd BM hgs hret
  revert X; k_fill; intro X
  refine wpAny_call ?_
  refine' mut_enterC X T Ld ?k6 ?k7 ?k8 ?k9 ?kB ?_ ?c2 ?c3 ?c4 ?c5
  (case k6 => k_is)
  (case k7 => k_is)
  (case k8 => (show dp < _; omega))
  (case k9 => first | exact BindsTo.of_eq rfl | exact binds_K (X.keeps Ld.keep) rfl (by k_is) rfl rfl rfl)
  (case kB => exact locs rfl)
  (case c2 => exact rfl)
  (case c3 => exact rfl)
  (case c4 => exact rfl)
  (case c5 => decide)
  intro L' h' F' N'
  try dsimp only
  k_steps
  all_goals (dsimp only; first | (exfalso; omega) | exact hret _ _ _ _ _ ⟨rfl, _, rfl⟩ (Led.of_frame (by assumption) (newsSub (by assumption) (List.forall_mem_cons.mpr ⟨by k_mem, List.forall_mem_nil _⟩))) hgs)
end
end
section
section
theorem reset_spec (w : World) (p' : Program) (loose : List Str) (a d l : Addr) (k u : Tok) (its vs : List Value) (n nl : Nat) (had : @Ne Nat a d) (hal : @Ne Nat a l) (hdl : @Ne Nat d l) (hz : its.length ≤ 400) (hz' : vs.length ≤ 400) :
    Mut w p' loose 3 20 160 [.ref a, .ref l] (fun h => h.get? l = some (listOf vs.toArray nl)) [(a, accO d its n), (d, accD w k u)] (fun r led => r = .none ∧ ∃ u', led = [(a, accO d vs (if vs.length == its.length then n else n + 1)), (d, accD w k u')]) := by
  intro dp un gd outer base g mean mg mb s Q E hd hu B X T Ld hll BM hgs hret
  revert X; k_fill; intro X
  refine wpAny_call ?_
  refine' mut_enter X T Ld ?k6 ?k7 ?k8 ?k9 ?kB ?_ ?c2 ?c3 ?c4 ?c5
  (case k6 => k_is)
  (case k7 => k_is)
  (case k8 => (show dp < _; omega))
  (case k9 => first | exact BindsTo.of_eq rfl | exact binds_K (X.keeps Ld.keep) rfl (by k_is) rfl rfl rfl)
  (case kB => exact locs rfl)
  (case c2 => exact rfl)
  (case c3 => exact rfl)
  (case c4 => exact rfl)
  (case c5 => decide)
  intro L' h' F' N'
  try dsimp only
  k_steps
  dsimp only
  exact hret _ _ _ _ _ ⟨rfl, _, rfl⟩ (Led.of_frame (by assumption) (newsSub (by assumption) (List.forall_mem_cons.mpr ⟨by k_mem, List.forall_mem_cons.mpr ⟨by k_mem, List.forall_mem_nil _⟩⟩))) hgs
theorem reset0_spec (w : World) (p' : Program) (loose : List Str) (a d : Addr) (k u : Tok) (its : List Value) (n : Nat) (had : @Ne Nat a d) (hz : its.length ≤ 400) :
    Mut w p' loose 3 20 160 [.ref a] (fun _ => True) [(a, accO d its n), (d, accD w k u)] (fun r led => r = .none ∧ ∃ u', led = [(a, accO d [] (if ([] : List Value).length == its.length then n else n + 1)), (d, accD w k u')]) := by
  intro dp un gd outer base g mean mg mb s Q E hd hu B X T Ld _ BM hgs hret
  revert X; k_fill; intro X
  refine wpAny_call ?_
  refine' mut_enter X T Ld ?k6 ?k7 ?k8 ?k9 ?kB ?_ ?c2 ?c3 ?c4 ?c5
  (case k6 => k_is)
  (case k7 => k_is)
  (case k8 => (show dp < _; omega))
  (case k9 => first | exact BindsTo.of_eq rfl | exact binds_K (X.keeps Ld.keep) rfl (by k_is) rfl rfl rfl)
  (case kB => exact locs rfl)
  (case c2 => exact rfl)
  (case c3 => exact rfl)
  (case c4 => exact rfl)
  (case c5 => decide)
  intro L' h' F' N'
  try dsimp only
  k_steps
  dsimp only
  exact hret _ _ _ _ _ ⟨rfl, _, rfl⟩ (Led.of_frame (by assumption) (newsSub (by assumption) (List.forall_mem_cons.mpr ⟨by k_mem, List.forall_mem_cons.mpr ⟨by k_mem, List.forall_mem_nil _⟩⟩))) hgs
theorem popfrom_spec (w : World) (p' : Program) (loose : List Str) (a d : Addr) (k u tk : Tok) (its : List Value) (n i : Nat) (hz : its.length ≤ 400) (hi : i ≤ its.length) :
    Mut w p' loose 3 20 130 [.ref a, .int (i : Int) tk] (fun h => h.get? d = some (accD w k u)) [(a, accO d its n)] (fun r led => ∃ l n', r = .ref l ∧ led = [(l, listOf (its.drop i).toArray 0)] ++ [(a, accO d (its.take i) n')]) := by
  intro dp un gd outer base g mean mg mb s Q E hd hu B X T Ld hdd BM hgs hret
  revert X; k_fill; intro X
  refine wpAny_call ?_
  refine' mut_enter X T Ld ?k6 ?k7 ?k8 ?k9 ?kB ?_ ?c2 ?c3 ?c4 ?c5
  (case k6 => k_is)
  (case k7 => k_is)
  (case k8 => (show dp < _; omega))
  (case k9 => first | exact BindsTo.of_eq rfl | exact binds_K (X.keeps Ld.keep) rfl (by k_is) rfl rfl rfl)
  (case kB => exact locs rfl)
  (case c2 => exact rfl)
  (case c3 => exact rfl)
  (case c4 => exact rfl)
  (case c5 => decide)
  intro L' h' F' N'
  try dsimp only
  k_steps
  dsimp only
  exact hret _ _ _ _ _ ⟨_, _, rfl, rfl⟩ (Led.of_frame (by assumption) (newsSub (by assumption) (List.forall_mem_cons.mpr ⟨by k_mem, List.forall_mem_cons.mpr ⟨by k_mem, List.forall_mem_nil _⟩⟩))) hgs
end
end
section
noncomputable abbrev tabO (ps : Array Value) : Obj := ⟨.none, none, .fields ps, #[]⟩
section
variable {prog : Program} {w : World} {A : Around} {E : Value → Shared → Prop} {s : Shared}
theorem gname_local {env : Env} {m : Str → Option Value} {x : Str} {pos : Pos} {v : Value} {Q : Value → Shared → Prop} (hn : s.heap.Ns env.locals m) (hv : m x = some v) (hk : env.scope.kind = .function) (hl : env.kindOf x = some .local) (hd : (x == ("__debug__" : Str)) = false) (h : Q v s) :
    wpAny (model prog w) A (eval (.Name x pos) env) Q E s := wpAny_Name (wpAny_loadName_local hk hl hn hv h) hd
end
section
theorem kw8 : True := by
  k_with "eval Name" => ((refine gname_local (by assumption) (by assumption) (by assumption) (by assumption) (by decide) ?_))
  k_with "eval Name" => ((refine Name_function_global (by assumption) (by assumption) (loadGlobal_builtin (by assumption) (by assumption) (by assumption) (by assumption) ?_) (by decide)))
  exact trivial
theorem len_elt (w : World) (A' : Around) (E' : Value → Shared → Prop) (env : Env) (t : Shared) (C₁ : Addr) (m₂ mg mb : Str → Option Value) (code : Value) (cl : List (Str × Addr)) (scope : Scope) (x y : Str) (tx ty : Tok) (p0 p1 p2 p3 p4 p5 p6 : Pos)
    (hh : A'.handled = none) (hn : t.heap.Ns (genEnv scope cl C₁ code builtinsNs env).locals m₂) (h1 : m₂ (Str.ofString "fws") = some (.str x tx)) (h2 : m₂ (Str.ofString "part") = some (.str y ty))
    (hg : t.heap.Ns (genEnv scope cl C₁ code builtinsNs env).globals mg) (hb : t.heap.Ns (genEnv scope cl C₁ code builtinsNs env).builtins mb) (hm : mg (Str.ofString "len") = none) (hlen : mb (Str.ofString "len") = some (.builtin "len"))
    (hsk : (genEnv scope cl C₁ code builtinsNs env).scope.kind = .function) (hl1 : (genEnv scope cl C₁ code builtinsNs env).kindOf (Str.ofString "fws") = some .local) (hl2 : (genEnv scope cl C₁ code builtinsNs env).kindOf (Str.ofString "part") = some .local) (hl3 : (genEnv scope cl C₁ code builtinsNs env).kindOf (Str.ofString "len") = some .globalImplicit) (hx : x.length ≤ 1000) (hy : y.length ≤ 1000) :
    wpAny (model PySem.Challenge.rw_xn0030_01.row.prog w) A' (eval (.BinOp (.Call (.Name (Str.ofString "len") p0) [.Name (Str.ofString "fws") p1] [] p2) .Add (.Call (.Name (Str.ofString "len") p3) [.Name (Str.ofString "part") p4] [] p5) p6) (genEnv scope cl C₁ code builtinsNs env)) (fun v s₃ => (∃ u, v = .int ((x.length : Int) + (y.length : Int)) u) ∧ Keeps t s₃) E' t := by
  k_steps
  exact ⟨_, _, rfl, fun _ _ e => e⟩
theorem newTuple_raw {M : Model} {A : Around} {E : Value → Shared → Prop} {s : Shared} {vs : List Value} {Q : Value → Shared → Prop} (h : Q (.ref s.heap.objs.size) { s with heap := s.heap.push { cls := .type "tuple", data := .seq vs.toArray } }) (hsz : vs.length ≤ 1000) : wpAny M A (newTuple vs) Q E s :=
  wpAny_newObj_type h (by show vs.toArray.size ≤ sizeLine; rw [List.size_toArray, sizeLine_eq]; omega)
theorem kw9 : True := by
  k_with "newTuple" => ((refine newTuple_raw ?_ (Nat.le_of_ble_eq_true rfl)))
  k_with "eval Name" => ((refine Name_function_global (by assumption) (by assumption) (loadGlobal_global (by assumption) (by assumption) ?_) (by decide)))
  k_with "call builtin:str.join" => ((refine join_tupleW ⟨_, Heap.get?_push_size _ rfl, rfl, _, rfl⟩ (.cons _ _ (.cons _ _ .nil)) (by decide) (by simp; omega) ?_))
  exact trivial
theorem str_elt (w : World) (A' : Around) (E' : Value → Shared → Prop) (env : Env) (t : Shared) (C₁ : Addr) (m₂ mg mb : Str → Option Value) (code : Value) (cl : List (Str × Addr)) (scope : Scope) (x y : Str) (tx ty te : Tok) (kt : Nat)
    (hh : A'.handled = none) (hn : t.heap.Ns (genEnv scope cl C₁ code builtinsNs env).locals m₂) (h1 : m₂ (Str.ofString "fws") = some (.str x tx)) (h2 : m₂ (Str.ofString "part") = some (.str y ty))
    (hg : t.heap.Ns (genEnv scope cl C₁ code builtinsNs env).globals mg) (he : mg (Str.ofString "EMPTYSTRING") = some (.str (Str.ofString "") te))
    (hsk : (genEnv scope cl C₁ code builtinsNs env).scope.kind = .function) (hl1 : (genEnv scope cl C₁ code builtinsNs env).kindOf (Str.ofString "fws") = some .local) (hl2 : (genEnv scope cl C₁ code builtinsNs env).kindOf (Str.ofString "part") = some .local) (hl3 : (genEnv scope cl C₁ code builtinsNs env).kindOf (Str.ofString "EMPTYSTRING") = some .globalImplicit) (hx : x.length ≤ 1000) (hy : y.length ≤ 1000) :
    wpAny (model PySem.Challenge.rw_xn0030_01.row.prog w) A' (eval (.Call (.Attribute (.Name (Str.ofString "EMPTYSTRING") ⟨96, 33, 96, 44⟩) (Str.ofString "join") ⟨96, 33, 96, 49⟩) [.Tuple [.Name (Str.ofString "fws") ⟨96, 51, 96, 54⟩, .Name (Str.ofString "part") ⟨96, 56, 96, 60⟩] 0 ⟨96, 50, 96, 61⟩] [] ⟨96, 33, 96, 62⟩) (genEnv scope cl C₁ code builtinsNs env)) (fun v s₃ => (∃ u, v = .str (Txt.join (Str.ofString "") [x, y]) u) ∧ Keeps t s₃) E' t := by
  k_steps
  exact ⟨_, _, rfl, fun _ _ e => Heap.get?_push_of_some _ e⟩
end
inductive Cells (h : Heap) : List Value → List Str → Prop
  | nil : Cells h [] []
  | cons {t : Addr} {x : Str} {tx ty : Tok} {n : Nat} {vs : List Value} {xs : List Str} : h.get? t = some (tupO (Str.ofString "") tx x ty n) → Cells h vs xs → Cells h (.ref t :: vs) (x :: xs)
theorem Cells.keeps {h h' : Heap} {vs : List Value} {xs : List Str} (c : Cells h vs xs) (k : ∀ b o, h.get? b = some o → h'.get? b = some o) : Cells h' vs xs := by
  induction c with
  | nil => exact .nil
  | cons e _ ih => exact .cons (k _ _ e) ih
theorem Cells.length {h : Heap} {vs : List Value} {xs : List Str} (c : Cells h vs xs) : vs.length = xs.length := by
  induction c with
  | nil => rfl
  | cons e _ ih => simp [ih]
theorem Cells.funs {h : Heap} {vs : List Value} {xs : List Str} (c : Cells h vs xs) : ∃ (Ts : Nat → Addr) (tx ty : Nat → Tok), ∀ j, j < vs.length → vs[j]? = some (.ref (Ts j)) ∧ h.IsTuple (Ts j) #[.str (Str.ofString "") (tx j), .str (xs.getD j (Str.ofString "")) (ty j)] := by
  induction c with
  | nil => exact ⟨fun _ => 0, fun _ => 0, fun _ => 0, fun j hj => absurd hj (Nat.not_lt_zero _)⟩
  | @cons t x tx ty n vs xs e _ ih =>
    obtain ⟨Ts, fx, fy, hT⟩ := ih
    refine ⟨fun j => match j with | 0 => t | j + 1 => Ts j, fun j => match j with | 0 => tx | j + 1 => fx j, fun j => match j with | 0 => ty | j + 1 => fy j, fun j hj => ?_⟩
    cases j with
    | zero => exact ⟨rfl, _, e, rfl, _, rfl⟩
    | succ j => exact hT j (by simpa using hj)
theorem getD_len1 {xs : List Str} (h : ∀ x ∈ xs, x.length = 1) {j : Nat} (hj : j < xs.length) : (xs.getD j (Str.ofString "")).length = 1 := by
  rw [List.getD_eq_getElem?_getD, List.getElem?_eq_getElem hj]
  exact h _ (List.getElem_mem hj)
noncomputable def GenK (prog : Program) (w : World) (A : Around) (g : Heap) (L : Addr) (news : List (Addr × Obj)) (Lb gg : Addr) (n : Nat) (Fp : Nat → Value → Prop) (s : Shared) : Prop :=
  L ≤ Lb ∧ (∀ p ∈ news, p.1 ≤ Lb) ∧ (∀ b o, g.get? b = some o → b ≤ Lb) ∧ Gen prog w A Lb gg n Fp s
section
variable {prog : Program} {w : World} {A : Around} {E : Value → Shared → Prop} {s : Shared} {g : Heap} {L P c a C d : Addr} {m mg mb : Str → Option Value} {ps : Array Value} {rest : List (Addr × Obj)} {K : Frag} {p : Program} {loose : List Str} {its : List Value} {n : Nat} {od : Obj} {Fp : Nat → Value → Prop}
theorem ge_K {env : Env} {elt : Expr} {xa xb x : Str} {pa pb pt px : Pos} {kt : Nat} {scope : Scope} {cl : List (Str × Addr)} {pos : Pos} {Q : Value → Shared → Prop} {Ts : Nat → Addr} {va vb : Nat → Value}
    (hcodes : ∀ (h : Heap) (ps : Array Value), K.In h → h.get? P = some (tabO ps) → TriplesOk ps.toList → h.IsCode c P ps ∧ h.TableAt c P ps)
    (F : Fr g L s.heap m) (N : News g L s.heap ((P, tabO ps) :: rest)) (hrest : ∀ p ∈ rest, p.1 ≠ P) (X₀ : K.In g) (T : TopRead p loose mg mb g) (BM : Bm g mg) (hgs : AllBare s.gens) (hps : TriplesOk ps.toList)
    (hh : A.handled = none) (hco : scope.isCoroutine = false) (hclos : closureFor scope env = pure cl) (hcell : ∀ y ∈ scope.names, y.2 ≠ .cell) (h0 : scope.names.lookup (".0" : Str) = some NameKind.local)
    (hxa : scope.names.lookup xa = some .local) (hxb : scope.names.lookup xb = some .local) (hab : xa ≠ xb) (hkind : scope.kind = .function) (hroom : A.depth < recursionLimit)
    (hcode : env.code = .ref c) (hgl : env.globals = mainGlobals) (hel : env.locals = L) (hek : env.scope.kind = .function) (hex : env.kindOf x = some .local) (hxd : (x == ("__debug__" : Str)) = false) (hmx : m x = some (.ref a))
    (I : InstAt s.heap a ⟨.ref C, some d, .seq its.toArray n, #[]⟩ C (some od)) (hsub : mroIn K C (.type "list") = some true) (hf : findIn K (.ref C) "__iter__" = some (some (.builtin "list.__iter__")))
    (hT : ∀ j, j < its.length → its[j]? = some (.ref (Ts j)) ∧ s.heap.IsTuple (Ts j) #[va j, vb j])
    (helt : ∀ (A' : Around) (E' : Value → Shared → Prop) (j : Nat) (t : Shared) (C₁ : Addr) (m₂ : Str → Option Value) (code : Value), A'.handled = none → j < its.length → t.heap.Ns C₁ m₂ → m₂ xa = some (va j) → m₂ xb = some (vb j) →
      (∀ b o, g.get? b = some o → t.heap.get? b = some o) → wpAny (model prog w) A' (eval elt (genEnv scope cl C₁ code builtinsNs env)) (fun y s₃ => Fp j y ∧ Keeps t s₃) E' t)
    (h : ∀ (Lb gg : Addr) (h₅ : Heap) (gs : Array GenState) (tk : Nat) (ps' : Array Value), AllBare gs → TriplesOk ps'.toList → Fr g L h₅ m → News g L h₅ ((P, tabO ps') :: rest) →
      GenK prog w A g L ((P, tabO ps') :: rest) Lb gg its.length Fp { s with heap := h₅, gens := gs, toks := tk } → Q (.ref gg) { s with heap := h₅, gens := gs, toks := tk })
    (hs : ∀ y, genFold (.Name x px) env y = pure y) :
    wpAny (model prog w) A (eval (.GeneratorExp elt [⟨.Tuple [.Name xa pa, .Name xb pb] kt pt, .Name x px, [], 0⟩] scope pos) env) Q E s := by
  have X := X₀.keeps F.keep
  have hP := N (P, tabO ps) (.head _)
  obtain ⟨hok, htab⟩ := hcodes s.heap ps X hP.1 hps
  have gP : ∀ b o, g.get? b = some o → b ≠ P := fun b o e q => by have := hP.2.2; rw [← q, e] at this; cases this
  obtain ⟨oS, _, _, hS, -⟩ := T.nolimit.choose_spec.1
  obtain ⟨oG, _, _, hG, -⟩ := T.g
  have hpos : 0 < s.heap.objs.size := Nat.lt_of_le_of_lt (Nat.zero_le _) (Heap.lt_size (F.keep _ _ hS))
  have hle : ∀ b o, s.heap.get? b = some o → b ≤ s.heap.objs.size - 1 := fun b o e => Nat.le_sub_one_of_lt (Heap.lt_size e)
  refine genexp_pairs (Lb := s.heap.objs.size - 1) (mg := mg) hh hco hclos hcell h0 hxa hxb hab hkind hroom hcode hok htab (T.nolimit.keeps F.keep) (by rw [hgl]; exact T.g.keeps F.keep) (BM.keeps F.keep) (by rw [hgl]; exact gP _ _ hG) (gP _ _ hS) X I hsub hf hT (Nat.sub_lt hpos Nat.one_pos) hgs
    (wpAny_Name (wpAny_loadName_local hek hex (by rw [hel]; exact F.ns) hmx ⟨rfl, rfl⟩) hxd)
    (fun A' E' j t C₁ m₂ code h1 _ _ h4 h5 h6 h7 h8 => helt A' E' j t C₁ m₂ code h1 h4 h5 h6 h7 fun b o e => h8 b o (gP b o e) (F.keep b o e)) (fun gg h₅ gs tk ps' hb hk hok' htab' XG => ?_) hs
  obtain ⟨oL, _, _, hL, -⟩ := F.ns
  have F₅ : Fr g L h₅ m := ⟨F.ns.at' fun o e => hk L o (fun q => hP.2.1 q.symm) e, fun b o e => hk b o (gP b o e) (F.keep b o e), F.above⟩
  have htr : TriplesOk ps'.toList := by
    obtain ⟨o, vs, file, tf, flags, tg, inF, text, tt, op, ho, hd, h11, h2, h7, h9, h10, hop, hpd, htr, hne⟩ := hok'
    exact htr
  refine h _ gg h₅ gs tk ps' hb htr F₅ (fun q hq => ?_) ⟨hle _ _ hL, fun q hq => ?_, fun b o e => hle _ _ (F.keep b o e), XG⟩
  · rcases List.mem_cons.mp hq with rfl | hq
    · exact ⟨htab'.2, hP.2⟩
    · have z := N q (.tail _ hq)
      exact ⟨hk _ _ (hrest q hq) z.1, z.2⟩
  · rcases List.mem_cons.mp hq with rfl | hq
    · exact hle _ _ hP.1
    · exact hle _ _ (N q (.tail _ hq)).1
theorem Gen.more {Lb gg : Addr} {n : Nat} {h' : Heap} {tk : Nat} (X : Gen prog w A Lb gg n Fp s) (ht : s.toks ≤ tk) (hk : ∀ b o, s.heap.get? b = some o → h'.get? b = some o) (hsz : s.heap.objs.size ≤ h'.objs.size) : Gen prog w A Lb gg n Fp { s with heap := h', toks := tk } := by
  obtain ⟨fp, wr, gn, St, W, hst, hT, ha, hfp, hwr⟩ := X
  exact ⟨fp, wr, gn, St, W, W.frame 0 s h' tk hst ht fun b _ o e => hk b o e, hT, ha, fun b hb => Nat.lt_of_lt_of_le (hfp b hb) hsz, hwr⟩
theorem sum_K {news : List (Addr × Obj)} {Lb gg : Addr} {n tk : Nat} {t : Tok} {Q : Value → Shared → Prop} (X : GenK prog w A g L news Lb gg n Fp s) (F : Fr g L s.heap m) (N : News g L s.heap news) (G : AllBare s.gens) (htk : s.toks ≤ tk)
    (val : Nat → Int) (hval : ∀ j v, Fp j v → ∃ t, v = .int (val j) t) (hfit : ∀ j, j < n → InLong (val j) ∧ InLong (preSum val (j + 1)))
    (h : ∀ h' gs' tk' t', Fr g L h' m → News g L h' news → AllBare gs' → Q (.int (preSum val n) t') { s with heap := h', gens := gs', toks := tk' }) :
    wpAny (model prog w) A (call (.builtin "sum") [.ref gg, .int 0 t]) Q E { s with toks := tk } := by
  obtain ⟨h1, h2, h3, XG⟩ := X
  have XG' : Gen prog w A Lb gg n Fp { s with toks := tk } := Gen.more (h' := s.heap) (tk := tk) XG htk (fun _ _ e => e) (Nat.le_refl _)
  refine sum2_gen (s := { s with toks := tk }) G XG' val hval hfit fun h' gs' tk' t' hk hb => ?_
  exact h h' gs' tk' t' ⟨F.ns.at' fun o e => hk L o h1 e, fun b o e => hk b o (h3 b o e) (F.keep b o e), F.above⟩ (fun q hq => ⟨hk _ _ (h2 q hq) (N q hq).1, (N q hq).2⟩) hb
theorem join_K {news : List (Addr × Obj)} {Lb gg : Addr} {n tk : Nat} {t : Tok} {sep : Str} {Q : Value → Shared → Prop} (X : GenK prog w A g L news Lb gg n Fp s) (F : Fr g L s.heap m) (N : News g L s.heap news) (G : AllBare s.gens) (htk : s.toks ≤ tk)
    (tx : Nat → Str) (htx : ∀ j v, Fp j v → ∃ u, v = .str (tx j) u) (hok : JoinOk sep ((List.range n).map tx) = true) (hsz : n ≤ 1000)
    (h : ∀ h' gs' tk' t', Fr g L h' m → News g L h' news → AllBare gs' → Q (.str (Txt.join sep ((List.range n).map tx)) t') { s with heap := h', gens := gs', toks := tk' }) :
    wpAny (model prog w) A (call (.builtin "str.join") [.str sep t, .ref gg]) Q E { s with toks := tk } := by
  obtain ⟨h1, h2, h3, XG⟩ := X
  have XG' : Gen prog w A Lb gg n Fp { s with toks := tk } := Gen.more (h' := s.heap) (tk := tk) XG htk (fun _ _ e => e) (Nat.le_refl _)
  refine join2_gen (s := { s with toks := tk }) G XG' tx htx hok (fun h' gs' tk' t' hk hb => ?_) (by rw [sizeLine_eq]; omega)
  exact h h' gs' tk' t' ⟨F.ns.at' fun o e => hk L o h1 e, fun b o e => hk b o (h3 b o e) (F.keep b o e), F.above⟩ (fun q hq => ⟨hk _ _ (h2 q hq) (N q hq).1, (N q hq).2⟩) hb
end
theorem codes_len (P : Params) : ∀ (h : Heap) (ps : Array Value), (Kf P).In h → h.get? 140 = some (tabO ps) → TriplesOk ps.toList → h.IsCode 144 140 ps ∧ h.TableAt 144 140 ps := by
  intro h ps X hP ht
  have hc : h.get? 144 = some (o144 P) := X 144 (o144 P) rfl
  exact ⟨⟨_, _, _, _, _, _, _, _, _, _, hc, rfl, rfl, rfl, rfl, rfl, rfl, hP, rfl, ht, by decide⟩, ⟨_, _, hc, rfl, rfl, rfl⟩, hP⟩
theorem codes_str (P : Params) : ∀ (h : Heap) (ps : Array Value), (Kf P).In h → h.get? 147 = some (tabO ps) → TriplesOk ps.toList → h.IsCode 151 147 ps ∧ h.TableAt 151 147 ps := by
  intro h ps X hP ht
  have hc : h.get? 151 = some (o151 P) := X 151 (o151 P) rfl
  exact ⟨⟨_, _, _, _, _, _, _, _, _, _, hc, rfl, rfl, rfl, rfl, rfl, rfl, hP, rfl, ht, by decide⟩, ⟨_, _, hc, rfl, rfl, rfl⟩, hP⟩
end
theorem kw10 : True := by
  k_with_none
  k_with "getMethod ref" => ((k_here; k_dflt (refine' method_bi ?k1 ?k2 ?k3 ?k4 ?k5 ?k6 ?k7 ?_; (case k1 => k_in); (case k2 => k_inst); (case k3 => k_is); (case k4 => k_is); (case k5 => k_is); (case k6 => exact T_append); (case k7 => first | assumption | rfl); k_whole)))
  k_with "getMethod ref" => ((k_here; k_dflt (refine' method_fnL ?k1 ?k2 ?k3 ?k4 ?k5 ?k6 ?k7 ?_; (case k1 => k_in); (case k2 => k_inst); (case k3 => k_is); (case k4 => k_is); (case k5 => k_is); (case k6 => k_is); (case k7 => first | assumption | rfl); k_whole)))
  k_with "getMethod ref" => ((k_here; k_dflt (refine' super_methK ?k1 ?k2 ?k3 ?k4 ?k5 ?k6 ?k7 ?k8 ?k9 ?kA ?kB ?kC ?_; (case k1 => k_asm); (case k2 => k_asm); (case k3 => k_asm); (case k4 => k_mem); (case k5 => k_inst); (case k6 => k_is); (case k7 => ks_is); (case k8 => k_is); (case kB => first | exact binds_pop | exact binds_len | exact binds_init); (case k9 => kernel_rfl); (case kA => first | exact slot_md_get.lookup | exact slot_wd_get.lookup); (case kC => decide); intro q' h' F' N' l1; (try k_lt l1))))
  k_with "callWith ref" => ((k_here; k_dflt (refine' callWith_B0 ?k1 ?k2 ?k3 ?_; (case k1 => exact (News.get (by k_asm) (by k_mem))); (case k2 => rfl); (case k3 => rfl); k_whole)))
  k_with "call ref" => ((k_here; k_dflt (refine' len_B ?k1 ?k2 ?k3 ?_; (case k1 => exact (News.get (by k_asm) (by k_mem))); (case k2 => first | exact (News.get (by k_asm) (by k_mem)) | exact Fr.keep (by k_asm) _ _ (by assumption)); (case k3 => omega); k_whole); intro _))
  k_with "call ref" => ((k_here; k_dflt (refine' pop_B ?k1 ?k2 ?k3 ?k4 ?k5 ?k6 ?k7 ?k8 ?k9 ?kA ?kB ?_; (case k1 => k_asm); (case k2 => k_asm); (case k3 => k_in); (case k4 => k_inst); (case k5 => exact (News.get (by k_asm) (by k_mem))); (case k6 => k_is); (case k7 => decide +kernel); (case k8 => k_is); (case k9 => k_is); (case kA => omega); (case kB => k_upd); k_whole); intro h' F' N'))
  k_with "call builtin:list.append" => ((k_here; k_dflt (refine' append_sub ?k1 ?k2 ?k3 ?k4 ?k5 ?k6 ?k7 ?_; (case k1 => k_asm); (case k2 => k_asm); (case k3 => k_asm); (case k4 => k_inst); (case k5 => k_is); (case k6 => k_upd); (case k7 => omega); k_whole; intro h' F' N')))
  k_with "wpAt" => ((dsimp only; walk_at "wpAt"))
  k_with "wpAt" => ((ks_step "eval Call"; (with_unfolding_all refine ks_wpAt_MethodCall (pl := (do return (← importBound _ _).getD true)) ?_)))
  k_with "setItem ref ref" => ((k_here; k_dflt (refine' setSlice_sub ?k1 ?k2 ?k3 ?k4 ?k5 ?k6 ?k7 ?k8 ?k9 ?kA ?kB ?kC ?kD ?kE ?_; (case k1 => k_asm); (case k2 => k_asm); (case k3 => k_asm); (case k4 => k_inst); (case k5 => k_is); (case k6 => k_is); (case k7 => k_is); (case kA => first | exact News.get (by k_asm) (by k_mem) | exact Fr.keep (by k_asm) _ _ (by assumption)); (case k8 => first | omega | k_ne); (case k9 => first | exact PySem.IsPart.none | exact PySem.IsPart.int _ _); (case kB => first | exact cut_all _ _ | exact cut_from _ _ (by omega)); (case kC => k_upd); (case kD => first | omega | (simp; done) | (simp; omega)); (case kE => first | omega | (simp; done) | (simp; omega)); k_whole); intro h' F' N'))
  k_with "setAttr ref" => ((k_here; k_dflt (refine' set_dictL ?k1 ?k2 ?k3 ?k4 ?k5 ?k6 ?k7 ?k8 ?k9 ?kA ?kB ?kC ?kD ?kE ?_; (case k1 => k_asm); (case k2 => k_asm); (case k3 => k_asm); (case k4 => k_inst); (case k5 => exact rfl); (case k6 => k_is); (case k7 => k_is); (case k8 => rfl); (case k9 => k_is); (case kA => rfl); (case kB => first | k_get | exact rfl); (case kC => first | k_put | exact rfl); (case kD => k_upd); (case kE => exact Nat.le_of_ble_eq_true rfl); k_whole; intro h' F' N')))
  k_with "subscriptTail Name Slice ref ref" => ((k_here; (with_reducible show wpAny _ _ (subscriptTail _ (PySem.Expr.Slice _ _ none _) (Value.ref _) (Value.ref _)) _ _ _); k_dflt (refine' slice_sub ?k1 ?k2 ?k3 ?k4 ?k5 ?k6 ?k7 ?k8 ?k9 ?kA ?_ ?kB ?kC; (case k1 => k_asm); (case k2 => k_asm); (case k3 => k_asm); (case k4 => k_inst); (case k5 => k_is); (case k6 => k_is); (case k7 => k_is); (case k8 => first | exact PySem.IsPart.none | exact PySem.IsPart.int _ _); (case k9 => first | exact PySem.IsPart.none | exact PySem.IsPart.int _ _); (case kA => exact pick_from _ _ (by omega)); (case kB => with_unfolding_all rfl); (case kC => omega); k_whole); intro D' h' F' N' l1; (try k_lt l1)))
  k_with "wpAt" => ((ks_step "attributeBase Call"; k_here; k_dflt (refine node_sup (by k_asm) (by k_asm) (by k_asm) (by k_asm) (by k_is) (by rfl) (by rfl) (by k_inst) (by k_is) (by rfl) (by first | rfl | decide +kernel) (by k_is) (by k_is) (by k_is) (by k_is) (by decide) (by rfl) (by rfl) (by rfl) (by rfl) (by decide +kernel) (by first | boot_by_name | rfl | kernel_rfl) ?_; intro so' h' F' N' l1; (try k_lt l1))))
  k_with "call ref" => ((k_here; (with_reducible show wpAny _ _ (call (Value.ref 175) _) _ _ _); (refine' pureH_callK (pc_spec _ _ _ _ _ _ _ _ _ _ ?hz ?hkk) ?kB ?kF ?kX ?kT ?kN ?kA ?kf ?kk ?kd ?ku ?kp ?_; (case kA => exact rfl); (case kf => exact rfl); (case kk => exact rfl); (case kp => exact ⟨(by first | exact News.get (by k_asm) (by k_mem) | exact Fr.keep (by k_asm) _ _ (by assumption)), (by first | exact News.get (by k_asm) (by k_mem) | exact Fr.keep (by k_asm) _ _ (by assumption))⟩); (case hkk => first | (simp only [List.length_append, List.length_cons, List.length_nil, Nat.zero_add, Nat.reduceAdd]; rfl) | rfl); (case hz => first | omega | (simp; omega) | simp); (case kB => assumption); (case kF => k_asm); (case kX => k_asm); (case kT => k_asm); (case kN => k_asm); (case kd => ((try dsimp only [Ar, Around.deeper, Around.in1]); omega)); (case ku => ((try dsimp only [Ar, Around.deeper, Around.in1]); omega)); intro v' h' tk' hv' F' N' e'; obtain ⟨_, e9⟩ := hv'; subst e9)))
  exact trivial
section
theorem ones_sum (n : Nat) : preSum (fun _ => 1) n = (n : Int) := by
  induction n with
  | zero => rfl
  | succ n ih => show preSum (fun _ => 1) n + 1 = _; rw [ih]; omega
theorem ones_fit {n : Nat} (h : n ≤ 1000) : ∀ j, j < n → InLong ((fun _ => 1 : Nat → Int) j) ∧ InLong (preSum (fun _ => 1) (j + 1)) := by
  intro j hj
  rw [ones_sum]
  unfold InLong
  dsimp only
  constructor <;> constructor <;> omega
theorem empty_len : (Str.ofString "").length = 0 := by kernel_rfl
theorem glue_one (x : Str) : Txt.join (Str.ofString "") [Str.ofString "", x] = x := by
  show PySem.Builtin.Str.glued _ _ = x
  rw [PySem.StrLaws.glued_eq_join]
  show (Str.ofString "") ++ (Str.ofString "") ++ x = x
  have e : Str.ofString "" = ⟨#[]⟩ := by kernel_rfl
  rw [e]
  show (⟨(#[] ++ #[]) ++ x.cps⟩ : Str) = x
  simp
section
variable {w : World} {g : Heap} {p' : Program} {loose : List Str} {mg mb : Str → Option Value} {its : List Value} {xs : List Str} {env : Env} {scope : Scope} {cl : List (Str × Addr)} {fx fy : Nat → Tok}
theorem len_helt {p0 p1 p2 p3 p4 p5 p6 : Pos} (X : (Kf w.params).In g) (T : TopRead p' loose mg mb g) (hmg : mg (Str.ofString "len") = none) (hx1 : ∀ x ∈ xs, x.length = 1) (hxl : its.length = xs.length) (hgl : env.globals = mainGlobals) (hsk : scope.kind = .function)
    (hl1 : scope.names.lookup (Str.ofString "fws") = some .local) (hl2 : scope.names.lookup (Str.ofString "part") = some .local) (hl3 : scope.names.lookup (Str.ofString "len") = some .globalImplicit) :
    ∀ (A' : Around) (E' : Value → Shared → Prop) (j : Nat) (t : Shared) (C₁ : Addr) (m₂ : Str → Option Value) (code : Value), A'.handled = none → j < its.length → t.heap.Ns C₁ m₂ → m₂ (Str.ofString "fws") = some (.str (Str.ofString "") (fx j)) → m₂ (Str.ofString "part") = some (.str (xs.getD j (Str.ofString "")) (fy j)) →
      (∀ b o, g.get? b = some o → t.heap.get? b = some o) → wpAny (model PySem.Challenge.rw_xn0030_01.row.prog w) A' (eval (.BinOp (.Call (.Name (Str.ofString "len") p0) [.Name (Str.ofString "fws") p1] [] p2) .Add (.Call (.Name (Str.ofString "len") p3) [.Name (Str.ofString "part") p4] [] p5) p6) (genEnv scope cl C₁ code builtinsNs env)) (fun v s₃ => (∃ u, v = .int 1 u) ∧ Keeps t s₃) E' t := by
  intro A' E' j t C₁ m₂ code h1 h2 h3 h4 h5 h6
  have hb : (Str.ofString "len") ≠ "__name__" := by decide +kernel
  have hl := getD_len1 hx1 (hxl ▸ h2)
  refine wpAny_mono (len_elt w A' E' env t C₁ m₂ mg mb code cl scope _ _ _ _ p0 p1 p2 p3 p4 p5 p6 h1 h3 h4 h5 (by show t.heap.Ns env.globals mg; rw [hgl]; exact T.g.keeps h6) (T.b.keeps h6) hmg ((T.builtins _ hb).trans (by kernel_rfl)) hsk hl1 hl2 hl3 (by rw [empty_len]; omega) (by rw [hl]; omega)) (fun v s₃ h => ?_) fun _ _ e => e
  obtain ⟨⟨u, hu⟩, hk⟩ := h
  refine ⟨⟨u, ?_⟩, hk⟩
  rw [hu, empty_len, hl]
  rfl
theorem str_helt {te : Tok} (X : (Kf w.params).In g) (T : TopRead p' loose mg mb g) (hmg : mg (Str.ofString "EMPTYSTRING") = some (.str (Str.ofString "") te)) (hx1 : ∀ x ∈ xs, x.length = 1) (hxl : its.length = xs.length) (hgl : env.globals = mainGlobals) (hsk : scope.kind = .function)
    (hl1 : scope.names.lookup (Str.ofString "fws") = some .local) (hl2 : scope.names.lookup (Str.ofString "part") = some .local) (hl3 : scope.names.lookup (Str.ofString "EMPTYSTRING") = some .globalImplicit) :
    ∀ (A' : Around) (E' : Value → Shared → Prop) (j : Nat) (t : Shared) (C₁ : Addr) (m₂ : Str → Option Value) (code : Value), A'.handled = none → j < its.length → t.heap.Ns C₁ m₂ → m₂ (Str.ofString "fws") = some (.str (Str.ofString "") (fx j)) → m₂ (Str.ofString "part") = some (.str (xs.getD j (Str.ofString "")) (fy j)) →
      (∀ b o, g.get? b = some o → t.heap.get? b = some o) → wpAny (model PySem.Challenge.rw_xn0030_01.row.prog w) A' (eval (.Call (.Attribute (.Name (Str.ofString "EMPTYSTRING") ⟨96, 33, 96, 44⟩) (Str.ofString "join") ⟨96, 33, 96, 49⟩) [.Tuple [.Name (Str.ofString "fws") ⟨96, 51, 96, 54⟩, .Name (Str.ofString "part") ⟨96, 56, 96, 60⟩] 0 ⟨96, 50, 96, 61⟩] [] ⟨96, 33, 96, 62⟩) (genEnv scope cl C₁ code builtinsNs env)) (fun v s₃ => (∃ u, v = .str (xs.getD j (Str.ofString "")) u) ∧ Keeps t s₃) E' t := by
  intro A' E' j t C₁ m₂ code h1 h2 h3 h4 h5 h6
  have hl := getD_len1 hx1 (hxl ▸ h2)
  refine wpAny_mono (str_elt w A' E' env t C₁ m₂ mg mb code cl scope _ _ _ _ te 0 h1 h3 h4 h5 (by show t.heap.Ns env.globals mg; rw [hgl]; exact T.g.keeps h6) hmg hsk hl1 hl2 hl3 (by rw [empty_len]; omega) (by rw [hl]; omega)) (fun v s₃ h => ?_) fun _ _ e => e
  obtain ⟨⟨u, hu⟩, hk⟩ := h
  refine ⟨⟨u, ?_⟩, hk⟩
  rw [hu, glue_one]
end
section
theorem kw11 : True := by
  k_with "getAttr ref" => ((k_here; k_dflt (refine' get_valueL ?k1 ?k2 ?k3 ?k4 ?k5 ?k6 ?k7 ?_; (case k1 => k_in); (case k2 => k_inst); (case k3 => k_is); (case k4 => k_is); (case k5 => k_is); (case k6 => exact findObj_own (by k_is) (by k_is) (by k_is) (by first | k_get | exact rfl)); (case k7 => rfl); k_whole)))
  k_with "eval GeneratorExp" => ((k_here; refine' ge_K (Fp := fun _ y => ∃ u, y = .int 1 u) (codes_len _) ?k1 ?k2 ?k3 ?k4 ?k5 ?k6 ?k7 ?k8 ?k9 ?kA ?kB ?kC ?kD ?kE ?kF ?kG ?kH ?kI ?kJ ?kK ?kL ?kM ?kN ?kO ?kP ?kQ ?kR ?kS ?kT ?kU ?_ ?kV; (case k1 => k_asm); (case k2 => k_asm); (case k3 => exact List.forall_mem_nil _); (case k4 => k_asm); (case k5 => k_asm); (case k6 => assumption); (case k7 => assumption); (case k8 => assumption); (case k9 => rfl); (case kA => rfl); (case kB => rfl); (case kC => decide); (case kD => rfl); (case kE => rfl); (case kF => rfl); (case kG => decide); (case kH => rfl); (case kI => (show _ + 1 < _; dsimp only [Ar]; omega)); (case kJ => rfl); (case kK => rfl); (case kL => rfl); (case kM => rfl); (case kN => rfl); (case kO => decide); (case kP => exact rfl); (case kQ => k_inst); (case kR => k_is); (case kS => k_is); (case kT => assumption); (case kU => exact len_helt (by assumption) (by assumption) (mg_none_of (by assumption) (TopRead.g (by assumption)) (by k_is)) (by assumption) (by assumption) rfl rfl rfl rfl rfl); (case kV => (intro _; rfl)); intro Lb' gg' h5' gs' tk5' ps5' hb5' hp5' F' N' XG'))
  k_with "call builtin:sum" => ((k_here; (with_reducible rename GenK _ _ _ _ _ _ _ _ _ _ _ => gkX); refine' sum_K gkX ?k1 ?k2 ?k3 ?k4 (fun _ => 1) ?k5 ?k6 ?_; (case k1 => k_asm); (case k2 => k_asm); (case k3 => assumption); (case k4 => (dsimp only; omega)); (case k5 => exact fun _ _ h => h); (case k6 => exact ones_fit (by omega)); intro h' gs' tk' t' F' N' hb'))
  exact trivial
theorem len_spec (w : World) (p' : Program) (loose : List Str) (a d : Addr) (k u : Tok) (its : List Value) (n : Nat) (xs : List Str) (ps : Array Value) (hz : its.length ≤ 100) (hx1 : ∀ x ∈ xs, x.length = 1) (hps : TriplesOk ps.toList) :
    Mut w p' loose 5 30 145 [.ref a] (fun h => h.get? a = some (accO d its n) ∧ h.get? d = some (accD w k u) ∧ Cells h its xs) [(140, tabO ps)] (fun v led => (∃ t, v = .int (its.length : Int) t) ∧ ∃ ps', TriplesOk ps'.toList ∧ led = [(140, tabO ps')]) := by
  intro dp un gd outer base g mean mg mb s Q E hd hu B X T Ld ⟨ha, hdd, hcl⟩ BM hgs hret
  revert X; k_fill; intro X
  refine wpAny_call ?_
  refine' mut_enter X T Ld ?k6 ?k7 ?k8 ?k9 ?kB ?_ ?c2 ?c3 ?c4 ?c5
  (case k6 => k_is)
  (case k7 => k_is)
  (case k8 => (show dp < _; omega))
  (case k9 => first | exact BindsTo.of_eq rfl | exact binds_K (X.keeps Ld.keep) rfl (by k_is) rfl rfl rfl)
  (case kB => exact locs rfl)
  (case c2 => exact rfl)
  (case c3 => exact rfl)
  (case c4 => exact rfl)
  (case c5 => decide)
  intro L' h' F' N'
  try dsimp only
  obtain ⟨Ts, fx, fy, hT⟩ := (hcl.keeps F'.keep).funs
  have hxl := hcl.length
  k_steps
  dsimp only
  rw [ones_sum]
  refine hret _ _ _ _ _ ⟨⟨_, rfl⟩, _, ?_, rfl⟩ (Led.of_frame (by assumption) (by assumption)) (by assumption)
  assumption
end
theorem getD_range (xs : List Str) : ((List.range xs.length).map fun j => xs.getD j (Str.ofString "")) = xs := by
  apply List.ext_getElem
  · simp
  · intro i h1 h2
    simp [h2]
theorem join_ok {xs : List Str} (h1 : ∀ x ∈ xs, x.length = 1) (h2 : xs.length ≤ 1000) : JoinOk (Str.ofString "") xs = true := by
  refine joinOk_of_weight ?_ (by rw [empty_len]; omega)
  have : (xs.map (·.length)).sum = xs.length := by
    clear h2
    induction xs with
    | nil => rfl
    | cons x xs ih => rw [List.map_cons, List.sum_cons, ih fun y hy => h1 y (.tail _ hy), h1 x (.head _), List.length_cons]; omega
  omega
section
theorem kw12 : True := by
  k_with "eval GeneratorExp" => ((k_here; refine' ge_K (Fp := fun j y => ∃ u, y = .str (List.getD _ j (Str.ofString "")) u) (codes_str _) ?k1 ?k2 ?k3 ?k4 ?k5 ?k6 ?k7 ?k8 ?k9 ?kA ?kB ?kC ?kD ?kE ?kF ?kG ?kH ?kI ?kJ ?kK ?kL ?kM ?kN ?kO ?kP ?kQ ?kR ?kS ?kT ?kU ?_ ?kV; (case k1 => k_asm); (case k2 => k_asm); (case k3 => exact List.forall_mem_nil _); (case k4 => k_asm); (case k5 => k_asm); (case k6 => assumption); (case k7 => assumption); (case k8 => assumption); (case k9 => rfl); (case kA => rfl); (case kB => rfl); (case kC => decide); (case kD => rfl); (case kE => rfl); (case kF => rfl); (case kG => decide); (case kH => rfl); (case kI => (show _ + 1 < _; dsimp only [Ar]; omega)); (case kJ => rfl); (case kK => rfl); (case kL => rfl); (case kM => rfl); (case kN => rfl); (case kO => decide); (case kP => exact rfl); (case kQ => k_inst); (case kR => k_is); (case kS => k_is); (case kT => assumption); (case kU => (refine' str_helt ?u1 ?u2 ?u3 ?u4 ?u5 ?u6 ?u7 ?u8 ?u9 ?uA; (case u1 => assumption); (case u2 => assumption); (case u3 => exact (mg_of (by assumption) (TopRead.g (by assumption)) (by k_is))); (case u4 => assumption); (case u5 => assumption); (case u6 => rfl); (case u7 => rfl); (case u8 => rfl); (case u9 => rfl); (case uA => rfl))); (case kV => (intro _; rfl)); intro Lb' gg' h5' gs' tk5' ps5' hb5' hp5' F' N' XG'))
  k_with "call builtin:str.join" => ((k_here; (with_reducible rename GenK _ _ _ _ _ _ _ _ _ _ _ => gkX); refine join_K gkX (by k_asm) ?k2 ?k3 ?k4 _ (fun _ _ h => h) ?k6 ?k7 ?_; (case k2 => k_asm); (case k3 => assumption); (case k4 => (dsimp only; omega)); (case k6 => assumption); (case k7 => omega); intro h' gs' tk' t' F' N' hb'))
  exact trivial
theorem str_spec (w : World) (p' : Program) (loose : List Str) (a d : Addr) (k u : Tok) (its : List Value) (n : Nat) (xs : List Str) (ps : Array Value) (hz : its.length ≤ 100) (hx1 : ∀ x ∈ xs, x.length = 1) (hps : TriplesOk ps.toList) :
    Mut w p' loose 5 30 152 [.ref a] (fun h => h.get? a = some (accO d its n) ∧ h.get? d = some (accD w k u) ∧ Cells h its xs) [(147, tabO ps)] (fun v led => (∃ t, v = .str (Txt.join (Str.ofString "") xs) t) ∧ ∃ ps', TriplesOk ps'.toList ∧ led = [(147, tabO ps')]) := by
  intro dp un gd outer base g mean mg mb s Q E hd hu B X T Ld ⟨ha, hdd, hcl⟩ BM hgs hret
  revert X; k_fill; intro X
  refine wpAny_call ?_
  refine' mut_enter X T Ld ?k6 ?k7 ?k8 ?k9 ?kB ?_ ?c2 ?c3 ?c4 ?c5
  (case k6 => k_is)
  (case k7 => k_is)
  (case k8 => (show dp < _; omega))
  (case k9 => first | exact BindsTo.of_eq rfl | exact binds_K (X.keeps Ld.keep) rfl (by k_is) rfl rfl rfl)
  (case kB => exact locs rfl)
  (case c2 => exact rfl)
  (case c3 => exact rfl)
  (case c4 => exact rfl)
  (case c5 => decide)
  intro L' h' F' N'
  try dsimp only
  obtain ⟨Ts, fx, fy, hT⟩ := (hcl.keeps F'.keep).funs
  have hxl := hcl.length
  have hjk : JoinOk (Str.ofString "") ((List.range its.length).map fun j => xs.getD j (Str.ofString "")) = true := by rw [hxl, getD_range]; exact join_ok hx1 (by omega)
  k_steps
  dsimp only
  rw [hxl, getD_range]
  refine hret _ _ _ _ _ ⟨⟨_, rfl⟩, _, ?_, rfl⟩ (Led.of_frame (by assumption) (by assumption)) (by assumption)
  assumption
end
end
theorem kw13 : True := by
  k_with_none
  k_with "getMethod ref" => ((k_here; k_dflt (refine' method_bi ?k1 ?k2 ?k3 ?k4 ?k5 ?k6 ?k7 ?_; (case k1 => k_in); (case k2 => k_inst); (case k3 => k_is); (case k4 => k_is); (case k5 => k_is); (case k6 => exact T_append); (case k7 => first | assumption | rfl); k_whole)))
  k_with "getMethod ref" => ((k_here; k_dflt (refine' method_fnL ?k1 ?k2 ?k3 ?k4 ?k5 ?k6 ?k7 ?_; (case k1 => k_in); (case k2 => k_inst); (case k3 => k_is); (case k4 => k_is); (case k5 => k_is); (case k6 => k_is); (case k7 => first | assumption | rfl); k_whole)))
  k_with "getMethod ref" => ((k_here; k_dflt (refine' super_methK ?k1 ?k2 ?k3 ?k4 ?k5 ?k6 ?k7 ?k8 ?k9 ?kA ?kB ?kC ?_; (case k1 => k_asm); (case k2 => k_asm); (case k3 => k_asm); (case k4 => k_mem); (case k5 => k_inst); (case k6 => k_is); (case k7 => ks_is); (case k8 => k_is); (case kB => first | exact binds_pop | exact binds_len | exact binds_init); (case k9 => kernel_rfl); (case kA => first | exact slot_md_get.lookup | exact slot_wd_get.lookup); (case kC => decide); intro q' h' F' N' l1; (try k_lt l1))))
  k_with "callWith ref" => ((k_here; k_dflt (refine' callWith_B0 ?k1 ?k2 ?k3 ?_; (case k1 => exact (News.get (by k_asm) (by k_mem))); (case k2 => rfl); (case k3 => rfl); k_whole)))
  k_with "call ref" => ((k_here; k_dflt (refine' len_B ?k1 ?k2 ?k3 ?_; (case k1 => exact (News.get (by k_asm) (by k_mem))); (case k2 => first | exact (News.get (by k_asm) (by k_mem)) | exact Fr.keep (by k_asm) _ _ (by assumption)); (case k3 => omega); k_whole); intro _))
  k_with "call ref" => ((k_here; k_dflt (refine' pop_B ?k1 ?k2 ?k3 ?k4 ?k5 ?k6 ?k7 ?k8 ?k9 ?kA ?kB ?_; (case k1 => k_asm); (case k2 => k_asm); (case k3 => k_in); (case k4 => k_inst); (case k5 => exact (News.get (by k_asm) (by k_mem))); (case k6 => k_is); (case k7 => decide +kernel); (case k8 => k_is); (case k9 => k_is); (case kA => omega); (case kB => k_upd); k_whole); intro h' F' N'))
  k_with "call builtin:list.append" => ((k_here; k_dflt (refine' append_sub ?k1 ?k2 ?k3 ?k4 ?k5 ?k6 ?k7 ?_; (case k1 => k_asm); (case k2 => k_asm); (case k3 => k_asm); (case k4 => k_inst); (case k5 => k_is); (case k6 => k_upd); (case k7 => omega); k_whole; intro h' F' N')))
  k_with "wpAt" => ((dsimp only; walk_at "wpAt"))
  k_with "wpAt" => ((ks_step "eval Call"; (with_unfolding_all refine ks_wpAt_MethodCall (pl := (do return (← importBound _ _).getD true)) ?_)))
  k_with "setItem ref ref" => ((k_here; k_dflt (refine' setSlice_sub ?k1 ?k2 ?k3 ?k4 ?k5 ?k6 ?k7 ?k8 ?k9 ?kA ?kB ?kC ?kD ?kE ?_; (case k1 => k_asm); (case k2 => k_asm); (case k3 => k_asm); (case k4 => k_inst); (case k5 => k_is); (case k6 => k_is); (case k7 => k_is); (case kA => first | exact News.get (by k_asm) (by k_mem) | exact Fr.keep (by k_asm) _ _ (by assumption)); (case k8 => first | omega | k_ne); (case k9 => first | exact PySem.IsPart.none | exact PySem.IsPart.int _ _); (case kB => first | exact cut_all _ _ | exact cut_from _ _ (by omega)); (case kC => k_upd); (case kD => first | omega | (simp; done) | (simp; omega)); (case kE => first | omega | (simp; done) | (simp; omega)); k_whole); intro h' F' N'))
  k_with "setAttr ref" => ((k_here; k_dflt (refine' set_dictL ?k1 ?k2 ?k3 ?k4 ?k5 ?k6 ?k7 ?k8 ?k9 ?kA ?kB ?kC ?kD ?kE ?_; (case k1 => k_asm); (case k2 => k_asm); (case k3 => k_asm); (case k4 => k_inst); (case k5 => exact rfl); (case k6 => k_is); (case k7 => k_is); (case k8 => rfl); (case k9 => k_is); (case kA => rfl); (case kB => first | k_get | exact rfl); (case kC => first | k_put | exact rfl); (case kD => k_upd); (case kE => exact Nat.le_of_ble_eq_true rfl); k_whole; intro h' F' N')))
  k_with "subscriptTail Name Slice ref ref" => ((k_here; (with_reducible show wpAny _ _ (subscriptTail _ (PySem.Expr.Slice _ _ none _) (Value.ref _) (Value.ref _)) _ _ _); k_dflt (refine' slice_sub ?k1 ?k2 ?k3 ?k4 ?k5 ?k6 ?k7 ?k8 ?k9 ?kA ?_ ?kB ?kC; (case k1 => k_asm); (case k2 => k_asm); (case k3 => k_asm); (case k4 => k_inst); (case k5 => k_is); (case k6 => k_is); (case k7 => k_is); (case k8 => first | exact PySem.IsPart.none | exact PySem.IsPart.int _ _); (case k9 => first | exact PySem.IsPart.none | exact PySem.IsPart.int _ _); (case kA => exact pick_from _ _ (by omega)); (case kB => with_unfolding_all rfl); (case kC => omega); k_whole); intro D' h' F' N' l1; (try k_lt l1)))
  k_with "wpAt" => ((ks_step "attributeBase Call"; k_here; k_dflt (refine node_sup (by k_asm) (by k_asm) (by k_asm) (by k_asm) (by k_is) (by rfl) (by rfl) (by k_inst) (by k_is) (by rfl) (by first | rfl | decide +kernel) (by k_is) (by k_is) (by k_is) (by k_is) (by decide) (by rfl) (by rfl) (by rfl) (by rfl) (by decide +kernel) (by first | boot_by_name | rfl | kernel_rfl) ?_; intro so' h' F' N' l1; (try k_lt l1))))
  k_with "call ref" => ((k_here; (with_reducible show wpAny _ _ (call (Value.ref 175) _) _ _ _); (refine' pureH_callK (pc_spec _ _ _ _ _ _ _ _ _ _ ?hz ?hkk) ?kB ?kF ?kX ?kT ?kN ?kA ?kf ?kk ?kd ?ku ?kp ?_; (case kA => exact rfl); (case kf => exact rfl); (case kk => exact rfl); (case kp => exact ⟨(by first | exact News.get (by k_asm) (by k_mem) | exact Fr.keep (by k_asm) _ _ (by assumption)), (by first | exact News.get (by k_asm) (by k_mem) | exact Fr.keep (by k_asm) _ _ (by assumption))⟩); (case hkk => first | (simp only [List.length_append, List.length_cons, List.length_nil, Nat.zero_add, Nat.reduceAdd]; rfl) | rfl); (case hz => first | omega | (simp; omega) | simp); (case kB => assumption); (case kF => k_asm); (case kX => k_asm); (case kT => k_asm); (case kN => k_asm); (case kd => ((try dsimp only [Ar, Around.deeper, Around.in1]); omega)); (case ku => ((try dsimp only [Ar, Around.deeper, Around.in1]); omega)); intro v' h' tk' hv' F' N' e'; obtain ⟨_, e9⟩ := hv'; subst e9)))
  exact trivial
section
open Builtin Builtin.ObjectAttr Builtin.Getset_descriptor
noncomputable abbrev seqO (C dx : Addr) : Obj := { cls := .ref C, dict := some dx, data := .seq #[] }
structure MakesL (M : Model) (h : Heap) (C : Addr) : Prop where
  obj : ∃ oc od cd sl, h.get? C = some ⟨oc, od, .cls cd, sl⟩ ∧ cd.abstract = false ∧ cd.hasDel = false ∧ cd.mro.isEmpty = false
  made : Looks M h (Bind.madeBy (.ref C)) (some "list.__new__")
  base : Looks M h (Bind.staticBase (.ref C)) (.ref C)
  self : Looks M h (isSubtype (.ref C) (.ref C)) true
  top : Looks M h (isSubtype (.ref C) (.type "list")) true
  call : Looks M h (specialOf (.ref C) "__call__") (some (.builtin "type.__call__"))
  typ : Looks M h (isInstance (.ref C) (.type "type")) true
theorem makesL_of {K : Frag} {M : Model} {h : Heap} (X : K.In h) {C : Addr} {oc : Value} {od : Option Addr} {cd : ClassData} {sl : Array (Option Value)} (ho : K.lookup C = some ⟨oc, od, .cls cd, sl⟩)
    (e1 : cd.abstract = false) (e2 : cd.hasDel = false) (e3 : (sl.toList[4]?).join = some (.builtin "list.__new__")) (e4 : cd.mro.isEmpty = false) (e5 : cd.mro.contains (.ref C) = true) (e6 : cd.mro.contains (.type "list") = true)
    (e7 : specialIn K (.ref C) "__call__" = some (some (.builtin "type.__call__"))) (e8 : instIn K (.ref C) (.type "type") = some true) : MakesL M h C := by
  have hc : clsIn K C = some cd := by unfold clsIn; rw [ho]
  have hm : Looks M h (mroOf (.ref C)) cd.mro := (looks_clsIn X hc).andThen .now
  obtain ⟨c, l, hl⟩ : ∃ c l, cd.mro = c :: l := by cases q : cd.mro with | nil => rw [q] at e4; cases e4 | cons c l => exact ⟨c, l, rfl⟩
  have made : Looks M h (Bind.madeBy (.ref C)) (some "list.__new__") := by
    intro A Q E s k q
    unfold Bind.madeBy
    refine wpAny_bind (hm A _ E s k ?_)
    rw [hl, List.forIn_cons]
    refine wpAny_bind (wpAny_bind (wpAny_bind (wpAny_bind (wpAny_loadPart (k _ _ (X _ _ ho)) (wpAny_pure ?_)))))
    dsimp only
    rw [← Array.getElem?_toList, e3]
    exact wpAny_pure (wpAny_pure (wpAny_pure q))
  refine ⟨⟨oc, od, cd, sl, X _ _ ho, e1, e2, e4⟩, made, ?_, looks_mroIn X ?_, looks_mroIn X ?_, looks_specialIn X e7, looks_instIn X e8⟩
  · intro A Q E s k q
    unfold Bind.staticBase
    refine wpAny_bind (hm A _ E s k ?_)
    rw [hl, List.forIn_cons]
    exact wpAny_bind (wpAny_bind (wpAny_bind (made A _ E s k (wpAny_pure (wpAny_pure (wpAny_pure q))))))
  · unfold mroIn; rw [hc, Option.bind_some, if_neg (by rw [e4]; decide), e5]
  · unfold mroIn; rw [hc, Option.bind_some, if_neg (by rw [e4]; decide), e6]
theorem ln_kind : builtinKind "list.__new__" = some .builtinFn := by decide +kernel
theorem ln_split : splitId "list.__new__" = some ("list", "__new__") := by decide +kernel
theorem ln_quiet : "list.__new__".startsWith "lifetime." = false := by decide +kernel
section
variable {prog : Program} {w : World} {A : Around} {K : Frag} {C : Addr} {R : Result → Shared → Prop} {h : Heap} {g : Array GenState} {d : Drawn} {t : Nat} {os : OsState}
theorem new_L {rest : List Value} {kw : List (Str × Value)} (Y : MakesL (model prog w) h C)
    (hq : R (.ok (.ret (.ref (h.objs.size + 1)))) ⟨(h.push emptyDict).push (seqO C h.objs.size), g, d, t, os⟩) :
    codeAny (model prog w) A (.call (.builtin "list.__new__") ⟨.ref C :: rest, kw⟩) R ⟨h, g, d, t, os⟩ := by
  obtain ⟨⟨oc, od, cd, sl, hC, e1, e2, e4⟩, made, base, self, top, call, typ⟩ := Y
  refine codeAny_call_builtin_code (Code.quiet_builtin _ ln_quiet) ?_
  simp only [checkBuiltinCall, ln_kind, ln_split]
  repeat (first | simp only [bne_self_eq_false, Bool.false_eq_true, if_false] | lk)
  refine codeAny_builtin_stack F.entry_list_new rfl fun p st => ?_
  have hown := owner_list_new
  simp only [hown]
  repeat lk
  refine wpAny_load (Heap.get?_push_of_some _ (Heap.get?_push_of_some _ hC)) ?_
  refine wpAny_pure ?_
  show wpAny _ _ (if cd.hasDel = true then _ else _) _ _ _
  rw [e2]
  refine wpAny_pure (wpAny_pure ?_)
  show R _ _
  rw [Heap.size_push]
  exact hq
theorem make_coreL {rest : List Value} {kw : List (Str × Value)} {init : Value} (Y : MakesL (model prog w) h C) (hi : Looks (model prog w) h (typeLookup (.ref C) "__init__") (some init))
    (hb : ∀ self, Looks (model prog w) h (bindSpecial init self) (init, [self]))
    (hq : codeAny (model prog w) (A.under (.builtin "type.__call__" ⟨.ref C :: rest, kw⟩)) (.call init ⟨.ref (h.objs.size + 1) :: rest, kw⟩) (InitBack (h.objs.size + 1) R) ⟨(h.push emptyDict).push (seqO C h.objs.size), g, d, t, os⟩) :
    codeAny (model prog w) A (.call (.ref C) ⟨rest, kw⟩) R ⟨h, g, d, t, os⟩ := by
  have Y' := Y
  obtain ⟨⟨oc, od, cd, sl, hC, e1, e2, e4⟩, made, base, self, top, call, typ⟩ := Y
  refine codeAny_of_tree ?_
  show wpAny _ _ (callAny (.ref C) _) _ _ _
  refine nd_load hC ?_
  show wpAny _ _ (callAny.viaDunder (.ref C) _) _ _ _
  unfold callAny.viaDunder
  refine wpAny_bind (call.at ?_)
  dsimp only
  rw [tc_bind]
  refine wpAny_bind (wpAny_pure (wpAny_bind (wpAny_pure ?_)))
  refine wpAny_pure (a := Fin.again (.call (.builtin "type.__call__") ⟨.ref C :: rest, kw⟩)) (And.intro rfl ?_)
  refine codeAny_call_builtin_at (Code.quiet_builtin _ (by decide +kernel)) entry_typeCall (check_slot tc_kind tc_split typ (tc_args _ _ _) ?_)
  unfold Builtin.«type.__call__»
  have hm : Looks (model prog w) h (mroOf (.ref C)) cd.mro := ((Looks.ld (part := none) hC).andThen .now).andThen .now
  repeat (first | simp only [e4, Bool.false_eq_true, if_false] | with_reducible refine wpAny_call ?_ | lk)
  refine new_L Y' ?_
  have k : ∀ b o, h.get? b = some o → ((h.push emptyDict).push (seqO C h.objs.size)).get? b = some o := fun b o e => Heap.get?_push_of_some _ (Heap.get?_push_of_some _ e)
  have hx : ((h.push emptyDict).push (seqO C h.objs.size)).get? (h.objs.size + 1) = some (seqO C h.objs.size) := by heap_get
  have t1 : Looks (model prog w) ((h.push emptyDict).push (seqO C h.objs.size)) (typeOf (.ref (h.objs.size + 1))) (.ref C) := (Looks.ld hx).andThen .now
  have s1 := self.keeps k
  have i1 := hi.keeps k
  have b1 := (hb (.ref (h.objs.size + 1))).keeps k
  unfold isInstance callSpecial? specialOf
  repeat (first | with_reducible refine wpAny_call ?_ | lk)
  refine codeAny_mono hq fun r s' z => ?_
  rcases r with e | (v | _ | _ | _) <;> first | exact z | exact z.elim | skip
  obtain ⟨rfl, z⟩ := z
  exact wpAny_pure (wpAny_pure z)
end
section
variable {prog : Program} {w : World} {A : Around} {E : Value → Shared → Prop} {s : Shared} {K : Frag} {C L fI : Addr} {h₀ : Heap} {m : Str → Option Value} {news : List (Addr × Obj)} {Q : Value → Shared → Prop}
end
end
section
theorem Led.push {g h : Heap} {led : List (Addr × Obj)} (l : Led g h led) (o : Obj) (hf : o.isFreed = false) : Led g (h.push o) ((h.objs.size, o) :: led) := by
  refine ⟨fun b o' e => Heap.get?_push_of_some _ (l.keep b o' e), by rw [Heap.size_push]; exact Nat.le_succ_of_le l.size, fun p hp => ?_⟩
  rcases List.mem_cons.mp hp with rfl | hp
  · exact ⟨Heap.get?_push_at rfl hf, Heap.get?_none_of_le l.size⟩
  · exact ⟨Heap.get?_push_of_some _ (l.at_ p hp).1, (l.at_ p hp).2⟩
theorem under_tc (dp un : Nat) (gd : Option (List Code)) (outer : List Env) (C : Addr) (rest : List Value) : (Ar dp un gd outer).under (.builtin "type.__call__" ⟨.ref C :: rest, []⟩) = Ar (dp + 1) (un + 1) gd outer := by
  rfl
section
variable {prog : Program} {w : World} {dp un : Nat} {gd : Option (List Code)} {outer : List Env} {E : Value → Shared → Prop} {s : Shared} {K : Frag} {C fI : Addr} {g : Heap} {led : List (Addr × Obj)} {Q : Value → Shared → Prop}
theorem callL_led {pos : List Value} (X₀ : K.In g) (Ld : Led g s.heap led) {oc : Value} {od : Option Addr} {cd : ClassData} {sl : Array (Option Value)} (ho : K.lookup C = some ⟨oc, od, .cls cd, sl⟩)
    (e1 : cd.abstract = false) (e2 : cd.hasDel = false) (e3 : (sl.toList[4]?).join = some (.builtin "list.__new__")) (e4 : cd.mro.isEmpty = false) (e5 : cd.mro.contains (.ref C) = true) (e6 : cd.mro.contains (.type "list") = true)
    (e7 : specialIn K (.ref C) "__call__" = some (some (.builtin "type.__call__"))) (e8 : instIn K (.ref C) (.type "type") = some true)
    (hi : findIn K (.ref C) "__init__" = some (some (.ref fI))) (hf : isFn K (.ref fI) = true)
    (h : ∀ x dx h', Led g h' ((x, ⟨.ref C, some dx, .seq ([] : List Value).toArray 0, #[]⟩) :: (dx, dictOf [] 0) :: led) → (∀ p ∈ led, p.1 < dx) → dx < x →
      codeAny (model prog w) (Ar (dp + 1) (un + 1) gd outer) (.call (.ref fI) ⟨.ref x :: pos, []⟩) (InitBack x fun r s' => match r with | .ok (.ret v) => Q v s' | .ok _ => False | .error e => E e s') { s with heap := h' }) :
    wpAny (model prog w) (Ar dp un gd outer) (call (.ref C) pos []) Q E s := by
  obtain ⟨hh, gs, d, t, os⟩ := s
  have X := X₀.keeps Ld.keep
  refine wpAny_call ?_
  refine make_coreL (makesL_of X ho e1 e2 e3 e4 e5 e6 e7 e8) (looks_findIn X hi) (fun self => bind_fn X self (beq_iff_eq.mp hf)) ?_
  rw [under_tc]
  have := (Ld.push emptyDict rfl).push (seqO C hh.objs.size) rfl
  rw [Heap.size_push] at this
  exact h _ hh.objs.size _ this (fun p hp => Heap.lt_size (Ld.at_ p hp).1) (Nat.lt_succ_self _)
theorem callP_led {pos : List Value} (X₀ : K.In g) (Ld : Led g s.heap led) (hm : makesIn K C = true) (hi : findIn K (.ref C) "__init__" = some (some (.ref fI))) (hf : isFn K (.ref fI) = true)
    (h : ∀ x dx h', Led g h' ((x, instObj C dx) :: (dx, dictOf [] 0) :: led) → (∀ p ∈ led, p.1 < dx) → dx < x →
      codeAny (model prog w) (Ar (dp + 1) (un + 1) gd outer) (.call (.ref fI) ⟨.ref x :: pos, []⟩) (InitBack x fun r s' => match r with | .ok (.ret v) => Q v s' | .ok _ => False | .error e => E e s') { s with heap := h' }) :
    wpAny (model prog w) (Ar dp un gd outer) (call (.ref C) pos []) Q E s := by
  obtain ⟨hh, gs, d, t, os⟩ := s
  have X := X₀.keeps Ld.keep
  refine wpAny_call ?_
  refine make_core (makes_of X hm) (looks_findIn X hi) (fun self => bind_fn X self (beq_iff_eq.mp hf)) (.inl rfl) ?_
  rw [under_tc]
  have := (Ld.push emptyDict rfl).push (instObj C hh.objs.size) rfl
  rw [Heap.size_push] at this
  exact h _ hh.objs.size _ this (fun p hp => Heap.lt_size (Ld.at_ p hp).1) (Nat.lt_succ_self _)
end
end
section
theorem kw14 : True := by
  k_with "call ref" => ((k_here; k_dflt (refine' init_B ?k1 ?k2 ?k3 ?k4 ?_; (case k1 => k_asm); (case k2 => k_asm); (case k3 => exact (News.get (by k_asm) (by k_mem))); (case k4 => k_upd); k_whole; intro h' F' N')))
  k_with "wpAt" => ((ks_step "exec Expr"; with_unfolding_all refine ks_wpAt_Expr_any ?_))
  exact trivial
section
section
theorem acc_new (w : World) (p' : Program) (loose : List Str) (t0 : Tok) :
    Mut w p' loose 5 30 178 [.int 0 t0] (fun _ => True) [] (fun v led => ∃ a d k u, @Ne Nat a d ∧ v = .ref a ∧ led = [(a, accO d [] 0), (d, accD w k u)]) := by
  intro dp un gd outer base g mean mg mb s Q E hd hu B X T Ld _ BM hgs hret
  revert X; k_fill; intro X
  refine' callL_led X Ld ?a1 ?a2 ?a3 ?a4 ?a5 ?a6 ?a7 ?a8 ?a9 ?b1 ?b2 ?_
  (case a1 => k_is)
  (case a2 => rfl)
  (case a3 => rfl)
  (case a4 => rfl)
  (case a5 => rfl)
  (case a6 => decide +kernel)
  (case a7 => decide +kernel)
  (case a8 => k_is)
  (case a9 => k_is)
  (case b1 => k_is)
  (case b2 => k_is)
  clear Ld
  intro a d h1 Ld l1 l2
  have had : @Ne Nat a d := Nat.ne_of_gt l2
  refine' mut_enterC X T Ld ?k6 ?k7 ?k8 ?k9 ?kB ?_ ?c2 ?c3 ?c4 ?c5
  (case k6 => k_is)
  (case k7 => k_is)
  (case k8 => (show dp + 1 < _; omega))
  (case k9 => first | exact BindsTo.of_eq rfl | exact binds_K (X.keeps Ld.keep) rfl (by k_is) rfl rfl rfl)
  (case kB => exact locs rfl)
  (case c2 => exact rfl)
  (case c3 => exact rfl)
  (case c4 => exact rfl)
  (case c5 => decide)
  intro L' h' F' N'
  try dsimp only
  k_steps
  dsimp only
  exact ⟨rfl, hret _ _ _ _ _ ⟨_, _, _, _, had, rfl, rfl⟩ (Led.of_frame (by assumption) (newsSub (by assumption) (List.forall_mem_cons.mpr ⟨by k_mem, List.forall_mem_cons.mpr ⟨by k_mem, List.forall_mem_nil _⟩⟩))) hgs⟩
end
end
section
section
variable {w : World} {p' : Program} {loose : List Str} {f : Addr} {args : List Value} {pre : Heap → Prop} {led rest news news1 : List (Addr × Obj)} {fN : Obj → List (Addr × Obj)} {Post : Value → List (Addr × Obj) → Prop}
  {A₀ A : Around} {s : Shared} {base h₀ : Heap} {outer : List Env} {L a d : Addr} {o o1 od : Obj} {m mg mb : Str → Option Value} {env : Env} {Q E : Value → Shared → Prop} {dp un D U : Nat} {gd : Option (List Code)}
theorem mut_callN (c : Mut w p' loose D U f args pre led Post) (B : Below A₀ base outer h₀) (F : Fr h₀ L s.heap m) (X : (Kf w.params).In h₀) (T : TopRead p' loose mg mb h₀) (N : News h₀ L s.heap news) (hA : A = Ar dp un gd (env :: outer)) (hf : env.frame = some L) (hke : env.scope.kind = .function)
    (hd : dp + D < recursionLimit) (hu : un + U < cLine)
    (hled : ∀ p ∈ led, p ∈ news) (hrest : ∀ p ∈ rest, p ∈ news ∧ p.1 ∉ led.map (·.1)) (hpre : ∀ g, (∀ b o, s.heap.get? b = some o → b ∉ led.map (·.1) → g.get? b = some o) → pre g)
    (BM : Bm h₀ mg) (hgs : AllBare s.gens)
    (h : ∀ v led' h' gs' tk', Post v led' → Fr h₀ L h' m → News h₀ L h' (led' ++ rest) → (∀ b o, s.heap.get? b = some o → b ∉ led.map (·.1) → h'.get? b = some o) → AllBare gs' → (∀ q ∈ led', ∀ p ∈ rest, @Ne Nat q.1 p.1) → Q v { s with heap := h', gens := gs', toks := tk' }) :
    wpAny (model PySem.Challenge.rw_xn0030_01.row.prog w) A (call (.ref f) args) Q E s := by
  subst hA
  obtain ⟨g, FG, BG, XG, TG, LG, back⟩ := base_of (A := Ar dp un gd (env :: outer)) B F X T (fun p hp => N p (hled p hp)) rfl hf hke
  refine c dp un gd (env :: outer) base g (fun _ => none) mg mb s Q E hd hu BG XG TG LG (hpre g back) (BM.keeps FG.keep) hgs fun v led' h' gs' tk' hp l hb => ?_
  refine h v led' h' gs' tk' hp ⟨FG.ns.at' fun o e => l.keep _ o e, fun b o e => l.keep b o (FG.keep b o e), F.above⟩ (fun q hq => ?_) (fun b o e n => l.keep b o (back b o e n)) hb (fun q hq p hp e => ?_)
  rotate_left
  · obtain ⟨a, b⟩ := hrest p hp
    have z := (l.at_ q hq).2
    have e' : q.1 = p.1 := e
    rw [e', back _ _ (N p a).1 b] at z
    cases z
  rcases List.mem_append.mp hq with hq | hq
  · refine ⟨(l.at_ q hq).1, fun e => ?_, ?_⟩
    · obtain ⟨o, _, _, ho, _⟩ := FG.ns
      have := (l.at_ q hq).2
      rw [e, ho] at this; cases this
    · cases z : h₀.get? q.1 with
      | none => rfl
      | some o => have := (l.at_ q hq).2; rw [FG.keep _ _ z] at this; cases this
  · obtain ⟨a, b⟩ := hrest q hq
    exact ⟨l.keep _ _ (back _ _ (N q a).1 b), (N q a).2⟩
theorem mut0_callN (c : Mut w p' loose D U f args pre [] Post) (B : Below A₀ base outer h₀) (F : Fr h₀ L s.heap m) (X : (Kf w.params).In h₀) (T : TopRead p' loose mg mb h₀) (N : News h₀ L s.heap news) (hA : A = Ar dp un gd (env :: outer)) (hf : env.frame = some L) (hke : env.scope.kind = .function)
    (hd : dp + D < recursionLimit) (hu : un + U < cLine) (BM : Bm h₀ mg) (hgs : AllBare s.gens) (hpre : ∀ g, (∀ b o', s.heap.get? b = some o' → g.get? b = some o') → pre g)
    (h : ∀ v led' h' gs' tk', Post v led' → Fr h₀ L h' m → News h₀ L h' (led' ++ news) → AllBare gs' → (∀ b ob, s.heap.get? b = some ob → h'.get? b = some ob) → (∀ q ∈ led', ∀ p ∈ news, @Ne Nat q.1 p.1) → Q v { s with heap := h', gens := gs', toks := tk' }) :
    wpAny (model PySem.Challenge.rw_xn0030_01.row.prog w) A (call (.ref f) args) Q E s := by
  refine mut_callN (rest := news) c B F X T N hA hf hke hd hu (fun p hp => nomatch hp) (fun p hp => ⟨hp, by simp⟩) (fun g hg => hpre g fun b o' e => hg b o' e (by simp)) BM hgs fun v led' h' gs' tk' hP F' N' hk hb hne => ?_
  exact h v led' h' gs' tk' hP F' N' hb (fun b ob e => hk b ob e (by simp)) hne
theorem mut1_callN (c : Mut w p' loose D U f args pre [(a, o)] Post) (B : Below A₀ base outer h₀) (F : Fr h₀ L s.heap m) (X : (Kf w.params).In h₀) (T : TopRead p' loose mg mb h₀) (N : News h₀ L s.heap news) (hA : A = Ar dp un gd (env :: outer)) (hf : env.frame = some L) (hke : env.scope.kind = .function)
    (hd : dp + D < recursionLimit) (hu : un + U < cLine) (BM : Bm h₀ mg) (hgs : AllBare s.gens) (Uf : UpdF a o news fN)
    (hpre : ∀ g, (∀ b o', s.heap.get? b = some o' → b ≠ a → g.get? b = some o') → pre g) (hpost : ∀ v led', Post v led' → ∃ extra o', led' = extra ++ [(a, o')])
    (h : ∀ v extra o' h' gs' tk', Post v (extra ++ [(a, o')]) → Fr h₀ L h' m → News h₀ L h' (extra ++ fN o') → AllBare gs' → (∀ b ob, s.heap.get? b = some ob → b ≠ a → h'.get? b = some ob) → (∀ q ∈ extra, ∀ p ∈ fN o', p.1 ≠ a → @Ne Nat q.1 p.1) → Q v { s with heap := h', gens := gs', toks := tk' }) :
    wpAny (model PySem.Challenge.rw_xn0030_01.row.prog w) A (call (.ref f) args) Q E s := by
  obtain ⟨p1, p2, rfl, hfN, h1, h2⟩ := Uf.split
  refine mut_callN (rest := p1 ++ p2) c B F X T N hA hf hke hd hu (fun p hp => ?_) (fun p hp => ?_) (fun g hg => hpre g fun b o' e n => hg b o' e (by simpa using n)) BM hgs fun v led' h' gs' tk' hP F' N' hk hb hne => ?_
  · rw [List.mem_singleton.mp hp]; simp
  · rcases List.mem_append.mp hp with hp | hp
    · exact ⟨List.mem_append_left _ hp, by simpa using h1 p hp⟩
    · exact ⟨List.mem_append_right _ (.tail _ hp), by simpa using h2 p hp⟩
  · obtain ⟨extra, o', rfl⟩ := hpost v led' hP
    refine h v extra o' h' gs' tk' hP F' (fun q hq => N' q ?_) hb (fun b ob e n => hk b ob e (by simpa using n)) fun q hq p hp np => ?_
    rotate_left
    · refine hne q (List.mem_append_left _ hq) p ?_
      rw [hfN] at hp
      rcases List.mem_append.mp hp with hp | hp
      · exact List.mem_append_left _ hp
      · rcases List.mem_cons.mp hp with rfl | hp
        · exact absurd rfl np
        · exact List.mem_append_right _ hp
    rw [hfN] at hq
    simp only [List.mem_append, List.mem_cons, List.not_mem_nil, or_false] at hq ⊢
    rcases hq with hq | hq | hq | hq
    · exact .inl (.inl hq)
    · exact .inr (.inl hq)
    · exact .inl (.inr hq)
    · exact .inr (.inr hq)
end
theorem News.neCls {h₀ h : Heap} {L : Addr} {news : List (Addr × Obj)} {x y : Addr} {o o' : Obj} (N : News h₀ L h news) (hx : (x, o) ∈ news) (hy : (y, o') ∈ news) (hc : o.cls ≠ o'.cls) : @Ne Nat x y := by
  intro e
  have e' : x = y := e
  subst e'
  have := (N _ hx).1.symm.trans (N _ hy).1
  exact hc (congrArg Obj.cls (Option.some.inj this))
end
theorem kw15 : True := by
  k_with "call ref" => ((k_here; (with_reducible show wpAny _ _ (call (Value.ref 178) _) _ _ _); (refine' mut0_callN (acc_new _ _ _ _) ?kB ?kF ?kX ?kT ?kN ?kA ?kf ?kk ?kd ?ku ?bm ?gs ?kp ?_; (case kA => exact rfl); (case kf => exact rfl); (case kk => exact rfl); (case kp => exact fun _ _ => trivial); (case kB => assumption); (case kF => k_asm); (case kX => k_asm); (case kT => k_asm); (case kN => k_asm); (case bm => assumption); (case gs => first | assumption | (dsimp only; assumption)); (case kd => ((try dsimp only [Ar, Around.deeper, Around.in1]); omega)); (case ku => ((try dsimp only [Ar, Around.deeper, Around.in1]); omega)); intro v' led' h' gs' tk' hP' F' N' hb' e' ne'; obtain ⟨aA, dA, kA, uA, neA, eA, lA⟩ := hP'; subst eA; subst lA; (try simp only [List.cons_append, List.nil_append] at N'); (simp only [List.forall_mem_cons, List.not_mem_nil, false_implies, implies_true, and_true, ne_eq, not_true_eq_false, not_false_eq_true, forall_const] at ne'; (try dsimp only at ne')))))
  exact trivial
section
section
noncomputable abbrev fmtD (w : World) (w0 : Nat) (ws ch : Str) (a ll : Addr) (k1 k2 k3 k4 k5 k6 u1 u2 u3 u4 : Tok) : Obj :=
  dictOf [⟨PyData.keyHash w.params (Str.ofString "_maxlen"), .str (Str.ofString "_maxlen") k1, .int (w0 : Int) u1⟩, ⟨PyData.keyHash w.params (Str.ofString "_continuation_ws"), .str (Str.ofString "_continuation_ws") k2, .str ws u2⟩,
    ⟨PyData.keyHash w.params (Str.ofString "_continuation_ws_len"), .str (Str.ofString "_continuation_ws_len") k3, .int ((ws.length : Nat) : Int) u3⟩, ⟨PyData.keyHash w.params (Str.ofString "_splitchars"), .str (Str.ofString "_splitchars") k4, .str ch u4⟩,
    ⟨PyData.keyHash w.params (Str.ofString "_lines"), .str (Str.ofString "_lines") k5, .ref ll⟩, ⟨PyData.keyHash w.params (Str.ofString "_current_line"), .str (Str.ofString "_current_line") k6, .ref a⟩] 6
theorem fmt_new (w : World) (p' : Program) (loose : List Str) (w0 : Nat) (ws ch : Str) (t0 t1 t2 t3 : Tok) (hws : ws.length = 1) :
    Mut w p' loose 8 50 94 [.int 0 t0, .int (w0 : Int) t1, .str ws t2, .str ch t3] (fun _ => True) [] (fun v led => ∃ fa fd a d ll k1 k2 k3 k4 k5 k6 u1 u2 u3 u4 k u, v = .ref fa ∧ led = [(fa, instObj 94 fd), (fd, fmtD w w0 ws ch a ll k1 k2 k3 k4 k5 k6 u1 u2 u3 u4), (ll, listOf #[] 0), (a, accO d [] 0), (d, accD w k u)]) := by
  intro dp un gd outer base g mean mg mb s Q E hd hu B X T Ld _ BM hgs hret
  revert X; k_fill; intro X
  refine' callP_led X Ld ?a1 ?a9 ?b1 ?_
  (case a1 => k_is)
  (case a9 => k_is)
  (case b1 => k_is)
  clear Ld
  intro a d h1 Ld l1 l2
  have had : @Ne Nat a d := Nat.ne_of_gt l2
  refine' mut_enter X T Ld ?k6 ?k7 ?k8 ?k9 ?kB ?_ ?c2 ?c3 ?c4 ?c5
  (case k6 => k_is)
  (case k7 => k_is)
  (case k8 => (show dp + 1 < _; omega))
  (case k9 => first | exact BindsTo.of_eq rfl | exact binds_K (X.keeps Ld.keep) rfl (by k_is) rfl rfl rfl)
  (case kB => exact locs rfl)
  (case c2 => exact rfl)
  (case c3 => exact rfl)
  (case c4 => exact rfl)
  (case c5 => decide)
  intro L' h' F' N'
  try dsimp only
  (repeat' (first | (k_unfold; (try ((first | (with_reducible show PySem.W.StrBack _ _ _) | (with_reducible show PySem.W.LenBack _ _ _) | (with_reducible show PySem.W.BoolBack _ _ _)); dsimp only [PySem.W.StrBack, PySem.W.LenBack, PySem.W.BoolBack]))) | (k_end; wrow_close) | (walk1 <;> ((try dsimp only [List.cons_append, List.nil_append]); (try k_fold))) | (dsimp only; walk1 <;> (try k_fold)) | (leave1; walk_say "STEP leave1"; (try dsimp only); (try k_fold)) | fail "no step"))
  exact ⟨rfl, hret _ _ _ _ _ ⟨_, _, _, _, _, _, _, _, _, _, _, _, _, _, _, _, _, rfl, rfl⟩ (Led.of_frame (by assumption) (newsSub (by assumption) (List.forall_mem_cons.mpr ⟨by k_mem, List.forall_mem_cons.mpr ⟨by k_mem, List.forall_mem_cons.mpr ⟨by k_mem, List.forall_mem_cons.mpr ⟨by k_mem, List.forall_mem_cons.mpr ⟨by k_mem, List.forall_mem_nil _⟩⟩⟩⟩⟩))) (by first | assumption | (dsimp only; assumption))⟩
end
end
end
theorem kw16 : True := by
  k_with_none
  k_with "getMethod ref" => ((k_here; k_dflt (refine' method_bi ?k1 ?k2 ?k3 ?k4 ?k5 ?k6 ?k7 ?_; (case k1 => k_in); (case k2 => k_inst); (case k3 => k_is); (case k4 => k_is); (case k5 => k_is); (case k6 => exact T_append); (case k7 => first | assumption | rfl); k_whole)))
  k_with "getMethod ref" => ((k_here; k_dflt (refine' method_fnL ?k1 ?k2 ?k3 ?k4 ?k5 ?k6 ?k7 ?_; (case k1 => k_in); (case k2 => k_inst); (case k3 => k_is); (case k4 => k_is); (case k5 => k_is); (case k6 => k_is); (case k7 => first | assumption | rfl); k_whole)))
  k_with "getMethod ref" => ((k_here; k_dflt (refine' super_methK ?k1 ?k2 ?k3 ?k4 ?k5 ?k6 ?k7 ?k8 ?k9 ?kA ?kB ?kC ?_; (case k1 => k_asm); (case k2 => k_asm); (case k3 => k_asm); (case k4 => k_mem); (case k5 => k_inst); (case k6 => k_is); (case k7 => ks_is); (case k8 => k_is); (case kB => first | exact binds_pop | exact binds_len | exact binds_init); (case k9 => kernel_rfl); (case kA => first | exact slot_md_get.lookup | exact slot_wd_get.lookup); (case kC => decide); intro q' h' F' N' l1; (try k_lt l1))))
  k_with "callWith ref" => ((k_here; k_dflt (refine' callWith_B0 ?k1 ?k2 ?k3 ?_; (case k1 => exact (News.get (by k_asm) (by k_mem))); (case k2 => rfl); (case k3 => rfl); k_whole)))
  k_with "call ref" => ((k_here; k_dflt (refine' len_B ?k1 ?k2 ?k3 ?_; (case k1 => exact (News.get (by k_asm) (by k_mem))); (case k2 => first | exact (News.get (by k_asm) (by k_mem)) | exact Fr.keep (by k_asm) _ _ (by assumption)); (case k3 => omega); k_whole); intro _))
  k_with "call ref" => ((k_here; k_dflt (refine' pop_B ?k1 ?k2 ?k3 ?k4 ?k5 ?k6 ?k7 ?k8 ?k9 ?kA ?kB ?_; (case k1 => k_asm); (case k2 => k_asm); (case k3 => k_in); (case k4 => k_inst); (case k5 => exact (News.get (by k_asm) (by k_mem))); (case k6 => k_is); (case k7 => decide +kernel); (case k8 => k_is); (case k9 => k_is); (case kA => omega); (case kB => k_upd); k_whole); intro h' F' N'))
  k_with "call builtin:list.append" => ((k_here; k_dflt (refine' append_sub ?k1 ?k2 ?k3 ?k4 ?k5 ?k6 ?k7 ?_; (case k1 => k_asm); (case k2 => k_asm); (case k3 => k_asm); (case k4 => k_inst); (case k5 => k_is); (case k6 => k_upd); (case k7 => omega); k_whole; intro h' F' N')))
  k_with "wpAt" => ((dsimp only; walk_at "wpAt"))
  k_with "wpAt" => ((ks_step "eval Call"; (with_unfolding_all refine ks_wpAt_MethodCall (pl := (do return (← importBound _ _).getD true)) ?_)))
  k_with "setItem ref ref" => ((k_here; k_dflt (refine' setSlice_sub ?k1 ?k2 ?k3 ?k4 ?k5 ?k6 ?k7 ?k8 ?k9 ?kA ?kB ?kC ?kD ?kE ?_; (case k1 => k_asm); (case k2 => k_asm); (case k3 => k_asm); (case k4 => k_inst); (case k5 => k_is); (case k6 => k_is); (case k7 => k_is); (case kA => first | exact News.get (by k_asm) (by k_mem) | exact Fr.keep (by k_asm) _ _ (by assumption)); (case k8 => first | omega | k_ne); (case k9 => first | exact PySem.IsPart.none | exact PySem.IsPart.int _ _); (case kB => first | exact cut_all _ _ | exact cut_from _ _ (by omega)); (case kC => k_upd); (case kD => first | omega | (simp; done) | (simp; omega)); (case kE => first | omega | (simp; done) | (simp; omega)); k_whole); intro h' F' N'))
  k_with "setAttr ref" => ((k_here; k_dflt (refine' set_dictL ?k1 ?k2 ?k3 ?k4 ?k5 ?k6 ?k7 ?k8 ?k9 ?kA ?kB ?kC ?kD ?kE ?_; (case k1 => k_asm); (case k2 => k_asm); (case k3 => k_asm); (case k4 => k_inst); (case k5 => exact rfl); (case k6 => k_is); (case k7 => k_is); (case k8 => rfl); (case k9 => k_is); (case kA => rfl); (case kB => first | k_get | exact rfl); (case kC => first | k_put | exact rfl); (case kD => k_upd); (case kE => exact Nat.le_of_ble_eq_true rfl); k_whole; intro h' F' N')))
  k_with "subscriptTail Name Slice ref ref" => ((k_here; (with_reducible show wpAny _ _ (subscriptTail _ (PySem.Expr.Slice _ _ none _) (Value.ref _) (Value.ref _)) _ _ _); k_dflt (refine' slice_sub ?k1 ?k2 ?k3 ?k4 ?k5 ?k6 ?k7 ?k8 ?k9 ?kA ?_ ?kB ?kC; (case k1 => k_asm); (case k2 => k_asm); (case k3 => k_asm); (case k4 => k_inst); (case k5 => k_is); (case k6 => k_is); (case k7 => k_is); (case k8 => first | exact PySem.IsPart.none | exact PySem.IsPart.int _ _); (case k9 => first | exact PySem.IsPart.none | exact PySem.IsPart.int _ _); (case kA => exact pick_from _ _ (by omega)); (case kB => with_unfolding_all rfl); (case kC => omega); k_whole); intro D' h' F' N' l1; (try k_lt l1)))
  k_with "wpAt" => ((ks_step "attributeBase Call"; k_here; k_dflt (refine node_sup (by k_asm) (by k_asm) (by k_asm) (by k_asm) (by k_is) (by rfl) (by rfl) (by k_inst) (by k_is) (by rfl) (by first | rfl | decide +kernel) (by k_is) (by k_is) (by k_is) (by k_is) (by decide) (by rfl) (by rfl) (by rfl) (by rfl) (by decide +kernel) (by first | boot_by_name | rfl | kernel_rfl) ?_; intro so' h' F' N' l1; (try k_lt l1))))
  k_with "call ref" => ((k_here; (with_reducible show wpAny _ _ (call (Value.ref 175) _) _ _ _); (refine' pureH_callK (pc_spec _ _ _ _ _ _ _ _ _ _ ?hz ?hkk) ?kB ?kF ?kX ?kT ?kN ?kA ?kf ?kk ?kd ?ku ?kp ?_; (case kA => exact rfl); (case kf => exact rfl); (case kk => exact rfl); (case kp => exact ⟨(by first | exact News.get (by k_asm) (by k_mem) | exact Fr.keep (by k_asm) _ _ (by assumption)), (by first | exact News.get (by k_asm) (by k_mem) | exact Fr.keep (by k_asm) _ _ (by assumption))⟩); (case hkk => first | (simp only [List.length_append, List.length_cons, List.length_nil, Nat.zero_add, Nat.reduceAdd]; rfl) | rfl); (case hz => first | omega | (simp; omega) | simp); (case kB => assumption); (case kF => k_asm); (case kX => k_asm); (case kT => k_asm); (case kN => k_asm); (case kd => ((try dsimp only [Ar, Around.deeper, Around.in1]); omega)); (case ku => ((try dsimp only [Ar, Around.deeper, Around.in1]); omega)); intro v' h' tk' hv' F' N' e'; obtain ⟨_, e9⟩ := hv'; subst e9)))
  exact trivial
section
theorem sp1 (a : Value) : [a] = [] ++ [a] := rfl
theorem sp2 (a b : Value) : [a, b] = [a] ++ [b] := rfl
theorem sp3 (a b c : Value) : [a, b, c] = [a, b] ++ [c] := rfl
theorem sp4 (a b c d : Value) : [a, b, c, d] = [a, b, c] ++ [d] := rfl
theorem inst_pl {h : Heap} {x C dx : Addr} {od : Obj} {sl : Array (Option Value)} (h1 : h.get? x = some ⟨.ref C, some dx, .plain, sl⟩) (h2 : h.get? dx = some od) : InstAt h x ⟨.ref C, some dx, .plain, sl⟩ C (some od) :=
  ⟨h1, rfl, rfl, h2⟩
theorem ne_cls {h : Heap} {x y : Addr} {o o' : Obj} (hx : h.get? x = some o) (hy : h.get? y = some o') (hc : o.cls ≠ o'.cls) : x ≠ y := by
  intro e
  subst e
  exact hc (congrArg Obj.cls (Option.some.inj (hx.symm.trans hy)))
theorem updF_mem {a : Addr} {o : Obj} {news : List (Addr × Obj)} {fN : Obj → List (Addr × Obj)} (U : UpdF a o news fN) : (a, o) ∈ news := by
  obtain ⟨p1, p2, rfl, -⟩ := U.split
  exact List.mem_append_right _ (.head _)
theorem updF_mem' {a : Addr} {o : Obj} {news : List (Addr × Obj)} {fN : Obj → List (Addr × Obj)} (U : UpdF a o news fN) (o' : Obj) : (a, o') ∈ fN o' := by
  obtain ⟨p1, p2, rfl, e, -⟩ := U.split
  rw [e]
  exact List.mem_append_right _ (.head _)
theorem updF_upd {a : Addr} {o : Obj} {news : List (Addr × Obj)} {fN : Obj → List (Addr × Obj)} (U : UpdF a o news fN) (o' : Obj) : ∀ q, q ∈ fN o' → q = (a, o') ∨ (q ∈ news ∧ q.1 ≠ a) := by
  obtain ⟨p1, p2, rfl, e, h1, h2⟩ := U.split
  intro q hq
  rw [e] at hq
  rcases List.mem_append.mp hq with hq | hq
  · exact .inr ⟨List.mem_append_left _ hq, h1 q hq⟩
  · rcases List.mem_cons.mp hq with rfl | hq
    · exact .inl rfl
    · exact .inr ⟨List.mem_append_right _ (.tail _ hq), h2 q hq⟩
theorem Cells.off {h g : Heap} {its : List Value} {xs : List Str} {b : Addr} {o : Obj} (c : Cells h its xs) (hb : h.get? b = some o) (hc : o.cls ≠ .type "tuple") (k : ∀ x o', h.get? x = some o' → x ≠ b → g.get? x = some o') : Cells g its xs := by
  induction c with
  | nil => exact .nil
  | cons e _ ih => exact .cons (k _ _ e (ne_cls e hb (fun z => hc z.symm))) ih
section
variable {w : World} {p' : Program} {loose : List Str} {news : List (Addr × Obj)} {fN : Obj → List (Addr × Obj)}
  {A₀ A : Around} {s : Shared} {base h₀ : Heap} {outer : List Env} {L a d : Addr} {m mg mb : Str → Option Value} {env : Env} {Q E : Value → Shared → Prop} {dp un : Nat} {gd : Option (List Code)}
  {k u : Tok} {its : List Value} {n : Nat}
theorem push_K {x y : Str} {tx ty : Tok} (B : Below A₀ base outer h₀) (F : Fr h₀ L s.heap m) (X : (Kf w.params).In h₀) (T : TopRead p' loose mg mb h₀) (N : News h₀ L s.heap news) (hA : A = Ar dp un gd (env :: outer)) (hf : env.frame = some L) (hke : env.scope.kind = .function)
    (hd : dp + 3 < recursionLimit) (hu : un + 20 < cLine) (BM : Bm h₀ mg) (hgs : AllBare s.gens) (U : UpdF a (accO d its n) news fN) (hdd : s.heap.get? d = some (accD w k u)) (hz : its.length ≤ 900)
    (h : ∀ t n' mm h' gs' tk', Fr h₀ L h' m → News h₀ L h' ((t, tupO x tx y ty mm) :: fN (accO d (its ++ [.ref t]) n')) → AllBare gs' → (∀ p ∈ fN (accO d (its ++ [.ref t]) n'), @Ne Nat t p.1) → Q .none { s with heap := h', gens := gs', toks := tk' }) :
    wpAny (model PySem.Challenge.rw_xn0030_01.row.prog w) A (call (.ref 122) [.ref a, .str x tx, .str y ty]) Q E s := by
  refine mut1_callN (push_spec w p' loose a d k u its n x y tx ty hz) B F X T N hA hf hke hd hu BM hgs U (fun g hg => hg d _ hdd (ne_cls hdd (N _ (updF_mem U)).1 (by intro z; cases z))) (fun v led' hP => ?_) fun v extra o' h' gs' tk' hP F' N' hb hk hne => ?_
  · obtain ⟨-, t, n', mm, e⟩ := hP; exact ⟨_, _, e⟩
  · obtain ⟨rfl, t, n', mm, e⟩ := hP
    obtain ⟨e1, e2⟩ := List.append_inj' e rfl
    subst e1
    have e3 := (Prod.mk.inj (List.cons.inj e2).1).2
    subst e3
    refine h t n' mm h' gs' tk' F' N' hb fun p hp => ?_
    rcases updF_upd U _ p hp with rfl | ⟨hp1, hp2⟩
    · exact News.neCls N' (.head _) (.tail _ (updF_mem' U _)) (by intro z; cases z)
    · exact hne _ (.head _) p hp hp2
theorem pop_K {v : Value} (B : Below A₀ base outer h₀) (F : Fr h₀ L s.heap m) (X : (Kf w.params).In h₀) (T : TopRead p' loose mg mb h₀) (N : News h₀ L s.heap news) (hA : A = Ar dp un gd (env :: outer)) (hf : env.frame = some L) (hke : env.scope.kind = .function)
    (hd : dp + 5 < recursionLimit) (hu : un + 30 < cLine) (BM : Bm h₀ mg) (hgs : AllBare s.gens) {all : List Value} (U : UpdF a (accO d all n) news fN) (hall : all = its ++ [v]) (hdd : s.heap.get? d = some (accD w k u)) (hz : its.length ≤ 800)
    (h : ∀ n' h' gs' tk', Fr h₀ L h' m → News h₀ L h' (fN (accO d its n')) → AllBare gs' → Q v { s with heap := h', gens := gs', toks := tk' }) :
    wpAny (model PySem.Challenge.rw_xn0030_01.row.prog w) A (call (.ref 138) [.ref a]) Q E s := by
  subst hall
  refine mut1_callN (pop_spec w p' loose a d k u its v n hz) B F X T N hA hf hke hd hu BM hgs U (fun g hg => hg d _ hdd (ne_cls hdd (N _ (updF_mem U)).1 (by intro z; cases z))) (fun v led' hP => ?_) fun v extra o' h' gs' tk' hP F' N' hb hk hne => ?_
  · obtain ⟨-, n', e⟩ := hP; exact ⟨_, _, e⟩
  · obtain ⟨rfl, n', e⟩ := hP
    obtain ⟨e1, e2⟩ := List.append_inj' e rfl
    subst e1
    have e3 := (Prod.mk.inj (List.cons.inj e2).1).2
    subst e3
    exact h n' h' gs' tk' F' N' hb
theorem popfrom_K {i : Nat} {tk : Tok} (B : Below A₀ base outer h₀) (F : Fr h₀ L s.heap m) (X : (Kf w.params).In h₀) (T : TopRead p' loose mg mb h₀) (N : News h₀ L s.heap news) (hA : A = Ar dp un gd (env :: outer)) (hf : env.frame = some L) (hke : env.scope.kind = .function)
    (hd : dp + 3 < recursionLimit) (hu : un + 20 < cLine) (BM : Bm h₀ mg) (hgs : AllBare s.gens) (U : UpdF a (accO d its n) news fN) (hdd : s.heap.get? d = some (accD w k u)) (hz : its.length ≤ 400) (hi : i ≤ its.length)
    (h : ∀ l n' h' gs' tk', Fr h₀ L h' m → News h₀ L h' ((l, listOf (its.drop i).toArray 0) :: fN (accO d (its.take i) n')) → AllBare gs' → (∀ p ∈ fN (accO d (its.take i) n'), @Ne Nat l p.1) → Q (.ref l) { s with heap := h', gens := gs', toks := tk' }) :
    wpAny (model PySem.Challenge.rw_xn0030_01.row.prog w) A (call (.ref 130) [.ref a, .int (i : Int) tk]) Q E s := by
  refine mut1_callN (popfrom_spec w p' loose a d k u tk its n i hz hi) B F X T N hA hf hke hd hu BM hgs U (fun g hg => hg d _ hdd (ne_cls hdd (N _ (updF_mem U)).1 (by intro z; cases z))) (fun v led' hP => ?_) fun v extra o' h' gs' tk' hP F' N' hb hk hne => ?_
  · obtain ⟨l, n', -, e⟩ := hP; exact ⟨_, _, e⟩
  · obtain ⟨l, n', rfl, e⟩ := hP
    obtain ⟨e1, e2⟩ := List.append_inj' e rfl
    subst e1
    have e3 := (Prod.mk.inj (List.cons.inj e2).1).2
    subst e3
    refine h l n' h' gs' tk' F' N' hb fun p hp => ?_
    rcases updF_upd U _ p hp with rfl | ⟨hp1, hp2⟩
    · exact News.neCls N' (.head _) (.tail _ (updF_mem' U _)) (by intro z; cases z)
    · exact hne _ (.head _) p hp hp2
theorem reset_K {l : Addr} {vs : List Value} {nl : Nat} {news1 : List (Addr × Obj)} (B : Below A₀ base outer h₀) (F : Fr h₀ L s.heap m) (X : (Kf w.params).In h₀) (T : TopRead p' loose mg mb h₀) (N : News h₀ L s.heap news) (hA : A = Ar dp un gd (env :: outer)) (hf : env.frame = some L) (hke : env.scope.kind = .function)
    (hd : dp + 3 < recursionLimit) (hu : un + 20 < cLine) (BM : Bm h₀ mg) (hgs : AllBare s.gens) (hl : s.heap.get? l = some (listOf vs.toArray nl)) (hz : its.length ≤ 400) (hz' : vs.length ≤ 400)
    (had : @Ne Nat a d) (Ua : Upd a (accO d its n) (accO d vs (if vs.length == its.length then n else n + 1)) news news1) (Ud : UpdF d (accD w k u) news1 fN) (hmd : (d, accD w k u) ∈ news)
    (h : ∀ u' h' gs' tk', Fr h₀ L h' m → News h₀ L h' (fN (accD w k u')) → AllBare gs' → Q .none { s with heap := h', gens := gs', toks := tk' }) :
    wpAny (model PySem.Challenge.rw_xn0030_01.row.prog w) A (call (.ref 160) [.ref a, .ref l]) Q E s := by
  have hma : (a, accO d its n) ∈ news := by obtain ⟨p1, p2, e, -⟩ := Ua.split; rw [e]; exact List.mem_append_right _ (.head _)
  have n1 : l ≠ a := ne_cls hl (N _ hma).1 (by intro z; cases z)
  have n2 : l ≠ d := ne_cls hl (N _ hmd).1 (by intro z; injection z with z; exact absurd z (by decide))
  refine mut2_callK (reset_spec w p' loose a d l k u its vs n nl had (fun e => n1 e.symm) (fun e => n2 e.symm) hz hz') B F X T N hA hf hke hd hu BM hgs had Ua Ud (fun g hg => hg l _ hl n1 n2) (fun v led' hP => ?_) fun v od' h' gs' tk' hP F' N' hb hk => ?_
  · obtain ⟨-, u', e⟩ := hP; exact ⟨_, e⟩
  · obtain ⟨rfl, u', e⟩ := hP
    have e3 := (Prod.mk.inj (List.cons.inj (List.cons.inj e).2).1).2
    subst e3
    exact h u' h' gs' tk' F' N' hb
theorem reset0_K {news1 : List (Addr × Obj)} (B : Below A₀ base outer h₀) (F : Fr h₀ L s.heap m) (X : (Kf w.params).In h₀) (T : TopRead p' loose mg mb h₀) (N : News h₀ L s.heap news) (hA : A = Ar dp un gd (env :: outer)) (hf : env.frame = some L) (hke : env.scope.kind = .function)
    (hd : dp + 3 < recursionLimit) (hu : un + 20 < cLine) (BM : Bm h₀ mg) (hgs : AllBare s.gens) (hz : its.length ≤ 400)
    (had : @Ne Nat a d) (Ua : Upd a (accO d its n) (accO d [] (if ([] : List Value).length == its.length then n else n + 1)) news news1) (Ud : UpdF d (accD w k u) news1 fN)
    (h : ∀ u' h' gs' tk', Fr h₀ L h' m → News h₀ L h' (fN (accD w k u')) → AllBare gs' → Q .none { s with heap := h', gens := gs', toks := tk' }) :
    wpAny (model PySem.Challenge.rw_xn0030_01.row.prog w) A (call (.ref 160) [.ref a]) Q E s := by
  refine mut2_callK (reset0_spec w p' loose a d k u its n had hz) B F X T N hA hf hke hd hu BM hgs had Ua Ud (fun g hg => trivial) (fun v led' hP => ?_) fun v od' h' gs' tk' hP F' N' hb hk => ?_
  · obtain ⟨-, u', e⟩ := hP; exact ⟨_, e⟩
  · obtain ⟨rfl, u', e⟩ := hP
    have e3 := (Prod.mk.inj (List.cons.inj (List.cons.inj e).2).1).2
    subst e3
    exact h u' h' gs' tk' F' N' hb
theorem lenA_K {ps : Array Value} {xs : List Str} {kk : Nat} (B : Below A₀ base outer h₀) (F : Fr h₀ L s.heap m) (X : (Kf w.params).In h₀) (T : TopRead p' loose mg mb h₀) (N : News h₀ L s.heap news) (hA : A = Ar dp un gd (env :: outer)) (hf : env.frame = some L) (hke : env.scope.kind = .function)
    (hd : dp + 5 < recursionLimit) (hu : un + 30 < cLine) (BM : Bm h₀ mg) (hgs : AllBare s.gens) (U : UpdF 140 (tabO ps) news fN) (haa : s.heap.get? a = some (accO d its n)) (hdd : s.heap.get? d = some (accD w k u)) (hc : Cells s.heap its xs) (hz : its.length ≤ 100) (hkk : its.length = kk) (hx1 : ∀ x ∈ xs, x.length = 1) (hps : TriplesOk ps.toList)
    (h : ∀ t ps' h' gs' tk', TriplesOk ps'.toList → Fr h₀ L h' m → News h₀ L h' (fN (tabO ps')) → AllBare gs' → Q (.int (kk : Int) t) { s with heap := h', gens := gs', toks := tk' }) :
    wpAny (model PySem.Challenge.rw_xn0030_01.row.prog w) A (call (.ref 145) [.ref a]) Q E s := by
  subst hkk
  have h140 := (N _ (updF_mem U)).1
  refine mut1_callN (len_spec w p' loose a d k u its n xs ps hz hx1 hps) B F X T N hA hf hke hd hu BM hgs U (fun g hg => ⟨hg a _ haa (ne_cls haa h140 (by intro z; cases z)), hg d _ hdd (ne_cls hdd h140 (by intro z; cases z)), hc.off h140 (by intro z; cases z) hg⟩) (fun v led' hP => ?_) fun v extra o' h' gs' tk' hP F' N' hb hk hne => ?_
  · obtain ⟨-, ps', -, e⟩ := hP; exact ⟨[], _, e⟩
  · obtain ⟨⟨t, rfl⟩, ps', hp', e⟩ := hP
    obtain ⟨e1, e2⟩ := List.append_inj' (s₁ := extra) (s₂ := []) e rfl
    subst e1
    have e3 := (Prod.mk.inj (List.cons.inj e2).1).2
    subst e3
    exact h t ps' h' gs' tk' hp' F' N' hb
theorem strA_K {ps : Array Value} {xs : List Str} (B : Below A₀ base outer h₀) (F : Fr h₀ L s.heap m) (X : (Kf w.params).In h₀) (T : TopRead p' loose mg mb h₀) (N : News h₀ L s.heap news) (hA : A = Ar dp un gd (env :: outer)) (hf : env.frame = some L) (hke : env.scope.kind = .function)
    (hd : dp + 5 < recursionLimit) (hu : un + 30 < cLine) (BM : Bm h₀ mg) (hgs : AllBare s.gens) (U : UpdF 147 (tabO ps) news fN) (haa : s.heap.get? a = some (accO d its n)) (hdd : s.heap.get? d = some (accD w k u)) (hc : Cells s.heap its xs) (hz : its.length ≤ 100) (hx1 : ∀ x ∈ xs, x.length = 1) (hps : TriplesOk ps.toList)
    (h : ∀ t ps' h' gs' tk', TriplesOk ps'.toList → Fr h₀ L h' m → News h₀ L h' (fN (tabO ps')) → AllBare gs' → Q (.str (Txt.join (Str.ofString "") xs) t) { s with heap := h', gens := gs', toks := tk' }) :
    wpAny (model PySem.Challenge.rw_xn0030_01.row.prog w) A (call (.ref 152) [.ref a]) Q E s := by
  have h147 := (N _ (updF_mem U)).1
  refine mut1_callN (str_spec w p' loose a d k u its n xs ps hz hx1 hps) B F X T N hA hf hke hd hu BM hgs U (fun g hg => ⟨hg a _ haa (ne_cls haa h147 (by intro z; cases z)), hg d _ hdd (ne_cls hdd h147 (by intro z; cases z)), hc.off h147 (by intro z; cases z) hg⟩) (fun v led' hP => ?_) fun v extra o' h' gs' tk' hP F' N' hb hk hne => ?_
  · obtain ⟨-, ps', -, e⟩ := hP; exact ⟨[], _, e⟩
  · obtain ⟨⟨t, rfl⟩, ps', hp', e⟩ := hP
    obtain ⟨e1, e2⟩ := List.append_inj' (s₁ := extra) (s₂ := []) e rfl
    subst e1
    have e3 := (Prod.mk.inj (List.cons.inj e2).1).2
    subst e3
    exact h t ps' h' gs' tk' hp' F' N' hb
end
end
section
/-- a stop for the walker -/
structure Halt (P : Prop) : Prop where
  out : P
section
variable {prog : Program} {w : World} {A : Around} {E : Value → Shared → Prop} {s : Shared} {env : Env} {target iter : PySem.Expr} {it : Value} {body orelse : List Stmt} {Q : Flow → Shared → Prop}
noncomputable def ForRest (prog : Program) (w : World) (A : Around) (E : Value → Shared → Prop) (env : Env) (target : PySem.Expr) (it : Value) (body orelse : List Stmt) (Q : Flow → Shared → Prop) (s : Shared) : Prop :=
  codeAny (model prog w) A (.forLoop target it body orelse env) (fun r s' => match r with | .ok f => Q f s' | .error e => cameBackBy (model prog w) A env E e s') s
noncomputable def ForPost (prog : Program) (w : World) (A : Around) (E : Value → Shared → Prop) (env : Env) (target : PySem.Expr) (it : Value) (body orelse : List Stmt) (Q : Flow → Shared → Prop) (f : Flow) (s : Shared) : Prop :=
  match f with
  | .next => ForRest prog w A E env target it body orelse Q s
  | .cont => ForRest prog w A E env target it body orelse Q s
  | .brk => Q .next s
  | .ret v => Q (.ret v) s
noncomputable def ForNext (prog : Program) (w : World) (A : Around) (E : Value → Shared → Prop) (env : Env) (target : PySem.Expr) (it : Value) (body orelse : List Stmt) (Q : Flow → Shared → Prop) (r : Option Value) (s : Shared) : Prop :=
  match r with
  | none => wpAny (model prog w) A (execs orelse env) Q E s
  | some v => wpAny (model prog w) A (assign target env v) (fun _ s₂ => wpAny (model prog w) A (execs body env) (ForPost prog w A E env target it body orelse Q) E s₂) E s
theorem for_turn (hE : PassesOwn (model prog w) A env E) (ht : ∀ v, letOwnedTupleGo target it v = pure ())
    (h : wpAny (model prog w) A (pyNext it) (ForNext prog w A E env target it body orelse Q) E s) : ForRest prog w A E env target it body orelse Q s := by
  refine codeAny_of_tree ?_
  show wpAny _ A ((forTurn target it body orelse env).onRaise (fun x => do noteFrame x env; theTreesLotGoes x)) _ _ s
  refine wpAny_noted ?_
  simp only [forTurn]
  refine wpAny_bind (wpAny_standAt (wpAny_bind (wpAny_onRaise (wpAny_mono h (fun r s₁ h₁ => ?_) fun e s' h' => wpAny_standAt (hE e s' h')))))
  cases r with
  | none => exact wpAny_pure ⟨rfl, codeAny_block (wpAny_mono h₁ (fun _ _ z => z) hE)⟩
  | some v =>
    refine wpAny_bind (wpAny_of_eq (ht v) ?_)
    refine wpAny_bind (wpAny_mono h₁ (fun _ s₂ h₂ => wpAny_bind (wpAny_mono h₂ (fun f s₃ h₃ => ?_) hE)) hE)
    cases f with
    | next => exact wpAny_pure ⟨rfl, h₃⟩
    | cont => exact wpAny_pure ⟨rfl, h₃⟩
    | brk => exact wpAny_pure h₃
    | ret v => exact wpAny_pure h₃
theorem for_start {pos : Pos} (h : wpAny (model prog w) A (eval iter env) (fun x s₁ => wpAny (model prog w) A (pyIter x) (fun it s₂ => ForRest prog w A E env target it body orelse Q s₂) E s₁) E s)
    (hs : ∀ x, foldedSetIterable iter env x = pure x) : wpAny (model prog w) A (exec (.For target iter body orelse pos) env) Q E s := wpAny_For h hs
end
inductive Drop (d : Addr) : List (Addr × Obj) → List (Addr × Obj) → Prop
  | head {o r} : (∀ p ∈ r, p.1 ≠ d) → Drop d ((d, o) :: r) r
  | tail {p r r'} : p.1 ≠ d → Drop d r r' → Drop d (p :: r) (p :: r')
theorem Drop.split {d : Addr} : ∀ {l l' : List (Addr × Obj)}, Drop d l l' → (∃ o, (d, o) ∈ l) ∧ ∀ p ∈ l', p ∈ l ∧ p.1 ≠ d
  | _, _, .head (o := o) h => ⟨⟨o, .head _⟩, fun p hp => ⟨.tail _ hp, h p hp⟩⟩
  | _, _, .tail h r => ⟨let ⟨o, ho⟩ := r.split.1; ⟨o, .tail _ ho⟩, fun p hp => by
      rcases List.mem_cons.mp hp with rfl | hp
      · exact ⟨.head _, h⟩
      · exact ⟨.tail _ (r.split.2 p hp).1, (r.split.2 p hp).2⟩⟩
noncomputable abbrev itS (a left st : Int) : Obj := { cls := .type "range_iterator", dict := none, data := .fields #[rawInt a, rawInt left, rawInt st], slots := #[] }
section
variable {prog : Program} {w : World} {A : Around} {E : Value → Shared → Prop} {s : Shared} {h₀ : Heap} {L I r : Addr} {m : Str → Option Value} {news news' : List (Addr × Obj)} {fN : Obj → List (Addr × Obj)}
theorem iter_rangeK {a b st a0 : Int} {t u v : Tok} {n : Int} {Q : Value → Shared → Prop} (hr : IsRange s.heap r a b st t u v) (ha0 : a = a0) (hsmall : Builtin.Range.small a b st = true) (hn : Builtin.Range.rangeSize a b st = n) (F : Fr h₀ L s.heap m) (N : News h₀ L s.heap news)
    (h : ∀ I h', Fr h₀ L h' m → News h₀ L h' ((I, itS a0 n st) :: news) → (∀ p ∈ news, p.1 < I) → Q (.ref I) { s with heap := h' }) : wpAny (model prog w) A (pyIter (.ref r)) Q E s := by
  subst ha0
  refine wpAny_pyIter_range hr hsmall ?_
  rw [hn]
  exact h _ _ (F.push _) (N.push F _) (fun p hp => Heap.lt_size (N p hp).1)
theorem same_news {h' : Heap} {o o' : Obj} (F : Fr h₀ L s.heap m) (N : News h₀ L s.heap news) (U : UpdF I o news fN) (h1 : h'.get? I = some o') (hs : ∀ b o, b ≠ I → s.heap.get? b = some o → h'.get? b = some o) : Fr h₀ L h' m ∧ News h₀ L h' (fN o') := by
  have z := N _ (updF_mem U)
  refine ⟨⟨F.ns.at' fun o e => hs _ o (fun q => z.2.1 q.symm) e, fun b o e => hs b o (fun q => ?_) (F.keep b o e), F.above⟩, fun q hq => ?_⟩
  · have := z.2.2
    rw [← q, e] at this
    cases this
  · rcases updF_upd U _ q hq with rfl | ⟨hq1, hq2⟩
    · exact ⟨h1, z.2⟩
    · exact ⟨hs _ _ hq2 (N _ hq1).1, (N _ hq1).2⟩
theorem same_drop {h' : Heap} (F : Fr h₀ L s.heap m) (N : News h₀ L s.heap news) (U : Drop I news news') (hs : ∀ b o, b ≠ I → s.heap.get? b = some o → h'.get? b = some o) : Fr h₀ L h' m ∧ News h₀ L h' news' := by
  obtain ⟨⟨o, ho⟩, hu⟩ := U.split
  have z := N _ ho
  refine ⟨⟨F.ns.at' fun o e => hs _ o (fun q => z.2.1 q.symm) e, fun b o e => hs b o (fun q => ?_) (F.keep b o e), F.above⟩, fun q hq => ?_⟩
  · have := z.2.2
    rw [← q, e] at this
    cases this
  · exact ⟨hs _ _ (hu q hq).2 (N _ (hu q hq).1).1, (N _ (hu q hq).1).2⟩
theorem next_rangeK {a left st : Int} {Q : Option Value → Shared → Prop} (F : Fr h₀ L s.heap m) (N : News h₀ L s.heap news) (U : UpdF I (itS a left st) news fN) (hl : 0 < left) {a' left' : Int} (ha : a + st = a') (hl' : left - 1 = left')
    (h : ∀ h' tk', Fr h₀ L h' m → News h₀ L h' (fN (itS a' left' st)) → Q (some (.int a s.toks)) { s with heap := h', toks := tk' }) : wpAny (model prog w) A (pyNext (.ref I)) Q E s := by
  subst ha hl'
  refine wpAny_pyNext_range_item (N _ (updF_mem U)).1 hl fun h' hit hs => ?_
  obtain ⟨F', N'⟩ := same_news F N U hit fun b o n e => hs.extBut b o n e
  exact h h' _ F' N'
theorem next_rangeE {a left st : Int} {Q : Option Value → Shared → Prop} (hh : A.handled = none) (F : Fr h₀ L s.heap m) (N : News h₀ L s.heap news) (hm : (I, itS a left st) ∈ news) (U : Drop I news news') (hl : left ≤ 0)
    (h : ∀ h', Fr h₀ L h' m → News h₀ L h' news' → Q none { s with heap := h' }) : wpAny (model prog w) A (pyNext (.ref I)) Q E s := by
  refine wpAny_pyNext_range_end hh (N _ hm).1 hl fun h' hs => ?_
  obtain ⟨F', N'⟩ := same_drop F N U fun b o n e => hs b o n e
  exact h h' F' N'
noncomputable abbrev itA (x : Str) (t : Tok) (i : Nat) : Obj := { cls := .type "str_ascii_iterator", data := .fields #[.str x t, .int i 0] }
theorem iter_asciiK {x : Str} {t : Tok} {Q : Value → Shared → Prop} (ha : x.cps.all (· < 128) = true) (F : Fr h₀ L s.heap m) (N : News h₀ L s.heap news)
    (h : ∀ I h', Fr h₀ L h' m → News h₀ L h' ((I, itA x t 0) :: news) → (∀ p ∈ news, p.1 < I) → Q (.ref I) { s with heap := h' }) : wpAny (model prog w) A (pyIter (.str x t)) Q E s :=
  wpAny_pyIter_ascii ha (h _ _ (F.push _) (N.push F _) (fun p hp => Heap.lt_size (N p hp).1))
theorem next_asciiK {x y : Str} {t : Tok} {i c : Nat} {o : Obj} {Q : Option Value → Shared → Prop} (F : Fr h₀ L s.heap m) (N : News h₀ L s.heap news) (U : UpdF I o news fN) (hc : o.cls = .type "str_ascii_iterator") (hd : o.data = .fields #[.str x t, .int i 0]) (hx : x.cps[i]? = some c) (hy : (⟨#[c]⟩ : Str) = y)
    (h : ∀ h' tk' o', o'.cls = .type "str_ascii_iterator" → o'.data = .fields #[.str x t, .int ((i + 1 : Nat) : Int) 0] → Fr h₀ L h' m → News h₀ L h' (fN o') → Q (some (.str y s.toks)) { s with heap := h', toks := tk' }) : wpAny (model prog w) A (pyNext (.ref I)) Q E s := by
  subst hy
  refine wpAny_pyNext_ascii_item ⟨_, (N _ (updF_mem U)).1, hc, hd⟩ hx fun h' hit hs => ?_
  obtain ⟨o', ho', hc', hd'⟩ := hit
  obtain ⟨F', N'⟩ := same_news F N U ho' fun b o n e => hs.extBut b o n e
  exact h h' _ o' hc' hd' F' N'
theorem next_asciiE {x : Str} {t : Tok} {i : Nat} {o : Obj} {Q : Option Value → Shared → Prop} (hh : A.handled = none) (F : Fr h₀ L s.heap m) (N : News h₀ L s.heap news) (hm : (I, o) ∈ news) (hc : o.cls = .type "str_ascii_iterator") (hd : o.data = .fields #[.str x t, .int i 0]) (hx : x.cps[i]? = none) (U : Drop I news news')
    (h : ∀ h', Fr h₀ L h' m → News h₀ L h' news' → Q none { s with heap := h' }) : wpAny (model prog w) A (pyNext (.ref I)) Q E s := by
  refine wpAny_pyNext_ascii_end hh ⟨_, (N _ hm).1, hc, hd⟩ hx fun h' hs => ?_
  obtain ⟨F', N'⟩ := same_drop F N U fun b o n e => hs b o n e
  exact h h' F' N'
end
end
section
open PyProof.V
local macro_rules | `(tactic| k_data) => `(tactic| skip)
noncomputable abbrev amtsI : List Int := [13, 8, 5, 3, 2]
structure LtSt (h₀ : Heap) (L I la : Addr) (va : List Value) (place : Int) (s₀ : Shared) (i : Nat) (s' : Shared) : Prop where
  ex : ∃ h tk m, s' = { s₀ with heap := h, toks := tk } ∧ Fr h₀ L h m ∧ (∃ o, News h₀ L h [(I, o), (la, listOf va.toArray 0)]) ∧ h.IsListIter I la i ∧
    ∃ lv tt, m (Str.ofString "left") = some (.int lv tt) ∧ (amtsI.drop i).foldl take1 lv = leftI place
theorem lt_put {h₀ h : Heap} {L : Addr} {m : Str → Option Value} (F : Fr h₀ L h m) (x : Str) (v : Option Value) (e : m x = v) : Fr h₀ L h (fun y => if y = x then v else m y) := by
  have : m = fun y => if y = x then v else m y := by
    funext y
    by_cases hy : y = x
    · rw [if_pos hy, hy, e]
    · rw [if_neg hy]
  exact this ▸ F
theorem lt_loop {prog : Program} {w : World} {A : Around} {E : Value → Shared → Prop} {env : Env} {target : PySem.Expr} {body orelse : List Stmt} {Q : Flow → Shared → Prop} {h₀ : Heap} {L I la : Addr} {va : List Value} {place : Int} {s₀ : Shared}
    (hstep : ∀ i s', i < 5 → LtSt h₀ L I la va place s₀ i s' → (∀ s'', LtSt h₀ L I la va place s₀ (i + 1) s'' → ForRest prog w A E env target (.ref I) body orelse Q s'') → ForRest prog w A E env target (.ref I) body orelse Q s')
    (hend : ∀ s', LtSt h₀ L I la va place s₀ 5 s' → ForRest prog w A E env target (.ref I) body orelse Q s') : ∀ (r i : Nat) (s' : Shared), i + r = 5 → LtSt h₀ L I la va place s₀ i s' → ForRest prog w A E env target (.ref I) body orelse Q s' := by
  intro r
  induction r with
  | zero => intro i s' e h; have : i = 5 := by omega
            subst this; exact hend s' h
  | succ r ih => intro i s' e h; exact hstep i s' (by omega) h fun s'' h'' => ih (i + 1) s'' (by omega) h''
theorem lt_at {l : List Value} {xs : List Int} (h : IntsAre l xs) : ∀ j, j < xs.length → ∃ t, l[j]? = some (.int (xs.getD j 0) t) := by
  induction h with
  | nil => intro j hj; exact absurd hj (Nat.not_lt_zero _)
  | cons x t _ ih =>
    intro j hj
    cases j with
    | zero => exact ⟨t, rfl⟩
    | succ j => exact ih j (by simpa using hj)
theorem lt_drop : ∀ i, i < 5 → amtsI.drop i = amtsI[i]?.getD 0 :: amtsI.drop (i + 1) := by decide
theorem lt_news {h₀ h h' : Heap} {L I la : Addr} {va : List Value} {i : Nat} (hit : h'.IsListIter I la i) (k : ∀ b o, b ≠ I → h.get? b = some o → h'.get? b = some o) {o : Obj} (N : News h₀ L h [(I, o), (la, listOf va.toArray 0)]) (hne : la ≠ I) : ∃ o', News h₀ L h' [(I, o'), (la, listOf va.toArray 0)] := by
  obtain ⟨o', ho', -, -⟩ := hit
  refine ⟨o', fun q hq => ?_⟩
  rcases List.mem_cons.mp hq with rfl | hq
  · exact ⟨ho', (N _ (.head _)).2⟩
  · rcases List.mem_singleton.mp hq with rfl
    exact ⟨k _ _ hne (N _ (.tail _ (.head _))).1, (N _ (.tail _ (.head _))).2⟩
theorem lt_hit {h₀ h : Heap} {L I la : Addr} {i : Nat} {o : Obj} {r : List (Addr × Obj)} (hit : h.IsListIter I la i) (N : News h₀ L h ((I, o) :: r)) : ∀ H : Heap, H.get? I = some o → H.IsListIter I la i := by
  obtain ⟨o2, g1, g2, g3⟩ := hit
  have e : o2 = o := by
    have z := (N _ (.head _)).1
    rw [g1] at z
    exact Option.some.inj z
  subst e
  exact fun H e => ⟨_, e, g2, g3⟩
theorem lt_fr {h₀ h h' : Heap} {L I : Addr} {m : Str → Option Value} (F : Fr h₀ L h m) (hI : I ≠ L) (hI0 : h₀.get? I = none) (k : ∀ b o, b ≠ I → h.get? b = some o → h'.get? b = some o) : Fr h₀ L h' m :=
  ⟨F.ns.at' fun o e => k _ o (Ne.symm hI) e, fun b o e => k b o (by rintro rfl; rw [hI0] at e; cases e) (F.keep b o e), F.above⟩
theorem lt_iter {prog : Program} {w : World} {A : Around} {E : Value → Shared → Prop} {s : Shared} {h₀ : Heap} {L l : Addr} {m : Str → Option Value} {va : List Value} {Q : Value → Shared → Prop} (F : Fr h₀ L s.heap m) (N : News h₀ L s.heap [(l, listOf va.toArray 0)]) (hva : IntsAre va amtsI)
    (h : ∀ va, IntsAre va amtsI → ∀ I h' o, Fr h₀ L h' m → News h₀ L h' [(I, o), (l, listOf va.toArray 0)] → h'.IsListIter I l 0 → l ≠ I → Q (.ref I) { s with heap := h' }) : wpAny (model prog w) A (pyIter (.ref l)) Q E s := by
  refine wpAny_pyIter_list ⟨_, (N _ (.head _)).1, rfl, _, rfl⟩ ?_
  exact h va hva _ _ _ (F.push _) (N.push F _) ⟨_, Heap.get?_push_size _ rfl, rfl, rfl⟩ (Nat.ne_of_lt (Heap.lt_size (N _ (.head _)).1))
theorem kw17 : True := by
  k_with "exec For Name List" => ((refine Halt.out ?_))
  k_with "exec For Name List cons nil" => ((refine Halt.out ?_))
  exact trivial
theorem letter_spec (w : World) (p' : Program) (loose : List Str) (place : Int) (tp : Tok) (hp0 : 0 ≤ place) (hp1 : place < 21) : Pure w p' loose 297 [.int place tp] (fun t => .str (letterI place) t) := by
  intro dp un gd outer base mean mg mb s Q E hd hu B X T hret
  revert X; k_fill; intro X
  refine wpAny_call ?_
  refine' pure_enter X T ?k6 ?k7 ?k8 ?k9 ?kB ?_ ?c2 ?c3 ?c4 ?c5
  (case k6 => k_is)
  (case k7 => k_is)
  (case k8 => (show dp < _; omega))
  (case k9 => exact BindsTo.of_eq rfl)
  (case kB => exact locs rfl)
  (case c2 => exact rfl)
  (case c3 => exact rfl)
  (case c4 => exact rfl)
  (case c5 => decide)
  intro L' h' F' N'
  try dsimp only
  k_steps
  refine ⟨?_⟩
  refine for_start ?_ (fun _ => by with_unfolding_all rfl)
  k_steps
  rename News _ _ _ _ => hN
  rename Fr _ _ _ _ => hF
  refine lt_iter hF hN ?hi fun va hva I h4 o4 F5 N6 hit0 hne => ?_
  case hi => repeat (first | exact .nil | refine .cons _ _ ?_)
  have hIL := (N6 _ (.head _)).2.1
  have hI0 := (N6 _ (.head _)).2.2
  have hl5 := hva.length
  refine lt_loop (va := va) (place := place) (s₀ := s) ?hs ?he 5 0 _ rfl ⟨_, _, _, rfl, F5, ⟨_, N6⟩, hit0, place, tp, rfl, rfl⟩
  case hs =>
    clear N6 F5 hret hit0
    intro i s' hi hst ih
    obtain ⟨h, tk, m, rfl, F7, ⟨o, N7⟩, hit, lv, tt, e1, hfold⟩ := hst.ex
    obtain ⟨ta, hta⟩ := lt_at hva i hi
    rw [lt_drop i hi] at hfold
    refine for_turn (by first | passes_own | with_unfolding_all passes_own) (fun _ => rfl) ?_
    refine wpAny_pyNext_list_item hit ⟨_, (N7 _ (.tail _ (.head _))).1, rfl, _, rfl⟩ (by simpa using hta) fun h' hit' hs' => ?_
    have F8 := lt_put (lt_fr F7 hIL hI0 fun b o n e => hs'.extBut b o n e) (Str.ofString "left") (some (.int lv tt)) e1
    obtain ⟨o', N8⟩ := lt_news hit' (fun b o n e => hs'.extBut b o n e) N7 hne
    clear F7 N7 hit hst hta
    dsimp only [ForNext]
    have hit2 := lt_hit hit' N8
    k_steps
    dsimp only [ForPost]
    rename Fr _ _ _ _ => hF
    rename News _ _ _ _ => hN
    rename (_ ∧ _) ∨ (_ ∧ _) => hr
    refine ih _ ⟨_, _, _, rfl, hF, ⟨_, hN⟩, hit2 _ (hN _ (.head _)).1, _, _, rfl, ?_⟩
    rw [← hfold, List.foldl_cons]
    congr 1
    unfold take1
    split <;> omega
  case he =>
    intro s' hst
    obtain ⟨h, tk, m, rfl, F7, ⟨o, N7⟩, hit, lv, tt, e1, hfold⟩ := hst.ex
    refine for_turn (by first | passes_own | with_unfolding_all passes_own) (fun _ => rfl) ?_
    refine wpAny_pyNext_list_end rfl hit ⟨_, (N7 _ (.tail _ (.head _))).1, rfl, _, rfl⟩ (by rw [List.getElem?_toArray, List.getElem?_eq_none]; rw [hl5]; decide) fun h' hs' => ?_
    have F8 := lt_put (lt_fr F7 hIL hI0 fun b o n e => hs' b o n e) (Str.ofString "left") (some (.int lv tt)) e1
    clear F7 N7 hit hst
    have hlv : lv = leftI place := hfold
    subst hlv
    dsimp only [ForNext]
    have N8 : News s.heap L' h' [] := News.nil
    k_steps
    all_goals (dsimp only; refine fin_str hret (by assumption) ?_; unfold letterI; first | (rw [if_pos (by assumption)]) | (rw [if_neg (by assumption)]))
end
theorem kw18 : True := by
  k_with_none
  k_with "getMethod ref" => ((k_here; k_dflt (refine' method_bi ?k1 ?k2 ?k3 ?k4 ?k5 ?k6 ?k7 ?_; (case k1 => k_in); (case k2 => k_inst); (case k3 => k_is); (case k4 => k_is); (case k5 => k_is); (case k6 => exact T_append); (case k7 => first | assumption | rfl); k_whole)))
  k_with "getMethod ref" => ((k_here; k_dflt (refine' method_fnL ?k1 ?k2 ?k3 ?k4 ?k5 ?k6 ?k7 ?_; (case k1 => k_in); (case k2 => k_inst); (case k3 => k_is); (case k4 => k_is); (case k5 => k_is); (case k6 => k_is); (case k7 => first | assumption | rfl); k_whole)))
  k_with "getMethod ref" => ((k_here; k_dflt (refine' super_methK ?k1 ?k2 ?k3 ?k4 ?k5 ?k6 ?k7 ?k8 ?k9 ?kA ?kB ?kC ?_; (case k1 => k_asm); (case k2 => k_asm); (case k3 => k_asm); (case k4 => k_mem); (case k5 => k_inst); (case k6 => k_is); (case k7 => ks_is); (case k8 => k_is); (case kB => first | exact binds_pop | exact binds_len | exact binds_init); (case k9 => kernel_rfl); (case kA => first | exact slot_md_get.lookup | exact slot_wd_get.lookup); (case kC => decide); intro q' h' F' N' l1; (try k_lt l1))))
  k_with "callWith ref" => ((k_here; k_dflt (refine' callWith_B0 ?k1 ?k2 ?k3 ?_; (case k1 => exact (News.get (by k_asm) (by k_mem))); (case k2 => rfl); (case k3 => rfl); k_whole)))
  k_with "call ref" => ((k_here; k_dflt (refine' len_B ?k1 ?k2 ?k3 ?_; (case k1 => exact (News.get (by k_asm) (by k_mem))); (case k2 => first | exact (News.get (by k_asm) (by k_mem)) | exact Fr.keep (by k_asm) _ _ (by assumption)); (case k3 => omega); k_whole); intro _))
  k_with "call ref" => ((k_here; k_dflt (refine' pop_B ?k1 ?k2 ?k3 ?k4 ?k5 ?k6 ?k7 ?k8 ?k9 ?kA ?kB ?_; (case k1 => k_asm); (case k2 => k_asm); (case k3 => k_in); (case k4 => k_inst); (case k5 => exact (News.get (by k_asm) (by k_mem))); (case k6 => k_is); (case k7 => decide +kernel); (case k8 => k_is); (case k9 => k_is); (case kA => omega); (case kB => k_upd); k_whole); intro h' F' N'))
  k_with "call builtin:list.append" => ((k_here; k_dflt (refine' append_sub ?k1 ?k2 ?k3 ?k4 ?k5 ?k6 ?k7 ?_; (case k1 => k_asm); (case k2 => k_asm); (case k3 => k_asm); (case k4 => k_inst); (case k5 => k_is); (case k6 => k_upd); (case k7 => omega); k_whole; intro h' F' N')))
  k_with "wpAt" => ((dsimp only; walk_at "wpAt"))
  k_with "wpAt" => ((ks_step "eval Call"; (with_unfolding_all refine ks_wpAt_MethodCall (pl := (do return (← importBound _ _).getD true)) ?_)))
  k_with "setItem ref ref" => ((k_here; k_dflt (refine' setSlice_sub ?k1 ?k2 ?k3 ?k4 ?k5 ?k6 ?k7 ?k8 ?k9 ?kA ?kB ?kC ?kD ?kE ?_; (case k1 => k_asm); (case k2 => k_asm); (case k3 => k_asm); (case k4 => k_inst); (case k5 => k_is); (case k6 => k_is); (case k7 => k_is); (case kA => first | exact News.get (by k_asm) (by k_mem) | exact Fr.keep (by k_asm) _ _ (by assumption)); (case k8 => first | omega | k_ne); (case k9 => first | exact PySem.IsPart.none | exact PySem.IsPart.int _ _); (case kB => first | exact cut_all _ _ | exact cut_from _ _ (by omega)); (case kC => k_upd); (case kD => first | omega | (simp; done) | (simp; omega)); (case kE => first | omega | (simp; done) | (simp; omega)); k_whole); intro h' F' N'))
  k_with "setAttr ref" => ((k_here; k_dflt (refine' set_dictL ?k1 ?k2 ?k3 ?k4 ?k5 ?k6 ?k7 ?k8 ?k9 ?kA ?kB ?kC ?kD ?kE ?_; (case k1 => k_asm); (case k2 => k_asm); (case k3 => k_asm); (case k4 => k_inst); (case k5 => exact rfl); (case k6 => k_is); (case k7 => k_is); (case k8 => rfl); (case k9 => k_is); (case kA => rfl); (case kB => first | k_get | exact rfl); (case kC => first | k_put | exact rfl); (case kD => k_upd); (case kE => exact Nat.le_of_ble_eq_true rfl); k_whole; intro h' F' N')))
  k_with "subscriptTail Name Slice ref ref" => ((k_here; (with_reducible show wpAny _ _ (subscriptTail _ (PySem.Expr.Slice _ _ none _) (Value.ref _) (Value.ref _)) _ _ _); k_dflt (refine' slice_sub ?k1 ?k2 ?k3 ?k4 ?k5 ?k6 ?k7 ?k8 ?k9 ?kA ?_ ?kB ?kC; (case k1 => k_asm); (case k2 => k_asm); (case k3 => k_asm); (case k4 => k_inst); (case k5 => k_is); (case k6 => k_is); (case k7 => k_is); (case k8 => first | exact PySem.IsPart.none | exact PySem.IsPart.int _ _); (case k9 => first | exact PySem.IsPart.none | exact PySem.IsPart.int _ _); (case kA => exact pick_from _ _ (by omega)); (case kB => with_unfolding_all rfl); (case kC => omega); k_whole); intro D' h' F' N' l1; (try k_lt l1)))
  k_with "wpAt" => ((ks_step "attributeBase Call"; k_here; k_dflt (refine node_sup (by k_asm) (by k_asm) (by k_asm) (by k_asm) (by k_is) (by rfl) (by rfl) (by k_inst) (by k_is) (by rfl) (by first | rfl | decide +kernel) (by k_is) (by k_is) (by k_is) (by k_is) (by decide) (by rfl) (by rfl) (by rfl) (by rfl) (by decide +kernel) (by first | boot_by_name | rfl | kernel_rfl) ?_; intro so' h' F' N' l1; (try k_lt l1))))
  k_with "call ref" => ((k_here; (with_reducible show wpAny _ _ (call (Value.ref 175) _) _ _ _); (refine' pureH_callK (pc_spec _ _ _ _ _ _ _ _ _ _ ?hz ?hkk) ?kB ?kF ?kX ?kT ?kN ?kA ?kf ?kk ?kd ?ku ?kp ?_; (case kA => exact rfl); (case kf => exact rfl); (case kk => exact rfl); (case kp => exact ⟨(by first | exact News.get (by k_asm) (by k_mem) | exact Fr.keep (by k_asm) _ _ (by assumption)), (by first | exact News.get (by k_asm) (by k_mem) | exact Fr.keep (by k_asm) _ _ (by assumption))⟩); (case hkk => first | (simp only [List.length_append, List.length_cons, List.length_nil, Nat.zero_add, Nat.reduceAdd]; rfl) | rfl); (case hz => first | omega | (simp; omega) | simp); (case kB => assumption); (case kF => k_asm); (case kX => k_asm); (case kT => k_asm); (case kN => k_asm); (case kd => ((try dsimp only [Ar, Around.deeper, Around.in1]); omega)); (case ku => ((try dsimp only [Ar, Around.deeper, Around.in1]); omega)); intro v' h' tk' hv' F' N' e'; obtain ⟨_, e9⟩ := hv'; subst e9)))
  exact trivial
section
open PyProof.V
local macro_rules | `(tactic| k_data) => `(tactic| skip)
structure SpSt (h₀ : Heap) (L I l1 l2 : Addr) (v1 v2 : List Value) (word : Str) (seed : Int) (tw ts : Tok) (s₀ : Shared) (k : Nat) (s' : Shared) : Prop where
  ex : ∃ h tk m, s' = { s₀ with heap := h, toks := tk } ∧ Fr h₀ L h m ∧ News h₀ L h [(I, itS (k : Int) ((word.length : Int) - (k : Int)) 1), (l2, listOf v2.toArray 0), (l1, listOf v1.toArray 0)] ∧
    (∃ tt, m (Str.ofString "text") = some (.str (spellL word seed (rangeKs 0 k)) tt)) ∧ m (Str.ofString "word") = some (.str word tw) ∧ m (Str.ofString "seed") = some (.int seed ts) ∧ m (Str.ofString "starts") = some (.ref l1) ∧ m (Str.ofString "others") = some (.ref l2)
theorem sp_put {h₀ h : Heap} {L : Addr} {m : Str → Option Value} (F : Fr h₀ L h m) (x : Str) (v : Option Value) (e : m x = v) : Fr h₀ L h (fun y => if y = x then v else m y) := by
  have : m = fun y => if y = x then v else m y := by
    funext y
    by_cases hy : y = x
    · rw [if_pos hy, hy, e]
    · rw [if_neg hy]
  exact this ▸ F
theorem sp_canon {h₀ h : Heap} {L : Addr} {m : Str → Option Value} {a1 a2 a3 a4 a5 : Str} {v1 v2 v3 v4 v5 : Option Value} (F : Fr h₀ L h m) (e1 : m a1 = v1) (e2 : m a2 = v2) (e3 : m a3 = v3) (e4 : m a4 = v4) (e5 : m a5 = v5) :
    Fr h₀ L h (fun y => if y = a1 then v1 else if y = a2 then v2 else if y = a3 then v3 else if y = a4 then v4 else if y = a5 then v5 else m y) := by
  have : m = fun y => if y = a1 then v1 else if y = a2 then v2 else if y = a3 then v3 else if y = a4 then v4 else if y = a5 then v5 else m y := by
    funext y
    by_cases h1 : y = a1
    · rw [if_pos h1, h1, e1]
    · by_cases h2 : y = a2
      · rw [if_neg h1, if_pos h2, h2, e2]
      · by_cases h3 : y = a3
        · rw [if_neg h1, if_neg h2, if_pos h3, h3, e3]
        · by_cases h4 : y = a4
          · rw [if_neg h1, if_neg h2, if_neg h3, if_pos h4, h4, e4]
          · by_cases h5 : y = a5
            · rw [if_neg h1, if_neg h2, if_neg h3, if_neg h4, if_pos h5, h5, e5]
            · rw [if_neg h1, if_neg h2, if_neg h3, if_neg h4, if_neg h5]
  exact this ▸ F
theorem sp_range (k : Nat) : rangeKs 0 (k + 1) = rangeKs 0 k ++ [(k : Int)] := by
  simp [rangeKs, List.range_succ]
theorem sp_rlen (k : Nat) : (rangeKs 0 k).length = k := rangeKs_length 0 k
theorem sp_loop {prog : Program} {w : World} {A : Around} {E : Value → Shared → Prop} {env : Env} {target : PySem.Expr} {body orelse : List Stmt} {Q : Flow → Shared → Prop} {h₀ : Heap} {L I l1 l2 : Addr} {v1 v2 : List Value} {word : Str} {seed : Int} {tw ts : Tok} {s₀ : Shared}
    (hstep : ∀ k s', k < word.length → SpSt h₀ L I l1 l2 v1 v2 word seed tw ts s₀ k s' → (∀ s'', SpSt h₀ L I l1 l2 v1 v2 word seed tw ts s₀ (k + 1) s'' → ForRest prog w A E env target (.ref I) body orelse Q s'') → ForRest prog w A E env target (.ref I) body orelse Q s')
    (hend : ∀ s', SpSt h₀ L I l1 l2 v1 v2 word seed tw ts s₀ word.length s' → ForRest prog w A E env target (.ref I) body orelse Q s') : ∀ (r k : Nat) (s' : Shared), k + r = word.length → SpSt h₀ L I l1 l2 v1 v2 word seed tw ts s₀ k s' → ForRest prog w A E env target (.ref I) body orelse Q s' := by
  intro r
  induction r with
  | zero => intro k s' e h; have : k = word.length := by omega
            subst this; exact hend s' h
  | succ r ih => intro k s' e h; exact hstep k s' (by omega) h fun s'' h'' => ih (k + 1) s'' (by omega) h''
section
variable {prog : Program} {w : World} {A : Around} {E : Value → Shared → Prop} {s : Shared}
end
theorem kw19 : True := by
  k_with "call builtin:chr" => ((k_here; first | (with_reducible refine' chr_start ?qc ?_; (case qc => decide)) | (with_reducible refine' chr_other ?_)))
  k_with "binaryOp Add str str" => ((k_here; refine' add_sp ?_ ?qa ?qb; (case qa => exact one_le _); (case qb => first | exact ⟨300, by decide, by assumption⟩ | exact ⟨_, by decide, smallApp (n := 300) (by assumption)⟩ | exact ⟨_, by decide, smallApp (smallApp (n := 300) (by assumption))⟩); intro _ _))
  k_with "exec For Name Call cons nil" => ((refine Halt.out ?_))
  k_with "call type:range" => (((with_reducible show wpAny _ _ (call _ [_]) _ _ _); (refine call_range_1 ?_); (refine Halt.out ?_)))
  exact trivial
theorem spelled_spec (w : World) (p' : Program) (loose : List Str) (word : Str) (seed : Int) (tw ts : Tok) (h0 : 0 ≤ seed) (h1 : seed < 10000000) (hw : word.length ≤ 100) : Pure w p' loose 285 [.str word tw, .int seed ts] (fun t => .str (spellL word seed (rangeKs 0 word.length)) t) := by
  intro dp un gd outer base mean mg mb s Q E hd hu B X T hret
  revert X; k_fill; intro X
  refine wpAny_call ?_
  refine' pure_enter X T ?k6 ?k7 ?k8 ?k9 ?kB ?_ ?c2 ?c3 ?c4 ?c5
  (case k6 => k_is)
  (case k7 => k_is)
  (case k8 => (show dp < _; omega))
  (case k9 => exact BindsTo.of_eq rfl)
  (case kB => exact locs rfl)
  (case c2 => exact rfl)
  (case c3 => exact rfl)
  (case c4 => exact rfl)
  (case c5 => decide)
  intro L' h' F' N'
  try dsimp only
  (repeat' (first | (k_unfold; (try ((first | (with_reducible show PySem.W.StrBack _ _ _) | (with_reducible show PySem.W.LenBack _ _ _) | (with_reducible show PySem.W.BoolBack _ _ _)); dsimp only [PySem.W.StrBack, PySem.W.LenBack, PySem.W.BoolBack]))) | (k_end; wrow_close) | (walk1 <;> ((try dsimp only [List.cons_append, List.nil_append]); (try k_fold))) | (dsimp only; walk1 <;> (try k_fold)) | (leave1; walk_say "STEP leave1"; (try dsimp only); (try k_fold)) | fail "no step"))
  refine ⟨?_⟩
  refine for_start ?_ (fun _ => by with_unfolding_all rfl)
  (repeat' (first | (k_unfold; (try ((first | (with_reducible show PySem.W.StrBack _ _ _) | (with_reducible show PySem.W.LenBack _ _ _) | (with_reducible show PySem.W.BoolBack _ _ _)); dsimp only [PySem.W.StrBack, PySem.W.LenBack, PySem.W.BoolBack]))) | (k_end; wrow_close) | (walk1 <;> ((try dsimp only [List.cons_append, List.nil_append]); (try k_fold))) | (dsimp only; walk1 <;> (try k_fold)) | (leave1; walk_say "STEP leave1"; (try dsimp only); (try k_fold)) | fail "no step"))
  refine ⟨?_⟩
  rename News _ _ _ _ => hN
  rename Fr _ _ _ _ => hF
  refine iter_rangeK (n := (word.length : Int)) (IsRange.new _ _ _ _ _ _ _) rfl (small_one (by decide) (by decide) (by omega) (by omega)) ?hrs (hF.push _) (hN.push hF _) fun I h4 F4 N4 l4 => ?_
  case hrs => rw [PyProof.Rows.rangeSize_nat]; omega
  obtain ⟨l1, l2, m, tt, F5, e1, e2, e3, e4, e5, v1, v2, N5, hi1, hi2⟩ : ∃ l1 l2 m tt, Fr s.heap L' h4 m ∧ m (Str.ofString "text") = some (.str (Str.ofString "") tt) ∧ m (Str.ofString "word") = some (.str word tw) ∧ m (Str.ofString "seed") = some (.int seed ts) ∧ m (Str.ofString "starts") = some (.ref l1) ∧ m (Str.ofString "others") = some (.ref l2) ∧
      ∃ v1 v2, News s.heap L' h4 [(I, itS 0 (word.length : Int) 1), (l2, listOf v2.toArray 0), (l1, listOf v1.toArray 0)] ∧ IntsAre v1 startsI ∧ IntsAre v2 othersI := by
    refine ⟨_, _, _, _, F4, rfl, rfl, rfl, rfl, rfl, _, _, newsSub N4 (List.forall_mem_cons.mpr ⟨by k_mem, List.forall_mem_cons.mpr ⟨by k_mem, List.forall_mem_cons.mpr ⟨by k_mem, List.forall_mem_nil _⟩⟩⟩), ?_, ?_⟩
    · repeat (first | exact .nil | refine .cons _ _ ?_)
    · repeat (first | exact .nil | refine .cons _ _ ?_)
  clear hF hN F4 N4
  have n0 : (word.length : Int) - ((0 : Nat) : Int) = (word.length : Int) := by omega
  refine sp_loop (l1 := l1) (l2 := l2) (v1 := v1) (v2 := v2) (seed := seed) (tw := tw) (ts := ts) (s₀ := s) ?hs ?he word.length 0 _ (by omega) ⟨_, _, m, rfl, F5, (by rw [n0]; exact N5), ⟨tt, e1⟩, e2, e3, e4, e5⟩
  case he =>
    clear F5 N5 e1 e2 e3 e4 e5
    intro s' hst
    obtain ⟨h, tk, m, rfl, F6, N6, ⟨tt, e1⟩, e2, e3, e4, e5⟩ := hst.ex
    have i1 : @Ne Nat l2 I := News.neCls N6 (by k_mem) (by k_mem) (by simp)
    have i2 : @Ne Nat l1 I := News.neCls N6 (by k_mem) (by k_mem) (by simp)
    have F7 := sp_put F6 _ _ e1
    clear F6
    refine for_turn (by first | passes_own | with_unfolding_all passes_own) (fun _ => rfl) ?_
    refine next_rangeE rfl F7 N6 (.head _) (Drop.head (by k_all)) (by omega) fun h' F7 N7 => ?_
    dsimp only [ForNext]
    clear N6 hst
    (repeat' (first | (k_unfold; (try ((first | (with_reducible show PySem.W.StrBack _ _ _) | (with_reducible show PySem.W.LenBack _ _ _) | (with_reducible show PySem.W.BoolBack _ _ _)); dsimp only [PySem.W.StrBack, PySem.W.LenBack, PySem.W.BoolBack]))) | (k_end; wrow_close) | (walk1 <;> ((try dsimp only [List.cons_append, List.nil_append]); (try k_fold))) | (dsimp only; walk1 <;> (try k_fold)) | (leave1; walk_say "STEP leave1"; (try dsimp only); (try k_fold)) | fail "no step"))
    exact hret _ _ _ (Fr.keep F7)
  case hs =>
    clear F5 N5 e1 e2 e3 e4 e5 hret
    intro k s' hk hst ih
    obtain ⟨h, tk, m, rfl, F6, N6, ⟨tt, e1⟩, e2, e3, e4, e5⟩ := hst.ex
    have i1 : @Ne Nat l2 I := News.neCls N6 (by k_mem) (by k_mem) (by simp)
    have i2 : @Ne Nat l1 I := News.neCls N6 (by k_mem) (by k_mem) (by simp)
    have hx : (spellL word seed (rangeKs 0 k)).length ≤ 300 := by
      have z := spell_len word seed (rangeKs 0 k) (Str.ofString "")
      have z0 : (Str.ofString "").length = 0 := by decide
      rw [sp_rlen, z0] at z
      unfold spellL; omega
    have F7 := sp_canon F6 e1 e2 e3 e4 e5
    clear F6
    refine for_turn (by first | passes_own | with_unfolding_all passes_own) (fun _ => rfl) ?_
    refine next_rangeK F7 N6 (UpdF.head (by k_all)) (by omega) (a' := ((k + 1 : Nat) : Int)) (left' := (word.length : Int) - ((k + 1 : Nat) : Int)) (by omega) (by omega) fun h' tk' F7 N7 => ?_
    dsimp only [ForNext]
    clear N6 hst
    have hL1 : ∀ h', News s.heap L' h' [(I, itS ((k + 1 : Nat) : Int) ((word.length : Int) - ((k + 1 : Nat) : Int)) 1), (l2, listOf v2.toArray 0), (l1, listOf v1.toArray 0)] → h'.IsList l1 v1.toArray := fun h' N => ⟨_, (N _ (.tail _ (.tail _ (.head _)))).1, rfl, _, rfl⟩
    have hL2 : ∀ h', News s.heap L' h' [(I, itS ((k + 1 : Nat) : Int) ((word.length : Int) - ((k + 1 : Nat) : Int)) 1), (l2, listOf v2.toArray 0), (l1, listOf v1.toArray 0)] → h'.IsList l2 v2.toArray := fun h' N => ⟨_, (N _ (.tail _ (.head _))).1, rfl, _, rfl⟩
    (repeat' (first | (k_unfold; (try ((first | (with_reducible show PySem.W.StrBack _ _ _) | (with_reducible show PySem.W.LenBack _ _ _) | (with_reducible show PySem.W.BoolBack _ _ _)); dsimp only [PySem.W.StrBack, PySem.W.LenBack, PySem.W.BoolBack]))) | (k_end; wrow_close) | (walk1 <;> ((try dsimp only [List.cons_append, List.nil_append]); (try k_fold))) | (dsimp only; walk1 <;> (try k_fold)) | (leave1; walk_say "STEP leave1"; (try dsimp only); (try k_fold)) | fail "no step"))
    all_goals (try dsimp only [ForPost])
    · rename Fr _ _ _ _ => hF
      rename News _ _ _ _ => hN
      refine ih _ ⟨_, _, _, rfl, hF, hN, ?_, rfl, rfl, rfl, rfl⟩
      rw [sp_range]
      have h5 := st1 (x := spellL word seed (rangeKs 0 k)) rfl (by assumption)
      rw [← h5]
      exact ⟨_, rfl⟩
    · rename Fr _ _ _ _ => hF
      rename News _ _ _ _ => hN
      refine ih _ ⟨_, _, _, rfl, hF, hN, ?_, rfl, rfl, rfl, rfl⟩
      rw [sp_range]
      have h5 := st2 (x := spellL word seed (rangeKs 0 k)) rfl (by assumption) (by assumption)
      rw [← h5]
      exact ⟨_, rfl⟩
    · rename Fr _ _ _ _ => hF
      rename News _ _ _ _ => hN
      refine ih _ ⟨_, _, _, rfl, hF, hN, ?_, rfl, rfl, rfl, rfl⟩
      rw [sp_range]
      have h5 := st3 (x := spellL word seed (rangeKs 0 k)) rfl (by assumption) (by assumption) (by assumption)
      rw [← h5]
      exact ⟨_, rfl⟩
    · rename Fr _ _ _ _ => hF
      rename News _ _ _ _ => hN
      refine ih _ ⟨_, _, _, rfl, hF, hN, ?_, rfl, rfl, rfl, rfl⟩
      rw [sp_range]
      have h5 := st4 (x := spellL word seed (rangeKs 0 k)) rfl (by assumption) (by assumption) (by assumption)
      rw [← h5]
      exact ⟨_, rfl⟩
end
theorem kw20 : True := by
  k_with_none
  k_with "getMethod ref" => ((k_here; k_dflt (refine' method_bi ?k1 ?k2 ?k3 ?k4 ?k5 ?k6 ?k7 ?_; (case k1 => k_in); (case k2 => k_inst); (case k3 => k_is); (case k4 => k_is); (case k5 => k_is); (case k6 => exact T_append); (case k7 => first | assumption | rfl); k_whole)))
  k_with "getMethod ref" => ((k_here; k_dflt (refine' method_fnL ?k1 ?k2 ?k3 ?k4 ?k5 ?k6 ?k7 ?_; (case k1 => k_in); (case k2 => k_inst); (case k3 => k_is); (case k4 => k_is); (case k5 => k_is); (case k6 => k_is); (case k7 => first | assumption | rfl); k_whole)))
  k_with "getMethod ref" => ((k_here; k_dflt (refine' super_methK ?k1 ?k2 ?k3 ?k4 ?k5 ?k6 ?k7 ?k8 ?k9 ?kA ?kB ?kC ?_; (case k1 => k_asm); (case k2 => k_asm); (case k3 => k_asm); (case k4 => k_mem); (case k5 => k_inst); (case k6 => k_is); (case k7 => ks_is); (case k8 => k_is); (case kB => first | exact binds_pop | exact binds_len | exact binds_init); (case k9 => kernel_rfl); (case kA => first | exact slot_md_get.lookup | exact slot_wd_get.lookup); (case kC => decide); intro q' h' F' N' l1; (try k_lt l1))))
  k_with "callWith ref" => ((k_here; k_dflt (refine' callWith_B0 ?k1 ?k2 ?k3 ?_; (case k1 => exact (News.get (by k_asm) (by k_mem))); (case k2 => rfl); (case k3 => rfl); k_whole)))
  k_with "call ref" => ((k_here; k_dflt (refine' len_B ?k1 ?k2 ?k3 ?_; (case k1 => exact (News.get (by k_asm) (by k_mem))); (case k2 => first | exact (News.get (by k_asm) (by k_mem)) | exact Fr.keep (by k_asm) _ _ (by assumption)); (case k3 => omega); k_whole); intro _))
  k_with "call ref" => ((k_here; k_dflt (refine' pop_B ?k1 ?k2 ?k3 ?k4 ?k5 ?k6 ?k7 ?k8 ?k9 ?kA ?kB ?_; (case k1 => k_asm); (case k2 => k_asm); (case k3 => k_in); (case k4 => k_inst); (case k5 => exact (News.get (by k_asm) (by k_mem))); (case k6 => k_is); (case k7 => decide +kernel); (case k8 => k_is); (case k9 => k_is); (case kA => omega); (case kB => k_upd); k_whole); intro h' F' N'))
  k_with "call builtin:list.append" => ((k_here; k_dflt (refine' append_sub ?k1 ?k2 ?k3 ?k4 ?k5 ?k6 ?k7 ?_; (case k1 => k_asm); (case k2 => k_asm); (case k3 => k_asm); (case k4 => k_inst); (case k5 => k_is); (case k6 => k_upd); (case k7 => omega); k_whole; intro h' F' N')))
  k_with "wpAt" => ((dsimp only; walk_at "wpAt"))
  k_with "wpAt" => ((ks_step "eval Call"; (with_unfolding_all refine ks_wpAt_MethodCall (pl := (do return (← importBound _ _).getD true)) ?_)))
  k_with "setItem ref ref" => ((k_here; k_dflt (refine' setSlice_sub ?k1 ?k2 ?k3 ?k4 ?k5 ?k6 ?k7 ?k8 ?k9 ?kA ?kB ?kC ?kD ?kE ?_; (case k1 => k_asm); (case k2 => k_asm); (case k3 => k_asm); (case k4 => k_inst); (case k5 => k_is); (case k6 => k_is); (case k7 => k_is); (case kA => first | exact News.get (by k_asm) (by k_mem) | exact Fr.keep (by k_asm) _ _ (by assumption)); (case k8 => first | omega | k_ne); (case k9 => first | exact PySem.IsPart.none | exact PySem.IsPart.int _ _); (case kB => first | exact cut_all _ _ | exact cut_from _ _ (by omega)); (case kC => k_upd); (case kD => first | omega | (simp; done) | (simp; omega)); (case kE => first | omega | (simp; done) | (simp; omega)); k_whole); intro h' F' N'))
  k_with "setAttr ref" => ((k_here; k_dflt (refine' set_dictL ?k1 ?k2 ?k3 ?k4 ?k5 ?k6 ?k7 ?k8 ?k9 ?kA ?kB ?kC ?kD ?kE ?_; (case k1 => k_asm); (case k2 => k_asm); (case k3 => k_asm); (case k4 => k_inst); (case k5 => exact rfl); (case k6 => k_is); (case k7 => k_is); (case k8 => rfl); (case k9 => k_is); (case kA => rfl); (case kB => first | k_get | exact rfl); (case kC => first | k_put | exact rfl); (case kD => k_upd); (case kE => exact Nat.le_of_ble_eq_true rfl); k_whole; intro h' F' N')))
  k_with "subscriptTail Name Slice ref ref" => ((k_here; (with_reducible show wpAny _ _ (subscriptTail _ (PySem.Expr.Slice _ _ none _) (Value.ref _) (Value.ref _)) _ _ _); k_dflt (refine' slice_sub ?k1 ?k2 ?k3 ?k4 ?k5 ?k6 ?k7 ?k8 ?k9 ?kA ?_ ?kB ?kC; (case k1 => k_asm); (case k2 => k_asm); (case k3 => k_asm); (case k4 => k_inst); (case k5 => k_is); (case k6 => k_is); (case k7 => k_is); (case k8 => first | exact PySem.IsPart.none | exact PySem.IsPart.int _ _); (case k9 => first | exact PySem.IsPart.none | exact PySem.IsPart.int _ _); (case kA => exact pick_from _ _ (by omega)); (case kB => with_unfolding_all rfl); (case kC => omega); k_whole); intro D' h' F' N' l1; (try k_lt l1)))
  k_with "wpAt" => ((ks_step "attributeBase Call"; k_here; k_dflt (refine node_sup (by k_asm) (by k_asm) (by k_asm) (by k_asm) (by k_is) (by rfl) (by rfl) (by k_inst) (by k_is) (by rfl) (by first | rfl | decide +kernel) (by k_is) (by k_is) (by k_is) (by k_is) (by decide) (by rfl) (by rfl) (by rfl) (by rfl) (by decide +kernel) (by first | boot_by_name | rfl | kernel_rfl) ?_; intro so' h' F' N' l1; (try k_lt l1))))
  k_with "call ref" => ((k_here; (with_reducible show wpAny _ _ (call (Value.ref 175) _) _ _ _); (refine' pureH_callK (pc_spec _ _ _ _ _ _ _ _ _ _ ?hz ?hkk) ?kB ?kF ?kX ?kT ?kN ?kA ?kf ?kk ?kd ?ku ?kp ?_; (case kA => exact rfl); (case kf => exact rfl); (case kk => exact rfl); (case kp => exact ⟨(by first | exact News.get (by k_asm) (by k_mem) | exact Fr.keep (by k_asm) _ _ (by assumption)), (by first | exact News.get (by k_asm) (by k_mem) | exact Fr.keep (by k_asm) _ _ (by assumption))⟩); (case hkk => first | (simp only [List.length_append, List.length_cons, List.length_nil, Nat.zero_add, Nat.reduceAdd]; rfl) | rfl); (case hz => first | omega | (simp; omega) | simp); (case kB => assumption); (case kF => k_asm); (case kX => k_asm); (case kT => k_asm); (case kN => k_asm); (case kd => ((try dsimp only [Ar, Around.deeper, Around.in1]); omega)); (case ku => ((try dsimp only [Ar, Around.deeper, Around.in1]); omega)); intro v' h' tk' hv' F' N' e'; obtain ⟨_, e9⟩ := hv'; subst e9)))
  exact trivial
section
/-- a letter: f for true, i for false -/
noncomputable def ltr (b : Bool) : Str := match b with | true => Str.ofString "f" | false => Str.ofString "i"
theorem ltr_len (b : Bool) : (ltr b).length = 1 := by cases b <;> decide
/-- the last place behind an i at which a row is cut -/
noncomputable def lastI : Nat → List Bool → Option Nat
  | 0, _ => none
  | i + 1, xs => if xs[i]? == some false then some (i + 1) else lastI i xs
noncomputable def stepL (xs : List Bool) : Option (List Bool) × List Bool := match lastI (xs.length - 1) xs with
  | some i => (some (xs.take i), xs.drop i)
  | none => (none, xs)
noncomputable def stepR (w0 : Nat) (row : List Bool) (c : Bool) : Option (List Bool) × List Bool := if (row ++ [c]).length ≤ w0 then (none, row ++ [c]) else stepL (row ++ [c])
theorem stepR_short {w0 : Nat} {row : List Bool} {c : Bool} (h : (row ++ [c]).length ≤ w0) : stepR w0 row c = (none, row ++ [c]) := if_pos h
theorem stepR_long {w0 : Nat} {row : List Bool} {c : Bool} (h : ¬ (row ++ [c]).length ≤ w0) : stepR w0 row c = stepL (row ++ [c]) := if_neg h
noncomputable def lineS (bs : List Bool) : Str := Txt.join (Str.ofString "") (bs.map ltr)
theorem line_fi : Str.ofString "fi" = lineS [true, false] := by kernel_rfl
theorem line_ffi : Str.ofString "ffi" = lineS [true, true, false] := by kernel_rfl
noncomputable def outR (rows : List Value) (o : Option (List Bool)) (t : Tok) : List Value := match o with | none => rows | some l => rows ++ [.str (lineS l) t]
noncomputable def AppPost (w : World) (w0 : Nat) (a d ll : Addr) (k : Tok) (rows its : List Value) (row : List Bool) (c : Bool) (v : Value) (led' : List (Addr × Obj)) : Prop :=
  v = .none ∧ ∃ (ex : List (Addr × Obj)) (o : Option (List Bool)) (row' : List Bool) (t : Tok) (nl' : Nat) (its' : List Value) (n' : Nat) (u' : Tok) (ps1' ps2' : Array Value),
    led' = ex ++ [(ll, listOf (outR rows o t).toArray nl'), (a, accO d its' n'), (d, accD w k u'), (140, tabO ps1'), (147, tabO ps2')] ∧ stepR w0 row c = (o, row') ∧ TriplesOk ps1'.toList ∧ TriplesOk ps2'.toList ∧
    ∀ h, Cells h its (row.map ltr) → (∀ p ∈ led', h.get? p.1 = some p.2) → Cells h its' (row'.map ltr)
structure FmtAt (w : World) (w0 : Nat) (fa a d ll : Addr) (h : Heap) : Prop where
  ex : ∃ fd k1 k2 k3 k4 k5 k6 u1 u2 u3 u4, h.get? fa = some (instObj 94 fd) ∧ h.get? fd = some (fmtD w w0 (Str.ofString " ") (Str.ofString "i") a ll k1 k2 k3 k4 k5 k6 u1 u2 u3 u4)
noncomputable abbrev AppSpec (w : World) (p' : Program) (loose : List Str) (row : List Bool) (c : Bool) : Prop :=
  ∀ (w0 : Nat) (fa a d ll : Addr) (k u tx ty : Tok) (rows its : List Value) (nl n : Nat) (ps1 ps2 : Array Value), w0 ≤ 3 → TriplesOk ps1.toList → TriplesOk ps2.toList → rows.length ≤ 100 →
    Mut w p' loose 12 70 91 [.ref fa, .str (Str.ofString "") tx, .str (ltr c) ty] (fun h => FmtAt w w0 fa a d ll h ∧ Cells h its (row.map ltr))
      [(ll, listOf rows.toArray nl), (a, accO d its n), (d, accD w k u), (140, tabO ps1), (147, tabO ps2)] (AppPost w w0 a d ll k rows its row c)
end
section
local macro_rules | `(tactic| k_offL) => `(tactic| first | exact Cells.nil | (refine' Cells.cons ?a ?b; (case a => first | exact News.get (by k_asm) (by k_mem) | exact Fr.keep (by k_asm) _ _ (by assumption)); (case b => k_offL)))
local macro_rules | `(tactic| k_inst) => `(tactic| exact inst_pl (Fr.keep (by k_asm) _ _ (by assumption)) (Fr.keep (by k_asm) _ _ (by assumption)))
local macro_rules | `(tactic| walk_at "pyIter str") => `(tactic| (k_here; (refine' iter_asciiK ?k1 ?k2 ?k3 ?_; (case k1 => first | rfl | decide +kernel); (case k2 => k_asm); (case k3 => k_asm); intro I' h' F' N' l1; (try k_lt l1))))
local macro_rules | `(tactic| k_upd) => `(tactic| first | (refine' Drop.head ?a; (case a => k_all)) | (refine' Drop.tail ?a ?b; (case a => k_ne); (case b => k_upd)))
local macro_rules | `(tactic| walk_at "pyIter ref") => `(tactic| (k_here; (refine iter_rangeK (by assumption) (by (first | exact (show _ = (0 : Int) by decide) | exact (show _ = (1 : Int) by decide) | exact (show _ = (2 : Int) by decide) | exact (show _ = (3 : Int) by decide) | exact (show _ = (4 : Int) by decide) | exact (show _ = (-1 : Int) by decide))) (by decide) (by (first | exact (show _ = (0 : Int) by decide) | exact (show _ = (1 : Int) by decide) | exact (show _ = (2 : Int) by decide) | exact (show _ = (3 : Int) by decide) | exact (show _ = (4 : Int) by decide) | exact (show _ = (-1 : Int) by decide))) (by k_asm) (by k_asm) ?_; intro I' h' F' N' l1; (try k_lt l1))))
theorem kw21 : True := by
  k_with "call ref" => ((k_here; (try dsimp only [List.cons_append, List.nil_append]); (with_reducible show wpAny _ _ (call (Value.ref 122) _) _ _ _); (refine' push_K ?kB ?kF ?kX ?kT ?kN ?kA ?kf ?kk ?kd ?ku ?bm ?gs ?kU ?k1 ?k2 ?_; (case kA => exact rfl); (case kf => exact rfl); (case kk => exact rfl); (case kB => assumption); (case kF => k_asm); (case kX => k_asm); (case kT => k_asm); (case kN => k_asm); (case bm => assumption); (case gs => first | assumption | (dsimp only; assumption)); (case kd => ((try dsimp only [Ar, Around.deeper, Around.in1]); omega)); (case ku => ((try dsimp only [Ar, Around.deeper, Around.in1]); omega)); (case kU => k_updF); (case k1 => first | exact News.get (by k_asm) (by k_mem) | exact Fr.keep (by k_asm) _ _ (by assumption)); (case k2 => first | omega | (simp; done) | (simp; omega)); intro t' n' mm' h' gs' tk' F' N' hb' ne'; (try simp only [List.nil_append, List.cons_append] at N'); (simp only [List.forall_mem_cons, List.not_mem_nil, false_implies, implies_true, and_true, ne_eq, not_true_eq_false, not_false_eq_true, forall_const] at ne'; (try dsimp only at ne')))))
  k_with "call ref" => ((k_here; (try dsimp only [List.cons_append, List.nil_append]); (with_reducible show wpAny _ _ (call (Value.ref 138) _) _ _ _); (refine pop_K (by assumption) (by k_asm) (by k_asm) (by k_asm) (by k_asm) (by exact rfl) (by exact rfl) (by exact rfl) (by k_room) (by k_room) (by assumption) (by first | assumption | (dsimp only; assumption)) (by k_updF) (by first | exact sp1 _ | exact sp2 _ _ | exact sp3 _ _ _ | exact sp4 _ _ _ _) (by first | exact News.get (by k_asm) (by k_mem) | exact Fr.keep (by k_asm) _ _ (by assumption)) (by first | omega | (simp; done) | (simp; omega)) ?_; intro n' h' gs' tk' F' N' hb')))
  k_with "call ref" => ((k_here; (try dsimp only [List.cons_append, List.nil_append]); (with_reducible show wpAny _ _ (call (Value.ref 130) _) _ _ _); (refine' popfrom_K ?kB ?kF ?kX ?kT ?kN ?kA ?kf ?kk ?kd ?ku ?bm ?gs ?kU ?k1 ?k2 ?k3 ?_; (case kA => exact rfl); (case kf => exact rfl); (case kk => exact rfl); (case kB => assumption); (case kF => k_asm); (case kX => k_asm); (case kT => k_asm); (case kN => k_asm); (case bm => assumption); (case gs => first | assumption | (dsimp only; assumption)); (case kd => ((try dsimp only [Ar, Around.deeper, Around.in1]); omega)); (case ku => ((try dsimp only [Ar, Around.deeper, Around.in1]); omega)); (case kU => k_updF); (case k1 => first | exact News.get (by k_asm) (by k_mem) | exact Fr.keep (by k_asm) _ _ (by assumption)); (case k2 => first | omega | (simp; done) | (simp; omega)); (case k3 => first | omega | (simp; done) | (simp; omega)); intro l' n' h' gs' tk' F' N' hb' ne'; (try simp only [List.drop, List.take] at N'); (simp only [List.forall_mem_cons, List.not_mem_nil, false_implies, implies_true, and_true, ne_eq, not_true_eq_false, not_false_eq_true, forall_const] at ne'; (try dsimp only at ne')))))
  k_with "call ref" => ((k_here; (try dsimp only [List.cons_append, List.nil_append]); (with_reducible show wpAny _ _ (call (Value.ref 160) _) _ _ _); (refine' reset_K ?kB ?kF ?kX ?kT ?kN ?kA ?kf ?kk ?kd ?ku ?bm ?gs ?k1 ?k2 ?k3 ?k4 ?kU ?kV ?k5 ?_; (case kA => exact rfl); (case kf => exact rfl); (case kk => exact rfl); (case kB => assumption); (case kF => k_asm); (case kX => k_asm); (case kT => k_asm); (case kN => k_asm); (case bm => assumption); (case gs => first | assumption | (dsimp only; assumption)); (case kd => ((try dsimp only [Ar, Around.deeper, Around.in1]); omega)); (case ku => ((try dsimp only [Ar, Around.deeper, Around.in1]); omega)); (case k1 => first | exact News.get (by k_asm) (by k_mem) | exact Fr.keep (by k_asm) _ _ (by assumption)); (case kU => k_upd); (case kV => k_updF); (case k2 => first | omega | (simp; done) | (simp; omega)); (case k3 => first | omega | (simp; done) | (simp; omega)); (case k4 => (first | assumption | k_ne)); (case k5 => k_mem); intro u' h' gs' tk' F' N' hb')))
  k_with "call ref" => ((k_here; (try dsimp only [List.cons_append, List.nil_append]); (with_reducible show wpAny _ _ (call (Value.ref 160) _) _ _ _); (refine' reset0_K ?kB ?kF ?kX ?kT ?kN ?kA ?kf ?kk ?kd ?ku ?bm ?gs ?k2 ?k4 ?kU ?kV ?_; (case kA => exact rfl); (case kf => exact rfl); (case kk => exact rfl); (case kB => assumption); (case kF => k_asm); (case kX => k_asm); (case kT => k_asm); (case kN => k_asm); (case bm => assumption); (case gs => first | assumption | (dsimp only; assumption)); (case kd => ((try dsimp only [Ar, Around.deeper, Around.in1]); omega)); (case ku => ((try dsimp only [Ar, Around.deeper, Around.in1]); omega)); (case kU => k_upd); (case kV => k_updF); (case k2 => first | omega | (simp; done) | (simp; omega)); (case k4 => (first | assumption | k_ne)); intro u' h' gs' tk' F' N' hb')))
  k_with "call ref" => ((k_here; (try dsimp only [List.cons_append, List.nil_append]); (with_reducible show wpAny _ _ (call (Value.ref 145) _) _ _ _); (refine lenA_K (by assumption) (by k_asm) (by k_asm) (by k_asm) (by k_asm) (by exact rfl) (by exact rfl) (by exact rfl) (by k_room) (by k_room) (by assumption) (by first | assumption | (dsimp only; assumption)) (by k_updF) (by first | exact News.get (by k_asm) (by k_mem) | exact Fr.keep (by k_asm) _ _ (by assumption)) (by first | exact News.get (by k_asm) (by k_mem) | exact Fr.keep (by k_asm) _ _ (by assumption)) (by k_offL) (by first | omega | (simp; done) | (simp; omega)) (by first | (simp only [List.length_append, List.length_cons, List.length_nil, Nat.zero_add, Nat.reduceAdd]; rfl) | rfl) (by first | decide | (simp only [List.forall_mem_cons, ltr_len, List.not_mem_nil, false_implies, implies_true, and_true, true_and]; done) | (simp only [List.forall_mem_cons, ltr_len, List.not_mem_nil, false_implies, implies_true, and_true, true_and]; decide)) (by assumption) ?_; intro t' ps' h' gs' tk' hp' F' N' hb'; (try dsimp only [LenBack]); (try refine ⟨⟨by omega, by omega⟩, ?_⟩))))
  k_with "call ref" => ((k_here; (try dsimp only [List.cons_append, List.nil_append]); (with_reducible show wpAny _ _ (call (Value.ref 152) _) _ _ _); (refine strA_K (by assumption) (by k_asm) (by k_asm) (by k_asm) (by k_asm) (by exact rfl) (by exact rfl) (by exact rfl) (by k_room) (by k_room) (by assumption) (by first | assumption | (dsimp only; assumption)) (by k_updF) (by first | exact News.get (by k_asm) (by k_mem) | exact Fr.keep (by k_asm) _ _ (by assumption)) (by first | exact News.get (by k_asm) (by k_mem) | exact Fr.keep (by k_asm) _ _ (by assumption)) (by k_offL) (by first | omega | (simp; done) | (simp; omega)) (by first | decide | (simp only [List.forall_mem_cons, ltr_len, List.not_mem_nil, false_implies, implies_true, and_true, true_and]; done) | (simp only [List.forall_mem_cons, ltr_len, List.not_mem_nil, false_implies, implies_true, and_true, true_and]; decide)) (by assumption) ?_; intro t' ps' h' gs' tk' hp' F' N' hb'; (try dsimp only [StrBack]))))
  k_with "exec For Name Attribute cons cons" => ((k_here; (with_unfolding_all refine' for_start ?_ ?hs; (case hs => (intro _; with_unfolding_all rfl)); k_whole)))
  k_with "exec For Name Call cons cons" => ((k_here; (with_unfolding_all refine' for_start ?_ ?hs; (case hs => (intro _; with_unfolding_all rfl)); k_whole)))
  k_with "ForRest" => ((k_dflt (refine' for_turn ?hE ?ht ?_; (case hE => first | passes_own | with_unfolding_all passes_own); (case ht => (intro _; rfl)))))
  k_with "ForNext" => ((dsimp only [ForNext]))
  k_with "ForPost" => ((dsimp only [ForPost]))
  k_with "pyNext ref" => ((k_here; (refine next_asciiE (by exact rfl) (by k_asm) (by k_asm) (by k_mem) (by first | rfl | assumption) (by first | rfl | assumption) (by rfl) (by k_upd) ?_; intro h' F' N')))
  k_with "pyNext ref" => ((k_here; (refine next_asciiK (by k_asm) (by k_asm) (by k_updF) (by first | rfl | assumption) (by first | rfl | assumption) (by rfl) (by first | rfl | kernel_rfl) ?_; intro h' tk' oI cI dI F' N')))
  k_with "pyNext ref" => ((k_here; (refine next_rangeE (by exact rfl) (by k_asm) (by k_asm) (by k_mem) (by k_upd) (by first | decide | omega) ?_; intro h' F' N')))
  k_with "pyNext ref" => ((k_here; (refine next_rangeK (by k_asm) (by k_asm) (by k_updF) (by first | decide | omega) (by (first | exact (show _ = (0 : Int) by decide) | exact (show _ = (1 : Int) by decide) | exact (show _ = (2 : Int) by decide) | exact (show _ = (3 : Int) by decide) | exact (show _ = (4 : Int) by decide) | exact (show _ = (-1 : Int) by decide))) (by (first | exact (show _ = (0 : Int) by decide) | exact (show _ = (1 : Int) by decide) | exact (show _ = (2 : Int) by decide) | exact (show _ = (3 : Int) by decide) | exact (show _ = (4 : Int) by decide) | exact (show _ = (-1 : Int) by decide))) ?_; intro h' tk' F' N')))
  k_with "getAttr ref" => ((k_here; k_dflt (refine' get_valueL ?k1 ?k2 ?k3 ?k4 ?k5 ?k6 ?k7 ?_; (case k1 => k_in); (case k2 => k_inst); (case k3 => k_is); (case k4 => k_is); (case k5 => k_is); (case k6 => exact findObj_own (by k_is) (by k_is) (by k_is) (by first | k_get | exact rfl)); (case k7 => rfl); k_whole)))
  k_with "subscriptTail Name BinOp ref int" => ((k_here; (refine tailInt_sub (by k_in) (by k_inst) (by k_is) (by k_is) (by k_is) (by decide) (by decide) (by rfl) ?_ (by with_unfolding_all rfl)); k_whole))
  k_with "subscriptTail Name Constant ref int" => ((k_here; (refine item_tupleT ⟨_, Fr.keep (by k_asm) _ _ (by assumption), rfl, _, rfl⟩ (by decide) (by decide) (by rfl) (by rfl) ?_); k_whole))
  k_with "call type:str" => ((k_here; (with_reducible show wpAny _ _ (call (Value.type "str") [Value.ref _]) _ _ _); (refine kso_call (by (dsimp only [Ar, Around.deeper, Around.in1]; omega)) (by k_in) (by k_inst) (by k_is) (by k_is) ?_); k_whole))
  exact trivial
section
section
theorem app_n_c (w : World) (p' : Program) (loose : List Str) (c : Bool) : AppSpec w p' loose [] c := by
  intro w0 fa a d ll k u tx ty rows its nl n ps1 ps2 hw0 hps1 hps2 hz dp un gd outer base g mean mg mb s Q E hd hu B X T Ld ⟨hfm, hcl⟩ BM hgs hret
  obtain ⟨fd, k1, k2, k3, k4, k5, k6, u1, u2, u3, u4, hfa, hfd⟩ := hfm
  simp only [List.map_cons, List.map_nil, ltr] at hcl
  cases hcl
  revert X; k_fill; intro X
  refine wpAny_call ?_
  refine' mut_enter X T Ld ?k6 ?k7 ?k8 ?k9 ?kB ?_ ?c2 ?c3 ?c4 ?c5
  (case k6 => k_is)
  (case k7 => k_is)
  (case k8 => (show dp < _; omega))
  (case k9 => first | exact BindsTo.of_eq rfl | exact binds_K (X.keeps Ld.keep) rfl (by k_is) rfl rfl rfl)
  (case kB => exact locs rfl)
  (case c2 => exact rfl)
  (case c3 => exact rfl)
  (case c4 => exact rfl)
  (case c5 => decide)
  intro L' h' F' N'
  try dsimp only
  have n1 : @Ne Nat ll a := News.neCls N' (by k_mem) (by k_mem) (by simp)
  have n2 : @Ne Nat ll d := News.neCls N' (by k_mem) (by k_mem) (by simp)
  have n3 : @Ne Nat ll 140 := News.neCls N' (by k_mem) (by k_mem) (by simp)
  have n4 : @Ne Nat ll 147 := News.neCls N' (by k_mem) (by k_mem) (by simp)
  have n5 : @Ne Nat a d := News.neCls N' (by k_mem) (by k_mem) (by simp)
  have n6 : @Ne Nat a 140 := News.neCls N' (by k_mem) (by k_mem) (by simp)
  have n7 : @Ne Nat a 147 := News.neCls N' (by k_mem) (by k_mem) (by simp)
  have n8 : @Ne Nat d 140 := News.neCls N' (by k_mem) (by k_mem) (by simp)
  have n9 : @Ne Nat d 147 := News.neCls N' (by k_mem) (by k_mem) (by simp)
  k_steps
  all_goals (try dsimp only)
  all_goals first | (exfalso; omega) | skip
  all_goals (refine hret _ _ _ _ _ ?_ (Led.of_frame (by assumption) (by assumption)) (by first | assumption | (dsimp only; assumption)))
  all_goals (try simp only [List.push_toArray, line_fi, line_ffi])
  all_goals first | exact ⟨rfl, [_], none, [c], s.toks, _, _, _, _, _, _, rfl, (by first | exact stepR_short (by simp only [List.length_append, List.length_cons, List.length_nil]; omega) | exact (stepR_long (by simp only [List.length_append, List.length_cons, List.length_nil]; omega)).trans (by rfl)), (by assumption), (by assumption), (fun h hc hl => by (simp only [List.map_cons, List.map_nil, ltr] at hc ⊢); cases hc; (first | exact Cells.nil | exact (Cells.cons (by first | assumption | exact hl _ (by k_mem)) Cells.nil) | exact (Cells.cons (by first | assumption | exact hl _ (by k_mem)) (Cells.cons (by first | assumption | exact hl _ (by k_mem)) Cells.nil)) | exact (Cells.cons (by first | assumption | exact hl _ (by k_mem)) (Cells.cons (by first | assumption | exact hl _ (by k_mem)) (Cells.cons (by first | assumption | exact hl _ (by k_mem)) Cells.nil))) | exact (Cells.cons (by first | assumption | exact hl _ (by k_mem)) (Cells.cons (by first | assumption | exact hl _ (by k_mem)) (Cells.cons (by first | assumption | exact hl _ (by k_mem)) (Cells.cons (by first | assumption | exact hl _ (by k_mem)) Cells.nil))))))⟩ | exact ⟨rfl, [_, _], none, [c], s.toks, _, _, _, _, _, _, rfl, (by first | exact stepR_short (by simp only [List.length_append, List.length_cons, List.length_nil]; omega) | exact (stepR_long (by simp only [List.length_append, List.length_cons, List.length_nil]; omega)).trans (by rfl)), (by assumption), (by assumption), (fun h hc hl => by (simp only [List.map_cons, List.map_nil, ltr] at hc ⊢); cases hc; (first | exact Cells.nil | exact (Cells.cons (by first | assumption | exact hl _ (by k_mem)) Cells.nil) | exact (Cells.cons (by first | assumption | exact hl _ (by k_mem)) (Cells.cons (by first | assumption | exact hl _ (by k_mem)) Cells.nil)) | exact (Cells.cons (by first | assumption | exact hl _ (by k_mem)) (Cells.cons (by first | assumption | exact hl _ (by k_mem)) (Cells.cons (by first | assumption | exact hl _ (by k_mem)) Cells.nil))) | exact (Cells.cons (by first | assumption | exact hl _ (by k_mem)) (Cells.cons (by first | assumption | exact hl _ (by k_mem)) (Cells.cons (by first | assumption | exact hl _ (by k_mem)) (Cells.cons (by first | assumption | exact hl _ (by k_mem)) Cells.nil))))))⟩
end
end
section
section
theorem app_f_c (w : World) (p' : Program) (loose : List Str) (c : Bool) : AppSpec w p' loose [true] c := by
  intro w0 fa a d ll k u tx ty rows its nl n ps1 ps2 hw0 hps1 hps2 hz dp un gd outer base g mean mg mb s Q E hd hu B X T Ld ⟨hfm, hcl⟩ BM hgs hret
  obtain ⟨fd, k1, k2, k3, k4, k5, k6, u1, u2, u3, u4, hfa, hfd⟩ := hfm
  simp only [List.map_cons, List.map_nil, ltr] at hcl
  obtain _ | ⟨et0, hcl⟩ := hcl
  cases hcl
  revert X; k_fill; intro X
  refine wpAny_call ?_
  refine' mut_enter X T Ld ?k6 ?k7 ?k8 ?k9 ?kB ?_ ?c2 ?c3 ?c4 ?c5
  (case k6 => k_is)
  (case k7 => k_is)
  (case k8 => (show dp < _; omega))
  (case k9 => first | exact BindsTo.of_eq rfl | exact binds_K (X.keeps Ld.keep) rfl (by k_is) rfl rfl rfl)
  (case kB => exact locs rfl)
  (case c2 => exact rfl)
  (case c3 => exact rfl)
  (case c4 => exact rfl)
  (case c5 => decide)
  intro L' h' F' N'
  try dsimp only
  have n1 : @Ne Nat ll a := News.neCls N' (by k_mem) (by k_mem) (by simp)
  have n2 : @Ne Nat ll d := News.neCls N' (by k_mem) (by k_mem) (by simp)
  have n3 : @Ne Nat ll 140 := News.neCls N' (by k_mem) (by k_mem) (by simp)
  have n4 : @Ne Nat ll 147 := News.neCls N' (by k_mem) (by k_mem) (by simp)
  have n5 : @Ne Nat a d := News.neCls N' (by k_mem) (by k_mem) (by simp)
  have n6 : @Ne Nat a 140 := News.neCls N' (by k_mem) (by k_mem) (by simp)
  have n7 : @Ne Nat a 147 := News.neCls N' (by k_mem) (by k_mem) (by simp)
  have n8 : @Ne Nat d 140 := News.neCls N' (by k_mem) (by k_mem) (by simp)
  have n9 : @Ne Nat d 147 := News.neCls N' (by k_mem) (by k_mem) (by simp)
  k_steps
  all_goals (try dsimp only)
  all_goals first | (exfalso; omega) | skip
  all_goals (refine hret _ _ _ _ _ ?_ (Led.of_frame (by assumption) (by assumption)) (by first | assumption | (dsimp only; assumption)))
  all_goals (try simp only [List.push_toArray, line_fi, line_ffi])
  all_goals first | exact ⟨rfl, [_], none, [true, c], s.toks, _, _, _, _, _, _, rfl, (by first | exact stepR_short (by simp only [List.length_append, List.length_cons, List.length_nil]; omega) | exact (stepR_long (by simp only [List.length_append, List.length_cons, List.length_nil]; omega)).trans (by rfl)), (by assumption), (by assumption), (fun h hc hl => by (simp only [List.map_cons, List.map_nil, ltr] at hc ⊢); obtain _ | ⟨eq0, hc⟩ := hc; cases hc; (first | exact Cells.nil | exact (Cells.cons (by first | assumption | exact hl _ (by k_mem)) Cells.nil) | exact (Cells.cons (by first | assumption | exact hl _ (by k_mem)) (Cells.cons (by first | assumption | exact hl _ (by k_mem)) Cells.nil)) | exact (Cells.cons (by first | assumption | exact hl _ (by k_mem)) (Cells.cons (by first | assumption | exact hl _ (by k_mem)) (Cells.cons (by first | assumption | exact hl _ (by k_mem)) Cells.nil))) | exact (Cells.cons (by first | assumption | exact hl _ (by k_mem)) (Cells.cons (by first | assumption | exact hl _ (by k_mem)) (Cells.cons (by first | assumption | exact hl _ (by k_mem)) (Cells.cons (by first | assumption | exact hl _ (by k_mem)) Cells.nil))))))⟩ | exact ⟨rfl, [_, _], none, [true, c], s.toks, _, _, _, _, _, _, rfl, (by first | exact stepR_short (by simp only [List.length_append, List.length_cons, List.length_nil]; omega) | exact (stepR_long (by simp only [List.length_append, List.length_cons, List.length_nil]; omega)).trans (by rfl)), (by assumption), (by assumption), (fun h hc hl => by (simp only [List.map_cons, List.map_nil, ltr] at hc ⊢); obtain _ | ⟨eq0, hc⟩ := hc; cases hc; (first | exact Cells.nil | exact (Cells.cons (by first | assumption | exact hl _ (by k_mem)) Cells.nil) | exact (Cells.cons (by first | assumption | exact hl _ (by k_mem)) (Cells.cons (by first | assumption | exact hl _ (by k_mem)) Cells.nil)) | exact (Cells.cons (by first | assumption | exact hl _ (by k_mem)) (Cells.cons (by first | assumption | exact hl _ (by k_mem)) (Cells.cons (by first | assumption | exact hl _ (by k_mem)) Cells.nil))) | exact (Cells.cons (by first | assumption | exact hl _ (by k_mem)) (Cells.cons (by first | assumption | exact hl _ (by k_mem)) (Cells.cons (by first | assumption | exact hl _ (by k_mem)) (Cells.cons (by first | assumption | exact hl _ (by k_mem)) Cells.nil))))))⟩
end
end
section
section
theorem app_ff_c (w : World) (p' : Program) (loose : List Str) (c : Bool) : AppSpec w p' loose [true, true] c := by
  intro w0 fa a d ll k u tx ty rows its nl n ps1 ps2 hw0 hps1 hps2 hz dp un gd outer base g mean mg mb s Q E hd hu B X T Ld ⟨hfm, hcl⟩ BM hgs hret
  obtain ⟨fd, k1, k2, k3, k4, k5, k6, u1, u2, u3, u4, hfa, hfd⟩ := hfm
  simp only [List.map_cons, List.map_nil, ltr] at hcl
  obtain _ | ⟨et0, hcl⟩ := hcl
  obtain _ | ⟨et1, hcl⟩ := hcl
  cases hcl
  revert X; k_fill; intro X
  refine wpAny_call ?_
  refine' mut_enter X T Ld ?k6 ?k7 ?k8 ?k9 ?kB ?_ ?c2 ?c3 ?c4 ?c5
  (case k6 => k_is)
  (case k7 => k_is)
  (case k8 => (show dp < _; omega))
  (case k9 => first | exact BindsTo.of_eq rfl | exact binds_K (X.keeps Ld.keep) rfl (by k_is) rfl rfl rfl)
  (case kB => exact locs rfl)
  (case c2 => exact rfl)
  (case c3 => exact rfl)
  (case c4 => exact rfl)
  (case c5 => decide)
  intro L' h' F' N'
  try dsimp only
  have n1 : @Ne Nat ll a := News.neCls N' (by k_mem) (by k_mem) (by simp)
  have n2 : @Ne Nat ll d := News.neCls N' (by k_mem) (by k_mem) (by simp)
  have n3 : @Ne Nat ll 140 := News.neCls N' (by k_mem) (by k_mem) (by simp)
  have n4 : @Ne Nat ll 147 := News.neCls N' (by k_mem) (by k_mem) (by simp)
  have n5 : @Ne Nat a d := News.neCls N' (by k_mem) (by k_mem) (by simp)
  have n6 : @Ne Nat a 140 := News.neCls N' (by k_mem) (by k_mem) (by simp)
  have n7 : @Ne Nat a 147 := News.neCls N' (by k_mem) (by k_mem) (by simp)
  have n8 : @Ne Nat d 140 := News.neCls N' (by k_mem) (by k_mem) (by simp)
  have n9 : @Ne Nat d 147 := News.neCls N' (by k_mem) (by k_mem) (by simp)
  k_steps
  all_goals (try dsimp only)
  all_goals first | (exfalso; omega) | skip
  all_goals (refine hret _ _ _ _ _ ?_ (Led.of_frame (by assumption) (by assumption)) (by first | assumption | (dsimp only; assumption)))
  all_goals (try simp only [List.push_toArray, line_fi, line_ffi])
  all_goals first | exact ⟨rfl, [_], none, [true, true, c], s.toks, _, _, _, _, _, _, rfl, (by first | exact stepR_short (by simp only [List.length_append, List.length_cons, List.length_nil]; omega) | exact (stepR_long (by simp only [List.length_append, List.length_cons, List.length_nil]; omega)).trans (by rfl)), (by assumption), (by assumption), (fun h hc hl => by (simp only [List.map_cons, List.map_nil, ltr] at hc ⊢); obtain _ | ⟨eq0, hc⟩ := hc; obtain _ | ⟨eq1, hc⟩ := hc; cases hc; (first | exact Cells.nil | exact (Cells.cons (by first | assumption | exact hl _ (by k_mem)) Cells.nil) | exact (Cells.cons (by first | assumption | exact hl _ (by k_mem)) (Cells.cons (by first | assumption | exact hl _ (by k_mem)) Cells.nil)) | exact (Cells.cons (by first | assumption | exact hl _ (by k_mem)) (Cells.cons (by first | assumption | exact hl _ (by k_mem)) (Cells.cons (by first | assumption | exact hl _ (by k_mem)) Cells.nil))) | exact (Cells.cons (by first | assumption | exact hl _ (by k_mem)) (Cells.cons (by first | assumption | exact hl _ (by k_mem)) (Cells.cons (by first | assumption | exact hl _ (by k_mem)) (Cells.cons (by first | assumption | exact hl _ (by k_mem)) Cells.nil))))))⟩ | exact ⟨rfl, [_, _], none, [true, true, c], s.toks, _, _, _, _, _, _, rfl, (by first | exact stepR_short (by simp only [List.length_append, List.length_cons, List.length_nil]; omega) | exact (stepR_long (by simp only [List.length_append, List.length_cons, List.length_nil]; omega)).trans (by rfl)), (by assumption), (by assumption), (fun h hc hl => by (simp only [List.map_cons, List.map_nil, ltr] at hc ⊢); obtain _ | ⟨eq0, hc⟩ := hc; obtain _ | ⟨eq1, hc⟩ := hc; cases hc; (first | exact Cells.nil | exact (Cells.cons (by first | assumption | exact hl _ (by k_mem)) Cells.nil) | exact (Cells.cons (by first | assumption | exact hl _ (by k_mem)) (Cells.cons (by first | assumption | exact hl _ (by k_mem)) Cells.nil)) | exact (Cells.cons (by first | assumption | exact hl _ (by k_mem)) (Cells.cons (by first | assumption | exact hl _ (by k_mem)) (Cells.cons (by first | assumption | exact hl _ (by k_mem)) Cells.nil))) | exact (Cells.cons (by first | assumption | exact hl _ (by k_mem)) (Cells.cons (by first | assumption | exact hl _ (by k_mem)) (Cells.cons (by first | assumption | exact hl _ (by k_mem)) (Cells.cons (by first | assumption | exact hl _ (by k_mem)) Cells.nil))))))⟩
end
end
section
section
theorem app_fi_c (w : World) (p' : Program) (loose : List Str) (c : Bool) : AppSpec w p' loose [true, false] c := by
  intro w0 fa a d ll k u tx ty rows its nl n ps1 ps2 hw0 hps1 hps2 hz dp un gd outer base g mean mg mb s Q E hd hu B X T Ld ⟨hfm, hcl⟩ BM hgs hret
  obtain ⟨fd, k1, k2, k3, k4, k5, k6, u1, u2, u3, u4, hfa, hfd⟩ := hfm
  simp only [List.map_cons, List.map_nil, ltr] at hcl
  obtain _ | ⟨et0, hcl⟩ := hcl
  obtain _ | ⟨et1, hcl⟩ := hcl
  cases hcl
  revert X; k_fill; intro X
  refine wpAny_call ?_
  refine' mut_enter X T Ld ?k6 ?k7 ?k8 ?k9 ?kB ?_ ?c2 ?c3 ?c4 ?c5
  (case k6 => k_is)
  (case k7 => k_is)
  (case k8 => (show dp < _; omega))
  (case k9 => first | exact BindsTo.of_eq rfl | exact binds_K (X.keeps Ld.keep) rfl (by k_is) rfl rfl rfl)
  (case kB => exact locs rfl)
  (case c2 => exact rfl)
  (case c3 => exact rfl)
  (case c4 => exact rfl)
  (case c5 => decide)
  intro L' h' F' N'
  try dsimp only
  have n1 : @Ne Nat ll a := News.neCls N' (by k_mem) (by k_mem) (by simp)
  have n2 : @Ne Nat ll d := News.neCls N' (by k_mem) (by k_mem) (by simp)
  have n3 : @Ne Nat ll 140 := News.neCls N' (by k_mem) (by k_mem) (by simp)
  have n4 : @Ne Nat ll 147 := News.neCls N' (by k_mem) (by k_mem) (by simp)
  have n5 : @Ne Nat a d := News.neCls N' (by k_mem) (by k_mem) (by simp)
  have n6 : @Ne Nat a 140 := News.neCls N' (by k_mem) (by k_mem) (by simp)
  have n7 : @Ne Nat a 147 := News.neCls N' (by k_mem) (by k_mem) (by simp)
  have n8 : @Ne Nat d 140 := News.neCls N' (by k_mem) (by k_mem) (by simp)
  have n9 : @Ne Nat d 147 := News.neCls N' (by k_mem) (by k_mem) (by simp)
  k_steps
  all_goals (try dsimp only)
  all_goals first | (exfalso; omega) | skip
  all_goals (refine hret _ _ _ _ _ ?_ (Led.of_frame (by assumption) (by assumption)) (by first | assumption | (dsimp only; assumption)))
  all_goals (try simp only [List.push_toArray, line_fi, line_ffi])
  all_goals first | exact ⟨rfl, [_], none, [true, false, c], s.toks, _, _, _, _, _, _, rfl, (by first | exact stepR_short (by simp only [List.length_append, List.length_cons, List.length_nil]; omega) | exact (stepR_long (by simp only [List.length_append, List.length_cons, List.length_nil]; omega)).trans (by rfl)), (by assumption), (by assumption), (fun h hc hl => by (simp only [List.map_cons, List.map_nil] at hc ⊢); obtain _ | ⟨eq0, hc⟩ := hc; obtain _ | ⟨eq1, hc⟩ := hc; cases hc; (first | exact Cells.nil | exact (Cells.cons (by first | assumption | exact hl (_, tupO _ _ _ _ _) (by k_mem)) Cells.nil) | exact (Cells.cons (by first | assumption | exact hl (_, tupO _ _ _ _ _) (by k_mem)) (Cells.cons (by first | assumption | exact hl (_, tupO _ _ _ _ _) (by k_mem)) Cells.nil)) | exact (Cells.cons (by first | assumption | exact hl (_, tupO _ _ _ _ _) (by k_mem)) (Cells.cons (by first | assumption | exact hl (_, tupO _ _ _ _ _) (by k_mem)) (Cells.cons (by first | assumption | exact hl (_, tupO _ _ _ _ _) (by k_mem)) Cells.nil))) | exact (Cells.cons (by first | assumption | exact hl (_, tupO _ _ _ _ _) (by k_mem)) (Cells.cons (by first | assumption | exact hl (_, tupO _ _ _ _ _) (by k_mem)) (Cells.cons (by first | assumption | exact hl (_, tupO _ _ _ _ _) (by k_mem)) (Cells.cons (by first | assumption | exact hl (_, tupO _ _ _ _ _) (by k_mem)) Cells.nil))))))⟩ | exact ⟨rfl, [_, _], none, [true, false, c], s.toks, _, _, _, _, _, _, rfl, (by first | exact stepR_short (by simp only [List.length_append, List.length_cons, List.length_nil]; omega) | exact (stepR_long (by simp only [List.length_append, List.length_cons, List.length_nil]; omega)).trans (by rfl)), (by assumption), (by assumption), (fun h hc hl => by (simp only [List.map_cons, List.map_nil] at hc ⊢); obtain _ | ⟨eq0, hc⟩ := hc; obtain _ | ⟨eq1, hc⟩ := hc; cases hc; (first | exact Cells.nil | exact (Cells.cons (by first | assumption | exact hl (_, tupO _ _ _ _ _) (by k_mem)) Cells.nil) | exact (Cells.cons (by first | assumption | exact hl (_, tupO _ _ _ _ _) (by k_mem)) (Cells.cons (by first | assumption | exact hl (_, tupO _ _ _ _ _) (by k_mem)) Cells.nil)) | exact (Cells.cons (by first | assumption | exact hl (_, tupO _ _ _ _ _) (by k_mem)) (Cells.cons (by first | assumption | exact hl (_, tupO _ _ _ _ _) (by k_mem)) (Cells.cons (by first | assumption | exact hl (_, tupO _ _ _ _ _) (by k_mem)) Cells.nil))) | exact (Cells.cons (by first | assumption | exact hl (_, tupO _ _ _ _ _) (by k_mem)) (Cells.cons (by first | assumption | exact hl (_, tupO _ _ _ _ _) (by k_mem)) (Cells.cons (by first | assumption | exact hl (_, tupO _ _ _ _ _) (by k_mem)) (Cells.cons (by first | assumption | exact hl (_, tupO _ _ _ _ _) (by k_mem)) Cells.nil))))))⟩ | exact ⟨rfl, [_, _, _, _], (some [true, false]), [c], _, _, _, _, _, _, _, rfl, (by first | exact stepR_short (by simp only [List.length_append, List.length_cons, List.length_nil]; omega) | exact (stepR_long (by simp only [List.length_append, List.length_cons, List.length_nil]; omega)).trans (by rfl)), (by assumption), (by assumption), (fun h hc hl => by (simp only [List.map_cons, List.map_nil] at hc ⊢); obtain _ | ⟨eq0, hc⟩ := hc; obtain _ | ⟨eq1, hc⟩ := hc; cases hc; (first | exact Cells.nil | exact (Cells.cons (by first | assumption | exact hl (_, tupO _ _ _ _ _) (by k_mem)) Cells.nil) | exact (Cells.cons (by first | assumption | exact hl (_, tupO _ _ _ _ _) (by k_mem)) (Cells.cons (by first | assumption | exact hl (_, tupO _ _ _ _ _) (by k_mem)) Cells.nil)) | exact (Cells.cons (by first | assumption | exact hl (_, tupO _ _ _ _ _) (by k_mem)) (Cells.cons (by first | assumption | exact hl (_, tupO _ _ _ _ _) (by k_mem)) (Cells.cons (by first | assumption | exact hl (_, tupO _ _ _ _ _) (by k_mem)) Cells.nil))) | exact (Cells.cons (by first | assumption | exact hl (_, tupO _ _ _ _ _) (by k_mem)) (Cells.cons (by first | assumption | exact hl (_, tupO _ _ _ _ _) (by k_mem)) (Cells.cons (by first | assumption | exact hl (_, tupO _ _ _ _ _) (by k_mem)) (Cells.cons (by first | assumption | exact hl (_, tupO _ _ _ _ _) (by k_mem)) Cells.nil))))))⟩
end
end
section
section
theorem app_ffi_c (w : World) (p' : Program) (loose : List Str) (c : Bool) : AppSpec w p' loose [true, true, false] c := by
  intro w0 fa a d ll k u tx ty rows its nl n ps1 ps2 hw0 hps1 hps2 hz dp un gd outer base g mean mg mb s Q E hd hu B X T Ld ⟨hfm, hcl⟩ BM hgs hret
  obtain ⟨fd, k1, k2, k3, k4, k5, k6, u1, u2, u3, u4, hfa, hfd⟩ := hfm
  simp only [List.map_cons, List.map_nil, ltr] at hcl
  obtain _ | ⟨et0, hcl⟩ := hcl
  obtain _ | ⟨et1, hcl⟩ := hcl
  obtain _ | ⟨et2, hcl⟩ := hcl
  cases hcl
  revert X; k_fill; intro X
  refine wpAny_call ?_
  refine' mut_enter X T Ld ?k6 ?k7 ?k8 ?k9 ?kB ?_ ?c2 ?c3 ?c4 ?c5
  (case k6 => k_is)
  (case k7 => k_is)
  (case k8 => (show dp < _; omega))
  (case k9 => first | exact BindsTo.of_eq rfl | exact binds_K (X.keeps Ld.keep) rfl (by k_is) rfl rfl rfl)
  (case kB => exact locs rfl)
  (case c2 => exact rfl)
  (case c3 => exact rfl)
  (case c4 => exact rfl)
  (case c5 => decide)
  intro L' h' F' N'
  try dsimp only
  have n1 : @Ne Nat ll a := News.neCls N' (by k_mem) (by k_mem) (by simp)
  have n2 : @Ne Nat ll d := News.neCls N' (by k_mem) (by k_mem) (by simp)
  have n3 : @Ne Nat ll 140 := News.neCls N' (by k_mem) (by k_mem) (by simp)
  have n4 : @Ne Nat ll 147 := News.neCls N' (by k_mem) (by k_mem) (by simp)
  have n5 : @Ne Nat a d := News.neCls N' (by k_mem) (by k_mem) (by simp)
  have n6 : @Ne Nat a 140 := News.neCls N' (by k_mem) (by k_mem) (by simp)
  have n7 : @Ne Nat a 147 := News.neCls N' (by k_mem) (by k_mem) (by simp)
  have n8 : @Ne Nat d 140 := News.neCls N' (by k_mem) (by k_mem) (by simp)
  have n9 : @Ne Nat d 147 := News.neCls N' (by k_mem) (by k_mem) (by simp)
  k_steps
  all_goals (try dsimp only)
  all_goals first | (exfalso; omega) | skip
  all_goals (refine hret _ _ _ _ _ ?_ (Led.of_frame (by assumption) (by assumption)) (by first | assumption | (dsimp only; assumption)))
  all_goals (try simp only [List.push_toArray, line_fi, line_ffi])
  all_goals first | exact ⟨rfl, [_], none, [true, true, false, c], s.toks, _, _, _, _, _, _, rfl, (by first | exact stepR_short (by simp only [List.length_append, List.length_cons, List.length_nil]; omega) | exact (stepR_long (by simp only [List.length_append, List.length_cons, List.length_nil]; omega)).trans (by rfl)), (by assumption), (by assumption), (fun h hc hl => by (simp only [List.map_cons, List.map_nil] at hc ⊢); obtain _ | ⟨eq0, hc⟩ := hc; obtain _ | ⟨eq1, hc⟩ := hc; obtain _ | ⟨eq2, hc⟩ := hc; cases hc; (first | exact Cells.nil | exact (Cells.cons (by first | assumption | exact hl (_, tupO _ _ _ _ _) (by k_mem)) Cells.nil) | exact (Cells.cons (by first | assumption | exact hl (_, tupO _ _ _ _ _) (by k_mem)) (Cells.cons (by first | assumption | exact hl (_, tupO _ _ _ _ _) (by k_mem)) Cells.nil)) | exact (Cells.cons (by first | assumption | exact hl (_, tupO _ _ _ _ _) (by k_mem)) (Cells.cons (by first | assumption | exact hl (_, tupO _ _ _ _ _) (by k_mem)) (Cells.cons (by first | assumption | exact hl (_, tupO _ _ _ _ _) (by k_mem)) Cells.nil))) | exact (Cells.cons (by first | assumption | exact hl (_, tupO _ _ _ _ _) (by k_mem)) (Cells.cons (by first | assumption | exact hl (_, tupO _ _ _ _ _) (by k_mem)) (Cells.cons (by first | assumption | exact hl (_, tupO _ _ _ _ _) (by k_mem)) (Cells.cons (by first | assumption | exact hl (_, tupO _ _ _ _ _) (by k_mem)) Cells.nil))))))⟩ | exact ⟨rfl, [_, _], none, [true, true, false, c], s.toks, _, _, _, _, _, _, rfl, (by first | exact stepR_short (by simp only [List.length_append, List.length_cons, List.length_nil]; omega) | exact (stepR_long (by simp only [List.length_append, List.length_cons, List.length_nil]; omega)).trans (by rfl)), (by assumption), (by assumption), (fun h hc hl => by (simp only [List.map_cons, List.map_nil] at hc ⊢); obtain _ | ⟨eq0, hc⟩ := hc; obtain _ | ⟨eq1, hc⟩ := hc; obtain _ | ⟨eq2, hc⟩ := hc; cases hc; (first | exact Cells.nil | exact (Cells.cons (by first | assumption | exact hl (_, tupO _ _ _ _ _) (by k_mem)) Cells.nil) | exact (Cells.cons (by first | assumption | exact hl (_, tupO _ _ _ _ _) (by k_mem)) (Cells.cons (by first | assumption | exact hl (_, tupO _ _ _ _ _) (by k_mem)) Cells.nil)) | exact (Cells.cons (by first | assumption | exact hl (_, tupO _ _ _ _ _) (by k_mem)) (Cells.cons (by first | assumption | exact hl (_, tupO _ _ _ _ _) (by k_mem)) (Cells.cons (by first | assumption | exact hl (_, tupO _ _ _ _ _) (by k_mem)) Cells.nil))) | exact (Cells.cons (by first | assumption | exact hl (_, tupO _ _ _ _ _) (by k_mem)) (Cells.cons (by first | assumption | exact hl (_, tupO _ _ _ _ _) (by k_mem)) (Cells.cons (by first | assumption | exact hl (_, tupO _ _ _ _ _) (by k_mem)) (Cells.cons (by first | assumption | exact hl (_, tupO _ _ _ _ _) (by k_mem)) Cells.nil))))))⟩ | exact ⟨rfl, [_, _, _, _], (some [true, true, false]), [c], _, _, _, _, _, _, _, rfl, (by first | exact stepR_short (by simp only [List.length_append, List.length_cons, List.length_nil]; omega) | exact (stepR_long (by simp only [List.length_append, List.length_cons, List.length_nil]; omega)).trans (by rfl)), (by assumption), (by assumption), (fun h hc hl => by (simp only [List.map_cons, List.map_nil] at hc ⊢); obtain _ | ⟨eq0, hc⟩ := hc; obtain _ | ⟨eq1, hc⟩ := hc; obtain _ | ⟨eq2, hc⟩ := hc; cases hc; (first | exact Cells.nil | exact (Cells.cons (by first | assumption | exact hl (_, tupO _ _ _ _ _) (by k_mem)) Cells.nil) | exact (Cells.cons (by first | assumption | exact hl (_, tupO _ _ _ _ _) (by k_mem)) (Cells.cons (by first | assumption | exact hl (_, tupO _ _ _ _ _) (by k_mem)) Cells.nil)) | exact (Cells.cons (by first | assumption | exact hl (_, tupO _ _ _ _ _) (by k_mem)) (Cells.cons (by first | assumption | exact hl (_, tupO _ _ _ _ _) (by k_mem)) (Cells.cons (by first | assumption | exact hl (_, tupO _ _ _ _ _) (by k_mem)) Cells.nil))) | exact (Cells.cons (by first | assumption | exact hl (_, tupO _ _ _ _ _) (by k_mem)) (Cells.cons (by first | assumption | exact hl (_, tupO _ _ _ _ _) (by k_mem)) (Cells.cons (by first | assumption | exact hl (_, tupO _ _ _ _ _) (by k_mem)) (Cells.cons (by first | assumption | exact hl (_, tupO _ _ _ _ _) (by k_mem)) Cells.nil))))))⟩
end
end
section
section
theorem app_fif_c (w : World) (p' : Program) (loose : List Str) (c : Bool) : AppSpec w p' loose [true, false, true] c := by
  intro w0 fa a d ll k u tx ty rows its nl n ps1 ps2 hw0 hps1 hps2 hz dp un gd outer base g mean mg mb s Q E hd hu B X T Ld ⟨hfm, hcl⟩ BM hgs hret
  obtain ⟨fd, k1, k2, k3, k4, k5, k6, u1, u2, u3, u4, hfa, hfd⟩ := hfm
  simp only [List.map_cons, List.map_nil, ltr] at hcl
  obtain _ | ⟨et0, hcl⟩ := hcl
  obtain _ | ⟨et1, hcl⟩ := hcl
  obtain _ | ⟨et2, hcl⟩ := hcl
  cases hcl
  revert X; k_fill; intro X
  refine wpAny_call ?_
  refine' mut_enter X T Ld ?k6 ?k7 ?k8 ?k9 ?kB ?_ ?c2 ?c3 ?c4 ?c5
  (case k6 => k_is)
  (case k7 => k_is)
  (case k8 => (show dp < _; omega))
  (case k9 => first | exact BindsTo.of_eq rfl | exact binds_K (X.keeps Ld.keep) rfl (by k_is) rfl rfl rfl)
  (case kB => exact locs rfl)
  (case c2 => exact rfl)
  (case c3 => exact rfl)
  (case c4 => exact rfl)
  (case c5 => decide)
  intro L' h' F' N'
  try dsimp only
  have n1 : @Ne Nat ll a := News.neCls N' (by k_mem) (by k_mem) (by simp)
  have n2 : @Ne Nat ll d := News.neCls N' (by k_mem) (by k_mem) (by simp)
  have n3 : @Ne Nat ll 140 := News.neCls N' (by k_mem) (by k_mem) (by simp)
  have n4 : @Ne Nat ll 147 := News.neCls N' (by k_mem) (by k_mem) (by simp)
  have n5 : @Ne Nat a d := News.neCls N' (by k_mem) (by k_mem) (by simp)
  have n6 : @Ne Nat a 140 := News.neCls N' (by k_mem) (by k_mem) (by simp)
  have n7 : @Ne Nat a 147 := News.neCls N' (by k_mem) (by k_mem) (by simp)
  have n8 : @Ne Nat d 140 := News.neCls N' (by k_mem) (by k_mem) (by simp)
  have n9 : @Ne Nat d 147 := News.neCls N' (by k_mem) (by k_mem) (by simp)
  k_steps
  all_goals (try dsimp only)
  all_goals first | (exfalso; omega) | skip
  all_goals (refine hret _ _ _ _ _ ?_ (Led.of_frame (by assumption) (by assumption)) (by first | assumption | (dsimp only; assumption)))
  all_goals (try simp only [List.push_toArray, line_fi, line_ffi])
  all_goals first | exact ⟨rfl, [_], none, [true, false, true, c], s.toks, _, _, _, _, _, _, rfl, (by first | exact stepR_short (by simp only [List.length_append, List.length_cons, List.length_nil]; omega) | exact (stepR_long (by simp only [List.length_append, List.length_cons, List.length_nil]; omega)).trans (by rfl)), (by assumption), (by assumption), (fun h hc hl => by (simp only [List.map_cons, List.map_nil] at hc ⊢); obtain _ | ⟨eq0, hc⟩ := hc; obtain _ | ⟨eq1, hc⟩ := hc; obtain _ | ⟨eq2, hc⟩ := hc; cases hc; (first | exact Cells.nil | exact (Cells.cons (by first | assumption | exact hl (_, tupO _ _ _ _ _) (by k_mem)) Cells.nil) | exact (Cells.cons (by first | assumption | exact hl (_, tupO _ _ _ _ _) (by k_mem)) (Cells.cons (by first | assumption | exact hl (_, tupO _ _ _ _ _) (by k_mem)) Cells.nil)) | exact (Cells.cons (by first | assumption | exact hl (_, tupO _ _ _ _ _) (by k_mem)) (Cells.cons (by first | assumption | exact hl (_, tupO _ _ _ _ _) (by k_mem)) (Cells.cons (by first | assumption | exact hl (_, tupO _ _ _ _ _) (by k_mem)) Cells.nil))) | exact (Cells.cons (by first | assumption | exact hl (_, tupO _ _ _ _ _) (by k_mem)) (Cells.cons (by first | assumption | exact hl (_, tupO _ _ _ _ _) (by k_mem)) (Cells.cons (by first | assumption | exact hl (_, tupO _ _ _ _ _) (by k_mem)) (Cells.cons (by first | assumption | exact hl (_, tupO _ _ _ _ _) (by k_mem)) Cells.nil))))))⟩ | exact ⟨rfl, [_, _], none, [true, false, true, c], s.toks, _, _, _, _, _, _, rfl, (by first | exact stepR_short (by simp only [List.length_append, List.length_cons, List.length_nil]; omega) | exact (stepR_long (by simp only [List.length_append, List.length_cons, List.length_nil]; omega)).trans (by rfl)), (by assumption), (by assumption), (fun h hc hl => by (simp only [List.map_cons, List.map_nil] at hc ⊢); obtain _ | ⟨eq0, hc⟩ := hc; obtain _ | ⟨eq1, hc⟩ := hc; obtain _ | ⟨eq2, hc⟩ := hc; cases hc; (first | exact Cells.nil | exact (Cells.cons (by first | assumption | exact hl (_, tupO _ _ _ _ _) (by k_mem)) Cells.nil) | exact (Cells.cons (by first | assumption | exact hl (_, tupO _ _ _ _ _) (by k_mem)) (Cells.cons (by first | assumption | exact hl (_, tupO _ _ _ _ _) (by k_mem)) Cells.nil)) | exact (Cells.cons (by first | assumption | exact hl (_, tupO _ _ _ _ _) (by k_mem)) (Cells.cons (by first | assumption | exact hl (_, tupO _ _ _ _ _) (by k_mem)) (Cells.cons (by first | assumption | exact hl (_, tupO _ _ _ _ _) (by k_mem)) Cells.nil))) | exact (Cells.cons (by first | assumption | exact hl (_, tupO _ _ _ _ _) (by k_mem)) (Cells.cons (by first | assumption | exact hl (_, tupO _ _ _ _ _) (by k_mem)) (Cells.cons (by first | assumption | exact hl (_, tupO _ _ _ _ _) (by k_mem)) (Cells.cons (by first | assumption | exact hl (_, tupO _ _ _ _ _) (by k_mem)) Cells.nil))))))⟩ | exact ⟨rfl, [_, _, _, _], (some [true, false]), [true, c], _, _, _, _, _, _, _, rfl, (by first | exact stepR_short (by simp only [List.length_append, List.length_cons, List.length_nil]; omega) | exact (stepR_long (by simp only [List.length_append, List.length_cons, List.length_nil]; omega)).trans (by rfl)), (by assumption), (by assumption), (fun h hc hl => by (simp only [List.map_cons, List.map_nil] at hc ⊢); obtain _ | ⟨eq0, hc⟩ := hc; obtain _ | ⟨eq1, hc⟩ := hc; obtain _ | ⟨eq2, hc⟩ := hc; cases hc; (first | exact Cells.nil | exact (Cells.cons (by first | assumption | exact hl (_, tupO _ _ _ _ _) (by k_mem)) Cells.nil) | exact (Cells.cons (by first | assumption | exact hl (_, tupO _ _ _ _ _) (by k_mem)) (Cells.cons (by first | assumption | exact hl (_, tupO _ _ _ _ _) (by k_mem)) Cells.nil)) | exact (Cells.cons (by first | assumption | exact hl (_, tupO _ _ _ _ _) (by k_mem)) (Cells.cons (by first | assumption | exact hl (_, tupO _ _ _ _ _) (by k_mem)) (Cells.cons (by first | assumption | exact hl (_, tupO _ _ _ _ _) (by k_mem)) Cells.nil))) | exact (Cells.cons (by first | assumption | exact hl (_, tupO _ _ _ _ _) (by k_mem)) (Cells.cons (by first | assumption | exact hl (_, tupO _ _ _ _ _) (by k_mem)) (Cells.cons (by first | assumption | exact hl (_, tupO _ _ _ _ _) (by k_mem)) (Cells.cons (by first | assumption | exact hl (_, tupO _ _ _ _ _) (by k_mem)) Cells.nil))))))⟩
end
end
section
section
variable {prog : Program} {w : World} {A : Around} {E : Value → Shared → Prop} {s : Shared} {h₀ : Heap} {L a : Addr} {m : Str → Option Value} {news : List (Addr × Obj)}
theorem star_seqD {o : Obj} {T : String} {its : Array Value} {n : Nat} {ws : List Value} {Q : List Value → Shared → Prop} (F : Fr h₀ L s.heap m) (N : News h₀ L s.heap news) (D : s.heap.get? a = some o) (hc : o.cls = .type T) (hd : o.data = .seq its n) (hT : T = "list" ∨ T = "tuple") (e : its.toList = ws)
    (hz : its.size ≤ sizeLine) (h : ∀ h', Fr h₀ L h' m → News h₀ L h' news → Q ws { s with heap := h' }) : StarOf (model prog w) A E (.ref a) Q s := by
  have hT' : s.TypeIs (.ref a) T := ⟨o, D, hc⟩
  subst e
  have z : wpAny (model prog w) A (collect (.ref a)) Q E s := by
    refine wpAny_collect_seq a hT D hc hd (fun h' hk => h h' ?_ fun p hp => ⟨hk _ _ (N p hp).1, (N p hp).2⟩) hz
    obtain ⟨oL, es, ep, hL, r⟩ := F.ns
    exact ⟨⟨oL, es, ep, hk _ _ hL, r⟩, fun b x q => hk _ _ (F.keep b x q), F.above⟩
  unfold StarOf notIterableAtAll
  rcases hT with rfl | rfl
  · exact wpAny_bind (wpAny_specialOf hT' PySem.F.slot_list_iter.lookup (wpAny_pure ⟨rfl, z⟩))
  · exact wpAny_bind (wpAny_specialOf hT' PySem.F.slot_tuple_iter.lookup (wpAny_pure ⟨rfl, z⟩))
end
section
variable {prog : Program} {w : World} {A : Around} {E : Value → Shared → Prop} {s : Shared} {K : Frag} {x C L f : Addr} {h₀ : Heap} {m : Str → Option Value} {ox : Obj} {od : Option Obj}
/-- truth of an instance by its own __len__ -/
theorem truthy_L {Q : Bool → Shared → Prop} (F : Fr h₀ L s.heap m) (X₀ : K.In h₀) (I : InstAt s.heap x ox C od) (hs : findIn K (.ref C) "__bool__" = some none) (hl : findIn K (.ref C) "__len__" = some (some (.ref f))) (hf : isFn K (.ref f) = true)
    (h : wpAny (model prog w) A.in1 (call (.ref f) [.ref x]) (PySem.W.LenBack fun v s' => ∃ n t, v = .int n t ∧ Q (n != 0) s') E s) : wpAny (model prog w) A (truthy (.ref x)) Q E s := by
  have X := X₀.keeps F.keep
  have key : wpAny (model prog w) A (runValue (.builtin "len" ⟨[.ref x], []⟩)) (fun r s' => ∃ n t, r = .int n t ∧ Q (n != 0) s') E s := by
    refine wpAny_runValue (codeAny_builtin entry_len ?_)
    rw [Around.under_plainId plain_len _]
    unfold Builtin.«len»
    refine wpAny_bind (m := oneArg "len" _) (wpAny_pure ?_)
    refine wpAny_bind (m := callSpecial? (.ref x) (Str.ofString "__len__")) (special_fn X I hl (beq_iff_eq.mp hf) (wpAny_mono h (fun r s' hr => ?_) fun _ _ y => y))
    cases r <;> first | exact hr.elim | skip
    rename_i n u
    obtain ⟨⟨h0, h1⟩, hq⟩ := hr
    refine wpAny_bind (wpAny_holding (wpAny_pure ?_))
    refine wpAny_bind (wpAny_letGo ?_)
    show wpAny _ _ (if n < 0 then _ else _) _ _ _
    rw [if_neg (by omega)]
    show wpAny _ _ (if n ≥ 2 ^ 63 then _ else _) _ _ _
    rw [if_neg (by omega)]
    exact wpAny_bind (wpAny_mkInt (wpAny_pure hq))
  unfold truthy
  refine wpAny_bind (m := callSpecial? (.ref x) (Str.ofString "__bool__")) (wpAny_bind (wpAny_bind (I.type.here ((looks_findIn X hs).here (wpAny_pure ?_)))))
  refine wpAny_bind (wpAny_bind (I.type.here ((looks_findIn X hl).here ?_)))
  refine wpAny_bind (wpAny_mono key (fun r s' hr => ?_) fun _ _ e => e)
  obtain ⟨n, t, rfl, hq⟩ := hr
  exact wpAny_pure hq
end
section
variable {w : World} {p' : Program} {loose : List Str}
noncomputable def OwPost (v : Value) (led' : List (Addr × Obj)) : Prop :=
  v = .bool false ∧ ∃ (ps1' ps2' : Array Value), led' = [(140, tabO ps1'), (147, tabO ps2')] ∧ TriplesOk ps1'.toList ∧ TriplesOk ps2'.toList
noncomputable def NlPost (w : World) (a d ll : Addr) (k : Tok) (rows : List Value) (row : List Bool) (v : Value) (led' : List (Addr × Obj)) : Prop :=
  v = .none ∧ ∃ (ex : List (Addr × Obj)) (t : Tok) (nl' : Nat) (its' : List Value) (n' : Nat) (u' : Tok) (ps1' ps2' : Array Value),
    led' = ex ++ [(ll, listOf (rows ++ [Value.str (lineS row) t]).toArray nl'), (a, accO d its' n'), (d, accD w k u'), (140, tabO ps1'), (147, tabO ps2')] ∧ TriplesOk ps1'.toList ∧ TriplesOk ps2'.toList
end
end
theorem kw22 : True := by
  k_with "StarOf ref" => ((k_here; (refine star_seqD (by k_asm) (by k_asm) (Fr.keep (by k_asm) _ _ (by assumption)) (by exact rfl) (by exact rfl) (.inr rfl) (by rfl) (by exact Nat.le_of_ble_eq_true rfl) ?_); intro h' F' N'; (try dsimp only [List.nil_append, List.cons_append])))
  k_with "compareOp NotEq ref ref" => ((k_here; (with_reducible show wpAny _ _ (compareOp CmpOp.NotEq (Value.ref _) (Value.ref _)) _ _ _); refine ne_dataH (reads_tuple_at (Fr.keep (by k_asm) _ _ (by assumption)) rfl rfl (by ke_reads)) (by ke_read) (by ke_shaped) (by ke_shaped) (by (dsimp only [Ar, Around.deeper, Around.in1]; omega)) ?_; ke_norm))
  k_with "truthy ref" => ((k_here; (refine truthy_L (by k_asm) (by k_asm) (by k_inst) (by k_is) (by k_is) (by k_is) ?_); k_whole))
  exact trivial
section
section
theorem ow_fi (w : World) (p' : Program) (loose : List Str) (a d : Addr) (k u : Tok) (its : List Value) (n : Nat) (ps1 ps2 : Array Value) (hps1 : TriplesOk ps1.toList) (hps2 : TriplesOk ps2.toList) :
    Mut w p' loose 9 50 167 [.ref a] (fun h => h.get? a = some (accO d its n) ∧ h.get? d = some (accD w k u) ∧ Cells h its [Str.ofString "f", Str.ofString "i"])
      [(140, tabO ps1), (147, tabO ps2)] OwPost := by
  intro dp un gd outer base g mean mg mb s Q E hd hu B X T Ld ⟨haa, hdd, hcl⟩ BM hgs hret
  obtain _ | ⟨et0, hcl⟩ := hcl
  obtain _ | ⟨et1, hcl⟩ := hcl
  cases hcl
  revert X; k_fill; intro X
  refine wpAny_call ?_
  refine' mut_enter X T Ld ?k6 ?k7 ?k8 ?k9 ?kB ?_ ?c2 ?c3 ?c4 ?c5
  (case k6 => k_is)
  (case k7 => k_is)
  (case k8 => (show dp < _; omega))
  (case k9 => first | exact BindsTo.of_eq rfl | exact binds_K (X.keeps Ld.keep) rfl (by k_is) rfl rfl rfl)
  (case kB => exact locs rfl)
  (case c2 => exact rfl)
  (case c3 => exact rfl)
  (case c4 => exact rfl)
  (case c5 => decide)
  intro L' h' F' N'
  try dsimp only
  k_steps
  refine hret _ _ _ _ _ ?_ (Led.of_frame (by assumption) (by assumption)) (by first | assumption | (dsimp only; assumption))
  exact ⟨rfl, _, _, rfl, by assumption, by assumption⟩
theorem ow_ffi (w : World) (p' : Program) (loose : List Str) (a d : Addr) (k u : Tok) (its : List Value) (n : Nat) (ps1 ps2 : Array Value) (hps1 : TriplesOk ps1.toList) (hps2 : TriplesOk ps2.toList) :
    Mut w p' loose 9 50 167 [.ref a] (fun h => h.get? a = some (accO d its n) ∧ h.get? d = some (accD w k u) ∧ Cells h its [Str.ofString "f", Str.ofString "f", Str.ofString "i"])
      [(140, tabO ps1), (147, tabO ps2)] OwPost := by
  intro dp un gd outer base g mean mg mb s Q E hd hu B X T Ld ⟨haa, hdd, hcl⟩ BM hgs hret
  obtain _ | ⟨et0, hcl⟩ := hcl
  obtain _ | ⟨et1, hcl⟩ := hcl
  obtain _ | ⟨et2, hcl⟩ := hcl
  cases hcl
  revert X; k_fill; intro X
  refine wpAny_call ?_
  refine' mut_enter X T Ld ?k6 ?k7 ?k8 ?k9 ?kB ?_ ?c2 ?c3 ?c4 ?c5
  (case k6 => k_is)
  (case k7 => k_is)
  (case k8 => (show dp < _; omega))
  (case k9 => first | exact BindsTo.of_eq rfl | exact binds_K (X.keeps Ld.keep) rfl (by k_is) rfl rfl rfl)
  (case kB => exact locs rfl)
  (case c2 => exact rfl)
  (case c3 => exact rfl)
  (case c4 => exact rfl)
  (case c5 => decide)
  intro L' h' F' N'
  try dsimp only
  k_steps
  refine hret _ _ _ _ _ ?_ (Led.of_frame (by assumption) (by assumption)) (by first | assumption | (dsimp only; assumption))
  exact ⟨rfl, _, _, rfl, by assumption, by assumption⟩
end
end
section
section
variable {w : World} {p' : Program} {loose : List Str} {news : List (Addr × Obj)} {f1 : Obj → List (Addr × Obj)} {f2 : Obj → Obj → List (Addr × Obj)}
  {A₀ A : Around} {s : Shared} {base h₀ : Heap} {outer : List Env} {L a d : Addr} {m mg mb : Str → Option Value} {env : Env} {Q E : Value → Shared → Prop} {dp un : Nat} {gd : Option (List Code)}
  {k u : Tok} {its : List Value} {n : Nat}
theorem ow_K {ps1 ps2 : Array Value} {xs : List Str} (B : Below A₀ base outer h₀) (F : Fr h₀ L s.heap m) (X : (Kf w.params).In h₀) (T : TopRead p' loose mg mb h₀) (N : News h₀ L s.heap news) (hA : A = Ar dp un gd (env :: outer)) (hf : env.frame = some L) (hke : env.scope.kind = .function)
    (hd : dp + 9 < recursionLimit) (hu : un + 50 < cLine) (BM : Bm h₀ mg) (hgs : AllBare s.gens) (U1 : UpdF 140 (tabO ps1) news f1) (U2 : ∀ o, UpdF 147 (tabO ps2) (f1 o) (f2 o)) (haa : s.heap.get? a = some (accO d its n)) (hdd : s.heap.get? d = some (accD w k u)) (hc : Cells s.heap its xs)
    (hps1 : TriplesOk ps1.toList) (hps2 : TriplesOk ps2.toList) (hx : xs = [Str.ofString "f", Str.ofString "i"] ∨ xs = [Str.ofString "f", Str.ofString "f", Str.ofString "i"])
    (h : ∀ ps1' ps2' h' gs' tk', TriplesOk ps1'.toList → TriplesOk ps2'.toList → Fr h₀ L h' m → News h₀ L h' (f2 (tabO ps1') (tabO ps2')) → AllBare gs' → Q (.bool false) { s with heap := h', gens := gs', toks := tk' }) :
    wpAny (model PySem.Challenge.rw_xn0030_01.row.prog w) A (call (.ref 167) [.ref a]) Q E s := by
  have m1 := updF_mem U1
  have m2 : (147, tabO ps2) ∈ news := by
    rcases updF_upd U1 (tabO ps1) _ (updF_mem (U2 (tabO ps1))) with e | ⟨e, -⟩
    · cases e
    · exact e
  have h140 := (N _ m1).1
  have h147 := (N _ m2).1
  have c : Mut w p' loose 9 50 167 [.ref a] (fun h => h.get? a = some (accO d its n) ∧ h.get? d = some (accD w k u) ∧ Cells h its xs) [(140, tabO ps1), (147, tabO ps2)] OwPost := by
    rcases hx with rfl | rfl
    · exact ow_fi w p' loose a d k u its n ps1 ps2 hps1 hps2
    · exact ow_ffi w p' loose a d k u its n ps1 ps2 hps1 hps2
  have off : ∀ (b : Addr) (o : Obj), s.heap.get? b = some o → o.cls ≠ .none → b ∉ ([(140, tabO ps1), (147, tabO ps2)] : List (Addr × Obj)).map (·.1) := by
    intro b o e hcl hm
    simp only [List.map_cons, List.map_nil, List.mem_cons, List.not_mem_nil, or_false] at hm
    rcases hm with rfl | rfl
    · exact ne_cls e h140 hcl rfl
    · exact ne_cls e h147 hcl rfl
  refine mut_callN (rest := news.filter fun q => !(Nat.beq q.1 140) && !(Nat.beq q.1 147)) c B F X T N hA hf hke hd hu (fun p hp => ?_) (fun p hp => ?_) (fun g hg => ⟨hg a _ haa (off _ _ haa (by intro z; cases z)), hg d _ hdd (off _ _ hdd (by intro z; cases z)), ?_⟩) BM hgs fun v led' h' gs' tk' hP F' N' hk hb hne => ?_
  · rcases List.mem_cons.mp hp with rfl | hp
    · exact m1
    · rw [List.mem_singleton.mp hp]; exact m2
  · obtain ⟨hp, hn⟩ := List.mem_filter.mp hp
    refine ⟨hp, fun hm => ?_⟩
    simp only [List.map_cons, List.map_nil, List.mem_cons, List.not_mem_nil, or_false] at hm
    rcases hm with e | e <;> (rw [e] at hn; simp at hn)
  · clear hx c haa
    induction hc with
    | nil => exact .nil
    | cons e _ ih => exact .cons (hg _ _ e (off _ _ e (by intro z; cases z))) (ih)
  · obtain ⟨rfl, ps1', ps2', rfl, t1, t2⟩ := hP
    refine h ps1' ps2' h' gs' tk' t1 t2 F' (fun q hq => N' q ?_) hb
    rcases updF_upd (U2 (tabO ps1')) _ q hq with rfl | ⟨hq, n2⟩
    · simp
    rcases updF_upd U1 _ q hq with rfl | ⟨hq, n1⟩
    · simp
    refine List.mem_append_right _ (List.mem_filter.mpr ⟨hq, ?_⟩)
    have b1 : Nat.beq q.1 140 = false := by
      cases z : Nat.beq q.1 140 with
      | true => exact absurd (Nat.eq_of_beq_eq_true z) n1
      | false => rfl
    have b2 : Nat.beq q.1 147 = false := by
      cases z : Nat.beq q.1 147 with
      | true => exact absurd (Nat.eq_of_beq_eq_true z) n2
      | false => rfl
    rw [b1, b2]; rfl
end
end
section
/-- the contract of what changes led alone, for any goal -/
noncomputable def MutG (G : Around → (Value → Shared → Prop) → (Value → Shared → Prop) → Shared → Prop) (w : World) (p' : Program) (loose : List Str) (D U : Nat) (pre : Heap → Prop) (led : List (Addr × Obj)) (Post : Value → List (Addr × Obj) → Prop) : Prop :=
  ∀ (dp un : Nat) (gd : Option (List Code)) (outer : List Env) (base g : Heap) (mean : ExcName → Option Value) (mg mb : Str → Option Value) (s : Shared) (Q E : Value → Shared → Prop), dp + D < recursionLimit → un + U < cLine → Below (Ar dp un gd outer) base outer g →
    (Kf w.params).In g → TopRead p' loose mg mb g → Led g s.heap led → pre g → Bm g mg → AllBare s.gens →
    (∀ v led' h' gs' tk', Post v led' → Led g h' led' → AllBare gs' → Q v { s with heap := h', gens := gs', toks := tk' }) →
    G (Ar dp un gd outer) Q E s
section
theorem push_code (w : World) (p' : Program) (loose : List Str) (a d : Addr) (k u : Tok) (its : List Value) (n : Nat) (x y : Str) (tx ty : Tok) (hsz : its.length ≤ 900) :
    MutG (fun A Q E s => codeAny (model PySem.Challenge.rw_xn0030_01.row.prog w) A (.call (.ref 122) ⟨[.ref a, .str x tx, .str y ty], []⟩) (fun r s' => match r with | .ok (.ret v) => Q v s' | .ok _ => False | .error e => E e s') s) w p' loose 3 20 (fun h => h.get? d = some (accD w k u)) [(a, accO d its n)] (fun v led => v = .none ∧ ∃ t n' m, led = [(t, tupO x tx y ty m)] ++ [(a, accO d (its ++ [.ref t]) n')]) := by
  intro dp un gd outer base g mean mg mb s Q E hd hu B X T Ld hdd BM hgs hret
  revert X; k_fill; intro X
  refine' mut_enter X T Ld ?k6 ?k7 ?k8 ?k9 ?kB ?_ ?c2 ?c3 ?c4 ?c5
  (case k6 => k_is)
  (case k7 => k_is)
  (case k8 => (show dp < _; omega))
  (case k9 => first | exact BindsTo.of_eq rfl | exact binds_K (X.keeps Ld.keep) rfl (by k_is) rfl rfl rfl)
  (case kB => exact locs rfl)
  (case c2 => exact rfl)
  (case c3 => exact rfl)
  (case c4 => exact rfl)
  (case c5 => decide)
  intro L' h' F' N'
  try dsimp only
  k_steps
  dsimp only
  exact hret _ _ _ _ _ ⟨rfl, _, _, _, rfl⟩ (Led.of_frame (by assumption) (by assumption)) hgs
end
end
section
section
variable {w : World} {p' : Program} {loose : List Str} {G : Around → (Value → Shared → Prop) → (Value → Shared → Prop) → Shared → Prop} {pre : Heap → Prop} {led rest news news1 : List (Addr × Obj)} {fN : Obj → List (Addr × Obj)} {Post : Value → List (Addr × Obj) → Prop}
  {A₀ A : Around} {s : Shared} {base h₀ : Heap} {outer : List Env} {L a d : Addr} {o o1 od : Obj} {m mg mb : Str → Option Value} {env : Env} {Q E : Value → Shared → Prop} {dp un D U : Nat} {gd : Option (List Code)}
theorem mut_callG (c : MutG G w p' loose D U pre led Post) (B : Below A₀ base outer h₀) (F : Fr h₀ L s.heap m) (X : (Kf w.params).In h₀) (T : TopRead p' loose mg mb h₀) (N : News h₀ L s.heap news) (hA : A = Ar dp un gd (env :: outer)) (hf : env.frame = some L) (hke : env.scope.kind = .function)
    (hd : dp + D < recursionLimit) (hu : un + U < cLine)
    (hled : ∀ p ∈ led, p ∈ news) (hrest : ∀ p ∈ rest, p ∈ news ∧ p.1 ∉ led.map (·.1)) (hpre : ∀ g, (∀ b o, s.heap.get? b = some o → b ∉ led.map (·.1) → g.get? b = some o) → pre g)
    (BM : Bm h₀ mg) (hgs : AllBare s.gens)
    (h : ∀ v led' h' gs' tk', Post v led' → Fr h₀ L h' m → News h₀ L h' (led' ++ rest) → (∀ b o, s.heap.get? b = some o → b ∉ led.map (·.1) → h'.get? b = some o) → AllBare gs' → (∀ q ∈ led', ∀ p ∈ rest, @Ne Nat q.1 p.1) → Q v { s with heap := h', gens := gs', toks := tk' }) :
    G A Q E s := by
  subst hA
  obtain ⟨g, FG, BG, XG, TG, LG, back⟩ := base_of (A := Ar dp un gd (env :: outer)) B F X T (fun p hp => N p (hled p hp)) rfl hf hke
  refine c dp un gd (env :: outer) base g (fun _ => none) mg mb s Q E hd hu BG XG TG LG (hpre g back) (BM.keeps FG.keep) hgs fun v led' h' gs' tk' hp l hb => ?_
  refine h v led' h' gs' tk' hp ⟨FG.ns.at' fun o e => l.keep _ o e, fun b o e => l.keep b o (FG.keep b o e), F.above⟩ (fun q hq => ?_) (fun b o e n => l.keep b o (back b o e n)) hb (fun q hq p hp e => ?_)
  rotate_left
  · obtain ⟨a, b⟩ := hrest p hp
    have z := (l.at_ q hq).2
    have e' : q.1 = p.1 := e
    rw [e', back _ _ (N p a).1 b] at z
    cases z
  rcases List.mem_append.mp hq with hq | hq
  · refine ⟨(l.at_ q hq).1, fun e => ?_, ?_⟩
    · obtain ⟨o, _, _, ho, _⟩ := FG.ns
      have := (l.at_ q hq).2
      rw [e, ho] at this; cases this
    · cases z : h₀.get? q.1 with
      | none => rfl
      | some o => have := (l.at_ q hq).2; rw [FG.keep _ _ z] at this; cases this
  · obtain ⟨a, b⟩ := hrest q hq
    exact ⟨l.keep _ _ (back _ _ (N q a).1 b), (N q a).2⟩
theorem mut1_callG (c : MutG G w p' loose D U pre [(a, o)] Post) (B : Below A₀ base outer h₀) (F : Fr h₀ L s.heap m) (X : (Kf w.params).In h₀) (T : TopRead p' loose mg mb h₀) (N : News h₀ L s.heap news) (hA : A = Ar dp un gd (env :: outer)) (hf : env.frame = some L) (hke : env.scope.kind = .function)
    (hd : dp + D < recursionLimit) (hu : un + U < cLine) (BM : Bm h₀ mg) (hgs : AllBare s.gens) (Uf : UpdF a o news fN)
    (hpre : ∀ g, (∀ b o', s.heap.get? b = some o' → b ≠ a → g.get? b = some o') → pre g) (hpost : ∀ v led', Post v led' → ∃ extra o', led' = extra ++ [(a, o')])
    (h : ∀ v extra o' h' gs' tk', Post v (extra ++ [(a, o')]) → Fr h₀ L h' m → News h₀ L h' (extra ++ fN o') → AllBare gs' → (∀ b ob, s.heap.get? b = some ob → b ≠ a → h'.get? b = some ob) → (∀ q ∈ extra, ∀ p ∈ fN o', p.1 ≠ a → @Ne Nat q.1 p.1) → Q v { s with heap := h', gens := gs', toks := tk' }) :
    G A Q E s := by
  obtain ⟨p1, p2, rfl, hfN, h1, h2⟩ := Uf.split
  refine mut_callG (rest := p1 ++ p2) c B F X T N hA hf hke hd hu (fun p hp => ?_) (fun p hp => ?_) (fun g hg => hpre g fun b o' e n => hg b o' e (by simpa using n)) BM hgs fun v led' h' gs' tk' hP F' N' hk hb hne => ?_
  · rw [List.mem_singleton.mp hp]; simp
  · rcases List.mem_append.mp hp with hp | hp
    · exact ⟨List.mem_append_left _ hp, by simpa using h1 p hp⟩
    · exact ⟨List.mem_append_right _ (.tail _ hp), by simpa using h2 p hp⟩
  · obtain ⟨extra, o', rfl⟩ := hpost v led' hP
    refine h v extra o' h' gs' tk' hP F' (fun q hq => N' q ?_) hb (fun b ob e n => hk b ob e (by simpa using n)) fun q hq p hp np => ?_
    rotate_left
    · refine hne q (List.mem_append_left _ hq) p ?_
      rw [hfN] at hp
      rcases List.mem_append.mp hp with hp | hp
      · exact List.mem_append_left _ hp
      · rcases List.mem_cons.mp hp with rfl | hp
        · exact absurd rfl np
        · exact List.mem_append_right _ hp
    rw [hfN] at hq
    simp only [List.mem_append, List.mem_cons, List.not_mem_nil, or_false] at hq ⊢
    rcases hq with hq | hq | hq | hq
    · exact .inl (.inl hq)
    · exact .inr (.inl hq)
    · exact .inl (.inr hq)
    · exact .inr (.inr hq)
end
section
variable {w : World} {p' : Program} {loose : List Str} {news : List (Addr × Obj)} {fN : Obj → List (Addr × Obj)}
  {A₀ A : Around} {s : Shared} {base h₀ : Heap} {outer : List Env} {L a d : Addr} {m mg mb : Str → Option Value} {env : Env} {Q E : Value → Shared → Prop} {dp un : Nat} {gd : Option (List Code)}
  {k u : Tok} {its : List Value} {n : Nat}
theorem pushM_K {q : Addr} {x y : Str} {tx ty : Tok} (B : Below A₀ base outer h₀) (F : Fr h₀ L s.heap m) (X : (Kf w.params).In h₀) (T : TopRead p' loose mg mb h₀) (N : News h₀ L s.heap news) (hA : A = Ar dp un gd (env :: outer)) (hf : env.frame = some L) (hke : env.scope.kind = .function)
    (hd : dp + 3 < recursionLimit) (hu : un + 20 < cLine) (BM : Bm h₀ mg) (hgs : AllBare s.gens) (hq : (q, methodObj (.ref 122) (.ref a)) ∈ news) (U : UpdF a (accO d its n) news fN) (hdd : s.heap.get? d = some (accD w k u)) (hz : its.length ≤ 900)
    (h : ∀ t n' mm h' gs' tk', Fr h₀ L h' m → News h₀ L h' ((t, tupO x tx y ty mm) :: fN (accO d (its ++ [.ref t]) n')) → AllBare gs' → (∀ p ∈ fN (accO d (its ++ [.ref t]) n'), @Ne Nat t p.1) → Q .none { s with heap := h', gens := gs', toks := tk' }) :
    wpAny (model PySem.Challenge.rw_xn0030_01.row.prog w) A (call (.ref q) [.str x tx, .str y ty]) Q E s := by
  refine call_meth N hq ?_
  refine mut1_callG (G := fun A Q E s => codeAny (model PySem.Challenge.rw_xn0030_01.row.prog w) A (.call (.ref 122) ⟨[.ref a, .str x tx, .str y ty], []⟩) (fun r s' => match r with | .ok (.ret v) => Q v s' | .ok _ => False | .error e => E e s') s) (push_code w p' loose a d k u its n x y tx ty hz) B F X T N hA hf hke hd hu BM hgs U (fun g hg => hg d _ hdd (ne_cls hdd (N _ (updF_mem U)).1 (by intro z; cases z))) (fun v led' hP => ?_) fun v extra o' h' gs' tk' hP F' N' hb hk hne => ?_
  · obtain ⟨-, t, n', mm, e⟩ := hP; exact ⟨_, _, e⟩
  · obtain ⟨rfl, t, n', mm, e⟩ := hP
    obtain ⟨e1, e2⟩ := List.append_inj' e rfl
    subst e1
    have e3 := (Prod.mk.inj (List.cons.inj e2).1).2
    subst e3
    refine h t n' mm h' gs' tk' F' N' hb fun p hp => ?_
    rcases updF_upd U _ p hp with rfl | ⟨hp1, hp2⟩
    · exact News.neCls N' (.head _) (.tail _ (updF_mem' U _)) (by intro z; cases z)
    · exact hne _ (.head _) p hp hp2
end
section
variable {prog : Program} {w : World} {A : Around} {E : Value → Shared → Prop} {s : Shared} {env : Env}
theorem SCall {M : Model} {o e : PySem.Expr} {name : Str} {apos pos p : Pos} {Q : Value → Shared → Prop}
    (h : wpAny M A (eval o env) (fun ov s₁ => wpAny M A (getAttr ov name true) (fun f s₂ => wpAny M A (callWith pos f [] (backTo pos (starEach [.Starred e p] env)) []) Q E s₂) E s₁) E s)
    (he : eval (.Call (.Attribute o name apos) [.Starred e p] [] pos) env = (do
      let ov ← eval o env
      standAt apos.atName
      let (f, first) ← holding [ov] (do pure (← getAttr ov name true, []))
      callWith pos f first (backTo pos (starEach [.Starred e p] env)) []) := by rfl) :
    wpAny M A (eval (.Call (.Attribute o name apos) [.Starred e p] [] pos) env) Q E s := by
  rw [he]
  exact wpAny_bind (wpAny_mono h (fun ov s₁ h₁ => wpAny_bind (wpAny_standAt (wpAny_bind (wpAny_holding (wpAny_bind (wpAny_mono h₁ (fun f s₂ h₂ => wpAny_pure h₂) fun _ _ x => x)))))) fun _ _ x => x)
end
section
variable {M : Model} {A : Around} {E : Value → Shared → Prop} {s : Shared} {K : Frag} {env : Env} {pos p : Pos} {first : List Value} {Q : Value → Shared → Prop} {h₀ : Heap} {L : Addr} {e : PySem.Expr} {news : List (Addr × Obj)}
theorem callWith_SM {q g : Addr} {self : Value} (_X : K.In h₀) (_N : News h₀ L s.heap news) (_q : (q, methodObj (.ref g) self) ∈ news) (hf : fnIn K g = true) (h : wpAny M A (eval e env) (fun v s₁ => StarOf M A E v (fun vs s₂ => MethP K q g self s₂.heap ∧ wpAny M A (call (.ref q) (first ++ vs)) Q E s₂) s₁) E s)
    (he : starEach [.Starred e p] env = [(true, eval e env)] := by rfl) :
    wpAny M A (callWith pos (.ref q) first (backTo pos (starEach [.Starred e p] env)) []) Q E s := by
  rw [he]
  exact ks_call rfl (keeps_M hf) (ks_lone h)
end
section
variable {prog : Program} {w : World} {A : Around} {E : Value → Shared → Prop} {s : Shared} {K : Frag} {x C L f : Addr} {h₀ : Heap} {m : Str → Option Value} {ox : Obj} {od : Option Obj} {name : Str} {news : List (Addr × Obj)}
/-- a bound method of an instance of a class over list -/
theorem get_methL {expr : Bool} {Q : Value → Shared → Prop} (F : Fr h₀ L s.heap m) (N : News h₀ L s.heap news) (X : K.In s.heap) (I : InstAt s.heap x ox C od) (hga : findIn K (.ref C) "__getattribute__" = some (some (.builtin "list.__getattribute__")))
    (hk : findIn K (.ref C) "__getattr__" = some none) (hsub : mroIn K C (.type "list") = some true) (hf : findObj K C od name = some (.bind (.builtin "function.__get__") (.ref f))) (ht : typeIn K (.ref f) = some (.type "function"))
    (h : ∀ q h', Fr h₀ L h' m → News h₀ L h' ((q, methodObj (.ref f) (.ref x)) :: news) → (∀ p ∈ news, p.1 < q) → Q (.ref q) { s with heap := h', toks := s.toks + 1 }) : wpAny (model prog w) A (getAttr (.ref x) name expr) Q E s := by
  obtain ⟨hh', gg, d, t, os⟩ := s
  have L0 := I.type (M := model prog w)
  have L1 := looks_findIn (M := model prog w) X hga
  have L2 := looks_findIn (M := model prog w) X hk
  have L3 := looks_find (M := model prog w) X I hf
  unfold getAttr getAttrBy
  refine wpAny_bind (wpAny_mkText (wpAny_holding (wpAny_bind (L0.at (wpAny_bind (L1.at ?_))))))
  show wpAny _ _ (getAttrByItsOwn _ _ _ _ _ _) _ _ _
  unfold getAttrByItsOwn
  refine wpAny_bind (L2.at (wpAny_bind (wpAny_attempt (wpAny_holding ?_))))
  show wpAny _ _ (callGetattribute _ _ _ _) _ _ _
  unfold callGetattribute
  rw [if_neg (by simp [onTheHeap])]
  unfold boundAndCalled
  rw [bind_own O_ga]
  refine wpAny_bind (wpAny_pure (call_sub O_ga X I hsub ?_))
  refine wpAny_bind (wpAny_pure (wpAny_bind (wpAny_pure (wpAny_bind (L0.at (wpAny_bind (L3.at ?_)))))))
  show wpAny _ _ (holding [.ref f] (call (.builtin "function.__get__") [.ref f, .ref x, .ref C]) >>= ret) _ _ _
  refine wpAny_bind (wpAny_holding (wpAny_call (fn_get X ht ?_)))
  refine wpAny_pure ⟨_, rfl, ?_⟩
  show wpAny _ _ (handedOut _) _ _ _
  rw [handedOut_of rfl]
  exact wpAny_pure (h _ _ (F.push _) (N.push F _) fun p hp => Heap.lt_size (N p hp).1)
theorem findObj_fn {od : Obj} (hh : hasDictIn K C = true) (ha : findIn K (.ref C) name = some (some (.ref f))) (hg : specialIn K (.ref f) "__get__" = some (some (.builtin "function.__get__"))) (ht : takesIn K (.ref f) = some false) (hl : lookIn name od = some none) (hcn : copiedNames.contains name = false) :
    findObj K C (some od) name = some (.bind (.builtin "function.__get__") (.ref f)) := by
  obtain ⟨cd, hc, hd⟩ := any_some hh
  unfold findObj
  have ho : PySem.W.ownOf cd (some od) name = some none := by unfold PySem.W.ownOf; rw [if_pos hd]; exact hl
  rw [hc, Option.bind_some, ha, Option.bind_some]
  have hcn' : ¬ name ∈ copiedNames := by simpa using hcn
  simp [hg, ht, ho, hcn']
end
end
theorem kw23 : True := by
  k_with "call ref" => ((k_here; (try dsimp only [List.cons_append, List.nil_append]); (with_reducible show wpAny _ _ (call (Value.ref 167) _) _ _ _); (refine ow_K (by assumption) (by k_asm) (by k_asm) (by k_asm) (by k_asm) (by exact rfl) (by exact rfl) (by exact rfl) (by k_room) (by k_room) (by assumption) (by first | assumption | (dsimp only; assumption)) (by k_updF) (by (intro o; k_updF)) (by first | exact News.get (by k_asm) (by k_mem) | exact Fr.keep (by k_asm) _ _ (by assumption)) (by first | exact News.get (by k_asm) (by k_mem) | exact Fr.keep (by k_asm) _ _ (by assumption)) (by k_offL) (by assumption) (by assumption) (by first | exact .inl rfl | exact .inr rfl) ?_; intro ps1' ps2' h' gs' tk' hp1' hp2' F' N' hb')))
  k_with "eval Call Attribute" => ((k_here; (with_reducible show wpAny _ _ (eval (Expr.Call (Expr.Attribute _ _ _) [Expr.Starred _ _] [] _) _) _ _ _); (refine SCall ?_)))
  k_with "getAttr ref" => ((k_here; (refine get_methL (by k_asm) (by k_asm) (by k_in) (by k_inst) (by k_is) (by k_is) (by k_is) (findObj_fn (by k_is) (by k_is) (by k_is) (by k_is) (by first | k_get | exact rfl) (by decide)) (by k_is) ?_); intro q' h' F' N' l1; (try k_lt l1)))
  k_with "callWith ref" => ((k_here; (with_reducible show wpAny _ _ (callWith _ (Value.ref _) _ (backTo _ (starEach [Expr.Starred _ _] _)) []) _ _ _); (refine callWith_SM (by k_asm) (by k_asm) (by k_mem) (by k_is) ?_)))
  k_with "call ref" => ((k_here; (try dsimp only [List.cons_append, List.nil_append]); (with_reducible show wpAny _ _ (call (Value.ref _) [Value.str _ _, Value.str _ _]) _ _ _); (refine pushM_K (by assumption) (by k_asm) (by k_asm) (by k_asm) (by k_asm) (by exact rfl) (by exact rfl) (by exact rfl) (by k_room) (by k_room) (by assumption) (by first | assumption | (dsimp only; assumption))  (by k_mem) (by k_updF) (by first | exact News.get (by k_asm) (by k_mem) | exact Fr.keep (by k_asm) _ _ (by assumption)) (by first | omega | (simp; done) | (simp; omega)) ?_; intro t' n' mm' h' gs' tk' F' N' hb' ne'; (try simp only [List.nil_append, List.cons_append] at N'); (simp only [List.forall_mem_cons, List.not_mem_nil, false_implies, implies_true, and_true, ne_eq, not_true_eq_false, not_false_eq_true, forall_const] at ne'; (try dsimp only at ne')))))
  exact trivial
section
section
theorem nl_fi (w : World) (p' : Program) (loose : List Str) (w0 : Nat) (fa a d ll : Addr) (k u : Tok) (rows its : List Value) (nl n : Nat) (ps1 ps2 : Array Value) (hps1 : TriplesOk ps1.toList) (hps2 : TriplesOk ps2.toList) (hz : rows.length ≤ 100) :
    Mut w p' loose 14 120 56 [.ref fa] (fun h => FmtAt w w0 fa a d ll h ∧ Cells h its [Str.ofString "f", Str.ofString "i"])
      [(ll, listOf rows.toArray nl), (a, accO d its n), (d, accD w k u), (140, tabO ps1), (147, tabO ps2)] (NlPost w a d ll k rows [true, false]) := by
  intro dp un gd outer base g mean mg mb s Q E hd hu B X T Ld ⟨hfm, hcl⟩ BM hgs hret
  obtain ⟨fd, k1, k2, k3, k4, k5, k6, u1, u2, u3, u4, hfa, hfd⟩ := hfm
  obtain _ | ⟨et0, hcl⟩ := hcl
  obtain _ | ⟨et1, hcl⟩ := hcl
  cases hcl
  revert X; k_fill; intro X
  refine wpAny_call ?_
  refine' mut_enter X T Ld ?k6 ?k7 ?k8 ?k9 ?kB ?_ ?c2 ?c3 ?c4 ?c5
  (case k6 => k_is)
  (case k7 => k_is)
  (case k8 => (show dp < _; omega))
  (case k9 => first | exact BindsTo.of_eq rfl | exact binds_K (X.keeps Ld.keep) rfl (by k_is) rfl rfl rfl)
  (case kB => exact locs rfl)
  (case c2 => exact rfl)
  (case c3 => exact rfl)
  (case c4 => exact rfl)
  (case c5 => decide)
  intro L' h' F' N'
  try dsimp only
  have n1 : @Ne Nat ll a := News.neCls N' (by k_mem) (by k_mem) (by simp)
  have n2 : @Ne Nat ll d := News.neCls N' (by k_mem) (by k_mem) (by simp)
  have n3 : @Ne Nat ll 140 := News.neCls N' (by k_mem) (by k_mem) (by simp)
  have n4 : @Ne Nat ll 147 := News.neCls N' (by k_mem) (by k_mem) (by simp)
  have n5 : @Ne Nat a d := News.neCls N' (by k_mem) (by k_mem) (by simp)
  have n6 : @Ne Nat a 140 := News.neCls N' (by k_mem) (by k_mem) (by simp)
  have n7 : @Ne Nat a 147 := News.neCls N' (by k_mem) (by k_mem) (by simp)
  have n8 : @Ne Nat d 140 := News.neCls N' (by k_mem) (by k_mem) (by simp)
  have n9 : @Ne Nat d 147 := News.neCls N' (by k_mem) (by k_mem) (by simp)
  k_steps
  (try dsimp only)
  refine hret _ _ _ _ _ ?_ (Led.of_frame (by assumption) (by assumption)) (by first | assumption | (dsimp only; assumption))
  simp only [List.push_toArray, line_fi]
  exact ⟨rfl, [_, _, _], _, _, _, _, _, _, _, rfl, by assumption, by assumption⟩
end
end
section
section
theorem nl_ffi (w : World) (p' : Program) (loose : List Str) (w0 : Nat) (fa a d ll : Addr) (k u : Tok) (rows its : List Value) (nl n : Nat) (ps1 ps2 : Array Value) (hps1 : TriplesOk ps1.toList) (hps2 : TriplesOk ps2.toList) (hz : rows.length ≤ 100) :
    Mut w p' loose 14 120 56 [.ref fa] (fun h => FmtAt w w0 fa a d ll h ∧ Cells h its [Str.ofString "f", Str.ofString "f", Str.ofString "i"])
      [(ll, listOf rows.toArray nl), (a, accO d its n), (d, accD w k u), (140, tabO ps1), (147, tabO ps2)] (NlPost w a d ll k rows [true, true, false]) := by
  intro dp un gd outer base g mean mg mb s Q E hd hu B X T Ld ⟨hfm, hcl⟩ BM hgs hret
  obtain ⟨fd, k1, k2, k3, k4, k5, k6, u1, u2, u3, u4, hfa, hfd⟩ := hfm
  obtain _ | ⟨et0, hcl⟩ := hcl
  obtain _ | ⟨et1, hcl⟩ := hcl
  obtain _ | ⟨et2, hcl⟩ := hcl
  cases hcl
  revert X; k_fill; intro X
  refine wpAny_call ?_
  refine' mut_enter X T Ld ?k6 ?k7 ?k8 ?k9 ?kB ?_ ?c2 ?c3 ?c4 ?c5
  (case k6 => k_is)
  (case k7 => k_is)
  (case k8 => (show dp < _; omega))
  (case k9 => first | exact BindsTo.of_eq rfl | exact binds_K (X.keeps Ld.keep) rfl (by k_is) rfl rfl rfl)
  (case kB => exact locs rfl)
  (case c2 => exact rfl)
  (case c3 => exact rfl)
  (case c4 => exact rfl)
  (case c5 => decide)
  intro L' h' F' N'
  try dsimp only
  have n1 : @Ne Nat ll a := News.neCls N' (by k_mem) (by k_mem) (by simp)
  have n2 : @Ne Nat ll d := News.neCls N' (by k_mem) (by k_mem) (by simp)
  have n3 : @Ne Nat ll 140 := News.neCls N' (by k_mem) (by k_mem) (by simp)
  have n4 : @Ne Nat ll 147 := News.neCls N' (by k_mem) (by k_mem) (by simp)
  have n5 : @Ne Nat a d := News.neCls N' (by k_mem) (by k_mem) (by simp)
  have n6 : @Ne Nat a 140 := News.neCls N' (by k_mem) (by k_mem) (by simp)
  have n7 : @Ne Nat a 147 := News.neCls N' (by k_mem) (by k_mem) (by simp)
  have n8 : @Ne Nat d 140 := News.neCls N' (by k_mem) (by k_mem) (by simp)
  have n9 : @Ne Nat d 147 := News.neCls N' (by k_mem) (by k_mem) (by simp)
  k_steps
  (try dsimp only)
  refine hret _ _ _ _ _ ?_ (Led.of_frame (by assumption) (by assumption)) (by first | assumption | (dsimp only; assumption))
  simp only [List.push_toArray, line_ffi]
  exact ⟨rfl, [_, _, _], _, _, _, _, _, _, _, rfl, by assumption, by assumption⟩
end
end
section
theorem nl_any (w : World) (p' : Program) (loose : List Str) (w0 : Nat) (fa a d ll : Addr) (k u : Tok) (rows its : List Value) (nl n : Nat) (ps1 ps2 : Array Value) (hps1 : TriplesOk ps1.toList) (hps2 : TriplesOk ps2.toList) (hz : rows.length ≤ 100) {row : List Bool} (hrow : row = [true, false] ∨ row = [true, true, false]) :
    Mut w p' loose 14 120 56 [.ref fa] (fun h => FmtAt w w0 fa a d ll h ∧ Cells h its (row.map ltr))
      [(ll, listOf rows.toArray nl), (a, accO d its n), (d, accD w k u), (140, tabO ps1), (147, tabO ps2)] (NlPost w a d ll k rows row) := by
  rcases hrow with rfl | rfl
  · exact nl_fi w p' loose w0 fa a d ll k u rows its nl n ps1 ps2 hps1 hps2 hz
  · exact nl_ffi w p' loose w0 fa a d ll k u rows its nl n ps1 ps2 hps1 hps2 hz
theorem Cells.keepsL {h g : Heap} {its : List Value} {xs : List Str} (c : Cells h its xs) (k : ∀ x o, h.get? x = some o → o.cls = .type "tuple" → g.get? x = some o) : Cells g its xs := by
  induction c with
  | nil => exact .nil
  | cons e _ ih => exact .cons (k _ _ e rfl) ih
theorem FmtAt.keepsL {w : World} {w0 : Nat} {fa a d ll : Addr} {h g : Heap} (c : FmtAt w w0 fa a d ll h) (k : ∀ b o, h.get? b = some o → g.get? b = some o) : FmtAt w w0 fa a d ll g := by
  obtain ⟨fd, k1, k2, k3, k4, k5, k6, u1, u2, u3, u4, h1, h2⟩ := c
  exact ⟨fd, k1, k2, k3, k4, k5, k6, u1, u2, u3, u4, k _ _ h1, k _ _ h2⟩
section
variable {w : World} {p' : Program} {loose : List Str}
  {A₀ A : Around} {s : Shared} {base h₀ : Heap} {outer : List Env} {L a d fa ll : Addr} {m mg mb : Str → Option Value} {env : Env} {Q E : Value → Shared → Prop} {dp un : Nat} {gd : Option (List Code)}
  {k u : Tok} {its rows : List Value} {n nl w0 : Nat} {ps1 ps2 : Array Value}
noncomputable abbrev led5 (w : World) (a d ll : Addr) (k u : Tok) (its rows : List Value) (n nl : Nat) (ps1 ps2 : Array Value) : List (Addr × Obj) := [(ll, listOf rows.toArray nl), (a, accO d its n), (d, accD w k u), (140, tabO ps1), (147, tabO ps2)]
theorem led5_cls {b : Addr} {o : Obj} (N : News h₀ L s.heap (led5 w a d ll k u its rows n nl ps1 ps2)) (e : s.heap.get? b = some o) (hc : o.cls = .type "tuple") : b ∉ (led5 w a d ll k u its rows n nl ps1 ps2).map (·.1) := by
  intro hm
  obtain ⟨q, hq, rfl⟩ := List.mem_map.mp hm
  have := (N q hq).1.symm.trans e
  have z : q.2.cls = .type "tuple" := by rw [Option.some.inj this]; exact hc
  simp only [led5, List.mem_cons, List.not_mem_nil, or_false] at hq
  rcases hq with rfl | rfl | rfl | rfl | rfl <;> simp at z
theorem nl_K {row : List Bool} (hrow : row = [true, false] ∨ row = [true, true, false]) (B : Below A₀ base outer h₀) (F : Fr h₀ L s.heap m) (X : (Kf w.params).In h₀) (T : TopRead p' loose mg mb h₀) (N : News h₀ L s.heap (led5 w a d ll k u its rows n nl ps1 ps2)) (hA : A = Ar dp un gd (env :: outer)) (hf : env.frame = some L) (hke : env.scope.kind = .function)
    (hd : dp + 14 < recursionLimit) (hu : un + 120 < cLine) (BM : Bm h₀ mg) (hgs : AllBare s.gens) (hfm : FmtAt w w0 fa a d ll h₀) (hc : Cells h₀ its (row.map ltr)) (hps1 : TriplesOk ps1.toList) (hps2 : TriplesOk ps2.toList) (hz : rows.length ≤ 100)
    (h : ∀ ex t nl' its' n' u' ps1' ps2' h' gs' tk', TriplesOk ps1'.toList → TriplesOk ps2'.toList → Fr h₀ L h' m → News h₀ L h' (ex ++ led5 w a d ll k u' its' (rows ++ [Value.str (lineS row) t]) n' nl' ps1' ps2') → AllBare gs' → Q .none { s with heap := h', gens := gs', toks := tk' }) :
    wpAny (model PySem.Challenge.rw_xn0030_01.row.prog w) A (call (.ref 56) [.ref fa]) Q E s := by
  have off : ∀ b o, h₀.get? b = some o → b ∉ (led5 w a d ll k u its rows n nl ps1 ps2).map (·.1) := by
    intro b o e hm
    obtain ⟨q, hq, rfl⟩ := List.mem_map.mp hm
    have := (N q hq).2.2
    rw [e] at this; cases this
  refine mut_callN (rest := []) (nl_any w p' loose w0 fa a d ll k u rows its nl n ps1 ps2 hps1 hps2 hz hrow) B F X T N hA hf hke hd hu (fun p hp => hp) (fun p hp => nomatch hp) (fun g hg => ?_) BM hgs fun v led' h' gs' tk' hP F' N' hk hb hne => ?_
  · have hk : ∀ b o, h₀.get? b = some o → g.get? b = some o := fun b o e => hg b o (F.keep b o e) (off b o e)
    exact ⟨hfm.keepsL hk, hc.keeps hk⟩
  · obtain ⟨rfl, ex, t, nl', its', n', u', ps1', ps2', rfl, t1, t2⟩ := hP
    rw [List.append_nil] at N'
    exact h ex t nl' its' n' u' ps1' ps2' h' gs' tk' t1 t2 F' N' hb
end
end
theorem kw24 : True := by
  k_with "call ref" => ((k_here; (try dsimp only [List.cons_append, List.nil_append]); (with_reducible show wpAny _ _ (call (Value.ref 56) [Value.ref _]) _ _ _); (refine nl_K (by assumption) (by assumption) (by k_asm) (by k_asm) (by k_asm) (by k_asm) (by exact rfl) (by exact rfl) (by exact rfl) (by k_room) (by k_room) (by assumption) (by first | assumption | (dsimp only; assumption))  (by assumption) (by assumption) (by assumption) (by assumption) (by assumption) ?_; intro ex' t' nl' its' n' u' ps1' ps2' h' gs' tk' hp1' hp2' F' N' hb')))
  exact trivial
section
section
theorem strsAre_snoc {vs : List Value} {xs : List Str} (h : StrsAre vs xs) (x : Str) (t : Tok) : StrsAre (vs ++ [Value.str x t]) (xs ++ [x]) := by
  induction h with
  | nil => exact .cons x t .nil
  | cons y u _ ih => exact .cons y u ih
theorem strsAre_len {vs : List Value} {xs : List Str} (h : StrsAre vs xs) : vs.length = xs.length := by
  induction h with
  | nil => rfl
  | cons y u _ ih => simp [ih]
theorem sum_len_le {xs : List Str} (h : ∀ x ∈ xs, x.length ≤ 3) : (xs.map (·.length)).sum ≤ 3 * xs.length := by
  induction xs with
  | nil => simp
  | cons x xs ih => have := ih fun y hy => h y (.tail _ hy); have := h x (.head _); simp only [List.map_cons, List.sum_cons, List.length_cons]; omega
theorem lineS_len {row : List Bool} (hrow : row = [true, false] ∨ row = [true, true, false]) : (lineS row).length ≤ 3 := by
  rcases hrow with rfl | rfl
  · rw [← line_fi]; decide
  · rw [← line_ffi]; decide
theorem str42 (w : World) (p' : Program) (loose : List Str) (w0 : Nat) (fa a d ll : Addr) (k u ts : Tok) (rows its : List Value) (nl n : Nat) (ps1 ps2 : Array Value) (lines : List Str) (row : List Bool) (hrow : row = [true, false] ∨ row = [true, true, false]) (hsa : StrsAre rows lines) (hlen : ∀ x ∈ lines, x.length ≤ 3) (hps1 : TriplesOk ps1.toList) (hps2 : TriplesOk ps2.toList) (hz : rows.length ≤ 100) :
    Mut w p' loose 18 140 42 [.ref fa, .str (Str.ofString "\n") ts] (fun h => FmtAt w w0 fa a d ll h ∧ Cells h its (row.map ltr)) (led5 w a d ll k u its rows n nl ps1 ps2)
      (fun v led' => (∃ t, v = .str (Txt.join (Str.ofString "\n") (lines ++ [lineS row])) t) ∧ ∃ ex ps1' ps2', led' = ex ++ [(140, tabO ps1'), (147, tabO ps2')] ∧ TriplesOk ps1'.toList ∧ TriplesOk ps2'.toList) := by
  intro dp un gd outer base g mean mg mb s Q E hd hu B X T Ld ⟨hfm, hcl⟩ BM hgs hret
  have hfm' := hfm
  obtain ⟨fd, k1, k2, k3, k4, k5, k6, u1, u2, u3, u4, hfa, hfd⟩ := hfm
  revert X; k_fill; intro X
  refine wpAny_call ?_
  refine' mut_enter X T Ld ?k6 ?k7 ?k8 ?k9 ?kB ?_ ?c2 ?c3 ?c4 ?c5
  (case k6 => k_is)
  (case k7 => k_is)
  (case k8 => (show dp < _; omega))
  (case k9 => first | exact BindsTo.of_eq rfl | exact binds_K (X.keeps Ld.keep) rfl (by k_is) rfl rfl rfl)
  (case kB => exact locs rfl)
  (case c2 => exact rfl)
  (case c3 => exact rfl)
  (case c4 => exact rfl)
  (case c5 => decide)
  intro L' h' F' N'
  try dsimp only
  k_steps
  rename News _ _ _ _ => hN
  rename Fr _ _ _ _ => hF
  have hm := hN (ll, _) (List.mem_append_right _ (.head _))
  have hl' : ∀ x ∈ lines ++ [lineS row], x.length ≤ 3 := fun x hx => by
    rcases List.mem_append.mp hx with hx | hx
    · exact hlen x hx
    · rw [List.mem_singleton.mp hx]; exact lineS_len hrow
  have hs := sum_len_le hl'
  have hll := strsAre_len hsa
  refine join_list ⟨_, hm.1, rfl, _, rfl⟩ (strsAre_snoc hsa _ _) (by have : (Str.ofString "\n").length = 1 := by decide
                                                                     rw [this]; simp only [List.length_append, List.length_cons, List.length_nil] at hs ⊢; omega) fun t k => ?_
  refine hret _ _ _ _ _ ?_ (Led.of_frame hF hN) (by first | assumption | (dsimp only; assumption))
  exact ⟨⟨_, rfl⟩, _, _, _, (List.append_assoc _ [_, _, _] [_, _]).symm, by assumption, by assumption⟩
end
end
end
theorem kw25 : True := by
  k_with_none
  k_with "getMethod ref" => ((k_here; k_dflt (refine' method_bi ?k1 ?k2 ?k3 ?k4 ?k5 ?k6 ?k7 ?_; (case k1 => k_in); (case k2 => k_inst); (case k3 => k_is); (case k4 => k_is); (case k5 => k_is); (case k6 => exact T_append); (case k7 => first | assumption | rfl); k_whole)))
  k_with "getMethod ref" => ((k_here; k_dflt (refine' method_fnL ?k1 ?k2 ?k3 ?k4 ?k5 ?k6 ?k7 ?_; (case k1 => k_in); (case k2 => k_inst); (case k3 => k_is); (case k4 => k_is); (case k5 => k_is); (case k6 => k_is); (case k7 => first | assumption | rfl); k_whole)))
  k_with "getMethod ref" => ((k_here; k_dflt (refine' super_methK ?k1 ?k2 ?k3 ?k4 ?k5 ?k6 ?k7 ?k8 ?k9 ?kA ?kB ?kC ?_; (case k1 => k_asm); (case k2 => k_asm); (case k3 => k_asm); (case k4 => k_mem); (case k5 => k_inst); (case k6 => k_is); (case k7 => ks_is); (case k8 => k_is); (case kB => first | exact binds_pop | exact binds_len | exact binds_init); (case k9 => kernel_rfl); (case kA => first | exact slot_md_get.lookup | exact slot_wd_get.lookup); (case kC => decide); intro q' h' F' N' l1; (try k_lt l1))))
  k_with "callWith ref" => ((k_here; k_dflt (refine' callWith_B0 ?k1 ?k2 ?k3 ?_; (case k1 => exact (News.get (by k_asm) (by k_mem))); (case k2 => rfl); (case k3 => rfl); k_whole)))
  k_with "call ref" => ((k_here; k_dflt (refine' len_B ?k1 ?k2 ?k3 ?_; (case k1 => exact (News.get (by k_asm) (by k_mem))); (case k2 => first | exact (News.get (by k_asm) (by k_mem)) | exact Fr.keep (by k_asm) _ _ (by assumption)); (case k3 => omega); k_whole); intro _))
  k_with "call ref" => ((k_here; k_dflt (refine' pop_B ?k1 ?k2 ?k3 ?k4 ?k5 ?k6 ?k7 ?k8 ?k9 ?kA ?kB ?_; (case k1 => k_asm); (case k2 => k_asm); (case k3 => k_in); (case k4 => k_inst); (case k5 => exact (News.get (by k_asm) (by k_mem))); (case k6 => k_is); (case k7 => decide +kernel); (case k8 => k_is); (case k9 => k_is); (case kA => omega); (case kB => k_upd); k_whole); intro h' F' N'))
  k_with "call builtin:list.append" => ((k_here; k_dflt (refine' append_sub ?k1 ?k2 ?k3 ?k4 ?k5 ?k6 ?k7 ?_; (case k1 => k_asm); (case k2 => k_asm); (case k3 => k_asm); (case k4 => k_inst); (case k5 => k_is); (case k6 => k_upd); (case k7 => omega); k_whole; intro h' F' N')))
  k_with "wpAt" => ((dsimp only; walk_at "wpAt"))
  k_with "wpAt" => ((ks_step "eval Call"; (with_unfolding_all refine ks_wpAt_MethodCall (pl := (do return (← importBound _ _).getD true)) ?_)))
  k_with "setItem ref ref" => ((k_here; k_dflt (refine' setSlice_sub ?k1 ?k2 ?k3 ?k4 ?k5 ?k6 ?k7 ?k8 ?k9 ?kA ?kB ?kC ?kD ?kE ?_; (case k1 => k_asm); (case k2 => k_asm); (case k3 => k_asm); (case k4 => k_inst); (case k5 => k_is); (case k6 => k_is); (case k7 => k_is); (case kA => first | exact News.get (by k_asm) (by k_mem) | exact Fr.keep (by k_asm) _ _ (by assumption)); (case k8 => first | omega | k_ne); (case k9 => first | exact PySem.IsPart.none | exact PySem.IsPart.int _ _); (case kB => first | exact cut_all _ _ | exact cut_from _ _ (by omega)); (case kC => k_upd); (case kD => first | omega | (simp; done) | (simp; omega)); (case kE => first | omega | (simp; done) | (simp; omega)); k_whole); intro h' F' N'))
  k_with "setAttr ref" => ((k_here; k_dflt (refine' set_dictL ?k1 ?k2 ?k3 ?k4 ?k5 ?k6 ?k7 ?k8 ?k9 ?kA ?kB ?kC ?kD ?kE ?_; (case k1 => k_asm); (case k2 => k_asm); (case k3 => k_asm); (case k4 => k_inst); (case k5 => exact rfl); (case k6 => k_is); (case k7 => k_is); (case k8 => rfl); (case k9 => k_is); (case kA => rfl); (case kB => first | k_get | exact rfl); (case kC => first | k_put | exact rfl); (case kD => k_upd); (case kE => exact Nat.le_of_ble_eq_true rfl); k_whole; intro h' F' N')))
  k_with "subscriptTail Name Slice ref ref" => ((k_here; (with_reducible show wpAny _ _ (subscriptTail _ (PySem.Expr.Slice _ _ none _) (Value.ref _) (Value.ref _)) _ _ _); k_dflt (refine' slice_sub ?k1 ?k2 ?k3 ?k4 ?k5 ?k6 ?k7 ?k8 ?k9 ?kA ?_ ?kB ?kC; (case k1 => k_asm); (case k2 => k_asm); (case k3 => k_asm); (case k4 => k_inst); (case k5 => k_is); (case k6 => k_is); (case k7 => k_is); (case k8 => first | exact PySem.IsPart.none | exact PySem.IsPart.int _ _); (case k9 => first | exact PySem.IsPart.none | exact PySem.IsPart.int _ _); (case kA => exact pick_from _ _ (by omega)); (case kB => with_unfolding_all rfl); (case kC => omega); k_whole); intro D' h' F' N' l1; (try k_lt l1)))
  k_with "wpAt" => ((ks_step "attributeBase Call"; k_here; k_dflt (refine node_sup (by k_asm) (by k_asm) (by k_asm) (by k_asm) (by k_is) (by rfl) (by rfl) (by k_inst) (by k_is) (by rfl) (by first | rfl | decide +kernel) (by k_is) (by k_is) (by k_is) (by k_is) (by decide) (by rfl) (by rfl) (by rfl) (by rfl) (by decide +kernel) (by first | boot_by_name | rfl | kernel_rfl) ?_; intro so' h' F' N' l1; (try k_lt l1))))
  k_with "call ref" => ((k_here; (with_reducible show wpAny _ _ (call (Value.ref 175) _) _ _ _); (refine' pureH_callK (pc_spec _ _ _ _ _ _ _ _ _ _ ?hz ?hkk) ?kB ?kF ?kX ?kT ?kN ?kA ?kf ?kk ?kd ?ku ?kp ?_; (case kA => exact rfl); (case kf => exact rfl); (case kk => exact rfl); (case kp => exact ⟨(by first | exact News.get (by k_asm) (by k_mem) | exact Fr.keep (by k_asm) _ _ (by assumption)), (by first | exact News.get (by k_asm) (by k_mem) | exact Fr.keep (by k_asm) _ _ (by assumption))⟩); (case hkk => first | (simp only [List.length_append, List.length_cons, List.length_nil, Nat.zero_add, Nat.reduceAdd]; rfl) | rfl); (case hz => first | omega | (simp; omega) | simp); (case kB => assumption); (case kF => k_asm); (case kX => k_asm); (case kT => k_asm); (case kN => k_asm); (case kd => ((try dsimp only [Ar, Around.deeper, Around.in1]); omega)); (case ku => ((try dsimp only [Ar, Around.deeper, Around.in1]); omega)); intro v' h' tk' hv' F' N' e'; obtain ⟨_, e9⟩ := hv'; subst e9)))
  exact trivial
section
noncomputable def codeB (b : Bool) : Nat := match b with | true => 102 | false => 105
noncomputable def strOf (bs : List Bool) : Str := ⟨(bs.map codeB).toArray⟩
theorem ltr_code (b : Bool) : (⟨#[codeB b]⟩ : Str) = ltr b := by cases b <;> kernel_rfl
theorem strOf_fi (bs : List Bool) : strOf bs ++ Str.ofString "fi" = strOf (bs ++ [true, false]) := by
  have e : Str.ofString "fi" = ⟨#[102, 105]⟩ := by kernel_rfl
  rw [e]
  show (⟨(bs.map codeB).toArray ++ #[102, 105]⟩ : Str) = ⟨((bs ++ [true, false]).map codeB).toArray⟩
  simp [codeB]
theorem strOf_ascii (bs : List Bool) : (strOf bs).cps.all (· < 128) = true := by
  unfold strOf
  simp only [List.all_toArray, List.all_eq_true, List.mem_map, decide_eq_true_eq]
  rintro x ⟨b, -, rfl⟩
  cases b <;> decide
theorem strOf_len (bs : List Bool) : (strOf bs).length = bs.length := by
  show ((bs.map codeB).toArray).size = _
  simp
noncomputable def endRow (r : List Bool) : Bool := r == [true, false] || r == [true, true, false]
noncomputable def okRow (r : List Bool) : Bool := [[], [true], [true, true], [true, false], [true, true, false], [true, false, true]].contains r
noncomputable def okRun (w0 : Nat) : List Bool → List Bool → Bool
  | [], r => endRow r
  | c :: cs, r => okRow r && ((stepR w0 r c).1.all endRow) && okRun w0 cs (stepR w0 r c).2
noncomputable def addL (ls : List (List Bool)) (o : Option (List Bool)) : List (List Bool) := match o with | none => ls | some l => ls ++ [l]
noncomputable def runL (w0 : Nat) : List Bool → List Bool → List (List Bool) → List (List Bool)
  | [], r, ls => ls ++ [r]
  | c :: cs, r, ls => runL w0 cs (stepR w0 r c).2 (addL ls (stepR w0 r c).1)
theorem endRow_or {r : List Bool} (h : endRow r = true) : r = [true, false] ∨ r = [true, true, false] := by
  unfold endRow at h
  simpa using h
theorem spec_of_okRow (w : World) (p' : Program) (loose : List Str) {r : List Bool} (h : okRow r = true) (c : Bool) : AppSpec w p' loose r c := by
  unfold okRow at h
  simp only [List.contains_eq_mem, List.mem_cons, List.not_mem_nil, or_false, decide_eq_true_eq] at h
  rcases h with rfl | rfl | rfl | rfl | rfl | rfl
  · exact app_n_c w p' loose c
  · exact app_f_c w p' loose c
  · exact app_ff_c w p' loose c
  · exact app_fi_c w p' loose c
  · exact app_ffi_c w p' loose c
  · exact app_fif_c w p' loose c
theorem outR_strs {rows : List Value} {ls : List (List Bool)} (h : StrsAre rows (ls.map lineS)) (o : Option (List Bool)) (t : Tok) : StrsAre (outR rows o t) ((addL ls o).map lineS) := by
  cases o with
  | none => exact h
  | some l =>
    show StrsAre (rows ++ [.str (lineS l) t]) ((ls ++ [l]).map lineS)
    rw [List.map_append]
    exact strsAre_snoc h _ _
theorem addL_len (ls : List (List Bool)) (o : Option (List Bool)) : (addL ls o).length ≤ ls.length + 1 := by
  cases o with
  | none => exact Nat.le_succ _
  | some l => simp [addL]
theorem addL_all {ls : List (List Bool)} {o : Option (List Bool)} (h : ls.all endRow = true) (ho : o.all endRow = true) : (addL ls o).all endRow = true := by
  cases o with
  | none => exact h
  | some l => simpa [addL, h] using ho
section
variable {prog : Program} {w : World} {A : Around} {E : Value → Shared → Prop} {s : Shared} {env : Env} {target : PySem.Expr} {it : Value} {body orelse : List Stmt} {Q : Flow → Shared → Prop}
theorem for_loop (P : List Bool → Shared → Prop) (hstep : ∀ c cs s', P (c :: cs) s' → (∀ s'', P cs s'' → ForRest prog w A E env target it body orelse Q s'') → ForRest prog w A E env target it body orelse Q s')
    (hend : ∀ s', P [] s' → ForRest prog w A E env target it body orelse Q s') (rem : List Bool) (h : P rem s) : ForRest prog w A E env target it body orelse Q s := by
  induction rem generalizing s with
  | nil => exact hend s h
  | cons c cs ih => exact hstep c cs s h fun s'' h'' => ih h''
end
structure LoopSt (w : World) (w0 : Nat) (g : Heap) (L I fa fd a d ll : Addr) (k : Tok) (mm : Option Value → Str → Option Value) (od : Obj) (x : Str) (t : Tok) (out : List (List Bool)) (s₀ : Shared) (rem : List Bool) (s' : Shared) : Prop where
  ex : ∃ h gs tk ov o i rows ls its row n nl u ps1 ps2, s' = { s₀ with heap := h, gens := gs, toks := tk } ∧ AllBare gs ∧ Fr g L h (mm ov) ∧ News g L h ([(I, o), (fa, instObj 94 fd), (fd, od)] ++ led5 w a d ll k u its rows n nl ps1 ps2) ∧
    o.cls = .type "str_ascii_iterator" ∧ o.data = .fields #[.str x t, .int ((i : Nat) : Int) 0] ∧ (∀ j, x.cps[i + j]? = (rem.map codeB)[j]?) ∧ Cells h its (row.map ltr) ∧ okRun w0 rem row = true ∧ StrsAre rows (ls.map lineS) ∧ ls.all endRow = true ∧ ls.length + rem.length ≤ 60 ∧ TriplesOk ps1.toList ∧ TriplesOk ps2.toList ∧ runL w0 rem row ls = out
end
section
theorem fmt_ne_acc {w w' : World} {w0 : Nat} {ws ch : Str} {a ll : Addr} {k1 k2 k3 k4 k5 k6 u1 u2 u3 u4 k u : Tok} : fmtD w w0 ws ch a ll k1 k2 k3 k4 k5 k6 u1 u2 u3 u4 ≠ accD w' k u := by
  intro e
  have := congrArg (fun o : Obj => match o.data with | .dict es _ => es.size | _ => 0) e
  simp at this
theorem Fr.sign {h₀ h : Heap} {L : Addr} {m : Str → Option Value} (F : Fr h₀ L h m) (x : Str) (hx : m x = none) : Fr h₀ L h (fun y => if y = x then none else m y) := by
  have e : (fun y => if y = x then none else m y) = m := by
    funext y
    by_cases hy : y = x
    · rw [if_pos hy, hy, hx]
    · rw [if_neg hy]
  rw [e]; exact F
theorem Fr.sign2 {h₀ h : Heap} {L : Addr} {m : Str → Option Value} {x : Str} {v v' : Option Value} (F : Fr h₀ L h (fun y => if y = x then v' else if y = x then v else m y)) : Fr h₀ L h (fun y => if y = x then v' else m y) := by
  have e : (fun y => if y = x then v' else if y = x then v else m y) = (fun y => if y = x then v' else m y) := by
    funext y
    by_cases hy : y = x
    · rw [if_pos hy, if_pos hy]
    · rw [if_neg hy, if_neg hy, if_neg hy]
  rw [← e]; exact F
section
variable {w : World} {p' : Program} {loose : List Str}
  {A₀ A : Around} {s : Shared} {base h₀ : Heap} {outer : List Env} {L I a d fa fd ll : Addr} {m mg mb : Str → Option Value} {env : Env} {Q E : Value → Shared → Prop} {dp un : Nat} {gd : Option (List Code)}
  {k u : Tok} {its rows : List Value} {n nl w0 : Nat} {ps1 ps2 : Array Value} {o : Obj} {k1 k2 k3 k4 k5 k6 u1 u2 u3 u4 : Tok}
theorem off5 {h : Heap} {led : List (Addr × Obj)} (hN : ∀ p ∈ led, h.get? p.1 = some p.2) {b : Addr} {o : Obj} (e : h.get? b = some o) (hc : ∀ p ∈ led, o ≠ p.2) : b ∉ led.map (·.1) := by
  intro hm
  obtain ⟨q, hq, rfl⟩ := List.mem_map.mp hm
  exact hc q hq (Option.some.inj (e.symm.trans (hN q hq)))
theorem ne5_cls {o : Obj} (h1 : o.cls ≠ .type "list") (h2 : o.cls ≠ .ref 178) (h3 : o.cls ≠ .type "dict") (h4 : o.cls ≠ .none) : ∀ p ∈ led5 w a d ll k u its rows n nl ps1 ps2, o ≠ p.2 := by
  intro p hp e
  subst e
  simp only [led5, List.mem_cons, List.not_mem_nil, or_false] at hp
  rcases hp with rfl | rfl | rfl | rfl | rfl
  · exact h1 rfl
  · exact h2 rfl
  · exact h3 rfl
  · exact h4 rfl
  · exact h4 rfl
theorem ne5_fmt : ∀ p ∈ led5 w a d ll k u its rows n nl ps1 ps2, fmtD w w0 (Str.ofString " ") (Str.ofString "i") a ll k1 k2 k3 k4 k5 k6 u1 u2 u3 u4 ≠ p.2 := by
  intro p hp e
  simp only [led5, List.mem_cons, List.not_mem_nil, or_false] at hp
  rcases hp with rfl | rfl | rfl | rfl | rfl
  · have := congrArg Obj.cls e; simp at this
  · have := congrArg Obj.cls e; simp at this
  · exact fmt_ne_acc e
  · have := congrArg Obj.cls e; simp at this
  · have := congrArg Obj.cls e; simp at this
theorem str_L {row : List Bool} {ts : Tok} {lines : List Str} (hrow : row = [true, false] ∨ row = [true, true, false]) (hsa : StrsAre rows lines) (hlen : ∀ x ∈ lines, x.length ≤ 3) (B : Below A₀ base outer h₀) (F : Fr h₀ L s.heap m) (X : (Kf w.params).In h₀) (T : TopRead p' loose mg mb h₀)
    (N : News h₀ L s.heap ([(fa, instObj 94 fd), (fd, fmtD w w0 (Str.ofString " ") (Str.ofString "i") a ll k1 k2 k3 k4 k5 k6 u1 u2 u3 u4)] ++ led5 w a d ll k u its rows n nl ps1 ps2)) (hA : A = Ar dp un gd (env :: outer)) (hf : env.frame = some L) (hke : env.scope.kind = .function)
    (hd : dp + 18 < recursionLimit) (hu : un + 140 < cLine) (BM : Bm h₀ mg) (hgs : AllBare s.gens) (hc : Cells s.heap its (row.map ltr)) (hps1 : TriplesOk ps1.toList) (hps2 : TriplesOk ps2.toList) (hz : rows.length ≤ 100)
    (h : ∀ t ps1' ps2' h' gs' tk', TriplesOk ps1'.toList → TriplesOk ps2'.toList → Fr h₀ L h' m → News h₀ L h' [(140, tabO ps1'), (147, tabO ps2')] → AllBare gs' → Q (.str (Txt.join (Str.ofString "\n") (lines ++ [lineS row])) t) { s with heap := h', gens := gs', toks := tk' }) :
    wpAny (model PySem.Challenge.rw_xn0030_01.row.prog w) A (call (.ref 42) [.ref fa, .str (Str.ofString "\n") ts]) Q E s := by
  have N5 : ∀ p ∈ led5 w a d ll k u its rows n nl ps1 ps2, s.heap.get? p.1 = some p.2 := fun p hp => (N p (List.mem_append_right _ hp)).1
  have ea := (N (fa, _) (.head _)).1
  have ed := (N (fd, _) (.tail _ (.head _))).1
  have oa := off5 N5 ea (ne5_cls (by simp) (by simp) (by simp) (by simp))
  have od := off5 N5 ed ne5_fmt
  refine mut_callN (rest := []) (str42 w p' loose w0 fa a d ll k u ts rows its nl n ps1 ps2 lines row hrow hsa hlen hps1 hps2 hz) B F X T N hA hf hke hd hu (fun p hp => List.mem_append_right _ hp) (fun p hp => nomatch hp)
    (fun g hg => ⟨⟨fd, k1, k2, k3, k4, k5, k6, u1, u2, u3, u4, hg _ _ ea oa, hg _ _ ed od⟩, hc.keepsL fun x o e ht => hg x o e (led5_cls (fun p hp => N p (List.mem_append_right _ hp)) e ht)⟩) BM hgs fun v led' h' gs' tk' hP F' N' hk hb hne => ?_
  obtain ⟨⟨t, rfl⟩, ex, ps1', ps2', rfl, t1, t2⟩ := hP
  refine h t ps1' ps2' h' gs' tk' t1 t2 F' (fun q hq => N' q ?_) hb
  rw [List.append_nil]
  exact List.mem_append_right _ hq
end
end
section
section
variable {w : World} {h h₀ : Heap} {L I a d fa fd ll : Addr} {k u : Tok} {its rows : List Value} {n nl w0 : Nat} {ps1 ps2 : Array Value} {o : Obj} {k1 k2 k3 k4 k5 k6 u1 u2 u3 u4 : Tok}
noncomputable abbrev ledF (w : World) (w0 : Nat) (fa fd a d ll : Addr) (k1 k2 k3 k4 k5 k6 u1 u2 u3 u4 k u : Tok) (its rows : List Value) (n nl : Nat) (ps1 ps2 : Array Value) : List (Addr × Obj) :=
  [(fa, instObj 94 fd), (fd, fmtD w w0 (Str.ofString " ") (Str.ofString "i") a ll k1 k2 k3 k4 k5 k6 u1 u2 u3 u4)] ++ led5 w a d ll k u its rows n nl ps1 ps2
theorem off_it (N : News h₀ L h ((I, o) :: ledF w w0 fa fd a d ll k1 k2 k3 k4 k5 k6 u1 u2 u3 u4 k u its rows n nl ps1 ps2)) (ho : o.cls = .type "str_ascii_iterator") : ∀ p ∈ ledF w w0 fa fd a d ll k1 k2 k3 k4 k5 k6 u1 u2 u3 u4 k u its rows n nl ps1 ps2, p.1 ≠ I := by
  intro p hp e
  have h1 := (N _ (.head _)).1
  have h2 := (N _ (.tail _ hp)).1
  rw [e] at h2
  have e2 := Option.some.inj (h1.symm.trans h2)
  have hc : p.2.cls = .type "str_ascii_iterator" := by rw [← e2]; exact ho
  rcases List.mem_append.mp hp with hp | hp
  · simp only [List.mem_cons, List.not_mem_nil, or_false] at hp
    rcases hp with rfl | rfl <;> simp at hc
  · simp only [led5, List.mem_cons, List.not_mem_nil, or_false] at hp
    rcases hp with rfl | rfl | rfl | rfl | rfl <;> simp at hc
structure LoopS (w : World) (w0 : Nat) (g : Heap) (L I fa fd a d ll : Addr) (k1 k2 k3 k4 k5 k6 u1 u2 u3 u4 k : Tok) (m : Str → Option Value) (x : Str) (t : Tok) (out : List (List Bool)) (s₀ : Shared) (rem : List Bool) (s' : Shared) : Prop where
  ex : ∃ h gs tk ov o i rows ls its row n nl u ps1 ps2, s' = { s₀ with heap := h, gens := gs, toks := tk } ∧ AllBare gs ∧ Fr g L h (fun y => if y = Str.ofString "sign" then ov else m y) ∧ News g L h ((I, o) :: ledF w w0 fa fd a d ll k1 k2 k3 k4 k5 k6 u1 u2 u3 u4 k u its rows n nl ps1 ps2) ∧
    o.cls = .type "str_ascii_iterator" ∧ o.data = .fields #[.str x t, .int ((i : Nat) : Int) 0] ∧ (∀ j, x.cps[i + j]? = (rem.map codeB)[j]?) ∧ Cells h its (row.map ltr) ∧ okRun w0 rem row = true ∧ StrsAre rows (ls.map lineS) ∧ ls.all endRow = true ∧ ls.length + rem.length ≤ 60 ∧ TriplesOk ps1.toList ∧ TriplesOk ps2.toList ∧ runL w0 rem row ls = out
end
section
variable {w : World} {p' : Program} {loose : List Str}
  {A₀ A : Around} {s : Shared} {base h₀ : Heap} {outer : List Env} {L I a d fa fd ll : Addr} {m mg mb : Str → Option Value} {env : Env} {Q E : Value → Shared → Prop} {dp un : Nat} {gd : Option (List Code)}
  {k u : Tok} {its rows : List Value} {n nl w0 : Nat} {ps1 ps2 : Array Value} {o : Obj} {k1 k2 k3 k4 k5 k6 u1 u2 u3 u4 : Tok}
end
end
section
/-- the row's tuples as ledger entries -/
structure CL (cells : List (Addr × Obj)) (its : List Value) (xs : List Str) : Prop where
  cls : ∀ p ∈ cells, p.2.cls = .type "tuple"
  get : ∀ h : Heap, (∀ p ∈ cells, h.get? p.1 = some p.2) → Cells h its xs
theorem CL.nil : CL [] [] [] := ⟨fun _ h => (nomatch h), fun _ _ => .nil⟩
theorem cells_list {h : Heap} {its : List Value} {xs : List Str} (c : Cells h its xs) : ∃ cells, CL cells its xs ∧ ∀ p ∈ cells, h.get? p.1 = some p.2 := by
  induction c with
  | nil => exact ⟨[], .nil, fun _ h => nomatch h⟩
  | @cons t x tx ty n vs xs e _ ih =>
    obtain ⟨cells, hcl, hg⟩ := ih
    refine ⟨(t, tupO (Str.ofString "") tx x ty n) :: cells, ⟨fun p hp => ?_, fun h' hg' => .cons (hg' _ (.head _)) (hcl.get h' fun p hp => hg' p (.tail _ hp))⟩, fun p hp => ?_⟩
    · rcases List.mem_cons.mp hp with rfl | hp
      · rfl
      · exact hcl.cls p hp
    · rcases List.mem_cons.mp hp with rfl | hp
      · exact e
      · exact hg p hp
section
variable {w : World} {h h₀ : Heap} {L I a d fa fd ll : Addr} {k u : Tok} {its rows : List Value} {n nl w0 : Nat} {ps1 ps2 : Array Value} {o : Obj} {k1 k2 k3 k4 k5 k6 u1 u2 u3 u4 : Tok} {cells : List (Addr × Obj)} {xs : List Str}
theorem offC_it (N : News h₀ L h ((I, o) :: (ledF w w0 fa fd a d ll k1 k2 k3 k4 k5 k6 u1 u2 u3 u4 k u its rows n nl ps1 ps2 ++ cells))) (ho : o.cls = .type "str_ascii_iterator") (hc : CL cells its xs) : ∀ p ∈ ledF w w0 fa fd a d ll k1 k2 k3 k4 k5 k6 u1 u2 u3 u4 k u its rows n nl ps1 ps2 ++ cells, p.1 ≠ I := by
  intro p hp e
  rcases List.mem_append.mp hp with hp' | hp'
  · refine off_it (fun q hq => N q ?_) ho p hp' e
    rcases List.mem_cons.mp hq with rfl | hq
    · exact .head _
    · exact .tail _ (List.mem_append_left _ hq)
  · have h1 := (N _ (.head _)).1
    have h2 := (N _ (.tail _ hp)).1
    rw [e] at h2
    have e2 := Option.some.inj (h1.symm.trans h2)
    have hc' := hc.cls p hp'
    rw [← e2] at hc'
    rw [show (I, o).2 = o from rfl, ho] at hc'
    simp at hc'
structure LoopC (w : World) (w0 : Nat) (g : Heap) (L I fa fd a d ll : Addr) (k1 k2 k3 k4 k5 k6 u1 u2 u3 u4 k : Tok) (m : Str → Option Value) (x : Str) (t : Tok) (out : List (List Bool)) (s₀ : Shared) (rem : List Bool) (s' : Shared) : Prop where
  ex : ∃ h gs tk ov o i rows ls its row n nl u ps1 ps2 cells, s' = { s₀ with heap := h, gens := gs, toks := tk } ∧ AllBare gs ∧ Fr g L h (fun y => if y = Str.ofString "sign" then ov else m y) ∧ News g L h ((I, o) :: (ledF w w0 fa fd a d ll k1 k2 k3 k4 k5 k6 u1 u2 u3 u4 k u its rows n nl ps1 ps2 ++ cells)) ∧
    o.cls = .type "str_ascii_iterator" ∧ o.data = .fields #[.str x t, .int ((i : Nat) : Int) 0] ∧ (∀ j, x.cps[i + j]? = (rem.map codeB)[j]?) ∧ CL cells its (row.map ltr) ∧ okRun w0 rem row = true ∧ StrsAre rows (ls.map lineS) ∧ ls.all endRow = true ∧ ls.length + rem.length ≤ 60 ∧ TriplesOk ps1.toList ∧ TriplesOk ps2.toList ∧ runL w0 rem row ls = out
theorem readC_loop {prog : Program} {A : Around} {E : Value → Shared → Prop} {s₀ : Shared} {env : Env} {target : PySem.Expr} {body orelse : List Stmt} {Q : Flow → Shared → Prop} {m : Str → Option Value} {t : Tok} {gs : Array GenState} {tk : Nat} (bs : List Bool) (hok : okRun w0 bs [] = true) (hlen : bs.length ≤ 60)
    (F : Fr h₀ L h (fun y => if y = Str.ofString "sign" then none else m y)) (N : News h₀ L h ((I, itA (strOf bs) t 0) :: ledF w w0 fa fd a d ll k1 k2 k3 k4 k5 k6 u1 u2 u3 u4 k u [] [] n nl ps1 ps2)) (hgs : AllBare gs) (hp1 : TriplesOk ps1.toList) (hp2 : TriplesOk ps2.toList)
    (hstep : ∀ c cs s', LoopC w w0 h₀ L I fa fd a d ll k1 k2 k3 k4 k5 k6 u1 u2 u3 u4 k m (strOf bs) t (runL w0 bs [] []) s₀ (c :: cs) s' → (∀ s'', LoopC w w0 h₀ L I fa fd a d ll k1 k2 k3 k4 k5 k6 u1 u2 u3 u4 k m (strOf bs) t (runL w0 bs [] []) s₀ cs s'' → ForRest prog w A E env target (.ref I) body orelse Q s'') → ForRest prog w A E env target (.ref I) body orelse Q s')
    (hend : ∀ s', LoopC w w0 h₀ L I fa fd a d ll k1 k2 k3 k4 k5 k6 u1 u2 u3 u4 k m (strOf bs) t (runL w0 bs [] []) s₀ [] s' → ForRest prog w A E env target (.ref I) body orelse Q s') :
    ForRest prog w A E env target (.ref I) body orelse Q { s₀ with heap := h, gens := gs, toks := tk } := by
  refine for_loop _ hstep hend bs ⟨h, gs, tk, none, _, 0, [], [], [], [], n, nl, u, ps1, ps2, [], rfl, hgs, F, by rw [List.append_nil]; exact N, rfl, rfl, ?_, .nil, hok, .nil, rfl, ?_, hp1, hp2, rfl⟩
  · intro j; rw [Nat.zero_add]; simp [strOf]
  · rw [List.length_nil]; omega
end
section
variable {w : World} {p' : Program} {loose : List Str}
  {A₀ A : Around} {s : Shared} {base h₀ : Heap} {outer : List Env} {L I a d fa fd ll : Addr} {m mg mb : Str → Option Value} {env : Env} {Q E : Value → Shared → Prop} {dp un : Nat} {gd : Option (List Code)}
  {k u : Tok} {its rows : List Value} {n nl w0 : Nat} {ps1 ps2 : Array Value} {o : Obj} {cells : List (Addr × Obj)} {k1 k2 k3 k4 k5 k6 u1 u2 u3 u4 : Tok}
theorem appC {row : List Bool} {c : Bool} {tx ty : Tok} (hrow : okRow row = true) (B : Below A₀ base outer h₀) (F : Fr h₀ L s.heap m) (X : (Kf w.params).In h₀) (T : TopRead p' loose mg mb h₀)
    (N : News h₀ L s.heap ((I, o) :: (ledF w w0 fa fd a d ll k1 k2 k3 k4 k5 k6 u1 u2 u3 u4 k u its rows n nl ps1 ps2 ++ cells))) (hA : A = Ar dp un gd (env :: outer)) (hf : env.frame = some L) (hke : env.scope.kind = .function)
    (hd : dp + 12 < recursionLimit) (hu : un + 70 < cLine) (BM : Bm h₀ mg) (hgs : AllBare s.gens) (ho : o.cls = .type "str_ascii_iterator") (hc : CL cells its (row.map ltr)) (hw0 : w0 ≤ 3) (hps1 : TriplesOk ps1.toList) (hps2 : TriplesOk ps2.toList) (hz : rows.length ≤ 100)
    (h : ∀ t nl' its' n' u' ps1' ps2' cells' h' gs' tk', TriplesOk ps1'.toList → TriplesOk ps2'.toList → Fr h₀ L h' m → News h₀ L h' ((I, o) :: (ledF w w0 fa fd a d ll k1 k2 k3 k4 k5 k6 u1 u2 u3 u4 k u' its' (outR rows (stepR w0 row c).1 t) n' nl' ps1' ps2' ++ cells')) → CL cells' its' ((stepR w0 row c).2.map ltr) → AllBare gs' → Q .none { s with heap := h', gens := gs', toks := tk' }) :
    wpAny (model PySem.Challenge.rw_xn0030_01.row.prog w) A (call (.ref 91) [.ref fa, .str (Str.ofString "") tx, .str (ltr c) ty]) Q E s := by
  have N5 : ∀ p ∈ led5 w a d ll k u its rows n nl ps1 ps2, s.heap.get? p.1 = some p.2 := fun p hp => (N p (.tail _ (List.mem_append_left _ (List.mem_append_right _ hp)))).1
  have NL5 : News h₀ L s.heap (led5 w a d ll k u its rows n nl ps1 ps2) := fun p hp => N p (.tail _ (List.mem_append_left _ (List.mem_append_right _ hp)))
  have eI := (N (I, o) (.head _)).1
  have ea := (N (fa, _) (.tail _ (.head _))).1
  have ed := (N (fd, _) (.tail _ (.tail _ (.head _)))).1
  have oI := off5 N5 eI (ne5_cls (by rw [ho]; simp) (by rw [ho]; simp) (by rw [ho]; simp) (by rw [ho]; simp))
  have oa := off5 N5 ea (ne5_cls (by simp) (by simp) (by simp) (by simp))
  have od := off5 N5 ed ne5_fmt
  have hcN : ∀ p ∈ cells, s.heap.get? p.1 = some p.2 := fun p hp => (N p (.tail _ (List.mem_append_right _ hp))).1
  have hcs : Cells s.heap its (row.map ltr) := hc.get _ hcN
  refine mut_callN (rest := (I, o) :: (fa, instObj 94 fd) :: (fd, fmtD w w0 (Str.ofString " ") (Str.ofString "i") a ll k1 k2 k3 k4 k5 k6 u1 u2 u3 u4) :: cells) (spec_of_okRow w p' loose hrow c w0 fa a d ll k u tx ty rows its nl n ps1 ps2 hw0 hps1 hps2 hz) B F X T N hA hf hke hd hu
    (fun p hp => .tail _ (List.mem_append_left _ (List.mem_append_right _ hp))) (fun p hp => ?_) (fun g hg => ⟨⟨fd, k1, k2, k3, k4, k5, k6, u1, u2, u3, u4, hg _ _ ea oa, hg _ _ ed od⟩, hcs.keepsL fun x o e ht => hg x o e (led5_cls NL5 e ht)⟩) BM hgs fun v led' h' gs' tk' hP F' N' hk hb hne => ?_
  · rcases List.mem_cons.mp hp with rfl | hp
    · exact ⟨.head _, oI⟩
    rcases List.mem_cons.mp hp with rfl | hp
    · exact ⟨.tail _ (.head _), oa⟩
    rcases List.mem_cons.mp hp with rfl | hp
    · exact ⟨.tail _ (.tail _ (.head _)), od⟩
    · exact ⟨.tail _ (List.mem_append_right _ hp), led5_cls NL5 (hcN p hp) (hc.cls p hp)⟩
  obtain ⟨rfl, ex, o₁, row', t, nl', its', n', u', ps1', ps2', rfl, hst, t1, t2, hcl⟩ := hP
  have e1 : (stepR w0 row c).1 = o₁ := by rw [hst]
  have e2 : (stepR w0 row c).2 = row' := by rw [hst]
  generalize hall : (ex ++ led5 w a d ll k u' its' (outR rows o₁ t) n' nl' ps1' ps2') ++ ((I, o) :: (fa, instObj 94 fd) :: (fd, fmtD w w0 (Str.ofString " ") (Str.ofString "i") a ll k1 k2 k3 k4 k5 k6 u1 u2 u3 u4) :: cells) = all at N'
  let hid := (List.range h'.objs.size).filter fun b => !(all.map (·.1)).contains b
  have keepS : ∀ p ∈ all, (hideAll h' hid).get? p.1 = some p.2 := fun p hp => hideAll_get _ (N' p hp).1 fun hm => by
    have := (List.mem_filter.mp hm).2
    simp only [Bool.not_eq_true', List.contains_eq_mem, decide_eq_false_iff_not] at this
    exact this (List.mem_map_of_mem hp)
  have cS : Cells (hideAll h' hid) its' (row'.map ltr) := hcl _ (hc.get _ fun p hp => keepS p (by rw [← hall]; exact List.mem_append_right _ (.tail _ (.tail _ (.tail _ hp))))) fun p hp => keepS p (by rw [← hall]; exact List.mem_append_left _ hp)
  obtain ⟨cells', hcl', hg'⟩ := cells_list cS
  refine h t nl' its' n' u' ps1' ps2' cells' h' gs' tk' t1 t2 F' (fun q hq => ?_) (by rw [e2]; exact hcl') hb
  have inAll : ∀ q, q ∈ all → h'.get? q.1 = some q.2 ∧ q.1 ≠ L ∧ h₀.get? q.1 = none := fun q hq => N' q hq
  rcases List.mem_cons.mp hq with rfl | hq
  · exact N' _ (by rw [← hall]; exact List.mem_append_right _ (.head _))
  rcases List.mem_append.mp hq with hq | hq
  · rcases List.mem_append.mp hq with hq | hq
    · simp only [List.mem_cons, List.not_mem_nil, or_false] at hq
      rcases hq with rfl | rfl
      · exact N' _ (by rw [← hall]; exact List.mem_append_right _ (.tail _ (.head _)))
      · exact N' _ (by rw [← hall]; exact List.mem_append_right _ (.tail _ (.tail _ (.head _))))
    · rw [e1] at hq
      exact N' _ (by rw [← hall]; exact List.mem_append_left _ (List.mem_append_right _ hq))
  · have hq' := hg' q hq
    have hh : h'.get? q.1 = some q.2 := of_hideAll _ hq'
    have hn : q.1 ∈ all.map (·.1) := Classical.byContradiction fun hc => by
      have : q.1 ∈ hid := List.mem_filter.mpr ⟨List.mem_range.mpr (Heap.lt_size hh), by simpa using hc⟩
      rw [hideAll_none _ this] at hq'
      cases hq'
    obtain ⟨p, hp, ep⟩ := List.mem_map.mp hn
    have := N' p hp
    rw [ep] at this
    exact ⟨hh, this.2⟩
theorem strC {row : List Bool} {ts : Tok} {lines : List Str} (hrow : row = [true, false] ∨ row = [true, true, false]) (hsa : StrsAre rows lines) (hlen : ∀ x ∈ lines, x.length ≤ 3) (B : Below A₀ base outer h₀) (F : Fr h₀ L s.heap m) (X : (Kf w.params).In h₀) (T : TopRead p' loose mg mb h₀)
    (N : News h₀ L s.heap (ledF w w0 fa fd a d ll k1 k2 k3 k4 k5 k6 u1 u2 u3 u4 k u its rows n nl ps1 ps2 ++ cells)) (hA : A = Ar dp un gd (env :: outer)) (hf : env.frame = some L) (hke : env.scope.kind = .function)
    (hd : dp + 18 < recursionLimit) (hu : un + 140 < cLine) (BM : Bm h₀ mg) (hgs : AllBare s.gens) (hc : CL cells its (row.map ltr)) (hps1 : TriplesOk ps1.toList) (hps2 : TriplesOk ps2.toList) (hz : rows.length ≤ 100)
    (h : ∀ t ps1' ps2' h' gs' tk', TriplesOk ps1'.toList → TriplesOk ps2'.toList → Fr h₀ L h' m → News h₀ L h' [(140, tabO ps1'), (147, tabO ps2')] → AllBare gs' → Q (.str (Txt.join (Str.ofString "\n") (lines ++ [lineS row])) t) { s with heap := h', gens := gs', toks := tk' }) :
    wpAny (model PySem.Challenge.rw_xn0030_01.row.prog w) A (call (.ref 42) [.ref fa, .str (Str.ofString "\n") ts]) Q E s := by
  have N5 : ∀ p ∈ led5 w a d ll k u its rows n nl ps1 ps2, s.heap.get? p.1 = some p.2 := fun p hp => (N p (List.mem_append_left _ (List.mem_append_right _ hp))).1
  exact str_L hrow hsa hlen B F X T (fun p hp => N p (List.mem_append_left _ hp)) hA hf hke hd hu BM hgs (hc.get _ fun p hp => (N p (List.mem_append_right _ hp)).1) hps1 hps2 hz h
end
end
section
theorem cut_inj (c : Nat) : ∀ (p q X Y : List Nat), c ∉ p → c ∉ q → p ++ c :: X = q ++ c :: Y → p = q ∧ X = Y
  | [], [], X, Y, _, _, h => ⟨rfl, (List.cons.inj h).2⟩
  | [], b :: q, X, Y, _, hq, h => absurd ((List.cons.inj h).1 ▸ List.mem_cons_self ..) hq
  | a :: p, [], X, Y, hp, _, h => absurd ((List.cons.inj h).1 ▸ List.mem_cons_self ..) hp
  | a :: p, b :: q, X, Y, hp, hq, h => by
    obtain ⟨h1, h2⟩ := List.cons.inj h
    obtain ⟨e1, e2⟩ := cut_inj c p q X Y (fun m => hp (List.mem_cons_of_mem _ m)) (fun m => hq (List.mem_cons_of_mem _ m)) h2
    exact ⟨by rw [h1, e1], e2⟩
theorem str_ext {x y : Str} (h : x.cps.toList = y.cps.toList) : x = y := by
  cases x; cases y
  congr 1
  exact Array.toList_inj.mp h
theorem join_inj (c : Nat) : ∀ (A B : List Str), A ≠ [] → B ≠ [] → (∀ p ∈ A, c ∉ p.cps.toList) → (∀ p ∈ B, c ∉ p.cps.toList) → Str.join ⟨#[c]⟩ A = Str.join ⟨#[c]⟩ B → A = B
  | [], _, h, _, _, _, _ => absurd rfl h
  | _ :: _, [], _, h, _, _, _ => absurd rfl h
  | [p], [q], _, _, _, _, h => by rw [show p = q from h]
  | [p], q :: q' :: r, _, _, hp, _, h => by
    have h' : p = q ++ ⟨#[c]⟩ ++ Str.join ⟨#[c]⟩ (q' :: r) := h
    exact absurd (by rw [h']; simp [Str.cps_append]) (hp p (List.mem_singleton.mpr rfl))
  | p :: p' :: r, [q], _, _, _, hq, h => by
    have h' : p ++ ⟨#[c]⟩ ++ Str.join ⟨#[c]⟩ (p' :: r) = q := h
    exact absurd (by rw [← h']; simp [Str.cps_append]) (hq q (List.mem_singleton.mpr rfl))
  | p :: p' :: r, q :: q' :: r', _, _, hp, hq, h => by
    have h' : p ++ ⟨#[c]⟩ ++ Str.join ⟨#[c]⟩ (p' :: r) = q ++ ⟨#[c]⟩ ++ Str.join ⟨#[c]⟩ (q' :: r') := h
    have h2 := congrArg (fun s : Str => s.cps.toList) h'
    simp only [Str.cps_append, Array.toList_append, List.append_assoc, List.cons_append, List.nil_append] at h2
    obtain ⟨e1, e2⟩ := cut_inj c _ _ _ _ (hp p (List.mem_cons_self ..)) (hq q (List.mem_cons_self ..)) h2
    have := join_inj c (p' :: r) (q' :: r') (List.cons_ne_nil _ _) (List.cons_ne_nil _ _) (fun a ha => hp a (List.mem_cons_of_mem _ ha)) (fun a ha => hq a (List.mem_cons_of_mem _ ha)) (str_ext e2)
    rw [str_ext e1, this]
theorem split_join (c : Nat) (A : List Str) (hA : A ≠ []) (hf : ∀ p ∈ A, c ∉ p.cps.toList) : Txt.split (Txt.join ⟨#[c]⟩ A) ⟨#[c]⟩ = A := by
  have e : Txt.join ⟨#[c]⟩ A = Str.join ⟨#[c]⟩ A := StrLaws.glued_eq_join _ _
  rw [e]
  refine join_inj c _ A ?_ hA (StrLaws.split_free _ c) hf (StrLaws.join_split _ _)
  intro h
  have := split_pos (Str.join ⟨#[c]⟩ A) ⟨#[c]⟩
  rw [h] at this
  exact absurd this (by decide)
theorem nl_str : Str.ofString "\n" = ⟨#[10]⟩ := by kernel_rfl
theorem fi_cps : (Str.ofString "fi").cps.toList = [102, 105] := by kernel_rfl
theorem ffi_cps : (Str.ofString "ffi").cps.toList = [102, 102, 105] := by kernel_rfl
theorem split_lines {ls : List (List Bool)} (h : ls.all endRow = true) (hne : ls ≠ []) : Txt.split (Txt.join (Str.ofString "\n") (ls.map lineS)) (Str.ofString "\n") = ls.map lineS := by
  rw [nl_str]
  refine split_join 10 _ (by simpa using hne) fun p hp => ?_
  obtain ⟨l, hl, rfl⟩ := List.mem_map.mp hp
  rcases endRow_or (List.all_eq_true.mp h l hl) with rfl | rfl
  · rw [← line_fi, fi_cps]; decide
  · rw [← line_ffi, ffi_cps]; decide
end
section
theorem strs_paired {f : Str → Str} : ∀ {vs ys : List Value} {xs : List Str}, StrsAre vs xs → Paired (fun v y => ∃ x t u, v = Value.str x t ∧ y = Value.str (f x) u) vs ys → StrsAre ys (xs.map f)
  | _, _, _, .nil, h => by cases h; exact .nil
  | _, _, _, .cons x t r, h => by
    cases h with
    | cons h1 h2 =>
      obtain ⟨x', t', u, e1, rfl⟩ := h1
      cases e1
      exact .cons _ _ (strs_paired r h2)
theorem strsAre_get {vs : List Value} {xs : List Str} (h : StrsAre vs xs) : ∀ (i : Nat) (v : Value), vs[i]? = some v → ∃ x t, x ∈ xs ∧ v = Value.str x t := by
  induction h with
  | nil => intro i v e; simp at e
  | cons x t _ ih =>
    intro i v e
    cases i with
    | zero => simp at e; exact ⟨x, t, .head _, e.symm⟩
    | succ i => obtain ⟨x', t', h1, h2⟩ := ih i v (by simpa using e); exact ⟨x', t', .tail _ h1, h2⟩
theorem strsAre_values (l : List (Str × Tok)) : StrsAre (strValues l) (l.map (·.1)) := by
  induction l with
  | nil => exact .nil
  | cons p l ih => exact .cons p.1 p.2 ih
section
variable {prog : Program} {w : World} {A : Around} {E : Value → Shared → Prop} {s₁ : Shared} {h₀ : Heap} {L : Addr} {m : Str → Option Value} {news : List (Addr × Obj)}
theorem iter_listC {env : Env} {elt : PySem.Expr} {x : Str} {scope : Scope} {Q : Value → Shared → Prop} {l : Addr} {vs : List Value} {xs : List Str} (f : Str → Str)
    (hh : A.handled = none) (hl : s₁.heap.IsList l vs.toArray) (hi : StrsAre vs xs) (F : Fr h₀ L s₁.heap m) (N : News h₀ L s₁.heap news) (hsz : xs.length ≤ 1000)
    (helt : ∀ C y t (s₂ : Shared) m₂ E', y ∈ xs → s₂.heap.Ns (compEnv scope C env).locals m₂ → m₂ x = some (.str y t) → Fr h₀ L s₂.heap m → wpAny (model prog w) A (eval elt (compEnv scope C env)) (fun r s₃ => (∃ u, r = .str (f y) u) ∧ Keeps s₂ s₃) E' s₂)
    (h : ∀ D n (ys : List Value) h' tk, Fr h₀ L h' m → News h₀ L h' ((D, listOf ys.toArray n) :: news) → StrsAre ys (xs.map f) → Q (.ref D) { s₁ with heap := h', toks := tk }) :
    wpAny (model prog w) A (pyIter (.ref l)) (CompPost prog w A env scope x [] elt Q) E s₁ := by
  have hlt : l < s₁.heap.objs.size := by obtain ⟨_, e, _⟩ := hl; exact Heap.lt_size e
  refine wpAny_pyIter_list hl ?_
  have up : ∀ (h' : Heap), (∀ b o', b ∉ [s₁.heap.objs.size] → (s₁.heap.push { cls := .type "list_iterator", data := .fields #[.ref l, .int 0 0] }).get? b = some o' → h'.get? b = some o') → ∀ b o', s₁.heap.get? b = some o' → h'.get? b = some o' :=
    fun h' hk b o' e => hk b o' (not_iter_of_old e) (Heap.get?_push_of_some _ e)
  refine ⟨fun _ => true, fun v y => ∃ x t u, v = Value.str x t ∧ y = Value.str (f x) u, s₁.heap.objs.size, [s₁.heap.objs.size, l], [s₁.heap.objs.size], vs.toArray.size, _, _, rfl, Walks.list hh _ l (Nat.ne_of_lt hlt) vs.toArray, (by rw [List.size_toArray, strsAre_len hi, sizeLine_eq]; omega),
    ⟨⟨_, Heap.get?_push_size _ rfl, rfl, rfl⟩, hl.at fun o e => Heap.get?_push_of_some _ e⟩, ?_, ⟨?_, ?_⟩, ?_⟩
  · intro b hb
    show b < (s₁.heap.push _).objs.size
    rw [Heap.size_push]
    rcases List.mem_cons.mp hb with rfl | hb
    · exact Nat.lt_succ_self _
    · rw [List.mem_singleton.mp hb]; exact Nat.lt_succ_of_lt hlt
  · intro C i v s₃ m₃ E' hP hn hm _ htk
    exact wpAny_pure ⟨rfl, s₃.heap, s₃.toks, rfl, fun _ _ e => e⟩
  · intro C i v s₃ m₃ E' hP hp hn hm hk htk
    obtain ⟨y, t, hy, rfl⟩ := strsAre_get hi i v (by simpa using hP)
    refine wpAny_mono (helt C y t s₃ m₃ E' hy hn hm (F.keeps (up _ hk))) (fun r s₄ h₄ => ?_) fun _ _ e => e
    obtain ⟨⟨u, rfl⟩, hk⟩ := h₄
    exact ⟨⟨y, t, u, rfl, rfl⟩, hk⟩
  · intro D h' tk ys vs' hnew hlD hplD hlen hP hF hk
    have e' : vs' = vs := by simpa using walked_is hlen hP
    subst e'
    rw [List.filter_eq_self.mpr (fun _ _ => rfl)] at hF
    obtain ⟨n, en⟩ := hplD
    have hD0 : s₁.heap.get? D = none := by
      cases e : s₁.heap.get? D with
      | none => rfl
      | some o' => rw [Heap.get?_push_of_some _ e] at hnew; cases hnew
    refine h D n ys.toList h' tk (F.keeps (up h' hk)) (fun q hq => ?_) (strs_paired hi hF)
    rcases List.mem_cons.mp hq with rfl | hq
    · refine ⟨by rw [Array.toArray_toList]; exact en, ?_, ?_⟩
      · rintro rfl
        obtain ⟨o, _, _, ho, _⟩ := F.ns
        rw [ho] at hD0; cases hD0
      · cases e : h₀.get? D with
        | none => rfl
        | some o' => rw [F.keep _ _ e] at hD0; cases hD0
    · exact (N.grown (up h' hk)) q hq
end
end
section
noncomputable def sg (b : Bool) : List Bool := match b with | true => [true, false, true] | false => [true, false]
noncomputable def sg2 : List Bool → List Bool
  | [] => []
  | b :: u => sg b ++ sg2 u
noncomputable def bitsN : Nat → List (List Bool)
  | 0 => [[]]
  | n + 1 => (bitsN n).flatMap fun u => [true :: u, false :: u]
theorem bitsN_mem : ∀ u : List Bool, u ∈ bitsN u.length
  | [] => .head _
  | b :: u => by
    refine List.mem_flatMap.mpr ⟨u, bitsN_mem u, ?_⟩
    cases b <;> simp
noncomputable def outB (b : Bool) : List Bool := match b with | true => [true, true, false] | false => [true, false]
noncomputable def readOk (w0 : Nat) (u : List Bool) : Bool := okRun w0 (sg2 u ++ [true, false]) [] && (runL w0 (sg2 u ++ [true, false]) [] [] == [true, false] :: u.map outB)
theorem read6 : ((bitsN 6).all fun u => [0, 1, 2, 3].all fun w0 => readOk w0 u) = true := by decide +kernel
theorem read4 : ((bitsN 4).all fun u => [0, 1, 2, 3].all fun w0 => readOk w0 u && readOk w0 (sg2 u)) = true := by decide +kernel
theorem read2 : ((bitsN 2).all fun u => [0, 1, 2, 3].all fun w0 => readOk w0 u && readOk w0 (sg2 u) && readOk w0 (sg2 (sg2 u))) = true := by decide +kernel
end
section
/-- the folding of signs, on code points -/
noncomputable def foldB (P : Params) (cs : List Nat) : List Nat := (cs.filter fun (c : Nat) => !b1S P (c : Int)).flatMap fun c => (mapC c).cps.toList
theorem foldB_app (P : Params) (a b : List Nat) : foldB P (a ++ b) = foldB P a ++ foldB P b := by
  unfold foldB; rw [List.filter_append, List.flatMap_append]
noncomputable def dropC (j : Nat) : Nat := if j < 16 then 65024 + j else (othersI.getD (j - 16) 0).toNat
theorem fold_f (P : Params) : ((List.range 11).all fun i => foldB P [(startsI.getD i 0 + 5).toNat] == [102]) = true := by kernel_rfl
theorem fold_i (P : Params) : ((List.range 11).all fun i => foldB P [(startsI.getD i 0 + 8).toNat] == [105]) = true := by kernel_rfl
theorem fold_lig (P : Params) : foldB P [64257] = [102, 105] := by kernel_rfl
theorem fold_drop (P : Params) : ((List.range 27).all fun j => foldB P [dropC j] == []) = true := by kernel_rfl
noncomputable def s1 : List Bool → List Bool
  | [] => []
  | true :: u => true :: false :: s1 u
  | false :: u => true :: s1 u
theorem s1_app (a b : List Bool) : s1 (a ++ b) = s1 a ++ s1 b := by
  induction a with
  | nil => rfl
  | cons x a ih => cases x <;> simp [s1, ih]
theorem s1_sg (u : List Bool) : s1 (s1 u) = sg2 u := by
  induction u with
  | nil => rfl
  | cons x u ih => cases x <;> simp [s1, sg2, sg, ih]
theorem md11 (D : Int) : (D % 11).toNat < 11 := by omega
theorem md27 (D : Int) : (D % 27).toNat < 27 := by omega
theorem md_lt (D : Int) (h : D % 27 < 16) : (D % 27).toNat < 16 := by omega
theorem md_ge (D : Int) (h : ¬ D % 27 < 16) : ¬ (D % 27).toNat < 16 := by omega
theorem md_a (D : Int) : (65024 + D % 27).toNat = 65024 + (D % 27).toNat := by omega
theorem md_b (D : Int) : (D % 27 - 16).toNat = (D % 27).toNat - 16 := by omega
theorem fold_piece (P : Params) (word acc : Str) (seed : Int) (h0 : 0 ≤ seed) (j : Nat) (b : Bool) (hb : (Txt.item word (j : Int) == Str.ofString "i") = !b) :
    foldB P (spStep word seed acc (j : Int)).cps.toList = foldB P acc.cps.toList ++ (s1 [b]).map codeB := by
  have hd : 0 ≤ seed + 5 * (j : Int) := by omega
  generalize hD : seed + 5 * (j : Int) = D at hd
  have e11 : D.fmod 11 = D % 11 := Int.fmod_eq_emod_of_nonneg _ (by decide)
  have e2 : D.fmod 2 = D % 2 := Int.fmod_eq_emod_of_nonneg _ (by decide)
  have e27 : D.fmod 27 = D % 27 := Int.fmod_eq_emod_of_nonneg _ (by decide)
  have f5 : foldB P (greatI seed j 5).cps.toList = [102] := by
    unfold greatI
    rw [hD, e11]
    have := List.all_eq_true.mp (fold_f P) (D % 11).toNat (List.mem_range.mpr (md11 D))
    exact eq_of_beq this
  have f8 : foldB P (greatI seed j 8).cps.toList = [105] := by
    unfold greatI
    rw [hD, e11]
    have := List.all_eq_true.mp (fold_i P) (D % 11).toNat (List.mem_range.mpr (md11 D))
    exact eq_of_beq this
  unfold spStep
  rw [hD, hb, e2, e27]
  cases b with
  | false =>
    rw [if_pos (show (!false) = true from rfl), Str.cps_append, Array.toList_append, foldB_app, f5]; rfl
  | true =>
    rw [if_neg (show ¬ ((!true) = true) by decide)]
    split
    · rw [Str.cps_append, Array.toList_append, foldB_app]
      show _ ++ foldB P [64257] = _
      rw [fold_lig]; rfl
    · rw [Str.cps_append, Str.cps_append, Str.cps_append, Array.toList_append, Array.toList_append, Array.toList_append, foldB_app, foldB_app, foldB_app, f5, f8]
      have fd : foldB P (if D % 27 < 16 then ({ cps := #[(65024 + D % 27).toNat] } : Str) else { cps := #[(othersI.getD (D % 27 - 16).toNat 0).toNat] }).cps.toList = [] := by
        have := List.all_eq_true.mp (fold_drop P) (D % 27).toNat (List.mem_range.mpr (md27 D))
        have h := eq_of_beq this
        unfold dropC at h
        split
        · rw [if_pos (md_lt D (by assumption))] at h
          show foldB P [(65024 + D % 27).toNat] = []
          rw [md_a D]
          exact h
        · rw [if_neg (md_ge D (by assumption))] at h
          show foldB P [(othersI.getD (D % 27 - 16).toNat 0).toNat] = []
          rw [md_b D]
          exact h
      rw [fd]
      simp [s1, codeB]
theorem item_strOf (bs : List Bool) (j : Nat) (b : Bool) (hb : bs[j]? = some b) : (Txt.item (strOf bs) (j : Int) == Str.ofString "i") = !b := by
  have hj : j < bs.length := (List.getElem?_eq_some_iff.mp hb).1
  have hs : seqIndex? (j : Int) (strOf bs).length = some j := by
    rw [strOf_len]
    unfold seqIndex?
    simp
    omega
  have hc : Txt.charAt (strOf bs) (j : Int) = some (codeB b) := by
    unfold Txt.charAt
    rw [hs, Option.bind_some]
    show ((bs.map codeB).toArray)[j]? = _
    simp [hb]
  unfold Txt.item
  rw [hc, Option.getD_some]
  cases b <;> decide +kernel
theorem fold_spell (P : Params) (bs : List Bool) (seed : Int) (h0 : 0 ≤ seed) : ∀ n, n ≤ bs.length → foldB P (spellL (strOf bs) seed (rangeKs 0 n)).cps.toList = (s1 (bs.take n)).map codeB
  | 0, _ => by
    have e : (spellL (strOf bs) seed (rangeKs 0 0)).cps.toList = [] := by kernel_rfl
    rw [e]; rfl
  | n + 1, h => by
    have ih := fold_spell P bs seed h0 n (by omega)
    have er : rangeKs 0 (n + 1) = rangeKs 0 n ++ [((n : Nat) : Int)] := by
      unfold rangeKs
      rw [List.range_succ, List.map_append]
      simp
    have hn : bs[n]? = some bs[n] := List.getElem?_eq_getElem (by omega)
    unfold spellL at ih ⊢
    rw [er, List.foldl_append, List.foldl_cons, List.foldl_nil, fold_piece P _ _ _ h0 n bs[n] (item_strOf bs n _ hn), ih, List.take_add_one, hn, s1_app, List.map_append]
    rfl
end
section
noncomputable def letB (p : Nat) : Bool := !(leftI (p : Int) == 1)
theorem letterI_B (p : Nat) : letterI (p : Int) = ltr (letB p) := by
  unfold letterI letB
  by_cases h : leftI (p : Int) = 1
  · rw [if_pos h, h]; rfl
  · rw [if_neg h]
    have : (leftI (p : Int) == 1) = false := by simpa using h
    rw [this]; rfl
noncomputable def cntD (depth : Nat) (b : Bool) : Nat := match depth, b with
  | 1, true => 3 | 1, false => 2 | 2, true => 8 | 2, false => 5 | 3, true => 21 | 3, false => 13 | _, _ => 0
noncomputable def grownB (depth : Nat) (u : List Bool) : List Bool := if depth = 0 then u else u.flatMap fun b => (List.range (cntD depth b)).map letB
theorem sg2_app (a b : List Bool) : sg2 (a ++ b) = sg2 a ++ sg2 b := by
  induction a with
  | nil => rfl
  | cons x a ih => simp [sg2, ih]
noncomputable def sgN : Nat → List Bool → List Bool
  | 0, u => u
  | n + 1, u => sgN n (sg2 u)
theorem sgN_app (n : Nat) : ∀ a b, sgN n (a ++ b) = sgN n a ++ sgN n b := by
  induction n with
  | zero => intro a b; rfl
  | succ n ih => intro a b; show sgN n (sg2 (a ++ b)) = _; rw [sg2_app, ih]; rfl
theorem sgN_nil (n : Nat) : sgN n [] = [] := by
  induction n with
  | zero => rfl
  | succ n ih => exact ih
theorem sgN_flat (n : Nat) (u : List Bool) : sgN n u = u.flatMap fun b => sgN n [b] := by
  induction u with
  | nil => rw [sgN_nil]; rfl
  | cons x u ih => rw [List.flatMap_cons, ← ih, ← sgN_app]; rfl
theorem grown_lets : ([1, 2, 3].all fun n => [true, false].all fun b => (List.range (cntD n b)).map letB == sgN n [b]) = true := by decide +kernel
theorem grown_sg (n : Nat) (h : n = 1 ∨ n = 2 ∨ n = 3) (u : List Bool) : grownB n u = sgN n u := by
  rw [sgN_flat]
  unfold grownB
  rw [if_neg (by omega)]
  congr 1
  funext b
  have hn : n ∈ [1, 2, 3] := by simpa using h
  have hb : b ∈ [true, false] := by cases b <;> simp
  exact eq_of_beq (List.all_eq_true.mp (List.all_eq_true.mp grown_lets n hn) b hb)
theorem sgN_succ (n : Nat) (u : List Bool) : sgN (n + 1) u = sg2 (sgN n u) := by
  induction n generalizing u with
  | zero => rfl
  | succ n ih => show sgN (n + 1) (sg2 u) = _; rw [ih]; rfl
end
section
noncomputable abbrev goodC : List Nat := fC ++ (iC ++ [64257])
theorem good_f : ((List.range 11).all fun i => goodC.contains (startsI.getD i 0 + 5).toNat) = true := by decide +kernel
theorem good_i : ((List.range 11).all fun i => goodC.contains (startsI.getD i 0 + 8).toNat) = true := by decide +kernel
theorem drop_b1 (P : Params) : ((List.range 27).all fun j => b1S P (dropC j : Int)) = true := by kernel_rfl
theorem join_nil : ∀ xs : List Str, (Str.join ⟨#[]⟩ xs).cps.toList = xs.flatMap fun x => x.cps.toList
  | [] => rfl
  | [x] => by simp [Str.join]
  | x :: y :: r => by
    have ih := join_nil (y :: r)
    show (x ++ ⟨#[]⟩ ++ Str.join ⟨#[]⟩ (y :: r)).cps.toList = _
    rw [Str.cps_append, Str.cps_append, Array.toList_append, Array.toList_append, ih]
    simp
theorem empty_str : Str.ofString "" = ⟨#[]⟩ := by kernel_rfl
theorem strOf_toList (bs : List Bool) : (strOf bs).cps.toList = bs.map codeB := by unfold strOf; simp
theorem str_ext' {x y : Str} (h : x.cps.toList = y.cps.toList) : x = y := by
  cases x; cases y
  congr 1
  exact Array.toList_inj.mp h
theorem join_fold (P : Params) (x : Str) (bs : List Bool) (h : foldB P x.cps.toList = bs.map codeB) : Txt.join (Str.ofString "") ((x.cps.toList.filter fun (c : Nat) => !b1S P (c : Int)).map mapC) = strOf bs := by
  have e : Txt.join (Str.ofString "") ((x.cps.toList.filter fun (c : Nat) => !b1S P (c : Int)).map mapC) = Str.join (Str.ofString "") ((x.cps.toList.filter fun (c : Nat) => !b1S P (c : Int)).map mapC) := StrLaws.glued_eq_join _ _
  rw [e, empty_str]
  refine str_ext' ?_
  rw [join_nil, strOf_toList, ← h]
  unfold foldB
  rw [List.flatMap_map]
theorem good_piece (P : Params) (word acc : Str) (seed : Int) (h0 : 0 ≤ seed) (j : Nat) (ha : ∀ c ∈ acc.cps.toList, b1S P (c : Int) = false → c ∈ goodC) :
    ∀ c ∈ (spStep word seed acc (j : Int)).cps.toList, b1S P (c : Int) = false → c ∈ goodC := by
  have hd : 0 ≤ seed + 5 * (j : Int) := by omega
  have e11 : (seed + 5 * (j : Int)).fmod 11 = (seed + 5 * (j : Int)) % 11 := Int.fmod_eq_emod_of_nonneg _ (by decide)
  have e27 : (seed + 5 * (j : Int)).fmod 27 = (seed + 5 * (j : Int)) % 27 := Int.fmod_eq_emod_of_nonneg _ (by decide)
  have g5 : ∀ c ∈ (greatI seed j 5).cps.toList, c ∈ goodC := by
    unfold greatI
    rw [e11]
    intro c hc
    rw [List.mem_singleton.mp hc]
    have := List.all_eq_true.mp good_f ((seed + 5 * (j : Int)) % 11).toNat (List.mem_range.mpr (md11 _))
    simpa using this
  have g8 : ∀ c ∈ (greatI seed j 8).cps.toList, c ∈ goodC := by
    unfold greatI
    rw [e11]
    intro c hc
    rw [List.mem_singleton.mp hc]
    have := List.all_eq_true.mp good_i ((seed + 5 * (j : Int)) % 11).toNat (List.mem_range.mpr (md11 _))
    simpa using this
  have gd : ∀ c ∈ (if (seed + 5 * (j : Int)) % 27 < 16 then ({ cps := #[(65024 + (seed + 5 * (j : Int)) % 27).toNat] } : Str) else { cps := #[(othersI.getD ((seed + 5 * (j : Int)) % 27 - 16).toNat 0).toNat] }).cps.toList, b1S P (c : Int) = true := by
    have h := List.all_eq_true.mp (drop_b1 P) ((seed + 5 * (j : Int)) % 27).toNat (List.mem_range.mpr (md27 _))
    intro c hc
    unfold dropC at h
    split at hc
    · rw [if_pos (md_lt _ (by assumption))] at h
      rw [List.mem_singleton.mp hc, md_a _]
      exact h
    · rw [if_neg (md_ge _ (by assumption))] at h
      rw [List.mem_singleton.mp hc, md_b _]
      exact h
  intro c hc hb
  unfold spStep at hc
  rw [e27] at hc
  split at hc
  · rw [Str.cps_append, Array.toList_append] at hc
    rcases List.mem_append.mp hc with hc | hc
    · exact ha c hc hb
    · exact g5 c hc
  · split at hc
    · rw [Str.cps_append, Array.toList_append] at hc
      rcases List.mem_append.mp hc with hc | hc
      · exact ha c hc hb
      · rw [List.mem_singleton.mp hc]
        decide
    · rw [Str.cps_append, Str.cps_append, Str.cps_append, Array.toList_append, Array.toList_append, Array.toList_append] at hc
      rcases List.mem_append.mp hc with hc | hc
      · rcases List.mem_append.mp hc with hc | hc
        · rcases List.mem_append.mp hc with hc | hc
          · exact ha c hc hb
          · exact g5 c hc
        · rw [gd c hc] at hb; cases hb
      · exact g8 c hc
theorem good_spell (P : Params) (word : Str) (seed : Int) (h0 : 0 ≤ seed) : ∀ n, ∀ c ∈ (spellL word seed (rangeKs 0 n)).cps.toList, b1S P (c : Int) = false → c ∈ goodC
  | 0 => by
    intro c hc _
    have e : (spellL word seed (rangeKs 0 0)).cps.toList = [] := by
      show (Str.ofString "").cps.toList = []
      kernel_rfl
    rw [e] at hc
    cases hc
  | n + 1 => by
    have ih := good_spell P word seed h0 n
    have er : rangeKs 0 (n + 1) = rangeKs 0 n ++ [((n : Nat) : Int)] := by
      unfold rangeKs
      rw [List.range_succ, List.map_append]
      simp
    unfold spellL at ih ⊢
    rw [er, List.foldl_append, List.foldl_cons, List.foldl_nil]
    exact good_piece P word _ seed h0 n ih
end
section
inductive Signs : List Value → List Nat → Prop
  | nil : Signs [] []
  | cons {c : Nat} {t : Tok} {vs : List Value} {cs : List Nat} : Signs vs cs → Signs (.str ⟨#[c]⟩ t :: vs) (c :: cs)
theorem signs_of : ∀ {vs : List Value} {cs : List Nat}, vs.length = cs.length → (∀ (j : Nat) (v : Value), vs[j]? = some v → ∃ c u, cs[j]? = some c ∧ v = Value.str ⟨#[c]⟩ u) → Signs vs cs
  | [], [], _, _ => .nil
  | [], _ :: _, h, _ => by simp at h
  | _ :: _, [], h, _ => by simp at h
  | v :: vs, c :: cs, h, hp => by
    obtain ⟨c', u, e1, rfl⟩ := hp 0 v rfl
    simp at e1
    subst e1
    exact .cons (signs_of (by simpa using h) fun j v e => by simpa using hp (j + 1) v (by simpa using e))
noncomputable def signP (p : Nat → Bool) (v : Value) : Bool := match v with | .str s _ => p (s.cps.getD 0 0) | _ => false
theorem signs_paired {p : Nat → Bool} {f : Nat → Str} {vs : List Value} {cs : List Nat} (hs : Signs vs cs) : ∀ {ys : List Value}, Paired (fun v y => ∃ c t u, v = Value.str ⟨#[c]⟩ t ∧ y = Value.str (f c) u) (vs.filter (signP p)) ys → StrsAre ys ((cs.filter p).map f) := by
  induction hs with
  | nil => intro ys h; cases h; exact .nil
  | @cons c t vs cs _ ih =>
    intro ys h
    have e : signP p (.str ⟨#[c]⟩ t) = p c := rfl
    cases hp : p c with
    | true =>
      rw [List.filter_cons_of_pos (by rw [e, hp])] at h
      rw [List.filter_cons_of_pos hp]
      cases h with
      | cons h1 h2 =>
        obtain ⟨c', t', u, e1, rfl⟩ := h1
        cases e1
        exact .cons _ _ (ih h2)
    | false =>
      rw [List.filter_cons_of_neg (by rw [e, hp]; decide)] at h
      rw [List.filter_cons_of_neg (by rw [hp]; decide)]
      exact ih h
section
variable {prog : Program} {w : World} {A : Around} {E : Value → Shared → Prop} {s₁ : Shared} {h₀ : Heap} {L : Addr} {m : Str → Option Value} {news : List (Addr × Obj)}
theorem iter_strC {env : Env} {elt test : PySem.Expr} {z : Str} {scope : Scope} {Q : Value → Shared → Prop} {x : Str} {t : Tok} (p : Nat → Bool) (f : Nat → Str)
    (hh : A.handled = none) (F : Fr h₀ L s₁.heap m) (N : News h₀ L s₁.heap news) (hsz : x.length ≤ 1000)
    (htest : ∀ C c t (s₂ : Shared) m₂ E', c ∈ x.cps.toList → s₂.heap.Ns (compEnv scope C env).locals m₂ → m₂ z = some (.str ⟨#[c]⟩ t) → Fr h₀ L s₂.heap m → wpAny (model prog w) A (isTrue test (compEnv scope C env) (eval test (compEnv scope C env))) (fun ok s₃ => ok = p c ∧ Keeps s₂ s₃) E' s₂)
    (helt : ∀ C c t (s₂ : Shared) m₂ E', c ∈ x.cps.toList → p c = true → s₂.heap.Ns (compEnv scope C env).locals m₂ → m₂ z = some (.str ⟨#[c]⟩ t) → Fr h₀ L s₂.heap m → wpAny (model prog w) A (eval elt (compEnv scope C env)) (fun r s₃ => (∃ u, r = .str (f c) u) ∧ Keeps s₂ s₃) E' s₂)
    (h : ∀ D n (ys : List Value) h' tk, Fr h₀ L h' m → News h₀ L h' ((D, listOf ys.toArray n) :: news) → StrsAre ys ((x.cps.toList.filter p).map f) → Q (.ref D) { s₁ with heap := h', toks := tk }) :
    wpAny (model prog w) A (pyIter (.str x t)) (CompPost prog w A env scope z [test] elt Q) E s₁ := by
  refine wpAny_pyIter_str fun o St W hst => ?_
  have up : ∀ (h' : Heap), (∀ b o', b ∉ [s₁.heap.objs.size] → (s₁.heap.push o).get? b = some o' → h'.get? b = some o') → ∀ b o', s₁.heap.get? b = some o' → h'.get? b = some o' :=
    fun h' hk b o' e => hk b o' (not_iter_of_old e) (Heap.get?_push_of_some _ e)
  refine ⟨signP p, fun v y => ∃ c t u, v = Value.str ⟨#[c]⟩ t ∧ y = Value.str (f c) u, s₁.heap.objs.size, [s₁.heap.objs.size], [s₁.heap.objs.size], x.cps.size, _, St, rfl, W A hh, (by rw [sizeLine_eq]; have : x.cps.size = x.length := rfl; omega), hst, ?_, ⟨?_, ?_⟩, ?_⟩
  · intro b hb
    show b < (s₁.heap.push _).objs.size
    rw [Heap.size_push, List.mem_singleton.mp hb]
    exact Nat.lt_succ_self _
  · intro C i v s₃ m₃ E' hP hn hm hk htk
    obtain ⟨c, u, hc, rfl⟩ := hP
    have hc' : c ∈ x.cps.toList := by
      have : x.cps.toList[i]? = some c := by simpa using hc
      exact List.mem_of_getElem? this
    have z := htest C c u s₃ m₃ E' hc' hn hm (F.keeps (up _ hk))
    rw [List.forIn_cons]
    refine wpAny_bind ?_
    rw [if_pos rfl]
    refine wpAny_bind (wpAny_mono z (fun ok s₄ h₄ => wpAny_pure ?_) fun _ _ e => e)
    exact wpAny_pure h₄
  · intro C i v s₃ m₃ E' hP hp hn hm hk htk
    obtain ⟨c, u, hc, rfl⟩ := hP
    have hc' : c ∈ x.cps.toList := by
      have : x.cps.toList[i]? = some c := by simpa using hc
      exact List.mem_of_getElem? this
    refine wpAny_mono (helt C c u s₃ m₃ E' hc' hp hn hm (F.keeps (up _ hk))) (fun r s₄ h₄ => ?_) fun _ _ e => e
    obtain ⟨⟨u', rfl⟩, hk⟩ := h₄
    exact ⟨⟨c, u, u', rfl, rfl⟩, hk⟩
  · intro D h' tk ys vs' hnew hlD hplD hlen hP hF hk
    have hsg : Signs vs' x.cps.toList := signs_of (by simpa using hlen) fun j v e => by
      obtain ⟨c, u, hc, rfl⟩ := hP j v e
      exact ⟨c, u, by simpa using hc, rfl⟩
    obtain ⟨n, en⟩ := hplD
    have hD0 : s₁.heap.get? D = none := by
      cases e : s₁.heap.get? D with
      | none => rfl
      | some o' => rw [Heap.get?_push_of_some _ e] at hnew; cases hnew
    refine h D n ys.toList h' tk (F.keeps (up h' hk)) (fun q hq => ?_) (signs_paired hsg hF)
    rcases List.mem_cons.mp hq with rfl | hq
    · refine ⟨by rw [Array.toArray_toList]; exact en, ?_, ?_⟩
      · rintro rfl
        obtain ⟨o, _, _, ho, _⟩ := F.ns
        rw [ho] at hD0; cases hD0
      · cases e : h₀.get? D with
        | none => rfl
        | some o' => rw [F.keep _ _ e] at hD0; cases hD0
    · exact (N.grown (up h' hk)) q hq
end
end
section
section
theorem kw26 : True := by
  k_with "call ref" => ((k_here; (try dsimp only [List.cons_append, List.nil_append]); (with_reducible show wpAny _ _ (call (Value.ref 285) _) _ _ _); (refine pure_callK (spelled_spec _ _ _ _ _ _ _ (by assumption) (by assumption) (by assumption)) (by assumption) (by k_asm) (by k_asm) (by k_asm) (by k_asm) (by exact rfl) (by exact rfl) (by exact rfl) (by ((try dsimp only [Ar, Around.deeper, Around.in1]); omega)) (by ((try dsimp only [Ar, Around.deeper, Around.in1]); omega)) ?_; intro t' h' tk' F' N' e')))
  exact trivial
theorem folded290 (w : World) (p' : Program) (loose : List Str) (bs : List Bool) (seed : Int) (h0 : 0 ≤ seed) (h1 : seed < 10000000) (hlen : (strOf bs).length ≤ 100) (tw ts : Tok) :
    PureH w p' loose 8 60 290 [.str (strOf bs) tw, .int seed ts] (fun _ => True) (fun v => ∃ t, v = .str (strOf (s1 bs)) t) := by
  intro dp un gd outer base mean mg mb s Q E hd hu B X T _ hret
  have Ld := Led.self s.heap
  revert X; k_fill; intro X
  refine wpAny_call ?_
  refine' mut_enter X T Ld ?k6 ?k7 ?k8 ?k9 ?kB ?_ ?c2 ?c3 ?c4 ?c5
  (case k6 => k_is)
  (case k7 => k_is)
  (case k8 => (show dp < _; omega))
  (case k9 => first | exact BindsTo.of_eq rfl | exact binds_K (X.keeps Ld.keep) rfl (by k_is) rfl rfl rfl)
  (case kB => exact locs rfl)
  (case c2 => exact rfl)
  (case c3 => exact rfl)
  (case c4 => exact rfl)
  (case c5 => decide)
  intro L' h' F' N'
  try dsimp only
  k_steps
  rename News _ _ _ _ => hN
  rename Fr _ _ _ _ => hF
  have hsl := spell_len (strOf bs) seed (rangeKs 0 (strOf bs).length) (Str.ofString "")
  have he0 : (Str.ofString "").length = 0 := by decide
  rw [rangeKs_length, he0] at hsl
  refine iter_strC (fun c => !b1S w.params (c : Int)) mapC (by exact rfl) hF hN (by have h5 : (spellL (strOf bs) seed (rangeKs 0 (strOf bs).length)).length ≤ 0 + 3 * (strOf bs).length := hsl; omega) ?_ ?_ ?_
  · intro C c t s₂ m₂ E' hc hn hm F4
    k_steps
    refine pure_callK (b1_spec w p' loose c _) (by assumption) (by assumption) (by assumption) (by assumption) News.nil (by exact rfl) (by exact rfl) (by exact rfl) (by ((try dsimp only [Ar, Around.deeper, Around.in1]); omega)) (by ((try dsimp only [Ar, Around.deeper, Around.in1]); omega)) fun t3 h3 tk3 F5 N5 e5 => ?_
    k_steps
    exact ⟨h3, tk3, rfl, e5⟩
  · intro C c t s₂ m₂ E' hc hp hn hm F4
    k_steps
    refine pure_callK (b3_all w p' loose c (good_spell w.params _ seed h0 _ c hc (by simpa using hp)) _) (by assumption) (by assumption) (by assumption) (by assumption) News.nil (by exact rfl) (by exact rfl) (by exact rfl) (by ((try dsimp only [Ar, Around.deeper, Around.in1]); omega)) (by ((try dsimp only [Ar, Around.deeper, Around.in1]); omega)) fun t3 h3 tk3 F5 N5 e5 => ?_
    exact ⟨⟨t3, rfl⟩, h3, tk3, rfl, e5⟩
  · intro D nD ys h5 tk5 F5 N5 hys
    k_steps
    have h5' : (spellL (strOf bs) seed (rangeKs 0 (strOf bs).length)).length ≤ 0 + 3 * (strOf bs).length := hsl
    have hcnt : ((spellL (strOf bs) seed (rangeKs 0 (strOf bs).length)).cps.toList.filter fun (c : Nat) => !b1S w.params (c : Int)).length ≤ 300 := by
      have e1 := List.length_filter_le (fun (c : Nat) => !b1S w.params (c : Int)) (spellL (strOf bs) seed (rangeKs 0 (strOf bs).length)).cps.toList
      have e2 : (spellL (strOf bs) seed (rangeKs 0 (strOf bs).length)).cps.toList.length = (spellL (strOf bs) seed (rangeKs 0 (strOf bs).length)).length := by simp [Str.length]
      omega
    have hml : ∀ x ∈ ((spellL (strOf bs) seed (rangeKs 0 (strOf bs).length)).cps.toList.filter fun (c : Nat) => !b1S w.params (c : Int)).map mapC, x.length ≤ 3 := by
      intro x hx
      obtain ⟨c, -, rfl⟩ := List.mem_map.mp hx
      unfold mapC
      split
      · decide
      · split <;> decide
    have hsum := sum_len_le hml
    rw [List.length_map] at hsum
    refine join_list ⟨_, (N5 _ (.head _)).1, rfl, _, rfl⟩ hys (by rw [he0, Nat.mul_zero]; omega) fun t k => ?_
    have hfold : foldB w.params (spellL (strOf bs) seed (rangeKs 0 (strOf bs).length)).cps.toList = (s1 bs).map codeB := by
      have := fold_spell w.params bs seed h0 bs.length (Nat.le_refl _)
      rw [List.take_length] at this
      rw [strOf_len]
      exact this
    rw [join_fold w.params _ (s1 bs) hfold]
    exact hret _ _ _ ⟨_, rfl⟩ (Fr.keep F5)
end
end
theorem kw27 : True := by
  k_with_none
  k_with "getMethod ref" => ((k_here; k_dflt (refine' method_bi ?k1 ?k2 ?k3 ?k4 ?k5 ?k6 ?k7 ?_; (case k1 => k_in); (case k2 => k_inst); (case k3 => k_is); (case k4 => k_is); (case k5 => k_is); (case k6 => exact T_append); (case k7 => first | assumption | rfl); k_whole)))
  k_with "getMethod ref" => ((k_here; k_dflt (refine' method_fnL ?k1 ?k2 ?k3 ?k4 ?k5 ?k6 ?k7 ?_; (case k1 => k_in); (case k2 => k_inst); (case k3 => k_is); (case k4 => k_is); (case k5 => k_is); (case k6 => k_is); (case k7 => first | assumption | rfl); k_whole)))
  k_with "getMethod ref" => ((k_here; k_dflt (refine' super_methK ?k1 ?k2 ?k3 ?k4 ?k5 ?k6 ?k7 ?k8 ?k9 ?kA ?kB ?kC ?_; (case k1 => k_asm); (case k2 => k_asm); (case k3 => k_asm); (case k4 => k_mem); (case k5 => k_inst); (case k6 => k_is); (case k7 => ks_is); (case k8 => k_is); (case kB => first | exact binds_pop | exact binds_len | exact binds_init); (case k9 => kernel_rfl); (case kA => first | exact slot_md_get.lookup | exact slot_wd_get.lookup); (case kC => decide); intro q' h' F' N' l1; (try k_lt l1))))
  k_with "callWith ref" => ((k_here; k_dflt (refine' callWith_B0 ?k1 ?k2 ?k3 ?_; (case k1 => exact (News.get (by k_asm) (by k_mem))); (case k2 => rfl); (case k3 => rfl); k_whole)))
  k_with "call ref" => ((k_here; k_dflt (refine' len_B ?k1 ?k2 ?k3 ?_; (case k1 => exact (News.get (by k_asm) (by k_mem))); (case k2 => first | exact (News.get (by k_asm) (by k_mem)) | exact Fr.keep (by k_asm) _ _ (by assumption)); (case k3 => omega); k_whole); intro _))
  k_with "call ref" => ((k_here; k_dflt (refine' pop_B ?k1 ?k2 ?k3 ?k4 ?k5 ?k6 ?k7 ?k8 ?k9 ?kA ?kB ?_; (case k1 => k_asm); (case k2 => k_asm); (case k3 => k_in); (case k4 => k_inst); (case k5 => exact (News.get (by k_asm) (by k_mem))); (case k6 => k_is); (case k7 => decide +kernel); (case k8 => k_is); (case k9 => k_is); (case kA => omega); (case kB => k_upd); k_whole); intro h' F' N'))
  k_with "call builtin:list.append" => ((k_here; k_dflt (refine' append_sub ?k1 ?k2 ?k3 ?k4 ?k5 ?k6 ?k7 ?_; (case k1 => k_asm); (case k2 => k_asm); (case k3 => k_asm); (case k4 => k_inst); (case k5 => k_is); (case k6 => k_upd); (case k7 => omega); k_whole; intro h' F' N')))
  k_with "wpAt" => ((dsimp only; walk_at "wpAt"))
  k_with "wpAt" => ((ks_step "eval Call"; (with_unfolding_all refine ks_wpAt_MethodCall (pl := (do return (← importBound _ _).getD true)) ?_)))
  k_with "setItem ref ref" => ((k_here; k_dflt (refine' setSlice_sub ?k1 ?k2 ?k3 ?k4 ?k5 ?k6 ?k7 ?k8 ?k9 ?kA ?kB ?kC ?kD ?kE ?_; (case k1 => k_asm); (case k2 => k_asm); (case k3 => k_asm); (case k4 => k_inst); (case k5 => k_is); (case k6 => k_is); (case k7 => k_is); (case kA => first | exact News.get (by k_asm) (by k_mem) | exact Fr.keep (by k_asm) _ _ (by assumption)); (case k8 => first | omega | k_ne); (case k9 => first | exact PySem.IsPart.none | exact PySem.IsPart.int _ _); (case kB => first | exact cut_all _ _ | exact cut_from _ _ (by omega)); (case kC => k_upd); (case kD => first | omega | (simp; done) | (simp; omega)); (case kE => first | omega | (simp; done) | (simp; omega)); k_whole); intro h' F' N'))
  k_with "setAttr ref" => ((k_here; k_dflt (refine' set_dictL ?k1 ?k2 ?k3 ?k4 ?k5 ?k6 ?k7 ?k8 ?k9 ?kA ?kB ?kC ?kD ?kE ?_; (case k1 => k_asm); (case k2 => k_asm); (case k3 => k_asm); (case k4 => k_inst); (case k5 => exact rfl); (case k6 => k_is); (case k7 => k_is); (case k8 => rfl); (case k9 => k_is); (case kA => rfl); (case kB => first | k_get | exact rfl); (case kC => first | k_put | exact rfl); (case kD => k_upd); (case kE => exact Nat.le_of_ble_eq_true rfl); k_whole; intro h' F' N')))
  k_with "subscriptTail Name Slice ref ref" => ((k_here; (with_reducible show wpAny _ _ (subscriptTail _ (PySem.Expr.Slice _ _ none _) (Value.ref _) (Value.ref _)) _ _ _); k_dflt (refine' slice_sub ?k1 ?k2 ?k3 ?k4 ?k5 ?k6 ?k7 ?k8 ?k9 ?kA ?_ ?kB ?kC; (case k1 => k_asm); (case k2 => k_asm); (case k3 => k_asm); (case k4 => k_inst); (case k5 => k_is); (case k6 => k_is); (case k7 => k_is); (case k8 => first | exact PySem.IsPart.none | exact PySem.IsPart.int _ _); (case k9 => first | exact PySem.IsPart.none | exact PySem.IsPart.int _ _); (case kA => exact pick_from _ _ (by omega)); (case kB => with_unfolding_all rfl); (case kC => omega); k_whole); intro D' h' F' N' l1; (try k_lt l1)))
  k_with "wpAt" => ((ks_step "attributeBase Call"; k_here; k_dflt (refine node_sup (by k_asm) (by k_asm) (by k_asm) (by k_asm) (by k_is) (by rfl) (by rfl) (by k_inst) (by k_is) (by rfl) (by first | rfl | decide +kernel) (by k_is) (by k_is) (by k_is) (by k_is) (by decide) (by rfl) (by rfl) (by rfl) (by rfl) (by decide +kernel) (by first | boot_by_name | rfl | kernel_rfl) ?_; intro so' h' F' N' l1; (try k_lt l1))))
  k_with "call ref" => ((k_here; (with_reducible show wpAny _ _ (call (Value.ref 175) _) _ _ _); (refine' pureH_callK (pc_spec _ _ _ _ _ _ _ _ _ _ ?hz ?hkk) ?kB ?kF ?kX ?kT ?kN ?kA ?kf ?kk ?kd ?ku ?kp ?_; (case kA => exact rfl); (case kf => exact rfl); (case kk => exact rfl); (case kp => exact ⟨(by first | exact News.get (by k_asm) (by k_mem) | exact Fr.keep (by k_asm) _ _ (by assumption)), (by first | exact News.get (by k_asm) (by k_mem) | exact Fr.keep (by k_asm) _ _ (by assumption))⟩); (case hkk => first | (simp only [List.length_append, List.length_cons, List.length_nil, Nat.zero_add, Nat.reduceAdd]; rfl) | rfl); (case hz => first | omega | (simp; omega) | simp); (case kB => assumption); (case kF => k_asm); (case kX => k_asm); (case kT => k_asm); (case kN => k_asm); (case kd => ((try dsimp only [Ar, Around.deeper, Around.in1]); omega)); (case ku => ((try dsimp only [Ar, Around.deeper, Around.in1]); omega)); intro v' h' tk' hv' F' N' e'; obtain ⟨_, e9⟩ := hv'; subst e9)))
  exact trivial
section
section
variable {prog : Program} {w : World} {A : Around} {E : Value → Shared → Prop} {R : Result → Shared → Prop} {s : Shared}
theorem compTurn0 (elt t0 i0 t1 i1 : PySem.Expr) (scope : Scope) (pos : Pos) (it acc : Value) (env : Env) (hs : ∀ x, foldedSetIterable i1 env x = pure x) :
    compTurn (.ListComp elt [⟨t0, i0, [], 0⟩, ⟨t1, i1, [], 0⟩] scope pos) 0 it acc env = (standAt i0.pos >>= fun _ => pyNext it >>= fun r => match r with
      | none => pure (.done .next)
      | some v => letOwnedTupleGo t0 it v >>= fun _ => assign t0 env v >>= fun _ =>
        eval i1 env >>= fun x => standAt i1.pos >>= fun _ => foldedSetIterable i1 env x >>= fun x => holding [x] (pyIter x) >>= fun it1 =>
          runOwn (.compStart (.ListComp elt [⟨t0, i0, [], 0⟩, ⟨t1, i1, [], 0⟩] scope pos) 1 it1 acc env) env >>= fun _ =>
          again (.compLoop (.ListComp elt [⟨t0, i0, [], 0⟩, ⟨t1, i1, [], 0⟩] scope pos) 0 it acc env)) := by rfl
theorem compTurn1 (elt t0 i0 t1 i1 : PySem.Expr) (scope : Scope) (pos : Pos) (it acc : Value) (env : Env) :
    compTurn (.ListComp elt [⟨t0, i0, [], 0⟩, ⟨t1, i1, [], 0⟩] scope pos) 1 it acc env = (standAt i1.pos >>= fun _ => pyNext it >>= fun r => match r with
      | none => pure (.done .next)
      | some v => letOwnedTupleGo t1 it v >>= fun _ => assign t1 env v >>= fun _ =>
        (eval elt env >>= fun x => call (.builtin "list.append") [acc, x] >>= fun _ => pure ()) >>= fun _ =>
          again (.compLoop (.ListComp elt [⟨t0, i0, [], 0⟩, ⟨t1, i1, [], 0⟩] scope pos) 1 it acc env)) := by rfl
noncomputable abbrev e2 (elt t0 i0 t1 i1 : PySem.Expr) (scope : Scope) (pos : Pos) : PySem.Expr := .ListComp elt [⟨t0, i0, [], 0⟩, ⟨t1, i1, [], 0⟩] scope pos
theorem comp_turn0 {elt t0 i0 t1 i1 : PySem.Expr} {scope : Scope} {pos : Pos} {it acc : Value} {env : Env} (hs : ∀ x, foldedSetIterable i1 env x = pure x) (ht : ∀ v, letOwnedTupleGo t0 it v = pure ())
    (h : wpAny (model prog w) A (pyNext it) (fun r s₁ => match r with
      | none => R (.ok .next) s₁
      | some v => wpAny (model prog w) A (assign t0 env v) (fun _ s₂ => wpAny (model prog w) A (eval i1 env) (fun x s₃ => wpAny (model prog w) A (pyIter x) (fun it1 s₄ =>
          codeAny (model prog w) A (.compStart (e2 elt t0 i0 t1 i1 scope pos) 1 it1 acc env) (fun r s' => match r with
            | .ok _ => codeAny (model prog w) A (.compLoop (e2 elt t0 i0 t1 i1 scope pos) 0 it acc env) R s'
            | .error x => cameBackBy (model prog w) A env (notedBy (model prog w) A env fun e s' => R (.error e) s') x s') s₄)
          (notedBy (model prog w) A env fun e s' => R (.error e) s') s₃) (notedBy (model prog w) A env fun e s' => R (.error e) s') s₂) (notedBy (model prog w) A env fun e s' => R (.error e) s') s₁) (notedBy (model prog w) A env fun e s' => R (.error e) s') s) :
    codeAny (model prog w) A (.compLoop (e2 elt t0 i0 t1 i1 scope pos) 0 it acc env) R s := by
  refine codeAny_of_tree ?_
  show wpAny _ A ((compTurn (e2 elt t0 i0 t1 i1 scope pos) 0 it acc env).onRaise (fun x => do noteFrame x env; theTreesLotGoes x)) _ _ s
  refine wpAny_noted ?_
  rw [compTurn0 elt t0 i0 t1 i1 scope pos it acc env hs]
  refine wpAny_bind (wpAny_standAt (wpAny_bind (wpAny_mono h (fun r s₁ h₁ => ?_) fun _ _ h' => h')))
  cases r with
  | none => exact wpAny_pure h₁
  | some v =>
    refine wpAny_bind (wpAny_of_eq (ht v) ?_)
    refine wpAny_bind (wpAny_mono h₁ (fun _ s₂ h₂ => wpAny_bind (wpAny_mono h₂ (fun x s₃ h₃ => wpAny_bind (wpAny_standAt (wpAny_bind (wpAny_of_eq (hs x) (wpAny_bind (wpAny_holding (wpAny_mono h₃ (fun it1 s₄ h₄ => ?_) fun _ _ h' => h'))))))) fun _ _ h' => h')) fun _ _ h' => h')
    refine wpAny_bind (wpAny_runOwn (codeAny_mono h₄ fun r s' hr => ?_))
    cases r with
    | ok f => exact wpAny_pure ⟨rfl, hr⟩
    | error x => exact hr
theorem comp_turn1 {elt t0 i0 t1 i1 : PySem.Expr} {scope : Scope} {pos : Pos} {it acc : Value} {env : Env} (ht : ∀ v, letOwnedTupleGo t1 it v = pure ())
    (h : wpAny (model prog w) A (pyNext it) (fun r s₁ => match r with
      | none => R (.ok .next) s₁
      | some v => wpAny (model prog w) A (assign t1 env v) (fun _ s₂ => wpAny (model prog w) A (eval elt env) (fun x s₃ => wpAny (model prog w) A (call (.builtin "list.append") [acc, x]) (fun _ s₄ =>
          codeAny (model prog w) A (.compLoop (e2 elt t0 i0 t1 i1 scope pos) 1 it acc env) R s₄)
          (notedBy (model prog w) A env fun e s' => R (.error e) s') s₃) (notedBy (model prog w) A env fun e s' => R (.error e) s') s₂) (notedBy (model prog w) A env fun e s' => R (.error e) s') s₁) (notedBy (model prog w) A env fun e s' => R (.error e) s') s) :
    codeAny (model prog w) A (.compLoop (e2 elt t0 i0 t1 i1 scope pos) 1 it acc env) R s := by
  refine codeAny_of_tree ?_
  show wpAny _ A ((compTurn (e2 elt t0 i0 t1 i1 scope pos) 1 it acc env).onRaise (fun x => do noteFrame x env; theTreesLotGoes x)) _ _ s
  refine wpAny_noted ?_
  rw [compTurn1]
  refine wpAny_bind (wpAny_standAt (wpAny_bind (wpAny_mono h (fun r s₁ h₁ => ?_) fun _ _ h' => h')))
  cases r with
  | none => exact wpAny_pure h₁
  | some v =>
    refine wpAny_bind (wpAny_of_eq (ht v) ?_)
    refine wpAny_bind (wpAny_mono h₁ (fun _ s₂ h₂ => wpAny_bind (wpAny_bind (wpAny_mono h₂ (fun x s₃ h₃ => wpAny_bind (wpAny_mono h₃ (fun _ s₄ h₄ => wpAny_pure (wpAny_pure ⟨rfl, h₄⟩)) fun _ _ h' => h')) fun _ _ h' => h'))) fun _ _ h' => h')
end
section
variable {prog : Program} {w : World} {A : Around} {E : Value → Shared → Prop} {R : Result → Shared → Prop} {s : Shared}
theorem comp_start1 {elt t0 i0 t1 i1 : PySem.Expr} {scope : Scope} {pos : Pos} {it acc : Value} {env : Env}
    (h0 : codeAny (model prog w) A (.compLoop (e2 elt t0 i0 t1 i1 scope pos) 1 it acc env) R s)
    (h : wpAny (model prog w) A (pyIter it) (fun it' s' => codeAny (model prog w) A (.compLoop (e2 elt t0 i0 t1 i1 scope pos) 1 it' acc env) R s') (notedBy (model prog w) A env fun x s' => R (.error x) s') s) :
    codeAny (model prog w) A (.compStart (e2 elt t0 i0 t1 i1 scope pos) 1 it acc env) R s := by
  refine codeAny_of_tree ?_
  show wpAny _ _ ((compStart (e2 elt t0 i0 t1 i1 scope pos) 1 it acc env).onRaise (fun x => do noteFrame x env; standAt theWindowsPlace)) _ _ s
  refine wpAny_notedAt ?_
  unfold compStart
  show wpAny _ _ (ask >>= _) _ _ s
  refine wpAny_bind (wpAny_askSetting (wpAny_ite ?_))
  split
  · first
      | exact wpAny_bind (wpAny_pure (wpAny_pure (And.intro rfl h0)))
      | exact wpAny_pure (And.intro rfl h0)
  · first
      | exact wpAny_bind (wpAny_rule (wpAny_bind (wpAny_standAt (wpAny_bind (wpAny_mono h (fun it' s' h' => wpAny_pure (And.intro rfl h')) fun _ _ x => x)))))
      | (refine wpAny_bind (wpAny_rule ?_); show wpAny _ _ (standAt i1.pos >>= _) _ _ s; exact wpAny_bind (wpAny_standAt (wpAny_bind (wpAny_mono h (fun it' s' h' => wpAny_pure (And.intro rfl h')) fun _ _ x => x))))
end
end
section
section
variable {prog : Program} {w : World} {A : Around} {s : Shared} {K : Frag} {p : Program} {loose : List Str} {mg mb : Str → Option Value}
  {R : Result → Shared → Prop} {name qual : Str} {params : Arguments} {body : List Stmt} {scope : Scope} {dV kV doc pm cdv ct oc : Value} {an od : Option Addr} {osl : Array (Option Value)} {f : Addr} {args : Args} {binds : List (Str × Value)}
/-- entry of a def with cell variables that changes nothing it did not make -/
theorem cell_enter (X : K.In s.heap) (T : TopRead p loose mg mb s.heap) (ho : K.lookup f = some ⟨oc, od, .func (fnX name qual params body scope [] dV kV doc pm an cdv ct), osl⟩) (hcd : codeIn K cdv qual = true) (hroom : A.depth < recursionLimit)
    (hbind : BindsTo s (fnX name qual params body scope [] dV kV doc pm an cdv ct) args binds)
    (hkind : ∀ n, ∀ x ∈ binds, scope.names.lookup x.1 = some .local ∨ (scope.names.lookup x.1 = some .cell ∧ ((cellsFrom n scope.names []).lookup x.1).isSome = true))
    (hnd : ((cellsFrom 0 scope.names []).map (·.1)).Nodup)
    (h : ∀ L' h₁ tk cells, Fr s.heap L' h₁ (bindL (envOfC qual scope L' f cdv).kindOf binds fun _ => none) → News s.heap L' h₁ cells →
      CellsAre (bindC (envOfC qual scope L' f cdv).kindOf binds fun _ => none) (cellsFrom (L' + 1) scope.names []) cells →
      wpAny (model prog w) (A.deeper (envOfC qual scope L' f cdv)) (execs body (envOfC qual scope L' f cdv))
        (fun fl s' => R (.ok (.ret (match fl with | .ret v => v | _ => .none))) s')
        (fun e s' => wpAny (model prog w) (A.deeper (envOfC qual scope L' f cdv)) (leaving (envOfC qual scope L' f cdv) e) (fun _ s'' => R (.error e) s'') (fun e' s'' => R (.error e') s'') s')
        { s with heap := h₁, toks := tk })
    (hco : scope.isCoroutine = false := by rfl) (hgen : scope.isGenerator = false := by rfl) (hk : scope.kind = .function := by rfl) : codeAny (model prog w) A (.call (.ref f) args) R s := by
  refine codeAny_call_function hroom (X _ _ ho) rfl hco hgen rfl (codeRec_of X hcd) (hbind _ _ _ _ ?_)
  refine wpAny_newFunctionEnv_cells hk (hkind _) fun env' he s' x => ?_
  subst he
  refine ⟨T.nolimit.keeps x.toInCall.keep, codeAny_func ?_⟩
  obtain ⟨h₁, tk, rfl, _⟩ := x.done
  have hk₁ := x.toInCall.keep
  obtain ⟨cells, NC, Y⟩ := Cl.news (h₀ := s.heap) (Nat.le_refl _) fun n c hm => ⟨x.cell n c (lookup_of_mem_nodup (cellsFrom_names scope.names 0 (s.heap.objs.size + 1) [] [] rfl ▸ hnd) hm), x.above n c hm⟩
  refine wpAny_mono (h s.heap.objs.size h₁ tk cells ⟨x.toInCall.ns, hk₁, Nat.le_refl _⟩ NC Y) (fun fl s' hl => hl) fun _ _ y => y
end
end
section
section
variable {prog : Program} {w : World} {A : Around} {R : Result → Shared → Prop}
theorem comp2_inner {elt t0 i0 i1 : PySem.Expr} {z1 : Str} {p1 pos : Pos} {scope : Scope} {J D : Addr} {cenv : Env} {base : Heap} (f : Nat → Str) (k : Nat) (hh : A.handled = none)
    (hx : cenv.kindOf z1 = some .local) (hp : (cenv.scope.kind == .class || (cenv.scope.kind == .module && cenv.locals != cenv.globals)) = false)
    (hDC : D ≠ cenv.locals) (hDJ : D ≠ J) (hCJ : cenv.locals ≠ J) (bC : base.get? cenv.locals = none) (bD : base.get? D = none) (bJ : base.get? J = none)
    (helt : ∀ (j : Nat) t (s₂ : Shared) m₂ E', j < k → s₂.heap.Ns cenv.locals m₂ → m₂ z1 = some (.int j t) → (∀ b o, base.get? b = some o → s₂.heap.get? b = some o) →
      wpAny (model prog w) A (eval elt cenv) (fun y s₃ => (∃ u, y = .str (f j) u) ∧ Keeps s₂ s₃) E' s₂) :
    ∀ (d j : Nat) (s : Shared) (ys : Array Value) (xs : List Str) (m : Str → Option Value), j + d = k → IsRangeIter s.heap J (j : Int) (d : Int) 1 → s.heap.PlainList D ys → ys.size + d ≤ 1000 → StrsAre ys.toList xs →
      s.heap.Ns cenv.locals m → (∀ b o, base.get? b = some o → s.heap.get? b = some o) →
      (∀ h' tk m' ys', h'.Ns cenv.locals m' → h'.PlainList D ys' → ys'.size = ys.size + d → StrsAre ys'.toList (xs ++ (List.range d).map fun i => f (j + i)) →
        (∀ b o, b ≠ cenv.locals → b ≠ J → b ≠ D → s.heap.get? b = some o → h'.get? b = some o) → R (.ok .next) { s with heap := h', toks := tk }) →
      codeAny (model prog w) A (.compLoop (e2 elt t0 i0 (.Name z1 p1) i1 scope pos) 1 (.ref J) (.ref D) cenv) R s := by
  intro d
  induction d with
  | zero =>
    intro j s ys xs m hj hit hD hsz hys hC hk hR
    refine comp_turn1 (fun v => rfl) ?_
    refine wpAny_pyNext_range_end hh hit (by omega) fun h' he' => ?_
    show R (.ok .next) _
    exact hR h' s.toks m ys (hC.at' fun o e => he' _ o (fun h => hCJ h) e) (hD.at fun o e => he' _ o (fun h => hDJ h) e) rfl (by simpa using hys) fun b o _ hb _ e => he' b o hb e
  | succ d ih =>
    intro j s ys xs m hj hit hD hsz hys hC hk hR
    refine comp_turn1 (fun v => rfl) ?_
    refine wpAny_pyNext_range_item hit (by omega) fun h₁ hit₁ hs₁ => ?_
    have hC₁ : h₁.Ns cenv.locals m := hC.at' fun o e => hs₁.extBut _ o hCJ e
    show wpAny _ A (assign (.Name z1 p1) cenv _) _ _ _
    refine wpAny_assign_Name (wpAny_storeName_local hx hC₁ (fun h₂ hn₂ hs₂ => ?_) hp)
    have up₂ : ∀ b o, b ≠ cenv.locals → b ≠ J → s.heap.get? b = some o → h₂.get? b = some o := fun b o hbC hbJ e => hs₂.extBut b o hbC (hs₁.extBut b o hbJ e)
    have base₂ : ∀ b o, base.get? b = some o → h₂.get? b = some o := fun b o e => up₂ b o (by rintro rfl; rw [bC] at e; cases e) (by rintro rfl; rw [bJ] at e; cases e) (hk b o e)
    have hit₂ : IsRangeIter h₂ J ((j : Int) + 1) (((d + 1 : Nat) : Int) - 1) 1 := hs₂.extBut _ _ (Ne.symm hCJ) hit₁
    refine wpAny_mono (helt j _ _ _ _ (by omega) hn₂ (by exact if_pos rfl) base₂) (fun y s₃ h₃ => ?_) fun _ _ e => e
    obtain ⟨⟨u, rfl⟩, h₃, tk₃, rfl, hk₃⟩ := h₃
    have hD₃ : h₃.PlainList D ys := hD.at fun o e => hk₃ _ o (up₂ D o hDC hDJ e)
    refine wpAny_list_append_plain (hsz := by rw [sizeLine_eq]; omega) hD₃ fun h₄ hl₄ hs₄ => ?_
    refine ih (j + 1) _ (ys.push (.str (f j) u)) (xs ++ [f j]) _ (by omega) ?_ hl₄ (by rw [Array.size_push]; omega) ?_ ((hn₂.keeps hk₃).sameBut hs₄ (Ne.symm hDC)) ?_ ?_
    · have e := hs₄.extBut _ _ (Ne.symm hDJ) (hk₃ _ _ hit₂)
      have e1 : (((d + 1 : Nat) : Int) - 1) = (d : Int) := by omega
      rw [e1] at e
      exact e
    · rw [Array.toList_push]
      exact strsAre_snoc hys _ _
    · exact fun b o e => hs₄.extBut b o (by rintro rfl; rw [bD] at e; cases e) (hk₃ b o (base₂ b o e))
    · intro h' tk m' ys' hn' hD' hsz' hys' hk'
      refine hR h' tk m' ys' hn' hD' (by rw [hsz', Array.size_push]; omega) ?_ fun b o hbC hbJ hbD e => hk' b o hbC hbJ hbD (hs₄.extBut b o hbD (hk₃ b o (up₂ b o hbC hbJ e)))
      have e : xs ++ (List.range (d + 1)).map (fun i => f (j + i)) = (xs ++ [f j]) ++ (List.range d).map (fun i => f (j + 1 + i)) := by
        rw [List.range_succ_eq_map, List.map_cons, List.map_map, List.append_assoc]
        congr 1
        show _ :: _ = _ :: _
        congr 1
        apply List.map_congr_left
        intro a _
        show f (j + (a + 1)) = f (j + 1 + a)
        congr 1; omega
      rw [e]
      exact hys'
theorem comp2_outer {elt i0 i1 : PySem.Expr} {z0 z1 : Str} {p0 p1 pos : Pos} {scope : Scope} {I D : Addr} {cenv : Env} {base : Heap} (x : Str) (t : Tok) (f : Nat → Str) (kk : Nat → Nat) (hh : A.handled = none)
    (hx0 : cenv.kindOf z0 = some .local) (hx : cenv.kindOf z1 = some .local) (hp : (cenv.scope.kind == .class || (cenv.scope.kind == .module && cenv.locals != cenv.globals)) = false)
    (hDC : D ≠ cenv.locals) (hDI : D ≠ I) (hCI : cenv.locals ≠ I) (bC : base.get? cenv.locals = none) (bD : base.get? D = none) (bI : base.get? I = none)
    (hs : ∀ x, foldedSetIterable i1 cenv x = pure x)
    (hkk : ∀ c ∈ x.cps.toList, kk c ≤ 21 ∧ Builtin.Range.small 0 (kk c : Int) 1 = true ∧ Builtin.Range.rangeSize 0 (kk c : Int) 1 = (kk c : Int))
    (hiter : ∀ c t (s₂ : Shared) m₂ E', c ∈ x.cps.toList → s₂.heap.Ns cenv.locals m₂ → m₂ z0 = some (.str ⟨#[c]⟩ t) → (∀ b o, base.get? b = some o → s₂.heap.get? b = some o) →
      wpAny (model prog w) A (eval i1 cenv) (fun y s₃ => (∃ l a b c', y = .ref l ∧ IsRange s₃.heap l 0 (kk c : Int) 1 a b c') ∧ Keeps s₂ s₃) E' s₂)
    (helt : ∀ (j : Nat) t (s₂ : Shared) m₂ E', j < 21 → s₂.heap.Ns cenv.locals m₂ → m₂ z1 = some (.int j t) → (∀ b o, base.get? b = some o → s₂.heap.get? b = some o) →
      wpAny (model prog w) A (eval elt cenv) (fun y s₃ => (∃ u, y = .str (f j) u) ∧ Keeps s₂ s₃) E' s₂) :
    ∀ (d i : Nat) (s : Shared) (ys : Array Value) (xs : List Str) (m : Str → Option Value), i + d = x.cps.size → s.heap.IsStrIter I "str_ascii_iterator" x t i → s.heap.PlainList D ys → ys.size + d * 21 ≤ 1000 → StrsAre ys.toList xs →
      s.heap.Ns cenv.locals m → (∀ b o, base.get? b = some o → s.heap.get? b = some o) →
      (∀ h' tk m' ys', h'.Ns cenv.locals m' → h'.PlainList D ys' → StrsAre ys'.toList (xs ++ (x.cps.toList.drop i).flatMap fun c => (List.range (kk c)).map f) →
        (∀ b o, base.get? b = some o → h'.get? b = some o) → R (.ok .next) { s with heap := h', toks := tk }) →
      codeAny (model prog w) A (.compLoop (e2 elt (.Name z0 p0) i0 (.Name z1 p1) i1 scope pos) 0 (.ref I) (.ref D) cenv) R s := by
  intro d
  have W := Walks.strAscii (prog := prog) (w := w) hh I x t
  induction d with
  | zero =>
    intro i s ys xs m hi hit hD hsz hys hC hk hR
    refine comp_turn0 hs (fun v => rfl) ?_
    refine W.done s _ _ (by have : x.cps.size = i := by omega
                            rw [this]; exact hit) fun h' tk he' => ?_
    show R (.ok .next) _
    refine hR h' tk m ys (hC.at' fun o e => he' _ o (by simpa using hCI) e) (hD.at fun o e => he' _ o (by simpa using hDI) e) ?_ fun b o e => he' b o (by simp; rintro rfl; rw [bI] at e; cases e) (hk b o e)
    rw [List.drop_eq_nil_of_le (by simp; omega)]
    simpa using hys
  | succ d ih =>
    intro i s ys xs m hi hit hD hsz hys hC hk hR
    refine comp_turn0 hs (fun v => rfl) ?_
    refine W.item i s _ _ (by omega) hit fun v h₁ tk₁ hv hit₁ hs₁ => ?_
    obtain ⟨c, u, hc, rfl⟩ := hv
    have hcl : x.cps.toList[i]? = some c := by simpa using hc
    have hcm : c ∈ x.cps.toList := List.mem_of_getElem? hcl
    obtain ⟨hk30, hsm, hrs⟩ := hkk c hcm
    have hC₁ : h₁.Ns cenv.locals m := hC.at' fun o e => hs₁ _ o (by simpa using hCI) e
    show wpAny _ A (assign (.Name z0 p0) cenv _) _ _ _
    refine wpAny_assign_Name (wpAny_storeName_local hx0 hC₁ (fun h₂ hn₂ hs₂ => ?_) hp)
    have up₂ : ∀ b o, b ≠ cenv.locals → b ≠ I → s.heap.get? b = some o → h₂.get? b = some o := fun b o hbC hbI e => hs₂.extBut b o hbC (hs₁ b o (by simpa using hbI) e)
    have base₂ : ∀ b o, base.get? b = some o → h₂.get? b = some o := fun b o e => up₂ b o (by rintro rfl; rw [bC] at e; cases e) (by rintro rfl; rw [bI] at e; cases e) (hk b o e)
    have hbI : ∀ b ∈ [I], b = I := fun b hb => by simpa using hb
    have hit₂ : h₂.IsStrIter I "str_ascii_iterator" x t (i + 1) := W.frame _ _ _ hit₁ fun b hb o e => hs₂.extBut b o (by rw [hbI b hb]; exact Ne.symm hCI) e
    refine wpAny_mono (hiter c u _ _ _ hcm hn₂ (by exact if_pos rfl) base₂) (fun y s₃ h₃ => ?_) fun _ _ e => e
    obtain ⟨⟨l, a, b, c', rfl, hrg⟩, h₃, tk₃, rfl, hk₃⟩ := h₃
    refine wpAny_pyIter_range hrg hsm ?_
    dsimp only
    have hJ : ∀ b o, h₃.get? b = some o → b ≠ h₃.objs.size := fun b o e => Nat.ne_of_lt (Heap.lt_size e)
    have hn₃ := hn₂.keeps hk₃
    have hD₃ : h₃.PlainList D ys := hD.at fun o e => hk₃ _ o (up₂ D o hDC hDI e)
    have hit₃ : h₃.IsStrIter I "str_ascii_iterator" x t (i + 1) := W.frame _ _ _ hit₂ fun b _ o e => hk₃ b o e
    have hCJ : cenv.locals ≠ h₃.objs.size := by obtain ⟨o, _, _, ho, _⟩ := hn₃; exact hJ _ o ho
    have hDJ : D ≠ h₃.objs.size := by obtain ⟨n, ho⟩ := hD₃; exact hJ _ _ ho
    have hIJ : I ≠ h₃.objs.size := by obtain ⟨o, ho, _⟩ := hit₃; exact hJ _ o ho
    rw [hrs]
    have bJ : base.get? h₃.objs.size = none := by
      cases e : base.get? h₃.objs.size with
      | none => rfl
      | some o => exact absurd rfl (hJ _ o (hk₃ _ _ (base₂ _ _ e)))
    generalize hH : h₃.push { cls := .type "range_iterator", data := .fields #[rawInt 0, rawInt (kk c : Int), rawInt 1] } = H at *
    have upH : ∀ b o, h₃.get? b = some o → H.get? b = some o := fun b o e => hH ▸ Heap.get?_push_of_some _ e
    have hitJ : IsRangeIter H h₃.objs.size ((0 : Nat) : Int) (kk c : Int) 1 := hH ▸ Heap.get?_push_size _ rfl
    have loop : codeAny (model prog w) A (.compLoop (e2 elt (.Name z0 p0) i0 (.Name z1 p1) i1 scope pos) 1 (.ref h₃.objs.size) (.ref D) cenv) (fun r s' => match r with
            | .ok _ => codeAny (model prog w) A (.compLoop (e2 elt (.Name z0 p0) i0 (.Name z1 p1) i1 scope pos) 0 (.ref I) (.ref D) cenv) R s'
            | .error x => cameBackBy (model prog w) A cenv (notedBy (model prog w) A cenv fun e s' => R (.error e) s') x s') { s with heap := H, toks := tk₃ } := by
      refine comp2_inner (base := base) f (kk c) hh hx hp hDC hDJ hCJ bC bD bJ (fun j t s₂ m₂ E' hj => helt j t s₂ m₂ E' (by omega)) (kk c) 0 { s with heap := H, toks := tk₃ } ys xs _ (by omega) hitJ (hD₃.at fun o e => upH _ o e) (by omega) hys (hn₃.keeps upH)
        (fun b o e => upH b o (hk₃ b o (base₂ b o e))) ?_
      intro h' tk m' ys' hn' hD' hsz' hys' hk'
      refine ih (i + 1) _ ys' _ m' (by omega) (W.frame _ _ _ (W.frame _ _ _ hit₃ fun b _ o e => upH b o e) fun b hb o e => ?_) hD' (by omega) hys' hn' (fun b o e => hk' b o (by rintro rfl; rw [bC] at e; cases e) (by rintro rfl; rw [bJ] at e; cases e) (by rintro rfl; rw [bD] at e; cases e) (upH b o (hk₃ b o (base₂ b o e)))) ?_
      · have : b = I := by simpa using hb
        subst this
        exact hk' _ o (Ne.symm hCI) hIJ (Ne.symm hDI) e
      · intro h'' tk' m'' ys'' hn'' hD'' hys'' hk''
        refine hR h'' tk' m'' ys'' hn'' hD'' ?_ hk''
        have e : x.cps.toList.drop i = c :: x.cps.toList.drop (i + 1) := by
          obtain ⟨hlt, e⟩ := List.getElem?_eq_some_iff.mp hcl
          rw [← e, List.drop_eq_getElem_cons hlt]
        rw [e, List.flatMap_cons, ← List.append_assoc]
        have e2 : (List.range (kk c)).map (fun i => f (0 + i)) = (List.range (kk c)).map f := List.map_congr_left fun a _ => by rw [Nat.zero_add]
        rw [e2] at hys''
        exact hys''
    exact comp_start1 loop (wpAny_pyIter_rangeiter hitJ loop)
end
section
variable {prog : Program} {w : World} {A : Around} {E : Value → Shared → Prop} {s : Shared} {h₀ : Heap} {L : Addr} {m : Str → Option Value} {news : List (Addr × Obj)}
theorem comp2 {env : Env} {elt i0 i1 : PySem.Expr} {z0 z1 : Str} {p0 p1 pos : Pos} {scope : Scope} {cl : List (Str × Addr)} {Q : Value → Shared → Prop} (x : Str) (f : Nat → Str) (kk : Nat → Nat)
    (hh : A.handled = none) (F : Fr h₀ L s.heap m) (N : News h₀ L s.heap news) (hasc : x.cps.all (· < 128) = true) (hsz : x.length * 21 ≤ 1000)
    (hclos : closureFor scope env = pure cl) (hcell : ∀ y ∈ scope.names, y.2 ≠ .cell) (hkind : scope.kind = .function)
    (hnames : ∀ y ∈ scope.names, y.2 = .local → scope.names.lookup y.1 = some .local) (hx0 : scope.names.lookup z0 = some .local) (hx1 : scope.names.lookup z1 = some .local)
    (h0 : wpAny (model prog w) A (eval i0 env) (fun y s₁ => (∃ t, y = .str x t) ∧ Keeps s s₁) E s)
    (hkk : ∀ c ∈ x.cps.toList, kk c ≤ 21 ∧ Builtin.Range.small 0 (kk c : Int) 1 = true ∧ Builtin.Range.rangeSize 0 (kk c : Int) 1 = (kk c : Int))
    (hiter : ∀ C c t (s₂ : Shared) m₂ E', c ∈ x.cps.toList → s₂.heap.Ns (compEnvC scope cl C env).locals m₂ → m₂ z0 = some (.str ⟨#[c]⟩ t) → Fr h₀ L s₂.heap m → News h₀ L s₂.heap news →
      wpAny (model prog w) A (eval i1 (compEnvC scope cl C env)) (fun y s₃ => (∃ l a b c', y = .ref l ∧ IsRange s₃.heap l 0 (kk c : Int) 1 a b c') ∧ Keeps s₂ s₃) E' s₂)
    (helt : ∀ C (j : Nat) t (s₂ : Shared) m₂ E', j < 21 → s₂.heap.Ns (compEnvC scope cl C env).locals m₂ → m₂ z1 = some (.int j t) → Fr h₀ L s₂.heap m → News h₀ L s₂.heap news →
      wpAny (model prog w) A (eval elt (compEnvC scope cl C env)) (fun y s₃ => (∃ u, y = .str (f j) u) ∧ Keeps s₂ s₃) E' s₂)
    (h : ∀ D n (ys : List Value) h' tk, Fr h₀ L h' m → News h₀ L h' ((D, listOf ys.toArray n) :: news) → StrsAre ys (x.cps.toList.flatMap fun c => (List.range (kk c)).map f) → Q (.ref D) { s with heap := h', toks := tk })
    (hs0 : ∀ x, foldedSetIterable i0 env x = pure x := by intro _; rfl) (hs1 : ∀ C x, foldedSetIterable i1 (compEnvC scope cl C env) x = pure x := by intro _ _; rfl) :
    wpAny (model prog w) A (eval (.ListComp elt [⟨.Name z0 p0, i0, [], 0⟩, ⟨.Name z1 p1, i1, [], 0⟩] scope pos) env) Q E s := by
  rw [eval_ListComp]
  refine wpAny_comprehension_free (use := none) rfl hs0 hclos hkind hnames (wpAny_mono h0 (fun xv s₁ h₁ => ?_) fun _ _ e => e)
  obtain ⟨⟨t, rfl⟩, h₁, tk₁, rfl, hk₁⟩ := h₁
  refine wpAny_pyIter_ascii hasc ?_
  dsimp only
  generalize hH2 : h₁.push _ = H2
  have hit2 : H2.IsStrIter h₁.objs.size "str_ascii_iterator" x t 0 := by rw [← hH2]; exact ⟨_, Heap.get?_push_size _ rfl, rfl, rfl⟩
  have up2 : ∀ b o, h₁.get? b = some o → H2.get? b = some o := fun b o e => hH2 ▸ Heap.get?_push_of_some _ e
  have sz2 : H2.objs.size = h₁.objs.size + 1 := by rw [← hH2, Heap.size_push]
  clear hH2
  refine wpAny_newObj_type (wpAny_newFunctionEnv hcell (by intro y hy; simp at hy) (fun h₃ hns₃ hsb₃ => ?_) hkind)
  dsimp only at hns₃ hsb₃ ⊢
  generalize hH3 : H2.push { cls := .type "list", dict := none, data := .seq ([] : List Value).toArray } = H3 at hns₃ hsb₃ ⊢
  have sz3 : H3.objs.size = h₁.objs.size + 2 := by rw [← hH3, Heap.size_push, sz2]
  have up3 : ∀ b o, H2.get? b = some o → H3.get? b = some o := fun b o e => hH3 ▸ Heap.get?_push_of_some _ e
  have pl3 : H3.PlainList H2.objs.size #[] := ⟨_, hH3 ▸ Heap.get?_push_size _ rfl⟩
  clear hH3
  have n2 : ∀ a, h₁.objs.size ≤ a → h₁.get? a = none := fun a ha => by
    cases e : h₁.get? a with
    | none => rfl
    | some o' => exact absurd (Heap.lt_size e) (Nat.not_lt.mpr ha)
  have old : ∀ b o, b ≠ H3.objs.size → H3.get? b = some o → h₃.get? b = some o := fun b o hb e => hsb₃.extBut b o hb (Heap.get?_push_of_some _ e)
  have kp : ∀ b o, h₁.get? b = some o → h₃.get? b = some o := fun b o e => old b o (by rw [sz3]; exact Nat.ne_of_lt (Nat.lt_of_lt_of_le (Heap.lt_size e) (Nat.le_add_right _ _))) (up3 b o (up2 b o e))
  have hne1 : h₁.objs.size ≠ H3.objs.size := by rw [sz3]; exact Nat.ne_of_lt (by omega)
  have hne2 : H2.objs.size ≠ H3.objs.size := by rw [sz3, sz2]; exact Nat.ne_of_lt (by omega)
  have hne3 : H2.objs.size ≠ h₁.objs.size := by rw [sz2]; exact Nat.succ_ne_self _
  have W := Walks.strAscii (prog := prog) (w := w) hh h₁.objs.size x t
  have hbI : ∀ b ∈ [h₁.objs.size], b = h₁.objs.size := fun b hb => by simpa using hb
  have hit3 : h₃.IsStrIter h₁.objs.size "str_ascii_iterator" x t 0 := W.frame _ _ _ hit2 fun b hb o e => old b o (by rw [hbI b hb]; exact hne1) (up3 b o e)
  have F3 : ∀ h', (∀ b o, h₁.get? b = some o → h'.get? b = some o) → Fr h₀ L h' m := fun h' k => F.keeps fun b o e => k b o (hk₁ b o e)
  have N3 : ∀ h', (∀ b o, h₁.get? b = some o → h'.get? b = some o) → News h₀ L h' news := fun h' k => N.grown fun b o e => k b o (hk₁ b o e)
  have e0 : x.cps.size = x.length := rfl
  have loop : ∀ s₃ : Shared, s₃ = { s with heap := h₃, toks := tk₁ + ([] : List (Str × Value)).length } →
      codeAny (model prog w) A (.compLoop (e2 elt (.Name z0 p0) i0 (.Name z1 p1) i1 scope pos) 0 (.ref h₁.objs.size) (.ref H2.objs.size) (compEnvC scope cl H3.objs.size env))
        (compPost (model prog w) A E none Q (.ref H2.objs.size) H3.objs.size) s₃ := by
    rintro s₃ rfl
    refine comp2_outer (cenv := compEnvC scope cl H3.objs.size env) (base := h₁) x t f kk hh (lookup_relabel_local hx0) (lookup_relabel_local hx1) (by simp [compEnvC, relabel, hkind]) hne2 hne3 (Ne.symm hne1)
      (n2 _ (by show h₁.objs.size ≤ H3.objs.size; omega)) (n2 _ (by omega)) (n2 _ (Nat.le_refl _)) (hs1 _) hkk (fun c u s₂ m₂ E' hc hn hm hk => hiter _ c u s₂ m₂ E' hc hn hm (F3 _ hk) (N3 _ hk)) (fun j u s₂ m₂ E' hj hn hm hk => helt _ j u s₂ m₂ E' hj hn hm (F3 _ hk) (N3 _ hk))
      x.cps.size 0 _ #[] [] _ (by omega) hit3 (pl3.at fun o e => old _ o hne2 e) (by simp; omega) .nil hns₃ kp ?_
    intro h' tk m' ys hn' hD' hys hk'
    refine ⟨m', hn', fun h'' hs'' => ?_⟩
    have kp'' : ∀ b o, h₁.get? b = some o → h''.get? b = some o := fun b o e => hs''.extBut b o (by
      show b ≠ H3.objs.size
      rw [sz3]; exact Nat.ne_of_lt (Nat.lt_of_lt_of_le (Heap.lt_size e) (Nat.le_add_right _ _))) (hk' b o e)
    obtain ⟨n, en⟩ := hD'
    refine h H2.objs.size n ys.toList h'' tk (F3 _ kp'') (fun q hq => ?_) (by simpa using hys)
    rcases List.mem_cons.mp hq with rfl | hq
    · refine ⟨by rw [Array.toArray_toList]; exact hs''.extBut _ _ hne2 en, ?_, ?_⟩
      · rintro rfl
        obtain ⟨o, _, _, ho, _⟩ := (F3 _ (fun _ _ e => e)).ns
        rw [n2 _ (by omega)] at ho; cases ho
      · cases e : h₀.get? H2.objs.size with
        | none => rfl
        | some o' => have := F.keep _ _ e; have := hk₁ _ _ this; rw [n2 _ (by omega)] at this; cases this
    · exact (N3 _ kp'') q hq
  exact codeAny_compStart_list (loop _ rfl) (W.self 0 _ _ _ hit3 (loop _ rfl))
end
end
section
section
variable {prog : Program} {w : World} {A : Around} {s : Shared} {g : Heap} {led : List (Addr × Obj)} {K : Frag} {p : Program} {loose : List Str} {mg mb : Str → Option Value}
  {R : Result → Shared → Prop} {name qual : Str} {params : Arguments} {body : List Stmt} {scope : Scope} {dV kV doc pm cdv ct oc : Value} {an od : Option Addr} {osl : Array (Option Value)} {f : Addr} {args : Args} {binds : List (Str × Value)}
/-- entry of a def with cell variables that changes the ledger alone -/
theorem mut_cell_enter (X : K.In g) (T : TopRead p loose mg mb g) (Ld : Led g s.heap led) (ho : K.lookup f = some ⟨oc, od, .func (fnX name qual params body scope [] dV kV doc pm an cdv ct), osl⟩) (hcd : codeIn K cdv qual = true) (hroom : A.depth < recursionLimit)
    (hbind : BindsTo s (fnX name qual params body scope [] dV kV doc pm an cdv ct) args binds)
    (hkind : ∀ n, ∀ x ∈ binds, scope.names.lookup x.1 = some .local ∨ (scope.names.lookup x.1 = some .cell ∧ ((cellsFrom n scope.names []).lookup x.1).isSome = true))
    (hnd : ((cellsFrom 0 scope.names []).map (·.1)).Nodup)
    (h : ∀ L' h₁ tk cells, Fr g L' h₁ (bindL (envOfC qual scope L' f cdv).kindOf binds fun _ => none) → News g L' h₁ (cells ++ led) →
      CellsAre (bindC (envOfC qual scope L' f cdv).kindOf binds fun _ => none) (cellsFrom (L' + 1) scope.names []) cells →
      wpAny (model prog w) (A.deeper (envOfC qual scope L' f cdv)) (execs body (envOfC qual scope L' f cdv))
        (fun fl s' => R (.ok (.ret (match fl with | .ret v => v | _ => .none))) s')
        (fun e s' => wpAny (model prog w) (A.deeper (envOfC qual scope L' f cdv)) (leaving (envOfC qual scope L' f cdv) e) (fun _ s'' => R (.error e) s'') (fun e' s'' => R (.error e') s'') s')
        { s with heap := h₁, toks := tk })
    (hco : scope.isCoroutine = false := by rfl) (hgen : scope.isGenerator = false := by rfl) (hk : scope.kind = .function := by rfl) : codeAny (model prog w) A (.call (.ref f) args) R s := by
  have X' := X.keeps Ld.keep
  refine codeAny_call_function hroom (X' _ _ ho) rfl hco hgen rfl (codeRec_of X' hcd) (hbind _ _ _ _ ?_)
  refine wpAny_newFunctionEnv_cells hk (hkind _) fun env' he s' x => ?_
  subst he
  refine ⟨T.nolimit.keeps fun b o e => x.toInCall.keep b o (Ld.keep b o e), codeAny_func ?_⟩
  obtain ⟨h₁, tk, rfl, _⟩ := x.done
  have hk₁ := x.toInCall.keep
  obtain ⟨cells, NC, Y⟩ := Cl.news (h₀ := s.heap) (Nat.le_refl _) fun n c hm => ⟨x.cell n c (lookup_of_mem_nodup (cellsFrom_names scope.names 0 (s.heap.objs.size + 1) [] [] rfl ▸ hnd) hm), x.above n c hm⟩
  refine wpAny_mono (h s.heap.objs.size h₁ tk cells ⟨x.toInCall.ns, fun b o e => hk₁ b o (Ld.keep b o e), Ld.size⟩ (fun q hq => ?_) Y) (fun fl s' hl => hl) fun _ _ y => y
  rcases List.mem_append.mp hq with hq | hq
  · refine ⟨(NC q hq).1, (NC q hq).2.1, ?_⟩
    cases e : g.get? q.1 with
    | none => rfl
    | some o => have := Ld.keep _ _ e; rw [(NC q hq).2.2] at this; cases this
  · exact ⟨hk₁ _ _ (Ld.at_ q hq).1, Nat.ne_of_lt (Heap.lt_size (Ld.at_ q hq).1), (Ld.at_ q hq).2⟩
end
end
section
section
variable {M : Model} {A : Around} {E : Value → Shared → Prop} {s : Shared} {K : Frag} {h₀ : Heap} {L C c : Addr} {m mg mb : Str → Option Value} {news : List (Addr × Obj)} {scope : Scope} {cl : List (Str × Addr)} {env : Env} {p : Program} {loose : List Str} {x : Str} {pos : Pos} {v : Value} {o : Obj} {Q : Value → Shared → Prop}
theorem nameC_cell (N : News h₀ L s.heap news) (hk : (compEnvC scope cl C env).scope.kind = .function) (hx : (compEnvC scope cl C env).kindOf x = some .cell) (hc : cl.lookup x = some c) (hm : (c, o) ∈ news) (hd : o.data = .cell (some v)) (h : Q v s)
    (hb : (x == ("__debug__" : Str)) = false := by decide) :
    wpAny M A (eval (.Name x pos) (compEnvC scope cl C env)) Q E s := wpAny_Name (wpAny_loadName_cell hk hx hc ⟨o, N.get hm, hd⟩ h) hb
theorem nameC_B (F : Fr h₀ L s.heap m) (X : K.In h₀) (T : TopRead p loose mg mb h₀) (hg : env.globals = mainGlobals) (hb : env.builtins = builtinsNs) (hk : (compEnvC scope cl C env).scope.kind = .function) (hx : (compEnvC scope cl C env).kindOf x = some .globalImplicit)
    (e : nsIn K mainGlobals x = some none) (hv : bootBuiltins x = some v) (hn : x ≠ "__name__") (h : Q v s) (hd : (x == ("__debug__" : Str)) = false := by decide) :
    wpAny M A (eval (.Name x pos) (compEnvC scope cl C env)) Q E s :=
  Name_function_global hk hx (loadGlobal_builtin (env := compEnvC scope cl C env) (show s.heap.Ns env.globals mg from hg ▸ (T.keeps F.keep).g) (mg_none_of X T.g e) (show s.heap.Ns env.builtins mb from hb ▸ (T.keeps F.keep).b) ((T.builtins x hn).trans hv) h) hd
theorem news_neCell {x y : Addr} {o o' : Obj} {v : Option Value} {h : Heap} (N : News h₀ L h news) (hx : (x, o) ∈ news) (hy : (y, o') ∈ news) (hd : o.data = .cell v) (hd' : ∀ v, o'.data ≠ .cell v) : @Ne Nat x y := by
  intro e
  have e' : x = y := e
  subst e'
  have := (N _ hx).1.symm.trans (N _ hy).1
  cases Option.some.inj this
  exact hd' _ hd
end
end
section
theorem ltr_cps (b : Bool) : (ltr b).cps.toList = [codeB b] := by cases b <;> decide
theorem join_ltr (us : List Bool) : Txt.join (Str.ofString "") (us.map ltr) = strOf us := by
  have e : Txt.join (Str.ofString "") (us.map ltr) = Str.join (Str.ofString "") (us.map ltr) := StrLaws.glued_eq_join _ _
  rw [e, empty_str]
  refine str_ext' ?_
  rw [join_nil, strOf_toList, List.flatMap_map]
  induction us with
  | nil => rfl
  | cons b us ih =>
    have e2 := StrLaws.glued_eq_join (Str.ofString "") (us.map ltr)
    rw [List.flatMap_cons, ltr_cps, ih e2]; rfl
noncomputable def kkD (d : Nat) (c : Nat) : Nat := if c = 102 then cntD d true else cntD d false
theorem kk_code (d : Nat) (b : Bool) : kkD d (codeB b) = cntD d b := by cases b <;> rfl
theorem grown_texts (d : Nat) (hd : d ≠ 0) (bs : List Bool) : ((strOf bs).cps.toList.flatMap fun c => (List.range (kkD d c)).map fun (j : Nat) => letterI (j : Int)) = (grownB d bs).map ltr := by
  unfold grownB
  rw [if_neg hd, strOf_toList, List.flatMap_map, List.map_flatMap]
  congr 1
  funext b
  rw [List.map_map, kk_code]
  apply List.map_congr_left
  intro j _
  exact letterI_B j
theorem cntD_le (d : Nat) (b : Bool) : cntD d b ≤ 21 := by
  unfold cntD
  split <;> decide
theorem grownB_len (d : Nat) (bs : List Bool) : (grownB d bs).length ≤ bs.length * 21 := by
  unfold grownB
  split
  · omega
  · induction bs with
    | nil => simp
    | cons b bs ih =>
      have := cntD_le d b
      simp only [List.flatMap_cons, List.length_append, List.length_map, List.length_range, List.length_cons, Nat.succ_mul]
      omega
theorem ltr_sum (us : List Bool) : ((us.map ltr).map (·.length)).sum = us.length := by
  induction us with
  | nil => rfl
  | cons b us ih => simp only [List.map_cons, List.sum_cons, ih, ltr_len, List.length_cons]; omega
end
section
theorem kw28 : True := by
  k_with "eval Name" => ((k_here; (with_reducible show wpAny _ _ (eval (Expr.Name _ _) (compEnvC _ _ _ _)) _ _ _); k_dflt (first | (refine' nameC_cell ?N ?a ?b ?c ?m ?d ?_; (case a => rfl); (case b => rfl); (case N => k_asm); (case c => rfl); (case m => k_mem); (case d => k_asm); k_whole) | (refine' nameC_B ?F ?X ?T ?g ?h ?a ?b ?e ?v ?n ?_; (case a => rfl); (case b => rfl); (case g => rfl); (case h => rfl); (case F => k_asm); (case X => k_asm); (case T => k_asm); (case e => k_is); (case v => boot_fast); (case n => decide); k_whole))))
  k_with "call type:range" => (((with_reducible show wpAny _ _ (call _ [_]) _ _ _); (refine call_range_1 ?_); (refine Halt.out ?_)))
  exact trivial
section
section
theorem grown302_0 (w : World) (p' : Program) (loose : List Str) (bs : List Bool) (tw ts : Tok) :
    PureH w p' loose 8 60 302 [.str (strOf bs) tw, .int 0 ts] (fun _ => True) (fun v => ∃ t, v = .str (strOf (grownB 0 bs)) t) := by
  intro dp un gd outer base mean mg mb s Q E hd hu B X T _ hret
  revert X; k_fill; intro X
  refine wpAny_call ?_
  refine' cell_enter X T ?k6 ?k7 ?k8 ?k9 ?kB ?kD ?_ ?c2 ?c3 ?c4
  (case k6 => k_is)
  (case k7 => k_is)
  (case k8 => (show dp < _; omega))
  (case k9 => first | exact BindsTo.of_eq rfl | exact binds_K X rfl (by k_is) rfl rfl rfl)
  (case kB => exact kindsX rfl)
  (case kD => decide +kernel)
  (case c2 => exact rfl)
  (case c3 => exact rfl)
  (case c4 => exact rfl)
  intro L' h' tk' cells' F' N' Y'
  k_cells Y'
  (try simp only [List.cons_append, List.nil_append] at N')
  try dsimp only
  k_steps
  dsimp only
  exact hret _ _ _ ⟨_, rfl⟩ (Fr.keep (by assumption))
theorem codes_mem (bs : List Bool) (c : Nat) (h : c ∈ (strOf bs).cps.toList) : c ∈ bs.map codeB := by
  simpa [strOf] using h
theorem grown302_1 (w : World) (p' : Program) (loose : List Str) (bs : List Bool) (hlen : bs.length ≤ 6) (tw ts : Tok) :
    PureH w p' loose 8 60 302 [.str (strOf bs) tw, .int 1 ts] (fun _ => True) (fun v => ∃ t, v = .str (strOf (grownB 1 bs)) t) := by
  intro dp un gd outer base mean mg mb s Q E hd hu B X T _ hret
  revert X; k_fill; intro X
  refine wpAny_call ?_
  refine' cell_enter X T ?k6 ?k7 ?k8 ?k9 ?kB ?kD ?_ ?c2 ?c3 ?c4
  (case k6 => k_is)
  (case k7 => k_is)
  (case k8 => (show dp < _; omega))
  (case k9 => first | exact BindsTo.of_eq rfl | exact binds_K X rfl (by k_is) rfl rfl rfl)
  (case kB => exact kindsX rfl)
  (case kD => decide +kernel)
  (case c2 => exact rfl)
  (case c3 => exact rfl)
  (case c4 => exact rfl)
  intro L' h' tk' cells' F' N' Y'
  k_cells Y'
  (try simp only [List.cons_append, List.nil_append] at N')
  try dsimp only
  k_steps
  rename News _ _ _ _ => hN
  rename Fr _ _ _ _ => hF
  refine comp2 (strOf bs) (fun j => letterI (j : Int)) (kkD 1) (by exact rfl) hF hN (strOf_ascii _) (by rw [strOf_len]; omega) (by with_unfolding_all rfl) (by decide) rfl (by decide) rfl rfl ?h0 ?hkk ?hiter ?helt ?h
  case h0 =>
    k_steps
    exact ⟨_, _, rfl, fun _ _ e => e⟩
  case hkk =>
    intro c _
    unfold kkD
    split <;> exact ⟨by decide, by decide +kernel, by decide +kernel⟩
  case hiter =>
    intro C c t s₂ m₂ E' hc hn hm F4 N4
    have cE' := InElt.start s₂.heap
    rcases List.mem_map.mp (codes_mem bs c hc) with ⟨b, -, rfl⟩
    cases b
    · k_steps
      refine ⟨?_⟩
      exact ⟨⟨_, _, _, _, rfl, IsRange.new _ _ _ _ _ _ _⟩, _, _, rfl, fun b o e => Heap.get?_push_of_some _ e⟩
    · k_steps
      refine ⟨?_⟩
      exact ⟨⟨_, _, _, _, rfl, IsRange.new _ _ _ _ _ _ _⟩, _, _, rfl, fun b o e => Heap.get?_push_of_some _ e⟩
  case helt =>
    intro C j t s₂ m₂ E' hj hn hm F4 N4
    k_steps
    refine pure_callK (letter_spec w p' loose (j : Int) _ (by omega) (by omega)) (by assumption) (by assumption) (by assumption) (by assumption) News.nil (by exact rfl) (by exact rfl) (by exact rfl) (by ((try dsimp only [Ar, Around.deeper, Around.in1]); omega)) (by ((try dsimp only [Ar, Around.deeper, Around.in1]); omega)) fun t3 h3 tk3 F5 N5 e5 => ?_
    exact ⟨⟨t3, rfl⟩, h3, tk3, rfl, e5⟩
  case h =>
    intro D n ys h2 tk2 F2 N2 hys
    k_steps
    rw [grown_texts 1 (by decide)] at hys
    have hcnt := grownB_len 1 bs
    refine join_list ⟨_, (N2 _ (.head _)).1, rfl, _, rfl⟩ hys (by have he0 : (Str.ofString "").length = 0 := by decide
                                                                  rw [he0, Nat.mul_zero, ltr_sum]; omega) fun t k => ?_
    rw [join_ltr]
    exact hret _ _ _ ⟨_, rfl⟩ (Fr.keep F2)
theorem grown302_2 (w : World) (p' : Program) (loose : List Str) (bs : List Bool) (hlen : bs.length ≤ 6) (tw ts : Tok) :
    PureH w p' loose 8 60 302 [.str (strOf bs) tw, .int 2 ts] (fun _ => True) (fun v => ∃ t, v = .str (strOf (grownB 2 bs)) t) := by
  intro dp un gd outer base mean mg mb s Q E hd hu B X T _ hret
  revert X; k_fill; intro X
  refine wpAny_call ?_
  refine' cell_enter X T ?k6 ?k7 ?k8 ?k9 ?kB ?kD ?_ ?c2 ?c3 ?c4
  (case k6 => k_is)
  (case k7 => k_is)
  (case k8 => (show dp < _; omega))
  (case k9 => first | exact BindsTo.of_eq rfl | exact binds_K X rfl (by k_is) rfl rfl rfl)
  (case kB => exact kindsX rfl)
  (case kD => decide +kernel)
  (case c2 => exact rfl)
  (case c3 => exact rfl)
  (case c4 => exact rfl)
  intro L' h' tk' cells' F' N' Y'
  k_cells Y'
  (try simp only [List.cons_append, List.nil_append] at N')
  try dsimp only
  k_steps
  rename News _ _ _ _ => hN
  rename Fr _ _ _ _ => hF
  refine comp2 (strOf bs) (fun j => letterI (j : Int)) (kkD 2) (by exact rfl) hF hN (strOf_ascii _) (by rw [strOf_len]; omega) (by with_unfolding_all rfl) (by decide) rfl (by decide) rfl rfl ?h0 ?hkk ?hiter ?helt ?h
  case h0 =>
    k_steps
    exact ⟨_, _, rfl, fun _ _ e => e⟩
  case hkk =>
    intro c _
    unfold kkD
    split <;> exact ⟨by decide, by decide +kernel, by decide +kernel⟩
  case hiter =>
    intro C c t s₂ m₂ E' hc hn hm F4 N4
    have cE' := InElt.start s₂.heap
    rcases List.mem_map.mp (codes_mem bs c hc) with ⟨b, -, rfl⟩
    cases b
    · k_steps
      refine ⟨?_⟩
      exact ⟨⟨_, _, _, _, rfl, IsRange.new _ _ _ _ _ _ _⟩, _, _, rfl, fun b o e => Heap.get?_push_of_some _ e⟩
    · k_steps
      refine ⟨?_⟩
      exact ⟨⟨_, _, _, _, rfl, IsRange.new _ _ _ _ _ _ _⟩, _, _, rfl, fun b o e => Heap.get?_push_of_some _ e⟩
  case helt =>
    intro C j t s₂ m₂ E' hj hn hm F4 N4
    k_steps
    refine pure_callK (letter_spec w p' loose (j : Int) _ (by omega) (by omega)) (by assumption) (by assumption) (by assumption) (by assumption) News.nil (by exact rfl) (by exact rfl) (by exact rfl) (by ((try dsimp only [Ar, Around.deeper, Around.in1]); omega)) (by ((try dsimp only [Ar, Around.deeper, Around.in1]); omega)) fun t3 h3 tk3 F5 N5 e5 => ?_
    exact ⟨⟨t3, rfl⟩, h3, tk3, rfl, e5⟩
  case h =>
    intro D n ys h2 tk2 F2 N2 hys
    k_steps
    rw [grown_texts 2 (by decide)] at hys
    have hcnt := grownB_len 2 bs
    refine join_list ⟨_, (N2 _ (.head _)).1, rfl, _, rfl⟩ hys (by have he0 : (Str.ofString "").length = 0 := by decide
                                                                  rw [he0, Nat.mul_zero, ltr_sum]; omega) fun t k => ?_
    rw [join_ltr]
    exact hret _ _ _ ⟨_, rfl⟩ (Fr.keep F2)
theorem grown302_3 (w : World) (p' : Program) (loose : List Str) (bs : List Bool) (hlen : bs.length ≤ 6) (tw ts : Tok) :
    PureH w p' loose 8 60 302 [.str (strOf bs) tw, .int 3 ts] (fun _ => True) (fun v => ∃ t, v = .str (strOf (grownB 3 bs)) t) := by
  intro dp un gd outer base mean mg mb s Q E hd hu B X T _ hret
  revert X; k_fill; intro X
  refine wpAny_call ?_
  refine' cell_enter X T ?k6 ?k7 ?k8 ?k9 ?kB ?kD ?_ ?c2 ?c3 ?c4
  (case k6 => k_is)
  (case k7 => k_is)
  (case k8 => (show dp < _; omega))
  (case k9 => first | exact BindsTo.of_eq rfl | exact binds_K X rfl (by k_is) rfl rfl rfl)
  (case kB => exact kindsX rfl)
  (case kD => decide +kernel)
  (case c2 => exact rfl)
  (case c3 => exact rfl)
  (case c4 => exact rfl)
  intro L' h' tk' cells' F' N' Y'
  k_cells Y'
  (try simp only [List.cons_append, List.nil_append] at N')
  try dsimp only
  k_steps
  rename News _ _ _ _ => hN
  rename Fr _ _ _ _ => hF
  refine comp2 (strOf bs) (fun j => letterI (j : Int)) (kkD 3) (by exact rfl) hF hN (strOf_ascii _) (by rw [strOf_len]; omega) (by with_unfolding_all rfl) (by decide) rfl (by decide) rfl rfl ?h0 ?hkk ?hiter ?helt ?h
  case h0 =>
    k_steps
    exact ⟨_, _, rfl, fun _ _ e => e⟩
  case hkk =>
    intro c _
    unfold kkD
    split <;> exact ⟨by decide, by decide +kernel, by decide +kernel⟩
  case hiter =>
    intro C c t s₂ m₂ E' hc hn hm F4 N4
    have cE' := InElt.start s₂.heap
    rcases List.mem_map.mp (codes_mem bs c hc) with ⟨b, -, rfl⟩
    cases b
    · k_steps
      refine ⟨?_⟩
      exact ⟨⟨_, _, _, _, rfl, IsRange.new _ _ _ _ _ _ _⟩, _, _, rfl, fun b o e => Heap.get?_push_of_some _ e⟩
    · k_steps
      refine ⟨?_⟩
      exact ⟨⟨_, _, _, _, rfl, IsRange.new _ _ _ _ _ _ _⟩, _, _, rfl, fun b o e => Heap.get?_push_of_some _ e⟩
  case helt =>
    intro C j t s₂ m₂ E' hj hn hm F4 N4
    k_steps
    refine pure_callK (letter_spec w p' loose (j : Int) _ (by omega) (by omega)) (by assumption) (by assumption) (by assumption) (by assumption) News.nil (by exact rfl) (by exact rfl) (by exact rfl) (by ((try dsimp only [Ar, Around.deeper, Around.in1]); omega)) (by ((try dsimp only [Ar, Around.deeper, Around.in1]); omega)) fun t3 h3 tk3 F5 N5 e5 => ?_
    exact ⟨⟨t3, rfl⟩, h3, tk3, rfl, e5⟩
  case h =>
    intro D n ys h2 tk2 F2 N2 hys
    k_steps
    rw [grown_texts 3 (by decide)] at hys
    have hcnt := grownB_len 3 bs
    refine join_list ⟨_, (N2 _ (.head _)).1, rfl, _, rfl⟩ hys (by have he0 : (Str.ofString "").length = 0 := by decide
                                                                  rw [he0, Nat.mul_zero, ltr_sum]; omega) fun t k => ?_
    rw [join_ltr]
    exact hret _ _ _ ⟨_, rfl⟩ (Fr.keep F2)
end
end
section
theorem kw29 : True := by
  k_with "call ref" => ((k_here; (try dsimp only [List.cons_append, List.nil_append]); (with_reducible show wpAny _ _ (call (Value.ref 94) _) _ _ _); (refine mut0_callN (fmt_new _ _ _ _ _ _ _ _ _ _ (by decide)) (by assumption) (by k_asm) (by k_asm) (by k_asm) (by k_asm) (by exact rfl) (by exact rfl) (by exact rfl) (by k_room) (by k_room) (by assumption) (by first | assumption | (dsimp only; assumption))  (fun _ _ => trivial) ?_; intro v' led' h' gs' tk' hP' F' N' hb' e' ne'; obtain ⟨fa', fd', a', d', ll', k1', k2', k3', k4', k5', k6', u1', u2', u3', u4', k', u', eA, lA⟩ := hP'; subst eA; subst lA; clear ne'; (try simp only [List.cons_append, List.nil_append] at N'))))
  k_with "call ref" => ((k_here; (try dsimp only [List.cons_append, List.nil_append]); (with_reducible show wpAny _ _ (call (Value.ref 91) _) _ _ _); (refine appC (by assumption) (by assumption) (by k_asm) (by k_asm) (by k_asm) (by k_asm) (by exact rfl) (by exact rfl) (by exact rfl) (by k_room) (by k_room) (by assumption) (by first | assumption | (dsimp only; assumption))  (by assumption) (by assumption) (by assumption) (by assumption) (by assumption) (by assumption) ?_; intro t' nl' its' n' u' ps1' ps2' cells' h' gs' tk' hp1' hp2' F' N' hc' hb')))
  k_with "call ref" => ((k_here; (try dsimp only [List.cons_append, List.nil_append]); (with_reducible show wpAny _ _ (call (Value.ref 42) _) _ _ _); (refine strC (by assumption) (by assumption) (by assumption) (by assumption) (by k_asm) (by k_asm) (by k_asm) (by k_asm) (by exact rfl) (by exact rfl) (by exact rfl) (by k_room) (by k_room) (by assumption) (by first | assumption | (dsimp only; assumption))  (by assumption) (by assumption) (by assumption) (by assumption) ?_; intro t' ps1' ps2' h' gs' tk' hp1' hp2' F' N' hb')))
  exact trivial
section
noncomputable def RdPost (outs : List Str) (v : Value) (led' : List (Addr × Obj)) : Prop :=
  ∃ (l : Addr) (vs : List Value) (nl : Nat) (ex : List (Addr × Obj)) (ps1' ps2' : Array Value), v = .ref l ∧ StrsAre vs outs ∧ led' = ex ++ [(l, listOf vs.toArray nl), (140, tabO ps1'), (147, tabO ps2')] ∧ TriplesOk ps1'.toList ∧ TriplesOk ps2'.toList
theorem rep_fi : Str.ofString "257 \"" ++ Txt.replace (Str.ofString "fi") (Str.ofString "f") (Str.ofString "\"") = Str.ofString "257 \"\"i" := by kernel_rfl
theorem rep_ffi : Str.ofString "257 \"" ++ Txt.replace (Str.ofString "ffi") (Str.ofString "f") (Str.ofString "\"") = Str.ofString "257 \"\"\"i" := by kernel_rfl
noncomputable def outF (x : Str) : Str := if x == Str.ofString "fi" then Str.ofString "" else Str.ofString "\"i"
theorem out_fi : Str.ofString "" = outF (Str.ofString "fi") := by kernel_rfl
theorem out_ffi : Str.ofString "\"i" = outF (Str.ofString "ffi") := by kernel_rfl
section
theorem kw30 : True := by
  k_with "exec For Name BinOp cons nil" => ((k_here; (with_unfolding_all refine' for_start ?_ ?hs; (case hs => (intro _; with_unfolding_all rfl)); k_whole)))
  exact trivial
theorem read307 (w : World) (p' : Program) (loose : List Str) (bs : List Bool) (w0 : Nat) (hw0 : w0 ≤ 3) (hlen : bs.length ≤ 50) (hok : okRun w0 (bs ++ [true, false]) [] = true) (tx tw : Tok) (ps1 ps2 : Array Value) (hps1 : TriplesOk ps1.toList) (hps2 : TriplesOk ps2.toList) :
    Mut w p' loose 30 200 307 [.str (strOf bs) tx, .int (w0 : Int) tw] (fun _ => True) [(140, tabO ps1), (147, tabO ps2)] (RdPost (((runL w0 (bs ++ [true, false]) [] []).map lineS).map outF)) := by
  intro dp un gd outer base g mean mg mb s Q E hd hu B X T Ld _ BM hgs hret
  revert X; k_fill; intro X
  refine wpAny_call ?_
  refine' mut_enter X T Ld ?k6 ?k7 ?k8 ?k9 ?kB ?_ ?c2 ?c3 ?c4 ?c5
  (case k6 => k_is)
  (case k7 => k_is)
  (case k8 => (show dp < _; omega))
  (case k9 => first | exact BindsTo.of_eq rfl | exact binds_K (X.keeps Ld.keep) rfl (by k_is) rfl rfl rfl)
  (case kB => exact locs rfl)
  (case c2 => exact rfl)
  (case c3 => exact rfl)
  (case c4 => exact rfl)
  (case c5 => decide)
  intro L' h' F' N'
  try dsimp only
  (repeat' (first | (k_unfold; (try ((first | (with_reducible show PySem.W.StrBack _ _ _) | (with_reducible show PySem.W.LenBack _ _ _) | (with_reducible show PySem.W.BoolBack _ _ _)); dsimp only [PySem.W.StrBack, PySem.W.LenBack, PySem.W.BoolBack]))) | (k_end; wrow_close) | (walk1 <;> ((try dsimp only [List.cons_append, List.nil_append]); (try k_fold))) | (dsimp only; walk1 <;> (try k_fold)) | (leave1; walk_say "STEP leave1"; (try dsimp only); (try k_fold)) | fail "no step"))
  refine PyProof.Rows.add_str (fun t' tk => ?_) (by have h1 := strOf_len bs; have h2 : (Str.ofString "fi").length = 2 := by decide
                                                    rw [sizeLine_eq]; omega)
  rw [strOf_fi]
  rename News _ _ _ _ => hN
  rename Fr _ _ _ _ => hF
  refine iter_asciiK (strOf_ascii _) hF hN fun I h1 F1 N1 _ => ?_
  have F2 := Fr.sign F1 (Str.ofString "sign") rfl
  clear F1 hF hN
  refine readC_loop (s₀ := s) (bs ++ [true, false]) hok (by simp only [List.length_append, List.length_cons, List.length_nil]; omega) F2 N1 (by first | assumption | (dsimp only; assumption)) hps1 hps2 ?hs ?he
  case hs =>
    clear N1 F2 hret
    intro c cs s' hst ih
    obtain ⟨h, gs, tk, ov, o, i, rows, ls, its, row, n, nl, u, ps1', ps2', cells, rfl, hgs', F1, N1, ho, hod, hcps, hcl, hrun, hsa, hall, hln, t1, t2, hout⟩ := hst.ex
    obtain ⟨hr, hr3⟩ := Bool.and_eq_true_iff.mp hrun
    obtain ⟨hr1, hr2⟩ := Bool.and_eq_true_iff.mp hr
    have hrl : rows.length ≤ 100 := by have := strsAre_len hsa; rw [this, List.length_map]; omega
    refine for_turn (by first | passes_own | with_unfolding_all passes_own) (fun _ => rfl) ?_
    refine next_asciiK F1 N1 (UpdF.head (offC_it N1 ho hcl)) ho hod (c := codeB c) (by have := hcps 0; simpa using this) (ltr_code c) fun h' tk' o' ho' hod' F3 N3 => ?_
    dsimp only [ForNext]
    (repeat' (first | (k_unfold; (try ((first | (with_reducible show PySem.W.StrBack _ _ _) | (with_reducible show PySem.W.LenBack _ _ _) | (with_reducible show PySem.W.BoolBack _ _ _)); dsimp only [PySem.W.StrBack, PySem.W.LenBack, PySem.W.BoolBack]))) | (k_end; wrow_close) | (walk1 <;> ((try dsimp only [List.cons_append, List.nil_append]); (try k_fold))) | (dsimp only; walk1 <;> (try k_fold)) | (leave1; walk_say "STEP leave1"; (try dsimp only); (try k_fold)) | fail "no step"))
    dsimp only [ForPost]
    refine ih _ ⟨_, _, _, some _, o', i + 1, _, addL ls (stepR w0 row c).1, _, (stepR w0 row c).2, _, _, _, _, _, _, rfl, ?_, Fr.sign2 (by assumption), (by assumption), ho', hod', ?_, (by assumption), hr3, outR_strs hsa _ _, addL_all hall hr2, ?_, (by assumption), (by assumption), hout⟩
    · first | assumption | (dsimp only; assumption)
    · intro j
      have := hcps (j + 1)
      rw [show i + (j + 1) = i + 1 + j by omega] at this
      simpa using this
    · have := addL_len ls (stepR w0 row c).1
      simp only [List.length_cons] at hln
      omega
  case he =>
    clear N1 F2
    intro s' hst
    obtain ⟨h, gs, tk, ov, o, i, rows, ls, its, row, n, nl, u, ps1', ps2', cells, rfl, hgs', F1, N1, ho, hod, hcps, hcl, hrun, hsa, hall, hln, t1, t2, hout⟩ := hst.ex
    have hrow := endRow_or hrun
    have hrl : rows.length ≤ 100 := by have := strsAre_len hsa; rw [this, List.length_map]; omega
    have hls3 : ∀ x ∈ ls.map lineS, x.length ≤ 3 := by
      intro x hx
      obtain ⟨l, hl, rfl⟩ := List.mem_map.mp hx
      exact lineS_len (endRow_or (List.all_eq_true.mp hall l hl))
    refine for_turn (by first | passes_own | with_unfolding_all passes_own) (fun _ => rfl) ?_
    refine next_asciiE rfl F1 N1 (.head _) ho hod (by have := hcps 0; simpa using this) (Drop.head (offC_it N1 ho hcl)) fun h' F2 N2 => ?_
    dsimp only [ForNext]
    clear F1 N1 hst
    (repeat' (first | (k_unfold; (try ((first | (with_reducible show PySem.W.StrBack _ _ _) | (with_reducible show PySem.W.LenBack _ _ _) | (with_reducible show PySem.W.BoolBack _ _ _)); dsimp only [PySem.W.StrBack, PySem.W.LenBack, PySem.W.BoolBack]))) | (k_end; wrow_close) | (walk1 <;> ((try dsimp only [List.cons_append, List.nil_append]); (try k_fold))) | (dsimp only; walk1 <;> (try k_fold)) | (leave1; walk_say "STEP leave1"; (try dsimp only); (try k_fold)) | fail "no step"))
    rename News _ _ _ _ => hN
    rename Fr _ _ _ _ => hF
    have hln3 := sum_len_le (xs := ls.map lineS ++ [lineS row]) (fun x hx => by
      rcases List.mem_append.mp hx with hx | hx
      · exact hls3 x hx
      · rw [List.mem_singleton.mp hx]; exact lineS_len hrow)
    have hjl := StrLaws.join_length_le (Str.ofString "\n") (ls.map lineS ++ [lineS row])
    have hjl' : (Txt.join (Str.ofString "\n") (ls.map lineS ++ [lineS row])).length ≤ 300 := by
      have e : Txt.join (Str.ofString "\n") (ls.map lineS ++ [lineS row]) = Str.join (Str.ofString "\n") (ls.map lineS ++ [lineS row]) := StrLaws.glued_eq_join _ _
      have h1 : (Str.ofString "\n").length = 1 := by decide
      rw [e]
      rw [h1] at hjl
      simp only [List.length_append, List.length_map, List.length_cons, List.length_nil] at hjl hln3 hln
      omega
    refine splitN1 hF hN (by decide) (fun l h2 k hl F3 N3 => ?_) (by rw [sizeLine_eq]; omega)
    have hl2 : l.map (·.1) = (ls ++ [row]).map lineS := by
      rw [hl, ← split_lines (ls := ls ++ [row]) (by rw [List.all_append, hall]; have hrun' : endRow row = true := hrun; simp [hrun']) (by simp)]
      simp
    clear hF hN hl
    refine iter_listC outF (by exact rfl) ⟨_, (N3 _ (.head _)).1, rfl, _, rfl⟩ (strsAre_values l) F3 N3 ?_ ?_ ?_
    · rw [hl2]; simp only [List.length_map, List.length_append, List.length_cons, List.length_nil] at hln ⊢; omega
    · intro C y t s₂ m₂ E' hy hn hm F4
      have hy' : y = Str.ofString "fi" ∨ y = Str.ofString "ffi" := by
        rw [hl2] at hy
        obtain ⟨b, hb, rfl⟩ := List.mem_map.mp hy
        have : endRow b = true := by
          rcases List.mem_append.mp hb with hb | hb
          · exact List.all_eq_true.mp hall b hb
          · rw [List.mem_singleton.mp hb]; exact hrun
        rcases endRow_or this with rfl | rfl
        · exact .inl line_fi.symm
        · exact .inr line_ffi.symm
      rcases hy' with rfl | rfl
      · (repeat' (first | (k_unfold; (try ((first | (with_reducible show PySem.W.StrBack _ _ _) | (with_reducible show PySem.W.LenBack _ _ _) | (with_reducible show PySem.W.BoolBack _ _ _)); dsimp only [PySem.W.StrBack, PySem.W.LenBack, PySem.W.BoolBack]))) | (k_end; wrow_close) | (walk1 <;> ((try dsimp only [List.cons_append, List.nil_append]); (try k_fold))) | (dsimp only; walk1 <;> (try k_fold)) | (leave1; walk_say "STEP leave1"; (try dsimp only); (try k_fold)) | fail "no step"))
        refine SC.replaceW (Nat.succ_ne_zero _) (Nat.succ_ne_zero _) (Nat.ne_of_lt (Nat.lt_succ_self _)) (by decide) (by decide) (by decide) fun t' k' => ?_
        (repeat' (first | (k_unfold; (try ((first | (with_reducible show PySem.W.StrBack _ _ _) | (with_reducible show PySem.W.LenBack _ _ _) | (with_reducible show PySem.W.BoolBack _ _ _)); dsimp only [PySem.W.StrBack, PySem.W.LenBack, PySem.W.BoolBack]))) | (k_end; wrow_close) | (walk1 <;> ((try dsimp only [List.cons_append, List.nil_append]); (try k_fold))) | (dsimp only; walk1 <;> (try k_fold)) | (leave1; walk_say "STEP leave1"; (try dsimp only); (try k_fold)) | fail "no step"))
        rw [rep_fi]
        refine pure_callK (parse_spec0 w p' loose _) (by assumption) (by assumption) (by assumption) (by assumption) News.nil (by exact rfl) (by exact rfl) (by exact rfl) (by ((try dsimp only [Ar, Around.deeper, Around.in1]); omega)) (by ((try dsimp only [Ar, Around.deeper, Around.in1]); omega)) fun t3 h3 tk3 F5 N5 e5 => ?_
        exact ⟨⟨t3, congrArg (fun z => Value.str z t3) out_fi⟩, h3, tk3, rfl, e5⟩
      · (repeat' (first | (k_unfold; (try ((first | (with_reducible show PySem.W.StrBack _ _ _) | (with_reducible show PySem.W.LenBack _ _ _) | (with_reducible show PySem.W.BoolBack _ _ _)); dsimp only [PySem.W.StrBack, PySem.W.LenBack, PySem.W.BoolBack]))) | (k_end; wrow_close) | (walk1 <;> ((try dsimp only [List.cons_append, List.nil_append]); (try k_fold))) | (dsimp only; walk1 <;> (try k_fold)) | (leave1; walk_say "STEP leave1"; (try dsimp only); (try k_fold)) | fail "no step"))
        refine SC.replaceW (Nat.succ_ne_zero _) (Nat.succ_ne_zero _) (Nat.ne_of_lt (Nat.lt_succ_self _)) (by decide) (by decide) (by decide) fun t' k' => ?_
        (repeat' (first | (k_unfold; (try ((first | (with_reducible show PySem.W.StrBack _ _ _) | (with_reducible show PySem.W.LenBack _ _ _) | (with_reducible show PySem.W.BoolBack _ _ _)); dsimp only [PySem.W.StrBack, PySem.W.LenBack, PySem.W.BoolBack]))) | (k_end; wrow_close) | (walk1 <;> ((try dsimp only [List.cons_append, List.nil_append]); (try k_fold))) | (dsimp only; walk1 <;> (try k_fold)) | (leave1; walk_say "STEP leave1"; (try dsimp only); (try k_fold)) | fail "no step"))
        rw [rep_ffi]
        refine pure_callK (parse_spec1 w p' loose _) (by assumption) (by assumption) (by assumption) (by assumption) News.nil (by exact rfl) (by exact rfl) (by exact rfl) (by ((try dsimp only [Ar, Around.deeper, Around.in1]); omega)) (by ((try dsimp only [Ar, Around.deeper, Around.in1]); omega)) fun t3 h3 tk3 F5 N5 e5 => ?_
        exact ⟨⟨t3, congrArg (fun z => Value.str z t3) out_ffi⟩, h3, tk3, rfl, e5⟩
    · intro D nD ys h5 tk5 F5 N5 hys
      have hys' : StrsAre ys (((runL w0 (bs ++ [true, false]) [] []).map lineS).map outF) := by
        rw [hl2] at hys
        rw [← hout]
        exact hys
      refine hret _ [(D, listOf ys.toArray nD), (140, tabO _), (147, tabO _)] _ _ _ ⟨D, ys, nD, [], _, _, rfl, hys', rfl, ?_, ?_⟩ (Led.of_frame F5 (newsSub N5 (List.forall_mem_cons.mpr ⟨by k_mem, List.forall_mem_cons.mpr ⟨by k_mem, List.forall_mem_cons.mpr ⟨by k_mem, List.forall_mem_nil _⟩⟩⟩))) (by first | assumption | (dsimp only; assumption))
      · assumption
      · assumption
end
end
theorem kw31 : True := by
  k_with_none
  k_with "getMethod ref" => ((k_here; k_dflt (refine' method_bi ?k1 ?k2 ?k3 ?k4 ?k5 ?k6 ?k7 ?_; (case k1 => k_in); (case k2 => k_inst); (case k3 => k_is); (case k4 => k_is); (case k5 => k_is); (case k6 => exact T_append); (case k7 => first | assumption | rfl); k_whole)))
  k_with "getMethod ref" => ((k_here; k_dflt (refine' method_fnL ?k1 ?k2 ?k3 ?k4 ?k5 ?k6 ?k7 ?_; (case k1 => k_in); (case k2 => k_inst); (case k3 => k_is); (case k4 => k_is); (case k5 => k_is); (case k6 => k_is); (case k7 => first | assumption | rfl); k_whole)))
  k_with "getMethod ref" => ((k_here; k_dflt (refine' super_methK ?k1 ?k2 ?k3 ?k4 ?k5 ?k6 ?k7 ?k8 ?k9 ?kA ?kB ?kC ?_; (case k1 => k_asm); (case k2 => k_asm); (case k3 => k_asm); (case k4 => k_mem); (case k5 => k_inst); (case k6 => k_is); (case k7 => ks_is); (case k8 => k_is); (case kB => first | exact binds_pop | exact binds_len | exact binds_init); (case k9 => kernel_rfl); (case kA => first | exact slot_md_get.lookup | exact slot_wd_get.lookup); (case kC => decide); intro q' h' F' N' l1; (try k_lt l1))))
  k_with "callWith ref" => ((k_here; k_dflt (refine' callWith_B0 ?k1 ?k2 ?k3 ?_; (case k1 => exact (News.get (by k_asm) (by k_mem))); (case k2 => rfl); (case k3 => rfl); k_whole)))
  k_with "call ref" => ((k_here; k_dflt (refine' len_B ?k1 ?k2 ?k3 ?_; (case k1 => exact (News.get (by k_asm) (by k_mem))); (case k2 => first | exact (News.get (by k_asm) (by k_mem)) | exact Fr.keep (by k_asm) _ _ (by assumption)); (case k3 => omega); k_whole); intro _))
  k_with "call ref" => ((k_here; k_dflt (refine' pop_B ?k1 ?k2 ?k3 ?k4 ?k5 ?k6 ?k7 ?k8 ?k9 ?kA ?kB ?_; (case k1 => k_asm); (case k2 => k_asm); (case k3 => k_in); (case k4 => k_inst); (case k5 => exact (News.get (by k_asm) (by k_mem))); (case k6 => k_is); (case k7 => decide +kernel); (case k8 => k_is); (case k9 => k_is); (case kA => omega); (case kB => k_upd); k_whole); intro h' F' N'))
  k_with "call builtin:list.append" => ((k_here; k_dflt (refine' append_sub ?k1 ?k2 ?k3 ?k4 ?k5 ?k6 ?k7 ?_; (case k1 => k_asm); (case k2 => k_asm); (case k3 => k_asm); (case k4 => k_inst); (case k5 => k_is); (case k6 => k_upd); (case k7 => omega); k_whole; intro h' F' N')))
  k_with "wpAt" => ((dsimp only; walk_at "wpAt"))
  k_with "wpAt" => ((ks_step "eval Call"; (with_unfolding_all refine ks_wpAt_MethodCall (pl := (do return (← importBound _ _).getD true)) ?_)))
  k_with "setItem ref ref" => ((k_here; k_dflt (refine' setSlice_sub ?k1 ?k2 ?k3 ?k4 ?k5 ?k6 ?k7 ?k8 ?k9 ?kA ?kB ?kC ?kD ?kE ?_; (case k1 => k_asm); (case k2 => k_asm); (case k3 => k_asm); (case k4 => k_inst); (case k5 => k_is); (case k6 => k_is); (case k7 => k_is); (case kA => first | exact News.get (by k_asm) (by k_mem) | exact Fr.keep (by k_asm) _ _ (by assumption)); (case k8 => first | omega | k_ne); (case k9 => first | exact PySem.IsPart.none | exact PySem.IsPart.int _ _); (case kB => first | exact cut_all _ _ | exact cut_from _ _ (by omega)); (case kC => k_upd); (case kD => first | omega | (simp; done) | (simp; omega)); (case kE => first | omega | (simp; done) | (simp; omega)); k_whole); intro h' F' N'))
  k_with "setAttr ref" => ((k_here; k_dflt (refine' set_dictL ?k1 ?k2 ?k3 ?k4 ?k5 ?k6 ?k7 ?k8 ?k9 ?kA ?kB ?kC ?kD ?kE ?_; (case k1 => k_asm); (case k2 => k_asm); (case k3 => k_asm); (case k4 => k_inst); (case k5 => exact rfl); (case k6 => k_is); (case k7 => k_is); (case k8 => rfl); (case k9 => k_is); (case kA => rfl); (case kB => first | k_get | exact rfl); (case kC => first | k_put | exact rfl); (case kD => k_upd); (case kE => exact Nat.le_of_ble_eq_true rfl); k_whole; intro h' F' N')))
  k_with "subscriptTail Name Slice ref ref" => ((k_here; (with_reducible show wpAny _ _ (subscriptTail _ (PySem.Expr.Slice _ _ none _) (Value.ref _) (Value.ref _)) _ _ _); k_dflt (refine' slice_sub ?k1 ?k2 ?k3 ?k4 ?k5 ?k6 ?k7 ?k8 ?k9 ?kA ?_ ?kB ?kC; (case k1 => k_asm); (case k2 => k_asm); (case k3 => k_asm); (case k4 => k_inst); (case k5 => k_is); (case k6 => k_is); (case k7 => k_is); (case k8 => first | exact PySem.IsPart.none | exact PySem.IsPart.int _ _); (case k9 => first | exact PySem.IsPart.none | exact PySem.IsPart.int _ _); (case kA => exact pick_from _ _ (by omega)); (case kB => with_unfolding_all rfl); (case kC => omega); k_whole); intro D' h' F' N' l1; (try k_lt l1)))
  k_with "wpAt" => ((ks_step "attributeBase Call"; k_here; k_dflt (refine node_sup (by k_asm) (by k_asm) (by k_asm) (by k_asm) (by k_is) (by rfl) (by rfl) (by k_inst) (by k_is) (by rfl) (by first | rfl | decide +kernel) (by k_is) (by k_is) (by k_is) (by k_is) (by decide) (by rfl) (by rfl) (by rfl) (by rfl) (by decide +kernel) (by first | boot_by_name | rfl | kernel_rfl) ?_; intro so' h' F' N' l1; (try k_lt l1))))
  k_with "call ref" => ((k_here; (with_reducible show wpAny _ _ (call (Value.ref 175) _) _ _ _); (refine' pureH_callK (pc_spec _ _ _ _ _ _ _ _ _ _ ?hz ?hkk) ?kB ?kF ?kX ?kT ?kN ?kA ?kf ?kk ?kd ?ku ?kp ?_; (case kA => exact rfl); (case kf => exact rfl); (case kk => exact rfl); (case kp => exact ⟨(by first | exact News.get (by k_asm) (by k_mem) | exact Fr.keep (by k_asm) _ _ (by assumption)), (by first | exact News.get (by k_asm) (by k_mem) | exact Fr.keep (by k_asm) _ _ (by assumption))⟩); (case hkk => first | (simp only [List.length_append, List.length_cons, List.length_nil, Nat.zero_add, Nat.reduceAdd]; rfl) | rfl); (case hz => first | omega | (simp; omega) | simp); (case kB => assumption); (case kF => k_asm); (case kX => k_asm); (case kT => k_asm); (case kN => k_asm); (case kd => ((try dsimp only [Ar, Around.deeper, Around.in1]); omega)); (case ku => ((try dsimp only [Ar, Around.deeper, Around.in1]); omega)); intro v' h' tk' hv' F' N' e'; obtain ⟨_, e9⟩ := hv'; subst e9)))
  k_with "eval Name" => ((k_here; (with_reducible show wpAny _ _ (eval (Expr.Name _ _) (compEnvC _ _ _ _)) _ _ _); k_dflt (first | (refine' nameC_cell ?N ?a ?b ?c ?m ?d ?_; (case a => rfl); (case b => rfl); (case N => k_asm); (case c => rfl); (case m => k_mem); (case d => k_asm); k_whole) | (refine' nameC_B ?F ?X ?T ?g ?h ?a ?b ?e ?v ?n ?_; (case a => rfl); (case b => rfl); (case g => rfl); (case h => rfl); (case F => k_asm); (case X => k_asm); (case T => k_asm); (case e => k_is); (case v => boot_fast); (case n => decide); k_whole))))
  k_with "call type:range" => (((with_reducible show wpAny _ _ (call _ [_]) _ _ _); (refine call_range_1 ?_); (refine Halt.out ?_)))
  k_with "call ref" => ((k_here; (try dsimp only [List.cons_append, List.nil_append]); (with_reducible show wpAny _ _ (call (Value.ref 94) _) _ _ _); (refine mut0_callN (fmt_new _ _ _ _ _ _ _ _ _ _ (by decide)) (by assumption) (by k_asm) (by k_asm) (by k_asm) (by k_asm) (by exact rfl) (by exact rfl) (by exact rfl) (by k_room) (by k_room) (by assumption) (by first | assumption | (dsimp only; assumption))  (fun _ _ => trivial) ?_; intro v' led' h' gs' tk' hP' F' N' hb' e' ne'; obtain ⟨fa', fd', a', d', ll', k1', k2', k3', k4', k5', k6', u1', u2', u3', u4', k', u', eA, lA⟩ := hP'; subst eA; subst lA; clear ne'; (try simp only [List.cons_append, List.nil_append] at N'))))
  k_with "call ref" => ((k_here; (try dsimp only [List.cons_append, List.nil_append]); (with_reducible show wpAny _ _ (call (Value.ref 91) _) _ _ _); (refine appC (by assumption) (by assumption) (by k_asm) (by k_asm) (by k_asm) (by k_asm) (by exact rfl) (by exact rfl) (by exact rfl) (by k_room) (by k_room) (by assumption) (by first | assumption | (dsimp only; assumption))  (by assumption) (by assumption) (by assumption) (by assumption) (by assumption) (by assumption) ?_; intro t' nl' its' n' u' ps1' ps2' cells' h' gs' tk' hp1' hp2' F' N' hc' hb')))
  k_with "call ref" => ((k_here; (try dsimp only [List.cons_append, List.nil_append]); (with_reducible show wpAny _ _ (call (Value.ref 42) _) _ _ _); (refine strC (by assumption) (by assumption) (by assumption) (by assumption) (by k_asm) (by k_asm) (by k_asm) (by k_asm) (by exact rfl) (by exact rfl) (by exact rfl) (by k_room) (by k_room) (by assumption) (by first | assumption | (dsimp only; assumption))  (by assumption) (by assumption) (by assumption) (by assumption) ?_; intro t' ps1' ps2' h' gs' tk' hp1' hp2' F' N' hb')))
  exact trivial
section
theorem ints_paired {f : Int → Int} : ∀ {vs ys : List Value} {xs : List Int}, IntsAre vs xs → Paired (fun v y => ∃ x t u, v = Value.int x t ∧ y = Value.int (f x) u) vs ys → IntsAre ys (xs.map f)
  | _, _, _, .nil, h => by cases h; exact .nil
  | _, _, _, .cons x t r, h => by
    cases h with
    | cons h1 h2 =>
      obtain ⟨x', t', u, e1, rfl⟩ := h1
      cases e1
      exact .cons _ _ (ints_paired r h2)
theorem ints_strs {f : Int → Str} : ∀ {vs ys : List Value} {xs : List Int}, IntsAre vs xs → Paired (fun v y => ∃ x t u, v = Value.int x t ∧ y = Value.str (f x) u) vs ys → StrsAre ys (xs.map f)
  | _, _, _, .nil, h => by cases h; exact .nil
  | _, _, _, .cons x t r, h => by
    cases h with
    | cons h1 h2 =>
      obtain ⟨x', t', u, e1, rfl⟩ := h1
      cases e1
      exact .cons _ _ (ints_strs r h2)
theorem intsAre_get {vs : List Value} {xs : List Int} (h : IntsAre vs xs) : ∀ (i : Nat) (v : Value), vs[i]? = some v → ∃ x t, x ∈ xs ∧ v = Value.int x t := by
  induction h with
  | nil => intro i v e; simp at e
  | cons x t _ ih =>
    intro i v e
    cases i with
    | zero => simp at e; exact ⟨x, t, .head _, e.symm⟩
    | succ i => obtain ⟨x', t', h1, h2⟩ := ih i v (by simpa using e); exact ⟨x', t', .tail _ h1, h2⟩
section
variable {prog : Program} {w : World} {A : Around} {E : Value → Shared → Prop} {s₁ : Shared} {h₀ : Heap} {L : Addr} {m : Str → Option Value} {news : List (Addr × Obj)}
theorem iter_intsA {env : Env} {elt : PySem.Expr} {x y : Str} {scope : Scope} {Q : Flow → Shared → Prop} {l : Addr} {vs : List Value} {xs : List Int} (f : Int → Int)
    (hh : A.handled = none) (hL : env.locals = L) (hl : s₁.heap.IsList l vs.toArray) (hlL : l ≠ L) (hi : IntsAre vs xs) (F : Fr h₀ L s₁.heap m) (N : News h₀ L s₁.heap news) (hsz : xs.length ≤ 1000)
    (helt : ∀ C z t (s₂ : Shared) m₂ E', z ∈ xs → s₂.heap.Ns (compEnv scope C env).locals m₂ → m₂ x = some (.int z t) → Fr h₀ L s₂.heap m → wpAny (model prog w) A (eval elt (compEnv scope C env)) (fun r s₃ => (∃ u, r = .int (f z) u) ∧ Keeps s₂ s₃) E' s₂)
    (h : ∀ D n (ys : List Value) h' tk, Fr h₀ L h' (fun z => if z = y then some (.ref D) else m z) → News h₀ L h' ((D, listOf ys.toArray n) :: news) → IntsAre ys (xs.map f) → (∀ q ∈ news, @Ne Nat D q.1) → Q .next { s₁ with heap := h', toks := tk }) :
    wpAny (model prog w) A (pyIter (.ref l)) (CompPostA prog w A env scope x y [] elt Q) E s₁ := by
  have hlt : l < s₁.heap.objs.size := by obtain ⟨_, e, _⟩ := hl; exact Heap.lt_size e
  refine wpAny_pyIter_list hl ?_
  have up : ∀ (h' : Heap), (∀ b o', b ∉ [s₁.heap.objs.size] → (s₁.heap.push { cls := .type "list_iterator", data := .fields #[.ref l, .int 0 0] }).get? b = some o' → h'.get? b = some o') → ∀ b o', s₁.heap.get? b = some o' → h'.get? b = some o' :=
    fun h' hk b o' e => hk b o' (not_iter_of_old e) (Heap.get?_push_of_some _ e)
  refine ⟨fun _ => true, fun v y => ∃ x t u, v = Value.int x t ∧ y = Value.int (f x) u, s₁.heap.objs.size, [s₁.heap.objs.size, l], [s₁.heap.objs.size], vs.toArray.size, _, _, m, rfl, Walks.list hh _ l (Nat.ne_of_lt hlt) vs.toArray, (by rw [List.size_toArray, hi.length, sizeLine_eq]; omega),
    ⟨⟨_, Heap.get?_push_size _ rfl, rfl, rfl⟩, hl.at fun o e => Heap.get?_push_of_some _ e⟩, ?_, ?_, ?_, ⟨?_, ?_⟩, ?_⟩
  · intro b hb
    show b < (s₁.heap.push _).objs.size
    rw [Heap.size_push]
    rcases List.mem_cons.mp hb with rfl | hb
    · exact Nat.lt_succ_self _
    · rw [List.mem_singleton.mp hb]; exact Nat.lt_succ_of_lt hlt
  · rw [hL]
    intro hb
    rw [List.mem_singleton] at hb
    have := F.ns.lt
    rw [hb] at this
    exact Nat.lt_irrefl _ this
  · rw [hL]
    exact F.ns.at' fun o e => Heap.get?_push_of_some _ e
  · intro C i v s₃ m₃ E' hP hn hm _ htk
    exact wpAny_pure ⟨rfl, s₃.heap, s₃.toks, rfl, fun _ _ e => e⟩
  · intro C i v s₃ m₃ E' hP hp hn hm hk htk
    obtain ⟨z, t, hz, rfl⟩ := intsAre_get hi i v (by simpa using hP)
    refine wpAny_mono (helt C z t s₃ m₃ E' hz hn hm (F.keeps (up _ hk))) (fun r s₄ h₄ => ?_) fun _ _ e => e
    obtain ⟨⟨u, rfl⟩, hk⟩ := h₄
    exact ⟨⟨z, t, u, rfl, rfl⟩, hk⟩
  · intro D h' tk ys vs' hnew hlD hplD hlen hP hF hns hk
    have e' : vs' = vs := by simpa using walked_is hlen hP
    subst e'
    rw [List.filter_eq_self.mpr (fun _ _ => rfl)] at hF
    obtain ⟨n, en⟩ := hplD
    have hD0 : s₁.heap.get? D = none := by
      cases e : s₁.heap.get? D with
      | none => rfl
      | some o' => rw [Heap.get?_push_of_some _ e] at hnew; cases hnew
    have up' : ∀ b o', b ≠ L → s₁.heap.get? b = some o' → h'.get? b = some o' := fun b o' hb e => hk b o' (by rw [hL]; exact hb) (by rw [List.mem_singleton]; rintro rfl; exact absurd (Heap.lt_size e) (Nat.lt_irrefl _)) (Heap.get?_push_of_some _ e)
    have hL0 : h₀.get? L = none := by
      cases e : h₀.get? L with
      | none => rfl
      | some o' => exact absurd (Heap.lt_size e) (Nat.not_lt.mpr F.above)
    refine h D n ys.toList h' tk ⟨hL ▸ hns, fun b o' e => up' b o' (by rintro rfl; rw [hL0] at e; cases e) (F.keep b o' e), F.above⟩ (fun q hq => ?_) (ints_paired hi hF) fun q hq e => by
      have e' : D = q.1 := e
      have := (N q hq).1
      rw [← e', hD0] at this; cases this
    rcases List.mem_cons.mp hq with rfl | hq
    · refine ⟨by rw [Array.toArray_toList]; exact en, ?_, ?_⟩
      · rintro rfl
        obtain ⟨o, _, _, ho, _⟩ := F.ns
        rw [ho] at hD0; cases hD0
      · cases e : h₀.get? D with
        | none => rfl
        | some o' => rw [F.keep _ _ e] at hD0; cases hD0
    · exact ⟨up' _ _ (N q hq).2.1 (N q hq).1, (N q hq).2⟩
theorem iter_strC0 {env : Env} {elt : PySem.Expr} {z : Str} {scope : Scope} {Q : Value → Shared → Prop} {x : Str} {t : Tok} (f : Nat → Str)
    (hh : A.handled = none) (F : Fr h₀ L s₁.heap m) (N : News h₀ L s₁.heap news) (hsz : x.length ≤ 1000)
    (helt : ∀ C c t (s₂ : Shared) m₂ E', c ∈ x.cps.toList → s₂.heap.Ns (compEnv scope C env).locals m₂ → m₂ z = some (.str ⟨#[c]⟩ t) → Fr h₀ L s₂.heap m → wpAny (model prog w) A (eval elt (compEnv scope C env)) (fun r s₃ => (∃ u, r = .str (f c) u) ∧ Keeps s₂ s₃) E' s₂)
    (h : ∀ D n (ys : List Value) h' tk, Fr h₀ L h' m → News h₀ L h' ((D, listOf ys.toArray n) :: news) → StrsAre ys (x.cps.toList.map f) → (∀ q ∈ news, @Ne Nat D q.1) → Q (.ref D) { s₁ with heap := h', toks := tk }) :
    wpAny (model prog w) A (pyIter (.str x t)) (CompPost prog w A env scope z [] elt Q) E s₁ := by
  refine wpAny_pyIter_str fun o St W hst => ?_
  have up : ∀ (h' : Heap), (∀ b o', b ∉ [s₁.heap.objs.size] → (s₁.heap.push o).get? b = some o' → h'.get? b = some o') → ∀ b o', s₁.heap.get? b = some o' → h'.get? b = some o' :=
    fun h' hk b o' e => hk b o' (not_iter_of_old e) (Heap.get?_push_of_some _ e)
  refine ⟨fun _ => true, fun v y => ∃ c t u, v = Value.str ⟨#[c]⟩ t ∧ y = Value.str (f c) u, s₁.heap.objs.size, [s₁.heap.objs.size], [s₁.heap.objs.size], x.cps.size, _, St, rfl, W A hh, (by rw [sizeLine_eq]; have : x.cps.size = x.length := rfl; omega), hst, ?_, ⟨?_, ?_⟩, ?_⟩
  · intro b hb
    show b < (s₁.heap.push _).objs.size
    rw [Heap.size_push, List.mem_singleton.mp hb]
    exact Nat.lt_succ_self _
  · intro C i v s₃ m₃ E' hP hn hm _ htk
    exact wpAny_pure ⟨rfl, s₃.heap, s₃.toks, rfl, fun _ _ e => e⟩
  · intro C i v s₃ m₃ E' hP hp hn hm hk htk
    obtain ⟨c, u, hc, rfl⟩ := hP
    have hc' : c ∈ x.cps.toList := by
      have : x.cps.toList[i]? = some c := by simpa using hc
      exact List.mem_of_getElem? this
    refine wpAny_mono (helt C c u s₃ m₃ E' hc' hn hm (F.keeps (up _ hk))) (fun r s₄ h₄ => ?_) fun _ _ e => e
    obtain ⟨⟨u', rfl⟩, hk⟩ := h₄
    exact ⟨⟨c, u, u', rfl, rfl⟩, hk⟩
  · intro D h' tk ys vs' hnew hlD hplD hlen hP hF hk
    have hsg : Signs vs' x.cps.toList := signs_of (by simpa using hlen) fun j v e => by
      obtain ⟨c, u, hc, rfl⟩ := hP j v e
      exact ⟨c, u, by simpa using hc, rfl⟩
    have hsg2 := signs_paired (p := fun _ => true) hsg (ys := ys.toList) (f := f) (by
      rw [List.filter_eq_self.mpr (fun v hv => ?_)]
      · rw [List.filter_eq_self.mpr (fun _ _ => rfl)] at hF; exact hF
      · unfold signP
        obtain ⟨j, hj⟩ := List.getElem?_of_mem hv
        obtain ⟨c, u, hc, rfl⟩ := hP j v hj
        rfl)
    rw [List.filter_eq_self.mpr (fun _ _ => rfl)] at hsg2
    obtain ⟨n, en⟩ := hplD
    have hD0 : s₁.heap.get? D = none := by
      cases e : s₁.heap.get? D with
      | none => rfl
      | some o' => rw [Heap.get?_push_of_some _ e] at hnew; cases hnew
    refine h D n ys.toList h' tk (F.keeps (up h' hk)) (fun q hq => ?_) hsg2 fun q hq e => by
      have e' : D = q.1 := e
      have := (N q hq).1
      rw [← e', hD0] at this; cases this
    rcases List.mem_cons.mp hq with rfl | hq
    · refine ⟨by rw [Array.toArray_toList]; exact en, ?_, ?_⟩
      · rintro rfl
        obtain ⟨o, _, _, ho, _⟩ := F.ns
        rw [ho] at hD0; cases hD0
      · cases e : h₀.get? D with
        | none => rfl
        | some o' => rw [F.keep _ _ e] at hD0; cases hD0
    · exact (N.grown (up h' hk)) q hq
end
end
section
theorem walks_rangeB {prog : Program} {w : World} {A : Around} (hh : A.handled = none) (I : Addr) (n : Nat) :
    Walks prog w A I [I] [I] n (fun i v => i < n ∧ ∃ t, v = Value.int (i : Int) t) (fun i h => IsRangeIter h I (0 + (i : Nat) * 1) ((n : Int) - (i : Nat)) 1) :=
  let W := Walks.range (prog := prog) (w := w) hh I 0 1 n
  { sub := W.sub, frame := W.frame, done := W.done, self := W.self,
    item := fun i s Q E hi st hQ => W.item i s Q E hi st fun v h' tk hP st' hk => hQ v h' tk ⟨hi, by obtain ⟨t, e⟩ := hP; exact ⟨t, by rw [e]; congr 1; omega⟩⟩ st' hk }
theorem strs_range {f : Nat → Str} : ∀ {vs ys : List Value} (k : Nat), (∀ (j : Nat) (v : Value), vs[j]? = some v → ∃ t, v = Value.int ((k : Int) + (j : Int)) t) → Paired (fun v y => ∃ (j : Nat) (t u : Tok), v = Value.int (j : Int) t ∧ y = Value.str (f j) u) vs ys → StrsAre ys ((List.range vs.length).map fun j => f (k + j))
  | [], _, k, _, h => by cases h; exact .nil
  | v :: vs, _, k, hP, h => by
    cases h with
    | cons h1 h2 =>
      obtain ⟨j, t, u, e1, rfl⟩ := h1
      obtain ⟨t', e2⟩ := hP 0 v rfl
      have ej : j = k := by
        rw [e1] at e2
        injection e2 with e3 _
        have : ((0 : Nat) : Int) = 0 := rfl
        omega
      subst ej
      have ih := strs_range (f := f) (vs := vs) (j + 1) (fun i w hw => by
        obtain ⟨t, e⟩ := hP (i + 1) w (by simpa using hw)
        refine ⟨t, ?_⟩
        rw [e]
        congr 1
        push_cast
        omega) h2
      rw [List.length_cons, List.range_succ_eq_map, List.map_cons, List.map_map]
      refine .cons _ _ ?_
      have e : (fun i => f (j + 1 + i)) = ((fun i => f (j + i)) ∘ Nat.succ) := by
        funext i
        show f (j + 1 + i) = f (j + (i + 1))
        congr 1; omega
      rw [← e]
      exact ih
section
variable {prog : Program} {w : World} {A : Around} {E : Value → Shared → Prop} {s : Shared} {h₀ : Heap} {L : Addr} {m : Str → Option Value} {news : List (Addr × Obj)}
theorem assign_compR {env : Env} {elt iter : PySem.Expr} {x y : Str} {px py pos spos : Pos} {scope : Scope} {cl : List (Str × Addr)} {Q : Flow → Shared → Prop} (n : Nat) (f : Nat → Str)
    (hh : A.handled = none) (hL : env.locals = L) (F : Fr h₀ L s.heap m) (N : News h₀ L s.heap news) (hsz : n ≤ 1000) (hsm : Builtin.Range.small 0 (n : Int) 1 = true) (hrs : Builtin.Range.rangeSize 0 (n : Int) 1 = (n : Int))
    (hsw : swapsWith (.ListComp elt [⟨.Name x px, iter, [], 0⟩] scope pos) (some (.Name y py)) spos.line env = pure true)
    (hclos : closureFor scope env = pure cl) (hcell : ∀ z ∈ scope.names, z.2 ≠ .cell) (hkind : scope.kind = .function)
    (hnames : ∀ z ∈ scope.names, z.2 = .local → scope.names.lookup z.1 = some .local) (hx : scope.names.lookup x = some .local)
    (hy : env.kindOf y = some .local) (hp : (env.scope.kind == .class || (env.scope.kind == .module && env.locals != env.globals)) = false)
    (h0 : wpAny (model prog w) A (eval iter env) (fun v s₁ => (∃ r a b c, v = .ref r ∧ IsRange s₁.heap r 0 (n : Int) 1 a b c) ∧ Keeps s s₁) E s)
    (helt : ∀ C (j : Nat) t (s₂ : Shared) m₂ E', j < n → s₂.heap.Ns (compEnvC scope cl C env).locals m₂ → m₂ x = some (.int j t) → Fr h₀ L s₂.heap m → News h₀ L s₂.heap news →
      wpAny (model prog w) A (eval elt (compEnvC scope cl C env)) (fun v s₃ => (∃ u, v = .str (f j) u) ∧ Keeps s₂ s₃) E' s₂)
    (h : ∀ D nn (ys : List Value) h' tk, Fr h₀ L h' (fun z => if z = y then some (.ref D) else m z) → News h₀ L h' ((D, listOf ys.toArray nn) :: news) → StrsAre ys ((List.range n).map f) → (∀ q ∈ news, @Ne Nat D q.1) → Q .next { s with heap := h', toks := tk })
    (hs : ∀ x, foldedSetIterable iter env x = pure x := by intro _; rfl) :
    wpAny (model prog w) A (exec (.Assign [.Name y py] (.ListComp elt [⟨.Name x px, iter, [], 0⟩] scope pos) spos) env) Q E s := by
  refine wpAny_Assign_ListComp_free (cl := cl) (fun _ => true) (fun v y => ∃ (j : Nat) (t u : Tok), v = Value.int (j : Int) t ∧ y = Value.str (f j) u) hsw hclos hcell hkind hnames hx hy hp (wpAny_mono h0 (fun v s₁ h₁ => ?_) fun _ _ e => e) hs
  obtain ⟨⟨r, a, b, c, rfl, hr⟩, h₁, tk₁, rfl, hk₁⟩ := h₁
  refine wpAny_pyIter_range hr hsm ?_
  dsimp only
  rw [hrs]
  generalize hH : h₁.push { cls := .type "range_iterator", data := .fields #[rawInt 0, rawInt (n : Int), rawInt 1] } = H
  have upH : ∀ b o, h₁.get? b = some o → H.get? b = some o := fun b o e => hH ▸ Heap.get?_push_of_some _ e
  have hit : IsRangeIter H h₁.objs.size (0 + ((0 : Nat) : Int) * 1) ((n : Int) - ((0 : Nat) : Int)) 1 := by
    have : IsRangeIter H h₁.objs.size 0 (n : Int) 1 := hH ▸ Heap.get?_push_size _ rfl
    simpa using this
  have szH : H.objs.size = h₁.objs.size + 1 := by rw [← hH, Heap.size_push]
  clear hH
  have hF1 : Fr h₀ L h₁ m := F.keeps hk₁
  have kp : ∀ h' : Heap, (∀ b o', b ∉ [h₁.objs.size] → H.get? b = some o' → h'.get? b = some o') → ∀ b o', h₁.get? b = some o' → h'.get? b = some o' :=
    fun h' hk b o' e => hk b o' (by rw [List.mem_singleton]; rintro rfl; exact absurd (Heap.lt_size e) (Nat.lt_irrefl _)) (upH b o' e)
  refine ⟨h₁.objs.size, [h₁.objs.size], [h₁.objs.size], n, _, _, m, rfl, walks_rangeB hh _ n, (by rw [sizeLine_eq]; omega), hit, ?_, ?_, ?_, ⟨?_, ?_⟩, ?_⟩
  · intro b hb
    rw [List.mem_singleton.mp hb, szH]
    exact Nat.lt_succ_self _
  · rw [hL]
    intro hb
    rw [List.mem_singleton] at hb
    have := hF1.ns.lt
    rw [hb] at this
    exact Nat.lt_irrefl _ this
  · rw [hL]
    exact hF1.ns.at' fun o e => upH _ o e
  · intro C i v s₃ m₃ E' _ hP hn hm _ htk
    exact wpAny_pure ⟨rfl, s₃.heap, s₃.toks, rfl, fun _ _ e => e⟩
  · intro C i v s₃ m₃ E' _ hP hp' hn hm hk htk
    obtain ⟨hi, t, rfl⟩ := hP
    refine wpAny_mono (helt C i t s₃ m₃ E' hi hn hm (hF1.keeps (kp _ hk)) (N.grown fun b o e => kp _ hk b o (hk₁ b o e))) (fun v s₄ h₄ => ?_) fun _ _ e => e
    obtain ⟨⟨u, rfl⟩, hk⟩ := h₄
    exact ⟨⟨i, t, u, rfl, rfl⟩, hk⟩
  · intro D h' tk ys vs' hnew hlD hplD hlen hP hF hns hk
    rw [List.filter_eq_self.mpr (fun _ _ => rfl)] at hF
    obtain ⟨nn, en⟩ := hplD
    have hD0 : h₁.get? D = none := by
      cases e : h₁.get? D with
      | none => rfl
      | some o' => rw [upH _ _ e] at hnew; cases hnew
    have up' : ∀ b o', b ≠ L → h₁.get? b = some o' → h'.get? b = some o' := fun b o' hb e => hk b o' (by rw [hL]; exact hb) (by rw [List.mem_singleton]; rintro rfl; exact absurd (Heap.lt_size e) (Nat.lt_irrefl _)) (upH b o' e)
    have hL0 : h₀.get? L = none := by
      cases e : h₀.get? L with
      | none => rfl
      | some o' => exact absurd (Heap.lt_size e) (Nat.not_lt.mpr F.above)
    have hst := strs_range (f := f) (vs := vs') 0 (fun j v e => by
      obtain ⟨_, t, e⟩ := hP j v e
      have z : ((0 : Nat) : Int) + (j : Int) = (j : Int) := by omega
      exact ⟨t, by rw [e, z]⟩) hF
    rw [hlen] at hst
    have e0 : (fun j => f (0 + j)) = f := by funext j; rw [Nat.zero_add]
    rw [e0] at hst
    refine h D nn ys.toList h' tk ⟨hL ▸ hns, fun b o' e => up' b o' (by rintro rfl; rw [hL0] at e; cases e) (hF1.keep b o' e), F.above⟩ (fun q hq => ?_) hst fun q hq e => by
      have e' : D = q.1 := e
      have := hk₁ _ _ (N q hq).1
      rw [← e', hD0] at this; cases this
    rcases List.mem_cons.mp hq with rfl | hq
    · refine ⟨by rw [Array.toArray_toList]; exact en, ?_, ?_⟩
      · rintro rfl
        obtain ⟨o, _, _, ho, _⟩ := hF1.ns
        rw [ho] at hD0; cases hD0
      · cases e : h₀.get? D with
        | none => rfl
        | some o' => rw [hF1.keep _ _ e] at hD0; cases hD0
    · exact ⟨up' _ _ (N q hq).2.1 (hk₁ _ _ (N q hq).1), (N q hq).2⟩
end
end
section
theorem six_of (xs : List Int) : ∃ ts : List Int, (List.take 6 (List.take 6 xs ++ [6, 1, 8, 3, 10, 2])).map (fun x => Int.fmod x 1000000) = ts ∧ ts.length = 6 ∧ ∀ z ∈ ts, 0 ≤ z ∧ z < 1000000 := by
  refine ⟨_, rfl, ?_, ?_⟩
  · simp
  · intro z hz
    obtain ⟨x, -, rfl⟩ := List.mem_map.mp hz
    exact ⟨Int.fmod_nonneg_of_pos _ (by decide), Int.fmod_lt_of_pos _ (by decide)⟩
theorem sum_bounds : ∀ ts : List Int, (∀ z ∈ ts, 0 ≤ z ∧ z < 1000000) → 0 ≤ ts.sum ∧ ts.sum ≤ 1000000 * ts.length
  | [], _ => by simp
  | a :: ts, h => by
    have ih := sum_bounds ts fun z hz => h z (.tail _ hz)
    have h0 := h a (.head _)
    simp only [List.sum_cons, List.length_cons]
    push_cast
    omega
theorem pairs_of (T : Int) : ∃ p : Nat, 1 + Int.fmod T 3 = (p : Int) ∧ 1 ≤ p ∧ p ≤ 3 := by
  have h0 := Int.fmod_nonneg_of_pos T (show (0 : Int) < 3 by decide)
  have h1 := Int.fmod_lt_of_pos T (show (0 : Int) < 3 by decide)
  exact ⟨(1 + Int.fmod T 3).toNat, by omega, by omega, by omega⟩
noncomputable def parB (ts : List Int) : List Bool := ts.map fun a => a.fmod 2 == 0
theorem parB_len (ts : List Int) : (parB ts).length = ts.length := List.length_map ..
theorem item_fi (a : Int) : Txt.item (Str.ofString "fi") (a.fmod 2) = ltr (a.fmod 2 == 0) := by
  have h0 := Int.fmod_nonneg_of_pos a (show (0 : Int) < 2 by decide)
  have h1 := Int.fmod_lt_of_pos a (show (0 : Int) < 2 by decide)
  rcases (show a.fmod 2 = 0 ∨ a.fmod 2 = 1 by omega) with h | h <;> rw [h] <;> decide
theorem drawn_eq (ts : List Int) : Txt.join (Str.ofString "") (List.map (fun a => Txt.item (Str.ofString "fi") (a.fmod 2)) (List.filter (fun _ => true) ts)) = strOf (parB ts) := by
  rw [List.filter_eq_self.mpr (fun _ _ => rfl)]
  have e : List.map (fun a => Txt.item (Str.ofString "fi") (a.fmod 2)) ts = (parB ts).map ltr := by
    unfold parB
    rw [List.map_map]
    exact List.map_congr_left fun a _ => item_fi a
  rw [e, join_ltr]
end
section
theorem Fr.put {h₀ h : Heap} {L : Addr} {m : Str → Option Value} (F : Fr h₀ L h m) (x : Str) (v : Option Value) (e : m x = v) : Fr h₀ L h (fun y => if y = x then v else m y) := by
  have : m = fun y => if y = x then v else m y := by
    funext y
    by_cases hy : y = x
    · rw [if_pos hy, hy, e]
    · rw [if_neg hy]
  exact this ▸ F
theorem Fr.canon2 {h₀ h : Heap} {L : Addr} {m : Str → Option Value} {a b : Str} {v1 v2 k1 k2 : Option Value} (F : Fr h₀ L h (fun y => if y = a then v2 else if y = b then k2 else if y = a then v1 else if y = b then k1 else m y)) :
    Fr h₀ L h (fun y => if y = a then v2 else if y = b then k2 else m y) := by
  have : (fun y => if y = a then v2 else if y = b then k2 else if y = a then v1 else if y = b then k1 else m y) = fun y => if y = a then v2 else if y = b then k2 else m y := by
    funext y
    by_cases h1 : y = a
    · rw [if_pos h1, if_pos h1]
    · by_cases h2 : y = b
      · rw [if_neg h1, if_pos h2, if_neg h1, if_pos h2]
      · rw [if_neg h1, if_neg h2, if_neg h1, if_neg h2, if_neg h1, if_neg h2]
  exact this ▸ F
structure LoopL (g : Heap) (L I D2 : Addr) (m : Str → Option Value) (nD2 : Nat) (ys2 : List Value) (bs : List Bool) (s₀ : Shared) (p k : Nat) (s' : Shared) : Prop where
  ex : ∃ h gs tk tn ok ps1 ps2, s' = { s₀ with heap := h, gens := gs, toks := tk } ∧ AllBare gs ∧ Fr g L h (fun y => if y = Str.ofString "now" then some (.str (strOf (sgN k bs)) tn) else if y = Str.ofString "k" then ok else m y) ∧
    News g L h [(I, itS (k : Int) ((p : Int) - (k : Int)) 1), (D2, listOf ys2.toArray nD2), (140, tabO ps1), (147, tabO ps2)] ∧ TriplesOk ps1.toList ∧ TriplesOk ps2.toList
theorem lawL_loop {prog : Program} {w : World} {A : Around} {E : Value → Shared → Prop} {env : Env} {target : PySem.Expr} {body orelse : List Stmt} {Q : Flow → Shared → Prop} {g : Heap} {L I D2 : Addr} {m : Str → Option Value} {nD2 : Nat} {ys2 : List Value} {bs : List Bool} {s₀ : Shared} {p : Nat}
    (hstep : ∀ k s', k < p → LoopL g L I D2 m nD2 ys2 bs s₀ p k s' → (∀ s'', LoopL g L I D2 m nD2 ys2 bs s₀ p (k + 1) s'' → ForRest prog w A E env target (.ref I) body orelse Q s'') → ForRest prog w A E env target (.ref I) body orelse Q s')
    (hend : ∀ s', LoopL g L I D2 m nD2 ys2 bs s₀ p p s' → ForRest prog w A E env target (.ref I) body orelse Q s') : ∀ (r k : Nat) (s' : Shared), k + r = p → LoopL g L I D2 m nD2 ys2 bs s₀ p k s' → ForRest prog w A E env target (.ref I) body orelse Q s' := by
  intro r
  induction r with
  | zero => intro k s' e h; have : k = p := by omega
            subst this; exact hend s' h
  | succ r ih => intro k s' e h; exact hstep k s' (by omega) h fun s'' h'' => ih (k + 1) s'' (by omega) h''
section
variable {prog : Program} {w : World} {A : Around} {E : Value → Shared → Prop} {s : Shared}
theorem sub_strsK {value slice : PySem.Expr} {a : Addr} {l : List Value} {f : Nat → Str} {n : Nat} {k : Int} {j : Nat} {u : Tok} {Q : Value → Shared → Prop} (hl : s.heap.IsList a l.toArray) (hi : StrsAre l ((List.range n).map f)) (hk : k = (j : Int)) (hj : j < n) (hn : n ≤ 1000)
    (h : ∀ t', Q (.str (f j) t') s)
    (hs : subscripted slice false (.ref a) (.int k u) = operate [.ref a, .int k u] (getItem (.ref a) (.int k u))) (hg : ∀ r, letTemporaryGo value (.ref a) r = pure ()) :
    wpAny (model prog w) A (subscriptTail value slice (.ref a) (.int k u)) Q E s := by
  refine item_strsA hl hi (by omega) (by simp; omega) (by omega) (fun t => ?_) hs hg
  have e : ((List.range n).map f).getD k.toNat Str.empty = f j := by
    rw [hk, Int.toNat_natCast, List.getD_eq_getElem?_getD, List.getElem?_map, List.getElem?_range hj]
    rfl
  rw [e]
  exact h t
theorem strs_at {vs : List Value} {xs : List Str} (h : StrsAre vs xs) : ∀ (j : Nat) (h1 : j < vs.length), ∃ t, vs[j] = Value.str (xs.getD j Str.empty) t := by
  induction h with
  | nil => intro j h1; exact absurd h1 (Nat.not_lt_zero _)
  | cons x t _ ih =>
    intro j h1
    cases j with
    | zero => exact ⟨t, rfl⟩
    | succ j => exact ih j (by simpa using h1)
theorem ne_lists {l b : Addr} {vs vs2 : List Value} {xs : List Str} {Q : Value → Shared → Prop} (hl : s.heap.IsList l vs.toArray) (hb : s.heap.IsList b vs2.toArray) (hi : StrsAre vs xs) (hi2 : StrsAre vs2 xs) (hu : A.units < cLine) (h : Q (.bool false) s) :
    wpAny (model prog w) A (compareOp .NotEq (.ref l) (.ref b)) Q E s := by
  have hsz : vs.toArray.size = vs2.toArray.size := by rw [List.size_toArray, List.size_toArray, strsAre_len hi, strsAre_len hi2]
  have z := SeqAt.RcNeAt.lists (A := A) (s := s) (e := fun _ => true) hl hb hsz hu (fun j h1 h2 => by
    obtain ⟨t, e⟩ := strs_at hi j (by simpa using h1)
    obtain ⟨u, e2⟩ := strs_at hi2 j (by simpa using h2)
    rw [List.getElem_toArray, List.getElem_toArray, e, e2]
    have := SeqAt.EqAt.str_str (A := A.in1) (s := s) (xs.getD j Str.empty) t (xs.getD j Str.empty) u
    rw [beq_self_eq_true] at this
    exact this)
  have e : (!(List.range vs.toArray.size).all fun _ => true) = false := by simp
  rw [e] at z
  exact EqBoolInt.of_rcne z h
theorem ne_same {x : Str} {t u : Tok} {Q : Value → Shared → Prop} (h : Q (.bool false) s) : wpAny (model prog w) A (compareOp .NotEq (.str x t) (.str x u)) Q E s := by
  have z := SeqAt.RcNeAt.str_str (A := A) (s := s) x t x u
  rw [beq_self_eq_true] at z
  exact EqBoolInt.of_rcne z h
end
theorem news_isList {h₀ h : Heap} {L a : Addr} {news : List (Addr × Obj)} {vs : List Value} {n : Nat} (N : News h₀ L h news) (hm : (a, listOf vs.toArray n) ∈ news) : h.IsList a vs.toArray := ⟨_, (N _ hm).1, rfl, _, rfl⟩
end
section
noncomputable def outC (c : Nat) : Str := if c = 102 then Str.ofString "\"i" else Str.ofString ""
theorem outF_out (b : Bool) : outF (lineS (outB b)) = outC (codeB b) := by cases b <;> kernel_rfl
theorem outF_fi : outF (lineS [true, false]) = Str.ofString "" := by kernel_rfl
theorem outs_eq {w0 : Nat} {u : List Bool} (h : readOk w0 u = true) : ((runL w0 (sg2 u ++ [true, false]) [] []).map lineS).map outF = Str.ofString "" :: (strOf u).cps.toList.map outC := by
  unfold readOk at h
  obtain ⟨-, h2⟩ := Bool.and_eq_true_iff.mp h
  rw [eq_of_beq h2, List.map_cons, List.map_cons, outF_fi, strOf_toList, List.map_map, List.map_map, List.map_map]
  congr 1
  exact List.map_congr_left fun b _ => outF_out b
theorem run_ok {w0 : Nat} {u : List Bool} (h : readOk w0 u = true) : okRun w0 (sg2 u ++ [true, false]) [] = true := by
  unfold readOk at h
  exact (Bool.and_eq_true_iff.mp h).1
theorem reads_all {p w0 : Nat} {bs : List Bool} (hl : bs.length = 8 - 2 * p) (hp1 : 1 ≤ p) (hp3 : p ≤ 3) (hw : w0 ≤ 3) : ∀ k, k < p → readOk w0 (sgN k bs) = true := by
  have hw' : w0 ∈ [0, 1, 2, 3] := by
    simp; omega
  have hm := bitsN_mem bs
  intro k hk
  rcases (show p = 1 ∨ p = 2 ∨ p = 3 by omega) with rfl | rfl | rfl
  · have e : bs.length = 6 := hl
    rw [e] at hm
    have z := List.all_eq_true.mp (List.all_eq_true.mp read6 bs hm) w0 hw'
    rcases (show k = 0 by omega) with rfl
    exact z
  · have e : bs.length = 4 := hl
    rw [e] at hm
    have z := List.all_eq_true.mp (List.all_eq_true.mp read4 bs hm) w0 hw'
    obtain ⟨z0, z1⟩ := Bool.and_eq_true_iff.mp z
    rcases (show k = 0 ∨ k = 1 by omega) with rfl | rfl
    · exact z0
    · exact z1
  · have e : bs.length = 2 := hl
    rw [e] at hm
    have z := List.all_eq_true.mp (List.all_eq_true.mp read2 bs hm) w0 hw'
    obtain ⟨z, z2⟩ := Bool.and_eq_true_iff.mp z
    obtain ⟨z0, z1⟩ := Bool.and_eq_true_iff.mp z
    rcases (show k = 0 ∨ k = 1 ∨ k = 2 by omega) with rfl | rfl | rfl
    · exact z0
    · exact z1
    · exact z2
noncomputable def cN : Nat → Nat | 0 => 1 | 1 => 3 | 2 => 8 | _ => 21
theorem sgN_len1 : ([0, 1, 2, 3].all fun n => [true, false].all fun b => decide ((sgN n [b]).length ≤ cN n)) = true := by decide +kernel
theorem sgN_len (n : Nat) (hn : n ≤ 3) (u : List Bool) : (sgN n u).length ≤ u.length * cN n := by
  have h1 : ∀ b, (sgN n [b]).length ≤ cN n := fun b => by
    have hn' : n ∈ [0, 1, 2, 3] := by simp; omega
    have hb : b ∈ [true, false] := by cases b <;> simp
    exact of_decide_eq_true (List.all_eq_true.mp (List.all_eq_true.mp sgN_len1 n hn') b hb)
  rw [sgN_flat]
  induction u with
  | nil => simp
  | cons b u ih =>
    have := h1 b
    simp only [List.flatMap_cons, List.length_append, List.length_cons, Nat.succ_mul]
    omega
theorem lens_all {p : Nat} {bs : List Bool} (hl : bs.length = 8 - 2 * p) (hp1 : 1 ≤ p) (hp3 : p ≤ 3) : ∀ k, k ≤ p → (sgN k bs).length ≤ 48 := by
  intro k hk
  have h := sgN_len k (by omega) bs
  rw [hl] at h
  rcases (show p = 1 ∨ p = 2 ∨ p = 3 by omega) with rfl | rfl | rfl
  · rcases (show k = 0 ∨ k = 1 by omega) with rfl | rfl <;> simp [cN] at h <;> omega
  · rcases (show k = 0 ∨ k = 1 ∨ k = 2 by omega) with rfl | rfl | rfl <;> simp [cN] at h <;> omega
  · rcases (show k = 0 ∨ k = 1 ∨ k = 2 ∨ k = 3 by omega) with rfl | rfl | rfl | rfl <;> simp [cN] at h <;> omega
theorem s1_len (u : List Bool) : (s1 u).length ≤ 2 * u.length := by
  induction u with
  | nil => simp [s1]
  | cons b u ih => cases b <;> simp [s1] at ih ⊢ <;> omega
theorem grown_all (bs : List Bool) (j : Nat) (hj : j ≤ 3) : grownB j bs = sgN j bs := by
  rcases (show j = 0 ∨ j = 1 ∨ j = 2 ∨ j = 3 by omega) with rfl | rfl | rfl | rfl
  · unfold grownB; rw [if_pos rfl]; rfl
  · exact grown_sg 1 (by decide) bs
  · exact grown_sg 2 (by decide) bs
  · exact grown_sg 3 (by decide) bs
theorem fdiv_bounds {T : Int} (h0 : 0 ≤ T) (h1 : T ≤ 6000000) : 0 ≤ Int.fdiv T 12 ∧ Int.fdiv T 12 ≤ 500000 := by
  rw [Int.fdiv_eq_ediv_of_nonneg _ (by decide)]
  omega
theorem width_of (T : Int) : ∃ w0 : Nat, Int.fmod (Int.fdiv T 3) 4 = (w0 : Int) ∧ w0 ≤ 3 := by
  have h0 := Int.fmod_nonneg_of_pos (Int.fdiv T 3) (show (0 : Int) < 4 by decide)
  have h1 := Int.fmod_lt_of_pos (Int.fdiv T 3) (show (0 : Int) < 4 by decide)
  exact ⟨(Int.fmod (Int.fdiv T 3) 4).toNat, by omega, by omega⟩
end
section
section
theorem kw32 : True := by
  k_with "eval ListComp" => ((refine Halt.out ?_))
  k_with "exec Assign cons ListComp" => ((refine Halt.out ?_))
  k_with "exec For Name Call cons nil" => ((refine Halt.out ?_))
  k_with "call ref" => ((refine Halt.out ?_))
  k_with "compareOp NotEq str str" => ((refine Halt.out ?_))
  k_with "compareOp NotEq ref ref" => ((refine Halt.out ?_))
  k_with "subscriptTail" => (((with_reducible show wpAny _ _ (subscriptTail _ _ (Value.ref _) (Value.int _ _)) _ _ _); (refine Halt.out ?_)))
  exact trivial
theorem grown302 (w : World) (p' : Program) (loose : List Str) (bs : List Bool) (j : Nat) (hj : j ≤ 3) (hlen : bs.length ≤ 6) (tw ts : Tok) :
    PureH w p' loose 8 60 302 [.str (strOf bs) tw, .int (j : Int) ts] (fun _ => True) (fun v => ∃ t, v = .str (strOf (grownB j bs)) t) := by
  rcases (show j = 0 ∨ j = 1 ∨ j = 2 ∨ j = 3 by omega) with rfl | rfl | rfl | rfl
  · exact grown302_0 w p' loose bs tw ts
  · exact grown302_1 w p' loose bs hlen tw ts
  · exact grown302_2 w p' loose bs hlen tw ts
  · exact grown302_3 w p' loose bs hlen tw ts
theorem law312 (w : World) (p' : Program) (loose : List Str) (l : Addr) (vs : List Value) (xs : List Int) (hi : IntsAre vs xs) (hlen : xs.length ≤ 63) :
    Mut w p' loose 60 400 312 [.ref l] (fun g => g.IsList l vs.toArray) [(140, tabO #[]), (147, tabO #[])] (fun v led' => v = .bool true ∧ ∃ ps1 ps2, (140, tabO ps1) ∈ led' ∧ (147, tabO ps2) ∈ led') := by
  intro dp un gd outer base g mean mg mb s Q E hd hu B X T Ld hpre BM hgs hret
  revert X; k_fill; intro X
  refine wpAny_call ?_
  refine' mut_cell_enter X T Ld ?k6 ?k7 ?k8 ?k9 ?kB ?kD ?_ ?c2 ?c3 ?c4
  (case k6 => k_is)
  (case k7 => k_is)
  (case k8 => (show dp < _; omega))
  (case k9 => first | exact BindsTo.of_eq rfl | exact binds_K (X.keeps Ld.keep) rfl (by k_is) rfl rfl rfl)
  (case kB => exact kindsX rfl)
  (case kD => decide +kernel)
  (case c2 => exact rfl)
  (case c3 => exact rfl)
  (case c4 => exact rfl)
  intro L' h' tk' cells' F' N' Y'
  k_cells Y'
  (try simp only [List.cons_append, List.nil_append] at N')
  have n1 : @Ne Nat (L' + 1) 140 := news_neCell N' (by k_mem) (by k_mem) (by assumption) (fun _ => by simp)
  have n2 : @Ne Nat (L' + 1) 147 := news_neCell N' (by k_mem) (by k_mem) (by assumption) (fun _ => by simp)
  try dsimp only
  k_steps
  refine ⟨?_⟩
  refine Assign_ListComp_rowsP (by with_unfolding_all rfl) (by decide) (by decide) rfl (by decide) rfl rfl rfl ?_
  k_steps
  rename News _ _ _ _ => hN
  rename Fr _ _ _ _ => hF
  rename IntsAre _ (List.take 6 (List.take 6 xs ++ _)) => hI
  refine iter_intsA (fun x => Int.fmod x 1000000) (by exact rfl) (by exact rfl) ⟨_, (hN _ (.head _)).1, rfl, _, rfl⟩ (hN _ (.head _)).2.1 hI hF hN (by simp) ?_ ?_
  · intro C z t s₂ m₂ E' hz hn hm F4
    (repeat' (first | (k_unfold; (try ((first | (with_reducible show PySem.W.StrBack _ _ _) | (with_reducible show PySem.W.LenBack _ _ _) | (with_reducible show PySem.W.BoolBack _ _ _)); dsimp only [PySem.W.StrBack, PySem.W.LenBack, PySem.W.BoolBack]))) | (k_end; wrow_close) | (walk1 <;> ((try dsimp only [List.cons_append, List.nil_append]); (try k_fold))) | (dsimp only; walk1 <;> (try k_fold)) | (leave1; walk_say "STEP leave1"; (try dsimp only); (try k_fold)) | fail "no step"))
    exact ⟨_, _, rfl, fun _ _ e => e⟩
  intro D nD ys h2 tk2 F2 N2 hys l2
  have l2' : @Ne Nat D (L' + 1) := l2 (L' + 1, _) (by k_mem)
  clear l2
  obtain ⟨ts, ets, hts, hb⟩ := six_of xs
  rw [ets] at hys
  clear hI hF hN ets
  k_steps
  refine ⟨?_⟩
  obtain ⟨hT0, hT1⟩ := sum_bounds ts hb
  obtain ⟨p, ep, hp1, hp3⟩ := pairs_of ts.sum
  rename Fr _ _ _ _ => hF
  rename News _ _ _ _ => hN
  rw [ep] at hF
  obtain ⟨T, hT⟩ : ∃ T, ts.sum = T := ⟨_, rfl⟩
  rw [hT] at hT0 hT1 hF
  rw [hts] at hT1
  clear ep hT
  refine ListComp_rowsP (by decide) (by decide) rfl (by decide) rfl ?_
  k_steps
  rename Obj.data _ = Data.cell (some (Value.str _ _)) => hdr
  rw [drawn_eq] at hdr
  have hbl : (parB (List.take (8 - 2 * (p : Int)).toNat ts)).length = 8 - 2 * p := by
    rw [parB_len, List.length_take, hts]; omega
  obtain ⟨bs, hbs⟩ : ∃ bs, parB (List.take (8 - 2 * (p : Int)).toNat ts) = bs := ⟨_, rfl⟩
  rw [hbs] at hdr hbl
  clear hbs
  refine ⟨?_⟩
  rename News _ _ _ _ => hN2
  rename Fr _ _ _ _ => hF2
  refine assign_compR (p + 1) (fun j => strOf (grownB j bs)) (by exact rfl) (by exact rfl) hF2 hN2 (by omega) ?hsm ?hrs (by with_unfolding_all rfl) (by with_unfolding_all rfl) (by decide) rfl (by decide) rfl rfl rfl ?h0 ?helt ?h
  case hsm => rcases (show p = 1 ∨ p = 2 ∨ p = 3 by omega) with rfl | rfl | rfl <;> decide +kernel
  case hrs => rcases (show p = 1 ∨ p = 2 ∨ p = 3 by omega) with rfl | rfl | rfl <;> decide +kernel
  case h0 =>
    (repeat' (first | (k_unfold; (try ((first | (with_reducible show PySem.W.StrBack _ _ _) | (with_reducible show PySem.W.LenBack _ _ _) | (with_reducible show PySem.W.BoolBack _ _ _)); dsimp only [PySem.W.StrBack, PySem.W.LenBack, PySem.W.BoolBack]))) | (k_end; wrow_close) | (walk1 <;> ((try dsimp only [List.cons_append, List.nil_append]); (try k_fold))) | (dsimp only; walk1 <;> (try k_fold)) | (leave1; walk_say "STEP leave1"; (try dsimp only); (try k_fold)) | fail "no step"))
    refine ⟨?_⟩
    exact ⟨⟨_, _, _, _, rfl, IsRange.new _ _ _ _ _ _ _⟩, _, _, rfl, fun b o e => Heap.get?_push_of_some _ e⟩
  case helt =>
    intro C j t s₂ m₂ E' hj hn hm F4 N4
    (repeat' (first | (k_unfold; (try ((first | (with_reducible show PySem.W.StrBack _ _ _) | (with_reducible show PySem.W.LenBack _ _ _) | (with_reducible show PySem.W.BoolBack _ _ _)); dsimp only [PySem.W.StrBack, PySem.W.LenBack, PySem.W.BoolBack]))) | (k_end; wrow_close) | (walk1 <;> ((try dsimp only [List.cons_append, List.nil_append]); (try k_fold))) | (dsimp only; walk1 <;> (try k_fold)) | (leave1; walk_say "STEP leave1"; (try dsimp only); (try k_fold)) | fail "no step"))
    refine ⟨?_⟩
    refine pureH_callK (grown302 w p' loose bs j (by omega) (by omega) _ _) (by assumption) (by assumption) (by assumption) (by assumption) News.nil (by exact rfl) (by exact rfl) (by exact rfl) (by ((try dsimp only [Ar, Around.deeper, Around.in1]); omega)) (by ((try dsimp only [Ar, Around.deeper, Around.in1]); omega)) trivial fun v h3 tk3 hv F5 N5 e5 => ?_
    obtain ⟨t3, rfl⟩ := hv
    exact ⟨⟨t3, rfl⟩, h3, tk3, rfl, e5⟩
  case h =>
    intro D2 nD2 ys2 h3 tk3 F3 N3 hys2 l3
    clear l3
    clear hF2 hN2
    have hys2' : StrsAre ys2 ((List.range (p + 1)).map fun j => strOf (sgN j bs)) := by
      have e : ((List.range (p + 1)).map fun j => strOf (grownB j bs)) = (List.range (p + 1)).map fun j => strOf (sgN j bs) := List.map_congr_left fun j hj => by rw [grown_all bs j (by have := List.mem_range.mp hj; omega)]
      rw [← e]; exact hys2
    (repeat' (first | (k_unfold; (try ((first | (with_reducible show PySem.W.StrBack _ _ _) | (with_reducible show PySem.W.LenBack _ _ _) | (with_reducible show PySem.W.BoolBack _ _ _)); dsimp only [PySem.W.StrBack, PySem.W.LenBack, PySem.W.BoolBack]))) | (k_end; wrow_close) | (walk1 <;> ((try dsimp only [List.cons_append, List.nil_append]); (try k_fold))) | (dsimp only; walk1 <;> (try k_fold)) | (leave1; walk_say "STEP leave1"; (try dsimp only); (try k_fold)) | fail "no step"))
    refine ⟨?_⟩
    refine for_start ?_ (fun _ => by with_unfolding_all rfl)
    (repeat' (first | (k_unfold; (try ((first | (with_reducible show PySem.W.StrBack _ _ _) | (with_reducible show PySem.W.LenBack _ _ _) | (with_reducible show PySem.W.BoolBack _ _ _)); dsimp only [PySem.W.StrBack, PySem.W.LenBack, PySem.W.BoolBack]))) | (k_end; wrow_close) | (walk1 <;> ((try dsimp only [List.cons_append, List.nil_append]); (try k_fold))) | (dsimp only; walk1 <;> (try k_fold)) | (leave1; walk_say "STEP leave1"; (try dsimp only); (try k_fold)) | fail "no step"))
    refine ⟨?_⟩
    rename News _ _ _ _ => hN
    rename Fr _ _ _ _ => hF
    refine iter_rangeK (n := (p : Int)) (IsRange.new _ _ _ _ _ _ _) rfl (by rcases (show p = 1 ∨ p = 2 ∨ p = 3 by omega) with rfl | rfl | rfl <;> decide +kernel) (by rcases (show p = 1 ∨ p = 2 ∨ p = 3 by omega) with rfl | rfl | rfl <;> decide +kernel) (hF.push _) (hN.push hF _) fun I h4 F4 N4 l4 => ?_
    obtain ⟨m0, tt, tn, F5⟩ : ∃ (m0 : Str → Option Value) (tt tn : Tok), Fr g L' h4 (fun y => if y = Str.ofString "now" then some (.str (strOf bs) tn) else if y = Str.ofString "k" then none else if y = Str.ofString "words" then some (.ref D2) else if y = Str.ofString "total" then some (.int T tt) else m0 y) :=
      ⟨_, _, _, Fr.put (Fr.put (Fr.put (Fr.put F4 (Str.ofString "total") (some (.int T _)) rfl) (Str.ofString "words") (some (.ref D2)) rfl) (Str.ofString "k") none rfl) (Str.ofString "now") (some (.str (strOf bs) _)) rfl⟩
    have N5 := newsSub N4 (news' := [(I, itS 0 (p : Int) 1), (D2, listOf ys2.toArray nD2), (140, tabO #[]), (147, tabO #[])]) (List.forall_mem_cons.mpr ⟨by k_mem, List.forall_mem_cons.mpr ⟨by k_mem, List.forall_mem_cons.mpr ⟨by k_mem, List.forall_mem_cons.mpr ⟨by k_mem, List.forall_mem_nil _⟩⟩⟩⟩)
    have hfd := fdiv_bounds hT0 hT1
    obtain ⟨w0, hw0, hw3⟩ := width_of T
    have hreads := reads_all hbl hp1 hp3 hw3
    have hlens := lens_all hbl hp1 hp3
    have e0 : (p : Int) - ((0 : Nat) : Int) = (p : Int) := by omega
    refine lawL_loop (D2 := D2) (nD2 := nD2) (ys2 := ys2) (bs := bs) (s₀ := s) (p := p) ?hs ?he p 0 _ (by omega) ⟨_, _, _, _, _, _, _, rfl, hgs, F5, (by rw [e0]; exact N5), ?t1, ?t2⟩
    case t1 => trivial
    case t2 => trivial
    case hs =>
      clear F4 N4 F5 N5 hF hN hret
      intro k s' hk hst ih
      obtain ⟨h, gs, tk, tn, ok, ps1, ps2, rfl, hgs', F6, N6, t1, t2⟩ := hst.ex
      have i1 : @Ne Nat D2 I := News.neCls N6 (by k_mem) (by k_mem) (by simp)
      have i2 : @Ne Nat 140 I := News.neCls N6 (by k_mem) (by k_mem) (by simp)
      have i3 : @Ne Nat 147 I := News.neCls N6 (by k_mem) (by k_mem) (by simp)
      refine for_turn (by first | passes_own | with_unfolding_all passes_own) (fun _ => rfl) ?_
      refine next_rangeK F6 N6 (UpdF.head (by k_all)) (by omega) (a' := ((k + 1 : Nat) : Int)) (left' := (p : Int) - ((k + 1 : Nat) : Int)) (by omega) (by omega) fun h' tk' F7 N7 => ?_
      dsimp only [ForNext]
      clear F6 N6 hst
      (repeat' (first | (k_unfold; (try ((first | (with_reducible show PySem.W.StrBack _ _ _) | (with_reducible show PySem.W.LenBack _ _ _) | (with_reducible show PySem.W.BoolBack _ _ _)); dsimp only [PySem.W.StrBack, PySem.W.LenBack, PySem.W.BoolBack]))) | (k_end; wrow_close) | (walk1 <;> ((try dsimp only [List.cons_append, List.nil_append]); (try k_fold))) | (dsimp only; walk1 <;> (try k_fold)) | (leave1; walk_say "STEP leave1"; (try dsimp only); (try k_fold)) | fail "no step"))
      refine ⟨?_⟩
      have hl1 := hlens k (by omega)
      have hl2 := s1_len (sgN k bs)
      refine pureH_callK (folded290 w p' loose (sgN k bs) _ ?b0 ?b1 ?bl _ _) (by assumption) (by assumption) (by assumption) (by assumption) (by assumption) (by exact rfl) (by exact rfl) (by exact rfl) (by ((try dsimp only [Ar, Around.deeper, Around.in1]); omega)) (by ((try dsimp only [Ar, Around.deeper, Around.in1]); omega)) trivial ?_
      case b0 => omega
      case b1 => omega
      case bl => rw [strOf_len]; omega
      intro v h3 tk3 hv F8 N8 e8
      obtain ⟨t3, rfl⟩ := hv
      (repeat' (first | (k_unfold; (try ((first | (with_reducible show PySem.W.StrBack _ _ _) | (with_reducible show PySem.W.LenBack _ _ _) | (with_reducible show PySem.W.BoolBack _ _ _)); dsimp only [PySem.W.StrBack, PySem.W.LenBack, PySem.W.BoolBack]))) | (k_end; wrow_close) | (walk1 <;> ((try dsimp only [List.cons_append, List.nil_append]); (try k_fold))) | (dsimp only; walk1 <;> (try k_fold)) | (leave1; walk_say "STEP leave1"; (try dsimp only); (try k_fold)) | fail "no step"))
      refine ⟨?_⟩
      refine pureH_callK (folded290 w p' loose (s1 (sgN k bs)) _ ?b2 ?b3 ?bm _ _) (by assumption) (by assumption) (by assumption) (by assumption) (by assumption) (by exact rfl) (by exact rfl) (by exact rfl) (by ((try dsimp only [Ar, Around.deeper, Around.in1]); omega)) (by ((try dsimp only [Ar, Around.deeper, Around.in1]); omega)) trivial ?_
      case b2 => omega
      case b3 => omega
      case bm => rw [strOf_len]; omega
      intro v h4 tk4 hv F9 N9 e9
      obtain ⟨t4, rfl⟩ := hv
      rw [s1_sg, ← sgN_succ]
      (repeat' (first | (k_unfold; (try ((first | (with_reducible show PySem.W.StrBack _ _ _) | (with_reducible show PySem.W.LenBack _ _ _) | (with_reducible show PySem.W.BoolBack _ _ _)); dsimp only [PySem.W.StrBack, PySem.W.LenBack, PySem.W.BoolBack]))) | (k_end; wrow_close) | (walk1 <;> ((try dsimp only [List.cons_append, List.nil_append]); (try k_fold))) | (dsimp only; walk1 <;> (try k_fold)) | (leave1; walk_say "STEP leave1"; (try dsimp only); (try k_fold)) | fail "no step"))
      refine ⟨?_⟩
      rename News _ _ _ _ => hN
      refine sub_strsK (j := k + 1) ⟨_, (hN _ (.tail _ (.head _))).1, rfl, _, rfl⟩ hys2' (by omega) (by omega) (by omega) (fun t' => ?_) (by with_unfolding_all rfl) (fun _ => by with_unfolding_all rfl)
      (repeat' (first | (k_unfold; (try ((first | (with_reducible show PySem.W.StrBack _ _ _) | (with_reducible show PySem.W.LenBack _ _ _) | (with_reducible show PySem.W.BoolBack _ _ _)); dsimp only [PySem.W.StrBack, PySem.W.LenBack, PySem.W.BoolBack]))) | (k_end; wrow_close) | (walk1 <;> ((try dsimp only [List.cons_append, List.nil_append]); (try k_fold))) | (dsimp only; walk1 <;> (try k_fold)) | (leave1; walk_say "STEP leave1"; (try dsimp only); (try k_fold)) | fail "no step"))
      refine ⟨?_⟩
      refine ne_same ?_
      (repeat' (first | (k_unfold; (try ((first | (with_reducible show PySem.W.StrBack _ _ _) | (with_reducible show PySem.W.LenBack _ _ _) | (with_reducible show PySem.W.BoolBack _ _ _)); dsimp only [PySem.W.StrBack, PySem.W.LenBack, PySem.W.BoolBack]))) | (k_end; wrow_close) | (walk1 <;> ((try dsimp only [List.cons_append, List.nil_append]); (try k_fold))) | (dsimp only; walk1 <;> (try k_fold)) | (leave1; walk_say "STEP leave1"; (try dsimp only); (try k_fold)) | fail "no step"))
      refine ⟨?_⟩
      have hl3 := hlens (k + 1) (by omega)
      rw [hw0]
      rename Fr _ _ _ _ => hF
      have hok : okRun w0 (sgN (k + 1) bs ++ [true, false]) [] = true := by rw [sgN_succ]; exact run_ok (hreads k hk)
      refine mut_callK (rest := [(I, itS ((k + 1 : Nat) : Int) ((p : Int) - ((k + 1 : Nat) : Int)) 1), (D2, listOf ys2.toArray nD2)]) (read307 w p' loose (sgN (k + 1) bs) w0 hw3 (by omega) hok _ _ ps1 ps2 t1 t2) (by assumption) hF (by assumption) (by assumption) hN (by exact rfl) (by exact rfl) (by exact rfl) (by ((try dsimp only [Ar, Around.deeper, Around.in1]); omega)) (by ((try dsimp only [Ar, Around.deeper, Around.in1]); omega)) ?hled ?hrest (fun _ _ => trivial) BM (by first | assumption | (dsimp only; assumption)) ?_
      case hled => exact List.forall_mem_cons.mpr ⟨by k_mem, List.forall_mem_cons.mpr ⟨by k_mem, List.forall_mem_nil _⟩⟩
      case hrest =>
        refine List.forall_mem_cons.mpr ⟨⟨by k_mem, ?_⟩, List.forall_mem_cons.mpr ⟨⟨by k_mem, ?_⟩, List.forall_mem_nil _⟩⟩
        · intro hm
          rcases List.mem_cons.mp hm with e | hm
          · exact i2 e.symm
          · exact i3 (List.mem_singleton.mp hm).symm
        · have j1 : @Ne Nat D2 140 := News.neCls hN (by k_mem) (by k_mem) (by simp)
          have j2 : @Ne Nat D2 147 := News.neCls hN (by k_mem) (by k_mem) (by simp)
          intro hm
          rcases List.mem_cons.mp hm with e | hm
          · exact j1 e
          · exact j2 (List.mem_singleton.mp hm)
      intro v led' h5 gs5 tk5 hv F10 N10 e10 hgs5
      obtain ⟨l5, vs5, nl5, ex5, ps15, ps25, rfl, hvs5, rfl, t15, t25⟩ := hv
      have hvs : StrsAre vs5 (Str.ofString "" :: (strOf (sgN k bs)).cps.toList.map outC) := by rw [← outs_eq (hreads k hk), ← sgN_succ]; exact hvs5
      have N11 := newsSub N10 (news' := [(l5, listOf vs5.toArray nl5), (I, itS ((k + 1 : Nat) : Int) ((p : Int) - ((k + 1 : Nat) : Int)) 1), (D2, listOf ys2.toArray nD2), (140, tabO ps15), (147, tabO ps25)]) (by simp)
      clear N10 hN hF hvs5
      (repeat' (first | (k_unfold; (try ((first | (with_reducible show PySem.W.StrBack _ _ _) | (with_reducible show PySem.W.LenBack _ _ _) | (with_reducible show PySem.W.BoolBack _ _ _)); dsimp only [PySem.W.StrBack, PySem.W.LenBack, PySem.W.BoolBack]))) | (k_end; wrow_close) | (walk1 <;> ((try dsimp only [List.cons_append, List.nil_append]); (try k_fold))) | (dsimp only; walk1 <;> (try k_fold)) | (leave1; walk_say "STEP leave1"; (try dsimp only); (try k_fold)) | fail "no step"))
      refine ⟨?_⟩
      refine ListComp_rowsP (by decide) (by decide) rfl (by decide) rfl ?_
      (repeat' (first | (k_unfold; (try ((first | (with_reducible show PySem.W.StrBack _ _ _) | (with_reducible show PySem.W.LenBack _ _ _) | (with_reducible show PySem.W.BoolBack _ _ _)); dsimp only [PySem.W.StrBack, PySem.W.LenBack, PySem.W.BoolBack]))) | (k_end; wrow_close) | (walk1 <;> ((try dsimp only [List.cons_append, List.nil_append]); (try k_fold))) | (dsimp only; walk1 <;> (try k_fold)) | (leave1; walk_say "STEP leave1"; (try dsimp only); (try k_fold)) | fail "no step"))
      refine ⟨?_⟩
      rename News _ _ _ _ => hN
      rename Fr _ _ _ _ => hF
      refine sub_strsK (j := k) (news_isList hN (a := D2) (n := nD2) (by k_mem)) hys2' (by omega) (by omega) (by omega) (fun t' => ?_) (by with_unfolding_all rfl) (fun _ => by with_unfolding_all rfl)
      refine iter_strC0 outC (by exact rfl) hF hN (by rw [strOf_len]; omega) ?_ ?_
      · intro C c t s₂ m₂ E' hc hn hm F12
        rcases List.mem_map.mp (codes_mem (sgN k bs) c hc) with ⟨b, -, rfl⟩
        cases b
        · (repeat' (first | (k_unfold; (try ((first | (with_reducible show PySem.W.StrBack _ _ _) | (with_reducible show PySem.W.LenBack _ _ _) | (with_reducible show PySem.W.BoolBack _ _ _)); dsimp only [PySem.W.StrBack, PySem.W.LenBack, PySem.W.BoolBack]))) | (k_end; wrow_close) | (walk1 <;> ((try dsimp only [List.cons_append, List.nil_append]); (try k_fold))) | (dsimp only; walk1 <;> (try k_fold)) | (leave1; walk_say "STEP leave1"; (try dsimp only); (try k_fold)) | fail "no step"))
          exact ⟨_, _, rfl, fun _ _ e => e⟩
        · (repeat' (first | (k_unfold; (try ((first | (with_reducible show PySem.W.StrBack _ _ _) | (with_reducible show PySem.W.LenBack _ _ _) | (with_reducible show PySem.W.BoolBack _ _ _)); dsimp only [PySem.W.StrBack, PySem.W.LenBack, PySem.W.BoolBack]))) | (k_end; wrow_close) | (walk1 <;> ((try dsimp only [List.cons_append, List.nil_append]); (try k_fold))) | (dsimp only; walk1 <;> (try k_fold)) | (leave1; walk_say "STEP leave1"; (try dsimp only); (try k_fold)) | fail "no step"))
          exact ⟨_, _, rfl, fun _ _ e => e⟩
      intro D6 nD6 ys6 h6 tk6 F12 N12 hys6 l6
      clear l6
      clear hF hN
      (repeat' (first | (k_unfold; (try ((first | (with_reducible show PySem.W.StrBack _ _ _) | (with_reducible show PySem.W.LenBack _ _ _) | (with_reducible show PySem.W.BoolBack _ _ _)); dsimp only [PySem.W.StrBack, PySem.W.LenBack, PySem.W.BoolBack]))) | (k_end; wrow_close) | (walk1 <;> ((try dsimp only [List.cons_append, List.nil_append]); (try k_fold))) | (dsimp only; walk1 <;> (try k_fold)) | (leave1; walk_say "STEP leave1"; (try dsimp only); (try k_fold)) | fail "no step"))
      have hy6 := strsAre_len hys6
      rw [List.length_map] at hy6
      have hc6 : (strOf (sgN k bs)).cps.toList.length = (sgN k bs).length := by simp [strOf]
      refine kmk_add_lit F12 N12 (news_isList N12 (by k_mem)) (news_isList N12 (by k_mem)) rfl (fun D7 h7 F13 N13 l7 => ?_) (by simp only [List.length_cons, List.length_nil]; rw [sizeLine_eq]; omega)
      (repeat' (first | (k_unfold; (try ((first | (with_reducible show PySem.W.StrBack _ _ _) | (with_reducible show PySem.W.LenBack _ _ _) | (with_reducible show PySem.W.BoolBack _ _ _)); dsimp only [PySem.W.StrBack, PySem.W.LenBack, PySem.W.BoolBack]))) | (k_end; wrow_close) | (walk1 <;> ((try dsimp only [List.cons_append, List.nil_append]); (try k_fold))) | (dsimp only; walk1 <;> (try k_fold)) | (leave1; walk_say "STEP leave1"; (try dsimp only); (try k_fold)) | fail "no step"))
      refine ⟨?_⟩
      refine ne_lists (news_isList N13 (a := l5) (vs := vs5) (by k_mem)) (news_isList N13 (.head _)) hvs (.cons _ _ hys6) (by (try dsimp only [Ar, Around.deeper, Around.in1]); omega) ?_
      (repeat' (first | (k_unfold; (try ((first | (with_reducible show PySem.W.StrBack _ _ _) | (with_reducible show PySem.W.LenBack _ _ _) | (with_reducible show PySem.W.BoolBack _ _ _)); dsimp only [PySem.W.StrBack, PySem.W.LenBack, PySem.W.BoolBack]))) | (k_end; wrow_close) | (walk1 <;> ((try dsimp only [List.cons_append, List.nil_append]); (try k_fold))) | (dsimp only; walk1 <;> (try k_fold)) | (leave1; walk_say "STEP leave1"; (try dsimp only); (try k_fold)) | fail "no step"))
      dsimp only [ForPost]
      refine ih _ ⟨_, _, _, _, _, _, _, rfl, hgs5, Fr.canon2 (by assumption), newsSub N13 (by simp), t15, t25⟩
    case he =>
      intro s' hst
      obtain ⟨h, gs, tk, tn, ok, ps1, ps2, rfl, hgs', F6, N6, t1, t2⟩ := hst.ex
      have i1 : @Ne Nat D2 I := News.neCls N6 (by k_mem) (by k_mem) (by simp)
      have i2 : @Ne Nat 140 I := News.neCls N6 (by k_mem) (by k_mem) (by simp)
      have i3 : @Ne Nat 147 I := News.neCls N6 (by k_mem) (by k_mem) (by simp)
      refine for_turn (by first | passes_own | with_unfolding_all passes_own) (fun _ => rfl) ?_
      refine next_rangeE rfl F6 N6 (.head _) (Drop.head (by k_all)) (by omega) fun h' F7 N7 => ?_
      dsimp only [ForNext]
      clear F6 N6 hst
      (repeat' (first | (k_unfold; (try ((first | (with_reducible show PySem.W.StrBack _ _ _) | (with_reducible show PySem.W.LenBack _ _ _) | (with_reducible show PySem.W.BoolBack _ _ _)); dsimp only [PySem.W.StrBack, PySem.W.LenBack, PySem.W.BoolBack]))) | (k_end; wrow_close) | (walk1 <;> ((try dsimp only [List.cons_append, List.nil_append]); (try k_fold))) | (dsimp only; walk1 <;> (try k_fold)) | (leave1; walk_say "STEP leave1"; (try dsimp only); (try k_fold)) | fail "no step"))
      exact hret _ _ _ _ _ ⟨rfl, ps1, ps2, .tail _ (.head _), .tail _ (.tail _ (.head _))⟩ (Led.of_frame F7 N7) (by first | assumption | (dsimp only; assumption))
end
end
theorem kw33 : True := by
  k_with_none
  k_with "getMethod ref" => ((k_here; k_dflt (refine' method_bi ?k1 ?k2 ?k3 ?k4 ?k5 ?k6 ?k7 ?_; (case k1 => k_in); (case k2 => k_inst); (case k3 => k_is); (case k4 => k_is); (case k5 => k_is); (case k6 => exact T_append); (case k7 => first | assumption | rfl); k_whole)))
  k_with "getMethod ref" => ((k_here; k_dflt (refine' method_fnL ?k1 ?k2 ?k3 ?k4 ?k5 ?k6 ?k7 ?_; (case k1 => k_in); (case k2 => k_inst); (case k3 => k_is); (case k4 => k_is); (case k5 => k_is); (case k6 => k_is); (case k7 => first | assumption | rfl); k_whole)))
  k_with "getMethod ref" => ((k_here; k_dflt (refine' super_methK ?k1 ?k2 ?k3 ?k4 ?k5 ?k6 ?k7 ?k8 ?k9 ?kA ?kB ?kC ?_; (case k1 => k_asm); (case k2 => k_asm); (case k3 => k_asm); (case k4 => k_mem); (case k5 => k_inst); (case k6 => k_is); (case k7 => ks_is); (case k8 => k_is); (case kB => first | exact binds_pop | exact binds_len | exact binds_init); (case k9 => kernel_rfl); (case kA => first | exact slot_md_get.lookup | exact slot_wd_get.lookup); (case kC => decide); intro q' h' F' N' l1; (try k_lt l1))))
  k_with "callWith ref" => ((k_here; k_dflt (refine' callWith_B0 ?k1 ?k2 ?k3 ?_; (case k1 => exact (News.get (by k_asm) (by k_mem))); (case k2 => rfl); (case k3 => rfl); k_whole)))
  k_with "call ref" => ((k_here; k_dflt (refine' len_B ?k1 ?k2 ?k3 ?_; (case k1 => exact (News.get (by k_asm) (by k_mem))); (case k2 => first | exact (News.get (by k_asm) (by k_mem)) | exact Fr.keep (by k_asm) _ _ (by assumption)); (case k3 => omega); k_whole); intro _))
  k_with "call ref" => ((k_here; k_dflt (refine' pop_B ?k1 ?k2 ?k3 ?k4 ?k5 ?k6 ?k7 ?k8 ?k9 ?kA ?kB ?_; (case k1 => k_asm); (case k2 => k_asm); (case k3 => k_in); (case k4 => k_inst); (case k5 => exact (News.get (by k_asm) (by k_mem))); (case k6 => k_is); (case k7 => decide +kernel); (case k8 => k_is); (case k9 => k_is); (case kA => omega); (case kB => k_upd); k_whole); intro h' F' N'))
  k_with "call builtin:list.append" => ((k_here; k_dflt (refine' append_sub ?k1 ?k2 ?k3 ?k4 ?k5 ?k6 ?k7 ?_; (case k1 => k_asm); (case k2 => k_asm); (case k3 => k_asm); (case k4 => k_inst); (case k5 => k_is); (case k6 => k_upd); (case k7 => omega); k_whole; intro h' F' N')))
  k_with "wpAt" => ((dsimp only; walk_at "wpAt"))
  k_with "wpAt" => ((ks_step "eval Call"; (with_unfolding_all refine ks_wpAt_MethodCall (pl := (do return (← importBound _ _).getD true)) ?_)))
  k_with "setItem ref ref" => ((k_here; k_dflt (refine' setSlice_sub ?k1 ?k2 ?k3 ?k4 ?k5 ?k6 ?k7 ?k8 ?k9 ?kA ?kB ?kC ?kD ?kE ?_; (case k1 => k_asm); (case k2 => k_asm); (case k3 => k_asm); (case k4 => k_inst); (case k5 => k_is); (case k6 => k_is); (case k7 => k_is); (case kA => first | exact News.get (by k_asm) (by k_mem) | exact Fr.keep (by k_asm) _ _ (by assumption)); (case k8 => first | omega | k_ne); (case k9 => first | exact PySem.IsPart.none | exact PySem.IsPart.int _ _); (case kB => first | exact cut_all _ _ | exact cut_from _ _ (by omega)); (case kC => k_upd); (case kD => first | omega | (simp; done) | (simp; omega)); (case kE => first | omega | (simp; done) | (simp; omega)); k_whole); intro h' F' N'))
  k_with "setAttr ref" => ((k_here; k_dflt (refine' set_dictL ?k1 ?k2 ?k3 ?k4 ?k5 ?k6 ?k7 ?k8 ?k9 ?kA ?kB ?kC ?kD ?kE ?_; (case k1 => k_asm); (case k2 => k_asm); (case k3 => k_asm); (case k4 => k_inst); (case k5 => exact rfl); (case k6 => k_is); (case k7 => k_is); (case k8 => rfl); (case k9 => k_is); (case kA => rfl); (case kB => first | k_get | exact rfl); (case kC => first | k_put | exact rfl); (case kD => k_upd); (case kE => exact Nat.le_of_ble_eq_true rfl); k_whole; intro h' F' N')))
  k_with "subscriptTail Name Slice ref ref" => ((k_here; (with_reducible show wpAny _ _ (subscriptTail _ (PySem.Expr.Slice _ _ none _) (Value.ref _) (Value.ref _)) _ _ _); k_dflt (refine' slice_sub ?k1 ?k2 ?k3 ?k4 ?k5 ?k6 ?k7 ?k8 ?k9 ?kA ?_ ?kB ?kC; (case k1 => k_asm); (case k2 => k_asm); (case k3 => k_asm); (case k4 => k_inst); (case k5 => k_is); (case k6 => k_is); (case k7 => k_is); (case k8 => first | exact PySem.IsPart.none | exact PySem.IsPart.int _ _); (case k9 => first | exact PySem.IsPart.none | exact PySem.IsPart.int _ _); (case kA => exact pick_from _ _ (by omega)); (case kB => with_unfolding_all rfl); (case kC => omega); k_whole); intro D' h' F' N' l1; (try k_lt l1)))
  k_with "wpAt" => ((ks_step "attributeBase Call"; k_here; k_dflt (refine node_sup (by k_asm) (by k_asm) (by k_asm) (by k_asm) (by k_is) (by rfl) (by rfl) (by k_inst) (by k_is) (by rfl) (by first | rfl | decide +kernel) (by k_is) (by k_is) (by k_is) (by k_is) (by decide) (by rfl) (by rfl) (by rfl) (by rfl) (by decide +kernel) (by first | boot_by_name | rfl | kernel_rfl) ?_; intro so' h' F' N' l1; (try k_lt l1))))
  k_with "call ref" => ((k_here; (with_reducible show wpAny _ _ (call (Value.ref 175) _) _ _ _); (refine' pureH_callK (pc_spec _ _ _ _ _ _ _ _ _ _ ?hz ?hkk) ?kB ?kF ?kX ?kT ?kN ?kA ?kf ?kk ?kd ?ku ?kp ?_; (case kA => exact rfl); (case kf => exact rfl); (case kk => exact rfl); (case kp => exact ⟨(by first | exact News.get (by k_asm) (by k_mem) | exact Fr.keep (by k_asm) _ _ (by assumption)), (by first | exact News.get (by k_asm) (by k_mem) | exact Fr.keep (by k_asm) _ _ (by assumption))⟩); (case hkk => first | (simp only [List.length_append, List.length_cons, List.length_nil, Nat.zero_add, Nat.reduceAdd]; rfl) | rfl); (case hz => first | omega | (simp; omega) | simp); (case kB => assumption); (case kF => k_asm); (case kX => k_asm); (case kT => k_asm); (case kN => k_asm); (case kd => ((try dsimp only [Ar, Around.deeper, Around.in1]); omega)); (case ku => ((try dsimp only [Ar, Around.deeper, Around.in1]); omega)); intro v' h' tk' hv' F' N' e'; obtain ⟨_, e9⟩ := hv'; subst e9)))
  k_with "eval Name" => ((k_here; (with_reducible show wpAny _ _ (eval (Expr.Name _ _) (compEnvC _ _ _ _)) _ _ _); k_dflt (first | (refine' nameC_cell ?N ?a ?b ?c ?m ?d ?_; (case a => rfl); (case b => rfl); (case N => k_asm); (case c => rfl); (case m => k_mem); (case d => k_asm); k_whole) | (refine' nameC_B ?F ?X ?T ?g ?h ?a ?b ?e ?v ?n ?_; (case a => rfl); (case b => rfl); (case g => rfl); (case h => rfl); (case F => k_asm); (case X => k_asm); (case T => k_asm); (case e => k_is); (case v => boot_fast); (case n => decide); k_whole))))
  k_with "call type:range" => (((with_reducible show wpAny _ _ (call _ [_]) _ _ _); (refine call_range_1 ?_); (refine Halt.out ?_)))
  k_with "call ref" => ((k_here; (try dsimp only [List.cons_append, List.nil_append]); (with_reducible show wpAny _ _ (call (Value.ref 94) _) _ _ _); (refine mut0_callN (fmt_new _ _ _ _ _ _ _ _ _ _ (by decide)) (by assumption) (by k_asm) (by k_asm) (by k_asm) (by k_asm) (by exact rfl) (by exact rfl) (by exact rfl) (by k_room) (by k_room) (by assumption) (by first | assumption | (dsimp only; assumption))  (fun _ _ => trivial) ?_; intro v' led' h' gs' tk' hP' F' N' hb' e' ne'; obtain ⟨fa', fd', a', d', ll', k1', k2', k3', k4', k5', k6', u1', u2', u3', u4', k', u', eA, lA⟩ := hP'; subst eA; subst lA; clear ne'; (try simp only [List.cons_append, List.nil_append] at N'))))
  k_with "call ref" => ((k_here; (try dsimp only [List.cons_append, List.nil_append]); (with_reducible show wpAny _ _ (call (Value.ref 91) _) _ _ _); (refine appC (by assumption) (by assumption) (by k_asm) (by k_asm) (by k_asm) (by k_asm) (by exact rfl) (by exact rfl) (by exact rfl) (by k_room) (by k_room) (by assumption) (by first | assumption | (dsimp only; assumption))  (by assumption) (by assumption) (by assumption) (by assumption) (by assumption) (by assumption) ?_; intro t' nl' its' n' u' ps1' ps2' cells' h' gs' tk' hp1' hp2' F' N' hc' hb')))
  k_with "call ref" => ((k_here; (try dsimp only [List.cons_append, List.nil_append]); (with_reducible show wpAny _ _ (call (Value.ref 42) _) _ _ _); (refine strC (by assumption) (by assumption) (by assumption) (by assumption) (by k_asm) (by k_asm) (by k_asm) (by k_asm) (by exact rfl) (by exact rfl) (by exact rfl) (by k_room) (by k_room) (by assumption) (by first | assumption | (dsimp only; assumption))  (by assumption) (by assumption) (by assumption) (by assumption) ?_; intro t' ps1' ps2' h' gs' tk' hp1' hp2' F' N' hb')))
  exact trivial
end
theorem kw34 : True := by
  k_with_none
  k_with "getMethod ref" => ((k_here; k_dflt (refine' method_bi ?k1 ?k2 ?k3 ?k4 ?k5 ?k6 ?k7 ?_; (case k1 => k_in); (case k2 => k_inst); (case k3 => k_is); (case k4 => k_is); (case k5 => k_is); (case k6 => exact T_append); (case k7 => first | assumption | rfl); k_whole)))
  k_with "getMethod ref" => ((k_here; k_dflt (refine' method_fnL ?k1 ?k2 ?k3 ?k4 ?k5 ?k6 ?k7 ?_; (case k1 => k_in); (case k2 => k_inst); (case k3 => k_is); (case k4 => k_is); (case k5 => k_is); (case k6 => k_is); (case k7 => first | assumption | rfl); k_whole)))
  k_with "getMethod ref" => ((k_here; k_dflt (refine' super_methK ?k1 ?k2 ?k3 ?k4 ?k5 ?k6 ?k7 ?k8 ?k9 ?kA ?kB ?kC ?_; (case k1 => k_asm); (case k2 => k_asm); (case k3 => k_asm); (case k4 => k_mem); (case k5 => k_inst); (case k6 => k_is); (case k7 => ks_is); (case k8 => k_is); (case kB => first | exact binds_pop | exact binds_len | exact binds_init); (case k9 => kernel_rfl); (case kA => first | exact slot_md_get.lookup | exact slot_wd_get.lookup); (case kC => decide); intro q' h' F' N' l1; (try k_lt l1))))
  k_with "callWith ref" => ((k_here; k_dflt (refine' callWith_B0 ?k1 ?k2 ?k3 ?_; (case k1 => exact (News.get (by k_asm) (by k_mem))); (case k2 => rfl); (case k3 => rfl); k_whole)))
  k_with "call ref" => ((k_here; k_dflt (refine' len_B ?k1 ?k2 ?k3 ?_; (case k1 => exact (News.get (by k_asm) (by k_mem))); (case k2 => first | exact (News.get (by k_asm) (by k_mem)) | exact Fr.keep (by k_asm) _ _ (by assumption)); (case k3 => omega); k_whole); intro _))
  k_with "call ref" => ((k_here; k_dflt (refine' pop_B ?k1 ?k2 ?k3 ?k4 ?k5 ?k6 ?k7 ?k8 ?k9 ?kA ?kB ?_; (case k1 => k_asm); (case k2 => k_asm); (case k3 => k_in); (case k4 => k_inst); (case k5 => exact (News.get (by k_asm) (by k_mem))); (case k6 => k_is); (case k7 => decide +kernel); (case k8 => k_is); (case k9 => k_is); (case kA => omega); (case kB => k_upd); k_whole); intro h' F' N'))
  k_with "call builtin:list.append" => ((k_here; k_dflt (refine' append_sub ?k1 ?k2 ?k3 ?k4 ?k5 ?k6 ?k7 ?_; (case k1 => k_asm); (case k2 => k_asm); (case k3 => k_asm); (case k4 => k_inst); (case k5 => k_is); (case k6 => k_upd); (case k7 => omega); k_whole; intro h' F' N')))
  k_with "wpAt" => ((dsimp only; walk_at "wpAt"))
  k_with "wpAt" => ((ks_step "eval Call"; (with_unfolding_all refine ks_wpAt_MethodCall (pl := (do return (← importBound _ _).getD true)) ?_)))
  k_with "setItem ref ref" => ((k_here; k_dflt (refine' setSlice_sub ?k1 ?k2 ?k3 ?k4 ?k5 ?k6 ?k7 ?k8 ?k9 ?kA ?kB ?kC ?kD ?kE ?_; (case k1 => k_asm); (case k2 => k_asm); (case k3 => k_asm); (case k4 => k_inst); (case k5 => k_is); (case k6 => k_is); (case k7 => k_is); (case kA => first | exact News.get (by k_asm) (by k_mem) | exact Fr.keep (by k_asm) _ _ (by assumption)); (case k8 => first | omega | k_ne); (case k9 => first | exact PySem.IsPart.none | exact PySem.IsPart.int _ _); (case kB => first | exact cut_all _ _ | exact cut_from _ _ (by omega)); (case kC => k_upd); (case kD => first | omega | (simp; done) | (simp; omega)); (case kE => first | omega | (simp; done) | (simp; omega)); k_whole); intro h' F' N'))
  k_with "setAttr ref" => ((k_here; k_dflt (refine' set_dictL ?k1 ?k2 ?k3 ?k4 ?k5 ?k6 ?k7 ?k8 ?k9 ?kA ?kB ?kC ?kD ?kE ?_; (case k1 => k_asm); (case k2 => k_asm); (case k3 => k_asm); (case k4 => k_inst); (case k5 => exact rfl); (case k6 => k_is); (case k7 => k_is); (case k8 => rfl); (case k9 => k_is); (case kA => rfl); (case kB => first | k_get | exact rfl); (case kC => first | k_put | exact rfl); (case kD => k_upd); (case kE => exact Nat.le_of_ble_eq_true rfl); k_whole; intro h' F' N')))
  k_with "subscriptTail Name Slice ref ref" => ((k_here; (with_reducible show wpAny _ _ (subscriptTail _ (PySem.Expr.Slice _ _ none _) (Value.ref _) (Value.ref _)) _ _ _); k_dflt (refine' slice_sub ?k1 ?k2 ?k3 ?k4 ?k5 ?k6 ?k7 ?k8 ?k9 ?kA ?_ ?kB ?kC; (case k1 => k_asm); (case k2 => k_asm); (case k3 => k_asm); (case k4 => k_inst); (case k5 => k_is); (case k6 => k_is); (case k7 => k_is); (case k8 => first | exact PySem.IsPart.none | exact PySem.IsPart.int _ _); (case k9 => first | exact PySem.IsPart.none | exact PySem.IsPart.int _ _); (case kA => exact pick_from _ _ (by omega)); (case kB => with_unfolding_all rfl); (case kC => omega); k_whole); intro D' h' F' N' l1; (try k_lt l1)))
  k_with "wpAt" => ((ks_step "attributeBase Call"; k_here; k_dflt (refine node_sup (by k_asm) (by k_asm) (by k_asm) (by k_asm) (by k_is) (by rfl) (by rfl) (by k_inst) (by k_is) (by rfl) (by first | rfl | decide +kernel) (by k_is) (by k_is) (by k_is) (by k_is) (by decide) (by rfl) (by rfl) (by rfl) (by rfl) (by decide +kernel) (by first | boot_by_name | rfl | kernel_rfl) ?_; intro so' h' F' N' l1; (try k_lt l1))))
  k_with "call ref" => ((k_here; (with_reducible show wpAny _ _ (call (Value.ref 175) _) _ _ _); (refine' pureH_callK (pc_spec _ _ _ _ _ _ _ _ _ _ ?hz ?hkk) ?kB ?kF ?kX ?kT ?kN ?kA ?kf ?kk ?kd ?ku ?kp ?_; (case kA => exact rfl); (case kf => exact rfl); (case kk => exact rfl); (case kp => exact ⟨(by first | exact News.get (by k_asm) (by k_mem) | exact Fr.keep (by k_asm) _ _ (by assumption)), (by first | exact News.get (by k_asm) (by k_mem) | exact Fr.keep (by k_asm) _ _ (by assumption))⟩); (case hkk => first | (simp only [List.length_append, List.length_cons, List.length_nil, Nat.zero_add, Nat.reduceAdd]; rfl) | rfl); (case hz => first | omega | (simp; omega) | simp); (case kB => assumption); (case kF => k_asm); (case kX => k_asm); (case kT => k_asm); (case kN => k_asm); (case kd => ((try dsimp only [Ar, Around.deeper, Around.in1]); omega)); (case ku => ((try dsimp only [Ar, Around.deeper, Around.in1]); omega)); intro v' h' tk' hv' F' N' e'; obtain ⟨_, e9⟩ := hv'; subst e9)))
  k_with "eval Name" => ((k_here; (with_reducible show wpAny _ _ (eval (Expr.Name _ _) (compEnvC _ _ _ _)) _ _ _); k_dflt (first | (refine' nameC_cell ?N ?a ?b ?c ?m ?d ?_; (case a => rfl); (case b => rfl); (case N => k_asm); (case c => rfl); (case m => k_mem); (case d => k_asm); k_whole) | (refine' nameC_B ?F ?X ?T ?g ?h ?a ?b ?e ?v ?n ?_; (case a => rfl); (case b => rfl); (case g => rfl); (case h => rfl); (case F => k_asm); (case X => k_asm); (case T => k_asm); (case e => k_is); (case v => boot_fast); (case n => decide); k_whole))))
  k_with "call type:range" => (((with_reducible show wpAny _ _ (call _ [_]) _ _ _); (refine call_range_1 ?_); (refine Halt.out ?_)))
  exact trivial
end
theorem kw35 : True := by
  k_with_none
  k_with "getMethod ref" => ((k_here; k_dflt (refine' method_bi ?k1 ?k2 ?k3 ?k4 ?k5 ?k6 ?k7 ?_; (case k1 => k_in); (case k2 => k_inst); (case k3 => k_is); (case k4 => k_is); (case k5 => k_is); (case k6 => exact T_append); (case k7 => first | assumption | rfl); k_whole)))
  k_with "getMethod ref" => ((k_here; k_dflt (refine' method_fnL ?k1 ?k2 ?k3 ?k4 ?k5 ?k6 ?k7 ?_; (case k1 => k_in); (case k2 => k_inst); (case k3 => k_is); (case k4 => k_is); (case k5 => k_is); (case k6 => k_is); (case k7 => first | assumption | rfl); k_whole)))
  k_with "getMethod ref" => ((k_here; k_dflt (refine' super_methK ?k1 ?k2 ?k3 ?k4 ?k5 ?k6 ?k7 ?k8 ?k9 ?kA ?kB ?kC ?_; (case k1 => k_asm); (case k2 => k_asm); (case k3 => k_asm); (case k4 => k_mem); (case k5 => k_inst); (case k6 => k_is); (case k7 => ks_is); (case k8 => k_is); (case kB => first | exact binds_pop | exact binds_len | exact binds_init); (case k9 => kernel_rfl); (case kA => first | exact slot_md_get.lookup | exact slot_wd_get.lookup); (case kC => decide); intro q' h' F' N' l1; (try k_lt l1))))
  k_with "callWith ref" => ((k_here; k_dflt (refine' callWith_B0 ?k1 ?k2 ?k3 ?_; (case k1 => exact (News.get (by k_asm) (by k_mem))); (case k2 => rfl); (case k3 => rfl); k_whole)))
  k_with "call ref" => ((k_here; k_dflt (refine' len_B ?k1 ?k2 ?k3 ?_; (case k1 => exact (News.get (by k_asm) (by k_mem))); (case k2 => first | exact (News.get (by k_asm) (by k_mem)) | exact Fr.keep (by k_asm) _ _ (by assumption)); (case k3 => omega); k_whole); intro _))
  k_with "call ref" => ((k_here; k_dflt (refine' pop_B ?k1 ?k2 ?k3 ?k4 ?k5 ?k6 ?k7 ?k8 ?k9 ?kA ?kB ?_; (case k1 => k_asm); (case k2 => k_asm); (case k3 => k_in); (case k4 => k_inst); (case k5 => exact (News.get (by k_asm) (by k_mem))); (case k6 => k_is); (case k7 => decide +kernel); (case k8 => k_is); (case k9 => k_is); (case kA => omega); (case kB => k_upd); k_whole); intro h' F' N'))
  k_with "call builtin:list.append" => ((k_here; k_dflt (refine' append_sub ?k1 ?k2 ?k3 ?k4 ?k5 ?k6 ?k7 ?_; (case k1 => k_asm); (case k2 => k_asm); (case k3 => k_asm); (case k4 => k_inst); (case k5 => k_is); (case k6 => k_upd); (case k7 => omega); k_whole; intro h' F' N')))
  k_with "wpAt" => ((dsimp only; walk_at "wpAt"))
  k_with "wpAt" => ((ks_step "eval Call"; (with_unfolding_all refine ks_wpAt_MethodCall (pl := (do return (← importBound _ _).getD true)) ?_)))
  k_with "setItem ref ref" => ((k_here; k_dflt (refine' setSlice_sub ?k1 ?k2 ?k3 ?k4 ?k5 ?k6 ?k7 ?k8 ?k9 ?kA ?kB ?kC ?kD ?kE ?_; (case k1 => k_asm); (case k2 => k_asm); (case k3 => k_asm); (case k4 => k_inst); (case k5 => k_is); (case k6 => k_is); (case k7 => k_is); (case kA => first | exact News.get (by k_asm) (by k_mem) | exact Fr.keep (by k_asm) _ _ (by assumption)); (case k8 => first | omega | k_ne); (case k9 => first | exact PySem.IsPart.none | exact PySem.IsPart.int _ _); (case kB => first | exact cut_all _ _ | exact cut_from _ _ (by omega)); (case kC => k_upd); (case kD => first | omega | (simp; done) | (simp; omega)); (case kE => first | omega | (simp; done) | (simp; omega)); k_whole); intro h' F' N'))
  k_with "setAttr ref" => ((k_here; k_dflt (refine' set_dictL ?k1 ?k2 ?k3 ?k4 ?k5 ?k6 ?k7 ?k8 ?k9 ?kA ?kB ?kC ?kD ?kE ?_; (case k1 => k_asm); (case k2 => k_asm); (case k3 => k_asm); (case k4 => k_inst); (case k5 => exact rfl); (case k6 => k_is); (case k7 => k_is); (case k8 => rfl); (case k9 => k_is); (case kA => rfl); (case kB => first | k_get | exact rfl); (case kC => first | k_put | exact rfl); (case kD => k_upd); (case kE => exact Nat.le_of_ble_eq_true rfl); k_whole; intro h' F' N')))
  k_with "subscriptTail Name Slice ref ref" => ((k_here; (with_reducible show wpAny _ _ (subscriptTail _ (PySem.Expr.Slice _ _ none _) (Value.ref _) (Value.ref _)) _ _ _); k_dflt (refine' slice_sub ?k1 ?k2 ?k3 ?k4 ?k5 ?k6 ?k7 ?k8 ?k9 ?kA ?_ ?kB ?kC; (case k1 => k_asm); (case k2 => k_asm); (case k3 => k_asm); (case k4 => k_inst); (case k5 => k_is); (case k6 => k_is); (case k7 => k_is); (case k8 => first | exact PySem.IsPart.none | exact PySem.IsPart.int _ _); (case k9 => first | exact PySem.IsPart.none | exact PySem.IsPart.int _ _); (case kA => exact pick_from _ _ (by omega)); (case kB => with_unfolding_all rfl); (case kC => omega); k_whole); intro D' h' F' N' l1; (try k_lt l1)))
  k_with "wpAt" => ((ks_step "attributeBase Call"; k_here; k_dflt (refine node_sup (by k_asm) (by k_asm) (by k_asm) (by k_asm) (by k_is) (by rfl) (by rfl) (by k_inst) (by k_is) (by rfl) (by first | rfl | decide +kernel) (by k_is) (by k_is) (by k_is) (by k_is) (by decide) (by rfl) (by rfl) (by rfl) (by rfl) (by decide +kernel) (by first | boot_by_name | rfl | kernel_rfl) ?_; intro so' h' F' N' l1; (try k_lt l1))))
  k_with "call ref" => ((k_here; (with_reducible show wpAny _ _ (call (Value.ref 175) _) _ _ _); (refine' pureH_callK (pc_spec _ _ _ _ _ _ _ _ _ _ ?hz ?hkk) ?kB ?kF ?kX ?kT ?kN ?kA ?kf ?kk ?kd ?ku ?kp ?_; (case kA => exact rfl); (case kf => exact rfl); (case kk => exact rfl); (case kp => exact ⟨(by first | exact News.get (by k_asm) (by k_mem) | exact Fr.keep (by k_asm) _ _ (by assumption)), (by first | exact News.get (by k_asm) (by k_mem) | exact Fr.keep (by k_asm) _ _ (by assumption))⟩); (case hkk => first | (simp only [List.length_append, List.length_cons, List.length_nil, Nat.zero_add, Nat.reduceAdd]; rfl) | rfl); (case hz => first | omega | (simp; omega) | simp); (case kB => assumption); (case kF => k_asm); (case kX => k_asm); (case kT => k_asm); (case kN => k_asm); (case kd => ((try dsimp only [Ar, Around.deeper, Around.in1]); omega)); (case ku => ((try dsimp only [Ar, Around.deeper, Around.in1]); omega)); intro v' h' tk' hv' F' N' e'; obtain ⟨_, e9⟩ := hv'; subst e9)))
  exact trivial
end
theorem kw36 : True := by
  k_with_none
  k_with "getMethod ref" => ((k_here; k_dflt (refine' method_bi ?k1 ?k2 ?k3 ?k4 ?k5 ?k6 ?k7 ?_; (case k1 => k_in); (case k2 => k_inst); (case k3 => k_is); (case k4 => k_is); (case k5 => k_is); (case k6 => exact T_append); (case k7 => first | assumption | rfl); k_whole)))
  k_with "getMethod ref" => ((k_here; k_dflt (refine' method_fnL ?k1 ?k2 ?k3 ?k4 ?k5 ?k6 ?k7 ?_; (case k1 => k_in); (case k2 => k_inst); (case k3 => k_is); (case k4 => k_is); (case k5 => k_is); (case k6 => k_is); (case k7 => first | assumption | rfl); k_whole)))
  k_with "getMethod ref" => ((k_here; k_dflt (refine' super_methK ?k1 ?k2 ?k3 ?k4 ?k5 ?k6 ?k7 ?k8 ?k9 ?kA ?kB ?kC ?_; (case k1 => k_asm); (case k2 => k_asm); (case k3 => k_asm); (case k4 => k_mem); (case k5 => k_inst); (case k6 => k_is); (case k7 => ks_is); (case k8 => k_is); (case kB => first | exact binds_pop | exact binds_len | exact binds_init); (case k9 => kernel_rfl); (case kA => first | exact slot_md_get.lookup | exact slot_wd_get.lookup); (case kC => decide); intro q' h' F' N' l1; (try k_lt l1))))
  k_with "callWith ref" => ((k_here; k_dflt (refine' callWith_B0 ?k1 ?k2 ?k3 ?_; (case k1 => exact (News.get (by k_asm) (by k_mem))); (case k2 => rfl); (case k3 => rfl); k_whole)))
  k_with "call ref" => ((k_here; k_dflt (refine' len_B ?k1 ?k2 ?k3 ?_; (case k1 => exact (News.get (by k_asm) (by k_mem))); (case k2 => first | exact (News.get (by k_asm) (by k_mem)) | exact Fr.keep (by k_asm) _ _ (by assumption)); (case k3 => omega); k_whole); intro _))
  k_with "call ref" => ((k_here; k_dflt (refine' pop_B ?k1 ?k2 ?k3 ?k4 ?k5 ?k6 ?k7 ?k8 ?k9 ?kA ?kB ?_; (case k1 => k_asm); (case k2 => k_asm); (case k3 => k_in); (case k4 => k_inst); (case k5 => exact (News.get (by k_asm) (by k_mem))); (case k6 => k_is); (case k7 => decide +kernel); (case k8 => k_is); (case k9 => k_is); (case kA => omega); (case kB => k_upd); k_whole); intro h' F' N'))
  k_with "call builtin:list.append" => ((k_here; k_dflt (refine' append_sub ?k1 ?k2 ?k3 ?k4 ?k5 ?k6 ?k7 ?_; (case k1 => k_asm); (case k2 => k_asm); (case k3 => k_asm); (case k4 => k_inst); (case k5 => k_is); (case k6 => k_upd); (case k7 => omega); k_whole; intro h' F' N')))
  k_with "wpAt" => ((dsimp only; walk_at "wpAt"))
  k_with "wpAt" => ((ks_step "eval Call"; (with_unfolding_all refine ks_wpAt_MethodCall (pl := (do return (← importBound _ _).getD true)) ?_)))
  k_with "setItem ref ref" => ((k_here; k_dflt (refine' setSlice_sub ?k1 ?k2 ?k3 ?k4 ?k5 ?k6 ?k7 ?k8 ?k9 ?kA ?kB ?kC ?kD ?kE ?_; (case k1 => k_asm); (case k2 => k_asm); (case k3 => k_asm); (case k4 => k_inst); (case k5 => k_is); (case k6 => k_is); (case k7 => k_is); (case kA => first | exact News.get (by k_asm) (by k_mem) | exact Fr.keep (by k_asm) _ _ (by assumption)); (case k8 => first | omega | k_ne); (case k9 => first | exact PySem.IsPart.none | exact PySem.IsPart.int _ _); (case kB => first | exact cut_all _ _ | exact cut_from _ _ (by omega)); (case kC => k_upd); (case kD => first | omega | (simp; done) | (simp; omega)); (case kE => first | omega | (simp; done) | (simp; omega)); k_whole); intro h' F' N'))
  k_with "setAttr ref" => ((k_here; k_dflt (refine' set_dictL ?k1 ?k2 ?k3 ?k4 ?k5 ?k6 ?k7 ?k8 ?k9 ?kA ?kB ?kC ?kD ?kE ?_; (case k1 => k_asm); (case k2 => k_asm); (case k3 => k_asm); (case k4 => k_inst); (case k5 => exact rfl); (case k6 => k_is); (case k7 => k_is); (case k8 => rfl); (case k9 => k_is); (case kA => rfl); (case kB => first | k_get | exact rfl); (case kC => first | k_put | exact rfl); (case kD => k_upd); (case kE => exact Nat.le_of_ble_eq_true rfl); k_whole; intro h' F' N')))
  k_with "subscriptTail Name Slice ref ref" => ((k_here; (with_reducible show wpAny _ _ (subscriptTail _ (PySem.Expr.Slice _ _ none _) (Value.ref _) (Value.ref _)) _ _ _); k_dflt (refine' slice_sub ?k1 ?k2 ?k3 ?k4 ?k5 ?k6 ?k7 ?k8 ?k9 ?kA ?_ ?kB ?kC; (case k1 => k_asm); (case k2 => k_asm); (case k3 => k_asm); (case k4 => k_inst); (case k5 => k_is); (case k6 => k_is); (case k7 => k_is); (case k8 => first | exact PySem.IsPart.none | exact PySem.IsPart.int _ _); (case k9 => first | exact PySem.IsPart.none | exact PySem.IsPart.int _ _); (case kA => exact pick_from _ _ (by omega)); (case kB => with_unfolding_all rfl); (case kC => omega); k_whole); intro D' h' F' N' l1; (try k_lt l1)))
  k_with "wpAt" => ((ks_step "attributeBase Call"; k_here; k_dflt (refine node_sup (by k_asm) (by k_asm) (by k_asm) (by k_asm) (by k_is) (by rfl) (by rfl) (by k_inst) (by k_is) (by rfl) (by first | rfl | decide +kernel) (by k_is) (by k_is) (by k_is) (by k_is) (by decide) (by rfl) (by rfl) (by rfl) (by rfl) (by decide +kernel) (by first | boot_by_name | rfl | kernel_rfl) ?_; intro so' h' F' N' l1; (try k_lt l1))))
  exact trivial
end
theorem kw37 : True := by
  k_with_none
  exact trivial
section
noncomputable def recOf : Stmt → DefRec
  | .FunctionDef n a b _ _ _ sc _ _ p => ⟨n, a, b, sc, p⟩
  | _ => ⟨"", default, [], default, ⟨0, 0, 0, 0⟩⟩
theorem defV : defOf qv PySem.Challenge.rw_xn0030_01.row.name = some (recOf (top 21), []) := by kernel_rfl
theorem thV : PySem.Challenge.rw_xn0030_01.row.prog.theDef PySem.Challenge.rw_xn0030_01.row.name = some ((recOf (top 21)).params, (recOf (top 21)).body, (recOf (top 21)).scope) := by kernel_rfl
theorem kwV : kwWritten? (recOf (top 21)).params.kwonlyargs (recOf (top 21)).params.kw_defaults = some [] := by kernel_rfl
theorem okV : (chainsOk qv && opensWell PySem.Challenge.rw_xn0030_01.row.prog && (frees PySem.Challenge.rw_xn0030_01.row.toRowW && PySem.Challenge.rw_xn0030_01.row.toRowW.within.isEmpty)) = true := by kernel_rfl
theorem bareV : PySem.Challenge.rw_xn0030_01.row.prog.bare := ⟨rfl, rfl, rfl, rfl, rfl, by decide +kernel⟩
theorem wrV : (!PySem.Challenge.rw_xn0030_01.row.writes || (RowW.records PySem.Challenge.rw_xn0030_01.row.toRowW).isEmpty) = true := by kernel_rfl
theorem law_call : WalkO qv looseV (XL qv []) (Hook.says hookV) PySem.Challenge.rw_xn0030_01.row.toRowW (recOf (top 21)) [] fun f vs => PySem.call f vs := by
  intro w s₀ s₁ mg mb G Y fa o pm cd doc dV kV ho hd hcd hD hmg hg args vals as hpre hlay hrd hwl hlo
  have KG : (Kg w.params).In s₁.heap := kIn_of Y
  have KX : (Kf w.params).In s₁.heap := kf_of_kg KG
  refine Ground.open G ?_
  intro T B D TE TW
  wrow_args hpre hlay hrd hwl hlo
  rename IntsAre _ _ => hI
  rename Heap.IsList _ _ _ => hL
  rename (¬ ((63 : Nat) : Int) < _) => hc
  have hn : (recOf (top 21)).name = Str.ofString "law" := by kernel_rfl
  have hfa : fa = 312 := by
    have e0 : nsIn (Kf w.params) mainGlobals (Str.ofString "law") = some (some (.ref 312)) := by kernel_rfl
    have e : mg (Str.ofString "law") = some (.ref 312) := mg_of KX T.g e0
    rw [hn, e] at hmg
    exact (Value.ref.inj (Option.some.inj hmg)).symm
  subst hfa
  have k140 : s₁.heap.get? 140 = some (tabO #[]) := KG 140 (o140 w.params) (by kernel_rfl)
  have k147 : s₁.heap.get? 147 = some (tabO #[]) := KG 147 (o147 w.params) (by kernel_rfl)
  have nm : ∀ (b : Addr) (o : Obj), s₁.heap.get? b = some o → o.cls ≠ .none → b ∉ [140, 147] := by
    intro b o e hne hm
    rcases List.mem_cons.mp hm with rfl | hm
    · rw [k140] at e; cases e; exact hne rfl
    · rcases List.mem_singleton.mp hm with rfl
      rw [k147] at e; cases e; exact hne rfl
  have hold : ∀ (h' : Heap) (ps1 ps2 : Array Value), (∀ b o, (hideAll s₁.heap [140, 147]).get? b = some o → h'.get? b = some o) → h'.get? 140 = some (tabO ps1) → h'.get? 147 = some (tabO ps2) → OldK s₁.heap h' := by
    intro h' ps1 ps2 hk e1 e2
    have c1 : isCodeTable s₁.heap 140 := ⟨144, o144 w.params, _, KX 144 _ (by kernel_rfl), rfl, rfl, rfl⟩
    have c2 : isCodeTable s₁.heap 147 := ⟨151, o151 w.params, _, KX 151 _ (by kernel_rfl), rfl, rfl, rfl⟩
    have hb : ∀ b o, s₁.heap.get? b = some o → asItWas s₁.heap h' b o ∧ ∃ o', h'.get? b = some o' := by
      intro b o e
      by_cases b1 : b = 140
      · subst b1
        rw [k140] at e; cases e
        exact ⟨.inr (.inl ⟨c1, rfl, #[], ps1, rfl, by rw [e1]; simp⟩), _, e1⟩
      · by_cases b2 : b = 147
        · subst b2
          rw [k147] at e; cases e
          exact ⟨.inr (.inl ⟨c2, rfl, #[], ps2, rfl, by rw [e2]; simp⟩), _, e2⟩
        · have z := hk b o (hideAll_get _ e (by simp [b1, b2]))
          exact ⟨.inl z, _, z⟩
    exact ⟨fun b o e => (hb b o e).1, fun b o e => (hb b o e).2⟩
  show wpAny _ _ (call (.ref 312) [.ref _]) _ _ _
  refine law312 w qv (looseW qv looseV) _ _ _ hI (by omega) (1 + claimMargin) 4 (some []) [] (hideAll s₁.heap [140, 147]) (hideAll s₁.heap [140, 147]) (fun _ => none) mg mb s₁ _ _ (by decide) (by decide) (below_caller _) ?hX ?hT ?hLed ?hpre ?hBM (by rw [hg]; exact AllBare.empty) ?hret
  case hX =>
    intro a o e
    refine hideAll_get _ (KX a o e) ?_
    have h1 : (Kf w.params).lookup 140 = none := by kernel_rfl
    have h2 : (Kf w.params).lookup 147 = none := by kernel_rfl
    intro hm
    rcases List.mem_cons.mp hm with rfl | hm
    · rw [h1] at e; cases e
    · rcases List.mem_singleton.mp hm with rfl
      rw [h2] at e; cases e
  case hT =>
    have T' := topRead_of T
    refine ⟨T'.g.at' fun o e => hideAll_get _ e (by decide), T'.b.at' fun o e => hideAll_get _ e (by decide), ?_, T'.builtins, T'.free⟩
    obtain ⟨mc, h1, h2⟩ := T'.nolimit
    exact ⟨mc, h1.at' fun o e => hideAll_get _ e (by decide), h2⟩
  case hLed =>
    refine ⟨fun b o e => of_hideAll _ e, Nat.le_of_eq (hideAll_size _ _), fun p hp => ?_⟩
    rcases List.mem_cons.mp hp with rfl | hp
    · exact ⟨k140, hideAll_none _ (by decide)⟩
    · rcases List.mem_singleton.mp hp with rfl
      exact ⟨k147, hideAll_none _ (by decide)⟩
  case hpre =>
    obtain ⟨o, e, hc', r⟩ := hL
    exact ⟨o, hideAll_get _ e (nm _ o e (by rw [hc']; simp)), hc', r⟩
  case hBM =>
    obtain ⟨bm, ob, e1, e2, e3, e4, r⟩ := T.bmain
    exact ⟨bm, ob, e1, e2, hideAll_get _ e3 (nm _ ob e3 (by rw [e4]; simp)), e4, r⟩
  case hret =>
    intro v led' h' gs' tk' hv hl hb
    obtain ⟨rfl, ps1, ps2, m1, m2⟩ := hv
    refine ⟨.inl ⟨.bool true, .bool true, [], rfl, fun _ => rfl, .bool _, ?_, ?_⟩, hold h' ps1 ps2 hl.keep (hl.at_ _ m1).1 (hl.at_ _ m2).1, rfl, hb⟩
    · first | rfl | kernel_rfl
    · exact fun _ => ⟨List.nodup_nil, fun _ h => nomatch h⟩
theorem wsV : OpenLaw.wellSaid PySem.Challenge.rw_xn0030_01 = true := by kernel_rfl
theorem foo : PySem.Challenge.rw_xn0030_01.Holds := by
  w_on
  refine holds_law wsV fun said => ?_
  refine holds_open (d := recOf (top 21)) (kwd := []) (XP := XL qv []) (YP := Hook.says hookV) left (Hook.of hookV) (Hook.keeps hookV) (fun s e => xl_of s (Bool.and_eq_true_iff.mp e).1) XL.keeps defV thV kwV (fun s e => recFacts_of (Bool.and_eq_true_iff.mp e).2) wrV (by assumption) okV bareV ?hw law_call
  (case hw => w_witness2)
end
end Mine
end
theorem PySem.Challenge.cw_xn0030_01_holds : PySem.Challenge.rw_xn0030_01.Holds :=
  Mine.foo
