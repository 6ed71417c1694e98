import PyProof.Rows.All
import Wide.All
import OpenK.AllK
import Wide.FinOn
import PySem.Challenge.RW_aj5027_01
set_option Elab.async false
namespace Mine
noncomputable section
set_option linter.unusedVariables false
/-- a wall for the walk: what stands behind it is met by hand -/
structure Stop (p : Prop) : Prop where
  out : p
theorem stop_of {p : Prop} (h : Stop p) : p := h.out
end
end Mine
namespace Mine
noncomputable section
open PySem PySem.W PySem.Calls PyProof.Rows
set_option maxRecDepth 100000
set_option maxHeartbeats 0
set_option linter.unusedVariables false

def fS (i : Nat) : Stmt := (PySem.Challenge.pw_aj5027_01.main.body[i]?).getD (.Pass ⟨0, 0, 0, 0⟩)
def cS (i j : Nat) : Stmt := match fS i with | .ClassDef _ _ _ b _ _ _ _ _ _ _ => (b[j]?).getD (.Pass ⟨0, 0, 0, 0⟩) | s => s
def fName : Stmt → Str | .FunctionDef n _ _ _ _ _ _ _ _ _ => n | _ => default
def fArgs : Stmt → Arguments | .FunctionDef _ a _ _ _ _ _ _ _ _ => a | _ => ⟨[], [], none, [], [], none, []⟩
def fBody : Stmt → List Stmt | .FunctionDef _ _ b _ _ _ _ _ _ _ => b | _ => []
def fScope : Stmt → Scope | .FunctionDef _ _ _ _ _ _ sc _ _ _ => sc | _ => default
def docF (s : Stmt) : Str := match docOf (fBody s) with | some x => x | none => default
def docC : Stmt → Str | .ClassDef _ _ _ b _ _ _ _ _ _ _ => (match docOf b with | some x => x | none => default) | _ => default
def xorL (k : Nat) : Nat → Nat → List UInt8
  | _, 0 => []
  | i, n + 1 => Nat.toUInt8 (i ^^^ k) :: xorL k (i + 1) n
def xorTab (k n : Nat) : Array UInt8 := ⟨xorL k 0 n⟩
abbrev ent (P : Params) (x : Str) (t : Nat) (v : Value) : DictEntry := ⟨PyData.keyHash P x, .str x t, v⟩
abbrev fdOf (st : Stmt) (qual : Str) (globals : Addr) (closure : List (Str × Addr)) (defaults kwdefaults doc pyModule : Value) (annotations : Option Addr) (code closureTuple : Value) (builtins : Addr) : FuncData :=
  { name := fName st, qualname := qual, params := fArgs st, body := .stmts (fBody st), scope := fScope st, globals, closure, defaults, kwdefaults, doc, pyModule, annotations, code, closureTuple, builtins }
abbrev o0 (P : Params) : Obj := boot_o_0 P
abbrev o1 (P : Params) : Obj := boot_o_1 P
abbrev o2 (P : Params) : Obj := boot_o_2 P
abbrev o3 (P : Params) : Obj := ⟨(.type "dict"), none, (.dict #[ent P ("__name__" : Str) 165 (.str ("law_aj5027_01" : Str) 2694), ent P ("__doc__" : Str) 166 .none, ent P ("__package__" : Str) 167 .none, ent P ("__loader__" : Str) 168 (.builtin "__main__.__loader__#opaque"), ent P ("__spec__" : Str) 169 .none, ent P ("__annotations__" : Str) 170 (.ref 6), ent P ("__builtins__" : Str) 171 (.ref 4), ent P ("__file__" : Str) 173 (.str ("/claim/cut.py" : Str) 172), ent P ("__cached__" : Str) 174 .none, ent P ("_wall" : Str) 193 (.ref 21), ent P ("ExpectedTypeError" : Str) 205 (.ref 28), ent P ("ExpectedStringError" : Str) 214 (.ref 35), ent P ("unicode" : Str) 215 (.type "str"), ent P ("join_byte_values" : Str) 216 (.type "bytes"), ent P ("join_byte_elems" : Str) 217 (.type "bytes"), ent P ("irange" : Str) 218 (.type "range"), ent P ("SequenceMixin" : Str) 295 (.ref 94), ent P ("is_same_codec" : Str) 304 (.ref 105), ent P ("to_bytes" : Str) 317 (.ref 113), ent P ("lookup_hash" : Str) 329 (.ref 121), ent P ("HashInfo" : Str) 388 (.ref 154), ent P ("_TRANS_5C" : Str) 1425 (.bytes (xorTab 92 256) 1424), ent P ("_TRANS_36" : Str) 2462 (.bytes (xorTab 54 256) 2461), ent P ("compile_hmac" : Str) 2480 (.ref 188), ent P ("_tuplegetter" : Str) 2539 (.ref 227), ent P ("Handed" : Str) 2693 (.ref 308), ent P ("_law_cell" : Str) 2703 (.ref 318), ent P ("_law_sum" : Str) 2712 (.ref 325), ent P ("_law_maker" : Str) 2723 (.ref 332), ent P ("_law_sizes" : Str) 2730 (.ref 339), ent P ("_law_code" : Str) 2736 (.ref 344), ent P ("law" : Str) 2742 (.ref 349)] 32), #[]⟩
abbrev o4 (P : Params) : Obj := boot_o_4 P
abbrev o5 (P : Params) : Obj := boot_o_5 P
abbrev o6 (P : Params) : Obj := boot_o_6 P
abbrev o7 (P : Params) : Obj := boot_o_7 P
abbrev o8 (P : Params) : Obj := boot_o_8 P
abbrev o9 (P : Params) : Obj := boot_o_9 P
abbrev o10 (P : Params) : Obj := boot_o_10 P
abbrev o11 (P : Params) : Obj := ⟨(.type "tuple"), none, (.seq #[] 0), #[]⟩
abbrev o12 (P : Params) : Obj := ⟨.none, none, (.fields #[(.int 1 0), (.int 0 0), (.ref 20), (.int 5 0), (.int 0 0), (.ref 27), (.int 8 0), (.int 0 0), (.ref 34), (.int 15 0), (.int 0 0), (.ref 41), (.int 41 0), (.int 0 0), (.ref 104), (.int 47 0), (.int 0 0), (.ref 112), (.int 84 0), (.int 0 0), (.ref 120), (.int 124 0), (.int 0 0), (.ref 127), (.int 174 0), (.int 29 0), (.ref 161), (.int 175 0), (.int 29 0), (.ref 173), (.int 176 0), (.int 0 0), (.ref 187), (.int 241 0), (.int 0 0), (.ref 194), (.int 259 0), (.int 0 0), (.ref 238), (.int 305 0), (.int 0 0), (.ref 317), (.int 307 0), (.int 0 0), (.ref 324), (.int 310 0), (.int 0 0), (.ref 331), (.int 325 0), (.int 0 0), (.ref 338), (.int 327 0), (.int 0 0), (.ref 343), (.int 333 0), (.int 0 0), (.ref 348)]), #[]⟩
abbrev o13 (P : Params) : Obj := ⟨(.type "code"), none, (.fields #[(.str ("<module>" : Str) 182), (.str ("<module>" : Str) 183), (.str ("/claim/cut.py" : Str) 184), (.int 1 0), (.int 0 0), (.int 0 0), (.int 0 0), (.int 0 0), (.ref 11), (.bool false), (.int 181 0), (.ref 12), .none, .none, .none, .none, (.int 185 0), (.int 1 0), (.str ("/claim/cut.py" : Str) 186)]), #[]⟩
abbrev o14 (P : Params) : Obj := ⟨(.type "frame"), none, .plain, #[(some (.ref 13)), (some (.ref 3)), (some (.ref 3)), none, (some (.str ("__main__" : Str) 164)), none, (some (.ref 0))]⟩
abbrev o15 (P : Params) : Obj := ⟨(.type "tuple"), none, (.seq #[] 0), #[]⟩
abbrev o16 (P : Params) : Obj := ⟨.none, none, (.fields #[]), #[]⟩
abbrev o17 (P : Params) : Obj := ⟨(.type "tuple"), none, (.seq #[(.str ("k" : Str) 190)] 0), #[]⟩
abbrev o18 (P : Params) : Obj := ⟨(.type "tuple"), none, (.seq #[] 0), #[]⟩
abbrev o19 (P : Params) : Obj := ⟨.none, none, (.func (fdOf (fS 0) ("_wall" : Str) 0 [] .none .none .none .none none .none .none 0)), #[]⟩
abbrev o20 (P : Params) : Obj := ⟨(.type "code"), none, (.fields #[(.str ("_wall" : Str) 187), (.str ("_wall" : Str) 188), (.str ("/claim/cut.py" : Str) 189), (.int 1 0), (.int 1 0), (.int 0 0), (.int 0 0), (.int 3 0), (.ref 15), (.bool true), (.int 181 0), (.ref 16), .none, (.ref 17), (.ref 18), (.ref 19), (.int 191 0), (.int 1 0), (.str ("/claim/cut.py" : Str) 192)]), #[]⟩
abbrev o21 (P : Params) : Obj := ⟨(.type "function"), none, (.func (fdOf (fS 0) ("_wall" : Str) 3 [] .none .none .none (.str ("__main__" : Str) 164) none (.ref 20) .none 0)), #[]⟩
abbrev o22 (P : Params) : Obj := ⟨(.type "tuple"), none, (.seq #[] 0), #[]⟩
abbrev o23 (P : Params) : Obj := ⟨.none, none, (.fields #[]), #[]⟩
abbrev o24 (P : Params) : Obj := ⟨(.type "tuple"), none, (.seq #[(.str ("value" : Str) 199), (.str ("expected" : Str) 200), (.str ("param" : Str) 201)] 0), #[]⟩
abbrev o25 (P : Params) : Obj := ⟨(.type "tuple"), none, (.seq #[] 0), #[]⟩
abbrev o26 (P : Params) : Obj := ⟨.none, none, (.func (fdOf (fS 2) ("ExpectedTypeError" : Str) 0 [] .none .none .none .none none .none .none 0)), #[]⟩
abbrev o27 (P : Params) : Obj := ⟨(.type "code"), none, (.fields #[(.str ("ExpectedTypeError" : Str) 196), (.str ("ExpectedTypeError" : Str) 197), (.str ("/claim/cut.py" : Str) 198), (.int 5 0), (.int 3 0), (.int 0 0), (.int 0 0), (.int 3 0), (.ref 22), (.bool true), (.int 181 0), (.ref 23), .none, (.ref 24), (.ref 25), (.ref 26), (.int 202 0), (.int 5 0), (.str ("/claim/cut.py" : Str) 203)]), #[]⟩
abbrev o28 (P : Params) : Obj := ⟨(.type "function"), none, (.func (fdOf (fS 2) ("ExpectedTypeError" : Str) 3 [] .none .none (.str (docF (fS 2)) 204) (.str ("passlib.exc" : Str) 194) none (.ref 27) .none 0)), #[]⟩
abbrev o29 (P : Params) : Obj := ⟨(.type "tuple"), none, (.seq #[] 0), #[]⟩
abbrev o30 (P : Params) : Obj := ⟨.none, none, (.fields #[]), #[]⟩
abbrev o31 (P : Params) : Obj := ⟨(.type "tuple"), none, (.seq #[(.str ("value" : Str) 209), (.str ("param" : Str) 210)] 0), #[]⟩
abbrev o32 (P : Params) : Obj := ⟨(.type "tuple"), none, (.seq #[] 0), #[]⟩
abbrev o33 (P : Params) : Obj := ⟨.none, none, (.func (fdOf (fS 3) ("ExpectedStringError" : Str) 0 [] .none .none .none .none none .none .none 0)), #[]⟩
abbrev o34 (P : Params) : Obj := ⟨(.type "code"), none, (.fields #[(.str ("ExpectedStringError" : Str) 206), (.str ("ExpectedStringError" : Str) 207), (.str ("/claim/cut.py" : Str) 208), (.int 8 0), (.int 2 0), (.int 0 0), (.int 0 0), (.int 3 0), (.ref 29), (.bool true), (.int 181 0), (.ref 30), .none, (.ref 31), (.ref 32), (.ref 33), (.int 211 0), (.int 8 0), (.str ("/claim/cut.py" : Str) 212)]), #[]⟩
abbrev o35 (P : Params) : Obj := ⟨(.type "function"), none, (.func (fdOf (fS 3) ("ExpectedStringError" : Str) 3 [] .none .none (.str (docF (fS 3)) 213) (.str ("passlib.exc" : Str) 194) none (.ref 34) .none 0)), #[]⟩
abbrev o36 (P : Params) : Obj := ⟨(.type "tuple"), none, (.seq #[(.type "object")] 0), #[]⟩
abbrev o37 (P : Params) : Obj := ⟨(.type "builtin_function_or_method"), none, (.fields #[(.builtin "type.__prepare__"), (.type "type")]), #[]⟩
abbrev o38 (P : Params) : Obj := ⟨(.type "dict"), none, (.dict #[ent P ("__module__" : Str) 228 (.str ("passlib.utils" : Str) 219), ent P ("__qualname__" : Str) 230 (.str ("SequenceMixin" : Str) 229), ent P ("__firstlineno__" : Str) 232 (.int 15 231), ent P ("__doc__" : Str) 234 (.str (docC (fS 8)) 233), ent P ("_as_tuple" : Str) 242 (.ref 49), ent P ("__repr__" : Str) 249 (.ref 56), ent P ("__getitem__" : Str) 257 (.ref 63), ent P ("__iter__" : Str) 264 (.ref 70), ent P ("__len__" : Str) 271 (.ref 77), ent P ("__eq__" : Str) 279 (.ref 84), ent P ("__ne__" : Str) 287 (.ref 91), ent P ("__static_attributes__" : Str) 288 (.ref 92)] 12), #[]⟩
abbrev o39 (P : Params) : Obj := ⟨(.type "tuple"), none, (.seq #[] 0), #[]⟩
abbrev o40 (P : Params) : Obj := ⟨.none, none, (.fields #[(.int 21 0), (.int 4 0), (.ref 48), (.int 24 0), (.int 4 0), (.ref 55), (.int 27 0), (.int 4 0), (.ref 62), (.int 30 0), (.int 4 0), (.ref 69), (.int 33 0), (.int 4 0), (.ref 76), (.int 36 0), (.int 4 0), (.ref 83), (.int 39 0), (.int 4 0), (.ref 90)]), #[]⟩
abbrev o41 (P : Params) : Obj := ⟨(.type "code"), none, (.fields #[(.str ("SequenceMixin" : Str) 223), (.str ("SequenceMixin" : Str) 224), (.str ("/claim/cut.py" : Str) 225), (.int 15 0), (.int 0 0), (.int 0 0), (.int 0 0), (.int 0 0), (.ref 39), (.bool false), (.int 181 0), (.ref 40), .none, .none, .none, .none, (.int 226 0), (.int 15 0), (.str ("/claim/cut.py" : Str) 227)]), #[]⟩
abbrev o42 (P : Params) : Obj := ⟨(.type "frame"), none, .plain, #[(some (.ref 41)), (some (.ref 3)), (some (.ref 38)), none, (some (.str ("passlib.utils" : Str) 219)), none, (some (.ref 0))]⟩
abbrev o43 (P : Params) : Obj := ⟨(.type "tuple"), none, (.seq #[] 0), #[]⟩
abbrev o44 (P : Params) : Obj := ⟨.none, none, (.fields #[]), #[]⟩
abbrev o45 (P : Params) : Obj := ⟨(.type "tuple"), none, (.seq #[(.str ("self" : Str) 239)] 0), #[]⟩
abbrev o46 (P : Params) : Obj := ⟨(.type "tuple"), none, (.seq #[] 0), #[]⟩
abbrev o47 (P : Params) : Obj := ⟨.none, none, (.func (fdOf (cS 8 1) ("SequenceMixin._as_tuple" : Str) 0 [] .none .none .none .none none .none .none 0)), #[]⟩
abbrev o48 (P : Params) : Obj := ⟨(.type "code"), none, (.fields #[(.str ("_as_tuple" : Str) 236), (.str ("SequenceMixin._as_tuple" : Str) 237), (.str ("/claim/cut.py" : Str) 238), (.int 21 0), (.int 1 0), (.int 0 0), (.int 0 0), (.int 3 0), (.ref 43), (.bool true), (.int 181 0), (.ref 44), .none, (.ref 45), (.ref 46), (.ref 47), (.int 240 0), (.int 21 0), (.str ("/claim/cut.py" : Str) 241)]), #[]⟩
abbrev o49 (P : Params) : Obj := ⟨(.type "function"), none, (.func (fdOf (cS 8 1) ("SequenceMixin._as_tuple" : Str) 3 [] .none .none .none (.str ("passlib.utils" : Str) 219) none (.ref 48) .none 0)), #[]⟩
abbrev o50 (P : Params) : Obj := ⟨(.type "tuple"), none, (.seq #[] 0), #[]⟩
abbrev o51 (P : Params) : Obj := ⟨.none, none, (.fields #[]), #[]⟩
abbrev o52 (P : Params) : Obj := ⟨(.type "tuple"), none, (.seq #[(.str ("self" : Str) 246)] 0), #[]⟩
abbrev o53 (P : Params) : Obj := ⟨(.type "tuple"), none, (.seq #[] 0), #[]⟩
abbrev o54 (P : Params) : Obj := ⟨.none, none, (.func (fdOf (cS 8 2) ("SequenceMixin.__repr__" : Str) 0 [] .none .none .none .none none .none .none 0)), #[]⟩
abbrev o55 (P : Params) : Obj := ⟨(.type "code"), none, (.fields #[(.str ("__repr__" : Str) 243), (.str ("SequenceMixin.__repr__" : Str) 244), (.str ("/claim/cut.py" : Str) 245), (.int 24 0), (.int 1 0), (.int 0 0), (.int 0 0), (.int 3 0), (.ref 50), (.bool true), (.int 181 0), (.ref 51), .none, (.ref 52), (.ref 53), (.ref 54), (.int 247 0), (.int 24 0), (.str ("/claim/cut.py" : Str) 248)]), #[]⟩
abbrev o56 (P : Params) : Obj := ⟨(.type "function"), none, (.func (fdOf (cS 8 2) ("SequenceMixin.__repr__" : Str) 3 [] .none .none .none (.str ("passlib.utils" : Str) 219) none (.ref 55) .none 0)), #[]⟩
abbrev o57 (P : Params) : Obj := ⟨(.type "tuple"), none, (.seq #[] 0), #[]⟩
abbrev o58 (P : Params) : Obj := ⟨.none, none, (.fields #[]), #[]⟩
abbrev o59 (P : Params) : Obj := ⟨(.type "tuple"), none, (.seq #[(.str ("self" : Str) 253), (.str ("idx" : Str) 254)] 0), #[]⟩
abbrev o60 (P : Params) : Obj := ⟨(.type "tuple"), none, (.seq #[] 0), #[]⟩
abbrev o61 (P : Params) : Obj := ⟨.none, none, (.func (fdOf (cS 8 3) ("SequenceMixin.__getitem__" : Str) 0 [] .none .none .none .none none .none .none 0)), #[]⟩
abbrev o62 (P : Params) : Obj := ⟨(.type "code"), none, (.fields #[(.str ("__getitem__" : Str) 250), (.str ("SequenceMixin.__getitem__" : Str) 251), (.str ("/claim/cut.py" : Str) 252), (.int 27 0), (.int 2 0), (.int 0 0), (.int 0 0), (.int 3 0), (.ref 57), (.bool true), (.int 181 0), (.ref 58), .none, (.ref 59), (.ref 60), (.ref 61), (.int 255 0), (.int 27 0), (.str ("/claim/cut.py" : Str) 256)]), #[]⟩
abbrev o63 (P : Params) : Obj := ⟨(.type "function"), none, (.func (fdOf (cS 8 3) ("SequenceMixin.__getitem__" : Str) 3 [] .none .none .none (.str ("passlib.utils" : Str) 219) none (.ref 62) .none 0)), #[]⟩
abbrev o64 (P : Params) : Obj := ⟨(.type "tuple"), none, (.seq #[] 0), #[]⟩
abbrev o65 (P : Params) : Obj := ⟨.none, none, (.fields #[]), #[]⟩
abbrev o66 (P : Params) : Obj := ⟨(.type "tuple"), none, (.seq #[(.str ("self" : Str) 261)] 0), #[]⟩
abbrev o67 (P : Params) : Obj := ⟨(.type "tuple"), none, (.seq #[] 0), #[]⟩
abbrev o68 (P : Params) : Obj := ⟨.none, none, (.func (fdOf (cS 8 4) ("SequenceMixin.__iter__" : Str) 0 [] .none .none .none .none none .none .none 0)), #[]⟩
abbrev o69 (P : Params) : Obj := ⟨(.type "code"), none, (.fields #[(.str ("__iter__" : Str) 258), (.str ("SequenceMixin.__iter__" : Str) 259), (.str ("/claim/cut.py" : Str) 260), (.int 30 0), (.int 1 0), (.int 0 0), (.int 0 0), (.int 3 0), (.ref 64), (.bool true), (.int 181 0), (.ref 65), .none, (.ref 66), (.ref 67), (.ref 68), (.int 262 0), (.int 30 0), (.str ("/claim/cut.py" : Str) 263)]), #[]⟩
abbrev o70 (P : Params) : Obj := ⟨(.type "function"), none, (.func (fdOf (cS 8 4) ("SequenceMixin.__iter__" : Str) 3 [] .none .none .none (.str ("passlib.utils" : Str) 219) none (.ref 69) .none 0)), #[]⟩
abbrev o71 (P : Params) : Obj := ⟨(.type "tuple"), none, (.seq #[] 0), #[]⟩
abbrev o72 (P : Params) : Obj := ⟨.none, none, (.fields #[]), #[]⟩
abbrev o73 (P : Params) : Obj := ⟨(.type "tuple"), none, (.seq #[(.str ("self" : Str) 268)] 0), #[]⟩
abbrev o74 (P : Params) : Obj := ⟨(.type "tuple"), none, (.seq #[] 0), #[]⟩
abbrev o75 (P : Params) : Obj := ⟨.none, none, (.func (fdOf (cS 8 5) ("SequenceMixin.__len__" : Str) 0 [] .none .none .none .none none .none .none 0)), #[]⟩
abbrev o76 (P : Params) : Obj := ⟨(.type "code"), none, (.fields #[(.str ("__len__" : Str) 265), (.str ("SequenceMixin.__len__" : Str) 266), (.str ("/claim/cut.py" : Str) 267), (.int 33 0), (.int 1 0), (.int 0 0), (.int 0 0), (.int 3 0), (.ref 71), (.bool true), (.int 181 0), (.ref 72), .none, (.ref 73), (.ref 74), (.ref 75), (.int 269 0), (.int 33 0), (.str ("/claim/cut.py" : Str) 270)]), #[]⟩
abbrev o77 (P : Params) : Obj := ⟨(.type "function"), none, (.func (fdOf (cS 8 5) ("SequenceMixin.__len__" : Str) 3 [] .none .none .none (.str ("passlib.utils" : Str) 219) none (.ref 76) .none 0)), #[]⟩
abbrev o78 (P : Params) : Obj := ⟨(.type "tuple"), none, (.seq #[] 0), #[]⟩
abbrev o79 (P : Params) : Obj := ⟨.none, none, (.fields #[]), #[]⟩
abbrev o80 (P : Params) : Obj := ⟨(.type "tuple"), none, (.seq #[(.str ("self" : Str) 275), (.str ("other" : Str) 276)] 0), #[]⟩
abbrev o81 (P : Params) : Obj := ⟨(.type "tuple"), none, (.seq #[] 0), #[]⟩
abbrev o82 (P : Params) : Obj := ⟨.none, none, (.func (fdOf (cS 8 6) ("SequenceMixin.__eq__" : Str) 0 [] .none .none .none .none none .none .none 0)), #[]⟩
abbrev o83 (P : Params) : Obj := ⟨(.type "code"), none, (.fields #[(.str ("__eq__" : Str) 272), (.str ("SequenceMixin.__eq__" : Str) 273), (.str ("/claim/cut.py" : Str) 274), (.int 36 0), (.int 2 0), (.int 0 0), (.int 0 0), (.int 3 0), (.ref 78), (.bool true), (.int 181 0), (.ref 79), .none, (.ref 80), (.ref 81), (.ref 82), (.int 277 0), (.int 36 0), (.str ("/claim/cut.py" : Str) 278)]), #[]⟩
abbrev o84 (P : Params) : Obj := ⟨(.type "function"), none, (.func (fdOf (cS 8 6) ("SequenceMixin.__eq__" : Str) 3 [] .none .none .none (.str ("passlib.utils" : Str) 219) none (.ref 83) .none 0)), #[]⟩
abbrev o85 (P : Params) : Obj := ⟨(.type "tuple"), none, (.seq #[] 0), #[]⟩
abbrev o86 (P : Params) : Obj := ⟨.none, none, (.fields #[]), #[]⟩
abbrev o87 (P : Params) : Obj := ⟨(.type "tuple"), none, (.seq #[(.str ("self" : Str) 283), (.str ("other" : Str) 284)] 0), #[]⟩
abbrev o88 (P : Params) : Obj := ⟨(.type "tuple"), none, (.seq #[] 0), #[]⟩
abbrev o89 (P : Params) : Obj := ⟨.none, none, (.func (fdOf (cS 8 7) ("SequenceMixin.__ne__" : Str) 0 [] .none .none .none .none none .none .none 0)), #[]⟩
abbrev o90 (P : Params) : Obj := ⟨(.type "code"), none, (.fields #[(.str ("__ne__" : Str) 280), (.str ("SequenceMixin.__ne__" : Str) 281), (.str ("/claim/cut.py" : Str) 282), (.int 39 0), (.int 2 0), (.int 0 0), (.int 0 0), (.int 3 0), (.ref 85), (.bool true), (.int 181 0), (.ref 86), .none, (.ref 87), (.ref 88), (.ref 89), (.int 285 0), (.int 39 0), (.str ("/claim/cut.py" : Str) 286)]), #[]⟩
abbrev o91 (P : Params) : Obj := ⟨(.type "function"), none, (.func (fdOf (cS 8 7) ("SequenceMixin.__ne__" : Str) 3 [] .none .none .none (.str ("passlib.utils" : Str) 219) none (.ref 90) .none 0)), #[]⟩
abbrev o92 (P : Params) : Obj := ⟨(.type "tuple"), none, (.seq #[] 0), #[]⟩
abbrev o93 (P : Params) : Obj := ⟨(.type "dict"), none, (.dict #[ent P ("__module__" : Str) 228 (.str ("passlib.utils" : Str) 219), ent P ("__firstlineno__" : Str) 232 (.int 15 231), ent P ("__doc__" : Str) 234 (.str (docC (fS 8)) 233), ent P ("_as_tuple" : Str) 242 (.ref 49), ent P ("__repr__" : Str) 249 (.ref 56), ent P ("__getitem__" : Str) 257 (.ref 63), ent P ("__iter__" : Str) 264 (.ref 70), ent P ("__len__" : Str) 271 (.ref 77), ent P ("__eq__" : Str) 279 (.ref 84), ent P ("__ne__" : Str) 287 (.ref 91), ent P ("__static_attributes__" : Str) 288 (.ref 92), ent P ("__dict__" : Str) 290 (.ref 95), ent P ("__weakref__" : Str) 292 (.ref 96), ent P ("__hash__" : Str) 293 .none] 4), #[]⟩
abbrev o94 (P : Params) : Obj := ⟨(.type "type"), none, (.cls { name := ("SequenceMixin" : Str), bases := [(.type "object")], mro := [(.ref 94), (.type "object")], ns := 93, qualname := ("SequenceMixin" : Str), hasDict := true, slotNames := [], subclasses := [(.ref 154)], abstract := false, collection := none, hasDel := false }), #[(some (.ref 36)), none, (some (.str ("SequenceMixin" : Str) 221)), (some (.str ("SequenceMixin" : Str) 229)), (some (.builtin "object.__new__")), (some (.bool true))]⟩
abbrev o95 (P : Params) : Obj := ⟨(.type "getset_descriptor"), none, (.fields #[(.str ("__dict__" : Str) 289), (.ref 94), (.builtin "function.__dict__"), (.builtin "function.__dict__#set")]), #[]⟩
abbrev o96 (P : Params) : Obj := ⟨(.type "getset_descriptor"), none, (.fields #[(.str ("__weakref__" : Str) 291), (.ref 94), (.builtin "ExceptionGroup.__weakref__"), .none]), #[]⟩
abbrev o97 (P : Params) : Obj := ⟨(.type "super"), none, (.fields #[(.ref 94), (.ref 94), (.ref 94)]), #[]⟩
abbrev o98 (P : Params) : Obj := ⟨(.type "builtin_function_or_method"), none, (.fields #[(.builtin "object.__init_subclass__"), (.ref 94)]), #[]⟩
abbrev o99 (P : Params) : Obj := ⟨(.type "tuple"), none, (.seq #[] 0), #[]⟩
abbrev o100 (P : Params) : Obj := ⟨.none, none, (.fields #[]), #[]⟩
abbrev o101 (P : Params) : Obj := ⟨(.type "tuple"), none, (.seq #[(.str ("left" : Str) 299), (.str ("right" : Str) 300)] 0), #[]⟩
abbrev o102 (P : Params) : Obj := ⟨(.type "tuple"), none, (.seq #[] 0), #[]⟩
abbrev o103 (P : Params) : Obj := ⟨.none, none, (.func (fdOf (fS 9) ("is_same_codec" : Str) 0 [] .none .none .none .none none .none .none 0)), #[]⟩
abbrev o104 (P : Params) : Obj := ⟨(.type "code"), none, (.fields #[(.str ("is_same_codec" : Str) 296), (.str ("is_same_codec" : Str) 297), (.str ("/claim/cut.py" : Str) 298), (.int 41 0), (.int 2 0), (.int 0 0), (.int 0 0), (.int 3 0), (.ref 99), (.bool true), (.int 181 0), (.ref 100), .none, (.ref 101), (.ref 102), (.ref 103), (.int 301 0), (.int 41 0), (.str ("/claim/cut.py" : Str) 302)]), #[]⟩
abbrev o105 (P : Params) : Obj := ⟨(.type "function"), none, (.func (fdOf (fS 9) ("is_same_codec" : Str) 3 [] .none .none (.str (docF (fS 9)) 303) (.str ("passlib.utils" : Str) 219) none (.ref 104) .none 0)), #[]⟩
abbrev o106 (P : Params) : Obj := ⟨(.type "tuple"), none, (.seq #[(.str ("utf-8" : Str) 305), (.str ("value" : Str) 306), .none] 0), #[]⟩
abbrev o107 (P : Params) : Obj := ⟨(.type "tuple"), none, (.seq #[] 0), #[]⟩
abbrev o108 (P : Params) : Obj := ⟨.none, none, (.fields #[]), #[]⟩
abbrev o109 (P : Params) : Obj := ⟨(.type "tuple"), none, (.seq #[(.str ("source" : Str) 310), (.str ("encoding" : Str) 311), (.str ("param" : Str) 312), (.str ("source_encoding" : Str) 313)] 0), #[]⟩
abbrev o110 (P : Params) : Obj := ⟨(.type "tuple"), none, (.seq #[] 0), #[]⟩
abbrev o111 (P : Params) : Obj := ⟨.none, none, (.func (fdOf (fS 10) ("to_bytes" : Str) 0 [] .none .none .none .none none .none .none 0)), #[]⟩
abbrev o112 (P : Params) : Obj := ⟨(.type "code"), none, (.fields #[(.str ("to_bytes" : Str) 307), (.str ("to_bytes" : Str) 308), (.str ("/claim/cut.py" : Str) 309), (.int 47 0), (.int 4 0), (.int 0 0), (.int 0 0), (.int 3 0), (.ref 107), (.bool true), (.int 181 0), (.ref 108), .none, (.ref 109), (.ref 110), (.ref 111), (.int 314 0), (.int 47 0), (.str ("/claim/cut.py" : Str) 315)]), #[]⟩
abbrev o113 (P : Params) : Obj := ⟨(.type "function"), none, (.func (fdOf (fS 10) ("to_bytes" : Str) 3 [] (.ref 106) .none (.str (docF (fS 10)) 316) (.str ("passlib.utils" : Str) 219) none (.ref 112) .none 0)), #[]⟩
abbrev o114 (P : Params) : Obj := ⟨(.type "tuple"), none, (.seq #[(.bool false), (.bool true)] 0), #[]⟩
abbrev o115 (P : Params) : Obj := ⟨(.type "tuple"), none, (.seq #[] 0), #[]⟩
abbrev o116 (P : Params) : Obj := ⟨.none, none, (.fields #[]), #[]⟩
abbrev o117 (P : Params) : Obj := ⟨(.type "tuple"), none, (.seq #[(.str ("digest" : Str) 323), (.str ("return_unknown" : Str) 324), (.str ("required" : Str) 325)] 0), #[]⟩
abbrev o118 (P : Params) : Obj := ⟨(.type "tuple"), none, (.seq #[] 0), #[]⟩
abbrev o119 (P : Params) : Obj := ⟨.none, none, (.func (fdOf (fS 12) ("lookup_hash" : Str) 0 [] .none .none .none .none none .none .none 0)), #[]⟩
abbrev o120 (P : Params) : Obj := ⟨(.type "code"), none, (.fields #[(.str ("lookup_hash" : Str) 320), (.str ("lookup_hash" : Str) 321), (.str ("/claim/cut.py" : Str) 322), (.int 84 0), (.int 3 0), (.int 0 0), (.int 0 0), (.int 3 0), (.ref 115), (.bool true), (.int 181 0), (.ref 116), .none, (.ref 117), (.ref 118), (.ref 119), (.int 326 0), (.int 84 0), (.str ("/claim/cut.py" : Str) 327)]), #[]⟩
abbrev o121 (P : Params) : Obj := ⟨(.type "function"), none, (.func (fdOf (fS 12) ("lookup_hash" : Str) 3 [] (.ref 114) .none (.str (docF (fS 12)) 328) (.str ("passlib.crypto.digest" : Str) 318) none (.ref 120) .none 0)), #[]⟩
abbrev o122 (P : Params) : Obj := ⟨(.type "tuple"), none, (.seq #[(.ref 94)] 0), #[]⟩
abbrev o123 (P : Params) : Obj := ⟨(.type "builtin_function_or_method"), none, (.fields #[(.builtin "type.__prepare__"), (.type "type")]), #[]⟩
abbrev o124 (P : Params) : Obj := ⟨(.type "dict"), none, (.dict #[ent P ("__module__" : Str) 337 (.str ("passlib.crypto.digest" : Str) 318), ent P ("__qualname__" : Str) 339 (.str ("HashInfo" : Str) 338), ent P ("__firstlineno__" : Str) 341 (.int 124 340), ent P ("__doc__" : Str) 343 (.str (docC (fS 13)) 342), ent P ("name" : Str) 345 .none, ent P ("iana_name" : Str) 346 .none, ent P ("aliases" : Str) 347 (.ref 129), ent P ("const" : Str) 348 .none, ent P ("digest_size" : Str) 349 .none, ent P ("block_size" : Str) 350 .none, ent P ("error_text" : Str) 351 .none, ent P ("unknown" : Str) 352 (.bool false), ent P ("__init__" : Str) 365 (.ref 137), ent P ("__repr__" : Str) 372 (.ref 144), ent P ("_as_tuple" : Str) 379 (.ref 151), ent P ("__static_attributes__" : Str) 386 (.ref 152)] 16), #[]⟩
abbrev o125 (P : Params) : Obj := ⟨(.type "tuple"), none, (.seq #[] 0), #[]⟩
abbrev o126 (P : Params) : Obj := ⟨.none, none, (.fields #[(.int 150 0), (.int 4 0), (.ref 136), (.int 169 0), (.int 4 0), (.ref 143), (.int 172 0), (.int 4 0), (.ref 150)]), #[]⟩
abbrev o127 (P : Params) : Obj := ⟨(.type "code"), none, (.fields #[(.str ("HashInfo" : Str) 332), (.str ("HashInfo" : Str) 333), (.str ("/claim/cut.py" : Str) 334), (.int 124 0), (.int 0 0), (.int 0 0), (.int 0 0), (.int 0 0), (.ref 125), (.bool false), (.int 181 0), (.ref 126), .none, .none, .none, .none, (.int 335 0), (.int 124 0), (.str ("/claim/cut.py" : Str) 336)]), #[]⟩
abbrev o128 (P : Params) : Obj := ⟨(.type "frame"), none, .plain, #[(some (.ref 127)), (some (.ref 3)), (some (.ref 124)), none, (some (.str ("passlib.crypto.digest" : Str) 318)), none, (some (.ref 0))]⟩
abbrev o129 (P : Params) : Obj := ⟨(.type "tuple"), none, (.seq #[] 0), #[]⟩
abbrev o130 (P : Params) : Obj := ⟨(.type "tuple"), none, (.seq #[(.bool true)] 0), #[]⟩
abbrev o131 (P : Params) : Obj := ⟨(.type "tuple"), none, (.seq #[] 0), #[]⟩
abbrev o132 (P : Params) : Obj := ⟨.none, none, (.fields #[]), #[]⟩
abbrev o133 (P : Params) : Obj := ⟨(.type "tuple"), none, (.seq #[(.str ("self" : Str) 356), (.str ("const" : Str) 357), (.str ("names" : Str) 358), (.str ("required" : Str) 359), (.str ("name" : Str) 360), (.str ("hash" : Str) 361)] 0), #[]⟩
abbrev o134 (P : Params) : Obj := ⟨(.type "tuple"), none, (.seq #[] 0), #[]⟩
abbrev o135 (P : Params) : Obj := ⟨.none, none, (.func (fdOf (cS 13 9) ("HashInfo.__init__" : Str) 0 [] .none .none .none .none none .none .none 0)), #[]⟩
abbrev o136 (P : Params) : Obj := ⟨(.type "code"), none, (.fields #[(.str ("__init__" : Str) 353), (.str ("HashInfo.__init__" : Str) 354), (.str ("/claim/cut.py" : Str) 355), (.int 150 0), (.int 4 0), (.int 0 0), (.int 0 0), (.int 3 0), (.ref 131), (.bool true), (.int 181 0), (.ref 132), .none, (.ref 133), (.ref 134), (.ref 135), (.int 362 0), (.int 150 0), (.str ("/claim/cut.py" : Str) 363)]), #[]⟩
abbrev o137 (P : Params) : Obj := ⟨(.type "function"), none, (.func (fdOf (cS 13 9) ("HashInfo.__init__" : Str) 3 [] (.ref 130) .none (.str (docF (cS 13 9)) 364) (.str ("passlib.crypto.digest" : Str) 318) none (.ref 136) .none 0)), #[]⟩
abbrev o138 (P : Params) : Obj := ⟨(.type "tuple"), none, (.seq #[] 0), #[]⟩
abbrev o139 (P : Params) : Obj := ⟨.none, none, (.fields #[]), #[]⟩
abbrev o140 (P : Params) : Obj := ⟨(.type "tuple"), none, (.seq #[(.str ("self" : Str) 369)] 0), #[]⟩
abbrev o141 (P : Params) : Obj := ⟨(.type "tuple"), none, (.seq #[] 0), #[]⟩
abbrev o142 (P : Params) : Obj := ⟨.none, none, (.func (fdOf (cS 13 10) ("HashInfo.__repr__" : Str) 0 [] .none .none .none .none none .none .none 0)), #[]⟩
abbrev o143 (P : Params) : Obj := ⟨(.type "code"), none, (.fields #[(.str ("__repr__" : Str) 366), (.str ("HashInfo.__repr__" : Str) 367), (.str ("/claim/cut.py" : Str) 368), (.int 169 0), (.int 1 0), (.int 0 0), (.int 0 0), (.int 3 0), (.ref 138), (.bool true), (.int 181 0), (.ref 139), .none, (.ref 140), (.ref 141), (.ref 142), (.int 370 0), (.int 169 0), (.str ("/claim/cut.py" : Str) 371)]), #[]⟩
abbrev o144 (P : Params) : Obj := ⟨(.type "function"), none, (.func (fdOf (cS 13 10) ("HashInfo.__repr__" : Str) 3 [] .none .none .none (.str ("passlib.crypto.digest" : Str) 318) none (.ref 143) .none 0)), #[]⟩
abbrev o145 (P : Params) : Obj := ⟨(.type "tuple"), none, (.seq #[] 0), #[]⟩
abbrev o146 (P : Params) : Obj := ⟨.none, none, (.fields #[]), #[]⟩
abbrev o147 (P : Params) : Obj := ⟨(.type "tuple"), none, (.seq #[(.str ("self" : Str) 376)] 0), #[]⟩
abbrev o148 (P : Params) : Obj := ⟨(.type "tuple"), none, (.seq #[] 0), #[]⟩
abbrev o149 (P : Params) : Obj := ⟨.none, none, (.func (fdOf (cS 13 11) ("HashInfo._as_tuple" : Str) 0 [] .none .none .none .none none .none .none 0)), #[]⟩
abbrev o150 (P : Params) : Obj := ⟨(.type "code"), none, (.fields #[(.str ("_as_tuple" : Str) 373), (.str ("HashInfo._as_tuple" : Str) 374), (.str ("/claim/cut.py" : Str) 375), (.int 172 0), (.int 1 0), (.int 0 0), (.int 0 0), (.int 3 0), (.ref 145), (.bool true), (.int 181 0), (.ref 146), .none, (.ref 147), (.ref 148), (.ref 149), (.int 377 0), (.int 172 0), (.str ("/claim/cut.py" : Str) 378)]), #[]⟩
abbrev o151 (P : Params) : Obj := ⟨(.type "function"), none, (.func (fdOf (cS 13 11) ("HashInfo._as_tuple" : Str) 3 [] .none .none .none (.str ("passlib.crypto.digest" : Str) 318) none (.ref 150) .none 0)), #[]⟩
abbrev o152 (P : Params) : Obj := ⟨(.type "tuple"), none, (.seq #[(.str ("aliases" : Str) 380), (.str ("block_size" : Str) 381), (.str ("const" : Str) 382), (.str ("digest_size" : Str) 383), (.str ("iana_name" : Str) 384), (.str ("name" : Str) 385)] 0), #[]⟩
abbrev o153 (P : Params) : Obj := ⟨(.type "dict"), none, (.dict #[ent P ("__module__" : Str) 337 (.str ("passlib.crypto.digest" : Str) 318), ent P ("__firstlineno__" : Str) 341 (.int 124 340), ent P ("__doc__" : Str) 343 (.str (docC (fS 13)) 342), ent P ("name" : Str) 345 .none, ent P ("iana_name" : Str) 346 .none, ent P ("aliases" : Str) 347 (.ref 129), ent P ("const" : Str) 348 .none, ent P ("digest_size" : Str) 349 .none, ent P ("block_size" : Str) 350 .none, ent P ("error_text" : Str) 351 .none, ent P ("unknown" : Str) 352 (.bool false), ent P ("__init__" : Str) 365 (.ref 137), ent P ("__repr__" : Str) 372 (.ref 144), ent P ("_as_tuple" : Str) 379 (.ref 151), ent P ("__static_attributes__" : Str) 386 (.ref 152)] 1), #[]⟩
abbrev o154 (P : Params) : Obj := ⟨(.type "type"), none, (.cls { name := ("HashInfo" : Str), bases := [(.ref 94)], mro := [(.ref 154), (.ref 94), (.type "object")], ns := 153, qualname := ("HashInfo" : Str), hasDict := true, slotNames := [], subclasses := [], abstract := false, collection := none, hasDel := false }), #[(some (.ref 122)), none, (some (.str ("HashInfo" : Str) 330)), (some (.str ("HashInfo" : Str) 338)), (some (.builtin "object.__new__")), (some (.bool true))]⟩
abbrev o155 (P : Params) : Obj := ⟨(.type "super"), none, (.fields #[(.ref 154), (.ref 154), (.ref 154)]), #[]⟩
abbrev o156 (P : Params) : Obj := ⟨(.type "builtin_function_or_method"), none, (.fields #[(.builtin "object.__init_subclass__"), (.ref 154)]), #[]⟩
abbrev o157 (P : Params) : Obj := ⟨(.type "range"), none, (.fields #[(.int 0 390), (.int 256 389), (.int 1 391)]), #[]⟩
abbrev o158 (P : Params) : Obj := ⟨(.type "range_iterator"), none, (.fields #[(.int 256 0), (.int 0 0), (.int 1 0)]), #[]⟩
abbrev o159 (P : Params) : Obj := ⟨(.type "tuple"), none, (.seq #[] 0), #[]⟩
abbrev o160 (P : Params) : Obj := ⟨.none, none, (.fields #[]), #[]⟩
abbrev o161 (P : Params) : Obj := ⟨(.type "code"), none, (.fields #[(.str ("<genexpr>" : Str) 392), (.str ("<genexpr>" : Str) 393), (.str ("/claim/cut.py" : Str) 394), (.int 174 0), (.int 1 0), (.int 0 0), (.int 0 0), (.int 35 0), (.ref 159), (.bool true), (.int 181 0), (.ref 160), .none, .none, .none, .none, (.int 395 0), (.int 174 0), (.str ("/claim/cut.py" : Str) 396)]), #[]⟩
abbrev o162 (P : Params) : Obj := ⟨(.type "frame"), none, (.dict #[ent P (".0" : Str) 397 (.ref 158), ent P ("x" : Str) 401 (.int 255 1420)] 2), #[]⟩
abbrev o163 (P : Params) : Obj := ⟨(.type "generator"), none, (.fields #[(.int 0 0), (.str ("<genexpr>" : Str) 398), (.str ("<genexpr>" : Str) 399)]), #[]⟩
abbrev o164 (P : Params) : Obj := ⟨(.type "bytearray"), none, (.bytearray (xorTab 92 256) 0), #[]⟩
abbrev o165 (P : Params) : Obj := ⟨(.type "tuple"), none, (.seq #[] 0), #[]⟩
abbrev o166 (P : Params) : Obj := ⟨(.type "StopIteration"), none, (.fields #[(.ref 165), .none, .none, .none, (.bool false), .none]), #[]⟩
abbrev o167 (P : Params) : Obj := ⟨(.type "tuple"), none, (.seq #[] 0), #[]⟩
abbrev o168 (P : Params) : Obj := ⟨(.type "StopIteration"), none, (.fields #[(.ref 167), .none, .none, .none, (.bool false), .none]), #[]⟩
abbrev o169 (P : Params) : Obj := ⟨(.type "range"), none, (.fields #[(.int 0 1427), (.int 256 1426), (.int 1 1428)]), #[]⟩
abbrev o170 (P : Params) : Obj := ⟨(.type "range_iterator"), none, (.fields #[(.int 256 0), (.int 0 0), (.int 1 0)]), #[]⟩
abbrev o171 (P : Params) : Obj := ⟨(.type "tuple"), none, (.seq #[] 0), #[]⟩
abbrev o172 (P : Params) : Obj := ⟨.none, none, (.fields #[]), #[]⟩
abbrev o173 (P : Params) : Obj := ⟨(.type "code"), none, (.fields #[(.str ("<genexpr>" : Str) 1429), (.str ("<genexpr>" : Str) 1430), (.str ("/claim/cut.py" : Str) 1431), (.int 175 0), (.int 1 0), (.int 0 0), (.int 0 0), (.int 35 0), (.ref 171), (.bool true), (.int 181 0), (.ref 172), .none, .none, .none, .none, (.int 1432 0), (.int 175 0), (.str ("/claim/cut.py" : Str) 1433)]), #[]⟩
abbrev o174 (P : Params) : Obj := ⟨(.type "frame"), none, (.dict #[ent P (".0" : Str) 1434 (.ref 170), ent P ("x" : Str) 1438 (.int 255 2457)] 2), #[]⟩
abbrev o175 (P : Params) : Obj := ⟨(.type "generator"), none, (.fields #[(.int 1 0), (.str ("<genexpr>" : Str) 1435), (.str ("<genexpr>" : Str) 1436)]), #[]⟩
abbrev o176 (P : Params) : Obj := ⟨(.type "bytearray"), none, (.bytearray (xorTab 54 256) 0), #[]⟩
abbrev o177 (P : Params) : Obj := ⟨(.type "tuple"), none, (.seq #[] 0), #[]⟩
abbrev o178 (P : Params) : Obj := ⟨(.type "StopIteration"), none, (.fields #[(.ref 177), .none, .none, .none, (.bool false), .none]), #[]⟩
abbrev o179 (P : Params) : Obj := ⟨(.type "tuple"), none, (.seq #[] 0), #[]⟩
abbrev o180 (P : Params) : Obj := ⟨(.type "StopIteration"), none, (.fields #[(.ref 179), .none, .none, .none, (.bool false), .none]), #[]⟩
abbrev o181 (P : Params) : Obj := ⟨(.type "tuple"), none, (.seq #[(.bool false)] 0), #[]⟩
abbrev o182 (P : Params) : Obj := ⟨(.type "tuple"), none, (.seq #[] 0), #[]⟩
abbrev o183 (P : Params) : Obj := ⟨.none, none, (.fields #[]), #[]⟩
abbrev o184 (P : Params) : Obj := ⟨(.type "tuple"), none, (.seq #[(.str ("digest" : Str) 2466), (.str ("key" : Str) 2467), (.str ("multipart" : Str) 2468), (.str ("digest_info" : Str) 2469), (.str ("const" : Str) 2470), (.str ("digest_size" : Str) 2471), (.str ("block_size" : Str) 2472), (.str ("klen" : Str) 2473), (.str ("hmac" : Str) 2474)] 0), #[]⟩
abbrev o185 (P : Params) : Obj := ⟨(.type "tuple"), none, (.seq #[(.str ("_inner_copy" : Str) 2475), (.str ("_outer_copy" : Str) 2476)] 0), #[]⟩
abbrev o186 (P : Params) : Obj := ⟨.none, none, (.func (fdOf (fS 16) ("compile_hmac" : Str) 0 [] .none .none .none .none none .none .none 0)), #[]⟩
abbrev o187 (P : Params) : Obj := ⟨(.type "code"), none, (.fields #[(.str ("compile_hmac" : Str) 2463), (.str ("compile_hmac" : Str) 2464), (.str ("/claim/cut.py" : Str) 2465), (.int 176 0), (.int 3 0), (.int 0 0), (.int 0 0), (.int 3 0), (.ref 182), (.bool true), (.int 181 0), (.ref 183), .none, (.ref 184), (.ref 185), (.ref 186), (.int 2477 0), (.int 176 0), (.str ("/claim/cut.py" : Str) 2478)]), #[]⟩
abbrev o188 (P : Params) : Obj := ⟨(.type "function"), none, (.func (fdOf (fS 16) ("compile_hmac" : Str) 3 [] (.ref 181) .none (.str (docF (fS 16)) 2479) (.str ("passlib.crypto.digest" : Str) 318) none (.ref 187) .none 0)), #[]⟩
abbrev o189 (P : Params) : Obj := ⟨(.type "tuple"), none, (.seq #[] 0), #[]⟩
abbrev o190 (P : Params) : Obj := ⟨(.type "builtin_function_or_method"), none, (.fields #[(.builtin "type.__prepare__"), (.type "type")]), #[]⟩
abbrev o191 (P : Params) : Obj := ⟨(.type "dict"), none, (.dict #[ent P ("__module__" : Str) 2490 (.str ("passlib.handed" : Str) 2481), ent P ("__qualname__" : Str) 2492 (.str ("_tuplegetter" : Str) 2491), ent P ("__firstlineno__" : Str) 2494 (.int 241 2493), ent P ("__init__" : Str) 2503 (.ref 202), ent P ("__get__" : Str) 2512 (.ref 210), ent P ("__set__" : Str) 2521 (.ref 217), ent P ("__delete__" : Str) 2529 (.ref 224), ent P ("__static_attributes__" : Str) 2532 (.ref 225)] 8), #[]⟩
abbrev o192 (P : Params) : Obj := ⟨(.type "tuple"), none, (.seq #[] 0), #[]⟩
abbrev o193 (P : Params) : Obj := ⟨.none, none, (.fields #[(.int 243 0), (.int 4 0), (.ref 201), (.int 247 0), (.int 4 0), (.ref 209), (.int 254 0), (.int 4 0), (.ref 216), (.int 257 0), (.int 4 0), (.ref 223)]), #[]⟩
abbrev o194 (P : Params) : Obj := ⟨(.type "code"), none, (.fields #[(.str ("_tuplegetter" : Str) 2485), (.str ("_tuplegetter" : Str) 2486), (.str ("/claim/cut.py" : Str) 2487), (.int 241 0), (.int 0 0), (.int 0 0), (.int 0 0), (.int 0 0), (.ref 192), (.bool false), (.int 181 0), (.ref 193), .none, .none, .none, .none, (.int 2488 0), (.int 241 0), (.str ("/claim/cut.py" : Str) 2489)]), #[]⟩
abbrev o195 (P : Params) : Obj := ⟨(.type "frame"), none, .plain, #[(some (.ref 194)), (some (.ref 3)), (some (.ref 191)), none, (some (.str ("passlib.handed" : Str) 2481)), none, (some (.ref 0))]⟩
abbrev o196 (P : Params) : Obj := ⟨(.type "tuple"), none, (.seq #[] 0), #[]⟩
abbrev o197 (P : Params) : Obj := ⟨.none, none, (.fields #[]), #[]⟩
abbrev o198 (P : Params) : Obj := ⟨(.type "tuple"), none, (.seq #[(.str ("self" : Str) 2498), (.str ("index" : Str) 2499), (.str ("doc" : Str) 2500)] 0), #[]⟩
abbrev o199 (P : Params) : Obj := ⟨(.type "tuple"), none, (.seq #[] 0), #[]⟩
abbrev o200 (P : Params) : Obj := ⟨.none, none, (.func (fdOf (cS 18 0) ("_tuplegetter.__init__" : Str) 0 [] .none .none .none .none none .none .none 0)), #[]⟩
abbrev o201 (P : Params) : Obj := ⟨(.type "code"), none, (.fields #[(.str ("__init__" : Str) 2495), (.str ("_tuplegetter.__init__" : Str) 2496), (.str ("/claim/cut.py" : Str) 2497), (.int 243 0), (.int 3 0), (.int 0 0), (.int 0 0), (.int 3 0), (.ref 196), (.bool true), (.int 181 0), (.ref 197), .none, (.ref 198), (.ref 199), (.ref 200), (.int 2501 0), (.int 243 0), (.str ("/claim/cut.py" : Str) 2502)]), #[]⟩
abbrev o202 (P : Params) : Obj := ⟨(.type "function"), none, (.func (fdOf (cS 18 0) ("_tuplegetter.__init__" : Str) 3 [] .none .none .none (.str ("passlib.handed" : Str) 2481) none (.ref 201) .none 0)), #[]⟩
abbrev o203 (P : Params) : Obj := ⟨(.type "tuple"), none, (.seq #[.none] 0), #[]⟩
abbrev o204 (P : Params) : Obj := ⟨(.type "tuple"), none, (.seq #[] 0), #[]⟩
abbrev o205 (P : Params) : Obj := ⟨.none, none, (.fields #[]), #[]⟩
abbrev o206 (P : Params) : Obj := ⟨(.type "tuple"), none, (.seq #[(.str ("self" : Str) 2507), (.str ("obj" : Str) 2508), (.str ("objtype" : Str) 2509)] 0), #[]⟩
abbrev o207 (P : Params) : Obj := ⟨(.type "tuple"), none, (.seq #[] 0), #[]⟩
abbrev o208 (P : Params) : Obj := ⟨.none, none, (.func (fdOf (cS 18 1) ("_tuplegetter.__get__" : Str) 0 [] .none .none .none .none none .none .none 0)), #[]⟩
abbrev o209 (P : Params) : Obj := ⟨(.type "code"), none, (.fields #[(.str ("__get__" : Str) 2504), (.str ("_tuplegetter.__get__" : Str) 2505), (.str ("/claim/cut.py" : Str) 2506), (.int 247 0), (.int 3 0), (.int 0 0), (.int 0 0), (.int 3 0), (.ref 204), (.bool true), (.int 181 0), (.ref 205), .none, (.ref 206), (.ref 207), (.ref 208), (.int 2510 0), (.int 247 0), (.str ("/claim/cut.py" : Str) 2511)]), #[]⟩
abbrev o210 (P : Params) : Obj := ⟨(.type "function"), none, (.func (fdOf (cS 18 1) ("_tuplegetter.__get__" : Str) 3 [] (.ref 203) .none .none (.str ("passlib.handed" : Str) 2481) none (.ref 209) .none 0)), #[]⟩
abbrev o211 (P : Params) : Obj := ⟨(.type "tuple"), none, (.seq #[] 0), #[]⟩
abbrev o212 (P : Params) : Obj := ⟨.none, none, (.fields #[]), #[]⟩
abbrev o213 (P : Params) : Obj := ⟨(.type "tuple"), none, (.seq #[(.str ("self" : Str) 2516), (.str ("obj" : Str) 2517), (.str ("value" : Str) 2518)] 0), #[]⟩
abbrev o214 (P : Params) : Obj := ⟨(.type "tuple"), none, (.seq #[] 0), #[]⟩
abbrev o215 (P : Params) : Obj := ⟨.none, none, (.func (fdOf (cS 18 2) ("_tuplegetter.__set__" : Str) 0 [] .none .none .none .none none .none .none 0)), #[]⟩
abbrev o216 (P : Params) : Obj := ⟨(.type "code"), none, (.fields #[(.str ("__set__" : Str) 2513), (.str ("_tuplegetter.__set__" : Str) 2514), (.str ("/claim/cut.py" : Str) 2515), (.int 254 0), (.int 3 0), (.int 0 0), (.int 0 0), (.int 3 0), (.ref 211), (.bool true), (.int 181 0), (.ref 212), .none, (.ref 213), (.ref 214), (.ref 215), (.int 2519 0), (.int 254 0), (.str ("/claim/cut.py" : Str) 2520)]), #[]⟩
abbrev o217 (P : Params) : Obj := ⟨(.type "function"), none, (.func (fdOf (cS 18 2) ("_tuplegetter.__set__" : Str) 3 [] .none .none .none (.str ("passlib.handed" : Str) 2481) none (.ref 216) .none 0)), #[]⟩
abbrev o218 (P : Params) : Obj := ⟨(.type "tuple"), none, (.seq #[] 0), #[]⟩
abbrev o219 (P : Params) : Obj := ⟨.none, none, (.fields #[]), #[]⟩
abbrev o220 (P : Params) : Obj := ⟨(.type "tuple"), none, (.seq #[(.str ("self" : Str) 2525), (.str ("obj" : Str) 2526)] 0), #[]⟩
abbrev o221 (P : Params) : Obj := ⟨(.type "tuple"), none, (.seq #[] 0), #[]⟩
abbrev o222 (P : Params) : Obj := ⟨.none, none, (.func (fdOf (cS 18 3) ("_tuplegetter.__delete__" : Str) 0 [] .none .none .none .none none .none .none 0)), #[]⟩
abbrev o223 (P : Params) : Obj := ⟨(.type "code"), none, (.fields #[(.str ("__delete__" : Str) 2522), (.str ("_tuplegetter.__delete__" : Str) 2523), (.str ("/claim/cut.py" : Str) 2524), (.int 257 0), (.int 2 0), (.int 0 0), (.int 0 0), (.int 3 0), (.ref 218), (.bool true), (.int 181 0), (.ref 219), .none, (.ref 220), (.ref 221), (.ref 222), (.int 2527 0), (.int 257 0), (.str ("/claim/cut.py" : Str) 2528)]), #[]⟩
abbrev o224 (P : Params) : Obj := ⟨(.type "function"), none, (.func (fdOf (cS 18 3) ("_tuplegetter.__delete__" : Str) 3 [] .none .none .none (.str ("passlib.handed" : Str) 2481) none (.ref 223) .none 0)), #[]⟩
abbrev o225 (P : Params) : Obj := ⟨(.type "tuple"), none, (.seq #[(.str ("__doc__" : Str) 2530), (.str ("index" : Str) 2531)] 0), #[]⟩
abbrev o226 (P : Params) : Obj := ⟨(.type "dict"), none, (.dict #[ent P ("__module__" : Str) 2490 (.str ("passlib.handed" : Str) 2481), ent P ("__firstlineno__" : Str) 2494 (.int 241 2493), ent P ("__init__" : Str) 2503 (.ref 202), ent P ("__get__" : Str) 2512 (.ref 210), ent P ("__set__" : Str) 2521 (.ref 217), ent P ("__delete__" : Str) 2529 (.ref 224), ent P ("__static_attributes__" : Str) 2532 (.ref 225), ent P ("__dict__" : Str) 2534 (.ref 228), ent P ("__weakref__" : Str) 2536 (.ref 229), ent P ("__doc__" : Str) 2537 .none] 4), #[]⟩
abbrev o227 (P : Params) : Obj := ⟨(.type "type"), none, (.cls { name := ("_tuplegetter" : Str), bases := [(.type "object")], mro := [(.ref 227), (.type "object")], ns := 226, qualname := ("_tuplegetter" : Str), hasDict := true, slotNames := [], subclasses := [], abstract := false, collection := none, hasDel := false }), #[none, none, (some (.str ("_tuplegetter" : Str) 2483)), (some (.str ("_tuplegetter" : Str) 2491)), (some (.builtin "object.__new__")), (some (.bool true))]⟩
abbrev o228 (P : Params) : Obj := ⟨(.type "getset_descriptor"), none, (.fields #[(.str ("__dict__" : Str) 2533), (.ref 227), (.builtin "function.__dict__"), (.builtin "function.__dict__#set")]), #[]⟩
abbrev o229 (P : Params) : Obj := ⟨(.type "getset_descriptor"), none, (.fields #[(.str ("__weakref__" : Str) 2535), (.ref 227), (.builtin "ExceptionGroup.__weakref__"), .none]), #[]⟩
abbrev o230 (P : Params) : Obj := ⟨(.type "super"), none, (.fields #[(.ref 227), (.ref 227), (.ref 227)]), #[]⟩
abbrev o231 (P : Params) : Obj := ⟨(.type "builtin_function_or_method"), none, (.fields #[(.builtin "object.__init_subclass__"), (.ref 227)]), #[]⟩
abbrev o232 (P : Params) : Obj := ⟨(.type "tuple"), none, (.seq #[(.type "tuple")] 0), #[]⟩
abbrev o233 (P : Params) : Obj := ⟨(.type "builtin_function_or_method"), none, (.fields #[(.builtin "type.__prepare__"), (.type "type")]), #[]⟩
abbrev o234 (P : Params) : Obj := ⟨(.type "dict"), none, (.dict #[ent P ("__module__" : Str) 2547 (.str ("passlib.handed" : Str) 2481), ent P ("__qualname__" : Str) 2549 (.str ("Handed" : Str) 2548), ent P ("__firstlineno__" : Str) 2551 (.int 259 2550), ent P ("__doc__" : Str) 2553 (.str (docC (fS 19)) 2552), ent P ("__slots__" : Str) 2555 (.ref 240), ent P ("_fields" : Str) 2561 (.ref 241), ent P ("_field_defaults" : Str) 2562 (.ref 242), ent P ("__new__" : Str) 2575 (.ref 249), ent P ("_make" : Str) 2597 (.ref 258), ent P ("_replace" : Str) 2608 (.ref 267), ent P ("__replace__" : Str) 2609 (.ref 267), ent P ("__repr__" : Str) 2617 (.ref 274), ent P ("_asdict" : Str) 2624 (.ref 281), ent P ("__getnewargs__" : Str) 2632 (.ref 288), ent P ("__match_args__" : Str) 2638 (.ref 289), ent P ("update" : Str) 2648 (.ref 291), ent P ("digest" : Str) 2658 (.ref 294), ent P ("copy" : Str) 2668 (.ref 297), ent P ("digest_size" : Str) 2678 (.ref 300), ent P ("block_size" : Str) 2688 (.ref 303), ent P ("__static_attributes__" : Str) 2689 (.ref 305), ent P ("__classcell__" : Str) 2690 (.ref 235)] 22), #[]⟩
abbrev o235 (P : Params) : Obj := ⟨(.type "cell"), none, (.cell (some (.ref 308))), #[]⟩
abbrev o236 (P : Params) : Obj := ⟨(.type "tuple"), none, (.seq #[] 0), #[]⟩
abbrev o237 (P : Params) : Obj := ⟨.none, none, (.fields #[(.int 265 0), (.int 4 0), (.ref 248), (.int 270 0), (.int 4 0), (.ref 255), (.int 277 0), (.int 4 0), (.ref 266), (.int 288 0), (.int 4 0), (.ref 273), (.int 292 0), (.int 4 0), (.ref 280), (.int 295 0), (.int 4 0), (.ref 287)]), #[]⟩
abbrev o238 (P : Params) : Obj := ⟨(.type "code"), none, (.fields #[(.str ("Handed" : Str) 2542), (.str ("Handed" : Str) 2543), (.str ("/claim/cut.py" : Str) 2544), (.int 259 0), (.int 0 0), (.int 0 0), (.int 0 0), (.int 0 0), (.ref 236), (.bool false), (.int 181 0), (.ref 237), .none, .none, .none, .none, (.int 2545 0), (.int 259 0), (.str ("/claim/cut.py" : Str) 2546)]), #[]⟩
abbrev o239 (P : Params) : Obj := ⟨(.type "frame"), none, .plain, #[(some (.ref 238)), (some (.ref 3)), (some (.ref 234)), none, (some (.str ("passlib.handed" : Str) 2481)), none, (some (.ref 0))]⟩
abbrev o240 (P : Params) : Obj := ⟨(.type "tuple"), none, (.seq #[] 0), #[]⟩
abbrev o241 (P : Params) : Obj := ⟨(.type "tuple"), none, (.seq #[(.str ("update" : Str) 2556), (.str ("digest" : Str) 2557), (.str ("copy" : Str) 2558), (.str ("digest_size" : Str) 2559), (.str ("block_size" : Str) 2560)] 0), #[]⟩
abbrev o242 (P : Params) : Obj := ⟨(.type "dict"), none, (.dict #[] 0), #[]⟩
abbrev o243 (P : Params) : Obj := ⟨(.type "tuple"), none, (.seq #[] 0), #[]⟩
abbrev o244 (P : Params) : Obj := ⟨.none, none, (.fields #[]), #[]⟩
abbrev o245 (P : Params) : Obj := ⟨(.type "tuple"), none, (.seq #[(.str ("_cls" : Str) 2566), (.str ("update" : Str) 2567), (.str ("digest" : Str) 2568), (.str ("copy" : Str) 2569), (.str ("digest_size" : Str) 2570), (.str ("block_size" : Str) 2571)] 0), #[]⟩
abbrev o246 (P : Params) : Obj := ⟨(.type "tuple"), none, (.seq #[] 0), #[]⟩
abbrev o247 (P : Params) : Obj := ⟨.none, none, (.func (fdOf (cS 19 4) ("Handed.__new__" : Str) 0 [] .none .none .none .none none .none .none 0)), #[]⟩
abbrev o248 (P : Params) : Obj := ⟨(.type "code"), none, (.fields #[(.str ("__new__" : Str) 2563), (.str ("Handed.__new__" : Str) 2564), (.str ("/claim/cut.py" : Str) 2565), (.int 265 0), (.int 6 0), (.int 0 0), (.int 0 0), (.int 3 0), (.ref 243), (.bool true), (.int 181 0), (.ref 244), .none, (.ref 245), (.ref 246), (.ref 247), (.int 2572 0), (.int 265 0), (.str ("/claim/cut.py" : Str) 2573)]), #[]⟩
abbrev o249 (P : Params) : Obj := ⟨(.type "function"), none, (.func (fdOf (cS 19 4) ("Handed.__new__" : Str) 3 [] .none .none (.str (docF (cS 19 4)) 2574) (.str ("passlib.handed" : Str) 2481) none (.ref 248) .none 0)), #[]⟩
abbrev o250 (P : Params) : Obj := ⟨(.type "tuple"), none, (.seq #[] 0), #[]⟩
abbrev o251 (P : Params) : Obj := ⟨.none, none, (.fields #[]), #[]⟩
abbrev o252 (P : Params) : Obj := ⟨(.type "tuple"), none, (.seq #[(.str ("cls" : Str) 2579), (.str ("iterable" : Str) 2580), (.str ("result" : Str) 2581)] 0), #[]⟩
abbrev o253 (P : Params) : Obj := ⟨(.type "tuple"), none, (.seq #[] 0), #[]⟩
abbrev o254 (P : Params) : Obj := ⟨.none, none, (.func (fdOf (cS 19 5) ("Handed._make" : Str) 0 [] .none .none .none .none none .none .none 0)), #[]⟩
abbrev o255 (P : Params) : Obj := ⟨(.type "code"), none, (.fields #[(.str ("_make" : Str) 2576), (.str ("Handed._make" : Str) 2577), (.str ("/claim/cut.py" : Str) 2578), (.int 269 0), (.int 2 0), (.int 0 0), (.int 0 0), (.int 3 0), (.ref 250), (.bool true), (.int 181 0), (.ref 251), .none, (.ref 252), (.ref 253), (.ref 254), (.int 2582 0), (.int 269 0), (.str ("/claim/cut.py" : Str) 2583)]), #[]⟩
abbrev o256 (P : Params) : Obj := ⟨(.type "function"), none, (.func (fdOf (cS 19 5) ("Handed._make" : Str) 3 [] .none .none (.str (docF (cS 19 5)) 2584) (.str ("passlib.handed" : Str) 2481) (some 259) (.ref 255) .none 0)), #[]⟩
abbrev o257 (P : Params) : Obj := ⟨(.type "dict"), none, (.dict #[ent P ("__module__" : Str) 2586 (.str ("passlib.handed" : Str) 2481), ent P ("__name__" : Str) 2589 (.str ("_make" : Str) 2588), ent P ("__qualname__" : Str) 2592 (.str ("Handed._make" : Str) 2591), ent P ("__doc__" : Str) 2594 (.str (docF (cS 19 5)) 2584), ent P ("__annotations__" : Str) 2596 (.ref 259)] 5), #[]⟩
abbrev o258 (P : Params) : Obj := ⟨(.type "classmethod"), (some 257), (.fields #[(.ref 256), (.bool false)]), #[]⟩
abbrev o259 (P : Params) : Obj := ⟨(.type "dict"), none, (.dict #[] 0), #[]⟩
abbrev o260 (P : Params) : Obj := ⟨(.type "tuple"), none, (.seq #[(.ref 235)] 0), #[]⟩
abbrev o261 (P : Params) : Obj := ⟨(.type "tuple"), none, (.seq #[(.str ("__class__" : Str) 2601)] 0), #[]⟩
abbrev o262 (P : Params) : Obj := ⟨.none, none, (.fields #[]), #[]⟩
abbrev o263 (P : Params) : Obj := ⟨(.type "tuple"), none, (.seq #[(.str ("self" : Str) 2602), (.str ("kwds" : Str) 2603), (.str ("result" : Str) 2604)] 0), #[]⟩
abbrev o264 (P : Params) : Obj := ⟨(.type "tuple"), none, (.seq #[] 0), #[]⟩
abbrev o265 (P : Params) : Obj := ⟨.none, none, (.func (fdOf (cS 19 6) ("Handed._replace" : Str) 0 [] .none .none .none .none none .none .none 0)), #[]⟩
abbrev o266 (P : Params) : Obj := ⟨(.type "code"), none, (.fields #[(.str ("_replace" : Str) 2598), (.str ("Handed._replace" : Str) 2599), (.str ("/claim/cut.py" : Str) 2600), (.int 277 0), (.int 1 0), (.int 1 0), (.int 0 0), (.int 11 0), (.ref 261), (.bool true), (.int 181 0), (.ref 262), .none, (.ref 263), (.ref 264), (.ref 265), (.int 2605 0), (.int 277 0), (.str ("/claim/cut.py" : Str) 2606)]), #[]⟩
abbrev o267 (P : Params) : Obj := ⟨(.type "function"), none, (.func (fdOf (cS 19 6) ("Handed._replace" : Str) 3 [(("__class__" : Str), 235)] .none .none (.str (docF (cS 19 6)) 2607) (.str ("passlib.handed" : Str) 2481) none (.ref 266) (.ref 260) 0)), #[]⟩
abbrev o268 (P : Params) : Obj := ⟨(.type "tuple"), none, (.seq #[] 0), #[]⟩
abbrev o269 (P : Params) : Obj := ⟨.none, none, (.fields #[]), #[]⟩
abbrev o270 (P : Params) : Obj := ⟨(.type "tuple"), none, (.seq #[(.str ("self" : Str) 2613)] 0), #[]⟩
abbrev o271 (P : Params) : Obj := ⟨(.type "tuple"), none, (.seq #[] 0), #[]⟩
abbrev o272 (P : Params) : Obj := ⟨.none, none, (.func (fdOf (cS 19 8) ("Handed.__repr__" : Str) 0 [] .none .none .none .none none .none .none 0)), #[]⟩
abbrev o273 (P : Params) : Obj := ⟨(.type "code"), none, (.fields #[(.str ("__repr__" : Str) 2610), (.str ("Handed.__repr__" : Str) 2611), (.str ("/claim/cut.py" : Str) 2612), (.int 288 0), (.int 1 0), (.int 0 0), (.int 0 0), (.int 3 0), (.ref 268), (.bool true), (.int 181 0), (.ref 269), .none, (.ref 270), (.ref 271), (.ref 272), (.int 2614 0), (.int 288 0), (.str ("/claim/cut.py" : Str) 2615)]), #[]⟩
abbrev o274 (P : Params) : Obj := ⟨(.type "function"), none, (.func (fdOf (cS 19 8) ("Handed.__repr__" : Str) 3 [] .none .none (.str (docF (cS 19 8)) 2616) (.str ("passlib.handed" : Str) 2481) none (.ref 273) .none 0)), #[]⟩
abbrev o275 (P : Params) : Obj := ⟨(.type "tuple"), none, (.seq #[] 0), #[]⟩
abbrev o276 (P : Params) : Obj := ⟨.none, none, (.fields #[]), #[]⟩
abbrev o277 (P : Params) : Obj := ⟨(.type "tuple"), none, (.seq #[(.str ("self" : Str) 2621)] 0), #[]⟩
abbrev o278 (P : Params) : Obj := ⟨(.type "tuple"), none, (.seq #[] 0), #[]⟩
abbrev o279 (P : Params) : Obj := ⟨.none, none, (.func (fdOf (cS 19 9) ("Handed._asdict" : Str) 0 [] .none .none .none .none none .none .none 0)), #[]⟩
abbrev o280 (P : Params) : Obj := ⟨(.type "code"), none, (.fields #[(.str ("_asdict" : Str) 2618), (.str ("Handed._asdict" : Str) 2619), (.str ("/claim/cut.py" : Str) 2620), (.int 292 0), (.int 1 0), (.int 0 0), (.int 0 0), (.int 3 0), (.ref 275), (.bool true), (.int 181 0), (.ref 276), .none, (.ref 277), (.ref 278), (.ref 279), (.int 2622 0), (.int 292 0), (.str ("/claim/cut.py" : Str) 2623)]), #[]⟩
abbrev o281 (P : Params) : Obj := ⟨(.type "function"), none, (.func (fdOf (cS 19 9) ("Handed._asdict" : Str) 3 [] .none .none .none (.str ("passlib.handed" : Str) 2481) none (.ref 280) .none 0)), #[]⟩
abbrev o282 (P : Params) : Obj := ⟨(.type "tuple"), none, (.seq #[] 0), #[]⟩
abbrev o283 (P : Params) : Obj := ⟨.none, none, (.fields #[]), #[]⟩
abbrev o284 (P : Params) : Obj := ⟨(.type "tuple"), none, (.seq #[(.str ("self" : Str) 2628)] 0), #[]⟩
abbrev o285 (P : Params) : Obj := ⟨(.type "tuple"), none, (.seq #[] 0), #[]⟩
abbrev o286 (P : Params) : Obj := ⟨.none, none, (.func (fdOf (cS 19 10) ("Handed.__getnewargs__" : Str) 0 [] .none .none .none .none none .none .none 0)), #[]⟩
abbrev o287 (P : Params) : Obj := ⟨(.type "code"), none, (.fields #[(.str ("__getnewargs__" : Str) 2625), (.str ("Handed.__getnewargs__" : Str) 2626), (.str ("/claim/cut.py" : Str) 2627), (.int 295 0), (.int 1 0), (.int 0 0), (.int 0 0), (.int 3 0), (.ref 282), (.bool true), (.int 181 0), (.ref 283), .none, (.ref 284), (.ref 285), (.ref 286), (.int 2629 0), (.int 295 0), (.str ("/claim/cut.py" : Str) 2630)]), #[]⟩
abbrev o288 (P : Params) : Obj := ⟨(.type "function"), none, (.func (fdOf (cS 19 10) ("Handed.__getnewargs__" : Str) 3 [] .none .none (.str (docF (cS 19 10)) 2631) (.str ("passlib.handed" : Str) 2481) none (.ref 287) .none 0)), #[]⟩
abbrev o289 (P : Params) : Obj := ⟨(.type "tuple"), none, (.seq #[(.str ("update" : Str) 2633), (.str ("digest" : Str) 2634), (.str ("copy" : Str) 2635), (.str ("digest_size" : Str) 2636), (.str ("block_size" : Str) 2637)] 0), #[]⟩
abbrev o290 (P : Params) : Obj := ⟨(.type "dict"), none, (.dict #[ent P ("index" : Str) 2645 (.int 0 2639), ent P ("__doc__" : Str) 2647 (.str ("Alias for field number 0" : Str) 2640)] 2), #[]⟩
abbrev o291 (P : Params) : Obj := ⟨(.ref 227), (some 290), .plain, #[]⟩
abbrev o292 (P : Params) : Obj := ⟨(.type "frame"), none, (.dict #[ent P ("self" : Str) 2641 (.ref 291), ent P ("index" : Str) 2642 (.int 0 2639), ent P ("doc" : Str) 2643 (.str ("Alias for field number 0" : Str) 2640)] 3), #[]⟩
abbrev o293 (P : Params) : Obj := ⟨(.type "dict"), none, (.dict #[ent P ("index" : Str) 2655 (.int 1 2649), ent P ("__doc__" : Str) 2657 (.str ("Alias for field number 1" : Str) 2650)] 2), #[]⟩
abbrev o294 (P : Params) : Obj := ⟨(.ref 227), (some 293), .plain, #[]⟩
abbrev o295 (P : Params) : Obj := ⟨(.type "frame"), none, (.dict #[ent P ("self" : Str) 2651 (.ref 294), ent P ("index" : Str) 2652 (.int 1 2649), ent P ("doc" : Str) 2653 (.str ("Alias for field number 1" : Str) 2650)] 3), #[]⟩
abbrev o296 (P : Params) : Obj := ⟨(.type "dict"), none, (.dict #[ent P ("index" : Str) 2665 (.int 2 2659), ent P ("__doc__" : Str) 2667 (.str ("Alias for field number 2" : Str) 2660)] 2), #[]⟩
abbrev o297 (P : Params) : Obj := ⟨(.ref 227), (some 296), .plain, #[]⟩
abbrev o298 (P : Params) : Obj := ⟨(.type "frame"), none, (.dict #[ent P ("self" : Str) 2661 (.ref 297), ent P ("index" : Str) 2662 (.int 2 2659), ent P ("doc" : Str) 2663 (.str ("Alias for field number 2" : Str) 2660)] 3), #[]⟩
abbrev o299 (P : Params) : Obj := ⟨(.type "dict"), none, (.dict #[ent P ("index" : Str) 2675 (.int 3 2669), ent P ("__doc__" : Str) 2677 (.str ("Alias for field number 3" : Str) 2670)] 2), #[]⟩
abbrev o300 (P : Params) : Obj := ⟨(.ref 227), (some 299), .plain, #[]⟩
abbrev o301 (P : Params) : Obj := ⟨(.type "frame"), none, (.dict #[ent P ("self" : Str) 2671 (.ref 300), ent P ("index" : Str) 2672 (.int 3 2669), ent P ("doc" : Str) 2673 (.str ("Alias for field number 3" : Str) 2670)] 3), #[]⟩
abbrev o302 (P : Params) : Obj := ⟨(.type "dict"), none, (.dict #[ent P ("index" : Str) 2685 (.int 4 2679), ent P ("__doc__" : Str) 2687 (.str ("Alias for field number 4" : Str) 2680)] 2), #[]⟩
abbrev o303 (P : Params) : Obj := ⟨(.ref 227), (some 302), .plain, #[]⟩
abbrev o304 (P : Params) : Obj := ⟨(.type "frame"), none, (.dict #[ent P ("self" : Str) 2681 (.ref 303), ent P ("index" : Str) 2682 (.int 4 2679), ent P ("doc" : Str) 2683 (.str ("Alias for field number 4" : Str) 2680)] 3), #[]⟩
abbrev o305 (P : Params) : Obj := ⟨(.type "tuple"), none, (.seq #[] 0), #[]⟩
abbrev o306 (P : Params) : Obj := ⟨(.type "list"), none, (.seq #[] 0), #[]⟩
abbrev o307 (P : Params) : Obj := ⟨(.type "dict"), none, (.dict #[ent P ("__module__" : Str) 2547 (.str ("passlib.handed" : Str) 2481), ent P ("__firstlineno__" : Str) 2551 (.int 259 2550), ent P ("__doc__" : Str) 2553 (.str (docC (fS 19)) 2552), ent P ("__slots__" : Str) 2555 (.ref 240), ent P ("_fields" : Str) 2561 (.ref 241), ent P ("_field_defaults" : Str) 2562 (.ref 242), ent P ("__new__" : Str) 2575 (.ref 309), ent P ("_make" : Str) 2597 (.ref 258), ent P ("_replace" : Str) 2608 (.ref 267), ent P ("__replace__" : Str) 2609 (.ref 267), ent P ("__repr__" : Str) 2617 (.ref 274), ent P ("_asdict" : Str) 2624 (.ref 281), ent P ("__getnewargs__" : Str) 2632 (.ref 288), ent P ("__match_args__" : Str) 2638 (.ref 289), ent P ("update" : Str) 2648 (.ref 291), ent P ("digest" : Str) 2658 (.ref 294), ent P ("copy" : Str) 2668 (.ref 297), ent P ("digest_size" : Str) 2678 (.ref 300), ent P ("block_size" : Str) 2688 (.ref 303), ent P ("__static_attributes__" : Str) 2689 (.ref 305)] 2), #[]⟩
abbrev o308 (P : Params) : Obj := ⟨(.type "type"), none, (.cls { name := ("Handed" : Str), bases := [(.type "tuple")], mro := [(.ref 308), (.type "tuple"), (.type "object")], ns := 307, qualname := ("Handed" : Str), hasDict := false, slotNames := [], subclasses := [], abstract := false, collection := none, hasDel := false }), #[(some (.ref 232)), none, (some (.str ("Handed" : Str) 2540)), (some (.str ("Handed" : Str) 2548)), (some .none), (some (.bool false))]⟩
abbrev o309 (P : Params) : Obj := ⟨(.type "staticmethod"), none, (.fields #[(.ref 249)]), #[]⟩
abbrev o310 (P : Params) : Obj := ⟨(.type "super"), none, (.fields #[(.ref 308), (.ref 308), (.ref 308)]), #[]⟩
abbrev o311 (P : Params) : Obj := ⟨(.type "builtin_function_or_method"), none, (.fields #[(.builtin "object.__init_subclass__"), (.ref 308)]), #[]⟩
abbrev o312 (P : Params) : Obj := ⟨(.type "tuple"), none, (.seq #[] 0), #[]⟩
abbrev o313 (P : Params) : Obj := ⟨.none, none, (.fields #[]), #[]⟩
abbrev o314 (P : Params) : Obj := ⟨(.type "tuple"), none, (.seq #[(.str ("script" : Str) 2699), (.str ("k" : Str) 2700)] 0), #[]⟩
abbrev o315 (P : Params) : Obj := ⟨(.type "tuple"), none, (.seq #[] 0), #[]⟩
abbrev o316 (P : Params) : Obj := ⟨.none, none, (.func (fdOf (fS 21) ("_law_cell" : Str) 0 [] .none .none .none .none none .none .none 0)), #[]⟩
abbrev o317 (P : Params) : Obj := ⟨(.type "code"), none, (.fields #[(.str ("_law_cell" : Str) 2696), (.str ("_law_cell" : Str) 2697), (.str ("/claim/cut.py" : Str) 2698), (.int 305 0), (.int 2 0), (.int 0 0), (.int 0 0), (.int 3 0), (.ref 312), (.bool true), (.int 181 0), (.ref 313), .none, (.ref 314), (.ref 315), (.ref 316), (.int 2701 0), (.int 305 0), (.str ("/claim/cut.py" : Str) 2702)]), #[]⟩
abbrev o318 (P : Params) : Obj := ⟨(.type "function"), none, (.func (fdOf (fS 21) ("_law_cell" : Str) 3 [] .none .none .none (.str ("law_aj5027_01" : Str) 2694) none (.ref 317) .none 0)), #[]⟩
abbrev o319 (P : Params) : Obj := ⟨(.type "tuple"), none, (.seq #[] 0), #[]⟩
abbrev o320 (P : Params) : Obj := ⟨.none, none, (.fields #[]), #[]⟩
abbrev o321 (P : Params) : Obj := ⟨(.type "tuple"), none, (.seq #[(.str ("octets" : Str) 2707), (.str ("size" : Str) 2708), (.str ("number" : Str) 2709)] 0), #[]⟩
abbrev o322 (P : Params) : Obj := ⟨(.type "tuple"), none, (.seq #[] 0), #[]⟩
abbrev o323 (P : Params) : Obj := ⟨.none, none, (.func (fdOf (fS 22) ("_law_sum" : Str) 0 [] .none .none .none .none none .none .none 0)), #[]⟩
abbrev o324 (P : Params) : Obj := ⟨(.type "code"), none, (.fields #[(.str ("_law_sum" : Str) 2704), (.str ("_law_sum" : Str) 2705), (.str ("/claim/cut.py" : Str) 2706), (.int 307 0), (.int 2 0), (.int 0 0), (.int 0 0), (.int 3 0), (.ref 319), (.bool true), (.int 181 0), (.ref 320), .none, (.ref 321), (.ref 322), (.ref 323), (.int 2710 0), (.int 307 0), (.str ("/claim/cut.py" : Str) 2711)]), #[]⟩
abbrev o325 (P : Params) : Obj := ⟨(.type "function"), none, (.func (fdOf (fS 22) ("_law_sum" : Str) 3 [] .none .none .none (.str ("law_aj5027_01" : Str) 2694) none (.ref 324) .none 0)), #[]⟩
abbrev o326 (P : Params) : Obj := ⟨(.type "tuple"), none, (.seq #[] 0), #[]⟩
abbrev o327 (P : Params) : Obj := ⟨.none, none, (.fields #[]), #[]⟩
abbrev o328 (P : Params) : Obj := ⟨(.type "tuple"), none, (.seq #[(.str ("size" : Str) 2716), (.str ("block" : Str) 2717)] 0), #[]⟩
abbrev o329 (P : Params) : Obj := ⟨(.type "tuple"), none, (.seq #[(.str ("size" : Str) 2718), (.str ("block" : Str) 2719), (.str ("const" : Str) 2720)] 0), #[]⟩
abbrev o330 (P : Params) : Obj := ⟨.none, none, (.func (fdOf (fS 23) ("_law_maker" : Str) 0 [] .none .none .none .none none .none .none 0)), #[]⟩
abbrev o331 (P : Params) : Obj := ⟨(.type "code"), none, (.fields #[(.str ("_law_maker" : Str) 2713), (.str ("_law_maker" : Str) 2714), (.str ("/claim/cut.py" : Str) 2715), (.int 310 0), (.int 2 0), (.int 0 0), (.int 0 0), (.int 3 0), (.ref 326), (.bool true), (.int 181 0), (.ref 327), .none, (.ref 328), (.ref 329), (.ref 330), (.int 2721 0), (.int 310 0), (.str ("/claim/cut.py" : Str) 2722)]), #[]⟩
abbrev o332 (P : Params) : Obj := ⟨(.type "function"), none, (.func (fdOf (fS 23) ("_law_maker" : Str) 3 [] .none .none .none (.str ("law_aj5027_01" : Str) 2694) none (.ref 331) .none 0)), #[]⟩
abbrev o333 (P : Params) : Obj := ⟨(.type "tuple"), none, (.seq #[] 0), #[]⟩
abbrev o334 (P : Params) : Obj := ⟨.none, none, (.fields #[]), #[]⟩
abbrev o335 (P : Params) : Obj := ⟨(.type "tuple"), none, (.seq #[(.str ("number" : Str) 2727)] 0), #[]⟩
abbrev o336 (P : Params) : Obj := ⟨(.type "tuple"), none, (.seq #[] 0), #[]⟩
abbrev o337 (P : Params) : Obj := ⟨.none, none, (.func (fdOf (fS 24) ("_law_sizes" : Str) 0 [] .none .none .none .none none .none .none 0)), #[]⟩
abbrev o338 (P : Params) : Obj := ⟨(.type "code"), none, (.fields #[(.str ("_law_sizes" : Str) 2724), (.str ("_law_sizes" : Str) 2725), (.str ("/claim/cut.py" : Str) 2726), (.int 325 0), (.int 1 0), (.int 0 0), (.int 0 0), (.int 3 0), (.ref 333), (.bool true), (.int 181 0), (.ref 334), .none, (.ref 335), (.ref 336), (.ref 337), (.int 2728 0), (.int 325 0), (.str ("/claim/cut.py" : Str) 2729)]), #[]⟩
abbrev o339 (P : Params) : Obj := ⟨(.type "function"), none, (.func (fdOf (fS 24) ("_law_sizes" : Str) 3 [] .none .none .none (.str ("law_aj5027_01" : Str) 2694) none (.ref 338) .none 0)), #[]⟩
abbrev o340 (P : Params) : Obj := ⟨(.type "tuple"), none, (.seq #[] 0), #[]⟩
abbrev o341 (P : Params) : Obj := ⟨.none, none, (.fields #[]), #[]⟩
abbrev o342 (P : Params) : Obj := ⟨.none, none, (.func (fdOf (fS 25) ("_law_code" : Str) 0 [] .none .none .none .none none .none .none 0)), #[]⟩
abbrev o343 (P : Params) : Obj := ⟨(.type "code"), none, (.fields #[(.str ("_law_code" : Str) 2731), (.str ("_law_code" : Str) 2732), (.str ("/claim/cut.py" : Str) 2733), (.int 327 0), (.int 4 0), (.int 0 0), (.int 0 0), (.int 3 0), (.ref 340), (.bool true), (.int 181 0), (.ref 341), .none, .none, .none, (.ref 342), (.int 2734 0), (.int 327 0), (.str ("/claim/cut.py" : Str) 2735)]), #[]⟩
abbrev o344 (P : Params) : Obj := ⟨(.type "function"), none, (.func (fdOf (fS 25) ("_law_code" : Str) 3 [] .none .none .none (.str ("law_aj5027_01" : Str) 2694) none (.ref 343) .none 0)), #[]⟩
abbrev o345 (P : Params) : Obj := ⟨(.type "tuple"), none, (.seq #[] 0), #[]⟩
abbrev o346 (P : Params) : Obj := ⟨.none, none, (.fields #[]), #[]⟩
abbrev o347 (P : Params) : Obj := ⟨.none, none, (.func (fdOf (fS 26) ("law" : Str) 0 [] .none .none .none .none none .none .none 0)), #[]⟩
abbrev o348 (P : Params) : Obj := ⟨(.type "code"), none, (.fields #[(.str ("law" : Str) 2737), (.str ("law" : Str) 2738), (.str ("/claim/cut.py" : Str) 2739), (.int 333 0), (.int 1 0), (.int 0 0), (.int 0 0), (.int 3 0), (.ref 345), (.bool true), (.int 181 0), (.ref 346), .none, .none, .none, (.ref 347), (.int 2740 0), (.int 333 0), (.str ("/claim/cut.py" : Str) 2741)]), #[]⟩
abbrev o349 (P : Params) : Obj := ⟨(.type "function"), none, (.func (fdOf (fS 26) ("law" : Str) 3 [] .none .none .none (.str ("law_aj5027_01" : Str) 2694) none (.ref 348) .none 0)), #[]⟩
abbrev o3_b (P : Params) : Obj := ⟨(.type "dict"), none, (.dict #[ent P ("__name__" : Str) 165 (.str ("__main__" : Str) 164), ent P ("__doc__" : Str) 166 .none, ent P ("__package__" : Str) 167 .none, ent P ("__loader__" : Str) 168 (.builtin "__main__.__loader__#opaque"), ent P ("__spec__" : Str) 169 .none, ent P ("__annotations__" : Str) 170 (.ref 6), ent P ("__builtins__" : Str) 171 (.ref 4), ent P ("__file__" : Str) 173 (.str ("/claim/cut.py" : Str) 172), ent P ("__cached__" : Str) 174 .none] 9), #[]⟩
abbrev o12_b (P : Params) : Obj := ⟨.none, none, (.fields #[]), #[]⟩
def tree_b (P : Params) : BT := (.node (o0 P) (.node (o1 P) (.node (o3_b P) (.node (o7 P) .nil .nil) (.node (o11 P) .nil .nil)) (.node (o5 P) (.node (o9 P) .nil .nil) (.node (o13 P) .nil .nil))) (.node (o2 P) (.node (o4 P) (.node (o8 P) .nil .nil) (.node (o12_b P) .nil .nil)) (.node (o6 P) (.node (o10 P) .nil .nil) (.node (o14 P) .nil .nil))))
abbrev o3_7 (P : Params) : Obj := ⟨(.type "dict"), none, (.dict #[ent P ("__name__" : Str) 165 (.str ("passlib.utils" : Str) 219), ent P ("__doc__" : Str) 166 .none, ent P ("__package__" : Str) 167 .none, ent P ("__loader__" : Str) 168 (.builtin "__main__.__loader__#opaque"), ent P ("__spec__" : Str) 169 .none, ent P ("__annotations__" : Str) 170 (.ref 6), ent P ("__builtins__" : Str) 171 (.ref 4), ent P ("__file__" : Str) 173 (.str ("/claim/cut.py" : Str) 172), ent P ("__cached__" : Str) 174 .none, ent P ("_wall" : Str) 193 (.ref 21), ent P ("ExpectedTypeError" : Str) 205 (.ref 28), ent P ("ExpectedStringError" : Str) 214 (.ref 35), ent P ("unicode" : Str) 215 (.type "str"), ent P ("join_byte_values" : Str) 216 (.type "bytes"), ent P ("join_byte_elems" : Str) 217 (.type "bytes"), ent P ("irange" : Str) 218 (.type "range")] 16), #[]⟩
abbrev o12_7 (P : Params) : Obj := ⟨.none, none, (.fields #[(.int 1 0), (.int 0 0), (.ref 20), (.int 5 0), (.int 0 0), (.ref 27), (.int 8 0), (.int 0 0), (.ref 34)]), #[]⟩
def tree_7 (P : Params) : BT := (.node (o0 P) (.node (o1 P) (.node (o3_7 P) (.node (o7 P) (.node (o15 P) (.node (o31 P) .nil .nil) .nil) (.node (o23 P) .nil .nil)) (.node (o11 P) (.node (o19 P) (.node (o35 P) .nil .nil) .nil) (.node (o27 P) .nil .nil))) (.node (o5 P) (.node (o9 P) (.node (o17 P) (.node (o33 P) .nil .nil) .nil) (.node (o25 P) .nil .nil)) (.node (o13 P) (.node (o21 P) .nil .nil) (.node (o29 P) .nil .nil)))) (.node (o2 P) (.node (o4 P) (.node (o8 P) (.node (o16 P) (.node (o32 P) .nil .nil) .nil) (.node (o24 P) .nil .nil)) (.node (o12_7 P) (.node (o20 P) .nil .nil) (.node (o28 P) .nil .nil))) (.node (o6 P) (.node (o10 P) (.node (o18 P) (.node (o34 P) .nil .nil) .nil) (.node (o26 P) .nil .nil)) (.node (o14 P) (.node (o22 P) .nil .nil) (.node (o30 P) .nil .nil)))))
abbrev o3_8 (P : Params) : Obj := ⟨(.type "dict"), none, (.dict #[ent P ("__name__" : Str) 165 (.str ("passlib.utils" : Str) 219), ent P ("__doc__" : Str) 166 .none, ent P ("__package__" : Str) 167 .none, ent P ("__loader__" : Str) 168 (.builtin "__main__.__loader__#opaque"), ent P ("__spec__" : Str) 169 .none, ent P ("__annotations__" : Str) 170 (.ref 6), ent P ("__builtins__" : Str) 171 (.ref 4), ent P ("__file__" : Str) 173 (.str ("/claim/cut.py" : Str) 172), ent P ("__cached__" : Str) 174 .none, ent P ("_wall" : Str) 193 (.ref 21), ent P ("ExpectedTypeError" : Str) 205 (.ref 28), ent P ("ExpectedStringError" : Str) 214 (.ref 35), ent P ("unicode" : Str) 215 (.type "str"), ent P ("join_byte_values" : Str) 216 (.type "bytes"), ent P ("join_byte_elems" : Str) 217 (.type "bytes"), ent P ("irange" : Str) 218 (.type "range"), ent P ("SequenceMixin" : Str) 295 (.ref 94)] 17), #[]⟩
abbrev o12_8 (P : Params) : Obj := ⟨.none, none, (.fields #[(.int 1 0), (.int 0 0), (.ref 20), (.int 5 0), (.int 0 0), (.ref 27), (.int 8 0), (.int 0 0), (.ref 34), (.int 15 0), (.int 0 0), (.ref 41)]), #[]⟩
abbrev o94_8 (P : Params) : Obj := ⟨(.type "type"), none, (.cls { name := ("SequenceMixin" : Str), bases := [(.type "object")], mro := [(.ref 94), (.type "object")], ns := 93, qualname := ("SequenceMixin" : Str), hasDict := true, slotNames := [], subclasses := [], abstract := false, collection := none, hasDel := false }), #[(some (.ref 36)), none, (some (.str ("SequenceMixin" : Str) 221)), (some (.str ("SequenceMixin" : Str) 229)), (some (.builtin "object.__new__")), (some (.bool true))]⟩
def tree_8 (P : Params) : BT := (.node (o0 P) (.node (o1 P) (.node (o3_8 P) (.node (o7 P) (.node (o15 P) (.node (o31 P) (.node (o63 P) .nil .nil) (.node (o95 P) .nil .nil)) (.node (o47 P) (.node (o79 P) .nil .nil) .nil)) (.node (o23 P) (.node (o39 P) (.node (o71 P) .nil .nil) .nil) (.node (o55 P) (.node (o87 P) .nil .nil) .nil))) (.node (o11 P) (.node (o19 P) (.node (o35 P) (.node (o67 P) .nil .nil) .nil) (.node (o51 P) (.node (o83 P) .nil .nil) .nil)) (.node (o27 P) (.node (o43 P) (.node (o75 P) .nil .nil) .nil) (.node (o59 P) (.node (o91 P) .nil .nil) .nil)))) (.node (o5 P) (.node (o9 P) (.node (o17 P) (.node (o33 P) (.node (o65 P) .nil .nil) (.node (o97 P) .nil .nil)) (.node (o49 P) (.node (o81 P) .nil .nil) .nil)) (.node (o25 P) (.node (o41 P) (.node (o73 P) .nil .nil) .nil) (.node (o57 P) (.node (o89 P) .nil .nil) .nil))) (.node (o13 P) (.node (o21 P) (.node (o37 P) (.node (o69 P) .nil .nil) .nil) (.node (o53 P) (.node (o85 P) .nil .nil) .nil)) (.node (o29 P) (.node (o45 P) (.node (o77 P) .nil .nil) .nil) (.node (o61 P) (.node (o93 P) .nil .nil) .nil))))) (.node (o2 P) (.node (o4 P) (.node (o8 P) (.node (o16 P) (.node (o32 P) (.node (o64 P) .nil .nil) (.node (o96 P) .nil .nil)) (.node (o48 P) (.node (o80 P) .nil .nil) .nil)) (.node (o24 P) (.node (o40 P) (.node (o72 P) .nil .nil) .nil) (.node (o56 P) (.node (o88 P) .nil .nil) .nil))) (.node (o12_8 P) (.node (o20 P) (.node (o36 P) (.node (o68 P) .nil .nil) .nil) (.node (o52 P) (.node (o84 P) .nil .nil) .nil)) (.node (o28 P) (.node (o44 P) (.node (o76 P) .nil .nil) .nil) (.node (o60 P) (.node (o92 P) .nil .nil) .nil)))) (.node (o6 P) (.node (o10 P) (.node (o18 P) (.node (o34 P) (.node (o66 P) .nil .nil) (.node (o98 P) .nil .nil)) (.node (o50 P) (.node (o82 P) .nil .nil) .nil)) (.node (o26 P) (.node (o42 P) (.node (o74 P) .nil .nil) .nil) (.node (o58 P) (.node (o90 P) .nil .nil) .nil))) (.node (o14 P) (.node (o22 P) (.node (o38 P) (.node (o70 P) .nil .nil) .nil) (.node (o54 P) (.node (o86 P) .nil .nil) .nil)) (.node (o30 P) (.node (o46 P) (.node (o78 P) .nil .nil) .nil) (.node (o62 P) (.node (o94_8 P) .nil .nil) .nil))))))
abbrev o3_13 (P : Params) : Obj := ⟨(.type "dict"), none, (.dict #[ent P ("__name__" : Str) 165 (.str ("passlib.crypto.digest" : Str) 318), ent P ("__doc__" : Str) 166 .none, ent P ("__package__" : Str) 167 .none, ent P ("__loader__" : Str) 168 (.builtin "__main__.__loader__#opaque"), ent P ("__spec__" : Str) 169 .none, ent P ("__annotations__" : Str) 170 (.ref 6), ent P ("__builtins__" : Str) 171 (.ref 4), ent P ("__file__" : Str) 173 (.str ("/claim/cut.py" : Str) 172), ent P ("__cached__" : Str) 174 .none, ent P ("_wall" : Str) 193 (.ref 21), ent P ("ExpectedTypeError" : Str) 205 (.ref 28), ent P ("ExpectedStringError" : Str) 214 (.ref 35), ent P ("unicode" : Str) 215 (.type "str"), ent P ("join_byte_values" : Str) 216 (.type "bytes"), ent P ("join_byte_elems" : Str) 217 (.type "bytes"), ent P ("irange" : Str) 218 (.type "range"), ent P ("SequenceMixin" : Str) 295 (.ref 94), ent P ("is_same_codec" : Str) 304 (.ref 105), ent P ("to_bytes" : Str) 317 (.ref 113), ent P ("lookup_hash" : Str) 329 (.ref 121), ent P ("HashInfo" : Str) 388 (.ref 154)] 21), #[]⟩
abbrev o12_13 (P : Params) : Obj := ⟨.none, none, (.fields #[(.int 1 0), (.int 0 0), (.ref 20), (.int 5 0), (.int 0 0), (.ref 27), (.int 8 0), (.int 0 0), (.ref 34), (.int 15 0), (.int 0 0), (.ref 41), (.int 41 0), (.int 0 0), (.ref 104), (.int 47 0), (.int 0 0), (.ref 112), (.int 84 0), (.int 0 0), (.ref 120), (.int 124 0), (.int 0 0), (.ref 127)]), #[]⟩
def tree_13 (P : Params) : BT := (.node (o0 P) (.node (o1 P) (.node (o3_13 P) (.node (o7 P) (.node (o15 P) (.node (o31 P) (.node (o63 P) (.node (o127 P) .nil .nil) .nil) (.node (o95 P) .nil .nil)) (.node (o47 P) (.node (o79 P) (.node (o143 P) .nil .nil) .nil) (.node (o111 P) .nil .nil))) (.node (o23 P) (.node (o39 P) (.node (o71 P) (.node (o135 P) .nil .nil) .nil) (.node (o103 P) .nil .nil)) (.node (o55 P) (.node (o87 P) (.node (o151 P) .nil .nil) .nil) (.node (o119 P) .nil .nil)))) (.node (o11 P) (.node (o19 P) (.node (o35 P) (.node (o67 P) (.node (o131 P) .nil .nil) .nil) (.node (o99 P) .nil .nil)) (.node (o51 P) (.node (o83 P) (.node (o147 P) .nil .nil) .nil) (.node (o115 P) .nil .nil))) (.node (o27 P) (.node (o43 P) (.node (o75 P) (.node (o139 P) .nil .nil) .nil) (.node (o107 P) .nil .nil)) (.node (o59 P) (.node (o91 P) (.node (o155 P) .nil .nil) .nil) (.node (o123 P) .nil .nil))))) (.node (o5 P) (.node (o9 P) (.node (o17 P) (.node (o33 P) (.node (o65 P) (.node (o129 P) .nil .nil) .nil) (.node (o97 P) .nil .nil)) (.node (o49 P) (.node (o81 P) (.node (o145 P) .nil .nil) .nil) (.node (o113 P) .nil .nil))) (.node (o25 P) (.node (o41 P) (.node (o73 P) (.node (o137 P) .nil .nil) .nil) (.node (o105 P) .nil .nil)) (.node (o57 P) (.node (o89 P) (.node (o153 P) .nil .nil) .nil) (.node (o121 P) .nil .nil)))) (.node (o13 P) (.node (o21 P) (.node (o37 P) (.node (o69 P) (.node (o133 P) .nil .nil) .nil) (.node (o101 P) .nil .nil)) (.node (o53 P) (.node (o85 P) (.node (o149 P) .nil .nil) .nil) (.node (o117 P) .nil .nil))) (.node (o29 P) (.node (o45 P) (.node (o77 P) (.node (o141 P) .nil .nil) .nil) (.node (o109 P) .nil .nil)) (.node (o61 P) (.node (o93 P) .nil .nil) (.node (o125 P) .nil .nil)))))) (.node (o2 P) (.node (o4 P) (.node (o8 P) (.node (o16 P) (.node (o32 P) (.node (o64 P) (.node (o128 P) .nil .nil) .nil) (.node (o96 P) .nil .nil)) (.node (o48 P) (.node (o80 P) (.node (o144 P) .nil .nil) .nil) (.node (o112 P) .nil .nil))) (.node (o24 P) (.node (o40 P) (.node (o72 P) (.node (o136 P) .nil .nil) .nil) (.node (o104 P) .nil .nil)) (.node (o56 P) (.node (o88 P) (.node (o152 P) .nil .nil) .nil) (.node (o120 P) .nil .nil)))) (.node (o12_13 P) (.node (o20 P) (.node (o36 P) (.node (o68 P) (.node (o132 P) .nil .nil) .nil) (.node (o100 P) .nil .nil)) (.node (o52 P) (.node (o84 P) (.node (o148 P) .nil .nil) .nil) (.node (o116 P) .nil .nil))) (.node (o28 P) (.node (o44 P) (.node (o76 P) (.node (o140 P) .nil .nil) .nil) (.node (o108 P) .nil .nil)) (.node (o60 P) (.node (o92 P) (.node (o156 P) .nil .nil) .nil) (.node (o124 P) .nil .nil))))) (.node (o6 P) (.node (o10 P) (.node (o18 P) (.node (o34 P) (.node (o66 P) (.node (o130 P) .nil .nil) .nil) (.node (o98 P) .nil .nil)) (.node (o50 P) (.node (o82 P) (.node (o146 P) .nil .nil) .nil) (.node (o114 P) .nil .nil))) (.node (o26 P) (.node (o42 P) (.node (o74 P) (.node (o138 P) .nil .nil) .nil) (.node (o106 P) .nil .nil)) (.node (o58 P) (.node (o90 P) (.node (o154 P) .nil .nil) .nil) (.node (o122 P) .nil .nil)))) (.node (o14 P) (.node (o22 P) (.node (o38 P) (.node (o70 P) (.node (o134 P) .nil .nil) .nil) (.node (o102 P) .nil .nil)) (.node (o54 P) (.node (o86 P) (.node (o150 P) .nil .nil) .nil) (.node (o118 P) .nil .nil))) (.node (o30 P) (.node (o46 P) (.node (o78 P) (.node (o142 P) .nil .nil) .nil) (.node (o110 P) .nil .nil)) (.node (o62 P) (.node (o94 P) .nil .nil) (.node (o126 P) .nil .nil)))))))
abbrev o3_14 (P : Params) : Obj := ⟨(.type "dict"), none, (.dict #[ent P ("__name__" : Str) 165 (.str ("passlib.crypto.digest" : Str) 318), ent P ("__doc__" : Str) 166 .none, ent P ("__package__" : Str) 167 .none, ent P ("__loader__" : Str) 168 (.builtin "__main__.__loader__#opaque"), ent P ("__spec__" : Str) 169 .none, ent P ("__annotations__" : Str) 170 (.ref 6), ent P ("__builtins__" : Str) 171 (.ref 4), ent P ("__file__" : Str) 173 (.str ("/claim/cut.py" : Str) 172), ent P ("__cached__" : Str) 174 .none, ent P ("_wall" : Str) 193 (.ref 21), ent P ("ExpectedTypeError" : Str) 205 (.ref 28), ent P ("ExpectedStringError" : Str) 214 (.ref 35), ent P ("unicode" : Str) 215 (.type "str"), ent P ("join_byte_values" : Str) 216 (.type "bytes"), ent P ("join_byte_elems" : Str) 217 (.type "bytes"), ent P ("irange" : Str) 218 (.type "range"), ent P ("SequenceMixin" : Str) 295 (.ref 94), ent P ("is_same_codec" : Str) 304 (.ref 105), ent P ("to_bytes" : Str) 317 (.ref 113), ent P ("lookup_hash" : Str) 329 (.ref 121), ent P ("HashInfo" : Str) 388 (.ref 154), ent P ("_TRANS_5C" : Str) 1425 (.bytes (xorTab 92 256) 1424)] 22), #[]⟩
abbrev o12_14 (P : Params) : Obj := ⟨.none, none, (.fields #[(.int 1 0), (.int 0 0), (.ref 20), (.int 5 0), (.int 0 0), (.ref 27), (.int 8 0), (.int 0 0), (.ref 34), (.int 15 0), (.int 0 0), (.ref 41), (.int 41 0), (.int 0 0), (.ref 104), (.int 47 0), (.int 0 0), (.ref 112), (.int 84 0), (.int 0 0), (.ref 120), (.int 124 0), (.int 0 0), (.ref 127), (.int 174 0), (.int 29 0), (.ref 161)]), #[]⟩
def tree_14 (P : Params) : BT := (.node (o0 P) (.node (o1 P) (.node (o3_14 P) (.node (o7 P) (.node (o15 P) (.node (o31 P) (.node (o63 P) (.node (o127 P) .nil .nil) .nil) (.node (o95 P) (.node (o159 P) .nil .nil) .nil)) (.node (o47 P) (.node (o79 P) (.node (o143 P) .nil .nil) .nil) (.node (o111 P) .nil .nil))) (.node (o23 P) (.node (o39 P) (.node (o71 P) (.node (o135 P) .nil .nil) .nil) (.node (o103 P) (.node (o167 P) .nil .nil) .nil)) (.node (o55 P) (.node (o87 P) (.node (o151 P) .nil .nil) .nil) (.node (o119 P) .nil .nil)))) (.node (o11 P) (.node (o19 P) (.node (o35 P) (.node (o67 P) (.node (o131 P) .nil .nil) .nil) (.node (o99 P) (.node (o163 P) .nil .nil) .nil)) (.node (o51 P) (.node (o83 P) (.node (o147 P) .nil .nil) .nil) (.node (o115 P) .nil .nil))) (.node (o27 P) (.node (o43 P) (.node (o75 P) (.node (o139 P) .nil .nil) .nil) (.node (o107 P) .nil .nil)) (.node (o59 P) (.node (o91 P) (.node (o155 P) .nil .nil) .nil) (.node (o123 P) .nil .nil))))) (.node (o5 P) (.node (o9 P) (.node (o17 P) (.node (o33 P) (.node (o65 P) (.node (o129 P) .nil .nil) .nil) (.node (o97 P) (.node (o161 P) .nil .nil) .nil)) (.node (o49 P) (.node (o81 P) (.node (o145 P) .nil .nil) .nil) (.node (o113 P) .nil .nil))) (.node (o25 P) (.node (o41 P) (.node (o73 P) (.node (o137 P) .nil .nil) .nil) (.node (o105 P) .nil .nil)) (.node (o57 P) (.node (o89 P) (.node (o153 P) .nil .nil) .nil) (.node (o121 P) .nil .nil)))) (.node (o13 P) (.node (o21 P) (.node (o37 P) (.node (o69 P) (.node (o133 P) .nil .nil) .nil) (.node (o101 P) (.node (o165 P) .nil .nil) .nil)) (.node (o53 P) (.node (o85 P) (.node (o149 P) .nil .nil) .nil) (.node (o117 P) .nil .nil))) (.node (o29 P) (.node (o45 P) (.node (o77 P) (.node (o141 P) .nil .nil) .nil) (.node (o109 P) .nil .nil)) (.node (o61 P) (.node (o93 P) (.node (o157 P) .nil .nil) .nil) (.node (o125 P) .nil .nil)))))) (.node (o2 P) (.node (o4 P) (.node (o8 P) (.node (o16 P) (.node (o32 P) (.node (o64 P) (.node (o128 P) .nil .nil) .nil) (.node (o96 P) (.node (o160 P) .nil .nil) .nil)) (.node (o48 P) (.node (o80 P) (.node (o144 P) .nil .nil) .nil) (.node (o112 P) .nil .nil))) (.node (o24 P) (.node (o40 P) (.node (o72 P) (.node (o136 P) .nil .nil) .nil) (.node (o104 P) (.node (o168 P) .nil .nil) .nil)) (.node (o56 P) (.node (o88 P) (.node (o152 P) .nil .nil) .nil) (.node (o120 P) .nil .nil)))) (.node (o12_14 P) (.node (o20 P) (.node (o36 P) (.node (o68 P) (.node (o132 P) .nil .nil) .nil) (.node (o100 P) (.node (o164 P) .nil .nil) .nil)) (.node (o52 P) (.node (o84 P) (.node (o148 P) .nil .nil) .nil) (.node (o116 P) .nil .nil))) (.node (o28 P) (.node (o44 P) (.node (o76 P) (.node (o140 P) .nil .nil) .nil) (.node (o108 P) .nil .nil)) (.node (o60 P) (.node (o92 P) (.node (o156 P) .nil .nil) .nil) (.node (o124 P) .nil .nil))))) (.node (o6 P) (.node (o10 P) (.node (o18 P) (.node (o34 P) (.node (o66 P) (.node (o130 P) .nil .nil) .nil) (.node (o98 P) (.node (o162 P) .nil .nil) .nil)) (.node (o50 P) (.node (o82 P) (.node (o146 P) .nil .nil) .nil) (.node (o114 P) .nil .nil))) (.node (o26 P) (.node (o42 P) (.node (o74 P) (.node (o138 P) .nil .nil) .nil) (.node (o106 P) .nil .nil)) (.node (o58 P) (.node (o90 P) (.node (o154 P) .nil .nil) .nil) (.node (o122 P) .nil .nil)))) (.node (o14 P) (.node (o22 P) (.node (o38 P) (.node (o70 P) (.node (o134 P) .nil .nil) .nil) (.node (o102 P) (.node (o166 P) .nil .nil) .nil)) (.node (o54 P) (.node (o86 P) (.node (o150 P) .nil .nil) .nil) (.node (o118 P) .nil .nil))) (.node (o30 P) (.node (o46 P) (.node (o78 P) (.node (o142 P) .nil .nil) .nil) (.node (o110 P) .nil .nil)) (.node (o62 P) (.node (o94 P) (.node (o158 P) .nil .nil) .nil) (.node (o126 P) .nil .nil)))))))
abbrev o3_15 (P : Params) : Obj := ⟨(.type "dict"), none, (.dict #[ent P ("__name__" : Str) 165 (.str ("passlib.crypto.digest" : Str) 318), ent P ("__doc__" : Str) 166 .none, ent P ("__package__" : Str) 167 .none, ent P ("__loader__" : Str) 168 (.builtin "__main__.__loader__#opaque"), ent P ("__spec__" : Str) 169 .none, ent P ("__annotations__" : Str) 170 (.ref 6), ent P ("__builtins__" : Str) 171 (.ref 4), ent P ("__file__" : Str) 173 (.str ("/claim/cut.py" : Str) 172), ent P ("__cached__" : Str) 174 .none, ent P ("_wall" : Str) 193 (.ref 21), ent P ("ExpectedTypeError" : Str) 205 (.ref 28), ent P ("ExpectedStringError" : Str) 214 (.ref 35), ent P ("unicode" : Str) 215 (.type "str"), ent P ("join_byte_values" : Str) 216 (.type "bytes"), ent P ("join_byte_elems" : Str) 217 (.type "bytes"), ent P ("irange" : Str) 218 (.type "range"), ent P ("SequenceMixin" : Str) 295 (.ref 94), ent P ("is_same_codec" : Str) 304 (.ref 105), ent P ("to_bytes" : Str) 317 (.ref 113), ent P ("lookup_hash" : Str) 329 (.ref 121), ent P ("HashInfo" : Str) 388 (.ref 154), ent P ("_TRANS_5C" : Str) 1425 (.bytes (xorTab 92 256) 1424), ent P ("_TRANS_36" : Str) 2462 (.bytes (xorTab 54 256) 2461)] 23), #[]⟩
abbrev o12_15 (P : Params) : Obj := ⟨.none, none, (.fields #[(.int 1 0), (.int 0 0), (.ref 20), (.int 5 0), (.int 0 0), (.ref 27), (.int 8 0), (.int 0 0), (.ref 34), (.int 15 0), (.int 0 0), (.ref 41), (.int 41 0), (.int 0 0), (.ref 104), (.int 47 0), (.int 0 0), (.ref 112), (.int 84 0), (.int 0 0), (.ref 120), (.int 124 0), (.int 0 0), (.ref 127), (.int 174 0), (.int 29 0), (.ref 161), (.int 175 0), (.int 29 0), (.ref 173)]), #[]⟩
def tree_15 (P : Params) : BT := (.node (o0 P) (.node (o1 P) (.node (o3_15 P) (.node (o7 P) (.node (o15 P) (.node (o31 P) (.node (o63 P) (.node (o127 P) .nil .nil) .nil) (.node (o95 P) (.node (o159 P) .nil .nil) .nil)) (.node (o47 P) (.node (o79 P) (.node (o143 P) .nil .nil) .nil) (.node (o111 P) (.node (o175 P) .nil .nil) .nil))) (.node (o23 P) (.node (o39 P) (.node (o71 P) (.node (o135 P) .nil .nil) .nil) (.node (o103 P) (.node (o167 P) .nil .nil) .nil)) (.node (o55 P) (.node (o87 P) (.node (o151 P) .nil .nil) .nil) (.node (o119 P) .nil .nil)))) (.node (o11 P) (.node (o19 P) (.node (o35 P) (.node (o67 P) (.node (o131 P) .nil .nil) .nil) (.node (o99 P) (.node (o163 P) .nil .nil) .nil)) (.node (o51 P) (.node (o83 P) (.node (o147 P) .nil .nil) .nil) (.node (o115 P) (.node (o179 P) .nil .nil) .nil))) (.node (o27 P) (.node (o43 P) (.node (o75 P) (.node (o139 P) .nil .nil) .nil) (.node (o107 P) (.node (o171 P) .nil .nil) .nil)) (.node (o59 P) (.node (o91 P) (.node (o155 P) .nil .nil) .nil) (.node (o123 P) .nil .nil))))) (.node (o5 P) (.node (o9 P) (.node (o17 P) (.node (o33 P) (.node (o65 P) (.node (o129 P) .nil .nil) .nil) (.node (o97 P) (.node (o161 P) .nil .nil) .nil)) (.node (o49 P) (.node (o81 P) (.node (o145 P) .nil .nil) .nil) (.node (o113 P) (.node (o177 P) .nil .nil) .nil))) (.node (o25 P) (.node (o41 P) (.node (o73 P) (.node (o137 P) .nil .nil) .nil) (.node (o105 P) (.node (o169 P) .nil .nil) .nil)) (.node (o57 P) (.node (o89 P) (.node (o153 P) .nil .nil) .nil) (.node (o121 P) .nil .nil)))) (.node (o13 P) (.node (o21 P) (.node (o37 P) (.node (o69 P) (.node (o133 P) .nil .nil) .nil) (.node (o101 P) (.node (o165 P) .nil .nil) .nil)) (.node (o53 P) (.node (o85 P) (.node (o149 P) .nil .nil) .nil) (.node (o117 P) .nil .nil))) (.node (o29 P) (.node (o45 P) (.node (o77 P) (.node (o141 P) .nil .nil) .nil) (.node (o109 P) (.node (o173 P) .nil .nil) .nil)) (.node (o61 P) (.node (o93 P) (.node (o157 P) .nil .nil) .nil) (.node (o125 P) .nil .nil)))))) (.node (o2 P) (.node (o4 P) (.node (o8 P) (.node (o16 P) (.node (o32 P) (.node (o64 P) (.node (o128 P) .nil .nil) .nil) (.node (o96 P) (.node (o160 P) .nil .nil) .nil)) (.node (o48 P) (.node (o80 P) (.node (o144 P) .nil .nil) .nil) (.node (o112 P) (.node (o176 P) .nil .nil) .nil))) (.node (o24 P) (.node (o40 P) (.node (o72 P) (.node (o136 P) .nil .nil) .nil) (.node (o104 P) (.node (o168 P) .nil .nil) .nil)) (.node (o56 P) (.node (o88 P) (.node (o152 P) .nil .nil) .nil) (.node (o120 P) .nil .nil)))) (.node (o12_15 P) (.node (o20 P) (.node (o36 P) (.node (o68 P) (.node (o132 P) .nil .nil) .nil) (.node (o100 P) (.node (o164 P) .nil .nil) .nil)) (.node (o52 P) (.node (o84 P) (.node (o148 P) .nil .nil) .nil) (.node (o116 P) (.node (o180 P) .nil .nil) .nil))) (.node (o28 P) (.node (o44 P) (.node (o76 P) (.node (o140 P) .nil .nil) .nil) (.node (o108 P) (.node (o172 P) .nil .nil) .nil)) (.node (o60 P) (.node (o92 P) (.node (o156 P) .nil .nil) .nil) (.node (o124 P) .nil .nil))))) (.node (o6 P) (.node (o10 P) (.node (o18 P) (.node (o34 P) (.node (o66 P) (.node (o130 P) .nil .nil) .nil) (.node (o98 P) (.node (o162 P) .nil .nil) .nil)) (.node (o50 P) (.node (o82 P) (.node (o146 P) .nil .nil) .nil) (.node (o114 P) (.node (o178 P) .nil .nil) .nil))) (.node (o26 P) (.node (o42 P) (.node (o74 P) (.node (o138 P) .nil .nil) .nil) (.node (o106 P) (.node (o170 P) .nil .nil) .nil)) (.node (o58 P) (.node (o90 P) (.node (o154 P) .nil .nil) .nil) (.node (o122 P) .nil .nil)))) (.node (o14 P) (.node (o22 P) (.node (o38 P) (.node (o70 P) (.node (o134 P) .nil .nil) .nil) (.node (o102 P) (.node (o166 P) .nil .nil) .nil)) (.node (o54 P) (.node (o86 P) (.node (o150 P) .nil .nil) .nil) (.node (o118 P) .nil .nil))) (.node (o30 P) (.node (o46 P) (.node (o78 P) (.node (o142 P) .nil .nil) .nil) (.node (o110 P) (.node (o174 P) .nil .nil) .nil)) (.node (o62 P) (.node (o94 P) (.node (o158 P) .nil .nil) .nil) (.node (o126 P) .nil .nil)))))))
abbrev o3_18 (P : Params) : Obj := ⟨(.type "dict"), none, (.dict #[ent P ("__name__" : Str) 165 (.str ("passlib.handed" : Str) 2481), ent P ("__doc__" : Str) 166 .none, ent P ("__package__" : Str) 167 .none, ent P ("__loader__" : Str) 168 (.builtin "__main__.__loader__#opaque"), ent P ("__spec__" : Str) 169 .none, ent P ("__annotations__" : Str) 170 (.ref 6), ent P ("__builtins__" : Str) 171 (.ref 4), ent P ("__file__" : Str) 173 (.str ("/claim/cut.py" : Str) 172), ent P ("__cached__" : Str) 174 .none, ent P ("_wall" : Str) 193 (.ref 21), ent P ("ExpectedTypeError" : Str) 205 (.ref 28), ent P ("ExpectedStringError" : Str) 214 (.ref 35), ent P ("unicode" : Str) 215 (.type "str"), ent P ("join_byte_values" : Str) 216 (.type "bytes"), ent P ("join_byte_elems" : Str) 217 (.type "bytes"), ent P ("irange" : Str) 218 (.type "range"), ent P ("SequenceMixin" : Str) 295 (.ref 94), ent P ("is_same_codec" : Str) 304 (.ref 105), ent P ("to_bytes" : Str) 317 (.ref 113), ent P ("lookup_hash" : Str) 329 (.ref 121), ent P ("HashInfo" : Str) 388 (.ref 154), ent P ("_TRANS_5C" : Str) 1425 (.bytes (xorTab 92 256) 1424), ent P ("_TRANS_36" : Str) 2462 (.bytes (xorTab 54 256) 2461), ent P ("compile_hmac" : Str) 2480 (.ref 188), ent P ("_tuplegetter" : Str) 2539 (.ref 227)] 25), #[]⟩
abbrev o12_18 (P : Params) : Obj := ⟨.none, none, (.fields #[(.int 1 0), (.int 0 0), (.ref 20), (.int 5 0), (.int 0 0), (.ref 27), (.int 8 0), (.int 0 0), (.ref 34), (.int 15 0), (.int 0 0), (.ref 41), (.int 41 0), (.int 0 0), (.ref 104), (.int 47 0), (.int 0 0), (.ref 112), (.int 84 0), (.int 0 0), (.ref 120), (.int 124 0), (.int 0 0), (.ref 127), (.int 174 0), (.int 29 0), (.ref 161), (.int 175 0), (.int 29 0), (.ref 173), (.int 176 0), (.int 0 0), (.ref 187), (.int 241 0), (.int 0 0), (.ref 194)]), #[]⟩
def tree_18 (P : Params) : BT := (.node (o0 P) (.node (o1 P) (.node (o3_18 P) (.node (o7 P) (.node (o15 P) (.node (o31 P) (.node (o63 P) (.node (o127 P) .nil .nil) (.node (o191 P) .nil .nil)) (.node (o95 P) (.node (o159 P) .nil .nil) (.node (o223 P) .nil .nil))) (.node (o47 P) (.node (o79 P) (.node (o143 P) .nil .nil) (.node (o207 P) .nil .nil)) (.node (o111 P) (.node (o175 P) .nil .nil) .nil))) (.node (o23 P) (.node (o39 P) (.node (o71 P) (.node (o135 P) .nil .nil) (.node (o199 P) .nil .nil)) (.node (o103 P) (.node (o167 P) .nil .nil) (.node (o231 P) .nil .nil))) (.node (o55 P) (.node (o87 P) (.node (o151 P) .nil .nil) (.node (o215 P) .nil .nil)) (.node (o119 P) (.node (o183 P) .nil .nil) .nil)))) (.node (o11 P) (.node (o19 P) (.node (o35 P) (.node (o67 P) (.node (o131 P) .nil .nil) (.node (o195 P) .nil .nil)) (.node (o99 P) (.node (o163 P) .nil .nil) (.node (o227 P) .nil .nil))) (.node (o51 P) (.node (o83 P) (.node (o147 P) .nil .nil) (.node (o211 P) .nil .nil)) (.node (o115 P) (.node (o179 P) .nil .nil) .nil))) (.node (o27 P) (.node (o43 P) (.node (o75 P) (.node (o139 P) .nil .nil) (.node (o203 P) .nil .nil)) (.node (o107 P) (.node (o171 P) .nil .nil) .nil)) (.node (o59 P) (.node (o91 P) (.node (o155 P) .nil .nil) (.node (o219 P) .nil .nil)) (.node (o123 P) (.node (o187 P) .nil .nil) .nil))))) (.node (o5 P) (.node (o9 P) (.node (o17 P) (.node (o33 P) (.node (o65 P) (.node (o129 P) .nil .nil) (.node (o193 P) .nil .nil)) (.node (o97 P) (.node (o161 P) .nil .nil) (.node (o225 P) .nil .nil))) (.node (o49 P) (.node (o81 P) (.node (o145 P) .nil .nil) (.node (o209 P) .nil .nil)) (.node (o113 P) (.node (o177 P) .nil .nil) .nil))) (.node (o25 P) (.node (o41 P) (.node (o73 P) (.node (o137 P) .nil .nil) (.node (o201 P) .nil .nil)) (.node (o105 P) (.node (o169 P) .nil .nil) .nil)) (.node (o57 P) (.node (o89 P) (.node (o153 P) .nil .nil) (.node (o217 P) .nil .nil)) (.node (o121 P) (.node (o185 P) .nil .nil) .nil)))) (.node (o13 P) (.node (o21 P) (.node (o37 P) (.node (o69 P) (.node (o133 P) .nil .nil) (.node (o197 P) .nil .nil)) (.node (o101 P) (.node (o165 P) .nil .nil) (.node (o229 P) .nil .nil))) (.node (o53 P) (.node (o85 P) (.node (o149 P) .nil .nil) (.node (o213 P) .nil .nil)) (.node (o117 P) (.node (o181 P) .nil .nil) .nil))) (.node (o29 P) (.node (o45 P) (.node (o77 P) (.node (o141 P) .nil .nil) (.node (o205 P) .nil .nil)) (.node (o109 P) (.node (o173 P) .nil .nil) .nil)) (.node (o61 P) (.node (o93 P) (.node (o157 P) .nil .nil) (.node (o221 P) .nil .nil)) (.node (o125 P) (.node (o189 P) .nil .nil) .nil)))))) (.node (o2 P) (.node (o4 P) (.node (o8 P) (.node (o16 P) (.node (o32 P) (.node (o64 P) (.node (o128 P) .nil .nil) (.node (o192 P) .nil .nil)) (.node (o96 P) (.node (o160 P) .nil .nil) (.node (o224 P) .nil .nil))) (.node (o48 P) (.node (o80 P) (.node (o144 P) .nil .nil) (.node (o208 P) .nil .nil)) (.node (o112 P) (.node (o176 P) .nil .nil) .nil))) (.node (o24 P) (.node (o40 P) (.node (o72 P) (.node (o136 P) .nil .nil) (.node (o200 P) .nil .nil)) (.node (o104 P) (.node (o168 P) .nil .nil) .nil)) (.node (o56 P) (.node (o88 P) (.node (o152 P) .nil .nil) (.node (o216 P) .nil .nil)) (.node (o120 P) (.node (o184 P) .nil .nil) .nil)))) (.node (o12_18 P) (.node (o20 P) (.node (o36 P) (.node (o68 P) (.node (o132 P) .nil .nil) (.node (o196 P) .nil .nil)) (.node (o100 P) (.node (o164 P) .nil .nil) (.node (o228 P) .nil .nil))) (.node (o52 P) (.node (o84 P) (.node (o148 P) .nil .nil) (.node (o212 P) .nil .nil)) (.node (o116 P) (.node (o180 P) .nil .nil) .nil))) (.node (o28 P) (.node (o44 P) (.node (o76 P) (.node (o140 P) .nil .nil) (.node (o204 P) .nil .nil)) (.node (o108 P) (.node (o172 P) .nil .nil) .nil)) (.node (o60 P) (.node (o92 P) (.node (o156 P) .nil .nil) (.node (o220 P) .nil .nil)) (.node (o124 P) (.node (o188 P) .nil .nil) .nil))))) (.node (o6 P) (.node (o10 P) (.node (o18 P) (.node (o34 P) (.node (o66 P) (.node (o130 P) .nil .nil) (.node (o194 P) .nil .nil)) (.node (o98 P) (.node (o162 P) .nil .nil) (.node (o226 P) .nil .nil))) (.node (o50 P) (.node (o82 P) (.node (o146 P) .nil .nil) (.node (o210 P) .nil .nil)) (.node (o114 P) (.node (o178 P) .nil .nil) .nil))) (.node (o26 P) (.node (o42 P) (.node (o74 P) (.node (o138 P) .nil .nil) (.node (o202 P) .nil .nil)) (.node (o106 P) (.node (o170 P) .nil .nil) .nil)) (.node (o58 P) (.node (o90 P) (.node (o154 P) .nil .nil) (.node (o218 P) .nil .nil)) (.node (o122 P) (.node (o186 P) .nil .nil) .nil)))) (.node (o14 P) (.node (o22 P) (.node (o38 P) (.node (o70 P) (.node (o134 P) .nil .nil) (.node (o198 P) .nil .nil)) (.node (o102 P) (.node (o166 P) .nil .nil) (.node (o230 P) .nil .nil))) (.node (o54 P) (.node (o86 P) (.node (o150 P) .nil .nil) (.node (o214 P) .nil .nil)) (.node (o118 P) (.node (o182 P) .nil .nil) .nil))) (.node (o30 P) (.node (o46 P) (.node (o78 P) (.node (o142 P) .nil .nil) (.node (o206 P) .nil .nil)) (.node (o110 P) (.node (o174 P) .nil .nil) .nil)) (.node (o62 P) (.node (o94 P) (.node (o158 P) .nil .nil) (.node (o222 P) .nil .nil)) (.node (o126 P) (.node (o190 P) .nil .nil) .nil)))))))
abbrev o3_19 (P : Params) : Obj := ⟨(.type "dict"), none, (.dict #[ent P ("__name__" : Str) 165 (.str ("passlib.handed" : Str) 2481), ent P ("__doc__" : Str) 166 .none, ent P ("__package__" : Str) 167 .none, ent P ("__loader__" : Str) 168 (.builtin "__main__.__loader__#opaque"), ent P ("__spec__" : Str) 169 .none, ent P ("__annotations__" : Str) 170 (.ref 6), ent P ("__builtins__" : Str) 171 (.ref 4), ent P ("__file__" : Str) 173 (.str ("/claim/cut.py" : Str) 172), ent P ("__cached__" : Str) 174 .none, ent P ("_wall" : Str) 193 (.ref 21), ent P ("ExpectedTypeError" : Str) 205 (.ref 28), ent P ("ExpectedStringError" : Str) 214 (.ref 35), ent P ("unicode" : Str) 215 (.type "str"), ent P ("join_byte_values" : Str) 216 (.type "bytes"), ent P ("join_byte_elems" : Str) 217 (.type "bytes"), ent P ("irange" : Str) 218 (.type "range"), ent P ("SequenceMixin" : Str) 295 (.ref 94), ent P ("is_same_codec" : Str) 304 (.ref 105), ent P ("to_bytes" : Str) 317 (.ref 113), ent P ("lookup_hash" : Str) 329 (.ref 121), ent P ("HashInfo" : Str) 388 (.ref 154), ent P ("_TRANS_5C" : Str) 1425 (.bytes (xorTab 92 256) 1424), ent P ("_TRANS_36" : Str) 2462 (.bytes (xorTab 54 256) 2461), ent P ("compile_hmac" : Str) 2480 (.ref 188), ent P ("_tuplegetter" : Str) 2539 (.ref 227), ent P ("Handed" : Str) 2693 (.ref 308)] 26), #[]⟩
abbrev o12_19 (P : Params) : Obj := ⟨.none, none, (.fields #[(.int 1 0), (.int 0 0), (.ref 20), (.int 5 0), (.int 0 0), (.ref 27), (.int 8 0), (.int 0 0), (.ref 34), (.int 15 0), (.int 0 0), (.ref 41), (.int 41 0), (.int 0 0), (.ref 104), (.int 47 0), (.int 0 0), (.ref 112), (.int 84 0), (.int 0 0), (.ref 120), (.int 124 0), (.int 0 0), (.ref 127), (.int 174 0), (.int 29 0), (.ref 161), (.int 175 0), (.int 29 0), (.ref 173), (.int 176 0), (.int 0 0), (.ref 187), (.int 241 0), (.int 0 0), (.ref 194), (.int 259 0), (.int 0 0), (.ref 238)]), #[]⟩
def tree_19 (P : Params) : BT := (.node (o0 P) (.node (o1 P) (.node (o3_19 P) (.node (o7 P) (.node (o15 P) (.node (o31 P) (.node (o63 P) (.node (o127 P) (.node (o255 P) .nil .nil) .nil) (.node (o191 P) .nil .nil)) (.node (o95 P) (.node (o159 P) (.node (o287 P) .nil .nil) .nil) (.node (o223 P) .nil .nil))) (.node (o47 P) (.node (o79 P) (.node (o143 P) (.node (o271 P) .nil .nil) .nil) (.node (o207 P) .nil .nil)) (.node (o111 P) (.node (o175 P) (.node (o303 P) .nil .nil) .nil) (.node (o239 P) .nil .nil)))) (.node (o23 P) (.node (o39 P) (.node (o71 P) (.node (o135 P) (.node (o263 P) .nil .nil) .nil) (.node (o199 P) .nil .nil)) (.node (o103 P) (.node (o167 P) (.node (o295 P) .nil .nil) .nil) (.node (o231 P) .nil .nil))) (.node (o55 P) (.node (o87 P) (.node (o151 P) (.node (o279 P) .nil .nil) .nil) (.node (o215 P) .nil .nil)) (.node (o119 P) (.node (o183 P) (.node (o311 P) .nil .nil) .nil) (.node (o247 P) .nil .nil))))) (.node (o11 P) (.node (o19 P) (.node (o35 P) (.node (o67 P) (.node (o131 P) (.node (o259 P) .nil .nil) .nil) (.node (o195 P) .nil .nil)) (.node (o99 P) (.node (o163 P) (.node (o291 P) .nil .nil) .nil) (.node (o227 P) .nil .nil))) (.node (o51 P) (.node (o83 P) (.node (o147 P) (.node (o275 P) .nil .nil) .nil) (.node (o211 P) .nil .nil)) (.node (o115 P) (.node (o179 P) (.node (o307 P) .nil .nil) .nil) (.node (o243 P) .nil .nil)))) (.node (o27 P) (.node (o43 P) (.node (o75 P) (.node (o139 P) (.node (o267 P) .nil .nil) .nil) (.node (o203 P) .nil .nil)) (.node (o107 P) (.node (o171 P) (.node (o299 P) .nil .nil) .nil) (.node (o235 P) .nil .nil))) (.node (o59 P) (.node (o91 P) (.node (o155 P) (.node (o283 P) .nil .nil) .nil) (.node (o219 P) .nil .nil)) (.node (o123 P) (.node (o187 P) .nil .nil) (.node (o251 P) .nil .nil)))))) (.node (o5 P) (.node (o9 P) (.node (o17 P) (.node (o33 P) (.node (o65 P) (.node (o129 P) (.node (o257 P) .nil .nil) .nil) (.node (o193 P) .nil .nil)) (.node (o97 P) (.node (o161 P) (.node (o289 P) .nil .nil) .nil) (.node (o225 P) .nil .nil))) (.node (o49 P) (.node (o81 P) (.node (o145 P) (.node (o273 P) .nil .nil) .nil) (.node (o209 P) .nil .nil)) (.node (o113 P) (.node (o177 P) (.node (o305 P) .nil .nil) .nil) (.node (o241 P) .nil .nil)))) (.node (o25 P) (.node (o41 P) (.node (o73 P) (.node (o137 P) (.node (o265 P) .nil .nil) .nil) (.node (o201 P) .nil .nil)) (.node (o105 P) (.node (o169 P) (.node (o297 P) .nil .nil) .nil) (.node (o233 P) .nil .nil))) (.node (o57 P) (.node (o89 P) (.node (o153 P) (.node (o281 P) .nil .nil) .nil) (.node (o217 P) .nil .nil)) (.node (o121 P) (.node (o185 P) .nil .nil) (.node (o249 P) .nil .nil))))) (.node (o13 P) (.node (o21 P) (.node (o37 P) (.node (o69 P) (.node (o133 P) (.node (o261 P) .nil .nil) .nil) (.node (o197 P) .nil .nil)) (.node (o101 P) (.node (o165 P) (.node (o293 P) .nil .nil) .nil) (.node (o229 P) .nil .nil))) (.node (o53 P) (.node (o85 P) (.node (o149 P) (.node (o277 P) .nil .nil) .nil) (.node (o213 P) .nil .nil)) (.node (o117 P) (.node (o181 P) (.node (o309 P) .nil .nil) .nil) (.node (o245 P) .nil .nil)))) (.node (o29 P) (.node (o45 P) (.node (o77 P) (.node (o141 P) (.node (o269 P) .nil .nil) .nil) (.node (o205 P) .nil .nil)) (.node (o109 P) (.node (o173 P) (.node (o301 P) .nil .nil) .nil) (.node (o237 P) .nil .nil))) (.node (o61 P) (.node (o93 P) (.node (o157 P) (.node (o285 P) .nil .nil) .nil) (.node (o221 P) .nil .nil)) (.node (o125 P) (.node (o189 P) .nil .nil) (.node (o253 P) .nil .nil))))))) (.node (o2 P) (.node (o4 P) (.node (o8 P) (.node (o16 P) (.node (o32 P) (.node (o64 P) (.node (o128 P) (.node (o256 P) .nil .nil) .nil) (.node (o192 P) .nil .nil)) (.node (o96 P) (.node (o160 P) (.node (o288 P) .nil .nil) .nil) (.node (o224 P) .nil .nil))) (.node (o48 P) (.node (o80 P) (.node (o144 P) (.node (o272 P) .nil .nil) .nil) (.node (o208 P) .nil .nil)) (.node (o112 P) (.node (o176 P) (.node (o304 P) .nil .nil) .nil) (.node (o240 P) .nil .nil)))) (.node (o24 P) (.node (o40 P) (.node (o72 P) (.node (o136 P) (.node (o264 P) .nil .nil) .nil) (.node (o200 P) .nil .nil)) (.node (o104 P) (.node (o168 P) (.node (o296 P) .nil .nil) .nil) (.node (o232 P) .nil .nil))) (.node (o56 P) (.node (o88 P) (.node (o152 P) (.node (o280 P) .nil .nil) .nil) (.node (o216 P) .nil .nil)) (.node (o120 P) (.node (o184 P) .nil .nil) (.node (o248 P) .nil .nil))))) (.node (o12_19 P) (.node (o20 P) (.node (o36 P) (.node (o68 P) (.node (o132 P) (.node (o260 P) .nil .nil) .nil) (.node (o196 P) .nil .nil)) (.node (o100 P) (.node (o164 P) (.node (o292 P) .nil .nil) .nil) (.node (o228 P) .nil .nil))) (.node (o52 P) (.node (o84 P) (.node (o148 P) (.node (o276 P) .nil .nil) .nil) (.node (o212 P) .nil .nil)) (.node (o116 P) (.node (o180 P) (.node (o308 P) .nil .nil) .nil) (.node (o244 P) .nil .nil)))) (.node (o28 P) (.node (o44 P) (.node (o76 P) (.node (o140 P) (.node (o268 P) .nil .nil) .nil) (.node (o204 P) .nil .nil)) (.node (o108 P) (.node (o172 P) (.node (o300 P) .nil .nil) .nil) (.node (o236 P) .nil .nil))) (.node (o60 P) (.node (o92 P) (.node (o156 P) (.node (o284 P) .nil .nil) .nil) (.node (o220 P) .nil .nil)) (.node (o124 P) (.node (o188 P) .nil .nil) (.node (o252 P) .nil .nil)))))) (.node (o6 P) (.node (o10 P) (.node (o18 P) (.node (o34 P) (.node (o66 P) (.node (o130 P) (.node (o258 P) .nil .nil) .nil) (.node (o194 P) .nil .nil)) (.node (o98 P) (.node (o162 P) (.node (o290 P) .nil .nil) .nil) (.node (o226 P) .nil .nil))) (.node (o50 P) (.node (o82 P) (.node (o146 P) (.node (o274 P) .nil .nil) .nil) (.node (o210 P) .nil .nil)) (.node (o114 P) (.node (o178 P) (.node (o306 P) .nil .nil) .nil) (.node (o242 P) .nil .nil)))) (.node (o26 P) (.node (o42 P) (.node (o74 P) (.node (o138 P) (.node (o266 P) .nil .nil) .nil) (.node (o202 P) .nil .nil)) (.node (o106 P) (.node (o170 P) (.node (o298 P) .nil .nil) .nil) (.node (o234 P) .nil .nil))) (.node (o58 P) (.node (o90 P) (.node (o154 P) (.node (o282 P) .nil .nil) .nil) (.node (o218 P) .nil .nil)) (.node (o122 P) (.node (o186 P) .nil .nil) (.node (o250 P) .nil .nil))))) (.node (o14 P) (.node (o22 P) (.node (o38 P) (.node (o70 P) (.node (o134 P) (.node (o262 P) .nil .nil) .nil) (.node (o198 P) .nil .nil)) (.node (o102 P) (.node (o166 P) (.node (o294 P) .nil .nil) .nil) (.node (o230 P) .nil .nil))) (.node (o54 P) (.node (o86 P) (.node (o150 P) (.node (o278 P) .nil .nil) .nil) (.node (o214 P) .nil .nil)) (.node (o118 P) (.node (o182 P) (.node (o310 P) .nil .nil) .nil) (.node (o246 P) .nil .nil)))) (.node (o30 P) (.node (o46 P) (.node (o78 P) (.node (o142 P) (.node (o270 P) .nil .nil) .nil) (.node (o206 P) .nil .nil)) (.node (o110 P) (.node (o174 P) (.node (o302 P) .nil .nil) .nil) (.node (o238 P) .nil .nil))) (.node (o62 P) (.node (o94 P) (.node (o158 P) (.node (o286 P) .nil .nil) .nil) (.node (o222 P) .nil .nil)) (.node (o126 P) (.node (o190 P) .nil .nil) (.node (o254 P) .nil .nil))))))))
def tree_26 (P : Params) : BT := (.node (o0 P) (.node (o1 P) (.node (o3 P) (.node (o7 P) (.node (o15 P) (.node (o31 P) (.node (o63 P) (.node (o127 P) (.node (o255 P) .nil .nil) .nil) (.node (o191 P) (.node (o319 P) .nil .nil) .nil)) (.node (o95 P) (.node (o159 P) (.node (o287 P) .nil .nil) .nil) (.node (o223 P) .nil .nil))) (.node (o47 P) (.node (o79 P) (.node (o143 P) (.node (o271 P) .nil .nil) .nil) (.node (o207 P) (.node (o335 P) .nil .nil) .nil)) (.node (o111 P) (.node (o175 P) (.node (o303 P) .nil .nil) .nil) (.node (o239 P) .nil .nil)))) (.node (o23 P) (.node (o39 P) (.node (o71 P) (.node (o135 P) (.node (o263 P) .nil .nil) .nil) (.node (o199 P) (.node (o327 P) .nil .nil) .nil)) (.node (o103 P) (.node (o167 P) (.node (o295 P) .nil .nil) .nil) (.node (o231 P) .nil .nil))) (.node (o55 P) (.node (o87 P) (.node (o151 P) (.node (o279 P) .nil .nil) .nil) (.node (o215 P) (.node (o343 P) .nil .nil) .nil)) (.node (o119 P) (.node (o183 P) (.node (o311 P) .nil .nil) .nil) (.node (o247 P) .nil .nil))))) (.node (o11 P) (.node (o19 P) (.node (o35 P) (.node (o67 P) (.node (o131 P) (.node (o259 P) .nil .nil) .nil) (.node (o195 P) (.node (o323 P) .nil .nil) .nil)) (.node (o99 P) (.node (o163 P) (.node (o291 P) .nil .nil) .nil) (.node (o227 P) .nil .nil))) (.node (o51 P) (.node (o83 P) (.node (o147 P) (.node (o275 P) .nil .nil) .nil) (.node (o211 P) (.node (o339 P) .nil .nil) .nil)) (.node (o115 P) (.node (o179 P) (.node (o307 P) .nil .nil) .nil) (.node (o243 P) .nil .nil)))) (.node (o27 P) (.node (o43 P) (.node (o75 P) (.node (o139 P) (.node (o267 P) .nil .nil) .nil) (.node (o203 P) (.node (o331 P) .nil .nil) .nil)) (.node (o107 P) (.node (o171 P) (.node (o299 P) .nil .nil) .nil) (.node (o235 P) .nil .nil))) (.node (o59 P) (.node (o91 P) (.node (o155 P) (.node (o283 P) .nil .nil) .nil) (.node (o219 P) (.node (o347 P) .nil .nil) .nil)) (.node (o123 P) (.node (o187 P) (.node (o315 P) .nil .nil) .nil) (.node (o251 P) .nil .nil)))))) (.node (o5 P) (.node (o9 P) (.node (o17 P) (.node (o33 P) (.node (o65 P) (.node (o129 P) (.node (o257 P) .nil .nil) .nil) (.node (o193 P) (.node (o321 P) .nil .nil) .nil)) (.node (o97 P) (.node (o161 P) (.node (o289 P) .nil .nil) .nil) (.node (o225 P) .nil .nil))) (.node (o49 P) (.node (o81 P) (.node (o145 P) (.node (o273 P) .nil .nil) .nil) (.node (o209 P) (.node (o337 P) .nil .nil) .nil)) (.node (o113 P) (.node (o177 P) (.node (o305 P) .nil .nil) .nil) (.node (o241 P) .nil .nil)))) (.node (o25 P) (.node (o41 P) (.node (o73 P) (.node (o137 P) (.node (o265 P) .nil .nil) .nil) (.node (o201 P) (.node (o329 P) .nil .nil) .nil)) (.node (o105 P) (.node (o169 P) (.node (o297 P) .nil .nil) .nil) (.node (o233 P) .nil .nil))) (.node (o57 P) (.node (o89 P) (.node (o153 P) (.node (o281 P) .nil .nil) .nil) (.node (o217 P) (.node (o345 P) .nil .nil) .nil)) (.node (o121 P) (.node (o185 P) (.node (o313 P) .nil .nil) .nil) (.node (o249 P) .nil .nil))))) (.node (o13 P) (.node (o21 P) (.node (o37 P) (.node (o69 P) (.node (o133 P) (.node (o261 P) .nil .nil) .nil) (.node (o197 P) (.node (o325 P) .nil .nil) .nil)) (.node (o101 P) (.node (o165 P) (.node (o293 P) .nil .nil) .nil) (.node (o229 P) .nil .nil))) (.node (o53 P) (.node (o85 P) (.node (o149 P) (.node (o277 P) .nil .nil) .nil) (.node (o213 P) (.node (o341 P) .nil .nil) .nil)) (.node (o117 P) (.node (o181 P) (.node (o309 P) .nil .nil) .nil) (.node (o245 P) .nil .nil)))) (.node (o29 P) (.node (o45 P) (.node (o77 P) (.node (o141 P) (.node (o269 P) .nil .nil) .nil) (.node (o205 P) (.node (o333 P) .nil .nil) .nil)) (.node (o109 P) (.node (o173 P) (.node (o301 P) .nil .nil) .nil) (.node (o237 P) .nil .nil))) (.node (o61 P) (.node (o93 P) (.node (o157 P) (.node (o285 P) .nil .nil) .nil) (.node (o221 P) (.node (o349 P) .nil .nil) .nil)) (.node (o125 P) (.node (o189 P) (.node (o317 P) .nil .nil) .nil) (.node (o253 P) .nil .nil))))))) (.node (o2 P) (.node (o4 P) (.node (o8 P) (.node (o16 P) (.node (o32 P) (.node (o64 P) (.node (o128 P) (.node (o256 P) .nil .nil) .nil) (.node (o192 P) (.node (o320 P) .nil .nil) .nil)) (.node (o96 P) (.node (o160 P) (.node (o288 P) .nil .nil) .nil) (.node (o224 P) .nil .nil))) (.node (o48 P) (.node (o80 P) (.node (o144 P) (.node (o272 P) .nil .nil) .nil) (.node (o208 P) (.node (o336 P) .nil .nil) .nil)) (.node (o112 P) (.node (o176 P) (.node (o304 P) .nil .nil) .nil) (.node (o240 P) .nil .nil)))) (.node (o24 P) (.node (o40 P) (.node (o72 P) (.node (o136 P) (.node (o264 P) .nil .nil) .nil) (.node (o200 P) (.node (o328 P) .nil .nil) .nil)) (.node (o104 P) (.node (o168 P) (.node (o296 P) .nil .nil) .nil) (.node (o232 P) .nil .nil))) (.node (o56 P) (.node (o88 P) (.node (o152 P) (.node (o280 P) .nil .nil) .nil) (.node (o216 P) (.node (o344 P) .nil .nil) .nil)) (.node (o120 P) (.node (o184 P) (.node (o312 P) .nil .nil) .nil) (.node (o248 P) .nil .nil))))) (.node (o12 P) (.node (o20 P) (.node (o36 P) (.node (o68 P) (.node (o132 P) (.node (o260 P) .nil .nil) .nil) (.node (o196 P) (.node (o324 P) .nil .nil) .nil)) (.node (o100 P) (.node (o164 P) (.node (o292 P) .nil .nil) .nil) (.node (o228 P) .nil .nil))) (.node (o52 P) (.node (o84 P) (.node (o148 P) (.node (o276 P) .nil .nil) .nil) (.node (o212 P) (.node (o340 P) .nil .nil) .nil)) (.node (o116 P) (.node (o180 P) (.node (o308 P) .nil .nil) .nil) (.node (o244 P) .nil .nil)))) (.node (o28 P) (.node (o44 P) (.node (o76 P) (.node (o140 P) (.node (o268 P) .nil .nil) .nil) (.node (o204 P) (.node (o332 P) .nil .nil) .nil)) (.node (o108 P) (.node (o172 P) (.node (o300 P) .nil .nil) .nil) (.node (o236 P) .nil .nil))) (.node (o60 P) (.node (o92 P) (.node (o156 P) (.node (o284 P) .nil .nil) .nil) (.node (o220 P) (.node (o348 P) .nil .nil) .nil)) (.node (o124 P) (.node (o188 P) (.node (o316 P) .nil .nil) .nil) (.node (o252 P) .nil .nil)))))) (.node (o6 P) (.node (o10 P) (.node (o18 P) (.node (o34 P) (.node (o66 P) (.node (o130 P) (.node (o258 P) .nil .nil) .nil) (.node (o194 P) (.node (o322 P) .nil .nil) .nil)) (.node (o98 P) (.node (o162 P) (.node (o290 P) .nil .nil) .nil) (.node (o226 P) .nil .nil))) (.node (o50 P) (.node (o82 P) (.node (o146 P) (.node (o274 P) .nil .nil) .nil) (.node (o210 P) (.node (o338 P) .nil .nil) .nil)) (.node (o114 P) (.node (o178 P) (.node (o306 P) .nil .nil) .nil) (.node (o242 P) .nil .nil)))) (.node (o26 P) (.node (o42 P) (.node (o74 P) (.node (o138 P) (.node (o266 P) .nil .nil) .nil) (.node (o202 P) (.node (o330 P) .nil .nil) .nil)) (.node (o106 P) (.node (o170 P) (.node (o298 P) .nil .nil) .nil) (.node (o234 P) .nil .nil))) (.node (o58 P) (.node (o90 P) (.node (o154 P) (.node (o282 P) .nil .nil) .nil) (.node (o218 P) (.node (o346 P) .nil .nil) .nil)) (.node (o122 P) (.node (o186 P) (.node (o314 P) .nil .nil) .nil) (.node (o250 P) .nil .nil))))) (.node (o14 P) (.node (o22 P) (.node (o38 P) (.node (o70 P) (.node (o134 P) (.node (o262 P) .nil .nil) .nil) (.node (o198 P) (.node (o326 P) .nil .nil) .nil)) (.node (o102 P) (.node (o166 P) (.node (o294 P) .nil .nil) .nil) (.node (o230 P) .nil .nil))) (.node (o54 P) (.node (o86 P) (.node (o150 P) (.node (o278 P) .nil .nil) .nil) (.node (o214 P) (.node (o342 P) .nil .nil) .nil)) (.node (o118 P) (.node (o182 P) (.node (o310 P) .nil .nil) .nil) (.node (o246 P) .nil .nil)))) (.node (o30 P) (.node (o46 P) (.node (o78 P) (.node (o142 P) (.node (o270 P) .nil .nil) .nil) (.node (o206 P) (.node (o334 P) .nil .nil) .nil)) (.node (o110 P) (.node (o174 P) (.node (o302 P) .nil .nil) .nil) (.node (o238 P) .nil .nil))) (.node (o62 P) (.node (o94 P) (.node (o158 P) (.node (o286 P) .nil .nil) .nil) (.node (o222 P) .nil .nil)) (.node (o126 P) (.node (o190 P) (.node (o318 P) .nil .nil) .nil) (.node (o254 P) .nil .nil))))))))
def tree_14L (P : Params) (a b c : Obj) : BT := (.node (o0 P) (.node (o1 P) (.node (o3_13 P) (.node (o7 P) (.node (o15 P) (.node (o31 P) (.node (o63 P) (.node (o127 P) .nil .nil) .nil) (.node (o95 P) (.node (o159 P) .nil .nil) .nil)) (.node (o47 P) (.node (o79 P) (.node (o143 P) .nil .nil) .nil) (.node (o111 P) .nil .nil))) (.node (o23 P) (.node (o39 P) (.node (o71 P) (.node (o135 P) .nil .nil) .nil) (.node (o103 P) .nil .nil)) (.node (o55 P) (.node (o87 P) (.node (o151 P) .nil .nil) .nil) (.node (o119 P) .nil .nil)))) (.node (o11 P) (.node (o19 P) (.node (o35 P) (.node (o67 P) (.node (o131 P) .nil .nil) .nil) (.node (o99 P) (.node (o163 P) .nil .nil) .nil)) (.node (o51 P) (.node (o83 P) (.node (o147 P) .nil .nil) .nil) (.node (o115 P) .nil .nil))) (.node (o27 P) (.node (o43 P) (.node (o75 P) (.node (o139 P) .nil .nil) .nil) (.node (o107 P) .nil .nil)) (.node (o59 P) (.node (o91 P) (.node (o155 P) .nil .nil) .nil) (.node (o123 P) .nil .nil))))) (.node (o5 P) (.node (o9 P) (.node (o17 P) (.node (o33 P) (.node (o65 P) (.node (o129 P) .nil .nil) .nil) (.node (o97 P) (.node (o161 P) .nil .nil) .nil)) (.node (o49 P) (.node (o81 P) (.node (o145 P) .nil .nil) .nil) (.node (o113 P) .nil .nil))) (.node (o25 P) (.node (o41 P) (.node (o73 P) (.node (o137 P) .nil .nil) .nil) (.node (o105 P) .nil .nil)) (.node (o57 P) (.node (o89 P) (.node (o153 P) .nil .nil) .nil) (.node (o121 P) .nil .nil)))) (.node (o13 P) (.node (o21 P) (.node (o37 P) (.node (o69 P) (.node (o133 P) .nil .nil) .nil) (.node (o101 P) .nil .nil)) (.node (o53 P) (.node (o85 P) (.node (o149 P) .nil .nil) .nil) (.node (o117 P) .nil .nil))) (.node (o29 P) (.node (o45 P) (.node (o77 P) (.node (o141 P) .nil .nil) .nil) (.node (o109 P) .nil .nil)) (.node (o61 P) (.node (o93 P) (.node (o157 P) .nil .nil) .nil) (.node (o125 P) .nil .nil)))))) (.node (o2 P) (.node (o4 P) (.node (o8 P) (.node (o16 P) (.node (o32 P) (.node (o64 P) (.node (o128 P) .nil .nil) .nil) (.node (o96 P) (.node (o160 P) .nil .nil) .nil)) (.node (o48 P) (.node (o80 P) (.node (o144 P) .nil .nil) .nil) (.node (o112 P) .nil .nil))) (.node (o24 P) (.node (o40 P) (.node (o72 P) (.node (o136 P) .nil .nil) .nil) (.node (o104 P) .nil .nil)) (.node (o56 P) (.node (o88 P) (.node (o152 P) .nil .nil) .nil) (.node (o120 P) .nil .nil)))) (.node (o12_14 P) (.node (o20 P) (.node (o36 P) (.node (o68 P) (.node (o132 P) .nil .nil) .nil) (.node (o100 P) (.node c .nil .nil) .nil)) (.node (o52 P) (.node (o84 P) (.node (o148 P) .nil .nil) .nil) (.node (o116 P) .nil .nil))) (.node (o28 P) (.node (o44 P) (.node (o76 P) (.node (o140 P) .nil .nil) .nil) (.node (o108 P) .nil .nil)) (.node (o60 P) (.node (o92 P) (.node (o156 P) .nil .nil) .nil) (.node (o124 P) .nil .nil))))) (.node (o6 P) (.node (o10 P) (.node (o18 P) (.node (o34 P) (.node (o66 P) (.node (o130 P) .nil .nil) .nil) (.node (o98 P) (.node b .nil .nil) .nil)) (.node (o50 P) (.node (o82 P) (.node (o146 P) .nil .nil) .nil) (.node (o114 P) .nil .nil))) (.node (o26 P) (.node (o42 P) (.node (o74 P) (.node (o138 P) .nil .nil) .nil) (.node (o106 P) .nil .nil)) (.node (o58 P) (.node (o90 P) (.node (o154 P) .nil .nil) .nil) (.node (o122 P) .nil .nil)))) (.node (o14 P) (.node (o22 P) (.node (o38 P) (.node (o70 P) (.node (o134 P) .nil .nil) .nil) (.node (o102 P) .nil .nil)) (.node (o54 P) (.node (o86 P) (.node (o150 P) .nil .nil) .nil) (.node (o118 P) .nil .nil))) (.node (o30 P) (.node (o46 P) (.node (o78 P) (.node (o142 P) .nil .nil) .nil) (.node (o110 P) .nil .nil)) (.node (o62 P) (.node (o94 P) (.node a .nil .nil) .nil) (.node (o126 P) .nil .nil)))))))
def tree_15L (P : Params) (a b c : Obj) : BT := (.node (o0 P) (.node (o1 P) (.node (o3_14 P) (.node (o7 P) (.node (o15 P) (.node (o31 P) (.node (o63 P) (.node (o127 P) .nil .nil) .nil) (.node (o95 P) (.node (o159 P) .nil .nil) .nil)) (.node (o47 P) (.node (o79 P) (.node (o143 P) .nil .nil) .nil) (.node (o111 P) (.node (o175 P) .nil .nil) .nil))) (.node (o23 P) (.node (o39 P) (.node (o71 P) (.node (o135 P) .nil .nil) .nil) (.node (o103 P) (.node (o167 P) .nil .nil) .nil)) (.node (o55 P) (.node (o87 P) (.node (o151 P) .nil .nil) .nil) (.node (o119 P) .nil .nil)))) (.node (o11 P) (.node (o19 P) (.node (o35 P) (.node (o67 P) (.node (o131 P) .nil .nil) .nil) (.node (o99 P) (.node (o163 P) .nil .nil) .nil)) (.node (o51 P) (.node (o83 P) (.node (o147 P) .nil .nil) .nil) (.node (o115 P) .nil .nil))) (.node (o27 P) (.node (o43 P) (.node (o75 P) (.node (o139 P) .nil .nil) .nil) (.node (o107 P) (.node (o171 P) .nil .nil) .nil)) (.node (o59 P) (.node (o91 P) (.node (o155 P) .nil .nil) .nil) (.node (o123 P) .nil .nil))))) (.node (o5 P) (.node (o9 P) (.node (o17 P) (.node (o33 P) (.node (o65 P) (.node (o129 P) .nil .nil) .nil) (.node (o97 P) (.node (o161 P) .nil .nil) .nil)) (.node (o49 P) (.node (o81 P) (.node (o145 P) .nil .nil) .nil) (.node (o113 P) .nil .nil))) (.node (o25 P) (.node (o41 P) (.node (o73 P) (.node (o137 P) .nil .nil) .nil) (.node (o105 P) (.node (o169 P) .nil .nil) .nil)) (.node (o57 P) (.node (o89 P) (.node (o153 P) .nil .nil) .nil) (.node (o121 P) .nil .nil)))) (.node (o13 P) (.node (o21 P) (.node (o37 P) (.node (o69 P) (.node (o133 P) .nil .nil) .nil) (.node (o101 P) (.node (o165 P) .nil .nil) .nil)) (.node (o53 P) (.node (o85 P) (.node (o149 P) .nil .nil) .nil) (.node (o117 P) .nil .nil))) (.node (o29 P) (.node (o45 P) (.node (o77 P) (.node (o141 P) .nil .nil) .nil) (.node (o109 P) (.node (o173 P) .nil .nil) .nil)) (.node (o61 P) (.node (o93 P) (.node (o157 P) .nil .nil) .nil) (.node (o125 P) .nil .nil)))))) (.node (o2 P) (.node (o4 P) (.node (o8 P) (.node (o16 P) (.node (o32 P) (.node (o64 P) (.node (o128 P) .nil .nil) .nil) (.node (o96 P) (.node (o160 P) .nil .nil) .nil)) (.node (o48 P) (.node (o80 P) (.node (o144 P) .nil .nil) .nil) (.node (o112 P) (.node c .nil .nil) .nil))) (.node (o24 P) (.node (o40 P) (.node (o72 P) (.node (o136 P) .nil .nil) .nil) (.node (o104 P) (.node (o168 P) .nil .nil) .nil)) (.node (o56 P) (.node (o88 P) (.node (o152 P) .nil .nil) .nil) (.node (o120 P) .nil .nil)))) (.node (o12_15 P) (.node (o20 P) (.node (o36 P) (.node (o68 P) (.node (o132 P) .nil .nil) .nil) (.node (o100 P) (.node (o164 P) .nil .nil) .nil)) (.node (o52 P) (.node (o84 P) (.node (o148 P) .nil .nil) .nil) (.node (o116 P) .nil .nil))) (.node (o28 P) (.node (o44 P) (.node (o76 P) (.node (o140 P) .nil .nil) .nil) (.node (o108 P) (.node (o172 P) .nil .nil) .nil)) (.node (o60 P) (.node (o92 P) (.node (o156 P) .nil .nil) .nil) (.node (o124 P) .nil .nil))))) (.node (o6 P) (.node (o10 P) (.node (o18 P) (.node (o34 P) (.node (o66 P) (.node (o130 P) .nil .nil) .nil) (.node (o98 P) (.node (o162 P) .nil .nil) .nil)) (.node (o50 P) (.node (o82 P) (.node (o146 P) .nil .nil) .nil) (.node (o114 P) .nil .nil))) (.node (o26 P) (.node (o42 P) (.node (o74 P) (.node (o138 P) .nil .nil) .nil) (.node (o106 P) (.node a .nil .nil) .nil)) (.node (o58 P) (.node (o90 P) (.node (o154 P) .nil .nil) .nil) (.node (o122 P) .nil .nil)))) (.node (o14 P) (.node (o22 P) (.node (o38 P) (.node (o70 P) (.node (o134 P) .nil .nil) .nil) (.node (o102 P) (.node (o166 P) .nil .nil) .nil)) (.node (o54 P) (.node (o86 P) (.node (o150 P) .nil .nil) .nil) (.node (o118 P) .nil .nil))) (.node (o30 P) (.node (o46 P) (.node (o78 P) (.node (o142 P) .nil .nil) .nil) (.node (o110 P) (.node b .nil .nil) .nil)) (.node (o62 P) (.node (o94 P) (.node (o158 P) .nil .nil) .nil) (.node (o126 P) .nil .nil)))))))

abbrev pw : Program := PySem.Challenge.pw_aj5027_01
abbrev q0 : Pos := ⟨0, 0, 0, 0⟩
abbrev env0 : Env := { scope := pw.main.scope, locals := mainNs, globals := mainNs, cells := [], code := .ref 13, frame := some 14 }
abbrev bE : List Stmt := behindTheImports pw
abbrev cE : Code := Code.body bE env0
abbrev B0 : List Frame := [topFrame q0]
abbrev ann0 : Option Value := some (.ref 6)
abbrev SS (w : World) (t : BT) (n : Nat) (gs : List GenState) (tk : Nat) (os : OsState) : SharedT := ⟨t, n, (boot_heap w.params).life, ⟨gs⟩, boot_drawn, tk, os⟩
def grp (i n : Nat) : List Stmt := (bE.drop i).take n
abbrev S_b (w : World) (os : OsState) : SharedT := SS w (tree_b w.params) 15 [] 187 os
abbrev p_b : Pos := ⟨0, 0, 0, 0⟩
abbrev S_7 (w : World) (os : OsState) : SharedT := SS w (tree_7 w.params) 36 [] 221 os
abbrev p_7 : Pos := ⟨14, 0, 14, 8⟩
abbrev S_8 (w : World) (os : OsState) : SharedT := SS w (tree_8 w.params) 99 [] 296 os
abbrev p_8 : Pos := ⟨15, 0, 40, 37⟩
abbrev S_13 (w : World) (os : OsState) : SharedT := SS w (tree_13 w.params) 157 [] 389 os
abbrev p_13 : Pos := ⟨124, 0, 173, 62⟩
abbrev S_14 (w : World) (os : OsState) : SharedT := SS w (tree_14 w.params) 169 [.finished] 1426 os
abbrev p_14 : Pos := ⟨174, 0, 174, 9⟩
abbrev S_15 (w : World) (os : OsState) : SharedT := SS w (tree_15 w.params) 181 [.finished, .finished] 2463 os
abbrev p_15 : Pos := ⟨175, 0, 175, 9⟩
abbrev S_18 (w : World) (os : OsState) : SharedT := SS w (tree_18 w.params) 232 [.finished, .finished] 2540 os
abbrev p_18 : Pos := ⟨241, 0, 258, 54⟩
abbrev S_19 (w : World) (os : OsState) : SharedT := SS w (tree_19 w.params) 312 [.finished, .finished] 2694 os
abbrev p_19 : Pos := ⟨259, 0, 303, 60⟩
abbrev S_26 (w : World) (os : OsState) : SharedT := SS w (tree_26 w.params) 350 [.finished, .finished] 2743 os
abbrev p_26 : Pos := ⟨333, 0, 360, 92⟩

theorem pre_go (w : World) (os : OsState) : topGo treeTable pw w 11 ann0 12 ⟨boot_heap w.params, ⟨[]⟩, boot_drawn, boot_toks, os⟩ (topStub pw) = some ((S_b w os).abs, ⟨denote treeTable cE, cE, q0, B0⟩) := by
  rewrite [PySem.W.Fast.te15667345088766844465, PySem.W.Fast.te14364793385576792824, PySem.W.Fast.te11892475500146522536]
  kernel_rfl
theorem block_go (w : World) (os : OsState) : segRun treeTable pw w 11 ann0 1 1 (S_b w os).abs (blockOf bE env0 cE q0 B0) = some (.next, (S_b w os).abs, cE, p_b) := by
  rewrite [PySem.W.Fast.te14374325043358763698, PySem.W.Fast.te14364793385576792824]
  kernel_rfl

theorem pc_7 (w : World) (os : OsState) : segRunT treeTable pw w 11 ann0 1 151 (S_b w os) (piecesOf (grp 0 8) env0 cE p_b B0) = some (.next, S_7 w os, cE, p_7) := by
  rewrite [PySem.W.Fast.te10110043849684766642, PySem.W.Fast.te14364793385576792824]
  kernel_rfl

theorem pc_8 (w : World) (os : OsState) : segRunT treeTable pw w 11 ann0 1 424 (S_7 w os) (piecesOf (grp 8 1) env0 cE p_7 B0) = some (.next, S_8 w os, cE, p_8) := by
  rewrite [PySem.W.Fast.te10110043849684766642, PySem.W.Fast.te14364793385576792824]
  kernel_rfl

theorem pc_13 (w : World) (os : OsState) : segRunT treeTable pw w 11 ann0 1 507 (S_8 w os) (piecesOf (grp 9 5) env0 cE p_8 B0) = some (.next, S_13 w os, cE, p_13) := by
  rewrite [PySem.W.Fast.te10110043849684766642, PySem.W.Fast.te14364793385576792824]
  kernel_rfl

theorem pc_18 (w : World) (os : OsState) : segRunT treeTable pw w 11 ann0 1 374 (S_15 w os) (piecesOf (grp 16 3) env0 cE p_15 B0) = some (.next, S_18 w os, cE, p_18) := by
  rewrite [PySem.W.Fast.te10110043849684766642, PySem.W.Fast.te14364793385576792824]
  kernel_rfl

theorem pc_19 (w : World) (os : OsState) : segRunT treeTable pw w 11 ann0 1 1341 (S_18 w os) (piecesOf (grp 19 1) env0 cE p_18 B0) = some (.next, S_19 w os, cE, p_19) := by
  rewrite [PySem.W.Fast.te10110043849684766642, PySem.W.Fast.te14364793385576792824]
  kernel_rfl

theorem pc_26 (w : World) (os : OsState) : segRunT treeTable pw w 11 ann0 1 185 (S_19 w os) (piecesOf (grp 20 7) env0 cE p_19 B0) = some (.next, S_26 w os, cE, p_26) := by
  rewrite [PySem.W.Fast.te10110043849684766642, PySem.W.Fast.te14364793385576792824]
  kernel_rfl


def r158 (i : Nat) : Obj := ⟨.type "range_iterator", none, .fields #[.int (i : Int) 0, .int (256 - (i : Int)) 0, .int 1 0], #[]⟩
def r162 (P : Params) (i : Nat) : Obj := ⟨.type "frame", none, .dict #[ent P (".0" : Str) 397 (.ref 158), ent P ("x" : Str) 401 (.int ((i : Int) - 1) (396 + 4 * i))] 2, #[]⟩
def r164 (i : Nat) : Obj := ⟨.type "bytearray", none, .bytearray (xorTab 92 i) 0, #[]⟩
def w_14 (w : World) : World := (w.withFollow "comprehension-iter-twice" true).withFollow "special-get-raises" true
def E_14 (w : World) (os : OsState) : Option (SharedT × Thread) := PySem.W.Fast.tw10295753902157049106 PySem.W.Fast.tw14364793385576792824 pw (w_14 w) 11 ann0 1 134 (S_13 (w_14 w) os) (piecesOf (grp 14 1) env0 cE p_13 B0)
def G_14 (w : World) (os : OsState) : GenState := match E_14 w os with | some (s, _) => (s.gens.toList.drop 0).headD .finished | none => .finished
def k1_14 (w : World) (os : OsState) : Result → Sem Fin := match E_14 w os with | some (_, t) => (match t.stack with | .ret k _ _ _ _ _ _ :: _ => k | _ => fun _ => .unsupported "") | none => fun _ => .unsupported ""
def k2_14 (w : World) (os : OsState) : Result → Sem Fin := match E_14 w os with | some (_, t) => (match t.stack with | _ :: .ret k _ _ _ _ _ _ :: _ => k | _ => fun _ => .unsupported "") | none => fun _ => .unsupported ""
abbrev c_14 : Code := .builtin "bytes.__new__.loop" ⟨[.type "bytes", .ref 163, .ref 164], []⟩
abbrev q_14 : Pos := ⟨174, 12, 174, 59⟩
def L_14 (w : World) (os : OsState) : Thread := ⟨PySem.W.Fast.tw11892475500146522536 PySem.W.Fast.tw14364793385576792824 c_14, c_14, q_14, [.ret (k1_14 w os) none false [] (.builtin "type.__call__" ⟨[.type "bytes", .ref 163], []⟩) q_14 [.builtin "bytes.__new__", .type "bytes", .ref 163, .builtin "bytes.__new__", .type "bytes", .ref 163],
  .ret (k2_14 w os) none false [] cE q_14 [.type "bytes", .ref 163], topFrame q0]⟩
def S_14L (w : World) (os : OsState) (i : Nat) : SharedT := SS w (tree_14L w.params (r158 i) (r162 w.params i) (r164 i)) 165 [G_14 w os] (400 + 4 * i) os
def Ent_14 (w : World) : Prop := ∀ os : OsState, ∃ n, n ≤ 144 ∧ segGo treeTable pw w 11 ann0 1 n (S_13 w os).abs (piecesOf (grp 14 1) env0 cE p_13 B0) = some ((S_14L w os 1).abs, L_14 w os)

theorem en_14_true_true (w : World) (os : OsState) : segGoT treeTable pw ((w.withFollow "special-get-raises" true).withFollow "comprehension-iter-twice" true) 11 ann0 1 134 (S_13 ((w.withFollow "special-get-raises" true).withFollow "comprehension-iter-twice" true) os) (piecesOf (grp 14 1) env0 cE p_13 B0) = some (S_14L ((w.withFollow "special-get-raises" true).withFollow "comprehension-iter-twice" true) os 1, L_14 ((w.withFollow "special-get-raises" true).withFollow "comprehension-iter-twice" true) os) := by
  rewrite [PySem.W.Fast.te10295753902157049106, PySem.W.Fast.te14364793385576792824]
  kernel_rfl

theorem en_14_true_false (w : World) (os : OsState) : segGoT treeTable pw ((w.withFollow "special-get-raises" false).withFollow "comprehension-iter-twice" true) 11 ann0 1 134 (S_13 ((w.withFollow "special-get-raises" false).withFollow "comprehension-iter-twice" true) os) (piecesOf (grp 14 1) env0 cE p_13 B0) = some (S_14L ((w.withFollow "special-get-raises" false).withFollow "comprehension-iter-twice" true) os 1, L_14 ((w.withFollow "special-get-raises" false).withFollow "comprehension-iter-twice" true) os) := by
  rewrite [PySem.W.Fast.te10295753902157049106, PySem.W.Fast.te14364793385576792824]
  kernel_rfl

theorem en_14_false_true (w : World) (os : OsState) : segGoT treeTable pw ((w.withFollow "special-get-raises" true).withFollow "comprehension-iter-twice" false) 11 ann0 1 144 (S_13 ((w.withFollow "special-get-raises" true).withFollow "comprehension-iter-twice" false) os) (piecesOf (grp 14 1) env0 cE p_13 B0) = some (S_14L ((w.withFollow "special-get-raises" true).withFollow "comprehension-iter-twice" false) os 1, L_14 ((w.withFollow "special-get-raises" true).withFollow "comprehension-iter-twice" false) os) := by
  rewrite [PySem.W.Fast.te10295753902157049106, PySem.W.Fast.te14364793385576792824]
  kernel_rfl

theorem en_14_false_false (w : World) (os : OsState) : segGoT treeTable pw ((w.withFollow "special-get-raises" false).withFollow "comprehension-iter-twice" false) 11 ann0 1 144 (S_13 ((w.withFollow "special-get-raises" false).withFollow "comprehension-iter-twice" false) os) (piecesOf (grp 14 1) env0 cE p_13 B0) = some (S_14L ((w.withFollow "special-get-raises" false).withFollow "comprehension-iter-twice" false) os 1, L_14 ((w.withFollow "special-get-raises" false).withFollow "comprehension-iter-twice" false) os) := by
  rewrite [PySem.W.Fast.te10295753902157049106, PySem.W.Fast.te14364793385576792824]
  kernel_rfl

theorem ent_14 : ∀ w, Ent_14 w :=
  byRow2 "comprehension-iter-twice" (P := Ent_14)
    (fun w => byRow2 "special-get-raises" (P := fun w' => Ent_14 (w'.withFollow "comprehension-iter-twice" false))
      (fun w => fun os => ⟨144, Nat.le_refl _, segGo_of (en_14_false_false w os)⟩) (fun w => fun os => ⟨144, Nat.le_refl _, segGo_of (en_14_false_true w os)⟩) w)
    (fun w => byRow2 "special-get-raises" (P := fun w' => Ent_14 (w'.withFollow "comprehension-iter-twice" true))
      (fun w => fun os => ⟨134, by decide, segGo_of (en_14_true_false w os)⟩) (fun w => fun os => ⟨134, by decide, segGo_of (en_14_true_true w os)⟩) w)

theorem lp_14_1 (w : World) (os : OsState) : segGoT treeTable pw w 11 ann0 1 2397 (S_14L w os 1) (L_14 w os) = some (S_14L w os 52, L_14 w os) := by
  rewrite [PySem.W.Fast.te10295753902157049106, PySem.W.Fast.te14364793385576792824]
  kernel_rfl

theorem lp_14_52 (w : World) (os : OsState) : segGoT treeTable pw w 11 ann0 1 2397 (S_14L w os 52) (L_14 w os) = some (S_14L w os 103, L_14 w os) := by
  rewrite [PySem.W.Fast.te10295753902157049106, PySem.W.Fast.te14364793385576792824]
  kernel_rfl

theorem lp_14_103 (w : World) (os : OsState) : segGoT treeTable pw w 11 ann0 1 2397 (S_14L w os 103) (L_14 w os) = some (S_14L w os 154, L_14 w os) := by
  rewrite [PySem.W.Fast.te10295753902157049106, PySem.W.Fast.te14364793385576792824]
  kernel_rfl

theorem lp_14_154 (w : World) (os : OsState) : segGoT treeTable pw w 11 ann0 1 2397 (S_14L w os 154) (L_14 w os) = some (S_14L w os 205, L_14 w os) := by
  rewrite [PySem.W.Fast.te10295753902157049106, PySem.W.Fast.te14364793385576792824]
  kernel_rfl

theorem lp_14_205 (w : World) (os : OsState) : segGoT treeTable pw w 11 ann0 1 2397 (S_14L w os 205) (L_14 w os) = some (S_14L w os 256, L_14 w os) := by
  rewrite [PySem.W.Fast.te10295753902157049106, PySem.W.Fast.te14364793385576792824]
  kernel_rfl

theorem ed_14 (w : World) (os : OsState) : segRunT treeTable pw w 11 ann0 1 46 (S_14L w os 256) (L_14 w os) = some (.next, S_14 w os, cE, p_14) := by
  rewrite [PySem.W.Fast.te10110043849684766642, PySem.W.Fast.te14364793385576792824]
  kernel_rfl


def r170 (i : Nat) : Obj := ⟨.type "range_iterator", none, .fields #[.int (i : Int) 0, .int (256 - (i : Int)) 0, .int 1 0], #[]⟩
def r174 (P : Params) (i : Nat) : Obj := ⟨.type "frame", none, .dict #[ent P (".0" : Str) 1434 (.ref 170), ent P ("x" : Str) 1438 (.int ((i : Int) - 1) (1433 + 4 * i))] 2, #[]⟩
def r176 (i : Nat) : Obj := ⟨.type "bytearray", none, .bytearray (xorTab 54 i) 0, #[]⟩
def w_15 (w : World) : World := (w.withFollow "comprehension-iter-twice" true).withFollow "special-get-raises" true
def E_15 (w : World) (os : OsState) : Option (SharedT × Thread) := PySem.W.Fast.tw10295753902157049106 PySem.W.Fast.tw14364793385576792824 pw (w_15 w) 11 ann0 1 134 (S_14 (w_15 w) os) (piecesOf (grp 15 1) env0 cE p_14 B0)
def G_15 (w : World) (os : OsState) : GenState := match E_15 w os with | some (s, _) => (s.gens.toList.drop 1).headD .finished | none => .finished
def k1_15 (w : World) (os : OsState) : Result → Sem Fin := match E_15 w os with | some (_, t) => (match t.stack with | .ret k _ _ _ _ _ _ :: _ => k | _ => fun _ => .unsupported "") | none => fun _ => .unsupported ""
def k2_15 (w : World) (os : OsState) : Result → Sem Fin := match E_15 w os with | some (_, t) => (match t.stack with | _ :: .ret k _ _ _ _ _ _ :: _ => k | _ => fun _ => .unsupported "") | none => fun _ => .unsupported ""
abbrev c_15 : Code := .builtin "bytes.__new__.loop" ⟨[.type "bytes", .ref 175, .ref 176], []⟩
abbrev q_15 : Pos := ⟨175, 12, 175, 59⟩
def L_15 (w : World) (os : OsState) : Thread := ⟨PySem.W.Fast.tw11892475500146522536 PySem.W.Fast.tw14364793385576792824 c_15, c_15, q_15, [.ret (k1_15 w os) none false [] (.builtin "type.__call__" ⟨[.type "bytes", .ref 175], []⟩) q_15 [.builtin "bytes.__new__", .type "bytes", .ref 175, .builtin "bytes.__new__", .type "bytes", .ref 175],
  .ret (k2_15 w os) none false [] cE q_15 [.type "bytes", .ref 175], topFrame q0]⟩
def S_15L (w : World) (os : OsState) (i : Nat) : SharedT := SS w (tree_15L w.params (r170 i) (r174 w.params i) (r176 i)) 177 [.finished, G_15 w os] (1437 + 4 * i) os
def Ent_15 (w : World) : Prop := ∀ os : OsState, ∃ n, n ≤ 144 ∧ segGo treeTable pw w 11 ann0 1 n (S_14 w os).abs (piecesOf (grp 15 1) env0 cE p_14 B0) = some ((S_15L w os 1).abs, L_15 w os)

theorem en_15_true_true (w : World) (os : OsState) : segGoT treeTable pw ((w.withFollow "special-get-raises" true).withFollow "comprehension-iter-twice" true) 11 ann0 1 134 (S_14 ((w.withFollow "special-get-raises" true).withFollow "comprehension-iter-twice" true) os) (piecesOf (grp 15 1) env0 cE p_14 B0) = some (S_15L ((w.withFollow "special-get-raises" true).withFollow "comprehension-iter-twice" true) os 1, L_15 ((w.withFollow "special-get-raises" true).withFollow "comprehension-iter-twice" true) os) := by
  rewrite [PySem.W.Fast.te10295753902157049106, PySem.W.Fast.te14364793385576792824]
  kernel_rfl

theorem en_15_true_false (w : World) (os : OsState) : segGoT treeTable pw ((w.withFollow "special-get-raises" false).withFollow "comprehension-iter-twice" true) 11 ann0 1 134 (S_14 ((w.withFollow "special-get-raises" false).withFollow "comprehension-iter-twice" true) os) (piecesOf (grp 15 1) env0 cE p_14 B0) = some (S_15L ((w.withFollow "special-get-raises" false).withFollow "comprehension-iter-twice" true) os 1, L_15 ((w.withFollow "special-get-raises" false).withFollow "comprehension-iter-twice" true) os) := by
  rewrite [PySem.W.Fast.te10295753902157049106, PySem.W.Fast.te14364793385576792824]
  kernel_rfl

theorem en_15_false_true (w : World) (os : OsState) : segGoT treeTable pw ((w.withFollow "special-get-raises" true).withFollow "comprehension-iter-twice" false) 11 ann0 1 144 (S_14 ((w.withFollow "special-get-raises" true).withFollow "comprehension-iter-twice" false) os) (piecesOf (grp 15 1) env0 cE p_14 B0) = some (S_15L ((w.withFollow "special-get-raises" true).withFollow "comprehension-iter-twice" false) os 1, L_15 ((w.withFollow "special-get-raises" true).withFollow "comprehension-iter-twice" false) os) := by
  rewrite [PySem.W.Fast.te10295753902157049106, PySem.W.Fast.te14364793385576792824]
  kernel_rfl

theorem en_15_false_false (w : World) (os : OsState) : segGoT treeTable pw ((w.withFollow "special-get-raises" false).withFollow "comprehension-iter-twice" false) 11 ann0 1 144 (S_14 ((w.withFollow "special-get-raises" false).withFollow "comprehension-iter-twice" false) os) (piecesOf (grp 15 1) env0 cE p_14 B0) = some (S_15L ((w.withFollow "special-get-raises" false).withFollow "comprehension-iter-twice" false) os 1, L_15 ((w.withFollow "special-get-raises" false).withFollow "comprehension-iter-twice" false) os) := by
  rewrite [PySem.W.Fast.te10295753902157049106, PySem.W.Fast.te14364793385576792824]
  kernel_rfl

theorem ent_15 : ∀ w, Ent_15 w :=
  byRow2 "comprehension-iter-twice" (P := Ent_15)
    (fun w => byRow2 "special-get-raises" (P := fun w' => Ent_15 (w'.withFollow "comprehension-iter-twice" false))
      (fun w => fun os => ⟨144, Nat.le_refl _, segGo_of (en_15_false_false w os)⟩) (fun w => fun os => ⟨144, Nat.le_refl _, segGo_of (en_15_false_true w os)⟩) w)
    (fun w => byRow2 "special-get-raises" (P := fun w' => Ent_15 (w'.withFollow "comprehension-iter-twice" true))
      (fun w => fun os => ⟨134, by decide, segGo_of (en_15_true_false w os)⟩) (fun w => fun os => ⟨134, by decide, segGo_of (en_15_true_true w os)⟩) w)

theorem lp_15_1 (w : World) (os : OsState) : segGoT treeTable pw w 11 ann0 1 2397 (S_15L w os 1) (L_15 w os) = some (S_15L w os 52, L_15 w os) := by
  rewrite [PySem.W.Fast.te10295753902157049106, PySem.W.Fast.te14364793385576792824]
  kernel_rfl

theorem lp_15_52 (w : World) (os : OsState) : segGoT treeTable pw w 11 ann0 1 2397 (S_15L w os 52) (L_15 w os) = some (S_15L w os 103, L_15 w os) := by
  rewrite [PySem.W.Fast.te10295753902157049106, PySem.W.Fast.te14364793385576792824]
  kernel_rfl

theorem lp_15_103 (w : World) (os : OsState) : segGoT treeTable pw w 11 ann0 1 2397 (S_15L w os 103) (L_15 w os) = some (S_15L w os 154, L_15 w os) := by
  rewrite [PySem.W.Fast.te10295753902157049106, PySem.W.Fast.te14364793385576792824]
  kernel_rfl

theorem lp_15_154 (w : World) (os : OsState) : segGoT treeTable pw w 11 ann0 1 2397 (S_15L w os 154) (L_15 w os) = some (S_15L w os 205, L_15 w os) := by
  rewrite [PySem.W.Fast.te10295753902157049106, PySem.W.Fast.te14364793385576792824]
  kernel_rfl

theorem lp_15_205 (w : World) (os : OsState) : segGoT treeTable pw w 11 ann0 1 2397 (S_15L w os 205) (L_15 w os) = some (S_15L w os 256, L_15 w os) := by
  rewrite [PySem.W.Fast.te10295753902157049106, PySem.W.Fast.te14364793385576792824]
  kernel_rfl

theorem ed_15 (w : World) (os : OsState) : segRunT treeTable pw w 11 ann0 1 46 (S_15L w os 256) (L_15 w os) = some (.next, S_15 w os, cE, p_15) := by
  rewrite [PySem.W.Fast.te10110043849684766642, PySem.W.Fast.te14364793385576792824]
  kernel_rfl

end
end Mine
namespace Mine
noncomputable section
open PySem PySem.W PySem.Calls PyProof.Rows
set_option maxRecDepth 100000
set_option maxHeartbeats 0
set_option linter.unusedVariables false
def H1 (P : Params) : Heap := ⟨⟨[o0 P, o1 P, o2 P, o3 P, o4 P, o5 P, o6 P, o7 P, o8 P, o9 P, o10 P, o11 P, o12 P, o13 P, o14 P, o15 P, o16 P, o17 P, o18 P, o19 P, o20 P, o21 P, o22 P, o23 P, o24 P, o25 P, o26 P, o27 P, o28 P, o29 P, o30 P, o31 P, o32 P, o33 P, o34 P, o35 P, o36 P, o37 P, o38 P, o39 P, o40 P, o41 P, o42 P, o43 P, o44 P, o45 P, o46 P, o47 P, o48 P, o49 P, o50 P, o51 P, o52 P, o53 P, o54 P, o55 P, o56 P, o57 P, o58 P, o59 P, o60 P, o61 P, o62 P, o63 P, o64 P, o65 P, o66 P, o67 P, o68 P, o69 P, o70 P, o71 P, o72 P, o73 P, o74 P, o75 P, o76 P, o77 P, o78 P, o79 P, o80 P, o81 P, o82 P, o83 P, o84 P, o85 P, o86 P, o87 P, o88 P, o89 P, o90 P, o91 P, o92 P, o93 P, o94 P, o95 P, o96 P, o97 P, o98 P, o99 P, o100 P, o101 P, o102 P, o103 P, o104 P, o105 P, o106 P, o107 P, o108 P, o109 P, o110 P, o111 P, o112 P, o113 P, o114 P, o115 P, o116 P, o117 P, o118 P, o119 P, o120 P, o121 P, o122 P, o123 P, o124 P, o125 P, o126 P, o127 P, o128 P, o129 P, o130 P, o131 P, o132 P, o133 P, o134 P, o135 P, o136 P, o137 P, o138 P, o139 P, o140 P, o141 P, o142 P, o143 P, o144 P, o145 P, o146 P, o147 P, o148 P, o149 P, o150 P, o151 P, o152 P, o153 P, o154 P, o155 P, o156 P, o157 P, o158 P, o159 P, o160 P, o161 P, o162 P, o163 P, o164 P, o165 P, o166 P, o167 P, o168 P, o169 P, o170 P, o171 P, o172 P, o173 P, o174 P, o175 P, o176 P, o177 P, o178 P, o179 P, o180 P, o181 P, o182 P, o183 P, o184 P, o185 P, o186 P, o187 P, o188 P, o189 P, o190 P, o191 P, o192 P, o193 P, o194 P, o195 P, o196 P, o197 P, o198 P, o199 P, o200 P, o201 P, o202 P, o203 P, o204 P, o205 P, o206 P, o207 P, o208 P, o209 P, o210 P, o211 P, o212 P, o213 P, o214 P, o215 P, o216 P, o217 P, o218 P, o219 P, o220 P, o221 P, o222 P, o223 P, o224 P, o225 P, o226 P, o227 P, o228 P, o229 P, o230 P, o231 P, o232 P, o233 P, o234 P, o235 P, o236 P, o237 P, o238 P, o239 P, o240 P, o241 P, o242 P, o243 P, o244 P, o245 P, o246 P, o247 P, o248 P, o249 P, o250 P, o251 P, o252 P, o253 P, o254 P, o255 P, o256 P, o257 P, o258 P, o259 P, o260 P, o261 P, o262 P, o263 P, o264 P, o265 P, o266 P, o267 P, o268 P, o269 P, o270 P, o271 P, o272 P, o273 P, o274 P, o275 P, o276 P, o277 P, o278 P, o279 P, o280 P, o281 P, o282 P, o283 P, o284 P, o285 P, o286 P, o287 P, o288 P, o289 P, o290 P, o291 P, o292 P, o293 P, o294 P, o295 P, o296 P, o297 P, o298 P, o299 P, o300 P, o301 P, o302 P, o303 P, o304 P, o305 P, o306 P, o307 P, o308 P, o309 P, o310 P, o311 P, o312 P, o313 P, o314 P, o315 P, o316 P, o317 P, o318 P, o319 P, o320 P, o321 P, o322 P, o323 P, o324 P, o325 P, o326 P, o327 P, o328 P, o329 P, o330 P, o331 P, o332 P, o333 P, o334 P, o335 P, o336 P, o337 P, o338 P, o339 P, o340 P, o341 P, o342 P, o343 P, o344 P, o345 P, o346 P, o347 P, o348 P, o349 P]⟩, (boot_heap P).life⟩

abbrev r1 (w : World) (os : OsState) : Shared := ⟨H1 w.params, ⟨[.finished, .finished]⟩, boot_drawn, 2743, os⟩
theorem fin_go (w : World) (os : OsState) : topRun treeTable pw w 11 ann0 2 (S_26 w os).abs ⟨doneF .next, cE, p_26, B0⟩ = some (r1 w os) := by
  rewrite [PySem.W.Fast.te14082659384304107361, PySem.W.Fast.te14364793385576792824]
  kernel_rfl

theorem pc_14 (w : World) (os : OsState) : ∃ n, n ≤ 12175 ∧ segRun treeTable pw w 11 ann0 1 n (S_13 w os).abs (piecesOf (grp 14 1) env0 cE p_13 B0) = some (.next, (S_14 w os).abs, cE, p_14) := by
  obtain ⟨n, hn, h⟩ := ent_14 w os
  exact ⟨n + (2397 + (2397 + (2397 + (2397 + (2397 + (46)))))), by omega, seg_go h (seg_go (segGo_of (lp_14_1 w os)) (seg_go (segGo_of (lp_14_52 w os)) (seg_go (segGo_of (lp_14_103 w os)) (seg_go (segGo_of (lp_14_154 w os)) (seg_go (segGo_of (lp_14_205 w os)) (segRun_of (ed_14 w os)))))))⟩

theorem pc_15 (w : World) (os : OsState) : ∃ n, n ≤ 12175 ∧ segRun treeTable pw w 11 ann0 1 n (S_14 w os).abs (piecesOf (grp 15 1) env0 cE p_14 B0) = some (.next, (S_15 w os).abs, cE, p_15) := by
  obtain ⟨n, hn, h⟩ := ent_15 w os
  exact ⟨n + (2397 + (2397 + (2397 + (2397 + (2397 + (46)))))), by omega, seg_go h (seg_go (segGo_of (lp_15_1 w os)) (seg_go (segGo_of (lp_15_52 w os)) (seg_go (segGo_of (lp_15_103 w os)) (seg_go (segGo_of (lp_15_154 w os)) (seg_go (segGo_of (lp_15_205 w os)) (segRun_of (ed_15 w os)))))))⟩

theorem body_eq : bE = grp 0 8 ++ (grp 8 1 ++ (grp 9 5 ++ (grp 14 1 ++ (grp 15 1 ++ (grp 16 3 ++ (grp 19 1 ++ (grp 20 7 ++ ([])))))))) := by kernel_rfl
theorem run_all (w : World) (os : OsState) : topRun treeTable pw w 11 ann0 30000 ⟨boot_heap w.params, ⟨[]⟩, boot_drawn, boot_toks, os⟩ (topStub pw) = some (r1 w os) := by
  obtain ⟨n, hn, h14⟩ := pc_14 w os
  obtain ⟨n', hn', h15⟩ := pc_15 w os
  have k := piece_app (q := q0) (segRun_of (pc_26 w os)) (piece_nil (env := env0) (fin_go w os))
  have k := piece_app (q := q0) (segRun_of (pc_19 w os)) k
  have k := piece_app (q := q0) (segRun_of (pc_18 w os)) k
  have k := piece_app (q := q0) h15 k
  have k := piece_app (q := q0) h14 k
  have k := piece_app (q := q0) (segRun_of (pc_13 w os)) k
  have k := piece_app (q := q0) (segRun_of (pc_8 w os)) k
  have k := piece_app (q := q0) (segRun_of (pc_7 w os)) k
  rewrite [← body_eq] at k
  have k := piece_block (block_go w os) k
  have k := go_top (pre_go w os) k
  have k := topRun_mono (30000 - (12 + (1 + (151 + (424 + (507 + (n + (n' + (374 + (1341 + (185 + 2))))))))))) _ _ _ _ k
  rewrite [show (12 + (1 + (151 + (424 + (507 + (n + (n' + (374 + (1341 + (185 + 2)))))))))) + (30000 - (12 + (1 + (151 + (424 + (507 + (n + (n' + (374 + (1341 + (185 + 2))))))))))) = 30000 by omega] at k
  exact k

def loose0 : List Str := ["_wall", "ExpectedTypeError", "ExpectedStringError", "unicode", "join_byte_values", "join_byte_elems", "irange", "SequenceMixin", "is_same_codec", "to_bytes", "lookup_hash", "HashInfo", "_TRANS_5C", "_TRANS_36", "compile_hmac", "_tuplegetter", "Handed", "_law_cell", "_law_sum", "_law_maker", "_law_sizes", "_law_code"]
def qv : Program := { pw with main := { pw.main with body := [fS 26] } }
abbrev tabs0 : List Addr := [183, 327]
def KK (P : Params) : Frag := (nat_lit 2, o2 P) :: (nat_lit 3, o3 P) :: (nat_lit 15, o15 P) :: (nat_lit 17, o17 P) :: (nat_lit 18, o18 P) :: (nat_lit 20, o20 P) :: (nat_lit 21, o21 P) :: (nat_lit 22, o22 P) :: (nat_lit 24, o24 P) :: (nat_lit 25, o25 P) :: (nat_lit 27, o27 P) :: (nat_lit 28, o28 P) :: (nat_lit 29, o29 P) :: (nat_lit 31, o31 P) :: (nat_lit 32, o32 P) :: (nat_lit 34, o34 P) :: (nat_lit 35, o35 P) :: (nat_lit 36, o36 P) :: (nat_lit 37, o37 P) :: (nat_lit 38, o38 P) :: (nat_lit 39, o39 P) :: (nat_lit 41, o41 P) :: (nat_lit 42, o42 P) :: (nat_lit 43, o43 P) :: (nat_lit 45, o45 P) :: (nat_lit 46, o46 P) :: (nat_lit 48, o48 P) :: (nat_lit 49, o49 P) :: (nat_lit 50, o50 P) :: (nat_lit 52, o52 P) :: (nat_lit 53, o53 P) :: (nat_lit 55, o55 P) :: (nat_lit 56, o56 P) :: (nat_lit 57, o57 P) :: (nat_lit 59, o59 P) :: (nat_lit 60, o60 P) :: (nat_lit 62, o62 P) :: (nat_lit 63, o63 P) :: (nat_lit 64, o64 P) :: (nat_lit 66, o66 P) :: (nat_lit 67, o67 P) :: (nat_lit 69, o69 P) :: (nat_lit 70, o70 P) :: (nat_lit 71, o71 P) :: (nat_lit 73, o73 P) :: (nat_lit 74, o74 P) :: (nat_lit 76, o76 P) :: (nat_lit 77, o77 P) :: (nat_lit 78, o78 P) :: (nat_lit 80, o80 P) :: (nat_lit 81, o81 P) :: (nat_lit 83, o83 P) :: (nat_lit 84, o84 P) :: (nat_lit 85, o85 P) :: (nat_lit 87, o87 P) :: (nat_lit 88, o88 P) :: (nat_lit 90, o90 P) :: (nat_lit 91, o91 P) :: (nat_lit 92, o92 P) :: (nat_lit 93, o93 P) :: (nat_lit 94, o94 P) :: (nat_lit 95, o95 P) :: (nat_lit 96, o96 P) :: (nat_lit 97, o97 P) :: (nat_lit 98, o98 P) :: (nat_lit 99, o99 P) :: (nat_lit 101, o101 P) :: (nat_lit 102, o102 P) :: (nat_lit 104, o104 P) :: (nat_lit 105, o105 P) :: (nat_lit 106, o106 P) :: (nat_lit 107, o107 P) :: (nat_lit 109, o109 P) :: (nat_lit 110, o110 P) :: (nat_lit 112, o112 P) :: (nat_lit 113, o113 P) :: (nat_lit 114, o114 P) :: (nat_lit 115, o115 P) :: (nat_lit 117, o117 P) :: (nat_lit 118, o118 P) :: (nat_lit 120, o120 P) :: (nat_lit 121, o121 P) :: (nat_lit 122, o122 P) :: (nat_lit 123, o123 P) :: (nat_lit 124, o124 P) :: (nat_lit 125, o125 P) :: (nat_lit 127, o127 P) :: (nat_lit 128, o128 P) :: (nat_lit 129, o129 P) :: (nat_lit 130, o130 P) :: (nat_lit 131, o131 P) :: (nat_lit 133, o133 P) :: (nat_lit 134, o134 P) :: (nat_lit 136, o136 P) :: (nat_lit 137, o137 P) :: (nat_lit 138, o138 P) :: (nat_lit 140, o140 P) :: (nat_lit 141, o141 P) :: (nat_lit 143, o143 P) :: (nat_lit 144, o144 P) :: (nat_lit 145, o145 P) :: (nat_lit 147, o147 P) :: (nat_lit 148, o148 P) :: (nat_lit 150, o150 P) :: (nat_lit 151, o151 P) :: (nat_lit 152, o152 P) :: (nat_lit 153, o153 P) :: (nat_lit 154, o154 P) :: (nat_lit 155, o155 P) :: (nat_lit 156, o156 P) :: (nat_lit 157, o157 P) :: (nat_lit 158, o158 P) :: (nat_lit 159, o159 P) :: (nat_lit 161, o161 P) :: (nat_lit 162, o162 P) :: (nat_lit 163, o163 P) :: (nat_lit 164, o164 P) :: (nat_lit 165, o165 P) :: (nat_lit 166, o166 P) :: (nat_lit 167, o167 P) :: (nat_lit 168, o168 P) :: (nat_lit 169, o169 P) :: (nat_lit 170, o170 P) :: (nat_lit 171, o171 P) :: (nat_lit 173, o173 P) :: (nat_lit 174, o174 P) :: (nat_lit 175, o175 P) :: (nat_lit 176, o176 P) :: (nat_lit 177, o177 P) :: (nat_lit 178, o178 P) :: (nat_lit 179, o179 P) :: (nat_lit 180, o180 P) :: (nat_lit 181, o181 P) :: (nat_lit 182, o182 P) :: (nat_lit 184, o184 P) :: (nat_lit 185, o185 P) :: (nat_lit 187, o187 P) :: (nat_lit 188, o188 P) :: (nat_lit 189, o189 P) :: (nat_lit 190, o190 P) :: (nat_lit 191, o191 P) :: (nat_lit 192, o192 P) :: (nat_lit 194, o194 P) :: (nat_lit 195, o195 P) :: (nat_lit 196, o196 P) :: (nat_lit 198, o198 P) :: (nat_lit 199, o199 P) :: (nat_lit 201, o201 P) :: (nat_lit 202, o202 P) :: (nat_lit 203, o203 P) :: (nat_lit 204, o204 P) :: (nat_lit 206, o206 P) :: (nat_lit 207, o207 P) :: (nat_lit 209, o209 P) :: (nat_lit 210, o210 P) :: (nat_lit 211, o211 P) :: (nat_lit 213, o213 P) :: (nat_lit 214, o214 P) :: (nat_lit 216, o216 P) :: (nat_lit 217, o217 P) :: (nat_lit 218, o218 P) :: (nat_lit 220, o220 P) :: (nat_lit 221, o221 P) :: (nat_lit 223, o223 P) :: (nat_lit 224, o224 P) :: (nat_lit 225, o225 P) :: (nat_lit 226, o226 P) :: (nat_lit 227, o227 P) :: (nat_lit 228, o228 P) :: (nat_lit 229, o229 P) :: (nat_lit 230, o230 P) :: (nat_lit 231, o231 P) :: (nat_lit 232, o232 P) :: (nat_lit 233, o233 P) :: (nat_lit 234, o234 P) :: (nat_lit 235, o235 P) :: (nat_lit 236, o236 P) :: (nat_lit 238, o238 P) :: (nat_lit 239, o239 P) :: (nat_lit 240, o240 P) :: (nat_lit 241, o241 P) :: (nat_lit 242, o242 P) :: (nat_lit 243, o243 P) :: (nat_lit 245, o245 P) :: (nat_lit 246, o246 P) :: (nat_lit 248, o248 P) :: (nat_lit 249, o249 P) :: (nat_lit 250, o250 P) :: (nat_lit 252, o252 P) :: (nat_lit 253, o253 P) :: (nat_lit 255, o255 P) :: (nat_lit 256, o256 P) :: (nat_lit 257, o257 P) :: (nat_lit 258, o258 P) :: (nat_lit 259, o259 P) :: (nat_lit 260, o260 P) :: (nat_lit 261, o261 P) :: (nat_lit 263, o263 P) :: (nat_lit 264, o264 P) :: (nat_lit 266, o266 P) :: (nat_lit 267, o267 P) :: (nat_lit 268, o268 P) :: (nat_lit 270, o270 P) :: (nat_lit 271, o271 P) :: (nat_lit 273, o273 P) :: (nat_lit 274, o274 P) :: (nat_lit 275, o275 P) :: (nat_lit 277, o277 P) :: (nat_lit 278, o278 P) :: (nat_lit 280, o280 P) :: (nat_lit 281, o281 P) :: (nat_lit 282, o282 P) :: (nat_lit 284, o284 P) :: (nat_lit 285, o285 P) :: (nat_lit 287, o287 P) :: (nat_lit 288, o288 P) :: (nat_lit 289, o289 P) :: (nat_lit 290, o290 P) :: (nat_lit 291, o291 P) :: (nat_lit 292, o292 P) :: (nat_lit 293, o293 P) :: (nat_lit 294, o294 P) :: (nat_lit 295, o295 P) :: (nat_lit 296, o296 P) :: (nat_lit 297, o297 P) :: (nat_lit 298, o298 P) :: (nat_lit 299, o299 P) :: (nat_lit 300, o300 P) :: (nat_lit 301, o301 P) :: (nat_lit 302, o302 P) :: (nat_lit 303, o303 P) :: (nat_lit 304, o304 P) :: (nat_lit 305, o305 P) :: (nat_lit 306, o306 P) :: (nat_lit 307, o307 P) :: (nat_lit 308, o308 P) :: (nat_lit 309, o309 P) :: (nat_lit 310, o310 P) :: (nat_lit 311, o311 P) :: (nat_lit 312, o312 P) :: (nat_lit 314, o314 P) :: (nat_lit 315, o315 P) :: (nat_lit 317, o317 P) :: (nat_lit 318, o318 P) :: (nat_lit 319, o319 P) :: (nat_lit 321, o321 P) :: (nat_lit 322, o322 P) :: (nat_lit 324, o324 P) :: (nat_lit 325, o325 P) :: (nat_lit 326, o326 P) :: (nat_lit 328, o328 P) :: (nat_lit 329, o329 P) :: (nat_lit 331, o331 P) :: (nat_lit 332, o332 P) :: (nat_lit 333, o333 P) :: (nat_lit 335, o335 P) :: (nat_lit 336, o336 P) :: (nat_lit 338, o338 P) :: (nat_lit 339, o339 P) :: (nat_lit 340, o340 P) :: (nat_lit 343, o343 P) :: (nat_lit 344, o344 P) :: (nat_lit 345, o345 P) :: (nat_lit 348, o348 P) :: (nat_lit 349, o349 P) :: []
def asK : List Addr := [2, 3, 15, 17, 18, 20, 21, 22, 24, 25, 27, 28, 29, 31, 32, 34, 35, 36, 37, 38, 39, 41, 42, 43, 45, 46, 48, 49, 50, 52, 53, 55, 56, 57, 59, 60, 62, 63, 64, 66, 67, 69, 70, 71, 73, 74, 76, 77, 78, 80, 81, 83, 84, 85, 87, 88, 90, 91, 92, 93, 94, 95, 96, 97, 98, 99, 101, 102, 104, 105, 106, 107, 109, 110, 112, 113, 114, 115, 117, 118, 120, 121, 122, 123, 124, 125, 127, 128, 129, 130, 131, 133, 134, 136, 137, 138, 140, 141, 143, 144, 145, 147, 148, 150, 151, 152, 153, 154, 155, 156, 157, 158, 159, 161, 162, 163, 164, 165, 166, 167, 168, 169, 170, 171, 173, 174, 175, 176, 177, 178, 179, 180, 181, 182, 184, 185, 187, 188, 189, 190, 191, 192, 194, 195, 196, 198, 199, 201, 202, 203, 204, 206, 207, 209, 210, 211, 213, 214, 216, 217, 218, 220, 221, 223, 224, 225, 226, 227, 228, 229, 230, 231, 232, 233, 234, 235, 236, 238, 239, 240, 241, 242, 243, 245, 246, 248, 249, 250, 252, 253, 255, 256, 257, 258, 259, 260, 261, 263, 264, 266, 267, 268, 270, 271, 273, 274, 275, 277, 278, 280, 281, 282, 284, 285, 287, 288, 289, 290, 291, 292, 293, 294, 295, 296, 297, 298, 299, 300, 301, 302, 303, 304, 305, 306, 307, 308, 309, 310, 311, 312, 314, 315, 317, 318, 319, 321, 322, 324, 325, 326, 328, 329, 331, 332, 333, 335, 336, 338, 339, 340, 343, 344, 345, 348, 349]
theorem asK_eq (P : Params) : asK = (KK P).map (·.1) := by kernel_rfl
abbrev hk0 : Hook := kmHook KK asK asK_eq tabs0
abbrev Xt0 : Shared → Bool := fun s => xlAt qv [] s && recOk (RowW.records (OpenRow.toRowW (OpenLaw.row PySem.Challenge.rw_aj5027_01))) s
theorem look1 (w : World) (os : OsState) : (staticsOk (importedModules pw.main.body) (boot_heap w.params) (H1 w.params) && namesBound pw (H1 w.params) && gensDone (r1 w os) && laidKept (boot_heap w.params) (H1 w.params)) = true := by kernel_rfl
theorem look2 (w : World) (os : OsState) : openSeen qv loose0 (importedModules pw.main.body) Xt0 false (r1 w os) = openGood qv loose0 := by
  rewrite [PySem.W.Fast.te4187177175401517315]
  kernel_rfl
theorem look3 (w : World) (os : OsState) : hk0.obs (r1 w os) = hk0.val w := by kernel_rfl
theorem open_eq : opening pw = plainProg pw.main.scope.names := by kernel_rfl
theorem fence_eq (s : Shared) : fenceModules? pw s = some s := by kernel_rfl
theorem size_eq (w : World) : ((boot_heap w.params).isNs mainGlobals && (Array.mk ([] : List GenState)).size == 0, (boot_heap w.params).objs.size, (boot_heap w.params).nsMap mainGlobals "__annotations__") = (true, 11, ann0) := by kernel_rfl
theorem left0 : LeftO pw qv loose0 Xt0 hk0.obs hk0.val 30000 false :=
  LeftO.of_pieces (H₀ := boot_heap) (H₁ := H1) (gs₀ := ⟨[]⟩) (gs₁ := ⟨[.finished, .finished]⟩) (d₀ := boot_drawn) (d₁ := boot_drawn) (k₀ := boot_toks) (k₁ := 2743) (m₀ := 11) (ann := ann0) (M := 30000)
    (boot_open open_eq rfl fence_eq) size_eq run_all rfl
    (fun w => funext fun os => by
      have e1 := look1 w os
      have e2 := look2 w os
      have e3 := look3 w os
      exact Prod.ext e1 (Prod.ext e2 e3))

end
end Mine
namespace Mine
noncomputable section
open PySem PySem.W PySem.Calls PyProof.Rows
set_option maxRecDepth 100000
set_option maxHeartbeats 8000000
set_option linter.unusedVariables false
/-- what the walk has to show -/
def Core : Prop := ∀ (w : World) (s₁ : Shared) (mg mb : Str → Option Value) (mean : ExcName → Option Value), (KK w.params).In s₁.heap → s₁.heap.get? 183 = some (tabObj #[]) → s₁.heap.get? 327 = some (tabObj #[]) →
  Top qv (looseW qv loose0) mean mg mb s₁.heap → s₁.gens = #[] → ∀ (l : Addr) (vs : List Value) (ns : List Int), s₁.heap.IsList l vs.toArray → IntsAre vs ns → ns.length ≤ 63 →
  wpAny (model pw w) callerA (call (.ref 349) [.ref l]) (fun v s' => v = .bool true ∧ OldK s₁.heap s'.heap ∧ s'.os = s₁.os ∧ s'.gens = #[]) (fun _ _ => False) s₁

theorem openNG {r : OpenRow} {q : Program} {loose : List Str} {Xt : Shared → Bool} {XP : (Str → Option Value) → Heap → Prop} {α : Type} {Yf : Shared → α} {Ya : World → α} {YP : World → Heap → Prop} {d : DefRec} {kwd : List (Str × Expr)} {N : Nat}
    (left : LeftO r.prog q loose Xt Yf Ya N false) (hY : ∀ w s, Yf s = Ya w → YP w s.heap) (hYk : ∀ w h h', YP w h → (∀ b o, h.get? b = some o → h'.get? b = some o) → YP w h')
    (hX : ∀ s, Xt s = true → XP (s.heap.nsMap mainGlobals) s.heap) (hXk : ∀ mg h h', XP mg h → (∀ b o, h.get? b = some o → h'.get? b = some o) → XP mg h')
    (hdef : defOf q r.name = some (d, kwd)) (hp : r.prog.theDef r.name = some (d.params, d.body, d.scope)) (hk : kwWritten? d.params.kwonlyargs d.params.kw_defaults = some kwd) (hRf : ∀ s, Xt s = true → RecFacts r.records s.heap) (hwr : r.writes = false)
    (k1 : r.wellSaid = true) (ok : (chainsOk q && opensWell r.prog && (frees r.toRowW && r.within.isEmpty)) = true) (hb : r.prog.bare) (hw : r.toRowW.promised)
    (walk : ∀ (w : World) (s₀ s₁ : Shared) (mg mb : Str → Option Value), Ground q loose r.records XP w s₀ mg mb s₁.heap → YP w s₁.heap → ∀ a : Addr, mg r.name = some (.ref a) → s₁.gens = #[] →
      ∀ (args : List WData) (vals : List Value) (as : List Addr), r.claim.pre args = true → WData.layableAll args = true → ReadsAllW r.records (classAt s₀.heap) s₁.heap vals args as →
        wpAny (model r.prog w) callerA (call (.ref a) vals) (fun v s' => GoodWG r.claim (classAt s₀.heap) (ExcName.means s₀.heap) args s₁ (.ok (.ret v)) s' ∧ s'.gens = #[]) (fun _ _ => False) s₁) : r.Holds := by
  refine ⟨k1, hw, ?_⟩
  obtain ⟨ok', k5⟩ := Bool.and_eq_true_iff.mp ok
  obtain ⟨hch, o1⟩ := Bool.and_eq_true_iff.mp ok'
  obtain ⟨k5, k6⟩ := Bool.and_eq_true_iff.mp k5
  obtain ⟨hsame, hu, ha, hap, hm⟩ := frees_parts k5
  have hi := ident_freeW hu ha hap
  have hwi : r.claim.within = [] := List.isEmpty_iff.mp k6
  refine ⟨⟨hb, o1, by show r.makers.map _ = []; rw [hm]; rfl⟩, hw.witness, fun w => ⟨(left.behind hX hch w).1, fun s' hs' => ?_⟩⟩
  obtain ⟨s₀, hf, hg0, s, hT, hz, hgens, hg, G00, y⟩ := (left.behind (XP := fun mg h => XP mg h ∧ RecFacts r.records h) (fun s hs => ⟨hX s hs, hRf s hs⟩) hch w).2 s' hs'
  have G0 : Ground q loose [] XP w s (s.heap.nsMap mainGlobals) (s.heap.nsMap builtinsNs) s.heap := ⟨G00.T, G00.B, G00.D, G00.TE, G00.TD, G00.W, G00.X.1, G00.cls, G00.has, G00.apart, G00.once, G00.K⟩
  have RF := G00.X.2
  refine ⟨s₀, hf, hg0, s, hT, fun n hn => ?_, RF.1, RF.2.1, ?_⟩
  · obtain rfl : n = r.name := by split at hn <;> simp_all
    exact pinned_of_view hg G0 hdef hp hk
  have hgens : leftWithCleanup s.gens = false := by simpa using hgens
  have G : Ground q loose r.records XP w s _ _ s.heap := RF.ground G0
  refine ClaimW.callFrom_of_specN (c := r.claim) hz hgens fun args hpre hlay ord hord => ?_
  obtain ⟨⟨vs, s₁⟩, hlaid⟩ := Option.isSome_iff_exists.mp (layAllW_isSome (P := w.params) (ord := ord) G.has args r.args s (pre_splitW hpre).1)
  have keeps := layAllW_keeps _ _ _ hlaid
  have hal := layAllW_rest _ _ _ hlaid
  obtain ⟨as, hrd, hin, hold⟩ := reads_layAllW hord _ _ _ hlaid hlay s₁.heap (fun _ _ e => e)
  have G₁ := G.keeps hXk keeps
  obtain ⟨a, o, pm, cd, doc, dV, kV, h1, _⟩ := G₁.fn hdef
  have h := walk w s { s₁ with gens := #[] } _ _ G₁ (hYk _ _ _ (hY w s y) keeps) a h1 rfl args vs as hpre hlay hrd
  refine ⟨vs, s₁, hlaid, ?_⟩
  refine wpAny_bind (wpAny_nsGet G₁.T.g ?_)
  rw [h1]
  refine wpAny_bind (wpAny_mono h (fun v s' g => wpAny_pure ⟨_, rfl, ?_⟩) fun _ _ x => x.elim)
  obtain ⟨⟨hcase, hK, hos, -⟩, hg'⟩ := g
  refine ⟨?_, hos.trans hal.2.2.1, hg', fun q => by rw [hwr] at q; cases q⟩
  rcases hcase with ⟨v', d', bs, e', hnr, hrv, hpost, hun⟩ | ⟨e, ob, cls, e', _⟩
  · cases e'
    refine .inl ⟨v, rfl, hnr, ⟨d', args, bs, as, hrv, hrd.keepsK fun b o e hc => hK.get_of_cls e hc, hpost, fun hu => ⟨(hun hu).1, (hun hu).2, fun a ha hb' => ?_⟩, fun _ _ => hi _ _⟩, (fun i hi' => by have := hsame.symm.trans hi'; cases this), (fun b o hb' _ _ => hK.old b o hb'), fun i hi' => by rw [hwi] at hi'; cases hi'⟩
    obtain ⟨o, ho⟩ := hold a hb'
    have := (hun hu).2 a ha
    rw [show s₁.heap.get? a = none from this] at ho; cases ho
  · cases e'

theorem ints_of {R : WRecords} {cl : Str → Option Addr} {h : Heap} : ∀ {xs : List WData} {vs : List Value} {as : List Addr}, ReadsAllW R cl h vs xs as → WShape.hasItems R xs .int = true → ∃ ns, IntsAre vs ns ∧ ns.length = xs.length
  | [], _, _, r, _ => by
    obtain ⟨rfl, _⟩ := readsAllW_nil_inv r
    exact ⟨[], .nil, rfl⟩
  | d :: xs, _, _, r, hh => by
    obtain ⟨v, vs, a1, a2, rfl, rfl, r1, r2⟩ := readsAllW_cons_inv r
    simp only [WShape.hasItems, Bool.and_eq_true] at hh
    obtain ⟨ns, hi, hl⟩ := ints_of r2 hh.2
    obtain ⟨i, rfl⟩ := hasW_int hh.1
    obtain ⟨t, rfl, _⟩ := readsW_int_inv r1
    exact ⟨i :: ns, .cons i t hi, by simp [hl]⟩

theorem finishG (core : Core) (r : OpenRow) (h1 : r.prog = pw) (h2 : r.records = []) (h3 : r.writes = false) (h4 : r.args = [.list .int]) (h5 : r.pre = .and (.not (.lt (.lit (.int 63)) (.len (.arg 0)))) (.lit (.bool true))) (h6 : r.returns = .bool) (h7 : r.post = .eq .res (.lit (.bool true)))
    (h8 : r.raises = []) (h9 : r.name = "law") (said : r.wellSaid = true)
    (ok : (chainsOk qv && opensWell r.prog && (frees r.toRowW && r.within.isEmpty)) = true) (hb : r.prog.bare) (hw : r.toRowW.promised)
    (hd : ∃ d kwd, defOf qv "law" = some (d, kwd) ∧ pw.theDef "law" = some (d.params, d.body, d.scope) ∧ kwWritten? d.params.kwonlyargs d.params.kw_defaults = some kwd) : r.Holds := by
  obtain ⟨d, kwd, hdef, hp, hk⟩ := hd
  refine openNG (q := qv) (loose := loose0) (Xt := Xt0) (XP := XL qv []) (Yf := Hook.obs hk0) (Ya := Hook.val hk0) (YP := Hook.says hk0) (N := 30000) (d := d) (kwd := kwd) (h1 ▸ left0) (Hook.of hk0) (Hook.keeps hk0) (fun s e => xl_of s (Bool.and_eq_true_iff.mp e).1) XL.keeps (h9 ▸ hdef) (h1 ▸ h9 ▸ hp) hk (fun s _ => recFacts_nil h2) h3 said ok hb hw ?_
  intro w s₀ s₁ mg mb G Y a ha hgens args vals as hpre hlay hrd
  have hX : (KK w.params).In s₁.heap := km_in_of Y
  have hT := km_tabs_of Y
  have T := G.T
  have ea : a = 349 := by
    have e1 := mg_of (n := "law") hX T.g (v := .ref 349) (by kernel_rfl)
    rw [h9, e1] at ha
    cases ha; rfl
  subst ea
  obtain ⟨q1, q2⟩ := pre_splitW hpre
  rw [h2, h4] at q1
  obtain ⟨dd, rr, rfl, q3, q4⟩ := hasAllW_cons q1
  obtain rfl := hasAllW_nil q4
  obtain ⟨xs, rfl, q5⟩ := hasW_list q3
  obtain ⟨v, vs', a1, a2, rfl, rfl, r1, r2⟩ := readsAllW_cons_inv hrd
  obtain ⟨rfl, rfl⟩ := readsAllW_nil_inv r2
  obtain ⟨l, its, as', rfl, hl, r3, rfl⟩ := readsW_list_inv r1
  rw [h2] at r3
  obtain ⟨ns, hns, hlen⟩ := ints_of r3 q5
  have hle : ns.length ≤ 63 := by
    rw [h5] at q2
    have q6 := (holds_andW q2).1
    have q7 := condW_of (X := !(decide ((63 : Int) < (xs.length : Int)))) q6 (by simp only [WTm.value, List.getElem?_cons_zero]; rfl)
    simp only [Bool.not_eq_true', decide_eq_false_iff_not] at q7
    omega
  rw [show model r.prog w = model pw w by rw [h1]]
  refine wpAny_mono (core w s₁ mg mb _ hX (hT 183 (by simp [tabs0])) (hT 327 (by simp [tabs0])) T hgens l its.toList ns (by simpa using hl) hns hle) ?_ (fun _ _ x => x)
  rintro v s' ⟨rfl, hK, hos, hg⟩
  refine ⟨⟨.inl ⟨.bool true, .bool true, [], rfl, fun cls => ?_, .bool _, ?_, fun _ => ⟨List.nodup_nil, fun a ha => nomatch ha⟩⟩, hK, hos, .of_eq hg⟩, hg⟩
  · refine raisesW_false ?_ cls
    rw [h8]; exact fun _ h => nomatch h
  · refine postW_of (X := true) ?_ ?_ rfl
    · rw [h6]; rfl
    · rw [h7]; simp only [WTm.value, beq_self_eq_true, same_self]

theorem finish (core : Core) : PySem.Challenge.rw_aj5027_01.Holds := by
  w_on
  o_law
  rename_i said
  exact finishG core PySem.Challenge.rw_aj5027_01.row rfl rfl rfl rfl rfl rfl rfl rfl rfl said (by decide +kernel) ⟨rfl, rfl, rfl, rfl, rfl, by decide +kernel⟩ (by w_witness2) ⟨_, _, by rfl, by rfl, by rfl⟩
end
end Mine
namespace Mine
noncomputable section
open PySem PySem.W PySem.Calls PyProof.Rows
set_option maxRecDepth 100000
set_option maxHeartbeats 4000000
set_option linter.unusedVariables false
theorem enterK {w : World} {A : Around} {s : Shared} {R : Result → Shared → Prop} {f : Addr} {name qual : Str} {params : Arguments} {body : List Stmt} {scope : Scope} {dV kV doc pm cdv ct oc : Value} {an od : Option Addr} {osl : Array (Option Value)} {args : Args} {binds : List (Str × Value)}
    (X : (KK w.params).In s.heap) (hlim : s.heap.NoLimit) (ho : (KK w.params).lookup f = some ⟨oc, od, .func (fnOf name qual params body scope dV kV doc pm an cdv ct), osl⟩) (hcd : codeIn (KK w.params) cdv qual = true) (hroom : A.depth < recursionLimit)
    (hbind : BindsTo s (fnOf name qual params body scope dV kV doc pm an cdv ct) args binds) (hloc : ∀ y ∈ binds, scope.names.lookup y.1 = some .local)
    (h : ∀ L h₁, Fr s.heap L h₁ (fun y => binds.reverse.lookup y) → News s.heap L h₁ [] →
      wpAny (model pw w) (A.deeper (envOf qual scope L f cdv)) (execs body (envOf qual scope L f cdv)) (fun fl s' => R (.ok (.ret (match fl with | .ret v => v | _ => .none))) s') (fun _ _ => False) { s with heap := h₁, toks := s.toks + binds.length })
    (hco : scope.isCoroutine = false) (hgen : scope.isGenerator = false) (hk : scope.kind = .function) (hcell : ∀ x ∈ scope.names, x.2 ≠ .cell) : codeAny (model pw w) A (.call (.ref f) args) R s :=
  codeAny_call_def (fd := fnOf name qual params body scope dV kV doc pm an cdv ct) hroom (X _ _ ho) rfl hlim (codeRec_of X hcd) rfl hbind hcell hloc
    (fun h₁ hns hk₁ => wpAny_mono (h _ h₁ ⟨hns, hk₁, Nat.le_refl _⟩ News.nil) (fun _ _ x => x) fun _ _ x => x.elim) hco hgen hk


/-- the big-endian number of octets -/
def natOf (l : List UInt8) : Nat := l.foldl (fun (acc : Nat) (b : UInt8) => acc * 256 + b.toNat) 0
theorem grown' {M : Model} {A : Around} {E : Value → Shared → Prop} {s : Shared} {n : Nat} {Q : Value → Shared → Prop} (hn : n < 2 ^ 10000) (h : Q (.int (n : Int) s.toks) { s with toks := s.toks + 1 }) : wpAny M A (mkIntGrown (n : Int)) Q E s := by
  unfold mkIntGrown
  have hl : ¬ ((n : Int).natAbs.log2 ≥ bitsLine) := by
    rw [Int.natAbs_natCast]
    have hb : bitsLine = 134217728 := by first | rfl | decide
    by_cases hz : n = 0
    · subst hz; rw [hb]; decide
    · have h1 := (Nat.log2_lt hz).mpr hn
      omega
  rw [if_neg hl]
  exact wpAny_mkInt h
theorem fromBig {prog : Program} {w : World} {A : Around} {E : Value → Shared → Prop} {s : Shared} {x : Addr} {b : Array UInt8} {t u : Tok} {Q : Value → Shared → Prop} (ho : KFB.StandsAt x s.heap) (hl : b.size ≤ 1000)
    (h : ∀ t' k, Q (.int (natOf b.toList : Nat) t') { s with toks := k }) : wpAny (model prog w) A (call (.ref x) [.bytes b t, .str (PySem.Str.ofString "big") u]) Q E s := by
  refine KFB.call_of ho (z := (natOf b.toList : Nat)) (fun {P E' A'} z => ?_) (h _ _)
  have hn : natOf b.toList < 2 ^ 10000 := by
    have h1 := KFB.fold_lt b.toList 0
    rw [Nat.zero_add, Nat.one_mul, Array.length_toList] at h1
    refine Nat.lt_trans h1 (Nat.lt_of_le_of_lt (Nat.pow_le_pow_right (by decide) hl) ?_)
    have e2 : (256 : Nat) = 2 ^ 8 := by decide
    rw [e2, ← Nat.pow_mul]
    exact Nat.pow_lt_pow_right (by decide) (by decide)
  unfold Builtin.«int.from_bytes»
  refine wpAny_bind (wpAny_of_eq (a := true) KFB.type_int ?_)
  refine KFB.if_not rfl ?_
  refine wpAny_bind (wpAny_of_eq (a := true) F.conv_sub_int ?_)
  refine KFB.if_not rfl ?_
  refine wpAny_bind (wpAny_of_eq (a := [some (.bytes b t), some (.str (PySem.Str.ofString "big") u), none]) (by kernel_rfl) ?_)
  refine wpAny_bind (wpAny_of_eq (a := PySem.Str.ofString "big") (by kernel_rfl) ?_)
  refine wpAny_bind (wpAny_of_eq (a := false) rfl ?_)
  refine wpAny_bind (wpAny_of_eq (a := false) (by kernel_rfl) ?_)
  refine wpAny_bind (wpAny_of_eq (a := b) rfl ?_)
  show wpAny _ _ (mkIntGrown (b.toList.foldl (fun (acc : Int) (b : UInt8) => acc * 256 + (b.toNat : Int)) ((0 : Nat) : Int)) >>= fun v => _) _ _ _
  rw [KFB.foldI_eq]
  refine wpAny_bind (grown' hn ?_)
  refine KFB.if_so (by decide +kernel) ?_
  exact wpAny_bind (wpAny_pure (wpAny_pure z))

open PySem.Builtin.Int (intBits) in
theorem toBig {prog : Program} {w : World} {A : Around} {E : Value → Shared → Prop} {s : Shared} {x : Int} {k : Nat} {t u v : Tok} {Q : Value → Shared → Prop} (hk : k ≤ 64) (h0 : 0 ≤ x) (h1 : x < 256 ^ k)
    (h : ∀ t' k', Q (.bytes (KTBy.low x k).reverse.toArray t') { s with toks := k' }) : wpAny (model prog w) A (call (.builtin "int.to_bytes") [.int x t, .int (k : Int) u, .str (PySem.Str.ofString "big") v]) Q E s := by
  refine wpAny_call_entry KTBy.slot (typeIs_int s x t) KTBy.entry ?_ (KTBy.args _ _ _)
  have hb : intBits x ≤ 8 * k := KTBy.bits_le rfl h0 h1
  show wpAny _ _ (Builtin.Int.intOfSelf (.int x t) >>= fun y => _) _ _ s
  refine wpAny_bind (wpAny_of_eq (a := x) rfl ?_)
  show wpAny _ _ (Builtin.Int.intBindNamed "to_bytes" ["length", "byteorder", "signed"] 0 2 [.int (k : Int) u, .str (PySem.Str.ofString "big") v] [] >>= fun l => _) _ _ s
  refine wpAny_bind (wpAny_of_eq (a := [some (.int (k : Int) u), some (.str (PySem.Str.ofString "big") v), none]) (by kernel_rfl) ?_)
  show wpAny _ _ (Builtin.Int.intIndex "int.to_bytes" (.int (k : Int) u) >>= fun n => _) _ _ s
  refine wpAny_bind (wpAny_of_eq (a := (k : Int)) rfl ?_)
  refine KTBy.if_not (by show (decide ((k : Int) < -(2 ^ 63 : Int)) || decide ((k : Int) ≥ 2 ^ 63)) = false; rw [decide_eq_false (show ¬ ((k : Int) < -(2 ^ 63 : Int)) by omega), decide_eq_false (show ¬ ((k : Int) ≥ 2 ^ 63) by omega)]; rfl) ?_
  refine wpAny_bind (wpAny_of_eq (a := PySem.Str.ofString "big") (by kernel_rfl) ?_)
  refine wpAny_bind (wpAny_of_eq (a := false) rfl ?_)
  refine wpAny_bind (wpAny_of_eq (a := false) (by kernel_rfl) ?_)
  refine wpAny_ite_false (decide_eq_false (show ¬ ((k : Int) < 0) by omega)) ?_
  refine wpAny_ite_false (decide_eq_false (show ¬ ((k : Int) > 2 ^ 63 - 1 - 33) by omega)) ?_
  refine wpAny_ite_false (decide_eq_false (show ¬ ((k : Int) > (sizeLine : Int)) by rw [sizeLine_eq]; omega)) ?_
  refine KTBy.if_not (by show (decide (x < 0) && !false) = false; rw [decide_eq_false (show ¬ x < 0 by omega)]; rfl) ?_
  refine KTBy.if_not (by show (_ && decide ((intBits x : Int) > 8 * (k : Int))) = false; rw [decide_eq_false (show ¬ ((intBits x : Int) > 8 * (k : Int)) by omega), Bool.and_false]) ?_
  refine wpAny_bind (wpAny_mkBytes (wpAny_pure ⟨_, rfl, ?_⟩) (by show (List.reverse (KTBy.low x (Int.toNat (k : Int)))).length ≤ sizeLine; rw [List.length_reverse, KTBy.low_length, Int.toNat_natCast, sizeLine_eq]; omega))
  have := h s.toks (s.toks + 1)
  rw [← Int.toNat_natCast k] at this
  exact this
end
end Mine
namespace Mine
noncomputable section
open PySem PySem.W PySem.Calls PyProof.Rows
set_option maxRecDepth 100000
set_option maxHeartbeats 4000000
set_option linter.unusedVariables false
/-- a list or a table of code objects -/
def lt (o : Obj) : Bool := match o.data with | .seq _ _ => o.cls == .type "list" | .fields _ => o.cls == .none | _ => false
/-- what nobody changes -/
def fixK (o : Obj) : Bool := match o.data with | .seq _ _ => o.cls != .type "list" | .fields _ => o.cls != .none | .dict _ _ => false | .cell none => false | _ => true
def But (S : List Addr) (h h' : Heap) : Prop := ∀ b o, h.get? b = some o → b ∉ S → h'.get? b = some o
def Loose (h : Heap) (S : List Addr) : Prop := ∀ a ∈ S, ∀ o, h.get? a = some o → fixK o = false
def Soft (h : Heap) (S : List Addr) : Prop := ∀ a ∈ S, a ≠ 0 ∧ a ∉ asK ∧ ∃ o, h.get? a = some o ∧ lt o = true
theorem fix_of_lt {o : Obj} (h : lt o = true) : fixK o = false := by
  unfold lt at h; unfold fixK
  split at h <;> simp_all
theorem Soft.loose {h : Heap} {S : List Addr} (x : Soft h S) : Loose h S := fun a ha o e => by
  obtain ⟨o', e', l⟩ := (x a ha).2.2
  rw [e] at e'; cases e'; exact fix_of_lt l
theorem Soft.nil {h : Heap} : Soft h [] := fun _ h => nomatch h
theorem But.refl {S : List Addr} {h : Heap} : But S h h := fun _ _ e _ => e
theorem But.trans {S : List Addr} {h h' h'' : Heap} (x : But S h h') (y : But S h' h'') : But S h h'' := fun b o e hb => y b o (x b o e hb) hb
theorem But.mono {S S' : List Addr} {h h' : Heap} (x : But S h h') (hs : ∀ a ∈ S, a ∈ S') : But S' h h' := fun b o e hb => x b o e fun q => hb (hs b q)
theorem But.of_stays {S : List Addr} {h h' : Heap} (x : h.StaysIn h') : But S h h' := fun b o e _ => x b o e
theorem But.fix {S : List Addr} {h h' : Heap} {b : Addr} {o : Obj} (x : But S h h') (hs : Loose h S) (e : h.get? b = some o) (hf : fixK o = true) : h'.get? b = some o :=
  x b o e fun q => by rw [hs b q o e] at hf; cases hf
theorem loose_L {h : Heap} {L : Addr} {m : Str → Option Value} (n : h.Ns L m) : Loose h [L] := fun a ha o e => by
  obtain ⟨o', es, ep, e', hd, _⟩ := n
  cases List.mem_singleton.mp ha
  rw [e] at e'; cases e'; unfold fixK; rw [hd]
theorem mem_asK {P : Params} {a : Addr} {o : Obj} (e : (KK P).lookup a = some o) : a ∈ asK := by
  rw [asK_eq P]; exact List.mem_map.mpr ⟨(a, o), mem_of_lookupK e, rfl⟩
theorem K_but {P : Params} {S : List Addr} {h h' : Heap} (X : (KK P).In h) (M : But S h h') (hs : ∀ a ∈ S, a ∉ asK) : (KK P).In h' := fun a o e => M a o (X a o e) fun q => hs a q (mem_asK e)
abbrev l0 : List Str := looseW qv loose0 ++ (recsOf qv).map (·.name) ++ (litsOf qv).map (·.1) ++ (clssOf qv (looseW qv loose0)).map (·.name)
theorem ns_but {S : List Addr} {h h' : Heap} {a : Addr} {mm : Str → Option Value} (M : But S h h') (ha : a ∉ S) (x : h.Ns a mm) : h'.Ns a mm :=
  let ⟨o, es, ep, e, r⟩ := x; ⟨o, es, ep, M _ _ e ha, r⟩
theorem top_but {S : List Addr} {h h' : Heap} {mean : ExcName → Option Value} {mg mb : Str → Option Value} (T : Top topProg l0 mean mg mb h) (M : But S h h') (hs : ∀ a ∈ S, a ≠ 0 ∧ a ∉ asK) (hl : Loose h S) : Top topProg l0 mean mg mb h' := by
  have h3 : (3 : Addr) ∉ S := fun q => (hs _ q).2 (by decide +kernel)
  have h2 : (2 : Addr) ∉ S := fun q => (hs _ q).2 (by decide +kernel)
  have h0 : (0 : Addr) ∉ S := fun q => (hs _ q).1 rfl
  exact {
    g := ns_but M h3 T.g
    b := ns_but M h0 T.b
    nolimit := let ⟨mc, a, r⟩ := T.nolimit; ⟨mc, ns_but M h2 a, r⟩
    nodigits := let ⟨mc, a, r⟩ := T.nodigits; ⟨mc, ns_but M h2 a, r⟩
    fn := fun d hd => absurd (show d ∈ ([] : List DefRec) from hd) List.not_mem_nil
    own := fun o ho => absurd (show o ∈ ([] : List OwnSpec) from ho) List.not_mem_nil
    const := fun x d e => by cases (show (none : Option PyData) = some d from e)
    free := T.free
    builtins := T.builtins
    tab := fun d hd => absurd (show d ∈ ([] : List DefRec) from hd) List.not_mem_nil
    bmain := let ⟨bm, ob, a1, a2, a3, a4, a5, a6⟩ := T.bmain; ⟨bm, ob, a1, a2, M.fix hl a3 (by unfold fixK; rw [a6]), a4, a5, a6⟩
    seer := fun e => absurd (show false = true from e) Bool.false_ne_true }
theorem top0 {h : Heap} {mean : ExcName → Option Value} {mg mb : Str → Option Value} (T : Top qv (looseW qv loose0) mean mg mb h) : Top topProg l0 mean mg mb h := ghost_top (tabs := []) (h₁ := h) (fun _ hq => nomatch hq) T

/-- the objects of a heap that stand neither in the base nor at L -/
def rest (base : Heap) (L : Addr) (h : Heap) : List (Addr × Obj) := (List.range h.objs.size).filterMap fun b => if b = L ∨ (base.get? b).isSome then none else (h.get? b).map fun o => (b, o)
theorem mem_rest {base : Heap} {L b : Addr} {h : Heap} {o : Obj} : (b, o) ∈ rest base L h ↔ h.get? b = some o ∧ b ≠ L ∧ base.get? b = none := by
  unfold rest
  rw [List.mem_filterMap]
  constructor
  · rintro ⟨c, _, hc⟩
    split at hc
    · cases hc
    · rename_i hn
      obtain ⟨o', e, e2⟩ := Option.map_eq_some_iff.mp hc
      cases e2
      refine ⟨e, fun q => hn (.inl q), ?_⟩
      cases q : base.get? b with
      | none => rfl
      | some x => exact absurd (.inr (by rw [q]; rfl)) hn
  · rintro ⟨e, hL, hb⟩
    refine ⟨b, List.mem_range.mpr (Heap.lt_size e), ?_⟩
    rw [if_neg (by rintro (q | q); · exact hL q
                   · rw [hb] at q; cases q), e]
    rfl
/-- big covers hG, but for base and L -/
def Seg (base : Heap) (L : Addr) (hG : Heap) (big : List (Addr × Obj)) : Prop := ∀ b o, hG.get? b = some o → b ≠ L → base.get? b = some o ∨ (b, o) ∈ big
theorem Seg.now {base hG h : Heap} {L : Addr} {m : Str → Option Value} {big : List (Addr × Obj)} (G : Seg base L hG big) (F : Fr base L h m) (N : News base L h big) : But [L] hG h := fun b o e hb =>
  (G b o e fun q => hb (List.mem_singleton.mpr q)).elim (F.keep b o) fun hm => (N _ hm).1
theorem seg {base h h' : Heap} {L : Addr} {m : Str → Option Value} {S : List Addr} (F : Fr base L h m) (M : But S h h') (hS : ∀ a ∈ S, base.get? a = none) (hL : L ∉ S) :
    ∃ big, Fr base L h' m ∧ News base L h' big ∧ Seg base L h' big := by
  have F' : Fr base L h' m := ⟨ns_but M hL F.ns, fun b o e => M b o (F.keep b o e) fun q => (by rw [hS b q] at e; cases e), F.above⟩
  refine ⟨rest base L h', F', fun p hp => ?_, fun b o e hb => ?_⟩
  · obtain ⟨a, c, d⟩ := mem_rest.mp hp; exact ⟨a, c, d⟩
  · cases q : base.get? b with
    | none => exact .inr (mem_rest.mpr ⟨e, hb, q⟩)
    | some x =>
      have := F'.keep b x q
      rw [e] at this; cases this; exact .inl rfl
theorem seg0 {h₀ h : Heap} {L : Addr} {m : Str → Option Value} (S : List Addr) (F : Fr h₀ L h m) : ∃ big, Fr (hideAll h₀ S) L h m ∧ News (hideAll h₀ S) L h big ∧ Seg (hideAll h₀ S) L h big :=
  seg (S := []) (h := h) (L := L) (m := m) ⟨F.ns, fun b o e => F.keep b o (of_hideAll _ e), Nat.le_trans (Nat.le_of_eq (hideAll_size _ _)) F.above⟩ But.refl (fun _ h => nomatch h) (fun h => nomatch h)
theorem done {h₀ h : Heap} {L : Addr} {m : Str → Option Value} {S : List Addr} (F : Fr (hideAll h₀ S) L h m) : But S h₀ h := fun b o e hb => F.keep b o (hideAll_get _ e hb)
theorem soft_ne {h : Heap} {L : Addr} {m : Str → Option Value} {S : List Addr} (n : h.Ns L m) (x : Soft h S) : L ∉ S := fun q => by
  obtain ⟨o', es, ep, e', hd, _⟩ := n
  obtain ⟨o, e, l⟩ := (x L q).2.2
  rw [e'] at e; cases e; unfold lt at l; rw [hd] at l; cases l
theorem size_of_stays {h h' : Heap} {b : Addr} {o : Obj} (e : h'.get? b = some o) : b < h'.objs.size := Heap.lt_size e

/-- a code object -/
def CodeR (h : Heap) (cd : Value) (q : Str) : Prop := ∃ c o vs t, cd = .ref c ∧ h.get? c = some o ∧ o.cls = .type "code" ∧ o.data = .fields vs ∧ vs[1]? = some (.str q t)
theorem CodeR.rec {h : Heap} {cd : Value} {q : Str} (x : CodeR h cd q) : h.CodeRec cd q := let ⟨c, o, vs, t, e, g, _, d, r⟩ := x; ⟨c, o, vs, t, e, g, d, r⟩
theorem CodeR.but {S : List Addr} {h h' : Heap} {cd : Value} {q : Str} (x : CodeR h cd q) (M : But S h h') (hs : Loose h S) : CodeR h' cd q :=
  let ⟨c, o, vs, t, e, g, hc, d, r⟩ := x; ⟨c, o, vs, t, e, M.fix hs g (by unfold fixK; rw [d, hc]; rfl), hc, d, r⟩
theorem codeHd_but {S : List Addr} {h h' : Heap} {c P : Addr} (x : CodeHd h c P) (M : But S h h') (hs : Loose h S) : CodeHd h' c P := by
  obtain ⟨o, vs, file, tf, flags, tg, inF, text, tt, e, hc, hd, r⟩ := x
  exact ⟨o, vs, file, tf, flags, tg, inF, text, tt, M.fix hs e (by unfold fixK; rw [hd, hc]; rfl), hc, hd, r⟩
theorem cell_but {S : List Addr} {h h' : Heap} {c : Addr} {v : Value} (x : h.IsCell c (some v)) (M : But S h h') (hs : Loose h S) : h'.IsCell c (some v) :=
  let ⟨o, e, d⟩ := x; ⟨o, M.fix hs e (by unfold fixK; rw [d]), d⟩
theorem tup_but {S : List Addr} {h h' : Heap} {a : Addr} {its : Array Value} (x : IsTup h a its) (M : But S h h') (hs : Loose h S) : IsTup h' a its :=
  let ⟨o, e, c, n, d⟩ := x; ⟨o, M.fix hs e (by unfold fixK; rw [d, c]; rfl), c, n, d⟩

/-- a def that stands at f -/
def FnO (h : Heap) (f : Addr) (st : Stmt) (qual : Str) (cl : List (Str × Addr)) (dV cd : Value) : Prop :=
  ∃ oc od sl doc pm ct, h.get? f = some ⟨oc, od, .func (fnX (fName st) qual (fArgs st) (fBody st) (fScope st) cl dV .none doc pm none cd ct), sl⟩ ∧ CodeR h cd qual
theorem FnO.but {S : List Addr} {h h' : Heap} {f : Addr} {st : Stmt} {qual : Str} {cl : List (Str × Addr)} {dV cd : Value} (x : FnO h f st qual cl dV cd) (M : But S h h') (hs : Loose h S) : FnO h' f st qual cl dV cd :=
  let ⟨oc, od, sl, doc, pm, ct, e, c⟩ := x; ⟨oc, od, sl, doc, pm, ct, M.fix hs e rfl, c.but M hs⟩

/-- a list of one bytes object -/
def LstO (h : Heap) (l : Addr) (b : Array UInt8) : Prop := l ≠ 0 ∧ l ∉ asK ∧ ∃ t, h.IsList l #[.bytes b t]
theorem LstO.but {S : List Addr} {h h' : Heap} {l : Addr} {b : Array UInt8} (x : LstO h l b) (M : But S h h') (hl : l ∉ S) : LstO h' l b := let ⟨a, k, t, o, e, r⟩ := x; ⟨a, k, t, o, M _ _ e hl, r⟩
/-- a table of code objects: what is entered at a place of spec bears that place's name -/
def TabI (h : Heap) (P : Addr) (spec : List (Pos × Str)) : Prop := P ≠ 0 ∧ P ∉ asK ∧ ∃ ps, h.get? P = some (tabObj ps) ∧ TriplesOk ps.toList ∧ ∀ q ∈ spec, ∀ cv, codeAmong q.1 ps.toList = some cv → CodeR h cv q.2
theorem TabI.but {S : List Addr} {h h' : Heap} {P : Addr} {spec : List (Pos × Str)} (x : TabI h P spec) (M : But S h h') (hs : Loose h S) (hP : P ∉ S) : TabI h' P spec :=
  let ⟨a, b, ps, e, t, r⟩ := x; ⟨a, b, ps, M _ _ e hP, t, fun q hq cv hc => (r q hq cv hc).but M hs⟩
theorem soft1 {h : Heap} {a : Addr} {o : Obj} (h0 : a ≠ 0) (hk : a ∉ asK) (e : h.get? a = some o) (hl : lt o = true) : Soft h [a] := fun b hb => by cases List.mem_singleton.mp hb; exact ⟨h0, hk, o, e, hl⟩
theorem LstO.soft {h : Heap} {l : Addr} {b : Array UInt8} (x : LstO h l b) : Soft h [l] := let ⟨a, k, _, o, e, c, n, d⟩ := x; soft1 a k e (by unfold lt; rw [d, c]; rfl)
theorem TabI.soft {h : Heap} {P : Addr} {spec : List (Pos × Str)} (x : TabI h P spec) : Soft h [P] := let ⟨a, k, _, e, _⟩ := x; soft1 a k e rfl

theorem among_more {pos : Pos} {cv : Value} (l x : List Value) (h : TriplesOk l) (hn : codeAmong pos l = some cv) : codeAmong pos (l ++ x) = some cv := by
  fun_induction TriplesOk l with
  | case1 => simp [codeAmong] at hn
  | case2 a t b u y rest ih =>
    simp only [List.cons_append, codeAmong] at hn ⊢
    split at hn
    · rename_i hc; rw [if_pos hc]; exact hn
    · rename_i hc; rw [if_neg hc]; exact ih h hn
  | case3 l h1 h2 => exact h.elim
theorem among_other {pos p : Pos} {v : Value} (l : List Value) (h : TriplesOk l) (hn : codeAmong pos l = none) (hp : (p.line == pos.line && p.col == pos.col) = false) :
    codeAmong pos (l ++ [rawInt p.line, rawInt p.col, v]) = none := by
  fun_induction TriplesOk l with
  | case1 =>
    have h2 : ¬ (p.line = pos.line ∧ p.col = pos.col) := by simpa using hp
    simp [codeAmong, rawInt]
    omega
  | case2 a t b u y rest ih =>
    simp only [List.cons_append, codeAmong] at hn ⊢
    split at hn
    · cases hn
    · rename_i hc; rw [if_neg hc]; exact ih h hn
  | case3 l h1 h2 => exact h.elim

/-- what a def does to its maker's table -/
def NewTab (h h' : Heap) (P : Addr) (ps : Array Value) (pos : Pos) (cd : Value) : Prop :=
  (codeAmong pos ps.toList = some cd ∧ h'.get? P = some (tabObj ps)) ∨
  (codeAmong pos ps.toList = none ∧ ∃ c' P', cd = .ref c' ∧ CodeHd h' c' P' ∧ h'.get? P' = some (tabObj #[]) ∧ h.objs.size ≤ P' ∧ h'.get? P = some (tabObj (ps ++ #[rawInt pos.line, rawInt pos.col, .ref c'])))

theorem doc_of {M : Model} {A : Around} {E : Value → Shared → Prop} {s : Shared} {b : List Stmt} {Q : Value → Shared → Prop} (h : ∀ d tk, Q d { s with toks := tk }) :
    wpAny M A (match docOf b with | some s => mkText s | none => pure .none) Q E s := by
  split
  · exact wpAny_mkText (h _ _)
  · exact wpAny_pure (h _ s.toks)
theorem fn_code {M : Model} {A : Around} {E : Value → Shared → Prop} {s : Shared} {env : Env} {c P : Addr} {ps : Array Value} {pos : Pos} {firstLine : Nat} {name qual : Str} {p : Arguments} {scope : Scope} {body : FuncBody} {Q : Value → Shared → Prop}
    (hc : env.code = .ref c) (C : CodeHd s.heap c P) (hP : s.heap.get? P = some (tabObj ps)) (ht : TriplesOk ps.toList) (hit : ∀ cv, codeAmong pos ps.toList = some cv → CodeR s.heap cv qual)
    (h : ∀ cd h' tk, But [P] s.heap h' → s.heap.objs.size ≤ h'.objs.size → CodeR h' cd qual → NewTab s.heap h' P ps pos cd → Q cd { s with heap := h', toks := tk }) :
    wpAny M A (functionCode env pos firstLine name qual p scope body) Q E s := by
  cases hf : codeAmong pos ps.toList with
  | some cv => exact wpAny_functionCode_hit hc (C.code hP ht) hf (h cv s.heap s.toks But.refl (Nat.le_refl _) (hit cv hf) (.inl ⟨hf, hP⟩))
  | none =>
    refine wpAny_functionCodeX hc (C.code hP ht) (C.tab hP) hf fun c' h' tk hx hge hlt _ hrec htb hnew => ?_
    obtain ⟨P', hP', hcode, htab⟩ := hnew
    refine h (.ref c') h' tk (fun b o e hb => hx b o (fun q => hb (List.mem_singleton.mpr q)) e) (Nat.le_of_lt (Nat.lt_of_le_of_lt hge hlt)) ?_ (.inr ⟨hf, c', P', rfl, CodeHd.of hcode htab, htab.2, hP', htb.2⟩)
    obtain ⟨c2, o2, vs2, t2, e2, g2, d2, r2⟩ := hrec
    cases e2
    obtain ⟨⟨oo, vs3, g3, hc3, d3, _⟩, _⟩ := htab
    rw [g3] at g2; cases g2
    exact ⟨c', _, vs2, t2, rfl, g3, hc3, d2, r2⟩

theorem NewTab.more {h h' h'' : Heap} {P : Addr} {ps : Array Value} {pos : Pos} {cd : Value} (x : NewTab h h' P ps pos cd) (hk : h'.StaysIn h'') : NewTab h h'' P ps pos cd := by
  rcases x with ⟨a, b⟩ | ⟨a, c', P', b, c, d, e, f⟩
  · exact .inl ⟨a, hk _ _ b⟩
  · exact .inr ⟨a, c', P', b, c.keeps hk, hk _ _ d, e, hk _ _ f⟩
theorem But.keep {S : List Addr} {h h' h'' : Heap} (x : But S h h') (hk : h'.StaysIn h'') : But S h h'' := fun b o e hb => hk _ _ (x b o e hb)

theorem tail_any {M : Model} {A : Around} {E : Value → Shared → Prop} {s : Shared} {name qual : Str} {params : Arguments} {body : List Stmt} {scope : Scope} {env : Env} {c P : Addr} {ps : Array Value} {pos : Pos} {firstLine : Nat} {mg mb : Str → Option Value} {mean : ExcName → Option Value}
    {clos : List (Str × Addr)} {Q : Value → Shared → Prop} {dV : Value}
    (hcl : closureFor scope env = pure clos) (hge0 : env.globals = mainGlobals) (T : Top topProg l0 mean mg mb s.heap) (hcode : env.code = .ref c) (C : CodeHd s.heap c P) (h0 : P ≠ 0) (h9 : P ∉ asK) (hP : s.heap.get? P = some (tabObj ps)) (ht : TriplesOk ps.toList)
    (hit : ∀ cv, codeAmong pos ps.toList = some cv → CodeR s.heap cv qual)
    (h : ∀ f h' tk doc pm ct cd, But [P] s.heap h' → s.heap.objs.size ≤ f → f < h'.objs.size → h'.get? f = some ⟨.type "function", none, .func (fnX name qual params body scope clos dV .none doc pm none cd ct), #[]⟩ → CodeR h' cd qual → NewTab s.heap h' P ps pos cd →
      Q (.ref f) { s with heap := h', toks := tk }) :
    wpAny M A (makeTail name qual params (.stmts body) scope env dV .none none pos firstLine) Q E s := by
  have hs : Soft s.heap [P] := soft1 h0 h9 hP rfl
  have hs2 : ∀ a ∈ [P], a ≠ 0 ∧ a ∉ asK := fun a ha => ⟨(hs a ha).1, (hs a ha).2.1⟩
  obtain ⟨bm, ob, b1, b2, b3, b4, b5, b6⟩ := T.bmain
  unfold makeTail
  rw [hcl, hge0]
  refine wpAny_bind (wpAny_pure ?_)
  have fin : ∀ (ct : Value) (h₁ : Heap), s.heap.StaysIn h₁ → s.heap.objs.size ≤ h₁.objs.size → wpAny M A (do
      let cdv ← functionCode env pos firstLine name qual params scope (.stmts body)
      let bi ← builtinsFor mainGlobals env.builtins
      let pm ← nsGet mainGlobals "__name__"
      let d ← (match docOf body with | some s => mkText s | none => pure .none)
      newObj (.type "function") (.func { name, qualname := qual, params, body := .stmts body, scope, globals := mainGlobals, closure := clos, closureTuple := ct, code := cdv, builtins := bi, defaults := dV, kwdefaults := .none, annotations := none, pyModule := pm.getD .none, doc := d })) Q E { s with heap := h₁ } := by
    intro ct h₁ hk₁ hz₁
    refine wpAny_bind (fn_code (s := { s with heap := h₁ }) hcode (C.keeps hk₁) (hk₁ _ _ hP) ht (fun cv hc => (hit cv hc).but (But.of_stays hk₁ (S := [])) Soft.nil.loose) fun cd h₂ tk M₂ hz₂ cr nt => ?_)
    have M : But [P] s.heap h₂ := fun b o e hb => M₂ b o (hk₁ _ _ e) hb
    have T₂ := top_but T M hs2 hs.loose
    have g3 : h₂.get? bm = some ob := M.fix hs.loose b3 (by unfold fixK; rw [b6])
    refine wpAny_bind (wpAny_builtinsFor T₂.g b1 b2 g3 b4 b5 b6 ?_)
    refine wpAny_bind (wpAny_nsGet T₂.g ?_)
    refine wpAny_bind (doc_of fun d tk' => ?_)
    refine wpAny_newObj_type ?_ (by size_fits)
    have hk : h₂.StaysIn (h₂.push { cls := .type "function", data := .func (fnX name qual params body scope clos dV .none d ((mg "__name__").getD .none) none cd ct) }) := fun b o e => Heap.get?_push_of_some _ e
    refine h h₂.objs.size _ tk' d _ ct cd (M.keep hk) (Nat.le_trans hz₁ hz₂) (by show _ < (h₂.push _).objs.size; rw [Heap.size_push]; exact Nat.lt_succ_self _) (Heap.get?_push_size _ rfl) (cr.but (But.of_stays hk (S := [])) Soft.nil.loose) ?_
    have nt' := nt.more hk
    rcases nt' with ⟨a, b⟩ | ⟨a, c', P', b, c, d, e, f⟩
    · exact .inl ⟨a, b⟩
    · exact .inr ⟨a, c', P', b, c, d, Nat.le_trans hz₁ e, f⟩
  by_cases hce : clos.isEmpty = true
  · simp only [hce, if_true]
    exact wpAny_bind (wpAny_pure (fin _ s.heap (fun _ _ e => e) (Nat.le_refl _)))
  · simp only [hce, if_false, Bool.false_eq_true]
    exact wpAny_bind (wpAny_newTextTuple (fin _ _ (fun b o e => Heap.get?_push_of_some _ e) (by rw [Heap.size_push]; omega)))
theorem TabI.new {h h' : Heap} {P : Addr} {spec : List (Pos × Str)} {ps : Array Value} {pos : Pos} {qual : Str} {cd : Value} (h0 : P ≠ 0) (h9 : P ∉ asK) (hP : h.get? P = some (tabObj ps)) (ht : TriplesOk ps.toList) (hr : ∀ q ∈ spec, ∀ cv, codeAmong q.1 ps.toList = some cv → CodeR h cv q.2)
    (M : But [P] h h') (cr : CodeR h' cd qual) (nt : NewTab h h' P ps pos cd) (hsp : ∀ q ∈ spec, (pos.line == q.1.line && pos.col == q.1.col) = true → q.2 = qual) : TabI h' P spec := by
  have hs : Loose h [P] := (soft1 h0 h9 hP rfl).loose
  rcases nt with ⟨a, b⟩ | ⟨a, c', P', rfl, c, d, e, f⟩
  · exact ⟨h0, h9, ps, b, ht, fun q hq cv hc => (hr q hq cv hc).but M hs⟩
  · refine ⟨h0, h9, _, f, by simpa using TriplesOk_snoc _ _ _ _ ht, fun q hq cv hc => ?_⟩
    have hl : (ps ++ #[rawInt pos.line, rawInt pos.col, Value.ref c']).toList = ps.toList ++ [rawInt pos.line, rawInt pos.col, .ref c'] := by simp
    rw [hl] at hc
    cases hx : codeAmong q.1 ps.toList with
    | some cv' =>
      rw [among_more _ _ ht hx] at hc; cases hc
      exact (hr q hq cv hx).but M hs
    | none =>
      cases hp : (pos.line == q.1.line && pos.col == q.1.col) with
      | false => rw [among_other _ ht hx hp] at hc; cases hc
      | true =>
        have e1 : q.2 = qual := hsp q hq hp
        have e2 : rawInt pos.line = rawInt q.1.line ∧ rawInt pos.col = rawInt q.1.col := by
          simp only [Bool.and_eq_true, beq_iff_eq] at hp
          rw [hp.1, hp.2]; exact ⟨rfl, rfl⟩
        rw [e2.1, e2.2, codeAmong_snoc _ ht hx] at hc
        cases hc; rw [e1]; exact cr
end
end Mine
namespace Mine
noncomputable section
open PySem PySem.W PySem.Calls PyProof.Rows
set_option maxRecDepth 100000
set_option maxHeartbeats 4000000
set_option linter.unusedVariables false
def stAt (l : List Stmt) (i : Nat) : Stmt := (l[i]?).getD (.Pass ⟨0, 0, 0, 0⟩)
def sConst : Stmt := stAt (fBody (fS 23)) 0
def sUpd : Stmt := stAt (fBody sConst) 1
def sDig : Stmt := stAt (fBody sConst) 2
def sCopy : Stmt := stAt (fBody sConst) 3
def qConst : Str := ("_law_maker" : Str) ++ ".<locals>." ++ "const"
def qUpd : Str := qConst ++ ".<locals>." ++ "update"
def qDig : Str := qConst ++ ".<locals>." ++ "digest"
def qCopy : Str := qConst ++ ".<locals>." ++ "copy"
theorem enterF {w : World} {A : Around} {s : Shared} {R : Result → Shared → Prop} {f : Addr} {st : Stmt} {qual : Str} {cl : List (Str × Addr)} {dV cd : Value} {args : Args} {binds : List (Str × Value)} {mg mb : Str → Option Value} {mean : ExcName → Option Value}
    (X : (KK w.params).In s.heap) (T : Top topProg l0 mean mg mb s.heap) (S : List Addr) (hS : Soft s.heap S) (x : FnO s.heap f st qual cl dV cd) (hroom : A.depth < recursionLimit)
    (hbind : ∀ doc pm ct, BindsTo s (fnX (fName st) qual (fArgs st) (fBody st) (fScope st) cl dV .none doc pm none cd ct) args binds) (hloc : ∀ y ∈ binds, (fScope st).names.lookup y.1 = some .local)
    (h : ∀ base L h₁ big, But S s.heap base → base.StaysIn s.heap → (∀ a ∈ S, base.get? a = none) → (KK w.params).In base → Top topProg l0 mean mg mb base → Fr base L h₁ (fun y => binds.reverse.lookup y) → News base L h₁ big → Seg base L s.heap big → s.heap.objs.size ≤ L →
      wpAny (model pw w) (A.deeper (envX qual (fScope st) L f cd cl)) (execs (fBody st) (envX qual (fScope st) L f cd cl)) (fun fl s' => R (.ok (.ret (match fl with | .ret v => v | _ => .none))) s') (fun _ _ => False) { s with heap := h₁, toks := s.toks + binds.length })
    (hco : (fScope st).isCoroutine = false) (hgen : (fScope st).isGenerator = false) (hk : (fScope st).kind = .function) (hcell : ∀ x ∈ (fScope st).names, x.2 ≠ .cell) : codeAny (model pw w) A (.call (.ref f) args) R s := by
  obtain ⟨oc, od, sl, doc, pm, ct, ho, hcd⟩ := x
  refine codeAny_call_def hroom ho rfl T.nolimit hcd.rec rfl (hbind doc pm ct) hcell hloc (fun h₁ hns hk₁ => ?_) hco hgen hk
  have F : Fr s.heap s.heap.objs.size h₁ (fun y => binds.reverse.lookup y) := ⟨hns, hk₁, Nat.le_refl _⟩
  obtain ⟨big, F', N', G'⟩ := seg0 S F
  have M : But S s.heap (hideAll s.heap S) := fun b o e hb => hideAll_get _ e hb
  have h2 : ∀ a ∈ S, a ≠ 0 ∧ a ∉ asK := fun a ha => ⟨(hS a ha).1, (hS a ha).2.1⟩
  exact wpAny_mono (h _ _ h₁ big M (fun b o e => of_hideAll _ e) (fun a ha => hideAll_none _ ha) (K_but X M fun a ha => (h2 a ha).2) (top_but T M h2 hS.loose) F' N' (fun b o e hb => G' b o (hk₁ b o e) hb) (Nat.le_refl _)) (fun _ _ x => x) fun _ _ x => x.elim
theorem fnK {P : Params} {h : Heap} {f c : Addr} {st : Stmt} {q : Str} {doc pm dV ct oc : Value} {an od od2 : Option Addr} {sl sl2 : Array (Option Value)} {vs : Array Value} {t : Tok} (X : (KK P).In h)
    (e : (KK P).lookup f = some ⟨oc, od, .func (fnX (fName st) q (fArgs st) (fBody st) (fScope st) [] dV .none doc pm none (.ref c) ct), sl⟩)
    (e2 : (KK P).lookup c = some ⟨.type "code", od2, .fields vs, sl2⟩) (e3 : vs[1]? = some (.str q t)) : FnO h f st q [] dV (.ref c) :=
  ⟨oc, od, sl, doc, pm, ct, X _ _ e, c, _, vs, t, rfl, X _ _ e2, rfl, rfl, e3⟩
theorem nameB {M : Model} {A : Around} {E : Value → Shared → Prop} {s : Shared} {base : Heap} {L a c : Addr} {m : Str → Option Value} {cn : Str} {cs : Scope} {ccd : Value} {cl : List (Str × Addr)} {x : Str} {pos : Pos} {v : Value} {Q : Value → Shared → Prop}
    (F : Fr base L s.heap m) (hc : cl.lookup x = some c) (hi : base.IsCell c (some v)) (h : Q v s)
    (hk : cs.kind = .function := by rfl) (hx : (envX cn cs L a ccd cl).kindOf x = some .free := by rfl) (hb : (x == ("__debug__" : Str)) = false := by decide) (hn : (x == ("__classdict__" : Str)) = false := by decide) :
    wpAny M A (eval (.Name x pos) (envX cn cs L a ccd cl)) Q E s := wpAny_Name (wpAny_loadName_free hk hx hc (hi.keeps F.keep) h hn) hb
theorem newsWith {base h : Heap} {L b : Addr} {o : Obj} {hG : Heap} {big : List (Addr × Obj)} (N : News base L h big) (G : Seg base L hG big) (e : hG.get? b = some o) (hb : base.get? b = none) (hL : b ≠ L) : News base L h ((b, o) :: big) := fun p hp => by
  rcases List.mem_cons.mp hp with rfl | hp
  · exact (G b o e hL).elim (fun q => by rw [hb] at q; cases q) fun hm => N _ hm
  · exact N _ hp

theorem set0 {w : World} {A : Around} {E : Value → Shared → Prop} {s : Shared} {base : Heap} {L l : Addr} {m : Str → Option Value} {big : List (Addr × Obj)} {x v : Value} {od : Option Addr} {n : Nat} {sl : Array (Option Value)} {t : Tok} {Q : Unit → Shared → Prop}
    (F : Fr base L s.heap m) (N : News base L s.heap ((l, ⟨.type "list", od, .seq #[x] n, sl⟩) :: big)) (h : ∀ h', Fr base L h' m → News base L h' [] → h'.IsList l #[v] → h'.objs.size = s.heap.objs.size → Q () { s with heap := h' }) :
    wpAny (model pw w) A (setItem (.ref l) (.int 0 t) v) Q E s := by
  have n0 := N _ (List.mem_cons_self ..)
  refine wpAny_setItem_list (items := #[x]) ⟨_, n0.1, rfl, _, rfl⟩ (by decide) (by decide) (by simp) fun h' hl hs => h h' (F.change hs n0.2.1 n0.2.2) News.nil (by simpa using hl) hs.1
def UpdO (h : Heap) (u l : Addr) : Prop := ∃ kc cd, FnO h u sUpd qUpd [("kept", kc)] .none cd ∧ h.IsCell kc (some (.ref l))
def DigO (h : Heap) (d l : Addr) (size : Nat) : Prop := ∃ kc sc t cd, FnO h d sDig qDig [("size", sc), ("kept", kc)] .none cd ∧ h.IsCell kc (some (.ref l)) ∧ h.IsCell sc (some (.int size t))
def CopyO (h : Heap) (cp l c : Addr) : Prop := ∃ kc cc cd, FnO h cp sCopy qCopy [("kept", kc), ("const", cc)] .none cd ∧ h.IsCell kc (some (.ref l)) ∧ h.IsCell cc (some (.ref c))
end
end Mine
namespace Mine
noncomputable section
open PySem PySem.W PySem.Calls PyProof.Rows
set_option maxRecDepth 100000
set_option maxHeartbeats 4000000
set_option linter.unusedVariables false
theorem szF {h₀ h : Heap} {L : Addr} {m : Str → Option Value} (F : Fr h₀ L h m) : h₀.objs.size ≤ h.objs.size := Nat.le_of_lt (Nat.lt_of_le_of_lt F.above F.ns.lt)
theorem outF {S : List Addr} {h₀ base h : Heap} {L : Addr} {m : Str → Option Value} (M : But S h₀ base) (F : Fr base L h m) : But S h₀ h := fun b o e hb => F.keep b o (M b o e hb)
theorem szL {h₀ base h : Heap} {L : Addr} {m : Str → Option Value} (hL : h₀.objs.size ≤ L) (F : Fr base L h m) : h₀.objs.size ≤ h.objs.size := Nat.le_of_lt (Nat.lt_of_le_of_lt hL F.ns.lt)
/-- the two numbers that _law_sizes answers -/
def sizesOf (n : Int) : Nat × Nat := if n.fmod 4 = 0 then (8, 16) else if n.fmod 4 = 1 then (16, 24) else if n.fmod 4 = 2 then (20, 20) else (5, 32)
theorem s_cell {w : World} {A : Around} {s : Shared} {mg mb : Str → Option Value} {mean : ExcName → Option Value} {l : Addr} {vs : List Value} {ns : List Int} {k : Nat} {t : Tok} {Q : Value → Shared → Prop}
    (X : (KK w.params).In s.heap) (T : Top topProg l0 mean mg mb s.heap) (hd : A.depth + 0 < recursionLimit) (hl : s.heap.IsList l vs.toArray) (hi : IntsAre vs ns) (hn : ns.length ≤ 63)
    (hQ : ∀ t' h' tk, s.heap.StaysIn h' → s.heap.objs.size ≤ h'.objs.size → Q (.int (ns.getD k 0) t') { s with heap := h', toks := tk }) :
    wpAny (model pw w) A (call (.ref 318) [.ref l, .int k t]) Q (fun _ _ => False) s := by
  have hfill : KK w.params = KK w.params ∧ PySem.Challenge.rw_aj5027_01 = PySem.Challenge.rw_aj5027_01 := by
    k_fill
    exact ⟨rfl, rfl⟩
  clear hfill
  refine wpAny_call ?_
  refine' enterK (binds := [("script", .ref l), ("k", .int k t)]) X T.nolimit ?ho ?hcd ?room ?hb ?hloc ?_ ?c2 ?c3 ?c4 ?c5
  case ho => k_is
  case hcd => k_is
  case room => omega
  case hb => exact BindsTo.of_eq rfl
  case hloc => exact locs rfl
  case c2 => rfl
  case c3 => rfl
  case c4 => rfl
  case c5 => decide
  intro L h₁ F N
  have KX := X
  have KT := T
  clear X T
  dsimp only
  k_steps
  · exact hQ _ _ _ F.keep (szF F)
  · rename_i hk
    have e : ns.getD k 0 = 0 := by
      rw [List.getD_eq_getElem?_getD, List.getElem?_eq_none (by omega)]; rfl
    have h9 := hQ (s.toks + (1 + 1) + 1 + 1) _ (s.toks + (1 + 1) + 1 + 1 + 1) F.keep (szF F)
    rw [e] at h9
    exact h9
theorem s_sizes {w : World} {A : Around} {s : Shared} {mg mb : Str → Option Value} {mean : ExcName → Option Value} {n : Int} {t : Tok} {Q : Value → Shared → Prop}
    (X : (KK w.params).In s.heap) (T : Top topProg l0 mean mg mb s.heap) (hd : A.depth + 0 < recursionLimit) (hQ : ∀ D h' tk, s.heap.StaysIn h' → s.heap.objs.size ≤ h'.objs.size → (∃ t₁ t₂, IsTup h' D #[.int (sizesOf n).1 t₁, .int (sizesOf n).2 t₂]) → Q (.ref D) { s with heap := h', toks := tk }) :
    wpAny (model pw w) A (call (.ref 339) [.int n t]) Q (fun _ _ => False) s := by
  have hfill : KK w.params = KK w.params ∧ PySem.Challenge.rw_aj5027_01 = PySem.Challenge.rw_aj5027_01 := by
    k_fill
    exact ⟨rfl, rfl⟩
  clear hfill
  refine wpAny_call ?_
  refine' enterK (binds := [("number", .int n t)]) X T.nolimit ?ho ?hcd ?room ?hb ?hloc ?_ ?c2 ?c3 ?c4 ?c5
  case ho => k_is
  case hcd => k_is
  case room => omega
  case hb => exact BindsTo.of_eq rfl
  case hloc => exact locs rfl
  case c2 => rfl
  case c3 => rfl
  case c4 => rfl
  case c5 => decide
  intro L h₁ F N
  have KX := X
  have KT := T
  clear X T
  dsimp only
  have b0 := fmod_lo n (n := 4) (by decide)
  have b1 := fmod_hi n (n := 4) (by decide)
  k_steps
  · rename Fr _ _ _ _ => F9; rename News _ _ _ _ => N9; rename n.fmod 4 = 0 => e
    refine hQ _ _ _ F9.keep (szF F9) ?_
    rw [show sizesOf n = (8, 16) by unfold sizesOf; rw [if_pos e]]
    exact ⟨_, _, N9.isTup (.tail _ (.tail _ (.tail _ (.tail _ (.head _)))))⟩
  · rename Fr _ _ _ _ => F9; rename News _ _ _ _ => N9; rename n.fmod 4 = 1 => e
    refine hQ _ _ _ F9.keep (szF F9) ?_
    rw [show sizesOf n = (16, 24) by unfold sizesOf; simp [e]]
    exact ⟨_, _, N9.isTup (.tail _ (.tail _ (.tail _ (.head _))))⟩
  · rename Fr _ _ _ _ => F9; rename News _ _ _ _ => N9; rename n.fmod 4 = 2 => e
    refine hQ _ _ _ F9.keep (szF F9) ?_
    rw [show sizesOf n = (20, 20) by unfold sizesOf; simp [e]]
    exact ⟨_, _, N9.isTup (.tail _ (.tail _ (.head _)))⟩
  · rename Fr _ _ _ _ => F9; rename News _ _ _ _ => N9; rename n.fmod 4 = 3 => e
    refine hQ _ _ _ F9.keep (szF F9) ?_
    rw [show sizesOf n = (5, 32) by unfold sizesOf; simp [e]]
    exact ⟨_, _, N9.isTup (.tail _ (.head _))⟩
/-- what _law_sum answers -/
def lawSum (b : Array UInt8) (size : Nat) : Array UInt8 :=
  (KTBy.low (Int.fmod (((natOf (1 :: b.toList) : Nat) : Int) * 210306068529402873165736369884012333109 + (b.size : Int)) ((256 : Int) ^ size - 59)) size).reverse.toArray
theorem lawSum_size (b : Array UInt8) (size : Nat) : (lawSum b size).size = size := by simp [lawSum, KTBy.low_length]
theorem mod_ok {n : Int} {size : Nat} (hs : 1 ≤ size) : 0 ≤ Int.fmod n ((256 : Int) ^ size - 59) ∧ Int.fmod n ((256 : Int) ^ size - 59) < 256 ^ size := by
  have h : (256 : Int) ≤ 256 ^ size := by
    obtain ⟨k, rfl⟩ : ∃ k, size = k + 1 := ⟨size - 1, by omega⟩
    rw [Int.pow_succ]
    have : (0 : Int) < 256 ^ k := Int.pow_pos (by decide)
    omega
  have := fmod_lo n (n := (256 : Int) ^ size - 59) (by omega)
  have := fmod_hi n (n := (256 : Int) ^ size - 59) (by omega)
  omega
theorem pow256 {prog : Program} {w : World} {A : Around} {E : Value → Shared → Prop} {s : Shared} {k : Nat} {t u : Tok} {Q : Value → Shared → Prop} (hk : k ≤ 64) (h : Q (.int (256 ^ k) s.toks) { s with toks := s.toks + 1 }) : wpAny (model prog w) A (binaryOp .Pow (.int 256 t) (.int (k : Int) u)) Q E s := by
  refine pow_int (by omega) (by rw [show Builtin.Int.intBits 256 = 9 by decide]; omega) ?_
  rw [Int.toNat_natCast]; exact h
theorem sum_mulok {b : Array UInt8} (hl : b.size ≤ 1000) : IntMulOk (natOf b.toList : Nat) 210306068529402873165736369884012333109 := by
  refine IntMulOk.of_bits ?_ (by decide +kernel)
  refine Nat.le_trans ((intBits_le_iff (m := 8 * b.size)).mpr ?_) (by omega)
  have h1 := KFB.fold_lt b.toList 0
  rw [Nat.zero_add, Nat.one_mul, Array.length_toList] at h1
  have e2 : (2 : Nat) ^ 8 = 256 := by decide
  rw [Int.natAbs_natCast, Nat.pow_mul, e2]
  exact h1
theorem sum_ne {size : Nat} (hs : 1 ≤ size) : (256 : Int) ^ size - 59 ≠ 0 := by
  obtain ⟨k, rfl⟩ : ∃ k, size = k + 1 := ⟨size - 1, by omega⟩
  rw [Int.pow_succ]
  have : (0 : Int) < 256 ^ k := Int.pow_pos (by decide)
  omega
local macro_rules | `(tactic| walk_at "binaryOp Add bytes bytes") => `(tactic| (refine' KBy.add_bytes ?sz ?_; (case sz => (simp only [List.size_toArray, List.length_cons, List.length_nil]; omega)); intro _ _))
local macro_rules | `(tactic| walk_at "call ref") => `(tactic| (refine' fromBig ?st ?sz ?_; (case st => first | assumption | exact KFB.at_of (by k_asm) (by k_mem)); (case sz => (simp only [Array.size_append, List.size_toArray, List.length_cons, List.length_nil]; omega)); intro _ _))
local macro_rules | `(tactic| walk_at "binaryOp Mult int int") => `(tactic| (refine PyProof.Rows.mul_int ?_ ?mo; rotate_left; (case mo => exact sum_mulok (by simp only [Array.size_append, List.size_toArray, List.length_cons, List.length_nil]; omega))))
local macro_rules | `(tactic| walk_at "binaryOp Mod int int") => `(tactic| (refine mod_int' ?mo ?_; (case mo => exact sum_ne (by omega))))
local macro_rules | `(tactic| walk_at "binaryOp Pow int int") => `(tactic| (refine' pow256 (by omega) ?_))
local macro_rules | `(tactic| walk_at "call builtin:int.to_bytes") => `(tactic| (refine' toBig (by omega) (mod_ok (by omega)).1 (mod_ok (by omega)).2 ?_; intro _ _))
theorem s_sum {w : World} {A : Around} {s : Shared} {mg mb : Str → Option Value} {mean : ExcName → Option Value} {b : Array UInt8} {size : Nat} {t t₁ : Tok} {Q : Value → Shared → Prop}
    (X : (KK w.params).In s.heap) (T : Top topProg l0 mean mg mb s.heap) (hd : A.depth + 0 < recursionLimit) (hb : b.size ≤ 300) (hs1 : 1 ≤ size) (hs : size ≤ 20) (hQ : ∀ t' h' tk, s.heap.StaysIn h' → s.heap.objs.size ≤ h'.objs.size → Q (.bytes (lawSum b size) t') { s with heap := h', toks := tk }) :
    wpAny (model pw w) A (call (.ref 325) [.bytes b t, .int size t₁]) Q (fun _ _ => False) s := by
  have hfill : KK w.params = KK w.params ∧ PySem.Challenge.rw_aj5027_01 = PySem.Challenge.rw_aj5027_01 := by
    k_fill
    exact ⟨rfl, rfl⟩
  clear hfill
  refine wpAny_call ?_
  refine' enterK (binds := [("octets", .bytes b t), ("size", .int size t₁)]) X T.nolimit ?ho ?hcd ?room ?hb ?hloc ?_ ?c2 ?c3 ?c4 ?c5
  case ho => k_is
  case hcd => k_is
  case room => omega
  case hb => exact BindsTo.of_eq rfl
  case hloc => exact locs rfl
  case c2 => rfl
  case c3 => rfl
  case c4 => rfl
  case c5 => decide
  intro L h₁ F N
  have KX := X
  have KT := T
  clear X T
  dsimp only
  k_steps
  rename Fr _ _ _ _ => F9
  have e : (#[1] ++ b : Array UInt8).toList = 1 :: b.toList := by simp
  rw [e]
  exact hQ _ _ _ F9.keep (szF F9)

local macro_rules | `(tactic| walk_at "eval Name") => `(tactic| (k_dflt (refine' nameB ?F ?c ?i ?_ ?a ?b; (case b => rfl); (case a => rfl); (case F => k_asm); (case c => rfl); (case i => assumption))))
local macro_rules | `(tactic| walk_at "binaryOp Add bytes bytes") => `(tactic| (refine' KBy.add_bytes ?sz ?_; (case sz => omega); intro _ _))
local macro_rules | `(tactic| walk_at "setItem ref int") => `(tactic| (refine' set0 ?F ?N ?_; (case F => k_asm); (case N => assumption); intro _ _ _ _ _))
theorem c_update {w : World} {A : Around} {s : Shared} {mg mb : Str → Option Value} {mean : ExcName → Option Value} {u l : Addr} {b m : Array UInt8} {t : Tok} {Q : Value → Shared → Prop}
    (X : (KK w.params).In s.heap) (T : Top topProg l0 mean mg mb s.heap) (hd : A.depth + 0 < recursionLimit) (U : UpdO s.heap u l) (hl : LstO s.heap l b) (hb : b.size ≤ 1000) (hm : m.size ≤ 1000)
    (hQ : ∀ h' tk, But [l] s.heap h' → LstO h' l (b ++ m) → s.heap.objs.size ≤ h'.objs.size → Q .none { s with heap := h', toks := tk }) :
    wpAny (model pw w) A (call (.ref u) [.bytes m t]) Q (fun _ _ => False) s := by
  have hfill : KK w.params = KK w.params ∧ PySem.Challenge.rw_aj5027_01 = PySem.Challenge.rw_aj5027_01 := by
    k_fill
    exact ⟨rfl, rfl⟩
  clear hfill
  obtain ⟨kc, cd, hf, hk⟩ := U
  have hs := hl.soft
  refine wpAny_call ?_
  refine' enterF (binds := [("more", .bytes m t)]) X T [l] hs hf ?room ?hb ?hloc ?_ ?c2 ?c3 ?c4 ?c5
  case room => omega
  case hb => exact fun _ _ _ => BindsTo.of_eq rfl
  case hloc => exact locs rfl
  case c2 => rfl
  case c3 => rfl
  case c4 => rfl
  case c5 => decide
  intro base L h₁ big M0 B0 S0 KX KT F N G hL
  have hkB := cell_but hk M0 hs.loose
  obtain ⟨l1, l2, tl, ⟨oc, od, odt, osl⟩, hlg, hc, n, hdt⟩ := hl
  cases hc; cases hdt
  have N := newsWith N G hlg (S0 l (List.mem_singleton.mpr rfl)) (fun q => Nat.lt_irrefl _ (Nat.lt_of_lt_of_le (q ▸ Heap.lt_size hlg) hL))
  clear X T
  dsimp only
  k_steps
  rename Fr _ _ _ _ => F9
  rename Heap.IsList _ _ _ => I9
  exact hQ _ _ (outF M0 F9) ⟨l1, l2, _, I9⟩ (szL hL F9)

local macro_rules | `(tactic| walk_at "call ref") => `(tactic| (
  (with_reducible rename Fr _ _ _ _ => kF); (with_reducible rename News _ _ _ _ => kN); (with_reducible rename Frag.In _ _ => kX); (with_reducible rename Top _ _ _ _ _ _ => kT); k_dflt (
  refine' s_sum (Frag.In.keeps kX (Fr.keep kF)) (Top.keeps kT (Fr.keep kF)) ?rm ?sb ?s1 ?s2 ?_;
  (case rm => (show _ + 1 + 0 < recursionLimit; omega)); (case sb => omega); (case s1 => omega); (case s2 => omega);
  intro t9 h9 tk9 st9 sz9; have F9 := Fr.keeps kF st9; have N9 := News.keepsAll kN st9; clear kF kN)))
theorem c_digest {w : World} {A : Around} {s : Shared} {mg mb : Str → Option Value} {mean : ExcName → Option Value} {d l : Addr} {b : Array UInt8} {size : Nat} {Q : Value → Shared → Prop}
    (X : (KK w.params).In s.heap) (T : Top topProg l0 mean mg mb s.heap) (hd : A.depth + 1 < recursionLimit) (U : DigO s.heap d l size) (hl : LstO s.heap l b) (hb : b.size ≤ 300) (hs1 : 1 ≤ size) (hs2 : size ≤ 20)
    (hQ : ∀ t' h' tk, But [] s.heap h' → s.heap.objs.size ≤ h'.objs.size → Q (.bytes (lawSum b size) t') { s with heap := h', toks := tk }) :
    wpAny (model pw w) A (call (.ref d) []) Q (fun _ _ => False) s := by
  have hfill : KK w.params = KK w.params ∧ PySem.Challenge.rw_aj5027_01 = PySem.Challenge.rw_aj5027_01 := by
    k_fill
    exact ⟨rfl, rfl⟩
  clear hfill
  obtain ⟨kc, sc, ts, cd, hf, hk, hsc⟩ := U
  refine wpAny_call ?_
  refine' enterF (binds := []) X T [] Soft.nil hf ?room ?hb ?hloc ?_ ?c2 ?c3 ?c4 ?c5
  case room => omega
  case hb => exact fun _ _ _ => BindsTo.of_eq rfl
  case hloc => exact locs rfl
  case c2 => rfl
  case c3 => rfl
  case c4 => rfl
  case c5 => decide
  intro base L h₁ big M0 B0 S0 KX KT F N G hL
  have hkB := cell_but hk M0 Soft.nil.loose
  have hsB := cell_but hsc M0 Soft.nil.loose
  obtain ⟨l1, l2, tl, hI⟩ := hl
  have hIB : base.IsList l #[.bytes b tl] := let ⟨o, e, r⟩ := hI; ⟨o, M0 _ _ e (fun h => nomatch h), r⟩
  clear X T
  dsimp only
  k_steps
  rename Fr _ _ _ _ => F9
  exact hQ _ _ _ (outF M0 F9) (szL hL F9)

end
end Mine
namespace Mine
noncomputable section
open PySem PySem.W PySem.Calls PyProof.Rows
set_option maxRecDepth 100000
set_option maxHeartbeats 4000000
set_option linter.unusedVariables false

section
variable {w : World} {A : Around} {E : Value → Shared → Prop} {s₁ : Shared} {h₀ : Heap} {L : Addr} {m : Str → Option Value} {news : List (Addr × Obj)}
/-- the ints of octets -/
def intsB (b : Array UInt8) : List Int := b.toList.map fun c => (c.toNat : Int)
theorem paired_bytes {b : Array UInt8} {vs : List Value} {ys : List Value} {d : Int → Value → Prop} (hlen : vs.length = b.size) (hP : ∀ (j : Nat) (v : Value), vs[j]? = some v → ∃ c u, b[j]? = some c ∧ v = .int (c.toNat : Int) u)
    (hF : Paired (fun v r => ∀ i t, v = .int i t → d i r) vs ys) : ys.length = b.size ∧ ∀ (j : Nat) (c : UInt8) (r : Value), b[j]? = some c → ys[j]? = some r → d (c.toNat : Int) r := by
  have key : ∀ {l₁ l₂ : List Value} {F : Value → Value → Prop}, Paired F l₁ l₂ → l₂.length = l₁.length ∧ ∀ (j : Nat) v r, l₁[j]? = some v → l₂[j]? = some r → F v r := by
    intro l₁ l₂ F p
    induction p with
    | nil => exact ⟨rfl, fun j v r e => by simp at e⟩
    | cons h _ ih =>
      refine ⟨by simp [ih.1], fun j v r e e2 => ?_⟩
      cases j with
      | zero => simp at e e2; subst e; subst e2; exact h
      | succ j => simp at e e2; exact ih.2 j v r e e2
  obtain ⟨k1, k2⟩ := key hF
  refine ⟨k1.trans hlen, fun j c r e e2 => ?_⟩
  have hj : j < vs.length := by
    rw [hlen]; exact (Array.getElem?_eq_some_iff.mp e).1
  obtain ⟨c', u, e3, e4⟩ := hP j vs[j] (List.getElem?_eq_getElem hj)
  rw [e] at e3; cases e3
  exact k2 j vs[j] r (List.getElem?_eq_getElem hj) e2 _ _ e4
theorem compBytes {env : Env} {elt : Expr} {x : Str} {scope : Scope} {Q : Value → Shared → Prop} {b : Array UInt8} {t : Tok} {d : Int → Value → Prop}
    (hh : A.handled = none) (F : Fr h₀ L s₁.heap m) (N : News h₀ L s₁.heap news) (hb : b.size ≤ 1000)
    (g2 : ∀ C c u s₂ m₂ E', 0 ≤ c → c < 256 → s₂.heap.Ns (compEnv scope C env).locals m₂ → m₂ x = some (.int c u) → wpAny (model pw w) A (eval elt (compEnv scope C env)) (fun r s₃ => d c r ∧ Keeps s₂ s₃) E' s₂)
    (g3 : ∀ D (ys : List Value) h' tk, Fr h₀ L h' m → News h₀ L h' news → s₁.heap.StaysIn h' → h₀.get? D = none → h'.IsList D ys.toArray → NewPlain h' news D ys.toArray → ys.length = b.size → (∀ (j : Nat) (c : UInt8) (r : Value), b[j]? = some c → ys[j]? = some r → d (c.toNat : Int) r) → Q (.ref D) { s₁ with heap := h', toks := tk }) :
    wpAny (model pw w) A (pyIter (.bytes b t)) (CompPost pw w A env scope x [] elt Q) E s₁ := by
  refine KBw.pyIter_bytes ?_
  have up : ∀ (h' : Heap), (∀ b' o', b' ∉ [s₁.heap.objs.size] → (s₁.heap.push { cls := .type "bytes_iterator", data := .fields #[.bytes b t, .int 0 0] }).get? b' = some o' → h'.get? b' = some o') → ∀ b' o', s₁.heap.get? b' = some o' → h'.get? b' = some o' :=
    fun h' hk b' o' e => hk b' o' (not_iter_of_old e) (Heap.get?_push_of_some _ e)
  refine ⟨fun _ => true, fun v r => ∀ i t, v = .int i t → d i r, s₁.heap.objs.size, [s₁.heap.objs.size], [s₁.heap.objs.size], b.size, _, _, rfl, KBw.walks hh _ b t, by rw [sizeLine_eq]; omega,
    ⟨_, Heap.get?_push_size _ rfl, rfl, rfl⟩, ?_, ⟨?_, ?_⟩, ?_⟩
  · intro b' hb'
    show b' < (s₁.heap.push _).objs.size
    rw [Heap.size_push, List.mem_singleton.mp hb']
    exact Nat.lt_succ_self _
  · intro C i v s₃ m₃ E' hP hn hm _ htk
    exact wpAny_pure ⟨rfl, s₃.heap, s₃.toks, rfl, fun _ _ e => e⟩
  · intro C i v s₃ m₃ E' hP hp hn hm _ htk
    obtain ⟨c, u, hc, rfl⟩ := hP
    refine wpAny_mono (g2 C _ _ s₃ m₃ E' (by omega) (by have := c.toNat_lt; omega) hn hm) (fun r s₄ h₄ => ⟨fun i t e => ?_, h₄.2⟩) fun _ _ e => e
    cases e; exact h₄.1
  · intro D h' tk ys vs' hnew hlD hplD hlen hP hF hk
    rw [List.filter_eq_self.mpr (fun _ _ => rfl)] at hF
    obtain ⟨e1, e2⟩ := paired_bytes hlen hP hF
    refine g3 D ys.toList h' tk (F.keeps (up h' hk)) (N.grown (up h' hk)) (up h' hk) ?_ (by rw [Array.toArray_toList]; exact hlD) ⟨by rw [Array.toArray_toList]; exact hplD, fun p hp e => by rw [← e, Heap.get?_push_of_some _ (N p hp).1] at hnew; cases hnew⟩ e1 e2
    cases e : h₀.get? D with
    | none => rfl
    | some o' => rw [Heap.get?_push_of_some _ (F.keep _ _ e)] at hnew; cases hnew
theorem intsAre_of : ∀ {ys : List Value} {ns : List Int}, ys.length = ns.length → (∀ (j : Nat) (i : Int) (r : Value), ns[j]? = some i → ys[j]? = some r → ∃ t, r = .int i t) → IntsAre ys ns
  | [], [], _, _ => .nil
  | y :: ys, n :: ns, hl, h => by
    obtain ⟨t, rfl⟩ := h 0 n y rfl rfl
    exact .cons n t (intsAre_of (by simpa using hl) fun j i r e e2 => h (j + 1) i r (by simpa using e) (by simpa using e2))
theorem compId {env : Env} {x : Str} {px : Pos} {scope : Scope} {Q : Value → Shared → Prop} {b : Array UInt8} {t : Tok}
    (hh : A.handled = none) (F : Fr h₀ L s₁.heap m) (N : News h₀ L s₁.heap news) (hb : b.size ≤ 1000) (hk : scope.kind = .function) (hx : scope.names.lookup x = some .local) (hx2 : (x == ("__debug__" : Str)) = false)
    (g3 : ∀ D (ys : List Value) h' tk, Fr h₀ L h' m → News h₀ L h' news → s₁.heap.StaysIn h' → h₀.get? D = none → h'.IsList D ys.toArray → NewPlain h' news D ys.toArray → IntsAre ys (intsB b) → Q (.ref D) { s₁ with heap := h', toks := tk }) :
    wpAny (model pw w) A (pyIter (.bytes b t)) (CompPost pw w A env scope x [] (.Name x px) Q) E s₁ := by
  refine compBytes (d := fun c r => ∃ t, r = .int c t) hh F N hb (fun C c u s₂ m₂ E' _ _ hn hm => ?_) fun D ys h' tk F' N' st hD hl hpl hlen hd => g3 D ys h' tk F' N' st hD hl hpl (intsAre_of (by simp [intsB, hlen]) fun j i r e e2 => ?_)
  · exact wpAny_Name (wpAny_loadName_local (env := compEnv scope C env) hk hx hn hm ⟨⟨u, rfl⟩, s₂.heap, s₂.toks, rfl, fun _ _ e => e⟩) hx2
  · simp only [intsB, List.getElem?_map, Array.getElem?_toList] at e
    obtain ⟨c, e3, rfl⟩ := Option.map_eq_some_iff.mp e
    exact hd j c r e3 e2
theorem compXor {env : Env} {x : Str} {px pc pb : Pos} {kc : Nat} {c : Int} {scope : Scope} {Q : Value → Shared → Prop} {l : Addr} {vs : List Value} {ns : List Int}
    (hh : A.handled = none) (F : Fr h₀ L s₁.heap m) (N : News h₀ L s₁.heap news) (hl : s₁.heap.IsList l vs.toArray) (hi : IntsAre vs ns) (hz : ns.length ≤ 1000) (hk : scope.kind = .function) (hx : scope.names.lookup x = some .local) (hx2 : (x == ("__debug__" : Str)) = false)
    (g3 : ∀ D (ys : List Value) n h' tk, Fr h₀ L h' m → News h₀ L h' ((D, W.listOf ys.toArray n) :: news) → IntsAre ys (ns.map fun i => Builtin.bitXor i c) → Q (.ref D) { s₁ with heap := h', toks := tk }) :
    wpAny (model pw w) A (pyIter (.ref l)) (CompPost pw w A env scope x [] (.BinOp (.Name x px) .BitXor (.Constant (.int c) kc pc) pb) Q) E s₁ := by
  refine srcC_listD (K := .int) (as := ns) (pz := fun _ => true) (d := fun i => .int (Builtin.bitXor i c)) hh hl hi.areOf F N (fun C a v s₂ m₂ E' _ hn hm _ => wpAny_pure ⟨rfl, s₂.heap, s₂.toks, rfl, fun _ _ e => e⟩) (fun C a v s₂ m₂ E' ha _ hn hm _ => ?_) (fun D ys h' tk F' N' hD hl' hpl hc => ?_) (by rw [sizeLine_eq]; omega)
  · obtain ⟨t, rfl⟩ := ItemKind.int_is ha
    refine wpAny_BinOp (wpAny_Name (wpAny_loadName_local (env := compEnv scope C env) hk hx hn hm (wpAny_Constant_int (xor_int ⟨.int _ _, _, _, rfl, fun _ _ e => e⟩))) hx2)
  · rw [List.filter_eq_self.mpr (fun _ _ => rfl)] at hc
    have hne := NewPlain.ne_locals hpl F'
    obtain ⟨⟨n, e⟩, hap⟩ := hpl
    refine g3 D ys n h' tk F' (fun p hp => ?_) hc.intsOf
    rcases List.mem_cons.mp hp with rfl | hp
    · exact ⟨e, hne, hD⟩
    · exact N' p hp
/-- the ints of the octets, filled up with noughts -/
def padI (k : Array UInt8) (block : Nat) : List Int := intsB k ++ List.replicate (block - k.size) 0
theorem xor_in' : ∀ n : Fin 256, (0 ≤ Builtin.bitXor (n.val : Int) 54 ∧ Builtin.bitXor (n.val : Int) 54 < 256) ∧ (0 ≤ Builtin.bitXor (n.val : Int) 92 ∧ Builtin.bitXor (n.val : Int) 92 < 256) := by decide +kernel
theorem xor_in {c : Nat} (hc : c = 54 ∨ c = 92) {i : Int} (h0 : 0 ≤ i) (h1 : i < 256) : 0 ≤ Builtin.bitXor i (c : Int) ∧ Builtin.bitXor i (c : Int) < 256 := by
  obtain ⟨n, rfl⟩ := Int.eq_ofNat_of_zero_le h0
  have := xor_in' ⟨n, by omega⟩
  rcases hc with rfl | rfl
  · exact this.1
  · exact this.2
/-- the filled up octets, each xor c -/
def padX (k : Array UInt8) (block c : Nat) : Array UInt8 := byteArr ((padI k block).map fun i => Builtin.bitXor i (c : Int))
theorem padI_in {k : Array UInt8} {block : Nat} : ∀ i ∈ padI k block, 0 ≤ i ∧ i < 256 := fun i hi => by
  rcases List.mem_append.mp hi with h | h
  · obtain ⟨c, _, rfl⟩ := List.mem_map.mp h
    have := c.toNat_lt
    omega
  · obtain rfl := List.eq_of_mem_replicate h; decide
theorem padI_length {k : Array UInt8} {block : Nat} : (padI k block).length = max block k.size := by
  simp [padI, intsB]; omega
theorem padX_size {k : Array UInt8} {block c : Nat} : (padX k block c).size = max block k.size := by
  simp [padX, byteArr, padI_length]
theorem bytesPad {D : Addr} {ys : List Value} {k : Array UInt8} {block c n : Nat} {Q : Value → Shared → Prop} (F : Fr h₀ L s₁.heap m) (N : News h₀ L s₁.heap news) (hm : (D, W.listOf ys.toArray n) ∈ news) (hh : A.handled = none)
    (hi : IntsAre ys ((padI k block).map fun i => Builtin.bitXor i (c : Int))) (hc : c = 54 ∨ c = 92) (hk : k.size ≤ 1000) (hb : block ≤ 1000) (h : ∀ h' t' tk, Fr h₀ L h' m → News h₀ L h' news → Q (.bytes (padX k block c) t') { s₁ with heap := h', toks := tk }) :
    wpAny (model pw w) A (call (.type "bytes") [.ref D]) Q E s₁ := by
  refine KBa.make_K F N hh (News.isList N hm) hi (fun i hi => ?_) (by rw [List.length_map, padI_length]; omega) fun h' t' tk F' N' _ => h h' t' tk F' N'
  obtain ⟨j, hj, rfl⟩ := List.mem_map.mp hi
  exact xor_in hc (padI_in j hj).1 (padI_in j hj).2
theorem addPad {l b : Addr} {vs : List Value} {kk : Array UInt8} {block : Nat} {tk : Tok} {Q : Value → Shared → Prop} (F : Fr h₀ L s₁.heap m) (N : News h₀ L s₁.heap news) (hl : s₁.heap.IsList l vs.toArray)
    (hb : s₁.heap.IsList b (List.replicate ((block : Int) - (kk.size : Int)).toNat [Value.int 0 tk]).flatten.toArray) (hi : IntsAre vs (intsB kk)) (hsz : kk.size ≤ 100) (hblk : block ≤ 100)
    (h : ∀ h' D vs', Fr h₀ L h' m → News h₀ L h' ((D, W.listOf vs'.toArray 0) :: news) → (∀ p ∈ news, p.1 < D) → IntsAre vs' (padI kk block) → Q (.ref D) { s₁ with heap := h' }) :
    wpAny (model pw w) A (binaryOp .Add (.ref l) (.ref b)) Q E s₁ := by
  have e1 : ((block : Int) - (kk.size : Int)).toNat = block - kk.size := by omega
  have e2 : ∀ (n : Nat) (α : Type) (x : α), (List.replicate n [x]).flatten = List.replicate n x := fun n α x => by simp
  rw [e1, e2] at hb
  have hj : ∀ n, IntsAre (List.replicate n (Value.int 0 tk)) (List.replicate n 0) := fun n => by
    induction n with
    | zero => exact .nil
    | succ n ih => exact .cons 0 tk ih
  refine add_lists_ints F N hl hb hi (hj _) (fun h' F' N' I => h h' _ _ F' N' (fun p hp => Heap.lt_size (N p hp).1) I) ?_
  rw [sizeLine_eq]
  simp only [intsB, List.length_map, Array.length_toList, List.length_replicate]
  omega
end

end
end Mine
namespace Mine
noncomputable section
open PySem PySem.W PySem.Calls PyProof.Rows
set_option maxRecDepth 100000
set_option maxHeartbeats 4000000
set_option linter.unusedVariables false
local macro_rules | `(tactic| walk_at "no such stop") => `(tactic| skip)
local macro_rules | `(tactic| walk_at "no such stop") => `(tactic| skip)
local macro_rules | `(tactic| walk_at "no such stop") => `(tactic| skip)
local macro_rules | `(tactic| walk_at "no such stop") => `(tactic| skip)
local macro_rules | `(tactic| walk_at "no such stop") => `(tactic| skip)
local macro_rules | `(tactic| walk_at "no such stop") => `(tactic| skip)
local macro_rules | `(tactic| walk_at "no such stop") => `(tactic| skip)
local macro_rules | `(tactic| walk_at "no such stop") => `(tactic| skip)
local macro_rules | `(tactic| walk_at "no such stop") => `(tactic| skip)
local macro_rules | `(tactic| walk_at "no such stop") => `(tactic| skip)
local macro_rules | `(tactic| walk_at "no such stop") => `(tactic| skip)

local macro_rules | `(tactic| walk_at "pyIter ref") => `(tactic| (
  (with_reducible rename Fr _ _ _ _ => kF); (with_reducible rename News _ _ _ _ => kN); k_dflt (
  refine' compXor (by assumption) kF kN ?l ?i ?z ?a ?b ?c ?_; (case l => exact News.isList kN (by k_mem)); (case i => assumption); (case z => (rw [padI_length]; omega)); (case a => rfl); (case b => rfl); (case c => decide); intro D9 ys9 n9 h9 tk9 F9 N9 I9; clear kF kN)))
local macro_rules | `(tactic| walk_at "call type:bytes") => `(tactic| (
  (with_reducible rename Fr _ _ _ _ => kF); (with_reducible rename News _ _ _ _ => kN); k_dflt (
  refine' bytesPad kF kN ?m ?h ?i ?c ?k ?b ?_; (case m => k_mem); (case h => assumption); (case i => assumption); (case c => decide); (case k => omega); (case b => omega); intro h9 t9 tk9 F9 N9; clear kF kN)))

local macro_rules | `(tactic| walk_at "binaryOp Add ref ref") => `(tactic| (
  (with_reducible rename Fr _ _ _ _ => kF); (with_reducible rename News _ _ _ _ => kN); k_dflt (
  refine' addPad kF kN ?l ?b ?i ?s ?t ?_; (case l => exact News.isList kN (by k_mem)); (case b => exact News.isList kN (by k_mem)); (case i => assumption); (case s => omega); (case t => omega); intro h9 D9 vs9 F9 N9 lt9 I9; clear kF kN)))

local macro_rules | `(tactic| walk_at "pyIter bytes") => `(tactic| (
  (with_reducible rename Fr _ _ _ _ => kF); (with_reducible rename News _ _ _ _ => kN); k_dflt (
  refine' compId (by assumption) kF kN ?sz ?a ?b ?c ?_; (case sz => (try simp only [lawSum_size]); omega); (case a => rfl); (case b => rfl); (case c => decide); intro D9 ys9 h9 tk9 F9 N9 st9 nD9 L9 P9 I9; clear kF kN)))

local macro_rules | `(tactic| walk_at "binaryOp Add bytes bytes") => `(tactic| (k_dflt (refine' KBy.add_bytes ?sz ?_; (case sz => ((try simp only [List.size_toArray, Array.size_append, lawSum_size, padX_size]); omega)); intro _ _)))
local macro_rules | `(tactic| walk_at "call ref") => `(tactic| (
  (with_reducible rename Fr _ _ _ _ => kF); (with_reducible rename News _ _ _ _ => kN); (with_reducible rename Frag.In _ _ => kX); (with_reducible rename Top _ _ _ _ _ _ => kT); k_dflt (
  refine' s_sum (Frag.In.keeps kX (Fr.keep kF)) (Top.keeps kT (Fr.keep kF)) ?rm ?sb ?s1 ?s2 ?_;
  (case rm => (show _ + 1 + 0 < recursionLimit; omega)); (case sb => ((try simp only [List.size_toArray, Array.size_append, lawSum_size, padX_size]); omega)); (case s1 => omega); (case s2 => omega);
  intro t9 h9 tk9 st9 sz9; have F9 := Fr.keeps kF st9; have N9 := News.keepsAll kN st9; clear kF kN)))

/-- what _law_code answers -/
def lawCode (k m : Array UInt8) (size block : Nat) : Array UInt8 :=
  lawSum (padX (if block < k.size then lawSum k size else k) block 92 ++ lawSum (padX (if block < k.size then lawSum k size else k) block 54 ++ m) size) size
theorem s_code {w : World} {A : Around} {s : Shared} {mg mb : Str → Option Value} {mean : ExcName → Option Value} {k m : Array UInt8} {size block : Nat} {t t₁ t₂ t₃ : Tok} {Q : Value → Shared → Prop}
    (X : (KK w.params).In s.heap) (T : Top topProg l0 mean mg mb s.heap) (hd : A.depth + 1 < recursionLimit) (hh : A.handled = none) (hk : k.size ≤ 80) (hm : m.size ≤ 200) (hs1 : 1 ≤ size) (hs : size ≤ 20) (hsb : size ≤ block) (hb : block ≤ 32) (hQ : ∀ t' h' tk, s.heap.StaysIn h' → s.heap.objs.size ≤ h'.objs.size → Q (.bytes (lawCode k m size block) t') { s with heap := h', toks := tk }) :
    wpAny (model pw w) A (call (.ref 344) [.bytes k t, .bytes m t₁, .int size t₂, .int block t₃]) Q (fun _ _ => False) s := by
  have hfill : KK w.params = KK w.params ∧ PySem.Challenge.rw_aj5027_01 = PySem.Challenge.rw_aj5027_01 := by
    k_fill
    exact ⟨rfl, rfl⟩
  clear hfill
  refine wpAny_call ?_
  refine' enterK (binds := [("key", .bytes k t), ("message", .bytes m t₁), ("size", .int size t₂), ("block", .int block t₃)]) X T.nolimit ?ho ?hcd ?room ?hb ?hloc ?_ ?c2 ?c3 ?c4 ?c5
  case ho => k_is
  case hcd => k_is
  case room => omega
  case hb => exact BindsTo.of_eq rfl
  case hloc => exact locs rfl
  case c2 => rfl
  case c3 => rfl
  case c4 => rfl
  case c5 => decide
  intro L h₁ F N
  have KX := X
  have KT := T
  clear X T
  dsimp only
  have z0 := lawSum_size k size
  k_steps
  · rename Fr _ _ _ _ => F9
    rename (block : Int) < _ => hc
    have e : lawCode k m size block = lawSum (padX (lawSum k size) block 92 ++ lawSum (padX (lawSum k size) block 54 ++ m) size) size := by
      unfold lawCode; rw [if_pos (by omega)]
    rw [e] at hQ
    exact hQ _ _ _ F9.keep (szF F9)
  · rename Fr _ _ _ _ => F9
    rename ¬ (block : Int) < _ => hc
    have e : lawCode k m size block = lawSum (padX k block 92 ++ lawSum (padX k block 54 ++ m) size) size := by
      unfold lawCode; rw [if_neg (by omega)]
    rw [e] at hQ
    exact hQ _ _ _ F9.keep (szF F9)

end
end Mine
namespace Mine
noncomputable section
open PySem PySem.W PySem.Calls PyProof.Rows
set_option maxRecDepth 100000
set_option maxHeartbeats 4000000
set_option linter.unusedVariables false

theorem bindLoc {M : Model} {A : Around} {E : Value → Shared → Prop} {s : Shared} {env : Env} (hk : env.scope.kind = .function) (f : Str × Value → PUnit → Sem (ForInStep PUnit)) (hf : ∀ n v u, f (n, v) u = (do storeName env n v; pure (.yield ⟨⟩))) :
    ∀ (binds : List (Str × Value)) (m : Str → Option Value) (h : Heap) (tk : Nat) (Q : PUnit → Shared → Prop), h.Ns env.locals m → (∀ x ∈ binds, env.kindOf x.1 = some .local) →
      (∀ h', h'.Ns env.locals (fun x => (binds.reverse.lookup x).or (m x)) → Heap.SameBut env.locals h h' → Q ⟨⟩ { s with heap := h', toks := tk + binds.length }) → wpAny M A (forIn binds ⟨⟩ f) Q E { s with heap := h, toks := tk }
  | [], m, h, tk, Q, hn, _, hQ => by rw [List.forIn_nil]; exact wpAny_pure (hQ h (by simpa using hn) (Heap.SameBut.refl ..))
  | (n, v) :: r, m, h, tk, Q, hn, hl, hQ => by
    rw [List.forIn_cons, hf]
    refine wpAny_bind (wpAny_bind (wpAny_storeName_local (s := { s with heap := h, toks := tk }) (hl (n, v) (List.mem_cons_self ..)) hn (fun h₁ hn₁ hs₁ => wpAny_pure ?_) (by rw [hk]; rfl)))
    refine bindLoc hk f hf r _ h₁ (tk + 1) Q hn₁ (fun x hx => hl x (List.mem_cons_of_mem _ hx)) fun h' hn' hs' => ?_
    have e : tk + 1 + r.length = tk + ((n, v) :: r).length := by rw [List.length_cons]; omega
    rw [e]
    refine hQ h' ?_ (hs₁.trans hs')
    have e2 : (fun x => (((n, v) :: r).reverse.lookup x).or (m x)) = fun x => (r.reverse.lookup x).or (if x = n then some v else m x) := by
      funext x
      rw [List.reverse_cons, List.lookup_append]
      cases r.reverse.lookup x with
      | some y => rfl
      | none =>
        by_cases hx : x = n
        · subst hx; simp
        · simp [List.lookup_cons, hx, beq_eq_false_iff_ne.mpr hx]
    rw [e2]
    exact hn'

abbrev cellNone : Obj := { cls := .type "cell", data := .cell none }
theorem enterC1 {w : World} {A : Around} {s : Shared} {R : Result → Shared → Prop} {f : Addr} {st : Stmt} {qual nm : Str} {cl : List (Str × Addr)} {dV cd : Value} {args : Args} {binds : List (Str × Value)} {mg mb : Str → Option Value} {mean : ExcName → Option Value}
    (X : (KK w.params).In s.heap) (T : Top topProg l0 mean mg mb s.heap) (S : List Addr) (hS : Soft s.heap S) (x : FnO s.heap f st qual cl dV cd) (hroom : A.depth < recursionLimit)
    (hbind : ∀ doc pm ct, BindsTo s (fnX (fName st) qual (fArgs st) (fBody st) (fScope st) cl dV .none doc pm none cd ct) args binds) (hloc : ∀ y ∈ binds, (fScope st).names.lookup y.1 = some .local)
    (hpush : ∀ h, pushCells h (fScope st).names = h.push cellNone) (hcells : ∀ n acc, cellsFrom n (fScope st).names acc = (nm, n) :: acc)
    (h : ∀ base L h₁ big, But S s.heap base → base.StaysIn s.heap → (∀ a ∈ S, base.get? a = none) → (KK w.params).In base → Top topProg l0 mean mg mb base → Fr base L h₁ (fun y => (binds.reverse.lookup y).or none) → News base L h₁ ((L + 1, cellNone) :: big) → Seg base L s.heap big → s.heap.objs.size ≤ L →
      (∀ p ∈ big, p.1 < L) →
      wpAny (model pw w) (A.deeper (envX qual (fScope st) L f cd ((nm, L + 1) :: cl))) (execs (fBody st) (envX qual (fScope st) L f cd ((nm, L + 1) :: cl))) (fun fl s' => R (.ok (.ret (match fl with | .ret v => v | _ => .none))) s') (fun _ _ => False) { s with heap := h₁, toks := s.toks + binds.length })
    (hco : (fScope st).isCoroutine = false) (hgen : (fScope st).isGenerator = false) (hk : (fScope st).kind = .function) : codeAny (model pw w) A (.call (.ref f) args) R s := by
  obtain ⟨oc, od, sl, doc, pm, ct, ho, hcd⟩ := x
  refine codeAny_call_function hroom ho rfl hco hgen rfl hcd.rec (hbind doc pm ct _ _ _ _ ?_)
  simp only [newFunctionEnv, Option.isSome_none, Bool.false_eq_true, if_false]
  refine wpAny_bind (wpAny_alloc ?_)
  refine wpAny_bind (wpAny_layCells _ (fun name kind cells => by cases hkc : kind == NameKind.cell <;> simp [hkc]) _ _ _ _ ?_)
  rw [hpush, hcells]
  simp only [Heap.size_push]
  have hns : ((s.heap.push { cls := .type "frame", data := .dict #[] }).push cellNone).Ns s.heap.objs.size (fun _ => none) := (Heap.Ns.new ..).push _
  refine wpAny_bind (bindLoc (s := s) (env := envX qual (fScope st) s.heap.objs.size f cd ((nm, s.heap.objs.size + 1) :: cl)) hk _ (fun _ _ _ => rfl) binds _ _ _ _ hns (fun x hx => hloc x hx) fun h₁ hn₁ hs₁ => wpAny_pure ?_)
  have hst : s.heap.StaysIn h₁ := fun b o e => (hs₁.2 b (Nat.ne_of_lt (Heap.lt_size e))).trans (Heap.get?_push_of_some _ (Heap.get?_push_of_some _ e))
  refine ⟨T.nolimit.keeps hst, codeAny_func ?_⟩
  have hcell : h₁.get? (s.heap.objs.size + 1) = some cellNone := (hs₁.2 _ (by show s.heap.objs.size + 1 ≠ s.heap.objs.size; omega)).trans (by
    have e : s.heap.objs.size + 1 = (s.heap.push { cls := .type "frame", data := .dict #[] }).objs.size := (Heap.size_push ..).symm
    rw [e]; exact Heap.get?_push_size _ rfl)
  have F : Fr s.heap s.heap.objs.size h₁ (fun y => (binds.reverse.lookup y).or none) := ⟨hn₁, hst, Nat.le_refl _⟩
  have M : But S s.heap (hideAll s.heap S) := fun b o e hb => hideAll_get _ e hb
  have h2 : ∀ a ∈ S, a ≠ 0 ∧ a ∉ asK := fun a ha => ⟨(hS a ha).1, (hS a ha).2.1⟩
  have F' : Fr (hideAll s.heap S) s.heap.objs.size h₁ (fun y => (binds.reverse.lookup y).or none) := ⟨hn₁, fun b o e => hst b o (of_hideAll _ e), Nat.le_of_eq (hideAll_size _ _)⟩
  have nb : ∀ b, s.heap.get? b = none → (hideAll s.heap S).get? b = none := fun b e => by
    cases q : (hideAll s.heap S).get? b with
    | none => rfl
    | some o => have := of_hideAll _ q; rw [e] at this; cases this
  refine wpAny_mono (h _ _ h₁ (rest (hideAll s.heap S) s.heap.objs.size s.heap) M (fun b o e => of_hideAll _ e) (fun a ha => hideAll_none _ ha) (K_but X M fun a ha => (h2 a ha).2) (top_but T M h2 hS.loose) F' (fun p hp => ?_) (fun b o e hb => ?_) (Nat.le_refl _) (fun p hp => Heap.lt_size (mem_rest.mp hp).1)) (fun _ _ x => x) fun _ _ x => x.elim
  · rcases List.mem_cons.mp hp with rfl | hp
    · exact ⟨hcell, by show s.heap.objs.size + 1 ≠ s.heap.objs.size; omega, nb _ (Heap.get?_none_of_le (Nat.le_succ _))⟩
    · obtain ⟨a, b, c⟩ := mem_rest.mp hp
      exact ⟨hst _ _ a, b, c⟩
  · cases q : (hideAll s.heap S).get? b with
    | none => exact .inr (mem_rest.mpr ⟨e, hb, q⟩)
    | some x => have := of_hideAll _ q; rw [e] at this; cases this; exact .inl rfl

end
end Mine
namespace Mine
noncomputable section
open PySem PySem.W PySem.Calls PyProof.Rows
set_option maxRecDepth 100000
set_option maxHeartbeats 4000000
set_option linter.unusedVariables false

def fPos : Stmt → Pos | .FunctionDef _ _ _ _ _ _ _ _ _ p => p | _ => ⟨0, 0, 0, 0⟩
theorem def_S {w : World} {A : Around} {s : Shared} {Q : Flow → Shared → Prop} {base : Heap} {L a c P : Addr} {m mg mb : Str → Option Value} {mean : ExcName → Option Value} {cn qual : Str} {cs : Scope} {ccd : Value} {cl clos : List (Str × Addr)} {spec : List (Pos × Str)} (st : Stmt) (nm : Str) (hnm : fName st = nm)
    (F : Fr base L s.heap m) (T : Top topProg l0 mean mg mb base) (C : CodeHd s.heap c P) (hcd : ccd = .ref c) (hPb : base.get? P = none) (hP : TabI s.heap P spec) (hPL : P ≠ L) (hq : (fPos st, qual) ∈ spec)
    (hsp : ∀ q ∈ spec, ((fPos st).line == q.1.line && (fPos st).col == q.1.col) = true → q.2 = qual)
    (hst : st = .FunctionDef (fName st) (fArgs st) (fBody st) [] none [] (fScope st) none (fName st) (fPos st)) (hd0 : (fArgs st).defaults = []) (hk0 : (fArgs st).kw_defaults = []) (ha : annTrees (fArgs st) none (envX cn cs L a ccd cl) = [])
    (hqn : qualnameIn (envX cn cs L a ccd cl) (fName st) (fName st) = qual) (hcl : closureFor (fScope st) (envX cn cs L a ccd cl) = pure clos)
    (h : ∀ f h' tk big cd, Fr base L h' m → News base L h' big → Seg base L h' big → But [P] s.heap h' → TabI h' P spec → FnO h' f st qual clos .none cd → s.heap.objs.size ≤ f → s.heap.objs.size ≤ h'.objs.size →
      wpAny (model pw w) A (storeName (envX cn cs L a ccd cl) nm (.ref f)) (fun _ s'' => Q .next s'') (fun _ _ => False) { s with heap := h', toks := tk }) :
    wpAny (model pw w) A (exec st (envX cn cs L a ccd cl)) Q (fun _ _ => False) s := by
  subst hnm
  have hT := T.keeps F.keep
  have hs := hP.soft
  obtain ⟨h0, h9, ps, hg, ht, hr⟩ := id hP
  rw [hst]
  refine nestDef_K hd0 hk0 ha ?_
  rw [hqn, makeFunction_eq]
  simp only [List.zip_nil_right, List.filterMap_nil, List.isEmpty_nil, if_true, pure_bind]
  refine tail_any hcl rfl hT hcd C h0 h9 hg ht (fun cv hc => hr _ hq cv hc) fun f h' tk doc pm ct cd M hf hf2 hfo cr nt => ?_
  obtain ⟨big, F', N', G'⟩ := seg F M (fun a ha => by cases List.mem_singleton.mp ha; exact hPb) (fun q => hPL (List.mem_singleton.mp q).symm)
  exact h f h' tk big cd F' N' G' M (TabI.new h0 h9 hg ht hr M cr nt hsp) ⟨_, _, _, doc, pm, ct, hfo, cr⟩ hf (Nat.le_of_lt (Nat.lt_of_le_of_lt hf hf2))

end
end Mine
namespace Mine
noncomputable section
open PySem PySem.W PySem.Calls PyProof.Rows Builtin
set_option maxRecDepth 100000
set_option maxHeartbeats 4000000
set_option linter.unusedVariables false

theorem handed_at {P : Params} {h : Heap} (X : (KK P).In h) : h.get? 308 = some (o308 P) := X _ _ (by kernel_rfl)
section
variable {M : Model} {P : Params} {h : Heap}
theorem l_mro (X : (KK P).In h) : Looks M h (mroOf (.ref 308)) [.ref 308, .type "tuple", .type "object"] := ((Looks.ld (part := none) (handed_at X)).andThen .now).andThen .now
theorem l_made (X : (KK P).In h) : Looks M h (Bind.madeBy (.ref 308)) none := by
  intro A Q E s k q
  unfold Bind.madeBy
  refine wpAny_bind (l_mro X A _ E s k ?_)
  rw [List.forIn_cons]
  refine wpAny_bind (wpAny_bind (wpAny_bind (wpAny_bind (wpAny_loadPart (k _ _ (handed_at X)) (wpAny_pure ?_)))))
  exact wpAny_pure (wpAny_pure (wpAny_pure q))
theorem l_best : Looks M h (Builtin.Slots.bestBase [.type "tuple"]) (.type "tuple") := Looks.of_pure (by first | rfl | kernel_rfl)
theorem l_madeT : Looks M h (Bind.madeBy (.type "tuple")) (some "tuple.__new__") := Looks.of_pure (by first | rfl | kernel_rfl)
theorem l_cls (X : (KK P).In h) : Looks M h (classData 308) (match (o308 P).data with | .cls c => c | _ => default) := (Looks.ld (part := none) (handed_at X)).andThen .now
theorem l_static (X : (KK P).In h) : Looks M h (Bind.staticBase (.ref 308)) (.type "tuple") := by
  intro A Q E s k q
  unfold Bind.staticBase
  refine wpAny_bind (l_mro X A _ E s k ?_)
  rw [List.forIn_cons]
  refine wpAny_bind (wpAny_bind (wpAny_bind (l_made X A _ E s k ?_)))
  refine wpAny_bind (l_cls X A _ E s k ?_)
  refine wpAny_bind (l_best A _ E s k ?_)
  refine wpAny_pure ?_
  show wpAny M A (forIn _ _ _) _ _ _
  rw [List.forIn_cons]
  refine wpAny_bind (wpAny_bind (l_madeT A _ E s k ?_))
  exact wpAny_pure (wpAny_pure (wpAny_pure q))
theorem l_sub (X : (KK P).In h) : Looks M h (isSubtype (.ref 308) (.type "tuple")) true := looks_subIn X (by kernel_rfl)
theorem l_sub2 (X : (KK P).In h) : Looks M h (isSubtype (.ref 308) (.ref 308)) true := looks_subIn X (by kernel_rfl)
theorem l_isType (X : (KK P).In h) : Looks M h (isType (.ref 308)) true := (Looks.ld (part := none) (handed_at X)).andThen (Looks.of_pure (by first | rfl | kernel_rfl | (rw [isSubtype_type]; kernel_rfl)))
theorem l_init (X : (KK P).In h) : Looks M h (typeLookup (.ref 308) "__init__") (some (.builtin "object.__init__")) := looks_findIn X (by kernel_rfl)
theorem l_call (X : (KK P).In h) : Looks M h (specialOf (.ref 308) "__call__") (some (.builtin "type.__call__")) := looks_specialIn X (by kernel_rfl)
end

end
end Mine
namespace Mine
noncomputable section
open PySem PySem.W PySem.Calls PyProof.Rows Builtin
set_option maxRecDepth 100000
set_option maxHeartbeats 4000000
set_option linter.unusedVariables false

abbrev handedObj (dx : Addr) (items : Array Value) : Obj := { cls := .ref 308, dict := some dx, data := .seq items }
theorem tn_kind : builtinKind "tuple.__new__" = some .builtinFn := by decide +kernel
theorem tn_split : splitId "tuple.__new__" = some ("tuple", "__new__") := by decide +kernel
theorem tupNew {w : World} {A : Around} {R : Result → Shared → Prop} {h : Heap} {g : Array GenState} {d : Drawn} {t : Nat} {os : OsState} {tp : Addr} {items : Array Value} (X : (KK w.params).In h) (ht : IsTup h tp items) (hz : items.size ≤ 1000)
    (hq : ∀ h₁ : Heap, h.StaysIn h₁ → R (.ok (.ret (.ref (h₁.objs.size + 1)))) ⟨(h₁.push emptyDict).push (handedObj h₁.objs.size items), g, d, t, os⟩) :
    codeAny (model pw w) A (.call (.builtin "tuple.__new__") ⟨[.ref 308, .ref tp], []⟩) R ⟨h, g, d, t, os⟩ := by
  have q1 := l_mro (M := model pw w) X
  have q2 := l_made (M := model pw w) X
  have q3 := l_static (M := model pw w) X
  have q4 := l_sub (M := model pw w) X
  have q5 := l_isType (M := model pw w) X
  have q6 := l_init (M := model pw w) X
  have q7 : Looks (model pw w) h (Bind.madeBy (.type "tuple")) (some "tuple.__new__") := l_madeT
  have q8 : Looks (model pw w) h (Bind.madeHere "tuple.__new__" (.ref 308)) () := q3.andThen (q7.andThen (Looks.of_pure (by first | rfl | kernel_rfl)))
  refine codeAny_call_builtin_code (Code.quiet_builtin _ (by decide +kernel)) ?_
  simp only [checkBuiltinCall, tn_kind, tn_split]
  repeat lk
  obtain ⟨o, hto, htc, n, htd⟩ := ht
  refine codeAny_builtin F.entry_tuple_new ?_
  unfold Builtin.«tuple.__new__»
  repeat (first | with_reducible refine wpAny_collect_seq (hsz := by rw [sizeLine_eq]; omega) tp (.inr rfl) hto htc htd ?_ | lk)
  intro h₁ hk
  have eI : items.toList.toArray = items := by simp
  rw [eI]
  refine wpAny_bind (wpAny_pure (wpAny_bind (wpAny_alloc (wpAny_bind ?_))))
  have h9 : (((h₁.push emptyDict).push (handedObj h₁.objs.size items)).get? 308) = some (o308 w.params) := Heap.get?_push_of_some _ (Heap.get?_push_of_some _ (hk _ _ (handed_at X)))
  unfold newObj
  dsimp only
  refine wpAny_ite_false (decide_eq_false (show ¬ (items.size > sizeLine) by rw [sizeLine_eq]; omega)) ?_
  unfold newObjAsIs classHasDel
  refine wpAny_bind (wpAny_alloc ?_)
  refine wpAny_bind (wpAny_bind (wpAny_load h9 (wpAny_pure ?_)))
  refine wpAny_pure (wpAny_pure ?_)
  have := hq h₁ hk
  rw [show h₁.objs.size + 1 = (h₁.push emptyDict).objs.size from (Heap.size_push ..).symm] at this
  exact this

end
end Mine
namespace Mine
noncomputable section
open PySem PySem.W PySem.Calls PyProof.Rows
set_option maxRecDepth 100000
set_option maxHeartbeats 4000000
set_option linter.unusedVariables false

theorem call_tupNew {w : World} {A : Around} {E : Value → Shared → Prop} {s : Shared} {Q : Value → Shared → Prop} {base : Heap} {L tp : Addr} {m : Str → Option Value} {news : List (Addr × Obj)} {items : Array Value} {n : Nat} (X : (KK w.params).In base) (F : Fr base L s.heap m) (N : News base L s.heap news) (hm : (tp, ({ cls := .type "tuple", data := .seq items n } : Obj)) ∈ news) (hz : items.size ≤ 1000)
    (h : ∀ x dx h', Fr base L h' m → News base L h' ((x, handedObj dx items) :: news) → Q (.ref x) { s with heap := h' }) : wpAny (model pw w) A (call (.builtin "tuple.__new__") [.ref 308, .ref tp]) Q E s := by
  refine wpAny_call ?_
  obtain ⟨hh, g, d, t, os⟩ := s
  refine tupNew (X.keeps F.keep) (N.isTup hm) hz fun h₁ hk => ?_
  have F1 : Fr base L h₁ m := F.keeps hk
  have N1 : News base L h₁ news := N.keepsAll hk
  have hx : ((h₁.push W.emptyDict).push (handedObj h₁.objs.size items)).get? (h₁.objs.size + 1) = some (handedObj h₁.objs.size items) := by
    rw [show h₁.objs.size + 1 = (h₁.push W.emptyDict).objs.size from (Heap.size_push ..).symm]
    exact Heap.get?_push_size _ rfl
  have N2 := News.push (F1.push W.emptyDict) (fun p hp => ⟨Heap.get?_push_of_some _ (N1 p hp).1, (N1 p hp).2⟩ : News base L (h₁.push W.emptyDict) news) (handedObj h₁.objs.size items) rfl
  rw [Heap.size_push] at N2
  exact h _ _ _ ((F1.push _).push _) N2
local macro_rules | `(tactic| walk_at "call builtin:tuple.__new__") => `(tactic| (
  (with_reducible rename Fr _ _ _ _ => kF); (with_reducible rename News _ _ _ _ => kN); (with_reducible rename Frag.In _ _ => kX); k_dflt (
  refine' call_tupNew kX kF kN ?m ?z ?_; (case m => k_mem); (case z => exact Nat.le_of_ble_eq_true rfl); intro x9 dx9 h9 F9 N9; clear kF kN)))
theorem stub_tuple : Manifest.isStub "tuple" = false := by decide +kernel
theorem meta_tuple : typeOf (.type "tuple") = pure (.type "type") := by kernel_rfl
local macro_rules | `(tactic| walk_at "getMethod type:tuple") => `(tactic| (refine' method_type ?F ?X ?m stub_tuple ?e ?h ?_; (case F => k_asm); (case X => k_asm); (case m => exact meta_tuple); (case e => k_dflt k_is); (case h => k_handed)))
theorem s_new {w : World} {A : Around} {s : Shared} {mg mb : Str → Option Value} {mean : ExcName → Option Value} {a b c : Addr} {i j : Int} {t₁ t₂ : Tok} {R : Result → Shared → Prop}
    (X : (KK w.params).In s.heap) (T : Top topProg l0 mean mg mb s.heap) (hd : A.depth + 0 < recursionLimit)
    (hQ : ∀ x dx n h' tk, s.heap.StaysIn h' → s.heap.objs.size ≤ h'.objs.size → h'.get? x = some { cls := .ref 308, dict := some dx, data := .seq #[.ref a, .ref b, .ref c, .int i t₁, .int j t₂] n } → R (.ok (.ret (.ref x))) { s with heap := h', toks := tk }) :
    codeAny (model pw w) A (.call (.ref 249) ⟨[.ref 308, .ref a, .ref b, .ref c, .int i t₁, .int j t₂], []⟩) R s := by
  have hfill : KK w.params = KK w.params ∧ PySem.Challenge.rw_aj5027_01 = PySem.Challenge.rw_aj5027_01 := by
    k_fill
    exact ⟨rfl, rfl⟩
  clear hfill
  refine' enterK (binds := [("_cls", .ref 308), ("update", .ref a), ("digest", .ref b), ("copy", .ref c), ("digest_size", .int i t₁), ("block_size", .int j t₂)]) X T.nolimit ?ho ?hcd ?room ?hb ?hloc ?_ ?c2 ?c3 ?c4 ?c5
  case ho => k_is
  case hcd => k_is
  case room => omega
  case hb => exact BindsTo.of_eq rfl
  case hloc => exact locs rfl
  case c2 => rfl
  case c3 => rfl
  case c4 => rfl
  case c5 => decide
  intro L h₁ F N
  have KX := X
  have KT := T
  clear X T
  conv in (occs := *) (fScope (cS 19 4)) => all_goals whnf
  conv in (fBody (cS 19 4)) => whnf
  k_steps
  rename Fr _ _ _ _ => F9
  rename News _ _ _ _ => N9
  exact hQ _ _ _ _ _ F9.keep (szF F9) (N9.get (.head _))

end
end Mine
namespace Mine
noncomputable section
open PySem PySem.W PySem.Calls PyProof.Rows Builtin
set_option maxRecDepth 100000
set_option maxHeartbeats 4000000
set_option linter.unusedVariables false

theorem oi_args2 (a b c d e f : Value) : argsOk "object.__init__" ⟨[a, b, c, d, e, f], []⟩ := by unfold argsOk; kernel_rfl
theorem getNew {w : World} {A : Around} {E : Value → Shared → Prop} {expr : Bool} {Q : Value → Shared → Prop} {h : Heap} {g : Array GenState} {d : Drawn} {t : Nat} {os : OsState} (X : (KK w.params).In h) (q : Q (.ref 249) ⟨h, g, d, t + 1, os⟩) : wpAny (model pw w) A (getAttr (.ref 308) "__new__" expr) Q E ⟨h, g, d, t, os⟩ := by
  have hfill : KK w.params = KK w.params ∧ PySem.Challenge.rw_aj5027_01 = PySem.Challenge.rw_aj5027_01 := by
    k_fill
    exact ⟨rfl, rfl⟩
  have hr : readsIn (KK w.params) 308 (.type "type") = true := by k_is
  have e : findCls (KK w.params) (.ref 308) (.type "type") "__new__" = some (.get (.builtin "staticmethod.__get__") (.ref 309) .none (.ref 308)) := by k_is
  have hp : recIn (KK w.params) 309 "staticmethod" = some [.ref 249] := by k_is
  exact cls_bind X hr e (wpAny_call (sm_get (s := ⟨h, g, d, t + 1, os⟩) X hp (handed_on (by rfl) q)))
theorem newHanded {w : World} {A : Around} {R : Result → Shared → Prop} {h : Heap} {g : Array GenState} {d : Drawn} {t : Nat} {os : OsState} {mg mb : Str → Option Value} {mean : ExcName → Option Value} {a b c : Addr} {i j : Int} {t₁ t₂ : Tok}
    (X : (KK w.params).In h) (T : Top topProg l0 mean mg mb h) (hd : A.depth + 2 < recursionLimit)
    (hq : ∀ x dx n h' tk, h.StaysIn h' → h.objs.size ≤ h'.objs.size → h'.get? x = some { cls := .ref 308, dict := some dx, data := .seq #[.ref a, .ref b, .ref c, .int i t₁, .int j t₂] n } → R (.ok (.ret (.ref x))) ⟨h', g, d, tk, os⟩) :
    codeAny (model pw w) A (.call (.ref 308) ⟨[.ref a, .ref b, .ref c, .int i t₁, .int j t₂], []⟩) R ⟨h, g, d, t, os⟩ := by
  have hC := handed_at X
  have q1 := l_mro (M := model pw w) X
  have q2 := l_made (M := model pw w) X
  have q5 := l_isType (M := model pw w) X
  have call := l_call (M := model pw w) X
  have typ : Looks (model pw w) h (isInstance (.ref 308) (.type "type")) true := looks_instIn X (by kernel_rfl)
  refine codeAny_of_tree ?_
  show wpAny _ _ (callAny (.ref 308) _) _ _ _
  refine nd_load hC ?_
  show wpAny _ _ (callAny.viaDunder (.ref 308) _) _ _ _
  unfold callAny.viaDunder
  refine wpAny_bind (call.at ?_)
  dsimp only
  rw [tc_bind]
  refine wpAny_bind (wpAny_pure (wpAny_bind (wpAny_pure ?_)))
  refine wpAny_pure (a := Fin.again (.call (.builtin "type.__call__") ⟨.ref 308 :: [.ref a, .ref b, .ref c, .int i t₁, .int j t₂], []⟩)) (And.intro rfl ?_)
  refine codeAny_call_builtin_at (Code.quiet_builtin _ (by decide +kernel)) entry_typeCall ?_
  with_reducible refine check_slot (s := ⟨_, _, _, _, _⟩) tc_kind tc_split typ ?_ ?_
  exact tc_args _ _ _
  unfold Builtin.«type.__call__»
  have hd3 : (A.under (Code.builtin "type.__call__" { pos := [Value.ref 308, Value.ref a, Value.ref b, Value.ref c, Value.int i t₁, Value.int j t₂] })).depth + 0 < recursionLimit := by
    have e : (A.under (Code.builtin "type.__call__" { pos := [Value.ref 308, Value.ref a, Value.ref b, Value.ref c, Value.int i t₁, Value.int j t₂] })).depth ≤ A.depth + 1 := by first | exact Nat.le_refl _ | exact Nat.le_succ _ | decide
    omega
  repeat (first | with_reducible refine getNew X ?_ | with_reducible refine wpAny_call ?_ | lk)
  refine s_new X T hd3 fun x dx n h' tk st sz hx => ?_
  have X' : (KK w.params).In h' := X.keeps st
  have t1 : Looks (model pw w) h' (typeOf (.ref x)) (.ref 308) := (Looks.ld hx).andThen .now
  have s1 := l_sub2 (M := model pw w) X'
  have i1 := l_init (M := model pw w) X'
  have m1 := l_made (M := model pw w) X'
  have b1 : Looks (model pw w) h' (bindSpecial (.builtin "object.__init__") (.ref x)) (.builtin "object.__init__", [.ref x]) := Looks.of_pure (oi_bind _)
  have t2 : Looks (model pw w) h' (isInstance (.ref x) (.type "object")) true := t1.andThen (looks_subIn X' (by kernel_rfl))
  dsimp only
  unfold isInstance callSpecial? specialOf
  repeat (first | with_reducible refine wpAny_call ?_ | lk)
  refine codeAny_call_builtin oi_plain entry_oi ?_
  dsimp only [List.cons_append, List.nil_append]
  with_reducible refine check_slot (s := ⟨_, _, _, _, _⟩) oi_kind oi_split t2 ?_ ?_
  exact oi_args2 _ _ _ _ _ _
  unfold Builtin.«object.__init__»
  repeat lk
  exact hq x dx n h' tk st sz hx

end
end Mine
namespace Mine
noncomputable section
open PySem PySem.W PySem.Calls PyProof.Rows
set_option maxRecDepth 100000
set_option maxHeartbeats 4000000
set_option linter.unusedVariables false
local macro_rules | `(tactic| walk_at "no such stop") => `(tactic| skip)
local macro_rules | `(tactic| walk_at "no such stop") => `(tactic| skip)
local macro_rules | `(tactic| walk_at "no such stop") => `(tactic| skip)

theorem loose_ge {h : Heap} {S : List Addr} (x : ∀ a ∈ S, h.objs.size ≤ a) : Loose h S := fun a ha o e => absurd (Heap.lt_size e) (Nat.not_lt.mpr (x a ha))
def specC : List (Pos × Str) := [(fPos sUpd, qUpd), (fPos sDig, qDig), (fPos sCopy, qCopy)]
theorem specU' : ∀ p ∈ specC, ∀ q ∈ specC, (p.1.line == q.1.line && p.1.col == q.1.col) = true → q.2 = p.2 := by decide +kernel
theorem specU {p : Pos × Str} (hp : p ∈ specC) : ∀ q ∈ specC, (p.1.line == q.1.line && p.1.col == q.1.col) = true → q.2 = p.2 := specU' p hp
theorem not_asK {a : Addr} (h : 349 < a) : a ∉ asK := fun q => by
  have := List.all_eq_true.mp (show (asK.all fun b => decide (b ≤ 349)) = true by decide +kernel) a q
  exact absurd h (Nat.not_lt.mpr (of_decide_eq_true this))
theorem size_K {P : Params} {h : Heap} (X : (KK P).In h) : 349 < h.objs.size := Heap.lt_size (X 349 (o349 P) (by kernel_rfl))
def ConstO (h : Heap) (c P : Addr) (size block : Nat) : Prop := ∃ dT t sc cc bc t1 t2 cd, FnO h c sConst qConst [("size", sc), ("const", cc), ("block", bc)] (.ref dT) (.ref cd) ∧ IsTup h dT #[.bytes #[] t] ∧ CodeHd h cd P ∧ TabI h P specC ∧
  h.IsCell sc (some (.int size t1)) ∧ h.IsCell cc (some (.ref c)) ∧ h.IsCell bc (some (.int block t2))
def HashO (h : Heap) (hd l c : Addr) (size block : Nat) (b : Array UInt8) : Prop := ∃ u d cp t1 t2 dx n, h.get? hd = some { cls := .ref 308, dict := some dx, data := .seq #[.ref u, .ref d, .ref cp, .int size t1, .int block t2] n } ∧ UpdO h u l ∧ DigO h d l size ∧ CopyO h cp l c ∧ LstO h l b
local macro_rules | `(tactic| walk_at "eval Name") => `(tactic| (k_dflt (refine' nameB ?F ?c ?i ?_ ?a ?b; (case b => rfl); (case a => rfl); (case F => k_asm); (case c => rfl); (case i => assumption))))
local macro_rules | `(tactic| walk_at "eval Name") => `(tactic| (k_dflt (refine' nameX_C ?N ?c ?m ?d ?_ ?a ?b; (case b => rfl); (case a => rfl); (case N => k_asm); (case c => rfl); (case m => k_mem); (case d => rfl))))
theorem c_const {w : World} {A : Around} {s : Shared} {mg mb : Str → Option Value} {mean : ExcName → Option Value} {c P : Addr} {size block : Nat} {b : Array UInt8} {ft : Tok → Tok} {args : Args} {R : Result → Shared → Prop}
    (X : (KK w.params).In s.heap) (T : Top topProg l0 mean mg mb s.heap) (hd : A.depth + 3 < recursionLimit) (K : ConstO s.heap c P size block)
    (hbind : ∀ dT cl doc pm cd ct tt, IsTup s.heap dT #[.bytes #[] tt] → BindsTo s (fnX (fName sConst) qConst (fArgs sConst) (fBody sConst) (fScope sConst) cl (.ref dT) .none doc pm none cd ct) args [("octets", .bytes b (ft tt))])
    (hR : ∀ x l h' tk, But [P] s.heap h' → s.heap.objs.size ≤ h'.objs.size → ConstO h' c P size block → HashO h' x l c size block b → s.heap.get? l = none → R (.ok (.ret (.ref x))) { s with heap := h', toks := tk }) :
    codeAny (model pw w) A (.call (.ref c) args) R s := by
  have hfill : KK w.params = KK w.params ∧ PySem.Challenge.rw_aj5027_01 = PySem.Challenge.rw_aj5027_01 := by
    k_fill
    exact ⟨rfl, rfl⟩
  clear hfill
  obtain ⟨dT, t0, sc, cc, bc, t1, t2, cd, hf, hdT, hC, hP, hsc, hcc, hbc⟩ := K
  have hs := hP.soft
  refine' enterC1 (nm := "kept") (binds := [("octets", .bytes b (ft t0))]) X T [P] hs hf ?room ?hb ?hloc ?hp ?hcs ?_ ?c2 ?c3 ?c4
  case room => omega
  case hb => exact fun doc pm ct => hbind dT _ doc pm _ ct t0 hdT
  case hloc => exact locs rfl
  case hp => exact fun _ => rfl
  case hcs => exact fun _ _ => rfl
  case c2 => rfl
  case c3 => rfl
  case c4 => rfl
  intro base L h₁ big M0 B0 S0 KX KT F N G hL hbig
  have hscB := cell_but hsc M0 hs.loose
  have hccB := cell_but hcc M0 hs.loose
  have hbcB := cell_but hbc M0 hs.loose
  have XS := X
  clear X T
  have hPL : P ≠ L := fun q => by obtain ⟨_, _, ps, e, _⟩ := hP; exact Nat.lt_irrefl _ (Nat.lt_of_lt_of_le (q ▸ Heap.lt_size e) hL)
  have hPL1 : P ≠ L + 1 := by obtain ⟨_, _, ps, e, _⟩ := hP; exact Nat.ne_of_lt (Nat.lt_succ_of_lt (Nat.lt_of_lt_of_le (Heap.lt_size e) hL))
  have hPb : base.get? P = none := S0 P (List.mem_singleton.mpr rfl)
  k_steps
  rename Fr _ _ _ _ => F1
  rename News _ _ _ _ => N1
  rename_i l h1 _
  have n1 := N1 _ (.tail _ (.head _))
  have n0 := N1 _ (.head _)
  have M1 := Seg.now G F1 (fun p hp => N1 p (.tail _ (.tail _ hp)))
  refine wpAny_storeName_cell rfl rfl rfl ⟨_, n1.1, rfl⟩ fun h2 hv hs2 => ?_
  have M2 : But [L + 1] h1 h2 := fun b o e hb => (hs2.2 b (fun q => hb (List.mem_singleton.mpr q))).trans e
  obtain ⟨big2, F2, N2, G2⟩ := seg F1 M2 (fun a ha => by cases List.mem_singleton.mp ha; exact n1.2.2) (fun q => Nat.ne_of_lt (Nat.lt_succ_self L) (List.mem_singleton.mp q))
  have M12 : But [L, L + 1] s.heap h2 := (M1.mono (fun a ha => by cases List.mem_singleton.mp ha; exact .head _)).trans (M2.mono (fun a ha => by cases List.mem_singleton.mp ha; exact .tail _ (.head _)))
  have L12 : Loose s.heap [L, L + 1] := loose_ge (by intro a ha; rcases List.mem_cons.mp ha with rfl | ha; · exact hL
                                                     · cases List.mem_singleton.mp ha; exact Nat.le_succ_of_le hL)
  have p2 : TabI h2 P specC := hP.but M12 L12 (by intro q; rcases List.mem_cons.mp q with q | q; · exact hPL q
                                                  · exact hPL1 (List.mem_singleton.mp q))
  have c2 : h2.IsCell (L + 1) (some (.ref l)) := hv
  have hll : L + 1 < l := by rename L + 1 < l ∧ _ => q; exact q.1
  have l2 : h2.get? l = some (W.listOf #[.bytes b (ft t0)] 0) := M2 _ _ n0.1 (fun q => Nat.ne_of_gt hll (List.mem_singleton.mp q))
  have C2 : CodeHd h2 cd P := codeHd_but hC M12 L12
  have hlP : l ∉ [P] := fun q => by
    have q := List.mem_singleton.mp q
    obtain ⟨_, _, ps, e, _⟩ := hP
    exact Nat.lt_irrefl _ (Nat.lt_trans (Nat.lt_trans (Nat.lt_of_lt_of_le (q ▸ Heap.lt_size e) hL) (Nat.lt_succ_self L)) hll)
  have hlL : l ∉ [L] := fun q => Nat.ne_of_gt (Nat.lt_trans (Nat.lt_succ_self L) hll) (List.mem_singleton.mp q)
  have hPLs : P ∉ [L] := fun q => hPL (List.mem_singleton.mp q)
  clear F1 N1
  k_steps
  refine def_S (spec := specC) sUpd "update" rfl F2 KT C2 rfl hPb p2 hPL (.head _) (specU (.head _)) rfl rfl rfl rfl rfl rfl fun u h3 tk3 big3 cd3 F3 N3 G3 M3 p3 Uu3 zu zz3 => ?_
  have X3 := p2.soft.loose
  have c3 := cell_but c2 M3 X3
  have l3 := M3 _ _ l2 hlP
  have C3 := codeHd_but C2 M3 X3
  have X4 := loose_L F3.ns
  k_steps
  rename Fr _ _ _ _ => F4
  rename News _ _ _ _ => N4
  have M4 := Seg.now G3 F4 N4
  have p4 := p3.but M4 X4 hPLs
  have c4 := cell_but c3 M4 X4
  have l4 := M4 _ _ l3 hlL
  have C4 := codeHd_but C3 M4 X4
  have Uu4 := Uu3.but M4 X4
  refine def_S (spec := specC) sDig "digest" rfl F4 KT C4 rfl hPb p4 hPL (.tail _ (.head _)) (specU (.tail _ (.head _))) rfl rfl rfl rfl rfl rfl fun d h5 tk5 big5 cd5 F5 N5 G5 M5 p5 Ud5 zd zz5 => ?_
  have X5 := p4.soft.loose
  have c5 := cell_but c4 M5 X5
  have l5 := M5 _ _ l4 hlP
  have C5 := codeHd_but C4 M5 X5
  have X6 := loose_L F5.ns
  have Uu5 := Uu4.but M5 X5
  k_steps
  rename Fr _ _ _ _ => F6
  rename News _ _ _ _ => N6
  have M6 := Seg.now G5 F6 N6
  have p6 := p5.but M6 X6 hPLs
  have c6 := cell_but c5 M6 X6
  have l6 := M6 _ _ l5 hlL
  have C6 := codeHd_but C5 M6 X6
  have Uu6 := Uu5.but M6 X6
  have Ud6 := Ud5.but M6 X6
  refine def_S (spec := specC) sCopy "copy" rfl F6 KT C6 rfl hPb p6 hPL (.tail _ (.tail _ (.head _))) (specU (.tail _ (.tail _ (.head _)))) rfl rfl rfl rfl rfl rfl fun cp h7 tk7 big7 cd7 F7 N7 G7 M7 p7 Ucp7 zcp zz7 => ?_
  have X7 := p6.soft.loose
  have c7 := cell_but c6 M7 X7
  have l7 := M7 _ _ l6 hlP
  have C7 := codeHd_but C6 M7 X7
  have X8 := loose_L F7.ns
  have Uu7 := Uu6.but M7 X7
  have Ud7 := Ud6.but M7 X7
  k_steps
  rename Fr _ _ _ _ => F8
  rename News _ _ _ _ => N8
  have M8 := Seg.now G7 F8 N8
  have p8 := p7.but M8 X8 hPLs
  have c8 := cell_but c7 M8 X8
  have l8 := M8 _ _ l7 hlL
  have C8 := codeHd_but C7 M8 X8
  have Uu8 := Uu7.but M8 X8
  have Ud8 := Ud7.but M8 X8
  have Ucp8 := Ucp7.but M8 X8
  refine wpAny_call ?_
  have T8 := KT.keeps F8.keep
  have X8 := KX.keeps F8.keep
  refine newHanded X8 T8 ?rm fun x dx n h9 tk9 st sz hx => ?_
  case rm => show A.depth + 1 + 2 < recursionLimit; omega
  have MT : But [P] s.heap h9 := outF M0 (F8.keeps st)
  have LT : Loose s.heap [P] := hs.loose
  have b9 : But [] _ h9 := But.of_stays st
  have Ln : ∀ h : Heap, Loose h [] := fun h => Soft.nil.loose
  have hsl : s.heap.objs.size ≤ l := Nat.le_of_lt (Nat.lt_of_le_of_lt hL (Nat.lt_trans (Nat.lt_succ_self L) hll))
  have hbig9 : 349 < l := Nat.lt_of_lt_of_le (size_K XS) hsl
  dsimp only
  refine hR x l h9 tk9 MT (Nat.le_trans (szL hL F8) sz) ?_ ?_ (Heap.get?_none_of_le hsl)
  · exact ⟨dT, t0, sc, cc, bc, t1, t2, cd, hf.but MT LT, tup_but hdT MT LT, codeHd_but hC MT LT, p8.but b9 (Ln _) (fun q => nomatch q), cell_but hsc MT LT, cell_but hcc MT LT, cell_but hbc MT LT⟩
  · refine ⟨u, d, cp, t1, t2, dx, n, hx, ⟨L + 1, _, Uu8.but b9 (Ln _), cell_but c8 b9 (Ln _)⟩, ⟨L + 1, sc, t1, _, Ud8.but b9 (Ln _), cell_but c8 b9 (Ln _), cell_but hsc MT LT⟩, ⟨L + 1, cc, _, Ucp8.but b9 (Ln _), cell_but c8 b9 (Ln _), cell_but hcc MT LT⟩, ?_⟩
    exact ⟨fun q => by rw [q] at hbig9; exact absurd hbig9 (by decide), not_asK hbig9, ft t0, _, st _ _ l8, rfl, 0, rfl⟩

end
end Mine
namespace Mine
noncomputable section
open PySem PySem.W PySem.Calls PyProof.Rows
set_option maxRecDepth 100000
set_option maxHeartbeats 4000000
set_option linter.unusedVariables false
local macro_rules | `(tactic| walk_at "no such stop") => `(tactic| skip)
local macro_rules | `(tactic| walk_at "no such stop") => `(tactic| skip)
local macro_rules | `(tactic| walk_at "no such stop") => `(tactic| skip)
local macro_rules | `(tactic| walk_at "no such stop") => `(tactic| skip)
local macro_rules | `(tactic| walk_at "no such stop") => `(tactic| skip)
local macro_rules | `(tactic| walk_at "no such stop") => `(tactic| skip)

theorem ConstO.but {S : List Addr} {h h' : Heap} {c P : Addr} {size block : Nat} (x : ConstO h c P size block) (M : But S h h') (hs : Loose h S) (hP : P ∉ S) : ConstO h' c P size block :=
  let ⟨dT, t, sc, cc, bc, t1, t2, cd, a, b, e, f, g, i, j⟩ := x
  ⟨dT, t, sc, cc, bc, t1, t2, cd, a.but M hs, tup_but b M hs, codeHd_but e M hs, f.but M hs hP, cell_but g M hs, cell_but i M hs, cell_but j M hs⟩
theorem UpdO.but {S : List Addr} {h h' : Heap} {u l : Addr} (x : UpdO h u l) (M : But S h h') (hs : Loose h S) : UpdO h' u l := let ⟨kc, cd, a, b⟩ := x; ⟨kc, cd, a.but M hs, cell_but b M hs⟩
theorem DigO.but {S : List Addr} {h h' : Heap} {u l : Addr} {size : Nat} (x : DigO h u l size) (M : But S h h') (hs : Loose h S) : DigO h' u l size := let ⟨kc, sc, t, cd, a, b, c⟩ := x; ⟨kc, sc, t, cd, a.but M hs, cell_but b M hs, cell_but c M hs⟩
theorem CopyO.but {S : List Addr} {h h' : Heap} {u l c : Addr} (x : CopyO h u l c) (M : But S h h') (hs : Loose h S) : CopyO h' u l c := let ⟨kc, cc, cd, a, b, d⟩ := x; ⟨kc, cc, cd, a.but M hs, cell_but b M hs, cell_but d M hs⟩
theorem HashO.but {S : List Addr} {h h' : Heap} {x l c : Addr} {size block : Nat} {b : Array UInt8} (y : HashO h x l c size block b) (M : But S h h') (hs : Loose h S) (hl : l ∉ S) : HashO h' x l c size block b :=
  let ⟨u, d, cp, t1, t2, dx, n, e, a1, a2, a3, a4⟩ := y; ⟨u, d, cp, t1, t2, dx, n, M.fix hs e rfl, a1.but M hs, a2.but M hs, a3.but M hs, a4.but M hl⟩
theorem ConstO.soft {h : Heap} {c P : Addr} {size block : Nat} (x : ConstO h c P size block) : Soft h [P] := let ⟨_, _, _, _, _, _, _, _, _, _, _, f, _⟩ := x; f.soft
theorem ConstO.lt {h : Heap} {c P : Addr} {size block : Nat} (x : ConstO h c P size block) : P < h.objs.size := let ⟨_, _, _, _, _, _, _, _, _, _, _, ⟨_, _, _, e, _⟩, _⟩ := x; Heap.lt_size e
theorem binds1 {s : Shared} {dT : Addr} {cl : List (Str × Addr)} {doc pm cd ct : Value} {tt t : Tok} {b : Array UInt8} (h : IsTup s.heap dT #[.bytes #[] tt]) :
    BindsTo s (fnX (fName sConst) qConst (fArgs sConst) (fBody sConst) (fScope sConst) cl (.ref dT) .none doc pm none cd ct) ⟨[.bytes b t], []⟩ [("octets", .bytes b t)] := by
  obtain ⟨o, e, _, n, d⟩ := h
  exact BindsTo.of_defaults rfl e d rfl rfl
theorem binds0 {s : Shared} {dT : Addr} {cl : List (Str × Addr)} {doc pm cd ct : Value} {tt : Tok} (h : IsTup s.heap dT #[.bytes #[] tt]) :
    BindsTo s (fnX (fName sConst) qConst (fArgs sConst) (fBody sConst) (fScope sConst) cl (.ref dT) .none doc pm none cd ct) ⟨[], []⟩ [("octets", .bytes #[] tt)] := by
  obtain ⟨o, e, _, n, d⟩ := h
  exact BindsTo.of_defaults rfl e d rfl rfl
local macro_rules | `(tactic| walk_at "eval Name") => `(tactic| (k_dflt (refine' nameB ?F ?c ?i ?_ ?a ?b; (case b => rfl); (case a => rfl); (case F => k_asm); (case c => rfl); (case i => assumption))))
local macro_rules | `(tactic| walk_at "FnAt") => `(tactic| assumption)
local macro_rules | `(tactic| walk_at "callWith ref") => `(tactic| (k_dflt (refine callWith_F (by assumption) ?_)))
local macro_rules | `(tactic| walk_at "callWith ref") => `(tactic| (k_dflt (refine callWith_F0 (by assumption) ?_; (try dsimp only [List.nil_append, List.cons_append]))))
theorem c_copy {w : World} {A : Around} {s : Shared} {mg mb : Str → Option Value} {mean : ExcName → Option Value} {cp l c P : Addr} {b : Array UInt8} {size block : Nat} {Q : Value → Shared → Prop}
    (X : (KK w.params).In s.heap) (T : Top topProg l0 mean mg mb s.heap) (hd : A.depth + 4 < recursionLimit) (U : CopyO s.heap cp l c) (K : ConstO s.heap c P size block) (hl : LstO s.heap l b) (hlP : l ≠ P)
    (hQ : ∀ x l' h' tk, But [P] s.heap h' → s.heap.objs.size ≤ h'.objs.size → ConstO h' c P size block → HashO h' x l' c size block b → s.heap.get? l' = none → Q (.ref x) { s with heap := h', toks := tk }) :
    wpAny (model pw w) A (call (.ref cp) []) Q (fun _ _ => False) s := by
  have hfill : KK w.params = KK w.params ∧ PySem.Challenge.rw_aj5027_01 = PySem.Challenge.rw_aj5027_01 := by
    k_fill
    exact ⟨rfl, rfl⟩
  clear hfill
  obtain ⟨kc, cc, cd, hf, hk, hcc⟩ := U
  have K0 := K
  obtain ⟨dT, t0, sc2, cc2, bc2, t1, t2, cd2, hfc, hdT, hC, hP, _⟩ := K0
  have hs := hP.soft
  refine wpAny_call ?_
  refine' enterF (binds := []) X T [P] hs hf ?room ?hb ?hloc ?_ ?c2 ?c3 ?c4 ?c5
  case room => omega
  case hb => exact fun _ _ _ => BindsTo.of_eq rfl
  case hloc => exact locs rfl
  case c2 => rfl
  case c3 => rfl
  case c4 => rfl
  case c5 => decide
  intro base L h₁ big M0 B0 S0 KX KT F N G hL
  have hkB := cell_but hk M0 hs.loose
  have hcB := cell_but hcc M0 hs.loose
  obtain ⟨l1, l2, tl, hI⟩ := hl
  have hIB : base.IsList l #[.bytes b tl] := let ⟨o, e, r⟩ := hI; ⟨o, M0 _ _ e (fun q => hlP (List.mem_singleton.mp q)), r⟩
  have hFc : FnAt c h₁ := let ⟨oc, od, sl, doc, pm, ct, e, _⟩ := hfc.but M0 hs.loose; ⟨oc, od, _, sl, F.keep _ _ e⟩
  clear X T
  dsimp only
  have M1 := Seg.now G F N
  have L1 : Loose s.heap [L] := loose_ge (fun a ha => by cases List.mem_singleton.mp ha; exact hL)
  have hPL : P ∉ [L] := fun q => Nat.lt_irrefl _ (Nat.lt_of_lt_of_le ((List.mem_singleton.mp q) ▸ K.lt) hL)
  k_steps
  refine wpAny_call (c_const (KX.keeps F.keep) (KT.keeps F.keep) ?rm (K.but M1 L1 hPL) (fun _ _ _ _ _ _ _ h => binds1 h) fun x l' h' tk MM z KO HO hl' => ?_)
  case rm => show A.depth + 1 + 3 < recursionLimit; omega
  refine hQ x l' h' tk (fun b o e hb => MM b o (M1 b o e ?_) hb) (Nat.le_trans (szL hL F) z) KO HO ?_
  · exact fun q => Nat.lt_irrefl _ (Nat.lt_of_lt_of_le ((List.mem_singleton.mp q) ▸ Heap.lt_size e) hL)
  · cases q : s.heap.get? l' with
    | none => rfl
    | some o =>
      have e := M1 l' o q (fun q2 => Nat.lt_irrefl _ (Nat.lt_of_lt_of_le ((List.mem_singleton.mp q2) ▸ Heap.lt_size q) hL))
      rw [hl'] at e; cases e

end
end Mine
namespace Mine
noncomputable section
open PySem PySem.W PySem.Calls PyProof.Rows Builtin
set_option maxRecDepth 100000
set_option maxHeartbeats 4000000
set_option linter.unusedVariables false

theorem tgi_kind : builtinKind "tuple.__getitem__" = some .slot := by decide +kernel
theorem tgi_split : splitId "tuple.__getitem__" = some ("tuple", "__getitem__") := by decide +kernel
section
variable {w : World} {A : Around} {E : Value → Shared → Prop} {Q : Value → Shared → Prop} {h : Heap} {g : Array GenState} {d : Drawn} {t : Nat} {os : OsState}
theorem issubH (X : (KK w.params).In h) (q : Q (.bool true) ⟨h, g, d, t, os⟩) : wpAny (model pw w) A (call (.builtin "issubclass") [.ref 308, .type "tuple"]) Q E ⟨h, g, d, t, os⟩ := by
  have q4 := l_sub (M := model pw w) X
  have q5 := l_isType (M := model pw w) X
  refine wpAny_call (codeAny_call_builtin F.plain_issubclass F.entry_issubclass ?_)
  repeat lk
  refine ⟨Code.quiet_builtin _ (by decide +kernel), codeAny_builtin F.entry_issubclass_nested ?_⟩
  unfold Builtin.«issubclass.nested»
  repeat lk
  exact q
theorem typeH {x : Addr} {o : Obj} (hx : h.get? x = some o) (hn : (o.cls == .type "builtin_function_or_method") = false) (q : Q o.cls ⟨h, g, d, t, os⟩) : wpAny (model pw w) A (call (.type "type") [.ref x]) Q E ⟨h, g, d, t, os⟩ := call_type_obj hx hn q
theorem getitemH {x dx : Addr} {n : Nat} {items : Array Value} {i : Int} {k : Nat} {y : Value} {tk : Tok} (X : (KK w.params).In h) (hx : h.get? x = some { cls := .ref 308, dict := some dx, data := .seq items n }) (hlo : -2 ^ 63 ≤ i) (hhi : i < 2 ^ 63) (hk : seqIndex? i items.size = some k) (hy : items[k]? = some y) (q : Q y ⟨h, g, d, t, os⟩) :
    wpAny (model pw w) A (call (.builtin "tuple.__getitem__") [.ref x, .int i tk]) Q E ⟨h, g, d, t, os⟩ := by
  have t1 : Looks (model pw w) h (typeOf (.ref x)) (.ref 308) := (Looks.ld hx).andThen .now
  have t2 : Looks (model pw w) h (isInstance (.ref x) (.type "tuple")) true := t1.andThen (l_sub X)
  refine wpAny_call (codeAny_call_builtin PySem.F.slot_tuple_getitem.plain PySem.F.entry_tuple_getitem ?_)
  refine check_slot (i := "tuple.__getitem__") (owner := "tuple") (n := "__getitem__") tgi_kind tgi_split t2 (PySem.F.args_tuple_getitem_2 _ _) ?_
  have f1 := AutoSeq1.idx_int
  have hf : ¬ (decide (i < -2 ^ 63) || decide (i ≥ 2 ^ 63)) = true := by simp; omega
  wp_walk using AutoSeq1.wpAny_loadPart' hx
  simp only [hk, hy, Option.bind_some]
  refine wpAny_ite_false (by simp; omega) ?_
  wp_walk
  exact q
end

end
end Mine
namespace Mine
noncomputable section
open PySem PySem.W PySem.Calls PyProof.Rows
set_option maxRecDepth 100000
set_option maxHeartbeats 4000000
set_option linter.unusedVariables false

/-- p stands for one of the five getters: reading its index gives i -/
def Getter (P : Params) (p : Addr) (i : Int) : Prop := ∃ d o tk, (KK P).lookup p = some ⟨.ref 227, some d, .plain, #[]⟩ ∧ (KK P).lookup d = some o ∧ lookIn "index" o = some (some (.int i tk))
theorem getters {P : Params} : Getter P 291 0 ∧ Getter P 294 1 ∧ Getter P 297 2 ∧ Getter P 300 3 ∧ Getter P 303 4 :=
  ⟨⟨290, o290 P, 2639, by kernel_rfl, by kernel_rfl, by kernel_rfl⟩, ⟨293, o293 P, 2649, by kernel_rfl, by kernel_rfl, by kernel_rfl⟩, ⟨296, o296 P, 2659, by kernel_rfl, by kernel_rfl, by kernel_rfl⟩, ⟨299, o299 P, 2669, by kernel_rfl, by kernel_rfl, by kernel_rfl⟩, ⟨302, o302 P, 2679, by kernel_rfl, by kernel_rfl, by kernel_rfl⟩⟩
theorem getIndex {w : World} {A : Around} {E : Value → Shared → Prop} {s : Shared} {expr : Bool} {Q : Value → Shared → Prop} {p : Addr} {i : Int} (X : (KK w.params).In s.heap) (G : Getter w.params p i) (h : ∀ tk, Q (.int i tk) { s with toks := s.toks + 1 }) :
    wpAny (model pw w) A (getAttr (.ref p) "index" expr) Q E s := by
  obtain ⟨d, o, tk, e1, e2, e3⟩ := G
  have I : InstAt s.heap p ⟨.ref 227, some d, .plain, #[]⟩ 227 (some o) := ⟨X _ _ e1, rfl, rfl, X _ _ e2⟩
  refine get_value X I (v := .int i tk) (by kernel_rfl) ?_ rfl (h tk)
  have c1 : clsIn (KK w.params) 227 = some (match (o227 w.params).data with | .cls c => c | _ => default) := by kernel_rfl
  have c2 : findIn (KK w.params) (.ref 227) "index" = some none := by kernel_rfl
  unfold findObj
  rw [c1, Option.bind_some, c2, Option.bind_some]
  show (W.ownOf _ _ _).bind _ = _
  unfold W.ownOf
  rw [if_pos (by rfl)]
  dsimp only
  rw [e3]
  rfl

local macro_rules | `(tactic| walk_at "getAttr ref") => `(tactic| (
  (with_reducible rename Frag.In _ _ => kX); (with_reducible rename Fr _ _ _ _ => kF); (with_reducible rename Getter _ _ _ => kG); (refine getIndex (Frag.In.keeps kX (Fr.keep kF)) kG ?_; intro _)))

local macro_rules | `(tactic| walk_at "getMethod type:tuple") => `(tactic| (refine' method_type ?F ?X ?m stub_tuple ?e ?h ?_; (case F => k_asm); (case X => k_asm); (case m => exact meta_tuple); (case e => k_dflt k_is); (case h => k_handed)))
local macro_rules | `(tactic| walk_at "call type:type") => `(tactic| (
  (with_reducible rename Fr _ _ _ _ => kF); (with_reducible rename Heap.get? _ _ = some _ => kO); (refine typeH (Fr.keep kF _ _ kO) rfl ?_); (try dsimp only)))
local macro_rules | `(tactic| walk_at "call builtin:issubclass") => `(tactic| (
  (with_reducible rename Frag.In _ _ => kX); (with_reducible rename Fr _ _ _ _ => kF); (refine issubH (Frag.In.keeps kX (Fr.keep kF)) ?_)))
local macro_rules | `(tactic| walk_at "call builtin:tuple.__getitem__") => `(tactic| (
  (with_reducible rename Frag.In _ _ => kX); (with_reducible rename Fr _ _ _ _ => kF); (with_reducible rename Heap.get? _ _ = some _ => kO); (refine getitemH (Frag.In.keeps kX (Fr.keep kF)) (Fr.keep kF _ _ kO) (by omega) (by omega) (by assumption) (by assumption) ?_)))
theorem t_get {w : World} {A : Around} {s : Shared} {mg mb : Str → Option Value} {mean : ExcName → Option Value} {p x dx : Addr} {items : Array Value} {n : Nat} {i : Int} {k : Nat} {v : Value} {Q : Value → Shared → Prop}
    (X : (KK w.params).In s.heap) (T : Top topProg l0 mean mg mb s.heap) (hd : A.depth + 0 < recursionLimit) (G : Getter w.params p i) (hi : 0 ≤ i ∧ i < 100) (hx : s.heap.get? x = some { cls := .ref 308, dict := some dx, data := .seq items n }) (hk : seqIndex? i items.size = some k) (hv : items[k]? = some v) (hQ : ∀ h' tk, s.heap.StaysIn h' → s.heap.objs.size ≤ h'.objs.size → Q v { s with heap := h', toks := tk }) :
    wpAny (model pw w) A (call (.ref 210) [.ref p, .ref x, .ref 308]) Q (fun _ _ => False) s := by
  have hfill : KK w.params = KK w.params ∧ PySem.Challenge.rw_aj5027_01 = PySem.Challenge.rw_aj5027_01 := by
    k_fill
    exact ⟨rfl, rfl⟩
  clear hfill
  refine wpAny_call ?_
  refine' enterK (binds := [("self", .ref p), ("obj", .ref x), ("objtype", .ref 308)]) X T.nolimit ?ho ?hcd ?room ?hb ?hloc ?_ ?c2 ?c3 ?c4 ?c5
  case ho => k_is
  case hcd => k_is
  case room => omega
  case hb => exact binds_K X rfl (by k_is) rfl rfl rfl
  case hloc => exact locs rfl
  case c2 => rfl
  case c3 => rfl
  case c4 => rfl
  case c5 => decide
  intro L h₁ F N
  have KX := X
  have KT := T
  clear X T
  dsimp only
  k_steps
  rename Fr _ _ _ _ => kF
  exact hQ _ _ kF.keep (szF kF)

end
end Mine
namespace Mine
noncomputable section
open PySem PySem.W PySem.Calls PyProof.Rows
set_option maxRecDepth 100000
set_option maxHeartbeats 4000000
set_option linter.unusedVariables false

section
variable {w : World} {A : Around} {E : Value → Shared → Prop} {s : Shared} {x : Addr} {name : Str} {expr : Bool} {o : Obj}
theorem tga_kind : builtinKind "tuple.__getattribute__" = some .slot := by decide +kernel
theorem tga_split : splitId "tuple.__getattribute__" = some ("tuple", "__getattribute__") := by decide +kernel
theorem looks_data {M : Model} {K : Frag} {h : Heap} {C : Addr} {g a : Value} (X : K.In h) (ha : findIn K (.ref C) name = some (some a)) (hg : specialIn K a "__get__" = some (some g)) (ht : takesIn K a = some true) :
    Looks M h (Builtin.ObjectAttr.find (.ref x) (.ref C) name) (.bind g a) := by
  have l3 : Looks M h (Builtin.ObjectAttr.dataDescriptor? (some a) (some g)) (some (g, a)) := (looks_takesIn X ht).andThen .now
  exact (looks_findIn X ha).andThen ((show Looks M h (Builtin.ObjectAttr.getOf (some a)) (some g) from looks_specialIn X hg).andThen (l3.andThen (Looks.tag .now)))
/-- reading a field of a Handed -/
theorem readH {p : Addr} {Q : Value → Shared → Prop} (X : (KK w.params).In s.heap) (hx : s.heap.get? x = some o) (hc : o.cls = .ref 308) (ha : findIn (KK w.params) (.ref 308) name = some (some (.ref p))) (hg : specialIn (KK w.params) (.ref p) "__get__" = some (some (.ref 210)))
    (ht : takesIn (KK w.params) (.ref p) = some true)
    (h : wpAny (model pw w) A.in1 (call (.ref 210) [.ref p, .ref x, .ref 308]) (fun v s' => handedIn v = true ∧ Q v s') (fun _ _ => False) { s with toks := s.toks + 1 }) :
    wpAny (model pw w) A (getAttr (.ref x) name expr) Q E s := by
  obtain ⟨hh, g, d, t, os⟩ := s
  have l0 : Looks (model pw w) hh (typeOf (.ref x)) (.ref 308) := hc ▸ (Looks.ld hx).andThen .now
  have lg : Looks (model pw w) hh (typeLookup (.ref 308) "__getattribute__") (some (.builtin "tuple.__getattribute__")) := looks_findIn X (by kernel_rfl)
  have lk' : Looks (model pw w) hh (typeLookup (.ref 308) "__getattr__") none := looks_findIn X (by kernel_rfl)
  have ld := looks_data (M := model pw w) (x := x) X ha hg ht
  have l2 : Looks (model pw w) hh (isInstance (.ref x) (.type "tuple")) true := l0.andThen (l_sub X)
  unfold getAttr getAttrBy
  refine wpAny_bind (wpAny_mkText (wpAny_holding (wpAny_bind (l0.at (wpAny_bind (lg.at ?_))))))
  dsimp only
  rw [show (onTheHeap (Value.ref 308) && Value.builtin "tuple.__getattribute__" == Value.builtin "object.__getattribute__") = false from by decide +kernel, if_neg (by decide)]
  show wpAny _ _ (getAttrByItsOwn _ _ _ _ _ _) _ _ _
  unfold getAttrByItsOwn hookBefore
  refine wpAny_bind (wpAny_ite_true (by rfl) (lk'.at (wpAny_bind (wpAny_attempt (wpAny_holding ?_)))))
  unfold callGetattribute
  rw [show (expr && onTheHeap (Value.builtin "tuple.__getattribute__")) = false from Bool.and_false _, if_neg (by decide)]
  unfold boundAndCalled
  rw [F.slot_tuple_getattribute.bind]
  refine wpAny_bind (wpAny_pure ?_)
  show wpAny _ _ (call (.builtin "tuple.__getattribute__") [.ref x, .str name t]) _ _ _
  refine wpAny_call (codeAny_call_builtin F.slot_tuple_getattribute.plain F.entry_tuple_ga ?_)
  refine check_slot (i := "tuple.__getattribute__") (owner := "tuple") (n := "__getattribute__") tga_kind tga_split l2 (F.args_tuple_getattribute_2 _ _) ?_
  unfold Builtin.«object.__getattribute__»
  refine wpAny_bind (wpAny_pure (wpAny_bind (wpAny_pure (wpAny_bind (l0.at (wpAny_bind (ld.at ?_)))))))
  show wpAny _ _ (Builtin.ObjectAttr.bindTo _ _ _ _) _ _ _
  unfold Builtin.ObjectAttr.bindTo
  refine wpAny_bind (wpAny_holding (wpAny_mono h (fun v s' q => wpAny_pure ?_) fun _ _ q => q.elim))
  show wpAny _ _ (handedOut v) _ _ _
  rw [handedOut_of q.1]
  exact wpAny_pure q.2
end

end
end Mine
namespace Mine
noncomputable section
open PySem PySem.W PySem.Calls PyProof.Rows
set_option maxRecDepth 100000
set_option maxHeartbeats 4000000
set_option linter.unusedVariables false

/-- a field's name, its getter, its place -/
def FieldK (P : Params) (name : Str) (p : Addr) (i : Int) : Prop := Getter P p i ∧ findIn (KK P) (.ref 308) name = some (some (.ref p)) ∧ specialIn (KK P) (.ref p) "__get__" = some (some (.ref 210)) ∧ takesIn (KK P) (.ref p) = some true ∧ typeIn (KK P) (.ref p) = some (.ref 227) ∧ 0 ≤ i ∧ i < 100
theorem fk_update {P : Params} : FieldK P "update" 291 0 := ⟨getters.1, by kernel_rfl, by kernel_rfl, by kernel_rfl, by kernel_rfl, by decide, by decide⟩
theorem fk_digest {P : Params} : FieldK P "digest" 294 1 := ⟨getters.2.1, by kernel_rfl, by kernel_rfl, by kernel_rfl, by kernel_rfl, by decide, by decide⟩
theorem fk_copy {P : Params} : FieldK P "copy" 297 2 := ⟨getters.2.2.1, by kernel_rfl, by kernel_rfl, by kernel_rfl, by kernel_rfl, by decide, by decide⟩
theorem fk_digest_size {P : Params} : FieldK P "digest_size" 300 3 := ⟨getters.2.2.2.1, by kernel_rfl, by kernel_rfl, by kernel_rfl, by kernel_rfl, by decide, by decide⟩
theorem fk_block_size {P : Params} : FieldK P "block_size" 303 4 := ⟨getters.2.2.2.2, by kernel_rfl, by kernel_rfl, by kernel_rfl, by kernel_rfl, by decide, by decide⟩

section
variable {w : World} {A : Around} {E : Value → Shared → Prop} {s : Shared} {x : Addr} {name : Str} {expr : Bool} {o : Obj} {mg mb : Str → Option Value} {mean : ExcName → Option Value}
theorem readF {p dx : Addr} {items : Array Value} {n k : Nat} {i : Int} {v : Value} {Q : Value → Shared → Prop} (K : FieldK w.params name p i) (X : (KK w.params).In s.heap) (T : Top topProg l0 mean mg mb s.heap) (hd : A.depth + 0 < recursionLimit)
    (hx : s.heap.get? x = some { cls := .ref 308, dict := some dx, data := .seq items n }) (hk : seqIndex? i items.size = some k) (hv : items[k]? = some v) (hh : handedIn v = true)
    (hQ : ∀ h' tk, s.heap.StaysIn h' → s.heap.objs.size ≤ h'.objs.size → Q v { s with heap := h', toks := tk }) : wpAny (model pw w) A (getAttr (.ref x) name expr) Q E s := by
  obtain ⟨G, a, b, c, _, i0, i1⟩ := K
  exact readH X hx rfl a b c (t_get (s := { s with toks := s.toks + 1 }) X T hd G ⟨i0, i1⟩ hx hk hv fun h' tk st sz => ⟨hh, hQ h' tk st sz⟩)
theorem methF {p : Addr} {i : Int} {pl : Sem Bool} {Q : Value × List Value → Shared → Prop} (K : FieldK w.params name p i) (X : (KK w.params).In s.heap) (hx : s.heap.get? x = some o) (hc : o.cls = .ref 308)
    (h : wpAny (model pw w) A (getAttr (.ref x) name) (fun v => Q (v, [])) E s) : wpAny (model pw w) A (getMethod (.ref x) name pl) Q E s := by
  obtain ⟨G, a, b, c, ty, _, _⟩ := K
  have l0 : Looks (model pw w) s.heap (typeOf (.ref x)) (.ref 308) := hc ▸ (Looks.ld hx).andThen .now
  have lg : Looks (model pw w) s.heap (typeLookup (.ref 308) "__getattribute__") (some (.builtin "tuple.__getattribute__")) := looks_findIn X (by kernel_rfl)
  have l2 : Looks (model pw w) s.heap (typeLookup (.ref 308) "__getattr__") none := looks_findIn X (by kernel_rfl)
  have l3 := looks_findIn (M := model pw w) X a
  have l4 := looks_typeIn (M := model pw w) X ty
  unfold getMethod specialOf
  refine wpAny_bind (wpAny_bind (l0.here (lg.here ?_)))
  dsimp only
  rw [show (Manifest.canonical "tuple.__getattribute__" != "object.__getattribute__") = false by decide +kernel, if_neg (by decide)]
  refine wpAny_bind (wpAny_bind (l0.here (l2.here ?_)))
  refine wpAny_bind (wpAny_bind (l0.here (l3.here (wpAny_bind (l4.here ?_)))))
  rw [if_pos (by decide +kernel)]
  exact wpAny_bind (wpAny_mono h (fun _ _ z => wpAny_pure z) fun _ _ z => z)
end

end
end Mine
namespace Mine
noncomputable section
open PySem PySem.W PySem.Calls PyProof.Rows
set_option maxRecDepth 100000
set_option maxHeartbeats 4000000
set_option linter.unusedVariables false

def HandAt (h : Heap) (y u d cp : Addr) (i : Int) (t₁ : Tok) (j : Int) (t₂ : Tok) : Prop := ∃ ex n, h.get? y = some { cls := .ref 308, dict := some ex, data := .seq #[.ref u, .ref d, .ref cp, .int i t₁, .int j t₂] n }
theorem HandAt.but {S : List Addr} {h h' : Heap} {y u d cp : Addr} {i j : Int} {t₁ t₂ : Tok} (x : HandAt h y u d cp i t₁ j t₂) (M : But S h h') (hs : Loose h S) : HandAt h' y u d cp i t₁ j t₂ := let ⟨ex, n, e⟩ := x; ⟨ex, n, M.fix hs e rfl⟩
section
variable {w : World} {A : Around} {E : Value → Shared → Prop} {s : Shared} {y u d cp : Addr} {i j : Int} {t₁ t₂ : Tok} {expr : Bool} {mg mb : Str → Option Value} {mean : ExcName → Option Value}
theorem rd_update {Q : Value → Shared → Prop} (X : (KK w.params).In s.heap) (T : Top topProg l0 mean mg mb s.heap) (hd : A.depth + 0 < recursionLimit) (hx : HandAt s.heap y u d cp i t₁ j t₂)
    (hQ : ∀ h' tk, s.heap.StaysIn h' → s.heap.objs.size ≤ h'.objs.size → Q (.ref u) { s with heap := h', toks := tk }) : wpAny (model pw w) A (getAttr (.ref y) "update" expr) Q E s :=
  let ⟨_, _, e⟩ := hx; readF fk_update X T hd e (k := 0) rfl rfl rfl hQ
theorem me_update {pl : Sem Bool} {Q : Value × List Value → Shared → Prop} (X : (KK w.params).In s.heap) (T : Top topProg l0 mean mg mb s.heap) (hd : A.depth + 0 < recursionLimit) (hx : HandAt s.heap y u d cp i t₁ j t₂)
    (hQ : ∀ h' tk, s.heap.StaysIn h' → s.heap.objs.size ≤ h'.objs.size → Q (.ref u, []) { s with heap := h', toks := tk }) : wpAny (model pw w) A (getMethod (.ref y) "update" pl) Q E s :=
  let ⟨_, _, e⟩ := id hx; methF fk_update X e rfl (rd_update X T hd hx hQ)
theorem rd_digest {Q : Value → Shared → Prop} (X : (KK w.params).In s.heap) (T : Top topProg l0 mean mg mb s.heap) (hd : A.depth + 0 < recursionLimit) (hx : HandAt s.heap y u d cp i t₁ j t₂)
    (hQ : ∀ h' tk, s.heap.StaysIn h' → s.heap.objs.size ≤ h'.objs.size → Q (.ref d) { s with heap := h', toks := tk }) : wpAny (model pw w) A (getAttr (.ref y) "digest" expr) Q E s :=
  let ⟨_, _, e⟩ := hx; readF fk_digest X T hd e (k := 1) rfl rfl rfl hQ
theorem me_digest {pl : Sem Bool} {Q : Value × List Value → Shared → Prop} (X : (KK w.params).In s.heap) (T : Top topProg l0 mean mg mb s.heap) (hd : A.depth + 0 < recursionLimit) (hx : HandAt s.heap y u d cp i t₁ j t₂)
    (hQ : ∀ h' tk, s.heap.StaysIn h' → s.heap.objs.size ≤ h'.objs.size → Q (.ref d, []) { s with heap := h', toks := tk }) : wpAny (model pw w) A (getMethod (.ref y) "digest" pl) Q E s :=
  let ⟨_, _, e⟩ := id hx; methF fk_digest X e rfl (rd_digest X T hd hx hQ)
theorem rd_copy {Q : Value → Shared → Prop} (X : (KK w.params).In s.heap) (T : Top topProg l0 mean mg mb s.heap) (hd : A.depth + 0 < recursionLimit) (hx : HandAt s.heap y u d cp i t₁ j t₂)
    (hQ : ∀ h' tk, s.heap.StaysIn h' → s.heap.objs.size ≤ h'.objs.size → Q (.ref cp) { s with heap := h', toks := tk }) : wpAny (model pw w) A (getAttr (.ref y) "copy" expr) Q E s :=
  let ⟨_, _, e⟩ := hx; readF fk_copy X T hd e (k := 2) rfl rfl rfl hQ
theorem me_copy {pl : Sem Bool} {Q : Value × List Value → Shared → Prop} (X : (KK w.params).In s.heap) (T : Top topProg l0 mean mg mb s.heap) (hd : A.depth + 0 < recursionLimit) (hx : HandAt s.heap y u d cp i t₁ j t₂)
    (hQ : ∀ h' tk, s.heap.StaysIn h' → s.heap.objs.size ≤ h'.objs.size → Q (.ref cp, []) { s with heap := h', toks := tk }) : wpAny (model pw w) A (getMethod (.ref y) "copy" pl) Q E s :=
  let ⟨_, _, e⟩ := id hx; methF fk_copy X e rfl (rd_copy X T hd hx hQ)
theorem rd_digest_size {Q : Value → Shared → Prop} (X : (KK w.params).In s.heap) (T : Top topProg l0 mean mg mb s.heap) (hd : A.depth + 0 < recursionLimit) (hx : HandAt s.heap y u d cp i t₁ j t₂)
    (hQ : ∀ h' tk, s.heap.StaysIn h' → s.heap.objs.size ≤ h'.objs.size → Q (.int i t₁) { s with heap := h', toks := tk }) : wpAny (model pw w) A (getAttr (.ref y) "digest_size" expr) Q E s :=
  let ⟨_, _, e⟩ := hx; readF fk_digest_size X T hd e (k := 3) rfl rfl rfl hQ
theorem me_digest_size {pl : Sem Bool} {Q : Value × List Value → Shared → Prop} (X : (KK w.params).In s.heap) (T : Top topProg l0 mean mg mb s.heap) (hd : A.depth + 0 < recursionLimit) (hx : HandAt s.heap y u d cp i t₁ j t₂)
    (hQ : ∀ h' tk, s.heap.StaysIn h' → s.heap.objs.size ≤ h'.objs.size → Q (.int i t₁, []) { s with heap := h', toks := tk }) : wpAny (model pw w) A (getMethod (.ref y) "digest_size" pl) Q E s :=
  let ⟨_, _, e⟩ := id hx; methF fk_digest_size X e rfl (rd_digest_size X T hd hx hQ)
theorem rd_block_size {Q : Value → Shared → Prop} (X : (KK w.params).In s.heap) (T : Top topProg l0 mean mg mb s.heap) (hd : A.depth + 0 < recursionLimit) (hx : HandAt s.heap y u d cp i t₁ j t₂)
    (hQ : ∀ h' tk, s.heap.StaysIn h' → s.heap.objs.size ≤ h'.objs.size → Q (.int j t₂) { s with heap := h', toks := tk }) : wpAny (model pw w) A (getAttr (.ref y) "block_size" expr) Q E s :=
  let ⟨_, _, e⟩ := hx; readF fk_block_size X T hd e (k := 4) rfl rfl rfl hQ
theorem me_block_size {pl : Sem Bool} {Q : Value × List Value → Shared → Prop} (X : (KK w.params).In s.heap) (T : Top topProg l0 mean mg mb s.heap) (hd : A.depth + 0 < recursionLimit) (hx : HandAt s.heap y u d cp i t₁ j t₂)
    (hQ : ∀ h' tk, s.heap.StaysIn h' → s.heap.objs.size ≤ h'.objs.size → Q (.int j t₂, []) { s with heap := h', toks := tk }) : wpAny (model pw w) A (getMethod (.ref y) "block_size" pl) Q E s :=
  let ⟨_, _, e⟩ := id hx; methF fk_block_size X e rfl (rd_block_size X T hd hx hQ)
end

end
end Mine
namespace Mine
noncomputable section
open PySem PySem.W PySem.Calls PyProof.Rows
set_option maxRecDepth 100000
set_option maxHeartbeats 4000000
set_option linter.unusedVariables false

def Weak (h : Heap) (S : List Addr) : Prop := ∀ a ∈ S, ∀ o, h.get? a = some o → fixK o = false ∨ ∃ c, o.cls = .ref c
theorem Weak.of {h : Heap} {S : List Addr} (x : Loose h S) : Weak h S := fun a ha o e => .inl (x a ha o e)
theorem top_but2 {S : List Addr} {h h' : Heap} {mean : ExcName → Option Value} {mg mb : Str → Option Value} (T : Top topProg l0 mean mg mb h) (M : But S h h') (hs : ∀ a ∈ S, a ≠ 0 ∧ a ∉ asK) (hl : Weak h S) : Top topProg l0 mean mg mb h' := by
  have h3 : (3 : Addr) ∉ S := fun q => (hs _ q).2 (by decide +kernel)
  have h2 : (2 : Addr) ∉ S := fun q => (hs _ q).2 (by decide +kernel)
  have h0 : (0 : Addr) ∉ S := fun q => (hs _ q).1 rfl
  exact {
    g := ns_but M h3 T.g
    b := ns_but M h0 T.b
    nolimit := let ⟨mc, a, r⟩ := T.nolimit; ⟨mc, ns_but M h2 a, r⟩
    nodigits := let ⟨mc, a, r⟩ := T.nodigits; ⟨mc, ns_but M h2 a, r⟩
    fn := fun d hd => absurd (show d ∈ ([] : List DefRec) from hd) List.not_mem_nil
    own := fun o ho => absurd (show o ∈ ([] : List OwnSpec) from ho) List.not_mem_nil
    const := fun x d e => by cases (show (none : Option PyData) = some d from e)
    free := T.free
    builtins := T.builtins
    tab := fun d hd => absurd (show d ∈ ([] : List DefRec) from hd) List.not_mem_nil
    bmain := let ⟨bm, ob, a1, a2, a3, a4, a5, a6⟩ := T.bmain; ⟨bm, ob, a1, a2, M _ _ a3 (fun q => (hl _ q _ a3).elim (fun e => by unfold fixK at e; rw [a6] at e; cases e) (fun ⟨c, e⟩ => by rw [a4] at e; cases e)), a4, a5, a6⟩
    seer := fun e => absurd (show false = true from e) Bool.false_ne_true }
theorem enterKC {w : World} {A : Around} {s : Shared} {R : Result → Shared → Prop} {f : Addr} {st : Stmt} {qual : Str} {dV cd : Value} {args : Args} {binds : List (Str × Value)} {mg mb m cm : Str → Option Value} {mean : ExcName → Option Value}
    (X : (KK w.params).In s.heap) (T : Top topProg l0 mean mg mb s.heap) (S : List Addr) (hS : ∀ a ∈ S, a ≠ 0 ∧ a ∉ asK) (hSl : Weak s.heap S) (x : FnO s.heap f st qual [] dV cd) (hroom : A.depth < recursionLimit)
    (hbind : ∀ doc pm ct, BindsTo s (fnX (fName st) qual (fArgs st) (fBody st) (fScope st) [] dV .none doc pm none cd ct) args binds)
    (hkind : ∀ n, ∀ x ∈ binds, (fScope st).names.lookup x.1 = some .local ∨ ((fScope st).names.lookup x.1 = some .cell ∧ ((cellsFrom n (fScope st).names []).lookup x.1).isSome = true))
    (hL : ∀ L cl, bindL (envX qual (fScope st) L f cd cl).kindOf binds (fun _ => none) = m) (hC : ∀ L cl, bindC (envX qual (fScope st) L f cd cl).kindOf binds (fun _ => none) = cm)
    (h : ∀ base L h₁ big tk, But S s.heap base → base.StaysIn s.heap → (∀ a ∈ S, base.get? a = none) → (KK w.params).In base → Top topProg l0 mean mg mb base → Fr base L h₁ m → News base L h₁ big → Seg base L h₁ big → s.heap.objs.size ≤ L → s.heap.StaysIn h₁ →
      (∀ n c, (cellsFrom (L + 1) (fScope st).names []).lookup n = some c → h₁.IsCell c (cm n) ∧ L < c ∧ base.get? c = none) →
      wpAny (model pw w) (A.deeper (envX qual (fScope st) L f cd (cellsFrom (L + 1) (fScope st).names []))) (execs (fBody st) (envX qual (fScope st) L f cd (cellsFrom (L + 1) (fScope st).names [])))
        (fun fl s' => R (.ok (.ret (match fl with | .ret v => v | _ => .none))) s') (fun _ _ => False) { s with heap := h₁, toks := tk })
    (hco : (fScope st).isCoroutine = false) (hgen : (fScope st).isGenerator = false) (hk : (fScope st).kind = .function) : codeAny (model pw w) A (.call (.ref f) args) R s := by
  obtain ⟨oc, od, sl, doc, pm, ct, ho, hcd⟩ := x
  refine codeAny_call_function hroom ho rfl hco hgen rfl hcd.rec (hbind doc pm ct _ _ _ _ ?_)
  refine wpAny_newFunctionEnv_cells hk (fun x hx => hkind _ x hx) fun env he s' x => ?_
  subst he
  refine ⟨T.nolimit.keeps x.toInCall.keep, codeAny_func ?_⟩
  have M : But S s.heap (hideAll s.heap S) := fun b o e hb => hideAll_get _ e hb
  have nb : ∀ b, s.heap.get? b = none → (hideAll s.heap S).get? b = none := fun b e => by
    cases q : (hideAll s.heap S).get? b with
    | none => rfl
    | some o => have := of_hideAll _ q; rw [e] at this; cases this
  have x2 : InCallC s s.heap.objs.size m (cellsFrom (s.heap.objs.size + 1) (fScope st).names []) cm s' := by
    have := x
    change InCallC s s.heap.objs.size (bindL (envX qual (fScope st) s.heap.objs.size f cd (cellsFrom (s.heap.objs.size + 1) (fScope st).names [])).kindOf binds fun _ => none) (cellsFrom (s.heap.objs.size + 1) (fScope st).names []) (bindC (envX qual (fScope st) s.heap.objs.size f cd (cellsFrom (s.heap.objs.size + 1) (fScope st).names [])).kindOf binds fun _ => none) s' at this
    rw [hL, hC] at this
    exact this
  clear x
  obtain ⟨h₁, tk, rfl⟩ := x2.toInCall.same
  have F : Fr s.heap s.heap.objs.size h₁ m := ⟨x2.toInCall.ns, x2.toInCall.keep, Nat.le_refl _⟩
  obtain ⟨big, F', N', G'⟩ := seg0 S F
  refine wpAny_mono (h _ _ h₁ big tk M (fun b o e => of_hideAll _ e) (fun a ha => hideAll_none _ ha) (K_but X M fun a ha => (hS a ha).2) (top_but2 T M hS hSl) F' N' G' (Nat.le_refl _) x2.toInCall.keep (fun n c hc => ⟨x2.cell n c hc, x2.above n c (mem_of_lookup hc), nb _ (Heap.get?_none_of_le (Nat.le_of_lt (x2.above n c (mem_of_lookup hc))))⟩)) (fun _ _ x => x) fun _ _ x => x.elim

end
end Mine
namespace Mine
noncomputable section
open PySem PySem.W PySem.Calls PyProof.Rows
set_option maxRecDepth 100000
set_option maxHeartbeats 4000000
set_option linter.unusedVariables false
local macro_rules | `(tactic| walk_at "no such stop") => `(tactic| skip)
local macro_rules | `(tactic| walk_at "no such stop") => `(tactic| skip)
local macro_rules | `(tactic| walk_at "no such stop") => `(tactic| skip)
local macro_rules | `(tactic| walk_at "no such stop") => `(tactic| skip)
local macro_rules | `(tactic| walk_at "no such stop") => `(tactic| skip)
local macro_rules | `(tactic| walk_at "no such stop") => `(tactic| skip)

theorem codeHdK {P : Params} {h : Heap} {c T : Addr} {od : Option Addr} {vs : Array Value} {sl : Array (Option Value)} (X : (KK P).In h) (e : (KK P).lookup c = some ⟨.type "code", od, .fields vs, sl⟩)
    (e2 : ∃ file tf flags tg inF text tt, vs[11]? = some (.ref T) ∧ vs.getD 11 .none = .ref T ∧ vs.getD 18 .none = .str file tf ∧ vs.getD 7 .none = .int flags tg ∧ vs.getD 9 .none = .bool inF ∧ vs.getD 10 .none = .int text tt ∧ c ≠ T) : CodeHd h c T :=
  let ⟨file, tf, flags, tg, inF, text, tt, a⟩ := e2; ⟨_, vs, file, tf, flags, tg, inF, text, tt, X _ _ e, rfl, rfl, a⟩
theorem code331 {P : Params} {h : Heap} (X : (KK P).In h) : CodeHd h 331 327 := codeHdK X (od := none) (vs := match (o331 P).data with | .fields v => v | _ => #[]) (sl := #[]) (by kernel_rfl) ⟨_, _, _, _, _, _, _, rfl, rfl, rfl, rfl, rfl, rfl, by decide⟩
theorem fn332 {P : Params} {h : Heap} (X : (KK P).In h) : FnO h 332 (fS 23) "_law_maker" [] .none (.ref 331) := fnK X (doc := .none) (pm := .str ("law_aj5027_01" : Str) 2694) (ct := .none) (oc := .type "function") (an := none) (od := none) (sl := #[]) (od2 := none) (sl2 := #[]) (vs := match (o331 P).data with | .fields v => v | _ => #[]) (t := 2714) (by kernel_rfl) (by kernel_rfl) (by kernel_rfl)
theorem soft327 {h : Heap} {a : Addr} (e : h.get? a = some (tabObj #[])) (h0 : a ≠ 0) (h9 : a ∉ asK) : Soft h [a] := soft1 h0 h9 e rfl
theorem t327 : (327 : Addr) ≠ 0 ∧ (327 : Addr) ∉ asK := ⟨by decide, by decide +kernel⟩
theorem c_maker {w : World} {A : Around} {s : Shared} {mg mb : Str → Option Value} {mean : ExcName → Option Value} {size block : Nat} {t₁ t₂ : Tok} {Q : Value → Shared → Prop}
    (X : (KK w.params).In s.heap) (T : Top topProg l0 mean mg mb s.heap) (hd : A.depth + 0 < recursionLimit) (h327 : s.heap.get? 327 = some (tabObj #[])) (hQ : ∀ c P h' tk, But [327] s.heap h' → s.heap.objs.size ≤ h'.objs.size → ConstO h' c P size block → s.heap.get? P = none → Q (.ref c) { s with heap := h', toks := tk }) :
    wpAny (model pw w) A (call (.ref 332) [.int size t₁, .int block t₂]) Q (fun _ _ => False) s := by
  have hfill : KK w.params = KK w.params ∧ PySem.Challenge.rw_aj5027_01 = PySem.Challenge.rw_aj5027_01 := by
    k_fill
    exact ⟨rfl, rfl⟩
  clear hfill
  have hs := soft327 h327 t327.1 t327.2
  refine wpAny_call ?_
  refine' enterKC (binds := [("size", .int size t₁), ("block", .int block t₂)]) (m := fun _ => none) (cm := fun y => if y = "block" then some (.int block t₂) else if y = "size" then some (.int size t₁) else none) X T [327] (fun a ha => ⟨(hs a ha).1, (hs a ha).2.1⟩) (.of hs.loose) (fn332 X) ?room ?hb ?hkind ?hL ?hC ?_ ?c2 ?c3 ?c4
  case room => omega
  case hb => exact fun _ _ _ => BindsTo.of_eq rfl
  case hkind => first | decide | (intro n; decide) | (intro n x hx; (repeat' (first | (rcases List.mem_cons.mp hx with rfl | hx; first | exact .inl rfl | exact .inr ⟨rfl, rfl⟩) | cases hx)))
  case hL => exact fun _ _ => rfl
  case hC => exact fun _ _ => rfl
  case c2 => rfl
  case c3 => rfl
  case c4 => rfl
  intro base L h₁ big tk M0 B0 S0 KX KT F N G hL K1 CC
  k_steps
  refine' kdv_def ?d0 ?k0 ?a0 ?_
  case d0 => exact rfl
  case k0 => exact rfl
  case a0 => exact rfl
  refine kdv_all1 ?_
  k_steps
  refine kdv_all0 ?_
  dsimp only
  refine kdv_tuple F N rfl fun dT h2 F2 N2 l2 => ?_
  have M2 : But [L] h₁ h2 := Seg.now G F2 (fun p hp => N2 p (.tail _ hp))
  have c1 := CC "size" (L + 1) rfl
  have c2 := CC "block" (L + 1 + 1) rfl
  have c3 := CC "const" (L + 1 + 1 + 1) rfl
  have X2 := KX.keeps F2.keep
  have T2 := KT.keeps F2.keep
  have hP2 : h2.get? 327 = some (tabObj #[]) := M2 _ _ (K1 _ _ h327) (fun q => Nat.lt_irrefl _ (Nat.lt_of_lt_of_le (List.mem_singleton.mp q ▸ Heap.lt_size h327) hL))
  have S2 := soft327 hP2 t327.1 t327.2
  refine tail_any (mg := mg) (mb := mb) (mean := mean) (clos := [("size", L + 1), ("const", L + 1 + 1 + 1), ("block", L + 1 + 1)]) (c := 331) (P := 327) (ps := #[]) rfl rfl T2 rfl (code331 X2) t327.1 t327.2 hP2 trivial (fun cv hc => by cases hc) fun f h3 tk3 doc pm ct cd M3 hf hf2 hfo cr nt => ?_
  rcases nt with ⟨q, _⟩ | ⟨_, c', P', rfl, cP, tP, hge, h4⟩
  · cases q
  have L3 : Loose h2 [327] := S2.loose
  have L2 := loose_L F.ns
  have k1 := cell_but (cell_but c1.1 M2 L2) M3 L3
  have k2 := cell_but (cell_but c2.1 M2 L2) M3 L3
  have hz9 : 327 < s.heap.objs.size := Heap.lt_size h327
  have k3 : h3.IsCell (L + 1 + 1 + 1) none := let ⟨o, e, d⟩ := c3.1; ⟨o, M3 _ _ (M2 _ _ e (fun q => Nat.ne_of_gt c3.2.1 (List.mem_singleton.mp q))) (fun q => Nat.lt_irrefl _ (Nat.lt_of_lt_of_le hz9 (Nat.le_trans hL (Nat.le_of_lt (List.mem_singleton.mp q ▸ c3.2.1))))), d⟩
  have kT : IsTup h3 dT _ := tup_but ⟨_, (N2 _ (.head _)).1, rfl, _, rfl⟩ M3 L3
  refine wpAny_storeName_cell rfl rfl rfl k3 fun h5 hv hs5 => ?_
  have M5 : But [L + 1 + 1 + 1] h3 h5 := fun b o e hb => (hs5.2 b (fun q => hb (List.mem_singleton.mpr q))).trans e
  have L5 : Loose h3 [L + 1 + 1 + 1] := fun a ha o e => by
    obtain ⟨o', e', d'⟩ := k3
    cases List.mem_singleton.mp ha
    rw [e'] at e; cases e; unfold fixK; rw [d']
  have M35 : But [327, L + 1 + 1 + 1] h2 h5 := (M3.mono (fun a ha => by cases List.mem_singleton.mp ha; exact .head _)).trans (M5.mono (fun a ha => by cases List.mem_singleton.mp ha; exact .tail _ (.head _)))
  obtain ⟨big5, F5, N5, G5⟩ := seg F2 M35 (fun a ha => by
    rcases List.mem_cons.mp ha with rfl | ha
    · exact S0 _ (.head _)
    · cases List.mem_singleton.mp ha; exact c3.2.2) (fun q => by
    rcases List.mem_cons.mp q with q | q
    · exact Nat.lt_irrefl _ (Nat.lt_of_lt_of_le (q ▸ Heap.lt_size h327) hL)
    · have := List.mem_singleton.mp q; exact absurd this (Nat.ne_of_lt (by omega)))
  have hge2 : s.heap.objs.size ≤ P' := Nat.le_trans (Nat.le_trans hL (Nat.le_of_lt F2.ns.lt)) hge
  clear F N F2 N2 G
  dsimp only
  refine wpAny_execs_cons (wpAny_Return_some (wpAny_Name (wpAny_loadName_cell rfl rfl rfl hv ?_) (by decide)))
  have zP : s.heap.get? P' = none := Heap.get?_none_of_le hge2
  dsimp only
  have k1' := cell_but k1 M5 L5
  have k2' := cell_but k2 M5 L5
  have kT' := tup_but kT M5 L5
  have hfn : FnO h3 f sConst qConst [("size", L + 1), ("const", L + 1 + 1 + 1), ("block", L + 1 + 1)] (.ref dT) (.ref c') := ⟨_, _, _, doc, pm, ct, hfo, cr⟩
  have hn3 : L + 1 + 1 + 1 ≠ P' := fun q => by
    obtain ⟨o, e, d⟩ := k3
    rw [q, tP] at e; cases e; cases d
  refine hQ f P' h5 _ (fun b o e hb => M35 b o (M2 b o (K1 b o e) ?_) ?_) ?_ ⟨dT, _, L + 1, L + 1 + 1 + 1, L + 1 + 1, t₁, t₂, c', hfn.but M5 L5, kT', codeHd_but cP M5 L5, ?_, k1', hv, k2'⟩ zP
  · exact fun q => Nat.lt_irrefl _ (Nat.lt_of_lt_of_le (List.mem_singleton.mp q ▸ Heap.lt_size e) hL)
  · intro q
    rcases List.mem_cons.mp q with q | q
    · exact hb (List.mem_singleton.mpr q)
    · have e9 := Heap.lt_size e
      rw [List.mem_singleton.mp q] at e9
      exact Nat.lt_irrefl _ (Nat.lt_of_lt_of_le e9 (Nat.le_trans hL (Nat.le_of_lt c3.2.1)))
  · exact szL hL F5
  · have hp9 : 349 < P' := Nat.lt_of_lt_of_le (size_K X) hge2
    exact ⟨fun q => by rw [q] at hp9; exact absurd hp9 (by decide), not_asK hp9, #[], M5 _ _ tP (fun q => hn3 (List.mem_singleton.mp q).symm), trivial, fun q hq cv hc => by cases hc⟩

end
end Mine
namespace Mine
noncomputable section
open PySem PySem.W PySem.Calls PyProof.Rows
set_option maxRecDepth 100000
set_option maxHeartbeats 4000000
set_option linter.unusedVariables false

theorem fn137 {P : Params} {h : Heap} (X : (KK P).In h) : FnO h 137 (cS 13 9) "HashInfo.__init__" [] (.ref 130) (.ref 136) := fnK X (doc := .str (docF (cS 13 9)) 364) (pm := .str ("passlib.crypto.digest" : Str) 318) (ct := .none) (oc := .type "function") (an := none) (od := none) (sl := #[]) (od2 := none) (sl2 := #[]) (vs := match (o136 P).data with | .fields v => v | _ => #[]) (t := 354) (by kernel_rfl) (by kernel_rfl) (by kernel_rfl)
def SegS (base : Heap) (S : List Addr) (hG : Heap) (big : List (Addr × Obj)) : Prop := ∀ b o, hG.get? b = some o → b ∉ S → base.get? b = some o ∨ (b, o) ∈ big
theorem SegS.now {base hG h : Heap} {L : Addr} {S : List Addr} {m : Str → Option Value} {big : List (Addr × Obj)} (G : SegS base S hG big) (F : Fr base L h m) (N : News base L h big) : But S hG h := fun b o e hb =>
  (G b o e hb).elim (F.keep b o) fun hm => (N _ hm).1
theorem segS {base h : Heap} {L : Addr} {m : Str → Option Value} (S : List Addr) (F : Fr base L h m) : ∃ big, News base L h big ∧ (∀ p ∈ big, p.1 ∉ S) ∧ SegS base (L :: S) h big := by
  refine ⟨(rest base L h).filter fun p => decide (p.1 ∉ S), fun p hp => ?_, fun p hp => ?_, fun b o e hb => ?_⟩
  · obtain ⟨a, c, d⟩ := mem_rest.mp (List.mem_filter.mp hp).1; exact ⟨a, c, d⟩
  · simpa using (List.mem_filter.mp hp).2
  · cases q : base.get? b with
    | none => exact .inr (List.mem_filter.mpr ⟨mem_rest.mpr ⟨e, fun q => hb (q ▸ .head _), q⟩, decide_eq_true fun z => hb (.tail _ z)⟩)
    | some x =>
      have := F.keep b x q
      rw [e] at this; cases this; exact .inl rfl
theorem sliceT2 {w : World} {A : Around} {E : Value → Shared → Prop} {s : Shared} {h₀ : Heap} {L t : Addr} {m : Str → Option Value} {news : List (Addr × Obj)} {value slice : Expr} {a b : Value} {u : Tok} {Q : Value → Shared → Prop}
    (F : Fr h₀ L s.heap m) (N : News h₀ L s.heap news) (ht : IsTup h₀ t #[a, b])
    (h : ∀ D h', Fr h₀ L h' m → News h₀ L h' ((D, { cls := .type "tuple", data := .seq #[] }) :: news) → (∀ p ∈ news, p.1 < D) → Q (.ref D) { s with heap := h' })
    (hs : subscripted slice false (.ref t) (.ref s.heap.objs.size) = operate [.ref s.heap.objs.size, .ref t] (getItem (.ref t) (.ref s.heap.objs.size)))
    (hg : ∀ r, letTemporaryGo value (.ref t) r = pure ()) :
    wpAny (model pw w) A (subscriptTail value slice (.ref t) (.ref s.heap.objs.size)) Q E { s with heap := s.heap.push { cls := .type "slice", data := .fields #[.int 2 u, .none, .none] } } :=
  slice_tuple_from (a := 2) F N (IsTup.keeps ht F.keep) (by decide) (by simp) (fun h' F' N' => h _ h' F' N' fun p hp => Nat.lt_succ_of_lt (Heap.lt_size (N p hp).1)) hs hg (by rw [sizeLine_eq]; simp)
/-- the dict of a HashInfo -/
def InfoD (h : Heap) (dx c : Addr) (size block : Nat) : Prop := ∃ es n t₁ t₂, h.get? dx = some (dictOf es n) ∧ getL "const" es = some (some (.ref c)) ∧ getL "digest_size" es = some (some (.int size t₁)) ∧ getL "block_size" es = some (some (.int block t₂)) ∧ getL "_as_tuple" es = some none
theorem InfoD.but {S : List Addr} {h h' : Heap} {dx c : Addr} {size block : Nat} (x : InfoD h dx c size block) (M : But S h h') (hd : dx ∉ S) : InfoD h' dx c size block := let ⟨es, n, t₁, t₂, e, r⟩ := x; ⟨es, n, t₁, t₂, M _ _ e hd, r⟩
theorem get_ne {h : Heap} {a b : Addr} {o o' : Obj} (e : h.get? a = some o) (e' : h.get? b = some o') (hn : o.cls ≠ o'.cls) : a ≠ b := fun q => by rw [q, e'] at e; cases e; exact hn rfl
theorem ge_notK {a : Addr} (h : 349 < a) : a ≠ 0 ∧ a ∉ asK := ⟨fun q => by rw [q] at h; exact absurd h (by decide), not_asK h⟩
local macro_rules | `(tactic| walk_at "getAttr ref") => `(tactic| (
  (with_reducible rename Fr _ _ _ _ => kF); (with_reducible rename News _ _ _ _ => kN); (with_reducible rename SegS _ _ _ _ => kG); (with_reducible rename Loose _ _ => kL); (with_reducible rename HandAt _ _ _ _ _ _ _ _ _ => kO); (with_reducible rename Frag.In _ _ => kX); (with_reducible rename Top _ _ _ _ _ _ => kT);
  have kM := SegS.now kG kF (fun p hp => kN p (by first | exact hp | exact .tail _ hp | exact .tail _ (.tail _ hp) | exact .tail _ (.tail _ (.tail _ hp)) | exact .tail _ (.tail _ (.tail _ (.tail _ hp)))));
  k_dflt (
  (first
  | (with_reducible show wpAny _ _ (getAttr (Value.ref _) (PySem.Str.ofString "digest_size") _) _ _ _); refine' rd_digest_size (Frag.In.keeps kX (Fr.keep kF)) (Top.keeps kT (Fr.keep kF)) ?rm (HandAt.but kO kM kL) ?_
  | (with_reducible show wpAny _ _ (getAttr (Value.ref _) (PySem.Str.ofString "block_size") _) _ _ _); refine' rd_block_size (Frag.In.keeps kX (Fr.keep kF)) (Top.keeps kT (Fr.keep kF)) ?rm (HandAt.but kO kM kL) ?_
  | (with_reducible show wpAny _ _ (getAttr (Value.ref _) (PySem.Str.ofString "digest") _) _ _ _); refine' rd_digest (Frag.In.keeps kX (Fr.keep kF)) (Top.keeps kT (Fr.keep kF)) ?rm (HandAt.but kO kM kL) ?_);
  (case rm => (show _ + 1 + 0 < recursionLimit; omega)));
  intro h9 tk9 st9 sz9; have F9 := Fr.keeps kF st9; have N9 := News.keepsAll kN st9; clear kF kN))
local macro_rules | `(tactic| walk_at "subscriptTail Name Slice ref ref") => `(tactic| (k_dflt (refine' sliceT2 ?F ?N ?t ?_ ?s ?g; (case F => k_asm); (case N => k_asm); (case t => assumption); (case s => with_unfolding_all rfl); (case g => intro _; with_unfolding_all rfl)); intro D' h' F' N' l1; (try k_lt l1); (try k_sweep)))
local macro_rules | `(tactic| k_all) => `(tactic| assumption)
local macro_rules | `(tactic| walk_at "getMethod ref") => `(tactic| (with_reducible refine stop_of ?_))
local macro_rules | `(tactic| walk_at "callWith ref") => `(tactic| (with_reducible refine stop_of ?_))
theorem s_init {w : World} {A : Around} {s : Shared} {mg mb : Str → Option Value} {mean : ExcName → Option Value} {x dx c nt P : Addr} {size block : Nat} {t1 t2 : Tok} {R : Result → Shared → Prop}
    (X : (KK w.params).In s.heap) (T : Top topProg l0 mean mg mb s.heap) (hd : A.depth + 4 < recursionLimit) (hs1 : 1 ≤ size) (hs2 : size ≤ 20) (hlt : dx < x) (hx : s.heap.get? x = some (instObj 154 dx)) (hdx : s.heap.get? dx = some (dictOf [] 0)) (hxk : x ≠ 0 ∧ x ∉ asK) (hdk : dx ≠ 0 ∧ dx ∉ asK) (K : ConstO s.heap c P size block) (hnt : IsTup s.heap nt #[.str "own" t1, .str "own" t2]) (hnt2 : nt ∉ [x, dx, P])
    (hR : ∀ h' tk, But [P, dx] s.heap h' → s.heap.objs.size ≤ h'.objs.size → ConstO h' c P size block → InfoD h' dx c size block → R (.ok (.ret .none)) { s with heap := h', toks := tk }) :
    codeAny (model pw w) A (.call (.ref 137) ⟨[.ref x, .ref c, .ref nt], []⟩) R s := by
  have hfill : KK w.params = KK w.params ∧ PySem.Challenge.rw_aj5027_01 = PySem.Challenge.rw_aj5027_01 := by
    k_fill
    exact ⟨rfl, rfl⟩
  clear hfill
  have hs : ∀ a ∈ [x, dx, P], a ≠ 0 ∧ a ∉ asK := fun a ha => by
    rcases List.mem_cons.mp ha with rfl | ha
    · exact hxk
    · rcases List.mem_cons.mp ha with rfl | ha
      · exact hdk
      · cases List.mem_singleton.mp ha; exact ⟨(K.soft _ (.head _)).1, (K.soft _ (.head _)).2.1⟩
  have hw : Weak s.heap [x, dx, P] := fun a ha o e => by
    rcases List.mem_cons.mp ha with rfl | ha
    · rw [hx] at e; cases e; exact .inr ⟨_, rfl⟩
    · rcases List.mem_cons.mp ha with rfl | ha
      · rw [hdx] at e; cases e; exact .inl rfl
      · exact .inl (K.soft.loose _ ha _ e)
  refine' enterKC (binds := [("self", .ref x), ("const", .ref c), ("names", .ref nt), ("required", .bool true)]) (m := fun y => if y = "required" then some (.bool true) else if y = "names" then some (.ref nt) else if y = "const" then some (.ref c) else if y = "self" then some (.ref x) else none) (cm := fun _ => none) X T [x, dx, P] hs hw (fn137 X) ?room ?hb ?hkind ?hL ?hC ?_ ?c2 ?c3 ?c4
  case room => omega
  case hb => exact fun _ _ _ => binds_K X rfl (by k_is) rfl rfl rfl
  case hkind => first | decide | (intro n; decide) | (intro n x hx; (repeat' (first | (rcases List.mem_cons.mp hx with rfl | hx; first | exact .inl rfl | exact .inr ⟨rfl, rfl⟩) | cases hx)))
  case hL => exact fun _ _ => rfl
  case hC => exact fun _ _ => rfl
  case c2 => rfl
  case c3 => rfl
  case c4 => rfl
  intro base L h₁ big tk M0 B0 S0 KX KT F N G hL K1 CC
  have hxL : x ≠ L := fun q => Nat.lt_irrefl _ (Nat.lt_of_lt_of_le (q ▸ Heap.lt_size hx) hL)
  have hdL : dx ≠ L := fun q => Nat.lt_irrefl _ (Nat.lt_of_lt_of_le (q ▸ Heap.lt_size hdx) hL)
  obtain ⟨big2, N2, hb2, G2⟩ := segS [dx] F
  have hbig : ∀ p ∈ big2, p.1 ≠ dx := fun p hp q => hb2 p hp (List.mem_singleton.mpr q)
  have N : News base L h₁ ((dx, dictOf [] 0) :: (x, instObj 154 dx) :: big2) := fun p hp => by
    rcases List.mem_cons.mp hp with rfl | hp
    · exact ⟨K1 _ _ hdx, hdL, S0 dx (.tail _ (.head _))⟩
    · rcases List.mem_cons.mp hp with rfl | hp
      · exact ⟨K1 _ _ hx, hxL, S0 x (.head _)⟩
      · exact N2 _ hp
  have hlt2 := ltN hlt
  clear N2
  have hntB : IsTup base nt #[.str "own" t1, .str "own" t2] := by
    obtain ⟨o, e, r⟩ := hnt
    exact ⟨o, M0 _ _ e hnt2, r⟩
  clear X T
  have hsz : s.heap.objs.size ≤ h₁.objs.size := Nat.le_trans hL (Nat.le_of_lt F.ns.lt)
  have L1 : Loose h₁ [L, dx] := fun a ha o e => by
    rcases List.mem_cons.mp ha with rfl | ha
    · exact loose_L F.ns _ (.head _) o e
    · cases List.mem_singleton.mp ha; rw [K1 _ _ hdx] at e; cases e; rfl
  k_steps
  rename Fr _ _ _ _ => F5
  rename News _ _ _ _ => N5
  dsimp only at N5
  rename_i D5 h4 lD h5
  have M5 : But [L, dx] h₁ h5 := SegS.now G2 F5 (fun p hp => N5 p (.tail _ (.tail _ (.tail _ hp))))
  have hPs : P < s.heap.objs.size := K.lt
  have hP2 : P ∉ [L, dx] := fun q => by
    rcases List.mem_cons.mp q with q | q
    · exact Nat.lt_irrefl _ (Nat.lt_of_lt_of_le (q ▸ hPs) hL)
    · obtain ⟨_, _, _, _, _, _, _, _, _, _, _, ⟨_, _, ps, e, _⟩, _⟩ := K
      rw [List.mem_singleton.mp q, hdx] at e; cases e
  have K5 := (K.but (But.of_stays K1 (S := [])) Soft.nil.loose (fun q => nomatch q)).but M5 L1 hP2
  have hFc : FnAt c h5 := by
    obtain ⟨_, _, _, _, _, _, _, _, hf, _⟩ := K5
    obtain ⟨oc, od, sl, doc, pm, ct, e, _⟩ := hf
    exact ⟨oc, od, _, sl, e⟩
  refine ⟨?_⟩
  refine callWith_F0 hFc ?_
  refine wpAny_call (c_const (KX.keeps F5.keep) (KT.keeps F5.keep) ?rm K5 (fun _ _ _ _ _ _ _ h => binds0 h) fun y l h6 tk6 M6 z6 K6 H6 hl6 => ?_)
  case rm => show A.depth + 1 + 3 < recursionLimit; omega
  obtain ⟨_, F6, _, _⟩ := seg F5 M6 (fun a ha => by cases List.mem_singleton.mp ha; exact S0 P (.tail _ (.tail _ (.head _)))) (fun q => hP2 (List.mem_singleton.mp q ▸ .head _))
  obtain ⟨big3, N6, hb3, G6⟩ := segS [dx] F6
  have hbig3 : ∀ p ∈ big3, p.1 ≠ dx := fun p hp q => hb3 p hp (List.mem_singleton.mpr q)
  obtain ⟨u, d, cp, t3, t4, ex, en, ey, hU, hD, hC, hl⟩ := H6
  have nP : ∀ {a o}, h5.get? a = some o → o.cls ≠ .none → a ∉ [P] := fun {a o} e hc q => by
    obtain ⟨_, _, _, _, _, _, _, _, _, _, _, ⟨_, _, ps, e', _⟩, _⟩ := K5
    rw [List.mem_singleton.mp q, e'] at e; cases e; exact hc rfl
  have a1 := N5 _ (.head _)
  have a2 := N5 _ (.tail _ (.head _))
  have a3 := N5 _ (.tail _ (.tail _ (.head _)))
  have N7 : News base L h6 (_ :: _ :: _ :: big3) := fun p hp => by
    rcases List.mem_cons.mp hp with rfl | hp
    · exact ⟨M6 _ _ a1.1 (nP a1.1 (by intro q; cases q)), a1.2⟩
    · rcases List.mem_cons.mp hp with rfl | hp
      · exact ⟨M6 _ _ a2.1 (nP a2.1 (by intro q; cases q)), a2.2⟩
      · rcases List.mem_cons.mp hp with rfl | hp
        · exact ⟨M6 _ _ a3.1 (nP a3.1 (by intro q; cases q)), a3.2⟩
        · exact N6 _ hp
  have L6 : Loose h6 [L, dx] := fun a ha o e => by
    rcases List.mem_cons.mp ha with rfl | ha
    · exact loose_L F6.ns _ (.head _) o e
    · cases List.mem_singleton.mp ha; rw [(N7 _ (.tail _ (.head _))).1] at e; cases e; rfl
  have HA : HandAt h6 y u d cp size t3 block t4 := ⟨_, _, ey⟩
  clear G2 L1 F5 N5 N6 G
  have z0 := lawSum_size #[] size
  have hl1 := hl.1
  have hlS : l ∉ [L, dx] := fun q => by
    obtain ⟨_, _, _, o, e, hc, _⟩ := hl
    rcases List.mem_cons.mp q with q | q
    · obtain ⟨o', es, ep, e', hd', _⟩ := F6.ns
      rw [q, e'] at e; cases e
      obtain ⟨_, hc2⟩ := ‹∃ _, _›
      rw [hd'] at hc2; cases hc2
    · rw [List.mem_singleton.mp q, (N7 _ (.tail _ (.head _))).1] at e; cases e; exact absurd (Value.type.inj hc) (by decide)
  k_steps
  rename Fr _ _ _ _ => F8
  rename SegS _ _ _ _ => G6
  rename Frag.In _ _ => KX
  rename Top _ _ _ _ _ _ => KT
  rename Loose _ _ => L6
  rename HandAt _ _ _ _ _ _ _ _ _ => HA
  rename News _ _ _ _ => N8
  rename_i h8
  dsimp only at N8
  have M8 : But [L, dx] h6 h8 := SegS.now G6 F8 (fun p hp => N8 p (.tail _ (.tail _ (.tail _ hp))))
  have X8 := KX.keeps F8.keep
  have T8 := KT.keeps F8.keep
  refine ⟨?_⟩
  refine me_digest X8 T8 ?rm (HA.but M8 L6) fun h9 tk9 st9 sz9 => ?_
  case rm => show A.depth + 1 + 0 < recursionLimit; omega
  dsimp only
  have F9 := F8.keeps st9
  have N9 := N8.keepsAll st9
  have b9 : But [] h8 h9 := But.of_stays st9
  have Ln : ∀ h : Heap, Loose h [] := fun h => Soft.nil.loose
  have hD9 := (hD.but M8 L6).but b9 (Ln _)
  have hl9 := (hl.but M8 hlS).but b9 (fun q => nomatch q)
  have K9 := (K6.but M8 L6 hP2).but b9 (Ln _) (fun q => nomatch q)
  refine callWith_F0 (by obtain ⟨_, _, _, _, ⟨oc, od, sl, doc, pm, ct, e, _⟩, _⟩ := hD9; exact ⟨oc, od, _, sl, e⟩) ?_
  refine c_digest (X8.keeps st9) (T8.keeps st9) ?rm hD9 hl9 (by simp) hs1 hs2 fun t10 h10 tk10 M10 z10 => ?_
  case rm => show A.depth + 1 + 1 < recursionLimit; omega
  have st10 : Heap.StaysIn h9 h10 := fun b o e => M10 b o e (fun q => nomatch q)
  have F10 := F9.keeps st10
  have N10 := N9.keepsAll st10
  clear F8 N8 F9 N9 X8 T8
  k_steps
  · exfalso
    rename (((lawSum #[] size).size : Nat) : Int) ≠ _ => e
    exact e (by rw [z0])
  · rename Fr _ _ _ _ => F11
    rename News _ _ _ _ => N11
    rename SegS _ _ _ _ => G6
    rename Loose _ _ => L6
    have M11 : But [L, dx] h6 _ := SegS.now G6 F11 (fun p hp => N11 p (.tail _ (.tail _ (.tail _ hp))))
    dsimp only
    have ndL : ∀ {b o}, s.heap.get? b = some o → b ≠ dx → b ∉ [L, dx] := fun {b o} e hb q => by
      rcases List.mem_cons.mp q with q | q
      · exact Nat.lt_irrefl _ (Nat.lt_of_lt_of_le (q ▸ Heap.lt_size e) hL)
      · exact hb (List.mem_singleton.mp q)
    refine hR _ _ (fun b o e hb => ?_) (szL hL F11) (K6.but M11 L6 hP2) ⟨_, _, _, _, (N11 _ (.tail _ (.head _))).1, by k_get, by k_get, by k_get, by k_get⟩
    have hbd : b ≠ dx := fun q => hb (q ▸ .tail _ (.head _))
    have hbP : b ∉ [P] := fun q => hb (List.mem_singleton.mp q ▸ .head _)
    exact M11 _ _ (M6 _ _ (M5 _ _ (K1 _ _ e) (ndL e hbd)) hbP) (ndL e hbd)

end
end Mine
namespace Mine
noncomputable section
open PySem PySem.W PySem.Calls PyProof.Rows
set_option maxRecDepth 100000
set_option maxHeartbeats 4000000
set_option linter.unusedVariables false

theorem s_info {w : World} {A : Around} {s : Shared} {mg mb : Str → Option Value} {mean : ExcName → Option Value} {c nt P : Addr} {size block : Nat} {t1 t2 : Tok} {Q : Value → Shared → Prop}
    (X : (KK w.params).In s.heap) (T : Top topProg l0 mean mg mb s.heap) (hd : A.depth + 5 < recursionLimit) (hs1 : 1 ≤ size) (hs2 : size ≤ 20) (K : ConstO s.heap c P size block) (hnt : IsTup s.heap nt #[.str "own" t1, .str "own" t2])
    (hQ : ∀ x dx h' tk, But [P] s.heap h' → s.heap.objs.size ≤ h'.objs.size → h'.get? x = some (instObj 154 dx) → InfoD h' dx c size block → ConstO h' c P size block → s.heap.get? dx = none → s.heap.get? x = none → Q (.ref x) { s with heap := h', toks := tk }) :
    wpAny (model pw w) A (call (.ref 154) [.ref c, .ref nt]) Q (fun _ _ => False) s := by
  have hfill : KK w.params = KK w.params ∧ PySem.Challenge.rw_aj5027_01 = PySem.Challenge.rw_aj5027_01 := by
    k_fill
    exact ⟨rfl, rfl⟩
  clear hfill
  obtain ⟨h, g, d, t, os⟩ := s
  dsimp only at X T K hnt hQ
  have hm : makesIn (KK w.params) 154 = true := by kernel_rfl
  have hi : findIn (KK w.params) (.ref 154) "__init__" = some (some (.ref 137)) := by kernel_rfl
  have hf : typeIn (KK w.params) (.ref 137) = some (.type "function") := by kernel_rfl
  refine wpAny_call (make_core (makes_of X hm) (looks_findIn X hi) (fun self => bind_fn X self hf) (.inl rfl) ?_)
  have st : h.StaysIn ((h.push emptyDict).push (instObj 154 h.objs.size)) := fun b o e => Heap.get?_push_of_some _ (Heap.get?_push_of_some _ e)
  have e1 : ((h.push emptyDict).push (instObj 154 h.objs.size)).get? (h.objs.size + 1) = some (instObj 154 h.objs.size) := by
    rw [show h.objs.size + 1 = (h.push emptyDict).objs.size from (Heap.size_push ..).symm]
    exact Heap.get?_push_size _ rfl
  have e2 : ((h.push emptyDict).push (instObj 154 h.objs.size)).get? h.objs.size = some emptyDict := Heap.get?_push_of_some _ (Heap.get?_push_size _ rfl)
  have hz : 349 < h.objs.size := size_K X
  have b0 : But [] h ((h.push emptyDict).push (instObj 154 h.objs.size)) := But.of_stays st
  have hntz : nt < h.objs.size := by obtain ⟨o, e, _⟩ := hnt; exact Heap.lt_size e
  have hPz := K.lt
  refine s_init (P := P) (size := size) (block := block) (X.keeps st) (T.keeps st) ?rm hs1 hs2 (Nat.lt_succ_self _) e1 e2 (ge_notK (Nat.lt_succ_of_lt hz)) (ge_notK hz) (K.but b0 Soft.nil.loose (fun q => nomatch q)) (tup_but hnt b0 Soft.nil.loose) ?nin fun h' tk M z K' D => ?_
  case rm => show A.depth + 1 + 4 < recursionLimit; omega
  case nin =>
    intro q
    rcases List.mem_cons.mp q with q | q
    · exact Nat.lt_irrefl _ (Nat.lt_trans (Nat.lt_succ_self _) (q ▸ hntz))
    · rcases List.mem_cons.mp q with q | q
      · exact Nat.lt_irrefl _ (q ▸ hntz)
      · obtain ⟨o, e, hc, _⟩ := hnt
        obtain ⟨_, _, _, _, _, _, _, _, _, _, _, ⟨_, _, ps, e', _⟩, _⟩ := K
        rw [List.mem_singleton.mp q, e'] at e; cases e; cases hc
  refine ⟨rfl, ?_⟩
  have nd : ∀ {b o}, h.get? b = some o → b ∉ [P] → b ∉ [P, h.objs.size] := fun {b o} e hb q => by
    rcases List.mem_cons.mp q with q | q
    · exact hb (q ▸ .head _)
    · exact Nat.lt_irrefl _ (List.mem_singleton.mp q ▸ Heap.lt_size e)
  have n1 : h.objs.size + 1 ∉ [P, h.objs.size] := fun q => by
    rcases List.mem_cons.mp q with q | q
    · exact Nat.lt_irrefl _ (Nat.lt_trans (Nat.lt_succ_self _) (q ▸ hPz))
    · exact Nat.succ_ne_self _ (List.mem_singleton.mp q)
  exact hQ _ _ h' tk (fun b o e hb => M _ _ (st _ _ e) (nd e hb)) (Nat.le_trans (by rw [Heap.size_push, Heap.size_push]; omega) z) (M _ _ e1 n1) D K' (Heap.get?_none_of_le (Nat.le_refl _)) (Heap.get?_none_of_le (Nat.le_succ _))

end
end Mine
namespace Mine
noncomputable section
open PySem PySem.W PySem.Calls PyProof.Rows
set_option maxRecDepth 100000
set_option maxHeartbeats 4000000
set_option linter.unusedVariables false
local macro_rules | `(tactic| walk_at "no such stop") => `(tactic| skip)
local macro_rules | `(tactic| walk_at "no such stop") => `(tactic| skip)
local macro_rules | `(tactic| walk_at "no such stop") => `(tactic| skip)
local macro_rules | `(tactic| walk_at "no such stop") => `(tactic| skip)
local macro_rules | `(tactic| walk_at "no such stop") => `(tactic| skip)
local macro_rules | `(tactic| walk_at "no such stop") => `(tactic| skip)

def InstO (h : Heap) (x dx : Addr) : Prop := h.get? x = some (instObj 154 dx)
theorem InstO.but {S : List Addr} {h h' : Heap} {x dx : Addr} (a : InstO h x dx) (M : But S h h') (hs : Loose h S) : InstO h' x dx := M.fix hs a rfl
local macro_rules | `(tactic| walk_at "call builtin:isinstance") => `(tactic| (
  (with_reducible rename Frag.In _ _ => kX); (with_reducible rename Fr _ _ _ _ => kF); (with_reducible rename InstO _ _ _ => kI);
  k_dflt (refine isi_call (Frag.In.keeps kX (Fr.keep kF)) (t := .ref 154) (fun M => (Looks.ld (Fr.keep kF _ _ kI)).andThen .now) (by k_is) (by intro e; cases e) ?_)))
theorem s_lookup {w : World} {A : Around} {s : Shared} {mg mb : Str → Option Value} {mean : ExcName → Option Value} {x dx : Addr} {Q : Value → Shared → Prop}
    (X : (KK w.params).In s.heap) (T : Top topProg l0 mean mg mb s.heap) (hd : A.depth + 0 < recursionLimit) (hI : InstO s.heap x dx) (hQ : ∀ h' tk, s.heap.StaysIn h' → s.heap.objs.size ≤ h'.objs.size → Q (.ref x) { s with heap := h', toks := tk }) :
    wpAny (model pw w) A (call (.ref 121) [.ref x]) Q (fun _ _ => False) s := by
  have hfill : KK w.params = KK w.params ∧ PySem.Challenge.rw_aj5027_01 = PySem.Challenge.rw_aj5027_01 := by
    k_fill
    exact ⟨rfl, rfl⟩
  clear hfill
  refine wpAny_call ?_
  refine' enterK (binds := [("digest", .ref x), ("return_unknown", .bool false), ("required", .bool true)]) X T.nolimit ?ho ?hcd ?room ?hb ?hloc ?_ ?c2 ?c3 ?c4 ?c5
  case ho => k_is
  case hcd => k_is
  case room => omega
  case hb => exact binds_K X rfl (by k_is) rfl rfl rfl
  case hloc => exact locs rfl
  case c2 => rfl
  case c3 => rfl
  case c4 => rfl
  case c5 => decide
  intro L h₁ F N
  have KX := X
  have KT := T
  clear X T
  dsimp only
  k_steps
  rename Fr _ _ _ _ => F9
  exact hQ _ _ F9.keep (szF F9)

end
end Mine
namespace Mine
noncomputable section
open PySem PySem.W PySem.Calls PyProof.Rows
set_option maxRecDepth 100000
set_option maxHeartbeats 4000000
set_option linter.unusedVariables false

theorem readI {w : World} {A : Around} {E : Value → Shared → Prop} {s : Shared} {x dx : Addr} {es : List DictEntry} {n : Nat} {name : Str} {v : Value} {expr : Bool} {Q : Value → Shared → Prop} (X : (KK w.params).In s.heap) (hI : InstO s.heap x dx) (hd : s.heap.get? dx = some (dictOf es n))
    (hg : getL name es = some (some v)) (hc : findIn (KK w.params) (.ref 154) name = some (some .none)) (hh : handedIn v = true) (h : Q v { s with toks := s.toks + 1 }) : wpAny (model pw w) A (getAttr (.ref x) name expr) Q E s := by
  have I : InstAt s.heap x (instObj 154 dx) 154 (some (dictOf es n)) := ⟨hI, rfl, rfl, hd⟩
  refine get_value X I (v := v) (by kernel_rfl) ?_ hh h
  have c1 : clsIn (KK w.params) 154 = some (match (o154 w.params).data with | .cls c => c | _ => default) := by kernel_rfl
  have c2 : specialIn (KK w.params) .none "__get__" = some none := by kernel_rfl
  unfold findObj
  rw [c1, Option.bind_some, hc, Option.bind_some]
  show (specialIn (KK w.params) .none "__get__").bind _ = _
  rw [c2, Option.bind_some]
  show (W.ownOf _ _ _).bind _ = _
  unfold W.ownOf
  rw [if_pos (by rfl)]
  show (lookIn name (dictOf es n)).bind _ = _
  rw [lookIn_dict, hg]
  rfl
def InfI (h : Heap) (x dx : Addr) (c : Addr) (size block : Nat) : Prop := InstO h x dx ∧ InfoD h dx c size block
theorem rdi_const {w : World} {A : Around} {E : Value → Shared → Prop} {s : Shared} {x dx c : Addr} {size block : Nat} {expr : Bool} {Q : Value → Shared → Prop} (X : (KK w.params).In s.heap) (hI : InfI s.heap x dx c size block) (h : Q (.ref c) { s with toks := s.toks + 1 }) : wpAny (model pw w) A (getAttr (.ref x) "const" expr) Q E s :=
  let ⟨a, _, _, _, _, e, g, _⟩ := hI; readI X a e g (by kernel_rfl) rfl h
theorem rdi_digest_size {w : World} {A : Around} {E : Value → Shared → Prop} {s : Shared} {x dx c : Addr} {size block : Nat} {expr : Bool} {Q : Value → Shared → Prop} (X : (KK w.params).In s.heap) (hI : InfI s.heap x dx c size block) (h : ∀ t, Q (.int size t) { s with toks := s.toks + 1 }) : wpAny (model pw w) A (getAttr (.ref x) "digest_size" expr) Q E s :=
  let ⟨a, _, _, _, _, e, _, g, _⟩ := hI; readI X a e g (by kernel_rfl) rfl (h _)
theorem rdi_block_size {w : World} {A : Around} {E : Value → Shared → Prop} {s : Shared} {x dx c : Addr} {size block : Nat} {expr : Bool} {Q : Value → Shared → Prop} (X : (KK w.params).In s.heap) (hI : InfI s.heap x dx c size block) (h : ∀ t, Q (.int block t) { s with toks := s.toks + 1 }) : wpAny (model pw w) A (getAttr (.ref x) "block_size" expr) Q E s :=
  let ⟨a, _, _, _, _, e, _, _, g, _⟩ := hI; readI X a e g (by kernel_rfl) rfl (h _)
theorem InfI.keeps {h h' : Heap} {x dx c : Addr} {size block : Nat} (a : InfI h x dx c size block) (k : h.StaysIn h') : InfI h' x dx c size block := ⟨k _ _ a.1, a.2.but (But.of_stays k (S := [])) (fun q => nomatch q)⟩
local macro_rules | `(tactic| walk_at "getAttr ref") => `(tactic| (
  (with_reducible rename Frag.In _ _ => kX); (with_reducible rename Fr _ _ _ _ => kF); (with_reducible rename InfI _ _ _ _ _ _ => kI);
  (first
  | ((with_reducible show wpAny _ _ (getAttr (Value.ref _) (PySem.Str.ofString "const") _) _ _ _); refine rdi_const (Frag.In.keeps kX (Fr.keep kF)) (InfI.keeps kI (Fr.keep kF)) ?_)
  | ((with_reducible show wpAny _ _ (getAttr (Value.ref _) (PySem.Str.ofString "digest_size") _) _ _ _); refine rdi_digest_size (Frag.In.keeps kX (Fr.keep kF)) (InfI.keeps kI (Fr.keep kF)) ?_; intro _)
  | ((with_reducible show wpAny _ _ (getAttr (Value.ref _) (PySem.Str.ofString "block_size") _) _ _ _); refine rdi_block_size (Frag.In.keeps kX (Fr.keep kF)) (InfI.keeps kI (Fr.keep kF)) ?_; intro _))))
theorem s_tuple {w : World} {A : Around} {s : Shared} {mg mb : Str → Option Value} {mean : ExcName → Option Value} {x dx c : Addr} {size block : Nat} {Q : Value → Shared → Prop}
    (X : (KK w.params).In s.heap) (T : Top topProg l0 mean mg mb s.heap) (hd : A.depth + 0 < recursionLimit) (hI : InfI s.heap x dx c size block) (hQ : ∀ D t1 t2 h' tk, s.heap.StaysIn h' → s.heap.objs.size ≤ h'.objs.size → IsTup h' D #[.ref c, .int size t1, .int block t2] → Q (.ref D) { s with heap := h', toks := tk }) :
    wpAny (model pw w) A (call (.ref 151) [.ref x]) Q (fun _ _ => False) s := by
  have hfill : KK w.params = KK w.params ∧ PySem.Challenge.rw_aj5027_01 = PySem.Challenge.rw_aj5027_01 := by
    k_fill
    exact ⟨rfl, rfl⟩
  clear hfill
  refine wpAny_call ?_
  refine' enterK (binds := [("self", .ref x)]) X T.nolimit ?ho ?hcd ?room ?hb ?hloc ?_ ?c2 ?c3 ?c4 ?c5
  case ho => k_is
  case hcd => k_is
  case room => omega
  case hb => exact BindsTo.of_eq rfl
  case hloc => exact locs rfl
  case c2 => rfl
  case c3 => rfl
  case c4 => rfl
  case c5 => decide
  intro L h₁ F N
  have KX := X
  have KT := T
  clear X T
  dsimp only
  k_steps
  rename Fr _ _ _ _ => F9
  rename News _ _ _ _ => N9
  exact hQ _ _ _ _ _ F9.keep (szF F9) (N9.isTup (.head _))

theorem getTup {w : World} {A : Around} {E : Value → Shared → Prop} {s : Shared} {x dx c : Addr} {size block : Nat} {pl : Sem Bool} {Q : Value × List Value → Shared → Prop} (X : (KK w.params).In s.heap) (hI : InfI s.heap x dx c size block) (h : Q (.ref 151, [.ref x]) s) : wpAny (model pw w) A (getMethod (.ref x) "_as_tuple" pl) Q E s := by
  obtain ⟨a, es, n, t1, t2, e, _, _, _, g⟩ := hI
  have I : InstAt s.heap x (instObj 154 dx) 154 (some (dictOf es n)) := ⟨a, rfl, rfl, e⟩
  refine method_fn X I (f := 151) (by kernel_rfl) (by kernel_rfl) (by kernel_rfl) (by kernel_rfl) ?_ h
  show (lookIn _ _).map _ = _
  rw [lookIn_dict, g]; rfl
local macro_rules | `(tactic| walk_at "getMethod ref") => `(tactic| (
  (with_reducible rename Frag.In _ _ => kX); (with_reducible rename Fr _ _ _ _ => kF); (with_reducible rename InfI _ _ _ _ _ _ => kI);
  refine getTup (Frag.In.keeps kX (Fr.keep kF)) (InfI.keeps kI (Fr.keep kF)) ?_))
local macro_rules | `(tactic| walk_at "call ref") => `(tactic| (
  (with_reducible rename Frag.In _ _ => kX); (with_reducible rename Fr _ _ _ _ => kF); (with_reducible rename News _ _ _ _ => kN); (with_reducible rename InfI _ _ _ _ _ _ => kI); (with_reducible rename Top _ _ _ _ _ _ => kT);
  k_dflt (
  refine' s_tuple (Frag.In.keeps kX (Fr.keep kF)) (Top.keeps kT (Fr.keep kF)) ?rm (InfI.keeps kI (Fr.keep kF)) ?_;
  (case rm => (show _ + 1 + 0 < recursionLimit; omega));
  intro D9 t19 t29 h9 tk9 st9 sz9 I9; have F9 := Fr.keeps kF st9; have N9 := News.keepsAll kN st9; clear kF kN)))

theorem iterT {w : World} {A : Around} {E : Value → Shared → Prop} {s : Shared} {D : Addr} {its : Array Value} {base : Heap} {L : Addr} {m : Str → Option Value} {news : List (Addr × Obj)} {Q : Value → Shared → Prop} (F : Fr base L s.heap m) (N : News base L s.heap news) (ht : IsTup s.heap D its)
    (h : ∀ it h', Fr base L h' m → News base L h' news → s.heap.StaysIn h' → IsTupIter h' it D 0 → s.heap.get? it = none → D ≠ it → Q (.ref it) { s with heap := h' }) : wpAny (model pw w) A (call (.builtin "iter") [.ref D]) Q E s := by
  refine call_function_entry (by decide +kernel) (by decide +kernel) kdk_entry_iter (kdk_args_iter _) ?_
  unfold Builtin.«iter»
  refine wpAny_bind (wpAny_pure ?_)
  refine wpAny_bind (iter_tuple ht (wpAny_pure ⟨_, rfl, ?_⟩))
  have k : s.heap.StaysIn (s.heap.push { cls := .type "tuple_iterator", data := .fields #[.ref D, .int 0 0] }) := fun b o e => Heap.get?_push_of_some _ e
  exact h _ _ (F.keeps k) (N.keepsAll k) k ⟨_, Heap.get?_push_size _ rfl, rfl, rfl⟩ (Heap.get?_none_of_le (Nat.le_refl _)) (by obtain ⟨o, e, _⟩ := ht; exact Nat.ne_of_lt (Heap.lt_size e))
local macro_rules | `(tactic| walk_at "call builtin:iter") => `(tactic| (
  (with_reducible rename Fr _ _ _ _ => kF); (with_reducible rename News _ _ _ _ => kN); (with_reducible rename IsTup _ _ _ => kI);
  k_dflt (refine' iterT kF kN kI ?_); intro it9 h9 F9 N9 st9 I9 n9 ne9; clear kF kN))
theorem s_iter {w : World} {A : Around} {s : Shared} {mg mb : Str → Option Value} {mean : ExcName → Option Value} {x dx c : Addr} {size block : Nat} {Q : Value → Shared → Prop}
    (X : (KK w.params).In s.heap) (T : Top topProg l0 mean mg mb s.heap) (hd : A.depth + 1 < recursionLimit) (hI : InfI s.heap x dx c size block) (hQ : ∀ D it t1 t2 h' tk, s.heap.StaysIn h' → s.heap.objs.size ≤ h'.objs.size → IsTup h' D #[.ref c, .int size t1, .int block t2] → IsTupIter h' it D 0 → s.heap.get? it = none → D ≠ it → Q (.ref it) { s with heap := h', toks := tk }) :
    wpAny (model pw w) A (call (.ref 70) [.ref x]) Q (fun _ _ => False) s := by
  have hfill : KK w.params = KK w.params ∧ PySem.Challenge.rw_aj5027_01 = PySem.Challenge.rw_aj5027_01 := by
    k_fill
    exact ⟨rfl, rfl⟩
  clear hfill
  refine wpAny_call ?_
  refine' enterK (binds := [("self", .ref x)]) X T.nolimit ?ho ?hcd ?room ?hb ?hloc ?_ ?c2 ?c3 ?c4 ?c5
  case ho => k_is
  case hcd => k_is
  case room => omega
  case hb => exact BindsTo.of_eq rfl
  case hloc => exact locs rfl
  case c2 => rfl
  case c3 => rfl
  case c4 => rfl
  case c5 => decide
  intro L h₁ F N
  have KX := X
  have KT := T
  clear X T
  dsimp only
  have k0 := F.keep
  change s.heap.StaysIn h₁ at k0
  k_steps
  rename Fr _ _ _ _ => F9
  rename IsTup _ _ _ => I9
  rename IsTupIter _ _ _ _ => J9
  rename Heap.get? _ _ = none => n9
  rename Heap.StaysIn _ _ => k9
  rename _ ≠ _ => ne9
  refine hQ _ _ _ _ _ _ F9.keep (szF F9) (I9.keeps k9) J9 ?_ ne9
  clear k9
  rename Heap.StaysIn _ _ => k8
  dsimp only at k8 n9
  cases q : s.heap.get? _ with
  | none => rfl
  | some o => rw [k8 _ _ (k0 _ _ q)] at n9; cases n9

theorem unpackI {w : World} {A : Around} {s : Shared} {mg mb m : Str → Option Value} {mean : ExcName → Option Value} {base : Heap} {L : Addr} {news : List (Addr × Obj)} {x dx c : Addr} {size block : Nat} {targets : List (Bool × (Value → Sem Unit))} {Q : Unit → Shared → Prop} (X : (KK w.params).In base) (T : Top topProg l0 mean mg mb base)
    (F : Fr base L s.heap m) (N : News base L s.heap news) (hI : InfI s.heap x dx c size block) (hh : A.handled = none) (hd : A.depth + 1 < recursionLimit) (hn : targets.length = 3) (hstar : targets.findIdx? (·.1) = none)
    (h : ∀ t1 t2 h' tk, Fr base L h' m → News base L h' news → s.heap.StaysIn h' → wpAny (model pw w) A (assignInOrder (targets.map (·.2)) [.ref c, .int size t1, .int block t2]) Q (fun _ _ => False) { s with heap := h', toks := tk }) :
    wpAny (model pw w) A (unpack (.ref x) targets) Q (fun _ _ => False) s := by
  unfold unpack
  rw [hn, hstar]
  refine wpAny_bind (wpAny_holding ?_)
  have X' := X.keeps F.keep
  obtain ⟨a, es, n, t1, t2, e, _⟩ := id hI
  have I : InstAt s.heap x (instObj 154 dx) 154 (some (dictOf es n)) := ⟨a, rfl, rfl, e⟩
  have l1 : Looks (model pw w) s.heap (typeLookup (.ref 154) "__iter__") (some (.ref 70)) := looks_findIn X' (by kernel_rfl)
  unfold unpackItems
  refine wpAny_bind ?_
  unfold notIterableAtAll specialOf
  refine wpAny_bind (wpAny_bind (I.type.here (l1.here ?_)))
  refine wpAny_pure ?_
  simp only [Bool.false_eq_true, if_false]
  refine wpAny_bind (wpAny_holding (owit_iter F X I (f := 70) (by kernel_rfl) (by kernel_rfl) (s_iter X' (T.keeps F.keep) hd hI fun D it t1 t2 h1 tk1 st1 _ hD hit hn0 hne => ?_)))
  unfold OwitIt
  have hT : (⟨h1, s.gens, s.drawn, tk1, s.os⟩ : Shared).TypeIs (.ref it) "tuple_iterator" := hit.typeIs
  refine wpAny_specialOf hT slot_tupleiter_next.lookup ?_
  dsimp only
  refine wpAny_bind (wpAny_holding (draw_tuple hne 3 0 _ _ hit hD (by simp) fun h2 hit2 hs2 => ?_))
  simp only [List.drop_zero, List.take_succ_cons, List.take_zero, List.length_cons, List.length_nil]
  rw [if_neg (by decide)]
  have hD2 := hD.extBut hs2.extBut hne
  refine wpAny_bind (wpAny_holding (next_tuple_end hh hit2 hD2 (by simp) fun h3 he3 => ?_))
  simp only [Option.isSome_none, Bool.false_eq_true, if_false]
  refine wpAny_pure ?_
  have st3 : s.heap.StaysIn h3 := fun b o e => by
    have hb : b ≠ it := fun q => by rw [q, hn0] at e; cases e
    exact he3 b o hb (hs2.extBut b o hb (st1 _ _ e))
  exact h t1 t2 h3 _ (F.keeps st3) (N.keepsAll st3) st3

end
end Mine
namespace Mine
noncomputable section
open PySem PySem.W PySem.Calls PyProof.Rows Builtin
set_option maxRecDepth 100000
set_option maxHeartbeats 4000000
set_option linter.unusedVariables false

theorem tr_slot : Slot "bytes" "translate" "bytes.translate" :=
  .of (owner := "bytes") (n := "translate") (by rw [typeLookup_type, builtinLookup_eq_fast]; kernel_rfl) (by decide +kernel) (by decide +kernel) (by decide +kernel)
    (by first | exact .inl (by decide +kernel) | exact .inr (by decide +kernel)) (by rw [isSubtype_type]; kernel_rfl)
theorem tr_type : typeOf (.builtin "bytes.translate") = pure (.type "method_descriptor") := by show builtinType _ = _; rw [builtinType_eq_fast]; kernel_rfl
theorem tr_entry : entryFor table "bytes.translate" = some Builtin.«bytes.translate» := entryFor_of_tree (by kernel_rfl)
theorem tr_args (a b : Value) : argsOk "bytes.translate" ⟨[a, b], []⟩ := by unfold argsOk; kernel_rfl
theorem tr_method {M : Model} {A : Around} {E : Value → Shared → Prop} {s : Shared} {b : Array UInt8} {t : Tok} {pl : Sem Bool} {Q : Value × List Value → Shared → Prop} (h : Q (.builtin "bytes.translate", [.bytes b t]) s) : wpAny M A (getMethod (.bytes b t) "translate" pl) Q E s := by
  with_reducible exact KBd.method_of (.bytes b t) (typeIs_bytes _ _ _) tr_slot tr_type KBd.noRef h
def trans (b tab : Array UInt8) : Array UInt8 := b.map fun c => tab.getD c.toNat c
theorem tr_call {prog : Program} {w : World} {A : Around} {E : Value → Shared → Prop} {s : Shared} {b tab : Array UInt8} {t u : Tok} {Q : Value → Shared → Prop} (hb : b.size ≤ 1000) (ht : tab.size = 256) (h : ∀ t' k, Q (.bytes (trans b tab) t') { s with toks := k }) :
    wpAny (model prog w) A (call (.builtin "bytes.translate") [.bytes b t, .bytes tab u]) Q E s := by
  refine wpAny_call_entry tr_slot (typeIs_bytes s b t) tr_entry ?_ (tr_args _ _)
  have e1 : ∀ id, Bytes.bytesLike id (.bytes tab u) = pure tab := fun _ => KBd.like_eq
  have e2 : Bytes.payload (.bytes b t) = pure b := rfl
  have hout : (b.filter (!(#[] : Array UInt8).contains ·)).map (fun c => tab.getD c.toNat c) = trans b tab := by unfold trans; congr 1; simp
  unfold Builtin.«bytes.translate» Bytes.translateM
  show wpAny _ _ (Bytes.bytesLike _ (Value.bytes tab u) >>= _) _ _ s
  refine wpAny_bind (wpAny_of_eq (e1 _) ?_)
  refine wpAny_ite_false (by rw [ht]; rfl) ?_
  refine wpAny_bind (wpAny_pure ?_)
  refine wpAny_bind (wpAny_pure ?_)
  refine wpAny_bind (wpAny_of_eq e2 ?_)
  dsimp only
  rw [hout]
  refine wpAny_ite ?_
  split
  · rename_i hq
    refine wpAny_bind (wpAny_rule (wpAny_bind ?_))
    have e3 : Bytes.Kind.bytes.same (.bytes b t) = pure (.bytes b t) := by first | rfl | kernel_rfl
    refine wpAny_of_eq e3 (wpAny_pure ⟨_, rfl, ?_⟩)
    have := h t s.toks
    rw [beq_iff_eq.mp hq] at this
    exact this
  · refine wpAny_bind (wpAny_mkBytes (wpAny_pure ⟨_, rfl, h _ _⟩) ?_)
    show (trans b tab).size ≤ sizeLine
    unfold trans
    rw [Array.size_map, sizeLine_eq]; omega
/-- the octets, each xor c, by the program's table -/
def xorA (b : Array UInt8) (c : Nat) : Array UInt8 := trans b (xorTab c 256)
theorem xorA_size (b : Array UInt8) (c : Nat) : (xorA b c).size = b.size := by unfold xorA trans; simp
theorem xorL_length (k : Nat) : ∀ n i, (xorL k i n).length = n
  | 0, i => rfl
  | n + 1, i => by show (_ :: xorL k (i + 1) n).length = n + 1; rw [List.length_cons, xorL_length k n]
theorem tr_x {prog : Program} {w : World} {A : Around} {E : Value → Shared → Prop} {s : Shared} {b tab : Array UInt8} {t u : Tok} {Q : Value → Shared → Prop} (c : Nat) (hb : b.size ≤ 1000) (e : tab = xorTab c 256) (h : ∀ t' k, Q (.bytes (xorA b c) t') { s with toks := k }) :
    wpAny (model prog w) A (call (.builtin "bytes.translate") [.bytes b t, .bytes tab u]) Q E s := by
  subst e
  exact tr_call hb (by show (xorL c 0 256).length = 256; exact xorL_length ..) h

end
end Mine
namespace Mine
noncomputable section
open PySem PySem.W PySem.Calls PyProof.Rows Builtin Builtin.ObjectAttr
set_option maxRecDepth 100000
set_option maxHeartbeats 4000000
set_option linter.unusedVariables false

theorem sf_fn : StoreFacts "function" [.type "function", .type "object"] "object.__setattr__" "object" where
  mro := by kernel_rfl
  slot := .of (owner := "object") (n := "__setattr__") (by rw [typeLookup_type, builtinLookup_eq_fast]; kernel_rfl) (by decide +kernel) (by decide +kernel) (by decide +kernel)
    (by first | exact .inl (by decide +kernel) | exact .inr (by decide +kernel)) (by rw [isSubtype_type]; kernel_rfl)
  entry := PySem.F.entry_object_sa
  kind := by decide +kernel
  split := by decide +kernel
  hasOwner := by decide +kernel
  args := fun a b c => by unfold argsOk; kernel_rfl
  passes := fun self => by kernel_rfl
theorem di_none : typeLookup (.type "function") "digest_info" = pure none := by rw [typeLookup_type, builtinLookup_eq_fast]; kernel_rfl
theorem sub_fn_obj : isSubtype (.type "function") (.type "object") = pure true := by rw [isSubtype_type]; kernel_rfl
theorem setFn {w : World} {A : Around} {E : Value → Shared → Prop} {h : Heap} {g : Array GenState} {d : Drawn} {t : Nat} {os : OsState} {f : Addr} {fd : FuncData} {sl : Array (Option Value)} {v : Value} {Q : Unit → Shared → Prop}
    (hx : h.get? f = some ⟨.type "function", none, .func fd, sl⟩)
    (hq : ∀ h' tk', h'.get? f = some ⟨.type "function", some h.objs.size, .func fd, sl⟩ → h'.Ns h.objs.size (fun y => if y = "digest_info" then some v else none) → (∀ b o, b ≠ f → h.get? b = some o → h'.get? b = some o) → h.objs.size < h'.objs.size → Q () ⟨h', g, d, tk', os⟩) :
    wpAny (model pw w) A (setAttr (.ref f) "digest_info" v) Q E ⟨h, g, d, t, os⟩ := by
  have hT : ∀ tk', (⟨h, g, d, tk', os⟩ : Shared).TypeIs (.ref f) "function" := fun _ => ⟨_, hx, rfl⟩
  have l0 : Looks (model pw w) h (typeOf (.ref f)) (.type "function") := (Looks.ld hx).andThen .now
  have SF := sf_fn
  have l2 : Looks (model pw w) h (isInstance (.ref f) (.type "object")) true := l0.andThen (Looks.of_pure sub_fn_obj)
  unfold setAttr callSpecial? specialOf
  refine wpAny_bind (wpAny_mkText (wpAny_bind (wpAny_bind (wpAny_bind (l0.here ((Looks.of_pure SF.slot.lookup).here (wpAny_holding ?_)))))))
  rw [SF.slot.bind]
  refine wpAny_bind (wpAny_pure ?_)
  dsimp only
  refine wpAny_bind (wpAny_call (codeAny_call_builtin SF.slot.plain SF.entry ?_))
  refine check_slot (i := "object.__setattr__") (owner := "object") (n := "__setattr__") SF.kind SF.split l2 (SF.args _ _ _) ?_
  show wpAny _ _ («object.__setattr__» ⟨[.ref f, .str "digest_info" t, v], []⟩) _ _ _
  rw [osa_eq, refuse_eq]
  refine wpAny_bind (wpAny_bind (l0.here (wpAny_bind (wpAny_of_eq SF.mro ?_))))
  refine wpAny_of_eq (SF.passes (.ref f)) ?_
  refine wpAny_bind (l0.here (wpAny_bind (wpAny_of_eq di_none (wpAny_bind (wpAny_pure ?_)))))
  dsimp only
  have e1 : ownStreamTells (.ref f) (.type "function") = pure () := by kernel_rfl
  unfold storeInOwnDict
  refine wpAny_bind (wpAny_of_eq e1 ?_)
  show wpAny _ _ (ownDictForStores (.ref f) >>= _) _ _ _
  have hx₁ : (h.push { cls := .type "dict", data := .dict #[] }).get? f = some ⟨.type "function", none, .func fd, sl⟩ := Heap.get?_push_of_some _ hx
  have hxs : f ≠ h.objs.size := Nat.ne_of_lt (Heap.lt_size hx)
  have e2 : ∀ a b : Addr, dictMade (.type "function") a b = pure (some b) := fun a b => by kernel_rfl
  have hi : ∀ Q', (Q' (some h.objs.size) ⟨(h.push { cls := .type "dict", data := .dict #[] }).update f fun o => { o with dict := some h.objs.size }, g, d, t + 1, os⟩) → wpAny (model pw w) A.in1 (ownDictForStores (.ref f)) Q' (fun e s' => match (Except.error e : Except Value Flow) with | .ok (.ret v) => wpAny (model pw w) A (pure (some v)) (fun a s' => wpAny (model pw w) A (match a with | some _ => pure PUnit.unit | _ => unsupported "internal:no-__setattr__") Q E s') E s' | .ok _ => False | .error e => E e s') ⟨h, g, d, t + 1, os⟩ := fun Q' hq' => by
    show wpAny _ _ (instanceDict f true) _ _ _
    unfold instanceDict
    refine wpAny_bind (wpAny_loadPart hx ?_)
    dsimp only
    show wpAny _ _ (alloc _ >>= _) _ _ _
    refine wpAny_bind (wpAny_alloc (wpAny_bind (wpAny_update hx₁ ?_)))
    exact wpAny_of_eq (e2 _ _) hq'
  refine wpAny_bind (hi _ ?_)
  have hgd : ((h.push { cls := .type "dict", data := .dict #[] }).update f fun o => { o with dict := some h.objs.size }).get? h.objs.size = some { cls := .type "dict", data := .dict #[] } :=
    (Heap.get?_update_ne _ _ _ _ hxs.symm).trans (Heap.get?_push_at rfl rfl)
  have hnd : ((h.push { cls := .type "dict", data := .dict #[] }).update f fun o => { o with dict := some h.objs.size }).Ns h.objs.size (fun _ => none) :=
    ⟨_, #[], _, hgd, rfl, fun e he => absurd he (by simp), fun _ => rfl⟩
  show wpAny _ _ (storeInDict h.objs.size (.str "digest_info" t) "digest_info" v) _ _ _
  unfold storeInDict newKeyGuard
  refine wpAny_bind (wpAny_pure (wpAny_bind (wpAny_nsSet1 (Heap.Ns1.of_empty hnd) fun h' hn' hs => ?_)))
  obtain ⟨oD, esD, epD, hoD, hdD, hcD⟩ := hn'.count (Within.cons "digest_info" v Within.nil)
  refine wpAny_bind (wpAny_lookBehind hoD (by rw [hdD]; exact pastItsLine_dict (Nat.le_trans hcD (by rw [List.length_cons, List.length_nil, sizeLine_eq]; omega))) ?_)
  have hx' : h'.get? f = some ⟨.type "function", some h.objs.size, .func fd, sl⟩ := (hs.2 f hxs).trans (Heap.get?_update_self _ hx₁ rfl)
  refine wpAny_pure (wpAny_pure (wpAny_pure (hq h' _ hx' ?_ (fun b o hb e => ?_) ?_)))
  · exact hn'.ns
  · exact (hs.2 b (Nat.ne_of_lt (Heap.lt_size e))).trans ((Heap.get?_update_ne _ _ _ _ hb).trans (Heap.get?_push_of_some _ e))
  · exact Heap.lt_size hoD

end
end Mine
namespace Mine
noncomputable section
open PySem PySem.W PySem.Calls PyProof.Rows Builtin Builtin.ObjectAttr
set_option maxRecDepth 100000
set_option maxHeartbeats 4000000
set_option linter.unusedVariables false

theorem ga_fn : Slot "function" "__getattribute__" "object.__getattribute__" :=
  .of (owner := "object") (n := "__getattribute__") (by rw [typeLookup_type, builtinLookup_eq_fast]; kernel_rfl) (by decide +kernel) (by decide +kernel) (by decide +kernel)
    (by first | exact .inl (by decide +kernel) | exact .inr (by decide +kernel)) (by rw [isSubtype_type]; kernel_rfl)
theorem oga_kind : builtinKind "object.__getattribute__" = some .slot := by decide +kernel
theorem oga_split : splitId "object.__getattribute__" = some ("object", "__getattribute__") := by decide +kernel
theorem getFn {w : World} {A : Around} {E : Value → Shared → Prop} {s : Shared} {f fx : Addr} {fd : FuncData} {sl : Array (Option Value)} {v : Value} {m : Str → Option Value} {expr : Bool} {Q : Value → Shared → Prop}
    (hx : s.heap.get? f = some ⟨.type "function", some fx, .func fd, sl⟩) (hn : s.heap.Ns fx m) (hv : m "digest_info" = some v) (hh : handedIn v = true) (hq : Q v { s with toks := s.toks + 1 }) :
    wpAny (model pw w) A (getAttr (.ref f) "digest_info" expr) Q E s := by
  obtain ⟨h, g, d, t, os⟩ := s
  have l0 : Looks (model pw w) h (typeOf (.ref f)) (.type "function") := (Looks.ld hx).andThen .now
  have l2 : Looks (model pw w) h (isInstance (.ref f) (.type "object")) true := l0.andThen (Looks.of_pure sub_fn_obj)
  have own : Looks (model pw w) h (inOwnDict "digest_info" (.ref f)) (some v) := by
    intro A Q E s k q
    refine wpAny_bind (wpAny_bind (wpAny_loadPart (k _ _ hx) ?_))
    show wpAny _ _ (instanceDict f false) _ _ _
    unfold instanceDict
    refine wpAny_bind (wpAny_loadPart (k _ _ hx) (wpAny_pure ?_))
    have := wpAny_nsGet (M := model pw w) (A := A) (E := E) (name := "digest_info") (hn.keeps k) (Q := Q) (by rw [hv]; exact q)
    exact this
  have lf : Looks (model pw w) h (find (.ref f) (.type "function") "digest_info") (.value v) :=
    (Looks.of_pure di_none).andThen ((show Looks (model pw w) h (getOf none) none from .now).andThen ((show Looks (model pw w) h (dataDescriptor? none none) none from .now).andThen (own.andThen (Looks.tag .now))))
  unfold getAttr getAttrBy
  refine wpAny_bind (wpAny_mkText (wpAny_holding (wpAny_bind (l0.here (wpAny_bind ((Looks.of_pure ga_fn.lookup).here ?_))))))
  dsimp only
  rw [show (onTheHeap (Value.type "function") && Value.builtin "object.__getattribute__" == Value.builtin "object.__getattribute__") = false from rfl, if_neg (by decide)]
  show wpAny _ _ (getAttrByItsOwn _ _ _ _ _ _) _ _ _
  unfold getAttrByItsOwn hookBefore
  refine wpAny_bind (wpAny_ite_false (by rfl) (wpAny_pure (wpAny_bind (wpAny_attempt (wpAny_holding ?_)))))
  unfold callGetattribute
  rw [show (expr && onTheHeap (Value.builtin "object.__getattribute__")) = false from Bool.and_false _, if_neg (by decide)]
  unfold boundAndCalled
  rw [ga_fn.bind]
  refine wpAny_bind (wpAny_pure ?_)
  show wpAny _ _ (call (.builtin "object.__getattribute__") [.ref f, .str "digest_info" t]) _ _ _
  refine wpAny_call (codeAny_call_builtin ga_fn.plain PySem.F.entry_object_getattribute ?_)
  refine check_slot (i := "object.__getattribute__") (owner := "object") (n := "__getattribute__") oga_kind oga_split l2 (PySem.F.args_object_getattribute_2 _ _) ?_
  unfold Builtin.«object.__getattribute__»
  refine wpAny_bind (wpAny_pure (wpAny_bind (wpAny_pure (wpAny_bind (l0.here (wpAny_bind (lf.here ?_)))))))
  refine wpAny_pure ?_
  show wpAny _ _ (handedOut v) _ _ _
  rw [handedOut_of hh]
  exact wpAny_pure hq

end
end Mine
namespace Mine
noncomputable section
open PySem PySem.W PySem.Calls PyProof.Rows
set_option maxRecDepth 100000
set_option maxHeartbeats 4000000
set_option linter.unusedVariables false

/-- a new def object, bare -/
def NewFn (h : Heap) (f : Addr) (st : Stmt) (qual : Str) (cl : List (Str × Addr)) (c : Addr) : Prop := ∃ doc pm ct, h.get? f = some ⟨.type "function", none, .func (fnX (fName st) qual (fArgs st) (fBody st) (fScope st) cl .none .none doc pm none (.ref c) ct), #[]⟩ ∧ CodeR h (.ref c) qual
theorem NewFn.fn {h : Heap} {f c : Addr} {st : Stmt} {qual : Str} {cl : List (Str × Addr)} (x : NewFn h f st qual cl c) : FnO h f st qual cl .none (.ref c) := let ⟨doc, pm, ct, e, r⟩ := x; ⟨_, _, _, doc, pm, ct, e, r⟩
/-- a def statement whose code is not yet in its maker's table -/
theorem def_N {w : World} {A : Around} {s : Shared} {Q : Flow → Shared → Prop} {base : Heap} {L a c P : Addr} {m mg mb : Str → Option Value} {mean : ExcName → Option Value} {cn qual : Str} {cs : Scope} {ccd : Value} {cl clos : List (Str × Addr)} {ps : Array Value} (st : Stmt) (nm : Str) (hnm : fName st = nm)
    (F : Fr base L s.heap m) (T : Top topProg l0 mean mg mb base) (C : CodeHd s.heap c P) (hcd : ccd = .ref c) (hPb : base.get? P = none) (h0 : P ≠ 0) (h9 : P ∉ asK) (hg : s.heap.get? P = some (tabObj ps)) (ht : TriplesOk ps.toList) (hnf : codeAmong (fPos st) ps.toList = none) (hPL : P ≠ L)
    (hst : st = .FunctionDef (fName st) (fArgs st) (fBody st) [] none [] (fScope st) none (fName st) (fPos st)) (hd0 : (fArgs st).defaults = []) (hk0 : (fArgs st).kw_defaults = []) (ha : annTrees (fArgs st) none (envX cn cs L a ccd cl) = [])
    (hqn : qualnameIn (envX cn cs L a ccd cl) (fName st) (fName st) = qual) (hcl : closureFor (fScope st) (envX cn cs L a ccd cl) = pure clos)
    (h : ∀ f h' tk big c' P', Fr base L h' m → News base L h' big → Seg base L h' big → But [P] s.heap h' → NewFn h' f st qual clos c' → CodeHd h' c' P' → h'.get? P' = some (tabObj #[]) → s.heap.objs.size ≤ P' → h'.get? P = some (tabObj (ps ++ #[rawInt (fPos st).line, rawInt (fPos st).col, .ref c'])) → s.heap.objs.size ≤ f → s.heap.objs.size ≤ h'.objs.size →
      wpAny (model pw w) A (storeName (envX cn cs L a ccd cl) nm (.ref f)) (fun _ s'' => Q .next s'') (fun _ _ => False) { s with heap := h', toks := tk }) :
    wpAny (model pw w) A (exec st (envX cn cs L a ccd cl)) Q (fun _ _ => False) s := by
  subst hnm
  have hT := T.keeps F.keep
  rw [hst]
  refine nestDef_K hd0 hk0 ha ?_
  rw [hqn, makeFunction_eq]
  simp only [List.zip_nil_right, List.filterMap_nil, List.isEmpty_nil, if_true, pure_bind]
  refine tail_any hcl rfl hT hcd C h0 h9 hg ht (fun cv hc => by rw [hnf] at hc; cases hc) fun f h' tk doc pm ct cd M hf hf2 hfo cr nt => ?_
  obtain ⟨big, F', N', G'⟩ := seg F M (fun a ha => by cases List.mem_singleton.mp ha; exact hPb) (fun q => hPL (List.mem_singleton.mp q).symm)
  rcases nt with ⟨q, _⟩ | ⟨_, c', P', rfl, cP, tP, hge, h4⟩
  · rw [hnf] at q; cases q
  · exact h f h' tk big c' P' F' N' G' M ⟨doc, pm, ct, hfo, cr⟩ cP tP hge h4 hf (Nat.le_of_lt (Nat.lt_of_le_of_lt hf hf2))
/-- a def that bears its digest_info -/
def AttrO (h : Heap) (f fx x : Addr) : Prop := ∃ fd sl m, h.get? f = some ⟨.type "function", some fx, .func fd, sl⟩ ∧ h.Ns fx m ∧ m "digest_info" = some (.ref x)
theorem AttrO.but {S : List Addr} {h h' : Heap} {f fx x : Addr} (y : AttrO h f fx x) (M : But S h h') (hs : Loose h S) (hf : fx ∉ S) : AttrO h' f fx x := let ⟨fd, sl, m, a, b, c⟩ := y; ⟨fd, sl, m, M.fix hs a rfl, ns_but M hf b, c⟩
/-- what a cell of compile_hmac keeps: the copy of a hash over b -/
def CopyC (h : Heap) (k c l : Addr) (b : Array UInt8) : Prop := ∃ cp, h.IsCell k (some (.ref cp)) ∧ CopyO h cp l c ∧ LstO h l b
theorem CopyC.but {S : List Addr} {h h' : Heap} {k c l : Addr} {b : Array UInt8} (y : CopyC h k c l b) (M : But S h h') (hs : Loose h S) (hl : l ∉ S) : CopyC h' k c l b := let ⟨cp, a, d, e⟩ := y; ⟨cp, cell_but a M hs, d.but M hs, e.but M hl⟩
theorem get_lt {h : Heap} {a : Addr} {o : Obj} (e : h.get? a = some o) : a < h.objs.size := Heap.lt_size e
theorem codeR_cls {h h' : Heap} {cd : Value} {q : Str} (x : CodeR h cd q) (k : ∀ b o, h.get? b = some o → o.cls ≠ .type "function" → h'.get? b = some o) : CodeR h' cd q := let ⟨c, o, vs, t, a, b, e, r⟩ := x; ⟨c, o, vs, t, a, k _ _ b (by rw [e]; decide), e, r⟩
theorem codeHd_cls {h h' : Heap} {c P : Addr} (x : CodeHd h c P) (k : ∀ b o, h.get? b = some o → o.cls ≠ .type "function" → h'.get? b = some o) : CodeHd h' c P := let ⟨o, vs, file, tf, flags, tg, inF, text, tt, e, hc, r⟩ := x; ⟨o, vs, file, tf, flags, tg, inF, text, tt, k _ _ e (by rw [hc]; decide), hc, r⟩
theorem code187 {P : Params} {h : Heap} (X : (KK P).In h) : CodeHd h 187 183 := codeHdK X (od := none) (vs := match (o187 P).data with | .fields v => v | _ => #[]) (sl := #[]) (by kernel_rfl) ⟨_, _, _, _, _, _, _, rfl, rfl, rfl, rfl, rfl, rfl, by decide⟩
theorem t183k : (183 : Addr) ≠ 0 ∧ (183 : Addr) ∉ asK := ⟨by decide, by decide +kernel⟩
def pHm : Stmt := stAt (match stAt (fBody (fS 16)) 10 with | .If _ _ e _ => e | _ => []) 0
def mHm : Stmt := stAt (match stAt (fBody (fS 16)) 10 with | .If _ b _ _ => b | _ => []) 0
def qHm : Str := ("compile_hmac" : Str) ++ ".<locals>." ++ "hmac"
def sFin : Stmt := stAt (fBody mHm) 2
def qFin : Str := qHm ++ ".<locals>." ++ "finalize"

end
end Mine
namespace Mine
noncomputable section
open PySem PySem.W PySem.Calls PyProof.Rows
set_option maxRecDepth 100000
set_option maxHeartbeats 4000000
set_option linter.unusedVariables false
local macro_rules | `(tactic| walk_at "no such stop") => `(tactic| skip)
local macro_rules | `(tactic| walk_at "no such stop") => `(tactic| skip)
local macro_rules | `(tactic| walk_at "no such stop") => `(tactic| skip)
local macro_rules | `(tactic| walk_at "no such stop") => `(tactic| skip)
local macro_rules | `(tactic| walk_at "no such stop") => `(tactic| skip)
theorem nameM {M : Model} {A : Around} {E : Value → Shared → Prop} {s : Shared} {env : Env} {base : Heap} {m : Str → Option Value} {x : Str} {pos : Pos} {v : Value} {Q : Value → Shared → Prop} (F : Fr base env.locals s.heap m) (hv : m x = some v) (h : Q v s)
    (hk : env.scope.kind = .function) (hl : env.kindOf x = some .local) (hd : (x == ("__debug__" : Str)) = false) : wpAny M A (eval (.Name x pos) env) Q E s := wpAny_Name (wpAny_loadName_local hk hl F.ns hv h) hd
local macro_rules | `(tactic| walk_at "eval Name") => `(tactic| (k_dflt (refine' nameM ?F ?v ?_ ?a ?b ?c; (case F => k_asm); (case v => first | with_reducible assumption | rfl | assumption); (case a => rfl); (case b => rfl); (case c => decide))))
local macro_rules | `(tactic| walk_at "FnAt") => `(tactic| assumption)
local macro_rules | `(tactic| walk_at "callWith ref") => `(tactic| (k_dflt (refine callWith_F (by assumption) ?_)))
local macro_rules | `(tactic| walk_at "getMethod bytes") => `(tactic| (k_dflt (refine tr_method ?_)))
local macro_rules | `(tactic| walk_at "call builtin:bytes.translate") => `(tactic| (k_dflt (first | (refine' tr_x 54 ?sz ?tb ?_; (case sz => assumption); (case tb => decide +kernel)) | (refine' tr_x 92 ?sz ?tb ?_; (case sz => assumption); (case tb => decide +kernel))); intro _ _))
def valOf : Stmt → Expr | .Assign _ e _ => e | _ => .Constant .none 0 ⟨0, 0, 0, 0⟩
theorem size_map {α β : Type} (f : α → β) (a : Array α) : (a.map f).size = a.size := by simp
theorem x_inner {w : World} {A : Around} {s : Shared} {mg mb m : Str → Option Value} {mean : ExcName → Option Value} {base : Heap} {L : Addr} {big : List (Addr × Obj)} {cl : List (Str × Addr)}
    (KX : (KK w.params).In base) (KT : Top topProg l0 mean mg mb base) (F : Fr base L s.heap m) (N : News base L s.heap big) (G : Seg base L s.heap big) {c P : Addr} {size block : Nat} {kk : Array UInt8} {tk0 : Tok} {Q : Value → Shared → Prop} (hd : A.depth + 5 < recursionLimit) (hm1 : m "const" = some (.ref c)) (hm2 : m "key" = some (.bytes kk tk0)) (hkk : kk.size ≤ 1000)
    (K : ConstO s.heap c P size block) (hPb : base.get? P = none) (hPL : P ≠ L)
    (hQ : ∀ cp l h' tk big', Fr base L h' m → News base L h' big' → Seg base L h' big' → But [P] s.heap h' → s.heap.objs.size ≤ h'.objs.size → ConstO h' c P size block → CopyO h' cp l c → LstO h' l (xorA kk 54) → s.heap.get? l = none → Q (.ref cp) { s with heap := h', toks := tk })
    : wpAny (model pw w) (A.deeper (envX "compile_hmac" (fScope (fS 16)) L 188 (.ref 187) cl)) (eval (valOf (stAt (fBody (fS 16)) 8)) (envX "compile_hmac" (fScope (fS 16)) L 188 (.ref 187) cl)) Q (fun _ _ => False) s := by
  have hfill : KK w.params = KK w.params ∧ PySem.Challenge.rw_aj5027_01 = PySem.Challenge.rw_aj5027_01 := by
    k_fill
    exact ⟨rfl, rfl⟩
  clear hfill
  show wpAny _ _ (eval (.Attribute _ _ _) _) _ _ _
  have hFc : FnAt c s.heap := by
    obtain ⟨_, _, _, _, _, _, _, _, ⟨oc, od, sl, doc, pm, ct, e, _⟩, _⟩ := K
    exact ⟨oc, od, _, sl, e⟩
  k_steps
  rename Fr _ _ _ _ => F
  refine wpAny_call (c_const (KX.keeps F.keep) (KT.keeps F.keep) ?rm K (fun _ _ _ _ _ _ _ h => binds1 h) fun y l h1 tk1 M1 z1 K1 H1 hl1 => ?_)
  case rm => show A.depth + 1 + 3 < recursionLimit; omega
  obtain ⟨_, F1, N1, G1⟩ := seg F M1 (fun a ha => by cases List.mem_singleton.mp ha; exact hPb) (fun q => hPL (List.mem_singleton.mp q).symm)
  obtain ⟨u, d, cp, t3, t4, ex, en, ey, hU, hD, hC, hl⟩ := H1
  have b0 : ∀ {h h' : Heap}, h.StaysIn h' → But [] h h' := fun k => But.of_stays k
  have Ln : ∀ h : Heap, Loose h [] := fun h => Soft.nil.loose
  refine rd_copy (KX.keeps F1.keep) (KT.keeps F1.keep) ?rm ⟨_, _, ey⟩ fun h2 tk2 st2 sz2 => ?_
  case rm => show A.depth + 1 + 0 < recursionLimit; omega
  obtain ⟨big2, F2, N2, G2⟩ := seg F1 (b0 st2) (fun a ha => nomatch ha) (fun q => nomatch q)
  exact hQ cp l h2 tk2 big2 F2 N2 G2 (fun b o e hb => st2 _ _ (M1 b o e hb)) (Nat.le_trans z1 sz2) (K1.but (b0 st2) (Ln _) (fun q => nomatch q)) (hC.but (b0 st2) (Ln _)) (hl.but (b0 st2) (fun q => nomatch q)) hl1
theorem x_outer {w : World} {A : Around} {s : Shared} {mg mb m : Str → Option Value} {mean : ExcName → Option Value} {base : Heap} {L : Addr} {big : List (Addr × Obj)} {cl : List (Str × Addr)}
    (KX : (KK w.params).In base) (KT : Top topProg l0 mean mg mb base) (F : Fr base L s.heap m) (N : News base L s.heap big) (G : Seg base L s.heap big) {c P : Addr} {size block : Nat} {kk : Array UInt8} {tk0 : Tok} {Q : Value → Shared → Prop} (hd : A.depth + 5 < recursionLimit) (hm1 : m "const" = some (.ref c)) (hm2 : m "key" = some (.bytes kk tk0)) (hkk : kk.size ≤ 1000)
    (K : ConstO s.heap c P size block) (hPb : base.get? P = none) (hPL : P ≠ L)
    (hQ : ∀ cp l h' tk big', Fr base L h' m → News base L h' big' → Seg base L h' big' → But [P] s.heap h' → s.heap.objs.size ≤ h'.objs.size → ConstO h' c P size block → CopyO h' cp l c → LstO h' l (xorA kk 92) → s.heap.get? l = none → Q (.ref cp) { s with heap := h', toks := tk })
    : wpAny (model pw w) (A.deeper (envX "compile_hmac" (fScope (fS 16)) L 188 (.ref 187) cl)) (eval (valOf (stAt (fBody (fS 16)) 9)) (envX "compile_hmac" (fScope (fS 16)) L 188 (.ref 187) cl)) Q (fun _ _ => False) s := by
  have hfill : KK w.params = KK w.params ∧ PySem.Challenge.rw_aj5027_01 = PySem.Challenge.rw_aj5027_01 := by
    k_fill
    exact ⟨rfl, rfl⟩
  clear hfill
  show wpAny _ _ (eval (.Attribute _ _ _) _) _ _ _
  have hFc : FnAt c s.heap := by
    obtain ⟨_, _, _, _, _, _, _, _, ⟨oc, od, sl, doc, pm, ct, e, _⟩, _⟩ := K
    exact ⟨oc, od, _, sl, e⟩
  k_steps
  rename Fr _ _ _ _ => F
  refine wpAny_call (c_const (KX.keeps F.keep) (KT.keeps F.keep) ?rm K (fun _ _ _ _ _ _ _ h => binds1 h) fun y l h1 tk1 M1 z1 K1 H1 hl1 => ?_)
  case rm => show A.depth + 1 + 3 < recursionLimit; omega
  obtain ⟨_, F1, N1, G1⟩ := seg F M1 (fun a ha => by cases List.mem_singleton.mp ha; exact hPb) (fun q => hPL (List.mem_singleton.mp q).symm)
  obtain ⟨u, d, cp, t3, t4, ex, en, ey, hU, hD, hC, hl⟩ := H1
  have b0 : ∀ {h h' : Heap}, h.StaysIn h' → But [] h h' := fun k => But.of_stays k
  have Ln : ∀ h : Heap, Loose h [] := fun h => Soft.nil.loose
  refine rd_copy (KX.keeps F1.keep) (KT.keeps F1.keep) ?rm ⟨_, _, ey⟩ fun h2 tk2 st2 sz2 => ?_
  case rm => show A.depth + 1 + 0 < recursionLimit; omega
  obtain ⟨big2, F2, N2, G2⟩ := seg F1 (b0 st2) (fun a ha => nomatch ha) (fun q => nomatch q)
  exact hQ cp l h2 tk2 big2 F2 N2 G2 (fun b o e hb => st2 _ _ (M1 b o e hb)) (Nat.le_trans z1 sz2) (K1.but (b0 st2) (Ln _) (fun q => nomatch q)) (hC.but (b0 st2) (Ln _)) (hl.but (b0 st2) (fun q => nomatch q)) hl1

end
end Mine
namespace Mine
noncomputable section
open PySem PySem.W PySem.Calls PyProof.Rows
set_option maxRecDepth 100000
set_option maxHeartbeats 4000000
set_option linter.unusedVariables false
local macro_rules | `(tactic| walk_at "eval Name") => `(tactic| (k_dflt (refine' nameM ?F ?v ?_ ?a ?b ?c; (case F => k_asm); (case v => first | with_reducible assumption | rfl | assumption); (case a => rfl); (case b => rfl); (case c => decide))))
theorem e_plain {w : World} {A : Around} {s : Shared} {mg mb m : Str → Option Value} {mean : ExcName → Option Value} {base : Heap} {L : Addr} {big : List (Addr × Obj)}
    (KX : (KK w.params).In base) (KT : Top topProg l0 mean mg mb base) (F : Fr base L s.heap m) (N : News base L s.heap big) (G : Seg base L s.heap big) {c P x ic oc : Addr} {size block : Nat} {kk : Array UInt8} {tk0 : Tok} {ps : Array Value} {Q : Flow → Shared → Prop} (hd : A.depth + 5 < recursionLimit) (hm1 : m "const" = some (.ref c)) (hm2 : m "key" = some (.bytes kk tk0)) (hm3 : m "multipart" = some (.bool false)) (hm4 : m "digest_info" = some (.ref x)) (hkk : kk.size ≤ 1000)
    (K : ConstO s.heap c P size block) (hPb : base.get? P = none) (hPL : P ≠ L) (ci : s.heap.IsCell ic none ∧ L < ic ∧ base.get? ic = none) (co : s.heap.IsCell oc none ∧ L < oc ∧ base.get? oc = none) (hio : ic ≠ oc)
    (t183 : s.heap.get? 183 = some (tabObj ps)) (ht : TriplesOk ps.toList) (hnf : codeAmong (fPos pHm) ps.toList = none) (h183b : base.get? 183 = none) (hP183 : P ≠ 183) (hL9 : 349 < L)
    (hQ : ∀ f fx lI lO c' P' h' tk, But [L, P, 183, ic, oc] s.heap h' → s.heap.objs.size ≤ h'.objs.size → ConstO h' c P size block → h'.get? 183 = some (tabObj (ps ++ #[rawInt (fPos pHm).line, rawInt (fPos pHm).col, .ref c'])) → AttrO h' f fx x →
      FnO h' f pHm qHm [("_outer_copy", oc), ("_inner_copy", ic)] .none (.ref c') → CodeHd h' c' P' → h'.get? P' = some (tabObj #[]) → s.heap.objs.size ≤ P' → CopyC h' ic c lI (xorA kk 54) → CopyC h' oc c lO (xorA kk 92) → s.heap.get? lI = none → s.heap.get? lO = none → s.heap.get? fx = none → Q (.ret (.ref f)) { s with heap := h', toks := tk }) :
    wpAny (model pw w) (A.deeper (envX "compile_hmac" (fScope (fS 16)) L 188 (.ref 187) [("_outer_copy", oc), ("_inner_copy", ic)])) (execs (List.drop 8 (fBody (fS 16))) (envX "compile_hmac" (fScope (fS 16)) L 188 (.ref 187) [("_outer_copy", oc), ("_inner_copy", ic)])) Q (fun _ _ => False) s := by
  have hfill : KK w.params = KK w.params ∧ PySem.Challenge.rw_aj5027_01 = PySem.Challenge.rw_aj5027_01 := by
    k_fill
    exact ⟨rfl, rfl⟩
  clear hfill
  have Ln : ∀ h : Heap, Loose h [] := fun h => Soft.nil.loose
  have nPi : ∀ {h : Heap} {a : Addr} {v}, ConstO h c P size block → h.IsCell a v → a ∉ [P] := fun {h a v} K k q => by
    obtain ⟨_, _, _, _, _, _, _, _, _, _, _, ⟨_, _, ps, e', _⟩, _⟩ := K
    obtain ⟨o, e, d⟩ := k
    rw [List.mem_singleton.mp q, e'] at e; cases e; cases d
  have looseC : ∀ {h : Heap} {a : Addr}, h.IsCell a none → Loose h [a] := fun {h a} k b hb o e => by
    obtain ⟨o', e', d'⟩ := k
    cases List.mem_singleton.mp hb
    rw [e'] at e; cases e; unfold fixK; rw [d']
  refine wpAny_execs_cons (wpAny_Assign_Name (x_inner KX KT F N G hd hm1 hm2 hkk K hPb hPL fun cpI lI h1 tk1 big1 F1 N1 G1 M1 z1 K1 C1 I1 nI => ?_))
  have i1 : h1.IsCell ic none := let ⟨o, e, d⟩ := ci.1; ⟨o, M1 _ _ e (nPi K ci.1), d⟩
  have o1 : h1.IsCell oc none := let ⟨o, e, d⟩ := co.1; ⟨o, M1 _ _ e (nPi K co.1), d⟩
  have t1 : h1.get? 183 = some (tabObj ps) := M1 _ _ t183 (fun q => hP183 (List.mem_singleton.mp q).symm)
  refine wpAny_storeName_cell rfl rfl rfl i1 fun h2 v2 s2 => ?_
  have M2 : But [ic] h1 h2 := fun b o e hb => (s2.2 b (fun q => hb (List.mem_singleton.mpr q))).trans e
  have L2 := looseC i1
  have nTi : ∀ {h : Heap} {a t : Addr} {v} {qs : Array Value}, h.get? t = some (tabObj qs) → h.IsCell a v → t ≠ a := fun {h a t v qs} e k q => by
    obtain ⟨o, e', d⟩ := k
    rw [q, e'] at e; cases e; cases d
  have K2 := K1.but M2 L2 (fun q => nPi K1 i1 (List.mem_singleton.mpr (List.mem_singleton.mp q).symm))
  have C2 := C1.but M2 L2
  have nLi : ∀ {h : Heap} {a l : Addr} {v} {b}, LstO h l b → h.IsCell a v → l ∉ [a] := fun {h a l v b} I k q => by
    obtain ⟨_, _, _, o, e, hc, n, hd⟩ := I
    obtain ⟨o', e', d⟩ := k
    rw [List.mem_singleton.mp q, e'] at e; cases e; rw [d] at hd; cases hd
  have I2 := I1.but M2 (nLi I1 i1)
  have o2 : h2.IsCell oc none := let ⟨o, e, d⟩ := o1; ⟨o, M2 _ _ e (fun q => hio (List.mem_singleton.mp q).symm), d⟩
  have t2 : h2.get? 183 = some (tabObj ps) := M2 _ _ t1 (fun q => nTi t1 i1 (List.mem_singleton.mp q))
  obtain ⟨big2, F2, N2, G2⟩ := seg F1 M2 (fun a ha => by cases List.mem_singleton.mp ha; exact ci.2.2) (fun q => Nat.ne_of_lt ci.2.1 (List.mem_singleton.mp q))
  dsimp only
  refine wpAny_execs_cons (wpAny_Assign_Name (x_outer KX KT F2 N2 G2 hd hm1 hm2 hkk K2 hPb hPL fun cpO lO h3 tk3 big3 F3 N3 G3 M3 z3 K3 C3 I3 nO => ?_))
  have pL : ∀ {h : Heap}, ConstO h c P size block → Loose h [P] := fun K => K.soft.loose
  have i3 : h3.IsCell ic (some (.ref cpI)) := cell_but v2 M3 (pL K2)
  have o3 : h3.IsCell oc none := let ⟨o, e, d⟩ := o2; ⟨o, M3 _ _ e (nPi K2 o2), d⟩
  have t3 : h3.get? 183 = some (tabObj ps) := M3 _ _ t2 (fun q => hP183 (List.mem_singleton.mp q).symm)
  have nLP : ∀ {h : Heap} {l : Addr} {b}, ConstO h c P size block → LstO h l b → l ∉ [P] := fun {h l b} K I q => by
    obtain ⟨_, _, _, o, e, hc, n, hd⟩ := I
    obtain ⟨_, _, _, _, _, _, _, _, _, _, _, ⟨_, _, ps, e', _⟩, _⟩ := K
    rw [List.mem_singleton.mp q, e'] at e; cases e; cases hc
  have Ca3 : CopyC h3 ic c lI (xorA kk 54) := ⟨cpI, i3, C2.but M3 (pL K2), I2.but M3 (nLP K2 I2)⟩
  refine wpAny_storeName_cell rfl rfl rfl o3 fun h4 v4 s4 => ?_
  have M4 : But [oc] h3 h4 := fun b o e hb => (s4.2 b (fun q => hb (List.mem_singleton.mpr q))).trans e
  have L4 := looseC o3
  have K4 := K3.but M4 L4 (fun q => nPi K3 o3 (List.mem_singleton.mpr (List.mem_singleton.mp q).symm))
  have Cb4 : CopyC h4 oc c lO (xorA kk 92) := ⟨cpO, v4, C3.but M4 L4, I3.but M4 (nLi I3 o3)⟩
  have Ca4 : CopyC h4 ic c lI (xorA kk 54) := Ca3.but M4 L4 (let ⟨_, _, _, I⟩ := Ca3; nLi I o3)
  have t4 : h4.get? 183 = some (tabObj ps) := M4 _ _ t3 (fun q => nTi t3 o3 (List.mem_singleton.mp q))
  obtain ⟨big4, F4, N4, G4⟩ := seg F3 M4 (fun a ha => by cases List.mem_singleton.mp ha; exact co.2.2) (fun q => Nat.ne_of_lt co.2.1 (List.mem_singleton.mp q))
  dsimp only
  clear F N G F1 N1 G1 F2 N2 G2 F3 N3 G3
  k_steps
  rename Fr _ _ _ _ => F4
  rename News _ _ _ _ => N4
  have n4 := F4.ns
  have hge4 : s.heap.objs.size ≤ h4.objs.size := Nat.le_trans z1 (Nat.le_trans (Nat.le_of_eq s2.1.symm) (Nat.le_trans z3 (Nat.le_of_eq s4.1.symm)))
  have h183L : (183 : Addr) ≠ L := Nat.ne_of_lt (Nat.lt_trans (by decide) hL9)
  refine def_N pHm "hmac" rfl F4 KT (code187 (KX.keeps F4.keep)) rfl h183b t183k.1 t183k.2 t4 ht hnf h183L rfl rfl rfl rfl rfl rfl fun f h5 tk5 big5 c' P' F5 N5 G5 M5 nf cP tP hge t5 hf z5 => ?_
  have hfL : f ≠ L := Nat.ne_of_gt (Nat.lt_of_lt_of_le F4.ns.lt hf)
  have hfb : base.get? f = none := by
    cases q : base.get? f with
    | none => rfl
    | some o => exact absurd (Heap.lt_size (F4.keep _ _ q)) (Nat.not_lt.mpr hf)
  have L5 := loose_L F5.ns
  have n5 := F5.ns
  k_steps
  rename Fr _ _ _ _ => F6
  rename News _ _ _ _ => N6
  rename_i h6
  have M6 : But [L] h5 h6 := Seg.now G5 F6 N6
  obtain ⟨doc, pm, ct, ef, cr⟩ := nf
  have hf6 : f < h6.objs.size := Heap.lt_size (M6.fix L5 ef rfl)
  refine setFn (M6.fix L5 ef rfl) fun h7 tk7 e7 n7 k7 z7 => ?_
  have M7 : But [f] h6 h7 := fun b o e hb => k7 b o (fun q => hb (List.mem_singleton.mpr q)) e
  have NF : ∀ b o, h6.get? b = some o → o.cls ≠ .type "function" → h7.get? b = some o := fun b o e hc => k7 b o (fun q => by rw [q, M6.fix L5 ef rfl] at e; cases e; exact hc rfl) e
  have M47 : But [183, L, f] h4 h7 := fun b o e hb => M7 _ _ (M6 _ _ (M5 _ _ e (fun q => hb (List.mem_singleton.mp q ▸ .head _))) (fun q => hb (List.mem_singleton.mp q ▸ .tail _ (.head _)))) (fun q => hb (List.mem_singleton.mp q ▸ .tail _ (.tail _ (.head _))))
  have L47 : Loose h4 [183, L, f] := fun a ha o e => by
    rcases List.mem_cons.mp ha with rfl | ha
    · rw [t4] at e; cases e; rfl
    · rcases List.mem_cons.mp ha with rfl | ha
      · exact loose_L n4 _ (.head _) o e
      · cases List.mem_singleton.mp ha; exact absurd (Heap.lt_size e) (Nat.not_lt.mpr hf)
  have nin : ∀ {a : Addr} {o}, h4.get? a = some o → a ≠ 183 → a ≠ L → a ∉ [183, L, f] := fun {a o} e h1 h2 q => by
    rcases List.mem_cons.mp q with q | q
    · exact h1 q
    · rcases List.mem_cons.mp q with q | q
      · exact h2 q
      · exact absurd (Heap.lt_size e) (Nat.not_lt.mpr (List.mem_singleton.mp q ▸ hf))
  have nL : ∀ {l : Addr} {b}, LstO h4 l b → l ∉ [183, L, f] := fun {l b} I => by
    obtain ⟨_, _, _, o, e, hc, n, hd⟩ := I
    refine nin e (fun q => ?_) (fun q => ?_)
    · rw [q, t4] at e; cases e; cases hc
    · have := loose_L n4 L (.head _)
      obtain ⟨o', es, ep, e', hd', _⟩ := n4
      rw [q, e'] at e; cases e; rw [hd'] at hd; cases hd
  obtain ⟨big7, F7, N7, G7⟩ := seg F6 M7 (fun a ha => by cases List.mem_singleton.mp ha; exact hfb) (fun q => hfL (List.mem_singleton.mp q).symm)
  clear G4 G5
  dsimp only
  k_steps
  have KP : P ∉ [183, L, f] := by
    obtain ⟨_, _, _, _, _, _, _, _, _, _, _, ⟨_, _, ps, e', _⟩, _⟩ := K4
    exact nin e' hP183 hPL
  have ns : ∀ {a : Addr}, s.heap.objs.size ≤ a → s.heap.get? a = none := fun h => Heap.get?_none_of_le h
  refine hQ f _ lI lO c' P' h7 _ (fun b o e hb => ?_) ?_ (K4.but M47 L47 KP) (NF _ _ (M6 _ _ t5 (fun q => h183L (List.mem_singleton.mp q))) (by intro q; cases q)) ⟨_, _, _, e7, n7, rfl⟩ ⟨_, _, _, doc, pm, ct, e7, codeR_cls (cr.but M6 L5) NF⟩ (codeHd_cls (codeHd_but cP M6 L5) NF)
    (NF _ _ (M6 _ _ tP ?_) (by intro q; cases q)) (Nat.le_trans hge4 hge) (Ca4.but M47 L47 (let ⟨_, _, _, I⟩ := Ca4; nL I)) (Cb4.but M47 L47 (let ⟨_, _, _, I⟩ := Cb4; nL I)) nI ?_ (ns (Nat.le_trans hge4 (Nat.le_of_lt (Nat.lt_of_le_of_lt hf hf6))))
  · have nb : ∀ a, a ∈ [L, P, 183, ic, oc] → b ≠ a := fun a ha q => hb (q ▸ ha)
    have e4 : h4.get? b = some o := M4 _ _ (M3 _ _ (M2 _ _ (M1 _ _ e (fun q => nb P (.tail _ (.head _)) (List.mem_singleton.mp q))) (fun q => nb ic (.tail _ (.tail _ (.tail _ (.head _)))) (List.mem_singleton.mp q))) (fun q => nb P (.tail _ (.head _)) (List.mem_singleton.mp q))) (fun q => nb oc (.tail _ (.tail _ (.tail _ (.tail _ (.head _))))) (List.mem_singleton.mp q))
    exact M47 _ _ e4 (nin e4 (nb 183 (.tail _ (.tail _ (.head _)))) (nb L (.head _)))
  · exact Nat.le_trans hge4 (Nat.le_of_lt (Nat.lt_of_le_of_lt hf (Heap.lt_size e7)))
  · intro q
    obtain ⟨o', es, ep, e', hd', _⟩ := n5
    rw [← List.mem_singleton.mp q, tP] at e'; cases e'; cases hd'
  · cases q : s.heap.get? lO with
    | none => rfl
    | some o =>
      have e2 := M2 _ _ (M1 _ _ q (nLP K3 I3)) (nLi I3 i3)
      rw [nO] at e2; cases e2
theorem e_multi {w : World} {A : Around} {s : Shared} {mg mb m : Str → Option Value} {mean : ExcName → Option Value} {base : Heap} {L : Addr} {big : List (Addr × Obj)}
    (KX : (KK w.params).In base) (KT : Top topProg l0 mean mg mb base) (F : Fr base L s.heap m) (N : News base L s.heap big) (G : Seg base L s.heap big) {c P x ic oc : Addr} {size block : Nat} {kk : Array UInt8} {tk0 : Tok} {ps : Array Value} {Q : Flow → Shared → Prop} (hd : A.depth + 5 < recursionLimit) (hm1 : m "const" = some (.ref c)) (hm2 : m "key" = some (.bytes kk tk0)) (hm3 : m "multipart" = some (.bool true)) (hm4 : m "digest_info" = some (.ref x)) (hkk : kk.size ≤ 1000)
    (K : ConstO s.heap c P size block) (hPb : base.get? P = none) (hPL : P ≠ L) (ci : s.heap.IsCell ic none ∧ L < ic ∧ base.get? ic = none) (co : s.heap.IsCell oc none ∧ L < oc ∧ base.get? oc = none) (hio : ic ≠ oc)
    (t183 : s.heap.get? 183 = some (tabObj ps)) (ht : TriplesOk ps.toList) (hnf : codeAmong (fPos mHm) ps.toList = none) (h183b : base.get? 183 = none) (hP183 : P ≠ 183) (hL9 : 349 < L)
    (hQ : ∀ f fx lI lO c' P' h' tk, But [L, P, 183, ic, oc] s.heap h' → s.heap.objs.size ≤ h'.objs.size → ConstO h' c P size block → h'.get? 183 = some (tabObj (ps ++ #[rawInt (fPos mHm).line, rawInt (fPos mHm).col, .ref c'])) → AttrO h' f fx x →
      FnO h' f mHm qHm [("_outer_copy", oc), ("_inner_copy", ic)] .none (.ref c') → CodeHd h' c' P' → h'.get? P' = some (tabObj #[]) → s.heap.objs.size ≤ P' → CopyC h' ic c lI (xorA kk 54) → CopyC h' oc c lO (xorA kk 92) → s.heap.get? lI = none → s.heap.get? lO = none → s.heap.get? fx = none → Q (.ret (.ref f)) { s with heap := h', toks := tk }) :
    wpAny (model pw w) (A.deeper (envX "compile_hmac" (fScope (fS 16)) L 188 (.ref 187) [("_outer_copy", oc), ("_inner_copy", ic)])) (execs (List.drop 8 (fBody (fS 16))) (envX "compile_hmac" (fScope (fS 16)) L 188 (.ref 187) [("_outer_copy", oc), ("_inner_copy", ic)])) Q (fun _ _ => False) s := by
  have hfill : KK w.params = KK w.params ∧ PySem.Challenge.rw_aj5027_01 = PySem.Challenge.rw_aj5027_01 := by
    k_fill
    exact ⟨rfl, rfl⟩
  clear hfill
  have Ln : ∀ h : Heap, Loose h [] := fun h => Soft.nil.loose
  have nPi : ∀ {h : Heap} {a : Addr} {v}, ConstO h c P size block → h.IsCell a v → a ∉ [P] := fun {h a v} K k q => by
    obtain ⟨_, _, _, _, _, _, _, _, _, _, _, ⟨_, _, ps, e', _⟩, _⟩ := K
    obtain ⟨o, e, d⟩ := k
    rw [List.mem_singleton.mp q, e'] at e; cases e; cases d
  have looseC : ∀ {h : Heap} {a : Addr}, h.IsCell a none → Loose h [a] := fun {h a} k b hb o e => by
    obtain ⟨o', e', d'⟩ := k
    cases List.mem_singleton.mp hb
    rw [e'] at e; cases e; unfold fixK; rw [d']
  refine wpAny_execs_cons (wpAny_Assign_Name (x_inner KX KT F N G hd hm1 hm2 hkk K hPb hPL fun cpI lI h1 tk1 big1 F1 N1 G1 M1 z1 K1 C1 I1 nI => ?_))
  have i1 : h1.IsCell ic none := let ⟨o, e, d⟩ := ci.1; ⟨o, M1 _ _ e (nPi K ci.1), d⟩
  have o1 : h1.IsCell oc none := let ⟨o, e, d⟩ := co.1; ⟨o, M1 _ _ e (nPi K co.1), d⟩
  have t1 : h1.get? 183 = some (tabObj ps) := M1 _ _ t183 (fun q => hP183 (List.mem_singleton.mp q).symm)
  refine wpAny_storeName_cell rfl rfl rfl i1 fun h2 v2 s2 => ?_
  have M2 : But [ic] h1 h2 := fun b o e hb => (s2.2 b (fun q => hb (List.mem_singleton.mpr q))).trans e
  have L2 := looseC i1
  have nTi : ∀ {h : Heap} {a t : Addr} {v} {qs : Array Value}, h.get? t = some (tabObj qs) → h.IsCell a v → t ≠ a := fun {h a t v qs} e k q => by
    obtain ⟨o, e', d⟩ := k
    rw [q, e'] at e; cases e; cases d
  have K2 := K1.but M2 L2 (fun q => nPi K1 i1 (List.mem_singleton.mpr (List.mem_singleton.mp q).symm))
  have C2 := C1.but M2 L2
  have nLi : ∀ {h : Heap} {a l : Addr} {v} {b}, LstO h l b → h.IsCell a v → l ∉ [a] := fun {h a l v b} I k q => by
    obtain ⟨_, _, _, o, e, hc, n, hd⟩ := I
    obtain ⟨o', e', d⟩ := k
    rw [List.mem_singleton.mp q, e'] at e; cases e; rw [d] at hd; cases hd
  have I2 := I1.but M2 (nLi I1 i1)
  have o2 : h2.IsCell oc none := let ⟨o, e, d⟩ := o1; ⟨o, M2 _ _ e (fun q => hio (List.mem_singleton.mp q).symm), d⟩
  have t2 : h2.get? 183 = some (tabObj ps) := M2 _ _ t1 (fun q => nTi t1 i1 (List.mem_singleton.mp q))
  obtain ⟨big2, F2, N2, G2⟩ := seg F1 M2 (fun a ha => by cases List.mem_singleton.mp ha; exact ci.2.2) (fun q => Nat.ne_of_lt ci.2.1 (List.mem_singleton.mp q))
  dsimp only
  refine wpAny_execs_cons (wpAny_Assign_Name (x_outer KX KT F2 N2 G2 hd hm1 hm2 hkk K2 hPb hPL fun cpO lO h3 tk3 big3 F3 N3 G3 M3 z3 K3 C3 I3 nO => ?_))
  have pL : ∀ {h : Heap}, ConstO h c P size block → Loose h [P] := fun K => K.soft.loose
  have i3 : h3.IsCell ic (some (.ref cpI)) := cell_but v2 M3 (pL K2)
  have o3 : h3.IsCell oc none := let ⟨o, e, d⟩ := o2; ⟨o, M3 _ _ e (nPi K2 o2), d⟩
  have t3 : h3.get? 183 = some (tabObj ps) := M3 _ _ t2 (fun q => hP183 (List.mem_singleton.mp q).symm)
  have nLP : ∀ {h : Heap} {l : Addr} {b}, ConstO h c P size block → LstO h l b → l ∉ [P] := fun {h l b} K I q => by
    obtain ⟨_, _, _, o, e, hc, n, hd⟩ := I
    obtain ⟨_, _, _, _, _, _, _, _, _, _, _, ⟨_, _, ps, e', _⟩, _⟩ := K
    rw [List.mem_singleton.mp q, e'] at e; cases e; cases hc
  have Ca3 : CopyC h3 ic c lI (xorA kk 54) := ⟨cpI, i3, C2.but M3 (pL K2), I2.but M3 (nLP K2 I2)⟩
  refine wpAny_storeName_cell rfl rfl rfl o3 fun h4 v4 s4 => ?_
  have M4 : But [oc] h3 h4 := fun b o e hb => (s4.2 b (fun q => hb (List.mem_singleton.mpr q))).trans e
  have L4 := looseC o3
  have K4 := K3.but M4 L4 (fun q => nPi K3 o3 (List.mem_singleton.mpr (List.mem_singleton.mp q).symm))
  have Cb4 : CopyC h4 oc c lO (xorA kk 92) := ⟨cpO, v4, C3.but M4 L4, I3.but M4 (nLi I3 o3)⟩
  have Ca4 : CopyC h4 ic c lI (xorA kk 54) := Ca3.but M4 L4 (let ⟨_, _, _, I⟩ := Ca3; nLi I o3)
  have t4 : h4.get? 183 = some (tabObj ps) := M4 _ _ t3 (fun q => nTi t3 o3 (List.mem_singleton.mp q))
  obtain ⟨big4, F4, N4, G4⟩ := seg F3 M4 (fun a ha => by cases List.mem_singleton.mp ha; exact co.2.2) (fun q => Nat.ne_of_lt co.2.1 (List.mem_singleton.mp q))
  dsimp only
  clear F N G F1 N1 G1 F2 N2 G2 F3 N3 G3
  k_steps
  rename Fr _ _ _ _ => F4
  rename News _ _ _ _ => N4
  have n4 := F4.ns
  have hge4 : s.heap.objs.size ≤ h4.objs.size := Nat.le_trans z1 (Nat.le_trans (Nat.le_of_eq s2.1.symm) (Nat.le_trans z3 (Nat.le_of_eq s4.1.symm)))
  have h183L : (183 : Addr) ≠ L := Nat.ne_of_lt (Nat.lt_trans (by decide) hL9)
  refine def_N mHm "hmac" rfl F4 KT (code187 (KX.keeps F4.keep)) rfl h183b t183k.1 t183k.2 t4 ht hnf h183L rfl rfl rfl rfl rfl rfl fun f h5 tk5 big5 c' P' F5 N5 G5 M5 nf cP tP hge t5 hf z5 => ?_
  have hfL : f ≠ L := Nat.ne_of_gt (Nat.lt_of_lt_of_le F4.ns.lt hf)
  have hfb : base.get? f = none := by
    cases q : base.get? f with
    | none => rfl
    | some o => exact absurd (Heap.lt_size (F4.keep _ _ q)) (Nat.not_lt.mpr hf)
  have L5 := loose_L F5.ns
  have n5 := F5.ns
  k_steps
  rename Fr _ _ _ _ => F6
  rename News _ _ _ _ => N6
  rename_i h6
  have M6 : But [L] h5 h6 := Seg.now G5 F6 N6
  obtain ⟨doc, pm, ct, ef, cr⟩ := nf
  have hf6 : f < h6.objs.size := Heap.lt_size (M6.fix L5 ef rfl)
  refine setFn (M6.fix L5 ef rfl) fun h7 tk7 e7 n7 k7 z7 => ?_
  have M7 : But [f] h6 h7 := fun b o e hb => k7 b o (fun q => hb (List.mem_singleton.mpr q)) e
  have NF : ∀ b o, h6.get? b = some o → o.cls ≠ .type "function" → h7.get? b = some o := fun b o e hc => k7 b o (fun q => by rw [q, M6.fix L5 ef rfl] at e; cases e; exact hc rfl) e
  have M47 : But [183, L, f] h4 h7 := fun b o e hb => M7 _ _ (M6 _ _ (M5 _ _ e (fun q => hb (List.mem_singleton.mp q ▸ .head _))) (fun q => hb (List.mem_singleton.mp q ▸ .tail _ (.head _)))) (fun q => hb (List.mem_singleton.mp q ▸ .tail _ (.tail _ (.head _))))
  have L47 : Loose h4 [183, L, f] := fun a ha o e => by
    rcases List.mem_cons.mp ha with rfl | ha
    · rw [t4] at e; cases e; rfl
    · rcases List.mem_cons.mp ha with rfl | ha
      · exact loose_L n4 _ (.head _) o e
      · cases List.mem_singleton.mp ha; exact absurd (Heap.lt_size e) (Nat.not_lt.mpr hf)
  have nin : ∀ {a : Addr} {o}, h4.get? a = some o → a ≠ 183 → a ≠ L → a ∉ [183, L, f] := fun {a o} e h1 h2 q => by
    rcases List.mem_cons.mp q with q | q
    · exact h1 q
    · rcases List.mem_cons.mp q with q | q
      · exact h2 q
      · exact absurd (Heap.lt_size e) (Nat.not_lt.mpr (List.mem_singleton.mp q ▸ hf))
  have nL : ∀ {l : Addr} {b}, LstO h4 l b → l ∉ [183, L, f] := fun {l b} I => by
    obtain ⟨_, _, _, o, e, hc, n, hd⟩ := I
    refine nin e (fun q => ?_) (fun q => ?_)
    · rw [q, t4] at e; cases e; cases hc
    · have := loose_L n4 L (.head _)
      obtain ⟨o', es, ep, e', hd', _⟩ := n4
      rw [q, e'] at e; cases e; rw [hd'] at hd; cases hd
  obtain ⟨big7, F7, N7, G7⟩ := seg F6 M7 (fun a ha => by cases List.mem_singleton.mp ha; exact hfb) (fun q => hfL (List.mem_singleton.mp q).symm)
  clear G4 G5
  dsimp only
  k_steps
  have KP : P ∉ [183, L, f] := by
    obtain ⟨_, _, _, _, _, _, _, _, _, _, _, ⟨_, _, ps, e', _⟩, _⟩ := K4
    exact nin e' hP183 hPL
  have ns : ∀ {a : Addr}, s.heap.objs.size ≤ a → s.heap.get? a = none := fun h => Heap.get?_none_of_le h
  refine hQ f _ lI lO c' P' h7 _ (fun b o e hb => ?_) ?_ (K4.but M47 L47 KP) (NF _ _ (M6 _ _ t5 (fun q => h183L (List.mem_singleton.mp q))) (by intro q; cases q)) ⟨_, _, _, e7, n7, rfl⟩ ⟨_, _, _, doc, pm, ct, e7, codeR_cls (cr.but M6 L5) NF⟩ (codeHd_cls (codeHd_but cP M6 L5) NF)
    (NF _ _ (M6 _ _ tP ?_) (by intro q; cases q)) (Nat.le_trans hge4 hge) (Ca4.but M47 L47 (let ⟨_, _, _, I⟩ := Ca4; nL I)) (Cb4.but M47 L47 (let ⟨_, _, _, I⟩ := Cb4; nL I)) nI ?_ (ns (Nat.le_trans hge4 (Nat.le_of_lt (Nat.lt_of_le_of_lt hf hf6))))
  · have nb : ∀ a, a ∈ [L, P, 183, ic, oc] → b ≠ a := fun a ha q => hb (q ▸ ha)
    have e4 : h4.get? b = some o := M4 _ _ (M3 _ _ (M2 _ _ (M1 _ _ e (fun q => nb P (.tail _ (.head _)) (List.mem_singleton.mp q))) (fun q => nb ic (.tail _ (.tail _ (.tail _ (.head _)))) (List.mem_singleton.mp q))) (fun q => nb P (.tail _ (.head _)) (List.mem_singleton.mp q))) (fun q => nb oc (.tail _ (.tail _ (.tail _ (.tail _ (.head _))))) (List.mem_singleton.mp q))
    exact M47 _ _ e4 (nin e4 (nb 183 (.tail _ (.tail _ (.head _)))) (nb L (.head _)))
  · exact Nat.le_trans hge4 (Nat.le_of_lt (Nat.lt_of_le_of_lt hf (Heap.lt_size e7)))
  · intro q
    obtain ⟨o', es, ep, e', hd', _⟩ := n5
    rw [← List.mem_singleton.mp q, tP] at e'; cases e'; cases hd'
  · cases q : s.heap.get? lO with
    | none => rfl
    | some o =>
      have e2 := M2 _ _ (M1 _ _ q (nLP K3 I3)) (nLi I3 i3)
      rw [nO] at e2; cases e2

end
end Mine
namespace Mine
noncomputable section
open PySem PySem.W PySem.Calls PyProof.Rows
set_option maxRecDepth 100000
set_option maxHeartbeats 4000000
set_option linter.unusedVariables false
local macro_rules | `(tactic| walk_at "no such stop") => `(tactic| skip)
local macro_rules | `(tactic| walk_at "no such stop") => `(tactic| skip)

theorem wp_execs_app {M : Model} {Γ : Ctx} {env : Env} {l2 : List Stmt} {Q : Flow → Pos → Shared → Prop} {E : Value → Pos → Shared → Prop} : ∀ {l1 : List Stmt} {p : Pos} {s : Shared}, Sem.wp M Γ (execs l1 env) (fun fl p' s' => match fl with | .next => Sem.wp M Γ (execs l2 env) Q E p' s' | f => Q f p' s') E p s → Sem.wp M Γ (execs (l1 ++ l2) env) Q E p s
  | [], p, s, h => h
  | st :: r, p, s, h => by
    rw [execs_cons, Sem.wp_bind'] at h
    show Sem.wp M Γ (execs (st :: (r ++ l2)) env) Q E p s
    rw [execs_cons, Sem.wp_bind']
    refine Sem.wp_mono M Γ _ (fun f p' s' h' => ?_) (fun _ _ _ h' => h') _ _ h
    cases f <;> first | exact wp_execs_app h' | exact h'
theorem wpAny_execs_app {M : Model} {A : Around} {E : Value → Shared → Prop} {env : Env} {l2 : List Stmt} {Q : Flow → Shared → Prop} {l1 : List Stmt} {s : Shared} (h : wpAny M A (execs l1 env) (fun fl s' => match fl with | .next => wpAny M A (execs l2 env) Q E s' | f => Q f s') E s) : wpAny M A (execs (l1 ++ l2) env) Q E s := fun Γ p hΓ =>
  wp_execs_app (Sem.wp_mono M Γ _ (fun f p' s' h' => by cases f <;> first | exact h' Γ p' hΓ | exact h') (fun _ _ _ h' => h') _ _ (h Γ p hΓ))
local macro_rules | `(tactic| walk_at "eval Name") => `(tactic| (k_dflt (refine' nameM ?F ?v ?_ ?a ?b ?c; (case F => k_asm); (case v => first | with_reducible assumption | rfl | assumption); (case a => rfl); (case b => rfl); (case c => decide))))
local macro_rules | `(tactic| walk_at "FnAt") => `(tactic| assumption)
local macro_rules | `(tactic| walk_at "callWith ref") => `(tactic| (k_dflt (refine callWith_F (by assumption) ?_)))
theorem loadM {M : Model} {A : Around} {E : Value → Shared → Prop} {s : Shared} {env : Env} {base : Heap} {m : Str → Option Value} {x : Str} {v : Value} {Q : Value → Shared → Prop} (F : Fr base env.locals s.heap m) (hv : m x = some v) (h : Q v s)
    (hk : env.scope.kind = .function) (hl : env.kindOf x = some .local) : wpAny M A (loadName env x) Q E s := wpAny_loadName_local hk hl F.ns hv h
local macro_rules | `(tactic| walk_at "loadName") => `(tactic| (k_dflt (refine' loadM ?F ?v ?_ ?a ?b; (case F => k_asm); (case v => first | with_reducible assumption | rfl | assumption); (case a => rfl); (case b => rfl))))
theorem noI_bytes : typeLookup (.type "bytes") (dunderI "add") = pure none := by rw [typeLookup_type, builtinLookup_eq_fast]; kernel_rfl
theorem iadd_bytes {prog : Program} {w : World} {A : Around} {E : Value → Shared → Prop} {s : Shared} {b c : Array UInt8} {t u : Tok} {Q : Value → Shared → Prop} (hsz : b.size + c.size ≤ 1000) (h : ∀ t' k, Q (.bytes (b ++ c) t') { s with toks := k }) : wpAny (model prog w) A (inplaceOp .Add (.bytes b t) (.bytes c u)) Q E s := by
  refine iconcat_gives (typeIs_bytes s b t) (typeIs_bytes s c u) noI_bytes KBy.noFill_bytes_add KBy.seq_bytes_add FB.slot_bytes_add FB.entry_bytes_add (FB.args_bytes_add_2 _ _) (KBy.gives_bytes_add (KBy.tooLong_not (by omega))) ?_
  by_cases hb : b.isEmpty = true
  · rw [if_pos hb]
    have e : b = #[] := Array.isEmpty_iff.1 hb
    have h' := h u s.toks
    rw [e, Array.empty_append] at h'
    exact h'
  · rw [if_neg hb]
    by_cases hc : c.isEmpty = true
    · rw [if_pos hc]
      have e : c = #[] := Array.isEmpty_iff.1 hc
      have h' := h t s.toks
      rw [e, Array.append_empty] at h'
      exact h'
    · rw [if_neg hc]
      exact ⟨by rw [Array.size_append, sizeLine_eq]; omega, h s.toks (s.toks + 1)⟩
theorem zeros_eq (n : Nat) : (List.replicate n [(0 : UInt8)]).flatten.toArray = Array.replicate n 0 := by
  have : (List.replicate n [(0 : UInt8)]).flatten = List.replicate n 0 := by simp
  rw [this]; simp
local macro_rules | `(tactic| walk_at "inplaceOp Add bytes bytes") => `(tactic| (k_dflt (refine' iadd_bytes ?sz ?_; (case sz => (rw [zeros_eq, Array.size_replicate]; (try simp only [lawSum_size]); omega))); intro _ _))
/-- the key, cut down by the hash -/
def cutK (k : Array UInt8) (size block : Nat) : Array UInt8 := if block < k.size then lawSum k size else k
/-- the key, filled up -/
def padK (k : Array UInt8) (size block : Nat) : Array UInt8 := cutK k size block ++ Array.replicate (block - (cutK k size block).size) 0
theorem b_key {w : World} {A : Around} {s : Shared} {mg mb m : Str → Option Value} {mean : ExcName → Option Value} {base : Heap} {L : Addr} {big : List (Addr × Obj)} {cl : List (Str × Addr)}
    (KX : (KK w.params).In base) (KT : Top topProg l0 mean mg mb base) (F : Fr base L s.heap m) (N : News base L s.heap big) (G : Seg base L s.heap big) {c P : Addr} {size block : Nat} {k : Array UInt8} {tk0 t1 t2 : Tok} {Q : Flow → Shared → Prop} (hd : A.depth + 5 < recursionLimit) (hm1 : m "const" = some (.ref c)) (hm2 : m "key" = some (.bytes k tk0)) (hm5 : m "digest_size" = some (.int size t1)) (hm6 : m "block_size" = some (.int block t2)) (hk : k.size ≤ 80) (hs1 : 1 ≤ size) (hs2 : size ≤ 20) (hsb : size ≤ block) (hb : block ≤ 32)
    (K : ConstO s.heap c P size block) (hPb : base.get? P = none) (hPL : P ≠ L)
    (hQ : ∀ m' h' tk big' t', Fr base L h' m' → News base L h' big' → Seg base L h' big' → But [L, P] s.heap h' → ConstO h' c P size block → (∀ y : Str, y ≠ "key" → y ≠ "klen" → m' y = m y) → m' "key" = some (.bytes (padK k size block) t') → Q .next { s with heap := h', toks := tk }) :
    wpAny (model pw w) (A.deeper (envX "compile_hmac" (fScope (fS 16)) L 188 (.ref 187) cl)) (execs (List.take 3 (List.drop 5 (fBody (fS 16)))) (envX "compile_hmac" (fScope (fS 16)) L 188 (.ref 187) cl)) Q (fun _ _ => False) s := by
  have hfill : KK w.params = KK w.params ∧ PySem.Challenge.rw_aj5027_01 = PySem.Challenge.rw_aj5027_01 := by
    k_fill
    exact ⟨rfl, rfl⟩
  clear hfill
  have hFc : FnAt c s.heap := by
    obtain ⟨_, _, _, _, _, _, _, _, ⟨oc, od, sl, doc, pm, ct, e, _⟩, _⟩ := K
    exact ⟨oc, od, _, sl, e⟩
  show wpAny _ _ (execs [_, _, _] _) _ _ _
  have n0 := F.ns
  k_steps
  · rename Fr _ _ _ _ => F1
    rename News _ _ _ _ => N1
    rename_i h1 hkb
    have M1 : But [L] s.heap h1 := Seg.now G F1 N1
    have K1 := K.but M1 (loose_L n0) (fun q => hPL (List.mem_singleton.mp q))
    have hFc1 : FnAt c h1 := by
      obtain ⟨_, _, _, _, _, _, _, _, ⟨oc, od, sl, doc, pm, ct, e, _⟩, _⟩ := K1
      exact ⟨oc, od, _, sl, e⟩
    clear hFc
    k_steps
    rename Fr _ _ _ _ => F1
    refine wpAny_call (c_const (KX.keeps F1.keep) (KT.keeps F1.keep) ?rm K1 (fun _ _ _ _ _ _ _ h => binds1 h) fun y l h2 tk2 M2 z2 K2 H2 hl2 => ?_)
    case rm => show A.depth + 1 + 3 < recursionLimit; omega
    obtain ⟨_, F2, N2, G2⟩ := seg F1 M2 (fun a ha => by cases List.mem_singleton.mp ha; exact hPb) (fun q => hPL (List.mem_singleton.mp q).symm)
    obtain ⟨u, d, cp, t3, t4, ex, en, ey, hU, hD, hC, hl⟩ := H2
    have Ln : ∀ h : Heap, Loose h [] := fun h => Soft.nil.loose
    refine me_digest (KX.keeps F2.keep) (KT.keeps F2.keep) ?rm ⟨_, _, ey⟩ fun h3 tk3 st3 sz3 => ?_
    case rm => show A.depth + 1 + 0 < recursionLimit; omega
    dsimp only
    have b3 : But [] h2 h3 := But.of_stays st3
    have hD3 := hD.but b3 (Ln _)
    have hl3 := hl.but b3 (fun q => nomatch q)
    have K3 := K2.but b3 (Ln _) (fun q => nomatch q)
    refine callWith_F0 (by obtain ⟨_, _, _, _, ⟨oc, od, sl, doc, pm, ct, e, _⟩, _⟩ := hD3; exact ⟨oc, od, _, sl, e⟩) ?_
    refine c_digest (KX.keeps (F2.keeps st3).keep) (KT.keeps (F2.keeps st3).keep) ?rm hD3 hl3 (by omega) hs1 hs2 fun t5 h5 tk5 M5 z5 => ?_
    case rm => show A.depth + 1 + 1 < recursionLimit; omega
    have F5 := (F2.keeps st3).keeps (fun b o e => M5 b o e (fun q => nomatch q))
    obtain ⟨big5, F5, N5, G5⟩ := seg (S := []) F5 But.refl (fun _ h => nomatch h) (fun h => nomatch h)
    have K5 := K3.but M5 (Ln _) (fun q => nomatch q)
    have n5 := F5.ns
    have MM : But [L, P] s.heap h5 := fun b o e hb => M5 _ _ (st3 _ _ (M2 _ _ (M1 _ _ e (fun q => hb (List.mem_singleton.mp q ▸ .head _))) (fun q => hb (List.mem_singleton.mp q ▸ .tail _ (.head _))))) (fun q => nomatch q)
    have ec : cutK k size block = lawSum k size := by unfold cutK; rw [if_pos (by omega)]
    have es := lawSum_size k size
    clear F1 F2 N1 N2 G2
    have e9 : padK k size block = lawSum k size ++ (List.replicate ((block : Int) - (size : Int)).toNat [0]).flatten.toArray := by unfold padK; rw [ec, es, zeros_eq, show ((block : Int) - (size : Int)).toNat = block - size by omega]
    k_steps
    · rename Fr _ _ _ _ => F9
      rename News _ _ _ _ => N9
      have M9 := Seg.now G5 F9 N9
      have K9 := K5.but M9 (loose_L n5) (fun q => hPL (List.mem_singleton.mp q))
      obtain ⟨big9, F9, N9, G9⟩ := seg (S := []) F9 But.refl (fun _ h => nomatch h) (fun h => nomatch h)
      have MM9 : But [L, P] s.heap _ := fun b o e hb => M9 _ _ (MM b o e hb) (fun q => hb (List.mem_singleton.mp q ▸ .head _))
      refine hQ _ _ _ big9 ?t F9 N9 G9 MM9 K9 (fun y h1 h2 => by simp only [if_neg h1, if_neg h2]) ?k
      case k => rw [e9]; rfl
    · rename Fr _ _ _ _ => F9
      rename News _ _ _ _ => N9
      have M9 := Seg.now G5 F9 N9
      have K9 := K5.but M9 (loose_L n5) (fun q => hPL (List.mem_singleton.mp q))
      obtain ⟨big9, F9, N9, G9⟩ := seg (S := []) F9 But.refl (fun _ h => nomatch h) (fun h => nomatch h)
      have MM9 : But [L, P] s.heap _ := fun b o e hb => M9 _ _ (MM b o e hb) (fun q => hb (List.mem_singleton.mp q ▸ .head _))
      refine hQ _ _ _ big9 t5 F9 N9 G9 MM9 K9 (fun y h1 h2 => by simp only [if_neg h1, if_neg h2]) ?_
      rename ¬ ((size : Int) < _) => q
      have : padK k size block = lawSum k size := by unfold padK; rw [ec, es, show block - size = 0 by omega]; simp
      rw [this]
      rfl
  · rename Fr _ _ _ _ => F1
    rename News _ _ _ _ => N1
    rename ¬ ((block : Int) < _) => e1
    have ec : cutK k size block = k := by unfold cutK; rw [if_neg (by omega)]
    have e9 : padK k size block = k ++ (List.replicate ((block : Int) - (k.size : Int)).toNat [0]).flatten.toArray := by unfold padK; rw [ec, zeros_eq, show ((block : Int) - (k.size : Int)).toNat = block - k.size by omega]
    have M1 := Seg.now G F1 N1
    have K1 := K.but M1 (loose_L n0) (fun q => hPL (List.mem_singleton.mp q))
    obtain ⟨big9, F9, N9, G9⟩ := seg (S := []) F1 But.refl (fun _ h => nomatch h) (fun h => nomatch h)
    refine hQ _ _ _ big9 ?t2 F9 N9 G9 (M1.mono (fun a ha => by cases List.mem_singleton.mp ha; exact .head _)) K1 (fun y h1 h2 => by simp only [if_neg h1, if_neg h2]) ?k2
    case k2 => rw [e9]; rfl
  · rename Fr _ _ _ _ => F1
    rename News _ _ _ _ => N1
    have M1 := Seg.now G F1 N1
    have K1 := K.but M1 (loose_L n0) (fun q => hPL (List.mem_singleton.mp q))
    obtain ⟨big9, F9, N9, G9⟩ := seg (S := []) F1 But.refl (fun _ h => nomatch h) (fun h => nomatch h)
    rename ¬ ((block : Int) < _) => e1
    rename ¬ (_ < (block : Int)) => e2
    have ec : cutK k size block = k := by unfold cutK; rw [if_neg (by omega)]
    refine hQ _ _ _ big9 tk0 F9 N9 G9 (M1.mono (fun a ha => by cases List.mem_singleton.mp ha; exact .head _)) K1 (fun y h1 h2 => if_neg h2) ?_
    have : padK k size block = k := by unfold padK; rw [ec, show block - k.size = 0 by omega]; simp
    rw [this]
    exact hm2

end
end Mine
namespace Mine
noncomputable section
open PySem PySem.W PySem.Calls PyProof.Rows
set_option maxRecDepth 100000
set_option maxHeartbeats 4000000
set_option linter.unusedVariables false
local macro_rules | `(tactic| walk_at "no such stop") => `(tactic| skip)
local macro_rules | `(tactic| walk_at "no such stop") => `(tactic| skip)
local macro_rules | `(tactic| walk_at "no such stop") => `(tactic| skip)
local macro_rules | `(tactic| walk_at "no such stop") => `(tactic| skip)
local macro_rules | `(tactic| walk_at "no such stop") => `(tactic| skip)
local macro_rules | `(tactic| walk_at "no such stop") => `(tactic| skip)
local macro_rules | `(tactic| walk_at "no such stop") => `(tactic| skip)
local macro_rules | `(tactic| walk_at "no such stop") => `(tactic| skip)
local macro_rules | `(tactic| walk_at "eval Name") => `(tactic| (k_dflt (refine' nameM ?F ?v ?_ ?a ?b ?c; (case F => k_asm); (case v => first | with_reducible assumption | rfl | assumption); (case a => rfl); (case b => rfl); (case c => decide))))
local macro_rules | `(tactic| walk_at "call ref") => `(tactic| (
  (with_reducible rename Frag.In _ _ => kX); (with_reducible rename Fr _ _ _ _ => kF); (with_reducible rename News _ _ _ _ => kN); (with_reducible rename InfI _ _ _ _ _ _ => kI); (with_reducible rename Top _ _ _ _ _ _ => kT);
  k_dflt (
  refine' s_lookup (Frag.In.keeps kX (Fr.keep kF)) (Top.keeps kT (Fr.keep kF)) ?rm (Fr.keep kF _ _ (And.left kI)) ?_;
  (case rm => (show _ + 1 + 0 < recursionLimit; omega));
  intro h9 tk9 st9 sz9; have F9 := Fr.keeps kF st9; have N9 := News.keepsAll kN st9; clear kF kN)))
local macro_rules | `(tactic| walk_at "assign Tuple cons ref") => `(tactic| (
  (with_reducible rename Frag.In _ _ => kX); (with_reducible rename Fr _ _ _ _ => kF); (with_reducible rename News _ _ _ _ => kN); (with_reducible rename InfI _ _ _ _ _ _ => kI); (with_reducible rename Top _ _ _ _ _ _ => kT);
  (rw [assign_Tuple]);
  k_dflt (
  refine' wpAny_bind (wpAny_standAt (unpackI kX kT kF kN (InfI.keeps kI (Fr.keep kF)) (by assumption) ?rm rfl rfl ?_));
  (case rm => (show _ + 1 + 1 < recursionLimit; omega));
  intro t19 t29 h9 tk9 F9 N9 st9; clear kF kN)))
theorem a_bytes {w : World} {A : Around} {s : Shared} {mg mb m : Str → Option Value} {mean : ExcName → Option Value} {base : Heap} {L : Addr} {big : List (Addr × Obj)} {cl : List (Str × Addr)}
    (KX : (KK w.params).In base) (KT : Top topProg l0 mean mg mb base) (F : Fr base L s.heap m) (N : News base L s.heap big) (G : Seg base L s.heap big) {c P x dx : Addr} {size block : Nat} {k : Array UInt8} {tk0 : Tok} {Q : Flow → Shared → Prop} (hd : A.depth + 5 < recursionLimit) (hh : A.handled = none) (hm1 : m "digest" = some (.ref x)) (hm2 : m "key" = some (.bytes k tk0)) (hI : InfI base x dx c size block) (hb16 : 16 ≤ block) (hb : block ≤ 32)
    (hQ : ∀ m' h' tk big' t1 t2, Fr base L h' m' → News base L h' big' → Seg base L h' big' → But [L] s.heap h' → (∀ y : Str, y ≠ "digest_info" → y ≠ "const" → y ≠ "digest_size" → y ≠ "block_size" → m' y = m y) → m' "digest_info" = some (.ref x) → m' "const" = some (.ref c) → m' "digest_size" = some (.int size t1) → m' "block_size" = some (.int block t2) → Q .next { s with heap := h', toks := tk }) :
    wpAny (model pw w) (A.deeper (envX "compile_hmac" (fScope (fS 16)) L 188 (.ref 187) cl)) (execs (List.take 5 (fBody (fS 16))) (envX "compile_hmac" (fScope (fS 16)) L 188 (.ref 187) cl)) Q (fun _ _ => False) s := by
  have hfill : KK w.params = KK w.params ∧ PySem.Challenge.rw_aj5027_01 = PySem.Challenge.rw_aj5027_01 := by
    k_fill
    exact ⟨rfl, rfl⟩
  clear hfill
  show wpAny _ _ (execs [_, _, _, _, _] _) _ _ _
  have n0 := F.ns
  k_steps
  rename Fr _ _ _ _ => F9
  rename News _ _ _ _ => N9
  have M9 := Seg.now G F9 N9
  obtain ⟨big9, F9, N9, G9⟩ := seg (S := []) F9 But.refl (fun _ h => nomatch h) (fun h => nomatch h)
  refine hQ _ _ _ big9 ?t1 ?t2 F9 N9 G9 M9 (fun y h1 h2 h3 h4 => by simp only [if_neg h1, if_neg h2, if_neg h3, if_neg h4]) ?a ?b ?c ?d
  case a => rfl
  case b => rfl
  case c => rfl
  case d => rfl

end
end Mine
namespace Mine
noncomputable section
open PySem PySem.W PySem.Calls PyProof.Rows Builtin
set_option maxRecDepth 100000
set_option maxHeartbeats 4000000
set_option linter.unusedVariables false

/-- utf-8 -/
def utf8 (x : Str) : Array UInt8 := x.cps.foldl (fun acc y => acc ++ (Str.utf8Of y).toArray) #[]
theorem two_turns {α β : Type} (n : Nat) (a b : β) (g : β → α) (f : Nat → β → Sem (ForInStep β)) (h00 : n = 0 → a = b) (h0 : 0 < n → ∀ i, f i a = pure (.yield b)) (h1 : ∀ i, f i b = pure (.done b)) :
    (forIn (List.range' 0 n) a f >>= fun s => pure (g s)) = pure (g b) := by
  match n with
  | 0 => rw [h00 rfl]; rfl
  | 1 =>
    show (forIn [0] a f >>= fun s => pure (g s)) = _
    rw [List.forIn_cons, h0 (by decide)]
    rfl
  | n + 2 =>
    show (forIn (0 :: 1 :: List.range' 2 n) a f >>= fun s => pure (g s)) = _
    rw [List.forIn_cons, h0 (by omega)]
    show ((forIn (1 :: List.range' 2 n) b f) >>= fun s => pure (g s)) = _
    rw [List.forIn_cons, h1]
    rfl
open Builtin._codecs in
theorem encode_narrow (id : String) (self : Value) (x : Str) (hb : ∀ c ∈ x.cps, Str.isSurrogate c = false) (hz : (utf8 x).size ≤ 1000) : encodeNarrow id utf8Codec none self x = pure (utf8 x) := by
  have hf : x.cps.findIdx? Str.isSurrogate = none := by
    rw [Array.findIdx?_eq_none_iff]
    exact hb
  unfold encodeNarrow
  simp only [Std.Legacy.Range.forIn_eq_forIn_range']
  refine two_turns ([:x.length].size) ((0, #[], {}) : Nat × Array UInt8 × Faults) (x.cps.size, utf8 x, {}) (fun s => s.2.1) _ ?_ ?_ ?_
  · intro h
    have h9 : x.cps.size = 0 := by simpa [Std.Legacy.Range.size, Str.length] using h
    have : x.cps = #[] := Array.eq_empty_of_size_eq_zero h9
    unfold utf8
    rw [this]; rfl
  · intro h i
    have h9 : 0 < x.cps.size := by simpa [Std.Legacy.Range.size, Str.length] using h
    have e1 : x.cps[0]? = some x.cps[0] := Array.getElem?_eq_getElem h9
    dsimp only
    rw [if_neg (by decide), e1]
    dsimp only
    have e2 : utf8Codec.bad x.cps[0] = false := hb _ (Array.getElem_mem h9)
    rw [if_pos (by rw [e2]; rfl)]
    have e3 : x.cps.extract 0 x.cps.size = x.cps := Array.extract_size
    rw [e3, show utf8Codec.bad = Str.isSurrogate from rfl, hf]
    simp only [Option.getD_none, e3, Nat.zero_add]
    rfl
  · intro i
    dsimp only
    rw [if_neg (by rw [sizeLine_eq]; omega), Array.getElem?_eq_none (Nat.le_refl _)]
open Builtin._codecs in
theorem enc_tree (x : Str) (t u : Tok) : «str.encode» ⟨[.str x t, .str (Str.ofString "utf-8") u], []⟩ = (do ret (← encodeRoad "str.encode" (.str x t) x (Str.ofString "utf-8") none)) := by first | rfl | kernel_rfl
theorem enc_call {prog : Program} {w : World} {A : Around} {E : Value → Shared → Prop} {s : Shared} {x : Str} {t u : Tok} {Q : Value → Shared → Prop} (hb : ∀ c ∈ x.cps, Str.isSurrogate c = false) (hz : (utf8 x).size ≤ 1000) (h : ∀ t' k, Q (.bytes (utf8 x) t') { s with toks := k }) :
    wpAny (model prog w) A (call (.builtin "str.encode") [.str x t, .str (Str.ofString "utf-8") u]) Q E s := by
  refine wpAny_call_entry F.slot_str_encode (typeIs_str s x t) F.entry_str_encode ?_ (F.args_str_encode_2 _ _)
  rw [enc_tree, encodeRoad_utf8, encode_narrow _ _ x hb hz]
  refine wpAny_bind (wpAny_bind (wpAny_pure (wpAny_mkBytes (wpAny_pure ⟨_, rfl, h _ _⟩) (by rw [sizeLine_eq]; omega))))
theorem enc_method {M : Model} {A : Around} {E : Value → Shared → Prop} {s : Shared} {x : Str} {t : Tok} {pl : Sem Bool} {Q : Value × List Value → Shared → Prop} (h : Q (.builtin "str.encode", [.str x t]) s) : wpAny M A (getMethod (.str x t) "encode" pl) Q E s :=
  getMethod_builtin (typeIs_str s x t) F.plainAttrs_str F.slot_str_encode F.type_str_encode (fun a e => nomatch e) h

end
end Mine
namespace Mine
noncomputable section
open PySem PySem.W PySem.Calls PyProof.Rows
set_option maxRecDepth 100000
set_option maxHeartbeats 4000000
set_option linter.unusedVariables false

local macro_rules | `(tactic| walk_at "getMethod str") => `(tactic| (k_dflt (refine enc_method ?_)))
local macro_rules | `(tactic| walk_at "call builtin:str.encode") => `(tactic| (k_dflt (refine' enc_call ?b ?z ?_; (case b => assumption); (case z => assumption)); intro _ _))
theorem s_tobytes {w : World} {A : Around} {s : Shared} {mg mb : Str → Option Value} {mean : ExcName → Option Value} {z : Str} {t t1 : Tok} {Q : Value → Shared → Prop}
    (X : (KK w.params).In s.heap) (T : Top topProg l0 mean mg mb s.heap) (hd : A.depth + 0 < recursionLimit) (hb : ∀ c ∈ z.cps, Str.isSurrogate c = false) (hz : (utf8 z).size ≤ 1000) (hQ : ∀ t' h' tk, s.heap.StaysIn h' → s.heap.objs.size ≤ h'.objs.size → Q (.bytes (utf8 z) t') { s with heap := h', toks := tk }) :
    wpAny (model pw w) A (call (.ref 113) [.str z t] [("param", .str "key" t1)]) Q (fun _ _ => False) s := by
  have hfill : KK w.params = KK w.params ∧ PySem.Challenge.rw_aj5027_01 = PySem.Challenge.rw_aj5027_01 := by
    k_fill
    exact ⟨rfl, rfl⟩
  clear hfill
  refine wpAny_call ?_
  refine' enterK (binds := [("source", .str z t), ("encoding", .str "utf-8" 305), ("param", .str "key" t1), ("source_encoding", .none)]) X T.nolimit ?ho ?hcd ?room ?hb ?hloc ?_ ?c2 ?c3 ?c4 ?c5
  case ho => k_is
  case hcd => k_is
  case room => omega
  case hb => exact binds_K X rfl (by k_is) rfl rfl rfl
  case hloc => exact locs rfl
  case c2 => rfl
  case c3 => rfl
  case c4 => rfl
  case c5 => decide
  intro L h₁ F N
  have KX := X
  have KT := T
  clear X T
  dsimp only
  k_steps
  rename Fr _ _ _ _ => F9
  exact hQ _ _ _ F9.keep (szF F9)
local macro_rules | `(tactic| walk_at "eval Name") => `(tactic| (k_dflt (refine' nameM ?F ?v ?_ ?a ?b ?c; (case F => k_asm); (case v => first | with_reducible assumption | rfl | assumption); (case a => rfl); (case b => rfl); (case c => decide))))
local macro_rules | `(tactic| walk_at "call ref") => `(tactic| (
  (with_reducible rename Frag.In _ _ => kX); (with_reducible rename Fr _ _ _ _ => kF); (with_reducible rename News _ _ _ _ => kN); (with_reducible rename InfI _ _ _ _ _ _ => kI); (with_reducible rename Top _ _ _ _ _ _ => kT);
  k_dflt (
  refine' s_lookup (Frag.In.keeps kX (Fr.keep kF)) (Top.keeps kT (Fr.keep kF)) ?rm (Fr.keep kF _ _ (And.left kI)) ?_;
  (case rm => (show _ + 1 + 0 < recursionLimit; omega));
  intro h9 tk9 st9 sz9; have F9 := Fr.keeps kF st9; have N9 := News.keepsAll kN st9; clear kF kN)))
local macro_rules | `(tactic| walk_at "assign Tuple cons ref") => `(tactic| (
  (with_reducible rename Frag.In _ _ => kX); (with_reducible rename Fr _ _ _ _ => kF); (with_reducible rename News _ _ _ _ => kN); (with_reducible rename InfI _ _ _ _ _ _ => kI); (with_reducible rename Top _ _ _ _ _ _ => kT);
  (rw [assign_Tuple]);
  k_dflt (
  refine' wpAny_bind (wpAny_standAt (unpackI kX kT kF kN (InfI.keeps kI (Fr.keep kF)) (by assumption) ?rm rfl rfl ?_));
  (case rm => (show _ + 1 + 1 < recursionLimit; omega));
  intro t19 t29 h9 tk9 F9 N9 st9; clear kF kN)))
local macro_rules | `(tactic| walk_at "call ref") => `(tactic| (
  (with_reducible rename Frag.In _ _ => kX); (with_reducible rename Fr _ _ _ _ => kF); (with_reducible rename News _ _ _ _ => kN); (with_reducible rename Top _ _ _ _ _ _ => kT);
  k_dflt (
  refine' s_tobytes (Frag.In.keeps kX (Fr.keep kF)) (Top.keeps kT (Fr.keep kF)) ?rm ?b ?z ?_;
  (case rm => (show _ + 1 + 0 < recursionLimit; omega)); (case b => assumption); (case z => assumption);
  intro t9 h9 tk9 st9 sz9; have F9 := Fr.keeps kF st9; have N9 := News.keepsAll kN st9; clear kF kN)))
theorem a_str {w : World} {A : Around} {s : Shared} {mg mb m : Str → Option Value} {mean : ExcName → Option Value} {base : Heap} {L : Addr} {big : List (Addr × Obj)} {cl : List (Str × Addr)}
    (KX : (KK w.params).In base) (KT : Top topProg l0 mean mg mb base) (F : Fr base L s.heap m) (N : News base L s.heap big) (G : Seg base L s.heap big) {c P x dx : Addr} {size block : Nat} {z : Str} {tk0 : Tok} {Q : Flow → Shared → Prop} (hd : A.depth + 5 < recursionLimit) (hh : A.handled = none) (hm1 : m "digest" = some (.ref x)) (hm2 : m "key" = some (.str z tk0)) (hI : InfI base x dx c size block) (hb16 : 16 ≤ block) (hb : block ≤ 32) (hz1 : ∀ c ∈ z.cps, Str.isSurrogate c = false) (hz2 : (utf8 z).size ≤ 1000)
    (hQ : ∀ m' h' tk big' t1 t2 t3, Fr base L h' m' → News base L h' big' → Seg base L h' big' → But [L] s.heap h' → (∀ y : Str, y ≠ "key" → y ≠ "digest_info" → y ≠ "const" → y ≠ "digest_size" → y ≠ "block_size" → m' y = m y) → m' "key" = some (.bytes (utf8 z) t3) → m' "digest_info" = some (.ref x) → m' "const" = some (.ref c) → m' "digest_size" = some (.int size t1) → m' "block_size" = some (.int block t2) → Q .next { s with heap := h', toks := tk }) :
    wpAny (model pw w) (A.deeper (envX "compile_hmac" (fScope (fS 16)) L 188 (.ref 187) cl)) (execs (List.take 5 (fBody (fS 16))) (envX "compile_hmac" (fScope (fS 16)) L 188 (.ref 187) cl)) Q (fun _ _ => False) s := by
  have hfill : KK w.params = KK w.params ∧ PySem.Challenge.rw_aj5027_01 = PySem.Challenge.rw_aj5027_01 := by
    k_fill
    exact ⟨rfl, rfl⟩
  clear hfill
  show wpAny _ _ (execs [_, _, _, _, _] _) _ _ _
  have n0 := F.ns
  k_steps
  rename Fr _ _ _ _ => F9
  rename News _ _ _ _ => N9
  have M9 := Seg.now G F9 N9
  obtain ⟨big9, F9, N9, G9⟩ := seg (S := []) F9 But.refl (fun _ h => nomatch h) (fun h => nomatch h)
  refine hQ _ _ _ big9 ?zt1 ?zt2 ?zt3 F9 N9 G9 M9 (fun y h0 h1 h2 h3 h4 => by simp only [if_neg h0, if_neg h1, if_neg h2, if_neg h3, if_neg h4]) ?zk ?za ?zb ?zc ?zd
  case zk => rfl
  case za => rfl
  case zb => rfl
  case zc => rfl
  case zd => rfl

end
end Mine
namespace Mine
noncomputable section
open PySem PySem.W PySem.Calls PyProof.Rows
set_option maxRecDepth 100000
set_option maxHeartbeats 4000000
set_option linter.unusedVariables false

theorem fn188 {P : Params} {h : Heap} (X : (KK P).In h) : FnO h 188 (fS 16) "compile_hmac" [] (.ref 181) (.ref 187) := fnK X (doc := .str (docF (fS 16)) 2479) (pm := .str ("passlib.crypto.digest" : Str) 318) (ct := .none) (oc := .type "function") (an := none) (od := none) (sl := #[]) (od2 := none) (sl2 := #[]) (vs := match (o187 P).data with | .fields v => v | _ => #[]) (t := 2464) (by kernel_rfl) (by kernel_rfl) (by kernel_rfl)
theorem c_plain_bytes {w : World} {A : Around} {s : Shared} {mg mb : Str → Option Value} {mean : ExcName → Option Value} {x dx c P : Addr} {size block : Nat} {k : Array UInt8} {tk0 : Tok} {ps : Array Value} {Q : Value → Shared → Prop}
    (X : (KK w.params).In s.heap) (T : Top topProg l0 mean mg mb s.heap) (hd : A.depth + 5 < recursionLimit) (hh : A.handled = none) (hk : k.size ≤ 80) (hs1 : 1 ≤ size) (hs2 : size ≤ 20) (hsb : size ≤ block) (hb16 : 16 ≤ block) (hb : block ≤ 32)
    (hI : InfI s.heap x dx c size block) (K : ConstO s.heap c P size block) (hP183 : P ≠ 183) (t183 : s.heap.get? 183 = some (tabObj ps)) (ht : TriplesOk ps.toList) (hnf : codeAmong (fPos pHm) ps.toList = none)
    (hQ : ∀ f fx ic oc lI lO c' P' h' tk, But [183, P] s.heap h' → s.heap.objs.size ≤ h'.objs.size → ConstO h' c P size block → h'.get? 183 = some (tabObj (ps ++ #[rawInt (fPos pHm).line, rawInt (fPos pHm).col, .ref c'])) → AttrO h' f fx x →
      FnO h' f pHm qHm [("_outer_copy", oc), ("_inner_copy", ic)] .none (.ref c') → CodeHd h' c' P' → h'.get? P' = some (tabObj #[]) → s.heap.objs.size ≤ P' → CopyC h' ic c lI (xorA (padK k size block) 54) → CopyC h' oc c lO (xorA (padK k size block) 92) → s.heap.get? lI = none → s.heap.get? lO = none → s.heap.get? fx = none → Q (.ref f) { s with heap := h', toks := tk }) :
    wpAny (model pw w) A (call (.ref 188) [.ref x, .bytes k tk0]) Q (fun _ _ => False) s := by
  have hfill : KK w.params = KK w.params ∧ PySem.Challenge.rw_aj5027_01 = PySem.Challenge.rw_aj5027_01 := by
    k_fill
    exact ⟨rfl, rfl⟩
  clear hfill
  have hP1 : s.heap.get? P ≠ none ∧ P ≠ 0 ∧ P ∉ asK ∧ ∃ qs, s.heap.get? P = some (tabObj qs) := by
    obtain ⟨_, _, _, _, _, _, _, _, _, _, _, ⟨a, b, qs, e, _⟩, _⟩ := K
    exact ⟨(by rw [e]; exact fun q => (nomatch q)), a, b, qs, e⟩
  obtain ⟨_, hP0, hPK, qs, eP⟩ := hP1
  have hs2 : ∀ a ∈ [183, P], a ≠ 0 ∧ a ∉ asK := fun a ha => by
    rcases List.mem_cons.mp ha with rfl | ha
    · exact t183k
    · cases List.mem_singleton.mp ha; exact ⟨hP0, hPK⟩
  have hl2 : Loose s.heap [183, P] := fun a ha o e => by
    rcases List.mem_cons.mp ha with rfl | ha
    · rw [t183] at e; cases e; rfl
    · cases List.mem_singleton.mp ha; rw [eP] at e; cases e; rfl
  have notT : ∀ {a o}, s.heap.get? a = some o → o.cls ≠ .none → a ∉ [183, P] := fun {a o} e hc q => by
    rcases List.mem_cons.mp q with q | q
    · rw [q, t183] at e; cases e; exact hc rfl
    · rw [List.mem_singleton.mp q, eP] at e; cases e; exact hc rfl
  have hsz9 := size_K X
  have XS := X
  refine wpAny_call ?_
  refine' enterKC (binds := [("digest", .ref x), ("key", .bytes k tk0), ("multipart", .bool false)]) (m := fun y => if y = "multipart" then some (.bool false) else if y = "key" then some (.bytes k tk0) else if y = "digest" then some (.ref x) else none) (cm := fun _ => none) X T [183, P] hs2 (.of hl2) (fn188 X) ?room ?hb ?hkind ?hL ?hC ?_ ?c2 ?c3 ?c4
  case room => omega
  case hb => exact fun _ _ _ => binds_K X rfl (by k_is) rfl rfl rfl
  case hkind => first | decide | (intro n; decide) | (intro n x hx; (repeat' (first | (rcases List.mem_cons.mp hx with rfl | hx; first | exact .inl rfl | exact .inr ⟨rfl, rfl⟩) | cases hx)))
  case hL => exact fun _ _ => rfl
  case hC => exact fun _ _ => rfl
  case c2 => rfl
  case c3 => rfl
  case c4 => rfl
  intro base L h₁ big tk M0 B0 S0 KX KT F N G hL K1 CC
  have hIB : InfI base x dx c size block := ⟨M0 _ _ hI.1 (notT hI.1 (by intro q; cases q)), hI.2.but M0 (by obtain ⟨es, n, _, _, e, _⟩ := hI.2; exact notT e (by intro q; cases q))⟩
  have hcl : cellsFrom (L + 1) (fScope (fS 16)).names [] = ([("_outer_copy", L + 1 + 1), ("_inner_copy", L + 1)] : List (Str × Addr)) := rfl
  rw [hcl] at CC ⊢
  have ci := CC "_inner_copy" (L + 1) rfl
  have co := CC "_outer_copy" (L + 1 + 1) rfl
  have hL9 : 349 < L := Nat.lt_of_lt_of_le hsz9 hL
  have hPs := Heap.lt_size eP
  have hPL : P ≠ L := fun q => Nat.lt_irrefl _ (Nat.lt_of_lt_of_le (q ▸ hPs) hL)
  have h183L : (183 : Addr) ≠ L := Nat.ne_of_lt (Nat.lt_trans (by decide) hL9)
  have hPb : base.get? P = none := S0 P (.tail _ (.head _))
  have h183b : base.get? 183 = none := S0 183 (.head _)
  have K1' := K.but (But.of_stays K1 (S := [])) Soft.nil.loose (fun q => nomatch q)
  have n0 := F.ns
  have Lf : Loose h₁ [L] := loose_L n0
  show wpAny _ _ (execs (List.take 5 (fBody (fS 16)) ++ (List.take 3 (List.drop 5 (fBody (fS 16))) ++ List.drop 8 (fBody (fS 16)))) _) _ _ _
  refine wpAny_execs_app (a_bytes (P := P) (m := fun y => if y = "multipart" then some (.bool false) else if y = "key" then some (.bytes k tk0) else if y = "digest" then some (.ref x) else none) KX KT F N G hd hh rfl rfl hIB hb16 hb fun m1 h2 tk2 big2 ta tb F2 N2 G2 M2 m1y m1a m1b m1c m1d => ?_)
  have m1k : m1 "key" = some (.bytes k tk0) := (m1y "key" (by decide) (by decide) (by decide) (by decide)).trans rfl
  have m1m : m1 "multipart" = some (.bool false) := (m1y "multipart" (by decide) (by decide) (by decide) (by decide)).trans rfl
  have KK2 := K1'.but M2 Lf (fun q => hPL (List.mem_singleton.mp q))
  dsimp only
  refine wpAny_execs_app (b_key KX KT F2 N2 G2 hd m1b m1k m1c m1d hk hs1 (by assumption) hsb hb KK2 hPb hPL fun m2 h3 tk3 big3 td F3 N3 G3 M3 K3 m2y m2k => ?_)
  dsimp only
  have pad80 : (padK k size block).size ≤ 1000 := by
    unfold padK
    rw [Array.size_append, Array.size_replicate]
    have : (cutK k size block).size ≤ 80 := by unfold cutK; split; (rw [lawSum_size]; omega); exact hk
    omega
  have tr : ∀ a o, h₁.get? a = some o → a ≠ L → a ≠ P → h3.get? a = some o := fun a o e h1 h2 => M3 _ _ (M2 _ _ e (fun q => h1 (List.mem_singleton.mp q))) (fun q => by
    rcases List.mem_cons.mp q with q | q
    · exact h1 q
    · exact h2 (List.mem_singleton.mp q))
  have e1 : P ≠ L + 1 ∧ P ≠ L + 1 + 1 := ⟨Nat.ne_of_lt (Nat.lt_succ_of_lt (Nat.lt_of_lt_of_le hPs hL)), Nat.ne_of_lt (Nat.lt_succ_of_lt (Nat.lt_succ_of_lt (Nat.lt_of_lt_of_le hPs hL)))⟩
  have ci3 : h3.IsCell (L + 1) none := let ⟨o, e, d⟩ := ci.1; ⟨o, tr _ _ e (Nat.succ_ne_self _) e1.1.symm, d⟩
  have co3 : h3.IsCell (L + 1 + 1) none := let ⟨o, e, d⟩ := co.1; ⟨o, tr _ _ e (Nat.ne_of_gt co.2.1) e1.2.symm, d⟩
  have t3 : h3.get? 183 = some (tabObj ps) := tr _ _ (K1 _ _ t183) h183L hP183.symm
  have back : ∀ {a}, h3.get? a = none → a ≠ L → a ≠ P → s.heap.get? a = none := fun {a} e h1 h2 => by
    cases q : s.heap.get? a with
    | none => rfl
    | some o => rw [tr _ _ (K1 _ _ q) h1 h2] at e; cases e
  have exL : h3.get? L ≠ none := by obtain ⟨o', es, ep, e', _⟩ := F3.ns; rw [e']; exact fun q => nomatch q
  have exP : h3.get? P ≠ none := by obtain ⟨_, _, _, _, _, _, _, _, _, _, _, ⟨_, _, _, e, _⟩, _⟩ := K3; rw [e]; exact fun q => nomatch q
  have back2 : ∀ {a}, h3.get? a = none → s.heap.get? a = none := fun {a} e => back e (fun q => exL (q ▸ e)) (fun q => exP (q ▸ e))
  have z3 : s.heap.objs.size ≤ h3.objs.size := Nat.le_trans hL (Nat.le_of_lt F3.ns.lt)
  refine e_plain KX KT F3 N3 G3 hd ((m2y "const" (by decide) (by decide)).trans m1b) m2k ((m2y "multipart" (by decide) (by decide)).trans m1m) ((m2y "digest_info" (by decide) (by decide)).trans m1a) pad80 K3 hPb hPL ⟨ci3, ci.2⟩ ⟨co3, co.2⟩ (Nat.ne_of_lt (Nat.lt_succ_self _)) t3 ht hnf h183b hP183 hL9
    fun f fx lI lO c' P' h' tk' M' z' K' t' at' fn' cd' tp' hp' ca' cb' nI nO nF => ?_
  dsimp only
  refine hQ f fx _ _ lI lO c' P' h' tk' (fun b o e hb => ?_) (Nat.le_trans z3 z') K' t' at' fn' cd' tp' (Nat.le_trans z3 hp') ca' cb' (back2 nI) (back2 nO) (back2 nF)
  have hbz := Heap.lt_size e
  have nb : ∀ a, s.heap.objs.size ≤ a → b ≠ a := fun a ha q => Nat.lt_irrefl _ (Nat.lt_of_lt_of_le (q ▸ hbz) ha)
  have b1 : b ≠ L := nb _ hL
  have b2 : b ≠ P := fun q => hb (q ▸ .tail _ (.head _))
  have b3 : b ≠ 183 := fun q => hb (q ▸ .head _)
  refine M' _ _ (tr _ _ (K1 _ _ e) b1 b2) (fun q => ?_)
  rcases List.mem_cons.mp q with q | q
  · exact b1 q
  rcases List.mem_cons.mp q with q | q
  · exact b2 q
  rcases List.mem_cons.mp q with q | q
  · exact b3 q
  rcases List.mem_cons.mp q with q | q
  · exact nb _ (Nat.le_succ_of_le hL) q
  · exact nb _ (Nat.le_succ_of_le (Nat.le_succ_of_le hL)) (List.mem_singleton.mp q)
theorem c_multi_bytes {w : World} {A : Around} {s : Shared} {mg mb : Str → Option Value} {mean : ExcName → Option Value} {x dx c P : Addr} {size block : Nat} {k : Array UInt8} {tk0 : Tok} {ps : Array Value} {Q : Value → Shared → Prop}
    (X : (KK w.params).In s.heap) (T : Top topProg l0 mean mg mb s.heap) (hd : A.depth + 5 < recursionLimit) (hh : A.handled = none) (hk : k.size ≤ 80) (hs1 : 1 ≤ size) (hs2 : size ≤ 20) (hsb : size ≤ block) (hb16 : 16 ≤ block) (hb : block ≤ 32)
    (hI : InfI s.heap x dx c size block) (K : ConstO s.heap c P size block) (hP183 : P ≠ 183) (t183 : s.heap.get? 183 = some (tabObj ps)) (ht : TriplesOk ps.toList) (hnf : codeAmong (fPos mHm) ps.toList = none)
    (hQ : ∀ f fx ic oc lI lO c' P' h' tk, But [183, P] s.heap h' → s.heap.objs.size ≤ h'.objs.size → ConstO h' c P size block → h'.get? 183 = some (tabObj (ps ++ #[rawInt (fPos mHm).line, rawInt (fPos mHm).col, .ref c'])) → AttrO h' f fx x →
      FnO h' f mHm qHm [("_outer_copy", oc), ("_inner_copy", ic)] .none (.ref c') → CodeHd h' c' P' → h'.get? P' = some (tabObj #[]) → s.heap.objs.size ≤ P' → CopyC h' ic c lI (xorA (padK k size block) 54) → CopyC h' oc c lO (xorA (padK k size block) 92) → s.heap.get? lI = none → s.heap.get? lO = none → s.heap.get? fx = none → Q (.ref f) { s with heap := h', toks := tk }) :
    wpAny (model pw w) A (call (.ref 188) [.ref x, .bytes k tk0, .bool true]) Q (fun _ _ => False) s := by
  have hfill : KK w.params = KK w.params ∧ PySem.Challenge.rw_aj5027_01 = PySem.Challenge.rw_aj5027_01 := by
    k_fill
    exact ⟨rfl, rfl⟩
  clear hfill
  have hP1 : s.heap.get? P ≠ none ∧ P ≠ 0 ∧ P ∉ asK ∧ ∃ qs, s.heap.get? P = some (tabObj qs) := by
    obtain ⟨_, _, _, _, _, _, _, _, _, _, _, ⟨a, b, qs, e, _⟩, _⟩ := K
    exact ⟨(by rw [e]; exact fun q => (nomatch q)), a, b, qs, e⟩
  obtain ⟨_, hP0, hPK, qs, eP⟩ := hP1
  have hs2 : ∀ a ∈ [183, P], a ≠ 0 ∧ a ∉ asK := fun a ha => by
    rcases List.mem_cons.mp ha with rfl | ha
    · exact t183k
    · cases List.mem_singleton.mp ha; exact ⟨hP0, hPK⟩
  have hl2 : Loose s.heap [183, P] := fun a ha o e => by
    rcases List.mem_cons.mp ha with rfl | ha
    · rw [t183] at e; cases e; rfl
    · cases List.mem_singleton.mp ha; rw [eP] at e; cases e; rfl
  have notT : ∀ {a o}, s.heap.get? a = some o → o.cls ≠ .none → a ∉ [183, P] := fun {a o} e hc q => by
    rcases List.mem_cons.mp q with q | q
    · rw [q, t183] at e; cases e; exact hc rfl
    · rw [List.mem_singleton.mp q, eP] at e; cases e; exact hc rfl
  have hsz9 := size_K X
  have XS := X
  refine wpAny_call ?_
  refine' enterKC (binds := [("digest", .ref x), ("key", .bytes k tk0), ("multipart", .bool true)]) (m := fun y => if y = "multipart" then some (.bool true) else if y = "key" then some (.bytes k tk0) else if y = "digest" then some (.ref x) else none) (cm := fun _ => none) X T [183, P] hs2 (.of hl2) (fn188 X) ?room ?hb ?hkind ?hL ?hC ?_ ?c2 ?c3 ?c4
  case room => omega
  case hb => exact fun _ _ _ => binds_K X rfl (by k_is) rfl rfl rfl
  case hkind => first | decide | (intro n; decide) | (intro n x hx; (repeat' (first | (rcases List.mem_cons.mp hx with rfl | hx; first | exact .inl rfl | exact .inr ⟨rfl, rfl⟩) | cases hx)))
  case hL => exact fun _ _ => rfl
  case hC => exact fun _ _ => rfl
  case c2 => rfl
  case c3 => rfl
  case c4 => rfl
  intro base L h₁ big tk M0 B0 S0 KX KT F N G hL K1 CC
  have hIB : InfI base x dx c size block := ⟨M0 _ _ hI.1 (notT hI.1 (by intro q; cases q)), hI.2.but M0 (by obtain ⟨es, n, _, _, e, _⟩ := hI.2; exact notT e (by intro q; cases q))⟩
  have hcl : cellsFrom (L + 1) (fScope (fS 16)).names [] = ([("_outer_copy", L + 1 + 1), ("_inner_copy", L + 1)] : List (Str × Addr)) := rfl
  rw [hcl] at CC ⊢
  have ci := CC "_inner_copy" (L + 1) rfl
  have co := CC "_outer_copy" (L + 1 + 1) rfl
  have hL9 : 349 < L := Nat.lt_of_lt_of_le hsz9 hL
  have hPs := Heap.lt_size eP
  have hPL : P ≠ L := fun q => Nat.lt_irrefl _ (Nat.lt_of_lt_of_le (q ▸ hPs) hL)
  have h183L : (183 : Addr) ≠ L := Nat.ne_of_lt (Nat.lt_trans (by decide) hL9)
  have hPb : base.get? P = none := S0 P (.tail _ (.head _))
  have h183b : base.get? 183 = none := S0 183 (.head _)
  have K1' := K.but (But.of_stays K1 (S := [])) Soft.nil.loose (fun q => nomatch q)
  have n0 := F.ns
  have Lf : Loose h₁ [L] := loose_L n0
  show wpAny _ _ (execs (List.take 5 (fBody (fS 16)) ++ (List.take 3 (List.drop 5 (fBody (fS 16))) ++ List.drop 8 (fBody (fS 16)))) _) _ _ _
  refine wpAny_execs_app (a_bytes (P := P) (m := fun y => if y = "multipart" then some (.bool true) else if y = "key" then some (.bytes k tk0) else if y = "digest" then some (.ref x) else none) KX KT F N G hd hh rfl rfl hIB hb16 hb fun m1 h2 tk2 big2 ta tb F2 N2 G2 M2 m1y m1a m1b m1c m1d => ?_)
  have m1k : m1 "key" = some (.bytes k tk0) := (m1y "key" (by decide) (by decide) (by decide) (by decide)).trans rfl
  have m1m : m1 "multipart" = some (.bool true) := (m1y "multipart" (by decide) (by decide) (by decide) (by decide)).trans rfl
  have KK2 := K1'.but M2 Lf (fun q => hPL (List.mem_singleton.mp q))
  dsimp only
  refine wpAny_execs_app (b_key KX KT F2 N2 G2 hd m1b m1k m1c m1d hk hs1 (by assumption) hsb hb KK2 hPb hPL fun m2 h3 tk3 big3 td F3 N3 G3 M3 K3 m2y m2k => ?_)
  dsimp only
  have pad80 : (padK k size block).size ≤ 1000 := by
    unfold padK
    rw [Array.size_append, Array.size_replicate]
    have : (cutK k size block).size ≤ 80 := by unfold cutK; split; (rw [lawSum_size]; omega); exact hk
    omega
  have tr : ∀ a o, h₁.get? a = some o → a ≠ L → a ≠ P → h3.get? a = some o := fun a o e h1 h2 => M3 _ _ (M2 _ _ e (fun q => h1 (List.mem_singleton.mp q))) (fun q => by
    rcases List.mem_cons.mp q with q | q
    · exact h1 q
    · exact h2 (List.mem_singleton.mp q))
  have e1 : P ≠ L + 1 ∧ P ≠ L + 1 + 1 := ⟨Nat.ne_of_lt (Nat.lt_succ_of_lt (Nat.lt_of_lt_of_le hPs hL)), Nat.ne_of_lt (Nat.lt_succ_of_lt (Nat.lt_succ_of_lt (Nat.lt_of_lt_of_le hPs hL)))⟩
  have ci3 : h3.IsCell (L + 1) none := let ⟨o, e, d⟩ := ci.1; ⟨o, tr _ _ e (Nat.succ_ne_self _) e1.1.symm, d⟩
  have co3 : h3.IsCell (L + 1 + 1) none := let ⟨o, e, d⟩ := co.1; ⟨o, tr _ _ e (Nat.ne_of_gt co.2.1) e1.2.symm, d⟩
  have t3 : h3.get? 183 = some (tabObj ps) := tr _ _ (K1 _ _ t183) h183L hP183.symm
  have back : ∀ {a}, h3.get? a = none → a ≠ L → a ≠ P → s.heap.get? a = none := fun {a} e h1 h2 => by
    cases q : s.heap.get? a with
    | none => rfl
    | some o => rw [tr _ _ (K1 _ _ q) h1 h2] at e; cases e
  have exL : h3.get? L ≠ none := by obtain ⟨o', es, ep, e', _⟩ := F3.ns; rw [e']; exact fun q => nomatch q
  have exP : h3.get? P ≠ none := by obtain ⟨_, _, _, _, _, _, _, _, _, _, _, ⟨_, _, _, e, _⟩, _⟩ := K3; rw [e]; exact fun q => nomatch q
  have back2 : ∀ {a}, h3.get? a = none → s.heap.get? a = none := fun {a} e => back e (fun q => exL (q ▸ e)) (fun q => exP (q ▸ e))
  have z3 : s.heap.objs.size ≤ h3.objs.size := Nat.le_trans hL (Nat.le_of_lt F3.ns.lt)
  refine e_multi KX KT F3 N3 G3 hd ((m2y "const" (by decide) (by decide)).trans m1b) m2k ((m2y "multipart" (by decide) (by decide)).trans m1m) ((m2y "digest_info" (by decide) (by decide)).trans m1a) pad80 K3 hPb hPL ⟨ci3, ci.2⟩ ⟨co3, co.2⟩ (Nat.ne_of_lt (Nat.lt_succ_self _)) t3 ht hnf h183b hP183 hL9
    fun f fx lI lO c' P' h' tk' M' z' K' t' at' fn' cd' tp' hp' ca' cb' nI nO nF => ?_
  dsimp only
  refine hQ f fx _ _ lI lO c' P' h' tk' (fun b o e hb => ?_) (Nat.le_trans z3 z') K' t' at' fn' cd' tp' (Nat.le_trans z3 hp') ca' cb' (back2 nI) (back2 nO) (back2 nF)
  have hbz := Heap.lt_size e
  have nb : ∀ a, s.heap.objs.size ≤ a → b ≠ a := fun a ha q => Nat.lt_irrefl _ (Nat.lt_of_lt_of_le (q ▸ hbz) ha)
  have b1 : b ≠ L := nb _ hL
  have b2 : b ≠ P := fun q => hb (q ▸ .tail _ (.head _))
  have b3 : b ≠ 183 := fun q => hb (q ▸ .head _)
  refine M' _ _ (tr _ _ (K1 _ _ e) b1 b2) (fun q => ?_)
  rcases List.mem_cons.mp q with q | q
  · exact b1 q
  rcases List.mem_cons.mp q with q | q
  · exact b2 q
  rcases List.mem_cons.mp q with q | q
  · exact b3 q
  rcases List.mem_cons.mp q with q | q
  · exact nb _ (Nat.le_succ_of_le hL) q
  · exact nb _ (Nat.le_succ_of_le (Nat.le_succ_of_le hL)) (List.mem_singleton.mp q)
theorem c_plain_str {w : World} {A : Around} {s : Shared} {mg mb : Str → Option Value} {mean : ExcName → Option Value} {x dx c P : Addr} {size block : Nat} {z : Str} {tk0 : Tok} {ps : Array Value} {Q : Value → Shared → Prop}
    (X : (KK w.params).In s.heap) (T : Top topProg l0 mean mg mb s.heap) (hd : A.depth + 5 < recursionLimit) (hh : A.handled = none) (hk : (utf8 z).size ≤ 80) (hz : ∀ c ∈ z.cps, Str.isSurrogate c = false) (hs1 : 1 ≤ size) (hs2 : size ≤ 20) (hsb : size ≤ block) (hb16 : 16 ≤ block) (hb : block ≤ 32)
    (hI : InfI s.heap x dx c size block) (K : ConstO s.heap c P size block) (hP183 : P ≠ 183) (t183 : s.heap.get? 183 = some (tabObj ps)) (ht : TriplesOk ps.toList) (hnf : codeAmong (fPos pHm) ps.toList = none)
    (hQ : ∀ f fx ic oc lI lO c' P' h' tk, But [183, P] s.heap h' → s.heap.objs.size ≤ h'.objs.size → ConstO h' c P size block → h'.get? 183 = some (tabObj (ps ++ #[rawInt (fPos pHm).line, rawInt (fPos pHm).col, .ref c'])) → AttrO h' f fx x →
      FnO h' f pHm qHm [("_outer_copy", oc), ("_inner_copy", ic)] .none (.ref c') → CodeHd h' c' P' → h'.get? P' = some (tabObj #[]) → s.heap.objs.size ≤ P' → CopyC h' ic c lI (xorA (padK (utf8 z) size block) 54) → CopyC h' oc c lO (xorA (padK (utf8 z) size block) 92) → s.heap.get? lI = none → s.heap.get? lO = none → s.heap.get? fx = none → Q (.ref f) { s with heap := h', toks := tk }) :
    wpAny (model pw w) A (call (.ref 188) [.ref x, .str z tk0]) Q (fun _ _ => False) s := by
  have hfill : KK w.params = KK w.params ∧ PySem.Challenge.rw_aj5027_01 = PySem.Challenge.rw_aj5027_01 := by
    k_fill
    exact ⟨rfl, rfl⟩
  clear hfill
  have hP1 : s.heap.get? P ≠ none ∧ P ≠ 0 ∧ P ∉ asK ∧ ∃ qs, s.heap.get? P = some (tabObj qs) := by
    obtain ⟨_, _, _, _, _, _, _, _, _, _, _, ⟨a, b, qs, e, _⟩, _⟩ := K
    exact ⟨(by rw [e]; exact fun q => (nomatch q)), a, b, qs, e⟩
  obtain ⟨_, hP0, hPK, qs, eP⟩ := hP1
  have hs2 : ∀ a ∈ [183, P], a ≠ 0 ∧ a ∉ asK := fun a ha => by
    rcases List.mem_cons.mp ha with rfl | ha
    · exact t183k
    · cases List.mem_singleton.mp ha; exact ⟨hP0, hPK⟩
  have hl2 : Loose s.heap [183, P] := fun a ha o e => by
    rcases List.mem_cons.mp ha with rfl | ha
    · rw [t183] at e; cases e; rfl
    · cases List.mem_singleton.mp ha; rw [eP] at e; cases e; rfl
  have notT : ∀ {a o}, s.heap.get? a = some o → o.cls ≠ .none → a ∉ [183, P] := fun {a o} e hc q => by
    rcases List.mem_cons.mp q with q | q
    · rw [q, t183] at e; cases e; exact hc rfl
    · rw [List.mem_singleton.mp q, eP] at e; cases e; exact hc rfl
  have hsz9 := size_K X
  have XS := X
  refine wpAny_call ?_
  refine' enterKC (binds := [("digest", .ref x), ("key", .str z tk0), ("multipart", .bool false)]) (m := fun y => if y = "multipart" then some (.bool false) else if y = "key" then some (.str z tk0) else if y = "digest" then some (.ref x) else none) (cm := fun _ => none) X T [183, P] hs2 (.of hl2) (fn188 X) ?room ?hb ?hkind ?hL ?hC ?_ ?c2 ?c3 ?c4
  case room => omega
  case hb => exact fun _ _ _ => binds_K X rfl (by k_is) rfl rfl rfl
  case hkind => first | decide | (intro n; decide) | (intro n x hx; (repeat' (first | (rcases List.mem_cons.mp hx with rfl | hx; first | exact .inl rfl | exact .inr ⟨rfl, rfl⟩) | cases hx)))
  case hL => exact fun _ _ => rfl
  case hC => exact fun _ _ => rfl
  case c2 => rfl
  case c3 => rfl
  case c4 => rfl
  intro base L h₁ big tk M0 B0 S0 KX KT F N G hL K1 CC
  have hIB : InfI base x dx c size block := ⟨M0 _ _ hI.1 (notT hI.1 (by intro q; cases q)), hI.2.but M0 (by obtain ⟨es, n, _, _, e, _⟩ := hI.2; exact notT e (by intro q; cases q))⟩
  have hcl : cellsFrom (L + 1) (fScope (fS 16)).names [] = ([("_outer_copy", L + 1 + 1), ("_inner_copy", L + 1)] : List (Str × Addr)) := rfl
  rw [hcl] at CC ⊢
  have ci := CC "_inner_copy" (L + 1) rfl
  have co := CC "_outer_copy" (L + 1 + 1) rfl
  have hL9 : 349 < L := Nat.lt_of_lt_of_le hsz9 hL
  have hPs := Heap.lt_size eP
  have hPL : P ≠ L := fun q => Nat.lt_irrefl _ (Nat.lt_of_lt_of_le (q ▸ hPs) hL)
  have h183L : (183 : Addr) ≠ L := Nat.ne_of_lt (Nat.lt_trans (by decide) hL9)
  have hPb : base.get? P = none := S0 P (.tail _ (.head _))
  have h183b : base.get? 183 = none := S0 183 (.head _)
  have K1' := K.but (But.of_stays K1 (S := [])) Soft.nil.loose (fun q => nomatch q)
  have n0 := F.ns
  have Lf : Loose h₁ [L] := loose_L n0
  show wpAny _ _ (execs (List.take 5 (fBody (fS 16)) ++ (List.take 3 (List.drop 5 (fBody (fS 16))) ++ List.drop 8 (fBody (fS 16)))) _) _ _ _
  refine wpAny_execs_app (a_str (P := P) (m := fun y => if y = "multipart" then some (.bool false) else if y = "key" then some (.str z tk0) else if y = "digest" then some (.ref x) else none) KX KT F N G hd hh rfl rfl hIB hb16 hb hz (Nat.le_trans hk (by decide)) fun m1 h2 tk2 big2 ta tb tc F2 N2 G2 M2 m1y m1k m1a m1b m1c m1d => ?_)
  have m1m : m1 "multipart" = some (.bool false) := (m1y "multipart" (by decide) (by decide) (by decide) (by decide) (by decide)).trans rfl
  have KK2 := K1'.but M2 Lf (fun q => hPL (List.mem_singleton.mp q))
  dsimp only
  refine wpAny_execs_app (b_key KX KT F2 N2 G2 hd m1b m1k m1c m1d hk hs1 (by assumption) hsb hb KK2 hPb hPL fun m2 h3 tk3 big3 td F3 N3 G3 M3 K3 m2y m2k => ?_)
  dsimp only
  have pad80 : (padK (utf8 z) size block).size ≤ 1000 := by
    unfold padK
    rw [Array.size_append, Array.size_replicate]
    have : (cutK (utf8 z) size block).size ≤ 80 := by unfold cutK; split; (rw [lawSum_size]; omega); exact hk
    omega
  have tr : ∀ a o, h₁.get? a = some o → a ≠ L → a ≠ P → h3.get? a = some o := fun a o e h1 h2 => M3 _ _ (M2 _ _ e (fun q => h1 (List.mem_singleton.mp q))) (fun q => by
    rcases List.mem_cons.mp q with q | q
    · exact h1 q
    · exact h2 (List.mem_singleton.mp q))
  have e1 : P ≠ L + 1 ∧ P ≠ L + 1 + 1 := ⟨Nat.ne_of_lt (Nat.lt_succ_of_lt (Nat.lt_of_lt_of_le hPs hL)), Nat.ne_of_lt (Nat.lt_succ_of_lt (Nat.lt_succ_of_lt (Nat.lt_of_lt_of_le hPs hL)))⟩
  have ci3 : h3.IsCell (L + 1) none := let ⟨o, e, d⟩ := ci.1; ⟨o, tr _ _ e (Nat.succ_ne_self _) e1.1.symm, d⟩
  have co3 : h3.IsCell (L + 1 + 1) none := let ⟨o, e, d⟩ := co.1; ⟨o, tr _ _ e (Nat.ne_of_gt co.2.1) e1.2.symm, d⟩
  have t3 : h3.get? 183 = some (tabObj ps) := tr _ _ (K1 _ _ t183) h183L hP183.symm
  have back : ∀ {a}, h3.get? a = none → a ≠ L → a ≠ P → s.heap.get? a = none := fun {a} e h1 h2 => by
    cases q : s.heap.get? a with
    | none => rfl
    | some o => rw [tr _ _ (K1 _ _ q) h1 h2] at e; cases e
  have exL : h3.get? L ≠ none := by obtain ⟨o', es, ep, e', _⟩ := F3.ns; rw [e']; exact fun q => nomatch q
  have exP : h3.get? P ≠ none := by obtain ⟨_, _, _, _, _, _, _, _, _, _, _, ⟨_, _, _, e, _⟩, _⟩ := K3; rw [e]; exact fun q => nomatch q
  have back2 : ∀ {a}, h3.get? a = none → s.heap.get? a = none := fun {a} e => back e (fun q => exL (q ▸ e)) (fun q => exP (q ▸ e))
  have z3 : s.heap.objs.size ≤ h3.objs.size := Nat.le_trans hL (Nat.le_of_lt F3.ns.lt)
  refine e_plain KX KT F3 N3 G3 hd ((m2y "const" (by decide) (by decide)).trans m1b) m2k ((m2y "multipart" (by decide) (by decide)).trans m1m) ((m2y "digest_info" (by decide) (by decide)).trans m1a) pad80 K3 hPb hPL ⟨ci3, ci.2⟩ ⟨co3, co.2⟩ (Nat.ne_of_lt (Nat.lt_succ_self _)) t3 ht hnf h183b hP183 hL9
    fun f fx lI lO c' P' h' tk' M' z' K' t' at' fn' cd' tp' hp' ca' cb' nI nO nF => ?_
  dsimp only
  refine hQ f fx _ _ lI lO c' P' h' tk' (fun b o e hb => ?_) (Nat.le_trans z3 z') K' t' at' fn' cd' tp' (Nat.le_trans z3 hp') ca' cb' (back2 nI) (back2 nO) (back2 nF)
  have hbz := Heap.lt_size e
  have nb : ∀ a, s.heap.objs.size ≤ a → b ≠ a := fun a ha q => Nat.lt_irrefl _ (Nat.lt_of_lt_of_le (q ▸ hbz) ha)
  have b1 : b ≠ L := nb _ hL
  have b2 : b ≠ P := fun q => hb (q ▸ .tail _ (.head _))
  have b3 : b ≠ 183 := fun q => hb (q ▸ .head _)
  refine M' _ _ (tr _ _ (K1 _ _ e) b1 b2) (fun q => ?_)
  rcases List.mem_cons.mp q with q | q
  · exact b1 q
  rcases List.mem_cons.mp q with q | q
  · exact b2 q
  rcases List.mem_cons.mp q with q | q
  · exact b3 q
  rcases List.mem_cons.mp q with q | q
  · exact nb _ (Nat.le_succ_of_le hL) q
  · exact nb _ (Nat.le_succ_of_le (Nat.le_succ_of_le hL)) (List.mem_singleton.mp q)
theorem c_multi_str {w : World} {A : Around} {s : Shared} {mg mb : Str → Option Value} {mean : ExcName → Option Value} {x dx c P : Addr} {size block : Nat} {z : Str} {tk0 : Tok} {ps : Array Value} {Q : Value → Shared → Prop}
    (X : (KK w.params).In s.heap) (T : Top topProg l0 mean mg mb s.heap) (hd : A.depth + 5 < recursionLimit) (hh : A.handled = none) (hk : (utf8 z).size ≤ 80) (hz : ∀ c ∈ z.cps, Str.isSurrogate c = false) (hs1 : 1 ≤ size) (hs2 : size ≤ 20) (hsb : size ≤ block) (hb16 : 16 ≤ block) (hb : block ≤ 32)
    (hI : InfI s.heap x dx c size block) (K : ConstO s.heap c P size block) (hP183 : P ≠ 183) (t183 : s.heap.get? 183 = some (tabObj ps)) (ht : TriplesOk ps.toList) (hnf : codeAmong (fPos mHm) ps.toList = none)
    (hQ : ∀ f fx ic oc lI lO c' P' h' tk, But [183, P] s.heap h' → s.heap.objs.size ≤ h'.objs.size → ConstO h' c P size block → h'.get? 183 = some (tabObj (ps ++ #[rawInt (fPos mHm).line, rawInt (fPos mHm).col, .ref c'])) → AttrO h' f fx x →
      FnO h' f mHm qHm [("_outer_copy", oc), ("_inner_copy", ic)] .none (.ref c') → CodeHd h' c' P' → h'.get? P' = some (tabObj #[]) → s.heap.objs.size ≤ P' → CopyC h' ic c lI (xorA (padK (utf8 z) size block) 54) → CopyC h' oc c lO (xorA (padK (utf8 z) size block) 92) → s.heap.get? lI = none → s.heap.get? lO = none → s.heap.get? fx = none → Q (.ref f) { s with heap := h', toks := tk }) :
    wpAny (model pw w) A (call (.ref 188) [.ref x, .str z tk0, .bool true]) Q (fun _ _ => False) s := by
  have hfill : KK w.params = KK w.params ∧ PySem.Challenge.rw_aj5027_01 = PySem.Challenge.rw_aj5027_01 := by
    k_fill
    exact ⟨rfl, rfl⟩
  clear hfill
  have hP1 : s.heap.get? P ≠ none ∧ P ≠ 0 ∧ P ∉ asK ∧ ∃ qs, s.heap.get? P = some (tabObj qs) := by
    obtain ⟨_, _, _, _, _, _, _, _, _, _, _, ⟨a, b, qs, e, _⟩, _⟩ := K
    exact ⟨(by rw [e]; exact fun q => (nomatch q)), a, b, qs, e⟩
  obtain ⟨_, hP0, hPK, qs, eP⟩ := hP1
  have hs2 : ∀ a ∈ [183, P], a ≠ 0 ∧ a ∉ asK := fun a ha => by
    rcases List.mem_cons.mp ha with rfl | ha
    · exact t183k
    · cases List.mem_singleton.mp ha; exact ⟨hP0, hPK⟩
  have hl2 : Loose s.heap [183, P] := fun a ha o e => by
    rcases List.mem_cons.mp ha with rfl | ha
    · rw [t183] at e; cases e; rfl
    · cases List.mem_singleton.mp ha; rw [eP] at e; cases e; rfl
  have notT : ∀ {a o}, s.heap.get? a = some o → o.cls ≠ .none → a ∉ [183, P] := fun {a o} e hc q => by
    rcases List.mem_cons.mp q with q | q
    · rw [q, t183] at e; cases e; exact hc rfl
    · rw [List.mem_singleton.mp q, eP] at e; cases e; exact hc rfl
  have hsz9 := size_K X
  have XS := X
  refine wpAny_call ?_
  refine' enterKC (binds := [("digest", .ref x), ("key", .str z tk0), ("multipart", .bool true)]) (m := fun y => if y = "multipart" then some (.bool true) else if y = "key" then some (.str z tk0) else if y = "digest" then some (.ref x) else none) (cm := fun _ => none) X T [183, P] hs2 (.of hl2) (fn188 X) ?room ?hb ?hkind ?hL ?hC ?_ ?c2 ?c3 ?c4
  case room => omega
  case hb => exact fun _ _ _ => binds_K X rfl (by k_is) rfl rfl rfl
  case hkind => first | decide | (intro n; decide) | (intro n x hx; (repeat' (first | (rcases List.mem_cons.mp hx with rfl | hx; first | exact .inl rfl | exact .inr ⟨rfl, rfl⟩) | cases hx)))
  case hL => exact fun _ _ => rfl
  case hC => exact fun _ _ => rfl
  case c2 => rfl
  case c3 => rfl
  case c4 => rfl
  intro base L h₁ big tk M0 B0 S0 KX KT F N G hL K1 CC
  have hIB : InfI base x dx c size block := ⟨M0 _ _ hI.1 (notT hI.1 (by intro q; cases q)), hI.2.but M0 (by obtain ⟨es, n, _, _, e, _⟩ := hI.2; exact notT e (by intro q; cases q))⟩
  have hcl : cellsFrom (L + 1) (fScope (fS 16)).names [] = ([("_outer_copy", L + 1 + 1), ("_inner_copy", L + 1)] : List (Str × Addr)) := rfl
  rw [hcl] at CC ⊢
  have ci := CC "_inner_copy" (L + 1) rfl
  have co := CC "_outer_copy" (L + 1 + 1) rfl
  have hL9 : 349 < L := Nat.lt_of_lt_of_le hsz9 hL
  have hPs := Heap.lt_size eP
  have hPL : P ≠ L := fun q => Nat.lt_irrefl _ (Nat.lt_of_lt_of_le (q ▸ hPs) hL)
  have h183L : (183 : Addr) ≠ L := Nat.ne_of_lt (Nat.lt_trans (by decide) hL9)
  have hPb : base.get? P = none := S0 P (.tail _ (.head _))
  have h183b : base.get? 183 = none := S0 183 (.head _)
  have K1' := K.but (But.of_stays K1 (S := [])) Soft.nil.loose (fun q => nomatch q)
  have n0 := F.ns
  have Lf : Loose h₁ [L] := loose_L n0
  show wpAny _ _ (execs (List.take 5 (fBody (fS 16)) ++ (List.take 3 (List.drop 5 (fBody (fS 16))) ++ List.drop 8 (fBody (fS 16)))) _) _ _ _
  refine wpAny_execs_app (a_str (P := P) (m := fun y => if y = "multipart" then some (.bool true) else if y = "key" then some (.str z tk0) else if y = "digest" then some (.ref x) else none) KX KT F N G hd hh rfl rfl hIB hb16 hb hz (Nat.le_trans hk (by decide)) fun m1 h2 tk2 big2 ta tb tc F2 N2 G2 M2 m1y m1k m1a m1b m1c m1d => ?_)
  have m1m : m1 "multipart" = some (.bool true) := (m1y "multipart" (by decide) (by decide) (by decide) (by decide) (by decide)).trans rfl
  have KK2 := K1'.but M2 Lf (fun q => hPL (List.mem_singleton.mp q))
  dsimp only
  refine wpAny_execs_app (b_key KX KT F2 N2 G2 hd m1b m1k m1c m1d hk hs1 (by assumption) hsb hb KK2 hPb hPL fun m2 h3 tk3 big3 td F3 N3 G3 M3 K3 m2y m2k => ?_)
  dsimp only
  have pad80 : (padK (utf8 z) size block).size ≤ 1000 := by
    unfold padK
    rw [Array.size_append, Array.size_replicate]
    have : (cutK (utf8 z) size block).size ≤ 80 := by unfold cutK; split; (rw [lawSum_size]; omega); exact hk
    omega
  have tr : ∀ a o, h₁.get? a = some o → a ≠ L → a ≠ P → h3.get? a = some o := fun a o e h1 h2 => M3 _ _ (M2 _ _ e (fun q => h1 (List.mem_singleton.mp q))) (fun q => by
    rcases List.mem_cons.mp q with q | q
    · exact h1 q
    · exact h2 (List.mem_singleton.mp q))
  have e1 : P ≠ L + 1 ∧ P ≠ L + 1 + 1 := ⟨Nat.ne_of_lt (Nat.lt_succ_of_lt (Nat.lt_of_lt_of_le hPs hL)), Nat.ne_of_lt (Nat.lt_succ_of_lt (Nat.lt_succ_of_lt (Nat.lt_of_lt_of_le hPs hL)))⟩
  have ci3 : h3.IsCell (L + 1) none := let ⟨o, e, d⟩ := ci.1; ⟨o, tr _ _ e (Nat.succ_ne_self _) e1.1.symm, d⟩
  have co3 : h3.IsCell (L + 1 + 1) none := let ⟨o, e, d⟩ := co.1; ⟨o, tr _ _ e (Nat.ne_of_gt co.2.1) e1.2.symm, d⟩
  have t3 : h3.get? 183 = some (tabObj ps) := tr _ _ (K1 _ _ t183) h183L hP183.symm
  have back : ∀ {a}, h3.get? a = none → a ≠ L → a ≠ P → s.heap.get? a = none := fun {a} e h1 h2 => by
    cases q : s.heap.get? a with
    | none => rfl
    | some o => rw [tr _ _ (K1 _ _ q) h1 h2] at e; cases e
  have exL : h3.get? L ≠ none := by obtain ⟨o', es, ep, e', _⟩ := F3.ns; rw [e']; exact fun q => nomatch q
  have exP : h3.get? P ≠ none := by obtain ⟨_, _, _, _, _, _, _, _, _, _, _, ⟨_, _, _, e, _⟩, _⟩ := K3; rw [e]; exact fun q => nomatch q
  have back2 : ∀ {a}, h3.get? a = none → s.heap.get? a = none := fun {a} e => back e (fun q => exL (q ▸ e)) (fun q => exP (q ▸ e))
  have z3 : s.heap.objs.size ≤ h3.objs.size := Nat.le_trans hL (Nat.le_of_lt F3.ns.lt)
  refine e_multi KX KT F3 N3 G3 hd ((m2y "const" (by decide) (by decide)).trans m1b) m2k ((m2y "multipart" (by decide) (by decide)).trans m1m) ((m2y "digest_info" (by decide) (by decide)).trans m1a) pad80 K3 hPb hPL ⟨ci3, ci.2⟩ ⟨co3, co.2⟩ (Nat.ne_of_lt (Nat.lt_succ_self _)) t3 ht hnf h183b hP183 hL9
    fun f fx lI lO c' P' h' tk' M' z' K' t' at' fn' cd' tp' hp' ca' cb' nI nO nF => ?_
  dsimp only
  refine hQ f fx _ _ lI lO c' P' h' tk' (fun b o e hb => ?_) (Nat.le_trans z3 z') K' t' at' fn' cd' tp' (Nat.le_trans z3 hp') ca' cb' (back2 nI) (back2 nO) (back2 nF)
  have hbz := Heap.lt_size e
  have nb : ∀ a, s.heap.objs.size ≤ a → b ≠ a := fun a ha q => Nat.lt_irrefl _ (Nat.lt_of_lt_of_le (q ▸ hbz) ha)
  have b1 : b ≠ L := nb _ hL
  have b2 : b ≠ P := fun q => hb (q ▸ .tail _ (.head _))
  have b3 : b ≠ 183 := fun q => hb (q ▸ .head _)
  refine M' _ _ (tr _ _ (K1 _ _ e) b1 b2) (fun q => ?_)
  rcases List.mem_cons.mp q with q | q
  · exact b1 q
  rcases List.mem_cons.mp q with q | q
  · exact b2 q
  rcases List.mem_cons.mp q with q | q
  · exact b3 q
  rcases List.mem_cons.mp q with q | q
  · exact nb _ (Nat.le_succ_of_le hL) q
  · exact nb _ (Nat.le_succ_of_le (Nat.le_succ_of_le hL)) (List.mem_singleton.mp q)

end
end Mine
namespace Mine
noncomputable section
open PySem PySem.W PySem.Calls PyProof.Rows
set_option maxRecDepth 100000
set_option maxHeartbeats 4000000
set_option linter.unusedVariables false

theorem fnAt {h : Heap} {f : Addr} {st : Stmt} {q : Str} {cl : List (Str × Addr)} {dV cd : Value} (x : FnO h f st q cl dV cd) : FnAt f h := let ⟨oc, od, sl, _, _, _, e, _⟩ := x; ⟨oc, od, _, sl, e⟩
theorem UpdO.at {h : Heap} {u l : Addr} (x : UpdO h u l) : FnAt u h := let ⟨_, _, a, _⟩ := x; fnAt a
theorem DigO.at {h : Heap} {u l : Addr} {size : Nat} (x : DigO h u l size) : FnAt u h := let ⟨_, _, _, _, a, _⟩ := x; fnAt a
theorem CopyO.at {h : Heap} {u l c : Addr} (x : CopyO h u l c) : FnAt u h := let ⟨_, _, _, a, _⟩ := x; fnAt a
theorem lst_ne {h : Heap} {l P c : Addr} {size block : Nat} {b : Array UInt8} (K : ConstO h c P size block) (I : LstO h l b) : l ≠ P := fun q => by
  obtain ⟨_, _, _, o, e, hc, n, hd⟩ := I
  obtain ⟨_, _, _, _, _, _, _, _, _, _, _, ⟨_, _, ps, e', _⟩, _⟩ := K
  rw [q, e'] at e; cases e; cases hc
theorem lst_nin {h : Heap} {l P c : Addr} {size block : Nat} {b : Array UInt8} (K : ConstO h c P size block) (I : LstO h l b) : l ∉ [P] := fun q => lst_ne K I (List.mem_singleton.mp q)
theorem lst_nf {h : Heap} {l L : Addr} {m : Str → Option Value} {b : Array UInt8} (n : h.Ns L m) (I : LstO h l b) : l ∉ [L] := fun q => by
  obtain ⟨_, _, _, o, e, hc, k, hd⟩ := I
  obtain ⟨o', es, ep, e', hd', _⟩ := n
  rw [List.mem_singleton.mp q, e'] at e; cases e; rw [hd'] at hd; cases hd
theorem con_nf {h : Heap} {L P c : Addr} {size block : Nat} {m : Str → Option Value} (n : h.Ns L m) (K : ConstO h c P size block) : P ∉ [L] := fun q => by
  obtain ⟨_, _, _, _, _, _, _, _, _, _, _, ⟨_, _, ps, e, _⟩, _⟩ := K
  obtain ⟨o', es, ep, e', hd', _⟩ := n
  rw [List.mem_singleton.mp q, e'] at e; cases e; cases hd'
theorem con_nl {h : Heap} {l P c : Addr} {size block : Nat} {b : Array UInt8} (K : ConstO h c P size block) (I : LstO h l b) : P ∉ [l] := fun q => lst_ne K I (List.mem_singleton.mp q).symm
theorem lst_loose {h : Heap} {l : Addr} {b : Array UInt8} (I : LstO h l b) : Loose h [l] := I.soft.loose
theorem con_loose {h : Heap} {P c : Addr} {size block : Nat} (K : ConstO h c P size block) : Loose h [P] := K.soft.loose
theorem Ln (h : Heap) : Loose h [] := Soft.nil.loose
theorem HashO.upd {h h' : Heap} {y l c : Addr} {size block : Nat} {b b' : Array UInt8} (H : HashO h y l c size block b) (M : But [l] h h') (I : LstO h' l b') : HashO h' y l c size block b' :=
  let ⟨u, d, cp, t1, t2, dx, n, e, a1, a2, a3, a4⟩ := H; ⟨u, d, cp, t1, t2, dx, n, M.fix (lst_loose a4) e rfl, a1.but M (lst_loose a4), a2.but M (lst_loose a4), a3.but M (lst_loose a4), I⟩
theorem HashO.lst {h : Heap} {y l c : Addr} {size block : Nat} {b : Array UInt8} (H : HashO h y l c size block b) : LstO h l b := let ⟨_, _, _, _, _, _, _, _, _, _, _, I⟩ := H; I
theorem con_stays {h h' : Heap} {c P : Addr} {size block : Nat} (K : ConstO h c P size block) (st : h.StaysIn h') : ConstO h' c P size block := K.but (But.of_stays st (S := [])) (Ln _) (fun q => nomatch q)
theorem hash_stays {h h' : Heap} {y l c : Addr} {size block : Nat} {b : Array UInt8} (H : HashO h y l c size block b) (st : h.StaysIn h') : HashO h' y l c size block b := H.but (But.of_stays st (S := [])) (Ln _) (fun q => nomatch q)
/-- telling a hash's code: getMethod, then the call -/
theorem H_digest {w : World} {A : Around} {s : Shared} {mg mb : Str → Option Value} {mean : ExcName → Option Value} {y l c : Addr} {size block : Nat} {b : Array UInt8} {pl : Sem Bool} {pos : Pos} {env : Env} {Q : Value → Shared → Prop}
    (X : (KK w.params).In s.heap) (T : Top topProg l0 mean mg mb s.heap) (hd : A.depth + 1 < recursionLimit) (H : HashO s.heap y l c size block b) (hb : b.size ≤ 300) (hs1 : 1 ≤ size) (hs2 : size ≤ 20)
    (hQ : ∀ t' h' tk, s.heap.StaysIn h' → s.heap.objs.size ≤ h'.objs.size → Q (.bytes (lawSum b size) t') { s with heap := h', toks := tk }) :
    wpAny (model pw w) A (getMethod (.ref y) "digest" pl) (fun fx s₂ => wpAny (model pw w) A (callWith pos fx.1 fx.2 (backTo pos (starEach [] env)) []) Q (fun _ _ => False) s₂) (fun _ _ => False) s := by
  obtain ⟨u, d, cp, t3, t4, ex, en, ey, hU, hD, hC, hl⟩ := H
  refine me_digest X T (by omega) ⟨_, _, ey⟩ fun h2 tk2 st2 sz2 => ?_
  dsimp only
  have b2 : But [] s.heap h2 := But.of_stays st2
  have hD2 := hD.but b2 (Ln _)
  refine callWith_F0 hD2.at ?_
  exact c_digest (X.keeps st2) (T.keeps st2) hd hD2 (hl.but b2 (fun q => nomatch q)) hb hs1 hs2 fun t' h' tk M z => hQ t' h' tk (fun b o e => M b o (st2 _ _ e) (fun q => nomatch q)) (Nat.le_trans sz2 z)
/-- what the argument of an update leaves to show -/
structure ArgPost (h₀ : Heap) (l : Addr) (b : Array UInt8) (Q : Value → Shared → Prop) (vs : List Value) (s₃ : Shared) : Prop where
  ok : ∃ m t, vs = [.bytes m t] ∧ m.size ≤ 1000 ∧ h₀.StaysIn s₃.heap ∧ ∀ h4 tk4, But [l] s₃.heap h4 → LstO h4 l (b ++ m) → s₃.heap.objs.size ≤ h4.objs.size → Q .none { s₃ with heap := h4, toks := tk4 }
/-- adding to a hash: getMethod, the argument, the call -/
theorem H_update {w : World} {A : Around} {s : Shared} {mg mb : Str → Option Value} {mean : ExcName → Option Value} {y l c : Addr} {size block : Nat} {b : Array UInt8} {pl : Sem Bool} {pos : Pos} {env : Env} {e : Expr} {Q : Value → Shared → Prop}
    (X : (KK w.params).In s.heap) (T : Top topProg l0 mean mg mb s.heap) (hd : A.depth + 0 < recursionLimit) (H : HashO s.heap y l c size block b) (hb : b.size ≤ 1000) (he : starEach [e] env = (false, eval e env) :: starEach [] env)
    (hQ : ∀ h2 tk2, s.heap.StaysIn h2 → s.heap.objs.size ≤ h2.objs.size → wpAny (model pw w) A (spliced (backTo pos (starEach [e] env))) (ArgPost s.heap l b Q) (fun _ _ => False) { s with heap := h2, toks := tk2 }) :
    wpAny (model pw w) A (getMethod (.ref y) "update" pl) (fun fx s₂ => wpAny (model pw w) A (callWith pos fx.1 fx.2 (backTo pos (starEach [e] env)) []) Q (fun _ _ => False) s₂) (fun _ _ => False) s := by
  obtain ⟨u, d, cp, t3, t4, ex, en, ey, hU, hD, hC, hl⟩ := H
  refine me_update X T hd ⟨_, _, ey⟩ fun h2 tk2 st2 sz2 => ?_
  dsimp only
  refine callWith_F (hU.but (But.of_stays st2 (S := [])) (Ln _)).at ?_ (he := he)
  refine wpAny_mono (hQ h2 tk2 st2 sz2) (fun vs s₃ q => ?_) fun _ _ x => x
  obtain ⟨m, t, rfl, hm, st, k⟩ := q.ok
  have b3 : But [] s.heap s₃.heap := But.of_stays st
  have hU3 := hU.but b3 (Ln _)
  exact ⟨hU3.at, c_update (X.keeps st) (T.keeps st) hd hU3 (hl.but b3 (fun q => nomatch q)) hb hm fun h4 tk4 M4 l4 z4 => k h4 tk4 M4 l4 z4⟩

end
end Mine
namespace Mine
noncomputable section
open PySem PySem.W PySem.Calls PyProof.Rows
set_option maxRecDepth 100000
set_option maxHeartbeats 4000000
set_option linter.unusedVariables false
local macro_rules | `(tactic| walk_at "no such stop") => `(tactic| skip)
local macro_rules | `(tactic| walk_at "no such stop") => `(tactic| skip)
local macro_rules | `(tactic| walk_at "no such stop") => `(tactic| skip)
local macro_rules | `(tactic| walk_at "no such stop") => `(tactic| skip)
local macro_rules | `(tactic| walk_at "no such stop") => `(tactic| skip)
local macro_rules | `(tactic| walk_at "no such stop") => `(tactic| skip)
local macro_rules | `(tactic| walk_at "no such stop") => `(tactic| skip)
local macro_rules | `(tactic| walk_at "eval Name") => `(tactic| (k_dflt (refine' nameB ?F ?c ?i ?_ ?a ?b; (case b => rfl); (case a => rfl); (case F => k_asm); (case c => rfl); (case i => assumption))))
local macro_rules | `(tactic| walk_at "FnAt") => `(tactic| assumption)
local macro_rules | `(tactic| walk_at "callWith ref") => `(tactic| (k_dflt (refine callWith_F (by assumption) ?_)))
local macro_rules | `(tactic| walk_at "callWith ref") => `(tactic| (k_dflt (refine callWith_F0 (by assumption) ?_; (try dsimp only [List.nil_append, List.cons_append]))))
theorem nameCell {M : Model} {A : Around} {E : Value → Shared → Prop} {s : Shared} {env : Env} {x : Str} {pos : Pos} {c : Addr} {v : Value} {Q : Value → Shared → Prop} (hk : env.scope.kind = .function) (hl : env.kindOf x = some .cell) (hc : env.cells.lookup x = some c) (hi : s.heap.IsCell c (some v)) (h : Q v s)
    (hd : (x == ("__debug__" : Str)) = false) : wpAny M A (eval (.Name x pos) env) Q E s := wpAny_Name (wpAny_loadName_cell hk hl hc hi h) hd
local macro_rules | `(tactic| walk_at "eval Name") => `(tactic| (
  (with_reducible show wpAny _ _ (eval (Expr.Name (PySem.Str.ofString "inner") _) _) _ _ _);
  (with_reducible rename Fr _ _ _ _ => kF); (with_reducible rename News _ _ _ _ => kN); (with_reducible rename Seg _ _ _ _ => kG); (with_reducible rename Loose _ _ => kL); (with_reducible rename Heap.IsCell _ _ _ => kC);
  k_dflt (
  have kM := Seg.now kG kF (fun p hp => kN p (by first | exact hp | exact .tail _ hp | exact .tail _ (.tail _ hp)));
  refine' nameCell ?a ?b ?c (cell_but kC kM kL) ?_ ?d; (case a => rfl); (case b => rfl); (case c => rfl); (case d => decide))))
def specF : List (Pos × Str) := [(fPos sFin, qFin)]
theorem specF_ok : ∀ q ∈ specF, ((fPos sFin).line == q.1.line && (fPos sFin).col == q.1.col) = true → q.2 = qFin := fun q hq _ => by cases List.mem_singleton.mp hq; rfl
local macro_rules | `(tactic| walk_at "getAttr ref") => `(tactic| (with_reducible refine stop_of ?_))
theorem c_multi {w : World} {A : Around} {s : Shared} {mg mb : Str → Option Value} {mean : ExcName → Option Value} {f ic oc lI c c1 P Pm : Addr} {size block : Nat} {bI : Array UInt8} {cpO : Addr} {Q : Value → Shared → Prop}
    (X : (KK w.params).In s.heap) (T : Top topProg l0 mean mg mb s.heap) (hd : A.depth + 6 < recursionLimit) (hh : A.handled = none) (U : FnO s.heap f mHm qHm [("_outer_copy", oc), ("_inner_copy", ic)] .none (.ref c1)) (CH : CodeHd s.heap c1 Pm) (TB : TabI s.heap Pm specF) (CI : CopyC s.heap ic c lI bI) (K : ConstO s.heap c P size block) (hPP : P ≠ Pm)
    (hQ : ∀ D u fin kc y l cd h' tk, But [P, Pm] s.heap h' → s.heap.objs.size ≤ h'.objs.size → ConstO h' c P size block → IsTup h' D #[.ref u, .ref fin] → UpdO h' u l → FnO h' fin sFin qFin [("inner", kc), ("_outer_copy", oc)] .none cd → h'.IsCell kc (some (.ref y)) → HashO h' y l c size block bI → TabI h' Pm specF → s.heap.get? l = none → Q (.ref D) { s with heap := h', toks := tk }) :
    wpAny (model pw w) A (call (.ref f) []) Q (fun _ _ => False) s := by
  have hfill : KK w.params = KK w.params ∧ PySem.Challenge.rw_aj5027_01 = PySem.Challenge.rw_aj5027_01 := by
    k_fill
    exact ⟨rfl, rfl⟩
  clear hfill
  have hs : Soft s.heap [P, Pm] := fun a ha => by
    rcases List.mem_cons.mp ha with rfl | ha
    · exact K.soft _ (.head _)
    · exact TB.soft a ha
  obtain ⟨cpI, hic, hCi, hli⟩ := CI
  refine wpAny_call ?_
  refine' enterC1 (nm := "inner") (binds := []) X T [P, Pm] hs U ?room ?hb ?hloc ?hp ?hcs ?_ ?c2 ?c3 ?c4
  case room => omega
  case hb => exact fun _ _ _ => BindsTo.of_eq rfl
  case hloc => exact locs rfl
  case hp => exact fun _ => rfl
  case hcs => exact fun _ _ => rfl
  case c2 => rfl
  case c3 => rfl
  case c4 => rfl
  intro base L h₁ big M0 B0 S0 KX KT F N G hL hbig
  have hiB := cell_but hic M0 hs.loose
  have XS := X
  clear X T
  dsimp only
  have n0 := N _ (.head _)
  have L1 : Loose s.heap [L] := loose_ge (fun a ha => by cases List.mem_singleton.mp ha; exact hL)
  have M1 : But [L] s.heap h₁ := Seg.now G F (fun p hp => N p (.tail _ hp))
  have lt0 : ∀ {a o}, s.heap.get? a = some o → a ≠ L ∧ a ≠ L + 1 := fun {a o} e => ⟨Nat.ne_of_lt (Nat.lt_of_lt_of_le (Heap.lt_size e) hL), Nat.ne_of_lt (Nat.lt_succ_of_lt (Nat.lt_of_lt_of_le (Heap.lt_size e) hL))⟩
  have nl0 : ∀ {a o}, s.heap.get? a = some o → a ∉ [L] := fun {a o} e q => (lt0 e).1 (List.mem_singleton.mp q)
  obtain ⟨qs, eP⟩ : ∃ qs, s.heap.get? P = some (tabObj qs) := by
    obtain ⟨_, _, _, _, _, _, _, _, _, _, _, ⟨_, _, qs, e, _⟩, _⟩ := K
    exact ⟨qs, e⟩
  obtain ⟨pms, eM⟩ : ∃ qs, s.heap.get? Pm = some (tabObj qs) := by
    obtain ⟨_, _, qs, e, _⟩ := TB
    exact ⟨qs, e⟩
  have hPL := nl0 eP
  have hPb : base.get? P = none := S0 P (.head _)
  have hMb : base.get? Pm = none := S0 Pm (.tail _ (.head _))
  have Kh1 := K.but M1 L1 hPL
  have Ci1 := hCi.but M1 L1
  have Ii1 := hli.but M1 (by obtain ⟨_, _, _, o, e, _⟩ := hli; exact nl0 e)
  have T1 := TB.but M1 L1 (nl0 eM)
  have CH1 := codeHd_but CH M1 L1
  have hF1 : FnAt cpI h₁ := Ci1.at
  k_steps
  rename Fr _ _ _ _ => F
  rename News _ _ _ _ => N
  refine c_copy (KX.keeps F.keep) (KT.keeps F.keep) ?rm Ci1 Kh1 Ii1 (lst_ne Kh1 Ii1) fun y1 l1 h2 tk2 M2 z2 K2 H2 n2 => ?_
  case rm => show A.depth + 1 + 4 < recursionLimit; omega
  have p1 : P ≠ L + 1 := (lt0 eP).2
  have c2 : h2.IsCell (L + 1) none := ⟨_, M2 _ _ n0.1 (fun q => p1 (List.mem_singleton.mp q).symm), rfl⟩
  have T2 := T1.but M2 (con_loose Kh1) (fun q => hPP (List.mem_singleton.mp q).symm)
  have CH2 := codeHd_but CH1 M2 (con_loose Kh1)
  refine wpAny_storeName_cell rfl rfl rfl c2 fun h3 v3 s3 => ?_
  have M3 : But [L + 1] h2 h3 := fun b o e hb => (s3.2 b (fun q => hb (List.mem_singleton.mpr q))).trans e
  have L3 : Loose h2 [L + 1] := fun a ha o e => by
    obtain ⟨o', e', d'⟩ := c2
    cases List.mem_singleton.mp ha
    rw [e'] at e; cases e; unfold fixK; rw [d']
  have K3 := K2.but M3 L3 (fun q => p1 (List.mem_singleton.mp q))
  have l1ne : l1 ∉ [L + 1] := fun q => by
    obtain ⟨_, _, _, o, e, hc, k, hd⟩ := H2.lst
    obtain ⟨o', e', d⟩ := c2
    rw [List.mem_singleton.mp q, e'] at e; cases e; rw [d] at hd; cases hd
  have H3 := H2.but M3 L3 l1ne
  have pm1 : Pm ≠ L + 1 := (lt0 eM).2
  have T3 := T2.but M3 L3 (fun q => pm1 (List.mem_singleton.mp q))
  have CH3 := codeHd_but CH2 M3 L3
  have M23 : But [P, L + 1] h₁ h3 := fun b o e hb => M3 _ _ (M2 _ _ e (fun q => hb (List.mem_singleton.mp q ▸ .head _))) (fun q => hb (List.mem_singleton.mp q ▸ .tail _ (.head _)))
  obtain ⟨big3, F3, N3, G3⟩ := seg F M23 (fun a ha => by
    rcases List.mem_cons.mp ha with rfl | ha
    · exact hPb
    · cases List.mem_singleton.mp ha; exact n0.2.2) (fun q => by
    rcases List.mem_cons.mp q with q | q
    · exact hPL (q ▸ .head _)
    · exact Nat.ne_of_lt (Nat.lt_succ_self L) (List.mem_singleton.mp q))
  clear F N hF1
  dsimp only
  k_steps
  rename Fr _ _ _ _ => F3
  refine def_S (spec := specF) sFin "finalize" rfl F3 KT CH3 rfl hMb T3 (lt0 eM).1 (.head _) specF_ok rfl rfl rfl rfl rfl rfl fun fin h4 tk4 big4 cd4 F4 N4 G4 M4 T4 U4 zf z4 => ?_
  have L4 : Loose h3 [Pm] := T3.soft.loose
  have K4 := K3.but M4 L4 (fun q => hPP (List.mem_singleton.mp q))
  have l1m : l1 ∉ [Pm] := fun q => by
    obtain ⟨_, _, _, o, e, hc, k, hd⟩ := H3.lst
    obtain ⟨_, _, _, e', _⟩ := T3
    rw [List.mem_singleton.mp q, e'] at e; cases e; cases hc
  have H4 := H3.but M4 L4 l1m
  have v4 := cell_but v3 M4 L4
  have m4 := F4.ns
  have L5 := loose_L m4
  k_steps
  rename Fr _ _ _ _ => F5
  rename News _ _ _ _ => N5
  rename Seg _ _ _ _ => G4
  rename Loose _ _ => L5
  rename Heap.IsCell _ _ _ => v4
  rename_i h5 _
  have M5 : But [L] h4 h5 := Seg.now G4 F5 N5
  have l4L := lst_nf m4 H4.lst
  have H5 := H4.but M5 L5 l4L
  have K5 := K4.but M5 L5 (con_nf m4 K4)
  have T5 := T4.but M5 L5 (fun q => (lt0 eM).1 (List.mem_singleton.mp q))
  have U5 := U4.but M5 L5
  have v5 := cell_but v4 M5 L5
  obtain ⟨u, d, cp, t3, t4, ex, en, ey, hU, hD, hC, hl⟩ := id H5
  refine ⟨?_⟩
  refine rd_update (KX.keeps F5.keep) (KT.keeps F5.keep) ?rm ⟨_, _, ey⟩ fun h6 tk6 st6 z6 => ?_
  case rm => show A.depth + 1 + 0 < recursionLimit; omega
  have F6 := F5.keeps st6
  have N6 := N5.keepsAll st6
  have b6 : But [] h5 h6 := But.of_stays st6
  have hU6 := hU.but b6 (Ln _)
  obtain ⟨big6, F6, N6, G6⟩ := seg (S := []) F6 But.refl (fun _ h => nomatch h) (fun h => nomatch h)
  have m6 := F6.ns
  clear F5 N5
  dsimp only
  k_steps
  rename Fr _ _ _ _ => F7
  rename News _ _ _ _ => N7
  have M7 := Seg.now G6 F7 (fun p hp => N7 p (.tail _ hp))
  have L6 := loose_L m6
  have K6 := con_stays K5 st6
  have H6 := hash_stays H5 st6
  have T6 := T5.but b6 (Ln _) (fun q => nomatch q)
  have hb0 := fun {b : Addr} {o : Obj} (e : s.heap.get? b = some o) => nl0 e
  have n1 : l1 ∉ [P] := lst_nin K2 H2.lst
  refine hQ _ u fin (L + 1) y1 l1 cd4 _ _ (fun b o e hb => ?_) (szL hL F7) (K6.but M7 L6 (con_nf m6 K6)) (N7.isTup (.head _)) (hU6.but M7 L6) ((U5.but b6 (Ln _)).but M7 L6) (cell_but (cell_but v5 b6 (Ln _)) M7 L6) (H6.but M7 L6 (lst_nf m6 H6.lst)) (T6.but M7 L6 (nl0 eM)) ?_
  · have bL := nl0 e
    have bP : b ∉ [P] := fun q => hb (List.mem_singleton.mp q ▸ .head _)
    have bM : b ∉ [Pm] := fun q => hb (List.mem_singleton.mp q ▸ .tail _ (.head _))
    exact M7 _ _ (st6 _ _ (M5 _ _ (M4 _ _ (M3 _ _ (M2 _ _ (M1 _ _ e bL) bP) (fun q => (lt0 e).2 (List.mem_singleton.mp q))) bM) bL)) bL
  · cases q : s.heap.get? l1 with
    | none => rfl
    | some o =>
      have e := M1 _ _ q (nl0 q)
      dsimp only at n2
      rw [n2] at e; cases e

end
end Mine
namespace Mine
noncomputable section
open PySem PySem.W PySem.Calls PyProof.Rows
set_option maxRecDepth 100000
set_option maxHeartbeats 4000000
set_option linter.unusedVariables false
local macro_rules | `(tactic| walk_at "eval Name") => `(tactic| (k_dflt (refine' nameB ?F ?c ?i ?_ ?a ?b; (case b => rfl); (case a => rfl); (case F => k_asm); (case c => rfl); (case i => assumption))))
local macro_rules | `(tactic| walk_at "FnAt") => `(tactic| assumption)
local macro_rules | `(tactic| walk_at "callWith ref") => `(tactic| (k_dflt (refine callWith_F (by assumption) ?_)))
local macro_rules | `(tactic| walk_at "callWith ref") => `(tactic| (k_dflt (refine callWith_F0 (by assumption) ?_; (try dsimp only [List.nil_append, List.cons_append]))))
local macro_rules | `(tactic| walk_at "getMethod ref") => `(tactic| (with_reducible refine stop_of ?_))
theorem c_fin {w : World} {A : Around} {s : Shared} {mg mb : Str → Option Value} {mean : ExcName → Option Value} {fin oc kc lO y l c P : Addr} {cd : Value} {size block : Nat} {b bO : Array UInt8} {Q : Value → Shared → Prop}
    (X : (KK w.params).In s.heap) (T : Top topProg l0 mean mg mb s.heap) (hd : A.depth + 6 < recursionLimit) (hh : A.handled = none) (U : FnO s.heap fin sFin qFin [("inner", kc), ("_outer_copy", oc)] .none cd) (hkc : s.heap.IsCell kc (some (.ref y))) (H : HashO s.heap y l c size block b) (CO : CopyC s.heap oc c lO bO) (K : ConstO s.heap c P size block)
    (hs1 : 1 ≤ size) (hs2 : size ≤ 20) (hb : b.size ≤ 200) (hbO : bO.size ≤ 100)
    (hQ : ∀ t' h' tk, But [P] s.heap h' → s.heap.objs.size ≤ h'.objs.size → ConstO h' c P size block → Q (.bytes (lawSum (bO ++ lawSum b size) size) t') { s with heap := h', toks := tk }) :
    wpAny (model pw w) A (call (.ref fin) []) Q (fun _ _ => False) s := by
  have hfill : KK w.params = KK w.params ∧ PySem.Challenge.rw_aj5027_01 = PySem.Challenge.rw_aj5027_01 := by
    k_fill
    exact ⟨rfl, rfl⟩
  clear hfill
  have hs := K.soft
  obtain ⟨cpO, hoc, hC, hl⟩ := CO
  refine wpAny_call ?_
  refine' enterF (binds := []) X T [P] hs U ?room ?hb ?hloc ?_ ?c2 ?c3 ?c4 ?c5
  case room => omega
  case hb => exact fun _ _ _ => BindsTo.of_eq rfl
  case hloc => exact locs rfl
  case c2 => rfl
  case c3 => rfl
  case c4 => rfl
  case c5 => decide
  intro base L h₁ big M0 B0 S0 KX KT F N G hL
  have hkB := cell_but hkc M0 hs.loose
  have hoB := cell_but hoc M0 hs.loose
  clear X T
  dsimp only
  have L1 : Loose s.heap [L] := loose_ge (fun a ha => by cases List.mem_singleton.mp ha; exact hL)
  have M1 : But [L] s.heap h₁ := Seg.now G F N
  have hPL : P ∉ [L] := fun q => Nat.lt_irrefl _ (Nat.lt_of_lt_of_le ((List.mem_singleton.mp q) ▸ K.lt) hL)
  have hPb : base.get? P = none := S0 P (.head _)
  have nl0 : ∀ {l' b'}, LstO s.heap l' b' → l' ∉ [L] := fun {l' b'} I q => by
    obtain ⟨_, _, _, o, e, _⟩ := I
    exact Nat.lt_irrefl _ (Nat.lt_of_lt_of_le ((List.mem_singleton.mp q) ▸ Heap.lt_size e) hL)
  have Kh1 := K.but M1 L1 hPL
  have C1 := hC.but M1 L1
  have I1 := hl.but M1 (nl0 hl)
  have H1 := H.but M1 L1 (nl0 H.lst)
  have hF1 : FnAt cpO h₁ := C1.at
  k_steps
  rename Fr _ _ _ _ => F
  refine c_copy (KX.keeps F.keep) (KT.keeps F.keep) ?rm C1 Kh1 I1 (lst_ne Kh1 I1) fun y2 l2 h2 tk2 M2 z2 K2 H2 n2 => ?_
  case rm => show A.depth + 1 + 4 < recursionLimit; omega
  obtain ⟨big2, F2, N2, G2⟩ := seg F M2 (fun a ha => by cases List.mem_singleton.mp ha; exact hPb) (fun q => hPL (List.mem_singleton.mp q ▸ .head _))
  have H1' := H1.but M2 (con_loose Kh1) (lst_nin Kh1 H1.lst)
  have n2' := F2.ns
  have hl2b : base.get? l2 = none := by
    cases q : base.get? l2 with
    | none => rfl
    | some o => have := F.keep _ _ q; rw [n2] at this; cases this
  clear F N hF1
  k_steps
  rename Fr _ _ _ _ => F3
  rename News _ _ _ _ => N3
  rename_i h3
  have M3 : But [L] h2 h3 := Seg.now G2 F3 N3
  have Lf2 := loose_L n2'
  have K3 := K2.but M3 Lf2 (con_nf n2' K2)
  have Ho3 := H2.but M3 Lf2 (lst_nf n2' H2.lst)
  have Hi3 := H1'.but M3 Lf2 (lst_nf n2' H1'.lst)
  refine ⟨?_⟩
  refine H_update (KX.keeps F3.keep) (KT.keeps F3.keep) ?rm Ho3 (by omega) (by rfl) fun h4 tk4 st4 z4 => ?_
  case rm => show A.depth + 1 + 0 < recursionLimit; omega
  have F4 := F3.keeps st4
  have N4 := N3.keepsAll st4
  have Hi4 := hash_stays Hi3 st4
  clear F3 N3 Hi3
  k_steps
  rename Fr _ _ _ _ => F4
  refine ⟨?_⟩
  refine H_digest (KX.keeps F4.keep) (KT.keeps F4.keep) ?rm Hi4 (by omega) hs1 hs2 fun t5 h5 tk5 st5 z5 => ?_
  case rm => show A.depth + 1 + 1 < recursionLimit; omega
  have F5 := F4.keeps st5
  clear F4 N4
  obtain ⟨big5, F5, N5, G5⟩ := seg (S := []) F5 But.refl (fun _ h => nomatch h) (fun h => nomatch h)
  dsimp only at st4 st5
  k_steps
  rename Fr _ _ _ _ => F5
  refine ⟨_, _, rfl, (by rw [lawSum_size]; omega), fun b o e => st5 _ _ (st4 _ _ e), fun h6 tk6 M6 l6 z6 => ?_⟩
  have K6 := (con_stays (con_stays K3 st4) st5).but M6 (lst_loose (hash_stays (hash_stays Ho3 st4) st5).lst) (con_nl (con_stays (con_stays K3 st4) st5) (hash_stays (hash_stays Ho3 st4) st5).lst)
  have Ho6 := (hash_stays (hash_stays Ho3 st4) st5).upd M6 l6
  obtain ⟨big6, F6, N6, G6⟩ := seg F5 M6 (fun a ha => by cases List.mem_singleton.mp ha; exact hl2b) (fun q => by
    have := lst_nf F5.ns (hash_stays (hash_stays Ho3 st4) st5).lst
    exact this (List.mem_singleton.mp q ▸ .head _))
  clear F5 N5 G5
  dsimp only
  k_steps
  rename Fr _ _ _ _ => F6
  refine ⟨?_⟩
  refine H_digest (KX.keeps F6.keep) (KT.keeps F6.keep) ?rm Ho6 (by rw [Array.size_append, lawSum_size]; omega) hs1 hs2 fun t7 h7 tk7 st7 z7 => ?_
  case rm => show A.depth + 1 + 1 < recursionLimit; omega
  dsimp only
  refine hQ t7 h7 tk7 (fun b o e hb => ?_) (szL hL (F6.keeps st7)) (con_stays K6 st7)
  have bL : b ∉ [L] := fun q => Nat.lt_irrefl _ (Nat.lt_of_lt_of_le ((List.mem_singleton.mp q) ▸ Heap.lt_size e) hL)
  have e1 := M1 _ _ e bL
  have bl : b ∉ [l2] := fun q => by rw [List.mem_singleton.mp q, n2] at e1; cases e1
  exact st7 _ _ (M6 _ _ (st5 _ _ (st4 _ _ (M3 _ _ (M2 _ _ e1 hb) bL))) bl)

end
end Mine
namespace Mine
noncomputable section
open PySem PySem.W PySem.Calls PyProof.Rows
set_option maxRecDepth 100000
set_option maxHeartbeats 4000000
set_option linter.unusedVariables false
local macro_rules | `(tactic| walk_at "no such stop") => `(tactic| skip)
local macro_rules | `(tactic| walk_at "no such stop") => `(tactic| skip)
local macro_rules | `(tactic| walk_at "no such stop") => `(tactic| skip)
local macro_rules | `(tactic| walk_at "no such stop") => `(tactic| skip)
local macro_rules | `(tactic| walk_at "no such stop") => `(tactic| skip)
local macro_rules | `(tactic| walk_at "no such stop") => `(tactic| skip)
local macro_rules | `(tactic| walk_at "eval Name") => `(tactic| (k_dflt (refine' nameB ?F ?c ?i ?_ ?a ?b; (case b => rfl); (case a => rfl); (case F => k_asm); (case c => rfl); (case i => assumption))))
local macro_rules | `(tactic| walk_at "FnAt") => `(tactic| assumption)
local macro_rules | `(tactic| walk_at "callWith ref") => `(tactic| (k_dflt (refine callWith_F (by assumption) ?_)))
local macro_rules | `(tactic| walk_at "callWith ref") => `(tactic| (k_dflt (refine callWith_F0 (by assumption) ?_; (try dsimp only [List.nil_append, List.cons_append]))))
local macro_rules | `(tactic| walk_at "getMethod ref") => `(tactic| (with_reducible refine stop_of ?_))
theorem c_plain {w : World} {A : Around} {s : Shared} {mg mb : Str → Option Value} {mean : ExcName → Option Value} {f ic oc lI lO c P : Addr} {cd : Value} {size block : Nat} {bI bO msg : Array UInt8} {tm : Tok} {Q : Value → Shared → Prop}
    (X : (KK w.params).In s.heap) (T : Top topProg l0 mean mg mb s.heap) (hd : A.depth + 6 < recursionLimit) (hh : A.handled = none) (U : FnO s.heap f pHm qHm [("_outer_copy", oc), ("_inner_copy", ic)] .none cd) (CI : CopyC s.heap ic c lI bI) (CO : CopyC s.heap oc c lO bO) (K : ConstO s.heap c P size block)
    (hs1 : 1 ≤ size) (hs2 : size ≤ 20) (hbI : bI.size ≤ 100) (hbO : bO.size ≤ 100) (hmsg : msg.size ≤ 100)
    (hQ : ∀ t' h' tk, But [P] s.heap h' → s.heap.objs.size ≤ h'.objs.size → ConstO h' c P size block → Q (.bytes (lawSum (bO ++ lawSum (bI ++ msg) size) size) t') { s with heap := h', toks := tk }) :
    wpAny (model pw w) A (call (.ref f) [.bytes msg tm]) Q (fun _ _ => False) s := by
  have hfill : KK w.params = KK w.params ∧ PySem.Challenge.rw_aj5027_01 = PySem.Challenge.rw_aj5027_01 := by
    k_fill
    exact ⟨rfl, rfl⟩
  clear hfill
  have hs := K.soft
  obtain ⟨cpO, hoc, hC, hl⟩ := CO
  obtain ⟨cpI, hic, hCi, hli⟩ := CI
  refine wpAny_call ?_
  refine' enterF (binds := [("msg", .bytes msg tm)]) X T [P] hs U ?room ?hb ?hloc ?_ ?c2 ?c3 ?c4 ?c5
  case room => omega
  case hb => exact fun _ _ _ => BindsTo.of_eq rfl
  case hloc => exact locs rfl
  case c2 => rfl
  case c3 => rfl
  case c4 => rfl
  case c5 => decide
  intro base L h₁ big M0 B0 S0 KX KT F N G hL
  have hiB := cell_but hic M0 hs.loose
  have hoB := cell_but hoc M0 hs.loose
  clear X T
  dsimp only
  have L1 : Loose s.heap [L] := loose_ge (fun a ha => by cases List.mem_singleton.mp ha; exact hL)
  have M1 : But [L] s.heap h₁ := Seg.now G F N
  have hPL : P ∉ [L] := fun q => Nat.lt_irrefl _ (Nat.lt_of_lt_of_le ((List.mem_singleton.mp q) ▸ K.lt) hL)
  have hPb : base.get? P = none := S0 P (.head _)
  have nl0 : ∀ {l' b'}, LstO s.heap l' b' → l' ∉ [L] := fun {l' b'} I q => by
    obtain ⟨_, _, _, o, e, _⟩ := I
    exact Nat.lt_irrefl _ (Nat.lt_of_lt_of_le ((List.mem_singleton.mp q) ▸ Heap.lt_size e) hL)
  have Kh1 := K.but M1 L1 hPL
  have Co1 := hC.but M1 L1
  have Io1 := hl.but M1 (nl0 hl)
  have Ci1 := hCi.but M1 L1
  have Ii1 := hli.but M1 (nl0 hli)
  have hF1 : FnAt cpI h₁ := Ci1.at
  k_steps
  rename Fr _ _ _ _ => F
  refine c_copy (KX.keeps F.keep) (KT.keeps F.keep) ?rm Ci1 Kh1 Ii1 (lst_ne Kh1 Ii1) fun y1 l1 h2 tk2 M2 z2 K2 H2 n2 => ?_
  case rm => show A.depth + 1 + 4 < recursionLimit; omega
  obtain ⟨big2, F2, N2, G2⟩ := seg F M2 (fun a ha => by cases List.mem_singleton.mp ha; exact hPb) (fun q => hPL (List.mem_singleton.mp q ▸ .head _))
  have Co2 := Co1.but M2 (con_loose Kh1)
  have Io2 := Io1.but M2 (lst_nin Kh1 Io1)
  have m2 := F2.ns
  have hl1b : base.get? l1 = none := by
    cases q : base.get? l1 with
    | none => rfl
    | some o => have := F.keep _ _ q; rw [n2] at this; cases this
  have h1O : lO ∉ [l1] := fun q => by
    obtain ⟨_, _, _, o, e, _⟩ := Io1
    rw [List.mem_singleton.mp q, n2] at e; cases e
  clear F N hF1
  k_steps
  rename Fr _ _ _ _ => F3
  rename News _ _ _ _ => N3
  rename_i h3
  have M3 : But [L] h2 h3 := Seg.now G2 F3 N3
  have Lf2 := loose_L m2
  have K3 := K2.but M3 Lf2 (con_nf m2 K2)
  have Hi3 := H2.but M3 Lf2 (lst_nf m2 H2.lst)
  have Co3 := Co2.but M3 Lf2
  have Io3 := Io2.but M3 (lst_nf m2 Io2)
  refine ⟨?_⟩
  refine H_update (KX.keeps F3.keep) (KT.keeps F3.keep) ?rm Hi3 (by omega) (by rfl) fun h4 tk4 st4 z4 => ?_
  case rm => show A.depth + 1 + 0 < recursionLimit; omega
  have F4 := F3.keeps st4
  have N4 := N3.keepsAll st4
  clear F3 N3
  k_steps
  rename Fr _ _ _ _ => F4
  refine ⟨msg, _, rfl, by omega, st4, fun h5 tk5 M5 l5 z5 => ?_⟩
  have K4 := con_stays K3 st4
  have Hi4 := hash_stays Hi3 st4
  have K5 := K4.but M5 (lst_loose Hi4.lst) (con_nl K4 Hi4.lst)
  have Hi5 := Hi4.upd M5 l5
  have Co5 := (Co3.but (But.of_stays st4 (S := [])) (Ln _)).but M5 (lst_loose Hi4.lst)
  have Io5 := (Io3.but (But.of_stays st4 (S := [])) (fun q => nomatch q)).but M5 h1O
  obtain ⟨big5, F5, N5, G5⟩ := seg F4 M5 (fun a ha => by cases List.mem_singleton.mp ha; exact hl1b) (fun q => lst_nf F4.ns Hi4.lst (List.mem_singleton.mp q ▸ .head _))
  have m5 := F5.ns
  have hF5 : FnAt cpO h5 := Co5.at
  clear F4 N4
  dsimp only
  k_steps
  rename Fr _ _ _ _ => F5
  refine c_copy (KX.keeps F5.keep) (KT.keeps F5.keep) ?rm Co5 K5 Io5 (lst_ne K5 Io5) fun y2 l2 h6 tk6 M6 z6 K6 H6 n6 => ?_
  case rm => show A.depth + 1 + 4 < recursionLimit; omega
  obtain ⟨big6, F6, N6, G6⟩ := seg F5 M6 (fun a ha => by cases List.mem_singleton.mp ha; exact hPb) (fun q => hPL (List.mem_singleton.mp q ▸ .head _))
  have Hi6 := Hi5.but M6 (con_loose K5) (lst_nin K5 Hi5.lst)
  have m6 := F6.ns
  have hl2b : base.get? l2 = none := by
    cases q : base.get? l2 with
    | none => rfl
    | some o => have := F5.keep _ _ q; rw [n6] at this; cases this
  clear F5 N5 hF5
  k_steps
  rename Fr _ _ _ _ => F7
  rename News _ _ _ _ => N7
  rename_i h7
  have M7 : But [L] h6 h7 := Seg.now G6 F7 N7
  have Lf6 := loose_L m6
  have K7 := K6.but M7 Lf6 (con_nf m6 K6)
  have Ho7 := H6.but M7 Lf6 (lst_nf m6 H6.lst)
  have Hi7 := Hi6.but M7 Lf6 (lst_nf m6 Hi6.lst)
  refine ⟨?_⟩
  refine H_update (KX.keeps F7.keep) (KT.keeps F7.keep) ?rm Ho7 (by omega) (by rfl) fun h8 tk8 st8 z8 => ?_
  case rm => show A.depth + 1 + 0 < recursionLimit; omega
  have F8 := F7.keeps st8
  have N8 := N7.keepsAll st8
  have Hi8 := hash_stays Hi7 st8
  clear F7 N7 Hi7
  k_steps
  rename Fr _ _ _ _ => F8
  refine ⟨?_⟩
  refine H_digest (KX.keeps F8.keep) (KT.keeps F8.keep) ?rm Hi8 (by rw [Array.size_append]; omega) hs1 hs2 fun t9 h9 tk9 st9 z9 => ?_
  case rm => show A.depth + 1 + 1 < recursionLimit; omega
  have F9 := F8.keeps st9
  clear F8 N8
  obtain ⟨big9, F9, N9, G9⟩ := seg (S := []) F9 But.refl (fun _ h => nomatch h) (fun h => nomatch h)
  dsimp only at st8 st9
  k_steps
  rename Fr _ _ _ _ => F9
  refine ⟨_, _, rfl, (by rw [lawSum_size]; omega), fun b o e => st9 _ _ (st8 _ _ e), fun h10 tk10 M10 l10 z10 => ?_⟩
  have Ho9 := hash_stays (hash_stays Ho7 st8) st9
  have K9 := con_stays (con_stays K7 st8) st9
  have K10 := K9.but M10 (lst_loose Ho9.lst) (con_nl K9 Ho9.lst)
  have Ho10 := Ho9.upd M10 l10
  obtain ⟨big10, F10, N10, G10⟩ := seg F9 M10 (fun a ha => by cases List.mem_singleton.mp ha; exact hl2b) (fun q => lst_nf F9.ns Ho9.lst (List.mem_singleton.mp q ▸ .head _))
  clear F9 N9 G9
  dsimp only
  k_steps
  rename Fr _ _ _ _ => F10
  refine ⟨?_⟩
  refine H_digest (KX.keeps F10.keep) (KT.keeps F10.keep) ?rm Ho10 (by rw [Array.size_append, lawSum_size]; omega) hs1 hs2 fun t11 h11 tk11 st11 z11 => ?_
  case rm => show A.depth + 1 + 1 < recursionLimit; omega
  dsimp only
  refine hQ t11 h11 tk11 (fun b o e hb => ?_) (szL hL (F10.keeps st11)) (con_stays K10 st11)
  have bL : b ∉ [L] := fun q => Nat.lt_irrefl _ (Nat.lt_of_lt_of_le ((List.mem_singleton.mp q) ▸ Heap.lt_size e) hL)
  have e1 := M1 _ _ e bL
  have bl : b ∉ [l1] := fun q => by rw [List.mem_singleton.mp q, n2] at e1; cases e1
  have e5 := M5 _ _ (st4 _ _ (M3 _ _ (M2 _ _ e1 hb) bL)) bl
  have bl2 : b ∉ [l2] := fun q => by rw [List.mem_singleton.mp q, n6] at e5; cases e5
  exact st11 _ _ (M10 _ _ (st9 _ _ (st8 _ _ (M7 _ _ (M6 _ _ e5 hb) bL))) bl2)

end
end Mine
namespace Mine
noncomputable section
open PySem PySem.W PySem.Calls PyProof.Rows
set_option maxRecDepth 100000
set_option maxHeartbeats 4000000
set_option linter.unusedVariables false

/-- the addresses of what law has made -/
structure Ad where
  c : Addr
  P : Addr
  fp : Addr
  icp : Addr
  ocp : Addr
  lIp : Addr
  lOp : Addr
  ocm : Addr
  lOm : Addr
  u1 : Addr
  l1 : Addr
  f1 : Addr
  k1 : Addr
  y1 : Addr
  u2 : Addr
  l2 : Addr
  f2 : Addr
  k2 : Addr
  y2 : Addr
  cdp : Value
  cd1 : Value
  cd2 : Value
/-- how it stands: w1, w2 are what the two pairs have been told -/
structure LW (base h : Heap) (a : Ad) (size block : Nat) (kk w1 w2 : Array UInt8) : Prop where
  K : ConstO h a.c a.P size block
  U0 : FnO h a.fp pHm qHm [("_outer_copy", a.ocp), ("_inner_copy", a.icp)] .none a.cdp
  CIp : CopyC h a.icp a.c a.lIp (xorA kk 54)
  COp : CopyC h a.ocp a.c a.lOp (xorA kk 92)
  COm : CopyC h a.ocm a.c a.lOm (xorA kk 92)
  Up1 : UpdO h a.u1 a.l1
  Fn1 : FnO h a.f1 sFin qFin [("inner", a.k1), ("_outer_copy", a.ocm)] .none a.cd1
  Ce1 : h.IsCell a.k1 (some (.ref a.y1))
  Ha1 : HashO h a.y1 a.l1 a.c size block (xorA kk 54 ++ w1)
  Up2 : UpdO h a.u2 a.l2
  Fn2 : FnO h a.f2 sFin qFin [("inner", a.k2), ("_outer_copy", a.ocm)] .none a.cd2
  Ce2 : h.IsCell a.k2 (some (.ref a.y2))
  Ha2 : HashO h a.y2 a.l2 a.c size block (xorA kk 54 ++ w2)
  n12 : a.l1 ≠ a.l2
  m1 : a.l1 ≠ a.lIp ∧ a.l1 ≠ a.lOp ∧ a.l1 ≠ a.lOm
  m2 : a.l2 ≠ a.lIp ∧ a.l2 ≠ a.lOp ∧ a.l2 ≠ a.lOm
  bP : base.get? a.P = none
  b1 : base.get? a.l1 = none
  b2 : base.get? a.l2 = none
  t1 : ∃ ps, h.get? 183 = some (tabObj ps)
  t2 : ∃ ps, h.get? 327 = some (tabObj ps)
  p1 : a.P ≠ 183 ∧ a.P ≠ 327
theorem CopyC.lst {h : Heap} {k c l : Addr} {b : Array UInt8} (x : CopyC h k c l b) : LstO h l b := let ⟨_, _, _, I⟩ := x; I
theorem tab_nf {h : Heap} {L t : Addr} {m : Str → Option Value} {ps : Array Value} (n : h.Ns L m) (e : h.get? t = some (tabObj ps)) : t ∉ [L] := fun q => by
  obtain ⟨o', es, ep, e', hd', _⟩ := n
  rw [List.mem_singleton.mp q, e'] at e; cases e; cases hd'
theorem tab_nl {h : Heap} {l t : Addr} {b : Array UInt8} {ps : Array Value} (e : h.get? t = some (tabObj ps)) (I : LstO h l b) : t ∉ [l] := fun q => by
  obtain ⟨_, _, _, o, e', hc, _⟩ := I
  rw [List.mem_singleton.mp q, e'] at e; cases e; cases hc
section
variable {base h h' : Heap} {a : Ad} {size block : Nat} {kk w1 w2 : Array UInt8}
theorem LW.but {S : List Addr} (x : LW base h a size block kk w1 w2) (M : But S h h') (hs : Loose h S) (hP : a.P ∉ S) (hl : ∀ l b, LstO h l b → l ∉ S) (ht : ∀ t ps, h.get? t = some (tabObj ps) → (t = 183 ∨ t = 327) → t ∉ S) : LW base h' a size block kk w1 w2 :=
  { K := x.K.but M hs hP, U0 := x.U0.but M hs, CIp := x.CIp.but M hs (hl _ _ x.CIp.lst), COp := x.COp.but M hs (hl _ _ x.COp.lst), COm := x.COm.but M hs (hl _ _ x.COm.lst), Up1 := x.Up1.but M hs, Fn1 := x.Fn1.but M hs, Ce1 := cell_but x.Ce1 M hs, Ha1 := x.Ha1.but M hs (hl _ _ x.Ha1.lst),
    Up2 := x.Up2.but M hs, Fn2 := x.Fn2.but M hs, Ce2 := cell_but x.Ce2 M hs, Ha2 := x.Ha2.but M hs (hl _ _ x.Ha2.lst), n12 := x.n12, m1 := x.m1, m2 := x.m2, bP := x.bP, b1 := x.b1, b2 := x.b2, t1 := let ⟨ps, e⟩ := x.t1; ⟨ps, M _ _ e (ht _ _ e (.inl rfl))⟩, t2 := let ⟨ps, e⟩ := x.t2; ⟨ps, M _ _ e (ht _ _ e (.inr rfl))⟩, p1 := x.p1 }
theorem LW.stays (x : LW base h a size block kk w1 w2) (st : h.StaysIn h') : LW base h' a size block kk w1 w2 := x.but (But.of_stays st (S := [])) (Ln _) (fun q => nomatch q) (fun _ _ _ q => nomatch q) (fun _ _ _ _ q => nomatch q)
theorem LW.frame {L : Addr} {m : Str → Option Value} (x : LW base h a size block kk w1 w2) (n : h.Ns L m) (M : But [L] h h') : LW base h' a size block kk w1 w2 := x.but M (loose_L n) (con_nf n x.K) (fun _ _ I => lst_nf n I) (fun t ps e _ q => tab_nf n e q)
theorem LW.con (x : LW base h a size block kk w1 w2) (M : But [a.P] h h') (K' : ConstO h' a.c a.P size block) : LW base h' a size block kk w1 w2 :=
  have hs := con_loose x.K
  { K := K', U0 := x.U0.but M hs, CIp := x.CIp.but M hs (lst_nin x.K x.CIp.lst), COp := x.COp.but M hs (lst_nin x.K x.COp.lst), COm := x.COm.but M hs (lst_nin x.K x.COm.lst), Up1 := x.Up1.but M hs, Fn1 := x.Fn1.but M hs, Ce1 := cell_but x.Ce1 M hs, Ha1 := x.Ha1.but M hs (lst_nin x.K x.Ha1.lst),
    Up2 := x.Up2.but M hs, Fn2 := x.Fn2.but M hs, Ce2 := cell_but x.Ce2 M hs, Ha2 := x.Ha2.but M hs (lst_nin x.K x.Ha2.lst), n12 := x.n12, m1 := x.m1, m2 := x.m2, bP := x.bP, b1 := x.b1, b2 := x.b2, t1 := let ⟨ps, e⟩ := x.t1; ⟨ps, M _ _ e (fun q => x.p1.1 (List.mem_singleton.mp q).symm)⟩, t2 := let ⟨ps, e⟩ := x.t2; ⟨ps, M _ _ e (fun q => x.p1.2 (List.mem_singleton.mp q).symm)⟩, p1 := x.p1 }
theorem ne_nin {l m : Addr} (h : l ≠ m) : m ∉ [l] := fun q => h (List.mem_singleton.mp q).symm
theorem LW.up1 {m : Array UInt8} (x : LW base h a size block kk w1 w2) (M : But [a.l1] h h') (I : LstO h' a.l1 ((xorA kk 54 ++ w1) ++ m)) : LW base h' a size block kk (w1 ++ m) w2 :=
  have hs := lst_loose x.Ha1.lst
  { K := x.K.but M hs (con_nl x.K x.Ha1.lst), U0 := x.U0.but M hs, CIp := x.CIp.but M hs (ne_nin x.m1.1), COp := x.COp.but M hs (ne_nin x.m1.2.1), COm := x.COm.but M hs (ne_nin x.m1.2.2), Up1 := x.Up1.but M hs, Fn1 := x.Fn1.but M hs, Ce1 := cell_but x.Ce1 M hs, Ha1 := x.Ha1.upd M (by rw [← Array.append_assoc]; exact I),
    Up2 := x.Up2.but M hs, Fn2 := x.Fn2.but M hs, Ce2 := cell_but x.Ce2 M hs, Ha2 := x.Ha2.but M hs (ne_nin x.n12), n12 := x.n12, m1 := x.m1, m2 := x.m2, bP := x.bP, b1 := x.b1, b2 := x.b2, t1 := let ⟨ps, e⟩ := x.t1; ⟨ps, M _ _ e (tab_nl e x.Ha1.lst)⟩, t2 := let ⟨ps, e⟩ := x.t2; ⟨ps, M _ _ e (tab_nl e x.Ha1.lst)⟩, p1 := x.p1 }
theorem LW.up2 {m : Array UInt8} (x : LW base h a size block kk w1 w2) (M : But [a.l2] h h') (I : LstO h' a.l2 ((xorA kk 54 ++ w2) ++ m)) : LW base h' a size block kk w1 (w2 ++ m) :=
  have hs := lst_loose x.Ha2.lst
  { K := x.K.but M hs (con_nl x.K x.Ha2.lst), U0 := x.U0.but M hs, CIp := x.CIp.but M hs (ne_nin x.m2.1), COp := x.COp.but M hs (ne_nin x.m2.2.1), COm := x.COm.but M hs (ne_nin x.m2.2.2), Up1 := x.Up1.but M hs, Fn1 := x.Fn1.but M hs, Ce1 := cell_but x.Ce1 M hs, Ha1 := x.Ha1.but M hs (ne_nin x.n12.symm),
    Up2 := x.Up2.but M hs, Fn2 := x.Fn2.but M hs, Ce2 := cell_but x.Ce2 M hs, Ha2 := x.Ha2.upd M (by rw [← Array.append_assoc]; exact I), n12 := x.n12, m1 := x.m1, m2 := x.m2, bP := x.bP, b1 := x.b1, b2 := x.b2, t1 := let ⟨ps, e⟩ := x.t1; ⟨ps, M _ _ e (tab_nl e x.Ha2.lst)⟩, t2 := let ⟨ps, e⟩ := x.t2; ⟨ps, M _ _ e (tab_nl e x.Ha2.lst)⟩, p1 := x.p1 }
end
/-- the code that law asks for -/
def Same (key kk : Array UInt8) (size block : Nat) : Prop := ∀ w : Array UInt8, lawSum (xorA kk 92 ++ lawSum (xorA kk 54 ++ w) size) size = lawCode key w size block
section
variable {w : World} {A : Around} {s : Shared} {mg mb m : Str → Option Value} {mean : ExcName → Option Value} {base : Heap} {L : Addr} {news : List (Addr × Obj)} {a : Ad} {size block : Nat} {key kk w1 w2 : Array UInt8} {t : Tok} {Q : Value → Shared → Prop}
theorem lw_fin1 (X : (KK w.params).In base) (T : Top topProg l0 mean mg mb base) (F : Fr base L s.heap m) (hd : A.depth + 6 < recursionLimit) (hh : A.handled = none) (x : LW base s.heap a size block kk w1 w2) (hs1 : 1 ≤ size) (hs2 : size ≤ 20) (hk : kk.size ≤ 40) (sm : Same key kk size block) (hw : w1.size ≤ 100)
    (hQ : ∀ t' h' tk big, Fr base L h' m → News base L h' big → Seg base L h' big → LW base h' a size block kk w1 w2 → Q (.bytes (lawCode key w1 size block) t') { s with heap := h', toks := tk }) :
    wpAny (model pw w) A (call (.ref a.f1) []) Q (fun _ _ => False) s := by
  refine c_fin (X.keeps F.keep) (T.keeps F.keep) hd hh x.Fn1 x.Ce1 x.Ha1 x.COm x.K hs1 hs2 (by rw [Array.size_append, xorA_size]; omega) (by rw [xorA_size]; omega) fun t' h' tk M z K' => ?_
  obtain ⟨big, F', N', G'⟩ := seg F M (fun b hb => by cases List.mem_singleton.mp hb; exact x.bP) (fun q => con_nf F.ns x.K (List.mem_singleton.mp q ▸ .head _))
  rw [sm]
  exact hQ t' h' tk big F' N' G' (x.con M K')
theorem lw_upd1 (X : (KK w.params).In base) (T : Top topProg l0 mean mg mb base) (F : Fr base L s.heap m) (hd : A.depth + 6 < recursionLimit) (hh : A.handled = none) (x : LW base s.heap a size block kk w1 w2) (hs1 : 1 ≤ size) (hs2 : size ≤ 20) (hk : kk.size ≤ 40) {b : Array UInt8} {tb : Tok} (hw : w1.size ≤ 100) (hb : b.size ≤ 100)
    (hQ : ∀ h' tk big, Fr base L h' m → News base L h' big → Seg base L h' big → LW base h' a size block kk (w1 ++ b) w2 → Q .none { s with heap := h', toks := tk }) :
    wpAny (model pw w) A (call (.ref a.u1) [.bytes b tb]) Q (fun _ _ => False) s := by
  refine c_update (X.keeps F.keep) (T.keeps F.keep) (by omega) x.Up1 x.Ha1.lst (by rw [Array.size_append, xorA_size]; omega) (by omega) fun h' tk M I z => ?_
  obtain ⟨big, F', N', G'⟩ := seg F M (fun b hb => by cases List.mem_singleton.mp hb; exact x.b1) (fun q => lst_nf F.ns x.Ha1.lst (List.mem_singleton.mp q ▸ .head _))
  exact hQ h' tk big F' N' G' (x.up1 M I)
theorem lw_fin2 (X : (KK w.params).In base) (T : Top topProg l0 mean mg mb base) (F : Fr base L s.heap m) (hd : A.depth + 6 < recursionLimit) (hh : A.handled = none) (x : LW base s.heap a size block kk w1 w2) (hs1 : 1 ≤ size) (hs2 : size ≤ 20) (hk : kk.size ≤ 40) (sm : Same key kk size block) (hw : w2.size ≤ 100)
    (hQ : ∀ t' h' tk big, Fr base L h' m → News base L h' big → Seg base L h' big → LW base h' a size block kk w1 w2 → Q (.bytes (lawCode key w2 size block) t') { s with heap := h', toks := tk }) :
    wpAny (model pw w) A (call (.ref a.f2) []) Q (fun _ _ => False) s := by
  refine c_fin (X.keeps F.keep) (T.keeps F.keep) hd hh x.Fn2 x.Ce2 x.Ha2 x.COm x.K hs1 hs2 (by rw [Array.size_append, xorA_size]; omega) (by rw [xorA_size]; omega) fun t' h' tk M z K' => ?_
  obtain ⟨big, F', N', G'⟩ := seg F M (fun b hb => by cases List.mem_singleton.mp hb; exact x.bP) (fun q => con_nf F.ns x.K (List.mem_singleton.mp q ▸ .head _))
  rw [sm]
  exact hQ t' h' tk big F' N' G' (x.con M K')
theorem lw_upd2 (X : (KK w.params).In base) (T : Top topProg l0 mean mg mb base) (F : Fr base L s.heap m) (hd : A.depth + 6 < recursionLimit) (hh : A.handled = none) (x : LW base s.heap a size block kk w1 w2) (hs1 : 1 ≤ size) (hs2 : size ≤ 20) (hk : kk.size ≤ 40) {b : Array UInt8} {tb : Tok} (hw : w2.size ≤ 100) (hb : b.size ≤ 100)
    (hQ : ∀ h' tk big, Fr base L h' m → News base L h' big → Seg base L h' big → LW base h' a size block kk w1 (w2 ++ b) → Q .none { s with heap := h', toks := tk }) :
    wpAny (model pw w) A (call (.ref a.u2) [.bytes b tb]) Q (fun _ _ => False) s := by
  refine c_update (X.keeps F.keep) (T.keeps F.keep) (by omega) x.Up2 x.Ha2.lst (by rw [Array.size_append, xorA_size]; omega) (by omega) fun h' tk M I z => ?_
  obtain ⟨big, F', N', G'⟩ := seg F M (fun b hb => by cases List.mem_singleton.mp hb; exact x.b2) (fun q => lst_nf F.ns x.Ha2.lst (List.mem_singleton.mp q ▸ .head _))
  exact hQ h' tk big F' N' G' (x.up2 M I)
theorem lw_plain (X : (KK w.params).In base) (T : Top topProg l0 mean mg mb base) (F : Fr base L s.heap m) (hd : A.depth + 6 < recursionLimit) (hh : A.handled = none) (x : LW base s.heap a size block kk w1 w2) (hs1 : 1 ≤ size) (hs2 : size ≤ 20) (hk : kk.size ≤ 40) {b : Array UInt8} {tb : Tok} (sm : Same key kk size block) (hb : b.size ≤ 100)
    (hQ : ∀ t' h' tk big, Fr base L h' m → News base L h' big → Seg base L h' big → LW base h' a size block kk w1 w2 → Q (.bytes (lawCode key b size block) t') { s with heap := h', toks := tk }) :
    wpAny (model pw w) A (call (.ref a.fp) [.bytes b tb]) Q (fun _ _ => False) s := by
  refine c_plain (X.keeps F.keep) (T.keeps F.keep) hd hh x.U0 x.CIp x.COp x.K hs1 hs2 (by rw [xorA_size]; omega) (by rw [xorA_size]; omega) hb fun t' h' tk M z K' => ?_
  obtain ⟨big, F', N', G'⟩ := seg F M (fun b hb => by cases List.mem_singleton.mp hb; exact x.bP) (fun q => con_nf F.ns x.K (List.mem_singleton.mp q ▸ .head _))
  rw [sm]
  exact hQ t' h' tk big F' N' G' (x.con M K')
end

end
end Mine
namespace Mine
noncomputable section
open PySem PySem.W PySem.Calls PyProof.Rows
set_option maxRecDepth 100000
set_option maxHeartbeats 4000000
set_option linter.unusedVariables false
theorem kstays_list {base h : Heap} {l : Addr} {items : Array Value} (x : base.IsList l items) (k : base.StaysIn h) : h.IsList l items := let ⟨o, ho, r⟩ := x; ⟨o, k l o ho, r⟩
theorem isCell_but1 {S : List Addr} {h h' : Heap} {c : Addr} {v : Option Value} (x : h.IsCell c v) (M : But S h h') (hc : c ∉ S) : h'.IsCell c v := let ⟨o, e, d⟩ := x; ⟨o, M _ _ e hc, d⟩
theorem ext_stays {h h' : Heap} (x : Heap.ExtBut h.objs.size h h') : h.StaysIn h' := fun b o e => x b o (Nat.ne_of_lt (Heap.lt_size e)) e
local macro_rules | `(tactic| walk_at "eval Name") => `(tactic| (k_dflt (refine' nameM ?F ?v ?_ ?a ?b ?c; (case F => k_asm); (case v => first | with_reducible assumption | rfl | assumption); (case a => rfl); (case b => rfl); (case c => decide))))
local macro_rules | `(tactic| walk_at "call ref") => `(tactic| (
  (with_reducible rename Frag.In _ _ => kX); (with_reducible rename Fr _ _ _ _ => kF); (with_reducible rename News _ _ _ _ => kN); (with_reducible rename Top _ _ _ _ _ _ => kT); (with_reducible rename IntsAre _ _ => kI); (with_reducible rename Heap.IsList _ _ _ => kL);
  k_dflt (
  refine' s_cell (Frag.In.keeps kX (Fr.keep kF)) (Top.keeps kT (Fr.keep kF)) ?rm (kstays_list kL (Fr.keep kF)) kI ?ln ?_;
  (case rm => (show _ + 1 + 0 < recursionLimit; omega)); (case ln => omega);
  intro t9 h9 tk9 st9 sz9; have F9 := Fr.keeps kF st9; have N9 := News.keepsAll kN st9; clear kF kN)))
local macro_rules | `(tactic| walk_at "call ref") => `(tactic| (
  (with_reducible rename Frag.In _ _ => kX); (with_reducible rename Fr _ _ _ _ => kF); (with_reducible rename News _ _ _ _ => kN); (with_reducible rename Top _ _ _ _ _ _ => kT);
  k_dflt (
  refine' s_sizes (Frag.In.keeps kX (Fr.keep kF)) (Top.keeps kT (Fr.keep kF)) ?rm ?_;
  (case rm => (show _ + 1 + 0 < recursionLimit; omega));
  intro D9 h9 tk9 st9 sz9 I9; obtain ⟨t19, t29, I9⟩ := I9; have F9 := Fr.keeps kF st9; have N9 := News.keepsAll kN st9; clear kF kN)))
local macro_rules | `(tactic| walk_at "assign Tuple cons ref") => `(tactic| (
  (with_reducible rename Fr _ _ _ _ => kF); (with_reducible rename News _ _ _ _ => kN); (with_reducible rename Around.handled _ = none => kH);
  k_dflt (
  refine' assign_Tuple_tuple kH ?tt ?tn ?ts ?_; (case tt => first | assumption | exact News.isTup kN (by k_mem)); (case tn => rfl); (case ts => rfl));
  intro h9 st9; have st9 := ext_stays st9; have F9 := Fr.keeps kF st9; have N9 := News.keepsAll kN st9; clear kF kN; (try dsimp only)))
theorem l_pre {w : World} {A : Around} {s : Shared} {mg mb m : Str → Option Value} {mean : ExcName → Option Value} {base : Heap} {L cN cS : Addr} {big : List (Addr × Obj)}
    (KX : (KK w.params).In base) (KT : Top topProg l0 mean mg mb base) (F : Fr base L s.heap m) (N : News base L s.heap big) (G : Seg base L s.heap big) {l : Addr} {vs : List Value} {ns : List Int} {Q : Flow → Shared → Prop} (hd : A.depth + 8 < recursionLimit) (hh : A.handled = none) (hm1 : m "script" = some (.ref l)) (hl : base.IsList l vs.toArray) (hi : IntsAre vs ns) (hn : ns.length ≤ 63)
    (cS0 : s.heap.IsCell cS none) (cSb : base.get? cS = none)
    (hQ : ∀ m' h' tk big' t1 t2 t3 t4, Fr base L h' m' → News base L h' big' → Seg base L h' big' → But [L, cS] s.heap h' → h'.IsCell cS (some (.int (ns.getD 1 0) t4)) → (∀ y : Str, y ≠ "first" → y ≠ "size" → y ≠ "block" → m' y = m y) → m' "first" = some (.int (ns.getD 0 0) t1) → m' "size" = some (.int (sizesOf (ns.getD 0 0)).1 t2) → m' "block" = some (.int (sizesOf (ns.getD 0 0)).2 t3) → Q .next { s with heap := h', toks := tk }) :
    wpAny (model pw w) (A.deeper (envX "law" (fScope (fS 26)) L 349 (.ref 348) [("number", cN), ("second", cS)])) (execs (List.take 2 (fBody (fS 26))) (envX "law" (fScope (fS 26)) L 349 (.ref 348) [("number", cN), ("second", cS)])) Q (fun _ _ => False) s := by
  have hfill : KK w.params = KK w.params ∧ PySem.Challenge.rw_aj5027_01 = PySem.Challenge.rw_aj5027_01 := by
    k_fill
    exact ⟨rfl, rfl⟩
  clear hfill
  show wpAny _ _ (execs [_, _] _) _ _ _
  have n0 := F.ns
  have hh2 : (A.deeper (envX "law" (fScope (fS 26)) L 349 (.ref 348) [("number", cN), ("second", cS)])).handled = none := hh
  have cSL : cS ∉ [L] := fun q => by
    obtain ⟨o, e, d⟩ := cS0
    obtain ⟨o', es, ep, e', hd', _⟩ := n0
    rw [List.mem_singleton.mp q, e'] at e; cases e; rw [d] at hd'; cases hd'
  k_steps
  rename Fr _ _ _ _ => F1
  rename News _ _ _ _ => N1
  have M1 := Seg.now G F1 (fun p hp => N1 p (.tail _ hp))
  have ic := isCell_but1 cS0 M1 cSL
  refine wpAny_storeName_cell rfl rfl rfl ic fun h2 v2 s2 => ?_
  have M2 : But [cS] _ h2 := fun b o e hb => (s2.2 b (fun q => hb (List.mem_singleton.mpr q))).trans e
  obtain ⟨big2, F2, N2, G2⟩ := seg F1 M2 (fun a ha => by cases List.mem_singleton.mp ha; exact cSb) (fun q => cSL (List.mem_singleton.mp q ▸ .head _))
  have m2 := F2.ns
  clear F1 N1
  dsimp only
  k_steps
  rename Fr _ _ _ _ => F9
  rename News _ _ _ _ => N9
  have M9 := Seg.now G2 F9 N9
  obtain ⟨big9, F9, N9, G9⟩ := seg (S := []) F9 But.refl (fun _ h => nomatch h) (fun h => nomatch h)
  refine hQ _ _ _ big9 ?zt1 ?zt2 ?zt3 _ F9 N9 G9 (fun b o e hb => M9 _ _ (M2 _ _ (M1 _ _ e (fun q => hb (List.mem_singleton.mp q ▸ .head _))) (fun q => hb (List.mem_singleton.mp q ▸ .tail _ (.head _)))) (fun q => hb (List.mem_singleton.mp q ▸ .head _))) (cell_but v2 M9 (loose_L m2)) (fun y h0 h1 h2 => by simp only [if_neg h0, if_neg h1, if_neg h2]) ?za ?zb ?zc
  case za => rfl
  case zb => rfl
  case zc => rfl

end
end Mine
namespace Mine
noncomputable section
open PySem PySem.W PySem.Calls PyProof.Rows
set_option maxRecDepth 100000
set_option maxHeartbeats 4000000
set_option linter.unusedVariables false
local macro_rules | `(tactic| walk_at "no such stop") => `(tactic| skip)
local macro_rules | `(tactic| walk_at "no such stop") => `(tactic| skip)
local macro_rules | `(tactic| walk_at "no such stop") => `(tactic| skip)
local macro_rules | `(tactic| walk_at "no such stop") => `(tactic| skip)
local macro_rules | `(tactic| walk_at "no such stop") => `(tactic| skip)

theorem c_maker2 {w : World} {A : Around} {s : Shared} {mg mb : Str → Option Value} {mean : ExcName → Option Value} {size block : Nat} {t₁ t₂ : Tok} {Q : Value → Shared → Prop}
    (X : (KK w.params).In s.heap) (T : Top topProg l0 mean mg mb s.heap) (hd : A.depth + 0 < recursionLimit) (h327 : s.heap.get? 327 = some (tabObj #[])) (hQ : ∀ c P h' tk, But [327] s.heap h' → s.heap.objs.size ≤ h'.objs.size → ConstO h' c P size block → s.heap.get? P = none → (∃ ps, h'.get? 327 = some (tabObj ps)) → Q (.ref c) { s with heap := h', toks := tk }) :
    wpAny (model pw w) A (call (.ref 332) [.int size t₁, .int block t₂]) Q (fun _ _ => False) s := by
  have hfill : KK w.params = KK w.params ∧ PySem.Challenge.rw_aj5027_01 = PySem.Challenge.rw_aj5027_01 := by
    k_fill
    exact ⟨rfl, rfl⟩
  clear hfill
  have hs := soft327 h327 t327.1 t327.2
  refine wpAny_call ?_
  refine' enterKC (binds := [("size", .int size t₁), ("block", .int block t₂)]) (m := fun _ => none) (cm := fun y => if y = "block" then some (.int block t₂) else if y = "size" then some (.int size t₁) else none) X T [327] (fun a ha => ⟨(hs a ha).1, (hs a ha).2.1⟩) (.of hs.loose) (fn332 X) ?room ?hb ?hkind ?hL ?hC ?_ ?c2 ?c3 ?c4
  case room => omega
  case hb => exact fun _ _ _ => BindsTo.of_eq rfl
  case hkind => first | decide | (intro n; decide) | (intro n x hx; (repeat' (first | (rcases List.mem_cons.mp hx with rfl | hx; first | exact .inl rfl | exact .inr ⟨rfl, rfl⟩) | cases hx)))
  case hL => exact fun _ _ => rfl
  case hC => exact fun _ _ => rfl
  case c2 => rfl
  case c3 => rfl
  case c4 => rfl
  intro base L h₁ big tk M0 B0 S0 KX KT F N G hL K1 CC
  k_steps
  refine' kdv_def ?d0 ?k0 ?a0 ?_
  case d0 => exact rfl
  case k0 => exact rfl
  case a0 => exact rfl
  refine kdv_all1 ?_
  k_steps
  refine kdv_all0 ?_
  dsimp only
  refine kdv_tuple F N rfl fun dT h2 F2 N2 l2 => ?_
  have M2 : But [L] h₁ h2 := Seg.now G F2 (fun p hp => N2 p (.tail _ hp))
  have c1 := CC "size" (L + 1) rfl
  have c2 := CC "block" (L + 1 + 1) rfl
  have c3 := CC "const" (L + 1 + 1 + 1) rfl
  have X2 := KX.keeps F2.keep
  have T2 := KT.keeps F2.keep
  have hP2 : h2.get? 327 = some (tabObj #[]) := M2 _ _ (K1 _ _ h327) (fun q => Nat.lt_irrefl _ (Nat.lt_of_lt_of_le (List.mem_singleton.mp q ▸ Heap.lt_size h327) hL))
  have S2 := soft327 hP2 t327.1 t327.2
  refine tail_any (mg := mg) (mb := mb) (mean := mean) (clos := [("size", L + 1), ("const", L + 1 + 1 + 1), ("block", L + 1 + 1)]) (c := 331) (P := 327) (ps := #[]) rfl rfl T2 rfl (code331 X2) t327.1 t327.2 hP2 trivial (fun cv hc => by cases hc) fun f h3 tk3 doc pm ct cd M3 hf hf2 hfo cr nt => ?_
  rcases nt with ⟨q, _⟩ | ⟨_, c', P', rfl, cP, tP, hge, h4⟩
  · cases q
  have L3 : Loose h2 [327] := S2.loose
  have L2 := loose_L F.ns
  have k1 := cell_but (cell_but c1.1 M2 L2) M3 L3
  have k2 := cell_but (cell_but c2.1 M2 L2) M3 L3
  have hz9 : 327 < s.heap.objs.size := Heap.lt_size h327
  have k3 : h3.IsCell (L + 1 + 1 + 1) none := let ⟨o, e, d⟩ := c3.1; ⟨o, M3 _ _ (M2 _ _ e (fun q => Nat.ne_of_gt c3.2.1 (List.mem_singleton.mp q))) (fun q => Nat.lt_irrefl _ (Nat.lt_of_lt_of_le hz9 (Nat.le_trans hL (Nat.le_of_lt (List.mem_singleton.mp q ▸ c3.2.1))))), d⟩
  have kT : IsTup h3 dT _ := tup_but ⟨_, (N2 _ (.head _)).1, rfl, _, rfl⟩ M3 L3
  refine wpAny_storeName_cell rfl rfl rfl k3 fun h5 hv hs5 => ?_
  have M5 : But [L + 1 + 1 + 1] h3 h5 := fun b o e hb => (hs5.2 b (fun q => hb (List.mem_singleton.mpr q))).trans e
  have L5 : Loose h3 [L + 1 + 1 + 1] := fun a ha o e => by
    obtain ⟨o', e', d'⟩ := k3
    cases List.mem_singleton.mp ha
    rw [e'] at e; cases e; unfold fixK; rw [d']
  have M35 : But [327, L + 1 + 1 + 1] h2 h5 := (M3.mono (fun a ha => by cases List.mem_singleton.mp ha; exact .head _)).trans (M5.mono (fun a ha => by cases List.mem_singleton.mp ha; exact .tail _ (.head _)))
  obtain ⟨big5, F5, N5, G5⟩ := seg F2 M35 (fun a ha => by
    rcases List.mem_cons.mp ha with rfl | ha
    · exact S0 _ (.head _)
    · cases List.mem_singleton.mp ha; exact c3.2.2) (fun q => by
    rcases List.mem_cons.mp q with q | q
    · exact Nat.lt_irrefl _ (Nat.lt_of_lt_of_le (q ▸ Heap.lt_size h327) hL)
    · have := List.mem_singleton.mp q; exact absurd this (Nat.ne_of_lt (by omega)))
  have hge2 : s.heap.objs.size ≤ P' := Nat.le_trans (Nat.le_trans hL (Nat.le_of_lt F2.ns.lt)) hge
  clear F N F2 N2 G
  dsimp only
  refine wpAny_execs_cons (wpAny_Return_some (wpAny_Name (wpAny_loadName_cell rfl rfl rfl hv ?_) (by decide)))
  have zP : s.heap.get? P' = none := Heap.get?_none_of_le hge2
  dsimp only
  have k1' := cell_but k1 M5 L5
  have k2' := cell_but k2 M5 L5
  have kT' := tup_but kT M5 L5
  have hfn : FnO h3 f sConst qConst [("size", L + 1), ("const", L + 1 + 1 + 1), ("block", L + 1 + 1)] (.ref dT) (.ref c') := ⟨_, _, _, doc, pm, ct, hfo, cr⟩
  have hn3 : L + 1 + 1 + 1 ≠ P' := fun q => by
    obtain ⟨o, e, d⟩ := k3
    rw [q, tP] at e; cases e; cases d
  refine hQ f P' h5 _ (fun b o e hb => M35 b o (M2 b o (K1 b o e) ?_) ?_) ?_ ⟨dT, _, L + 1, L + 1 + 1 + 1, L + 1 + 1, t₁, t₂, c', hfn.but M5 L5, kT', codeHd_but cP M5 L5, ?_, k1', hv, k2'⟩ zP ⟨_, M5 _ _ h4 (fun q => by
    obtain ⟨o, e, d⟩ := k3
    rw [← List.mem_singleton.mp q, h4] at e; cases e; cases d)⟩
  · exact fun q => Nat.lt_irrefl _ (Nat.lt_of_lt_of_le (List.mem_singleton.mp q ▸ Heap.lt_size e) hL)
  · intro q
    rcases List.mem_cons.mp q with q | q
    · exact hb (List.mem_singleton.mpr q)
    · have e9 := Heap.lt_size e
      rw [List.mem_singleton.mp q] at e9
      exact Nat.lt_irrefl _ (Nat.lt_of_lt_of_le e9 (Nat.le_trans hL (Nat.le_of_lt c3.2.1)))
  · exact szL hL F5
  · have hp9 : 349 < P' := Nat.lt_of_lt_of_le (size_K X) hge2
    exact ⟨fun q => by rw [q] at hp9; exact absurd hp9 (by decide), not_asK hp9, #[], M5 _ _ tP (fun q => hn3 (List.mem_singleton.mp q).symm), trivial, fun q hq cv hc => by cases hc⟩

end
end Mine
namespace Mine
noncomputable section
open PySem PySem.W PySem.Calls PyProof.Rows
set_option maxRecDepth 100000
set_option maxHeartbeats 4000000
set_option linter.unusedVariables false
local macro_rules | `(tactic| walk_at "eval Name") => `(tactic| (k_dflt (refine' nameM ?F ?v ?_ ?a ?b ?c; (case F => k_asm); (case v => first | with_reducible assumption | rfl | assumption); (case a => rfl); (case b => rfl); (case c => decide))))
theorem l_info {w : World} {A : Around} {s : Shared} {mg mb m : Str → Option Value} {mean : ExcName → Option Value} {base : Heap} {L cN cS : Addr} {big : List (Addr × Obj)}
    (KX : (KK w.params).In base) (KT : Top topProg l0 mean mg mb base) (F : Fr base L s.heap m) (N : News base L s.heap big) (G : Seg base L s.heap big) {size block : Nat} {ta tb : Tok} {Q : Flow → Shared → Prop} (hd : A.depth + 8 < recursionLimit) (hh : A.handled = none) (hm1 : m "size" = some (.int size ta)) (hm2 : m "block" = some (.int block tb)) (hs1 : 1 ≤ size) (hs2 : size ≤ 20)
    (h327 : s.heap.get? 327 = some (tabObj #[])) (h327b : base.get? 327 = none) (hL9 : 349 < L)
    (hQ : ∀ c P x dx m' h' tk big', Fr base L h' m' → News base L h' big' → Seg base L h' big' → But [L, 327] s.heap h' → ConstO h' c P size block → InfI h' x dx c size block → s.heap.get? P = none → dx ≠ L → (∃ ps, h'.get? 327 = some (tabObj ps)) → (∀ y : Str, y ≠ "info" → m' y = m y) → m' "info" = some (.ref x) → Q .next { s with heap := h', toks := tk }) :
    wpAny (model pw w) (A.deeper (envX "law" (fScope (fS 26)) L 349 (.ref 348) [("number", cN), ("second", cS)])) (execs (List.take 1 (List.drop 2 (fBody (fS 26)))) (envX "law" (fScope (fS 26)) L 349 (.ref 348) [("number", cN), ("second", cS)])) Q (fun _ _ => False) s := by
  have hfill : KK w.params = KK w.params ∧ PySem.Challenge.rw_aj5027_01 = PySem.Challenge.rw_aj5027_01 := by
    k_fill
    exact ⟨rfl, rfl⟩
  clear hfill
  show wpAny _ _ (execs [_] _) _ _ _
  have n0 := F.ns
  have hh2 : (A.deeper (envX "law" (fScope (fS 26)) L 349 (.ref 348) [("number", cN), ("second", cS)])).handled = none := hh
  have h9L : (327 : Addr) ≠ L := Nat.ne_of_lt (Nat.lt_trans (by decide) hL9)
  k_steps
  rename Fr _ _ _ _ => F1
  rename News _ _ _ _ => N1
  have M1 := Seg.now G F1 N1
  have t1 := M1 _ _ h327 (fun q => h9L (List.mem_singleton.mp q))
  refine c_maker2 (KX.keeps F1.keep) (KT.keeps F1.keep) ?rm t1 fun c P h2 tk2 M2 z2 K2 nP t327 => ?_
  case rm => show A.depth + 1 + 0 < recursionLimit; omega
  obtain ⟨big2, F2, N2, G2⟩ := seg F1 M2 (fun a ha => by cases List.mem_singleton.mp ha; exact h327b) (fun q => h9L (List.mem_singleton.mp q).symm)
  have m2 := F2.ns
  have hPb : base.get? P = none := by
    cases q : base.get? P with
    | none => rfl
    | some o => have e := F1.keep _ _ q; rw [nP] at e; cases e
  clear F1 N1
  k_steps
  rename Fr _ _ _ _ => F3
  rename News _ _ _ _ => N3
  rename_i h3 _
  have M3 : But [L] h2 h3 := Seg.now G2 F3 (fun p hp => N3 p (.tail _ hp))
  have K3 := K2.but M3 (loose_L m2) (con_nf m2 K2)
  refine s_info (KX.keeps F3.keep) (KT.keeps F3.keep) ?rm hs1 hs2 K3 (N3.isTup (.head _)) fun x dx h4 tk4 M4 z4 e4 D4 K4 nd nx => ?_
  case rm => show A.depth + 1 + 5 < recursionLimit; omega
  obtain ⟨big4, F4, N4, G4⟩ := seg F3 M4 (fun a ha => by cases List.mem_singleton.mp ha; exact hPb) (fun q => con_nf F3.ns K3 (List.mem_singleton.mp q ▸ .head _))
  have m4 := F4.ns
  have exL : h3.get? L ≠ none := by obtain ⟨o', es, ep, e', _⟩ := F3.ns; rw [e']; exact fun q => nomatch q
  clear F3 N3
  dsimp only
  k_steps
  rename Fr _ _ _ _ => F5
  rename News _ _ _ _ => N5
  have M5 := Seg.now G4 F5 N5
  obtain ⟨big5, F5, N5, G5⟩ := seg (S := []) F5 But.refl (fun _ h => nomatch h) (fun h => nomatch h)
  have nPs : s.heap.get? P = none := by
    cases q : s.heap.get? P with
    | none => rfl
    | some o =>
      have e := M1 _ _ q (fun z => con_nf m2 K2 z)
      rw [nP] at e; cases e
  have tr : ∀ b o, s.heap.get? b = some o → b ≠ L → b ≠ 327 → h3.get? b = some o := fun b o e h1 h2 => M3 _ _ (M2 _ _ (M1 _ _ e (fun q => h1 (List.mem_singleton.mp q))) (fun q => h2 (List.mem_singleton.mp q))) (fun q => h1 (List.mem_singleton.mp q))
  have dxL : dx ≠ L := fun q => exL (q ▸ nd)
  refine hQ c P x dx _ _ _ big5 F5 N5 G5 (fun b o e hb => ?_) (K4.but M5 (loose_L m4) (con_nf m4 K4)) ⟨M5.fix (loose_L m4) e4 rfl, D4.but M5 (fun q => dxL (List.mem_singleton.mp q))⟩ nPs dxL ?_ (fun y h => if_neg h) rfl
  rotate_left
  · obtain ⟨ps, e⟩ := t327
    exact ⟨ps, M5 _ _ (M4 _ _ (M3 _ _ e (fun q => h9L (List.mem_singleton.mp q))) (fun q => by rw [← List.mem_singleton.mp q, h327] at nPs; cases nPs)) (fun q => h9L (List.mem_singleton.mp q))⟩
  have b1 : b ≠ L := fun q => hb (q ▸ .head _)
  have b2 : b ≠ 327 := fun q => hb (q ▸ .tail _ (.head _))
  have b3 : b ∉ [P] := fun q => by rw [List.mem_singleton.mp q, nPs] at e; cases e
  exact M5 _ _ (M4 _ _ (tr _ _ e b1 b2) b3) (fun q => b1 (List.mem_singleton.mp q))

end
end Mine
namespace Mine
noncomputable section
open PySem PySem.W PySem.Calls PyProof.Rows
set_option maxRecDepth 100000
set_option maxHeartbeats 4000000
set_option linter.unusedVariables false

theorem ints_snoc (v : Int) (t : Tok) : ∀ {ys : List Value} {ns : List Int}, IntsAre ys ns → IntsAre (ys ++ [.int v t]) (ns ++ [v])
  | _, _, .nil => .cons v t .nil
  | _, _, .cons a ta r => .cons a ta (ints_snoc v t r)
open LCg in
theorem compRest_ints {w : World} {A : Around} {base : Heap} {L : Addr} {m : Str → Option Value} {env : Env} {elt : Expr} {x : Str} {scope : Scope} {cl : List (Str × Addr)} {s : Shared} {news : List (Addr × Obj)} {lim : Nat}
    (elem : ∀ (k : Int) t C oC m₂ h tk (E' : Value → Shared → Prop) (Q' : Value → Shared → Prop), 0 ≤ k → k < (lim : Int) → NsObj oC m₂ → m₂ x = some (.int k t) → h.get? C = some oC → News base L h news →
      (∀ v t' tk', 0 ≤ v → v < 256 → Q' (.int v t') { s with heap := h, toks := tk' }) → wpAny (model pw w) A (eval elt (compEnvC scope cl C env)) Q' E' { s with heap := h, toks := tk })
    {Fin : List Value → List (Addr × Obj) → Prop} : ∀ (n i : Nat) (ys : List Value) (ns : List Int), i + n ≤ lim → IntsAre ys ns → (∀ v ∈ ns, 0 ≤ v ∧ v < 256) → ns.length = i →
      (∀ zs ms, IntsAre zs ms → (∀ v ∈ ms, 0 ≤ v ∧ v < 256) → ms.length = i + n → Fin zs news) →
      CompRest pw w A base L m env elt x scope cl s (fun _ => True) (fun i v => ∃ t, v = .int ((0 : Int) + (i : Int)) t) Fin n i ys news
  | 0, i, ys, ns, _, h1, h2, h3, fin => CompRest.zero (fin ys ns h1 h2 h3)
  | n + 1, i, ys, ns, hl, h1, h2, h3, fin => by
    refine CompRest.succ fun v I oI C oC D m₂ h tk E' hv hC hm F N off ne => ?_
    obtain ⟨t, rfl⟩ := hv
    have NN : News base L h news := fun p hp => N p (.tail _ (.tail _ (.tail _ hp)))
    refine elem _ t C oC m₂ h tk E' _ (by omega) (by omega) hC hm (N _ (.tail _ (.head _))).1 NN fun v t' tk' v0 v1 => ?_
    refine CompEnd.intro F N news (fun p hp => hp) off trivial ?_
    have e1 := ints_snoc v t' h1
    refine compRest_ints elem n (i + 1) _ (ns ++ [v]) (by omega) e1 (fun q hq => ?_) (by simp [h3]) fun zs ms a b c => fin zs ms a b (by omega)
    rcases List.mem_append.mp hq with hq | hq
    · exact h2 q hq
    · rw [List.mem_singleton.mp hq]; exact ⟨v0, v1⟩

open LCg in
/-- a comprehension over range(b) whose elements are octets -/
theorem compSrc_ints {w : World} {A : Around} {base : Heap} {L : Addr} {m : Str → Option Value} {env : Env} {elt : Expr} {x : Str} {scope : Scope} {cl : List (Str × Addr)} {s : Shared} {news : List (Addr × Obj)} {r : Addr} {b : Int} {t u v : Tok} {Q : Value → Shared → Prop}
    (hh : A.handled = none) (F : Fr base L s.heap m) (N : News base L s.heap news) (hr : IsRange s.heap r 0 b 1 t u v) (h0 : 0 ≤ b) (h1 : b ≤ 100)
    (elem : ∀ (k : Int) t C oC m₂ h tk (E' : Value → Shared → Prop) (Q' : Value → Shared → Prop), 0 ≤ k → k < 100 → NsObj oC m₂ → m₂ x = some (.int k t) → h.get? C = some oC → News base L h news →
      (∀ v t' tk', 0 ≤ v → v < 256 → Q' (.int v t') { s with heap := h, toks := tk' }) → wpAny (model pw w) A (eval elt (compEnvC scope cl C env)) Q' E' { s with heap := h, toks := tk })
    (h : ∀ D ys ns h' tk, Fr base L h' m → News base L h' ((D, lst ys) :: news) → IntsAre ys ns → (∀ v ∈ ns, 0 ≤ v ∧ v < 256) → (ns.length : Int) = b → Q (.ref D) { s with heap := h', toks := tk }) :
    CompSrc pw w A base L m env elt x scope cl (fun s₂ => FinE base L m s₂ Q) (.ref r) s := by
  refine CompSrc.range (n := b.toNat) hh F N hr (small_one (by omega) (by omega) (by omega) (by omega)) (by rw [rangeSize_nat]; congr 1; omega) (by rw [sizeLine_eq]; omega) fun g => ?_
  refine compRest_ints (lim := 100) (s := { s with heap := g }) (m := m) (fun k t C oC m₂ h tk E' Q' k0 k1 => elem k t C oC m₂ h tk E' Q' k0 (by omega)) b.toNat 0 [] [] (by omega) .nil (fun _ q => nomatch q) rfl fun zs ms a c d => ?_
  intro D h' tk F' N' off
  exact h D zs ms h' tk F' N' a c (by omega)

theorem mod256 (i : Int) : 0 ≤ i.fmod 256 ∧ i.fmod 256 < 256 := ⟨fmod_lo i (n := 256) (by decide), fmod_hi i (n := 256) (by decide)⟩
section
variable {w : World} {A : Around} {s : Shared} {env : Env} {c : Addr} {n1 k : Int} {tc t : Tok} {m₂ : Str → Option Value} {E' : Value → Shared → Prop} {Q' : Value → Shared → Prop} {p1 p2 p3 p4 p5 p6 p7 p8 p9 : Pos} {a1 a2 a3 : Nat}
theorem elem_second (hk : env.scope.kind = .function) (h1 : env.kindOf "second" = some .cell) (h2 : env.cells.lookup ("second" : Str) = some c) (h3 : env.kindOf "k" = some .local) (hs : s.heap.IsCell c (some (.int n1 tc))) (hn : s.heap.Ns env.locals m₂) (hm : m₂ "k" = some (.int k t)) (k0 : 0 ≤ k) (k1 : k < 100)
    (hQ : ∀ v t' tk', 0 ≤ v → v < 256 → Q' (.int v t') { s with toks := tk' }) :
    wpAny (model pw w) A (eval (.BinOp (.BinOp (.Name "second" p1) .Add (.BinOp (.Constant (.int 7) a1 p2) .Mult (.Name "k" p3) p4) p5) .Mod (.Constant (.int 256) a2 p6) p7) env) Q' E' s := by
  refine wpAny_BinOp (wpAny_BinOp (wpAny_Name (wpAny_loadName_cell hk h1 h2 hs (wpAny_BinOp (wpAny_Constant_int (wpAny_Name (wpAny_loadName_local hk h3 hn hm (PyProof.Rows.mul_int (add_int (wpAny_Constant_int (mod_int' (by decide) (hQ _ _ _ (mod256 _).1 (mod256 _).2)))) ?_)) (by decide))))) (by decide)))
  exact IntMulOk.of_bits (a := 7) (b := k) (by decide +kernel) (by have : Builtin.Int.intBits k ≤ 10 := (intBits_le_iff (m := 10)).mpr (by omega); omega)
theorem elem_number (hk : env.scope.kind = .function) (h1 : env.kindOf "number" = some .cell) (h2 : env.cells.lookup ("number" : Str) = some c) (h3 : env.kindOf "k" = some .local) (hs : s.heap.IsCell c (some (.int n1 tc))) (hn : s.heap.Ns env.locals m₂) (hm : m₂ "k" = some (.int k t)) (k0 : 0 ≤ k) (k1 : k < 100)
    (hQ : ∀ v t' tk', 0 ≤ v → v < 256 → Q' (.int v t') { s with toks := tk' }) :
    wpAny (model pw w) A (eval (.BinOp (.BinOp (.BinOp (.Name "number" p1) .FloorDiv (.Constant (.int 7) a1 p2) p3) .Add (.BinOp (.Constant (.int 3) a2 p4) .Mult (.Name "k" p5) p6) p7) .Mod (.Constant (.int 256) a3 p8) p9) env) Q' E' s := by
  refine wpAny_BinOp (wpAny_BinOp (wpAny_BinOp (wpAny_Name (wpAny_loadName_cell hk h1 h2 hs (wpAny_Constant_int (floordiv_int (by decide) (wpAny_BinOp (wpAny_Constant_int (wpAny_Name (wpAny_loadName_local hk h3 hn hm (PyProof.Rows.mul_int (add_int (wpAny_Constant_int (mod_int' (by decide) (hQ _ _ _ (mod256 _).1 (mod256 _).2)))) ?_)) (by decide))))))) (by decide))))
  exact IntMulOk.of_bits (a := 3) (b := k) (by decide +kernel) (by have : Builtin.Int.intBits k ≤ 10 := (intBits_le_iff (m := 10)).mpr (by omega); omega)
end

end
end Mine
namespace Mine
noncomputable section
open PySem PySem.W PySem.Calls PyProof.Rows
set_option maxRecDepth 100000
set_option maxHeartbeats 4000000
set_option linter.unusedVariables false
local macro_rules | `(tactic| walk_at "no such stop") => `(tactic| skip)
local macro_rules | `(tactic| walk_at "no such stop") => `(tactic| skip)
local macro_rules | `(tactic| walk_at "eval Name") => `(tactic| (k_dflt (refine' nameM ?F ?v ?_ ?a ?b ?c; (case F => k_asm); (case v => first | with_reducible assumption | rfl | assumption); (case a => rfl); (case b => rfl); (case c => decide))))
local macro_rules | `(tactic| walk_at "binaryOp Mod int int") => `(tactic| (refine mod_int' ?mo ?_; (case mo => omega)))
local macro_rules | `(tactic| walk_at "call type:bytes") => `(tactic| (
  (with_reducible rename Fr _ _ _ _ => kF); (with_reducible rename News _ _ _ _ => kN); (with_reducible rename IntsAre _ _ => kI); (with_reducible rename ∀ _ ∈ _, _ ∧ _ => kR); k_dflt (
  refine' KBa.make_K kF kN ?hh (News.isList kN ?mm) kI kR ?ln ?_; (case hh => assumption); (case mm => exact .head _); (case ln => omega); intro h9 t9 tk9 F9 N9 _; clear kF kN)))
theorem l_key {w : World} {A : Around} {s : Shared} {mg mb m : Str → Option Value} {mean : ExcName → Option Value} {base : Heap} {L cN cS : Addr} {big : List (Addr × Obj)}
    (KX : (KK w.params).In base) (KT : Top topProg l0 mean mg mb base) (F : Fr base L s.heap m) (N : News base L s.heap big) (G : Seg base L s.heap big) {size block : Nat} {n0 n1 : Int} {ta tb tc td : Tok} {Q : Flow → Shared → Prop} (hd : A.depth + 8 < recursionLimit) (hh : A.handled = none) (hm1 : m "first" = some (.int n0 ta)) (hm2 : m "block" = some (.int block tb)) (cS1 : s.heap.IsCell cS (some (.int n1 tc))) (hb : block ≤ 32) (cSb : base.get? cS = none)
    (hQ : ∀ key m' h' tk big' t, key.size ≤ 40 → Fr base L h' m' → News base L h' big' → Seg base L h' big' → But [L] s.heap h' → (∀ y : Str, y ≠ "key" → y ≠ "shown" → m' y = m y) → m' "key" = some (.bytes key t) → m' "shown" = some (.bytes key t) → Q .next { s with heap := h', toks := tk }) :
    wpAny (model pw w) (A.deeper (envX "law" (fScope (fS 26)) L 349 (.ref 348) [("number", cN), ("second", cS)])) (execs (List.take 2 (List.drop 3 (fBody (fS 26)))) (envX "law" (fScope (fS 26)) L 349 (.ref 348) [("number", cN), ("second", cS)])) Q (fun _ _ => False) s := by
  have hfill : KK w.params = KK w.params ∧ PySem.Challenge.rw_aj5027_01 = PySem.Challenge.rw_aj5027_01 := by
    k_fill
    exact ⟨rfl, rfl⟩
  clear hfill
  show wpAny _ _ (execs [_, _] _) _ _ _
  have m0 := F.ns
  have hh2 : (A.deeper (envX "law" (fScope (fS 26)) L 349 (.ref 348) [("number", cN), ("second", cS)])).handled = none := hh
  obtain ⟨oS, eS, dS⟩ := cS1
  have b0 := fmod_lo (n0.fdiv 4) (n := (block : Int) + 9) (by omega)
  have b1 := fmod_hi (n0.fdiv 4) (n := (block : Int) + 9) (by omega)
  have cSL : cS ≠ L := fun q => by
    obtain ⟨o', es, ep, e', hd', _⟩ := m0
    rw [q, e'] at eS; cases eS; rw [dS] at hd'; cases hd'
  k_steps
  rename Fr _ _ _ _ => F1
  rename News _ _ _ _ => N1
  rename IsRange _ _ _ _ _ _ _ _ => R1
  rename ∀ _ _, _ = some _ → _ => k1
  dsimp only at k1
  have N2 : News base L _ ((cS, oS) :: big) := fun p hp => by
    rcases List.mem_cons.mp hp with rfl | hp
    · exact ⟨k1 _ _ eS, cSL, cSb⟩
    · exact N1 _ hp
  refine compSrc_ints hh2 F1 N2 R1 b0 (by omega) (fun k t C oC m₂ h tk E' Q' k0 k1 hC hm eC NN hq => ?_) fun D ys ns h2 tk2 F2 N3 I2 R2 ln2 => ?_
  · exact elem_second (s := { s with heap := h, toks := tk }) (c := cS) (n1 := n1) (tc := tc) rfl rfl rfl rfl ⟨oS, (NN _ (.head _)).1, dS⟩ (hC.ns eC) hm k0 k1 hq
  clear F1 N1 N2
  have ln3 : ns.length ≤ 40 := by omega
  k_steps
  rename Fr _ _ _ _ => F9
  rename News _ _ _ _ => N9
  have M9 := Seg.now G F9 (fun p hp => N9 p (.tail _ (.tail _ hp)))
  obtain ⟨big9, F9, N9, G9⟩ := seg (S := []) F9 But.refl (fun _ h => nomatch h) (fun h => nomatch h)
  refine hQ (byteArr ns) _ _ _ big9 ?zt (by rw [byteArr_size]; omega) F9 N9 G9 M9 (fun y h0 h1 => by simp only [if_neg h0, if_neg h1]) ?za ?zb
  case za => rfl
  case zb => rfl

end
end Mine
namespace Mine
noncomputable section
open PySem PySem.W PySem.Calls PyProof.Rows
set_option maxRecDepth 100000
set_option maxHeartbeats 4000000
set_option linter.unusedVariables false

open LCg in
structure BSrc (w : World) (A : Around) (base : Heap) (L : Addr) (m : Str → Option Value) (env : Env) (elt : Expr) (x : Str) (scope : Scope) (cl : List (Str × Addr)) (Q : Value → Shared → Prop) (xv : Value) (s₁ : Shared) : Prop where
  ok : ∃ b t news, xv = .bytes b t ∧ A.handled = none ∧ Fr base L s₁.heap m ∧ News base L s₁.heap news ∧ b.size ≤ 1000 ∧
    ∀ s₂ : Shared, (∃ h, s₂ = { s₁ with heap := h }) → CompRest pw w A base L m env elt x scope cl s₂ (fun _ => True) (fun i v => ∃ c u, b[i]? = some c ∧ v = .int (c.toNat : Int) u) (FinE base L m s₂ Q) b.size 0 [] news
open LCg in
theorem ListComp_B {w : World} {A : Around} {E : Value → Shared → Prop} {s : Shared} {base : Heap} {L : Addr} {m : Str → Option Value} {env : Env} {elt iter : Expr} {x : Str} {px : Pos} {scope : Scope} {cl : List (Str × Addr)} {pos : Pos} {Q : Value → Shared → Prop} (F₀ : Fr base L s.heap m)
    (hclos : closureFor scope env = pure cl) (hcell : ∀ y ∈ scope.names, y.2 ≠ .cell) (hkind : scope.kind = .function)
    (hnames : ∀ y ∈ scope.names, y.2 = .local → scope.names.lookup y.1 = some .local) (hx : scope.names.lookup x = some .local)
    (h : wpAny (model pw w) A (eval iter env) (BSrc w A base L m env elt x scope cl Q) E s)
    (hs : ∀ x, foldedSetIterable iter env x = pure x := by intro _; rfl) :
    wpAny (model pw w) A (eval (.ListComp elt [⟨.Name x px, iter, [], 0⟩] scope pos) env) Q E s := by
  rw [eval_ListComp]
  refine wpAny_comprehension_free (use := none) rfl hs hclos hkind hnames (wpAny_mono h (fun xv s₁ h₁ => ?_) fun _ _ e => e)
  obtain ⟨b, t, news, rfl, hh, F, N, hsz, R⟩ := h₁.ok
  refine KBw.pyIter_bytes ?_
  refine block_U (KBw.walks hh _ b t) (by rw [sizeLine_eq]; omega) (fun i h st => by obtain ⟨o, e, _⟩ := st; exact ⟨o, e⟩) (fun i h h' o nw st e e' _ _ _ => by obtain ⟨o', q, r⟩ := st; rw [e] at q; cases q; exact ⟨o, e', r⟩) hcell hkind hx ⟨_, Heap.get?_push_size _ rfl, rfl, rfl⟩ (fun b hb => ?_)
    (F.keeps fun _ _ e => Heap.get?_push_of_some _ e) (N.grown fun _ _ e => Heap.get?_push_of_some _ e) (Nat.ne_of_lt F.ns.lt) (next_is_new F) (fun p hp => Nat.ne_of_lt (Heap.lt_size (N p hp).1)) trivial (R _ ⟨_, rfl⟩) ?_
  · rw [List.mem_singleton.mp hb]
    show s₁.heap.objs.size < (s₁.heap.push _).objs.size
    rw [Heap.size_push]; exact Nat.lt_succ_self _
  · intro D C h tk m' ys news' F' N' o1 hn hC₀ hD₀ hCL hDL hCD offC fin
    refine ⟨m', hn, fun h'' hs'' => fin D h'' tk (F'.change hs'' hCL hC₀) (fun p hp => ?_) o1⟩
    refine ⟨hs''.extBut _ _ ?_ (N' p hp).1, (N' p hp).2⟩
    rcases List.mem_cons.mp hp with rfl | hp
    · exact Ne.symm hCD
    · exact offC p hp
theorem strs_snoc (v : Str) (t : Tok) : ∀ {ys : List Value} {ns : List Str}, StrsAre ys ns → StrsAre (ys ++ [.str v t]) (ns ++ [v])
  | _, _, .nil => .cons v t .nil
  | _, _, .cons a ta r => .cons a ta (strs_snoc v t r)
def OneCp (y : Str) : Prop := ∃ c : Nat, y = ⟨#[c]⟩ ∧ c ≤ 286
open LCg in
theorem compRest_strs {w : World} {A : Around} {base : Heap} {L : Addr} {m : Str → Option Value} {env : Env} {elt : Expr} {x : Str} {scope : Scope} {cl : List (Str × Addr)} {s : Shared} {news : List (Addr × Obj)} {b : Array UInt8}
    (elem : ∀ (c : UInt8) t C oC m₂ h tk (E' : Value → Shared → Prop) (Q' : Value → Shared → Prop), NsObj oC m₂ → m₂ x = some (.int (c.toNat : Int) t) → h.get? C = some oC → Fr base L h m → News base L h news →
      (∀ v t' tk', OneCp v → Q' (.str v t') { s with heap := h, toks := tk' }) → wpAny (model pw w) A (eval elt (compEnvC scope cl C env)) Q' E' { s with heap := h, toks := tk })
    {Fin : List Value → List (Addr × Obj) → Prop} : ∀ (n i : Nat) (ys : List Value) (ns : List Str), StrsAre ys ns → (∀ v ∈ ns, OneCp v) → ns.length = i →
      (∀ zs ms, StrsAre zs ms → (∀ v ∈ ms, OneCp v) → ms.length = i + n → Fin zs news) →
      CompRest pw w A base L m env elt x scope cl s (fun _ => True) (fun i v => ∃ c u, b[i]? = some c ∧ v = .int (c.toNat : Int) u) Fin n i ys news
  | 0, i, ys, ns, h1, h2, h3, fin => CompRest.zero (fin ys ns h1 h2 h3)
  | n + 1, i, ys, ns, h1, h2, h3, fin => by
    refine CompRest.succ fun v I oI C oC D m₂ h tk E' hv hC hm F N off ne => ?_
    obtain ⟨c, t, _, rfl⟩ := hv
    have NN : News base L h news := fun p hp => N p (.tail _ (.tail _ (.tail _ hp)))
    refine elem c t C oC m₂ h tk E' _ hC hm (N _ (.tail _ (.head _))).1 F NN fun v t' tk' v0 => ?_
    refine CompEnd.intro F N news (fun p hp => hp) off trivial ?_
    refine compRest_strs elem n (i + 1) _ (ns ++ [v]) (strs_snoc v t' h1) (fun q hq => ?_) (by simp [h3]) fun zs ms a b c => fin zs ms a b (by omega)
    rcases List.mem_append.mp hq with hq | hq
    · exact h2 q hq
    · rw [List.mem_singleton.mp hq]; exact v0
theorem join_one : ∀ {ys : List Str}, (∀ y ∈ ys, OneCp y) → (∀ c ∈ (Str.join Str.empty ys).cps, c ≤ 286) ∧ (Str.join Str.empty ys).cps.size ≤ ys.length
  | [], _ => ⟨fun c hc => (by simp [Str.join, Str.empty] at hc), by simp [Str.join, Str.empty]⟩
  | [y], h => by
    obtain ⟨c, rfl, hc⟩ := h y (.head _)
    exact ⟨fun d hd => by simp [Str.join] at hd; omega, by simp [Str.join]⟩
  | y :: y2 :: r, h => by
    obtain ⟨c, rfl, hc⟩ := h y (.head _)
    have ih := join_one (ys := y2 :: r) (fun q hq => h q (.tail _ hq))
    have e : (Str.join Str.empty (⟨#[c]⟩ :: y2 :: r)).cps = #[c] ++ (Str.join Str.empty (y2 :: r)).cps := by
      show ((⟨#[c]⟩ : Str) ++ Str.empty ++ Str.join Str.empty (y2 :: r)).cps = _
      rw [Str.cps_append, Str.cps_append]
      simp [Str.empty]
    rw [e]
    refine ⟨fun d hd => ?_, ?_⟩
    · rcases Array.mem_append.mp hd with hd | hd
      · simp at hd; omega
      · exact ih.1 d hd
    · rw [Array.size_append]
      have := ih.2
      simp only [List.length_cons, List.size_toArray, List.length_nil] at this ⊢
      omega
theorem join_txt {ys : List Str} (h : ∀ y ∈ ys, OneCp y) : (∀ c ∈ (Txt.join (PySem.Str.ofString "") ys).cps, c ≤ 286) ∧ (Txt.join (PySem.Str.ofString "") ys).cps.size ≤ ys.length := by
  have e : Txt.join (PySem.Str.ofString "") ys = Str.join Str.empty ys := by
    rw [show PySem.Str.ofString "" = Str.empty by decide]
    exact StrLaws.glued_eq_join _ _
  rw [e]
  exact join_one h
theorem one_len {ys : List Str} (h : ∀ y ∈ ys, OneCp y) : (ys.map (·.length)).sum = ys.length := by
  induction ys with
  | nil => rfl
  | cons y r ih =>
    obtain ⟨c, rfl, _⟩ := h y (.head _)
    rw [List.map_cons, List.sum_cons, ih (fun q hq => h q (.tail _ hq)), List.length_cons]
    show 1 + r.length = r.length + 1
    omega
theorem utf8_size {x : Str} (h : ∀ c ∈ x.cps, c ≤ 286) : (utf8 x).size ≤ 2 * x.cps.size := by
  have key : ∀ (l : List Nat) (acc : Array UInt8), (∀ c ∈ l, c ≤ 286) → (l.foldl (fun acc y => acc ++ (Str.utf8Of y).toArray) acc).size ≤ acc.size + 2 * l.length := by
    intro l
    induction l with
    | nil => intro acc _; simp
    | cons c r ih =>
      intro acc hc
      rw [List.foldl_cons]
      refine Nat.le_trans (ih _ (fun q hq => hc q (.tail _ hq))) ?_
      have h1 := hc c (.head _)
      have : (Str.utf8Of c).length ≤ 2 := by
        unfold Str.utf8Of
        split
        · simp
        · rw [if_pos (by omega)]; simp
      simp only [Array.size_append, List.size_toArray, List.length_cons]
      omega
  unfold utf8
  rw [← Array.foldl_toList]
  have := key x.cps.toList #[] (fun c hc => h c (by simpa using hc))
  simpa using this
theorem low_plain {x : Str} (h : ∀ c ∈ x.cps, c ≤ 286) : ∀ c ∈ x.cps, Str.isSurrogate c = false := fun c hc => by
  have := h c hc
  unfold Str.isSurrogate
  simp
  omega
theorem one_of {k : Int} (h : k ≤ 286) : OneCp ⟨#[k.toNat]⟩ := ⟨k.toNat, rfl, by omega⟩
theorem join_both {ys : List Str} (h : ∀ y ∈ ys, OneCp y) (hn : ys.length ≤ 40) : ∃ z, Txt.join (PySem.Str.ofString "") ys = z ∧ (∀ c ∈ z.cps, Str.isSurrogate c = false) ∧ (utf8 z).size ≤ 80 :=
  have z0 := join_txt h
  ⟨_, rfl, low_plain z0.1, Nat.le_trans (utf8_size z0.1) (by have := z0.2; omega)⟩
theorem join_at {w : World} {A : Around} {E : Value → Shared → Prop} {s : Shared} {D : Addr} {zs : List Value} {ms : List Str} {z : Str} {t : Tok} {Q : Value → Shared → Prop} (hl : s.heap.IsList D zs.toArray) (hi : StrsAre zs ms) (h1 : ∀ y ∈ ms, OneCp y) (hn : ms.length ≤ 40) (ez : Txt.join (PySem.Str.ofString "") ms = z)
    (h : ∀ t' k, Q (.str z t') { s with toks := k }) : wpAny (model pw w) A (call (.builtin "str.join") [.str (PySem.Str.ofString "") t, .ref D]) Q E s := by
  subst ez
  exact join_listW hl (by simpa using hi) (by decide) (by rw [one_len h1]; omega) h

end
end Mine
namespace Mine
noncomputable section
open PySem PySem.W PySem.Calls PyProof.Rows
set_option maxRecDepth 100000
set_option maxHeartbeats 4000000
set_option linter.unusedVariables false
local macro_rules | `(tactic| walk_at "no such stop") => `(tactic| skip)
local macro_rules | `(tactic| walk_at "no such stop") => `(tactic| skip)
local macro_rules | `(tactic| walk_at "no such stop") => `(tactic| skip)
local macro_rules | `(tactic| walk_at "no such stop") => `(tactic| skip)
local macro_rules | `(tactic| walk_at "no such stop") => `(tactic| skip)
local macro_rules | `(tactic| walk_at "no such stop") => `(tactic| skip)
local macro_rules | `(tactic| walk_at "eval Name") => `(tactic| (k_dflt (refine' nameM ?F ?v ?_ ?a ?b ?c; (case F => k_asm); (case v => first | with_reducible assumption | rfl | assumption); (case a => rfl); (case b => rfl); (case c => decide))))
local macro_rules | `(tactic| walk_at "eval Name") => `(tactic| (
  (with_reducible show wpAny _ _ (eval (Expr.Name (PySem.Str.ofString "second") _) _) _ _ _);
  (with_reducible rename Heap.IsCell _ _ _ => kC);
  k_dflt (
  refine' nameCell ?a ?b ?c kC ?_ ?d; (case a => rfl); (case b => rfl); (case c => rfl); (case d => decide))))
local macro_rules | `(tactic| walk_at "eval ListComp") => `(tactic| (
  (with_reducible rename Fr _ _ _ _ => kF);
  k_dflt (
  refine' ListComp_B (cl := []) kF ?a ?b ?c ?d ?e ?_; (case a => rfl); (case b => decide); (case c => rfl); (case d => decide); (case e => rfl))))
local macro_rules | `(tactic| walk_at "eval Name") => `(tactic| (
  (with_reducible show wpAny _ _ (eval (Expr.Name (PySem.Str.ofString "octet") _) _) _ _ _);
  (with_reducible rename LCg.NsObj _ _ => kC); (with_reducible rename Heap.get? _ _ = some _ => kE); (with_reducible rename _ = some (Value.int _ _) => kM);
  k_dflt (
  refine' wpAny_Name (wpAny_loadName_local ?a ?b (LCg.NsObj.ns kC kE) kM ?_) ?d; (case a => rfl); (case b => rfl); (case d => decide))))
local macro_rules | `(tactic| walk_at "getMethod str") => `(tactic| ((with_reducible show wpAny _ _ (getMethod _ (PySem.Str.ofString "encode") _) _ _ _); k_dflt (refine enc_method ?_)))
local macro_rules | `(tactic| walk_at "call builtin:str.encode") => `(tactic| (k_dflt (refine' enc_call ?b ?z ?_; (case b => assumption); (case z => omega)); intro _ _))
local macro_rules | `(tactic| walk_at "call builtin:str.join") => `(tactic| (
  (with_reducible rename News _ _ _ _ => kN); (with_reducible rename StrsAre _ _ => kS);
  k_dflt (
  refine' join_at (News.isList kN (.head _)) kS ?b ?n ?z ?_; (case b => assumption); (case n => assumption); (case z => assumption)); intro _ _))
theorem l_text {w : World} {A : Around} {s : Shared} {mg mb m : Str → Option Value} {mean : ExcName → Option Value} {base : Heap} {L cN cS : Addr} {big : List (Addr × Obj)}
    (KX : (KK w.params).In base) (KT : Top topProg l0 mean mg mb base) (F : Fr base L s.heap m) (N : News base L s.heap big) (G : Seg base L s.heap big) {n1 : Int} {key : Array UInt8} {tc tk0 : Tok} {Q : Flow → Shared → Prop} (hd : A.depth + 8 < recursionLimit) (hh : A.handled = none) (hm1 : m "key" = some (.bytes key tk0)) (hk : key.size ≤ 40) (cS1 : s.heap.IsCell cS (some (.int n1 tc)))
    (hQ1 : ∀ tk, Q .next { s with toks := tk })
    (hQ2 : ∀ z m' h' tk big' t t', (∀ c ∈ z.cps, Str.isSurrogate c = false) → (utf8 z).size ≤ 80 → Fr base L h' m' → News base L h' big' → Seg base L h' big' → But [L] s.heap h' → (∀ y : Str, y ≠ "key" → y ≠ "shown" → m' y = m y) → m' "key" = some (.bytes (utf8 z) t) → m' "shown" = some (.str z t') → Q .next { s with heap := h', toks := tk }) :
    wpAny (model pw w) (A.deeper (envX "law" (fScope (fS 26)) L 349 (.ref 348) [("number", cN), ("second", cS)])) (execs (List.take 1 (List.drop 5 (fBody (fS 26)))) (envX "law" (fScope (fS 26)) L 349 (.ref 348) [("number", cN), ("second", cS)])) Q (fun _ _ => False) s := by
  have hfill : KK w.params = KK w.params ∧ PySem.Challenge.rw_aj5027_01 = PySem.Challenge.rw_aj5027_01 := by
    k_fill
    exact ⟨rfl, rfl⟩
  clear hfill
  show wpAny _ _ (execs [_] _) _ _ _
  have m0 := F.ns
  have hh2 : (A.deeper (envX "law" (fScope (fS 26)) L 349 (.ref 348) [("number", cN), ("second", cS)])).handled = none := hh
  k_steps
  · rename Fr _ _ _ _ => F1
    rename News _ _ _ _ => N1
    refine ⟨key, _, big, rfl, hh2, F1, N1, by omega, fun s₂ e => ?_⟩
    obtain ⟨g, rfl⟩ := e
    refine compRest_strs (m := m) (fun c t C oC m₂ h tk E' Q' hC hm eC FF NN hq => ?_) key.size 0 [] [] .nil (fun _ q => nomatch q) rfl fun zs ms a b c => ?_
    · clear F1 N1
      have c256 := c.toNat_lt
      k_steps
      exact hq _ _ _ (one_of (by omega))
    intro D h' tk F' N' off
    have c40 : ms.length ≤ 40 := by omega
    obtain ⟨z, ez, z1, z2⟩ := join_both b c40
    clear F1 N1
    k_steps
    rename Fr _ _ _ _ => F9
    rename News _ _ _ _ => N9
    have M9 := Seg.now G F9 (fun p hp => N9 p (.tail _ hp))
    obtain ⟨big9, F9, N9, G9⟩ := seg (S := []) F9 But.refl (fun _ h => nomatch h) (fun h => nomatch h)
    refine hQ2 _ _ _ _ big9 ?zt ?zu z1 z2 F9 N9 G9 M9 (fun y h0 h1 => by simp only [if_neg h0, if_neg h1]) ?za ?zb
    case za => rfl
    case zb => rfl
  · exact hQ1 _

end
end Mine
namespace Mine
noncomputable section
open PySem PySem.W PySem.Calls PyProof.Rows
set_option maxRecDepth 100000
set_option maxHeartbeats 4000000
set_option linter.unusedVariables false
theorem getFnA {w : World} {A : Around} {E : Value → Shared → Prop} {s : Shared} {f fx x : Addr} {expr : Bool} {Q : Value → Shared → Prop} (H : AttrO s.heap f fx x) (hq : Q (.ref x) { s with toks := s.toks + 1 }) : wpAny (model pw w) A (getAttr (.ref f) "digest_info" expr) Q E s :=
  let ⟨_, _, _, a, b, c⟩ := H; getFn a b c rfl hq
local macro_rules | `(tactic| walk_at "eval Name") => `(tactic| (k_dflt (refine' nameM ?F ?v ?_ ?a ?b ?c; (case F => k_asm); (case v => first | with_reducible assumption | rfl | assumption); (case a => rfl); (case b => rfl); (case c => decide))))
local macro_rules | `(tactic| walk_at "assign Tuple cons ref") => `(tactic| (
  (with_reducible rename Fr _ _ _ _ => kF); (with_reducible rename News _ _ _ _ => kN); (with_reducible rename Around.handled _ = none => kH);
  k_dflt (
  refine' assign_Tuple_tuple kH ?tt ?tn ?ts ?_; (case tt => first | assumption | exact News.isTup kN (by k_mem)); (case tn => rfl); (case ts => rfl));
  intro h9 st9; have st9 := ext_stays st9; have F9 := Fr.keeps kF st9; have N9 := News.keepsAll kN st9; clear kF kN; (try dsimp only)))
theorem unpack2 {w : World} {A : Around} {E : Value → Shared → Prop} {s : Shared} {t : Addr} {a b : Value} {n : Nat} {Q : List Value → Shared → Prop} (hh : A.handled = none) (ht : IsTup s.heap t #[a, b]) (hn : n = 2) (hQ : ∀ h', s.heap.StaysIn h' → Q [a, b] { s with heap := h' }) : wpAny (model pw w) A (unpackItems (.ref t) n none) Q E s := by
  subst hn
  exact unpackItems_tuple (items := #[a, b]) hh ht fun h' e => hQ h' (ext_stays e)
local macro_rules | `(tactic| walk_at "unpackItems ref") => `(tactic| (
  (with_reducible rename Fr _ _ _ _ => kF); (with_reducible rename News _ _ _ _ => kN); (with_reducible rename Around.handled _ = none => kH);
  k_dflt (
  refine' unpack2 kH ?tt ?nn ?_; (case tt => first | assumption | exact News.isTup kN (by k_mem)); (case nn => rfl));
  intro h9 st9; have F9 := Fr.keeps kF st9; have N9 := News.keepsAll kN st9; clear kF kN; (try dsimp only)))
local macro_rules | `(tactic| walk_at "getAttr ref") => `(tactic| (
  (with_reducible rename Fr _ _ _ _ => kF); (with_reducible rename News _ _ _ _ => kN); (with_reducible rename Seg _ _ _ _ => kG); (with_reducible rename Loose _ _ => kL);
  have kM := Seg.now kG kF (fun p hp => kN p (by first | exact hp | exact .tail _ hp | exact .tail _ (.tail _ hp)));
  k_dflt (
  refine' getFnA (AttrO.but ?h kM kL ?n) ?_; (case h => assumption); (case n => assumption))))
theorem l_comp_bytes {w : World} {A : Around} {s : Shared} {mg mb m : Str → Option Value} {mean : ExcName → Option Value} {base : Heap} {L cN cS : Addr} {big : List (Addr × Obj)}
    (KX : (KK w.params).In base) (KT : Top topProg l0 mean mg mb base) (F : Fr base L s.heap m) (N : News base L s.heap big) (G : Seg base L s.heap big) {x dx c P : Addr} {size block : Nat} {k : Array UInt8} {tk0 : Tok} {Q : Flow → Shared → Prop} (hd : A.depth + 8 < recursionLimit) (hh : A.handled = none) (hm1 : m "info" = some (.ref x)) (hm2 : m "shown" = some (.bytes k tk0)) (hk : k.size ≤ 80) (hs1 : 1 ≤ size) (hs2 : size ≤ 20) (hsb : size ≤ block) (hb16 : 16 ≤ block) (hb : block ≤ 32)
    (hI : InfI s.heap x dx c size block) (hdL : dx ≠ L) (K : ConstO s.heap c P size block) (hP183 : P ≠ 183) (t183 : s.heap.get? 183 = some (tabObj #[])) (h183b : base.get? 183 = none) (hPb : base.get? P = none) (hL9 : 349 < L)
    (hQ : ∀ fp cdp icp ocp lIp lOp fm c1 Pm icm ocm lIm lOm m' h' tk big', Fr base L h' m' → News base L h' big' → Seg base L h' big' → But [L, 183, P] s.heap h' → ConstO h' c P size block → (∃ ps, h'.get? 183 = some (tabObj ps)) →
      FnO h' fp pHm qHm [("_outer_copy", ocp), ("_inner_copy", icp)] .none cdp → CopyC h' icp c lIp (xorA (padK k size block) 54) → CopyC h' ocp c lOp (xorA (padK k size block) 92) →
      FnO h' fm mHm qHm [("_outer_copy", ocm), ("_inner_copy", icm)] .none (.ref c1) → CodeHd h' c1 Pm → TabI h' Pm specF → 349 < Pm → base.get? Pm = none → P ≠ Pm → CopyC h' icm c lIm (xorA (padK k size block) 54) → CopyC h' ocm c lOm (xorA (padK k size block) 92) →
      (∀ y : Str, y ≠ "plain" → y ≠ "parted" → m' y = m y) → m' "plain" = some (.ref fp) → m' "parted" = some (.ref fm) → Q .next { s with heap := h', toks := tk }) :
    wpAny (model pw w) (A.deeper (envX "law" (fScope (fS 26)) L 349 (.ref 348) [("number", cN), ("second", cS)])) (execs (List.take 2 (List.drop 6 (fBody (fS 26)))) (envX "law" (fScope (fS 26)) L 349 (.ref 348) [("number", cN), ("second", cS)])) Q (fun _ _ => False) s := by
  have hfill : KK w.params = KK w.params ∧ PySem.Challenge.rw_aj5027_01 = PySem.Challenge.rw_aj5027_01 := by
    k_fill
    exact ⟨rfl, rfl⟩
  clear hfill
  show wpAny _ _ (execs [_, _] _) _ _ _
  have m0 := F.ns
  have hh2 : (A.deeper (envX "law" (fScope (fS 26)) L 349 (.ref 348) [("number", cN), ("second", cS)])).handled = none := hh
  have h183L : (183 : Addr) ≠ L := Nat.ne_of_lt (Nat.lt_trans (by decide) hL9)
  have hS : ∀ a ∈ [183, P], base.get? a = none := fun a ha => by
    rcases List.mem_cons.mp ha with rfl | ha
    · exact h183b
    · cases List.mem_singleton.mp ha; exact hPb
  have hPL : P ≠ L := fun q => con_nf m0 K (List.mem_singleton.mpr q)
  have hSL : L ∉ [183, P] := fun q => by
    rcases List.mem_cons.mp q with q | q
    · exact h183L q.symm
    · exact hPL (List.mem_singleton.mp q).symm
  have infBut : ∀ {h h' : Heap}, InfI h x dx c size block → But [L] h h' → Loose h [L] → InfI h' x dx c size block := fun a M l => ⟨InstO.but a.1 M l, a.2.but M (fun q => hdL (List.mem_singleton.mp q))⟩
  k_steps
  rename Fr _ _ _ _ => F1
  rename News _ _ _ _ => N1
  have M1 := Seg.now G F1 N1
  have L0 := loose_L m0
  refine c_plain_bytes (KX.keeps F1.keep) (KT.keeps F1.keep) ?rm hh2 hk hs1 hs2 hsb hb16 hb (infBut hI M1 L0) (K.but M1 L0 (con_nf m0 K)) hP183 (M1 _ _ t183 (fun q => h183L (List.mem_singleton.mp q))) trivial rfl
    fun fp fxp icp ocp lIp lOp cp1 Pp h2 tk2 M2 z2 K2 t2 A2 U2 _ _ _ CI2 CO2 _ _ nfx2 => ?_
  case rm => show A.depth + 1 + 5 < recursionLimit; omega
  have z1 := t183
  have tab1 : ∃ qs, s.heap.get? P = some (tabObj qs) := by
    obtain ⟨_, _, _, _, _, _, _, _, _, _, _, ⟨_, _, qs, e, _⟩, _⟩ := K
    exact ⟨qs, e⟩
  obtain ⟨qs, eP⟩ := tab1
  have notT : ∀ {h : Heap} {a : Addr} {o} {q1 q2 : Array Value}, h.get? 183 = some (tabObj q1) → h.get? P = some (tabObj q2) → h.get? a = some o → (∀ ps, o ≠ tabObj ps) → a ∉ [183, P] := fun {h a o q1 q2} e1 e2 e hc q => by
    rcases List.mem_cons.mp q with q | q
    · rw [q, e1] at e; cases e; exact hc _ rfl
    · rw [List.mem_singleton.mp q, e2] at e; cases e; exact hc _ rfl
  have tP : ∀ {h : Heap}, ConstO h c P size block → ∃ qs, h.get? P = some (tabObj qs) := fun K => by
    obtain ⟨_, _, _, _, _, _, _, _, _, _, _, ⟨_, _, qs, e, _⟩, _⟩ := K
    exact ⟨qs, e⟩
  have looseT : ∀ {h : Heap} {q1 q2 : Array Value}, h.get? 183 = some (tabObj q1) → h.get? P = some (tabObj q2) → Loose h [183, P] := fun {h q1 q2} e1 e2 a ha o e => by
    rcases List.mem_cons.mp ha with rfl | ha
    · rw [e1] at e; cases e; rfl
    · cases List.mem_singleton.mp ha; rw [e2] at e; cases e; rfl
  have t1 := M1 _ _ t183 (fun q => h183L (List.mem_singleton.mp q))
  have eP1 := M1 _ _ eP (fun q => hPL (List.mem_singleton.mp q))
  have I1 := infBut hI M1 L0
  have infT : ∀ {h h' : Heap} {q1 q2 : Array Value}, h.get? 183 = some (tabObj q1) → h.get? P = some (tabObj q2) → InfI h x dx c size block → But [183, P] h h' → InfI h' x dx c size block := fun e1 e2 I M => ⟨InstO.but I.1 M (looseT e1 e2), I.2.but M (by obtain ⟨es, n, _, _, e, _⟩ := I.2; exact notT e1 e2 e (by intro ps q; cases q))⟩
  have I2 := infT t1 eP1 I1 M2
  have exL : ∀ {h : Heap} {mm : Str → Option Value}, h.Ns L mm → h.get? L ≠ none := fun n => by obtain ⟨o', es, ep, e', _⟩ := n; rw [e']; exact fun q => nomatch q
  have fxL : fxp ∉ [L] := fun q => exL F1.ns ((List.mem_singleton.mp q) ▸ nfx2)
  obtain ⟨big2, F2, N2, G2⟩ := seg F1 M2 hS hSL
  have m2 := F2.ns
  have hz2 : 349 < h2.objs.size := size_K (KX.keeps F2.keep)
  clear F1 N1
  k_steps
  rename Fr _ _ _ _ => F3
  rename News _ _ _ _ => N3
  obtain ⟨qs2, eP2⟩ := tP K2
  refine c_multi_bytes (KX.keeps F3.keep) (KT.keeps F3.keep) ?rm hh2 hk hs1 hs2 hsb hb16 hb I2 K2 hP183 t2 trivial rfl
    fun fm fxm icm ocm lIm lOm c1 Pm h4 tk4 M4 z4 K4 t4 A4 U4 CD4 TP4 hPm CI4 CO4 nI4 nO4 nfx4 => ?_
  case rm => show A.depth + 1 + 5 < recursionLimit; omega
  have hMb : base.get? Pm = none := by
    cases q : base.get? Pm with
    | none => rfl
    | some o => exact absurd (Heap.lt_size (F3.keep _ _ q)) (Nat.not_lt.mpr hPm)
  have L2 := looseT t2 eP2
  have fxT : fxp ∉ [183, P] := by
    obtain ⟨_, _, _, _, ⟨o', es, ep, e', hd', _⟩, _⟩ := A2
    refine notT t2 eP2 e' (fun ps q => ?_)
    rw [q] at hd'; cases hd'
  have lT : ∀ {l b}, LstO h2 l b → l ∉ [183, P] := fun {l b} I => by
    obtain ⟨_, _, _, o, e, hc, _⟩ := I
    exact notT t2 eP2 e (fun ps q => by rw [q] at hc; cases hc)
  have A2' := A2.but M4 L2 fxT
  have U2' := U2.but M4 L2
  have CI2' := CI2.but M4 L2 (lT CI2.lst)
  have CO2' := CO2.but M4 L2 (lT CO2.lst)
  have fmL : fxm ∉ [L] := fun q => exL m2 ((List.mem_singleton.mp q) ▸ nfx4)
  obtain ⟨big4, F4, N4, G4⟩ := seg F3 M4 hS hSL
  have m4 := F4.ns
  have L4 := loose_L m4
  clear F3 N3 G G2
  k_steps
  rename Fr _ _ _ _ => F9
  rename News _ _ _ _ => N9
  rename Seg _ _ _ _ => G4
  rename Loose _ _ => L4
  have M9 := Seg.now G4 F9 (fun p hp => N9 p (.tail _ hp))
  obtain ⟨big9, F9, N9, G9⟩ := seg (S := []) F9 But.refl (fun _ h => nomatch h) (fun h => nomatch h)
  have hPm9 : 349 < Pm := Nat.lt_of_lt_of_le hz2 hPm
  have TI4 : TabI h4 Pm specF := ⟨(ge_notK hPm9).1, (ge_notK hPm9).2, #[], TP4, trivial, fun q hq cv hc => by cases hc⟩
  refine hQ fp (.ref cp1) icp ocp lIp lOp fm c1 Pm icm ocm lIm lOm _ _ _ big9 F9 N9 G9 (fun b o e hb => ?_) (K4.but M9 L4 (con_nf m4 K4)) ⟨_, M9 _ _ t4 (tab_nf m4 t4)⟩ (U2'.but M9 L4) (CI2'.but M9 L4 (lst_nf m4 CI2'.lst)) (CO2'.but M9 L4 (lst_nf m4 CO2'.lst))
    (U4.but M9 L4) (codeHd_but CD4 M9 L4) (TI4.but M9 L4 (tab_nf m4 TP4)) hPm9 hMb (fun q => Nat.lt_irrefl _ (Nat.lt_of_lt_of_le (q ▸ Heap.lt_size eP2) hPm)) (CI4.but M9 L4 (lst_nf m4 CI4.lst)) (CO4.but M9 L4 (lst_nf m4 CO4.lst)) (fun y h0 h1 => by simp only [if_neg h0, if_neg h1]) ?za ?zb
  case za => rfl
  case zb => rfl
  have bL : b ∉ [L] := fun q => hb (List.mem_singleton.mp q ▸ .head _)
  have bT : b ∉ [183, P] := fun q => hb (.tail _ q)
  exact M9 _ _ (M4 _ _ (M2 _ _ (M1 _ _ e bL) bT) bT) bL
theorem l_comp_str {w : World} {A : Around} {s : Shared} {mg mb m : Str → Option Value} {mean : ExcName → Option Value} {base : Heap} {L cN cS : Addr} {big : List (Addr × Obj)}
    (KX : (KK w.params).In base) (KT : Top topProg l0 mean mg mb base) (F : Fr base L s.heap m) (N : News base L s.heap big) (G : Seg base L s.heap big) {x dx c P : Addr} {size block : Nat} {z : Str} {tk0 : Tok} {Q : Flow → Shared → Prop} (hd : A.depth + 8 < recursionLimit) (hh : A.handled = none) (hm1 : m "info" = some (.ref x)) (hm2 : m "shown" = some (.str z tk0)) (hk : (utf8 z).size ≤ 80) (hz : ∀ c ∈ z.cps, Str.isSurrogate c = false) (hs1 : 1 ≤ size) (hs2 : size ≤ 20) (hsb : size ≤ block) (hb16 : 16 ≤ block) (hb : block ≤ 32)
    (hI : InfI s.heap x dx c size block) (hdL : dx ≠ L) (K : ConstO s.heap c P size block) (hP183 : P ≠ 183) (t183 : s.heap.get? 183 = some (tabObj #[])) (h183b : base.get? 183 = none) (hPb : base.get? P = none) (hL9 : 349 < L)
    (hQ : ∀ fp cdp icp ocp lIp lOp fm c1 Pm icm ocm lIm lOm m' h' tk big', Fr base L h' m' → News base L h' big' → Seg base L h' big' → But [L, 183, P] s.heap h' → ConstO h' c P size block → (∃ ps, h'.get? 183 = some (tabObj ps)) →
      FnO h' fp pHm qHm [("_outer_copy", ocp), ("_inner_copy", icp)] .none cdp → CopyC h' icp c lIp (xorA (padK (utf8 z) size block) 54) → CopyC h' ocp c lOp (xorA (padK (utf8 z) size block) 92) →
      FnO h' fm mHm qHm [("_outer_copy", ocm), ("_inner_copy", icm)] .none (.ref c1) → CodeHd h' c1 Pm → TabI h' Pm specF → 349 < Pm → base.get? Pm = none → P ≠ Pm → CopyC h' icm c lIm (xorA (padK (utf8 z) size block) 54) → CopyC h' ocm c lOm (xorA (padK (utf8 z) size block) 92) →
      (∀ y : Str, y ≠ "plain" → y ≠ "parted" → m' y = m y) → m' "plain" = some (.ref fp) → m' "parted" = some (.ref fm) → Q .next { s with heap := h', toks := tk }) :
    wpAny (model pw w) (A.deeper (envX "law" (fScope (fS 26)) L 349 (.ref 348) [("number", cN), ("second", cS)])) (execs (List.take 2 (List.drop 6 (fBody (fS 26)))) (envX "law" (fScope (fS 26)) L 349 (.ref 348) [("number", cN), ("second", cS)])) Q (fun _ _ => False) s := by
  have hfill : KK w.params = KK w.params ∧ PySem.Challenge.rw_aj5027_01 = PySem.Challenge.rw_aj5027_01 := by
    k_fill
    exact ⟨rfl, rfl⟩
  clear hfill
  show wpAny _ _ (execs [_, _] _) _ _ _
  have m0 := F.ns
  have hh2 : (A.deeper (envX "law" (fScope (fS 26)) L 349 (.ref 348) [("number", cN), ("second", cS)])).handled = none := hh
  have h183L : (183 : Addr) ≠ L := Nat.ne_of_lt (Nat.lt_trans (by decide) hL9)
  have hS : ∀ a ∈ [183, P], base.get? a = none := fun a ha => by
    rcases List.mem_cons.mp ha with rfl | ha
    · exact h183b
    · cases List.mem_singleton.mp ha; exact hPb
  have hPL : P ≠ L := fun q => con_nf m0 K (List.mem_singleton.mpr q)
  have hSL : L ∉ [183, P] := fun q => by
    rcases List.mem_cons.mp q with q | q
    · exact h183L q.symm
    · exact hPL (List.mem_singleton.mp q).symm
  have infBut : ∀ {h h' : Heap}, InfI h x dx c size block → But [L] h h' → Loose h [L] → InfI h' x dx c size block := fun a M l => ⟨InstO.but a.1 M l, a.2.but M (fun q => hdL (List.mem_singleton.mp q))⟩
  k_steps
  rename Fr _ _ _ _ => F1
  rename News _ _ _ _ => N1
  have M1 := Seg.now G F1 N1
  have L0 := loose_L m0
  refine c_plain_str (KX.keeps F1.keep) (KT.keeps F1.keep) ?rm hh2 hk hz hs1 hs2 hsb hb16 hb (infBut hI M1 L0) (K.but M1 L0 (con_nf m0 K)) hP183 (M1 _ _ t183 (fun q => h183L (List.mem_singleton.mp q))) trivial rfl
    fun fp fxp icp ocp lIp lOp cp1 Pp h2 tk2 M2 z2 K2 t2 A2 U2 _ _ _ CI2 CO2 _ _ nfx2 => ?_
  case rm => show A.depth + 1 + 5 < recursionLimit; omega
  have z1 := t183
  have tab1 : ∃ qs, s.heap.get? P = some (tabObj qs) := by
    obtain ⟨_, _, _, _, _, _, _, _, _, _, _, ⟨_, _, qs, e, _⟩, _⟩ := K
    exact ⟨qs, e⟩
  obtain ⟨qs, eP⟩ := tab1
  have notT : ∀ {h : Heap} {a : Addr} {o} {q1 q2 : Array Value}, h.get? 183 = some (tabObj q1) → h.get? P = some (tabObj q2) → h.get? a = some o → (∀ ps, o ≠ tabObj ps) → a ∉ [183, P] := fun {h a o q1 q2} e1 e2 e hc q => by
    rcases List.mem_cons.mp q with q | q
    · rw [q, e1] at e; cases e; exact hc _ rfl
    · rw [List.mem_singleton.mp q, e2] at e; cases e; exact hc _ rfl
  have tP : ∀ {h : Heap}, ConstO h c P size block → ∃ qs, h.get? P = some (tabObj qs) := fun K => by
    obtain ⟨_, _, _, _, _, _, _, _, _, _, _, ⟨_, _, qs, e, _⟩, _⟩ := K
    exact ⟨qs, e⟩
  have looseT : ∀ {h : Heap} {q1 q2 : Array Value}, h.get? 183 = some (tabObj q1) → h.get? P = some (tabObj q2) → Loose h [183, P] := fun {h q1 q2} e1 e2 a ha o e => by
    rcases List.mem_cons.mp ha with rfl | ha
    · rw [e1] at e; cases e; rfl
    · cases List.mem_singleton.mp ha; rw [e2] at e; cases e; rfl
  have t1 := M1 _ _ t183 (fun q => h183L (List.mem_singleton.mp q))
  have eP1 := M1 _ _ eP (fun q => hPL (List.mem_singleton.mp q))
  have I1 := infBut hI M1 L0
  have infT : ∀ {h h' : Heap} {q1 q2 : Array Value}, h.get? 183 = some (tabObj q1) → h.get? P = some (tabObj q2) → InfI h x dx c size block → But [183, P] h h' → InfI h' x dx c size block := fun e1 e2 I M => ⟨InstO.but I.1 M (looseT e1 e2), I.2.but M (by obtain ⟨es, n, _, _, e, _⟩ := I.2; exact notT e1 e2 e (by intro ps q; cases q))⟩
  have I2 := infT t1 eP1 I1 M2
  have exL : ∀ {h : Heap} {mm : Str → Option Value}, h.Ns L mm → h.get? L ≠ none := fun n => by obtain ⟨o', es, ep, e', _⟩ := n; rw [e']; exact fun q => nomatch q
  have fxL : fxp ∉ [L] := fun q => exL F1.ns ((List.mem_singleton.mp q) ▸ nfx2)
  obtain ⟨big2, F2, N2, G2⟩ := seg F1 M2 hS hSL
  have m2 := F2.ns
  have hz2 : 349 < h2.objs.size := size_K (KX.keeps F2.keep)
  clear F1 N1
  k_steps
  rename Fr _ _ _ _ => F3
  rename News _ _ _ _ => N3
  obtain ⟨qs2, eP2⟩ := tP K2
  refine c_multi_str (KX.keeps F3.keep) (KT.keeps F3.keep) ?rm hh2 hk hz hs1 hs2 hsb hb16 hb I2 K2 hP183 t2 trivial rfl
    fun fm fxm icm ocm lIm lOm c1 Pm h4 tk4 M4 z4 K4 t4 A4 U4 CD4 TP4 hPm CI4 CO4 nI4 nO4 nfx4 => ?_
  case rm => show A.depth + 1 + 5 < recursionLimit; omega
  have hMb : base.get? Pm = none := by
    cases q : base.get? Pm with
    | none => rfl
    | some o => exact absurd (Heap.lt_size (F3.keep _ _ q)) (Nat.not_lt.mpr hPm)
  have L2 := looseT t2 eP2
  have fxT : fxp ∉ [183, P] := by
    obtain ⟨_, _, _, _, ⟨o', es, ep, e', hd', _⟩, _⟩ := A2
    refine notT t2 eP2 e' (fun ps q => ?_)
    rw [q] at hd'; cases hd'
  have lT : ∀ {l b}, LstO h2 l b → l ∉ [183, P] := fun {l b} I => by
    obtain ⟨_, _, _, o, e, hc, _⟩ := I
    exact notT t2 eP2 e (fun ps q => by rw [q] at hc; cases hc)
  have A2' := A2.but M4 L2 fxT
  have U2' := U2.but M4 L2
  have CI2' := CI2.but M4 L2 (lT CI2.lst)
  have CO2' := CO2.but M4 L2 (lT CO2.lst)
  have fmL : fxm ∉ [L] := fun q => exL m2 ((List.mem_singleton.mp q) ▸ nfx4)
  obtain ⟨big4, F4, N4, G4⟩ := seg F3 M4 hS hSL
  have m4 := F4.ns
  have L4 := loose_L m4
  clear F3 N3 G G2
  k_steps
  rename Fr _ _ _ _ => F9
  rename News _ _ _ _ => N9
  rename Seg _ _ _ _ => G4
  rename Loose _ _ => L4
  have M9 := Seg.now G4 F9 (fun p hp => N9 p (.tail _ hp))
  obtain ⟨big9, F9, N9, G9⟩ := seg (S := []) F9 But.refl (fun _ h => nomatch h) (fun h => nomatch h)
  have hPm9 : 349 < Pm := Nat.lt_of_lt_of_le hz2 hPm
  have TI4 : TabI h4 Pm specF := ⟨(ge_notK hPm9).1, (ge_notK hPm9).2, #[], TP4, trivial, fun q hq cv hc => by cases hc⟩
  refine hQ fp (.ref cp1) icp ocp lIp lOp fm c1 Pm icm ocm lIm lOm _ _ _ big9 F9 N9 G9 (fun b o e hb => ?_) (K4.but M9 L4 (con_nf m4 K4)) ⟨_, M9 _ _ t4 (tab_nf m4 t4)⟩ (U2'.but M9 L4) (CI2'.but M9 L4 (lst_nf m4 CI2'.lst)) (CO2'.but M9 L4 (lst_nf m4 CO2'.lst))
    (U4.but M9 L4) (codeHd_but CD4 M9 L4) (TI4.but M9 L4 (tab_nf m4 TP4)) hPm9 hMb (fun q => Nat.lt_irrefl _ (Nat.lt_of_lt_of_le (q ▸ Heap.lt_size eP2) hPm)) (CI4.but M9 L4 (lst_nf m4 CI4.lst)) (CO4.but M9 L4 (lst_nf m4 CO4.lst)) (fun y h0 h1 => by simp only [if_neg h0, if_neg h1]) ?za ?zb
  case za => rfl
  case zb => rfl
  have bL : b ∉ [L] := fun q => hb (List.mem_singleton.mp q ▸ .head _)
  have bT : b ∉ [183, P] := fun q => hb (.tail _ q)
  exact M9 _ _ (M4 _ _ (M2 _ _ (M1 _ _ e bL) bT) bT) bL

end
end Mine
namespace Mine
noncomputable section
open PySem PySem.W PySem.Calls PyProof.Rows
set_option maxRecDepth 100000
set_option maxHeartbeats 4000000
set_option linter.unusedVariables false
local macro_rules | `(tactic| walk_at "no such stop") => `(tactic| skip)
local macro_rules | `(tactic| walk_at "no such stop") => `(tactic| skip)
local macro_rules | `(tactic| walk_at "no such stop") => `(tactic| skip)
local macro_rules | `(tactic| walk_at "no such stop") => `(tactic| skip)
local macro_rules | `(tactic| walk_at "no such stop") => `(tactic| skip)

/-- how it stands behind the two compile_hmac calls -/
structure LM (h : Heap) (c P fp icp ocp lIp lOp fm c1 Pm icm ocm lIm lOm : Addr) (cdp : Value) (size block : Nat) (kk : Array UInt8) : Prop where
  K : ConstO h c P size block
  U0 : FnO h fp pHm qHm [("_outer_copy", ocp), ("_inner_copy", icp)] .none cdp
  CIp : CopyC h icp c lIp (xorA kk 54)
  COp : CopyC h ocp c lOp (xorA kk 92)
  Um : FnO h fm mHm qHm [("_outer_copy", ocm), ("_inner_copy", icm)] .none (.ref c1)
  CD : CodeHd h c1 Pm
  TB : TabI h Pm specF
  CIm : CopyC h icm c lIm (xorA kk 54)
  COm : CopyC h ocm c lOm (xorA kk 92)
  t1 : ∃ ps, h.get? 183 = some (tabObj ps)
  t2 : ∃ ps, h.get? 327 = some (tabObj ps)
section
variable {h h' : Heap} {c P fp icp ocp lIp lOp fm c1 Pm icm ocm lIm lOm : Addr} {cdp : Value} {size block : Nat} {kk : Array UInt8}
theorem tabI_nf {h : Heap} {L t : Addr} {m : Str → Option Value} {sp : List (Pos × Str)} (n : h.Ns L m) (e : TabI h t sp) : t ∉ [L] := let ⟨_, _, _, e, _⟩ := e; tab_nf n e
theorem LM.frame {L : Addr} {m : Str → Option Value} (x : LM h c P fp icp ocp lIp lOp fm c1 Pm icm ocm lIm lOm cdp size block kk) (n : h.Ns L m) (M : But [L] h h') : LM h' c P fp icp ocp lIp lOp fm c1 Pm icm ocm lIm lOm cdp size block kk :=
  have hs := loose_L n
  { K := x.K.but M hs (con_nf n x.K), U0 := x.U0.but M hs, CIp := x.CIp.but M hs (lst_nf n x.CIp.lst), COp := x.COp.but M hs (lst_nf n x.COp.lst), Um := x.Um.but M hs, CD := codeHd_but x.CD M hs, TB := x.TB.but M hs (tabI_nf n x.TB), CIm := x.CIm.but M hs (lst_nf n x.CIm.lst), COm := x.COm.but M hs (lst_nf n x.COm.lst),
    t1 := let ⟨ps, e⟩ := x.t1; ⟨ps, M _ _ e (tab_nf n e)⟩, t2 := let ⟨ps, e⟩ := x.t2; ⟨ps, M _ _ e (tab_nf n e)⟩ }
theorem LM.looseT (x : LM h c P fp icp ocp lIp lOp fm c1 Pm icm ocm lIm lOm cdp size block kk) : Loose h [P, Pm] := fun a ha o e => by
  rcases List.mem_cons.mp ha with rfl | ha
  · exact x.K.soft.loose _ (.head _) _ e
  · exact x.TB.soft.loose a ha _ e
theorem LM.lT (x : LM h c P fp icp ocp lIp lOp fm c1 Pm icm ocm lIm lOm cdp size block kk) {l : Addr} {b : Array UInt8} (I : LstO h l b) : l ∉ [P, Pm] := fun q => by
  rcases List.mem_cons.mp q with q | q
  · exact lst_ne x.K I q
  · obtain ⟨_, _, _, o, e, hc, _⟩ := I
    obtain ⟨_, _, _, e', _⟩ := x.TB
    rw [List.mem_singleton.mp q, e'] at e; cases e; cases hc
theorem LM.multi (x : LM h c P fp icp ocp lIp lOp fm c1 Pm icm ocm lIm lOm cdp size block kk) (M : But [P, Pm] h h') (K' : ConstO h' c P size block) (T' : TabI h' Pm specF) (hP : P ≠ 183 ∧ P ≠ 327) (hM : 349 < Pm) : LM h' c P fp icp ocp lIp lOp fm c1 Pm icm ocm lIm lOm cdp size block kk :=
  have hs := x.looseT
  have nt : ∀ a : Addr, a ≠ P → a ≤ 349 → a ∉ [P, Pm] := fun a h1 h2 q => by
    rcases List.mem_cons.mp q with q | q
    · exact h1 q
    · exact Nat.lt_irrefl _ (Nat.lt_of_lt_of_le hM (List.mem_singleton.mp q ▸ h2))
  { K := K', U0 := x.U0.but M hs, CIp := x.CIp.but M hs (x.lT x.CIp.lst), COp := x.COp.but M hs (x.lT x.COp.lst), Um := x.Um.but M hs, CD := codeHd_but x.CD M hs, TB := T', CIm := x.CIm.but M hs (x.lT x.CIm.lst), COm := x.COm.but M hs (x.lT x.COm.lst),
    t1 := let ⟨ps, e⟩ := x.t1; ⟨ps, M _ _ e (nt 183 hP.1.symm (by decide))⟩, t2 := let ⟨ps, e⟩ := x.t2; ⟨ps, M _ _ e (nt 327 hP.2.symm (by decide))⟩ }
end
local macro_rules | `(tactic| walk_at "eval Name") => `(tactic| (k_dflt (refine' nameM ?F ?v ?_ ?a ?b ?c; (case F => k_asm); (case v => first | with_reducible assumption | rfl | assumption); (case a => rfl); (case b => rfl); (case c => decide))))
local macro_rules | `(tactic| walk_at "assign Tuple cons ref") => `(tactic| (
  (with_reducible rename Fr _ _ _ _ => kF); (with_reducible rename News _ _ _ _ => kN); (with_reducible rename Around.handled _ = none => kH);
  k_dflt (
  refine' assign_Tuple_tuple kH ?tt ?tn ?ts ?_; (case tt => first | assumption | exact News.isTup kN (by k_mem)); (case tn => rfl); (case ts => rfl));
  intro h9 st9; have st9 := ext_stays st9; have F9 := Fr.keeps kF st9; have N9 := News.keepsAll kN st9; clear kF kN; (try dsimp only)))
local macro_rules | `(tactic| walk_at "callWith ref") => `(tactic| (k_dflt (refine callWith_F0 (by assumption) ?_; (try dsimp only [List.nil_append, List.cons_append]))))
theorem l_pairs {w : World} {A : Around} {s : Shared} {mg mb m : Str → Option Value} {mean : ExcName → Option Value} {base : Heap} {L cN cS : Addr} {big : List (Addr × Obj)}
    (KX : (KK w.params).In base) (KT : Top topProg l0 mean mg mb base) (F : Fr base L s.heap m) (N : News base L s.heap big) (G : Seg base L s.heap big) {c P fp icp ocp lIp lOp fm c1 Pm icm ocm lIm lOm : Addr} {cdp : Value} {size block : Nat} {kk : Array UInt8} {Q : Flow → Shared → Prop} (hd : A.depth + 8 < recursionLimit) (hh : A.handled = none) (hm1 : m "parted" = some (.ref fm))
    (x : LM s.heap c P fp icp ocp lIp lOp fm c1 Pm icm ocm lIm lOm cdp size block kk) (hP : P ≠ 183 ∧ P ≠ 327) (hPM : P ≠ Pm) (hM : 349 < Pm) (hPb : base.get? P = none) (hMb : base.get? Pm = none)
    (hQ : ∀ (a : Ad) m' h' tk big', Fr base L h' m' → News base L h' big' → Seg base L h' big' → But [L, P, Pm] s.heap h' → LW base h' a size block kk #[] #[] → a.P = P → a.fp = fp → (∀ y : Str, y ≠ "update" → y ≠ "finalize" → y ≠ "later" → y ≠ "ending" → m' y = m y) → m' "update" = some (.ref a.u1) → m' "finalize" = some (.ref a.f1) → m' "later" = some (.ref a.u2) → m' "ending" = some (.ref a.f2) → Q .next { s with heap := h', toks := tk }) :
    wpAny (model pw w) (A.deeper (envX "law" (fScope (fS 26)) L 349 (.ref 348) [("number", cN), ("second", cS)])) (execs (List.take 2 (List.drop 8 (fBody (fS 26)))) (envX "law" (fScope (fS 26)) L 349 (.ref 348) [("number", cN), ("second", cS)])) Q (fun _ _ => False) s := by
  have hfill : KK w.params = KK w.params ∧ PySem.Challenge.rw_aj5027_01 = PySem.Challenge.rw_aj5027_01 := by
    k_fill
    exact ⟨rfl, rfl⟩
  clear hfill
  show wpAny _ _ (execs [_, _] _) _ _ _
  have m0 := F.ns
  have hh2 : (A.deeper (envX "law" (fScope (fS 26)) L 349 (.ref 348) [("number", cN), ("second", cS)])).handled = none := hh
  have hF1 : FnAt fm s.heap := fnAt x.Um
  have hS : ∀ a ∈ [P, Pm], base.get? a = none := fun a ha => by
    rcases List.mem_cons.mp ha with rfl | ha
    · exact hPb
    · cases List.mem_singleton.mp ha; exact hMb
  have hSL : ∀ {h : Heap} {mm : Str → Option Value}, h.Ns L mm → LM h c P fp icp ocp lIp lOp fm c1 Pm icm ocm lIm lOm cdp size block kk → L ∉ [P, Pm] := fun n x q => by
    rcases List.mem_cons.mp q with q | q
    · exact con_nf n x.K (q ▸ .head _)
    · exact tabI_nf n x.TB (List.mem_singleton.mp q ▸ .head _)
  k_steps
  rename Fr _ _ _ _ => F1
  rename News _ _ _ _ => N1
  refine c_multi (cpO := 0) (KX.keeps F1.keep) (KT.keeps F1.keep) ?rm hh2 x.Um x.CD x.TB x.CIm x.K hPM fun D1 u1 f1 k1 y1 l1 cd1 h2 tk2 M2 z2 K2 D2 U2 Fn2 Ce2 H2 T2 n1 => ?_
  case rm => show A.depth + 1 + 6 < recursionLimit; omega
  have x2 := x.multi M2 K2 T2 hP hM
  obtain ⟨big2, F2, N2, G2⟩ := seg F1 M2 hS (hSL F1.ns x)
  have hl1b : base.get? l1 = none := by
    cases q : base.get? l1 with
    | none => rfl
    | some o => have e := F1.keep _ _ q; rw [n1] at e; cases e
  have m2 := F2.ns
  have hF2 := fnAt x2.Um
  clear F1 N1 G hF1
  k_steps
  rename Fr _ _ _ _ => F3
  rename News _ _ _ _ => N3
  rename_i h3
  rename Around.handled _ = none => hh2
  have M3 : But [L] h2 h3 := Seg.now G2 F3 N3
  have L2 := loose_L m2
  have x3 := x2.frame m2 M3
  have U3 := U2.but M3 L2
  have Fn3 := Fn2.but M3 L2
  have Ce3 := cell_but Ce2 M3 L2
  have H3 := H2.but M3 L2 (lst_nf m2 H2.lst)
  refine callWith_F0 (fnAt x3.Um) ?_
  refine c_multi (cpO := 0) (KX.keeps F3.keep) (KT.keeps F3.keep) ?rm hh2 x3.Um x3.CD x3.TB x3.CIm x3.K hPM fun D2 u2 f2 k2 y2 l2 cd2 h4 tk4 M4 z4 K4 D4 U4 Fn4 Ce4 H4 T4 n2 => ?_
  case rm => show A.depth + 1 + 6 < recursionLimit; omega
  have x4 := x3.multi M4 K4 T4 hP hM
  have LT := x3.looseT
  have U3' := U3.but M4 LT
  have Fn3' := Fn3.but M4 LT
  have Ce3' := cell_but Ce3 M4 LT
  have H3' := H3.but M4 LT (x3.lT H3.lst)
  obtain ⟨big4, F4, N4, G4⟩ := seg F3 M4 hS (hSL F3.ns x3)
  have hl2b : base.get? l2 = none := by
    cases q : base.get? l2 with
    | none => rfl
    | some o => have e := F3.keep _ _ q; rw [n2] at e; cases e
  have m4 := F4.ns
  have fr1 : ∀ {l b}, LstO s.heap l b → l1 ≠ l := fun {l b} I q => by
    obtain ⟨_, _, _, o, e, _⟩ := I
    try dsimp only at n1
    rw [← q, n1] at e; cases e
  have fr2 : ∀ {l b}, LstO h3 l b → l2 ≠ l := fun {l b} I q => by
    obtain ⟨_, _, _, o, e, _⟩ := I
    try dsimp only at n2
    rw [← q, n2] at e; cases e
  clear F3 N3 G2
  k_steps
  rename Fr _ _ _ _ => F9
  rename News _ _ _ _ => N9
  have M9 := Seg.now G4 F9 N9
  obtain ⟨big9, F9, N9, G9⟩ := seg (S := []) F9 But.refl (fun _ h => nomatch h) (fun h => nomatch h)
  have W4 : LW base h4 ⟨c, P, fp, icp, ocp, lIp, lOp, ocm, lOm, u1, l1, f1, k1, y1, u2, l2, f2, k2, y2, cdp, cd1, cd2⟩ size block kk #[] #[] :=
    { K := x4.K, U0 := x4.U0, CIp := x4.CIp, COp := x4.COp, COm := x4.COm, Up1 := U3', Fn1 := Fn3', Ce1 := Ce3', Ha1 := (by rw [Array.append_empty]; exact H3'), Up2 := U4, Fn2 := Fn4, Ce2 := Ce4, Ha2 := (by rw [Array.append_empty]; exact H4),
      n12 := (fr2 H3.lst).symm, m1 := ⟨fr1 x.CIp.lst, fr1 x.COp.lst, fr1 x.COm.lst⟩, m2 := ⟨fr2 x3.CIp.lst, fr2 x3.COp.lst, fr2 x3.COm.lst⟩, bP := hPb, b1 := hl1b, b2 := hl2b, t1 := x4.t1, t2 := x4.t2, p1 := hP }
  refine hQ _ _ _ _ big9 F9 N9 G9 (fun b o e hb => ?_) (W4.frame m4 M9) rfl rfl (fun y h0 h1 h2 h3 => by simp only [if_neg h0, if_neg h1, if_neg h2, if_neg h3]) ?za ?zb ?zc ?zd
  case za => rfl
  case zb => rfl
  case zc => rfl
  case zd => rfl
  have bL : b ∉ [L] := fun q => hb (List.mem_singleton.mp q ▸ .head _)
  have bT : b ∉ [P, Pm] := fun q => hb (.tail _ q)
  exact M9 _ _ (M4 _ _ (M3 _ _ (M2 _ _ e bT) bL) bT) bL

end
end Mine
namespace Mine
noncomputable section
open PySem PySem.W PySem.Calls PyProof.Rows
set_option maxRecDepth 100000
set_option maxHeartbeats 4000000
set_option linter.unusedVariables false

theorem hid_ne {h : Heap} {C : List Addr} {b : Addr} {o : Obj} (e : (hideAll h C).get? b = some o) : b ∉ C := fun q => by
  rw [hideAll_none _ q] at e; cases e
theorem hid_stays {h : Heap} {C : List Addr} : (hideAll h C).StaysIn h := fun b o e => of_hideAll _ e
theorem hid_but {S : List Addr} {h h' : Heap} {C : List Addr} (M : But S h h') : But S (hideAll h C) (hideAll h' C) := fun b o e hb => hideAll_get _ (M b o (of_hideAll _ e) hb) (hid_ne e)
theorem hid_own {h h' : Heap} {C : List Addr} (M : But C h h') : (hideAll h C).StaysIn (hideAll h' C) := fun b o e => hideAll_get _ (M b o (of_hideAll _ e) (hid_ne e)) (hid_ne e)
/-- a cell or an iterator -/
def odd (o : Obj) : Prop := (∃ v, o.data = .cell v) ∨ ((∃ vs, o.data = .fields vs) ∧ o.cls = .type "list_iterator")
def Odds (h : Heap) (C : List Addr) : Prop := ∀ c ∈ C, ∃ o, h.get? c = some o ∧ odd o
theorem Odds.nin {h : Heap} {C : List Addr} (x : Odds h C) {b : Addr} {o : Obj} (e : h.get? b = some o) (hn : ¬ odd o) : b ∉ C := fun q => by
  obtain ⟨o', e', d⟩ := x b q
  rw [e] at e'; cases e'; exact hn d
theorem hid_get {h : Heap} {C : List Addr} {b : Addr} {o : Obj} (hc : Odds h C) (e : h.get? b = some o) (hn : ¬ odd o) : (hideAll h C).get? b = some o := hideAll_get _ e (hc.nin e hn)
theorem odd_tab {ps : Array Value} : ¬ odd (tabObj ps) := fun q => by
  rcases q with ⟨v, q⟩ | ⟨_, q⟩
  · cases q
  · cases q
theorem odd_seq {o : Obj} {vs : Array Value} {n : Nat} (h : o.data = .seq vs n) : ¬ odd o := fun q => by
  rcases q with ⟨v, q⟩ | ⟨⟨v, q⟩, _⟩
  · rw [h] at q; cases q
  · rw [h] at q; cases q
theorem odd_dict {o : Obj} {a b} (h : o.data = .dict a b) : ¬ odd o := fun q => by
  rcases q with ⟨v, q⟩ | ⟨⟨v, q⟩, _⟩
  · rw [h] at q; cases q
  · rw [h] at q; cases q
theorem tabI_hid {h : Heap} {C : List Addr} {P : Addr} {sp : List (Pos × Str)} (k : Odds h C) (x : TabI h P sp) : TabI (hideAll h C) P sp := by
  obtain ⟨a, b, ps, e, t, r⟩ := x
  refine ⟨a, b, ps, hid_get k e odd_tab, t, fun q hq cv hc => ?_⟩
  obtain ⟨cc, o, vs, tt, e1, e2, e3, e4, e5⟩ := r q hq cv hc
  exact ⟨cc, o, vs, tt, e1, hid_get k e2 (fun z => by
    rcases z with ⟨v, z⟩ | ⟨_, z⟩
    · rw [e4] at z; cases z
    · rw [e3] at z; exact absurd z (by decide)), e3, e4, e5⟩
theorem const_hid {h h' : Heap} {c P : Addr} {C : List Addr} {size block : Nat} (k : Odds h' C) (x : ConstO (hideAll h C) c P size block) (M : But [P] h h') (x' : ConstO h' c P size block) : ConstO (hideAll h' C) c P size block := by
  have M' : But [P] (hideAll h C) (hideAll h' C) := hid_but M
  have hs := con_loose x
  obtain ⟨_, _, _, _, _, _, _, _, _, _, _, T', _⟩ := x'
  obtain ⟨dT, t, sc, cc, bc, t1, t2, cd, a, b, e, f, g, i, j⟩ := x
  exact ⟨dT, t, sc, cc, bc, t1, t2, cd, a.but M' hs, tup_but b M' hs, codeHd_but e M' hs, tabI_hid k T', cell_but g M' hs, cell_but i M' hs, cell_but j M' hs⟩
theorem lst_hid {h : Heap} {C : List Addr} {l : Addr} {b : Array UInt8} (k : Odds h C) (x : LstO h l b) : LstO (hideAll h C) l b := by
  obtain ⟨a, d, t, o, e, hc, n, hd⟩ := x
  exact ⟨a, d, t, o, hid_get k e (odd_seq hd), hc, n, hd⟩
theorem ns_hid {h : Heap} {C : List Addr} {L : Addr} {m : Str → Option Value} (k : Odds h C) (x : h.Ns L m) : (hideAll h C).Ns L m := by
  obtain ⟨o, es, ep, e, hd, r⟩ := x
  exact ⟨o, es, ep, hid_get k e (odd_dict hd), hd, r⟩
theorem Odds.but {S : List Addr} {h h' : Heap} {C : List Addr} (x : Odds h C) (M : But S h h') (hs : ∀ a ∈ S, ∃ o, h.get? a = some o ∧ ¬ odd o) : Odds h' C := fun c hc => by
  obtain ⟨o, e, d⟩ := x c hc
  exact ⟨o, M _ _ e (fun q => by obtain ⟨o', e', n⟩ := hs c q; rw [e] at e'; cases e'; exact n d), d⟩
theorem ns_even {h : Heap} {L : Addr} {m : Str → Option Value} (n : h.Ns L m) : ∀ a ∈ [L], ∃ o, h.get? a = some o ∧ ¬ odd o := fun a ha => by
  obtain ⟨o, es, ep, e, hd, r⟩ := n
  exact ⟨o, List.mem_singleton.mp ha ▸ e, odd_dict hd⟩
theorem con_even {h : Heap} {c P : Addr} {size block : Nat} (K : ConstO h c P size block) : ∀ a ∈ [P], ∃ o, h.get? a = some o ∧ ¬ odd o := fun a ha => by
  obtain ⟨_, _, _, _, _, _, _, _, _, _, _, ⟨_, _, ps, e', _⟩, _⟩ := K
  exact ⟨_, List.mem_singleton.mp ha ▸ e', odd_tab⟩
theorem lst_even {h : Heap} {l : Addr} {b : Array UInt8} (I : LstO h l b) : ∀ a ∈ [l], ∃ o, h.get? a = some o ∧ ¬ odd o := fun a ha => by
  obtain ⟨_, _, _, o, e, hc, n, hd⟩ := I
  exact ⟨o, List.mem_singleton.mp ha ▸ e, odd_seq hd⟩
/-- LW on the heap without law's own cell (and the loop's iterator) -/
structure LX (base h₀ : Heap) (L : Addr) (h : Heap) (C : List Addr) (a : Ad) (size block : Nat) (kk w1 w2 : Array UInt8) : Prop where
  w : LW base (hideAll h C) a size block kk w1 w2
  od : Odds h C
  bt : But [L, a.P, a.l1, a.l2] h₀ h
section
variable {base h₀ h h' : Heap} {L : Addr} {C : List Addr} {a : Ad} {size block : Nat} {kk w1 w2 : Array UInt8}
theorem LX.now (x : LX base h₀ L h C a size block kk w1 w2) : LW base h a size block kk w1 w2 := x.w.stays hid_stays
theorem cell_nf {h : Heap} {L c : Addr} {m : Str → Option Value} {v : Option Value} (n : h.Ns L m) (k : h.IsCell c v) : c ∉ [L] := fun q => by
  obtain ⟨o', es, ep, e', hd', _⟩ := n
  obtain ⟨o, e, d⟩ := k
  rw [List.mem_singleton.mp q, e'] at e; cases e; rw [hd'] at d; cases d
theorem LX.frame {m : Str → Option Value} (x : LX base h₀ L h C a size block kk w1 w2) (n : h.Ns L m) (M : But [L] h h') : LX base h₀ L h' C a size block kk w1 w2 :=
  ⟨x.w.frame (ns_hid x.od n) (hid_but M), x.od.but M (ns_even n), x.bt.trans (M.mono fun a ha => by cases List.mem_singleton.mp ha; exact .head _)⟩
theorem LX.stays (x : LX base h₀ L h C a size block kk w1 w2) (st : h.StaysIn h') : LX base h₀ L h' C a size block kk w1 w2 :=
  ⟨x.w.but (hid_but (But.of_stays st (S := []))) (Ln _) (fun q => nomatch q) (fun _ _ _ q => nomatch q) (fun _ _ _ _ q => nomatch q), x.od.but (But.of_stays st (S := [])) (fun _ q => nomatch q), x.bt.trans (But.of_stays st)⟩
theorem LX.set {S : List Addr} (x : LX base h₀ L h C a size block kk w1 w2) (M : But S h h') (hS : ∀ b ∈ S, b ∈ C) (o : Odds h' C) : LX base h' L h' C a size block kk w1 w2 := ⟨x.w.stays (hid_own (M.mono hS)), o, But.refl⟩
theorem LX.con (x : LX base h₀ L h C a size block kk w1 w2) (M : But [a.P] h h') (K' : ConstO h' a.c a.P size block) : LX base h₀ L h' C a size block kk w1 w2 :=
  have k' := x.od.but M (con_even x.now.K)
  ⟨x.w.con (hid_but M) (const_hid k' x.w.K M K'), k', x.bt.trans (M.mono fun a ha => by cases List.mem_singleton.mp ha; exact .tail _ (.head _))⟩
theorem LX.up1 {m : Array UInt8} (x : LX base h₀ L h C a size block kk w1 w2) (M : But [a.l1] h h') (I : LstO h' a.l1 ((xorA kk 54 ++ w1) ++ m)) : LX base h₀ L h' C a size block kk (w1 ++ m) w2 :=
  have k' := x.od.but M (lst_even x.now.Ha1.lst)
  ⟨x.w.up1 (hid_but M) (lst_hid k' I), k', x.bt.trans (M.mono fun a ha => by cases List.mem_singleton.mp ha; exact .tail _ (.tail _ (.head _)))⟩
theorem LX.up2 {m : Array UInt8} (x : LX base h₀ L h C a size block kk w1 w2) (M : But [a.l2] h h') (I : LstO h' a.l2 ((xorA kk 54 ++ w2) ++ m)) : LX base h₀ L h' C a size block kk w1 (w2 ++ m) :=
  have k' := x.od.but M (lst_even x.now.Ha2.lst)
  ⟨x.w.up2 (hid_but M) (lst_hid k' I), k', x.bt.trans (M.mono fun a ha => by cases List.mem_singleton.mp ha; exact .tail _ (.tail _ (.tail _ (.head _))))⟩
end
section
variable {w : World} {A : Around} {s : Shared} {mg mb m : Str → Option Value} {mean : ExcName → Option Value} {base h₀ : Heap} {L : Addr} {C : List Addr} {news : List (Addr × Obj)} {a : Ad} {size block : Nat} {key kk w1 w2 : Array UInt8} {t : Tok} {Q : Value → Shared → Prop}
theorem lx_fin1 (X : (KK w.params).In base) (T : Top topProg l0 mean mg mb base) (F : Fr base L s.heap m) (hd : A.depth + 6 < recursionLimit) (hh : A.handled = none) (x : LX base h₀ L s.heap C a size block kk w1 w2) (hs1 : 1 ≤ size) (hs2 : size ≤ 20) (hk : kk.size ≤ 40) (sm : Same key kk size block) (hw : w1.size ≤ 100)
    (hQ : ∀ t' h' tk big, Fr base L h' m → News base L h' big → Seg base L h' big → LX base h₀ L h' C a size block kk w1 w2 → Q (.bytes (lawCode key w1 size block) t') { s with heap := h', toks := tk }) :
    wpAny (model pw w) A (call (.ref a.f1) []) Q (fun _ _ => False) s := by
  have y := x.now
  refine c_fin (X.keeps F.keep) (T.keeps F.keep) hd hh y.Fn1 y.Ce1 y.Ha1 y.COm y.K hs1 hs2 (by rw [Array.size_append, xorA_size]; omega) (by rw [xorA_size]; omega) fun t' h' tk M z K' => ?_
  obtain ⟨big, F', N', G'⟩ := seg F M (fun b hb => by cases List.mem_singleton.mp hb; exact y.bP) (fun q => con_nf F.ns y.K (List.mem_singleton.mp q ▸ .head _))
  rw [sm]
  exact hQ t' h' tk big F' N' G' (x.con M K')
theorem lx_upd1 (X : (KK w.params).In base) (T : Top topProg l0 mean mg mb base) (F : Fr base L s.heap m) (hd : A.depth + 6 < recursionLimit) (hh : A.handled = none) (x : LX base h₀ L s.heap C a size block kk w1 w2) (hs1 : 1 ≤ size) (hs2 : size ≤ 20) (hk : kk.size ≤ 40) {b : Array UInt8} {tb : Tok} (hw : w1.size ≤ 100) (hb : b.size ≤ 100)
    (hQ : ∀ h' tk big, Fr base L h' m → News base L h' big → Seg base L h' big → LX base h₀ L h' C a size block kk (w1 ++ b) w2 → Q .none { s with heap := h', toks := tk }) :
    wpAny (model pw w) A (call (.ref a.u1) [.bytes b tb]) Q (fun _ _ => False) s := by
  have y := x.now
  refine c_update (X.keeps F.keep) (T.keeps F.keep) (by omega) y.Up1 y.Ha1.lst (by rw [Array.size_append, xorA_size]; omega) (by omega) fun h' tk M I z => ?_
  obtain ⟨big, F', N', G'⟩ := seg F M (fun b hb => by cases List.mem_singleton.mp hb; exact y.b1) (fun q => lst_nf F.ns y.Ha1.lst (List.mem_singleton.mp q ▸ .head _))
  exact hQ h' tk big F' N' G' (x.up1 M I)
theorem lx_fin2 (X : (KK w.params).In base) (T : Top topProg l0 mean mg mb base) (F : Fr base L s.heap m) (hd : A.depth + 6 < recursionLimit) (hh : A.handled = none) (x : LX base h₀ L s.heap C a size block kk w1 w2) (hs1 : 1 ≤ size) (hs2 : size ≤ 20) (hk : kk.size ≤ 40) (sm : Same key kk size block) (hw : w2.size ≤ 100)
    (hQ : ∀ t' h' tk big, Fr base L h' m → News base L h' big → Seg base L h' big → LX base h₀ L h' C a size block kk w1 w2 → Q (.bytes (lawCode key w2 size block) t') { s with heap := h', toks := tk }) :
    wpAny (model pw w) A (call (.ref a.f2) []) Q (fun _ _ => False) s := by
  have y := x.now
  refine c_fin (X.keeps F.keep) (T.keeps F.keep) hd hh y.Fn2 y.Ce2 y.Ha2 y.COm y.K hs1 hs2 (by rw [Array.size_append, xorA_size]; omega) (by rw [xorA_size]; omega) fun t' h' tk M z K' => ?_
  obtain ⟨big, F', N', G'⟩ := seg F M (fun b hb => by cases List.mem_singleton.mp hb; exact y.bP) (fun q => con_nf F.ns y.K (List.mem_singleton.mp q ▸ .head _))
  rw [sm]
  exact hQ t' h' tk big F' N' G' (x.con M K')
theorem lx_upd2 (X : (KK w.params).In base) (T : Top topProg l0 mean mg mb base) (F : Fr base L s.heap m) (hd : A.depth + 6 < recursionLimit) (hh : A.handled = none) (x : LX base h₀ L s.heap C a size block kk w1 w2) (hs1 : 1 ≤ size) (hs2 : size ≤ 20) (hk : kk.size ≤ 40) {b : Array UInt8} {tb : Tok} (hw : w2.size ≤ 100) (hb : b.size ≤ 100)
    (hQ : ∀ h' tk big, Fr base L h' m → News base L h' big → Seg base L h' big → LX base h₀ L h' C a size block kk w1 (w2 ++ b) → Q .none { s with heap := h', toks := tk }) :
    wpAny (model pw w) A (call (.ref a.u2) [.bytes b tb]) Q (fun _ _ => False) s := by
  have y := x.now
  refine c_update (X.keeps F.keep) (T.keeps F.keep) (by omega) y.Up2 y.Ha2.lst (by rw [Array.size_append, xorA_size]; omega) (by omega) fun h' tk M I z => ?_
  obtain ⟨big, F', N', G'⟩ := seg F M (fun b hb => by cases List.mem_singleton.mp hb; exact y.b2) (fun q => lst_nf F.ns y.Ha2.lst (List.mem_singleton.mp q ▸ .head _))
  exact hQ h' tk big F' N' G' (x.up2 M I)
theorem lx_plain (X : (KK w.params).In base) (T : Top topProg l0 mean mg mb base) (F : Fr base L s.heap m) (hd : A.depth + 6 < recursionLimit) (hh : A.handled = none) (x : LX base h₀ L s.heap C a size block kk w1 w2) (hs1 : 1 ≤ size) (hs2 : size ≤ 20) (hk : kk.size ≤ 40) {b : Array UInt8} {tb : Tok} (sm : Same key kk size block) (hb : b.size ≤ 100)
    (hQ : ∀ t' h' tk big, Fr base L h' m → News base L h' big → Seg base L h' big → LX base h₀ L h' C a size block kk w1 w2 → Q (.bytes (lawCode key b size block) t') { s with heap := h', toks := tk }) :
    wpAny (model pw w) A (call (.ref a.fp) [.bytes b tb]) Q (fun _ _ => False) s := by
  have y := x.now
  refine c_plain (X.keeps F.keep) (T.keeps F.keep) hd hh y.U0 y.CIp y.COp y.K hs1 hs2 (by rw [xorA_size]; omega) (by rw [xorA_size]; omega) hb fun t' h' tk M z K' => ?_
  obtain ⟨big, F', N', G'⟩ := seg F M (fun b hb => by cases List.mem_singleton.mp hb; exact y.bP) (fun q => con_nf F.ns y.K (List.mem_singleton.mp q ▸ .head _))
  rw [sm]
  exact hQ t' h' tk big F' N' G' (x.con M K')
end

end
end Mine
namespace Mine
noncomputable section
open PySem PySem.W PySem.Calls PyProof.Rows
set_option maxRecDepth 100000
set_option maxHeartbeats 4000000
set_option linter.unusedVariables false
local macro_rules | `(tactic| walk_at "no such stop") => `(tactic| skip)
local macro_rules | `(tactic| walk_at "no such stop") => `(tactic| skip)
local macro_rules | `(tactic| walk_at "no such stop") => `(tactic| skip)
local macro_rules | `(tactic| walk_at "no such stop") => `(tactic| skip)
local macro_rules | `(tactic| walk_at "no such stop") => `(tactic| skip)
local macro_rules | `(tactic| walk_at "no such stop") => `(tactic| skip)
local macro_rules | `(tactic| walk_at "no such stop") => `(tactic| skip)
local macro_rules | `(tactic| walk_at "no such stop") => `(tactic| skip)
local macro_rules | `(tactic| walk_at "no such stop") => `(tactic| skip)
theorem LW.at1 {base h : Heap} {a : Ad} {size block : Nat} {kk w1 w2 : Array UInt8} (x : LW base h a size block kk w1 w2) : FnAt a.f1 h := fnAt x.Fn1
theorem LW.at2 {base h : Heap} {a : Ad} {size block : Nat} {kk w1 w2 : Array UInt8} (x : LW base h a size block kk w1 w2) : FnAt a.f2 h := fnAt x.Fn2
theorem LW.at0 {base h : Heap} {a : Ad} {size block : Nat} {kk w1 w2 : Array UInt8} (x : LW base h a size block kk w1 w2) : FnAt a.fp h := fnAt x.U0
theorem LW.at3 {base h : Heap} {a : Ad} {size block : Nat} {kk w1 w2 : Array UInt8} (x : LW base h a size block kk w1 w2) : FnAt a.u1 h := x.Up1.at
theorem LW.at4 {base h : Heap} {a : Ad} {size block : Nat} {kk w1 w2 : Array UInt8} (x : LW base h a size block kk w1 w2) : FnAt a.u2 h := x.Up2.at
theorem ne_same {w : World} {A : Around} {E : Value → Shared → Prop} {s : Shared} {b : Array UInt8} {t u : Tok} {Q : Value → Shared → Prop} (h : Q (.bool false) s) : wpAny (model pw w) A (compareOp .NotEq (.bytes b t) (.bytes b u)) Q E s :=
  ne_bytes (by rw [show (b.toList != b.toList) = false by simp]; exact h)
theorem eq_same {w : World} {A : Around} {E : Value → Shared → Prop} {s : Shared} {b : Array UInt8} {t u : Tok} {Q : Value → Shared → Prop} (h : Q (.bool true) s) : wpAny (model pw w) A (compareOp .Eq (.bytes b t) (.bytes b u)) Q E s :=
  eq_bytes (by rw [show (b.toList == b.toList) = true by simp]; exact h)
local macro_rules | `(tactic| walk_at "eval Name") => `(tactic| (k_dflt (refine' nameM ?F ?v ?_ ?a ?b ?c; (case F => k_asm); (case v => first | with_reducible assumption | rfl | assumption); (case a => rfl); (case b => rfl); (case c => decide))))
local macro_rules | `(tactic| walk_at "compareOp NotEq bytes bytes") => `(tactic| (k_dflt (refine ne_same ?_)))
local macro_rules | `(tactic| walk_at "compareOp Eq bytes bytes") => `(tactic| (k_dflt (refine eq_same ?_)))
local macro_rules | `(tactic| walk_at "FnAt") => `(tactic| (
  (with_reducible rename Fr _ _ _ _ => kF); (with_reducible rename News _ _ _ _ => kN); (with_reducible rename Seg _ _ _ _ => kG); (with_reducible rename LX _ _ _ _ _ _ _ _ _ _ _ => kW); (with_reducible rename Heap.Ns _ _ _ => kn);
  have kM := Seg.now kG kF (fun p hp => kN p (by first | exact hp | exact .tail _ hp | exact .tail _ (.tail _ hp) | exact .tail _ (.tail _ (.tail _ hp)) | exact .tail _ (.tail _ (.tail _ (.tail _ hp)))));
  have kV := LX.frame kW kn kM;
  (with_reducible first | exact LW.at1 (LX.now kV) | exact LW.at2 (LX.now kV) | exact LW.at0 (LX.now kV) | exact LW.at3 (LX.now kV) | exact LW.at4 (LX.now kV))))
local macro_rules | `(tactic| walk_at "callWith ref") => `(tactic| (
  (with_reducible rename Fr _ _ _ _ => kF); (with_reducible rename News _ _ _ _ => kN); (with_reducible rename Seg _ _ _ _ => kG); (with_reducible rename LX _ _ _ _ _ _ _ _ _ _ _ => kW); (with_reducible rename Heap.Ns _ _ _ => kn);
  have kM := Seg.now kG kF (fun p hp => kN p (by first | exact hp | exact .tail _ hp | exact .tail _ (.tail _ hp) | exact .tail _ (.tail _ (.tail _ hp)) | exact .tail _ (.tail _ (.tail _ (.tail _ hp)))));
  have kV := LX.frame kW kn kM;
  k_dflt (first | refine callWith_F (LW.at1 (LX.now kV)) ?_ | refine callWith_F (LW.at2 (LX.now kV)) ?_ | refine callWith_F (LW.at0 (LX.now kV)) ?_ | refine callWith_F (LW.at3 (LX.now kV)) ?_ | refine callWith_F (LW.at4 (LX.now kV)) ?_); clear kM kV))
local macro_rules | `(tactic| walk_at "callWith ref") => `(tactic| (
  (with_reducible rename Fr _ _ _ _ => kF); (with_reducible rename News _ _ _ _ => kN); (with_reducible rename Seg _ _ _ _ => kG); (with_reducible rename LX _ _ _ _ _ _ _ _ _ _ _ => kW); (with_reducible rename Heap.Ns _ _ _ => kn);
  have kM := Seg.now kG kF (fun p hp => kN p (by first | exact hp | exact .tail _ hp | exact .tail _ (.tail _ hp) | exact .tail _ (.tail _ (.tail _ hp)) | exact .tail _ (.tail _ (.tail _ (.tail _ hp)))));
  have kV := LX.frame kW kn kM;
  (first | (with_reducible refine callWith_F0 (LW.at1 (LX.now kV)) ?_) | (with_reducible refine callWith_F0 (LW.at2 (LX.now kV)) ?_)); (try dsimp only [List.nil_append, List.cons_append]); clear kM kV))
local macro_rules | `(tactic| walk_at "call ref") => `(tactic| (
  (with_reducible show wpAny _ _ (call (Value.ref 344) _) _ _ _);
  (with_reducible rename Fr _ _ _ _ => kF); (with_reducible rename News _ _ _ _ => kN); (with_reducible rename Frag.In _ _ => kX); (with_reducible rename Top _ _ _ _ _ _ => kT);
  k_dflt (
  refine' s_code (Frag.In.keeps kX (Fr.keep kF)) (Top.keeps kT (Fr.keep kF)) ?rm ?hh ?a ?b ?c ?d ?e ?f ?_; (case rm => (show _ + 1 + 1 < recursionLimit; omega)); (case hh => assumption); (case a => assumption); (case b => (first | assumption | omega | (simp only [Array.size_append, List.size_toArray, List.length_nil]; omega))); (case c => assumption); (case d => assumption); (case e => assumption); (case f => assumption));
  intro t9 h9 tk9 st9 sz9; have F9 := Fr.keeps kF st9; have N9 := News.keepsAll kN st9; clear kF kN))
local macro_rules | `(tactic| walk_at "call ref") => `(tactic| (
  (with_reducible show wpAny _ _ (call (Value.ref (Ad.f1 _)) _) _ _ _);
  (with_reducible rename Fr _ _ _ _ => kF); (with_reducible rename News _ _ _ _ => kN); (with_reducible rename Seg _ _ _ _ => kG); (with_reducible rename LX _ _ _ _ _ _ _ _ _ _ _ => kW); (with_reducible rename Heap.Ns _ _ _ => kn);
  have kM := Seg.now kG kF (fun p hp => kN p (by first | exact hp | exact .tail _ hp | exact .tail _ (.tail _ hp) | exact .tail _ (.tail _ (.tail _ hp)) | exact .tail _ (.tail _ (.tail _ (.tail _ hp)))));
  have kV := LX.frame kW kn kM;
  (with_reducible rename Frag.In _ _ => kX); (with_reducible rename Top _ _ _ _ _ _ => kT); (with_reducible rename Same _ _ _ _ => kS);
  k_dflt (
  refine' lx_fin1 kX kT kF ?rm ?hh kV ?s1 ?s2 ?sk kS ?w ?_; (case rm => (show _ + 1 + 6 < recursionLimit; omega)); (case hh => assumption); (case s1 => assumption); (case s2 => assumption); (case sk => assumption); (case w => first | assumption | decide | omega | (simp only [Array.size_append]; omega))); clear kM kV;
  intro t9 h9 tk9 big9 F9 N9 G9 W9; have n9 := Fr.ns F9; clear kF kN kG kW kn))
local macro_rules | `(tactic| walk_at "call ref") => `(tactic| (
  (with_reducible show wpAny _ _ (call (Value.ref (Ad.f2 _)) _) _ _ _);
  (with_reducible rename Fr _ _ _ _ => kF); (with_reducible rename News _ _ _ _ => kN); (with_reducible rename Seg _ _ _ _ => kG); (with_reducible rename LX _ _ _ _ _ _ _ _ _ _ _ => kW); (with_reducible rename Heap.Ns _ _ _ => kn);
  have kM := Seg.now kG kF (fun p hp => kN p (by first | exact hp | exact .tail _ hp | exact .tail _ (.tail _ hp) | exact .tail _ (.tail _ (.tail _ hp)) | exact .tail _ (.tail _ (.tail _ (.tail _ hp)))));
  have kV := LX.frame kW kn kM;
  (with_reducible rename Frag.In _ _ => kX); (with_reducible rename Top _ _ _ _ _ _ => kT); (with_reducible rename Same _ _ _ _ => kS);
  k_dflt (
  refine' lx_fin2 kX kT kF ?rm ?hh kV ?s1 ?s2 ?sk kS ?w ?_; (case rm => (show _ + 1 + 6 < recursionLimit; omega)); (case hh => assumption); (case s1 => assumption); (case s2 => assumption); (case sk => assumption); (case w => first | assumption | decide | omega | (simp only [Array.size_append]; omega))); clear kM kV;
  intro t9 h9 tk9 big9 F9 N9 G9 W9; have n9 := Fr.ns F9; clear kF kN kG kW kn))
local macro_rules | `(tactic| walk_at "call ref") => `(tactic| (
  (with_reducible show wpAny _ _ (call (Value.ref (Ad.fp _)) _) _ _ _);
  (with_reducible rename Fr _ _ _ _ => kF); (with_reducible rename News _ _ _ _ => kN); (with_reducible rename Seg _ _ _ _ => kG); (with_reducible rename LX _ _ _ _ _ _ _ _ _ _ _ => kW); (with_reducible rename Heap.Ns _ _ _ => kn);
  have kM := Seg.now kG kF (fun p hp => kN p (by first | exact hp | exact .tail _ hp | exact .tail _ (.tail _ hp) | exact .tail _ (.tail _ (.tail _ hp)) | exact .tail _ (.tail _ (.tail _ (.tail _ hp)))));
  have kV := LX.frame kW kn kM;
  (with_reducible rename Frag.In _ _ => kX); (with_reducible rename Top _ _ _ _ _ _ => kT); (with_reducible rename Same _ _ _ _ => kS);
  k_dflt (
  refine' lx_plain kX kT kF ?rm ?hh kV ?s1 ?s2 ?sk kS ?w ?_; (case rm => (show _ + 1 + 6 < recursionLimit; omega)); (case hh => assumption); (case s1 => assumption); (case s2 => assumption); (case sk => assumption); (case w => first | assumption | omega | (simp only [Array.size_append]; omega))); clear kM kV;
  intro t9 h9 tk9 big9 F9 N9 G9 W9; have n9 := Fr.ns F9; clear kF kN kG kW kn))
local macro_rules | `(tactic| walk_at "call ref") => `(tactic| (
  (with_reducible show wpAny _ _ (call (Value.ref (Ad.u1 _)) _) _ _ _);
  (with_reducible rename Fr _ _ _ _ => kF); (with_reducible rename News _ _ _ _ => kN); (with_reducible rename Seg _ _ _ _ => kG); (with_reducible rename LX _ _ _ _ _ _ _ _ _ _ _ => kW); (with_reducible rename Heap.Ns _ _ _ => kn);
  have kM := Seg.now kG kF (fun p hp => kN p (by first | exact hp | exact .tail _ hp | exact .tail _ (.tail _ hp) | exact .tail _ (.tail _ (.tail _ hp)) | exact .tail _ (.tail _ (.tail _ (.tail _ hp)))));
  have kV := LX.frame kW kn kM;
  (with_reducible rename Frag.In _ _ => kX); (with_reducible rename Top _ _ _ _ _ _ => kT); (with_reducible rename Same _ _ _ _ => kS);
  k_dflt (
  refine' lx_upd1 kX kT kF ?rm ?hh kV ?s1 ?s2 ?sk ?w ?b ?_; (case rm => (show _ + 1 + 6 < recursionLimit; omega)); (case hh => assumption); (case s1 => assumption); (case s2 => assumption); (case sk => assumption); (case w => first | assumption | decide | omega | (simp only [Array.size_append]; omega)); (case b => first | assumption | omega)); clear kM kV;
  intro h9 tk9 big9 F9 N9 G9 W9; have n9 := Fr.ns F9; clear kF kN kG kW kn))
local macro_rules | `(tactic| walk_at "call ref") => `(tactic| (
  (with_reducible show wpAny _ _ (call (Value.ref (Ad.u2 _)) _) _ _ _);
  (with_reducible rename Fr _ _ _ _ => kF); (with_reducible rename News _ _ _ _ => kN); (with_reducible rename Seg _ _ _ _ => kG); (with_reducible rename LX _ _ _ _ _ _ _ _ _ _ _ => kW); (with_reducible rename Heap.Ns _ _ _ => kn);
  have kM := Seg.now kG kF (fun p hp => kN p (by first | exact hp | exact .tail _ hp | exact .tail _ (.tail _ hp) | exact .tail _ (.tail _ (.tail _ hp)) | exact .tail _ (.tail _ (.tail _ (.tail _ hp)))));
  have kV := LX.frame kW kn kM;
  (with_reducible rename Frag.In _ _ => kX); (with_reducible rename Top _ _ _ _ _ _ => kT); (with_reducible rename Same _ _ _ _ => kS);
  k_dflt (
  refine' lx_upd2 kX kT kF ?rm ?hh kV ?s1 ?s2 ?sk ?w ?b ?_; (case rm => (show _ + 1 + 6 < recursionLimit; omega)); (case hh => assumption); (case s1 => assumption); (case s2 => assumption); (case sk => assumption); (case w => first | assumption | decide | omega | (simp only [Array.size_append]; omega)); (case b => first | assumption | omega)); clear kM kV;
  intro h9 tk9 big9 F9 N9 G9 W9; have n9 := Fr.ns F9; clear kF kN kG kW kn))
theorem l_first {w : World} {A : Around} {s : Shared} {mg mb m : Str → Option Value} {mean : ExcName → Option Value} {base : Heap} {L cN cS : Addr} {big : List (Addr × Obj)}
    (KX : (KK w.params).In base) (KT : Top topProg l0 mean mg mb base) (F : Fr base L s.heap m) (N : News base L s.heap big) (G : Seg base L s.heap big) {a : Ad} {size block : Nat} {key kk : Array UInt8} {t1 t2 t3 : Tok} {Q : Flow → Shared → Prop} (hd : A.depth + 8 < recursionLimit) (hh : A.handled = none) (hs1 : 1 ≤ size) (hs2 : size ≤ 20) (hsb : size ≤ block) (hb : block ≤ 32) (hkk : kk.size ≤ 40) (hkey : key.size ≤ 80) (sm : Same key kk size block) (hm1 : m "finalize" = some (.ref a.f1)) (hm2 : m "key" = some (.bytes key t1)) (hm3 : m "size" = some (.int size t2)) (hm4 : m "block" = some (.int block t3)) {h₀ : Heap} {C : List Addr} (W : LX base h₀ L s.heap C a size block kk #[] #[])
    (hQ : ∀ m' h' tk big' t, Fr base L h' m' → News base L h' big' → Seg base L h' big' → LX base h₀ L h' C a size block kk #[] #[] → (∀ y : Str, y ≠ "whole" → m' y = m y) → m' "whole" = some (.bytes #[] t) → Q .next { s with heap := h', toks := tk }) :
    wpAny (model pw w) (A.deeper (envX "law" (fScope (fS 26)) L 349 (.ref 348) [("number", cN), ("second", cS)])) (execs (List.take 2 (List.drop 10 (fBody (fS 26)))) (envX "law" (fScope (fS 26)) L 349 (.ref 348) [("number", cN), ("second", cS)])) Q (fun _ _ => False) s := by
  have hfill : KK w.params = KK w.params ∧ PySem.Challenge.rw_aj5027_01 = PySem.Challenge.rw_aj5027_01 := by
    k_fill
    exact ⟨rfl, rfl⟩
  clear hfill
  show wpAny _ _ (execs [_, _] _) _ _ _
  have m0 := F.ns
  have hh2 : (A.deeper (envX "law" (fScope (fS 26)) L 349 (.ref 348) [("number", cN), ("second", cS)])).handled = none := hh
  k_steps
  rename Fr _ _ _ _ => F9
  rename News _ _ _ _ => N9
  rename Seg _ _ _ _ => G8
  rename LX _ _ _ _ _ _ _ _ _ _ _ => W8
  rename Heap.Ns _ _ _ => n8
  have M9 := Seg.now G8 F9 N9
  have W9 := W8.frame n8 M9
  obtain ⟨big9, F9, N9, G9⟩ := seg (S := []) F9 But.refl (fun _ h => nomatch h) (fun h => nomatch h)
  refine hQ _ _ _ big9 ?zt F9 N9 G9 W9 (fun y h => if_neg h) ?za
  case za => rfl

end
end Mine
namespace Mine
noncomputable section
open PySem PySem.W PySem.Calls PyProof.Rows
set_option maxRecDepth 100000
set_option maxHeartbeats 4000000
set_option linter.unusedVariables false
local macro_rules | `(tactic| walk_at "no such stop") => `(tactic| skip)
local macro_rules | `(tactic| walk_at "no such stop") => `(tactic| skip)
local macro_rules | `(tactic| walk_at "no such stop") => `(tactic| skip)
local macro_rules | `(tactic| walk_at "no such stop") => `(tactic| skip)
local macro_rules | `(tactic| walk_at "no such stop") => `(tactic| skip)
local macro_rules | `(tactic| walk_at "no such stop") => `(tactic| skip)
local macro_rules | `(tactic| walk_at "no such stop") => `(tactic| skip)
local macro_rules | `(tactic| walk_at "no such stop") => `(tactic| skip)
local macro_rules | `(tactic| walk_at "no such stop") => `(tactic| skip)
local macro_rules | `(tactic| walk_at "no such stop") => `(tactic| skip)
local macro_rules | `(tactic| walk_at "no such stop") => `(tactic| skip)
local macro_rules | `(tactic| walk_at "no such stop") => `(tactic| skip)
local macro_rules | `(tactic| walk_at "no such stop") => `(tactic| skip)
local macro_rules | `(tactic| walk_at "no such stop") => `(tactic| skip)
local macro_rules | `(tactic| walk_at "no such stop") => `(tactic| skip)
local macro_rules | `(tactic| walk_at "no such stop") => `(tactic| skip)
local macro_rules | `(tactic| walk_at "no such stop") => `(tactic| skip)
local macro_rules | `(tactic| walk_at "no such stop") => `(tactic| skip)
local macro_rules | `(tactic| walk_at "no such stop") => `(tactic| skip)
local macro_rules | `(tactic| walk_at "no such stop") => `(tactic| skip)
local macro_rules | `(tactic| walk_at "no such stop") => `(tactic| skip)
local macro_rules | `(tactic| walk_at "no such stop") => `(tactic| skip)
def forBody : Stmt → List Stmt | .For _ _ b _ _ => b | _ => []
def lBody : List Stmt := forBody (stAt (fBody (fS 26)) 12)
local macro_rules | `(tactic| walk_at "eval Name") => `(tactic| (k_dflt (refine' nameM ?F ?v ?_ ?a ?b ?c; (case F => k_asm); (case v => first | with_reducible assumption | rfl | assumption); (case a => rfl); (case b => rfl); (case c => decide))))
local macro_rules | `(tactic| walk_at "compareOp NotEq bytes bytes") => `(tactic| (k_dflt (refine ne_same ?_)))
local macro_rules | `(tactic| walk_at "compareOp Eq bytes bytes") => `(tactic| (k_dflt (refine eq_same ?_)))
local macro_rules | `(tactic| walk_at "FnAt") => `(tactic| (
  (with_reducible rename Fr _ _ _ _ => kF); (with_reducible rename News _ _ _ _ => kN); (with_reducible rename Seg _ _ _ _ => kG); (with_reducible rename LX _ _ _ _ _ _ _ _ _ _ _ => kW); (with_reducible rename Heap.Ns _ _ _ => kn);
  have kM := Seg.now kG kF (fun p hp => kN p (by first | exact hp | exact .tail _ hp | exact .tail _ (.tail _ hp) | exact .tail _ (.tail _ (.tail _ hp)) | exact .tail _ (.tail _ (.tail _ (.tail _ hp)))));
  have kV := LX.frame kW kn kM;
  (with_reducible first | exact LW.at1 (LX.now kV) | exact LW.at2 (LX.now kV) | exact LW.at0 (LX.now kV) | exact LW.at3 (LX.now kV) | exact LW.at4 (LX.now kV))))
local macro_rules | `(tactic| walk_at "callWith ref") => `(tactic| (
  (with_reducible rename Fr _ _ _ _ => kF); (with_reducible rename News _ _ _ _ => kN); (with_reducible rename Seg _ _ _ _ => kG); (with_reducible rename LX _ _ _ _ _ _ _ _ _ _ _ => kW); (with_reducible rename Heap.Ns _ _ _ => kn);
  have kM := Seg.now kG kF (fun p hp => kN p (by first | exact hp | exact .tail _ hp | exact .tail _ (.tail _ hp) | exact .tail _ (.tail _ (.tail _ hp)) | exact .tail _ (.tail _ (.tail _ (.tail _ hp)))));
  have kV := LX.frame kW kn kM;
  k_dflt (first | refine callWith_F (LW.at1 (LX.now kV)) ?_ | refine callWith_F (LW.at2 (LX.now kV)) ?_ | refine callWith_F (LW.at0 (LX.now kV)) ?_ | refine callWith_F (LW.at3 (LX.now kV)) ?_ | refine callWith_F (LW.at4 (LX.now kV)) ?_); clear kM kV))
local macro_rules | `(tactic| walk_at "callWith ref") => `(tactic| (
  (with_reducible rename Fr _ _ _ _ => kF); (with_reducible rename News _ _ _ _ => kN); (with_reducible rename Seg _ _ _ _ => kG); (with_reducible rename LX _ _ _ _ _ _ _ _ _ _ _ => kW); (with_reducible rename Heap.Ns _ _ _ => kn);
  have kM := Seg.now kG kF (fun p hp => kN p (by first | exact hp | exact .tail _ hp | exact .tail _ (.tail _ hp) | exact .tail _ (.tail _ (.tail _ hp)) | exact .tail _ (.tail _ (.tail _ (.tail _ hp)))));
  have kV := LX.frame kW kn kM;
  (first | (with_reducible refine callWith_F0 (LW.at1 (LX.now kV)) ?_) | (with_reducible refine callWith_F0 (LW.at2 (LX.now kV)) ?_)); (try dsimp only [List.nil_append, List.cons_append]); clear kM kV))
local macro_rules | `(tactic| walk_at "call ref") => `(tactic| (
  (with_reducible show wpAny _ _ (call (Value.ref 344) _) _ _ _);
  (with_reducible rename Fr _ _ _ _ => kF); (with_reducible rename News _ _ _ _ => kN); (with_reducible rename Frag.In _ _ => kX); (with_reducible rename Top _ _ _ _ _ _ => kT);
  k_dflt (
  refine' s_code (Frag.In.keeps kX (Fr.keep kF)) (Top.keeps kT (Fr.keep kF)) ?rm ?hh ?a ?b ?c ?d ?e ?f ?_; (case rm => (show _ + 1 + 1 < recursionLimit; omega)); (case hh => assumption); (case a => assumption); (case b => (first | assumption | omega | (simp only [Array.size_append, List.size_toArray, List.length_nil]; omega))); (case c => assumption); (case d => assumption); (case e => assumption); (case f => assumption));
  intro t9 h9 tk9 st9 sz9; have F9 := Fr.keeps kF st9; have N9 := News.keepsAll kN st9; clear kF kN))
local macro_rules | `(tactic| walk_at "call ref") => `(tactic| (
  (with_reducible show wpAny _ _ (call (Value.ref (Ad.f1 _)) _) _ _ _);
  (with_reducible rename Fr _ _ _ _ => kF); (with_reducible rename News _ _ _ _ => kN); (with_reducible rename Seg _ _ _ _ => kG); (with_reducible rename LX _ _ _ _ _ _ _ _ _ _ _ => kW); (with_reducible rename Heap.Ns _ _ _ => kn);
  have kM := Seg.now kG kF (fun p hp => kN p (by first | exact hp | exact .tail _ hp | exact .tail _ (.tail _ hp) | exact .tail _ (.tail _ (.tail _ hp)) | exact .tail _ (.tail _ (.tail _ (.tail _ hp)))));
  have kV := LX.frame kW kn kM;
  (with_reducible rename Frag.In _ _ => kX); (with_reducible rename Top _ _ _ _ _ _ => kT); (with_reducible rename Same _ _ _ _ => kS);
  k_dflt (
  refine' lx_fin1 kX kT kF ?rm ?hh kV ?s1 ?s2 ?sk kS ?w ?_; (case rm => (show _ + 1 + 6 < recursionLimit; omega)); (case hh => assumption); (case s1 => assumption); (case s2 => assumption); (case sk => assumption); (case w => first | assumption | decide | omega | (simp only [Array.size_append]; omega))); clear kM kV;
  intro t9 h9 tk9 big9 F9 N9 G9 W9; have n9 := Fr.ns F9; clear kF kN kG kW kn))
local macro_rules | `(tactic| walk_at "call ref") => `(tactic| (
  (with_reducible show wpAny _ _ (call (Value.ref (Ad.f2 _)) _) _ _ _);
  (with_reducible rename Fr _ _ _ _ => kF); (with_reducible rename News _ _ _ _ => kN); (with_reducible rename Seg _ _ _ _ => kG); (with_reducible rename LX _ _ _ _ _ _ _ _ _ _ _ => kW); (with_reducible rename Heap.Ns _ _ _ => kn);
  have kM := Seg.now kG kF (fun p hp => kN p (by first | exact hp | exact .tail _ hp | exact .tail _ (.tail _ hp) | exact .tail _ (.tail _ (.tail _ hp)) | exact .tail _ (.tail _ (.tail _ (.tail _ hp)))));
  have kV := LX.frame kW kn kM;
  (with_reducible rename Frag.In _ _ => kX); (with_reducible rename Top _ _ _ _ _ _ => kT); (with_reducible rename Same _ _ _ _ => kS);
  k_dflt (
  refine' lx_fin2 kX kT kF ?rm ?hh kV ?s1 ?s2 ?sk kS ?w ?_; (case rm => (show _ + 1 + 6 < recursionLimit; omega)); (case hh => assumption); (case s1 => assumption); (case s2 => assumption); (case sk => assumption); (case w => first | assumption | decide | omega | (simp only [Array.size_append]; omega))); clear kM kV;
  intro t9 h9 tk9 big9 F9 N9 G9 W9; have n9 := Fr.ns F9; clear kF kN kG kW kn))
local macro_rules | `(tactic| walk_at "call ref") => `(tactic| (
  (with_reducible show wpAny _ _ (call (Value.ref (Ad.fp _)) _) _ _ _);
  (with_reducible rename Fr _ _ _ _ => kF); (with_reducible rename News _ _ _ _ => kN); (with_reducible rename Seg _ _ _ _ => kG); (with_reducible rename LX _ _ _ _ _ _ _ _ _ _ _ => kW); (with_reducible rename Heap.Ns _ _ _ => kn);
  have kM := Seg.now kG kF (fun p hp => kN p (by first | exact hp | exact .tail _ hp | exact .tail _ (.tail _ hp) | exact .tail _ (.tail _ (.tail _ hp)) | exact .tail _ (.tail _ (.tail _ (.tail _ hp)))));
  have kV := LX.frame kW kn kM;
  (with_reducible rename Frag.In _ _ => kX); (with_reducible rename Top _ _ _ _ _ _ => kT); (with_reducible rename Same _ _ _ _ => kS);
  k_dflt (
  refine' lx_plain kX kT kF ?rm ?hh kV ?s1 ?s2 ?sk kS ?w ?_; (case rm => (show _ + 1 + 6 < recursionLimit; omega)); (case hh => assumption); (case s1 => assumption); (case s2 => assumption); (case sk => assumption); (case w => first | assumption | omega | (simp only [Array.size_append]; omega))); clear kM kV;
  intro t9 h9 tk9 big9 F9 N9 G9 W9; have n9 := Fr.ns F9; clear kF kN kG kW kn))
local macro_rules | `(tactic| walk_at "call ref") => `(tactic| (
  (with_reducible show wpAny _ _ (call (Value.ref (Ad.u1 _)) _) _ _ _);
  (with_reducible rename Fr _ _ _ _ => kF); (with_reducible rename News _ _ _ _ => kN); (with_reducible rename Seg _ _ _ _ => kG); (with_reducible rename LX _ _ _ _ _ _ _ _ _ _ _ => kW); (with_reducible rename Heap.Ns _ _ _ => kn);
  have kM := Seg.now kG kF (fun p hp => kN p (by first | exact hp | exact .tail _ hp | exact .tail _ (.tail _ hp) | exact .tail _ (.tail _ (.tail _ hp)) | exact .tail _ (.tail _ (.tail _ (.tail _ hp)))));
  have kV := LX.frame kW kn kM;
  (with_reducible rename Frag.In _ _ => kX); (with_reducible rename Top _ _ _ _ _ _ => kT); (with_reducible rename Same _ _ _ _ => kS);
  k_dflt (
  refine' lx_upd1 kX kT kF ?rm ?hh kV ?s1 ?s2 ?sk ?w ?b ?_; (case rm => (show _ + 1 + 6 < recursionLimit; omega)); (case hh => assumption); (case s1 => assumption); (case s2 => assumption); (case sk => assumption); (case w => first | assumption | decide | omega | (simp only [Array.size_append]; omega)); (case b => first | assumption | omega)); clear kM kV;
  intro h9 tk9 big9 F9 N9 G9 W9; have n9 := Fr.ns F9; clear kF kN kG kW kn))
local macro_rules | `(tactic| walk_at "call ref") => `(tactic| (
  (with_reducible show wpAny _ _ (call (Value.ref (Ad.u2 _)) _) _ _ _);
  (with_reducible rename Fr _ _ _ _ => kF); (with_reducible rename News _ _ _ _ => kN); (with_reducible rename Seg _ _ _ _ => kG); (with_reducible rename LX _ _ _ _ _ _ _ _ _ _ _ => kW); (with_reducible rename Heap.Ns _ _ _ => kn);
  have kM := Seg.now kG kF (fun p hp => kN p (by first | exact hp | exact .tail _ hp | exact .tail _ (.tail _ hp) | exact .tail _ (.tail _ (.tail _ hp)) | exact .tail _ (.tail _ (.tail _ (.tail _ hp)))));
  have kV := LX.frame kW kn kM;
  (with_reducible rename Frag.In _ _ => kX); (with_reducible rename Top _ _ _ _ _ _ => kT); (with_reducible rename Same _ _ _ _ => kS);
  k_dflt (
  refine' lx_upd2 kX kT kF ?rm ?hh kV ?s1 ?s2 ?sk ?w ?b ?_; (case rm => (show _ + 1 + 6 < recursionLimit; omega)); (case hh => assumption); (case s1 => assumption); (case s2 => assumption); (case sk => assumption); (case w => first | assumption | decide | omega | (simp only [Array.size_append]; omega)); (case b => first | assumption | omega)); clear kM kV;
  intro h9 tk9 big9 F9 N9 G9 W9; have n9 := Fr.ns F9; clear kF kN kG kW kn))
local macro_rules | `(tactic| walk_at "binaryOp Mod int int") => `(tactic| (refine mod_int' ?mo ?_; (case mo => omega)))
local macro_rules | `(tactic| walk_at "call type:bytes") => `(tactic| (
  (with_reducible rename Fr _ _ _ _ => kF); (with_reducible rename News _ _ _ _ => kN); (with_reducible rename IntsAre _ _ => kI); (with_reducible rename ∀ _ ∈ _, _ ∧ _ => kR); k_dflt (
  refine' KBa.make_K kF kN ?hh (News.isList kN ?mm) kI kR ?ln ?_; (case hh => assumption); (case mm => exact .head _); (case ln => omega); intro h9 t9 tk9 F9 N9 _; clear kF kN)))
local macro_rules | `(tactic| walk_at "eval Name") => `(tactic| (
  (with_reducible show wpAny _ _ (eval (Expr.Name (PySem.Str.ofString "number") _) _) _ _ _);
  (with_reducible rename Heap.IsCell _ _ _ => kC);
  k_dflt (
  refine' nameCell ?a ?b ?c kC ?_ ?d; (case a => rfl); (case b => rfl); (case c => rfl); (case d => decide))))
local macro_rules | `(tactic| walk_at "binaryOp Add bytes bytes") => `(tactic| (refine' KBy.add_bytes ?sz ?_; (case sz => omega); intro _ _))
theorem l_body {w : World} {A : Around} {s : Shared} {mg mb m : Str → Option Value} {mean : ExcName → Option Value} {base : Heap} {L cN cS : Addr} {big : List (Addr × Obj)}
    (KX : (KK w.params).In base) (KT : Top topProg l0 mean mg mb base) (F : Fr base L s.heap m) (N : News base L s.heap big) (G : Seg base L s.heap big) {h₀ : Heap} {C : List Addr} {a : Ad} {size block : Nat} {key kk w1 w2 : Array UInt8} {n : Int} {t1 t2 t3 tn tw : Tok} {Q : Flow → Shared → Prop} (hd : A.depth + 8 < recursionLimit) (hh : A.handled = none) (hs1 : 1 ≤ size) (hs2 : size ≤ 20) (hsb : size ≤ block) (hb : block ≤ 32) (hkk : kk.size ≤ 40) (hkey : key.size ≤ 80) (sm : Same key kk size block) (hw1 : w1.size ≤ 60)
    (hm1 : m "finalize" = some (.ref a.f1)) (hm2 : m "key" = some (.bytes key t1)) (hm3 : m "size" = some (.int size t2)) (hm4 : m "block" = some (.int block t3)) (hm5 : m "update" = some (.ref a.u1)) (hm6 : m "plain" = some (.ref a.fp)) (hm7 : m "whole" = some (.bytes w1 tw)) (hcb : base.get? cN = none) (kN : s.heap.IsCell cN (some (.int n tn))) (W : LX base h₀ L s.heap C a size block kk w1 w2)
    (hQ : ∀ m' h' tk big' b t, Fr base L h' m' → News base L h' big' → Seg base L h' big' → LX base h₀ L h' C a size block kk (w1 ++ b) w2 → b.size ≤ 6 → (∀ y : Str, y ≠ "part" → y ≠ "whole" → y ≠ "due" → m' y = m y) → m' "whole" = some (.bytes (w1 ++ b) t) → Q .next { s with heap := h', toks := tk }) :
    wpAny (model pw w) (A.deeper (envX "law" (fScope (fS 26)) L 349 (.ref 348) [("number", cN), ("second", cS)])) (execs lBody (envX "law" (fScope (fS 26)) L 349 (.ref 348) [("number", cN), ("second", cS)])) Q (fun _ _ => False) s := by
  have hfill : KK w.params = KK w.params ∧ PySem.Challenge.rw_aj5027_01 = PySem.Challenge.rw_aj5027_01 := by
    k_fill
    exact ⟨rfl, rfl⟩
  clear hfill
  show wpAny _ _ (execs [_, _, _, _, _] _) _ _ _
  have m0 := F.ns
  have hh2 : (A.deeper (envX "law" (fScope (fS 26)) L 349 (.ref 348) [("number", cN), ("second", cS)])).handled = none := hh
  obtain ⟨oS, eS, dS⟩ := id kN
  have b0 := fmod_lo n (n := 7) (by decide)
  have b1 := fmod_hi n (n := 7) (by decide)
  have cSL : cN ≠ L := fun q => cell_nf m0 kN (List.mem_singleton.mpr q)
  k_steps
  rename Fr _ _ _ _ => F1
  rename News _ _ _ _ => N1
  rename IsRange _ _ _ _ _ _ _ _ => R1
  rename ∀ _ _, _ = some _ → _ => k1
  rename Heap.IsCell _ _ _ => kN
  dsimp only at k1
  have N2 : News base L _ ((cN, oS) :: big) := fun p hp => by
    rcases List.mem_cons.mp hp with rfl | hp
    · exact ⟨k1 _ _ eS, cSL, hcb⟩
    · exact N1 _ hp
  refine compSrc_ints hh2 F1 N2 R1 b0 (by omega) (fun k t C oC m₂ h tk E' Q' k0 k1 hC hm eC NN hq => ?_) fun D ys ns h2 tk2 F2 N3 I2 R2 ln2 => ?_
  · exact elem_number (s := { s with heap := h, toks := tk }) (c := cN) (n1 := n) (tc := tn) rfl rfl rfl rfl ⟨oS, (NN _ (.head _)).1, dS⟩ (hC.ns eC) hm k0 k1 hq
  clear F1 N1 N2
  have ln3 : ns.length ≤ 6 := by omega
  have bs : (byteArr ns).size ≤ 6 := by rw [byteArr_size]; exact ln3
  k_steps
  rename Fr _ _ _ _ => F9
  rename News _ _ _ _ => N9
  rename Seg _ _ _ _ => G8
  rename LX _ _ _ _ _ _ _ _ _ _ _ => W8
  rename Heap.Ns _ _ _ => n8
  have M9 := Seg.now G8 F9 N9
  have W9 := W8.frame n8 M9
  obtain ⟨big9, F9, N9, G9⟩ := seg (S := []) F9 But.refl (fun _ h => nomatch h) (fun h => nomatch h)
  refine hQ _ _ _ big9 (byteArr ns) ?zt F9 N9 G9 W9 bs (fun y h0 h1 h2 => by simp only [if_neg h0, if_neg h1, if_neg h2]) ?za
  case za => rfl

end
end Mine
namespace Mine
noncomputable section
open PySem PySem.W PySem.Calls PyProof.Rows
set_option maxRecDepth 100000
set_option maxHeartbeats 4000000
set_option linter.unusedVariables false
local macro_rules | `(tactic| walk_at "eval Name") => `(tactic| (k_dflt (refine' nameM ?F ?v ?_ ?a ?b ?c; (case F => k_asm); (case v => first | with_reducible assumption | rfl | assumption); (case a => rfl); (case b => rfl); (case c => decide))))
local macro_rules | `(tactic| walk_at "compareOp NotEq bytes bytes") => `(tactic| (k_dflt (refine ne_same ?_)))
local macro_rules | `(tactic| walk_at "compareOp Eq bytes bytes") => `(tactic| (k_dflt (refine eq_same ?_)))
local macro_rules | `(tactic| walk_at "FnAt") => `(tactic| (
  (with_reducible rename Fr _ _ _ _ => kF); (with_reducible rename News _ _ _ _ => kN); (with_reducible rename Seg _ _ _ _ => kG); (with_reducible rename LX _ _ _ _ _ _ _ _ _ _ _ => kW); (with_reducible rename Heap.Ns _ _ _ => kn);
  have kM := Seg.now kG kF (fun p hp => kN p (by first | exact hp | exact .tail _ hp | exact .tail _ (.tail _ hp) | exact .tail _ (.tail _ (.tail _ hp)) | exact .tail _ (.tail _ (.tail _ (.tail _ hp)))));
  have kV := LX.frame kW kn kM;
  (with_reducible first | exact LW.at1 (LX.now kV) | exact LW.at2 (LX.now kV) | exact LW.at0 (LX.now kV) | exact LW.at3 (LX.now kV) | exact LW.at4 (LX.now kV))))
local macro_rules | `(tactic| walk_at "callWith ref") => `(tactic| (
  (with_reducible rename Fr _ _ _ _ => kF); (with_reducible rename News _ _ _ _ => kN); (with_reducible rename Seg _ _ _ _ => kG); (with_reducible rename LX _ _ _ _ _ _ _ _ _ _ _ => kW); (with_reducible rename Heap.Ns _ _ _ => kn);
  have kM := Seg.now kG kF (fun p hp => kN p (by first | exact hp | exact .tail _ hp | exact .tail _ (.tail _ hp) | exact .tail _ (.tail _ (.tail _ hp)) | exact .tail _ (.tail _ (.tail _ (.tail _ hp)))));
  have kV := LX.frame kW kn kM;
  k_dflt (first | refine callWith_F (LW.at1 (LX.now kV)) ?_ | refine callWith_F (LW.at2 (LX.now kV)) ?_ | refine callWith_F (LW.at0 (LX.now kV)) ?_ | refine callWith_F (LW.at3 (LX.now kV)) ?_ | refine callWith_F (LW.at4 (LX.now kV)) ?_); clear kM kV))
local macro_rules | `(tactic| walk_at "callWith ref") => `(tactic| (
  (with_reducible rename Fr _ _ _ _ => kF); (with_reducible rename News _ _ _ _ => kN); (with_reducible rename Seg _ _ _ _ => kG); (with_reducible rename LX _ _ _ _ _ _ _ _ _ _ _ => kW); (with_reducible rename Heap.Ns _ _ _ => kn);
  have kM := Seg.now kG kF (fun p hp => kN p (by first | exact hp | exact .tail _ hp | exact .tail _ (.tail _ hp) | exact .tail _ (.tail _ (.tail _ hp)) | exact .tail _ (.tail _ (.tail _ (.tail _ hp)))));
  have kV := LX.frame kW kn kM;
  (first | (with_reducible refine callWith_F0 (LW.at1 (LX.now kV)) ?_) | (with_reducible refine callWith_F0 (LW.at2 (LX.now kV)) ?_)); (try dsimp only [List.nil_append, List.cons_append]); clear kM kV))
local macro_rules | `(tactic| walk_at "call ref") => `(tactic| (
  (with_reducible show wpAny _ _ (call (Value.ref 344) _) _ _ _);
  (with_reducible rename Fr _ _ _ _ => kF); (with_reducible rename News _ _ _ _ => kN); (with_reducible rename Frag.In _ _ => kX); (with_reducible rename Top _ _ _ _ _ _ => kT);
  k_dflt (
  refine' s_code (Frag.In.keeps kX (Fr.keep kF)) (Top.keeps kT (Fr.keep kF)) ?rm ?hh ?a ?b ?c ?d ?e ?f ?_; (case rm => (show _ + 1 + 1 < recursionLimit; omega)); (case hh => assumption); (case a => assumption); (case b => (first | assumption | omega | (simp only [Array.size_append, List.size_toArray, List.length_nil]; omega))); (case c => assumption); (case d => assumption); (case e => assumption); (case f => assumption));
  intro t9 h9 tk9 st9 sz9; have F9 := Fr.keeps kF st9; have N9 := News.keepsAll kN st9; clear kF kN))
local macro_rules | `(tactic| walk_at "call ref") => `(tactic| (
  (with_reducible show wpAny _ _ (call (Value.ref (Ad.f1 _)) _) _ _ _);
  (with_reducible rename Fr _ _ _ _ => kF); (with_reducible rename News _ _ _ _ => kN); (with_reducible rename Seg _ _ _ _ => kG); (with_reducible rename LX _ _ _ _ _ _ _ _ _ _ _ => kW); (with_reducible rename Heap.Ns _ _ _ => kn);
  have kM := Seg.now kG kF (fun p hp => kN p (by first | exact hp | exact .tail _ hp | exact .tail _ (.tail _ hp) | exact .tail _ (.tail _ (.tail _ hp)) | exact .tail _ (.tail _ (.tail _ (.tail _ hp)))));
  have kV := LX.frame kW kn kM;
  (with_reducible rename Frag.In _ _ => kX); (with_reducible rename Top _ _ _ _ _ _ => kT); (with_reducible rename Same _ _ _ _ => kS);
  k_dflt (
  refine' lx_fin1 kX kT kF ?rm ?hh kV ?s1 ?s2 ?sk kS ?w ?_; (case rm => (show _ + 1 + 6 < recursionLimit; omega)); (case hh => assumption); (case s1 => assumption); (case s2 => assumption); (case sk => assumption); (case w => first | assumption | decide | omega | (simp only [Array.size_append]; omega))); clear kM kV;
  intro t9 h9 tk9 big9 F9 N9 G9 W9; have n9 := Fr.ns F9; clear kF kN kG kW kn))
local macro_rules | `(tactic| walk_at "call ref") => `(tactic| (
  (with_reducible show wpAny _ _ (call (Value.ref (Ad.f2 _)) _) _ _ _);
  (with_reducible rename Fr _ _ _ _ => kF); (with_reducible rename News _ _ _ _ => kN); (with_reducible rename Seg _ _ _ _ => kG); (with_reducible rename LX _ _ _ _ _ _ _ _ _ _ _ => kW); (with_reducible rename Heap.Ns _ _ _ => kn);
  have kM := Seg.now kG kF (fun p hp => kN p (by first | exact hp | exact .tail _ hp | exact .tail _ (.tail _ hp) | exact .tail _ (.tail _ (.tail _ hp)) | exact .tail _ (.tail _ (.tail _ (.tail _ hp)))));
  have kV := LX.frame kW kn kM;
  (with_reducible rename Frag.In _ _ => kX); (with_reducible rename Top _ _ _ _ _ _ => kT); (with_reducible rename Same _ _ _ _ => kS);
  k_dflt (
  refine' lx_fin2 kX kT kF ?rm ?hh kV ?s1 ?s2 ?sk kS ?w ?_; (case rm => (show _ + 1 + 6 < recursionLimit; omega)); (case hh => assumption); (case s1 => assumption); (case s2 => assumption); (case sk => assumption); (case w => first | assumption | decide | omega | (simp only [Array.size_append]; omega))); clear kM kV;
  intro t9 h9 tk9 big9 F9 N9 G9 W9; have n9 := Fr.ns F9; clear kF kN kG kW kn))
local macro_rules | `(tactic| walk_at "call ref") => `(tactic| (
  (with_reducible show wpAny _ _ (call (Value.ref (Ad.fp _)) _) _ _ _);
  (with_reducible rename Fr _ _ _ _ => kF); (with_reducible rename News _ _ _ _ => kN); (with_reducible rename Seg _ _ _ _ => kG); (with_reducible rename LX _ _ _ _ _ _ _ _ _ _ _ => kW); (with_reducible rename Heap.Ns _ _ _ => kn);
  have kM := Seg.now kG kF (fun p hp => kN p (by first | exact hp | exact .tail _ hp | exact .tail _ (.tail _ hp) | exact .tail _ (.tail _ (.tail _ hp)) | exact .tail _ (.tail _ (.tail _ (.tail _ hp)))));
  have kV := LX.frame kW kn kM;
  (with_reducible rename Frag.In _ _ => kX); (with_reducible rename Top _ _ _ _ _ _ => kT); (with_reducible rename Same _ _ _ _ => kS);
  k_dflt (
  refine' lx_plain kX kT kF ?rm ?hh kV ?s1 ?s2 ?sk kS ?w ?_; (case rm => (show _ + 1 + 6 < recursionLimit; omega)); (case hh => assumption); (case s1 => assumption); (case s2 => assumption); (case sk => assumption); (case w => first | assumption | omega | (simp only [Array.size_append]; omega))); clear kM kV;
  intro t9 h9 tk9 big9 F9 N9 G9 W9; have n9 := Fr.ns F9; clear kF kN kG kW kn))
local macro_rules | `(tactic| walk_at "call ref") => `(tactic| (
  (with_reducible show wpAny _ _ (call (Value.ref (Ad.u1 _)) _) _ _ _);
  (with_reducible rename Fr _ _ _ _ => kF); (with_reducible rename News _ _ _ _ => kN); (with_reducible rename Seg _ _ _ _ => kG); (with_reducible rename LX _ _ _ _ _ _ _ _ _ _ _ => kW); (with_reducible rename Heap.Ns _ _ _ => kn);
  have kM := Seg.now kG kF (fun p hp => kN p (by first | exact hp | exact .tail _ hp | exact .tail _ (.tail _ hp) | exact .tail _ (.tail _ (.tail _ hp)) | exact .tail _ (.tail _ (.tail _ (.tail _ hp)))));
  have kV := LX.frame kW kn kM;
  (with_reducible rename Frag.In _ _ => kX); (with_reducible rename Top _ _ _ _ _ _ => kT); (with_reducible rename Same _ _ _ _ => kS);
  k_dflt (
  refine' lx_upd1 kX kT kF ?rm ?hh kV ?s1 ?s2 ?sk ?w ?b ?_; (case rm => (show _ + 1 + 6 < recursionLimit; omega)); (case hh => assumption); (case s1 => assumption); (case s2 => assumption); (case sk => assumption); (case w => first | assumption | decide | omega | (simp only [Array.size_append]; omega)); (case b => first | assumption | omega)); clear kM kV;
  intro h9 tk9 big9 F9 N9 G9 W9; have n9 := Fr.ns F9; clear kF kN kG kW kn))
local macro_rules | `(tactic| walk_at "call ref") => `(tactic| (
  (with_reducible show wpAny _ _ (call (Value.ref (Ad.u2 _)) _) _ _ _);
  (with_reducible rename Fr _ _ _ _ => kF); (with_reducible rename News _ _ _ _ => kN); (with_reducible rename Seg _ _ _ _ => kG); (with_reducible rename LX _ _ _ _ _ _ _ _ _ _ _ => kW); (with_reducible rename Heap.Ns _ _ _ => kn);
  have kM := Seg.now kG kF (fun p hp => kN p (by first | exact hp | exact .tail _ hp | exact .tail _ (.tail _ hp) | exact .tail _ (.tail _ (.tail _ hp)) | exact .tail _ (.tail _ (.tail _ (.tail _ hp)))));
  have kV := LX.frame kW kn kM;
  (with_reducible rename Frag.In _ _ => kX); (with_reducible rename Top _ _ _ _ _ _ => kT); (with_reducible rename Same _ _ _ _ => kS);
  k_dflt (
  refine' lx_upd2 kX kT kF ?rm ?hh kV ?s1 ?s2 ?sk ?w ?b ?_; (case rm => (show _ + 1 + 6 < recursionLimit; omega)); (case hh => assumption); (case s1 => assumption); (case s2 => assumption); (case sk => assumption); (case w => first | assumption | decide | omega | (simp only [Array.size_append]; omega)); (case b => first | assumption | omega)); clear kM kV;
  intro h9 tk9 big9 F9 N9 G9 W9; have n9 := Fr.ns F9; clear kF kN kG kW kn))
theorem pick_le {b : Array UInt8} {n : Nat} {lo hi : Option Int} (h : b.size ≤ n) : (KBy.picked b lo hi).size ≤ n := Nat.le_trans (KBc.size_picked_le b lo hi) h
theorem pick_hz {b : Array UInt8} (h : b.size ≤ 60) : (KBw.bInts b).length ≤ 16777216 := by rw [KBw.ints_length]; omega
theorem sz0 : (#[] : Array UInt8).size ≤ 100 := by decide
local macro_rules | `(tactic| walk_at "subscriptTail Name Slice bytes ref") => `(tactic| (
  (with_reducible rename Fr _ _ _ _ => kF); (with_reducible rename News _ _ _ _ => kN);
  k_dflt (refine KBc.slice_K (s := ⟨_, _, _, _, _⟩) kF kN rfl (by constructor) (by constructor) (pick_hz (by assumption)) ?_; intro h9 t9 k9 F9 N9 b9; clear kF kN b9)))
local macro_rules | `(tactic| walk_at "call ref") => `(tactic| (
  (with_reducible show wpAny _ _ (call (Value.ref (Ad.u2 _)) _) _ _ _);
  (with_reducible rename Fr _ _ _ _ => kF); (with_reducible rename News _ _ _ _ => kN); (with_reducible rename Seg _ _ _ _ => kG); (with_reducible rename LX _ _ _ _ _ _ _ _ _ _ _ => kW); (with_reducible rename Heap.Ns _ _ _ => kn);
  have kM := Seg.now kG kF (fun p hp => kN p (by first | exact hp | exact .tail _ hp | exact .tail _ (.tail _ hp) | exact .tail _ (.tail _ (.tail _ hp)) | exact .tail _ (.tail _ (.tail _ (.tail _ hp)))));
  have kV := LX.frame kW kn kM;
  (with_reducible rename Frag.In _ _ => kX); (with_reducible rename Top _ _ _ _ _ _ => kT); (with_reducible rename Same _ _ _ _ => kS);
  k_dflt (
  refine' lx_upd2 kX kT kF ?rm ?hh kV ?s1 ?s2 ?sk ?w ?b ?_; (case rm => (show _ + 1 + 6 < recursionLimit; omega)); (case hh => assumption); (case s1 => assumption); (case s2 => assumption); (case sk => assumption); (case w => exact sz0); (case b => first | assumption | omega)); clear kM kV;
  intro h9 tk9 big9 F9 N9 G9 W9; (try rw [Array.empty_append] at W9); have n9 := Fr.ns F9; clear kF kN kG kW kn))
theorem l_end {w : World} {A : Around} {s : Shared} {mg mb m : Str → Option Value} {mean : ExcName → Option Value} {base : Heap} {L cN cS : Addr} {big : List (Addr × Obj)}
    (KX : (KK w.params).In base) (KT : Top topProg l0 mean mg mb base) (F : Fr base L s.heap m) (N : News base L s.heap big) (G : Seg base L s.heap big) {h₀ : Heap} {C : List Addr} {a : Ad} {size block : Nat} {key kk w1 : Array UInt8} {t1 t2 t3 tw : Tok} {Q : Flow → Shared → Prop} (hd : A.depth + 8 < recursionLimit) (hh : A.handled = none) (hs1 : 1 ≤ size) (hs2 : size ≤ 20) (hsb : size ≤ block) (hb : block ≤ 32) (hkk : kk.size ≤ 40) (hkey : key.size ≤ 80) (sm : Same key kk size block) (hw1 : w1.size ≤ 60)
    (hm1 : m "finalize" = some (.ref a.f1)) (hm2 : m "key" = some (.bytes key t1)) (hm3 : m "size" = some (.int size t2)) (hm4 : m "block" = some (.int block t3)) (hm5 : m "later" = some (.ref a.u2)) (hm6 : m "plain" = some (.ref a.fp)) (hm7 : m "whole" = some (.bytes w1 tw)) (hm8 : m "ending" = some (.ref a.f2)) (W : LX base h₀ L s.heap C a size block kk w1 #[])
    (hQ : ∀ m' h' tk big' w1' w2', Fr base L h' m' → News base L h' big' → Seg base L h' big' → LX base h₀ L h' C a size block kk w1' w2' → Q (.ret (.bool true)) { s with heap := h', toks := tk }) :
    wpAny (model pw w) (A.deeper (envX "law" (fScope (fS 26)) L 349 (.ref 348) [("number", cN), ("second", cS)])) (execs (List.drop 13 (fBody (fS 26))) (envX "law" (fScope (fS 26)) L 349 (.ref 348) [("number", cN), ("second", cS)])) Q (fun _ _ => False) s := by
  have hfill : KK w.params = KK w.params ∧ PySem.Challenge.rw_aj5027_01 = PySem.Challenge.rw_aj5027_01 := by
    k_fill
    exact ⟨rfl, rfl⟩
  clear hfill
  show wpAny _ _ (execs [_, _, _] _) _ _ _
  have m0 := F.ns
  have hp : (KBy.picked w1 (some 1) none).size ≤ 60 := pick_le hw1
  have hh2 : (A.deeper (envX "law" (fScope (fS 26)) L 349 (.ref 348) [("number", cN), ("second", cS)])).handled = none := hh
  k_steps
  all_goals first | exact hQ _ _ _ _ _ _ (by assumption) (by assumption) (by assumption) (by assumption) | w_report

end
end Mine
namespace Mine
noncomputable section
open PySem PySem.W PySem.Calls PyProof.Rows
set_option maxRecDepth 100000
set_option maxHeartbeats 4000000
set_option linter.unusedVariables false
local macro_rules | `(tactic| walk_at "no such stop") => `(tactic| skip)
local macro_rules | `(tactic| walk_at "no such stop") => `(tactic| skip)
local macro_rules | `(tactic| walk_at "no such stop") => `(tactic| skip)
local macro_rules | `(tactic| walk_at "no such stop") => `(tactic| skip)
local macro_rules | `(tactic| walk_at "no such stop") => `(tactic| skip)
local macro_rules | `(tactic| walk_at "no such stop") => `(tactic| skip)
local macro_rules | `(tactic| walk_at "no such stop") => `(tactic| skip)
local macro_rules | `(tactic| walk_at "no such stop") => `(tactic| skip)
local macro_rules | `(tactic| walk_at "no such stop") => `(tactic| skip)
local macro_rules | `(tactic| walk_at "no such stop") => `(tactic| skip)
local macro_rules | `(tactic| walk_at "no such stop") => `(tactic| skip)
local macro_rules | `(tactic| walk_at "no such stop") => `(tactic| skip)
local macro_rules | `(tactic| walk_at "no such stop") => `(tactic| skip)
local macro_rules | `(tactic| walk_at "no such stop") => `(tactic| skip)
local macro_rules | `(tactic| walk_at "no such stop") => `(tactic| skip)
def forIter : Stmt → PySem.Expr | .For _ i _ _ _ => i | _ => .Name "" default
local macro_rules | `(tactic| walk_at "eval Name") => `(tactic| (k_dflt (refine' nameM ?F ?v ?_ ?a ?b ?c; (case F => k_asm); (case v => first | with_reducible assumption | rfl | assumption); (case a => rfl); (case b => rfl); (case c => decide))))
theorem l_iter {w : World} {A : Around} {s : Shared} {mg mb m : Str → Option Value} {mean : ExcName → Option Value} {base : Heap} {L cN cS : Addr} {big : List (Addr × Obj)}
    (KX : (KK w.params).In base) (KT : Top topProg l0 mean mg mb base) (F : Fr base L s.heap m) (N : News base L s.heap big) (G : Seg base L s.heap big) {l : Addr} {vs : List Value} {ns : List Int} {Q : Value → Shared → Prop} (hh : A.handled = none) (hm1 : m "script" = some (.ref l)) (hl : s.heap.IsList l vs.toArray) (hi : IntsAre vs ns) (hn : ns.length ≤ 63)
    (hQ : ∀ ws ms h' tk D big', IntsAre ws ms → ms.length ≤ 8 → h'.IsList D ws.toArray → base.get? D = none → (∀ b o, s.heap.get? b = some o → b ≠ D) → Fr base L h' m → News base L h' big' → Seg base L h' big' → But [L] s.heap h' → Q (.ref D) { s with heap := h', toks := tk }) :
    wpAny (model pw w) (A.deeper (envX "law" (fScope (fS 26)) L 349 (.ref 348) [("number", cN), ("second", cS)])) (eval (forIter (stAt (fBody (fS 26)) 12)) (envX "law" (fScope (fS 26)) L 349 (.ref 348) [("number", cN), ("second", cS)])) Q (fun _ _ => False) s := by
  have hfill : KK w.params = KK w.params ∧ PySem.Challenge.rw_aj5027_01 = PySem.Challenge.rw_aj5027_01 := by
    k_fill
    exact ⟨rfl, rfl⟩
  clear hfill
  show wpAny _ _ (eval (.Subscript _ _ _) _) _ _ _
  have m0 := F.ns
  have hh2 : (A.deeper (envX "law" (fScope (fS 26)) L 349 (.ref 348) [("number", cN), ("second", cS)])).handled = none := hh
  k_steps
  rename Fr _ _ _ _ => F9
  rename News _ _ _ _ => N9
  rename IntsAre _ _ => I9
  rename List.length _ = _ => c9
  rename ∀ _ _, _ => l9
  have M9 := Seg.now G F9 (fun p hp => N9 p (.tail _ hp))
  obtain ⟨big9, F8, N8, G8⟩ := seg (S := []) F9 But.refl (fun _ h => nomatch h) (fun h => nomatch h)
  refine hQ _ _ _ _ _ big9 I9 (by omega) (News.isList N9 (.head _)) (N9 _ (.head _)).2.2 (fun b o e q => ?_) F8 N8 G8 M9
  subst q
  rcases G b o e (N9 _ (.head _)).2.1 with e | e
  · rw [(N9 _ (.head _)).2.2] at e; cases e
  · exact Nat.lt_irrefl _ (l9 _ e)

end
end Mine
namespace Mine
noncomputable section
open PySem PySem.W PySem.Calls PyProof.Rows
set_option maxRecDepth 100000
set_option maxHeartbeats 4000000
set_option linter.unusedVariables false
theorem ints_at : ∀ {ws : List Value} {ms : List Int}, IntsAre ws ms → ∀ {i : Nat} {v : Value}, ws[i]? = some v → ∃ k t, v = .int k t
  | _, _, .nil, i, v, e => by simp at e
  | _, _, .cons k t r, 0, v, e => ⟨k, t, by simpa using e.symm⟩
  | _, _, .cons k t r, i + 1, v, e => ints_at r (i := i) (by simpa using e)
theorem LX.even {base h₀ h : Heap} {L : Addr} {C : List Addr} {a : Ad} {size block : Nat} {kk w1 w2 : Array UInt8} {m : Str → Option Value} (x : LX base h₀ L h C a size block kk w1 w2) (n : h.Ns L m) : ∀ b ∈ [L, a.P, a.l1, a.l2], ∃ o, h.get? b = some o ∧ ¬ odd o := fun b hb => by
  rcases List.mem_cons.mp hb with rfl | hb
  · exact ns_even n _ (.head _)
  rcases List.mem_cons.mp hb with rfl | hb
  · exact con_even x.now.K _ (.head _)
  rcases List.mem_cons.mp hb with rfl | hb
  · exact lst_even x.now.Ha1.lst _ (.head _)
  · exact lst_even x.now.Ha2.lst _ hb
theorem LX.nin {base h₀ h : Heap} {L : Addr} {C : List Addr} {a : Ad} {size block : Nat} {kk w1 w2 : Array UInt8} {m : Str → Option Value} (x : LX base h₀ L h C a size block kk w1 w2) (n : h.Ns L m) {c : Addr} (hc : c ∈ C) : c ∉ [L, a.P, a.l1, a.l2] := fun q => by
  obtain ⟨o, e, d⟩ := x.even n c q
  exact x.od.nin e d hc
def lNs (m m' : Str → Option Value) : Prop := ∀ y : Str, y ≠ "part" → y ≠ "whole" → y ≠ "due" → m' y = m y
theorem l_loop {w : World} {A : Around} {s : Shared} {mg mb m : Str → Option Value} {mean : ExcName → Option Value} {base : Heap} {L cN cS : Addr} {big : List (Addr × Obj)}
    (KX : (KK w.params).In base) (KT : Top topProg l0 mean mg mb base) (F : Fr base L s.heap m) (N : News base L s.heap big) (G : Seg base L s.heap big) {h₀ : Heap} {a : Ad} {size block : Nat} {key kk : Array UInt8} {t1 t2 t3 tw : Tok} {l : Addr} {vs : List Value} {ns : List Int} {Q : Flow → Shared → Prop} (hd : A.depth + 8 < recursionLimit) (hh : A.handled = none) (hs1 : 1 ≤ size) (hs2 : size ≤ 20) (hsb : size ≤ block) (hb : block ≤ 32) (hkk : kk.size ≤ 40) (hkey : key.size ≤ 80) (sm : Same key kk size block)
    (hm0 : m "script" = some (.ref l)) (hm1 : m "finalize" = some (.ref a.f1)) (hm2 : m "key" = some (.bytes key t1)) (hm3 : m "size" = some (.int size t2)) (hm4 : m "block" = some (.int block t3)) (hm5 : m "update" = some (.ref a.u1)) (hm6 : m "plain" = some (.ref a.fp)) (hm7 : m "whole" = some (.bytes #[] tw))
    (hl : base.IsList l vs.toArray) (hi : IntsAre vs ns) (hn : ns.length ≤ 63) (hcb : base.get? cN = none) (hc : ∃ v, s.heap.IsCell cN v) (W : LX base h₀ L s.heap [cN] a size block kk #[] #[])
    (hQ : ∀ m' h' tk big' w1 t, Fr base L h' m' → News base L h' big' → Seg base L h' big' → But [L, a.P, a.l1, a.l2, cN] s.heap h' → LX base h' L h' [cN] a size block kk w1 #[] → w1.size ≤ 60 → lNs m m' → m' "whole" = some (.bytes w1 t) → Q .next { s with heap := h', toks := tk }) :
    wpAny (model pw w) (A.deeper (envX "law" (fScope (fS 26)) L 349 (.ref 348) [("number", cN), ("second", cS)])) (execs (List.take 1 (List.drop 12 (fBody (fS 26)))) (envX "law" (fScope (fS 26)) L 349 (.ref 348) [("number", cN), ("second", cS)])) Q (fun _ _ => False) s := by
  have m0 := F.ns
  have hh2 : (A.deeper (envX "law" (fScope (fS 26)) L 349 (.ref 348) [("number", cN), ("second", cS)])).handled = none := hh
  have five : ∀ b ∈ [L, a.P, a.l1, a.l2, cN], ∃ o, s.heap.get? b = some o := fun b hb => by
    rcases List.mem_append.mp (show b ∈ [L, a.P, a.l1, a.l2] ++ [cN] from hb) with hb | hb
    · obtain ⟨o, e, _⟩ := W.even m0 b hb; exact ⟨o, e⟩
    · obtain ⟨v, o, e, _⟩ := hc; exact ⟨o, List.mem_singleton.mp hb ▸ e⟩
  show wpAny _ _ (execs [.For (.Name "number" _) (forIter (stAt (fBody (fS 26)) 12)) lBody [] _] _) _ _ _
  refine wpAny_execs_cons (wpAny_For (l_iter KX KT F N G hh hm0 (kstays_list hl F.keep) hi hn (fun ws ms h1 tk1 D big1 I1 ln1 D1 Db nD F1 N1 G1 M1 => ?_)) (fun _ => rfl))
  refine wpAny_pyIter_list (s := { s with heap := h1, toks := tk1 }) D1 ?_
  dsimp only
  have hlen : ws.length ≤ 8 := by rw [PyProof.Rows.IntsAre.length I1]; exact ln1
  have hP : ∀ o, h1.StaysIn (h1.push o) := fun o b o' e => Heap.get?_push_of_some _ e
  have nI : ∀ b o, h1.get? b = some o → b ≠ h1.objs.size := fun b o e => Nat.ne_of_lt (Heap.lt_size e)
  have nI0 : ∀ b o, s.heap.get? b = some o → b ≠ h1.objs.size := fun b o e => by
    by_cases q : b = L
    · obtain ⟨oL, es, ep, eL, _⟩ := F1.ns
      exact q ▸ nI _ _ eL
    · exact nI _ _ (M1 _ _ e (fun z => q (List.mem_singleton.mp z)))
  have DI : D ≠ h1.objs.size := by obtain ⟨o, e, _⟩ := D1; exact nI _ _ e
  have bI : base.get? h1.objs.size = none := by
    cases q : base.get? h1.objs.size with
    | none => rfl
    | some o => exact absurd rfl (nI _ _ (F1.keep _ _ q))
  have LI : L ≠ h1.objs.size := by obtain ⟨oL, es, ep, eL, _⟩ := F1.ns; exact nI _ _ eL
  obtain ⟨vc, kc⟩ := hc
  have cL : cN ∉ [L] := cell_nf m0 kc
  have kc1 := isCell_but1 kc M1 cL
  have cI : cN ≠ h1.objs.size := by obtain ⟨o, e, _⟩ := kc1; exact nI _ _ e
  have DcN : D ≠ cN := fun q => by obtain ⟨o, e, _⟩ := kc; exact nD _ _ e q.symm
  have W1 := W.frame m0 M1
  have it0 : (h1.push { cls := .type "list_iterator", data := .fields #[.ref D, .int 0 0] }).IsListIter h1.objs.size D 0 := ⟨_, Heap.get?_push_size _ rfl, rfl, rfl⟩
  revert it0
  generalize hI : h1.objs.size = I at *
  generalize hH : h1.push { cls := .type "list_iterator", data := .fields #[.ref D, .int 0 0] } = H
  intro it0
  have hPH : h1.StaysIn H := hH ▸ hP _
  have odds : ∀ h' v i, h'.IsCell cN v → h'.IsListIter I D i → Odds h' [cN, I] := fun h' v i k x c hc => by
    rcases List.mem_cons.mp hc with rfl | hc
    · obtain ⟨o, e, d⟩ := k; exact ⟨o, e, .inl ⟨_, d⟩⟩
    · obtain ⟨o, e, c1, d⟩ := x; exact ⟨o, List.mem_singleton.mp hc ▸ e, .inr ⟨⟨_, d⟩, c1⟩⟩
  have kH := isCell_but1 kc1 (But.of_stays (S := []) hPH) (fun q => nomatch q)
  have WH : LX base H L H [cN, I] a size block kk #[] #[] := ⟨W1.w.stays (fun b o e => hideAll_get _ (hPH _ _ (of_hideAll _ e)) (fun q => by
    rcases List.mem_cons.mp q with q | q
    · exact hid_ne e (q ▸ .head _)
    · exact nI _ _ (of_hideAll _ e) (List.mem_singleton.mp q))), odds _ _ _ kH it0, But.refl⟩
  obtain ⟨_, FH, _, _⟩ := seg (S := []) F1 (But.of_stays hPH) (fun _ q => nomatch q) (fun q => nomatch q)
  have MH : But [L, a.P, a.l1, a.l2, cN, I] s.heap H := fun b o e hb => hPH _ _ (M1 _ _ e (fun q => hb (List.mem_singleton.mp q ▸ .head _)))
  refine codeAny_forLoop (fun n s' => ∃ h' tk m' w1 t i v, s' = { s with heap := h', toks := tk } ∧ Fr base L h' m' ∧ LX base h' L h' [cN, I] a size block kk w1 #[] ∧ w1.size ≤ 6 * i ∧ m' "whole" = some (.bytes w1 t) ∧ lNs m m' ∧ h'.IsListIter I D i ∧ h'.IsList D ws.toArray ∧ h'.IsCell cN v ∧ But [L, a.P, a.l1, a.l2, cN, I] s.heap h' ∧ i ≤ ws.length ∧ n = ws.length + 1 - i) ?_ (ws.length + 1)
    ⟨H, _, m, #[], tw, 0, _, rfl, FH, WH, Nat.le_refl _, hm7, fun _ _ _ _ => rfl, it0, kstays_list D1 hPH, kH, MH, Nat.zero_le _, rfl⟩
  rintro n s' ⟨h', tk, m', w1, t, i, v, rfl, F', W', hw, hw7, lm, it', D', k', M', hi', rfl⟩
  cases hv : ws.toArray[i]? with
  | none =>
    refine wpAny_pyNext_list_end hh2 it' D' hv fun h3 e3 => wpAny_execs_nil ?_
    dsimp only
    refine wpAny_execs_nil ?_
    have M3 : But [I] h' h3 := fun b o e hb => e3 b o (fun q => hb (List.mem_singleton.mpr q)) e
    obtain ⟨big3, F3, N3, G3⟩ := seg F' M3 (fun a ha => List.mem_singleton.mp ha ▸ bI) (fun q => LI (List.mem_singleton.mp q))
    have k3 := isCell_but1 k' M3 (fun q => cI (List.mem_singleton.mp q))
    refine hQ m' h3 _ big3 w1 t F3 N3 G3 (fun b o e hb => M3 _ _ (M' _ _ e (fun q => ?_)) (fun q => nI0 _ _ e (List.mem_singleton.mp q))) ⟨W'.w.stays (fun b o e => hideAll_get _ (M3 _ _ (of_hideAll _ e) (fun q => hid_ne e (List.mem_singleton.mp q ▸ .tail _ (.head _)))) (fun q => hid_ne e (List.mem_singleton.mp q ▸ .head _))), fun c hc => ?_, But.refl⟩ (by omega) lm hw7
    · rcases List.mem_append.mp (show b ∈ [L, a.P, a.l1, a.l2, cN] ++ [I] from q) with q | q
      · exact hb q
      · exact nI0 _ _ e (List.mem_singleton.mp q)
    · obtain ⟨o, e, d⟩ := k3; exact ⟨o, List.mem_singleton.mp hc ▸ e, .inl ⟨_, d⟩⟩
  | some v0 =>
    obtain ⟨k0, t0, rfl⟩ := ints_at I1 (i := i) (by simpa using hv)
    have hlt : i < ws.length := by have := (Array.getElem?_eq_some_iff.mp hv).1; simpa using this
    refine wpAny_pyNext_list_item it' D' hv fun h3 it3 s3 => ?_
    have M3 : But [I] h' h3 := fun b o e hb => (s3.2 b (fun q => hb (List.mem_singleton.mpr q))).trans e
    have k3 := isCell_but1 k' M3 (fun q => cI (List.mem_singleton.mp q))
    refine wpAny_assign_Name (wpAny_storeName_cell rfl rfl rfl k3 fun h4 k4 s4 => ?_)
    have M4 : But [cN] h3 h4 := fun b o e hb => (s4.2 b (fun q => hb (List.mem_singleton.mpr q))).trans e
    have M34 : But [I, cN] h' h4 := fun b o e hb => M4 _ _ (M3 _ _ e (fun q => hb (List.mem_singleton.mp q ▸ .head _))) (fun q => hb (List.mem_singleton.mp q ▸ .tail _ (.head _)))
    have it4 : h4.IsListIter I D (i + 1) := by obtain ⟨o, e, r⟩ := it3; exact ⟨o, M4 _ _ e (fun q => cI (List.mem_singleton.mp q).symm), r⟩
    have D4 : h4.IsList D ws.toArray := by
      obtain ⟨o, e, r⟩ := D'
      exact ⟨o, M34 _ _ e (fun q => by
        rcases List.mem_cons.mp q with q | q
        · exact DI q
        · exact DcN (List.mem_singleton.mp q)), r⟩
    obtain ⟨big4, F4, N4, G4⟩ := seg F' M34 (fun a ha => by
        rcases List.mem_cons.mp ha with rfl | ha
        · exact bI
        · exact List.mem_singleton.mp ha ▸ hcb) (fun q => by
        rcases List.mem_cons.mp q with q | q
        · exact LI q
        · exact cL (List.mem_singleton.mpr (List.mem_singleton.mp q).symm))
    have W4 := W'.set M34 (fun b hb => by
        rcases List.mem_cons.mp hb with rfl | hb
        · exact .tail _ (.head _)
        · exact List.mem_singleton.mp hb ▸ .head _) (odds _ _ _ k4 it4)
    have nm : ∀ y : Str, y ≠ "part" → y ≠ "whole" → y ≠ "due" → m' y = m y := lm
    refine wpAny_noRaise (l_body (s := { s with heap := h4, toks := _ }) KX KT F4 N4 G4 hd hh hs1 hs2 hsb hb hkk hkey sm (by omega) ((nm _ (by decide) (by decide) (by decide)).trans hm1) ((nm _ (by decide) (by decide) (by decide)).trans hm2) ((nm _ (by decide) (by decide) (by decide)).trans hm3) ((nm _ (by decide) (by decide) (by decide)).trans hm4) ((nm _ (by decide) (by decide) (by decide)).trans hm5) ((nm _ (by decide) (by decide) (by decide)).trans hm6) hw7 hcb k4 W4 fun m5 h5 tk5 big5 b t5 F5 N5 G5 W5 sb lm5 e5 => ?_)
    have B5 := W5.bt
    have c5 := W4.nin F4.ns (c := cN) (.head _)
    have i5 := W4.nin F4.ns (c := I) (.tail _ (.head _))
    have d5 : D ∉ [L, a.P, a.l1, a.l2] := fun q => by
      obtain ⟨o, e⟩ := five D (List.mem_append.mpr (.inl q) : D ∈ [L, a.P, a.l1, a.l2] ++ [cN])
      exact nD _ _ e rfl
    have k5 := isCell_but1 k4 B5 c5
    have it5 : h5.IsListIter I D (i + 1) := by obtain ⟨o, e, r⟩ := it4; exact ⟨o, B5 _ _ e i5, r⟩
    have D5 : h5.IsList D ws.toArray := by obtain ⟨o, e, r⟩ := D4; exact ⟨o, B5 _ _ e d5, r⟩
    refine ⟨ws.length + 1 - (i + 1), by omega, h5, tk5, m5, _, t5, i + 1, _, rfl, F5, W5.set (S := []) But.refl (fun _ q => nomatch q) W5.od, by rw [Array.size_append]; omega, e5, fun y a1 a2 a3 => (lm5 y a1 a2 a3).trans (lm y a1 a2 a3), it5, D5, k5, ?_, hlt, rfl⟩
    intro b o e hb
    refine B5 _ _ (M34 _ _ (M' _ _ e hb) (fun q => hb ?_)) (fun q => hb (List.mem_append.mpr (.inl q) : b ∈ [L, a.P, a.l1, a.l2] ++ [cN, I]))
    rcases List.mem_cons.mp q with rfl | q
    · exact (List.mem_append.mpr (.inr (.tail _ (.head _))) : b ∈ [L, a.P, a.l1, a.l2] ++ [cN, b])
    · exact (List.mem_append.mpr (.inr (List.mem_singleton.mp q ▸ .head _)) : b ∈ [L, a.P, a.l1, a.l2] ++ [cN, I])

end
end Mine
namespace Mine
noncomputable section
open PySem PySem.W PySem.Calls PyProof.Rows
set_option maxRecDepth 100000
set_option maxHeartbeats 4000000
set_option linter.unusedVariables false
theorem xorL_get (k : Nat) : ∀ n i j (d : UInt8), j < n → (xorL k i n).getD j d = Nat.toUInt8 ((i + j) ^^^ k)
  | 0, i, j, d, h => absurd h (Nat.not_lt_zero _)
  | n + 1, i, 0, d, h => rfl
  | n + 1, i, j + 1, d, h => by
    show (xorL k (i + 1) n).getD j d = _
    rw [xorL_get k n (i + 1) j d (Nat.lt_of_succ_lt_succ h), show i + 1 + j = i + (j + 1) by omega]
theorem xor_oct : ∀ x : Fin 256, (Builtin.bitXor (x.val : Int) 54).toNat = x.val ^^^ 54 ∧ (Builtin.bitXor (x.val : Int) 92).toNat = x.val ^^^ 92 := by decide +kernel
theorem oct_same {c : Nat} (hc : c = 54 ∨ c = 92) (x : UInt8) : (xorTab c 256).getD x.toNat x = (Builtin.bitXor (x.toNat : Int) (c : Int)).toNat.toUInt8 := by
  have h := xor_oct ⟨x.toNat, x.toNat_lt⟩
  have e : (xorTab c 256).getD x.toNat x = (xorL c 0 256).getD x.toNat x := by
    unfold xorTab
    simp [Array.getD_eq_getD_getElem?, List.getD_eq_getElem?_getD]
  rw [e, xorL_get c 256 0 x.toNat x x.toNat_lt, Nat.zero_add]
  rcases hc with rfl | rfl
  · rw [show ((54 : Nat) : Int) = 54 from rfl, h.1]
  · rw [show ((92 : Nat) : Int) = 92 from rfl, h.2]
theorem pad_same {c : Nat} (hc : c = 54 ∨ c = 92) (k : Array UInt8) (size block : Nat) : xorA (padK k size block) c = padX (cutK k size block) block c := by
  unfold xorA trans padX padK byteArr
  apply Array.toList_inj.mp
  have e : padI (cutK k size block) block = intsB (cutK k size block ++ Array.replicate (block - (cutK k size block).size) 0) := by
    unfold padI intsB
    simp
  rw [e]
  unfold intsB
  simp only [Array.toList_map, List.map_map]
  refine List.map_congr_left fun x _ => ?_
  exact oct_same hc x
theorem same_padK (k : Array UInt8) (size block : Nat) : Same k (padK k size block) size block := fun w => by
  rw [pad_same (.inr rfl), pad_same (.inl rfl)]
  rfl
theorem padK_size {k : Array UInt8} {size block : Nat} (h : size ≤ block) : (padK k size block).size = block := by
  unfold padK
  have h2 : (cutK k size block).size ≤ block := by
    unfold cutK
    split
    · rw [lawSum_size]; exact h
    · omega
  rw [Array.size_append, Array.size_replicate]
  omega
end
end Mine
namespace Mine
noncomputable section
open PySem PySem.W PySem.Calls PyProof.Rows
set_option maxRecDepth 100000
set_option maxHeartbeats 4000000
set_option linter.unusedVariables false

theorem fn349 {P : Params} {h : Heap} (X : (KK P).In h) : FnO h 349 (fS 26) "law" [] .none (.ref 348) := fnK X (doc := .none) (pm := .str ("law_aj5027_01" : Str) 2694) (ct := .none) (oc := .type "function") (an := none) (od := none) (sl := #[]) (od2 := none) (sl2 := #[]) (vs := match (o348 P).data with | .fields v => v | _ => #[]) (t := 2738) (by kernel_rfl) (by kernel_rfl) (by kernel_rfl)
theorem sizes_ok (n : Int) : 1 ≤ (sizesOf n).1 ∧ (sizesOf n).1 ≤ 20 ∧ (sizesOf n).1 ≤ (sizesOf n).2 ∧ 16 ≤ (sizesOf n).2 ∧ (sizesOf n).2 ≤ 32 := by
  unfold sizesOf
  split
  · decide
  split
  · decide
  split
  · decide
  · decide
theorem LW.hid {base h : Heap} {L cN : Addr} {a : Ad} {size block : Nat} {kk w1 w2 : Array UInt8} (x : LW base h a size block kk w1 w2) (k : h.IsCell cN none) : LX base h L h [cN] a size block kk w1 w2 := by
  have M : But [cN] h (hideAll h [cN]) := fun b o e hb => hideAll_get _ e hb
  have hc : ∀ o, h.get? cN = some o → o.data = .cell none := fun o e => by
    obtain ⟨o', e', d⟩ := k
    rw [e] at e'; cases e'; exact d
  refine ⟨x.but M (fun b hb o e => ?_) (fun q => ?_) (fun l b I q => ?_) (fun t ps e _ q => ?_), fun c hm => ?_, But.refl⟩
  · cases List.mem_singleton.mp hb
    unfold fixK; rw [hc o e]
  · obtain ⟨_, _, _, _, _, _, _, _, _, _, _, ⟨_, _, ps, e, _⟩, _⟩ := x.K
    have d := hc _ (List.mem_singleton.mp q ▸ e)
    cases d
  · obtain ⟨_, _, _, o, e, _, _, d⟩ := I
    rw [hc o (List.mem_singleton.mp q ▸ e)] at d; cases d
  · have d := hc _ (List.mem_singleton.mp q ▸ e)
    cases d
  · obtain ⟨o, e, d⟩ := k
    exact ⟨o, List.mem_singleton.mp hm ▸ e, .inl ⟨_, d⟩⟩
theorem cell_ntab {h : Heap} {c t : Addr} {v : Option Value} {ps : Array Value} (k : h.IsCell c v) (e : h.get? t = some (tabObj ps)) : c ≠ t := fun q => by
  obtain ⟨o, e', d⟩ := k
  rw [q, e] at e'; cases e'; cases d
theorem con_tab {h : Heap} {c P : Addr} {size block : Nat} (K : ConstO h c P size block) : ∃ ps, h.get? P = some (tabObj ps) := by
  obtain ⟨_, _, _, _, _, _, _, _, _, _, _, ⟨_, _, ps, e, _⟩, _⟩ := K
  exact ⟨ps, e⟩
theorem tabI_tab {h : Heap} {P : Addr} {sp : List (Pos × Str)} (K : TabI h P sp) : ∃ ps, h.get? P = some (tabObj ps) := let ⟨_, _, ps, e, _⟩ := K; ⟨ps, e⟩
theorem l_rest {w : World} {A : Around} {s : Shared} {mg mb m : Str → Option Value} {mean : ExcName → Option Value} {base : Heap} {L cN cS : Addr} {big : List (Addr × Obj)}
    (KX : (KK w.params).In base) (KT : Top topProg l0 mean mg mb base) (F : Fr base L s.heap m) (N : News base L s.heap big) (G : Seg base L s.heap big) {c P fp icp ocp lIp lOp fm c1 Pm icm ocm lIm lOm : Addr} {cdp : Value} {size block : Nat} {key kk : Array UInt8} {t1 t2 t3 : Tok} {l : Addr} {vs : List Value} {ns : List Int} {Q : Flow → Shared → Prop} (hd : A.depth + 8 < recursionLimit) (hh : A.handled = none) (hs1 : 1 ≤ size) (hs2 : size ≤ 20) (hsb : size ≤ block) (hb16 : 16 ≤ block) (hb : block ≤ 32) (hkk : kk.size ≤ 40) (hkey : key.size ≤ 80) (sm : Same key kk size block)
    (hm0 : m "script" = some (.ref l)) (hm1 : m "parted" = some (.ref fm)) (hm2 : m "key" = some (.bytes key t1)) (hm3 : m "size" = some (.int size t2)) (hm4 : m "block" = some (.int block t3)) (hm6 : m "plain" = some (.ref fp))
    (hl : base.IsList l vs.toArray) (hi : IntsAre vs ns) (hn : ns.length ≤ 63) (hcb : base.get? cN = none) (kN : s.heap.IsCell cN none)
    (x : LM s.heap c P fp icp ocp lIp lOp fm c1 Pm icm ocm lIm lOm cdp size block kk) (hP : P ≠ 183 ∧ P ≠ 327) (hPM : P ≠ Pm) (hM : 349 < Pm) (hPb : base.get? P = none) (hMb : base.get? Pm = none)
    (hQ : ∀ h' tk, base.StaysIn h' → (∃ ps, h'.get? 183 = some (tabObj ps)) → (∃ ps, h'.get? 327 = some (tabObj ps)) → Q (.ret (.bool true)) { s with heap := h', toks := tk }) :
    wpAny (model pw w) (A.deeper (envX "law" (fScope (fS 26)) L 349 (.ref 348) [("number", cN), ("second", cS)])) (execs (List.drop 8 (fBody (fS 26))) (envX "law" (fScope (fS 26)) L 349 (.ref 348) [("number", cN), ("second", cS)])) Q (fun _ _ => False) s := by
  show wpAny _ _ (execs (List.take 2 (List.drop 8 (fBody (fS 26))) ++ (List.take 2 (List.drop 10 (fBody (fS 26))) ++ (List.take 1 (List.drop 12 (fBody (fS 26))) ++ List.drop 13 (fBody (fS 26))))) _) _ _ _
  have m0 := F.ns
  obtain ⟨ps1, eP⟩ := con_tab x.K
  obtain ⟨ps2, eM⟩ := tabI_tab x.TB
  have cL := cell_nf m0 kN
  refine wpAny_execs_app (l_pairs KX KT F N G hd hh hm1 x hP hPM hM hPb hMb fun a m1 h1 tk1 big1 F1 N1 G1 M1 W1 eP1 ef my1 ma mb' mc md => ?_)
  dsimp only
  have k1 := isCell_but1 kN M1 (fun q => by
    rcases List.mem_cons.mp q with q | q
    · exact cL (List.mem_singleton.mpr q)
    rcases List.mem_cons.mp q with q | q
    · exact cell_ntab kN eP q
    · exact cell_ntab kN eM (List.mem_singleton.mp q))
  have X1 : LX base h1 L h1 [cN] a size block kk #[] #[] := W1.hid k1
  have n1 : ∀ y : Str, y ≠ "update" → y ≠ "finalize" → y ≠ "later" → y ≠ "ending" → m1 y = m y := my1
  have a2 := (n1 "key" (by decide) (by decide) (by decide) (by decide)).trans hm2
  have a3 := (n1 "size" (by decide) (by decide) (by decide) (by decide)).trans hm3
  have a4 := (n1 "block" (by decide) (by decide) (by decide) (by decide)).trans hm4
  have a0 := (n1 "script" (by decide) (by decide) (by decide) (by decide)).trans hm0
  have a6 := (n1 "plain" (by decide) (by decide) (by decide) (by decide)).trans hm6
  rw [← ef] at a6
  refine wpAny_execs_app (l_first (s := { s with heap := h1, toks := tk1 }) KX KT F1 N1 G1 hd hh hs1 hs2 hsb hb hkk hkey sm mb' a2 a3 a4 X1 fun m2 h2 tk2 big2 tw F2 N2 G2 X2 my2 mw => ?_)
  dsimp only
  have cN2 := X1.nin F1.ns (c := cN) (.head _)
  have k2 := isCell_but1 k1 X2.bt cN2
  have b0 := (my2 "script" (by decide)).trans a0
  have b1 := (my2 "finalize" (by decide)).trans mb'
  have b2 := (my2 "key" (by decide)).trans a2
  have b3 := (my2 "size" (by decide)).trans a3
  have b4 := (my2 "block" (by decide)).trans a4
  have b5 := (my2 "update" (by decide)).trans ma
  have b6 := (my2 "plain" (by decide)).trans a6
  have b7 := (my2 "later" (by decide)).trans mc
  have b8 := (my2 "ending" (by decide)).trans md
  refine wpAny_execs_app (l_loop (s := { s with heap := h2, toks := tk2 }) KX KT F2 N2 G2 hd hh hs1 hs2 hsb hb hkk hkey sm b0 b1 b2 b3 b4 b5 b6 mw hl hi hn hcb ⟨_, k2⟩ X2 fun m3 h3 tk3 big3 w1 t F3 N3 G3 M3 X3 z3 my3 mw3 => ?_)
  dsimp only
  have c1 := (my3 "finalize" (by decide) (by decide) (by decide)).trans b1
  have c2 := (my3 "key" (by decide) (by decide) (by decide)).trans b2
  have c3 := (my3 "size" (by decide) (by decide) (by decide)).trans b3
  have c4 := (my3 "block" (by decide) (by decide) (by decide)).trans b4
  have c6 := (my3 "plain" (by decide) (by decide) (by decide)).trans b6
  have c7 := (my3 "later" (by decide) (by decide) (by decide)).trans b7
  have c8 := (my3 "ending" (by decide) (by decide) (by decide)).trans b8
  refine l_end (s := { s with heap := h3, toks := tk3 }) KX KT F3 N3 G3 hd hh hs1 hs2 hsb hb hkk hkey sm z3 c1 c2 c3 c4 c7 c6 mw3 c8 X3 fun m4 h4 tk4 big4 w3 w4 F4 N4 G4 X4 => ?_
  exact hQ h4 tk4 F4.keep X4.now.t1 X4.now.t2
theorem l_mid_bytes {w : World} {A : Around} {s : Shared} {mg mb m : Str → Option Value} {mean : ExcName → Option Value} {base : Heap} {L cN cS : Addr} {big : List (Addr × Obj)}
    (KX : (KK w.params).In base) (KT : Top topProg l0 mean mg mb base) (F : Fr base L s.heap m) (N : News base L s.heap big) (G : Seg base L s.heap big) {x dx c P : Addr} {size block : Nat} {k : Array UInt8} {tk0 t1 t2 t3 : Tok} {l : Addr} {vs : List Value} {ns : List Int} {Q : Flow → Shared → Prop} (hd : A.depth + 8 < recursionLimit) (hh : A.handled = none) (hs1 : 1 ≤ size) (hs2 : size ≤ 20) (hsb : size ≤ block) (hb16 : 16 ≤ block) (hb : block ≤ 32) (hk : k.size ≤ 80)
    (hm0 : m "script" = some (.ref l)) (hm1 : m "info" = some (.ref x)) (hm2 : m "key" = some (.bytes k t1)) (hm3 : m "size" = some (.int size t2)) (hm4 : m "block" = some (.int block t3)) (hm6 : m "shown" = some (.bytes k tk0))
    (hl : base.IsList l vs.toArray) (hi : IntsAre vs ns) (hn : ns.length ≤ 63) (hcb : base.get? cN = none) (kN : s.heap.IsCell cN none)
    (hI : InfI s.heap x dx c size block) (hdL : dx ≠ L) (K : ConstO s.heap c P size block) (hP : P ≠ 183 ∧ P ≠ 327) (t183 : s.heap.get? 183 = some (tabObj #[])) (t327 : ∃ ps, s.heap.get? 327 = some (tabObj ps)) (h183b : base.get? 183 = none) (hPb : base.get? P = none) (hL9 : 349 < L)
    (hQ : ∀ h' tk, base.StaysIn h' → (∃ ps, h'.get? 183 = some (tabObj ps)) → (∃ ps, h'.get? 327 = some (tabObj ps)) → Q (.ret (.bool true)) { s with heap := h', toks := tk }) :
    wpAny (model pw w) (A.deeper (envX "law" (fScope (fS 26)) L 349 (.ref 348) [("number", cN), ("second", cS)])) (execs (List.drop 6 (fBody (fS 26))) (envX "law" (fScope (fS 26)) L 349 (.ref 348) [("number", cN), ("second", cS)])) Q (fun _ _ => False) s := by
  show wpAny _ _ (execs (List.take 2 (List.drop 6 (fBody (fS 26))) ++ List.drop 8 (fBody (fS 26))) _) _ _ _
  have m0 := F.ns
  have cL := cell_nf m0 kN
  obtain ⟨ps1, eP⟩ := con_tab K
  obtain ⟨ps2, e2⟩ := t327
  refine wpAny_execs_app (l_comp_bytes KX KT F N G hd hh hm1 hm6 hk hs1 hs2 hsb hb16 hb hI hdL K hP.1 t183 h183b hPb hL9 fun fp cdp icp ocp lIp lOp fm c1 Pm icm ocm lIm lOm m1 h1 tk1 big1 F1 N1 G1 M1 K1 T1 U0 CIp COp Um CD TB hPm hMb hPP CIm COm my mp mq => ?_)
  dsimp only
  have nt : (327 : Addr) ∉ [L, 183, P] := fun q => by
    rcases List.mem_cons.mp q with q | q
    · exact absurd hL9 (by rw [← q]; decide)
    rcases List.mem_cons.mp q with q | q
    · exact absurd q (by decide)
    · exact hP.2 (List.mem_singleton.mp q).symm
  have k1 := isCell_but1 kN M1 (fun q => by
    rcases List.mem_cons.mp q with q | q
    · exact cL (List.mem_singleton.mpr q)
    rcases List.mem_cons.mp q with q | q
    · exact cell_ntab kN t183 q
    · exact cell_ntab kN eP (List.mem_singleton.mp q))
  exact l_rest (s := { s with heap := h1, toks := tk1 }) (kk := padK k size block) KX KT F1 N1 G1 hd hh hs1 hs2 hsb hb16 hb (by rw [padK_size hsb]; omega) hk (same_padK _ _ _)
    ((my "script" (by decide) (by decide)).trans hm0) mq ((my "key" (by decide) (by decide)).trans hm2) ((my "size" (by decide) (by decide)).trans hm3) ((my "block" (by decide) (by decide)).trans hm4) mp hl hi hn hcb k1
    ⟨K1, U0, CIp, COp, Um, CD, TB, CIm, COm, T1, ⟨_, M1 _ _ e2 nt⟩⟩ hP hPP hPm hPb hMb hQ
theorem l_mid_str {w : World} {A : Around} {s : Shared} {mg mb m : Str → Option Value} {mean : ExcName → Option Value} {base : Heap} {L cN cS : Addr} {big : List (Addr × Obj)}
    (KX : (KK w.params).In base) (KT : Top topProg l0 mean mg mb base) (F : Fr base L s.heap m) (N : News base L s.heap big) (G : Seg base L s.heap big) {x dx c P : Addr} {size block : Nat} {z : Str} {tk0 t1 t2 t3 : Tok} {l : Addr} {vs : List Value} {ns : List Int} {Q : Flow → Shared → Prop} (hd : A.depth + 8 < recursionLimit) (hh : A.handled = none) (hs1 : 1 ≤ size) (hs2 : size ≤ 20) (hsb : size ≤ block) (hb16 : 16 ≤ block) (hb : block ≤ 32) (hk : (utf8 z).size ≤ 80) (hz : ∀ c ∈ z.cps, Str.isSurrogate c = false)
    (hm0 : m "script" = some (.ref l)) (hm1 : m "info" = some (.ref x)) (hm2 : m "key" = some (.bytes (utf8 z) t1)) (hm3 : m "size" = some (.int size t2)) (hm4 : m "block" = some (.int block t3)) (hm6 : m "shown" = some (.str z tk0))
    (hl : base.IsList l vs.toArray) (hi : IntsAre vs ns) (hn : ns.length ≤ 63) (hcb : base.get? cN = none) (kN : s.heap.IsCell cN none)
    (hI : InfI s.heap x dx c size block) (hdL : dx ≠ L) (K : ConstO s.heap c P size block) (hP : P ≠ 183 ∧ P ≠ 327) (t183 : s.heap.get? 183 = some (tabObj #[])) (t327 : ∃ ps, s.heap.get? 327 = some (tabObj ps)) (h183b : base.get? 183 = none) (hPb : base.get? P = none) (hL9 : 349 < L)
    (hQ : ∀ h' tk, base.StaysIn h' → (∃ ps, h'.get? 183 = some (tabObj ps)) → (∃ ps, h'.get? 327 = some (tabObj ps)) → Q (.ret (.bool true)) { s with heap := h', toks := tk }) :
    wpAny (model pw w) (A.deeper (envX "law" (fScope (fS 26)) L 349 (.ref 348) [("number", cN), ("second", cS)])) (execs (List.drop 6 (fBody (fS 26))) (envX "law" (fScope (fS 26)) L 349 (.ref 348) [("number", cN), ("second", cS)])) Q (fun _ _ => False) s := by
  show wpAny _ _ (execs (List.take 2 (List.drop 6 (fBody (fS 26))) ++ List.drop 8 (fBody (fS 26))) _) _ _ _
  have m0 := F.ns
  have cL := cell_nf m0 kN
  obtain ⟨ps1, eP⟩ := con_tab K
  obtain ⟨ps2, e2⟩ := t327
  refine wpAny_execs_app (l_comp_str KX KT F N G hd hh hm1 hm6 hk hz hs1 hs2 hsb hb16 hb hI hdL K hP.1 t183 h183b hPb hL9 fun fp cdp icp ocp lIp lOp fm c1 Pm icm ocm lIm lOm m1 h1 tk1 big1 F1 N1 G1 M1 K1 T1 U0 CIp COp Um CD TB hPm hMb hPP CIm COm my mp mq => ?_)
  dsimp only
  have nt : (327 : Addr) ∉ [L, 183, P] := fun q => by
    rcases List.mem_cons.mp q with q | q
    · exact absurd hL9 (by rw [← q]; decide)
    rcases List.mem_cons.mp q with q | q
    · exact absurd q (by decide)
    · exact hP.2 (List.mem_singleton.mp q).symm
  have k1 := isCell_but1 kN M1 (fun q => by
    rcases List.mem_cons.mp q with q | q
    · exact cL (List.mem_singleton.mpr q)
    rcases List.mem_cons.mp q with q | q
    · exact cell_ntab kN t183 q
    · exact cell_ntab kN eP (List.mem_singleton.mp q))
  exact l_rest (s := { s with heap := h1, toks := tk1 }) (kk := padK (utf8 z) size block) KX KT F1 N1 G1 hd hh hs1 hs2 hsb hb16 hb (by rw [padK_size hsb]; omega) hk (same_padK _ _ _)
    ((my "script" (by decide) (by decide)).trans hm0) mq ((my "key" (by decide) (by decide)).trans hm2) ((my "size" (by decide) (by decide)).trans hm3) ((my "block" (by decide) (by decide)).trans hm4) mp hl hi hn hcb k1
    ⟨K1, U0, CIp, COp, Um, CD, TB, CIm, COm, T1, ⟨_, M1 _ _ e2 nt⟩⟩ hP hPP hPm hPb hMb hQ
theorem c_law {w : World} {A : Around} {s : Shared} {mg mb : Str → Option Value} {mean : ExcName → Option Value} {l : Addr} {vs : List Value} {ns : List Int} {Q : Value → Shared → Prop}
    (X : (KK w.params).In s.heap) (T : Top topProg l0 mean mg mb s.heap) (hd : A.depth + 8 < recursionLimit) (hh : A.handled = none) (t183 : s.heap.get? 183 = some (tabObj #[])) (t327 : s.heap.get? 327 = some (tabObj #[])) (hl : s.heap.IsList l vs.toArray) (hi : IntsAre vs ns) (hn : ns.length ≤ 63)
    (hQ : ∀ h' tk, But [183, 327] s.heap h' → (∃ ps, h'.get? 183 = some (tabObj ps)) → (∃ ps, h'.get? 327 = some (tabObj ps)) → Q (.bool true) { s with heap := h', toks := tk }) :
    wpAny (model pw w) A (call (.ref 349) [.ref l]) Q (fun _ _ => False) s := by
  have hS : ∀ a ∈ [(183 : Addr), 327], a ≠ 0 ∧ a ∉ asK := fun a ha => by
    rcases List.mem_cons.mp ha with rfl | ha
    · exact t183k
    · cases List.mem_singleton.mp ha; exact Mine.t327
  have hlS : Loose s.heap [183, 327] := fun a ha o e => by
    rcases List.mem_cons.mp ha with rfl | ha
    · rw [t183] at e; cases e; rfl
    · cases List.mem_singleton.mp ha; rw [t327] at e; cases e; rfl
  have hsz9 := size_K X
  have z183 := Heap.lt_size t183
  have z327 := Heap.lt_size t327
  refine wpAny_call ?_
  refine' enterKC (binds := [("script", .ref l)]) (m := fun y => if y = "script" then some (.ref l) else none) (cm := fun _ => none) X T [183, 327] hS (.of hlS) (fn349 X) ?room ?hb ?hkind ?hL ?hC ?_ ?c2 ?c3 ?c4
  case room => omega
  case hb => exact fun _ _ _ => BindsTo.of_eq rfl
  case hkind => first | decide | (intro n; decide) | (intro n x hx; (repeat' (first | (rcases List.mem_cons.mp hx with rfl | hx; first | exact .inl rfl | exact .inr ⟨rfl, rfl⟩) | cases hx)))
  case hL => exact fun _ _ => rfl
  case hC => exact fun _ _ => rfl
  case c2 => rfl
  case c3 => rfl
  case c4 => rfl
  intro base L h₁ big tk M0 B0 S0 KX KT F N G hL K1 CC
  have hcl : cellsFrom (L + 1) (fScope (fS 26)).names [] = ([("number", L + 1 + 1), ("second", L + 1)] : List (Str × Addr)) := rfl
  rw [hcl] at CC ⊢
  have cN := CC "number" (L + 1 + 1) rfl
  have cS := CC "second" (L + 1) rfl
  have hL9 : 349 < L := Nat.lt_of_lt_of_le hsz9 hL
  have hlb : base.IsList l vs.toArray := by
    obtain ⟨o, e, hc, r⟩ := hl
    refine ⟨o, M0 _ _ e (fun q => ?_), hc, r⟩
    rcases List.mem_cons.mp q with q | q
    · rw [q, t183] at e; cases e; cases hc
    · rw [List.mem_singleton.mp q, t327] at e; cases e; cases hc
  have h183b : base.get? 183 = none := S0 183 (.head _)
  have h327b : base.get? 327 = none := S0 327 (.tail _ (.head _))
  have e183 := K1 _ _ t183
  have e327 := K1 _ _ t327
  have n183 : (183 : Addr) ≠ L := Nat.ne_of_lt (Nat.lt_trans (by decide) hL9)
  have n327 : (327 : Addr) ≠ L := Nat.ne_of_lt (Nat.lt_trans (by decide) hL9)
  have cnL : L + 1 + 1 ≠ L := Nat.ne_of_gt cN.2.1
  have csL : L + 1 ≠ L := Nat.ne_of_gt cS.2.1
  have cns : L + 1 + 1 ≠ L + 1 := Nat.succ_ne_self _
  have kN0 : h₁.IsCell (L + 1 + 1) none := cN.1
  have kS0 : h₁.IsCell (L + 1) none := cS.1
  obtain ⟨s1, s2, s3, s4, s5⟩ := sizes_ok (ns.getD 0 0)
  show wpAny _ _ (execs (List.take 2 (fBody (fS 26)) ++ (List.take 1 (List.drop 2 (fBody (fS 26))) ++ (List.take 2 (List.drop 3 (fBody (fS 26))) ++ (List.take 1 (List.drop 5 (fBody (fS 26))) ++ List.drop 6 (fBody (fS 26)))))) _) _ _ _
  refine wpAny_execs_app (l_pre (m := fun y => if y = "script" then some (.ref l) else none) KX KT F N G hd hh rfl hlb hi hn kS0 cS.2.2 fun m1 h1 tk1 big1 t1 t2 t3 t4 F1 N1 G1 M1 kS1 my1 v1 v2 v3 => ?_)
  dsimp only
  have q1 : ∀ b : Addr, b ≠ L → b ≠ L + 1 → b ∉ [L, L + 1] := fun b h1 h2 q => by
    rcases List.mem_cons.mp q with q | q
    · exact h1 q
    · exact h2 (List.mem_singleton.mp q)
  have kN1 := isCell_but1 kN0 M1 (q1 _ cnL cns)
  have a183 := M1 _ _ e183 (q1 _ n183 (Nat.ne_of_lt (Nat.lt_trans (by decide : (183 : Nat) < 349) (Nat.lt_succ_of_lt hL9))))
  have a327 := M1 _ _ e327 (q1 _ n327 (Nat.ne_of_lt (Nat.lt_trans (by decide : (327 : Nat) < 349) (Nat.lt_succ_of_lt hL9))))
  refine wpAny_execs_app (l_info (s := { s with heap := h1, toks := tk1 }) KX KT F1 N1 G1 hd hh v2 v3 s1 s2 a327 h327b hL9 fun c P x dx m2 h2 tk2 big2 F2 N2 G2 M2 K2 I2 nP dL T2 my2 v4 => ?_)
  dsimp only
  have q2 : ∀ b : Addr, b ≠ L → b ≠ 327 → b ∉ [L, 327] := fun b h1 h2 q => by
    rcases List.mem_cons.mp q with q | q
    · exact h1 q
    · exact h2 (List.mem_singleton.mp q)
  dsimp only at nP
  have hP : P ≠ 183 ∧ P ≠ 327 := ⟨fun q => (by rw [q, a183] at nP; cases nP), fun q => (by rw [q, a327] at nP; cases nP)⟩
  have hPb : base.get? P = none := by
    cases q : base.get? P with
    | none => rfl
    | some o => rw [F1.keep _ _ q] at nP; cases nP
  have kN2 := isCell_but1 kN1 M2 (q2 _ cnL (cell_ntab kN1 a327))
  have kS2 := isCell_but1 kS1 M2 (q2 _ csL (cell_ntab kS1 a327))
  have b183 := M2 _ _ a183 (q2 _ n183 (by decide))
  have w1 := (my2 "first" (by decide)).trans v1
  have w2 := (my2 "size" (by decide)).trans v2
  have w3 := (my2 "block" (by decide)).trans v3
  have w0 : m2 "script" = some (.ref l) := (my2 "script" (by decide)).trans ((my1 "script" (by decide) (by decide) (by decide)).trans rfl)
  refine wpAny_execs_app (l_key (td := 0) (size := 0) (s := { s with heap := h2, toks := tk2 }) KX KT F2 N2 G2 hd hh w1 w3 kS2 s5 cS.2.2 fun key m3 h3 tk3 big3 t zk F3 N3 G3 M3 my3 v5 v6 => ?_)
  dsimp only
  have q3 : ∀ b : Addr, b ≠ L → b ∉ [L] := fun b h1 q => h1 (List.mem_singleton.mp q)
  have L2 := loose_L F2.ns
  have kN3 := isCell_but1 kN2 M3 (q3 _ cnL)
  have kS3 := isCell_but1 kS2 M3 (q3 _ csL)
  have c183 := M3 _ _ b183 (q3 _ n183)
  have T3 : ∃ ps, h3.get? 327 = some (tabObj ps) := let ⟨ps, e⟩ := T2; ⟨ps, M3 _ _ e (q3 _ n327)⟩
  have K3 := K2.but M3 L2 (con_nf F2.ns K2)
  have I3 : InfI h3 x dx c (sizesOf (ns.getD 0 0)).1 (sizesOf (ns.getD 0 0)).2 := ⟨InstO.but I2.1 M3 L2, I2.2.but M3 (fun q => dL (List.mem_singleton.mp q))⟩
  have x0 := (my3 "script" (by decide) (by decide)).trans w0
  have x1 := (my3 "info" (by decide) (by decide)).trans v4
  have x2 := (my3 "size" (by decide) (by decide)).trans w2
  have x3 := (my3 "block" (by decide) (by decide)).trans w3
  have fin : ∀ h' tk, base.StaysIn h' → (∃ ps, h'.get? 183 = some (tabObj ps)) → (∃ ps, h'.get? 327 = some (tabObj ps)) → Q (.bool true) { s with heap := h', toks := tk } := fun h' tk st e1 e2 => hQ h' tk (fun b o e hb => st _ _ (M0 _ _ e hb)) e1 e2
  refine wpAny_execs_app (l_text (s := { s with heap := h3, toks := tk3 }) KX KT F3 N3 G3 hd hh v5 zk kS3 (fun tk4 => ?_) fun z m4 h4 tk4 big4 t5 t6 hz zz F4 N4 G4 M4 my4 v7 v8 => ?_)
  · dsimp only
    exact l_mid_bytes (s := { s with heap := h3, toks := tk4 }) KX KT F3 N3 G3 hd hh s1 s2 s3 s4 s5 (Nat.le_trans zk (by decide)) x0 x1 v5 x2 x3 v6 hlb hi hn cN.2.2 kN3 I3 dL K3 hP c183 T3 h183b hPb hL9 fun h' tk st e1 e2 => fin h' tk st e1 e2
  · dsimp only
    have L3 := loose_L F3.ns
    have kN4 := isCell_but1 kN3 M4 (q3 _ cnL)
    have d183 := M4 _ _ c183 (q3 _ n183)
    have T4 : ∃ ps, h4.get? 327 = some (tabObj ps) := let ⟨ps, e⟩ := T3; ⟨ps, M4 _ _ e (q3 _ n327)⟩
    have K4 := K3.but M4 L3 (con_nf F3.ns K3)
    have I4 : InfI h4 x dx c (sizesOf (ns.getD 0 0)).1 (sizesOf (ns.getD 0 0)).2 := ⟨InstO.but I3.1 M4 L3, I3.2.but M4 (fun q => dL (List.mem_singleton.mp q))⟩
    exact l_mid_str (s := { s with heap := h4, toks := tk4 }) KX KT F4 N4 G4 hd hh s1 s2 s3 s4 s5 zz hz ((my4 "script" (by decide) (by decide)).trans x0) ((my4 "info" (by decide) (by decide)).trans x1) v7 ((my4 "size" (by decide) (by decide)).trans x2) ((my4 "block" (by decide) (by decide)).trans x3) v8 hlb hi hn cN.2.2 kN4 I4 dL K4 hP d183 T4 h183b hPb hL9 fun h' tk st e1 e2 => fin h' tk st e1 e2
theorem core : Core := by
  intro w s₁ mg mb mean X t183 t327 T hg l vs ns hl hi hn
  refine c_law X (top0 T) (by decide) rfl t183 t327 hl hi hn fun h' tk M e1 e2 => ⟨rfl, ⟨fun b o e => ?_, fun b o e => ?_⟩, rfl, hg⟩
  · by_cases h1 : b = 183
    · subst h1
      rw [t183] at e; cases e
      obtain ⟨ps, e1⟩ := e1
      exact .inr (.inl ⟨((code187 X).tab t183).isCodeTable, rfl, #[], ps, rfl, by rw [Array.empty_append]; exact e1⟩)
    by_cases h2 : b = 327
    · subst h2
      rw [t327] at e; cases e
      obtain ⟨ps, e2⟩ := e2
      exact .inr (.inl ⟨((code331 X).tab t327).isCodeTable, rfl, #[], ps, rfl, by rw [Array.empty_append]; exact e2⟩)
    · refine .inl (M _ _ e (fun q => ?_))
      rcases List.mem_cons.mp q with q | q
      · exact h1 q
      · exact h2 (List.mem_singleton.mp q)
  · by_cases h1 : b = 183
    · subst h1; obtain ⟨ps, e1⟩ := e1; exact ⟨_, e1⟩
    by_cases h2 : b = 327
    · subst h2; obtain ⟨ps, e2⟩ := e2; exact ⟨_, e2⟩
    · refine ⟨o, M _ _ e (fun q => ?_)⟩
      rcases List.mem_cons.mp q with q | q
      · exact h1 q
      · exact h2 (List.mem_singleton.mp q)
theorem theEnd : PySem.Challenge.rw_aj5027_01.Holds := finish core

end
end Mine
set_option maxRecDepth 100000 in
set_option maxHeartbeats 8000000 in
theorem PySem.Challenge.cw_aj5027_01_holds : PySem.Challenge.rw_aj5027_01.Holds := by
  exact Mine.theEnd
