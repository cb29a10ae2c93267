import PyProof.Rows.All
import Wide.All
import OpenK.AllK
import Wide.FinOn
import PySem.Challenge.RW_rs0143_01
set_option Elab.async false
section
open PySem PySem.W PyProof.Rows
set_option Elab.async false
set_option maxRecDepth 100000
set_option maxHeartbeats 8000000
namespace Mine
/-- the head by hand: the written part of the heap behind the top (printed by a small program out of open_top's look; the defs' trees are taken out of the row) -/
noncomputable def hd.clB (p : Program) (i : Nat) : List Stmt := match p.main.body[i]? with
  | some (.ClassDef _ _ _ b _ _ _ _ _ _ _) => b
  | _ => []
noncomputable def hd.sA (b : List Stmt) (i : Nat) : Stmt := (b[i]?).getD (.Pass default)
noncomputable def hd.fP (st : Stmt) : Arguments := match st with
  | .FunctionDef _ a _ _ _ _ _ _ _ _ => a
  | _ => default
noncomputable def hd.fB (st : Stmt) : List Stmt := match st with
  | .FunctionDef _ _ b _ _ _ _ _ _ _ => b
  | _ => []
noncomputable def hd.fS (st : Stmt) : Scope := match st with
  | .FunctionDef _ _ _ _ _ _ s _ _ _ => s
  | _ => default
noncomputable def hd.fO (name qual : Str) (st : Stmt) (md code : Value) : Obj :=
  Obj.mk (Value.type "function") (none : Option Nat) (Data.func (FuncData.mk name qual (hd.fP st) (.stmts (hd.fB st)) (hd.fS st) (3 : Nat) ([] : List (Str × Nat)) Value.none Value.none Value.none md (none : Option Nat) code Value.none (0 : Nat))) #[]
noncomputable def hd.heap_39 : Params → Frag := by
  refine' (?f : (o28 o35 o42 o49 o63 o70 o77 o84 o91 o98 o105 o112 o119 o126 o131 o138 o143 : Obj) →
    hd.fO (Str.ofString "__init__") (Str.ofString "_netrclex.__init__") (hd.sA (hd.clB PySem.Challenge.pw_rs0143_01 1) 0) (Value.str (Str.ofString "cpy313.netrc") (187 : Nat)) (Value.ref (27 : Nat)) = o28
    → hd.fO (Str.ofString "_read_char") (Str.ofString "_netrclex._read_char") (hd.sA (hd.clB PySem.Challenge.pw_rs0143_01 1) 1) (Value.str (Str.ofString "cpy313.netrc") (187 : Nat)) (Value.ref (34 : Nat)) = o35
    → hd.fO (Str.ofString "get_token") (Str.ofString "_netrclex.get_token") (hd.sA (hd.clB PySem.Challenge.pw_rs0143_01 1) 2) (Value.str (Str.ofString "cpy313.netrc") (187 : Nat)) (Value.ref (41 : Nat)) = o42
    → hd.fO (Str.ofString "push_token") (Str.ofString "_netrclex.push_token") (hd.sA (hd.clB PySem.Challenge.pw_rs0143_01 1) 3) (Value.str (Str.ofString "cpy313.netrc") (187 : Nat)) (Value.ref (48 : Nat)) = o49
    → hd.fO (Str.ofString "_div2n1n") (Str.ofString "_div2n1n") (hd.sA PySem.Challenge.pw_rs0143_01.main.body 4) (Value.str (Str.ofString "cpy313._pylong") (247 : Nat)) (Value.ref (62 : Nat)) = o63
    → hd.fO (Str.ofString "_div3n2n") (Str.ofString "_div3n2n") (hd.sA PySem.Challenge.pw_rs0143_01.main.body 5) (Value.str (Str.ofString "cpy313._pylong") (247 : Nat)) (Value.ref (69 : Nat)) = o70
    → hd.fO (Str.ofString "_int2digits") (Str.ofString "_int2digits") (hd.sA PySem.Challenge.pw_rs0143_01.main.body 6) (Value.str (Str.ofString "cpy313._pylong") (247 : Nat)) (Value.ref (76 : Nat)) = o77
    → hd.fO (Str.ofString "_digits2int") (Str.ofString "_digits2int") (hd.sA PySem.Challenge.pw_rs0143_01.main.body 7) (Value.str (Str.ofString "cpy313._pylong") (247 : Nat)) (Value.ref (83 : Nat)) = o84
    → hd.fO (Str.ofString "_divmod_pos") (Str.ofString "_divmod_pos") (hd.sA PySem.Challenge.pw_rs0143_01.main.body 8) (Value.str (Str.ofString "cpy313._pylong") (247 : Nat)) (Value.ref (90 : Nat)) = o91
    → hd.fO (Str.ofString "int_divmod") (Str.ofString "int_divmod") (hd.sA PySem.Challenge.pw_rs0143_01.main.body 9) (Value.str (Str.ofString "cpy313._pylong") (247 : Nat)) (Value.ref (97 : Nat)) = o98
    → hd.fO (Str.ofString "_iter_escaped_chars") (Str.ofString "_iter_escaped_chars") (hd.sA PySem.Challenge.pw_rs0143_01.main.body 11) (Value.str (Str.ofString "cpy313.email.utils") (329 : Nat)) (Value.ref (104 : Nat)) = o105
    → hd.fO (Str.ofString "_strip_quoted_realnames") (Str.ofString "_strip_quoted_realnames") (hd.sA PySem.Challenge.pw_rs0143_01.main.body 12) (Value.str (Str.ofString "cpy313.email.utils") (329 : Nat)) (Value.ref (111 : Nat)) = o112
    → hd.fO (Str.ofString "_check_parenthesis") (Str.ofString "_check_parenthesis") (hd.sA PySem.Challenge.pw_rs0143_01.main.body 13) (Value.str (Str.ofString "cpy313.email.utils") (329 : Nat)) (Value.ref (118 : Nat)) = o119
    → hd.fO (Str.ofString "_law_stream") (Str.ofString "_law_stream") (hd.sA PySem.Challenge.pw_rs0143_01.main.body 15) (Value.str (Str.ofString "law_rs0143_01") (363 : Nat)) (Value.ref (125 : Nat)) = o126
    → hd.fO (Str.ofString "_law_counts") (Str.ofString "_law_counts") (hd.sA PySem.Challenge.pw_rs0143_01.main.body 16) (Value.str (Str.ofString "law_rs0143_01") (363 : Nat)) (Value.ref (130 : Nat)) = o131
    → hd.fO (Str.ofString "_law_root") (Str.ofString "_law_root") (hd.sA PySem.Challenge.pw_rs0143_01.main.body 17) (Value.str (Str.ofString "law_rs0143_01") (363 : Nat)) (Value.ref (137 : Nat)) = o138
    → hd.fO (Str.ofString "law") (Str.ofString "law") (hd.sA PySem.Challenge.pw_rs0143_01.main.body 18) (Value.str (Str.ofString "law_rs0143_01") (363 : Nat)) (Value.ref (142 : Nat)) = o143 → (Params → Frag)) _ _ _ _ _ _ _ _ _ _ _ _ _ _ _ _ _ ?_ ?_ ?_ ?_ ?_ ?_ ?_ ?_ ?_ ?_ ?_ ?_ ?_ ?_ ?_ ?_ ?_
  case f =>
    exact fun o28 o35 o42 o49 o63 o70 o77 o84 o91 o98 o105 o112 o119 o126 o131 o138 o143 _ _ _ _ _ _ _ _ _ _ _ _ _ _ _ _ _ P =>
  (nat_lit 2, Obj.mk Value.none (none : Option Nat) (Data.dict #[]) #[]) ::
  (nat_lit 3, Obj.mk (Value.type "dict") (none : Option Nat) (Data.dict #[DictEntry.mk (PyData.keyHash P (Str.ofString "__name__")) (Value.str (Str.ofString "__name__") (165 : Nat)) (Value.str (Str.ofString "law_rs0143_01") (363 : Nat)), DictEntry.mk (PyData.keyHash P (Str.ofString "__doc__")) (Value.str (Str.ofString "__doc__") (166 : Nat)) Value.none, DictEntry.mk (PyData.keyHash P (Str.ofString "__package__")) (Value.str (Str.ofString "__package__") (167 : Nat)) Value.none, DictEntry.mk (PyData.keyHash P (Str.ofString "__loader__")) (Value.str (Str.ofString "__loader__") (168 : Nat)) (Value.builtin "__main__.__loader__#opaque"), DictEntry.mk (PyData.keyHash P (Str.ofString "__spec__")) (Value.str (Str.ofString "__spec__") (169 : Nat)) Value.none, DictEntry.mk (PyData.keyHash P (Str.ofString "__annotations__")) (Value.str (Str.ofString "__annotations__") (170 : Nat)) (Value.ref (6 : Nat)), DictEntry.mk (PyData.keyHash P (Str.ofString "__builtins__")) (Value.str (Str.ofString "__builtins__") (171 : Nat)) (Value.ref (4 : Nat)), DictEntry.mk (PyData.keyHash P (Str.ofString "__file__")) (Value.str (Str.ofString "__file__") (173 : Nat)) (Value.str (Str.ofString "/claim/cut.py") (172 : Nat)), DictEntry.mk (PyData.keyHash P (Str.ofString "__cached__")) (Value.str (Str.ofString "__cached__") (174 : Nat)) Value.none, DictEntry.mk (PyData.keyHash P (Str.ofString "_netrclex")) (Value.str (Str.ofString "_netrclex") (246 : Nat)) (Value.ref (52 : Nat)), DictEntry.mk (PyData.keyHash P (Str.ofString "_DIV_LIMIT")) (Value.str (Str.ofString "_DIV_LIMIT") (250 : Nat)) (Value.int (4000 : Int) (249 : Nat)), DictEntry.mk (PyData.keyHash P (Str.ofString "_div2n1n")) (Value.str (Str.ofString "_div2n1n") (267 : Nat)) (Value.ref (63 : Nat)), DictEntry.mk (PyData.keyHash P (Str.ofString "_div3n2n")) (Value.str (Str.ofString "_div3n2n") (281 : Nat)) (Value.ref (70 : Nat)), DictEntry.mk (PyData.keyHash P (Str.ofString "_int2digits")) (Value.str (Str.ofString "_int2digits") (292 : Nat)) (Value.ref (77 : Nat)), DictEntry.mk (PyData.keyHash P (Str.ofString "_digits2int")) (Value.str (Str.ofString "_digits2int") (303 : Nat)) (Value.ref (84 : Nat)), DictEntry.mk (PyData.keyHash P (Str.ofString "_divmod_pos")) (Value.str (Str.ofString "_divmod_pos") (318 : Nat)) (Value.ref (91 : Nat)), DictEntry.mk (PyData.keyHash P (Str.ofString "int_divmod")) (Value.str (Str.ofString "int_divmod") (328 : Nat)) (Value.ref (98 : Nat)), DictEntry.mk (PyData.keyHash P (Str.ofString "_iter_escaped_chars")) (Value.str (Str.ofString "_iter_escaped_chars") (340 : Nat)) (Value.ref (105 : Nat)), DictEntry.mk (PyData.keyHash P (Str.ofString "_strip_quoted_realnames")) (Value.str (Str.ofString "_strip_quoted_realnames") (352 : Nat)) (Value.ref (112 : Nat)), DictEntry.mk (PyData.keyHash P (Str.ofString "_check_parenthesis")) (Value.str (Str.ofString "_check_parenthesis") (362 : Nat)) (Value.ref (119 : Nat)), DictEntry.mk (PyData.keyHash P (Str.ofString "_law_stream")) (Value.str (Str.ofString "_law_stream") (373 : Nat)) (Value.ref (126 : Nat)), DictEntry.mk (PyData.keyHash P (Str.ofString "_law_counts")) (Value.str (Str.ofString "_law_counts") (379 : Nat)) (Value.ref (131 : Nat)), DictEntry.mk (PyData.keyHash P (Str.ofString "_law_root")) (Value.str (Str.ofString "_law_root") (389 : Nat)) (Value.ref (138 : Nat)), DictEntry.mk (PyData.keyHash P (Str.ofString "law")) (Value.str (Str.ofString "law") (395 : Nat)) (Value.ref (143 : Nat))] (24 : Nat)) #[]) ::
  (nat_lit 22, Obj.mk (Value.type "tuple") (none : Option Nat) (Data.seq #[]) #[]) ::
  (nat_lit 24, Obj.mk (Value.type "tuple") (none : Option Nat) (Data.seq #[Value.str (Str.ofString "self") (204 : Nat), Value.str (Str.ofString "fp") (205 : Nat)]) #[]) ::
  (nat_lit 25, Obj.mk (Value.type "tuple") (none : Option Nat) (Data.seq #[]) #[]) ::
  (nat_lit 27, Obj.mk (Value.type "code") (none : Option Nat) (Data.fields #[Value.str (Str.ofString "__init__") (201 : Nat), Value.str (Str.ofString "_netrclex.__init__") (202 : Nat), Value.str (Str.ofString "/claim/cut.py") (203 : Nat), Value.int (4 : Int) (0 : Nat), Value.int (2 : Int) (0 : Nat), Value.int (0 : Int) (0 : Nat), Value.int (0 : Int) (0 : Nat), Value.int (3 : Int) (0 : Nat), Value.ref (22 : Nat), Value.bool true, Value.int (181 : Int) (0 : Nat), Value.ref (23 : Nat), Value.none, Value.ref (24 : Nat), Value.ref (25 : Nat), Value.ref (26 : Nat), Value.int (206 : Int) (0 : Nat), Value.int (4 : Int) (0 : Nat), Value.str (Str.ofString "/claim/cut.py") (207 : Nat)]) #[]) ::
  (nat_lit 28, o28) ::
  (nat_lit 29, Obj.mk (Value.type "tuple") (none : Option Nat) (Data.seq #[]) #[]) ::
  (nat_lit 31, Obj.mk (Value.type "tuple") (none : Option Nat) (Data.seq #[Value.str (Str.ofString "self") (212 : Nat), Value.str (Str.ofString "ch") (213 : Nat)]) #[]) ::
  (nat_lit 32, Obj.mk (Value.type "tuple") (none : Option Nat) (Data.seq #[]) #[]) ::
  (nat_lit 34, Obj.mk (Value.type "code") (none : Option Nat) (Data.fields #[Value.str (Str.ofString "_read_char") (209 : Nat), Value.str (Str.ofString "_netrclex._read_char") (210 : Nat), Value.str (Str.ofString "/claim/cut.py") (211 : Nat), Value.int (10 : Int) (0 : Nat), Value.int (1 : Int) (0 : Nat), Value.int (0 : Int) (0 : Nat), Value.int (0 : Int) (0 : Nat), Value.int (3 : Int) (0 : Nat), Value.ref (29 : Nat), Value.bool true, Value.int (181 : Int) (0 : Nat), Value.ref (30 : Nat), Value.none, Value.ref (31 : Nat), Value.ref (32 : Nat), Value.ref (33 : Nat), Value.int (214 : Int) (0 : Nat), Value.int (10 : Int) (0 : Nat), Value.str (Str.ofString "/claim/cut.py") (215 : Nat)]) #[]) ::
  (nat_lit 35, o35) ::
  (nat_lit 36, Obj.mk (Value.type "tuple") (none : Option Nat) (Data.seq #[]) #[]) ::
  (nat_lit 38, Obj.mk (Value.type "tuple") (none : Option Nat) (Data.seq #[Value.str (Str.ofString "self") (220 : Nat), Value.str (Str.ofString "token") (221 : Nat), Value.str (Str.ofString "fiter") (222 : Nat), Value.str (Str.ofString "ch") (223 : Nat)]) #[]) ::
  (nat_lit 39, Obj.mk (Value.type "tuple") (none : Option Nat) (Data.seq #[]) #[]) ::
  (nat_lit 41, Obj.mk (Value.type "code") (none : Option Nat) (Data.fields #[Value.str (Str.ofString "get_token") (217 : Nat), Value.str (Str.ofString "_netrclex.get_token") (218 : Nat), Value.str (Str.ofString "/claim/cut.py") (219 : Nat), Value.int (16 : Int) (0 : Nat), Value.int (1 : Int) (0 : Nat), Value.int (0 : Int) (0 : Nat), Value.int (0 : Int) (0 : Nat), Value.int (3 : Int) (0 : Nat), Value.ref (36 : Nat), Value.bool true, Value.int (181 : Int) (0 : Nat), Value.ref (37 : Nat), Value.none, Value.ref (38 : Nat), Value.ref (39 : Nat), Value.ref (40 : Nat), Value.int (224 : Int) (0 : Nat), Value.int (16 : Int) (0 : Nat), Value.str (Str.ofString "/claim/cut.py") (225 : Nat)]) #[]) ::
  (nat_lit 42, o42) ::
  (nat_lit 43, Obj.mk (Value.type "tuple") (none : Option Nat) (Data.seq #[]) #[]) ::
  (nat_lit 45, Obj.mk (Value.type "tuple") (none : Option Nat) (Data.seq #[Value.str (Str.ofString "self") (230 : Nat), Value.str (Str.ofString "token") (231 : Nat)]) #[]) ::
  (nat_lit 46, Obj.mk (Value.type "tuple") (none : Option Nat) (Data.seq #[]) #[]) ::
  (nat_lit 48, Obj.mk (Value.type "code") (none : Option Nat) (Data.fields #[Value.str (Str.ofString "push_token") (227 : Nat), Value.str (Str.ofString "_netrclex.push_token") (228 : Nat), Value.str (Str.ofString "/claim/cut.py") (229 : Nat), Value.int (43 : Int) (0 : Nat), Value.int (2 : Int) (0 : Nat), Value.int (0 : Int) (0 : Nat), Value.int (0 : Int) (0 : Nat), Value.int (3 : Int) (0 : Nat), Value.ref (43 : Nat), Value.bool true, Value.int (181 : Int) (0 : Nat), Value.ref (44 : Nat), Value.none, Value.ref (45 : Nat), Value.ref (46 : Nat), Value.ref (47 : Nat), Value.int (232 : Int) (0 : Nat), Value.int (43 : Int) (0 : Nat), Value.str (Str.ofString "/claim/cut.py") (233 : Nat)]) #[]) ::
  (nat_lit 49, o49) ::
  (nat_lit 50, Obj.mk (Value.type "tuple") (none : Option Nat) (Data.seq #[Value.str (Str.ofString "instream") (235 : Nat), Value.str (Str.ofString "lineno") (236 : Nat), Value.str (Str.ofString "pushback") (237 : Nat), Value.str (Str.ofString "whitespace") (238 : Nat)]) #[]) ::
  (nat_lit 51, Obj.mk (Value.type "dict") (none : Option Nat) (Data.dict #[DictEntry.mk (PyData.keyHash P (Str.ofString "__module__")) (Value.str (Str.ofString "__module__") (196 : Nat)) (Value.str (Str.ofString "cpy313.netrc") (187 : Nat)), DictEntry.mk (PyData.keyHash P (Str.ofString "__firstlineno__")) (Value.str (Str.ofString "__firstlineno__") (200 : Nat)) (Value.int (2 : Int) (199 : Nat)), DictEntry.mk (PyData.keyHash P (Str.ofString "__init__")) (Value.str (Str.ofString "__init__") (208 : Nat)) (Value.ref (28 : Nat)), DictEntry.mk (PyData.keyHash P (Str.ofString "_read_char")) (Value.str (Str.ofString "_read_char") (216 : Nat)) (Value.ref (35 : Nat)), DictEntry.mk (PyData.keyHash P (Str.ofString "get_token")) (Value.str (Str.ofString "get_token") (226 : Nat)) (Value.ref (42 : Nat)), DictEntry.mk (PyData.keyHash P (Str.ofString "push_token")) (Value.str (Str.ofString "push_token") (234 : Nat)) (Value.ref (49 : Nat)), DictEntry.mk (PyData.keyHash P (Str.ofString "__static_attributes__")) (Value.str (Str.ofString "__static_attributes__") (239 : Nat)) (Value.ref (50 : Nat)), DictEntry.mk (PyData.keyHash P (Str.ofString "__dict__")) (Value.str (Str.ofString "__dict__") (241 : Nat)) (Value.ref (53 : Nat)), DictEntry.mk (PyData.keyHash P (Str.ofString "__weakref__")) (Value.str (Str.ofString "__weakref__") (243 : Nat)) (Value.ref (54 : Nat)), DictEntry.mk (PyData.keyHash P (Str.ofString "__doc__")) (Value.str (Str.ofString "__doc__") (244 : Nat)) Value.none] (4 : Nat)) #[]) ::
  (nat_lit 52, Obj.mk (Value.type "type") (none : Option Nat) (Data.cls (ClassData.mk (Str.ofString "_netrclex") [Value.type "object"] [Value.ref (52 : Nat), Value.type "object"] (51 : Nat) (Str.ofString "_netrclex") true [] [] false none false)) #[none, none, some (Value.str (Str.ofString "_netrclex") (189 : Nat)), some (Value.str (Str.ofString "_netrclex") (197 : Nat)), some (Value.builtin "object.__new__"), some (Value.bool true)]) ::
  (nat_lit 53, Obj.mk (Value.type "getset_descriptor") (none : Option Nat) (Data.fields #[Value.str (Str.ofString "__dict__") (240 : Nat), Value.ref (52 : Nat), Value.builtin "function.__dict__", Value.builtin "function.__dict__#set"]) #[]) ::
  (nat_lit 54, Obj.mk (Value.type "getset_descriptor") (none : Option Nat) (Data.fields #[Value.str (Str.ofString "__weakref__") (242 : Nat), Value.ref (52 : Nat), Value.builtin "ExceptionGroup.__weakref__", Value.none]) #[]) ::
  (nat_lit 57, Obj.mk (Value.type "tuple") (none : Option Nat) (Data.seq #[]) #[]) ::
  (nat_lit 59, Obj.mk (Value.type "tuple") (none : Option Nat) (Data.seq #[Value.str (Str.ofString "a") (254 : Nat), Value.str (Str.ofString "b") (255 : Nat), Value.str (Str.ofString "n") (256 : Nat), Value.str (Str.ofString "pad") (257 : Nat), Value.str (Str.ofString "half_n") (258 : Nat), Value.str (Str.ofString "mask") (259 : Nat), Value.str (Str.ofString "b1") (260 : Nat), Value.str (Str.ofString "b2") (261 : Nat), Value.str (Str.ofString "q1") (262 : Nat), Value.str (Str.ofString "r") (263 : Nat), Value.str (Str.ofString "q2") (264 : Nat)]) #[]) ::
  (nat_lit 60, Obj.mk (Value.type "tuple") (none : Option Nat) (Data.seq #[]) #[]) ::
  (nat_lit 62, Obj.mk (Value.type "code") (none : Option Nat) (Data.fields #[Value.str (Str.ofString "_div2n1n") (251 : Nat), Value.str (Str.ofString "_div2n1n") (252 : Nat), Value.str (Str.ofString "/claim/cut.py") (253 : Nat), Value.int (47 : Int) (0 : Nat), Value.int (3 : Int) (0 : Nat), Value.int (0 : Int) (0 : Nat), Value.int (0 : Int) (0 : Nat), Value.int (3 : Int) (0 : Nat), Value.ref (57 : Nat), Value.bool true, Value.int (181 : Int) (0 : Nat), Value.ref (58 : Nat), Value.none, Value.ref (59 : Nat), Value.ref (60 : Nat), Value.ref (61 : Nat), Value.int (265 : Int) (0 : Nat), Value.int (47 : Int) (0 : Nat), Value.str (Str.ofString "/claim/cut.py") (266 : Nat)]) #[]) ::
  (nat_lit 63, o63) ::
  (nat_lit 64, Obj.mk (Value.type "tuple") (none : Option Nat) (Data.seq #[]) #[]) ::
  (nat_lit 66, Obj.mk (Value.type "tuple") (none : Option Nat) (Data.seq #[Value.str (Str.ofString "a12") (271 : Nat), Value.str (Str.ofString "a3") (272 : Nat), Value.str (Str.ofString "b") (273 : Nat), Value.str (Str.ofString "b1") (274 : Nat), Value.str (Str.ofString "b2") (275 : Nat), Value.str (Str.ofString "n") (276 : Nat), Value.str (Str.ofString "q") (277 : Nat), Value.str (Str.ofString "r") (278 : Nat)]) #[]) ::
  (nat_lit 67, Obj.mk (Value.type "tuple") (none : Option Nat) (Data.seq #[]) #[]) ::
  (nat_lit 69, Obj.mk (Value.type "code") (none : Option Nat) (Data.fields #[Value.str (Str.ofString "_div3n2n") (268 : Nat), Value.str (Str.ofString "_div3n2n") (269 : Nat), Value.str (Str.ofString "/claim/cut.py") (270 : Nat), Value.int (63 : Int) (0 : Nat), Value.int (6 : Int) (0 : Nat), Value.int (0 : Int) (0 : Nat), Value.int (0 : Int) (0 : Nat), Value.int (3 : Int) (0 : Nat), Value.ref (64 : Nat), Value.bool true, Value.int (181 : Int) (0 : Nat), Value.ref (65 : Nat), Value.none, Value.ref (66 : Nat), Value.ref (67 : Nat), Value.ref (68 : Nat), Value.int (279 : Int) (0 : Nat), Value.int (63 : Int) (0 : Nat), Value.str (Str.ofString "/claim/cut.py") (280 : Nat)]) #[]) ::
  (nat_lit 70, o70) ::
  (nat_lit 71, Obj.mk (Value.type "tuple") (none : Option Nat) (Data.seq #[]) #[]) ::
  (nat_lit 73, Obj.mk (Value.type "tuple") (none : Option Nat) (Data.seq #[Value.str (Str.ofString "a") (285 : Nat), Value.str (Str.ofString "n") (286 : Nat)]) #[]) ::
  (nat_lit 74, Obj.mk (Value.type "tuple") (none : Option Nat) (Data.seq #[Value.str (Str.ofString "n") (287 : Nat), Value.str (Str.ofString "a_digits") (288 : Nat), Value.str (Str.ofString "inner") (289 : Nat)]) #[]) ::
  (nat_lit 76, Obj.mk (Value.type "code") (none : Option Nat) (Data.fields #[Value.str (Str.ofString "_int2digits") (282 : Nat), Value.str (Str.ofString "_int2digits") (283 : Nat), Value.str (Str.ofString "/claim/cut.py") (284 : Nat), Value.int (73 : Int) (0 : Nat), Value.int (2 : Int) (0 : Nat), Value.int (0 : Int) (0 : Nat), Value.int (0 : Int) (0 : Nat), Value.int (3 : Int) (0 : Nat), Value.ref (71 : Nat), Value.bool true, Value.int (181 : Int) (0 : Nat), Value.ref (72 : Nat), Value.none, Value.ref (73 : Nat), Value.ref (74 : Nat), Value.ref (75 : Nat), Value.int (290 : Int) (0 : Nat), Value.int (73 : Int) (0 : Nat), Value.str (Str.ofString "/claim/cut.py") (291 : Nat)]) #[]) ::
  (nat_lit 77, o77) ::
  (nat_lit 78, Obj.mk (Value.type "tuple") (none : Option Nat) (Data.seq #[]) #[]) ::
  (nat_lit 80, Obj.mk (Value.type "tuple") (none : Option Nat) (Data.seq #[Value.str (Str.ofString "digits") (296 : Nat), Value.str (Str.ofString "n") (297 : Nat)]) #[]) ::
  (nat_lit 81, Obj.mk (Value.type "tuple") (none : Option Nat) (Data.seq #[Value.str (Str.ofString "digits") (298 : Nat), Value.str (Str.ofString "n") (299 : Nat), Value.str (Str.ofString "inner") (300 : Nat)]) #[]) ::
  (nat_lit 83, Obj.mk (Value.type "code") (none : Option Nat) (Data.fields #[Value.str (Str.ofString "_digits2int") (293 : Nat), Value.str (Str.ofString "_digits2int") (294 : Nat), Value.str (Str.ofString "/claim/cut.py") (295 : Nat), Value.int (89 : Int) (0 : Nat), Value.int (2 : Int) (0 : Nat), Value.int (0 : Int) (0 : Nat), Value.int (0 : Int) (0 : Nat), Value.int (3 : Int) (0 : Nat), Value.ref (78 : Nat), Value.bool true, Value.int (181 : Int) (0 : Nat), Value.ref (79 : Nat), Value.none, Value.ref (80 : Nat), Value.ref (81 : Nat), Value.ref (82 : Nat), Value.int (301 : Int) (0 : Nat), Value.int (89 : Int) (0 : Nat), Value.str (Str.ofString "/claim/cut.py") (302 : Nat)]) #[]) ::
  (nat_lit 84, o84) ::
  (nat_lit 85, Obj.mk (Value.type "tuple") (none : Option Nat) (Data.seq #[]) #[]) ::
  (nat_lit 87, Obj.mk (Value.type "tuple") (none : Option Nat) (Data.seq #[Value.str (Str.ofString "a") (307 : Nat), Value.str (Str.ofString "b") (308 : Nat), Value.str (Str.ofString "n") (309 : Nat), Value.str (Str.ofString "a_digits") (310 : Nat), Value.str (Str.ofString "r") (311 : Nat), Value.str (Str.ofString "q_digits") (312 : Nat), Value.str (Str.ofString "a_digit") (313 : Nat), Value.str (Str.ofString "q_digit") (314 : Nat), Value.str (Str.ofString "q") (315 : Nat)]) #[]) ::
  (nat_lit 88, Obj.mk (Value.type "tuple") (none : Option Nat) (Data.seq #[]) #[]) ::
  (nat_lit 90, Obj.mk (Value.type "code") (none : Option Nat) (Data.fields #[Value.str (Str.ofString "_divmod_pos") (304 : Nat), Value.str (Str.ofString "_divmod_pos") (305 : Nat), Value.str (Str.ofString "/claim/cut.py") (306 : Nat), Value.int (98 : Int) (0 : Nat), Value.int (2 : Int) (0 : Nat), Value.int (0 : Int) (0 : Nat), Value.int (0 : Int) (0 : Nat), Value.int (3 : Int) (0 : Nat), Value.ref (85 : Nat), Value.bool true, Value.int (181 : Int) (0 : Nat), Value.ref (86 : Nat), Value.none, Value.ref (87 : Nat), Value.ref (88 : Nat), Value.ref (89 : Nat), Value.int (316 : Int) (0 : Nat), Value.int (98 : Int) (0 : Nat), Value.str (Str.ofString "/claim/cut.py") (317 : Nat)]) #[]) ::
  (nat_lit 91, o91) ::
  (nat_lit 92, Obj.mk (Value.type "tuple") (none : Option Nat) (Data.seq #[]) #[]) ::
  (nat_lit 94, Obj.mk (Value.type "tuple") (none : Option Nat) (Data.seq #[Value.str (Str.ofString "a") (322 : Nat), Value.str (Str.ofString "b") (323 : Nat), Value.str (Str.ofString "q") (324 : Nat), Value.str (Str.ofString "r") (325 : Nat)]) #[]) ::
  (nat_lit 95, Obj.mk (Value.type "tuple") (none : Option Nat) (Data.seq #[]) #[]) ::
  (nat_lit 97, Obj.mk (Value.type "code") (none : Option Nat) (Data.fields #[Value.str (Str.ofString "int_divmod") (319 : Nat), Value.str (Str.ofString "int_divmod") (320 : Nat), Value.str (Str.ofString "/claim/cut.py") (321 : Nat), Value.int (109 : Int) (0 : Nat), Value.int (2 : Int) (0 : Nat), Value.int (0 : Int) (0 : Nat), Value.int (0 : Int) (0 : Nat), Value.int (3 : Int) (0 : Nat), Value.ref (92 : Nat), Value.bool true, Value.int (181 : Int) (0 : Nat), Value.ref (93 : Nat), Value.none, Value.ref (94 : Nat), Value.ref (95 : Nat), Value.ref (96 : Nat), Value.int (326 : Int) (0 : Nat), Value.int (109 : Int) (0 : Nat), Value.str (Str.ofString "/claim/cut.py") (327 : Nat)]) #[]) ::
  (nat_lit 98, o98) ::
  (nat_lit 99, Obj.mk (Value.type "tuple") (none : Option Nat) (Data.seq #[]) #[]) ::
  (nat_lit 101, Obj.mk (Value.type "tuple") (none : Option Nat) (Data.seq #[Value.str (Str.ofString "addr") (334 : Nat), Value.str (Str.ofString "pos") (335 : Nat), Value.str (Str.ofString "escape") (336 : Nat), Value.str (Str.ofString "ch") (337 : Nat)]) #[]) ::
  (nat_lit 102, Obj.mk (Value.type "tuple") (none : Option Nat) (Data.seq #[]) #[]) ::
  (nat_lit 104, Obj.mk (Value.type "code") (none : Option Nat) (Data.fields #[Value.str (Str.ofString "_iter_escaped_chars") (331 : Nat), Value.str (Str.ofString "_iter_escaped_chars") (332 : Nat), Value.str (Str.ofString "/claim/cut.py") (333 : Nat), Value.int (121 : Int) (0 : Nat), Value.int (1 : Int) (0 : Nat), Value.int (0 : Int) (0 : Nat), Value.int (0 : Int) (0 : Nat), Value.int (35 : Int) (0 : Nat), Value.ref (99 : Nat), Value.bool true, Value.int (181 : Int) (0 : Nat), Value.ref (100 : Nat), Value.none, Value.ref (101 : Nat), Value.ref (102 : Nat), Value.ref (103 : Nat), Value.int (338 : Int) (0 : Nat), Value.int (121 : Int) (0 : Nat), Value.str (Str.ofString "/claim/cut.py") (339 : Nat)]) #[]) ::
  (nat_lit 105, o105) ::
  (nat_lit 106, Obj.mk (Value.type "tuple") (none : Option Nat) (Data.seq #[]) #[]) ::
  (nat_lit 108, Obj.mk (Value.type "tuple") (none : Option Nat) (Data.seq #[Value.str (Str.ofString "addr") (344 : Nat), Value.str (Str.ofString "start") (345 : Nat), Value.str (Str.ofString "open_pos") (346 : Nat), Value.str (Str.ofString "result") (347 : Nat), Value.str (Str.ofString "pos") (348 : Nat), Value.str (Str.ofString "ch") (349 : Nat)]) #[]) ::
  (nat_lit 109, Obj.mk (Value.type "tuple") (none : Option Nat) (Data.seq #[]) #[]) ::
  (nat_lit 111, Obj.mk (Value.type "code") (none : Option Nat) (Data.fields #[Value.str (Str.ofString "_strip_quoted_realnames") (341 : Nat), Value.str (Str.ofString "_strip_quoted_realnames") (342 : Nat), Value.str (Str.ofString "/claim/cut.py") (343 : Nat), Value.int (134 : Int) (0 : Nat), Value.int (1 : Int) (0 : Nat), Value.int (0 : Int) (0 : Nat), Value.int (0 : Int) (0 : Nat), Value.int (3 : Int) (0 : Nat), Value.ref (106 : Nat), Value.bool true, Value.int (181 : Int) (0 : Nat), Value.ref (107 : Nat), Value.none, Value.ref (108 : Nat), Value.ref (109 : Nat), Value.ref (110 : Nat), Value.int (350 : Int) (0 : Nat), Value.int (134 : Int) (0 : Nat), Value.str (Str.ofString "/claim/cut.py") (351 : Nat)]) #[]) ::
  (nat_lit 112, o112) ::
  (nat_lit 113, Obj.mk (Value.type "tuple") (none : Option Nat) (Data.seq #[]) #[]) ::
  (nat_lit 115, Obj.mk (Value.type "tuple") (none : Option Nat) (Data.seq #[Value.str (Str.ofString "addr") (356 : Nat), Value.str (Str.ofString "opens") (357 : Nat), Value.str (Str.ofString "pos") (358 : Nat), Value.str (Str.ofString "ch") (359 : Nat)]) #[]) ::
  (nat_lit 116, Obj.mk (Value.type "tuple") (none : Option Nat) (Data.seq #[]) #[]) ::
  (nat_lit 118, Obj.mk (Value.type "code") (none : Option Nat) (Data.fields #[Value.str (Str.ofString "_check_parenthesis") (353 : Nat), Value.str (Str.ofString "_check_parenthesis") (354 : Nat), Value.str (Str.ofString "/claim/cut.py") (355 : Nat), Value.int (152 : Int) (0 : Nat), Value.int (1 : Int) (0 : Nat), Value.int (0 : Int) (0 : Nat), Value.int (0 : Int) (0 : Nat), Value.int (3 : Int) (0 : Nat), Value.ref (113 : Nat), Value.bool true, Value.int (181 : Int) (0 : Nat), Value.ref (114 : Nat), Value.none, Value.ref (115 : Nat), Value.ref (116 : Nat), Value.ref (117 : Nat), Value.int (360 : Int) (0 : Nat), Value.int (152 : Int) (0 : Nat), Value.str (Str.ofString "/claim/cut.py") (361 : Nat)]) #[]) ::
  (nat_lit 119, o119) ::
  (nat_lit 120, Obj.mk (Value.type "tuple") (none : Option Nat) (Data.seq #[]) #[]) ::
  (nat_lit 122, Obj.mk (Value.type "tuple") (none : Option Nat) (Data.seq #[Value.str (Str.ofString "left") (368 : Nat), Value.str (Str.ofString "stream") (369 : Nat)]) #[]) ::
  (nat_lit 123, Obj.mk (Value.type "tuple") (none : Option Nat) (Data.seq #[Value.str (Str.ofString "left") (370 : Nat)]) #[]) ::
  (nat_lit 125, Obj.mk (Value.type "code") (none : Option Nat) (Data.fields #[Value.str (Str.ofString "_law_stream") (365 : Nat), Value.str (Str.ofString "_law_stream") (366 : Nat), Value.str (Str.ofString "/claim/cut.py") (367 : Nat), Value.int (164 : Int) (0 : Nat), Value.int (1 : Int) (0 : Nat), Value.int (0 : Int) (0 : Nat), Value.int (0 : Int) (0 : Nat), Value.int (3 : Int) (0 : Nat), Value.ref (120 : Nat), Value.bool true, Value.int (181 : Int) (0 : Nat), Value.ref (121 : Nat), Value.none, Value.ref (122 : Nat), Value.ref (123 : Nat), Value.ref (124 : Nat), Value.int (371 : Int) (0 : Nat), Value.int (164 : Int) (0 : Nat), Value.str (Str.ofString "/claim/cut.py") (372 : Nat)]) #[]) ::
  (nat_lit 126, o126) ::
  (nat_lit 127, Obj.mk (Value.type "tuple") (none : Option Nat) (Data.seq #[]) #[]) ::
  (nat_lit 130, Obj.mk (Value.type "code") (none : Option Nat) (Data.fields #[Value.str (Str.ofString "_law_counts") (374 : Nat), Value.str (Str.ofString "_law_counts") (375 : Nat), Value.str (Str.ofString "/claim/cut.py") (376 : Nat), Value.int (168 : Int) (0 : Nat), Value.int (4 : Int) (0 : Nat), Value.int (0 : Int) (0 : Nat), Value.int (0 : Int) (0 : Nat), Value.int (3 : Int) (0 : Nat), Value.ref (127 : Nat), Value.bool true, Value.int (181 : Int) (0 : Nat), Value.ref (128 : Nat), Value.none, Value.none, Value.none, Value.ref (129 : Nat), Value.int (377 : Int) (0 : Nat), Value.int (168 : Int) (0 : Nat), Value.str (Str.ofString "/claim/cut.py") (378 : Nat)]) #[]) ::
  (nat_lit 131, o131) ::
  (nat_lit 132, Obj.mk (Value.type "tuple") (none : Option Nat) (Data.seq #[]) #[]) ::
  (nat_lit 134, Obj.mk (Value.type "tuple") (none : Option Nat) (Data.seq #[Value.str (Str.ofString "number") (383 : Nat), Value.str (Str.ofString "root") (384 : Nat), Value.str (Str.ofString "part") (385 : Nat), Value.str (Str.ofString "rest") (386 : Nat)]) #[]) ::
  (nat_lit 135, Obj.mk (Value.type "tuple") (none : Option Nat) (Data.seq #[]) #[]) ::
  (nat_lit 137, Obj.mk (Value.type "code") (none : Option Nat) (Data.fields #[Value.str (Str.ofString "_law_root") (380 : Nat), Value.str (Str.ofString "_law_root") (381 : Nat), Value.str (Str.ofString "/claim/cut.py") (382 : Nat), Value.int (187 : Int) (0 : Nat), Value.int (2 : Int) (0 : Nat), Value.int (0 : Int) (0 : Nat), Value.int (0 : Int) (0 : Nat), Value.int (3 : Int) (0 : Nat), Value.ref (132 : Nat), Value.bool true, Value.int (181 : Int) (0 : Nat), Value.ref (133 : Nat), Value.none, Value.ref (134 : Nat), Value.ref (135 : Nat), Value.ref (136 : Nat), Value.int (387 : Int) (0 : Nat), Value.int (187 : Int) (0 : Nat), Value.str (Str.ofString "/claim/cut.py") (388 : Nat)]) #[]) ::
  (nat_lit 138, o138) ::
  (nat_lit 139, Obj.mk (Value.type "tuple") (none : Option Nat) (Data.seq #[]) #[]) ::
  (nat_lit 142, Obj.mk (Value.type "code") (none : Option Nat) (Data.fields #[Value.str (Str.ofString "law") (390 : Nat), Value.str (Str.ofString "law") (391 : Nat), Value.str (Str.ofString "/claim/cut.py") (392 : Nat), Value.int (193 : Int) (0 : Nat), Value.int (1 : Int) (0 : Nat), Value.int (0 : Int) (0 : Nat), Value.int (0 : Int) (0 : Nat), Value.int (3 : Int) (0 : Nat), Value.ref (139 : Nat), Value.bool true, Value.int (181 : Int) (0 : Nat), Value.ref (140 : Nat), Value.none, Value.none, Value.none, Value.ref (141 : Nat), Value.int (393 : Int) (0 : Nat), Value.int (193 : Int) (0 : Nat), Value.str (Str.ofString "/claim/cut.py") (394 : Nat)]) #[]) ::
  (nat_lit 143, o143) :: []
  rotate_left 17
  all_goals
    dsimp only [hd.fO, hd.fP, hd.fB, hd.fS, hd.sA, hd.clB, PySem.Challenge.pw_rs0143_01, List.getElem?_cons_zero, List.getElem?_cons_succ, Option.getD_some]
    exact rfl
/-- the text less its lines that bind a module's name -/
noncomputable def hd.view_39 : Program := PySem.W.view PySem.Challenge.pw_rs0143_01 [1, 3, 4, 5, 6, 7, 8, 9, 11, 12, 13, 15, 16, 17, 18]
noncomputable abbrev hd.hook : Hook := kmHook hd.heap_39 [2, 3, 22, 24, 25, 27, 28, 29, 31, 32, 34, 35, 36, 38, 39, 41, 42, 43, 45, 46, 48, 49, 50, 51, 52, 53, 54, 57, 59, 60, 62, 63, 64, 66, 67, 69, 70, 71, 73, 74, 76, 77, 78, 80, 81, 83, 84, 85, 87, 88, 90, 91, 92, 94, 95, 97, 98, 99, 101, 102, 104, 105, 106, 108, 109, 111, 112, 113, 115, 116, 118, 119, 120, 122, 123, 125, 126, 127, 130, 131, 132, 134, 135, 137, 138, 139, 142, 143] (fun _ => by kernel_rfl) [121, 72, 79]
/-- the top's run, checked at once by the kernel -/
theorem hd.left : LeftO PySem.Challenge.rw_rs0143_01.row.prog hd.view_39 [] (fun s => xlAt hd.view_39 [] s && recOk (RowW.records PySem.Challenge.rw_rs0143_01.row.toRowW) s) (Hook.obs hd.hook) (Hook.val hd.hook) 1708 := fun w => by kernel_rfl
theorem hd.said : PySem.Challenge.rw_rs0143_01.wellSaid = true := by kernel_rfl
theorem hd.chains : (chainsOk hd.view_39 && opensWell PySem.Challenge.rw_rs0143_01.row.prog && (frees PySem.Challenge.rw_rs0143_01.row.toRowW && PySem.Challenge.rw_rs0143_01.row.within.isEmpty)) = true := by kernel_rfl
end Mine
end
section
local macro_rules | `(tactic| walk_at "none 0") => `(tactic| skip)
open PySem PySem.W PyProof.Rows PySem.Calls PySem.Spec
set_option Elab.async false
set_option maxRecDepth 100000
set_option maxHeartbeats 8000000
set_option pp.deepTerms false
set_option pp.maxSteps 4000
namespace Mine
noncomputable abbrev tupO (vs : List Value) : Obj := { cls := .type "tuple", data := .seq vs.toArray }
/-- what a contract's caller brings -/
noncomputable abbrev Ctr (w : World) (news : List (Addr × Obj)) (need : Nat) (P : (Around → Shared → (Value → Shared → Prop) → (Value → Shared → Prop) → Heap → Heap → Addr → (Str → Option Value) → Prop)) : Prop :=
  ∀ (p : Program) (loose : List Str) (mean : ExcName → Option Value) (mg mb : Str → Option Value)
   (dp un : Nat) (gd : Option (List Code)) (cn : Str) (cs : Scope) (aa : Addr) (ccd : Value) (cl : List (Str × Addr)) (outer : List Env) (A₀ : Around) (base h₀ : Heap) (L : Addr) (m : Str → Option Value) (s : Shared) (Q E : Value → Shared → Prop),
   Below A₀ base outer h₀ → Fr h₀ L s.heap m → (hd.heap_39 w.params).In h₀ → News h₀ L s.heap news → Top p loose mean mg mb h₀ → cs.kind = .function →
   dp + need < recursionLimit → un + 8 * need < cLine → P (ktrTop dp un gd cn cs L aa ccd cl outer) s Q E base h₀ L m
noncomputable abbrev theM (w : World) := model PySem.Challenge.rw_rs0143_01.row.prog w

noncomputable def Hold (P : Prop) : Prop := P
theorem Hold.mk {P : Prop} (h : Hold P) : P := h
noncomputable def TailLt (x : Nat) (l : List (Addr × Obj)) : Prop := ∀ p ∈ l, p.1 < x
theorem tailNe {x d : Nat} {l : List (Addr × Obj)} (h : TailLt x l) (hx : x ≤ d) : ∀ p ∈ l, p.1 ≠ d := fun p hp e =>
  Nat.lt_irrefl d (by have h1 := Nat.lt_of_lt_of_le (h p hp) hx; rw [e] at h1; exact h1)
theorem tailLe {x d : Nat} {l : List (Addr × Obj)} (h : TailLt x l) (hx : x ≤ d) : ∀ p ∈ l, p.1 < d := fun p hp => Nat.lt_of_lt_of_le (h p hp) hx
theorem tailOf1 {x : Nat} {q : Addr × Obj} {l : List (Addr × Obj)} (h : ∀ p ∈ q :: l, p.1 < x) : TailLt x l := fun p hp => h p (.tail _ hp)
theorem tailOf2 {x : Nat} {q r : Addr × Obj} {l : List (Addr × Obj)} (h : ∀ p ∈ q :: r :: l, p.1 < x) : TailLt x l := fun p hp => h p (.tail _ (.tail _ hp))
noncomputable def bodyAt (p : Program) (i : Nat) : List Stmt := match p.main.body[i]? with
  | some (.FunctionDef _ _ b _ _ _ _ _ _ _) => b
  | _ => []
noncomputable def stmtAt (b : List Stmt) (i : Nat) : Stmt := (b[i]?).getD (.Pass default)
noncomputable def fnOfDef (st : Stmt) (qual : Str) (cl : List (Str × Addr)) (doc pm : Value) (c' : Addr) (ctv : Value) : Obj := match st with
  | .FunctionDef name params body _ _ _ scope _ _ _ => fnMade name qual params body scope cl doc pm c' ctv
  | _ => default
theorem divmod_K {w : World} {A : Around} {E : Value → Shared → Prop} {s : Shared} {a b : Int} {t u : Tok} {Q : Value → Shared → Prop} {h₀ : Heap} {L : Addr} {m : Str → Option Value} {news : List (Addr × Obj)} {prog : Program} (F : Fr h₀ L s.heap m) (N : News h₀ L s.heap news) (hb : b ≠ 0) (hp : Builtin.divisionGoesByPylong a b = false)
    (h : ∀ D h', Fr h₀ L h' m → News h₀ L h' ((D, tupO [.int (a.fdiv b) s.toks, .int (a.fmod b) (s.toks + 1)]) :: news) → (∀ p ∈ news, p.1 < D) →
      Q (.ref D) { s with toks := s.toks + 1 + 1, heap := h' }) :
    wpAny (model prog w) A (call (.builtin "divmod") [.int a t, .int b u]) Q E s :=
  divmod_N F N hb (fun h' F' N' => h _ h' F' N' fun p hp => Heap.lt_size (N p hp).1) (.inl hp)
local macro_rules | `(tactic| walk_at "call builtin:divmod") => `(tactic| (k_here; (with_reducible show wpAny _ _ (call (Value.builtin _) [Value.int _ _, Value.int _ _]) _ _ _); k_dflt (refine' divmod_K ?k1 ?k2 ?k3 ?k4 ?_; (case k1 => k_asm); (case k2 => k_asm); (case k3 => assumption); (case k4 => assumption); k_whole); intro D' h' F' N' l1; (try k_sweep)))
theorem c63 : ∀ (w : World) (news : List (Addr × Obj)) (a b n : Int) (ta tb tn : Tok),
   0 ≤ a → b ≠ 0 → Builtin.divisionGoesByPylong a b = false → (Builtin.Int.intBits a : Int) - n ≤ 4000 →
   Ctr w news 1 fun A s Q E _ h₀ L m =>
   (∀ D t1 t2 h' tk', Fr h₀ L h' m → News h₀ L h' ((D, tupO [.int (a.fdiv b) t1, .int (a.fmod b) t2]) :: news) → (∀ p ∈ news, p.1 < D) → Q (.ref D) { s with heap := h', toks := tk' }) →
      wpAny (theM w) A (call (.ref 63) [.int a ta, .int b tb, .int n tn]) Q E s := by
  dsimp only [Ctr, theM]
  k_fill
  intros
  rename_i hret
  refine wpAny_call ?_
  k_dflt cell_enter
  k_steps
  exact hret _ _ _ _ _ (by k_asm) (by k_asm) (by assumption)
end Mine
end
section
open PySem PySem.W PyProof.Rows PySem.Calls PySem.Spec
set_option maxRecDepth 100000
namespace Mine
section
variable {prog : Program} {w : World} {A : Around} {E : Value → Shared → Prop} {s : Shared} {a b n : Int} {t u : Tok} {Q : Value → Shared → Prop}
theorem mul_V (hm : IntMulOk a b) (h : ∀ v, v = a * b → Q (.int v s.toks) { s with toks := s.toks + 1 }) : wpAny (model prog w) A (binaryOp .Mult (.int a t) (.int b u)) Q E s := PyProof.Rows.mul_int (h _ rfl) hm
theorem shr_V (hn : 0 ≤ n) (h : ∀ v, v = a.fdiv (2 ^ n.toNat) → Q (.int v s.toks) { s with toks := s.toks + 1 }) : wpAny (model prog w) A (binaryOp .RShift (.int a t) (.int n u)) Q E s := rshift_int hn (h _ rfl)
theorem e27 : (2 : Int) ^ 27 = 134217728 := by decide
theorem shl_V (hn : 0 ≤ n) (hsz : (Builtin.Int.intBits a : Int) + n ≤ 134217728) (h : ∀ v, v = a * 2 ^ n.toNat → Q (.int v s.toks) { s with toks := s.toks + 1 }) : wpAny (model prog w) A (binaryOp .LShift (.int a t) (.int n u)) Q E s := lshift_int hn (e27 ▸ hsz) (h _ rfl)
theorem xor_V (h : ∀ v, v = Builtin.bitXor a b → Q (.int v s.toks) { s with toks := s.toks + 1 }) : wpAny (model prog w) A (binaryOp .BitXor (.int a t) (.int b u)) Q E s := PyProof.Rows.xor_int (h _ rfl)
theorem pow_V (hn : 0 ≤ n) (hsz : (Builtin.Int.intBits a : Int) * n ≤ 134217728) (h : ∀ v, v = a ^ n.toNat → Q (.int v s.toks) { s with toks := s.toks + 1 }) : wpAny (model prog w) A (binaryOp .Pow (.int a t) (.int n u)) Q E s := pow_int hn (e27 ▸ hsz) (h _ rfl)
theorem fdiv_V (hb : b ≠ 0) (hp : Builtin.divisionGoesByPylong a b = false) (h : ∀ v, v = a.fdiv b → Q (.int v s.toks) { s with toks := s.toks + 1 }) : wpAny (model prog w) A (binaryOp .FloorDiv (.int a t) (.int b u)) Q E s := floordiv_int hb (h _ rfl) (.inl hp)
end
end Mine
end
section
open PySem PySem.W PyProof.Rows PySem.Calls PySem.Spec
namespace Mine
/-- little-endian value in base 2 ^ n -/
noncomputable def val (n : Nat) : List Int → Int
  | [] => 0
  | d :: r => d + 2 ^ n * val n r
theorem val_append (n : Nat) : ∀ (a b : List Int), val n (a ++ b) = val n a + 2 ^ (n * a.length) * val n b
  | [], b => by simp [val]
  | d :: a, b => by
    have e : (2 : Int) ^ (n * (d :: a).length) = 2 ^ n * 2 ^ (n * a.length) := by
      rw [List.length_cons, Nat.mul_succ, Nat.add_comm, Int.pow_add]
    rw [List.cons_append, val, val_append n a b, e, val, Int.mul_add, Int.mul_assoc]
    omega
theorem and_shift (x s : Nat) : x &&& (x / 2 ^ s * 2 ^ s) = x / 2 ^ s * 2 ^ s := by
  rw [← Nat.shiftRight_eq_div_pow, ← Nat.shiftLeft_eq]
  apply Nat.eq_of_testBit_eq
  intro i
  rw [Nat.testBit_and, Nat.testBit_shiftLeft, Nat.testBit_shiftRight]
  by_cases h : s ≤ i
  · have : s + (i - s) = i := by omega
    rw [this]
    simp [h]
  · simp [h]
theorem bitAnd_nat (x y : Nat) : Builtin.bitAnd (x : Int) (y : Int) = ((x &&& y : Nat) : Int) := by
  unfold Builtin.bitAnd
  simp

theorem two_pow_pos (s : Nat) : (0 : Int) < 2 ^ s := Int.pow_pos (by decide)
theorem fdiv_pow (x : Int) (s : Nat) : x.fdiv (2 ^ s) = x / 2 ^ s := Int.fdiv_eq_ediv_of_nonneg _ (Int.le_of_lt (two_pow_pos s))
theorem xor_low (x : Int) (s : Nat) (hx : 0 ≤ x) : Builtin.bitXor x (x.fdiv (2 ^ s) * 2 ^ s) = x % 2 ^ s := by
  obtain ⟨k, rfl⟩ := Int.eq_ofNat_of_zero_le hx
  rw [fdiv_pow, bitXor_and]
  have e1 : (k : Int) / 2 ^ s * 2 ^ s = ((k / 2 ^ s * 2 ^ s : Nat) : Int) := by simp
  rw [e1, bitAnd_nat, and_shift, ← e1]
  have := Int.emod_add_mul_ediv (k : Int) (2 ^ s)
  rw [Int.mul_comm] at this
  omega
theorem low_lt (x : Int) (s : Nat) : 0 ≤ x % 2 ^ s ∧ x % 2 ^ s < 2 ^ s := ⟨Int.emod_nonneg _ (Int.ne_of_gt (two_pow_pos s)), Int.emod_lt_of_pos _ (two_pow_pos s)⟩
theorem up_lt {x : Int} {s t : Nat} (hx : 0 ≤ x) (h : x < 2 ^ (s + t)) : 0 ≤ x / 2 ^ s ∧ x / 2 ^ s < 2 ^ t := by
  refine ⟨Int.ediv_nonneg hx (Int.le_of_lt (two_pow_pos s)), Int.ediv_lt_of_lt_mul (two_pow_pos s) ?_⟩
  rw [← Int.pow_add, Nat.add_comm]
  exact h
theorem val_split {n : Nat} {x : Int} {k : Nat} {a b : List Int} (hk : a.length = k) (ha : val n a = x % 2 ^ (n * k)) (hb : val n b = x / 2 ^ (n * k)) : val n (a ++ b) = x := by
  rw [val_append, ha, hb, hk]
  exact Int.emod_add_mul_ediv x (2 ^ (n * k))
theorem bits_lt {x : Int} {k : Nat} (h0 : 0 ≤ x) (h : x < 2 ^ k) : Builtin.Int.intBits x ≤ k := by
  refine intBits_le_iff.mpr ?_
  obtain ⟨y, rfl⟩ := Int.eq_ofNat_of_zero_le h0
  have : ((y : Nat) : Int) < ((2 ^ k : Nat) : Int) := by simpa using h
  simpa using Int.ofNat_lt.mp this
theorem lt_of_bits {x : Int} {k : Nat} (h0 : 0 ≤ x) (h : Builtin.Int.intBits x ≤ k) : x < 2 ^ k := by
  have h1 := intBits_le_iff.mp h
  obtain ⟨y, rfl⟩ := Int.eq_ofNat_of_zero_le h0
  have h2 : y < 2 ^ k := by simpa using h1
  exact_mod_cast h2
theorem val_lt {n : Nat} : ∀ {l : List Int}, (∀ d ∈ l, 0 ≤ d ∧ d < 2 ^ n) → 0 ≤ val n l ∧ val n l < 2 ^ (n * l.length)
  | [], _ => by simp [val]
  | d :: l, h => by
    obtain ⟨h1, h2⟩ := val_lt (l := l) fun x hx => h x (.tail _ hx)
    obtain ⟨h3, h4⟩ := h d (.head _)
    have e : (2 : Int) ^ (n * (d :: l).length) = 2 ^ n * 2 ^ (n * l.length) := by
      rw [List.length_cons, Nat.mul_succ, Nat.add_comm, Int.pow_add]
    rw [e, val]
    have hp := two_pow_pos n
    generalize (2 : Int) ^ n = B at *
    generalize (2 : Int) ^ (n * l.length) = C at *
    have h5 : B * val n l ≤ B * (C - 1) := Int.mul_le_mul_of_nonneg_left (by omega) (by omega)
    have h6 : 0 ≤ B * val n l := Int.mul_nonneg (by omega) h1
    rw [Int.mul_sub, Int.mul_one] at h5
    constructor <;> omega
theorem half_is (l r : Nat) : ((l : Int) + r).fdiv (2 ^ Int.toNat 1) = (((l + r) / 2 : Nat) : Int) := by
  have : (2 : Int) ^ Int.toNat 1 = 2 := by decide
  rw [this, Int.fdiv_eq_ediv_of_nonneg _ (by decide)]
  omega
end Mine
end
section
open PySem PySem.W PyProof.Rows PySem.Calls PySem.Spec
set_option Elab.async false
set_option maxRecDepth 100000
set_option maxHeartbeats 8000000
set_option pp.deepTerms false
set_option pp.maxSteps 6000
namespace Mine
noncomputable abbrev inner77 : Stmt := stmtAt (bodyAt PySem.Challenge.pw_rs0143_01 6) 1
local macro_rules | `(tactic| k_all) => `(tactic| first | with_reducible assumption | exact tailNe (by assumption) (by omega))
local macro_rules | `(tactic| k_mem) => `(tactic| first | with_reducible assumption | exact List.Mem.head _ | (refine' List.mem_cons_of_mem _ ?_; k_mem))
local macro_rules | `(tactic| walk_at "mine enterN") => `(tactic| (refine' code_nest ?k1 ?k2 ?k3 ?k4 ?k5 ?kA ?kF ?kK ?k6 ?k7 ?k8 ?k9 ?kB ?_ ?c2 ?c3 ?c4 ?c5; (case kA => exact rfl); (case kF => exact rfl); (case kK => assumption); (case k1 => k_asm); (case k2 => k_asm); (case k3 => k_asm); (case k4 => k_asm); (case k5 => k_asm); (case k6 => k_mem); (case k7 => exact codeRec_news (by k_asm) (by k_mem) (by assumption) (by assumption)); (case k8 => ktr_room); (case k9 => exact BindsTo.of_eq rfl); (case c5 => decide); (case kB => exact locs rfl); (case c2 => exact rfl); (case c3 => exact rfl); (case c4 => exact rfl); k_whole; intro g' L' h' FG' F' N' B' X' T'; (try dsimp only); (try k_lift B'); (try k_fold)))
local macro_rules | `(tactic| walk_at "binaryOp Mult int int") => `(tactic| refine Hold.mk ?_)
local macro_rules | `(tactic| walk_at "binaryOp RShift int int") => `(tactic| refine Hold.mk ?_)
local macro_rules | `(tactic| walk_at "binaryOp LShift int int") => `(tactic| refine Hold.mk ?_)
local macro_rules | `(tactic| walk_at "binaryOp BitXor int int") => `(tactic| refine Hold.mk ?_)
local macro_rules | `(tactic| walk_at "call ref") => `(tactic| ((with_reducible show wpAny _ _ (call (Value.ref _) [Value.int _ _, Value.int _ _, Value.int _ _]) _ _ _); refine Hold.mk ?_))

theorem set_split {prog : Program} {w : World} {A : Around} {E : Value → Shared → Prop} {s : Shared} {h₀ : Heap} {L D : Addr} {m : Str → Option Value} {rest : List (Addr × Obj)} {pre post : List Value} {v0 v : Value} {n : Nat} {k : Int} {t : Tok}
    {Q : Unit → Shared → Prop} (F : Fr h₀ L s.heap m) (N : News h₀ L s.heap ((D, W.listOf (pre ++ v0 :: post).toArray n) :: rest)) (aw : ∀ p ∈ rest, p.1 ≠ D) (hk : k = (pre.length : Int)) (hfit : pre.length < 100000)
    (h : ∀ h', Fr h₀ L h' m → News h₀ L h' ((D, W.listOf (pre ++ v :: post).toArray n) :: rest) → Q () { s with heap := h' }) :
    wpAny (model prog w) A (setItem (.ref D) (.int k t) v) Q E s := by
  have z := N _ (.head _)
  subst hk
  refine ki_setAt z.1 (by omega) (by omega) (by simp; omega) (h _ (F.change (Heap.SameBut.update ..) z.2.1 z.2.2) (ki_turn (pre := []) _ N (fun _ hp => nomatch hp) aw ?_ ?_))
  · show (pre ++ v0 :: post).toArray.setIfInBounds ((pre.length : Int)).toNat v = (pre ++ v :: post).toArray
    apply Array.toList_inj.mp
    simp
  · simp
theorem c_inner77 : ∀ (w : World) (sz : Nat) (rest : List (Addr × Obj)) (fI cA cN cI D c' : Addr) (oA oN oI oc : Obj) (vsc : Array Value) (tq : Tok) (k : Nat) (pre old post : List Value) (x l r n : Int) (tx tl tr tn : Tok) (doc pm ctv : Value),
   old.length = sz → 1 ≤ sz → l = (pre.length : Int) → r = (pre.length : Int) + (old.length : Int) → 0 ≤ x → x < 2 ^ (n.toNat * sz) → 0 < n → n.toNat * sz ≤ 100000 → pre.length + old.length + post.length ≤ 100000 →
   (fI, fnOfDef inner77 (Str.ofString "_int2digits.<locals>.inner") [(Str.ofString "n", cN), (Str.ofString "inner", cI), (Str.ofString "a_digits", cA)] doc pm c' ctv) ∈ rest →
   (c', oc) ∈ rest → oc.data = .fields vsc → vsc[1]? = some (.str (Str.ofString "_int2digits.<locals>.inner") tq) →
   (cA, oA) ∈ rest → oA.data = .cell (some (.ref D)) → (cN, oN) ∈ rest → oN.data = .cell (some (.int n tn)) → (cI, oI) ∈ rest → oI.data = .cell (some (.ref fI)) →
   (∀ p ∈ rest, p.1 ≠ D) →
   Ctr w ((D, W.listOf (pre ++ old ++ post).toArray k) :: rest) sz fun A s Q E base h₀ L m => CodeHd base 76 72 →
     (∀ new ns h' tk', Fr h₀ L h' m → News h₀ L h' ((D, W.listOf (pre ++ new ++ post).toArray k) :: rest) → IntsAre new ns → ns.length = sz → val n.toNat ns = x → (∀ d ∈ ns, 0 ≤ d ∧ d < 2 ^ n.toNat) → Q .none { s with heap := h', toks := tk' }) →
     wpAny (theM w) A (call (.ref fI) [.int x tx, .int l tl, .int r tr]) Q E s := by
  intro w sz
  induction sz using Nat.strongRecOn with
  | _ sz IH =>
  dsimp only [Ctr, theM, fnOfDef] at IH ⊢
  simp only [inner77, stmtAt, bodyAt, PySem.Challenge.pw_rs0143_01, List.getElem?_cons_zero, List.getElem?_cons_succ, Option.getD_some] at IH ⊢
  k_fill
  intro rest fI cA cN cI D c' oA oN oI oc vsc tq k pre old post x l r n tx tl tr tn doc pm ctv hsz h1 hl hr hx0 hx1 hn0 hn1 hlen mF mC dC vC mA dA mN dN mI dI hAw
  intros
  rename_i hret
  refine wpAny_call ?_
  k_dflt (refine' code_nest ?k1 ?k2 ?k3 ?k4 ?k5 ?kA ?kF ?kK ?k6 ?k7 ?k8 ?k9 ?kB ?_ ?c2 ?c3 ?c4 ?c5; (case kA => exact rfl); (case kF => exact rfl); (case kK => assumption); (case k1 => k_asm); (case k2 => k_asm); (case k3 => k_asm); (case k4 => k_asm); (case k5 => k_asm); (case k6 => k_mem); (case k7 => exact codeRec_news (by k_asm) (by k_mem) (by assumption) (by assumption)); (case k8 => ktr_room); (case k9 => exact BindsTo.of_eq rfl); (case c5 => decide); (case kB => exact locs rfl); (case c2 => exact rfl); (case c3 => exact rfl); (case c4 => exact rfl); k_whole; intro g' L' h' FG' F' N' B' X' T'; (try dsimp only); (try k_lift B'); (try k_fold))
  k_steps
  · have e1 : sz = 1 := by omega
    subst e1
    obtain ⟨v0, rfl⟩ : ∃ v0, old = [v0] := List.length_eq_one_iff.mp hsz
    rename_i F' N' _ _ _
    have N2 := N'
    rw [List.append_assoc, List.singleton_append] at N2
    refine set_split (by k_asm) N2 hAw hl (by omega) fun h2 F2 N2 => ?_
    k_steps
    refine hret [Value.int x tx] [x] _ _ (by k_asm) ?_ (.cons _ _ .nil) rfl (by simp [val]) ?_
    · rw [List.append_assoc, List.singleton_append]
      k_asm
    · intro d hd
      rw [List.mem_singleton.mp hd]
      rw [Nat.mul_one] at hx1
      exact ⟨hx0, hx1⟩
  · have hne : ¬ l + 1 = r := by assumption
    have hs2 : 2 ≤ sz := by omega
    obtain ⟨k1, hk1⟩ : ∃ k1, k1 = sz / 2 := ⟨_, rfl⟩
    obtain ⟨k2, hk2⟩ : ∃ k2, k2 = sz - k1 := ⟨_, rfl⟩
    have hk12 : k1 + k2 = sz ∧ 1 ≤ k1 ∧ 1 ≤ k2 := by omega
    refine shr_V (by decide) fun mid hmid => ?_
    have hmid' : mid = (pre.length : Int) + (k1 : Int) := by
      have e : (2 : Int) ^ Int.toNat 1 = 2 := by decide
      rw [e, Int.fdiv_eq_ediv_of_nonneg _ (by decide)] at hmid
      omega
    k_steps
    obtain ⟨nn, hnn⟩ : ∃ nn : Nat, nn = n.toNat := ⟨_, rfl⟩
    have hnI : n = (nn : Int) := by omega
    rw [← hnn] at hx1 hn1
    have hnle : nn ≤ 100000 := Nat.le_trans (Nat.le_mul_of_pos_right nn (by omega)) hn1
    have hsum : nn * k1 + nn * k2 = nn * sz := by rw [← Nat.mul_add, hk12.1]
    refine mul_V (IntMulOk.of_le (m := 20) (n := 20) (intBits_le_iff.mpr (by omega)) (intBits_le_iff.mpr (by omega)) (by decide)) fun sh hsh => ?_
    have hsh' : sh = ((nn * k1 : Nat) : Int) := by
      rw [hsh, hmid', hl, hnI, Int.natCast_mul, Int.mul_comm]
      congr 1
      omega
    k_steps
    refine shr_V (by omega) fun up hup => ?_
    have hup' : up = x / 2 ^ (nn * k1) := by rw [hup, hsh', Int.toNat_natCast, fdiv_pow]
    have hupb : 0 ≤ up ∧ up < 2 ^ (nn * k2) := by rw [hup']; exact up_lt hx0 (by rw [hsum]; exact hx1)
    have hupB : Builtin.Int.intBits up ≤ nn * k2 := bits_lt hupb.1 hupb.2
    k_steps
    refine shl_V (by omega) (by omega) fun ub hub => ?_
    k_steps
    refine xor_V fun lo hlo => ?_
    have hlo' : lo = x % 2 ^ (nn * k1) := by
      rw [hlo, hub, hup, hsh', Int.toNat_natCast]
      exact xor_low x _ hx0
    k_steps
    have hlob : 0 ≤ lo ∧ lo < 2 ^ (nn * k1) := by rw [hlo']; exact low_lt x _
    have ht1 : (old.take k1).length = k1 := by rw [List.length_take]; omega
    have ht2 : (old.drop k1).length = k2 := by rw [List.length_drop]; omega
    have eo : pre ++ old ++ post = pre ++ old.take k1 ++ (old.drop k1 ++ post) := by
      conv => lhs; rw [← List.take_append_drop k1 old]
      simp only [List.append_assoc]
    rename News _ _ _ _ => N9
    rw [eo] at N9
    refine' IH k1 (by omega) rest fI cA cN cI D c' oA oN oI oc vsc tq k pre (old.take k1) (old.drop k1 ++ post) lo l mid n _ _ _ tn doc pm ctv ht1 hk12.2.1 hl (by rw [ht1]; exact hmid') hlob.1 (by rw [← hnn]; exact hlob.2) hn0 (by rw [← hnn]; omega) (by rw [ht1, List.length_append, ht2]; omega) mF mC dC vC mA dA mN dN mI dI hAw _ _ _ _ _ _ _ _ _ _ _ _ _ _ _ _ _ _ _ _ _ _ ?b1 ?b2 ?b3 ?b4 ?b5 ?b6 ?b7 ?b8 ?b9 ?_
    case b1 => k_asm
    case b2 => k_asm
    case b3 => k_asm
    case b4 => k_asm
    case b5 => k_asm
    case b6 => exact rfl
    case b7 => ktr_room
    case b8 => ktr_units
    case b9 => assumption
    intro new1 ns1 h9 tk9 F9 N9 hI1 hL1 hV1 hB1
    (try dsimp only)
    (try k_fold)
    k_steps
    have hn1l : new1.length = k1 := by rw [hI1.length]; exact hL1
    have eo2 : pre ++ new1 ++ (old.drop k1 ++ post) = (pre ++ new1) ++ old.drop k1 ++ post := by simp only [List.append_assoc]
    rw [eo2] at N9
    refine' IH k2 (by omega) rest fI cA cN cI D c' oA oN oI oc vsc tq k (pre ++ new1) (old.drop k1) post up mid r n _ _ _ tn doc pm ctv ht2 hk12.2.2 (by rw [List.length_append, hn1l, hmid']; omega) (by rw [List.length_append, hn1l, ht2]; omega) hupb.1 (by rw [← hnn]; exact hupb.2) hn0 (by rw [← hnn]; omega) (by rw [List.length_append, hn1l, ht2]; omega) mF mC dC vC mA dA mN dN mI dI hAw _ _ _ _ _ _ _ _ _ _ _ _ _ _ _ _ _ _ _ _ _ _ ?b1 ?b2 ?b3 ?b4 ?b5 ?b6 ?b7 ?b8 ?b9 ?_
    case b1 => k_asm
    case b2 => k_asm
    case b3 => k_asm
    case b4 => k_asm
    case b5 => k_asm
    case b6 => exact rfl
    case b7 => ktr_room
    case b8 => ktr_units
    case b9 => assumption
    intro new2 ns2 h10 tk10 F10 N10 hI2 hL2 hV2 hB2
    (try dsimp only)
    (try k_fold)
    k_steps
    refine hret (new1 ++ new2) (ns1 ++ ns2) _ _ (by k_asm) ?_ (hI1.append hI2) (by rw [List.length_append]; omega) ?_ ?_
    · rw [← List.append_assoc]
      k_asm
    · rw [← hnn] at hV1 hV2 ⊢
      exact val_split hL1 (hV1.trans hlo') (hV2.trans hup')
    · intro d hd
      rcases List.mem_append.mp hd with hd | hd
      · exact hB1 d hd
      · exact hB2 d hd
end Mine
end
section
open PySem PySem.W PyProof.Rows PySem.Calls PySem.Spec
set_option Elab.async false
set_option maxRecDepth 100000
namespace Mine
/-- a def's code table: empty, or with the one nested def's code, which lies in rest -/
noncomputable def TabOk (line col : Nat) (q : Str) (ps : Array Value) (rest : List (Addr × Obj)) : Prop :=
  ps = #[] ∨ ∃ c oc vs tq, ps = #[rawInt line, rawInt col, .ref c] ∧ (c, oc) ∈ rest ∧ oc.data = .fields vs ∧ vs[1]? = some (.str q tq)
theorem updF_app {P : Addr} {o : Obj} {rest : List (Addr × Obj)} (hr : ∀ p ∈ rest, p.1 ≠ P) : ∀ {pre : List (Addr × Obj)}, (∀ p ∈ pre, p.1 ≠ P) → UpdF P o (pre ++ (P, o) :: rest) (fun o' => pre ++ (P, o') :: rest)
  | [], _ => .head hr
  | q :: pre, h => .tail (h q (.head _)) (updF_app hr fun p hp => h p (.tail _ hp))
section
variable {M : Model} {A : Around} {E : Value → Shared → Prop} {s : Shared} {h₀ : Heap} {L a c P : Addr} {m mg mb : Str → Option Value} {cn : Str} {cs : Scope} {ccd : Value} {cl : List (Str × Addr)} {pre rest : List (Addr × Obj)}
  {p : Program} {loose : List Str} {mean : ExcName → Option Value} {name qual : Str} {params : Arguments} {body : List Stmt} {scope : Scope} {ps : Array Value} {pos : Pos} {firstLine : Nat} {clos : List (Str × Addr)}
theorem nest_any {Q : Value → Shared → Prop} (F : Fr h₀ L s.heap m) (N : News h₀ L s.heap (pre ++ (P, tabObj ps) :: rest)) (T : Top p loose mean mg mb h₀) (C : CodeHd h₀ c P) (hcd : ccd = .ref c) (hTab : TabOk pos.line pos.col qual ps rest)
    (hpre : ∀ p ∈ pre, p.1 ≠ P) (hAw : ∀ p ∈ rest, p.1 ≠ P) (hcl : closureFor scope (envX cn cs L a ccd cl) = pure clos)
    (h : ∀ f c' oc vs t ctv doc ps' extra h' tk, Fr h₀ L h' m → News h₀ L h' ((f, fnMade name qual params body scope clos doc ((mg "__name__").getD .none) c' ctv) :: (pre ++ (P, tabObj ps') :: (extra ++ rest))) →
      (c', oc) ∈ extra ++ rest → oc.data = .fields vs → vs[1]? = some (.str qual t) → TabOk pos.line pos.col qual ps' (extra ++ rest) → (∀ p ∈ extra ++ rest, p.1 ≠ P) →
      (∀ q ∈ extra, ∀ p ∈ pre ++ (P, tabObj ps) :: rest, p.1 < q.1) → (∀ p ∈ pre ++ (P, tabObj ps') :: (extra ++ rest), p.1 < f) → Q (.ref f) { s with heap := h', toks := tk }) :
    wpAny M A (makeFunction name qual params (.stmts body) scope (envX cn cs L a ccd cl) [] [] [] pos firstLine) Q E s := by
  rcases hTab with rfl | ⟨c₁, oc, vs, tq, rfl, mC, dC, vC⟩
  · refine nest_K F N T C hcd (updF_app hAw hpre) trivial rfl hcl fun f c' oc vs t ctv doc h' tk F' N' d1 d2 l1 l2 => ?_
    have hP : P < c' := l1 (P, tabObj #[]) (List.mem_append_right _ (.head _))
    refine h f c' oc vs t ctv doc _ [(c', oc)] h' tk F' (fun q hq => N' q ?_) (.head _) d1 d2 (.inr ⟨c', oc, vs, t, rfl, .head _, d1, d2⟩) (fun q hq => ?_) (fun q hq p hp => ?_) (fun q hq => ?_)
    · simp only [List.mem_cons, List.mem_append, List.not_mem_nil, or_false] at hq ⊢
      rcases hq with h | h | h | h | h <;> simp [h]
    · rcases List.mem_cons.mp hq with rfl | hq
      · exact Nat.ne_of_gt hP
      · exact hAw q hq
    · rw [List.mem_singleton.mp hq]
      exact l1 p hp
    · simp only [List.mem_cons, List.mem_append, List.not_mem_nil, or_false] at hq
      rcases hq with h | rfl | rfl | h
      · exact Nat.lt_trans (l1 q (List.mem_append_left _ h)) l2
      · exact Nat.lt_trans hP l2
      · exact l2
      · exact Nat.lt_trans (l1 q (List.mem_append_right _ (.tail _ h))) l2
  · refine nestHit_K (c' := c₁) F N T C hcd (List.mem_append_right _ (.head _)) (by simp [TriplesOk, rawInt]) (by simp [codeAmong, rawInt]) hcl fun f ctv doc h' tk F' N' l1 => ?_
    exact h f c₁ oc vs tq ctv doc _ [] h' tk F' N' mC dC vC (.inr ⟨c₁, oc, vs, tq, rfl, mC, dC, vC⟩) hAw (fun q hq => nomatch hq) l1
end
theorem news_swap {h₀ h : Heap} {L : Addr} {a b : Addr × Obj} {r : List (Addr × Obj)} (N : News h₀ L h (a :: b :: r)) : News h₀ L h (b :: a :: r) := fun p hp => N p (by
  simp only [List.mem_cons] at hp ⊢
  rcases hp with h | h | h <;> simp [h])
theorem ne_of_front {extra rest front : List (Addr × Obj)} {q : Addr × Obj} {x L : Nat} {o : Obj} (hex : ∀ q' ∈ extra, ∀ p ∈ front ++ q :: rest, p.1 < q'.1) (hT : TailLt L rest) (hx : L ≤ x) (hm : (x, o) ∈ front) : ∀ p ∈ extra ++ rest, p.1 ≠ x := fun p hp => by
  rcases List.mem_append.mp hp with hp | hp
  · exact Nat.ne_of_gt (hex p hp (x, o) (List.mem_append_left _ hm))
  · exact Nat.ne_of_lt (Nat.lt_of_lt_of_le (hT p hp) hx)
section
variable {prog : Program} {w : World} {A : Around} {E : Value → Shared → Prop} {s : Shared} {h₀ : Heap} {L : Addr} {m : Str → Option Value} {news : List (Addr × Obj)} {l : Addr} {v : Value} {x : Int} {u : Tok} {Q : Value → Shared → Prop}
theorem rep_V (Fm : Fr h₀ L s.heap m) (N : News h₀ L s.heap news) (hl : s.heap.IsList l #[v]) (hlo : 0 ≤ x) (hhi : x ≤ 10000)
    (h : ∀ D h', Fr h₀ L h' m → News h₀ L h' ((D, W.listOf (List.replicate x.toNat v).toArray 0) :: news) → (∀ p ∈ news, p.1 < D) → Q (.ref D) { s with heap := h' }) : wpAny (model prog w) A (binaryOp .Mult (.ref l) (.int x u)) Q E s := by
  have e : (List.replicate x.toNat [v]).flatten = List.replicate x.toNat v := by
    generalize x.toNat = k
    induction k with
    | zero => rfl
    | succ k ih => rw [List.replicate_succ, List.flatten_cons, ih, List.replicate_succ]; rfl
  have hsz' : (#[v] : Array Value).size * x.toNat ≤ 2 ^ 24 := by simp; omega
  obtain ⟨⟨cls, d, data, sl⟩, ho, hcl, k, hd⟩ := id hl
  simp only at hcl hd
  subst hcl hd
  refine wpAny_binaryOp_repeat_ref (T := "list") (U := "int") (by decide) ⟨_, ho, rfl⟩ (fun s' => typeIs_int s' x u) noFill_list_mul F.fills_int_mul F.slot_int_rmul repeat_list F.slot_int_index.lookup
    (call_meets F.slot_int_rmul (typeIs_int s x u) F.entry_int_rmul (F.args_int_rmul_2 _ _) (lm_int_rmul_list_any x u l #[v] k d sl)
      ⟨ho, rfl, ⟨_, ho, rfl⟩, call_meets F.slot_list_mul ⟨_, ho, rfl⟩ F.entry_list_mul (F.args_list_mul_2 _ _)
        (lm_list_mul_any l #[v] k d sl x u (by simp [Builtin.List.listFitsIndex]; omega) (by omega) (by simp [Builtin.List.listTooLong, sizeLine]; omega))
        ⟨ho, ?_⟩⟩)
  have N' := News.push Fm N { cls := Value.type "list", data := Data.seq (List.foldl (fun x1 x2 => x1 ++ x2) #[] (List.replicate (if (#[v] : Array Value).isEmpty = true then 0 else x.toNat) #[v])) }
  rw [show (#[v] : Array Value) = [v].toArray from rfl, listMul_foldl_if, e] at N'
  rw [show (#[v] : Array Value) = [v].toArray from rfl, listMul_foldl_if, e]
  exact h _ _ (Fm.push _) N' (fun p hp => Heap.lt_size (N p hp).1)
end
end Mine
end
section
open PySem PySem.W PyProof.Rows PySem.Calls PySem.Spec
open Mine
local macro_rules | `(tactic| k_mem) => `(tactic| first | with_reducible assumption | exact List.Mem.head _ | (refine' List.mem_cons_of_mem _ ?_; k_mem))
local macro_rules | `(tactic| k_all) => `(tactic| w_strict (first | with_reducible assumption | exact tailNe (by assumption) (by omega)))
section
open PySem PySem.W PyProof.Rows PySem.Calls PySem.Spec
set_option Elab.async false
set_option maxRecDepth 100000
set_option maxHeartbeats 8000000
set_option pp.deepTerms false
set_option pp.maxSteps 6000
namespace Mine
local macro_rules | `(tactic| walk_at "binaryOp Mult int int") => `(tactic| refine Hold.mk ?_)
local macro_rules | `(tactic| walk_at "binaryOp FloorDiv int int") => `(tactic| refine Hold.mk ?_)
local macro_rules | `(tactic| walk_at "binaryOp Mult ref int") => `(tactic| refine Hold.mk ?_)
local macro_rules | `(tactic| walk_at "exec FunctionDef") => `(tactic| refine Hold.mk ?_)
local macro_rules | `(tactic| walk_at "call builtin:len") => `(tactic| refine Hold.mk ?_)
local macro_rules | `(tactic| walk_at "call ref") => `(tactic| ((with_reducible show wpAny _ _ (call (Value.ref _) [Value.int _ _, Value.int _ _, Value.int _ _]) _ _ _); refine Hold.mk ?_))
theorem c77 : ∀ (w : World) (rest : List (Addr × Obj)) (ps : Array Value) (a n : Int) (ta tn : Tok),
   TabOk 76 4 (Str.ofString "_int2digits.<locals>.inner") ps rest → (∀ p ∈ rest, p.1 ≠ 72) → 0 ≤ a → 0 < n → n ≤ 10000 → (Builtin.Int.intBits a : Int) ≤ 250 * n → Builtin.Int.intBits a ≤ 10000 →
   Ctr w ((72, tabObj ps) :: rest) 300 fun A s Q E base h₀ L m => CodeHd base 76 72 →
     (∀ D ps' extra new ns h' tk', Fr h₀ L h' m → News h₀ L h' ((D, W.listOf new.toArray 0) :: (72, tabObj ps') :: (extra ++ rest)) → TabOk 76 4 (Str.ofString "_int2digits.<locals>.inner") ps' (extra ++ rest) → (∀ p ∈ extra ++ rest, p.1 ≠ 72) →
       (∀ p ∈ (72, tabObj ps') :: (extra ++ rest), p.1 ≠ D) → (∀ q ∈ extra, ∀ p ∈ (72, tabObj ps) :: rest, p.1 < q.1) → (∀ p ∈ (72, tabObj ps) :: rest, p.1 < D) → IntsAre new ns → val n.toNat ns = a → (∀ d ∈ ns, 0 ≤ d ∧ d < 2 ^ n.toNat) → ns.length ≤ 250 → Q (.ref D) { s with heap := h', toks := tk' }) →
     wpAny (theM w) A (call (.ref 77) [.int a ta, .int n tn]) Q E s := by
  dsimp only [Ctr, theM]
  k_fill
  intro w rest ps a n ta tn hTab hAw ha hn0 hn1 hab1 hab
  intros
  rename_i hret
  refine wpAny_call ?_
  k_dflt (refine' code_defC ?k1 ?k2 ?k3 ?k4 ?k5 ?kA ?kF ?kK ?k6 ?k7 ?k8 ?k9 ?kB ?kD ?_ ?c2 ?c3 ?c4; (case kA => exact rfl); (case kF => exact rfl); (case kK => assumption); (case k1 => k_asm); (case k2 => k_asm); (case k3 => k_asm); (case k4 => k_asm); (case k5 => k_asm); (case k6 => k_is); (case k7 => k_is); (case k8 => ktr_room); (case k9 => exact BindsTo.of_eq rfl); (case kB => exact rfl); (case kD => decide +kernel); (case c2 => exact rfl); (case c3 => exact rfl); (case c4 => exact rfl); k_whole; intro g' L' h' tk' cells' FG' F' N' Y' B' X' T' l1; (have hTl := tailOf1 l1); (try k_lt l1); k_cells Y'; (try simp only [List.cons_append, List.nil_append] at N'); (try dsimp only); (try k_lift B'); (try k_fold))
  k_steps
  refine fdiv_V (by omega) (PyProof.noPylong_small (by omega)) fun d hd => ?_
  obtain ⟨hd0, hd1, hd2, hd3⟩ : 0 ≤ d ∧ d ≤ 250 ∧ (Builtin.Int.intBits a : Int) ≤ n * d ∧ n * d ≤ Builtin.Int.intBits a + n - 1 := by
    rw [Int.fdiv_eq_ediv_of_nonneg _ (by omega)] at hd
    have e1 := Int.mul_ediv_add_emod ((Builtin.Int.intBits a : Int) + n - 1) n
    have e2 := Int.emod_nonneg ((Builtin.Int.intBits a : Int) + n - 1) (show n ≠ 0 by omega)
    have e3 := Int.emod_lt_of_pos ((Builtin.Int.intBits a : Int) + n - 1) hn0
    rw [← hd] at e1
    have e4 : 0 ≤ d := by rw [hd]; exact Int.ediv_nonneg (by omega) (by omega)
    refine ⟨e4, ?_, by omega, by omega⟩
    rw [hd]
    exact Int.le_of_lt_add_one (Int.ediv_lt_of_lt_mul hn0 (by omega))
  k_steps
  k_dflt (refine' rep_V ?F ?N ?l ?lo ?hi ?_; (case F => k_asm); (case N => k_asm); (case l => is_list); (case lo => omega); (case hi => omega); k_whole)
  intro D' h' F' N' l1
  (try k_lt l1)
  (try k_sweep)
  k_steps
  refine Hold.mk (nestDef_K rfl rfl rfl ?_)
  rename News _ _ _ _ => N5
  refine nest_any (pre := [_, _, _, _, _]) (by k_asm) N5 (by k_asm) (by kn_code) rfl hTab (by k_all) hAw rfl ?_
  intro f' c' oc' vs' t' ct' dc' ps' extra h5 tk5 F5 N6 mC dC vC hTab' hAw' hex hlt
  clear N5
  have n1 := ne_of_front hex hTl (x := D') (by omega) (by k_mem)
  have n2 := ne_of_front hex hTl (x := L' + 1 + 1 + 1) (by omega) (by k_mem)
  have n3 := ne_of_front hex hTl (x := L' + 1 + 1) (by omega) (by k_mem)
  have n4 := ne_of_front hex hTl (x := L' + 1) (by omega) (by k_mem)
  have hex' : ∀ q ∈ extra, ∀ p ∈ (72, tabObj ps) :: rest, p.1 < q.1 := fun q hq p hp => hex q hq p (List.mem_append_right _ hp)
  have hf' := @ltN D' f' (hlt (D', _) (by k_mem))
  have hf2 := @ltN (L' + 1 + 1 + 1) f' (hlt (L' + 1 + 1 + 1, _) (by k_mem))
  have hfR : ∀ p ∈ extra ++ rest, p.1 < f' := fun p hp => hlt p (List.mem_append_right _ (.tail _ hp))
  clear hlt hex
  generalize hR : extra ++ rest = R at *
  simp only [List.cons_append, List.nil_append] at N6
  k_steps
  · rename News _ _ _ _ => N7
    refine len_list (l := D') (items := (List.replicate d.toNat (Value.int 0 tk')).toArray) (PySem.IsL.isList (n := 0) (N7 (D', W.listOf (List.replicate d.toNat (Value.int 0 tk')).toArray 0) (by k_mem)).1) (by simp; omega) ?_
    have hd9 : 1 ≤ d := by
      have hb1 : 1 ≤ Builtin.Int.intBits a := by
        by_cases hz : 1 ≤ Builtin.Int.intBits a
        · exact hz
        · exfalso
          have hz2 := intBits_le_iff.mp (show Builtin.Int.intBits a ≤ 0 by omega)
          simp at hz2
          exact absurd hz2 (by assumption)
      by_cases hz : 1 ≤ d
      · exact hz
      · exfalso
        have : d = 0 := by omega
        rw [this, Int.mul_zero] at hd2
        omega
    k_steps
    rename News _ _ _ _ => N8
    have N9 := news_swap N8
    clear N8
    have e0 : (List.replicate d.toNat (Value.int 0 tk')) = [] ++ List.replicate d.toNat (Value.int 0 tk') ++ [] := by simp
    rw [e0] at N9
    have hsz : (List.replicate d.toNat (Value.int 0 tk')).length = d.toNat := by simp
    have hnd : n.toNat * d.toNat ≤ 100000 := by
      have : ((n.toNat * d.toNat : Nat) : Int) = n * d := by rw [Int.natCast_mul, Int.toNat_of_nonneg (by omega), Int.toNat_of_nonneg hd0]
      omega
    have haP : a < 2 ^ (n.toNat * d.toNat) := by
      have hz : Builtin.Int.intBits a ≤ n.toNat * d.toNat := by
        have : ((n.toNat * d.toNat : Nat) : Int) = n * d := by rw [Int.natCast_mul, Int.toNat_of_nonneg (by omega), Int.toNat_of_nonneg hd0]
        omega
      exact lt_of_bits ha hz
    refine' c_inner77 w d.toNat _ f' (L' + 1 + 1) (L' + 1) (L' + 1 + 1 + 1) D' c' _ _ _ oc' vs' t' 0 [] (List.replicate d.toNat (Value.int 0 tk')) [] a 0 _ n _ _ _ _ _ _ _ hsz (by omega) rfl ?z1 ha haP hn0 hnd (by simp; omega) ?m1 ?m2 dC vC ?m3 ?d3 ?m4 ?d4 ?m5 ?d5 ?aw _ _ _ _ _ _ _ _ _ _ _ _ _ _ _ _ _ _ _ _ _ _ ?b1 ?b2 ?b3 ?b4 ?b5 ?b6 ?b7 ?b8 ?b9 ?_
    case b4 => exact N9
    case b1 => k_asm
    case b2 => k_asm
    case b3 => k_asm
    case b5 => k_asm
    case b6 => exact rfl
    case b7 => ktr_room
    case b8 => ktr_units
    case b9 => assumption
    case m1 => k_mem
    case m2 => k_mem
    case m3 => k_mem
    case m4 => k_mem
    case m5 => k_mem
    case d3 => assumption
    case d4 => assumption
    case d5 => assumption
    case z1 => simp
    case aw => k_all
    intro new1 ns1 h9 tk9 F9 N9 hI1 hL1 hV1 hB1
    (try dsimp only)
    (try k_fold)
    k_steps
    rename News _ _ _ _ => N10
    simp only [List.nil_append, List.append_nil] at N10
    refine hret D' ps' extra new1 ns1 _ _ (by k_asm) ?_ (hR ▸ hTab') (hR ▸ hAw') ?_ hex' ?_ hI1 hV1 hB1 (by omega)
    · rw [hR]
      exact cb_drop N10 (List.forall_mem_cons.mpr ⟨by k_mem, List.forall_mem_cons.mpr ⟨by k_mem, fun p hp => by k_mem⟩⟩)
    · rw [hR]
      k_all
    · exact List.forall_mem_cons.mpr ⟨@ltN 72 D' (by omega), tailLe hTl (by omega)⟩
  · have hz : d = 0 := by
      have h0 : Builtin.Int.intBits a = 0 := by rw [‹a = 0›]; decide
      by_cases hz : d = 0
      · exact hz
      · exfalso
        have : n * 1 ≤ n * d := Int.mul_le_mul_of_nonneg_left (by omega) (by omega)
        omega
    rename News _ _ _ _ => N10
    rw [hz] at N10
    refine hret D' ps' extra [] [] _ _ (by k_asm) ?_ (hR ▸ hTab') (hR ▸ hAw') ?_ hex' ?_ .nil (by rw [‹a = 0›]; rfl) (fun _ hd => nomatch hd) (by simp)
    · rw [hR]
      exact cb_drop N10 (List.forall_mem_cons.mpr ⟨by k_mem, List.forall_mem_cons.mpr ⟨by k_mem, fun p hp => by k_mem⟩⟩)
    · rw [hR]
      k_all
    · exact List.forall_mem_cons.mpr ⟨@ltN 72 D' (by omega), tailLe hTl (by omega)⟩
end Mine
end
section
open PySem PySem.W PyProof.Rows PySem.Calls PySem.Spec
set_option Elab.async false
set_option maxRecDepth 100000
set_option maxHeartbeats 8000000
set_option pp.deepTerms false
set_option pp.maxSteps 6000
namespace Mine
noncomputable abbrev inner84 : Stmt := stmtAt (bodyAt PySem.Challenge.pw_rs0143_01 7) 0
local macro_rules | `(tactic| walk_at "binaryOp Mult int int") => `(tactic| refine Hold.mk ?_)
local macro_rules | `(tactic| walk_at "binaryOp RShift int int") => `(tactic| refine Hold.mk ?_)
local macro_rules | `(tactic| walk_at "binaryOp LShift int int") => `(tactic| refine Hold.mk ?_)
local macro_rules | `(tactic| walk_at "subscriptTail") => `(tactic| refine Hold.mk ?_)
local macro_rules | `(tactic| walk_at "call ref") => `(tactic| ((with_reducible show wpAny _ _ (call (Value.ref _) [Value.int _ _, Value.int _ _]) _ _ _); refine Hold.mk ?_))
theorem c_inner84 : ∀ (w : World) (sz : Nat) (rest : List (Addr × Obj)) (fI cD cN cI D c' : Addr) (oD oN oI oc : Obj) (vsc : Array Value) (tq : Tok) (k : Nat) (vs : List Value) (pre mid post : List Int) (l r n : Int) (tl tr tn : Tok) (doc pm ctv : Value),
   mid.length = sz → 1 ≤ sz → l = (pre.length : Int) → r = (pre.length : Int) + (mid.length : Int) → 0 < n → n.toNat * sz ≤ 100000 → pre.length + mid.length + post.length ≤ 100000 → (∀ d ∈ mid, 0 ≤ d ∧ d < 2 ^ n.toNat) →
   (D, W.listOf vs.toArray k) ∈ rest → IntsAre vs (pre ++ mid ++ post) →
   (fI, fnOfDef inner84 (Str.ofString "_digits2int.<locals>.inner") [(Str.ofString "n", cN), (Str.ofString "inner", cI), (Str.ofString "digits", cD)] doc pm c' ctv) ∈ rest →
   (c', oc) ∈ rest → oc.data = .fields vsc → vsc[1]? = some (.str (Str.ofString "_digits2int.<locals>.inner") tq) →
   (cD, oD) ∈ rest → oD.data = .cell (some (.ref D)) → (cN, oN) ∈ rest → oN.data = .cell (some (.int n tn)) → (cI, oI) ∈ rest → oI.data = .cell (some (.ref fI)) →
   Ctr w rest sz fun A s Q E base h₀ L m => CodeHd base 83 79 →
     (∀ t h' tk', Fr h₀ L h' m → News h₀ L h' rest → Q (.int (val n.toNat mid) t) { s with heap := h', toks := tk' }) →
     wpAny (theM w) A (call (.ref fI) [.int l tl, .int r tr]) Q E s := by
  intro w sz
  induction sz using Nat.strongRecOn with
  | _ sz IH =>
  dsimp only [Ctr, theM, fnOfDef] at IH ⊢
  simp only [inner84, stmtAt, bodyAt, PySem.Challenge.pw_rs0143_01, List.getElem?_cons_zero, List.getElem?_cons_succ, Option.getD_some] at IH ⊢
  k_fill
  intro rest fI cD cN cI D c' oD oN oI oc vsc tq k vs pre mid post l r n tl tr tn doc pm ctv hsz h1 hl hr hn0 hn1 hlen hB mD hI mF mC dC vC mA dA mN dN mI dI
  intros
  rename_i hret
  refine wpAny_call ?_
  k_dflt (refine' code_nest ?k1 ?k2 ?k3 ?k4 ?k5 ?kA ?kF ?kK ?k6 ?k7 ?k8 ?k9 ?kB ?_ ?c2 ?c3 ?c4 ?c5; (case kA => exact rfl); (case kF => exact rfl); (case kK => assumption); (case k1 => k_asm); (case k2 => k_asm); (case k3 => k_asm); (case k4 => k_asm); (case k5 => k_asm); (case k6 => k_mem); (case k7 => exact codeRec_news (by k_asm) (by k_mem) (by assumption) (by assumption)); (case k8 => ktr_room); (case k9 => exact BindsTo.of_eq rfl); (case c5 => decide); (case kB => exact locs rfl); (case c2 => exact rfl); (case c3 => exact rfl); (case c4 => exact rfl); k_whole; intro g' L' h' FG' F' N' B' X' T'; (try dsimp only); (try k_lift B'); (try k_fold))
  k_steps
  · have e1 : sz = 1 := by omega
    subst e1
    obtain ⟨v0, rfl⟩ : ∃ v0, mid = [v0] := List.length_eq_one_iff.mp hsz
    k_dflt (refine' ksa_sub ?k1 ?k2 hI ?k4 ?k5 ?k6 ?_ ?k7; (case k1 => k_asm); (case k2 => k_mem); (case k4 => omega); (case k5 => simp; omega); (case k6 => omega); (case k7 => with_unfolding_all rfl); k_whole)
    intro t5
    have e5 : (pre ++ [v0] ++ post).getD l.toNat 0 = v0 := by
      rw [hl, Int.toNat_natCast]
      simp
    rw [e5]
    k_steps
    have e6 : val n.toNat [v0] = v0 := by simp [val]
    rw [e6] at hret
    exact hret _ _ _ (by k_asm) (by k_asm)
  · have hne : ¬ l + 1 = r := by assumption
    have hs2 : 2 ≤ sz := by omega
    obtain ⟨k1, hk1⟩ : ∃ k1, k1 = sz / 2 := ⟨_, rfl⟩
    obtain ⟨k2, hk2⟩ : ∃ k2, k2 = sz - k1 := ⟨_, rfl⟩
    have hk12 : k1 + k2 = sz ∧ 1 ≤ k1 ∧ 1 ≤ k2 := by omega
    refine shr_V (by decide) fun md hmid => ?_
    have hmid' : md = (pre.length : Int) + (k1 : Int) := by
      have e : (2 : Int) ^ Int.toNat 1 = 2 := by decide
      rw [e, Int.fdiv_eq_ediv_of_nonneg _ (by decide)] at hmid
      omega
    k_steps
    obtain ⟨nn, hnn⟩ : ∃ nn : Nat, nn = n.toNat := ⟨_, rfl⟩
    have hnI : n = (nn : Int) := by omega
    rw [← hnn] at hn1
    have hnle : nn ≤ 100000 := Nat.le_trans (Nat.le_mul_of_pos_right nn (by omega)) hn1
    have hsum : nn * k1 + nn * k2 = nn * sz := by rw [← Nat.mul_add, hk12.1]
    refine mul_V (IntMulOk.of_le (m := 20) (n := 20) (intBits_le_iff.mpr (by omega)) (intBits_le_iff.mpr (by omega)) (by decide)) fun sh hsh => ?_
    have hsh' : sh = ((nn * k1 : Nat) : Int) := by
      rw [hsh, hmid', hl, hnI, Int.natCast_mul, Int.mul_comm]
      congr 1
      omega
    k_steps
    have ht1 : (mid.take k1).length = k1 := by rw [List.length_take]; omega
    have ht2 : (mid.drop k1).length = k2 := by rw [List.length_drop]; omega
    have hI1 : IntsAre vs ((pre ++ mid.take k1) ++ mid.drop k1 ++ post) := by
      rw [List.append_assoc pre, List.take_append_drop]
      exact hI
    have hI2 : IntsAre vs (pre ++ mid.take k1 ++ (mid.drop k1 ++ post)) := by
      rw [← List.append_assoc]
      exact hI1
    refine' IH k2 (by omega) rest fI cD cN cI D c' oD oN oI oc vsc tq k vs (pre ++ mid.take k1) (mid.drop k1) post md r n _ _ tn doc pm ctv ht2 hk12.2.2 (by rw [List.length_append, ht1, hmid']; omega) (by rw [List.length_append, ht1, ht2]; omega) hn0 (by rw [← hnn]; omega) (by rw [List.length_append, ht1, ht2]; omega) (fun d hd => hB d (List.mem_of_mem_drop hd)) mD hI1 mF mC dC vC mA dA mN dN mI dI _ _ _ _ _ _ _ _ _ _ _ _ _ _ _ _ _ _ _ _ _ _ ?b1 ?b2 ?b3 ?b4 ?b5 ?b6 ?b7 ?b8 ?b9 ?_
    case b1 => k_asm
    case b2 => k_asm
    case b3 => k_asm
    case b4 => k_asm
    case b5 => k_asm
    case b6 => exact rfl
    case b7 => ktr_room
    case b8 => ktr_units
    case b9 => assumption
    intro t9 h9 tk9 F9 N9
    (try dsimp only)
    (try k_fold)
    k_steps
    have hvb := val_lt (n := nn) (l := mid.drop k1) (fun d hd => by rw [hnn]; exact hB d (List.mem_of_mem_drop hd))
    rw [ht2] at hvb
    have hvB : Builtin.Int.intBits (val n.toNat (mid.drop k1)) ≤ nn * k2 := by rw [← hnn]; exact bits_lt hvb.1 hvb.2
    refine shl_V (by omega) (by omega) fun hi hhi => ?_
    k_steps
    refine' IH k1 (by omega) rest fI cD cN cI D c' oD oN oI oc vsc tq k vs pre (mid.take k1) (mid.drop k1 ++ post) l md n _ _ tn doc pm ctv ht1 hk12.2.1 hl (by rw [ht1]; exact hmid') hn0 (by rw [← hnn]; omega) (by rw [ht1, List.length_append, ht2]; omega) (fun d hd => hB d (List.mem_of_mem_take hd)) mD hI2 mF mC dC vC mA dA mN dN mI dI _ _ _ _ _ _ _ _ _ _ _ _ _ _ _ _ _ _ _ _ _ _ ?b1 ?b2 ?b3 ?b4 ?b5 ?b6 ?b7 ?b8 ?b9 ?_
    case b1 => k_asm
    case b2 => k_asm
    case b3 => k_asm
    case b4 => k_asm
    case b5 => k_asm
    case b6 => exact rfl
    case b7 => ktr_room
    case b8 => ktr_units
    case b9 => assumption
    intro t10 h10 tk10 F10 N10
    (try dsimp only)
    (try k_fold)
    k_steps
    have e6 : val n.toNat mid = hi + val n.toNat (mid.take k1) := by
      conv => lhs; rw [← List.take_append_drop k1 mid]
      rw [val_append, hhi, ht1, hsh', Int.toNat_natCast, ← hnn, Int.mul_comm]
      omega
    rw [e6] at hret
    exact hret _ _ _ (by k_asm) (by k_asm)
end Mine
end
section
open PySem PySem.W PyProof.Rows PySem.Calls PySem.Spec
set_option Elab.async false
set_option maxRecDepth 100000
set_option maxHeartbeats 8000000
set_option pp.deepTerms false
set_option pp.maxSteps 6000
namespace Mine
local macro_rules | `(tactic| walk_at "exec FunctionDef") => `(tactic| refine Hold.mk ?_)
local macro_rules | `(tactic| walk_at "call builtin:len") => `(tactic| refine Hold.mk ?_)
local macro_rules | `(tactic| walk_at "truthy ref") => `(tactic| refine Hold.mk ?_)
local macro_rules | `(tactic| walk_at "call ref") => `(tactic| ((with_reducible show wpAny _ _ (call (Value.ref _) [Value.int _ _, Value.int _ _]) _ _ _); refine Hold.mk ?_))
theorem c84 : ∀ (w : World) (rest : List (Addr × Obj)) (ps : Array Value) (D : Addr) (k : Nat) (vs : List Value) (ns : List Int) (n : Int) (tn : Tok),
   TabOk 91 4 (Str.ofString "_digits2int.<locals>.inner") ps rest → (∀ p ∈ rest, p.1 ≠ 79) → (D, W.listOf vs.toArray k) ∈ rest → IntsAre vs ns → 1 ≤ ns.length → ns.length ≤ 250 → 0 < n → n ≤ 400 → (∀ d ∈ ns, 0 ≤ d ∧ d < 2 ^ n.toNat) →
   Ctr w ((79, tabObj ps) :: rest) 300 fun A s Q E base h₀ L m => CodeHd base 83 79 →
     (∀ t ps' extra h' tk', Fr h₀ L h' m → News h₀ L h' ((79, tabObj ps') :: (extra ++ rest)) → TabOk 91 4 (Str.ofString "_digits2int.<locals>.inner") ps' (extra ++ rest) → (∀ p ∈ extra ++ rest, p.1 ≠ 79) →
       (∀ q ∈ extra, ∀ p ∈ (79, tabObj ps) :: rest, p.1 < q.1) → Q (.int (val n.toNat ns) t) { s with heap := h', toks := tk' }) →
     wpAny (theM w) A (call (.ref 84) [.ref D, .int n tn]) Q E s := by
  dsimp only [Ctr, theM]
  k_fill
  intro w rest ps D k vs ns n tn hTab hAw mD hI hl1 hl2 hn0 hn1 hB
  intros
  rename_i hret
  refine wpAny_call ?_
  k_dflt (refine' code_defC ?k1 ?k2 ?k3 ?k4 ?k5 ?kA ?kF ?kK ?k6 ?k7 ?k8 ?k9 ?kB ?kD ?_ ?c2 ?c3 ?c4; (case kA => exact rfl); (case kF => exact rfl); (case kK => assumption); (case k1 => k_asm); (case k2 => k_asm); (case k3 => k_asm); (case k4 => k_asm); (case k5 => k_asm); (case k6 => k_is); (case k7 => k_is); (case k8 => ktr_room); (case k9 => exact BindsTo.of_eq rfl); (case kB => exact rfl); (case kD => decide +kernel); (case c2 => exact rfl); (case c3 => exact rfl); (case c4 => exact rfl); k_whole; intro g' L' h' tk' cells' FG' F' N' Y' B' X' T' l1; (have hTl := tailOf1 l1); (try k_lt l1); k_cells Y'; (try simp only [List.cons_append, List.nil_append] at N'); (try dsimp only); (try k_lift B'); (try k_fold))
  k_steps
  refine Hold.mk (nestDef_K rfl rfl rfl ?_)
  rename News _ _ _ _ => N5
  refine nest_any (pre := [_, _, _]) (by k_asm) N5 (by k_asm) (by kn_code) rfl hTab (by k_all) hAw rfl ?_
  intro f' c' oc' vs' t' ct' dc' ps' extra h5 tk5 F5 N6 mC dC vC hTab' hAw' hex hlt
  clear N5
  have n2 := ne_of_front hex hTl (x := L' + 1 + 1 + 1) (by omega) (by k_mem)
  have n3 := ne_of_front hex hTl (x := L' + 1 + 1) (by omega) (by k_mem)
  have n4 := ne_of_front hex hTl (x := L' + 1) (by omega) (by k_mem)
  have hex' : ∀ q ∈ extra, ∀ p ∈ (79, tabObj ps) :: rest, p.1 < q.1 := fun q hq p hp => hex q hq p (List.mem_append_right _ hp)
  have hf2 := @ltN (L' + 1 + 1 + 1) f' (hlt (L' + 1 + 1 + 1, _) (by k_mem))
  have mD' : (D, W.listOf vs.toArray k) ∈ extra ++ rest := List.mem_append_right _ mD
  clear hlt hex
  generalize hR : extra ++ rest = R at *
  simp only [List.cons_append, List.nil_append] at N6
  k_steps
  rename News _ _ _ _ => N7
  have hlv : vs.length = ns.length := hI.length
  have hL7 := PySem.IsL.isList (n := k) (N7 (D, W.listOf vs.toArray k) (by k_mem)).1
  refine wpAny_truthy_list hL7 (by simp; omega) ?_
  have ht : (!vs.toArray.isEmpty) = true := by
    cases vs with
    | nil => simp at hlv; omega
    | cons _ _ => rfl
  rw [if_pos ht]
  k_steps
  rename News _ _ _ _ => N8
  have hL8 := PySem.IsL.isList (n := k) (N8 (D, W.listOf vs.toArray k) (by k_mem)).1
  refine len_list hL8 (by simp; omega) ?_
  k_steps
  have hI' : IntsAre vs ([] ++ ns ++ []) := by simpa using hI
  have hsz : ((vs.toArray.size : Nat) : Int) = ((([] : List Int).length : Int)) + (ns.length : Int) := by simp; omega
  have hnd : n.toNat * ns.length ≤ 100000 := Nat.le_trans (Nat.mul_le_mul (show n.toNat ≤ 400 by omega) hl2) (by decide)
  refine' c_inner84 w ns.length _ f' (L' + 1) (L' + 1 + 1) (L' + 1 + 1 + 1) D c' _ _ _ oc' vs' t' k vs [] ns [] 0 _ n _ _ _ _ _ _ rfl hl1 rfl hsz hn0 hnd (by simp; omega) hB ?m0 hI' ?m1 ?m2 dC vC ?m3 ?d3 ?m4 ?d4 ?m5 ?d5 _ _ _ _ _ _ _ _ _ _ _ _ _ _ _ _ _ _ _ _ _ _ ?b1 ?b2 ?b3 ?b4 ?b5 ?b6 ?b7 ?b8 ?b9 ?_
  case b4 => k_asm
  case b1 => k_asm
  case b2 => k_asm
  case b3 => k_asm
  case b5 => k_asm
  case b6 => exact rfl
  case b7 => ktr_room
  case b8 => ktr_units
  case b9 => assumption
  case m0 => k_mem
  case m1 => k_mem
  case m2 => k_mem
  case m3 => k_mem
  case m4 => k_mem
  case m5 => k_mem
  case d3 => assumption
  case d4 => assumption
  case d5 => assumption
  intro t9 h9 tk9 F9 N9
  (try dsimp only)
  (try k_fold)
  k_steps
  rename News _ _ _ _ => N10
  refine hret _ ps' extra _ _ (by k_asm) ?_ (hR ▸ hTab') (hR ▸ hAw') hex'
  rw [hR]
  exact cb_drop N10 (List.forall_mem_cons.mpr ⟨by k_mem, fun p hp => by k_mem⟩)
end Mine
end
section
open PySem PySem.W PyProof.Rows PySem.Calls PySem.Spec
set_option Elab.async false
namespace Mine
/-- the value of digits, the highest first -/
noncomputable def mval (n : Nat) (l : List Int) : Int := val n l.reverse
theorem mval_nil (n : Nat) : mval n [] = 0 := rfl
theorem mval_snoc (n : Nat) (l : List Int) (d : Int) : mval n (l ++ [d]) = mval n l * 2 ^ n + d := by
  unfold mval
  rw [List.reverse_append, List.reverse_singleton, List.singleton_append, val, Int.mul_comm]
  omega
/-- one step of the long division -/
theorem div_step {b V Q r d : Int} {n : Nat} (hb : 0 < b) (hV : V = Q * b + r) (hr0 : 0 ≤ r) (hrb : r < b) (hd0 : 0 ≤ d) (hd1 : d < 2 ^ n) :
    V * 2 ^ n + d = (Q * 2 ^ n + (r * 2 ^ n + d).fdiv b) * b + (r * 2 ^ n + d).fmod b ∧ 0 ≤ (r * 2 ^ n + d).fmod b ∧ (r * 2 ^ n + d).fmod b < b ∧ 0 ≤ (r * 2 ^ n + d).fdiv b ∧ (r * 2 ^ n + d).fdiv b < 2 ^ n ∧ 0 ≤ r * 2 ^ n + d ∧ r * 2 ^ n + d < b * 2 ^ n := by
  have hp := two_pow_pos n
  have h0 : 0 ≤ r * 2 ^ n := Int.mul_nonneg hr0 (Int.le_of_lt hp)
  have hx0 : 0 ≤ r * 2 ^ n + d := by omega
  have hx1 : r * 2 ^ n + d < b * 2 ^ n := by
    have h1 : r * 2 ^ n ≤ (b - 1) * 2 ^ n := Int.mul_le_mul_of_nonneg_right (by omega) (Int.le_of_lt hp)
    rw [Int.sub_mul, Int.one_mul] at h1
    omega
  have e1 : (r * 2 ^ n + d).fdiv b = (r * 2 ^ n + d) / b := Int.fdiv_eq_ediv_of_nonneg _ (Int.le_of_lt hb)
  have e2 : (r * 2 ^ n + d).fmod b = (r * 2 ^ n + d) % b := Int.fmod_eq_emod_of_nonneg _ (Int.le_of_lt hb)
  rw [e1, e2]
  have e3 := Int.emod_add_mul_ediv (r * 2 ^ n + d) b
  refine ⟨?_, Int.emod_nonneg _ (Int.ne_of_gt hb), Int.emod_lt_of_pos _ hb, Int.ediv_nonneg hx0 (Int.le_of_lt hb), Int.ediv_lt_of_lt_mul hb (by rw [Int.mul_comm (2 ^ n) b]; exact hx1), hx0, hx1⟩
  rw [hV, Int.add_mul (Q * 2 ^ n), Int.mul_comm ((r * 2 ^ n + d) / b) b]
  have e4 : (Q * b + r) * 2 ^ n = Q * 2 ^ n * b + r * 2 ^ n := by rw [Int.add_mul, Int.mul_assoc, Int.mul_assoc, Int.mul_comm b]
  rw [e4]
  omega
theorem divmod_of {a b Q r : Int} (hb : 0 < b) (h : a = Q * b + r) (h0 : 0 ≤ r) (h1 : r < b) : Q = a / b ∧ r = a % b := by
  have e : a / b = Q := by
    rw [h, Int.add_comm, Int.add_mul_ediv_right _ _ (Int.ne_of_gt hb), Int.ediv_eq_zero_of_lt h0 h1]
    omega
  refine ⟨e.symm, ?_⟩
  have := Int.emod_add_mul_ediv a b
  rw [e, Int.mul_comm] at this
  omega
end Mine
end
section
local macro_rules | `(tactic| walk_at "none 0") => `(tactic| skip)
open PySem PySem.W PyProof.Rows PySem.Calls PySem.Spec
set_option Elab.async false
set_option maxRecDepth 100000
set_option maxHeartbeats 8000000
set_option pp.deepTerms false
set_option pp.maxSteps 6000
namespace Mine
theorem fr_pin {h₀ h : Heap} {L : Addr} {m : Str → Option Value} {x : Str} {v : Value} (F : Fr h₀ L h m) (hx : m x = some v) : Fr h₀ L h (fun y => if y = x then some v else m y) := by
  have e : (fun y => if y = x then some v else m y) = m := funext fun y => by
    by_cases hy : y = x
    · rw [if_pos hy, hy, hx]
    · rw [if_neg hy]
  rw [e]
  exact F
theorem pin4 {m : Str → Option Value} {x1 x2 x3 x4 : Str} {v1 v2 v3 v4 : Value} (h1 : m x1 = some v1) (h2 : m x2 = some v2) (h3 : m x3 = some v3) (h4 : m x4 = some v4) :
    m = fun y => if y = x1 then some v1 else if y = x2 then some v2 else if y = x3 then some v3 else if y = x4 then some v4 else m y := funext fun y => by
  by_cases e1 : y = x1
  · rw [if_pos e1, e1, h1]
  · rw [if_neg e1]
    by_cases e2 : y = x2
    · rw [if_pos e2, e2, h2]
    · rw [if_neg e2]
      by_cases e3 : y = x3
      · rw [if_pos e3, e3, h3]
      · rw [if_neg e3]
        by_cases e4 : y = x4
        · rw [if_pos e4, e4, h4]
        · rw [if_neg e4]
theorem noPy {a b : Int} (h : Builtin.Int.intBits b ≤ 8000) : Builtin.divisionGoesByPylong a b = false := by
  refine PyProof.noPylong_of_log2 ?_
  unfold Builtin.Int.intBits at h
  by_cases hb : b = 0
  · rw [hb]; decide +kernel
  · have : (b == 0) = false := by simpa using hb
    rw [this] at h
    simp at h
    omega
theorem TabOk.mono {l c : Nat} {q : Str} {ps : Array Value} {rest rest' : List (Addr × Obj)} (h : TabOk l c q ps rest) (hs : ∀ p ∈ rest, p ∈ rest') : TabOk l c q ps rest' := by
  rcases h with h | ⟨c', oc, vs, tq, e, mC, r⟩
  · exact .inl h
  · exact .inr ⟨c', oc, vs, tq, e, hs _ mC, r⟩
theorem offI_of {I : Addr} {it : Obj} : ∀ {l : List (Addr × Obj)}, (∀ p ∈ l, p.1 < I) → OffI I it l
  | [], _ => trivial
  | q :: _, h => ⟨.inl (Nat.ne_of_lt (h q (.head _))), offI_of fun p hp => h p (.tail _ hp)⟩
theorem upd_app {d : Addr} {o o' : Obj} {post : List (Addr × Obj)} (hr : ∀ p ∈ post, p.1 ≠ d) : ∀ {pre : List (Addr × Obj)}, (∀ p ∈ pre, p.1 ≠ d) → Upd d o o' (pre ++ (d, o) :: post) (pre ++ (d, o') :: post)
  | [], _ => .head hr
  | q :: pre, h => .tail (h q (.head _)) (upd_app hr fun p hp => h p (.tail _ hp))
theorem append_V {prog : Program} {w : World} {A : Around} {E : Value → Shared → Prop} {s : Shared} {h₀ : Heap} {L D : Addr} {m : Str → Option Value} (pre : List (Addr × Obj)) {post : List (Addr × Obj)} {xs : List Value} {n : Nat} {x : Value} {Q : Value → Shared → Prop}
    (F : Fr h₀ L s.heap m) (N : News h₀ L s.heap (pre ++ (D, W.listOf xs.toArray n) :: post)) (a : ∀ p ∈ pre, p.1 ≠ D) (b : ∀ p ∈ post, p.1 ≠ D) (hsz : xs.length ≤ 100000)
    (h : ∀ h', Fr h₀ L h' m → News h₀ L h' (pre ++ (D, W.listOf (xs ++ [x]).toArray (n + 1)) :: post) → Q .none { s with heap := h' }) : wpAny (model prog w) A (call (.builtin "list.append") [.ref D, x]) Q E s := by
  refine append_K F N (upd_app b a) (fun h' F' N' => h h' F' ?_) (by rw [List.size_toArray, sizeLine]; omega)
  rw [List.push_toArray] at N'
  exact N'
theorem reverse_V {prog : Program} {w : World} {A : Around} {E : Value → Shared → Prop} {s : Shared} {h₀ : Heap} {L D : Addr} {m : Str → Option Value} (pre : List (Addr × Obj)) {post : List (Addr × Obj)} {xs : List Value} {n : Nat} {Q : Value → Shared → Prop}
    (F : Fr h₀ L s.heap m) (N : News h₀ L s.heap (pre ++ (D, W.listOf xs.toArray n) :: post)) (a : ∀ p ∈ pre, p.1 ≠ D) (b : ∀ p ∈ post, p.1 ≠ D) (hsz : xs.length ≤ 100000)
    (h : ∀ h', Fr h₀ L h' m → News h₀ L h' (pre ++ (D, W.listOf xs.reverse.toArray n) :: post) → Q .none { s with heap := h' }) : wpAny (model prog w) A (call (.builtin "list.reverse") [.ref D]) Q E s :=
  kl_reverse F N rfl (upd_app b a) (by show xs.length ≤ sizeLine; rw [sizeLine]; omega) h
theorem tab_skip {l c l' c' P : Nat} {q q' : Str} {ps p2 : Array Value} {x y z : List (Addr × Obj)} (h : TabOk l c q ps (x ++ (P, tabObj p2) :: y)) (h2 : TabOk l' c' q' p2 z) : TabOk l c q ps (x ++ y) := by
  rcases h with h | ⟨c₁, oc, vs, tq, e, mC, dC, vC⟩
  · exact .inl h
  · refine .inr ⟨c₁, oc, vs, tq, e, ?_, dC, vC⟩
    rcases List.mem_append.mp mC with hm | hm
    · exact List.mem_append_left _ hm
    · rcases List.mem_cons.mp hm with hm | hm
      · exfalso
        cases hm
        cases dC
        rcases h2 with rfl | ⟨_, _, _, _, rfl, _⟩
        · simp at vC
        · simp [rawInt] at vC
      · exact List.mem_append_right _ hm
theorem newTuple_V {M : Model} {A : Around} {E : Value → Shared → Prop} {s : Shared} {h₀ : Heap} {L : Addr} {m : Str → Option Value} {news : List (Addr × Obj)} {vs : List Value} {Q : Value → Shared → Prop} (F : Fr h₀ L s.heap m) (N : News h₀ L s.heap news) (hsz : vs.length ≤ 1000)
    (h : ∀ D h', Fr h₀ L h' m → News h₀ L h' ((D, tupO vs) :: news) → (∀ p ∈ news, p.1 < D) → Q (.ref D) { s with heap := h' }) : wpAny M A (newTuple vs) Q E s :=
  newTuple_N F N (fun h' F' N' => h _ h' F' N' fun p hp => Heap.lt_size (N p hp).1) (by rw [sizeLine]; omega)
theorem revRest_inv {prog : Program} {w : World} {A : Around} {E : Value → Shared → Prop} {s : Shared} {env : Env} {h₀ : Heap} {x : Str} {body : List Stmt} {Q : Flow → Shared → Prop} {I : Addr} {lp : Addr × Obj}
    (J : List Value → (Str → Option Value) → List (Addr × Obj) → Prop) (hlp : ∀ r m n, J r m n → lp ∈ n)
    (done : ∀ m news, J [] m news → ∀ h tk, Fr h₀ env.locals h m → News h₀ env.locals h news → Q .next { s with heap := h, toks := tk })
    (step : ∀ v r m news, J (v :: r) m news → ∀ (it : Obj) h tk, it.cls = .type "list_reverseiterator" → Fr h₀ env.locals h (fun y => if y = x then some v else m y) → News h₀ env.locals h ((I, it) :: news) →
      wpAny (model prog w) A (execs body env) (UnrPost h₀ env.locals { s with heap := h, toks := tk } I it (J r) Q) E { s with heap := h, toks := tk }) :
    ∀ l m news, J l m news → RevRest prog w A E h₀ env x body Q s I lp l m news
  | [], m, news, hJ => done m news hJ
  | v :: r, m, news, hJ => fun it h tk hc F N => wpAny_mono (step v r m news hJ it h tk hc F N) (fun f s' p => by
      have go : UnrEnd h₀ env.locals { s with heap := h, toks := tk } I it (J r) s' → UnrEnd h₀ env.locals { s with heap := h, toks := tk } I it (fun m' n' => lp ∈ n' ∧ RevRest prog w A E h₀ env x body Q s I lp r m' n') s' := by
        rintro ⟨h', tk', m', n', e, F', N', o, hJ'⟩
        exact ⟨h', tk', m', n', e, F', N', o, hlp _ _ _ hJ', revRest_inv J hlp done step r m' n' hJ'⟩
      cases f with
      | ret v => exact p
      | brk => exact p
      | next => exact go p
      | cont => exact go p) fun _ _ e => e
local macro_rules | `(tactic| walk_at "binaryOp LShift int int") => `(tactic| refine Hold.mk ?_)
local macro_rules | `(tactic| walk_at "call builtin:list.reverse") => `(tactic| refine Hold.mk ?_)
local macro_rules | `(tactic| walk_at "newTuple") => `(tactic| refine Hold.mk ?_)
local macro_rules | `(tactic| walk_at "newList") => `(tactic| refine Hold.mk ?_)
local macro_rules | `(tactic| walk_at "call type:reversed") => `(tactic| refine Hold.mk ?_)
local macro_rules | `(tactic| walk_at "call ref") => `(tactic| ((with_reducible show wpAny _ _ (call (Value.ref 77) _) _ _ _); refine Hold.mk ?_))
local macro_rules | `(tactic| walk_at "call ref") => `(tactic| ((with_reducible show wpAny _ _ (call (Value.ref 84) _) _ _ _); refine Hold.mk ?_))
local macro_rules | `(tactic| walk_at "call ref") => `(tactic| ((with_reducible show wpAny _ _ (call (Value.ref 63) _) _ _ _); refine Hold.mk ?_))
theorem c91 : ∀ (w : World) (rest : List (Addr × Obj)) (p1 p2 : Array Value) (a b : Int) (ta tb : Tok),
   TabOk 76 4 (Str.ofString "_int2digits.<locals>.inner") p1 rest → TabOk 91 4 (Str.ofString "_digits2int.<locals>.inner") p2 rest → (∀ p ∈ rest, p.1 ≠ 72) → (∀ p ∈ rest, p.1 ≠ 79) →
   0 < a → 0 < b → Builtin.Int.intBits b ≤ 400 → Builtin.Int.intBits a ≤ 250 * Builtin.Int.intBits b → Builtin.Int.intBits a ≤ 10000 →
   Ctr w ((72, tabObj p1) :: (79, tabObj p2) :: rest) 310 fun A s Q E base h₀ L m => CodeHd base 76 72 → CodeHd base 83 79 →
     (∀ D t1 t2 p1' p2' extra h' tk', Fr h₀ L h' m → News h₀ L h' ((D, tupO [.int (a / b) t1, .int (a % b) t2]) :: (72, tabObj p1') :: (79, tabObj p2') :: (extra ++ rest)) →
       TabOk 76 4 (Str.ofString "_int2digits.<locals>.inner") p1' (extra ++ rest) → TabOk 91 4 (Str.ofString "_digits2int.<locals>.inner") p2' (extra ++ rest) → (∀ p ∈ extra ++ rest, p.1 ≠ 72) → (∀ p ∈ extra ++ rest, p.1 ≠ 79) →
       (∀ q ∈ extra, ∀ p ∈ rest, p.1 < q.1) → (∀ p ∈ (72, tabObj p1') :: (79, tabObj p2') :: (extra ++ rest), p.1 < D) → Q (.ref D) { s with heap := h', toks := tk' }) →
     wpAny (theM w) A (call (.ref 91) [.int a ta, .int b tb]) Q E s := by
  dsimp only [Ctr, theM]
  k_fill
  intro w rest p1 p2 a b ta tb hT1 hT2 hA1 hA2 ha hb hbb hab1 hab2
  intros
  rename_i hret
  refine wpAny_call ?_
  k_dflt cell_enter
  k_steps
  obtain ⟨n, hn⟩ : ∃ n : Nat, n = Builtin.Int.intBits b := ⟨_, rfl⟩
  have hn1 : 1 ≤ n := by
    by_cases hz : 1 ≤ n
    · exact hz
    · exfalso
      have hz2 := intBits_le_iff.mp (show Builtin.Int.intBits b ≤ 0 by omega)
      simp at hz2
      omega
  have hbn : b < 2 ^ n := by rw [hn]; exact lt_of_bits (by omega) (Nat.le_refl _)
  rw [← hn] at hbb hab1 ⊢
  refine' c77 w ((79, tabObj p2) :: rest) p1 a n _ _ (hT1.mono fun p hp => .tail _ hp) (List.forall_mem_cons.mpr ⟨(show (79 : Nat) ≠ 72 by decide), hA1⟩) (by omega) (by omega) (by omega) (by omega) hab2 _ _ _ _ _ _ _ _ _ _ _ _ _ _ _ _ _ _ _ _ _ _ ?b1 ?b2 ?b3 ?b4 ?b5 ?b6 ?b7 ?b8 ?b9 ?_
  case b4 => k_asm
  case b1 => k_asm
  case b2 => k_asm
  case b3 => k_asm
  case b5 => k_asm
  case b6 => exact rfl
  case b7 => ktr_room
  case b8 => ktr_units
  case b9 => assumption
  intro Da p1' ex1 new ns h9 tk9 F9 N9 hT1' hA1' hDa hex1 hDl hI hV hB hlen
  (try dsimp only)
  (try k_fold)
  k_steps
  k_dflt (refine' newList_K ?k1 ?k2 ?_; (case k1 => k_asm); (case k2 => k_asm); k_whole)
  intro lq h10 F10 N10 hlq
  have hlqDa : Da ≠ lq := Nat.ne_of_lt (hlq (Da, _) (by k_mem))
  obtain ⟨fx, hfx⟩ : ∃ fx, fx = (Da, W.listOf new.toArray 0) :: (72, tabObj p1') :: (ex1 ++ (79, tabObj p2) :: rest) := ⟨_, rfl⟩
  have hfxq : ∀ p ∈ fx, p.1 ≠ lq := fun p hp => Nat.ne_of_lt (hlq p (hfx ▸ hp))
  have hDafx : (Da, W.listOf new.toArray 0) ∈ fx := by rw [hfx]; exact .head _
  rw [← hfx] at N10
  k_steps
  rename News _ _ _ _ => N12
  k_dflt (refine' krv_reversed (vs := new) ?F N12 ?l ?_; (case F => k_asm); (case l => exact PySem.IsL.isList (n := 0) (N12 (Da, W.listOf new.toArray 0) (by k_mem)).1))
  intro I h11 F11 N11 lI
  (try dsimp only)
  have hIq : lq ≠ I := Nat.ne_of_lt (lI (lq, _) (.head _))
  have hIfx : ∀ p ∈ fx, p.1 ≠ I := fun p hp => Nat.ne_of_lt (lI p (.tail _ hp))
  refine iter_revUnr (lo := W.listOf new.toArray 0) (vs := new) (n := 0) rfl F11 N11 (offI_of lI) (.tail _ hDafx) rfl rfl ?_
  obtain ⟨J1, hJ1⟩ : ∃ J : List Value → (Str → Option Value) → List (Addr × Obj) → Prop, J = (fun l m news => ∃ qs qn rv tr kq dl pd, news = (lq, W.listOf qs.toArray kq) :: fx ∧ IntsAre qs qn ∧ IntsAre l dl ∧ pd ++ dl = ns.reverse ∧ mval n pd = mval n qn * b + rv ∧ 0 ≤ rv ∧ rv < b ∧ (∀ q ∈ qn, 0 ≤ q ∧ q < 2 ^ n) ∧ qn.length = pd.length ∧
      m (Str.ofString "r") = some (.int rv tr) ∧ m (Str.ofString "b") = some (.int b tb) ∧ (∃ tn, m (Str.ofString "n") = some (.int n tn)) ∧ m (Str.ofString "q_digits") = some (.ref lq)) := ⟨_, rfl⟩
  refine revRest_inv J1 ?hlp ?dn ?st _ _ _ ?start
  case hlp =>
    intro r m nw hJ
    rw [hJ1] at hJ
    obtain ⟨qs, qn, rv, tr, kq, dl, pd, rfl, _⟩ := hJ
    exact .tail _ hDafx
  case start =>
    rw [hJ1]
    exact ⟨[], [], 0, _, 0, ns.reverse, [], rfl, .nil, hI.reverse, rfl, by simp [mval_nil], by omega, hb, (fun _ h => nomatch h), rfl, rfl, rfl, ⟨_, by rw [hn]; rfl⟩, rfl⟩
  case dn =>
    intro m nw hJ h12 tk12 F12 N13
    rw [hJ1] at hJ
    obtain ⟨qs, qn, rv, tr, kq, dl, pd, rfl, hqI, hlI, hpd, hval, hr0, hr1, hqB, hql, mr, mb', ⟨tn', mn⟩, mq⟩ := hJ
    cases hlI
    rw [pin4 mr mb' mn mq] at F12
    rw [List.append_nil] at hpd
    clear N11 F11 N12
    have hVa : a = mval n qn * b + rv := by
      rw [← hval, hpd, mval, List.reverse_reverse, ← Int.toNat_natCast n]
      exact hV.symm
    obtain ⟨hQ, hRv⟩ := divmod_of hb hVa hr0 hr1
    have hnl : qn.length = ns.length := by rw [hql, hpd, List.length_reverse]
    have hns : ns ≠ [] := by
      intro h
      rw [h] at hV
      simp [val] at hV
      omega
    have hns1 : 1 ≤ ns.length := List.length_pos_iff.mpr hns
    dsimp only
    k_steps
    refine reverse_V [] (by k_asm) N13 (fun _ h => nomatch h) hfxq (by rw [hqI.length]; omega) fun h14 F14 N16 => ?_
    rw [List.nil_append] at N16
    k_steps
    obtain ⟨R84, hR84⟩ : ∃ R84, R84 = (lq, W.listOf qs.reverse.toArray kq) :: (Da, W.listOf new.toArray 0) :: (72, tabObj p1') :: (ex1 ++ rest) := ⟨_, rfl⟩
    have N17 := cb_drop (news := (79, tabObj p2) :: R84) N16 (by
      intro p hp
      rw [hR84] at hp
      rw [hfx]
      simp only [List.mem_cons, List.mem_append] at hp ⊢
      rcases hp with h | h | h | h | h | h <;> simp [h])
    have q79 : (79 : Nat) < lq := hlq (79, tabObj p2) (.tail _ (.tail _ (List.mem_append_right _ (.head _))))
    have hR79 : ∀ p ∈ R84, p.1 ≠ 79 := by
      rw [hR84]
      refine List.forall_mem_cons.mpr ⟨Nat.ne_of_gt q79, List.forall_mem_cons.mpr ⟨Ne.symm (hDa (79, tabObj p2) (.tail _ (List.mem_append_right _ (.head _)))), List.forall_mem_cons.mpr ⟨(show (72 : Nat) ≠ 79 by decide), fun p hp => ?_⟩⟩⟩
      rcases List.mem_append.mp hp with hp | hp
      · exact Nat.ne_of_gt (hex1 p hp (79, tabObj p2) (.tail _ (.head _)))
      · exact hA2 p hp
    have hT2' : TabOk 91 4 (Str.ofString "_digits2int.<locals>.inner") p2 R84 := hT2.mono fun p hp => by
      rw [hR84]
      exact .tail _ (.tail _ (.tail _ (List.mem_append_right _ hp)))
    clear N16 N13
    refine' c84 w R84 p2 lq kq qs.reverse qn.reverse n _ hT2' hR79 (by rw [hR84]; exact .head _) hqI.reverse (by rw [List.length_reverse]; omega) (by rw [List.length_reverse]; omega) (by omega) (by omega) (fun d hd => by rw [Int.toNat_natCast]; exact hqB d (List.mem_reverse.mp hd)) _ _ _ _ _ _ _ _ _ _ _ _ _ _ _ _ _ _ _ _ _ _ ?b1 ?b2 ?b3 ?b4 ?b5 ?b6 ?b7 ?b8 ?b9 ?_
    case b4 => k_asm
    case b1 => k_asm
    case b2 => k_asm
    case b3 => k_asm
    case b5 => k_asm
    case b6 => exact rfl
    case b7 => ktr_room
    case b8 => ktr_units
    case b9 => assumption
    intro t18 p2' ex2 h18 tk18 F18 N18 hT2'' hA2'' hex2
    rw [Int.toNat_natCast]
    have hv84 : val n qn.reverse = a / b := hQ
    rw [hv84]
    clear N17
    (try dsimp only)
    (try k_fold)
    k_steps
    rename News _ _ _ _ => N19
    refine newTuple_V (by k_asm) N19 (by simp) fun D h20 F20 N20 l20 => ?_
    clear N19
    k_steps
    rename News _ _ _ _ => N21
    rw [hRv] at N21
    have hmem : ∀ p ∈ (ex2 ++ ex1) ++ rest, p ∈ ex2 ++ R84 := fun p hp => by
      rw [hR84]
      simp only [List.mem_cons, List.mem_append] at hp ⊢
      rcases hp with (h | h) | h <;> simp [h]
    have hall : ∀ p ∈ (72, tabObj p1') :: (79, tabObj p2') :: ((ex2 ++ ex1) ++ rest), p ∈ (79, tabObj p2') :: (ex2 ++ R84) := by
      intro p hp
      rcases List.mem_cons.mp hp with rfl | hp
      · refine .tail _ (List.mem_append_right _ ?_)
        rw [hR84]
        exact .tail _ (.tail _ (.head _))
      · rcases List.mem_cons.mp hp with rfl | hp
        · exact .head _
        · exact .tail _ (hmem p hp)
    refine hret D t18 tr p1' p2' (ex2 ++ ex1) _ _ (by k_asm) (cb_drop N21 ?_) ?_ ?_ ?_ ?_ ?_ ?_
    · intro p hp
      rcases List.mem_cons.mp hp with rfl | hp
      · exact .head _
      · exact .tail _ (hall p hp)
    · exact (tab_skip hT1' hT2).mono fun p hp => by
        simp only [List.mem_append] at hp ⊢
        rcases hp with h | h <;> simp [h]
    · rcases hT2'' with h | ⟨c₁, oc, vs, tq, e, mC, dC, vC⟩
      · exact .inl h
      · refine .inr ⟨c₁, oc, vs, tq, e, ?_, dC, vC⟩
        rw [hR84] at mC
        simp only [List.mem_append, List.mem_cons] at mC ⊢
        rcases mC with h | h | h | h | h | h
        · exact .inl (.inl h)
        · exfalso; cases h; cases dC
        · exfalso; cases h; cases dC
        · exfalso
          cases h
          cases dC
          rcases hT1' with rfl | ⟨_, _, _, _, rfl, _⟩
          · simp at vC
          · simp [rawInt] at vC
        · exact .inl (.inr h)
        · exact .inr h
    · intro p hp
      simp only [List.mem_append] at hp
      rcases hp with (h | h) | h
      · exact Nat.ne_of_gt (hex2 p h (72, tabObj p1') (.tail _ (by rw [hR84]; exact .tail _ (.tail _ (.head _)))))
      · exact hA1' p (List.mem_append_left _ h)
      · exact hA1 p h
    · exact fun p hp => hA2'' p (hmem p hp)
    · intro q hq p hp
      rcases List.mem_append.mp hq with h | h
      · exact hex2 q h p (.tail _ (by rw [hR84]; exact .tail _ (.tail _ (.tail _ (List.mem_append_right _ hp)))))
      · exact hex1 q h p (.tail _ (.tail _ hp))
    · exact fun p hp => l20 p (hall p hp)
  case st =>
    intro v r m nw hJ it h12 tk12 hcit F12 N13
    rw [hJ1] at hJ
    obtain ⟨qs, qn, rv, tr, kq, dl, pd, rfl, hqI, hlI, hpd, hval, hr0, hr1, hqB, hql, mr, mb', ⟨tn', mn⟩, mq⟩ := hJ
    cases hlI with
    | cons i ti hrest =>
    rename_i dl'
    rw [pin4 mr mb' mn mq] at F12
    clear N11 F11 N12
    k_steps
    have hiB : 0 ≤ i ∧ i < 2 ^ n := by
      have := hB i (List.mem_reverse.mp (hpd ▸ List.mem_append_right _ (.head _)))
      rw [Int.toNat_natCast] at this
      exact this
    obtain ⟨g1, g2, g3, g4, g5, g6, g7⟩ := div_step hb hval hr0 hr1 hiB.1 hiB.2
    have hrB : Builtin.Int.intBits rv ≤ n := bits_lt hr0 (by omega)
    refine shl_V (by omega) (by omega) fun sv hsv => ?_
    rw [Int.toNat_natCast] at hsv
    k_steps
    rw [← hsv] at g1 g2 g3 g4 g5 g6 g7
    have hxB : Builtin.Int.intBits (sv + i) ≤ n + n := by
      refine bits_lt g6 (Int.lt_of_lt_of_le g7 ?_)
      rw [Int.pow_add]
      exact Int.mul_le_mul_of_nonneg_right (by omega) (Int.le_of_lt (two_pow_pos n))
    refine' c63 w _ (sv + i) b n _ _ _ g6 (by omega) (noPy (by omega)) (by omega) _ _ _ _ _ _ _ _ _ _ _ _ _ _ _ _ _ _ _ _ _ _ ?b1 ?b2 ?b3 ?b4 ?b5 ?b6 ?b7 ?b8 ?_
    case b4 => k_asm
    case b1 => k_asm
    case b2 => k_asm
    case b3 => k_asm
    case b5 => k_asm
    case b6 => exact rfl
    case b7 => ktr_room
    case b8 => ktr_units
    intro D t1 t2 h13 tk13 F13 N14 l14
    have hDI : I < D := l14 (I, it) (.head _)
    have hDq : lq < D := l14 (lq, _) (.tail _ (.head _))
    have hDfx : ∀ p ∈ fx, p.1 < D := fun p hp => l14 p (.tail _ (.tail _ hp))
    (try dsimp only)
    (try k_fold)
    k_steps
    rename News _ _ _ _ => N15
    have hnl : qn.length ≤ 250 := by
      have : (pd ++ i :: dl').length = ns.length := by rw [hpd, List.length_reverse]
      rw [List.length_append] at this
      omega
    refine append_V [_, _] (by k_asm) N15 (List.forall_mem_cons.mpr ⟨Nat.ne_of_gt hDq, List.forall_mem_cons.mpr ⟨Ne.symm hIq, fun _ h => nomatch h⟩⟩) hfxq (by rw [hqI.length]; omega) fun h14 F14 N16 => ?_
    k_steps
    refine ⟨_, _, _, (lq, W.listOf (qs ++ [Value.int ((sv + i).fdiv b) t1]).toArray (kq + 1)) :: fx, rfl, F14, fun p hp => N16 p (.tail _ hp), List.forall_mem_cons.mpr ⟨hIq, hIfx⟩, ?_⟩
    rw [hJ1]
    refine ⟨_, qn ++ [(sv + i).fdiv b], (sv + i).fmod b, t2, kq + 1, dl', pd ++ [i], rfl, hqI.append (.cons _ _ .nil), hrest, ?_, ?_, g2, g3, ?_, ?_, rfl, rfl, ⟨tn', rfl⟩, rfl⟩
    · rw [List.append_assoc]
      exact hpd
    · rw [mval_snoc, mval_snoc]
      exact g1
    · intro q hq
      rcases List.mem_append.mp hq with hq | hq
      · exact hqB q hq
      · rw [List.mem_singleton.mp hq]
        exact ⟨g4, g5⟩
    · rw [List.length_append, List.length_append, hql]
      rfl
end Mine
end
section
open PySem PySem.W PyProof.Rows PySem.Calls PySem.Spec
set_option Elab.async false
set_option maxRecDepth 100000
set_option maxHeartbeats 8000000
set_option pp.deepTerms false
set_option pp.maxSteps 6000
namespace Mine
noncomputable abbrev T72 (ps : Array Value) (rest : List (Addr × Obj)) : Prop := TabOk 76 4 (Str.ofString "_int2digits.<locals>.inner") ps rest
noncomputable abbrev T79 (ps : Array Value) (rest : List (Addr × Obj)) : Prop := TabOk 91 4 (Str.ofString "_digits2int.<locals>.inner") ps rest
local macro_rules | `(tactic| walk_at "call ref") => `(tactic| ((with_reducible show wpAny _ _ (call (Value.ref 91) _) _ _ _); refine Hold.mk ?_))
theorem c98 : ∀ (w : World) (rest : List (Addr × Obj)) (p1 p2 : Array Value) (a b : Int) (ta tb : Tok),
   T72 p1 rest → T79 p2 rest → (∀ p ∈ rest, p.1 ≠ 72) → (∀ p ∈ rest, p.1 ≠ 79) →
   0 < a → 0 < b → Builtin.Int.intBits b ≤ 400 → Builtin.Int.intBits a ≤ 250 * Builtin.Int.intBits b → Builtin.Int.intBits a ≤ 10000 →
   Ctr w ((72, tabObj p1) :: (79, tabObj p2) :: rest) 320 fun A s Q E base h₀ L m => CodeHd base 76 72 → CodeHd base 83 79 →
     (∀ D t1 t2 p1' p2' extra h' tk', Fr h₀ L h' m → News h₀ L h' ((D, tupO [.int (a / b) t1, .int (a % b) t2]) :: (72, tabObj p1') :: (79, tabObj p2') :: (extra ++ rest)) →
       T72 p1' (extra ++ rest) → T79 p2' (extra ++ rest) → (∀ p ∈ extra ++ rest, p.1 ≠ 72) → (∀ p ∈ extra ++ rest, p.1 ≠ 79) →
       (∀ q ∈ extra, ∀ p ∈ rest, p.1 < q.1) → (∀ p ∈ (72, tabObj p1') :: (79, tabObj p2') :: (extra ++ rest), p.1 < D) → Q (.ref D) { s with heap := h', toks := tk' }) →
     wpAny (theM w) A (call (.ref 98) [.int a ta, .int b tb]) Q E s := by
  dsimp only [Ctr, theM]
  k_fill
  intro w rest p1 p2 a b ta tb hT1 hT2 hA1 hA2 ha hb hbb hab1 hab2
  intros
  rename_i hret
  refine wpAny_call ?_
  k_dflt cell_enter
  k_steps
  all_goals (try (exfalso; omega))
  refine' c91 w rest p1 p2 a b _ _ hT1 hT2 hA1 hA2 ha hb hbb hab1 hab2 _ _ _ _ _ _ _ _ _ _ _ _ _ _ _ _ _ _ _ _ _ _ ?b1 ?b2 ?b3 ?b4 ?b5 ?b6 ?b7 ?b8 ?b9 ?b10 ?_
  case b4 => k_asm
  case b1 => k_asm
  case b2 => k_asm
  case b3 => k_asm
  case b5 => k_asm
  case b6 => exact rfl
  case b7 => ktr_room
  case b8 => ktr_units
  case b9 => assumption
  case b10 => assumption
  intro D t1 t2 p1' p2' extra h9 tk9 F9 N9 k1 k2 k3 k4 k5 k6
  (try dsimp only)
  (try k_fold)
  k_steps
  exact hret D t1 t2 p1' p2' extra _ _ (by k_asm) (by k_asm) k1 k2 k3 k4 k5 k6
end Mine
end
section
open PySem PySem.W PyProof.Rows PySem.Calls PySem.Spec
set_option Elab.async false
set_option maxRecDepth 100000
set_option maxHeartbeats 8000000
set_option pp.deepTerms false
set_option pp.maxSteps 6000
namespace Mine
theorem newton_step {N s r : Int} (hs : s * s ≤ N) (hs0 : 0 < s) (hr : s ≤ r) : s ≤ (r + N / r) / 2 := by
  have hr0 : 0 < r := by omega
  have h1 : 2 * s - r ≤ N / r := by
    rw [Int.le_ediv_iff_mul_le hr0]
    refine Int.le_trans ?_ hs
    have h2 : 0 ≤ (r - s) * (r - s) := by
      have := Int.mul_nonneg (show 0 ≤ r - s by omega) (show 0 ≤ r - s by omega)
      exact this
    have e : (r - s) * (r - s) = r * r - 2 * (s * r) + s * s := by
      rw [Int.sub_mul, Int.mul_sub, Int.mul_sub, Int.mul_comm r s]
      omega
    have e2 : (2 * s - r) * r = 2 * (s * r) - r * r := by rw [Int.sub_mul, Int.mul_assoc]
    omega
  omega
theorem newton_end {N s r : Int} (hs2 : N < (s + 1) * (s + 1)) (hs0 : 0 < s) (hr : s ≤ r) (hp : r ≤ N / r) : r = s := by
  have hr0 : 0 < r := by omega
  have h1 : r * r ≤ N := (Int.le_ediv_iff_mul_le hr0).mp hp
  by_cases h : r ≤ s
  · omega
  · exfalso
    have h2 : (s + 1) * (s + 1) ≤ r * r := Int.mul_le_mul (by omega) (by omega) (by omega) (by omega)
    omega
noncomputable def Lower (J : Nat → Shared → Prop) (k : Nat) (s : Shared) : Prop := ∃ k', k' < k ∧ J k' s
theorem whl_inv {prog : Program} {w : World} {A : Around} {E : Value → Shared → Prop} {env : Env} {test : PySem.Expr} {body orelse : List Stmt} {Q : Flow → Shared → Prop} (hE : PassesOwn (model prog w) A env E) (J : Nat → Shared → Prop)
    (step : ∀ k s, J k s → wpAny (model prog w) A (isTrue test env (eval test env)) (fun b s₂ => WhlIf b (wpAny (model prog w) A (execs body env)
      (fun f s₃ => match f with | .next => Lower J k s₃ | .cont => Lower J k s₃ | .brk => Q .next s₃ | .ret v => Q (.ret v) s₃) E s₂) (wpAny (model prog w) A (execs orelse env) Q E s₂)) E s) :
    ∀ k s, J k s → WhlRest prog w A E env test body orelse Q 1 s := by
  intro k
  induction k using Nat.strongRecOn with
  | _ k ih =>
    intro s hJ
    refine whl_turn (k := 0) hE (wpAny_mono (step k s hJ) (fun b s₂ h => ?_) fun _ _ e => e)
    cases b with
    | false => exact h
    | true =>
      refine WhlIf.yes rfl (wpAny_mono (show wpAny _ _ _ _ _ _ from by simpa [WhlIf] using h) (fun f s₃ hf => ?_) fun _ _ e => e)
      cases f with
      | next => obtain ⟨k', hk, hJ'⟩ := hf; exact ih k' hk s₃ hJ'
      | cont => obtain ⟨k', hk, hJ'⟩ := hf; exact ih k' hk s₃ hJ'
      | brk => exact hf
      | ret v => exact hf
local macro_rules | `(tactic| walk_at "binaryOp Mult int int") => `(tactic| refine Hold.mk ?_)
local macro_rules | `(tactic| walk_at "binaryOp FloorDiv int int") => `(tactic| refine Hold.mk ?_)
local macro_rules | `(tactic| walk_at "exec While Compare cons nil") => `(tactic| refine Hold.mk ?_)
local macro_rules | `(tactic| walk_at "call ref") => `(tactic| ((with_reducible show wpAny _ _ (call (Value.ref 98) _) _ _ _); refine Hold.mk ?_))
theorem c138 : ∀ (w : World) (rest : List (Addr × Obj)) (p1 p2 : Array Value) (N r0 s₀ : Int) (ta tb : Tok),
   T72 p1 rest → T79 p2 rest → (∀ p ∈ rest, p.1 ≠ 72) → (∀ p ∈ rest, p.1 ≠ 79) →
   8 ≤ s₀ → s₀ * s₀ ≤ N → N < (s₀ + 1) * (s₀ + 1) → s₀ ≤ r0 → Builtin.Int.intBits r0 ≤ 399 → Builtin.Int.intBits N ≤ 1000 →
   Ctr w ((72, tabObj p1) :: (79, tabObj p2) :: rest) 330 fun A s Q E base h₀ L m => CodeHd base 76 72 → CodeHd base 83 79 →
     (∀ t p1' p2' extra h' tk', Fr h₀ L h' m → News h₀ L h' ((72, tabObj p1') :: (79, tabObj p2') :: (extra ++ rest)) →
       T72 p1' (extra ++ rest) → T79 p2' (extra ++ rest) → (∀ p ∈ extra ++ rest, p.1 ≠ 72) → (∀ p ∈ extra ++ rest, p.1 ≠ 79) →
       (∀ q ∈ extra, ∀ p ∈ rest, p.1 < q.1) → Q (.int s₀ t) { s with heap := h', toks := tk' }) →
     wpAny (theM w) A (call (.ref 138) [.int N ta, .int r0 tb]) Q E s := by
  dsimp only [Ctr, theM]
  k_fill
  intro w rest p1 p2 N r0 s₀ ta tb hT1 hT2 hA1 hA2 hs8 hsN hsN2 hsr hrB hNB
  intro p loose mean mg mb dp un gd cn cs aa ccd cl outer A₀ base h₀ L m₀ s Q E B F X NN T hk hdp hun hC1 hC2 hret
  refine wpAny_call ?_
  k_dflt (refine' code_def ?k1 ?k2 ?k3 ?k4 ?k5 ?kA ?kF ?kK ?k6 ?k7 ?k8 ?k9 ?kB ?_ ?c2 ?c3 ?c4 ?c5; (case kA => exact rfl); (case kF => exact rfl); (case kK => assumption); (case k1 => k_asm); (case k2 => k_asm); (case k3 => k_asm); (case k4 => k_asm); (case k5 => k_asm); (case k6 => k_is); (case k7 => k_is); (case k8 => ktr_room); (case k9 => exact BindsTo.of_eq rfl); (case c5 => decide); (case kB => exact locs rfl); (case c2 => exact rfl); (case c3 => exact rfl); (case c4 => exact rfl); k_whole; intro g' L' h' FG' F' N' B' X' T'; (try dsimp only); (try k_lift B'); (try k_fold))
  k_steps
  have hN0 : 0 < N := by
    have := Int.mul_le_mul hs8 hs8 (by omega) (by omega)
    omega
  have b4 : ∀ r : Int, s₀ ≤ r → 4 ≤ Builtin.Int.intBits r := by
    intro r hr
    by_cases h : 4 ≤ Builtin.Int.intBits r
    · exact h
    · exfalso
      have := intBits_le_iff.mp (show Builtin.Int.intBits r ≤ 3 by omega)
      omega
  have b4r := b4 r0 hsr
  refine' c98 w rest p1 p2 N r0 _ _ hT1 hT2 hA1 hA2 hN0 (by omega) (by omega) (by omega) (by omega) _ _ _ _ _ _ _ _ _ _ _ _ _ _ _ _ _ _ _ _ _ _ ?b1 ?b2 ?b3 ?b4 ?b5 ?b6 ?b7 ?b8 ?b9 ?b10 ?_
  case b4 => k_asm
  case b1 => k_asm
  case b2 => k_asm
  case b3 => k_asm
  case b5 => k_asm
  case b6 => exact rfl
  case b7 => ktr_room
  case b8 => ktr_units
  case b9 => assumption
  case b10 => assumption
  intro D t1 t2 p1' p2' extra h9 tk9 F9 N9 k1 k2 k3 k4 k5 k6
  (try dsimp only)
  (try k_fold)
  k_steps
  refine whl_start 1 ?_
  obtain ⟨J1, hJ1⟩ : ∃ J : Nat → Shared → Prop, J = (fun (k : Nat) (s' : Shared) => ∃ h tk m ex q1 q2 rv tn tr tp ts, s' = { s with heap := h, toks := tk } ∧ Fr g' L' h m ∧ News g' L' h ((72, tabObj q1) :: (79, tabObj q2) :: (ex ++ rest)) ∧
      T72 q1 (ex ++ rest) ∧ T79 q2 (ex ++ rest) ∧ (∀ p ∈ ex ++ rest, p.1 ≠ 72) ∧ (∀ p ∈ ex ++ rest, p.1 ≠ 79) ∧ (∀ q ∈ ex, ∀ p ∈ rest, p.1 < q.1) ∧
      m (Str.ofString "number") = some (.int N tn) ∧ m (Str.ofString "root") = some (.int rv tr) ∧ m (Str.ofString "part") = some (.int (N / rv) tp) ∧ m (Str.ofString "rest") = some (.int (N % rv) ts) ∧ s₀ ≤ rv ∧ rv ≤ r0 ∧ rv = (k : Int)) := ⟨_, rfl⟩
  refine whl_inv (by passes_own) J1 ?st r0.toNat _ ?start
  case start =>
    rename News _ _ _ _ => N10
    rw [hJ1]
    exact ⟨_, _, _, extra, p1', p2', r0, _, _, _, _, rfl, by k_asm, fun p hp => N10 p (.tail _ hp), k1, k2, k3, k4, k5, rfl, rfl, rfl, rfl, hsr, Int.le_refl _, by omega⟩
  case st =>
    intro k sJ hJ
    rw [hJ1] at hJ
    obtain ⟨h5, tk5, m5, ex, q1, q2, rv, tn, tr, tp, ts, rfl, F5, N5, j1, j2, j3, j4, j5, m1, m2, m3, m4, hr1, hr2, hrk⟩ := hJ
    rw [pin4 m1 m2 m3 m4] at F5
    clear NN
    k_steps
    by_cases hlt : N / rv < rv
    · refine WhlIf.yes (decide_eq_true hlt) ?_
      k_steps
      refine fdiv_V (by decide) (PyProof.noPylong_small (by decide)) fun r' hr' => ?_
      rw [Int.fdiv_eq_ediv_of_nonneg _ (by decide)] at hr'
      have hs' : s₀ ≤ r' := by rw [hr']; exact newton_step hsN (by omega) hr1
      have hr'lt : r' < rv := by omega
      have hr'B : Builtin.Int.intBits r' ≤ 399 := Nat.le_trans (intBits_le_of_natAbs (y := r0) (by omega) (Nat.le_refl _)) hrB
      have b4r' := b4 r' hs'
      k_steps
      rename News _ _ _ _ => N6
      refine' c98 w (ex ++ rest) q1 q2 N r' _ _ j1 j2 j3 j4 hN0 (by omega) (by omega) (by omega) (by omega) _ _ _ _ _ _ _ _ _ _ _ _ _ _ _ _ _ _ _ _ _ _ ?b1 ?b2 ?b3 ?b4 ?b5 ?b6 ?b7 ?b8 ?b9 ?b10 ?_
      case b4 => k_asm
      case b1 => k_asm
      case b2 => k_asm
      case b3 => k_asm
      case b5 => k_asm
      case b6 => exact rfl
      case b7 => ktr_room
      case b8 => ktr_units
      case b9 => assumption
      case b10 => assumption
      intro D' t1' t2' q1' q2' ex' h19 tk19 F19 N19 i1 i2 i3 i4 i5 i6
      (try dsimp only)
      (try k_fold)
      k_steps
      rename News _ _ _ _ => N20
      rw [← List.append_assoc] at N20 i1 i2 i3 i4
      refine ⟨r'.toNat, by omega, ?_⟩
      rw [hJ1]
      refine ⟨_, _, _, ex' ++ ex, q1', q2', r', _, _, _, _, rfl, by k_asm, fun p hp => N20 p (.tail _ hp), i1, i2, i3, i4, ?_, rfl, rfl, rfl, rfl, hs', by omega, by omega⟩
      intro q hq p hp
      rcases List.mem_append.mp hq with hq | hq
      · exact i5 q hq p (List.mem_append_right _ hp)
      · exact j5 q hq p hp
    · refine WhlIf.no (decide_eq_false hlt) ?_
      have hrs : rv = s₀ := newton_end hsN2 (by omega) hr1 (by omega)
      have hem := Int.emod_add_mul_ediv N rv
      have hm0 := Int.emod_nonneg N (show rv ≠ 0 by omega)
      have hm1 := Int.emod_lt_of_pos N (show 0 < rv by omega)
      k_steps
      simp only [evalEach]
      k_steps
      have hNrB : Builtin.Int.intBits (N / rv) ≤ 1000 := intBits_le_of_natAbs (y := N) (by
        have h1 := Int.ediv_nonneg (show 0 ≤ N by omega) (show 0 ≤ rv by omega)
        have h2 : N / rv ≤ N := Int.ediv_le_self _ (by omega)
        omega) hNB
      have hrvB : Builtin.Int.intBits rv ≤ 399 := Nat.le_trans (intBits_le_of_natAbs (y := r0) (by omega) (Nat.le_refl _)) hrB
      refine mul_V (IntMulOk.of_le hNrB hrvB (by decide)) fun pr hpr => ?_
      have hpr' : N - pr = N % rv := by rw [hpr, Int.mul_comm]; omega
      k_steps
      · rw [hrs]
        exact hret _ q1 q2 ex _ _ (by k_asm) (by k_asm) j1 j2 j3 j4 j5
      · exact absurd hpr'.symm (by assumption)
end Mine
end
section
open PySem PySem.W PyProof.Rows PySem.Calls PySem.Spec
set_option Elab.async false
set_option maxRecDepth 100000
set_option maxHeartbeats 8000000
set_option pp.deepTerms false
set_option pp.maxSteps 6000
namespace Mine
open PySem.W.X (SegX)
section
variable {M : Model} {A : Around} {c : Code} {fs : List Frame} {s : Shared} {P : End → Shared → Prop} {env : Env} {K : Flow → Sem PySem.Fin} {H : Value → Sem PySem.Fin} {gd : Bool → Bool} {lv : List Value → List Value}
noncomputable abbrev NoE : Value → Shared → Prop := fun _ _ => False
theorem x_wrap {α : Type} {m : Sem α} {K : α → Sem PySem.Fin} {H : Value → Sem PySem.Fin} {gd lv}
    (h : wpAny M (A.over c fs) m (fun a s' => SegX M A c (K a) fs s' P) NoE s) : SegX M A c (m.wrap K H gd lv) fs s P := by
  rintro Γ p rfl hΓ
  obtain ⟨e, s', hr, hq⟩ := runs_wrap_of_wp (Φ := fun e s' => e.quiet = true ∧ P e s') K H gd lv m (h (Γ.over fs) p (hΓ.over fs)) (fun a p' s' h' => h' Γ p' rfl hΓ) (fun x p' s' h' => h'.elim)
  exact ⟨e, s', hr, hq⟩
theorem x_execs_cons {st : Stmt} {rest : List Stmt}
    (h : SegX M A c ((exec st env).wrap (fun f => match f with | .next => (execs rest env).wrap K H gd lv | f => K f) H gd lv) fs s P) :
    SegX M A c ((execs (st :: rest) env).wrap K H gd lv) fs s P := by rw [execs_cons_wrap]; exact h
theorem x_at {p' : Pos} {k : Unit → Sem PySem.Fin} (h : SegX M A c (k ()) fs s P) : SegX M A c (.at p' k) fs s P :=
  x_wrap (m := standAt p') (K := k) (H := .raise) (gd := id) (lv := id) (wpAny_standAt h)
theorem x_stmt {st : Stmt} {rest : List Stmt}
    (h : wpAny M (A.over c fs) (exec st env) (fun f s' => f = .next ∧ SegX M A c ((execs rest env).wrap K H gd lv) fs s' P) NoE s) :
    SegX M A c ((execs (st :: rest) env).wrap K H gd lv) fs s P :=
  x_execs_cons (x_wrap (wpAny_mono h (fun f s' h' => by obtain ⟨rfl, h'⟩ := h'; exact h') fun _ _ e => e))
theorem x_If {test : PySem.Expr} {body orelse : List Stmt} {pos : Pos}
    (h : wpAny M (A.over c fs) (isTrue test env (eval test env)) (fun b s' => SegX M A c ((if b = true then execs body env else execs orelse env).wrap K H gd lv) fs s' P) NoE s) :
    SegX M A c ((exec (.If test body orelse pos) env).wrap K H gd lv) fs s P := by
  rw [exec_If]
  show SegX M A c (.at pos fun _ => (isTrue test env (eval test env) >>= fun b => if b = true then execs body env else execs orelse env).wrap K H gd lv) fs s P
  refine x_at ?_
  rw [Sem.bind_eq_wrap', Sem.wrap_wrap]
  exact x_wrap h
theorem x_yield {v : Value} {g : Bool} {l : List Value} {k : Resume → Sem PySem.Fin} (hfs : splitAtGen fs = none) (hg : g = false) (hfg : fs.any Frame.guarded = false)
    (x : ∀ p, P (.susp v false l k c p fs) s) : SegX M A c (.yield v g l k) fs s P := by
  subst hg
  rintro Γ p rfl _
  exact ⟨_, s, Runs.yield' fs hfs, by simp [End.quiet, hfg], x p⟩
theorem x_Yield {e : PySem.Expr} {ypos pos : Pos} (hfs : splitAtGen fs = none) (hgd : gd false = false) (hfg : fs.any Frame.guarded = false)
    (h : wpAny M (A.over c fs) (eval e env) (fun v s' => ∀ (l : List Value) (k : Resume → Sem PySem.Fin) (p : Pos), k (.send .none) = K .next → P (.susp v false l k c p fs) s') NoE s)
    (hco : env.scope.isCoroutine = false := by rfl) (hi : interactive env = false := by rfl) :
    SegX M A c ((exec (.Expr (.Yield (some e) ypos) pos) env).wrap K H gd lv) fs s P := by
  rw [exec_Expr env _ pos hi rfl]
  show SegX M A c (.at pos fun _ => ((eval e env >>= fun v => (standAt ypos >>= fun _ => yieldOut env v)) >>= fun x =>
    dropValue (.Yield (some e) ypos) pos x).wrap K H gd lv) fs s P
  have hy : ∀ v, yieldOut env v = yieldValue v := fun v => by simp only [yieldOut, hco, Bool.false_eq_true, if_false]
  simp only [hy]
  refine x_at ?_
  rw [Sem.bind_eq_wrap', Sem.bind_eq_wrap', Sem.wrap_wrap, Sem.wrap_wrap]
  refine x_wrap (wpAny_mono h (fun v s' h' => ?_) fun _ _ x => x)
  refine x_at ?_
  exact x_yield hfs hgd hfg fun p => h' _ _ p rfl
theorem x_call {c' : Code} {h : Option Value} {g : Bool} {l : List Value} {k : Result → Sem PySem.Fin} (hc : ∀ p, SegX M A c' (M.den c') (.ret k h g l c p [] :: fs) s P) :
    SegX M A c (.call c' h g l k) fs s P := by
  rintro Γ p rfl hΓ
  obtain ⟨e, s', hr, he⟩ := hc p (Γ.goto c') p rfl (hΓ.goto c')
  exact ⟨e, s', runs_call_seg hr, he⟩
theorem x_For {target iter : PySem.Expr} {body orelse : List Stmt} {pos : Pos}
    (h : wpAny M (A.over c fs) (eval iter env) (fun x s₁ => wpAny M (A.over c fs) (pyIter x) (fun it s₂ =>
      ∀ (k : Result → Sem PySem.Fin) (p : Pos), k (.ok .next) = K .next →
        SegX M A (.forLoop target it body orelse env) (M.den (.forLoop target it body orelse env)) (.ret k none (gd false) (lv []) c p [] :: fs) s₂ P) NoE s₁) NoE s)
    (hs : ∀ x, foldedSetIterable iter env x = pure x := by intro _; rfl) :
    SegX M A c ((exec (.For target iter body orelse pos) env).wrap K H gd lv) fs s P := by
  rw [exec_For]
  show SegX M A c (.at pos fun _ => (eval iter env >>= fun y => foldedSetIterable iter env y >>= fun x => standAt iter.pos >>= fun _ => holding [x] (pyIter x) >>= fun it => runOwn (.forLoop target it body orelse env) env).wrap K H gd lv) fs s P
  refine x_at ?_
  rw [Sem.bind_eq_wrap', Sem.wrap_wrap]
  refine x_wrap (wpAny_mono h (fun y s₁ h₁ => ?_) fun _ _ e => e)
  rw [hs]
  show SegX M A c (.at iter.pos fun _ => (holding [y] (pyIter y) >>= fun it => runOwn (.forLoop target it body orelse env) env).wrap K H gd lv) fs s₁ P
  refine x_at ?_
  rw [Sem.bind_eq_wrap', Sem.wrap_wrap]
  refine x_wrap (wpAny_holding (wpAny_mono h₁ (fun it s₂ h₂ => ?_) fun _ _ e => e))
  exact x_call fun p => h₂ _ p rfl
end
section
variable {prog : Program} {w : World} {A : Around} {fs : List Frame} {s : Shared} {P : End → Shared → Prop} {env : Env}
theorem x_func {body : List Stmt}
    (h : ∀ (K : Flow → Sem PySem.Fin) (H : Value → Sem PySem.Fin), K .next = .pure (.done (.ret .none)) → SegX (model prog w) A (.func body env) ((execs body env).wrap K H id id) fs s P) :
    SegX (model prog w) A (.func body env) ((model prog w).den (.func body env)) fs s P := by
  show SegX _ A _ (.point [] fun _ => ((execs body env).onRaise (leaving env)) >>= _) fs s P
  refine x_wrap (m := point) (K := fun _ => ((execs body env).onRaise (leaving env)) >>= _) (H := .raise) (gd := id) (lv := fun _ => []) (wpAny_point ?_)
  rw [Sem.onRaise_eq_wrap, Sem.bind_eq_wrap', Sem.wrap_wrap]
  exact h _ _ rfl
theorem x_forTurn {target : PySem.Expr} {it : Value} {body orelse : List Stmt}
    (h : wpAny (model prog w) (A.over (.forLoop target it body orelse env) fs) (pyNext it) (fun r s₁ => match r with
      | none => SegX (model prog w) A (.block orelse env) ((model prog w).den (.block orelse env)) fs s₁ P
      | some v => wpAny (model prog w) (A.over (.forLoop target it body orelse env) fs) (letOwnedTupleGo target it v) (fun _ s₂ =>
          wpAny (model prog w) (A.over (.forLoop target it body orelse env) fs) (assign target env v) (fun _ s₃ =>
            ∀ (K : Flow → Sem PySem.Fin) (H : Value → Sem PySem.Fin), K .next = .pure (.again (.forLoop target it body orelse env)) →
              SegX (model prog w) A (.forLoop target it body orelse env) ((execs body env).wrap K H id id) fs s₃ P) NoE s₂) NoE s₁) NoE s)
    (hq1 : (Code.block orelse env).quiet = true := by rfl) :
    SegX (model prog w) A (.forLoop target it body orelse env) ((model prog w).den (.forLoop target it body orelse env)) fs s P := by
  show SegX _ A _ ((forTurn target it body orelse env).onRaise (fun x => do noteFrame x env; theTreesLotGoes x)) fs s P
  simp only [forTurn]
  rw [Sem.onRaise_eq_wrap]
  refine x_at ?_
  show SegX _ A _ (Sem.wrap _ _ _ _ ((pyNext it).onRaise _ >>= _)) fs s P
  rw [Sem.bind_eq_wrap', Sem.wrap_wrap]
  refine x_wrap (wpAny_onRaise (wpAny_mono h (fun r s₁ h₁ => ?_) fun _ _ e => e.elim))
  cases r with
  | none =>
    show SegX _ A _ (.pure (.again (.block orelse env))) fs s₁ P
    exact PySem.W.X.s_again prog w A _ fs P s₁ _ hq1 h₁
  | some v =>
    show SegX _ A _ (Sem.wrap _ _ _ _ (letOwnedTupleGo target it v >>= fun _ => assign target env v >>= fun _ => execs body env >>= _)) fs s₁ P
    rw [Sem.bind_eq_wrap', Sem.wrap_wrap]
    refine x_wrap (wpAny_mono h₁ (fun _ s₂ h₂ => ?_) fun _ _ e => e)
    rw [Sem.bind_eq_wrap', Sem.wrap_wrap]
    refine x_wrap (wpAny_mono h₂ (fun _ s₃ h₃ => ?_) fun _ _ e => e)
    rw [Sem.bind_eq_wrap', Sem.wrap_wrap]
    exact h₃ _ _ rfl
theorem x_block_nil {k : Result → Sem PySem.Fin} {h : Option Value} {g : Bool} {l : List Value} {c₁ : Code} {p₁ : Pos} {kp}
    (x : SegX (model prog w) A c₁ (k (.ok .next)) fs s P) : SegX (model prog w) A (.block [] env) ((model prog w).den (.block [] env)) (.ret k h g l c₁ p₁ kp :: fs) s P :=
  PySem.W.X.s_pop prog w A _ fs P s (.ok .next) _ rfl k h g l c₁ p₁ kp x
theorem x_again {c c' : Code} (hq : c'.quiet = true) (x : SegX (model prog w) A c' ((model prog w).den c') fs s P) : SegX (model prog w) A c (.pure (.again c')) fs s P :=
  PySem.W.X.s_again prog w A c fs P s c' hq x
theorem x_end {c : Code} (x : P (.ret (.ok (.ret .none))) s) : SegX (model prog w) A c (.pure (.done (.ret .none))) [] s P :=
  PySem.W.X.s_end prog w A c P s (.ok (.ret .none)) _ rfl x
end
end Mine
end
section
open PySem PySem.W PyProof.Rows PySem.Calls PySem.Spec
set_option Elab.async false
set_option maxRecDepth 100000
set_option maxHeartbeats 8000000
set_option pp.deepTerms false
set_option pp.maxSteps 6000
namespace Mine
open PySem.W.X (SegX)
noncomputable def Wake (prog : Program) (w : World) (A : Around) (gs : GenState) (s : Shared) (P : End → Shared → Prop) : Prop := match gs with
  | .fresh c => SegX (model prog w) A c ((model prog w).den c) [] s P
  | .suspended k _ c _ fs _ => SegX (model prog w) A c (k (.send .none)) fs s P
  | _ => False
noncomputable def AtAll (pv : List (Addr × Obj)) (h : Heap) : Prop := ∀ p ∈ pv, h.get? p.1 = some p.2
noncomputable def KeptBut (pv : List (Addr × Obj)) (h h' : Heap) : Prop := ∀ b o, (∀ p ∈ pv, p.1 ≠ b) → h.get? b = some o → h'.get? b = some o
noncomputable def GSet (g : Nat) (gs' : GenState) (a b : Array GenState) : Prop := b.size = a.size ∧ (∀ k, k ≠ g → b[k]? = a[k]?) ∧ b[g]? = some gs' ∧ gs'.bare = true
/-- after an item: the tuple, what moved -/
structure Gave (h₀ : Heap) (pv : List (Addr × Obj)) (it : Nat × List Nat) (h h' : Heap) (D : Addr) (pv' : List (Addr × Obj)) : Prop where
  tup : ∃ t1 t2, h'.get? D = some (tupO [.int it.1 t1, .str ⟨it.2.toArray⟩ t2])
  kept : KeptBut pv h h'
  at' : AtAll pv' h'
  own : ∀ p ∈ pv', h.get? p.1 = none ∨ ∃ q ∈ pv, q.1 = p.1
  new : h.get? D = none
  ne : ∀ p ∈ pv', p.1 ≠ D
noncomputable def GenOk (prog : Program) (w : World) (A : Around) (h₀ : Heap) : List (Nat × List Nat) → GenState → List (Addr × Obj) → Prop
  | [], gs, pv => ∀ s : Shared, (∀ b o, h₀.get? b = some o → s.heap.get? b = some o) → AtAll pv s.heap →
      Wake prog w A gs s fun e s' => e = .ret (.ok (.ret .none)) ∧ KeptBut pv s.heap s'.heap ∧ ∃ h' tk', s' = { s with heap := h', toks := tk' }
  | it :: r, gs, pv => ∀ s : Shared, (∀ b o, h₀.get? b = some o → s.heap.get? b = some o) → AtAll pv s.heap →
      Wake prog w A gs s fun e s' => ∃ D pv' l k c p fs, e = .susp (.ref D) false l k c p fs ∧ Gave h₀ pv it s.heap s'.heap D pv' ∧ (∃ h' tk', s' = { s with heap := h', toks := tk' }) ∧ GenOk prog w A h₀ r e.genState pv'
noncomputable def GenPost (prog : Program) (w : World) (A : Around) (h₀ : Heap) : List (Nat × List Nat) → List (Addr × Obj) → Shared → End → Shared → Prop
  | [], pv, s => fun e s' => e = .ret (.ok (.ret .none)) ∧ KeptBut pv s.heap s'.heap ∧ ∃ h' tk', s' = { s with heap := h', toks := tk' }
  | it :: r, pv, s => fun e s' => ∃ D pv' l k c p fs, e = .susp (.ref D) false l k c p fs ∧ Gave h₀ pv it s.heap s'.heap D pv' ∧ (∃ h' tk', s' = { s with heap := h', toks := tk' }) ∧ GenOk prog w A h₀ r e.genState pv'
theorem genOk_of {prog : Program} {w : World} {A : Around} {h₀ : Heap} {its : List (Nat × List Nat)} {gs : GenState} {pv : List (Addr × Obj)}
    (h : ∀ s : Shared, (∀ b o, h₀.get? b = some o → s.heap.get? b = some o) → AtAll pv s.heap → Wake prog w A gs s (GenPost prog w A h₀ its pv s)) : GenOk prog w A h₀ its gs pv := by
  cases its with
  | nil => exact h
  | cons it r => exact h
theorem segX_quiet {M : Model} {A : Around} {c : Code} {t : Sem PySem.Fin} {fs : List Frame} {s : Shared} {P : End → Shared → Prop} (x : SegX M A c t fs s P) : SegX M A c t fs s (fun e s' => e.quiet = true ∧ P e s') :=
  fun Γ p hc hΓ => let ⟨e, s', hr, hq, hp⟩ := x Γ p hc hΓ; ⟨e, s', hr, hq, hq, hp⟩
theorem resume_wake {prog : Program} {w : World} {α : Type} {A : Around} {Q : α → Shared → Prop} {E : Value → Shared → Prop} {s : Shared} {g : Nat} {gs : GenState} {l : List Value} {k : GenResult → Sem α} {P : End → Shared → Prop} (hg : s.gens[g]? = some gs)
    (x : Wake prog w A gs (s.setGen g .running) P)
    (h : ∀ e s₁, e.quiet = true → P e s₁ → wpAny (model prog w) A (k e.result) Q E (s₁.setGen g e.genState)) : wpAny (model prog w) A (.resume g (.send .none) l k) Q E s := by
  intro Γ p hΓ
  cases gs with
  | fresh c => exact PySem.W.X.wake_any α prog w hg (.inl ⟨rfl, rfl, rfl, rfl⟩) (fun Γ => Γ.In A) (fun _ h => h) ((segX_quiet x).mono fun e s₁ he Γ p hΓ => h e s₁ he.1 he.2 Γ p hΓ) Γ p hΓ
  | suspended k₀ l₀ c₀ p₀ fs₀ cl => exact PySem.W.X.wake_any α prog w hg (.inr ⟨_, _, _, _, rfl, rfl⟩) (fun Γ => Γ.In A) (fun _ h => h) ((segX_quiet x).mono fun e s₁ he Γ p hΓ => h e s₁ he.1 he.2 Γ p hΓ) Γ p hΓ
  | running => exact x.elim
  | finished => exact x.elim
theorem gset_two {s : Shared} {g : Nat} {gs gs' : GenState} (hg : s.gens[g]? = some gs) (hb : gs'.bare = true) : GSet g gs' s.gens ((s.gens.setIfInBounds g .running).setIfInBounds g gs') := by
  have hlt : g < s.gens.size := by
    rcases Nat.lt_or_ge g s.gens.size with h' | h'
    · exact h'
    · rw [Array.getElem?_eq_none h'] at hg; cases hg
  refine ⟨by simp, fun k hk => ?_, ?_, hb⟩
  · simp [Array.getElem?_setIfInBounds, Ne.symm hk]
  · simp [Array.getElem?_setIfInBounds, hlt]
theorem wake_not {prog : Program} {w : World} {A : Around} {gs : GenState} {s : Shared} {P : End → Shared → Prop} (x : Wake prog w A gs s P) : gs.status = .fresh ∨ gs.status = .suspended := by
  cases gs with
  | fresh c => exact .inl rfl
  | suspended k₀ l₀ c₀ p₀ fs₀ cl => exact .inr rfl
  | running => exact x.elim
  | finished => exact x.elim
section
variable {prog : Program} {w : World} {A : Around} {E : Value → Shared → Prop} {s : Shared}
theorem next_wake {a : Addr} {g : Nat} {gs : GenState} {P : End → Shared → Prop} {Q : Option Value → Shared → Prop} (hh : A.handled = none)
    (hl : s.heap.NoLimit) (hroom : A.depth < recursionLimit) (hg : s.heap.IsGen a g) (hgs : s.gens[g]? = some gs)
    (x : Wake prog w A.in1 gs (s.setGen g .running) P)
    (hP : ∀ e s₁, e.quiet = true → P e s₁ → (∃ v g' l k c p fs, e = .susp v g' l k c p fs ∧ Q (some v) (s₁.setGen g e.genState)) ∨
      (e = .ret (.ok (.ret .none)) ∧ ∀ h', (∀ b o, s₁.heap.get? b = some o → h'.get? b = some o) → Q none { s₁.setGen g .finished with heap := h' })) :
    wpAny (model prog w) A (pyNext (.ref a)) Q E s := by
  unfold pyNext
  refine wpAny_bind (wpAny_attempt (wpAny_callSpecial?_slot (name := Str.ofString "__next__") hg.typeIs slot_gen_next
    (wpAny_call_entry slot_gen_next hg.typeIs entry_gen_next ?_ (args_gen_next _))))
  show wpAny _ _ (Builtin.Generator.genWake (.ref a) (.send .none)) _ _ s
  unfold Builtin.Generator.genWake
  refine wpAny_bind (wpAny_holding (wpAny_genNumber hg (wpAny_bind (wpAny_genState hgs ?_))))
  cases gs with
  | running => exact x.elim
  | finished => exact x.elim
  | _ =>
    refine wpAny_bind (wpAny_roomToWake hl hroom ?_)
    show wpAny _ _ (.resume g (.send .none) [] _) _ _ s
    refine resume_wake hgs x (fun e s₁ hq he => ?_)
    rcases hP e s₁ hq he with ⟨v, g', l, k, c, p, fs, rfl, hQ⟩ | ⟨rfl, hQ⟩
    · exact wpAny_pure ⟨v, rfl, wpAny_pure hQ⟩
    · show wpAny _ _ (newExc (.type "StopIteration") [] >>= _) _ _ _
      refine wpAny_bind ?_
      simp only [newExc, newTuple]
      refine wpAny_bind (wpAny_newObj_type ?_ (by size_fits))
      refine wpAny_bind (m := firstArgMember _ _) (wpAny_of_eq (a := Value.none) (by first | rfl | (simp only [firstArgMember]; rfl)) ?_)
      refine wpAny_newObj_type ?_ (by size_fits)
      simp only [raiseNew]
      refine wpAny_bind (wpAny_bind (wpAny_handled ?_))
      rw [show A.in1.handled = none from hh]
      refine wpAny_throw ?_
      refine wpAny_bind (wpAny_isInstance (T := "StopIteration") (b := true) ⟨_, Heap.get?_push_size _ rfl, rfl⟩ isSubtype_stop ?_)
      exact wpAny_pure (hQ _ fun b o hb => Heap.get?_push_of_some _ (Heap.get?_push_of_some _ hb))
theorem next_none {a : Addr} {g : Nat} {gs : GenState} {h₀ : Heap} {pv : List (Addr × Obj)} {Q : Option Value → Shared → Prop} (hh : A.handled = none)
    (hl : s.heap.NoLimit) (hroom : A.depth < recursionLimit) (hg : s.heap.IsGen a g) (hgs : s.gens[g]? = some gs)
    (hb : ∀ b o, h₀.get? b = some o → s.heap.get? b = some o) (hat : AtAll pv s.heap) (ok : GenOk prog w A.in1 h₀ [] gs pv)
    (hQ : ∀ G' h' tk', GSet g .finished s.gens G' → KeptBut pv s.heap h' → Q none { s with heap := h', toks := tk', gens := G' }) :
    wpAny (model prog w) A (pyNext (.ref a)) Q E s := by
  refine next_wake hh hl hroom hg hgs (ok (s.setGen g .running) hb hat) fun e s₁ hq he => .inr ?_
  obtain ⟨rfl, hk, h', tk', rfl⟩ := he
  exact ⟨rfl, fun h'' hk'' => hQ _ h'' tk' (gset_two hgs rfl) fun b o hb ho => hk'' b o (hk b o hb ho)⟩
theorem next_some {a : Addr} {g : Nat} {gs : GenState} {h₀ : Heap} {it : Nat × List Nat} {r : List (Nat × List Nat)} {pv : List (Addr × Obj)} {Q : Option Value → Shared → Prop} (hh : A.handled = none)
    (hl : s.heap.NoLimit) (hroom : A.depth < recursionLimit) (hg : s.heap.IsGen a g) (hgs : s.gens[g]? = some gs)
    (hb : ∀ b o, h₀.get? b = some o → s.heap.get? b = some o) (hat : AtAll pv s.heap) (ok : GenOk prog w A.in1 h₀ (it :: r) gs pv)
    (hQ : ∀ D pv' gs' G' h' tk', GSet g gs' s.gens G' → Gave h₀ pv it s.heap h' D pv' → GenOk prog w A.in1 h₀ r gs' pv' → Q (some (.ref D)) { s with heap := h', toks := tk', gens := G' }) :
    wpAny (model prog w) A (pyNext (.ref a)) Q E s := by
  refine next_wake hh hl hroom hg hgs (ok (s.setGen g .running) hb hat) fun e s₁ hq he => .inl ?_
  obtain ⟨D, pv', l, k, c, p, fs, rfl, hG, ⟨h', tk', rfl⟩, ok'⟩ := he
  exact ⟨_, _, _, _, _, _, _, rfl, hQ D pv' _ _ h' tk' (gset_two hgs (End.bare_of_quiet hq)) hG ok'⟩
end
end Mine
end
section
open PySem PySem.W PyProof.Rows PySem.Calls PySem.Spec
set_option Elab.async false
set_option maxRecDepth 100000
set_option maxHeartbeats 8000000
set_option pp.deepTerms false
set_option pp.maxSteps 6000
namespace Mine
open PySem.W.X (SegX)
noncomputable def esc : Bool → Nat → List Nat → List (Nat × List Nat)
  | _, _, [] => []
  | true, i, c :: r => (i, [92, c]) :: esc false (i + 1) r
  | false, i, c :: r => if c = 92 then esc true (i + 1) r else (i, [c]) :: esc false (i + 1) r
noncomputable def escEnd : Bool → List Nat → Bool
  | e, [] => e
  | true, _ :: r => escEnd false r
  | false, c :: r => escEnd (decide (c = 92)) r
noncomputable def scopeAt (p : Program) (i : Nat) : Scope := match p.main.body[i]? with
  | some (.FunctionDef _ _ _ _ _ _ sc _ _ _) => sc
  | _ => default
noncomputable abbrev gBody : List Stmt := bodyAt PySem.Challenge.pw_rs0143_01 11
noncomputable abbrev gScope : Scope := scopeAt PySem.Challenge.pw_rs0143_01 11
noncomputable abbrev gEnv (L : Addr) (cd : Value) : Env := envX (Str.ofString "_iter_escaped_chars") gScope L 105 cd []
noncomputable def forTarget : Stmt → PySem.Expr
  | .For t _ _ _ _ => t
  | _ => default
noncomputable def forBody : Stmt → List Stmt
  | .For _ _ b _ _ => b
  | _ => []
noncomputable abbrev gFor : Stmt := stmtAt gBody 2
noncomputable abbrev gLoop (L En : Addr) (cd : Value) : Code := .forLoop (forTarget gFor) (.ref En) (forBody gFor) [] (gEnv L cd)
noncomputable abbrev enO (It : Addr) (i : Int) (old : Value) : Obj := { cls := .type "enumerate", dict := none, data := .fields #[.none, .bool false, .ref It, rawInt i, .none, old], slots := #[] }
theorem around_eta {B : Around} (h : B.handled = none) : ∃ dp fr gd un, B = ⟨none, dp, fr, gd, un⟩ := ⟨B.depth, B.frames, B.guards, B.units, by cases B; simp_all⟩
theorem over_eq1 {A : Around} {c c₁ : Code} {k : Result → Sem PySem.Fin} {g : Bool} {l : List Value} {p : Pos} (hA : A.handled = none) :
    ∃ dp fr gd un, A.over c [.ret k none g l c₁ p []] = ⟨none, dp, fr, gd, un⟩ := around_eta (by simp [Around.over, marksOver, Frame.marks, hA, markOver])
theorem over_eq0 {A : Around} {c : Code} (hA : A.handled = none) : ∃ dp fr gd un, A.over c [] = ⟨none, dp, fr, gd, un⟩ := around_eta (by simp [Around.over, marksOver, hA])
noncomputable def StrIt (x : Str) (t : Tok) (i : Nat) (o : Obj) : Prop := o.cls = .type (strIterType x) ∧ o.data = .fields #[.str x t, .int i 0]
theorem drawsStr {prog : Program} {w : World} {A : Around} (hh : A.handled = none) (it : Addr) (x : Str) (t : Tok) :
    Draws prog w A it [it] x.cps.size (fun i v => ∃ c u, x.cps[i]? = some c ∧ v = .str ⟨#[c]⟩ u) (fun i h => h.IsStrIter it (strIterType x) x t i) := by
  unfold strIterType
  cases h : x.cps.all (· < 128)
  · simpa using Draws.strWide hh it x t
  · simpa using Draws.strAscii hh it x t
section
variable {prog : Program} {w : World} {A : Around} {s : Shared} {h₀ : Heap} {L En It : Addr} {m : Str → Option Value} {cons : List (Addr × Obj)} {x : Str} {t : Tok} {i c : Nat} {old : Value} {io : Obj}
theorem enum_turn {elts : List PySem.Expr} {x1} {pos : Pos} {X : Shared → Prop} {Y : Value → Shared → Prop} (hh : A.handled = none) (F : Fr h₀ L s.heap m) (N : News h₀ L s.heap ((En, enO It i old) :: (It, io) :: cons)) (hio : StrIt x t i io) (hEI : En ≠ It)
    (hc : ∀ p ∈ cons, p.1 ≠ En ∧ p.1 ≠ It) (hx : x.cps[i]? = some c)
    (h : ∀ T tk u io' h' tk', StrIt x t (i + 1) io' → Fr h₀ L h' m → News h₀ L h' ((T, tupO [.int i tk, .str ⟨#[c]⟩ u]) :: (En, enO It ((i + 1 : Nat) : Int) (.str ⟨#[c]⟩ u)) :: (It, io') :: cons) → (∀ p ∈ (En, enO It i old) :: (It, io) :: cons, p.1 < T) → Y (.ref T) { s with heap := h', toks := tk' }) :
    wpAny (model prog w) A (pyNext (.ref En)) (fun r s₁ => match r with
      | none => X s₁
      | some v => wpAny (model prog w) A (letOwnedTupleGo (.Tuple elts x1 pos) (.ref En) v) (fun _ s₂ => Y v s₂) NoE s₁) NoE s := by
  have nE := N _ (.head _)
  have nI := N _ (.tail _ (.head _))
  have hlt : i < x.cps.size := by
    rcases Nat.lt_or_ge i x.cps.size with h' | h'
    · exact h'
    · rw [Array.getElem?_eq_none h'] at hx; cases hx
  refine wpAny_pyNext_enum_itemD (drawsStr (A := A.in1) hh It x t) nE.1 ⟨_, nI.1, hio.1, hio.2⟩ hlt hEI (fun q => hEI (List.mem_singleton.mp q)) fun y h' tk hP ho hs' hT hsz hk => ?_
  obtain ⟨c', u, hc', rfl⟩ := hP
  rw [hx] at hc'
  cases hc'
  refine wpAny_letOwnedTupleGo_enum ho fun h₂ he₂ hs₂ => ?_
  have hTE : s.heap.objs.size ≠ En := Nat.ne_of_gt (Heap.lt_size nE.1)
  have hTI : s.heap.objs.size ≠ It := Nat.ne_of_gt (Heap.lt_size nI.1)
  have hkk : ∀ b o, b ≠ En → b ≠ It → s.heap.get? b = some o → h₂.get? b = some o := fun b o h1 h2 h3 => (hs₂.2 b h1).trans (hk b o h1 h2 h3)
  have hLs : L < s.heap.objs.size := F.ns.lt
  obtain ⟨io', ho1, ho2, ho3⟩ := hs'
  have e1 : ∀ b o, h₀.get? b = some o → b ≠ En ∧ b ≠ It := fun b o hb => ⟨fun q => (by rw [q, nE.2.2] at hb; cases hb), fun q => (by rw [q, nI.2.2] at hb; cases hb)⟩
  have F' : Fr h₀ L h₂ m := ⟨F.ns.at fun o q => hkk L o (Ne.symm nE.2.1) (Ne.symm nI.2.1) q, fun b o hb => hkk b o (e1 b o hb).1 (e1 b o hb).2 (F.keep b o hb), F.above⟩
  refine h s.heap.objs.size tk u io' h₂ (tk + 1) ⟨ho2, ho3⟩ F' ?_ (fun p hp => Heap.lt_size (N p hp).1)
  intro p hp
  rcases List.mem_cons.mp hp with rfl | hp
  · refine ⟨(hs₂.2 _ hTE).trans hT, Nat.ne_of_gt hLs, ?_⟩
    cases hq : h₀.get? s.heap.objs.size with
    | none => rfl
    | some o' => exact absurd (Heap.lt_size (F.keep _ _ hq)) (Nat.lt_irrefl _)
  rcases List.mem_cons.mp hp with rfl | hp
  · exact ⟨he₂, nE.2⟩
  rcases List.mem_cons.mp hp with rfl | hp
  · exact ⟨(hs₂.2 _ (Ne.symm hEI)).trans ho1, nI.2⟩
  · have z := N p (.tail _ (.tail _ hp))
    exact ⟨hkk _ _ (hc p hp).1 (hc p hp).2 z.1, z.2⟩
theorem enum_end {Q : Option Value → Shared → Prop} (hh : A.handled = none) (F : Fr h₀ L s.heap m) (N : News h₀ L s.heap ((En, enO It i old) :: (It, io) :: cons)) (hio : StrIt x t i io)
    (hc : ∀ p ∈ cons, p.1 ≠ En ∧ p.1 ≠ It) (hi : i = x.cps.size)
    (h : ∀ h', Fr h₀ L h' m → News h₀ L h' cons → Q none { s with heap := h' }) :
    wpAny (model prog w) A (pyNext (.ref En)) Q NoE s := by
  have nE := N _ (.head _)
  have nI := N _ (.tail _ (.head _))
  subst hi
  refine wpAny_pyNext_enum_endD (drawsStr (A := A.in1) hh It x t) nE.1 ⟨_, nI.1, hio.1, hio.2⟩ fun h' hx => h h' ?_ ?_
  · exact ⟨F.ns.at fun o q => hx L o (Ne.symm nI.2.1) q, fun b o hb => hx b o (fun q => by rw [q, nI.2.2] at hb; cases hb) (F.keep b o hb), F.above⟩
  · intro p hp
    have z := N p (.tail _ (.tail _ hp))
    exact ⟨hx _ _ (hc p hp).2 z.1, z.2⟩
end
end Mine
end
section
local macro_rules | `(tactic| walk_at "none 0") => `(tactic| skip)
open PySem PySem.W PyProof.Rows PySem.Calls PySem.Spec
set_option Elab.async false
set_option maxRecDepth 100000
set_option maxHeartbeats 8000000
set_option pp.deepTerms false
set_option pp.maxSteps 6000
namespace Mine
open PySem.W.X (SegX)
/-- since the wake: all that lay outside the generator's own lies still -/
structure Since (h₀ : Heap) (pv : List (Addr × Obj)) (L En It : Addr) (hw : Heap) (cons : List (Addr × Obj)) : Prop where
  all : ∀ b o, (∀ p ∈ pv, p.1 ≠ b) → hw.get? b = some o → h₀.get? b = some o ∨ (b, o) ∈ cons
  own : ∀ a, a = L ∨ a = En ∨ a = It → hw.get? a = none ∨ ∃ q ∈ pv, q.1 = a
  pvs : ∀ p ∈ pv, p.1 = L ∨ p.1 = En ∨ p.1 = It
theorem Since.more {h₀ : Heap} {pv : List (Addr × Obj)} {L En It : Addr} {hw : Heap} {cons cons' : List (Addr × Obj)} (h : Since h₀ pv L En It hw cons) (hs : ∀ p ∈ cons, p ∈ cons') : Since h₀ pv L En It hw cons' :=
  ⟨fun b o h1 h2 => (h.all b o h1 h2).imp id (hs _), h.own, h.pvs⟩
theorem Since.kept {h₀ : Heap} {pv : List (Addr × Obj)} {L En It : Addr} {hw h : Heap} {cons : List (Addr × Obj)} {m : Str → Option Value} (S : Since h₀ pv L En It hw cons) (F : Fr h₀ L h m) (N : News h₀ L h cons) : KeptBut pv hw h := fun b o h1 h2 => by
  rcases S.all b o h1 h2 with h3 | h3
  · exact F.keep b o h3
  · exact (N _ h3).1
theorem Since.gave {h₀ : Heap} {pv : List (Addr × Obj)} {L En It D : Addr} {hw h : Heap} {cons : List (Addr × Obj)} {m : Str → Option Value} {it : Nat × List Nat} {t1 t2 : Tok} {eo io : Obj} (S : Since h₀ pv L En It hw cons) (F : Fr h₀ L h m)
    (N : News h₀ L h ((D, tupO [.int it.1 t1, .str ⟨it.2.toArray⟩ t2]) :: (En, eo) :: (It, io) :: cons)) (hD : ∀ p ∈ (En, eo) :: (It, io) :: cons, p.1 < D) :
    ∃ oL, Gave h₀ pv it hw h D [(L, oL), (En, eo), (It, io)] ∧ ∀ h2 : Heap, h2.get? L = some oL → h2.Ns L m := by
  obtain ⟨oL, es, ep, hL, hr⟩ := F.ns
  have nD := N _ (.head _)
  have hDL : D ≠ L := nD.2.1
  have hDE : En < D := hD _ (.head _)
  have hDI : It < D := hD _ (.tail _ (.head _))
  refine ⟨oL, ⟨⟨t1, t2, nD.1⟩, S.kept F fun p hp => N p (.tail _ (.tail _ (.tail _ hp))), ?_, ?_, ?_, ?_⟩, fun h2 e => ⟨oL, es, ep, e, hr⟩⟩
  · intro p hp
    simp only [List.mem_cons, List.not_mem_nil, or_false] at hp
    rcases hp with rfl | rfl | rfl
    · exact hL
    · exact (N _ (.tail _ (.head _))).1
    · exact (N _ (.tail _ (.tail _ (.head _)))).1
  · intro p hp
    simp only [List.mem_cons, List.not_mem_nil, or_false] at hp
    exact S.own p.1 (by rcases hp with rfl | rfl | rfl <;> simp)
  · cases hq : hw.get? D with
    | none => rfl
    | some o =>
      exfalso
      rcases S.all D o (fun p hp e => by
        rcases S.pvs p hp with h1 | h1 | h1
        · exact hDL (e.symm.trans h1)
        · exact Nat.ne_of_gt hDE (e.symm.trans h1)
        · exact Nat.ne_of_gt hDI (e.symm.trans h1)) hq with h3 | h3
      · rw [nD.2.2] at h3; cases h3
      · exact Nat.lt_irrefl _ (hD _ (.tail _ (.tail _ h3)))
  · intro p hp
    simp only [List.mem_cons, List.not_mem_nil, or_false] at hp
    rcases hp with rfl | rfl | rfl
    · exact Ne.symm hDL
    · exact Nat.ne_of_lt hDE
    · exact Nat.ne_of_lt hDI
/-- all that lies outside, as a list -/
theorem others (h₀ h : Heap) (own : List Addr) : ∃ cons : List (Addr × Obj), (∀ p ∈ cons, h.get? p.1 = some p.2 ∧ p.1 ∉ own ∧ h₀.get? p.1 = none) ∧
    ∀ b o, b ∉ own → h.get? b = some o → h₀.get? b = none → (b, o) ∈ cons := by
  refine ⟨(List.range h.objs.size).filterMap fun b => if b ∈ own then none else match h₀.get? b with | some _ => none | none => (h.get? b).map fun o => (b, o), ?_, ?_⟩
  · intro p hp
    obtain ⟨b, hb, e⟩ := List.mem_filterMap.mp hp
    split at e
    · cases e
    · rename_i hn
      split at e
      · cases e
      · rename_i hz
        obtain ⟨o, ho, rfl⟩ := Option.map_eq_some_iff.mp e
        exact ⟨ho, hn, hz⟩
  · intro b o hb ho hz
    refine List.mem_filterMap.mpr ⟨b, List.mem_range.mpr (Heap.lt_size ho), ?_⟩
    rw [if_neg hb, hz, ho]
    rfl
theorem Since.fresh {h₀ h h2 : Heap} {L En It : Addr} {m : Str → Option Value} {cons : List (Addr × Obj)} {oL eo io : Obj} (F : Fr h₀ L h m) (N : News h₀ L h ((En, eo) :: (It, io) :: cons)) (hb : ∀ b o, h₀.get? b = some o → h2.get? b = some o)
    (hat : AtAll [(L, oL), (En, eo), (It, io)] h2) (hns : ∀ h2 : Heap, h2.get? L = some oL → h2.Ns L m) :
    ∃ cons2, Fr h₀ L h2 m ∧ News h₀ L h2 ((En, eo) :: (It, io) :: cons2) ∧ (∀ p ∈ cons2, p.1 ≠ En ∧ p.1 ≠ It) ∧ Since h₀ [(L, oL), (En, eo), (It, io)] L En It h2 cons2 := by
  obtain ⟨cons2, h1, h3⟩ := others h₀ h2 [L, En, It]
  have nE := N _ (.head _)
  have nI := N _ (.tail _ (.head _))
  refine ⟨cons2, ⟨hns _ (hat _ (.head _)), hb, F.above⟩, ?_, ?_, ?_⟩
  · intro p hp
    rcases List.mem_cons.mp hp with rfl | hp
    · exact ⟨hat _ (.tail _ (.head _)), nE.2⟩
    rcases List.mem_cons.mp hp with rfl | hp
    · exact ⟨hat _ (.tail _ (.tail _ (.head _))), nI.2⟩
    · have z := h1 p hp
      exact ⟨z.1, fun e => z.2.1 (by rw [e]; exact .head _), z.2.2⟩
  · intro p hp
    have z := (h1 p hp).2.1
    exact ⟨fun e => z (by rw [e]; exact .tail _ (.head _)), fun e => z (by rw [e]; exact .tail _ (.tail _ (.head _)))⟩
  · refine ⟨fun b o hn ho => ?_, ?_, ?_⟩
    · cases hz : h₀.get? b with
      | some o' =>
        have := hb _ _ hz
        rw [ho] at this
        cases this
        exact .inl rfl
      | none =>
        refine .inr (h3 b o (fun hm => ?_) ho hz)
        simp only [List.mem_cons, List.not_mem_nil, or_false] at hm
        rcases hm with rfl | rfl | rfl
        · exact hn _ (.head _) rfl
        · exact hn _ (.tail _ (.head _)) rfl
        · exact hn _ (.tail _ (.tail _ (.head _))) rfl
    · rintro a (rfl | rfl | rfl)
      · exact .inr ⟨_, .head _, rfl⟩
      · exact .inr ⟨_, .tail _ (.head _), rfl⟩
      · exact .inr ⟨_, .tail _ (.tail _ (.head _)), rfl⟩
    · intro p hp
      simp only [List.mem_cons, List.not_mem_nil, or_false] at hp
      rcases hp with rfl | rfl | rfl <;> simp
local macro_rules | `(tactic| walk_at "newTuple") => `(tactic| refine Hold.mk ?_)
theorem abs_post {M : Model} {A : Around} {α : Type} {m : Sem α} {s : Shared} {Q : α → Shared → Prop} (h : ∀ QQ : α → Shared → Prop, (∀ a s', Q a s' → QQ a s') → wpAny M A m QQ NoE s) : wpAny M A m Q NoE s := h Q fun _ _ h => h
theorem str1_eq (c : Nat) : ((⟨#[c]⟩ : Str) == Str.ofString "\\") = decide (c = 92) := by
  by_cases h : c = 92
  · subst h; rfl
  · rw [decide_eq_false h]
    apply beq_eq_false_iff_ne.mpr
    intro e
    have e2 : (⟨#[c]⟩ : Str) = ⟨#[92]⟩ := e
    cases e2
    exact h rfl
theorem drop_cons {l r : List Nat} {i c : Nat} (h : l.drop i = c :: r) : l[i]? = some c ∧ l.drop (i + 1) = r := by
  constructor
  · have := congrArg List.head? h
    rwa [List.head?_drop] at this
  · have := congrArg List.tail h
    rwa [List.tail_drop] at this
theorem loop_seg (w : World) (A : Around) (hA : A.handled = none) (h₀ : Heap) (L En It : Addr) (cd : Value) (x : Str) (t : Tok) (hEI : En ≠ It) (K : Flow → Sem PySem.Fin) (H : Value → Sem PySem.Fin) (hK : K .next = .pure (.done (.ret .none))) :
    ∀ (cs : List Nat) (i : Nat) (e : Bool) (m : Str → Option Value) (old : Value) (io : Obj) (cons pv : List (Addr × Obj)) (sw s : Shared) (k : Result → Sem PySem.Fin) (pf : Pos),
      x.cps.toList.drop i = cs → i ≤ x.cps.size → escEnd e cs = false → m (Str.ofString "escape") = some (.bool e) → k (.ok .next) = (execs (gBody.drop 3) (gEnv L cd)).wrap K H id id →
      Fr h₀ L s.heap m → News h₀ L s.heap ((En, enO It i old) :: (It, io) :: cons) → StrIt x t i io → (∀ p ∈ cons, p.1 ≠ En ∧ p.1 ≠ It) → Since h₀ pv L En It sw.heap cons → (∃ h' tk', s = { sw with heap := h', toks := tk' }) →
      SegX (theM w) A (gLoop L En cd) ((theM w).den (gLoop L En cd)) [.ret k none false [] (.func gBody (gEnv L cd)) pf []] s (GenPost PySem.Challenge.rw_rs0143_01.row.prog w A h₀ (esc e i cs) pv sw) := by
  intro cs
  induction cs with
  | nil =>
    intro i e m old io cons pv sw s k pf hdrop hi hend hm hk F N hio hc S hs
    refine x_forTurn ?_
    obtain ⟨dp, fr, gd, un, eA⟩ := over_eq1 (c := gLoop L En cd) (c₁ := .func gBody (gEnv L cd)) (k := k) (g := false) (l := []) (p := pf) hA
    rw [eA]
    have hi : i = x.cps.size := Nat.le_antisymm hi (by simpa using List.drop_eq_nil_iff.mp hdrop)
    refine enum_end rfl F N hio hc hi fun h' F' N' => ?_
    refine x_block_nil ?_
    rw [hk]
    have he : e = false := hend
    subst he
    rw [pin4 hm hm hm hm] at F'
    clear F N
    rw [show gBody.drop 3 = [stmtAt gBody 3] from rfl]
    refine x_stmt ?_
    obtain ⟨dp, fr, gd, un, eA⟩ := over_eq0 (c := .func gBody (gEnv L cd)) hA
    rw [eA]
    obtain ⟨hh, tk, rfl⟩ := hs
    obtain ⟨QQ, hQQ⟩ : ∃ QQ : Flow → Shared → Prop, (∀ s', (∃ h' tk', s' = { sw with heap := h', toks := tk' }) → KeptBut pv sw.heap s'.heap → QQ .next s') ∧ ∀ f s', QQ f s' → (f = .next ∧ SegX (theM w) A (.func gBody (gEnv L cd)) ((execs [] (gEnv L cd)).wrap K H id id) [] s' (GenPost PySem.Challenge.rw_rs0143_01.row.prog w A h₀ (esc false i []) pv sw)) := by
      refine ⟨_, ?_, fun f s' h => h⟩
      intro s' h1 h2
      refine ⟨rfl, ?_⟩
      show SegX _ _ _ (K .next) _ _ _
      rw [hK]
      exact x_end ⟨rfl, h2, h1⟩
    refine wpAny_mono (Q := QQ) ?_ hQQ.2 fun _ _ e => e
    simp only [gEnv, gBody, gScope, scopeAt, stmtAt, bodyAt, PySem.Challenge.pw_rs0143_01, List.getElem?_cons_zero, List.getElem?_cons_succ, Option.getD_some]
    k_fill
    k_steps
    exact hQQ.1 _ ⟨_, _, rfl⟩ (S.kept (by assumption) (by assumption))
  | cons c r ih =>
    intro i e m old io cons pv sw s k pf hdrop hi hend hm hk F N hio hc S hs
    refine x_forTurn ?_
    obtain ⟨dp, fr, gd, un, eA⟩ := over_eq1 (c := gLoop L En cd) (c₁ := .func gBody (gEnv L cd)) (k := k) (g := false) (l := []) (p := pf) hA
    rw [eA]
    obtain ⟨hx, hdrop'⟩ := drop_cons hdrop
    have hx : x.cps[i]? = some c := by rw [← hx, Array.getElem?_toList]
    have hi' : i + 1 ≤ x.cps.size := by
      rcases Nat.lt_or_ge i x.cps.size with h' | h'
      · exact h'
      · rw [Array.getElem?_eq_none h'] at hx; cases hx
    refine enum_turn rfl F N hio hEI hc hx fun T tkT u io' h' tk' hio' F' N' hlt => ?_
    obtain ⟨hh, tk, rfl⟩ := hs
    rw [pin4 hm hm hm hm] at F'
    clear F N
    have hcT : ∀ p ∈ (T, tupO [.int i tkT, .str ⟨#[c]⟩ u]) :: cons, p.1 ≠ En ∧ p.1 ≠ It := List.forall_mem_cons.mpr ⟨⟨Nat.ne_of_gt (hlt _ (.head _)), Nat.ne_of_gt (hlt _ (.tail _ (.head _)))⟩, hc⟩
    obtain ⟨QQ, hQQ⟩ : ∃ QQ : Unit → Shared → Prop, (∀ m' h' tk', m' (Str.ofString "escape") = some (.bool e) → m' (Str.ofString "pos") = some (.int i tkT) → m' (Str.ofString "ch") = some (.str ⟨#[c]⟩ u) → Fr h₀ L h' m' → News h₀ L h' ((En, enO It ((i + 1 : Nat) : Int) (.str ⟨#[c]⟩ u)) :: (It, io') :: (T, tupO [.int i tkT, .str ⟨#[c]⟩ u]) :: cons) → QQ () { sw with heap := h', toks := tk' }) ∧
       ∀ a s', QQ a s' → ∀ (K : Flow → Sem PySem.Fin) (H : Value → Sem PySem.Fin), K .next = .pure (.again (gLoop L En cd)) →
              SegX (theM w) A (gLoop L En cd) ((execs (forBody gFor) (gEnv L cd)).wrap K H id id) [.ret k none false [] (.func gBody (gEnv L cd)) pf []] s' (GenPost PySem.Challenge.rw_rs0143_01.row.prog w A h₀ (esc e i (c :: r)) pv sw) := by
      refine ⟨_, ?_, fun a s' h => h⟩
      clear F' N'
      intro m' h1 tk1 me mp mc F N K' H' hK'
      have ST := S.more (cons' := (T, tupO [.int i tkT, .str ⟨#[c]⟩ u]) :: cons) fun p hp => .tail _ hp
      rw [pin4 me mp mc mc] at F
      rw [show forBody gFor = [stmtAt (forBody gFor) 0] from rfl]
      refine x_execs_cons (x_If ?_)
      rw [eA]
      refine abs_post fun QQ hQQ => ?_
      simp only [gEnv, gFor, forBody, gBody, gScope, scopeAt, stmtAt, bodyAt, PySem.Challenge.pw_rs0143_01, List.getElem?_cons_zero, List.getElem?_cons_succ, Option.getD_some]
      k_fill
      k_steps
      refine hQQ _ _ ?_
      clear hQQ QQ
      have resume : ∀ (D : Addr) (it : Nat × List Nat) (t1 t2 : Tok) (m2 : Str → Option Value) (h2 : Heap) (tk2 : Nat) (l : List Value) (k0 : Resume → Sem PySem.Fin) (p0 : Pos) (rs : List Stmt) (K2 : Flow → Sem PySem.Fin) (H2 : Value → Sem PySem.Fin), K2 .next = K' .next → escEnd false r = false →
          Fr h₀ L h2 m2 → News h₀ L h2 ((D, tupO [.int it.1 t1, .str ⟨it.2.toArray⟩ t2]) :: (En, enO It ((i + 1 : Nat) : Int) (.str ⟨#[c]⟩ u)) :: (It, io') :: (T, tupO [.int i tkT, .str ⟨#[c]⟩ u]) :: cons) →
          (∀ p ∈ (En, enO It ((i + 1 : Nat) : Int) (.str ⟨#[c]⟩ u)) :: (It, io') :: (T, tupO [.int i tkT, .str ⟨#[c]⟩ u]) :: cons, p.1 < D) →
          k0 (.send .none) = (execs rs (gEnv L cd)).wrap K2 H2 id id →
          (∀ (s3 : Shared) (news : List (Addr × Obj)) (QQ : Flow → Shared → Prop), Fr h₀ L s3.heap m2 → News h₀ L s3.heap news →
            (∀ m3 h3 tk3, m3 (Str.ofString "escape") = some (.bool false) → Fr h₀ L h3 m3 → News h₀ L h3 news → QQ .next { s3 with heap := h3, toks := tk3 }) → wpAny (theM w) (⟨none, dp, fr, gd, un⟩ : Around) (execs rs (gEnv L cd)) QQ NoE s3) →
          GenPost PySem.Challenge.rw_rs0143_01.row.prog w A h₀ (it :: esc false (i + 1) r) pv sw (.susp (.ref D) false l k0 (gLoop L En cd) p0 [.ret k none false [] (.func gBody (gEnv L cd)) pf []]) { sw with heap := h2, toks := tk2 } := by
        intro D it t1 t2 m2 h2 tk2 l k0 p0 rs K2 H2 hK2 hend2 F2 N2 hD hk0 hrs
        obtain ⟨oL, hG, hns⟩ := ST.gave F2 N2 hD
        refine ⟨D, _, _, _, _, _, _, rfl, hG, ⟨_, _, rfl⟩, genOk_of fun s3 hb3 hat3 => ?_⟩
        show SegX _ _ _ (k0 (.send .none)) _ _ _
        rw [hk0]
        obtain ⟨cons3, F3, N3, hc3, S3⟩ := Since.fresh F2 (fun p hp => N2 p (.tail _ hp)) hb3 hat3 hns
        refine x_wrap ?_
        rw [eA]
        refine hrs s3 _ _ F3 N3 fun m3 h4 tk4 hm4 F4 N4 => ?_
        rw [hK2, hK']
        refine x_again rfl ?_
        exact ih (i + 1) false m3 _ io' cons3 _ s3 _ k pf hdrop' hi' hend2 hm4 hk F4 N4 hio' hc3 S3 ⟨_, _, rfl⟩
      cases e with
      | true =>
        rw [if_pos rfl]
        refine x_execs_cons (x_Yield rfl rfl rfl ?_)
        rw [eA]
        refine abs_post fun QQ hQQ => ?_
        clear hm
        k_steps
        refine newTuple_V F N (by simp) fun D h5 F5 N5 l5 => ?_
        refine hQQ _ _ fun l k0 p0 hk0 => ?_
        dsimp only at hk0
        refine resume D (i, [92, c]) _ _ _ h5 _ l k0 p0 _ _ _ ?hK2 hend F5 N5 l5 hk0 ?_
        case hK2 => rfl
        clear hQQ QQ resume N5 F5 N F
        intro s3 news QQ F6 N6 hQQ
        simp only [gEnv, gFor, forBody, gBody, gScope, scopeAt, stmtAt, bodyAt, PySem.Challenge.pw_rs0143_01, List.getElem?_cons_zero, List.getElem?_cons_succ, Option.getD_some]
        k_fill
        k_steps
        exact hQQ _ _ _ rfl (by assumption) (by assumption)
      | false =>
        rw [if_neg Bool.false_ne_true]
        refine x_execs_cons (x_If ?_)
        rw [eA]
        refine abs_post fun QQ hQQ => ?_
        clear hm
        k_steps
        refine hQQ _ _ ?_
        clear hQQ QQ
        rw [str1_eq]
        by_cases h92 : c = 92
        · rw [decide_eq_true h92, if_pos rfl]
          have ee : esc false i (c :: r) = esc true (i + 1) r := by simp [esc, h92]
          have hend2 : escEnd true r = false := by simpa [escEnd, h92] using hend
          rw [ee]
          clear resume
          refine x_wrap ?_
          rw [eA]
          refine abs_post fun QQ hQQ => ?_
          k_steps
          refine hQQ _ _ ?_
          show SegX _ _ _ (K' .next) _ _ _
          rw [hK']
          refine x_again rfl ?_
          exact ih (i + 1) true _ _ io' _ pv sw _ k pf hdrop' hi' hend2 rfl hk (by assumption) (by assumption) hio' hcT ST ⟨_, _, rfl⟩
        · rw [decide_eq_false h92, if_neg Bool.false_ne_true]
          have ee : esc false i (c :: r) = (i, [c]) :: esc false (i + 1) r := by simp [esc, h92]
          have hend2 : escEnd false r = false := by simpa [escEnd, h92] using hend
          rw [ee]
          refine x_execs_cons (x_Yield rfl rfl rfl ?_)
          rw [eA]
          refine abs_post fun QQ hQQ => ?_
          k_steps
          refine newTuple_V F N (by simp) fun D h5 F5 N5 l5 => ?_
          refine hQQ _ _ fun l k0 p0 hk0 => ?_
          dsimp only at hk0
          refine resume D (i, [c]) _ _ _ h5 _ l k0 p0 _ _ _ ?hK2 hend2 F5 N5 l5 hk0 ?_
          case hK2 => rfl
          clear hQQ QQ resume N5 F5 N F
          intro s3 news QQ F6 N6 hQQ
          rw [execs_nil]
          exact wpAny_pure (hQQ _ _ _ rfl F6 N6)
    refine wpAny_mono (Q := QQ) ?_ hQQ.2 fun _ _ e => e
    simp only [gEnv, gFor, forTarget, gBody, gScope, scopeAt, stmtAt, bodyAt, PySem.Challenge.pw_rs0143_01, List.getElem?_cons_zero, List.getElem?_cons_succ, Option.getD_some]
    k_fill
    k_steps
    rename News _ _ _ _ => N9
    exact hQQ.1 _ _ _ rfl rfl rfl (by assumption) (fun p hp => N9 p (by
      simp only [List.mem_cons] at hp ⊢
      rcases hp with h | h | h | h <;> simp [h]))
end Mine
end
section
open PySem PySem.W PyProof.Rows PySem.Calls PySem.Spec
set_option Elab.async false
set_option maxRecDepth 100000
set_option maxHeartbeats 8000000
set_option pp.deepTerms false
set_option pp.maxSteps 6000
namespace Mine
open PySem.W.X (SegX)
local macro_rules | `(tactic| walk_at "call type:enumerate") => `(tactic| refine Hold.mk ?_)
theorem gen_fresh : ∀ (w : World) (p : Program) (loose : List Str) (mean : ExcName → Option Value) (mg mb : Str → Option Value) (A : Around) (h₀ : Heap) (L : Addr) (cd : Value) (x : Str) (t : Tok) (m : Str → Option Value) (oL : Obj),
    A.handled = none → (hd.heap_39 w.params).In h₀ → Top p loose mean mg mb h₀ → (∀ h2 : Heap, h2.get? L = some oL → h2.Ns L m) → h₀.objs.size ≤ L → m (Str.ofString "addr") = some (.str x t) → escEnd false x.cps.toList = false →
    GenOk PySem.Challenge.rw_rs0143_01.row.prog w A h₀ (esc false 0 x.cps.toList) (.fresh (.func gBody (gEnv L cd))) [(L, oL)] := by
  k_fill
  intro w p loose mean mg mb A h₀ L cd x t m oL hA X T hns hab hm hend
  refine genOk_of fun s hb hat => ?_
  refine x_func fun K H hK => ?_
  obtain ⟨cons, h1, h3⟩ := others h₀ s.heap [L]
  have F : Fr h₀ L s.heap m := ⟨hns _ (hat _ (.head _)), hb, hab⟩
  have N : News h₀ L s.heap cons := fun p hp => ⟨(h1 p hp).1, fun e => (h1 p hp).2.1 (by rw [e]; exact .head _), (h1 p hp).2.2⟩
  have hall : ∀ b o, b ≠ L → s.heap.get? b = some o → h₀.get? b = some o ∨ (b, o) ∈ cons := fun b o hb' ho => by
    cases hz : h₀.get? b with
    | some o' =>
      have := hb _ _ hz
      rw [ho] at this
      cases this
      exact .inl rfl
    | none => exact .inr (h3 b o (fun q => hb' (List.mem_singleton.mp q)) ho hz)
  rw [pin4 hm hm hm hm] at F
  obtain ⟨dp, fr, gd, un, eA⟩ := over_eq0 (c := .func gBody (gEnv L cd)) hA
  rw [show execs gBody (gEnv L cd) = execs (stmtAt gBody 0 :: stmtAt gBody 1 :: gFor :: gBody.drop 3) (gEnv L cd) from rfl]
  refine x_stmt ?_
  rw [eA]
  refine abs_post fun QQ hQQ => ?_
  simp only [gEnv, gFor, forBody, gBody, gScope, scopeAt, stmtAt, bodyAt, PySem.Challenge.pw_rs0143_01, List.getElem?_cons_zero, List.getElem?_cons_succ, Option.getD_some]
  k_steps
  refine hQQ _ _ ⟨rfl, ?_⟩
  clear hQQ QQ
  refine x_stmt ?_
  rw [eA]
  refine abs_post fun QQ hQQ => ?_
  simp only [gEnv, gFor, forBody, gBody, gScope, scopeAt, stmtAt, bodyAt, PySem.Challenge.pw_rs0143_01, List.getElem?_cons_zero, List.getElem?_cons_succ, Option.getD_some]
  k_steps
  refine hQQ _ _ ⟨rfl, ?_⟩
  clear hQQ QQ
  refine x_execs_cons (x_For ?_)
  rw [eA]
  refine abs_post fun QQ hQQ => ?_
  simp only [gEnv, gFor, forBody, gBody, gScope, scopeAt, stmtAt, bodyAt, PySem.Challenge.pw_rs0143_01, List.getElem?_cons_zero, List.getElem?_cons_succ, Option.getD_some]
  k_steps
  rename News _ _ _ _ => N8
  rename Fr _ _ _ _ => F8
  refine call_enumerate_str fun h' hE hI hsz hkk => ?_
  dsimp only at hE hI hsz hkk ⊢
  rename_i h8
  refine hQQ _ _ ?_
  clear hQQ QQ
  refine wpAny_pyIter_enum hE ?_
  intro k pf hk
  dsimp only at hk
  obtain ⟨io, i1, i2, i3⟩ := hI
  have F9 : Fr h₀ L h' _ := ⟨F8.ns.keeps hkk, fun b o q => hkk b o (F8.keep b o q), F8.above⟩
  have live : ∀ b o, s.heap.get? b = some o → b < h8.objs.size := fun b o ho => by
    by_cases e : b = L
    · rw [e]; exact F8.ns.lt
    · rcases hall b o e ho with q | q
      · exact Heap.lt_size (F8.keep _ _ q)
      · exact Heap.lt_size (N8 _ q).1
  have hLs : L < h8.objs.size := F8.ns.lt
  have nz : ∀ a, h8.objs.size ≤ a → h₀.get? a = none := fun a ha => by
    cases hq : h₀.get? a with
    | none => rfl
    | some o' => exact absurd (Heap.lt_size (F8.keep _ _ hq)) (Nat.not_lt.mpr ha)
  have nz2 : ∀ a, h8.objs.size ≤ a → s.heap.get? a = none := fun a ha => by
    cases hq : s.heap.get? a with
    | none => rfl
    | some o' => exact absurd (live _ _ hq) (Nat.not_lt.mpr ha)
  refine loop_seg w A hA h₀ L (h8.objs.size + 1) h8.objs.size cd x t (Nat.succ_ne_self _) K H hK x.cps.toList 0 false _ .none io cons [(L, oL)] s _ k pf rfl (Nat.zero_le _) hend rfl hk F9 ?_ ⟨i2, i3⟩ ?_ ?_ ⟨_, _, rfl⟩
  · intro p hp
    rcases List.mem_cons.mp hp with rfl | hp
    · exact ⟨hE, Nat.ne_of_gt (Nat.lt_succ_of_lt hLs), nz _ (Nat.le_succ _)⟩
    rcases List.mem_cons.mp hp with rfl | hp
    · exact ⟨i1, Nat.ne_of_gt hLs, nz _ (Nat.le_refl _)⟩
    · have z := N8 p hp
      exact ⟨hkk _ _ z.1, z.2⟩
  · intro p hp
    have z := Heap.lt_size (N8 p hp).1
    exact ⟨Nat.ne_of_lt (Nat.lt_succ_of_lt z), Nat.ne_of_lt z⟩
  · refine ⟨fun b o hn ho => hall b o (fun e => hn _ (.head _) e.symm) ho, ?_, ?_⟩
    · rintro a (rfl | rfl | rfl)
      · exact .inr ⟨_, .head _, rfl⟩
      · exact .inl (nz2 _ (Nat.le_succ _))
      · exact .inl (nz2 _ (Nat.le_refl _))
    · intro p hp
      rw [List.mem_singleton.mp hp]
      exact .inl rfl
end Mine
end
section
open PySem PySem.W PyProof.Rows PySem.Calls PySem.Spec
set_option Elab.async false
set_option maxRecDepth 100000
set_option maxHeartbeats 8000000
set_option pp.deepTerms false
set_option pp.maxSteps 6000
namespace Mine
noncomputable abbrev genO (g : Nat) (nm qn : Value) : Obj := { cls := .type "generator", data := .fields #[.int g 0, nm, qn] }
theorem code_gen {prog : Program} {w : World} {A : Around} {s : Shared} {h₀ : Heap} {L : Addr} {m : Str → Option Value} {K : Frag} {R : Result → Shared → Prop} {name qual : Str} {params : Arguments} {body : List Stmt} {scope : Scope} {dV kV doc pm cdv ct oc : Value} {an od : Option Addr} {osl : Array (Option Value)} {f : Addr} {args : Args}
    (F : Fr h₀ L s.heap m) (X₀ : K.In h₀) (ho : K.lookup f = some ⟨oc, od, .func (fnOf name qual params body scope dV kV doc pm an cdv ct), osl⟩) (hcd : codeIn K cdv qual = true) (hroom : A.depth < recursionLimit) (hco : scope.isCoroutine = false) (hgen : scope.isGenerator = true)
    (h : wpAny (model prog w) A.in1 (bindArgs (fnOf name qual params body scope dV kV doc pm an cdv ct) args) (fun binds s₁ =>
      wpAny (model prog w) A.in1 (newFunctionEnv scope mainGlobals [] binds (qual ++ ".<locals>.") (some f) cdv none builtinsNs)
        (fun env s₂ => s₂.heap.NoLimit ∧ R (.ok (.ret (.ref s₂.heap.objs.size)))
          { s₂ with gens := s₂.gens.push (.fresh (.func body env)), toks := s₂.toks + 1 + 1,
                    heap := s₂.heap.push { cls := .type "generator",
                                           data := .fields #[.int s₂.gens.size 0, .str name s₂.toks, .str qual (s₂.toks + 1)] } })
        (fun e s' => R (.error e) s') s₁) (fun e s' => R (.error e) s') s) : codeAny (model prog w) A (.call (.ref f) args) R s :=
  codeAny_call_generator (fd := fnOf name qual params body scope dV kV doc pm an cdv ct) hroom ((X₀.keeps F.keep) _ _ ho) rfl hco hgen rfl (codeRec_of (X₀.keeps F.keep) hcd) h
theorem c105 : ∀ (w : World) (news : List (Addr × Obj)) (x : Str) (t : Tok), escEnd false x.cps.toList = false →
   Ctr w news 2 fun A s Q E _ h₀ L m =>
   (∀ G Lg oL nm qn gs h' tk', Fr h₀ L h' m → News h₀ L h' ((G, genO s.gens.size nm qn) :: (Lg, oL) :: news) → (∀ p ∈ news, p.1 < Lg) → Lg < G → gs.bare = true →
     (∀ A' : Around, A'.handled = none → GenOk PySem.Challenge.rw_rs0143_01.row.prog w A' h₀ (esc false 0 x.cps.toList) gs [(Lg, oL)]) →
     Q (.ref G) { s with heap := h', toks := tk', gens := s.gens.push gs }) →
      wpAny (theM w) A (call (.ref 105) [.str x t]) Q E s := by
  have base := gen_fresh
  dsimp only [Ctr, theM] at base ⊢
  k_fill
  intro w news x t hend p loose mean mg mb dp un gd cn cs aa ccd cl outer A₀ base' h₀ L m₀ s Q E B F X N T hk hdp hun hret
  refine wpAny_call ?_
  refine' code_gen F X ?ho ?hcd ?room ?h2 ?h3 ?_
  case ho => k_is
  case hcd => k_is
  case room => ktr_room
  case h2 => exact rfl
  case h3 => exact rfl
  refine wpAny_of_eq (a := [(Str.ofString "addr", .str x t)]) rfl ?_
  refine wpAny_newFunctionEnv (by decide) (locs rfl) (fun h₁ hns hsb => ?_) rfl
  have keep : ∀ b o, s.heap.get? b = some o → h₁.get? b = some o := fun b o e => hsb.extBut b o (Nat.ne_of_lt (Heap.lt_size e)) (Heap.get?_push_of_some _ e)
  have hnl : h₁.NoLimit := (T.nolimit.keeps F.keep).keeps keep
  refine ⟨hnl, ?_⟩
  have hsz : h₁.objs.size = s.heap.objs.size + 1 := by rw [hsb.1, Heap.size_push]
  have hLs : L < s.heap.objs.size := F.ns.lt
  have nz : ∀ a, s.heap.objs.size ≤ a → h₀.get? a = none := fun a ha => by
    cases hq : h₀.get? a with
    | none => rfl
    | some o' => exact absurd (Heap.lt_size (F.keep _ _ hq)) (Nat.not_lt.mpr ha)
  obtain ⟨oL, es, ep, hL, hr⟩ := hns
  have F1 : Fr h₀ L h₁ m₀ := ⟨F.ns.keeps keep, fun b o q => keep b o (F.keep b o q), F.above⟩
  have keep2 : ∀ (o' : Obj) b o, s.heap.get? b = some o → (h₁.push o').get? b = some o := fun o' b o e => Heap.get?_push_of_some _ (keep b o e)
  dsimp only
  refine hret _ s.heap.objs.size oL (.str (Str.ofString "_iter_escaped_chars") (s.toks + 1)) (.str (Str.ofString "_iter_escaped_chars") (s.toks + 1 + 1)) _ _ _ (F1.push _) ?_ (fun p hp => Heap.lt_size (N p hp).1) (by rw [hsz]; exact Nat.lt_succ_self _) rfl (fun A' hA' => ?_)
  · intro p hp
    rcases List.mem_cons.mp hp with rfl | hp
    · exact ⟨Heap.get?_push_size _ rfl, Nat.ne_of_gt (by rw [hsz]; exact Nat.lt_succ_of_lt hLs), nz _ (by rw [hsz]; exact Nat.le_succ _)⟩
    rcases List.mem_cons.mp hp with rfl | hp
    · exact ⟨Heap.get?_push_of_some _ hL, Nat.ne_of_gt hLs, nz _ (Nat.le_refl _)⟩
    · have z := N p hp
      exact ⟨keep2 _ _ _ z.1, z.2⟩
  · exact base w p loose mean mg mb A' h₀ s.heap.objs.size _ x t _ oL hA' X T (fun h2 e => ⟨oL, es, ep, e, hr⟩) (Nat.le_trans F.above (Nat.le_of_lt hLs)) rfl hend
end Mine
end
section
open PySem PySem.W PyProof.Rows PySem.Calls PySem.Spec
set_option Elab.async false
set_option maxRecDepth 100000
set_option maxHeartbeats 8000000
set_option pp.deepTerms false
set_option pp.maxSteps 6000
namespace Mine
theorem GSet.all {g : Nat} {gs : GenState} {a b : Array GenState} (h : GSet g gs a b) (ha : AllBare a) : AllBare b := by
  intro y hy
  obtain ⟨i, hi, rfl⟩ := Array.mem_iff_getElem.mp hy
  by_cases e : i = g
  · subst e
    have := h.2.2.1
    rw [Array.getElem?_eq_getElem hi] at this
    cases this
    exact h.2.2.2
  · have h1 := h.2.1 i e
    rw [Array.getElem?_eq_getElem hi] at h1
    obtain ⟨hi', e'⟩ := Array.getElem?_eq_some_iff.mp h1.symm
    exact e' ▸ ha _ (Array.getElem_mem hi')
noncomputable def Apart (tl front : List (Addr × Obj)) : Prop := ∀ p ∈ tl, ∀ q ∈ front, p.1 ≠ q.1
/-- the body's end: on to the next item -/
noncomputable def GNext (h₀ : Heap) (L : Addr) (tl : List (Addr × Obj)) (J : (Str → Option Value) → List (Addr × Obj) → Prop) (s s' : Shared) : Prop :=
  ∃ m front h tk, s' = { s with heap := h, toks := tk } ∧ Fr h₀ L h m ∧ News h₀ L h (front ++ tl) ∧ Apart tl front ∧ J m front
noncomputable def GInv (prog : Program) (w : World) (A : Around) (h₀ : Heap) (L G : Addr) (go : Obj) (g : Nat) (rest : List (Addr × Obj)) (J : List (Nat × List Nat) → (Str → Option Value) → List (Addr × Obj) → Prop) (s₀ : Shared) (n : Nat) (s : Shared) : Prop :=
  ∃ its m front pv gar gs, its.length = n ∧ J its m front ∧ (∃ h tk Gn, s = { s₀ with heap := h, toks := tk, gens := Gn }) ∧ Fr h₀ L s.heap m ∧ News h₀ L s.heap (front ++ ((G, go) :: (pv ++ (gar ++ rest)))) ∧
    (∀ p ∈ pv, ∀ q ∈ front ++ ((G, go) :: (gar ++ rest)), p.1 ≠ q.1) ∧ Apart ((G, go) :: (pv ++ (gar ++ rest))) front ∧ s.gens[g]? = some gs ∧ AllBare s.gens ∧ GenOk prog w A.in1 h₀ its gs pv
theorem letGo_gen {prog : Program} {w : World} {A : Around} {E : Value → Shared → Prop} {s : Shared} {elts : List PySem.Expr} {x1} {pos : Pos} {G D : Addr} {go : Obj} {vs : Array Value} {Q : Unit → Shared → Prop} (hG : s.heap.get? G = some go) (h1 : go.cls = .type "generator") (h2 : go.data = .fields vs) (h : Q () s) :
    wpAny (model prog w) A (letOwnedTupleGo (.Tuple elts x1 pos) (.ref G) (.ref D)) Q E s := by
  unfold letOwnedTupleGo
  refine wpAny_bind (wpAny_load hG ?_)
  rw [h1, h2]
  show wpAny _ A (if (["enumerate", "zip", "dict_itemiterator", "dict_reverseitemiterator", "odict_iterator", "itertools.zip_longest", "itertools.pairwise"].contains "generator" &&
      vs[0]? == some (rawInt D)) = true then _ else _) Q E s
  rw [if_neg (by simp)]
  exact wpAny_pure h
theorem gen_loop {prog : Program} {w : World} {A : Around} {h₀ : Heap} {L G : Addr} {go : Obj} {g : Nat} {rest : List (Addr × Obj)} {s₀ : Shared} {R : Result → Shared → Prop} {elts : List PySem.Expr} {x1} {pos : Pos} {body : List Stmt} {env : Env}
    (hh : A.handled = none) (hroom : A.depth < recursionLimit) (hlim : h₀.NoLimit) (hgo : go.cls = .type "generator" ∧ (∃ nm qn, go.data = .fields #[.int g 0, nm, qn]) ∧ go.slots = #[])
    (J : List (Nat × List Nat) → (Str → Option Value) → List (Addr × Obj) → Prop)
    (done : ∀ m front h tk Gn, J [] m front → Fr h₀ L h m → News h₀ L h (front ++ rest) → Apart rest front → AllBare Gn → R (.ok .next) { s₀ with heap := h, toks := tk, gens := Gn })
    (step : ∀ it r m front tl D t1 t2 h tk Gn, J (it :: r) m front → Fr h₀ L h m → News h₀ L h ((D, tupO [.int it.1 t1, .str ⟨it.2.toArray⟩ t2]) :: (front ++ tl)) → Apart ((D, tupO [.int it.1 t1, .str ⟨it.2.toArray⟩ t2]) :: tl) front → (∀ p ∈ front ++ tl, p.1 ≠ D) → (∀ p ∈ rest, p ∈ tl) → AllBare Gn →
      wpAny (model prog w) A (assign (.Tuple elts x1 pos) env (.ref D)) (fun _ s₂ => wpAny (model prog w) A (execs body env) (fun f s₃ => match f with
        | .next | .cont => GNext h₀ L tl (J r) { s₀ with heap := h, toks := tk, gens := Gn } s₃
        | .brk => R (.ok .next) s₃
        | .ret v => R (.ok (.ret v)) s₃) NoE s₂) NoE { s₀ with heap := h, toks := tk, gens := Gn }) :
    ∀ n s, GInv prog w A h₀ L G go g rest J s₀ n s → codeAny (model prog w) A (.forLoop (.Tuple elts x1 pos) (.ref G) body [] env) R s := by
  intro n s hI
  refine codeAny_forLoop_any (GInv prog w A h₀ L G go g rest J s₀) ?_ n hI
  clear hI n s
  rintro n s ⟨its, m, front, pv, gar, gs, hn, hJ, ⟨h, tk, Gn, rfl⟩, F, N, hpv, hap, hgs, hbare, ok⟩
  dsimp only at F N hgs hbare
  have nG := N (G, go) (List.mem_append_right _ (.head _))
  have hG : h.IsGen G g := let ⟨h1, ⟨nm, qn, h2⟩, h3⟩ := hgo; ⟨go, nm, qn, nG.1, h1, h2, h3⟩
  have hat : AtAll pv h := fun p hp => (N p (List.mem_append_right _ (.tail _ (List.mem_append_left _ hp)))).1
  have notL : ∀ p ∈ pv, p.1 ≠ L ∧ h₀.get? p.1 = none := fun p hp => (N p (List.mem_append_right _ (.tail _ (List.mem_append_left _ hp)))).2
  have hF : ∀ h', KeptBut pv h h' → Fr h₀ L h' m := fun h' hk => ⟨F.ns.at fun o q => hk L o (fun p hp => (notL p hp).1) q, fun b o hb => hk b o (fun p hp e => by rw [← e, (notL p hp).2] at hb; cases hb) (F.keep b o hb), F.above⟩
  have hN : ∀ h', KeptBut pv h h' → ∀ p ∈ front ++ ((G, go) :: (gar ++ rest)), h'.get? p.1 = some p.2 ∧ p.1 ≠ L ∧ h₀.get? p.1 = none := fun h' hk p hp => by
    have z := N p (by simp only [List.mem_append, List.mem_cons] at hp ⊢; rcases hp with q | q | q | q <;> simp [q])
    exact ⟨hk _ _ (fun q hq => hpv q hq p hp) z.1, z.2⟩
  cases its with
  | nil =>
    refine next_none hh (hlim.keeps F.keep) hroom hG hgs F.keep hat ok fun G' h' tk' hs hk => ?_
    rw [execs_nil]
    refine wpAny_pure (done m front h' tk' G' hJ (hF h' hk) (fun p hp => hN h' hk p (by simp only [List.mem_append, List.mem_cons] at hp ⊢; rcases hp with q | q <;> simp [q])) (fun p hp => hap p (.tail _ (List.mem_append_right _ (List.mem_append_right _ hp)))) (hs.all hbare))
  | cons it r =>
    refine next_some hh (hlim.keeps F.keep) hroom hG hgs F.keep hat ok fun D pv' gs' G' h' tk' hs hgv ok' => ?_
    dsimp only
    have hk := hgv.kept
    obtain ⟨g1, ⟨nm, qn, g2⟩, g3⟩ := hgo
    refine letGo_gen (hN h' hk (G, go) (List.mem_append_right _ (.head _))).1 g1 g2 ?_
    obtain ⟨t1, t2, hD⟩ := hgv.tup
    have live : ∀ p ∈ front ++ ((G, go) :: (pv ++ (gar ++ rest))), p.1 ≠ D := fun p hp e => by
      have := (N p hp).1
      rw [e, hgv.new] at this
      cases this
    have hDL : D ≠ L := fun e => by
      obtain ⟨o, _, _, ho, _⟩ := F.ns
      rw [← e, hgv.new] at ho
      cases ho
    have hD0 : h₀.get? D = none := by
      cases hq : h₀.get? D with
      | none => rfl
      | some o => have := F.keep _ _ hq; rw [hgv.new] at this; cases this
    have pv'ok : ∀ p ∈ pv', (p.1 ≠ L ∧ h₀.get? p.1 = none) ∧ ∀ q ∈ front ++ ((G, go) :: (gar ++ rest)), p.1 ≠ q.1 := fun p hp => by
      rcases hgv.own p hp with hnone | ⟨q, hq, e⟩
      · refine ⟨⟨fun e => ?_, ?_⟩, fun q hq e => ?_⟩
        · obtain ⟨o, _, _, ho, _⟩ := F.ns
          rw [← e, hnone] at ho
          cases ho
        · cases hq : h₀.get? p.1 with
          | none => rfl
          | some o => have := F.keep _ _ hq; rw [hnone] at this; cases this
        · have := (N q (by simp only [List.mem_append, List.mem_cons] at hq ⊢; rcases hq with q | q | q | q <;> simp [q])).1
          rw [← e, hnone] at this
          cases this
      · exact ⟨e ▸ notL q hq, fun q' hq' => e ▸ hpv q hq q' hq'⟩
    refine wpAny_mono (step it r m front ((G, go) :: (pv' ++ (gar ++ rest))) D t1 t2 h' tk' G' hJ (hF h' hk) ?_ ?_ ?_ (fun p hp => .tail _ (List.mem_append_right _ (List.mem_append_right _ hp))) (hs.all hbare)) (fun _ s₂ h₂ => wpAny_mono h₂ (fun f s₃ h₃ => ?_) fun _ _ e => e.elim) fun _ _ e => e.elim
    · intro p hp
      rcases List.mem_cons.mp hp with rfl | hp
      · exact ⟨hD, hDL, hD0⟩
      · rcases List.mem_append.mp hp with hp | hp
        · exact hN h' hk p (List.mem_append_left _ hp)
        · rcases List.mem_cons.mp hp with rfl | hp
          · exact hN h' hk _ (List.mem_append_right _ (.head _))
          · rcases List.mem_append.mp hp with hp | hp
            · exact ⟨hgv.at' p hp, (pv'ok p hp).1⟩
            · exact hN h' hk p (List.mem_append_right _ (.tail _ hp))
    · intro p hp q hq
      rcases List.mem_cons.mp hp with rfl | hp
      · exact Ne.symm (live q (List.mem_append_left _ hq))
      · rcases List.mem_cons.mp hp with rfl | hp
        · exact hap _ (.head _) q hq
        · rcases List.mem_append.mp hp with hp | hp
          · exact (pv'ok p hp).2 q (List.mem_append_left _ hq)
          · exact hap p (.tail _ (List.mem_append_right _ hp)) q hq
    · intro p hp
      rcases List.mem_append.mp hp with hp | hp
      · exact live p (List.mem_append_left _ hp)
      · rcases List.mem_cons.mp hp with rfl | hp
        · exact live _ (List.mem_append_right _ (.head _))
        · rcases List.mem_append.mp hp with hp | hp
          · exact hgv.ne p hp
          · exact live p (List.mem_append_right _ (.tail _ (List.mem_append_right _ hp)))
    · have go' : GNext h₀ L ((G, go) :: (pv' ++ (gar ++ rest))) (J r) { s₀ with heap := h', toks := tk', gens := G' } s₃ → ∃ k, k < n ∧ GInv prog w A h₀ L G go g rest J s₀ k s₃ := by
        rintro ⟨m2, front2, h2, tk2, rfl, F2, N2, ap2, J2⟩
        refine ⟨r.length, by rw [← hn]; exact Nat.lt_succ_self _, r, m2, front2, pv', gar, gs', rfl, J2, ⟨_, _, _, rfl⟩, F2, N2, ?_, ap2, hs.2.2.1, hs.all hbare, ok'⟩
        intro p hp q hq
        rcases List.mem_append.mp hq with hq | hq
        · exact ap2 p (.tail _ (List.mem_append_left _ hp)) q hq
        · exact (pv'ok p hp).2 q (List.mem_append_right _ hq)
      cases f with
      | next => exact go' h₃
      | cont => exact go' h₃
      | brk => exact h₃
      | ret v => exact h₃
end Mine
end
section
local macro_rules | `(tactic| walk_at "none 0") => `(tactic| skip)
open PySem PySem.W PyProof.Rows PySem.Calls PySem.Spec
set_option Elab.async false
set_option maxRecDepth 100000
set_option maxHeartbeats 8000000
set_option pp.deepTerms false
set_option pp.maxSteps 6000
namespace Mine
noncomputable def OpIs (op : Option Int) (v : Option Value) : Prop := (op = none ∧ v = some .none) ∨ ∃ o t, op = some o ∧ v = some (.int o t)
noncomputable def stripF (x : Str) : List (Nat × List Nat) → Int → Option Int → List Str → Int × List Str
  | [], st, _, acc => (st, acc)
  | (pos, ch) :: r, st, op, acc => if ch = [34] then (match op with
      | none => stripF x r st (some pos) acc
      | some o => stripF x r (pos + 1) none (if st ≠ o then acc ++ [Txt.slice x (some st) (some o)] else acc)) else stripF x r st op acc
noncomputable def stripL (x : Str) : List Str :=
  let r := stripF x (esc false 0 x.cps.toList) 0 none []
  if r.1 < (x.length : Int) then r.2 ++ [Txt.slice x (some r.1) none] else r.2
noncomputable def stripOf (x : Str) : Str := if (Builtin.Str.occurrences x (Str.ofString "\"") 0 x.length 1).isEmpty = true then x else Txt.join (Str.ofString "") (stripL x)
noncomputable def sumLen (l : List Str) : Nat := (l.map (·.length)).sum
theorem StrsAre.snoc {vs : List Value} {ys : List Str} (h : StrsAre vs ys) (y : Str) (t : Tok) : StrsAre (vs ++ [.str y t]) (ys ++ [y]) := by
  induction h with
  | nil => exact .cons y t .nil
  | cons z u _ ih => exact .cons z u ih
theorem str1_eq' (l : List Nat) : ((⟨l.toArray⟩ : Str) == Str.ofString "\"") = decide (l = [34]) := by
  by_cases h : l = [34]
  · subst h; rfl
  · rw [decide_eq_false h]
    apply beq_eq_false_iff_ne.mpr
    intro e
    have e2 : (⟨l.toArray⟩ : Str) = ⟨[34].toArray⟩ := e
    have e3 : l.toArray = [34].toArray := by cases e2; rfl
    exact h (by simpa using congrArg Array.toList e3)
local macro_rules | `(tactic| walk_at "call builtin:len") => `(tactic| refine Hold.mk ?_)
local macro_rules | `(tactic| walk_at "subscriptTail") => `(tactic| refine Hold.mk ?_)
local macro_rules | `(tactic| walk_at "call builtin:list.append") => `(tactic| refine Hold.mk ?_)
local macro_rules | `(tactic| walk_at "call builtin:str.join") => `(tactic| refine Hold.mk ?_)
local macro_rules | `(tactic| walk_at "call ref") => `(tactic| ((with_reducible show wpAny _ _ (call (Value.ref 105) _) _ _ _); refine Hold.mk ?_))
local macro_rules | `(tactic| walk_at "exec For") => `(tactic| refine Hold.mk ?_)
local macro_rules | `(tactic| walk_at "newList") => `(tactic| refine Hold.mk ?_)
theorem c112 : ∀ (w : World) (news : List (Addr × Obj)) (x : Str) (t : Tok), escEnd false x.cps.toList = false → x.length ≤ 100 → (esc false 0 x.cps.toList).length ≤ 1000 → sumLen (stripL x) ≤ 10000 →
   Ctr w news 6 fun A s Q E _ h₀ L m => AllBare s.gens →
   (∀ t' h' tk' Gn, Fr h₀ L h' m → News h₀ L h' news → AllBare Gn → Q (.str (stripOf x) t') { s with heap := h', toks := tk', gens := Gn }) →
      wpAny (theM w) A (call (.ref 112) [.str x t]) Q E s := by
  dsimp only [Ctr, theM]
  k_fill
  intro w news x t hend hxl hit hsum p loose mean mg mb dp un gd cn cs aa ccd cl outer A₀ base' h₀ L m₀ s Q E B F X N T hk hdp hun hbare hret
  refine wpAny_call ?_
  k_dflt (refine' code_def ?k1 ?k2 ?k3 ?k4 ?k5 ?kA ?kF ?kK ?k6 ?k7 ?k8 ?k9 ?kB ?_ ?c2 ?c3 ?c4 ?c5; (case kA => exact rfl); (case kF => exact rfl); (case kK => assumption); (case k1 => k_asm); (case k2 => k_asm); (case k3 => k_asm); (case k4 => k_asm); (case k5 => k_asm); (case k6 => k_is); (case k7 => k_is); (case k8 => ktr_room); (case k9 => exact BindsTo.of_eq rfl); (case c5 => decide); (case kB => exact locs rfl); (case c2 => exact rfl); (case c3 => exact rfl); (case c4 => exact rfl); k_whole; intro g' L' h' FG' F' N' B' X' T'; (try dsimp only); (try k_lift B'); (try k_fold))
  k_steps
  · rename (Builtin.Str.occurrences _ _ _ _ _).isEmpty = true => hocc
    have e : stripOf x = x := by unfold stripOf; rw [if_pos hocc]
    rw [e] at hret
    exact hret _ _ _ _ (by k_asm) (by k_asm) hbare
  rename (Builtin.Str.occurrences _ _ _ _ _).isEmpty = false => hocc
  have eO : stripOf x = Txt.join (Str.ofString "") (stripL x) := by unfold stripOf; rw [if_neg (by rw [hocc]; exact Bool.false_ne_true)]
  rw [eO] at hret
  k_dflt (refine' newList_K ?k1 ?k2 ?_; (case k1 => k_asm); (case k2 => k_asm); k_whole)
  intro lq h10 F10 N10 hlq
  k_steps
  refine wpAny_For ?_
  k_steps
  rename News _ _ _ _ => N12
  refine' c105 w _ x _ hend _ _ _ _ _ _ _ _ _ _ _ _ _ _ _ _ _ _ _ _ _ _ ?b1 ?b2 ?b3 N12 ?b5 ?b6 ?b7 ?b8 ?_
  case b1 => k_asm
  case b2 => k_asm
  case b3 => k_asm
  case b5 => k_asm
  case b6 => exact rfl
  case b7 => ktr_room
  case b8 => ktr_units
  intro G Lg oL nm qn gs h11 tk11 F11 N11 hLg hG hgb hok
  (try dsimp only)
  refine wpAny_pyIter_gen (g := s.gens.size) ⟨_, nm, qn, (N11 _ (.head _)).1, rfl, rfl, rfl⟩ ?_
  refine gen_loop (h₀ := g') (L := L') (s₀ := s) (g := s.gens.size) (go := genO s.gens.size nm qn) (rest := news) rfl ?room ?lim ⟨rfl, ⟨nm, qn, rfl⟩, rfl⟩
    (fun its m front => ∃ st op acc vs n tst, front = [(lq, W.listOf vs.toArray n)] ∧ StrsAre vs acc ∧ vs.length + its.length ≤ 1000 ∧ m (Str.ofString "start") = some (.int st tst) ∧ OpIs op (m (Str.ofString "open_pos")) ∧
      m (Str.ofString "result") = some (.ref lq) ∧ m (Str.ofString "addr") = some (.str x t) ∧ stripF x its st op acc = stripF x (esc false 0 x.cps.toList) 0 none []) ?done ?step (esc false 0 x.cps.toList).length _ ?start
  case room => ktr_room
  case lim => exact T'.nolimit
  case start =>
    refine ⟨_, _, [(lq, W.listOf #[] 0)], [(Lg, oL)], [], gs, rfl, ⟨0, none, [], [], 0, _, rfl, .nil, by simpa using hit, rfl, .inl ⟨rfl, rfl⟩, rfl, rfl, rfl⟩, ⟨_, _, _, rfl⟩, F11, ?_, ?_, ?_, Array.getElem?_push_size, hbare.push hgb, hok _ rfl⟩
    · intro p hp
      refine N11 p ?_
      simp only [List.mem_cons, List.mem_append, List.not_mem_nil, or_false, false_or] at hp ⊢
      rcases hp with h | h | h | h <;> simp [h]
    · intro p hp q hq
      rw [List.mem_singleton.mp hp]
      simp only [List.mem_cons, List.mem_append, List.not_mem_nil, or_false, false_or] at hq
      rcases hq with rfl | rfl | h
      · exact Nat.ne_of_gt (hLg _ (.head _))
      · exact Nat.ne_of_lt hG
      · exact Nat.ne_of_gt (hLg _ (.tail _ h))
    · intro p hp q hq
      rw [List.mem_singleton.mp hq]
      simp only [List.mem_cons, List.mem_append, List.not_mem_nil, or_false, false_or] at hp
      rcases hp with rfl | rfl | h
      · exact Nat.ne_of_gt (Nat.lt_trans (hLg _ (.head _)) hG)
      · exact Nat.ne_of_gt (hLg _ (.head _))
      · exact Nat.ne_of_lt (hlq _ h)
  case done =>
    rintro m front h tk Gn ⟨st, op, acc, vs, n, tst, rfl, hS, hlen, m1, m2, m3, m4, hF⟩ F13 N13 ap13 hb13
    dsimp only
    rw [pin4 m1 m3 m4 m4] at F13
    clear N11 F11 N12
    k_steps
    refine len_str (by omega) ?_
    have hF' : (st, acc) = stripF x (esc false 0 x.cps.toList) 0 none [] := hF
    rw [List.cons_append, List.nil_append] at N13
    k_steps
    · rename News _ _ _ _ => N14
      refine append_V [] (by k_asm) N14 (fun _ h => nomatch h) (fun p hp => ap13 p hp _ (.head _)) (by simp at hlen; omega) fun h15 F15 N15 => ?_
      rw [List.nil_append] at N15
      have eL : stripL x = acc ++ [Txt.slice x (some st) none] := by
        unfold stripL
        rw [← hF']
        exact if_pos (by assumption)
      clear N14
      k_steps
      refine join_list (ys := stripL x) (PySem.IsL.isList (n := n + 1) (N15 _ (.head _)).1) (by rw [eL]; exact StrsAre.snoc hS _ _) (by rw [show (Str.ofString "").length = 0 from rfl, Nat.mul_zero]; unfold sumLen at hsum; omega) fun t' k => ?_
      k_steps
      rename News h₀ _ _ _ => N17
      exact hret _ _ _ _ (by k_asm) (fun p hp => N17 p (.tail _ hp)) hb13
    · have eL : stripL x = acc := by
        unfold stripL
        rw [← hF']
        exact if_neg (by assumption)
      refine join_list (ys := stripL x) (PySem.IsL.isList (n := n) (N13 _ (.head _)).1) (by rw [eL]; exact hS) (by rw [show (Str.ofString "").length = 0 from rfl, Nat.mul_zero]; unfold sumLen at hsum; omega) fun t' k => ?_
      k_steps
      rename News h₀ _ _ _ => N17
      exact hret _ _ _ _ (by k_asm) (fun p hp => N17 p (.tail _ hp)) hb13
  case step =>
    rintro ⟨ps, ch⟩ r m front tl D t1 t2 h tk Gn ⟨st, op, acc, vs, n, tst, rfl, hS, hlen, m1, m2, m3, m4, hF⟩ F13 N13 ap13 hne htl hb13
    clear N11 F11 N12
    have apT : ∀ lst', Apart tl [(lq, lst')] := fun lst' p hp q hq => by rw [List.mem_singleton.mp hq]; exact ap13 p (.tail _ hp) (lq, W.listOf vs.toArray n) (.head _)
    have hDq : D ≠ lq := ap13 _ (.head _) _ (.head _)
    have hlen2 : vs.length + r.length + 1 ≤ 1000 := by simp at hlen; omega
    rw [List.cons_append, List.nil_append] at N13
    rcases m2 with ⟨rfl, m2⟩ | ⟨o, to, rfl, m2⟩
    · rw [pin4 m1 m2 m3 m4] at F13
      k_steps
      · rename (_ == _) = true => hq
        rename News _ _ _ _ => N14
        rw [str1_eq'] at hq
        have hch : ch = [34] := of_decide_eq_true hq
        refine ⟨_, [(lq, W.listOf vs.toArray n)], _, _, rfl, by assumption, fun p hp => N14 p (.tail _ hp), apT _, st, some ps, acc, vs, n, _, rfl, hS, by omega, rfl, .inr ⟨_, _, rfl, rfl⟩, rfl, rfl, ?_⟩
        rw [← hF, hch]
        simp [stripF]
      · rename (_ == _) = false => hq
        rename News _ _ _ _ => N14
        rw [str1_eq'] at hq
        have hch : ch ≠ [34] := of_decide_eq_false hq
        refine ⟨_, [(lq, W.listOf vs.toArray n)], _, _, rfl, by assumption, fun p hp => N14 p (.tail _ hp), apT _, st, none, acc, vs, n, _, rfl, hS, by omega, rfl, .inl ⟨rfl, rfl⟩, rfl, rfl, ?_⟩
        rw [← hF]
        simp [stripF, hch]
    · rw [pin4 m1 m2 m3 m4] at F13
      k_steps
      · rename (_ == _) = true => hq
        rename News _ _ _ _ => N14
        rw [str1_eq'] at hq
        have hch : ch = [34] := of_decide_eq_true hq
        rename st ≠ o => hso
        refine append_V [_] (by k_asm) N14 (List.forall_mem_cons.mpr ⟨hDq, fun _ h => nomatch h⟩) (fun p hp => apT (W.listOf vs.toArray n) p hp _ (.head _)) (by omega) fun h15 F15 N15 => ?_
        rw [List.cons_append, List.nil_append] at N15
        clear N14
        k_steps
        rename News _ _ _ _ => N16
        refine ⟨_, [_], _, _, rfl, by assumption, fun p hp => N16 p (.tail _ hp), apT _, ps + 1, none, acc ++ [Txt.slice x (some st) (some o)], _, n + 1, _, rfl, StrsAre.snoc hS _ _, by simp; omega, rfl, .inl ⟨rfl, rfl⟩, rfl, rfl, ?_⟩
        rw [← hF, hch]
        simp [stripF, hso]
      · rename (_ == _) = true => hq
        rename News _ _ _ _ => N14
        rw [str1_eq'] at hq
        have hch : ch = [34] := of_decide_eq_true hq
        rename st = o => hso
        refine ⟨_, [(lq, W.listOf vs.toArray n)], _, _, rfl, by assumption, fun p hp => N14 p (.tail _ hp), apT _, ps + 1, none, acc, vs, n, _, rfl, hS, by omega, rfl, .inl ⟨rfl, rfl⟩, rfl, rfl, ?_⟩
        rw [← hF, hch]
        simp [stripF, hso]
      · rename (_ == _) = false => hq
        rename News _ _ _ _ => N14
        rw [str1_eq'] at hq
        have hch : ch ≠ [34] := of_decide_eq_false hq
        refine ⟨_, [(lq, W.listOf vs.toArray n)], _, _, rfl, by assumption, fun p hp => N14 p (.tail _ hp), apT _, st, some o, acc, vs, n, _, rfl, hS, by omega, rfl, .inr ⟨_, _, rfl, rfl⟩, rfl, rfl, ?_⟩
        rw [← hF]
        simp [stripF, hch]
end Mine
end
section
open PySem PySem.W PyProof.Rows PySem.Calls PySem.Spec
set_option Elab.async false
set_option maxRecDepth 100000
set_option maxHeartbeats 8000000
set_option pp.deepTerms false
set_option pp.maxSteps 6000
namespace Mine
noncomputable def chkF : List (Nat × List Nat) → Int → Bool
  | [], k => decide (k = 0)
  | (_, ch) :: r, k => if ch = [40] then chkF r (k + 1) else if ch = [41] then (if k - 1 < 0 then false else chkF r (k - 1)) else chkF r k
noncomputable def chk (x : Str) : Bool := chkF (esc false 0 (stripOf x).cps.toList) 0
structure ChkOk (x : Str) : Prop where
  e1 : escEnd false x.cps.toList = false
  e2 : x.length ≤ 100
  e3 : (esc false 0 x.cps.toList).length ≤ 1000
  e4 : sumLen (stripL x) ≤ 10000
  e5 : escEnd false (stripOf x).cps.toList = false
theorem apart_nil {tl : List (Addr × Obj)} : Apart tl [] := fun _ _ _ h => nomatch h
theorem str1_eqn (l : List Nat) (c : Nat) : ((⟨l.toArray⟩ : Str) == (⟨#[c]⟩ : Str)) = decide (l = [c]) := by
  by_cases h : l = [c]
  · subst h; simp
  · rw [decide_eq_false h]
    apply beq_eq_false_iff_ne.mpr
    intro e
    have e3 : l.toArray = [c].toArray := by cases e; rfl
    exact h (by simpa using congrArg Array.toList e3)
local macro_rules | `(tactic| walk_at "call ref") => `(tactic| ((with_reducible show wpAny _ _ (call (Value.ref 105) _) _ _ _); refine Hold.mk ?_))
local macro_rules | `(tactic| walk_at "call ref") => `(tactic| ((with_reducible show wpAny _ _ (call (Value.ref 112) _) _ _ _); refine Hold.mk ?_))
local macro_rules | `(tactic| walk_at "exec For") => `(tactic| refine Hold.mk ?_)
theorem c119 : ∀ (w : World) (news : List (Addr × Obj)) (x : Str) (t : Tok), ChkOk x →
   Ctr w news 10 fun A s Q E _ h₀ L m => AllBare s.gens →
   (∀ h' tk' Gn, Fr h₀ L h' m → News h₀ L h' news → AllBare Gn → Q (.bool (chk x)) { s with heap := h', toks := tk', gens := Gn }) →
      wpAny (theM w) A (call (.ref 119) [.str x t]) Q E s := by
  dsimp only [Ctr, theM]
  k_fill
  intro w news x t ok p loose mean mg mb dp un gd cn cs aa ccd cl outer A₀ base' h₀ L m₀ s Q E B F X N T hk hdp hun hbare hret
  refine wpAny_call ?_
  k_dflt (refine' code_def ?k1 ?k2 ?k3 ?k4 ?k5 ?kA ?kF ?kK ?k6 ?k7 ?k8 ?k9 ?kB ?_ ?c2 ?c3 ?c4 ?c5; (case kA => exact rfl); (case kF => exact rfl); (case kK => assumption); (case k1 => k_asm); (case k2 => k_asm); (case k3 => k_asm); (case k4 => k_asm); (case k5 => k_asm); (case k6 => k_is); (case k7 => k_is); (case k8 => ktr_room); (case k9 => exact BindsTo.of_eq rfl); (case c5 => decide); (case kB => exact locs rfl); (case c2 => exact rfl); (case c3 => exact rfl); (case c4 => exact rfl); k_whole; intro g' L' h' FG' F' N' B' X' T'; (try dsimp only); (try k_lift B'); (try k_fold))
  k_steps
  rename News _ _ _ _ => N10
  refine' c112 w _ x _ ok.e1 ok.e2 ok.e3 ok.e4 _ _ _ _ _ _ _ _ _ _ _ _ _ _ _ _ _ _ _ _ _ _ ?b1 ?b2 ?b3 N10 ?b5 ?b6 ?b7 ?b8 hbare ?_
  case b1 => k_asm
  case b2 => k_asm
  case b3 => k_asm
  case b5 => k_asm
  case b6 => exact rfl
  case b7 => ktr_room
  case b8 => ktr_units
  intro t11 h11 tk11 Gn11 F11 N11 hbare11
  (try dsimp only)
  (try k_fold)
  clear N10
  k_steps
  refine wpAny_For ?_
  k_steps
  rename News _ _ _ _ => N12
  refine' c105 w _ (stripOf x) _ ok.e5 _ _ _ _ _ _ _ _ _ _ _ _ _ _ _ _ _ _ _ _ _ _ ?b1 ?b2 ?b3 N12 ?b5 ?b6 ?b7 ?b8 ?_
  case b1 => k_asm
  case b2 => k_asm
  case b3 => k_asm
  case b5 => k_asm
  case b6 => exact rfl
  case b7 => ktr_room
  case b8 => ktr_units
  intro G Lg oL nm qn gs h13 tk13 F13 N13 hLg hG hgb hok
  (try dsimp only)
  refine wpAny_pyIter_gen (g := Gn11.size) ⟨_, nm, qn, (N13 _ (.head _)).1, rfl, rfl, rfl⟩ ?_
  refine gen_loop (h₀ := g') (L := L') (s₀ := s) (g := Gn11.size) (go := genO Gn11.size nm qn) (rest := news) rfl ?room ?lim ⟨rfl, ⟨nm, qn, rfl⟩, rfl⟩
    (fun its m front => ∃ k tk, front = [] ∧ m (Str.ofString "opens") = some (.int k tk) ∧ chkF its k = chk x) ?done ?step (esc false 0 (stripOf x).cps.toList).length _ ?start
  case room => ktr_room
  case lim => exact T'.nolimit
  case start =>
    refine ⟨_, _, [], [(Lg, oL)], [], gs, rfl, ⟨0, _, rfl, rfl, rfl⟩, ⟨_, _, _, rfl⟩, F13, ?_, ?_, ?_, Array.getElem?_push_size, hbare11.push hgb, hok _ rfl⟩
    · intro p hp
      refine N13 p ?_
      simp only [List.mem_cons, List.mem_append, List.not_mem_nil, or_false, false_or] at hp ⊢
      rcases hp with h | h | h <;> simp [h]
    · intro p hp q hq
      rw [List.mem_singleton.mp hp]
      simp only [List.mem_cons, List.mem_append, List.not_mem_nil, or_false, false_or] at hq
      rcases hq with rfl | h
      · exact Nat.ne_of_lt hG
      · exact Nat.ne_of_gt (hLg _ h)
    · intro p hp q hq
      exact nomatch hq
  case done =>
    rintro m front h tk Gn ⟨k, tkk, rfl, m1, hF⟩ F14 N14 ap14 hb14
    dsimp only
    rw [pin4 m1 m1 m1 m1] at F14
    rw [List.nil_append] at N14
    clear N13 F13 N12
    k_steps
    have e : (k == 0) = chk x := hF
    rw [e]
    exact hret _ _ _ (by k_asm) (by k_asm) hb14
  case step =>
    rintro ⟨ps, ch⟩ r m front tl D t1 t2 h tk Gn ⟨k, tkk, rfl, m1, hF⟩ F14 N14 ap14 hne htl hb14
    clear N13 F13 N12
    rw [List.nil_append] at N14
    rw [pin4 m1 m1 m1 m1] at F14
    k_steps
    · rename (_ == _) = true => hq
      rename News _ _ _ _ => N15
      have h1 : ch = [40] := of_decide_eq_true ((str1_eqn ch 40).symm.trans hq)
      refine ⟨_, [], _, _, rfl, by assumption, fun p hp => N15 p (.tail _ hp), apart_nil, k + 1, _, rfl, rfl, ?_⟩
      rw [← hF, h1]
      simp [chkF]
    · rename ((_ == Str.ofString "(") = false) => hq
      rename ((_ == Str.ofString ")") = true) => hq2
      rename k - 1 < 0 => hneg
      have h2 : ch = [41] := of_decide_eq_true ((str1_eqn ch 41).symm.trans hq2)
      have e : chk x = false := by
        rw [← hF, h2]
        simp only [chkF]
        rw [if_neg (by decide), if_pos trivial, if_pos hneg]
      rename News h₀ _ _ _ => N15
      rw [e] at hret
      exact hret _ _ _ (by k_asm) (fun p hp => N15 p (.tail _ (htl p hp))) hb14
    · rename ((_ == Str.ofString ")") = true) => hq2
      rename ¬ k - 1 < 0 => hneg
      rename News _ _ _ _ => N15
      have h2 : ch = [41] := of_decide_eq_true ((str1_eqn ch 41).symm.trans hq2)
      refine ⟨_, [], _, _, rfl, by assumption, fun p hp => N15 p (.tail _ hp), apart_nil, k - 1, _, rfl, rfl, ?_⟩
      rw [← hF, h2]
      simp only [chkF]
      rw [if_neg (by decide), if_pos trivial, if_neg hneg]
    · rename ((_ == Str.ofString "(") = false) => hq
      rename ((_ == Str.ofString ")") = false) => hq2
      rename News _ _ _ _ => N15
      have h1 : ch ≠ [40] := of_decide_eq_false ((str1_eqn ch 40).symm.trans hq)
      have h2 : ch ≠ [41] := of_decide_eq_false ((str1_eqn ch 41).symm.trans hq2)
      refine ⟨_, [], _, _, rfl, by assumption, fun p hp => N15 p (.tail _ hp), apart_nil, k, _, rfl, rfl, ?_⟩
      rw [← hF]
      simp [chkF, h1, h2]
end Mine
end
section
open PySem PySem.W PyProof.Rows PySem.Calls PySem.Spec
open Mine
local macro_rules | `(tactic| walk_at "mine enter") => `(tactic| (refine' code_def ?k1 ?k2 ?k3 ?k4 ?k5 ?kA ?kF ?kK ?k6 ?k7 ?k8 ?k9 ?kB ?_ ?c2 ?c3 ?c4 ?c5; (case kA => exact rfl); (case kF => exact rfl); (case kK => first | assumption | exact rfl); (case k1 => k_asm); (case k2 => k_asm); (case k3 => k_asm); (case k4 => k_asm); (case k5 => k_asm); (case k6 => k_is); (case k7 => k_is); (case k8 => ktr_room); (case k9 => exact BindsTo.of_eq rfl); (case c5 => decide); (case kB => exact locs rfl); (case c2 => exact rfl); (case c3 => exact rfl); (case c4 => exact rfl); k_whole; intro g' L' h' FG' F' N' B' X' T'; (try dsimp only); (try k_lift B'); (try k_fold)))
section
open PySem PySem.W PyProof.Rows PySem.Calls PySem.Spec
set_option Elab.async false
set_option maxRecDepth 100000
set_option maxHeartbeats 8000000
set_option pp.deepTerms false
set_option pp.maxSteps 6000
namespace Mine
noncomputable def lamObj (st : Stmt) (qual : Str) (cl : List (Str × Addr)) (pm : Value) (c' : Addr) (ctv : Value) : Obj := match st with
  | .Assign _ (.Lambda params body scope _) _ => kla_obj (Str.ofString "<lambda>") qual params body scope cl pm c' ctv
  | _ => default
noncomputable abbrev lamSt : Stmt := stmtAt (bodyAt PySem.Challenge.pw_rs0143_01 15) 1
noncomputable abbrev lamQ : Str := Str.ofString "_law_stream.<locals>.<lambda>"
noncomputable abbrev ent (w : World) (name : String) (t : Tok) (v : Value) : DictEntry := { hash := PyData.keyHash w.params (Str.ofString name), key := .str (Str.ofString name) t, val := v }
noncomputable abbrev lexD (w : World) (t1 t2 t3 t4 u1 u3 : Tok) (ins pb : Value) (more : List DictEntry) (n : Nat) : Obj :=
  dictOf (ent w "lineno" t1 (.int 1 u1) :: ent w "instream" t2 ins :: ent w "whitespace" t3 (.str (Str.ofString "\n\t\x0d ") u3) :: ent w "pushback" t4 pb :: more) n
theorem pop0_V {prog : Program} {w : World} {A : Around} {E : Value → Shared → Prop} {s : Shared} {h₀ : Heap} {L D : Addr} {m : Str → Option Value} (pre : List (Addr × Obj)) {post : List (Addr × Obj)} {y : Value} {q : List Value} {n : Nat} {u : Tok} {Q : Value → Shared → Prop}
    (F : Fr h₀ L s.heap m) (N : News h₀ L s.heap (pre ++ (D, W.listOf (y :: q).toArray n) :: post)) (a : ∀ p ∈ pre, p.1 ≠ D) (b : ∀ p ∈ post, p.1 ≠ D) (hsz : q.length ≤ 100000)
    (h : ∀ h', Fr h₀ L h' m → News h₀ L h' (pre ++ (D, W.listOf q.toArray (n + 1)) :: post) → Q y { s with heap := h' }) : wpAny (model prog w) A (call (.builtin "list.pop") [.ref D, .int 0 u]) Q E s := by
  refine kl_popAt (k := 0) (p := []) (q := q) (y := y) F N rfl ?_ rfl (upd_app b a) (by show (y :: q).length ≤ sizeLine; rw [sizeLine]; simp; omega) h
  simp [seqIndex?]
/-- a line's lexer lies in the ledger: the lexer's object, its stream, the lambda over the list lf -/
inductive Lex (w : World) (rest : List (Addr × Obj)) (lf I pI : Addr) : Prop
  | mk (S dI dS pS fL cL c' : Addr) (oc oL : Obj) (vsc : Array Value) (tq : Tok) (pm ctv : Value) (a1 a2 a3 a4 a5 a6 b1 b2 b3 b4 b5 b6 b7 : Tok) (n5 : Nat)
   (h1 : (I, instObj 52 dI) ∈ rest) (h2 : (dI, lexD w a1 a2 a3 a4 a5 a6 (.ref S) (.ref pI) [] 4) ∈ rest) (h3 : (S, instObj 52 dS) ∈ rest) (h4 : (dS, lexD w b1 b2 b3 b4 b5 b6 .none (.ref pS) [ent w "read" b7 (.ref fL)] n5) ∈ rest)
   (h5 : (fL, lamObj lamSt lamQ [(Str.ofString "left", cL)] pm c' ctv) ∈ rest) (h6 : (c', oc) ∈ rest) (h7 : oc.data = .fields vsc) (h8 : vsc[1]? = some (.str lamQ tq)) (h9 : (cL, oL) ∈ rest) (h10 : oL.data = .cell (some (.ref lf))) : Lex w rest lf I pI
local macro_rules | `(tactic| walk_at "mine lam") => `(tactic| (refine' kla_code ?k1 ?k2 ?k3 ?k4 ?k5 ?kA ?kF ?kK ?k6 ?k7 ?k8 ?k9 ?kB ?_ ?c2 ?c3 ?c4 ?c5; (case kA => exact rfl); (case kF => exact rfl); (case kK => first | assumption | exact rfl); (case k1 => k_asm); (case k2 => k_asm); (case k3 => k_asm); (case k4 => k_asm); (case k5 => k_asm); (case k6 => k_mem); (case k7 => exact codeRec_news (by k_asm) (by k_mem) (by assumption) (by assumption)); (case k8 => ktr_room); (case k9 => exact rfl); (case c5 => decide); (case kB => exact locs rfl); (case c2 => exact rfl); (case c3 => exact rfl); (case c4 => exact rfl); k_whole; intro g' L' h' FG' F' N' B' X' T'; (try dsimp only); (try k_lift B'); (try k_fold)))
local macro_rules | `(tactic| walk_at "call ref") => `(tactic| refine Hold.mk ?_)
local macro_rules | `(tactic| walk_at "call builtin:list.pop") => `(tactic| refine Hold.mk ?_)
theorem c35 : ∀ (w : World) (rest : List (Addr × Obj)) (lf I pI : Addr) (c : Str) (t : Tok) (cs : List Value) (n : Nat),
   Lex w rest lf I pI → (∀ p ∈ rest, p.1 ≠ lf) → c ≠ Str.ofString "\n" → cs.length ≤ 1000 →
   Ctr w ((lf, W.listOf (.str c t :: cs).toArray n) :: rest) 4 fun A s _ _ base h₀ L m => ∀ R : Result → Shared → Prop, CodeHd base 125 121 →
   (∀ h' tk' n', Fr h₀ L h' m → News h₀ L h' ((lf, W.listOf cs.toArray n') :: rest) → R (.ok (.ret (.str c t))) { s with heap := h', toks := tk' }) →
      codeAny (theM w) A (.call (.ref 35) ⟨[.ref I], []⟩) R s := by
  dsimp only [Ctr, theM]
  k_fill
  intro w rest lf I pI c t cs n hX haw hcn hlen p loose mean mg mb dp un gd cn ccs aa ccd cl outer A₀ base' h₀ L m₀ s Q E B F X N T hk hdp hun R hC hret
  obtain ⟨S, dI, dS, pS, fL, cL, c', oc, oL, vsc, tq, pm, ctv, a1, a2, a3, a4, a5, a6, b1, b2, b3, b4, b5, b6, b7, n5, mI, mdI, mS, mdS, mf, mc, dc, vc, mcL, dcL⟩ := hX
  dsimp only [lamObj, lamSt, stmtAt, bodyAt, PySem.Challenge.pw_rs0143_01, List.getElem?_cons_zero, List.getElem?_cons_succ, Option.getD_some] at mf
  k_dflt (walk_at "mine enter")
  k_steps
  refine wpAny_call ?_
  k_dflt (walk_at "mine lam")
  k_steps
  rename News _ _ _ _ => N9
  refine pop0_V [] (by k_asm) N9 (fun _ h => nomatch h) haw (by omega) fun h10 F10 N10 => ?_
  rw [List.nil_append] at N10
  clear N9
  k_steps
  · rename (_ == _) = true => hq
    exact absurd (beq_iff_eq.mp hq) hcn
  · exact hret _ _ _ (by k_asm) (by k_asm)
theorem c35e : ∀ (w : World) (rest : List (Addr × Obj)) (lf I pI : Addr) (n : Nat),
   Lex w rest lf I pI → (∀ p ∈ rest, p.1 ≠ lf) →
   Ctr w ((lf, W.listOf #[] n) :: rest) 4 fun A s _ _ base h₀ L m => ∀ R : Result → Shared → Prop, CodeHd base 125 121 →
   (∀ h' tk' t, Fr h₀ L h' m → News h₀ L h' ((lf, W.listOf #[] n) :: rest) → R (.ok (.ret (.str (Str.ofString "") t))) { s with heap := h', toks := tk' }) →
      codeAny (theM w) A (.call (.ref 35) ⟨[.ref I], []⟩) R s := by
  dsimp only [Ctr, theM]
  k_fill
  intro w rest lf I pI n hX haw p loose mean mg mb dp un gd cn ccs aa ccd cl outer A₀ base' h₀ L m₀ s Q E B F X N T hk hdp hun R hC hret
  obtain ⟨S, dI, dS, pS, fL, cL, c', oc, oL, vsc, tq, pm, ctv, a1, a2, a3, a4, a5, a6, b1, b2, b3, b4, b5, b6, b7, n5, mI, mdI, mS, mdS, mf, mc, dc, vc, mcL, dcL⟩ := hX
  dsimp only [lamObj, lamSt, stmtAt, bodyAt, PySem.Challenge.pw_rs0143_01, List.getElem?_cons_zero, List.getElem?_cons_succ, Option.getD_some] at mf
  k_dflt (walk_at "mine enter")
  k_steps
  refine wpAny_call ?_
  k_dflt (walk_at "mine lam")
  k_steps
  exact hret _ _ _ (by k_asm) (by k_asm)
end Mine
end
section
local macro_rules | `(tactic| walk_at "none 0") => `(tactic| skip)
open PySem PySem.W PyProof.Rows PySem.Calls PySem.Spec
set_option Elab.async false
set_option maxRecDepth 100000
set_option maxHeartbeats 8000000
set_option pp.deepTerms false
set_option pp.maxSteps 6000
namespace Mine
noncomputable def LineAt (w : World) (rest : List (Addr × Obj)) (I pI : Addr) : Prop := ∃ (S dI : Addr) (a1 a2 a3 a4 a5 a6 : Tok), (I, instObj 52 dI) ∈ rest ∧ (dI, lexD w a1 a2 a3 a4 a5 a6 (.ref S) (.ref pI) [] 4) ∈ rest
theorem Lex.line {w : World} {rest rest' : List (Addr × Obj)} {lf I pI : Addr} (h : Lex w rest lf I pI) (hs : ∀ p ∈ rest, p.1 ≠ pI → p ∈ rest') (hI : I ≠ pI) (hd : ∀ o, (pI, o) ∈ rest → ∃ vs n, o = W.listOf vs n) : LineAt w rest' I pI := by
  obtain ⟨S, dI, dS, pS, fL, cL, c', oc, oL, vsc, tq, pm, ctv, a1, a2, a3, a4, a5, a6, b1, b2, b3, b4, b5, b6, b7, n5, mI, mdI, mS, mdS, mf, mc, dc, vc, mcL, dcL⟩ := h
  refine ⟨S, dI, a1, a2, a3, a4, a5, a6, hs _ mI hI, hs _ mdI fun e => ?_⟩
  have e' : dI = pI := e
  subst e'
  obtain ⟨vs, n, e⟩ := hd _ mdI
  have e2 := congrArg Obj.cls e
  simp at e2
local macro_rules | `(tactic| walk_at "call ref") => `(tactic| refine Hold.mk ?_)
local macro_rules | `(tactic| walk_at "call builtin:list.pop") => `(tactic| refine Hold.mk ?_)
local macro_rules | `(tactic| walk_at "call builtin:list.append") => `(tactic| refine Hold.mk ?_)
theorem c42p : ∀ (w : World) (rest : List (Addr × Obj)) (I pI : Addr) (y : Value) (q : List Value) (n : Nat),
   LineAt w rest I pI → (∀ p ∈ rest, p.1 ≠ pI) → q.length ≤ 1000 →
   Ctr w ((pI, W.listOf (y :: q).toArray n) :: rest) 4 fun A s Q E base h₀ L m =>
   (∀ h' tk' n', Fr h₀ L h' m → News h₀ L h' ((pI, W.listOf q.toArray n') :: rest) → Q y { s with heap := h', toks := tk' }) →
      wpAny (theM w) A (call (.ref 42) [.ref I]) Q E s := by
  dsimp only [Ctr, theM, LineAt]
  k_fill
  intro w rest I pI y q n hX haw hlen p loose mean mg mb dp un gd cn ccs aa ccd cl outer A₀ base' h₀ L m₀ s Q E B F X N T hk hdp hun hret
  obtain ⟨S, dI, a1, a2, a3, a4, a5, a6, mI, mdI⟩ := hX
  refine wpAny_call ?_
  k_dflt (walk_at "mine enter")
  k_steps
  rename News _ _ _ _ => N9
  refine pop0_V [] (by k_asm) N9 (fun _ h => nomatch h) haw (by omega) fun h10 F10 N10 => ?_
  rw [List.nil_append] at N10
  clear N9
  k_steps
  exact hret _ _ _ (by k_asm) (by k_asm)
theorem c49 : ∀ (w : World) (rest : List (Addr × Obj)) (I pI : Addr) (y : Value) (q : List Value) (n : Nat),
   LineAt w rest I pI → (∀ p ∈ rest, p.1 ≠ pI) → q.length ≤ 1000 →
   Ctr w ((pI, W.listOf q.toArray n) :: rest) 4 fun A s Q E base h₀ L m =>
   (∀ h' tk', Fr h₀ L h' m → News h₀ L h' ((pI, W.listOf (q ++ [y]).toArray (n + 1)) :: rest) → Q .none { s with heap := h', toks := tk' }) →
      wpAny (theM w) A (call (.ref 49) [.ref I, y]) Q E s := by
  dsimp only [Ctr, theM, LineAt]
  k_fill
  intro w rest I pI y q n hX haw hlen p loose mean mg mb dp un gd cn ccs aa ccd cl outer A₀ base' h₀ L m₀ s Q E B F X N T hk hdp hun hret
  obtain ⟨S, dI, a1, a2, a3, a4, a5, a6, mI, mdI⟩ := hX
  refine wpAny_call ?_
  k_dflt (walk_at "mine enter")
  k_steps
  rename News _ _ _ _ => N9
  refine append_V [] (by k_asm) N9 (fun _ h => nomatch h) haw (by omega) fun h10 F10 N10 => ?_
  rw [List.nil_append] at N10
  clear N9
  k_steps
  exact hret _ _ (by k_asm) (by k_asm)
end Mine
end
section
open PySem PySem.W PyProof.Rows PySem.Calls PySem.Spec
set_option Elab.async false
set_option maxRecDepth 100000
set_option maxHeartbeats 8000000
set_option pp.deepTerms false
set_option pp.maxSteps 6000
namespace Mine
theorem slot_ci_next : Slot "callable_iterator" "__next__" "callable_iterator.__next__" :=
  .of (owner := "callable_iterator") (n := "__next__") (by rw [typeLookup_type, builtinLookup_eq_fast]; kernel_rfl) (by decide +kernel) (by decide +kernel) (by decide +kernel)
    (by first | exact .inl (by decide +kernel) | exact .inr (by decide +kernel)) (by rw [isSubtype_type]; kernel_rfl)
theorem entry_ci_next : entryFor table "callable_iterator.__next__" = some Builtin.«callable_iterator.__next__» := entryFor_of_tree (by kernel_rfl)
theorem args_ci_next (a : Value) : argsOk "callable_iterator.__next__" ⟨[a], []⟩ := by unfold argsOk; kernel_rfl
theorem args_iter2 (a b : Value) : argsOk "iter" ⟨[a, b], []⟩ := by unfold argsOk; kernel_rfl
noncomputable abbrev ciO (q : Addr) (t : Tok) : Obj := { cls := .type "callable_iterator", data := .fields #[.ref q, .str (Str.ofString "") t, .bool false] }
noncomputable abbrev ciE : Obj := { cls := .type "callable_iterator", data := .fields #[.none, .none, .bool true] }
theorem meth_call : typeLookup (.type "method") "__call__" = pure (some (.builtin "method.__call__")) := by rw [typeLookup_type, builtinLookup_eq_fast]; kernel_rfl
theorem wpAny_callBorrowed {M : Model} {A : Around} {E : Value → Shared → Prop} {s : Shared} {f : Value} {pos : List Value} {Q : Value → Shared → Prop}
    (hc : codeAny M A (.call f ⟨pos, []⟩) (fun r s' => match r with | .ok (.ret v) => Q v s' | .ok _ => False | .error e => E e s') s) :
    wpAny M A (callBorrowed f pos) Q E s := by
  intro Γ p hΓ
  unfold callBorrowed
  rw [Sem.wp_call]
  refine wpCode_mono (fun r s' h => ?_) (hc _ p rfl (hΓ.enter _ none p (by intro x; cases x)))
  rcases r with e | (v | _ | _ | _)
  · exact h
  all_goals first | exact h | exact h.elim
section
variable {prog : Program} {w : World} {A : Around} {E : Value → Shared → Prop} {s : Shared} {h₀ : Heap} {L It q I : Addr} {m : Str → Option Value} {news : List (Addr × Obj)} {t : Tok}
theorem iter2_V {Q : Value → Shared → Prop} {f : Value} (F : Fr h₀ L s.heap m) (N : News h₀ L s.heap news) (hq : (q, methodObj f (.ref I)) ∈ news)
    (h : ∀ It tci h', Fr h₀ L h' m → News h₀ L h' ((It, ciO q tci) :: news) → (∀ p ∈ news, p.1 < It) → Q (.ref It) { s with heap := h' }) :
    wpAny (model prog w) A (call (.builtin "iter") [.ref q, .str (Str.ofString "") t]) Q E s := by
  refine call_function_entry (by decide +kernel) (by decide +kernel) kdk_entry_iter (args_iter2 _ _) ?_
  unfold Builtin.«iter»
  refine wpAny_bind (m := someArgs "iter" 1 2 _) (wpAny_of_eq (a := [Value.ref q, .str (Str.ofString "") t]) (by first | rfl | kernel_rfl!) ?_)
  refine wpAny_bind (m := specialOf (.ref q) "__call__") (wpAny_specialOf (T := "method") ⟨_, (N _ hq).1, rfl⟩ meth_call ?_)
  refine wpAny_bind (wpAny_rule ?_)
  refine wpAny_bind (m := newFields _ _) (wpAny_newObj_type ?_ (by size_fits))
  exact wpAny_pure ⟨_, rfl, h _ _ _ (F.push _) (News.push F N _ rfl) fun p hp => Heap.lt_size (N p hp).1⟩
theorem borrows_meth {Q : Bool → Shared → Prop} {o35 : Obj} {fd : FuncData} (hq : s.heap.get? q = some (methodObj (.ref 35) (.ref I))) (h35 : s.heap.get? 35 = some o35) (hfd : o35.data = .func fd) (h : Q true s) :
    wpAny (model prog w) A (borrowsExactly (.ref q)) Q E s := by
  unfold borrowsExactly
  refine wpAny_bind (wpAny_load hq ?_)
  show wpAny _ _ (if (Value.type "method" == Value.type "method") = true then _ else _) _ _ _
  rw [if_pos (by simp)]
  show wpAny _ _ (load 35 >>= _) _ _ _
  refine wpAny_bind (wpAny_load h35 ?_)
  rw [hfd]
  exact wpAny_pure h
theorem next_ci {Q : Option Value → Shared → Prop} {o35 : Obj} {fd : FuncData} (hIt : s.heap.get? It = some (ciO q t)) (hq : s.heap.get? q = some (methodObj (.ref 35) (.ref I))) (h35 : s.heap.get? 35 = some o35) (hfd : o35.data = .func fd)
    (h : codeAny (model prog w) A.in1 (.call (.ref 35) ⟨[.ref I], []⟩) (fun r s' => ∃ x u, r = .ok (.ret (.str x u)) ∧ x ≠ Str.ofString "" ∧ s'.heap.get? It = some (ciO q t) ∧ Q (some (.str x u)) s') s) :
    wpAny (model prog w) A (pyNext (.ref It)) Q E s := by
  have hT : s.TypeIs (.ref It) "callable_iterator" := ⟨_, hIt, rfl⟩
  unfold pyNext
  refine wpAny_bind (wpAny_attempt (wpAny_callSpecial?_slot (name := Str.ofString "__next__") hT slot_ci_next
    (wpAny_call_entry slot_ci_next hT entry_ci_next ?_ (args_ci_next _))))
  show wpAny _ _ (field (.ref It) 2 >>= _) _ _ s
  refine wpAny_bind (wpAny_field hIt rfl (x := .bool false) rfl ?_)
  show wpAny _ _ (field (.ref It) 0 >>= fun f => (callOutOfASlot f).attempt >>= _) _ _ s
  refine wpAny_bind (wpAny_field hIt rfl (x := .ref q) rfl ?_)
  refine wpAny_bind (wpAny_attempt ?_)
  unfold callOutOfASlot
  refine wpAny_bind (borrows_meth hq h35 hfd ?_)
  rw [if_pos rfl]
  refine wpAny_callBorrowed (method_call hq (codeAny_mono h fun r s' hr => ?_))
  obtain ⟨x, u, rfl, hx, hIt', hQ⟩ := hr
  dsimp only
  show wpAny _ _ (field (.ref It) 2 >>= _) _ _ s'
  refine wpAny_bind (wpAny_field hIt' rfl (x := .bool false) rfl ?_)
  show wpAny _ _ (field (.ref It) 1 >>= _) _ _ s'
  refine wpAny_bind (wpAny_field hIt' rfl (x := .str (Str.ofString "") t) rfl ?_)
  refine wpAny_bind (wpAny_holding (wpAny_eqBool_str ?_))
  rw [decide_eq_false (Ne.symm hx)]
  exact wpAny_pure ⟨_, rfl, wpAny_pure hQ⟩
theorem stop_E {α : Type} {Q : α → Shared → Prop} (hh : A.handled = none) (h : ∀ e h', (∀ b o, s.heap.get? b = some o → h'.get? b = some o) → (∃ o, h'.get? e = some o ∧ o.cls = .type "StopIteration") → E (.ref e) { s with heap := h' }) :
    wpAny (model prog w) A (Builtin.SmallTypes.stopIteration (α := α)) Q E s := by
  unfold Builtin.SmallTypes.stopIteration
  refine wpAny_bind ?_
  simp only [newExc, newTuple]
  refine wpAny_bind (wpAny_newObj_type ?_ (by size_fits))
  refine wpAny_bind (m := firstArgMember _ _) (wpAny_of_eq (a := Value.none) (by first | rfl | (simp only [firstArgMember]; rfl)) ?_)
  refine wpAny_newObj_type ?_ (by size_fits)
  simp only [raiseNew]
  refine wpAny_bind (wpAny_handled ?_)
  rw [hh]
  refine wpAny_bind (wpAny_pure (wpAny_throw ?_))
  exact h _ _ (fun b o hb => Heap.get?_push_of_some _ (Heap.get?_push_of_some _ hb)) ⟨_, Heap.get?_push_size _ rfl, rfl⟩
theorem next_ci_ended {Q : Option Value → Shared → Prop} (hh : A.handled = none) (hIt : s.heap.get? It = some ciE)
    (h : ∀ h', (∀ b o, s.heap.get? b = some o → h'.get? b = some o) → Q none { s with heap := h' }) :
    wpAny (model prog w) A (pyNext (.ref It)) Q E s := by
  have hT : s.TypeIs (.ref It) "callable_iterator" := ⟨_, hIt, rfl⟩
  unfold pyNext
  refine wpAny_bind (wpAny_attempt (wpAny_callSpecial?_slot (name := Str.ofString "__next__") hT slot_ci_next
    (wpAny_call_entry slot_ci_next hT entry_ci_next ?_ (args_ci_next _))))
  show wpAny _ _ (field (.ref It) 2 >>= _) _ _ s
  refine wpAny_bind (wpAny_field hIt rfl (x := .bool true) rfl ?_)
  show wpAny _ _ (rule _ >>= _) _ _ s
  refine wpAny_bind (wpAny_rule ?_)
  refine wpAny_bind (stop_E (A := A.in1) hh fun e h' hk ho => ?_)
  obtain ⟨o, ho, hc⟩ := ho
  refine wpAny_bind (wpAny_isInstance (T := "StopIteration") (b := true) ⟨o, ho, hc⟩ isSubtype_stop ?_)
  exact wpAny_pure (h _ hk)
theorem next_ci_last {Q : Option Value → Shared → Prop} {o35 : Obj} {fd : FuncData} (hh : A.handled = none) (hIt : s.heap.get? It = some (ciO q t)) (hq : s.heap.get? q = some (methodObj (.ref 35) (.ref I))) (h35 : s.heap.get? 35 = some o35) (hfd : o35.data = .func fd)
    (h : codeAny (model prog w) A.in1 (.call (.ref 35) ⟨[.ref I], []⟩) (fun r s' => ∃ u, r = .ok (.ret (.str (Str.ofString "") u)) ∧ s'.heap.get? It = some (ciO q t) ∧ s'.heap.get? q = some (methodObj (.ref 35) (.ref I)) ∧ s'.heap.get? 35 = some o35 ∧
      ∀ h', h'.get? It = some ciE → (∀ b o, b ≠ It → s'.heap.get? b = some o → h'.get? b = some o) → Q none { s' with heap := h' }) s) :
    wpAny (model prog w) A (pyNext (.ref It)) Q E s := by
  have hT : s.TypeIs (.ref It) "callable_iterator" := ⟨_, hIt, rfl⟩
  unfold pyNext
  refine wpAny_bind (wpAny_attempt (wpAny_callSpecial?_slot (name := Str.ofString "__next__") hT slot_ci_next
    (wpAny_call_entry slot_ci_next hT entry_ci_next ?_ (args_ci_next _))))
  show wpAny _ _ (field (.ref It) 2 >>= _) _ _ s
  refine wpAny_bind (wpAny_field hIt rfl (x := .bool false) rfl ?_)
  show wpAny _ _ (field (.ref It) 0 >>= fun f => (callOutOfASlot f).attempt >>= _) _ _ s
  refine wpAny_bind (wpAny_field hIt rfl (x := .ref q) rfl ?_)
  refine wpAny_bind (wpAny_attempt ?_)
  unfold callOutOfASlot
  refine wpAny_bind (borrows_meth hq h35 hfd ?_)
  rw [if_pos rfl]
  refine wpAny_callBorrowed (method_call hq (codeAny_mono h fun r s' hr => ?_))
  obtain ⟨u, rfl, hIt', hq', h35', hQ⟩ := hr
  obtain ⟨hp, gn, dr, tk, os⟩ := s'
  dsimp only at hIt' hq' h35' hQ ⊢
  show wpAny _ _ (field (.ref It) 2 >>= _) _ _ _
  refine wpAny_bind (wpAny_field hIt' rfl (x := .bool false) rfl ?_)
  show wpAny _ _ (field (.ref It) 1 >>= _) _ _ _
  refine wpAny_bind (wpAny_field hIt' rfl (x := .str (Str.ofString "") t) rfl ?_)
  refine wpAny_bind (wpAny_holding (wpAny_eqBool_str ?_))
  rw [decide_eq_true rfl]
  show wpAny _ _ (rule _ >>= _) _ _ _
  refine wpAny_bind (wpAny_rule ?_)
  show wpAny _ _ ((field (.ref It) 0 >>= fun x => slotLetsGo _ x _ >>= fun _ => setField (.ref It) 0 .none >>= fun _ => setField (.ref It) 1 .none >>= fun _ => setField (.ref It) 2 (.bool true)) >>= _) _ _ _
  refine wpAny_bind (wpAny_bind (wpAny_field hIt' rfl (x := .ref q) rfl ?_))
  refine wpAny_bind ?_
  show wpAny _ _ (borrowsExactly (.ref q) >>= _) _ _ _
  refine wpAny_bind (borrows_meth hq' h35' hfd ?_)
  refine wpAny_pure ?_
  refine wpAny_bind (wpAny_setField_rec hIt' (by simp) fun h₁ e₁ s₁ => ?_)
  refine wpAny_bind (wpAny_setField_rec e₁ (by simp) fun h₂ e₂ s₂ => ?_)
  refine wpAny_setField_rec e₂ (by simp) fun h₃ e₃ s₃ => ?_
  refine stop_E (A := A.in1) hh fun e h' hk ho => ?_
  obtain ⟨o, ho, hc⟩ := ho
  refine wpAny_bind (wpAny_isInstance (T := "StopIteration") (b := true) ⟨o, ho, hc⟩ isSubtype_stop ?_)
  refine wpAny_pure (hQ _ (hk _ _ e₃) fun b o hb hb' => hk _ _ ?_)
  exact (s₃.2 b hb).trans ((s₂.2 b hb).trans ((s₁.2 b hb).trans hb'))
end
end Mine
end
section
local macro_rules | `(tactic| walk_at "none 0") => `(tactic| skip)
open PySem PySem.W PyProof.Rows PySem.Calls PySem.Spec
set_option Elab.async false
set_option maxRecDepth 100000
set_option maxHeartbeats 8000000
set_option pp.deepTerms false
set_option pp.maxSteps 6000
namespace Mine
theorem slot_ci_iter : Slot "callable_iterator" "__iter__" "callable_iterator.__iter__" :=
  .of (owner := "callable_iterator") (n := "__iter__") (by rw [typeLookup_type, builtinLookup_eq_fast]; kernel_rfl) (by decide +kernel) (by decide +kernel) (by decide +kernel)
    (by first | exact .inl (by decide +kernel) | exact .inr (by decide +kernel)) (by rw [isSubtype_type]; kernel_rfl)
theorem entry_ci_iter : entryFor table "callable_iterator.__iter__" = some Builtin.«dict_keyiterator.__iter__» :=
  entryFor_alias (id' := "dict_keyiterator.__iter__") (by kernel_rfl) (by first | rfl | decide +kernel | (unfold String.splitOn; simp +decide [String.splitOnAux])) (by decide +kernel) (by kernel_rfl)
theorem args_ci_iter (a : Value) : argsOk "callable_iterator.__iter__" ⟨[a], []⟩ := by unfold argsOk; kernel_rfl
theorem pyIter_ci {prog : Program} {w : World} {A : Around} {E : Value → Shared → Prop} {s : Shared} {It : Addr} {o : Obj} {Q : Value → Shared → Prop} (ho : s.heap.get? It = some o) (hc : o.cls = .type "callable_iterator") (h : Q (.ref It) s) : wpAny (model prog w) A (pyIter (.ref It)) Q E s := by
  have hT : s.TypeIs (.ref It) "callable_iterator" := ⟨_, ho, hc⟩
  refine wpAny_pyIter_slot hT slot_ci_iter (wpAny_call_entry slot_ci_iter hT entry_ci_iter ?_ (args_ci_iter _))
  show wpAny _ _ (ret (.ref It)) _ _ s
  exact wpAny_pure ⟨_, rfl, "callable_iterator", _, hT, slot_ci_next.lookup, h⟩
noncomputable def chV (l : List (Nat × Tok)) : List Value := l.map fun p => .str ⟨#[p.1]⟩ p.2
noncomputable def qtok : List (Nat × Tok) → List Nat → Option (List Nat × List (Nat × Tok))
  | [], _ => none
  | (c, _) :: r, acc => if c = 34 then some (acc, r) else if c = 92 then (match r with | [] => none | (d, _) :: r' => qtok r' (acc ++ [d])) else qtok r (acc ++ [c])
noncomputable def gtok : List (Nat × Tok) → Option (List Nat × List (Nat × Tok))
  | [] => none
  | (c, _) :: r => if c = 32 then gtok r else if c = 34 then qtok r [] else none
local macro_rules | `(tactic| walk_at "call ref") => `(tactic| refine Hold.mk ?_)
local macro_rules | `(tactic| walk_at "exec For") => `(tactic| refine Hold.mk ?_)
local macro_rules | `(tactic| walk_at "inplaceOp Add str str") => `(tactic| refine Hold.mk ?_)
local macro_rules | `(tactic| walk_at "call builtin:iter") => `(tactic| refine Hold.mk ?_)
theorem ch_ne (c : Nat) : (⟨#[c]⟩ : Str) ≠ Str.ofString "" := fun e => by
  have h := congrArg (fun x : Str => x.cps.size) e
  exact absurd (show (1 : Nat) = 0 from h) (by decide)
theorem forLoop_low {prog : Program} {w : World} {A : Around} {s : Shared} {R : Result → Shared → Prop} {target it body orelse env} (I : Nat → Shared → Prop)
    (turn : ∀ n s, I n s → wpAny (model prog w) A (pyNext it) (fun r s₁ => match r with
      | none => wpAny (model prog w) A (execs orelse env) (fun f s₃ => R (.ok f) s₃) (notedBy (model prog w) A env fun e s' => R (.error e) s') s₁
      | some v => wpAny (model prog w) A (assign target env v) (fun _ s₂ => wpAny (model prog w) A (execs body env) (fun f s₃ => match f with
          | .next | .cont => Lower I n s₃
          | .brk => R (.ok .next) s₃
          | .ret v => R (.ok (.ret v)) s₃) (notedBy (model prog w) A env fun e s' => R (.error e) s') s₂) (notedBy (model prog w) A env fun e s' => R (.error e) s') s₁) (notedBy (model prog w) A env fun e s' => R (.error e) s') s)
    (n : Nat) (h : I n s) (ht : ∀ v, letOwnedTupleGo target it v = pure () := by intro _; rfl) : codeAny (model prog w) A (.forLoop target it body orelse env) R s :=
  codeAny_forLoop I turn n h ht
theorem gtok_cases {c : Nat} {t : Tok} {l r : List (Nat × Tok)} {tok : List Nat} (h : gtok ((c, t) :: l) = some (tok, r)) : (c = 32 ∧ gtok l = some (tok, r)) ∨ (c = 34 ∧ qtok l [] = some (tok, r)) := by
  simp only [gtok] at h
  split at h
  · exact .inl ⟨by assumption, h⟩
  · split at h
    · exact .inr ⟨by assumption, h⟩
    · cases h
theorem qtok_cases {c : Nat} {t : Tok} {l r : List (Nat × Tok)} {acc tok : List Nat} (h : qtok ((c, t) :: l) acc = some (tok, r)) :
    (c = 34 ∧ tok = acc ∧ r = l) ∨ (c = 92 ∧ ∃ d u l', l = (d, u) :: l' ∧ qtok l' (acc ++ [d]) = some (tok, r)) ∨ (c ≠ 34 ∧ c ≠ 92 ∧ qtok l (acc ++ [c]) = some (tok, r)) := by
  rw [qtok.eq_def] at h
  dsimp only at h
  split at h
  · cases h
    exact .inl ⟨by assumption, rfl, rfl⟩
  · split at h
    · cases l with
      | nil => cases h
      | cons p l' => exact .inr (.inl ⟨by assumption, p.1, p.2, l', rfl, h⟩)
    · exact .inr (.inr ⟨by assumption, by assumption, h⟩)
theorem iadd_V {prog : Program} {w : World} {A : Around} {E : Value → Shared → Prop} {s : Shared} {acc : List Nat} {c : Nat} {t u : Tok} {Q : Value → Shared → Prop} (hl : acc.length ≤ 1000)
    (h : ∀ t' k, Q (.str ⟨(acc ++ [c]).toArray⟩ t') { s with toks := k }) : wpAny (model prog w) A (inplaceOp .Add (.str ⟨acc.toArray⟩ t) (.str ⟨#[c]⟩ u)) Q E s := by
  refine SBL.iadd (hsz := ?hsz) fun t' k hx => ?_
  case hsz =>
    show acc.toArray.size + 1 ≤ sizeLine
    rw [sizeLine, List.size_toArray]
    omega
  · have e : ((⟨acc.toArray⟩ : Str) ++ (⟨#[c]⟩ : Str)) = ⟨(acc ++ [c]).toArray⟩ := by
      show (⟨acc.toArray ++ #[c]⟩ : Str) = _
      simp
    rw [e]
    exact h t' k
theorem Lex.mono {w : World} {rest rest' : List (Addr × Obj)} {lf I pI : Addr} (h : Lex w rest lf I pI) (hs : ∀ p ∈ rest, p ∈ rest') : Lex w rest' lf I pI := by
  obtain ⟨S, dI, dS, pS, fL, cL, c', oc, oL, vsc, tq, pm, ctv, a1, a2, a3, a4, a5, a6, b1, b2, b3, b4, b5, b6, b7, n5, mI, mdI, mS, mdS, mf, mc, dc, vc, mcL, dcL⟩ := h
  exact ⟨S, dI, dS, pS, fL, cL, c', oc, oL, vsc, tq, pm, ctv, a1, a2, a3, a4, a5, a6, b1, b2, b3, b4, b5, b6, b7, n5, hs _ mI, hs _ mdI, hs _ mS, hs _ mdS, hs _ mf, hs _ mc, dc, vc, hs _ mcL, dcL⟩
theorem c42 : ∀ (w : World) (rest : List (Addr × Obj)) (lf I pI : Addr) (l r : List (Nat × Tok)) (tok : List Nat) (n np : Nat),
   Lex w rest lf I pI → (∀ p ∈ rest, p.1 ≠ lf) → (∀ p ∈ rest, p.1 ≠ pI) → lf ≠ pI → gtok l = some (tok, r) → l.length ≤ 100 → (∀ p ∈ l, p.1 ≠ 10) →
   Ctr w ((lf, W.listOf (chV l).toArray n) :: (pI, W.listOf #[] np) :: rest) 20 fun A s Q E base h₀ L m => CodeHd base 125 121 →
   (∀ h' tk' n' t, Fr h₀ L h' m → News h₀ L h' ((lf, W.listOf (chV r).toArray n') :: (pI, W.listOf #[] np) :: rest) → Q (.str ⟨tok.toArray⟩ t) { s with heap := h', toks := tk' }) →
      wpAny (theM w) A (call (.ref 42) [.ref I]) Q E s := by
  dsimp only [Ctr, theM]
  k_fill
  intro w rest lf I pI l r tok n np hX haw hawp hlp hg hlen hnl p loose mean mg mb dp un gd cn ccs aa ccd cl outer A₀ base' h₀ L m₀ s Q E B F X N T hk hdp hun hC hret
  have hX2 := hX
  obtain ⟨S, dI, dS, pS, fL, cL, c', oc, oL, vsc, tq, pm, ctv, a1, a2, a3, a4, a5, a6, b1, b2, b3, b4, b5, b6, b7, n5, mI, mdI, mS, mdS, mf, mc, dc, vc, mcL, dcL⟩ := hX
  refine wpAny_call ?_
  k_dflt (refine' code_def ?k1 ?k2 ?k3 ?k4 ?k5 ?kA ?kF ?kK ?k6 ?k7 ?k8 ?k9 ?kB ?_ ?c2 ?c3 ?c4 ?c5; (case kA => exact rfl); (case kF => exact rfl); (case kK => first | assumption | exact rfl); (case k1 => k_asm); (case k2 => k_asm); (case k3 => k_asm); (case k4 => k_asm); (case k5 => k_asm); (case k6 => k_is); (case k7 => k_is); (case k8 => ktr_room); (case k9 => exact BindsTo.of_eq rfl); (case c5 => decide); (case kB => exact locs rfl); (case c2 => exact rfl); (case c3 => exact rfl); (case c4 => exact rfl); k_whole; intro g' L' h' FG' F' N' B' X' T'; (try dsimp only); (try k_lift B'); (try k_fold))
  k_steps
  rename News _ _ _ _ => N9
  refine iter2_V (by k_asm) N9 (.head _) fun It tci h10 F10 N10 lIt => ?_
  clear N9
  k_steps
  refine wpAny_For ?_
  k_steps
  rename News _ _ _ _ => N11
  rename_i q' hx l1q h11 F11
  refine pyIter_ci (N11 _ (.head _)).1 rfl ?_
  obtain ⟨l1a, l1b, l1c⟩ := l1q
  have ItQ : q' < It := lIt _ (.head _)
  have ItL : lf < It := lIt (lf, _) (.tail _ (.head _))
  have ItP : pI < It := lIt (pI, _) (.tail _ (.tail _ (.head _)))
  have h35 := (X'.keeps F11.keep) 35
  have hrest : ∀ tqq, (∀ p ∈ (It, ciO q' tqq) :: (q', methodObj (.ref 35) (.ref I)) :: (pI, W.listOf #[] np) :: rest, p.1 ≠ lf) := fun tqq =>
    List.forall_mem_cons.mpr ⟨Nat.ne_of_gt ItL, List.forall_mem_cons.mpr ⟨Nat.ne_of_gt l1a, List.forall_mem_cons.mpr ⟨Ne.symm hlp, haw⟩⟩⟩
  have hLex : ∀ tqq, Lex w ((It, ciO q' tqq) :: (q', methodObj (.ref 35) (.ref I)) :: (pI, W.listOf #[] np) :: rest) lf I pI := fun tqq => hX2.mono fun p hp => .tail _ (.tail _ (.tail _ hp))
  have N11' : News g' L' h11 ((lf, W.listOf (chV l).toArray n) :: (It, ciO q' tci) :: (q', methodObj (.ref 35) (.ref I)) :: (pI, W.listOf #[] np) :: rest) := fun p hp => N11 p (by
    simp only [List.mem_cons] at hp ⊢
    rcases hp with h | h | h | h | h <;> simp [h])
  clear N11
  obtain ⟨J1, hJ1⟩ : ∃ J : Nat → Shared → Prop, J = (fun k s' => ∃ l h tk m n' tt, k = l.length ∧ s' = { s with heap := h, toks := tk } ∧ Fr g' L' h m ∧ News g' L' h ((lf, W.listOf (chV l).toArray n') :: (It, ciO q' tci) :: (q', methodObj (.ref 35) (.ref I)) :: (pI, W.listOf #[] np) :: rest) ∧
      gtok l = some (tok, r) ∧ l.length ≤ 100 ∧ (∀ p ∈ l, p.1 ≠ 10) ∧ m (Str.ofString "self") = some (.ref I) ∧ m (Str.ofString "token") = some (.str (Str.ofString "") tt) ∧ m (Str.ofString "fiter") = some (.ref It)) := ⟨_, rfl⟩
  refine forLoop_low J1 ?turn l.length ?start
  case start => rw [hJ1]; exact ⟨l, _, _, _, n, _, rfl, rfl, F11, N11', hg, hlen, hnl, rfl, rfl, rfl⟩
  case turn =>
    intro k sJ hJ
    rw [hJ1] at hJ
    obtain ⟨l2, h12, tk12, m12, n12, tt, rfl, rfl, F12, N12, hg2, hlen2, hnl2, m1, m2, m3⟩ := hJ
    rw [pin4 m1 m2 m3 m3] at F12
    clear N11' F11
    cases l2 with
    | nil => exact absurd hg2 (by simp [gtok])
    | cons ct l3 =>
      obtain ⟨c, t⟩ := ct
      have hl3 : l3.length ≤ 100 := by simp at hlen2; omega
      have hc10 : c ≠ 10 := hnl2 _ (.head _)
      have k35 := (X'.keeps F12.keep) 35 _ (by k_is)
      refine next_ci (N12 _ (.tail _ (.head _))).1 (N12 _ (.tail _ (.tail _ (.head _)))).1 k35 rfl ?_
      refine' c35 w _ lf I pI ⟨#[c]⟩ t (chV l3) n12 (hLex tci) (hrest tci) ?hn ?hln _ _ _ _ _ _ _ _ _ _ _ _ _ _ _ _ _ _ _ _ (fun _ _ => True) (fun _ _ => True) ?b1 ?b2 ?b3 ?b4 ?b5 ?b6 ?b7 ?b8 _ ?b9 ?_
      case b4 => k_asm
      case b1 => k_asm
      case b2 => k_asm
      case b3 => k_asm
      case b5 => k_asm
      case b6 => exact rfl
      case b7 => ktr_room
      case b8 => ktr_units
      case b9 => assumption
      case hn => intro e; cases e; exact hc10 rfl
      case hln => simp [chV]; omega
      intro h13 tk13 n13 F13 N13
      refine ⟨_, _, rfl, ch_ne c, (N13 _ (.tail _ (.head _))).1, ?_⟩
      clear N12 F12
      (try dsimp only)
      rcases gtok_cases hg2 with ⟨hc, hg3⟩ | ⟨hc, hg3⟩
      · subst hc
        k_steps
        · rename (Builtin.Str.occurrences _ _ _ _ _).isEmpty = _ => hocc
          exact absurd hocc (by decide +kernel)
        · dsimp only
          refine ⟨l3.length, by simp, ?_⟩
          rw [hJ1]
          exact ⟨l3, _, _, _, n13, _, rfl, rfl, by assumption, by assumption, hg3, hl3, fun p hp => hnl2 p (.tail _ hp), rfl, rfl, rfl⟩
      · subst hc
        k_steps
        · refine wpAny_For ?_
          k_steps
          rename News _ _ _ _ => N14
          refine pyIter_ci (N14 _ (.tail _ (.head _))).1 rfl ?_
          obtain ⟨J2, hJ2⟩ : ∃ J : Nat → Shared → Prop, J = (fun k s' => ∃ l acc h tk m n' tt, k = l.length ∧ s' = { s with heap := h, toks := tk } ∧ Fr g' L' h m ∧ News g' L' h ((lf, W.listOf (chV l).toArray n') :: (It, ciO q' tci) :: (q', methodObj (.ref 35) (.ref I)) :: (pI, W.listOf #[] np) :: rest) ∧
            qtok l acc = some (tok, r) ∧ l.length + acc.length ≤ 100 ∧ (∀ p ∈ l, p.1 ≠ 10) ∧ m (Str.ofString "self") = some (.ref I) ∧ m (Str.ofString "token") = some (.str ⟨acc.toArray⟩ tt) ∧ m (Str.ofString "fiter") = some (.ref It)) := ⟨_, rfl⟩
          refine forLoop_low J2 ?turn2 l3.length ?start2
          case start2 => rw [hJ2]; exact ⟨l3, [], _, _, _, n13, _, rfl, rfl, by assumption, by assumption, hg3, by simpa using hl3, fun p hp => hnl2 p (.tail _ hp), rfl, rfl, rfl⟩
          case turn2 =>
            clear N14
            intro k sJ hJ
            rw [hJ2] at hJ
            obtain ⟨l4, acc, h14, tk14, m14, n14, tt4, rfl, rfl, F14, N14, hg4, hlen4, hnl4, m1, m2, m3⟩ := hJ
            rw [pin4 m1 m2 m3 m3] at F14
            cases l4 with
            | nil => exact absurd hg4 (by simp [qtok])
            | cons ct l5 =>
              obtain ⟨c, t⟩ := ct
              have hl5 : l5.length + acc.length + 1 ≤ 100 := by simp at hlen4; omega
              have hc10 : c ≠ 10 := hnl4 _ (.head _)
              have k35 := (X'.keeps F14.keep) 35 _ (by k_is)
              refine next_ci (N14 _ (.tail _ (.head _))).1 (N14 _ (.tail _ (.tail _ (.head _)))).1 k35 rfl ?_
              refine' c35 w _ lf I pI ⟨#[c]⟩ t (chV l5) n14 (hLex tci) (hrest tci) ?hn ?hln _ _ _ _ _ _ _ _ _ _ _ _ _ _ _ _ _ _ _ _ (fun _ _ => True) (fun _ _ => True) ?b1 ?b2 ?b3 ?b4 ?b5 ?b6 ?b7 ?b8 _ ?b9 ?_
              case b4 => k_asm
              case b1 => k_asm
              case b2 => k_asm
              case b3 => k_asm
              case b5 => k_asm
              case b6 => exact rfl
              case b7 => ktr_room
              case b8 => ktr_units
              case b9 => assumption
              case hn => intro e; cases e; exact hc10 rfl
              case hln => simp [chV]; omega
              intro h15 tk15 n15 F15 N15
              refine ⟨_, _, rfl, ch_ne c, (N15 _ (.tail _ (.head _))).1, ?_⟩
              clear N14 F14
              (try dsimp only)
              have n34 : ∀ c : Nat, ((⟨#[c]⟩ : Str) == Str.ofString "\"") = decide (c = 34) := fun c => (str1_eqn [c] 34).trans (by simp)
              have n92 : ∀ c : Nat, ((⟨#[c]⟩ : Str) == Str.ofString "\\") = decide (c = 92) := fun c => (str1_eqn [c] 92).trans (by simp)
              k_steps
              · rename (_ == _) = true => hq
                have h34 : c = 34 := of_decide_eq_true ((n34 c).symm.trans hq)
                rcases qtok_cases hg4 with ⟨_, e1, e2⟩ | ⟨e1, _⟩ | ⟨e1, _⟩
                · subst e1
                  subst e2
                  rename News h₀ _ _ _ => N17
                  exact hret _ _ n15 _ (by k_asm) (fun p hp => N17 p (by
                    simp only [List.mem_cons] at hp ⊢
                    rcases hp with h | h | h <;> simp [h]))
                · omega
                · exact absurd h34 e1
              · rename ((_ == Str.ofString "\\") = true) => hq
                have h92 : c = 92 := of_decide_eq_true ((n92 c).symm.trans hq)
                rcases qtok_cases hg4 with ⟨e1, _⟩ | ⟨_, d, u, l6, e2, hg6⟩ | ⟨_, e1, _⟩
                · omega
                · subst e2
                  have hd10 : d ≠ 10 := hnl4 _ (.tail _ (.head _))
                  have hl6 : l6.length + acc.length + 2 ≤ 100 := by simp at hl5; omega
                  refine wpAny_call ?_
                  refine' c35 w _ lf I pI ⟨#[d]⟩ u (chV l6) n15 (hLex tci) (hrest tci) ?hn ?hln _ _ _ _ _ _ _ _ _ _ _ _ _ _ _ _ _ _ _ _ (fun _ _ => True) (fun _ _ => True) ?b1 ?b2 ?b3 ?b4 ?b5 ?b6 ?b7 ?b8 _ ?b9 ?_
                  case b4 => k_asm
                  case b1 => k_asm
                  case b2 => k_asm
                  case b3 => k_asm
                  case b5 => k_asm
                  case b6 => exact rfl
                  case b7 => ktr_room
                  case b8 => ktr_units
                  case b9 => assumption
                  case hn => intro e; cases e; exact hd10 rfl
                  case hln => simp [chV]; omega
                  intro h16 tk16 n16 F16 N16
                  (try dsimp only)
                  k_steps
                  refine iadd_V (by omega) fun t' k => ?_
                  k_steps
                  refine ⟨l6.length, by simp; omega, ?_⟩
                  rw [hJ2]
                  exact ⟨l6, acc ++ [d], _, _, _, n16, _, rfl, rfl, by assumption, by assumption, hg6, by simp; omega, fun p hp => hnl4 p (.tail _ (.tail _ hp)), rfl, rfl, rfl⟩
                · exact absurd h92 e1
              · rename ((_ == Str.ofString "\"") = false) => hq
                rename ((_ == Str.ofString "\\") = false) => hq2
                have h34 : c ≠ 34 := of_decide_eq_false ((n34 c).symm.trans hq)
                have h92 : c ≠ 92 := of_decide_eq_false ((n92 c).symm.trans hq2)
                rcases qtok_cases hg4 with ⟨e1, _⟩ | ⟨e1, _⟩ | ⟨_, _, hg6⟩
                · exact absurd e1 h34
                · exact absurd e1 h92
                · refine iadd_V (by omega) fun t' k => ?_
                  k_steps
                  refine ⟨l5.length, by simp, ?_⟩
                  rw [hJ2]
                  exact ⟨l5, acc ++ [c], _, _, _, n15, _, rfl, rfl, by assumption, by assumption, hg6, by simp; omega, fun p hp => hnl4 p (.tail _ hp), rfl, rfl, rfl⟩
        · rename (Builtin.Str.occurrences _ _ _ _ _).isEmpty = _ => hocc
          exact absurd hocc (by decide +kernel)
end Mine
end
section
open PySem PySem.W PyProof.Rows PySem.Calls PySem.Spec
set_option Elab.async false
set_option maxRecDepth 100000
set_option maxHeartbeats 8000000
set_option pp.deepTerms false
set_option pp.maxSteps 6000
namespace Mine
local macro_rules | `(tactic| walk_at "call ref") => `(tactic| refine Hold.mk ?_)
local macro_rules | `(tactic| walk_at "exec For") => `(tactic| refine Hold.mk ?_)
local macro_rules | `(tactic| walk_at "inplaceOp Add str str") => `(tactic| refine Hold.mk ?_)
local macro_rules | `(tactic| walk_at "call builtin:iter") => `(tactic| refine Hold.mk ?_)
theorem c42e : ∀ (w : World) (rest : List (Addr × Obj)) (lf I pI : Addr) (n np : Nat),
   Lex w rest lf I pI → (∀ p ∈ rest, p.1 ≠ lf) → (∀ p ∈ rest, p.1 ≠ pI) → lf ≠ pI →
   Ctr w ((lf, W.listOf #[] n) :: (pI, W.listOf #[] np) :: rest) 20 fun A s Q E base h₀ L m => CodeHd base 125 121 →
   (∀ h' tk' t, Fr h₀ L h' m → News h₀ L h' ((lf, W.listOf #[] n) :: (pI, W.listOf #[] np) :: rest) → Q (.str (Str.ofString "") t) { s with heap := h', toks := tk' }) →
      wpAny (theM w) A (call (.ref 42) [.ref I]) Q E s := by
  dsimp only [Ctr, theM]
  k_fill
  intro w rest lf I pI n np hX haw hawp hlp p loose mean mg mb dp un gd cn ccs aa ccd cl outer A₀ base' h₀ L m₀ s Q E B F X N T hk hdp hun hC hret
  have hX2 := hX
  obtain ⟨S, dI, dS, pS, fL, cL, c', oc, oL, vsc, tq, pm, ctv, a1, a2, a3, a4, a5, a6, b1, b2, b3, b4, b5, b6, b7, n5, mI, mdI, mS, mdS, mf, mc, dc, vc, mcL, dcL⟩ := hX
  refine wpAny_call ?_
  k_dflt (refine' code_def ?k1 ?k2 ?k3 ?k4 ?k5 ?kA ?kF ?kK ?k6 ?k7 ?k8 ?k9 ?kB ?_ ?c2 ?c3 ?c4 ?c5; (case kA => exact rfl); (case kF => exact rfl); (case kK => first | assumption | exact rfl); (case k1 => k_asm); (case k2 => k_asm); (case k3 => k_asm); (case k4 => k_asm); (case k5 => k_asm); (case k6 => k_is); (case k7 => k_is); (case k8 => ktr_room); (case k9 => exact BindsTo.of_eq rfl); (case c5 => decide); (case kB => exact locs rfl); (case c2 => exact rfl); (case c3 => exact rfl); (case c4 => exact rfl); k_whole; intro g' L' h' FG' F' N' B' X' T'; (try dsimp only); (try k_lift B'); (try k_fold))
  k_steps
  rename News _ _ _ _ => N9
  refine iter2_V (by k_asm) N9 (.head _) fun It tci h10 F10 N10 lIt => ?_
  clear N9
  k_steps
  refine wpAny_For ?_
  k_steps
  rename News _ _ _ _ => N11
  rename_i q' hx l1q h11 F11
  refine pyIter_ci (N11 _ (.head _)).1 rfl ?_
  obtain ⟨l1a, l1b, l1c⟩ := l1q
  have ItQ : q' < It := lIt _ (.head _)
  have ItL : lf < It := lIt (lf, _) (.tail _ (.head _))
  have ItP : pI < It := lIt (pI, _) (.tail _ (.tail _ (.head _)))
  have h35 := (X'.keeps F11.keep) 35
  have hrest : ∀ tqq, (∀ p ∈ (It, ciO q' tqq) :: (q', methodObj (.ref 35) (.ref I)) :: (pI, W.listOf #[] np) :: rest, p.1 ≠ lf) := fun tqq =>
    List.forall_mem_cons.mpr ⟨Nat.ne_of_gt ItL, List.forall_mem_cons.mpr ⟨Nat.ne_of_gt l1a, List.forall_mem_cons.mpr ⟨Ne.symm hlp, haw⟩⟩⟩
  have hLex : ∀ tqq, Lex w ((It, ciO q' tqq) :: (q', methodObj (.ref 35) (.ref I)) :: (pI, W.listOf #[] np) :: rest) lf I pI := fun tqq => hX2.mono fun p hp => .tail _ (.tail _ (.tail _ hp))
  have N11' : News g' L' h11 ((lf, W.listOf #[] n) :: (It, ciO q' tci) :: (q', methodObj (.ref 35) (.ref I)) :: (pI, W.listOf #[] np) :: rest) := fun p hp => N11 p (by
    simp only [List.mem_cons] at hp ⊢
    rcases hp with h | h | h | h | h <;> simp [h])
  clear N11
  obtain ⟨J1, hJ1⟩ : ∃ J : Nat → Shared → Prop, J = (fun k s' => ∃ h tk m tt, s' = { s with heap := h, toks := tk } ∧ Fr g' L' h m ∧ News g' L' h ((lf, W.listOf #[] n) :: (It, ciO q' tci) :: (q', methodObj (.ref 35) (.ref I)) :: (pI, W.listOf #[] np) :: rest) ∧
      m (Str.ofString "token") = some (.str (Str.ofString "") tt)) := ⟨_, rfl⟩
  refine forLoop_low J1 ?turn 0 ?start
  case start => rw [hJ1]; exact ⟨_, _, _, _, rfl, F11, N11', rfl⟩
  case turn =>
    intro k sJ hJ
    rw [hJ1] at hJ
    obtain ⟨h12, tk12, m12, tt, rfl, F12, N12, m2⟩ := hJ
    rw [pin4 m2 m2 m2 m2] at F12
    clear N11' F11
    have k35 := (X'.keeps F12.keep) 35 _ (by k_is)
    refine next_ci_last rfl (N12 _ (.tail _ (.head _))).1 (N12 _ (.tail _ (.tail _ (.head _)))).1 k35 rfl ?_
    refine' c35e w _ lf I pI n (hLex tci) (hrest tci) _ _ _ _ _ _ _ _ _ _ _ _ _ _ _ _ _ _ _ _ (fun _ _ => True) (fun _ _ => True) ?b1 ?b2 ?b3 ?b4 ?b5 ?b6 ?b7 ?b8 _ ?b9 ?_
    case b4 => k_asm
    case b1 => k_asm
    case b2 => k_asm
    case b3 => k_asm
    case b5 => k_asm
    case b6 => exact rfl
    case b7 => ktr_room
    case b8 => ktr_units
    case b9 => assumption
    intro h13 tk13 t13 F13 N13
    refine ⟨_, rfl, (N13 _ (.tail _ (.head _))).1, (N13 _ (.tail _ (.tail _ (.head _)))).1, (X'.keeps F13.keep) 35 _ (by k_is), fun h14 hE14 hk14 => ?_⟩
    have nIt := N13 _ (.tail _ (.head _))
    have F14 : Fr g' L' h14 _ := ⟨F13.ns.at fun o q => hk14 L' o (Ne.symm nIt.2.1) q, fun b o hb => hk14 b o (fun q => by rw [q, nIt.2.2] at hb; cases hb) (F13.keep b o hb), F13.above⟩
    have N14 : News g' L' h14 ((lf, W.listOf #[] n) :: (pI, W.listOf #[] np) :: rest) := fun p hp => by
      have z := N13 p (by
        simp only [List.mem_cons] at hp ⊢
        rcases hp with h | h | h <;> simp [h])
      refine ⟨hk14 _ _ (fun q => ?_) z.1, z.2⟩
      rcases List.mem_cons.mp hp with rfl | hp
      · exact Nat.ne_of_lt ItL q
      rcases List.mem_cons.mp hp with rfl | hp
      · exact Nat.ne_of_lt ItP q
      · exact Nat.ne_of_lt (lIt p (.tail _ (.tail _ (.tail _ hp)))) q
    clear N13 F13 N12 F12
    (try dsimp only)
    k_steps
    exact hret _ _ _ (by k_asm) (by k_asm)
end Mine
end
section
local macro_rules | `(tactic| walk_at "none 0") => `(tactic| skip)
open PySem PySem.W PyProof.Rows PySem.Calls PySem.Spec
set_option Elab.async false
set_option maxRecDepth 100000
set_option maxHeartbeats 8000000
set_option pp.deepTerms false
set_option pp.maxSteps 6000
namespace Mine
local macro_rules | `(tactic| walk_at "call ref") => `(tactic| refine Hold.mk ?_)
local macro_rules | `(tactic| walk_at "exec For") => `(tactic| refine Hold.mk ?_)
local macro_rules | `(tactic| walk_at "inplaceOp Add str str") => `(tactic| refine Hold.mk ?_)
local macro_rules | `(tactic| walk_at "call builtin:iter") => `(tactic| refine Hold.mk ?_)
theorem c42c : ∀ (w : World) (rest : List (Addr × Obj)) (lf I pI : Addr) (ta tb : Tok) (n np : Nat),
   Lex w rest lf I pI → (∀ p ∈ rest, p.1 ≠ lf) → (∀ p ∈ rest, p.1 ≠ pI) → lf ≠ pI →
   Ctr w ((lf, W.listOf (chV [(32, ta), (99, tb)]).toArray n) :: (pI, W.listOf #[] np) :: rest) 20 fun A s Q E base h₀ L m => CodeHd base 125 121 →
   (∀ h' tk' n' t, Fr h₀ L h' m → News h₀ L h' ((lf, W.listOf #[] n') :: (pI, W.listOf #[] np) :: rest) → Q (.str (Str.ofString "c") t) { s with heap := h', toks := tk' }) →
      wpAny (theM w) A (call (.ref 42) [.ref I]) Q E s := by
  dsimp only [Ctr, theM]
  k_fill
  intro w rest lf I pI ta tb n np hX haw hawp hlp p loose mean mg mb dp un gd cn ccs aa ccd cl outer A₀ base' h₀ L m₀ s Q E B F X N T hk hdp hun hC hret
  have hX2 := hX
  obtain ⟨S, dI, dS, pS, fL, cL, c', oc, oL, vsc, tq, pm, ctv, a1, a2, a3, a4, a5, a6, b1, b2, b3, b4, b5, b6, b7, n5, mI, mdI, mS, mdS, mf, mc, dc, vc, mcL, dcL⟩ := hX
  refine wpAny_call ?_
  k_dflt (refine' code_def ?k1 ?k2 ?k3 ?k4 ?k5 ?kA ?kF ?kK ?k6 ?k7 ?k8 ?k9 ?kB ?_ ?c2 ?c3 ?c4 ?c5; (case kA => exact rfl); (case kF => exact rfl); (case kK => first | assumption | exact rfl); (case k1 => k_asm); (case k2 => k_asm); (case k3 => k_asm); (case k4 => k_asm); (case k5 => k_asm); (case k6 => k_is); (case k7 => k_is); (case k8 => ktr_room); (case k9 => exact BindsTo.of_eq rfl); (case c5 => decide); (case kB => exact locs rfl); (case c2 => exact rfl); (case c3 => exact rfl); (case c4 => exact rfl); k_whole; intro g' L' h' FG' F' N' B' X' T'; (try dsimp only); (try k_lift B'); (try k_fold))
  k_steps
  rename News _ _ _ _ => N9
  refine iter2_V (by k_asm) N9 (.head _) fun It tci h10 F10 N10 lIt => ?_
  clear N9
  k_steps
  refine wpAny_For ?_
  k_steps
  rename News _ _ _ _ => N11
  rename_i q' hx l1q h11 F11
  refine pyIter_ci (N11 _ (.head _)).1 rfl ?_
  obtain ⟨l1a, l1b, l1c⟩ := l1q
  have ItQ : q' < It := lIt _ (.head _)
  have ItL : lf < It := lIt (lf, _) (.tail _ (.head _))
  have ItP : pI < It := lIt (pI, _) (.tail _ (.tail _ (.head _)))
  have h35 := (X'.keeps F11.keep) 35
  have hrest : ∀ tqq, (∀ p ∈ (It, ciO q' tqq) :: (q', methodObj (.ref 35) (.ref I)) :: (pI, W.listOf #[] np) :: rest, p.1 ≠ lf) := fun tqq =>
    List.forall_mem_cons.mpr ⟨Nat.ne_of_gt ItL, List.forall_mem_cons.mpr ⟨Nat.ne_of_gt l1a, List.forall_mem_cons.mpr ⟨Ne.symm hlp, haw⟩⟩⟩
  have hLex : ∀ tqq, Lex w ((It, ciO q' tqq) :: (q', methodObj (.ref 35) (.ref I)) :: (pI, W.listOf #[] np) :: rest) lf I pI := fun tqq => hX2.mono fun p hp => .tail _ (.tail _ (.tail _ hp))
  have N11' : News g' L' h11 ((lf, W.listOf (chV [(32, ta), (99, tb)]).toArray n) :: (It, ciO q' tci) :: (q', methodObj (.ref 35) (.ref I)) :: (pI, W.listOf #[] np) :: rest) := fun p hp => N11 p (by
    simp only [List.mem_cons] at hp ⊢
    rcases hp with h | h | h | h | h <;> simp [h])
  clear N11
  obtain ⟨J1, hJ1⟩ : ∃ J : Nat → Shared → Prop, J = (fun k s' => ∃ h tk m n' tt, s' = { s with heap := h, toks := tk } ∧ Fr g' L' h m ∧ m (Str.ofString "self") = some (.ref I) ∧ m (Str.ofString "fiter") = some (.ref It) ∧
      ((k = 2 ∧ News g' L' h ((lf, W.listOf (chV [(32, ta), (99, tb)]).toArray n') :: (It, ciO q' tci) :: (q', methodObj (.ref 35) (.ref I)) :: (pI, W.listOf #[] np) :: rest) ∧ m (Str.ofString "token") = some (.str (Str.ofString "") tt)) ∨
       (k = 1 ∧ News g' L' h ((lf, W.listOf (chV [(99, tb)]).toArray n') :: (It, ciO q' tci) :: (q', methodObj (.ref 35) (.ref I)) :: (pI, W.listOf #[] np) :: rest) ∧ m (Str.ofString "token") = some (.str (Str.ofString "") tt)) ∨
       (k = 0 ∧ News g' L' h ((lf, W.listOf #[] n') :: (It, ciE) :: (q', methodObj (.ref 35) (.ref I)) :: (pI, W.listOf #[] np) :: rest) ∧ m (Str.ofString "token") = some (.str (Str.ofString "c") tt)))) := ⟨_, rfl⟩
  refine forLoop_low J1 ?turn 2 ?start
  case start => rw [hJ1]; exact ⟨_, _, _, _, _, rfl, F11, rfl, rfl, .inl ⟨rfl, N11', rfl⟩⟩
  case turn =>
    intro k sJ hJ
    rw [hJ1] at hJ
    obtain ⟨h12, tk12, m12, n12, tt, rfl, F12, m1, m3, ⟨rfl, N12, m2⟩ | ⟨rfl, N12, m2⟩ | ⟨rfl, N12, m2⟩⟩ := hJ <;> rw [pin4 m1 m2 m3 m3] at F12 <;> clear N11' F11
    · have k35 := (X'.keeps F12.keep) 35 _ (by k_is)
      refine next_ci (N12 _ (.tail _ (.head _))).1 (N12 _ (.tail _ (.tail _ (.head _)))).1 k35 rfl ?_
      refine' c35 w _ lf I pI ⟨#[32]⟩ ta (chV [(99, tb)]) n12 (hLex tci) (hrest tci) (by decide) (by simp [chV]) _ _ _ _ _ _ _ _ _ _ _ _ _ _ _ _ _ _ _ _ (fun _ _ => True) (fun _ _ => True) ?b1 ?b2 ?b3 ?b4 ?b5 ?b6 ?b7 ?b8 _ ?b9 ?_
      case b4 => k_asm
      case b1 => k_asm
      case b2 => k_asm
      case b3 => k_asm
      case b5 => k_asm
      case b6 => exact rfl
      case b7 => ktr_room
      case b8 => ktr_units
      case b9 => assumption
      intro h13 tk13 n13 F13 N13
      refine ⟨_, _, rfl, ch_ne 32, (N13 _ (.tail _ (.head _))).1, ?_⟩
      clear N12 F12
      (try dsimp only)
      k_steps
      · rename (Builtin.Str.occurrences _ _ _ _ _).isEmpty = _ => hocc
        exact absurd hocc (by decide +kernel)
      · dsimp only
        refine ⟨1, by decide, ?_⟩
        rw [hJ1]
        exact ⟨_, _, _, n13, _, rfl, by assumption, rfl, rfl, .inr (.inl ⟨rfl, by assumption, rfl⟩)⟩
    · have k35 := (X'.keeps F12.keep) 35 _ (by k_is)
      refine next_ci (N12 _ (.tail _ (.head _))).1 (N12 _ (.tail _ (.tail _ (.head _)))).1 k35 rfl ?_
      refine' c35 w _ lf I pI ⟨#[99]⟩ tb [] n12 (hLex tci) (hrest tci) (by decide) (by decide) _ _ _ _ _ _ _ _ _ _ _ _ _ _ _ _ _ _ _ _ (fun _ _ => True) (fun _ _ => True) ?b1 ?b2 ?b3 ?b4 ?b5 ?b6 ?b7 ?b8 _ ?b9 ?_
      case b4 => k_asm
      case b1 => k_asm
      case b2 => k_asm
      case b3 => k_asm
      case b5 => k_asm
      case b6 => exact rfl
      case b7 => ktr_room
      case b8 => ktr_units
      case b9 => assumption
      intro h13 tk13 n13 F13 N13
      refine ⟨_, _, rfl, ch_ne 99, (N13 _ (.tail _ (.head _))).1, ?_⟩
      clear N12 F12
      (try dsimp only)
      k_steps
      · refine iadd_V (acc := []) (c := 99) (by simp) fun t' k => ?_
        k_steps
        refine wpAny_For ?_
        k_steps
        rename News _ _ _ _ => N14
        refine pyIter_ci (N14 _ (.tail _ (.head _))).1 rfl ?_
        obtain ⟨J2, hJ2⟩ : ∃ J : Nat → Shared → Prop, J = (fun k s' => ∃ h tk m tt, s' = { s with heap := h, toks := tk } ∧ Fr g' L' h m ∧ News g' L' h ((lf, W.listOf #[] n13) :: (It, ciO q' tci) :: (q', methodObj (.ref 35) (.ref I)) :: (pI, W.listOf #[] np) :: rest) ∧
            m (Str.ofString "self") = some (.ref I) ∧ m (Str.ofString "fiter") = some (.ref It) ∧ m (Str.ofString "token") = some (.str (Str.ofString "c") tt)) := ⟨_, rfl⟩
        refine forLoop_low J2 ?turn2 0 ?start2
        case start2 => rw [hJ2]; exact ⟨_, _, _, _, rfl, by assumption, by assumption, rfl, rfl, rfl⟩
        case turn2 =>
          clear N14
          intro k sJ hJ
          rw [hJ2] at hJ
          obtain ⟨h14, tk14, m14, tt4, rfl, F14, N14, e1, e2, e3⟩ := hJ
          rw [pin4 e1 e2 e3 e3] at F14
          have k35 := (X'.keeps F14.keep) 35 _ (by k_is)
          refine next_ci_last rfl (N14 _ (.tail _ (.head _))).1 (N14 _ (.tail _ (.tail _ (.head _)))).1 k35 rfl ?_
          refine' c35e w _ lf I pI n13 (hLex tci) (hrest tci) _ _ _ _ _ _ _ _ _ _ _ _ _ _ _ _ _ _ _ _ (fun _ _ => True) (fun _ _ => True) ?b1 ?b2 ?b3 ?b4 ?b5 ?b6 ?b7 ?b8 _ ?b9 ?_
          case b4 => k_asm
          case b1 => k_asm
          case b2 => k_asm
          case b3 => k_asm
          case b5 => k_asm
          case b6 => exact rfl
          case b7 => ktr_room
          case b8 => ktr_units
          case b9 => assumption
          intro h15 tk15 t15 F15 N15
          refine ⟨_, rfl, (N15 _ (.tail _ (.head _))).1, (N15 _ (.tail _ (.tail _ (.head _)))).1, (X'.keeps F15.keep) 35 _ (by k_is), fun h16 hE16 hk16 => ?_⟩
          have nIt := N15 _ (.tail _ (.head _))
          have F16 : Fr g' L' h16 _ := ⟨F15.ns.at fun o q => hk16 L' o (Ne.symm nIt.2.1) q, fun b o hb => hk16 b o (fun q => by rw [q, nIt.2.2] at hb; cases hb) (F15.keep b o hb), F15.above⟩
          have N16 : News g' L' h16 ((lf, W.listOf #[] n13) :: (It, ciE) :: (q', methodObj (.ref 35) (.ref I)) :: (pI, W.listOf #[] np) :: rest) := fun p hp => by
            rcases List.mem_cons.mp hp with rfl | hp
            · have z := N15 _ (.head _)
              exact ⟨hk16 _ _ (Nat.ne_of_lt ItL) z.1, z.2⟩
            rcases List.mem_cons.mp hp with rfl | hp
            · exact ⟨hE16, nIt.2⟩
            have z := N15 p (.tail _ (.tail _ hp))
            refine ⟨hk16 _ _ (fun q => ?_) z.1, z.2⟩
            rcases List.mem_cons.mp hp with rfl | hp
            · exact Nat.ne_of_lt ItQ q
            rcases List.mem_cons.mp hp with rfl | hp
            · exact Nat.ne_of_lt ItP q
            · exact Nat.ne_of_lt (lIt p (.tail _ (.tail _ (.tail _ hp)))) q
          clear N15 F15 N14 F14
          (try dsimp only)
          k_steps
          refine ⟨0, by decide, ?_⟩
          rw [hJ1]
          exact ⟨_, _, _, n13, _, rfl, by assumption, rfl, rfl, .inr (.inr ⟨rfl, by assumption, rfl⟩)⟩
      · rename (Builtin.Str.occurrences _ _ _ _ _).isEmpty = _ => hocc
        exact absurd hocc (by decide +kernel)
    · refine next_ci_ended rfl (N12 _ (.tail _ (.head _))).1 fun h14 hk14 => ?_
      have F14 : Fr g' L' h14 _ := ⟨F12.ns.keeps hk14, fun b o hb => hk14 b o (F12.keep b o hb), F12.above⟩
      have N14 : News g' L' h14 ((lf, W.listOf #[] n12) :: (pI, W.listOf #[] np) :: rest) := fun p hp => by
        have z := N12 p (by
          simp only [List.mem_cons] at hp ⊢
          rcases hp with h | h | h <;> simp [h])
        exact ⟨hk14 _ _ z.1, z.2⟩
      clear N12 F12
      (try dsimp only)
      k_steps
      exact hret _ _ _ _ (by k_asm) (by k_asm)
end Mine
end
section
open PySem PySem.W PyProof.Rows PySem.Calls PySem.Spec
set_option Elab.async false
set_option maxRecDepth 100000
set_option maxHeartbeats 8000000
set_option pp.deepTerms false
set_option pp.maxSteps 6000
namespace Mine
inductive StreamAt (w : World) (rest : List (Addr × Obj)) (lf S : Addr) : Prop
  | mk (dS pS fL cL c' : Addr) (oc oL : Obj) (vsc : Array Value) (tq : Tok) (pm ctv : Value) (b1 b2 b3 b4 b5 b6 b7 : Tok) (n5 : Nat)
   (h1 : (S, instObj 52 dS) ∈ rest) (h2 : (dS, lexD w b1 b2 b3 b4 b5 b6 .none (.ref pS) [ent w "read" b7 (.ref fL)] n5) ∈ rest)
   (h3 : (fL, lamObj lamSt lamQ [(Str.ofString "left", cL)] pm c' ctv) ∈ rest) (h4 : (c', oc) ∈ rest) (h5 : oc.data = .fields vsc) (h6 : vsc[1]? = some (.str lamQ tq)) (h7 : (cL, oL) ∈ rest) (h8 : oL.data = .cell (some (.ref lf))) : StreamAt w rest lf S
theorem pack_stream {w : World} {h₀ h : Heap} {L f c' l' x d cL lf : Addr} {oc oL : Obj} {vsc ps vs : Array Value} {tq : Tok} {pm ctv : Value} {b1 b2 b3 b4 b5 b6 b7 : Tok} {n n5 n' : Nat} {rest : List (Addr × Obj)}
    (N : News h₀ L h ((f, lamObj lamSt lamQ [(Str.ofString "left", cL)] pm c' ctv) :: (c', oc) :: (l', W.listOf #[] n') :: (x, instObj 52 d) :: (d, lexD w b1 b2 b3 b4 b5 b6 .none (.ref l') [ent w "read" b7 (.ref f)] n5) :: (cL, oL) :: (121, tabObj ps) :: (lf, W.listOf vs n) :: rest))
    (h1 : oc.data = .fields vsc) (h2 : vsc[1]? = some (.str lamQ tq)) (h3 : oL.data = .cell (some (.ref lf))) (o1 : 121 < cL ∧ lf < cL ∧ ∀ p ∈ rest, p.1 < cL) (o2 : cL < d) (o3 : d < x) (o4 : x < l') (o5 : l' < c') (o6 : c' < f) :
    ∃ extra, News h₀ L h ((121, tabObj ps) :: (lf, W.listOf vs n) :: (extra ++ rest)) ∧ StreamAt w (extra ++ rest) lf x ∧ (∀ q ∈ extra, 121 < q.1 ∧ lf < q.1 ∧ ∀ p ∈ rest, p.1 < q.1) := by
  refine ⟨[(f, lamObj lamSt lamQ [(Str.ofString "left", cL)] pm c' ctv), (c', oc), (l', W.listOf #[] n'), (x, instObj 52 d), (d, lexD w b1 b2 b3 b4 b5 b6 .none (.ref l') [ent w "read" b7 (.ref f)] n5), (cL, oL)], fun p hp => N p ?_, ?_, ?_⟩
  · simp only [List.mem_cons, List.mem_append, List.not_mem_nil, or_false] at hp ⊢
    rcases hp with h | h | (h | h | h | h | h | h) | h <;> simp [h]
  · exact ⟨d, l', f, cL, c', oc, oL, vsc, tq, pm, ctv, b1, b2, b3, b4, b5, b6, b7, n5, .tail _ (.tail _ (.tail _ (.head _))), .tail _ (.tail _ (.tail _ (.tail _ (.head _)))), .head _, .tail _ (.head _), h1, h2, .tail _ (.tail _ (.tail _ (.tail _ (.tail _ (.head _))))), h3⟩
  · have up : ∀ a, cL ≤ a → 121 < a ∧ lf < a ∧ ∀ p ∈ rest, p.1 < a := fun a ha => ⟨Nat.lt_of_lt_of_le o1.1 ha, Nat.lt_of_lt_of_le o1.2.1 ha, fun p hp => Nat.lt_of_lt_of_le (o1.2.2 p hp) ha⟩
    have e2 := Nat.le_of_lt o2
    have e3 := Nat.le_trans e2 (Nat.le_of_lt o3)
    have e4 := Nat.le_trans e3 (Nat.le_of_lt o4)
    have e5 := Nat.le_trans e4 (Nat.le_of_lt o5)
    have e6 := Nat.le_trans e5 (Nat.le_of_lt o6)
    intro q hq
    simp only [List.mem_cons, List.not_mem_nil, or_false] at hq
    rcases hq with rfl | rfl | rfl | rfl | rfl | rfl
    · exact up _ e6
    · exact up _ e5
    · exact up _ e4
    · exact up _ e3
    · exact up _ e2
    · exact up _ (Nat.le_refl _)
theorem c126 : ∀ (w : World) (rest : List (Addr × Obj)) (lf : Addr) (vs : Array Value) (n : Nat), lf ≠ 121 → (∀ p ∈ rest, p.1 ≠ 121) →
   Ctr w ((121, tabObj #[]) :: (lf, W.listOf vs n) :: rest) 10 fun A s Q E base h₀ L m => CodeHd base 125 121 →
   (∀ S h' tk' ps' extra, Fr h₀ L h' m → News h₀ L h' ((121, tabObj ps') :: (lf, W.listOf vs n) :: (extra ++ rest)) → StreamAt w (extra ++ rest) lf S → (∀ q ∈ extra, 121 < q.1 ∧ lf < q.1 ∧ ∀ p ∈ rest, p.1 < q.1) → Q (.ref S) { s with heap := h', toks := tk' }) →
      wpAny (theM w) A (call (.ref 126) [.ref lf]) Q E s := by
  dsimp only [Ctr, theM]
  k_fill
  intro w rest lf vs n hlf hrest p loose mean mg mb dp un gd cn cs aa ccd cl outer A₀ base' h₀ L m₀ s Q E B F X N T hk hdp hun hC hret
  refine wpAny_call ?_
  k_dflt (refine' code_defC ?k1 ?k2 ?k3 ?k4 ?k5 ?kA ?kF ?kK ?k6 ?k7 ?k8 ?k9 ?kB ?kD ?_ ?c2 ?c3 ?c4; (case kA => exact rfl); (case kF => exact rfl); (case kK => assumption); (case k1 => k_asm); (case k2 => k_asm); (case k3 => k_asm); (case k4 => k_asm); (case k5 => k_asm); (case k6 => k_is); (case k7 => k_is); (case k8 => ktr_room); (case k9 => exact BindsTo.of_eq rfl); (case kB => exact rfl); (case kD => decide +kernel); (case c2 => exact rfl); (case c3 => exact rfl); (case c4 => exact rfl); k_whole; intro g' L' h' tk' cells' FG' F' N' Y' B' X' T' l1; (have hTl := tailOf1 l1); (try k_lt l1); k_cells Y'; (try simp only [List.cons_append, List.nil_append] at N'); (try dsimp only); (try k_lift B'); (try k_fold))
  k_steps
  k_dflt (refine' call_cls ?k1 ?k2 ?k3 ?k4 ?k5 ?k6 ?_; (case k1 => k_asm); (case k2 => k_asm); (case k3 => k_asm); (case k4 => k_is); (case k5 => k_is); (case k6 => k_is); k_whole; intro x' d' h' F' N' l1 l2; (try k_lt l1); (try k_lt2 l2))
  k_dflt (walk_at "mine enter")
  k_steps
  rename News h₀ _ _ _ => N20
  have K := fun a1 a2 a3 a4 a5 a6 => pack_stream N20 (by assumption) (by assumption) (by assumption) a1 a2 a3 a4 a5 a6
  clear N20
  obtain ⟨extra, N21, S21, o21⟩ := K ⟨Nat.lt_succ_of_lt (by simp_all), Nat.lt_succ_of_lt (hTl _ (.head _)), fun p hp => Nat.lt_succ_of_lt (hTl p (.tail _ hp))⟩ (by simp_all) (by assumption) (by simp_all) (by simp_all) (by assumption)
  exact hret x' _ _ _ extra (by k_asm) N21 S21 o21
end Mine
end
end
section
open PySem PySem.W PyProof.Rows PySem.Calls PySem.Spec
set_option Elab.async false
set_option maxRecDepth 100000
set_option maxHeartbeats 8000000
set_option pp.deepTerms false
set_option pp.maxSteps 6000
namespace Mine
/-- the body's end in a range loop: heap, letters and generators may have moved -/
noncomputable def RNext (h₀ : Heap) (L I : Addr) (it : Obj) (J : (Str → Option Value) → List (Addr × Obj) → Prop) (s s' : Shared) : Prop :=
  ∃ m news h tk Gn, s' = { s with heap := h, toks := tk, gens := Gn } ∧ AllBare Gn ∧ Fr h₀ L h m ∧ News h₀ L h ((I, it) :: news) ∧ (∀ p ∈ news, p.1 ≠ I) ∧ J m news
noncomputable def RInv (h₀ : Heap) (L I : Addr) (a : Int) (n : Nat) (J : Nat → (Str → Option Value) → List (Addr × Obj) → Prop) (s₀ : Shared) (k : Nat) (s : Shared) : Prop :=
  ∃ i, i + k = n ∧ RNext h₀ L I (itR (a + (i : Int)) ((n : Int) - (i : Int))) (J i) s₀ s
theorem range_loop {prog : Program} {w : World} {A : Around} {h₀ : Heap} {I : Addr} {a : Int} {n : Nat} {s₀ : Shared} {R : Result → Shared → Prop} {x : Str} {px : Pos} {body : List Stmt} {env : Env}
    (hh : A.handled = none) (hx : env.kindOf x = some .local) (hp : (env.scope.kind == .class || (env.scope.kind == .module && env.locals != env.globals)) = false)
    (J : Nat → (Str → Option Value) → List (Addr × Obj) → Prop)
    (done : ∀ m news h tk Gn, J n m news → AllBare Gn → Fr h₀ env.locals h m → News h₀ env.locals h news → R (.ok .next) { s₀ with heap := h, toks := tk, gens := Gn })
    (step : ∀ i m news h tk Gn t, i < n → J i m news → AllBare Gn → Fr h₀ env.locals h (fun y => if y = x then some (.int (a + (i : Int)) t) else m y) →
      News h₀ env.locals h ((I, itR (a + ((i + 1 : Nat) : Int)) ((n : Int) - ((i + 1 : Nat) : Int))) :: news) → (∀ p ∈ news, p.1 ≠ I) →
      wpAny (model prog w) A (execs body env) (fun f s' => match f with
        | .next | .cont => RNext h₀ env.locals I (itR (a + ((i + 1 : Nat) : Int)) ((n : Int) - ((i + 1 : Nat) : Int))) (J (i + 1)) s₀ s'
        | .brk => R (.ok .next) s'
        | .ret v => R (.ok (.ret v)) s') NoE { s₀ with heap := h, toks := tk, gens := Gn }) :
    ∀ k s, RInv h₀ env.locals I a n J s₀ k s → codeAny (model prog w) A (.forLoop (.Name x px) (.ref I) body [] env) R s := by
  intro k s hI
  refine codeAny_forLoop (RInv h₀ env.locals I a n J s₀) ?_ k hI
  clear hI k s
  rintro k _ ⟨i, hik, m, news, h, tk, Gn, rfl, hb, F, N, hne, hJ⟩
  have nI := N _ (.head _)
  have W := Walks.range (prog := prog) (w := w) (A := A) hh I a 1 n
  have hst : IsRangeIter h I (a + (i : Nat) * 1) ((n : Int) - (i : Nat)) 1 := by rw [Int.mul_one]; exact nI.1
  have hF : ∀ h', (∀ b o, b ∉ [I] → h.get? b = some o → h'.get? b = some o) → Fr h₀ env.locals h' m := fun h' hk =>
    ⟨F.ns.at fun o q => hk _ o (fun e => nI.2.1 (List.mem_singleton.mp e).symm) q, fun b o hb => hk b o (fun e => by rw [List.mem_singleton.mp e, nI.2.2] at hb; cases hb) (F.keep b o hb), F.above⟩
  have hN : ∀ h', (∀ b o, b ∉ [I] → h.get? b = some o → h'.get? b = some o) → News h₀ env.locals h' news := fun h' hk p hp => by
    have z := N p (.tail _ hp)
    exact ⟨hk _ _ (fun e => hne p hp (List.mem_singleton.mp e)) z.1, z.2⟩
  by_cases hlt : i < n
  · refine W.item i _ _ _ hlt hst fun v h' tk' hv hst' hk => ?_
    obtain ⟨t, rfl⟩ := hv
    dsimp only
    refine wpAny_assign_Name (wpAny_storeName_local hx (hF h' hk).ns (fun h₂ hn₂ hs₂ => ?_) hp)
    have F₂ := (hF h' hk).set hn₂ hs₂
    have N₁ : News h₀ env.locals h' ((I, itR (a + ((i + 1 : Nat) : Int)) ((n : Int) - ((i + 1 : Nat) : Int))) :: news) := fun p hp => by
      rcases List.mem_cons.mp hp with rfl | hp
      · refine ⟨?_, nI.2⟩
        have q : IsRangeIter h' I (a + ((i + 1 : Nat) : Int) * 1) ((n : Int) - ((i + 1 : Nat) : Int)) 1 := hst'
        rw [Int.mul_one] at q
        exact q
      · exact hN h' hk p hp
    rw [show a + (i : Int) * 1 = a + (i : Int) by rw [Int.mul_one]] at F₂
    refine wpAny_mono (step i m news h₂ _ Gn t hlt hJ hb F₂ (N₁.set hs₂) hne) (fun f s' hf => ?_) fun _ _ e => e.elim
    cases f with
    | next => exact ⟨k - 1, by omega, i + 1, by omega, hf⟩
    | cont => exact ⟨k - 1, by omega, i + 1, by omega, hf⟩
    | brk => exact hf
    | ret v => exact hf
  · have hin : i = n := by omega
    subst hin
    refine W.done _ _ _ hst fun h' tk' hk => ?_
    rw [execs_nil]
    exact wpAny_pure (done m news h' tk' Gn hJ hb (hF h' hk) (hN h' hk))
end Mine
end
section
open PySem PySem.W PyProof.Rows PySem.Calls PySem.Spec
set_option Elab.async false
set_option maxRecDepth 100000
set_option maxHeartbeats 8000000
set_option pp.deepTerms false
set_option pp.maxSteps 6000
namespace Mine
section
variable {prog : Program} {w : World} {A : Around} {E : Value → Shared → Prop} {s : Shared} {h₀ : Heap} {L : Addr} {m : Str → Option Value} {env : Env}
/-- a comprehension's source is a str -/
noncomputable def SrcS (prog : Program) (w : World) (A : Around) (h₀ : Heap) (L : Addr) (m : Str → Option Value) (env : Env) (elt : Expr) (x : Str) (scope : Scope) (cl : List (Str × Addr)) (Fin : Shared → List Value → List (Addr × Obj) → Prop) (xv : Value) (s₁ : Shared) : Prop :=
  ∃ y t news, xv = .str y t ∧ A.handled = none ∧ Fr h₀ L s₁.heap m ∧ News h₀ L s₁.heap news ∧ y.cps.size ≤ sizeLine ∧
    ∀ s₂ : Shared, (∃ h, s₂ = { s₁ with heap := h }) → LCg.CompRest prog w A h₀ L m env elt x scope cl s₂ (fun _ => True) (SignAt y) (Fin s₂) y.cps.size 0 [] news
theorem iter_st {I : Addr} {c : String} {y : Str} {t : Tok} : ∀ i (h h' : Heap) (o : Obj) (nw : List (Addr × Obj)), h.IsStrIter I c y t i → h.get? I = some o → h'.get? I = some o → (∀ b o, h₀.get? b = some o → h'.get? b = some o) → News h₀ L h' nw → True → h'.IsStrIter I c y t i :=
  fun i h h' o nw st e e' _ _ _ => by
    obtain ⟨o', q, r⟩ := st
    rw [e] at q; cases q
    exact ⟨o, e', r⟩
theorem ListComp_S {elt iter : Expr} {x : Str} {px : Pos} {scope : Scope} {cl : List (Str × Addr)} {pos : Pos} {Q : Value → Shared → Prop}
    (hclos : closureFor scope env = pure cl) (hcell : ∀ y ∈ scope.names, y.2 ≠ .cell) (hkind : scope.kind = .function)
    (hnames : ∀ y ∈ scope.names, y.2 = .local → scope.names.lookup y.1 = some .local) (hx : scope.names.lookup x = some .local)
    (h : wpAny (model prog w) A (eval iter env) (SrcS prog w A h₀ L m env elt x scope cl (fun s₂ => LCg.FinE h₀ L m s₂ Q)) E s)
    (hs : ∀ x, foldedSetIterable iter env x = pure x := by intro _; rfl) :
    wpAny (model prog w) A (eval (.ListComp elt [⟨.Name x px, iter, [], 0⟩] scope pos) env) Q E s := by
  rw [eval_ListComp]
  refine wpAny_comprehension_free (use := none) rfl hs hclos hkind hnames (wpAny_mono h (fun xv s₁ h₁ => ?_) fun _ _ e => e)
  obtain ⟨y, t, news, rfl, hh, F, N, hsz, R⟩ := h₁
  have tail : ∀ (o : Obj) (St : Nat → Heap → Prop), Walks prog w A s₁.heap.objs.size [s₁.heap.objs.size] [s₁.heap.objs.size] y.cps.size (SignAt y) St → St 0 (s₁.heap.push o) → (∀ i h, St i h → ∃ o, h.get? s₁.heap.objs.size = some o) →
     (∀ i h h' o nw, St i h → h.get? s₁.heap.objs.size = some o → h'.get? s₁.heap.objs.size = some o → (∀ b o, h₀.get? b = some o → h'.get? b = some o) → News h₀ L h' nw → True → St i h') → _ := 
    fun o St W hst hIo hSt => LCg.block_U (elt := elt) (iter := iter) (x := x) (px := px) (scope := scope) (cl := cl) (pos := pos) (env := env) (E := E) (m := m) (news := news) (S := fun _ => True) (Fin := LCg.FinE h₀ L m { s₁ with heap := s₁.heap.push o } Q) (s₂ := { s₁ with heap := s₁.heap.push o })
     (RR := compPost (model prog w) A E none Q)
     W hsz hIo hSt hcell hkind hx hst (fun b hb => by
       rw [List.mem_singleton.mp hb]
       show s₁.heap.objs.size < (s₁.heap.push o).objs.size
       rw [Heap.size_push]; exact Nat.lt_succ_self _)
      (F.keeps fun _ _ e => Heap.get?_push_of_some _ e) (N.grown fun _ _ e => Heap.get?_push_of_some _ e) (Nat.ne_of_lt F.ns.lt) (next_is_new F) (fun p hp => Nat.ne_of_lt (Heap.lt_size (N p hp).1)) trivial (R _ ⟨_, rfl⟩) (by
      intro D C h tk m' ys news' F' N' o1 hn hC₀ hD₀ hCL hDL hCD offC fin
      refine ⟨m', hn, fun h'' hs'' => fin D h'' tk (F'.change hs'' hCL hC₀) (fun p hp => ?_) o1⟩
      refine ⟨hs''.extBut _ _ ?_ (N' p hp).1, (N' p hp).2⟩
      rcases List.mem_cons.mp hp with rfl | hp
      · exact Ne.symm hCD
      · exact offC p hp)
  cases ha : y.cps.all (· < 128)
  · refine wpAny_pyIter_wide ha ?_
    exact tail _ _ (Walks.strWide hh _ y t) ⟨_, Heap.get?_push_size _ rfl, rfl, rfl⟩ (fun i h st => by obtain ⟨o, e, _⟩ := st; exact ⟨o, e⟩) iter_st
  · refine wpAny_pyIter_ascii ha ?_
    exact tail _ _ (Walks.strAscii hh _ y t) ⟨_, Heap.get?_push_size _ rfl, rfl, rfl⟩ (fun i h st => by obtain ⟨o, e, _⟩ := st; exact ⟨o, e⟩) iter_st
/-- every sign of the str gives one str -/
theorem str_rest {elt : Expr} {x : Str} {scope : Scope} {cl : List (Str × Addr)} {Fin : List Value → List (Addr × Obj) → Prop} {y : Str} {news : List (Addr × Obj)} (g : Nat → Str)
    (turn : ∀ c t I oI C oC D m₂ ys h tk (E' : Value → Shared → Prop), c ∈ y.cps.toList → LCg.NsObj oC m₂ → m₂ x = some (.str ⟨#[c]⟩ t) → Fr h₀ L h m → News h₀ L h ((I, oI) :: (C, oC) :: (D, LCg.lst ys) :: news) → LCg.Off3 I C D news → ((@Ne Nat I C) ∧ (@Ne Nat I D) ∧ (@Ne Nat C D)) →
      wpAny (model prog w) A (eval elt (compEnvC scope cl C env)) (LCg.CompEnd h₀ L m { s with heap := h, toks := tk } I oI C oC D (LCg.lst ys) (fun _ => True) (fun y news' => KCtEl news (g c) y news')) E' { s with heap := h, toks := tk })
    (fin : ∀ ys, StrsAre ys (y.cps.toList.map g) → Fin ys news) : LCg.CompRest prog w A h₀ L m env elt x scope cl s (fun _ => True) (SignAt y) Fin y.cps.size 0 [] news := by
  have key : ∀ (j i : Nat) (ys : List Value), i + j = y.cps.size → StrsAre ys ((y.cps.toList.take i).map g) → LCg.CompRest prog w A h₀ L m env elt x scope cl s (fun _ => True) (SignAt y) Fin j i ys news := by
    intro j
    induction j with
    | zero =>
      intro i ys hi hy
      have e : i = y.cps.toList.length := by rw [Array.length_toList]; omega
      subst e
      rw [List.take_length] at hy
      exact LCg.CompRest.zero (fin ys hy)
    | succ j ih =>
      intro i ys hi hy
      refine LCg.CompRest.succ ?_
      intro v I oI C oC D m₂ h tk E' hv hC hx F N off ne
      obtain ⟨c, t, hk, rfl⟩ := hv
      have hk' : y.cps.toList[i]? = some c := by simpa using hk
      refine wpAny_mono (turn c t I oI C oC D m₂ ys h tk E' (List.mem_of_getElem? hk') hC hx F N off ne) (fun y' s₂ hq => ?_) fun _ _ e => e
      obtain ⟨h', tk', nw, e, F', N', off', hS, hn, t', hy'⟩ := hq
      subst hn
      subst hy'
      refine ⟨h', tk', _, e, F', N', off', hS, ?_⟩
      refine ih (i + 1) _ (by omega) ?_
      rw [List.take_add_one, hk']
      simpa using kct_snoc hy
  exact key _ 0 [] (by omega) (by simp only [List.take_zero, List.map_nil]; exact .nil)
end
end Mine
end
section
open PySem PySem.W PyProof.Rows PySem.Calls PySem.Spec
set_option Elab.async false
set_option maxRecDepth 100000
set_option maxHeartbeats 8000000
set_option pp.deepTerms false
set_option pp.maxSteps 6000
namespace Mine
theorem pin1 {m : Str → Option Value} {x : Str} {v : Value} (h : m x = some v) : m = fun y => if y = x then some v else m y := funext fun y => by
  by_cases e : y = x
  · rw [if_pos e, e, h]
  · rw [if_neg e]
theorem pin8 {m : Str → Option Value} {x1 x2 x3 x4 x5 x6 x7 x8 : Str} {v1 v2 v3 v4 v5 v6 v7 v8 : Value} (h1 : m x1 = some v1) (h2 : m x2 = some v2) (h3 : m x3 = some v3) (h4 : m x4 = some v4) (h5 : m x5 = some v5) (h6 : m x6 = some v6) (h7 : m x7 = some v7) (h8 : m x8 = some v8) :
    m = fun y => if y = x1 then some v1 else if y = x2 then some v2 else if y = x3 then some v3 else if y = x4 then some v4 else if y = x5 then some v5 else if y = x6 then some v6 else if y = x7 then some v7 else if y = x8 then some v8 else m y :=
  (pin4 h1 h2 h3 h4).trans (funext fun y => by
    conv => lhs; rw [pin4 h5 h6 h7 h8])
theorem ListComp_SF {prog : Program} {w : World} {A : Around} {E : Value → Shared → Prop} {s : Shared} {h₀ : Heap} {L : Addr} {m : Str → Option Value} {env : Env} {elt iter : PySem.Expr} {x : Str} {px : Pos} {scope : Scope} {cl : List (Str × Addr)} {pos : Pos} {Q : Value → Shared → Prop} (_ : Fr h₀ L s.heap m)
    (hclos : closureFor scope env = pure cl) (hcell : ∀ y ∈ scope.names, y.2 ≠ .cell) (hkind : scope.kind = .function)
    (hnames : ∀ y ∈ scope.names, y.2 = .local → scope.names.lookup y.1 = some .local) (hx : scope.names.lookup x = some .local)
    (h : wpAny (model prog w) A (eval iter env) (SrcS prog w A h₀ L m env elt x scope cl (fun s₂ => LCg.FinE h₀ L m s₂ Q)) E s)
    (hs : ∀ x, foldedSetIterable iter env x = pure x := by intro _; rfl) :
    wpAny (model prog w) A (eval (.ListComp elt [⟨.Name x px, iter, [], 0⟩] scope pos) env) Q E s := ListComp_S hclos hcell hkind hnames hx h hs
/-- a for over a list that stays: heap, letters and generators may move -/
theorem list_loop {prog : Program} {w : World} {A : Around} {E : Value → Shared → Prop} {h₀ : Heap} {ax : Addr} {lo : Obj} {vs : List Value} {n : Nat} {s : Shared} {R : Result → Shared → Prop} {target : PySem.Expr} {body : List Stmt} {env : Env} {m₀ : Str → Option Value} {news₀ : List (Addr × Obj)}
    (hh : A.handled = none) (F : Fr h₀ env.locals s.heap m₀) (N : News h₀ env.locals s.heap news₀) (hm : (ax, lo) ∈ news₀) (hc : lo.cls = .type "list") (hd : lo.data = .seq vs.toArray n) (hb : AllBare s.gens)
    (J : Nat → (Str → Option Value) → List (Addr × Obj) → Prop) (hJ : J 0 m₀ news₀) (keep : ∀ i m news, J i m news → (ax, lo) ∈ news)
    (done : ∀ m news h tk Gn, J vs.length m news → AllBare Gn → Fr h₀ env.locals h m → News h₀ env.locals h news → R (.ok .next) { s with heap := h, toks := tk, gens := Gn })
    (step : ∀ i v m news h tk Gn I it, vs[i]? = some v → J i m news → AllBare Gn → Fr h₀ env.locals h m → News h₀ env.locals h ((I, it) :: news) → (∀ p ∈ news, p.1 ≠ I) → (∀ p ∈ news₀, p.1 < I) → it.cls = .type "list_iterator" →
      wpAny (model prog w) A (assign target env v) (fun _ s₂ => wpAny (model prog w) A (execs body env) (fun f s' => match f with
        | .next | .cont => RNext h₀ env.locals I it (J (i + 1)) s s'
        | .brk => R (.ok .next) s'
        | .ret v => R (.ok (.ret v)) s') NoE s₂) NoE { s with heap := h, toks := tk, gens := Gn }) :
    wpAny (model prog w) A (pyIter (.ref ax)) (fun it s₂ => codeAny (model prog w) A (.forLoop target it body [] env) R s₂) E s := by
  have hax := N _ hm
  have hl : s.heap.IsList ax vs.toArray := ⟨lo, hax.1, hc, n, hd⟩
  have hlt : ax < s.heap.objs.size := Heap.lt_size hax.1
  have hne : ax ≠ s.heap.objs.size := Nat.ne_of_lt hlt
  refine wpAny_pyIter_list hl ?_
  have W := Walks.list (prog := prog) (w := w) (A := A) hh s.heap.objs.size ax hne vs.toArray
  have hnew := next_is_new F
  have hLI : env.locals ≠ s.heap.objs.size := Nat.ne_of_lt F.ns.lt
  have hlow : ∀ p ∈ news₀, p.1 < s.heap.objs.size := fun p hp => Heap.lt_size (N p hp).1
  refine codeAny_forLoop_any (fun k s' => ∃ i, i + k = vs.length ∧ ∃ it, (it.cls = .type "list_iterator" ∧ it.data = .fields #[.ref ax, .int i 0]) ∧ RNext h₀ env.locals s.heap.objs.size it (J i) s s') ?_ vs.length ?_
  · rintro k _ ⟨i, hik, it, ⟨hic, hid⟩, m, news, h, tk, Gn, rfl, hb, F, N, hne2, hJ⟩
    have nI := N _ (.head _)
    have hlist : h.IsList ax vs.toArray := ⟨lo, (N _ (.tail _ (keep _ _ _ hJ))).1, hc, n, hd⟩
    have hst : h.IsListIter s.heap.objs.size ax i ∧ h.IsList ax vs.toArray := ⟨⟨it, nI.1, hic, hid⟩, hlist⟩
    have hF : ∀ h', (∀ b o, b ∉ [s.heap.objs.size] → h.get? b = some o → h'.get? b = some o) → Fr h₀ env.locals h' m := fun h' hk =>
      ⟨F.ns.at fun o q => hk _ o (fun e => nI.2.1 (List.mem_singleton.mp e).symm) q, fun b o hb => hk b o (fun e => by rw [List.mem_singleton.mp e, nI.2.2] at hb; cases hb) (F.keep b o hb), F.above⟩
    have hN : ∀ h', (∀ b o, b ∉ [s.heap.objs.size] → h.get? b = some o → h'.get? b = some o) → News h₀ env.locals h' news := fun h' hk p hp => by
      have z := N p (.tail _ hp)
      exact ⟨hk _ _ (fun e => hne2 p hp (List.mem_singleton.mp e)) z.1, z.2⟩
    by_cases hlt2 : i < vs.length
    · refine W.item i _ _ _ (by simpa using hlt2) hst fun v h' tk' hv hst' hk => ?_
      dsimp only
      obtain ⟨it', hit', hic', hid'⟩ := hst'.1
      refine letGo_listiter hst'.1 ?_
      have N₁ : News h₀ env.locals h' ((s.heap.objs.size, it') :: news) := fun p hp => by
        rcases List.mem_cons.mp hp with rfl | hp
        · exact ⟨hit', nI.2⟩
        · exact hN h' hk p hp
      refine wpAny_mono (step i v m news h' _ Gn s.heap.objs.size it' (by simpa using hv) hJ hb (hF h' hk) N₁ hne2 hlow hic') (fun _ s₂ h₂ => wpAny_mono h₂ (fun f s' hf => ?_) fun _ _ e => e.elim) fun _ _ e => e.elim
      cases f with
      | next => exact ⟨k - 1, by omega, i + 1, by omega, it', ⟨hic', hid'⟩, hf⟩
      | cont => exact ⟨k - 1, by omega, i + 1, by omega, it', ⟨hic', hid'⟩, hf⟩
      | brk => exact hf
      | ret v => exact hf
    · have hin : i = vs.length := by omega
      subst hin
      have hst2 : h.IsListIter s.heap.objs.size ax vs.toArray.size ∧ h.IsList ax vs.toArray := by rw [List.size_toArray]; exact hst
      refine W.done _ _ _ hst2 fun h' tk' hk => ?_
      rw [execs_nil]
      exact wpAny_pure (done m news h' tk' Gn hJ hb (hF h' hk) (hN h' hk))
  · refine ⟨0, by omega, { cls := .type "list_iterator", data := .fields #[.ref ax, .int ((0 : Nat) : Int) 0] }, ⟨rfl, rfl⟩, m₀, news₀, _, _, _, rfl, hb, F.push _, fun p hp => ?_, fun p hp => Nat.ne_of_lt (hlow p hp), hJ⟩
    rcases List.mem_cons.mp hp with rfl | hp
    · exact ⟨Heap.get?_push_size _ rfl, Ne.symm hLI, hnew⟩
    · exact ⟨Heap.get?_push_of_some _ (N p hp).1, (N p hp).2⟩
end Mine
end
section
open PySem PySem.W PyProof.Rows PySem.Calls PySem.Spec
set_option Elab.async false
set_option maxRecDepth 100000
set_option maxHeartbeats 8000000
set_option pp.deepTerms false
set_option pp.maxSteps 400
namespace Mine
noncomputable def sgn (k : List Nat) (c : Nat) : List Nat := if c = 111 then [40] else if c = 99 then [41] else k
noncomputable def txt (k : List Nat) (x : List Nat) : Str := ⟨((x.map (sgn k)).flatten).toArray⟩
noncomputable def wS (x : List Nat) : Str := ⟨x.toArray⟩
noncomputable def hgt (x : List Nat) : Int := (x.count 111 : Int) - (x.count 99 : Int)
noncomputable def kidsOf (size : Int) (x : List Nat) (l : List (Nat × Int)) : List (List Nat) := (l.filter fun p => decide ((if p.2 < 0 then -p.2 else p.2) ≤ 3 - size)).map fun p => x ++ [p.1]
noncomputable def kids (size : Int) (x : List Nat) : List (List Nat) := kidsOf size x [(111, hgt x + 1), (99, hgt x - 1), (104, hgt x)]
noncomputable def wt (k : List Nat) (p q : Int) (x : List Nat) : Int := if chk (txt k x) = true then p ^ (x.count 104) * q ^ (x.count 111) else 0
noncomputable def Okw (x : List Nat) : Prop := ∀ c ∈ x, c = 111 ∨ c = 99 ∨ c = 104
noncomputable abbrev b131 : List Stmt := bodyAt PySem.Challenge.pw_rs0143_01 16
noncomputable abbrev sc131 : Scope := scopeAt PySem.Challenge.pw_rs0143_01 16
noncomputable abbrev env131 (L cS : Addr) : Env := envX (Str.ofString "_law_counts") sc131 L 131 (.ref 130) [(Str.ofString "signs", cS)]
noncomputable abbrev oBody : List Stmt := forBody (stmtAt b131 2)
noncomputable abbrev wBody : List Stmt := forBody (stmtAt oBody 1)
noncomputable abbrev iBody : List Stmt := forBody (stmtAt wBody 4)
noncomputable abbrev sgL (kd : List Nat) (t0 t1 t2 : Tok) (n : Nat) : Obj := W.listOf #[.str (Str.ofString "(") t0, .str (Str.ofString ")") t1, .str (wS kd) t2] n
noncomputable abbrev Ok8 (m : Str → Option Value) (I : Addr) (pc pr size count coming : Int) (u1 u2 u3 u4 u5 tx : Tok) (vC : Value) (x : List Nat) : Prop :=
  m (Str.ofString "line") = some (.ref I) ∧ m (Str.ofString "pieces") = some (.int pc u1) ∧ m (Str.ofString "pairs") = some (.int pr u2) ∧ m (Str.ofString "size") = some (.int size u3) ∧ m (Str.ofString "count") = some (.int count u4) ∧ m (Str.ofString "coming") = some (.int coming u5) ∧ m (Str.ofString "counts") = some vC ∧ m (Str.ofString "word") = some (.str (wS x) tx)
local macro_rules | `(tactic| walk_at "call ref") => `(tactic| refine Hold.mk ?_)
theorem index_V {prog : Program} {w : World} {A : Around} {E : Value → Shared → Prop} {s : Shared} {x y : Str} {t u : Tok} {k : Int} {Q : Value → Shared → Prop} (hA : A.handled = none) (hk : Txt.find x y = k) (h0 : 0 ≤ k) (h : Q (.int k s.toks) { s with toks := s.toks + 1 }) :
    wpAny (model prog w) A (call (.builtin "str.index") [.str x t, .str y u]) Q E s :=
  index_or hA (fun e => absurd (e.symm.trans hk) (by omega)) fun _ _ => by rw [hk]; exact h
theorem count_V {prog : Program} {w : World} {A : Around} {E : Value → Shared → Prop} {s : Shared} {x : List Nat} {c : Nat} {t u : Tok} {Q : Value → Shared → Prop} (h : ∀ k : Int, k = (x.count c : Int) → Q (.int k s.toks) { s with toks := s.toks + 1 }) :
    wpAny (model prog w) A (call (.builtin "str.count") [.str (wS x) t, .str ⟨#[c]⟩ u]) Q E s := SC.count (h _ (by
    rw [count_cnt]
    show cnt c x = _
    clear h
    induction x with
    | nil => rfl
    | cons a r ih => rw [cnt_cons, ih, List.count_cons]; by_cases e : a = c <;> simp [e] <;> omega))
theorem item_V {prog : Program} {w : World} {A : Around} {E : Value → Shared → Prop} {s : Shared} {value slice : PySem.Expr} {l : Addr} {vs : List Value} {k : Int} {u : Tok} {v : Value} {Q : Value → Shared → Prop}
    (hl : s.heap.IsList l vs.toArray) (h0 : 0 ≤ k) (hhi : k < 2 ^ 63) (hx : vs[k.toNat]? = some v) (h : Q v s)
    (hs : subscripted slice false (.ref l) (.int k u) = operate [.ref l, .int k u] (getItem (.ref l) (.int k u)) := by with_unfolding_all rfl) :
    wpAny (model prog w) A (subscriptTail value slice (.ref l) (.int k u)) Q E s :=
  tail_any hl.typeIs slot_list_getitem.lookup (wpAny_getItem_list hl h0 hhi (by simpa using hx) h) hs
theorem addc_V {prog : Program} {w : World} {A : Around} {E : Value → Shared → Prop} {s : Shared} {x : List Nat} {c : Nat} {t u : Tok} {Q : Value → Shared → Prop} (hl : x.length ≤ 1000)
    (h : ∀ t' k, Q (.str (wS (x ++ [c])) t') { s with toks := k }) : wpAny (model prog w) A (binaryOp .Add (.str (wS x) t) (.str ⟨#[c]⟩ u)) Q E s := by
  refine SBL.add (hsz := ?hsz) fun t' k hx => ?_
  case hsz =>
    show x.toArray.size + 1 ≤ sizeLine
    rw [sizeLine, List.size_toArray]
    omega
  · have e : ((wS x) ++ (⟨#[c]⟩ : Str)) = wS (x ++ [c]) := by
      show (⟨x.toArray ++ #[c]⟩ : Str) = _
      simp [wS]
    rw [e]
    exact h t' k
theorem ldX {M : Model} {A : Around} {E : Value → Shared → Prop} {s : Shared} {h₀ : Heap} {L a : Addr} {m : Str → Option Value} {cn : Str} {cs : Scope} {ccd : Value} {cl : List (Str × Addr)} {x : Str} {v : Value} {Q : Value → Shared → Prop} (F : Fr h₀ L s.heap m) (hv : m x = some v) (h : Q v s)
    (hk : cs.kind = .function) (hl : (envX cn cs L a ccd cl).kindOf x = some .local) : wpAny M A (loadName (envX cn cs L a ccd cl) x) Q E s := wpAny_loadName_local hk hl F.ns hv h
theorem join_fold : ∀ (l : List (List Nat)) (acc : Array Nat), ((l.map wS).foldl (fun acc p => acc ++ (Str.ofString "").cps ++ p.cps) acc) = acc ++ l.flatten.toArray
  | [], acc => by simp
  | a :: r, acc => by
    rw [List.map_cons, List.foldl_cons, join_fold r]
    apply Array.toList_inj.mp
    have : (Str.ofString "").cps = #[] := rfl
    rw [this]
    simp [wS]
theorem join_wS (l : List (List Nat)) : Txt.join (Str.ofString "") (l.map wS) = wS l.flatten := by
  cases l with
  | nil => rfl
  | cons a r =>
    show (⟨((r.map wS)).foldl (fun acc p => acc ++ (Str.ofString "").cps ++ p.cps) a.toArray⟩ : Str) = _
    rw [join_fold]
    simp [wS]
theorem join_sgn (kd x : List Nat) : Txt.join (Str.ofString "") (x.map fun c => wS (sgn kd c)) = txt kd x := by
  have h := join_wS (x.map (sgn kd))
  rw [List.map_map] at h
  exact h
theorem join_size {kd x : List Nat} (h1 : x.length ≤ 4) (h2 : kd.length ≤ 4) : ((x.map fun c => wS (sgn kd c)).map (·.length)).sum + (x.map fun c => wS (sgn kd c)).length * (Str.ofString "").length ≤ 16777216 := by
  have key : ∀ l : List Nat, ((l.map fun c => wS (sgn kd c)).map (·.length)).sum ≤ 4 * l.length := by
    intro l
    induction l with
    | nil => simp
    | cons a r ih =>
      rw [List.map_cons, List.map_cons, List.sum_cons, List.length_cons]
      have : (wS (sgn kd a)).length ≤ 4 := by
        show (sgn kd a).toArray.size ≤ 4
        rw [List.size_toArray]
        unfold sgn
        split
        · decide
        · split
          · decide
          · exact h2
      omega
  have h0 : (Str.ofString "").length = 0 := rfl
  rw [h0, Nat.mul_zero]
  have := key x
  omega
local macro_rules | `(tactic| walk_at "binaryOp Add str str") => `(tactic| refine Hold.mk ?_)
local macro_rules | `(tactic| walk_at "loadName") => `(tactic| k_dflt (refine' ldX ?F ?v ?_ ?a ?b; (case F => k_asm); (case v => exact rfl); (case a => exact rfl); (case b => exact rfl); k_whole))
local macro_rules | `(tactic| walk_at "call builtin:str.join") => `(tactic| refine Hold.mk ?_)
local macro_rules | `(tactic| walk_at "binaryOp Pow int int") => `(tactic| refine Hold.mk ?_)
local macro_rules | `(tactic| walk_at "binaryOp Mult int int") => `(tactic| refine Hold.mk ?_)
local macro_rules | `(tactic| walk_at "call builtin:str.index") => `(tactic| refine Hold.mk ?_)
local macro_rules | `(tactic| walk_at "call builtin:str.count") => `(tactic| refine Hold.mk ?_)
local macro_rules | `(tactic| walk_at "eval ListComp") => `(tactic| refine Hold.mk ?_)
local macro_rules | `(tactic| walk_at "exec For") => `(tactic| refine Hold.mk ?_)
theorem kid131 : ∀ (w : World) (rest : List (Addr × Obj)) (I pI li cS : Addr) (nl : Nat) (c : Nat) (tc : Tok) (hh : Int) (th : Tok) (x : List Nat) (tx : Tok) (vs : List Value) (n : Nat) (size pc pr count coming : Int) (u1 u2 u3 u4 u5 : Tok) (vC : Value),
   LineAt w rest I pI → (∀ p ∈ rest, p.1 ≠ pI) → (li, W.listOf #[.str ⟨#[c]⟩ tc, .int hh th] nl) ∈ rest → x.length ≤ 4 → 0 ≤ size → size ≤ 4 → vs.length ≤ 900 →
   ∀ (p : Program) (loose : List Str) (mean : ExcName → Option Value) (mg mb : Str → Option Value) (dp un : Nat) (gd : Option (List Code)) (outer : List Env) (A₀ : Around) (base h₀ : Heap) (L : Addr) (m : Str → Option Value) (s : Shared) (QQ : Flow → Shared → Prop),
   Below A₀ base outer h₀ → Fr h₀ L s.heap m → (hd.heap_39 w.params).In h₀ → News h₀ L s.heap ((pI, W.listOf vs.toArray n) :: rest) → Top p loose mean mg mb h₀ → 
   dp + 20 < recursionLimit → un + 8 * 20 < cLine → Ok8 m I pc pr size count coming u1 u2 u3 u4 u5 tx vC x →
   ((if hh < 0 then -hh else hh) ≤ 3 - size → ∀ m' h' tk' v5 tn, Ok8 m' I pc pr size count (coming + 1) u1 u2 u3 u4 v5 tx vC x → Fr h₀ L h' m' → News h₀ L h' ((pI, W.listOf (vs ++ [Value.str (wS (x ++ [c])) tn]).toArray (n + 1)) :: rest) → QQ .next { s with heap := h', toks := tk' }) →
   (¬ (if hh < 0 then -hh else hh) ≤ 3 - size → ∀ m' h' tk', Ok8 m' I pc pr size count coming u1 u2 u3 u4 u5 tx vC x → Fr h₀ L h' m' → News h₀ L h' ((pI, W.listOf vs.toArray n) :: rest) → QQ .next { s with heap := h', toks := tk' }) →
   wpAny (theM w) (ktrTop dp un gd (Str.ofString "_law_counts") sc131 L 131 (.ref 130) [(Str.ofString "signs", cS)] outer) (assign (forTarget (stmtAt wBody 4)) (env131 L cS) (.ref li)) (fun _ s₂ => wpAny (theM w) (ktrTop dp un gd (Str.ofString "_law_counts") sc131 L 131 (.ref 130) [(Str.ofString "signs", cS)] outer) (execs iBody (env131 L cS)) QQ NoE s₂) NoE s := by
  dsimp only [theM, LineAt]
  simp only [env131, sc131, iBody, wBody, oBody, b131, forBody, forTarget, scopeAt, stmtAt, bodyAt, PySem.Challenge.pw_rs0143_01, List.getElem?_cons_zero, List.getElem?_cons_succ, Option.getD_some]
  k_fill
  intro w rest I pI li cS nl c tc hh th x tx vs n size pc pr count coming u1 u2 u3 u4 u5 vC hX haw mli hxl hs0 hs4 hvl p loose mean mg mb dp un gd outer A₀ base h₀ L m s QQ B F X N T hdp hun ⟨m1, m2, m3, m4, m5, m6, m7, m8⟩ hret1 hret2
  have hX2 := hX
  obtain ⟨S, dI, a1, a2, a3, a4, a5, a6, mI, mdI⟩ := hX
  rw [pin8 m1 m2 m3 m4 m5 m6 m7 m8] at F
  k_steps
  · refine addc_V (by omega) fun t' k => ?_
    k_steps
    rename News _ _ _ _ => N9
    refine' c49 w rest I pI _ vs n hX2 haw (by omega) _ _ _ _ _ _ _ _ _ _ _ _ _ _ _ _ _ _ _ _ _ _ ?b1 ?b2 ?b3 N9 ?b5 ?b6 ?b7 ?b8 ?_
    case b1 => k_asm
    case b2 => k_asm
    case b3 => k_asm
    case b5 => k_asm
    case b6 => exact rfl
    case b7 => ktr_room
    case b8 => ktr_units
    intro h11 tk11 F11 N11
    clear N9
    (try dsimp only)
    (try k_fold)
    k_steps
    exact hret1 (by assumption) _ _ _ _ _ ⟨rfl, rfl, rfl, rfl, rfl, rfl, rfl, rfl⟩ (by k_asm) (by k_asm)
  · exact hret2 (by assumption) _ _ _ ⟨rfl, rfl, rfl, rfl, rfl, rfl, rfl, rfl⟩ (by k_asm) (by k_asm)
theorem kidsOf_snoc (size : Int) (x : List Nat) (l : List (Nat × Int)) (c : Nat) (hh : Int) : kidsOf size x (l ++ [(c, hh)]) = kidsOf size x l ++ (if (if hh < 0 then -hh else hh) ≤ 3 - size then [x ++ [c]] else []) := by
  unfold kidsOf
  rw [List.filter_append, List.map_append]
  congr 1
  by_cases h : (if hh < 0 then -hh else hh) ≤ 3 - size
  · rw [if_pos h, List.filter_cons_of_pos (by simpa using h)]; rfl
  · rw [if_neg h, List.filter_cons_of_neg (by simpa using h)]; rfl
noncomputable abbrev K3 (x : List Nat) : List (Nat × Int) := [(111, hgt x + 1), (99, hgt x - 1), (104, hgt x)]
theorem tail_in : ∀ (w : World) (rest : List (Addr × Obj)) (I pI cS : Addr) (x : List Nat) (tx : Tok) (q : List Value) (n : Nat) (size : Nat) (pc pr count coming : Int) (u1 u2 u3 u4 u5 : Tok) (vC : Value) (l1 l2 l3 l4 : Addr) (n1 n2 n3 n4 : Nat) (t1 t2 t3 t4 t5 t6 : Tok) (k1 k2 k3 : Int),
   LineAt w rest I pI → (∀ p ∈ rest, p.1 ≠ pI) → x.length ≤ 4 → size ≤ 4 → q.length ≤ 800 → k1 = hgt x + 1 → k2 = hgt x - 1 → k3 = hgt x → @LT.lt Nat _ pI l1 → @LT.lt Nat _ l1 l2 → @LT.lt Nat _ l2 l3 → @LT.lt Nat _ l3 l4 →
   ∀ (p : Program) (loose : List Str) (mean : ExcName → Option Value) (mg mb : Str → Option Value) (dp un : Nat) (gd : Option (List Code)) (outer : List Env) (A₀ : Around) (base h₀ : Heap) (L : Addr) (m : Str → Option Value) (s : Shared) (R : Result → Shared → Prop),
   Below A₀ base outer h₀ → Fr h₀ L s.heap m → (hd.heap_39 w.params).In h₀ →
   News h₀ L s.heap ((l4, W.listOf #[.ref l1, .ref l2, .ref l3] n4) :: (l3, W.listOf #[.str (Str.ofString "h") t5, .int k3 t6] n3) :: (l2, W.listOf #[.str (Str.ofString "c") t3, .int k2 t4] n2) :: (l1, W.listOf #[.str (Str.ofString "o") t1, .int k1 t2] n1) :: (pI, W.listOf q.toArray n) :: rest) → Top p loose mean mg mb h₀ → 
   dp + 20 < recursionLimit → un + 8 * 20 < cLine → AllBare s.gens → Ok8 m I pc pr size count coming u1 u2 u3 u4 u5 tx vC x →
   (∀ m' h' tk' Gn n' v5 kv, Ok8 m' I pc pr size count (coming + (kids size x).length) u1 u2 u3 u4 v5 tx vC x → Fr h₀ L h' m' → News h₀ L h' ((pI, W.listOf (q ++ kv).toArray n') :: rest) → StrsAre kv ((kids size x).map wS) → AllBare Gn → R (.ok .next) { s with heap := h', toks := tk', gens := Gn }) →
   wpAny (theM w) (ktrTop dp un gd (Str.ofString "_law_counts") sc131 L 131 (.ref 130) [(Str.ofString "signs", cS)] outer) (pyIter (.ref l4)) (fun it s₂ => codeAny (theM w) (ktrTop dp un gd (Str.ofString "_law_counts") sc131 L 131 (.ref 130) [(Str.ofString "signs", cS)] outer) (.forLoop (forTarget (stmtAt wBody 4)) it iBody [] (env131 L cS)) R s₂) NoE s := by
  intro w rest I pI cS x tx q n size pc pr count coming u1 u2 u3 u4 u5 vC l1 l2 l3 l4 n1 n2 n3 n4 t1 t2 t3 t4 t5 t6 k1 k2 k3 hX haw hxl hs4 hvl e1 e2 e3 o1 o2 o3 o4 p loose mean mg mb dp un gd outer A₀ base h₀ L m s R B F X N T hdp hun hbare hm hR
  obtain ⟨fr, hfr⟩ : ∃ fr, fr = [(l4, W.listOf #[.ref l1, .ref l2, .ref l3] n4), (l3, W.listOf #[.str (Str.ofString "h") t5, .int k3 t6] n3), (l2, W.listOf #[.str (Str.ofString "c") t3, .int k2 t4] n2), (l1, W.listOf #[.str (Str.ofString "o") t1, .int k1 t2] n1)] := ⟨_, rfl⟩
  have N0 : News h₀ L s.heap (fr ++ (pI, W.listOf q.toArray n) :: rest) := by rw [hfr]; exact N
  have hfp : ∀ p ∈ fr, p.1 ≠ pI := by
    rw [hfr]
    have o5 := Nat.lt_trans o1 o2
    have o6 := Nat.lt_trans o5 o3
    exact List.forall_mem_cons.mpr ⟨Nat.ne_of_gt (Nat.lt_trans o6 o4), List.forall_mem_cons.mpr ⟨Nat.ne_of_gt o6, List.forall_mem_cons.mpr ⟨Nat.ne_of_gt o5, List.forall_mem_cons.mpr ⟨Nat.ne_of_gt o1, fun _ h => nomatch h⟩⟩⟩⟩
  have m4 : (l4, W.listOf #[.ref l1, .ref l2, .ref l3] n4) ∈ fr := by rw [hfr]; exact .head _
  have m3 : (l3, W.listOf #[.str ⟨#[104]⟩ t5, .int k3 t6] n3) ∈ fr := by rw [hfr]; exact .tail _ (.head _)
  have m2 : (l2, W.listOf #[.str ⟨#[99]⟩ t3, .int k2 t4] n2) ∈ fr := by rw [hfr]; exact .tail _ (.tail _ (.head _))
  have m1 : (l1, W.listOf #[.str ⟨#[111]⟩ t1, .int k1 t2] n1) ∈ fr := by rw [hfr]; exact .tail _ (.tail _ (.tail _ (.head _)))
  clear N hfr
  have len3 : ∀ i, (kidsOf size x ((K3 x).take i)).length ≤ 3 := fun i => by
    unfold kidsOf
    rw [List.length_map]
    refine Nat.le_trans (List.length_filter_le _ _) ?_
    rw [List.length_take]
    exact Nat.min_le_right _ _
  refine list_loop (env := env131 L cS) (vs := [.ref l1, .ref l2, .ref l3]) rfl F N0 (List.mem_append_left _ m4) rfl rfl hbare
    (fun i m news => ∃ kv n' v5, news = fr ++ (pI, W.listOf (q ++ kv).toArray n') :: rest ∧ StrsAre kv ((kidsOf size x ((K3 x).take i)).map wS) ∧ Ok8 m I pc pr size count (coming + (kidsOf size x ((K3 x).take i)).length) u1 u2 u3 u4 v5 tx vC x) ?_ ?_ ?_ ?_
  · refine ⟨[], n, u5, by rw [List.append_nil], .nil, ?_⟩
    have : coming + ((kidsOf size x ((K3 x).take 0)).length : Int) = coming := by simp [kidsOf]
    rw [this]
    exact hm
  · rintro i m news ⟨kv, n', v5, rfl, _⟩
    exact List.mem_append_left _ m4
  · rintro m news h tk Gn ⟨kv, n', v5, rfl, hS, hm⟩ hb F N
    exact hR m h tk Gn n' v5 kv hm F (fun p hp => N p (List.mem_append_right _ hp)) hS hb
  · have one : ∀ i li nl c tc hh th, (K3 x)[i]? = some (c, hh) → (li, W.listOf #[.str ⟨#[c]⟩ tc, .int hh th] nl) ∈ fr → ∀ m news h tk Gn I2 it, (∃ kv n' v5, news = fr ++ (pI, W.listOf (q ++ kv).toArray n') :: rest ∧ StrsAre kv ((kidsOf size x ((K3 x).take i)).map wS) ∧ Ok8 m I pc pr size count (coming + (kidsOf size x ((K3 x).take i)).length) u1 u2 u3 u4 v5 tx vC x) → AllBare Gn → Fr h₀ L h m → News h₀ L h ((I2, it) :: news) → (∀ p ∈ news, p.1 ≠ I2) → (∀ p ∈ fr ++ (pI, W.listOf q.toArray n) :: rest, p.1 < I2) →
        wpAny (theM w) (ktrTop dp un gd (Str.ofString "_law_counts") sc131 L 131 (.ref 130) [(Str.ofString "signs", cS)] outer) (assign (forTarget (stmtAt wBody 4)) (env131 L cS) (.ref li)) (fun _ s₂ => wpAny (theM w) (ktrTop dp un gd (Str.ofString "_law_counts") sc131 L 131 (.ref 130) [(Str.ofString "signs", cS)] outer) (execs iBody (env131 L cS)) (fun f s' => match f with
          | .next | .cont => RNext h₀ L I2 it (fun m news => ∃ kv n' v5, news = fr ++ (pI, W.listOf (q ++ kv).toArray n') :: rest ∧ StrsAre kv ((kidsOf size x ((K3 x).take (i + 1))).map wS) ∧ Ok8 m I pc pr size count (coming + (kidsOf size x ((K3 x).take (i + 1))).length) u1 u2 u3 u4 v5 tx vC x) s s'
          | .brk => R (.ok .next) s'
          | .ret v => R (.ok (.ret v)) s') NoE s₂) NoE { s with heap := h, toks := tk, gens := Gn } := by
      rintro i li nl c tc hh th hK hli m news h tk Gn I2 it ⟨kv, n', v5, rfl, hS, hm⟩ hb F N hne hlow
      have hI2 : pI ≠ I2 := Nat.ne_of_lt (hlow (pI, _) (List.mem_append_right _ (.head _)))
      have hkv : kv.length ≤ 3 := by rw [StrsAre.length hS, List.length_map]; exact len3 i
      have eK : kidsOf size x ((K3 x).take (i + 1)) = kidsOf size x ((K3 x).take i) ++ (if (if hh < 0 then -hh else hh) ≤ 3 - (size : Int) then [x ++ [c]] else []) := by
        rw [List.take_add_one, hK]
        exact kidsOf_snoc _ _ _ _ _
      have back : ∀ h' o, News h₀ L h' ((pI, o) :: (I2, it) :: (fr ++ rest)) → News h₀ L h' ((I2, it) :: (fr ++ (pI, o) :: rest)) := fun h' o N p hp => N p (by
        simp only [List.mem_cons, List.mem_append] at hp ⊢
        rcases hp with h | h | h | h <;> simp [h])
      have off : ∀ o, ∀ p ∈ fr ++ (pI, o) :: rest, p.1 ≠ I2 := fun o p hp => by
        rcases List.mem_append.mp hp with hp | hp
        · exact hne p (List.mem_append_left _ hp)
        rcases List.mem_cons.mp hp with rfl | hp
        · exact hI2
        · exact hne p (List.mem_append_right _ (.tail _ hp))
      refine kid131 w ((I2, it) :: (fr ++ rest)) I pI li cS nl c tc hh th x tx (q ++ kv) n' size pc pr count _ u1 u2 u3 u4 v5 vC ?_ ?_ (.tail _ (List.mem_append_left _ hli)) hxl (by omega) (by omega) (by rw [List.length_append]; omega) p loose mean mg mb dp un gd outer A₀ base h₀ L m _ _ B F X ?_ T hdp hun hm ?_ ?_
      · obtain ⟨S, dI, a1, a2, a3, a4, a5, a6, mI, mdI⟩ := hX
        exact ⟨S, dI, a1, a2, a3, a4, a5, a6, .tail _ (List.mem_append_right _ mI), .tail _ (List.mem_append_right _ mdI)⟩
      · refine List.forall_mem_cons.mpr ⟨Ne.symm hI2, fun p hp => ?_⟩
        rcases List.mem_append.mp hp with hp | hp
        · exact hfp p hp
        · exact haw p hp
      · intro p hp
        refine N p ?_
        simp only [List.mem_cons, List.mem_append] at hp ⊢
        rcases hp with h | h | h | h <;> simp [h]
      · intro hc m' h' tk' v5' tn hm' F' N'
        rw [if_pos hc] at eK
        refine ⟨m', fr ++ (pI, W.listOf (q ++ (kv ++ [Value.str (wS (x ++ [c])) tn])).toArray (n' + 1)) :: rest, h', tk', Gn, rfl, hb, F', back _ _ (by rw [← List.append_assoc]; exact N'), off _, _, _, v5', rfl, ?_, ?_⟩
        · rw [eK, List.map_append]
          exact hS.append' (.cons _ _ .nil)
        · rw [eK, List.length_append]
          have : coming + ((kidsOf size x ((K3 x).take i)).length : Int) + 1 = coming + (((kidsOf size x ((K3 x).take i)).length + [x ++ [c]].length : Nat) : Int) := by simp; omega
          rw [← this]
          exact hm'
      · intro hc m' h' tk' hm' F' N'
        rw [if_neg hc, List.append_nil] at eK
        refine ⟨m', fr ++ (pI, W.listOf (q ++ kv).toArray n') :: rest, h', tk', Gn, rfl, hb, F', back _ _ N', off _, kv, _, v5, rfl, ?_, ?_⟩
        · rw [eK]; exact hS
        · rw [eK]; exact hm'
    intro i v m news h tk Gn I2 it hv hJ hb F N hne hlow hit
    subst e1 e2 e3
    match i, hv with
    | 0, hv => cases hv; exact one 0 l1 n1 111 t1 _ t2 rfl m1 m news h tk Gn I2 it hJ hb F N hne hlow
    | 1, hv => cases hv; exact one 1 l2 n2 99 t3 _ t4 rfl m2 m news h tk Gn I2 it hJ hb F N hne hlow
    | 2, hv => cases hv; exact one 2 l3 n3 104 t5 _ t6 rfl m3 m news h tk Gn I2 it hJ hb F N hne hlow
    | i + 3, hv => simp at hv
local macro_rules | `(tactic| walk_at "exec For Tuple List cons nil") => `(tactic| refine Hold.mk ?_)
local macro_rules | `(tactic| walk_at "exec For Tuple List cons cons nil") => `(tactic| refine Hold.mk ?_)
local macro_rules | `(tactic| walk_at "pyIter ref") => `(tactic| refine Hold.mk ?_)
theorem tail131 : ∀ (w : World) (rest : List (Addr × Obj)) (I pI cS : Addr) (x : List Nat) (tx : Tok) (q : List Value) (n : Nat) (size : Nat) (pc pr count coming : Int) (u1 u2 u3 u4 u5 : Tok) (vC : Value),
   LineAt w rest I pI → (∀ p ∈ rest, p.1 ≠ pI) → x.length ≤ 4 → size ≤ 4 → q.length ≤ 800 →
   ∀ (p : Program) (loose : List Str) (mean : ExcName → Option Value) (mg mb : Str → Option Value) (dp un : Nat) (gd : Option (List Code)) (outer : List Env) (A₀ : Around) (base h₀ : Heap) (L : Addr) (m : Str → Option Value) (s : Shared) (QQ : Flow → Shared → Prop),
   Below A₀ base outer h₀ → Fr h₀ L s.heap m → (hd.heap_39 w.params).In h₀ → News h₀ L s.heap ((pI, W.listOf q.toArray n) :: rest) → Top p loose mean mg mb h₀ → 
   dp + 20 < recursionLimit → un + 8 * 20 < cLine → AllBare s.gens → Ok8 m I pc pr size count coming u1 u2 u3 u4 u5 tx vC x →
   (∀ m' h' tk' Gn n' v5 kv, Ok8 m' I pc pr size count (coming + (kids size x).length) u1 u2 u3 u4 v5 tx vC x → Fr h₀ L h' m' → News h₀ L h' ((pI, W.listOf (q ++ kv).toArray n') :: rest) → StrsAre kv ((kids size x).map wS) → AllBare Gn → QQ .next { s with heap := h', toks := tk', gens := Gn }) →
   wpAny (theM w) (ktrTop dp un gd (Str.ofString "_law_counts") sc131 L 131 (.ref 130) [(Str.ofString "signs", cS)] outer) (execs (wBody.drop 3) (env131 L cS)) QQ NoE s := by
  have tin := tail_in
  dsimp only [theM, LineAt] at tin ⊢
  simp only [env131, sc131, iBody, wBody, oBody, b131, forBody, forTarget, scopeAt, stmtAt, bodyAt, PySem.Challenge.pw_rs0143_01, List.getElem?_cons_zero, List.getElem?_cons_succ, Option.getD_some, List.drop_succ_cons, List.drop_zero] at tin ⊢
  k_fill
  intro w rest I pI cS x tx q n size pc pr count coming u1 u2 u3 u4 u5 vC hX haw hxl hs4 hvl p loose mean mg mb dp un gd outer A₀ base h₀ L m s QQ B F X N T hdp hun hbare ⟨m1, m2, m3, m4, m5, m6, m7, m8⟩ hret
  have hX2 := hX
  obtain ⟨S, dI, a1, a2, a3, a4, a5, a6, mI, mdI⟩ := hX
  rw [pin8 m1 m2 m3 m4 m5 m6 m7 m8] at F
  have hO : Str.ofString "o" = ⟨#[111]⟩ := rfl
  have hC : Str.ofString "c" = ⟨#[99]⟩ := rfl
  have hH : Str.ofString "h" = ⟨#[104]⟩ := rfl
  k_steps
  refine count_V (c := 111) fun kO eO => ?_
  k_steps
  refine count_V (c := 99) fun kC eC => ?_
  k_steps
  refine wpAny_For ?_
  k_steps
  rename News _ _ _ _ => N9
  rename_i l1' g1 x1 l2' g2 x2 l3' g3 x3 l4' g4 F4 x4
  have hk : kO - kC = hgt x := by rw [eO, eC]; rfl
  refine tin w rest I pI cS x tx q n size pc pr count coming u1 u2 u3 u4 u5 vC l1' l2' l3' l4' _ _ _ _ _ _ _ _ _ _ _ _ _ hX2 haw hxl hs4 hvl ?_ ?_ ?_ x1.1 x2.1 x3.1 x4.1 p loose mean mg mb dp un gd outer A₀ base h₀ L _ _ _ B F4 X N9 T hdp hun hbare ⟨rfl, rfl, rfl, rfl, rfl, rfl, rfl, rfl⟩ ?_
  · rw [hk]
  · rw [hk]
  · exact hk
  · intro m' h' tk' Gn n' v5 kv hm' F' N' hS hb
    dsimp only
    rw [execs_nil]
    exact wpAny_pure (hret m' h' tk' Gn n' v5 kv hm' F' N' hS hb)
theorem pow_bits {p : Int} {k : Nat} (h0 : 0 ≤ p) (h1 : p < 10) (hk : k ≤ 4) : Builtin.Int.intBits (p ^ k) ≤ 20 := by
  obtain ⟨n, rfl⟩ := Int.eq_ofNat_of_zero_le h0
  have hn : n < 10 := by omega
  refine intBits_le_iff.mpr ?_
  have : ∀ a : Nat, a < 10 → ∀ b, b < 5 → (((a : Int) ^ b).natAbs) < 2 ^ 20 := by decide +kernel
  exact this n hn k (by omega)
local macro_rules | `(tactic| walk_at "execs cons") => `(tactic| ((with_reducible show wpAny _ _ (execs (Stmt.Assign [Expr.Name (Str.ofString "now") _] _ _ :: _) _) _ _ _); refine Hold.mk ?_))
theorem word131 : ∀ (w : World) (rest : List (Addr × Obj)) (I pI sD cS : Addr) (oS : Obj) (x : List Nat) (tx : Tok) (q : List Value) (n nS : Nat) (kd : List Nat) (t0 t1 t2 : Tok) (size : Nat) (pc pr count coming : Int) (u1 u2 u3 u4 u5 : Tok) (vC : Value),
   LineAt w rest I pI → (∀ p ∈ rest, p.1 ≠ pI) → (cS, oS) ∈ rest → oS.data = .cell (some (.ref sD)) → (sD, sgL kd t0 t1 t2 nS) ∈ rest → Okw x → x.length ≤ 4 → size ≤ 4 → kd.length ≤ 4 → ChkOk (txt kd x) → 0 ≤ pc → pc < 10 → 0 ≤ pr → pr < 10 → q.length ≤ 800 →
   ∀ (p : Program) (loose : List Str) (mean : ExcName → Option Value) (mg mb : Str → Option Value) (dp un : Nat) (gd : Option (List Code)) (outer : List Env) (A₀ : Around) (base h₀ : Heap) (L : Addr) (m : Str → Option Value) (s : Shared) (QQ : Flow → Shared → Prop),
   Below A₀ base outer h₀ → Fr h₀ L s.heap m → (hd.heap_39 w.params).In h₀ → News h₀ L s.heap ((pI, W.listOf (.str (wS x) tx :: q).toArray n) :: rest) → Top p loose mean mg mb h₀ → 
   dp + 20 < recursionLimit → un + 8 * 20 < cLine → AllBare s.gens →
   m (Str.ofString "line") = some (.ref I) → m (Str.ofString "pieces") = some (.int pc u1) → m (Str.ofString "pairs") = some (.int pr u2) → m (Str.ofString "size") = some (.int (size : Int) u3) → m (Str.ofString "count") = some (.int count u4) → m (Str.ofString "coming") = some (.int coming u5) → m (Str.ofString "counts") = some vC →
   (∀ m' h' tk' Gn n' v4 v5 kv, m' (Str.ofString "line") = some (.ref I) → m' (Str.ofString "pieces") = some (.int pc u1) → m' (Str.ofString "pairs") = some (.int pr u2) → m' (Str.ofString "size") = some (.int (size : Int) u3) → m' (Str.ofString "count") = some (.int (count + wt kd pc pr x) v4) → m' (Str.ofString "coming") = some (.int (coming + (kids size x).length) v5) → m' (Str.ofString "counts") = some vC →
      Fr h₀ L h' m' → News h₀ L h' ((pI, W.listOf (q ++ kv).toArray n') :: rest) → StrsAre kv ((kids size x).map wS) → AllBare Gn → QQ .next { s with heap := h', toks := tk', gens := Gn }) →
   wpAny (theM w) (ktrTop dp un gd (Str.ofString "_law_counts") sc131 L 131 (.ref 130) [(Str.ofString "signs", cS)] outer) (execs wBody (env131 L cS)) QQ NoE s := by
  have tl := tail131
  dsimp only [theM, LineAt] at tl ⊢
  simp only [env131, sc131, wBody, oBody, b131, forBody, scopeAt, stmtAt, bodyAt, PySem.Challenge.pw_rs0143_01, List.getElem?_cons_zero, List.getElem?_cons_succ, Option.getD_some, List.drop_succ_cons, List.drop_zero] at tl ⊢
  k_fill
  intro w rest I pI sD cS oS x tx q n nS kd t0 t1 t2 size pc pr count coming u1 u2 u3 u4 u5 vC hX haw mcS dcS msD hx hxl hsz hkd hok hp0 hp1 hr0 hr1 hq p loose mean mg mb dp un gd outer A₀ base h₀ L m s QQ B F X N T hdp hun hbare m1 m2 m3 m4 m5 m6 m7 hret
  have hX2 := hX
  obtain ⟨S, dI, a1, a2, a3, a4, a5, a6, mI, mdI⟩ := hX
  rw [pin8 m1 m2 m3 m4 m5 m6 m7 m7] at F
  k_steps
  refine' c42p w rest I pI (.str (wS x) tx) q n hX2 haw (by omega) _ _ _ _ _ _ _ _ _ _ _ _ _ _ _ _ _ _ _ _ _ _ ?b1 ?b2 ?b3 N ?b5 ?b6 ?b7 ?b8 ?_
  case b1 => k_asm
  case b2 => k_asm
  case b3 => k_asm
  case b5 => k_asm
  case b6 => exact rfl
  case b7 => ktr_room
  case b8 => ktr_units
  intro h9 tk9 n9 F9 N9
  (try dsimp only)
  (try k_fold)
  clear N F
  k_steps
  refine ListComp_SF (by k_asm) rfl (by decide) rfl (by decide) rfl ?_
  k_steps
  refine ⟨wS x, tx, _, rfl, rfl, by k_asm, by k_asm, by show x.toArray.size ≤ sizeLine; rw [sizeLine, List.size_toArray]; omega, ?_⟩
  rintro s₂ ⟨h10, rfl⟩
  refine str_rest (fun c => wS (sgn kd c)) ?turn ?fin
  case turn =>
    intro c t I' oI C oC D m₂ ys h tk E' hc hC hmx F N off ne
    k_steps
    rcases hx c (by simpa [wS] using hc) with rfl | rfl | rfl
    · refine index_V rfl (k := 0) (by decide +kernel) (by decide) ?_
      refine item_V (PySem.IsL.isList (n := nS) (N (sD, sgL kd t0 t1 t2 nS) (by k_mem)).1) (by decide) (by decide) rfl ?_
      exact ⟨_, _, _, rfl, F, N, off, trivial, rfl, _, rfl⟩
    · refine index_V rfl (k := 1) (by decide +kernel) (by decide) ?_
      refine item_V (PySem.IsL.isList (n := nS) (N (sD, sgL kd t0 t1 t2 nS) (by k_mem)).1) (by decide) (by decide) rfl ?_
      exact ⟨_, _, _, rfl, F, N, off, trivial, rfl, _, rfl⟩
    · refine index_V rfl (k := 2) (by decide +kernel) (by decide) ?_
      refine item_V (PySem.IsL.isList (n := nS) (N (sD, sgL kd t0 t1 t2 nS) (by k_mem)).1) (by decide) (by decide) rfl ?_
      exact ⟨_, _, _, rfl, F, N, off, trivial, rfl, _, rfl⟩
  case fin =>
    intro ys hys D h tk F N off
    (try dsimp only)
    k_steps
    refine join_list (ys := x.map fun c => wS (sgn kd c)) (PySem.IsL.isList (n := ys.length) (N _ (.head _)).1) hys (join_size hxl hkd) fun t' k => ?_
    rw [join_sgn]
    have N2 : News h₀ L h _ := fun p hp => N p (.tail _ hp)
    clear N
    k_steps
    refine' c119 w _ (txt kd x) _ hok _ _ _ _ _ _ _ _ _ _ _ _ _ _ _ _ _ _ _ _ _ _ ?b1 ?b2 ?b3 N2 ?b5 ?b6 ?b7 ?b8 hbare ?_
    case b1 => k_asm
    case b2 => k_asm
    case b3 => k_asm
    case b5 => k_asm
    case b6 => exact rfl
    case b7 => ktr_room
    case b8 => ktr_units
    intro h11 tk11 Gn11 F11 N11 hbare11
    clear N2 F
    (try dsimp only)
    (try k_fold)
    have hO : Str.ofString "o" = ⟨#[111]⟩ := rfl
    have hC : Str.ofString "c" = ⟨#[99]⟩ := rfl
    have hH : Str.ofString "h" = ⟨#[104]⟩ := rfl
    cases hchk : chk (txt kd x)
    · have hw : count = count + wt kd pc pr x := by simp [wt, hchk]
      k_steps
      rename News _ _ _ _ => N12
      refine tl w rest I pI cS x tx q n9 size pc pr count coming u1 u2 u3 u4 u5 vC hX2 haw hxl hsz (by omega) p loose mean mg mb dp un gd outer A₀ base h₀ L _ _ _ B (by k_asm) X N12 T hdp hun hbare11 ⟨rfl, rfl, rfl, rfl, rfl, rfl, rfl, rfl⟩ ?_
      intro m' h' tk' Gn n' v5 kv hm' F' N' hS hb
      rw [hw] at hm'
      exact hret m' h' tk' Gn n' _ v5 kv hm'.1 hm'.2.1 hm'.2.2.1 hm'.2.2.2.1 hm'.2.2.2.2.1 hm'.2.2.2.2.2.1 hm'.2.2.2.2.2.2.1 F' N' hS hb
    · k_steps
      refine count_V (c := 104) fun kH eH => ?_
      have hl1 : x.count 104 ≤ 4 := Nat.le_trans List.count_le_length hxl
      have hl2 : x.count 111 ≤ 4 := Nat.le_trans List.count_le_length hxl
      have hb1 : Builtin.Int.intBits pc ≤ 4 := intBits_le_iff.mpr (by omega)
      have hb2 : Builtin.Int.intBits pr ≤ 4 := intBits_le_iff.mpr (by omega)
      k_steps
      refine pow_V (by omega) (by have := Int.mul_le_mul (show (Builtin.Int.intBits pc : Int) ≤ 4 by omega) (show kH ≤ 4 by omega) (by omega) (by omega); omega) fun vA eA => ?_
      k_steps
      refine count_V (c := 111) fun kO eO => ?_
      k_steps
      refine pow_V (by omega) (by have := Int.mul_le_mul (show (Builtin.Int.intBits pr : Int) ≤ 4 by omega) (show kO ≤ 4 by omega) (by omega) (by omega); omega) fun vB eB => ?_
      k_steps
      have hA : vA = pc ^ (x.count 104) := by rw [eA, eH, Int.toNat_natCast]
      have hB : vB = pr ^ (x.count 111) := by rw [eB, eO, Int.toNat_natCast]
      refine mul_V (IntMulOk.of_le (m := 20) (n := 20) (by rw [hA]; exact pow_bits hp0 hp1 hl1) (by rw [hB]; exact pow_bits hr0 hr1 hl2) (by decide)) fun vM eM => ?_
      have hw : count + vM = count + wt kd pc pr x := by simp [wt, hchk, eM, hA, hB]
      k_steps
      rename News _ _ _ _ => N12
      refine tl w rest I pI cS x tx q n9 size pc pr (count + vM) coming u1 u2 u3 _ u5 vC hX2 haw hxl hsz (by omega) p loose mean mg mb dp un gd outer A₀ base h₀ L _ _ _ B (by k_asm) X N12 T hdp hun hbare11 ⟨rfl, rfl, rfl, rfl, rfl, rfl, rfl, rfl⟩ ?_
      intro m' h' tk' Gn n' v5 kv hm' F' N' hS hb
      rw [hw] at hm'
      exact hret m' h' tk' Gn n' _ v5 kv hm'.1 hm'.2.1 hm'.2.2.1 hm'.2.2.2.1 hm'.2.2.2.2.1 hm'.2.2.2.2.2.1 hm'.2.2.2.2.2.2.1 F' N' hS hb
end Mine
end
section
open PySem PySem.W PyProof.Rows PySem.Calls PySem.Spec
open Mine
local macro_rules | `(tactic| walk_at "loadName") => `(tactic| k_dflt (refine' ldX ?F ?v ?_ ?a ?b; (case F => k_asm); (case v => exact rfl); (case a => exact rfl); (case b => exact rfl); k_whole))
section
open PySem PySem.W PyProof.Rows PySem.Calls PySem.Spec
set_option Elab.async false
set_option maxRecDepth 100000
set_option maxHeartbeats 8000000
set_option pp.deepTerms false
set_option pp.maxSteps 400
namespace Mine
noncomputable def level : Nat → List (List Nat)
  | 0 => [[]]
  | i + 1 => (level i).flatMap (kids i)
noncomputable def Good (kd : List Nat) : Prop := ∀ i, i < 5 → ∀ x ∈ level i, Okw x ∧ x.length ≤ 4 ∧ ChkOk (txt kd x)
noncomputable def wsum (kd : List Nat) (p q : Int) (l : List (List Nat)) : Int := (l.map (wt kd p q)).sum
theorem range_start {prog : Program} {w : World} {A : Around} {E : Value → Shared → Prop} {h₀ : Heap} {r : Addr} {n : Nat} {b : Int} {t u v : Tok} {s : Shared} {R : Result → Shared → Prop} {x : Str} {px : Pos} {body : List Stmt} {env : Env} {m₀ : Str → Option Value} {news₀ : List (Addr × Obj)}
    (hh : A.handled = none) (hx : env.kindOf x = some .local) (hp : (env.scope.kind == .class || (env.scope.kind == .module && env.locals != env.globals)) = false)
    (hr : IsRange s.heap r 0 b 1 t u v) (hb : b = (n : Int)) (hn : n ≤ 1000) (F : Fr h₀ env.locals s.heap m₀) (N : News h₀ env.locals s.heap news₀) (hbare : AllBare s.gens)
    (J : Nat → (Str → Option Value) → List (Addr × Obj) → Prop) (hJ : J 0 m₀ news₀)
    (done : ∀ m news h tk Gn, J n m news → AllBare Gn → Fr h₀ env.locals h m → News h₀ env.locals h news → R (.ok .next) { s with heap := h, toks := tk, gens := Gn })
    (step : ∀ I i m news h tk Gn t, (∀ p ∈ news₀, p.1 < I) → i < n → J i m news → AllBare Gn → Fr h₀ env.locals h (fun y => if y = x then some (.int (i : Int) t) else m y) →
      News h₀ env.locals h ((I, itR ((i + 1 : Nat) : Int) ((n : Int) - ((i + 1 : Nat) : Int))) :: news) → (∀ p ∈ news, p.1 ≠ I) →
      wpAny (model prog w) A (execs body env) (fun f s' => match f with
        | .next | .cont => RNext h₀ env.locals I (itR ((i + 1 : Nat) : Int) ((n : Int) - ((i + 1 : Nat) : Int))) (J (i + 1)) s s'
        | .brk => R (.ok .next) s'
        | .ret v => R (.ok (.ret v)) s') NoE { s with heap := h, toks := tk, gens := Gn }) :
    wpAny (model prog w) A (pyIter (.ref r)) (fun it s₂ => codeAny (model prog w) A (.forLoop (.Name x px) it body [] env) R s₂) E s := by
  subst hb
  have e : Builtin.Range.rangeSize 0 (n : Int) 1 = (n : Int) := by rw [rangeSize_nat]; omega
  have hI : ∀ p ∈ news₀, p.1 < s.heap.objs.size := fun p hp => Heap.lt_size (N p hp).1
  refine wpAny_pyIter_range hr (small_one (by omega) (by omega) (by omega) (by omega)) ?_
  refine range_loop (I := s.heap.objs.size) (a := 0) (n := n) (s₀ := s) hh hx hp J done ?_ n _ ⟨0, by omega, m₀, news₀, _, _, _, rfl, hbare, F.push _, fun p hp => ?_, fun p hp => Nat.ne_of_lt (hI p hp), hJ⟩
  · intro i m news h tk Gn t hi hJ hb F N hne
    have e0 : ∀ z : Int, (0 : Int) + z = z := fun z => by omega
    rw [e0] at F N
    rw [e0]
    exact step _ i m news h tk Gn t hI hi hJ hb F N hne
  · rcases List.mem_cons.mp hp with rfl | hp
    · refine ⟨?_, Ne.symm (Nat.ne_of_lt F.ns.lt), next_is_new F⟩
      rw [e]
      have e2 : itR ((0 : Int) + ((0 : Nat) : Int)) ((n : Int) - ((0 : Nat) : Int)) = itR 0 n := by simp
      rw [e2]
      exact Heap.get?_push_size _ rfl
    · exact ⟨Heap.get?_push_of_some _ (N p hp).1, (N p hp).2⟩
local macro_rules | `(tactic| walk_at "call ref") => `(tactic| refine Hold.mk ?_)
local macro_rules | `(tactic| walk_at "exec For Name Call cons nil") => `(tactic| refine Hold.mk ?_)
local macro_rules | `(tactic| walk_at "exec For Name Call cons cons nil") => `(tactic| refine Hold.mk ?_)
local macro_rules | `(tactic| walk_at "exec For") => `(tactic| refine Hold.mk ?_)
local macro_rules | `(tactic| walk_at "pyIter ref") => `(tactic| refine Hold.mk ?_)
noncomputable abbrev Ok5 (m : Str → Option Value) (I D : Addr) (pc pr size words : Int) (u1 u2 u3 u4 : Tok) : Prop :=
  m (Str.ofString "line") = some (.ref I) ∧ m (Str.ofString "pieces") = some (.int pc u1) ∧ m (Str.ofString "pairs") = some (.int pr u2) ∧ m (Str.ofString "size") = some (.int size u3) ∧ m (Str.ofString "words") = some (.int words u4) ∧ m (Str.ofString "counts") = some (.ref D)
theorem level_len : ∀ i, i < 5 → (level i).length ≤ 60 := by decide +kernel
theorem kids_len (z : Int) (x : List Nat) : (kids z x).length ≤ 3 := by
  unfold kids kidsOf
  rw [List.length_map]
  exact List.length_filter_le _ _
theorem flat_len {f : List Nat → List (List Nat)} (hf : ∀ a, (f a).length ≤ 3) : ∀ l : List (List Nat), (l.flatMap f).length ≤ 3 * l.length
  | [] => by simp
  | a :: r => by
    rw [List.flatMap_cons, List.length_append, List.length_cons]
    have := flat_len hf r
    have := hf a
    omega
theorem allLt_all {d : Nat} : ∀ {l : List (Addr × Obj)}, AllLt d l → ∀ p ∈ l, p.1 < d
  | [], _, _, h => nomatch h
  | _ :: _, x, p, h => by
    rcases List.mem_cons.mp h with rfl | h
    · exact x.1
    · exact allLt_all x.2 p h
theorem level131 : ∀ (w : World) (rest : List (Addr × Obj)) (I pI sD cS D : Addr) (oS : Obj) (q vs : List Value) (ns : List Int) (n nS nD : Nat) (kd : List Nat) (t0 t1 t2 : Tok) (size : Nat) (pc pr : Int) (u1 u2 u3 u4 : Tok),
   LineAt w rest I pI → (∀ p ∈ rest, p.1 ≠ pI) → (cS, oS) ∈ rest → oS.data = .cell (some (.ref sD)) → (sD, sgL kd t0 t1 t2 nS) ∈ rest → (D, W.listOf vs.toArray nD) ∈ rest → IntsAre vs ns → ns.length ≤ 5 → size < 5 → Good kd → kd.length ≤ 4 → 0 ≤ pc → pc < 10 → 0 ≤ pr → pr < 10 → StrsAre q ((level size).map wS) →
   ∀ (p : Program) (loose : List Str) (mean : ExcName → Option Value) (mg mb : Str → Option Value) (dp un : Nat) (gd : Option (List Code)) (outer : List Env) (A₀ : Around) (base h₀ : Heap) (L : Addr) (m : Str → Option Value) (s : Shared) (QQ : Flow → Shared → Prop),
   Below A₀ base outer h₀ → Fr h₀ L s.heap m → (hd.heap_39 w.params).In h₀ → News h₀ L s.heap ((pI, W.listOf q.toArray n) :: rest) → Top p loose mean mg mb h₀ → 
   dp + 20 < recursionLimit → un + 8 * 20 < cLine → AllBare s.gens → Ok5 m I D pc pr size ((level size).length : Int) u1 u2 u3 u4 →
   (∀ m' h' tk' Gn n' q' D' vs' u4', Ok5 m' I D' pc pr size ((level (size + 1)).length : Int) u1 u2 u3 u4' → Fr h₀ L h' m' → News h₀ L h' ((D', W.listOf vs'.toArray 0) :: (pI, W.listOf q'.toArray n') :: rest) → (∀ p ∈ (pI, W.listOf q'.toArray n') :: rest, p.1 < D') → IntsAre vs' (ns ++ [wsum kd pc pr (level size)]) → StrsAre q' ((level (size + 1)).map wS) → AllBare Gn → QQ .next { s with heap := h', toks := tk', gens := Gn }) →
   wpAny (theM w) (ktrTop dp un gd (Str.ofString "_law_counts") sc131 L 131 (.ref 130) [(Str.ofString "signs", cS)] outer) (execs oBody (env131 L cS)) QQ NoE s := by
  have wd := word131
  dsimp only [theM, LineAt] at wd ⊢
  simp only [env131, sc131, wBody, oBody, b131, forBody, scopeAt, stmtAt, bodyAt, PySem.Challenge.pw_rs0143_01, List.getElem?_cons_zero, List.getElem?_cons_succ, Option.getD_some] at wd ⊢
  k_fill
  intro w rest I pI sD cS D oS q vs ns n nS nD kd t0 t1 t2 size pc pr u1 u2 u3 u4 hX haw mcS dcS msD mD hI hnl hs5 hG hkd hp0 hp1 hr0 hr1 hq p loose mean mg mb dp un gd outer A₀ base h₀ L m s QQ B F X N T hdp hun hbare ⟨m1, m2, m3, m4, m5, m6⟩ hret
  have hX2 := hX
  obtain ⟨S, dI, a1, a2, a3, a4, a5, a6, mI, mdI⟩ := hX
  rw [pin8 m1 m2 m3 m4 m5 m6 m6 m6] at F
  k_steps
  refine wpAny_For ?_
  k_steps
  rename IsRange _ _ _ _ _ _ _ _ => hR
  rename News _ _ _ _ => N9
  rename Fr _ _ _ _ => F9
  have hlen : (level size).length ≤ 60 := level_len size hs5
  refine range_start rfl rfl rfl hR rfl (by omega) F9 (fun p hp => N9 p (.tail _ hp)) hbare
    (fun j m news => ∃ q n vA vB, news = (pI, W.listOf q.toArray n) :: rest ∧ StrsAre q (((level size).drop j ++ ((level size).take j).flatMap (kids size)).map wS) ∧ (m (Str.ofString "line") = some (.ref I) ∧ m (Str.ofString "pieces") = some (.int pc u1) ∧ m (Str.ofString "pairs") = some (.int pr u2) ∧ m (Str.ofString "size") = some (.int size u3) ∧ m (Str.ofString "counts") = some (.ref D)) ∧ m (Str.ofString "count") = some (.int (wsum kd pc pr ((level size).take j)) vA) ∧ m (Str.ofString "coming") = some (.int ((((level size).take j).flatMap (kids size)).length : Int) vB)) ?_ ?_ ?_
  · exact ⟨q, n, _, _, rfl, by simpa using hq, ⟨rfl, rfl, rfl, rfl, rfl⟩, rfl, rfl⟩
  · rintro m' news' h5 tk5 Gn5 ⟨q5, n5, vA, vB, rfl, hq5, ⟨e1, e2, e3, e4, e6⟩, e7, e8⟩ hb5 F5 N5
    clear N9 F9
    rw [pin8 e1 e2 e3 e4 e6 e7 e8 e8] at F5
    have eL : ((level size).take (level size).length).flatMap (kids size) = level (size + 1) := by rw [List.take_length]; rfl
    rw [eL] at hq5 F5
    rw [List.take_length] at F5
    rw [List.drop_length, List.nil_append] at hq5
    k_steps
    rename IntsAre _ (_ ++ _) => hI9
    rename News h₀ L _ _ => N9
    rename Fr h₀ L _ _ => F9
    rename _ ∧ pI < _ ∧ AllLt _ rest => hlt
    refine hret _ _ _ Gn5 n5 q5 _ _ _ ⟨rfl, rfl, rfl, rfl, rfl, rfl⟩ F9 (fun p hp => N9 p ?_) (List.forall_mem_cons.mpr ⟨hlt.2.1, allLt_all hlt.2.2⟩) hI9 hq5 hb5
    simp only [List.mem_cons] at hp ⊢
    rcases hp with h | h | h <;> simp [h]
  · intro I2 j m news' h5 tk5 Gn5 tt hI2 hj hJ hb5 F5 N5 hne
    obtain ⟨q5, n5, vA, vB, rfl, hq5, ⟨e1, e2, e3, e4, e6⟩, e7, e8⟩ := hJ
    clear N9 F9
    obtain ⟨x, hx⟩ : ∃ x, x = (level size)[j] := ⟨_, rfl⟩
    have hxm : x ∈ level size := hx ▸ List.getElem_mem hj
    have eD : (level size).drop j = x :: (level size).drop (j + 1) := by rw [hx]; exact List.drop_eq_getElem_cons hj
    have eT : (level size).take (j + 1) = (level size).take j ++ [x] := by rw [hx]; exact (List.take_append_getElem hj).symm
    rw [eD, List.cons_append, List.map_cons] at hq5
    obtain ⟨tx, q6, rfl, hq6⟩ := hq5.cons_inv
    have hq6l : q6.length ≤ 800 := by
      rw [StrsAre.length hq6, List.length_map, List.length_append, List.length_drop]
      have k1 : (((level size).take j).flatMap (kids size)).length ≤ 3 * 60 := by
        refine Nat.le_trans (flat_len (f := kids size) (fun a => kids_len size a) _) ?_
        rw [List.length_take]
        omega
      omega
    obtain ⟨g1, g2, g3⟩ := hG size hs5 x hxm
    have hpI2 : pI ≠ I2 := Nat.ne_of_lt (hI2 (pI, _) (.head _))
    refine wd w ((I2, itR ((j + 1 : Nat) : Int) (((level size).length : Int) - ((j + 1 : Nat) : Int))) :: rest) I pI sD cS oS x tx q6 n5 nS kd t0 t1 t2 size pc pr _ _ u1 u2 u3 vA vB (.ref D) ⟨S, dI, a1, a2, a3, a4, a5, a6, .tail _ mI, .tail _ mdI⟩ (List.forall_mem_cons.mpr ⟨Ne.symm hpI2, haw⟩) (.tail _ mcS) dcS (.tail _ msD) g1 g2 (by omega) hkd g3 hp0 hp1 hr0 hr1 hq6l
      p loose mean mg mb dp un gd outer A₀ base h₀ L _ _ _ B F5 X (fun p hp => N5 p ?_) T hdp hun hb5 e1 e2 e3 e4 e7 e8 e6 ?_
    · simp only [List.mem_cons] at hp ⊢
      rcases hp with h | h | h <;> simp [h]
    · intro m6 h6 tk6 Gn6 n6 v4 v5 kv f1 f2 f3 f4 f5 f6 f7 F6 N6 hkv hb6
      refine ⟨m6, (pI, W.listOf (q6 ++ kv).toArray n6) :: rest, h6, tk6, Gn6, rfl, hb6, F6, fun p hp => N6 p ?_, ?_, q6 ++ kv, n6, v4, v5, rfl, ?_, ⟨f1, f2, f3, f4, f7⟩, ?_, ?_⟩
      · simp only [List.mem_cons] at hp ⊢
        rcases hp with h | h | h <;> simp [h]
      · exact List.forall_mem_cons.mpr ⟨hpI2, fun p hp => hne p (.tail _ hp)⟩
      · rw [eT, List.flatMap_append, List.flatMap_singleton, ← List.append_assoc, List.map_append]
        exact hq6.append' hkv
      · have e : wsum kd pc pr ((level size).take j ++ [x]) = wsum kd pc pr ((level size).take j) + wt kd pc pr x := by simp [wsum]
        rw [f5, eT, e]
      · rw [f6, eT, List.flatMap_append, List.flatMap_singleton, List.length_append, Int.natCast_add]
end Mine
end
section
local macro_rules | `(tactic| walk_at "none 0") => `(tactic| skip)
open PySem PySem.W PyProof.Rows PySem.Calls PySem.Spec
set_option Elab.async false
set_option maxRecDepth 100000
set_option maxHeartbeats 8000000
set_option pp.deepTerms false
set_option pp.maxSteps 400
namespace Mine
noncomputable def cnts (kd : List Nat) (p q : Int) (i : Nat) : List Int := (List.range i).map fun k => wsum kd p q (level k)
local macro_rules | `(tactic| walk_at "call ref") => `(tactic| refine Hold.mk ?_)
local macro_rules | `(tactic| walk_at "exec For Name Call cons cons nil") => `(tactic| refine Hold.mk ?_)
local macro_rules | `(tactic| walk_at "exec For Name Call cons nil") => `(tactic| refine Hold.mk ?_)
local macro_rules | `(tactic| walk_at "exec For") => `(tactic| refine Hold.mk ?_)
local macro_rules | `(tactic| walk_at "pyIter ref") => `(tactic| refine Hold.mk ?_)
theorem c131 : ∀ (w : World) (rest : List (Addr × Obj)) (I pI sD : Addr) (kd : List Nat) (t0 t1 t2 : Tok) (n nS : Nat) (pc pr : Int) (tp tq : Tok),
   LineAt w rest I pI → (∀ p ∈ rest, p.1 ≠ pI) → (sD, sgL kd t0 t1 t2 nS) ∈ rest → Good kd → kd.length ≤ 4 → 0 ≤ pc → pc < 10 → 0 ≤ pr → pr < 10 →
   Ctr w ((pI, W.listOf #[] n) :: rest) 40 fun A s Q E _ h₀ L m => AllBare s.gens →
   (∀ D vs n' h' tk' Gn, Fr h₀ L h' m → News h₀ L h' ((D, W.listOf vs.toArray 0) :: (pI, W.listOf #[] n') :: rest) → (∀ p ∈ (pI, W.listOf #[] n') :: rest, p.1 < D) → IntsAre vs (cnts kd pc pr 5) → AllBare Gn → Q (.ref D) { s with heap := h', toks := tk', gens := Gn }) →
      wpAny (theM w) A (call (.ref 131) [.ref I, .ref sD, .int pc tp, .int pr tq]) Q E s := by
  have lv := level131
  dsimp only [Ctr, theM, LineAt] at lv ⊢
  simp only [env131, sc131, wBody, oBody, b131, forBody, scopeAt, stmtAt, bodyAt, PySem.Challenge.pw_rs0143_01, List.getElem?_cons_zero, List.getElem?_cons_succ, Option.getD_some] at lv
  k_fill
  intro w rest I pI sD kd t0 t1 t2 n nS pc pr tp tq hX haw msD hG hkd hp0 hp1 hr0 hr1 p loose mean mg mb dp un gd cn ccs aa ccd cl outer A₀ base' h₀ L m₀ s Q E B F X N T hk hdp hun hbare hret
  have hX2 := hX
  obtain ⟨S, dI, a1, a2, a3, a4, a5, a6, mI, mdI⟩ := hX
  refine wpAny_call ?_
  k_dflt (refine' code_defC ?k1 ?k2 ?k3 ?k4 ?k5 ?kA ?kF ?kK ?k6 ?k7 ?k8 ?k9 ?kB ?kD ?_ ?c2 ?c3 ?c4; (case kA => exact rfl); (case kF => exact rfl); (case kK => assumption); (case k1 => k_asm); (case k2 => k_asm); (case k3 => k_asm); (case k4 => k_asm); (case k5 => k_asm); (case k6 => k_is); (case k7 => k_is); (case k8 => ktr_room); (case k9 => exact BindsTo.of_eq rfl); (case kB => exact rfl); (case kD => decide +kernel); (case c2 => exact rfl); (case c3 => exact rfl); (case c4 => exact rfl); k_whole; intro g' L' h' tk' cells' FG' F' N' Y' B' X' T' l1; (have hTl := tailOf1 l1); (try k_lt l1); k_cells Y'; (try simp only [List.cons_append, List.nil_append] at N'); (try dsimp only); (try k_lift B'); (try k_fold))
  k_steps
  rename News _ _ _ _ => N9
  have hcI : pI ≠ L' + 1 := Nat.ne_of_lt (Nat.lt_succ_of_lt l1.1)
  rename_i oS dS
  have hX3 : ∃ S dI a1 a2 a3 a4 a5 a6, (I, instObj 52 dI) ∈ (L' + 1, oS) :: rest ∧ (dI, lexD w a1 a2 a3 a4 a5 a6 (.ref S) (.ref pI) [] 4) ∈ (L' + 1, oS) :: rest := ⟨S, dI, a1, a2, a3, a4, a5, a6, .tail _ mI, .tail _ mdI⟩
  have haw3 : ∀ p ∈ (L' + 1, oS) :: rest, p.1 ≠ pI := List.forall_mem_cons.mpr ⟨Ne.symm hcI, haw⟩
  have N10 := news_swap N9
  clear N9
  refine' c49 w ((L' + 1, oS) :: rest) I pI _ [] n hX3 haw3 (by simp) _ _ _ _ _ _ _ _ _ _ _ _ _ _ _ _ _ _ _ _ _ _ ?b1 ?b2 ?b3 N10 ?b5 ?b6 ?b7 ?b8 ?_
  case b1 => k_asm
  case b2 => k_asm
  case b3 => k_asm
  case b5 => k_asm
  case b6 => exact rfl
  case b7 => ktr_room
  case b8 => ktr_units
  intro h11 tk11 F11 N11
  clear N10
  (try dsimp only)
  (try k_fold)
  k_steps
  refine wpAny_For ?_
  k_steps
  rename IsRange _ _ _ _ _ _ _ _ => hR
  rename News _ _ _ _ => N12
  rename Fr _ _ _ _ => F12
  rename pI < _ ∧ L' + 1 < _ ∧ AllLt _ rest => x1
  refine range_start (n := 5) rfl rfl rfl hR rfl (by decide) F12 (fun p hp => N12 p (.tail _ hp)) hbare
    (fun i m news => ∃ D vs q nq vD v4, news = (D, W.listOf vs.toArray vD) :: (pI, W.listOf q.toArray nq) :: (L' + 1, oS) :: rest ∧ (∀ p ∈ (pI, W.listOf q.toArray nq) :: (L' + 1, oS) :: rest, p.1 < D) ∧ IntsAre vs (cnts kd pc pr i) ∧ StrsAre q ((level i).map wS) ∧ (vD = 0 ∧
      m (Str.ofString "line") = some (.ref I) ∧ m (Str.ofString "pieces") = some (.int pc tp) ∧ m (Str.ofString "pairs") = some (.int pr tq) ∧ m (Str.ofString "words") = some (.int ((level i).length : Int) v4) ∧ m (Str.ofString "counts") = some (.ref D))) ?_ ?_ ?_
  · exact ⟨_, [], _, n + 1, 0, _, rfl, List.forall_mem_cons.mpr ⟨x1.1, List.forall_mem_cons.mpr ⟨x1.2.1, allLt_all x1.2.2⟩⟩, .nil, .cons _ _ .nil, rfl, rfl, rfl, rfl, rfl, rfl⟩
  · rintro m' news' h7 tk7 Gn7 ⟨D, vs, q, nq, vD, v4, rfl, hlo, hI, hq, rfl, e1, e2, e3, e4, e5⟩ hb7 F7 N7
    clear N12 F12
    have hq0 : q = [] := by cases hq; rfl
    subst hq0
    rw [pin4 e1 e2 e3 e5] at F7
    dsimp only
    k_steps
    rename News h₀ L _ _ => N8
    refine hret D vs nq _ _ Gn7 (by k_asm) (fun p hp => N8 p ?_) (fun p hp => hlo p ?_) hI hb7
    · simp only [List.mem_cons] at hp ⊢
      rcases hp with h | h | h <;> simp [h]
    · simp only [List.mem_cons] at hp ⊢
      rcases hp with h | h <;> simp [h]
  · rintro I2 i m news' h7 tk7 Gn7 tt hI2 hi ⟨D, vs, q, nq, vD, v4, rfl, hlo, hI, hq, rfl, e1, e2, e3, e4, e5⟩ hb7 F7 N7 hne
    clear N12 F12
    have hDI2 : D ≠ I2 := hne (D, _) (.head _)
    have hpI2 : pI ≠ I2 := hne (pI, _) (.tail _ (.head _))
    refine lv w ((I2, itR ((i + 1 : Nat) : Int) ((5 : Nat) - ((i + 1 : Nat) : Int))) :: (D, W.listOf vs.toArray 0) :: (L' + 1, oS) :: rest) I pI sD (L' + 1) D oS q vs (cnts kd pc pr i) nq nS 0 kd t0 t1 t2 i pc pr tp tq tt v4 ⟨S, dI, a1, a2, a3, a4, a5, a6, .tail _ (.tail _ (.tail _ mI)), .tail _ (.tail _ (.tail _ mdI))⟩ ?_ (.tail _ (.tail _ (.head _))) dS (.tail _ (.tail _ (.tail _ msD))) (.tail _ (.head _)) hI ?_ hi hG hkd hp0 hp1 hr0 hr1 hq
      p loose mean mg mb _ _ _ _ _ _ _ _ _ _ _ B' F7 X' (fun p hp => N7 p ?_) T' ?_ ?_ hb7 ⟨(if_neg (by decide)).trans e1, (if_neg (by decide)).trans e2, (if_neg (by decide)).trans e3, if_pos rfl, (if_neg (by decide)).trans e4, (if_neg (by decide)).trans e5⟩ ?_
    · exact List.forall_mem_cons.mpr ⟨Ne.symm hpI2, List.forall_mem_cons.mpr ⟨Ne.symm (Nat.ne_of_lt (hlo (pI, _) (.head _))), haw3⟩⟩
    · unfold cnts
      rw [List.length_map, List.length_range]
      omega
    · simp only [List.mem_cons] at hp ⊢
      rcases hp with h | h | h | h | h <;> simp [h]
    · ktr_room
    · ktr_units
    · intro m8 h8 tk8 Gn8 n8 q8 D8 vs8 v8 hm8 F8 N8 hlo8 hI8 hq8 hb8
      obtain ⟨f1, f2, f3, f4, f5, f6⟩ := hm8
      have hD8I2 : D8 ≠ I2 := Nat.ne_of_gt (hlo8 (I2, _) (.tail _ (.head _)))
      refine ⟨m8, (D8, W.listOf vs8.toArray 0) :: (pI, W.listOf q8.toArray n8) :: (L' + 1, oS) :: rest, h8, tk8, Gn8, rfl, hb8, F8, fun p hp => N8 p ?_, ?_, D8, vs8, q8, n8, 0, v8, rfl, fun p hp => hlo8 p ?_, ?_, hq8, rfl, f1, f2, f3, f5, f6⟩
      · simp only [List.mem_cons] at hp ⊢
        rcases hp with h | h | h | h | h <;> simp [h]
      · exact List.forall_mem_cons.mpr ⟨hD8I2, List.forall_mem_cons.mpr ⟨hpI2, fun p hp => hne p (.tail _ (.tail _ hp))⟩⟩
      · simp only [List.mem_cons] at hp ⊢
        rcases hp with h | h | h <;> simp [h]
      · have e : cnts kd pc pr (i + 1) = cnts kd pc pr i ++ [wsum kd pc pr (level i)] := by
          unfold cnts
          rw [List.range_succ, List.map_append]
          rfl
        rw [e]
        exact hI8
end Mine
end
section
open PySem PySem.W PyProof.Rows PySem.Calls PySem.Spec
set_option Elab.async false
set_option maxRecDepth 100000
set_option maxHeartbeats 8000000
set_option pp.deepTerms false
set_option pp.maxSteps 400
namespace Mine
noncomputable abbrev lB : List Stmt := bodyAt PySem.Challenge.pw_rs0143_01 18
noncomputable abbrev scL : Scope := scopeAt PySem.Challenge.pw_rs0143_01 18
noncomputable abbrev clL (cL cP cS : Addr) : List (Str × Addr) := [(Str.ofString "line", cL), (Str.ofString "pieces", cP), (Str.ofString "script", cS)]
noncomputable abbrev envL (L fa : Addr) (ccd : Value) (cL cP cS : Addr) : Env := envX (Str.ofString "law") scL L fa ccd (clL cL cP cS)
noncomputable abbrev topL (dp un : Nat) (gd : Option (List Code)) (L fa : Addr) (ccd : Value) (cL cP cS : Addr) (outer : List Env) : Around := ktrTop dp un gd (Str.ofString "law") scL L fa ccd (clL cL cP cS) outer
local macro_rules | `(tactic| walk_at "call ref") => `(tactic| refine Hold.mk ?_)
local macro_rules | `(tactic| walk_at "eval ListComp") => `(tactic| refine Hold.mk ?_)
local macro_rules | `(tactic| walk_at "binaryOp Mult int int") => `(tactic| refine Hold.mk ?_)
theorem t5a : ∀ (w : World) (rest : List (Addr × Obj)) (p1 p2 : Array Value) (D : Addr) (vs : List Value) (ns : List Int) (q wd ab s₀ : Int) (u1 u2 u3 u4 : Tok) (cL cP cS fa : Addr) (ccd : Value),
   T72 p1 rest → T79 p2 rest → (∀ p ∈ rest, p.1 ≠ 72) → (∀ p ∈ rest, p.1 ≠ 79) → (D, W.listOf vs.toArray 0) ∈ rest → IntsAre vs ns → ns.length = 5 → 0 < q → q < 10 → 0 < wd → wd ≤ 100 → (∀ d ∈ ns, 0 ≤ d ∧ d < 2 ^ wd.toNat) →
   0 ≤ val wd.toNat ns.reverse → ab - s₀ = (2 * q) * val wd.toNat ns.reverse + 1 → Builtin.Int.intBits (ab - s₀) ≤ 500 →
   ∀ (p : Program) (loose : List Str) (mean : ExcName → Option Value) (mg mb : Str → Option Value) (dp un : Nat) (gd : Option (List Code)) (outer : List Env) (A₀ : Around) (base h₀ : Heap) (L : Addr) (m : Str → Option Value) (s : Shared) (QQ : Flow → Shared → Prop) (EE : Value → Shared → Prop),
   Below A₀ base outer h₀ → Fr h₀ L s.heap m → (hd.heap_39 w.params).In h₀ → News h₀ L s.heap ((72, tabObj p1) :: (79, tabObj p2) :: rest) → Top p loose mean mg mb h₀ → 
   dp + 400 < recursionLimit → un + 8 * 400 < cLine → CodeHd base 76 72 → CodeHd base 83 79 →
   m (Str.ofString "pairs") = some (.int q u1) → m (Str.ofString "width") = some (.int wd u2) → m (Str.ofString "above") = some (.int ab u3) → m (Str.ofString "root") = some (.int s₀ u4) → m (Str.ofString "counts") = some (.ref D) →
   (∀ m' h' tk' p1' p2' extra, Fr h₀ L h' m' → News h₀ L h' ((72, tabObj p1') :: (79, tabObj p2') :: (extra ++ rest)) → QQ (.ret (.bool true)) { s with heap := h', toks := tk' }) →
   wpAny (theM w) (topL dp un gd L fa ccd cL cP cS outer) (execs (lB.drop 11) (envL L fa ccd cL cP cS)) QQ EE s := by
  dsimp only [theM, topL]
  simp only [envL, scL, lB, scopeAt, stmtAt, bodyAt, PySem.Challenge.pw_rs0143_01, List.getElem?_cons_zero, List.getElem?_cons_succ, Option.getD_some, List.drop_succ_cons, List.drop_zero]
  k_fill
  intro w rest p1 p2 D vs ns q wd ab s₀ u1 u2 u3 u4 cL cP cS fa ccd hT1 hT2 hA1 hA2 mD hI hn5 hq0 hq1 hw0 hw1 hB hv0 hab hbits p loose mean mg mb dp un gd outer A₀ base h₀ L m s QQ EE B F X N T hdp hun hC1 hC2 m1 m2 m3 m4 m5 hret
  rw [pin8 m1 m2 m3 m4 m5 m5 m5 m5] at F
  k_steps
  · exfalso; omega
  have hqB : Builtin.Int.intBits q ≤ 4 := intBits_le_iff.mpr (by omega)
  refine mul_V (IntMulOk.of_le (m := 20) (n := 20) (by decide) (Nat.le_trans hqB (by decide)) (by decide)) fun q2 hq2 => ?_
  have hq2' : q2 = 2 * q := hq2
  have hbB : 2 ≤ Builtin.Int.intBits q2 := by
    by_cases h : 2 ≤ Builtin.Int.intBits q2
    · exact h
    · exfalso
      have := intBits_le_iff.mp (show Builtin.Int.intBits q2 ≤ 1 by omega)
      omega
  have hbB2 : Builtin.Int.intBits q2 ≤ 5 := intBits_le_iff.mpr (by omega)
  have hpos : 0 < ab - s₀ := by
    have := Int.mul_nonneg (show 0 ≤ 2 * q by omega) hv0
    omega
  have hdiv : (ab - s₀) / q2 = val wd.toNat ns.reverse ∧ (ab - s₀) % q2 = 1 := by
    rw [hab, hq2']
    have h1 : (2 * q * val wd.toNat ns.reverse + 1) / (2 * q) = val wd.toNat ns.reverse := by
      rw [Int.add_comm, Int.add_mul_ediv_left _ _ (by omega), Int.ediv_eq_zero_of_lt (by decide) (by omega)]
      omega
    refine ⟨h1, ?_⟩
    have h2 := Int.emod_add_mul_ediv (2 * q * val wd.toNat ns.reverse + 1) (2 * q)
    rw [h1] at h2
    omega
  k_steps
  rename News _ _ _ _ => N6
  refine' c98 w rest p1 p2 (ab - s₀) q2 _ _ hT1 hT2 hA1 hA2 hpos (by omega) (by omega) (by omega) (by omega) _ _ _ _ _ _ _ _ _ _ _ _ _ _ _ _ _ _ _ _ _ _ ?b1 ?b2 ?b3 ?b4 ?b5 ?b6 ?b7 ?b8 ?b9 ?b10 ?_
  case b4 => exact N6
  case b1 => k_asm
  case b2 => k_asm
  case b3 => k_asm
  case b5 => k_asm
  case b6 => exact rfl
  case b7 => ktr_room
  case b8 => ktr_units
  case b9 => assumption
  case b10 => assumption
  intro D1 t1 t2 p1' p2' extra h9 tk9 F9 N9 k1 k2 k3 k4 k5 k6
  rw [hdiv.1, hdiv.2] at N9
  clear N6
  (try dsimp only)
  (try k_fold)
  k_steps
  rename News _ _ _ _ => N10
  rename IntsAre _ (List.reverse _) => hIr
  rename D1 < _ ∧ _ => hlt
  rename_i Dl wl hl Fl hCl
  obtain ⟨R84, hR84⟩ : ∃ R84, R84 = (Dl, W.listOf wl.toArray 0) :: (D1, tupO [Value.int (val wd.toNat ns.reverse) t1, Value.int 1 t2]) :: (72, tabObj p1') :: (extra ++ rest) := ⟨_, rfl⟩
  have N11 := cb_drop (news := (79, tabObj p2') :: R84) N10 (by
    intro p hp
    rw [hR84] at hp
    simp only [List.mem_cons] at hp ⊢
    rcases hp with h | h | h | h | h <;> simp [h])
  have hR79 : ∀ p ∈ R84, p.1 ≠ 79 := by
    rw [hR84]
    exact List.forall_mem_cons.mpr ⟨Nat.ne_of_gt hlt.2.2.1, List.forall_mem_cons.mpr ⟨Nat.ne_of_gt (k6 (79, _) (.tail _ (.head _))), List.forall_mem_cons.mpr ⟨(show (72 : Nat) ≠ 79 by decide), k4⟩⟩⟩
  have hT2' : TabOk 91 4 (Str.ofString "_digits2int.<locals>.inner") p2' R84 := TabOk.mono k2 fun p hp => by
    rw [hR84]
    exact .tail _ (.tail _ (.tail _ hp))
  have mD' := (show _ ∈ R84 by rw [hR84]; exact .head _)
  clear N10
  refine' c84 w R84 p2' _ 0 _ ns.reverse wd _ hT2' hR79 mD' hIr (by rw [List.length_reverse]; omega) (by rw [List.length_reverse]; omega) (by omega) (by omega) (fun d hd => hB d (List.mem_reverse.mp hd)) _ _ _ _ _ _ _ _ _ _ _ _ _ _ _ _ _ _ _ _ _ _ ?b1 ?b2 ?b3 ?b4 ?b5 ?b6 ?b7 ?b8 ?b9 ?_
  case b4 => exact N11
  case b1 => k_asm
  case b2 => k_asm
  case b3 => k_asm
  case b5 => k_asm
  case b6 => exact rfl
  case b7 => ktr_room
  case b8 => ktr_units
  case b9 => assumption
  intro t18 p2'' ex2 h18 tk18 F18 N18 hT2'' hA2'' hex2
  clear N11
  (try dsimp only)
  (try k_fold)
  rw [hR84] at N18
  have mD1 : (D1, tupO [Value.int (val wd.toNat ns.reverse) t1, Value.int 1 t2]) ∈ ex2 ++ R84 := by rw [hR84]; exact List.mem_append_right _ (.tail _ (.head _))
  have hlast : ∀ p ∈ (72, tabObj p1') :: (79, tabObj p2'') :: (extra ++ rest), p ∈ (79, tabObj p2'') :: (ex2 ++ R84) := fun p hp => by
    rw [hR84]
    simp only [List.mem_cons, List.mem_append] at hp ⊢
    rcases hp with h | h | h | h <;> simp [h]
  rw [← hR84] at N18
  clear hR84
  generalize ex2 ++ R84 = R9 at *
  k_steps
  rename News _ _ _ _ => N12
  exact hret _ _ _ p1' p2'' extra (by k_asm) (fun p hp => N12 p (.tail _ (hlast p hp)))
end Mine
end
section
open PySem PySem.W PyProof.Rows PySem.Calls PySem.Spec
set_option Elab.async false
set_option maxRecDepth 100000
set_option maxHeartbeats 8000000
set_option pp.deepTerms false
set_option pp.maxSteps 1500
namespace Mine
/-- an exception object that came from nowhere: no context -/
noncomputable def Bare2 (h : Heap) (e : Addr) : Prop := ∃ oe vs, h.get? e = some oe ∧ oe.data = .fields vs ∧ vs[2]? = some .none
section
variable {prog : Program} {w : World} {A : Around} {E : Value → Shared → Prop} {s : Shared}
theorem unchain_V {a e : Addr} {Q : Value → Shared → Prop} (hb : Bare2 s.heap e) (h : Q .none s) :
    wpAny (model prog w) A (runValue (.builtin "proto.unchain" ⟨[.ref a, .ref e, .ref e, .bool false], []⟩)) Q E s := by
  obtain ⟨oe, vs, he, hd, h2⟩ := hb
  refine runValue_entry (b := Builtin.«proto.unchain») (entryFor_of_tree (by kernel_rfl)) ?_
  show wpAny _ _ (field (.ref e) 2 >>= _) _ _ s
  refine wpAny_bind (wpAny_field he hd h2 ?_)
  exact wpAny_pure ⟨_, rfl, h⟩
theorem range_end_M {it e : Addr} {x left step : Int} {Q : Option Value → Shared → Prop} (hh : A.handled = some (.ref e)) (hb : Bare2 s.heap e) (hit : IsRangeIter s.heap it x left step) (hleft : left ≤ 0)
    (hQ : ∀ h', (∀ b o, s.heap.get? b = some o → h'.get? b = some o) → Q none { s with heap := h' }) : wpAny (model prog w) A (pyNext (.ref it)) Q E s := by
  have hT : s.TypeIs (.ref it) "range_iterator" := ⟨_, hit, rfl⟩
  unfold pyNext
  refine wpAny_bind (wpAny_attempt (wpAny_callSpecial?_slot (name := Str.ofString "__next__") hT F.slot_range_iterator_next
    (wpAny_call_entry F.slot_range_iterator_next hT F.entry_range_iterator_next ?_ (F.args_range_iterator_next_1 _))))
  show wpAny _ _ (field (.ref it) 0 >>= _) _ _ s
  refine wpAny_bind (wpAny_field hit rfl (x := rawInt x) rfl ?_)
  show wpAny _ _ (field (.ref it) 1 >>= _) _ _ s
  refine wpAny_bind (wpAny_field hit rfl (x := rawInt left) rfl ?_)
  show wpAny _ _ (field (.ref it) 2 >>= _) _ _ s
  refine wpAny_bind (wpAny_field hit rfl (x := rawInt step) rfl ?_)
  show wpAny _ _ (if left ≤ 0 then _ else _) _ _ s
  rw [if_pos hleft]
  refine wpAny_bind (wpAny_rule ?_)
  refine wpAny_bind ?_
  show wpAny _ _ (newExc (.type "StopIteration") [] >>= _) _ _ _
  refine wpAny_bind ?_
  simp only [newExc, newTuple]
  refine wpAny_bind (wpAny_newObj_type ?_ (by size_fits))
  refine wpAny_bind (m := firstArgMember _ _) (wpAny_of_eq (a := Value.none) (by first | rfl | (simp only [firstArgMember]; rfl)) ?_)
  refine wpAny_newObj_type ?_ (by size_fits)
  simp only [raiseNew]
  refine wpAny_bind (wpAny_handled ?_)
  rw [show A.in1.handled = some (.ref e) from hh]
  have hb' := hb
  obtain ⟨oe, vs, he, hd, h2⟩ := hb
  have hlt : e < s.heap.objs.size := Heap.lt_size he
  obtain ⟨h1, hh1⟩ : ∃ h1, h1 = s.heap.push { cls := Value.type "tuple", data := Data.seq #[] } := ⟨_, rfl⟩
  have k1 : ∀ b o, s.heap.get? b = some o → h1.get? b = some o := fun b o q => hh1 ▸ Heap.get?_push_of_some _ q
  have hlt1 : e < h1.objs.size := Heap.lt_size (k1 _ _ he)
  dsimp only
  rw [← hh1]
  have hne : (Value.ref e != Value.ref h1.objs.size) = true := by
    simp only [bne_iff_ne, ne_eq, Value.ref.injEq]
    exact Nat.ne_of_lt hlt1
  rw [if_pos hne]
  refine wpAny_bind (wpAny_holding (unchain_V ⟨oe, vs, Heap.get?_push_of_some _ (k1 _ _ he), hd, h2⟩ ?_))
  refine wpAny_bind ?_
  simp only [updateField]
  refine wpAny_bind (wpAny_load (Heap.get?_push_size h1 rfl) ?_)
  dsimp only
  rw [if_pos (by rw [Array.size_append]; exact Nat.lt_of_lt_of_le (by decide : 2 < 6) (Nat.le_add_right _ _))]
  refine wpAny_update (Heap.get?_push_size h1 rfl) ?_
  refine wpAny_throw ?_
  have k2 : ∀ b o, s.heap.get? b = some o → b ≠ h1.objs.size := fun b o q => Nat.ne_of_lt (Heap.lt_size (k1 _ _ q))
  refine wpAny_bind (wpAny_isInstance (T := "StopIteration") (b := true) ⟨_, Heap.get?_update_self _ (Heap.get?_push_size h1 rfl) (Obj.isFreed_of_fields (Obj.data_mapFields rfl _)), ?_⟩ isSubtype_stop ?_)
  · exact Obj.cls_mapFields _ _
  · exact wpAny_pure (hQ _ fun b o q => (Heap.get?_update_other _ _ (Ne.symm (k2 b o q))).trans (Heap.get?_push_of_some _ (k1 b o q)))
/-- a range walked while an exception is handled -/
theorem walks_M {e I : Addr} {n : Nat} (hh : A.handled = some (.ref e)) (hne : e ≠ I) :
    Walks prog w A I [I, e] [I] n (fun i v => ∃ t, v = .int (0 + (i : Int) * 1) t) (fun i h => IsRangeIter h I (0 + (i : Nat) * 1) ((n : Int) - (i : Nat)) 1 ∧ Bare2 h e) where
  sub := fun b hb => by simp at hb; simp [hb]
  frame := fun i h h' st hk => ⟨hk I (by simp) _ st.1, let ⟨oe, vs, he, r⟩ := st.2; ⟨oe, vs, hk e (by simp) _ he, r⟩⟩
  item := fun i s Q E hi st hQ => by
    refine wpAny_pyNext_range_item st.1 (by omega) fun h' hit' hs' => ?_
    have hk : ∀ b o, b ∉ [I] → s.heap.get? b = some o → h'.get? b = some o := fun b o hb q => hs'.extBut b o (fun h => hb (by simp [h])) q
    refine hQ _ h' _ ⟨_, rfl⟩ ⟨?_, ?_⟩ hk
    · have e1 : 0 + ((i + 1 : Nat) : Int) * 1 = 0 + (i : Int) * 1 + 1 := by omega
      have e2 : (n : Int) - ((i + 1 : Nat) : Int) = (n : Int) - (i : Int) - 1 := by omega
      rw [e1, e2]
      exact hit'
    · obtain ⟨oe, vs, he, r⟩ := st.2
      exact ⟨oe, vs, hk e _ (fun h => hne (List.mem_singleton.mp h)) he, r⟩
  done := fun s Q E st hQ => range_end_M hh st.2 st.1 (by omega) fun h' hk => hQ h' s.toks fun b o _ q => hk b o q
  self := fun _ _ _ _ st hQ => wpAny_pyIter_rangeiter st.1 hQ
end
end Mine
end
section
open PySem PySem.W PyProof.Rows PySem.Calls PySem.Spec
set_option Elab.async false
set_option maxRecDepth 100000
set_option maxHeartbeats 8000000
set_option pp.deepTerms false
set_option pp.maxSteps 1500
namespace Mine
/-- all but ex stay, those of fs up to their slots -/
noncomputable def Slot (fs ex : List Addr) (h h' : Heap) : Prop := ∀ b o, h.get? b = some o → b ∉ ex → (∃ sl, h'.get? b = some { o with slots := sl }) ∧ (b ∉ fs → h'.get? b = some o)
theorem Slot.trans {f1 f2 x1 x2 : List Addr} {h1 h2 h3 : Heap} (a : Slot f1 x1 h1 h2) (b : Slot f2 x2 h2 h3) (hx : ∀ b ∈ x2, b ∈ x1 ∨ h1.get? b = none) : Slot (f1 ++ f2) x1 h1 h3 := by
  intro c o hc hn
  obtain ⟨⟨sl, e1⟩, e2⟩ := a c o hc hn
  have hn2 : c ∉ x2 := fun hm => by
    rcases hx c hm with h | h
    · exact hn h
    · rw [hc] at h; cases h
  refine ⟨?_, fun hf => ?_⟩
  · obtain ⟨⟨sl2, e3⟩, _⟩ := b c _ e1 hn2
    exact ⟨sl2, e3⟩
  · have e4 := e2 fun h => hf (List.mem_append_left _ h)
    exact (b c o e4 hn2).2 fun h => hf (List.mem_append_right _ h)
noncomputable def Fl (e T : Addr) (cls x3 : Value) (h : Heap) : Prop := ∃ oe vs oT ts, h.get? e = some oe ∧ oe.cls = cls ∧ oe.data = .fields vs ∧ vs[1]? = some (.ref T) ∧ vs[2]? = some .none ∧ h.get? T = some oT ∧ oT.data = .fields ts ∧ ts[3]? = some x3 ∧ T ≠ e
section
variable {M : Model} {A : Around} {E : Value → Shared → Prop} {s : Shared}
theorem entry_X {base : Heap} {env : Env} {outer : List Env} {L e : Addr} {oe : Obj} {vs : Array Value} {head : Value} {hadNext : Bool} {Q : Unit → Shared → Prop}
    (hfr : A.frames = some (env :: outer)) (hl : s.heap.FunFrames base (env :: outer)) (hf : env.frame = some L) (he : s.heap.get? e = some oe) (hd : oe.data = .fields vs) (hsz : 1 < vs.size)
    (h : ∀ h' T oe' oT ts, s.heap.get? T = none → h'.get? e = some oe' → oe'.cls = oe.cls → oe'.data = .fields (vs.setIfInBounds 1 (.ref T)) → h'.get? T = some oT → oT.data = .fields ts → ts[3]? = some (rawInt L) →
      Slot ((env :: outer).filterMap (·.frame)) [e] s.heap h' → Q () { s with heap := h' }) :
    wpAny M A (do let a ← frameOf env; let pl ← entryPlaceOf L hadNext; let b ← EntryCells.newEntry head a .none (rawInt L) .none pl; setField (.ref e) 1 b) Q E s := by
  have hene : e ∉ (env :: outer).filterMap (·.frame) := fun hm => by
    obtain ⟨_, o, ho, hnf⟩ := hl.mem hm
    rw [he] at ho
    cases ho
    exact hnf vs hd
  refine wpAny_bind (wpAny_frameOf_fun hfr hl hf fun h₁ hs₁ => wpAny_bind (wpAny_entryPlaceOf fun pl hpl => ?_))
  unfold EntryCells.newEntry newFields
  refine wpAny_bind (wpAny_newObj_type ?_ (hpl.sizeOk5 _ _ _ _ _))
  obtain ⟨ob, hob⟩ : ∃ ob : Obj, ob = { cls := .type "traceback", dict := none, data := .fields ([head, .ref L, .none, rawInt L, .none] ++ (if pl.isEmpty then List.replicate 6 Value.none else pl)).toArray } := ⟨_, rfl⟩
  have he₁ : h₁.get? e = some oe := (hs₁.2.1 e hene).trans he
  have hnew : s.heap.get? h₁.objs.size = none := by
    cases q : s.heap.get? h₁.objs.size with
    | none => rfl
    | some o =>
      have := Heap.lt_size q
      rw [hs₁.1] at this
      exact absurd this (Nat.lt_irrefl _)
  have hTe : h₁.objs.size ≠ e := Nat.ne_of_gt (Heap.lt_size he₁)
  dsimp only
  rw [← hob]
  have he₂ : (h₁.push ob).get? e = some oe := Heap.get?_push_of_some _ he₁
  refine wpAny_setField he₂ hd hsz ?_
  have hd₃ := Obj.data_mapFields hd (·.setIfInBounds 1 (Value.ref h₁.objs.size))
  have hT₂ : (h₁.push ob).get? h₁.objs.size = some ob := Heap.get?_push_size h₁ (by rw [hob]; rfl)
  refine h _ h₁.objs.size _ ob _ hnew (Heap.get?_update_self _ he₂ (Obj.isFreed_of_fields hd₃)) (Obj.cls_mapFields _ _) hd₃ ((Heap.get?_update_other _ _ (Ne.symm hTe)).trans hT₂) (by rw [hob]) (by simp) ?_
  intro b o hb hbe
  have hbe' : b ≠ e := fun q => hbe (List.mem_singleton.mpr q)
  refine ⟨?_, fun hf' => ?_⟩
  · obtain ⟨sl, q⟩ := hs₁.2.2 b o hb
    exact ⟨sl, (Heap.get?_update_other _ _ (Ne.symm hbe')).trans (Heap.get?_push_of_some _ q)⟩
  · have q := (hs₁.2.1 b hf').trans hb
    exact (Heap.get?_update_other _ _ (Ne.symm hbe')).trans (Heap.get?_push_of_some _ q)
theorem flight_X {e T : Addr} {cls x3 : Value} {Q : Unit → Shared → Prop} (f : Fl e T cls x3 s.heap) (h : ∀ h', Fl e T cls .none h' → Slot [] [T] s.heap h' → Q () { s with heap := h' }) : wpAny M A (setFlight (.ref e) none) Q E s := by
  obtain ⟨oe, vs, oT, ts, he, hc, hd, h1, h2, hT, hdT, h3, hTe⟩ := f
  have hsz3 : 3 < ts.size := (Array.getElem?_eq_some_iff.mp h3).1
  unfold setFlight
  refine wpAny_bind (wpAny_field he hd h1 ?_)
  rw [if_pos (show (Value.ref T != Value.none) = true from by simp)]
  refine wpAny_setField hT hdT hsz3 (h _ ⟨oe, vs, _, _, (Heap.get?_update_other _ _ hTe).trans he, hc, hd, h1, h2, Heap.get?_update_self _ hT (Obj.isFreed_of_fields (Obj.data_mapFields hdT _)), Obj.data_mapFields hdT _, by simp [hsz3], hTe⟩ ?_)
  intro b o hb hbT
  have q := (Heap.get?_update_other s.heap (Obj.mapFields (·.setIfInBounds 3 ((none : Option Addr).elim Value.none fun f => rawInt f))) (fun q => hbT (List.mem_singleton.mpr q.symm))).trans hb
  exact ⟨⟨o.slots, q⟩, fun _ => q⟩
theorem leave_X {base : Heap} {env : Env} {outer : List Env} {L e : Addr} {oe : Obj} {vs : Array Value} {Q : Unit → Shared → Prop}
    (hfr : A.frames = some (env :: outer)) (hl : s.heap.FunFrames base (env :: outer)) (hf : env.frame = some L) (he : s.heap.get? e = some oe) (hd : oe.data = .fields vs) (h1 : vs[1]? = some .none) (h2 : vs[2]? = some .none)
    (h : ∀ h' T, s.heap.get? T = none → Fl e T oe.cls .none h' → Slot ((env :: outer).filterMap (·.frame)) [e] s.heap h' → Q () { s with heap := h' }) : wpAny M A (leaving env (.ref e)) Q E s := by
  have hsz : 1 < vs.size := (Array.getElem?_eq_some_iff.mp h1).1
  unfold leaving noteFrame
  simp only [hf]
  refine wpAny_bind (wpAny_bind (wpAny_field he hd h1 ?_))
  rw [if_neg (by decide)]
  refine entry_X hfr hl hf he hd hsz fun h' T oe' oT ts hn he' hc' hd' hT hdT h3 hs => ?_
  have hTe : T ≠ e := fun q => by rw [q, he] at hn; cases hn
  refine flight_X (s := { s with heap := h' }) ⟨oe', _, oT, ts, he', hc', hd', by simp [hsz], by rw [Array.getElem?_setIfInBounds_ne (by decide)]; exact h2, hT, hdT, h3, hTe⟩ fun h'' f hs' => ?_
  refine h h'' T hn f ?_
  have := Slot.trans hs hs' fun b hb => .inr (by rw [List.mem_singleton.mp hb]; exact hn)
  rwa [List.append_nil] at this
theorem note_X {base : Heap} {env : Env} {outer : List Env} {L e T : Addr} {cls : Value} {Q : Unit → Shared → Prop}
    (hfr : A.frames = some (env :: outer)) (hl : s.heap.FunFrames base (env :: outer)) (hf : env.frame = some L) (f : Fl e T cls .none s.heap)
    (h : ∀ h' T', s.heap.get? T' = none → Fl e T' cls (rawInt L) h' → Slot ((env :: outer).filterMap (·.frame)) [e, T] s.heap h' → Q () { s with heap := h' }) : wpAny M A (noteFrame (.ref e) env) Q E s := by
  obtain ⟨oe, vs, oT, ts, he, hc, hd, h1, h2, hT, hdT, h3, hTe⟩ := f
  subst hc
  have hsz : 1 < vs.size := (Array.getElem?_eq_some_iff.mp h1).1
  unfold noteFrame
  simp only [hf]
  refine wpAny_bind (wpAny_field he hd h1 ?_)
  rw [if_pos (show (Value.ref T != Value.none) = true from by simp)]
  refine wpAny_bind (wpAny_field hT hdT h3 ?_)
  rw [if_neg (show ¬ ((Value.none == rawInt L) = true) from by simp [rawInt])]
  refine wpAny_bind (wpAny_setField hT hdT (Array.getElem?_eq_some_iff.mp h3).1 ?_)
  have other : ∀ b, b ≠ T → (s.heap.update T (Obj.mapFields (·.setIfInBounds 3 Value.none))).get? b = s.heap.get? b := fun b hb => Heap.get?_update_other _ _ (Ne.symm hb)
  have hT' := Heap.get?_update_self (Obj.mapFields (·.setIfInBounds 3 Value.none)) hT (Obj.isFreed_of_fields (Obj.data_mapFields hdT _))
  have noRecord : ∀ b o, s.heap.get? b = some o → (∀ vs, o.data ≠ .fields vs) → b ≠ T := fun b o hb hnf q => by
    rw [q, hT] at hb; cases hb; exact hnf ts hdT
  have hl' := hl.of_keeps (h' := s.heap.update T (Obj.mapFields (·.setIfInBounds 3 Value.none))) fun b o hb hnf => ⟨o, (other b (noRecord b o hb hnf)).trans hb, rfl⟩
  refine entry_X (s := { s with heap := _ }) hfr hl' hf ((other e (Ne.symm hTe)).trans he) hd hsz fun h' T' oe' oT' ts' hn he' hc' hd' hT2 hdT2 h32 hs => ?_
  have hT'T : T' ≠ T := fun q => by
    have hn2 : (s.heap.update T (Obj.mapFields (·.setIfInBounds 3 Value.none))).get? T' = none := hn
    rw [q, hT'] at hn2; cases hn2
  have hnT' : s.heap.get? T' = none := (other T' hT'T).symm.trans hn
  have hT'e : T' ≠ e := fun q => by rw [q, he] at hnT'; cases hnT'
  refine h h' T' hnT' ⟨oe', _, oT', ts', he', hc', hd', by simp [hsz], by rw [Array.getElem?_setIfInBounds_ne (by decide)]; exact h2, hT2, hdT2, h32, hT'e⟩ ?_
  intro b o hb hbn
  have hbT : b ≠ T := fun q => hbn (by simp [q])
  have hbe : b ≠ e := fun q => hbn (by simp [q])
  exact hs b o ((other b hbT).trans hb) (fun q => hbe (List.mem_singleton.mp q))
end
end Mine
end
section
open PySem PySem.W PyProof.Rows PySem.Calls PySem.Spec
set_option Elab.async false
set_option maxRecDepth 100000
set_option maxHeartbeats 8000000
set_option pp.deepTerms false
set_option pp.maxSteps 1500
namespace Mine
section
variable {prog : Program} {w : World} {A : Around} {E : Value → Shared → Prop} {s : Shared} {h₀ : Heap} {L : Addr} {m : Str → Option Value} {env : Env}
/-- a comprehension's source is a range, walked while e is handled -/
noncomputable def SrcM (prog : Program) (w : World) (A : Around) (h₀ : Heap) (L : Addr) (m : Str → Option Value) (env : Env) (elt : Expr) (x : Str) (scope : Scope) (cl : List (Str × Addr)) (Fin : Shared → List Value → List (Addr × Obj) → Prop) (e : Addr) (oe : Obj) (xv : Value) (s₁ : Shared) : Prop :=
  ∃ r n t u v news, xv = .ref r ∧ IsRange s₁.heap r 0 ((n : Nat) : Int) 1 t u v ∧ n ≤ 1000 ∧ A.handled = some (.ref e) ∧ Fr h₀ L s₁.heap m ∧ News h₀ L s₁.heap news ∧ (e, oe) ∈ news ∧ (∃ vs, oe.data = .fields vs ∧ vs[2]? = some .none) ∧
    ∀ s₂ : Shared, (∃ h, s₂ = { s₁ with heap := h }) → LCg.CompRest prog w A h₀ L m env elt x scope cl s₂ (fun nw => (e, oe) ∈ nw) (fun i v => ∃ t, v = .int (0 + (i : Int) * 1) t) (Fin s₂) n 0 [] news
theorem ListComp_M {elt iter : Expr} {x : Str} {px : Pos} {scope : Scope} {cl : List (Str × Addr)} {pos : Pos} {Q : Value → Shared → Prop} {e : Addr} {oe : Obj} (_ : Fr h₀ L s.heap m)
    (hclos : closureFor scope env = pure cl) (hcell : ∀ y ∈ scope.names, y.2 ≠ .cell) (hkind : scope.kind = .function)
    (hnames : ∀ y ∈ scope.names, y.2 = .local → scope.names.lookup y.1 = some .local) (hx : scope.names.lookup x = some .local)
    (h : wpAny (model prog w) A (eval iter env) (SrcM prog w A h₀ L m env elt x scope cl (fun s₂ => LCg.FinE h₀ L m s₂ Q) e oe) E s)
    (hs : ∀ x, foldedSetIterable iter env x = pure x := by intro _; rfl) :
    wpAny (model prog w) A (eval (.ListComp elt [⟨.Name x px, iter, [], 0⟩] scope pos) env) Q E s := by
  rw [eval_ListComp]
  refine wpAny_comprehension_free (use := none) rfl hs hclos hkind hnames (wpAny_mono h (fun xv s₁ h₁ => ?_) fun _ _ e => e)
  obtain ⟨r, n, t, u, v, news, rfl, hr, hn, hh, F, N, me, ⟨vs, hd, h2⟩, R⟩ := h₁
  have er : Builtin.Range.rangeSize 0 (n : Int) 1 = (n : Int) := by rw [rangeSize_nat]; omega
  have hlow : ∀ p ∈ news, p.1 < s₁.heap.objs.size := fun p hp => Heap.lt_size (N p hp).1
  have heI : e ≠ s₁.heap.objs.size := Nat.ne_of_lt (hlow _ me)
  have bare : ∀ {h' : Heap} {nw}, News h₀ L h' nw → (e, oe) ∈ nw → Bare2 h' e := fun N' hm => ⟨oe, vs, (N' _ hm).1, hd, h2⟩
  refine wpAny_pyIter_range hr (small_one (by omega) (by omega) (by omega) (by omega)) ?_
  have W := walks_M (prog := prog) (w := w) (A := A) (n := n) hh heI
  refine LCg.block_U (elt := elt) (iter := iter) (x := x) (px := px) (scope := scope) (cl := cl) (pos := pos) (env := env) (E := E) (m := m) (news := news) (S := fun nw => (e, oe) ∈ nw) (Fin := LCg.FinE h₀ L m { s₁ with heap := s₁.heap.push { cls := .type "range_iterator", data := .fields #[rawInt 0, rawInt (Builtin.Range.rangeSize 0 (n : Int) 1), rawInt 1] } } Q) (s₂ := { s₁ with heap := s₁.heap.push { cls := .type "range_iterator", data := .fields #[rawInt 0, rawInt (Builtin.Range.rangeSize 0 (n : Int) 1), rawInt 1] } })
     (RR := compPost (model prog w) A E none Q)
     W (by rw [sizeLine]; omega) (fun i h st => ⟨_, st.1⟩) (fun i h h' o' nw st e1 e2 _ N' hS => ⟨?_, bare N' hS⟩) hcell hkind hx ⟨?_, ?_⟩ (fun b hb => ?_)
      (F.keeps fun _ _ e => Heap.get?_push_of_some _ e) (N.grown fun _ _ e => Heap.get?_push_of_some _ e) (Nat.ne_of_lt F.ns.lt) (next_is_new F) (fun p hp => Nat.ne_of_lt (hlow p hp)) me (R _ ⟨_, rfl⟩) (by
      intro D C h tk m' ys news' F' N' o1 hn hC₀ hD₀ hCL hDL hCD offC fin
      refine ⟨m', hn, fun h'' hs'' => fin D h'' tk (F'.change hs'' hCL hC₀) (fun p hp => ?_) o1⟩
      refine ⟨hs''.extBut _ _ ?_ (N' p hp).1, (N' p hp).2⟩
      rcases List.mem_cons.mp hp with rfl | hp
      · exact Ne.symm hCD
      · exact offC p hp)
  · have q := st.1
    unfold IsRangeIter at q ⊢
    rw [q] at e1
    cases e1
    exact e2
  · show IsRangeIter _ _ _ _ _
    have e2 : (0 : Int) + ((0 : Nat) : Int) * 1 = 0 := by omega
    have e3 : (n : Int) - ((0 : Nat) : Int) = n := by omega
    rw [e2, e3, er]
    exact Heap.get?_push_size _ rfl
  · exact bare (N.grown fun _ _ e => Heap.get?_push_of_some _ e) me
  · show b < (s₁.heap.push _).objs.size
    rw [Heap.size_push]
    rcases List.mem_cons.mp hb with rfl | hb
    · exact Nat.lt_succ_self _
    · rw [List.mem_singleton.mp hb]
      exact Nat.lt_succ_of_lt (hlow _ me)
theorem int_rest {elt : Expr} {x : Str} {scope : Scope} {cl : List (Str × Addr)} {Fin : List Value → List (Addr × Obj) → Prop} {n : Nat} {news : List (Addr × Obj)} {S : List (Addr × Obj) → Prop} (g : Nat → Int)
    (turn : ∀ i t I oI C oC D m₂ ys h tk (E' : Value → Shared → Prop), i < n → LCg.NsObj oC m₂ → m₂ x = some (.int (0 + (i : Int) * 1) t) → Fr h₀ L h m → News h₀ L h ((I, oI) :: (C, oC) :: (D, LCg.lst ys) :: news) → LCg.Off3 I C D news → ((@Ne Nat I C) ∧ (@Ne Nat I D) ∧ (@Ne Nat C D)) →
      wpAny (model prog w) A (eval elt (compEnvC scope cl C env)) (LCg.CompEnd h₀ L m { s with heap := h, toks := tk } I oI C oC D (LCg.lst ys) S (fun y news' => news' = news ∧ ∃ t, y = .int (g i) t)) E' { s with heap := h, toks := tk })
    (fin : ∀ ys, IntsAre ys ((List.range n).map g) → Fin ys news) : LCg.CompRest prog w A h₀ L m env elt x scope cl s S (fun i v => ∃ t, v = .int (0 + (i : Int) * 1) t) Fin n 0 [] news := by
  have key : ∀ (j i : Nat) (ys : List Value), i + j = n → IntsAre ys ((List.range i).map g) → LCg.CompRest prog w A h₀ L m env elt x scope cl s S (fun i v => ∃ t, v = .int (0 + (i : Int) * 1) t) Fin j i ys news := by
    intro j
    induction j with
    | zero =>
      intro i ys hi hy
      have e : i = n := by omega
      subst e
      exact LCg.CompRest.zero (fin ys hy)
    | succ j ih =>
      intro i ys hi hy
      refine LCg.CompRest.succ ?_
      intro v I oI C oC D m₂ h tk E' hv hC hx F N off ne
      obtain ⟨t, rfl⟩ := hv
      refine wpAny_mono (turn i t I oI C oC D m₂ ys h tk E' (by omega) hC hx F N off ne) (fun y' s₂ hq => ?_) fun _ _ e => e
      obtain ⟨h', tk', nw, e, F', N', off', hS, hn, t', hy'⟩ := hq
      subst hn
      subst hy'
      refine ⟨h', tk', _, e, F', N', off', hS, ?_⟩
      refine ih (i + 1) _ (by omega) ?_
      rw [List.range_succ, List.map_append]
      exact hy.append (.cons _ _ .nil)
  exact key n 0 [] (by omega) .nil
end
end Mine
end
section
open PySem PySem.W PyProof.Rows PySem.Calls PySem.Spec
set_option Elab.async false
set_option maxRecDepth 100000
set_option maxHeartbeats 8000000
set_option pp.deepTerms false
set_option pp.maxSteps 400
namespace Mine
local macro_rules | `(tactic| walk_at "call ref") => `(tactic| refine Hold.mk ?_)
local macro_rules | `(tactic| walk_at "eval ListComp") => `(tactic| refine Hold.mk ?_)
local macro_rules | `(tactic| walk_at "binaryOp Pow int int") => `(tactic| refine Hold.mk ?_)
local macro_rules | `(tactic| walk_at "compareOp Eq ref ref") => `(tactic| refine Hold.mk ?_)
local macro_rules | `(tactic| walk_at "exec Raise some none") => `(tactic| refine Hold.mk ?_)
local macro_rules | `(tactic| walk_at "leaving ref") => `(tactic| refine Hold.mk ?_)
local macro_rules | `(tactic| walk_at "noteFrame ref") => `(tactic| refine Hold.mk ?_)
local macro_rules | `(tactic| walk_at "binaryOp Mult int int") => `(tactic| refine Hold.mk ?_)
theorem fr_move {h₀ g h : Heap} {L : Addr} {m : Str → Option Value} (F : Fr h₀ L g m) (h1 : ∀ o, g.get? L = some o → ∃ sl, h.get? L = some { o with slots := sl }) (h2 : ∀ b o, h₀.get? b = some o → h.get? b = some o) : Fr h₀ L h m := by
  obtain ⟨o, es, ep, ho, hd, r⟩ := F.ns
  obtain ⟨sl, q⟩ := h1 o ho
  exact ⟨⟨_, es, ep, q, hd, r⟩, h2, F.above⟩
theorem t5b : ∀ (w : World) (rest : List (Addr × Obj)) (D : Addr) (vs : List Value) (ns : List Int) (pc wd ab : Int) (u1 u2 u3 u4 u5 : Tok) (cL cP cS fa : Addr) (oP : Obj) (ccd : Value),
   (D, W.listOf vs.toArray 0) ∈ rest → IntsAre vs ns → ns = (List.range 5).map (fun k => pc ^ k) → 0 ≤ pc → pc < 10 → (cP, oP) ∈ rest → oP.data = .cell (some (.int pc u5)) →
   ∀ (p : Program) (loose : List Str) (mean : ExcName → Option Value) (mg mb : Str → Option Value) (dp un : Nat) (gd : Option (List Code)) (A₀ : Around) (h₀ : Heap) (L : Addr) (m : Str → Option Value) (s : Shared) (QQ : Flow → Shared → Prop) (EE : Value → Shared → Prop),
   Below A₀ h₀ [] h₀ → Fr h₀ L s.heap m → (hd.heap_39 w.params).In h₀ → News h₀ L s.heap rest → Top p loose mean mg mb h₀ → 
   dp + 400 < recursionLimit → un + 8 * 400 < cLine →
   m (Str.ofString "pairs") = some (.int 0 u1) → m (Str.ofString "width") = some (.int wd u2) → m (Str.ofString "above") = some (.int ab u3) → m (Str.ofString "root") = some (.int ab u4) → m (Str.ofString "counts") = some (.ref D) →
   (∀ m' h' tk', Fr h₀ L h' m' → News h₀ L h' rest → QQ (.ret (.bool true)) { s with heap := h', toks := tk' }) →
   wpAny (theM w) (topL dp un gd L fa ccd cL cP cS []) (execs (lB.drop 11) (envL L fa ccd cL cP cS)) QQ EE s := by
  dsimp only [theM, topL]
  simp only [envL, scL, lB, scopeAt, stmtAt, bodyAt, PySem.Challenge.pw_rs0143_01, List.getElem?_cons_zero, List.getElem?_cons_succ, Option.getD_some, List.drop_succ_cons, List.drop_zero]
  k_fill
  intro w rest D vs ns pc wd ab u1 u2 u3 u4 u5 cL cP cS fa oP ccd mD hI hns hp0 hp1 mP dP p loose mean mg mb dp un gd A₀ h₀ L m s QQ EE B F X N T hdp hun m1 m2 m3 m4 m5 hret
  rw [pin8 m1 m2 m3 m4 m5 m5 m5 m5] at F
  k_steps
  refine wpAny_Try_except ?_
  k_steps
  refine mul_V (IntMulOk.of_le (m := 20) (n := 20) (by decide) (by decide) (by decide)) fun q2 hq2 => ?_
  have hq0 : q2 = 0 := hq2
  subst hq0
  k_steps
  refine wpAny_call ?_
  k_dflt (refine' code_def ?k1 ?k2 ?k3 ?k4 ?k5 ?kA ?kF ?kK ?k6 ?k7 ?k8 ?k9 ?kB ?_ ?c2 ?c3 ?c4 ?c5; (case kA => exact rfl); (case kF => exact rfl); (case kK => exact rfl); (case k1 => k_asm); (case k2 => k_asm); (case k3 => k_asm); (case k4 => k_asm); (case k5 => k_asm); (case k6 => k_is); (case k7 => k_is); (case k8 => ktr_room); (case k9 => exact BindsTo.of_eq rfl); (case c5 => decide); (case kB => exact locs rfl); (case c2 => exact rfl); (case c3 => exact rfl); (case c4 => exact rfl); k_whole; intro g' L' h' FG' F' N' B' X' T'; (try dsimp only); (try k_lift B'); (try k_fold))
  k_steps
  refine Raise_classB rfl excClass_ZeroDivisionError (by rw [isSubtype_type]; kernel_rfl) (name_B F' X' (topRead_of T') (by k_is) (by boot_by_name) (by decide) ⟨rfl, rfl⟩) fun h1 e hx => ?_
  have hLg : ∃ o, g'.get? L = some o ∧ ∀ vs, o.data ≠ .fields vs := by
    obtain ⟨o, es, ep, ho, hd, _⟩ := FG'.ns
    exact ⟨o, ho, fun vs q => by rw [hd] at q; cases q⟩
  obtain ⟨oL, hoL, hnL⟩ := hLg
  have hLh : h'.get? L = some oL := F'.keep _ _ hoL
  have hL'h : ∃ o, h'.get? L' = some o ∧ ∀ vs, o.data ≠ .fields vs := by
    obtain ⟨o, es, ep, ho, hd, _⟩ := F'.ns
    exact ⟨o, ho, fun vs q => by rw [hd] at q; cases q⟩
  obtain ⟨oL', hoL', hnL'⟩ := hL'h
  have z0 : h₀.get? L = none := by
    cases q : h₀.get? L with
    | none => rfl
    | some o => exact absurd (Heap.lt_size q) (Nat.not_lt.mpr FG'.above)
  have z1 : h₀.get? L' = none := by
    cases q : h₀.get? L' with
    | none => rfl
    | some o => exact absurd (Heap.lt_size (FG'.keep _ _ q)) (Nat.not_lt.mpr F'.above)
  have hLL : L ≠ L' := Nat.ne_of_lt (Nat.lt_of_lt_of_le (Heap.lt_size hoL) F'.above)
  obtain ⟨oe0, te, he0, hce0, hde0⟩ := hx.there
  have hnew : h'.get? e = none := hx.new
  refine leave_X (s := { s with heap := h1, toks := _ }) (base := h₀) (outer := [envX (Str.ofString "law") _ L fa ccd _]) rfl ?_ rfl he0 hde0 rfl rfl fun h2 T1 hT1 fl2 hs2 => ?_
  · exact ⟨(show ScopeKind.function ≠ ScopeKind.module by decide), ⟨L', oL', rfl, z1, hx.keeps _ _ hoL', hnL'⟩, (show ScopeKind.function ≠ ScopeKind.module by decide), ⟨L, oL, rfl, z0, hx.keeps _ _ hLh, hnL⟩, trivial⟩
  have eL : e ≠ L := fun q => by rw [q, hLh] at hnew; cases hnew
  have eL2 : L ∉ [e] := fun q => eL (List.mem_singleton.mp q).symm
  obtain ⟨⟨sl2, hL2⟩, _⟩ := hs2 L oL (hx.keeps _ _ hLh) eL2
  rw [hce0] at fl2
  refine note_X (s := { s with heap := h2, toks := _ }) (base := h₀) (outer := []) rfl ⟨(show ScopeKind.function ≠ ScopeKind.module by decide), ⟨L, _, rfl, z0, hL2, hnL⟩, trivial⟩ rfl fl2 fun h3 T2 hT2 fl3 hs3 => ?_
  refine flight_X (s := { s with heap := h3, toks := _ }) fl3 fun h4 fl4 hs4 => ?_
  dsimp only at hs2 hT1 hs3 hT2 hs4
  have hT2e : T2 ≠ e := by obtain ⟨_, _, _, _, _, _, _, _, _, _, _, _, q⟩ := fl3; exact q
  have hT21 : h1.get? T2 = none := by
    cases q : h1.get? T2 with
    | none => rfl
    | some o =>
      obtain ⟨⟨_, q2⟩, _⟩ := hs2 T2 o q (fun z => hT2e (List.mem_singleton.mp z))
      rw [hT2] at q2
      cases q2
  have s13 := hs2.trans hs3 (fun b hb => by
    rcases List.mem_cons.mp hb with rfl | hb
    · exact .inl (.head _)
    · rw [List.mem_singleton.mp hb]; exact .inr hT1)
  have s14 : Slot [L', L, L] [e] h1 h4 := s13.trans hs4 (fun b hb => by rw [List.mem_singleton.mp hb]; exact .inr hT21)
  clear s13 hs2 hs3 hs4
  have hmem : ∀ b, b ≠ L → b ≠ L' → b ∉ [L', L, L] := fun b hb hb' hm2 => by
    simp only [List.mem_cons, List.not_mem_nil, or_false] at hm2
    rcases hm2 with q | q | q
    · exact hb' q
    · exact hb q
    · exact hb q
  have F4 := fr_move FG' (fun o ho => (s14 L o (hx.keeps _ _ (F'.keep _ _ ho)) eL2).1) (fun b o hb => by
    have q := F'.keep _ _ (FG'.keep _ _ hb)
    refine (s14 b o (hx.keeps _ _ q) (fun z => ?_)).2 (hmem b (fun z => ?_) (fun z => ?_))
    · rw [List.mem_singleton.mp z, hnew] at q; cases q
    · rw [z, z0] at hb; cases hb
    · rw [z, z1] at hb; cases hb)
  have N4 : News h₀ L h4 rest := fun q hq => by
    have a := N' q hq
    have b := N q hq
    refine ⟨(s14 q.1 q.2 (hx.keeps _ _ a.1) (fun z => ?_)).2 (hmem _ b.2.1 a.2.1), b.2⟩
    have a1 := a.1
    rw [List.mem_singleton.mp z, hnew] at a1; cases a1
  have hE4 := fl4
  obtain ⟨oe4, ve4, _, _, he4, hc4, hd4, _, h24, _⟩ := hE4
  refine wpAny_handleBy_builtin (X := "ZeroDivisionError") (T := "ZeroDivisionError") (b := true) PySem.F.isExc_ZeroDivisionError PySem.F.notTuple_ZeroDivisionError (by rw [isSubtype_type]; kernel_rfl) (nameX_B F4 X (topRead_of T) (by k_is) (by boot_by_name) (by decide) ⟨rfl, ⟨oe4, he4, hc4⟩, ?_⟩)
  rw [if_pos rfl]
  refine flight_X (s := { s with heap := h4, toks := _ }) fl4 fun h5 fl5 hs5 => ?_
  obtain ⟨oe5, ve5, _, _, he5, hc5, hd5, _, h25, _⟩ := fl5
  dsimp only at hs5 hT2
  have hT2L : T2 ≠ L := fun q => by rw [q, hL2] at hT2; cases hT2
  have live : ∀ b o, h1.get? b = some o → b ∉ [T2] := fun b o hb z => by rw [List.mem_singleton.mp z, hT21] at hb; cases hb
  have F5 := fr_move F4 (fun o ho => (hs5 L o ho (fun z => hT2L (List.mem_singleton.mp z).symm)).1) (fun b o hb => (hs5 b o (F4.keep _ _ hb) (live b o (hx.keeps _ _ (F'.keep _ _ (FG'.keep _ _ hb))))).2 List.not_mem_nil)
  have N5 : News h₀ L h5 ((e, oe5) :: rest) := fun q hq => by
    rcases List.mem_cons.mp hq with rfl | hq
    · refine ⟨he5, eL, ?_⟩
      cases z : h₀.get? e with
      | none => rfl
      | some o => have z2 := F'.keep _ _ (FG'.keep _ _ z); rw [hnew] at z2; cases z2
    · have a := N4 q hq
      exact ⟨(hs5 q.1 q.2 a.1 (live _ _ (hx.keeps _ _ (N' q hq).1))).2 List.not_mem_nil, a.2⟩
  refine wpAny_noRaise ?_
  clear N4 F4 s14 hs5 N' F' FG' B' X' T' N live
  k_steps
  rotate_left
  · exact absurd (rfl : ab = ab) (by assumption)
  refine ListComp_M (e := e) (oe := oe5) (by k_asm) rfl (by decide) rfl (by decide) rfl ?_
  k_steps
  rename IsRange _ _ _ _ _ _ _ _ => hR
  refine ⟨_, 5, _, _, _, (e, oe5) :: rest, rfl, hR, by decide, rfl, by k_asm, by k_asm, .head _, ⟨ve5, hd5, h25⟩, ?_⟩
  rintro s₂ ⟨h10, rfl⟩
  refine int_rest (fun i => pc ^ i) ?turn ?fin
  case turn =>
    intro i t I' oI C oC D m₂ ys h tk E' hi hC hmx F N off ne
    have hz : (0 : Int) + (i : Int) * 1 = (i : Int) := by omega
    rw [hz] at hmx
    clear hR
    k_steps
    have hbP : Builtin.Int.intBits pc ≤ 4 := intBits_le_iff.mpr (by omega)
    refine pow_V (by omega) (by have := Int.mul_le_mul (show (Builtin.Int.intBits pc : Int) ≤ 4 by omega) (show (i : Int) ≤ 4 by omega) (by omega) (by omega); omega) fun v hv => ?_
    have e9 : v = pc ^ i := by rw [hv, Int.toNat_natCast]
    subst e9
    exact ⟨_, _, _, rfl, F, N, off, .head _, rfl, _, rfl⟩
  case fin =>
    intro ys hys D h tk F N off
    (try dsimp only)
    clear hR
    k_steps
    refine eq_intsK (PySem.IsL.isList (n := 0) (N (_, W.listOf vs.toArray 0) (.tail _ (.tail _ mD))).1) hI (PySem.IsL.isList (n := ys.length) (N _ (.head _)).1) hys (by ktr_units) ?_
    rw [decide_eq_true hns]
    exact hret _ _ _ F (fun q hq => N q (.tail _ (.tail _ hq)))
end Mine
end
section
open PySem PySem.W PyProof.Rows PySem.Calls PySem.Spec
set_option Elab.async false
set_option maxRecDepth 100000
set_option maxHeartbeats 8000000
set_option pp.deepTerms false
set_option pp.maxSteps 400
namespace Mine
local macro_rules | `(tactic| walk_at "call ref") => `(tactic| refine Hold.mk ?_)
local macro_rules | `(tactic| walk_at "binaryOp Mult int int") => `(tactic| refine Hold.mk ?_)
local macro_rules | `(tactic| walk_at "binaryOp Pow int int") => `(tactic| refine Hold.mk ?_)
local macro_rules | `(tactic| walk_at "execs cons") => `(tactic| ((with_reducible show wpAny _ _ (execs (Stmt.If _ _ _ _ :: _) _) _ _ _); refine Hold.mk ?_))
theorem t4 : ∀ (w : World) (rest : List (Addr × Obj)) (p1 p2 : Array Value) (pc q wd X ab NN s₀ : Int) (u1 u2 u5 : Tok) (cL cP cS fa : Addr) (oP : Obj) (ccd vC : Value),
   T72 p1 rest → T79 p2 rest → (∀ p ∈ rest, p.1 ≠ 72) → (∀ p ∈ rest, p.1 ≠ 79) → (cP, oP) ∈ rest → oP.data = .cell (some (.int pc u5)) →
   0 ≤ wd → wd ≤ 100 → 0 ≤ q → q < 10 → X = 2 ^ wd.toNat → ab = X ^ 5 * (X - pc) → NN = ((X - pc) ^ 2 - 4 * q) * X ^ 10 →
   Builtin.Int.intBits X ≤ 100 → Builtin.Int.intBits (X - pc) ≤ 100 → Builtin.Int.intBits (X ^ 5) ≤ 400 → Builtin.Int.intBits ((X - pc) ^ 2 - 4 * q) ≤ 300 → Builtin.Int.intBits (X ^ 10) ≤ 700 →
   8 ≤ s₀ → s₀ * s₀ ≤ NN → NN < (s₀ + 1) * (s₀ + 1) → s₀ ≤ ab → Builtin.Int.intBits ab ≤ 399 → Builtin.Int.intBits NN ≤ 1000 →
   ∀ (p : Program) (loose : List Str) (mean : ExcName → Option Value) (mg mb : Str → Option Value) (dp un : Nat) (gd : Option (List Code)) (outer : List Env) (A₀ : Around) (base h₀ : Heap) (L : Addr) (m : Str → Option Value) (s : Shared) (QQ : Flow → Shared → Prop) (EE : Value → Shared → Prop),
   Below A₀ base outer h₀ → Fr h₀ L s.heap m → (hd.heap_39 w.params).In h₀ → News h₀ L s.heap ((72, tabObj p1) :: (79, tabObj p2) :: rest) → Top p loose mean mg mb h₀ → 
   dp + 400 < recursionLimit → un + 8 * 400 < cLine → CodeHd base 76 72 → CodeHd base 83 79 →
   m (Str.ofString "pairs") = some (.int q u1) → m (Str.ofString "width") = some (.int wd u2) → m (Str.ofString "counts") = some vC →
   (∀ m' h' tk' p1' p2' extra v1 v2, m' (Str.ofString "pairs") = some (.int q u1) → m' (Str.ofString "width") = some (.int wd u2) → m' (Str.ofString "counts") = some vC → m' (Str.ofString "above") = some (.int ab v1) → m' (Str.ofString "root") = some (.int s₀ v2) →
     Fr h₀ L h' m' → News h₀ L h' ((72, tabObj p1') :: (79, tabObj p2') :: (extra ++ rest)) → T72 p1' (extra ++ rest) → T79 p2' (extra ++ rest) → (∀ p ∈ extra ++ rest, p.1 ≠ 72) → (∀ p ∈ extra ++ rest, p.1 ≠ 79) →
     wpAny (theM w) (topL dp un gd L fa ccd cL cP cS outer) (execs (lB.drop 11) (envL L fa ccd cL cP cS)) QQ EE { s with heap := h', toks := tk' }) →
   wpAny (theM w) (topL dp un gd L fa ccd cL cP cS outer) (execs (lB.drop 8) (envL L fa ccd cL cP cS)) QQ EE s := by
  dsimp only [theM, topL]
  simp only [envL, scL, lB, scopeAt, stmtAt, bodyAt, PySem.Challenge.pw_rs0143_01, List.getElem?_cons_zero, List.getElem?_cons_succ, Option.getD_some, List.drop_succ_cons, List.drop_zero]
  k_fill
  intro w rest p1 p2 pc q wd X ab NN s₀ u1 u2 u5 cL cP cS fa oP ccd vC hT1 hT2 hA1 hA2 mP dP hw0 hw1 hq0 hq1 hX hab hNN b1 b2 b3 b4 b5 r1 r2 r3 r4 r5 r6 p loose mean mg mb dp un gd outer A₀ base h₀ L m s QQ EE B F X' N T hdp hun hC1 hC2 m1 m2 m3 hret
  rw [pin4 m1 m2 m3 m3] at F
  k_steps
  refine pow_V (by omega) (by rw [show Builtin.Int.intBits 2 = 2 from by decide]; omega) fun vX eX => ?_
  have eX' : vX = X := by rw [eX, hX]
  subst eX'
  k_steps
  refine pow_V (by decide) (by omega) fun v5 e5 => ?_
  have e5' : v5 = vX ^ 5 := e5
  k_steps
  refine mul_V (IntMulOk.of_le (m := 400) (n := 100) (by rw [e5']; exact b3) b2 (by decide)) fun va ea => ?_
  have ea' : va = ab := by rw [ea, hab, e5']
  subst ea'
  k_steps
  refine pow_V (by decide) (by omega) fun v2 e2 => ?_
  have e2' : v2 = (vX - pc) ^ 2 := e2
  k_steps
  refine mul_V (IntMulOk.of_le (m := 20) (n := 20) (by decide) (intBits_le_iff.mpr (by omega)) (by decide)) fun v4 e4 => ?_
  k_steps
  refine pow_V (by decide) (by omega) fun v10 e10 => ?_
  have e10' : v10 = vX ^ 10 := e10
  k_steps
  have hdd : v2 - v4 = (vX - pc) ^ 2 - 4 * q := by rw [e2', e4]
  refine mul_V (IntMulOk.of_le (m := 300) (n := 700) (by rw [hdd]; exact b4) (by rw [e10']; exact b5) (by decide)) fun vN eN => ?_
  have eN' : vN = NN := by rw [eN, hNN, hdd, e10']
  subst eN'
  k_steps
  rename News _ _ _ _ => N9
  refine' c138 w rest p1 p2 vN va s₀ _ _ hT1 hT2 hA1 hA2 r1 r2 r3 r4 r5 r6 _ _ _ _ _ _ _ _ _ _ _ _ _ _ _ _ _ _ _ _ _ _ ?b1 ?b2 ?b3 N9 ?b5 ?b6 ?b7 ?b8 ?b9 ?b10 ?_
  case b1 => k_asm
  case b2 => k_asm
  case b3 => k_asm
  case b5 => k_asm
  case b6 => exact rfl
  case b7 => ktr_room
  case b8 => ktr_units
  case b9 => assumption
  case b10 => assumption
  intro t9 p1' p2' extra h10 tk10 F10 N10 j1 j2 j3 j4 j5
  clear N9
  (try dsimp only)
  (try k_fold)
  k_steps
  rename News _ _ _ _ => N11
  exact hret _ _ _ p1' p2' extra _ _ rfl rfl rfl rfl rfl (by k_asm) N11 j1 j2 j3 j4
end Mine
end
section
open PySem PySem.W PyProof.Rows PySem.Calls PySem.Spec
set_option Elab.async false
set_option maxRecDepth 100000
set_option maxHeartbeats 8000000
set_option pp.deepTerms false
set_option pp.maxSteps 400
namespace Mine
local macro_rules | `(tactic| walk_at "call ref") => `(tactic| refine Hold.mk ?_)
local macro_rules | `(tactic| walk_at "execs cons") => `(tactic| ((with_reducible show wpAny _ _ (execs (Stmt.Assign [Expr.Name (Str.ofString "base") _] _ _ :: _) _) _ _ _); refine Hold.mk ?_))
structure Apart5 (rest : List (Addr × Obj)) (lf pI : Addr) : Prop where
  a1 : ∀ p ∈ rest, p.1 ≠ lf
  a2 : ∀ p ∈ rest, p.1 ≠ pI
  a3 : ∀ p ∈ rest, p.1 ≠ 72
  a4 : ∀ p ∈ rest, p.1 ≠ 79
  b1 : lf ≠ pI
  b2 : @Ne Nat lf 72
  b3 : @Ne Nat lf 79
  b4 : @Ne Nat pI 72
  b5 : @Ne Nat pI 79
theorem t3 : ∀ (w : World) (rest : List (Addr × Obj)) (lf I pI sD : Addr) (ta tb t0 t1 t2 : Tok) (n np nS : Nat) (kd : List Nat) (pc q wd : Int) (u1 u2 u5 : Tok) (cL cP cS fa : Addr) (oL oP : Obj) (ccd : Value),
   Lex w rest lf I pI → Apart5 rest lf pI → (sD, sgL kd t0 t1 t2 nS) ∈ rest → (cL, oL) ∈ rest → oL.data = .cell (some (.ref I)) → (cP, oP) ∈ rest → oP.data = .cell (some (.int pc u5)) → Good kd → kd.length ≤ 4 → 0 ≤ pc → pc < 10 → 0 ≤ q → q < 10 →
   ∀ (p : Program) (loose : List Str) (mean : ExcName → Option Value) (mg mb : Str → Option Value) (dp un : Nat) (gd : Option (List Code)) (outer : List Env) (A₀ : Around) (base h₀ : Heap) (L : Addr) (m : Str → Option Value) (s : Shared) (QQ : Flow → Shared → Prop) (EE : Value → Shared → Prop),
   Below A₀ base outer h₀ → Fr h₀ L s.heap m → (hd.heap_39 w.params).In h₀ → News h₀ L s.heap ((lf, W.listOf (chV [(32, ta), (99, tb)]).toArray n) :: (pI, W.listOf #[] np) :: (72, tabObj #[]) :: (79, tabObj #[]) :: rest) → Top p loose mean mg mb h₀ → 
   dp + 400 < recursionLimit → un + 8 * 400 < cLine → CodeHd base 125 121 → AllBare s.gens →
   m (Str.ofString "pairs") = some (.int q u1) → m (Str.ofString "width") = some (.int wd u2) → m (Str.ofString "signs") = some (.ref sD) →
   (∀ m' h' tk' Gn D vs rest3, m' (Str.ofString "pairs") = some (.int q u1) → m' (Str.ofString "width") = some (.int wd u2) → m' (Str.ofString "counts") = some (.ref D) → Fr h₀ L h' m' → News h₀ L h' ((72, tabObj #[]) :: (79, tabObj #[]) :: rest3) →
     (∀ p ∈ rest, p ∈ rest3) → (D, W.listOf vs.toArray 0) ∈ rest3 → IntsAre vs (cnts kd pc q 5) → (∀ p ∈ rest3, p.1 ≠ 72) → (∀ p ∈ rest3, p.1 ≠ 79) → AllBare Gn →
     wpAny (theM w) (topL dp un gd L fa ccd cL cP cS outer) (execs (lB.drop 8) (envL L fa ccd cL cP cS)) QQ EE { s with heap := h', toks := tk', gens := Gn }) →
   wpAny (theM w) (topL dp un gd L fa ccd cL cP cS outer) (execs (lB.drop 6) (envL L fa ccd cL cP cS)) QQ EE s := by
  dsimp only [theM, topL]
  simp only [envL, scL, lB, scopeAt, stmtAt, bodyAt, PySem.Challenge.pw_rs0143_01, List.getElem?_cons_zero, List.getElem?_cons_succ, Option.getD_some, List.drop_succ_cons, List.drop_zero]
  k_fill
  intro w rest lf I pI sD ta tb t0 t1 t2 n np nS kd pc q wd u1 u2 u5 cL cP cS fa oL oP ccd hX hAp mS mL dL mP dP hG hkd hp0 hp1 hq0 hq1 p loose mean mg mb dp un gd outer A₀ base h₀ L m s QQ EE B F X' N T hdp hun hC3 hbare m1 m2 m3 hret
  rw [pin4 m1 m2 m3 m3] at F
  have hX2 := hX
  have hmono : ∀ (o1 o2 o3 : Addr × Obj), Lex w (o1 :: o2 :: o3 :: rest) lf I pI := fun o1 o2 o3 => hX.mono fun p hp => .tail _ (.tail _ (.tail _ hp))
  obtain ⟨S, dI, dS, pS, fL, cL', c', oc, oLf, vsc, tq, pm, ctv, a1, a2, a3, a4, a5, a6, b1, b2, b3, b4, b5, b6, b7, n5, mI, mdI, mS', mdS, mf, mc, dc, vc, mcL, dcL⟩ := hX
  k_steps
  obtain ⟨q1, q2, q3, q4, q5, q6, q7, q8, q9⟩ := hAp
  have N2 : News h₀ L s.heap ((pI, W.listOf #[] np) :: (lf, W.listOf (chV [(32, ta), (99, tb)]).toArray n) :: (72, tabObj #[]) :: (79, tabObj #[]) :: rest) := fun p hp => N p (by
    simp only [List.mem_cons] at hp ⊢
    rcases hp with h | h | h <;> simp [h])
  clear N
  refine' c131 w ((lf, W.listOf (chV [(32, ta), (99, tb)]).toArray n) :: (72, tabObj #[]) :: (79, tabObj #[]) :: rest) I pI sD kd t0 t1 t2 np nS pc q _ _ ⟨S, dI, a1, a2, a3, a4, a5, a6, .tail _ (.tail _ (.tail _ mI)), .tail _ (.tail _ (.tail _ mdI))⟩ (List.forall_mem_cons.mpr ⟨q5, List.forall_mem_cons.mpr ⟨Ne.symm q8, List.forall_mem_cons.mpr ⟨Ne.symm q9, q2⟩⟩⟩) (.tail _ (.tail _ (.tail _ mS))) hG hkd hp0 hp1 hq0 hq1 _ _ _ _ _ _ _ _ _ _ _ _ _ _ _ _ _ _ _ _ _ _ ?b1 ?b2 ?b3 N2 ?b5 ?b6 ?b7 ?b8 hbare ?_
  case b1 => k_asm
  case b2 => k_asm
  case b3 => k_asm
  case b5 => k_asm
  case b6 => exact rfl
  case b7 => ktr_room
  case b8 => ktr_units
  intro D vs n7 h7 tk7 Gn7 F7 N7 hlt7 hI7 hb7
  clear N2
  (try dsimp only)
  (try k_fold)
  k_steps
  rename News _ _ _ _ => N8
  have hDl : lf ≠ D := Nat.ne_of_lt (hlt7 (lf, _) (.tail _ (.head _)))
  have hDp : pI ≠ D := Nat.ne_of_lt (hlt7 (pI, _) (.head _))
  obtain ⟨rc, hrc⟩ : ∃ rc, rc = (D, W.listOf vs.toArray 0) :: (72, tabObj #[]) :: (79, tabObj #[]) :: rest := ⟨_, rfl⟩
  have r1 : ∀ p ∈ rc, p.1 ≠ lf := by rw [hrc]; exact List.forall_mem_cons.mpr ⟨Ne.symm hDl, List.forall_mem_cons.mpr ⟨Ne.symm q6, List.forall_mem_cons.mpr ⟨Ne.symm q7, q1⟩⟩⟩
  have r2 : ∀ p ∈ rc, p.1 ≠ pI := by rw [hrc]; exact List.forall_mem_cons.mpr ⟨Ne.symm hDp, List.forall_mem_cons.mpr ⟨Ne.symm q8, List.forall_mem_cons.mpr ⟨Ne.symm q9, q2⟩⟩⟩
  have rX : Lex w rc lf I pI := by rw [hrc]; exact hmono _ _ _
  have N9 : News h₀ L _ ((lf, W.listOf (chV [(32, ta), (99, tb)]).toArray n) :: (pI, W.listOf #[] n7) :: rc) := fun p hp => N8 p (by
    rw [hrc] at hp
    simp only [List.mem_cons] at hp ⊢
    rcases hp with h | h | h | h <;> simp [h])
  have mLc : (cL, oL) ∈ rc := by rw [hrc]; exact .tail _ (.tail _ (.tail _ mL))
  have mIc : (I, instObj 52 dI) ∈ rc := by rw [hrc]; exact .tail _ (.tail _ (.tail _ mI))
  have mdIc : (dI, lexD w a1 a2 a3 a4 a5 a6 (.ref S) (.ref pI) [] 4) ∈ rc := by rw [hrc]; exact .tail _ (.tail _ (.tail _ mdI))
  clear N8
  refine' c42c w rc lf I pI ta tb n n7 rX r1 r2 q5 _ _ _ _ _ _ _ _ _ _ _ _ _ _ _ _ _ _ _ _ _ _ ?b1 ?b2 ?b3 N9 ?b5 ?b6 ?b7 ?b8 ?b9 ?_
  case b1 => k_asm
  case b2 => k_asm
  case b3 => k_asm
  case b5 => k_asm
  case b6 => exact rfl
  case b7 => ktr_room
  case b8 => ktr_units
  case b9 => assumption
  intro h10 tk10 n10 t10 F10 N10
  clear N9
  (try dsimp only)
  (try k_fold)
  k_steps
  rename News _ _ _ _ => N11
  refine' c42e w rc lf I pI n10 n7 rX r1 r2 q5 _ _ _ _ _ _ _ _ _ _ _ _ _ _ _ _ _ _ _ _ _ _ ?b1 ?b2 ?b3 N11 ?b5 ?b6 ?b7 ?b8 ?b9 ?_
  case b1 => k_asm
  case b2 => k_asm
  case b3 => k_asm
  case b5 => k_asm
  case b6 => exact rfl
  case b7 => ktr_room
  case b8 => ktr_units
  case b9 => assumption
  intro h12 tk12 t12 F12 N12
  clear N11
  (try dsimp only)
  (try k_fold)
  k_steps
  rename News _ _ _ _ => N13
  have hD72 : @Ne Nat D 72 := Nat.ne_of_gt (hlt7 (72, _) (.tail _ (.tail _ (.head _))))
  have hD79 : @Ne Nat D 79 := Nat.ne_of_gt (hlt7 (79, _) (.tail _ (.tail _ (.tail _ (.head _)))))
  refine hret _ _ _ Gn7 D vs ((D, W.listOf vs.toArray 0) :: rest) rfl rfl rfl (by k_asm) (fun p hp => N13 p ?_) (fun p hp => .tail _ hp) (.head _) hI7 (List.forall_mem_cons.mpr ⟨hD72, q3⟩) (List.forall_mem_cons.mpr ⟨hD79, q4⟩) hb7
  rw [hrc]
  simp only [List.mem_cons] at hp ⊢
  rcases hp with h | h | h | h <;> simp [h]
end Mine
end
section
open PySem PySem.W PyProof.Rows PySem.Calls PySem.Spec
set_option Elab.async false
set_option maxRecDepth 100000
set_option maxHeartbeats 8000000
set_option pp.deepTerms false
set_option pp.maxSteps 400
namespace Mine
theorem signs_chV {ys : List Value} : ∀ {cs : List Nat}, StrsAre ys (cs.map fun c => (⟨#[c]⟩ : Str)) → ∃ l : List (Nat × Tok), ys = chV l ∧ l.map Prod.fst = cs := by
  induction ys with
  | nil =>
    intro cs h
    cases cs with
    | nil => exact ⟨[], rfl, rfl⟩
    | cons c r => cases h
  | cons y ys ih =>
    intro cs h
    cases cs with
    | nil => cases h
    | cons c r =>
      rw [List.map_cons] at h
      cases h with
      | cons _ t h' =>
        obtain ⟨l, rfl, e⟩ := ih h'
        exact ⟨(c, t) :: l, rfl, by rw [List.map_cons, e]⟩
theorem list_V {prog : Program} {w : World} {A : Around} {E : Value → Shared → Prop} {s : Shared} {h₀ : Heap} {L : Addr} {m : Str → Option Value} {news : List (Addr × Obj)} {cs : List Nat} {t : Tok} {Q : Value → Shared → Prop} (hh : A.handled = none) (F : Fr h₀ L s.heap m) (N : News h₀ L s.heap news) (hsz : cs.length ≤ 1000)
    (h : ∀ D l n h' tk', Fr h₀ L h' m → News h₀ L h' ((D, W.listOf (chV l).toArray n) :: news) → (∀ p ∈ news, p.1 < D) → l.map Prod.fst = cs → Q (.ref D) { s with heap := h', toks := tk' }) :
    wpAny (model prog w) A (call (.type "list") [.str (wS cs) t]) Q E s := by
  refine list_strD hh F N (fun h' tk ys F' N' hk hn hl P hc => ?_) (by show cs.toArray.size ≤ sizeLine; rw [sizeLine, List.size_toArray]; omega)
  obtain ⟨n, N2, _⟩ := gn_enter P F' N' hn
  have hs := StrsAre.ofCarried hc
  have e : signs (wS cs) = cs.map fun c => (⟨#[c]⟩ : Str) := by simp [signs, wS]
  rw [e] at hs
  obtain ⟨l, rfl, el⟩ := signs_chV hs
  exact h _ l n h' tk F' N2 (fun p hp => Heap.lt_size (N p hp).1) el
theorem StreamAt.drop {w : World} {r r' : List (Addr × Obj)} {lf S : Addr} (h : StreamAt w r lf S) (hs : ∀ p ∈ r, p.2.data ≠ .cell none → p.2 ≠ tabObj #[] → p ∈ r') : StreamAt w r' lf S := by
  obtain ⟨dS, pS, fL, cL, c', oc, oL, vsc, tq, pm, ctv, b1, b2, b3, b4, b5, b6, b7, n5, m1, m2, m3, m4, e1, e2, m5, e3⟩ := h
  exact ⟨dS, pS, fL, cL, c', oc, oL, vsc, tq, pm, ctv, b1, b2, b3, b4, b5, b6, b7, n5, hs _ m1 (fun q => by cases q) (fun q => by cases q), hs _ m2 (fun q => by cases q) (fun q => by cases q), hs _ m3 (fun q => by cases q) (fun q => by cases q), hs _ m4 (fun q => by rw [show oc.data = _ from e1] at q; cases q) (fun q => by
    have q2 : oc = tabObj #[] := q
    rw [q2] at e1
    cases e1
    simp at e2), e1, e2, hs _ m5 (fun q => by rw [show oL.data = _ from e3] at q; cases q) (fun q => by
    have q2 : oL = tabObj #[] := q
    rw [q2] at e3
    cases e3), e3⟩
theorem pack_line {w : World} {h₀ h : Heap} {L l' x' d' cL lf S : Addr} {oL o o1 : Obj} {a1 a2 a3 a4 a5 a6 : Tok} {R : List (Addr × Obj)}
    (N : News h₀ L h ((l', W.listOf #[] 0) :: (x', instObj 52 d') :: (d', lexD w a1 a2 a3 a4 a5 a6 (.ref S) (.ref l') [] 4) :: (cL, oL) :: (121, o1) :: (lf, o) :: R)) (h1 : @LT.lt Nat _ d' x') (h2 : @LT.lt Nat _ x' l') :
    ∃ pI rl, News h₀ L h ((cL, oL) :: (pI, W.listOf #[] 0) :: (121, o1) :: (lf, o) :: (rl ++ R)) ∧ (x', instObj 52 d') ∈ rl ∧ (∃ a1 a2 a3 a4 a5 a6, (d', lexD w a1 a2 a3 a4 a5 a6 (.ref S) (.ref pI) [] 4) ∈ rl) ∧ (∀ q ∈ rl, @LE.le Nat _ d' q.1 ∧ @LT.lt Nat _ q.1 pI) ∧ @LT.lt Nat _ d' pI := by
  refine ⟨l', [(x', instObj 52 d'), (d', lexD w a1 a2 a3 a4 a5 a6 (.ref S) (.ref l') [] 4)], fun p hp => N p ?_, .head _, ⟨_, _, _, _, _, _, .tail _ (.head _)⟩, ?_, Nat.lt_trans h1 h2⟩
  · simp only [List.mem_cons, List.mem_append, List.not_mem_nil, or_false] at hp ⊢
    rcases hp with h | h | h | h | (h | h) | h <;> simp [h]
  · exact List.forall_mem_cons.mpr ⟨⟨Nat.le_of_lt h1, h2⟩, List.forall_mem_cons.mpr ⟨⟨Nat.le_refl _, Nat.lt_trans h1 h2⟩, fun _ h => nomatch h⟩⟩
theorem stC_V {M : Model} {A : Around} {E : Value → Shared → Prop} {s : Shared} {h₀ : Heap} {L a c : Addr} {o : Obj} {m : Str → Option Value} {cn : Str} {cs : Scope} {ccd : Value} {cl : List (Str × Addr)} {x : Str} {v : Value} {v₀ : Option Value} {rest : List (Addr × Obj)} {Q : Unit → Shared → Prop}
    (F : Fr h₀ L s.heap m) (N : News h₀ L s.heap ((c, o) :: rest)) (hr : ∀ p ∈ rest, p.1 ≠ c) (hc : cl.lookup x = some c) (hd : o.data = .cell v₀)
    (h : ∀ h' o', Fr h₀ L h' m → News h₀ L h' ((c, o') :: rest) → o'.data = .cell (some v) → Q () { s with heap := h' })
    (hk : cs.kind = .function) (hx : (envX cn cs L a ccd cl).kindOf x = some .cell) : wpAny M A (storeName (envX cn cs L a ccd cl) x v) Q E s := by
  have nC := N _ (.head _)
  unfold storeName
  simp only [hx, hk]
  refine wpAny_bind (wpAny_cellOf hc (wpAny_cellSet ⟨o, nC.1, hd⟩ fun h' hv hs => ?_))
  obtain ⟨o', ho', hd'⟩ := hv
  refine h h' o' (F.change hs nC.2.1 nC.2.2) (fun p hp => ?_) hd'
  rcases List.mem_cons.mp hp with rfl | hp
  · exact ⟨ho', nC.2⟩
  · have z := N p (.tail _ hp)
    exact ⟨(hs.2 _ (hr p hp)).trans z.1, z.2⟩
local macro_rules | `(tactic| walk_at "mine enter") => `(tactic| (refine' code_def ?k1 ?k2 ?k3 ?k4 ?k5 ?kA ?kF ?kK ?k6 ?k7 ?k8 ?k9 ?kB ?_ ?c2 ?c3 ?c4 ?c5; (case kA => exact rfl); (case kF => exact rfl); (case kK => first | assumption | exact rfl); (case k1 => k_asm); (case k2 => k_asm); (case k3 => k_asm); (case k4 => k_asm); (case k5 => k_asm); (case k6 => k_is); (case k7 => k_is); (case k8 => ktr_room); (case k9 => exact BindsTo.of_eq rfl); (case c5 => decide); (case kB => exact locs rfl); (case c2 => exact rfl); (case c3 => exact rfl); (case c4 => exact rfl); k_whole; intro g' L' h' FG' F' N' B' X' T'; (try dsimp only); (try k_lift B'); (try k_fold)))
local macro_rules | `(tactic| walk_at "execs cons") => `(tactic| ((with_reducible show wpAny _ _ (execs (Stmt.If _ _ _ _ :: _) _) _ _ _); refine Hold.mk ?_))
local macro_rules | `(tactic| walk_at "call ref") => `(tactic| refine Hold.mk ?_)
local macro_rules | `(tactic| walk_at "call type:list") => `(tactic| refine Hold.mk ?_)
local macro_rules | `(tactic| walk_at "call builtin:str.join") => `(tactic| refine Hold.mk ?_)
theorem t2a : ∀ (w : World) (rest : List (Addr × Obj)) (sD qD : Addr) (t0 t1 t2 a0 a1 a2 : Tok) (nS nq : Nat) (kd q0 q1 q2 cs : List Nat) (pc q wd : Int) (u1 u2 u5 : Tok) (cL cP cS fa : Addr) (oL : Obj) (ccd : Value),
   (∀ p ∈ rest, p.1 ≠ cL) → @Ne Nat cL 121 → @Ne Nat cL 72 → @Ne Nat cL 79 → (∀ p ∈ rest, p.1 ≠ 121) → (∀ p ∈ rest, p.1 ≠ 72) → (∀ p ∈ rest, p.1 ≠ 79) → oL.data = .cell none →
   (sD, sgL kd t0 t1 t2 nS) ∈ rest → (qD, W.listOf #[.str (wS q0) a0, .str (wS q1) a1, .str (wS q2) a2] nq) ∈ rest →
   q0.length ≤ 20 → q1.length ≤ 20 → q2.length ≤ 20 → cs.length ≤ 100 → Txt.join (Str.ofString " ") [wS q0, wS q1, wS q2, Str.ofString "c"] = wS cs →
   ∀ (p : Program) (loose : List Str) (mean : ExcName → Option Value) (mg mb : Str → Option Value) (dp un : Nat) (gd : Option (List Code)) (outer : List Env) (A₀ : Around) (base h₀ : Heap) (L : Addr) (m : Str → Option Value) (s : Shared) (QQ : Flow → Shared → Prop) (EE : Value → Shared → Prop),
   Below A₀ base outer h₀ → Fr h₀ L s.heap m → (hd.heap_39 w.params).In h₀ → News h₀ L s.heap ((cL, oL) :: (121, tabObj #[]) :: (72, tabObj #[]) :: (79, tabObj #[]) :: rest) → Top p loose mean mg mb h₀ → 
   dp + 400 < recursionLimit → un + 8 * 400 < cLine → CodeHd base 125 121 →
   m (Str.ofString "pairs") = some (.int q u1) → m (Str.ofString "width") = some (.int wd u2) → m (Str.ofString "signs") = some (.ref sD) → m (Str.ofString "quoted") = some (.ref qD) →
   (∀ m' h' tk' lf I pI oL' l n rest3, m' (Str.ofString "pairs") = some (.int q u1) → m' (Str.ofString "width") = some (.int wd u2) → m' (Str.ofString "signs") = some (.ref sD) → Fr h₀ L h' m' → News h₀ L h' ((lf, W.listOf (chV l).toArray n) :: (pI, W.listOf #[] 0) :: (72, tabObj #[]) :: (79, tabObj #[]) :: rest3) →
     l.map Prod.fst = cs → (∀ p ∈ rest, p ∈ rest3) → (∃ ps, (121, tabObj ps) ∈ rest3) → (cL, oL') ∈ rest3 → oL'.data = .cell (some (.ref I)) → Lex w rest3 lf I pI → Apart5 rest3 lf pI →
     wpAny (theM w) (topL dp un gd L fa ccd cL cP cS outer) (execs (lB.drop 5) (envL L fa ccd cL cP cS)) QQ EE { s with heap := h', toks := tk' }) →
   wpAny (theM w) (topL dp un gd L fa ccd cL cP cS outer) (execs (lB.drop 4) (envL L fa ccd cL cP cS)) QQ EE s := by
  dsimp only [theM, topL]
  simp only [envL, scL, lB, scopeAt, stmtAt, bodyAt, PySem.Challenge.pw_rs0143_01, List.getElem?_cons_zero, List.getElem?_cons_succ, Option.getD_some, List.drop_succ_cons, List.drop_zero]
  k_fill
  intro w rest sD qD t0 t1 t2 a0 a1 a2 nS nq kd q0 q1 q2 cs pc q wd u1 u2 u5 cL cP cS fa oL ccd z1 z2 z3 z4 z5 z6 z7 dL mS mQ hq0 hq1 hq2 hcs hJ p loose mean mg mb dp un gd outer A₀ base h₀ L m s QQ EE B F X' N T hdp hun hC3 m1 m2 m3 m4 hret
  rw [pin4 m1 m2 m3 m4] at F
  k_steps
  rename News _ _ _ _ => N5
  refine join_list (ys := [wS q0, wS q1, wS q2, Str.ofString "c"]) (PySem.IsL.isList (n := 0) (N5 _ (.head _)).1) (.cons _ _ (.cons _ _ (.cons _ _ (.cons _ _ .nil)))) ?jsz fun t' k => ?_
  case jsz =>
    have e0 : (wS q0).length = q0.length := List.size_toArray
    have e1 : (wS q1).length = q1.length := List.size_toArray
    have e2 : (wS q2).length = q2.length := List.size_toArray
    have e3 : (Str.ofString "c").length = 1 := rfl
    have e4 : (Str.ofString " ").length = 1 := rfl
    simp only [List.map_cons, List.map_nil, List.sum_cons, List.sum_nil, List.length_cons, List.length_nil, e0, e1, e2, e3, e4]
    omega
  rw [hJ]
  have N6 : News h₀ L _ ((cL, oL) :: (121, tabObj #[]) :: (72, tabObj #[]) :: (79, tabObj #[]) :: rest) := fun p hp => N5 p (.tail _ (.tail _ hp))
  clear N5
  k_steps
  refine list_V rfl (by k_asm) N6 (by omega) fun lf l nl h7 tk7 F7 N7 hlt7 el => ?_
  clear N6
  k_steps
  rename News _ _ _ _ => N8
  obtain ⟨rc, hrc⟩ : ∃ rc, rc = (cL, oL) :: (72, tabObj #[]) :: (79, tabObj #[]) :: rest := ⟨_, rfl⟩
  have N9 : News h₀ L _ ((121, tabObj #[]) :: (lf, W.listOf (chV l).toArray nl) :: rc) := fun p hp => N8 p (by
    rw [hrc] at hp
    simp only [List.mem_cons] at hp ⊢
    rcases hp with h | h | h | h | h <;> simp [h])
  clear N8
  have l121 : lf ≠ 121 := Nat.ne_of_gt (hlt7 (121, _) (.tail _ (.head _)))
  have r1 : ∀ p ∈ rc, p.1 ≠ 121 := by rw [hrc]; exact List.forall_mem_cons.mpr ⟨z2, List.forall_mem_cons.mpr ⟨(show (72 : Nat) ≠ 121 by decide), List.forall_mem_cons.mpr ⟨(show (79 : Nat) ≠ 121 by decide), z5⟩⟩⟩
  refine' c126 w rc lf (chV l).toArray nl l121 r1 _ _ _ _ _ _ _ _ _ _ _ _ _ _ _ _ _ _ _ _ _ _ ?b1 ?b2 ?b3 N9 ?b5 ?b6 ?b7 ?b8 ?b9 ?_
  case b1 => k_asm
  case b2 => k_asm
  case b3 => k_asm
  case b5 => k_asm
  case b6 => exact rfl
  case b7 => ktr_room
  case b8 => ktr_units
  case b9 => assumption
  intro S h10 tk10 ps' extra F10 N10 hS hex
  clear N9
  (try dsimp only)
  (try k_fold)
  obtain ⟨R, hR⟩ : ∃ R, R = extra ++ ((72, tabObj #[]) :: (79, tabObj #[]) :: rest) := ⟨_, rfl⟩
  have hSR : StreamAt w R lf S := by
    refine hS.drop fun p hp hd _ => ?_
    rw [hrc] at hp
    rw [hR]
    rcases List.mem_append.mp hp with hp | hp
    · exact List.mem_append_left _ hp
    · rcases List.mem_cons.mp hp with rfl | hp
      · exact absurd dL hd
      · exact List.mem_append_right _ hp
  have N11 : News h₀ L _ ((cL, oL) :: (121, tabObj ps') :: (lf, W.listOf (chV l).toArray nl) :: R) := fun p hp => N10 p (by
    rw [hR] at hp
    rw [hrc]
    simp only [List.mem_cons, List.mem_append] at hp ⊢
    rcases hp with h | h | h | h | h | h | h <;> simp [h])
  clear N10
  k_steps
  k_dflt (refine' call_cls ?k1 ?k2 ?k3 ?k4 ?k5 ?k6 ?_; (case k1 => k_asm); (case k2 => k_asm); (case k3 => k_asm); (case k4 => k_is); (case k5 => k_is); (case k6 => k_is); k_whole; intro x' d' h' F' N' l1 l2)
  have tR : TailLt d' R := fun p hp => l1 p (.tail _ (.tail _ (.tail _ hp)))
  have l1a := @ltN cL d' (l1 (cL, _) (.head _))
  have l1b := @ltN 121 d' (l1 (121, _) (.tail _ (.head _)))
  have l1c := @ltN lf d' (l1 (lf, _) (.tail _ (.tail _ (.head _))))
  have l2' := @ltN d' x' l2
  clear N11
  k_dflt (walk_at "mine enter")
  k_steps
  rename News h₀ L _ _ => N20
  rename Fr h₀ L _ _ => F20
  rename x' < _ ∧ d' < _ ∧ cL < _ ∧ 121 < _ ∧ lf < _ ∧ AllLt _ R => lpI
  obtain ⟨pI, rl, N21, mX, ⟨a1', a2', a3', a4', a5', a6', mD⟩, hrl, hdp'⟩ := pack_line N20 l2' lpI.1
  clear N20
  have hRd : ∀ p ∈ R, @LT.lt Nat _ p.1 d' := fun p hp => tR p hp
  have up : ∀ {a : Nat}, a < d' → @Ne Nat a pI := fun ha => Nat.ne_of_lt (Nat.lt_trans ha hdp')
  have nx : ∀ {a : Nat}, a < d' → ∀ q ∈ rl, @Ne Nat q.1 a := fun ha q hq => Nat.ne_of_gt (Nat.lt_of_lt_of_le ha (hrl q hq).1)
  have c72 : @LT.lt Nat _ 72 d' := hRd (72, _) (by rw [hR]; exact List.mem_append_right _ (.head _))
  have c79 : @LT.lt Nat _ 79 d' := hRd (79, _) (by rw [hR]; exact List.mem_append_right _ (.tail _ (.head _)))
  have cLlf : @LT.lt Nat _ cL lf := hlt7 (cL, _) (.head _)
  have c72lf : @LT.lt Nat _ 72 lf := hlt7 (72, _) (.tail _ (.tail _ (.head _)))
  have c79lf : @LT.lt Nat _ 79 lf := hlt7 (79, _) (.tail _ (.tail _ (.tail _ (.head _))))
  have crest : ∀ p ∈ rest, @LT.lt Nat _ p.1 lf := fun p hp => hlt7 p (.tail _ (.tail _ (.tail _ (.tail _ hp))))
  have exc : ∀ q ∈ extra, @LT.lt Nat _ cL q.1 := fun q hq => (hex q hq).2.2 (cL, oL) (by rw [hrc]; exact .head _)
  refine stC_V F20 N21 ?_ rfl dL (fun h21 oL' F22 N22 dL' => ?_) rfl rfl
  · refine List.forall_mem_cons.mpr ⟨Ne.symm (up l1a), List.forall_mem_cons.mpr ⟨Ne.symm z2, List.forall_mem_cons.mpr ⟨Nat.ne_of_gt cLlf, fun p hp => ?_⟩⟩⟩
    rcases List.mem_append.mp hp with hp | hp
    · exact nx l1a p hp
    · rw [hR] at hp
      rcases List.mem_append.mp hp with hp | hp
      · exact Nat.ne_of_gt (exc p hp)
      · rcases List.mem_cons.mp hp with rfl | hp
        · exact Ne.symm z3
        rcases List.mem_cons.mp hp with rfl | hp
        · exact Ne.symm z4
        · exact z1 p hp
  obtain ⟨r3, hr3⟩ : ∃ r3, r3 = (cL, oL') :: (121, tabObj ps') :: (rl ++ (extra ++ rest)) := ⟨_, rfl⟩
  have N23 : News h₀ L _ ((lf, W.listOf (chV l).toArray nl) :: (pI, W.listOf #[] 0) :: (72, tabObj #[]) :: (79, tabObj #[]) :: r3) := fun p hp => N22 p (by
    rw [hr3] at hp
    rw [hR]
    simp only [List.mem_cons, List.mem_append] at hp ⊢
    rcases hp with h | h | h | h | h | h | h | h | h <;> simp [h])
  have g0 : ∀ p ∈ rest, p ∈ r3 := fun p hp => by rw [hr3]; exact .tail _ (.tail _ (List.mem_append_right _ (List.mem_append_right _ hp)))
  have gX : Lex w r3 lf x' pI := by
    have hS3 : StreamAt w r3 lf S := hSR.drop fun p hp _ ht => by
      rw [hR] at hp
      rw [hr3]
      rcases List.mem_append.mp hp with hp | hp
      · exact .tail _ (.tail _ (List.mem_append_right _ (List.mem_append_left _ hp)))
      · rcases List.mem_cons.mp hp with rfl | hp
        · exact absurd rfl ht
        rcases List.mem_cons.mp hp with rfl | hp
        · exact absurd rfl ht
        · exact .tail _ (.tail _ (List.mem_append_right _ (List.mem_append_right _ hp)))
    obtain ⟨dS, pS, fL, cL', c', oc, oLf, vsc, tq, pm, ctv, b1, b2, b3, b4, b5, b6, b7, n5, k1, k2, k3, k4, k5, k6, k7, k8⟩ := hS3
    refine ⟨S, d', dS, pS, fL, cL', c', oc, oLf, vsc, tq, pm, ctv, a1', a2', a3', a4', a5', a6', b1, b2, b3, b4, b5, b6, b7, n5, ?_, ?_, k1, k2, k3, k4, k5, k6, k7, k8⟩
    · rw [hr3]; exact .tail _ (.tail _ (List.mem_append_left _ mX))
    · rw [hr3]; exact .tail _ (.tail _ (List.mem_append_left _ mD))
  have gA : Apart5 r3 lf pI := by
    have four : ∀ (P : Addr × Obj → Prop), P (cL, oL') → P (121, tabObj ps') → (∀ p ∈ rl, P p) → (∀ p ∈ extra, P p) → (∀ p ∈ rest, P p) → ∀ p ∈ r3, P p := fun P h1 h2 h3 h4 h5 p hp => by
      rw [hr3] at hp
      rcases List.mem_cons.mp hp with rfl | hp
      · exact h1
      rcases List.mem_cons.mp hp with rfl | hp
      · exact h2
      rcases List.mem_append.mp hp with hp | hp
      · exact h3 p hp
      rcases List.mem_append.mp hp with hp | hp
      · exact h4 p hp
      · exact h5 p hp
    have exd : ∀ q ∈ extra, @LT.lt Nat _ q.1 d' := fun q hq => hRd q (by rw [hR]; exact List.mem_append_left _ hq)
    refine ⟨four _ (Nat.ne_of_lt cLlf) (Ne.symm l121) (nx l1c) (fun p hp => Nat.ne_of_gt (hex p hp).2.1) (fun p hp => Nat.ne_of_lt (crest p hp)), four _ (up l1a) (up l1b) (fun p hp => Nat.ne_of_lt (hrl p hp).2) (fun p hp => up (exd p hp)) (fun p hp => up (Nat.lt_trans (crest p hp) l1c)),
      four _ z3 (show (121 : Nat) ≠ 72 by decide) (nx c72) (fun p hp => Nat.ne_of_gt (Nat.lt_trans (by decide : (72 : Nat) < 121) (hex p hp).1)) z6, four _ z4 (show (121 : Nat) ≠ 79 by decide) (nx c79) (fun p hp => Nat.ne_of_gt (Nat.lt_trans (by decide : (79 : Nat) < 121) (hex p hp).1)) z7,
      up l1c, Nat.ne_of_gt c72lf, Nat.ne_of_gt c79lf, Ne.symm (up c72), Ne.symm (up c79)⟩
  have g121 : ∃ ps, (121, tabObj ps) ∈ r3 := ⟨ps', by rw [hr3]; exact .tail _ (.head _)⟩
  have gL : (cL, oL') ∈ r3 := by rw [hr3]; exact .head _
  clear hr3 N22 N21 F20 hrl mX mD hex exc hSR hS hR hRd up nx tR lpI hrc
  k_steps
  exact hret _ _ _ lf x' pI oL' l nl r3 rfl rfl rfl F22 N23 el g0 g121 gL dL' gX gA
end Mine
end
section
open PySem PySem.W PyProof.Rows PySem.Calls PySem.Spec PySem.SeqAt
set_option Elab.async false
set_option maxRecDepth 100000
set_option maxHeartbeats 8000000
set_option pp.deepTerms false
set_option pp.maxSteps 400
namespace Mine
theorem news_perm5 {h₀ h : Heap} {L : Addr} {a b c x y : Addr × Obj} {r : List (Addr × Obj)} (N : News h₀ L h (a :: b :: c :: x :: y :: r)) : News h₀ L h (x :: y :: a :: b :: c :: r) := fun p hp => N p (by
  simp only [List.mem_cons] at hp ⊢
  rcases hp with h | h | h | h | h | h <;> simp [h])
theorem news_back5 {h₀ h : Heap} {L : Addr} {a b c x y : Addr × Obj} {r : List (Addr × Obj)} (N : News h₀ L h (x :: y :: a :: b :: c :: r)) : News h₀ L h (a :: b :: c :: x :: y :: r) := fun p hp => N p (by
  simp only [List.mem_cons] at hp ⊢
  rcases hp with h | h | h | h | h | h <;> simp [h])
theorem ne_strs3 {prog : Program} {w : World} {A : Around} {E : Value → Shared → Prop} {s : Shared} {a b : Addr} {x y z : Str} {r1 r2 r3 v1 v2 v3 : Tok} {Q : Value → Shared → Prop}
    (hl : s.heap.IsList a #[.str x r1, .str y r2, .str z r3]) (hl' : s.heap.IsList b #[.str x v1, .str y v2, .str z v3]) (ox : PyData.strOk x = true) (oy : PyData.strOk y = true) (oz : PyData.strOk z = true) (hu : A.units + 64 < cLine) (h : Q (.bool false) s) : wpAny (model prog w) A (compareOp .NotEq (.ref a) (.ref b)) Q E s := by
  have rd : ∀ (c : Addr) (k1 k2 k3 : Tok), s.heap.IsList c #[.str x k1, .str y k2, .str z k3] → Reads s.heap (.ref c) (.list [.str x, .str y, .str z]) [c] := fun c k1 k2 k3 hl => by
    obtain ⟨o, ho, hc, n, hd⟩ := hl
    have h3 := StrsAre.reads s.heap (.cons x k1 (.cons y k2 (.cons z k3 .nil)))
    exact Reads.list ho hc hd (by simpa using h3)
  have sh : shaped (.list [.str x, .str y, .str z]) = true := by
    show (PyData.canLay0 (.list [.str x, .str y, .str z]) && decide (PyData.depth (.list [.str x, .str y, .str z]) ≤ 64)) = true
    simp [PyData.canLay0, PyData.canLayAll0, PyData.depth, PyData.depthAll, ox, oy, oz]
  exact ne_dataH_same (rd _ _ _ _ hl) (rd _ _ _ _ hl') sh sh hu (by simp [noMix, noMixAll]) (by simpa [PySem.Spec.same, PySem.Spec.sameAll] using h)
local macro_rules | `(tactic| walk_at "compareOp NotEq ref ref") => `(tactic| refine Hold.mk ?_)
local macro_rules | `(tactic| walk_at "call ref") => `(tactic| refine Hold.mk ?_)
local macro_rules | `(tactic| walk_at "execs cons") => `(tactic| ((with_reducible show wpAny _ _ (execs (Stmt.Assign [Expr.Name (Str.ofString "counts") _] _ _ :: _) _) _ _ _); refine Hold.mk ?_))
theorem t2b : ∀ (w : World) (rest : List (Addr × Obj)) (lf I pI sD : Addr) (t0 t1 t2 : Tok) (n np nS : Nat) (l : List (Nat × Tok)) (kd : List Nat) (q wd : Int) (u1 u2 : Tok) (cL cP cS fa : Addr) (oL : Obj) (ccd : Value),
   Lex w rest lf I pI → Apart5 rest lf pI → (sD, sgL kd t0 t1 t2 nS) ∈ rest → (cL, oL) ∈ rest → oL.data = .cell (some (.ref I)) → PyData.strOk (wS kd) = true → l.length ≤ 100 → (∀ p ∈ l, p.1 ≠ 10) →
   (∃ l1 l2 ta tb, gtok l = some ([40], l1) ∧ gtok l1 = some ([41], l2) ∧ gtok l2 = some (kd, [(32, ta), (99, tb)]) ∧ (∀ p ∈ l1, p ∈ l) ∧ (∀ p ∈ l2, p ∈ l) ∧ l1.length ≤ l.length ∧ l2.length ≤ l.length) →
   ∀ (p : Program) (loose : List Str) (mean : ExcName → Option Value) (mg mb : Str → Option Value) (dp un : Nat) (gd : Option (List Code)) (outer : List Env) (A₀ : Around) (base h₀ : Heap) (L : Addr) (m : Str → Option Value) (s : Shared) (QQ : Flow → Shared → Prop) (EE : Value → Shared → Prop),
   Below A₀ base outer h₀ → Fr h₀ L s.heap m → (hd.heap_39 w.params).In h₀ → News h₀ L s.heap ((lf, W.listOf (chV l).toArray n) :: (pI, W.listOf #[] np) :: (72, tabObj #[]) :: (79, tabObj #[]) :: rest) → Top p loose mean mg mb h₀ → 
   dp + 400 < recursionLimit → un + 8 * 400 < cLine → CodeHd base 125 121 →
   m (Str.ofString "pairs") = some (.int q u1) → m (Str.ofString "width") = some (.int wd u2) → m (Str.ofString "signs") = some (.ref sD) →
   (∀ m' h' tk' n' ta tb, m' (Str.ofString "pairs") = some (.int q u1) → m' (Str.ofString "width") = some (.int wd u2) → m' (Str.ofString "signs") = some (.ref sD) → Fr h₀ L h' m' → News h₀ L h' ((lf, W.listOf (chV [(32, ta), (99, tb)]).toArray n') :: (pI, W.listOf #[] np) :: (72, tabObj #[]) :: (79, tabObj #[]) :: rest) →
     wpAny (theM w) (topL dp un gd L fa ccd cL cP cS outer) (execs (lB.drop 6) (envL L fa ccd cL cP cS)) QQ EE { s with heap := h', toks := tk' }) →
   wpAny (theM w) (topL dp un gd L fa ccd cL cP cS outer) (execs (lB.drop 5) (envL L fa ccd cL cP cS)) QQ EE s := by
  dsimp only [theM, topL]
  simp only [envL, scL, lB, scopeAt, stmtAt, bodyAt, PySem.Challenge.pw_rs0143_01, List.getElem?_cons_zero, List.getElem?_cons_succ, Option.getD_some, List.drop_succ_cons, List.drop_zero]
  k_fill
  intro w rest lf I pI sD t0 t1 t2 n np nS l kd q wd u1 u2 cL cP cS fa oL ccd hX hAp mS mL dL hok hl hnl ⟨l1, l2, ta, tb, G1, G2, G3, s1, s2, k1, k2⟩ p loose mean mg mb dp un gd outer A₀ base h₀ L m s QQ EE B F X' N T hdp hun hC3 m1 m2 m3 hret
  rw [pin4 m1 m2 m3 m3] at F
  have hX2 := hX
  obtain ⟨S, dI, dS, pS, fL, cL', c', oc, oLf, vsc, tq, pm, ctv, a1, a2, a3, a4, a5, a6, b1, b2, b3, b4, b5, b6, b7, n5, mI, mdI, mS', mdS, mf, mc, dc, vc, mcL, dcL⟩ := hX
  k_steps
  rename News _ _ _ _ => NA
  rename ((_ ∧ _ ∧ _) ∧ (_ ∧ _ ∧ _) ∧ _) => off9
  have NB := news_perm5 NA
  clear NA
  refine' c42 w _ lf I pI l l1 [40] _ np (hX2.mono fun p hp => .tail _ (.tail _ (.tail _ (.tail _ (.tail _ hp))))) (List.forall_mem_cons.mpr ⟨Ne.symm off9.1.1, List.forall_mem_cons.mpr ⟨Ne.symm off9.1.2.1, List.forall_mem_cons.mpr ⟨Ne.symm off9.1.2.2, List.forall_mem_cons.mpr ⟨Ne.symm hAp.b2, List.forall_mem_cons.mpr ⟨Ne.symm hAp.b3, hAp.a1⟩⟩⟩⟩⟩)
    (List.forall_mem_cons.mpr ⟨Ne.symm off9.2.1.1, List.forall_mem_cons.mpr ⟨Ne.symm off9.2.1.2.1, List.forall_mem_cons.mpr ⟨Ne.symm off9.2.1.2.2, List.forall_mem_cons.mpr ⟨Ne.symm hAp.b4, List.forall_mem_cons.mpr ⟨Ne.symm hAp.b5, hAp.a2⟩⟩⟩⟩⟩) hAp.b1 G1 (by omega) hnl _ _ _ _ _ _ _ _ _ _ _ _ _ _ _ _ _ _ _ _ _ _ ?b1 ?b2 ?b3 NB ?b5 ?b6 ?b7 ?b8 ?b9 ?_
  case b1 => k_asm
  case b2 => k_asm
  case b3 => k_asm
  case b5 => k_asm
  case b6 => exact rfl
  case b7 => ktr_room
  case b8 => ktr_units
  case b9 => assumption
  intro hh9 tkh9 nh9 th9 Fh9 Nh9
  have Nh8 := news_back5 Nh9
  clear NB Nh9
  (try dsimp only)
  (try k_fold)
  refine ⟨_, _, _, rfl, Fh9, Nh8, off9, .inr ⟨_, .tail _ (.tail _ (.tail _ (.tail _ mS))), rfl, nS, rfl⟩, ?_⟩
  clear Nh8 Fh9 off9
  k_steps
  rename News _ _ _ _ => NA
  rename ((_ ∧ _ ∧ _) ∧ (_ ∧ _ ∧ _) ∧ _) => off9
  have NB := news_perm5 NA
  clear NA
  refine' c42 w _ lf I pI l1 l2 [41] _ np (hX2.mono fun p hp => .tail _ (.tail _ (.tail _ (.tail _ (.tail _ hp))))) (List.forall_mem_cons.mpr ⟨Ne.symm off9.1.1, List.forall_mem_cons.mpr ⟨Ne.symm off9.1.2.1, List.forall_mem_cons.mpr ⟨Ne.symm off9.1.2.2, List.forall_mem_cons.mpr ⟨Ne.symm hAp.b2, List.forall_mem_cons.mpr ⟨Ne.symm hAp.b3, hAp.a1⟩⟩⟩⟩⟩)
    (List.forall_mem_cons.mpr ⟨Ne.symm off9.2.1.1, List.forall_mem_cons.mpr ⟨Ne.symm off9.2.1.2.1, List.forall_mem_cons.mpr ⟨Ne.symm off9.2.1.2.2, List.forall_mem_cons.mpr ⟨Ne.symm hAp.b4, List.forall_mem_cons.mpr ⟨Ne.symm hAp.b5, hAp.a2⟩⟩⟩⟩⟩) hAp.b1 G2 (by omega) (fun p hp => hnl p (s1 p hp)) _ _ _ _ _ _ _ _ _ _ _ _ _ _ _ _ _ _ _ _ _ _ ?b1 ?b2 ?b3 NB ?b5 ?b6 ?b7 ?b8 ?b9 ?_
  case b1 => k_asm
  case b2 => k_asm
  case b3 => k_asm
  case b5 => k_asm
  case b6 => exact rfl
  case b7 => ktr_room
  case b8 => ktr_units
  case b9 => assumption
  intro hh9 tkh9 nh9 th9 Fh9 Nh9
  have Nh8 := news_back5 Nh9
  clear NB Nh9
  (try dsimp only)
  (try k_fold)
  refine ⟨_, _, _, rfl, Fh9, Nh8, off9, .inr ⟨_, .tail _ (.tail _ (.tail _ (.tail _ mS))), rfl, nS, rfl⟩, ?_⟩
  clear Nh8 Fh9 off9
  k_steps
  rename News _ _ _ _ => NA
  rename ((_ ∧ _ ∧ _) ∧ (_ ∧ _ ∧ _) ∧ _) => off9
  have NB := news_perm5 NA
  clear NA
  refine' c42 w _ lf I pI l2 [(32, ta), (99, tb)] kd _ np (hX2.mono fun p hp => .tail _ (.tail _ (.tail _ (.tail _ (.tail _ hp))))) (List.forall_mem_cons.mpr ⟨Ne.symm off9.1.1, List.forall_mem_cons.mpr ⟨Ne.symm off9.1.2.1, List.forall_mem_cons.mpr ⟨Ne.symm off9.1.2.2, List.forall_mem_cons.mpr ⟨Ne.symm hAp.b2, List.forall_mem_cons.mpr ⟨Ne.symm hAp.b3, hAp.a1⟩⟩⟩⟩⟩)
    (List.forall_mem_cons.mpr ⟨Ne.symm off9.2.1.1, List.forall_mem_cons.mpr ⟨Ne.symm off9.2.1.2.1, List.forall_mem_cons.mpr ⟨Ne.symm off9.2.1.2.2, List.forall_mem_cons.mpr ⟨Ne.symm hAp.b4, List.forall_mem_cons.mpr ⟨Ne.symm hAp.b5, hAp.a2⟩⟩⟩⟩⟩) hAp.b1 G3 (by omega) (fun p hp => hnl p (s2 p hp)) _ _ _ _ _ _ _ _ _ _ _ _ _ _ _ _ _ _ _ _ _ _ ?b1 ?b2 ?b3 NB ?b5 ?b6 ?b7 ?b8 ?b9 ?_
  case b1 => k_asm
  case b2 => k_asm
  case b3 => k_asm
  case b5 => k_asm
  case b6 => exact rfl
  case b7 => ktr_room
  case b8 => ktr_units
  case b9 => assumption
  intro hh9 tkh9 nh9 th9 Fh9 Nh9
  have Nh8 := news_back5 Nh9
  clear NB Nh9
  (try dsimp only)
  (try k_fold)
  refine ⟨_, _, _, rfl, Fh9, Nh8, off9, .inr ⟨_, .tail _ (.tail _ (.tail _ (.tail _ mS))), rfl, nS, rfl⟩, ?_⟩
  clear Nh8 Fh9 off9
  k_steps
  rename News _ _ _ _ => NZ
  refine ne_strs3 (x := Str.ofString "(") (y := Str.ofString ")") (z := wS kd) (PySem.IsL.isList (n := 3) (NZ _ (.head _)).1) (PySem.IsL.isList (n := nS) (NZ (sD, sgL kd t0 t1 t2 nS) (.tail _ (.tail _ (.tail _ (.tail _ (.tail _ mS)))))).1) (by decide +kernel) (by decide +kernel) hok (by ktr_units) ?_
  k_steps
  rename News _ _ _ _ => NY
  exact hret _ _ _ _ ta tb rfl rfl rfl (by k_asm) (fun p hp => NY p (.tail _ hp))
end Mine
end
section
open PySem PySem.W PyProof.Rows PySem.Calls PySem.Spec
set_option Elab.async false
set_option maxRecDepth 100000
set_option maxHeartbeats 8000000
set_option pp.deepTerms false
set_option pp.maxSteps 400
namespace Mine
theorem news_third {h₀ h : Heap} {L : Addr} {a b c d : Addr × Obj} {r : List (Addr × Obj)} (N : News h₀ L h (a :: b :: c :: d :: r)) : News h₀ L h (d :: a :: b :: c :: r) := fun p hp => N p (by
  simp only [List.mem_cons] at hp ⊢
  rcases hp with h | h | h | h | h <;> simp [h])
noncomputable def kinds : List (List Nat) := [[120], [92, 34], [34, 41, 40, 34], [92, 41], [34, 40, 34], [92, 40]]
theorem int_rest2 {prog : Program} {w : World} {A : Around} {s : Shared} {h₀ : Heap} {L : Addr} {m : Str → Option Value} {env : Env} {elt : Expr} {x : Str} {scope : Scope} {cl : List (Str × Addr)} {Fin : List Value → List (Addr × Obj) → Prop} {n : Nat} {news : List (Addr × Obj)} {S : List (Addr × Obj) → Prop} {P : Nat → Value → Prop} (hP : ∀ i v, i < n → P i v → ∃ t, v = .int (i : Int) t) (g : Nat → Int)
    (turn : ∀ i t I oI C oC D m₂ ys h tk (E' : Value → Shared → Prop), i < n → LCg.NsObj oC m₂ → m₂ x = some (.int (i : Int) t) → Fr h₀ L h m → News h₀ L h ((I, oI) :: (C, oC) :: (D, LCg.lst ys) :: news) → LCg.Off3 I C D news → ((@Ne Nat I C) ∧ (@Ne Nat I D) ∧ (@Ne Nat C D)) →
      wpAny (model prog w) A (eval elt (compEnvC scope cl C env)) (LCg.CompEnd h₀ L m { s with heap := h, toks := tk } I oI C oC D (LCg.lst ys) S (fun y news' => news' = news ∧ ∃ t, y = .int (g i) t)) E' { s with heap := h, toks := tk })
    (fin : ∀ ys, IntsAre ys ((List.range n).map g) → Fin ys news) : LCg.CompRest prog w A h₀ L m env elt x scope cl s S P Fin n 0 [] news := by
  have key : ∀ (j i : Nat) (ys : List Value), i + j = n → IntsAre ys ((List.range i).map g) → LCg.CompRest prog w A h₀ L m env elt x scope cl s S P Fin j i ys news := by
    intro j
    induction j with
    | zero =>
      intro i ys hi hy
      have e : i = n := by omega
      subst e
      exact LCg.CompRest.zero (fin ys hy)
    | succ j ih =>
      intro i ys hi hy
      refine LCg.CompRest.succ ?_
      intro v I oI C oC D m₂ h tk E' hv hC hx F N off ne
      obtain ⟨t, rfl⟩ := hP i v (by omega) hv
      refine wpAny_mono (turn i t I oI C oC D m₂ ys h tk E' (by omega) hC hx F N off ne) (fun y' s₂ hq => ?_) fun _ _ e => e
      obtain ⟨h', tk', nw, e, F', N', off', hS, hn, t', hy'⟩ := hq
      subst hn
      subst hy'
      refine ⟨h', tk', _, e, F', N', off', hS, ?_⟩
      refine ih (i + 1) _ (by omega) ?_
      rw [List.range_succ, List.map_append]
      exact hy.append (.cons _ _ .nil)
  exact key n 0 [] (by omega) .nil
theorem pick3 (a b c : Tok) (i : Nat) (hi : i < 3) : ∃ tt, [Value.int 2 a, Value.int 3 b, Value.int 0 c][((i : Nat) : Int).toNat]? = some (.int (([2, 3, 0] : List Int).getD i 0) tt) := by
  match i, hi with
  | 0, _ => exact ⟨a, rfl⟩
  | 1, _ => exact ⟨b, rfl⟩
  | 2, _ => exact ⟨c, rfl⟩
theorem pick6 (a b c d e f : Tok) (x : Int) : ∃ kd, kd ∈ kinds ∧ ∃ tt, [Value.str (Str.ofString "x") a, Value.str (Str.ofString "\\\"") b, Value.str (Str.ofString "\")(\"") c, Value.str (Str.ofString "\\)") d, Value.str (Str.ofString "\"(\"") e, Value.str (Str.ofString "\\(") f][(x.fmod 6).toNat]? = some (.str (wS kd) tt) := by
  have h0 := Int.fmod_nonneg_of_pos x (b := 6) (by decide)
  have h1 := Int.fmod_lt_of_pos x (b := 6) (by decide)
  generalize hk : (x.fmod 6).toNat = k
  have : k < 6 := by omega
  match k, this with
  | 0, _ => exact ⟨_, .head _, a, rfl⟩
  | 1, _ => exact ⟨_, .tail _ (.head _), b, rfl⟩
  | 2, _ => exact ⟨_, .tail _ (.tail _ (.head _)), c, rfl⟩
  | 3, _ => exact ⟨_, .tail _ (.tail _ (.tail _ (.head _))), d, rfl⟩
  | 4, _ => exact ⟨_, .tail _ (.tail _ (.tail _ (.tail _ (.head _)))), e, rfl⟩
  | 5, _ => exact ⟨_, .tail _ (.tail _ (.tail _ (.tail _ (.tail _ (.head _))))), f, rfl⟩
theorem news_ten {h₀ h : Heap} {L : Addr} {a b c d e f g x y z : Addr × Obj} (N : News h₀ L h [a, b, c, d, e, f, g, x, y, z]) : News h₀ L h (f :: x :: y :: z :: [a, b, c, d, e, g]) := fun p hp => N p (by
  simp only [List.mem_cons] at hp ⊢
  rcases hp with h | h | h | h | h | h | h | h | h | h | h <;> simp_all)
theorem six_ne {P : Addr × Obj → Prop} {a b c d e f : Addr × Obj} (h1 : P a) (h2 : P b) (h3 : P c) (h4 : P d) (h5 : P e) (h6 : P f) : ∀ p ∈ [a, b, c, d, e, f], P p :=
  List.forall_mem_cons.mpr ⟨h1, List.forall_mem_cons.mpr ⟨h2, List.forall_mem_cons.mpr ⟨h3, List.forall_mem_cons.mpr ⟨h4, List.forall_mem_cons.mpr ⟨h5, List.forall_mem_cons.mpr ⟨h6, fun _ h => nomatch h⟩⟩⟩⟩⟩⟩
local macro_rules | `(tactic| walk_at "eval ListComp") => `(tactic| refine Hold.mk ?_)
local macro_rules | `(tactic| walk_at "exec Assign cons ListComp") => `(tactic| refine Hold.mk ?_)
local macro_rules | `(tactic| walk_at "CompSrc") => `(tactic| refine Hold.mk ?_)
local macro_rules | `(tactic| walk_at "execs cons") => `(tactic| ((with_reducible show wpAny _ _ (execs (Stmt.Assign [Expr.Name (Str.ofString "quoted") _] _ _ :: _) _) _ _ _); refine Hold.mk ?_))
local macro_rules | `(tactic| walk_at "storeName") => `(tactic| ((with_reducible show wpAny _ _ (storeName _ (Str.ofString "pieces") _) _ _ _); refine Hold.mk ?_))
local macro_rules | `(tactic| walk_at "subscriptTail") => `(tactic| ((with_reducible show wpAny _ _ (subscriptTail (Expr.List _ _) _ (Value.ref _) (Value.int _ _)) _ _ _); refine Hold.mk ?_))
local macro_rules | `(tactic| walk_at "call builtin:sum") => `(tactic| refine Hold.mk ?_)
theorem t1a : ∀ (w : World) (fS : Addr) (vs : List Value) (ns : List Int) (cL cP cS fa : Addr) (oL oP oS : Obj) (ccd : Value),
   @LT.lt Nat _ cS cP → @LT.lt Nat _ cP cL → @LT.lt Nat _ 121 cS → oL.data = .cell none → oP.data = .cell none → oS.data = .cell (some (.ref fS)) → IntsAre vs ns → ns.length ≤ 63 →
   ∀ (p : Program) (loose : List Str) (mean : ExcName → Option Value) (mg mb : Str → Option Value) (dp un : Nat) (gd : Option (List Code)) (outer : List Env) (A₀ : Around) (base h₀ : Heap) (L : Addr) (m : Str → Option Value) (s : Shared) (QQ : Flow → Shared → Prop) (EE : Value → Shared → Prop),
   h₀.IsList fS vs.toArray → Below A₀ base outer h₀ → Fr h₀ L s.heap m → (hd.heap_39 w.params).In h₀ → News h₀ L s.heap [(cL, oL), (cP, oP), (cS, oS), (121, tabObj #[]), (72, tabObj #[]), (79, tabObj #[])] → Top p loose mean mg mb h₀ → 
   dp + 400 < recursionLimit → un + 8 * 400 < cLine →
   (∀ m' h' tk' pc q wd u1 u2 u5 oP' sD kd t0 t1 t2 nS rest, m' (Str.ofString "pairs") = some (.int q u1) → m' (Str.ofString "width") = some (.int wd u2) → m' (Str.ofString "signs") = some (.ref sD) → Fr h₀ L h' m' → News h₀ L h' ((cL, oL) :: (121, tabObj #[]) :: (72, tabObj #[]) :: (79, tabObj #[]) :: rest) →
     0 ≤ pc → pc < 10 → 0 ≤ q → q < 10 → 25 ≤ wd → wd < 65 → (cP, oP') ∈ rest → oP'.data = .cell (some (.int pc u5)) → (sD, sgL kd t0 t1 t2 nS) ∈ rest → kd ∈ kinds → (∀ p ∈ rest, p.1 ≠ cL) → (∀ p ∈ rest, p.1 ≠ 121) → (∀ p ∈ rest, p.1 ≠ 72) → (∀ p ∈ rest, p.1 ≠ 79) →
     wpAny (theM w) (topL dp un gd L fa ccd cL cP cS outer) (execs (lB.drop 3) (envL L fa ccd cL cP cS)) QQ EE { s with heap := h', toks := tk' }) →
   wpAny (theM w) (topL dp un gd L fa ccd cL cP cS outer) (execs lB (envL L fa ccd cL cP cS)) QQ EE s := by
  dsimp only [theM, topL]
  simp only [envL, scL, lB, scopeAt, stmtAt, bodyAt, PySem.Challenge.pw_rs0143_01, List.getElem?_cons_zero, List.getElem?_cons_succ, Option.getD_some, List.drop_succ_cons, List.drop_zero]
  k_fill
  intro w fS vs ns cL cP cS fa oL oP oS ccd o1 o2 o3 dL dP dS hI hlen p loose mean mg mb dp un gd outer A₀ base h₀ L m s QQ EE hl B F X' N T hdp hun hret
  k_steps
  refine LCg.Assign_ListComp_U (F₀ := F) rfl (by with_unfolding_all rfl) (by with_unfolding_all rfl) (by decide) rfl (by decide) rfl rfl rfl ?_
  k_steps
  rename IsRange _ _ _ _ _ _ _ _ => hR
  refine LCg.CompSrc.range rfl (by k_asm) (by k_asm) hR (by decide) (n := 3) (by rfl) (by rw [sizeLine]; decide) fun h10 => ?_
  refine int_rest2 (fun i v _ hv => by obtain ⟨t, e⟩ := hv; exact ⟨t, by rw [e]; congr 1; omega⟩) (fun i => ([2, 3, 0] : List Int).getD i 0 + (pickNums ns (some (i : Int)) (some 63) (some 3)).sum) ?turn ?fin
  case turn =>
    intro i t I' oI C oC D m₂ ys h tk E' hi hC hmx F N off ne
    clear hR
    k_steps
    rename News _ _ _ _ => NL
    have nl := NL _ (.head _)
    dsimp only at nl
    obtain ⟨tt, ht⟩ := pick3 _ _ _ i hi
    refine item_V (PySem.IsL.isList (n := 0) nl.1) (by omega) (by omega) ht ?_
    clear nl ht
    k_steps
    rename News _ _ _ _ => NQ
    have nq := NQ _ (.head _)
    dsimp only at nq
    refine sumK rfl (by k_asm) NQ (vs := (slicePick vs.toArray (some ((i : Nat) : Int)) (some 63) (some 3)).toList) ⟨_, nq.1, rfl, 0, by simp⟩ (hI.pick _ _ _) fun hh9 tk9 t9 Fh9 Nh9 => ?_
    clear NQ
    k_steps
    exact ⟨_, _, _, rfl, Fh9, fun p hp => Nh9 p (.tail _ (.tail _ hp)), off, trivial, rfl, _, rfl⟩
  case fin =>
    intro ys hys D h tk F N off
    (try dsimp only)
    clear hR
    rw [show List.range 3 = [0, 1, 2] from rfl] at hys
    simp only [List.map_cons, List.map_nil] at hys
    generalize ([2, 3, 0] : List Int).getD 0 0 + (pickNums ns (some ((0 : Nat) : Int)) (some 63) (some 3)).sum = x0 at hys
    generalize ([2, 3, 0] : List Int).getD 1 0 + (pickNums ns (some ((1 : Nat) : Int)) (some 63) (some 3)).sum = x1 at hys
    generalize ([2, 3, 0] : List Int).getD 2 0 + (pickNums ns (some ((2 : Nat) : Int)) (some 63) (some 3)).sum = x2 at hys
    cases hys with
    | cons _ tx0 hys =>
    cases hys with
    | cons _ tx1 hys =>
    cases hys with
    | cons _ tx2 hys =>
    cases hys
    k_steps
    rename News _ _ _ _ => N5
    rename D < _ ∧ _ => l5
    have q0 : (121 : Nat) < cP := Nat.lt_trans o3 o1
    have q1 : (72 : Nat) < cP := Nat.lt_trans (by decide) q0
    have q2 : (79 : Nat) < cP := Nat.lt_trans (by decide) q0
    have hDP : @Ne Nat D cP := Ne.symm off.2.1
    refine stC_V (by k_asm) (news_third N5) ?_ rfl dP (fun h21 oP' F22 N22 dP' => ?_) rfl rfl
    · exact List.forall_mem_cons.mpr ⟨Nat.ne_of_gt l5.2.2.1, List.forall_mem_cons.mpr ⟨hDP, List.forall_mem_cons.mpr ⟨Nat.ne_of_gt o2, List.forall_mem_cons.mpr ⟨Nat.ne_of_lt o1, List.forall_mem_cons.mpr ⟨Nat.ne_of_lt q0, List.forall_mem_cons.mpr ⟨Nat.ne_of_lt q1, List.forall_mem_cons.mpr ⟨Nat.ne_of_lt q2, fun _ h => nomatch h⟩⟩⟩⟩⟩⟩⟩
    clear N5
    k_steps
    rename News _ _ _ _ => NM
    rename cP < _ ∧ _ => l6
    have nm := NM _ (.head _)
    dsimp only at nm
    have g0 := Int.fmod_nonneg_of_pos (x0 + x1) (b := 6) (by decide)
    have g1 := Int.fmod_lt_of_pos (x0 + x1) (b := 6) (by decide)
    obtain ⟨kd, hkd, tt, ht⟩ := pick6 _ _ _ _ _ _ (x0 + x1)
    refine item_V (PySem.IsL.isList (n := 0) nm.1) g0 (Int.lt_trans g1 (by decide)) ht ?_
    clear nm ht
    k_steps
    rename News _ _ _ _ => NM
    rename _ < _ ∧ cP < _ ∧ _ => l1
    have n10 := news_ten NM
    clear NM
    refine' hret _ _ _ _ _ _ _ _ _ _ _ kd _ _ _ _ _ ?p1 ?p2 ?p3 ?ff n10 ?q1 ?q2 ?q3 ?q4 ?w1 ?w2 (.tail _ (.tail _ (.head _))) dP' (.head _) hkd ?c1 ?c2 ?c3 ?c4
    case ff => assumption
    case p1 => rfl
    case p2 => rfl
    case p3 => rfl
    case q1 => exact Int.fmod_nonneg_of_pos _ (by decide)
    case q2 => exact Int.fmod_lt_of_pos _ (by decide)
    case q3 => exact Int.fmod_nonneg_of_pos _ (by decide)
    case q4 => exact Int.fmod_lt_of_pos _ (by decide)
    case w1 =>
      have g2 := Int.fmod_nonneg_of_pos ([x0, x1, x2].getD (Int.toNat 2) 0) (b := 40) (by decide)
      exact Int.le_add_of_nonneg_right g2
    case w2 =>
      have g3 := Int.fmod_lt_of_pos ([x0, x1, x2].getD (Int.toNat 2) 0) (b := 40) (by decide)
      exact Int.add_lt_add_left g3 25
    case c1 => exact six_ne (Nat.ne_of_gt l1.2.2.2.2.1) (Nat.ne_of_gt l6.2.2.2.1) (Nat.ne_of_lt o2) (Nat.ne_of_gt l5.2.1) (Ne.symm off.1) (Nat.ne_of_lt (Nat.lt_trans o1 o2))
    case c2 => exact six_ne (Nat.ne_of_gt l1.2.2.2.2.2.2.1) (Nat.ne_of_gt l6.2.2.2.2.2.1) (Nat.ne_of_gt q0) (Nat.ne_of_gt l5.2.2.2.2.1) (Ne.symm off.2.2.2.1) (Nat.ne_of_gt o3)
    case c3 => exact six_ne (Nat.ne_of_gt l1.2.2.2.2.2.2.2.1) (Nat.ne_of_gt l6.2.2.2.2.2.2.1) (Nat.ne_of_gt q1) (Nat.ne_of_gt l5.2.2.2.2.2.1) (Ne.symm off.2.2.2.2.1) (Nat.ne_of_gt (Nat.lt_trans (by decide) o3))
    case c4 => exact six_ne (Nat.ne_of_gt l1.2.2.2.2.2.2.2.2) (Nat.ne_of_gt l6.2.2.2.2.2.2.2) (Nat.ne_of_gt q2) (Nat.ne_of_gt l5.2.2.2.2.2.2) (Ne.symm off.2.2.2.2.2.1) (Nat.ne_of_gt (Nat.lt_trans (by decide) o3))
end Mine
end
end
section
local macro_rules | `(tactic| walk_at "none 0") => `(tactic| skip)
open PySem PySem.W PyProof.Rows PySem.Calls PySem.Spec
set_option Elab.async false
set_option maxRecDepth 100000
set_option maxHeartbeats 8000000
set_option pp.deepTerms false
set_option pp.maxSteps 400
namespace Mine
theorem three_rest {prog : Program} {w : World} {A : Around} {s : Shared} {h₀ : Heap} {L : Addr} {m : Str → Option Value} {env : Env} {elt : Expr} {x : Str} {scope : Scope} {cl : List (Str × Addr)} {Fin : List Value → List (Addr × Obj) → Prop} {news : List (Addr × Obj)} {S : List (Addr × Obj) → Prop} {x0 x1 x2 : Str} {t0 t1 t2 : Tok} (g : Str → Str)
    (turn : ∀ y t I oI C oC D m₂ ys h tk (E' : Value → Shared → Prop), (y = x0 ∨ y = x1 ∨ y = x2) → LCg.NsObj oC m₂ → m₂ x = some (.str y t) → Fr h₀ L h m → News h₀ L h ((I, oI) :: (C, oC) :: (D, LCg.lst ys) :: news) → LCg.Off3 I C D news → ((@Ne Nat I C) ∧ (@Ne Nat I D) ∧ (@Ne Nat C D)) →
      wpAny (model prog w) A (eval elt (compEnvC scope cl C env)) (LCg.CompEnd h₀ L m { s with heap := h, toks := tk } I oI C oC D (LCg.lst ys) S (fun y' news' => news' = news ∧ ∃ t', y' = .str (g y) t')) E' { s with heap := h, toks := tk })
    (fin : ∀ a b c, Fin [.str (g x0) a, .str (g x1) b, .str (g x2) c] news) : LCg.CompRest prog w A h₀ L m env elt x scope cl s S (fun i v => (#[.str x0 t0, .str x1 t1, .str x2 t2] : Array Value)[i]? = some v) Fin 3 0 [] news := by
  refine LCg.CompRest.succ ?_
  intro v I oI C oC D m₂ h tk E' hv hC hx F N off ne
  have e : v = .str x0 t0 := by simpa using hv.symm
  subst e
  refine wpAny_mono (turn _ _ I oI C oC D m₂ _ h tk E' (.inl rfl) hC hx F N off ne) (fun y' s₂ hq => ?_) fun _ _ e => e
  obtain ⟨h', tk', nw, e, F', N', off', hS, hn, a, hy'⟩ := hq
  subst hn
  subst hy'
  refine ⟨h', tk', _, e, F', N', off', hS, ?_⟩
  refine LCg.CompRest.succ ?_
  clear e F' N' off' off ne N F hC hx hv
  intro v I oI C oC D m₂ h tk E' hv hC hx F N off ne
  have e : v = .str x1 t1 := by simpa using hv.symm
  subst e
  refine wpAny_mono (turn _ _ I oI C oC D m₂ _ h tk E' (.inr (.inl rfl)) hC hx F N off ne) (fun y' s₂ hq => ?_) fun _ _ e => e
  obtain ⟨h', tk', nw, e, F', N', off', hS, hn, b, hy'⟩ := hq
  subst hn
  subst hy'
  refine ⟨h', tk', _, e, F', N', off', hS, ?_⟩
  refine LCg.CompRest.succ ?_
  clear e F' N' off' off ne N F hC hx hv
  intro v I oI C oC D m₂ h tk E' hv hC hx F N off ne
  have e : v = .str x2 t2 := by simpa using hv.symm
  subst e
  refine wpAny_mono (turn _ _ I oI C oC D m₂ _ h tk E' (.inr (.inr rfl)) hC hx F N off ne) (fun y' s₂ hq => ?_) fun _ _ e => e
  obtain ⟨h', tk', nw, e, F', N', off', hS, hn, c, hy'⟩ := hq
  subst hn
  subst hy'
  refine ⟨h', tk', _, e, F', N', off', hS, ?_⟩
  exact LCg.CompRest.zero (fin a b c)
/-- a word in quotes, a backslash ahead of each sign -/
noncomputable def qte (x : List Nat) : List Nat := [34] ++ x.flatMap (fun c => [92, c]) ++ [34]
theorem addw_V {prog : Program} {w : World} {A : Around} {E : Value → Shared → Prop} {s : Shared} {x z : List Nat} {t u : Tok} {Q : Value → Shared → Prop} (hl : x.length + z.length ≤ 1000)
    (h : ∀ t' k, Q (.str (wS (x ++ z)) t') { s with toks := k }) : wpAny (model prog w) A (binaryOp .Add (.str (wS x) t) (.str (wS z) u)) Q E s := by
  refine SBL.add (hsz := ?hsz) fun t' k hx => ?_
  case hsz =>
    show x.toArray.size + z.toArray.size ≤ sizeLine
    rw [sizeLine, List.size_toArray, List.size_toArray]
    omega
  · have e : ((wS x) ++ (wS z)) = wS (x ++ z) := by
      show (⟨x.toArray ++ z.toArray⟩ : Str) = _
      simp [wS]
    rw [e]
    exact h t' k
theorem join_q (x : List Nat) : Txt.join (Str.ofString "") (x.map fun c => wS ([92] ++ [c])) = wS (x.flatMap fun c => [92, c]) := by
  have h := join_wS (x.map fun c => [92, c])
  rw [List.map_map] at h
  exact h
theorem join_qsize {x : List Nat} (h1 : x.length ≤ 4) : ((x.map fun c => wS ([92] ++ [c])).map (·.length)).sum + (x.map fun c => wS ([92] ++ [c])).length * (Str.ofString "").length ≤ 16777216 := by
  have key : ∀ l : List Nat, ((l.map fun c => wS ([92] ++ [c])).map (·.length)).sum ≤ 4 * l.length := by
    intro l
    induction l with
    | nil => simp
    | cons a r ih =>
      rw [List.map_cons, List.map_cons, List.sum_cons, List.length_cons]
      have : (wS ([92] ++ [a])).length ≤ 4 := by
        show ([92] ++ [a]).toArray.size ≤ 4
        simp
      omega
  have h0 : (Str.ofString "").length = 0 := rfl
  rw [h0, Nat.mul_zero]
  have := key x
  omega
theorem flat_two (x : List Nat) : (x.flatMap fun c => [92, c]).length = 2 * x.length := by
  induction x with
  | nil => rfl
  | cons a r ih =>
    rw [List.flatMap_cons, List.length_append, ih]
    show 2 + 2 * r.length = 2 * (r.length + 1)
    omega
theorem off1_mem {D : Addr} {l : List (Addr × Obj)} (h : LCg.Off1 D l) : ∀ p ∈ l, p.1 ≠ D := by
  induction l with
  | nil => intro p hp; cases hp
  | cons a r ih =>
    intro p hp
    rcases List.mem_cons.mp hp with rfl | hp
    · exact h.1
    · exact ih h.2 p hp
theorem news_four {h₀ h : Heap} {L : Addr} {a b c d e : Addr × Obj} {r : List (Addr × Obj)} (N : News h₀ L h (a :: b :: c :: d :: e :: r)) : News h₀ L h (b :: c :: d :: e :: a :: r) := fun p hp => N p (by
  simp only [List.mem_cons] at hp ⊢
  rcases hp with h | h | h | h | h | h <;> simp [h])
local macro_rules | `(tactic| walk_at "loadName") => `(tactic| k_dflt (refine' ldX ?F ?v ?_ ?a ?b; (case F => k_asm); (case v => exact rfl); (case a => exact rfl); (case b => exact rfl); k_whole))
local macro_rules | `(tactic| walk_at "eval ListComp") => `(tactic| refine Hold.mk ?_)
local macro_rules | `(tactic| walk_at "exec Assign cons ListComp") => `(tactic| refine Hold.mk ?_)
local macro_rules | `(tactic| walk_at "CompSrc") => `(tactic| refine Hold.mk ?_)
local macro_rules | `(tactic| walk_at "SrcS") => `(tactic| refine Hold.mk ?_)
local macro_rules | `(tactic| walk_at "binaryOp Add str str") => `(tactic| refine Hold.mk ?_)
local macro_rules | `(tactic| walk_at "call builtin:str.join") => `(tactic| refine Hold.mk ?_)
local macro_rules | `(tactic| walk_at "execs cons") => `(tactic| ((with_reducible show wpAny _ _ (execs (Stmt.Assign [Expr.Name (Str.ofString "line") _] _ _ :: _) _) _ _ _); refine Hold.mk ?_))
theorem t1b : ∀ (w : World) (q wd : Int) (u1 u2 : Tok) (cL cP cS fa sD : Addr) (oL : Obj) (ccd : Value) (kd : List Nat) (t0 t1 t2 : Tok) (nS : Nat) (rest : List (Addr × Obj)), kd.length ≤ 4 →
   (sD, sgL kd t0 t1 t2 nS) ∈ rest → (∀ p ∈ rest, p.1 ≠ cL) → (∀ p ∈ rest, p.1 ≠ 121) → (∀ p ∈ rest, p.1 ≠ 72) → (∀ p ∈ rest, p.1 ≠ 79) →
   ∀ (p : Program) (loose : List Str) (mean : ExcName → Option Value) (mg mb : Str → Option Value) (dp un : Nat) (gd : Option (List Code)) (outer : List Env) (A₀ : Around) (base h₀ : Heap) (L : Addr) (m : Str → Option Value) (s : Shared) (QQ : Flow → Shared → Prop) (EE : Value → Shared → Prop),
   Below A₀ base outer h₀ → Fr h₀ L s.heap m → (hd.heap_39 w.params).In h₀ → News h₀ L s.heap ((cL, oL) :: (121, tabObj #[]) :: (72, tabObj #[]) :: (79, tabObj #[]) :: rest) → Top p loose mean mg mb h₀ → 
   dp + 400 < recursionLimit → un + 8 * 400 < cLine →
   m (Str.ofString "pairs") = some (.int q u1) → m (Str.ofString "width") = some (.int wd u2) → m (Str.ofString "signs") = some (.ref sD) →
   (∀ m' h' tk' D a b c, m' (Str.ofString "pairs") = some (.int q u1) → m' (Str.ofString "width") = some (.int wd u2) → m' (Str.ofString "signs") = some (.ref sD) → m' (Str.ofString "quoted") = some (.ref D) → Fr h₀ L h' m' → News h₀ L h' ((cL, oL) :: (121, tabObj #[]) :: (72, tabObj #[]) :: (79, tabObj #[]) :: (D, LCg.lst [.str (wS (qte [40])) a, .str (wS (qte [41])) b, .str (wS (qte kd)) c]) :: rest) →
     (@Ne Nat D cL) → (@Ne Nat D 121) → (@Ne Nat D 72) → (@Ne Nat D 79) → (∀ p ∈ rest, p.1 ≠ D) →
     wpAny (theM w) (topL dp un gd L fa ccd cL cP cS outer) (execs (lB.drop 4) (envL L fa ccd cL cP cS)) QQ EE { s with heap := h', toks := tk' }) →
   wpAny (theM w) (topL dp un gd L fa ccd cL cP cS outer) (execs (lB.drop 3) (envL L fa ccd cL cP cS)) QQ EE s := by
  dsimp only [theM, topL]
  simp only [envL, scL, lB, scopeAt, stmtAt, bodyAt, PySem.Challenge.pw_rs0143_01, List.getElem?_cons_zero, List.getElem?_cons_succ, Option.getD_some, List.drop_succ_cons, List.drop_zero]
  k_fill
  intro w q wd u1 u2 cL cP cS fa sD oL ccd kd t0 t1 t2 nS rest hkd hS r1 r2 r3 r4 p loose mean mg mb dp un gd outer A₀ base h₀ L m s QQ EE B F X' N T hdp hun m1 m2 m3 hret
  rw [pin4 m1 m2 m3 m3] at F
  k_steps
  refine LCg.Assign_ListComp_U (F₀ := F) rfl (by with_unfolding_all rfl) (by with_unfolding_all rfl) (by decide) rfl (by decide) rfl rfl rfl ?_
  k_steps
  refine LCg.CompSrc.ledger rfl (by k_asm) N (ax := sD) (by k_mem) (by rw [sizeLine]; show 3 ≤ _; decide) fun h10 => ?_
  refine three_rest (fun y => wS (qte y.cps.toList)) ?turn ?fin
  case turn =>
    intro y t I' oI C oC D m₂ ys h tk E' hy hC hmx F N off ne
    clear hret
    have hyl : y.cps.toList.length ≤ 4 := by
      rcases hy with rfl | rfl | rfl
      · decide
      · decide
      · simpa [wS] using hkd
    clear hy
    k_steps
    refine ListComp_SF (by k_asm) rfl (by decide) rfl (by decide) rfl ?_
    k_steps
    refine ⟨y, t, _, rfl, rfl, by k_asm, by k_asm, by rw [sizeLine]; rw [Array.length_toList] at hyl; omega, ?_⟩
    rintro s₂ ⟨h11, rfl⟩
    refine str_rest (fun c => wS ([92] ++ [c])) ?turn2 ?fin2
    case turn2 =>
      intro c tc I2 oI2 C2 oC2 D2 m3' zs h12 tk12 E2 hc hC2 hmx2 F2 N2 off2 ne2
      k_steps
      refine addc_V (x := [92]) (by decide) fun t' k => ?_
      exact ⟨_, _, _, rfl, F2, N2, off2, trivial, rfl, _, rfl⟩
    case fin2 =>
      intro zs hzs D2 h12 tk12 F2 N2 off2
      (try dsimp only)
      k_steps
      refine join_list (ys := y.cps.toList.map fun c => wS ([92] ++ [c])) (PySem.IsL.isList (n := zs.length) (N2 _ (.head _)).1) hzs (join_qsize hyl) fun t' k => ?_
      rw [join_q]
      k_steps
      refine addw_V (x := [34]) (z := y.cps.toList.flatMap fun c => [92, c]) (by rw [flat_two]; show 1 + _ ≤ _; omega) fun t2 k2 => ?_
      k_steps
      refine addw_V (x := [34] ++ y.cps.toList.flatMap fun c => [92, c]) (z := [34]) (by rw [List.length_append, flat_two]; show 1 + _ + 1 ≤ _; omega) fun t3 k3 => ?_
      exact ⟨_, _, _, rfl, F2, fun p hp => N2 p (.tail _ hp), off, .inr ⟨_, .tail _ (.tail _ (.tail _ (.tail _ hS))), rfl, _, rfl⟩, rfl, _, rfl⟩
  case fin =>
    intro a b c D h tk F N off
    (try dsimp only)
    k_steps
    have o1 := off1_mem off
    exact hret _ _ _ D a b c rfl rfl rfl rfl F (news_four N) (Ne.symm off.1) (Ne.symm off.2.1) (Ne.symm off.2.2.1) (Ne.symm off.2.2.2.1) (fun p hp => o1 p (.tail _ (.tail _ (.tail _ (.tail _ hp)))))
end Mine
end
section
open PySem PySem.W PyProof.Rows PySem.Calls PySem.Spec
set_option Elab.async false
set_option maxRecDepth 100000
set_option maxHeartbeats 8000000
namespace Mine
noncomputable def okB (x : Str) : Bool := !escEnd false x.cps.toList && decide (x.length ≤ 100) && decide ((esc false 0 x.cps.toList).length ≤ 1000) && decide (sumLen (stripL x) ≤ 10000) && !escEnd false (stripOf x).cps.toList
noncomputable def okw (x : List Nat) : Bool := x.all fun c => decide (c = 111) || decide (c = 99) || decide (c = 104)
noncomputable def goodB (kd : List Nat) : Bool := (List.range 5).all fun i => (level i).all fun x => okw x && decide (x.length ≤ 4) && okB (txt kd x)
theorem good_of {kd : List Nat} (h : goodB kd = true) : Good kd := by
  intro i hi x hx
  have h1 := List.all_eq_true.mp h i (List.mem_range.mpr hi)
  have h2 := List.all_eq_true.mp h1 x hx
  simp only [Bool.and_eq_true, decide_eq_true_eq] at h2
  obtain ⟨⟨a, b⟩, c⟩ := h2
  refine ⟨fun c hc => ?_, b, ?_⟩
  · have := List.all_eq_true.mp a c hc
    simp only [Bool.or_eq_true, decide_eq_true_eq] at this
    omega
  · unfold okB at c
    simp only [Bool.and_eq_true, decide_eq_true_eq, Bool.not_eq_true'] at c
    obtain ⟨⟨⟨⟨c1, c2⟩, c3⟩, c4⟩, c5⟩ := c
    exact ⟨c1, c2, c3, c4, c5⟩
theorem good_all : (kinds.all goodB) = true := by decide +kernel
theorem kinds_good {kd : List Nat} (h : kd ∈ kinds) : Good kd := good_of (List.all_eq_true.mp good_all kd h)
theorem kinds_len {kd : List Nat} (h : kd ∈ kinds) : kd.length ≤ 4 := by
  have : (kinds.all fun k => decide (k.length ≤ 4)) = true := by decide +kernel
  exact of_decide_eq_true (List.all_eq_true.mp this kd h)
/-- a row of o, c, h stands well -/
noncomputable def bal : List Nat → Nat → Bool
  | [], k => k == 0
  | c :: r, k => if c = 111 then bal r (k + 1) else if c = 99 then (match k with | 0 => false | j + 1 => bal r j) else bal r k
noncomputable def balAll (kd : List Nat) : Bool := (List.range 5).all fun i => (level i).all fun x => chk (txt kd x) == bal x 0
theorem bal_all : (kinds.all balAll) = true := by decide +kernel
noncomputable def wtB (p q : Int) (x : List Nat) : Int := if bal x 0 = true then p ^ (x.count 104) * q ^ (x.count 111) else 0
noncomputable def cn (p q : Int) : List Int := (List.range 5).map fun k => ((level k).map (wtB p q)).sum
theorem cnts_eq {kd : List Nat} (h : kd ∈ kinds) (p q : Int) : cnts kd p q 5 = cn p q := by
  unfold cnts cn
  refine List.map_congr_left fun i hi => ?_
  unfold wsum
  congr 1
  refine List.map_congr_left fun x hx => ?_
  have h1 := List.all_eq_true.mp (List.all_eq_true.mp (List.all_eq_true.mp bal_all kd h) i hi) x hx
  have h2 : chk (txt kd x) = bal x 0 := by simpa using h1
  unfold wt wtB
  rw [h2]
end Mine
end
section
open PySem PySem.W PyProof.Rows PySem.Calls PySem.Spec
set_option Elab.async false
set_option maxRecDepth 100000
set_option maxHeartbeats 8000000
namespace Mine
/-- what the numbers of a call owe -/
structure Num (p q : Int) (w : Nat) (X ab NN s₀ : Int) : Prop where
  hX : X = 2 ^ w
  hab : ab = X ^ 5 * (X - p)
  hN : NN = ((X - p) ^ 2 - 4 * q) * X ^ 10
  b1 : Builtin.Int.intBits X ≤ 100
  b2 : Builtin.Int.intBits (X - p) ≤ 100
  b3 : Builtin.Int.intBits (X ^ 5) ≤ 400
  b4 : Builtin.Int.intBits ((X - p) ^ 2 - 4 * q) ≤ 300
  b5 : Builtin.Int.intBits (X ^ 10) ≤ 700
  r0 : 8 ≤ s₀
  r1 : s₀ * s₀ ≤ NN
  r2 : NN < (s₀ + 1) * (s₀ + 1)
  r3 : s₀ ≤ ab
  b6 : Builtin.Int.intBits ab ≤ 399
  b7 : Builtin.Int.intBits NN ≤ 1000
  d : ∀ d ∈ cn p q, 0 ≤ d ∧ d < 2 ^ w
  v0 : 0 ≤ val w (cn p q).reverse
  v1 : 0 < q → ab - s₀ = (2 * q) * val w (cn p q).reverse + 1
  b8 : Builtin.Int.intBits (ab - s₀) ≤ 500
  z : q = 0 → s₀ = ab
  cz : q = 0 → cn p q = (List.range 5).map fun k => p ^ k
noncomputable def cc (p q : Int) : List Int := [1, p, p * p + q, p * (p * p) + 3 * (p * q), p * p * (p * p) + 6 * (p * p * q) + 2 * (q * q)]
theorem cc_all : ((List.range 10).all fun p => (List.range 10).all fun q => decide (cn (p : Nat) (q : Nat) = cc (p : Nat) (q : Nat))) = true := by decide +kernel
noncomputable def c3 (p q : Nat) : Nat := p * (p * p) + 3 * (p * q)
noncomputable def c4 (p q : Nat) : Nat := p * p * (p * p) + 6 * (p * p * q) + 2 * (q * q)
noncomputable def vN (p q W : Nat) : Nat := c4 p q + W * (c3 p q + W * (p * p + q + W * (p + W)))
noncomputable def nK (W q A N a S : Nat) : Bool :=
  Nat.ble (a + 1) (2 ^ 100) && Nat.ble (W + 1) (2 ^ 100) && Nat.ble (W ^ 5 + 1) (2 ^ 400) && Nat.ble (a * a - 4 * q + 1) (2 ^ 300) && Nat.ble (W ^ 10 + 1) (2 ^ 700) && Nat.ble (A + 1) (2 ^ 399) && Nat.ble (N + 1) (2 ^ 1000)
  && Nat.ble 8 S && Nat.ble (S * S) N && Nat.ble (N + 1) ((S + 1) * (S + 1)) && Nat.ble (4 * q) (a * a)
noncomputable def nR (p q W v : Nat) : Bool := nK W q (W ^ 5 * (W - p)) (((W - p) * (W - p) - 4 * q) * W ^ 10) (W - p) (W ^ 5 * (W - p) - v) && Nat.ble v (W ^ 5 * (W - p)) && Nat.ble (v + 1) (2 ^ 500) && Nat.ble (p + 1) W && Nat.ble (p * p + q + 1) W && Nat.ble (c3 p q + 1) W && Nat.ble (c4 p q + 1) W
noncomputable def nQ (p q W : Nat) : Bool := nR p q W (match q with | 0 => 0 | q' + 1 => 2 * (q' + 1) * vN p (q' + 1) W + 1)
theorem nN_all : ((List.range 10).all fun p => (List.range 10).all fun q => (List.range 40).all fun w => nQ p q (2 ^ (w + 25))) = true := by decide +kernel
theorem bits_of {n b : Nat} (h : n + 1 ≤ 2 ^ b) : Builtin.Int.intBits (n : Int) ≤ b := by
  unfold Builtin.Int.intBits
  split
  · exact Nat.zero_le _
  · rename_i h0
    have hn : n ≠ 0 := by
      intro e; subst e; exact h0 rfl
    have := (Nat.log2_lt hn).mpr (show n < 2 ^ b by omega)
    simp only [Int.natAbs_natCast]
    omega
theorem cz_all : ((List.range 10).all fun p => decide (cn (p : Nat) ((0 : Nat) : Int) = (List.range 5).map fun k => ((p : Nat) : Int) ^ k)) = true := by decide +kernel
theorem num_all (p q w : Nat) (hp : p < 10) (hq : q < 10) (h25 : 25 ≤ w) (h65 : w < 65) : ∃ X ab NN s₀, Num p q w X ab NN s₀ := by
  have h := List.all_eq_true.mp (List.all_eq_true.mp (List.all_eq_true.mp nN_all p (List.mem_range.mpr hp)) q (List.mem_range.mpr hq)) (w - 25) (List.mem_range.mpr (by omega))
  rw [Nat.sub_add_cancel h25] at h
  have hc : cn p q = cc p q := of_decide_eq_true (List.all_eq_true.mp (List.all_eq_true.mp cc_all p (List.mem_range.mpr hp)) q (List.mem_range.mpr hq))
  have hW : (((2 ^ w : Nat) : Int)) = 2 ^ w := by push_cast; rfl
  have hv : val w (cc p q).reverse = (vN p q (2 ^ w) : Nat) := by
    show ((p : Int) * p * (p * p) + 6 * (p * p * q) + 2 * (q * q)) + 2 ^ w * ((p * (p * p) + 3 * (p * q)) + 2 ^ w * ((p * p + q) + 2 ^ w * (p + 2 ^ w * (1 + 2 ^ w * 0)))) = _
    unfold vN c3 c4
    push_cast
    simp only [Int.mul_zero, Int.add_zero, Int.mul_one]
  have w2 : 1 < 2 ^ w := Nat.one_lt_two_pow (by omega)
  generalize 2 ^ w = W at h hW hv w2
  have key : ∀ v, nR p q W v = true → (q = 0 → v = 0) → (0 < q → v = 2 * q * vN p q W + 1) → ∃ X ab NN s₀, Num p q w X ab NN s₀ := by
    intro v h z0 z1
    simp only [nR, nK, Bool.and_eq_true, Nat.ble_eq] at h
    generalize ha : W - p = a at h
    obtain ⟨⟨⟨⟨⟨⟨⟨⟨⟨⟨⟨⟨⟨⟨⟨⟨k1, k2⟩, k3⟩, k4⟩, k5⟩, k6⟩, k7⟩, k8⟩, k9⟩, k10⟩, k11⟩, k12⟩, k13⟩, k14⟩, k15⟩, k16⟩, k17⟩ := h
    have e1 : (W : Int) - p = (a : Int) := by omega
    have e2 : (a : Int) ^ 2 - 4 * q = ((a * a - 4 * q : Nat) : Int) := by
      rw [Int.ofNat_sub k11]
      push_cast
      rw [Int.pow_succ, Int.pow_succ, Int.pow_zero, Int.one_mul]
    have eS : ((W ^ 5 * a : Nat) : Int) - ((W ^ 5 * a - v : Nat) : Int) = (v : Int) := by omega
    refine ⟨W, (W ^ 5 * a : Nat), ((a * a - 4 * q) * W ^ 10 : Nat), (W ^ 5 * a - v : Nat), ?_⟩
    constructor
    case hX => exact hW
    case hab => rw [e1]; push_cast; rfl
    case hN => rw [e1, e2]; push_cast; rfl
    case b1 => exact bits_of k2
    case b2 => rw [e1]; exact bits_of k1
    case b3 => have := bits_of k3; push_cast at this; exact this
    case b4 => rw [e1, e2]; exact bits_of k4
    case b5 => have := bits_of k5; push_cast at this; exact this
    case r0 => exact_mod_cast k8
    case r1 => exact_mod_cast k9
    case r2 => exact_mod_cast k10
    case r3 => omega
    case b6 => exact bits_of k6
    case b7 => exact bits_of k7
    case d =>
      rw [hc, ← hW]
      unfold c3 at k16
      unfold c4 at k17
      intro d hd
      simp only [cc, List.mem_cons, List.not_mem_nil, or_false] at hd
      rcases hd with rfl | rfl | rfl | rfl | rfl
      · exact ⟨by decide, by exact_mod_cast w2⟩
      · exact ⟨by exact_mod_cast Nat.zero_le _, by exact_mod_cast k14⟩
      · exact ⟨by exact_mod_cast Nat.zero_le _, by exact_mod_cast k15⟩
      · exact ⟨by exact_mod_cast Nat.zero_le _, by exact_mod_cast k16⟩
      · exact ⟨by exact_mod_cast Nat.zero_le _, by exact_mod_cast k17⟩
    case v0 => rw [hc, hv]; exact Int.natCast_nonneg _
    case v1 =>
      intro h0
      rw [hc, hv, eS, z1 (by omega)]
      push_cast
      rfl
    case b8 => rw [eS]; exact bits_of k13
    case z =>
      intro h0
      rw [z0 (by omega)]
      rfl
    case cz =>
      intro h0
      have h1 : q = 0 := by omega
      subst h1
      exact of_decide_eq_true (List.all_eq_true.mp cz_all p (List.mem_range.mpr hp))
  cases q with
  | zero => exact key 0 h (fun _ => rfl) (fun h => absurd h (by decide))
  | succ q' => exact key _ h (fun h => absurd h (by omega)) (fun _ => rfl)
end Mine
end
section
open PySem PySem.W PyProof.Rows PySem.Calls PySem.Spec
set_option Elab.async false
set_option maxRecDepth 100000
set_option maxHeartbeats 8000000
namespace Mine
theorem qtok_q : ∀ (x acc : List Nat) (l : List (Nat × Tok)) (tail : List Nat), l.map Prod.fst = (x.flatMap fun c => [92, c]) ++ 34 :: tail → ∃ r, qtok l acc = some (acc ++ x, r) ∧ r.map Prod.fst = tail ∧ (∀ p ∈ r, p ∈ l) ∧ r.length ≤ l.length := by
  intro x
  induction x with
  | nil =>
    intro acc l tail h
    match l, h with
    | (c, t) :: r, h =>
      have h : c :: r.map Prod.fst = 34 :: tail := h
      injection h with h1 h2
      subst h1
      exact ⟨r, by rw [List.append_nil, qtok.eq_def]; rfl, h2, fun p hp => .tail _ hp, Nat.le_succ _⟩
  | cons a x ih =>
    intro acc l tail h
    match l, h with
    | [(c, t)], h => exact absurd (congrArg List.length h) (by simp)
    | (c, t) :: (d, u) :: r, h =>
      have h : c :: d :: r.map Prod.fst = 92 :: a :: ((x.flatMap fun c => [92, c]) ++ 34 :: tail) := h
      injection h with h1 h2
      injection h2 with h2 h3
      subst h1 h2
      obtain ⟨r', e, e1, e2, e3⟩ := ih (acc ++ [d]) r tail h3
      refine ⟨r', ?_, e1, fun p hp => .tail _ (.tail _ (e2 p hp)), Nat.le_trans e3 (Nat.le_trans (Nat.le_succ _) (Nat.le_succ _))⟩
      have : qtok ((92, t) :: (d, u) :: r) acc = qtok r (acc ++ [d]) := by rw [qtok.eq_def]; rfl
      rw [this, e, List.append_assoc]
      rfl
theorem gtok_q (x : List Nat) (l : List (Nat × Tok)) (tail : List Nat) (h : l.map Prod.fst = qte x ++ tail) : ∃ r, gtok l = some (x, r) ∧ r.map Prod.fst = tail ∧ (∀ p ∈ r, p ∈ l) ∧ r.length ≤ l.length := by
  unfold qte at h
  rw [List.append_assoc, List.append_assoc] at h
  match l, h with
  | (c, t) :: r, h =>
    have h : c :: r.map Prod.fst = 34 :: ((x.flatMap fun c => [92, c]) ++ 34 :: tail) := h
    injection h with h1 h2
    subst h1
    obtain ⟨r', e, e1, e2, e3⟩ := qtok_q x [] r tail h2
    exact ⟨r', by rw [gtok]; exact e, e1, fun p hp => .tail _ (e2 p hp), Nat.le_trans e3 (Nat.le_succ _)⟩
theorem gtok_sp (x : List Nat) (l : List (Nat × Tok)) (tail : List Nat) (h : l.map Prod.fst = 32 :: (qte x ++ tail)) : ∃ r, gtok l = some (x, r) ∧ r.map Prod.fst = tail ∧ (∀ p ∈ r, p ∈ l) ∧ r.length ≤ l.length := by
  match l, h with
  | (c, t) :: r, h =>
    have h : c :: r.map Prod.fst = 32 :: (qte x ++ tail) := h
    injection h with h1 h2
    subst h1
    obtain ⟨r', e, e1, e2, e3⟩ := gtok_q x r tail h2
    exact ⟨r', by rw [gtok]; exact e, e1, fun p hp => .tail _ (e2 p hp), Nat.le_trans e3 (Nat.le_succ _)⟩
/-- the lexer's line -/
noncomputable def csOf (kd : List Nat) : List Nat := qte [40] ++ (32 :: (qte [41] ++ (32 :: (qte kd ++ [32, 99]))))
theorem gtok_all (kd : List Nat) (l : List (Nat × Tok)) (h : l.map Prod.fst = csOf kd) : ∃ l1 l2 ta tb, gtok l = some ([40], l1) ∧ gtok l1 = some ([41], l2) ∧ gtok l2 = some (kd, [(32, ta), (99, tb)]) ∧ (∀ p ∈ l1, p ∈ l) ∧ (∀ p ∈ l2, p ∈ l) ∧ l1.length ≤ l.length ∧ l2.length ≤ l.length := by
  obtain ⟨l1, a1, a2, a3, a4⟩ := gtok_q [40] l _ h
  obtain ⟨l2, b1, b2, b3, b4⟩ := gtok_sp [41] l1 _ a2
  obtain ⟨l3, c1, c2, c3, c4⟩ := gtok_sp kd l2 _ b2
  match l3, c2 with
  | [(x, ta), (y, tb)], c2 =>
    have c2 : [x, y] = [32, 99] := c2
    injection c2 with e1 e2
    injection e2 with e2 e3
    subst e1 e2
    exact ⟨l1, l2, ta, tb, a1, b1, c1, a3, fun p hp => a3 p (b3 p hp), a4, Nat.le_trans b4 a4⟩
noncomputable def lineB (kd : List Nat) : Bool := decide (Txt.join (Str.ofString " ") [wS (qte [40]), wS (qte [41]), wS (qte kd), Str.ofString "c"] = wS (csOf kd)) && decide ((qte kd).length ≤ 20) && decide ((csOf kd).length ≤ 100) && decide (10 ∉ csOf kd) && PyData.strOk (wS kd)
theorem line_all : (kinds.all lineB) = true := by decide +kernel
theorem kinds_line {kd : List Nat} (h : kd ∈ kinds) : Txt.join (Str.ofString " ") [wS (qte [40]), wS (qte [41]), wS (qte kd), Str.ofString "c"] = wS (csOf kd) ∧ (qte kd).length ≤ 20 ∧ (csOf kd).length ≤ 100 ∧ 10 ∉ csOf kd ∧ PyData.strOk (wS kd) = true := by
  have h := List.all_eq_true.mp line_all kd h
  unfold lineB at h
  simp only [Bool.and_eq_true, decide_eq_true_eq] at h
  obtain ⟨⟨⟨⟨a, b⟩, c⟩, d⟩, e⟩ := h
  exact ⟨a, b, c, d, e⟩
theorem no10 {kd : List Nat} (hk : kd ∈ kinds) {l : List (Nat × Tok)} (h : l.map Prod.fst = csOf kd) : (∀ p ∈ l, p.1 ≠ 10) ∧ l.length ≤ 100 := by
  obtain ⟨_, _, c, d, _⟩ := kinds_line hk
  refine ⟨fun p hp e => d ?_, ?_⟩
  · rw [← h, ← e]; exact List.mem_map_of_mem hp
  · have := congrArg List.length h; rw [List.length_map] at this; omega
end Mine
end
section
open PySem PySem.W PyProof.Rows PySem.Calls PySem.Spec
set_option Elab.async false
set_option maxRecDepth 100000
set_option maxHeartbeats 8000000
namespace Mine
/-- the law's post: True comes back, what stood before the call stands, spent generators may stay -/
noncomputable def LawEnd (s₁ : Shared) (tabs : List (Addr × Addr)) (r : Result) (s' : Shared) : Prop :=
  r = .ok (.ret (.bool true)) ∧ (∀ b o, (ghostOf s₁.heap tabs).get? b = some o → s'.heap.get? b = some o) ∧ s'.os = s₁.os ∧ AllBare s'.gens ∧ GrownAll tabs s'.heap
theorem kn_postB {M : Model} {A : Around} {cd : Code} {s s₁ : Shared} {cw : ClaimW} {cl : Str → Option Addr} {mean : ExcName → Option Value} {args : List WData} {tabs : List (Addr × Addr)} (hT : TabsAt tabs s₁.heap) (hr : ∀ a x, cw.raises a x = false) (hp : cw.post args (.bool true) args = true)
    (h : codeAny M A cd (LawEnd s₁ tabs) s) : codeAny M A cd (GoodWG cw cl mean args s₁) s :=
  codeAny_mono h fun r s' ⟨hc, hk, hos, hb, hg⟩ => by
    have keep : ∀ b o, b ∉ tabs.map (·.2) → s₁.heap.get? b = some o → s'.heap.get? b = some o := fun b o hb e => hk b o (ghost_ne e hb)
    have grown : ∀ b o, b ∈ tabs.map (·.2) → s₁.heap.get? b = some o → isCodeTable s₁.heap b ∧ o = tabObj #[] ∧ ∃ ps, s'.heap.get? b = some (tabObj ps) := fun b o hb e => by
      obtain ⟨q, hq, rfl⟩ := List.mem_map.mp hb
      have e2 := (hT q hq).2
      rw [e] at e2
      exact ⟨((hT q hq).1.tab (hT q hq).2).isCodeTable, Option.some.inj e2, hg.get q hq⟩
    refine ⟨.inl ⟨.bool true, .bool true, [], hc, fun x => hr _ x, .bool true, hp, fun _ => ⟨.nil, fun _ h => nomatch h⟩⟩, ⟨fun b o e => ?_, fun b o e => ?_⟩, hos, hb⟩
    · by_cases hb : b ∈ tabs.map (·.2)
      · obtain ⟨ht, rfl, ps, hP⟩ := grown b o hb e
        exact .inr (.inl ⟨ht, rfl, #[], ps, rfl, by rw [Array.empty_append]; exact hP⟩)
      · exact .inl (keep b o hb e)
    · by_cases hb : b ∈ tabs.map (·.2)
      · obtain ⟨_, _, ps, hP⟩ := grown b o hb e
        exact ⟨_, hP⟩
      · exact ⟨o, keep b o hb e⟩
end Mine
end
section
open PySem PySem.W PyProof.Rows PySem.Calls PySem.Spec
set_option Elab.async false
set_option maxRecDepth 100000
set_option maxHeartbeats 8000000
namespace Mine
theorem t72_nil (r : List (Addr × Obj)) : T72 #[] r := .inl rfl
theorem t79_nil (r : List (Addr × Obj)) : T79 #[] r := .inl rfl
theorem body_all : ∀ (w : World) (fS : Addr) (vs : List Value) (ns : List Int) (cL cP cS fa : Addr) (oL oP oS : Obj) (ccd : Value),
   @LT.lt Nat _ cS cP → @LT.lt Nat _ cP cL → @LT.lt Nat _ 121 cS → oL.data = .cell none → oP.data = .cell none → oS.data = .cell (some (.ref fS)) → IntsAre vs ns → ns.length ≤ 63 →
   ∀ (p : Program) (loose : List Str) (mean : ExcName → Option Value) (mg mb : Str → Option Value) (dp un : Nat) (gd : Option (List Code)) (A₀ : Around) (h₀ : Heap) (L : Addr) (m : Str → Option Value) (s : Shared) (QQ : Flow → Shared → Prop) (EE : Value → Shared → Prop),
   h₀.IsList fS vs.toArray → Below A₀ h₀ [] h₀ → Fr h₀ L s.heap m → (hd.heap_39 w.params).In h₀ → News h₀ L s.heap [(cL, oL), (cP, oP), (cS, oS), (121, tabObj #[]), (72, tabObj #[]), (79, tabObj #[])] → Top p loose mean mg mb h₀ → 
   dp + 400 < recursionLimit → un + 8 * 400 < cLine → CodeHd h₀ 125 121 → CodeHd h₀ 76 72 → CodeHd h₀ 83 79 → AllBare s.gens →
   (∀ m' h' tk' Gn, AllBare Gn → Fr h₀ L h' m' → GrownAt 121 h' → GrownAt 72 h' → GrownAt 79 h' → QQ (.ret (.bool true)) { s with heap := h', toks := tk', gens := Gn }) →
   wpAny (theM w) (topL dp un gd L fa ccd cL cP cS []) (execs lB (envL L fa ccd cL cP cS)) QQ EE s := by
  intro w fS vs ns cL cP cS fa oL oP oS ccd o1 o2 o3 dL dP dS hI hlen p loose mean mg mb dp un gd A₀ h₀ L m s QQ EE hl B F X' N T hdp hun C1 C2 C3 hb hret
  have d121 : @Ne Nat cL 121 := Nat.ne_of_gt (Nat.lt_trans o3 (Nat.lt_trans o1 o2))
  have d72 : @Ne Nat cL 72 := Nat.ne_of_gt (Nat.lt_trans (by decide) (Nat.lt_trans o3 (Nat.lt_trans o1 o2)))
  have d79 : @Ne Nat cL 79 := Nat.ne_of_gt (Nat.lt_trans (by decide) (Nat.lt_trans o3 (Nat.lt_trans o1 o2)))
  refine t1a w fS vs ns cL cP cS fa oL oP oS ccd o1 o2 o3 dL dP dS hI hlen p loose mean mg mb dp un gd [] A₀ h₀ h₀ L m s QQ EE hl B F X' N T hdp hun ?_
  clear N F m
  intro m h1 k1 pc q wd u1 u2 u5 oP' sD kd t0 t1 t2 nS rest m1 m2 m3 F N p0 p1 q0 q1 w0 w1 gP dP' gS hkd r1 r2 r3 r4
  refine t1b w q wd u1 u2 cL cP cS fa sD oL ccd kd t0 t1 t2 nS rest (kinds_len hkd) gS r1 r2 r3 r4 p loose mean mg mb dp un gd [] A₀ h₀ h₀ L m _ QQ EE B F X' N T hdp hun m1 m2 m3 ?_
  clear N F m1 m2 m3 m
  intro m h2 k2 D a b c m1 m2 m3 m4 F N e1 e2 e3 e4 e5
  obtain ⟨j1, j2, j3, j4, j5⟩ := kinds_line hkd
  have fc : ∀ {P : Addr → Prop}, P D → (∀ p ∈ rest, P p.1) → ∀ p ∈ (D, LCg.lst [.str (wS (qte [40])) a, .str (wS (qte [41])) b, .str (wS (qte kd)) c]) :: rest, P p.1 := fun h1 h2 => List.forall_mem_cons.mpr ⟨h1, h2⟩
  refine t2a w _ sD D t0 t1 t2 a b c nS 3 kd (qte [40]) (qte [41]) (qte kd) (csOf kd) pc q wd u1 u2 u5 cL cP cS fa oL ccd (fc (P := fun x => x ≠ cL) e1 r1) d121 d72 d79 (fc (P := fun x => x ≠ 121) e2 r2) (fc (P := fun x => x ≠ 72) e3 r3) (fc (P := fun x => x ≠ 79) e4 r4) dL
    (.tail _ gS) (.head _) (by decide) (by decide) j2 j3 j1 p loose mean mg mb dp un gd [] A₀ h₀ h₀ L m _ QQ EE B F X' N T hdp hun C1 m1 m2 m3 m4 ?_
  clear N F m1 m2 m3 m4 m fc
  intro m h3 k3 lf I pI oL' l n rest3 m1 m2 m3 F N hcs sub g121 gL dL' gX gA
  obtain ⟨n10, n100⟩ := no10 hkd hcs
  refine t2b w rest3 lf I pI sD t0 t1 t2 n 0 nS l kd q wd u1 u2 cL cP cS fa oL' ccd gX gA (sub _ (.tail _ gS)) gL dL' j5 n100 n10 (gtok_all kd l hcs) p loose mean mg mb dp un gd [] A₀ h₀ h₀ L m _ QQ EE B F X' N T hdp hun C1 m1 m2 m3 ?_
  clear N F m1 m2 m3 m
  intro m h4 k4 n' ta tb m1 m2 m3 F N
  refine t3 w rest3 lf I pI sD ta tb t0 t1 t2 n' 0 nS kd pc q wd u1 u2 u5 cL cP cS fa oL' oP' ccd gX gA (sub _ (.tail _ gS)) gL dL' (sub _ (.tail _ gP)) dP' (kinds_good hkd) (kinds_len hkd) p0 p1 q0 q1 p loose mean mg mb dp un gd [] A₀ h₀ h₀ L m _ QQ EE B F X' N T hdp hun C1 hb m1 m2 m3 ?_
  clear N F m1 m2 m3 m
  intro m h5 k5 Gn D5 vs5 rest5 m1 m2 m3 F N sub5 gD hI5 s72 s79 hGn
  rw [cnts_eq hkd] at hI5
  obtain ⟨X, ab, NN, s₀, nm⟩ := num_all pc.toNat q.toNat wd.toNat (by omega) (by omega) (by omega) (by omega)
  rw [Int.toNat_of_nonneg p0, Int.toNat_of_nonneg q0] at nm
  have hP5 := sub5 _ (sub _ (.tail _ gP))
  refine t4 w rest5 #[] #[] pc q wd X ab NN s₀ u1 u2 u5 cL cP cS fa oP' ccd _ (t72_nil _) (t79_nil _) s72 s79 hP5 dP' (by omega) (by omega) q0 q1 nm.hX nm.hab nm.hN nm.b1 nm.b2 nm.b3 nm.b4 nm.b5 nm.r0 nm.r1 nm.r2 nm.r3 nm.b6 nm.b7
    p loose mean mg mb dp un gd [] A₀ h₀ h₀ L m _ QQ EE B F X' N T hdp hun C2 C3 m1 m2 m3 ?_
  clear N F m1 m2 m3 m
  intro m h6 k6 p1' p2' extra v1 v2 m1 m2 m3 m4 m5 F N a72 a79 x72 x79
  obtain ⟨ps, g121⟩ := g121
  by_cases hq : q = 0
  · have hz := nm.z hq
    have hcz := nm.cz hq
    subst hz
    subst hq
    refine t5b w _ D5 vs5 (cn pc 0) pc wd s₀ u1 u2 v1 v2 u5 cL cP cS fa oP' ccd (.tail _ (.tail _ (List.mem_append_right _ gD))) hI5 hcz p0 p1 (.tail _ (.tail _ (List.mem_append_right _ hP5))) dP' p loose mean mg mb dp un gd A₀ h₀ L m _ QQ EE B F X' N T hdp hun m1 m2 m4 m5 m3 ?_
    intro m' h' tk' F' N'
    exact hret m' h' tk' Gn hGn F' (GrownAt.of N' (.tail _ (.tail _ (List.mem_append_right _ (sub5 _ g121))))) (GrownAt.of N' (.head _)) (GrownAt.of N' (.tail _ (.head _)))
  · have hq' : 0 < q := by omega
    refine t5a w (extra ++ rest5) p1' p2' D5 vs5 (cn pc q) q wd ab s₀ u1 u2 v1 v2 cL cP cS fa ccd a72 a79 x72 x79 (List.mem_append_right _ gD) hI5 rfl hq' q1 (by omega) (by omega) nm.d nm.v0 (nm.v1 hq') nm.b8 p loose mean mg mb dp un gd [] A₀ h₀ h₀ L m _ QQ EE B F X' N T hdp hun C2 C3 m1 m2 m4 m5 m3 ?_
    intro m' h' tk' p1'' p2'' ex2 F' N'
    exact hret m' h' tk' Gn hGn F' (GrownAt.of N' (.tail _ (.tail _ (List.mem_append_right _ (List.mem_append_right _ (sub5 _ g121)))))) (GrownAt.of N' (.head _)) (GrownAt.of N' (.tail _ (.head _)))
end Mine
end
section
open PySem PySem.W PyProof.Rows PySem.Calls PySem.Spec
set_option Elab.async false
set_option maxRecDepth 100000
set_option maxHeartbeats 8000000
open Mine
namespace Mine
theorem law_end {s₁ s' : Shared} {cw : ClaimW} {cl : Str → Option Addr} {mean : ExcName → Option Value} {args : List WData} {tabs : List (Addr × Addr)} {r : Result} (hT : TabsAt tabs s₁.heap) (hr : ∀ a x, cw.raises a x = false) (hp : cw.post args (.bool true) args = true) (h : LawEnd s₁ tabs r s') : GoodWG cw cl mean args s₁ r s' := by
    obtain ⟨hc, hk, hos, hb, hg⟩ := h
    have keep : ∀ b o, b ∉ tabs.map (·.2) → s₁.heap.get? b = some o → s'.heap.get? b = some o := fun b o hb e => hk b o (ghost_ne e hb)
    have grown : ∀ b o, b ∈ tabs.map (·.2) → s₁.heap.get? b = some o → isCodeTable s₁.heap b ∧ o = tabObj #[] ∧ ∃ ps, s'.heap.get? b = some (tabObj ps) := fun b o hb e => by
      obtain ⟨q, hq, rfl⟩ := List.mem_map.mp hb
      have e2 := (hT q hq).2
      rw [e] at e2
      exact ⟨((hT q hq).1.tab (hT q hq).2).isCodeTable, Option.some.inj e2, hg.get q hq⟩
    refine ⟨.inl ⟨.bool true, .bool true, [], hc, fun x => hr _ x, .bool true, hp, fun _ => ⟨.nil, fun _ h => nomatch h⟩⟩, ⟨fun b o e => ?_, fun b o e => ?_⟩, hos, hb⟩
    · by_cases hb : b ∈ tabs.map (·.2)
      · obtain ⟨ht, rfl, ps, hP⟩ := grown b o hb e
        exact .inr (.inl ⟨ht, rfl, #[], ps, rfl, by rw [Array.empty_append]; exact hP⟩)
      · exact .inl (keep b o hb e)
    · by_cases hb : b ∈ tabs.map (·.2)
      · obtain ⟨_, _, ps, hP⟩ := grown b o hb e
        exact ⟨_, hP⟩
      · exact ⟨o, keep b o hb e⟩
end Mine
local macro_rules | `(tactic| kn_posts) => `(tactic| skip)
theorem PySem.Challenge.cw_rs0143_01_holds : PySem.Challenge.rw_rs0143_01.Holds := by
  refine holds_law Mine.hd.said fun said => ?_
  refine holds_open (q := Mine.hd.view_39) (loose := []) (Xt := fun s => xlAt Mine.hd.view_39 [] s && recOk (RowW.records PySem.Challenge.rw_rs0143_01.row.toRowW) s) (XP := XL Mine.hd.view_39 []) (Yf := Hook.obs Mine.hd.hook) (Ya := Hook.val Mine.hd.hook) (YP := Hook.says Mine.hd.hook) (N := 1708)
    Mine.hd.left (Hook.of Mine.hd.hook) (Hook.keeps Mine.hd.hook) (fun s e => xl_of s (Bool.and_eq_true_iff.mp e).1) XL.keeps (by rfl) (by rfl) (by rfl) (fun s e => recFacts_of (Bool.and_eq_true_iff.mp e).2) (by rfl) said Mine.hd.chains ⟨rfl, rfl, rfl, rfl, rfl, by decide +kernel⟩ ?hw ?hc
  case hw => w_witness2
  case hc =>
    clear said
    delta Mine.hd.hook
    w_strict (k_go0
              rename News _ _ _ _ => NN
              rename Fr _ _ _ _ => FF
              rename IntsAre _ _ => II
              rename ¬ ((63 : Int) < _) => LL
              rename Below _ _ _ _ => KK
              rename Top _ _ _ _ _ _ => TT
              rename Frag.In _ _ => XX
              rename Heap.IsList _ _ _ => HL
              refine body_all _ _ _ _ _ _ _ _ _ _ _ _ ?a1 ?a2 ?a3 ?a4 ?a5 ?a6 II ?a7 _ _ _ _ _ _ _ _ _ _ _ _ _ _ _ HL KK FF XX NN TT ?b1 ?b2 ?b3 ?b4 ?b5 ?b6 ?b7
              case a1 => exact Nat.lt_succ_self _
              case a2 => exact Nat.lt_succ_self _
              case a3 => (rename _ < _ ∧ _ ∧ _ => l; exact Nat.lt_succ_of_lt l.1)
              case a4 => assumption
              case a5 => assumption
              case a6 => assumption
              case a7 => omega
              case b1 => decide
              case b2 => decide
              case b3 => assumption
              case b4 => assumption
              case b5 => assumption
              case b6 => exact .of_eq (by assumption)
              case b7 =>
                rename TabsAt _ _ => HT
                intro m' h' tk' Gn hG F9 g1 g2 g3
                exact law_end HT (fun _ _ => rfl) (by first | (with_unfolding_all rfl) | wrow_post | wrow_close | (simp [PySem.Challenge.rw_rs0143_01]; done)) ⟨rfl, fun b o e => F9.keep b o e, rfl, hG, ⟨g1, g2, g3, trivial⟩⟩)
end
end
