import PyProof.Rows.All
import Wide.All
import OpenK.AllK
import Wide.FinOn
import Lean
import PySem.Challenge.RW_pg0308_01
set_option Elab.async false
namespace Mine
section
open PySem PySem.W PyProof.Rows
def nth : List Stmt → Nat → Stmt
  | [], _ => .Pass ⟨0, 0, 0, 0⟩
  | a :: _, 0 => a
  | _ :: r, n + 1 => nth r n
def bodyOf (p : Program) : List Stmt := p.main.body
def stAt (i : Nat) : Stmt := nth (bodyOf PySem.Challenge.pw_pg0308_01) i
def clsBody : Stmt → List Stmt
  | .ClassDef _ _ _ b _ _ _ _ _ _ _ => b
  | _ => []
def inCls (s : Stmt) (j : Nat) : Stmt := nth (clsBody s) j
def noArgs : Arguments := { posonlyargs := [], args := [], vararg := none, kwonlyargs := [], kw_defaults := [], kwarg := none, defaults := [] }
def fParams : Stmt → Arguments
  | .FunctionDef _ a _ _ _ _ _ _ _ _ => a
  | _ => noArgs
def fBody : Stmt → List Stmt
  | .FunctionDef _ _ b _ _ _ _ _ _ _ => b
  | _ => []
def fScope : Stmt → Scope
  | .FunctionDef _ _ _ _ _ _ s _ _ _ => s
  | _ => { kind := .function, names := [], isGenerator := false, isCoroutine := false }
structure Wrap {α : Type} (e : α) : Type where
theorem wrap_def : True := trivial
def wr {α : Type} (e : α) : Wrap e := ⟨⟩
local macro_rules | `(tactic| walk_at "ME norm") => `(tactic| (rename Wrap _ => w9; (dsimp only [stAt, inCls, clsBody, fParams, fBody, fScope, bodyOf, nth, PySem.Challenge.pw_pg0308_01] at w9); exact w9))
set_option maxRecDepth 100000
set_option maxHeartbeats 4000000
noncomputable def heapK : Params → Frag :=
  fun P =>
    
    (nat_lit 2,
        { cls := Value.none,
          data :=
            Data.dict
              #[{ hash := PyData.keyHash P (Str.ofString "\x69mport.loaded._sre"), key := Value.str (Str.ofString "\x69mport.loaded._sre") (183 : Nat), val := Value.bool true },
                { hash := PyData.keyHash P (Str.ofString "class._frozen_importlib.BuiltinImporter"), key := Value.str (Str.ofString "class._frozen_importlib.BuiltinImporter") (185 : Nat), val := Value.ref (14 : Nat) },
                { hash := PyData.keyHash P (Str.ofString "watched.\x69mport"), key := Value.str (Str.ofString "watched.\x69mport") (206 : Nat), val := Value.ref (18 : Nat) },
                { hash := PyData.keyHash P (Str.ofString "class._frozen_importlib.ModuleSpec"), key := Value.str (Str.ofString "class._frozen_importlib.ModuleSpec") (216 : Nat), val := Value.ref (22 : Nat) },
                { hash := PyData.keyHash P (Str.ofString "sys.modules.booked-epoch"), key := Value.str (Str.ofString "sys.modules.booked-epoch") (245 : Nat), val := Value.int 3 (0 : Nat) },
                { hash := PyData.keyHash P (Str.ofString "\x69mport.later-laid._sre"), key := Value.str (Str.ofString "\x69mport.later-laid._sre") (270 : Nat), val := Value.bool true },
                { hash := PyData.keyHash P (Str.ofString "watched.library"), key := Value.str (Str.ofString "watched.library") (272 : Nat), val := Value.ref (27 : Nat) },
                { hash := PyData.keyHash P (Str.ofString "watched.library-objects"), key := Value.str (Str.ofString "watched.library-objects") (0 : Nat), val := Value.str (Str.ofString "\x0c") (0 : Nat) },
                { hash := PyData.keyHash P (Str.ofString "watched.library-deep._sre"), key := Value.str (Str.ofString "watched.library-deep._sre") (273 : Nat),
                  val := Value.str (Str.ofString "\x04\x00\x00\x0b\x04\x00\x00\x0b\x04\x00\x00\x03\x04\x00\x00\x0b\x08\x04dict\x02") (0 : Nat) }]
              9 }) ::
    (nat_lit 3,
        { cls := Value.type "dict",
          data :=
            Data.dict
              #[{ hash := PyData.keyHash P (Str.ofString "__name__"), key := Value.str (Str.ofString "__name__") (165 : Nat), val := Value.str (Str.ofString "law_pg0308_01") (649 : Nat) },
                { hash := PyData.keyHash P (Str.ofString "__doc__"), key := Value.str (Str.ofString "__doc__") (166 : Nat), val := Value.none },
                { hash := PyData.keyHash P (Str.ofString "__package__"), key := Value.str (Str.ofString "__package__") (167 : Nat), val := Value.none },
                { hash := PyData.keyHash P (Str.ofString "__loader__"), key := Value.str (Str.ofString "__loader__") (168 : Nat), val := Value.builtin "__main__.__loader__#\x6fpaque" },
                { hash := PyData.keyHash P (Str.ofString "__spec__"), key := Value.str (Str.ofString "__spec__") (169 : Nat), val := Value.none },
                { hash := PyData.keyHash P (Str.ofString "__annotations__"), key := Value.str (Str.ofString "__annotations__") (170 : Nat), val := Value.ref (6 : Nat) },
                { hash := PyData.keyHash P (Str.ofString "__builtins__"), key := Value.str (Str.ofString "__builtins__") (171 : Nat), val := Value.ref (4 : Nat) },
                { hash := PyData.keyHash P (Str.ofString "__file__"), key := Value.str (Str.ofString "__file__") (173 : Nat), val := Value.str (Str.ofString "/claim/cut.py") (172 : Nat) },
                { hash := PyData.keyHash P (Str.ofString "__cached__"), key := Value.str (Str.ofString "__cached__") (174 : Nat), val := Value.none },
                { hash := PyData.keyHash P (Str.ofString "_sre"), key := Value.str (Str.ofString "_sre") (275 : Nat), val := Value.ref (12 : Nat) },
                { hash := PyData.keyHash P (Str.ofString "_wall"), key := Value.str (Str.ofString "_wall") (288 : Nat), val := Value.ref (38 : Nat) },
                { hash := PyData.keyHash P (Str.ofString "Whitespace"), key := Value.str (Str.ofString "Whitespace") (386 : Nat), val := Value.ref (100 : Nat) },
                { hash := PyData.keyHash P (Str.ofString "TupleComp"), key := Value.str (Str.ofString "TupleComp") (430 : Nat), val := Value.ref (128 : Nat) },
                { hash := PyData.keyHash P (Str.ofString "_name_disallowed_re"), key := Value.str (Str.ofString "_name_disallowed_re") (458 : Nat), val := Value.ref (137 : Nat) },
                { hash := PyData.keyHash P (Str.ofString "_value_disallowed_re"), key := Value.str (Str.ofString "_value_disallowed_re") (492 : Nat), val := Value.ref (142 : Nat) },
                { hash := PyData.keyHash P (Str.ofString "Headers"), key := Value.str (Str.ofString "Headers") (648 : Nat), val := Value.ref (265 : Nat) },
                { hash := PyData.keyHash P (Str.ofString "_law_columns"), key := Value.str (Str.ofString "_law_columns") (656 : Nat), val := Value.ref (274 : Nat) },
                { hash := PyData.keyHash P (Str.ofString "_law_votes"), key := Value.str (Str.ofString "_law_votes") (662 : Nat), val := Value.ref (279 : Nat) },
                { hash := PyData.keyHash P (Str.ofString "_law_ranked"), key := Value.str (Str.ofString "_law_ranked") (676 : Nat), val := Value.ref (286 : Nat) },
                { hash := PyData.keyHash P (Str.ofString "law"), key := Value.str (Str.ofString "law") (682 : Nat), val := Value.ref (291 : Nat) }]
              20 }) ::
    (nat_lit 32, { cls := Value.type "tuple", data := Data.seq #[] }) ::
    (nat_lit 34, { cls := Value.type "tuple", data := Data.seq #[Value.str (Str.ofString "k") (285 : Nat)] }) ::
    (nat_lit 35, { cls := Value.type "tuple", data := Data.seq #[] }) ::
    (nat_lit 37,
        { cls := Value.type "code",
          data :=
            Data.fields
              #[Value.str (Str.ofString "_wall") (282 : Nat), Value.str (Str.ofString "_wall") (283 : Nat), Value.str (Str.ofString "/claim/cut.py") (284 : Nat), Value.int 2 (0 : Nat), Value.int 1 (0 : Nat), Value.int 0 (0 : Nat), Value.int 0 (0 : Nat),
                Value.int 3 (0 : Nat), Value.ref (32 : Nat), Value.bool true, Value.int 276 (0 : Nat), Value.ref (33 : Nat), Value.none, Value.ref (34 : Nat), Value.ref (35 : Nat), Value.ref (36 : Nat), Value.int 286 (0 : Nat), Value.int 2 (0 : Nat),
                Value.str (Str.ofString "/claim/cut.py") (287 : Nat)] }) ::
    (nat_lit 38,
        { cls := Value.type "function",
          data :=
            Data.func
              { name := Str.ofString "_wall", qualname := Str.ofString "_wall",
                params :=
                  (by refine' (?f : ∀ e : Arguments, Wrap e → Arguments) _ ?w; (case f => exact fun e _ => e); (case w => ((have w9 := wr (fParams (stAt 1))); walk_at "ME norm"))),
                body :=
                  FuncBody.stmts (by refine' (?f : ∀ e : List Stmt, Wrap e → List Stmt) _ ?w; (case f => exact fun e _ => e); (case w => ((have w9 := wr (fBody (stAt 1))); walk_at "ME norm"))),
                scope := (by refine' (?f : ∀ e : Scope, Wrap e → Scope) _ ?w; (case f => exact fun e _ => e); (case w => ((have w9 := wr (fScope (stAt 1))); walk_at "ME norm"))), globals := (3 : Nat), closure := [], defaults := Value.none,
                kwdefaults := Value.none, pyModule := Value.str (Str.ofString "__main__") (164 : Nat), code := Value.ref (37 : Nat) } }) ::
    (nat_lit 49, { cls := Value.type "tuple", data := Data.seq #[] }) ::
    (nat_lit 51,
        { cls := Value.type "tuple",
          data :=
            Data.seq
              #[Value.str (Str.ofString "self") (311 : Nat), Value.str (Str.ofString "ws") (312 : Nat), Value.str (Str.ofString "S") (313 : Nat), Value.str (Str.ofString "T") (314 : Nat), Value.str (Str.ofString "count") (315 : Nat),
                Value.str (Str.ofString "b") (316 : Nat), Value.str (Str.ofString "n") (317 : Nat), Value.str (Str.ofString "nt") (318 : Nat), Value.str (Str.ofString "ch") (319 : Nat)] }) ::
    (nat_lit 52, { cls := Value.type "tuple", data := Data.seq #[] }) ::
    (nat_lit 54,
        { cls := Value.type "code",
          data :=
            Data.fields
              #[Value.str (Str.ofString "__init__") (308 : Nat), Value.str (Str.ofString "Whitespace.__init__") (309 : Nat), Value.str (Str.ofString "/claim/cut.py") (310 : Nat), Value.int 9 (0 : Nat), Value.int 2 (0 : Nat), Value.int 0 (0 : Nat),
                Value.int 0 (0 : Nat), Value.int 3 (0 : Nat), Value.ref (49 : Nat), Value.bool true, Value.int 276 (0 : Nat), Value.ref (50 : Nat), Value.none, Value.ref (51 : Nat), Value.ref (52 : Nat), Value.ref (53 : Nat), Value.int 320 (0 : Nat), Value.int 9 (0 : Nat),
                Value.str (Str.ofString "/claim/cut.py") (321 : Nat)] }) ::
    (nat_lit 55,
        { cls := Value.type "function",
          data :=
            Data.func
              { name := Str.ofString "__init__", qualname := Str.ofString "Whitespace.__init__",
                params :=
                  (by refine' (?f : ∀ e : Arguments, Wrap e → Arguments) _ ?w; (case f => exact fun e _ => e); (case w => ((have w9 := wr (fParams (inCls (stAt 3) 1))); walk_at "ME norm"))),
                body :=
                  FuncBody.stmts (by refine' (?f : ∀ e : List Stmt, Wrap e → List Stmt) _ ?w; (case f => exact fun e _ => e); (case w => ((have w9 := wr (fBody (inCls (stAt 3) 1))); walk_at "ME norm"))),
                scope :=
                  (by refine' (?f : ∀ e : Scope, Wrap e → Scope) _ ?w; (case f => exact fun e _ => e); (case w => ((have w9 := wr (fScope (inCls (stAt 3) 1))); walk_at "ME norm"))),
                globals := (3 : Nat), closure := [], defaults := Value.none, kwdefaults := Value.none, pyModule := Value.str (Str.ofString "cpy313.tabnanny") (289 : Nat), code := Value.ref (54 : Nat) } }) ::
    (nat_lit 56, { cls := Value.type "tuple", data := Data.seq #[] }) ::
    (nat_lit 58, { cls := Value.type "tuple", data := Data.seq #[Value.str (Str.ofString "self") (326 : Nat)] }) ::
    (nat_lit 59, { cls := Value.type "tuple", data := Data.seq #[] }) ::
    (nat_lit 61,
        { cls := Value.type "code",
          data :=
            Data.fields
              #[Value.str (Str.ofString "longest_run_of_spaces") (323 : Nat), Value.str (Str.ofString "Whitespace.longest_run_of_spaces") (324 : Nat), Value.str (Str.ofString "/claim/cut.py") (325 : Nat), Value.int 32 (0 : Nat),
                Value.int 1 (0 : Nat), Value.int 0 (0 : Nat), Value.int 0 (0 : Nat), Value.int 3 (0 : Nat), Value.ref (56 : Nat), Value.bool true, Value.int 276 (0 : Nat), Value.ref (57 : Nat), Value.none, Value.ref (58 : Nat), Value.ref (59 : Nat), Value.ref (60 : Nat),
                Value.int 327 (0 : Nat), Value.int 32 (0 : Nat), Value.str (Str.ofString "/claim/cut.py") (328 : Nat)] }) ::
    (nat_lit 62,
        { cls := Value.type "function",
          data :=
            Data.func
              { name := Str.ofString "longest_run_of_spaces", qualname := Str.ofString "Whitespace.longest_run_of_spaces",
                params :=
                  (by refine' (?f : ∀ e : Arguments, Wrap e → Arguments) _ ?w; (case f => exact fun e _ => e); (case w => ((have w9 := wr (fParams (inCls (stAt 3) 2))); walk_at "ME norm"))),
                body :=
                  FuncBody.stmts (by refine' (?f : ∀ e : List Stmt, Wrap e → List Stmt) _ ?w; (case f => exact fun e _ => e); (case w => ((have w9 := wr (fBody (inCls (stAt 3) 2))); walk_at "ME norm"))),
                scope := (by refine' (?f : ∀ e : Scope, Wrap e → Scope) _ ?w; (case f => exact fun e _ => e); (case w => ((have w9 := wr (fScope (inCls (stAt 3) 2))); walk_at "ME norm"))),
                globals := (3 : Nat), closure := [], defaults := Value.none, kwdefaults := Value.none, pyModule := Value.str (Str.ofString "cpy313.tabnanny") (289 : Nat), code := Value.ref (61 : Nat) } }) ::
    (nat_lit 63, { cls := Value.type "tuple", data := Data.seq #[] }) ::
    (nat_lit 65,
        { cls := Value.type "tuple",
          data :=
            Data.seq
              #[Value.str (Str.ofString "self") (333 : Nat), Value.str (Str.ofString "tabsize") (334 : Nat), Value.str (Str.ofString "count") (335 : Nat), Value.str (Str.ofString "trailing") (336 : Nat),
                Value.str (Str.ofString "il") (337 : Nat), Value.str (Str.ofString "i") (338 : Nat)] }) ::
    (nat_lit 66, { cls := Value.type "tuple", data := Data.seq #[] }) ::
    (nat_lit 68,
        { cls := Value.type "code",
          data :=
            Data.fields
              #[Value.str (Str.ofString "indent_level") (330 : Nat), Value.str (Str.ofString "Whitespace.indent_level") (331 : Nat), Value.str (Str.ofString "/claim/cut.py") (332 : Nat), Value.int 35 (0 : Nat), Value.int 2 (0 : Nat),
                Value.int 0 (0 : Nat), Value.int 0 (0 : Nat), Value.int 3 (0 : Nat), Value.ref (63 : Nat), Value.bool true, Value.int 276 (0 : Nat), Value.ref (64 : Nat), Value.none, Value.ref (65 : Nat), Value.ref (66 : Nat), Value.ref (67 : Nat), Value.int 339 (0 : Nat),
                Value.int 35 (0 : Nat), Value.str (Str.ofString "/claim/cut.py") (340 : Nat)] }) ::
    (nat_lit 69,
        { cls := Value.type "function",
          data :=
            Data.func
              { name := Str.ofString "indent_level", qualname := Str.ofString "Whitespace.indent_level",
                params :=
                  (by refine' (?f : ∀ e : Arguments, Wrap e → Arguments) _ ?w; (case f => exact fun e _ => e); (case w => ((have w9 := wr (fParams (inCls (stAt 3) 3))); walk_at "ME norm"))),
                body :=
                  FuncBody.stmts (by refine' (?f : ∀ e : List Stmt, Wrap e → List Stmt) _ ?w; (case f => exact fun e _ => e); (case w => ((have w9 := wr (fBody (inCls (stAt 3) 3))); walk_at "ME norm"))),
                scope :=
                  (by refine' (?f : ∀ e : Scope, Wrap e → Scope) _ ?w; (case f => exact fun e _ => e); (case w => ((have w9 := wr (fScope (inCls (stAt 3) 3))); walk_at "ME norm"))),
                globals := (3 : Nat), closure := [], defaults := Value.none, kwdefaults := Value.none, pyModule := Value.str (Str.ofString "cpy313.tabnanny") (289 : Nat), code := Value.ref (68 : Nat) } }) ::
    (nat_lit 70, { cls := Value.type "tuple", data := Data.seq #[] }) ::
    (nat_lit 72, { cls := Value.type "tuple", data := Data.seq #[Value.str (Str.ofString "self") (345 : Nat), Value.str (Str.ofString "other") (346 : Nat)] }) ::
    (nat_lit 73, { cls := Value.type "tuple", data := Data.seq #[] }) ::
    (nat_lit 75,
        { cls := Value.type "code",
          data :=
            Data.fields
              #[Value.str (Str.ofString "equal") (342 : Nat), Value.str (Str.ofString "Whitespace.equal") (343 : Nat), Value.str (Str.ofString "/claim/cut.py") (344 : Nat), Value.int 42 (0 : Nat), Value.int 2 (0 : Nat), Value.int 0 (0 : Nat),
                Value.int 0 (0 : Nat), Value.int 3 (0 : Nat), Value.ref (70 : Nat), Value.bool true, Value.int 276 (0 : Nat), Value.ref (71 : Nat), Value.none, Value.ref (72 : Nat), Value.ref (73 : Nat), Value.ref (74 : Nat), Value.int 347 (0 : Nat), Value.int 42 (0 : Nat),
                Value.str (Str.ofString "/claim/cut.py") (348 : Nat)] }) ::
    (nat_lit 76,
        { cls := Value.type "function",
          data :=
            Data.func
              { name := Str.ofString "equal", qualname := Str.ofString "Whitespace.equal",
                params :=
                  (by refine' (?f : ∀ e : Arguments, Wrap e → Arguments) _ ?w; (case f => exact fun e _ => e); (case w => ((have w9 := wr (fParams (inCls (stAt 3) 4))); walk_at "ME norm"))),
                body :=
                  FuncBody.stmts (by refine' (?f : ∀ e : List Stmt, Wrap e → List Stmt) _ ?w; (case f => exact fun e _ => e); (case w => ((have w9 := wr (fBody (inCls (stAt 3) 4))); walk_at "ME norm"))),
                scope :=
                  (by refine' (?f : ∀ e : Scope, Wrap e → Scope) _ ?w; (case f => exact fun e _ => e); (case w => ((have w9 := wr (fScope (inCls (stAt 3) 4))); walk_at "ME norm"))),
                globals := (3 : Nat), closure := [], defaults := Value.none, kwdefaults := Value.none, pyModule := Value.str (Str.ofString "cpy313.tabnanny") (289 : Nat), code := Value.ref (75 : Nat) } }) ::
    (nat_lit 77, { cls := Value.type "tuple", data := Data.seq #[] }) ::
    (nat_lit 79, { cls := Value.type "tuple", data := Data.seq #[Value.str (Str.ofString "self") (353 : Nat), Value.str (Str.ofString "other") (354 : Nat)] }) ::
    (nat_lit 80, { cls := Value.type "tuple", data := Data.seq #[] }) ::
    (nat_lit 82,
        { cls := Value.type "code",
          data :=
            Data.fields
              #[Value.str (Str.ofString "not_equal_witness") (350 : Nat), Value.str (Str.ofString "Whitespace.not_equal_witness") (351 : Nat), Value.str (Str.ofString "/claim/cut.py") (352 : Nat), Value.int 45 (0 : Nat),
                Value.int 2 (0 : Nat), Value.int 0 (0 : Nat), Value.int 0 (0 : Nat), Value.int 3 (0 : Nat), Value.ref (77 : Nat), Value.bool true, Value.int 276 (0 : Nat), Value.ref (78 : Nat), Value.none, Value.ref (79 : Nat), Value.ref (80 : Nat), Value.ref (81 : Nat),
                Value.int 355 (0 : Nat), Value.int 45 (0 : Nat), Value.str (Str.ofString "/claim/cut.py") (356 : Nat)] }) ::
    (nat_lit 83,
        { cls := Value.type "function",
          data :=
            Data.func
              { name := Str.ofString "not_equal_witness", qualname := Str.ofString "Whitespace.not_equal_witness",
                params :=
                  (by refine' (?f : ∀ e : Arguments, Wrap e → Arguments) _ ?w; (case f => exact fun e _ => e); (case w => ((have w9 := wr (fParams (inCls (stAt 3) 5))); walk_at "ME norm"))),
                body :=
                  FuncBody.stmts (by refine' (?f : ∀ e : List Stmt, Wrap e → List Stmt) _ ?w; (case f => exact fun e _ => e); (case w => ((have w9 := wr (fBody (inCls (stAt 3) 5))); walk_at "ME norm"))),
                scope :=
                  (by refine' (?f : ∀ e : Scope, Wrap e → Scope) _ ?w; (case f => exact fun e _ => e); (case w => ((have w9 := wr (fScope (inCls (stAt 3) 5))); walk_at "ME norm"))),
                globals := (3 : Nat), closure := [], defaults := Value.none, kwdefaults := Value.none, pyModule := Value.str (Str.ofString "cpy313.tabnanny") (289 : Nat), code := Value.ref (82 : Nat) } }) ::
    (nat_lit 84, { cls := Value.type "tuple", data := Data.seq #[] }) ::
    (nat_lit 86, { cls := Value.type "tuple", data := Data.seq #[Value.str (Str.ofString "self") (361 : Nat), Value.str (Str.ofString "other") (362 : Nat)] }) ::
    (nat_lit 87, { cls := Value.type "tuple", data := Data.seq #[] }) ::
    (nat_lit 89,
        { cls := Value.type "code",
          data :=
            Data.fields
              #[Value.str (Str.ofString "less") (358 : Nat), Value.str (Str.ofString "Whitespace.less") (359 : Nat), Value.str (Str.ofString "/claim/cut.py") (360 : Nat), Value.int 48 (0 : Nat), Value.int 2 (0 : Nat), Value.int 0 (0 : Nat),
                Value.int 0 (0 : Nat), Value.int 3 (0 : Nat), Value.ref (84 : Nat), Value.bool true, Value.int 276 (0 : Nat), Value.ref (85 : Nat), Value.none, Value.ref (86 : Nat), Value.ref (87 : Nat), Value.ref (88 : Nat), Value.int 363 (0 : Nat), Value.int 48 (0 : Nat),
                Value.str (Str.ofString "/claim/cut.py") (364 : Nat)] }) ::
    (nat_lit 90,
        { cls := Value.type "function",
          data :=
            Data.func
              { name := Str.ofString "less", qualname := Str.ofString "Whitespace.less",
                params :=
                  (by refine' (?f : ∀ e : Arguments, Wrap e → Arguments) _ ?w; (case f => exact fun e _ => e); (case w => ((have w9 := wr (fParams (inCls (stAt 3) 6))); walk_at "ME norm"))),
                body :=
                  FuncBody.stmts (by refine' (?f : ∀ e : List Stmt, Wrap e → List Stmt) _ ?w; (case f => exact fun e _ => e); (case w => ((have w9 := wr (fBody (inCls (stAt 3) 6))); walk_at "ME norm"))),
                scope :=
                  (by refine' (?f : ∀ e : Scope, Wrap e → Scope) _ ?w; (case f => exact fun e _ => e); (case w => ((have w9 := wr (fScope (inCls (stAt 3) 6))); walk_at "ME norm"))),
                globals := (3 : Nat), closure := [], defaults := Value.none, kwdefaults := Value.none, pyModule := Value.str (Str.ofString "cpy313.tabnanny") (289 : Nat), code := Value.ref (89 : Nat) } }) ::
    (nat_lit 91, { cls := Value.type "tuple", data := Data.seq #[] }) ::
    (nat_lit 93, { cls := Value.type "tuple", data := Data.seq #[Value.str (Str.ofString "self") (369 : Nat), Value.str (Str.ofString "other") (370 : Nat)] }) ::
    (nat_lit 94, { cls := Value.type "tuple", data := Data.seq #[] }) ::
    (nat_lit 96,
        { cls := Value.type "code",
          data :=
            Data.fields
              #[Value.str (Str.ofString "not_less_witness") (366 : Nat), Value.str (Str.ofString "Whitespace.not_less_witness") (367 : Nat), Value.str (Str.ofString "/claim/cut.py") (368 : Nat), Value.int 51 (0 : Nat), Value.int 2 (0 : Nat),
                Value.int 0 (0 : Nat), Value.int 0 (0 : Nat), Value.int 3 (0 : Nat), Value.ref (91 : Nat), Value.bool true, Value.int 276 (0 : Nat), Value.ref (92 : Nat), Value.none, Value.ref (93 : Nat), Value.ref (94 : Nat), Value.ref (95 : Nat), Value.int 371 (0 : Nat),
                Value.int 51 (0 : Nat), Value.str (Str.ofString "/claim/cut.py") (372 : Nat)] }) ::
    (nat_lit 97,
        { cls := Value.type "function",
          data :=
            Data.func
              { name := Str.ofString "not_less_witness", qualname := Str.ofString "Whitespace.not_less_witness",
                params :=
                  (by refine' (?f : ∀ e : Arguments, Wrap e → Arguments) _ ?w; (case f => exact fun e _ => e); (case w => ((have w9 := wr (fParams (inCls (stAt 3) 7))); walk_at "ME norm"))),
                body :=
                  FuncBody.stmts (by refine' (?f : ∀ e : List Stmt, Wrap e → List Stmt) _ ?w; (case f => exact fun e _ => e); (case w => ((have w9 := wr (fBody (inCls (stAt 3) 7))); walk_at "ME norm"))),
                scope :=
                  (by refine' (?f : ∀ e : Scope, Wrap e → Scope) _ ?w; (case f => exact fun e _ => e); (case w => ((have w9 := wr (fScope (inCls (stAt 3) 7))); walk_at "ME norm"))),
                globals := (3 : Nat), closure := [], defaults := Value.none, kwdefaults := Value.none, pyModule := Value.str (Str.ofString "cpy313.tabnanny") (289 : Nat), code := Value.ref (96 : Nat) } }) ::
    (nat_lit 98,
        { cls := Value.type "tuple",
          data :=
            Data.seq
              #[Value.str (Str.ofString "is_simple") (374 : Nat), Value.str (Str.ofString "n") (375 : Nat), Value.str (Str.ofString "norm") (376 : Nat), Value.str (Str.ofString "nt") (377 : Nat),
                Value.str (Str.ofString "raw") (378 : Nat)] }) ::
    (nat_lit 99,
        { cls := Value.type "dict",
          data :=
            Data.dict
              #[{ hash := PyData.keyHash P (Str.ofString "__module__"), key := Value.str (Str.ofString "__module__") (298 : Nat), val := Value.str (Str.ofString "cpy313.tabnanny") (289 : Nat) },
                { hash := PyData.keyHash P (Str.ofString "__firstlineno__"), key := Value.str (Str.ofString "__firstlineno__") (302 : Nat), val := Value.int 6 (301 : Nat) },
                { hash := PyData.keyHash P (Str.ofString "S"), key := Value.str (Str.ofString "S") (306 : Nat), val := Value.str (Str.ofString " ") (304 : Nat) },
                { hash := PyData.keyHash P (Str.ofString "T"), key := Value.str (Str.ofString "T") (307 : Nat), val := Value.str (Str.ofString "\t") (305 : Nat) },
                { hash := PyData.keyHash P (Str.ofString "__init__"), key := Value.str (Str.ofString "__init__") (322 : Nat), val := Value.ref (55 : Nat) },
                { hash := PyData.keyHash P (Str.ofString "longest_run_of_spaces"), key := Value.str (Str.ofString "longest_run_of_spaces") (329 : Nat), val := Value.ref (62 : Nat) },
                { hash := PyData.keyHash P (Str.ofString "indent_level"), key := Value.str (Str.ofString "indent_level") (341 : Nat), val := Value.ref (69 : Nat) },
                { hash := PyData.keyHash P (Str.ofString "equal"), key := Value.str (Str.ofString "equal") (349 : Nat), val := Value.ref (76 : Nat) },
                { hash := PyData.keyHash P (Str.ofString "not_equal_witness"), key := Value.str (Str.ofString "not_equal_witness") (357 : Nat), val := Value.ref (83 : Nat) },
                { hash := PyData.keyHash P (Str.ofString "less"), key := Value.str (Str.ofString "less") (365 : Nat), val := Value.ref (90 : Nat) },
                { hash := PyData.keyHash P (Str.ofString "not_less_witness"), key := Value.str (Str.ofString "not_less_witness") (373 : Nat), val := Value.ref (97 : Nat) },
                { hash := PyData.keyHash P (Str.ofString "__static_attributes__"), key := Value.str (Str.ofString "__static_attributes__") (379 : Nat), val := Value.ref (98 : Nat) },
                { hash := PyData.keyHash P (Str.ofString "__dict__"), key := Value.str (Str.ofString "__dict__") (381 : Nat), val := Value.ref (101 : Nat) },
                { hash := PyData.keyHash P (Str.ofString "__weakref__"), key := Value.str (Str.ofString "__weakref__") (383 : Nat), val := Value.ref (102 : Nat) },
                { hash := PyData.keyHash P (Str.ofString "__doc__"), key := Value.str (Str.ofString "__doc__") (384 : Nat), val := Value.none }]
              4 }) ::
    (nat_lit 100,
        { cls := Value.type "type",
          data := Data.cls { name := Str.ofString "Whitespace", bases := [Value.type "object"], mro := [Value.ref (100 : Nat), Value.type "object"], ns := 99, qualname := Str.ofString "Whitespace" },
          slots := #[none, none, some (Value.str (Str.ofString "Whitespace") (291 : Nat)), some (Value.str (Str.ofString "Whitespace") (299 : Nat)), some (Value.builtin "object.__new__"), some (Value.bool true)] }) ::
    (nat_lit 101,
        { cls := Value.type "getset_descriptor",
          data := Data.fields #[Value.str (Str.ofString "__dict__") (380 : Nat), Value.ref (100 : Nat), Value.builtin "function.__dict__", Value.builtin "function.__dict__#set"] }) ::
    (nat_lit 102, { cls := Value.type "getset_descriptor", data := Data.fields #[Value.str (Str.ofString "__weakref__") (382 : Nat), Value.ref (100 : Nat), Value.builtin "ExceptionGroup.__weakref__", Value.none] }) ::
    (nat_lit 112, { cls := Value.type "tuple", data := Data.seq #[] }) ::
    (nat_lit 114, { cls := Value.type "tuple", data := Data.seq #[Value.str (Str.ofString "self") (404 : Nat), Value.str (Str.ofString "comp_select_list") (405 : Nat)] }) ::
    (nat_lit 115, { cls := Value.type "tuple", data := Data.seq #[] }) ::
    (nat_lit 117,
        { cls := Value.type "code",
          data :=
            Data.fields
              #[Value.str (Str.ofString "__init__") (401 : Nat), Value.str (Str.ofString "TupleComp.__init__") (402 : Nat), Value.str (Str.ofString "/claim/cut.py") (403 : Nat), Value.int 56 (0 : Nat), Value.int 2 (0 : Nat), Value.int 0 (0 : Nat),
                Value.int 0 (0 : Nat), Value.int 3 (0 : Nat), Value.ref (112 : Nat), Value.bool true, Value.int 276 (0 : Nat), Value.ref (113 : Nat), Value.none, Value.ref (114 : Nat), Value.ref (115 : Nat), Value.ref (116 : Nat), Value.int 406 (0 : Nat), Value.int 56 (0 : Nat),
                Value.str (Str.ofString "/claim/cut.py") (407 : Nat)] }) ::
    (nat_lit 118,
        { cls := Value.type "function",
          data :=
            Data.func
              { name := Str.ofString "__init__", qualname := Str.ofString "TupleComp.__init__",
                params :=
                  (by refine' (?f : ∀ e : Arguments, Wrap e → Arguments) _ ?w; (case f => exact fun e _ => e); (case w => ((have w9 := wr (fParams (inCls (stAt 5) 0))); walk_at "ME norm"))),
                body :=
                  FuncBody.stmts (by refine' (?f : ∀ e : List Stmt, Wrap e → List Stmt) _ ?w; (case f => exact fun e _ => e); (case w => ((have w9 := wr (fBody (inCls (stAt 5) 0))); walk_at "ME norm"))),
                scope := (by refine' (?f : ∀ e : Scope, Wrap e → Scope) _ ?w; (case f => exact fun e _ => e); (case w => ((have w9 := wr (fScope (inCls (stAt 5) 0))); walk_at "ME norm"))),
                globals := (3 : Nat), closure := [], defaults := Value.none, kwdefaults := Value.none, pyModule := Value.str (Str.ofString "cpy313.pstats") (387 : Nat), code := Value.ref (117 : Nat) } }) ::
    (nat_lit 119, { cls := Value.type "tuple", data := Data.seq #[] }) ::
    (nat_lit 121,
        { cls := Value.type "tuple",
          data :=
            Data.seq
              #[Value.str (Str.ofString "self") (412 : Nat), Value.str (Str.ofString "left") (413 : Nat), Value.str (Str.ofString "right") (414 : Nat), Value.str (Str.ofString "index") (415 : Nat),
                Value.str (Str.ofString "direction") (416 : Nat), Value.str (Str.ofString "l") (417 : Nat), Value.str (Str.ofString "r") (418 : Nat)] }) ::
    (nat_lit 122, { cls := Value.type "tuple", data := Data.seq #[] }) ::
    (nat_lit 124,
        { cls := Value.type "code",
          data :=
            Data.fields
              #[Value.str (Str.ofString "compare") (409 : Nat), Value.str (Str.ofString "TupleComp.compare") (410 : Nat), Value.str (Str.ofString "/claim/cut.py") (411 : Nat), Value.int 59 (0 : Nat), Value.int 3 (0 : Nat), Value.int 0 (0 : Nat),
                Value.int 0 (0 : Nat), Value.int 3 (0 : Nat), Value.ref (119 : Nat), Value.bool true, Value.int 276 (0 : Nat), Value.ref (120 : Nat), Value.none, Value.ref (121 : Nat), Value.ref (122 : Nat), Value.ref (123 : Nat), Value.int 419 (0 : Nat), Value.int 59 (0 : Nat),
                Value.str (Str.ofString "/claim/cut.py") (420 : Nat)] }) ::
    (nat_lit 125,
        { cls := Value.type "function",
          data :=
            Data.func
              { name := Str.ofString "compare", qualname := Str.ofString "TupleComp.compare",
                params :=
                  (by refine' (?f : ∀ e : Arguments, Wrap e → Arguments) _ ?w; (case f => exact fun e _ => e); (case w => ((have w9 := wr (fParams (inCls (stAt 5) 1))); walk_at "ME norm"))),
                body :=
                  FuncBody.stmts (by refine' (?f : ∀ e : List Stmt, Wrap e → List Stmt) _ ?w; (case f => exact fun e _ => e); (case w => ((have w9 := wr (fBody (inCls (stAt 5) 1))); walk_at "ME norm"))),
                scope :=
                  (by refine' (?f : ∀ e : Scope, Wrap e → Scope) _ ?w; (case f => exact fun e _ => e); (case w => ((have w9 := wr (fScope (inCls (stAt 5) 1))); walk_at "ME norm"))),
                globals := (3 : Nat), closure := [], defaults := Value.none, kwdefaults := Value.none, pyModule := Value.str (Str.ofString "cpy313.pstats") (387 : Nat), code := Value.ref (124 : Nat) } }) ::
    (nat_lit 126, { cls := Value.type "tuple", data := Data.seq #[Value.str (Str.ofString "comp_select_list") (422 : Nat)] }) ::
    (nat_lit 127,
        { cls := Value.type "dict",
          data :=
            Data.dict
              #[{ hash := PyData.keyHash P (Str.ofString "__module__"), key := Value.str (Str.ofString "__module__") (396 : Nat), val := Value.str (Str.ofString "cpy313.pstats") (387 : Nat) },
                { hash := PyData.keyHash P (Str.ofString "__firstlineno__"), key := Value.str (Str.ofString "__firstlineno__") (400 : Nat), val := Value.int 54 (399 : Nat) },
                { hash := PyData.keyHash P (Str.ofString "__init__"), key := Value.str (Str.ofString "__init__") (408 : Nat), val := Value.ref (118 : Nat) },
                { hash := PyData.keyHash P (Str.ofString "compare"), key := Value.str (Str.ofString "compare") (421 : Nat), val := Value.ref (125 : Nat) },
                { hash := PyData.keyHash P (Str.ofString "__static_attributes__"), key := Value.str (Str.ofString "__static_attributes__") (423 : Nat), val := Value.ref (126 : Nat) },
                { hash := PyData.keyHash P (Str.ofString "__dict__"), key := Value.str (Str.ofString "__dict__") (425 : Nat), val := Value.ref (129 : Nat) },
                { hash := PyData.keyHash P (Str.ofString "__weakref__"), key := Value.str (Str.ofString "__weakref__") (427 : Nat), val := Value.ref (130 : Nat) },
                { hash := PyData.keyHash P (Str.ofString "__doc__"), key := Value.str (Str.ofString "__doc__") (428 : Nat), val := Value.none }]
              4 }) ::
    (nat_lit 128,
        { cls := Value.type "type",
          data := Data.cls { name := Str.ofString "TupleComp", bases := [Value.type "object"], mro := [Value.ref (128 : Nat), Value.type "object"], ns := 127, qualname := Str.ofString "TupleComp" },
          slots := #[none, none, some (Value.str (Str.ofString "TupleComp") (389 : Nat)), some (Value.str (Str.ofString "TupleComp") (397 : Nat)), some (Value.builtin "object.__new__"), some (Value.bool true)] }) ::
    (nat_lit 129,
        { cls := Value.type "getset_descriptor",
          data := Data.fields #[Value.str (Str.ofString "__dict__") (424 : Nat), Value.ref (128 : Nat), Value.builtin "function.__dict__", Value.builtin "function.__dict__#set"] }) ::
    (nat_lit 130, { cls := Value.type "getset_descriptor", data := Data.fields #[Value.str (Str.ofString "__weakref__") (426 : Nat), Value.ref (128 : Nat), Value.builtin "ExceptionGroup.__weakref__", Value.none] }) ::
    (nat_lit 136,
        { cls := Value.type "tuple",
          data :=
            Data.seq
              #[Value.int 14 (0 : Nat), Value.int 10 (0 : Nat), Value.int 4 (0 : Nat), Value.int 1 (0 : Nat), Value.int 1 (0 : Nat), Value.int 22 (0 : Nat), Value.int 0 (0 : Nat), Value.int 31 (0 : Nat), Value.int 16 (0 : Nat), Value.int 127 (0 : Nat), Value.int 0 (0 : Nat),
                Value.int 13 (0 : Nat), Value.int 7 (0 : Nat), Value.int 22 (0 : Nat), Value.int 0 (0 : Nat), Value.int 31 (0 : Nat), Value.int 16 (0 : Nat), Value.int 127 (0 : Nat), Value.int 0 (0 : Nat), Value.int 1 (0 : Nat)] }) ::
    (nat_lit 137,
        { cls := Value.type "re.Pattern",
          data := Data.fields #[Value.str (Str.ofString "[\\x00-\\x1F\\x7F]") (434 : Nat), Value.int 32 (457 : Nat), Value.int 0 (0 : Nat), Value.none, Value.none, Value.ref (136 : Nat), Value.int 0 (0 : Nat)] }) ::
    (nat_lit 141,
        { cls := Value.type "tuple",
          data :=
            Data.seq
              #[Value.int 14 (0 : Nat), Value.int 14 (0 : Nat), Value.int 4 (0 : Nat), Value.int 1 (0 : Nat), Value.int 1 (0 : Nat), Value.int 9 (0 : Nat), Value.int 4294966783 (0 : Nat), Value.int 0 (0 : Nat), Value.int 0 (0 : Nat), Value.int 2147483648 (0 : Nat), Value.int 0 (0 : Nat),
                Value.int 0 (0 : Nat), Value.int 0 (0 : Nat), Value.int 0 (0 : Nat), Value.int 0 (0 : Nat), Value.int 13 (0 : Nat), Value.int 11 (0 : Nat), Value.int 9 (0 : Nat), Value.int 4294966783 (0 : Nat), Value.int 0 (0 : Nat), Value.int 0 (0 : Nat), Value.int 2147483648 (0 : Nat),
                Value.int 0 (0 : Nat), Value.int 0 (0 : Nat), Value.int 0 (0 : Nat), Value.int 0 (0 : Nat), Value.int 0 (0 : Nat), Value.int 1 (0 : Nat)] }) ::
    (nat_lit 142,
        { cls := Value.type "re.Pattern",
          data := Data.fields #[Value.str (Str.ofString "[\\x00-\\x08\\x0A-\\x1F\\x7F]") (460 : Nat), Value.int 32 (491 : Nat), Value.int 0 (0 : Nat), Value.none, Value.none, Value.ref (141 : Nat), Value.int 0 (0 : Nat)] }) ::
    (nat_lit 150, { cls := Value.type "tuple", data := Data.seq #[Value.none] }) ::
    (nat_lit 151, { cls := Value.type "tuple", data := Data.seq #[] }) ::
    (nat_lit 153,
        { cls := Value.type "tuple",
          data := Data.seq #[Value.str (Str.ofString "self") (508 : Nat), Value.str (Str.ofString "headers") (509 : Nat), Value.str (Str.ofString "k") (510 : Nat), Value.str (Str.ofString "v") (511 : Nat)] }) ::
    (nat_lit 154, { cls := Value.type "tuple", data := Data.seq #[] }) ::
    (nat_lit 156,
        { cls := Value.type "code",
          data :=
            Data.fields
              #[Value.str (Str.ofString "__init__") (505 : Nat), Value.str (Str.ofString "Headers.__init__") (506 : Nat), Value.str (Str.ofString "/claim/cut.py") (507 : Nat), Value.int 73 (0 : Nat), Value.int 2 (0 : Nat), Value.int 0 (0 : Nat),
                Value.int 0 (0 : Nat), Value.int 3 (0 : Nat), Value.ref (151 : Nat), Value.bool true, Value.int 276 (0 : Nat), Value.ref (152 : Nat), Value.none, Value.ref (153 : Nat), Value.ref (154 : Nat), Value.ref (155 : Nat), Value.int 512 (0 : Nat), Value.int 73 (0 : Nat),
                Value.str (Str.ofString "/claim/cut.py") (513 : Nat)] }) ::
    (nat_lit 157,
        { cls := Value.type "function",
          data :=
            Data.func
              { name := Str.ofString "__init__", qualname := Str.ofString "Headers.__init__",
                params :=
                  (by refine' (?f : ∀ e : Arguments, Wrap e → Arguments) _ ?w; (case f => exact fun e _ => e); (case w => ((have w9 := wr (fParams (inCls (stAt 9) 0))); walk_at "ME norm"))),
                body :=
                  FuncBody.stmts (by refine' (?f : ∀ e : List Stmt, Wrap e → List Stmt) _ ?w; (case f => exact fun e _ => e); (case w => ((have w9 := wr (fBody (inCls (stAt 9) 0))); walk_at "ME norm"))),
                scope :=
                  (by refine' (?f : ∀ e : Scope, Wrap e → Scope) _ ?w; (case f => exact fun e _ => e); (case w => ((have w9 := wr (fScope (inCls (stAt 9) 0))); walk_at "ME norm"))),
                globals := (3 : Nat), closure := [], defaults := Value.ref (150 : Nat), kwdefaults := Value.none, pyModule := Value.str (Str.ofString "cpy313.wsgiref.headers") (431 : Nat), code := Value.ref (156 : Nat) } }) ::
    (nat_lit 158, { cls := Value.type "tuple", data := Data.seq #[] }) ::
    (nat_lit 160,
        { cls := Value.type "tuple",
          data := Data.seq #[Value.str (Str.ofString "self") (518 : Nat), Value.str (Str.ofString "value") (519 : Nat), Value.str (Str.ofString "name") (520 : Nat), Value.str (Str.ofString "regex") (521 : Nat)] }) ::
    (nat_lit 161, { cls := Value.type "tuple", data := Data.seq #[] }) ::
    (nat_lit 163,
        { cls := Value.type "code",
          data :=
            Data.fields
              #[Value.str (Str.ofString "_convert_string_type") (515 : Nat), Value.str (Str.ofString "Headers._convert_string_type") (516 : Nat), Value.str (Str.ofString "/claim/cut.py") (517 : Nat), Value.int 83 (0 : Nat),
                Value.int 2 (0 : Nat), Value.int 0 (0 : Nat), Value.int 1 (0 : Nat), Value.int 3 (0 : Nat), Value.ref (158 : Nat), Value.bool true, Value.int 276 (0 : Nat), Value.ref (159 : Nat), Value.none, Value.ref (160 : Nat), Value.ref (161 : Nat), Value.ref (162 : Nat),
                Value.int 522 (0 : Nat), Value.int 83 (0 : Nat), Value.str (Str.ofString "/claim/cut.py") (523 : Nat)] }) ::
    (nat_lit 164,
        { cls := Value.type "function",
          data :=
            Data.func
              { name := Str.ofString "_convert_string_type", qualname := Str.ofString "Headers._convert_string_type",
                params :=
                  (by refine' (?f : ∀ e : Arguments, Wrap e → Arguments) _ ?w; (case f => exact fun e _ => e); (case w => ((have w9 := wr (fParams (inCls (stAt 9) 1))); walk_at "ME norm"))),
                body :=
                  FuncBody.stmts (by refine' (?f : ∀ e : List Stmt, Wrap e → List Stmt) _ ?w; (case f => exact fun e _ => e); (case w => ((have w9 := wr (fBody (inCls (stAt 9) 1))); walk_at "ME norm"))),
                scope :=
                  (by refine' (?f : ∀ e : Scope, Wrap e → Scope) _ ?w; (case f => exact fun e _ => e); (case w => ((have w9 := wr (fScope (inCls (stAt 9) 1))); walk_at "ME norm"))),
                globals := (3 : Nat), closure := [], defaults := Value.none, kwdefaults := Value.none, pyModule := Value.str (Str.ofString "cpy313.wsgiref.headers") (431 : Nat), code := Value.ref (163 : Nat) } }) ::
    (nat_lit 165, { cls := Value.type "tuple", data := Data.seq #[] }) ::
    (nat_lit 167, { cls := Value.type "tuple", data := Data.seq #[Value.str (Str.ofString "self") (528 : Nat)] }) ::
    (nat_lit 168, { cls := Value.type "tuple", data := Data.seq #[] }) ::
    (nat_lit 170,
        { cls := Value.type "code",
          data :=
            Data.fields
              #[Value.str (Str.ofString "__len__") (525 : Nat), Value.str (Str.ofString "Headers.__len__") (526 : Nat), Value.str (Str.ofString "/claim/cut.py") (527 : Nat), Value.int 91 (0 : Nat), Value.int 1 (0 : Nat), Value.int 0 (0 : Nat),
                Value.int 0 (0 : Nat), Value.int 3 (0 : Nat), Value.ref (165 : Nat), Value.bool true, Value.int 276 (0 : Nat), Value.ref (166 : Nat), Value.none, Value.ref (167 : Nat), Value.ref (168 : Nat), Value.ref (169 : Nat), Value.int 529 (0 : Nat), Value.int 91 (0 : Nat),
                Value.str (Str.ofString "/claim/cut.py") (530 : Nat)] }) ::
    (nat_lit 171,
        { cls := Value.type "function",
          data :=
            Data.func
              { name := Str.ofString "__len__", qualname := Str.ofString "Headers.__len__",
                params :=
                  (by refine' (?f : ∀ e : Arguments, Wrap e → Arguments) _ ?w; (case f => exact fun e _ => e); (case w => ((have w9 := wr (fParams (inCls (stAt 9) 2))); walk_at "ME norm"))),
                body :=
                  FuncBody.stmts (by refine' (?f : ∀ e : List Stmt, Wrap e → List Stmt) _ ?w; (case f => exact fun e _ => e); (case w => ((have w9 := wr (fBody (inCls (stAt 9) 2))); walk_at "ME norm"))),
                scope := (by refine' (?f : ∀ e : Scope, Wrap e → Scope) _ ?w; (case f => exact fun e _ => e); (case w => ((have w9 := wr (fScope (inCls (stAt 9) 2))); walk_at "ME norm"))),
                globals := (3 : Nat), closure := [], defaults := Value.none, kwdefaults := Value.none, pyModule := Value.str (Str.ofString "cpy313.wsgiref.headers") (431 : Nat), code := Value.ref (170 : Nat) } }) ::
    (nat_lit 172, { cls := Value.type "tuple", data := Data.seq #[] }) ::
    (nat_lit 174, { cls := Value.type "tuple", data := Data.seq #[Value.str (Str.ofString "self") (535 : Nat), Value.str (Str.ofString "name") (536 : Nat), Value.str (Str.ofString "val") (537 : Nat)] }) ::
    (nat_lit 175, { cls := Value.type "tuple", data := Data.seq #[] }) ::
    (nat_lit 177,
        { cls := Value.type "code",
          data :=
            Data.fields
              #[Value.str (Str.ofString "__setitem__") (532 : Nat), Value.str (Str.ofString "Headers.__setitem__") (533 : Nat), Value.str (Str.ofString "/claim/cut.py") (534 : Nat), Value.int 94 (0 : Nat), Value.int 3 (0 : Nat),
                Value.int 0 (0 : Nat), Value.int 0 (0 : Nat), Value.int 3 (0 : Nat), Value.ref (172 : Nat), Value.bool true, Value.int 276 (0 : Nat), Value.ref (173 : Nat), Value.none, Value.ref (174 : Nat), Value.ref (175 : Nat), Value.ref (176 : Nat), Value.int 538 (0 : Nat),
                Value.int 94 (0 : Nat), Value.str (Str.ofString "/claim/cut.py") (539 : Nat)] }) ::
    (nat_lit 178,
        { cls := Value.type "function",
          data :=
            Data.func
              { name := Str.ofString "__setitem__", qualname := Str.ofString "Headers.__setitem__",
                params :=
                  (by refine' (?f : ∀ e : Arguments, Wrap e → Arguments) _ ?w; (case f => exact fun e _ => e); (case w => ((have w9 := wr (fParams (inCls (stAt 9) 3))); walk_at "ME norm"))),
                body :=
                  FuncBody.stmts (by refine' (?f : ∀ e : List Stmt, Wrap e → List Stmt) _ ?w; (case f => exact fun e _ => e); (case w => ((have w9 := wr (fBody (inCls (stAt 9) 3))); walk_at "ME norm"))),
                scope :=
                  (by refine' (?f : ∀ e : Scope, Wrap e → Scope) _ ?w; (case f => exact fun e _ => e); (case w => ((have w9 := wr (fScope (inCls (stAt 9) 3))); walk_at "ME norm"))),
                globals := (3 : Nat), closure := [], defaults := Value.none, kwdefaults := Value.none, pyModule := Value.str (Str.ofString "cpy313.wsgiref.headers") (431 : Nat), code := Value.ref (177 : Nat) } }) ::
    (nat_lit 179, { cls := Value.type "tuple", data := Data.seq #[] }) ::
    (nat_lit 182,
        { cls := Value.type "code",
          data :=
            Data.fields
              #[Value.str (Str.ofString "__delitem__") (541 : Nat), Value.str (Str.ofString "Headers.__delitem__") (542 : Nat), Value.str (Str.ofString "/claim/cut.py") (543 : Nat), Value.int 98 (0 : Nat), Value.int 2 (0 : Nat),
                Value.int 0 (0 : Nat), Value.int 0 (0 : Nat), Value.int 3 (0 : Nat), Value.ref (179 : Nat), Value.bool true, Value.int 276 (0 : Nat), Value.ref (180 : Nat), Value.none, Value.none, Value.none, Value.ref (181 : Nat), Value.int 544 (0 : Nat),
                Value.int 98 (0 : Nat), Value.str (Str.ofString "/claim/cut.py") (545 : Nat)] }) ::
    (nat_lit 183,
        { cls := Value.type "function",
          data :=
            Data.func
              { name := Str.ofString "__delitem__", qualname := Str.ofString "Headers.__delitem__",
                params :=
                  (by refine' (?f : ∀ e : Arguments, Wrap e → Arguments) _ ?w; (case f => exact fun e _ => e); (case w => ((have w9 := wr (fParams (inCls (stAt 9) 4))); walk_at "ME norm"))),
                body :=
                  FuncBody.stmts (by refine' (?f : ∀ e : List Stmt, Wrap e → List Stmt) _ ?w; (case f => exact fun e _ => e); (case w => ((have w9 := wr (fBody (inCls (stAt 9) 4))); walk_at "ME norm"))),
                scope :=
                  (by refine' (?f : ∀ e : Scope, Wrap e → Scope) _ ?w; (case f => exact fun e _ => e); (case w => ((have w9 := wr (fScope (inCls (stAt 9) 4))); walk_at "ME norm"))),
                globals := (3 : Nat), closure := [], defaults := Value.none, kwdefaults := Value.none, pyModule := Value.str (Str.ofString "cpy313.wsgiref.headers") (431 : Nat), code := Value.ref (182 : Nat) } }) ::
    (nat_lit 184, { cls := Value.type "tuple", data := Data.seq #[] }) ::
    (nat_lit 186, { cls := Value.type "tuple", data := Data.seq #[Value.str (Str.ofString "self") (550 : Nat), Value.str (Str.ofString "name") (551 : Nat)] }) ::
    (nat_lit 187, { cls := Value.type "tuple", data := Data.seq #[] }) ::
    (nat_lit 189,
        { cls := Value.type "code",
          data :=
            Data.fields
              #[Value.str (Str.ofString "__getitem__") (547 : Nat), Value.str (Str.ofString "Headers.__getitem__") (548 : Nat), Value.str (Str.ofString "/claim/cut.py") (549 : Nat), Value.int 102 (0 : Nat), Value.int 2 (0 : Nat),
                Value.int 0 (0 : Nat), Value.int 0 (0 : Nat), Value.int 3 (0 : Nat), Value.ref (184 : Nat), Value.bool true, Value.int 276 (0 : Nat), Value.ref (185 : Nat), Value.none, Value.ref (186 : Nat), Value.ref (187 : Nat), Value.ref (188 : Nat), Value.int 552 (0 : Nat),
                Value.int 102 (0 : Nat), Value.str (Str.ofString "/claim/cut.py") (553 : Nat)] }) ::
    (nat_lit 190,
        { cls := Value.type "function",
          data :=
            Data.func
              { name := Str.ofString "__getitem__", qualname := Str.ofString "Headers.__getitem__",
                params :=
                  (by refine' (?f : ∀ e : Arguments, Wrap e → Arguments) _ ?w; (case f => exact fun e _ => e); (case w => ((have w9 := wr (fParams (inCls (stAt 9) 5))); walk_at "ME norm"))),
                body :=
                  FuncBody.stmts (by refine' (?f : ∀ e : List Stmt, Wrap e → List Stmt) _ ?w; (case f => exact fun e _ => e); (case w => ((have w9 := wr (fBody (inCls (stAt 9) 5))); walk_at "ME norm"))),
                scope := (by refine' (?f : ∀ e : Scope, Wrap e → Scope) _ ?w; (case f => exact fun e _ => e); (case w => ((have w9 := wr (fScope (inCls (stAt 9) 5))); walk_at "ME norm"))),
                globals := (3 : Nat), closure := [], defaults := Value.none, kwdefaults := Value.none, pyModule := Value.str (Str.ofString "cpy313.wsgiref.headers") (431 : Nat), code := Value.ref (189 : Nat) } }) ::
    (nat_lit 191, { cls := Value.type "tuple", data := Data.seq #[] }) ::
    (nat_lit 193, { cls := Value.type "tuple", data := Data.seq #[Value.str (Str.ofString "self") (558 : Nat), Value.str (Str.ofString "name") (559 : Nat)] }) ::
    (nat_lit 194, { cls := Value.type "tuple", data := Data.seq #[] }) ::
    (nat_lit 196,
        { cls := Value.type "code",
          data :=
            Data.fields
              #[Value.str (Str.ofString "__contains__") (555 : Nat), Value.str (Str.ofString "Headers.__contains__") (556 : Nat), Value.str (Str.ofString "/claim/cut.py") (557 : Nat), Value.int 105 (0 : Nat), Value.int 2 (0 : Nat),
                Value.int 0 (0 : Nat), Value.int 0 (0 : Nat), Value.int 3 (0 : Nat), Value.ref (191 : Nat), Value.bool true, Value.int 276 (0 : Nat), Value.ref (192 : Nat), Value.none, Value.ref (193 : Nat), Value.ref (194 : Nat), Value.ref (195 : Nat), Value.int 560 (0 : Nat),
                Value.int 105 (0 : Nat), Value.str (Str.ofString "/claim/cut.py") (561 : Nat)] }) ::
    (nat_lit 197,
        { cls := Value.type "function",
          data :=
            Data.func
              { name := Str.ofString "__contains__", qualname := Str.ofString "Headers.__contains__",
                params :=
                  (by refine' (?f : ∀ e : Arguments, Wrap e → Arguments) _ ?w; (case f => exact fun e _ => e); (case w => ((have w9 := wr (fParams (inCls (stAt 9) 6))); walk_at "ME norm"))),
                body :=
                  FuncBody.stmts (by refine' (?f : ∀ e : List Stmt, Wrap e → List Stmt) _ ?w; (case f => exact fun e _ => e); (case w => ((have w9 := wr (fBody (inCls (stAt 9) 6))); walk_at "ME norm"))),
                scope := (by refine' (?f : ∀ e : Scope, Wrap e → Scope) _ ?w; (case f => exact fun e _ => e); (case w => ((have w9 := wr (fScope (inCls (stAt 9) 6))); walk_at "ME norm"))),
                globals := (3 : Nat), closure := [], defaults := Value.none, kwdefaults := Value.none, pyModule := Value.str (Str.ofString "cpy313.wsgiref.headers") (431 : Nat), code := Value.ref (196 : Nat) } }) ::
    (nat_lit 198, { cls := Value.type "tuple", data := Data.seq #[] }) ::
    (nat_lit 200, { cls := Value.type "tuple", data := Data.seq #[Value.str (Str.ofString "self") (566 : Nat), Value.str (Str.ofString "name") (567 : Nat)] }) ::
    (nat_lit 201, { cls := Value.type "tuple", data := Data.seq #[] }) ::
    (nat_lit 203,
        { cls := Value.type "code",
          data :=
            Data.fields
              #[Value.str (Str.ofString "get_all") (563 : Nat), Value.str (Str.ofString "Headers.get_all") (564 : Nat), Value.str (Str.ofString "/claim/cut.py") (565 : Nat), Value.int 108 (0 : Nat), Value.int 2 (0 : Nat), Value.int 0 (0 : Nat),
                Value.int 0 (0 : Nat), Value.int 3 (0 : Nat), Value.ref (198 : Nat), Value.bool true, Value.int 276 (0 : Nat), Value.ref (199 : Nat), Value.none, Value.ref (200 : Nat), Value.ref (201 : Nat), Value.ref (202 : Nat), Value.int 568 (0 : Nat), Value.int 108 (0 : Nat),
                Value.str (Str.ofString "/claim/cut.py") (569 : Nat)] }) ::
    (nat_lit 204,
        { cls := Value.type "function",
          data :=
            Data.func
              { name := Str.ofString "get_all", qualname := Str.ofString "Headers.get_all",
                params :=
                  (by refine' (?f : ∀ e : Arguments, Wrap e → Arguments) _ ?w; (case f => exact fun e _ => e); (case w => ((have w9 := wr (fParams (inCls (stAt 9) 7))); walk_at "ME norm"))),
                body :=
                  FuncBody.stmts (by refine' (?f : ∀ e : List Stmt, Wrap e → List Stmt) _ ?w; (case f => exact fun e _ => e); (case w => ((have w9 := wr (fBody (inCls (stAt 9) 7))); walk_at "ME norm"))),
                scope :=
                  (by refine' (?f : ∀ e : Scope, Wrap e → Scope) _ ?w; (case f => exact fun e _ => e); (case w => ((have w9 := wr (fScope (inCls (stAt 9) 7))); walk_at "ME norm"))),
                globals := (3 : Nat), closure := [], defaults := Value.none, kwdefaults := Value.none, pyModule := Value.str (Str.ofString "cpy313.wsgiref.headers") (431 : Nat), code := Value.ref (203 : Nat) } }) ::
    (nat_lit 205, { cls := Value.type "tuple", data := Data.seq #[Value.none] }) ::
    (nat_lit 206, { cls := Value.type "tuple", data := Data.seq #[] }) ::
    (nat_lit 208,
        { cls := Value.type "tuple",
          data :=
            Data.seq
              #[Value.str (Str.ofString "self") (574 : Nat), Value.str (Str.ofString "name") (575 : Nat), Value.str (Str.ofString "default") (576 : Nat), Value.str (Str.ofString "k") (577 : Nat), Value.str (Str.ofString "v") (578 : Nat)] }) ::
    (nat_lit 209, { cls := Value.type "tuple", data := Data.seq #[] }) ::
    (nat_lit 211,
        { cls := Value.type "code",
          data :=
            Data.fields
              #[Value.str (Str.ofString "get") (571 : Nat), Value.str (Str.ofString "Headers.get") (572 : Nat), Value.str (Str.ofString "/claim/cut.py") (573 : Nat), Value.int 111 (0 : Nat), Value.int 3 (0 : Nat), Value.int 0 (0 : Nat),
                Value.int 0 (0 : Nat), Value.int 3 (0 : Nat), Value.ref (206 : Nat), Value.bool true, Value.int 276 (0 : Nat), Value.ref (207 : Nat), Value.none, Value.ref (208 : Nat), Value.ref (209 : Nat), Value.ref (210 : Nat), Value.int 579 (0 : Nat), Value.int 111 (0 : Nat),
                Value.str (Str.ofString "/claim/cut.py") (580 : Nat)] }) ::
    (nat_lit 212,
        { cls := Value.type "function",
          data :=
            Data.func
              { name := Str.ofString "get", qualname := Str.ofString "Headers.get",
                params :=
                  (by refine' (?f : ∀ e : Arguments, Wrap e → Arguments) _ ?w; (case f => exact fun e _ => e); (case w => ((have w9 := wr (fParams (inCls (stAt 9) 8))); walk_at "ME norm"))),
                body :=
                  FuncBody.stmts (by refine' (?f : ∀ e : List Stmt, Wrap e → List Stmt) _ ?w; (case f => exact fun e _ => e); (case w => ((have w9 := wr (fBody (inCls (stAt 9) 8))); walk_at "ME norm"))),
                scope :=
                  (by refine' (?f : ∀ e : Scope, Wrap e → Scope) _ ?w; (case f => exact fun e _ => e); (case w => ((have w9 := wr (fScope (inCls (stAt 9) 8))); walk_at "ME norm"))),
                globals := (3 : Nat), closure := [], defaults := Value.ref (205 : Nat), kwdefaults := Value.none, pyModule := Value.str (Str.ofString "cpy313.wsgiref.headers") (431 : Nat), code := Value.ref (211 : Nat) } }) ::
    (nat_lit 213, { cls := Value.type "tuple", data := Data.seq #[] }) ::
    (nat_lit 216,
        { cls := Value.type "code",
          data :=
            Data.fields
              #[Value.str (Str.ofString "keys") (582 : Nat), Value.str (Str.ofString "Headers.keys") (583 : Nat), Value.str (Str.ofString "/claim/cut.py") (584 : Nat), Value.int 118 (0 : Nat), Value.int 1 (0 : Nat), Value.int 0 (0 : Nat),
                Value.int 0 (0 : Nat), Value.int 3 (0 : Nat), Value.ref (213 : Nat), Value.bool true, Value.int 276 (0 : Nat), Value.ref (214 : Nat), Value.none, Value.none, Value.none, Value.ref (215 : Nat), Value.int 585 (0 : Nat), Value.int 118 (0 : Nat),
                Value.str (Str.ofString "/claim/cut.py") (586 : Nat)] }) ::
    (nat_lit 217,
        { cls := Value.type "function",
          data :=
            Data.func
              { name := Str.ofString "keys", qualname := Str.ofString "Headers.keys",
                params :=
                  (by refine' (?f : ∀ e : Arguments, Wrap e → Arguments) _ ?w; (case f => exact fun e _ => e); (case w => ((have w9 := wr (fParams (inCls (stAt 9) 9))); walk_at "ME norm"))),
                body :=
                  FuncBody.stmts (by refine' (?f : ∀ e : List Stmt, Wrap e → List Stmt) _ ?w; (case f => exact fun e _ => e); (case w => ((have w9 := wr (fBody (inCls (stAt 9) 9))); walk_at "ME norm"))),
                scope :=
                  (by refine' (?f : ∀ e : Scope, Wrap e → Scope) _ ?w; (case f => exact fun e _ => e); (case w => ((have w9 := wr (fScope (inCls (stAt 9) 9))); walk_at "ME norm"))),
                globals := (3 : Nat), closure := [], defaults := Value.none, kwdefaults := Value.none, pyModule := Value.str (Str.ofString "cpy313.wsgiref.headers") (431 : Nat), code := Value.ref (216 : Nat) } }) ::
    (nat_lit 218, { cls := Value.type "tuple", data := Data.seq #[] }) ::
    (nat_lit 221,
        { cls := Value.type "code",
          data :=
            Data.fields
              #[Value.str (Str.ofString "values") (588 : Nat), Value.str (Str.ofString "Headers.values") (589 : Nat), Value.str (Str.ofString "/claim/cut.py") (590 : Nat), Value.int 121 (0 : Nat), Value.int 1 (0 : Nat), Value.int 0 (0 : Nat),
                Value.int 0 (0 : Nat), Value.int 3 (0 : Nat), Value.ref (218 : Nat), Value.bool true, Value.int 276 (0 : Nat), Value.ref (219 : Nat), Value.none, Value.none, Value.none, Value.ref (220 : Nat), Value.int 591 (0 : Nat), Value.int 121 (0 : Nat),
                Value.str (Str.ofString "/claim/cut.py") (592 : Nat)] }) ::
    (nat_lit 222,
        { cls := Value.type "function",
          data :=
            Data.func
              { name := Str.ofString "values", qualname := Str.ofString "Headers.values",
                params :=
                  (by refine' (?f : ∀ e : Arguments, Wrap e → Arguments) _ ?w; (case f => exact fun e _ => e); (case w => ((have w9 := wr (fParams (inCls (stAt 9) 10))); walk_at "ME norm"))),
                body :=
                  FuncBody.stmts (by refine' (?f : ∀ e : List Stmt, Wrap e → List Stmt) _ ?w; (case f => exact fun e _ => e); (case w => ((have w9 := wr (fBody (inCls (stAt 9) 10))); walk_at "ME norm"))),
                scope :=
                  (by refine' (?f : ∀ e : Scope, Wrap e → Scope) _ ?w; (case f => exact fun e _ => e); (case w => ((have w9 := wr (fScope (inCls (stAt 9) 10))); walk_at "ME norm"))),
                globals := (3 : Nat), closure := [], defaults := Value.none, kwdefaults := Value.none, pyModule := Value.str (Str.ofString "cpy313.wsgiref.headers") (431 : Nat), code := Value.ref (221 : Nat) } }) ::
    (nat_lit 223, { cls := Value.type "tuple", data := Data.seq #[] }) ::
    (nat_lit 225, { cls := Value.type "tuple", data := Data.seq #[Value.str (Str.ofString "self") (597 : Nat)] }) ::
    (nat_lit 226, { cls := Value.type "tuple", data := Data.seq #[] }) ::
    (nat_lit 228,
        { cls := Value.type "code",
          data :=
            Data.fields
              #[Value.str (Str.ofString "items") (594 : Nat), Value.str (Str.ofString "Headers.items") (595 : Nat), Value.str (Str.ofString "/claim/cut.py") (596 : Nat), Value.int 124 (0 : Nat), Value.int 1 (0 : Nat), Value.int 0 (0 : Nat),
                Value.int 0 (0 : Nat), Value.int 3 (0 : Nat), Value.ref (223 : Nat), Value.bool true, Value.int 276 (0 : Nat), Value.ref (224 : Nat), Value.none, Value.ref (225 : Nat), Value.ref (226 : Nat), Value.ref (227 : Nat), Value.int 598 (0 : Nat), Value.int 124 (0 : Nat),
                Value.str (Str.ofString "/claim/cut.py") (599 : Nat)] }) ::
    (nat_lit 229,
        { cls := Value.type "function",
          data :=
            Data.func
              { name := Str.ofString "items", qualname := Str.ofString "Headers.items",
                params :=
                  (by refine' (?f : ∀ e : Arguments, Wrap e → Arguments) _ ?w; (case f => exact fun e _ => e); (case w => ((have w9 := wr (fParams (inCls (stAt 9) 11))); walk_at "ME norm"))),
                body :=
                  FuncBody.stmts (by refine' (?f : ∀ e : List Stmt, Wrap e → List Stmt) _ ?w; (case f => exact fun e _ => e); (case w => ((have w9 := wr (fBody (inCls (stAt 9) 11))); walk_at "ME norm"))),
                scope := (by refine' (?f : ∀ e : Scope, Wrap e → Scope) _ ?w; (case f => exact fun e _ => e); (case w => ((have w9 := wr (fScope (inCls (stAt 9) 11))); walk_at "ME norm"))), globals := (3 : Nat), closure := [],
                defaults := Value.none, kwdefaults := Value.none, pyModule := Value.str (Str.ofString "cpy313.wsgiref.headers") (431 : Nat), code := Value.ref (228 : Nat) } }) ::
    (nat_lit 230, { cls := Value.type "tuple", data := Data.seq #[] }) ::
    (nat_lit 232, { cls := Value.type "tuple", data := Data.seq #[Value.str (Str.ofString "self") (604 : Nat)] }) ::
    (nat_lit 233, { cls := Value.type "tuple", data := Data.seq #[] }) ::
    (nat_lit 235,
        { cls := Value.type "code",
          data :=
            Data.fields
              #[Value.str (Str.ofString "__repr__") (601 : Nat), Value.str (Str.ofString "Headers.__repr__") (602 : Nat), Value.str (Str.ofString "/claim/cut.py") (603 : Nat), Value.int 127 (0 : Nat), Value.int 1 (0 : Nat), Value.int 0 (0 : Nat),
                Value.int 0 (0 : Nat), Value.int 3 (0 : Nat), Value.ref (230 : Nat), Value.bool true, Value.int 276 (0 : Nat), Value.ref (231 : Nat), Value.none, Value.ref (232 : Nat), Value.ref (233 : Nat), Value.ref (234 : Nat), Value.int 605 (0 : Nat), Value.int 127 (0 : Nat),
                Value.str (Str.ofString "/claim/cut.py") (606 : Nat)] }) ::
    (nat_lit 236,
        { cls := Value.type "function",
          data :=
            Data.func
              { name := Str.ofString "__repr__", qualname := Str.ofString "Headers.__repr__",
                params :=
                  (by refine' (?f : ∀ e : Arguments, Wrap e → Arguments) _ ?w; (case f => exact fun e _ => e); (case w => ((have w9 := wr (fParams (inCls (stAt 9) 12))); walk_at "ME norm"))),
                body :=
                  FuncBody.stmts (by refine' (?f : ∀ e : List Stmt, Wrap e → List Stmt) _ ?w; (case f => exact fun e _ => e); (case w => ((have w9 := wr (fBody (inCls (stAt 9) 12))); walk_at "ME norm"))),
                scope := (by refine' (?f : ∀ e : Scope, Wrap e → Scope) _ ?w; (case f => exact fun e _ => e); (case w => ((have w9 := wr (fScope (inCls (stAt 9) 12))); walk_at "ME norm"))), globals := (3 : Nat), closure := [],
                defaults := Value.none, kwdefaults := Value.none, pyModule := Value.str (Str.ofString "cpy313.wsgiref.headers") (431 : Nat), code := Value.ref (235 : Nat) } }) ::
    (nat_lit 237, { cls := Value.type "tuple", data := Data.seq #[] }) ::
    (nat_lit 240,
        { cls := Value.type "code",
          data :=
            Data.fields
              #[Value.str (Str.ofString "__str__") (608 : Nat), Value.str (Str.ofString "Headers.__str__") (609 : Nat), Value.str (Str.ofString "/claim/cut.py") (610 : Nat), Value.int 130 (0 : Nat), Value.int 1 (0 : Nat), Value.int 0 (0 : Nat),
                Value.int 0 (0 : Nat), Value.int 3 (0 : Nat), Value.ref (237 : Nat), Value.bool true, Value.int 276 (0 : Nat), Value.ref (238 : Nat), Value.none, Value.none, Value.none, Value.ref (239 : Nat), Value.int 611 (0 : Nat), Value.int 130 (0 : Nat),
                Value.str (Str.ofString "/claim/cut.py") (612 : Nat)] }) ::
    (nat_lit 241,
        { cls := Value.type "function",
          data :=
            Data.func
              { name := Str.ofString "__str__", qualname := Str.ofString "Headers.__str__",
                params :=
                  (by refine' (?f : ∀ e : Arguments, Wrap e → Arguments) _ ?w; (case f => exact fun e _ => e); (case w => ((have w9 := wr (fParams (inCls (stAt 9) 13))); walk_at "ME norm"))),
                body :=
                  FuncBody.stmts (by refine' (?f : ∀ e : List Stmt, Wrap e → List Stmt) _ ?w; (case f => exact fun e _ => e); (case w => ((have w9 := wr (fBody (inCls (stAt 9) 13))); walk_at "ME norm"))),
                scope :=
                  (by refine' (?f : ∀ e : Scope, Wrap e → Scope) _ ?w; (case f => exact fun e _ => e); (case w => ((have w9 := wr (fScope (inCls (stAt 9) 13))); walk_at "ME norm"))),
                globals := (3 : Nat), closure := [], defaults := Value.none, kwdefaults := Value.none, pyModule := Value.str (Str.ofString "cpy313.wsgiref.headers") (431 : Nat), code := Value.ref (240 : Nat) } }) ::
    (nat_lit 242, { cls := Value.type "tuple", data := Data.seq #[] }) ::
    (nat_lit 244, { cls := Value.type "tuple", data := Data.seq #[Value.str (Str.ofString "self") (617 : Nat)] }) ::
    (nat_lit 245, { cls := Value.type "tuple", data := Data.seq #[] }) ::
    (nat_lit 247,
        { cls := Value.type "code",
          data :=
            Data.fields
              #[Value.str (Str.ofString "__bytes__") (614 : Nat), Value.str (Str.ofString "Headers.__bytes__") (615 : Nat), Value.str (Str.ofString "/claim/cut.py") (616 : Nat), Value.int 133 (0 : Nat), Value.int 1 (0 : Nat), Value.int 0 (0 : Nat),
                Value.int 0 (0 : Nat), Value.int 3 (0 : Nat), Value.ref (242 : Nat), Value.bool true, Value.int 276 (0 : Nat), Value.ref (243 : Nat), Value.none, Value.ref (244 : Nat), Value.ref (245 : Nat), Value.ref (246 : Nat), Value.int 618 (0 : Nat), Value.int 133 (0 : Nat),
                Value.str (Str.ofString "/claim/cut.py") (619 : Nat)] }) ::
    (nat_lit 248,
        { cls := Value.type "function",
          data :=
            Data.func
              { name := Str.ofString "__bytes__", qualname := Str.ofString "Headers.__bytes__",
                params :=
                  (by refine' (?f : ∀ e : Arguments, Wrap e → Arguments) _ ?w; (case f => exact fun e _ => e); (case w => ((have w9 := wr (fParams (inCls (stAt 9) 14))); walk_at "ME norm"))),
                body :=
                  FuncBody.stmts (by refine' (?f : ∀ e : List Stmt, Wrap e → List Stmt) _ ?w; (case f => exact fun e _ => e); (case w => ((have w9 := wr (fBody (inCls (stAt 9) 14))); walk_at "ME norm"))),
                scope := (by refine' (?f : ∀ e : Scope, Wrap e → Scope) _ ?w; (case f => exact fun e _ => e); (case w => ((have w9 := wr (fScope (inCls (stAt 9) 14))); walk_at "ME norm"))),
                globals := (3 : Nat), closure := [], defaults := Value.none, kwdefaults := Value.none, pyModule := Value.str (Str.ofString "cpy313.wsgiref.headers") (431 : Nat), code := Value.ref (247 : Nat) } }) ::
    (nat_lit 249, { cls := Value.type "tuple", data := Data.seq #[] }) ::
    (nat_lit 251, { cls := Value.type "tuple", data := Data.seq #[Value.str (Str.ofString "self") (624 : Nat), Value.str (Str.ofString "name") (625 : Nat), Value.str (Str.ofString "value") (626 : Nat)] }) ::
    (nat_lit 252, { cls := Value.type "tuple", data := Data.seq #[] }) ::
    (nat_lit 254,
        { cls := Value.type "code",
          data :=
            Data.fields
              #[Value.str (Str.ofString "setdefault") (621 : Nat), Value.str (Str.ofString "Headers.setdefault") (622 : Nat), Value.str (Str.ofString "/claim/cut.py") (623 : Nat), Value.int 136 (0 : Nat), Value.int 3 (0 : Nat), Value.int 0 (0 : Nat),
                Value.int 0 (0 : Nat), Value.int 3 (0 : Nat), Value.ref (249 : Nat), Value.bool true, Value.int 276 (0 : Nat), Value.ref (250 : Nat), Value.none, Value.ref (251 : Nat), Value.ref (252 : Nat), Value.ref (253 : Nat), Value.int 627 (0 : Nat), Value.int 136 (0 : Nat),
                Value.str (Str.ofString "/claim/cut.py") (628 : Nat)] }) ::
    (nat_lit 255,
        { cls := Value.type "function",
          data :=
            Data.func
              { name := Str.ofString "setdefault", qualname := Str.ofString "Headers.setdefault",
                params :=
                  (by refine' (?f : ∀ e : Arguments, Wrap e → Arguments) _ ?w; (case f => exact fun e _ => e); (case w => ((have w9 := wr (fParams (inCls (stAt 9) 15))); walk_at "ME norm"))),
                body :=
                  FuncBody.stmts (by refine' (?f : ∀ e : List Stmt, Wrap e → List Stmt) _ ?w; (case f => exact fun e _ => e); (case w => ((have w9 := wr (fBody (inCls (stAt 9) 15))); walk_at "ME norm"))),
                scope :=
                  (by refine' (?f : ∀ e : Scope, Wrap e → Scope) _ ?w; (case f => exact fun e _ => e); (case w => ((have w9 := wr (fScope (inCls (stAt 9) 15))); walk_at "ME norm"))),
                globals := (3 : Nat), closure := [], defaults := Value.none, kwdefaults := Value.none, pyModule := Value.str (Str.ofString "cpy313.wsgiref.headers") (431 : Nat), code := Value.ref (254 : Nat) } }) ::
    (nat_lit 256, { cls := Value.type "tuple", data := Data.seq #[] }) ::
    (nat_lit 258,
        { cls := Value.type "tuple",
          data := Data.seq #[Value.str (Str.ofString "self") (633 : Nat), Value.str (Str.ofString "_name") (634 : Nat), Value.str (Str.ofString "_value") (635 : Nat), Value.str (Str.ofString "_params") (636 : Nat)] }) ::
    (nat_lit 259, { cls := Value.type "tuple", data := Data.seq #[] }) ::
    (nat_lit 261,
        { cls := Value.type "code",
          data :=
            Data.fields
              #[Value.str (Str.ofString "add_header") (630 : Nat), Value.str (Str.ofString "Headers.add_header") (631 : Nat), Value.str (Str.ofString "/claim/cut.py") (632 : Nat), Value.int 139 (0 : Nat), Value.int 3 (0 : Nat), Value.int 0 (0 : Nat),
                Value.int 0 (0 : Nat), Value.int 11 (0 : Nat), Value.ref (256 : Nat), Value.bool true, Value.int 276 (0 : Nat), Value.ref (257 : Nat), Value.none, Value.ref (258 : Nat), Value.ref (259 : Nat), Value.ref (260 : Nat), Value.int 637 (0 : Nat), Value.int 139 (0 : Nat),
                Value.str (Str.ofString "/claim/cut.py") (638 : Nat)] }) ::
    (nat_lit 262,
        { cls := Value.type "function",
          data :=
            Data.func
              { name := Str.ofString "add_header", qualname := Str.ofString "Headers.add_header",
                params :=
                  (by refine' (?f : ∀ e : Arguments, Wrap e → Arguments) _ ?w; (case f => exact fun e _ => e); (case w => ((have w9 := wr (fParams (inCls (stAt 9) 16))); walk_at "ME norm"))),
                body :=
                  FuncBody.stmts (by refine' (?f : ∀ e : List Stmt, Wrap e → List Stmt) _ ?w; (case f => exact fun e _ => e); (case w => ((have w9 := wr (fBody (inCls (stAt 9) 16))); walk_at "ME norm"))),
                scope :=
                  (by refine' (?f : ∀ e : Scope, Wrap e → Scope) _ ?w; (case f => exact fun e _ => e); (case w => ((have w9 := wr (fScope (inCls (stAt 9) 16))); walk_at "ME norm"))),
                globals := (3 : Nat), closure := [], defaults := Value.none, kwdefaults := Value.none, pyModule := Value.str (Str.ofString "cpy313.wsgiref.headers") (431 : Nat), code := Value.ref (261 : Nat) } }) ::
    (nat_lit 263, { cls := Value.type "tuple", data := Data.seq #[Value.str (Str.ofString "_headers") (640 : Nat)] }) ::
    (nat_lit 264,
        { cls := Value.type "dict",
          data :=
            Data.dict
              #[{ hash := PyData.keyHash P (Str.ofString "__module__"), key := Value.str (Str.ofString "__module__") (500 : Nat), val := Value.str (Str.ofString "cpy313.wsgiref.headers") (431 : Nat) },
                { hash := PyData.keyHash P (Str.ofString "__firstlineno__"), key := Value.str (Str.ofString "__firstlineno__") (504 : Nat), val := Value.int 71 (503 : Nat) },
                { hash := PyData.keyHash P (Str.ofString "__init__"), key := Value.str (Str.ofString "__init__") (514 : Nat), val := Value.ref (157 : Nat) },
                { hash := PyData.keyHash P (Str.ofString "_convert_string_type"), key := Value.str (Str.ofString "_convert_string_type") (524 : Nat), val := Value.ref (164 : Nat) },
                { hash := PyData.keyHash P (Str.ofString "__len__"), key := Value.str (Str.ofString "__len__") (531 : Nat), val := Value.ref (171 : Nat) },
                { hash := PyData.keyHash P (Str.ofString "__setitem__"), key := Value.str (Str.ofString "__setitem__") (540 : Nat), val := Value.ref (178 : Nat) },
                { hash := PyData.keyHash P (Str.ofString "__delitem__"), key := Value.str (Str.ofString "__delitem__") (546 : Nat), val := Value.ref (183 : Nat) },
                { hash := PyData.keyHash P (Str.ofString "__getitem__"), key := Value.str (Str.ofString "__getitem__") (554 : Nat), val := Value.ref (190 : Nat) },
                { hash := PyData.keyHash P (Str.ofString "__contains__"), key := Value.str (Str.ofString "__contains__") (562 : Nat), val := Value.ref (197 : Nat) },
                { hash := PyData.keyHash P (Str.ofString "get_all"), key := Value.str (Str.ofString "get_all") (570 : Nat), val := Value.ref (204 : Nat) },
                { hash := PyData.keyHash P (Str.ofString "get"), key := Value.str (Str.ofString "get") (581 : Nat), val := Value.ref (212 : Nat) },
                { hash := PyData.keyHash P (Str.ofString "keys"), key := Value.str (Str.ofString "keys") (587 : Nat), val := Value.ref (217 : Nat) },
                { hash := PyData.keyHash P (Str.ofString "values"), key := Value.str (Str.ofString "values") (593 : Nat), val := Value.ref (222 : Nat) },
                { hash := PyData.keyHash P (Str.ofString "items"), key := Value.str (Str.ofString "items") (600 : Nat), val := Value.ref (229 : Nat) },
                { hash := PyData.keyHash P (Str.ofString "__repr__"), key := Value.str (Str.ofString "__repr__") (607 : Nat), val := Value.ref (236 : Nat) },
                { hash := PyData.keyHash P (Str.ofString "__str__"), key := Value.str (Str.ofString "__str__") (613 : Nat), val := Value.ref (241 : Nat) },
                { hash := PyData.keyHash P (Str.ofString "__bytes__"), key := Value.str (Str.ofString "__bytes__") (620 : Nat), val := Value.ref (248 : Nat) },
                { hash := PyData.keyHash P (Str.ofString "setdefault"), key := Value.str (Str.ofString "setdefault") (629 : Nat), val := Value.ref (255 : Nat) },
                { hash := PyData.keyHash P (Str.ofString "add_header"), key := Value.str (Str.ofString "add_header") (639 : Nat), val := Value.ref (262 : Nat) },
                { hash := PyData.keyHash P (Str.ofString "__static_attributes__"), key := Value.str (Str.ofString "__static_attributes__") (641 : Nat), val := Value.ref (263 : Nat) },
                { hash := PyData.keyHash P (Str.ofString "__dict__"), key := Value.str (Str.ofString "__dict__") (643 : Nat), val := Value.ref (266 : Nat) },
                { hash := PyData.keyHash P (Str.ofString "__weakref__"), key := Value.str (Str.ofString "__weakref__") (645 : Nat), val := Value.ref (267 : Nat) },
                { hash := PyData.keyHash P (Str.ofString "__doc__"), key := Value.str (Str.ofString "__doc__") (646 : Nat), val := Value.none }]
              4 }) ::
    (nat_lit 265,
        { cls := Value.type "type",
          data := Data.cls { name := Str.ofString "Headers", bases := [Value.type "object"], mro := [Value.ref (265 : Nat), Value.type "object"], ns := 264, qualname := Str.ofString "Headers" },
          slots := #[none, none, some (Value.str (Str.ofString "Headers") (493 : Nat)), some (Value.str (Str.ofString "Headers") (501 : Nat)), some (Value.builtin "object.__new__"), some (Value.bool true)] }) ::
    (nat_lit 266,
        { cls := Value.type "getset_descriptor",
          data := Data.fields #[Value.str (Str.ofString "__dict__") (642 : Nat), Value.ref (265 : Nat), Value.builtin "function.__dict__", Value.builtin "function.__dict__#set"] }) ::
    (nat_lit 267, { cls := Value.type "getset_descriptor", data := Data.fields #[Value.str (Str.ofString "__weakref__") (644 : Nat), Value.ref (265 : Nat), Value.builtin "ExceptionGroup.__weakref__", Value.none] }) ::
    (nat_lit 270, { cls := Value.type "tuple", data := Data.seq #[] }) ::
    (nat_lit 273,
        { cls := Value.type "code",
          data :=
            Data.fields
              #[Value.str (Str.ofString "_law_columns") (651 : Nat), Value.str (Str.ofString "_law_columns") (652 : Nat), Value.str (Str.ofString "/claim/cut.py") (653 : Nat), Value.int 142 (0 : Nat), Value.int 2 (0 : Nat), Value.int 0 (0 : Nat),
                Value.int 0 (0 : Nat), Value.int 3 (0 : Nat), Value.ref (270 : Nat), Value.bool true, Value.int 276 (0 : Nat), Value.ref (271 : Nat), Value.none, Value.none, Value.none, Value.ref (272 : Nat), Value.int 654 (0 : Nat), Value.int 142 (0 : Nat),
                Value.str (Str.ofString "/claim/cut.py") (655 : Nat)] }) ::
    (nat_lit 274,
        { cls := Value.type "function",
          data :=
            Data.func
              { name := Str.ofString "_law_columns", qualname := Str.ofString "_law_columns",
                params :=
                  (by refine' (?f : ∀ e : Arguments, Wrap e → Arguments) _ ?w; (case f => exact fun e _ => e); (case w => ((have w9 := wr (fParams (stAt 11))); walk_at "ME norm"))),
                body :=
                  FuncBody.stmts (by refine' (?f : ∀ e : List Stmt, Wrap e → List Stmt) _ ?w; (case f => exact fun e _ => e); (case w => ((have w9 := wr (fBody (stAt 11))); walk_at "ME norm"))),
                scope :=
                  (by refine' (?f : ∀ e : Scope, Wrap e → Scope) _ ?w; (case f => exact fun e _ => e); (case w => ((have w9 := wr (fScope (stAt 11))); walk_at "ME norm"))),
                globals := (3 : Nat), closure := [], defaults := Value.none, kwdefaults := Value.none, pyModule := Value.str (Str.ofString "law_pg0308_01") (649 : Nat), code := Value.ref (273 : Nat) } }) ::
    (nat_lit 275, { cls := Value.type "tuple", data := Data.seq #[] }) ::
    (nat_lit 278,
        { cls := Value.type "code",
          data :=
            Data.fields
              #[Value.str (Str.ofString "_law_votes") (657 : Nat), Value.str (Str.ofString "_law_votes") (658 : Nat), Value.str (Str.ofString "/claim/cut.py") (659 : Nat), Value.int 148 (0 : Nat), Value.int 2 (0 : Nat), Value.int 0 (0 : Nat),
                Value.int 0 (0 : Nat), Value.int 3 (0 : Nat), Value.ref (275 : Nat), Value.bool true, Value.int 276 (0 : Nat), Value.ref (276 : Nat), Value.none, Value.none, Value.none, Value.ref (277 : Nat), Value.int 660 (0 : Nat), Value.int 148 (0 : Nat),
                Value.str (Str.ofString "/claim/cut.py") (661 : Nat)] }) ::
    (nat_lit 279,
        { cls := Value.type "function",
          data :=
            Data.func
              { name := Str.ofString "_law_votes", qualname := Str.ofString "_law_votes",
                params :=
                  (by refine' (?f : ∀ e : Arguments, Wrap e → Arguments) _ ?w; (case f => exact fun e _ => e); (case w => ((have w9 := wr (fParams (stAt 12))); walk_at "ME norm"))),
                body :=
                  FuncBody.stmts (by refine' (?f : ∀ e : List Stmt, Wrap e → List Stmt) _ ?w; (case f => exact fun e _ => e); (case w => ((have w9 := wr (fBody (stAt 12))); walk_at "ME norm"))),
                scope :=
                  (by refine' (?f : ∀ e : Scope, Wrap e → Scope) _ ?w; (case f => exact fun e _ => e); (case w => ((have w9 := wr (fScope (stAt 12))); walk_at "ME norm"))),
                globals := (3 : Nat), closure := [], defaults := Value.none, kwdefaults := Value.none, pyModule := Value.str (Str.ofString "law_pg0308_01") (649 : Nat), code := Value.ref (278 : Nat) } }) ::
    (nat_lit 280, { cls := Value.type "tuple", data := Data.seq #[] }) ::
    (nat_lit 282,
        { cls := Value.type "tuple",
          data :=
            Data.seq
              #[Value.str (Str.ofString "pairs") (666 : Nat), Value.str (Str.ofString "columns") (667 : Nat), Value.str (Str.ofString "ranked") (668 : Nat), Value.str (Str.ofString "table") (669 : Nat),
                Value.str (Str.ofString "turn") (670 : Nat), Value.str (Str.ofString "stays") (671 : Nat), Value.str (Str.ofString "goes") (672 : Nat), Value.str (Str.ofString "votes") (673 : Nat)] }) ::
    (nat_lit 283, { cls := Value.type "tuple", data := Data.seq #[] }) ::
    (nat_lit 285,
        { cls := Value.type "code",
          data :=
            Data.fields
              #[Value.str (Str.ofString "_law_ranked") (663 : Nat), Value.str (Str.ofString "_law_ranked") (664 : Nat), Value.str (Str.ofString "/claim/cut.py") (665 : Nat), Value.int 150 (0 : Nat), Value.int 2 (0 : Nat), Value.int 0 (0 : Nat),
                Value.int 0 (0 : Nat), Value.int 3 (0 : Nat), Value.ref (280 : Nat), Value.bool true, Value.int 276 (0 : Nat), Value.ref (281 : Nat), Value.none, Value.ref (282 : Nat), Value.ref (283 : Nat), Value.ref (284 : Nat), Value.int 674 (0 : Nat), Value.int 150 (0 : Nat),
                Value.str (Str.ofString "/claim/cut.py") (675 : Nat)] }) ::
    (nat_lit 286,
        { cls := Value.type "function",
          data :=
            Data.func
              { name := Str.ofString "_law_ranked", qualname := Str.ofString "_law_ranked",
                params :=
                  (by refine' (?f : ∀ e : Arguments, Wrap e → Arguments) _ ?w; (case f => exact fun e _ => e); (case w => ((have w9 := wr (fParams (stAt 13))); walk_at "ME norm"))),
                body :=
                  FuncBody.stmts (by refine' (?f : ∀ e : List Stmt, Wrap e → List Stmt) _ ?w; (case f => exact fun e _ => e); (case w => ((have w9 := wr (fBody (stAt 13))); walk_at "ME norm"))),
                scope :=
                  (by refine' (?f : ∀ e : Scope, Wrap e → Scope) _ ?w; (case f => exact fun e _ => e); (case w => ((have w9 := wr (fScope (stAt 13))); walk_at "ME norm"))),
                globals := (3 : Nat), closure := [], defaults := Value.none, kwdefaults := Value.none, pyModule := Value.str (Str.ofString "law_pg0308_01") (649 : Nat), code := Value.ref (285 : Nat) } }) ::
    (nat_lit 287, { cls := Value.type "tuple", data := Data.seq #[] }) ::
    (nat_lit 290,
        { cls := Value.type "code",
          data :=
            Data.fields
              #[Value.str (Str.ofString "law") (677 : Nat), Value.str (Str.ofString "law") (678 : Nat), Value.str (Str.ofString "/claim/cut.py") (679 : Nat), Value.int 167 (0 : Nat), Value.int 1 (0 : Nat), Value.int 0 (0 : Nat), Value.int 0 (0 : Nat),
                Value.int 3 (0 : Nat), Value.ref (287 : Nat), Value.bool true, Value.int 276 (0 : Nat), Value.ref (288 : Nat), Value.none, Value.none, Value.none, Value.ref (289 : Nat), Value.int 680 (0 : Nat), Value.int 167 (0 : Nat),
                Value.str (Str.ofString "/claim/cut.py") (681 : Nat)] }) ::
    (nat_lit 291,
        { cls := Value.type "function",
          data :=
            Data.func
              { name := Str.ofString "law", qualname := Str.ofString "law",
                params :=
                  (by refine' (?f : ∀ e : Arguments, Wrap e → Arguments) _ ?w; (case f => exact fun e _ => e); (case w => ((have w9 := wr (fParams (stAt 14))); walk_at "ME norm"))),
                body :=
                  FuncBody.stmts (by refine' (?f : ∀ e : List Stmt, Wrap e → List Stmt) _ ?w; (case f => exact fun e _ => e); (case w => ((have w9 := wr (fBody (stAt 14))); walk_at "ME norm"))),
                scope :=
                  (by refine' (?f : ∀ e : Scope, Wrap e → Scope) _ ?w; (case f => exact fun e _ => e); (case w => ((have w9 := wr (fScope (stAt 14))); walk_at "ME norm"))),
                globals := (3 : Nat), closure := [], defaults := Value.none, kwdefaults := Value.none, pyModule := Value.str (Str.ofString "law_pg0308_01") (649 : Nat), code := Value.ref (290 : Nat) } }) :: []
  
noncomputable def viewK : Program := { PySem.Challenge.pw_pg0308_01 with main := { PySem.Challenge.pw_pg0308_01.main with body := [(by refine' (?f : ∀ e : Stmt, Wrap e → Stmt) _ ?w; (case f => exact fun e _ => e); (case w => ((have w9 := wr (stAt 0)); walk_at "ME norm"))), (by refine' (?f : ∀ e : Stmt, Wrap e → Stmt) _ ?w; (case f => exact fun e _ => e); (case w => ((have w9 := wr (stAt 1)); walk_at "ME norm"))), (by refine' (?f : ∀ e : Stmt, Wrap e → Stmt) _ ?w; (case f => exact fun e _ => e); (case w => ((have w9 := wr (stAt 3)); walk_at "ME norm"))), (by refine' (?f : ∀ e : Stmt, Wrap e → Stmt) _ ?w; (case f => exact fun e _ => e); (case w => ((have w9 := wr (stAt 5)); walk_at "ME norm"))), (by refine' (?f : ∀ e : Stmt, Wrap e → Stmt) _ ?w; (case f => exact fun e _ => e); (case w => ((have w9 := wr (stAt 7)); walk_at "ME norm"))), (by refine' (?f : ∀ e : Stmt, Wrap e → Stmt) _ ?w; (case f => exact fun e _ => e); (case w => ((have w9 := wr (stAt 8)); walk_at "ME norm"))), (by refine' (?f : ∀ e : Stmt, Wrap e → Stmt) _ ?w; (case f => exact fun e _ => e); (case w => ((have w9 := wr (stAt 9)); walk_at "ME norm"))), (by refine' (?f : ∀ e : Stmt, Wrap e → Stmt) _ ?w; (case f => exact fun e _ => e); (case w => ((have w9 := wr (stAt 11)); walk_at "ME norm"))), (by refine' (?f : ∀ e : Stmt, Wrap e → Stmt) _ ?w; (case f => exact fun e _ => e); (case w => ((have w9 := wr (stAt 12)); walk_at "ME norm"))), (by refine' (?f : ∀ e : Stmt, Wrap e → Stmt) _ ?w; (case f => exact fun e _ => e); (case w => ((have w9 := wr (stAt 13)); walk_at "ME norm"))), (by refine' (?f : ∀ e : Stmt, Wrap e → Stmt) _ ?w; (case f => exact fun e _ => e); (case w => ((have w9 := wr (stAt 14)); walk_at "ME norm")))] } }
end
section
open PySem PySem.W PyProof.Rows
set_option maxRecDepth 100000
theorem as_ok (P : Params) : [2, 3, 32, 34, 35, 37, 38, 49, 51, 52, 54, 55, 56, 58, 59, 61, 62, 63, 65, 66, 68, 69, 70, 72, 73, 75, 76, 77, 79, 80, 82, 83, 84, 86, 87, 89, 90, 91, 93, 94, 96, 97, 98, 99, 100, 101, 102, 112, 114, 115, 117, 118, 119, 121, 122, 124, 125, 126, 127, 128, 129, 130, 136, 137, 141, 142, 150, 151, 153, 154, 156, 157, 158, 160, 161, 163, 164, 165, 167, 168, 170, 171, 172, 174, 175, 177, 178, 179, 182, 183, 184, 186, 187, 189, 190, 191, 193, 194, 196, 197, 198, 200, 201, 203, 204, 205, 206, 208, 209, 211, 212, 213, 216, 217, 218, 221, 222, 223, 225, 226, 228, 229, 230, 232, 233, 235, 236, 237, 240, 241, 242, 244, 245, 247, 248, 249, 251, 252, 254, 255, 256, 258, 259, 261, 262, 263, 264, 265, 266, 267, 270, 273, 274, 275, 278, 279, 280, 282, 283, 285, 286, 287, 290, 291] = (heapK P).map (·.1) := by kernel_rfl
noncomputable abbrev Hk : Hook := kHook heapK [2, 3, 32, 34, 35, 37, 38, 49, 51, 52, 54, 55, 56, 58, 59, 61, 62, 63, 65, 66, 68, 69, 70, 72, 73, 75, 76, 77, 79, 80, 82, 83, 84, 86, 87, 89, 90, 91, 93, 94, 96, 97, 98, 99, 100, 101, 102, 112, 114, 115, 117, 118, 119, 121, 122, 124, 125, 126, 127, 128, 129, 130, 136, 137, 141, 142, 150, 151, 153, 154, 156, 157, 158, 160, 161, 163, 164, 165, 167, 168, 170, 171, 172, 174, 175, 177, 178, 179, 182, 183, 184, 186, 187, 189, 190, 191, 193, 194, 196, 197, 198, 200, 201, 203, 204, 205, 206, 208, 209, 211, 212, 213, 216, 217, 218, 221, 222, 223, 225, 226, 228, 229, 230, 232, 233, 235, 236, 237, 240, 241, 242, 244, 245, 247, 248, 249, 251, 252, 254, 255, 256, 258, 259, 261, 262, 263, 264, 265, 266, 267, 270, 273, 274, 275, 278, 279, 280, 282, 283, 285, 286, 287, 290, 291] as_ok
abbrev LZ : List Str := [Str.ofString "Whitespace", Str.ofString "_name_disallowed_re", Str.ofString "_value_disallowed_re"]
noncomputable abbrev XtK (s : Shared) : Bool := xlAt viewK [] s && recOk (RowW.records PySem.Challenge.rw_pg0308_01.row.toRowW) s
theorem of_two {α : Type} {p q : Program} {loose : List Str} {Xt : Shared → Bool} {Yf : Shared → α} {Ya : World → α} {N : Nat} (row : String)
    (h1 : ∀ w : World, (fencedOpening treeTable p w N).map (fun s₀ => (topFrom treeTable p (w.withFollow row false) N s₀).map (fun s => (openSeen q loose (importedModules p.main.body) Xt true s, Yf s))) = some (some (openGood q loose, Ya (w.withFollow row false))))
    (h2 : ∀ w : World, (fencedOpening treeTable p w N).map (fun s₀ => (topFrom treeTable p (w.withFollow row true) N s₀).map (fun s => (openSeen q loose (importedModules p.main.body) Xt true s, Yf s))) = some (some (openGood q loose, Ya (w.withFollow row true)))) : LeftO p q loose Xt Yf Ya N := by
  refine LeftO.of_split row fun w => ?_
  obtain ⟨s₀, a, b⟩ := Option.map_eq_some_iff.mp (h1 w)
  obtain ⟨s₁, a', b'⟩ := Option.map_eq_some_iff.mp (h2 w)
  rw [a] at a'
  cases a'
  rw [a, Option.map_some, b, b']
set_option maxHeartbeats 0 in
theorem left_f (w : World) : (fencedOpening treeTable PySem.Challenge.rw_pg0308_01.row.prog w 3724).map (fun s₀ => (topFrom treeTable PySem.Challenge.rw_pg0308_01.row.prog (w.withFollow "special-get-raises" false) 3724 s₀).map (fun s => (openSeen viewK LZ (importedModules PySem.Challenge.rw_pg0308_01.row.prog.main.body) XtK true s, Hk.obs s))) = some (some (openGood viewK LZ, Hk.val (w.withFollow "special-get-raises" false))) := by kernel_rfl
set_option maxHeartbeats 0 in
theorem left_t (w : World) : (fencedOpening treeTable PySem.Challenge.rw_pg0308_01.row.prog w 3724).map (fun s₀ => (topFrom treeTable PySem.Challenge.rw_pg0308_01.row.prog (w.withFollow "special-get-raises" true) 3724 s₀).map (fun s => (openSeen viewK LZ (importedModules PySem.Challenge.rw_pg0308_01.row.prog.main.body) XtK true s, Hk.obs s))) = some (some (openGood viewK LZ, Hk.val (w.withFollow "special-get-raises" true))) := by kernel_rfl
theorem left_k : LeftO PySem.Challenge.rw_pg0308_01.row.prog viewK LZ XtK Hk.obs Hk.val 3724 := of_two "special-get-raises" left_f left_t
end
section
open PySem PySem.W PyProof.Rows PySem.Spec PySem.Calls
noncomputable abbrev LS : List Str := looseW viewK [Str.ofString "Whitespace", Str.ofString "_name_disallowed_re", Str.ofString "_value_disallowed_re"]
section
variable {prog : Program} {w : World} {A A₀ : Around} {E : Value → Shared → Prop} {s : Shared} {K : Frag} {C L : Addr} {h₀ base : Heap} {m mg mb : Str → Option Value} {news : List (Addr × Obj)} {p : Program} {loose : List Str} {mean : ExcName → Option Value} {Q : Value → Shared → Prop}
theorem code_defCG {env : Env} {outer : List Env} {R : Result → Shared → Prop} {name qual : Str} {params : Arguments} {body : List Stmt} {scope : Scope} {dV kV doc pm cdv ct oc : Value} {an od : Option Addr} {osl : Array (Option Value)} {f : Addr} {args : Args} {binds : List (Str × Value)}
    (B : Below A₀ base outer h₀) (F : Fr h₀ L s.heap m) (X₀ : K.In h₀) (N : News h₀ L s.heap news) (T : Top p loose mean mg mb h₀) (hA : A.frames = some (env :: outer)) (hf : env.frame = some L) (hke : env.scope.kind = .function)
    (ho : K.lookup f = some ⟨oc, od, .func (fnOf name qual params body scope dV kV doc pm an cdv ct), osl⟩) (hcd : codeIn K cdv qual = true) (hroom : A.depth < recursionLimit)
    (hbind : BindsTo s (fnOf name qual params body scope dV kV doc pm an cdv ct) args binds) (hkind : (binds.all fun y => scope.names.lookup y.1 == some .local || scope.names.lookup y.1 == some .cell) = true)
    (hnd : ((cellsFrom 0 scope.names []).map (·.1)).Nodup)
    (h : ∀ g L' h₁ tk cells, Fr h₀ L g m → Fr g L' h₁ (bindL (envOfC qual scope L' f cdv).kindOf binds fun _ => none) → News g L' h₁ (cells ++ news) →
      CellsAre (bindC (envOfC qual scope L' f cdv).kindOf binds fun _ => none) (cellsFrom (L' + 1) scope.names []) cells → Below A base (env :: outer) g → K.In g → Top p loose mean mg mb g → (∀ p ∈ news, p.1 < L') → GSub s.heap g (news.map (·.1)) →
      wpAny (model prog w) (A.deeper (envOfC qual scope L' f cdv)) (execs body (envOfC qual scope L' f cdv))
        (fun fl s' => LeaveK h₀ L m g R (match fl with | .ret v => v | _ => .none) s')
        (fun e s' => wpAny (model prog w) (A.deeper (envOfC qual scope L' f cdv)) (leaving (envOfC qual scope L' f cdv) e) (fun _ s'' => R (.error e) s'') (fun e' s'' => R (.error e') s'') s')
        { s with heap := h₁, toks := tk })
    (hco : scope.isCoroutine = false) (hgen : scope.isGenerator = false) (hk : scope.kind = .function) : codeAny (model prog w) A (.call (.ref f) args) R s := by
  obtain ⟨FG, BG, st, lv⟩ := groundX (R := R) B F N hA hf hke
  refine codeAny_call_function hroom ((X₀.keeps F.keep) _ _ ho) rfl hco hgen rfl (codeRec_of (X₀.keeps F.keep) hcd) (hbind _ _ _ _ ?_)
  refine wpAny_newFunctionEnv_cells hk (kindsX hkind _) fun env' he s' x => ?_
  subst he
  refine ⟨(T.nolimit.keeps F.keep).keeps x.toInCall.keep, codeAny_func ?_⟩
  obtain ⟨h₁, tk, rfl, _⟩ := x.done
  have hk₁ := x.toInCall.keep
  obtain ⟨cells, NC, Y⟩ := Cl.news (h₀ := s.heap) (Nat.le_refl _) fun n c hm => ⟨x.cell n c (lookup_of_mem_nodup (cellsFrom_names scope.names 0 (s.heap.objs.size + 1) [] [] rfl ▸ hnd) hm), x.above n c hm⟩
  refine wpAny_mono (h _ s.heap.objs.size h₁ tk cells FG ⟨x.toInCall.ns, fun b o e => hk₁ b o (of_hideAll _ e), Nat.le_of_eq (hideAll_size _ _)⟩ (fun p hp => ?_) Y BG (X₀.keeps st) (T.keeps st) (fun p hp => Heap.lt_size (N p hp).1) (fun b o e n => hideAll_get _ e n)) (fun fl s' hl => lv _ _ hl) fun _ _ y => y
  rcases List.mem_append.mp hp with hp | hp
  · refine ⟨(NC p hp).1, (NC p hp).2.1, ?_⟩
    cases q : (hideAll s.heap (news.map (·.1))).get? p.1 with
    | none => rfl
    | some o => have := of_hideAll _ q; rw [(NC p hp).2.2] at this; cases this
  · exact ⟨hk₁ _ _ (N p hp).1, Nat.ne_of_lt (Heap.lt_size (N p hp).1), hideAll_none _ (List.mem_map_of_mem hp)⟩
end
section
variable {prog : Program} {w : World} {A A₀ : Around} {E : Value → Shared → Prop} {s : Shared} {K : Frag} {C L : Addr} {h₀ base : Heap} {m mg mb : Str → Option Value} {news : List (Addr × Obj)} {p : Program} {loose : List Str} {mean : ExcName → Option Value} {Q : Value → Shared → Prop}
theorem none_of_le {h : Heap} {b : Addr} (hb : h.objs.size ≤ b) : h.get? b = none := by
  cases e : h.get? b with
  | none => rfl
  | some o => exact absurd (Heap.lt_size e) (Nat.not_lt.mpr hb)
theorem call_clsG {pos : List Value} {kw : List (Str × Value)} {fI : Addr} (F : Fr h₀ L s.heap m) (X₀ : K.In h₀) (hm : makesIn K C = true) (hi : findIn K (.ref C) "__init__" = some (some (.ref fI))) (hf : isFn K (.ref fI) = true)
    (h : ∀ x dx h', Fr h₀ L h' m → News h₀ L h' [(x, instObj C dx), (dx, dictOf [] 0)] → dx < x → (∀ b o, s.heap.get? b = some o → h'.get? b = some o) → @LE.le Nat _ s.heap.objs.size dx →
      codeAny (model prog w) (A.under (.builtin "type.__call__" ⟨.ref C :: pos, kw⟩)) (.call (.ref fI) ⟨.ref x :: pos, kw⟩) (InitBack x fun r s' => match r with | .ok (.ret v) => Q v s' | .ok _ => False | .error e => E e s') { s with heap := h' }) :
    wpAny (model prog w) A (call (.ref C) pos kw) Q E s := by
  refine wpAny_call ?_
  have X := X₀.keeps F.keep
  obtain ⟨hh, g, d, t, os⟩ := s
  refine make_core (makes_of X hm) (looks_findIn X hi) (fun self => bind_fn X self (beq_iff_eq.mp hf)) (.inl rfl) (h _ hh.objs.size _ ((F.push _).push _) ?_ (Nat.lt_succ_self _) (fun b o e => Heap.get?_push_of_some _ (Heap.get?_push_of_some _ e)) (Nat.le_refl _))
  have := ((News.nil (h₀ := h₀) (h := hh) (L := L)).push F emptyDict).push (F.push _) (instObj C hh.objs.size)
  rwa [Heap.size_push] at this
theorem iter_strTurns {env : Env} {target : Expr} {body : List Stmt} {Q : Flow → Shared → Prop} {x : Str} {t : Tok} {m₀ : Str → Option Value} {news : List (Addr × Obj)} (ha : x.cps.all (· < 128) = true)
    (hgo : ∀ v (it : Value), letOwnedTupleGo target it v = pure ())
    (hh : A.handled = none) (F : Fr h₀ env.locals s.heap m₀) (N : News h₀ env.locals s.heap news)
    (rest₀ : ∀ I : Addr, (∀ p ∈ news, p.1 < I) → ItemsRest prog w A E h₀ env target body Q s [(I, "str_ascii_iterator")] [] (x.cps.toList.map fun c => Itm.tok fun u => .str ⟨#[c]⟩ u) m₀ news) :
    wpAny (model prog w) A (pyIter (.str x t)) (fun it s₂ => TurnsAt prog w A h₀ env target body Q E it s₂) E s := by
  refine wpAny_pyIter_ascii ha ?_
  refine ktu_core (tk0 := s.toks) (keep := []) (KTurns.ofWalks (Walks.strAscii hh s.heap.objs.size x t) fun i v s Q E _ q => by rw [hgo]; exact wpAny_pure q) (by simp) (fun i v h hp => ?_) (fun i h st => ?_) (fun b hb => ?_) (fun b hb => by simpa using hb) (fun b hb => ?_) ?_ (fun p hp hI => ?_) ?_ (F.push _) (fun p hp => ⟨Heap.get?_push_of_some _ (N p hp).1, (N p hp).2⟩) trivial (rest₀ _ fun p hp => Heap.lt_size (N p hp).1)
  · obtain ⟨c, u, hc, rfl⟩ := hp
    exact ⟨Itm.tok fun u => .str ⟨#[c]⟩ u, by simp [hc], ⟨u, rfl⟩⟩
  · obtain ⟨it, hit, hic, _⟩ := st
    exact ⟨[(s.heap.objs.size, it)], ⟨⟨rfl, hic⟩, trivial⟩, fun p hp => by rw [List.mem_singleton.mp hp]; exact hit⟩
  · have hb' : b = s.heap.objs.size := by simpa using hb
    rw [hb']
    exact ⟨List.mem_cons_self .., next_is_new F⟩
  · have hb' : b = s.heap.objs.size := by simpa using hb
    exact .inl (by simp [hb'])
  · intro hI
    exact absurd F.ns.lt ((List.mem_singleton.mp hI) ▸ Nat.lt_irrefl _)
  · exact absurd (Heap.lt_size (N p hp).1) ((List.mem_singleton.mp hI) ▸ Nat.lt_irrefl _)
  · exact ⟨_, Heap.get?_push_size _ rfl, rfl, rfl⟩
end
section
variable {prog : Program} {w : World} {A : Around} {E : Value → Shared → Prop} {s : Shared} {env : Env} {h₀ : Heap} {target : PySem.Expr} {body : List Stmt} {Q : Flow → Shared → Prop}
theorem str_ind {I : Addr} (J : List Nat → (Str → Option Value) → List (Addr × Obj) → Prop)
    (turn : ∀ c r u m news h tk o, J (c :: r) m news → Fr h₀ env.locals h m → o.cls = .type "str_ascii_iterator" → News h₀ env.locals h ((I, o) :: news) →
      wpAny (model prog w) A (assign target env (.str ⟨#[c]⟩ u)) (fun _ s₂ => wpAny (model prog w) A (execs body env) (UnrPostW h₀ env.locals { s with heap := h, toks := tk } [(I, o)] (J r) Q) E s₂) E { s with heap := h, toks := tk })
    (fin : ∀ m news h tk, J [] m news → Fr h₀ env.locals h m → News h₀ env.locals h news → Q .next { s with heap := h, toks := tk }) :
    ∀ (cs : List Nat) (m : Str → Option Value) (news : List (Addr × Obj)), J cs m news → ItemsRest prog w A E h₀ env target body Q s [(I, "str_ascii_iterator")] [] (cs.map fun c => Itm.tok fun u => .str ⟨#[c]⟩ u) m news := by
  intro cs
  induction cs with
  | nil => intro m news hJ h tk F N; exact fin m news h tk hJ F N
  | cons c r ih =>
    intro m news hJ
    refine ItemsRest.tok fun u h tk F => ?_
    refine AllObj.cons fun o hc => AllObj.nil fun N => ?_
    refine wpAny_mono (turn c r u m news h tk o hJ F hc N) (fun _ s₂ h₂ => wpAny_mono h₂ (fun f s₃ h₃ => ?_) fun _ _ e => e) fun _ _ e => e
    have fin' : ∀ s₃, UnrEndW h₀ env.locals { s with heap := h, toks := tk } [(I, o)] (J r) s₃ → UnrEndW h₀ env.locals { s with heap := h, toks := tk } [(I, o)] (fun m' n' => SubL [] n' ∧ ItemsRest prog w A E h₀ env target body Q s [(I, "str_ascii_iterator")] [] (r.map fun c => Itm.tok fun u => .str ⟨#[c]⟩ u) m' n') s₃ := by
      rintro s₃ ⟨h', tk', m', news', e, F', N', ho, r'⟩
      exact ⟨h', tk', m', news', e, F', N', ho, trivial, ih m' news' r'⟩
    cases f with
    | ret v => exact h₃
    | brk => exact h₃
    | next => exact fin' _ h₃
    | cont => exact fin' _ h₃
theorem val_ind {I : Addr} {it : String} {keep : List (Addr × Obj)} (J : List Value → (Str → Option Value) → List (Addr × Obj) → Prop) (hk : ∀ l m n, J l m n → SubL keep n)
    (turn : ∀ v r m news h tk o, J (v :: r) m news → Fr h₀ env.locals h m → o.cls = .type it → News h₀ env.locals h ((I, o) :: news) →
      wpAny (model prog w) A (assign target env v) (fun _ s₂ => wpAny (model prog w) A (execs body env) (UnrPostW h₀ env.locals { s with heap := h, toks := tk } [(I, o)] (J r) Q) E s₂) E { s with heap := h, toks := tk })
    (fin : ∀ m news h tk, J [] m news → Fr h₀ env.locals h m → News h₀ env.locals h news → Q .next { s with heap := h, toks := tk }) :
    ∀ (vs : List Value) (m : Str → Option Value) (news : List (Addr × Obj)), J vs m news → ItemsRest prog w A E h₀ env target body Q s [(I, it)] keep (vs.map .val) m news := by
  intro cs
  induction cs with
  | nil => intro m news hJ h tk F N; exact fin m news h tk hJ F N
  | cons c r ih =>
    intro m news hJ
    refine ItemsRest.val fun h tk F => ?_
    refine AllObj.cons fun o hc => AllObj.nil fun N => ?_
    refine wpAny_mono (turn c r m news h tk o hJ F hc N) (fun _ s₂ h₂ => wpAny_mono h₂ (fun f s₃ h₃ => ?_) fun _ _ e => e) fun _ _ e => e
    have fin' : ∀ s₃, UnrEndW h₀ env.locals { s with heap := h, toks := tk } [(I, o)] (J r) s₃ → UnrEndW h₀ env.locals { s with heap := h, toks := tk } [(I, o)] (fun m' n' => SubL keep n' ∧ ItemsRest prog w A E h₀ env target body Q s [(I, it)] keep (r.map .val) m' n') s₃ := by
      rintro s₃ ⟨h', tk', m', news', e, F', N', ho, r'⟩
      exact ⟨h', tk', m', news', e, F', N', ho, hk _ _ _ r', ih m' news' r'⟩
    cases f with
    | ret v => exact h₃
    | brk => exact h₃
    | next => exact fin' _ h₃
    | cont => exact fin' _ h₃
theorem int_at {o : Option Value} {a b : Int} {t : Tok} (h : o = some (.int a t)) (e : a = b) : ∃ t, o = some (.int b t) := ⟨t, e ▸ h⟩
theorem turn_end {L I : Addr} {o : Obj} {J : (Str → Option Value) → List (Addr × Obj) → Prop} {m' : Str → Option Value} {s₁ : Shared} {h' : Heap} {tk : Nat} {all : List (Addr × Obj)} (nw : List (Addr × Obj)) (F : Fr h₀ L h' m') (N : News h₀ L h' all) (hI : (I, o) ∈ all) (hs : ∀ p ∈ nw, p ∈ all)
    (hne : ∀ p ∈ nw, p.1 ≠ I) (r : J m' nw) : UnrEndW h₀ L s₁ [(I, o)] J { s₁ with heap := h', toks := tk } := by
  refine ⟨h', tk, m', nw, rfl, F, ?_, ?_, r⟩
  · intro p hp
    rcases List.mem_cons.mp hp with rfl | hp
    · exact N _ hI
    · exact N _ (hs p hp)
  · intro p hp q hq
    rw [List.mem_singleton.mp hq]
    exact hne p hp
theorem turn_end3 {L I ca x d : Addr} {o oc ox od : Obj} {J : (Str → Option Value) → List (Addr × Obj) → Prop} {m' : Str → Option Value} {s₁ : Shared} {h' : Heap} {tk : Nat} {all : List (Addr × Obj)} (F : Fr h₀ L h' m') (N : News h₀ L h' all) (hI : (I, o) ∈ all) (a1 : (ca, oc) ∈ all) (a2 : (x, ox) ∈ all) (a3 : (d, od) ∈ all)
    (n1 : @Ne Nat ca I) (n2 : @Ne Nat x I) (n3 : @Ne Nat d I) (r : J m' [(ca, oc), (x, ox), (d, od)]) : UnrEndW h₀ L s₁ [(I, o)] J { s₁ with heap := h', toks := tk } := by
  refine ⟨h', tk, m', [(ca, oc), (x, ox), (d, od)], rfl, F, ?_, ?_, r⟩
  · intro p hp
    simp only [List.cons_append, List.nil_append, List.mem_cons, List.not_mem_nil, or_false] at hp
    rcases hp with rfl | rfl | rfl | rfl
    · exact N _ hI
    · exact N _ a1
    · exact N _ a2
    · exact N _ a3
  · intro p hp q hq
    rw [List.mem_singleton.mp hq]
    simp only [List.mem_cons, List.not_mem_nil, or_false] at hp
    rcases hp with rfl | rfl | rfl
    · exact n1
    · exact n2
    · exact n3
theorem news_sub {h : Heap} {L : Addr} {a b : List (Addr × Obj)} (N : News h₀ L h a) (hs : ∀ p ∈ b, p ∈ a) : News h₀ L h b := fun p hp => N p (hs p hp)
theorem news_ne {h : Heap} {L a b : Addr} {o o' : Obj} {news : List (Addr × Obj)} {x y : String} (N : News h₀ L h news) (ha : (a, o) ∈ news) (hb : (b, o') ∈ news) (hc : o.cls = .type x) (hd : o'.cls = .type y) (hne : x ≠ y) : @Ne Nat a b := by
  intro e
  have h1 := (N _ ha).1
  have h2 := (N _ hb).1
  have e' : a = b := e
  subst e'
  have h3 : o = o' := Option.some.inj (h1.symm.trans h2)
  rw [h3, hd] at hc
  exact hne (Value.type.inj hc).symm
theorem news_ne' {h : Heap} {L a b : Addr} {o o' : Obj} {news : List (Addr × Obj)} (N : News h₀ L h news) (ha : (a, o) ∈ news) (hb : (b, o') ∈ news) (hne : o.cls ≠ o'.cls) : @Ne Nat a b := by
  intro e
  have h1 := (N _ ha).1
  have h2 := (N _ hb).1
  have e' : a = b := e
  subst e'
  exact hne (congrArg Obj.cls (Option.some.inj (h1.symm.trans h2)))
end
theorem fresh_of {h g h' : Heap} {L : Addr} {news : List (Addr × Obj)} (K : ∀ b o, h.get? b = some o → g.get? b = some o) (N : News g L h' news) : ∀ p ∈ news, h'.get? p.1 = some p.2 ∧ h.get? p.1 = none := fun p hp => by
  refine ⟨(N p hp).1, ?_⟩
  cases e : h.get? p.1 with
  | none => rfl
  | some o => have := K _ _ e; rw [(N p hp).2.2] at this; cases this
theorem news_new {h₀ h h' : Heap} {L : Addr} {m : Str → Option Value} {l : List (Addr × Obj)} (F : Fr h₀ L h m) (hl : ∀ p ∈ l, h'.get? p.1 = some p.2 ∧ @LE.le Nat _ h.objs.size p.1) : News h₀ L h' l := fun p hp => by
  obtain ⟨a, b⟩ := hl p hp
  have b' := none_of_le b
  refine ⟨a, ?_, ?_⟩
  · intro e
    exact absurd F.ns.lt (by rw [← e]; exact Nat.not_lt.mpr b)
  · cases e : h₀.get? p.1 with
    | none => rfl
    | some o => have := F.keep _ _ e; rw [b'] at this; cases this
theorem new_four {g h' : Heap} {L : Addr} {a b c d : Addr} {oa ob oc od : Obj} (N : News g L h' [(a, oa), (b, ob), (c, oc), (d, od)]) {n : Nat} (ha : @LE.le Nat _ n a) (hb : @LE.le Nat _ n b) (hc : @LE.le Nat _ n c) (hd : @LE.le Nat _ n d) : ∀ p ∈ [(a, oa), (b, ob), (c, oc), (d, od)], h'.get? p.1 = some p.2 ∧ @LE.le Nat _ n p.1 := fun p hp => by
  refine ⟨(N p hp).1, ?_⟩
  simp only [List.mem_cons, List.not_mem_nil, or_false] at hp
  rcases hp with rfl | rfl | rfl | rfl
  · exact ha
  · exact hb
  · exact hc
  · exact hd
theorem news_lt {h₀ h : Heap} {L : Addr} {news : List (Addr × Obj)} (N : News h₀ L h news) : ∀ p ∈ news, p.1 < h.objs.size := fun p hp => Heap.lt_size (N p hp).1
theorem news_fresh {h₀ h h' : Heap} {L : Addr} {m : Str → Option Value} {l : List (Addr × Obj)} (F : Fr h₀ L h m) (hl : ∀ p ∈ l, h'.get? p.1 = some p.2 ∧ h.get? p.1 = none) : News h₀ L h' l := fun p hp => by
  obtain ⟨a, b⟩ := hl p hp
  refine ⟨a, ?_, ?_⟩
  · intro e
    have := F.ns
    obtain ⟨o, _, _, ho, _⟩ := this
    rw [e] at b
    rw [b] at ho
    cases ho
  · cases e : h₀.get? p.1 with
    | none => rfl
    | some o => have := F.keep _ _ e; rw [b] at this; cases this
theorem keep_two {h h1 g : Heap} {x d : Addr} {ox od : Obj} (kS : ∀ b o, h.get? b = some o → h1.get? b = some o) (kG : GSub h1 g (List.map (fun p : Addr × Obj => p.1) [(x, ox), (d, od)])) (nx : h.get? x = none) (nd : h.get? d = none) : ∀ b o, h.get? b = some o → g.get? b = some o := fun b o e => by
  refine kG b o (kS b o e) ?_
  simp only [List.map_cons, List.map_nil, List.mem_cons, List.not_mem_nil, or_false, not_or]
  constructor
  · rintro rfl; rw [nx] at e; cases e
  · rintro rfl; rw [nd] at e; cases e
theorem iter_range0 {prog : Program} {w : World} {A : Around} {E : Value → Shared → Prop} {s : Shared} {env : Env} {h₀ : Heap} {x : Str} {body : List Stmt} {Q : Flow → Shared → Prop} {r : Addr} {a₀ b₀ : Int} {t₀ u₀ v₀ : Tok} {m₀ : Str → Option Value} {news : List (Addr × Obj)}
    (hh : A.handled = none) (hr : IsRange s.heap r a₀ b₀ 1 t₀ u₀ v₀) (ha : 0 ≤ a₀) (ha' : a₀ ≤ 64) (hb : 0 ≤ b₀) (hba : b₀ ≤ a₀) (F : Fr h₀ env.locals s.heap m₀) (N : News h₀ env.locals s.heap news)
    (done : ∀ h tk, Fr h₀ env.locals h m₀ → News h₀ env.locals h news → Q .next { s with heap := h, toks := tk }) :
    wpAny (model prog w) A (pyIter (.ref r)) (fun it s₂ => LoopAtV prog w A h₀ env x body Q E it s₂) E s := by
  refine iter_rangeS (n := 0) (σ := Unit) (fun _ m nx => m = m₀ ∧ nx = news) (fun _ _ => ()) () hh hr (small_one (by omega) (by omega) (by omega) (by omega)) (by rw [rangeSize_nat]; congr 1; omega) F N ⟨rfl, rfl⟩ ?_ ?_
  · intro k t _ m₁ nx h tk own hk
    have := mem_rangeKs hk
    omega
  · rintro m₁ nx h tk ⟨rfl, rfl⟩ F₁ N₁
    exact done h tk F₁ N₁
theorem ret_int {s : Shared} {Q : Value → Shared → Prop} {x y : Int} {t : Tok} {h' : Heap} {tk' : Nat} (ret : ∀ t h' tk', (∀ b o, s.heap.get? b = some o → h'.get? b = some o) → Q (.int x t) {s with heap := h', toks := tk'})
    (e : y = x) (k : ∀ b o, s.heap.get? b = some o → h'.get? b = some o) : Q (.int y t) {s with heap := h', toks := tk'} := by subst e; exact ret _ _ _ k
theorem keep_all {h g H' h₀ : Heap} {L L' : Addr} {m' : Str → Option Value} {news news' : List (Addr × Obj)} (G : GSub h g (news.map (·.1))) (N : News h₀ L h news) (F' : Fr g L' H' m') (N' : News g L' H' news') (hs : ∀ p ∈ news, p ∈ news') : ∀ b o, h.get? b = some o → H'.get? b = some o :=
  elt_after (InElt.start h) G N F' N' hs
structure Pr where
  a : Addr
  nm : Str
  tn : Tok
  t : Nat
  b : Nat
  tv : Tok
def tb (t b : Nat) : Str := ⟨(List.replicate t 9 ++ List.replicate b 32).toArray⟩
def Pr.obj (p : Pr) : Obj := { cls := .type "tuple", data := .seq #[.str p.nm p.tn, .str (tb p.t p.b) p.tv] }
def Pr.ref (p : Pr) : Value := .ref p.a
theorem up1 {dp r n k : Nat} (h : dp + n < r) (e : 1 + k ≤ n) : dp + 1 + k < r := by omega
theorem up3 {un c n k : Nat} (h : un + n < c) (e : 3 + k ≤ n) : un + 3 + k < c := by omega
theorem le7 {k sz : Int} (h : k < 1 + ((sz + 1 - 1).toNat : Int)) (h3 : 3 ≤ sz) (h7 : sz ≤ 7) : k ≤ 7 := by omega
theorem islist_up {h₀ h : Heap} {L l : Addr} {m : Str → Option Value} {items : Array Value} (F : Fr h₀ L h m) (x : h₀.IsList l items) : h.IsList l items := x.at fun o e => F.keep _ o e
section
variable {prog : Program} {w : World} {A : Around} {E : Value → Shared → Prop} {s : Shared} {l : Addr} {us : List Value} {xs : List Int}
theorem my_len {Q : Value → Shared → Prop} (hl : s.heap.IsList l us.toArray) (hi : IntsAre us xs) (hfit : xs.length ≤ 64) (h : Q (.int (xs.length : Int) (s.toks + 1)) { s with toks := s.toks + 1 + 1 }) : wpAny (model prog w) A (call (.builtin "len") [.ref l]) Q E s := by
  have e2 : us.toArray.size = xs.length := by rw [List.size_toArray, hi.length]
  exact len_list hl (by rw [e2]; omega) (by rw [e2]; exact h)
theorem my_item {value slice : PySem.Expr} {k : Int} {u : Tok} {Q : Value → Shared → Prop} (hl : s.heap.IsList l us.toArray) (hi : IntsAre us xs) (h0 : 0 ≤ k) (h1 : k < xs.length) (hb : xs.length ≤ 64) (h : ∀ t, Q (.int (xs.getD k.toNat 0) t) s)
    (hs : subscripted slice false (.ref l) (.int k u) = operate [.ref l, .int k u] (getItem (.ref l) (.int k u)) := by with_unfolding_all rfl) :
    wpAny (model prog w) A (subscriptTail value slice (.ref l) (.int k u)) Q E s := by
  have hk : k.toNat < xs.length := by omega
  obtain ⟨t, hx⟩ := hi.get k.toNat (xs.getD k.toNat 0) (by simp [hk])
  exact tail_any hl.typeIs slot_list_getitem.lookup (wpAny_getItem_list hl h0 (by omega) (by simpa using hx) (h t)) hs
end
end
open PySem PySem.W PyProof.Rows PySem.Spec PySem.Calls
local macro_rules | `(tactic| k_room) => `(tactic| ktr_room)
local macro_rules | `(tactic| walk_at "ME enter") => `(tactic| first
  | (refine' code_defG ?k1 ?k2 ?k3 ?k4 ?k5 ?kA ?kF ?kK ?k6 ?k7 ?k8 ?k9 ?kB ?_ ?c2 ?c3 ?c4 ?c5; (case kA => exact rfl); (case kF => exact rfl); (case kK => assumption); (case k1 => k_asm); (case k2 => k_asm); (case k3 => k_asm); (case k4 => k_asm); (case k5 => k_asm); (case k6 => k_is); (case k7 => k_is); (case k8 => k_room); (case k9 => first | exact BindsTo.of_eq rfl | exact binds_K (by k_in) rfl (by k_is) rfl rfl rfl | (refine' kp_binds ?kx ?ke; (case kx => k_in); (case ke => exact fun _ => rfl)) | fail "k_enter: no rule for these arguments"); (case c5 => decide); (case kB => exact locs rfl); (case c2 => exact rfl); (case c3 => exact rfl); (case c4 => exact rfl); k_whole; intro g' L' h' FG' F' N' B' X' T' kG')
  | (refine' code_defCG ?k1 ?k2 ?k3 ?k4 ?k5 ?kA ?kF ?kK ?k6 ?k7 ?k8 ?k9 ?kB ?kD ?_ ?c2 ?c3 ?c4; (case kA => exact rfl); (case kF => exact rfl); (case kK => assumption); (case k1 => k_asm); (case k2 => k_asm); (case k3 => k_asm); (case k4 => k_asm); (case k5 => k_asm); (case k6 => k_is); (case k7 => k_is); (case k8 => k_room); (case k9 => first | exact BindsTo.of_eq rfl | exact binds_K (by k_in) rfl (by k_is) rfl rfl rfl | (refine' kp_binds ?kx ?ke; (case kx => k_in); (case ke => exact fun _ => rfl)) | fail "k_enter: no rule for these arguments"); (case kB => exact rfl); (case kD => decide +kernel); (case c2 => exact rfl); (case c3 => exact rfl); (case c4 => exact rfl); k_whole; intro g' L' h' tk' cells' FG' F' N' Y' B' X' T' l1 kG'; (try k_lt l1); k_cells Y'; (try simp only [List.cons_append, List.nil_append] at N')))
local macro_rules | `(tactic| walk_at $s:str) => `(tactic| k_extra $s)
local macro_rules | `(tactic| walk_at "ME list") => `(tactic| first | assumption | exact News.isList (by k_asm) (by k_mem) | (refine islist_up (by assumption) ?_; walk_at "ME list"))
local macro_rules | `(tactic| walk_at "ME item") => `(tactic| ((with_reducible show wpAny _ _ (subscriptTail _ _ (Value.ref _) (Value.int _ _)) _ _ _); k_dflt (refine' my_item ?k1 ?k2 ?k3 ?k4 ?k5 ?_; (case k1 => walk_at "ME list"); (case k2 => assumption); (case k3 => omega); (case k4 => omega); (case k5 => omega); k_whole; intro _)))
section
open PySem PySem.W PyProof.Rows PySem.Spec PySem.Calls
def Plain (b : Bool) (x : Str) : Prop := ∀ c ∈ x.cps.toList, c < 127 ∧ (32 ≤ c ∨ (b = false ∧ c = 9))
def nmCode : Array Nat := #[14, 10, 4, 1, 1, 22, 0, 31, 16, 127, 0, 13, 7, 22, 0, 31, 16, 127, 0, 1]
def vlCode : Array Nat := #[14, 14, 4, 1, 1, 9, 4294966783, 0, 0, 2147483648, 0, 0, 0, 0, 0, 13, 11, 9, 4294966783, 0, 0, 2147483648, 0, 0, 0, 0, 0, 1]
section Regex
open PySem.Sre
def patCode (b : Bool) : Array Nat := if b then nmCode else vlCode
def inNo (code : Array Nat) (c : Nat) : Bool := match inSet code c code.size 5 true {} with | .ok (y, _) => !y | .error _ => false
def got : Except String (Bool × Sre.Seen) → Option Bool
  | .ok (y, _) => some y
  | .error _ => none
theorem got_ite {c : Bool} {a b a' b' : Except String (Bool × Sre.Seen)} (h1 : got a = got a') (h2 : got b = got b') : got (if c = true then a else b) = got (if c = true then a' else b') := by
  cases c
  · exact h2
  · exact h1
theorem inSet_seen (code : Array Nat) (c : Nat) : ∀ (fuel i : Nat) (yes : Bool) (s1 s2 : Sre.Seen), got (inSet code c fuel i yes s1) = got (inSet code c fuel i yes s2) := by
  intro fuel
  induction fuel with
  | zero => intro i yes s1 s2; rfl
  | succ n ih =>
    intro i yes s1 s2
    unfold inSet
    dsimp only
    generalize ops[code.getD (i + 0) 0]? = o
    cases o with
    | none => rfl
    | some op =>
      cases op <;> first | rfl | exact ih _ _ _ _ | exact got_ite rfl (ih _ _ _ _) | skip
      cases category (code.getD (i + 1) 0) c with
      | error e => rfl
      | ok b => exact got_ite (c := b) rfl (ih _ _ _ _)
theorem inNo_nm : ∀ c : Nat, c < 127 → 32 ≤ c → inNo nmCode c = true := by
  have h : ∀ c : Fin 127, 32 ≤ c.val → inNo nmCode c.val = true := by decide +kernel
  exact fun c hc h2 => h ⟨c, hc⟩ h2
theorem inNo_vl : ∀ c : Nat, c < 127 → (32 ≤ c ∨ c = 9) → inNo vlCode c = true := by
  have h : ∀ c : Fin 127, (32 ≤ c.val ∨ c.val = 9) → inNo vlCode c.val = true := by decide +kernel
  exact fun c hc h2 => h ⟨c, hc⟩ h2
theorem inSet_no {code : Array Nat} {c : Nat} (h : inNo code c = true) (seen : Sre.Seen) : ∃ s', inSet code c code.size 5 true seen = .ok (false, s') := by
  have q := inSet_seen code c code.size 5 true {} seen
  unfold inNo at h
  cases e : inSet code c code.size 5 true {} with
  | error x => rw [e] at h; cases h
  | ok y =>
    obtain ⟨y, s0⟩ := y
    rw [e] at h q
    cases e2 : inSet code c code.size 5 true seen with
    | error x => rw [e2] at q; cases q
    | ok z =>
      obtain ⟨z, s1⟩ := z
      rw [e2] at q
      have hyz : y = z := Option.some.inj q
      subst hyz
      cases y with
      | false => exact ⟨s1, rfl⟩
      | true => cases h
theorem admitted_no {m : M} (h : ∀ i, i < m.lim → inNo m.code (m.text.getD i 0) = true) : ∀ (fuel s : Nat) (seen : Sre.Seen), ∃ s', M.admitted m fuel s seen = .ok (none, s') := by
  intro fuel
  induction fuel with
  | zero => intro s seen; exact ⟨seen, rfl⟩
  | succ n ih =>
    intro s seen
    unfold M.admitted
    by_cases q : s ≥ m.lim
    · rw [if_pos q]; exact ⟨seen, rfl⟩
    · rw [if_neg q]
      obtain ⟨s', e⟩ := inSet_no (h s (Nat.not_le.mp q)) seen
      rw [e]
      exact ih _ _
theorem attempt_no {m : M} (hf : m.hasFirstSet = true) (h : ∀ i, i < m.lim → inNo m.code (m.text.getD i 0) = true) (s : Nat) (first : Bool) : ∃ s', m.attemptFrom s first = ({ m with seen := s' } : M).say false := by
  unfold M.attemptFrom
  rw [hf]
  obtain ⟨s', e⟩ := admitted_no h (m.lim + 1 - s) s m.seen
  simp only [Bool.not_true, Bool.false_eq_true, if_false]
  rw [e]
  exact ⟨s', rfl⟩
theorem runFor_failed {m : M} (h0 : m.outcome = none) (h1 : m.answer = some false) (h2 : m.frames = []) : (m.runFor 4).outcome = some .failed := by
  have e : m.step = { m with outcome := some .failed } := by
    unfold M.step
    rw [h0, h1, h2]
    rfl
  unfold M.runFor
  rw [h0]
  simp only [Option.isSome_none, Bool.false_eq_true, if_false]
  rw [e]
  unfold M.runFor
  simp
theorem search_no (b : Bool) {x : Str} (hv : Plain b x) : ((forSearch (patCode b) x.cps 0 0 x.cps.size false).runFor 4).outcome = some .failed := by
  have hin : ∀ i, i < x.cps.size → inNo (patCode b) (x.cps.getD i 0) = true := by
    intro i hi
    have hm : x.cps.getD i 0 ∈ x.cps.toList := by
      rw [Array.getD_eq_getD_getElem?, Array.getElem?_eq_getElem hi]
      simp
    obtain ⟨h1, h2⟩ := hv _ hm
    cases b with
    | true => exact inNo_nm _ h1 (h2.resolve_right (by simp))
    | false => exact inNo_vl _ h1 (h2.imp id (fun q => q.2))
  unfold forSearch
  have hh : header (patCode b) = (1, if b then 11 else 15) := by cases b <;> decide +kernel
  by_cases hz : (decide (0 > x.cps.size) || decide (x.cps.size - 0 < (header (patCode b)).1)) = true
  · dsimp only
    rw [if_pos hz]
    exact runFor_failed rfl rfl rfl
  · dsimp only
    rw [if_neg hz]
    generalize hm : M.mk _ _ _ _ _ _ _ _ _ _ _ _ _ _ _ _ _ _ _ _ _ = m0
    have c1 : m0.code = patCode b := by rw [← hm]; rfl
    have c2 : m0.text = x.cps := by rw [← hm]; rfl
    have c3 : m0.lim = x.cps.size := by rw [← hm]; rfl
    have c4 : m0.outcome = none := by rw [← hm]; rfl
    have c5 : m0.frames = [] := by rw [← hm]; rfl
    have hf : m0.hasFirstSet = true := by
      unfold M.hasFirstSet
      rw [c1]
      cases b <;> decide +kernel
    obtain ⟨s', e⟩ := attempt_no (m := m0) hf (by rw [c1, c2, c3]; exact hin) 0 true
    rw [e]
    exact runFor_failed c4 rfl c5
end Regex
section
open PySem.Builtin PySem.Builtin.Re
set_option maxRecDepth 100000
theorem plainAttrs_pat : PlainAttrs "re.Pattern" :=
  ⟨⟨"object.__getattribute__", by rw [typeLookup_type, builtinLookup_eq_fast]; kernel_rfl, by decide +kernel⟩, by rw [typeLookup_type, builtinLookup_eq_fast]; kernel_rfl⟩
theorem slot_search : Slot "re.Pattern" "search" "re.Pattern.search" :=
  .of (owner := "re.Pattern") (n := "search") (by rw [typeLookup_type, builtinLookup_eq_fast]; kernel_rfl) (by decide +kernel) (by decide +kernel) (by decide +kernel)
    (by first | exact .inl (by decide +kernel) | exact .inr (by decide +kernel)) (by rw [isSubtype_type]; kernel_rfl)
theorem type_search : typeOf (.builtin "re.Pattern.search") = pure (.type "method_descriptor") := by show builtinType _ = _; rw [builtinType_eq_fast]; kernel_rfl
theorem entry_search : entryFor table "re.Pattern.search" = some Builtin.«re.Pattern.search» := entryFor_of_tree (by kernel_rfl)
theorem owner_pat : Manifest.owners.lookup (String.ofList ['n','r','e','t','t','a','P','.','e','r'].reverse) = some Manifest.sig_re_Pattern := by kernel_rfl
theorem args_search (a b : Value) : argsOk "re.Pattern.search" ⟨[a, b], []⟩ := by
  unfold argsOk; rw [signature?_of (id := "re.Pattern.search") (n := ['h', 'c', 'r', 'a', 'e', 's']) (o := ['n','r','e','t','t','a','P','.','e','r']) (by kernel_rfl) owner_pat]; kernel_rfl
theorem named_search (v : Value) : reNamed "re.Pattern.search" "search" ["string", "pos", "endpos"] 1 [v] [] = pure [some v, none, none] := by rfl
theorem rules_any {M : Model} {A : Around} {E : Value → Shared → Prop} {s : Shared} (f : Nat → Bool) (g : Nat → String) {Q : PUnit → Shared → Prop} (h : Q ⟨⟩ s) : ∀ l : List Nat, wpAny M A (forIn l PUnit.unit fun i _ => do
    if f i then rule (g i)
    pure (ForInStep.yield PUnit.unit)) Q E s := by
  intro l
  induction l with
  | nil => exact wpAny_pure h
  | cons i l ih =>
    rw [List.forIn_cons]
    refine wpAny_bind ?_
    dsimp only
    split
    · exact wpAny_bind (wpAny_rule (wpAny_pure ih))
    · exact wpAny_pure ih
theorem search_rule {prog : Program} {w : World} {A : Around} {E : Value → Shared → Prop} {s : Shared} {Q : Value → Shared → Prop} (b : Bool) {x : Str} {t : Tok} {pa ca : Addr} {ov oc : Obj} {p0 p1 : Value} {items : Array Value} {n : Nat}
    (hp : s.heap.get? pa = some ov) (hpc : ov.cls = .type "re.Pattern") (hd : ov.data = .fields #[p0, p1, .int 0 0, .none, .none, .ref ca, .int 0 0]) (hc : s.heap.get? ca = some oc) (hcd : oc.data = .seq items n)
    (hi : (items.map reRawOf).map (·.toNat) = patCode b) (hv : Plain b x) (hz : x.cps.size ≤ 4096) (h : Q .none s) : wpAny (model prog w) A (call (.builtin "re.Pattern.search") [.ref pa, .str x t]) Q E s := by
  refine wpAny_call_entry slot_search ⟨ov, hp, hpc⟩ entry_search ?_ (args_search _ _)
  unfold Builtin.«re.Pattern.search»
  refine wpAny_bind ?_
  unfold reTarget
  dsimp only
  rw [named_search]
  refine wpAny_bind (wpAny_pure ?_)
  dsimp only
  refine wpAny_bind (wpAny_pure ?_)
  refine wpAny_bind (wpAny_pure ?_)
  refine wpAny_bind (wpAny_fieldsOf hp hd ?_)
  have et : reTextOf (.str x t) = pure (x.cps, 0) := rfl
  rw [et]
  refine wpAny_bind (wpAny_pure ?_)
  dsimp only
  show wpAny _ _ (reNoCollectionInside (Value.str x t) 0 >>= fun _ => reRawItems (.ref ca) >>= fun l => pure ({ pattern := Value.ref pa, string := Value.str x t, code := Array.map (fun x => x.toNat) l, text := x.cps, kind := 0, groups := 0, pos := Min.min (Int.toNat 0) x.cps.size, lim := Min.min ((2 : Int) ^ 63 - 1).toNat x.cps.size } : ReTarget)) _ _ _
  have en : reNoCollectionInside (.str x t) 0 = pure () := rfl
  rw [en]
  refine wpAny_bind (wpAny_pure ?_)
  refine wpAny_bind ?_
  unfold reRawItems
  refine wpAny_bind (wpAny_seqItems hc hcd ?_)
  refine wpAny_pure ?_
  refine wpAny_pure ?_
  dsimp only [Option.getD]
  have hl : Min.min ((2 : Int) ^ 63 - 1).toNat x.cps.size = x.cps.size := by
    have : ((2 : Int) ^ 63 - 1).toNat = 9223372036854775807 := by decide
    rw [this]
    exact Nat.min_eq_right (by omega)
  rw [hi, hl, show Min.min (Int.toNat 0) x.cps.size = 0 from Nat.zero_min _]
  unfold reAnswer reRunToEnd
  have hs := search_no b hv
  generalize Sre.forSearch (patCode b) x.cps 0 0 x.cps.size false = m0 at hs ⊢
  rw [show (2 : Nat) ^ 64 = 18446744073709551615 + 1 from rfl]
  unfold reDrive
  have ho : (m0.runFor reTurnSteps).outcome = some .failed := hs
  generalize m0.runFor reTurnSteps = m1 at ho ⊢
  dsimp only
  rw [ho]
  simp only [Option.isSome_some, if_true]
  refine wpAny_bind (wpAny_bind (wpAny_pure ?_))
  refine wpAny_bind (rules_any _ _ ?_ _)
  rw [ho]
  refine wpAny_pure ?_
  exact wpAny_pure ⟨_, rfl, h⟩
end
end
section
open PySem PySem.W PyProof.Rows PySem.Spec PySem.Calls
section
local macro_rules | `(tactic| walk_at "exec For Tuple Attribute cons nil") => `(tactic| (k_here; (rename Fr _ _ _ _ => lF'); (with_unfolding_all refine' For_turns lF' ?_; k_whole)))
def sgn (x y : Int) : Int := if x < y then -1 else if x > y then 1 else 0
def votesF (xs ys : List Int) : Int := ((List.range xs.length).map fun i => sgn (xs.getD i 0) (ys.getD i 0)).sum
theorem votes_sum (xs ys : List Int) : (List.map (fun k : Int => sgn (xs.getD k.toNat 0) (ys.getD k.toNat 0)) (rangeKs 0 ((xs.length : Int) - 0).toNat)).sum = votesF xs ys := by
  unfold votesF rangeKs
  simp [List.map_map, Function.comp_def]
set_option maxRecDepth 100000 in
set_option maxHeartbeats 8000000 in
theorem votes_c {w : World} {mean : ExcName → Option Value} {mg mb : Str → Option Value} {dp un : Nat} {gd : Option (List Code)} {cn : Str} {cs : Scope} {a : Addr} {ccd : Value} {cl : List (Str × Addr)} {outer : List Env} {A₀ : Around} {base h₀ : Heap} {L : Addr} {m : Str → Option Value} {s : Shared} {Q E : Value → Shared → Prop}
  (B : Below A₀ base outer h₀) (F : Fr h₀ L s.heap m) (X : (heapK w.params).In h₀)
  (T : Top viewK LS mean mg mb h₀) (hk : cs.kind = .function)
  (l1 l2 : Addr) (v1 v2 : List Value) (xs ys : List Int)
  (hl1 : s.heap.IsList l1 v1.toArray) (hi1 : IntsAre v1 xs)
  (hl2 : s.heap.IsList l2 v2.toArray) (hi2 : IntsAre v2 ys) (hlen : xs.length = ys.length) (hsm : xs.length ≤ 64)
  (hd' : dp + 4 < recursionLimit) (hu : un + 60 < cLine)
  (ret : ∀ t h' tk', (∀ b o, s.heap.get? b = some o → h'.get? b = some o) → Q (.int (votesF xs ys) t) {s with heap := h', toks := tk'}) :
  wpAny (model PySem.Challenge.rw_pg0308_01.row.prog w) (ktrTop dp un gd cn cs L a ccd cl outer) (call (.ref 279) [.ref l1, .ref l2]) Q E s := by
  k_with_none
  k_with "CompSrc" => (k_here; k_dflt (refine LCg.CompSrc.range (by rfl) (by k_asm) (by k_asm) (by assumption) (by first | exact small_one (by kcf_bnd) (by kcf_bnd) (by kcf_bnd) (by kcf_bnd) | decide) (by first | exact rangeSize_nat _ _ | rfl) (by rw [PySem.sizeLine_eq]; omega) ?_; intro g'; (refine' kcf_range (fun k => sgn (xs.getD k.toNat 0) (ys.getD k.toNat 0)) (fun k' t' I' oI' C' oC' D' m' ys' h' tk' E' hlo' hhi' hC' hx' F' N' off' ne' hMark' => ?_) ?_); (all_goals (try (simp only [LCg.Off3, and_true] at off'))); kcf_last))
  k_with "subscriptTail Name Name ref int" => walk_at "ME item"
  revert X
  k_fill
  intro X
  have N : News h₀ L s.heap [] := News.nil
  refine wpAny_call ?_
  k_dflt walk_at "ME enter"
  rename GSub _ _ _ => kG
  have gl1 := hl1.at fun o e => kG _ o e (by simp)
  have gl2 := hl2.at fun o e => kG _ o e (by simp)
  clear hl1 hl2
  (try dsimp only); (try k_fold)
  k_steps
  refine ret_int ret ?e ?k
  case k => exact fun b o e => Fr.keep (by assumption) b o (kG b o e (by simp))
  case e => exact votes_sum _ _
end
end
section
open PySem PySem.W PyProof.Rows PySem.Spec PySem.Calls
theorem pat_method {M : Model} {A : Around} {E : Value → Shared → Prop} {s : Shared} {K : Frag} {a : Addr} {vs : Array Value} {sl : Array (Option Value)} {pl : Sem Bool} {Q : Value × List Value → Shared → Prop} (X : K.In s.heap) (ho : K.lookup a = some ⟨.type "re.Pattern", none, .fields vs, sl⟩)
    (h : Q (.builtin "re.Pattern.search", [.ref a]) s) : wpAny M A (getMethod (.ref a) (Str.ofString "search") pl) Q E s :=
  getMethod_builtin (T := "re.Pattern") ⟨_, X _ _ ho, rfl⟩ plainAttrs_pat slot_search type_search (fun b e => by cases e; exact ⟨_, X _ _ ho, rfl⟩) h
theorem pat_search {prog : Program} {w : World} {A : Around} {E : Value → Shared → Prop} {s : Shared} {K : Frag} {Q : Value → Shared → Prop} (b : Bool) {x : Str} {t : Tok} {pa ca : Addr} {p0 p1 : Value} {items : List Value} {n : Nat} {sl sl2 : Array (Option Value)} {od : Option Addr}
    (X : K.In s.heap) (hp : K.lookup pa = some ⟨.type "re.Pattern", none, .fields #[p0, p1, .int 0 0, .none, .none, .ref ca, .int 0 0], sl⟩) (hc : K.lookup ca = some ⟨.type "tuple", od, .seq items.toArray n, sl2⟩)
    (hi : (items.toArray.map Builtin.Re.reRawOf).map (·.toNat) = patCode b) (hv : Plain b x) (hz : x.cps.size ≤ 4096) (h : Q .none s) : wpAny (model prog w) A (call (.builtin "re.Pattern.search") [.ref pa, .str x t]) Q E s :=
  search_rule b (X _ _ hp) rfl rfl (X _ _ hc) rfl hi hv hz h
set_option maxRecDepth 100000 in
set_option maxHeartbeats 8000000 in
theorem conv_c {w : World} {mean : ExcName → Option Value} {mg mb : Str → Option Value} {dp un : Nat} {gd : Option (List Code)} {cn : Str} {cs : Scope} {a : Addr} {ccd : Value} {cl : List (Str × Addr)} {outer : List Env} {A₀ : Around} {base h₀ : Heap} {L : Addr} {m : Str → Option Value} {s : Shared} {Q E : Value → Shared → Prop}
  (B : Below A₀ base outer h₀) (F : Fr h₀ L s.heap m) (X : (heapK w.params).In h₀)
  (T : Top viewK LS mean mg mb h₀) (hk : cs.kind = .function)
  (x : Addr) (v : Str) (t : Tok) (b : Bool) (hv : Plain b v) (hz : v.cps.size ≤ 4096)
  (hd' : dp + 4 < recursionLimit) (hu : un + 60 < cLine)
  (ret : ∀ h' tk', (∀ b o, s.heap.get? b = some o → h'.get? b = some o) → Q (.str v t) {s with heap := h', toks := tk'}) :
  wpAny (model PySem.Challenge.rw_pg0308_01.row.prog w) (ktrTop dp un gd cn cs L a ccd cl outer) (call (.ref 164) [.ref x, .str v t] [(Str.ofString "name", .bool b)]) Q E s := by
  k_with_none
  k_with "getMethod ref" => (k_dflt (refine' pat_method ?k1 ?k2 ?_; (case k1 => k_in); (case k2 => k_is); k_whole))
  k_with "call builtin:re.Pattern.search" => (k_dflt (refine' pat_search _ ?k1 ?k2 ?k3 ?k4 hv hz ?_; (case k1 => k_in); (case k2 => k_is); (case k3 => k_is); (case k4 => first | rfl | decide +kernel); k_whole))
  revert X
  k_fill
  intro X
  have N : News h₀ L s.heap [] := News.nil
  cases b
  all_goals (
    refine wpAny_call ?_
    k_dflt walk_at "ME enter"
    rename GSub _ _ _ => kG
    (try dsimp only); (try k_fold)
    k_steps)
  all_goals exact ret _ _ (fun b o e => Fr.keep (by assumption) b o (kG b o e (by simp)))
end
section
open PySem PySem.W PyProof.Rows PySem.Spec PySem.Calls
def CntIs (cnt : List Value) (p : Nat) : Prop := (p = 0 ∧ cnt = []) ∨ (0 < p ∧ ∃ tk, cnt = [.int (p : Int) tk])
def WsIs (w : World) (l : List (Addr × Obj)) (x : Addr) (t b : Nat) : Prop :=
  ∃ (d nm ct : Addr) (cnt : List Value) (vr vn vs : Value) (kr kn knt knm ks tt tb' : Tok),
    l = [(nm, ({ cls := .type "tuple", data := .seq #[.ref ct, .int (b : Int) tb'] } : Obj)), (ct, ({ cls := .type "tuple", data := .seq cnt.toArray } : Obj)), (x, instObj 100 d),
      (d, dictOf [{ hash := PyData.keyHash w.params (Str.ofString "raw"), key := .str (Str.ofString "raw") kr, val := vr }, { hash := PyData.keyHash w.params (Str.ofString "n"), key := .str (Str.ofString "n") kn, val := vn },
        { hash := PyData.keyHash w.params (Str.ofString "nt"), key := .str (Str.ofString "nt") knt, val := .int (t : Int) tt }, { hash := PyData.keyHash w.params (Str.ofString "norm"), key := .str (Str.ofString "norm") knm, val := .ref nm },
        { hash := PyData.keyHash w.params (Str.ofString "is_simple"), key := .str (Str.ofString "is_simple") ks, val := vs }] 5)] ∧ cnt.length ≤ 1
def WsJ (w : World) (x d i' : Addr) (v : Str) (tv : Tok) (t b : Nat) (r : List Nat) (m : Str → Option Value) (news : List (Addr × Obj)) : Prop :=
  ∃ (i j : Nat) (ca : Addr) (cnt : List Value) (e : Nat) (tr : Tok), r = List.replicate i 9 ++ List.replicate j 32 ∧ i ≤ t ∧ j ≤ b ∧ (i ≠ 0 → j = b) ∧ CntIs cnt (t - i) ∧
    (ca, ({ cls := .type "list", data := .seq cnt.toArray e } : Obj)) ∈ news ∧ (x, instObj 100 d) ∈ news ∧ (d, dictOf [{ hash := PyData.keyHash w.params (Str.ofString "raw"), key := .str (Str.ofString "raw") tr, val := .str v tv }] 1) ∈ news ∧
    @Ne Nat ca d ∧
    m (Str.ofString "self") = some (.ref x) ∧ m (Str.ofString "S") = some (.str (Str.ofString " ") 304) ∧ m (Str.ofString "T") = some (.str (Str.ofString "\t") 305) ∧ m (Str.ofString "count") = some (.ref ca) ∧
    (∃ t1, m (Str.ofString "b") = some (.int ((b - j : Nat) : Int) t1)) ∧ (∃ t1, m (Str.ofString "n") = some (.int ((t - i + (b - j) : Nat) : Int) t1)) ∧ (∃ t1, m (Str.ofString "nt") = some (.int ((t - i : Nat) : Int) t1))
set_option maxRecDepth 100000 in
set_option maxHeartbeats 8000000 in
theorem ws_c {w : World} {mean : ExcName → Option Value} {mg mb : Str → Option Value} {dp un : Nat} {gd : Option (List Code)} {cn : Str} {cs : Scope} {a : Addr} {ccd : Value} {cl : List (Str × Addr)} {outer : List Env} {A₀ : Around} {base h₀ : Heap} {L : Addr} {m : Str → Option Value} {s : Shared} {Q E : Value → Shared → Prop}
  (B : Below A₀ base outer h₀) (F : Fr h₀ L s.heap m) (X : (heapK w.params).In h₀)
  (T : Top viewK LS mean mg mb h₀) (hk : cs.kind = .function)
  (v : Str) (tv : Tok) (t b : Nat) (hv : v = tb t b) (ht : t ≤ 4) (hb : b ≤ 8)
  (hd' : dp + 4 < recursionLimit) (hu : un + 60 < cLine)
  (ret : ∀ x h' tk' l, (∀ b o, s.heap.get? b = some o → h'.get? b = some o) → WsIs w l x t b → (∀ p ∈ l, h'.get? p.1 = some p.2 ∧ @LE.le Nat _ s.heap.objs.size p.1) → Q (.ref x) {s with heap := h', toks := tk'}) :
  wpAny (model PySem.Challenge.rw_pg0308_01.row.prog w) (ktrTop dp un gd cn cs L a ccd cl outer) (call (.ref 100) [.str v tv]) Q E s := by
  k_with_none
  have hasc : v.cps.all (· < 128) = true := by
    subst hv
    simp only [tb, List.all_toArray, List.all_append, List.all_replicate]
    simp
  k_with "eval Name" => (k_here; k_dflt (refine' ld ?k1 ?k2 ?_; (case k1 => k_asm); (case k2 => assumption); k_whole))
  k_with "exec For Name Attribute cons nil" => (k_here; (rename Fr _ _ _ _ => lF'); (with_unfolding_all refine' For_turns lF' ?_; k_whole))
  k_with "pyIter str" => ((rename Fr _ _ _ _ => lF'); (rename News _ _ _ _ => lN'); (with_unfolding_all refine iter_strTurns hasc (by intro _ _; rfl) (by rfl) lF' lN' ?_); clear lF' lN'; intro i' l1; (try k_lt l1))
  revert X
  k_fill
  intro X
  have N : News h₀ L s.heap [] := News.nil
  k_dflt (refine' call_clsG ?k1 ?k2 ?k4 ?k5 ?k6 ?_; (case k1 => k_asm); (case k2 => k_asm); (case k4 => k_is); (case k5 => k_is); (case k6 => k_is); k_whole)
  intro x' d' h' F' N' hlt kS hsz
  replace hlt := ltN hlt
  clear N
  k_dflt walk_at "ME enter"
  rename GSub _ _ _ => kG
  (try dsimp only); (try k_fold)
  k_steps
  rename_i i' l1
  have hlt2 := hlt
  have K1 := keep_two kS kG (none_of_le (by show s.heap.objs.size ≤ x'; exact Nat.le_of_lt (Nat.lt_of_le_of_lt hsz hlt2))) (none_of_le hsz)
  refine str_ind (WsJ w x' d' i' v tv t b) ?turn ?fin _ _ _ ?h0
  case h0 =>
    refine ⟨t, b, _, [], _, _, by subst hv; rfl, Nat.le_refl _, Nat.le_refl _, fun _ => rfl, .inl ⟨by omega, rfl⟩, by k_mem, by k_mem, by k_mem, by k_ne, rfl, rfl, rfl, rfl, ?_, ?_, ?_⟩
    all_goals (simp only [Nat.sub_self]; exact ⟨_, rfl⟩)
  case turn =>
    rintro c r u m news h tk o ⟨i, j, ca, cnt, e, tr, hr, hi, hj, hij, hc, mc, mx, md, nc, mself, mS, mT, mcount, ⟨t1, mb⟩, ⟨t2, mn⟩, ⟨t3, mnt⟩⟩ F2 ho N2
    have N3 := news_sub (b := [(i', o), (ca, { cls := .type "list", data := .seq cnt.toArray e }), (x', instObj 100 d'), (d', dictOf [{ hash := PyData.keyHash w.params (Str.ofString "raw"), key := .str (Str.ofString "raw") tr, val := .str v tv }] 1)]) N2 (by
      intro p hp
      simp only [List.mem_cons, List.not_mem_nil, or_false] at hp ⊢
      rcases hp with rfl | rfl | rfl | rfl <;> simp [mc, mx, md])
    have ne1 := news_ne (a := i') (b := ca) N3 (List.Mem.head _) (List.Mem.tail _ (List.Mem.head _)) ho rfl (by decide)
    have ne2 := news_ne' (a := ca) (b := x') N3 (List.Mem.tail _ (List.Mem.head _)) (List.Mem.tail _ (List.Mem.tail _ (List.Mem.head _))) (by simp)
    clear N2 mc mx md
    have hcase : (i ≠ 0 ∧ c = 9 ∧ r = List.replicate (i - 1) 9 ++ List.replicate j 32) ∨ (i = 0 ∧ j ≠ 0 ∧ c = 32 ∧ r = List.replicate (j - 1) 32) := by
      cases i with
      | zero =>
        cases j with
        | zero => simp at hr
        | succ j => simp only [List.replicate_zero, List.nil_append, List.replicate_succ, List.cons.injEq] at hr; exact .inr ⟨rfl, by simp, hr.1, by simpa using hr.2⟩
      | succ i => simp only [List.replicate_succ, List.cons_append, List.cons.injEq] at hr; exact .inl ⟨by simp, hr.1, by simpa using hr.2⟩
    clear hr
    rcases hcase with ⟨h0, rfl, rfl⟩ | ⟨rfl, h0, rfl, rfl⟩
    · have hjb := hij h0
      subst hjb
      rw [Nat.sub_self] at mb mn
      rcases hc with ⟨hp, rfl⟩ | ⟨hp, tk0, rfl⟩
      · rw [hp] at mn mnt
        k_steps
        refine turn_end3 (x := x') (d := d') (by assumption) (by assumption) (by k_mem) (List.Mem.head _) (by k_mem) (by k_mem) (by k_ne) (by k_ne) (by k_ne) ?_
        exact ⟨i - 1, j, _, _, _, _, rfl, by omega, by omega, fun _ => rfl, .inr ⟨by omega, _, by rw [show t - (i - 1) = 1 from by omega] <;> rfl⟩, by k_mem, by k_mem, by k_mem, by k_ne, mself, mS, mT, rfl, int_at rfl (by omega), int_at rfl (by omega), int_at rfl (by omega)⟩
      · k_steps
        refine turn_end3 (x := x') (d := d') (by assumption) (by assumption) (by k_mem) (List.Mem.tail _ (List.Mem.head _)) (by k_mem) (by k_mem) (by k_ne) (by k_ne) (by k_ne) ?_
        exact ⟨i - 1, j, _, _, _, _, rfl, by omega, by omega, fun _ => rfl, .inr ⟨by omega, _, by rw [show ((t - (i - 1) : Nat) : Int) = ((t - i : Nat) : Int) + 1 from by omega] <;> rfl⟩, by k_mem, by k_mem, by k_mem, by k_ne, mself, mS, mT, mcount, int_at rfl (by omega), int_at rfl (by omega), int_at rfl (by omega)⟩
    · k_steps
      refine turn_end3 (x := x') (d := d') (by assumption) (by assumption) (by k_mem) (List.Mem.tail _ (List.Mem.head _)) (by k_mem) (by k_mem) (by k_ne) (by k_ne) (by k_ne) ?_
      exact ⟨0, j - 1, _, _, _, _, rfl, by omega, by omega, fun h => absurd rfl h, hc, by k_mem, by k_mem, by k_mem, by k_ne, mself, mS, mT, mcount, int_at rfl (by omega), int_at rfl (by omega), int_at mnt rfl⟩
  case fin =>
    rintro m news h tk ⟨i, j, ca, cnt, e, tr, hr, hi, hj, hij, hc, mc, mx, md, nc, mself, mS, mT, mcount, ⟨t1, mb⟩, ⟨t2, mn⟩, ⟨t3, mnt⟩⟩ F2 N2
    have N3 := news_sub (b := [(ca, { cls := .type "list", data := .seq cnt.toArray e }), (x', instObj 100 d'), (d', dictOf [{ hash := PyData.keyHash w.params (Str.ofString "raw"), key := .str (Str.ofString "raw") tr, val := .str v tv }] 1)]) N2 (by
      intro p hp
      simp only [List.mem_cons, List.not_mem_nil, or_false] at hp ⊢
      rcases hp with rfl | rfl | rfl <;> simp [mc, mx, md])
    have ne2 := news_ne' (a := ca) (b := x') N3 (List.Mem.head _) (List.Mem.tail _ (List.Mem.head _)) (by simp)
    clear N2 mc mx md
    have hz : i = 0 ∧ j = 0 := by
      have := congrArg List.length hr
      simp at this
      omega
    obtain ⟨rfl, rfl⟩ := hz
    clear hr
    simp only [Nat.sub_zero] at hc mb mn mnt
    rcases hc with ⟨hp, rfl⟩ | ⟨hp, tk0, rfl⟩
    · subst hp
      dsimp only
      k_steps
      rename News _ _ _ _ => kN1
      clear kN1
      rename News _ _ _ _ => N9
      have N8 := news_sub N9 (b := [_, _, (x', _), (d', _)]) (by
        intro p hp
        simp only [List.mem_cons, List.not_mem_nil, or_false] at hp ⊢
        rcases hp with rfl | rfl | rfl | rfl
        · exact .inl rfl
        · exact .inr (.inl rfl)
        · exact .inr (.inr (.inr (.inl rfl)))
        · exact .inr (.inr (.inr (.inr rfl))))
      exact ret _ _ _ _ (fun b o e => Fr.keep (by assumption) b o (K1 b o e)) ⟨_, _, _, _, _, _, _, _, _, _, _, _, _, _, rfl, by simp⟩ (new_four N8 (by omega) (by omega) (by omega) (by omega))
    · dsimp only
      k_steps
      rename News _ _ _ _ => kN1
      clear kN1
      rename News _ _ _ _ => N9
      have N8 := news_sub N9 (b := [_, _, (x', _), (d', _)]) (by
        intro p hp
        simp only [List.mem_cons, List.not_mem_nil, or_false] at hp ⊢
        rcases hp with rfl | rfl | rfl | rfl
        · exact .inl rfl
        · exact .inr (.inl rfl)
        · exact .inr (.inr (.inr (.inl rfl)))
        · exact .inr (.inr (.inr (.inr rfl))))
      exact ret _ _ _ _ (fun b o e => Fr.keep (by assumption) b o (K1 b o e)) ⟨_, _, _, _, _, _, _, _, _, _, _, _, _, _, rfl, by simp⟩ (new_four N8 (by omega) (by omega) (by omega) (by omega))
end
section
open PySem PySem.W PyProof.Rows PySem.Spec PySem.Calls
set_option maxRecDepth 100000 in
set_option maxHeartbeats 8000000 in
theorem il_c {w : World} {mean : ExcName → Option Value} {mg mb : Str → Option Value} {dp un : Nat} {gd : Option (List Code)} {cn : Str} {cs : Scope} {a : Addr} {ccd : Value} {cl : List (Str × Addr)} {outer : List Env} {A₀ : Around} {base h₀ : Heap} {L : Addr} {m : Str → Option Value} {s : Shared} {Q E : Value → Shared → Prop}
  (B : Below A₀ base outer h₀) (F : Fr h₀ L s.heap m) (X : (heapK w.params).In h₀)
  (T : Top viewK LS mean mg mb h₀) (hk : cs.kind = .function)
  (l : List (Addr × Obj)) (x : Addr) (t b : Nat) (k : Int) (u : Tok) (hl : WsIs w l x t b) (N0 : News h₀ L s.heap l) (ht : t ≤ 4) (hb : b ≤ 8) (hk1 : 1 ≤ k) (hk7 : k ≤ 7)
  (hd' : dp + 4 < recursionLimit) (hu : un + 60 < cLine)
  (ret : ∀ u' h' tk', (∀ b o, s.heap.get? b = some o → h'.get? b = some o) → Q (.int ((b : Int) + k * (t : Int)) u') {s with heap := h', toks := tk'}) :
  wpAny (model PySem.Challenge.rw_pg0308_01.row.prog w) (ktrTop dp un gd cn cs L a ccd cl outer) (call (.ref 69) [.ref x, .int k u]) Q E s := by
  k_with_none
  k_with "pyIter ref" => ((rename Fr _ _ _ _ => lF'); (rename News _ _ _ _ => lN'); (with_unfolding_all refine iter_range0 (by rfl) (by assumption) (by omega) (by omega) (by omega) (by omega) lF' lN' ?_); clear lF' lN'; intro h' tk' F' N')
  revert X
  k_fill
  intro X
  obtain ⟨d, nm, ct, cnt, vr, vn, vs, kr, kn, knt, knm, ks, tt, tb', rfl, hcnt⟩ := hl
  have hcnt' : cnt = [] ∨ ∃ v0, cnt = [v0] := by
    match cnt, hcnt with
    | [], _ => exact .inl rfl
    | [v0], _ => exact .inr ⟨v0, rfl⟩
  rcases hcnt' with rfl | ⟨v0, rfl⟩
  all_goals (
  refine wpAny_call ?_
  k_dflt walk_at "ME enter"
  rename GSub _ _ _ => kG
  (try dsimp only); (try k_fold)
  k_steps)
  all_goals (
    refine ret_int ret ?e ?k
    case e => simp only [Int.zero_add]
    case k => exact keep_all kG N0 (by assumption) (by assumption) (by simp))
theorem il_use {w : World} {mean : ExcName → Option Value} {mg mb : Str → Option Value} {dp un : Nat} {gd : Option (List Code)} {cn : Str} {cs : Scope} {a : Addr} {ccd : Value} {cl : List (Str × Addr)} {outer : List Env} {A₀ : Around} {base h₀ : Heap} {L : Addr} {m : Str → Option Value} {s : Shared} {Q E : Value → Shared → Prop} {news : List (Addr × Obj)} {x d nm ct : Addr} {t b : Nat} {k : Int} {u : Tok} {cnt : List Value} {vr vn vs : Value} {kr kn knt knm ks tt tb' : Tok}
  (B : Below A₀ base outer h₀) (F : Fr h₀ L s.heap m) (X : (heapK w.params).In h₀) (T : Top viewK LS mean mg mb h₀) (hk : cs.kind = .function) (N : News h₀ L s.heap news)
  (m1 : (x, instObj 100 d) ∈ news) (m2 : (d, dictOf [{ hash := PyData.keyHash w.params (Str.ofString "raw"), key := .str (Str.ofString "raw") kr, val := vr }, { hash := PyData.keyHash w.params (Str.ofString "n"), key := .str (Str.ofString "n") kn, val := vn },
        { hash := PyData.keyHash w.params (Str.ofString "nt"), key := .str (Str.ofString "nt") knt, val := .int (t : Int) tt }, { hash := PyData.keyHash w.params (Str.ofString "norm"), key := .str (Str.ofString "norm") knm, val := .ref nm },
        { hash := PyData.keyHash w.params (Str.ofString "is_simple"), key := .str (Str.ofString "is_simple") ks, val := vs }] 5) ∈ news)
  (m3 : (nm, ({ cls := .type "tuple", data := .seq #[.ref ct, .int (b : Int) tb'] } : Obj)) ∈ news) (m4 : (ct, ({ cls := .type "tuple", data := .seq cnt.toArray } : Obj)) ∈ news) (hcnt : cnt.length ≤ 1)
  (ht : t ≤ 4) (hb : b ≤ 8) (hk1 : 1 ≤ k) (hk7 : k ≤ 7) (hd' : dp + 4 < recursionLimit) (hu : un + 60 < cLine)
  (ret : ∀ u' h' tk', (∀ b o, s.heap.get? b = some o → h'.get? b = some o) → Q (.int ((b : Int) + k * (t : Int)) u') {s with heap := h', toks := tk'}) :
  wpAny (model PySem.Challenge.rw_pg0308_01.row.prog w) (ktrTop dp un gd cn cs L a ccd cl outer) (call (.ref 69) [.ref x, .int k u]) Q E s :=
  il_c B F X T hk _ x t b k u ⟨d, nm, ct, cnt, vr, vn, vs, kr, kn, knt, knm, ks, tt, tb', rfl, hcnt⟩ (news_sub N (by
    intro p hp
    simp only [List.mem_cons, List.not_mem_nil, or_false] at hp
    rcases hp with rfl | rfl | rfl | rfl
    · exact m3
    · exact m4
    · exact m1
    · exact m2)) ht hb hk1 hk7 hd' hu ret
end
section
open PySem PySem.W PyProof.Rows PySem.Spec PySem.Calls
local macro_rules | `(tactic| k_all) => `(tactic| assumption)
local macro_rules | `(tactic| walk_at "ME ws") => `(tactic| ((with_reducible show wpAny _ _ (call (Value.ref 100) _) _ _ _); k_dflt ((rename Fr _ _ _ _ => lF'); (rename News _ _ _ _ => lN'); (refine' ws_c ?k1 lF' ?k3 ?k4 ?k5 _ _ _ _ rfl ?a1 ?a2 ?a3 ?a4 ?kr; (case k1 => k_asm); (case k3 => k_asm); (case k4 => k_asm); (case k5 => exact rfl); (case a1 => assumption); (case a2 => assumption); (case a3 => exact up1 (by assumption) (by decide)); (case a4 => exact up3 (by assumption) (by decide))); intro x9 h9 tk9 l9 kp9 hws9 hn9; (have F' := Fr.keeps lF' kp9); (have N8 := news_new lF' hn9); (have N9 := News.grown lN' kp9); (have hz9 := news_lt lN'); (k_lt hz9); clear lF' lN'; obtain ⟨d9, nm9, ct9, cnt9, vr9, vn9, vs9, kr9, kn9, knt9, knm9, ks9, tt9, tb9, hl9, hcnt9⟩ := hws9; subst hl9; (simp only [List.forall_mem_cons, List.not_mem_nil, false_implies, implies_true, and_true] at hn9); obtain ⟨⟨_, hg1⟩, ⟨_, hg2⟩, ⟨_, hg3⟩, ⟨_, hg4⟩⟩ := hn9; (have N' := News.append N8 N9); clear N8 N9 kp9; (try dsimp only at hz9 hg1 hg2 hg3 hg4); (simp only [List.cons_append, List.nil_append] at N'); (try dsimp only))))
local macro_rules | `(tactic| walk_at "ME il") => `(tactic| ((with_reducible show wpAny _ _ (call (Value.ref 69) _) _ _ _); k_dflt ((rename Fr _ _ _ _ => lF'); (rename News _ _ _ _ => lN'); (refine' il_use ?k1 lF' ?k3 ?k4 ?k5 lN' ?m1 ?m2 ?m3 ?m4 ?m5 ?a1 ?a2 ?a5 ?a6 ?a3 ?a4 ?kr; (case k1 => k_asm); (case k3 => k_asm); (case k4 => k_asm); (case k5 => exact rfl); (case m1 => k_mem); (case m2 => k_mem); (case m3 => k_mem); (case m4 => k_mem); (case m5 => assumption); (case a1 => assumption); (case a2 => assumption); (case a5 => assumption); (case a6 => exact le7 (by assumption) (by assumption) (by assumption)); (case a3 => exact up1 (by assumption) (by decide)); (case a4 => exact up3 (by assumption) (by decide))); intro u9 h9 tk9 kp9; (have F' := Fr.keeps lF' kp9); (have N' := News.grown lN' kp9); clear lF' lN' kp9; (try dsimp only))))
local macro_rules | `(tactic| walk_at "ME put") => `(tactic| (k_here; k_dflt (refine' kda_set (knd := PySem.strKind _ _) ?F ?N ?U ?d (strKind_is _ _ _ _) ?z ?_; (case F => k_asm); (case N => k_asm); (case U => k_updF); (case d => k_asm); (case z => rw [sizeLine_eq]; exact Nat.le_trans (by assumption) (by decide))); intro h' o' F' N' hd'; (try dsimp only at N')))
local macro_rules | `(tactic| walk_at "ME name") => `(tactic| (k_here; k_dflt (refine' nameX_L ?F ?v ?_ ?a ?b; (case F => k_asm); (case a => rfl); (case b => rfl); (case v => assumption); k_whole)))
def colOf (p : Pr) (sz : Int) : List Int := (rangeKs 1 sz.toNat).map fun k => (p.b : Int) + k * (p.t : Int)
def ColsIn (cols : List (Addr × Obj)) (sz : Int) : List Pr → List (Str × Value) → Prop
  | [], [] => True
  | p :: ps, kv :: r => (kv.1 = p.nm ∧ ∃ (l : Addr) (vs : List Value) (e : Nat), kv.2 = .ref l ∧ (l, ({ cls := .type "list", data := .seq vs.toArray e } : Obj)) ∈ cols ∧ IntsAre vs (colOf p sz)) ∧ ColsIn cols sz ps r
  | _, _ => False
theorem ColsIn.length {cols : List (Addr × Obj)} {sz : Int} : ∀ {ps : List Pr} {kvs : List (Str × Value)}, ColsIn cols sz ps kvs → kvs.map (·.1) = ps.map Pr.nm
  | [], [], _ => rfl
  | [], _ :: _, h => (show False from h).elim
  | _ :: _, [], h => (show False from h).elim
  | p :: ps, kv :: r, h => by rw [List.map_cons, List.map_cons, h.1.1, ColsIn.length h.2]
theorem ColsIn.snoc {cols cols' : List (Addr × Obj)} {sz : Int} (hs : ∀ p ∈ cols, p ∈ cols') {p : Pr} {kv : Str × Value} (hp : kv.1 = p.nm ∧ ∃ (l : Addr) (vs : List Value) (e : Nat), kv.2 = .ref l ∧ (l, ({ cls := .type "list", data := .seq vs.toArray e } : Obj)) ∈ cols' ∧ IntsAre vs (colOf p sz)) :
    ∀ {ps : List Pr} {kvs : List (Str × Value)}, ColsIn cols sz ps kvs → ColsIn cols' sz (ps ++ [p]) (kvs ++ [kv])
  | [], [], _ => ⟨hp, trivial⟩
  | [], _ :: _, h => (show False from h).elim
  | _ :: _, [], h => (show False from h).elim
  | q :: ps, kv :: r, h => ⟨⟨h.1.1, by obtain ⟨l, vs, e, a, b, c⟩ := h.1.2; exact ⟨l, vs, e, a, hs _ b, c⟩⟩, ColsIn.snoc hs hp h.2⟩
theorem valueAt_absent {kvs : List (Str × Value)} {k : Str} (h : k ∉ kvs.map (·.1)) : valueAt kvs k = none := by
  unfold valueAt
  rw [Option.map_eq_none_iff, List.find?_eq_none]
  intro x hx e
  exact h (List.mem_map.mpr ⟨x, hx, of_decide_eq_true e⟩)
theorem off1_mem {D : Addr} : ∀ {l : List (Addr × Obj)}, LCg.Off1 D l → ∀ q ∈ l, @Ne Nat q.1 D
  | [], _, _, hq => (nomatch hq)
  | _ :: _, h, _, hq => by
    rcases List.mem_cons.mp hq with rfl | hq
    · exact h.1
    · exact off1_mem h.2 _ hq
def ColJ (w : World) (D lc pl : Addr) (lo : Obj) (prs : List Pr) (sz : Int) (u : Tok) (r : List Value) (m : Str → Option Value) (news : List (Addr × Obj)) : Prop :=
  ∃ (ps qs : List Pr) (kvs : List (Str × Value)) (oD oC : Obj) (v : Option Value) (cols : List (Addr × Obj)), prs = ps ++ qs ∧ r = qs.map Pr.ref ∧ news = (D, oD) :: (lc, oC) :: (pl, lo) :: cols ∧
    Obj.IsDictOf (PySem.strKind PySem.Challenge.rw_pg0308_01.row.prog w) oD kvs ∧ oC.data = .cell v ∧ ColsIn cols sz ps kvs ∧ (∀ p ∈ cols, p.1 ≠ D) ∧ (∀ p ∈ cols, p.1 ≠ lc) ∧ (∀ p ∈ cols, p.1 ≠ pl) ∧ (∀ p ∈ cols, p.2.cls = .type "list") ∧
    m (Str.ofString "columns") = some (.ref D) ∧ m (Str.ofString "sizes") = some (.int sz u)
set_option maxRecDepth 100000 in
set_option maxHeartbeats 8000000 in
theorem col_c {w : World} {mean : ExcName → Option Value} {mg mb : Str → Option Value} {dp un : Nat} {gd : Option (List Code)} {cn : Str} {cs : Scope} {a : Addr} {ccd : Value} {cl : List (Str × Addr)} {outer : List Env} {A₀ : Around} {base h₀ : Heap} {L : Addr} {m : Str → Option Value} {s : Shared} {Q E : Value → Shared → Prop}
  (B : Below A₀ base outer h₀) (F : Fr h₀ L s.heap m) (X : (heapK w.params).In h₀)
  (T : Top viewK LS mean mg mb h₀) (hk : cs.kind = .function)
  (pl : Addr) (prs : List Pr) (e : Nat) (sz : Int) (u : Tok) (N0 : News h₀ L s.heap [(pl, ({ cls := .type "list", data := .seq (prs.map Pr.ref).toArray e } : Obj))]) (hprs : ∀ p ∈ prs, s.heap.get? p.a = some p.obj) (hne : ∀ p ∈ prs, p.a ≠ pl)
  (htb : ∀ p ∈ prs, p.t ≤ 4 ∧ p.b ≤ 8) (hn : prs.length ≤ 6) (hnd : (prs.map Pr.nm).Nodup) (hs3 : 3 ≤ sz) (hs7 : sz ≤ 7)
  (hd' : dp + 8 < recursionLimit) (hu : un + 100 < cLine)
  (ret : ∀ D h' tk' kvs cols, (∀ b o, s.heap.get? b = some o → h'.get? b = some o) → h'.DictOf (PySem.strKind PySem.Challenge.rw_pg0308_01.row.prog w) D kvs → s.heap.get? D = none → ColsIn cols sz prs kvs → (∀ p ∈ cols, h'.get? p.1 = some p.2 ∧ s.heap.get? p.1 = none ∧ p.2.cls = .type "list") → (∀ p ∈ cols, p.1 ≠ D) → Q (.ref D) {s with heap := h', toks := tk'}) :
  wpAny (model PySem.Challenge.rw_pg0308_01.row.prog w) (ktrTop dp un gd cn cs L a ccd cl outer) (call (.ref 274) [.ref pl, .int sz u]) Q E s := by
  k_with_none
  k_with "exec For Tuple Name cons nil" => (k_here; (rename Fr _ _ _ _ => lF'); (with_unfolding_all refine' For_turns lF' ?_; k_whole))
  k_with "pyIter ref" => ((rename Fr _ _ _ _ => lF'); (rename News _ _ _ _ => lN'); (with_unfolding_all refine iter_listTurns (vs := prs.map Pr.ref) (by rfl) lF' lN' (by k_mem) (by rfl) (by rfl) ?_); clear lF' lN'; intro i' l1; (try k_lt l1))
  k_with "eval Name" => walk_at "ME name"
  k_with "call ref" => walk_at "ME ws"
  k_with "call ref" => walk_at "ME il"
  k_with "setItem ref str" => walk_at "ME put"
  revert X
  k_fill
  intro X
  refine wpAny_call ?_
  k_dflt walk_at "ME enter"
  rename GSub _ _ _ => kG
  (try dsimp only); (try k_fold)
  k_steps
  rename Addr => iA
  rename_i g1 L1 h1 tk1 FG1 B1 X1 T1 l0 o1 d1 D1 h2 o2 lo2 hs2 fs2 hi2 fi2 l2 h3
  refine val_ind (ColJ w D1 (L1 + 1) pl { cls := .type "list", data := .seq (prs.map Pr.ref).toArray e } prs sz u) ?hk ?turn ?fin _ _ _ ?h0
  case h0 =>
    exact ⟨[], prs, [], _, _, _, [], rfl, rfl, rfl, by assumption, by assumption, trivial, by simp, by simp, by simp, by simp, rfl, rfl⟩
  case hk =>
    rintro l m n ⟨ps, qs, kvs, oD, oC, v, cols, h1, h2, rfl, hr⟩
    exact ⟨by k_mem, trivial⟩
  case turn =>
    rintro c r m news h tk o ⟨ps, qs, kvs, oD, oC, v, cols, h1, h2, rfl, hD, hC, hcols, n1, n2, n3, ncl, mcol, msz⟩ F2 ho N2
    cases qs with
    | nil => simp at h2
    | cons p qs =>
    simp only [List.map_cons, List.cons.injEq] at h2
    obtain ⟨rfl, rfl⟩ := h2
    have hpm : p ∈ prs := by rw [h1]; simp
    have hT : IsTup h p.a #[.str p.nm p.tn, .str (tb p.t p.b) p.tv] := ⟨_, F2.keep _ _ (kG _ _ (hprs p hpm) (by simp [hne p hpm])), rfl, _, rfl⟩
    obtain ⟨ht4, hb8⟩ := htb p hpm
    have hlen : kvs.length ≤ 6 := by
      have e1 := congrArg List.length hcols.length
      have e2 := congrArg List.length h1
      simp only [List.length_map, List.length_append, List.length_cons] at e1 e2
      omega
    unfold Pr.ref
    k_steps
    rename_i g8 ys I8 L8 D8 hh8 tk8 FF8 NN8 nD8 h8 o8 F8 N8 hd8
    have hnm : valueAt kvs p.nm = none := by
      refine valueAt_absent fun hc => ?_
      rw [hcols.length] at hc
      rw [h1, List.map_append, List.map_cons] at hnd
      exact (List.nodup_append.mp hnd).2.2 _ hc _ (List.mem_cons_self ..) rfl
    rw [PyProof.Rows.stored_absent hnm] at hd8
    have hcl : ∀ q ∈ cols, q.1 ≠ D8 := off1_mem nD8.2.2.2.2.2.2.2.2
    refine turn_end ((D1, o8) :: (L1 + 1, _) :: (pl, _) :: (D8, LCg.lst ys) :: cols) F8 N8 (by k_mem) ?_ ?_ ⟨ps ++ [p], qs, kvs ++ [(p.nm, .ref D8)], o8, _, _, (D8, LCg.lst ys) :: cols, ?_, rfl, rfl, hd8, by assumption, ?_, ?_, ?_, ?_, ?_, ?_, ?_⟩
    · refine List.forall_mem_cons.mpr ⟨by k_mem, List.forall_mem_cons.mpr ⟨by k_mem, List.forall_mem_cons.mpr ⟨by k_mem, List.forall_mem_cons.mpr ⟨by k_mem, fun q hq => ?_⟩⟩⟩⟩
      repeat (first | exact hq | apply List.mem_cons_of_mem)
    · refine List.forall_mem_cons.mpr ⟨Nat.ne_of_lt l1.1, List.forall_mem_cons.mpr ⟨Nat.ne_of_lt l1.2.1, List.forall_mem_cons.mpr ⟨Nat.ne_of_lt l1.2.2, List.forall_mem_cons.mpr ⟨Ne.symm nD8.2.2.2.2.1, fun q hq => ?_⟩⟩⟩⟩
      refine news_ne (o := q.2) N8 (by repeat (first | exact hq | apply List.mem_cons_of_mem)) (by k_mem) (ncl q hq) ho (by decide)
    · rw [h1, List.append_assoc]; rfl
    · refine ColsIn.snoc (fun q hq => .tail _ hq) ⟨rfl, D8, ys, _, rfl, .head _, ?_⟩ hcols
      have e9 : (sz + 1 - 1).toNat = sz.toNat := by congr 1; omega
      rw [e9] at I8
      exact I8
    · exact List.forall_mem_cons.mpr ⟨Ne.symm nD8.2.2.2.2.2.1, n1⟩
    · exact List.forall_mem_cons.mpr ⟨Ne.symm nD8.2.2.2.2.2.2.1, n2⟩
    · exact List.forall_mem_cons.mpr ⟨Ne.symm nD8.2.2.2.2.2.2.2.1, n3⟩
    · exact List.forall_mem_cons.mpr ⟨rfl, ncl⟩
    · dsimp only; rw [if_neg (by decide), if_neg (by decide)]; exact mcol
    · dsimp only; rw [if_neg (by decide), if_neg (by decide)]; exact msz
  case fin =>
    rintro m news h tk ⟨ps, qs, kvs, oD, oC, v, cols, h1, h2, rfl, hD, hC, hcols, n1, n2, n3, ncl, mcol, msz⟩ F2 N2
    cases qs with
    | cons p qs => simp at h2
    | nil =>
    rw [List.append_nil] at h1
    subst h1
    k_steps
    have kA := keep_all kG N0 F2 N2 (by simp)
    have kn : ∀ q ∈ (D1, oD) :: cols, q.1 ≠ pl → s.heap.get? q.1 = none := fun q hq hp => by
      have hm : q ∈ (D1, oD) :: (L1 + 1, oC) :: (pl, { cls := .type "list", data := .seq (prs.map Pr.ref).toArray e }) :: cols := by
        rcases List.mem_cons.mp hq with rfl | hq
        · exact .head _
        · exact .tail _ (.tail _ (.tail _ hq))
      cases ee : s.heap.get? q.1 with
      | none => rfl
      | some o =>
        have := kG _ _ ee (by simpa using hp)
        rw [(N2 q hm).2.2] at this
        cases this
    refine ret D1 h tk kvs cols kA (Heap.dictOf_iff.mpr ⟨oD, (N2 _ (.head _)).1, hD⟩) (kn _ (.head _) (Ne.symm (Nat.ne_of_lt l2.2))) hcols (fun q hq => ⟨(N2 q (.tail _ (.tail _ (.tail _ hq)))).1, kn _ (.tail _ hq) (n3 _ hq), ncl q hq⟩) n1
end
section
open PySem PySem.W PyProof.Rows PySem.Spec PySem.Calls
theorem keep_gen {h h1 g H' h₀ : Heap} {L L' : Addr} {m' : Str → Option Value} {news news' : List (Addr × Obj)} (kS : ∀ b o, h.get? b = some o → h1.get? b = some o) (G : GSub h1 g (news.map (·.1))) (N : News h₀ L h1 news) (F' : Fr g L' H' m') (N' : News g L' H' news')
    (hs : ∀ p ∈ news, h.get? p.1 = none ∨ p ∈ news') : ∀ b o, h.get? b = some o → H'.get? b = some o := fun b o e => by
  by_cases hb : b ∈ news.map (·.1)
  · obtain ⟨p, hp, rfl⟩ := List.mem_map.mp hb
    rcases hs p hp with h1 | h1
    · rw [h1] at e; cases e
    · have e1 := (N' p h1).1
      have e2 := (N p hp).1
      have e3 := kS _ _ e
      rw [e1, ← e2, e3]
  · exact F'.keep _ _ (G _ _ (kS _ _ e) hb)
theorem up1b {dp r n k : Nat} (h : dp + n < r) (e : 2 + k ≤ n) : dp + 1 + 1 + k < r := by omega
theorem up3b {un c n k : Nat} (h : un + n < c) (e : 4 + k ≤ n) : un + 1 + 3 + k < c := by omega
theorem none_of_le' {h : Heap} {b : Addr} (hb : @LE.le Nat _ h.objs.size b) : h.get? b = none := none_of_le hb
def Good (p : Pr) : Prop := (∃ c, p.nm = ⟨#[c]⟩ ∧ 65 ≤ c ∧ c ≤ 70) ∧ p.t ≤ 4 ∧ p.b ≤ 8
theorem Good.plain {p : Pr} (h : Good p) : Plain true p.nm ∧ p.nm.cps.size ≤ 4096 := by
  obtain ⟨⟨c, e, h1, h2⟩, _⟩ := h
  rw [e]
  refine ⟨fun x hx => ?_, by simp⟩
  simp only [List.mem_singleton] at hx
  subst hx
  omega
theorem Good.plainV {p : Pr} (h : Good p) : Plain false (tb p.t p.b) ∧ (tb p.t p.b).cps.size ≤ 4096 := by
  obtain ⟨_, h1, h2⟩ := h
  unfold tb
  refine ⟨fun x hx => ?_, by simp; omega⟩
  simp only [List.mem_append, List.mem_replicate] at hx
  rcases hx with ⟨_, rfl⟩ | ⟨_, rfl⟩
  · exact ⟨by decide, .inr ⟨rfl, rfl⟩⟩
  · exact ⟨by decide, .inl (by decide)⟩
local macro_rules | `(tactic| walk_at "ME conv") => `(tactic| ((with_reducible show wpAny _ _ (call (Value.ref 164) _ _) _ _ _); k_dflt ((rename Fr _ _ _ _ => lF'); (rename News _ _ _ _ => lN'); (refine' conv_c ?k1 lF' ?k3 ?k4 ?k5 _ _ _ _ ?a1 ?a2 ?a3 ?a4 ?kr; (case k1 => k_asm); (case k3 => k_asm); (case k4 => k_asm); (case k5 => exact rfl); (case a1 => assumption); (case a2 => assumption); (case a3 => first | exact up1 (by assumption) (by decide) | exact up1b (by assumption) (by decide)); (case a4 => first | exact up3 (by assumption) (by decide) | exact up3b (by assumption) (by decide))); intro h9 tk9 kp9; (have F' := Fr.keeps lF' kp9); (have N' := News.grown lN' kp9); clear lF' lN' kp9; (try dsimp only))))
def HdDict (w : World) (pl : Addr) (kt : Tok) : Obj := dictOf [{ hash := PyData.keyHash w.params (Str.ofString "_headers"), key := .str (Str.ofString "_headers") kt, val := .ref pl }] 1
def HdJ (w : World) (x d pl : Addr) (lo : Obj) (prs : List Pr) (r : List Value) (m : Str → Option Value) (news : List (Addr × Obj)) : Prop :=
  ∃ (qs : List Pr) (kt : Tok), (∀ q ∈ qs, q ∈ prs) ∧ r = qs.map Pr.ref ∧ news = [(x, instObj 265 d), (d, HdDict w pl kt), (pl, lo)] ∧ m (Str.ofString "self") = some (.ref x)
set_option maxRecDepth 100000 in
set_option maxHeartbeats 8000000 in
theorem hd_c {w : World} {mean : ExcName → Option Value} {mg mb : Str → Option Value} {dp un : Nat} {gd : Option (List Code)} {cn : Str} {cs : Scope} {a : Addr} {ccd : Value} {cl : List (Str × Addr)} {outer : List Env} {A₀ : Around} {base h₀ : Heap} {L : Addr} {m : Str → Option Value} {s : Shared} {Q E : Value → Shared → Prop}
  (B : Below A₀ base outer h₀) (F : Fr h₀ L s.heap m) (X : (heapK w.params).In h₀)
  (T : Top viewK LS mean mg mb h₀) (hk : cs.kind = .function)
  (pl : Addr) (prs : List Pr) (e : Nat) (N0 : News h₀ L s.heap [(pl, ({ cls := .type "list", data := .seq (prs.map Pr.ref).toArray e } : Obj))]) (hprs : ∀ p ∈ prs, s.heap.get? p.a = some p.obj) (hne : ∀ p ∈ prs, p.a ≠ pl)
  (hok : ∀ p ∈ prs, Good p)
  (hd' : dp + 8 < recursionLimit) (hu : un + 100 < cLine)
  (ret : ∀ x d kt h' tk', (∀ b o, s.heap.get? b = some o → h'.get? b = some o) → h'.get? x = some (instObj 265 d) → h'.get? d = some (HdDict w pl kt) → @LE.le Nat _ s.heap.objs.size d → @LT.lt Nat _ d x → Q (.ref x) {s with heap := h', toks := tk'}) :
  wpAny (model PySem.Challenge.rw_pg0308_01.row.prog w) (ktrTop dp un gd cn cs L a ccd cl outer) (call (.ref 265) [.ref pl]) Q E s := by
  k_with_none
  k_with "exec For Tuple Name cons nil" => (k_here; (rename Fr _ _ _ _ => lF'); (with_unfolding_all refine' For_turns lF' ?_; k_whole))
  k_with "pyIter ref" => ((rename Fr _ _ _ _ => lF'); (rename News _ _ _ _ => lN'); (with_unfolding_all refine iter_listTurns (vs := prs.map Pr.ref) (by rfl) lF' lN' (by k_mem) (by rfl) (by rfl) ?_); clear lF' lN'; intro i' l1; (try k_lt l1))
  k_with "eval Name" => (k_here; k_dflt (refine' ld ?k1 ?k2 ?_; (case k1 => k_asm); (case k2 => assumption); k_whole))
  k_with "call ref" => walk_at "ME conv"
  revert X
  k_fill
  intro X
  k_dflt (refine' call_clsG ?k1 ?k2 ?k4 ?k5 ?k6 ?_; (case k1 => k_asm); (case k2 => k_asm); (case k4 => k_is); (case k5 => k_is); (case k6 => k_is); k_whole)
  intro x' d' h' F' N' hlt kS hsz
  replace hlt := ltN hlt
  have hp1 : @LT.lt Nat _ pl d' := Nat.lt_of_lt_of_le (news_lt N0 _ (.head _)) hsz
  have N2 := News.append N' (News.grown N0 kS)
  simp only [List.cons_append, List.nil_append] at N2
  clear N' 
  k_dflt walk_at "ME enter"
  rename GSub _ _ _ => kG
  (try dsimp only); (try k_fold)
  k_steps
  rename Addr => iA
  refine val_ind (HdJ w x' d' pl { cls := .type "list", data := .seq (prs.map Pr.ref).toArray e } prs) ?hk ?turn ?fin _ _ _ ?h0
  case h0 => exact ⟨prs, _, fun _ h => h, rfl, rfl, rfl⟩
  case hk =>
    rintro l m n ⟨qs, kt, h1, h2, rfl, hr⟩
    exact ⟨by k_mem, trivial⟩
  case turn =>
    rintro c r m news h tk o ⟨qs, kt, h1, h2, rfl, mself⟩ F2 ho N2
    cases qs with
    | nil => simp at h2
    | cons p qs =>
    simp only [List.map_cons, List.cons.injEq] at h2
    obtain ⟨rfl, rfl⟩ := h2
    have hpm : p ∈ prs := h1 _ (.head _)
    have hpa := hprs p hpm
    have hpl : @Ne Nat p.a pl := hne p hpm
    have hpd : @LT.lt Nat _ p.a s.heap.objs.size := Heap.lt_size hpa
    have hT : IsTup h p.a #[.str p.nm p.tn, .str (tb p.t p.b) p.tv] := ⟨_, F2.keep _ _ (kG _ _ (kS _ _ hpa) (by simp only [List.map_cons, List.map_nil, List.mem_cons, List.not_mem_nil, or_false, not_or]; exact ⟨Nat.ne_of_lt (Nat.lt_trans (Nat.lt_of_lt_of_le hpd hsz) hlt), Nat.ne_of_lt (Nat.lt_of_lt_of_le hpd hsz), hpl⟩)), rfl, _, rfl⟩
    obtain ⟨v1, v2⟩ := (hok p hpm).plain
    obtain ⟨v3, v4⟩ := (hok p hpm).plainV
    unfold Pr.ref
    unfold HdDict at N2
    k_steps
    rename Fr _ _ _ _ => F8
    rename News _ _ _ _ => N8
    refine turn_end [(x', instObj 265 d'), (d', HdDict w pl kt), (pl, { cls := .type "list", data := .seq (prs.map Pr.ref).toArray e })] F8 N8 (by k_mem) ?_ ?_ ?_
    · exact List.forall_mem_cons.mpr ⟨by k_mem, List.forall_mem_cons.mpr ⟨by unfold HdDict; k_mem, List.forall_mem_cons.mpr ⟨by k_mem, fun _ hq => nomatch hq⟩⟩⟩
    · exact List.forall_mem_cons.mpr ⟨Nat.ne_of_lt l1.1, List.forall_mem_cons.mpr ⟨Nat.ne_of_lt l1.2.1, List.forall_mem_cons.mpr ⟨Nat.ne_of_lt l1.2.2, fun _ hq => nomatch hq⟩⟩⟩
    · exact ⟨qs, kt, fun q hq => h1 _ (.tail _ hq), rfl, rfl, mself⟩
  case fin =>
    rintro m news h tk ⟨qs, kt, h1, h2, rfl, mself⟩ F2 N8
    k_steps
    refine ret x' d' kt h tk (keep_gen kS kG N2 F2 N8 ?_) (N8 _ (.head _)).1 (N8 _ (.tail _ (.head _))).1 hsz hlt
    exact List.forall_mem_cons.mpr ⟨.inl (none_of_le' (Nat.le_of_lt (Nat.lt_of_le_of_lt hsz hlt))), List.forall_mem_cons.mpr ⟨.inl (none_of_le' hsz), List.forall_mem_cons.mpr ⟨.inr (by k_mem), fun _ hq => nomatch hq⟩⟩⟩
end
section
open PySem PySem.W PyProof.Rows PySem.Spec PySem.Calls
open PySem.Sem (wp)
set_option maxRecDepth 100000
section
variable {prog : Program} {w : World} {A : Around} {E : Value → Shared → Prop} {s : Shared}
theorem setItem_all {l sl D : Addr} {items new : Array Value} {n : Nat} {Q : Unit → Shared → Prop} (ho : s.heap.get? l = some { cls := .type "list", data := .seq items n })
    (hs : s.heap.IsSliceOf sl .none .none .none) (hn : s.heap.IsList D new) (hne : l ≠ D) (hz : items.size ≤ 64) (hz2 : new.size ≤ 64)
    (hQ : ∀ h' n', h'.get? l = some { cls := .type "list", data := .seq new n' } → Heap.SameBut l s.heap h' → Q () { s with heap := h' }) :
    wpAny (model prog w) A (setItem (.ref l) (.ref sl) (.ref D)) Q E s := by
  have hl : s.heap.IsList l items := ⟨_, ho, rfl, _, rfl⟩
  obtain ⟨os, hos, hcs, hds⟩ := id hs
  obtain ⟨oD, hoD, hcD, nD, hdD⟩ := id hn
  have hTs : s.TypeIs (.ref sl) "slice" := ⟨os, hos, hcs⟩
  unfold setItem
  try with_reducible refine wpAny_holding ?_
  first | refine wpAny_bind (wpAny_pure ?_) | skip
  refine wpAny_bind (wpAny_sequenceKey hl.typeIs (by decide) ?_)
  refine wpAny_bind (wpAny_callSpecial?_slot (name := Str.ofString "__setitem__") hl.typeIs slot_list_setitem
    (wpAny_call_entry slot_list_setitem hl.typeIs entry_list_setitem ?_ (args_list_setitem _ _ _)))
  show wpAny _ _ (Builtin.List.listSubscript? (.ref sl) >>= _) _ _ s
  refine wpAny_bind ?_
  unfold Builtin.List.listSubscript?
  refine wpAny_bind (wpAny_specialOf hTs slice_no_index ?_)
  simp only [Option.isNone_none, if_true]
  refine wpAny_pure ?_
  show wpAny _ _ (typeOf (.ref sl) >>= _) _ _ s
  refine wpAny_bind (wpAny_typeOf hTs ?_)
  rw [if_neg (by decide)]
  rw [listSliceParts_eq]
  refine wpAny_bind (wpAny_bind (wpAny_field hos hds (x := .none) rfl (wpAny_bind (wpAny_listPart .none ?_))))
  rw [if_neg (by decide)]
  refine wpAny_bind (wpAny_field hos hds (x := .none) rfl (wpAny_bind (wpAny_listPart .none ?_)))
  refine wpAny_bind (wpAny_field hos hds (x := .none) rfl (wpAny_bind (wpAny_listPart .none (wpAny_pure ?_))))
  have hsame : Builtin.List.listSameRef (.ref l) (.ref D) = false := by
    show (l == D) = false
    simpa using hne
  rw [hsame]
  simp only [Bool.false_eq_true, if_false]
  unfold Builtin.List.listAllItems
  refine wpAny_bind (wpAny_bind (wpAny_typeOf hn.typeIs ?_))
  rw [if_pos (by decide)]
  unfold Builtin.List.listItems
  refine wpAny_bind (wpAny_seqItems hoD hdD (wpAny_pure ?_))
  refine wpAny_bind (m := Builtin.List.listItems (.ref l)) ?_
  unfold Builtin.List.listItems
  refine wpAny_bind (wpAny_seqItems ho rfl (wpAny_pure ?_))
  refine wpAny_bind (wpAny_of_eq (sliceIndices_raw none none none items.size (by simp)) ?_)
  dsimp only [sliceBounds, Option.getD_none]
  rw [if_pos (by decide)]
  have e1 : (if (1 : Int) > 0 then (0 : Int) else (items.size : Int) - 1) = 0 := if_pos (by decide)
  have e2 : (if (1 : Int) > 0 then (items.size : Int) else -1) = (items.size : Int) := if_pos (by decide)
  rw [e1, e2]
  have e3 : (max (0 : Int) (items.size : Int)).toNat = items.size := by omega
  rw [e3]
  refine wpAny_bind (wpAny_rule ?_)
  rw [if_neg (by unfold Builtin.List.listTooLong; rw [sizeLine_eq]; simp; omega)]
  have e4 : ∀ xs : Array Value, xs = items → xs.extract 0 (0 : Int).toNat ++ new ++ xs.extract items.size xs.size = new := fun xs e => by subst e; simp
  unfold Builtin.List.listUpdate
  refine wpAny_bind (wpAny_updateSeq ho rfl ?_ (by rw [sizeLine_eq]; omega) (by rw [e4 items rfl, sizeLine_eq]; omega))
  refine wpAny_bind (wpAny_letGo (wpAny_pure ⟨.none, rfl, wpAny_pure ?_⟩))
  refine hQ _ (if new.size == items.size then n else n + 1) ?_ (Heap.SameBut.update ..)
  rw [Heap.get?_update_self _ ho rfl]
  simp only [Obj.mapSeq, e4 items rfl]
end
end
section
open PySem PySem.W PyProof.Rows PySem.Spec PySem.Calls
def low1 (x : Str) : Str := match x.cps.toList with | [c] => ⟨#[if c ≤ 70 then c + 32 else c]⟩ | _ => x
def Letter (v : Str) : Prop := ∃ c, v = ⟨#[c]⟩ ∧ (65 ≤ c ∧ c ≤ 70 ∨ 97 ≤ c ∧ c ≤ 102)
def Le6 (c : Nat) : Prop := c = 65 ∨ c = 66 ∨ c = 67 ∨ c = 68 ∨ c = 69 ∨ c = 70 ∨ c = 97 ∨ c = 98 ∨ c = 99 ∨ c = 100 ∨ c = 101 ∨ c = 102
theorem lower_letter {v : Str} (h : Letter v) : Txt.lower v = low1 v := by
  obtain ⟨c, rfl, h⟩ := h
  have h' : Le6 c := by unfold Le6; omega
  rcases h' with rfl | rfl | rfl | rfl | rfl | rfl | rfl | rfl | rfl | rfl | rfl | rfl <;> decide +kernel
theorem low1_plain {v : Str} (h : Letter v) : Plain true (low1 v) ∧ (low1 v).cps.size ≤ 4096 := by
  obtain ⟨c, rfl, h⟩ := h
  unfold low1
  dsimp only
  refine ⟨fun x hx => ?_, by simp⟩
  simp only [List.mem_singleton] at hx
  subst hx
  split <;> omega
theorem letter_fit {v : Str} (h : Letter v) : Builtin.Str.tooLong (Txt.lower v).length = false := by
  rw [lower_letter h]
  obtain ⟨c, rfl, h⟩ := h
  unfold low1
  dsimp only
  split <;> rfl
theorem set_slice_K {prog : Program} {w : World} {A : Around} {E : Value → Shared → Prop} {s : Shared} {h₀ h : Heap} {L l D : Addr} {m : Str → Option Value} {news : List (Addr × Obj)} {g : Obj → List (Addr × Obj)} {items : Array Value} {n : Nat} {vs : List Value} {Q : Unit → Shared → Prop}
  (F : Fr h₀ L h m) (N : News h₀ L h news) (es : s.heap = h.push { cls := .type "slice", data := .fields #[.none, .none, .none] }) (U : UpdF l ({ cls := .type "list", data := .seq items n } : Obj) news g) (hD : (D, LCg.lst vs) ∈ news) (hne : @Ne Nat l D) (hz : items.size ≤ 64) (hz2 : vs.length ≤ 64)
  (hq : ∀ h' n', Fr h₀ L h' m → News h₀ L h' (g { cls := .type "list", data := .seq vs.toArray n' }) → Q () { s with heap := h' }) :
  wpAny (model prog w) A (setItem (.ref l) (.ref h.objs.size) (.ref D)) Q E s := by
  have F1 := F.push (o := { cls := .type "slice", data := .fields #[.none, .none, .none] })
  have N1 : News h₀ L (h.push { cls := .type "slice", data := .fields #[.none, .none, .none] }) news := N.grown fun _ _ e => Heap.get?_push_of_some _ e
  obtain ⟨pre, post, rfl, hg, a, b⟩ := U.split
  have hm := N1 (l, _) (List.mem_append_right _ (.head _))
  have hD' := N1 _ hD
  rw [← es] at F1 N1 hm hD'
  refine setItem_all hm.1 (es ▸ Heap.IsSliceOf.new ..) ⟨_, hD'.1, rfl, _, rfl⟩ hne hz (by simpa using hz2) fun h' n' e' hs => ?_
  exact hq h' n' (F1.change hs hm.2.1 hm.2.2) (hg _ ▸ N1.setIn a b hs e')
section
open LCg LCt
theorem compT_fil {prog : Program} {w : World} {A : Around} {h₀ : Heap} {L : Addr} {m : Str → Option Value} {env : Env} {ct elt : PySem.Expr} {x : Str} {scope : Scope} {cl : List (Str × Addr)} {s : Shared} {ax : Addr} {α : Type} {f : α → Value} (kp : α → Bool) {all : List α} {news : List (Addr × Obj)} {Fin : List Value → List (Addr × Obj) → Prop} {n : Nat}
  (hn : n = all.length)
  (turn : ∀ p ∈ all, ∀ (R : List Value → Prop) ys I oI C oC D m₂ h tk E', R (if kp p then ys ++ [f p] else ys) → NsObj oC m₂ → m₂ x = some (f p) → Fr h₀ L h m → News h₀ L h ((I, oI) :: (C, oC) :: (D, lst ys) :: news) → Off3 I C D news → ((@Ne Nat I C) ∧ (@Ne Nat I D) ∧ (@Ne Nat C D)) →
      wpAny (model prog w) A (isTrue ct (compEnvC scope cl C env) (eval ct (compEnvC scope cl C env))) (fun ok s' => if ok = true then
        wpAny (model prog w) A (eval elt (compEnvC scope cl C env)) (CompEnd h₀ L m { s with heap := h, toks := tk } I oI C oC D (lst ys) (SrcAt h₀ ax (all.map f).toArray) (fun y news' => news' = news ∧ R (ys ++ [y]))) E' s'
        else CompEnd h₀ L m { s with heap := h, toks := tk } I oI C oC D (lst ys) (SrcAt h₀ ax (all.map f).toArray) (fun _ news' => news' = news ∧ R ys) Value.none s') E' { s with heap := h, toks := tk })
  (fin : Fin ((all.filter kp).map f) news) :
  CompRestT prog w A h₀ L m env ct elt x scope cl s (SrcAt h₀ ax (all.map f).toArray) (fun i v => (all.map f).toArray[i]? = some v) Fin n 0 [] news := by
  subst hn
  have go : ∀ (k i : Nat) (ys : List Value), i + k = all.length → ys ++ ((all.drop i).filter kp).map f = (all.filter kp).map f →
      CompRestT prog w A h₀ L m env ct elt x scope cl s (SrcAt h₀ ax (all.map f).toArray) (fun i v => (all.map f).toArray[i]? = some v) Fin k i ys news := by
    intro k
    induction k with
    | zero =>
      intro i ys hi hy
      refine CompRestT.zero ?_
      rw [List.drop_of_length_le (by omega)] at hy
      rw [List.filter_nil, List.map_nil, List.append_nil] at hy
      rw [hy]
      exact fin
    | succ k ih =>
      intro i ys hi hy
      refine CompRestT.succ fun v I oI C oC D m₂ h tk E' hv hC hx F N off ne => ?_
      have hlt : i < all.length := by omega
      have hv' : v = f all[i] := by
        simp only [List.getElem?_toArray, List.getElem?_map, List.getElem?_eq_getElem hlt, Option.map_some, Option.some.injEq] at hv
        exact hv.symm
      subst hv'
      rw [List.drop_eq_getElem_cons hlt, List.filter_cons] at hy
      refine wpAny_mono (turn all[i] (List.getElem_mem hlt) (fun ys' => ys' = if kp all[i] then ys ++ [f all[i]] else ys) ys I oI C oC D m₂ h tk E' rfl hC hx F N off ne) (fun ok s' h' => ?_) fun _ _ e => e
      have fin' : ∀ ys', (ys' = if kp all[i] then ys ++ [f all[i]] else ys) → CompRestT prog w A h₀ L m env ct elt x scope cl s (SrcAt h₀ ax (all.map f).toArray) (fun i v => (all.map f).toArray[i]? = some v) Fin k (i + 1) ys' news := by
        intro ys' e
        refine ih (i + 1) ys' (by omega) ?_
        rw [e]
        rw [← hy]
        by_cases hk : kp all[i] = true
        · simp [hk]
        · simp [hk]
      cases ok with
      | true =>
        simp only [if_true] at h' ⊢
        refine wpAny_mono h' (fun y s₅ h₅ => ?_) fun _ _ e => e
        obtain ⟨h₄, tk₄, news₄, e, F₄, N₄, off₄, hS₄, e2, R₄⟩ := h₅
        subst e2
        exact ⟨h₄, tk₄, _, e, F₄, N₄, off₄, hS₄, fin' _ R₄⟩
      | false =>
        simp only [Bool.false_eq_true, if_false] at h' ⊢
        obtain ⟨h₄, tk₄, news₄, e, F₄, N₄, off₄, hS₄, e2, R₄⟩ := h'
        subst e2
        exact ⟨h₄, tk₄, _, e, F₄, N₄, off₄, hS₄, fin' _ R₄⟩
  exact go all.length 0 [] (by omega) (by simp)
end
theorem Good.letter {p : Pr} (h : Good p) : Letter p.nm := by
  obtain ⟨⟨c, e, h1, h2⟩, _⟩ := h
  exact ⟨c, e, .inl ⟨h1, h2⟩⟩
theorem tup_off {a x d l : Addr} {ox od ol : Obj} (h : @Ne Nat a x ∧ @Ne Nat a d ∧ @Ne Nat a l) : a ∉ List.map (fun p : Addr × Obj => p.1) [(x, ox), (d, od), (l, ol)] := by
  obtain ⟨h1, h2, h3⟩ := h
  simp only [List.map_cons, List.map_nil, List.mem_cons, List.not_mem_nil, or_false, not_or]
  exact ⟨h1, h2, h3⟩
theorem keep_but {h g H' h₀ : Heap} {L L' pl : Addr} {m' : Str → Option Value} {news news' : List (Addr × Obj)} (G : GSub h g (news.map (·.1))) (N : News h₀ L h news) (F' : Fr g L' H' m') (N' : News g L' H' news')
    (hs : ∀ p ∈ news, p.1 = pl ∨ p ∈ news') : ∀ b o, b ≠ pl → h.get? b = some o → H'.get? b = some o := fun b o hne e => by
  by_cases hb : b ∈ news.map (·.1)
  · obtain ⟨p, hp, rfl⟩ := List.mem_map.mp hb
    rcases hs p hp with h1 | h1
    · exact absurd h1 hne
    · rw [(N' p h1).1, ← (N p hp).1, e]
  · exact F'.keep _ _ (G _ _ e hb)
theorem lower_call {prog : Program} {w : World} {A : Around} {E : Value → Shared → Prop} {s : Shared} {v : Str} {t : Tok} {Q : Value → Shared → Prop} (hv : Letter v) (h : ∀ t' k, Q (.str (low1 v) t') {s with toks := k}) : wpAny (model prog w) A (call (.builtin "str.lower") [.str v t]) Q E s :=
  SC.lower (letter_fit hv) (by rw [lower_letter hv]; exact h _ _)
local macro_rules | `(tactic| walk_at "ME conv") => `(tactic| ((with_reducible show wpAny _ _ (call (Value.ref 164) _ _) _ _ _); k_dflt ((rename Fr _ _ _ _ => lF'); (rename News _ _ _ _ => lN'); (refine' conv_c ?k1 lF' ?k3 ?k4 ?k5 _ _ _ _ ?a1 ?a2 ?a3 ?a4 ?kr; (case k1 => k_asm); (case k3 => k_asm); (case k4 => k_asm); (case k5 => exact rfl); (case a1 => assumption); (case a2 => assumption); (case a3 => first | exact up1 (by assumption) (by decide) | exact up1b (by assumption) (by decide)); (case a4 => first | exact up3 (by assumption) (by decide) | exact up3b (by assumption) (by decide))); intro h9 tk9 kp9; (have F' := Fr.keeps lF' kp9); (have N' := News.grown lN' kp9); clear lF' lN' kp9; (try dsimp only))))
set_option maxRecDepth 100000 in
set_option maxHeartbeats 8000000 in
theorem del_c {w : World} {mean : ExcName → Option Value} {mg mb : Str → Option Value} {dp un : Nat} {gd : Option (List Code)} {cn : Str} {cs : Scope} {a : Addr} {ccd : Value} {cl : List (Str × Addr)} {outer : List Env} {A₀ : Around} {base h₀ : Heap} {L : Addr} {m : Str → Option Value} {s : Shared} {Q E : Value → Shared → Prop}
  (B : Below A₀ base outer h₀) (F : Fr h₀ L s.heap m) (X : (heapK w.params).In h₀)
  (T : Top viewK LS mean mg mb h₀) (hk : cs.kind = .function)
  (x d pl : Addr) (prs : List Pr) (e : Nat) (v : Str) (tv kt : Tok) (N0 : News h₀ L s.heap [(x, instObj 265 d), (d, HdDict w pl kt), (pl, ({ cls := .type "list", data := .seq (prs.map Pr.ref).toArray e } : Obj))]) (hprs : ∀ p ∈ prs, s.heap.get? p.a = some p.obj) (hne : ∀ p ∈ prs, p.a ≠ x ∧ p.a ≠ d ∧ p.a ≠ pl)
  (hlen : prs.length ≤ 6) (hok : ∀ p ∈ prs, Good p) (hv : Letter v)
  (hd' : dp + 6 < recursionLimit) (hu : un + 80 < cLine)
  (ret : ∀ h' tk' e', (∀ b o, b ≠ pl → s.heap.get? b = some o → h'.get? b = some o) → h'.get? pl = some ({ cls := .type "list", data := .seq ((prs.filter fun p => !decide (low1 p.nm = low1 v)).map Pr.ref).toArray e' } : Obj) → Q .none {s with heap := h', toks := tk'}) :
  wpAny (model PySem.Challenge.rw_pg0308_01.row.prog w) (ktrTop dp un gd cn cs L a ccd cl outer) (call (.ref 183) [.ref x, .str v tv]) Q E s := by
  k_with_none
  have e1 : @Ne Nat x pl := news_ne' N0 (List.Mem.head _) (List.Mem.tail _ (List.Mem.tail _ (List.Mem.head _))) (by simp)
  have e2 : @Ne Nat d pl := news_ne' N0 (List.Mem.tail _ (List.Mem.head _)) (List.Mem.tail _ (List.Mem.tail _ (List.Mem.head _))) (by simp [HdDict])
  obtain ⟨p1, p2⟩ := low1_plain hv
  unfold HdDict at N0
  k_with "call ref" => walk_at "ME conv"
  k_with "call builtin:str.lower" => (k_dflt (refine lower_call (by assumption) ?_; k_whole; intro t' k'))
  k_with "eval ListComp" => (k_here; k_dflt (refine LCt.ListComp_T (F₀ := by k_asm) (by with_unfolding_all rfl) (by decide) (by rfl) (by decide) (by rfl) ?_))
  k_with "CompSrcT" => (k_here; k_dflt (refine LCt.CompSrcT.ledger (by rfl) (by k_asm) (by k_asm) (by k_mem) (by rw [List.size_toArray, List.length_map, sizeLine_eq]; exact Nat.le_trans hlen (by decide)) ?_; intro g'; refine compT_fil (f := Pr.ref) (fun p => !decide (low1 p.nm = low1 v)) (by simp) ?_ ?_; rotate_left; skip; rotate_left; (rintro p8 hp8 R8 ys8 I8 oI8 C8 oC8 D8 m8 h8 tk8 E8 hR8 hC8 hx8 F8 N8 off8 ne8); (have hT8 : IsTup h8 p8.a #[.str p8.nm p8.tn, .str (tb p8.t p8.b) p8.tv] := ⟨_, F8.keep _ _ (kG _ _ (hprs _ hp8) (tup_off (hne _ hp8))), rfl, _, rfl⟩); (have hl8 := (hok _ hp8).letter); unfold Pr.ref at hx8))
  k_with "setItem ref ref" => (k_dflt ((rename Fr _ _ _ _ => lF'); (rename News _ _ _ _ => lN'); (refine' set_slice_K lF' lN' ?es ?U ?a1 ?a2 ?a3 ?a4 ?_; (case es => rfl); (case U => k_updF); (case a1 => k_mem); (case a2 => k_ne); (case a3 => (rw [List.size_toArray, List.length_map]; exact Nat.le_trans hlen (by decide))); (case a4 => (rw [List.length_map]; exact Nat.le_trans (Nat.le_trans (List.length_filter_le _ _) hlen) (by decide)))); clear lF' lN'; intro h' n' F' N'; (try dsimp only at N')))
  revert X
  k_fill
  intro X
  refine wpAny_call ?_
  k_dflt walk_at "ME enter"
  rename GSub _ _ _ => kG
  (try dsimp only); (try k_fold)
  k_steps
  · refine LCg.CompEnd.intro F8 N8 [_, _, _, _] (fun p hp => hp) off8 (.inr ⟨_, by k_mem, rfl, _, rfl⟩) ⟨rfl, ?_⟩
    rename (_ != _) = true => hc
    rw [if_pos (by simpa using hc)] at hR8
    exact hR8
  · refine LCg.CompEnd.intro F8 N8 [_, _, _, _] (fun p hp => hp) off8 (.inr ⟨_, by k_mem, rfl, _, rfl⟩) ⟨rfl, ?_⟩
    rename (_ != _) = false => hc
    rw [if_neg (by simpa using hc)] at hR8
    exact hR8
  · rename News _ _ _ _ => kN1
    clear kN1
    rename News _ _ _ _ => N8
    refine ret _ _ _ (keep_but kG N0 (by assumption) N8 ?_) (N8 (pl, _) (by k_mem)).1
    exact List.forall_mem_cons.mpr ⟨.inr (by k_mem), List.forall_mem_cons.mpr ⟨.inr (by k_mem), List.forall_mem_cons.mpr ⟨.inl rfl, fun _ hq => nomatch hq⟩⟩⟩
end
section
open PySem PySem.W PyProof.Rows PySem.Spec PySem.Calls
theorem my_delItem {M : Model} {A : Around} {E : Value → Shared → Prop} {s : Shared} {K : Frag} {x C L f : Addr} {h₀ : Heap} {m : Str → Option Value} {ox : Obj} {od : Option Obj} {i : Value} {Q : Unit → Shared → Prop} (F : Fr h₀ L s.heap m) (X₀ : K.In h₀) (I : InstAt s.heap x ox C od) (hq : noSeq K C = true) (hs : findIn K (.ref C) "__delitem__" = some (some (.ref f))) (hf : isFn K (.ref f) = true)
    (h : wpAny M A (call (.ref f) [.ref x, i]) (fun _ s' => Q () s') E s) : wpAny M A (delItem (.ref x) i) Q E s := by
  have X := X₀.keeps F.keep
  unfold delItem sequenceKey
  refine wpAny_holding (wpAny_bind (wpAny_bind (I.type.here ?_)))
  refine wpAny_bind ((anyM_none X hq).here ?_)
  rw [if_pos (show (!false) = true from rfl)]
  exact wpAny_pure (wpAny_bind (special_fn X I hs (beq_iff_eq.mp hf) (wpAny_mono h (fun _ _ z => wpAny_pure z) fun _ _ z => z)))
local macro_rules | `(tactic| walk_at "ME conv") => `(tactic| ((with_reducible show wpAny _ _ (call (Value.ref 164) _ _) _ _ _); k_dflt ((rename Fr _ _ _ _ => lF'); (rename News _ _ _ _ => lN'); (refine' conv_c ?k1 lF' ?k3 ?k4 ?k5 _ _ _ _ ?a1 ?a2 ?a3 ?a4 ?kr; (case k1 => k_asm); (case k3 => k_asm); (case k4 => k_asm); (case k5 => exact rfl); (case a1 => assumption); (case a2 => assumption); (case a3 => first | exact up1 (by assumption) (by decide) | exact up1b (by assumption) (by decide)); (case a4 => first | exact up3 (by assumption) (by decide) | exact up3b (by assumption) (by decide))); intro h9 tk9 kp9; (have F' := Fr.keeps lF' kp9); (have N' := News.grown lN' kp9); clear lF' lN' kp9; (try dsimp only))))
theorem fr_but1 {h₀ h h' : Heap} {L l : Addr} {m : Str → Option Value} {o : Obj} {news : List (Addr × Obj)} (F : Fr h₀ L h m) (N : News h₀ L h news) (hm : (l, o) ∈ news) (k : ∀ b o, b ≠ l → h.get? b = some o → h'.get? b = some o) : Fr h₀ L h' m :=
  LCg.fr_but (I := l) F (fun b o hb e => k b o (by simpa using hb) e) (Ne.symm (N _ hm).2.1) (N _ hm).2.2
theorem news_upd {h₀ h h' : Heap} {L l : Addr} {o o' : Obj} {news : List (Addr × Obj)} {g : Obj → List (Addr × Obj)} (N : News h₀ L h news) (U : UpdF l o news g) (k : ∀ b o, b ≠ l → h.get? b = some o → h'.get? b = some o) (e : h'.get? l = some o') : News h₀ L h' (g o') := by
  obtain ⟨pre, post, rfl, hg, a, b⟩ := U.split
  rw [hg]
  have hd := N (l, o) (List.mem_append_right _ (.head _))
  intro q hq
  rcases List.mem_append.mp hq with hq | hq
  · have := N q (List.mem_append_left _ hq)
    exact ⟨k _ _ (a q hq) this.1, this.2⟩
  · rcases List.mem_cons.mp hq with rfl | hq
    · exact ⟨e, hd.2⟩
    · have := N q (List.mem_append_right _ (.tail _ hq))
      exact ⟨k _ _ (b q hq) this.1, this.2⟩
set_option maxRecDepth 100000 in
set_option maxHeartbeats 8000000 in
theorem del_use {w : World} {mean : ExcName → Option Value} {mg mb : Str → Option Value} {dp un : Nat} {gd : Option (List Code)} {cn : Str} {cs : Scope} {a : Addr} {ccd : Value} {cl : List (Str × Addr)} {outer : List Env} {A₀ : Around} {base h₀ : Heap} {L : Addr} {m : Str → Option Value} {s : Shared} {Q E : Value → Shared → Prop}
  (B : Below A₀ base outer h₀) (F : Fr h₀ L s.heap m) (X : (heapK w.params).In h₀)
  (T : Top viewK LS mean mg mb h₀) (hk : cs.kind = .function)
  {news : List (Addr × Obj)} {g : Obj → List (Addr × Obj)} {x d pl : Addr} {prs : List Pr} {e : Nat} {v : Str} {tv kt : Tok} (N : News h₀ L s.heap news) (m1 : (x, instObj 265 d) ∈ news) (m2 : (d, HdDict w pl kt) ∈ news) (U : UpdF pl ({ cls := .type "list", data := .seq (prs.map Pr.ref).toArray e } : Obj) news g)
  (hprs : ∀ p ∈ prs, s.heap.get? p.a = some p.obj) (hne : ∀ p ∈ prs, p.a ≠ x ∧ p.a ≠ d ∧ p.a ≠ pl)
  (hlen : prs.length ≤ 6) (hok : ∀ p ∈ prs, Good p) (hv : Letter v)
  (hd' : dp + 6 < recursionLimit) (hu : un + 80 < cLine)
  (ret : ∀ h' tk' e', (∀ b o, b ≠ pl → s.heap.get? b = some o → h'.get? b = some o) → Fr h₀ L h' m → News h₀ L h' (g { cls := .type "list", data := .seq ((prs.filter fun p => !decide (low1 p.nm = low1 v)).map Pr.ref).toArray e' }) → Q .none {s with heap := h', toks := tk'}) :
  wpAny (model PySem.Challenge.rw_pg0308_01.row.prog w) (ktrTop dp un gd cn cs L a ccd cl outer) (call (.ref 183) [.ref x, .str v tv]) Q E s := by
  have m3 : (pl, ({ cls := .type "list", data := .seq (prs.map Pr.ref).toArray e } : Obj)) ∈ news := by
    obtain ⟨pre, post, rfl, _⟩ := U.split
    simp
  refine del_c B F X T hk x d pl prs e v tv kt (news_sub N (List.forall_mem_cons.mpr ⟨m1, List.forall_mem_cons.mpr ⟨m2, List.forall_mem_cons.mpr ⟨m3, fun _ hq => nomatch hq⟩⟩⟩)) hprs hne hlen hok hv hd' hu fun h' tk' e' k1 k2 => ?_
  exact ret h' tk' e' k1 (fr_but1 F N m3 k1) (news_upd N U k1 k2)
end
section
open PySem PySem.W PyProof.Rows PySem.Spec PySem.Calls
local macro_rules | `(tactic| walk_at "ME conv") => `(tactic| ((with_reducible show wpAny _ _ (call (Value.ref 164) _ _) _ _ _); k_dflt ((rename Fr _ _ _ _ => lF'); (rename News _ _ _ _ => lN'); (refine' conv_c ?k1 lF' ?k3 ?k4 ?k5 _ _ _ _ ?a1 ?a2 ?a3 ?a4 ?kr; (case k1 => k_asm); (case k3 => k_asm); (case k4 => k_asm); (case k5 => exact rfl); (case a1 => assumption); (case a2 => assumption); (case a3 => first | exact up1 (by assumption) (by decide) | exact up1b (by assumption) (by decide)); (case a4 => first | exact up3 (by assumption) (by decide) | exact up3b (by assumption) (by decide))); intro h9 tk9 kp9; (have F' := Fr.keeps lF' kp9); (have N' := News.grown lN' kp9); clear lF' lN' kp9; (try dsimp only))))
local macro_rules | `(tactic| walk_at "ME delitem") => `(tactic| (k_here; (with_reducible show wpAny _ _ (delItem (Value.ref _) _) _ _ _); k_dflt (refine' my_delItem ?F ?X ?I ?hQ ?hS ?hF ?_; (case F => k_asm); (case X => k_asm); (case I => k_inst); (case hS => k_is); (case hF => k_is); (case hQ => k_is); k_whole)))
set_option maxRecDepth 100000 in
set_option maxHeartbeats 8000000 in
theorem set_c {w : World} {mean : ExcName → Option Value} {mg mb : Str → Option Value} {dp un : Nat} {gd : Option (List Code)} {cn : Str} {cs : Scope} {a : Addr} {ccd : Value} {cl : List (Str × Addr)} {outer : List Env} {A₀ : Around} {base h₀ : Heap} {L : Addr} {m : Str → Option Value} {s : Shared} {Q E : Value → Shared → Prop}
  (B : Below A₀ base outer h₀) (F : Fr h₀ L s.heap m) (X : (heapK w.params).In h₀)
  (T : Top viewK LS mean mg mb h₀) (hk : cs.kind = .function)
  (x d pl : Addr) (prs : List Pr) (e : Nat) (p0 : Pr) (kt : Tok) (N0 : News h₀ L s.heap [(x, instObj 265 d), (d, HdDict w pl kt), (pl, ({ cls := .type "list", data := .seq (prs.map Pr.ref).toArray e } : Obj))]) (hprs : ∀ p ∈ prs, s.heap.get? p.a = some p.obj) (hne : ∀ p ∈ prs, p.a ≠ x ∧ p.a ≠ d ∧ p.a ≠ pl)
  (hlen : prs.length ≤ 6) (hok : ∀ p ∈ prs, Good p) (h0 : Good p0)
  (hd' : dp + 8 < recursionLimit) (hu : un + 100 < cLine)
  (ret : ∀ h' tk' e' a', (∀ b o, b ≠ pl → s.heap.get? b = some o → h'.get? b = some o) → h'.get? pl = some ({ cls := .type "list", data := .seq (List.map Pr.ref (prs.filter fun p => !decide (low1 p.nm = low1 p0.nm)) ++ [Value.ref a']).toArray e' } : Obj) →
    h'.get? a' = some { cls := .type "tuple", data := .seq #[.str p0.nm p0.tn, .str (tb p0.t p0.b) p0.tv] } → s.heap.get? a' = none → Q .none {s with heap := h', toks := tk'}) :
  wpAny (model PySem.Challenge.rw_pg0308_01.row.prog w) (ktrTop dp un gd cn cs L a ccd cl outer) (call (.ref 178) [.ref x, .str p0.nm p0.tn, .str (tb p0.t p0.b) p0.tv]) Q E s := by
  have e1 : @Ne Nat x pl := news_ne' N0 (List.Mem.head _) (List.Mem.tail _ (List.Mem.tail _ (List.Mem.head _))) (by simp)
  have e2 : @Ne Nat d pl := news_ne' N0 (List.Mem.tail _ (List.Mem.head _)) (List.Mem.tail _ (List.Mem.tail _ (List.Mem.head _))) (by simp [HdDict])
  obtain ⟨p1, p2⟩ := h0.plain
  obtain ⟨p3, p4⟩ := h0.plainV
  have hv := h0.letter
  unfold HdDict at N0
  k_with_none
  k_with "call ref" => walk_at "ME conv"
  k_with "call ref" => ((with_reducible show wpAny _ _ (call (Value.ref 183) _ _) _ _ _); k_dflt ((rename Fr _ _ _ _ => lF'); (rename News _ _ _ _ => lN'); (refine' del_use ?k1 lF' ?k3 ?k4 ?k5 (prs := prs) lN' ?m1 ?m2 ?U ?h1 ?h2 ?h3 ?h4 ?h5 ?a3 ?a4 ?kr; (case k1 => k_asm); (case k3 => k_asm); (case k4 => k_asm); (case k5 => exact rfl); (case m1 => k_mem); (case m2 => k_mem); (case U => k_updF); (case h1 => exact fun p hp => Fr.keep lF' _ _ (kG _ _ (hprs p hp) (tup_off (hne p hp)))); (case h2 => exact hne); (case h3 => exact hlen); (case h4 => exact hok); (case h5 => exact hv); (case a3 => exact up1 (by assumption) (by decide)); (case a4 => exact up3 (by assumption) (by decide))); intro h9 tk9 e9 kp9 F' N'; clear lF' lN' kp9; (try dsimp only at N'); (try dsimp only)))
  k_with "delItem ref str" => walk_at "ME delitem"
  k_with "delItem ref" => walk_at "ME delitem"
  revert X
  k_fill
  intro X
  refine wpAny_call ?_
  k_dflt walk_at "ME enter"
  rename GSub _ _ _ => kG
  (try dsimp only); (try k_fold)
  k_steps
  · rename News _ _ _ _ => kN1
    clear kN1
    rename News _ _ _ _ => N8
    have q1 := (N8 _ (.tail _ (.tail _ (.tail _ (.head _))))).1
    rw [List.push_toArray] at q1
    refine ret _ _ _ _ (keep_but kG N0 (by assumption) N8 ?_) q1 (N8 _ (.head _)).1 ?_
    · exact List.forall_mem_cons.mpr ⟨.inr (by k_mem), List.forall_mem_cons.mpr ⟨.inr (by k_mem), List.forall_mem_cons.mpr ⟨.inl rfl, fun _ hq => nomatch hq⟩⟩⟩
    · rename (_ < _ ∧ _ < _ ∧ _ < _) => l9
      cases ee : s.heap.get? _ with
      | none => rfl
      | some o =>
        have := kG _ _ ee (tup_off ⟨Ne.symm (Nat.ne_of_lt l9.1), Ne.symm (Nat.ne_of_lt l9.2.1), Ne.symm (Nat.ne_of_lt l9.2.2)⟩)
        rw [(N8 _ (.head _)).2.2] at this
        cases this
end
section
open PySem PySem.W PyProof.Rows PySem.Spec PySem.Calls
section
variable {prog : Program} {w : World} {A : Around} {E : Value → Shared → Prop} {s : Shared} {env : Env} {h₀ : Heap} {target : PySem.Expr} {body : List Stmt} {Q : Flow → Shared → Prop}
theorem tok_ind {α : Type} {I : Addr} {it : String} (f : α → Tok → Value) (J : List α → (Str → Option Value) → List (Addr × Obj) → Prop)
    (turn : ∀ c r u m news h tk o, J (c :: r) m news → Fr h₀ env.locals h m → o.cls = .type it → News h₀ env.locals h ((I, o) :: news) →
      wpAny (model prog w) A (assign target env (f c u)) (fun _ s₂ => wpAny (model prog w) A (execs body env) (UnrPostW h₀ env.locals { s with heap := h, toks := tk } [(I, o)] (J r) Q) E s₂) E { s with heap := h, toks := tk })
    (fin : ∀ m news h tk, J [] m news → Fr h₀ env.locals h m → News h₀ env.locals h news → Q .next { s with heap := h, toks := tk }) :
    ∀ (cs : List α) (m : Str → Option Value) (news : List (Addr × Obj)), J cs m news → ItemsRest prog w A E h₀ env target body Q s [(I, it)] [] (cs.map fun c => Itm.tok (f c)) m news := by
  intro cs
  induction cs with
  | nil => intro m news hJ h tk F N; exact fin m news h tk hJ F N
  | cons c r ih =>
    intro m news hJ
    refine ItemsRest.tok fun u h tk F => ?_
    refine AllObj.cons fun o hc => AllObj.nil fun N => ?_
    refine wpAny_mono (turn c r u m news h tk o hJ F hc N) (fun _ s₂ h₂ => wpAny_mono h₂ (fun fl s₃ h₃ => ?_) fun _ _ e => e) fun _ _ e => e
    have fin' : ∀ s₃, UnrEndW h₀ env.locals { s with heap := h, toks := tk } [(I, o)] (J r) s₃ → UnrEndW h₀ env.locals { s with heap := h, toks := tk } [(I, o)] (fun m' n' => SubL [] n' ∧ ItemsRest prog w A E h₀ env target body Q s [(I, it)] [] (r.map fun c => Itm.tok (f c)) m' n') s₃ := by
      rintro s₃ ⟨h', tk', m', news', e, F', N', ho, r'⟩
      exact ⟨h', tk', m', news', e, F', N', ho, trivial, ih m' news' r'⟩
    cases fl with
    | ret v => exact h₃
    | brk => exact h₃
    | next => exact fin' _ h₃
    | cont => exact fin' _ h₃
theorem iter_rangeTurns {r : Addr} {a₀ b₀ : Int} {t₀ u₀ v₀ : Tok} {n : Nat} {m₀ : Str → Option Value} {news : List (Addr × Obj)} (hgo : ∀ v (it : Value), letOwnedTupleGo target it v = pure ())
    (hh : A.handled = none) (hr : IsRange s.heap r a₀ b₀ 1 t₀ u₀ v₀) (hsmall : Builtin.Range.small a₀ b₀ 1 = true) (hn : Builtin.Range.rangeSize a₀ b₀ 1 = (n : Int)) (F : Fr h₀ env.locals s.heap m₀) (N : News h₀ env.locals s.heap news)
    (rest₀ : ∀ I : Addr, (∀ p ∈ news, p.1 < I) → ItemsRest prog w A E h₀ env target body Q s [(I, "range_iterator")] [] ((rangeKs a₀ n).map fun k => Itm.tok fun u => .int k u) m₀ news) :
    wpAny (model prog w) A (pyIter (.ref r)) (fun it s₂ => TurnsAt prog w A h₀ env target body Q E it s₂) E s := by
  refine wpAny_pyIter_range hr hsmall ?_
  refine ktu_core (tk0 := s.toks) (keep := []) (KTurns.ofWalks (Walks.range hh s.heap.objs.size a₀ 1 n).bound fun i v s Q E _ q => by rw [hgo]; exact wpAny_pure q) (by simp [rangeKs]) (fun i v h hp => ?_) (fun i h st => ?_) (fun b hb => ?_) (fun b hb => by simpa using hb) (fun b hb => ?_) ?_ (fun p hp hI => ?_) ?_ (F.push _) (fun p hp => ⟨Heap.get?_push_of_some _ (N p hp).1, (N p hp).2⟩) trivial (rest₀ _ fun p hp => Heap.lt_size (N p hp).1)
  · obtain ⟨hi, t, rfl⟩ := hp
    exact ⟨Itm.tok fun u => .int (a₀ + (i : Int)) u, by simp [rangeKs, hi], ⟨t, by simp⟩⟩
  · exact ⟨[(s.heap.objs.size, _)], ⟨⟨rfl, rfl⟩, trivial⟩, fun p hp => by rw [List.mem_singleton.mp hp]; exact st⟩
  · have hb' : b = s.heap.objs.size := by simpa using hb
    rw [hb']
    exact ⟨List.mem_cons_self .., next_is_new F⟩
  · have hb' : b = s.heap.objs.size := by simpa using hb
    exact .inl (by simp [hb'])
  · intro hI
    exact absurd F.ns.lt ((List.mem_singleton.mp hI) ▸ Nat.lt_irrefl _)
  · exact absurd (Heap.lt_size (N p hp).1) ((List.mem_singleton.mp hI) ▸ Nat.lt_irrefl _)
  · show IsRangeIter _ _ _ _ _
    rw [hn]
    simpa using Heap.get?_push_size _ rfl
end
end
section
open PySem PySem.W PyProof.Rows PySem.Spec PySem.Calls
structure Key where
  nm : Str
  tn : Tok
  t : Nat
  b : Nat
  tv : Tok
def Pr.key (p : Pr) : Key := ⟨p.nm, p.tn, p.t, p.b, p.tv⟩
def Key.val (k : Key) : Value := .str k.nm k.tn
def keyCol (sz : Int) (k : Key) : List Int := (rangeKs 1 sz.toNat).map fun j => (k.b : Int) + j * (k.t : Int)
def kvotes (sz : Int) (p q : Key) : Int := votesF (keyCol sz p) (keyCol sz q)
def swaps (sz : Int) (p q : Key) : Bool := decide (kvotes sz p q < 0) || (decide (kvotes sz p q = 0) && decide (q.nm.cps.toList < p.nm.cps.toList))
def kstep (sz : Int) : List Key × List Key → List Key × List Key
  | (a :: b :: r, ls) => if swaps sz a b then (r ++ [b], ls ++ [a]) else (r ++ [a], ls ++ [b])
  | st => st
def krun (sz : Int) : Nat → List Key × List Key → List Key × List Key
  | 0, st => st
  | n + 1, st => krun sz n (kstep sz st)
def krank (sz : Int) : Nat → List Key → List Key → List Key
  | 0, _, d => d
  | _ + 1, [], d => d
  | n + 1, k :: ks, d => krank sz n (krun sz ks.length (k :: ks, [])).2 (d ++ (krun sz ks.length (k :: ks, [])).1)
theorem kstep_len {sz : Int} {st : List Key × List Key} (h : 2 ≤ st.1.length) : (kstep sz st).1.length + 1 = st.1.length := by
  obtain ⟨l, ls⟩ := st
  match l, h with
  | a :: b :: r, _ => simp only [kstep]; split <;> simp
theorem krun_len {sz : Int} : ∀ (n : Nat) (st : List Key × List Key), st.1.length = n + 1 → (krun sz n st).1.length = 1
  | 0, _, h => h
  | n + 1, st, h => krun_len n _ (by have := kstep_len (sz := sz) (st := st) (by omega); omega)
def TupAt (g : Heap) (news : List (Addr × Obj)) (p : Pr) : Prop := (p.a, p.obj) ∈ news ∨ g.get? p.a = some p.obj
theorem TupAt.get {g h : Heap} {L : Addr} {m : Str → Option Value} {news : List (Addr × Obj)} {p : Pr} (x : TupAt g news p) (F : Fr g L h m) (N : News g L h news) : h.get? p.a = some p.obj := by
  rcases x with x | x
  · exact (N _ x).1
  · exact F.keep _ _ x
theorem TupAt.ne {g h : Heap} {L q : Addr} {o : Obj} {news : List (Addr × Obj)} {p : Pr} (x : TupAt g news p) (N : News g L h news) (hq : (q, o) ∈ news) (hc : o.cls ≠ .type "tuple") : @Ne Nat p.a q := by
  rcases x with x | x
  · exact news_ne' N x hq (by rw [Pr.obj]; exact Ne.symm hc)
  · intro e
    have h2 := (N _ hq).2.2
    have e' : p.a = q := e
    simp only [← e'] at h2
    rw [x] at h2
    cases h2
theorem colsIn_at {cols : List (Addr × Obj)} {sz : Int} : ∀ {ps : List Pr} {kvs : List (Str × Value)}, ColsIn cols sz ps kvs → (ps.map Pr.nm).Nodup → ∀ p ∈ ps, ∃ (l : Addr) (vs : List Value) (e : Nat), valueAt kvs p.nm = some (.ref l) ∧ (l, ({ cls := .type "list", data := .seq vs.toArray e } : Obj)) ∈ cols ∧ IntsAre vs (keyCol sz p.key)
  | [], [], _, _, p, hp => by cases hp
  | [], _ :: _, h, _, _, _ => (show False from h).elim
  | _ :: _, [], h, _, _, _ => (show False from h).elim
  | q :: ps, kv :: r, h, hn, p, hp => by
    obtain ⟨⟨e0, l, vs, e, a, b, c⟩, h2⟩ := h
    rw [List.map_cons, List.nodup_cons] at hn
    rcases List.mem_cons.mp hp with rfl | hp
    · exact ⟨l, vs, e, by unfold valueAt; simp [e0, a], b, c⟩
    · obtain ⟨l', vs', e', a', b', c'⟩ := colsIn_at h2 hn.2 p hp
      refine ⟨l', vs', e', ?_, b', c'⟩
      have hne : ¬ kv.1 = p.nm := by
        rw [e0]
        intro e
        exact hn.1 (e ▸ List.mem_map_of_mem hp)
      unfold valueAt at a' ⊢
      rw [List.find?_cons, decide_eq_false hne]
      exact a'
end
section
open PySem PySem.W PyProof.Rows PySem.Spec PySem.Calls
set_option maxRecDepth 100000 in
set_option maxHeartbeats 8000000 in
theorem set_use {w : World} {mean : ExcName → Option Value} {mg mb : Str → Option Value} {dp un : Nat} {gd : Option (List Code)} {cn : Str} {cs : Scope} {a : Addr} {ccd : Value} {cl : List (Str × Addr)} {outer : List Env} {A₀ : Around} {base h₀ : Heap} {L : Addr} {m : Str → Option Value} {s : Shared} {Q E : Value → Shared → Prop}
  (B : Below A₀ base outer h₀) (F : Fr h₀ L s.heap m) (X : (heapK w.params).In h₀)
  (T : Top viewK LS mean mg mb h₀) (hk : cs.kind = .function)
  {news : List (Addr × Obj)} {g : Obj → List (Addr × Obj)} {x d pl : Addr} {prs : List Pr} {e : Nat} {p0 : Pr} {kt : Tok} (N : News h₀ L s.heap news) (m1 : (x, instObj 265 d) ∈ news) (m2 : (d, HdDict w pl kt) ∈ news) (U : UpdF pl ({ cls := .type "list", data := .seq (prs.map Pr.ref).toArray e } : Obj) news g)
  (hprs : ∀ p ∈ prs, s.heap.get? p.a = some p.obj) (hne : ∀ p ∈ prs, p.a ≠ x ∧ p.a ≠ d ∧ p.a ≠ pl)
  (hlen : prs.length ≤ 6) (hok : ∀ p ∈ prs, Good p) (h0 : Good p0)
  (hd' : dp + 8 < recursionLimit) (hu : un + 100 < cLine)
  (ret : ∀ h' tk' e' (p1 : Pr), p1.key = p0.key → (∀ b o, b ≠ pl → s.heap.get? b = some o → h'.get? b = some o) → Fr h₀ L h' m → News h₀ L h' ((p1.a, p1.obj) :: g { cls := .type "list", data := .seq (((prs.filter fun p => !decide (low1 p.nm = low1 p0.nm)) ++ [p1]).map Pr.ref).toArray e' }) → Q .none {s with heap := h', toks := tk'}) :
  wpAny (model PySem.Challenge.rw_pg0308_01.row.prog w) (ktrTop dp un gd cn cs L a ccd cl outer) (call (.ref 178) [.ref x, .str p0.nm p0.tn, .str (tb p0.t p0.b) p0.tv]) Q E s := by
  have m3 : (pl, ({ cls := .type "list", data := .seq (prs.map Pr.ref).toArray e } : Obj)) ∈ news := by
    obtain ⟨pre, post, rfl, _⟩ := U.split
    simp
  refine set_c B F X T hk x d pl prs e p0 kt (news_sub N (List.forall_mem_cons.mpr ⟨m1, List.forall_mem_cons.mpr ⟨m2, List.forall_mem_cons.mpr ⟨m3, fun _ hq => nomatch hq⟩⟩⟩)) hprs hne hlen hok h0 hd' hu fun h' tk' e' a' k1 k2 k3 k4 => ?_
  refine ret h' tk' e' { p0 with a := a' } rfl k1 (fr_but1 F N m3 k1) ?_
  refine List.forall_mem_cons.mpr ⟨⟨k3, ?_, ?_⟩, news_upd N U k1 (by rw [List.map_append]; exact k2)⟩
  · intro e
    have := F.ns
    obtain ⟨o, _, _, ho, _⟩ := this
    have e' : a' = L := e
    rw [← e', k4] at ho
    cases ho
  · cases ee : h₀.get? a' with
    | none => rfl
    | some o => have := F.keep _ _ ee; rw [k4] at this; cases this
theorem fresh_off {h g : Heap} {hid : List Addr} {D : Addr} (kG : GSub h g hid) (hg : g.get? D = none) (hD : D ∉ hid) : h.get? D = none := by
  cases e : h.get? D with
  | none => rfl
  | some o => have := kG _ _ e hD; rw [hg] at this; cases this
set_option maxRecDepth 100000 in
set_option maxHeartbeats 8000000 in
theorem keys_c {w : World} {mean : ExcName → Option Value} {mg mb : Str → Option Value} {dp un : Nat} {gd : Option (List Code)} {cn : Str} {cs : Scope} {a : Addr} {ccd : Value} {cl : List (Str × Addr)} {outer : List Env} {A₀ : Around} {base h₀ : Heap} {L : Addr} {m : Str → Option Value} {s : Shared} {Q E : Value → Shared → Prop}
  (B : Below A₀ base outer h₀) (F : Fr h₀ L s.heap m) (X : (heapK w.params).In h₀)
  (T : Top viewK LS mean mg mb h₀) (hk : cs.kind = .function)
  (x d pl : Addr) (p : Pr) (e : Nat) (kt : Tok) (N0 : News h₀ L s.heap [(x, instObj 265 d), (d, HdDict w pl kt), (pl, ({ cls := .type "list", data := .seq #[.ref p.a] e } : Obj)), (p.a, p.obj)])
  (hd' : dp + 6 < recursionLimit) (hu : un + 80 < cLine)
  (ret : ∀ D h' tk', (∀ b o, s.heap.get? b = some o → h'.get? b = some o) → h'.get? D = some (LCg.lst [.str p.nm p.tn]) → s.heap.get? D = none → Q (.ref D) {s with heap := h', toks := tk'}) :
  wpAny (model PySem.Challenge.rw_pg0308_01.row.prog w) (ktrTop dp un gd cn cs L a ccd cl outer) (call (.ref 217) [.ref x]) Q E s := by
  unfold HdDict Pr.obj at N0
  k_with_none
  revert X
  k_fill
  intro X
  refine wpAny_call ?_
  k_dflt walk_at "ME enter"
  rename GSub _ _ _ => kG
  (try dsimp only); (try k_fold)
  k_steps
  · rename News _ _ _ _ => kN1
    clear kN1
    rename News _ _ _ _ => N8
    rename (_ ≠ _ ∧ _ ≠ _ ∧ _ ≠ _ ∧ _ ≠ _) => l9
    refine ret _ _ _ (keep_all kG N0 (by assumption) N8 ?_) (N8 _ (.head _)).1 (fresh_off kG (N8 _ (.head _)).2.2 ?_)
    · intro q hq
      exact .tail _ hq
    · simp only [List.map_cons, List.map_nil, List.mem_cons, List.not_mem_nil, or_false, not_or]
      exact ⟨Ne.symm l9.1, Ne.symm l9.2.1, Ne.symm l9.2.2.1, Ne.symm l9.2.2.2⟩
end
section
open PySem PySem.W PyProof.Rows PySem.Spec PySem.Calls
theorem pick_all (xs : List Value) : kms_pick xs none none = xs := by
  show (xs.drop 0).take (xs.length - 0) = xs
  simp
theorem pick_two (a b : Pr) (r : List Pr) : kms_pick ((a :: b :: r).map Pr.ref) none (some 2) = [Value.ref a.a, Value.ref b.a] := by
  have h : kms_hi (some 2) ((a :: b :: r).map Pr.ref).length = 2 := by
    rw [List.length_map]
    show (if (2 : Int) < 0 then (r.length + 1 + 1) - (-2 : Int).toNat else min (2 : Int).toNat (r.length + 1 + 1)) = 2
    rw [if_neg (by decide)]
    have : (2 : Int).toNat = 2 := rfl
    omega
  unfold kms_pick
  rw [h]
  rfl
theorem dict_tail {prog : Program} {w : World} {A : Around} {E : Value → Shared → Prop} {s : Shared} {value slice : PySem.Expr} {d : Addr} {k : Str} {t : Tok} {kvs : List (Str × Value)} {v : Value} {Q : Value → Shared → Prop} (hD : s.heap.DictOf (PySem.strKind prog w) d kvs) (hl : valueAt kvs k = some v) (h : ∀ tk, Q v { s with toks := tk })
    (hs : subscripted slice false (.ref d) (.str k t) = operate [.ref d, .str k t] (getItem (.ref d) (.str k t)) := by with_unfolding_all rfl) : wpAny (model prog w) A (subscriptTail value slice (.ref d) (.str k t)) Q E s :=
  tail_any hD.typeIs slot_dict_getitem.lookup (wpAny_getItem_of (strKind_is _ _ _ _) hD.mapOf hl (h _)) hs
theorem col_find {g : Heap} {cols : List (Addr × Obj)} {sz : Int} {prs : List Pr} {kvs : List (Str × Value)} (hcols : ColsIn cols sz prs kvs) (hnd : (prs.map Pr.nm).Nodup) (hcg : ∀ p ∈ cols, g.get? p.1 = some p.2) {p : Pr} (hp : p.key ∈ prs.map Pr.key) :
    ∃ (l : Addr) (vs : List Value), valueAt kvs p.nm = some (.ref l) ∧ g.IsList l vs.toArray ∧ IntsAre vs (keyCol sz p.key) := by
  obtain ⟨q, hq, e⟩ := List.mem_map.mp hp
  obtain ⟨l, vs, n, a, b, c⟩ := colsIn_at hcols hnd q hq
  have en : q.nm = p.nm := congrArg Key.nm e
  rw [en] at a
  rw [e] at c
  exact ⟨l, vs, a, ⟨_, hcg _ b, rfl, _, rfl⟩, c⟩
theorem keyCol_len (sz : Int) (k : Key) : (keyCol sz k).length = sz.toNat := by unfold keyCol; rw [List.length_map, rangeKs_length]
end
section
open PySem PySem.W PyProof.Rows PySem.Spec PySem.Calls
theorem low1_up {c : Nat} (h : 65 ≤ c ∧ c ≤ 70) : low1 ⟨#[c]⟩ = ⟨#[c + 32]⟩ := by
  show (⟨#[if c ≤ 70 then c + 32 else c]⟩ : Str) = _
  rw [if_pos h.2]
theorem low1_low {c : Nat} (h : 65 ≤ c ∧ c ≤ 70) : low1 ⟨#[c + 32]⟩ = ⟨#[c + 32]⟩ := by
  show (⟨#[if c + 32 ≤ 70 then c + 32 + 32 else c + 32]⟩ : Str) = _
  rw [if_neg (by omega)]
theorem Good.low {p : Pr} (h : Good p) : low1 (low1 p.nm) = low1 p.nm ∧ Letter (low1 p.nm) := by
  obtain ⟨⟨c, e, h1, h2⟩, _⟩ := h
  rw [e, low1_up ⟨h1, h2⟩, low1_low ⟨h1, h2⟩]
  exact ⟨rfl, c + 32, rfl, .inr (by omega)⟩
theorem Good.inj {p q : Pr} (h : Good p) (k : Good q) (e : low1 p.nm = low1 q.nm) : p.nm = q.nm := by
  obtain ⟨⟨c, e1, h1, h2⟩, _⟩ := h
  obtain ⟨⟨d, e2, k1, k2⟩, _⟩ := k
  rw [e1, e2, low1_up ⟨h1, h2⟩, low1_up ⟨k1, k2⟩] at e
  have : c + 32 = d + 32 := by
    have := congrArg (fun s : Str => s.cps.toList) e
    simpa using this
  have : c = d := by omega
  rw [e1, e2, this]
theorem filt_out {q : Pr} {l : List Pr} (hq : Good q) (hl : ∀ p ∈ l, Good p) (hn : ∀ p ∈ l, p.nm ≠ q.nm) : l.filter (fun p => !decide (low1 p.nm = low1 q.nm)) = l := by
  rw [List.filter_eq_self]
  intro p hp
  simp only [Bool.not_eq_true', decide_eq_false_iff_not]
  exact fun e => hn p hp ((hl p hp).inj hq e)
theorem filt_head {q : Pr} {l : List Pr} (hq : Good q) (hl : ∀ p ∈ l, Good p) (hn : ∀ p ∈ l, p.nm ≠ q.nm) : (q :: l).filter (fun p => !decide (low1 p.nm = low1 q.nm)) = l := by
  rw [List.filter_cons, if_neg (by simp)]
  exact filt_out hq hl hn
theorem filt_second {q r : Pr} {l : List Pr} (hq : Good q) (hr : Good r) (hl : ∀ p ∈ l, Good p) (hn : ∀ p ∈ l, p.nm ≠ q.nm) (hne : r.nm ≠ q.nm) : (r :: q :: l).filter (fun p => !decide (low1 p.nm = low1 q.nm)) = r :: l := by
  rw [List.filter_cons, if_pos (by simp only [Bool.not_eq_true', decide_eq_false_iff_not]; exact fun e => hne (hr.inj hq e)), filt_head hq hl hn]
end
section
open PySem PySem.W PyProof.Rows PySem.Spec PySem.Calls
local macro_rules | `(tactic| k_all) => `(tactic| assumption)
section
variable {prog : Program} {w : World} {A : Around} {E : Value → Shared → Prop} {s : Shared} {env : Env} {test : PySem.Expr} {body orelse : List Stmt} {Q : Flow → Shared → Prop}
theorem tok_ind' {h₀ : Heap} {s : Shared} {target : PySem.Expr} {α : Type} {I : Addr} {it : String} (f : α → Tok → Value) (J : List α → (Str → Option Value) → List (Addr × Obj) → Prop)
    (turn : ∀ c r u m news h tk o, J (c :: r) m news → Fr h₀ env.locals h m → o.cls = .type it → News h₀ env.locals h ((I, o) :: news) →
      wpAny (model prog w) A (assign target env (f c u)) (fun _ s₂ => wpAny (model prog w) A (execs body env) (UnrPostW h₀ env.locals { s with heap := h, toks := tk } [(I, o)] (J r) Q) E s₂) E { s with heap := h, toks := tk })
    (fin : ∀ m news h tk, J [] m news → Fr h₀ env.locals h m → News h₀ env.locals h news → Q .next { s with heap := h, toks := tk })
    (cs : List α) (m : Str → Option Value) (news news' : List (Addr × Obj)) (hs : ∀ q ∈ news, q ∈ news') (hJ : J cs m news) : ItemsRest prog w A E h₀ env target body Q s [(I, it)] [] (cs.map fun c => Itm.tok (f c)) m news' := by
  refine tok_ind f (fun r m news' => ∃ news, (∀ q ∈ news, q ∈ news') ∧ J r m news) ?_ ?_ cs m news' ⟨news, hs, hJ⟩
  · rintro c r u m news' h tk o ⟨news, hs, hJ⟩ F ho N
    refine wpAny_mono (turn c r u m news h tk o hJ F ho (news_sub N (List.forall_mem_cons.mpr ⟨.head _, fun q hq => .tail _ (hs q hq)⟩))) (fun _ s₂ h₂ => wpAny_mono h₂ (fun fl s₃ h₃ => ?_) fun _ _ e => e) fun _ _ e => e
    have fin' : ∀ s₃, UnrEndW h₀ env.locals { s with heap := h, toks := tk } [(I, o)] (J r) s₃ → UnrEndW h₀ env.locals { s with heap := h, toks := tk } [(I, o)] (fun m' n' => ∃ news, (∀ q ∈ news, q ∈ n') ∧ J r m' news) s₃ := by
      rintro s₃ ⟨h', tk', m', news', e, F', N', ho, r'⟩
      exact ⟨h', tk', m', news', e, F', N', ho, news', fun _ h => h, r'⟩
    cases fl with
    | ret v => exact h₃
    | brk => exact h₃
    | next => exact fin' _ h₃
    | cont => exact fin' _ h₃
  · rintro m news' h tk ⟨news, hs, hJ⟩ F N
    exact fin m news h tk hJ F (news_sub N hs)
theorem whl_ind {g : Heap} {L : Addr} (hE : PassesOwn (model prog w) A env E) (J : Nat → (Str → Option Value) → List (Addr × Obj) → Prop)
    (turn : ∀ n m news h tk, J n m news → Fr g L h m → News g L h news →
      wpAny (model prog w) A (isTrue test env (eval test env)) (fun b s₂ => WhlIf b (wpAny (model prog w) A (execs body env) (UnrPostW g L { s with heap := h, toks := tk } [] (fun m' news' => ∃ n', n' < n ∧ J n' m' news') Q) E s₂) (wpAny (model prog w) A (execs orelse env) Q E s₂)) E { s with heap := h, toks := tk }) :
    ∀ n m news h tk, J n m news → Fr g L h m → News g L h news → WhlRest prog w A E env test body orelse Q 100 { s with heap := h, toks := tk } := by
  intro n
  induction n using Nat.strongRecOn with
  | ind n ih =>
    intro m news h tk hJ F N
    refine whl_turn (k := 99) hE (wpAny_mono (turn n m news h tk hJ F N) (fun b s₂ h₂ => ?_) fun _ _ e => e)
    have fin' : ∀ s₃, UnrEndW g L { s with heap := h, toks := tk } [] (fun m' news' => ∃ n', n' < n ∧ J n' m' news') s₃ → WhlRest prog w A E env test body orelse Q 99 s₃ := by
      rintro s₃ ⟨h', tk', m', news', rfl, F', N', _, n', hlt, hJ'⟩
      exact ih n' hlt m' news' h' tk' hJ' F' N'
    unfold WhlIf at h₂ ⊢
    cases b with
    | false => exact h₂
    | true =>
      rw [if_pos rfl] at h₂ ⊢
      refine wpAny_mono h₂ (fun f s₃ h₃ => ?_) fun _ _ e => e
      cases f with
      | ret v => exact h₃
      | brk => exact h₃
      | next => exact fin' _ h₃
      | cont => exact fin' _ h₃
end
theorem my_len2 {prog : Program} {w : World} {A : Around} {E : Value → Shared → Prop} {s : Shared} {l : Addr} {items : Array Value} {n : Nat} {Q : Value → Shared → Prop} (hl : s.heap.IsList l items) (hn : items.size = n) (hz : n ≤ 64) (h : ∀ t k, Q (.int (n : Int) t) { s with toks := k }) : wpAny (model prog w) A (call (.builtin "len") [.ref l]) Q E s :=
  len_list hl (by rw [hn]; omega) (by rw [hn]; exact h _ _)
theorem small_six {ps : List Pr} {p : Pr} (h : (p :: ps).length ≤ 6) : Builtin.Range.small 0 (((p :: ps).length : Int) - 1) 1 = true := by
  rw [List.length_cons] at *
  exact small_one (by omega) (by omega) (by omega) (by omega)
theorem size_six (n : Nat) : Builtin.Range.rangeSize 0 (((n + 1 : Nat) : Int) - 1) 1 = (n : Int) := by
  rw [rangeSize_nat]; omega
def WhlBox (p : Prop) : Prop := p
theorem WhlBox.of {p : Prop} (h : WhlBox p) : p := h
theorem up3' {un c n k : Nat} (h : un + n < c) (e : k ≤ n) : un + k < c := by omega
section
variable {prog : Program} {w : World} {A : Around} {E : Value → Shared → Prop} {s : Shared}
theorem ne_nil {l b : Addr} {items : Array Value} {Q : Value → Shared → Prop} (hl : s.heap.IsList l items) (hb : s.heap.IsList b #[]) (hz : items.size = 0) (hu : A.units < cLine) (h : Q (.bool false) s) : wpAny (model prog w) A (compareOp .NotEq (.ref l) (.ref b)) Q E s :=
  SeqAt.RcNeAt.lists (e := fun _ => true) hl hb (by rw [hz]; rfl) hu (fun j h1 _ => by omega) prog w E Q (by rw [hz]; exact h)
theorem ne_cons {l b : Addr} {items : Array Value} {Q : Value → Shared → Prop} (hl : s.heap.IsList l items) (hb : s.heap.IsList b #[]) (hz : 0 < items.size) (hu : A.units < cLine) (h : Q (.bool true) s) : wpAny (model prog w) A (compareOp .NotEq (.ref l) (.ref b)) Q E s :=
  SeqAt.RcNeAt.lists_lengths hl hb (by simp only [bne_iff_ne, ne_eq, List.size_toArray, List.length_nil]; omega) hu prog w E Q h
end
local macro_rules | `(tactic| walk_at "ME name") => `(tactic| (k_here; k_dflt (refine' nameX_L ?F ?v ?_ ?a ?b; (case F => k_asm); (case a => rfl); (case b => rfl); (case v => assumption); k_whole)))
local macro_rules | `(tactic| walk_at "ME delitem") => `(tactic| (k_here; (with_reducible show wpAny _ _ (delItem (Value.ref _) _) _ _ _); k_dflt (refine' my_delItem ?F ?X ?I ?hQ ?hS ?hF ?_; (case F => k_asm); (case X => k_asm); (case I => k_inst); (case hS => k_is); (case hF => k_is); (case hQ => k_is); k_whole)))
def tups (ps : List Pr) : List (Addr × Obj) := ps.map fun p => (p.a, p.obj)
def lstE (vs : List Value) (e : Nat) : Obj := { cls := .type "list", data := .seq vs.toArray e }
def RkJ (sz : Int) (D : Addr) (ks0 fin : List Key) (hid : List Addr) (n : Nat) (m : Str → Option Value) (news : List (Addr × Obj)) : Prop :=
  ∃ (ps : List Pr) (done : List Key) (pl rl : Addr) (e1 e2 : Nat) (tp : List (Addr × Obj)), n = ps.length ∧ krank sz n (ps.map Pr.key) done = fin ∧ (∀ p ∈ ps, p.key ∈ ks0) ∧ done.length + ps.length ≤ 6 ∧ (ps.map Pr.nm).Nodup ∧ rl ∉ hid ∧
    news = (rl, lstE (done.map Key.val) e2) :: (pl, lstE (ps.map Pr.ref) e1) :: tp ∧ (∀ p ∈ ps, (p.a, p.obj) ∈ tp) ∧ (∀ q ∈ tp, q.2.cls = .type "tuple") ∧ @Ne Nat pl rl ∧
    m (Str.ofString "pairs") = some (.ref pl) ∧ m (Str.ofString "columns") = some (.ref D) ∧ m (Str.ofString "ranked") = some (.ref rl)
def TnJ (w : World) (x d pl2 rl tl D : Addr) (kt : Tok) (rlo : Obj) (sz : Int) (bd : Nat) (ks0 : List Key) (fin : List Key × List Key) (r : List Int) (m : Str → Option Value) (news : List (Addr × Obj)) : Prop :=
  ∃ (tbl ls : List Pr) (e1 e2 : Nat) (tp : List (Addr × Obj)), tbl.length = r.length + 1 ∧ krun sz r.length (tbl.map Pr.key, ls.map Pr.key) = fin ∧ (∀ p ∈ tbl ++ ls, p.key ∈ ks0) ∧ tbl.length + ls.length = bd ∧ ((tbl ++ ls).map Pr.nm).Nodup ∧
    news = (pl2, lstE (ls.map Pr.ref) e2) :: (x, instObj 265 d) :: (d, HdDict w tl kt) :: (rl, rlo) :: (tl, lstE (tbl.map Pr.ref) e1) :: tp ∧ (∀ p ∈ tbl ++ ls, (p.a, p.obj) ∈ tp) ∧ (∀ q ∈ tp, q.2.cls = .type "tuple") ∧
    m (Str.ofString "table") = some (.ref x) ∧ m (Str.ofString "pairs") = some (.ref pl2) ∧ m (Str.ofString "columns") = some (.ref D) ∧ m (Str.ofString "ranked") = some (.ref rl)
theorem first_addr {g h : Heap} {L q : Addr} {o : Obj} {r : List (Addr × Obj)} (_ : News g L h ((q, o) :: r)) : ∃ q', q' = q := ⟨q, rfl⟩
theorem off_map {l : List (Addr × Obj)} {a : Addr} (h : ∀ q ∈ l, q.1 ≠ a) : a ∉ l.map (·.1) := by
  intro hm
  obtain ⟨q, hq, e⟩ := List.mem_map.mp hm
  exact h q hq e
theorem sz64 {sz : Int} (h : sz ≤ 7) : sz.toNat ≤ 64 := by omega
theorem Good.ofKey {p q : Pr} (e : p.key = q.key) (h : Good q) : Good p := by
  obtain ⟨a, nm, tn, t, b, tv⟩ := p
  obtain ⟨a', nm', tn', t', b', tv'⟩ := q
  simp only [Pr.key, Key.mk.injEq] at e
  obtain ⟨rfl, rfl, rfl, rfl, rfl⟩ := e
  exact h
theorem turn_close {w : World} {x d pl2 rl tl D : Addr} {kt : Tok} {rlo : Obj} {sz : Int} {bd : Nat} {ks0 : List Key} {fin : List Key × List Key} {g h : Heap} {L iA : Addr} {m : Str → Option Value} {o2 : Obj} {s₁ : Shared} {tk : Nat} {all : List (Addr × Obj)} {a1 b1 p9 win los : Pr} {r1 ls : List Pr} {c : Int} {r : List Int} {e5 e6 : Nat} {tp2 : List (Addr × Obj)}
  (F : Fr g L h m) (N : News g L h all) (hI : (iA, o2) ∈ all) (h1 : (pl2, lstE ((ls ++ [los]).map Pr.ref) e5) ∈ all) (h2 : (x, instObj 265 d) ∈ all) (h3 : (d, HdDict w tl kt) ∈ all) (h4 : (rl, rlo) ∈ all) (h5 : (tl, lstE ((r1 ++ [p9]).map Pr.ref) e6) ∈ all) (h6 : (p9.a, p9.obj) ∈ all) (h7 : ∀ q ∈ tp2, q ∈ all)
  (ho : o2.cls = .type "range_iterator") (hrlc : rlo.cls = .type "list") (hk9 : p9.key = win.key)
  (hcase : (win = b1 ∧ los = a1 ∧ swaps sz a1.key b1.key = true) ∨ (win = a1 ∧ los = b1 ∧ swaps sz a1.key b1.key = false))
  (hl2 : (a1 :: b1 :: r1).length = (c :: r).length + 1) (hkr : krun sz (c :: r).length ((a1 :: b1 :: r1).map Pr.key, ls.map Pr.key) = fin) (hks2 : ∀ p ∈ (a1 :: b1 :: r1) ++ ls, p.key ∈ ks0) (hlen2 : (a1 :: b1 :: r1).length + ls.length = bd) (hnd2 : (((a1 :: b1 :: r1) ++ ls).map Pr.nm).Nodup)
  (htp2 : ∀ p ∈ (a1 :: b1 :: r1) ++ ls, (p.a, p.obj) ∈ tp2) (htc2 : ∀ q ∈ tp2, q.2.cls = .type "tuple")
  (m1 : m (Str.ofString "table") = some (.ref x)) (m2 : m (Str.ofString "pairs") = some (.ref pl2)) (m3 : m (Str.ofString "columns") = some (.ref D)) (m4 : m (Str.ofString "ranked") = some (.ref rl)) :
  UnrEndW g L s₁ [(iA, o2)] (TnJ w x d pl2 rl tl D kt rlo sz bd ks0 fin r) { s₁ with heap := h, toks := tk } := by
  have hkn : ∀ {p q : Pr}, p.key = q.key → p.nm = q.nm := fun e => congrArg Key.nm e
  refine turn_end ((pl2, lstE ((ls ++ [los]).map Pr.ref) e5) :: (x, instObj 265 d) :: (d, HdDict w tl kt) :: (rl, rlo) :: (tl, lstE ((r1 ++ [p9]).map Pr.ref) e6) :: (p9.a, p9.obj) :: tp2) F N hI ?_ ?_ ?_
  · exact List.forall_mem_cons.mpr ⟨h1, List.forall_mem_cons.mpr ⟨h2, List.forall_mem_cons.mpr ⟨h3, List.forall_mem_cons.mpr ⟨h4, List.forall_mem_cons.mpr ⟨h5, List.forall_mem_cons.mpr ⟨h6, h7⟩⟩⟩⟩⟩⟩
  · refine List.forall_mem_cons.mpr ⟨news_ne' N h1 hI (by rw [ho]; simp [lstE]), List.forall_mem_cons.mpr ⟨news_ne' N h2 hI (by rw [ho]; simp), List.forall_mem_cons.mpr ⟨news_ne' N h3 hI (by rw [ho]; simp [HdDict]), List.forall_mem_cons.mpr ⟨news_ne' N h4 hI (by rw [ho, hrlc]; simp), List.forall_mem_cons.mpr ⟨news_ne' N h5 hI (by rw [ho]; simp [lstE]), List.forall_mem_cons.mpr ⟨news_ne' N h6 hI (by rw [ho]; simp [Pr.obj]), fun q hq => news_ne' (o := q.2) N (h7 q hq) hI (by rw [ho, htc2 q hq]; simp)⟩⟩⟩⟩⟩⟩
  · have hlw : los ∈ (a1 :: b1 :: r1) ++ ls ∧ win ∈ (a1 :: b1 :: r1) ++ ls := by
      rcases hcase with ⟨rfl, rfl, _⟩ | ⟨rfl, rfl, _⟩ <;> simp
    refine ⟨r1 ++ [p9], ls ++ [los], e6, e5, (p9.a, p9.obj) :: tp2, ?_, ?_, ?_, ?_, ?_, rfl, ?_, List.forall_mem_cons.mpr ⟨rfl, htc2⟩, m1, m2, m3, m4⟩
    · simp only [List.length_cons, List.length_append, List.length_nil] at hl2 ⊢
      omega
    · rw [← hkr, List.length_cons]
      show _ = krun sz r.length (kstep sz _)
      simp only [List.map_cons, List.map_append, List.map_nil, kstep, hk9]
      rcases hcase with ⟨rfl, rfl, e⟩ | ⟨rfl, rfl, e⟩
      · rw [if_pos e]
      · rw [if_neg (by rw [e]; decide)]
    · intro p hp
      simp only [List.mem_append, List.mem_singleton] at hp
      rcases hp with (hp | rfl) | (hp | rfl)
      · exact hks2 p (by simp [hp])
      · rw [hk9]; exact hks2 _ hlw.2
      · exact hks2 p (by simp [hp])
      · exact hks2 _ hlw.1
    · simp only [List.length_cons, List.length_append, List.length_nil] at hlen2 ⊢
      omega
    · have hp : List.Perm (((r1 ++ [p9]) ++ (ls ++ [los])).map Pr.nm) (((a1 :: b1 :: r1) ++ ls).map Pr.nm) := by
        have e9 : ((r1 ++ [p9]) ++ (ls ++ [los])).map Pr.nm = ((r1 ++ [win]) ++ (ls ++ [los])).map Pr.nm := by
          simp only [List.map_append, List.map_cons, List.map_nil, hkn hk9]
        rw [e9]
        refine List.Perm.map _ ?_
        have e8 : List.Perm ((r1 ++ [win]) ++ (ls ++ [los])) (los :: (win :: (r1 ++ ls))) := by
          rw [← List.append_assoc]
          exact (List.perm_append_singleton los _).trans (List.Perm.cons _ (List.Perm.append_right ls (List.perm_append_singleton win r1)))
        refine e8.trans ?_
        rcases hcase with ⟨rfl, rfl, _⟩ | ⟨rfl, rfl, _⟩
        · exact List.Perm.refl _
        · exact List.Perm.swap _ _ _
      exact hp.symm.nodup hnd2
    · intro p hp
      simp only [List.mem_append, List.mem_singleton] at hp
      rcases hp with (hp | rfl) | (hp | rfl)
      · exact .tail _ (htp2 p (by simp [hp]))
      · exact .head _
      · exact .tail _ (htp2 p (by simp [hp]))
      · exact .tail _ (htp2 _ hlw.1)
end
section
open PySem PySem.W PyProof.Rows PySem.Spec PySem.Calls
local macro_rules | `(tactic| k_all) => `(tactic| assumption)
local macro_rules | `(tactic| walk_at "ME name") => `(tactic| (k_here; k_dflt (refine' nameX_L ?F ?v ?_ ?a ?b; (case F => k_asm); (case a => rfl); (case b => rfl); (case v => assumption); k_whole)))
local macro_rules | `(tactic| walk_at "ME delitem") => `(tactic| (k_here; (with_reducible show wpAny _ _ (delItem (Value.ref _) _) _ _ _); k_dflt (refine' my_delItem ?F ?X ?I ?hQ ?hS ?hF ?_; (case F => k_asm); (case X => k_asm); (case I => k_inst); (case hS => k_is); (case hF => k_is); (case hQ => k_is); k_whole)))
theorem all_lt_ne {d : Nat} : ∀ {l : List (Addr × Obj)}, AllLt d l → ∀ q ∈ l, q.1 ≠ d
  | [], _, _, hq => (nomatch hq)
  | _ :: _, h, _, hq => by
    rcases List.mem_cons.mp hq with rfl | hq
    · exact Nat.ne_of_lt h.1
    · exact all_lt_ne h.2 _ hq
theorem krank_step {sz : Int} {k : Key} {ks d ls : List Key} {n : Nat} (hn : n = ks.length) {x : Key} (h : krun sz n (k :: ks, []) = ([x], ls)) : krank sz (n + 1) (k :: ks) d = krank sz n ls (d ++ [x]) := by
  subst hn
  show krank sz ks.length (krun sz ks.length (k :: ks, [])).2 (d ++ (krun sz ks.length (k :: ks, [])).1) = _
  rw [h]
theorem swaps_1 {sz : Int} {p q : Key} (h : votesF (keyCol sz p) (keyCol sz q) < 0) : swaps sz p q = true := by
  unfold swaps kvotes; rw [decide_eq_true h]; rfl
theorem swaps_2 {sz : Int} {p q : Key} (h : votesF (keyCol sz p) (keyCol sz q) = 0) (k : q.nm.cps.toList < p.nm.cps.toList) : swaps sz p q = true := by
  unfold swaps kvotes; rw [decide_eq_true h, decide_eq_true k, Bool.and_self, Bool.or_true]
theorem swaps_3 {sz : Int} {p q : Key} (h : ¬ votesF (keyCol sz p) (keyCol sz q) < 0) (k : ¬ q.nm.cps.toList < p.nm.cps.toList) : swaps sz p q = false := by
  unfold swaps kvotes; rw [decide_eq_false h, decide_eq_false k, Bool.and_false, Bool.or_false]
theorem swaps_4 {sz : Int} {p q : Key} (h : ¬ votesF (keyCol sz p) (keyCol sz q) < 0) (k : votesF (keyCol sz p) (keyCol sz q) ≠ 0) : swaps sz p q = false := by
  unfold swaps kvotes; rw [decide_eq_false h, decide_eq_false k, Bool.false_and, Bool.or_false]
set_option maxRecDepth 100000 in
set_option maxHeartbeats 8000000 in
theorem hd_use {w : World} {mean : ExcName → Option Value} {mg mb : Str → Option Value} {dp un : Nat} {gd : Option (List Code)} {cn : Str} {cs : Scope} {a : Addr} {ccd : Value} {cl : List (Str × Addr)} {outer : List Env} {A₀ : Around} {base h₀ : Heap} {L : Addr} {m : Str → Option Value} {s : Shared} {Q E : Value → Shared → Prop}
  (B : Below A₀ base outer h₀) (F : Fr h₀ L s.heap m) (X : (heapK w.params).In h₀)
  (T : Top viewK LS mean mg mb h₀) (hk : cs.kind = .function)
  {news : List (Addr × Obj)} {pl : Addr} {prs : List Pr} {e : Nat} (N : News h₀ L s.heap news) (m1 : (pl, ({ cls := .type "list", data := .seq (prs.map Pr.ref).toArray e } : Obj)) ∈ news) (hprs : ∀ p ∈ prs, (p.a, p.obj) ∈ news)
  (hok : ∀ p ∈ prs, Good p)
  (hd' : dp + 8 < recursionLimit) (hu : un + 100 < cLine)
  (ret : ∀ x d kt h' tk', Fr h₀ L h' m → News h₀ L h' ((x, instObj 265 d) :: (d, HdDict w pl kt) :: news) → (∀ q ∈ news, q.1 < d) → @LT.lt Nat _ d x → Q (.ref x) {s with heap := h', toks := tk'}) :
  wpAny (model PySem.Challenge.rw_pg0308_01.row.prog w) (ktrTop dp un gd cn cs L a ccd cl outer) (call (.ref 265) [.ref pl]) Q E s := by
  refine hd_c B F X T hk pl prs e (news_sub N (List.forall_mem_cons.mpr ⟨m1, fun _ hq => nomatch hq⟩)) (fun p hp => (N _ (hprs p hp)).1) (fun p hp => news_ne' N (hprs p hp) m1 (by simp [Pr.obj])) hok hd' hu fun x d kt h' tk' k1 k2 k3 k4 k5 => ?_
  have hlt := news_lt N
  refine ret x d kt h' tk' (F.keeps k1) ?_ (fun q hq => Nat.lt_of_lt_of_le (hlt q hq) k4) k5
  have NN := news_new (l := [(x, instObj 265 d), (d, HdDict w pl kt)]) F (List.forall_mem_cons.mpr ⟨⟨k2, Nat.le_of_lt (Nat.lt_of_le_of_lt k4 k5)⟩, List.forall_mem_cons.mpr ⟨⟨k3, k4⟩, fun _ hq => nomatch hq⟩⟩)
  exact News.append NN (N.grown k1)
set_option maxRecDepth 100000 in
set_option maxHeartbeats 8000000 in
theorem ranked_c {w : World} {mean : ExcName → Option Value} {mg mb : Str → Option Value} {dp un : Nat} {gd : Option (List Code)} {cn : Str} {cs : Scope} {a : Addr} {ccd : Value} {cl : List (Str × Addr)} {outer : List Env} {A₀ : Around} {base h₀ : Heap} {L : Addr} {m : Str → Option Value} {s : Shared} {Q E : Value → Shared → Prop}
  (B : Below A₀ base outer h₀) (F : Fr h₀ L s.heap m) (X : (heapK w.params).In h₀)
  (T : Top viewK LS mean mg mb h₀) (hk : cs.kind = .function)
  (pl D : Addr) (prs : List Pr) (e : Nat) (sz : Int) (kvs : List (Str × Value)) (cols : List (Addr × Obj)) (N0 : News h₀ L s.heap ((pl, lstE (prs.map Pr.ref) e) :: tups prs))
  (hD : s.heap.DictOf (PySem.strKind PySem.Challenge.rw_pg0308_01.row.prog w) D kvs) (hDn : ∀ q ∈ (pl, lstE (prs.map Pr.ref) e) :: tups prs, q.1 ≠ D) (hcols : ColsIn cols sz prs kvs) (hcs : ∀ p ∈ cols, s.heap.get? p.1 = some p.2 ∧ ∀ q ∈ (pl, lstE (prs.map Pr.ref) e) :: tups prs, q.1 ≠ p.1)
  (hok : ∀ p ∈ prs, Good p) (hn : prs.length ≤ 6) (hnd : (prs.map Pr.nm).Nodup) (hs3 : 3 ≤ sz) (hs7 : sz ≤ 7)
  (hd' : dp + 12 < recursionLimit) (hu : un + 140 < cLine)
  (ret : ∀ R h' tk' e', (∀ b o, b ∉ List.map (·.1) ((pl, lstE (prs.map Pr.ref) e) :: tups prs) → s.heap.get? b = some o → h'.get? b = some o) → h'.get? R = some (lstE ((krank sz prs.length (prs.map Pr.key) []).map Key.val) e') → s.heap.get? R = none → Q (.ref R) {s with heap := h', toks := tk'}) :
  wpAny (model PySem.Challenge.rw_pg0308_01.row.prog w) (ktrTop dp un gd cn cs L a ccd cl outer) (call (.ref 286) [.ref pl, .ref D]) Q E s := by
  unfold lstE tups at N0
  k_with_none
  k_with "eval Name" => walk_at "ME name"

  k_with "call ref" => ((with_reducible show wpAny _ _ (call (Value.ref 265) _) _ _ _); k_dflt ((rename Fr _ _ _ _ => lF'); (rename News _ _ _ _ => lN'); (refine' hd_use ?k1 lF' ?k3 ?k4 ?k5 (prs := p :: ps) lN' ?m1 ?h1 ?h2 ?a3 ?a4 ?kr; (case k1 => k_asm); (case k3 => k_asm); (case k4 => k_asm); (case k5 => exact rfl); (case m1 => k_mem); (case h1 => (intro q hq; (repeat (first | exact htp q hq | apply List.mem_cons_of_mem)))); (case h2 => exact hok1); (case a3 => exact up1 (by assumption) (by decide)); (case a4 => exact up3 (by assumption) (by decide))); intro x9 d9 kt9 h9 tk9 F' N' l9 l10; (k_lt l9); clear lF' lN'; unfold HdDict at N'; (try dsimp only)))
  k_with "call builtin:len" => (k_dflt (refine' my_len2 (n := (p :: ps).length) ?q1 ?q2 ?q3 ?_; (case q1 => exact News.isList (by k_asm) (by k_mem)); (case q2 => rw [List.size_toArray, List.length_map]); (case q3 => exact Nat.le_trans hlen (by decide)); k_whole; intro t' k'))
  k_with "exec For Name Call cons nil" => (k_here; (rename Fr _ _ _ _ => lF'); (with_unfolding_all refine' For_turns lF' ?_; k_whole))
  k_with "pyIter ref" => ((rename Fr _ _ _ _ => lF'); (rename News _ _ _ _ => lN'); (with_unfolding_all refine iter_rangeTurns (n := ps.length) (by intro _ _; rfl) (by rfl) (by assumption) (small_six hlen) (size_six ps.length) lF' lN' ?_); clear lF' lN'; intro i' l1; (try k_lt l1))
  k_with "subscriptTail" => (k_here; (with_reducible show wpAny _ _ (subscriptTail _ (PySem.Expr.Slice none none none _) (Value.ref _) (Value.ref _)) _ _ _); k_dflt (refine' kms_slice_lit ?u1 ?u2 ?u3 ?u4 ?u5 ?u6 ?_ ?u7 ?u8 ?u9; (case u1 => k_asm); (case u2 => k_asm); (case u3 => exact News.isList (by k_asm) (by k_mem)); (case u4 => kmk_part); (case u5 => kmk_part); (case u6 => exact pick_all _); (case u7 => with_unfolding_all rfl); (case u8 => kmk_pure); (case u9 => (rw [List.size_toArray, List.length_map, sizeLine_eq]; exact Nat.le_trans hlen3 (by decide)))); intro D' h' F' N' l1; (try k_lt l1))
  k_with "subscriptTail" => (k_here; (with_reducible show wpAny _ _ (subscriptTail _ (PySem.Expr.Slice none (some _) none _) (Value.ref _) (Value.ref _)) _ _ _); k_dflt (refine' kms_slice_lit ?w1 ?w2 ?w3 ?w4 ?w5 ?w6 ?_ ?w7 ?w8 ?w9; (case w1 => k_asm); (case w2 => k_asm); (case w3 => exact News.isList (by k_asm) (by k_mem)); (case w4 => kmk_part); (case w5 => kmk_part); (case w6 => exact pick_two _ _ _); (case w7 => with_unfolding_all rfl); (case w8 => kmk_pure); (case w9 => (rw [List.size_toArray, List.length_map, sizeLine_eq]; exact Nat.le_trans hlen3 (by decide)))); intro D' h' F' N' l1; (try k_lt l1))
  k_with "subscriptTail" => ((with_reducible show wpAny _ _ (subscriptTail _ _ (Value.ref D) (Value.str _ _)) _ _ _); k_dflt (refine dict_tail (Heap.DictOf.keep hDg (Fr.keep (by k_asm))) (by assumption) ?_; intro tk'))
  k_with "call ref" => ((with_reducible show wpAny _ _ (call (Value.ref 279) _) _ _ _); k_dflt ((rename Fr _ _ _ _ => lF'); (rename News _ _ _ _ => lN'); (refine' votes_c ?v1 lF' ?v3 ?v4 ?v5 _ _ _ _ _ _ (islist_up lF' cA2) cA3 (islist_up lF' cB2) cB3 ?v6 ?v7 ?v8 ?v9 ?v0; (case v1 => k_asm); (case v3 => k_asm); (case v4 => k_asm); (case v5 => exact rfl); (case v6 => rw [keyCol_len, keyCol_len]); (case v7 => rw [keyCol_len]; exact sz64 hs7); (case v8 => exact up1 (by assumption) (by decide)); (case v9 => exact up3 (by assumption) (by decide))); intro t9 h9 tk9 kp9; (have F' := Fr.keeps lF' kp9); (have N' := News.grown lN' kp9); clear lF' lN' kp9; (try dsimp only)))
  k_with "call builtin:list.append" => ((with_reducible show wpAny _ _ (call (Value.builtin _) [Value.ref _, _]) _ _ _); k_dflt (refine' append_K ?g1 ?g2 ?g3 ?_ ?g4; (case g1 => k_asm); (case g2 => k_asm); (case g3 => k_upd); (case g4 => (rw [List.size_toArray, List.length_map, sizeLine_eq]; exact Nat.le_trans hls6 (by decide))); k_whole); intro h' F' N'; (try dsimp only at N'))
  k_with "call builtin:list.append" => ((with_reducible show wpAny _ _ (call (Value.builtin _) [Value.ref rl, _]) _ _ _); k_dflt (refine' append_K ?f1 ?f2 ?f3 ?_ ?f4; (case f1 => k_asm); (case f2 => k_asm); (case f3 => k_upd); (case f4 => (rw [List.size_toArray, List.length_map, sizeLine_eq]; exact Nat.le_trans hdone (by decide))); k_whole); intro h' F' N'; (try dsimp only at N'))
  k_with "call ref" => ((with_reducible show wpAny _ _ (call (Value.ref 217) _) _ _ _); k_dflt ((rename Fr _ _ _ _ => lF'); (rename News _ _ _ _ => lN'); (try dsimp only at lF' lN'); (refine' keys_c ?y1 lF' ?y3 ?y4 ?y5 x9 d9 pl1 p1 e3 kt9 (news_sub lN' ?y6) ?y7 ?y8 ?y9; (case y1 => k_asm); (case y3 => k_asm); (case y4 => k_asm); (case y5 => exact rfl); (case y6 => exact List.forall_mem_cons.mpr ⟨by k_mem, List.forall_mem_cons.mpr ⟨by k_mem, List.forall_mem_cons.mpr ⟨by k_mem, List.forall_mem_cons.mpr ⟨by (repeat (first | exact hm1 | apply List.mem_cons_of_mem)), fun _ hq => nomatch hq⟩⟩⟩⟩); (case y7 => exact up1 (by assumption) (by decide)); (case y8 => exact up3 (by assumption) (by decide))); intro D9 h9 tk9 kp9 hD9 hD0; (have F' := Fr.keeps lF' kp9); (have q9 : @Ne Nat D9 rl := fun e => by (have e' : D9 = rl := e; rw [e', (lN' (rl, _) (by k_mem)).1] at hD0; cases hD0)); (have N' := News.append (news_fresh lF' (l := [(D9, LCg.lst [.str p1.nm p1.tn])]) (List.forall_mem_cons.mpr ⟨⟨hD9, hD0⟩, fun _ hq => nomatch hq⟩)) (News.grown lN' kp9)); clear lF' lN' kp9 hD9 hD0; (simp only [List.cons_append, List.nil_append] at N'); (try dsimp only)))
  k_with "call builtin:str.lower" => (k_dflt (refine lower_call (by assumption) ?_; k_whole; intro t' k'))
  k_with "delItem ref str" => walk_at "ME delitem"
  k_with "delItem ref" => walk_at "ME delitem"
  k_with "call ref" => ((with_reducible show wpAny _ _ (call (Value.ref 183) _) _ _ _); k_dflt ((rename Fr _ _ _ _ => lF'); (rename News _ _ _ _ => lN'); (refine' del_use ?d1_1 lF' ?d3_1 ?d4_1 ?d5_1 (prs := a1 :: b1 :: r1) lN' ?d6_1 ?d7_1 ?U1_1 ?h1_1 ?h3_1 ?h4_1 ?h5_1 ?h6_1 ?d8_1 ?d9_1 ?d0_1; (case d1_1 => k_asm); (case d3_1 => k_asm); (case d4_1 => k_asm); (case d5_1 => exact rfl); (case d6_1 => k_mem); (case d7_1 => k_mem); (case U1_1 => k_updF); (case h1_1 => exact fun q hq => (lN' _ (by have hm := htp2 q (List.mem_append_left _ hq); repeat (first | exact hm | apply List.mem_cons_of_mem))).1); (case h3_1 => exact hne3); (case h4_1 => exact hlen3); (case h5_1 => exact hok3); (case h6_1 => assumption); (case d8_1 => exact up1 (by assumption) (by decide)); (case d9_1 => exact up3 (by assumption) (by decide))); intro h9 tk9 e9 kp9 F' N'; clear lF' lN' kp9; (first | rw [hfA] at N' | rw [hfB] at N'); (try dsimp only at N'); (try dsimp only)))
  k_with "call ref" => ((with_reducible show wpAny _ _ (call (Value.ref 178) _) _ _ _); k_dflt ((rename Fr _ _ _ _ => lF'); (rename News _ _ _ _ => lN'); (first
    | (refine' set_use ?s1_1 lF' ?s3_1 ?s4_1 ?s5_1 (prs := b1 :: r1) (p0 := b1) lN' ?s6_1 ?s7_1 ?s8_1 ?s9_1 ?t1_1 ?t2_1 ?t3_1 ?t4_1 ?t5_1 ?t6_1 ?t7_1; (case s1_1 => k_asm); (case s3_1 => k_asm); (case s4_1 => k_asm); (case s5_1 => exact rfl); (case s6_1 => k_mem); (case s7_1 => k_mem); (case s8_1 => k_updF); (case s9_1 => exact fun q hq => (lN' _ (by have hm := htp2 q (List.mem_append_left _ (.tail _ hq)); repeat (first | exact hm | apply List.mem_cons_of_mem))).1); (case t1_1 => exact fun q hq => hne3 q (.tail _ hq)); (case t2_1 => exact Nat.le_trans (Nat.le_succ _) hlen3); (case t3_1 => exact fun q hq => hok3 q (.tail _ hq)); (case t4_1 => exact gb); (case t5_1 => exact up1 (by assumption) (by decide)); (case t6_1 => exact up3 (by assumption) (by decide)); (intro h9 tk9 e9 p9 hp9 kp9 F' N'; clear lF' lN' kp9; rw [hsB] at N'; (try dsimp only at N'); (try dsimp only)))
    | (refine' set_use ?s1_1 lF' ?s3_1 ?s4_1 ?s5_1 (prs := a1 :: r1) (p0 := a1) lN' ?s6_1 ?s7_1 ?s8_1 ?s9_1 ?t1_1 ?t2_1 ?t3_1 ?t4_1 ?t5_1 ?t6_1 ?t7_1; (case s1_1 => k_asm); (case s3_1 => k_asm); (case s4_1 => k_asm); (case s5_1 => exact rfl); (case s6_1 => k_mem); (case s7_1 => k_mem); (case s8_1 => k_updF); (case s9_1 => exact fun q hq => (lN' _ (by have hm := htp2 q (List.mem_append_left _ (List.mem_cons.mpr (by rcases List.mem_cons.mp hq with h | h; exact .inl h; exact .inr (.tail _ h)))); repeat (first | exact hm | apply List.mem_cons_of_mem))).1); (case t1_1 => exact fun q hq => hne3 q (List.mem_cons.mpr (by rcases List.mem_cons.mp hq with h | h; exact .inl h; exact .inr (.tail _ h)))); (case t2_1 => exact Nat.le_trans (Nat.le_succ _) hlen3); (case t3_1 => exact fun q hq => hok3 q (List.mem_cons.mpr (by rcases List.mem_cons.mp hq with h | h; exact .inl h; exact .inr (.tail _ h)))); (case t4_1 => exact ga); (case t5_1 => exact up1 (by assumption) (by decide)); (case t6_1 => exact up3 (by assumption) (by decide)); (intro h9 tk9 e9 p9 hp9 kp9 F' N'; clear lF' lN' kp9; rw [hsA] at N'; (try dsimp only at N'); (try dsimp only))))))
  k_with "call ref" => ((with_reducible show wpAny _ _ (call (Value.ref 183) _) _ _ _); k_dflt ((rename Fr _ _ _ _ => lF'); (rename News _ _ _ _ => lN'); (refine' del_use ?d1_2 lF' ?d3_2 ?d4_2 ?d5_2 (prs := a1 :: b1 :: r1) lN' ?d6_2 ?d7_2 ?U1_2 ?h1_2 ?h3_2 ?h4_2 ?h5_2 ?h6_2 ?d8_2 ?d9_2 ?d0_2; (case d1_2 => k_asm); (case d3_2 => k_asm); (case d4_2 => k_asm); (case d5_2 => exact rfl); (case d6_2 => k_mem); (case d7_2 => k_mem); (case U1_2 => k_updF); (case h1_2 => exact fun q hq => (lN' _ (by have hm := htp2 q (List.mem_append_left _ hq); repeat (first | exact hm | apply List.mem_cons_of_mem))).1); (case h3_2 => exact hne3); (case h4_2 => exact hlen3); (case h5_2 => exact hok3); (case h6_2 => assumption); (case d8_2 => exact up1 (by assumption) (by decide)); (case d9_2 => exact up3 (by assumption) (by decide))); intro h9 tk9 e9 kp9 F' N'; clear lF' lN' kp9; (first | rw [hfA] at N' | rw [hfB] at N'); (try dsimp only at N'); (try dsimp only)))
  k_with "call ref" => ((with_reducible show wpAny _ _ (call (Value.ref 178) _) _ _ _); k_dflt ((rename Fr _ _ _ _ => lF'); (rename News _ _ _ _ => lN'); (first
    | (refine' set_use ?s1_2 lF' ?s3_2 ?s4_2 ?s5_2 (prs := b1 :: r1) (p0 := b1) lN' ?s6_2 ?s7_2 ?s8_2 ?s9_2 ?t1_2 ?t2_2 ?t3_2 ?t4_2 ?t5_2 ?t6_2 ?t7_2; (case s1_2 => k_asm); (case s3_2 => k_asm); (case s4_2 => k_asm); (case s5_2 => exact rfl); (case s6_2 => k_mem); (case s7_2 => k_mem); (case s8_2 => k_updF); (case s9_2 => exact fun q hq => (lN' _ (by have hm := htp2 q (List.mem_append_left _ (.tail _ hq)); repeat (first | exact hm | apply List.mem_cons_of_mem))).1); (case t1_2 => exact fun q hq => hne3 q (.tail _ hq)); (case t2_2 => exact Nat.le_trans (Nat.le_succ _) hlen3); (case t3_2 => exact fun q hq => hok3 q (.tail _ hq)); (case t4_2 => exact gb); (case t5_2 => exact up1 (by assumption) (by decide)); (case t6_2 => exact up3 (by assumption) (by decide)); (intro h9 tk9 e9 p9 hp9 kp9 F' N'; clear lF' lN' kp9; rw [hsB] at N'; (try dsimp only at N'); (try dsimp only)))
    | (refine' set_use ?s1_2 lF' ?s3_2 ?s4_2 ?s5_2 (prs := a1 :: r1) (p0 := a1) lN' ?s6_2 ?s7_2 ?s8_2 ?s9_2 ?t1_2 ?t2_2 ?t3_2 ?t4_2 ?t5_2 ?t6_2 ?t7_2; (case s1_2 => k_asm); (case s3_2 => k_asm); (case s4_2 => k_asm); (case s5_2 => exact rfl); (case s6_2 => k_mem); (case s7_2 => k_mem); (case s8_2 => k_updF); (case s9_2 => exact fun q hq => (lN' _ (by have hm := htp2 q (List.mem_append_left _ (List.mem_cons.mpr (by rcases List.mem_cons.mp hq with h | h; exact .inl h; exact .inr (.tail _ h)))); repeat (first | exact hm | apply List.mem_cons_of_mem))).1); (case t1_2 => exact fun q hq => hne3 q (List.mem_cons.mpr (by rcases List.mem_cons.mp hq with h | h; exact .inl h; exact .inr (.tail _ h)))); (case t2_2 => exact Nat.le_trans (Nat.le_succ _) hlen3); (case t3_2 => exact fun q hq => hok3 q (List.mem_cons.mpr (by rcases List.mem_cons.mp hq with h | h; exact .inl h; exact .inr (.tail _ h)))); (case t4_2 => exact ga); (case t5_2 => exact up1 (by assumption) (by decide)); (case t6_2 => exact up3 (by assumption) (by decide)); (intro h9 tk9 e9 p9 hp9 kp9 F' N'; clear lF' lN' kp9; rw [hsA] at N'; (try dsimp only at N'); (try dsimp only))))))
  k_with "call ref" => ((with_reducible show wpAny _ _ (call (Value.ref 183) _) _ _ _); k_dflt ((rename Fr _ _ _ _ => lF'); (rename News _ _ _ _ => lN'); (refine' del_use ?d1_3 lF' ?d3_3 ?d4_3 ?d5_3 (prs := a1 :: b1 :: r1) lN' ?d6_3 ?d7_3 ?U1_3 ?h1_3 ?h3_3 ?h4_3 ?h5_3 ?h6_3 ?d8_3 ?d9_3 ?d0_3; (case d1_3 => k_asm); (case d3_3 => k_asm); (case d4_3 => k_asm); (case d5_3 => exact rfl); (case d6_3 => k_mem); (case d7_3 => k_mem); (case U1_3 => k_updF); (case h1_3 => exact fun q hq => (lN' _ (by have hm := htp2 q (List.mem_append_left _ hq); repeat (first | exact hm | apply List.mem_cons_of_mem))).1); (case h3_3 => exact hne3); (case h4_3 => exact hlen3); (case h5_3 => exact hok3); (case h6_3 => assumption); (case d8_3 => exact up1 (by assumption) (by decide)); (case d9_3 => exact up3 (by assumption) (by decide))); intro h9 tk9 e9 kp9 F' N'; clear lF' lN' kp9; (first | rw [hfA] at N' | rw [hfB] at N'); (try dsimp only at N'); (try dsimp only)))
  k_with "call ref" => ((with_reducible show wpAny _ _ (call (Value.ref 178) _) _ _ _); k_dflt ((rename Fr _ _ _ _ => lF'); (rename News _ _ _ _ => lN'); (first
    | (refine' set_use ?s1_3 lF' ?s3_3 ?s4_3 ?s5_3 (prs := b1 :: r1) (p0 := b1) lN' ?s6_3 ?s7_3 ?s8_3 ?s9_3 ?t1_3 ?t2_3 ?t3_3 ?t4_3 ?t5_3 ?t6_3 ?t7_3; (case s1_3 => k_asm); (case s3_3 => k_asm); (case s4_3 => k_asm); (case s5_3 => exact rfl); (case s6_3 => k_mem); (case s7_3 => k_mem); (case s8_3 => k_updF); (case s9_3 => exact fun q hq => (lN' _ (by have hm := htp2 q (List.mem_append_left _ (.tail _ hq)); repeat (first | exact hm | apply List.mem_cons_of_mem))).1); (case t1_3 => exact fun q hq => hne3 q (.tail _ hq)); (case t2_3 => exact Nat.le_trans (Nat.le_succ _) hlen3); (case t3_3 => exact fun q hq => hok3 q (.tail _ hq)); (case t4_3 => exact gb); (case t5_3 => exact up1 (by assumption) (by decide)); (case t6_3 => exact up3 (by assumption) (by decide)); (intro h9 tk9 e9 p9 hp9 kp9 F' N'; clear lF' lN' kp9; rw [hsB] at N'; (try dsimp only at N'); (try dsimp only)))
    | (refine' set_use ?s1_3 lF' ?s3_3 ?s4_3 ?s5_3 (prs := a1 :: r1) (p0 := a1) lN' ?s6_3 ?s7_3 ?s8_3 ?s9_3 ?t1_3 ?t2_3 ?t3_3 ?t4_3 ?t5_3 ?t6_3 ?t7_3; (case s1_3 => k_asm); (case s3_3 => k_asm); (case s4_3 => k_asm); (case s5_3 => exact rfl); (case s6_3 => k_mem); (case s7_3 => k_mem); (case s8_3 => k_updF); (case s9_3 => exact fun q hq => (lN' _ (by have hm := htp2 q (List.mem_append_left _ (List.mem_cons.mpr (by rcases List.mem_cons.mp hq with h | h; exact .inl h; exact .inr (.tail _ h)))); repeat (first | exact hm | apply List.mem_cons_of_mem))).1); (case t1_3 => exact fun q hq => hne3 q (List.mem_cons.mpr (by rcases List.mem_cons.mp hq with h | h; exact .inl h; exact .inr (.tail _ h)))); (case t2_3 => exact Nat.le_trans (Nat.le_succ _) hlen3); (case t3_3 => exact fun q hq => hok3 q (List.mem_cons.mpr (by rcases List.mem_cons.mp hq with h | h; exact .inl h; exact .inr (.tail _ h)))); (case t4_3 => exact ga); (case t5_3 => exact up1 (by assumption) (by decide)); (case t6_3 => exact up3 (by assumption) (by decide)); (intro h9 tk9 e9 p9 hp9 kp9 F' N'; clear lF' lN' kp9; rw [hsA] at N'; (try dsimp only at N'); (try dsimp only))))))
  k_with "call ref" => ((with_reducible show wpAny _ _ (call (Value.ref 183) _) _ _ _); k_dflt ((rename Fr _ _ _ _ => lF'); (rename News _ _ _ _ => lN'); (refine' del_use ?d1_4 lF' ?d3_4 ?d4_4 ?d5_4 (prs := a1 :: b1 :: r1) lN' ?d6_4 ?d7_4 ?U1_4 ?h1_4 ?h3_4 ?h4_4 ?h5_4 ?h6_4 ?d8_4 ?d9_4 ?d0_4; (case d1_4 => k_asm); (case d3_4 => k_asm); (case d4_4 => k_asm); (case d5_4 => exact rfl); (case d6_4 => k_mem); (case d7_4 => k_mem); (case U1_4 => k_updF); (case h1_4 => exact fun q hq => (lN' _ (by have hm := htp2 q (List.mem_append_left _ hq); repeat (first | exact hm | apply List.mem_cons_of_mem))).1); (case h3_4 => exact hne3); (case h4_4 => exact hlen3); (case h5_4 => exact hok3); (case h6_4 => assumption); (case d8_4 => exact up1 (by assumption) (by decide)); (case d9_4 => exact up3 (by assumption) (by decide))); intro h9 tk9 e9 kp9 F' N'; clear lF' lN' kp9; (first | rw [hfA] at N' | rw [hfB] at N'); (try dsimp only at N'); (try dsimp only)))
  k_with "call ref" => ((with_reducible show wpAny _ _ (call (Value.ref 178) _) _ _ _); k_dflt ((rename Fr _ _ _ _ => lF'); (rename News _ _ _ _ => lN'); (first
    | (refine' set_use ?s1_4 lF' ?s3_4 ?s4_4 ?s5_4 (prs := b1 :: r1) (p0 := b1) lN' ?s6_4 ?s7_4 ?s8_4 ?s9_4 ?t1_4 ?t2_4 ?t3_4 ?t4_4 ?t5_4 ?t6_4 ?t7_4; (case s1_4 => k_asm); (case s3_4 => k_asm); (case s4_4 => k_asm); (case s5_4 => exact rfl); (case s6_4 => k_mem); (case s7_4 => k_mem); (case s8_4 => k_updF); (case s9_4 => exact fun q hq => (lN' _ (by have hm := htp2 q (List.mem_append_left _ (.tail _ hq)); repeat (first | exact hm | apply List.mem_cons_of_mem))).1); (case t1_4 => exact fun q hq => hne3 q (.tail _ hq)); (case t2_4 => exact Nat.le_trans (Nat.le_succ _) hlen3); (case t3_4 => exact fun q hq => hok3 q (.tail _ hq)); (case t4_4 => exact gb); (case t5_4 => exact up1 (by assumption) (by decide)); (case t6_4 => exact up3 (by assumption) (by decide)); (intro h9 tk9 e9 p9 hp9 kp9 F' N'; clear lF' lN' kp9; rw [hsB] at N'; (try dsimp only at N'); (try dsimp only)))
    | (refine' set_use ?s1_4 lF' ?s3_4 ?s4_4 ?s5_4 (prs := a1 :: r1) (p0 := a1) lN' ?s6_4 ?s7_4 ?s8_4 ?s9_4 ?t1_4 ?t2_4 ?t3_4 ?t4_4 ?t5_4 ?t6_4 ?t7_4; (case s1_4 => k_asm); (case s3_4 => k_asm); (case s4_4 => k_asm); (case s5_4 => exact rfl); (case s6_4 => k_mem); (case s7_4 => k_mem); (case s8_4 => k_updF); (case s9_4 => exact fun q hq => (lN' _ (by have hm := htp2 q (List.mem_append_left _ (List.mem_cons.mpr (by rcases List.mem_cons.mp hq with h | h; exact .inl h; exact .inr (.tail _ h)))); repeat (first | exact hm | apply List.mem_cons_of_mem))).1); (case t1_4 => exact fun q hq => hne3 q (List.mem_cons.mpr (by rcases List.mem_cons.mp hq with h | h; exact .inl h; exact .inr (.tail _ h)))); (case t2_4 => exact Nat.le_trans (Nat.le_succ _) hlen3); (case t3_4 => exact fun q hq => hok3 q (List.mem_cons.mpr (by rcases List.mem_cons.mp hq with h | h; exact .inl h; exact .inr (.tail _ h)))); (case t4_4 => exact ga); (case t5_4 => exact up1 (by assumption) (by decide)); (case t6_4 => exact up3 (by assumption) (by decide)); (intro h9 tk9 e9 p9 hp9 kp9 F' N'; clear lF' lN' kp9; rw [hsA] at N'; (try dsimp only at N'); (try dsimp only))))))
  k_with "last exec While" => (k_here; k_dflt (refine whl_start 100 (WhlBox.of ?_)))
  k_with "compareOp NotEq ref ref" => (k_dflt (first
    | (refine' ne_nil ?a ?b ?z ?u ?_; (case a => exact News.isList (by k_asm) (by k_mem)); (case b => exact News.isList (by k_asm) (List.Mem.head _)); (case z => rfl); (case u => exact up3' (un := un) (by assumption) (by decide)); k_whole)
    | (refine' ne_cons ?a ?b ?z ?u ?_; (case a => exact News.isList (by k_asm) (by k_mem)); (case b => exact News.isList (by k_asm) (List.Mem.head _)); (case z => exact Nat.succ_pos _); (case u => exact up3' (un := un) (by assumption) (by decide)); k_whole)))
  revert X
  k_fill
  intro X
  refine wpAny_call ?_
  k_dflt walk_at "ME enter"
  rename GSub _ _ _ => kG
  have hDg := Heap.DictOf.at hD (fun o e => kG _ o e (off_map hDn))
  have hcg : ∀ p ∈ cols, _ = some p.2 := fun p hp => kG _ _ (hcs p hp).1 (off_map (hcs p hp).2)
  (try dsimp only); (try k_fold)
  k_steps
  unfold WhlBox
  refine whl_ind ?hE (RkJ sz D (prs.map Pr.key) (krank sz prs.length (prs.map Pr.key) []) (List.map (·.1) ((pl, lstE (prs.map Pr.ref) e) :: tups prs))) ?turn prs.length _ _ _ _ ?h0 (by k_asm) (by k_asm)
  case hE => k_dflt (first | passes_own | with_unfolding_all passes_own)
  case h0 =>
    rename (_ ∧ _) => l9
    refine ⟨prs, [], pl, _, e, 0, tups prs, rfl, rfl, fun p hp => List.mem_map_of_mem hp, by rw [List.length_nil, Nat.zero_add]; exact hn, hnd, ?hrl, rfl, fun p hp => List.mem_map_of_mem (f := fun p : Pr => (p.a, p.obj)) hp, ?_, ?_, ?_, ?_, ?_⟩
    case hrl =>
      exact off_map (List.forall_mem_cons.mpr ⟨Nat.ne_of_lt l9.1, all_lt_ne l9.2⟩)
    · intro q hq
      obtain ⟨p, _, rfl⟩ := List.mem_map.mp hq
      rfl
    · exact Nat.ne_of_lt l9.1
    · dsimp only; rw [if_neg (by decide)]; rfl
    · dsimp only; rw [if_neg (by decide)]; rfl
    · dsimp only; rw [if_pos rfl]
  case turn =>
    rintro n m news h tk ⟨ps, done, pl1, rl, e1, e2, tp, rfl, hrk, hks, hlenD, hnd1, hrl, rfl, htp, htc, hpr, mp, mc, mr⟩ F2 N2
    have hlen : ps.length ≤ 6 := Nat.le_trans (Nat.le_add_left _ _) hlenD
    have hdone : done.length ≤ 6 := Nat.le_trans (Nat.le_add_right _ _) hlenD
    cases ps with
    | nil =>
      k_steps
      have hrk' : done = krank sz prs.length (prs.map Pr.key) [] := hrk
      rw [← hrk'] at ret
      refine ret rl _ _ e2 (fun b o hb e => Fr.keep (by assumption) b o (kG b o e hb)) (News.get (by assumption) (.tail _ (.head _))) (fresh_off kG ?_ hrl)
      rename News _ _ _ _ => kN1
      clear kN1
      rename News _ _ _ _ => N9
      exact (N9 _ (.tail _ (.head _))).2.2
    | cons p ps =>
      have hok1 : ∀ q ∈ p :: ps, Good q := fun q hq => by
        obtain ⟨p1, h1, h2⟩ := List.mem_map.mp (hks q hq)
        exact Good.ofKey h2.symm (hok p1 h1)
      unfold lstE at N2
      k_steps
      rename News _ _ _ _ => N9
      obtain ⟨pl2, hpl2⟩ := first_addr N9
      subst hpl2
      refine tok_ind' (fun k u => .int k u) (TnJ w x9 d9 pl2 rl pl1 D kt9 (lstE (done.map Key.val) e2) sz (p :: ps).length (prs.map Pr.key) (krun sz ps.length ((p :: ps).map Pr.key, []))) ?turn2 ?fin2 _ _ ((pl2, lstE [] 0) :: (x9, instObj 265 d9) :: (d9, HdDict w pl1 kt9) :: (rl, lstE (done.map Key.val) e2) :: (pl1, lstE ((p :: ps).map Pr.ref) e1) :: tp) _ ?hs2 ?h02
      case h02 =>
        refine ⟨p :: ps, [], e1, 0, tp, by rw [rangeKs_length]; rfl, by rw [rangeKs_length]; rfl, by rw [List.append_nil]; exact hks, by rw [List.length_nil, Nat.add_zero], by rw [List.append_nil]; exact hnd1, rfl, by rw [List.append_nil]; exact htp, htc, ?_, ?_, ?_, ?_⟩
        · dsimp only; rw [if_neg (by decide), if_pos rfl]
        · dsimp only; rw [if_pos rfl]
        · dsimp only; rw [if_neg (by decide), if_neg (by decide)]; exact mc
        · dsimp only; rw [if_neg (by decide), if_neg (by decide)]; exact mr
      case hs2 =>
        refine List.forall_mem_cons.mpr ⟨by k_mem, List.forall_mem_cons.mpr ⟨by k_mem, List.forall_mem_cons.mpr ⟨by unfold HdDict; k_mem, List.forall_mem_cons.mpr ⟨by k_mem, List.forall_mem_cons.mpr ⟨by k_mem, fun q hq => ?_⟩⟩⟩⟩⟩
        repeat (first | exact hq | apply List.mem_cons_of_mem)
      case turn2 =>
        rintro c r u2 m2 news2 h2 tk2 o2 ⟨tbl, ls, e3, e4, tp2, hl2, hkr, hks2, hlen2, hnd2, rfl, htp2, htc2, mt, mp2, mc2, mr2⟩ F3 ho2 N3
        match tbl, hl2 with
        | a1 :: b1 :: r1, hl2 =>
        obtain ⟨iA, hiA⟩ := first_addr N3
        subst hiA
        have hlen3 : (a1 :: b1 :: r1).length ≤ 6 := Nat.le_trans (Nat.le_trans (Nat.le_add_right _ _) (Nat.le_of_eq hlen2)) hlen
        have hls6 : ls.length ≤ 6 := Nat.le_trans (Nat.le_trans (Nat.le_add_left _ _) (Nat.le_of_eq hlen2)) hlen
        have hok3 : ∀ q ∈ a1 :: b1 :: r1, Good q := fun q hq => by
          obtain ⟨p1, h1, h2⟩ := List.mem_map.mp (hks2 q (List.mem_append_left _ hq))
          exact Good.ofKey h2.symm (hok p1 h1)
        have ga : Good a1 := hok3 _ (.head _)
        have gb : Good b1 := hok3 _ (.tail _ (.head _))
        have gr : ∀ q ∈ r1, Good q := fun q hq => hok3 _ (.tail _ (.tail _ hq))
        have la := ga.letter
        have lb := gb.letter
        have lla := ga.low.2
        have llb := gb.low.2
        have hnd3 := hnd2
        rw [List.cons_append, List.cons_append, List.map_cons, List.map_cons, List.nodup_cons, List.nodup_cons] at hnd3
        have nba : b1.nm ≠ a1.nm := fun e => hnd3.1 (e ▸ List.mem_cons_self ..)
        have nra : ∀ q ∈ r1, q.nm ≠ a1.nm := fun q hq e => hnd3.1 (.tail _ (e ▸ List.mem_map_of_mem (List.mem_append_left _ hq)))
        have nrb : ∀ q ∈ r1, q.nm ≠ b1.nm := fun q hq e => hnd3.2.1 (e ▸ List.mem_map_of_mem (List.mem_append_left _ hq))
        have hfA : List.filter (fun p => !decide (low1 p.nm = low1 (low1 a1.nm))) (a1 :: b1 :: r1) = b1 :: r1 := by
          rw [ga.low.1]
          exact filt_head ga (List.forall_mem_cons.mpr ⟨gb, gr⟩) (List.forall_mem_cons.mpr ⟨nba, nra⟩)
        have hfB : List.filter (fun p => !decide (low1 p.nm = low1 (low1 b1.nm))) (a1 :: b1 :: r1) = a1 :: r1 := by
          rw [gb.low.1]
          exact filt_second gb ga gr nrb (Ne.symm nba)
        have hsA : List.filter (fun p => !decide (low1 p.nm = low1 a1.nm)) (a1 :: r1) = r1 := filt_head ga gr nra
        have hsB : List.filter (fun p => !decide (low1 p.nm = low1 b1.nm)) (b1 :: r1) = r1 := filt_head gb gr nrb
        have hne3 : ∀ q ∈ a1 :: b1 :: r1, q.a ≠ x9 ∧ q.a ≠ d9 ∧ q.a ≠ pl1 := fun q hq => by
          have hm := htp2 q (List.mem_append_left _ hq)
          have hm' : (q.a, q.obj) ∈ (iA, o2) :: (pl2, lstE (ls.map Pr.ref) e4) :: (x9, instObj 265 d9) :: (d9, HdDict w pl1 kt9) :: (rl, lstE (done.map Key.val) e2) :: (pl1, lstE ((a1 :: b1 :: r1).map Pr.ref) e3) :: tp2 := by repeat (first | exact hm | apply List.mem_cons_of_mem)
          exact ⟨news_ne' N3 hm' (.tail _ (.tail _ (.head _))) (by simp [Pr.obj]), news_ne' N3 hm' (.tail _ (.tail _ (.tail _ (.head _)))) (by simp [Pr.obj, HdDict]), news_ne' N3 hm' (.tail _ (.tail _ (.tail _ (.tail _ (.tail _ (.head _)))))) (by simp [Pr.obj, lstE])⟩
        have ma : (a1.a, a1.obj) ∈ tp2 := htp2 _ (.head _)
        have mb : (b1.a, b1.obj) ∈ tp2 := htp2 _ (.tail _ (.head _))
        have N4 : News _ _ h2 ((iA, o2) :: (a1.a, a1.obj) :: (b1.a, b1.obj) :: (pl2, lstE (ls.map Pr.ref) e4) :: (x9, instObj 265 d9) :: (d9, HdDict w pl1 kt9) :: (rl, lstE (done.map Key.val) e2) :: (pl1, lstE ((a1 :: b1 :: r1).map Pr.ref) e3) :: tp2) := news_sub N3 (by
          intro q hq
          simp only [List.mem_cons] at hq ⊢
          rcases hq with h | rfl | rfl | h
          · exact .inl h
          · exact .inr (.inr (.inr (.inr (.inr (.inr ma)))))
          · exact .inr (.inr (.inr (.inr (.inr (.inr mb)))))
          · exact .inr h)
        have nt1 : ∀ q ∈ tp2, q.1 ≠ pl1 := fun q hq => news_ne' (o := q.2) N3 (by repeat (first | exact hq | apply List.mem_cons_of_mem)) (.tail _ (.tail _ (.tail _ (.tail _ (.tail _ (.head _)))))) (by rw [htc2 q hq]; simp [lstE])
        have nt2 : ∀ q ∈ tp2, q.1 ≠ pl2 := fun q hq => news_ne' (o := q.2) N3 (by repeat (first | exact hq | apply List.mem_cons_of_mem)) (.tail _ (.head _)) (by rw [htc2 q hq]; simp [lstE])
        have na1 : @Ne Nat a1.a pl1 := nt1 _ ma
        have na2 : @Ne Nat a1.a pl2 := nt2 _ ma
        have nb1 : @Ne Nat b1.a pl1 := nt1 _ mb
        have nb2 : @Ne Nat b1.a pl2 := nt2 _ mb
        obtain ⟨lA, vA, cA1, cA2, cA3⟩ := col_find hcols hnd hcg (hks2 a1 (.head _))
        obtain ⟨lB, vB, cB1, cB2, cB3⟩ := col_find hcols hnd hcg (hks2 b1 (.tail _ (.head _)))
        unfold lstE HdDict Pr.obj at N4
        unfold Pr.ref at N4
        have oA : lstE ((ls ++ [a1]).map Pr.ref) (e4 + 1) = W.listOf (List.map (fun p => Value.ref p.a) ls ++ [Value.ref a1.a]).toArray (e4 + 1) := by
          unfold lstE; rw [List.map_append]; rfl
        have oB : lstE ((ls ++ [b1]).map Pr.ref) (e4 + 1) = W.listOf (List.map (fun p => Value.ref p.a) ls ++ [Value.ref b1.a]).toArray (e4 + 1) := by
          unfold lstE; rw [List.map_append]; rfl
        clear N3
        k_steps
        all_goals (rename Fr _ _ _ _ => F8; rename News _ _ _ _ => N8; rename Pr.key _ = Pr.key _ => hp8)
        · rename (_ < (0 : Int)) => c1
          refine turn_close (win := b1) (los := a1) F8 N8 (by k_mem) (by rw [oA]; k_mem) (by k_mem) (by unfold HdDict; k_mem) (by unfold lstE; k_mem) (by unfold lstE; k_mem) (by k_mem) (fun q hq => by repeat (first | exact hq | apply List.mem_cons_of_mem)) ho2 rfl hp8 (.inl ⟨rfl, rfl, swaps_1 c1⟩) hl2 hkr hks2 hlen2 hnd2 htp2 htc2 ?_ ?_ ?_ ?_
          · dsimp only; (repeat rw [if_neg (by decide)]); exact mt
          · dsimp only; (repeat rw [if_neg (by decide)]); exact mp2
          · dsimp only; (repeat rw [if_neg (by decide)]); exact mc2
          · dsimp only; (repeat rw [if_neg (by decide)]); exact mr2
        · rename (¬ _ < (0 : Int)) => c1
          rename (_ = (0 : Int)) => c2
          rename (_ < (_ : List Nat)) => c3
          refine turn_close (win := b1) (los := a1) F8 N8 (by k_mem) (by rw [oA]; k_mem) (by k_mem) (by unfold HdDict; k_mem) (by unfold lstE; k_mem) (by unfold lstE; k_mem) (by k_mem) (fun q hq => by repeat (first | exact hq | apply List.mem_cons_of_mem)) ho2 rfl hp8 (.inl ⟨rfl, rfl, swaps_2 c2 c3⟩) hl2 hkr hks2 hlen2 hnd2 htp2 htc2 ?_ ?_ ?_ ?_
          · dsimp only; (repeat rw [if_neg (by decide)]); exact mt
          · dsimp only; (repeat rw [if_neg (by decide)]); exact mp2
          · dsimp only; (repeat rw [if_neg (by decide)]); exact mc2
          · dsimp only; (repeat rw [if_neg (by decide)]); exact mr2
        · rename (¬ _ < (0 : Int)) => c1
          rename (_ = (0 : Int)) => c2
          rename (¬ _ < (_ : List Nat)) => c3
          refine turn_close (win := a1) (los := b1) F8 N8 (by k_mem) (by rw [oB]; k_mem) (by k_mem) (by unfold HdDict; k_mem) (by unfold lstE; k_mem) (by unfold lstE; k_mem) (by k_mem) (fun q hq => by repeat (first | exact hq | apply List.mem_cons_of_mem)) ho2 rfl hp8 (.inr ⟨rfl, rfl, swaps_3 c1 c3⟩) hl2 hkr hks2 hlen2 hnd2 htp2 htc2 ?_ ?_ ?_ ?_
          · dsimp only; (repeat rw [if_neg (by decide)]); exact mt
          · dsimp only; (repeat rw [if_neg (by decide)]); exact mp2
          · dsimp only; (repeat rw [if_neg (by decide)]); exact mc2
          · dsimp only; (repeat rw [if_neg (by decide)]); exact mr2
        · rename (¬ _ < (0 : Int)) => c1
          rename (_ ≠ (0 : Int)) => c2
          refine turn_close (win := a1) (los := b1) F8 N8 (by k_mem) (by rw [oB]; k_mem) (by k_mem) (by unfold HdDict; k_mem) (by unfold lstE; k_mem) (by unfold lstE; k_mem) (by k_mem) (fun q hq => by repeat (first | exact hq | apply List.mem_cons_of_mem)) ho2 rfl hp8 (.inr ⟨rfl, rfl, swaps_4 c1 c2⟩) hl2 hkr hks2 hlen2 hnd2 htp2 htc2 ?_ ?_ ?_ ?_
          · dsimp only; (repeat rw [if_neg (by decide)]); exact mt
          · dsimp only; (repeat rw [if_neg (by decide)]); exact mp2
          · dsimp only; (repeat rw [if_neg (by decide)]); exact mc2
          · dsimp only; (repeat rw [if_neg (by decide)]); exact mr2
      case fin2 =>
        rintro m3 news3 h3 tk3 ⟨tbl, ls, e3, e4, tp3, hl3, hkr, hks3, hlen3, hnd3, rfl, htp3, htc3, mt, mp3, mc3, mr3⟩ F3 N3
        match tbl, hl3 with
        | [p1], _ =>
        have hm1 : (p1.a, p1.obj) ∈ tp3 := htp3 _ (.head _)
        have nt5 : ∀ q ∈ tp3, q.1 ≠ rl := fun q hq => news_ne' (o := q.2) N3 (by repeat (first | exact hq | apply List.mem_cons_of_mem)) (.tail _ (.tail _ (.tail _ (.head _)))) (by rw [htc3 q hq]; simp [lstE])
        unfold lstE HdDict at N3
        simp only [List.map_cons, List.map_nil] at N3
        unfold Pr.ref at N3
        dsimp only
        k_steps
        rename Fr _ _ _ _ => F8
        rename News _ _ _ _ => N8
        have oR : lstE ((done ++ [p1.key]).map Key.val) (e2 + 1) = W.listOf ((List.map Key.val done).toArray.push (Value.str p1.nm p1.tn)) (e2 + 1) := by
          unfold lstE; rw [List.map_append, List.push_toArray]; rfl
        have hle : ps.length = ls.length := by
          simp only [List.length_cons, List.length_nil] at hlen3
          omega
        refine ⟨_, _, m3, (rl, lstE ((done ++ [p1.key]).map Key.val) (e2 + 1)) :: (pl2, lstE (ls.map Pr.ref) e4) :: tp3, rfl, F8, ?_, (fun _ _ _ hq => nomatch hq), ps.length, Nat.lt_succ_self _, ls, done ++ [p1.key], pl2, rl, e4, e2 + 1, tp3, hle, (krank_step (by rw [List.length_map]) hkr.symm).symm.trans hrk, (fun q hq => hks3 q (List.mem_append_right _ hq)), ?_, (List.nodup_cons.mp hnd3).2, hrl, rfl, (fun q hq => htp3 q (List.mem_append_right _ hq)), htc3, ?_, mp3, mc3, mr3⟩
        · exact news_sub N8 (List.forall_mem_cons.mpr ⟨by rw [oR]; k_mem, List.forall_mem_cons.mpr ⟨by unfold lstE; k_mem, fun q hq => by repeat (first | exact hq | apply List.mem_cons_of_mem)⟩⟩)
        · rw [List.length_append, ← hle]
          simp only [List.length_cons, List.length_nil] at hlenD ⊢
          omega
        · exact by k_ne
end
section
open PySem PySem.W PyProof.Rows
def runT {α : Type} (c : Nat → Nat → Bool) : KasT α → α
  | .ret a => a
  | .ask i j k => runT c (k (c i j))
theorem runT_bind {α β : Type} (c : Nat → Nat → Bool) (f : α → KasT β) : ∀ t : KasT α, runT c (t.bind f) = runT c (f (runT c t))
  | .ret _ => rfl
  | .ask _ _ k => runT_bind c f (k _)
theorem runT_if {α : Type} (c : Nat → Nat → Bool) (p : Prop) [Decidable p] (s t : KasT α) : runT c (if p then s else t) = if p then runT c s else runT c t := by split <;> rfl
section
variable (g : Nat → Int)
def cmpG (i j : Nat) : Bool := decide (g i < g j)
def Kg (p : Array Nat) (i : Nat) : Int := g (p.getD i 0)
def Dis (p : Array Nat) : Prop := ∀ i j, i < p.size → j < p.size → i ≠ j → Kg g p i ≠ Kg g p j
def Srt (p : Array Nat) (m : Nat) : Prop := ∀ i j, i < j → j < m → Kg g p i < Kg g p j
def Dsc (p : Array Nat) (m : Nat) : Prop := ∀ i j, i < j → j < m → Kg g p j < Kg g p i
variable {g}
theorem Dis.of {p : Array Nat} (h : (p.toList.map g).Nodup) : Dis g p := by
  have h' := List.pairwise_iff_getElem.mp h
  have key : ∀ i j, i < j → j < p.size → Kg g p i ≠ Kg g p j := fun i j hij hj e => by
    have hi : i < p.size := Nat.lt_trans hij hj
    refine h' i j (by simpa using hi) (by simpa using hj) hij ?_
    unfold Kg at e
    rw [Array.getD_eq_getD_getElem?, Array.getD_eq_getD_getElem?, Array.getElem?_eq_getElem hi, Array.getElem?_eq_getElem hj] at e
    simpa using e
  intro i j hi hj hne e
  rcases Nat.lt_or_ge i j with h1 | h1
  · exact key i j h1 hj e
  · exact key j i (Nat.lt_of_le_of_ne h1 (Ne.symm hne)) hi e.symm
theorem Srt.snoc {p : Array Nat} {n : Nat} (h1 : 1 ≤ n) (h : Srt g p n) (hn : Kg g p (n - 1) < Kg g p n) : Srt g p (n + 1) := fun i j hij hj => by
  rcases Nat.lt_or_ge j n with h2 | h2
  · exact h i j hij h2
  · have e : j = n := by omega
    subst e
    rcases Nat.lt_or_ge i (j - 1) with h3 | h3
    · exact Int.lt_trans (h i (j - 1) h3 (by omega)) hn
    · have e : i = j - 1 := by omega
      rw [e]; exact hn
theorem Dsc.snoc {p : Array Nat} {n : Nat} (h1 : 1 ≤ n) (h : Dsc g p n) (hn : Kg g p n < Kg g p (n - 1)) : Dsc g p (n + 1) := fun i j hij hj => by
  rcases Nat.lt_or_ge j n with h2 | h2
  · exact h i j hij h2
  · have e : j = n := by omega
    subst e
    rcases Nat.lt_or_ge i (j - 1) with h3 | h3
    · exact Int.lt_trans hn (h i (j - 1) h3 (by omega))
    · have e : i = j - 1 := by omega
      rw [e]; exact hn
theorem so_asc {p : Array Nat} (hd : Dis g p) : ∀ (f n : Nat), 1 ≤ n → n + f ≤ p.size → Srt g p n →
    n ≤ runT (cmpG g) (kas_asc p f n) ∧ runT (cmpG g) (kas_asc p f n) ≤ n + f ∧ Srt g p (runT (cmpG g) (kas_asc p f n)) ∧ (runT (cmpG g) (kas_asc p f n) < n + f → Kg g p (runT (cmpG g) (kas_asc p f n)) < Kg g p (runT (cmpG g) (kas_asc p f n) - 1))
  | 0, n, _, _, hs => ⟨Nat.le_refl _, Nat.le_refl _, hs, fun h => absurd h (Nat.lt_irrefl _)⟩
  | f + 1, n, h1, hf, hs => by
    have e : runT (cmpG g) (kas_asc p (f + 1) n) = if Kg g p n < Kg g p (n - 1) then n else runT (cmpG g) (kas_asc p f (n + 1)) := by
      show runT (cmpG g) (if cmpG g (p.getD n 0) (p.getD (n - 1) 0) = true then KasT.ret n else kas_asc p f (n + 1)) = _
      rw [runT_if]
      unfold cmpG
      simp only [decide_eq_true_eq]
      rfl
    rw [e]
    by_cases hc : Kg g p n < Kg g p (n - 1)
    · rw [if_pos hc]
      exact ⟨Nat.le_refl _, by omega, hs, fun _ => hc⟩
    · rw [if_neg hc]
      have hne := hd n (n - 1) (by omega) (by omega) (by omega)
      have ih := so_asc hd f (n + 1) (by omega) (by omega) (hs.snoc h1 (by omega))
      exact ⟨by omega, by omega, ih.2.2.1, fun h => ih.2.2.2 (by omega)⟩
theorem so_desc {p : Array Nat} (hd : Dis g p) : ∀ (f n : Nat), 1 ≤ n → n + f ≤ p.size → Dsc g p n →
    ∃ m, runT (cmpG g) (kas_desc f p n 0) = (p, m, 0) ∧ n ≤ m ∧ m ≤ n + f ∧ Dsc g p m
  | 0, n, _, _, hs => ⟨n, rfl, Nat.le_refl _, Nat.le_refl _, hs⟩
  | f + 1, n, h1, hf, hs => by
    by_cases hc : Kg g p n < Kg g p (n - 1)
    · obtain ⟨m, e, a, b, c⟩ := so_desc hd f (n + 1) (by omega) (by omega) (hs.snoc h1 hc)
      refine ⟨m, ?_, by omega, by omega, c⟩
      rw [← e]
      show runT (cmpG g) (if cmpG g (p.getD n 0) (p.getD (n - 1) 0) = true then (if 0 > 0 then kas_desc f (kas_rev p (n - (0 + 1)) n) (n + 1) 0 else kas_desc f p (n + 1) 0) else _) = _
      rw [if_pos (show cmpG g (p.getD n 0) (p.getD (n - 1) 0) = true from decide_eq_true hc), if_neg (by omega)]
    · refine ⟨n, ?_, Nat.le_refl _, by omega, hs⟩
      have hne := hd n (n - 1) (by omega) (by omega) (by omega)
      show runT (cmpG g) (if cmpG g (p.getD n 0) (p.getD (n - 1) 0) = true then _ else KasT.ask (p.getD (n - 1) 0) (p.getD n 0) fun d => if d = true then KasT.ret (p, n, 0) else kas_desc f p (n + 1) (0 + 1)) = _
      have c1 : ¬ cmpG g (p.getD n 0) (p.getD (n - 1) 0) = true := by unfold cmpG; rw [decide_eq_true_eq]; exact hc
      have c2 : cmpG g (p.getD (n - 1) 0) (p.getD n 0) = true := by
        unfold cmpG; rw [decide_eq_true_eq]
        have h' : ¬ g (p.getD n 0) < g (p.getD (n - 1) 0) := hc
        have h'' : g (p.getD n 0) ≠ g (p.getD (n - 1) 0) := hne
        omega
      rw [if_neg c1]
      show runT (cmpG g) (if cmpG g (p.getD (n - 1) 0) (p.getD n 0) = true then _ else _) = _
      rw [if_pos c2]
      rfl
theorem so_rev_at {p : Array Nat} {m : Nat} (hm : m ≤ p.size) (k : Nat) : Kg g (kas_rev p 0 m) k = if k < m then Kg g p (m - 1 - k) else Kg g p k := by
  unfold Kg kas_rev
  rw [Array.getD_eq_getD_getElem?, getElem?_mirror_all hm, Nat.zero_add]
  by_cases h : k < m
  · rw [if_pos ⟨Nat.zero_le _, h⟩, if_pos h, Array.getD_eq_getD_getElem?]
  · rw [if_neg (fun x => h x.2), if_neg h, Array.getD_eq_getD_getElem?]
theorem so_rev_srt {p : Array Nat} {m : Nat} (hm : m ≤ p.size) (h : Dsc g p m) : Srt g (kas_rev p 0 m) m := fun i j hij hj => by
  rw [so_rev_at hm, so_rev_at hm, if_pos (by omega), if_pos hj]
  exact h _ _ (by omega) (by omega)
theorem so_rev_dis {p : Array Nat} {m : Nat} (hm : m ≤ p.size) (h : Dis g p) : Dis g (kas_rev p 0 m) := fun i j hi hj hne => by
  rw [kas_rev_size] at hi hj
  rw [so_rev_at hm, so_rev_at hm]
  split <;> split <;> exact h _ _ (by omega) (by omega) (by omega)
def GoodR (g : Nat → Int) (p : Array Nat) (n : Nat) (r : Nat × Array Nat) : Prop := 1 ≤ r.1 ∧ r.1 ≤ n ∧ Srt g r.2 r.1 ∧ Dis g r.2 ∧ r.2.size = p.size ∧ r.2.Perm p
theorem so_tail {p : Array Nat} (hd : Dis g p) {m n : Nat} (h1 : 1 ≤ m) (hm : m ≤ n) (hn : n ≤ p.size) (h : Dsc g p m) : GoodR g p n (runT (cmpG g) (kas_tail3 m n p)) := by
  unfold kas_tail3
  rw [runT_bind]
  have hs := so_rev_srt (g := g) (Nat.le_trans hm hn) h
  have hd' := so_rev_dis (m := m) (Nat.le_trans hm hn) hd
  obtain ⟨a, b, c, _⟩ := so_asc hd' (n - m) m h1 (by rw [kas_rev_size]; omega) hs
  exact ⟨by show 1 ≤ runT _ _; omega, by show runT _ _ ≤ n; omega, c, hd', kas_rev_size _ _, mirror_perm _ _ _ _⟩
theorem so_count {p : Array Nat} (hd : Dis g p) {n : Nat} (h1 : 1 ≤ n) (hn : n ≤ p.size) : GoodR g p n (runT (cmpG g) (kas_count n p)) := by
  unfold kas_count
  rw [runT_bind]
  obtain ⟨a, b, c, d⟩ := so_asc hd (n - 1) 1 (Nat.le_refl _) (by omega) (fun i j _ _ => by omega)
  generalize runT (cmpG g) (kas_asc p (n - 1) 1) = m at a b c d
  rw [runT_if]
  by_cases e : (m == n) = true
  · rw [if_pos e]
    exact ⟨a, by show m ≤ n; omega, c, hd, rfl, Array.Perm.refl _⟩
  · rw [if_neg e, runT_if]
    have e' : m ≠ n := fun h => e (by rw [h]; exact beq_self_eq_true n)
    by_cases e2 : m > 1
    · rw [if_pos e2]
      have c2 : cmpG g (p.getD 0 0) (p.getD (m - 1) 0) = true := decide_eq_true (c 0 (m - 1) (by omega) (by omega))
      show GoodR g p n (runT (cmpG g) (if cmpG g (p.getD 0 0) (p.getD (m - 1) 0) = true then _ else _))
      rw [if_pos c2]
      exact ⟨a, by show m ≤ n; omega, c, hd, rfl, Array.Perm.refl _⟩
    · rw [if_neg e2]
      have e3 : m = 1 := by omega
      subst e3
      have d' := d (by omega)
      unfold kas_descPart
      rw [runT_bind]
      obtain ⟨q, r1, r2, r3, r4⟩ := so_desc hd (n - (1 + 1)) (1 + 1) (by omega) (by omega) (Dsc.snoc (Nat.le_refl _) (fun i j _ _ => by omega) d')
      rw [r1]
      show GoodR g p n (runT (cmpG g) (if 0 > 0 then _ else kas_tail3 q n p))
      rw [if_neg (by omega)]
      exact so_tail hd (by omega) (by omega) hn r4
theorem so_place {p : Array Nat} {k : Nat} (hd : Dis g p) (hk : k < p.size) (hs : Srt g p k) : ∀ (f l r : Nat), r - l ≤ f → l ≤ r → r ≤ k → (∀ i, i < l → Kg g p i < Kg g p k) → (∀ i, r ≤ i → i < k → Kg g p k < Kg g p i) →
    runT (cmpG g) (kas_place p k f l r) ≤ k ∧ (∀ i, i < runT (cmpG g) (kas_place p k f l r) → Kg g p i < Kg g p k) ∧ (∀ i, runT (cmpG g) (kas_place p k f l r) ≤ i → i < k → Kg g p k < Kg g p i)
  | 0, l, r, hf, hlr, hrk, hl, hr => ⟨by show l ≤ k; omega, hl, fun i hi => hr i (by have hi' : l ≤ i := hi; omega)⟩
  | f + 1, l, r, hf, hlr, hrk, hl, hr => by
    have e0 : kas_place p k (f + 1) l r = if l ≥ r then KasT.ret l else .ask (p.getD k 0) (p.getD ((l + r) / 2) 0) fun c => if c = true then kas_place p k f l ((l + r) / 2) else kas_place p k f ((l + r) / 2 + 1) r := rfl
    rw [e0]
    by_cases h : l ≥ r
    · rw [if_pos h]
      exact ⟨by show l ≤ k; omega, hl, fun i hi => hr i (by have hi' : l ≤ i := hi; omega)⟩
    · rw [if_neg h]
      have hmk : (l + r) / 2 < k := by omega
      by_cases hc : Kg g p k < Kg g p ((l + r) / 2)
      · have c1 : cmpG g (p.getD k 0) (p.getD ((l + r) / 2) 0) = true := decide_eq_true hc
        have e : runT (cmpG g) (.ask (p.getD k 0) (p.getD ((l + r) / 2) 0) fun c => if c = true then kas_place p k f l ((l + r) / 2) else kas_place p k f ((l + r) / 2 + 1) r) = runT (cmpG g) (kas_place p k f l ((l + r) / 2)) := by
          show runT (cmpG g) (if cmpG g (p.getD k 0) (p.getD ((l + r) / 2) 0) = true then _ else _) = _
          rw [if_pos c1]
        rw [e]
        refine so_place hd hk hs f l ((l + r) / 2) (by omega) (by omega) (by omega) hl fun i hi hik => ?_
        rcases Nat.lt_or_ge ((l + r) / 2) i with h2 | h2
        · exact Int.lt_trans hc (hs _ _ h2 hik)
        · have e : i = (l + r) / 2 := by omega
          rw [e]; exact hc
      · have c1 : ¬ cmpG g (p.getD k 0) (p.getD ((l + r) / 2) 0) = true := by unfold cmpG; rw [decide_eq_true_eq]; exact hc
        have e : runT (cmpG g) (.ask (p.getD k 0) (p.getD ((l + r) / 2) 0) fun c => if c = true then kas_place p k f l ((l + r) / 2) else kas_place p k f ((l + r) / 2 + 1) r) = runT (cmpG g) (kas_place p k f ((l + r) / 2 + 1) r) := by
          show runT (cmpG g) (if cmpG g (p.getD k 0) (p.getD ((l + r) / 2) 0) = true then _ else _) = _
          rw [if_neg c1]
        rw [e]
        have hne := hd k ((l + r) / 2) hk (by omega) (by omega)
        refine so_place hd hk hs f ((l + r) / 2 + 1) r (by omega) (by omega) hrk (fun i hi => ?_) hr
        have hc' : Kg g p ((l + r) / 2) < Kg g p k := by omega
        rcases Nat.lt_or_ge i ((l + r) / 2) with h2 | h2
        · exact Int.lt_trans (hs _ _ h2 hmk) hc'
        · have e : i = (l + r) / 2 := by omega
          rw [e]; exact hc'
theorem so_bub_at {p : Array Nat} {k l : Nat} (hk : k < p.size) (hl : l ≤ k) (i : Nat) : Kg g (bubble p k (k - l)) i = if i = l then Kg g p k else if l < i ∧ i ≤ k then Kg g p (i - 1) else Kg g p i := by
  unfold Kg
  rw [Array.getD_eq_getD_getElem?, getElem?_bubble hk _ (Nat.sub_le _ _), show k - (k - l) = l by omega]
  by_cases h1 : i = l
  · rw [if_pos h1, if_pos h1, Array.getD_eq_getD_getElem?]
  · rw [if_neg h1, if_neg h1]
    by_cases h2 : l < i ∧ i ≤ k
    · rw [if_pos h2, if_pos h2, Array.getD_eq_getD_getElem?]
    · rw [if_neg h2, if_neg h2, Array.getD_eq_getD_getElem?]
theorem so_bin : ∀ (f : Nat) (p : Array Nat) (k : Nat), (p.toList.map g).Nodup → k + f = p.size → Srt g p k → Srt g (runT (cmpG g) (kas_bin f p k)) p.size ∧ (runT (cmpG g) (kas_bin f p k)).Perm p
  | 0, p, k, _, hk, hs => ⟨by
    have e : k = p.size := by omega
    exact e ▸ hs, Array.Perm.refl _⟩
  | f + 1, p, k, hn, hk, hs => by
    have hd := Dis.of hn
    have e : runT (cmpG g) (kas_bin (f + 1) p k) = runT (cmpG g) (kas_bin f (bubble p k (k - runT (cmpG g) (kas_place p k k 0 k))) (k + 1)) := runT_bind _ _ _
    rw [e]
    obtain ⟨a, b, c⟩ := so_place hd (by omega) hs k 0 k (by omega) (Nat.zero_le _) (Nat.le_refl _) (fun i hi => by omega) (fun i h1 h2 => by omega)
    generalize runT (cmpG g) (kas_place p k k 0 k) = l at a b c
    have hp := bubble_perm p k (k - l)
    have hs' : Srt g (bubble p k (k - l)) (k + 1) := fun i j hij hj => by
      rw [so_bub_at (by omega) a, so_bub_at (by omega) a]
      split
      · rw [if_neg (by omega), if_pos (by omega)]
        exact c _ (by omega) (by omega)
      · split
        · rw [if_neg (by omega), if_pos (by omega)]
          exact hs _ _ (by omega) (by omega)
        · split
          · exact b _ (by omega)
          · split
            · rcases Nat.lt_or_ge i (j - 1) with h2 | h2
              · exact hs _ _ h2 (by omega)
              · omega
            · exact hs _ _ hij (by omega)
    have ih := so_bin f (bubble p k (k - l)) (k + 1) (((Array.perm_iff_toList_perm.mp hp).map g).symm.nodup hn) (by rw [bubble_size]; omega) hs'
    rw [bubble_size] at ih
    exact ⟨ih.1, ih.2.trans hp⟩
theorem so_sort {n : Nat} (h1 : 1 ≤ n) (hg : ((List.range n).map g).Nodup) : Srt g (runT (cmpG g) (kas_sort n)) n ∧ (runT (cmpG g) (kas_sort n)).toList.Perm (List.range n) := by
  unfold kas_sort
  rw [runT_bind]
  have hz : (List.toArray (List.range n)).size = n := by simp
  have hd : Dis g (List.toArray (List.range n)) := Dis.of (by simpa using hg)
  obtain ⟨a, b, c, d, e, f⟩ := so_count (n := n) hd h1 (by omega)
  generalize runT (cmpG g) (kas_count n (List.toArray (List.range n))) = r at a b c d e f
  rw [runT_if]
  have f' := Array.perm_iff_toList_perm.mp f
  by_cases hr : r.1 < n
  · rw [if_pos hr]
    have hm : max r.1 1 = r.1 := by omega
    rw [hm]
    have z := so_bin (g := g) (n - r.1) r.2 r.1 ((f'.map g).symm.nodup (by simpa using hg)) (by omega) c
    rw [e, hz] at z
    exact ⟨z.1, (Array.perm_iff_toList_perm.mp z.2).trans (by simpa using f')⟩
  · rw [if_neg hr]
    have hm : r.1 = n := by omega
    exact ⟨hm ▸ c, by rw [List.toList_toArray] at f'; exact f'⟩
end
section
variable (N : Nat)
def okP {α : Type} : KasT α → (α → Prop) → Prop
  | .ret a, Q => Q a
  | .ask i j k, Q => i < N ∧ j < N ∧ ∀ b, okP (k b) Q
def BB (p : Array Nat) : Prop := ∀ x ∈ p.toList, x < N
variable {N}
theorem okP_bind {α β : Type} {f : α → KasT β} {Q : β → Prop} : ∀ {t : KasT α}, okP N t (fun a => okP N (f a) Q) → okP N (t.bind f) Q
  | .ret _, h => h
  | .ask _ _ _, h => ⟨h.1, h.2.1, fun b => okP_bind (h.2.2 b)⟩
theorem okP_mono {α : Type} {Q Q' : α → Prop} (hq : ∀ a, Q a → Q' a) : ∀ {t : KasT α}, okP N t Q → okP N t Q'
  | .ret _, h => hq _ h
  | .ask _ _ _, h => ⟨h.1, h.2.1, fun b => okP_mono hq (h.2.2 b)⟩
theorem okP_if {α : Type} {p : Prop} [Decidable p] {s t : KasT α} {Q : α → Prop} (hs : okP N s Q) (ht : okP N t Q) : okP N (if p then s else t) Q := by split <;> assumption
theorem BB.at {p : Array Nat} (h : BB N p) (h0 : 0 < N) (i : Nat) : p.getD i 0 < N := by
  rw [Array.getD_eq_getD_getElem?]
  by_cases hi : i < p.size
  · rw [Array.getElem?_eq_getElem hi]
    exact h _ (by simp)
  · rw [Array.getElem?_eq_none (Nat.le_of_not_lt hi)]
    exact h0
theorem BB.perm {p q : Array Nat} (h : BB N p) (hp : q.Perm p) : BB N q := fun x hx => h x ((Array.perm_iff_toList_perm.mp hp).mem_iff.mp hx)
theorem BB.rev {p : Array Nat} (h : BB N p) (i j : Nat) : BB N (kas_rev p i j) := h.perm (mirror_perm _ _ _ _)
theorem ok_asc {p : Array Nat} (h : BB N p) (h0 : 0 < N) : ∀ f n, okP N (kas_asc p f n) (fun _ => True)
  | 0, _ => trivial
  | f + 1, n => ⟨h.at h0 _, h.at h0 _, fun _ => okP_if (s := .ret n) trivial (ok_asc h h0 f (n + 1))⟩
theorem ok_desc (h0 : 0 < N) : ∀ f (p : Array Nat) n q, BB N p → okP N (kas_desc f p n q) (fun r => BB N r.1)
  | 0, _, _, _, h => h
  | f + 1, p, n, q, h => ⟨h.at h0 _, h.at h0 _, fun _ => okP_if (okP_if (ok_desc h0 f _ _ _ (h.rev _ _)) (ok_desc h0 f _ _ _ h))
      (show okP N (.ask _ _ _) _ from ⟨h.at h0 _, h.at h0 _, fun _ => okP_if (s := .ret (p, n, q)) h (ok_desc h0 f _ _ _ h)⟩)⟩
theorem ok_tail {p : Array Nat} (h : BB N p) (h0 : 0 < N) (n r : Nat) : okP N (kas_tail3 n r p) (fun x => BB N x.2) :=
  okP_bind (okP_mono (fun _ _ => h.rev _ _) (ok_asc (h.rev 0 n) h0 _ _))
theorem ok_descPart {p : Array Nat} (h : BB N p) (h0 : 0 < N) (n r : Nat) : okP N (kas_descPart n r p) (fun x => BB N x.2) :=
  okP_bind (okP_mono (fun _ hx => okP_if (ok_tail (BB.rev hx _ _) h0 _ _) (ok_tail hx h0 _ _)) (ok_desc h0 _ _ _ _ h))
theorem ok_count {p : Array Nat} (h : BB N p) (h0 : 0 < N) (n : Nat) : okP N (kas_count n p) (fun x => BB N x.2) := by
  have hr : ∀ m, okP N (.ret (m, p) : KasT (Nat × Array Nat)) (fun x => BB N x.2) := fun _ => h
  refine okP_bind (okP_mono (fun m _ => okP_if (hr m) (okP_if ?_ (ok_descPart h h0 _ _))) (ok_asc h h0 _ _))
  exact show okP N (.ask _ _ _) _ from ⟨h.at h0 _, h.at h0 _, fun _ => okP_if (hr m) (ok_descPart (h.rev _ _) h0 _ _)⟩
theorem ok_place {p : Array Nat} (h : BB N p) (h0 : 0 < N) (k : Nat) : ∀ f l r, okP N (kas_place p k f l r) (fun _ => True)
  | 0, _, _ => trivial
  | f + 1, l, r => by
    unfold kas_place
    exact okP_if (s := .ret l) trivial (show okP N (.ask _ _ _) _ from ⟨h.at h0 _, h.at h0 _, fun _ => okP_if (ok_place h h0 k f _ _) (ok_place h h0 k f _ _)⟩)
theorem ok_bin (h0 : 0 < N) : ∀ f (p : Array Nat) k, BB N p → okP N (kas_bin f p k) (fun _ => True)
  | 0, _, _, _ => trivial
  | f + 1, p, k, h => okP_bind (okP_mono (fun _ _ => ok_bin h0 f _ _ (h.perm (bubble_perm _ _ _))) (ok_place h h0 k _ _ _))
theorem ok_sort (h0 : 0 < N) : okP N (kas_sort N) (fun _ => True) := by
  have h : BB N (List.toArray (List.range N)) := fun x hx => by simpa using hx
  exact okP_bind (okP_mono (fun r hr => okP_if (ok_bin h0 _ _ _ hr) (t := .ret r.2) trivial) (ok_count h h0 _))
theorem so_wp {α : Type} {cmp : Nat → Nat → (Bool → Shared → Prop) → Shared → Prop} {Q : α → Shared → Prop} {s : Shared} {c : Nat → Nat → Bool} (hc : ∀ i j C, i < N → j < N → C (c i j) s → cmp i j C s) :
    ∀ {t : KasT α}, okP N t (fun _ => True) → Q (runT c t) s → t.kasWp cmp Q s
  | .ret _, _, h => h
  | .ask i j k, ho, h => hc i j _ ho.1 ho.2.1 (so_wp hc (t := k (c i j)) (ho.2.2 _) h)
end
end
section
open PySem PySem.W PyProof.Rows PySem.Calls
structure TP where
  a : Addr
  c : Int
  tc : Tok
  nm : Str
  tn : Tok
def TP.obj (t : TP) : Obj := { cls := .type "tuple", data := .seq #[.int t.c t.tc, .str t.nm t.tn] }
def TP.ref (t : TP) : Value := .ref t.a
def codeOf (x : Str) : Int := ((x.cps.toList.headD 0 : Nat) : Int)
def TP.key (t : TP) : Int := t.c * 128 + codeOf t.nm
def Ltr (x : Str) : Prop := ∃ c, x = ⟨#[c]⟩ ∧ 65 ≤ c ∧ c ≤ 70
section
variable {prog : Program} {w : World} {A : Around} {E : Value → Shared → Prop} {s : Shared}
theorem tp_cmp {x y : TP} {Q : Bool → Shared → Prop} (hx : s.heap.get? x.a = some x.obj) (hy : s.heap.get? y.a = some y.obj) (lx : Ltr x.nm) (ly : Ltr y.nm) (h : Q (decide (x.key < y.key)) s) :
    wpAny (model prog w) A (keyLt' (tuples' true) x.ref y.ref) Q E s := by
  refine kat_lt hx rfl hy rfl ?_
  show KatLex prog w A true (decide (2 < 2)) Q [(.int x.c x.tc, .int y.c y.tc), (.str x.nm x.tn, .str y.nm y.tn)] 0 s
  obtain ⟨cx, ex, x1, x2⟩ := lx
  obtain ⟨cy, ey, y1, y2⟩ := ly
  have kx : x.key = x.c * 128 + (cx : Int) := by unfold TP.key codeOf; rw [ex]; rfl
  have ky : y.key = y.c * 128 + (cy : Int) := by unfold TP.key codeOf; rw [ey]; rfl
  rw [kx, ky] at h
  refine kat_cons (wpAny_eqBool_int ?_)
  by_cases hc : x.c = y.c
  · rw [show (x.c == y.c) = true from beq_iff_eq.mpr hc]
    refine kat_yes (kat_cons (wpAny_eqBool_str ?_))
    by_cases hn : cx = cy
    · rw [decide_eq_true (show x.nm = y.nm by rw [ex, ey, hn])]
      refine kat_yes (kat_nil ?_)
      rw [decide_eq_false (by omega)] at h
      exact h
    · rw [decide_eq_false (show ¬ x.nm = y.nm by
        rw [ex, ey]
        intro e
        apply hn
        have := congrArg (fun z : Str => z.cps.toList) e
        simpa using this)]
      refine kat_no ?_
      show wpAny _ _ (oneLt' false _ _) _ _ _
      refine kat_one _ _ (lt_str ?_)
      show Q (decide (x.nm.cps.toList < y.nm.cps.toList)) s
      have e : decide (x.nm.cps.toList < y.nm.cps.toList) = decide (x.c * 128 + (cx : Int) < y.c * 128 + (cy : Int)) := by
        rw [ex, ey, hc]
        apply decide_eq_decide.mpr
        show [cx] < [cy] ↔ _
        rw [List.cons_lt_cons_iff]
        constructor
        · rintro (h1 | ⟨h1, h2⟩)
          · omega
          · exact absurd h1 hn
        · intro h1
          exact .inl (by omega)
      rw [e]
      exact h
  · rw [show (x.c == y.c) = false from beq_eq_false_iff_ne.mpr hc]
    refine kat_no ?_
    show wpAny _ _ (oneLt' true _ _) _ _ _
    refine oneLt_int ?_
    have e : decide (x.c < y.c) = decide (x.c * 128 + (cx : Int) < y.c * 128 + (cy : Int)) := decide_eq_decide.mpr (by omega)
    rw [e]
    exact h
theorem tp_tups {h : Heap} : ∀ {l : List TP}, (∀ t ∈ l, h.get? t.a = some t.obj) → KatTups h (l.map TP.ref) (l.map fun t => .int t.c t.tc)
  | [], _ => KatTups.nil
  | _ :: _, k => KatTups.cons (k _ (.head _)) rfl rfl rfl (tp_tups fun t ht => k t (.tail _ ht))
def tpNil : TP := ⟨0, 0, 0, ⟨#[]⟩, 0⟩
theorem tp_getD {l : List TP} {i : Nat} (hi : i < l.length) : (l.map TP.ref).getD i Value.none = (l.getD i tpNil).ref ∧ l.getD i tpNil ∈ l := by
  have e : l.getD i tpNil = l[i] := by simp [List.getD_eq_getElem?_getD, hi]
  rw [e]
  refine ⟨by simp [List.getD_eq_getElem?_getD, hi], List.getElem_mem hi⟩
theorem tp_out {l : List TP} {p : List Nat} (hp : p.Perm (List.range l.length)) : (p.map fun i => l.getD i tpNil).Perm l := by
  refine (hp.map _).trans ?_
  have e : (List.range l.length).map (fun i => l.getD i tpNil) = l := by
    apply List.ext_getElem
    · simp
    · intro i h1 h2
      simp [List.getD_eq_getElem?_getD, h2]
  rw [e]
theorem sorted_tups {h₀ : Heap} {L l : Addr} {m : Str → Option Value} {news : List (Addr × Obj)} {tps : List TP} {Q : Value → Shared → Prop} (F : Fr h₀ L s.heap m) (N : News h₀ L s.heap news) (hl : s.heap.IsList l (tps.map TP.ref).toArray) (h2 : 2 ≤ tps.length) (h64 : tps.length < 64)
    (ht : ∀ t ∈ tps, (t.a, t.obj) ∈ news) (hg : ∀ t ∈ tps, Ltr t.nm) (hn : (tps.map TP.key).Nodup)
    (ret : ∀ D h' e' (out : List TP), out.Perm tps → out.Pairwise (fun a b => a.key < b.key) → Fr h₀ L h' m → News h₀ L h' ((D, listOf (out.map TP.ref).toArray e') :: news) → (∀ q ∈ news, q.1 < D) → Q (.ref D) { s with heap := h' }) :
    wpAny (model prog w) A (call (.builtin "sorted") [.ref l]) Q E s := by
  refine kat_sorted F N hl (by rw [List.length_map]; exact h2) (by rw [List.length_map]; exact h64) fun D e1 h' F' N' hlt => ?_
  refine kat_kind (T := .type "int") (tp_tups fun t hm => (N' _ (.tail _ (ht t hm))).1) (by rw [List.length_map]; omega) ?_ rfl ?_
  · intro v hv
    obtain ⟨t, _, rfl⟩ := List.mem_map.mp hv
    exact Looks.of_pure rfl
  have e0 : (tps.map TP.ref).length = tps.length := List.length_map _
  rw [e0]
  refine so_wp (N := tps.length) (c := cmpG fun i => (tps.getD i tpNil).key) ?_ (ok_sort (by omega)) ?_
  · intro i j C hi hj hC
    unfold kas_ask
    rw [(tp_getD hi).1, (tp_getD hj).1]
    exact tp_cmp (N' _ (.tail _ (ht _ (tp_getD hi).2))).1 (N' _ (.tail _ (ht _ (tp_getD hj).2))).1 (hg _ (tp_getD hi).2) (hg _ (tp_getD hj).2) hC
  · have er : (List.range tps.length).map (fun i => (tps.getD i tpNil).key) = tps.map TP.key := by
      apply List.ext_getElem
      · simp
      · intro i h1 h2
        simp [List.getD_eq_getElem?_getD, (by simpa using h2 : i < tps.length)]
    obtain ⟨a, b⟩ := so_sort (g := fun i => (tps.getD i tpNil).key) (n := tps.length) (by omega) (by rw [er]; exact hn)
    generalize runT (cmpG fun i => (tps.getD i tpNil).key) (kas_sort tps.length) = p at a b
    have hm : p.toList.map (fun i => (tps.map TP.ref).getD i Value.none) = (p.toList.map fun i => tps.getD i tpNil).map TP.ref := by
      rw [List.map_map]
      refine List.map_congr_left fun i hi => ?_
      exact (tp_getD (List.mem_range.mp (b.mem_iff.mp hi))).1
    rw [hm]
    refine KasFin.intro F' N' (UpdF.head ?_) fun h'' c F'' N'' => ret D h'' c _ (tp_out b) ?_ F'' N'' hlt
    · exact fun q hq => Nat.ne_of_lt (hlt q hq)
    · rw [List.pairwise_map, List.pairwise_iff_getElem]
      intro i j hi hj hij
      have hz : p.toList.length = tps.length := by rw [b.length_eq, List.length_range]
      have z := a i j hij (by omega)
      unfold Kg at z
      have hi' : i < p.size := by simpa using hi
      have hj' : j < p.size := by simpa using hj
      rw [Array.getD_eq_getD_getElem?, Array.getD_eq_getD_getElem?, Array.getElem?_eq_getElem hi', Array.getElem?_eq_getElem hj'] at z
      simpa using z
end
end
section
open PySem PySem.W PyProof.Rows PySem.Spec PySem.Calls
set_option maxRecDepth 100000
open LCg LCp
section
variable {prog : Program} {w : World} {A : Around} {E : Value → Shared → Prop} {s : Shared} {h₀ : Heap} {m : Str → Option Value} {env : Env}
def EnBlk (prog : Program) (w : World) (A : Around) (E : Value → Shared → Prop) (env : Env) (elt iter : PySem.Expr) (x x₂ y : Str) (px px₂ tp py : Pos) (kk : Nat) (scope : Scope) (cl : List (Str × Addr)) (pos : Pos) (Q : Flow → Shared → Prop) (it : Value) (s₂ : Shared) : Prop :=
  wpAny (model prog w) A (newList []) (fun acc s₃ => wpAny (model prog w) A (newFunctionEnv scope env.globals cl [] env.qual none .none (some env)) (fun cenv s₄ =>
    codeAny (model prog w) A (.compStart (.ListComp elt [⟨.Tuple [.Name x px, .Name x₂ px₂] kk tp, iter, [], 0⟩] scope pos) 0 it acc { cenv with scope := relabel scope env }) (compPost (model prog w) A E (some (assign (.Name y py) env)) (fun _ s' => Q .next s') acc cenv.locals) s₄) E s₃) E s₂
theorem en_assign {elt iter : PySem.Expr} {x x₂ y : Str} {px px₂ tp py : Pos} {kk} {scope : Scope} {cl : List (Str × Addr)} {pos spos : Pos} {Q : Flow → Shared → Prop} (_F₀ : Fr h₀ env.locals s.heap m)
    (hsw : swapsWith (.ListComp elt [⟨.Tuple [.Name x px, .Name x₂ px₂] kk tp, iter, [], 0⟩] scope pos) (some (.Name y py)) spos.line env = pure true)
    (hclos : closureFor scope env = pure cl) (hkind : scope.kind = .function)
    (hnames : ∀ z ∈ scope.names, z.2 = .local → scope.names.lookup z.1 = some .local)
    (h : wpAny (model prog w) A (eval iter env) (fun xv s₁ => wpAny (model prog w) A (pyIter xv) (fun it s₂ => EnBlk prog w A E env elt iter x x₂ y px px₂ tp py kk scope cl pos Q it s₂) E s₁) E s)
    (hs : ∀ x, foldedSetIterable iter env x = pure x := by intro _; rfl) :
    wpAny (model prog w) A (exec (.Assign [.Name y py] (.ListComp elt [⟨.Tuple [.Name x px, .Name x₂ px₂] kk tp, iter, [], 0⟩] scope pos) spos) env) Q E s := by
  rw [exec_Assign_Name_used _ _ _ _ hsw]
  refine wpAny_bind (wpAny_standAt (wpAny_bind ?_))
  show wpAny _ A (do let _ ← comprehension (.ListComp elt [⟨.Tuple [.Name x px, .Name x₂ px₂] kk tp, iter, [], 0⟩] scope pos) scope env _ (newList []) false (eval iter env) (some (assign (.Name y py) env))) _ _ s
  exact wpAny_bind (wpAny_mono (wpAny_comprehension_free (use := some (assign (.Name y py) env)) (Q := fun _ s' => Q .next s') rfl hs hclos hkind hnames h) (fun _ s' hq => wpAny_pure (wpAny_pure hq)) fun _ _ e => e)
def EnEnd (h₀ : Heap) (L : Addr) (m : Str → Option Value) (s₁ : Shared) (led : List (Addr × Obj)) (R : Pr → Prop) (y : Value) (s' : Shared) : Prop :=
  ∃ h' tk p, s' = { s₁ with heap := h', toks := tk } ∧ y = Pr.ref p ∧ R p ∧ Fr h₀ L h' m ∧ News h₀ L h' ((p.a, p.obj) :: led) ∧ ∀ q ∈ led, q.1 < p.a
abbrev objs (ps : List Pr) : List (Addr × Obj) := ps.map fun p => (p.a, p.obj)
theorem en_block {elt iter : PySem.Expr} {x x₂ y : Str} {px px₂ tp py : Pos} {kk : Nat} {scope : Scope} {cl : List (Str × Addr)} {pos : Pos} {Q : Flow → Shared → Prop} {l : Addr} {lo : Obj} {vs : List Value} {n : Nat} {news : List (Addr × Obj)} (R : Nat → Pr → Prop)
    (hh : A.handled = none) (F : Fr h₀ env.locals s.heap m) (N : News h₀ env.locals s.heap news) (hm : (l, lo) ∈ news) (hc : lo.cls = .type "list") (hd : lo.data = .seq vs.toArray n) (hsz : vs.length ≤ sizeLine)
    (hcell : ∀ z ∈ scope.names, z.2 ≠ .cell) (hkind : scope.kind = .function) (hx : scope.names.lookup x = some .local) (hx₂ : scope.names.lookup x₂ = some .local) (hxx : x ≠ x₂)
    (hy : env.kindOf y = some .local) (hp : (env.scope.kind == .class || (env.scope.kind == .module && env.locals != env.globals)) = false)
    (turn : ∀ i v t Ie oe Ii oi C oC D ys nw m₂ h tk (E' : Value → Shared → Prop), vs[i]? = some v → NsObj oC m₂ → m₂ x = some (.int (i : Nat) t) → m₂ x₂ = some v → Fr h₀ env.locals h m → News h₀ env.locals h ((Ie, oe) :: (Ii, oi) :: (C, oC) :: (D, lst ys) :: nw) →
      wpAny (model prog w) A (eval elt (compEnvC scope cl C env)) (EnEnd h₀ env.locals m { s with heap := h, toks := tk } ((Ie, oe) :: (Ii, oi) :: (C, oC) :: (D, lst ys) :: nw) (R i)) E' { s with heap := h, toks := tk })
    (fin : ∀ D h tk ps, ps.length = vs.length → (∀ j p, ps[j]? = some p → R j p) → Fr h₀ env.locals h (fun z => if z = y then some (.ref D) else m z) → News h₀ env.locals h ((D, lst (ps.map Pr.ref)) :: (news ++ objs ps)) → (∀ q ∈ news, q.1 < D) → (∀ q ∈ objs ps, D < q.1) → Q .next { s with heap := h, toks := tk }) :
    wpAny (model prog w) A (call (.type "enumerate") [.ref l]) (fun xv s₁ => wpAny (model prog w) A (pyIter xv) (fun it s₂ => EnBlk prog w A E env elt iter x x₂ y px px₂ tp py kk scope cl pos Q it s₂) E s₁) E s := by
  have hax := N _ hm
  have hl : s.heap.IsList l vs.toArray := ⟨lo, hax.1, hc, n, hd⟩
  have hlt : l < s.heap.objs.size := Heap.lt_size hax.1
  have hLs : env.locals < s.heap.objs.size := F.ns.lt
  refine call_enumerate_list hl fun h' hE hI hsz' hk => ?_
  refine wpAny_pyIter_enum hE ?_
  have W := KTurns.ofWalksU (elts := [.Name x px, .Name x₂ px₂]) (k := kk) (pos := tp) (WalksT.enumerate (prog := prog) (w := w) hh (s.heap.objs.size + 1) s.heap.objs.size l (Nat.succ_ne_self _) (ktu_ne 1 hlt) (Nat.ne_of_lt hlt) vs.toArray).toU
  have hst : (∃ old, IsEnum h' (s.heap.objs.size + 1) s.heap.objs.size ((0 : Nat) : Int) old) ∧ h'.IsListIter s.heap.objs.size l 0 ∧ h'.IsList l vs.toArray := ⟨⟨.none, hE⟩, hI, hl.at fun o e => hk l o e⟩
  have F' := F.keeps hk
  have N' := N.grown hk
  have offN : ∀ p ∈ news, p.1 ≠ s.heap.objs.size + 1 ∧ p.1 ≠ s.heap.objs.size := fun p hp => by
    have := Heap.lt_size (N p hp).1
    exact ⟨ktu_ne 1 this, Nat.ne_of_lt this⟩
  have hLI : env.locals ≠ s.heap.objs.size + 1 ∧ env.locals ≠ s.heap.objs.size := ⟨ktu_ne 1 hLs, Nat.ne_of_lt hLs⟩
  have hI0 : h₀.get? (s.heap.objs.size + 1) = none ∧ h₀.get? s.heap.objs.size = none := ⟨ktu_new F (Nat.le_add_right _ _), ktu_new F (Nat.le_refl _)⟩
  have hbig : l < h'.objs.size ∧ s.heap.objs.size + 1 < h'.objs.size ∧ s.heap.objs.size < h'.objs.size := by rw [hsz']; exact ⟨Nat.lt_of_lt_of_le hlt (Nat.le_add_right _ _), Nat.lt_succ_self _, Nat.lt_of_lt_of_le (Nat.lt_succ_self _) (Nat.le_succ _)⟩
  generalize s.heap.objs.size + 1 = Ie at W hst offN hLI hI0 hbig
  generalize s.heap.objs.size = Ii at W hst offN hLI hI0 hbig
  unfold EnBlk
  refine wpAny_newObj_type (wpAny_newFunctionEnv hcell (by intro y hy; simp at hy) (fun h₁ hns₁ hsb₁ => ?_) hkind)
  dsimp only at hns₁ hsb₁ ⊢
  generalize hH2 : h'.push { cls := .type "list", dict := none, data := .seq ([] : List Value).toArray } = H2 at hns₁ hsb₁ ⊢
  have hC : H2.objs.size = h'.objs.size + 1 := by rw [← hH2, Heap.size_push]
  have hDC : h'.objs.size ≠ H2.objs.size := by rw [hC]; exact Nat.ne_of_lt (Nat.lt_succ_self _)
  have below : ∀ b, b < h'.objs.size → b ≠ H2.objs.size ∧ b ≠ h'.objs.size := fun b hb => ⟨by rw [hC]; exact Nat.ne_of_lt (Nat.lt_succ_of_lt hb), Nat.ne_of_lt hb⟩
  have old : ∀ b o, h'.get? b = some o → h₁.get? b = some o := fun b o e => hsb₁.extBut b o (below b (Heap.lt_size e)).1 (Heap.get?_push_of_some _ (hH2 ▸ Heap.get?_push_of_some _ e))
  have hacc : h₁.get? h'.objs.size = some (lst []) := hsb₁.extBut _ _ hDC (Heap.get?_push_of_some _ (hH2 ▸ Heap.get?_push_size _ rfl))
  have hst₁ := W.frame 0 _ _ hst fun b _ o e => old b o e
  have hD₀ : h₀.get? h'.objs.size = none := by
    cases e : h₀.get? h'.objs.size with
    | none => rfl
    | some o' => exact absurd (Heap.lt_size (F'.keep _ o' e)) (Nat.lt_irrefl _)
  have hC₀ : h₀.get? H2.objs.size = none := by
    cases e : h₀.get? H2.objs.size with
    | none => rfl
    | some o' => have := Heap.lt_size (F'.keep _ o' e); rw [hC] at this; exact absurd this (Nat.not_lt.mpr (Nat.le_succ _))
  have hLlt : env.locals < h'.objs.size := F'.ns.lt
  have hDL : h'.objs.size ≠ env.locals := Ne.symm (below _ hLlt).2
  have hCL : H2.objs.size ≠ env.locals := Ne.symm (below _ hLlt).1
  have hltD : ∀ p ∈ news, p.1 < h'.objs.size := fun p hp => Heap.lt_size (N' p hp).1
  have offM : ∀ p ∈ news, p.1 ≠ H2.objs.size ∧ p.1 ≠ h'.objs.size := fun p hp => below _ (Heap.lt_size (N' p hp).1)
  have cF : H2.objs.size ≠ Ie ∧ H2.objs.size ≠ Ii ∧ H2.objs.size ≠ l := ⟨Ne.symm (below _ hbig.2.1).1, Ne.symm (below _ hbig.2.2).1, Ne.symm (below _ hbig.1).1⟩
  have dF : h'.objs.size ≠ Ie ∧ h'.objs.size ≠ Ii ∧ h'.objs.size ≠ l := ⟨Ne.symm (below _ hbig.2.1).2, Ne.symm (below _ hbig.2.2).2, Ne.symm (below _ hbig.1).2⟩
  generalize h'.objs.size = D at hC hDC below hacc hD₀ hLlt hDL offM dF hbig hltD
  generalize H2.objs.size = C at hC hDC below hC₀ hCL offM cF hsb₁ hns₁
  have loop : ∀ s₃ : Shared, s₃ = { s with heap := h₁, toks := s.toks + ([] : List (Str × Value)).length } →
      codeAny (model prog w) A (.compLoop (.ListComp elt [⟨.Tuple [.Name x px, .Name x₂ px₂] kk tp, iter, [], 0⟩] scope pos) 0 (.ref Ie) (.ref D) (compEnvC scope cl C env))
        (compPost (model prog w) A E (some (assign (.Name y py) env)) (fun _ s' => Q .next s') (.ref D) C) s₃ := by
    rintro s₃ rfl
    refine codeAny_compLoop_pair
      (fun k s' => ∃ h' tk i m' ps, s' = { s with heap := h', toks := tk } ∧ i ≤ vs.length ∧ k = vs.length + 1 - i ∧ ps.length = i ∧ (((∃ old, IsEnum h' Ie Ii ((i : Nat) : Int) old) ∧ h'.IsListIter Ii l i ∧ h'.IsList l vs.toArray)) ∧ Fr h₀ env.locals h' m ∧ h'.Ns C m' ∧
        News h₀ env.locals h' ((D, lst (ps.map Pr.ref)) :: (objs ps ++ news)) ∧ (∀ q ∈ objs ps ++ news, q.1 ≠ Ie ∧ q.1 ≠ Ii ∧ q.1 ≠ C ∧ q.1 ≠ D) ∧ (∀ j p, ps[j]? = some p → R j p) ∧ (∀ p ∈ ps, D < p.a)) ?_ (vs.length + 1)
      ⟨h₁, _, 0, _, [], rfl, Nat.zero_le _, rfl, rfl, hst₁, F'.keeps old, hns₁, fun p hp => ?_, fun q hq => ⟨(offN q hq).1, (offN q hq).2, offM q hq⟩, fun j p hj => by simp at hj, fun p hp => nomatch hp⟩
    · rintro k s' ⟨h', tk, i, m', ps, rfl, hi, rfl, hpl, hst', F', hn', N', off', hR, hDp⟩
      by_cases hlt : i < vs.length
      · refine W.item i _ _ _ (by simpa using hlt) hst' fun v h₂ tk₂ hMd hk₂ => ?_
        refine W.go i v _ _ _ hMd fun h₃ hP hst₃ hk₃ => ?_
        obtain ⟨T, vals, rfl, ⟨t, xv, hxv, rfl⟩, hT⟩ := hP
        have hkk : ∀ b o, b ∉ [Ie, Ii] → h'.get? b = some o → h₃.get? b = some o := fun b o hb e => hk₃ b o hb (hk₂ b o hb e)
        have ht : IsTup h₃ T #[.int ((i : Nat) : Int) t, xv] := hT
        refine assign_Tuple_tuple hh ht rfl rfl fun h₅ he => ?_
        have he' : ∀ b o, h₃.get? b = some o → h₅.get? b = some o := fun b o e => he b o (Nat.ne_of_lt (Heap.lt_size e)) e
        have nin : ∀ b, b ≠ Ie → b ≠ Ii → b ∉ [Ie, Ii] := fun b h1 h2 h3 => by
          rcases List.mem_cons.mp h3 with e | h3
          · exact h1 e
          · exact h2 (List.mem_singleton.mp h3)
        refine assignInOrder_cons (wpAny_assign_Name (wpAny_storeName_local (lookup_relabel_local hx) ((hn'.at' fun o e => hkk _ o (nin _ cF.1 cF.2.1) e).at' fun o e => he' _ o e) (fun h₆ hn₆ hs₆ => ?_) (by simp [compEnvC, relabel, hkind])))
        refine assignInOrder_cons (wpAny_assign_Name (wpAny_storeName_local (lookup_relabel_local hx₂) hn₆ (fun h₇ hn₇ hs₇ => ?_) (by simp [compEnvC, relabel, hkind])))
        refine assignInOrder_nil ?_
        have old7 : ∀ b o, b ≠ C → h₃.get? b = some o → h₇.get? b = some o := fun b o hb e => hs₇.extBut b o hb (hs₆.extBut b o hb (he' b o e))
        have hst₇ := W.frame (i + 1) _ _ hst₃ fun b hb o e => old7 b o (by
          simp only [List.mem_cons, List.not_mem_nil, or_false] at hb
          rcases hb with rfl | rfl | rfl
          · exact Ne.symm cF.1
          · exact Ne.symm cF.2.1
          · exact Ne.symm cF.2.2) e
        obtain ⟨oC, heC, hoC⟩ := ns_obj hn₇
        obtain ⟨oe, hoe⟩ : ∃ oe, h₇.get? Ie = some oe := by
          obtain ⟨⟨old, hen⟩, _⟩ := id hst₇
          exact ⟨_, hen⟩
        obtain ⟨oi, hoi⟩ : ∃ oi, h₇.get? Ii = some oi := by
          obtain ⟨_, ⟨oi, h1, _⟩, _⟩ := id hst₇
          exact ⟨_, h1⟩
        have F₃ : Fr h₀ env.locals h₃ m := ⟨F'.ns.at' fun o e => hkk _ o (nin _ hLI.1 hLI.2) e, fun b o e => hkk b o (nin b (fun q => by rw [q, hI0.1] at e; cases e) (fun q => by rw [q, hI0.2] at e; cases e)) (F'.keep b o e), F'.above⟩
        have F₇ : Fr h₀ env.locals h₇ m := ((F₃.keeps he').change hs₆ hCL hC₀).change hs₇ hCL hC₀
        have N₇ : News h₀ env.locals h₇ ((Ie, oe) :: (Ii, oi) :: (C, oC) :: (D, lst (ps.map Pr.ref)) :: (objs ps ++ news)) := fun q hq => by
          rcases List.mem_cons.mp hq with rfl | hq
          · exact ⟨hoe, Ne.symm hLI.1, hI0.1⟩
          rcases List.mem_cons.mp hq with rfl | hq
          · exact ⟨hoi, Ne.symm hLI.2, hI0.2⟩
          rcases List.mem_cons.mp hq with rfl | hq
          · exact ⟨heC, hCL, hC₀⟩
          have z := N' q hq
          rcases List.mem_cons.mp hq with rfl | hq
          · exact ⟨old7 _ _ hDC (hkk _ _ (nin _ dF.1 dF.2.1) z.1), z.2⟩
          · have o := off' q hq
            exact ⟨old7 _ _ o.2.2.1 (hkk _ _ (nin _ o.1 o.2.1) z.1), z.2⟩
        refine wpAny_mono (turn i xv t Ie oe Ii oi C oC D (ps.map Pr.ref) (objs ps ++ news) _ h₇ _ _ (by simpa using hxv) hoC (by simp [hxx]) (by simp) F₇ N₇) (fun y₄ s₄ h₄ => ?_) fun _ _ e => e
        obtain ⟨h₄, tk₄, p, rfl, rfl, hRp, F₄, N₄, hlt₄⟩ := h₄
        have zIe := (N₄ (Ie, oe) (.tail _ (.head _))).1
        have zIi := (N₄ (Ii, oi) (.tail _ (.tail _ (.head _)))).1
        have zC := (N₄ (C, oC) (.tail _ (.tail _ (.tail _ (.head _))))).1
        have zD := (N₄ (D, lst (ps.map Pr.ref)) (.tail _ (.tail _ (.tail _ (.tail _ (.head _)))))).1
        have zp := N₄ (p.a, p.obj) (.head _)
        have zt : ∀ q ∈ objs ps ++ news, h₄.get? q.1 = some q.2 ∧ q.1 ≠ env.locals ∧ h₀.get? q.1 = none := fun q hq => N₄ q (.tail _ (.tail _ (.tail _ (.tail _ (.tail _ hq)))))
        have npD : p.a ≠ D := Nat.ne_of_gt (hlt₄ (D, lst (ps.map Pr.ref)) (.tail _ (.tail _ (.tail _ (.head _)))))
        have npC : p.a ≠ C := Nat.ne_of_gt (hlt₄ (C, oC) (.tail _ (.tail _ (.head _))))
        have npE : p.a ≠ Ie := Nat.ne_of_gt (hlt₄ (Ie, oe) (.head _))
        have npI : p.a ≠ Ii := Nat.ne_of_gt (hlt₄ (Ii, oi) (.tail _ (.head _)))
        refine append_at (hsz := by show (ps.map Pr.ref).toArray.size ≤ sizeLine; rw [List.size_toArray, List.length_map, hpl]; exact Nat.le_trans hi hsz) zD fun h₈ hs₈ hD₈ => ?_
        have hst₈ := W.frame (i + 1) _ h₈ hst₇ fun b hb o e => by
          simp only [List.mem_cons, List.not_mem_nil, or_false] at hb
          rcases hb with rfl | rfl | rfl
          · rw [hoe] at e; cases e
            exact hs₈.extBut _ _ (Ne.symm dF.1) zIe
          · rw [hoi] at e; cases e
            exact hs₈.extBut _ _ (Ne.symm dF.2.1) zIi
          · have e2 := (N₇ (b, lo) (.tail _ (.tail _ (.tail _ (.tail _ (List.mem_append_right _ hm)))))).1
            rw [e2] at e; cases e
            exact hs₈.extBut _ _ (Ne.symm dF.2.2) (zt (b, lo) (List.mem_append_right _ hm)).1
        have hobjs : ∀ q, q ∈ objs (ps ++ [p]) ++ news → q = (p.a, p.obj) ∨ q ∈ objs ps ++ news := fun q hq => by
          unfold objs at hq ⊢
          rw [List.map_append] at hq
          simp only [List.mem_append, List.map_cons, List.map_nil, List.mem_singleton] at hq ⊢
          rcases hq with (h | h) | h
          · exact .inr (.inl h)
          · exact .inl h
          · exact .inr (.inr h)
        refine ⟨vs.length + 1 - (i + 1), by omega, h₈, tk₄, i + 1, _, ps ++ [p], rfl, hlt, rfl, by rw [List.length_append, List.length_singleton, hpl], hst₈, F₄.change hs₈ hDL hD₀, (hoC.ns zC).sameBut hs₈ (Ne.symm hDC), fun q hq => ?_, fun q hq => ?_, fun j q hj => ?_, fun q hq => ?_⟩
        · rcases List.mem_cons.mp hq with rfl | hq
          · refine ⟨?_, hDL, hD₀⟩
            rw [List.map_append]
            exact hD₈.trans (congrArg some (lst_snoc _ _))
          · rcases hobjs q hq with rfl | hq
            · exact ⟨hs₈.extBut _ _ npD zp.1, zp.2⟩
            · exact ⟨hs₈.extBut _ _ (off' q hq).2.2.2 (zt q hq).1, (zt q hq).2⟩
        · rcases hobjs q hq with rfl | hq
          · exact ⟨npE, npI, npC, npD⟩
          · exact off' q hq
        · rcases Nat.lt_or_ge j ps.length with h1 | h1
          · rw [List.getElem?_append_left h1] at hj
            exact hR j q hj
          · rw [List.getElem?_append_right h1] at hj
            have h2 : j - ps.length = 0 := by
              cases h3 : j - ps.length with
              | zero => rfl
              | succ z => rw [h3] at hj; simp at hj
            rw [h2] at hj
            have e1 : p = q := by simpa using hj
            have e2 : j = i := by omega
            rw [← e1, e2]
            exact hRp
        · rcases List.mem_append.mp hq with hq | hq
          · exact hDp q hq
          · rw [List.mem_singleton.mp hq]
            exact hlt₄ (D, lst (ps.map Pr.ref)) (.tail _ (.tail _ (.tail _ (.head _))))
      · have hin : i = vs.length := by omega
        have hst'' : (∃ old, IsEnum h' Ie Ii ((vs.toArray.size : Nat) : Int) old) ∧ h'.IsListIter Ii l vs.toArray.size ∧ h'.IsList l vs.toArray := by rw [List.size_toArray, ← hin]; exact hst'
        refine W.done _ _ _ hst'' fun h₂ tk₂ hk₂ => ?_
        have nin : ∀ b, b ≠ Ie → b ≠ Ii → b ∉ [Ie, Ii] := fun b h1 h2 h3 => by
          rcases List.mem_cons.mp h3 with e | h3
          · exact h1 e
          · exact h2 (List.mem_singleton.mp h3)
        show wpAny _ A (assign (.Name y py) env (.ref D)) _ _ _
        have F₂ : Fr h₀ env.locals h₂ m := ⟨F'.ns.at' fun o e => hk₂ _ o (nin _ hLI.1 hLI.2) e, fun b o e => hk₂ b o (nin b (fun q => by rw [q, hI0.1] at e; cases e) (fun q => by rw [q, hI0.2] at e; cases e)) (F'.keep b o e), F'.above⟩
        refine wpAny_assign_Name (wpAny_storeName_local hy F₂.ns (fun h₃ hn₃ hs₃ => ?_) hp)
        have hL₀ : h₀.get? env.locals = none := Heap.get?_none_of_le F₂.above
        have F₃ : Fr h₀ env.locals h₃ (fun z => if z = y then some (.ref D) else m z) := ⟨hn₃, fun b o e => hs₃.extBut b o (fun q => by rw [q, hL₀] at e; cases e) (F₂.keep b o e), F₂.above⟩
        refine ⟨m', (hn'.at' fun o e => hk₂ _ o (nin _ cF.1 cF.2.1) e).sameBut hs₃ hCL, fun h'' hs'' => fin D h'' _ ps (by omega) hR (F₃.change hs'' hCL hC₀) (fun q hq => ?_) hltD fun q hq => ?_⟩
        rotate_left
        · obtain ⟨p, hp, rfl⟩ := List.mem_map.mp hq
          exact hDp p hp
        replace hq : q ∈ (D, lst (ps.map Pr.ref)) :: (objs ps ++ news) := by
          simp only [List.mem_cons, List.mem_append] at hq ⊢
          rcases hq with h | h | h
          · exact .inl h
          · exact .inr (.inr h)
          · exact .inr (.inl h)
        have z := N' q hq
        rcases List.mem_cons.mp hq with rfl | hq
        · exact ⟨hs''.extBut _ _ hDC (hs₃.extBut _ _ hDL (hk₂ _ _ (nin _ dF.1 dF.2.1) z.1)), z.2⟩
        · have o := off' q hq
          exact ⟨hs''.extBut _ _ o.2.2.1 (hs₃.extBut _ _ z.2.1 (hk₂ _ _ (nin _ o.1 o.2.1) z.1)), z.2⟩
    · rcases List.mem_cons.mp hp with rfl | hp
      · exact ⟨hacc, hDL, hD₀⟩
      · exact ⟨old _ _ (N' p hp).1, (N' p hp).2⟩
  obtain ⟨⟨old', ho⟩, _⟩ := id hst₁
  exact codeAny_compStart_list (loop _ rfl) (wpAny_pyIter_enum ho (loop _ rfl))
end
end
section
open PySem PySem.W PyProof.Rows PySem.Spec PySem.Calls
theorem tx_item (i : Nat) (h : i < 6) : Txt.item (Str.ofString "ABCDEF") (i : Int) = ⟨#[65 + i]⟩ := by
  have h' : i = 0 ∨ i = 1 ∨ i = 2 ∨ i = 3 ∨ i = 4 ∨ i = 5 := by omega
  rcases h' with rfl | rfl | rfl | rfl | rfl | rfl <;> decide +kernel
theorem tx_tabs : ∀ t, t < 5 → Txt.mul (Str.ofString "\t") (t : Nat) = ⟨(List.replicate t 9).toArray⟩ := by decide +kernel
theorem tx_blanks : ∀ b, b < 9 → Txt.mul (Str.ofString " ") (b : Nat) = ⟨(List.replicate b 32).toArray⟩ := by decide +kernel
theorem tx_lead (num : Int) : Txt.mul (Str.ofString "\t") (num.fmod 5) ++ Txt.mul (Str.ofString " ") ((num.fdiv 5).fmod 9) = tb (num % 5).toNat (num / 5 % 9).toNat := by
  have e1 : num.fmod 5 = (((num % 5).toNat : Nat) : Int) := by
    rw [Int.fmod_eq_emod_of_nonneg _ (by decide)]; omega
  have e2 : (num.fdiv 5).fmod 9 = (((num / 5 % 9).toNat : Nat) : Int) := by
    rw [Int.fmod_eq_emod_of_nonneg _ (by decide), Int.fdiv_eq_ediv_of_nonneg _ (by decide)]; omega
  rw [e1, e2, tx_tabs _ (by omega), tx_blanks _ (by omega)]
  unfold tb
  show (⟨(List.replicate _ 9).toArray ++ (List.replicate _ 32).toArray⟩ : Str) = _
  rw [List.append_toArray]
theorem en_close {h₀ h' : Heap} {L a : Addr} {m : Str → Option Value} {s₁ : Shared} {led : List (Addr × Obj)} {R : Pr → Prop} {tk : Nat} {nm x : Str} {tn tv : Tok} {t b : Nat} (hx : x = tb t b)
    (F : Fr h₀ L h' m) (N : News h₀ L h' ((a, { cls := .type "tuple", data := .seq #[.str nm tn, .str x tv] }) :: led)) (hl : ∀ q ∈ led, q.1 < a) (hR : R ⟨a, nm, tn, t, b, tv⟩) : EnEnd h₀ L m s₁ led R (.ref a) { s₁ with heap := h', toks := tk } := by
  subst hx
  exact ⟨h', tk, ⟨a, nm, tn, t, b, tv⟩, rfl, rfl, hR, F, N, hl⟩
theorem allLt_mem {d : Nat} : ∀ {l : List (Addr × Obj)}, AllLt d l → ∀ q ∈ l, q.1 < d
  | [], _, _, hq => (nomatch hq)
  | _ :: _, h, _, hq => by
    rcases List.mem_cons.mp hq with rfl | hq
    · exact h.1
    · exact allLt_mem h.2 _ hq
end
section
open PySem PySem.W PyProof.Rows PySem.Spec PySem.Calls
def AllNeT (t : List (Addr × Obj)) : List (Addr × Obj) → Prop
  | [] => True
  | p :: r => (∀ q ∈ t, q.1 ≠ p.1) ∧ AllNeT t r
theorem allNeT_of {t : List (Addr × Obj)} : ∀ {l : List (Addr × Obj)}, (∀ q ∈ t, ∀ p ∈ l, p.1 ≠ q.1) → AllNeT t l
  | [], _ => trivial
  | _ :: _, h => ⟨fun q hq => Ne.symm (h q hq _ (.head _)), allNeT_of fun q hq p hp => h q hq p (.tail _ hp)⟩
theorem tail_app {a b : List (Addr × Obj)} {d : Addr} (ha : ∀ q ∈ a, q.1 ≠ d) (hb : ∀ q ∈ b, q.1 ≠ d) : ∀ q ∈ a ++ b, q.1 ≠ d := fun q hq => (List.mem_append.mp hq).elim (ha q) (hb q)
theorem tail_gt {a : List (Addr × Obj)} {d d' : Nat} (h : ∀ q ∈ a, d' < q.1) (hd : d < d') : ∀ q ∈ a, q.1 ≠ d := fun q hq => Nat.ne_of_gt (Nat.lt_trans hd (h q hq))
set_option maxRecDepth 100000 in
set_option maxHeartbeats 8000000 in
theorem col_use {w : World} {mean : ExcName → Option Value} {mg mb : Str → Option Value} {dp un : Nat} {gd : Option (List Code)} {cn : Str} {cs : Scope} {a : Addr} {ccd : Value} {cl : List (Str × Addr)} {outer : List Env} {A₀ : Around} {base h₀ : Heap} {L : Addr} {m : Str → Option Value} {s : Shared} {Q E : Value → Shared → Prop}
  (B : Below A₀ base outer h₀) (F : Fr h₀ L s.heap m) (X : (heapK w.params).In h₀)
  (T : Top viewK LS mean mg mb h₀) (hk : cs.kind = .function)
  {news : List (Addr × Obj)} {pl : Addr} {prs : List Pr} {e : Nat} {sz : Int} {u : Tok} (N : News h₀ L s.heap news) (m1 : (pl, ({ cls := .type "list", data := .seq (prs.map Pr.ref).toArray e } : Obj)) ∈ news) (hm : ∀ q ∈ objs prs, q ∈ news)
  (hok : ∀ p ∈ prs, Good p) (hn : prs.length ≤ 6) (hnd : (prs.map Pr.nm).Nodup) (hs3 : 3 ≤ sz) (hs7 : sz ≤ 7)
  (hd' : dp + 8 < recursionLimit) (hu : un + 100 < cLine)
  (ret : ∀ D h' tk' oD kvs cols, Fr h₀ L h' m → Obj.IsDictOf (PySem.strKind PySem.Challenge.rw_pg0308_01.row.prog w) oD kvs → ColsIn cols sz prs kvs → (∀ q ∈ cols, q.2.cls = .type "list") → News h₀ L h' ((D, oD) :: (news ++ cols)) → LCg.Off1 D news → (∀ q ∈ cols, q.1 ≠ D) → AllNeT cols news → Q (.ref D) {s with heap := h', toks := tk'}) :
  wpAny (model PySem.Challenge.rw_pg0308_01.row.prog w) (ktrTop dp un gd cn cs L a ccd cl outer) (call (.ref 274) [.ref pl, .int sz u]) Q E s := by
  have hg : ∀ p ∈ prs, s.heap.get? p.a = some p.obj := fun p hp => (N _ (hm _ (List.mem_map_of_mem (f := fun p : Pr => (p.a, p.obj)) hp))).1
  refine col_c B F X T hk pl prs e sz u (news_sub N (List.forall_mem_cons.mpr ⟨m1, fun _ hq => nomatch hq⟩)) hg (fun p hp => news_ne' N (hm _ (List.mem_map_of_mem (f := fun p : Pr => (p.a, p.obj)) hp)) m1 (by simp [Pr.obj])) (fun p hp => (hok p hp).2) hn hnd hs3 hs7 hd' hu fun D h' tk' kvs cols k1 k2 k3 k4 k5 k6 => ?_
  obtain ⟨oD, hoD, hdD⟩ := Heap.dictOf_iff.mp k2
  have NN : News h₀ L h' ((D, oD) :: cols) := news_fresh F (List.forall_mem_cons.mpr ⟨⟨hoD, k3⟩, fun q hq => ⟨(k5 q hq).1, (k5 q hq).2.1⟩⟩)
  have NO := N.grown k1
  refine ret D h' tk' oD kvs cols (F.keeps k1) hdD k4 (fun q hq => (k5 q hq).2.2) (fun q hq => ?_) ?_ k6 (allNeT_of fun q hq p hp e => ?_)
  · rcases List.mem_cons.mp hq with rfl | hq
    · exact NN _ (.head _)
    · rcases List.mem_append.mp hq with hq | hq
      · exact NO q hq
      · exact NN q (.tail _ hq)
  · have go : ∀ l : List (Addr × Obj), (∀ q ∈ l, q ∈ news) → LCg.Off1 D l := by
      intro l
      induction l with
      | nil => intro _; trivial
      | cons q r ih =>
        intro hl
        refine ⟨fun e => ?_, ih fun q hq => hl q (.tail _ hq)⟩
        have e' : q.1 = D := e
        have := (N q (hl q (.head _))).1
        rw [e', k3] at this
        cases this
    exact go news fun _ h => h
  · have h1 := (k5 q hq).2.1
    rw [← e, (N p hp).1] at h1
    cases h1
theorem subL_mono {a b : List (Addr × Obj)} (h : ∀ q ∈ a, q ∈ b) : ∀ {k : List (Addr × Obj)}, SubL k a → SubL k b
  | [], _ => trivial
  | _ :: _, x => ⟨h _ x.1, subL_mono h x.2⟩
section
variable {prog : Program} {w : World} {A : Around} {E : Value → Shared → Prop} {s : Shared} {env : Env} {h₀ : Heap} {target : PySem.Expr} {body : List Stmt} {Q : Flow → Shared → Prop}
theorem val_ind' {I : Addr} {it : String} {keep : List (Addr × Obj)} (J : List Value → (Str → Option Value) → List (Addr × Obj) → Prop) (hk : ∀ l m n, J l m n → SubL keep n)
    (turn : ∀ v r m news h tk o, J (v :: r) m news → Fr h₀ env.locals h m → o.cls = .type it → News h₀ env.locals h ((I, o) :: news) →
      wpAny (model prog w) A (assign target env v) (fun _ s₂ => wpAny (model prog w) A (execs body env) (UnrPostW h₀ env.locals { s with heap := h, toks := tk } [(I, o)] (J r) Q) E s₂) E { s with heap := h, toks := tk })
    (fin : ∀ m news h tk, J [] m news → Fr h₀ env.locals h m → News h₀ env.locals h news → Q .next { s with heap := h, toks := tk })
    (vs : List Value) (m : Str → Option Value) (news news' : List (Addr × Obj)) (hs : ∀ q ∈ news, q ∈ news') (hJ : J vs m news) : ItemsRest prog w A E h₀ env target body Q s [(I, it)] keep (vs.map .val) m news' := by
  refine val_ind (fun r m news' => ∃ news, (∀ q ∈ news, q ∈ news') ∧ J r m news) ?_ ?_ ?_ vs m news' ⟨news, hs, hJ⟩
  · rintro l m n ⟨n', hs, hJ⟩
    exact subL_mono hs (hk _ _ _ hJ)
  · rintro c r m news' h tk o ⟨news, hs, hJ⟩ F ho N
    refine wpAny_mono (turn c r m news h tk o hJ F ho (news_sub N (List.forall_mem_cons.mpr ⟨.head _, fun q hq => .tail _ (hs q hq)⟩))) (fun _ s₂ h₂ => wpAny_mono h₂ (fun fl s₃ h₃ => ?_) fun _ _ e => e) fun _ _ e => e
    have fin' : ∀ s₃, UnrEndW h₀ env.locals { s with heap := h, toks := tk } [(I, o)] (J r) s₃ → UnrEndW h₀ env.locals { s with heap := h, toks := tk } [(I, o)] (fun m' n' => ∃ news, (∀ q ∈ news, q ∈ n') ∧ J r m' news) s₃ := by
      rintro s₃ ⟨h', tk', m', news', e, F', N', ho, r'⟩
      exact ⟨h', tk', m', news', e, F', N', ho, news', fun _ h => h, r'⟩
    cases fl with
    | ret v => exact h₃
    | brk => exact h₃
    | next => exact fin' _ h₃
    | cont => exact fin' _ h₃
  · rintro m news' h tk ⟨news, hs, hJ⟩ F N
    exact fin m news h tk hJ F (news_sub N hs)
end
def nmV (p : Pr) : Value := .str p.nm p.tn
def NmJ (led : List (Addr × Obj)) (ps : List Pr) (M : (Str → Option Value) → Prop) (r : List Value) (m : Str → Option Value) (news : List (Addr × Obj)) : Prop :=
  ∃ qs : List Pr, (∀ q ∈ qs, q ∈ ps) ∧ r = qs.map nmV ∧ news = led ∧ M m
theorem pick_led {h₀ h : Heap} {L : Addr} {e0 e1 e2 e3 e4 e5 e6 e7 e8 e9 : Addr × Obj} {t : List (Addr × Obj)} (N : News h₀ L h (e0 :: e1 :: e2 :: e3 :: e4 :: e5 :: e6 :: e7 :: e8 :: e9 :: t)) : ∃ led, led = e0 :: e1 :: e2 :: e3 :: e7 :: e8 :: e9 :: t ∧ (∀ q ∈ led, q ∈ (e0 :: e1 :: e2 :: e3 :: e4 :: e5 :: e6 :: e7 :: e8 :: e9 :: t)) ∧ News h₀ L h led := by
  have hs : ∀ q ∈ e0 :: e1 :: e2 :: e3 :: e7 :: e8 :: e9 :: t, q ∈ (e0 :: e1 :: e2 :: e3 :: e4 :: e5 :: e6 :: e7 :: e8 :: e9 :: t) := by
    intro q hq
    simp only [List.mem_cons] at hq ⊢
    rcases hq with h | h | h | h | h | h | h | h
    · exact .inl h
    · exact .inr (.inl h)
    · exact .inr (.inr (.inl h))
    · exact .inr (.inr (.inr (.inl h)))
    · exact .inr (.inr (.inr (.inr (.inr (.inr (.inr (.inl h)))))))
    · exact .inr (.inr (.inr (.inr (.inr (.inr (.inr (.inr (.inl h))))))))
    · exact .inr (.inr (.inr (.inr (.inr (.inr (.inr (.inr (.inr (.inl h)))))))))
    · exact .inr (.inr (.inr (.inr (.inr (.inr (.inr (.inr (.inr (.inr h)))))))))
  exact ⟨_, rfl, hs, news_sub N hs⟩
theorem news_add {h₀ h : Heap} {L : Addr} {e : Addr × Obj} {l : List (Addr × Obj)} (N : News h₀ L h l) (hm : e ∈ l) : News h₀ L h (e :: l) := List.forall_mem_cons.mpr ⟨N e hm, N⟩
theorem news_tl {h₀ h : Heap} {L : Addr} {e : Addr × Obj} {t : List (Addr × Obj)} (N : News h₀ L h (e :: t)) : News h₀ L h t := fun q hq => N q (.tail _ hq)
section
variable {prog : Program} {w : World} {A : Around} {E : Value → Shared → Prop} {s : Shared}
open LCg LCp in
theorem compP_name {h₀ : Heap} {L : Addr} {m : Str → Option Value} {env : Env} {x x₂ z : Str} {pz : Pos} {scope : Scope} {cl : List (Str × Addr)} {ax : Addr} {α : Type} {all : List α} {f v1 v2 o : α → Value} {ad : α → Addr} {ob : α → Obj} {nn : α → Nat} {news : List (Addr × Obj)} {Fin : List Value → List (Addr × Obj) → Prop} {n : Nat}
    (hn : n = all.length) (hf : ∀ p ∈ all, f p = .ref (ad p) ∧ (ad p, ob p) ∈ news ∧ (ob p).cls = .type "tuple" ∧ (ob p).data = .seq #[v1 p, v2 p] (nn p))
    (hz : ∀ p (m₂ : Str → Option Value), m₂ x = some (v1 p) → m₂ x₂ = some (v2 p) → m₂ z = some (o p)) (hS : SrcAt h₀ ax (all.map f).toArray news)
    (hk : ∀ C, (compEnvC scope cl C env).scope.kind = .function) (hl : ∀ C, (compEnvC scope cl C env).kindOf z = some .local) (hd : (z == ("__debug__" : Str)) = false)
    (fin : Fin (all.map o) news) :
    CompRestP prog w A h₀ L m env (.Name z pz) x x₂ scope cl s (SrcAt h₀ ax (all.map f).toArray) (fun i v => (all.map f).toArray[i]? = some v) Fin n 0 [] news := by
  subst hn
  have go : ∀ (k i : Nat) (ys : List Value), i + k = all.length → ys ++ (all.drop i).map o = all.map o →
      CompRestP prog w A h₀ L m env (.Name z pz) x x₂ scope cl s (SrcAt h₀ ax (all.map f).toArray) (fun i v => (all.map f).toArray[i]? = some v) Fin k i ys news := by
    intro k
    induction k with
    | zero =>
      intro i ys hi hy
      refine CompRestP.zero ?_
      rw [List.drop_of_length_le (by omega), List.map_nil, List.append_nil] at hy
      rw [hy]
      exact fin
    | succ k ih =>
      intro i ys hi hy
      refine CompRestP.succ fun v hv => ?_
      have hlt : i < all.length := by omega
      have hv' : v = f all[i] := by
        simp only [List.getElem?_toArray, List.getElem?_map, List.getElem?_eq_getElem hlt, Option.map_some, Option.some.injEq] at hv
        exact hv.symm
      obtain ⟨e1, e2, e3, e4⟩ := hf all[i] (List.getElem_mem hlt)
      refine ⟨ad all[i], ob all[i], v1 all[i], v2 all[i], nn all[i], hv'.trans e1, e2, e3, e4, fun I oI C oC D m₂ h tk E' hC hx hy' F N off ne => ?_⟩
      refine LCgL.ld_own (C := C) (oC := oC) N (.tail _ (.head _)) hC (hz _ m₂ hx hy') ?_ (hk C) (hl C) hd
      refine CompEnd.intro F N news (fun _ h => h) off hS (ih (i + 1) _ (by omega) ?_)
      rw [List.drop_eq_getElem_cons hlt, List.map_cons] at hy
      rw [List.append_assoc]
      exact hy
  exact go all.length 0 [] (by omega) (by simp)
end
end
section
open PySem PySem.W PyProof.Rows PySem.Spec PySem.Calls
def sg (d : Int) : Int := if d < 0 then -1 else if d > 0 then 1 else 0
theorem sgn_sg (x y : Int) : sgn x y = sg (x - y) := by
  unfold sgn sg
  repeat' split
  all_goals omega
theorem sg_pair (a b : Int) : (0 < a + b → 0 ≤ sg a + sg b) ∧ (a + b = 0 → sg a + sg b = 0) ∧ (a + b < 0 → sg a + sg b ≤ 0) := by
  unfold sg
  repeat' split
  all_goals omega
theorem sg_one (a : Int) : (0 < a → sg a = 1) ∧ (a = 0 → sg a = 0) ∧ (a < 0 → sg a = -1) := by
  unfold sg
  repeat' split
  all_goals omega
def midOf (sz : Int) : Int := (sz + 1).fdiv 2 - 1
def midCol (sz : Int) (k : Key) : Int := (keyCol sz k).getD (midOf sz).toNat 0
theorem sg_two {a b m : Int} (h : a + b = 2 * m) : (0 < m → 0 ≤ sg a + sg b) ∧ (m = 0 → sg a + sg b = 0) ∧ (m < 0 → sg a + sg b ≤ 0) := by
  obtain ⟨x, y, z⟩ := sg_pair a b
  rw [h] at x y z
  exact ⟨fun k => x (by omega), fun k => y (by omega), fun k => z (by omega)⟩
theorem maj_fin {S m : Int} (h1 : 0 < m → 0 < S) (h2 : m = 0 → S = 0) (h3 : m < 0 → S < 0) : (0 < S ↔ 0 < m) ∧ (S < 0 ↔ m < 0) := by
  rcases Int.lt_trichotomy m 0 with h | h | h
  · exact ⟨⟨fun k => absurd (h3 h) (Int.not_lt.mpr (Int.le_of_lt k)), fun k => absurd h (Int.not_lt.mpr (Int.le_of_lt k))⟩, ⟨fun _ => h, fun _ => h3 h⟩⟩
  · have e := h2 h
    subst h e
    exact ⟨Iff.rfl, Iff.rfl⟩
  · exact ⟨⟨fun _ => h, fun _ => h1 h⟩, ⟨fun k => absurd (h1 h) (Int.not_lt.mpr (Int.le_of_lt k)), fun k => absurd h (Int.not_lt.mpr (Int.le_of_lt k))⟩⟩
theorem m3p {a b c : Int} (h : 0 ≤ a + c) (k : b = 1) : 0 < a + (b + (c + 0)) := by omega
theorem m3z {a b c : Int} (h : a + c = 0) (k : b = 0) : a + (b + (c + 0)) = 0 := by omega
theorem m3n {a b c : Int} (h : a + c ≤ 0) (k : b = -1) : a + (b + (c + 0)) < 0 := by omega
theorem m5p {a b c d e : Int} (h : 0 ≤ a + e) (k : 0 < b + (c + (d + 0))) : 0 < a + (b + (c + (d + (e + 0)))) := by omega
theorem m5z {a b c d e : Int} (h : a + e = 0) (k : b + (c + (d + 0)) = 0) : a + (b + (c + (d + (e + 0)))) = 0 := by omega
theorem m5n {a b c d e : Int} (h : a + e ≤ 0) (k : b + (c + (d + 0)) < 0) : a + (b + (c + (d + (e + 0)))) < 0 := by omega
theorem m7p {a b c d e f g : Int} (h : 0 ≤ a + g) (k : 0 < b + (c + (d + (e + (f + 0))))) : 0 < a + (b + (c + (d + (e + (f + (g + 0)))))) := by omega
theorem m7z {a b c d e f g : Int} (h : a + g = 0) (k : b + (c + (d + (e + (f + 0)))) = 0) : a + (b + (c + (d + (e + (f + (g + 0)))))) = 0 := by omega
theorem m7n {a b c d e f g : Int} (h : a + g ≤ 0) (k : b + (c + (d + (e + (f + 0)))) < 0) : a + (b + (c + (d + (e + (f + (g + 0)))))) < 0 := by omega
theorem maj3 {a b c : Int} (h : a + c = 2 * b) : (0 < b → 0 < sg a + (sg b + (sg c + 0))) ∧ (b = 0 → sg a + (sg b + (sg c + 0)) = 0) ∧ (b < 0 → sg a + (sg b + (sg c + 0)) < 0) := by
  obtain ⟨x, y, z⟩ := sg_two h
  obtain ⟨p, q, r⟩ := sg_one b
  exact ⟨fun k => m3p (x k) (p k), fun k => m3z (y k) (q k), fun k => m3n (z k) (r k)⟩
theorem maj5 {a b c d e : Int} (h : a + e = 2 * c) (h' : b + d = 2 * c) : (0 < c → 0 < sg a + (sg b + (sg c + (sg d + (sg e + 0))))) ∧ (c = 0 → sg a + (sg b + (sg c + (sg d + (sg e + 0)))) = 0) ∧ (c < 0 → sg a + (sg b + (sg c + (sg d + (sg e + 0)))) < 0) := by
  obtain ⟨x, y, z⟩ := sg_two h
  obtain ⟨p, q, r⟩ := maj3 h'
  exact ⟨fun k => m5p (x k) (p k), fun k => m5z (y k) (q k), fun k => m5n (z k) (r k)⟩
theorem maj7 {a b c d e f g : Int} (h : a + g = 2 * d) (h' : b + f = 2 * d) (h'' : c + e = 2 * d) : (0 < d → 0 < sg a + (sg b + (sg c + (sg d + (sg e + (sg f + (sg g + 0))))))) ∧ (d = 0 → sg a + (sg b + (sg c + (sg d + (sg e + (sg f + (sg g + 0)))))) = 0) ∧ (d < 0 → sg a + (sg b + (sg c + (sg d + (sg e + (sg f + (sg g + 0)))))) < 0) := by
  obtain ⟨x, y, z⟩ := sg_two h
  obtain ⟨p, q, r⟩ := maj5 h' h''
  exact ⟨fun k => m7p (x k) (p k), fun k => m7z (y k) (q k), fun k => m7n (z k) (r k)⟩
theorem mid_add (b t c u i j m : Int) (h : i + j = 2 * m) : (b + i * t - (c + i * u)) + (b + j * t - (c + j * u)) = 2 * (b + m * t - (c + m * u)) := by
  have e : j = 2 * m - i := by omega
  subst e
  simp only [Int.sub_mul, Int.mul_assoc]
  omega
theorem maj {sz : Int} (hs : sz = 3 ∨ sz = 5 ∨ sz = 7) (p q : Key) : (0 < votesF (keyCol sz p) (keyCol sz q) ↔ 0 < midCol sz p - midCol sz q) ∧ (votesF (keyCol sz p) (keyCol sz q) < 0 ↔ midCol sz p - midCol sz q < 0) := by
  rcases hs with rfl | rfl | rfl
  · have e : votesF (keyCol 3 p) (keyCol 3 q) = sgn (p.b + 1 * p.t) (q.b + 1 * q.t) + (sgn (p.b + 2 * p.t) (q.b + 2 * q.t) + (sgn (p.b + 3 * p.t) (q.b + 3 * q.t) + 0)) := rfl
    have e1 : midCol 3 p = p.b + 2 * p.t := rfl
    have e2 : midCol 3 q = q.b + 2 * q.t := rfl
    rw [e, e1, e2]
    simp only [sgn_sg]
    obtain ⟨x, y, z⟩ := maj3 (mid_add (p.b : Int) p.t q.b q.t 1 3 2 rfl)
    exact maj_fin x y z
  · have e : votesF (keyCol 5 p) (keyCol 5 q) = sgn (p.b + 1 * p.t) (q.b + 1 * q.t) + (sgn (p.b + 2 * p.t) (q.b + 2 * q.t) + (sgn (p.b + 3 * p.t) (q.b + 3 * q.t) + (sgn (p.b + 4 * p.t) (q.b + 4 * q.t) + (sgn (p.b + 5 * p.t) (q.b + 5 * q.t) + 0)))) := rfl
    have e1 : midCol 5 p = p.b + 3 * p.t := rfl
    have e2 : midCol 5 q = q.b + 3 * q.t := rfl
    rw [e, e1, e2]
    simp only [sgn_sg]
    obtain ⟨x, y, z⟩ := maj5 (mid_add (p.b : Int) p.t q.b q.t 1 5 3 rfl) (mid_add (p.b : Int) p.t q.b q.t 2 4 3 rfl)
    exact maj_fin x y z
  · have e : votesF (keyCol 7 p) (keyCol 7 q) = sgn (p.b + 1 * p.t) (q.b + 1 * q.t) + (sgn (p.b + 2 * p.t) (q.b + 2 * q.t) + (sgn (p.b + 3 * p.t) (q.b + 3 * q.t) + (sgn (p.b + 4 * p.t) (q.b + 4 * q.t) + (sgn (p.b + 5 * p.t) (q.b + 5 * q.t) + (sgn (p.b + 6 * p.t) (q.b + 6 * q.t) + (sgn (p.b + 7 * p.t) (q.b + 7 * q.t) + 0)))))) := rfl
    have e1 : midCol 7 p = p.b + 4 * p.t := rfl
    have e2 : midCol 7 q = q.b + 4 * q.t := rfl
    rw [e, e1, e2]
    simp only [sgn_sg]
    obtain ⟨x, y, z⟩ := maj7 (mid_add (p.b : Int) p.t q.b q.t 1 7 4 rfl) (mid_add (p.b : Int) p.t q.b q.t 2 6 4 rfl) (mid_add (p.b : Int) p.t q.b q.t 3 5 4 rfl)
    exact maj_fin x y z
def KK (sz : Int) (k : Key) : Int := -midCol sz k * 128 + codeOf k.nm
theorem codeOf_mk (c : Nat) : codeOf ⟨#[c]⟩ = (c : Int) := rfl
theorem swaps_iff {sz : Int} (hs : sz = 3 ∨ sz = 5 ∨ sz = 7) {a b : Key} (ha : Ltr a.nm) (hb : Ltr b.nm) : swaps sz a b = true ↔ KK sz b < KK sz a := by
  obtain ⟨m1, m2⟩ := maj hs a b
  obtain ⟨ca, ea, a1, a2⟩ := ha
  obtain ⟨cb, eb, b1, b2⟩ := hb
  unfold swaps kvotes KK
  rw [ea, eb, codeOf_mk, codeOf_mk]
  simp only [Bool.or_eq_true, Bool.and_eq_true, decide_eq_true_eq]
  have hlt : (⟨#[cb]⟩ : Str).cps.toList < (⟨#[ca]⟩ : Str).cps.toList ↔ cb < ca := by
    show [cb] < [ca] ↔ _
    rw [List.cons_lt_cons_iff]
    constructor
    · rintro (h1 | ⟨h1, h2⟩)
      · exact h1
      · exact absurd h2 (by simp)
    · exact fun h1 => .inl h1
  rw [hlt]
  omega
theorem krun_spec {sz : Int} (hs : sz = 3 ∨ sz = 5 ∨ sz = 7) : ∀ (n : Nat) (l ls : List Key), l.length = n + 1 → (∀ k ∈ l, Ltr k.nm) → ∃ x ls', krun sz n (l, ls) = ([x], ls ++ ls') ∧ (x :: ls').Perm l ∧ ∀ y ∈ l, KK sz x ≤ KK sz y
  | 0, [x], ls, _, _ => ⟨x, [], by simp [krun], List.Perm.refl _, fun y hy => by rw [List.mem_singleton.mp hy]; exact Int.le_refl _⟩
  | n + 1, a :: b :: r, ls, hl, hk => by
    have ha := hk a (.head _)
    have hb := hk b (.tail _ (.head _))
    have hr : ∀ k ∈ r, Ltr k.nm := fun k h => hk k (.tail _ (.tail _ h))
    have go : ∀ w o : Key, Ltr w.nm → (a = w ∧ b = o ∨ a = o ∧ b = w) → KK sz w ≤ KK sz o → kstep sz (a :: b :: r, ls) = (r ++ [w], ls ++ [o]) → ∃ x ls', krun sz (n + 1) (a :: b :: r, ls) = ([x], ls ++ ls') ∧ (x :: ls').Perm (a :: b :: r) ∧ ∀ y ∈ a :: b :: r, KK sz x ≤ KK sz y := by
      intro w o hw hc hle e
      obtain ⟨x, ls', e1, e2, e3⟩ := krun_spec hs n (r ++ [w]) (ls ++ [o]) (by simp at hl ⊢; omega) (fun k h => by
        rcases List.mem_append.mp h with h | h
        · exact hr k h
        · rw [List.mem_singleton.mp h]; exact hw)
      refine ⟨x, o :: ls', ?_, ?_, ?_⟩
      · show krun sz n (kstep sz (a :: b :: r, ls)) = _
        rw [e, e1, List.append_assoc]; rfl
      · have h1 : (x :: o :: ls').Perm (o :: (r ++ [w])) := (List.Perm.swap _ _ _).trans (List.Perm.cons _ e2)
        have h2 : (o :: (r ++ [w])).Perm (o :: w :: r) := List.Perm.cons _ (List.perm_append_singleton _ _)
        refine (h1.trans h2).trans ?_
        rcases hc with ⟨rfl, rfl⟩ | ⟨rfl, rfl⟩
        · exact List.Perm.swap _ _ _
        · exact List.Perm.refl _
      · have hxw := e3 w (List.mem_append_right _ (.head _))
        intro y hy
        have hy' : y = w ∨ y = o ∨ y ∈ r := by
          rcases hc with ⟨rfl, rfl⟩ | ⟨rfl, rfl⟩ <;> simp only [List.mem_cons] at hy
          · exact hy
          · rcases hy with h | h | h
            · exact .inr (.inl h)
            · exact .inl h
            · exact .inr (.inr h)
        rcases hy' with rfl | rfl | h
        · exact hxw
        · omega
        · exact e3 y (List.mem_append_left _ h)
    have hsw := swaps_iff hs ha hb
    cases hc : swaps sz a b with
    | true => exact go b a hb (.inr ⟨rfl, rfl⟩) (by have := hsw.mp hc; omega) (by simp only [kstep, hc, if_true])
    | false =>
      have hn : ¬ KK sz b < KK sz a := fun h => by rw [hsw.mpr h] at hc; cases hc
      exact go a b ha (.inl ⟨rfl, rfl⟩) (by omega) (by simp only [kstep, hc, Bool.false_eq_true, if_false])
theorem krank_spec {sz : Int} (hs : sz = 3 ∨ sz = 5 ∨ sz = 7) : ∀ (n : Nat) (ks d : List Key), n = ks.length → (∀ k ∈ ks, Ltr k.nm) → ∃ out, krank sz n ks d = d ++ out ∧ out.Perm ks ∧ out.Pairwise (fun a b => KK sz a ≤ KK sz b)
  | 0, [], d, _, _ => ⟨[], by simp [krank], List.Perm.refl _, List.Pairwise.nil⟩
  | n + 1, k :: ks, d, hn, hk => by
    obtain ⟨x, ls', e1, e2, e3⟩ := krun_spec hs ks.length (k :: ks) [] rfl hk
    have hlen : n = ls'.length := by
      have := e2.length_eq
      simp at this hn
      omega
    obtain ⟨out, f1, f2, f3⟩ := krank_spec hs n ls' (d ++ [x]) hlen fun y hy => hk y (e2.mem_iff.mp (.tail _ hy))
    refine ⟨x :: out, ?_, (List.Perm.cons _ f2).trans e2, List.Pairwise.cons (fun y hy => e3 y (e2.mem_iff.mp (.tail _ (f2.mem_iff.mp hy)))) f3⟩
    show krank sz n (krun sz ks.length (k :: ks, [])).2 (d ++ (krun sz ks.length (k :: ks, [])).1) = _
    rw [e1]
    show krank sz n ([] ++ ls') (d ++ [x]) = _
    rw [List.nil_append, f1, List.append_assoc]
    rfl
theorem KK_inj {sz : Int} {a b : Key} (ha : Ltr a.nm) (hb : Ltr b.nm) (h : KK sz a = KK sz b) : a.nm = b.nm := by
  obtain ⟨ca, ea, a1, a2⟩ := ha
  obtain ⟨cb, eb, b1, b2⟩ := hb
  unfold KK at h
  rw [ea, eb, codeOf_mk, codeOf_mk] at h
  have : ca = cb := by omega
  rw [ea, eb, this]
theorem rank_names {sz : Int} (hs : sz = 3 ∨ sz = 5 ∨ sz = 7) {ps : List Pr} (hl : ∀ p ∈ ps, Ltr p.nm) {out : List TP} {tp : List TP} (ho : out.Perm tp) (hp : out.Pairwise (fun a b => a.key < b.key))
    (ht : tp.map (fun t => (t.key, t.nm)) = ps.map (fun p => (KK sz p.key, p.nm))) : (krank sz ps.length (ps.map Pr.key) []).map Key.nm = out.map TP.nm := by
  obtain ⟨o, e1, e2, e3⟩ := krank_spec hs ps.length (ps.map Pr.key) [] (by simp) (fun k hk => by
    obtain ⟨p, hp, rfl⟩ := List.mem_map.mp hk
    exact hl p hp)
  rw [e1, List.nil_append]
  have h1 : (o.map fun k => (KK sz k, k.nm)).Perm (ps.map fun p => (KK sz p.key, p.nm)) := by
    have := e2.map (fun k => (KK sz k, k.nm))
    rw [List.map_map] at this
    exact this
  have h2 : (out.map fun t => (t.key, t.nm)).Perm (ps.map fun p => (KK sz p.key, p.nm)) := ht ▸ ho.map _
  have key : (o.map fun k => (KK sz k, k.nm)) = out.map fun t => (t.key, t.nm) := by
    refine List.Perm.eq_of_pairwise (le := fun a b => a.1 ≤ b.1) ?_ ?_ ?_ (h1.trans h2.symm)
    · intro a b ha hb h3 h4
      obtain ⟨p, hp, rfl⟩ := List.mem_map.mp (h1.mem_iff.mp ha)
      obtain ⟨q, hq, rfl⟩ := List.mem_map.mp (h2.mem_iff.mp hb)
      have e : KK sz p.key = KK sz q.key := Int.le_antisymm h3 h4
      have e' : p.nm = q.nm := KK_inj (hl p hp) (hl q hq) e
      rw [e, e']
    · rw [List.pairwise_map]; exact e3
    · rw [List.pairwise_map]; exact hp.imp fun h => Int.le_of_lt h
  have := congrArg (List.map Prod.snd) key
  rw [List.map_map, List.map_map] at this
  exact this
end
section
open PySem PySem.W PyProof.Rows PySem.Spec PySem.Calls
section
variable {prog : Program} {w : World} {A : Around} {E : Value → Shared → Prop} {s : Shared}
theorem ne_two {x y : Addr} {a b c d : Bool} {Q : Value → Shared → Prop} (hx : s.heap.IsTuple x #[.bool a, .bool b]) (hy : s.heap.IsTuple y #[.bool c, .bool d]) (e1 : a = c) (e2 : b = d) (hu : A.units < cLine) (h : Q (.bool false) s) : wpAny (model prog w) A (compareOp .NotEq (.ref x) (.ref y)) Q E s := by
  subst e1 e2
  refine SeqAt.RcNeAt.tuples (e := fun _ => true) hx hy hu (fun j h1 h2 => ?_) prog w E Q h
  match j, h1 with
  | 0, _ =>
    have := SeqAt.EqAt.bool_bool (A := A.in1) (s := s) a a
    rwa [beq_self_eq_true] at this
  | 1, _ =>
    have := SeqAt.EqAt.bool_bool (A := A.in1) (s := s) b b
    rwa [beq_self_eq_true] at this
theorem ne_names {l b : Addr} {xs ys : List (Str × Tok)} {Q : Value → Shared → Prop} (hl : s.heap.IsList l (xs.map fun q => Value.str q.1 q.2).toArray) (hb : s.heap.IsList b (ys.map fun q => Value.str q.1 q.2).toArray) (he : xs.map Prod.fst = ys.map Prod.fst) (hu : A.units < cLine) (h : Q (.bool false) s) : wpAny (model prog w) A (compareOp .NotEq (.ref l) (.ref b)) Q E s := by
  have hlen : xs.length = ys.length := by simpa using congrArg List.length he
  refine SeqAt.RcNeAt.lists (e := fun _ => true) hl hb (by simp [hlen]) hu (fun j h1 h2 => ?_) prog w E Q ?_
  · have h1' : j < xs.length := by simpa using h1
    have h2' : j < ys.length := by simpa using h2
    have e1 : (xs.map fun q => Value.str q.1 q.2).toArray[j] = Value.str xs[j].1 xs[j].2 := by simp
    have e2 : (ys.map fun q => Value.str q.1 q.2).toArray[j] = Value.str ys[j].1 ys[j].2 := by simp
    have e3 : xs[j].1 = ys[j].1 := by
      have a : (xs.map Prod.fst)[j]? = (ys.map Prod.fst)[j]? := by rw [he]
      simpa [h1', h2'] using a
    rw [e1, e2, e3]
    have := SeqAt.EqAt.str_str (A := A.in1) (s := s) ys[j].1 xs[j].2 ys[j].1 ys[j].2
    rwa [beq_self_eq_true] at this
  · have : (!(List.range (xs.map fun q => Value.str q.1 q.2).toArray.size).all fun _ => true) = false := by simp
    rw [this]
    exact h
end
end
section
open PySem PySem.W PyProof.Rows PySem.Spec PySem.Calls
set_option maxRecDepth 100000
open LCg
section
variable {M : Model} {A : Around} {E : Value → Shared → Prop} {s : Shared}
theorem nfe_cells {scope : Scope} {globals : Addr} {closure : List (Str × Addr)} {qual : Str} {func : Option Addr} {code : Value} {outer : Env} {builtins : Addr} {Q : Env → Shared → Prop}
    (hQ : Q (newEnv scope s.heap.objs.size globals (cellsFrom (s.heap.objs.size + 1) scope.names closure) qual func code (some outer) builtins) { s with heap := pushCells (s.heap.push { cls := .type "dict", data := .dict #[] }) scope.names }) :
    wpAny M A (newFunctionEnv scope globals closure [] qual func code (some outer) builtins) Q E s := by
  simp only [newFunctionEnv, Option.isSome_some, if_true]
  refine wpAny_bind (wpAny_alloc ?_)
  refine wpAny_bind (wpAny_layCells _ (fun name kind cells => by cases hkc : kind == NameKind.cell <;> simp [hkc]) _ _ _ _ ?_)
  rw [show ({ s with heap := s.heap.push { cls := .type "dict", data := .dict #[] } } : Shared).heap.objs.size = s.heap.objs.size + 1 from Heap.size_push ..]
  exact wpAny_bind (wpAny_pure (wpAny_pure hQ))
end
section
variable {prog : Program} {w : World} {A : Around} {E : Value → Shared → Prop} {s : Shared} {h₀ : Heap} {L : Addr} {m : Str → Option Value} {env : Env}
def CbEnd (h₀ : Heap) (L : Addr) (m : Str → Option Value) (s₁ : Shared) (led : List (Addr × Obj)) (R : Addr × Obj → Prop) (y : Value) (s' : Shared) : Prop :=
  ∃ h' tk q, s' = { s₁ with heap := h', toks := tk } ∧ y = Value.ref q.1 ∧ R q ∧ Fr h₀ L h' m ∧ News h₀ L h' (q :: led) ∧ ∀ p ∈ led, p.1 ≠ q.1
theorem cb_list {elt iter : PySem.Expr} {x : Str} {px : Pos} {scope : Scope} {cl : List (Str × Addr)} {pos : Pos} {Q : Value → Shared → Prop} {ax : Addr} {lo : Obj} {vs : List Value} {n : Nat} {news : List (Addr × Obj)} (R : Nat → Addr × Obj → Prop)
    (hh : A.handled = none) (F : Fr h₀ L s.heap m) (N : News h₀ L s.heap news) (hm : (ax, lo) ∈ news) (hc : lo.cls = .type "list") (hd : lo.data = .seq vs.toArray n) (hsz : vs.length ≤ sizeLine)
    (hclos : closureFor scope env = pure cl) (hcf : ∀ k, cellsFrom k scope.names cl = (x, k) :: cl) (hpc : ∀ h : Heap, pushCells h scope.names = h.push { cls := .type "cell", data := .cell none }) (hkind : scope.kind = .function)
    (hnames : ∀ z ∈ scope.names, z.2 = .local → scope.names.lookup z.1 = some .local) (hkx : ∀ c C, (compEnvC scope ((x, c) :: cl) C env).kindOf x = some .cell)
    (hiter : ∀ Q' : Value → Shared → Prop, Q' (.ref ax) s → wpAny (model prog w) A (eval iter env) Q' E s)
    (turn : ∀ i v I oI C oC D c oc ys nw h tk (E' : Value → Shared → Prop), vs[i]? = some v → oc.data = .cell (some v) → Fr h₀ L h m → News h₀ L h ((c, oc) :: (I, oI) :: (C, oC) :: (D, lst ys) :: (news ++ nw)) →
      wpAny (model prog w) A (eval elt (compEnvC scope ((x, c) :: cl) C env)) (CbEnd h₀ L m { s with heap := h, toks := tk } ((c, oc) :: (I, oI) :: (C, oC) :: (D, lst ys) :: (news ++ nw)) (R i)) E' { s with heap := h, toks := tk })
    (fin : ∀ D h tk qs, qs.length = vs.length → (∀ j q, qs[j]? = some q → R j q) → Fr h₀ L h m → News h₀ L h ((D, lst (qs.map fun q => Value.ref q.1)) :: (news ++ qs)) → (∀ q ∈ news ++ qs, q.1 ≠ D) → Q (.ref D) { s with heap := h, toks := tk })
    (hs : ∀ x, foldedSetIterable iter env x = pure x := by intro _; rfl) :
    wpAny (model prog w) A (eval (.ListComp elt [⟨.Name x px, iter, [], 0⟩] scope pos) env) Q E s := by
  rw [eval_ListComp]
  refine wpAny_comprehension_free (use := none) rfl hs hclos hkind hnames ?_
  refine hiter _ ?_
  have hax := N _ hm
  have hl : s.heap.IsList ax vs.toArray := ⟨lo, hax.1, hc, n, hd⟩
  have hlt : ax < s.heap.objs.size := Heap.lt_size hax.1
  refine wpAny_pyIter_list hl ?_
  have hLs : L < s.heap.objs.size := F.ns.lt
  have W := Walks.list (prog := prog) (w := w) hh s.heap.objs.size ax (Nat.ne_of_lt hlt) vs.toArray
  generalize hH1 : s.heap.push { cls := .type "list_iterator", data := .fields #[.ref ax, .int 0 0] } = H1
  have hs1 : H1.objs.size = s.heap.objs.size + 1 := by rw [← hH1, Heap.size_push]
  have up1 : ∀ b o, s.heap.get? b = some o → H1.get? b = some o := fun b o e => hH1 ▸ Heap.get?_push_of_some _ e
  have hst : H1.IsListIter s.heap.objs.size ax 0 ∧ H1.IsList ax vs.toArray := ⟨⟨_, hH1 ▸ Heap.get?_push_size _ rfl, rfl, rfl⟩, hl.at fun o e => up1 _ o e⟩
  refine wpAny_newObj_type ?_
  generalize hH2 : H1.push { cls := .type "list", dict := none, data := .seq ([] : List Value).toArray } = H2
  have hs2 : H2.objs.size = s.heap.objs.size + 2 := by rw [← hH2, Heap.size_push, hs1]
  have up2 : ∀ b o, H1.get? b = some o → H2.get? b = some o := fun b o e => hH2 ▸ Heap.get?_push_of_some _ e
  refine nfe_cells ?_
  dsimp only
  rw [hcf, hpc]
  generalize hH3 : H2.push { cls := .type "dict", data := .dict #[] } = H3
  have hs3 : H3.objs.size = s.heap.objs.size + 3 := by rw [← hH3, Heap.size_push, hs2]
  have up3 : ∀ b o, H2.get? b = some o → H3.get? b = some o := fun b o e => hH3 ▸ Heap.get?_push_of_some _ e
  generalize hH4 : H3.push { cls := .type "cell", data := .cell none } = H4
  have up4 : ∀ b o, H3.get? b = some o → H4.get? b = some o := fun b o e => hH4 ▸ Heap.get?_push_of_some _ e
  have hup : ∀ b o, s.heap.get? b = some o → H4.get? b = some o := fun b o e => up4 b o (up3 b o (up2 b o (up1 b o e)))
  have up14 : ∀ b o, H1.get? b = some o → H4.get? b = some o := fun b o e => up4 b o (up3 b o (up2 b o e))
  have eD : H4.get? (s.heap.objs.size + 1) = some (lst []) := up4 _ _ (up3 _ _ (by rw [← hs1, ← hH2]; exact Heap.get?_push_size _ rfl))
  have nC : H4.Ns (s.heap.objs.size + 2) (fun _ => none) := by
    have := Heap.Ns.new H2 (.type "dict")
    rw [hs2, hH3] at this
    exact this.keeps up4
  have eC : H4.IsCell (s.heap.objs.size + 3) none := ⟨_, by rw [← hs3, ← hH4]; exact Heap.get?_push_size _ rfl, rfl⟩
  have fresh : ∀ k, h₀.get? (s.heap.objs.size + k) = none ∧ (s.heap.objs.size + k ≠ L) ∧ (∀ p ∈ news, p.1 ≠ s.heap.objs.size + k) ∧ s.heap.objs.size + k ≠ ax := fun k =>
    ⟨ktu_new F (Nat.le_add_right _ _), Nat.ne_of_gt (Nat.lt_of_lt_of_le hLs (Nat.le_add_right _ _)), fun p hp => Nat.ne_of_lt (Nat.lt_of_lt_of_le (Heap.lt_size (N p hp).1) (Nat.le_add_right _ _)), Nat.ne_of_gt (Nat.lt_of_lt_of_le hlt (Nat.le_add_right _ _))⟩
  have fI := fresh 0
  have fD := fresh 1
  have fC := fresh 2
  have fc := fresh 3
  rw [hs1, hs2]
  rw [Nat.add_zero] at fI
  have dis : s.heap.objs.size ≠ s.heap.objs.size + 1 ∧ s.heap.objs.size ≠ s.heap.objs.size + 2 ∧ s.heap.objs.size ≠ s.heap.objs.size + 3 ∧ s.heap.objs.size + 1 ≠ s.heap.objs.size + 2 ∧ s.heap.objs.size + 1 ≠ s.heap.objs.size + 3 ∧ s.heap.objs.size + 2 ≠ s.heap.objs.size + 3 :=
    ⟨Nat.ne_of_lt (Nat.lt_add_of_pos_right (by decide)), Nat.ne_of_lt (Nat.lt_add_of_pos_right (by decide)), Nat.ne_of_lt (Nat.lt_add_of_pos_right (by decide)), Nat.ne_of_lt (Nat.lt_succ_self _), Nat.ne_of_lt (Nat.add_lt_add_left (by decide) _), Nat.ne_of_lt (Nat.lt_succ_self _)⟩
  show codeAny _ A (.compStart (.ListComp elt [⟨.Name x px, iter, [], 0⟩] scope pos) 0 (.ref s.heap.objs.size) (.ref (s.heap.objs.size + 1)) (compEnvC scope ((x, s.heap.objs.size + 3) :: cl) (s.heap.objs.size + 2) env)) (compPost (model prog w) A E none Q (.ref (s.heap.objs.size + 1)) (s.heap.objs.size + 2)) _
  clear hs1 hs2 hs3 up1 up2 up3 up4 fresh hH1 hH2 hH3 hH4
  generalize s.heap.objs.size + 1 = D at *
  generalize s.heap.objs.size + 2 = C at *
  generalize s.heap.objs.size + 3 = c at *
  have hst4 := W.frame 0 _ H4 hst fun b _ o e => up14 b o e
  generalize s.heap.objs.size = I at *
  have nin : ∀ b, b ≠ I → b ∉ [I] := fun b h1 h2 => h1 (List.mem_singleton.mp h2)
  have hker : (compEnvC scope ((x, c) :: cl) C env).scope.kind = .function := hkind
  have hlook : (compEnvC scope ((x, c) :: cl) C env).cells.lookup x = some c := by simp [compEnvC]
  have loop : ∀ tk0, codeAny (model prog w) A (.compLoop (.ListComp elt [⟨.Name x px, iter, [], 0⟩] scope pos) 0 (.ref I) (.ref D) (compEnvC scope ((x, c) :: cl) C env))
        (compPost (model prog w) A E none Q (.ref D) C) { s with heap := H4, toks := tk0 } := by
    intro tk0
    refine codeAny_compLoop_tests
      (fun k s' => ∃ h' tk i cv qs, s' = { s with heap := h', toks := tk } ∧ i ≤ vs.length ∧ k = vs.length + 1 - i ∧ qs.length = i ∧ (h'.IsListIter I ax i ∧ h'.IsList ax vs.toArray) ∧ Fr h₀ L h' m ∧ h'.Ns C (fun _ => none) ∧ h'.IsCell c cv ∧
        News h₀ L h' ((D, lst (qs.map fun q => Value.ref q.1)) :: (news ++ qs)) ∧ (∀ q ∈ news ++ qs, q.1 ≠ I ∧ q.1 ≠ C ∧ q.1 ≠ D ∧ q.1 ≠ c) ∧ (∀ j q, qs[j]? = some q → R j q)) ?_ (vs.length + 1)
      ⟨H4, tk0, 0, none, [], rfl, Nat.zero_le _, rfl, rfl, hst4, F.keeps hup, nC, eC, fun p hp => ?_, fun q hq => ?_, fun j p hj => by simp at hj⟩
    · rintro k s' ⟨h', tk, i, cv, qs, rfl, hi, rfl, hql, hst', F', hn', hcell', N', off', hR⟩
      by_cases hlt' : i < vs.length
      · refine W.item i _ _ _ (by simpa using hlt') hst' fun v h₂ tk₂ hv hst₂ hk₂ => ?_
        have hn₂ : h₂.Ns C (fun _ => none) := hn'.at' fun o e => hk₂ _ o (nin _ (Ne.symm dis.2.1)) e
        have hc₂ : h₂.IsCell c cv := by
          obtain ⟨o, e1, e2⟩ := hcell'
          exact ⟨o, hk₂ _ _ (nin _ (Ne.symm dis.2.2.1)) e1, e2⟩
        refine wpAny_assign_Name (wpAny_storeName_cell hker (hkx c C) hlook hc₂ fun h₃ hc₃ hs₃ => ?_)
        refine wpAny_tests_nil ?_
        simp only [if_true]
        have old3 : ∀ b o, b ≠ I → b ≠ c → h'.get? b = some o → h₃.get? b = some o := fun b o h1 h2 e => hs₃.extBut b o h2 (hk₂ b o (nin _ h1) e)
        have hst₃ := W.frame (i + 1) _ h₃ hst₂ fun b hb o e => hs₃.extBut b o (by
          simp only [List.mem_cons, List.not_mem_nil, or_false] at hb
          rcases hb with rfl | rfl
          · exact dis.2.2.1
          · exact Ne.symm fc.2.2.2) e
        obtain ⟨oC, heC, hoC⟩ := ns_obj (hn₂.sameBut hs₃ dis.2.2.2.2.2)
        obtain ⟨oi, hoi, _⟩ := id hst₃.1
        obtain ⟨oc, hoc, hdc⟩ := hc₃
        have F₃ : Fr h₀ L h₃ m := ⟨F'.ns.at' fun o e => old3 _ o (Ne.symm fI.2.1) (Ne.symm fc.2.1) e, fun b o e => old3 b o (fun q => by rw [q, fI.1] at e; cases e) (fun q => by rw [q, fc.1] at e; cases e) (F'.keep b o e), F'.above⟩
        have N₃ : News h₀ L h₃ ((c, oc) :: (I, oi) :: (C, oC) :: (D, lst (qs.map fun q => Value.ref q.1)) :: (news ++ qs)) := fun q hq => by
          rcases List.mem_cons.mp hq with rfl | hq
          · exact ⟨hoc, fc.2.1, fc.1⟩
          rcases List.mem_cons.mp hq with rfl | hq
          · exact ⟨hoi, fI.2.1, fI.1⟩
          rcases List.mem_cons.mp hq with rfl | hq
          · exact ⟨heC, fC.2.1, fC.1⟩
          have z := N' q hq
          rcases List.mem_cons.mp hq with rfl | hq
          · exact ⟨old3 _ _ (Ne.symm dis.1) dis.2.2.2.2.1 z.1, z.2⟩
          · have o := off' q hq
            exact ⟨old3 _ _ o.1 o.2.2.2 z.1, z.2⟩
        refine wpAny_mono (turn i v I oi C oC D c oc (qs.map fun q => Value.ref q.1) qs h₃ _ _ (by simpa using hv) hdc F₃ N₃) (fun y₄ s₄ h₄ => ?_) fun _ _ e => e
        obtain ⟨h₄, tk₄, q₀, rfl, rfl, hRq, F₄, N₄, hne₄⟩ := h₄
        have zc := (N₄ (c, oc) (.tail _ (.head _))).1
        have zI := (N₄ (I, oi) (.tail _ (.tail _ (.head _)))).1
        have zC := (N₄ (C, oC) (.tail _ (.tail _ (.tail _ (.head _))))).1
        have zD := (N₄ (D, lst (qs.map fun q => Value.ref q.1)) (.tail _ (.tail _ (.tail _ (.tail _ (.head _)))))).1
        have zq := N₄ q₀ (.head _)
        have zt : ∀ q ∈ news ++ qs, h₄.get? q.1 = some q.2 ∧ q.1 ≠ L ∧ h₀.get? q.1 = none := fun q hq => N₄ q (.tail _ (.tail _ (.tail _ (.tail _ (.tail _ hq)))))
        have npc : q₀.1 ≠ c := Ne.symm (hne₄ (c, oc) (.head _))
        have npI : q₀.1 ≠ I := Ne.symm (hne₄ (I, oi) (.tail _ (.head _)))
        have npC : q₀.1 ≠ C := Ne.symm (hne₄ (C, oC) (.tail _ (.tail _ (.head _))))
        have npD : q₀.1 ≠ D := Ne.symm (hne₄ (D, lst (qs.map fun q => Value.ref q.1)) (.tail _ (.tail _ (.tail _ (.head _)))))
        refine append_at (hsz := by show (qs.map fun q => Value.ref q.1).toArray.size ≤ sizeLine; rw [List.size_toArray, List.length_map, hql]; exact Nat.le_trans hi hsz) zD fun h₈ hs₈ hD₈ => ?_
        have hst₈ := W.frame (i + 1) _ h₈ hst₃ fun b hb o e => by
          simp only [List.mem_cons, List.not_mem_nil, or_false] at hb
          rcases hb with rfl | rfl
          · rw [hoi] at e; cases e
            exact hs₈.extBut _ _ dis.1 zI
          · have e2 := (N₃ (b, lo) (.tail _ (.tail _ (.tail _ (.tail _ (List.mem_append_left _ hm)))))).1
            rw [e2] at e; cases e
            exact hs₈.extBut _ _ (Ne.symm fD.2.2.2) (zt (b, lo) (List.mem_append_left _ hm)).1
        have hobjs : ∀ q, q ∈ news ++ (qs ++ [q₀]) → q = q₀ ∨ q ∈ news ++ qs := fun q hq => by
          simp only [List.mem_append, List.mem_singleton] at hq ⊢
          rcases hq with h | h | h
          · exact .inr (.inl h)
          · exact .inr (.inr h)
          · exact .inl h
        refine ⟨vs.length + 1 - (i + 1), by omega, h₈, tk₄, i + 1, some v, qs ++ [q₀], rfl, hlt', rfl, by rw [List.length_append, List.length_singleton, hql], hst₈, F₄.change hs₈ fD.2.1 fD.1, (hoC.ns zC).sameBut hs₈ (Ne.symm dis.2.2.2.1), ⟨oc, hs₈.extBut _ _ (Ne.symm dis.2.2.2.2.1) zc, hdc⟩, fun q hq => ?_, fun q hq => ?_, fun j q hj => ?_⟩
        · rcases List.mem_cons.mp hq with rfl | hq
          · refine ⟨?_, fD.2.1, fD.1⟩
            rw [List.map_append]
            exact hD₈.trans (congrArg some (lst_snoc _ _))
          · rcases hobjs q hq with rfl | hq
            · exact ⟨hs₈.extBut _ _ npD zq.1, zq.2⟩
            · exact ⟨hs₈.extBut _ _ (off' q hq).2.2.1 (zt q hq).1, (zt q hq).2⟩
        · rcases hobjs q hq with rfl | hq
          · exact ⟨npI, npC, npD, npc⟩
          · exact off' q hq
        · rcases Nat.lt_or_ge j qs.length with h1 | h1
          · rw [List.getElem?_append_left h1] at hj
            exact hR j q hj
          · rw [List.getElem?_append_right h1] at hj
            have h2 : j - qs.length = 0 := by
              cases h3 : j - qs.length with
              | zero => rfl
              | succ z => rw [h3] at hj; simp at hj
            rw [h2] at hj
            have e1 : q₀ = q := by simpa using hj
            have e2 : j = i := by omega
            rw [← e1, e2]
            exact hRq
      · have hin : i = vs.length := by omega
        have hst'' : h'.IsListIter I ax vs.toArray.size ∧ h'.IsList ax vs.toArray := by rw [List.size_toArray, ← hin]; exact hst'
        refine W.done _ _ _ hst'' fun h₂ tk₂ hk₂ => ?_
        have F₂ : Fr h₀ L h₂ m := ⟨F'.ns.at' fun o e => hk₂ _ o (nin _ (Ne.symm fI.2.1)) e, fun b o e => hk₂ b o (nin b (fun q => by rw [q, fI.1] at e; cases e)) (F'.keep b o e), F'.above⟩
        refine ⟨_, hn'.at' fun o e => hk₂ _ o (nin _ (Ne.symm dis.2.1)) e, fun h'' hs'' => fin D h'' _ qs (by omega) hR (F₂.change hs'' fC.2.1 fC.1) (fun q hq => ?_) fun q hq => (off' q hq).2.2.1⟩
        have z := N' q hq
        rcases List.mem_cons.mp hq with rfl | hq
        · exact ⟨hs''.extBut _ _ dis.2.2.2.1 (hk₂ _ _ (nin _ (Ne.symm dis.1)) z.1), z.2⟩
        · have o := off' q hq
          exact ⟨hs''.extBut _ _ o.2.1 (hk₂ _ _ (nin _ o.1) z.1), z.2⟩
    · rw [List.append_nil] at hp
      rcases List.mem_cons.mp hp with rfl | hp
      · exact ⟨eD, fD.2.1, fD.1⟩
      · exact ⟨hup _ _ (N p hp).1, (N p hp).2⟩
    · rw [List.append_nil] at hq
      exact ⟨fI.2.2.1 q hq, fC.2.2.1 q hq, fD.2.2.1 q hq, fc.2.2.1 q hq⟩
  exact codeAny_compStart_list (loop _) (W.self 0 _ _ _ hst4 (loop _))
end
end
section
open PySem PySem.W PyProof.Rows PySem.Spec PySem.Calls
theorem fr_hid {h₀ h h' : Heap} {L : Addr} {m : Str → Option Value} {hid : List (Addr × Obj)} (F : Fr h₀ L h m) (N : News h₀ L h hid) (k : ∀ b o, b ∉ List.map (·.1) hid → h.get? b = some o → h'.get? b = some o) : Fr h₀ L h' m :=
  ⟨F.ns.at' fun o e => k _ o (fun hm => by
      obtain ⟨q, hq, e'⟩ := List.mem_map.mp hm
      exact (N q hq).2.1 e') e,
    fun b o e => k b o (fun hm => by
      obtain ⟨q, hq, e'⟩ := List.mem_map.mp hm
      have e2 : q.1 = b := e'
      have := (N q hq).2.2
      rw [e2, e] at this
      cases this) (F.keep b o e), F.above⟩
theorem news_neo {h₀ h : Heap} {L a b : Addr} {o o' : Obj} {news : List (Addr × Obj)} (N : News h₀ L h news) (ha : (a, o) ∈ news) (hb : (b, o') ∈ news) (hne : o ≠ o') : a ≠ b := fun e => by
  have h1 := (N _ ha).1
  have h2 := (N _ hb).1
  subst e
  exact hne (Option.some.inj (h1.symm.trans h2))
theorem off1_of {D : Addr} : ∀ {l : List (Addr × Obj)}, (∀ q ∈ l, q.1 ≠ D) → LCg.Off1 D l
  | [], _ => trivial
  | _ :: _, h => ⟨h _ (.head _), off1_of fun q hq => h q (.tail _ hq)⟩
abbrev tobjs (ts : List TP) : List (Addr × Obj) := ts.map fun t => (t.a, t.obj)
section
variable {prog : Program} {w : World} {A : Around} {E : Value → Shared → Prop} {s : Shared} {h₀ : Heap} {L : Addr} {m : Str → Option Value} {env : Env}
open LCg
def VaEnd (h₀ : Heap) (L : Addr) (m : Str → Option Value) (s₁ : Shared) (led : List (Addr × Obj)) (v y : Value) (s' : Shared) : Prop :=
  ∃ h' tk, s' = { s₁ with heap := h', toks := tk } ∧ y = v ∧ Fr h₀ L h' m ∧ News h₀ L h' led
def TpEnd (h₀ : Heap) (L : Addr) (m : Str → Option Value) (s₁ : Shared) (led : List (Addr × Obj)) (cn : Int × Str) (y : Value) (s' : Shared) : Prop :=
  ∃ h' tk t, s' = { s₁ with heap := h', toks := tk } ∧ y = TP.ref t ∧ (t.c, t.nm) = cn ∧ Fr h₀ L h' m ∧ News h₀ L h' ((t.a, t.obj) :: led) ∧ ∀ q ∈ led, q.1 ≠ t.a
theorem comp_val {elt : PySem.Expr} {x : Str} {scope : Scope} {cl : List (Str × Addr)} {ax : Addr} {α : Type} {all : List α} {f o : α → Value} {news : List (Addr × Obj)} {Fin : List Value → List (Addr × Obj) → Prop} {n : Nat}
    (hn : n = all.length) (hS : SrcAt h₀ ax (all.map f).toArray news)
    (turn : ∀ p ∈ all, ∀ ys I oI C oC D m₂ h tk (E' : Value → Shared → Prop), NsObj oC m₂ → m₂ x = some (f p) → Fr h₀ L h m → News h₀ L h ((I, oI) :: (C, oC) :: (D, lst ys) :: news) →
      wpAny (model prog w) A (eval elt (compEnvC scope cl C env)) (VaEnd h₀ L m { s with heap := h, toks := tk } ((I, oI) :: (C, oC) :: (D, lst ys) :: news) (o p)) E' { s with heap := h, toks := tk })
    (fin : Fin (all.map o) news) :
    CompRest prog w A h₀ L m env elt x scope cl s (SrcAt h₀ ax (all.map f).toArray) (fun i v => (all.map f).toArray[i]? = some v) Fin n 0 [] news := by
  subst hn
  have go : ∀ (k i : Nat) (ys : List Value), i + k = all.length → ys ++ (all.drop i).map o = all.map o →
      CompRest prog w A h₀ L m env elt x scope cl s (SrcAt h₀ ax (all.map f).toArray) (fun i v => (all.map f).toArray[i]? = some v) Fin k i ys news := by
    intro k
    induction k with
    | zero =>
      intro i ys hi hy
      refine CompRest.zero ?_
      rw [List.drop_of_length_le (by omega), List.map_nil, List.append_nil] at hy
      rw [hy]
      exact fin
    | succ k ih =>
      intro i ys hi hy
      refine CompRest.succ fun v I oI C oC D m₂ h tk E' hv hC hx F N off ne => ?_
      have hlt : i < all.length := by omega
      have hv' : v = f all[i] := by
        simp only [List.getElem?_toArray, List.getElem?_map, List.getElem?_eq_getElem hlt, Option.map_some, Option.some.injEq] at hv
        exact hv.symm
      subst hv'
      refine wpAny_mono (turn all[i] (List.getElem_mem hlt) ys I oI C oC D m₂ h tk E' hC hx F N) (fun y s₄ h₄ => ?_) fun _ _ e => e
      obtain ⟨h₄, tk₄, rfl, rfl, F₄, N₄⟩ := h₄
      refine CompEnd.intro F₄ N₄ news (fun _ h => h) off hS (ih (i + 1) _ (by omega) ?_)
      rw [List.drop_eq_getElem_cons hlt, List.map_cons] at hy
      rw [List.append_assoc]
      exact hy
  exact go all.length 0 [] (by omega) (by simp)
theorem comp_tp {elt : PySem.Expr} {x : Str} {scope : Scope} {cl : List (Str × Addr)} {ax : Addr} {α : Type} {all : List α} {f : α → Value} {cn : α → Int × Str} {news : List (Addr × Obj)} {Fin : List Value → List (Addr × Obj) → Prop} {n : Nat}
    (hn : n = all.length) (hS : ∀ nw, SrcAt h₀ ax (all.map f).toArray (news ++ nw))
    (turn : ∀ p ∈ all, ∀ ys I oI C oC D nw m₂ h tk (E' : Value → Shared → Prop), NsObj oC m₂ → m₂ x = some (f p) → Fr h₀ L h m → News h₀ L h ((I, oI) :: (C, oC) :: (D, lst ys) :: (news ++ nw)) →
      wpAny (model prog w) A (eval elt (compEnvC scope cl C env)) (TpEnd h₀ L m { s with heap := h, toks := tk } ((I, oI) :: (C, oC) :: (D, lst ys) :: (news ++ nw)) (cn p)) E' { s with heap := h, toks := tk })
    (fin : ∀ ts : List TP, ts.map (fun t => (t.c, t.nm)) = all.map cn → Fin (ts.map TP.ref) (news ++ tobjs ts)) :
    CompRest prog w A h₀ L m env elt x scope cl s (SrcAt h₀ ax (all.map f).toArray) (fun i v => (all.map f).toArray[i]? = some v) Fin n 0 [] news := by
  subst hn
  have go : ∀ (k i : Nat) (ts : List TP), i + k = all.length → ts.map (fun t => (t.c, t.nm)) ++ (all.drop i).map cn = all.map cn →
      CompRest prog w A h₀ L m env elt x scope cl s (SrcAt h₀ ax (all.map f).toArray) (fun i v => (all.map f).toArray[i]? = some v) Fin k i (ts.map TP.ref) (news ++ tobjs ts) := by
    intro k
    induction k with
    | zero =>
      intro i ts hi hy
      refine CompRest.zero ?_
      rw [List.drop_of_length_le (by omega), List.map_nil, List.append_nil] at hy
      exact fin ts hy
    | succ k ih =>
      intro i ts hi hy
      refine CompRest.succ fun v I oI C oC D m₂ h tk E' hv hC hx F N off ne => ?_
      have hlt : i < all.length := by omega
      have hv' : v = f all[i] := by
        simp only [List.getElem?_toArray, List.getElem?_map, List.getElem?_eq_getElem hlt, Option.map_some, Option.some.injEq] at hv
        exact hv.symm
      subst hv'
      refine wpAny_mono (turn all[i] (List.getElem_mem hlt) (ts.map TP.ref) I oI C oC D (tobjs ts) m₂ h tk E' hC hx F N) (fun y s₄ h₄ => ?_) fun _ _ e => e
      obtain ⟨h₄, tk₄, t, rfl, rfl, hcn, F₄, N₄, hne⟩ := h₄
      have hm : ts.map TP.ref ++ [TP.ref t] = (ts ++ [t]).map TP.ref := by rw [List.map_append]; rfl
      have hl : news ++ tobjs (ts ++ [t]) = (news ++ tobjs ts) ++ [(t.a, t.obj)] := by
        show news ++ (ts ++ [t]).map _ = _
        rw [List.map_append, List.append_assoc]; rfl
      refine CompEnd.intro F₄ N₄ (news ++ tobjs (ts ++ [t])) ?_ (Off3.of fun q hq => ?_) (hS _) ?_
      · intro q hq
        rw [hl] at hq
        simp only [List.mem_cons, List.mem_append, List.not_mem_nil, or_false] at hq ⊢
        rcases hq with h | h | h | h | h
        · exact .inr (.inl h)
        · exact .inr (.inr (.inl h))
        · exact .inr (.inr (.inr (.inl h)))
        · exact .inr (.inr (.inr (.inr h)))
        · exact .inl h
      · rw [hl] at hq
        rcases List.mem_append.mp hq with hq | hq
        · exact Off3.mem off q hq
        · rw [List.mem_singleton.mp hq]
          exact ⟨Ne.symm (hne (I, oI) (.head _)), Ne.symm (hne (C, oC) (.tail _ (.head _))), Ne.symm (hne (D, lst (ts.map TP.ref)) (.tail _ (.tail _ (.head _))))⟩
      · rw [hm]
        refine ih (i + 1) (ts ++ [t]) (by omega) ?_
        rw [List.drop_eq_getElem_cons hlt, List.map_cons] at hy
        rw [List.map_append, List.append_assoc]
        show ts.map (fun t => (t.c, t.nm)) ++ ((t.c, t.nm) :: _) = _
        rw [hcn]
        exact hy
  have := go all.length 0 [] (by omega) (by simp)
  rw [List.map_nil, show tobjs [] = [] from rfl, List.append_nil] at this
  exact this
end
set_option maxRecDepth 100000 in
set_option maxHeartbeats 8000000 in
theorem ranked_use {w : World} {mean : ExcName → Option Value} {mg mb : Str → Option Value} {dp un : Nat} {gd : Option (List Code)} {cn : Str} {cs : Scope} {a : Addr} {ccd : Value} {cl : List (Str × Addr)} {outer : List Env} {A₀ : Around} {base h₀ : Heap} {L : Addr} {m : Str → Option Value} {s : Shared} {Q E : Value → Shared → Prop}
  (B : Below A₀ base outer h₀) (F : Fr h₀ L s.heap m) (X : (heapK w.params).In h₀)
  (T : Top viewK LS mean mg mb h₀) (hk : cs.kind = .function)
  {pl D : Addr} {oD : Obj} {e1 e3 e4 e5 e6 e7 : Addr × Obj} {prs : List Pr} {e : Nat} {sz : Int} {kvs : List (Str × Value)} {cols : List (Addr × Obj)}
  (N : News h₀ L s.heap ((pl, lstE (prs.map Pr.ref) e) :: e1 :: (D, oD) :: e3 :: e4 :: e5 :: e6 :: e7 :: (objs prs ++ cols)))
  (hdD : Obj.IsDictOf (PySem.strKind PySem.Challenge.rw_pg0308_01.row.prog w) oD kvs) (hcols : ColsIn cols sz prs kvs) (hcc : ∀ q ∈ cols, q.2.cls = .type "list") (hcp : ∀ q ∈ cols, q.1 ≠ pl)
  (hx : ∀ x ∈ [e1, (D, oD), e4, e5, e6, e7], x.1 ≠ pl ∧ ∀ p : Pr, p.obj ≠ x.2)
  (hok : ∀ p ∈ prs, Good p) (hn : prs.length ≤ 6) (hnd : (prs.map Pr.nm).Nodup) (hs3 : 3 ≤ sz) (hs7 : sz ≤ 7)
  (hd' : dp + 12 < recursionLimit) (hu : un + 140 < cLine)
  (ret : ∀ R h' tk' e', Fr h₀ L h' m → News h₀ L h' ((R, lstE ((krank sz prs.length (prs.map Pr.key) []).map Key.val) e') :: e1 :: (D, oD) :: e4 :: e5 :: e6 :: e7 :: cols) → LCg.Off1 R (e1 :: (D, oD) :: e4 :: e5 :: e6 :: e7 :: cols) → Q (.ref R) {s with heap := h', toks := tk'}) :
  wpAny (model PySem.Challenge.rw_pg0308_01.row.prog w) (ktrTop dp un gd cn cs L a ccd cl outer) (call (.ref 286) [.ref pl, .ref D]) Q E s := by
  have mO : ∀ q ∈ objs prs, q ∈ (pl, lstE (prs.map Pr.ref) e) :: e1 :: (D, oD) :: e3 :: e4 :: e5 :: e6 :: e7 :: (objs prs ++ cols) := fun q hq => by
    have h : q ∈ objs prs ++ cols := List.mem_append_left _ hq
    repeat (first | exact h | apply List.mem_cons_of_mem)
  have mC : ∀ q ∈ cols, q ∈ (pl, lstE (prs.map Pr.ref) e) :: e1 :: (D, oD) :: e3 :: e4 :: e5 :: e6 :: e7 :: (objs prs ++ cols) := fun q hq => by
    have h : q ∈ objs prs ++ cols := List.mem_append_right _ hq
    repeat (first | exact h | apply List.mem_cons_of_mem)
  have mX : ∀ x ∈ [e1, (D, oD), e4, e5, e6, e7], x ∈ (pl, lstE (prs.map Pr.ref) e) :: e1 :: (D, oD) :: e3 :: e4 :: e5 :: e6 :: e7 :: (objs prs ++ cols) := fun q hq => by
    simp only [List.mem_cons, List.not_mem_nil, or_false] at hq ⊢
    rcases hq with h | h | h | h | h | h
    · exact .inr (.inl h)
    · exact .inr (.inr (.inl h))
    · exact .inr (.inr (.inr (.inr (.inl h))))
    · exact .inr (.inr (.inr (.inr (.inr (.inl h)))))
    · exact .inr (.inr (.inr (.inr (.inr (.inr (.inl h))))))
    · exact .inr (.inr (.inr (.inr (.inr (.inr (.inr (.inl h)))))))
  have NH : News h₀ L s.heap ((pl, lstE (prs.map Pr.ref) e) :: tups prs) := news_sub N (List.forall_mem_cons.mpr ⟨.head _, mO⟩)
  have hidX : ∀ x ∈ [e1, (D, oD), e4, e5, e6, e7], ∀ q ∈ (pl, lstE (prs.map Pr.ref) e) :: tups prs, q.1 ≠ x.1 := fun x hx' q hq => by
    rcases List.mem_cons.mp hq with rfl | hq
    · exact Ne.symm (hx x hx').1
    · obtain ⟨p, hp, rfl⟩ := List.mem_map.mp hq
      exact news_neo (o' := x.2) N (mO _ (List.mem_map_of_mem (f := fun p : Pr => (p.a, p.obj)) hp)) (mX x hx') ((hx x hx').2 p)
  have hidC : ∀ x ∈ cols, ∀ q ∈ (pl, lstE (prs.map Pr.ref) e) :: tups prs, q.1 ≠ x.1 := fun x hx' q hq => by
    rcases List.mem_cons.mp hq with rfl | hq
    · exact Ne.symm (hcp x hx')
    · obtain ⟨p, hp, rfl⟩ := List.mem_map.mp hq
      exact news_ne' (o' := x.2) N (mO _ (List.mem_map_of_mem (f := fun p : Pr => (p.a, p.obj)) hp)) (mC x hx') (by rw [hcc x hx']; simp [Pr.obj])
  refine ranked_c B F X T hk pl D prs e sz kvs cols NH (Heap.dictOf_iff.mpr ⟨oD, (N _ (mX (D, oD) (by simp))).1, hdD⟩) (fun q hq => hidX (D, oD) (by simp) q hq) hcols (fun p hp => ⟨(N _ (mC p hp)).1, fun q hq => hidC p hp q hq⟩) hok hn hnd hs3 hs7 hd' hu fun R h' tk' e' k1 k2 k3 => ?_
  have keepA : ∀ x ∈ e1 :: (D, oD) :: e4 :: e5 :: e6 :: e7 :: cols, h'.get? x.1 = some x.2 ∧ x.1 ≠ L ∧ h₀.get? x.1 = none := fun x hx' => by
    have hm : x ∈ [e1, (D, oD), e4, e5, e6, e7] ∨ x ∈ cols := by
      simp only [List.mem_cons, List.not_mem_nil, or_false] at hx' ⊢
      rcases hx' with h | h | h | h | h | h | h
      · exact .inl (.inl h)
      · exact .inl (.inr (.inl h))
      · exact .inl (.inr (.inr (.inl h)))
      · exact .inl (.inr (.inr (.inr (.inl h))))
      · exact .inl (.inr (.inr (.inr (.inr (.inl h)))))
      · exact .inl (.inr (.inr (.inr (.inr (.inr h)))))
      · exact .inr h
    rcases hm with hm | hm
    · have z := N _ (mX x hm)
      exact ⟨k1 _ _ (off_map (hidX x hm)) z.1, z.2⟩
    · have z := N _ (mC x hm)
      exact ⟨k1 _ _ (off_map (hidC x hm)) z.1, z.2⟩
  have oldA : ∀ x ∈ e1 :: (D, oD) :: e4 :: e5 :: e6 :: e7 :: cols, s.heap.get? x.1 = some x.2 := fun x hx' => by
    simp only [List.mem_cons] at hx'
    rcases hx' with h | h | h | h | h | h | h
    · exact (N _ (mX x (by simp [h]))).1
    · exact (N _ (mX x (by simp [h]))).1
    · exact (N _ (mX x (by simp [h]))).1
    · exact (N _ (mX x (by simp [h]))).1
    · exact (N _ (mX x (by simp [h]))).1
    · exact (N _ (mX x (by simp [h]))).1
    · exact (N _ (mC x h)).1
  refine ret R h' tk' e' (fr_hid F NH k1) (List.forall_mem_cons.mpr ⟨?_, keepA⟩) (off1_of fun q hq e9 => ?_)
  · exact news_fresh (l := [(R, _)]) F (List.forall_mem_cons.mpr ⟨⟨k2, k3⟩, fun _ hq => nomatch hq⟩) _ (.head _)
  · have := oldA q hq
    have e2 : q.1 = R := e9
    rw [e2, k3] at this
    cases this
end
section
open PySem PySem.W PyProof.Rows PySem.Spec PySem.Calls
theorem Good.ltr {p : Pr} (h : Good p) : Ltr p.nm := h.1
theorem ts_facts {sz : Int} {ps : List Pr} {ts : List TP} (hg : ∀ p ∈ ps, Good p) (hn : (ps.map Pr.nm).Nodup) (ht : ts.map (fun t => (t.c, t.nm)) = ps.map (fun p => (-midCol sz p.key, p.nm))) :
    ts.length = ps.length ∧ (∀ t ∈ ts, Ltr t.nm) ∧ (ts.map TP.key).Nodup ∧ ts.map (fun t => (t.key, t.nm)) = ps.map (fun p => (KK sz p.key, p.nm)) := by
  have h4 : ts.map (fun t => (t.key, t.nm)) = ps.map (fun p => (KK sz p.key, p.nm)) := by
    have := congrArg (List.map fun q : Int × Str => (q.1 * 128 + codeOf q.2, q.2)) ht
    rw [List.map_map, List.map_map] at this
    exact this
  refine ⟨by simpa using congrArg List.length ht, fun t hm => ?_, ?_, h4⟩
  · have : (t.c, t.nm) ∈ ps.map (fun p => (-midCol sz p.key, p.nm)) := ht ▸ List.mem_map_of_mem (f := fun t : TP => (t.c, t.nm)) hm
    obtain ⟨p, hp, e⟩ := List.mem_map.mp this
    have e2 : p.nm = t.nm := congrArg Prod.snd e
    rw [← e2]
    exact (hg p hp).ltr
  · have e : ts.map TP.key = ps.map (fun p => KK sz p.key) := by
      have := congrArg (List.map Prod.fst) h4
      rw [List.map_map, List.map_map] at this
      exact this
    rw [e, List.Nodup, List.pairwise_map]
    rw [List.Nodup, List.pairwise_map] at hn
    refine List.Pairwise.imp_of_mem ?_ hn
    intro a b ha hb hne he
    exact hne (KK_inj (a := a.key) (b := b.key) (hg a ha).ltr (hg b hb).ltr he)
theorem tp_close {h₀ h' : Heap} {L a : Addr} {m : Str → Option Value} {s₁ : Shared} {e : Addr × Obj} {led : List (Addr × Obj)} {cn : Int × Str} {c : Int} {nm : Str} {tc tn : Tok} {tk : Nat} (hcn : (c, nm) = cn)
    (F : Fr h₀ L h' m) (N : News h₀ L h' ((a, { cls := .type "tuple", data := .seq #[.int c tc, .str nm tn] }) :: e :: led)) (l : AllLt a (e :: led)) : TpEnd h₀ L m s₁ led cn (.ref a) { s₁ with heap := h', toks := tk } :=
  ⟨h', tk, ⟨a, c, tc, nm, tn⟩, rfl, rfl, hcn, F, List.forall_mem_cons.mpr ⟨N _ (.head _), fun q hq => N q (.tail _ (.tail _ hq))⟩, fun q hq => Nat.ne_of_lt (allLt_mem l q (.tail _ hq))⟩
theorem va_close {h₀ h' : Heap} {L : Addr} {m : Str → Option Value} {s₁ : Shared} {led : List (Addr × Obj)} {v y : Value} {tk : Nat} (hv : y = v) (F : Fr h₀ L h' m) (N : News h₀ L h' led) : VaEnd h₀ L m s₁ led v y { s₁ with heap := h', toks := tk } :=
  ⟨h', tk, rfl, hv, F, N⟩
theorem cb_close {h₀ h' : Heap} {L a : Addr} {m : Str → Option Value} {s₁ : Shared} {led : List (Addr × Obj)} {R : Addr × Obj → Prop} {vals : List Value} {tk : Nat} (F : Fr h₀ L h' m) (N : News h₀ L h' ((a, LCg.lst vals) :: led)) (ho : LCg.Off1 a led) (hR : R (a, LCg.lst vals)) : CbEnd h₀ L m s₁ led R (.ref a) { s₁ with heap := h', toks := tk } :=
  ⟨h', tk, (a, LCg.lst vals), rfl, rfl, hR, F, N, off1_mem ho⟩
section
variable {prog : Program} {w : World} {A : Around} {E : Value → Shared → Prop} {s : Shared}
theorem ints_rc {A : Around} {l b : Addr} {va vb : List Value} {zs : List Int} (hl : s.heap.IsList l va.toArray) (hb : s.heap.IsList b vb.toArray) (ia : IntsAre va zs) (ib : IntsAre vb zs) (hu : A.units < cLine) : SeqAt.RcAt A s (.ref l) (.ref b) true := by
  have ea := ia.length
  have eb := ib.length
  have z := SeqAt.RcAt.lists (e := fun _ => true) hl hb (by simp [ea, eb]) hu fun j h1 h2 => by
    have h1' : j < zs.length := by simpa [ea] using h1
    obtain ⟨t, e1⟩ := ia.get j zs[j] (by simp [h1'])
    obtain ⟨u, e2⟩ := ib.get j zs[j] (by simp [h1'])
    have g1 : va.toArray[j] = Value.int zs[j] t := by
      have := e1
      rw [List.getElem?_eq_getElem (by simpa using h1)] at this
      simpa using this
    have g2 : vb.toArray[j] = Value.int zs[j] u := by
      have := e2
      rw [List.getElem?_eq_getElem (by simpa using h2)] at this
      simpa using this
    rw [g1, g2]
    have := SeqAt.EqAt.int_int (A := A.in1) (s := s) zs[j] t zs[j] u
    rwa [beq_self_eq_true] at this
  rwa [show ((List.range va.toArray.size).all fun _ => true) = true by simp] at z
theorem eq_cols {l b : Addr} {α : Type} {ps : List α} {o : α → Value} {qs : List (Addr × Obj)} {Q : Value → Shared → Prop} (hl : s.heap.IsList l (ps.map o).toArray) (hb : s.heap.IsList b (qs.map fun q => Value.ref q.1).toArray) (hlen : qs.length = ps.length)
    (hel : ∀ (j : Nat) (p : α) (q : Addr × Obj), ps[j]? = some p → qs[j]? = some q → ∃ la va zs vb, o p = .ref la ∧ s.heap.IsList la va.toArray ∧ IntsAre va zs ∧ s.heap.IsList q.1 vb.toArray ∧ IntsAre vb zs) (hu : A.units < cLine) (hu1 : A.in1.units < cLine) (h : Q (.bool true) s) :
    wpAny (model prog w) A (compareOp .Eq (.ref l) (.ref b)) Q E s := by
  have z := SeqAt.RcAt.lists (e := fun _ => true) hl hb (by simp [hlen]) hu fun j h1 h2 => by
    have h1' : j < ps.length := by simpa using h1
    have h2' : j < qs.length := by simpa using h2
    obtain ⟨la, va, zs, vb, e1, i1, i2, i3, i4⟩ := hel j ps[j] qs[j] (by simp [h1']) (by simp [h2'])
    have g1 : (ps.map o).toArray[j] = Value.ref la := by simp [e1]
    have g2 : (qs.map fun q => Value.ref q.1).toArray[j] = Value.ref qs[j].1 := by simp
    rw [g1, g2]
    by_cases hc : la = qs[j].1
    · rw [hc]; exact SeqAt.EqAt.same _
    · exact SeqAt.EqAt.of_refs hc (ints_rc i1 i3 i2 i4 hu1)
  rw [show ((List.range (ps.map o).toArray.size).all fun _ => true) = true by simp] at z
  exact z prog w E Q h
end
end
section
open PySem PySem.W PyProof.Rows PySem.Spec PySem.Calls
local macro_rules | `(tactic| k_all) => `(tactic| first | assumption | exact tail_app (tail_gt (by assumption) (by omega)) (by assumption))
local macro_rules | `(tactic| walk_at "ME name") => `(tactic| (k_here; k_dflt (refine' nameX_L ?F ?v ?_ ?a ?b; (case F => k_asm); (case a => rfl); (case b => rfl); (case v => assumption); k_whole)))
def Hold (P : Prop) : Prop := P
theorem hold {P : Prop} (h : Hold P) : P := h
def numsOf (ns : List Int) : List Int := ns.take 2 ++ [35, 7, 3, 16]
def Rp (ns : List Int) (i : Nat) (p : Pr) : Prop := p.nm = ⟨#[65 + i]⟩ ∧ p.t = ((numsOf ns).getD i 0 % 5).toNat ∧ p.b = ((numsOf ns).getD i 0 / 5 % 9).toNat
theorem news_all {h₀ h : Heap} {L : Addr} {a b : List (Addr × Obj)} (N : News h₀ L h (a ++ b)) : ∀ q ∈ b, h.get? q.1 = some q.2 := fun q hq => (N q (List.mem_append_right _ hq)).1
theorem Rp.good {ns : List Int} {i : Nat} {p : Pr} (hi : i < 6) (h : Rp ns i p) : Good p := by
  obtain ⟨h1, h2, h3⟩ := h
  refine ⟨⟨65 + i, h1, by omega, by omega⟩, ?_, ?_⟩
  · rw [h2]; omega
  · rw [h3]; omega
theorem rp_good {ns : List Int} {ps : List Pr} (hl : ps.length ≤ 6) (h : ∀ j p, ps[j]? = some p → Rp ns j p) : ∀ p ∈ ps, Good p := fun p hp => by
  obtain ⟨j, hj, e⟩ := List.getElem_of_mem hp
  exact (h j p (by rw [← e]; exact List.getElem?_eq_getElem hj)).good (by omega)
theorem rp_nodup {ns : List Int} {ps : List Pr} (h : ∀ j p, ps[j]? = some p → Rp ns j p) : (ps.map Pr.nm).Nodup := by
  rw [List.Nodup, List.pairwise_map, List.pairwise_iff_getElem]
  intro i j hi hj hij e
  have a := (h i _ (List.getElem?_eq_getElem hi)).1
  have b := (h j _ (List.getElem?_eq_getElem hj)).1
  rw [a, b] at e
  have e' := congrArg (fun s : Str => s.cps.toList) e
  simp at e'
  omega
theorem numsOf_len (ns : List Int) : 4 ≤ (numsOf ns).length ∧ (numsOf ns).length ≤ 6 := by
  unfold numsOf
  rw [List.length_append, List.length_take]
  simp only [List.length_cons, List.length_nil]
  omega
theorem nums_at {ws : List Value} {xs : List Int} {i : Nat} {v : Value} (hI : IntsAre ws xs) (hv : ws[i]? = some v) : i < xs.length ∧ ∃ tv, v = .int (xs.getD i 0) tv := by
  have hl := hI.length
  have hi : i < xs.length := by
    rcases Nat.lt_or_ge i ws.length with h | h
    · omega
    · rw [List.getElem?_eq_none h] at hv; cases hv
  obtain ⟨tv, hv'⟩ := hI.get i (xs.getD i 0) (by simp [hi])
  rw [hv] at hv'
  exact ⟨hi, tv, Option.some.inj hv'⟩
def numCol (sz num : Int) : List Int := (rangeKs 1 sz.toNat).map fun k => num.fmod 5 * k + (num.fdiv 5).fmod 9
def Rnum (ns : List Int) (sz : Int) (i : Nat) (q : Addr × Obj) : Prop := ∃ vals, q.2 = LCg.lst vals ∧ IntsAre vals (numCol sz ((numsOf ns).getD i 0))
theorem numCol_key {ns : List Int} {sz : Int} {j : Nat} {p : Pr} (h : Rp ns j p) : numCol sz ((numsOf ns).getD j 0) = keyCol sz p.key := by
  obtain ⟨_, h2, h3⟩ := h
  unfold numCol keyCol
  refine List.map_congr_left fun k _ => ?_
  show _ = (p.b : Int) + k * (p.t : Int)
  rw [h2, h3, Int.fmod_eq_emod_of_nonneg _ (by decide), Int.fmod_eq_emod_of_nonneg _ (by decide), Int.fdiv_eq_ediv_of_nonneg _ (by decide), Int.toNat_of_nonneg (Int.emod_nonneg _ (by decide)), Int.toNat_of_nonneg (Int.emod_nonneg _ (by decide)), Int.mul_comm, Int.add_comm]
theorem el_match {ns : List Int} {sz : Int} {h₀ h : Heap} {L : Addr} {led cols qs : List (Addr × Obj)} {ps : List Pr} {kvs : List (Str × Value)} (N : News h₀ L h led) (hcm : ∀ q ∈ cols, q ∈ led) (hqm : ∀ q ∈ qs, q ∈ led) (hcols : ColsIn cols sz ps kvs) (hnod : (ps.map Pr.nm).Nodup)
    (hR : ∀ j p, ps[j]? = some p → Rp ns j p) (hRq : ∀ j q, qs[j]? = some q → Rnum ns sz j q) : ∀ (j : Nat) (p : Pr) (q : Addr × Obj), ps[j]? = some p → qs[j]? = some q → ∃ la va zs vb, (valueAt kvs p.nm).getD .none = .ref la ∧ h.IsList la va.toArray ∧ IntsAre va zs ∧ h.IsList q.1 vb.toArray ∧ IntsAre vb zs := by
  intro j p q hp hq
  obtain ⟨lA, vA, eA, cA1, mA, cA3⟩ := colsIn_at hcols hnod p (List.mem_of_getElem? hp)
  obtain ⟨vals, e1, e2⟩ := hRq j q hq
  rw [numCol_key (hR j p hp)] at e2
  have z := (N q (hqm q (List.mem_of_getElem? hq))).1
  rw [e1] at z
  exact ⟨lA, vA, keyCol sz p.key, vals, by rw [cA1]; rfl, ⟨_, (N _ (hcm _ mA)).1, rfl, _, rfl⟩, cA3, ⟨_, z, rfl, _, rfl⟩, e2⟩
set_option maxRecDepth 100000 in
set_option maxHeartbeats 8000000 in
theorem law_w : PySem.Challenge.rw_pg0308_01.Holds := by
  w_on
  o_law
  refine holds_open (q := viewK) (loose := LZ) (Xt := XtK) (XP := XL viewK []) (Yf := Hk.obs) (Ya := Hk.val) (YP := Hk.says) (N := 3724) left_k (Hook.of Hk) (Hook.keeps Hk) (fun s e => xl_of s (Bool.and_eq_true_iff.mp e).1) XL.keeps (by rfl) (by rfl) (by rfl) (fun s e => recFacts_of (Bool.and_eq_true_iff.mp e).2) (by first | rfl | fail "x") (by first | assumption | decide +kernel) (by decide +kernel) ⟨rfl, rfl, rfl, rfl, rfl, by decide +kernel⟩ ?hw ?hc
  case hw => w_witness2
  rename_i sd
  clear sd
  delta Hk
  k_with_none
  k_with "exec Assign cons ListComp" => (k_here; (with_reducible show wpAny _ _ (exec (Stmt.Assign [Expr.Name (Str.ofString "pairs") _] _ _) _) _ _ _); k_dflt (refine en_assign (by k_asm) (by rfl) (by with_unfolding_all rfl) (by rfl) (by decide) ?_))
  k_with "call type:enumerate" => (refine hold ?_)
  k_with "call ref" => ((with_reducible show wpAny _ _ (call (Value.ref 274) _) _ _ _); k_dflt ((rename Fr _ _ _ _ => lF'); (rename News _ _ _ _ => lN'); (try dsimp only at lF' lN'); (refine' col_use ?za lF' ?zb ?zc ?zd lN' ?ze ?zf hgood hps6 hnod ?zg ?zh ?zi ?zj ?zk; (case za => k_asm); (case zb => k_asm); (case zc => k_asm); (case zd => exact rfl); (case ze => k_mem); (case zf => (intro q hq; (repeat (first | exact hq | apply List.mem_cons_of_mem)))); (case zg => exact hsz.1); (case zh => exact hsz.2); (case zi => decide +kernel); (case zj => decide +kernel)); intro Dc h9 tk9 oD kvs cols F' hdD hcols hcc N' o1 n1 n2; (clear lF' lN'); (simp only [List.cons_append] at N'); (simp only [LCg.Off1] at o1); (simp only [AllNeT] at n2); obtain ⟨_, _, _, _, _, _, _, _, _⟩ := n2))
  k_with "eval Name" => walk_at "ME name"
  k_with "subscriptTail" => ((with_reducible show wpAny _ _ (subscriptTail _ _ (Value.ref Dc) (Value.str _ _)) _ _ _); k_dflt (refine dict_tail (Heap.dictOf_iff.mpr ⟨oD, News.get (by k_asm) (by k_mem), hdD⟩) (by assumption) ?_; intro tk'; (try dsimp only)))
  k_with "subscriptTail" => ((with_reducible show wpAny _ _ (subscriptTail _ _ (Value.ref _) (Value.int _ _)) _ _ _); k_dflt (refine my_item (xs := keyCol _ _) (News.isList (by k_asm) (by k_mem)) (by assumption) hmid.1 (by rw [keyCol_len]; exact hmid.2) (by rw [keyCol_len]; exact sz64 hsz.2) ?_; intro t'; (try dsimp only)))
  k_with "call ref" => ((with_reducible show wpAny _ _ (call (Value.ref 279) _) _ _ _); k_dflt ((rename Fr _ _ _ _ => lF'); (rename News _ _ _ _ => lN'); (try dsimp only at lF' lN'); (refine' votes_c ?va lF' ?vb ?vc ?vd _ _ _ _ _ _ (News.isList lN' (by k_mem)) cA3 (News.isList lN' (by k_mem)) cB3 ?ve ?vf ?vg ?vh ?vi; (case va => k_asm); (case vb => k_asm); (case vc => k_asm); (case vd => exact rfl); (case ve => rw [keyCol_len, keyCol_len]); (case vf => rw [keyCol_len]; exact sz64 hsz.2); (case vg => decide +kernel); (case vh => decide +kernel)); intro t9 h9 tk9 kp9; (have F' := Fr.keeps lF' kp9); (have N' := News.grown lN' kp9); clear lF' lN' kp9; (try dsimp only)))
  k_with "compareOp NotEq ref ref" => (k_dflt (refine ne_two ⟨_, News.get (by k_asm) (by k_mem), rfl, _, rfl⟩ ⟨_, News.get (by k_asm) (by k_mem), rfl, _, rfl⟩ (decide_eq_decide.mpr (maj hs3 p.key q.key).1) (decide_eq_decide.mpr (maj hs3 p.key q.key).2) (by k_units) ?_; k_whole))
  k_with "compareOp NotEq ref ref" => ((rename News _ _ _ _ => lN'); (try dsimp only at lN'); k_dflt (refine ne_names (l := R9) (xs := (krank (3 + ((List.take 3 ns).sum + 1).fmod 3 * 2) ps.length (ps.map Pr.key) []).map fun k => (k.nm, k.tn)) (ys := out.map fun t => (t.nm, t.tn)) (by rw [List.map_map]; exact News.isList lN' (by k_mem)) (by rw [List.map_map]; exact News.isList lN' (by k_mem)) (by rw [List.map_map, List.map_map]; exact rank_names hs3 (fun p hp => (hgood p hp).ltr) hperm hpw htf.2.2.2) (by k_units) ?_; k_whole))
  k_with "subscriptTail Name Slice ref ref" => (k_here; (with_reducible show wpAny _ _ (subscriptTail _ (PySem.Expr.Slice none none none _) (Value.ref _) (Value.ref _)) _ _ _); k_dflt (refine' kms_slice_lit ?u1 ?u2 ?u3 ?u4 ?u5 ?u6 ?_ ?u7 ?u8 ?u9; (case u1 => k_asm); (case u2 => k_asm); (case u3 => exact News.isList (by k_asm) (by k_mem)); (case u4 => kmk_part); (case u5 => kmk_part); (case u6 => exact pick_all _); (case u7 => with_unfolding_all rfl); (case u8 => kmk_pure); (case u9 => (rw [List.size_toArray, List.length_map, sizeLine_eq]; exact Nat.le_trans hps6 (by decide)))); intro Dp h' F' N' l1; (have lp := l1); (try k_lt l1))
  k_with "call ref" => ((with_reducible show wpAny _ _ (call (Value.ref 286) _) _ _ _); k_dflt ((rename Fr _ _ _ _ => lF'); (rename News _ _ _ _ => lN'); (try dsimp only at lF' lN'); (refine' ranked_use ?ra lF' ?rb ?rc ?rd lN' hdD hcols hcc ?re ?rf hgood hps6 hnod hsz.1 hsz.2 ?rg ?rh ?ri; (case ra => k_asm); (case rb => k_asm); (case rc => k_asm); (case rd => exact rfl); (case re => exact fun q hq => Nat.ne_of_lt (lp q (by (have hm : q ∈ objs ps ++ cols := List.mem_append_right _ hq); (repeat (first | exact hm | apply List.mem_cons_of_mem))))); (case rf => exact List.forall_mem_cons.mpr ⟨⟨by k_ne, hoL _ _⟩, List.forall_mem_cons.mpr ⟨⟨by k_ne, hoD⟩, List.forall_mem_cons.mpr ⟨⟨by k_ne, hoL _ _⟩, List.forall_mem_cons.mpr ⟨⟨by k_ne, hoC⟩, List.forall_mem_cons.mpr ⟨⟨by k_ne, hoM⟩, List.forall_mem_cons.mpr ⟨⟨by k_ne, hoS⟩, fun _ hq => nomatch hq⟩⟩⟩⟩⟩⟩); (case rg => decide +kernel); (case rh => decide +kernel)); intro R9 h9 tk9 e9 F' N' o9; (clear lF' lN'); (simp only [LCg.Off1] at o9)))
  k_with "CompSrc" => (k_here; (with_reducible show LCg.CompSrc _ _ _ _ _ _ _ (PySem.Expr.Tuple _ _ _) _ _ _ _ _ _); k_dflt (refine LCg.CompSrc.ledger (its := (ps.map nmV).toArray) (by rfl) (by k_asm) (by k_asm) (by k_mem) (by rw [List.size_toArray, List.length_map, sizeLine_eq]; exact Nat.le_trans hps6 (by decide)) ?_; intro g'; refine comp_tp (all := ps) (f := nmV) (cn := fun p => (-midCol (3 + ((List.take 3 ns).sum + 1).fmod 3 * 2) p.key, p.nm)) (by simp) (fun nw => Or.inr ⟨_, List.mem_append_left _ (by k_mem), rfl, _, rfl⟩) ?_ ?_; rotate_left; (intro ts hts; (have htf := ts_facts hgood hnod hts); (try simp only [List.cons_append])); rotate_left; (intro p hp ys I0 oI0 C0 oC0 D0 nw m20 h20 tk20 E20 hC' hx' F' N'; (simp only [List.cons_append] at N'); obtain ⟨lA, vA, eA, cA1, mA, cA3⟩ := colsIn_at hcols hnod p hp; (have N' := news_add N' (e := (lA, _)) (by repeat (first | exact mA | apply List.mem_append_left | apply List.mem_cons_of_mem))); (rw [show nmV p = .str p.nm p.tn from rfl] at hx'))))
  k_with "eval ListComp" => (k_here; (with_reducible show wpAny _ _ (eval (PySem.Expr.ListComp (PySem.Expr.Name _ _) _ _ _) _) _ _ _); k_dflt (refine LCp.ListComp_P (F₀ := by k_asm) (by with_unfolding_all rfl) (by decide) (by rfl) (by decide) (by rfl) (by rfl) (by decide) ?_))
  k_with "call builtin:sorted" => (k_dflt ((rename Fr _ _ _ _ => lF'); (rename News _ _ _ _ => lN'); (try dsimp only at lF' lN'); refine sorted_tups (tps := ts) lF' lN' (News.isList lN' (by k_mem)) (by rw [htf.1]; omega) (by rw [htf.1]; omega) (fun t ht => by (have hm : (t.a, t.obj) ∈ cols ++ tobjs ts := List.mem_append_right _ (List.mem_map_of_mem (f := fun t : TP => (t.a, t.obj)) ht)); (repeat (first | exact hm | apply List.mem_cons_of_mem))) htf.2.1 htf.2.2.1 ?_; (intro Ds h' e' out hperm hpw F' N' l1; (clear lF' lN'); (k_lt l1))))
  k_with "SrcLP" => (k_here; k_dflt (refine LCp.SrcLP.ledger (its := (out.map TP.ref).toArray) (by rfl) (by k_asm) (by k_asm) (by k_mem) (by rw [List.size_toArray, List.length_map, sizeLine_eq, hperm.length_eq, htf.1]; exact Nat.le_trans hps6 (by decide)) ?_; intro g'; refine compP_name (all := out) (f := TP.ref) (v1 := fun t => .int t.c t.tc) (v2 := fun t => .str t.nm t.tn) (o := fun t => .str t.nm t.tn) (ad := TP.a) (ob := TP.obj) (nn := fun _ => 0) (by simp) (fun t ht => ⟨rfl, by (have hm : (t.a, t.obj) ∈ cols ++ tobjs ts := List.mem_append_right _ (List.mem_map_of_mem (f := fun t : TP => (t.a, t.obj)) (hperm.mem_iff.mp ht))); (repeat (first | exact hm | apply List.mem_cons_of_mem)), rfl, rfl⟩) (fun _ _ _ h => h) (Or.inr ⟨_, by k_mem, rfl, _, rfl⟩) (fun _ => rfl) (fun _ => rfl) (by decide) ?_))
  k_with "CompSrc" => (k_here; (with_reducible show LCg.CompSrc _ _ _ _ _ _ _ (PySem.Expr.Subscript _ _ _) _ _ _ _ _ _); k_dflt (refine LCg.CompSrc.ledger (its := (ps.map nmV).toArray) (by rfl) (by k_asm) (by k_asm) (by k_mem) (by rw [List.size_toArray, List.length_map, sizeLine_eq]; exact Nat.le_trans hps6 (by decide)) ?_; intro g'; refine comp_val (all := ps) (f := nmV) (o := fun p => (valueAt kvs p.nm).getD .none) (by simp) (Or.inr ⟨_, by k_mem, rfl, _, rfl⟩) ?_ ?_; (intro p hp ys I0 oI0 C0 oC0 D0 m20 h20 tk20 E20 hC' hx' F' N'; obtain ⟨lA, vA, eA, cA1, mA, cA3⟩ := colsIn_at hcols hnod p hp; (rw [show nmV p = .str p.nm p.tn from rfl] at hx'))))
  k_with "eval ListComp" => (k_here; (with_reducible show wpAny _ _ (eval (PySem.Expr.ListComp (PySem.Expr.ListComp _ _ _ _) _ _ _) _) _ _ _); k_dflt ((rename Fr _ _ _ _ => lF'); (rename News _ _ _ _ => lN'); (try dsimp only at lF' lN'); refine cb_list (ax := Dnum) (vs := ws') (Rnum ns (3 + ((List.take 3 ns).sum + 1).fmod 3 * 2)) (by rfl) lF' lN' (by k_mem) (by rfl) (by rfl) hwsz (by with_unfolding_all rfl) (fun _ => rfl) (fun _ => rfl) (by rfl) (by decide) (fun _ _ => rfl) ?hit ?_ ?_; (case hit => (intro Q9 hq9; refine' nameX_L lF' ?hv9 hq9 ?ha9 ?hb9; (case ha9 => rfl); (case hb9 => rfl); (case hv9 => assumption))); rotate_left; (intro D8 h8 tk8 qs hql hRq F' N' hne8; (simp only [List.cons_append, List.append_assoc] at N')); rotate_left; (intro i9 v9 I0 oI0 C0 oC0 D0 c0 oc0 ys nw h20 tk20 E20 hv9 hdc F' N'; (simp only [List.cons_append] at N'); obtain ⟨hi9, tv9, hw9⟩ := nums_at (xs := numsOf ns) hI6 hv9; subst hw9; (generalize hnum9 : (numsOf ns).getD i9 0 = num9 at hdc))))
  k_with "compareOp Eq ref ref" => ((rename News _ _ _ _ => lN'); (try dsimp only at lN'); k_dflt (refine eq_cols (ps := ps) (o := fun p => (valueAt kvs p.nm).getD .none) (qs := qs) (News.isList lN' (by k_mem)) (News.isList lN' (by k_mem)) (by omega) (el_match lN' (fun q hq => by (have hm : q ∈ cols ++ (tobjs ts ++ qs) := List.mem_append_left _ hq); (repeat (first | exact hm | apply List.mem_cons_of_mem))) (fun q hq => by (have hm : q ∈ cols ++ (tobjs ts ++ qs) := List.mem_append_right _ (List.mem_append_right _ hq)); (repeat (first | exact hm | apply List.mem_cons_of_mem))) hcols hnod hR hRq) (by k_units) (by k_units) ?_; k_whole))
  k_with "SrcLP" => (k_here; k_dflt (refine LCp.SrcLP.ledger (its := (ps.map Pr.ref).toArray) (by rfl) (by k_asm) (by k_asm) (by k_mem) (by rw [List.size_toArray, List.length_map, sizeLine_eq]; omega) ?_; intro g'; refine compP_name (all := ps) (f := Pr.ref) (v1 := fun p => .str p.nm p.tn) (v2 := fun p => .str (tb p.t p.b) p.tv) (o := nmV) (ad := Pr.a) (ob := Pr.obj) (nn := fun _ => 0) (by simp) (fun p hp => ⟨rfl, by (have hm : (p.a, p.obj) ∈ objs ps ++ cols := List.mem_append_left _ (List.mem_map_of_mem (f := fun p : Pr => (p.a, p.obj)) hp)); (repeat (first | exact hm | apply List.mem_cons_of_mem)), rfl, rfl⟩) (fun _ _ h _ => h) (Or.inr ⟨_, by k_mem, rfl, _, rfl⟩) (fun _ => rfl) (fun _ => rfl) (by decide) ?_))
  k_with "exec For Name Name cons nil" => (k_here; (rename Fr _ _ _ _ => lF'); (with_unfolding_all refine' For_turns lF' ?_; k_whole))
  k_with "pyIter ref" => ((rename Fr _ _ _ _ => lF'); (rename News _ _ _ _ => lN'); (with_unfolding_all refine iter_listTurns (vs := ps.map nmV) (by rfl) lF' lN' (by k_mem) (by rfl) (by rfl) ?_); clear lF'; intro i' l1; (have l0 := l1); (try k_lt l1))
  k_go0
  (all_goals try k_fold)
  k_steps
  unfold Hold
  rename List Int => ns
  rename IntsAre _ _ => hI6
  rename List Value => ws'
  have hl6 := hI6.length
  have hl7 := numsOf_len ns
  have hl8 : (List.take 2 ns ++ [35, 7, 3, 16]).length = (numsOf ns).length := rfl
  k_dflt (refine en_block (Rp ns) (by rfl) (by k_asm) (by k_asm) (by k_mem) (by rfl) (by rfl) (by rw [sizeLine_eq]; omega) (by decide) (by rfl) (by rfl) (by rfl) (by decide) (by rfl) (by rfl) ?turn ?fin)
  case turn =>
    intro i v t Ie oe Ii oi C oC D ys nw m2 h2 tk2 E2 hv hC hx hy F2 N2
    have hi : i < (numsOf ns).length := by
      rcases Nat.lt_or_ge i ws'.length with h | h
      · omega
      · rw [List.getElem?_eq_none h] at hv; cases hv
    have hi6 : ((i : Nat) : Int) < 6 := by omega
    have hi0 : (0 : Int) ≤ ((i : Nat) : Int) := Int.natCast_nonneg _
    obtain ⟨tv, hv'⟩ := hI6.get i ((numsOf ns).getD i 0) (by simp [numsOf] at hi ⊢; simp [hi])
    rw [hv] at hv'
    obtain rfl := Option.some.inj hv'
    generalize hnum : (numsOf ns).getD i 0 = num at *
    clear hv'
    k_steps
    rename Fr _ _ _ _ => F8
    rename News _ _ _ _ => N8
    rename (_ < _ ∧ _ < _ ∧ _ < _ ∧ _ < _ ∧ AllLt _ _) => l9
    exact en_close (tx_lead num) F8 N8 (List.forall_mem_cons.mpr ⟨l9.1, List.forall_mem_cons.mpr ⟨l9.2.1, List.forall_mem_cons.mpr ⟨l9.2.2.1, List.forall_mem_cons.mpr ⟨l9.2.2.2.1, allLt_mem l9.2.2.2.2⟩⟩⟩⟩) ⟨tx_item i (by omega), by rw [hnum], by rw [hnum]⟩
  case fin =>
    intro pl h2 tk2 ps hlen hR F' N' hlt hgt
    have hsz : 3 ≤ 3 + ((List.take 3 ns).sum + 1).fmod 3 * 2 ∧ 3 + ((List.take 3 ns).sum + 1).fmod 3 * 2 ≤ 7 := by
      rw [Int.fmod_eq_emod_of_nonneg _ (by decide)]; omega
    have hs3 : 3 + ((List.take 3 ns).sum + 1).fmod 3 * 2 = 3 ∨ 3 + ((List.take 3 ns).sum + 1).fmod 3 * 2 = 5 ∨ 3 + ((List.take 3 ns).sum + 1).fmod 3 * 2 = 7 := by
      rw [Int.fmod_eq_emod_of_nonneg _ (by decide)]; omega
    have hmid : 0 ≤ (3 + ((List.take 3 ns).sum + 1).fmod 3 * 2 + 1).fdiv 2 - 1 ∧ (3 + ((List.take 3 ns).sum + 1).fmod 3 * 2 + 1).fdiv 2 - 1 < (((3 + ((List.take 3 ns).sum + 1).fmod 3 * 2).toNat : Nat) : Int) := by
      rw [Int.fdiv_eq_ediv_of_nonneg _ (by decide)]; omega
    have hps6 : ps.length ≤ 6 := by omega
    have hgood := rp_good hps6 hR
    have hnod := rp_nodup hR
    simp only [List.cons_append, List.nil_append] at N'
    k_lt hlt
    (try dsimp only)
    rename Obj.data _ = Data.cell (some (Value.int _ _)) => dM0
    obtain ⟨tM, dM⟩ : ∃ t, _ = Data.cell (some (Value.int ((3 + ((List.take 3 ns).sum + 1).fmod 3 * 2 + 1).fdiv 2) t)) := ⟨_, dM0⟩
    clear dM0
    rename Obj.data _ = Data.cell (some (Value.int (3 + ((List.take 3 ns).sum + 1).fmod 3 * 2) _)) => dS0
    obtain ⟨tS, dS⟩ : ∃ t, _ = Data.cell (some (Value.int (3 + ((List.take 3 ns).sum + 1).fmod 3 * 2) t)) := ⟨_, dS0⟩
    clear dS0
    k_steps
    rename Addr => iA
    have N9 := lN'
    clear lN'
    obtain ⟨Dn, hx1⟩ := first_addr N9
    subst hx1
    obtain ⟨Dnum, hx1⟩ := first_addr (news_tl (news_tl (news_tl N9)))
    subst hx1
    obtain ⟨led, hled, hsub, N10⟩ := pick_led N9
    refine val_ind' (NmJ led ps fun m => m (Str.ofString "pairs") = some (.ref pl) ∧ m (Str.ofString "names") = some (.ref Dn) ∧ m (Str.ofString "numbers") = some (.ref Dnum)) ?hk ?turn ?fin _ _ led _ hsub ?h0
    case h0 => exact ⟨ps, fun _ h => h, rfl, rfl, rfl, rfl, rfl⟩
    case hk =>
      rintro l m n ⟨qs, _, _, rfl, _⟩
      rw [hled]
      exact ⟨.head _, trivial⟩
    case turn =>
      rintro c r m3 news h3 tk3 o3 ⟨qs, hqs, hr, hn3, hm1, hm2, hm3⟩ F3 ho3 N3
      have hn3' := hn3.symm
      subst hn3'
      rw [hled] at N3
      cases qs with
      | nil => simp at hr
      | cons p qs =>
      simp only [List.map_cons, List.cons.injEq] at hr
      obtain ⟨rfl, rfl⟩ := hr
      clear N9 N10
      have l0A := l0
      rw [show nmV p = .str p.nm p.tn from rfl]
      dsimp only
      k_steps
      have N9 := lN'
      clear lN'
      obtain ⟨iB, hx1⟩ := first_addr N9
      subst hx1
      refine val_ind' (NmJ ((iB, o3) :: led) ps fun m => m (Str.ofString "pairs") = some (.ref pl) ∧ m (Str.ofString "names") = some (.ref Dn) ∧ m (Str.ofString "numbers") = some (.ref Dnum) ∧ m (Str.ofString "one") = some (.str p.nm p.tn)) ?hk2 ?turn2 ?fin2 _ _ ((iB, o3) :: led) _ ?hs2 ?h02
      case hk2 =>
        rintro l m n ⟨qs, _, _, rfl, _⟩
        rw [hled]
        exact ⟨.tail _ (.head _), trivial⟩
      case hs2 => rw [hled]; exact fun _ h => h
      case h02 =>
        refine ⟨ps, fun _ h => h, rfl, rfl, ?_, ?_, ?_, ?_⟩
        · dsimp only; rw [if_neg (by decide)]; exact hm1
        · dsimp only; rw [if_neg (by decide)]; exact hm2
        · dsimp only; rw [if_neg (by decide)]; exact hm3
        · dsimp only; rw [if_pos rfl]
      case turn2 =>
        rintro c r m4 news h4 tk4 o4 ⟨qs2, hqs2, hr, hn4, hq1, hq2, hq3, hq4⟩ F4 ho4 N4
        have hn4' := hn4.symm
        subst hn4'
        rw [hled] at N4
        cases qs2 with
        | nil => simp at hr
        | cons q qs2 =>
        simp only [List.map_cons, List.cons.injEq] at hr
        obtain ⟨rfl, rfl⟩ := hr
        obtain ⟨lA, vA, eA, cA1, mA, cA3⟩ := colsIn_at hcols hnod p (hqs p (.head _))
        obtain ⟨lB, vB, eB, cB1, mB, cB3⟩ := colsIn_at hcols hnod q (hqs2 q (.head _))
        have N5 := news_add (news_add N4 (e := (lB, _)) (by repeat (first | exact mB | apply List.mem_cons_of_mem | apply List.mem_append_right))) (e := (lA, _)) (by repeat (first | exact mA | apply List.mem_cons_of_mem | apply List.mem_append_right))
        clear N4 N9 N3 F3
        rw [show nmV q = .str q.nm q.tn from rfl]
        dsimp only
        k_steps
        rename Fr _ _ _ _ => F8
        rename News _ _ _ _ => N8
        refine turn_end ((iB, o3) :: led) F8 N8 (by k_mem) (fun e he => ?_) (fun e he => Nat.ne_of_lt (l0 e (by rw [hled] at he; exact he))) ⟨qs2, fun q hq => hqs2 q (.tail _ hq), rfl, rfl, ?_, ?_, ?_, ?_⟩
        · rw [hled] at he
          repeat (first | exact he | apply List.mem_cons_of_mem)
        · dsimp only; (repeat rw [if_neg (by decide)]); exact hq1
        · dsimp only; (repeat rw [if_neg (by decide)]); exact hq2
        · dsimp only; (repeat rw [if_neg (by decide)]); exact hq3
        · dsimp only; (repeat rw [if_neg (by decide)]); exact hq4
      case fin2 =>
        rintro m5 news h5 tk5 ⟨qs', _, _, hn5, hq1, hq2, hq3, hq4⟩ F5 N5
        have hn5' := hn5.symm
        subst hn5'
        dsimp only
        k_steps
        exact turn_end led F5 N5 (.head _) (fun e he => .tail _ he) (fun e he => Nat.ne_of_lt (l0A e (hsub e he))) ⟨qs, fun q hq => hqs q (.tail _ hq), rfl, rfl, hq1, hq2, hq3⟩
    case fin =>
      rintro m6 news h6 tk6 ⟨_, _, _, hn6, hm1, hm2, hm3⟩ F6 N6
      have hn6' := hn6.symm
      subst hn6'
      rw [hled] at N6
      clear N9 N10 hsub
      dsimp only
      have hps4 : 4 ≤ ps.length := by omega
      have hwsz : ws'.length ≤ sizeLine := by rw [sizeLine_eq]; omega
      have hoL : ∀ (xs : List Value) (e : Nat) (p : Pr), p.obj ≠ ({ cls := .type "list", data := .seq xs.toArray e } : Obj) := fun xs e p he => absurd (congrArg Obj.cls he) (by simp [Pr.obj])
      have hoD : ∀ p : Pr, p.obj ≠ oD := fun p he => by
        obtain ⟨es, ep, _, hde, _⟩ := id hdD
        rw [← he] at hde
        cases hde
      rename Obj.data _ = Data.cell (some (Value.ref _)) => dC
      have hoC : ∀ p : Pr, p.obj ≠ _ := fun p he => absurd ((congrArg Obj.data he).trans dC) (by simp [Pr.obj])
      have hoM : ∀ p : Pr, p.obj ≠ _ := fun p he => absurd ((congrArg Obj.data he).trans dM) (by simp [Pr.obj])
      have hoS : ∀ p : Pr, p.obj ≠ _ := fun p he => absurd ((congrArg Obj.data he).trans dS) (by simp [Pr.obj])
      k_steps
      · rename Fr _ _ _ _ => F8
        rename News _ _ _ _ => N8
        rename (_ < _ ∧ _) => l9
        exact tp_close rfl F8 N8 l9
      · rename Fr _ _ _ _ => F8
        rename News _ _ _ _ => N8
        exact va_close (by rw [cA1]; rfl) F8 (fun q hq => N8 q (by first | exact hq | exact .tail _ hq))
      · rename Fr _ _ _ _ => F8
        rename News _ _ _ _ => N8
        rename (_ ≠ _ ∧ _) => o9
        rename IntsAre _ _ => hI9
        refine cb_close F8 N8 o9 ⟨_, rfl, ?_⟩
        rw [hnum9]
        have e9 : 3 + ((List.take 3 ns).sum + 1).fmod 3 * 2 + 1 - 1 = 3 + ((List.take 3 ns).sum + 1).fmod 3 * 2 := by omega
        rw [e9] at hI9
        exact hI9
end
end Mine
theorem PySem.Challenge.cw_pg0308_01_holds : PySem.Challenge.rw_pg0308_01.Holds := by
  exact Mine.law_w
