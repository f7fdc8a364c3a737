import PyProof.Rows.All
import Wide.All
import OpenK.AllK
import Wide.FinOn
import PySem.Challenge.RW_wo0067_01
open PySem PySem.W PyProof.Rows PySem.Calls
set_option Elab.async false
set_option maxRecDepth 100000
set_option compiler.extract_closed false
namespace Mine

/-- the program -/
noncomputable abbrev P : Program := PySem.Challenge.pw_wo0067_01
noncomputable def stA (i : Nat) : Stmt := (P.main.body[i]?).getD (.Pass default)
noncomputable def dParams : Stmt → Arguments | .FunctionDef _ a _ _ _ _ _ _ _ _ => a | _ => default
noncomputable def dBody : Stmt → List Stmt | .FunctionDef _ _ b _ _ _ _ _ _ _ => b | _ => []
noncomputable def dScope : Stmt → Scope | .FunctionDef _ _ _ _ _ _ s _ _ _ => s | _ => default

/-! the class of the indents, as the top leaves it -/
noncomputable def wsBody : List Stmt := match (P.main.body[9]? : Option Stmt) with | some (Stmt.ClassDef _ _ _ b _ _ _ _ _ _ _) => b | _ => []
noncomputable def wsSt (i : Nat) : Stmt := (wsBody[i]?).getD (.Pass default)
noncomputable def kw2 (W : Params) : Obj := { cls := Value.none, data := Data.dict #[{ hash := PyData.keyHash W (Str.ofString "type.__subclasses__.Exception.0"), key := Value.str (Str.ofString "type.__subclasses__.Exception.0") 225, val := Value.int 38 0 }, { hash := PyData.keyHash W (Str.ofString "type.__subclasses__.Exception.n"), key := Value.str (Str.ofString "type.__subclasses__.Exception.n") 226, val := Value.int 1 0 }] 2 }
noncomputable def kw76 (_ : Params) : Obj := { cls := Value.type "code", data := Data.fields #[Value.str (Str.ofString "__init__") 275, Value.str (Str.ofString "Whitespace.__init__") 276, Value.str (Str.ofString "/claim/cut.py") 277, Value.int 44 0, Value.int 2 0, Value.int 0 0, Value.int 0 0, Value.int 3 0, Value.ref 71, Value.bool true, Value.int 181 0, Value.ref 72, Value.none, Value.ref 73, Value.ref 74, Value.ref 75, Value.int 287 0, Value.int 44 0, Value.str (Str.ofString "/claim/cut.py") 288] }
noncomputable def kw77 (_ : Params) : Obj := { cls := Value.type "function", data := Data.func { name := Str.ofString "__init__", qualname := Str.ofString "Whitespace.__init__", params := dParams (wsSt 1), body := .stmts (dBody (wsSt 1)), scope := dScope (wsSt 1), globals := 3, closure := [], defaults := Value.none, kwdefaults := Value.none, pyModule := Value.str (Str.ofString "cpy313.tabnanny") 256, code := Value.ref 76 } }
noncomputable def kw83 (_ : Params) : Obj := { cls := Value.type "code", data := Data.fields #[Value.str (Str.ofString "longest_run_of_spaces") 290, Value.str (Str.ofString "Whitespace.longest_run_of_spaces") 291, Value.str (Str.ofString "/claim/cut.py") 292, Value.int 67 0, Value.int 1 0, Value.int 0 0, Value.int 0 0, Value.int 3 0, Value.ref 78, Value.bool true, Value.int 181 0, Value.ref 79, Value.none, Value.ref 80, Value.ref 81, Value.ref 82, Value.int 296 0, Value.int 67 0, Value.str (Str.ofString "/claim/cut.py") 297] }
noncomputable def kw84 (_ : Params) : Obj := { cls := Value.type "function", data := Data.func { name := Str.ofString "longest_run_of_spaces", qualname := Str.ofString "Whitespace.longest_run_of_spaces", params := dParams (wsSt 2), body := .stmts (dBody (wsSt 2)), scope := dScope (wsSt 2), globals := 3, closure := [], defaults := Value.none, kwdefaults := Value.none, pyModule := Value.str (Str.ofString "cpy313.tabnanny") 256, code := Value.ref 83 } }
noncomputable def kw90 (_ : Params) : Obj := { cls := Value.type "code", data := Data.fields #[Value.str (Str.ofString "indent_level") 299, Value.str (Str.ofString "Whitespace.indent_level") 300, Value.str (Str.ofString "/claim/cut.py") 301, Value.int 71 0, Value.int 2 0, Value.int 0 0, Value.int 0 0, Value.int 3 0, Value.ref 85, Value.bool true, Value.int 181 0, Value.ref 86, Value.none, Value.ref 87, Value.ref 88, Value.ref 89, Value.int 308 0, Value.int 71 0, Value.str (Str.ofString "/claim/cut.py") 309] }
noncomputable def kw91 (_ : Params) : Obj := { cls := Value.type "function", data := Data.func { name := Str.ofString "indent_level", qualname := Str.ofString "Whitespace.indent_level", params := dParams (wsSt 3), body := .stmts (dBody (wsSt 3)), scope := dScope (wsSt 3), globals := 3, closure := [], defaults := Value.none, kwdefaults := Value.none, pyModule := Value.str (Str.ofString "cpy313.tabnanny") 256, code := Value.ref 90 } }
noncomputable def kw97 (_ : Params) : Obj := { cls := Value.type "code", data := Data.fields #[Value.str (Str.ofString "equal") 311, Value.str (Str.ofString "Whitespace.equal") 312, Value.str (Str.ofString "/claim/cut.py") 313, Value.int 78 0, Value.int 2 0, Value.int 0 0, Value.int 0 0, Value.int 3 0, Value.ref 92, Value.bool true, Value.int 181 0, Value.ref 93, Value.none, Value.ref 94, Value.ref 95, Value.ref 96, Value.int 316 0, Value.int 78 0, Value.str (Str.ofString "/claim/cut.py") 317] }
noncomputable def kw98 (_ : Params) : Obj := { cls := Value.type "function", data := Data.func { name := Str.ofString "equal", qualname := Str.ofString "Whitespace.equal", params := dParams (wsSt 4), body := .stmts (dBody (wsSt 4)), scope := dScope (wsSt 4), globals := 3, closure := [], defaults := Value.none, kwdefaults := Value.none, pyModule := Value.str (Str.ofString "cpy313.tabnanny") 256, code := Value.ref 97 } }
noncomputable def kw111 (_ : Params) : Obj := { cls := Value.type "code", data := Data.fields #[Value.str (Str.ofString "less") 327, Value.str (Str.ofString "Whitespace.less") 328, Value.str (Str.ofString "/claim/cut.py") 329, Value.int 84 0, Value.int 2 0, Value.int 0 0, Value.int 0 0, Value.int 3 0, Value.ref 106, Value.bool true, Value.int 181 0, Value.ref 107, Value.none, Value.ref 108, Value.ref 109, Value.ref 110, Value.int 334 0, Value.int 84 0, Value.str (Str.ofString "/claim/cut.py") 335] }
noncomputable def kw112 (_ : Params) : Obj := { cls := Value.type "function", data := Data.func { name := Str.ofString "less", qualname := Str.ofString "Whitespace.less", params := dParams (wsSt 6), body := .stmts (dBody (wsSt 6)), scope := dScope (wsSt 6), globals := 3, closure := [], defaults := Value.none, kwdefaults := Value.none, pyModule := Value.str (Str.ofString "cpy313.tabnanny") 256, code := Value.ref 111 } }
noncomputable def kw121 (W : Params) : Obj := { cls := Value.type "dict", data := Data.dict #[{ hash := PyData.keyHash W (Str.ofString "__module__"), key := Value.str (Str.ofString "__module__") 265, val := Value.str (Str.ofString "cpy313.tabnanny") 256 }, { hash := PyData.keyHash W (Str.ofString "__firstlineno__"), key := Value.str (Str.ofString "__firstlineno__") 269, val := Value.int 41 268 }, { hash := PyData.keyHash W (Str.ofString "S"), key := Value.str (Str.ofString "S") 273, val := Value.str (Str.ofString " ") 271 }, { hash := PyData.keyHash W (Str.ofString "T"), key := Value.str (Str.ofString "T") 274, val := Value.str (Str.ofString "\t") 272 }, { hash := PyData.keyHash W (Str.ofString "__init__"), key := Value.str (Str.ofString "__init__") 289, val := Value.ref 77 }, { hash := PyData.keyHash W (Str.ofString "longest_run_of_spaces"), key := Value.str (Str.ofString "longest_run_of_spaces") 298, val := Value.ref 84 }, { hash := PyData.keyHash W (Str.ofString "indent_level"), key := Value.str (Str.ofString "indent_level") 310, val := Value.ref 91 }, { hash := PyData.keyHash W (Str.ofString "equal"), key := Value.str (Str.ofString "equal") 318, val := Value.ref 98 }, { hash := PyData.keyHash W (Str.ofString "not_equal_witness"), key := Value.str (Str.ofString "not_equal_witness") 326, val := Value.ref 105 }, { hash := PyData.keyHash W (Str.ofString "less"), key := Value.str (Str.ofString "less") 336, val := Value.ref 112 }, { hash := PyData.keyHash W (Str.ofString "not_less_witness"), key := Value.str (Str.ofString "not_less_witness") 344, val := Value.ref 119 }, { hash := PyData.keyHash W (Str.ofString "__static_attributes__"), key := Value.str (Str.ofString "__static_attributes__") 350, val := Value.ref 120 }, { hash := PyData.keyHash W (Str.ofString "__dict__"), key := Value.str (Str.ofString "__dict__") 352, val := Value.ref 123 }, { hash := PyData.keyHash W (Str.ofString "__weakref__"), key := Value.str (Str.ofString "__weakref__") 354, val := Value.ref 124 }, { hash := PyData.keyHash W (Str.ofString "__doc__"), key := Value.str (Str.ofString "__doc__") 355, val := Value.none }] 4 }
noncomputable def kw122 (_ : Params) : Obj := { cls := Value.type "type", data := Data.cls { name := Str.ofString "Whitespace", bases := [Value.type "object"], mro := [Value.ref 122, Value.type "object"], ns := 121, qualname := Str.ofString "Whitespace" }, slots := #[none, none, some (Value.str (Str.ofString "Whitespace") 258), some (Value.str (Str.ofString "Whitespace") 266), some (Value.builtin "object.__new__"), some (Value.bool true)] }
noncomputable def tokTab : List (String × Int) := [("!", 54), ("!=", 28), ("%", 24), ("%=", 40), ("&", 19), ("&=", 41), ("(", 7), (")", 8), ("*", 16), ("**", 35), ("**=", 46), ("*=", 38), ("+", 14), ("+=", 36), (",", 12), ("-", 15), ("-=", 37), ("->", 51), (".", 23), ("...", 52), ("/", 17), ("//", 47), ("//=", 48), ("/=", 39), (":", 11), (":=", 53), (";", 13),
  ("<", 20), ("<<", 33), ("<<=", 44), ("<=", 29), ("=", 22), ("==", 27), (">", 21), (">=", 30), (">>", 34), (">>=", 45), ("@", 49), ("@=", 50), ("[", 9), ("]", 10), ("^", 32), ("^=", 43), ("{", 25), ("|", 18), ("|=", 42), ("}", 26), ("~", 31)]
noncomputable def kwMain : List (String × Nat × Value) := [("__name__", 165, .str (Str.ofString "law_wo0067_01") 571), ("__doc__", 166, .none), ("__package__", 167, .none), ("__loader__", 168, .builtin "__main__.__loader__#opaque"), ("__spec__", 169, .none), ("__annotations__", 170, .ref 6), ("__builtins__", 171, .ref 4), ("__file__", 173, .str (Str.ofString "/claim/cut.py") 172), ("__cached__", 174, .none), ("_wall", 193, .ref 21), ("CHAR_MAX", 197, .int 127 196), ("_grouping_intervals", 206, .ref 28), ("Error", 228, .ref 38), ("error_reply", 244, .ref 51), ("parse257", 255, .ref 60), ("Whitespace", 357, .ref 122), ("ENDMARKER", 361, .int 0 360), ("LPAR", 363, .int 7 362), ("RPAR", 365, .int 8 364), ("LSQB", 367, .int 9 366), ("RSQB", 369, .int 10 368), ("COLON", 371, .int 11 370), ("COMMA", 373, .int 12 372), ("SEMI", 375, .int 13 374), ("PLUS", 377, .int 14 376), ("MINUS", 379, .int 15 378), ("STAR", 381, .int 16 380), ("SLASH", 383, .int 17 382), ("VBAR", 385, .int 18 384), ("AMPER", 387, .int 19 386), ("LESS", 389, .int 20 388), ("GREATER", 391, .int 21 390), ("EQUAL", 393, .int 22 392), ("DOT", 395, .int 23 394), ("PERCENT", 397, .int 24 396), ("LBRACE", 399, .int 25 398), ("RBRACE", 401, .int 26 400), ("EQEQUAL", 403, .int 27 402), ("NOTEQUAL", 405, .int 28 404), ("LESSEQUAL", 407, .int 29 406), ("GREATEREQUAL", 409, .int 30 408), ("TILDE", 411, .int 31 410), ("CIRCUMFLEX", 413, .int 32 412), ("LEFTSHIFT", 415, .int 33 414), ("RIGHTSHIFT", 417, .int 34 416), ("DOUBLESTAR", 419, .int 35 418), ("PLUSEQUAL", 421, .int 36 420), ("MINEQUAL", 423, .int 37 422), ("STAREQUAL", 425, .int 38 424), ("SLASHEQUAL", 427, .int 39 426), ("PERCENTEQUAL", 429, .int 40 428), ("AMPEREQUAL", 431, .int 41 430), ("VBAREQUAL", 433, .int 42 432), ("CIRCUMFLEXEQUAL", 435, .int 43 434), ("LEFTSHIFTEQUAL", 437, .int 44 436), ("RIGHTSHIFTEQUAL", 439, .int 45 438), ("DOUBLESTAREQUAL", 441, .int 46 440), ("DOUBLESLASH", 443, .int 47 442), ("DOUBLESLASHEQUAL", 445, .int 48 444), ("AT", 447, .int 49 446), ("ATEQUAL", 449, .int 50 448), ("RARROW", 451, .int 51 450), ("ELLIPSIS", 453, .int 52 452), ("COLONEQUAL", 455, .int 53 454), ("EXCLAMATION", 457, .int 54 456), ("NT_OFFSET", 459, .int 256 458), ("EXACT_TOKEN_TYPES", 556, .ref 127), ("ISNONTERMINAL", 563, .ref 136), ("ISEOF", 570, .ref 143), ("_law_sums", 578, .ref 148), ("_law_sign", 585, .ref 155), ("_law_tree", 596, .ref 162), ("_law_quoted", 605, .ref 169), ("_law_unquoted", 615, .ref 176), ("_law_sizes", 624, .ref 183), ("_law_ruled", 634, .ref 190), ("_law_unruled", 647, .ref 197), ("_law_page", 653, .ref 202), ("_law_unpaged", 666, .ref 209), ("_law_bracketed", 672, .ref 214), ("_law_unbracketed", 683, .ref 221), ("_law_back", 693, .ref 228), ("_law_round", 703, .ref 235), ("law", 711, .ref 242)]
noncomputable def tokToks : List (Nat × Nat) := [(460, 456), (462, 404), (464, 396), (466, 428), (468, 386), (470, 430), (472, 362), (474, 364), (476, 380), (478, 418), (480, 440), (482, 424), (484, 376), (486, 420), (488, 372), (490, 378), (492, 422), (494, 450), (496, 394), (498, 452), (500, 382), (502, 442), (504, 444), (506, 426), (508, 370), (510, 454), (512, 374), (514, 388), (516, 414), (518, 436), (520, 406), (522, 392), (524, 402), (526, 390), (528, 408), (529, 416), (530, 438), (531, 446), (532, 448), (533, 366), (534, 368), (535, 412), (536, 434), (537, 398), (538, 384), (539, 432), (540, 400), (541, 410)]
noncomputable def kwEnt (W : Params) (x : Str × Tok × Value) : DictEntry := { hash := PyData.keyHash W x.1, key := .str x.1 x.2.1, val := x.2.2 }
noncomputable def kwDict (W : Params) (l : List (Str × Tok × Value)) (n : Nat) : Obj := { cls := .type "dict", data := .dict (l.map (kwEnt W)).toArray n }
noncomputable def kwNames : List (Str × Tok × Value) := kwMain.map fun x => (Str.ofString x.1, x.2.1, x.2.2)
noncomputable def kwToks : List (Str × Tok × Value) := (tokTab.zip tokToks).map fun x => (Str.ofString x.1.1, x.2.1, .int x.1.2 x.2.2)
noncomputable def kw3 (W : Params) : Obj := kwDict W kwNames 84
noncomputable def kw127 (W : Params) : Obj := kwDict W kwToks 48
noncomputable def KW (W : Params) : Frag := [(2, kw2 W), (3, kw3 W), (76, kw76 W), (77, kw77 W), (83, kw83 W), (84, kw84 W), (90, kw90 W), (91, kw91 W), (97, kw97 W), (98, kw98 W), (111, kw111 W), (112, kw112 W), (121, kw121 W), (122, kw122 W), (127, kw127 W)]
noncomputable def kwAs : List Addr := [2, 3, 76, 77, 83, 84, 90, 91, 97, 98, 111, 112, 121, 122, 127]

def FnAt (h : Heap) (name : Str) (st : Stmt) (a : Addr) : Prop :=
  ∃ o pm cd doc, h.get? a = some o ∧ o.data = .func (docDef name (dParams st) (dBody st) (dScope st) pm cd doc) ∧ h.CodeRec cd name

theorem rl_lim : recursionLimit = 1000 := rfl
def Kp (h h' : Heap) : Prop := ∀ b o, h.get? b = some o → h'.get? b = some o
theorem Kp.refl {h : Heap} : Kp h h := fun _ _ e => e
theorem Kp.trans {h h' h'' : Heap} (a : Kp h h') (b : Kp h' h'') : Kp h h'' := fun x o e => b x o (a x o e)

theorem FnAt.keeps {h h' : Heap} {name : Str} {st : Stmt} {a : Addr} (x : FnAt h name st a) (k : Kp h h') : FnAt h' name st a :=
  let ⟨o, pm, cd, doc, e, d, c⟩ := x
  ⟨o, pm, cd, doc, k _ _ e, d, c.keeps k⟩

noncomputable def fnTab : List (Str × Nat) := [("_grouping_intervals", 3), ("parse257", 7), ("ISNONTERMINAL", 62), ("ISEOF", 63), ("_law_sums", 65), ("_law_sign", 66), ("_law_tree", 67), ("_law_quoted", 68), ("_law_unquoted", 69), ("_law_sizes", 70),
  ("_law_ruled", 71), ("_law_unruled", 72), ("_law_page", 73), ("_law_unpaged", 74), ("_law_bracketed", 75), ("_law_unbracketed", 76), ("_law_back", 77), ("_law_round", 78)]

noncomputable def tokData : List (PyData × PyData) := tokTab.map fun p => (.str (Str.ofString p.1), .int p.2)
/-- what every state keeps: the program's names -/
structure Base (prog : Program) (w : World) (mg mb : Str → Option Value) (h : Heap) : Prop where
  g : h.Ns mainGlobals mg
  b : h.Ns builtinsNs mb
  nolimit : h.NoLimit
  bi : ∀ x : Str, mg x = none → x ≠ "__name__" → mb x = bootBuiltins x
  nodigits : ∃ mc, h.Ns cStatics mc ∧ mc "sys.int_max_str_digits" = none
  builtin : ∀ x ∈ (["len", "sum", "max", "range", "tuple"] : List Str), mg x = none
  fns : ∀ p ∈ fnTab, ∃ a, mg p.1 = some (.ref a) ∧ FnAt h p.1 (stA p.2) a
  consts : ∀ p ∈ ([("CHAR_MAX", 127), ("NT_OFFSET", 256), ("ENDMARKER", 0)] : List (Str × Int)), ∃ t, mg p.1 = some (.int p.2 t)
  tokd : ∃ a, mg "EXACT_TOKEN_TYPES" = some (.ref a) ∧ StrTab prog w h a tokData
  ws : mg "Whitespace" = some (.ref 122)
  kw : (KW w.params).In h

theorem Base.keeps {prog : Program} {w : World} {mg mb : Str → Option Value} {h h' : Heap} (B : Base prog w mg mb h) (k : Kp h h') : Base prog w mg mb h' :=
  ⟨B.g.keeps k, B.b.keeps k, B.nolimit.keeps k, B.bi, let ⟨mc, a, b⟩ := B.nodigits; ⟨mc, a.keeps k, b⟩, B.builtin, fun p hp => let ⟨a, e, f⟩ := B.fns p hp; ⟨a, e, f.keeps k⟩, B.consts, let ⟨a, e, T⟩ := B.tokd; ⟨a, e, T.keep k⟩, B.ws, B.kw.keeps k⟩
theorem Base.fn {prog : Program} {w : World} {mg mb : Str → Option Value} {h : Heap} (B : Base prog w mg mb h) (i : Nat) {p : Str × Nat} (e : fnTab[i]? = some p) : ∃ a, mg p.1 = some (.ref a) ∧ FnAt h p.1 (stA p.2) a := B.fns p (List.mem_of_getElem? e)

def Sm (s s' : Shared) : Prop := s'.os = s.os ∧ (∀ (i : Nat) (x : GenState), s.gens[i]? = some x → s'.gens[i]? = some x) ∧ (AllBare s.gens → AllBare s'.gens)
theorem Sm.of {s s' : Shared} (e : s'.os = s.os) (k : s'.gens = s.gens) : Sm s s' := ⟨e, fun _ _ x => by rw [k]; exact x, fun x => by rw [k]; exact x⟩
theorem Sm.refl {s : Shared} : Sm s s := .of rfl rfl
theorem Sm.trans {a b c : Shared} (x : Sm a b) (y : Sm b c) : Sm a c := ⟨y.1.trans x.1, fun i g e => y.2.1 i g (x.2.1 i g e), fun e => y.2.2 (x.2.2 e)⟩

/-- the frame at hand: since g, over the heap h₀ that stays, the locals m at L, the ledger M of what the call has made -/
structure FS (g : Shared) (h₀ : Heap) (L : Addr) (m : Str → Option Value) (M : List (Addr × Obj)) (s : Shared) : Prop where
  sm : Sm g s
  fr : Fr h₀ L s.heap m
  ns : News h₀ L s.heap M
  nd : (M.map (·.1)).Nodup
  tp : 0 < s.toks

noncomputable abbrev lst (vs : List Value) (n : Nat := 0) : Obj := { cls := .type "list", data := .seq vs.toArray n }
noncomputable abbrev tup (vs : List Value) (n : Nat := 0) : Obj := { cls := .type "tuple", data := .seq vs.toArray n }

section
variable {prog : Program} {w : World} {A : Around} {E : Value → Shared → Prop} {g s s' : Shared} {name : Str} {scope : Scope} {L a : Addr} {cd : Value} {h₀ : Heap} {m mg mb : Str → Option Value} {M M' : List (Addr × Obj)}

theorem FS.kp (F : FS g h₀ L m M s) : Kp h₀ s.heap := F.fr.keep
theorem tpos {α : Type} {t : Sem α} {Q : α → Shared → Prop} (h0 : 0 < s.toks) (h : wpAny (model prog w) A t (fun a s' => 0 < s'.toks → Q a s') E s) : wpAny (model prog w) A t Q E s :=
  wpAny_with_toks (n := 1) h0 (wpAny_mono h (fun _ _ x => x) fun _ _ x _ => x)
theorem FS.at (F : FS g h₀ L m M s) (e : s'.heap = s.heap) (k : Sm s s') (tp : 0 < s'.toks) : FS g h₀ L m M s' := ⟨F.sm.trans k, e ▸ F.fr, e ▸ F.ns, F.nd, tp⟩
theorem FS.tk (F : FS g h₀ L m M s) {t : Nat} (h : 0 < t) : FS g h₀ L m M { s with toks := t } := F.at rfl (.of rfl rfl) h
theorem FS.lt (F : FS g h₀ L m M s) {p : Addr × Obj} (hp : p ∈ M) : p.1 < s.heap.objs.size := Heap.lt_size (F.ns p hp).1
theorem FS.get (F : FS g h₀ L m M s) {b : Addr} {o : Obj} (hp : (b, o) ∈ M) : s.heap.get? b = some o := (F.ns _ hp).1
theorem FS.perm (F : FS g h₀ L m M s) (hp : M.Perm M') : FS g h₀ L m M' s :=
  ⟨F.sm, F.fr, fun p h => F.ns p (hp.symm.subset h), (hp.map _).nodup_iff.mp F.nd, F.tp⟩
theorem FS.sub (F : FS g h₀ L m M s) (hp : M'.Sublist M) : FS g h₀ L m M' s :=
  ⟨F.sm, F.fr, fun p h => F.ns p (hp.subset h), F.nd.sublist (hp.map _), F.tp⟩
theorem FS.swap {p q : Addr × Obj} (F : FS g h₀ L m (p :: q :: M) s) : FS g h₀ L m (q :: p :: M) s := F.perm (.swap ..)
theorem FS.rot {p q r : Addr × Obj} (F : FS g h₀ L m (p :: q :: r :: M) s) : FS g h₀ L m (r :: p :: q :: M) s := F.perm ((List.Perm.cons _ (.swap ..)).trans (.swap ..))
theorem FS.drop {p : Addr × Obj} (F : FS g h₀ L m (p :: M) s) : FS g h₀ L m M s := F.sub (.cons _ (.refl _))
theorem FS.drop2 {p q : Addr × Obj} (F : FS g h₀ L m (p :: q :: M) s) : FS g h₀ L m (p :: M) s := F.swap.drop
theorem FS.push (F : FS g h₀ L m M s) (o : Obj) (hfree : o.isFreed = false := by rfl) : FS g h₀ L m ((s.heap.objs.size, o) :: M) { s with heap := s.heap.push o } :=
  ⟨F.sm, F.fr.push o, F.ns.push F.fr o hfree, List.nodup_cons.mpr ⟨fun hm => by
    obtain ⟨p, hp, e⟩ := List.mem_map.mp hm
    exact Nat.lt_irrefl _ (e ▸ F.lt hp), F.nd⟩, F.tp⟩
theorem FS.loc (F : FS g h₀ L m M s) {p : Addr × Obj} (hp : p ∈ M) : p.1 ≠ L := (F.ns p hp).2.1

/-- one object of the ledger turned -/
theorem FS.turn {d : Addr} {o o' : Obj} {h' : Heap} {tk : Nat} (F : FS g h₀ L m ((d, o) :: M) s) (ho : h'.get? d = some o') (hs : Heap.SameBut d s.heap h') (tp : 0 < tk) : FS g h₀ L m ((d, o') :: M) { s with heap := h', toks := tk } := by
  have hd := F.ns (d, o) (.head _)
  refine ⟨F.sm, ?_, fun p hp => ?_, F.nd, tp⟩
  · refine ⟨F.fr.ns.sameBut hs (Ne.symm hd.2.1), fun b x e => (hs.2 b fun hb => ?_).trans (F.fr.keep b x e), F.fr.above⟩
    subst hb
    rw [hd.2.2] at e
    cases e
  · rcases List.mem_cons.mp hp with rfl | hp
    · exact ⟨ho, hd.2⟩
    · have h1 := F.ns p (.tail _ hp)
      refine ⟨(hs.2 p.1 fun e => ?_).trans h1.1, h1.2⟩
      have := (List.nodup_cons.mp F.nd).1
      exact this (List.mem_map.mpr ⟨p, hp, e⟩)

/-- what a callee left: all that stood stands, X is new -/
structure Fresh (s s' : Shared) (X : List (Addr × Obj)) : Prop where
  sm : Sm s s'
  kp : Kp s.heap s'.heap
  new : ∀ p ∈ X, s'.heap.get? p.1 = some p.2 ∧ s.heap.get? p.1 = none
  nd : (X.map (·.1)).Nodup
theorem FS.fresh {s₀ : Shared} (F : FS s₀ s₀.heap L m M s) : Fresh s₀ s M := ⟨F.sm, F.kp, fun p hp => ⟨(F.ns p hp).1, (F.ns p hp).2.2⟩, F.nd⟩
theorem FS.after {X : List (Addr × Obj)} (F : FS g h₀ L m M s) (N : Fresh s s' X) (tp : 0 < s'.toks) : FS g h₀ L m (X ++ M) s' := by
  refine ⟨F.sm.trans N.sm, F.fr.after N.kp, fun p hp => ?_, ?_, tp⟩
  · rcases List.mem_append.mp hp with hp | hp
    · obtain ⟨a, b⟩ := N.new p hp
      refine ⟨a, fun e => ?_, ?_⟩
      · obtain ⟨o, _, _, ho, _⟩ := F.fr.ns
        rw [e, ho] at b
        cases b
      · cases hq : h₀.get? p.1 with
        | none => rfl
        | some o => rw [F.kp _ _ hq] at b; cases b
    · exact ⟨N.kp _ _ (F.ns p hp).1, (F.ns p hp).2⟩
  · rw [List.map_append]
    refine List.nodup_append.mpr ⟨N.nd, F.nd, ?_⟩
    rintro a ha b hb rfl
    obtain ⟨p, hp, rfl⟩ := List.mem_map.mp ha
    obtain ⟨q, hq, e⟩ := List.mem_map.mp hb
    have h1 := (F.ns q hq).1
    rw [e, (N.new p hp).2] at h1
    cases h1
theorem FS.kept (F : FS g h₀ L m M s) (k : Kp s.heap s'.heap) (S : Sm s s') (tp : 0 < s'.toks) : FS g h₀ L m M s' := F.after (X := []) ⟨S, k, fun _ h => (nomatch h), List.nodup_nil⟩ tp

/-! names -/
theorem x_global {x : Str} {pos : Pos} {v : Value} {Q : Value → Shared → Prop} (F : FS g h₀ L m M s := by with_reducible assumption) (B : Base prog w mg mb h₀ := by assumption) (e : mg x = some v := by assumption) (h : Q v s)
    (hk : scope.kind = .function := by with_unfolding_all rfl) (hx : (envOf name scope L a cd).kindOf x = some .globalImplicit := by with_unfolding_all rfl) (hd : (x == ("__debug__" : Str)) = false := by with_unfolding_all decide) :
    wpAny (model prog w) A (eval (.Name x pos) (envOf name scope L a cd)) Q E s := ld_global_at F.fr B.g e h hk hx hd
theorem x_builtin {x : Str} {pos : Pos} {v : Value} {Q : Value → Shared → Prop} (F : FS g h₀ L m M s := by with_reducible assumption) (B : Base prog w mg mb h₀ := by assumption) (e : mg x = none := by exact Base.builtin (by assumption) _ (by decide +kernel)) (hv : bootBuiltins x = some v := by first | reg3_boot | boot_fact) (hn : x ≠ "__name__" := by decide) (h : Q v s)
    (hk : scope.kind = .function := by with_unfolding_all rfl) (hx : (envOf name scope L a cd).kindOf x = some .globalImplicit := by with_unfolding_all rfl) (hd : (x == ("__debug__" : Str)) = false := by with_unfolding_all decide) :
    wpAny (model prog w) A (eval (.Name x pos) (envOf name scope L a cd)) Q E s := ld_builtin_at F.fr B.g e B.b ((B.bi x e hn).trans hv) h hk hx hd
theorem x_local {x : Str} {pos : Pos} {v : Value} {Q : Value → Shared → Prop} (F : FS g h₀ L m M s := by with_reducible assumption) (hv : m x = some v := by first | with_reducible assumption | with_unfolding_all exact rfl | with_unfolding_all assumption) (h : Q v s)
    (hk : scope.kind = .function := by with_unfolding_all rfl) (hl : (envOf name scope L a cd).kindOf x = some .local := by with_unfolding_all rfl) (hd : (x == ("__debug__" : Str)) = false := by with_unfolding_all decide) :
    wpAny (model prog w) A (eval (.Name x pos) (envOf name scope L a cd)) Q E s := ld F.fr hv h hk hl hd
theorem x_load {x : Str} {v : Value} {Q : Value → Shared → Prop} (F : FS g h₀ L m M s := by with_reducible assumption) (hv : m x = some v := by first | with_reducible assumption | with_unfolding_all exact rfl | with_unfolding_all assumption) (h : Q v s)
    (hk : scope.kind = .function := by with_unfolding_all rfl) (hl : (envOf name scope L a cd).kindOf x = some .local := by with_unfolding_all rfl) :
    wpAny (model prog w) A (loadName (envOf name scope L a cd) x) Q E s := ldn F.fr hv h hk hl
theorem x_store {x : Str} {v : Value} {Q : Unit → Shared → Prop} (F : FS g h₀ L m M s)
    (h : let m' : Str → Option Value := fun y => if y = x then some v else m y; ∀ s', FS g h₀ L m' M s' → Q () s')
    (hk : scope.kind = .function := by with_unfolding_all rfl) (hl : (envOf name scope L a cd).kindOf x = some .local := by with_unfolding_all rfl) :
    wpAny (model prog w) A (storeName (envOf name scope L a cd) x v) Q E s :=
  stN F.fr F.ns (fun h' F' N' => h { s with heap := h', toks := s.toks + 1 } ⟨F.sm.trans (.of rfl rfl), F', N', F.nd, Nat.succ_pos _⟩) hk hl

/-! written values, ints, texts -/
theorem x_int {env : Env} {i : Int} {k : Nat} {pos : Pos} {Q : Value → Shared → Prop} (F : FS g h₀ L m M s) (h : ∀ s' t, FS g h₀ L m M s' → Q (.int i t) s') :
    wpAny (model prog w) A (eval (.Constant (.int i) k pos) env) Q E s := wpAny_Constant_int (h _ _ (F.tk (Nat.succ_pos _)))
theorem x_str {env : Env} {i : Str} {k : Nat} {pos : Pos} {Q : Value → Shared → Prop} (F : FS g h₀ L m M s) (h : ∀ s' t, FS g h₀ L m M s' → Q (.str i t) s') :
    wpAny (model prog w) A (eval (.Constant (.str i) k pos) env) Q E s := Constant_str (h _ _ (F.tk (Nat.succ_pos _)))
theorem x_strT {env : Env} {i : Str} {k : Nat} {pos : Pos} {Q : Value → Shared → Prop} (F : FS g h₀ L m M s) (h : ∀ s', s'.toks = s.toks + 1 → FS g h₀ L m M s' → Q (.str i s.toks) s') :
    wpAny (model prog w) A (eval (.Constant (.str i) k pos) env) Q E s := Constant_str (h _ rfl (F.tk (Nat.succ_pos _)))
theorem x_add {a b : Int} {t u : Tok} {Q : Value → Shared → Prop} (F : FS g h₀ L m M s) (h : ∀ s' t, FS g h₀ L m M s' → Q (.int (a + b) t) s') :
    wpAny (model prog w) A (binaryOp .Add (.int a t) (.int b u)) Q E s := add_int (h _ _ (F.tk (Nat.succ_pos _)))
theorem x_iadd {a b : Int} {t u : Tok} {Q : Value → Shared → Prop} (F : FS g h₀ L m M s) (h : ∀ s' t, FS g h₀ L m M s' → Q (.int (a + b) t) s') :
    wpAny (model prog w) A (inplaceOp .Add (.int a t) (.int b u)) Q E s := iadd_int (h _ _ (F.tk (Nat.succ_pos _)))
theorem x_sub {a b : Int} {t u : Tok} {Q : Value → Shared → Prop} (F : FS g h₀ L m M s) (h : ∀ s' t, FS g h₀ L m M s' → Q (.int (a - b) t) s') :
    wpAny (model prog w) A (binaryOp .Sub (.int a t) (.int b u)) Q E s := sub_int (h _ _ (F.tk (Nat.succ_pos _)))
theorem x_isub {a b : Int} {t u : Tok} {Q : Value → Shared → Prop} (F : FS g h₀ L m M s) (h : ∀ s' t, FS g h₀ L m M s' → Q (.int (a - b) t) s') :
    wpAny (model prog w) A (inplaceOp .Sub (.int a t) (.int b u)) Q E s := isub_int (h _ _ (F.tk (Nat.succ_pos _)))
theorem x_mul {a b : Int} {t u : Tok} {Q : Value → Shared → Prop} (F : FS g h₀ L m M s) (hb : a.natAbs < 2 ^ 62) (h : ∀ s' t, FS g h₀ L m M s' → Q (.int (a * b) t) s') :
    wpAny (model prog w) A (binaryOp .Mult (.int a t) (.int b u)) Q E s := mul_int (h _ _ (F.tk (Nat.succ_pos _))) (IntMulOk.of_left (intBits_le_64 (by lia) (by lia)))
theorem x_fdiv {a b : Int} {t u : Tok} {Q : Value → Shared → Prop} (F : FS g h₀ L m M s) (hb : b ≠ 0) (hs : b.natAbs < 1073741824) (h : ∀ s' t, FS g h₀ L m M s' → Q (.int (a.fdiv b) t) s') :
    wpAny (model prog w) A (binaryOp .FloorDiv (.int a t) (.int b u)) Q E s := floordiv_int hb (h _ _ (F.tk (Nat.succ_pos _))) (Or.inl (PyProof.noPylong_small hs))
theorem x_mod {a b : Int} {t u : Tok} {Q : Value → Shared → Prop} (F : FS g h₀ L m M s) (hb : b ≠ 0) (h : ∀ s' t, FS g h₀ L m M s' → Q (.int (a.fmod b) t) s') :
    wpAny (model prog w) A (binaryOp .Mod (.int a t) (.int b u)) Q E s := mod_int' hb (h _ _ (F.tk (Nat.succ_pos _)))
theorem x_pow {a n : Int} {t u : Tok} {Q : Value → Shared → Prop} (F : FS g h₀ L m M s) (hn : 0 ≤ n) (hn2 : n ≤ 1000000) (ha : a.natAbs < 2 ^ 64) (h : ∀ s' t, FS g h₀ L m M s' → Q (.int (a ^ n.toNat) t) s') :
    wpAny (model prog w) A (binaryOp .Pow (.int a t) (.int n u)) Q E s := pow_int_small hn hn2 ha (h _ _ (F.tk (Nat.succ_pos _)))
theorem x_cat {x y : Str} {t u : Tok} {Q : Value → Shared → Prop} (F : FS g h₀ L m M s) (hsz : x.length + y.length ≤ sizeLine) (h : ∀ s' t, FS g h₀ L m M s' → Q (.str (x ++ y) t) s') :
    wpAny (model prog w) A (binaryOp .Add (.str x t) (.str y u)) Q E s := tpos F.tp (add_str (fun _ _ hp => h _ _ (F.tk hp)) hsz)
theorem x_double {x : Str} {c : Nat} {y z : Str} {t u v : Tok} {Q : Value → Shared → Prop} (F : FS g h₀ L m M s) (hy : y = ⟨#[c]⟩) (hz : z = ⟨#[c, c]⟩) (hu : u ≠ 0) (hv : v = u + 1) (hb : x.length * 3 + 2 ≤ 16777216)
    (h : ∀ s' t, FS g h₀ L m M s' → Q (.str ⟨(StrLaws.dbl c x.cps.toList).toArray⟩ t) s') : wpAny (model prog w) A (call (.builtin "str.replace") [.str x t, .str y u, .str z v]) Q E s := by
  refine tpos F.tp (SC.replace hu (by rw [hv]; exact Nat.succ_ne_zero _) (by rw [hv]; exact Nat.ne_of_lt (Nat.lt_succ_self _)) (by subst hy hz; rfl) (by subst hz; show x.length + (x.length + 1) * 2 ≤ _; lia) fun t' k hp => ?_)
  rw [replace_dbl x y z c hy hz]
  exact h _ _ (F.tk hp)
theorem x_icat {x y : Str} {t u : Tok} {Q : Value → Shared → Prop} (F : FS g h₀ L m M s) (hsz : x.length + y.length ≤ sizeLine) (h : ∀ s' t, FS g h₀ L m M s' → Q (.str (x ++ y) t) s') :
    wpAny (model prog w) A (inplaceOp .Add (.str x t) (.str y u)) Q E s := tpos F.tp (iadd_str (fun _ _ hp => h _ _ (F.tk hp)) hsz)
theorem x_lenStr {x : Str} {t : Tok} {Q : Value → Shared → Prop} (F : FS g h₀ L m M s) (hsz : x.length ≤ sizeLine) (h : ∀ s' t, FS g h₀ L m M s' → Q (.int x.length t) s') :
    wpAny (model prog w) A (call (.builtin "len") [.str x t]) Q E s := P.len_str (by rw [sizeLine_eq] at hsz; lia) (h _ _ (F.tk (Nat.succ_pos _)))
theorem x_lenList {l : Addr} {vs : List Value} {n : Nat} {Q : Value → Shared → Prop} (F : FS g h₀ L m M s) (hl : s.heap.get? l = some (lst vs n)) (hsz : vs.length ≤ sizeLine) (h : ∀ s' t, FS g h₀ L m M s' → Q (.int vs.length t) s') :
    wpAny (model prog w) A (call (.builtin "len") [.ref l]) Q E s := len_list (items := vs.toArray) ⟨_, hl, rfl, n, rfl⟩ (by rw [List.size_toArray]; rw [sizeLine_eq] at hsz; lia) (by rw [List.size_toArray]; exact h _ _ (F.tk (Nat.succ_pos _)))

/-! lists -/
theorem x_newList {vs : List Value} {Q : Value → Shared → Prop} (F : FS g h₀ L m M s) (hsz : vs.length ≤ sizeLine)
    (h : ∀ s' l, let M' := (l, lst vs) :: M; FS g h₀ L m M' s' → Q (.ref l) s') :
    wpAny (model prog w) A (newList vs) Q E s :=
  wpAny_newObj_type (h _ _ (F.push _)) (by show vs.toArray.size ≤ sizeLine; rw [List.size_toArray]; exact hsz)
theorem x_newTuple {vs : List Value} {Q : Value → Shared → Prop} (F : FS g h₀ L m M s) (hsz : vs.length ≤ sizeLine)
    (h : ∀ s' l, let M' := (l, tup vs) :: M; FS g h₀ L m M' s' → Q (.ref l) s') :
    wpAny (model prog w) A (newTuple vs) Q E s :=
  wpAny_newObj_type (h _ _ (F.push _)) (by show vs.toArray.size ≤ sizeLine; rw [List.size_toArray]; exact hsz)
theorem x_sliceList {env : Env} {value : Expr} {lower upper : Option Expr} {p pos : Pos} {Q : Value → Shared → Prop} (_F : FS g h₀ L m M s)
    (h : wpAny (model prog w) A (eval value env) (fun o s₁ => wpAny (model prog w) A (evalPart lower env) (fun vl s₂ => wpAny (model prog w) A (evalPart upper env) (fun vu s₃ =>
      ∃ l vs n lo hi m M, o = .ref l ∧ FS g h₀ L m M s₃ ∧ s₃.heap.get? l = some (lst vs n) ∧ vs.length ≤ sizeLine ∧ IsPart vl lo ∧ IsPart vu hi ∧
        ∀ s' D, FS g h₀ L m ((D, lst (slicePick vs.toArray lo hi none).toList) :: M) s' → Q (.ref D) s') E s₂) E s₁) E s)
    (ht : ∀ o r, letTemporaryGo value o r = pure () := by intro _ _; rfl) :
    wpAny (model prog w) A (eval (.Subscript value (.Slice lower upper none p) pos) env) Q E s := by
  refine wpAny_Subscript_list_slice (wpAny_mono h (fun o s₁ h₁ => wpAny_mono h₁ (fun vl s₂ h₂ => wpAny_mono h₂ (fun vu s₃ h₃ => ?_) fun _ _ e => e) fun _ _ e => e) fun _ _ e => e) ht
  obtain ⟨l, vs, n, lo, hi, m, M, rfl, F, hl, hsz, pl, pu, k⟩ := h₃
  refine ⟨l, vs.toArray, lo, hi, rfl, ⟨_, hl, rfl, n, rfl⟩, by rw [List.size_toArray]; exact hsz, pl, pu, ?_⟩
  have F2 := ((F.push { cls := .type "slice", data := .fields #[vl, vu, .none] }).drop).push (lst (slicePick vs.toArray lo hi none).toList)
  have e : (s₃.heap.push { cls := .type "slice", data := .fields #[vl, vu, .none] }).objs.size = s₃.heap.objs.size + 1 := Heap.size_push ..
  rw [← e]
  exact k _ _ F2
theorem slice_from (vs : List Value) (k : Nat) : (slicePick vs.toArray (some (k : Int)) none none).toList = vs.drop k := by rw [slicePick_from']
theorem isList_of {h : Heap} {l : Addr} {vs : List Value} {n : Nat} (e : h.get? l = some (lst vs n)) : h.IsList l vs.toArray := ⟨_, e, rfl, n, rfl⟩
theorem sub_name {x : Str} {pos : Pos} {o i : Value} : subscripted (Expr.Name x pos) false o i = operate [o, i] (getItem o i) := by with_unfolding_all rfl
theorem sub_const {c : Const} {k : Nat} {pos : Pos} {o i : Value} : subscripted (Expr.Constant c k pos) false o i = operate [o, i] (getItem o i) := by with_unfolding_all rfl
theorem sub_binop {x y : Expr} {op : Operator} {pos : Pos} {o i : Value} : subscripted (Expr.BinOp x op y pos) false o i = operate [o, i] (getItem o i) := by with_unfolding_all rfl
theorem sub_unop {x : Expr} {op : UnaryOp} {pos : Pos} {o i : Value} : subscripted (Expr.UnaryOp op x pos) false o i = operate [o, i] (getItem o i) := by with_unfolding_all rfl
theorem ltg_name {x : Str} {pos : Pos} {o r : Value} : letTemporaryGo (Expr.Name x pos) o r = pure () := by with_unfolding_all rfl
theorem x_item {value slice : Expr} {l : Addr} {vs : List Value} {n : Nat} {k : Int} {u : Tok} {x : Value} {Q : Value → Shared → Prop} (hl : s.heap.get? l = some (lst vs n))
    (h0 : 0 ≤ k) (hfit : k < 2 ^ 63) (hx : vs[k.toNat]? = some x) (h : Q x s)
    (hs : subscripted slice false (.ref l) (.int k u) = operate [.ref l, .int k u] (getItem (.ref l) (.int k u)) := by first | with_reducible exact sub_name | with_reducible exact sub_const | with_reducible exact sub_binop | with_reducible exact sub_unop | with_unfolding_all rfl) (hg : ∀ r, letTemporaryGo value (.ref l) r = pure () := by intro _; first | with_reducible exact ltg_name | with_unfolding_all rfl) :
    wpAny (model prog w) A (subscriptTail value slice (.ref l) (.int k u)) Q E s := item_listL (isList_of hl) h0 hfit hx h hs hg
theorem x_itemLast {value slice : Expr} {l : Addr} {vs : List Value} {n : Nat} {u : Tok} {x : Value} {Q : Value → Shared → Prop} (hl : s.heap.get? l = some (lst (vs ++ [x]) n)) (h : Q x s)
    (hs : subscripted slice false (.ref l) (.int (-1) u) = operate [.ref l, .int (-1) u] (getItem (.ref l) (.int (-1) u)) := by first | with_reducible exact sub_name | with_reducible exact sub_const | with_reducible exact sub_binop | with_reducible exact sub_unop | with_unfolding_all rfl) (hg : ∀ r, letTemporaryGo value (.ref l) r = pure () := by intro _; first | with_reducible exact ltg_name | with_unfolding_all rfl) :
    wpAny (model prog w) A (subscriptTail value slice (.ref l) (.int (-1) u)) Q E s :=
  subscriptTail_builtin (isList_of hl).typeIs slot_list_getitem.lookup (wpAny_getItem_list_neg (isList_of hl) (by decide) (by simp; lia) (by decide) (by
    have e : (-1 + ((vs ++ [x]).toArray.size : Int)).toNat = vs.length := by simp; lia
    rw [e]; simp) h) hs hg
theorem x_append {l : Addr} {vs : List Value} {n : Nat} {x : Value} {Q : Value → Shared → Prop} (F : FS g h₀ L m ((l, lst vs n) :: M) s) (hsz : vs.length ≤ sizeLine)
    (h : ∀ s' n', FS g h₀ L m ((l, lst (vs ++ [x]) n') :: M) s' → Q .none s') : wpAny (model prog w) A (call (.builtin "list.append") [.ref l, x]) Q E s := by
  refine wpAny_list_append_plain (items := vs.toArray) (hsz := by rw [List.size_toArray]; exact hsz) ⟨n, F.get (.head _)⟩ fun h' hpl hs => ?_
  obtain ⟨n', e⟩ := hpl
  have e2 : vs.toArray.push x = (vs ++ [x]).toArray := by simp
  rw [e2] at e
  exact h { s with heap := h' } n' (F.turn (tk := s.toks) e hs F.tp)
theorem m_append {l : Addr} {vs : List Value} {n : Nat} {pl : Sem Bool} {Q : Value × List Value → Shared → Prop} (hl : s.heap.get? l = some (lst vs n)) (h : Q (.builtin "list.append", [.ref l]) s) :
    wpAny (model prog w) A (getMethod (.ref l) "append" pl) Q E s := getMethod_list_append hl rfl rfl h

/-! a def of the text, called -/
theorem x_callWith {M : Model} {env : Env} {pos : Pos} {f : Addr} {nm : Str} {st : Stmt} {e : Expr} {rest : List Expr} {Q : Value → Shared → Prop} (hf : FnAt h₀ nm st f := by with_reducible assumption)
    (h : wpAny M A (spliced (backTo pos (starEach (e :: rest) env))) (fun vs s₁ => Kp h₀ s₁.heap ∧ wpAny M A (call (.ref f) vs) Q E s₁) E s)
    (he : starEach (e :: rest) env = (false, eval e env) :: starEach rest env := by rfl) :
    wpAny M A (callWith pos (.ref f) [] (backTo pos (starEach (e :: rest) env)) []) Q E s := by
  obtain ⟨o, pm, cd, doc, ho, hd, hc⟩ := hf
  exact callWith_def hd (wpAny_mono h (fun vs s₁ hv => ⟨hv.1 _ _ ho, hv.2⟩) fun _ _ x => x) he
theorem x_call {st : Stmt} {Q : Value → Shared → Prop} {args : List Value} {f : Addr} {nm : Str} (binds : List (Str × Value))
    (hf : FnAt s.heap nm st f) (B : Base prog w mg mb s.heap) (hroom : A.depth < recursionLimit)
    (hne : binds ≠ []) (hbind : ∀ pm cd doc, bindArgs (docDef nm (dParams st) (dBody st) (dScope st) pm cd doc) ⟨args, []⟩ = pure binds)
    (hloc : (binds.all fun x => decide ((dScope st).names.lookup x.1 = some .local)) = true)
    (h : ∀ s' L' cd, L' = s.heap.objs.size → FS s s.heap L' (fun x => binds.reverse.lookup x) [] s' →
      wpAny (model prog w) (A.deeper (envOf nm (dScope st) L' f cd)) (execs (dBody st) (envOf nm (dScope st) L' f cd))
        (fun fl s' => Q (match fl with | .ret v => v | _ => .none) s') (fun _ _ => False) s')
    (hco : (dScope st).isCoroutine = false := by rfl) (hgen : (dScope st).isGenerator = false := by rfl) (hk : (dScope st).kind = .function := by rfl)
    (hcell : ∀ x ∈ (dScope st).names, x.2 ≠ .cell := by decide) :
    wpAny (model prog w) A (call (.ref f) args) Q E s := by
  obtain ⟨o, pm, cd, doc, ho, hd, hc⟩ := hf
  exact wpAny_call (call_plain_ret hroom ho hd B.nolimit hc (hbind _ _ _) (locs hloc) (fun h₁ F => h { s with heap := h₁, toks := s.toks + binds.length } _ cd rfl ⟨Sm.refl, F, News.nil, List.nodup_nil, Nat.lt_of_lt_of_le (List.length_pos_iff.mpr hne) (Nat.le_add_left _ _)⟩) hco hgen hk hcell)
end

/-! a goal's end kept small while a walk goes on -/
def Le {α : Type} (Q Qt : α → Shared → Prop) : Prop := ∀ a s, Q a s → Qt a s
theorem Le.use {α : Type} {Q Qt : α → Shared → Prop} {a : α} {s : Shared} (h : Le Q Qt) (q : Q a s) : Qt a s := h _ _ q
theorem absQ {α : Type} {M : Model} {A : Around} {t : Sem α} {Q : α → Shared → Prop} {E : Value → Shared → Prop} {s : Shared} (h : ∀ Qt : α → Shared → Prop, Le Q Qt → wpAny M A t Qt E s) : wpAny M A t Q E s := h Q fun _ _ q => q
theorem absL {α : Type} {M : Model} {A : Around} {t : Sem α} {Q : α → Shared → Prop} {E : Value → Shared → Prop} {s : Shared} (h : let Qt := Q; wpAny M A t Qt E s) : wpAny M A t Q E s := h
/-- where a walk's row stops -/
inductive Halt : {α : Type} → Sem α → Prop
  | slice {v : Expr} {a b c : Option Expr} {p q : Pos} {env : Env} : Halt (eval (.Subscript v (.Slice a b c p) q) env)
  | loop {t i : Expr} {b o : List Stmt} {p : Pos} {env : Env} : Halt (exec (.For t i b o p) env)
  | whil {t : Expr} {b o : List Stmt} {p : Pos} {env : Env} : Halt (exec (.While t b o p) env)
  | str {op : Operator} {x : Str} {t : Tok} {y : Value} : Halt (binaryOp op (.str x t) y)
  | istr {op : Operator} {x : Str} {t : Tok} {y : Value} : Halt (inplaceOp op (.str x t) y)
  | mul {x y : Value} : Halt (binaryOp .Mult x y)
  | mod {x y : Value} : Halt (binaryOp .Mod x y)
  | fdiv {x y : Value} : Halt (binaryOp .FloorDiv x y)
  | pow {x y : Value} : Halt (binaryOp .Pow x y)
  | fn {f : Addr} {vs : List Value} : Halt (call (.ref f) vs)
  | item {v i : Expr} {x : Str} {t : Tok} {y : Value} : Halt (subscriptTail v i (.str x t) y)
  | key {v i : Expr} {a : Addr} {x : Str} {t : Tok} : Halt (subscriptTail v i (.ref a) (.str x t))
theorem haltT {α : Type} {M : Model} {A : Around} {t : Sem α} {Q : α → Shared → Prop} {E : Value → Shared → Prop} {s : Shared} (_ : Halt t) (h : wpAny M A t Q E s) : wpAny M A t Q E s := h
local macro_rules | `(tactic| walk_at "lf") => `(tactic| ((with_reducible rename FS _ _ _ _ _ _ => fO); (with_reducible first | refine x_int fO ?_ | refine x_str fO ?_ | refine x_add fO ?_ | refine x_iadd fO ?_ | refine x_sub fO ?_ | refine x_isub fO ?_ | refine x_lenStr fO (by assumption) ?_); clear fO; intro _ _ _))
local macro_rules | `(tactic| walk_at "eval Constant int") => `(tactic| walk_at "lf")
local macro_rules | `(tactic| walk_at "eval Constant str") => `(tactic| walk_at "lf")
local macro_rules | `(tactic| walk_at "binaryOp Add int int") => `(tactic| walk_at "lf")
local macro_rules | `(tactic| walk_at "inplaceOp Add int int") => `(tactic| walk_at "lf")
local macro_rules | `(tactic| walk_at "binaryOp Sub int int") => `(tactic| walk_at "lf")
local macro_rules | `(tactic| walk_at "inplaceOp Sub int int") => `(tactic| walk_at "lf")
local macro_rules | `(tactic| walk_at "eval Name") => `(tactic| first | refine x_local (h := ?_) | refine x_global (h := ?_) | refine x_builtin (h := ?_))
local macro_rules | `(tactic| walk_at "loadName") => `(tactic| refine x_load (h := ?_))
local macro_rules | `(tactic| walk_at "storeName") => `(tactic| ((with_reducible rename FS _ _ _ _ _ _ => fO); refine x_store fO ?_; clear fO; intro _ _ _))
local macro_rules | `(tactic| walk_at "callWith ref") => `(tactic| refine x_callWith (h := ?_))
local macro_rules | `(tactic| walk_at "spliced") => `(tactic| first | refine args_cons ?_ | refine args_nil ?_)
local macro_rules | `(tactic| walk_at "evalPart") => `(tactic| first | refine wpAny_evalPart_some ?_ | refine wpAny_evalPart_none ?_)
local macro_rules | `(tactic| walk_at "mem") => `(tactic| first | (with_reducible (repeat first | exact List.Mem.head _ | refine List.Mem.tail _ ?_); done) | (repeat first | exact List.Mem.head _ | refine List.Mem.tail _ ?_))
local macro_rules | `(tactic| walk_at "lst") => `(tactic| first | exact FS.kp (by with_reducible assumption) _ _ (by with_reducible assumption) | with_reducible assumption | exact FS.get (by with_reducible assumption) (by first | with_reducible assumption | walk_at "mem"))
local macro_rules | `(tactic| walk_at "subscriptTail") => `(tactic| ((with_reducible show wpAny _ _ (subscriptTail _ _ (Value.ref _) (Value.int _ _)) _ _ _); refine x_item (by walk_at "lst") (by decide) (by decide) rfl ?_))
local macro_rules | `(tactic| walk_at "tree") => `(tactic| (with_reducible refine (?_ : wpAny _ _ _ _ _ _)))
local macro_rules | `(tactic| walk_at "one") => `(tactic| ((fail_if_success (with_reducible refine haltT (by constructor) ?_)); first | (walk_at "tree"; (with_reducible refine absL ?_); intro _; walk1) | (with_reducible refine And.intro (FS.kp (by with_reducible assumption)) ?_)))
local macro_rules | `(tactic| walk_at "go") => `(tactic| repeat walk_at "one")
local macro_rules | `(tactic| walk_at "goif") => `(tactic| repeat ((fail_if_success (with_reducible show wpAny _ _ (exec (Stmt.If _ _ _ _) _) _ _ _)); walk_at "one"))
local macro_rules | `(tactic| walk_at "call builtin:len") => `(tactic| first | walk_at "lf" | ((with_reducible rename FS _ _ _ _ _ _ => fO); refine x_lenList fO (by walk_at "lst") (by first | assumption | (simp only [List.length_cons]; assumption)) ?_; clear fO; intro _ _ _))
/-! the tree, and how a heap or a ledger bears it -/
inductive T where
  | node (n : Int) (cs : List T)
mutual
inductive Tr (G : Addr → Obj → Prop) : Value → T → Prop
  | mk {a : Addr} {n : Int} {tk : Tok} {vs : List Value} {cs : List T} {e : Nat} : G a (lst (.int n tk :: vs) e) → Trs G vs cs → Tr G (.ref a) (.node n cs)
inductive Trs (G : Addr → Obj → Prop) : List Value → List T → Prop
  | nil : Trs G [] []
  | cons {v : Value} {t : T} {vs : List Value} {ts : List T} : Tr G v t → Trs G vs ts → Trs G (v :: vs) (t :: ts)
end
mutual
theorem Tr.mono {G G' : Addr → Obj → Prop} (h : ∀ a o, G a o → G' a o) : ∀ {v : Value} {t : T}, Tr G v t → Tr G' v t
  | _, _, .mk g r => .mk (h _ _ g) (Trs.mono h r)
theorem Trs.mono {G G' : Addr → Obj → Prop} (h : ∀ a o, G a o → G' a o) : ∀ {vs : List Value} {ts : List T}, Trs G vs ts → Trs G' vs ts
  | _, _, .nil => .nil
  | _, _, .cons a r => .cons (Tr.mono h a) (Trs.mono h r)
end
theorem Trs.length {G : Addr → Obj → Prop} : ∀ {vs : List Value} {ts : List T}, Trs G vs ts → vs.length = ts.length
  | _, _, .nil => rfl
  | _, _, .cons _ r => congrArg (· + 1) r.length
theorem Trs.append {G : Addr → Obj → Prop} : ∀ {vs ws : List Value} {ts us : List T}, Trs G vs ts → Trs G ws us → Trs G (vs ++ ws) (ts ++ us)
  | _, _, _, _, .nil, b => b
  | _, _, _, _, .cons a r, b => .cons a (r.append b)
abbrev TreeAt (h : Heap) : Value → T → Prop := Tr fun a o => h.get? a = some o
abbrev TreeIn (M : List (Addr × Obj)) : Value → T → Prop := Tr fun a o => (a, o) ∈ M
abbrev TreesAt (h : Heap) : List Value → List T → Prop := Trs fun a o => h.get? a = some o
abbrev TreesIn (M : List (Addr × Obj)) : List Value → List T → Prop := Trs fun a o => (a, o) ∈ M
theorem Tr.kp {h h' : Heap} {v : Value} {t : T} (x : TreeAt h v t) (k : Kp h h') : TreeAt h' v t := x.mono k
theorem Trs.kp {h h' : Heap} {v : List Value} {t : List T} (x : TreesAt h v t) (k : Kp h h') : TreesAt h' v t := x.mono k

noncomputable def menu : List Int := [16, 35, 46, 22, 27, 23, 52, 51, 33, 44, 28, 54]
mutual
/-- the operators are of the menu -/
noncomputable def T.ok : T → Prop
  | .node n cs => n ∈ menu ∧ T.oks cs
noncomputable def T.oks : List T → Prop
  | [] => True
  | c :: cs => c.ok ∧ T.oks cs
end
mutual
noncomputable def T.size : T → Nat
  | .node _ cs => T.sizes cs + 1
noncomputable def T.sizes : List T → Nat
  | [] => 0
  | c :: cs => c.size + T.sizes cs
end
noncomputable def sgn (n : Int) : Str := if n = 16 then "*" else if n = 35 then "**" else if n = 46 then "**=" else if n = 22 then "=" else if n = 27 then "==" else if n = 23 then "." else if n = 52 then "..." else
  if n = 51 then "->" else if n = 33 then "<<" else if n = 44 then "<<=" else if n = 28 then "!=" else "!"
theorem Trs.get {G : Addr → Obj → Prop} : ∀ {vs : List Value} {ts : List T}, Trs G vs ts → ∀ {i : Nat} {v : Value}, vs[i]? = some v → ∃ t, ts[i]? = some t ∧ Tr G v t
  | _, _, .cons a _, 0, _, h => by simp at h; subst h; exact ⟨_, rfl, a⟩
  | _, _, .cons _ r, i + 1, _, h => r.get (by simpa using h)
theorem T.oks_get : ∀ {cs : List T} {i : Nat} {c : T}, T.oks cs → cs[i]? = some c → c.ok
  | _ :: _, 0, _, h, e => by simp at e; subst e; exact h.1
  | _ :: _, i + 1, _, h, e => T.oks_get (i := i) h.2 (by simpa using e)
theorem T.sizes_get : ∀ {cs : List T} {i : Nat} {c : T}, cs[i]? = some c → c.size ≤ T.sizes cs
  | _ :: _, 0, _, e => by simp at e; subst e; simp [T.sizes]
  | _ :: cs, i + 1, _, e => by have := T.sizes_get (cs := cs) (i := i) (by simpa using e); simp only [T.sizes]; lia
theorem T.sizes_length : ∀ cs : List T, cs.length ≤ T.sizes cs
  | [] => Nat.le_refl _
  | .node _ _ :: cs => by have := T.sizes_length cs; simp only [T.sizes, T.size, List.length_cons]; lia
theorem flat_str {v : Value} {x : Str} (h : PyProof.V.Flat v (.str x)) : ∃ t, v = .str x t := by
  obtain ⟨t, e, _⟩ := reads_str_inv (h default)
  exact ⟨t, e⟩
theorem flat_int {v : Value} {x : Int} (h : PyProof.V.Flat v (.int x)) : ∃ t, v = .int x t := by
  obtain ⟨t, e, _⟩ := reads_int_inv (h default)
  exact ⟨t, e⟩
/-! a dict written with ints for keys -/
noncomputable abbrev edict : Obj := { cls := .type "dict", data := .dict #[] }
theorem edict_is {prog : Program} {w : World} {K : Type} [DecidableEq K] (knd : KeyKind prog w K) : edict.IsDictOf knd [] := by
  obtain ⟨o, ho, hd⟩ := Heap.dictOf_iff.mp (Heap.DictOf.new (knd := knd) (default : Heap))
  have e : ((default : Heap).push edict).get? (default : Heap).objs.size = some edict := Heap.get?_push_size _ rfl
  rw [e] at ho
  cases ho
  exact hd
theorem x_dictInt {prog : Program} {w : World} {A : Around} {E : Value → Shared → Prop} {g s : Shared} {L : Addr} {h₀ : Heap} {m : Str → Option Value} {M : List (Addr × Obj)} {env : Env} {keys : List (Option Expr)} {values : List Expr} {pos : Pos} {Q : Value → Shared → Prop}
    (F : FS g h₀ L m M s) (hbig : h₀.NoLimit) (hall : keys.all (·.isSome) = true) (hl : keys.length = values.length) (h0 : keys ≠ []) (hlen : keys.length ≤ 15)
    (h : ∀ d s1, FS g h₀ L m ((d, edict) :: M) s1 → wpAny (model prog w) A (evalPairs (pairTrees keys values env pos)) (fun vs s₁ => FS g h₀ L m ((d, edict) :: M) s₁ ∧ allIntKeys vs = true ∧ ((intKeyPairs vs).map (·.1)).Nodup ∧ allFlat vs = true ∧
      ∀ o s', FS g h₀ L m ((d, o) :: M) s' → IntTab prog w s'.heap d (intData vs) → Q (.ref d) s') E s1) : wpAny (model prog w) A (eval (.Dict keys values pos) env) Q E s := by
  refine Dict_made (knd := intKind prog w) F.fr hall hl h0 hlen fun _ => wpAny_mono (h _ _ (F.push edict)) (fun vs s₁ hv => ?_) fun _ _ x => x
  obtain ⟨F1, hk, hn, hv, k⟩ := hv
  refine display_done_int hk hn (Heap.dictOf_iff.mpr ⟨edict, F1.get (.head _), edict_is _⟩) fun h' hmm hs => ?_
  obtain ⟨o', ho', hd'⟩ := Heap.dictOf_iff.mp hmm
  have F2 := F1.turn (tk := s₁.toks + vs.length) ho' hs (Nat.lt_of_lt_of_le F1.tp (Nat.le_add_right _ _))
  exact k o' _ F2 (TabAt.ofObj (F.fr.notModules (modules_low hbig)) ho' hd' (flatPairs_int vs hk hv))

set_option maxHeartbeats 4000000 in
theorem sign_spec {prog : Program} {w : World} {A : Around} {E : Value → Shared → Prop} {s : Shared} {mg mb : Str → Option Value} {f : Addr} {n : Int} {t : Tok} {Q : Value → Shared → Prop}
    (B : Base prog w mg mb s.heap) (hf : FnAt s.heap "_law_sign" (stA 66) f) (hroom : A.depth < recursionLimit) (hn : n ∈ menu)
    (h : ∀ s' t', Sm s s' → Kp s.heap s'.heap → Q (.str (sgn n) t') s') : wpAny (model prog w) A (call (.ref f) [.int n t]) Q E s := by
  refine x_call [(Str.ofString "number", Value.int n t)] hf B hroom (List.cons_ne_nil _ _) (fun _ _ _ => rfl) rfl ?_
  intro s' L' cd _ F
  with_unfolding_all refine wpAny_execs_cons ?_
  walk1
  walk1
  with_reducible refine x_dictInt F B.nolimit (by with_unfolding_all rfl) (by with_unfolding_all rfl) (List.cons_ne_nil _ _) (by with_unfolding_all decide) ?_
  intro d s1 F1
  clear F
  repeat walk1
  · assumption
  refine ⟨rfl, of_decide_eq_true rfl, rfl, fun o s2 F2 T2 => ?_⟩
  walk1
  refine item_tab_any (dv := .str (sgn n)) PyProof.V.same_int (intKind_is prog w n t) T2 ?_ ?_ (by with_unfolding_all rfl)
  · simp only [menu, List.mem_cons, List.not_mem_nil, or_false] at hn
    rcases hn with rfl | rfl | rfl | rfl | rfl | rfl | rfl | rfl | rfl | rfl | rfl | rfl <;> rfl
  · intro v hv
    obtain ⟨t', rfl⟩ := flat_str hv
    exact h _ _ F2.sm F2.kp
/-! loops -/
section
variable {prog : Program} {w : World} {A : Around} {E : Value → Shared → Prop} {g s s' : Shared} {name : Str} {scope : Scope} {L a : Addr} {cd : Value} {h₀ : Heap} {m mg mb : Str → Option Value} {M M' : List (Addr × Obj)}
theorem FS.turnK {d : Addr} {o o' : Obj} {h' : Heap} {tk : Nat} (F : FS g h₀ L m (M ++ [(d, o)]) s) (ho : h'.get? d = some o') (hs : ∀ b x, b ≠ d → s.heap.get? b = some x → h'.get? b = some x) (tp : 0 < tk) : FS g h₀ L m (M ++ [(d, o')]) { s with heap := h', toks := tk } := by
  have hd := F.ns (d, o) (List.mem_append_right _ (.head _))
  have hn := List.nodup_append.mp (by have := F.nd; rw [List.map_append] at this; exact this : ((M.map (·.1)) ++ [d]).Nodup)
  refine ⟨F.sm, ?_, fun p hp => ?_, ?_, tp⟩
  · refine ⟨F.fr.ns.at' fun x e => hs _ x (Ne.symm hd.2.1) e, fun b x e => hs b x (fun hb => ?_) (F.fr.keep b x e), F.fr.above⟩
    subst hb
    rw [hd.2.2] at e
    cases e
  · rcases List.mem_append.mp hp with hp | hp
    · have h1 := F.ns p (List.mem_append_left _ hp)
      exact ⟨hs _ _ (fun e => hn.2.2 _ (List.mem_map.mpr ⟨p, hp, rfl⟩) d (by simp) e) h1.1, h1.2⟩
    · rw [List.mem_singleton.mp hp]
      exact ⟨ho, hd.2⟩
  · have := F.nd
    rw [List.map_append] at this ⊢
    exact this
theorem FS.loseK {d : Addr} {o : Obj} {h' : Heap} {tk : Nat} (F : FS g h₀ L m (M ++ [(d, o)]) s) (hs : ∀ b x, b ≠ d → s.heap.get? b = some x → h'.get? b = some x) (tp : 0 < tk) : FS g h₀ L m M { s with heap := h', toks := tk } := by
  have hd := F.ns (d, o) (List.mem_append_right _ (.head _))
  have hn := List.nodup_append.mp (by have := F.nd; rw [List.map_append] at this; exact this : ((M.map (·.1)) ++ [d]).Nodup)
  refine ⟨F.sm, ?_, fun p hp => ?_, hn.1, tp⟩
  · refine ⟨F.fr.ns.at' fun x e => hs _ x (Ne.symm hd.2.1) e, fun b x e => hs b x (fun hb => ?_) (F.fr.keep b x e), F.fr.above⟩
    subst hb
    rw [hd.2.2] at e
    cases e
  · have h1 := F.ns p (List.mem_append_left _ hp)
    exact ⟨hs _ _ (fun e => hn.2.2 _ (List.mem_map.mpr ⟨p, hp, rfl⟩) d (by simp) e) h1.1, h1.2⟩

theorem x_loop {R : Result → Shared → Prop} {x : Str} {px : Pos} {body : List Stmt} {I : Addr} {o₀ : Obj} {fp : List Addr} {n : Nat} {P : Nat → Value → Prop} {St : Nat → Heap → Prop} (W : Walks prog w A I fp [I] n P St)
    (J : Nat → (Str → Option Value) → List (Addr × Obj) → Prop)
    (hI : ∀ i h, St i h → ∃ o, h.get? I = some o)
    (hfix : ∀ b ∈ fp, b = I ∨ ∃ o, ∀ i m₁ M₁ Z s₁, J i m₁ M₁ → FS g h₀ L m₁ (M₁ ++ [Z]) s₁ → s₁.heap.get? b = some o)
    (F : FS g h₀ L m (M ++ [(I, o₀)]) s) (hst : St 0 s.heap) (hJ : J 0 m M)
    (turn : ∀ i v m₁ M₁ Z s₁, i < n → P i v → J i m₁ M₁ → FS g h₀ L (fun y => if y = x then some v else m₁ y) (M₁ ++ [Z]) s₁ →
      wpAny (model prog w) A (execs body (envOf name scope L a cd)) (fun f s₂ => match f with
        | .next | .cont => ∃ m₂ M₂, FS g h₀ L m₂ (M₂ ++ [Z]) s₂ ∧ J (i + 1) m₂ M₂
        | .brk => R (.ok .next) s₂
        | .ret v => R (.ok (.ret v)) s₂) (fun _ _ => False) s₁)
    (done : ∀ m₁ M₁ s₁, J n m₁ M₁ → FS g h₀ L m₁ M₁ s₁ → R (.ok .next) s₁)
    (hk : scope.kind = .function := by rfl) (hl : (envOf name scope L a cd).kindOf x = some .local := by rfl) :
    codeAny (model prog w) A (.forLoop (.Name x px) (.ref I) body [] (envOf name scope L a cd)) R s := by
  have stay : ∀ {i m₁ M₁ o s₁ m₂ M₂ s₂} (j : Nat), St j s₁.heap → J i m₁ M₁ → FS g h₀ L m₁ (M₁ ++ [(I, o)]) s₁ → ∀ {i₂}, J i₂ m₂ M₂ → FS g h₀ L m₂ (M₂ ++ [(I, o)]) s₂ → St j s₂.heap := by
    intro i m₁ M₁ o s₁ m₂ M₂ s₂ j st j1 F1 i₂ j2 F2
    refine W.frame _ _ _ st fun b hb x e => ?_
    rcases hfix b hb with rfl | ⟨o', ho'⟩
    · rw [F1.get (List.mem_append_right _ (.head _))] at e
      cases e
      exact F2.get (List.mem_append_right _ (.head _))
    · rw [ho' _ _ _ _ _ j1 F1] at e
      cases e
      exact ho' _ _ _ _ _ j2 F2
  refine codeAny_forLoop (fun k s' => ∃ i m₁ M₁ oI, FS g h₀ L m₁ (M₁ ++ [(I, oI)]) s' ∧ St i s'.heap ∧ J i m₁ M₁ ∧ i ≤ n ∧ k = n + 1 - i) ?_ (n + 1) ⟨0, m, M, o₀, F, hst, hJ, Nat.zero_le _, rfl⟩
  rintro k s₁ ⟨i, m₁, M₁, oI, F₁, st₁, j₁, hi, rfl⟩
  by_cases hlt : i < n
  · refine tpos F₁.tp (W.item i _ _ _ hlt st₁ fun v h₁ tk₁ hP st₂ hk₁ htp => ?_)
    obtain ⟨o₂, ho₂⟩ := hI _ _ st₂
    have F₂ := F₁.turnK (tk := tk₁) ho₂ (fun b x hb e => hk₁ b x (by simpa using hb) e) htp
    refine wpAny_assign_Name (stN F₂.fr F₂.ns (fun h' F' N' => ?_) hk hl)
    have F₃ : FS g h₀ L (fun y => if y = x then some v else m₁ y) (M₁ ++ [(I, o₂)]) { s₁ with heap := h', toks := tk₁ + 1 } := ⟨F₂.sm, F', N', F₂.nd, Nat.succ_pos _⟩
    refine wpAny_mono (turn i v m₁ M₁ (I, o₂) _ hlt hP j₁ F₃) (fun f s₂ h₂ => ?_) fun _ _ e => e.elim
    have next : (∃ m₂ M₂, FS g h₀ L m₂ (M₂ ++ [(I, o₂)]) s₂ ∧ J (i + 1) m₂ M₂) → ∃ m, m < n + 1 - i ∧ ∃ i_1 m₁ M₁ oI, FS g h₀ L m₁ (M₁ ++ [(I, oI)]) s₂ ∧ St i_1 s₂.heap ∧ J i_1 m₁ M₁ ∧ i_1 ≤ n ∧ m = n + 1 - i_1 := by
      rintro ⟨m₂, M₂, G₂, j₂⟩
      exact ⟨n + 1 - (i + 1), by lia, i + 1, m₂, M₂, o₂, G₂, stay (i + 1) st₂ j₁ F₂ j₂ G₂, j₂, hlt, rfl⟩
    cases f with
    | next => exact next h₂
    | cont => exact next h₂
    | brk => exact h₂
    | ret v => exact h₂
  · have hin : i = n := by lia
    subst hin
    refine tpos F₁.tp (W.done _ _ _ st₁ fun h₁ tk₁ hk₁ htp => wpAny_execs_nil ?_)
    exact done m₁ M₁ _ j₁ (F₁.loseK (tk := tk₁) (fun b x hb e => hk₁ b x (by simpa using hb) e) htp)

/-- a for over a list that stands unturned -/
theorem x_forList {x : Str} {px pos : Pos} {iter : Expr} {body : List Stmt} {Q : Flow → Shared → Prop} (_F : FS g h₀ L m M s) (hh : A.handled = none)
    (hit : wpAny (model prog w) A (eval iter (envOf name scope L a cd)) (fun xv s₁ => ∃ l vs n m M, ∃ J : Nat → (Str → Option Value) → List (Addr × Obj) → Prop, xv = .ref l ∧ FS g h₀ L m M s₁ ∧ J 0 m M ∧ s₁.heap.get? l = some (lst vs n) ∧
      (∀ i m₁ M₁ Z s₁, J i m₁ M₁ → FS g h₀ L m₁ (M₁ ++ [Z]) s₁ → s₁.heap.get? l = some (lst vs n)) ∧
      (∀ i v m₁ M₁ Z s₁, vs[i]? = some v → J i m₁ M₁ → FS g h₀ L (fun y => if y = x then some v else m₁ y) (M₁ ++ [Z]) s₁ →
        wpAny (model prog w) A (execs body (envOf name scope L a cd)) (fun f s₂ => match f with
          | .next | .cont => ∃ m₂ M₂, FS g h₀ L m₂ (M₂ ++ [Z]) s₂ ∧ J (i + 1) m₂ M₂
          | .brk => Q .next s₂
          | .ret v => Q (.ret v) s₂) (fun _ _ => False) s₁) ∧
      (∀ m₁ M₁ s₁, J vs.length m₁ M₁ → FS g h₀ L m₁ M₁ s₁ → Q .next s₁)) E s)
    (hs : ∀ x, foldedSetIterable iter (envOf name scope L a cd) x = pure x := by intro _; rfl)
    (hk : scope.kind = .function := by rfl) (hl : (envOf name scope L a cd).kindOf x = some .local := by rfl) :
    wpAny (model prog w) A (exec (.For (.Name x px) iter body [] pos) (envOf name scope L a cd)) Q E s := by
  refine wpAny_For (wpAny_mono hit (fun xv s₁ h₁ => ?_) fun _ _ e => e) hs
  obtain ⟨l, vs, n, m, M, J, rfl, F, hJ, hlst, keep, turn, done⟩ := h₁
  refine wpAny_pyIter_list (isList_of hlst) ?_
  have F1 := (F.push { cls := .type "list_iterator", data := .fields #[.ref l, .int 0 0] }).perm (List.perm_append_singleton _ _).symm
  have hne : l ≠ s₁.heap.objs.size := Nat.ne_of_lt (Heap.lt_size hlst)
  have W := Walks.list (prog := prog) (w := w) hh s₁.heap.objs.size l hne vs.toArray
  refine x_loop W J (fun i h st => let ⟨o, ho, _⟩ := st.1; ⟨o, ho⟩) ?_ F1 ⟨⟨_, Heap.get?_push_size _ rfl, rfl, rfl⟩, isList_of (Heap.get?_push_of_some _ hlst)⟩ hJ ?_ ?_ hk hl
  · intro b hb
    rcases List.mem_cons.mp hb with rfl | hb
    · exact .inl rfl
    · exact .inr ⟨_, fun i m₁ M₁ Z s₁ j F => (List.mem_singleton.mp hb) ▸ keep i m₁ M₁ Z s₁ j F⟩
  · intro i v m₁ M₁ Z s₂ _ hP j F2
    exact turn i v m₁ M₁ Z s₂ (by simpa using hP) j F2
  · intro m₁ M₁ s₂ j F2
    exact done m₁ M₁ s₂ (by simpa using j) F2
end
/-! the quoted writing -/
noncomputable def sOf (l : List Nat) : Str := ⟨l.toArray⟩
theorem sOf_cat (a b : List Nat) : sOf a ++ sOf b = sOf (a ++ b) := by
  show (⟨a.toArray ++ b.toArray⟩ : Str) = ⟨(a ++ b).toArray⟩
  simp
theorem sOf_len (a : List Nat) : (sOf a).length = a.length := by show a.toArray.size = _; simp
theorem sOf_list (a : List Nat) : (sOf a).cps.toList = a := rfl
noncomputable def sgnL (n : Int) : List Nat := (sgn n).cps.toList
theorem sgn_sOf (n : Int) : sgn n = sOf (sgnL n) := rfl
mutual
noncomputable def qL : T → List Nat
  | .node n cs => sgnL n ++ qLs cs
noncomputable def qLs : List T → List Nat
  | [] => []
  | c :: cs => 32 :: 34 :: (StrLaws.dbl 34 (qL c) ++ 34 :: qLs cs)
end
theorem qLs_append : ∀ a b : List T, qLs (a ++ b) = qLs a ++ qLs b
  | [], b => rfl
  | c :: cs, b => by simp [qLs, qLs_append cs b]

theorem dbl_len (c : Nat) : ∀ l : List Nat, l.length ≤ (StrLaws.dbl c l).length ∧ (StrLaws.dbl c l).length ≤ 2 * l.length
  | [] => ⟨Nat.le_refl _, Nat.le_refl _⟩
  | k :: r => by
    have := dbl_len c r
    unfold StrLaws.dbl
    split <;> simp only [List.length_cons] <;> lia
theorem qLs_at {cs : List T} {i : Nat} {c : T} (e : cs[i]? = some c) : qLs (cs.take (i + 1)) = qLs (cs.take i) ++ 32 :: 34 :: (StrLaws.dbl 34 (qL c) ++ [34]) := by
  rw [List.take_add_one, e, qLs_append]
  simp [qLs]
theorem qLs_take (cs : List T) (i : Nat) : (qLs (cs.take i)).length ≤ (qLs cs).length := by
  have e := congrArg (fun l => (qLs l).length) (List.take_append_drop i cs)
  simp only [qLs_append, List.length_append] at e
  lia
theorem slice_tail (v : Value) (vs : List Value) : (slicePick (v :: vs).toArray (some 1) none none).toList = vs := slice_from (v :: vs) 1

set_option maxHeartbeats 4000000 in
theorem quoted_spec {prog : Program} {w : World} {mg mb : Str → Option Value} {f : Addr} : ∀ (k : Nat) (t : T), t.size ≤ k → t.ok → (qL t).length ≤ 100000 →
    ∀ (A : Around) (E : Value → Shared → Prop) (s : Shared) (v : Value) (Q : Value → Shared → Prop), A.handled = none → A.depth + k + 1 < recursionLimit → Base prog w mg mb s.heap → mg "_law_quoted" = some (.ref f) → FnAt s.heap "_law_quoted" (stA 68) f → TreeAt s.heap v t →
    (∀ s' t', Sm s s' → Kp s.heap s'.heap → Q (.str (sOf (qL t)) t') s') → wpAny (model prog w) A (call (.ref f) [v]) Q E s
  | 0, .node _ _, h, _, _ => by simp [T.size] at h
  | k + 1, .node n cs, hk, hok, hlen => by
    intro A E s v Q hA hD B eq hf hT h
    cases hT with | @mk a _ tk vs _ e hg hTs =>
    refine x_call [(Str.ofString "node", Value.ref a)] hf B (by lia) (List.cons_ne_nil _ _) (fun _ _ _ => rfl) rfl ?_
    intro s0 L cd _ F
    obtain ⟨aS, eS, fS⟩ : ∃ a, mg "_law_sign" = some (.ref a) ∧ FnAt s.heap "_law_sign" (stA 66) a := B.fn 5 rfl
    with_unfolding_all refine wpAny_execs_cons ?_
    walk_at "go"
    have F := ‹FS _ _ _ _ _ _›
    refine tpos F.tp (sign_spec (B.keeps F.kp) (fS.keeps F.kp) (by show A.depth + 1 < _; lia) hok.1 fun s1 t1 S1 K1 P1 => ?_)
    replace F := F.kept K1 S1 P1
    clear S1 K1 P1
    walk_at "go"
    have hl0 : (sgnL n).length + (qLs cs).length ≤ 100000 := by simpa [qL] using hlen
    have hsz : cs.length ≤ 100000 := by have := T.sizes_length cs; simp only [T.size] at hk; rw [rl_lim] at hD; lia
    have hvs : vs.length = cs.length := hTs.length
    have hA' : (A.deeper (envOf "_law_quoted" (dScope (stA 68)) L f cd)).handled = none := hA
    have F := ‹FS _ _ _ _ _ _›
    refine x_forList F hA' (x_sliceList F ?_)
    walk_at "go"
    have F := ‹FS _ _ _ _ _ _›
    refine ⟨a, _, _, some 1, none, _, _, rfl, F, F.kp _ _ hg, by rw [sizeLine_eq, List.length_cons]; lia, .int _ _, .none, fun s2 D F2 => ?_⟩
    rw [slice_tail] at F2
    refine ⟨D, vs, 0, _, _, fun i m₁ M₁ => (∃ tx, m₁ "text" = some (.str (sOf (sgnL n ++ qLs (cs.take i))) tx)) ∧ M₁ = [(D, lst vs)], rfl, F2, ⟨⟨t1, ?_⟩, rfl⟩, F2.get (.head _), ?_, ?_, ?_⟩
    · rw [List.take_zero]
      simp only [qLs, List.append_nil]
      rfl
    · rintro i m₁ M₁ Z s₁ ⟨_, rfl⟩ F
      exact F.get (.head _)
    · rintro i v m₁ M₁ Z s₁ hv ⟨⟨tx, htx⟩, rfl⟩ F
      obtain ⟨c, hc, hTc⟩ := hTs.get hv
      have e1 := qLs_at hc
      have e2 := qLs_take cs (i + 1)
      have e3 := dbl_len 34 (qL c)
      have e4 := T.sizes_get hc
      rw [e1] at e2
      simp only [List.length_append, List.length_cons, List.length_nil] at e2
      refine wpAny_execs_cons ?_
      walk_at "go"
      have F := ‹FS _ _ _ _ _ _›
      refine tpos F.tp (quoted_spec k c (by simp only [T.size] at hk; lia) (T.oks_get hok.2 hc) (by lia) _ _ _ _ _ hA' (by show A.depth + 1 + k + 1 < _; lia) (B.keeps F.kp) eq (hf.keeps F.kp) (Tr.kp hTc F.kp) fun s3 t3 S3 K3 P3 => ?_)
      replace F := F.kept K3 S3 P3
      clear S3 K3
      walk1
      walk1
      walk1
      refine x_strT F fun s4 E4 F4 => ?_
      walk1
      refine x_strT F4 fun s5 E5 F5 => ?_
      walk1
      refine x_double F5 (c := 34) (by decide +kernel) (by decide +kernel) (Nat.ne_of_gt P3) E4 (by rw [sOf_len]; lia) fun s6 t6 F6 => ?_
      refine x_cat F6 (by rw [sizeLine_eq, show (⟨(StrLaws.dbl 34 (sOf (qL c)).cps.toList).toArray⟩ : Str) = sOf (StrLaws.dbl 34 (qL c)) from rfl, sOf_len, show (Str.ofString " \"").length = 2 from by decide +kernel]; lia) fun s7 t7 F7 => ?_
      refine x_str F7 fun s8 t8 F8 => ?_
      have q1 : Str.ofString " \"" = sOf [32, 34] := by decide +kernel
      have q2 : Str.ofString "\"" = sOf [34] := by decide +kernel
      rw [q1, q2, show (⟨(StrLaws.dbl 34 (sOf (qL c)).cps.toList).toArray⟩ : Str) = sOf (StrLaws.dbl 34 (qL c)) from rfl, sOf_cat]
      refine x_cat F8 (by rw [sizeLine_eq, sOf_len, sOf_len]; simp only [List.length_append, List.length_cons, List.length_nil]; lia) fun s9 t9 F9 => ?_
      rw [sOf_cat]
      refine x_icat F9 (by rw [sizeLine_eq, sOf_len, sOf_len]; simp only [List.length_append, List.length_cons, List.length_nil]; lia) fun s10 t10 F10 => ?_
      walk1
      walk1
      refine ⟨_, [(D, lst vs)], ‹_›, ⟨t10, congrArg (fun z => some (Value.str z t10)) ?_⟩, rfl⟩
      rw [sOf_cat, e1]
      simp
    · rintro m₁ M₁ s₁ ⟨⟨tx, htx⟩, rfl⟩ F
      walk1
      walk1
      walk1
      rw [hvs, List.take_length]
      exact h _ _ F.sm F.kp
/-! texts: cuts, signs, places -/
theorem sl_idx (a b n : Nat) : Builtin.Str.strSliceIndices (some (a : Int)) (some (b : Int)) 1 n = (List.range (min b n - min a n)).map (min a n + ·) := by
  have h1 : ¬ ((a : Int) < 0) := by lia
  have h2 : ¬ ((b : Int) < 0) := by lia
  simp only [Builtin.Str.strSliceIndices, h1, h2, if_false, show (1 : Int) > 0 by decide, if_true]
  rw [← sliceRange_one]
  congr 1 <;> lia
theorem sl_idx_from (a n : Nat) : Builtin.Str.strSliceIndices (some (a : Int)) none 1 n = (List.range (n - min a n)).map (min a n + ·) := by
  have h1 : ¬ ((a : Int) < 0) := by lia
  simp only [Builtin.Str.strSliceIndices, h1, if_false, show (1 : Int) > 0 by decide, if_true]
  rw [← sliceRange_one]
  congr 1; lia
theorem sl_idx_upto (b n : Nat) : Builtin.Str.strSliceIndices none (some (b : Int)) 1 n = (List.range (min b n - 0)).map (0 + ·) := by
  have h2 : ¬ ((b : Int) < 0) := by lia
  simp only [Builtin.Str.strSliceIndices, h2, if_false, show (1 : Int) > 0 by decide, if_true]
  rw [← sliceRange_one]
  congr 1; lia
theorem sl_text (l : List Nat) (lo hi : Option Int) (a k : Nat) (h : Builtin.Str.strSliceIndices lo hi 1 l.length = (List.range k).map (a + ·)) (hk : a + k ≤ l.length) : Txt.slice (sOf l) lo hi = sOf ((l.drop a).take k) := by
  unfold Txt.slice
  have e : (sOf l).length = l.length := sOf_len l
  rw [e, h]
  split
  · rename_i hc
    have : k = l.length := by simpa using hc
    have ha : a = 0 := by lia
    subst this ha
    simp
  · show (⟨(List.filterMap (fun i => l.toArray[i]?) _).toArray⟩ : Str) = _
    rw [pick_run]
    rfl
theorem sl_from (l : List Nat) (a : Nat) : Txt.slice (sOf l) (some (a : Int)) none = sOf (l.drop a) := by
  rw [sl_text l _ _ _ _ (sl_idx_from a l.length) (by lia), List.take_of_length_le (by simp)]
  by_cases h : a ≤ l.length
  · rw [Nat.min_eq_left h]
  · rw [Nat.min_eq_right (by lia), List.drop_of_length_le (Nat.le_refl _), List.drop_of_length_le (by lia)]
theorem sl_upto (l : List Nat) (b : Nat) : Txt.slice (sOf l) none (some (b : Int)) = sOf (l.take b) := by
  rw [sl_text l _ _ _ _ (sl_idx_upto b l.length) (by lia), List.drop_zero, Nat.sub_zero]
  by_cases h : b ≤ l.length
  · rw [Nat.min_eq_left h]
  · rw [Nat.min_eq_right (by lia), List.take_of_length_le (Nat.le_refl _), List.take_of_length_le (by lia)]
theorem sl_mid (l : List Nat) (a b : Nat) (h : b ≤ l.length) : Txt.slice (sOf l) (some (a : Int)) (some (b : Int)) = sOf ((l.drop a).take (b - a)) := by
  by_cases h2 : a ≤ b
  · rw [sl_text l _ _ _ _ (sl_idx a b l.length) (by lia), Nat.min_eq_left h, Nat.min_eq_left (by lia)]
  · rw [sl_text l _ _ _ _ (sl_idx a b l.length) (by lia), show min b l.length - min a l.length = 0 by lia, show b - a = 0 by lia]
    simp
theorem item_sOf (l : List Nat) (i : Nat) (c : Nat) (h : l[i]? = some c) : Txt.charAt (sOf l) (i : Int) = some c := by
  have hi : i < l.length := (List.getElem?_eq_some_iff.mp h).1
  unfold Txt.charAt
  rw [sOf_len, StrLaws.seqIndex_nonneg (by lia) (by lia)]
  simpa [sOf] using h
theorem at_one (l : List Nat) (c i : Nat) : StrLaws.At (sOf l) (sOf [c]) (sOf l).length i ↔ l[i]? = some c := StrLaws.subAt_one (sOf l) c i
theorem find_at (a b : List Nat) (c : Nat) (h : c ∉ a) : Txt.find (sOf (a ++ c :: b)) (sOf [c]) = a.length := by
  have hat : (a ++ c :: b)[a.length]? = some c := by simp
  rcases find_whole (sOf (a ++ c :: b)) (sOf [c]) with ⟨_, h2⟩ | ⟨i, e, h1, h2⟩
  · exact absurd ((at_one _ _ _).mpr hat) (h2 a.length)
  · rw [e]
    rcases Nat.lt_trichotomy i a.length with hl | hl | hl
    · have := (at_one _ _ _).mp h1
      rw [List.getElem?_append_left hl] at this
      exact absurd (List.mem_of_getElem? this) h
    · rw [hl]
    · exact absurd ((at_one _ _ _).mpr hat) (h2 _ hl)
theorem find_none (a : List Nat) (c : Nat) (h : c ∉ a) : Txt.find (sOf a) (sOf [c]) = -1 := by
  rcases find_whole (sOf a) (sOf [c]) with ⟨e, _⟩ | ⟨i, _, h1, _⟩
  · exact e
  · exact absurd (List.mem_of_getElem? ((at_one _ _ _).mp h1)) h
theorem post_val_or_made2 {s : Shared} {c : Prop} [Decidable c] {y z : Str} {t : Tok} {Q : Value → Shared → Prop} (hp : 0 < s.toks) (hz : ¬ c → z.length ≤ sizeLine)
    (h : ∀ t' k, 0 < k → Q (.str (if c then y else z) t') { s with toks := k }) : (if c then Made.val (.str y t) else Made.str z).post Q s := by
  by_cases hc : c
  · rw [if_pos hc]; have h' := h t s.toks hp; rw [if_pos hc] at h'; exact h'
  · rw [if_neg hc]; have h' := h s.toks (s.toks + 1) (Nat.succ_pos _); rw [if_neg hc] at h'; exact ⟨hz hc, h'⟩
section
variable {prog : Program} {w : World} {A : Around} {E : Value → Shared → Prop} {g s s' : Shared} {name : Str} {scope : Scope} {L a : Addr} {cd : Value} {h₀ : Heap} {m mg mb : Str → Option Value} {M M' : List (Addr × Obj)}
theorem x_sliceStr {env : Env} {value : Expr} {lower upper : Option Expr} {p pos : Pos} {Q : Value → Shared → Prop} (_F : FS g h₀ L m M s)
    (h : wpAny (model prog w) A (eval value env) (fun o s₁ => wpAny (model prog w) A (evalPart lower env) (fun vl s₂ => wpAny (model prog w) A (evalPart upper env) (fun vu s₃ =>
      ∃ x t l u m M, o = .str x t ∧ vl = partValue l ∧ vu = partValue u ∧ x.length ≤ sizeLine ∧ FS g h₀ L m M s₃ ∧
        ∀ s' t', FS g h₀ L m M s' → Q (.str (Txt.slice x (l.map (·.1)) (u.map (·.1))) t') s') E s₂) E s₁) E s)
    (ht : ∀ o r, letTemporaryGo value o r = pure () := by intro _ _; rfl) :
    wpAny (model prog w) A (eval (.Subscript value (.Slice lower upper none p) pos) env) Q E s := by
  refine wpAny_Subscript_str_slice (wpAny_mono h (fun o s₁ h₁ => wpAny_mono h₁ (fun vl s₂ h₂ => wpAny_mono h₂ (fun vu s₃ h₃ => ?_) fun _ _ e => e) fun _ _ e => e) fun _ _ e => e) ht
  obtain ⟨x, t, l, u, m, M, rfl, rfl, rfl, hsz, F, k⟩ := h₃
  refine ⟨x, t, l, u, rfl, rfl, rfl, ?_⟩
  have F1 := (F.push { cls := .type "slice", data := .fields #[partValue l, partValue u, .none] }).drop
  exact post_val_or_made2 F1.tp (fun _ => Nat.le_trans (by show (List.filterMap _ _).toArray.size ≤ _; rw [List.size_toArray]; exact Nat.le_trans (List.length_filterMap_le _ _) (by unfold slicePicked; exact sliceIndices_le _ _ _)) hsz) fun t' k' hp => k _ t' (F1.tk hp)
theorem x_itemStr {value slice : Expr} {l : List Nat} {t u : Tok} {j : Int} (k : Nat) {c : Nat} {Q : Value → Shared → Prop} (F : FS g h₀ L m M s) (hj : j = (k : Int)) (hc : l[k]? = some c) (hsz : l.length ≤ sizeLine) (h : ∀ s' t', FS g h₀ L m M s' → Q (.str (sOf [c]) t') s')
    (hs : subscripted slice false (.str (sOf l) t) (.int j u) = operate [.str (sOf l) t, .int j u] (getItem (.str (sOf l) t) (.int j u)) := by first | with_reducible exact sub_name | with_reducible exact sub_const | with_reducible exact sub_binop | with_reducible exact sub_unop | with_unfolding_all rfl) (hg : ∀ r, letTemporaryGo value (.str (sOf l) t) r = pure () := by intro _; first | with_reducible exact ltg_name | with_unfolding_all rfl) :
    wpAny (model prog w) A (subscriptTail value slice (.str (sOf l) t) (.int j u)) Q E s := by
  subst hj
  have hk : k < l.length := (List.getElem?_eq_some_iff.mp hc).1
  rw [sizeLine_eq] at hsz
  have hch := item_sOf l k c hc
  have e : Txt.item (sOf l) (k : Int) = sOf [c] := by unfold Txt.item; rw [hch]; rfl
  refine subscriptTail_builtin (typeIs_str s _ t) PySem.F.slot_str_getitem.lookup (SB.getItem ?_ (by rw [hch]; rfl) ?_) hs hg
  · unfold fitsSsize
    simp
    lia
  · rw [e]
    exact h _ _ (F.tk (Nat.succ_pos _))
/-- a while, by a datum that shrinks -/
theorem x_while {α : Type} {test : Expr} {body : List Stmt} {pos : Pos} {Q : Flow → Shared → Prop} (I : α → (Str → Option Value) → List (Addr × Obj) → Prop) (meas : α → Nat) (x₀ : α) (F : FS g h₀ L m M s) (h0 : I x₀ m M)
    (turn : ∀ x m₁ M₁ s₁, I x m₁ M₁ → FS g h₀ L m₁ M₁ s₁ → wpAny (model prog w) A (isTrue test (envOf name scope L a cd) (eval test (envOf name scope L a cd))) (fun b s₂ =>
      if b then wpAny (model prog w) A (execs body (envOf name scope L a cd)) (fun f s₃ => match f with
        | .next | .cont => ∃ y m₂ M₂, FS g h₀ L m₂ M₂ s₃ ∧ meas y < meas x ∧ I y m₂ M₂
        | .brk => Q .next s₃
        | .ret v => Q (.ret v) s₃) (fun _ _ => False) s₂
      else Q .next s₂) (fun _ _ => False) s₁) :
    wpAny (model prog w) A (exec (.While test body [] pos) (envOf name scope L a cd)) Q E s := by
  refine wpAny_While (codeAny_whileLoop (fun n s' => ∃ x m₁ M₁, n = meas x ∧ I x m₁ M₁ ∧ FS g h₀ L m₁ M₁ s') ?_ (meas x₀) ⟨x₀, m, M, rfl, h0, F⟩)
  rintro n s₁ ⟨x, m₁, M₁, rfl, hI, F1⟩
  refine wpAny_mono (turn x m₁ M₁ s₁ hI F1) (fun b s₂ hb => ?_) fun _ _ e => e.elim
  cases b with
  | false =>
    simp only [Bool.false_eq_true, if_false] at hb ⊢
    exact wpAny_execs_nil hb
  | true =>
    simp only [if_true] at hb ⊢
    refine wpAny_mono hb (fun f s₃ h₃ => ?_) fun _ _ e => e.elim
    have nx : (∃ y m₂ M₂, FS g h₀ L m₂ M₂ s₃ ∧ meas y < meas x ∧ I y m₂ M₂) → ∃ m_1, m_1 < meas x ∧ ∃ x m₁ M₁, m_1 = meas x ∧ I x m₁ M₁ ∧ FS g h₀ L m₁ M₁ s₃ :=
      fun ⟨y, m₂, M₂, F2, hy, hI2⟩ => ⟨meas y, hy, y, m₂, M₂, rfl, hI2, F2⟩
    cases f with
    | next => exact nx h₃
    | cont => exact nx h₃
    | brk => exact h₃
    | ret v => exact h₃
end
/-! parse257 -/
theorem p257_a {X : List Nat} (h : X.take 3 = [50, 53, 55]) (t : Tok) : ¬ ((Txt.slice (sOf X) (Option.map (fun x => x.fst) (none : Option (Int × Tok))) (Option.map (fun x => x.fst) (some ((3 : Int), t))) != Str.ofString "257") = true) := by
  have e : Txt.slice (sOf X) none (some 3) = sOf (X.take 3) := sl_upto _ 3
  show ¬ ((Txt.slice (sOf X) none (some 3) != Str.ofString "257") = true)
  rw [e, h]
  decide +kernel
theorem p257_b {X : List Nat} (h : (X.drop 3).take 2 = [32, 34]) (h5 : 5 ≤ X.length) (t u : Tok) : ¬ ((Txt.slice (sOf X) (Option.map (fun x => x.fst) (some ((3 : Int), t))) (Option.map (fun x => x.fst) (some ((5 : Int), u))) != Str.ofString " \"") = true) := by
  have e : Txt.slice (sOf X) (some 3) (some 5) = sOf ((X.drop 3).take 2) := sl_mid _ 3 5 h5
  show ¬ ((Txt.slice (sOf X) (some 3) (some 5) != Str.ofString " \"") = true)
  rw [e, h]
  decide +kernel
theorem esc_at {X a b nm rest : List Nat} (hX : X = [50, 53, 55, 32, 34] ++ (StrLaws.dbl 34 nm ++ 34 :: rest)) (hab : a ++ b = nm) (k : Nat) : X[5 + (StrLaws.dbl 34 a).length + k]? = (StrLaws.dbl 34 b ++ 34 :: rest)[k]? := by
  have e : X = ([50, 53, 55, 32, 34] ++ StrLaws.dbl 34 a) ++ (StrLaws.dbl 34 b ++ 34 :: rest) := by rw [hX, ← hab, StrLaws.dbl_append]; simp
  rw [e, List.getElem?_append_right (by simp; lia)]
  congr 1
  simp
  lia
theorem q34 : Str.ofString "\"" = sOf [34] := by decide +kernel
theorem sOf_eq {a b : List Nat} : (sOf a == sOf b) = decide (a = b) := by
  by_cases h : a = b
  · subst h; simp
  · rw [decide_eq_false h]
    exact beq_eq_false_iff_ne.mpr fun e => h (by simpa [sOf] using e)
theorem sOf_ne {a b : List Nat} : (sOf a != sOf b) = !decide (a = b) := by rw [← sOf_eq]; rfl

set_option maxHeartbeats 1000000 in
theorem parse_spec {prog : Program} {w : World} {mg mb : Str → Option Value} {f : Addr} {A : Around} {E : Value → Shared → Prop} {s : Shared} {t : Tok} {Q : Value → Shared → Prop} {X nm rest : List Nat}
    (hX : X = [50, 53, 55, 32, 34] ++ (StrLaws.dbl 34 nm ++ 34 :: rest)) (hr : ∀ c, rest[0]? = some c → c ≠ 34) (hlen : nm.length ≤ 200000) (hlen2 : rest.length ≤ 200000)
    (hD : A.depth + 1 < recursionLimit) (B : Base prog w mg mb s.heap) (hf : FnAt s.heap "parse257" (stA 7) f)
    (h : ∀ s' t', Sm s s' → Kp s.heap s'.heap → Q (.str (sOf nm) t') s') : wpAny (model prog w) A (call (.ref f) [.str (sOf X) t]) Q E s := by
  have d2 := dbl_len 34 nm
  refine x_call [(Str.ofString "resp", Value.str (sOf X) t)] hf B (by lia) (List.cons_ne_nil _ _) (fun _ _ _ => rfl) rfl ?_
  intro s0 L cd _ F
  have hXl : X.length = 6 + (StrLaws.dbl 34 nm).length + rest.length := by
    rw [hX]; simp only [List.length_append, List.length_cons, List.length_nil]; lia
  have hsz0 : X.length ≤ sizeLine := by rw [sizeLine_eq]; lia
  have hsz : (sOf X).length ≤ sizeLine := by rw [sOf_len]; exact hsz0
  with_unfolding_all refine wpAny_execs_cons ?_
  walk_at "go"
  refine x_sliceStr F ?_
  walk_at "go"
  refine ⟨_, _, none, some (3, _), _, _, rfl, rfl, rfl, hsz, ‹FS _ _ _ _ _ _›, fun s1 t1 F1 => ?_⟩
  walk_at "go"
  refine ite_neg (p257_a (by rw [hX]; rfl) _) ?_
  walk_at "go"
  refine x_sliceStr ‹FS _ _ _ _ _ _› ?_
  walk_at "go"
  refine ⟨_, _, some (3, _), some (5, _), _, _, rfl, rfl, rfl, hsz, ‹FS _ _ _ _ _ _›, fun s1 t1 F1 => ?_⟩
  walk_at "go"
  refine ite_neg (p257_b (by rw [hX]; rfl) (by lia) _ _) ?_
  walk_at "go"
  refine x_while (α := List Nat × List Nat) (fun p m₁ M₁ => p.1 ++ p.2 = nm ∧ (∃ j ti, m₁ "i" = some (.int j ti) ∧ j = ((5 + (StrLaws.dbl 34 p.1).length : Nat) : Int)) ∧ (∃ x td, m₁ "dirname" = some (.str x td) ∧ x = sOf p.1) ∧
    (∃ tn, m₁ "n" = some (.int (sOf X).length tn)) ∧ (∃ tr, m₁ "resp" = some (.str (sOf X) tr)) ∧ M₁ = []) (fun p => p.2.length) ([], nm) ‹FS _ _ _ _ _ _› ?_ ?_
  · exact ⟨rfl, ⟨_, _, rfl, rfl⟩, ⟨_, _, rfl, by show Str.ofString "" = sOf []; decide +kernel⟩, ⟨_, rfl⟩, ⟨_, rfl⟩, rfl⟩
  · rintro ⟨a, b⟩ m₁ M₁ s₁ ⟨hab, ⟨j, ti, hi, rfl⟩, ⟨x, td, hd, rfl⟩, ⟨tn, hn⟩, ⟨tr, hr1⟩, rfl⟩ F
    dsimp only at hab hi hd ⊢
    have at_ := esc_at hX hab
    have hal : (StrLaws.dbl 34 a).length + (StrLaws.dbl 34 b).length = (StrLaws.dbl 34 nm).length := by rw [← hab, StrLaws.dbl_append, List.length_append]
    have hal2 : a.length + b.length = nm.length := by rw [← hab, List.length_append]
    walk_at "go"
    refine ite_pos (by rw [sOf_len]; simp only [decide_eq_true_eq]; lia) ?_
    walk_at "go"
    cases b with
    | nil =>
      have a0 : X[5 + (StrLaws.dbl 34 a).length]? = some 34 := at_ 0
      have a1 : X[5 + (StrLaws.dbl 34 a).length + 1]? = rest[0]? := by have := at_ 1; simpa [StrLaws.dbl] using this
      simp only [List.append_nil] at hab
      subst hab
      refine x_itemStr _ F rfl a0 hsz0 fun s2 t2 F2 => ?_
      clear F
      walk_at "go"
      refine ite_pos (by rw [q34]; decide +kernel) ?_
      walk_at "go"
      cases rest with
      | nil =>
        refine ite_pos (by rw [sOf_len]; simp only [decide_eq_true_eq]; simp only [List.length_nil] at hXl; lia) ?_
        refine ite_pos rfl ?_
        walk_at "go"
        exact h _ _ (FS.sm ‹_›) (FS.kp ‹_›)
      | cons c r =>
        refine ite_neg (by rw [sOf_len]; simp only [decide_eq_true_eq]; simp only [List.length_cons] at hXl; lia) ?_
        walk_at "go"
        refine x_itemStr (5 + (StrLaws.dbl 34 a).length + 1) ‹FS _ _ _ _ _ _› (by lia) a1 hsz0 fun s3 t3 F3 => ?_
        walk_at "go"
        refine ite_pos (by rw [q34, sOf_ne]; simpa using hr c rfl) ?_
        refine ite_pos rfl ?_
        walk_at "go"
        exact h _ _ (FS.sm ‹_›) (FS.kp ‹_›)
    | cons c b =>
      have hcat : ∀ {k : Nat}, (sOf a).length + (sOf [k]).length ≤ sizeLine := by
        intro k
        rw [sizeLine_eq, sOf_len, sOf_len]
        simp only [List.length_cons, List.length_nil] at hal2 ⊢
        lia
      have a0 : X[5 + (StrLaws.dbl 34 a).length]? = some c := by have := at_ 0; rw [Nat.add_zero] at this; rw [this]; unfold StrLaws.dbl; split <;> rfl
      refine x_itemStr _ F rfl a0 hsz0 fun s2 t2 F2 => ?_
      clear F
      walk_at "go"
      by_cases hc : c = 34
      · subst hc
        have a1 : X[5 + (StrLaws.dbl 34 a).length + 1]? = some 34 := by rw [at_ 1]; simp [StrLaws.dbl]
        have hl1 : 5 + (StrLaws.dbl 34 a).length + 1 < X.length := (List.getElem?_eq_some_iff.mp a1).1
        refine ite_pos (by rw [q34]; decide +kernel) ?_
        walk_at "go"
        refine ite_neg (by rw [sOf_len]; simp only [decide_eq_true_eq]; lia) ?_
        walk_at "go"
        refine x_itemStr (5 + (StrLaws.dbl 34 a).length + 1) ‹FS _ _ _ _ _ _› (by lia) a1 hsz0 fun s3 t3 F3 => ?_
        walk_at "go"
        refine ite_neg (by rw [q34]; decide +kernel) ?_
        walk_at "go"
        refine ite_neg Bool.false_ne_true ?_
        walk_at "go"
        refine x_cat ‹FS _ _ _ _ _ _› hcat fun s4 t4 F4 => ?_
        walk_at "go"
        refine ⟨(a ++ [34], b), _, [], ‹FS _ _ _ _ _ _›, ?_⟩
        refine ⟨by simp, ⟨by rw [← hab]; simp, ⟨_, _, rfl, ?_⟩, ⟨_, _, rfl, sOf_cat _ _⟩, ⟨_, hn⟩, ⟨_, hr1⟩, rfl⟩⟩
        rw [StrLaws.dbl_append, List.length_append, show (StrLaws.dbl 34 [34]).length = 2 from rfl]
        lia
      · refine ite_neg (by rw [q34, sOf_eq]; simpa using hc) ?_
        walk_at "go"
        refine x_cat ‹FS _ _ _ _ _ _› hcat fun s4 t4 F4 => ?_
        walk_at "go"
        refine ⟨(a ++ [c], b), _, [], ‹FS _ _ _ _ _ _›, ?_⟩
        refine ⟨by simp, ⟨by rw [← hab]; simp, ⟨_, _, rfl, ?_⟩, ⟨_, _, rfl, sOf_cat _ _⟩, ⟨_, hn⟩, ⟨_, hr1⟩, rfl⟩⟩
        rw [StrLaws.dbl_append, List.length_append, show (StrLaws.dbl 34 [c]).length = 1 from by simp [StrLaws.dbl, hc]]
        lia
/-! builtins over the frame -/
section
variable {prog : Program} {w : World} {A : Around} {E : Value → Shared → Prop} {g s s' : Shared} {L a : Addr} {h₀ : Heap} {m mg mb : Str → Option Value} {M M' : List (Addr × Obj)}
theorem x_find {x y : Str} {t u : Tok} {Q : Value → Shared → Prop} (F : FS g h₀ L m M s) (h : ∀ s' t, FS g h₀ L m M s' → Q (.int (Txt.find x y) t) s') :
    wpAny (model prog w) A (call (.builtin "str.find") [.str x t, .str y u]) Q E s := SC.find (h _ _ (F.tk (Nat.succ_pos _)))
theorem x_count {x y : Str} {t u : Tok} {Q : Value → Shared → Prop} (F : FS g h₀ L m M s) (h : ∀ s' t, FS g h₀ L m M s' → Q (.int (Txt.count x y) t) s') :
    wpAny (model prog w) A (call (.builtin "str.count") [.str x t, .str y u]) Q E s := SC.count (h _ _ (F.tk (Nat.succ_pos _)))
theorem m_pop {l : Addr} {vs : List Value} {n : Nat} {pl : Sem Bool} {Q : Value × List Value → Shared → Prop} (hl : s.heap.get? l = some (lst vs n)) (h : Q (.builtin "list.pop", [.ref l]) s) :
    wpAny (model prog w) A (getMethod (.ref l) "pop" pl) Q E s := Copied.getMethod_pop_at hl rfl rfl h
theorem x_pop {l : Addr} {vs : List Value} {n : Nat} {x : Value} {Q : Value → Shared → Prop} (F : FS g h₀ L m ((l, lst (vs ++ [x]) n) :: M) s) (hsz : (vs ++ [x]).length ≤ sizeLine)
    (h : ∀ s' n', FS g h₀ L m ((l, lst vs n') :: M) s' → Q x s') : wpAny (model prog w) A (call (.builtin "list.pop") [.ref l]) Q E s := by
  refine Copied.pop_at (y := x) (F.get (.head _)) (by simp) (fun h' hs e => ?_) (by rw [List.size_toArray]; exact hsz)
  have e2 : (vs ++ [x]).toArray.pop = vs.toArray := by simp
  rw [e2] at e
  exact h { s with heap := h' } (n + 1) (F.turn (tk := s.toks) e hs F.tp)
/-- the token's number -/
theorem x_tokItem {value slice : Expr} {d : Addr} {l : List Nat} {t : Tok} {n : Int} {Q : Value → Shared → Prop} (F : FS g h₀ L m M s) (B : StrTab prog w s.heap d tokData) (hl : PySem.Spec.lookup (.str (sOf l)) tokData = some (.int n))
    (h : ∀ s' t, FS g h₀ L m M s' → Q (.int n t) s')
    (hs : subscripted slice false (.ref d) (.str (sOf l) t) = operate [.ref d, .str (sOf l) t] (getItem (.ref d) (.str (sOf l) t)) := by with_unfolding_all rfl) (hg : ∀ r, letTemporaryGo value (.ref d) r = pure () := by intro _; first | with_reducible exact ltg_name | with_unfolding_all rfl) :
    wpAny (model prog w) A (subscriptTail value slice (.ref d) (.str (sOf l) t)) Q E s :=
  item_strTab B hl (fun v hv => by obtain ⟨t, rfl⟩ := flat_int hv; exact h _ _ (F.tk (Nat.succ_pos _))) hs hg
/-- an if whose two ways meet again -/
theorem x_if {test : Expr} {body els : List Stmt} {pos : Pos} {env : Env} {Q : Flow → Shared → Prop} (J : Shared → Prop)
    (h : wpAny (model prog w) A (isTrue test env (eval test env)) (fun b s₁ => if b then wpAny (model prog w) A (execs body env) (fun f s₂ => f = .next ∧ J s₂) E s₁ else wpAny (model prog w) A (execs els env) (fun f s₂ => f = .next ∧ J s₂) E s₁) E s)
    (k : ∀ s', J s' → Q .next s') : wpAny (model prog w) A (exec (.If test body els pos) env) Q E s := by
  refine wpAny_If (wpAny_mono h (fun b s₁ h₁ => ?_) fun _ _ e => e)
  cases b with
  | true => exact wpAny_mono h₁ (fun f s₂ h₂ => by obtain ⟨rfl, j⟩ := h₂; exact k _ j) fun _ _ e => e
  | false => exact wpAny_mono h₁ (fun f s₂ h₂ => by obtain ⟨rfl, j⟩ := h₂; exact k _ j) fun _ _ e => e
theorem x_addList {l b : Addr} {vs ws : List Value} {n k : Nat} {Q : Value → Shared → Prop} (F : FS g h₀ L m M s) (hl : s.heap.get? l = some (lst vs n)) (hb : s.heap.get? b = some (lst ws k)) (hsz : vs.length + ws.length ≤ sizeLine)
    (h : ∀ s' D, FS g h₀ L m ((D, lst (vs ++ ws)) :: M) s' → Q (.ref D) s') : wpAny (model prog w) A (binaryOp .Add (.ref l) (.ref b)) Q E s :=
  add_lists F.fr F.ns (isList_of hl) (isList_of hb) (fun h' F' N' => h { s with heap := h' } _ ⟨F.sm, F', N', List.nodup_cons.mpr ⟨fun hm => by
    obtain ⟨p, hp, e⟩ := List.mem_map.mp hm
    exact Nat.lt_irrefl _ (e ▸ F.lt hp), F.nd⟩, F.tp⟩) hsz
theorem foldl_one (v : Value) : ∀ k : Nat, ∀ a : Array Value, (List.foldl (fun x1 x2 => x1 ++ x2) a (List.replicate k #[v])) = (a.toList ++ List.replicate k v).toArray
  | 0, a => by simp
  | k + 1, a => by
    rw [List.replicate_succ, List.foldl_cons, foldl_one v k]
    simp [List.replicate_succ]
theorem x_mulList {l : Addr} {v : Value} {n : Nat} {x : Int} {u : Tok} {Q : Value → Shared → Prop} (F : FS g h₀ L m M s) (hl : s.heap.get? l = some (lst [v] n)) (h1 : -1000000 ≤ x) (h2 : x ≤ 1000000)
    (h : ∀ s' D, FS g h₀ L m ((D, lst (List.replicate x.toNat v)) :: M) s' → Q (.ref D) s') : wpAny (model prog w) A (binaryOp .Mult (.ref l) (.int x u)) Q E s :=
  mul_list F.fr F.ns hl (by lia) (by lia) (by simp; lia) fun h' F' N' => by
    rw [if_neg (by simp), show [v].toArray = #[v] from rfl, foldl_one, List.nil_append] at N'
    exact h { s with heap := h' } _ ⟨F.sm, F', N', List.nodup_cons.mpr ⟨fun hm => by
      obtain ⟨p, hp, e⟩ := List.mem_map.mp hm
      exact Nat.lt_irrefl _ (e ▸ F.lt hp), F.nd⟩, F.tp⟩
theorem x_itemNeg {value slice : Expr} {l : Addr} {vs : List Value} {n : Nat} {j : Int} {u : Tok} {x : Value} {Q : Value → Shared → Prop} (k : Nat) (hj : j = -(k : Int)) (hl : s.heap.get? l = some (lst vs n)) (h0 : 0 < k) (h1 : k ≤ vs.length) (h2 : k ≤ 100) (hx : vs[vs.length - k]? = some x) (h : Q x s)
    (hs : subscripted slice false (.ref l) (.int j u) = operate [.ref l, .int j u] (getItem (.ref l) (.int j u)) := by first | with_reducible exact sub_name | with_reducible exact sub_const | with_reducible exact sub_binop | with_reducible exact sub_unop | with_unfolding_all rfl) (hg : ∀ r, letTemporaryGo value (.ref l) r = pure () := by intro _; first | with_reducible exact ltg_name | with_unfolding_all rfl) :
    wpAny (model prog w) A (subscriptTail value slice (.ref l) (.int j u)) Q E s :=
  subscriptTail_builtin (isList_of hl).typeIs slot_list_getitem.lookup (wpAny_getItem_list_neg (isList_of hl) (by lia) (by rw [List.size_toArray]; lia) (by lia) (by
    have e : (j + (vs.toArray.size : Int)).toNat = vs.length - k := by rw [List.size_toArray]; lia
    rw [e]; simpa using hx) h) hs hg
theorem slice_upto (vs : List Value) (k : Nat) : (slicePick vs.toArray none (some (k : Int)) none).toList = vs.take k := by rw [slicePick_upto']
theorem slice_butLast (vs : List Value) : (slicePick vs.toArray none (some (-1)) none).toList = vs.dropLast := by
  have e := slicePick_butLast vs.toArray 1 (Nat.le_refl _)
  rw [show (-((1 : Nat) : Int)) = -1 from rfl] at e
  rw [e, List.size_toArray, List.dropLast_eq_take]
end
/-! lists of ints -/
noncomputable def vInt : Value → Option Int
  | .int z _ => some z
  | _ => none
def Ints (vs : List Value) (zs : List Int) : Prop := vs.map vInt = zs.map some
theorem vInt_inv {v : Value} {z : Int} (h : vInt v = some z) : ∃ t, v = .int z t := by
  cases v <;> simp [vInt] at h
  subst h
  exact ⟨_, rfl⟩
theorem Ints.nil : Ints [] [] := rfl
theorem Ints.cons {z : Int} {t : Tok} {vs : List Value} {zs : List Int} (h : Ints vs zs) : Ints (.int z t :: vs) (z :: zs) := by simpa [Ints, vInt] using h
theorem Ints.length {vs : List Value} {zs : List Int} (h : Ints vs zs) : vs.length = zs.length := by simpa using congrArg List.length h
theorem Ints.append {vs ws : List Value} {zs ys : List Int} (h : Ints vs zs) (k : Ints ws ys) : Ints (vs ++ ws) (zs ++ ys) := by unfold Ints at *; rw [List.map_append, List.map_append, h, k]
theorem Ints.take {vs : List Value} {zs : List Int} (h : Ints vs zs) (k : Nat) : Ints (vs.take k) (zs.take k) := by unfold Ints at *; rw [List.map_take, List.map_take, h]
theorem Ints.drop {vs : List Value} {zs : List Int} (h : Ints vs zs) (k : Nat) : Ints (vs.drop k) (zs.drop k) := by unfold Ints at *; rw [List.map_drop, List.map_drop, h]
theorem Ints.get {vs : List Value} {zs : List Int} (h : Ints vs zs) {i : Nat} {v : Value} (e : vs[i]? = some v) : ∃ z t, zs[i]? = some z ∧ v = .int z t := by
  have h1 := congrArg (fun l => l[i]?) h
  simp only [List.getElem?_map, e, Option.map_some] at h1
  cases hz : zs[i]? with
  | none => rw [hz] at h1; cases h1
  | some z =>
    rw [hz, Option.map_some] at h1
    obtain ⟨t, ht⟩ := vInt_inv (Option.some.inj h1)
    exact ⟨z, t, rfl, ht⟩
theorem Ints.at {vs : List Value} {zs : List Int} (h : Ints vs zs) {i : Nat} {z : Int} (e : zs[i]? = some z) : ∃ t, vs[i]? = some (.int z t) := by
  have hi : i < vs.length := by rw [h.length]; exact (List.getElem?_eq_some_iff.mp e).1
  obtain ⟨z', t, e', hv⟩ := h.get (List.getElem?_eq_getElem hi)
  rw [e] at e'
  cases e'
  exact ⟨t, by rw [List.getElem?_eq_getElem hi, hv]⟩
local macro_rules | `(tactic| walk_at "lf2") => `(tactic| ((with_reducible rename FS _ _ _ _ _ _ => fO); (first | refine x_find fO ?_ | refine x_count fO ?_); clear fO; intro _ _ _))
local macro_rules | `(tactic| walk_at "call builtin:str.find") => `(tactic| walk_at "lf2")
local macro_rules | `(tactic| walk_at "call builtin:str.count") => `(tactic| walk_at "lf2")
local macro_rules | `(tactic| walk_at "lf3") => `(tactic| ((with_reducible rename FS _ _ _ _ _ _ => fO); (with_reducible first | refine x_newList fO (by rw [sizeLine_eq]; exact Nat.le_of_ble_eq_true rfl) ?_ | refine x_newTuple fO (by rw [sizeLine_eq]; exact Nat.le_of_ble_eq_true rfl) ?_); clear fO; intro _ _ _ _))
local macro_rules | `(tactic| walk_at "newList") => `(tactic| walk_at "lf3")
local macro_rules | `(tactic| walk_at "newTuple") => `(tactic| walk_at "lf3")
local macro_rules | `(tactic| walk_at "getMethod ref") => `(tactic| first | refine m_append (by walk_at "lst") ?_ | refine m_pop (by walk_at "lst") ?_)
/-! reading the quoted writing back -/
theorem sgnL_no : ∀ n ∈ menu, ∀ c ∈ sgnL n, c ≠ 32 ∧ c ≠ 34 := by decide +kernel
theorem sgnL_len : ∀ n ∈ menu, 1 ≤ (sgnL n).length ∧ (sgnL n).length ≤ 3 := by decide +kernel
theorem tok_sgn : ∀ n ∈ menu, PySem.Spec.lookup (.str (sOf (sgnL n))) tokData = some (.int n) := by
  intro n hn
  simp only [menu, List.mem_cons, List.not_mem_nil, or_false] at hn
  rcases hn with rfl | rfl | rfl | rfl | rfl | rfl | rfl | rfl | rfl | rfl | rfl | rfl <;> with_unfolding_all rfl
theorem sp32 : Str.ofString " " = sOf [32] := by decide +kernel

theorem dbl_cnt (c : Nat) : ∀ l : List Nat, ((StrLaws.dbl c l).length : Int) = l.length + cnt c l
  | [] => rfl
  | k :: r => by
    have e := dbl_cnt c r
    unfold StrLaws.dbl
    rw [cnt_cons]
    by_cases h : k = c
    · rw [if_pos h, if_pos (by simpa using h)]
      simp only [List.length_cons]
      lia
    · rw [if_neg h, if_neg (by simpa using h)]
      simp only [List.length_cons]
      lia
set_option maxHeartbeats 4000000 in
theorem unquoted_spec {prog : Program} {w : World} {mg mb : Str → Option Value} {f : Addr} : ∀ (k : Nat) (t : T), t.size ≤ k → t.ok → (qL t).length ≤ 100000 →
    ∀ (A : Around) (E : Value → Shared → Prop) (s : Shared) (tv : Tok) (Q : Value → Shared → Prop), A.handled = none → A.depth + k + 1 < recursionLimit → Base prog w mg mb s.heap → mg "_law_unquoted" = some (.ref f) → FnAt s.heap "_law_unquoted" (stA 69) f →
    (∀ s' v X, Fresh s s' X → TreeIn X v t → Q v s') → wpAny (model prog w) A (call (.ref f) [.str (sOf (qL t)) tv]) Q E s
  | 0, .node _ _, h, _, _ => by simp [T.size] at h
  | k + 1, .node n cs, hk, hok, hlen => by
    intro A E s tv Q hA hD B eq hf h
    refine x_call [(Str.ofString "text", Value.str (sOf (qL (.node n cs))) tv)] hf B (by lia) (List.cons_ne_nil _ _) (fun _ _ _ => rfl) rfl ?_
    intro s0 L cd _ F
    have hl0 : (sOf (qL (.node n cs))).length ≤ sizeLine := by rw [sizeLine_eq, sOf_len]; lia
    with_unfolding_all refine wpAny_execs_cons ?_
    walk_at "goif"
    have hcl : (sgnL n).length ≤ (qL (.node n cs)).length := by simp [qL]
    have s32 : ∀ c ∈ sgnL n, c ≠ 32 := fun c hc => (sgnL_no n hok.1 c hc).1
    refine x_if (fun s' => ∃ m ta, FS s s.heap L m [] s' ∧ m "at" = some (.int (sgnL n).length ta) ∧ m "text" = some (.str (sOf (qL (.node n cs))) tv)) ?_ ?_
    · walk_at "go"
      rw [sp32]
      cases cs with
      | nil =>
        refine ite_pos (by rw [show qL (.node n []) = sgnL n by simp [qL, qLs], find_none _ _ fun hc => s32 _ hc rfl]; decide +kernel) ?_
        walk_at "go"
        exact ⟨rfl, _, _, ‹FS _ _ _ _ _ _›, congrArg (fun z : Nat => some (Value.int (z : Int) _)) (show (sOf (qL (.node n []))).length = (sgnL n).length by rw [sOf_len, show qL (.node n []) = sgnL n by simp [qL, qLs]]), rfl⟩
      | cons c cs =>
        have e : Txt.find (sOf (qL (.node n (c :: cs)))) (Str.ofString " ") = (sgnL n).length := by
          rw [sp32]
          show Txt.find (sOf (sgnL n ++ 32 :: _)) _ = _
          exact find_at _ _ _ fun hc => s32 _ hc rfl
        refine ite_neg (by rw [← sp32, e]; simp) ?_
        walk_at "go"
        exact ⟨rfl, _, _, ‹FS _ _ _ _ _ _›, congrArg (fun z => some (Value.int z _)) e, rfl⟩
    · rintro s1 ⟨m, ta, F, hat, htx⟩
      obtain ⟨aT, eT, hT⟩ := B.tokd
      obtain ⟨aP, eP, fP⟩ : ∃ a, mg "parse257" = some (.ref a) ∧ FnAt s.heap "parse257" (stA 7) a := B.fn 1 rfl
      walk_at "go"
      refine x_sliceStr ‹FS _ _ _ _ _ _› ?_
      walk_at "go"
      refine ⟨_, _, none, some (_, _), _, _, rfl, rfl, rfl, hl0, ‹FS _ _ _ _ _ _›, fun s2 t2 F2 => ?_⟩
      rw [show Txt.slice (sOf (qL (.node n cs))) (Option.map (fun x => x.1) (none : Option (Int × Tok))) (Option.map (fun x => x.1) (some (((sgnL n).length : Int), ta))) = sOf (sgnL n) from (sl_upto _ _).trans (by simp [qL])]
      walk_at "go"
      refine x_tokItem F2 (hT.keep F2.kp) (tok_sgn n hok.1) fun s3 t3 F3 => ?_
      clear F2
      walk_at "go"
      rename_i D _ _ _ s5 F _
      have hA' : (A.deeper (envOf "_law_unquoted" (dScope (stA 69)) L f cd)).handled = none := hA
      refine x_while (α := List T × List T) (fun p m₁ M₁ => p.1 ++ p.2 = cs ∧ (∃ j ti, m₁ "at" = some (.int j ti) ∧ j = (((sgnL n).length + (qLs p.1).length : Nat) : Int)) ∧ (∃ tx, m₁ "text" = some (.str (sOf (qL (.node n cs))) tx)) ∧
        m₁ "node" = some (.ref D) ∧ ∃ tn vs e X, M₁ = (D, lst (.int n tn :: vs) e) :: X ∧ TreesIn X vs p.1) (fun p => p.2.length) ([], cs) F ?_ ?_
      · exact ⟨rfl, ⟨_, _, hat, by simp [qLs]⟩, ⟨_, htx⟩, rfl, _, _, _, _, rfl, .nil⟩
      · rintro ⟨a, b⟩ m₁ M₁ s₁ ⟨hab, ⟨j, ti, hj, rfl⟩, ⟨tx, htx⟩, hnode, tn, vs, e, X, rfl, hX⟩ F1
        dsimp only at hab hj hX ⊢
        have hql : qL (.node n cs) = sgnL n ++ (qLs a ++ qLs b) := by rw [← hab]; simp [qL, qLs_append]
        walk_at "go"
        cases b with
        | nil =>
          refine ite_neg (by rw [hql]; simp [sOf_len, qLs]) ?_
          walk_at "go"
          refine h _ _ _ (FS.fresh ‹_›) (.mk (.head _) ?_)
          rw [List.append_nil] at hab
          rw [← hab]
          exact Trs.mono (fun _ _ => .tail _) hX
        | cons c b =>
          have hb : (qL c).length + (qLs b).length ≤ 100000 ∧ (StrLaws.dbl 34 (qL c)).length + (qLs b).length + 3 ≤ 100000 := by
            have e := congrArg List.length hql
            have d := dbl_len 34 (qL c)
            simp only [qLs, List.length_append, List.length_cons] at e
            lia
          have hcs : c.size ≤ T.sizes cs := T.sizes_get (i := a.length) (by rw [← hab]; simp)
          have hcok : c.ok := T.oks_get (i := a.length) hok.2 (by rw [← hab]; simp)
          have hcz : (sOf (qL c)).length ≤ sizeLine := by rw [sizeLine_eq, sOf_len]; lia
          have hvsz : (Value.int n tn :: vs).length ≤ sizeLine := by
            have e1 := hX.length
            have e2 := T.sizes_length cs
            have e3 : a.length ≤ cs.length := by rw [← hab, List.length_append]; lia
            rw [sizeLine_eq, List.length_cons]
            simp only [T.size] at hk
            rw [rl_lim] at hD
            lia
          refine ite_pos (by rw [hql]; simp [sOf_len, qLs]; lia) ?_
          walk_at "go"
          refine x_sliceStr ‹FS _ _ _ _ _ _› ?_
          walk_at "go"
          refine ⟨_, _, some (_, _), none, _, _, rfl, rfl, rfl, hl0, ‹FS _ _ _ _ _ _›, fun s6 t6 F6 => ?_⟩
          rw [show Txt.slice (sOf (qL (.node n cs))) (Option.map (fun x => x.1) (some ((((sgnL n).length + (qLs a).length : Nat) : Int), ti))) (Option.map (fun x => x.1) (none : Option (Int × Tok))) = sOf (qLs (c :: b)) by
            refine (sl_from _ _).trans ?_
            rw [hql, ← List.append_assoc, List.drop_left' (by simp)]]
          rw [show Str.ofString "257" = sOf [50, 53, 55] by decide +kernel]
          refine x_cat F6 (by rw [sizeLine_eq, sOf_len, sOf_len]; simp only [qLs, List.length_append, List.length_cons, List.length_nil]; lia) fun s7 t7 F7 => ?_
          rw [sOf_cat]
          walk_at "go"
          refine tpos (FS.tp F7) (parse_spec (nm := qL c) (rest := qLs b) (by simp [qLs]) ?_ (by lia) (by lia) (by show A.depth + 1 + 1 < _; lia) (B.keeps F7.kp) (fP.keeps F7.kp) fun s8 t8 S8 K8 P8 => ?_)
          · cases b with
            | nil => simp [qLs]
            | cons _ _ => simp [qLs]
          have F8 := F7.kept K8 S8 P8
          clear S8 K8 P8 F7 F6
          walk_at "go"
          refine tpos (FS.tp ‹FS _ _ _ _ _ _›) (unquoted_spec k c (by simp only [T.size] at hk; lia) hcok (by lia) _ _ _ _ _ hA' (by show A.depth + 1 + k + 1 < _; lia) (B.keeps (FS.kp ‹FS _ _ _ _ _ _›)) eq (hf.keeps (FS.kp ‹FS _ _ _ _ _ _›)) fun s9 v9 X9 N9 hT9 P9 => ?_)
          have F9 := FS.after ‹FS _ _ _ _ _ _› N9 P9
          clear N9 P9
          walk_at "go"
          refine x_append (F9.perm List.perm_middle) hvsz fun s10 n10 F10 => ?_
          walk_at "go"
          refine ⟨(a ++ [c], b), _, _, ‹FS _ _ _ _ (_ :: (_ ++ _)) _›, ?_, ?_, ?_, ?_, ?_, ?_⟩
          · simp
          · simp [hab]
          · refine ⟨_, _, rfl, ?_⟩
            have e := dbl_cnt 34 (qL c)
            rw [q34, show Txt.count (sOf (qL c)) (sOf [34]) = cnt 34 (qL c) from count_cnt _ _, sOf_len, qLs_append]
            simp only [qLs, List.length_append, List.length_cons, List.length_nil, Int.natCast_add]
            lia
          · exact ⟨_, htx⟩
          · exact hnode
          · refine ⟨tn, vs ++ [v9], n10, _, rfl, ?_⟩
            exact Trs.append (hX.mono fun _ _ h => List.mem_append_right _ h) (.cons (hT9.mono fun _ _ h => List.mem_append_left _ h) .nil)
      
/-! the sizes for the ruler -/
theorem x_neg {prog : Program} {w : World} {A : Around} {E : Value → Shared → Prop} {g s : Shared} {L : Addr} {h₀ : Heap} {m : Str → Option Value} {M : List (Addr × Obj)} {a : Int} {t : Tok} {Q : Value → Shared → Prop} (F : FS g h₀ L m M s) (h : ∀ s' t, FS g h₀ L m M s' → Q (.int (-a) t) s') :
    wpAny (model prog w) A (unaryOp .USub (.int a t)) Q E s := neg_int (h _ _ (F.tk (Nat.succ_pos _)))
noncomputable def zHead (n : Int) (cs : List T) : Int := if cs = [] then 271 - n else 256 * cs.length + n - 16
mutual
noncomputable def zL : T → List Int
  | .node n cs => zHead n cs :: zLs cs
noncomputable def zLs : List T → List Int
  | [] => []
  | c :: cs => zL c ++ zLs cs
end
theorem zLs_append : ∀ a b : List T, zLs (a ++ b) = zLs a ++ zLs b
  | [], b => rfl
  | c :: cs, b => by simp [zLs, zLs_append cs b]
theorem zLs_at {cs : List T} {i : Nat} {c : T} (e : cs[i]? = some c) : zLs (cs.take (i + 1)) = zLs (cs.take i) ++ zL c := by
  rw [List.take_add_one, e, zLs_append]
  simp [zLs]
mutual
theorem zL_len : ∀ t : T, (zL t).length = t.size
  | .node n cs => by simp [zL, T.size, zLs_len cs]
theorem zLs_len : ∀ cs : List T, (zLs cs).length = T.sizes cs
  | [] => rfl
  | c :: cs => by simp [zLs, T.sizes, zL_len c, zLs_len cs]
end
theorem zLs_take_len (cs : List T) (i : Nat) : (zLs (cs.take i)).length ≤ T.sizes cs := by
  have e := congrArg (fun l => (zLs l).length) (List.take_append_drop i cs)
  simp only [zLs_append, List.length_append, zLs_len] at e ⊢
  lia

set_option maxHeartbeats 4000000 in
theorem sizes_spec {prog : Program} {w : World} {mg mb : Str → Option Value} {f : Addr} : ∀ (k : Nat) (t : T), t.size ≤ k → t.ok →
    ∀ (A : Around) (E : Value → Shared → Prop) (s : Shared) (v : Value) (Q : Value → Shared → Prop), A.handled = none → A.depth + k + 1 < recursionLimit → Base prog w mg mb s.heap → mg "_law_sizes" = some (.ref f) → FnAt s.heap "_law_sizes" (stA 70) f → TreeAt s.heap v t →
    (∀ s' a vs e X, Fresh s s' X → (a, lst vs e) ∈ X → Ints vs (zL t) → Q (.ref a) s') → wpAny (model prog w) A (call (.ref f) [v]) Q E s
  | 0, .node _ _, h, _ => by simp [T.size] at h
  | k + 1, .node n cs, hk, hok => by
    intro A E s v Q hA hD B eq hf hT h
    cases hT with | @mk a _ tk vs _ e hg hTs =>
    have hvs : vs.length = cs.length := hTs.length
    have hk2 : T.sizes cs ≤ k := by simp only [T.size] at hk; lia
    have hk3 : k < 1000 := by rw [rl_lim] at hD; lia
    have hcl := T.sizes_length cs
    have hsz : (Value.int n tk :: vs).length ≤ sizeLine := by rw [sizeLine_eq, List.length_cons]; lia
    refine x_call [(Str.ofString "node", Value.ref a)] hf B (by lia) (List.cons_ne_nil _ _) (fun _ _ _ => rfl) rfl ?_
    intro s0 L cd _ F
    have hA' : (A.deeper (envOf "_law_sizes" (dScope (stA 70)) L f cd)).handled = none := hA
    with_unfolding_all refine wpAny_execs_cons ?_
    walk_at "goif"
    refine x_if (fun s' => ∃ m R t e M z, FS s s.heap L m M s' ∧ m "row" = some (.ref R) ∧ m "node" = some (.ref a) ∧ (R, lst [.int z t] e) ∈ M ∧ z = zHead n cs) ?_ ?_
    · walk_at "go"
      by_cases hc : cs = []
      · refine ite_neg (by simp [hvs, hc]) ?_
        walk_at "go"
        exact ⟨rfl, _, _, _, _, _, _, ‹FS _ _ _ _ _ _›, rfl, rfl, .head _, by rw [zHead, if_pos hc]⟩
      · have hcp : 0 < cs.length := List.length_pos_iff.mpr hc
        refine ite_pos (by simp [hvs]; lia) ?_
        walk_at "go"
        refine x_mul ‹FS _ _ _ _ _ _› ?_ fun s1 t1 F1 => ?_
        · decide
        walk_at "go"
        exact ⟨rfl, _, _, _, _, _, _, ‹FS _ _ _ _ _ _›, rfl, rfl, .head _, by rw [zHead, if_neg hc, List.length_cons, hvs]; lia⟩
    · rintro s1 ⟨m, R, t1, e1, M, z, F, hr, hn, hR, rfl⟩
      walk_at "go"
      refine x_forList F hA' (x_sliceList F ?_)
      walk_at "go"
      have F := ‹FS _ _ _ _ _ _›
      refine ⟨a, _, _, some 1, none, _, _, rfl, F, F.kp _ _ hg, hsz, .int _ _, .none, fun s2 D F2 => ?_⟩
      rw [slice_tail] at F2
      refine ⟨D, vs, 0, _, _, fun i m₁ M₁ => ∃ R ws e, m₁ "row" = some (.ref R) ∧ (R, lst ws e) ∈ M₁ ∧ Ints ws (zHead n cs :: zLs (cs.take i)) ∧ (D, lst vs) ∈ M₁, rfl, F2, ⟨R, _, _, hr, .tail _ hR, ?_, .head _⟩, F2.get (.head _), ?_, ?_, ?_⟩
      · rw [List.take_zero]
        exact .cons .nil
      · rintro i m₁ M₁ Z s₁ ⟨_, _, _, _, _, _, hD⟩ F
        exact F.get (List.mem_append_left _ hD)
      · rintro i v m₁ M₁ Z s₁ hv ⟨R, ws, e, hr, hR, hW, hDm⟩ F
        obtain ⟨c, hc, hTc⟩ := hTs.get hv
        have e1 := zLs_at hc
        have e4 := T.sizes_get hc
        have e5 := zLs_take_len cs i
        have e6 := zL_len c
        have hlw := hW.length
        rw [List.length_cons] at hlw
        walk_at "go"
        refine tpos F.tp (sizes_spec k c (by lia) (T.oks_get hok.2 hc) _ _ _ _ _ hA' (by show A.depth + 1 + k + 1 < _; lia) (B.keeps F.kp) eq (hf.keeps F.kp) (Tr.kp hTc F.kp) fun s3 R3 vs3 e3 X3 N3 hR3 hI3 P3 => ?_)
        have F3 := F.after N3 P3
        have hl3 := hI3.length
        refine x_addList F3 (F3.get (List.mem_append_right _ (List.mem_append_left _ hR))) (F3.get (List.mem_append_left _ hR3)) (by rw [sizeLine_eq]; lia) fun s4 D4 F4 => ?_
        clear F F3 N3
        walk_at "go"
        refine ⟨_, _ :: (X3 ++ M₁), (by simpa using ‹FS _ _ _ _ (_ :: (_ ++ _)) _›), D4, _, _, rfl, .head _, ?_, .tail _ (List.mem_append_right _ hDm)⟩
        rw [e1, ← List.cons_append]
        exact hW.append hI3
      · rintro m₁ M₁ s₁ ⟨R, ws, e, hr, hR, hW, _⟩ F
        walk_at "go"
        rw [hvs, List.take_length] at hW
        exact h _ _ _ _ _ (FS.fresh F) hR hW
local macro_rules | `(tactic| walk_at "unaryOp USub int") => `(tactic| ((with_reducible rename FS _ _ _ _ _ _ => fO); (with_reducible refine x_neg fO ?_); clear fO; intro _ _ _))
/-! the two rulers -/
theorem x_whileJ {prog : Program} {w : World} {A : Around} {E : Value → Shared → Prop} {g s : Shared} {name : Str} {scope : Scope} {L a : Addr} {cd : Value} {h₀ : Heap} {m : Str → Option Value} {M : List (Addr × Obj)} {α : Type} {test : Expr} {body : List Stmt} {pos : Pos} {Q : Flow → Shared → Prop} (J : Shared → Prop)
    (I : α → (Str → Option Value) → List (Addr × Obj) → Prop) (meas : α → Nat) (x₀ : α) (F : FS g h₀ L m M s) (h0 : I x₀ m M)
    (turn : ∀ x m₁ M₁ s₁, I x m₁ M₁ → FS g h₀ L m₁ M₁ s₁ → wpAny (model prog w) A (isTrue test (envOf name scope L a cd) (eval test (envOf name scope L a cd))) (fun b s₂ =>
      if b then wpAny (model prog w) A (execs body (envOf name scope L a cd)) (fun f s₃ => match f with
        | .next | .cont => ∃ y m₂ M₂, FS g h₀ L m₂ M₂ s₃ ∧ meas y < meas x ∧ I y m₂ M₂
        | .brk => J s₃
        | .ret v => Q (.ret v) s₃) (fun _ _ => False) s₂
      else J s₂) (fun _ _ => False) s₁) (k : ∀ s', J s' → Q .next s') :
    wpAny (model prog w) A (exec (.While test body [] pos) (envOf name scope L a cd)) Q E s := by
  refine x_while I meas x₀ F h0 fun x m₁ M₁ s₁ hI hF => wpAny_mono (turn x m₁ M₁ s₁ hI hF) (fun b s₂ hb => ?_) fun _ _ e => e
  cases b with
  | false => exact k _ hb
  | true =>
    simp only [if_true] at hb ⊢
    refine wpAny_mono hb (fun f s₃ h₃ => ?_) fun _ _ e => e
    cases f with
    | brk => exact k _ h₃
    | _ => exact h₃
theorem pick_from (vs : List Value) (k : Nat) : (slicePick vs.toArray (some (k : Int)) none none).toList = vs.drop k := slice_from vs k

set_option maxHeartbeats 4000000 in
theorem ruled_spec {prog : Program} {w : World} {mg mb : Str → Option Value} {f : Addr} {A : Around} {E : Value → Shared → Prop} {s : Shared} {v : Value} {t : T} {cut : Nat} {tc : Tok} {Q : Value → Shared → Prop} (hok : t.ok) (hcut : cut < t.size)
    (hA : A.handled = none) (hD : A.depth + t.size + 2 < recursionLimit) (B : Base prog w mg mb s.heap) (hf : FnAt s.heap "_law_ruled" (stA 71) f) (hT : TreeAt s.heap v t)
    (h : ∀ s' a a1 a2 e e1 e2 vs1 vs2 X l x j, Fresh s s' X → (a, lst [.ref a1, .ref a2] e) ∈ X → (a1, lst vs1 e1) ∈ X → (a2, lst vs2 e2) ∈ X → Ints vs1 ((zL t).take cut ++ [127, 272]) → Ints vs2 (l ++ [x] ++ [0, 272]) → (zL t).drop cut = l ++ [x] ++ List.replicate j x → Q (.ref a) s') :
    wpAny (model prog w) A (call (.ref f) [v, .int cut tc]) Q E s := by
  obtain ⟨aS, eS, fS⟩ : ∃ a, mg "_law_sizes" = some (.ref a) ∧ FnAt s.heap "_law_sizes" (stA 70) a := B.fn 9 rfl
  have hzl := zL_len t
  have hk3 : t.size < 1000 := by rw [rl_lim] at hD; lia
  refine x_call [(Str.ofString "node", v), (Str.ofString "cut", .int cut tc)] hf B (by lia) (List.cons_ne_nil _ _) (fun _ _ _ => rfl) rfl ?_
  intro s0 L cd _ F
  have hA' : (A.deeper (envOf "_law_ruled" (dScope (stA 71)) L f cd)).handled = none := hA
  with_unfolding_all refine wpAny_execs_cons ?_
  walk_at "go"
  have F := ‹FS _ _ _ _ _ _›
  refine tpos F.tp (sizes_spec t.size t (Nat.le_refl _) hok _ _ _ _ _ hA' (by show A.depth + 1 + t.size + 1 < _; lia) (B.keeps F.kp) eS (fS.keeps F.kp) (Tr.kp hT F.kp) fun s1 R vs e X N hR hI P1 => ?_)
  replace F := F.after N P1
  rw [List.append_nil] at F
  clear N
  have hlv := hI.length
  walk_at "go"
  refine x_sliceList ‹FS _ _ _ _ _ _› ?_
  walk_at "go"
  have F := ‹FS _ _ _ _ _ _›
  refine ⟨R, _, _, some cut, none, _, _, rfl, F, F.get hR, by rw [sizeLine_eq]; lia, .int _ _, .none, fun s2 D F2 => ?_⟩
  rw [pick_from] at F2
  walk_at "go"
  have F := ‹FS _ _ _ _ _ _›
  obtain ⟨l0, x0, e0⟩ : ∃ l0 x0, (zL t).drop cut = l0 ++ [x0] := by
    rcases List.eq_nil_or_concat ((zL t).drop cut) with e | ⟨l, x, e⟩
    · have := congrArg List.length e
      simp at this
      lia
    · exact ⟨l, x, by rw [e, List.concat_eq_append]⟩
  refine x_whileJ (α := List Int × Int × Nat) (fun s' => ∃ l x j m₁ M₁ D ws e', FS s s.heap L m₁ M₁ s' ∧ l ++ [x] ++ List.replicate j x = (zL t).drop cut ∧ m₁ "row" = some (.ref R) ∧ m₁ "cut" = some (.int cut tc) ∧ (R, lst vs e) ∈ M₁ ∧ m₁ "last" = some (.ref D) ∧ (D, lst ws e') ∈ M₁ ∧ Ints ws (l ++ [x]))
    (fun p m₁ M₁ => p.1 ++ [p.2.1] ++ List.replicate p.2.2 p.2.1 = (zL t).drop cut ∧ m₁ "row" = some (.ref R) ∧ m₁ "cut" = some (.int cut tc) ∧ (R, lst vs e) ∈ M₁ ∧
    ∃ D ws e', m₁ "last" = some (.ref D) ∧ (D, lst ws e') ∈ M₁ ∧ Ints ws (p.1 ++ [p.2.1])) (fun p => p.1.length) (l0, x0, 0) F ?_ ?_ ?_
  · exact ⟨by rw [e0]; simp, rfl, rfl, .tail _ hR, D, _, _, rfl, .head _, by rw [← e0]; exact hI.drop cut⟩
  · rintro ⟨l, x, j⟩ m₁ M₁ s₁ ⟨hl, hr, hc, hR, D, ws, e', hd, hDm, hW⟩ F1
    dsimp only at hl hW ⊢
    have hlw := hW.length
    have hll : l.length + 1 ≤ t.size := by
      have := congrArg List.length hl
      simp at this
      lia
    simp only [List.length_append, List.length_cons, List.length_nil] at hlw
    have hwsz : ws.length ≤ sizeLine := by rw [sizeLine_eq]; lia
    walk_at "go"
    rcases List.eq_nil_or_concat l with rfl | ⟨l, y, rfl⟩
    · refine ite_neg (by rw [hlw]; simp) ?_
      refine ite_neg Bool.false_ne_true ?_
      exact ⟨_, _, _, _, _, _, _, _, ‹FS _ _ _ _ _ _›, hl, hr, hc, hR, hd, hDm, hW⟩
    · rw [List.concat_eq_append] at *
      simp only [List.length_append, List.length_cons, List.length_nil] at hlw hll ⊢
      refine ite_pos (by rw [hlw]; simp; lia) ?_
      obtain ⟨ty, hy⟩ := hW.at (i := l.length) (z := y) (by simp)
      obtain ⟨tx, hx⟩ := hW.at (i := l.length + 1) (z := x) (by simp)
      walk_at "go"
      refine x_itemNeg 2 rfl (FS.get ‹FS _ _ _ _ _ _› hDm) (by decide) (by lia) (by decide) (by rw [show ws.length - 2 = l.length by lia]; exact hy) ?_
      walk_at "go"
      refine x_itemNeg 1 rfl (FS.get ‹FS _ _ _ _ _ _› hDm) (by decide) (by lia) (by decide) (by rw [show ws.length - 1 = l.length + 1 by lia]; exact hx) ?_
      walk_at "go"
      by_cases hyx : y = x
      · subst hyx
        refine ite_pos (by simp) ?_
        walk_at "go"
        refine ite_pos rfl ?_
        walk_at "go"
        refine x_sliceList ‹FS _ _ _ _ _ _› ?_
        walk_at "go"
        have F := ‹FS _ _ _ _ _ _›
        refine ⟨D, ws, _, none, some (-1), _, _, rfl, F, F.get hDm, hwsz, .none, .int _ _, fun s2 D2 F2 => ?_⟩
        rw [slice_butLast] at F2
        walk_at "go"
        refine ⟨(l, y, j + 1), _, _, ‹FS _ _ _ _ (_ :: _) _›, ?_⟩
        refine ⟨by simp, ?_, hr, hc, .tail _ hR, D2, _, _, rfl, .head _, ?_⟩
        · rw [← hl]
          simp [List.replicate_succ]
        · unfold Ints at hW ⊢
          rw [List.map_dropLast, hW, ← List.map_dropLast]
          simp
      · refine ite_neg (by simpa using hyx) ?_
        refine ite_neg Bool.false_ne_true ?_
        exact ⟨l ++ [y], x, _, _, _, _, _, _, ‹FS _ _ _ _ _ _›, hl, hr, hc, hR, hd, hDm, hW⟩
  · rintro s₁ ⟨l, x, j, m₁, M₁, D, ws, e', F, hl, hr, hc, hR, hd, hDm, hW⟩
    walk_at "go"
    refine x_sliceList ‹FS _ _ _ _ _ _› ?_
    walk_at "go"
    have F := ‹FS _ _ _ _ _ _›
    refine ⟨R, vs, _, none, some cut, _, _, rfl, F, F.get hR, by rw [sizeLine_eq]; lia, .none, .int _ _, fun s2 D2 F2 => ?_⟩
    rw [slice_upto] at F2
    walk_at "go"
    have hlr : (l ++ [x]).length ≤ t.size := by
      have := congrArg List.length hl
      simp only [List.length_append, List.length_drop, List.length_replicate] at this ⊢
      lia
    have hlw := hW.length
    refine x_addList ‹FS _ _ _ _ _ _› (FS.get ‹FS _ _ _ _ _ _› (.tail _ (.head _))) (FS.get ‹FS _ _ _ _ _ _› (.head _)) (by rw [sizeLine_eq]; simp only [List.length_take, List.length_cons, List.length_nil]; lia) fun s3 D3 F3 => ?_
    walk_at "go"
    refine x_addList ‹FS _ _ _ _ _ _› (FS.get ‹FS _ _ _ _ _ _› (.tail _ (.tail _ (.tail _ (.tail _ hDm))))) (FS.get ‹FS _ _ _ _ _ _› (.head _)) (by rw [sizeLine_eq]; simp only [List.length_cons, List.length_nil]; lia) fun s4 D4 F4 => ?_
    walk_at "go"
    refine h _ _ D3 D4 _ _ _ _ _ _ l x j (FS.fresh ‹_›) (.head _) (.tail _ (.tail _ (.tail _ (.head _)))) (.tail _ (.head _)) ?_ ?_ hl.symm
    · exact (hI.take cut).append (.cons (.cons .nil))
    · exact hW.append (.cons (.cons .nil))
/-! all that lives beside a base -/
noncomputable def rest (hB h : Heap) (L : Addr) : List (Addr × Obj) := (List.range h.objs.size).filterMap fun b => if b = L then none else match hB.get? b with
  | some _ => none
  | none => (h.get? b).map fun o => (b, o)
theorem mem_rest {hB h : Heap} {L b : Addr} {o : Obj} : (b, o) ∈ rest hB h L ↔ b ≠ L ∧ hB.get? b = none ∧ h.get? b = some o := by
  unfold rest
  rw [List.mem_filterMap]
  constructor
  · rintro ⟨c, hc, e⟩
    by_cases hL : c = L
    · rw [if_pos hL] at e; cases e
    · rw [if_neg hL] at e
      cases hq : hB.get? c with
      | some x => rw [hq] at e; cases e
      | none =>
        rw [hq] at e
        cases hh : h.get? c with
        | none => rw [hh] at e; cases e
        | some x =>
          rw [hh] at e
          cases e
          exact ⟨hL, hq, hh⟩
  · rintro ⟨hL, hq, hh⟩
    exact ⟨b, List.mem_range.mpr (Heap.lt_size hh), by rw [if_neg hL, hq, hh]; rfl⟩
theorem rest_keys (hB h : Heap) (L : Addr) : ((rest hB h L).map (·.1)).Sublist (List.range h.objs.size) := by
  unfold rest
  rw [List.map_filterMap]
  suffices ∀ l : List Nat, (l.filterMap fun b => Option.map (·.1) (if b = L then none else match hB.get? b with
      | some _ => none
      | none => (h.get? b).map fun o => (b, o))).Sublist l from this _
  intro l
  induction l with
  | nil => exact .slnil
  | cons b l ih =>
    rw [List.filterMap_cons]
    by_cases hL : b = L
    · rw [if_pos hL]; exact .cons _ ih
    · rw [if_neg hL]
      cases hB.get? b with
      | some x => exact .cons _ ih
      | none =>
        cases h.get? b with
        | none => exact .cons _ ih
        | some o => exact .cons_cons _ ih
theorem rest_nodup (hB h : Heap) (L : Addr) : ((rest hB h L).map (·.1)).Nodup := (List.nodup_range).sublist (rest_keys hB h L)
section
variable {prog : Program} {w : World} {A : Around} {E : Value → Shared → Prop} {g s s' : Shared} {name : Str} {scope : Scope} {L a : Addr} {cd : Value} {hB h₀ : Heap} {m mg mb : Str → Option Value} {M M' : List (Addr × Obj)}
theorem FS.all (F : Fr hB L s.heap m) (tp : 0 < s.toks) : FS s hB L m (rest hB s.heap L) s :=
  ⟨Sm.refl, F, fun p hp => by obtain ⟨a, b, c⟩ := mem_rest.mp hp; exact ⟨c, a, b⟩, rest_nodup _ _ _, tp⟩
theorem FS.pull {p : Addr × Obj} (F : FS g h₀ L m M s) (hp : p ∈ M) : ∃ R, FS g h₀ L m (R ++ [p]) s ∧ (∀ q ∈ M, q.1 ≠ p.1 → q ∈ R) ∧ ∀ q ∈ R, q ∈ M ∧ q.1 ≠ p.1 := by
  obtain ⟨x, y, rfl⟩ := List.append_of_mem hp
  have F2 : FS g h₀ L m ((x ++ y) ++ [p]) s := F.perm (List.perm_middle.trans (List.perm_append_singleton _ _).symm)
  refine ⟨x ++ y, F2, fun q hq hne => ?_, fun q hq => ⟨?_, fun e => ?_⟩⟩
  · rcases List.mem_append.mp hq with h | h
    · exact List.mem_append_left _ h
    · rcases List.mem_cons.mp h with rfl | h
      · exact absurd rfl hne
      · exact List.mem_append_right _ h
  · rcases List.mem_append.mp hq with h | h
    · exact List.mem_append_left _ h
    · exact List.mem_append_right _ (.tail _ h)
  · have := F2.nd
    rw [List.map_append, List.nodup_append] at this
    exact this.2.2 q.1 (List.mem_map.mpr ⟨q, hq, rfl⟩) p.1 (by simp) e
/-- several of the ledger's end turned -/
theorem FS.turns {Z Z' : List (Addr × Obj)} {s' : Shared} (F : FS g h₀ L m (M ++ Z) s) (hz : Z'.map (·.1) = Z.map (·.1)) (ho : ∀ p ∈ Z', s'.heap.get? p.1 = some p.2) (hs : ∀ b x, b ∉ Z.map (·.1) → s.heap.get? b = some x → s'.heap.get? b = some x) (S : Sm g s') (tp : 0 < s'.toks) : FS g h₀ L m (M ++ Z') s' := by
  have hd : ∀ b ∈ Z.map (·.1), b ≠ L ∧ h₀.get? b = none := by
    intro b hb
    obtain ⟨p, hp, rfl⟩ := List.mem_map.mp hb
    exact (F.ns p (List.mem_append_right _ hp)).2
  have hn := F.nd
  rw [List.map_append] at hn
  refine ⟨S, ⟨F.fr.ns.at' fun x e => hs _ x (fun hb => (hd _ hb).1 rfl) e, fun b x e => hs b x (fun hb => ?_) (F.fr.keep b x e), F.fr.above⟩, fun p hp => ?_, ?_, tp⟩
  · rw [(hd _ hb).2] at e
    cases e
  · rcases List.mem_append.mp hp with hp | hp
    · have h1 := F.ns p (List.mem_append_left _ hp)
      exact ⟨hs _ _ (fun hb => (List.nodup_append.mp hn).2.2 _ (List.mem_map.mpr ⟨p, hp, rfl⟩) _ hb rfl) h1.1, h1.2⟩
    · exact ⟨ho p hp, hd _ (hz ▸ List.mem_map.mpr ⟨p, hp, rfl⟩)⟩
  · rw [List.map_append, hz]
    exact hn
theorem x_storeS {x : Str} {v : Value} {Q : Unit → Shared → Prop} (F : FS g h₀ L m M s)
    (h : ∀ s', FS g h₀ L (fun y => if y = x then some v else m y) M s' → s'.heap.objs.size = s.heap.objs.size → Q () s')
    (hk : scope.kind = .function := by rfl) (hl : (envOf name scope L a cd).kindOf x = some .local := by rfl) :
    wpAny (model prog w) A (storeName (envOf name scope L a cd) x v) Q E s :=
  wpAny_storeName_local hl F.fr.ns (fun h' hn hs => h { s with heap := h', toks := s.toks + 1 } ⟨F.sm.trans (.of rfl rfl), F.fr.set hn hs, F.ns.set hs, F.nd, Nat.succ_pos _⟩ hs.1)
    (by show (scope.kind == .class || (scope.kind == .module && L != mainGlobals)) = false; rw [hk]; rfl)
end
/-! a generator's statements -/
section
variable {M : Model} {A : Around} {R : GenEnd} {Y : Protocol} {n : Nat} {s₀ : Shared} {c : Code} {fs : List Frame} {s : Shared} {env : Env} {K : Flow → Sem Fin} {H : Value → Sem Fin} {gd : Bool → Bool} {lv : List Value → List Value}
theorem seg_plain {st : Stmt} (h : wpAny M (A.over c fs) (exec st env) (fun f s' => Seg M A R Y n s₀ c (K f) fs s') (fun _ _ => False) s) : Seg M A R Y n s₀ c ((exec st env).wrap K H gd lv) fs s :=
  seg_wrap (wpAny_mono h (fun _ _ x => x) fun _ _ x => x.elim)
theorem seg_If {test : Expr} {body els : List Stmt} {pos : Pos}
    (h : wpAny M (A.over c fs) (isTrue test env (eval test env)) (fun b s' => if b then Seg M A R Y n s₀ c ((execs body env).wrap K H gd lv) fs s' else Seg M A R Y n s₀ c ((execs els env).wrap K H gd lv) fs s') (fun _ _ => False) s) :
    Seg M A R Y n s₀ c ((exec (.If test body els pos) env).wrap K H gd lv) fs s := by
  rw [exec_If, Sem.bind_eq_wrap', Sem.wrap_wrap]
  refine seg_wrap (wpAny_standAt ?_)
  refine seg_bind_wrap (wpAny_mono h (fun b s' hb => ?_) fun _ _ x => x.elim)
  cases b with
  | true => exact hb
  | false => exact hb
/-- the frame that waits behind a loop's statement -/
noncomputable def kept (env : Env) (K : Flow → Sem Fin) (H : Value → Sem Fin) (gd : Bool → Bool) (lv : List Value → List Value) (c : Code) (p : Pos) : Frame :=
  .ret (fun r => ((match r with | .ok f => (.pure f : Sem Flow) | .error e => .raise e).onRaise fun (x : Value) => do
        if (← field x 1) == Value.none then unsupported "frame.own-activation:exception-without-traceback"
        setFlight x env.frame).wrap K H gd lv) none (gd false) (lv []) c p []
theorem seg_kept {f : Flow} {c' : Code} {p : Pos} (h : Seg M A R Y n s₀ c (K f) fs s) : Seg M A R Y n s₀ c' (leafOf (.ok f)) (kept env K H gd lv c p :: fs) s := seg_leaf (.ok f) h
theorem seg_WhileK {test : Expr} {body orelse : List Stmt} {pos : Pos}
    (h : ∀ p, Seg M A R Y n s₀ (.whileLoop test body orelse env) (M.den (.whileLoop test body orelse env)) (kept env K H gd lv c p :: fs) s) :
    Seg M A R Y n s₀ c ((exec (.While test body orelse pos) env).wrap K H gd lv) fs s := seg_While h
theorem seg_For {target iter : Expr} {body orelse : List Stmt} {pos : Pos}
    (h : wpAny M (A.over c fs) (eval iter env) (fun x s₁ => wpAny M (A.over c fs) (pyIter x) (fun it s₂ => ∀ p, Seg M A R Y n s₀ (.forLoop target it body orelse env) (M.den (.forLoop target it body orelse env)) (kept env K H gd lv c p :: fs) s₂) (fun _ _ => False) s₁) (fun _ _ => False) s)
    (hs : ∀ x, foldedSetIterable iter env x = pure x := by intro _; rfl) :
    Seg M A R Y n s₀ c ((exec (.For target iter body orelse pos) env).wrap K H gd lv) fs s := by
  rw [exec_For]
  refine seg_bind_wrap (wpAny_standAt ?_)
  refine seg_bind_wrap (wpAny_mono h (fun x s₁ h₁ => ?_) fun _ _ x => x.elim)
  refine seg_bind_wrap (wpAny_of_eq (hs x) ?_)
  refine seg_bind_wrap (wpAny_standAt ?_)
  refine seg_bind_wrap (wpAny_holding (wpAny_mono h₁ (fun it s₂ h₂ => ?_) fun _ _ x => x.elim))
  exact seg_call h₂
end
/-! the generator of the sizes -/
noncomputable def kf (target : Expr) (it : Value) (body : List Stmt) (env : Env) : Flow → Sem Fin := fun f => match f with
  | .next | .cont => .pure (.again (.forLoop target it body [] env))
  | .brk => .pure (.done .next)
  | .ret v => .pure (.done (.ret v))
section
variable {prog : Program} {w : World} {A : Around} {R : GenEnd} {Y : Protocol} {n : Nat} {s₀ : Shared} {fs : List Frame} {s : Shared} {env : Env}
theorem seg_forLoop {x : Str} {px : Pos} {it : Value} {body : List Stmt}
    (h : wpAny (model prog w) (A.over (.forLoop (.Name x px) it body [] env) fs) (pyNext it) (fun r s₁ => match r with
      | none => Seg (model prog w) A R Y n s₀ (.block [] env) (.pure (.done .next)) fs s₁
      | some v => wpAny (model prog w) (A.over (.forLoop (.Name x px) it body [] env) fs) (storeName env x v) (fun _ s₂ => ∀ H, Seg (model prog w) A R Y n s₀ (.forLoop (.Name x px) it body [] env) ((execs body env).wrap (kf (.Name x px) it body env) H id id) fs s₂) (fun _ _ => False) s₁) (fun _ _ => False) s) :
    Seg (model prog w) A R Y n s₀ (.forLoop (.Name x px) it body [] env) ((model prog w).den (.forLoop (.Name x px) it body [] env)) fs s := by
  show Seg _ A R Y n s₀ _ ((forTurn (.Name x px) it body [] env).onRaise (fun x => do noteFrame x env; theTreesLotGoes x)) fs s
  unfold forTurn
  rw [Sem.onRaise_eq_wrap]
  refine seg_bind_wrap (wpAny_standAt ?_)
  refine seg_bind_wrap (wpAny_onRaise (wpAny_mono h (fun r s₁ h₁ => ?_) fun _ _ x => x.elim))
  cases r with
  | none => exact seg_again rfl h₁
  | some v =>
    refine seg_bind_wrap (wpAny_of_eq (a := ()) rfl ?_)
    refine seg_bind_wrap (wpAny_assign_Name (wpAny_mono h₁ (fun _ s₂ h₂ => ?_) fun _ _ x => x.elim))
    rw [Sem.bind_eq_wrap', Sem.wrap_wrap, Sem.wrap_congr (execs body env) _ _ (K' := kf (.Name x px) it body env) (fun f => by cases f <;> rfl) (fun _ => rfl)]
    exact h₂ _
end
noncomputable def out : Option Int → List Int → Nat → Option Int
  | _, [], _ => none
  | last, z :: r, j => if z = 127 then none else if z = 0 then last else match j with
    | 0 => some z
    | j + 1 => out (some z) r j
def Beside (L I : Addr) (s₀ s : Shared) : Prop := Sm s₀ s ∧ 0 < s.toks ∧ ∀ b o, b ≠ L → b ≠ I → s₀.heap.get? b = some o → s.heap.get? b = some o
def gY (hB : Heap) (L I : Addr) (zs : List Int) (N : Nat) : Protocol := fun m s₀ v s kap => (∃ z t, v = .int z t ∧ out none zs (N - 1 - m) = some z) ∧ Beside L I s₀ s ∧
  ∃ mL oI, s.heap.Ns L mL ∧ s.heap.get? I = some oI ∧ (0 < m → ∀ s'', s''.heap.Ns L mL → s''.heap.get? I = some oI → Kp hB s''.heap → 0 < s''.toks → kap (.send .none) s'')
def gR (L I : Addr) (zs : List Int) (N : Nat) : GenEnd := fun n s₀ r s => r = .ok (.ret .none) ∧ (out none zs (N - n) = none ∧ Beside L I s₀ s)
theorem beside_of {hB : Heap} {L I : Addr} {s₀ s : Shared} {m : Str → Option Value} {Rs : List (Addr × Obj)} {oI : Obj} (F : FS s₀ hB L m (Rs ++ [(I, oI)]) s) (hk : ∀ b o, b ≠ L → b ≠ I → s₀.heap.get? b = some o → hB.get? b = some o ∨ (b, o) ∈ Rs) : Beside L I s₀ s :=
  ⟨F.sm, F.tp, fun b o h1 h2 e => (hk b o h1 h2 e).elim (fun x => F.kp _ _ x) fun x => F.get (List.mem_append_left _ x)⟩
/-- the frame at a resumption -/
theorem resume_at {hB : Heap} {L I : Addr} {s : Shared} {m : Str → Option Value} {oI : Obj} (hn : s.heap.Ns L m) (hI : s.heap.get? I = some oI) (k : Kp hB s.heap) (tp : 0 < s.toks) (hL : hB.objs.size ≤ L) (hIB : hB.get? I = none) (hIL : I ≠ L) :
    ∃ Rs, FS s hB L m (Rs ++ [(I, oI)]) s ∧ ∀ b o, b ≠ L → b ≠ I → s.heap.get? b = some o → hB.get? b = some o ∨ (b, o) ∈ Rs := by
  have F : FS s hB L m (rest hB s.heap L) s := FS.all ⟨hn, k, hL⟩ tp
  obtain ⟨Rs, F2, h1, _⟩ := F.pull (p := (I, oI)) (mem_rest.mpr ⟨hIL, hIB, hI⟩)
  refine ⟨Rs, F2, fun b o hb hbI e => ?_⟩
  cases hq : hB.get? b with
  | none => exact .inr (h1 _ (mem_rest.mpr ⟨hb, hq, e⟩) hbI)
  | some x =>
    have := k _ _ hq
    rw [e] at this
    exact .inl this.symm
noncomputable abbrev gSt : Stmt := stA 3
noncomputable def gBody : List Stmt := match (dBody gSt)[1]? with | some (Stmt.For _ _ b _ _) => b | _ => []
noncomputable def gPx : Pos := match (dBody gSt)[1]? with | some (Stmt.For (Expr.Name _ p) _ _ _ _) => p | _ => default
def lastV : Option Int → Value → Prop
  | none, v => v = .none
  | some z, v => ∃ t, v = .int z t
noncomputable abbrev gE (L f : Addr) (cd : Value) : Env := envOf "_grouping_intervals" (dScope gSt) L f cd
noncomputable def gK0 : Flow → Sem Fin := fun f => .pure (.done (.ret (match f with | .ret v => v | _ => .none)))
noncomputable def gK1 (env : Env) (H0 : Value → Sem Fin) : Flow → Sem Fin := fun f => match f with | .next => (execs [] env).wrap gK0 H0 id id | f => gK0 f
noncomputable abbrev gFs (env : Env) (H0 : Value → Sem Fin) (p : Pos) : List Frame := [kept env (gK1 env H0) H0 id id (.func (dBody gSt) env) p]
noncomputable abbrev gC (I : Addr) (env : Env) : Code := .forLoop (.Name "interval" gPx) (.ref I) gBody [] env
noncomputable abbrev gT (k : Nat) (p0 : Pos) : Expr := .Constant (.bool true) k p0
noncomputable abbrev gB2 (p1 p2 p3 : Pos) : List Stmt := [.Expr (.Yield (some (.Name "last_interval" p1)) p2) p3]
set_option maxHeartbeats 4000000 in
theorem grp_while {prog : Program} {w : World} {A : Around} {hB : Heap} {L I f : Addr} {cd : Value} {zs : List Int} {N : Nat} {fs : List Frame} {z : Int} {t : Tok} {k0 : Nat} {p0 p1 p2 p3 : Pos}
    (hfs : splitAtGen fs = none) (hfg : fs.any Frame.guarded = false) (hLB : hB.objs.size ≤ L) (hIB : hB.get? I = none) (hIL : I ≠ L) :
    ∀ (n : Nat), n < N → (∀ j, N - 1 - n ≤ j → out none zs j = some z) → ∀ (s₀ s : Shared) (m : Str → Option Value) (Rs : List (Addr × Obj)) (oI : Obj), FS s₀ hB L m (Rs ++ [(I, oI)]) s →
      (∀ b o, b ≠ L → b ≠ I → s₀.heap.get? b = some o → hB.get? b = some o ∨ (b, o) ∈ Rs) → m "last_interval" = some (.int z t) →
      Seg (model prog w) A (gR L I zs N) (gY hB L I zs N) (n + 1) s₀ (.whileLoop (gT k0 p0) (gB2 p1 p2 p3) [] (gE L f cd)) ((model prog w).den (.whileLoop (gT k0 p0) (gB2 p1 p2 p3) [] (gE L f cd))) fs s := by
  intro n
  induction n with
  | zero =>
    intro hn hout s₀ s m Rs oI F hk hlv
    refine seg_whileLoop ?_
    walk_at "go"
    refine ite_pos rfl ?_
    refine seg_execs_cons ?_
    refine seg_Expr_Yield hfs rfl hfg (absQ fun Q1 q1 => ?_)
    walk_at "go"
    refine Le.use q1 ?_; clear q1
    intro kap _
    have F := ‹FS _ _ _ _ _ _›
    exact ⟨⟨z, t, rfl, hout _ (Nat.le_refl _)⟩, beside_of F hk, m, oI, F.fr.ns, F.get (List.mem_append_right _ (.head _)), fun h => absurd h (Nat.lt_irrefl _)⟩
  | succ n ih =>
    intro hn hout s₀ s m Rs oI F hk hlv
    refine seg_whileLoop ?_
    walk_at "go"
    refine ite_pos rfl ?_
    refine seg_execs_cons ?_
    refine seg_Expr_Yield hfs rfl hfg (absQ fun Q1 q1 => ?_)
    walk_at "go"
    refine Le.use q1 ?_; clear q1
    intro kap hkap
    replace hkap : ∀ s'', Seg _ _ _ _ _ s'' _ _ _ s'' → kap (.send .none) s'' := hkap .none
    have F := ‹FS _ _ _ _ _ _›
    refine ⟨⟨z, t, rfl, hout _ (Nat.le_refl _)⟩, beside_of F hk, m, oI, F.fr.ns, F.get (List.mem_append_right _ (.head _)), fun _ s'' hL hI hkp htp => hkap s'' ?_⟩
    obtain ⟨Rs', F', hk'⟩ := resume_at hL hI hkp htp hLB hIB hIL
    exact seg_again rfl (ih (by lia) (fun j hj => hout j (by lia)) s'' s'' m Rs' oI F' hk' hlv)
set_option maxHeartbeats 4000000 in
theorem grp_loop {prog : Program} {w : World} {mg mb : Str → Option Value} {A : Around} {hB : Heap} {L I l f : Addr} {cd : Value} {vs : List Value} {zs : List Int} {e N : Nat} {H0 : Value → Sem Fin} {p : Pos}
    (hA : A.handled = none) (B : Base prog w mg mb hB) (hl : hB.get? l = some (lst vs e)) (hz : Ints vs zs) (hz0 : zs[0]? ≠ some 0) (hN : zs.length + 2 < N) (hLB : hB.objs.size ≤ L) (hIB : hB.get? I = none) (hIL : I ≠ L) :
    ∀ (k i : Nat), i + k = zs.length → ∀ (s₀ s : Shared) (m : Str → Option Value) (Rs : List (Addr × Obj)) (oI : Obj) (last : Option Int) (lv : Value), FS s₀ hB L m (Rs ++ [(I, oI)]) s →
      (∀ b o, b ≠ L → b ≠ I → s₀.heap.get? b = some o → hB.get? b = some o ∨ (b, o) ∈ Rs) → s.heap.IsListIter I l i → m "last_interval" = some lv → lastV last lv → (∀ j, out none zs (i + j) = out last (zs.drop i) j) → (last = none → i = 0) →
      Seg (model prog w) A (gR L I zs N) (gY hB L I zs N) (N - i) s₀ (gC I (gE L f cd)) ((model prog w).den (gC I (gE L f cd))) (gFs (gE L f cd) H0 p) s := by
  obtain ⟨tM, eM⟩ : ∃ t, mg "CHAR_MAX" = some (.int 127 t) := B.consts ("CHAR_MAX", 127) (.head _)
  have hh : (A.over (gC I (gE L f cd)) (gFs (gE L f cd) H0 p)).handled = none := hA
  have hlI : l ≠ I := fun x => by rw [x, hIB] at hl; cases hl
  have W := Walks.list (prog := prog) (w := w) hh I l hlI vs.toArray
  have hlv' := hz.length
  have fin : ∀ {n s₀ s}, out none zs (N - n) = none → Beside L I s₀ s → Seg (model prog w) A (gR L I zs N) (gY hB L I zs N) n s₀ (.func (dBody gSt) (gE L f cd)) (leafOf (.ok (.ret .none))) [] s := fun h1 h2 => seg_end _ ⟨rfl, h1, h2⟩
  intro k
  induction k with
  | zero =>
    intro i hi s₀ s m Rs oI last lv F hk hit hlv hla hout h0
    have hii : vs.toArray.size = i := by rw [List.size_toArray]; lia
    refine seg_forLoop (tpos F.tp (W.done _ _ _ ⟨by rw [hii]; exact hit, isList_of (F.kp _ _ hl)⟩ fun h₁ tk₁ hk₁ htp => ?_))
    refine seg_kept (f := .next) (fin ?_ ⟨F.sm.trans (.of rfl rfl), htp, fun b o h1 h2 e => hk₁ b o (by simpa using h2) ((beside_of F hk).2.2 b o h1 h2 e)⟩)
    rw [show N - (N - i) = i + 0 by lia, hout 0, show i = zs.length by lia, List.drop_length]
    rfl
  | succ k ih =>
    intro i hi s₀ s m Rs oI last lv F hk hit hlv hla hout h0
    obtain ⟨z, hzi⟩ : ∃ z, zs[i]? = some z := ⟨_, List.getElem?_eq_getElem (by lia)⟩
    obtain ⟨t, hvi⟩ := hz.at hzi
    have hout0 : out none zs i = out last (zs.drop i) 0 := hout 0
    have hdrop : zs.drop i = z :: zs.drop (i + 1) := by
      obtain ⟨hi', e⟩ := List.getElem?_eq_some_iff.mp hzi
      rw [List.drop_eq_getElem_cons hi', e]
    rw [hdrop] at hout0 hout
    obtain ⟨n, hn⟩ : ∃ n, N - i = n + 1 := ⟨N - i - 1, by lia⟩
    rw [hn]
    refine seg_forLoop (tpos F.tp (W.item i _ _ _ (by rw [List.size_toArray]; lia) ⟨hit, isList_of (F.kp _ _ hl)⟩ fun v h₁ tk₁ hP st₂ hk₁ htp => ?_))
    have hP' : vs[i]? = some v := by simpa using hP
    rw [hvi] at hP'
    cases hP'
    obtain ⟨o₂, ho₂⟩ : ∃ o, h₁.get? I = some o := let ⟨o, ho, _⟩ := st₂.1; ⟨o, ho⟩
    have F₂ := F.turnK (tk := tk₁) ho₂ (fun b x hb e => hk₁ b x (by simpa using hb) e) htp
    refine x_store F₂ fun s₃ F₃ H => ?_
    clear F₂
    with_unfolding_all refine seg_execs_cons ?_
    refine seg_plain ?_
    walk_at "go"
    by_cases h127 : z = 127
    · subst h127
      refine ite_pos (by simp) ?_
      walk_at "go"
      exact seg_kept (f := .ret .none) (fin (by rw [show N - (n + 1) = i by lia, hout0]; rfl) (beside_of ‹FS _ _ _ _ _ _› hk))
    · refine ite_neg (by simpa using h127) ?_
      walk_at "go"
      refine seg_execs_cons (seg_If ?_)
      walk_at "go"
      by_cases hz : z = 0
      · subst hz
        refine ite_pos (by simp) ?_
        cases last with
        | none =>
          have := h0 rfl
          subst this
          exact absurd hzi hz0
        | some zl =>
          obtain ⟨tl, rfl⟩ := hla
          refine seg_execs_cons (seg_plain ?_)
          walk_at "go"
          refine ite_neg Bool.false_ne_true ?_
          walk_at "go"
          refine seg_execs_cons (seg_WhileK fun p2 => ?_)
          have F := ‹FS _ _ _ _ _ _›
          refine grp_while (z := zl) (t := tl) rfl rfl hLB hIB hIL n (by lia) (fun j hj => ?_) s₀ _ _ Rs o₂ F hk ?_
          rotate_left
          · exact hlv
          rw [show j = i + (j - i) by lia, hout]
          rfl
      · refine ite_neg (by simpa using hz) ?_
        refine seg_execs_nil ?_
        refine seg_execs_cons (seg_Expr_Yield rfl rfl rfl (absQ fun Q1 q1 => ?_))
        walk_at "go"
        refine Le.use q1 ?_; clear q1
        intro kap hkap
        replace hkap : ∀ s'', Seg _ _ _ _ _ s'' _ _ _ s'' → kap (.send .none) s'' := hkap .none
        have F := ‹FS _ _ _ _ _ _›
        have hout1 : ∀ j, out last (z :: zs.drop (i + 1)) (j + 1) = out (some z) (zs.drop (i + 1)) j := fun j => by
          show (if z = 127 then none else if z = 0 then last else _) = _
          rw [if_neg h127, if_neg hz]
        refine ⟨⟨z, t, rfl, ?_⟩, beside_of F hk, _, o₂, F.fr.ns, F.get (List.mem_append_right _ (.head _)), fun _ s'' hL hI hkp htp => hkap s'' ?_⟩
        · rw [show N - 1 - n = i by lia, hout0]
          show (if z = 127 then none else if z = 0 then last else _) = _
          rw [if_neg h127, if_neg hz]
        obtain ⟨Rs', F', hk'⟩ := resume_at hL hI hkp htp hLB hIB hIL
        refine seg_execs_cons (seg_plain ?_)
        walk_at "go"
        refine seg_execs_nil (seg_again rfl ?_)
        have e := ih (i + 1) (by lia) s'' _ _ Rs' o₂ (some z) _ ‹FS _ _ _ _ _ _› hk' ?_ rfl ⟨t, rfl⟩ (fun j => by rw [show i + 1 + j = i + (j + 1) by lia, hout, hout1]) (fun h => nomatch h)
        · rw [show N - (i + 1) = n by lia] at e
          exact e
        · obtain ⟨o, ho, c1, c2⟩ := st₂.1
          rw [ho₂] at ho
          cases ho
          exact ⟨o₂, FS.get ‹FS s'' hB L _ _ _› (List.mem_append_right _ (.head _)), c1, c2⟩
/-! the generator called, woken, walked over -/
section
variable {prog : Program} {w : World} {A : Around} {E : Value → Shared → Prop} {g s s' : Shared} {name : Str} {scope : Scope} {L a : Addr} {cd : Value} {hB h₀ : Heap} {m mg mb : Str → Option Value} {M M' : List (Addr × Obj)}
theorem get_size (h : Heap) : h.get? h.objs.size = none := by
  cases e : h.get? h.objs.size with
  | none => rfl
  | some o => exact absurd (Heap.lt_size e) (Nat.lt_irrefl _)
/-- several of the ledger's end turned, and new ones made -/
theorem FS.wake {Z Z' : List (Addr × Obj)} {s' : Shared} (F : FS g h₀ L m (M ++ Z) s) (hz : ∀ p ∈ Z', p.1 ∈ Z.map (·.1) ∨ s.heap.get? p.1 = none) (hnd : (Z'.map (·.1)).Nodup) (ho : ∀ p ∈ Z', s'.heap.get? p.1 = some p.2)
    (hs : ∀ b x, b ∉ Z.map (·.1) → s.heap.get? b = some x → s'.heap.get? b = some x) (S : Sm g s') (tp : 0 < s'.toks) : FS g h₀ L m (M ++ Z') s' := by
  have hd : ∀ b ∈ Z.map (·.1), b ≠ L ∧ h₀.get? b = none := by
    intro b hb
    obtain ⟨p, hp, rfl⟩ := List.mem_map.mp hb
    exact (F.ns p (List.mem_append_right _ hp)).2
  have hn := F.nd
  rw [List.map_append] at hn
  refine ⟨S, ⟨F.fr.ns.at' fun x e => hs _ x (fun hb => (hd _ hb).1 rfl) e, fun b x e => hs b x (fun hb => ?_) (F.fr.keep b x e), F.fr.above⟩, fun p hp => ?_, ?_, tp⟩
  · rw [(hd _ hb).2] at e
    cases e
  · rcases List.mem_append.mp hp with hp | hp
    · have h1 := F.ns p (List.mem_append_left _ hp)
      exact ⟨hs _ _ (fun hb => (List.nodup_append.mp hn).2.2 _ (List.mem_map.mpr ⟨p, hp, rfl⟩) _ hb rfl) h1.1, h1.2⟩
    · refine ⟨ho p hp, ?_⟩
      rcases hz p hp with h1 | h1
      · exact hd _ h1
      · refine ⟨fun e => ?_, ?_⟩
        · obtain ⟨o, _, _, h2, _⟩ := F.fr.ns
          rw [e, h2] at h1
          cases h1
        · cases h2 : h₀.get? p.1 with
          | none => rfl
          | some o => rw [F.kp _ _ h2] at h1; cases h1
  · rw [List.map_append]
    refine List.nodup_append.mpr ⟨(List.nodup_append.mp hn).1, hnd, ?_⟩
    rintro b hb _ hc rfl
    obtain ⟨p, hp, e⟩ := List.mem_map.mp hc
    rcases hz p hp with h1 | h1
    · exact (List.nodup_append.mp hn).2.2 _ hb _ (e ▸ h1) rfl
    · obtain ⟨q, hq, e2⟩ := List.mem_map.mp hb
      have := F.get (List.mem_append_left _ hq)
      rw [e2, ← e, h1] at this
      cases this

/-- a generator function of the text, called -/
theorem x_callGen {st : Stmt} {Q : Value → Shared → Prop} {args : List Value} {f : Addr} {nm : Str} (binds : List (Str × Value))
    (F : FS g h₀ L m M s) (hf : FnAt s.heap nm st f) (B : Base prog w mg mb s.heap) (hroom : A.depth < recursionLimit)
    (hbind : ∀ pm cd doc, bindArgs (docDef nm (dParams st) (dBody st) (dScope st) pm cd doc) ⟨args, []⟩ = pure binds)
    (hloc : (binds.all fun x => decide ((dScope st).names.lookup x.1 = some .local)) = true)
    (h : ∀ s' G Lg oG oL cd, FS g h₀ L m ((G, oG) :: (Lg, oL) :: M) s' → s'.heap.IsGen G s.gens.size → s.heap.objs.size ≤ Lg → s'.heap.Ns Lg (fun x => binds.reverse.lookup x) →
      s'.gens = s.gens.push (.fresh (.func (dBody st) (envOf nm (dScope st) Lg f cd))) → Q (.ref G) s')
    (hco : (dScope st).isCoroutine = false := by rfl) (hgen : (dScope st).isGenerator = true := by rfl) (hk : (dScope st).kind = .function := by rfl)
    (hcell : ∀ x ∈ (dScope st).names, x.2 ≠ .cell := by decide) :
    wpAny (model prog w) A (call (.ref f) args) Q E s := by
  obtain ⟨o, pm, cd, doc, ho, hd, hc⟩ := hf
  refine wpAny_call (codeAny_call_generator hroom ho hd hco hgen rfl hc ?_)
  rw [hbind]
  refine wpAny_pure (wpAny_newFunctionEnv hcell (locs hloc) (fun h₁ hns hsb => ⟨B.nolimit.fresh _ hsb, ?_⟩) hk)
  obtain ⟨oL, hoL⟩ : ∃ oL, h₁.get? s.heap.objs.size = some oL := let ⟨o, _, _, e, _⟩ := hns; ⟨o, e⟩
  have hk1 : ∀ b x, s.heap.get? b = some x → h₁.get? b = some x := fun b o e => hsb.extBut b o (Nat.ne_of_lt (Heap.lt_size e)) (Heap.get?_push_of_some _ e)
  have F1 : FS g h₀ L m ([(s.heap.objs.size, oL)] ++ M) { s with heap := h₁, toks := s.toks + binds.length } := F.after (X := [(s.heap.objs.size, oL)]) ⟨.of rfl rfl, hk1, fun p hp => by
    rw [List.mem_singleton.mp hp]
    exact ⟨hoL, get_size _⟩, by simp⟩ (Nat.lt_of_lt_of_le F.tp (Nat.le_add_right _ _))
  have F2 := F1.push { cls := .type "generator", data := .fields #[.int s.gens.size 0, .str nm (s.toks + binds.length), .str nm (s.toks + binds.length + 1)] }
  refine h _ _ _ _ _ cd (F2.kept (s' := { s with heap := _, gens := s.gens.push (.fresh (.func (dBody st) (envOf nm (dScope st) s.heap.objs.size f cd))), toks := s.toks + binds.length + 1 + 1 }) Kp.refl ⟨rfl, fun i x e => ?_, fun hb => ?_⟩ (Nat.succ_pos _)) ⟨_, _, _, Heap.get?_push_size _ rfl, rfl, rfl, rfl⟩ (Nat.le_refl _) (hns.at' fun o e => Heap.get?_push_of_some _ e) rfl
  · have hi := (Array.getElem?_eq_some_iff.mp e).1
    exact (Array.getElem?_push_lt hi).trans ((Array.getElem?_eq_getElem hi).symm.trans e)
  · exact hb.push rfl

theorem setGen_ne {s : Shared} {gi i : Nat} {x : GenState} (h : i ≠ gi) : (s.setGen gi x).gens[i]? = s.gens[i]? := (GenOnly.setGen s gi x).2 i h
theorem bare_setGen {s : Shared} {gi : Nat} {x : GenState} (hx : x.bare = true) (h : AllBare s.gens) : AllBare (s.setGen gi x).gens := by
  intro y hy
  obtain ⟨i, hi, rfl⟩ := Array.mem_iff_getElem.mp hy
  by_cases e : i = gi
  · subst e
    have hi2 : i < s.gens.size := by have := (GenOnly.setGen s i x).1; lia
    have h1 : (s.setGen i x).gens[i]? = some x := setGen_self (Array.getElem?_eq_getElem hi2)
    rw [Array.getElem?_eq_getElem hi] at h1
    rw [Option.some.inj h1]
    exact hx
  · have h1 := (GenOnly.setGen s gi x).2 i e
    rw [Array.getElem?_eq_getElem hi] at h1
    obtain ⟨h2, h3⟩ := Array.getElem?_eq_some_iff.mp h1.symm
    exact h3 ▸ h (s.gens[i]) (Array.getElem_mem h2)
/-- a generator's next item; what sleeps behind it holds no cleanup -/
theorem x_nextQ {G : Addr} {gi n : Nat} {gs : GenState} {P : Nat → Shared → Shared → Prop} {Y : Protocol} {Q : Option Value → Shared → Prop} (hh : A.handled = none)
    (hl : s.heap.NoLimit) (hroom : A.depth < recursionLimit) (hg : s.heap.IsGen G gi) (hgs : s.gens[gi]? = some gs)
    (hgo : gs.Goes (model prog w) A.in1 (fun n s₀ r s₁ => r = .ok (.ret .none) ∧ P n s₀ s₁) Y n (.send .none) (s.setGen gi .running))
    (hY : ∀ v s₁ gs', gs'.bare = true → Y (n - 1) (s.setGen gi .running) v s₁ (fun r' s'' => match n with
        | 0 => False
        | m + 1 => gs'.Goes (model prog w) A.in1 (fun n s₀ r s₁ => r = .ok (.ret .none) ∧ P n s₀ s₁) Y m r' s'') → Q (some v) (s₁.setGen gi gs'))
    (hP : ∀ s₁, P n (s.setGen gi .running) s₁ → ∀ h', Kp s₁.heap h' → Q none { s₁.setGen gi .finished with heap := h' }) :
    wpAny (model prog w) A (pyNext (.ref G)) Q E s := by
  unfold pyNext
  refine wpAny_bind (wpAny_attempt (wpAny_callSpecial?_slot (name := Str.ofString "__next__") hg.typeIs slot_gen_next (wpAny_call_entry slot_gen_next hg.typeIs entry_gen_next ?_ (args_gen_next _))))
  show wpAny _ _ (Builtin.Generator.genWake (.ref G) (.send .none)) _ _ s
  unfold Builtin.Generator.genWake
  refine wpAny_bind (wpAny_holding (wpAny_genNumber hg (wpAny_bind (wpAny_genState hgs ?_))))
  have fin : ∀ {α : Type} {k : GenResult → Sem α} {Q' : α → Shared → Prop} {E' : Value → Shared → Prop},
      (∀ s₁, P n (s.setGen gi .running) s₁ → wpAny (model prog w) A.in1 (k (End.ret (.ok (.ret .none))).result) Q' E' (s₁.setGen gi .finished)) →
      (∀ v s₁ gs', gs'.bare = true → Y (n - 1) (s.setGen gi .running) v s₁ (fun r' s'' => match n with
        | 0 => False
        | m + 1 => gs'.Goes (model prog w) A.in1 (fun n s₀ r s₁ => r = .ok (.ret .none) ∧ P n s₀ s₁) Y m r' s'') → wpAny (model prog w) A.in1 (k (.yielded v)) Q' E' (s₁.setGen gi gs')) →
      wpAny (model prog w) A.in1 (.resume gi (.send .none) [] k) Q' E' s := fun h1 h2 => wpAny_resumeQ hgs hgo (fun x s₁ hx => by obtain ⟨rfl, hp⟩ := hx; exact h1 s₁ hp) h2
  cases gs with
  | running => exact hgo.elim
  | finished => exact hgo.elim
  | _ =>
    refine wpAny_bind (wpAny_roomToWake hl hroom (fin (fun s₁ hp => ?_) fun v s₁ gs' hb hv => wpAny_pure ⟨v, rfl, wpAny_pure (hY v s₁ gs' hb hv)⟩))
    show wpAny _ _ (newExc (.type "StopIteration") [] >>= _) _ _ _
    refine wpAny_bind ?_
    simp only [newExc, newTuple]
    refine wpAny_bind (wpAny_newObj_type ?_ (by size_fits))
    refine wpAny_bind (m := firstArgMember _ _) (wpAny_of_eq (a := Value.none) (by first | rfl | (simp only [firstArgMember]; rfl)) ?_)
    refine wpAny_newObj_type ?_ (by size_fits)
    simp only [raiseNew]
    refine wpAny_bind (wpAny_bind (wpAny_handled ?_))
    rw [show A.in1.handled = none from hh]
    exact wpAny_throw (wpAny_bind (wpAny_isInstance (T := "StopIteration") (b := true) ⟨_, Heap.get?_push_size _ rfl, rfl⟩ isSubtype_stop (wpAny_pure (hP s₁ hp _ fun b o hb => Heap.get?_push_of_some _ (Heap.get?_push_of_some _ hb)))))
end
/-- a generator that waits: it may be woken wherever what is its own stands as it stood -/
def GGo (prog : Program) (w : World) (A : Around) (hB : Heap) (Lg : Addr) (zs : List Int) (N n : Nat) (gs : GenState) (Z : List (Addr × Obj)) : Prop :=
  ∀ s : Shared, (∀ p ∈ Z, s.heap.get? p.1 = some p.2) → Kp hB s.heap → 0 < s.toks → ∃ I, (I ∈ Z.map (·.1) ∨ s.heap.get? I = none) ∧ I ≠ Lg ∧ gs.Goes (model prog w) A (gR Lg I zs N) (gY hB Lg I zs N) n (.send .none) s
section
variable {prog : Program} {w : World} {A : Around} {E : Value → Shared → Prop} {g s s' : Shared} {name : Str} {scope : Scope} {L a : Addr} {cd : Value} {h₀ : Heap} {m mg mb : Str → Option Value} {M M' : List (Addr × Obj)}
set_option maxHeartbeats 1000000 in
theorem grp_fresh {Lg l f : Addr} {oL : Obj} {vs : List Value} {zs : List Int} {e N : Nat} (hA : A.handled = none) (B : Base prog w mg mb h₀) (hl : h₀.get? l = some (lst vs e)) (hsz : vs.length ≤ sizeLine) (hz : Ints vs zs) (hz0 : zs[0]? ≠ some 0) (hN : zs.length + 2 < N) (hLB : h₀.objs.size ≤ Lg)
    (hns : s.heap.Ns Lg (fun x => [(Str.ofString "grouping", Value.ref l)].reverse.lookup x)) (hoL : s.heap.get? Lg = some oL) :
    GGo prog w A h₀ Lg zs N N (.fresh (.func (dBody gSt) (gE Lg f cd))) [(Lg, oL)] := by
  intro s2 hZ hK htp
  have hLg := hZ _ (.head _)
  have hns2 := hns.at' (h' := s2.heap) fun o e => by rw [hoL] at e; cases e; exact hLg
  have hlt : Lg < s2.heap.objs.size := Heap.lt_size hLg
  have hIB : h₀.get? s2.heap.objs.size = none := by
    cases e : h₀.get? s2.heap.objs.size with
    | none => rfl
    | some o => exact absurd (Nat.lt_of_lt_of_le (Heap.lt_size e) (Nat.le_trans hLB (Nat.le_of_lt hlt))) (Nat.lt_irrefl _)
  refine ⟨s2.heap.objs.size, .inr (get_size _), Nat.ne_of_gt hlt, rfl, ?_⟩
  have F0 : FS s2 h₀ Lg (fun x => [(Str.ofString "grouping", Value.ref l)].reverse.lookup x) (rest h₀ s2.heap Lg) s2 := FS.all ⟨hns2, hK, hLB⟩ htp
  refine seg_func ?_
  with_unfolding_all refine seg_execs_cons ?_
  refine seg_plain ?_
  walk1
  walk1
  refine x_storeS F0 (fun s3 F3 e3 => ?_) (hk := by with_unfolding_all rfl) (hl := by with_unfolding_all rfl)
  clear F0
  with_unfolding_all refine seg_execs_cons (seg_For ?_)
  walk1
  refine wpAny_pyIter_list (isList_of (F3.kp _ _ hl)) fun p => ?_
  have F4 := (F3.push { cls := .type "list_iterator", data := .fields #[.ref l, .int 0 0] }).perm (List.perm_append_singleton _ _).symm
  have hit : (s3.heap.push { cls := .type "list_iterator", data := .fields #[.ref l, .int 0 0] }).IsListIter s3.heap.objs.size l 0 := ⟨_, Heap.get?_push_size _ rfl, rfl, rfl⟩
  rw [e3] at F4 hit
  have key := grp_loop (prog := prog) (w := w) (A := A) (hB := h₀) (L := Lg) (I := s2.heap.objs.size) (l := l) (f := f) (cd := cd) (vs := vs) (zs := zs) (e := e) (N := N) (p := p) (H0 := fun e => Sem.wrap (fun _ => Sem.raise e) Sem.raise id id (leaving (gE Lg f cd) e)) hA B hl hz hz0 hN hLB hIB (Nat.ne_of_gt hlt) zs.length 0 (by lia) s2 _ _ _ _ none .none F4
    (fun b o h1 h2 h3 => by
      cases h4 : h₀.get? b with
      | none => exact .inr (mem_rest.mpr ⟨h1, h4, h3⟩)
      | some x => rw [hK _ _ h4] at h3; cases h3; exact .inl rfl) hit rfl rfl (fun j => by rw [Nat.zero_add, List.drop_zero]) (fun _ => rfl)
  rw [e3]
  exact key

theorem x_nextGrp {G Lg gi N k : Nat} {zs : List Int} {Z : List (Addr × Obj)} {gs : GenState} {Q : Option Value → Shared → Prop} (hh : A.handled = none) (hroom : A.depth < recursionLimit) (hb : g.gens.size ≤ gi) (F : FS g h₀ L m (M ++ Z) s) (hl : s.heap.NoLimit)
    (hg : s.heap.IsGen G gi) (hLZ : Lg ∈ Z.map (·.1)) (hgs : s.gens[gi]? = some gs) (hgo : GGo prog w A.in1 h₀ Lg zs N (k + 2) gs Z)
    (hY : ∀ z t s' Z' gs', out none zs (N - (k + 2)) = some z → FS g h₀ L m (M ++ Z') s' → Lg ∈ Z'.map (·.1) → s'.gens[gi]? = some gs' → GGo prog w A.in1 h₀ Lg zs N (k + 1) gs' Z' → Q (some (.int z t)) s')
    (hP : ∀ s', out none zs (N - (k + 2)) = none → FS g h₀ L m M s' → Q none s') : wpAny (model prog w) A (pyNext (.ref G)) Q E s := by
  obtain ⟨I, hI, hIL, go⟩ := hgo (s.setGen gi .running) (fun p hp => F.get (List.mem_append_right _ hp)) F.kp F.tp
  have sm : ∀ {s₁ : Shared} {x : GenState}, x.bare = true → Sm (s.setGen gi .running) s₁ → Sm g (s₁.setGen gi x) := fun {s₁ x} hx S => ⟨S.1.trans F.sm.1, fun i y e => by
    have hi : i ≠ gi := fun q => by have := (Array.getElem?_eq_some_iff.mp e).1; lia
    rw [setGen_ne hi]
    exact S.2.1 _ _ ((setGen_ne hi).trans (F.sm.2.1 _ _ e)), fun q => bare_setGen hx (S.2.2 (bare_setGen rfl (F.sm.2.2 q)))⟩
  have hkeep : ∀ {s₁ : Shared}, Beside Lg I (s.setGen gi .running) s₁ → ∀ b x, b ∉ Z.map (·.1) → s.heap.get? b = some x → s₁.heap.get? b = some x := fun {s₁} hB b x h1 h2 => hB.2.2 b x (fun q => h1 (q ▸ hLZ)) (fun q => hI.elim (fun r => h1 (q ▸ r)) fun r => by
    have r : s.heap.get? I = none := r
    rw [← q, h2] at r; cases r) h2
  have gself : ∀ {s₁ : Shared} {x : GenState}, Sm (s.setGen gi .running) s₁ → (s₁.setGen gi x).gens[gi]? = some x := fun S => setGen_self (S.2.1 _ _ (setGen_self hgs))
  refine x_nextQ (P := fun n s₀ s₁ => out none zs (N - n) = none ∧ Beside Lg I s₀ s₁) hh hl hroom hg hgs go (fun v s₁ gs' hbr hy => ?_) (fun s₁ hp h' hk => ?_)
  · obtain ⟨⟨z, t, rfl, ho⟩, hB, mL, oI, hns, hoI, hkap⟩ := hy
    obtain ⟨oL, hoL⟩ : ∃ oL, s₁.heap.get? Lg = some oL := let ⟨o, _, _, e, _⟩ := hns; ⟨o, e⟩
    refine hY z t _ [(Lg, oL), (I, oI)] gs' (by rw [show N - (k + 2) = N - 1 - (k + 2 - 1) by lia]; exact ho) ?_ (.head _) (gself hB.1) ?_
    · refine F.wake (fun p hp => ?_) (by simpa using Ne.symm hIL) (fun p hp => ?_) (fun b x h1 h2 => hkeep hB b x h1 h2) (sm hbr hB.1) hB.2.1
      · rcases List.mem_cons.mp hp with rfl | hp
        · exact .inl hLZ
        · rw [List.mem_singleton.mp hp]
          exact hI
      · rcases List.mem_cons.mp hp with rfl | hp
        · exact hoL
        · rw [List.mem_singleton.mp hp]
          exact hoI
    · intro s'' hZ hK htp
      exact ⟨I, .inl (.tail _ (.head _)), hIL, hkap (by lia) s'' (hns.at' fun o e => by rw [hoL] at e; cases e; exact hZ _ (.head _)) (hZ _ (.tail _ (.head _))) hK htp⟩
  · obtain ⟨ho, hB⟩ := hp
    have F1 := F.wake (Z' := []) (s' := { s₁.setGen gi .finished with heap := h' }) (fun _ h => (nomatch h)) List.nodup_nil (fun _ h => (nomatch h)) (fun b x h1 h2 => hk _ _ (hkeep hB b x h1 h2)) (sm (x := .finished) rfl hB.1) hB.2.1
    rw [List.append_nil] at F1
    exact hP _ ho F1

theorem FS.re (F : FS g h₀ L m M s) : FS s h₀ L m M s := ⟨Sm.refl, F.fr, F.ns, F.nd, F.tp⟩
theorem FS.back {s₁ : Shared} (S : Sm g s₁) (F : FS s₁ h₀ L m M s) : FS g h₀ L m M s := ⟨S.trans F.sm, F.fr, F.ns, F.nd, F.tp⟩
/-- a for over the sizes that the generator hands out -/
theorem x_forGrp {x : Str} {px pos : Pos} {iter : Expr} {body : List Stmt} {Q : Flow → Shared → Prop} (hh : A.handled = none) (hroom : A.depth < recursionLimit) (B : Base prog w mg mb h₀)
    (hit : wpAny (model prog w) A (eval iter (envOf name scope L a cd)) (fun xv s₁ => ∃ G gi oG Lg gs Z m M N zs, ∃ J : Nat → (Str → Option Value) → List (Addr × Obj) → Prop, xv = .ref G ∧ g.gens.size ≤ gi ∧ FS g h₀ L m (M ++ Z) s₁ ∧ J 0 m M ∧ s₁.heap.IsGen G gi ∧ s₁.heap.get? G = some oG ∧
      Lg ∈ Z.map (·.1) ∧ s₁.gens[gi]? = some gs ∧ GGo prog w A.in1 h₀ Lg zs N N gs Z ∧ (∀ i m₁ M₁, J i m₁ M₁ → (G, oG) ∈ M₁ ∧ i + 2 ≤ N) ∧
      (∀ i z t m₁ M₁ Z s₁, out none zs i = some z → J i m₁ M₁ → Sm g s₁ → FS s₁ h₀ L (fun y => if y = x then some (.int z t) else m₁ y) (M₁ ++ Z) s₁ →
        wpAny (model prog w) A (execs body (envOf name scope L a cd)) (fun f s₂ => match f with
          | .next | .cont => ∃ m₂ M₂, FS s₁ h₀ L m₂ (M₂ ++ Z) s₂ ∧ J (i + 1) m₂ M₂
          | .brk => Q .next s₂
          | .ret v => Q (.ret v) s₂) (fun _ _ => False) s₁) ∧
      (∀ i m₁ M₁ s₁, out none zs i = none → J i m₁ M₁ → FS g h₀ L m₁ M₁ s₁ → Q .next s₁)) E s)
    (hs : ∀ x, foldedSetIterable iter (envOf name scope L a cd) x = pure x := by intro _; rfl)
    (hk : scope.kind = .function := by rfl) (hl : (envOf name scope L a cd).kindOf x = some .local := by rfl) :
    wpAny (model prog w) A (exec (.For (.Name x px) iter body [] pos) (envOf name scope L a cd)) Q E s := by
  refine wpAny_For (wpAny_mono hit (fun xv s₁ h₁ => ?_) fun _ _ e => e) hs
  obtain ⟨G, gi, oG, Lg, gs, Z, m, M, N, zs, J, rfl, hgi, F, hJ, hG, hoG, hLZ, hgs, hgo, hJM, turn, done⟩ := h₁
  refine wpAny_pyIter_gen hG ?_
  refine codeAny_forLoop (fun k s' => ∃ i m₁ M₁ Z gs, FS g h₀ L m₁ (M₁ ++ Z) s' ∧ J i m₁ M₁ ∧ Lg ∈ Z.map (·.1) ∧ s'.gens[gi]? = some gs ∧ GGo prog w A.in1 h₀ Lg zs N (N - i) gs Z ∧ k = N - i) ?_ N ⟨0, m, M, Z, gs, F, hJ, hLZ, hgs, hgo, rfl⟩
  rintro k s₁ ⟨i, m₁, M₁, Z, gs, F₁, j₁, hLZ, hgs, hgo, rfl⟩
  obtain ⟨hGM, hiN⟩ := hJM _ _ _ j₁
  obtain ⟨k, hk2⟩ : ∃ k, N - i = k + 2 := ⟨N - i - 2, by lia⟩
  rw [hk2] at hgo
  have hGen : s₁.heap.IsGen G gi := by
    obtain ⟨o, nm, qn, e, r⟩ := hG
    rw [hoG] at e
    cases e
    exact ⟨oG, nm, qn, F₁.get (List.mem_append_left _ hGM), r⟩
  refine x_nextGrp hh hroom hgi F₁ (B.nolimit.keeps F₁.kp) hGen hLZ hgs hgo (fun z t s' Z' gs' ho F2 hL2 hgs2 hgo2 => ?_) (fun s' ho F2 => ?_)
  · refine wpAny_assign_Name (stN F2.fr F2.ns (fun h' F' N' => ?_) hk hl)
    have F₃ : FS g h₀ L (fun y => if y = x then some (.int z t) else m₁ y) (M₁ ++ Z') { s' with heap := h', toks := s'.toks + 1 } := ⟨F2.sm, F', N', F2.nd, Nat.succ_pos _⟩
    refine wpAny_mono (turn i z t m₁ M₁ Z' _ (by rw [show i = N - (k + 2) by lia]; exact ho) j₁ F₃.sm F₃.re) (fun f s₂ h₂ => ?_) fun _ _ e => e.elim
    have next : (∃ m₂ M₂, FS { s' with heap := h', toks := s'.toks + 1 } h₀ L m₂ (M₂ ++ Z') s₂ ∧ J (i + 1) m₂ M₂) → ∃ m, m < N - i ∧ ∃ i m₁ M₁ Z gs, FS g h₀ L m₁ (M₁ ++ Z) s₂ ∧ J i m₁ M₁ ∧ Lg ∈ Z.map (·.1) ∧ s₂.gens[gi]? = some gs ∧ GGo prog w A.in1 h₀ Lg zs N (N - i) gs Z ∧ m = N - i := by
      rintro ⟨m₂, M₂, G₂, j₂⟩
      refine ⟨N - (i + 1), by lia, i + 1, m₂, M₂, Z', gs', G₂.back F₃.sm, j₂, hL2, G₂.sm.2.1 _ _ hgs2, ?_, rfl⟩
      rw [show N - (i + 1) = k + 1 by lia]
      exact hgo2
    cases f with
    | next => exact next h₂
    | cont => exact next h₂
    | brk => exact h₂
    | ret v => exact h₂
  · exact wpAny_execs_nil (done i m₁ M₁ s' (by rw [show i = N - (k + 2) by lia]; exact ho) j₁ F2)
end
/-! the pile of what is open -/
section
variable {prog : Program} {w : World} {A : Around} {E : Value → Shared → Prop} {g s s' : Shared} {name : Str} {scope : Scope} {L a : Addr} {cd : Value} {h₀ : Heap} {m mg mb : Str → Option Value} {M M' : List (Addr × Obj)}
theorem x_setLast {l : Addr} {vs : List Value} {n : Nat} {x v : Value} {t : Tok} {Q : Unit → Shared → Prop} (F : FS g h₀ L m ((l, lst (vs ++ [x]) n) :: M) s)
    (h : ∀ s' n', FS g h₀ L m ((l, lst (vs ++ [v]) n') :: M) s' → Q () s') : wpAny (model prog w) A (setItem (.ref l) (.int (-1) t) v) Q E s := by
  have hg := F.get (.head _)
  have hl := isList_of hg
  unfold setItem
  try with_reducible refine wpAny_holding ?_
  first | refine wpAny_bind (wpAny_pure ?_) | skip
  refine wpAny_bind (wpAny_sequenceKey hl.typeIs (by decide) ?_)
  refine wpAny_bind (wpAny_callSpecial?_slot (name := Str.ofString "__setitem__") hl.typeIs slot_list_setitem (wpAny_call_entry slot_list_setitem hl.typeIs entry_list_setitem ?_ (args_list_setitem _ _ _)))
  show wpAny _ _ (Builtin.List.listSubscript? (.int (-1) t) >>= _) _ _ s
  refine wpAny_bind (wpAny_listSubscript_int (fitsIndex_neg (by decide) (by decide)) ?_)
  have hidx : seqIndex? (-1) (vs ++ [x]).toArray.size = some vs.length := by
    rw [seqIndex_neg (by decide) (by simp; lia)]
    congr 1
    simp
    lia
  show wpAny _ _ ((Builtin.List.listItems (.ref l) >>= fun xs => pure ((seqIndex? (Int.negSucc 0) xs.size).bind fun i => xs[i]?.map (i, ·))) >>= _) _ _ s
  refine wpAny_bind (wpAny_bind ?_)
  show wpAny _ _ (seqItems? (.ref l) >>= _) _ _ s
  refine wpAny_bind (wpAny_seqItems hg rfl (wpAny_pure (wpAny_pure ?_)))
  rw [show (Int.negSucc 0) = -1 from rfl, hidx]
  have hx : (vs ++ [x]).toArray[vs.length]? = some x := by simp
  simp only [Option.bind_some, hx, Option.map_some]
  show wpAny _ _ (setSeqItemAt l vs.length v >>= _) _ _ s
  have e2 : (vs ++ [x]).toArray.setIfInBounds vs.length v = (vs ++ [v]).toArray := by simp
  obtain ⟨n', hd'⟩ := Obj.data_mapSeq (o := lst (vs ++ [x]) n) rfl (·.setIfInBounds vs.length v)
  rw [e2] at hd'
  have ho : (s.heap.update l (Obj.mapSeq (·.setIfInBounds vs.length v))).get? l = some (Obj.mapSeq (·.setIfInBounds vs.length v) (lst (vs ++ [x]) n)) := Heap.get?_update_self _ hg (Obj.isFreed_of_seq hd')
  have hob : Obj.mapSeq (·.setIfInBounds vs.length v) (lst (vs ++ [x]) n) = lst (vs ++ [v]) n' := by
    have hc := Obj.cls_mapSeq (lst (vs ++ [x]) n) (·.setIfInBounds vs.length v)
    generalize hq : Obj.mapSeq (·.setIfInBounds vs.length v) (lst (vs ++ [x]) n) = q at *
    have h1 : q.dict = none := by rw [← hq]; rfl
    have h2 : q.slots = #[] := by rw [← hq]; rfl
    cases q
    cases hc; cases hd'; cases h1; cases h2; rfl
  rw [hob] at ho
  have key := h { s with heap := s.heap.update l (Obj.mapSeq (·.setIfInBounds vs.length v)) } n' (F.turn (tk := s.toks) ho (Heap.SameBut.update ..) F.tp)
  refine wpAny_bind (wpAny_setSeqItemAt hg rfl ?_)
  first
    | exact wpAny_bind (wpAny_pure (wpAny_pure ⟨.none, rfl, wpAny_pure key⟩))
    | exact wpAny_pure ⟨.none, rfl, wpAny_pure key⟩
theorem isnt_spec {t : Tok} {z : Int} {f : Addr} {Q : Value → Shared → Prop} (B : Base prog w mg mb s.heap) (hf : FnAt s.heap "ISNONTERMINAL" (stA 62) f) (hroom : A.depth + 1 < recursionLimit)
    (h : ∀ s', Sm s s' → Kp s.heap s'.heap → 0 < s'.toks → Q (.bool (decide (256 ≤ z))) s') : wpAny (model prog w) A (call (.ref f) [.int z t]) Q E s := by
  obtain ⟨tN, eN⟩ : ∃ t, mg "NT_OFFSET" = some (.int 256 t) := B.consts ("NT_OFFSET", 256) (.tail _ (.head _))
  refine x_call [(Str.ofString "x", Value.int z t)] hf B (by lia) (List.cons_ne_nil _ _) (fun _ _ _ => rfl) rfl ?_
  intro s' L' cd _ F
  with_unfolding_all refine wpAny_execs_cons ?_
  walk_at "go"
  have F := ‹FS _ _ _ _ _ _›
  exact h _ F.sm F.kp F.tp
end
/-- an open list: its place, its operator (none at the bottom), what it holds, the lack's token, what is to come -/
structure Lv where
  a : Addr
  pre : List Value
  ws : List Value
  e : Nat
  kt : Tok
  rs : List T
noncomputable def Lv.obj (l : Lv) : Addr × Obj := (l.a, lst (l.pre ++ l.ws) l.e)
noncomputable def Below (aF : Addr) (X : List (Addr × Obj)) (t : T) : List Lv → Addr → T → Prop
  | [], _, _ => False
  | l :: ls, a, c => ∃ ws ds, l.ws = ws ++ [.ref a] ∧ TreesIn X ws ds ∧ ((∃ n tk, l.pre = [.int n tk] ∧ Below aF X t ls l.a (.node n (ds ++ c :: l.rs))) ∨ (l.pre = [] ∧ ls = [] ∧ l.a = aF ∧ ds ++ c :: l.rs = [t]))
def Top (aF : Addr) (X : List (Addr × Obj)) (t : T) (l : Lv) (ls : List Lv) : Prop :=
  ∃ ds, TreesIn X l.ws ds ∧ ((∃ n tk, l.pre = [.int n tk] ∧ Below aF X t ls l.a (.node n (ds ++ l.rs))) ∨ (l.pre = [] ∧ ls = [] ∧ l.a = aF ∧ ds ++ l.rs = [t]))
theorem Below.mono {aF : Addr} {X Y : List (Addr × Obj)} {t : T} (h : ∀ p ∈ X, p ∈ Y) : ∀ {ls : List Lv} {a : Addr} {c : T}, Below aF X t ls a c → Below aF Y t ls a c
  | [], _, _, b => b
  | _ :: _, _, _, ⟨ws, ds, e, tr, k⟩ => ⟨ws, ds, e, tr.mono fun _ _ q => h _ q, k.imp (fun ⟨n, tk, e, b⟩ => ⟨n, tk, e, b.mono h⟩) id⟩
theorem Top.mono {aF : Addr} {X Y : List (Addr × Obj)} {t : T} (h : ∀ p ∈ X, p ∈ Y) {l : Lv} {ls : List Lv} : Top aF X t l ls → Top aF Y t l ls
  | ⟨ds, tr, k⟩ => ⟨ds, tr.mono fun _ _ q => h _ q, k.imp (fun ⟨n, tk, e, b⟩ => ⟨n, tk, e, b.mono h⟩) id⟩
/-- the top is whole: it goes into what lies beneath -/
theorem Top.pop {aF : Addr} {X : List (Addr × Obj)} {t : T} {l l' : Lv} {ls : List Lv} (h : Top aF X t l (l' :: ls)) (hr : l.rs = []) : Top aF (l.obj :: X) t l' ls := by
  obtain ⟨ds, tr, ⟨n, tk, e, b⟩ | ⟨_, e, _⟩⟩ := h
  · obtain ⟨ws, ds', e2, tr2, k⟩ := b
    rw [hr, List.append_nil] at k
    have hnode : TreeIn (l.obj :: X) (.ref l.a) (.node n ds) := .mk (tk := tk) (vs := l.ws) (e := l.e) (by unfold Lv.obj; rw [e]; exact .head _) (tr.mono fun _ _ q => .tail _ q)
    refine ⟨ds' ++ [.node n ds], by rw [e2]; exact (tr2.mono fun _ _ q => .tail _ q).append (.cons hnode .nil), ?_⟩
    rw [List.append_assoc]
    exact k.imp (fun ⟨n, tk, e, b⟩ => ⟨n, tk, e, b.mono fun _ q => .tail _ q⟩) id
  · cases e
theorem Top.last {aF : Addr} {X : List (Addr × Obj)} {t : T} {l : Lv} (h : Top aF X t l []) (hr : l.rs = []) : l.a = aF ∧ l.pre = [] ∧ ∃ v, l.ws = [v] ∧ TreeIn X v t := by
  obtain ⟨ds, tr, ⟨n, tk, e, b⟩ | ⟨e1, _, e2, e3⟩⟩ := h
  · exact b.elim
  · rw [hr, List.append_nil] at e3
    subst e3
    cases hw : l.ws with
    | nil => rw [hw] at tr; cases tr
    | cons v r =>
      rw [hw] at tr
      cases tr with | cons a b => cases b; exact ⟨e2, e1, v, rfl, a⟩
/-- a leaf is laid into the top -/
theorem Top.leaf {aF : Addr} {X : List (Addr × Obj)} {t : T} {l : Lv} {ls : List Lv} {n : Int} {rs : List T} {q : Addr} {tk kt : Tok} {e e' : Nat} (h : Top aF X t l ls) (hr : l.rs = .node n [] :: rs) :
    Top aF ((q, lst [.int n tk] e) :: X) t { l with ws := l.ws ++ [.ref q], rs := rs, kt := kt, e := e' } ls := by
  obtain ⟨ds, tr, k⟩ := h
  refine ⟨ds ++ [.node n []], (tr.mono fun _ _ q => .tail _ q).append (.cons (.mk (.head _) .nil) .nil), ?_⟩
  rw [hr] at k
  rw [List.append_assoc]
  exact k.imp (fun ⟨n, tk, e, b⟩ => ⟨n, tk, e, b.mono fun _ q => .tail _ q⟩) id
/-- a node is opened upon the top -/
theorem Top.node {aF : Addr} {X : List (Addr × Obj)} {t : T} {l : Lv} {ls : List Lv} {n : Int} {cs rs : List T} {q : Addr} {tk kt kt' : Tok} {e e' : Nat} (h : Top aF X t l ls) (hr : l.rs = .node n cs :: rs) :
    Top aF X t ⟨q, [.int n tk], [], e, kt', cs⟩ ({ l with ws := l.ws ++ [.ref q], rs := rs, kt := kt, e := e' } :: ls) := by
  obtain ⟨ds, tr, k⟩ := h
  rw [hr] at k
  exact ⟨[], .nil, .inl ⟨n, tk, rfl, l.ws, ds, rfl, tr, k⟩⟩
noncomputable def rem (ls : List Lv) : List Int := ls.flatMap fun l => zLs l.rs
noncomputable abbrev unM (P K : Addr) (eP eK : Nat) (ls : List Lv) (R : List (Addr × Obj)) : List (Addr × Obj) :=
  (P, lst (ls.map fun l => Value.ref l.a).reverse eP) :: (K, lst (ls.map fun l => Value.int l.rs.length l.kt).reverse eK) :: (ls.map Lv.obj ++ R)
noncomputable abbrev uE (L f : Addr) (cd : Value) : Env := envOf "_law_unruled" (dScope (stA 72)) L f cd
noncomputable def uBody : List Stmt := match (dBody (stA 72))[3]? with | some (Stmt.For _ _ [Stmt.For _ _ b _ _] _ _) => b | _ => []
local macro_rules | `(tactic| walk_at "exec Expr") => `(tactic| refine wpAny_Expr_any ?_)
/-- the names that the reading of the rulers holds -/
def unN (P K aF : Addr) (m : Str → Option Value) : Prop := m "pile" = some (.ref P) ∧ m "lacking" = some (.ref K) ∧ m "found" = some (.ref aF)
def unI (aF : Addr) (t : T) (ls : List Lv) (X : List (Addr × Obj)) : Prop := match ls with
  | [] => ∃ v e, (aF, lst [v] e) ∈ X ∧ TreeIn X v t
  | l :: r => Top aF X t l r
section
variable {prog : Program} {w : World} {A : Around} {E : Value → Shared → Prop} {g s s' : Shared} {h₀ : Heap} {m mg mb : Str → Option Value} {M M' : List (Addr × Obj)}
theorem unM_rest {P K : Addr} {eP eK : Nat} {l : Lv} {ls : List Lv} {X R : List (Addr × Obj)} : unM P K eP eK (l :: ls) (X ++ R) = (P, lst ((ls.map fun l => Value.ref l.a).reverse ++ [.ref l.a]) eP) :: (K, lst ((ls.map fun l => Value.int l.rs.length l.kt).reverse ++ [.int l.rs.length l.kt]) eK) :: ((l.a, lst (l.pre ++ l.ws) l.e) :: (ls.map Lv.obj ++ (X ++ R))) := by
  simp [unM, Lv.obj]
set_option maxHeartbeats 1000000 in
theorem un_pops {P K aF L f : Addr} {cd : Value} {eP eK : Nat} {l : Lv} {ls : List Lv} {X R : List (Addr × Obj)} {t : T} (B : Base prog w mg mb h₀) (F : FS g h₀ L m (unM P K eP eK (l :: ls) (X ++ R)) s) (hT : Top aF X t l ls) (hN : unN P K aF m) (hlen : (l :: ls).length ≤ 1000) :
    wpAny (model prog w) A (execs (uBody.drop 2) (uE L f cd)) (fun fl s₂ => match fl with
      | .next => ∃ m₂ eP eK l' ls' X', FS g h₀ L m₂ (unM P K eP eK (l' :: ls') (X' ++ R)) s₂ ∧ Top aF X' t l' ls' ∧ l'.rs ≠ [] ∧ rem (l' :: ls') = rem (l :: ls) ∧ (l' :: ls') <:+ (l :: ls) ∧ unN P K aF m₂
      | .ret v => ∃ m₂ M₂, FS g h₀ L m₂ M₂ s₂ ∧ TreeIn M₂ v t
      | _ => False) (fun _ _ => False) s := by
  with_unfolding_all refine wpAny_execs_cons ?_
  refine x_whileJ (α := List Lv × List (Addr × Obj)) (fun s' => ∃ ls' X' m₁ eP eK, FS g h₀ L m₁ (unM P K eP eK ls' (X' ++ R)) s' ∧ unN P K aF m₁ ∧ unI aF t ls' X' ∧ rem ls' = rem (l :: ls) ∧ ls' <:+ (l :: ls) ∧ ∀ l' r, ls' = l' :: r → l'.rs ≠ [])
    (fun p m₁ M₁ => (∃ eP eK, M₁ = unM P K eP eK p.1 (p.2 ++ R)) ∧ unN P K aF m₁ ∧ unI aF t p.1 p.2 ∧ rem p.1 = rem (l :: ls) ∧ p.1 <:+ (l :: ls)) (fun p => p.1.length) (l :: ls, X) F ⟨⟨eP, eK, rfl⟩, hN, hT, rfl, List.suffix_refl _⟩ ?_ ?_
  · rintro ⟨ls', X'⟩ m₁ M₁ s₁ ⟨⟨eP, eK, rfl⟩, hN, hI, hr, hl⟩ F1
    dsimp only at hI hr hl ⊢
    obtain ⟨hP, hK, hF⟩ := id hN
    have hll := hl.length_le
    cases ls' with
    | nil =>
      walk_at "go"
      refine x_lenList ‹FS _ _ _ _ _ _› (FS.get ‹FS _ _ _ _ _ _› (.tail _ (.head _))) (by rw [sizeLine_eq]; simp) fun s2 t2 F2 => ?_
      walk_at "go"
      refine ite_neg (by simp) ?_
      refine ite_neg Bool.false_ne_true ?_
      exact ⟨[], X', m₁, _, _, ‹FS _ _ _ _ _ _›, hN, hI, hr, hl, fun _ _ e => nomatch e⟩
    | cons l' r =>
      have hl2 : r.length + 1 ≤ 1000 := Nat.le_trans hll hlen
      walk_at "go"
      refine x_lenList ‹FS _ _ _ _ _ _› (FS.get ‹FS _ _ _ _ _ _› (.tail _ (.head _))) (by rw [sizeLine_eq]; simp; lia) fun s2 t2 F2 => ?_
      walk_at "go"
      refine ite_pos (by simp) ?_
      walk_at "go"
      rename_i s3 t3 F3
      rw [unM_rest] at F3
      refine x_itemLast (FS.get F3 (.tail _ (.head _))) ?_
      walk_at "go"
      by_cases hz : l'.rs = []
      · refine ite_pos (by simp [hz]) ?_
        walk_at "go"
        refine ite_pos rfl ?_
        walk_at "go"
        have F4 := ‹FS _ _ _ _ _ _›
        refine x_pop F4 (by rw [sizeLine_eq]; simp; lia) fun s5 n5 F5 => ?_
        clear F4
        walk_at "go"
        refine x_pop (FS.swap ‹FS _ _ _ _ _ _›) (by rw [sizeLine_eq]; simp; lia) fun s6 n6 F6 => ?_
        walk_at "go"
        have F7 := FS.swap ‹FS _ _ _ _ _ _›
        have hm : FS g h₀ L m₁ (unM P K n5 n6 r ((l'.obj :: X') ++ R)) s6 := by
          refine F7.perm (.cons _ (.cons _ ?_))
          rw [List.cons_append]
          exact List.perm_middle.symm
        cases r with
        | nil =>
          obtain ⟨e1, e2, v, e3, e4⟩ := hI.last hz
          refine ⟨([], l'.obj :: X'), _, _, hm, by simp, ⟨_, _, rfl⟩, hN, ⟨v, l'.e, ?_, e4.mono fun _ _ q => .tail _ q⟩, ?_, (List.suffix_cons _ _).trans hl⟩
          · have : l'.obj = (aF, lst [v] l'.e) := by unfold Lv.obj; rw [e1, e2, e3]; rfl
            rw [this]
            exact .head _
          · rw [← hr]
            simp [rem, hz, zLs]
        | cons l'' r =>
          refine ⟨(l'' :: r, l'.obj :: X'), _, _, hm, by simp, ⟨_, _, rfl⟩, hN, hI.pop hz, ?_, (List.suffix_cons _ _).trans hl⟩
          rw [← hr]
          simp [rem, hz, zLs]
      · refine ite_neg (by simp [hz]) ?_
        refine ite_neg Bool.false_ne_true ?_
        have F4 := ‹FS _ _ _ _ _ _›
        rw [← unM_rest] at F4
        exact ⟨l' :: r, X', m₁, _, _, F4, hN, hI, hr, hl, fun _ _ e => by cases e; exact hz⟩
  · rintro s₁ ⟨ls', X', m₁, eP, eK, F1, hN, hI, hr, hl, hrs⟩
    obtain ⟨hP, hK, hF⟩ := id hN
    have hll := hl.length_le
    walk_at "go"
    refine x_lenList ‹FS _ _ _ _ _ _› (FS.get ‹FS _ _ _ _ _ _› (.tail _ (.head _))) (by rw [sizeLine_eq]; simp; lia) fun s2 t2 F2 => ?_
    walk_at "go"
    cases ls' with
    | nil =>
      refine ite_pos (by simp) ?_
      obtain ⟨v, e, hv, hT⟩ := hI
      walk_at "go"
      refine x_item (FS.get ‹FS _ _ _ _ _ _› (.tail _ (.tail _ (List.mem_append_left _ hv)))) (by decide) (by decide) rfl ?_
      walk_at "go"
      exact ⟨_, _, ‹FS _ _ _ _ _ _›, hT.mono fun _ _ q => .tail _ (.tail _ (List.mem_append_left _ q))⟩
    | cons l' r =>
      refine ite_neg (by simp; lia) ?_
      walk_at "go"
      exact ⟨m₁, eP, eK, l', r, X', ‹FS _ _ _ _ _ _›, hI, hrs _ _ rfl, hr, hl, hN⟩
end
local macro_rules | `(tactic| walk_at "gow") => `(tactic| repeat ((fail_if_success (with_reducible show wpAny _ _ (execs (Stmt.While _ _ _ _ :: _) _) _ _ _)); walk_at "one"))
section
variable {prog : Program} {w : World} {A : Around} {E : Value → Shared → Prop} {g s s' : Shared} {h₀ : Heap} {m mg mb : Str → Option Value} {M M' : List (Addr × Obj)}
theorem zHead_leaf : ∀ n ∈ menu, 271 - n < 256 ∧ 271 - (271 - n) = n := by decide +kernel
theorem menu_small : ∀ n ∈ menu, 16 ≤ n ∧ n ≤ 54 := by decide +kernel
theorem zHead_node {k : Nat} (hk : 0 < k) : ∀ n ∈ menu, 256 ≤ 256 * (k : Int) + n - 16 ∧ (256 * (k : Int) + n - 16).fmod 256 + 16 = n ∧ (256 * (k : Int) + n - 16).fdiv 256 = k := by
  intro n hn
  obtain ⟨h1, h2⟩ := menu_small n hn
  rw [Int.fmod_eq_emod_of_nonneg _ (by decide), Int.fdiv_eq_ediv_of_nonneg _ (by decide)]
  lia
theorem FS.to2 {p q : Addr × Obj} {L : Addr} (F : FS g h₀ L m (p :: q :: M) s) : FS g h₀ L m (q :: p :: M) s := F.swap
theorem FS.to3 {p q r : Addr × Obj} {L : Addr} (F : FS g h₀ L m (p :: q :: r :: M) s) : FS g h₀ L m (r :: p :: q :: M) s := F.rot
theorem FS.to4 {p q r u : Addr × Obj} {L : Addr} (F : FS g h₀ L m (p :: q :: r :: u :: M) s) : FS g h₀ L m (u :: p :: q :: r :: M) s := F.perm (List.perm_middle (l₁ := [p, q, r]))
theorem FS.from3 {p q r : Addr × Obj} {L : Addr} (F : FS g h₀ L m (r :: p :: q :: M) s) : FS g h₀ L m (p :: q :: r :: M) s := F.rot.rot
theorem x_getLast {L l : Addr} {vs : List Value} {n : Nat} {u : Tok} {x : Value} {Q : Value → Shared → Prop} (F : FS g h₀ L m M s) (hl : (l, lst (vs ++ [x]) n) ∈ M) (h : Q x s) : wpAny (model prog w) A (getItem (.ref l) (.int (-1) u)) Q E s :=
  wpAny_getItem_list_neg (isList_of (F.get hl)) (by decide) (by simp; lia) (by decide) (by
    have e : (-1 + ((vs ++ [x]).toArray.size : Int)).toNat = vs.length := by simp; lia
    rw [e]; simp) h
def LvOk (l : Lv) : Prop := T.oks l.rs ∧ l.ws.length + l.rs.length ≤ 1000 ∧ l.pre.length ≤ 1 ∧ T.sizes l.rs ≤ 1000
def unPost (g : Shared) (h₀ : Heap) (L P K aF : Addr) (t : T) (R : List (Addr × Obj)) (tail : List Int) (n : Nat) (fl : Flow) (s₂ : Shared) : Prop := match fl with
  | .next => ∃ m₂ eP eK l' ls' X', FS g h₀ L m₂ (unM P K eP eK (l' :: ls') (X' ++ R)) s₂ ∧ Top aF X' t l' ls' ∧ unN P K aF m₂ ∧ l'.rs ≠ [] ∧ rem (l' :: ls') = tail ∧ (l' :: ls').length ≤ n ∧ (∀ l ∈ l' :: ls', LvOk l)
  | .ret v => ∃ m₂ M₂, FS g h₀ L m₂ M₂ s₂ ∧ TreeIn M₂ v t
  | _ => False
theorem un_pops2 {P K aF L f : Addr} {cd : Value} {eP eK : Nat} {l : Lv} {ls : List Lv} {X R : List (Addr × Obj)} {t : T} {tail : List Int} {n : Nat} (B : Base prog w mg mb h₀) (F : FS g h₀ L m (unM P K eP eK (l :: ls) (X ++ R)) s) (hT : Top aF X t l ls) (hN : unN P K aF m) (hlen : (l :: ls).length ≤ 1000)
    (hn : (l :: ls).length ≤ n) (hok : ∀ l' ∈ l :: ls, LvOk l') (hr : rem (l :: ls) = tail) : wpAny (model prog w) A (execs (uBody.drop 2) (uE L f cd)) (unPost g h₀ L P K aF t R tail n) (fun _ _ => False) s := by
  refine wpAny_mono (un_pops B F hT hN hlen) (fun fl s₂ h => ?_) fun _ _ e => e
  cases fl with
  | next =>
    obtain ⟨m₂, eP, eK, l', ls', X', F, h1, h2, h3, h4, h5⟩ := h
    exact ⟨m₂, eP, eK, l', ls', X', F, h1, h5, h2, h3.trans hr, Nat.le_trans h4.length_le hn, fun l hl => hok l (h4.subset hl)⟩
  | ret v => exact h
  | brk => exact h
  | cont => exact h
set_option maxHeartbeats 2000000 in
theorem un_turn {P K aF L f : Addr} {cd : Value} {eP eK : Nat} {l : Lv} {ls : List Lv} {X R : List (Addr × Obj)} {t : T} {z : Int} {tz : Tok} {tail : List Int} (hD : A.depth + 2 < recursionLimit) (B : Base prog w mg mb h₀) (F : FS g h₀ L m (unM P K eP eK (l :: ls) (X ++ R)) s) (hT : Top aF X t l ls) (hN : unN P K aF m)
    (hlen : (l :: ls).length < 1000) (hok : ∀ l' ∈ l :: ls, LvOk l') (hz : rem (l :: ls) = z :: tail) (hne : l.rs ≠ []) (hsize : m "size" = some (.int z tz)) :
    wpAny (model prog w) A (execs uBody (uE L f cd)) (unPost g h₀ L P K aF t R tail ((l :: ls).length + 1)) (fun _ _ => False) s := by
  obtain ⟨hP, hK, hF⟩ := id hN
  obtain ⟨aI, eI, fI⟩ : ∃ a, mg "ISNONTERMINAL" = some (.ref a) ∧ FnAt h₀ "ISNONTERMINAL" (stA 62) a := B.fn 2 rfl
  obtain ⟨c, rs, hc⟩ : ∃ c rs, l.rs = c :: rs := by
    cases h : l.rs with
    | nil => exact absurd h hne
    | cons c rs => exact ⟨c, rs, rfl⟩
  obtain ⟨n, cs⟩ := c
  rw [unM_rest] at F
  have hl1 : ls.length < 999 := by simp at hlen; lia
  obtain ⟨ok1, ok2, ok3, ok4⟩ := hok l (.head _)
  rw [hc] at ok1 ok2 ok4
  have hcn : n ∈ menu := ok1.1.1
  simp only [T.sizes, T.size, List.length_cons] at ok2 ok4
  have hlc := T.sizes_length cs
  have hrem : z = zHead n cs ∧ tail = zLs cs ++ (zLs rs ++ rem ls) := by
    have e := hz
    simp only [rem, List.flatMap_cons, hc, zLs, zL, List.cons_append, List.cons.injEq, List.append_assoc] at e
    exact ⟨e.1.symm, e.2.symm⟩
  with_unfolding_all refine wpAny_execs_cons ?_
  refine wpAny_AugAssign_SubscriptAny ?_
  walk_at "go"
  refine x_getLast ‹FS _ _ _ _ _ _› (.tail _ (.head _)) ?_
  walk_at "go"
  rename_i kt Fk
  rw [show (l.rs.length : Int) - 1 = rs.length by rw [hc]; simp]
  refine x_setLast Fk.swap fun s1 nK F1 => ?_
  walk_at "go"
  have F1 := ‹FS _ _ _ _ _ _›
  refine isnt_spec (B.keeps F1.kp) (fI.keeps F1.kp) (by lia) fun s2 S2 K2 P2 => ?_
  replace F1 := F1.kept K2 S2 P2
  clear S2 K2 P2
  walk_at "go"
  by_cases hcs : cs = []
  · subst hcs
    have hz1 : z = 271 - n := hrem.1
    have hzl := zHead_leaf n hcn
    refine ite_neg (by simp; lia) ?_
    walk_at "go"
    refine x_itemLast (FS.get ‹FS _ _ _ _ _ _› (.tail _ (.head _))) ?_
    walk_at "go"
    rename_i tq _ _ _ q _ Fq _
    replace Fq : FS _ _ _ _ ((q, lst [.int _ tq]) :: _) _ := Fq
    rw [show (271 : Int) - z = n by lia] at Fq
    refine x_append Fq.to4 (by rw [sizeLine_eq]; simp; lia) fun s4 n4 F4 => ?_
    walk_at "gow"
    refine un_pops2 (l := { l with ws := l.ws ++ [.ref q], rs := rs, kt := kt, e := n4 }) (X := (q, lst [.int n tq]) :: X) (ls := ls) B (eP := eP) (eK := nK) ?_ (hT.leaf hc) hN ?_ ?_ ?_ ?_
    · rw [unM_rest, ← List.append_assoc l.pre]
      refine F4.to4.to4.swap.perm (.cons _ (.cons _ (.cons _ ?_)))
      rw [List.cons_append]
      exact List.perm_middle.symm
    · simp; lia
    · simp
    · rintro l' (_ | ⟨_, h⟩)
      · exact ⟨ok1.2, by simp; lia, ok3, by simp; lia⟩
      · exact hok _ (.tail _ h)
    · rw [hrem.2]
      simp [rem, zLs]
  · have hz1 : z = 256 * (cs.length : Int) + n - 16 := by rw [hrem.1]; simp [zHead, hcs]
    have hcp := List.length_pos_iff.mpr hcs
    have hzn := zHead_node hcp n hcn
    refine ite_pos (by simp; lia) ?_
    walk_at "go"
    refine x_mod ‹FS _ _ _ _ _ _› (by decide) fun s3 t3 F3 => ?_
    walk_at "go"
    refine x_itemLast (FS.get ‹FS _ _ _ _ _ _› (.tail _ (.tail _ (.head _)))) ?_
    walk_at "go"
    rename_i tq _ _ _ q _ _ _ _ _ _ _ _ _ _ _ _ _ _ _ _ Fq _ _ _ _ _
    replace Fq : FS _ _ _ _ ((q, lst [.int _ tq]) :: _) _ := Fq
    rw [hz1, hzn.2.1] at Fq
    refine x_append Fq.to4 (by rw [sizeLine_eq]; simp; lia) fun s4 n4 F4 => ?_
    walk_at "go"
    refine x_append (FS.to4 ‹FS _ _ _ _ _ _›) (by rw [sizeLine_eq]; simp; lia) fun s5 n5 F5 => ?_
    walk_at "go"
    refine x_fdiv ‹FS _ _ _ _ _ _› (by decide) (by decide) fun s6 t6 F6 => ?_
    rw [hz1, hzn.2.2]
    walk_at "go"
    have F7 := ‹FS _ _ _ _ _ _›
    refine x_append F7.to4 (by rw [sizeLine_eq]; simp; lia) fun s7 n7 F8 => ?_
    walk_at "gow"
    refine un_pops2 (m := fun y => if y = Str.ofString "node" then some (Value.ref q) else m y) (l := ⟨q, [.int n tq], [], 0, t6, cs⟩) (X := X) (ls := { l with ws := l.ws ++ [.ref q], rs := rs, kt := kt, e := n4 } :: ls) B (eP := n5) (eK := n7) ?_ (hT.node hc) ?_ ?_ ?_ ?_ ?_
    · rw [unM_rest]
      simp only [List.map_cons, List.reverse_cons, List.cons_append, Lv.obj, List.append_nil]
      rw [← List.append_assoc l.pre]
      exact F8.perm ((List.Perm.swap _ _ _).trans (.cons _ (.cons _ (.swap _ _ _))))
    · exact hN
    · simp; lia
    · simp
    · rintro l' (_ | ⟨_, h⟩)
      · exact ⟨ok1.1.2, by simp; lia, by simp, by simp; lia⟩
      · rcases List.mem_cons.mp h with rfl | h
        · exact ⟨ok1.2, by simp; lia, ok3, by simp; lia⟩
        · exact hok _ (.tail _ h)
    · rw [hrem.2]
      simp [rem]
end
/-! what the rulers hand out -/
theorem out_take {r : List Int} : ∀ {row : List Int} (_ : ∀ z ∈ row, 217 ≤ z) (last : Option Int) (i : Nat), i ≤ row.length → out last (row ++ 127 :: r) i = row[i]?
  | [], _, _, i, hi => by simp [out]
  | z :: row, h, last, 0, hi => by
    have hz := h z (.head _)
    show (if z = 127 then none else if z = 0 then last else some z) = _
    rw [if_neg (by lia), if_neg (by lia)]
    rfl
  | z :: row, h, last, i + 1, hi => by
    have hz := h z (.head _)
    show (if z = 127 then none else if z = 0 then last else out (some z) (row ++ 127 :: r) i) = _
    rw [if_neg (by lia), if_neg (by lia)]
    exact out_take (fun z hz => h z (.tail _ hz)) (some z) i (by simpa using hi)
theorem out_last {x : Int} {r : List Int} (hx : 217 ≤ x) : ∀ {l : List Int} (_ : ∀ z ∈ l, 217 ≤ z) (last : Option Int) (i j : Nat), i < l.length + 1 + j → out last (l ++ [x] ++ 0 :: r) i = (l ++ [x] ++ List.replicate j x)[i]?
  | [], _, last, 0, j, hi => by
    show (if x = 127 then none else if x = 0 then last else some x) = _
    rw [if_neg (by lia), if_neg (by lia)]
    rfl
  | [], _, last, i + 1, j, hi => by
    show (if x = 127 then none else if x = 0 then last else if (0 : Int) = 127 then none else if (0 : Int) = 0 then some x else _) = _
    rw [if_neg (by lia), if_neg (by lia), if_neg (by decide), if_pos rfl]
    have hi2 : i < j := by simp at hi; lia
    show some x = (List.replicate j x)[i]?
    rw [List.getElem?_replicate, if_pos hi2]
  | z :: l, h, last, 0, j, hi => by
    have hz := h z (.head _)
    show (if z = 127 then none else if z = 0 then last else some z) = _
    rw [if_neg (by lia), if_neg (by lia)]
    rfl
  | z :: l, h, last, i + 1, j, hi => by
    have hz := h z (.head _)
    show (if z = 127 then none else if z = 0 then last else out (some z) (l ++ [x] ++ 0 :: r) i) = _
    rw [if_neg (by lia), if_neg (by lia)]
    exact out_last hx (fun z hz => h z (.tail _ hz)) (some z) i j (by simp at hi; lia)
theorem zHead_ge {n : Int} (h : n ∈ menu) (cs : List T) : 217 ≤ zHead n cs := by
  have h1 : ∀ n ∈ menu, n ≤ 54 ∧ 16 ≤ n := by decide +kernel
  have := h1 n h
  unfold zHead
  split
  · lia
  · have : 0 < cs.length := List.length_pos_iff.mpr ‹_›
    lia
mutual
theorem zL_ge : ∀ t : T, t.ok → ∀ z ∈ zL t, 217 ≤ z
  | .node n cs, h, z, hz => by
    rcases List.mem_cons.mp hz with rfl | hz
    · exact zHead_ge h.1 cs
    · exact zLs_ge cs h.2 z hz
theorem zLs_ge : ∀ cs : List T, T.oks cs → ∀ z ∈ zLs cs, 217 ≤ z
  | [], _, z, hz => by cases hz
  | c :: cs, h, z, hz => by
    rcases List.mem_append.mp hz with hz | hz
    · exact zL_ge c h.1 z hz
    · exact zLs_ge cs h.2 z hz
end
theorem sm_size {s s' : Shared} (h : Sm s s') : s.gens.size ≤ s'.gens.size := by
  rcases Nat.lt_or_ge s'.gens.size s.gens.size with h1 | h1
  · have := h.2.1 s'.gens.size _ (Array.getElem?_eq_getElem h1)
    rw [Array.getElem?_eq_none (Nat.le_refl _)] at this
    cases this
  · exact h1
/-- where the reading stands behind k sizes -/
def unJ (aF P K : Addr) (t : T) (R : List (Addr × Obj)) (k : Nat) (m₁ : Str → Option Value) (M₁ : List (Addr × Obj)) : Prop :=
  ∃ eP eK l ls X, M₁ = unM P K eP eK (l :: ls) (X ++ R) ∧ Top aF X t l ls ∧ unN P K aF m₁ ∧ l.rs ≠ [] ∧ rem (l :: ls) = (zL t).drop k ∧ (l :: ls).length ≤ k + 1 ∧ ∀ l' ∈ l :: ls, LvOk l'
theorem unJ.more {aF P K : Addr} {t : T} {R : List (Addr × Obj)} {k : Nat} {m₁ : Str → Option Value} {M₁ : List (Addr × Obj)} (h : unJ aF P K t R k m₁ M₁) : k < t.size := by
  obtain ⟨_, _, l, ls, _, _, _, _, h1, h2, _⟩ := h
  rcases Nat.lt_or_ge k t.size with h3 | h3
  · exact h3
  · rw [List.drop_eq_nil_of_le (by rw [zL_len]; exact h3)] at h2
    simp only [rem, List.flatMap_cons, List.append_eq_nil_iff] at h2
    obtain ⟨c, r, e⟩ : ∃ c r, l.rs = c :: r := List.exists_cons_of_ne_nil h1
    obtain ⟨n, cs⟩ := c
    rw [e] at h2
    simp [zLs, zL] at h2
section
variable {prog : Program} {w : World} {A : Around} {E : Value → Shared → Prop} {g s s' : Shared} {h₀ : Heap} {m mg mb : Str → Option Value} {M M' : List (Addr × Obj)}
theorem unM_in {P K : Addr} {eP eK : Nat} {ls : List Lv} {X Y : List (Addr × Obj)} {p : Addr × Obj} : (p :: unM P K eP eK ls (X ++ Y)).Perm (unM P K eP eK ls (X ++ p :: Y)) := by
  have := List.perm_middle (a := p) (l₁ := (P, lst (ls.map fun l => Value.ref l.a).reverse eP) :: (K, lst (ls.map fun l => Value.int l.rs.length l.kt).reverse eK) :: (ls.map Lv.obj ++ X)) (l₂ := Y)
  simpa [unM, List.append_assoc] using this.symm
theorem unM_app {P K : Addr} {eP eK : Nat} {ls : List Lv} {X Y Z : List (Addr × Obj)} : unM P K eP eK ls (X ++ Y) ++ Z = unM P K eP eK ls (X ++ (Y ++ Z)) := by simp [unM]
noncomputable def uFor : Stmt := match (dBody (stA 72))[3]? with | some (Stmt.For _ _ (b :: _) _ _) => b | _ => .Pass default
set_option maxHeartbeats 2000000 in
/-- one ruler read -/
theorem un_ruler {P K aF L f a1 : Addr} {cd : Value} {vs : List Value} {e1 base : Nat} {zs : List Int} {t : T} {R Z : List (Addr × Obj)} {Q : Flow → Shared → Prop} (hA : A.handled = none) (hD : A.depth + 3 < recursionLimit) (B : Base prog w mg mb h₀) (hsz : t.size < 900)
    (hl : h₀.get? a1 = some (lst vs e1)) (hI : Ints vs zs) (hz0 : zs[0]? ≠ some 0) (hlen : zs.length < 1000) (hout : ∀ i z, base + i < t.size → out none zs i = some z → (zL t)[base + i]? = some z) (F : FS g h₀ L m (M ++ Z) s) (hJ : unJ aF P K t R base m M)
    (hr : m "ruler" = some (.ref a1))
    (hret : ∀ s' v m M, FS g h₀ L m M s' → TreeIn M v t → Q (.ret v) s')
    (hnext : ∀ s' m M R' k, FS g h₀ L m (M ++ Z) s' → base + k < t.size → out none zs k = none → (∀ j, j < k → out none zs j ≠ none) → unJ aF P K t R' (base + k) m M → Q .next s') :
    wpAny (model prog w) A (exec uFor (uE L f cd)) Q (fun _ _ => False) s := by
  obtain ⟨aG, eG, fG⟩ : ∃ a, mg "_grouping_intervals" = some (.ref a) ∧ FnAt h₀ "_grouping_intervals" gSt a := B.fn 0 rfl
  have hvl := hI.length
  with_unfolding_all refine x_forGrp (g := g) (h₀ := h₀) hA (by lia) B ?_
  walk_at "go"
  have F := ‹FS _ _ _ _ _ _›
  refine x_callGen (st := gSt) [(Str.ofString "grouping", Value.ref a1)] F (fG.keeps F.kp) (B.keeps F.kp) (by show A.depth < _; lia) (fun _ _ _ => rfl) rfl fun s2 G Lg oG oL cd2 F2 hG hLg hns hgs => ?_
  have F := ‹FS g h₀ L _ (M ++ Z) _›
  have hLB : h₀.objs.size ≤ Lg := Nat.le_trans F.fr.above (Nat.le_trans (Nat.le_of_lt F.fr.ns.lt) hLg)
  have hgo := grp_fresh (prog := prog) (w := w) (A := A.in1) (mg := mg) (mb := mb) (s := s2) (h₀ := h₀) (Lg := Lg) (l := a1) (f := aG) (cd := cd2) (oL := oL) (N := zs.length + t.size + 3) hA B hl (by rw [sizeLine_eq]; lia) hI hz0 (by have := hJ.more; lia) hLB hns (F2.get (.tail _ (.head _)))
  obtain ⟨eP, eK, l, ls, X, rfl, hT, hN, hne, hrem, hlen2, hok⟩ := id hJ
  refine ⟨G, _, oG, Lg, _, [(Lg, oL)], m, unM P K eP eK (l :: ls) (X ++ (G, oG) :: (R ++ Z)), _, zs, fun i m₁ M₁ => unJ aF P K t ((G, oG) :: (R ++ Z)) (base + i) m₁ M₁ ∧ ∀ j, j < i → out none zs j ≠ none, rfl, sm_size F.sm, ?_, ?_, hG, F2.get (.head _), .head _, by rw [hgs, Array.getElem?_push_size], hgo, ?_, ?_, ?_⟩
  · refine F2.perm ((List.Perm.swap _ _ _).trans ((List.Perm.cons _ ?_).trans (List.perm_append_singleton _ _).symm))
    rw [unM_app]
    exact unM_in
  · exact ⟨⟨eP, eK, l, ls, X, rfl, hT, hN, hne, by rw [hrem, Nat.add_zero], hlen2, hok⟩, fun j hj => absurd hj (Nat.not_lt_zero _)⟩
  · rintro i m₁ M₁ ⟨j, _⟩
    have := j.more
    obtain ⟨_, _, _, _, _, rfl, _⟩ := j
    exact ⟨by simp [unM], by lia⟩
  · rintro i z tz m₁ M₁ Z' s₁ ho ⟨j, jo⟩ S F3
    have hm := j.more
    obtain ⟨eP, eK, l, ls, X, rfl, hT, hN, hne, hrem, hlen2, hok⟩ := j
    rw [unM_app] at F3
    have hzi := hout i z hm ho
    obtain ⟨hi', e⟩ := List.getElem?_eq_some_iff.mp hzi
    have hrem2 : rem (l :: ls) = z :: (zL t).drop (base + i + 1) := by rw [hrem, List.drop_eq_getElem_cons hi', e]
    refine wpAny_mono (un_turn (tz := tz) (by lia) B F3 hT (by with_unfolding_all exact hN) (by lia) hok hrem2 hne (by with_unfolding_all rfl)) (fun fl s₂ h => ?_) fun _ _ e => e
    cases fl with
    | next =>
      obtain ⟨m₂, eP, eK, l', ls', X', F4, h1, h2, h3, h4, h5, h6⟩ := h
      refine ⟨m₂, _, by rw [← unM_app] at F4; exact F4, ⟨eP, eK, l', ls', X', rfl, h1, h2, h3, h4, by lia, h6⟩, fun j hj => ?_⟩
      rcases Nat.lt_succ_iff_lt_or_eq.mp hj with hj | rfl
      · exact jo j hj
      · rw [ho]
        simp
    | ret v =>
      obtain ⟨m₂, M₂, F4, h1⟩ := h
      exact hret _ _ _ _ (F4.back S) h1
    | brk => exact h.elim
    | cont => exact h.elim
  · rintro i m₁ M₁ s₁ ho ⟨j, jo⟩ F3
    have hm := j.more
    obtain ⟨eP, eK, l, ls, X, rfl, hT, hN, hne, hrem, hlen2, hok⟩ := j
    refine hnext s₁ m₁ (unM P K eP eK (l :: ls) (X ++ (G, oG) :: R)) ((G, oG) :: R) i ?_ hm ho jo ⟨eP, eK, l, ls, X, rfl, hT, hN, hne, hrem, hlen2, hok⟩
    rw [unM_app]
    exact F3
end
theorem out_behind {r : List Int} : ∀ {row : List Int} (_ : ∀ z ∈ row, 217 ≤ z) (last : Option Int) (i : Nat), row.length ≤ i → out last (row ++ 127 :: r) i = none
  | [], _, _, i, hi => by simp [out]
  | z :: row, h, last, 0, hi => by simp at hi
  | z :: row, h, last, i + 1, hi => by
    have hz := h z (.head _)
    show (if z = 127 then none else if z = 0 then last else out (some z) (row ++ 127 :: r) i) = _
    rw [if_neg (by lia), if_neg (by lia)]
    exact out_behind (fun z hz => h z (.tail _ hz)) (some z) i (by simpa using hi)
theorem unJ.ruler {aF P K : Addr} {t : T} {R : List (Addr × Obj)} {k : Nat} {m₁ : Str → Option Value} {M₁ : List (Addr × Obj)} {v : Value} (h : unJ aF P K t R k m₁ M₁) : unJ aF P K t R k (fun y => if y = Str.ofString "ruler" then some v else m₁ y) M₁ := by
  obtain ⟨eP, eK, l, ls, X, e, hT, hN, r⟩ := h
  exact ⟨eP, eK, l, ls, X, e, hT, by with_unfolding_all exact hN, r⟩
set_option maxHeartbeats 2000000 in
theorem unruled_spec {prog : Program} {w : World} {mg mb : Str → Option Value} {f : Addr} {A : Around} {E : Value → Shared → Prop} {s : Shared} {t : T} {Q : Value → Shared → Prop} {ra a1 a2 : Addr} {e0 e1 e2 cut j : Nat} {vs1 vs2 : List Value} {l : List Int} {x : Int} (hok : t.ok) (hcut : cut < t.size) (hsz : t.size < 900)
    (hA : A.handled = none) (hD : A.depth + 4 < recursionLimit) (B : Base prog w mg mb s.heap) (hf : FnAt s.heap "_law_unruled" (stA 72) f)
    (hra : s.heap.get? ra = some (lst [.ref a1, .ref a2] e0)) (h1 : s.heap.get? a1 = some (lst vs1 e1)) (h2 : s.heap.get? a2 = some (lst vs2 e2)) (hI1 : Ints vs1 ((zL t).take cut ++ [127, 272])) (hI2 : Ints vs2 (l ++ [x] ++ [0, 272])) (hd : (zL t).drop cut = l ++ [x] ++ List.replicate j x)
    (h : ∀ s' v X, Fresh s s' X → TreeIn X v t → Q v s') : wpAny (model prog w) A (call (.ref f) [.ref ra]) Q E s := by
  have hge := zL_ge t hok
  have hzl := zL_len t
  refine x_call [(Str.ofString "rulers", Value.ref ra)] hf B (by lia) (List.cons_ne_nil _ _) (fun _ _ _ => rfl) rfl ?_
  intro s0 L cd _ F
  have hA' : (A.deeper (envOf "_law_unruled" (dScope (stA 72)) L f cd)).handled = none := hA
  have hD' : (A.deeper (envOf "_law_unruled" (dScope (stA 72)) L f cd)).depth + 3 < recursionLimit := by show A.depth + 1 + 3 < _; lia
  with_unfolding_all refine wpAny_execs_cons ?_
  walk_at "go"
  rename_i aF _ _ _ _ _ _ _ _ _ _ _ _ P _ _ _ _ _ _ _ _ _ _ kt _ _ _ K _ _ _ _ F _
  have hrow : ∀ z ∈ (zL t).take cut, 217 ≤ z := fun z hz => hge z (List.mem_of_mem_take hz)
  have hrow2 : (∀ z ∈ l, 217 ≤ z) ∧ 217 ≤ x := ⟨fun z hz => hge z (List.mem_of_mem_drop (i := cut) (by rw [hd]; simp [hz])), hge x (List.mem_of_mem_drop (i := cut) (by rw [hd]; simp))⟩
  have hdl : t.size - cut = l.length + 1 + j := by
    have := congrArg List.length hd
    simp at this
    lia
  refine x_forList F hA' ?_
  walk_at "go"
  refine ⟨ra, _, _, _, _, fun i m₁ M₁ => ∃ base R, (i = 0 ∧ base = 0 ∨ i = 1 ∧ base = cut) ∧ unJ aF P K t R base m₁ M₁, rfl, (FS.swap ‹FS _ _ _ _ _ _›), ⟨0, [], .inl ⟨rfl, rfl⟩, 0, 0, ⟨aF, [], [], 0, kt, [t]⟩, [], [], rfl, ⟨[], .nil, .inr ⟨rfl, rfl, rfl, rfl⟩⟩, ⟨rfl, rfl, rfl⟩, List.cons_ne_nil _ _, by simp [rem, zLs], Nat.le_refl _, ?_⟩, FS.kp ‹FS _ _ _ _ _ _› _ _ hra, ?_, ?_, ?_⟩
  · intro l' hl
    rw [List.mem_singleton.mp hl]
    exact ⟨⟨hok, trivial⟩, by simp, by simp, by simp [T.sizes]; lia⟩
  · intro i m₁ M₁ Z s₁ _ F
    exact F.kp _ _ hra
  · rintro i v m₁ M₁ Z s₁ hv ⟨base, R, hi, hJ⟩ F
    with_unfolding_all refine wpAny_execs_cons ?_
    rcases hi with ⟨rfl, rfl⟩ | ⟨rfl, rfl⟩
    · cases hv
      with_unfolding_all refine un_ruler (P := P) (K := K) (aF := aF) (base := 0) (R := R) (Z := [Z]) hA' hD' (B.keeps Kp.refl) hsz h1 hI1 ?_ ?_ ?_ F hJ.ruler rfl ?_ ?_
      · cases e : (zL t).take cut with
        | nil => simp
        | cons z r =>
          have := hrow z (by rw [e]; exact .head _)
          simp
          lia
      · simp
        lia
      · intro i z hi ho
        have e := out_take (r := [272]) hrow none i
        rcases Nat.lt_or_ge i cut with hc | hc
        · rw [e (by simp; lia), List.getElem?_take_of_lt hc] at ho
          rw [Nat.zero_add]
          exact ho
        · rw [out_behind hrow none i (by simp; lia)] at ho
          cases ho
      · exact fun s' v m M F hT => h _ _ _ F.fresh hT
      · intro s' m M R' k F hk ho hall hJ
        refine wpAny_execs_nil ⟨m, M, F, cut, R', .inr ⟨rfl, rfl⟩, ?_⟩
        have hkc : k = cut := by
          rcases Nat.lt_trichotomy k cut with hc | hc | hc
          · have e := out_take (r := [272]) hrow none k (by simp; lia)
            rw [e, List.getElem?_take_of_lt hc] at ho
            have := List.getElem?_eq_none_iff.mp ho
            lia
          · exact hc
          · exact absurd (out_behind hrow none cut (by simp; lia)) (hall cut hc)
        rw [Nat.zero_add, hkc] at hJ
        exact hJ
    · cases hv
      with_unfolding_all refine un_ruler (P := P) (K := K) (aF := aF) (base := base) (R := R) (Z := [Z]) hA' hD' (B.keeps Kp.refl) hsz h2 hI2 ?_ ?_ ?_ F hJ.ruler rfl ?_ ?_
      · cases e : l with
        | nil => simp; lia
        | cons z r =>
          have := hrow2.1 z (by rw [e]; exact .head _)
          simp
          lia
      · simp
        lia
      · intro i z hi ho
        have e := out_last (r := [272]) hrow2.2 hrow2.1 none i j (by lia)
        rw [← hd, List.getElem?_drop] at e
        exact e ▸ ho
      · exact fun s' v m M F hT => h _ _ _ F.fresh hT
      · intro s' m M R' k F hk ho hall hJ
        have e := out_last (r := [272]) hrow2.2 hrow2.1 none k j (by lia)
        rw [← hd, List.getElem?_drop] at e
        have ho' : out none (l ++ [x] ++ 0 :: [272]) k = none := ho
        rw [e] at ho'
        have := List.getElem?_eq_none_iff.mp ho'
        lia
  · rintro m₁ M₁ s₁ ⟨base, R, hi, _⟩ F
    simp at hi
/-! list comprehensions -/
noncomputable abbrev cEnv (name : Str) (L : Addr) (cd : Value) (cs : Scope) (C : Addr) : Env := { scope := cs, locals := C, globals := mainGlobals, cells := [], qual := name ++ ".<locals>.", func := none, code := cd, frame := some L, builtins := builtinsNs }
def NsO (o : Obj) (m : Str → Option Value) : Prop := ∃ es ep, o.data = .dict es ep ∧ StrKeys es ∧ ∀ name, nsFind es name = m name
theorem NsO.ns {o : Obj} {m : Str → Option Value} {h : Heap} {C : Addr} (x : NsO o m) (e : h.get? C = some o) : h.Ns C m := let ⟨es, ep, r⟩ := x; ⟨o, es, ep, e, r⟩
theorem NsO.of {m : Str → Option Value} {h : Heap} {C : Addr} (x : h.Ns C m) : ∃ o, h.get? C = some o ∧ NsO o m := let ⟨o, es, ep, e, r⟩ := x; ⟨o, e, es, ep, r⟩
section
variable {prog : Program} {w : World} {A : Around} {E : Value → Shared → Prop} {g s s' : Shared} {name : Str} {scope cs : Scope} {L a C : Addr} {cd : Value} {h₀ : Heap} {m mC mg mb : Str → Option Value} {M M' : List (Addr × Obj)} {oC : Obj}
theorem c_local {x : Str} {pos : Pos} {v : Value} {Q : Value → Shared → Prop} (F : FS g h₀ L m M s) (hm : (C, oC) ∈ M) (hN : NsO oC mC) (hv : mC x = some v) (h : Q v s)
    (hk : cs.kind = .function := by rfl) (hl : (cEnv name L cd cs C).kindOf x = some .local := by rfl) (hd : (x == ("__debug__" : Str)) = false := by decide) :
    wpAny (model prog w) A (eval (.Name x pos) (cEnv name L cd cs C)) Q E s := wpAny_Name (wpAny_loadName_local hk hl (hN.ns (F.get hm)) hv h) hd
theorem c_global {x : Str} {pos : Pos} {v : Value} {Q : Value → Shared → Prop} (F : FS g h₀ L m M s) (B : Base prog w mg mb h₀) (e : mg x = some v) (h : Q v s)
    (hk : cs.kind = .function := by rfl) (hx : (cEnv name L cd cs C).kindOf x = some .globalImplicit := by rfl) (hd : (x == ("__debug__" : Str)) = false := by decide) :
    wpAny (model prog w) A (eval (.Name x pos) (cEnv name L cd cs C)) Q E s := Calls.Name_function_global hk hx (Calls.loadGlobal_global (env := cEnv name L cd cs C) (B.g.keeps F.kp) e h) hd
set_option maxHeartbeats 1000000 in
theorem x_listComp {elt iter : Expr} {x : Str} {px pos : Pos} {Q : Value → Shared → Prop} (hh : A.handled = none)
    (hit : wpAny (model prog w) A (eval iter (envOf name scope L a cd)) (fun xv s₁ => ∃ l vs n m M, ∃ J : Nat → List Value → List (Addr × Obj) → Prop, xv = .ref l ∧ FS g h₀ L m M s₁ ∧ J 0 [] M ∧ s₁.heap.get? l = some (lst vs n) ∧ vs.length ≤ 1000000 ∧
      (∀ i ys M₁ Z s₁, J i ys M₁ → FS g h₀ L m (M₁ ++ Z) s₁ → s₁.heap.get? l = some (lst vs n)) ∧
      (∀ i v ys M₁ C oC mC p q s₁, vs[i]? = some v → J i ys M₁ → FS g h₀ L m (M₁ ++ [p, (C, oC), q]) s₁ → NsO oC mC → mC x = some v →
        wpAny (model prog w) A (eval elt (cEnv name L cd cs C)) (fun y s₂ => ∃ M₂, FS g h₀ L m (M₂ ++ [p, (C, oC), q]) s₂ ∧ J (i + 1) (ys ++ [y]) M₂) (fun _ _ => False) s₁) ∧
      (∀ ys e M₁ D s₁, J vs.length ys M₁ → FS g h₀ L m ((D, lst ys e) :: M₁) s₁ → Q (.ref D) s₁)) E s)
    (hfree : ∀ x ∈ cs.names, x.2 ≠ .free) (hkind : cs.kind = .function) (hnames : ∀ x ∈ cs.names, x.2 = .local → cs.names.lookup x.1 = some .local) (hcell : ∀ x ∈ cs.names, x.2 ≠ .cell) (hx : cs.names.lookup x = some .local)
    (hs : ∀ x, foldedSetIterable iter (envOf name scope L a cd) x = pure x := by intro _; rfl) :
    wpAny (model prog w) A (eval (.ListComp elt [⟨.Name x px, iter, [], 0⟩] cs pos) (envOf name scope L a cd)) Q E s := by
  refine wpAny_ListComp hfree hkind hnames (wpAny_mono hit (fun xv s₁ h₁ => ?_) fun _ _ e => e) hs
  obtain ⟨l, vs, n, m, M, J, rfl, F, hJ, hl, hsz, keep, turn, done⟩ := h₁
  refine wpAny_pyIter_list (isList_of hl) ?_
  have F1 := F.push { cls := .type "list_iterator", data := .fields #[.ref l, .int 0 0] }
  have hit1 : (s₁.heap.push { cls := .type "list_iterator", data := .fields #[.ref l, .int 0 0] }).IsListIter s₁.heap.objs.size l 0 := ⟨_, Heap.get?_push_size _ rfl, rfl, rfl⟩
  have hne : l ≠ s₁.heap.objs.size := Nat.ne_of_lt (Heap.lt_size hl)
  generalize hI : s₁.heap.objs.size = I at *
  refine x_newList F1 (by rw [sizeLine_eq]; simp) fun s₂ acc F2 => ?_
  obtain ⟨oI, hoI, hI1, hI2⟩ := hit1
  have hoI2 : oI = { cls := .type "list_iterator", data := .fields #[.ref l, .int 0 0] } := by
    have := F1.get (.head _)
    rw [hoI] at this
    exact Option.some.inj this
  subst hoI2
  refine wpAny_newFunctionEnv hcell (fun _ h => nomatch h) (fun h₁ hns hsb => ?_) hkind
  obtain ⟨oC, hoC, hNO⟩ := NsO.of hns
  have hk1 : Kp s₂.heap h₁ := fun b o e => hsb.extBut b o (Nat.ne_of_lt (Heap.lt_size e)) (Heap.get?_push_of_some _ e)
  have F3 : FS g h₀ L m ([(s₂.heap.objs.size, oC)] ++ _) { s₂ with heap := h₁, toks := s₂.toks + ([] : List (Str × Value)).length } := F2.after (X := [(s₂.heap.objs.size, oC)]) ⟨.of rfl rfl, hk1, fun p hp => by
    rw [List.mem_singleton.mp hp]
    exact ⟨hoC, get_size _⟩, by simp⟩ F2.tp
  generalize s₂.heap.objs.size = C at *
  have F4 : FS g h₀ L m (M ++ [(acc, lst []), (C, oC), (I, _)]) { s₂ with heap := h₁, toks := s₂.toks + ([] : List (Str × Value)).length } := F3.perm (by
    refine (List.Perm.swap _ _ _).trans ?_
    exact (List.perm_append_comm (l₁ := [(acc, lst []), (C, oC), (I, _)])))
  clear F1 F2 F3
  have W := Walks.list (prog := prog) (w := w) hh I l hne vs.toArray
  have loop : codeAny (model prog w) A (.compLoop (.ListComp elt [⟨.Name x px, iter, [], 0⟩] cs pos) 0 (.ref I) (.ref acc) (cEnv name L cd cs C)) (fun r s' => ∃ m, s'.heap.Ns C m ∧ ∀ h', Heap.SameBut C s'.heap h' →
      match r with | .ok _ => Q (.ref acc) { s' with heap := h' } | .error x => wpAny (model prog w) A (passOn "comprehension.variables-let-go" x (cEnv name L cd cs C)) Q E { s' with heap := h' }) { s₂ with heap := h₁, toks := s₂.toks + ([] : List (Str × Value)).length } := by
    refine codeAny_compLoop_list (fun k s' => ∃ i ys M₁ oI oC mC e, FS g h₀ L m (M₁ ++ [(acc, lst ys e), (C, oC), (I, oI)]) s' ∧ NsO oC mC ∧ s'.heap.IsListIter I l i ∧ J i ys M₁ ∧ i ≤ vs.length ∧ ys.length = i ∧ k = vs.length + 1 - i) ?_ (vs.length + 1) ⟨0, [], M, _, oC, _, 0, F4, hNO, ⟨_, F4.get (List.mem_append_right _ (.tail _ (.tail _ (.head _)))), hI1, hI2⟩, hJ, Nat.zero_le _, rfl, rfl⟩
    rintro k s' ⟨i, ys, M₁, oI, oC, mC, e, F, hNO, hIt, hJ, hi, hyl, rfl⟩
    have hlst := keep _ _ _ _ _ hJ F
    by_cases hlt : i < vs.length
    · refine tpos F.tp (W.item i _ _ _ (by simpa using hlt) ⟨hIt, isList_of hlst⟩ fun v h₂ tk₂ hP st₂ hk₂ htp => ?_)
      obtain ⟨oI2, hoI2, hI3⟩ : ∃ o, h₂.get? I = some o ∧ True := let ⟨o, ho, _⟩ := st₂.1; ⟨o, ho, trivial⟩
      have F2 : FS g h₀ L m ((M₁ ++ [(acc, lst ys e), (C, oC)]) ++ [(I, oI2)]) { s' with heap := h₂, toks := tk₂ } := FS.turnK (tk := tk₂) (d := I) (o := oI) (by simpa using F) hoI2 (fun b x hb e => hk₂ b x (by simpa using hb) e) htp
      refine wpAny_assign_Name (wpAny_storeName_local (m := mC) hx (hNO.ns (F2.get (List.mem_append_left _ (List.mem_append_right _ (.tail _ (.head _)))))) (fun h' hn' hsb' => ?_) (by rw [hkind]; rfl))
      obtain ⟨oC2, hoC2, hNO2⟩ := NsO.of hn'
      have F3 : FS g h₀ L m (M₁ ++ [(acc, lst ys e), (C, oC2), (I, oI2)]) { s' with heap := h', toks := tk₂ + 1 } := by
        have F2' : FS g h₀ L m ((M₁ ++ [(acc, lst ys e), (I, oI2)]) ++ [(C, oC)]) { s' with heap := h₂, toks := tk₂ } := F2.perm (by simpa using List.Perm.append_left M₁ (List.Perm.cons _ (List.Perm.swap (I, oI2) (C, oC) [])))
        have := FS.turnK (tk := tk₂ + 1) (d := C) F2' hoC2 (fun b x hb e => (hsb'.2 b hb).trans e) (Nat.succ_pos _)
        exact this.perm (by simpa using List.Perm.append_left M₁ (List.Perm.cons _ (List.Perm.swap (C, oC2) (I, oI2) [])))
      refine wpAny_mono (turn i v ys M₁ C oC2 _ _ _ _ (by simpa using hP) hJ F3 hNO2 (by simp)) (fun y s₃ h₃ => ?_) fun _ _ e => e.elim
      obtain ⟨M₂, F4, hJ2⟩ := h₃
      refine x_append (F4.perm List.perm_middle) (by rw [sizeLine_eq]; lia) fun s₄ e' F5 => ?_
      refine ⟨vs.length + 1 - (i + 1), by lia, i + 1, ys ++ [y], M₂, oI2, oC2, _, e', F5.perm List.perm_middle.symm, hNO2, ?_, hJ2, hlt, by simp [hyl], rfl⟩
      obtain ⟨o, ho, c1, c2⟩ := st₂.1
      rw [hoI2] at ho
      cases ho
      exact ⟨oI2, F5.get (.tail _ (List.mem_append_right _ (.tail _ (.head _)))), c1, c2⟩
    · have hin : i = vs.length := by lia
      subst hin
      refine tpos F.tp (W.done _ _ _ ⟨by simpa using hIt, isList_of hlst⟩ fun h₂ tk₂ hk₂ htp => ?_)
      have F2 : FS g h₀ L m (M₁ ++ [(acc, lst ys e), (C, oC)]) { s' with heap := h₂, toks := tk₂ } := FS.loseK (tk := tk₂) (d := I) (o := oI) (by simpa using F) (fun b x hb e => hk₂ b x (by simpa using hb) e) htp
      refine ⟨mC, hNO.ns (F2.get (List.mem_append_right _ (.tail _ (.head _)))), fun h' hsb' => done ys e M₁ acc _ hJ ?_⟩
      have F3 := FS.loseK (h' := h') (tk := tk₂) (M := M₁ ++ [(acc, lst ys e)]) (d := C) (o := oC) (by simpa using F2) (fun b x hb e => (hsb'.2 b hb).trans e) htp
      exact F3.perm (List.perm_append_singleton _ _)
  refine codeAny_compStart_list loop (wpAny_pyIter_listiter (i := 0) (l := l) ⟨_, F4.get (List.mem_append_right _ (.tail _ (.tail _ (.head _)))), hI1, hI2⟩ loop)
end
local macro_rules | `(tactic| walk_at "goc") => `(tactic| repeat ((fail_if_success (with_reducible show wpAny _ _ (eval (Expr.ListComp _ _ _ _) _) _ _ _)); walk_at "one"))
/-! the writing in brackets -/
noncomputable def opn (n : Int) : Nat := if n.fmod 3 = 0 then 40 else if n.fmod 3 = 1 then 91 else 123
noncomputable def cls (n : Int) : Nat := if n.fmod 3 = 0 then 41 else if n.fmod 3 = 1 then 93 else 125
mutual
noncomputable def bL : T → List Nat
  | .node n cs => sgnL n ++ [opn n] ++ bLs cs ++ [cls n]
noncomputable def bLs : List T → List Nat
  | [] => []
  | c :: cs => bL c ++ bLs cs
end
theorem bLs_mem_len : ∀ {cs : List T} {c : T}, c ∈ cs → (bL c).length ≤ (bLs cs).length
  | c' :: cs, c, h => by
    rcases List.mem_cons.mp h with rfl | h
    · simp [bLs]
    · have := bLs_mem_len h
      simp [bLs]
      lia
theorem join_nil : ∀ ts : List (List Nat), Txt.join (sOf []) (ts.map sOf) = sOf ts.flatten
  | [] => rfl
  | [t] => by
    show Builtin.Str.glued (sOf []) [sOf t] = _
    rw [StrLaws.glued_eq_join]
    simp [Str.join]
  | t :: u :: r => by
    have e : Builtin.Str.glued (sOf []) ((u :: r).map sOf) = _ := join_nil (u :: r)
    show Builtin.Str.glued (sOf []) (sOf t :: sOf u :: r.map sOf) = _
    rw [StrLaws.glued_eq_join] at e ⊢
    show sOf t ++ sOf [] ++ Str.join (sOf []) (sOf u :: r.map sOf) = _
    rw [show Str.join (sOf []) (sOf u :: r.map sOf) = _ from e, sOf_cat, sOf_cat]
    simp
theorem bLs_flat : ∀ cs : List T, (cs.map bL).flatten = bLs cs
  | [] => rfl
  | c :: cs => by simp [bLs, bLs_flat cs]
theorem join_sOf (cs : List T) : Txt.join (sOf []) (cs.map fun c => sOf (bL c)) = sOf (bLs cs) := by
  rw [← bLs_flat, ← join_nil, List.map_map]
  rfl
section
variable {prog : Program} {w : World} {A : Around} {E : Value → Shared → Prop} {g s s' : Shared} {L a : Addr} {h₀ : Heap} {m mg mb : Str → Option Value} {M M' : List (Addr × Obj)}
theorem x_join {D : Addr} {l : List (Str × Tok)} {e : Nat} {x : Str} {t : Tok} {Q : Value → Shared → Prop} (F : FS g h₀ L m M s) (hl : s.heap.get? D = some (lst (strValues l) e)) (hok : JoinOk x (l.map (·.1)) = true)
    (h : ∀ s' t', FS g h₀ L m M s' → Q (.str (Txt.join x (l.map (·.1))) t') s') : wpAny (model prog w) A (call (.builtin "str.join") [.str x t, .ref D]) Q E s :=
  tpos F.tp (SC.join (isList_of hl) rfl hok fun t' k hp => h _ t' (F.tk hp))
theorem x_itemTup {value slice : Expr} {l : Addr} {vs : List Value} {n : Nat} {k : Int} {u : Tok} {x : Value} {Q : Value → Shared → Prop} (j : Nat) (F : FS g h₀ L m M s) (hl : (l, tup vs n) ∈ M) (hj : k = (j : Int)) (hx : vs[j]? = some x) (hsz : j < 1000000) (h : Q x s)
    (hs : subscripted slice false (.ref l) (.int k u) = operate [.ref l, .int k u] (getItem (.ref l) (.int k u)) := by first | with_reducible exact sub_name | with_reducible exact sub_const | with_reducible exact sub_binop | with_reducible exact sub_unop | with_unfolding_all rfl) :
    wpAny (model prog w) A (subscriptTail value slice (.ref l) (.int k u)) Q E s := by
  subst hj
  have hlt := (List.getElem?_eq_some_iff.mp hx).1
  exact item_tupleT (l := vs) (j := j) ⟨_, F.get hl, rfl, n, rfl⟩ (by lia) (by lia) (by rw [StrLaws.seqIndex_nonneg (by lia) (by lia)]; simp) hx h hs
end
theorem fmod3 (n : Int) : (n.fmod 3 = 0 ∨ n.fmod 3 = 1 ∨ n.fmod 3 = 2) := by
  rw [Int.fmod_eq_emod_of_nonneg _ (by decide)]
  lia
theorem x_itemPair {prog : Program} {w : World} {A : Around} {E : Value → Shared → Prop} {g s : Shared} {L : Addr} {h₀ : Heap} {m : Str → Option Value} {M : List (Addr × Obj)} {value slice : Expr} {l : Addr} {n : Int} {t0 t1 t2 u : Tok} {Q : Value → Shared → Prop} (F : FS g h₀ L m M s)
    (hl : (l, tup [Value.str (Str.ofString "()") t0, Value.str (Str.ofString "[]") t1, Value.str (Str.ofString "{}") t2]) ∈ M) (h : ∀ tp, Q (.str (sOf [opn n, cls n]) tp) s)
    (hs : subscripted slice false (.ref l) (.int (n.fmod 3) u) = operate [.ref l, .int (n.fmod 3) u] (getItem (.ref l) (.int (n.fmod 3) u)) := by first | with_reducible exact sub_name | with_reducible exact sub_const | with_reducible exact sub_binop | with_reducible exact sub_unop | with_unfolding_all rfl) :
    wpAny (model prog w) A (subscriptTail value slice (.ref l) (.int (n.fmod 3) u)) Q E s := by
  rcases fmod3 n with e | e | e
  · exact x_itemTup 0 F hl (by rw [e]; rfl) rfl (by decide) (by have := h t0; rw [show sOf [opn n, cls n] = Str.ofString "()" by unfold opn cls; rw [e]; decide +kernel] at this; exact this) hs
  · exact x_itemTup 1 F hl (by rw [e]; rfl) rfl (by decide) (by have := h t1; rw [show sOf [opn n, cls n] = Str.ofString "[]" by unfold opn cls; rw [e]; decide +kernel] at this; exact this) hs
  · exact x_itemTup 2 F hl (by rw [e]; rfl) rfl (by decide) (by have := h t2; rw [show sOf [opn n, cls n] = Str.ofString "{}" by unfold opn cls; rw [e]; decide +kernel] at this; exact this) hs
set_option maxHeartbeats 4000000 in
theorem bracketed_spec {prog : Program} {w : World} {mg mb : Str → Option Value} {f : Addr} : ∀ (k : Nat) (t : T), t.size ≤ k → t.ok → (bL t).length ≤ 10000 →
    ∀ (A : Around) (E : Value → Shared → Prop) (s : Shared) (v : Value) (Q : Value → Shared → Prop), A.handled = none → A.depth + k + 1 < recursionLimit → Base prog w mg mb s.heap → mg "_law_bracketed" = some (.ref f) → FnAt s.heap "_law_bracketed" (stA 75) f → TreeAt s.heap v t →
    (∀ s' t', Sm s s' → Kp s.heap s'.heap → Q (.str (sOf (bL t)) t') s') → wpAny (model prog w) A (call (.ref f) [v]) Q E s
  | 0, .node _ _, h, _, _ => by simp [T.size] at h
  | k + 1, .node n cs, hk, hok, hlen => by
    intro A E s v Q hA hD B eq hf hT h
    cases hT with | @mk a _ tk vs _ e hg hTs =>
    obtain ⟨aS, eS, fS⟩ : ∃ a, mg "_law_sign" = some (.ref a) ∧ FnAt s.heap "_law_sign" (stA 66) a := B.fn 5 rfl
    have hl0 : (sgnL n).length + 1 + (bLs cs).length + 1 ≤ 10000 := by have := hlen; simp [bL] at this; lia
    have hsz : cs.length ≤ 1000 := by have := T.sizes_length cs; simp only [T.size] at hk; rw [rl_lim] at hD; lia
    have hvs : vs.length = cs.length := hTs.length
    refine x_call [(Str.ofString "node", Value.ref a)] hf B (by lia) (List.cons_ne_nil _ _) (fun _ _ _ => rfl) rfl ?_
    intro s0 L cd _ F
    have hA' : (A.deeper (envOf "_law_bracketed" (dScope (stA 75)) L f cd)).handled = none := hA
    with_unfolding_all refine wpAny_execs_cons ?_
    walk_at "go"
    refine x_mod ‹FS _ _ _ _ _ _› (by decide) fun s1 t1 F1 => ?_
    walk_at "go"
    refine x_itemPair F1 (.head _) fun tp => ?_
    walk_at "go"
    have F := ‹FS _ _ _ _ _ _›
    refine tpos F.tp (sign_spec (B.keeps F.kp) (fS.keeps F.kp) (by show A.depth + 1 < _; lia) hok.1 fun s1 t1 S1 K1 P1 => ?_)
    replace F := F.kept K1 S1 P1
    clear S1 K1 P1
    walk_at "go"
    refine x_itemStr (l := [opn n, cls n]) 0 ‹FS _ _ _ _ _ _› rfl rfl (by rw [sizeLine_eq]; simp) fun s2 t2 F2 => ?_
    walk_at "tree"
    rw [sgn_sOf]
    refine x_cat F2 (by rw [sizeLine_eq, sOf_len, sOf_len]; simp; lia) fun s3 t3 F3 => ?_
    rw [sOf_cat]
    walk_at "goc"
    refine x_listComp (g := s) (h₀ := s.heap) hA' (x_sliceList ‹FS _ _ _ _ _ _› ?_) (by with_unfolding_all decide) (by with_unfolding_all rfl) (by with_unfolding_all decide) (by with_unfolding_all decide) (by with_unfolding_all rfl)
    walk_at "go"
    have F := ‹FS _ _ _ _ _ _›
    refine ⟨a, _, _, some 1, none, _, _, rfl, F, F.kp _ _ hg, by rw [sizeLine_eq, List.length_cons]; lia, .int _ _, .none, fun s4 D F4 => ?_⟩
    rw [slice_tail] at F4
    refine ⟨D, vs, 0, _, _, fun i ys M₁ => (∃ l : List (Str × Tok), ys = strValues l ∧ l.map (·.1) = (cs.take i).map fun c => sOf (bL c)) ∧ (D, lst vs) ∈ M₁, rfl, F4, ⟨⟨[], rfl, by simp⟩, .head _⟩, F4.get (.head _), by lia, ?_, ?_, ?_⟩
    · rintro i ys M₁ Z s₁ ⟨_, hD⟩ F
      exact F.get (List.mem_append_left _ hD)
    · rintro i v ys M₁ C oC mC p q s₁ hv ⟨⟨l, rfl, hl⟩, hD⟩ F hNO hx
      obtain ⟨c, hc, hTc⟩ := hTs.get hv
      have hlc := bLs_mem_len (List.mem_of_getElem? hc)
      have hsc := T.sizes_get hc
      walk1
      refine c_global F (B.keeps Kp.refl) eq ?_ (hk := by with_unfolding_all rfl) (hx := by with_unfolding_all rfl)
      refine x_callWith hf ?_
      walk1
      refine c_local F (List.mem_append_right _ (.tail _ (.head _))) hNO hx ?_ (hk := by with_unfolding_all rfl) (hl := by with_unfolding_all rfl) (hd := by with_unfolding_all decide)
      walk1
      refine ⟨F.kp, ?_⟩
      refine tpos F.tp (bracketed_spec k c (by simp only [T.size] at hk; lia) (T.oks_get hok.2 hc) (by lia) _ _ _ _ _ hA' (by show A.depth + 1 + k + 1 < _; lia) (B.keeps F.kp) eq (hf.keeps F.kp) (Tr.kp hTc F.kp) fun s3 t3 S3 K3 P3 => ?_)
      refine ⟨M₁, F.kept K3 S3 P3, ⟨l ++ [(sOf (bL c), t3)], by simp [strValues], ?_⟩, hD⟩
      rw [List.map_append, hl, List.take_add_one, hc]
      simp
    · rintro ys e' M₁ D2 s₁ ⟨⟨l, rfl, hl⟩, hD⟩ F
      rw [hvs, List.take_length] at hl
      walk_at "go"
      refine x_join (l := l) ‹FS _ _ _ _ _ _› (FS.get ‹FS _ _ _ _ _ _› (.head _)) ?_ fun s5 t5 F5 => ?_
      · rw [hl]
        unfold JoinOk
        rw [StrLaws.joinFits (B := 10000)]
        · rfl
        · intro y hy
          obtain ⟨c, hc, rfl⟩ := List.mem_map.mp hy
          have := bLs_mem_len hc
          rw [sOf_len]
          lia
        · rw [List.length_map, show (Str.ofString "").length = 0 from by decide +kernel]
          lia
      rw [hl, show Str.ofString "" = sOf [] by decide +kernel, join_sOf]
      refine x_cat F5 (by rw [sizeLine_eq, sOf_len, sOf_len]; simp; lia) fun s6 t6 F6 => ?_
      rw [sOf_cat]
      walk_at "go"
      refine x_itemStr (l := [opn n, cls n]) 1 ‹FS _ _ _ _ _ _› rfl rfl (by rw [sizeLine_eq]; simp) fun s7 t7 F7 => ?_
      refine x_cat F7 (by rw [sizeLine_eq, sOf_len, sOf_len]; simp; lia) fun s8 t8 F8 => ?_
      rw [sOf_cat]
      exact h _ _ F8.sm F8.kp
/-! reading the brackets back -/
theorem lookup_none : ∀ (D : List (String × Int)) (y : Str), (∀ p ∈ D, Str.ofString p.1 ≠ y) → PySem.Spec.lookup (.str y) (D.map fun p => (PyData.str (Str.ofString p.1), PyData.int p.2)) = none
  | [], _, _ => rfl
  | p :: D, y, h => by
    have h1 := h p (.head _)
    have h2 := lookup_none D y fun q hq => h q (.tail _ hq)
    show (if PySem.Spec.same (PyData.str (Str.ofString p.1)) (PyData.str y) = true then _ else _) = none
    rw [PyProof.V.same_str, if_neg (by simpa using h1)]
    exact h2
noncomputable def brs : List Nat := [40, 41, 91, 93, 123, 125]
theorem tok_plain : ∀ p ∈ tokTab, 2 ≤ (Str.ofString p.1).cps.toList.length → ∀ c ∈ (Str.ofString p.1).cps.toList, c ∉ brs := by decide +kernel
theorem tok_none {y : List Nat} {c : Nat} (h2 : 2 ≤ y.length) (hc : c ∈ y) (hb : c ∈ brs) : PySem.Spec.lookup (.str (sOf y)) tokData = none :=
  lookup_none tokTab _ fun p hp e => tok_plain p hp (by rw [e]; exact h2) c (by rw [e]; exact hc) hb
theorem tok_nil : PySem.Spec.lookup (.str (sOf [])) tokData = none := lookup_none tokTab _ (by decide +kernel)
noncomputable def oCode (n : Int) : Int := if n.fmod 3 = 0 then 7 else if n.fmod 3 = 1 then 9 else 25
theorem opn_br (n : Int) : opn n ∈ brs := by
  unfold opn
  rcases fmod3 n with e | e | e <;> rw [e] <;> decide
theorem cls_br (n : Int) : cls n ∈ brs := by
  unfold cls
  rcases fmod3 n with e | e | e <;> rw [e] <;> decide
theorem tok_opn (n : Int) : PySem.Spec.lookup (.str (sOf [opn n])) tokData = some (.int (oCode n)) := by
  unfold opn oCode
  rcases fmod3 n with e | e | e <;> rw [e] <;> with_unfolding_all rfl
theorem tok_cls (n : Int) : PySem.Spec.lookup (.str (sOf [cls n])) tokData = some (.int (oCode n + 1)) := by
  unfold cls oCode
  rcases fmod3 n with e | e | e <;> rw [e] <;> with_unfolding_all rfl
noncomputable def opOf (l : Lv) : Int := match l.pre with | [.int n _] => n | _ => 0
noncomputable def rtxt : List Lv → List Nat
  | [] => []
  | [l] => bLs l.rs
  | l :: r => bLs l.rs ++ cls (opOf l) :: rtxt r
section
variable {prog : Program} {w : World} {A : Around} {E : Value → Shared → Prop} {g s s' : Shared} {L a : Addr} {h₀ : Heap} {m mg mb : Str → Option Value} {M M' : List (Addr × Obj)}
theorem iseof_spec {t : Tok} {z : Int} {f : Addr} {Q : Value → Shared → Prop} (B : Base prog w mg mb s.heap) (hf : FnAt s.heap "ISEOF" (stA 63) f) (hroom : A.depth + 1 < recursionLimit)
    (h : ∀ s', Sm s s' → Kp s.heap s'.heap → 0 < s'.toks → Q (.bool (decide (z = 0))) s') : wpAny (model prog w) A (call (.ref f) [.int z t]) Q E s := by
  obtain ⟨tN, eN⟩ : ∃ t, mg "ENDMARKER" = some (.int 0 t) := B.consts ("ENDMARKER", 0) (.tail _ (.tail _ (.head _)))
  refine x_call [(Str.ofString "x", Value.int z t)] hf B (by lia) (List.cons_ne_nil _ _) (fun _ _ _ => rfl) rfl ?_
  intro s' L' cd _ F
  with_unfolding_all refine wpAny_execs_cons ?_
  walk_at "go"
  have F := ‹FS _ _ _ _ _ _›
  exact h _ F.sm F.kp F.tp
theorem x_notin {d : Addr} {y : List Nat} {t : Tok} {Q : Value → Shared → Prop} (F : FS g h₀ L m M s) (T : StrTab prog w s.heap d tokData) (h : ∀ s', FS g h₀ L m M s' → Q (.bool (!(PySem.Spec.lookup (.str (sOf y)) tokData).isSome)) s') :
    wpAny (model prog w) A (compareOp .NotIn (.str (sOf y) t) (.ref d)) Q E s := notin_strTab T (h _ (F.tk (Nat.succ_pos _)))
theorem x_get2 {d : Addr} {y : List Nat} {t u : Tok} {n : Int} {Q : Value → Shared → Prop} (F : FS g h₀ L m M s) (T : StrTab prog w s.heap d tokData) (hn : (PySem.Spec.lookup (.str (sOf y)) tokData).getD (.int 0) = .int n) (h : ∀ s' t, FS g h₀ L m M s' → Q (.int n t) s') :
    wpAny (model prog w) A (call (.builtin "dict.get") [.ref d, .str (sOf y) t, .int 0 u]) Q E s :=
  call_get2_strTab T (.int 0 u) fun v hv => by
    rw [hn] at hv
    obtain ⟨t', rfl⟩ := flat_int hv
    exact h _ t' (F.tk (Nat.succ_pos _))
theorem x_in3 {l : Addr} {a b c z : Int} {ta tb tc u : Tok} {n : Nat} {Q : Value → Shared → Prop} (F : FS g h₀ L m M s) (hl : (l, tup [.int a ta, .int b tb, .int c tc] n) ∈ M) (h : Q (.bool ([a, b, c].any (· == z))) s) :
    wpAny (model prog w) A (compareOp .In (.int z u) (.ref l)) Q E s := in_tuple_ints ⟨_, F.get hl, rfl, n, rfl⟩ (.cons _ _ (.cons _ _ (.cons _ _ .nil))) h
end
theorem sl_idx_but (n : Nat) (h : 0 < n) : Builtin.Str.strSliceIndices none (some (-1)) 1 n = (List.range (n - 1)).map (0 + ·) := by
  simp only [Builtin.Str.strSliceIndices, show ((-1 : Int) < 0) by decide, if_true, show (1 : Int) > 0 by decide]
  rw [show n - 1 = n - 1 - 0 by lia, ← sliceRange_one]
  congr 1
  lia
theorem sl_but (l : List Nat) (h : l ≠ []) : Txt.slice (sOf l) none (some (-1)) = sOf l.dropLast := by
  have hl := List.length_pos_iff.mpr h
  rw [sl_text l _ _ _ _ (sl_idx_but l.length hl) (by lia), List.drop_zero, List.dropLast_eq_take]
noncomputable abbrev bE (L f : Addr) (cd : Value) : Env := envOf "_law_unbracketed" (dScope (stA 76)) L f cd
noncomputable def bBody : List Stmt := match (dBody (stA 76))[2]? with | some (Stmt.While _ b _ _) => b | _ => []
noncomputable def bWhile : Stmt := (bBody[1]?).getD (.Pass default)
section
variable {prog : Program} {w : World} {A : Around} {E : Value → Shared → Prop} {g s s' : Shared} {L a : Addr} {h₀ : Heap} {m mg mb : Str → Option Value} {M M' : List (Addr × Obj)}
set_option maxHeartbeats 1000000 in
/-- the longest operator at the text's head -/
theorem piece_loop {f d : Addr} {cd : Value} {y p : List Nat} {tp : Tok} {Q : Flow → Shared → Prop} (B : Base prog w mg mb h₀) (eT : mg "EXACT_TOKEN_TYPES" = some (.ref d)) (T : StrTab prog w h₀ d tokData) (F : FS g h₀ L m M s) (hy : y.length ≤ 100000) (hm : m "piece" = some (.str (sOf (y.take 3)) tp))
    (h1 : y.take p.length = p) (hp : p.length ≤ 3) (h2 : ∀ j, p.length < j → j ≤ y.length → j ≤ 3 → 2 ≤ j → PySem.Spec.lookup (.str (sOf (y.take j))) tokData = none) (h3 : p.length ≤ 1 ∨ (PySem.Spec.lookup (.str (sOf p)) tokData).isSome = true) (hp1 : y ≠ [] → 1 ≤ p.length)
    (k : ∀ s' m' t', FS g h₀ L m' M s' → m' "piece" = some (.str (sOf p) t') → (∀ x : Str, x ≠ Str.ofString "piece" → m' x = m x) → Q .next s') :
    wpAny (model prog w) A (exec bWhile (bE L f cd)) Q E s := by
  with_unfolding_all refine x_while (α := Nat) (fun j m₁ M₁ => p.length ≤ j ∧ j ≤ 3 ∧ M₁ = M ∧ (∃ t', m₁ "piece" = some (.str (sOf (y.take j)) t')) ∧ ∀ x : Str, x ≠ Str.ofString "piece" → m₁ x = m x) (fun j => j) 3 F ⟨hp, Nat.le_refl _, rfl, ⟨tp, hm⟩, fun _ _ => rfl⟩ ?_
  rintro j m₁ M₁ s₁ ⟨hj1, hj3, rfl, ⟨t', hm1⟩, hrest⟩ F1
  have hlen : (sOf (y.take j)).length ≤ sizeLine := by rw [sizeLine_eq, sOf_len, List.length_take]; lia
  walk_at "go"
  have hpl : p.length ≤ y.length := by have := congrArg List.length h1; rw [List.length_take] at this; lia
  have htk : min j y.length = p.length → y.take j = p := fun e => by rw [← h1, ← e]; simp [List.take_eq_take_iff]
  have fin : ∀ s', (y.take j = p) → FS g h₀ L m₁ M₁ s' → Q .next s' := fun s' e F => k s' m₁ t' F (by rw [← e]; exact hm1) hrest
  have hll : (sOf (y.take j)).length = min j y.length := by rw [sOf_len, List.length_take]
  by_cases hs : min j y.length ≤ 1
  · refine ite_neg (by rw [hll]; simp only [decide_eq_true_eq]; lia) ?_
    refine ite_neg Bool.false_ne_true ?_
    refine fin _ (htk ?_) ‹FS _ _ _ _ _ _›
    by_cases hy0 : y = []
    · subst hy0
      have h0 : ([] : List Nat).length = 0 := rfl
      lia
    · have := hp1 hy0
      lia
  · refine ite_pos (by rw [hll]; simp only [decide_eq_true_eq]; lia) ?_
    walk_at "go"
    refine x_notin ‹FS _ _ _ _ _ _› (T.keep (FS.kp ‹FS _ _ _ _ _ _›)) fun s2 F2 => ?_
    walk_at "go"
    by_cases he : min j y.length = p.length
    · have e := htk he
      rw [e]
      refine ite_neg (by rcases h3 with h3 | h3; · lia
                         · rw [h3]; simp) ?_
      refine ite_neg Bool.false_ne_true ?_
      exact fin _ e ‹FS _ _ _ _ _ _›
    · have hmin : y.take j = y.take (min j y.length) := by simp [List.take_eq_take_iff]
      have hno := h2 (min j y.length) (by lia) (by lia) (by lia) (by lia)
      refine ite_pos (by rw [hmin, hno]; rfl) ?_
      walk_at "go"
      refine ite_pos rfl ?_
      walk_at "go"
      refine x_sliceStr ‹FS _ _ _ _ _ _› ?_
      walk_at "go"
      refine ⟨_, _, none, some (-1, _), _, _, rfl, rfl, rfl, hlen, ‹FS _ _ _ _ _ _›, fun s3 t3 F3 => ?_⟩
      have e : Txt.slice (sOf (y.take j)) none (some (-1)) = sOf (y.take (min j y.length - 1)) := by
        rw [sl_but _ (by intro e; have h0 := congrArg List.length e; rw [List.length_take, List.length_nil] at h0; lia), hmin, List.dropLast_eq_take, List.take_take, List.length_take]
        congr 2
        lia
      walk_at "go"
      refine ⟨min j y.length - 1, _, _, ‹FS _ _ _ _ _ _›, by lia, by lia, by lia, rfl, ⟨_, congrArg (fun z => some (Value.str z _)) e⟩, ?_⟩
      intro x hx
      show (if x = Str.ofString "piece" then _ else m₁ x) = m x
      rw [if_neg hx]
      exact hrest x hx
end
local macro_rules | `(tactic| walk_at "goxi") => `(tactic| repeat ((fail_if_success (with_reducible show wpAny _ _ (execs (Stmt.If _ _ _ _ :: _) _) _ _ _)); walk_at "one"))
noncomputable def dueV (pl : List Lv) : List Value := (pl.dropLast.map fun l => Value.int (oCode (opOf l) + 1) l.kt).reverse
noncomputable abbrev brM (P K : Addr) (eP eK : Nat) (pl ls : List Lv) (R : List (Addr × Obj)) : List (Addr × Obj) := (P, lst (pl.map fun l => Value.ref l.a).reverse eP) :: (K, lst (dueV pl) eK) :: (ls.map Lv.obj ++ R)
theorem dueV_cons {l l2 : Lv} {r : List Lv} : dueV (l :: l2 :: r) = dueV (l2 :: r) ++ [.int (oCode (opOf l) + 1) l.kt] := by simp [dueV]
def brN (P K : Addr) (txt : List Nat) (m : Str → Option Value) : Prop := m "pile" = some (.ref P) ∧ m "due" = some (.ref K) ∧ ∃ t, m "text" = some (.str (sOf txt) t)
noncomputable def brT (pend : Bool) (l : Lv) (r : List Lv) : List Nat := (if pend then [opn (opOf l)] else []) ++ rtxt (l :: r)
def brI (aF P K : Addr) (t : T) (x : Bool × List Lv × List (Addr × Obj)) (m : Str → Option Value) (M : List (Addr × Obj)) : Prop :=
  ∃ eP eK l r, x.2.1 = l :: r ∧ M = brM P K eP eK (if x.1 then r else l :: r) (l :: r) x.2.2 ∧ brN P K (brT x.1 l r) m ∧ Top aF x.2.2 t l r ∧ (x.1 = true → r ≠ []) ∧ (∀ l' ∈ l :: r, LvOk l') ∧ (l :: r).length ≤ 1000 ∧ (brT x.1 l r).length ≤ 50000
theorem Top.shape {aF : Addr} {X : List (Addr × Obj)} {t : T} {l : Lv} {ls : List Lv} (h : Top aF X t l ls) : (∃ n tk l2 r, l.pre = [.int n tk] ∧ ls = l2 :: r ∧ ∃ ws, l2.ws = ws ++ [.ref l.a]) ∨ (l.pre = [] ∧ ls = []) := by
  obtain ⟨ds, tr, ⟨n, tk, e, b⟩ | ⟨e1, e2, _⟩⟩ := h
  · cases ls with
    | nil => exact b.elim
    | cons l2 r =>
      obtain ⟨ws, _, e2, _⟩ := b
      exact .inl ⟨n, tk, l2, r, e, rfl, ws, e2⟩
  · exact .inr ⟨e1, e2⟩
theorem menu_no : ∀ n ∈ menu, ([7, 9, 25] : List Int).any (· == n) = false ∧ ([8, 10, 26] : List Int).any (· == n) = false ∧ n ≠ 0 := by decide +kernel
theorem oCode_in (n : Int) : ([7, 9, 25] : List Int).any (· == oCode n) = true ∧ ([7, 9, 25] : List Int).any (· == oCode n + 1) = false ∧ ([8, 10, 26] : List Int).any (· == oCode n + 1) = true ∧ oCode n ≠ 0 ∧ oCode n + 1 ≠ 0 := by
  unfold oCode
  rcases fmod3 n with e | e | e <;> rw [e] <;> decide
section
variable {prog : Program} {w : World} {A : Around} {E : Value → Shared → Prop} {g s s' : Shared} {L a : Addr} {h₀ : Heap} {m mg mb : Str → Option Value} {M M' : List (Addr × Obj)}
theorem x_sliceStrE {env : Env} {value : Expr} {lower upper : Option Expr} {p pos : Pos} {Q : Value → Shared → Prop} (F : FS g h₀ L m M s)
    (h : wpAny (model prog w) A (eval value env) (fun o s₁ => wpAny (model prog w) A (evalPart lower env) (fun vl s₂ => wpAny (model prog w) A (evalPart upper env) (fun vu s₃ =>
      ∃ x t l u m M r, o = .str x t ∧ vl = partValue l ∧ vu = partValue u ∧ x.length ≤ sizeLine ∧ FS g h₀ L m M s₃ ∧ Txt.slice x (l.map (·.1)) (u.map (·.1)) = r ∧
        ∀ s' t', FS g h₀ L m M s' → Q (.str r t') s') E s₂) E s₁) E s)
    (ht : ∀ o r, letTemporaryGo value o r = pure () := by intro _ _; rfl) :
    wpAny (model prog w) A (eval (.Subscript value (.Slice lower upper none p) pos) env) Q E s :=
  x_sliceStr F (wpAny_mono h (fun _ _ h1 => wpAny_mono h1 (fun _ _ h2 => wpAny_mono h2 (fun _ _ h3 => by
    obtain ⟨x, t, l, u, m, M, r, e1, e2, e3, e4, e5, rfl, k⟩ := h3
    exact ⟨x, t, l, u, m, M, e1, e2, e3, e4, e5, k⟩) fun _ _ e => e) fun _ _ e => e) fun _ _ e => e) ht
def brQ (aF P K : Addr) (t : T) (g : Shared) (h₀ : Heap) (L : Addr) (k : Nat) (fl : Flow) (s' : Shared) : Prop := match fl with
  | .next => ∃ x m M, FS g h₀ L m M s' ∧ brI aF P K t x m M ∧ (∃ l r, x.2.1 = l :: r ∧ (brT x.1 l r).length < k)
  | .ret v => ∃ m M, FS g h₀ L m M s' ∧ TreeIn M v t
  | _ => False
set_option maxHeartbeats 1000000 in
theorem unb_head {f d : Addr} {cd : Value} {P K : Addr} {y p : List Nat} {n : Int} {Q : Flow → Shared → Prop} (hD : A.depth + 2 < recursionLimit) (B : Base prog w mg mb h₀) (eT : mg "EXACT_TOKEN_TYPES" = some (.ref d)) (T : StrTab prog w h₀ d tokData) (F : FS g h₀ L m M s) (hN : brN P K (p ++ y) m) (hy : (p ++ y).length ≤ 50000) (hn : n ≠ 0)
    (hp : p.length ≤ 3) (hp1 : 1 ≤ p.length) (h2 : ∀ j, p.length < j → j ≤ (p ++ y).length → j ≤ 3 → 2 ≤ j → PySem.Spec.lookup (.str (sOf ((p ++ y).take j))) tokData = none) (h3 : PySem.Spec.lookup (.str (sOf p)) tokData = some (.int n))
    (k : ∀ s' m' t', FS g h₀ L m' M s' → brN P K y m' → m' "number" = some (.int n t') → wpAny (model prog w) A (execs (bBody.drop 5) (bE L f cd)) Q E s') :
    wpAny (model prog w) A (execs bBody (bE L f cd)) Q E s := by
  obtain ⟨hP, hK, tt, ht⟩ := id hN
  obtain ⟨aI, eI, fI⟩ : ∃ a, mg "ISEOF" = some (.ref a) ∧ FnAt h₀ "ISEOF" (stA 63) a := B.fn 3 rfl
  have hlen : (sOf (p ++ y)).length ≤ sizeLine := by rw [sizeLine_eq, sOf_len]; lia
  have hplen : (sOf p).length ≤ sizeLine := by rw [sizeLine_eq, sOf_len]; lia
  with_unfolding_all refine wpAny_execs_cons ?_
  walk_at "go"
  refine x_sliceStrE ‹FS _ _ _ _ _ _› ?_
  walk_at "go"
  refine ⟨_, _, none, some (3, _), _, _, sOf ((p ++ y).take 3), rfl, rfl, rfl, hlen, ‹FS _ _ _ _ _ _›, sl_upto _ 3, fun s1 t1 F1 => ?_⟩
  walk_at "go"
  refine piece_loop (d := d) (y := p ++ y) (p := p) B eT T ‹FS _ _ _ _ _ _› (by lia) rfl (by simp) hp h2 (.inr (by rw [h3]; rfl)) (fun _ => hp1) fun s2 m2 t2 F2 hpc hrest => ?_
  have hP2 : m2 "pile" = some (.ref P) := (hrest "pile" (by decide +kernel)).trans (by with_unfolding_all exact hP)
  have hK2 : m2 "due" = some (.ref K) := (hrest "due" (by decide +kernel)).trans (by with_unfolding_all exact hK)
  have ht2 : m2 "text" = some (.str (sOf (p ++ y)) tt) := (hrest "text" (by decide +kernel)).trans (by with_unfolding_all exact ht)
  walk_at "go"
  refine getMethod_strTab_get (T.keep (FS.kp ‹FS _ _ _ _ _ _›)) ?_
  walk_at "go"
  refine x_get2 (n := n) ‹FS _ _ _ _ _ _› (T.keep (FS.kp ‹FS _ _ _ _ _ _›)) (by rw [h3]; rfl) fun s3 t3 F3 => ?_
  walk_at "go"
  have F4 := ‹FS _ _ _ _ _ _›
  refine iseof_spec (B.keeps F4.kp) (fI.keeps F4.kp) (by lia) fun s4 S4 K4 P4 => ?_
  replace F4 := F4.kept K4 S4 P4
  clear S4 K4 P4
  walk_at "go"
  refine ite_neg (by simpa using hn) ?_
  walk_at "go"
  refine x_sliceStrE ‹FS _ _ _ _ _ _› ?_
  walk_at "go"
  refine ⟨_, _, some (_, _), none, _, _, sOf y, rfl, rfl, rfl, hlen, ‹FS _ _ _ _ _ _›, (by rw [sOf_len]; exact (sl_from (p ++ y) p.length).trans (by rw [List.drop_left])), fun s5 t5 F5 => ?_⟩
  walk_at "goxi"
  have F6 := ‹FS _ _ _ _ _ _›
  with_unfolding_all exact k _ _ t3 F6 ⟨hP2, hK2, t5, rfl⟩ rfl
end
noncomputable def rtl (l : Lv) (r : List Lv) : List Nat := match r with | [] => [] | _ => cls (opOf l) :: rtxt r
theorem rtxt_cons (l : Lv) (r : List Lv) : rtxt (l :: r) = bLs l.rs ++ rtl l r := by
  cases r with
  | nil => simp [rtxt, rtl]
  | cons l2 r => rfl
theorem head_none {b : Nat} (hb : b ∈ brs) {p y : List Nat} {j : Nat} (h1 : p.length < j) (h2 : j ≤ (p ++ b :: y).length) (h3 : 2 ≤ j) : PySem.Spec.lookup (.str (sOf ((p ++ b :: y).take j))) tokData = none := by
  refine tok_none (c := b) (by rw [List.length_take]; lia) ?_ hb
  obtain ⟨k, rfl⟩ : ∃ k, j = p.length + (k + 1) := ⟨j - p.length - 1, by lia⟩
  rw [List.take_length_add_append, List.take_succ_cons]
  exact List.mem_append_right _ (.head _)
section
variable {prog : Program} {w : World} {A : Around} {E : Value → Shared → Prop} {g s s' : Shared} {L a : Addr} {h₀ : Heap} {m mg mb : Str → Option Value} {M M' : List (Addr × Obj)}
theorem x_itemLastT {value slice : Expr} {l : Addr} {vs : List Value} {n : Nat} {u : Tok} {x : Value} {Q : Value → Shared → Prop} (hl : s.heap.get? l = some (lst (vs ++ [x]) n)) (h : Q x s)
    (hs : subscripted slice false (.ref l) (.int (-1) u) = operate [.ref l, .int (-1) u] (getItem (.ref l) (.int (-1) u)) := by first | with_reducible exact sub_name | with_reducible exact sub_const | with_reducible exact sub_binop | with_reducible exact sub_unop | with_unfolding_all rfl) :
    wpAny (model prog w) A (subscriptTail value slice (.ref l) (.int (-1) u)) Q E s :=
  tail_any (isList_of hl).typeIs slot_list_getitem.lookup (wpAny_getItem_list_neg (isList_of hl) (by decide) (by simp; lia) (by decide) (by
    have e : (-1 + ((vs ++ [x]).toArray.size : Int)).toNat = vs.length := by simp; lia
    rw [e]; simp) h) hs
theorem x_itemT {value slice : Expr} {l : Addr} {vs : List Value} {n : Nat} {k : Int} {u : Tok} {x : Value} {Q : Value → Shared → Prop} (hl : s.heap.get? l = some (lst vs n)) (h0 : 0 ≤ k) (hfit : k < 2 ^ 63) (hx : vs[k.toNat]? = some x) (h : Q x s)
    (hs : subscripted slice false (.ref l) (.int k u) = operate [.ref l, .int k u] (getItem (.ref l) (.int k u)) := by first | with_reducible exact sub_name | with_reducible exact sub_const | with_reducible exact sub_binop | with_reducible exact sub_unop | with_unfolding_all rfl) :
    wpAny (model prog w) A (subscriptTail value slice (.ref l) (.int k u)) Q E s :=
  tail_any (isList_of hl).typeIs slot_list_getitem.lookup (wpAny_getItem_list (isList_of hl) h0 hfit (by simpa using hx) h) hs
theorem dueV_upd {l l' : Lv} {r : List Lv} (h1 : l'.pre = l.pre) (h2 : l'.kt = l.kt) : dueV (l' :: r) = dueV (l :: r) := by
  cases r with
  | nil => rfl
  | cons l2 r => rw [dueV_cons, dueV_cons]; unfold opOf; rw [h1, h2]
theorem rtl_upd {l l' : Lv} {r : List Lv} (h1 : l'.pre = l.pre) : rtl l' r = rtl l r := by
  cases r with
  | nil => rfl
  | cons l2 r => unfold rtl opOf; rw [h1]
theorem brM_cons {P K : Addr} {eP eK : Nat} {l : Lv} {pl ls : List Lv} {R : List (Addr × Obj)} : brM P K eP eK (l :: pl) ls R = (P, lst ((pl.map fun l => Value.ref l.a).reverse ++ [.ref l.a]) eP) :: (K, lst (dueV (l :: pl)) eK) :: (ls.map Lv.obj ++ R) := by simp [brM]
set_option maxHeartbeats 2000000 in
theorem unb_turn {f d aF P K : Addr} {cd : Value} {t : T} {x : Bool × List Lv × List (Addr × Obj)} {k : Nat} (hD : A.depth + 2 < recursionLimit) (B : Base prog w mg mb h₀) (eT : mg "EXACT_TOKEN_TYPES" = some (.ref d)) (TT : StrTab prog w h₀ d tokData) (F : FS g h₀ L m M s) (hI : brI aF P K t x m M)
    (hk : ∀ l r, x.2.1 = l :: r → (brT x.1 l r).length = k) (hsmall : x.2.1.length < 900) : wpAny (model prog w) A (execs bBody (bE L f cd)) (brQ aF P K t g h₀ L k) (fun _ _ => False) s := by
  obtain ⟨pend, ls, X⟩ := x
  obtain ⟨eP, eK, l, r, hls, hM, hN, hT, hp, hok, hlen, htx⟩ := hI
  dsimp only at hls hM hN hT hp htx hk hsmall
  subst hls
  subst hM
  have hkk := hk l r rfl
  cases pend with
  | true =>
    rcases hT.shape with ⟨n, tk, l2, r, hpre, rfl, ws, hws⟩ | ⟨_, h0⟩
    · have hop : opOf l = n := by unfold opOf; rw [hpre]
      have htxt : brT true l (l2 :: r) = [opn n] ++ rtxt (l :: l2 :: r) := by unfold brT; rw [hop]; rfl
      rw [htxt] at hN htx hkk
      have hoc := oCode_in n
      refine unb_head (n := oCode n) hD B eT TT F hN htx hoc.2.2.2.1 (by simp) (by simp) (fun j h1 h2 h3 h4 => head_none (p := []) (opn_br n) (by simp; lia) h2 h4) (tok_opn n) fun s1 m1 t1 F1 hN1 hnum => ?_
      obtain ⟨hP, hK, tt, ht⟩ := id hN1
      have e1 : brM P K eP eK (l2 :: r) (l :: l2 :: r) X = (P, lst ((r.map fun l => Value.ref l.a).reverse ++ [.ref l2.a]) eP) :: (K, lst (dueV (l2 :: r)) eK) :: (l.a, lst (l.pre ++ l.ws) l.e) :: (l2.a, lst ((l2.pre ++ ws) ++ [.ref l.a]) l2.e) :: (r.map Lv.obj ++ X) := by simp [brM, Lv.obj, hws]
      rw [show (if true = true then l2 :: r else l :: l2 :: r) = l2 :: r from rfl, e1] at F1
      with_unfolding_all refine wpAny_execs_cons ?_
      walk_at "go"
      refine x_in3 ‹FS _ _ _ _ _ _› (.head _) ?_
      walk_at "go"
      refine ite_pos hoc.1 ?_
      walk_at "go"
      refine x_itemLast (FS.get ‹FS _ _ _ _ _ _› (.tail _ (.head _))) ?_
      walk_at "go"
      refine x_itemLastT (FS.get ‹FS _ _ _ _ _ _› (.tail _ (.tail _ (.tail _ (.tail _ (.head _)))))) ?_
      walk_at "go"
      refine x_append (FS.swap ‹FS _ _ _ _ _ _›) (by rw [sizeLine_eq]; simp at hlen ⊢; lia) fun s2 n2 F2 => ?_
      walk_at "go"
      rename_i kt F3 _
      refine x_append F3.to3 (by rw [sizeLine_eq]; simp [dueV] at hlen ⊢; lia) fun s3 n3 F4 => ?_
      walk_at "go"
      have F5 := F4.to3.drop.swap
      refine ⟨(false, { l with kt := kt } :: l2 :: r, X), m1, _, F5, ⟨n2, n3, { l with kt := kt }, l2 :: r, rfl, ?_, ⟨hP, hK, tt, ht⟩, hT, (fun e => nomatch e), ?_, hlen, ?_⟩, _, _, rfl, ?_⟩
      · rw [if_neg Bool.false_ne_true, brM_cons, dueV_cons]
        simp [Lv.obj, hws, show opOf { l with kt := kt } = n from hop]
      · intro l' hl'
        rcases List.mem_cons.mp hl' with rfl | hl'
        · exact hok l (.head _)
        · exact hok l' (.tail _ hl')
      · refine Nat.le_trans ?_ htx
        show (rtxt (l :: l2 :: r)).length ≤ _
        simp
      · rw [← hkk]
        show (rtxt (l :: l2 :: r)).length < _
        simp
    · exact absurd h0 (hp rfl)
  | false =>
    cases hrs : l.rs with
    | cons c rs =>
      obtain ⟨n, cs⟩ := c
      obtain ⟨ok1, ok2, ok3, ok4⟩ := hok l (.head _)
      rw [hrs] at ok1 ok2 ok4
      have hcn : n ∈ menu := ok1.1.1
      simp only [T.sizes, T.size, List.length_cons] at ok2 ok4
      have hlc := T.sizes_length cs
      have hmn := menu_no n hcn
      have hsl := sgnL_len n hcn
      have htxt : brT false l r = sgnL n ++ opn n :: (bLs cs ++ cls n :: (bLs rs ++ rtl l r)) := by
        show rtxt (l :: r) = _
        rw [rtxt_cons, hrs]
        simp [bLs, bL]
      rw [htxt] at hN htx hkk
      refine unb_head (n := n) hD B eT TT F hN htx hmn.2.2 hsl.2 hsl.1 (fun j h1 h2 h3 h4 => head_none (opn_br n) h1 h2 h4) (tok_sgn n hcn) fun s1 m1 t1 F1 hN1 hnum => ?_
      obtain ⟨hP, hK, tt, ht⟩ := id hN1
      rw [if_neg Bool.false_ne_true, brM_cons, show (l :: r).map Lv.obj ++ X = (l.a, lst (l.pre ++ l.ws) l.e) :: (r.map Lv.obj ++ X) from rfl] at F1
      with_unfolding_all refine wpAny_execs_cons ?_
      walk_at "go"
      refine x_in3 ‹FS _ _ _ _ _ _› (.head _) ?_
      walk_at "go"
      refine ite_neg (by rw [hmn.1]; simp) ?_
      walk_at "go"
      refine x_in3 ‹FS _ _ _ _ _ _› (.head _) ?_
      walk_at "go"
      refine ite_neg (by rw [hmn.2.1]; simp) ?_
      walk_at "go"
      refine x_itemLast (FS.get ‹FS _ _ _ _ _ _› (.tail _ (.tail _ (.head _)))) ?_
      walk_at "go"
      rename_i q _ Fq _
      refine x_append Fq.swap.drop.swap.drop.to4 (by rw [sizeLine_eq]; simp; lia) fun s4 n4 F4 => ?_
      walk_at "go"
      have F5 := F4.to4.to4.perm (.cons _ (.cons _ (.swap _ _ _)))
      have hy : opn n :: (bLs cs ++ cls n :: (bLs rs ++ rtl l r)) = brT true ⟨q, [.int n t1], [], 0, 0, cs⟩ ({ l with ws := l.ws ++ [.ref q], rs := rs, e := n4 } :: r) := by
        show _ = opn n :: (bLs cs ++ cls n :: rtxt ({ l with ws := l.ws ++ [.ref q], rs := rs, e := n4 } :: r))
        rw [rtxt_cons, rtl_upd (l := l) (l' := { l with ws := l.ws ++ [.ref q], rs := rs, e := n4 }) rfl]
      refine ⟨(true, ⟨q, [.int n t1], [], 0, 0, cs⟩ :: { l with ws := l.ws ++ [.ref q], rs := rs, e := n4 } :: r, X), m1, _, F5, ⟨eP, eK, _, _, rfl, ?_, ⟨hP, hK, tt, by rw [← hy]; exact ht⟩, hT.node hrs, (fun _ => List.cons_ne_nil _ _), ?_, by simp at hsmall ⊢; lia, by rw [← hy]; simp at htx ⊢; lia⟩, _, _, rfl, by rw [← hy, ← hkk]; simp; lia⟩
      · rw [if_pos rfl, brM_cons, dueV_upd (l := l) (l' := { l with ws := l.ws ++ [.ref q], rs := rs, e := n4 }) rfl rfl]
        simp [Lv.obj]
      · intro l' hl'
        rcases List.mem_cons.mp hl' with rfl | hl'
        · exact ⟨ok1.1.2, by simp; lia, by simp, by simp; lia⟩
        · rcases List.mem_cons.mp hl' with rfl | hl'
          · exact ⟨ok1.2, by simp; lia, ok3, by simp; lia⟩
          · exact hok l' (.tail _ hl')
    | nil =>
      rcases hT.shape with ⟨n, tk, l2, r, hpre, rfl, ws, hws⟩ | ⟨hpre, rfl⟩
      · have hop : opOf l = n := by unfold opOf; rw [hpre]
        have hoc := oCode_in n
        have htxt : brT false l (l2 :: r) = [cls n] ++ rtxt (l2 :: r) := by
          show rtxt (l :: l2 :: r) = _
          rw [rtxt_cons, hrs]
          unfold rtl
          rw [hop]
          rfl
        rw [htxt] at hN htx hkk
        refine unb_head (n := oCode n + 1) hD B eT TT F hN htx hoc.2.2.2.2 (by simp) (by simp) (fun j h1 h2 h3 h4 => head_none (p := []) (cls_br n) (by simp; lia) h2 h4) (tok_cls n) fun s1 m1 t1 F1 hN1 hnum => ?_
        obtain ⟨hP, hK, tt, ht⟩ := id hN1
        rw [if_neg Bool.false_ne_true, brM_cons, dueV_cons, hop] at F1
        with_unfolding_all refine wpAny_execs_cons ?_
        walk_at "go"
        refine x_in3 ‹FS _ _ _ _ _ _› (.head _) ?_
        walk_at "go"
        refine ite_neg (by rw [hoc.2.1]; simp) ?_
        walk_at "go"
        refine x_in3 ‹FS _ _ _ _ _ _› (.head _) ?_
        walk_at "go"
        refine ite_pos hoc.2.2.1 ?_
        walk_at "go"
        have F2 := FS.drop (FS.drop ‹FS _ _ _ _ _ _›)
        refine x_pop F2 (by rw [sizeLine_eq]; simp at hsmall ⊢; lia) fun s3 n3 F3 => ?_
        clear F2
        walk_at "go"
        refine x_pop (FS.swap ‹FS _ _ _ _ _ _›) (by rw [sizeLine_eq]; simp [dueV] at hsmall ⊢; lia) fun s4 n4 F4 => ?_
        walk_at "go"
        refine ite_neg (by simp) ?_
        walk_at "go"
        have F5 := (FS.swap ‹FS _ _ _ _ _ _›).perm (.cons _ (.cons _ (List.perm_middle (a := l.obj) (l₁ := (l2 :: r).map Lv.obj) (l₂ := X)).symm))
        have hb : brT false l2 r = rtxt (l2 :: r) := rfl
        refine ⟨(false, l2 :: r, l.obj :: X), m1, _, F5, ⟨n3, n4, l2, r, rfl, rfl, hN1, hT.pop hrs, (fun e => nomatch e), fun l' hl' => hok l' (.tail _ hl'), by simp at hlen ⊢; lia, by rw [hb]; simp at htx ⊢; lia⟩, _, _, rfl, by rw [← hkk, hb]; simp⟩
      · obtain ⟨ea, _, v, hws, hTr⟩ := hT.last hrs
        obtain ⟨hP, hK, tt, ht⟩ := id hN
        have htxt : brT false l [] = [] := by
          show rtxt [l] = []
          rw [rtxt_cons, hrs]
          rfl
        rw [htxt] at ht
        rw [if_neg Bool.false_ne_true] at F
        have F1 : FS g h₀ L m ((P, lst [.ref l.a] eP) :: (K, lst (dueV [l]) eK) :: (l.a, lst [v] l.e) :: X) s := by
          have e : brM P K eP eK [l] [l] X = (P, lst [.ref l.a] eP) :: (K, lst (dueV [l]) eK) :: (l.a, lst [v] l.e) :: X := by simp [brM, Lv.obj, hpre, hws]
          rw [← e]
          exact F
        obtain ⟨aI, eI, fI⟩ : ∃ a, mg "ISEOF" = some (.ref a) ∧ FnAt h₀ "ISEOF" (stA 63) a := B.fn 3 rfl
        clear F
        have hlen0 : (sOf []).length ≤ sizeLine := by rw [sizeLine_eq, sOf_len]; simp
        with_unfolding_all refine wpAny_execs_cons ?_
        walk_at "go"
        refine x_sliceStrE ‹FS _ _ _ _ _ _› ?_
        walk_at "go"
        refine ⟨_, _, none, some (3, _), _, _, sOf (([] : List Nat).take 3), rfl, rfl, rfl, hlen0, ‹FS _ _ _ _ _ _›, sl_upto _ 3, fun s1 t1 F1 => ?_⟩
        walk_at "go"
        refine piece_loop (d := d) (y := []) (p := []) B eT TT ‹FS _ _ _ _ _ _› (by simp) rfl rfl (by simp) (fun j _ h _ _ => by simp at h; lia) (.inl (by simp)) (fun h => absurd rfl h) fun s2 m2 t2 F2 hpc hrest => ?_
        have hP2 : m2 "pile" = some (.ref P) := (hrest "pile" (by decide +kernel)).trans (by with_unfolding_all exact hP)
        walk_at "go"
        refine getMethod_strTab_get (TT.keep (FS.kp ‹FS _ _ _ _ _ _›)) ?_
        walk_at "go"
        refine x_get2 (n := 0) ‹FS _ _ _ _ _ _› (TT.keep (FS.kp ‹FS _ _ _ _ _ _›)) (by rw [tok_nil]; rfl) fun s3 t3 F3 => ?_
        walk_at "go"
        have F4 := ‹FS _ _ _ _ _ _›
        refine iseof_spec (B.keeps F4.kp) (fI.keeps F4.kp) (by lia) fun s4 S4 K4 P4 => ?_
        replace F4 := F4.kept K4 S4 P4
        clear S4 K4 P4
        walk_at "go"
        refine ite_pos (by simp) ?_
        walk_at "go"
        refine x_itemT (FS.get ‹FS _ _ _ _ _ _› (.tail _ (.tail _ (.head _)))) (by decide) (by decide) rfl ?_
        walk_at "go"
        exact ⟨_, _, ‹FS _ _ _ _ _ _›, hTr.mono fun _ _ q => .tail _ (.tail _ (.tail _ q))⟩
end
theorem rtxt_depth : ∀ (r : List Lv) (l : Lv), (l :: r).length ≤ (rtxt (l :: r)).length + 1
  | [], l => by simp
  | l2 :: r, l => by
    have h := rtxt_depth r l2
    rw [rtxt_cons]
    have : rtl l (l2 :: r) = cls (opOf l) :: rtxt (l2 :: r) := rfl
    rw [this]
    simp at h ⊢
    lia
noncomputable def brLen (x : Bool × List Lv × List (Addr × Obj)) : Nat := match x.2.1 with | l :: r => (brT x.1 l r).length | [] => 0
set_option maxHeartbeats 2000000 in
theorem unbracketed_spec {prog : Program} {w : World} {mg mb : Str → Option Value} {f : Addr} {A : Around} {E : Value → Shared → Prop} {s : Shared} {t : T} {tv : Tok} {Q : Value → Shared → Prop} (hok : t.ok) (hsz : t.size ≤ 900) (hlen : (bL t).length ≤ 800)
    (hD : A.depth + 4 < recursionLimit) (B : Base prog w mg mb s.heap) (hf : FnAt s.heap "_law_unbracketed" (stA 76) f)
    (h : ∀ s' v X, Fresh s s' X → TreeIn X v t → Q v s') : wpAny (model prog w) A (call (.ref f) [.str (sOf (bL t)) tv]) Q E s := by
  obtain ⟨d, eT, TT⟩ := B.tokd
  refine x_call [(Str.ofString "text", Value.str (sOf (bL t)) tv)] hf B (by lia) (List.cons_ne_nil _ _) (fun _ _ _ => rfl) rfl ?_
  intro s0 L cd _ F
  have hD' : (A.deeper (envOf "_law_unbracketed" (dScope (stA 76)) L f cd)).depth + 2 < recursionLimit := by show A.depth + 1 + 2 < _; lia
  with_unfolding_all refine wpAny_execs_cons ?_
  walk_at "go"
  rename_i aF _ _ _ _ P _ _ _ _ _ _ _ _ _ _ K _ _ _ _ F _
  have hb : brT false ⟨aF, [], [], 0, 0, [t]⟩ [] = bL t := by
    show bLs [t] = _
    simp [bLs]
  with_unfolding_all refine x_while (α := Bool × List Lv × List (Addr × Obj)) (fun x m₁ M₁ => brI aF P K t x m₁ M₁ ∧ brLen x ≤ 800) brLen (false, [⟨aF, [], [], 0, 0, [t]⟩], []) F.swap ?_ ?_
  · refine ⟨⟨0, 0, _, _, rfl, rfl, ⟨rfl, rfl, tv, ?_⟩, ⟨[], .nil, .inr ⟨rfl, rfl, rfl, rfl⟩⟩, (fun e => nomatch e), ?_, by simp, ?_⟩, ?_⟩
    · dsimp only
      rw [hb]
      rfl
    · intro l hl
      rw [List.mem_singleton.mp hl]
      exact ⟨⟨hok, trivial⟩, by simp, by simp, by simp [T.sizes]; lia⟩
    · dsimp only
      rw [hb]
      lia
    · show (brT false _ _).length ≤ 800
      rw [hb]
      exact hlen
  · rintro ⟨pend, ls, X⟩ m₁ M₁ s₁ ⟨hI, hbl⟩ F1
    walk_at "go"
    refine ite_pos rfl ?_
    have hsm : ls.length < 900 := by
      obtain ⟨_, _, l, r, e, _⟩ := hI
      dsimp only at e
      subst e
      have h1 := rtxt_depth r l
      have h2 : (rtxt (l :: r)).length ≤ (brT pend l r).length := by simp [brT]
      have h3 : (brT pend l r).length ≤ 800 := hbl
      lia
    have F2 := ‹FS _ _ _ _ _ _›
    refine wpAny_mono (unb_turn (k := brLen (pend, ls, X)) hD' (B.keeps Kp.refl) eT TT F2 hI (fun l r e => by dsimp only at e; subst e; rfl) hsm) (fun fl s₃ h₃ => ?_) fun _ _ e => e
    cases fl with
    | next =>
      obtain ⟨x, m, M, F3, hI3, l, r, e, hlt⟩ := h₃
      have hx : brLen x = (brT x.1 l r).length := by unfold brLen; rw [e]
      exact ⟨x, m, M, F3, by rw [hx]; exact hlt, hI3, by rw [hx]; exact Nat.le_trans (Nat.le_of_lt hlt) hbl⟩
    | ret v =>
      obtain ⟨m, M, F3, hTr⟩ := h₃
      exact h _ _ _ F3.fresh hTr
    | brk => exact h₃.elim
    | cont => exact h₃.elim
/-! a heap with a hole: what a callee may turn -/
noncomputable def hole (h : Heap) (P : Addr) : Heap := h.update P fun o => { o with data := .freed }
theorem hole_ne {h : Heap} {P b : Addr} (e : b ≠ P) : (hole h P).get? b = h.get? b := Heap.get?_update_ne _ _ _ _ e
theorem hole_size (h : Heap) (P : Addr) : (hole h P).objs.size = h.objs.size := by
  obtain ⟨objs, l⟩ := h
  simp [hole, Heap.update]
theorem hole_self (h : Heap) (P : Addr) : (hole h P).get? P = none := by
  obtain ⟨objs, l⟩ := h
  simp only [hole, Heap.update, Heap.get?, Array.getElem?_modify, if_pos]
  cases e : objs[P]? with
  | none => rfl
  | some o => rfl
theorem hole_kp (h : Heap) (P : Addr) : Kp (hole h P) h := fun b o e => by
  by_cases hb : b = P
  · subst hb
    rw [hole_self] at e
    cases e
  · rw [hole_ne hb] at e
    exact e
theorem kp_hole {hB h : Heap} {P : Addr} (k : Kp hB h) (hP : hB.get? P = none) : Kp hB (hole h P) := fun b o e => by
  have hb : b ≠ P := fun q => by rw [q, hP] at e; cases e
  rw [hole_ne hb]
  exact k _ _ e
section
variable {prog : Program} {w : World} {A : Around} {E : Value → Shared → Prop} {g s s' : Shared} {name : Str} {scope : Scope} {L a : Addr} {cd : Value} {h₀ : Heap} {m mg mb : Str → Option Value} {M M' : List (Addr × Obj)}
theorem FS.hole {P : Addr} {o : Obj} (F : FS g h₀ L m M s) (hP : h₀.get? P = some o) : FS g (hole h₀ P) L m ((P, o) :: M) s := by
  refine ⟨F.sm, ⟨F.fr.ns, (hole_kp _ _).trans F.fr.keep, by rw [hole_size]; exact F.fr.above⟩, fun p hp => ?_, List.nodup_cons.mpr ⟨fun hm => ?_, F.nd⟩, F.tp⟩
  · rcases List.mem_cons.mp hp with rfl | hp
    · exact ⟨F.kp _ _ hP, Nat.ne_of_lt (Nat.lt_of_lt_of_le (Heap.lt_size hP) F.fr.above), hole_self _ _⟩
    · have h1 := F.ns p hp
      refine ⟨h1.1, h1.2.1, ?_⟩
      by_cases hb : p.1 = P
      · rw [hb]; exact hole_self _ _
      · rw [hole_ne hb]; exact h1.2.2
  · obtain ⟨p, hp, e⟩ := List.mem_map.mp hm
    have := (F.ns p hp).2.2
    rw [e, hP] at this
    cases this
/-- a def of the text that bears another name within -/
def FnQ (h : Heap) (name qual : Str) (st : Stmt) (a : Addr) : Prop := ∃ o pm cd, h.get? a = some o ∧ o.data = .func (fnOf name qual (dParams st) (dBody st) (dScope st) .none .none .none pm none cd .none) ∧ h.CodeRec cd qual
theorem FnQ.keeps {h h' : Heap} {name qual : Str} {st : Stmt} {a : Addr} (x : FnQ h name qual st a) (k : Kp h h') : FnQ h' name qual st a := let ⟨o, pm, cd, e, d, c⟩ := x; ⟨o, pm, cd, k _ _ e, d, c.keeps k⟩
theorem x_codeQ {st : Stmt} {R : Result → Shared → Prop} {args : List Value} {f : Addr} {nm ql : Str} (binds : List (Str × Value))
    (hf : FnQ s.heap nm ql st f) (hl : s.heap.NoLimit) (hroom : A.depth < recursionLimit) (hne : binds ≠ [])
    (hbind : ∀ pm cd, bindArgs (fnOf nm ql (dParams st) (dBody st) (dScope st) .none .none .none pm none cd .none) ⟨args, []⟩ = pure binds)
    (hloc : (binds.all fun x => decide ((dScope st).names.lookup x.1 = some .local)) = true)
    (h : ∀ s' L' cd, L' = s.heap.objs.size → FS s s.heap L' (fun x => binds.reverse.lookup x) [] s' →
      wpAny (model prog w) (A.deeper (envOf ql (dScope st) L' f cd)) (execs (dBody st) (envOf ql (dScope st) L' f cd))
        (fun fl s' => R (.ok (.ret (match fl with | .ret v => v | _ => .none))) s') (fun _ _ => False) s')
    (hco : (dScope st).isCoroutine = false := by rfl) (hgen : (dScope st).isGenerator = false := by rfl) (hk : (dScope st).kind = .function := by rfl)
    (hcell : ∀ x ∈ (dScope st).names, x.2 ≠ .cell := by decide) :
    codeAny (model prog w) A (.call (.ref f) ⟨args, []⟩) R s := by
  obtain ⟨o, pm, cd, ho, hd, hc⟩ := hf
  refine codeAny_call_function hroom ho hd hco hgen rfl hc ?_
  rw [hbind]
  refine wpAny_pure (wpAny_newFunctionEnv hcell (locs hloc) (fun h₁ hns hsb => ⟨hl.fresh _ hsb, ?_⟩) hk)
  show codeAny _ _ (.func (dBody st) (envOf ql (dScope st) s.heap.objs.size f cd)) _ _
  refine codeAny_func (wpAny_mono (h { s with heap := h₁, toks := s.toks + binds.length } _ cd rfl ⟨Sm.refl, ⟨hns, fun b o e => hsb.extBut b o (Nat.ne_of_lt (Heap.lt_size e)) (Heap.get?_push_of_some _ e), Nat.le_refl _⟩, News.nil, List.nodup_nil, Nat.lt_of_lt_of_le (List.length_pos_iff.mpr hne) (Nat.le_add_left _ _)⟩) (fun _ _ x => x) fun _ _ e => e.elim)

/-! an indent: an object of the class -/
noncomputable abbrev inst (dx : Addr) : Obj := instObj 122 dx
theorem x_getA {x dx : Addr} {es : List DictEntry} {n : Nat} {nm : Str} {v : Value} {expr : Bool} {Q : Value → Shared → Prop} (F : FS g h₀ L m M s) (B : Base prog w mg mb h₀) (hx : s.heap.get? x = some (inst dx)) (hd : s.heap.get? dx = some (dictOf es n))
    (hl : getL nm es = some (some v)) (hv : handedIn v = true) (ha : findIn (KW w.params) (.ref 122) nm = some none) (h : ∀ s', FS g h₀ L m M s' → Q v s') : wpAny (model prog w) A (getAttr (.ref x) nm expr) Q E s :=
  get_own F.fr B.kw ⟨hx, rfl, rfl, hd⟩ (by kernel_rfl) (by kernel_rfl) ha rfl hl hv (h _ (F.tk (Nat.succ_pos _)))
theorem x_methA {x dx f : Addr} {es : List DictEntry} {n : Nat} {nm : Str} {pl : Sem Bool} {Q : Value × List Value → Shared → Prop} (F : FS g h₀ L m M s) (B : Base prog w mg mb h₀) (hx : s.heap.get? x = some (inst dx)) (hd : s.heap.get? dx = some (dictOf es n))
    (hl : getL nm es = some none) (ha : findIn (KW w.params) (.ref 122) nm = some (some (.ref f))) (hf : isFn (KW w.params) (.ref f) = true) (h : Q (.ref f, [.ref x]) s) : wpAny (model prog w) A (getMethod (.ref x) nm pl) Q E s :=
  method_inst F.fr B.kw ⟨hx, rfl, rfl, hd⟩ (by kernel_rfl) ha hf hl h
theorem putL_len (nm : Str) (hsh : Int) (key v : Value) : ∀ es : List DictEntry, (putL nm hsh key v es).length ≤ es.length + 1
  | [] => Nat.le_refl _
  | e :: r => by
    unfold putL
    split
    · simp
    · have := putL_len nm hsh key v r
      simp only [List.length_cons]
      lia
theorem x_setA {x dx : Addr} {es : List DictEntry} {n : Nat} {nm : Str} {v : Value} {Q : Unit → Shared → Prop} (F : FS g h₀ L m ((dx, dictOf es n) :: M) s) (B : Base prog w mg mb h₀) (hx : s.heap.get? x = some (inst dx))
    (ht : takerIn (KW w.params) 122 nm = some none) (hl : (getL nm es).isSome = true) (hz : es.length < 1000)
    (h : ∀ s' tk, FS g h₀ L m ((dx, dictOf (putL nm (PyData.keyHash w.params nm) (.str nm tk) v es) (putN nm es n)) :: M) s' → Q () s') : wpAny (model prog w) A (setAttr (.ref x) nm v) Q E s := by
  have hnd := List.nodup_cons.mp F.nd
  refine set_dict F.fr B.kw F.ns ⟨hx, rfl, rfl, F.get (.head _)⟩ rfl (by kernel_rfl) (by kernel_rfl) ht (by kernel_rfl) hl rfl (.head fun p hp e => hnd.1 (List.mem_map.mpr ⟨p, hp, e⟩)) (Nat.le_trans (putL_len _ _ _ _ _) hz) fun h' F' N' => h { s with heap := h', toks := s.toks + 2 } _ ⟨F.sm.trans (.of rfl rfl), F', N', F.nd, Nat.succ_pos _⟩
/-- a name of the class -/
theorem x_clsA {nm : Str} {v : Value} {expr : Bool} {Q : Value → Shared → Prop} (F : FS g h₀ L m M s) (B : Base prog w mg mb h₀) (e : findCls (KW w.params) (.ref 122) (.type "type") nm = some (.val v)) (hh : handedIn v = true)
    (h : ∀ s', FS g h₀ L m M s' → Q v s') : wpAny (model prog w) A (getAttr (.ref 122) nm expr) Q E s :=
  cls_val F.fr B.kw (by kernel_rfl) (by kernel_rfl) e hh (h _ (F.tk (Nat.succ_pos _)))
/-- an indent made -/
theorem x_newWs {args : List Value} {Q : Value → Shared → Prop} (F : FS g h₀ L m M s) (B : Base prog w mg mb h₀)
    (h : ∀ x dx h', FS g h₀ L m ((x, inst dx) :: (dx, dictOf [] 0) :: M) { s with heap := h' } →
      codeAny (model prog w) (A.under (.builtin "type.__call__" ⟨.ref 122 :: args, []⟩)) (.call (.ref 77) ⟨.ref x :: args, []⟩) (InitBack x (wants Q E)) { s with heap := h' }) :
    wpAny (model prog w) A (call (.ref 122) args) Q E s := by
  refine wpAny_call (codeAny_mono (make_K (R := wants Q E) F.fr F.ns (B.kw.keeps F.kp) (by kernel_rfl) (fI := 77) (by kernel_rfl) (by kernel_rfl) fun x dx h' F' N' l1 l2 => ?_) fun r s' z => z)
  refine h x dx h' ⟨F.sm, F', N', List.nodup_cons.mpr ⟨fun hm => ?_, List.nodup_cons.mpr ⟨fun hm => ?_, F.nd⟩⟩, F.tp⟩
  · rcases List.mem_cons.mp hm with e | hm
    · exact Nat.ne_of_gt l2 e
    · obtain ⟨p, hp, e⟩ := List.mem_map.mp hm
      have := l1 p hp
      rw [e] at this
      exact Nat.lt_irrefl _ (Nat.lt_trans this l2)
  · obtain ⟨p, hp, e⟩ := List.mem_map.mp hm
    have := l1 p hp
    rw [e] at this
    exact Nat.lt_irrefl _ this
end
/-! loops over a text, over a range; builtins -/
section
variable {prog : Program} {w : World} {A : Around} {E : Value → Shared → Prop} {g s s' : Shared} {name : Str} {scope : Scope} {L a : Addr} {cd : Value} {h₀ : Heap} {m mg mb : Str → Option Value} {M M' : List (Addr × Obj)}
theorem x_forStr {x : Str} {px pos : Pos} {iter : Expr} {body : List Stmt} {Q : Flow → Shared → Prop} (_F : FS g h₀ L m M s) (hh : A.handled = none)
    (hit : wpAny (model prog w) A (eval iter (envOf name scope L a cd)) (fun xv s₁ => ∃ l t m M, ∃ J : Nat → (Str → Option Value) → List (Addr × Obj) → Prop, xv = .str (sOf l) t ∧ FS g h₀ L m M s₁ ∧ J 0 m M ∧
      (∀ i c u m₁ M₁ Z s₁, l[i]? = some c → J i m₁ M₁ → FS g h₀ L (fun y => if y = x then some (.str (sOf [c]) u) else m₁ y) (M₁ ++ [Z]) s₁ →
        wpAny (model prog w) A (execs body (envOf name scope L a cd)) (fun f s₂ => match f with
          | .next | .cont => ∃ m₂ M₂, FS g h₀ L m₂ (M₂ ++ [Z]) s₂ ∧ J (i + 1) m₂ M₂
          | .brk => Q .next s₂
          | .ret v => Q (.ret v) s₂) (fun _ _ => False) s₁) ∧
      (∀ m₁ M₁ s₁, J l.length m₁ M₁ → FS g h₀ L m₁ M₁ s₁ → Q .next s₁)) E s)
    (hs : ∀ x, foldedSetIterable iter (envOf name scope L a cd) x = pure x := by intro _; rfl)
    (hk : scope.kind = .function := by rfl) (hl : (envOf name scope L a cd).kindOf x = some .local := by rfl) :
    wpAny (model prog w) A (exec (.For (.Name x px) iter body [] pos) (envOf name scope L a cd)) Q E s := by
  refine wpAny_For (wpAny_mono hit (fun xv s₁ h₁ => ?_) fun _ _ e => e) hs
  obtain ⟨l, t, m, M, J, rfl, F, hJ, turn, done⟩ := h₁
  have hsz : (sOf l).cps.size = l.length := by show l.toArray.size = _; simp
  have turn' : ∀ i v m₁ M₁ Z s₁, i < (sOf l).cps.size → SignAt (sOf l) i v → J i m₁ M₁ → FS g h₀ L (fun y => if y = x then some v else m₁ y) (M₁ ++ [Z]) s₁ →
      wpAny (model prog w) A (execs body (envOf name scope L a cd)) (fun f s₂ => match f with
        | .next | .cont => ∃ m₂ M₂, FS g h₀ L m₂ (M₂ ++ [Z]) s₂ ∧ J (i + 1) m₂ M₂
        | .brk => Q .next s₂
        | .ret v => Q (.ret v) s₂) (fun _ _ => False) s₁ := by
    rintro i v m₁ M₁ Z s₁ _ ⟨c, u, hc, rfl⟩ j F2
    exact turn i c u m₁ M₁ Z s₁ (by simpa [sOf] using hc) j F2
  have fin : ∀ (o : Obj) (St : Nat → Heap → Prop), Walks prog w A s₁.heap.objs.size [s₁.heap.objs.size] [s₁.heap.objs.size] (sOf l).cps.size (SignAt (sOf l)) St → (∀ i h, St i h → ∃ o, h.get? s₁.heap.objs.size = some o) → St 0 (s₁.heap.push o) → o.isFreed = false →
      codeAny (model prog w) A (.forLoop (.Name x px) (.ref s₁.heap.objs.size) body [] (envOf name scope L a cd)) (fun r s' => match r with | .ok f => Q f s' | .error e => cameBackBy (model prog w) A (envOf name scope L a cd) E e s') { s₁ with heap := s₁.heap.push o } := by
    intro o St W hI hst hf
    have F1 := (F.push o hf).perm (List.perm_append_singleton _ _).symm
    exact x_loop W J hI (fun b hb => .inl (List.mem_singleton.mp hb)) F1 hst hJ turn' (fun m₁ M₁ s₁ j F2 => done m₁ M₁ s₁ (by rw [← hsz]; exact j) F2) hk hl
  cases ha : (sOf l).cps.all (· < 128)
  · exact wpAny_pyIter_wide ha (fin { cls := .type "str_iterator", data := .fields #[.str (sOf l) t, .int 0 0] } _ (Walks.strWide hh _ _ t) (fun i h st => let ⟨o, ho, _⟩ := st; ⟨o, ho⟩) ⟨_, Heap.get?_push_size _ rfl, rfl, rfl⟩ rfl)
  · exact wpAny_pyIter_ascii ha (fin { cls := .type "str_ascii_iterator", data := .fields #[.str (sOf l) t, .int 0 0] } _ (Walks.strAscii hh _ _ t) (fun i h st => let ⟨o, ho, _⟩ := st; ⟨o, ho⟩) ⟨_, Heap.get?_push_size _ rfl, rfl, rfl⟩ rfl)

/-- a for over range(a, b) -/
theorem x_forRange {x : Str} {px pos : Pos} {iter : Expr} {body : List Stmt} {Q : Flow → Shared → Prop} (_F : FS g h₀ L m M s) (hh : A.handled = none)
    (hit : wpAny (model prog w) A (eval iter (envOf name scope L a cd)) (fun xv s₁ => ∃ lo hi r t u v m M, ∃ J : Nat → (Str → Option Value) → List (Addr × Obj) → Prop, xv = .ref r ∧ FS g h₀ L m M s₁ ∧ J 0 m M ∧ IsRange s₁.heap r lo hi 1 t u v ∧ -1000000 ≤ lo ∧ lo ≤ 1000000 ∧ -1000000 ≤ hi ∧ hi ≤ 1000000 ∧
      (∀ (i : Nat) u m₁ M₁ Z s₁, lo + i < hi → J i m₁ M₁ → FS g h₀ L (fun y => if y = x then some (.int (lo + i) u) else m₁ y) (M₁ ++ [Z]) s₁ →
        wpAny (model prog w) A (execs body (envOf name scope L a cd)) (fun f s₂ => match f with
          | .next | .cont => ∃ m₂ M₂, FS g h₀ L m₂ (M₂ ++ [Z]) s₂ ∧ J (i + 1) m₂ M₂
          | .brk => Q .next s₂
          | .ret v => Q (.ret v) s₂) (fun _ _ => False) s₁) ∧
      (∀ m₁ M₁ s₁, J (hi - lo).toNat m₁ M₁ → FS g h₀ L m₁ M₁ s₁ → Q .next s₁)) E s)
    (hs : ∀ x, foldedSetIterable iter (envOf name scope L a cd) x = pure x := by intro _; rfl)
    (hk : scope.kind = .function := by rfl) (hl : (envOf name scope L a cd).kindOf x = some .local := by rfl) :
    wpAny (model prog w) A (exec (.For (.Name x px) iter body [] pos) (envOf name scope L a cd)) Q E s := by
  refine wpAny_For (wpAny_mono hit (fun xv s₁ h₁ => ?_) fun _ _ e => e) hs
  obtain ⟨lo, hi, r, t, u, v, m, M, J, rfl, F, hJ, hr, b1, b2, b3, b4, turn, done⟩ := h₁
  have hsz : Builtin.Range.rangeSize lo hi 1 = ((hi - lo).toNat : Int) := by rw [rangeSize_one]; split <;> lia
  refine wpAny_pyIter_range hr (small_one (by lia) (by lia) (by lia) (by lia)) ?_
  rw [hsz]
  have F1 := (F.push { cls := .type "range_iterator", data := .fields #[rawInt lo, rawInt ((hi - lo).toNat : Int), rawInt 1] }).perm (List.perm_append_singleton _ _).symm
  have W := Walks.range (prog := prog) (w := w) hh s₁.heap.objs.size lo 1 (hi - lo).toNat
  refine x_loop W J (fun i h st => ⟨_, st⟩) (fun b hb => .inl (List.mem_singleton.mp hb)) F1 ?_ hJ ?_ (fun m₁ M₁ s₁ j F2 => done m₁ M₁ s₁ j F2) hk hl
  · have e : IsRangeIter (s₁.heap.push { cls := .type "range_iterator", data := .fields #[rawInt lo, rawInt ((hi - lo).toNat : Int), rawInt 1] }) s₁.heap.objs.size lo ((hi - lo).toNat : Int) 1 := Heap.get?_push_size _ rfl
    simpa using e
  · rintro i v m₁ M₁ Z s₁ hi' ⟨t, rfl⟩ j F2
    rw [Int.mul_one] at F2
    exact turn i t m₁ M₁ Z s₁ (by lia) j F2
theorem x_range2 {lo hi : Int} {t u : Tok} {Q : Value → Shared → Prop} (F : FS g h₀ L m M s) (h : ∀ s' r v, IsRange s'.heap r lo hi 1 t u v → FS g h₀ L m M s' → Q (.ref r) s') :
    wpAny (model prog w) A (call (.type "range") [.int lo t, .int hi u]) Q E s :=
  call_range_2 (h _ _ s.toks (Heap.get?_push_size _ rfl) ((F.push { cls := .type "range", data := .fields #[.int lo t, .int hi u, .int 1 s.toks] }).drop.tk (Nat.succ_pos _)))
theorem x_max {x y : Int} {t u : Tok} {Q : Value → Shared → Prop} (F : FS g h₀ L m M s) (hh : A.handled = none) (h : ∀ s' t, FS g h₀ L m M s' → Q (.int (max x y) t) s') :
    wpAny (model prog w) A (call (.builtin "max") [.int x t, .int y u]) Q E s :=
  tpos F.tp (max_two_N hh F.fr F.ns fun h' tk F' N' hp => by
    have := h { s with heap := h', toks := tk } (if y > x then u else t) ⟨F.sm.trans (.of rfl rfl), F', N', F.nd, hp⟩
    rw [show max x y = if y > x then y else x by split <;> lia] at this
    exact this)
theorem x_tuple {l : Addr} {vs : List Value} {n : Nat} {Q : Value → Shared → Prop} (F : FS g h₀ L m M s) (hl : s.heap.get? l = some (lst vs n)) (hsz : vs.length ≤ sizeLine) (h : ∀ s' D, FS g h₀ L m ((D, tup vs) :: M) s' → Q (.ref D) s') :
    wpAny (model prog w) A (call (.type "tuple") [.ref l]) Q E s :=
  call_tuple_list (isList_of hl) (fun h' hk => h _ _ ((F.kept (s' := { s with heap := h' }) hk (.of rfl rfl) F.tp).push (tup vs))) (by rw [List.size_toArray]; exact hsz)
theorem mapSeq_set (vs : List Value) (n i : Nat) (v : Value) : ∃ n', Obj.mapSeq (·.setIfInBounds i v) (lst vs n) = lst (vs.set i v) n' := by
  have e : vs.toArray.setIfInBounds i v = (vs.set i v).toArray := by simp
  obtain ⟨n', hd'⟩ := Obj.data_mapSeq (o := lst vs n) rfl (·.setIfInBounds i v)
  rw [e] at hd'
  refine ⟨n', ?_⟩
  have hc := Obj.cls_mapSeq (lst vs n) (·.setIfInBounds i v)
  generalize hq : Obj.mapSeq (·.setIfInBounds i v) (lst vs n) = q at *
  have h1 : q.dict = none := by rw [← hq]; rfl
  have h2 : q.slots = #[] := by rw [← hq]; rfl
  cases q
  cases hc; cases hd'; cases h1; cases h2; rfl
theorem x_setAt {l : Addr} {vs : List Value} {n : Nat} {v : Value} {k : Int} {t : Tok} {Q : Unit → Shared → Prop} (i : Nat) (F : FS g h₀ L m ((l, lst vs n) :: M) s) (hk : k = (i : Int)) (hi : i < vs.length) (hsz : vs.length ≤ 1000000)
    (h : ∀ s' n', FS g h₀ L m ((l, lst (vs.set i v) n') :: M) s' → Q () s') : wpAny (model prog w) A (setItem (.ref l) (.int k t) v) Q E s := by
  have hg := F.get (.head _)
  have hl := isList_of hg
  unfold setItem
  try with_reducible refine wpAny_holding ?_
  first | refine wpAny_bind (wpAny_pure ?_) | skip
  refine wpAny_bind (wpAny_sequenceKey hl.typeIs (by decide) ?_)
  refine wpAny_bind (wpAny_callSpecial?_slot (name := Str.ofString "__setitem__") hl.typeIs slot_list_setitem (wpAny_call_entry slot_list_setitem hl.typeIs entry_list_setitem ?_ (args_list_setitem _ _ _)))
  show wpAny _ _ (Builtin.List.listSubscript? (.int k t) >>= _) _ _ s
  refine wpAny_bind (wpAny_listSubscript_int (fitsIndex_of (by lia) (by lia)) ?_)
  clear hsz
  obtain ⟨j, rfl⟩ := Int.eq_ofNat_of_zero_le (show 0 ≤ k by lia)
  obtain rfl : j = i := by lia
  have hx' : vs.toArray[j]? = some vs[j] := by simp [hi]
  show wpAny _ _ ((seqItemAt l j >>= fun r => pure (r.map (j, ·))) >>= _) _ _ s
  refine wpAny_bind (wpAny_bind (wpAny_seqItemAt hg rfl (wpAny_pure ?_)))
  rw [hx']
  show wpAny _ _ (setSeqItemAt l j v >>= _) _ _ s
  obtain ⟨n', e⟩ := mapSeq_set vs n j v
  have ho : (s.heap.update l (Obj.mapSeq (·.setIfInBounds j v))).get? l = some (Obj.mapSeq (·.setIfInBounds j v) (lst vs n)) := Heap.get?_update_self _ hg (by rw [e]; rfl)
  rw [e] at ho
  have key := h { s with heap := s.heap.update l (Obj.mapSeq (·.setIfInBounds j v)) } n' (F.turn (tk := s.toks) ho (Heap.SameBut.update ..) F.tp)
  refine wpAny_bind (wpAny_setSeqItemAt hg rfl ?_)
  first
    | exact wpAny_bind (wpAny_pure (wpAny_pure ⟨.none, rfl, wpAny_pure key⟩))
    | exact wpAny_pure ⟨.none, rfl, wpAny_pure key⟩
end
/-! what the indent's making counts -/
noncomputable def cntStep (c : List Int) (b : Nat) : List Int :=
  let c' := if c.length ≤ b then c ++ List.replicate (b - c.length + 1) 0 else c
  c'.set b (c'.getD b 0 + 1)
noncomputable def scan : List Nat → List Int → Nat → Nat → Nat → List Int × Nat × Nat × Nat
  | [], c, b, n, nt => (c, b, n, nt)
  | ch :: r, c, b, n, nt => if ch = 32 then scan r c (b + 1) (n + 1) nt else if ch = 9 then scan r (cntStep c b) 0 (n + 1) (nt + 1) else (c, b, n, nt)
def WsG (G : Addr → Obj → Prop) (x : Addr) (v : List Int × Nat × Nat × Nat) : Prop :=
  ∃ dx es k tn e1 tc e2 cv tb t1 t2, G x (inst dx) ∧ G dx (dictOf es k) ∧ G tn (tup [.ref tc, .int v.2.1 tb] e1) ∧ G tc (tup cv e2) ∧ Ints cv v.1 ∧
    getL "n" es = some (some (.int v.2.2.1 t1)) ∧ getL "nt" es = some (some (.int v.2.2.2 t2)) ∧ getL "norm" es = some (some (.ref tn)) ∧ getL "is_simple" es = some (some (.bool (decide (v.1.length ≤ 1)))) ∧
    getL "less" es = some none ∧ getL "equal" es = some none ∧ getL "indent_level" es = some none ∧ getL "longest_run_of_spaces" es = some none
theorem WsG.mono {G G' : Addr → Obj → Prop} (h : ∀ a o, G a o → G' a o) {x : Addr} {v : List Int × Nat × Nat × Nat} (y : WsG G x v) : WsG G' x v := by
  obtain ⟨dx, es, k, tn, e1, tc, e2, cv, tb, t1, t2, a, b, c, d, r⟩ := y
  exact ⟨dx, es, k, tn, e1, tc, e2, cv, tb, t1, t2, h _ _ a, h _ _ b, h _ _ c, h _ _ d, r⟩
noncomputable abbrev iE (L f : Addr) (cd : Value) : Env := envOf "Whitespace.__init__" (dScope (wsSt 1)) L f cd
section
variable {prog : Program} {w : World} {A : Around} {E : Value → Shared → Prop} {g s s' : Shared} {L a : Addr} {h₀ : Heap} {m mg mb : Str → Option Value} {M M' : List (Addr × Obj)}
theorem fn77 {h : Heap} (B : Base prog w mg mb h) : FnQ h "__init__" "Whitespace.__init__" (wsSt 1) 77 := ⟨_, _, _, B.kw 77 _ rfl, rfl, codeRec_of B.kw (by kernel_rfl)⟩
theorem x_forStrJ {name : Str} {scope : Scope} {cd : Value} {x : Str} {px pos : Pos} {iter : Expr} {body : List Stmt} {Q : Flow → Shared → Prop} (Jx : Shared → Prop) (F : FS g h₀ L m M s) (hh : A.handled = none)
    (hit : wpAny (model prog w) A (eval iter (envOf name scope L a cd)) (fun xv s₁ => ∃ l t m M, ∃ J : Nat → (Str → Option Value) → List (Addr × Obj) → Prop, xv = .str (sOf l) t ∧ FS g h₀ L m M s₁ ∧ J 0 m M ∧
      (∀ i c u m₁ M₁ Z s₁, l[i]? = some c → J i m₁ M₁ → FS g h₀ L (fun y => if y = x then some (.str (sOf [c]) u) else m₁ y) (M₁ ++ [Z]) s₁ →
        wpAny (model prog w) A (execs body (envOf name scope L a cd)) (fun f s₂ => match f with
          | .next | .cont => ∃ m₂ M₂, FS g h₀ L m₂ (M₂ ++ [Z]) s₂ ∧ J (i + 1) m₂ M₂
          | .brk => Jx s₂
          | .ret _ => False) (fun _ _ => False) s₁) ∧
      (∀ m₁ M₁ s₁, J l.length m₁ M₁ → FS g h₀ L m₁ M₁ s₁ → Jx s₁)) E s)
    (k : ∀ s', Jx s' → Q .next s')
    (hs : ∀ x, foldedSetIterable iter (envOf name scope L a cd) x = pure x := by intro _; rfl)
    (hk : scope.kind = .function := by rfl) (hl : (envOf name scope L a cd).kindOf x = some .local := by rfl) :
    wpAny (model prog w) A (exec (.For (.Name x px) iter body [] pos) (envOf name scope L a cd)) Q E s := by
  refine x_forStr F hh (wpAny_mono hit (fun xv s₁ h₁ => ?_) fun _ _ e => e) hs hk hl
  obtain ⟨l, t, m, M, J, e, F, hJ, turn, done⟩ := h₁
  refine ⟨l, t, m, M, J, e, F, hJ, fun i c u m₁ M₁ Z s₁ hc j F2 => wpAny_mono (turn i c u m₁ M₁ Z s₁ hc j F2) (fun f s₂ h₂ => ?_) fun _ _ e => e, fun m₁ M₁ s₁ j F2 => k _ (done m₁ M₁ s₁ j F2)⟩
  cases f with
  | next => exact h₂
  | cont => exact h₂
  | brk => exact k _ h₂
  | ret v => exact h₂.elim
/-- behind a callee that may turn what stands at P -/
theorem FS.unhole {P L' : Addr} {o : Obj} {m' : Str → Option Value} {Me : List (Addr × Obj)} {s1 s2 : Shared} (F1 : FS g h₀ L m (M ++ [(P, o)]) s1) (Fe : FS s1 (_root_.Mine.hole s1.heap P) L' m' Me s2) : FS g h₀ L m (M ++ Me) s2 := by
  refine F1.wake (fun p hp => ?_) Fe.nd (fun p hp => Fe.get hp) (fun b x h1 h2 => Fe.kp _ _ ?_) (F1.sm.trans Fe.sm) Fe.tp
  · have h1 := (Fe.ns p hp).2.2
    by_cases hb : p.1 = P
    · exact .inl (by simp [hb])
    · rw [hole_ne hb] at h1
      exact .inr h1
  · rw [hole_ne (by simpa using h1)]
    exact h2
theorem FS.unhole2 {P L' : Addr} {o : Obj} {q : Addr × Obj} {m' : Str → Option Value} {Me : List (Addr × Obj)} {s1 s2 : Shared} (F1 : FS g h₀ L m (q :: (P, o) :: M) s1) (Fe : FS s1 (_root_.Mine.hole s1.heap P) L' m' Me s2) : FS g h₀ L m ((q :: Me) ++ M) s2 :=
  (FS.unhole (M := q :: M) (F1.perm (.cons _ (List.perm_append_singleton _ _).symm)) Fe).perm (.cons _ List.perm_append_comm)
theorem x_unpack {t : Addr} {vs : List Value} {e n : Nat} {Q : List Value → Shared → Prop} (F : FS g h₀ L m M s) (ht : s.heap.get? t = some (tup vs e)) (hh : A.handled = none) (hn : n = vs.length) (h : ∀ s', FS g h₀ L m M s' → Q vs s') :
    wpAny (model prog w) A (unpackItems (.ref t) n none) Q E s := by
  have key := unpackItemsN_ (prog := prog) (w := w) (A := A) (E := E) (Q := Q) (n := n) (items := vs.toArray) F.fr F.ns ⟨_, ht, rfl, e, rfl⟩ hh (by rw [List.size_toArray]; exact hn) fun h' F' N' => by
    have := h { s with heap := h' } ⟨F.sm.trans (.of rfl rfl), F', N', F.nd, F.tp⟩
    simpa using this
  exact key
noncomputable def iBody : List Stmt := match (dBody (wsSt 1))[4]? with | some (Stmt.For _ _ b _ _) => b | _ => []
def iSt (x dx : Addr) (o0 : Obj) (c : List Int) (b n nt : Nat) (m₁ : Str → Option Value) (M₁ : List (Addr × Obj)) : Prop := ∃ R cv e tb tn tt, m₁ "self" = some (.ref x) ∧ m₁ "count" = some (.ref R) ∧ m₁ "b" = some (.int b tb) ∧ m₁ "n" = some (.int n tn) ∧ m₁ "nt" = some (.int nt tt) ∧
  m₁ "S" = some (.str " " 271) ∧ m₁ "T" = some (.str "\t" 272) ∧ (R, lst cv e) ∈ M₁ ∧ Ints cv c ∧ (dx, o0) ∈ M₁
theorem sp9 : Str.ofString "\t" = sOf [9] := by decide +kernel
set_option maxHeartbeats 1000000 in
theorem init_turn {f x dx ch : Nat} {cd : Value} {o0 : Obj} {c : List Int} {b n nt : Nat} {u : Tok} {m₁ : Str → Option Value} {M₁ : List (Addr × Obj)} {Z : Addr × Obj} (B : Base prog w mg mb h₀) (hS : iSt x dx o0 c b n nt m₁ M₁) (F : FS g h₀ L (fun y => if y = Str.ofString "ch" then some (.str (sOf [ch]) u) else m₁ y) (M₁ ++ [Z]) s)
    (ho : o0.cls ≠ .type "list") (hcl : c.length ≤ 1500) (hb : b ≤ 1500) : wpAny (model prog w) A (execs iBody (iE L f cd)) (fun fl s₂ => match fl with
      | .next | .cont => ∃ m₂ M₂, FS g h₀ L m₂ (M₂ ++ [Z]) s₂ ∧ ∃ c' b' n' nt', iSt x dx o0 c' b' n' nt' m₂ M₂ ∧ (∀ r, scan (ch :: r) c b n nt = scan r c' b' n' nt') ∧ c'.length ≤ max c.length (b + 1) ∧ b' ≤ b + 1
      | .brk => ∃ m₂ M₂, FS g h₀ L m₂ M₂ s₂ ∧ iSt x dx o0 c b n nt m₂ M₂ ∧ ∀ r, scan (ch :: r) c b n nt = (c, b, n, nt)
      | .ret _ => False) (fun _ _ => False) s := by
  obtain ⟨R, cv, e, tb, tn, tt, h1, h2, h3, h4, h5, h6, h7, h8, h9, h10⟩ := hS
  have hlc := h9.length
  with_unfolding_all refine wpAny_execs_cons ?_
  walk_at "go"
  by_cases c32 : ch = 32
  · subst c32
    refine ite_pos (by rw [sp32]; decide +kernel) ?_
    walk_at "go"
    have F6 := ‹FS _ _ _ _ _ _›
    refine ⟨_, M₁, F6, c, b + 1, n + 1, nt, ⟨R, cv, e, _, _, tt, h1, h2, rfl, rfl, h5, h6, h7, h8, h9, h10⟩, fun r => by simp [scan], by lia, Nat.le_refl _⟩
  · refine ite_neg (by rw [sp32, sOf_eq]; simpa using c32) ?_
    walk_at "go"
    by_cases c9 : ch = 9
    · subst c9
      refine ite_pos (by rw [sp9]; decide +kernel) ?_
      walk_at "goif"
      refine x_if (fun s' => ∃ R2 cv2 e2 m₂ M₂, FS g h₀ L m₂ (M₂ ++ [Z]) s' ∧ (R2, lst cv2 e2) ∈ M₂ ∧ Ints cv2 (if c.length ≤ b then c ++ List.replicate (b - c.length + 1) 0 else c) ∧ m₂ "count" = some (.ref R2) ∧ m₂ "self" = some (.ref x) ∧ (∃ t, m₂ "b" = some (.int b t)) ∧ (∃ t, m₂ "n" = some (.int (n + 1 : Nat) t)) ∧ (∃ t, m₂ "nt" = some (.int (nt + 1 : Nat) t)) ∧
        m₂ "S" = some (.str " " 271) ∧ m₂ "T" = some (.str "\t" 272) ∧ (dx, o0) ∈ M₂) ?_ ?_
      · walk_at "go"
        refine x_lenList ‹FS _ _ _ _ _ _› (FS.get ‹FS _ _ _ _ _ _› (List.mem_append_left _ h8)) (by rw [sizeLine_eq]; lia) fun s2 t2 F2 => ?_
        walk_at "go"
        by_cases hle : c.length ≤ b
        · refine ite_pos (by simp only [decide_eq_true_eq]; lia) ?_
          walk_at "go"
          refine x_lenList ‹FS _ _ _ _ _ _› (FS.get ‹FS _ _ _ _ _ _› (.tail _ (List.mem_append_left _ h8))) (by rw [sizeLine_eq]; lia) fun s3 t3 F3 => ?_
          walk_at "go"
          refine x_mulList ‹FS _ _ _ _ _ _› (FS.get ‹FS _ _ _ _ _ _› (.head _)) (by lia) (by lia) fun s4 D4 F4 => ?_
          refine x_addList F4 (F4.get (.tail _ (.tail _ (List.mem_append_left _ h8)))) (F4.get (.head _)) (by rw [sizeLine_eq, List.length_replicate]; lia) fun s5 D5 F5 => ?_
          walk_at "go"
          refine (?_ : _ ∧ _)
          rw [if_pos hle]
          have F6 := ‹FS _ _ _ _ (_ :: _) _›
          refine ⟨rfl, D5, _, _, _, _ :: _ :: _ :: M₁, F6, .head _, h9.append ?_, rfl, h1, ⟨_, h3⟩, ⟨_, rfl⟩, ⟨_, rfl⟩, h6, h7, .tail _ (.tail _ (.tail _ h10))⟩
          have e : ((b : Int) - (cv.length : Int) + 1).toNat = b - c.length + 1 := by lia
          rw [e]
          unfold Ints
          rw [List.map_replicate, List.map_replicate]
          rfl
        · refine ite_neg (by simp only [decide_eq_true_eq]; lia) ?_
          walk_at "go"
          refine (?_ : _ ∧ _)
          rw [if_neg hle]
          have F6 := ‹FS _ _ _ _ _ _›
          exact ⟨rfl, R, cv, e, _, M₁, F6, h8, h9, h2, h1, ⟨_, h3⟩, ⟨_, rfl⟩, ⟨_, rfl⟩, h6, h7, h10⟩
      · rintro s2 ⟨R2, cv2, e2, m₂, M₂, F2, g1, g2, g3, g4, ⟨t5, g5⟩, ⟨t6, g6⟩, ⟨t7, g7⟩, g8, g9, g10⟩
        have hl2 := g2.length
        have hlen2 : (if c.length ≤ b then c ++ List.replicate (b - c.length + 1) 0 else c).length = max c.length (b + 1) := by
          split
          · rw [List.length_append, List.length_replicate]; lia
          · lia
        generalize hc' : (if c.length ≤ b then c ++ List.replicate (b - c.length + 1) 0 else c) = c' at *
        obtain ⟨z, hz⟩ : ∃ z, c'[b]? = some z := ⟨_, List.getElem?_eq_getElem (by lia)⟩
        obtain ⟨tz, hcv⟩ := g2.at hz
        obtain ⟨pre, post, rfl⟩ := List.append_of_mem g1
        have hdx : (dx, o0) ∈ pre ++ post := by
          rcases List.mem_append.mp g10 with q | q
          · exact List.mem_append_left _ q
          · rcases List.mem_cons.mp q with q | q
            · exact absurd (congrArg (fun p => p.2.cls) q) ho
            · exact List.mem_append_right _ q
        walk_at "go"
        refine x_item (FS.get ‹FS _ _ _ _ _ _› (List.mem_append_left _ g1)) (by lia) (by lia) (by simpa using hcv) ?_
        walk_at "go"
        have F3 := ‹FS _ _ _ _ _ _›
        have F4 : FS g h₀ L m₂ ((R2, lst cv2 e2) :: ((pre ++ post) ++ [Z])) _ := F3.perm (by simpa using (List.perm_middle (a := (R2, lst cv2 e2)) (l₁ := pre) (l₂ := post ++ [Z])))
        refine x_setAt b F4 rfl (by lia) (by lia) fun s5 n5 F5 => ?_
        walk_at "go"
        have F6 := ‹FS _ _ _ _ _ _›
        refine ⟨_, _ :: (pre ++ post), F6, c'.set b (z + 1), 0, n + 1, nt + 1, ⟨R2, _, _, _, _, _, g4, g3, rfl, g6, g7, g8, g9, .head _, ?_, .tail _ hdx⟩, fun r => ?_, by rw [List.length_set]; lia, by lia⟩
        · unfold Ints at g2 ⊢
          rw [List.map_set, List.map_set, g2]
          rfl
        · have e : cntStep c b = c'.set b (z + 1) := by
            unfold cntStep
            dsimp only
            rw [hc', List.getD_eq_getElem?_getD, hz]
            rfl
          simp [scan, e]
    · refine ite_neg (by rw [sp9, sOf_eq]; simpa using c9) ?_
      walk_at "go"
      have F6 := ‹FS _ _ _ _ _ _›
      exact ⟨_, _, F6, ⟨R, cv, e, tb, tn, tt, h1, h2, h3, h4, h5, h6, h7, List.mem_append_left _ h8, h9, List.mem_append_left _ h10⟩, fun r => by simp [scan, c32, c9]⟩
set_option maxHeartbeats 2000000 in
theorem ws_new {l : List Nat} {t : Tok} {Q : Value → Shared → Prop} (F : FS g h₀ L m M s) (B : Base prog w mg mb h₀) (hlen : l.length ≤ 1000) (hD : A.depth + 4 < recursionLimit) (hA : A.handled = none)
    (h : ∀ s' x X, FS g h₀ L m (X ++ M) s' → WsG (fun a o => (a, o) ∈ X) x (scan l [] 0 0 0) → Q (.ref x) s') : wpAny (model prog w) A (call (.ref 122) [.str (sOf l) t]) Q E s := by
  refine x_newWs F B fun x dx h' F1 => ?_
  have hA1 : (A.under (.builtin "type.__call__" ⟨.ref 122 :: [Value.str (sOf l) t], []⟩)).handled = none := hA
  have hD1 : (A.under (.builtin "type.__call__" ⟨.ref 122 :: [Value.str (sOf l) t], []⟩)).depth = A.depth + 1 := depth_under_make _ _ _
  generalize A.under (.builtin "type.__call__" ⟨.ref 122 :: [Value.str (sOf l) t], []⟩) = A1 at *
  have B1 := B.keeps F1.kp
  refine x_codeQ [(Str.ofString "self", Value.ref x), (Str.ofString "ws", Value.str (sOf l) t)] (fn77 B1) B1.nolimit ?_ (List.cons_ne_nil _ _) (fun _ _ => rfl) rfl ?_
  · lia
  intro s2 L2 cd _ F2
  have hx : h'.get? x = some (inst dx) := F1.get (.head _)
  have hdx : h'.get? dx = some (dictOf [] 0) := F1.get (.tail _ (.head _))
  have hne : x ≠ dx := fun e => by rw [e, hdx] at hx; cases hx
  have F3 := F2.hole hdx
  have hdh : h₀.get? dx = none := (F1.ns _ (.tail _ (.head _))).2.2
  have B3 : Base prog w mg mb (hole h' dx) := B.keeps (kp_hole F1.kp hdh)
  have hx3 : (hole h' dx).get? x = some (inst dx) := by rw [hole_ne hne]; exact hx
  clear F2
  with_unfolding_all refine wpAny_execs_cons ?_
  with_reducible refine plainObj_wpAny_Assign_Attribute ?_ ?_
  rotate_left
  · with_unfolding_all rfl
  walk_at "go"
  refine x_setA F3 B3 (F3.kp _ _ hx3) (by kernel_rfl) rfl (by decide) fun s4 tk4 F4 => ?_
  clear F3
  have eW := B.ws
  walk_at "go"
  refine x_clsA ‹FS _ _ _ _ _ _› B3 (v := .str " " 271) (by kernel_rfl) rfl fun s5 F5 => ?_
  walk_at "go"
  refine x_clsA ‹FS _ _ _ _ _ _› B3 (v := .str "\t" 272) (by kernel_rfl) rfl fun s6 F6 => ?_
  walk_at "go"
  refine x_unpack ‹FS _ _ _ _ _ _› (FS.get ‹FS _ _ _ _ _ _› (.head _)) hA1 (by with_unfolding_all rfl) fun s7 F7 => ?_
  walk_at "go"
  have F8 : FS _ _ _ _ (_ :: _ :: (_, _) :: _) _ := ‹FS _ _ _ _ _ _›
  generalize hO : dictOf (putL (Str.ofString "raw") (PyData.keyHash w.params (Str.ofString "raw")) (Value.str (Str.ofString "raw") tk4) (Value.str (sOf l) t) []) (putN (Str.ofString "raw") [] 0) = o0 at F8
  refine x_forStrJ (fun s' => ∃ c b n nt m₁ M₁, FS { s with heap := h' } (hole h' dx) L2 m₁ M₁ s' ∧ iSt x dx o0 c b n nt m₁ M₁ ∧ scan l [] 0 0 0 = (c, b, n, nt) ∧ c.length ≤ 1500) F8 hA1 ?_ ?_
  · walk_at "go"
    refine x_getA (v := .str (sOf l) t) F8 B3 (FS.kp F8 _ _ hx3) ((FS.get F8 (.tail _ (.tail _ (.head _)))).trans (congrArg some hO.symm)) rfl rfl (by kernel_rfl) fun s9 F9 => ?_
    refine ⟨l, t, _, _, fun i m₁ M₁ => ∃ c b n nt, iSt x dx o0 c b n nt m₁ M₁ ∧ scan l [] 0 0 0 = scan (l.drop i) c b n nt ∧ c.length ≤ i + 1 ∧ b ≤ i, rfl, F9, ⟨[], 0, 0, 0, ⟨_, _, _, _, _, _, rfl, rfl, rfl, rfl, rfl, rfl, rfl, .head _, .nil, .tail _ (.tail _ (.head _))⟩, rfl, by simp, Nat.le_refl _⟩, ?_, ?_⟩
    · rintro i ch u m₁ M₁ Z s₁ hc ⟨c, b, n, nt, hS, hsc, hcl, hbl⟩ F10
      obtain ⟨hi, e⟩ := List.getElem?_eq_some_iff.mp hc
      have hdrop : l.drop i = ch :: l.drop (i + 1) := by rw [List.drop_eq_getElem_cons hi, e]
      rw [hdrop] at hsc
      refine wpAny_mono (init_turn B3 hS F10 (by rw [← hO]; simp) (by lia) (by lia)) (fun fl s₂ h₂ => ?_) fun _ _ e => e
      have nx : (∃ m₂ M₂, FS { s with heap := h' } (hole h' dx) L2 m₂ (M₂ ++ [Z]) s₂ ∧ ∃ c' b' n' nt', iSt x dx o0 c' b' n' nt' m₂ M₂ ∧ (∀ r, scan (ch :: r) c b n nt = scan r c' b' n' nt') ∧ c'.length ≤ max c.length (b + 1) ∧ b' ≤ b + 1) →
          ∃ m₂ M₂, FS { s with heap := h' } (hole h' dx) L2 m₂ (M₂ ++ [Z]) s₂ ∧ ∃ c b n nt, iSt x dx o0 c b n nt m₂ M₂ ∧ scan l [] 0 0 0 = scan (l.drop (i + 1)) c b n nt ∧ c.length ≤ i + 1 + 1 ∧ b ≤ i + 1 := by
        rintro ⟨m₂, M₂, F2, c', b', n', nt', k1, k2, k3, k4⟩
        exact ⟨m₂, M₂, F2, c', b', n', nt', k1, hsc.trans (k2 _), by lia, by lia⟩
      cases fl with
      | next => exact nx h₂
      | cont => exact nx h₂
      | brk =>
        obtain ⟨m₂, M₂, F2, k1, k2⟩ := h₂
        exact ⟨c, b, n, nt, m₂, M₂, F2, k1, hsc.trans (k2 _), by lia⟩
      | ret v => exact h₂.elim
    · rintro m₁ M₁ s₁ ⟨c, b, n, nt, hS, hsc, hcl, hbl⟩ F10
      rw [List.drop_length] at hsc
      exact ⟨c, b, n, nt, m₁, M₁, F10, hS, hsc, by lia⟩
  · rintro s3 ⟨c, b, n, nt, m₁, M₁, F10, ⟨R, cv, e, tb, tn, tt, h1, h2, h3, h4, h5, h6, h7, h8, h9, h10⟩, hsc, hcl⟩
    rw [hsc] at h
    have hlc := h9.length
    obtain ⟨pre, post, rfl⟩ := List.append_of_mem h10
    have hR : (R, lst cv e) ∈ pre ++ post := by
      rcases List.mem_append.mp h8 with q | q
      · exact List.mem_append_left _ q
      · rcases List.mem_cons.mp q with q | q
        · rw [← hO] at q
          exact absurd (congrArg (fun p => p.2.cls) q) (by simp)
        · exact List.mem_append_right _ q
    have F11 := F10.perm List.perm_middle
    subst hO
    clear F10
    walk_at "go"
    with_reducible refine plainObj_wpAny_Assign_Attribute ?_ ?_
    rotate_left
    · with_unfolding_all rfl
    walk_at "go"
    refine x_setA ‹FS _ _ _ _ _ _› B3 (FS.kp ‹FS _ _ _ _ _ _› _ _ hx3) (by kernel_rfl) rfl (Nat.le_of_ble_eq_true rfl) fun s4 tk5 F12 => ?_
    clear F11
    walk_at "go"
    with_reducible refine plainObj_wpAny_Assign_Attribute ?_ ?_
    rotate_left
    · with_unfolding_all rfl
    walk_at "go"
    refine x_setA ‹FS _ _ _ _ _ _› B3 (FS.kp ‹FS _ _ _ _ _ _› _ _ hx3) (by kernel_rfl) rfl (Nat.le_of_ble_eq_true rfl) fun s5 tk6 F13 => ?_
    clear F12
    walk_at "go"
    with_reducible refine plainObj_wpAny_Assign_Attribute ?_ ?_
    rotate_left
    · with_unfolding_all rfl
    walk_at "go"
    refine x_tuple ‹FS _ _ _ _ _ _› (FS.get ‹FS _ _ _ _ _ _› (.tail _ hR)) (by rw [sizeLine_eq]; lia) fun s6 tc F14 => ?_
    walk_at "go"
    refine x_setA (FS.to3 ‹FS _ _ _ _ _ _›) B3 (FS.kp ‹FS _ _ _ _ _ _› _ _ hx3) (by kernel_rfl) rfl (Nat.le_of_ble_eq_true rfl) fun s7 tk7 F15 => ?_
    clear F13
    walk_at "go"
    with_reducible refine plainObj_wpAny_Assign_Attribute ?_ ?_
    rotate_left
    · with_unfolding_all rfl
    walk_at "go"
    refine x_lenList ‹FS _ _ _ _ _ _› (FS.get ‹FS _ _ _ _ _ _› (.tail _ (.tail _ (.tail _ hR)))) (by rw [sizeLine_eq]; lia) fun s8 t8 F16 => ?_
    walk_at "go"
    refine x_setA ‹FS _ _ _ _ _ _› B3 (FS.kp ‹FS _ _ _ _ _ _› _ _ hx3) (by kernel_rfl) rfl (Nat.le_of_ble_eq_true rfl) fun s9 tk9 F17 => ?_
    clear F15
    walk_at "go"
    have Fe := ‹FS _ _ _ _ _ _›
    refine ⟨rfl, ?_⟩
    show Q (.ref x) _
    refine h _ x _ (F1.unhole2 Fe) ?_
    refine ⟨dx, _, _, _, _, tc, 0, cv, tb, tn, tt, .head _, .tail _ (.head _), .tail _ (.tail _ (.head _)), .tail _ (.tail _ (.tail _ (.head _))), h9, rfl, rfl, rfl, ?_, rfl, rfl, rfl, rfl⟩
    rw [← hlc, show decide (cv.length ≤ 1) = decide ((cv.length : Int) ≤ 1) from decide_eq_decide.mpr (by lia)]
    rfl
end
/-! the indent's methods -/
abbrev WsAt (h : Heap) : Addr → List Int × Nat × Nat × Nat → Prop := WsG fun a o => h.get? a = some o
noncomputable def wLong (v : List Int × Nat × Nat × Nat) : Int := max ((v.1.length : Int) - 1) v.2.1
noncomputable def ilSum (c : List Int) (ts : Nat) (k : Nat) : Int := ((List.range k).map fun j => (((ts + j) / ts : Nat) : Int) * c.getD (ts + j) 0).sum
theorem ilSum_succ (c : List Int) (ts k : Nat) : ilSum c ts (k + 1) = ilSum c ts k + (((ts + k) / ts : Nat) : Int) * c.getD (ts + k) 0 := by
  unfold ilSum
  rw [List.range_succ, List.map_append, List.sum_append]
  simp
noncomputable def wLvl (v : List Int × Nat × Nat × Nat) (ts : Nat) : Int := v.2.1 + ts * (ilSum v.1 ts (v.1.length - ts) + v.2.2.2)
section
variable {prog : Program} {w : World} {A : Around} {E : Value → Shared → Prop} {g s s' : Shared} {L a : Addr} {h₀ : Heap} {m mg mb : Str → Option Value} {M M' : List (Addr × Obj)}
theorem fn84 {h : Heap} (B : Base prog w mg mb h) : FnQ h "longest_run_of_spaces" "Whitespace.longest_run_of_spaces" (wsSt 2) 84 := ⟨_, _, _, B.kw 84 _ rfl, rfl, codeRec_of B.kw (by kernel_rfl)⟩
theorem fn91 {h : Heap} (B : Base prog w mg mb h) : FnQ h "indent_level" "Whitespace.indent_level" (wsSt 3) 91 := ⟨_, _, _, B.kw 91 _ rfl, rfl, codeRec_of B.kw (by kernel_rfl)⟩
theorem fn98 {h : Heap} (B : Base prog w mg mb h) : FnQ h "equal" "Whitespace.equal" (wsSt 4) 98 := ⟨_, _, _, B.kw 98 _ rfl, rfl, codeRec_of B.kw (by kernel_rfl)⟩
theorem fn112 {h : Heap} (B : Base prog w mg mb h) : FnQ h "less" "Whitespace.less" (wsSt 6) 112 := ⟨_, _, _, B.kw 112 _ rfl, rfl, codeRec_of B.kw (by kernel_rfl)⟩
theorem x_assignTup {env : Env} {elts : List Expr} {k : Nat} {pos : Pos} {t : Addr} {vs : List Value} {e : Nat} {Q : Unit → Shared → Prop} (F : FS g h₀ L m M s) (ht : s.heap.get? t = some (tup vs e)) (hh : A.handled = none) (hn : (assignEach elts env).length = vs.length) (hstar : (assignEach elts env).findIdx? (·.1) = none)
    (h : ∀ s', FS g h₀ L m M s' → wpAny (model prog w) A (assignInOrder ((assignEach elts env).map (·.2)) vs) Q E s') : wpAny (model prog w) A (assign (.Tuple elts k pos) env (.ref t)) Q E s :=
  unpackN_ (items := vs.toArray) F.fr F.ns ⟨_, ht, rfl, e, rfl⟩ hh (by rw [List.size_toArray]; exact hn) hstar fun h' F' N' => by
    have := h { s with heap := h' } ⟨F.sm.trans (.of rfl rfl), F', N', F.nd, F.tp⟩
    simpa using this
theorem x_lenTup {l : Addr} {vs : List Value} {n : Nat} {Q : Value → Shared → Prop} (F : FS g h₀ L m M s) (hl : s.heap.get? l = some (tup vs n)) (hsz : vs.length ≤ 1000000) (h : ∀ s' t, FS g h₀ L m M s' → Q (.int vs.length t) s') :
    wpAny (model prog w) A (call (.builtin "len") [.ref l]) Q E s := len_tuple (items := vs.toArray) ⟨_, hl, rfl, n, rfl⟩ (by rw [List.size_toArray]; lia) (by rw [List.size_toArray]; exact h _ _ (F.tk (Nat.succ_pos _)))
theorem x_itemTupH {value slice : Expr} {l : Addr} {vs : List Value} {n : Nat} {k : Int} {u : Tok} {x : Value} {Q : Value → Shared → Prop} (j : Nat) (hl : s.heap.get? l = some (tup vs n)) (hj : k = (j : Int)) (hx : vs[j]? = some x) (hsz : j < 1000000) (h : Q x s)
    (hs : subscripted slice false (.ref l) (.int k u) = operate [.ref l, .int k u] (getItem (.ref l) (.int k u)) := by first | with_reducible exact sub_name | with_reducible exact sub_const | with_reducible exact sub_binop | with_reducible exact sub_unop | with_unfolding_all rfl) :
    wpAny (model prog w) A (subscriptTail value slice (.ref l) (.int k u)) Q E s := by
  subst hj
  have hlt := (List.getElem?_eq_some_iff.mp hx).1
  exact item_tupleT (l := vs) (j := j) ⟨_, hl, rfl, n, rfl⟩ (by lia) (by lia) (by rw [StrLaws.seqIndex_nonneg (by lia) (by lia)]; simp) hx h hs
theorem ws_longest {x : Addr} {v : List Int × Nat × Nat × Nat} {Q : Value → Shared → Prop} (B : Base prog w mg mb s.heap) (hx : WsAt s.heap x v) (hsz : v.1.length ≤ 100000) (hD : A.depth + 3 < recursionLimit) (hA : A.handled = none)
    (h : ∀ s' t, Sm s s' → Kp s.heap s'.heap → 0 < s'.toks → Q (.int (wLong v) t) s') : wpAny (model prog w) A (call (.ref 84) [.ref x]) Q E s := by
  obtain ⟨c, b, n, nt⟩ := v
  obtain ⟨dx, es, k, tn, e1, tc, e2, cv, tb, t1, t2, hxo, hd, hn, hc, hI, g1, g2, g3, g4, g5⟩ := hx
  refine wpAny_call (x_codeQ [(Str.ofString "self", Value.ref x)] (fn84 B) B.nolimit (by lia) (List.cons_ne_nil _ _) (fun _ _ => rfl) rfl ?_)
  intro s2 L2 cd _ F
  have hA' : (A.deeper (envOf "Whitespace.longest_run_of_spaces" (dScope (wsSt 2)) L2 84 cd)).handled = none := hA
  have hl : cv.length = c.length := hI.length
  have hsz : c.length ≤ 100000 := hsz
  with_unfolding_all refine wpAny_execs_cons ?_
  walk_at "go"
  refine x_getA (v := .ref tn) ‹FS _ _ _ _ _ _› B (FS.kp ‹FS _ _ _ _ _ _› _ _ hxo) (FS.kp ‹FS _ _ _ _ _ _› _ _ hd) g3 rfl (by kernel_rfl) fun s3 F3 => ?_
  walk_at "go"
  refine x_assignTup ‹FS _ _ _ _ _ _› (FS.kp ‹FS _ _ _ _ _ _› _ _ hn) hA' (by with_unfolding_all rfl) (by with_unfolding_all rfl) fun s4 F4 => ?_
  walk_at "go"
  refine x_lenTup ‹FS _ _ _ _ _ _› (FS.kp ‹FS _ _ _ _ _ _› _ _ hc) (by lia) fun s5 t5 F5 => ?_
  walk_at "go"
  refine x_max ‹FS _ _ _ _ _ _› hA' fun s6 t6 F6 => ?_
  walk_at "go"
  have F7 := ‹FS _ _ _ _ _ _›
  have e : max ((cv.length : Int) - 1) ((c, b, n, nt).2.1 : Int) = wLong (c, b, n, nt) := by unfold wLong; rw [hl]
  rw [e]
  exact h _ _ F7.sm F7.kp F7.tp
set_option maxHeartbeats 1000000 in
theorem ws_level {x : Addr} {v : List Int × Nat × Nat × Nat} {ts : Nat} {tt : Tok} {Q : Value → Shared → Prop} (B : Base prog w mg mb s.heap) (hx : WsAt s.heap x v) (hsz : v.1.length ≤ 100000) (hts : 1 ≤ ts) (hts2 : ts ≤ 100000) (hD : A.depth + 3 < recursionLimit) (hA : A.handled = none)
    (h : ∀ s' t, Sm s s' → Kp s.heap s'.heap → 0 < s'.toks → Q (.int (wLvl v ts) t) s') : wpAny (model prog w) A (call (.ref 91) [.ref x, .int ts tt]) Q E s := by
  obtain ⟨c, b, n, nt⟩ := v
  obtain ⟨dx, es, k, tn, e1, tc, e2, cv, tb, t1, t2, hxo, hd, hn, hc, hI, g1, g2, g3, g4, g5⟩ := hx
  refine wpAny_call (x_codeQ [(Str.ofString "self", Value.ref x), (Str.ofString "tabsize", .int ts tt)] (fn91 B) B.nolimit (by lia) (List.cons_ne_nil _ _) (fun _ _ => rfl) rfl ?_)
  intro s2 L2 cd _ F
  have hA' : (A.deeper (envOf "Whitespace.indent_level" (dScope (wsSt 3)) L2 91 cd)).handled = none := hA
  have hl : cv.length = c.length := hI.length
  have hsz : c.length ≤ 100000 := hsz
  with_unfolding_all refine wpAny_execs_cons ?_
  walk_at "go"
  refine x_getA (v := .ref tn) ‹FS _ _ _ _ _ _› B (FS.kp ‹FS _ _ _ _ _ _› _ _ hxo) (FS.kp ‹FS _ _ _ _ _ _› _ _ hd) g3 rfl (by kernel_rfl) fun s3 F3 => ?_
  walk_at "go"
  refine x_assignTup ‹FS _ _ _ _ _ _› (FS.kp ‹FS _ _ _ _ _ _› _ _ hn) hA' (by with_unfolding_all rfl) (by with_unfolding_all rfl) fun s4 F4 => ?_
  walk_at "go"
  have F5 := ‹FS _ _ _ _ _ _›
  refine x_forRange F5 hA' ?_
  walk_at "go"
  refine x_lenTup ‹FS _ _ _ _ _ _› (FS.kp ‹FS _ _ _ _ _ _› _ _ hc) (by lia) fun s5 t5 F5 => ?_
  walk_at "go"
  refine x_range2 ‹FS _ _ _ _ _ _› fun s6 r vv hr F6 => ?_
  refine ⟨ts, cv.length, r, tt, t5, vv, _, _, fun i m₁ M₁ => M₁ = [] ∧ (∃ t, m₁ "il" = some (.int (ilSum c ts i) t)) ∧ m₁ "tabsize" = some (.int ts tt) ∧ m₁ "count" = some (.ref tc) ∧ m₁ "trailing" = some (.int b tb) ∧ m₁ "self" = some (.ref x), rfl, F6, ⟨rfl, ⟨_, rfl⟩, rfl, rfl, rfl, rfl⟩, hr, by lia, by lia, by lia, by lia, ?_, ?_⟩
  · rintro i u m₁ M₁ Z s₁ hi ⟨rfl, ⟨ti, h1⟩, h2, h3, h4, h5⟩ F7
    have hic : ts + i < c.length := by lia
    obtain ⟨z, hz⟩ : ∃ z, c[ts + i]? = some z := ⟨_, List.getElem?_eq_getElem hic⟩
    obtain ⟨tz, hcv⟩ := hI.at hz
    have hfd : ((ts : Int) + (i : Int)).fdiv ts = (((ts + i) / ts : Nat) : Int) := by
      rw [Int.fdiv_eq_ediv_of_nonneg _ (by lia)]
      exact_mod_cast rfl
    have hsmall : (ts + i) / ts ≤ ts + i := Nat.div_le_self _ _
    obtain ⟨q, hq⟩ : ∃ q, q = (ts + i) / ts := ⟨_, rfl⟩
    rw [← hq] at hfd hsmall
    walk_at "go"
    refine x_fdiv ‹FS _ _ _ _ _ _› (by lia) (by lia) fun s7 t7 F8 => ?_
    rw [hfd]
    walk_at "go"
    refine x_itemTupH (ts + i) (FS.kp ‹FS _ _ _ _ _ _› _ _ hc) (by lia) hcv (by lia) ?_
    refine x_mul ‹FS _ _ _ _ _ _› (by lia) fun s8 t8 F9 => ?_
    walk_at "go"
    have F10 := ‹FS _ _ _ _ _ _›
    have e : ilSum c ts i + (q : Int) * z = ilSum c ts (i + 1) := by
      rw [ilSum_succ, List.getD_eq_getElem?_getD, hz, ← hq]
      rfl
    exact ⟨_, [], F10, rfl, ⟨_, congrArg (fun z => some (Value.int z _)) e⟩, h2, h3, h4, h5⟩
  · rintro m₁ M₁ s₁ ⟨rfl, ⟨ti, h1⟩, h2, h3, h4, h5⟩ F7
    rw [show ((cv.length : Int) - (ts : Int)).toNat = c.length - ts by lia] at h1
    walk_at "go"
    refine x_getA (v := .int nt t2) ‹FS _ _ _ _ _ _› B (FS.kp ‹FS _ _ _ _ _ _› _ _ hxo) (FS.kp ‹FS _ _ _ _ _ _› _ _ hd) g2 rfl (by kernel_rfl) fun s8 F8 => ?_
    walk_at "go"
    refine x_mul ‹FS _ _ _ _ _ _› (by lia) fun s9 t9 F9 => ?_
    walk_at "go"
    have F10 := ‹FS _ _ _ _ _ _›
    exact h _ _ F10.sm F10.kp F10.tp
end
noncomputable def wLess (v v' : List Int × Nat × Nat × Nat) : Bool := if v'.2.2.1 ≤ v.2.2.1 then false else if v.1.length ≤ 1 ∧ v'.1.length ≤ 1 then decide (v.2.2.2 ≤ v'.2.2.2) else
  (List.range (max (wLong v) (wLong v')).toNat).all fun i => decide (wLvl v (2 + i) < wLvl v' (2 + i))
noncomputable def wEq (v v' : List Int × Nat × Nat × Nat) : Bool := decide (v.1 = v'.1) && decide (v.2.1 = v'.2.1)
section
variable {prog : Program} {w : World} {A : Around} {E : Value → Shared → Prop} {g s s' : Shared} {L a : Addr} {h₀ : Heap} {m mg mb : Str → Option Value} {M M' : List (Addr × Obj)}
theorem x_if0 {test : Expr} {body : List Stmt} {pos : Pos} {env : Env} {Q : Flow → Shared → Prop} (J : Shared → Prop)
    (h : wpAny (model prog w) A (isTrue test env (eval test env)) (fun b s₁ => if b then wpAny (model prog w) A (execs body env) Q E s₁ else J s₁) E s)
    (k : ∀ s', J s' → Q .next s') : wpAny (model prog w) A (exec (.If test body [] pos) env) Q E s := by
  refine wpAny_If (wpAny_mono h (fun b s₁ h₁ => ?_) fun _ _ e => e)
  cases b with
  | true => exact h₁
  | false => exact wpAny_execs_nil (k _ h₁)
theorem x_mLongest {x : Addr} {v : List Int × Nat × Nat × Nat} {pl : Sem Bool} {pos : Pos} {Q : Value → Shared → Prop} {env : Env} (F : FS g h₀ L m M s) (B : Base prog w mg mb h₀) (hx : WsAt s.heap x v) (hsz : v.1.length ≤ 100000) (hD : A.depth + 3 < recursionLimit) (hA : A.handled = none)
    (h : ∀ s' t, FS g h₀ L m M s' → Q (.int (wLong v) t) s') : wpAny (model prog w) A (getMethod (.ref x) "longest_run_of_spaces" pl) (fun fx s₂ => wpAny (model prog w) A (callWith pos fx.1 fx.2 (backTo pos (starEach [] env)) []) Q E s₂) E s := by
  obtain ⟨dx, es, k, tn, e1, tc, e2, cv, tb, t1, t2, hxo, hd, hn, hc, hI, g1, g2, g3, g4, g5, g6, g7, g8⟩ := id hx
  refine x_methA (f := 84) F B hxo hd g8 (by kernel_rfl) (by kernel_rfl) ?_
  refine callWith_K0 (B.keeps F.kp).kw (by kernel_rfl) ?_
  exact ws_longest (B.keeps F.kp) hx hsz hD hA fun s' t S K P => h s' t (F.kept K S P)
theorem x_mLevel {x : Addr} {v : List Int × Nat × Nat × Nat} {ts : Nat} {tt : Tok} {nz : Str} {pl : Sem Bool} {pos p2 : Pos} {Q : Value → Shared → Prop} {name : Str} {scope : Scope} {cd : Value} (F : FS g h₀ L m M s) (B : Base prog w mg mb h₀) (hx : WsAt s.heap x v) (hz : m nz = some (.int ts tt)) (hsz : v.1.length ≤ 100000) (hts : 1 ≤ ts) (hts2 : ts ≤ 100000) (hD : A.depth + 3 < recursionLimit) (hA : A.handled = none)
    (h : ∀ s' t, FS g h₀ L m M s' → Q (.int (wLvl v ts) t) s') (hk : scope.kind = .function := by rfl) (hl : (envOf name scope L a cd).kindOf nz = some .local := by rfl) (hdb : (nz == ("__debug__" : Str)) = false := by decide) : wpAny (model prog w) A (getMethod (.ref x) "indent_level" pl) (fun fx s₂ => wpAny (model prog w) A (callWith pos fx.1 fx.2 (backTo pos (starEach [.Name nz p2] (envOf name scope L a cd))) []) Q E s₂) E s := by
  obtain ⟨dx, es, k, tn, e1, tc, e2, cv, tb, t1, t2, hxo, hd, hn, hc, hI, g1, g2, g3, g4, g5, g6, g7, g8⟩ := id hx
  refine x_methA (f := 91) F B hxo hd g7 (by kernel_rfl) (by kernel_rfl) ?_
  refine callWith_K (e := .Name nz p2) (rest := []) (B.keeps F.kp).kw (by kernel_rfl) ?_
  refine spliced_more (x_local F hz ?_ hk hl hdb)
  refine spliced_none ?_
  exact ⟨(B.keeps F.kp).kw, ws_level (B.keeps F.kp) hx hsz hts hts2 hD hA fun s' t S K P => h s' t (F.kept K S P)⟩
set_option maxHeartbeats 2000000 in
theorem ws_less {x y : Addr} {v v' : List Int × Nat × Nat × Nat} {Q : Value → Shared → Prop} (B : Base prog w mg mb s.heap) (hx : WsAt s.heap x v) (hy : WsAt s.heap y v') (hsz : v.1.length ≤ 10000) (hsz' : v'.1.length ≤ 10000) (hb : v.2.1 ≤ 10000) (hb' : v'.2.1 ≤ 10000) (hD : A.depth + 5 < recursionLimit) (hA : A.handled = none)
    (h : ∀ s', Sm s s' → Kp s.heap s'.heap → 0 < s'.toks → Q (.bool (wLess v v')) s') : wpAny (model prog w) A (call (.ref 112) [.ref x, .ref y]) Q E s := by
  obtain ⟨dx, es, k, tn, e1, tc, e2, cv, tb, t1, t2, hxo, hd, hn, hc, hI, g1, g2, g3, g4, g5, g6, g7, g8⟩ := id hx
  obtain ⟨dy, es', k', tn', e1', tc', e2', cv', tb', t1', t2', hyo, hd', hn', hc', hI', g1', g2', g3', g4', g5', g6', g7', g8'⟩ := id hy
  refine wpAny_call (x_codeQ [(Str.ofString "self", Value.ref x), (Str.ofString "other", Value.ref y)] (fn112 B) B.nolimit (by lia) (List.cons_ne_nil _ _) (fun _ _ => rfl) rfl ?_)
  intro s2 L2 cd _ F
  have hA' : (A.deeper (envOf "Whitespace.less" (dScope (wsSt 6)) L2 112 cd)).handled = none := hA
  have hD' : (A.deeper (envOf "Whitespace.less" (dScope (wsSt 6)) L2 112 cd)).depth + 3 < recursionLimit := by show A.depth + 1 + 3 < _; lia
  with_unfolding_all refine wpAny_execs_cons ?_
  walk_at "go"
  refine x_getA ‹FS _ _ _ _ _ _› B (FS.kp ‹FS _ _ _ _ _ _› _ _ hxo) (FS.kp ‹FS _ _ _ _ _ _› _ _ hd) g1 rfl (by kernel_rfl) fun s3 F3 => ?_
  walk_at "go"
  refine x_getA ‹FS _ _ _ _ _ _› B (FS.kp ‹FS _ _ _ _ _ _› _ _ hyo) (FS.kp ‹FS _ _ _ _ _ _› _ _ hd') g1' rfl (by kernel_rfl) fun s4 F4 => ?_
  walk_at "go"
  by_cases hnn : v'.2.2.1 ≤ v.2.2.1
  · refine ite_pos (by simp only [decide_eq_true_eq]; lia) ?_
    walk_at "go"
    have F5 := ‹FS _ _ _ _ _ _›
    have := h _ F5.sm F5.kp F5.tp
    unfold wLess at this
    rw [if_pos hnn] at this
    exact this
  refine ite_neg (by simp only [decide_eq_true_eq]; lia) ?_
  walk_at "goif"
  refine x_if0 (fun s' => ∃ m', FS s s.heap L2 m' [] s' ∧ m' "self" = some (.ref x) ∧ m' "other" = some (.ref y) ∧ ¬ (v.1.length ≤ 1 ∧ v'.1.length ≤ 1)) ?_ ?_
  · walk_at "go"
    refine x_getA ‹FS _ _ _ _ _ _› B (FS.kp ‹FS _ _ _ _ _ _› _ _ hxo) (FS.kp ‹FS _ _ _ _ _ _› _ _ hd) g4 rfl (by kernel_rfl) fun s5 F5 => ?_
    walk_at "go"
    by_cases q1 : v.1.length ≤ 1
    · refine ite_pos (by simpa using q1) ?_
      walk_at "go"
      refine x_getA ‹FS _ _ _ _ _ _› B (FS.kp ‹FS _ _ _ _ _ _› _ _ hyo) (FS.kp ‹FS _ _ _ _ _ _› _ _ hd') g4' rfl (by kernel_rfl) fun s6 F6 => ?_
      walk_at "go"
      by_cases q2 : v'.1.length ≤ 1
      · refine ite_pos (by simpa using q2) ?_
        walk_at "go"
        refine ite_pos rfl ?_
        walk_at "go"
        refine x_getA ‹FS _ _ _ _ _ _› B (FS.kp ‹FS _ _ _ _ _ _› _ _ hxo) (FS.kp ‹FS _ _ _ _ _ _› _ _ hd) g2 rfl (by kernel_rfl) fun s7 F7 => ?_
        walk_at "go"
        refine x_getA ‹FS _ _ _ _ _ _› B (FS.kp ‹FS _ _ _ _ _ _› _ _ hyo) (FS.kp ‹FS _ _ _ _ _ _› _ _ hd') g2' rfl (by kernel_rfl) fun s8 F8 => ?_
        walk_at "go"
        have F9 := ‹FS _ _ _ _ _ _›
        have := h _ F9.sm F9.kp F9.tp
        unfold wLess at this
        rw [if_neg hnn, if_pos ⟨q1, q2⟩, show decide (v.2.2.2 ≤ v'.2.2.2) = decide ((v.2.2.2 : Int) ≤ v'.2.2.2) from decide_eq_decide.mpr (by lia)] at this
        exact this
      · refine ite_neg (by simpa using q2) ?_
        refine ite_neg Bool.false_ne_true ?_
        exact ⟨_, ‹FS _ _ _ _ _ _›, rfl, rfl, fun q => q2 q.2⟩
    · refine ite_neg (by simpa using q1) ?_
      refine ite_neg Bool.false_ne_true ?_
      exact ⟨_, ‹FS _ _ _ _ _ _›, rfl, rfl, fun q => q1 q.1⟩
  · rintro s5 ⟨m', F5, hs, ho, hq⟩
    walk_at "go"
    have hx5 : WsAt s5.heap x v := hx.mono fun _ _ e => F5.kp _ _ e
    refine x_mLongest F5 B hx5 (by lia) hD' hA' fun s6 t6 F6 => ?_
    walk_at "go"
    have hy6 : WsAt s6.heap y v' := hy.mono fun _ _ e => F6.kp _ _ e
    refine x_mLongest F6 B hy6 (by lia) hD' hA' fun s7 t7 F7 => ?_
    walk_at "go"
    refine x_max ‹FS _ _ _ _ _ _› hA' fun s8 t8 F8 => ?_
    walk_at "go"
    have F9 := ‹FS _ _ _ _ _ _›
    refine x_forRange F9 hA' ?_
    walk_at "go"
    refine x_range2 ‹FS _ _ _ _ _ _› fun s10 r vv hr F10 => ?_
    refine ⟨2, max (wLong v) (wLong v') + 1 + 1, r, _, _, vv, _, _, fun i m₁ M₁ => M₁ = [] ∧ (∀ j, j < i → wLvl v (2 + j) < wLvl v' (2 + j)) ∧ m₁ "self" = some (.ref x) ∧ m₁ "other" = some (.ref y), rfl, F10, ⟨rfl, fun j hj => (Nat.not_lt_zero _ hj).elim, hs, ho⟩, hr, by lia, by lia, ?_, ?_, ?_, ?_⟩
    · unfold wLong; lia
    · unfold wLong; lia
    · rintro i u m₁ M₁ Z s₁ hi ⟨rfl, hall, h2, h3⟩ F11
      have hi5 : i < (max (wLong v) (wLong v')).toNat := by lia
      have hsmall : 2 + i ≤ 100000 := by unfold wLong at hi5; lia
      walk_at "goif"
      refine x_if0 (fun s' => ∃ m₂, FS s s.heap L2 m₂ ([] ++ [Z]) s' ∧ m₂ "self" = some (.ref x) ∧ m₂ "other" = some (.ref y) ∧ wLvl v (2 + i) < wLvl v' (2 + i)) ?_ ?_
      · walk_at "go"
        have F12 := ‹FS _ _ _ _ _ _›
        refine x_mLevel (ts := 2 + i) F12 B (hx.mono fun _ _ e => F12.kp _ _ e) (by with_unfolding_all exact rfl) (by lia) (by lia) hsmall hD' hA' fun s12 t12 F13 => ?_
        walk_at "go"
        refine x_mLevel (ts := 2 + i) F13 B (hy.mono fun _ _ e => F13.kp _ _ e) (by with_unfolding_all exact rfl) (by lia) (by lia) hsmall hD' hA' fun s13 t13 F14 => ?_
        walk_at "go"
        by_cases hl : wLvl v (2 + i) < wLvl v' (2 + i)
        · refine ite_neg (by simp only [decide_eq_true_eq]; lia) ?_
          exact ⟨_, F14, h2, h3, hl⟩
        · refine ite_pos (by simp only [decide_eq_true_eq]; lia) ?_
          walk_at "go"
          have F15 := ‹FS _ _ _ _ _ _›
          have := h _ F15.sm F15.kp F15.tp
          unfold wLess at this
          rw [if_neg hnn, if_neg hq, show ((List.range (max (wLong v) (wLong v')).toNat).all fun i => decide (wLvl v (2 + i) < wLvl v' (2 + i))) = false from
            List.all_eq_false.mpr ⟨i, List.mem_range.mpr hi5, by simpa using hl⟩] at this
          exact this
      · rintro s12 ⟨m₂, F12, g2', g3', hl⟩
        walk_at "go"
        exact ⟨m₂, [], F12, rfl, fun j hj => by
          rcases Nat.lt_succ_iff_lt_or_eq.mp hj with hj | rfl
          · exact hall j hj
          · exact hl, g2', g3'⟩
    · rintro m₁ M₁ s₁ ⟨rfl, hall, h2, h3⟩ F11
      walk_at "go"
      have F12 := ‹FS _ _ _ _ _ _›
      have := h _ F12.sm F12.kp F12.tp
      unfold wLess at this
      rw [if_neg hnn, if_neg hq, List.all_eq_true.mpr (fun j hj => decide_eq_true (hall j (by have := List.mem_range.mp hj; lia)))] at this
      exact this
end
theorem Ints.inj' {vs : List Value} {a b : List Int} (x : Ints vs a) (y : Ints vs b) : a = b := by
  refine List.ext_getElem (by rw [← x.length, ← y.length]) fun i h1 h2 => ?_
  obtain ⟨t, ht⟩ := x.at (List.getElem?_eq_getElem h1)
  obtain ⟨u, hu⟩ := y.at (List.getElem?_eq_getElem h2)
  have e := Option.some.inj (ht.symm.trans hu)
  injection e
theorem zip_all (a b : List Int) : (((List.range (min a.length b.length)).all fun j => a.getD j 0 == b.getD j 0) && a.length == b.length) = decide (a = b) := by
  by_cases h : a = b
  · subst h
    simp
  · rw [decide_eq_false h]
    by_cases hl : a.length = b.length
    · rw [Bool.and_eq_false_iff]
      left
      rw [List.all_eq_false]
      refine Classical.byContradiction fun hc => h (List.ext_getElem hl fun i h1 h2 => ?_)
      refine Classical.byContradiction fun hne => hc ⟨i, List.mem_range.mpr (by lia), ?_⟩
      rw [List.getD_eq_getElem?_getD, List.getD_eq_getElem?_getD, List.getElem?_eq_getElem h1, List.getElem?_eq_getElem h2]
      simpa using hne
    · simp [hl]
section
open PySem.SeqAt (EqAt RcAt)
variable {prog : Program} {w : World} {A : Around} {E : Value → Shared → Prop} {g s s' : Shared} {L a : Addr} {h₀ : Heap} {m mg mb : Str → Option Value} {M M' : List (Addr × Obj)}
theorem isTuple_of {h : Heap} {l : Addr} {vs : List Value} {n : Nat} (e : h.get? l = some (tup vs n)) : h.IsTuple l vs.toArray := ⟨_, e, rfl, n, rfl⟩
theorem rc_ints {l b : Addr} {vs ws : List Value} {n k : Nat} {x y : List Int} (hl : s.heap.get? l = some (tup vs n)) (hb : s.heap.get? b = some (tup ws k)) (X : Ints vs x) (Y : Ints ws y) (hu : A.units < cLine) : RcAt A s (.ref l) (.ref b) (decide (x = y)) := by
  have h := RcAt.tuples (A := A) (e := fun j => x.getD j 0 == y.getD j 0) (isTuple_of hl) (isTuple_of hb) hu (fun j h1 h2 => ?_)
  · rw [List.size_toArray, List.size_toArray, X.length, Y.length, zip_all] at h
    exact h
  · rw [List.size_toArray] at h1 h2
    have hx : j < x.length := by rw [← X.length]; exact h1
    have hy : j < y.length := by rw [← Y.length]; exact h2
    obtain ⟨t, ht⟩ := X.at (List.getElem?_eq_getElem hx)
    obtain ⟨u, hu'⟩ := Y.at (List.getElem?_eq_getElem hy)
    have e1 : vs.toArray[j] = .int x[j] t := by
      have := (List.getElem?_eq_some_iff.mp ht).2
      simpa using this
    have e2 : ws.toArray[j] = .int y[j] u := by
      have := (List.getElem?_eq_some_iff.mp hu').2
      simpa using this
    rw [e1, e2, List.getD_eq_getElem?_getD, List.getD_eq_getElem?_getD, List.getElem?_eq_getElem hx, List.getElem?_eq_getElem hy]
    exact EqAt.int_int _ _ _ _
theorem ws_equal {x y : Addr} {v v' : List Int × Nat × Nat × Nat} {Q : Value → Shared → Prop} (B : Base prog w mg mb s.heap) (hx : WsAt s.heap x v) (hy : WsAt s.heap y v') (hD : A.depth + 3 < recursionLimit) (hA : A.handled = none) (hu : A.units + 20 < cLine)
    (h : ∀ s' , Sm s s' → Kp s.heap s'.heap → 0 < s'.toks → Q (.bool (wEq v v')) s') : wpAny (model prog w) A (call (.ref 98) [.ref x, .ref y]) Q E s := by
  obtain ⟨dx, es, k, tn, e1, tc, e2, cv, tb, t1, t2, hxo, hd, hn, hc, hI, g1, g2, g3, g4, g5, g6, g7, g8⟩ := id hx
  obtain ⟨dy, es', k', tn', e1', tc', e2', cv', tb', t1', t2', hyo, hd', hn', hc', hI', g1', g2', g3', g4', g5', g6', g7', g8'⟩ := id hy
  refine wpAny_call (x_codeQ [(Str.ofString "self", Value.ref x), (Str.ofString "other", Value.ref y)] (fn98 B) B.nolimit (by lia) (List.cons_ne_nil _ _) (fun _ _ => rfl) rfl ?_)
  intro s2 L2 cd _ F
  have hA' : (A.deeper (envOf "Whitespace.equal" (dScope (wsSt 4)) L2 98 cd)).handled = none := hA
  have hu' : (A.deeper (envOf "Whitespace.equal" (dScope (wsSt 4)) L2 98 cd)).units + 10 < cLine := by show A.units + 3 + 10 < _; lia
  with_unfolding_all refine wpAny_execs_cons ?_
  walk_at "go"
  refine x_getA ‹FS _ _ _ _ _ _› B (FS.kp ‹FS _ _ _ _ _ _› _ _ hxo) (FS.kp ‹FS _ _ _ _ _ _› _ _ hd) g3 rfl (by kernel_rfl) fun s3 F3 => ?_
  walk_at "go"
  refine x_getA ‹FS _ _ _ _ _ _› B (FS.kp ‹FS _ _ _ _ _ _› _ _ hyo) (FS.kp ‹FS _ _ _ _ _ _› _ _ hd') g3' rfl (by kernel_rfl) fun s4 F4 => ?_
  walk_at "go"
  have F5 := ‹FS _ _ _ _ _ _›
  refine PySem.SeqAt.eq_tupleAt (e := fun j => if j = 0 then decide (v.1 = v'.1) else decide (v.2.1 = v'.2.1)) (isTuple_of (F5.kp _ _ hn)) (isTuple_of (F5.kp _ _ hn')) (by lia) (fun j h1 h2 => ?_) ?_
  · match j, h1, h2 with
    | 0, _, _ =>
      show EqAt _ _ (.ref tc) (.ref tc') (decide (v.1 = v'.1))
      by_cases ht : tc = tc'
      · subst ht
        have e := Option.some.inj (hc.symm.trans hc')
        have e2 : cv.toArray = cv'.toArray := by injection e with _ _ e _; injection e
        have e3 : cv = cv' := by simpa using e2
        subst e3
        rw [hI.inj' hI', decide_eq_true rfl]
        exact EqAt.same _
      · exact .of_refs ht (rc_ints (F5.kp _ _ hc) (F5.kp _ _ hc') hI hI' (by show _ + 1 < _; lia))
    | 1, _, _ =>
      show EqAt _ _ (.int v.2.1 tb) (.int v'.2.1 tb') (decide (v.2.1 = v'.2.1))
      have := EqAt.int_int (A := (A.deeper (envOf "Whitespace.equal" (dScope (wsSt 4)) L2 98 cd)).in1) (s := s4) v.2.1 tb v'.2.1 tb'
      rw [show ((v.2.1 : Int) == (v'.2.1 : Int)) = decide (v.2.1 = v'.2.1) by rw [Bool.eq_iff_iff]; simp; lia] at this
      exact this
  · have := h _ F5.sm F5.kp F5.tp
    unfold wEq at this
    simpa [List.range_succ] using this
end
local macro_rules | `(tactic| walk_at "mm") => `(tactic| repeat (first | exact List.Mem.head _ | refine List.Mem.tail _ ?_))
local macro_rules | `(tactic| walk_at "goi") => `(tactic| repeat ((fail_if_success (with_reducible show wpAny _ _ (eval (Expr.IfExp _ _ _ _) _) _ _ _)); walk_at "one"))
local macro_rules | `(tactic| walk_at "ss") => `(tactic| repeat (first | exact List.Sublist.refl _ | refine List.Sublist.cons _ ?_))
/-! the page: its rows -/
noncomputable def T.num : T → Int | .node n _ => n
noncomputable def pgLead (R : List Nat) (t i : Nat) : List Nat :=
  ((R.drop (i % (R.length + 1)) ++ R.take (i % (R.length + 1))).map fun r => List.replicate r 32 ++ [9]).flatten ++ List.replicate t 32
noncomputable def inn (kd many : Nat) (R : List Nat) (t s : Nat) : List Nat × Nat :=
  if kd = 0 then (R ++ [t + s], 0) else if kd = 1 then (R ++ [t] ++ List.replicate (many - 1 - s) 0, 2 * s) else if kd = 2 then (R ++ [1 + s], t) else (R ++ List.replicate s 0, t + many - s)
noncomputable def shf (s : Nat) (last : Int) (c : T) : Nat := if last = 0 ∨ last = c.num then s else s + 1
noncomputable def sgP (last : Int) (c : T) : List Nat := if c.num = last then [] else sgnL c.num
mutual
noncomputable def pgT (K : Nat) : T → List Nat → Nat → List Nat → Nat → List (List Nat)
  | .node _ cs, R, t, sg, i => (pgLead R t i ++ sg) :: pgC K (K / 4 ^ i % 4) cs.length R t cs 0 0 (i + 1)
noncomputable def pgC (K kd many : Nat) (R : List Nat) (t : Nat) : List T → Nat → Int → Nat → List (List Nat)
  | [], _, _, _ => []
  | c :: cs, s, last, i => pgT K c (inn kd many R t (shf s last c)).1 (inn kd many R t (shf s last c)).2 (sgP last c) i ++ pgC K kd many R t cs (shf s last c) c.num (i + c.size)
end
noncomputable abbrev pgE (L f : Addr) (cd : Value) : Env := envOf "_law_page" (dScope (stA 73)) L f cd
section
variable {prog : Program} {w : World} {A : Around} {E : Value → Shared → Prop} {g s s' : Shared} {L a : Addr} {h₀ : Heap} {m mg mb : Str → Option Value} {M M' : List (Addr × Obj)}
theorem foldl_cp (c : Nat) : ∀ (k : Nat) (a : List Nat), (List.replicate k #[c]).foldl (· ++ ·) a.toArray = (a ++ List.replicate k c).toArray
  | 0, a => by simp
  | k + 1, a => by
    rw [List.replicate_succ, List.foldl_cons]
    have := foldl_cp c k (a ++ [c])
    rw [show a.toArray ++ #[c] = (a ++ [c]).toArray by simp, this, List.replicate_succ]
    simp
theorem mem_le_sum : ∀ {R : List Nat} {r : Nat}, r ∈ R → r ≤ R.sum
  | x :: R, r, h => by
    rw [List.sum_cons]
    rcases List.mem_cons.mp h with rfl | h
    · lia
    · have := mem_le_sum h
      lia
theorem flat_len : ∀ R : List Nat, ((R.map fun r => List.replicate r 32 ++ [9]).flatten).length = R.sum + R.length
  | [] => rfl
  | x :: R => by
    rw [List.map_cons, List.flatten_cons, List.length_append, flat_len R, List.sum_cons, List.length_cons]
    simp
    lia
theorem rot_sum (R : List Nat) (q : Nat) : (R.drop q ++ R.take q).sum = R.sum := by
  have := congrArg List.sum (List.take_append_drop q R)
  rw [List.sum_append] at this ⊢
  lia
theorem nfmod (a b : Nat) : (a : Int).fmod b = ((a % b : Nat) : Int) := by rw [Int.fmod_eq_emod_of_nonneg _ (by lia)]; rfl
theorem nfdiv (a b : Nat) : (a : Int).fdiv b = ((a / b : Nat) : Int) := by rw [Int.fdiv_eq_ediv_of_nonneg _ (by lia)]; rfl
theorem x_blanks {x : Str} {n : Nat} {t u : Tok} {Q : Value → Shared → Prop} (hx : x = sOf [32]) (F : FS g h₀ L m M s) (hn : n ≤ 1000000) (h : ∀ s' t, FS g h₀ L m M s' → Q (.str (sOf (List.replicate n 32)) t) s') :
    wpAny (model prog w) A (binaryOp .Mult (.str x t) (.int n u)) Q E s := by
  subst hx
  refine tpos F.tp (P.mul_str ?_ ?_ ?_ ?_)
  · rw [decide_eq_false (by lia), decide_eq_false (by lia)]; rfl
  · intro h1 h2
    show ¬ ((1 : Int) > (2 ^ 63 - 1) / n)
    have : (1 : Int) ≤ (2 ^ 63 - 1) / n := by
      rw [Int.le_ediv_iff_mul_le (by lia)]
      lia
    lia
  · intro h1 h2
    have : (sOf [32]).length = 1 := rfl
    rw [this]
    exact decide_eq_false (by rw [sizeLine_eq]; lia)
  · by_cases h1 : (n : Int) < 1
    · rw [if_pos h1]
      refine ⟨by decide, fun hp => ?_⟩
      have : n = 0 := by lia
      subst this
      exact h _ _ (F.tk hp)
    · rw [if_neg h1]
      by_cases h2 : n = 1
      · subst h2
        rw [if_pos (by rfl)]
        exact fun hp => h _ _ (F.tk hp)
      · rw [if_neg (by rw [show (sOf [32]).length = 1 from rfl]; simp; lia)]
        have e : (⟨(List.replicate (n : Int).toNat (sOf [32]).cps).foldl (· ++ ·) #[]⟩ : Str) = sOf (List.replicate n 32) := by
          have := foldl_cp 32 n []
          rw [List.nil_append] at this
          exact congrArg Str.mk this
        rw [e]
        refine ⟨?_, fun hp => h _ _ (F.tk hp)⟩
        rw [sOf_len, List.length_replicate, sizeLine_eq]
        lia
theorem x_strJ {α : Sem Value} {y : Str} {Q : Value → Shared → Prop} (_F : FS g h₀ L m M s) (h : wpAny (model prog w) A α (fun v s' => ∃ t, v = .str y t ∧ FS g h₀ L m M s') E s) (k : ∀ s' t, FS g h₀ L m M s' → Q (.str y t) s') : wpAny (model prog w) A α Q E s :=
  wpAny_mono h (fun v s' ⟨t, e, F⟩ => e ▸ k s' t F) fun _ _ e => e
theorem x_notin2 {l : Addr} {a b z : Int} {ta tb u : Tok} {n : Nat} {Q : Value → Shared → Prop} (F : FS g h₀ L m M s) (hl : (l, tup [.int a ta, .int b tb] n) ∈ M) (h : Q (.bool (!([a, b].any (· == z)))) s) :
    wpAny (model prog w) A (compareOp .NotIn (.int z u) (.ref l)) Q E s := notin_tuple_ints ⟨_, F.get hl, rfl, n, rfl⟩ (.cons _ _ (.cons _ _ .nil)) h
theorem Ints.snoc {vs : List Value} {zs : List Nat} {z : Int} {n : Nat} {t : Tok} (h : Ints vs (zs.map Int.ofNat)) (e : z = n) : Ints (vs ++ [.int z t]) ((zs ++ [n]).map Int.ofNat) := by
  subst e
  rw [List.map_append]
  exact h.append (.cons .nil)
theorem Ints.zeros {vs : List Value} {zs : List Nat} {z : Int} {n : Nat} {t : Tok} (h : Ints vs (zs.map Int.ofNat)) (e : z = n) : Ints (vs ++ List.replicate z.toNat (.int 0 t)) ((zs ++ List.replicate n 0).map Int.ofNat) := by
  subst e
  rw [List.map_append, Int.toNat_natCast]
  refine h.append ?_
  unfold Ints
  simp [vInt]
theorem x_pick {value slice : Expr} {T0 T1 T2 T3 T4 D1 D2 D3 D4 : Addr} {vs1 vs2 vs3 vs4 : List Value} {b1 b2 b3 b4 : Int} {t1 t2 t3 t4 u : Tok} {kd many t sf n : Nat} {R : List Nat} {Q : Value → Shared → Prop} (hkd : kd < 4) (F : FS g h₀ L m ((T0, tup [.ref T1, .ref T2, .ref T3, .ref T4] n) :: M) s)
    (m1 : (T1, tup [.ref D1, .int b1 t1]) ∈ M) (d1 : (D1, lst vs1) ∈ M) (i1 : Ints vs1 ((inn 0 many R t sf).1.map Int.ofNat)) (e1 : b1 = ((inn 0 many R t sf).2 : Nat))
    (m2 : (T2, tup [.ref D2, .int b2 t2]) ∈ M) (d2 : (D2, lst vs2) ∈ M) (i2 : Ints vs2 ((inn 1 many R t sf).1.map Int.ofNat)) (e2 : b2 = ((inn 1 many R t sf).2 : Nat))
    (m3 : (T3, tup [.ref D3, .int b3 t3]) ∈ M) (d3 : (D3, lst vs3) ∈ M) (i3 : Ints vs3 ((inn 2 many R t sf).1.map Int.ofNat)) (e3 : b3 = ((inn 2 many R t sf).2 : Nat))
    (m4 : (T4, tup [.ref D4, .int b4 t4]) ∈ M) (d4 : (D4, lst vs4) ∈ M) (i4 : Ints vs4 ((inn 3 many R t sf).1.map Int.ofNat)) (e4 : b4 = ((inn 3 many R t sf).2 : Nat))
    (h : ∀ Tj Dj ws tb, (Tj, tup [.ref Dj, .int ((inn kd many R t sf).2 : Nat) tb]) ∈ M → (Dj, lst ws) ∈ M → Ints ws ((inn kd many R t sf).1.map Int.ofNat) → Q (.ref Tj) s)
    (hs : subscripted slice false (.ref T0) (.int kd u) = operate [.ref T0, .int kd u] (getItem (.ref T0) (.int kd u)) := by first | with_reducible exact sub_name | with_reducible exact sub_const | with_reducible exact sub_binop | with_reducible exact sub_unop | with_unfolding_all rfl) :
    wpAny (model prog w) A (subscriptTail value slice (.ref T0) (.int kd u)) Q E s := by
  subst e1 e2 e3 e4
  match kd, hkd with
  | 0, _ => exact x_itemTup 0 F (.head _) rfl rfl (by decide) (h _ _ _ _ m1 d1 i1) hs
  | 1, _ => exact x_itemTup 1 F (.head _) rfl rfl (by decide) (h _ _ _ _ m2 d2 i2) hs
  | 2, _ => exact x_itemTup 2 F (.head _) rfl rfl (by decide) (h _ _ _ _ m3 d3 i3) hs
  | 3, _ => exact x_itemTup 3 F (.head _) rfl rfl (by decide) (h _ _ _ _ m4 d4 i4) hs
def PageSpec (prog : Program) (w : World) (mg mb : Str → Option Value) (P f : Addr) (K k : Nat) : Prop := ∀ (t : T), t.size ≤ k → t.ok →
    ∀ (A : Around) (E : Value → Shared → Prop) (s : Shared) (v : Value) (Ra : Addr) (rs : List Value) (e e2 : Nat) (R : List Nat) (tail : Nat) (tt kt st : Tok) (l : List (Str × Tok)) (sg : List Nat) (Q : Value → Shared → Prop),
      A.handled = none → A.depth + k + 3 < recursionLimit → Base prog w mg mb (hole s.heap P) → mg "_law_page" = some (.ref f) → FnAt (hole s.heap P) "_law_page" (stA 73) f → TreeAt (hole s.heap P) v t →
      (hole s.heap P).get? Ra = some (lst rs e) → Ints rs (R.map Int.ofNat) → s.heap.get? P = some (lst (strValues l) e2) → R.length + R.sum + tail + 2 * t.size ≤ 1000 → sg.length ≤ 10 → l.length + t.size ≤ 12 → K ≤ 10 ^ 15 → 
      (∀ s' L' m' l' e', FS s (hole s.heap P) L' m' [(P, lst (strValues (l ++ l')) e')] s' → l'.map (·.1) = (pgT K t R tail sg l.length).map sOf → Q (.ref P) s') →
      wpAny (model prog w) A (call (.ref f) [v, .ref Ra, .int tail tt, .int K kt, .ref P, .str (sOf sg) st]) Q E s
def pgN (Ra P : Addr) (tail K kd many : Nat) (tt kt tk tm : Tok) (sf : Nat) (last : Int) (m : Str → Option Value) : Prop :=
  m "runs" = some (.ref Ra) ∧ m "tail" = some (.int tail tt) ∧ m "kinds" = some (.int K kt) ∧ m "rows" = some (.ref P) ∧ m "kind" = some (.int kd tk) ∧ m "many" = some (.int many tm) ∧ (∃ t, m "shift" = some (.int sf t)) ∧ ∃ t, m "last" = some (.int last t)
noncomputable def pgBody : List Stmt := match (dBody (stA 73))[7]? with | some (Stmt.For _ _ b _ _) => b | _ => []
theorem inn_ok {kd many : Nat} {R : List Nat} {t s : Nat} (h : s + 1 ≤ many) : (inn kd many R t s).1.length + (inn kd many R t s).1.sum + (inn kd many R t s).2 ≤ R.length + R.sum + t + 2 * many := by
  unfold inn
  split
  · simp; lia
  · split
    · simp; lia
    · split
      · simp; lia
      · simp; lia
set_option maxHeartbeats 4000000 in
theorem pg_turn {P f Ra D : Addr} {K k kd many tail sf i : Nat} {last : Int} {R : List Nat} {tt kt tkd tm : Tok} {m₁ : Str → Option Value} {l1 : List (Str × Tok)} {e1 e : Nat} {rs vs : List Value} {c : T} {v : Value} {Z : Addr × Obj} {s₁ : Shared} {cd : Value} (IH : PageSpec prog w mg mb P f K k)
    (B : Base prog w mg mb h₀) (hP : h₀.get? P = none) (eq : mg "_law_page" = some (.ref f)) (hf : FnAt h₀ "_law_page" (stA 73) f) (hRa : h₀.get? Ra = some (lst rs e)) (hR : Ints rs (R.map Int.ofNat)) (hkd : kd < 4)
    (hA : A.handled = none) (hD : A.depth + k + 4 < recursionLimit) (hc : c.size ≤ k) (hok : c.ok) (hTc : TreeAt h₀ v c) (hW : R.length + R.sum + tail + 2 * many + 2 * c.size ≤ 1000) (hs' : shf sf last c + 1 ≤ many) (hl : l1.length + c.size ≤ 12) (hl1 : l1 ≠ []) (hK : K ≤ 10 ^ 15)
    (hN : pgN Ra P tail K kd many tt kt tkd tm sf last m₁) (F : FS g h₀ L (fun y => if y = "child" then some v else m₁ y) ([(P, lst (strValues l1) e1), (D, lst vs)] ++ [Z]) s₁) :
    wpAny (model prog w) (A.deeper (pgE L f cd)) (execs pgBody (pgE L f cd)) (fun fl s₂ => match fl with
      | .next | .cont => ∃ m₂ l2 e2, FS g h₀ L m₂ ([(P, lst (strValues (l1 ++ l2)) e2), (D, lst vs)] ++ [Z]) s₂ ∧ pgN Ra P tail K kd many tt kt tkd tm (shf sf last c) c.num m₂ ∧
          l2.map (·.1) = (pgT K c (inn kd many R tail (shf sf last c)).1 (inn kd many R tail (shf sf last c)).2 (sgP last c) l1.length).map sOf
      | .brk => False
      | .ret _ => False) (fun _ _ => False) s₁ := by
  obtain ⟨c0, ccs⟩ := c
  cases hTc with | @mk ca _ ck cvs _ ce hcg hcT =>
  obtain ⟨n1, n2, n3, n4, n5, n6, ⟨ts, n7⟩, ⟨tl, n8⟩⟩ := id hN
  have hA' : (A.deeper (pgE L f cd)).handled = none := hA
  have hc0 : c0 ∈ menu := hok.1
  with_unfolding_all refine wpAny_execs_cons ?_
  walk_at "goif"
  refine x_if (fun s' => ∃ m₂, FS g h₀ L m₂ ([(P, lst (strValues l1) e1), (D, lst vs)] ++ [Z]) s' ∧ pgN Ra P tail K kd many tt kt tkd tm (shf sf last (.node c0 ccs)) last m₂ ∧ m₂ "child" = some (.ref ca)) ?_ ?_
  · walk_at "go"
    have F1 := ‹FS _ _ _ _ _ _›
    refine x_notin2 F1 (.head _) ?_
    walk_at "go"
    by_cases hl0 : last = 0 ∨ last = c0
    · refine ite_neg (by simp; rcases hl0 with q | q <;> simp [q]) ?_
      refine wpAny_execs_nil ⟨rfl, _, F1.drop, ?_, rfl⟩
      rw [show shf sf last (.node c0 ccs) = sf from if_pos hl0]
      exact ⟨n1, n2, n3, n4, n5, n6, ⟨_, n7⟩, ⟨_, n8⟩⟩
    · refine ite_pos (by simp; exact ⟨fun q => hl0 (.inl q.symm), fun q => hl0 (.inr q.symm)⟩) ?_
      walk_at "go"
      have F2 := ‹FS _ _ _ _ _ _›
      refine ⟨rfl, _, F2.drop, ?_, rfl⟩
      rw [show shf sf last (.node c0 ccs) = sf + 1 from if_neg hl0]
      exact ⟨n1, n2, n3, n4, n5, n6, ⟨_, rfl⟩, ⟨_, n8⟩⟩
  generalize shf sf last (.node c0 ccs) = s' at hs' ⊢
  rintro s2 ⟨m₂, F2, hN2, hch⟩
  clear F hN n1 n2 n3 n4 n5 n6 n7 n8
  obtain ⟨n1, n2, n3, n4, n5, n6, ⟨ts2, n7⟩, ⟨tl2, n8⟩⟩ := id hN2
  have hrl : rs.length = R.length := by rw [hR.length, List.length_map]
  walk_at "go"
  have F3 := ‹FS _ _ _ _ _ _›
  refine x_addList F3 (F3.kp _ _ hRa) (F3.get (.head _)) (by rw [sizeLine_eq, hrl]; simp; lia) fun s4 D1 F4 => ?_
  walk_at "go"
  have F5 := ‹FS _ _ _ _ _ _›
  refine x_addList F5 (F5.kp _ _ hRa) (F5.get (.head _)) (by rw [sizeLine_eq, hrl]; simp; lia) fun s6 D2 F6 => ?_
  walk_at "go"
  refine x_mulList ‹FS _ _ _ _ _ _› (FS.get ‹FS _ _ _ _ _ _› (.head _)) (by lia) (by lia) fun s7 D3 F7 => ?_
  refine x_addList F7 (F7.get (.tail _ (.tail _ (.head _)))) (F7.get (.head _)) (by rw [sizeLine_eq]; simp [hrl]; lia) fun s8 D4 F8 => ?_
  walk_at "go"
  refine x_mul ‹FS _ _ _ _ _ _› (by decide) fun s9 t9 F9 => ?_
  walk_at "go"
  have F10 := ‹FS _ _ _ _ _ _›
  refine x_addList F10 (F10.kp _ _ hRa) (F10.get (.head _)) (by rw [sizeLine_eq, hrl]; simp; lia) fun s11 D5 F11 => ?_
  walk_at "go"
  refine x_mulList ‹FS _ _ _ _ _ _› (FS.get ‹FS _ _ _ _ _ _› (.head _)) (by lia) (by lia) fun s12 D6 F12 => ?_
  refine x_addList F12 (F12.kp _ _ hRa) (F12.get (.head _)) (by rw [sizeLine_eq, hrl]; simp; lia) fun s13 D7 F13 => ?_
  walk_at "go"
  have F := ‹FS _ _ _ _ _ _›
  refine x_pick (many := many) (R := R) (t := tail) (sf := s') hkd F (by walk_at "mm") (by walk_at "mm") ?_ ?_ (by walk_at "mm") (by walk_at "mm") ?_ ?_ (by walk_at "mm") (by walk_at "mm") ?_ ?_ (by walk_at "mm") (by walk_at "mm") ?_ ?_ ?_
  · exact hR.snoc (by push_cast; rfl)
  · rfl
  · exact (hR.snoc rfl).zeros (by lia)
  · simp [inn]
  · exact hR.snoc (by push_cast; rfl)
  · rfl
  · exact hR.zeros rfl
  · simp [inn]; lia
  intro Tj Dj ws tb hTm hDm hws
  walk_at "go"
  refine x_assignTup F (F.get (.tail _ hTm)) hA' (by with_unfolding_all rfl) (by with_unfolding_all rfl) fun s14 F14 => ?_
  walk_at "goi"
  have F15 := ‹FS _ _ _ _ _ _›
  obtain ⟨aS, eS, fS⟩ : ∃ a, mg "_law_sign" = some (.ref a) ∧ FnAt h₀ "_law_sign" (stA 66) a := B.fn 5 rfl
  refine x_strJ (y := sOf (sgP last (.node c0 ccs))) F15 ?_ fun s16 t16 F16 => ?_
  · walk_at "go"
    by_cases hcl : c0 = last
    · refine ite_pos (by simpa using hcl) ?_
      walk_at "go"
      refine (?_ : ∃ _, _)
      rw [show sgP last (.node c0 ccs) = [] from if_pos hcl]
      exact ⟨_, rfl, ‹FS _ _ _ _ _ _›⟩
    · refine ite_neg (by simpa using hcl) ?_
      walk_at "go"
      have F17 := ‹FS _ _ _ _ _ _›
      refine tpos F17.tp (sign_spec (B.keeps F17.kp) (fS.keeps F17.kp) (by show A.depth + 1 < _; lia) hc0 fun s18 t18 S1 K1 P1 => ?_)
      refine (?_ : ∃ _, _)
      rw [show sgP last (.node c0 ccs) = sgnL c0 from if_neg hcl, ← sgn_sOf]
      exact ⟨_, rfl, F17.kept K1 S1 P1⟩
  walk_at "go"
  have F18 : FS g h₀ L _ ([(D, lst vs), Z] ++ [(P, lst (strValues l1) e1)]) s16 := (F16.sub (M' := (P, lst (strValues l1) e1) :: [(D, lst vs), Z]) (by walk_at "ss")).perm (List.perm_append_singleton _ _).symm
  have hDP : Dj ≠ P := fun q => by
    have h1 := F16.get (b := Dj) (o := lst ws) (.tail _ hDm)
    have h2 := F18.get (b := P) (List.mem_append_right _ (.head _))
    rw [q, h2] at h1
    injection h1 with h1
    injection h1 with _ _ h1 _
    injection h1 with h1 _
    have h3 : strValues l1 = ws := by simpa using h1
    obtain ⟨⟨x, tx⟩, l', rfl⟩ : ∃ x l', l1 = x :: l' := List.exists_cons_of_ne_nil hl1
    rw [← h3] at hws
    have := (hws.get (i := 0) (v := .str x tx) rfl)
    obtain ⟨_, _, _, h4⟩ := this
    cases h4
  have kB := kp_hole F16.kp hP
  refine IH (.node c0 ccs) hc hok _ _ _ _ _ _ _ _ _ _ _ _ _ l1 _ _ hA' (by show A.depth + 1 + k + 3 < _; lia) (B.keeps kB) eq (hf.keeps kB) (Tr.kp (.mk hcg hcT) kB) (by rw [hole_ne hDP]; exact F16.get (.tail _ hDm)) hws (F18.get (List.mem_append_right _ (.head _))) ?_ ?_ hl hK ?_
  · have := inn_ok (kd := kd) (R := R) (t := tail) hs'
    lia
  · unfold sgP
    split
    · simp
    · show (sgnL c0).length ≤ 10
      have := sgnL_len c0 hc0
      lia
  intro s20 L' m' l' e' F20 hl'
  have F21 := (F18.unhole F20).perm (List.perm_append_singleton _ _)
  walk_at "go"
  have F22 := ‹FS _ _ _ _ _ _›
  exact ⟨_, _, _, F22, ⟨n1, n2, n3, n4, n5, n6, ⟨_, n7⟩, ⟨_, rfl⟩⟩, hl'⟩
end
section
variable {prog : Program} {w : World} {A : Around} {E : Value → Shared → Prop} {g s s' : Shared} {L a : Addr} {h₀ : Heap} {m mg mb : Str → Option Value} {M M' : List (Addr × Obj)}
mutual
theorem pgT_len (K : Nat) : ∀ (t : T) (R : List Nat) (tl : Nat) (sg : List Nat) (i : Nat), (pgT K t R tl sg i).length = t.size
  | .node _ cs, R, tl, sg, i => by
    unfold pgT
    rw [List.length_cons, pgC_len K]
    rfl
theorem pgC_len (K : Nat) {kd many : Nat} {R : List Nat} {t : Nat} : ∀ (cs : List T) (s : Nat) (last : Int) (i : Nat), (pgC K kd many R t cs s last i).length = T.sizes cs
  | [], _, _, _ => by simp [pgC, T.sizes]
  | c :: cs, s, last, i => by
    unfold pgC
    rw [List.length_append, pgT_len K, pgC_len K]
    rfl
end
theorem sizes_get2 : ∀ {cs : List T} {i : Nat} {c : T}, cs[i]? = some c → c.size + cs.length ≤ T.sizes cs + 1
  | c' :: cs, 0, c, e => by
    simp at e; subst e
    have := T.sizes_length cs
    simp only [T.sizes, List.length_cons]; lia
  | .node n ds :: cs, i + 1, c, e => by
    have := sizes_get2 (cs := cs) (i := i) (by simpa using e)
    simp only [T.sizes, T.size, List.length_cons]; lia
set_option maxHeartbeats 4000000 in
theorem page_spec {P f : Addr} {K : Nat} : ∀ (k : Nat), PageSpec prog w mg mb P f K k
  | 0 => fun t h => by cases t; simp [T.size] at h
  | k + 1 => by
    rintro ⟨n, cs⟩ hk hok A E s v Ra rs e e2 R tail tt kt st l sg Q hA hD B eq hf hT hRa hR hP hW hsg hl hK h
    cases hT with | @mk a _ tk vs _ e3 hg hTs =>
    have hvs : vs.length = cs.length := hTs.length
    refine x_call [(Str.ofString "node", Value.ref a), (Str.ofString "runs", Value.ref Ra), (Str.ofString "tail", .int tail tt), (Str.ofString "kinds", .int K kt), (Str.ofString "rows", Value.ref P), (Str.ofString "sign", .str (sOf sg) st)] (hf.keeps (hole_kp _ _)) (B.keeps (hole_kp _ _)) (by lia) (List.cons_ne_nil _ _) (fun _ _ _ => rfl) rfl ?_
    intro s0 L cd _ F0
    have F := F0.hole hP
    clear F0
    have hA' : (A.deeper (envOf "_law_page" (dScope (stA 73)) L f cd)).handled = none := hA
    have hll : (strValues l).length = l.length := by simp [strValues]
    have hlv : l.length ≤ 12 := by lia
    have hz : cs.length + 1 ≤ 12 := by have := T.sizes_length cs; simp only [T.size] at hl; lia
    with_unfolding_all refine wpAny_execs_cons ?_
    walk_at "go"
    have hrl : rs.length = R.length := by rw [hR.length, List.length_map]
    have hRl : R.length ≤ 1000 := by lia
    refine x_lenList ‹FS _ _ _ _ _ _› (FS.get ‹FS _ _ _ _ _ _› (.head _)) (by rw [hll, sizeLine_eq]; lia) fun s1 t1 F1 => ?_
    rw [hll]
    walk_at "go"
    refine x_lenList ‹FS _ _ _ _ _ _› (FS.kp ‹FS _ _ _ _ _ _› _ _ hRa) (by rw [hrl, sizeLine_eq]; lia) fun s2 t2 F2 => ?_
    rw [hrl]
    walk_at "go"
    refine x_mod ‹FS _ _ _ _ _ _› (by lia) fun s3 t3 F3 => ?_
    rw [show ((R.length : Int) + 1) = ((R.length + 1 : Nat) : Int) from rfl, nfmod]
    have hq : l.length % (R.length + 1) ≤ R.length := Nat.le_of_lt_succ (Nat.mod_lt _ (by lia))
    have hF : pgLead R tail l.length = ((R.drop (l.length % (R.length + 1)) ++ R.take (l.length % (R.length + 1))).map fun r => List.replicate r 32 ++ [9]).flatten ++ List.replicate tail 32 := rfl
    generalize l.length % (R.length + 1) = q at *
    walk_at "go"
    refine x_lenList ‹FS _ _ _ _ _ _› (FS.get ‹FS _ _ _ _ _ _› (.head _)) (by rw [hll, sizeLine_eq]; lia) fun s4 t4 F4 => ?_
    rw [hll]
    refine x_pow F4 (by lia) (by lia) (by decide) fun s5 t5 F5 => ?_
    rw [Int.toNat_natCast]
    have h4 : (4 : Int) ^ l.length = ((4 ^ l.length : Nat) : Int) := by push_cast; rfl
    have h4b : 4 ^ l.length ≤ 4 ^ 12 := Nat.pow_le_pow_right (by decide) hlv
    have h4c : 0 < 4 ^ l.length := Nat.pow_pos (by decide)
    rw [h4]
    refine x_fdiv F5 (by lia) (by lia) fun s6 t6 F6 => ?_
    rw [nfdiv]
    walk_at "go"
    refine x_mod ‹FS _ _ _ _ _ _› (by lia) fun s7 t7 F7 => ?_
    rw [show (4 : Int) = ((4 : Nat) : Int) from rfl, nfmod]
    walk_at "goc"
    refine x_listComp (g := s) (h₀ := hole s.heap P) hA' (wpAny_BinOp ?_) (by with_unfolding_all decide) (by with_unfolding_all rfl) (by with_unfolding_all decide) (by with_unfolding_all decide) (by with_unfolding_all rfl)
    refine x_sliceList ‹FS _ _ _ _ _ _› ?_
    walk_at "go"
    have F := ‹FS _ _ _ _ _ _›
    refine ⟨Ra, _, _, some (q : Int), none, _, _, rfl, F, F.kp _ _ hRa, by rw [sizeLine_eq, hrl]; lia, .int _ _, .none, fun s8 D8 F8 => ?_⟩
    rw [slice_from] at F8
    refine x_sliceList F8 ?_
    walk_at "go"
    have F := ‹FS _ _ _ _ _ _›
    refine ⟨Ra, _, _, none, some (q : Int), _, _, rfl, F, F.kp _ _ hRa, by rw [sizeLine_eq, hrl]; lia, .none, .int _ _, fun s9 D9 F9 => ?_⟩
    rw [slice_upto] at F9
    refine x_addList F9 (F9.get (.tail _ (.head _))) (F9.get (.head _)) (by rw [sizeLine_eq, List.length_drop, List.length_take]; lia) fun s10 D F10 => ?_
    have hR2 : Ints (rs.drop q ++ rs.take q) ((R.drop q ++ R.take q).map Int.ofNat) := by
      have a1 := hR.drop q
      have a2 := hR.take q
      unfold Ints at a1 a2 ⊢
      rw [List.map_append, List.map_append, a1, a2]
      simp
    have hR3 : ∀ r ∈ R.drop q ++ R.take q, r ≤ 1000 := fun r hr => by
      have : r ∈ R := by
        rcases List.mem_append.mp hr with hr | hr
        · exact List.mem_of_mem_drop hr
        · exact List.mem_of_mem_take hr
      have := mem_le_sum this
      lia
    have hs2 := rot_sum R q
    have hn2 : (R.drop q ++ R.take q).length = R.length := by rw [List.length_append, List.length_drop, List.length_take]; lia
    have hrn2 : (rs.drop q ++ rs.take q).length = rs.length := by rw [List.length_append, List.length_drop, List.length_take]; lia
    generalize rs.drop q ++ rs.take q = rs2 at *
    generalize R.drop q ++ R.take q = R2 at *
    have hRn : R2.length ≤ 1000 := by lia
    refine ⟨D, rs2, 0, _, _, fun i ys M₁ => (∃ lz : List (Str × Tok), ys = strValues lz ∧ lz.map (·.1) = (R2.take i).map fun r => sOf (List.replicate r 32 ++ [9])) ∧ M₁ = [(D, lst rs2), (D9, lst (List.take q rs)), (D8, lst (List.drop q rs)), (P, lst (strValues l) e2)], rfl, F10, ⟨⟨[], rfl, by simp⟩, rfl⟩, F10.get (.head _), by lia, ?_, ?_, ?_⟩
    · rintro i ys M₁ Z s₁ ⟨_, rfl⟩ F
      exact F.get (.head _)
    · rintro i v ys M₁ C oC mC p1 q1 s₁ hv ⟨⟨lz, rfl, hlz⟩, rfl⟩ F hNO hx
      obtain ⟨z, tz, hz', rfl⟩ := hR2.get hv
      rw [List.getElem?_map] at hz'
      obtain ⟨r, hr, rfl⟩ : ∃ r, R2[i]? = some r ∧ Int.ofNat r = z := by
        cases hr : R2[i]? with
        | none => rw [hr] at hz'; cases hz'
        | some r => rw [hr] at hz'; exact ⟨r, rfl, by simpa using hz'⟩
      have hr3 := hR3 r (List.mem_of_getElem? hr)
      walk1
      walk1
      refine x_str F fun s11 t11 F11 => ?_
      refine c_local F11 (List.mem_append_right _ (.tail _ (.head _))) hNO hx ?_ (hk := by with_unfolding_all rfl) (hl := by with_unfolding_all rfl) (hd := by with_unfolding_all decide)
      refine x_blanks (n := r) (by decide +kernel) F11 (by lia) fun s12 t12 F12 => ?_
      refine x_str F12 fun s13 t13 F13 => ?_
      rw [sp9]
      refine x_cat F13 (by rw [sizeLine_eq, sOf_len, sOf_len]; simp; lia) fun s14 t14 F14 => ?_
      rw [sOf_cat]
      refine ⟨_, F14, ⟨lz ++ [(sOf (List.replicate r 32 ++ [9]), t14)], by simp [strValues], ?_⟩, rfl⟩
      rw [List.map_append, hlz, List.take_add_one, hr]
      simp
    · rintro ys e' M₁ D2 s₁ ⟨⟨lz, rfl, hlz⟩, rfl⟩ F
      rw [show rs2.length = R2.length by rw [hR2.length, List.length_map], List.take_length] at hlz
      walk_at "go"
      refine x_join (l := lz) ‹FS _ _ _ _ _ _› (FS.get ‹FS _ _ _ _ _ _› (.head _)) ?_ fun s15 t15 F15 => ?_
      · rw [hlz]
        unfold JoinOk
        rw [StrLaws.joinFits (B := 1001)]
        · rfl
        · intro y hy
          obtain ⟨c, hc, rfl⟩ := List.mem_map.mp hy
          have := hR3 c hc
          rw [sOf_len]
          simp
          lia
        · rw [List.length_map, show (Str.ofString "").length = 0 from by decide +kernel]
          lia
      rw [hlz, show Str.ofString "" = sOf [] by decide +kernel, show (R2.map fun r => sOf (List.replicate r 32 ++ [9])) = (R2.map fun r => List.replicate r 32 ++ [9]).map sOf by rw [List.map_map]; rfl, join_nil]
      replace F15 := F15.sub (M' := [(P, lst (strValues l) e2)]) (.cons _ (.cons _ (.cons _ (.cons _ (.refl _)))))
      walk_at "go"
      refine x_blanks (n := tail) (by decide +kernel) ‹FS _ _ _ _ _ _› (by lia) fun s16 t16 F16 => ?_
      refine x_cat F16 (by rw [sizeLine_eq, sOf_len, sOf_len, flat_len]; simp; lia) fun s17 t17 F17 => ?_
      rw [sOf_cat, ← hF]
      have hlen : (pgLead R tail l.length).length ≤ 1000 := by rw [hF, List.length_append, flat_len, List.length_replicate]; lia
      generalize hF0 : pgLead R tail l.length = lead at *
      walk_at "go"
      refine x_cat ‹FS _ _ _ _ _ _› (by rw [sizeLine_eq, sOf_len, sOf_len]; lia) fun s18 t18 F18 => ?_
      rw [sOf_cat]
      walk_at "go"
      refine x_append ‹FS _ _ _ _ _ _› (by rw [hll, sizeLine_eq]; lia) fun s19 n19 F19 => ?_
      walk_at "go"
      refine x_lenList ‹FS _ _ _ _ _ _› (FS.kp ‹FS _ _ _ _ _ _› _ _ hg) (by rw [List.length_cons, hvs, sizeLine_eq]; lia) fun s20 t20 F20 => ?_
      walk_at "go"
      have F21 := ‹FS _ _ _ _ _ _›
      refine x_forList F21 hA' (x_sliceList F21 ?_)
      walk_at "go"
      have F := ‹FS _ _ _ _ _ _›
      refine ⟨a, _, _, some 1, none, _, _, rfl, F, F.kp _ _ hg, by rw [sizeLine_eq, List.length_cons]; lia, .int _ _, .none, fun s4 D F4 => ?_⟩
      rw [slice_tail] at F4
      have e0 : strValues l ++ [Value.str (sOf (lead ++ sg)) t18] = strValues (l ++ [(sOf (lead ++ sg), t18)]) := by simp [strValues]
      rw [e0] at F4
      have hl0 : (l ++ [(sOf (lead ++ sg), t18)]).length = l.length + 1 := by simp
      have hl0f : (l ++ [(sOf (lead ++ sg), t18)]).map (·.1) = l.map (·.1) ++ [sOf (lead ++ sg)] := by simp
      generalize hL0 : l ++ [(sOf (lead ++ sg), t18)] = l0 at *
      have hsz2 : T.sizes cs + 1 ≤ k + 1 := hk
      have hnode : (T.node n cs).size = T.sizes cs + 1 := rfl
      refine ⟨D, vs, 0, _, _, fun i m₁ M₁ => ∃ l1 e1 sf last tkd tm, M₁ = [(P, lst (strValues (l0 ++ l1)) e1), (D, lst vs)] ∧ pgN Ra P tail K (K / 4 ^ l.length % 4) cs.length tt kt tkd tm sf last m₁ ∧
          l1.map (·.1) ++ (pgC K (K / 4 ^ l.length % 4) cs.length R tail (cs.drop i) sf last (l0.length + l1.length)).map sOf = (pgC K (K / 4 ^ l.length % 4) cs.length R tail cs 0 0 (l.length + 1)).map sOf ∧
          sf + 1 ≤ max i 1 ∧ (i = 0 → sf = 0 ∧ last = 0), rfl, (F4.sub (.cons_cons _ (by walk_at "ss"))).swap, ?_, F4.get (.head _), ?_, ?_, ?_⟩
      · refine ⟨[], _, 0, 0, _, _, by rw [List.append_nil], ⟨rfl, rfl, rfl, rfl, rfl, congrArg (fun z : Int => some (Value.int z _)) (show (((Value.int n tk :: vs).length : Int) - 1) = (cs.length : Int) by rw [List.length_cons, hvs]; lia), ⟨_, rfl⟩, ⟨_, rfl⟩⟩, by simp [hl0], Nat.le_refl _, fun _ => ⟨rfl, rfl⟩⟩
      · rintro i m₁ M₁ Z s₁ ⟨l1, e1, sf, last, tkd, tm, rfl, _⟩ F
        exact F.get (.tail _ (.head _))
      · rintro i v m₁ M₁ Z s₁ hv ⟨l1, e1, sf, last, tkd, tm, rfl, hN, hE, hsf, h0⟩ F5
        obtain ⟨c, hc, hTc⟩ := hTs.get hv
        have hi : i < cs.length := (List.getElem?_eq_some_iff.mp hc).1
        have hdrop : cs.drop i = c :: cs.drop (i + 1) := by
          rw [List.drop_eq_getElem_cons hi, (List.getElem?_eq_some_iff.mp hc).2]
        have hsz3 := sizes_get2 hc
        rw [hdrop] at hE
        have hlen2 : l1.length + (c.size + T.sizes (cs.drop (i + 1))) = T.sizes cs := by
          have := congrArg List.length hE
          rw [List.length_append, List.length_map, List.length_map, List.length_map, pgC_len, pgC_len] at this
          exact this
        have hsf2 : shf sf last c + 1 ≤ cs.length := by
          unfold shf
          by_cases q : i = 0
          · obtain ⟨q1, q2⟩ := h0 q
            subst q1 q2
            simp
            lia
          · split <;> lia
        refine wpAny_mono (pg_turn (R := R) (i := i) (page_spec k) B (hole_self _ _) eq hf hRa hR (Nat.mod_lt _ (by decide)) hA (by lia) (by lia) (T.oks_get hok.2 hc) hTc (by lia) hsf2 (l1 := l0 ++ l1) (by rw [List.length_append]; lia) (by rw [← hL0]; simp) hK hN F5) (fun fl s₂ h₂ => ?_) fun _ _ e => e
        have nx : (∃ m₂ l2 e2, FS s (hole s.heap P) L m₂ ([(P, lst (strValues ((l0 ++ l1) ++ l2)) e2), (D, lst vs)] ++ [Z]) s₂ ∧ pgN Ra P tail K (K / 4 ^ l.length % 4) cs.length tt kt tkd tm (shf sf last c) c.num m₂ ∧
          l2.map (·.1) = (pgT K c (inn (K / 4 ^ l.length % 4) cs.length R tail (shf sf last c)).1 (inn (K / 4 ^ l.length % 4) cs.length R tail (shf sf last c)).2 (sgP last c) (l0 ++ l1).length).map sOf) →
          ∃ m₂ M₂, FS s (hole s.heap P) L m₂ (M₂ ++ [Z]) s₂ ∧ ∃ l1 e1 sf last tkd tm, M₂ = [(P, lst (strValues (l0 ++ l1)) e1), (D, lst vs)] ∧ pgN Ra P tail K (K / 4 ^ l.length % 4) cs.length tt kt tkd tm sf last m₂ ∧
            l1.map (·.1) ++ (pgC K (K / 4 ^ l.length % 4) cs.length R tail (cs.drop (i + 1)) sf last (l0.length + l1.length)).map sOf = (pgC K (K / 4 ^ l.length % 4) cs.length R tail cs 0 0 (l.length + 1)).map sOf ∧
            sf + 1 ≤ max (i + 1) 1 ∧ (i + 1 = 0 → sf = 0 ∧ last = 0) := by
          rintro ⟨m₂, l2, e2', F6, hN2, hl2⟩
          refine ⟨m₂, _, F6, l1 ++ l2, e2', _, _, _, _, by rw [List.append_assoc], hN2, ?_, ?_, fun q => by lia⟩
          · have hl2n : l2.length = c.size := by
              have := congrArg List.length hl2
              rw [List.length_map, List.length_map, pgT_len] at this
              exact this
            rw [← hE, List.map_append, hl2, List.append_assoc]
            congr 1
            rw [show ∀ i, pgC K (K / 4 ^ l.length % 4) cs.length R tail (c :: cs.drop (i + 1)) sf last (l0.length + l1.length) = _ from fun _ => by rw [pgC], List.map_append, List.length_append, List.length_append, hl2n, Nat.add_assoc]
          · unfold shf
            by_cases q : i = 0
            · obtain ⟨q1, q2⟩ := h0 q
              subst q1 q2
              simp
            · split <;> lia
        cases fl with
        | next => exact nx h₂
        | cont => exact nx h₂
        | brk => exact h₂.elim
        | ret v => exact h₂.elim
      · rintro m₁ M₁ s₁ ⟨l1, e1, sf, last, tkd, tm, rfl, hN, hE, hsf, h0⟩ F5
        obtain ⟨n1, n2, n3, n4, n5, n6, ⟨ts2, n7⟩, ⟨tl2, n8⟩⟩ := id hN
        walk_at "go"
        rw [hvs, List.drop_length] at hE
        have F6 : FS s (hole s.heap P) L m₁ [(P, lst (strValues (l0 ++ l1)) e1)] _ := F5.drop2
        rw [← hL0, List.append_assoc] at F6
        refine h _ _ _ _ _ F6 ?_
        rw [List.singleton_append, List.map_cons]
        unfold pgT
        rw [List.map_cons, ← hF0, ← hE]
        simp [pgC]
end
/-! the page read back -/
abbrev V4 := List Int × Nat × Nat × Nat
structure Pl where
  a : Addr
  tu : Addr
  te : Nat
  x : Addr
  v : V4
  n : Int
  tk : Tok
  ws : List Value
  e : Nat
structure Ab where
  v : V4
  n : Int
  pre : List T
noncomputable def Pl.obj (l : Pl) : Addr × Obj := (l.a, lst (.int l.n l.tk :: l.ws) l.e)
def VOk (v : V4) : Prop := v.1.length ≤ 10000 ∧ v.2.1 ≤ 10000
noncomputable def UpR (X : List (Addr × Obj)) : List Value → List Pl → List Ab → Prop
  | _, [], [] => True
  | o, l :: ls, b :: bs => (l.v = b.v ∧ l.n = b.n ∧ (∃ ws, l.ws = ws ++ o ∧ TreesIn X ws b.pre) ∧ (l.tu, tup [.ref l.x, .ref l.a] l.te) ∈ X ∧ WsG (fun a o => (a, o) ∈ X) l.x l.v ∧ VOk l.v) ∧ UpR X [.ref l.a] ls bs
  | _, _, _ => False
noncomputable def plPop (v : V4) : List Ab → List T → Int → List Ab × Int
  | [], _, acc => ([], acc)
  | b :: r, ext, acc => if wLess b.v v then ({ b with pre := b.pre ++ ext } :: r, acc) else plPop v r [.node b.n (b.pre ++ ext)] (acc + if wEq b.v v then b.n else 0)
noncomputable def plClose (t : T) : List Ab → List Ab
  | [] => []
  | b :: r => { b with pre := b.pre ++ [t] } :: r
theorem plPop_close (v : V4) (t : T) (acc : Int) : ∀ r, plPop v (plClose t r) [] acc = plPop v r [t] acc
  | [] => rfl
  | b :: r => by simp [plClose, plPop]
theorem UpR.mono {X Y : List (Addr × Obj)} (h : ∀ p ∈ X, p ∈ Y) : ∀ {ls : List Pl} {bs : List Ab} {o : List Value}, UpR X o ls bs → UpR Y o ls bs
  | [], [], _, _ => trivial
  | l :: ls, b :: bs, o, ⟨⟨e1, e2, ⟨ws, e3, e4⟩, e5, e6, e7⟩, r⟩ => ⟨⟨e1, e2, ⟨ws, e3, e4.mono fun _ _ q => h _ q⟩, h _ e5, e6.mono fun _ _ q => h _ q, e7⟩, UpR.mono h r⟩
theorem UpR.pop {X : List (Addr × Obj)} {l : Pl} {ls : List Pl} {b : Ab} {bs : List Ab} (h : UpR X [] (l :: ls) (b :: bs)) : UpR (l.obj :: X) [] ls (plClose (.node b.n b.pre) bs) := by
  obtain ⟨⟨e1, e2, ⟨ws, e3, e4⟩, e5, e6, e7⟩, r⟩ := h
  rw [List.append_nil] at e3
  have hnode : TreeIn (l.obj :: X) (.ref l.a) (.node b.n b.pre) := .mk (tk := l.tk) (vs := l.ws) (e := l.e) (by unfold Pl.obj; rw [e2]; exact .head _) (by rw [e3]; exact e4.mono fun _ _ q => .tail _ q)
  match ls, bs, r with
  | [], [], _ => trivial
  | l2 :: ls, b2 :: bs, ⟨⟨f1, f2, ⟨ws2, f3, f4⟩, f5, f6, f7⟩, r⟩ =>
    exact ⟨⟨f1, f2, ⟨ws2 ++ [.ref l.a], by rw [f3]; simp, (f4.mono fun _ _ q => .tail _ q).append (.cons hnode .nil)⟩, .tail _ f5, f6.mono fun _ _ q => .tail _ q, f7⟩, r.mono fun _ q => .tail _ q⟩
noncomputable abbrev vE (L f : Addr) (cd : Value) : Env := envOf "_law_unpaged" (dScope (stA 74)) L f cd
noncomputable def upBody : List Stmt := match (dBody (stA 74))[1]? with | some (Stmt.For _ _ b _ _) => b | _ => []
noncomputable def upWhile : Stmt := (upBody[2]?).getD (.Pass default)
noncomputable abbrev upM (P N : Addr) (eP eN : Nat) (acc : Int) (tk : Tok) (ls : List Pl) (R : List (Addr × Obj)) : List (Addr × Obj) := (P, lst (ls.map fun l => Value.ref l.tu).reverse eP) :: (N, lst [.int acc tk] eN) :: (ls.map Pl.obj ++ R)
def upN (P N x : Addr) (m : Str → Option Value) : Prop := m "pile" = some (.ref P) ∧ m "node" = some (.ref N) ∧ m "here" = some (.ref x)
section
variable {prog : Program} {w : World} {A : Around} {E : Value → Shared → Prop} {g s s' : Shared} {name : Str} {scope : Scope} {L a : Addr} {cd : Value} {h₀ : Heap} {m mg mb : Str → Option Value} {M M' : List (Addr × Obj)}
theorem upM_rest {P N : Addr} {eP eN : Nat} {acc : Int} {tk : Tok} {l : Pl} {ls : List Pl} {R : List (Addr × Obj)} : upM P N eP eN acc tk (l :: ls) R = (P, lst ((ls.map fun l => Value.ref l.tu).reverse ++ [.ref l.tu]) eP) :: (N, lst [.int acc tk] eN) :: ((l.a, lst (.int l.n l.tk :: l.ws) l.e) :: (ls.map Pl.obj ++ R)) := by
  simp [upM, Pl.obj]
theorem x_mLess {x y : Addr} {v v' : V4} {nz : Str} {pl : Sem Bool} {pos p2 : Pos} {Q : Value → Shared → Prop} (F : FS g h₀ L m M s) (B : Base prog w mg mb h₀) (hx : WsAt s.heap x v) (hy : WsAt s.heap y v') (hz : m nz = some (.ref y)) (hv : VOk v) (hv' : VOk v') (hD : A.depth + 5 < recursionLimit) (hA : A.handled = none)
    (h : ∀ s', FS g h₀ L m M s' → Q (.bool (wLess v v')) s') (hk : scope.kind = .function := by rfl) (hl : (envOf name scope L a cd).kindOf nz = some .local := by rfl) (hdb : (nz == ("__debug__" : Str)) = false := by decide) : wpAny (model prog w) A (getMethod (.ref x) "less" pl) (fun fx s₂ => wpAny (model prog w) A (callWith pos fx.1 fx.2 (backTo pos (starEach [.Name nz p2] (envOf name scope L a cd))) []) Q E s₂) E s := by
  obtain ⟨dx, es, k, tn, e1, tc, e2, cv, tb, t1, t2, hxo, hd, hn, hc, hI, g1, g2, g3, g4, g5, g6, g7, g8⟩ := id hx
  refine x_methA (f := 112) F B hxo hd g5 (by kernel_rfl) (by kernel_rfl) ?_
  refine callWith_K (e := .Name nz p2) (rest := []) (B.keeps F.kp).kw (by kernel_rfl) ?_
  refine spliced_more (x_local F hz ?_ hk hl hdb)
  refine spliced_none ?_
  exact ⟨(B.keeps F.kp).kw, ws_less (B.keeps F.kp) hx hy hv.1 hv'.1 hv.2 hv'.2 hD hA fun s' S K P => h s' (F.kept K S P)⟩
theorem x_mEqual {x y : Addr} {v v' : V4} {nz : Str} {pl : Sem Bool} {pos p2 : Pos} {Q : Value → Shared → Prop} (F : FS g h₀ L m M s) (B : Base prog w mg mb h₀) (hx : WsAt s.heap x v) (hy : WsAt s.heap y v') (hz : m nz = some (.ref y)) (hD : A.depth + 3 < recursionLimit) (hA : A.handled = none) (hu : A.units + 20 < cLine)
    (h : ∀ s', FS g h₀ L m M s' → Q (.bool (wEq v v')) s') (hk : scope.kind = .function := by rfl) (hl : (envOf name scope L a cd).kindOf nz = some .local := by rfl) (hdb : (nz == ("__debug__" : Str)) = false := by decide) : wpAny (model prog w) A (getMethod (.ref x) "equal" pl) (fun fx s₂ => wpAny (model prog w) A (callWith pos fx.1 fx.2 (backTo pos (starEach [.Name nz p2] (envOf name scope L a cd))) []) Q E s₂) E s := by
  obtain ⟨dx, es, k, tn, e1, tc, e2, cv, tb, t1, t2, hxo, hd, hn, hc, hI, g1, g2, g3, g4, g5, g6, g7, g8⟩ := id hx
  refine x_methA (f := 98) F B hxo hd g6 (by kernel_rfl) (by kernel_rfl) ?_
  refine callWith_K (e := .Name nz p2) (rest := []) (B.keeps F.kp).kw (by kernel_rfl) ?_
  refine spliced_more (x_local F hz ?_ hk hl hdb)
  refine spliced_none ?_
  exact ⟨(B.keeps F.kp).kw, ws_equal (B.keeps F.kp) hx hy hD hA hu fun s' S K P => h s' (F.kept K S P)⟩
theorem aug_fin {N : Addr} {p : Addr × Obj} {x b c : Int} {t u : Tok} {e : Nat} (h : FS g h₀ L m (p :: (N, lst ([Value.int x t].set 0 (.int b u)) e) :: M) s) (q : b = c) : ∃ e2 tk2, FS g h₀ L m (p :: (N, lst [.int c tk2] e2) :: M) s := ⟨e, u, q ▸ h⟩
set_option maxHeartbeats 2000000 in
theorem up_pops {P N x0 L f : Addr} {cd : Value} {eP eN : Nat} {acc : Int} {tk : Tok} {v0 : V4} {ls : List Pl} {bs : List Ab} {X R : List (Addr × Obj)} {Q : Flow → Shared → Prop} (B : Base prog w mg mb h₀) (F : FS g h₀ L m (upM P N eP eN acc tk ls (X ++ R)) s) (hT : UpR X [] ls bs) (hx0 : WsG (fun a o => (a, o) ∈ X) x0 v0) (hv0 : VOk v0) (hN : upN P N x0 m) (hlen : ls.length ≤ 1000)
    (hA : A.handled = none) (hD : A.depth + 6 < recursionLimit) (hu : A.units + 30 < cLine)
    (k : ∀ s' m₂ eP eN acc' tk' ls' bs' X', FS g h₀ L m₂ (upM P N eP eN acc' tk' ls' (X' ++ R)) s' → UpR X' [] ls' bs' → (bs', acc') = plPop v0 bs [] acc → (∀ p ∈ X, p ∈ X') → ls'.length ≤ ls.length → upN P N x0 m₂ → Q .next s') :
    wpAny (model prog w) (A.deeper (vE L f cd)) (exec upWhile (vE L f cd)) Q E s := by
  have hA' : (A.deeper (vE L f cd)).handled = none := hA
  have hD' : (A.deeper (vE L f cd)).depth + 5 < recursionLimit := by show A.depth + 1 + 5 < _; lia
  have hu' : (A.deeper (vE L f cd)).units + 20 < cLine := by show A.units + 3 + 20 < _; lia
  with_unfolding_all refine x_whileJ (α := List Pl × List Ab × List (Addr × Obj) × Int) (fun s' => ∃ m₂ eP eN acc' tk' ls' bs' X', FS g h₀ L m₂ (upM P N eP eN acc' tk' ls' (X' ++ R)) s' ∧ UpR X' [] ls' bs' ∧ (bs', acc') = plPop v0 bs [] acc ∧ (∀ p ∈ X, p ∈ X') ∧ ls'.length ≤ ls.length ∧ upN P N x0 m₂) (fun p m₁ M₁ => (∃ eP eN tk, M₁ = upM P N eP eN p.2.2.2 tk p.1 (p.2.2.1 ++ R)) ∧ UpR p.2.2.1 [] p.1 p.2.1 ∧ plPop v0 p.2.1 [] p.2.2.2 = plPop v0 bs [] acc ∧ (∀ q ∈ X, q ∈ p.2.2.1) ∧ p.1.length ≤ ls.length ∧ upN P N x0 m₁) (fun p => p.1.length) (ls, bs, X, acc) F ⟨⟨eP, eN, tk, rfl⟩, hT, rfl, fun _ q => q, Nat.le_refl _, hN⟩ ?_ ?_
  · rintro ⟨ls', bs', X', acc'⟩ m₁ M₁ s₁ ⟨⟨eP, eN, tk, rfl⟩, hI, hE, hX, hl, hN⟩ F1
    dsimp only at hI hE hX hl ⊢
    obtain ⟨hP, hN', hH⟩ := id hN
    cases ls' with
    | nil =>
      cases bs' with | cons _ _ => exact hI.elim | nil =>
      walk_at "go"
      refine x_lenList ‹FS _ _ _ _ _ _› (FS.get ‹FS _ _ _ _ _ _› (.head _)) (by rw [sizeLine_eq]; simp) fun s2 t2 F2 => ?_
      walk_at "go"
      refine ite_neg (by simp) ?_
      refine ite_neg Bool.false_ne_true ?_
      exact ⟨m₁, _, _, acc', _, [], [], X', ‹FS _ _ _ _ _ _›, trivial, hE, hX, Nat.zero_le _, hN⟩
    | cons l' r =>
      cases bs' with | nil => exact hI.elim | cons b' br =>
      have hl2 : r.length + 1 ≤ 1000 := Nat.le_trans hl hlen
      walk_at "go"
      refine x_lenList ‹FS _ _ _ _ _ _› (FS.get ‹FS _ _ _ _ _ _› (.head _)) (by rw [sizeLine_eq]; simp; lia) fun s2 t2 F2 => ?_
      walk_at "go"
      refine ite_pos (by simp) ?_
      walk_at "go"
      rename_i s3 t3 F3
      rw [upM_rest] at F3
      have hXm : ∀ p ∈ X', p ∈ (P, lst ((r.map fun l => Value.ref l.tu).reverse ++ [.ref l'.tu]) eP) :: (N, lst [.int acc' tk] eN) :: ((l'.a, lst (.int l'.n l'.tk :: l'.ws) l'.e) :: (r.map Pl.obj ++ (X' ++ R))) := fun p h => .tail _ (.tail _ (.tail _ (List.mem_append_right _ (List.mem_append_left _ h))))
      obtain ⟨⟨f1, f2, ⟨ws, f3, f4⟩, f5, f6, f7⟩, hr⟩ := id hI
      refine x_itemLast (FS.get F3 (.head _)) ?_
      walk_at "go"
      have F4 := ‹FS _ _ _ _ _ _›
      refine x_itemTupH 0 (F4.get (hXm _ f5)) rfl rfl (by decide) ?_
      walk_at "go"
      have F5 := ‹FS _ _ _ _ _ _›
      refine x_mLess (L := L) F5 B (f6.mono fun _ _ q => F5.get (hXm _ q)) (hx0.mono fun _ _ q => F5.get (hXm _ (hX _ q))) hH f7 hv0 hD' hA' (fun s6 F6 => ?_) (hk := by with_unfolding_all rfl) (hl := by with_unfolding_all rfl)
      rw [f1]
      cases hless : wLess b'.v v0 with
      | true =>
        walk_at "go"
        refine ite_neg (by simp) ?_
        refine ite_neg Bool.false_ne_true ?_
        have F7 := ‹FS _ _ _ _ _ _›
        rw [← upM_rest] at F7
        refine ⟨m₁, _, _, acc', _, l' :: r, b' :: br, X', F7, hI, ?_, hX, hl, hN⟩
        rw [← hE, plPop, if_pos hless, List.append_nil]
      | false =>
        walk_at "go"
        refine ite_pos (by simp) ?_
        walk_at "go"
        refine ite_pos rfl ?_
        walk_at "go"
        have F7 := ‹FS _ _ _ _ _ _›
        refine x_pop F7 (by rw [sizeLine_eq]; simp; lia) fun s8 n8 F8 => ?_
        clear F7
        have hXm2 : ∀ p ∈ X', p ∈ (P, lst (r.map fun l => Value.ref l.tu).reverse n8) :: (N, lst [.int acc' tk] eN) :: ((l'.a, lst (.int l'.n l'.tk :: l'.ws) l'.e) :: (r.map Pl.obj ++ (X' ++ R))) := fun p h => .tail _ (.tail _ (.tail _ (List.mem_append_right _ (List.mem_append_left _ h))))
        walk_at "go"
        refine x_assignTup F8 (F8.get (hXm2 _ f5)) hA' (by with_unfolding_all rfl) (by with_unfolding_all rfl) fun s9 F9 => ?_
        walk_at "goif"
        have F10 := ‹FS _ _ _ _ _ _›
        refine x_if (fun s' => ∃ m₂ e2 tk2, FS g h₀ L m₂ ((P, lst (r.map fun l => Value.ref l.tu).reverse n8) :: (N, lst [.int (acc' + if wEq b'.v v0 then b'.n else 0) tk2] e2) :: ((l'.a, lst (.int l'.n l'.tk :: l'.ws) l'.e) :: (r.map Pl.obj ++ (X' ++ R)))) s' ∧ upN P N x0 m₂) ?_ ?_
        · walk_at "go"
          have F11 := ‹FS _ _ _ _ _ _›
          refine x_mEqual (L := L) F11 B (f6.mono fun _ _ q => F11.get (hXm2 _ q)) (hx0.mono fun _ _ q => F11.get (hXm2 _ (hX _ q))) (by with_unfolding_all exact hH) (by lia) hA' hu' (fun s12 F12 => ?_) (hk := by with_unfolding_all rfl) (hl := by with_unfolding_all rfl)
          rw [f1]
          cases heq : wEq b'.v v0 with
          | true =>
            walk_at "go"
            refine ite_pos rfl ?_
            walk_at "go"
            refine wpAny_getItem_list (x := .int acc' tk) (isList_of (FS.get ‹FS _ _ _ _ _ _› (.tail _ (.head _)))) (by decide) (by decide) rfl ?_
            walk_at "go"
            have F13 := ‹FS _ _ _ _ _ _›
            refine x_setAt 0 F13.swap rfl (by simp) (by simp) fun s14 n14 F14 => ?_
            walk_at "go"
            obtain ⟨e2, tk2, F15⟩ := aug_fin (c := acc' + if true = true then b'.n else 0) F14.swap (by rw [if_pos rfl, f2])
            refine (?_ : _ ∧ _)
            rw [heq]
            exact ⟨rfl, _, e2, tk2, F15, hP, hN', hH⟩
          | false =>
            walk_at "go"
            refine ite_neg Bool.false_ne_true ?_
            obtain ⟨e2, tk2, F15⟩ := aug_fin (c := acc' + if false = true then b'.n else 0) (b := acc') (u := tk) (x := acc') (t := tk) F12 (by rw [if_neg Bool.false_ne_true, Int.add_zero])
            refine wpAny_execs_nil (?_ : _ ∧ _)
            rw [heq]
            exact ⟨rfl, _, e2, tk2, F15, hP, hN', hH⟩
        · rintro s11 ⟨m₂, e2, tk2, F11, hN2⟩
          walk_at "go"
          have hm : FS g h₀ L m₂ (upM P N n8 e2 (acc' + if wEq b'.v v0 then b'.n else 0) tk2 r ((l'.obj :: X') ++ R)) s11 := by
            refine F11.perm (.cons _ (.cons _ ?_))
            rw [List.cons_append]
            exact List.perm_middle.symm
          refine ⟨(r, plClose (.node b'.n b'.pre) br, l'.obj :: X', acc' + if wEq b'.v v0 then b'.n else 0), _, _, hm, by simp, ⟨_, _, _, rfl⟩, hI.pop, ?_, fun q hq => .tail _ (hX q hq), Nat.le_trans (Nat.le_succ _) hl, hN2⟩
          have e : plPop v0 (b' :: br) [] acc' = plPop v0 br [.node b'.n (b'.pre ++ [])] (acc' + if wEq b'.v v0 then b'.n else 0) := by
            rw [plPop, hless]
            rfl
          rw [← hE]
          show plPop v0 (plClose _ br) [] _ = plPop v0 (b' :: br) [] acc'
          rw [plPop_close, e, List.append_nil]
  · rintro s₁ ⟨m₂, eP, eN, acc', tk', ls', bs', X', F1, h1, h2, h3, h4, h5⟩
    exact k _ _ _ _ _ _ _ _ _ F1 h1 h2 h3 h4 h5
end
/-! one row of the page read back -/
noncomputable def plRow (bs : List Ab) (v : V4) (n : Int) : List Ab := ⟨v, (plPop v bs [] n).2, []⟩ :: (plPop v bs [] n).1
theorem UpR.push {X : List (Addr × Obj)} {N : Addr} {l : Pl} {ls : List Pl} {b : Ab} {bs : List Ab} {e : Nat} (h : UpR X [] (l :: ls) (b :: bs)) : UpR X [.ref N] ({ l with ws := l.ws ++ [.ref N], e := e } :: ls) (b :: bs) := by
  obtain ⟨⟨e1, e2, ⟨ws, e3, e4⟩, e5, e6, e7⟩, r⟩ := h
  exact ⟨⟨e1, e2, ⟨ws, by rw [e3]; simp, e4⟩, e5, e6, e7⟩, r⟩
noncomputable def abW : List Ab → Nat
  | [] => 0
  | b :: r => b.pre.length + 1 + abW r
theorem plPop_W (v : V4) : ∀ (bs : List Ab) (ext : List T) (acc : Int), abW (plPop v bs ext acc).1 ≤ abW bs + ext.length
  | [], _, _ => by simp [plPop, abW]
  | b :: r, ext, acc => by
    unfold plPop
    split
    · simp [abW]; lia
    · refine Nat.le_trans (plPop_W v r _ _) ?_
      simp [abW]; lia
theorem plRow_W (bs : List Ab) (v : V4) (n : Int) : abW (plRow bs v n) ≤ abW bs + 1 := by
  have := plPop_W v bs [] n
  simp only [plRow, abW, List.length_nil] at this ⊢
  lia
theorem UpR.len {X : List (Addr × Obj)} : ∀ {ls : List Pl} {bs : List Ab} {o : List Value}, UpR X o ls bs → ls.length ≤ abW bs
  | [], _, _, _ => Nat.zero_le _
  | _ :: ls, b :: bs, _, ⟨_, r⟩ => by
    have := UpR.len r
    simp only [abW, List.length_cons]
    lia
def tokIs (y : List Nat) (n : Int) : Prop := (PySem.Spec.lookup (.str (sOf y)) tokData).getD (.int 0) = .int n
section
variable {prog : Program} {w : World} {A : Around} {E : Value → Shared → Prop} {g s s' : Shared} {L a : Addr} {h₀ : Heap} {m mg mb : Str → Option Value} {M M' : List (Addr × Obj)}
theorem up_perm {p q z : Addr × Obj} {X0 A X : List (Addr × Obj)} (F : FS g h₀ L m (p :: (X0 ++ (q :: (A ++ (X ++ [z]))))) s) : FS g h₀ L m (q :: p :: (A ++ ((X0 ++ X) ++ [z]))) s := by
  refine F.perm (.trans (.cons _ List.perm_middle) (.trans (.swap ..) (.cons _ (.cons _ ?_))))
  rw [List.append_assoc X0 X]
  exact List.perm_append_comm_assoc ..
set_option maxHeartbeats 2000000 in
theorem up_turn {P d L f : Addr} {cd : Value} {eP : Nat} {y : List Nat} {n : Int} {t : Tok} {ls : List Pl} {bs : List Ab} {X : List (Addr × Obj)} {Z : Addr × Obj} (B : Base prog w mg mb h₀) (eT : mg "EXACT_TOKEN_TYPES" = some (.ref d)) (T : StrTab prog w h₀ d tokData) (hy : y.length ≤ 1000) (hv0 : VOk (scan y [] 0 0 0))
    (hn : tokIs (y.drop (scan y [] 0 0 0).2.2.1) n) (hT : UpR X [] ls bs) (hW : abW bs ≤ 900) (hA : A.handled = none) (hD : A.depth + 8 < recursionLimit) (hu : A.units + 30 < cLine) (hP : m "pile" = some (.ref P))
    (F : FS g h₀ L (fun z => if z = "row" then some (.str (sOf y) t) else m z) (((P, lst (ls.map fun l => Value.ref l.tu).reverse eP) :: (ls.map Pl.obj ++ X)) ++ [Z]) s) :
    wpAny (model prog w) (A.deeper (vE L f cd)) (execs upBody (vE L f cd)) (fun fl s₂ => match fl with
      | .next | .cont => ∃ m₂ eP ls' X', FS g h₀ L m₂ (((P, lst (ls'.map fun l => Value.ref l.tu).reverse eP) :: (ls'.map Pl.obj ++ X')) ++ [Z]) s₂ ∧ UpR X' [] ls' (plRow bs (scan y [] 0 0 0) n) ∧ m₂ "pile" = some (.ref P)
      | .brk => False
      | .ret _ => False) (fun _ _ => False) s := by
  have hA' : (A.deeper (vE L f cd)).handled = none := hA
  have eW := B.ws
  have hlen : ls.length ≤ 900 := Nat.le_trans hT.len hW
  rw [List.cons_append, List.append_assoc] at F
  with_unfolding_all refine wpAny_execs_cons ?_
  walk_at "go"
  refine callWith_K (B.keeps (FS.kp ‹FS _ _ _ _ _ _›)).kw (by kernel_rfl) ?_
  walk_at "go"
  have F1 := ‹FS _ _ _ _ _ _›
  refine ⟨(B.keeps F1.kp).kw, ?_⟩
  refine ws_new F1 B hy (by show A.depth + 1 + 4 < _; lia) hA' fun s2 x0 X0 F2 hx0 => ?_
  generalize hsc : scan y [] 0 0 0 = v0 at *
  have hx0' := hx0
  obtain ⟨dx, es, k, tn, e1, tc, e2, cv, tb, t1, t2, hxo, hd, hnn, hc, hI, g1, g2, g3, g4, g5, g6, g7, g8⟩ := id hx0
  walk_at "go"
  refine getMethod_strTab_get (T.keep (FS.kp ‹FS _ _ _ _ _ _›)) ?_
  walk_at "go"
  refine x_sliceStrE ‹FS _ _ _ _ _ _› ?_
  walk_at "go"
  have F3 := ‹FS _ _ _ _ _ _›
  refine x_getA F3 B (F3.get (List.mem_append_left _ hxo)) (F3.get (List.mem_append_left _ hd)) g1 rfl (by kernel_rfl) fun s4 F4 => ?_
  walk_at "go"
  refine ⟨_, _, some (_, _), none, _, _, sOf (y.drop v0.2.2.1), rfl, rfl, rfl, by rw [sizeLine_eq, sOf_len]; lia, F4, sl_from y v0.2.2.1, fun s5 t5 F5 => ?_⟩
  walk_at "go"
  refine x_get2 (n := n) ‹FS _ _ _ _ _ _› (T.keep (FS.kp ‹FS _ _ _ _ _ _›)) hn fun s6 t6 F6 => ?_
  walk_at "go"
  rename_i N _ _ _ s7 F7 _
  refine up_pops (L := L) (f := f) (cd := cd) (X := X0 ++ X) (R := [Z]) B (up_perm F7) (hT.mono fun _ q => List.mem_append_right _ q) (hx0.mono fun _ _ q => List.mem_append_left _ q) hv0 ⟨by with_unfolding_all exact hP, rfl, rfl⟩ (by lia) hA (by lia) hu ?_
  clear hx0 hxo hd hnn hc
  rintro s8 m₂ eP2 eN2 acc2 tk2 ls2 bs2 X2 F8 hT8 hE hX hl8 ⟨q1, q2, q3⟩
  have hx2 : WsG (fun a o => (a, o) ∈ X2) x0 v0 := (WsG.mono (fun _ _ q => hX _ (List.mem_append_left _ q)) hx0')
  have hW2 : abW bs2 ≤ 900 := by
    have := plPop_W v0 bs [] n
    rw [← hE] at this
    simp only [List.length_nil] at this
    lia
  walk_at "goif"
  refine x_if (fun s' => ∃ ls3, FS g h₀ L m₂ (upM P N eP2 eN2 acc2 tk2 ls3 (X2 ++ [Z])) s' ∧ UpR X2 [.ref N] ls3 bs2 ∧ ls3.length = ls2.length) ?_ ?_
  · cases ls2 with
    | nil =>
      cases bs2 with | cons _ _ => exact hT8.elim | nil =>
      walk_at "go"
      refine x_lenList ‹FS _ _ _ _ _ _› (FS.get ‹FS _ _ _ _ _ _› (.head _)) (by rw [sizeLine_eq]; simp) fun s9 t9 F9 => ?_
      walk_at "go"
      refine ite_neg (by simp) ?_
      exact wpAny_execs_nil ⟨rfl, [], ‹FS _ _ _ _ _ _›, trivial, rfl⟩
    | cons l' r =>
      cases bs2 with | nil => exact hT8.elim | cons b' br =>
      obtain ⟨⟨f1, f2, ⟨ws, f3, f4⟩, f5, f6, f7⟩, hr⟩ := id hT8
      have hl2 : r.length + 1 ≤ 900 := Nat.le_trans hl8 hlen
      walk_at "go"
      refine x_lenList ‹FS _ _ _ _ _ _› (FS.get ‹FS _ _ _ _ _ _› (.head _)) (by rw [sizeLine_eq]; simp; lia) fun s9 t9 F9 => ?_
      walk_at "go"
      refine ite_pos (by simp) ?_
      walk_at "go"
      rename_i s10 t10 F10
      rw [upM_rest] at F10
      refine x_itemLastT (FS.get F10 (.head _)) ?_
      walk_at "go"
      have F11 := ‹FS _ _ _ _ _ _›
      refine x_itemTupH 1 (F11.get (.tail _ (.tail _ (.tail _ (List.mem_append_right _ (List.mem_append_left _ f5)))))) rfl rfl (by decide) ?_
      walk_at "go"
      have F12 := ‹FS _ _ _ _ _ _›
      have hws : l'.ws.length ≤ 900 := by
        have h1 := f4.length
        rw [f3, List.append_nil, h1]
        simp only [abW] at hW2
        lia
      refine x_append F12.rot (by rw [sizeLine_eq, List.length_cons]; lia) fun s13 n13 F13 => ?_
      walk_at "go"
      refine ⟨rfl, { l' with ws := l'.ws ++ [.ref N], e := n13 } :: r, ?_, hT8.push, rfl⟩
      rw [upM_rest]
      exact F13.rot.rot
  · rintro s14 ⟨ls3, F14, hT14, hl14⟩
    walk_at "go"
    rename_i s15 TU _ F15 _
    refine x_append F15.swap (by rw [sizeLine_eq]; simp; lia) fun s16 n16 F16 => ?_
    walk_at "go"
    have F17 : FS g h₀ L m₂ (((P, lst ((Pl.mk N TU 0 x0 v0 acc2 tk2 [] eN2 :: ls3).map fun l => Value.ref l.tu).reverse n16) :: ((Pl.mk N TU 0 x0 v0 acc2 tk2 [] eN2 :: ls3).map Pl.obj ++ ((TU, tup [.ref x0, .ref N]) :: X2))) ++ [Z]) s16 := by
      have e : ((Pl.mk N TU 0 x0 v0 acc2 tk2 [] eN2 :: ls3).map fun l => Value.ref l.tu).reverse = (ls3.map fun l => Value.ref l.tu).reverse ++ [.ref TU] := by simp
      rw [e]
      refine F16.perm ?_
      rw [List.map_cons, List.cons_append, List.cons_append, List.cons_append, List.append_assoc, List.cons_append]
      refine .cons _ (.trans (.swap ..) (.cons _ ?_))
      exact List.perm_middle.symm
    refine (?_ : ∃ _, _)
    rw [hsc]
    refine ⟨m₂, n16, _, _, F17, ⟨⟨rfl, ?_, ⟨[], rfl, ?_⟩, .head _, hx2.mono fun _ _ q => .tail _ q, hv0⟩, ?_⟩, q1⟩
    · exact congrArg Prod.snd hE
    · exact .nil
    · have := congrArg Prod.fst hE
      dsimp only at this
      rw [← this]
      exact hT14.mono fun _ q => .tail _ q
end
/-! the page read back, whole -/
noncomputable def plTree : List Ab → List T → Option T
  | [], _ => none
  | [b], ext => some (.node b.n (b.pre ++ ext))
  | b :: b2 :: r, ext => plTree (b2 :: r) [.node b.n (b.pre ++ ext)]
noncomputable def plRows (bs : List Ab) (rows : List (List Nat × Int)) : List Ab := rows.foldl (fun bs p => plRow bs (scan p.1 [] 0 0 0) p.2) bs
theorem UpR.done {X Y : List (Addr × Obj)} {t : T} (hX : ∀ p ∈ X, p ∈ Y) : ∀ {ls : List Pl} {bs : List Ab} {o : List Value} {ext : List T}, UpR X o ls bs → (∀ l ∈ ls, l.obj ∈ Y) → TreesIn Y o ext → plTree bs ext = some t →
    ∃ lz : Pl, (ls.map fun l => Value.ref l.tu).reverse[0]? = some (.ref lz.tu) ∧ (lz.tu, tup [.ref lz.x, .ref lz.a] lz.te) ∈ X ∧ TreeIn Y (.ref lz.a) t
  | [], [], _, _, _, _, _, e => by cases e
  | [l], [b], o, ext, ⟨⟨e1, e2, ⟨ws, e3, e4⟩, e5, _⟩, _⟩, hl, ho, e => by
    simp only [plTree, Option.some.injEq] at e
    subst e
    refine ⟨l, rfl, e5, .mk (tk := l.tk) (vs := l.ws) (e := l.e) ?_ ?_⟩
    · have := hl l (.head _)
      unfold Pl.obj at this
      rw [e2] at this
      exact this
    · rw [e3]
      exact (e4.mono fun _ _ q => hX _ q).append ho
  | l :: l2 :: ls, b :: b2 :: bs, o, ext, ⟨⟨e1, e2, ⟨ws, e3, e4⟩, e5, _⟩, r⟩, hl, ho, e => by
    simp only [plTree] at e
    have hnode : TreeIn Y (.ref l.a) (.node b.n (b.pre ++ ext)) := by
      refine .mk (tk := l.tk) (vs := l.ws) (e := l.e) ?_ ?_
      · have := hl l (.head _)
        unfold Pl.obj at this
        rw [e2] at this
        exact this
      · rw [e3]
        exact (e4.mono fun _ _ q => hX _ q).append ho
    obtain ⟨lz, h1, h2, h3⟩ := UpR.done hX r (fun l h => hl l (.tail _ h)) (.cons hnode .nil) e
    refine ⟨lz, ?_, h2, h3⟩
    rw [List.map_cons, List.reverse_cons, List.getElem?_append_left (by simp)]
    exact h1
  | [_], _ :: _ :: _, _, _, ⟨_, r⟩, _, _, _ => r.elim
  | _ :: _ :: _, [_], _, _, ⟨_, r⟩, _, _, _ => r.elim
theorem plRows_W : ∀ (rows : List (List Nat × Int)) (bs : List Ab), abW (plRows bs rows) ≤ abW bs + rows.length
  | [], _ => Nat.le_refl _
  | p :: r, bs => by
    have h1 := plRows_W r (plRow bs (scan p.1 [] 0 0 0) p.2)
    have h2 := plRow_W bs (scan p.1 [] 0 0 0) p.2
    show abW (plRows (plRow bs _ _) r) ≤ _
    rw [List.length_cons]
    lia
set_option maxHeartbeats 2000000 in
theorem unpaged_spec {prog : Program} {w : World} {mg mb : Str → Option Value} {f : Addr} {A : Around} {E : Value → Shared → Prop} {s : Shared} {t : T} {Q : Value → Shared → Prop} {Ra : Addr} {l : List (Str × Tok)} {e : Nat} {rows : List (List Nat × Int)}
    (hR : s.heap.get? Ra = some (lst (strValues l) e)) (hl : l.map (·.1) = rows.map fun p => sOf p.1) (hrows : ∀ p ∈ rows, p.1.length ≤ 1000 ∧ VOk (scan p.1 [] 0 0 0) ∧ tokIs (p.1.drop (scan p.1 [] 0 0 0).2.2.1) p.2)
    (hlen : rows.length ≤ 800) (ht : plTree (plRows [] rows) [] = some t) (hA : A.handled = none) (hD : A.depth + 8 < recursionLimit) (hu : A.units + 30 < cLine) (B : Base prog w mg mb s.heap) (hf : FnAt s.heap "_law_unpaged" (stA 74) f)
    (h : ∀ s' v X, Fresh s s' X → TreeIn X v t → Q v s') : wpAny (model prog w) A (call (.ref f) [.ref Ra]) Q E s := by
  obtain ⟨d, eT, TT⟩ := B.tokd
  refine x_call [(Str.ofString "rows", Value.ref Ra)] hf B (by lia) (List.cons_ne_nil _ _) (fun _ _ _ => rfl) rfl ?_
  intro s0 L cd _ F
  have hA' : (A.deeper (envOf "_law_unpaged" (dScope (stA 74)) L f cd)).handled = none := hA
  have hll : l.length = rows.length := by
    have := congrArg List.length hl
    simpa using this
  with_unfolding_all refine wpAny_execs_cons ?_
  walk_at "go"
  rename_i P _ _ _ s1 F1 _
  refine x_forList F1 hA' ?_
  walk_at "go"
  refine ⟨Ra, strValues l, e, _, _, fun i m₁ M₁ => ∃ eP ls X, M₁ = (P, lst (ls.map fun l => Value.ref l.tu).reverse eP) :: (ls.map Pl.obj ++ X) ∧ UpR X [] ls (plRows [] (rows.take i)) ∧ m₁ "pile" = some (.ref P), rfl, F1, ⟨_, [], [], rfl, trivial, rfl⟩, F1.kp _ _ hR, ?_, ?_, ?_⟩
  · rintro i m₁ M₁ Z s₁ _ F
    exact F.kp _ _ hR
  · rintro i v m₁ M₁ Z s₁ hv ⟨eP, ls, X, rfl, hU, hP⟩ F2
    obtain ⟨x, tx, hx, rfl⟩ : ∃ x tx, l[i]? = some (x, tx) ∧ v = .str x tx := by
      simp only [strValues, List.getElem?_map] at hv
      cases hq : l[i]? with
      | none => rw [hq] at hv; cases hv
      | some q => rw [hq] at hv; exact ⟨q.1, q.2, rfl, by simpa using hv.symm⟩
    obtain ⟨p, hp, rfl⟩ : ∃ p, rows[i]? = some p ∧ sOf p.1 = x := by
      have := congrArg (fun z => z[i]?) hl
      simp only [List.getElem?_map, hx, Option.map_some] at this
      cases hq : rows[i]? with
      | none => rw [hq] at this; cases this
      | some q => rw [hq] at this; exact ⟨q, rfl, by simpa using this.symm⟩
    obtain ⟨r1, r2, r3⟩ := hrows p (List.mem_of_getElem? hp)
    have hW : abW (plRows [] (rows.take i)) ≤ 900 := by
      have := plRows_W (rows.take i) []
      rw [List.length_take] at this
      simp only [abW] at this
      lia
    have htk : plRows [] (rows.take (i + 1)) = plRow (plRows [] (rows.take i)) (scan p.1 [] 0 0 0) p.2 := by
      rw [List.take_add_one, hp]
      simp [plRows, List.foldl_append]
    refine wpAny_mono (up_turn (d := d) B eT TT r1 r2 r3 hU hW hA (by lia) hu hP F2) (fun fl s₂ h₂ => ?_) fun _ _ e => e
    have nx : (∃ m₂ eP ls' X', FS s s.heap L m₂ (((P, lst (ls'.map fun l => Value.ref l.tu).reverse eP) :: (ls'.map Pl.obj ++ X')) ++ [Z]) s₂ ∧ UpR X' [] ls' (plRow (plRows [] (rows.take i)) (scan p.1 [] 0 0 0) p.2) ∧ m₂ "pile" = some (.ref P)) →
      ∃ m₂ M₂, FS s s.heap L m₂ (M₂ ++ [Z]) s₂ ∧ ∃ eP ls X, M₂ = (P, lst (ls.map fun l => Value.ref l.tu).reverse eP) :: (ls.map Pl.obj ++ X) ∧ UpR X [] ls (plRows [] (rows.take (i + 1))) ∧ m₂ "pile" = some (.ref P) := by
      rintro ⟨m₂, eP, ls', X', F3, hU3, hP3⟩
      exact ⟨m₂, _, F3, eP, ls', X', rfl, by rw [htk]; exact hU3, hP3⟩
    cases fl with
    | next => exact nx h₂
    | cont => exact nx h₂
    | brk => exact h₂.elim
    | ret v => exact h₂.elim
  · rintro m₁ M₁ s₁ ⟨eP, ls, X, rfl, hU, hP⟩ F2
    have hlv : (strValues l).length = rows.length := by simp [strValues, hll]
    rw [hlv, List.take_length] at hU
    walk_at "go"
    have F3 := ‹FS _ _ _ _ _ _›
    obtain ⟨lz, h1, h2, h3⟩ := UpR.done (Y := (P, lst (ls.map fun l => Value.ref l.tu).reverse eP) :: (ls.map Pl.obj ++ X)) (fun p hp => .tail _ (List.mem_append_right _ hp)) hU (fun l hl => .tail _ (List.mem_append_left _ (List.mem_map_of_mem hl))) .nil ht
    refine x_itemT (F3.get (.head _)) (by decide) (by decide) h1 ?_
    walk_at "go"
    have F4 := ‹FS _ _ _ _ _ _›
    refine x_itemTupH 1 (F4.get (.tail _ (List.mem_append_right _ h2))) rfl rfl (by decide) ?_
    exact h _ _ _ F4.fresh h3
/-! the plain law of the page: indents as runs -/
noncomputable def vOf (R : List Nat) (t : Nat) : V4 := (R.foldl cntStep [], t, R.sum + R.length + t, R.length)
noncomputable def mx : List Nat → Nat
  | [] => 0
  | r :: R => max (r + 1) (mx R)
noncomputable def sq (R : List Nat) (ts : Nat) : Nat := (R.map fun r => r / ts).sum
noncomputable def lv (R : List Nat) (t ts : Nat) : Nat := t + ts * (sq R ts + R.length)
theorem ext_getD {a b : List Int} (h : a.length = b.length) (k : ∀ i, a.getD i 0 = b.getD i 0) : a = b := by
  refine List.ext_getElem h fun i h1 h2 => ?_
  have := k i
  rw [List.getD_eq_getElem?_getD, List.getD_eq_getElem?_getD, List.getElem?_eq_getElem h1, List.getElem?_eq_getElem h2] at this
  simpa using this
theorem cntStep_len (c : List Int) (b : Nat) : (cntStep c b).length = max c.length (b + 1) := by
  unfold cntStep
  dsimp only
  rw [List.length_set]
  split
  · rw [List.length_append, List.length_replicate]; lia
  · lia
theorem getD_app (c : List Int) (k i : Nat) : (c ++ List.replicate k 0).getD i 0 = c.getD i 0 := by
  rw [List.getD_eq_getElem?_getD, List.getD_eq_getElem?_getD]
  by_cases h : i < c.length
  · rw [List.getElem?_append_left h]
  · rw [List.getElem?_append_right (by lia), List.getElem?_eq_none (l := c) (by lia), List.getElem?_replicate]
    split <;> rfl
theorem cntStep_get (c : List Int) (b i : Nat) : (cntStep c b).getD i 0 = c.getD i 0 + if b = i then 1 else 0 := by
  unfold cntStep
  dsimp only
  have key : ∀ c' : List Int, b < c'.length → (∀ j, c'.getD j 0 = c.getD j 0) → (c'.set b (c'.getD b 0 + 1)).getD i 0 = c.getD i 0 + if b = i then 1 else 0 := by
    intro c' hb hc
    rw [List.getD_eq_getElem?_getD, List.getElem?_set]
    by_cases h : b = i
    · subst h
      rw [if_pos rfl, if_pos rfl, if_pos hb, hc]
      rfl
    · rw [if_neg h, if_neg h, ← List.getD_eq_getElem?_getD, hc]
      lia
  split
  · exact key _ (by rw [List.length_append, List.length_replicate]; lia) fun j => getD_app _ _ _
  · exact key _ (by lia) fun _ => rfl
theorem cnt_len : ∀ (R : List Nat) (c : List Int), (R.foldl cntStep c).length = max c.length (mx R)
  | [], c => by simp [mx]
  | r :: R, c => by
    rw [List.foldl_cons, cnt_len R, cntStep_len, mx, Nat.max_assoc]
theorem cnt_get : ∀ (R : List Nat) (c : List Int) (i : Nat), (R.foldl cntStep c).getD i 0 = c.getD i 0 + (R.count i : Nat)
  | [], c, i => by simp
  | r :: R, c, i => by
    rw [List.foldl_cons, cnt_get R, cntStep_get, List.count_cons]
    by_cases h : r = i
    · subst h; simp; lia
    · simp [h]
theorem cnt_perm {R R' : List Nat} (h : R.Perm R') : R.foldl cntStep [] = R'.foldl cntStep [] := by
  refine ext_getD ?_ fun i => ?_
  · rw [cnt_len, cnt_len]
    have : mx R = mx R' := by
      induction h with
      | nil => rfl
      | cons x _ ih => simp [mx, ih]
      | swap x y l => exact Nat.max_left_comm _ _ _
      | trans _ _ a b => exact a.trans b
    rw [this]
  · rw [cnt_get, cnt_get, h.count_eq]
theorem cnt_inj {R R' : List Nat} (h : R.foldl cntStep [] = R'.foldl cntStep []) : R.Perm R' := by
  rw [List.perm_iff_count]
  intro i
  have h1 := cnt_get R [] i
  have h2 := cnt_get R' [] i
  rw [h] at h1
  have := h1.symm.trans h2
  simp at this
  lia
theorem vOf_perm {R R' : List Nat} {t : Nat} (h : R.Perm R') : vOf R t = vOf R' t := by
  unfold vOf
  rw [cnt_perm h, h.length_eq, h.sum_nat]
theorem mx_mem : ∀ {R : List Nat} {r : Nat}, r ∈ R → r < mx R
  | x :: R, r, h => by
    rcases List.mem_cons.mp h with rfl | h
    · simp only [mx]; lia
    · have := mx_mem h
      simp only [mx]; lia
theorem ilSum_step (c : List Int) (b ts : Nat) (hts : 1 ≤ ts) : ∀ N, ilSum (cntStep c b) ts N = ilSum c ts N + if b < ts + N then ((b / ts : Nat) : Int) else 0
  | 0 => by
    simp only [ilSum, List.range_zero, List.map_nil, List.sum_nil, Nat.add_zero, Int.zero_add]
    split
    · rename_i h
      rw [Nat.div_eq_of_lt h]
      rfl
    · rfl
  | N + 1 => by
    rw [ilSum_succ, ilSum_succ, ilSum_step c b ts hts N, cntStep_get, Int.mul_add]
    by_cases h : b = ts + N
    · subst h
      rw [if_pos rfl, if_neg (Nat.lt_irrefl _), if_pos (by lia)]
      lia
    · rw [if_neg h]
      by_cases h2 : b < ts + N
      · rw [if_pos h2, if_pos (by lia)]; lia
      · rw [if_neg h2, if_neg (by lia)]; lia
theorem ilSum_all (ts : Nat) (hts : 1 ≤ ts) (N : Nat) : ∀ (R : List Nat) (c : List Int), (∀ r ∈ R, r < ts + N) → ilSum (R.foldl cntStep c) ts N = ilSum c ts N + (sq R ts : Nat)
  | [], c, _ => by simp [sq]
  | r :: R, c, h => by
    rw [List.foldl_cons, ilSum_all ts hts N R _ (fun x hx => h x (.tail _ hx)), ilSum_step _ _ _ hts, if_pos (h r (.head _))]
    simp only [sq, List.map_cons, List.sum_cons]
    lia
theorem ilSum_nil (ts : Nat) : ∀ N, ilSum [] ts N = 0
  | 0 => rfl
  | N + 1 => by rw [ilSum_succ, ilSum_nil ts N]; simp
theorem lvl_vOf (R : List Nat) (t ts : Nat) (hts : 1 ≤ ts) : wLvl (vOf R t) ts = (lv R t ts : Nat) := by
  unfold wLvl vOf lv
  dsimp only
  rw [ilSum_all ts hts _ R [] (fun r hr => ?_), ilSum_nil]
  · push_cast
    rw [Int.zero_add]
  · have := mx_mem hr
    rw [cnt_len]
    simp
    lia
theorem long_vOf (R : List Nat) (t : Nat) : wLong (vOf R t) = max ((mx R : Int) - 1) t := by
  unfold wLong vOf
  dsimp only
  rw [cnt_len]
  simp
theorem sq_one : ∀ R : List Nat, sq R 1 = R.sum
  | [] => rfl
  | r :: R => by
    have := sq_one R
    simp only [sq, List.map_cons, List.sum_cons, Nat.div_one] at this ⊢
    lia
theorem n_vOf (R : List Nat) (t : Nat) : (vOf R t).2.2.1 = lv R t 1 := by
  unfold vOf lv
  rw [sq_one]
  dsimp only
  lia
theorem sq_app (R R' : List Nat) (ts : Nat) : sq (R ++ R') ts = sq R ts + sq R' ts := by unfold sq; rw [List.map_append, List.sum_append]
theorem sq_zero (k ts : Nat) : sq (List.replicate k 0) ts = 0 := by unfold sq; simp
def Dp (R : List Nat) (t : Nat) (R' : List Nat) (t' : Nat) : Prop := R.length ≤ R'.length ∧ ∀ ts, 1 ≤ ts → lv R t ts < lv R' t' ts
theorem Dp.trans {R R' R'' : List Nat} {t t' t'' : Nat} (a : Dp R t R' t') (b : Dp R' t' R'' t'') : Dp R t R'' t'' := ⟨Nat.le_trans a.1 b.1, fun ts h => Nat.lt_trans (a.2 ts h) (b.2 ts h)⟩
theorem Dp.less {R R' : List Nat} {t t' : Nat} (a : Dp R t R' t') : wLess (vOf R t) (vOf R' t') = true := by
  unfold wLess
  rw [if_neg (by rw [n_vOf, n_vOf]; have := a.2 1 (Nat.le_refl _); lia)]
  split
  · exact decide_eq_true a.1
  · rw [List.all_eq_true]
    intro i _
    have := a.2 (2 + i) (by lia)
    rw [lvl_vOf _ _ _ (by lia), lvl_vOf _ _ _ (by lia)]
    exact decide_eq_true (by lia)
theorem simple_vOf (R : List Nat) (t : Nat) : (vOf R t).1.length ≤ 1 ↔ mx R ≤ 1 := by
  show (R.foldl cntStep []).length ≤ 1 ↔ _
  rw [cnt_len]
  simp
theorem not_less {R R' : List Nat} {t t' : Nat} (h : lv R' t' 1 ≤ lv R t 1 ∨ ∃ ts, 2 ≤ ts ∧ (ts ≤ mx R' ∨ ts ≤ 1 + t') ∧ lv R' t' ts ≤ lv R t ts ∧ (mx R' ≤ 1 → R'.length < R.length)) : wLess (vOf R t) (vOf R' t') = false := by
  unfold wLess
  rw [n_vOf, n_vOf]
  split
  · rfl
  · rename_i h1
    rcases h with h | ⟨ts, h2, h3, h4, h5⟩
    · exact absurd h h1
    · split
      · rename_i h6
        rw [simple_vOf, simple_vOf] at h6
        exact decide_eq_false (by have := h5 h6.2; show ¬ R.length ≤ R'.length; lia)
      · rw [List.all_eq_false]
        refine ⟨ts - 2, List.mem_range.mpr ?_, ?_⟩
        · rw [long_vOf, long_vOf]
          have e : (ts : Int) - 1 ≤ max ((mx R' : Int) - 1) t' := by
            rcases h3 with h3 | h3
            · exact Int.le_trans (by lia) (Int.le_max_left _ _)
            · exact Int.le_trans (by lia) (Int.le_max_right _ _)
          have e2 := Int.le_trans e (Int.le_max_right (max ((mx R : Int) - 1) t) _)
          generalize max (max ((mx R : Int) - 1) (t : Int)) (max ((mx R' : Int) - 1) (t' : Int)) = m at e2 ⊢
          clear e h3 h4 h5 h1
          lia
        · rw [show 2 + (ts - 2) = ts by lia, lvl_vOf _ _ _ (by lia), lvl_vOf _ _ _ (by lia)]
          simp
          lia
theorem eq_lv {R R' : List Nat} {t t' : Nat} (h : wEq (vOf R t) (vOf R' t') = true) : R.length = R'.length ∧ ∀ ts, lv R t ts = lv R' t' ts := by
  unfold wEq at h
  rw [Bool.and_eq_true, decide_eq_true_eq, decide_eq_true_eq] at h
  have p := cnt_inj h.1
  refine ⟨p.length_eq, fun ts => ?_⟩
  have h2 : t = t' := h.2
  unfold lv
  rw [h2, p.length_eq]
  have : sq R ts = sq R' ts := (p.map _).sum_nat
  rw [this]
/-! children and siblings -/
theorem sq_one1 (x ts : Nat) : sq [x] ts = x / ts := by simp [sq]
theorem lv_app (R : List Nat) (x t ts : Nat) : lv (R ++ [x]) t ts = t + ts * (sq R ts + x / ts + R.length + 1) := by
  unfold lv
  rw [sq_app, sq_one1, List.length_append, List.length_singleton, Nat.add_assoc, Nat.add_assoc, Nat.add_assoc]
theorem lv_zeros (R : List Nat) (k t ts : Nat) : lv (R ++ List.replicate k 0) t ts = t + ts * (sq R ts + R.length + k) := by
  unfold lv
  rw [sq_app, sq_zero, List.length_append, List.length_replicate, Nat.add_zero, Nat.add_assoc]
theorem mx_app : ∀ (R R' : List Nat), mx (R ++ R') = max (mx R) (mx R')
  | [], R' => by simp [mx]
  | r :: R, R' => by
    rw [List.cons_append, mx, mx, mx_app R R', Nat.max_assoc]
theorem child_deeper {kd many s t : Nat} {R : List Nat} (hs : s + 1 ≤ many) : Dp R t (inn kd many R t s).1 (inn kd many R t s).2 := by
  unfold inn
  have base : ∀ ts, lv R t ts = t + ts * (sq R ts + R.length) := fun _ => rfl
  have dm : ∀ x ts, 1 ≤ ts → x < ts * (x / ts + 1) := fun x ts h => Nat.lt_mul_div_succ x h
  split
  · refine ⟨by simp, fun ts h => ?_⟩
    dsimp only
    rw [base, lv_app]
    have := dm (t + s) ts h
    have e : ts * (sq R ts + (t + s) / ts + R.length + 1) = ts * (sq R ts + R.length) + ts * ((t + s) / ts + 1) := by rw [← Nat.mul_add]; congr 1; lia
    lia
  · split
    · refine ⟨by simp only [List.length_append]; lia, fun ts h => ?_⟩
      dsimp only
      have e0 : lv (R ++ [t] ++ List.replicate (many - 1 - s) 0) (2 * s) ts = 2 * s + ts * (sq R ts + t / ts + R.length + 1 + (many - 1 - s)) := by
        rw [lv_zeros, sq_app, sq_one1, List.length_append, List.length_singleton]
        congr 2
      rw [base, e0]
      have := dm t ts h
      have e : ts * (sq R ts + t / ts + R.length + 1 + (many - 1 - s)) = ts * (sq R ts + R.length) + ts * (t / ts + 1) + ts * (many - 1 - s) := by rw [← Nat.mul_add, ← Nat.mul_add]; congr 1; lia
      lia
    · split
      · refine ⟨by simp, fun ts h => ?_⟩
        dsimp only
        rw [base, lv_app]
        have e : ts * (sq R ts + (1 + s) / ts + R.length + 1) = ts * (sq R ts + R.length) + ts * ((1 + s) / ts) + ts := by rw [← Nat.mul_add, ← Nat.mul_succ]; congr 1; lia
        lia
      · refine ⟨by simp, fun ts h => ?_⟩
        dsimp only
        rw [base, lv_zeros, Nat.mul_add ts (sq R ts + R.length)]
        lia
/-- a sibling behind, whose shift is one more: is it less than none of those that lie behind the one ahead -/
theorem sib {kd many s t : Nat} {R : List Nat} (hs : s + 2 ≤ many) {D : List Nat} {td : Nat} (h1 : (inn kd many R t s).1.length ≤ D.length) (h2 : ∀ ts, 1 ≤ ts → lv (inn kd many R t s).1 (inn kd many R t s).2 ts ≤ lv D td ts) :
    wLess (vOf D td) (vOf (inn kd many R t (s + 1)).1 (inn kd many R t (s + 1)).2) = false := by
  refine not_less ?_
  unfold inn at *
  by_cases k0 : kd = 0
  · simp only [k0, if_true] at *
    refine .inr ⟨t + s + 2, by lia, .inl ?_, Nat.le_trans ?_ (h2 (t + s + 2) (by lia)), fun h => ?_⟩
    · rw [mx_app]; simp only [mx]; lia
    · rw [lv_app, lv_app, Nat.div_eq_of_lt (a := t + (s + 1)) (by lia), Nat.div_eq_of_lt (a := t + s) (by lia)]
      exact Nat.le_refl _
    · rw [mx_app] at h; simp only [mx] at h; lia
  · simp only [if_neg k0] at *
    by_cases k1 : kd = 1
    · simp only [k1, if_true] at *
      refine .inr ⟨2, by lia, .inr (by lia), Nat.le_trans ?_ (h2 2 (by lia)), fun _ => ?_⟩
      · rw [lv_zeros, lv_zeros]
        lia
      · simp only [List.length_append, List.length_replicate, List.length_singleton] at h1 ⊢
        lia
    · simp only [if_neg k1] at *
      by_cases k2 : kd = 2
      · simp only [k2, if_true] at *
        refine .inr ⟨s + 3, by lia, .inl ?_, Nat.le_trans ?_ (h2 (s + 3) (by lia)), fun h => ?_⟩
        · rw [mx_app]; simp only [mx]; lia
        · rw [lv_app, lv_app, Nat.div_eq_of_lt (a := 1 + (s + 1)) (by lia), Nat.div_eq_of_lt (a := 1 + s) (by lia)]
          exact Nat.le_refl _
        · rw [mx_app] at h; simp only [mx] at h; lia
      · simp only [if_neg k2] at *
        refine .inl (Nat.le_trans ?_ (h2 1 (Nat.le_refl _)))
        rw [lv_zeros, lv_zeros]
        lia
theorem sib_eq {kd many s t : Nat} {R : List Nat} (hs : s + 2 ≤ many) : (∃ ts, 1 ≤ ts ∧ lv (inn kd many R t s).1 (inn kd many R t s).2 ts = lv (inn kd many R t (s + 1)).1 (inn kd many R t (s + 1)).2 ts) ∧
    wEq (vOf (inn kd many R t s).1 (inn kd many R t s).2) (vOf (inn kd many R t (s + 1)).1 (inn kd many R t (s + 1)).2) = false := by
  refine ⟨?_, Bool.eq_false_iff.mpr fun h => ?_⟩
  · unfold inn
    by_cases k0 : kd = 0
    · simp only [k0, if_true]
      refine ⟨t + s + 2, by lia, ?_⟩
      rw [lv_app, lv_app, Nat.div_eq_of_lt (a := t + (s + 1)) (by lia), Nat.div_eq_of_lt (a := t + s) (by lia)]
    · simp only [if_neg k0]
      by_cases k1 : kd = 1
      · simp only [k1, if_true]
        refine ⟨2, by lia, ?_⟩
        rw [lv_zeros, lv_zeros]
        lia
      · simp only [if_neg k1]
        by_cases k2 : kd = 2
        · simp only [k2, if_true]
          refine ⟨s + 3, by lia, ?_⟩
          rw [lv_app, lv_app, Nat.div_eq_of_lt (a := 1 + (s + 1)) (by lia), Nat.div_eq_of_lt (a := 1 + s) (by lia)]
        · simp only [if_neg k2]
          refine ⟨1, Nat.le_refl _, ?_⟩
          rw [lv_zeros, lv_zeros]
          lia
  · obtain ⟨e1, e2⟩ := eq_lv h
    have e3 := e2 1
    unfold inn at e1 e3
    by_cases k0 : kd = 0
    · simp only [k0, if_true] at e1 e3
      rw [lv_app, lv_app] at e3
      simp only [Nat.div_one] at e3
      lia
    · simp only [if_neg k0] at e1 e3
      by_cases k1 : kd = 1
      · simp only [k1, if_true] at e1 e3
        simp only [List.length_append, List.length_replicate, List.length_singleton] at e1
        lia
      · simp only [if_neg k1] at e1 e3
        by_cases k2 : kd = 2
        · simp only [k2, if_true] at e1 e3
          rw [lv_app, lv_app] at e3
          simp only [Nat.div_one] at e3
          lia
        · simp only [if_neg k2] at e1 e3
          simp only [List.length_append, List.length_replicate] at e1
          lia
/-- the same for one of the same shift -/
theorem same_less {R D : List Nat} {t td : Nat} (h2 : ∀ ts, 1 ≤ ts → lv R t ts ≤ lv D td ts) : wLess (vOf D td) (vOf R t) = false := not_less (.inl (h2 1 (Nat.le_refl _)))
theorem wEq_self (v : V4) : wEq v v = true := by simp [wEq]
theorem deep_ne {R R' D : List Nat} {t t' td : Nat} (hD : Dp R t D td) (h : ∃ ts, 1 ≤ ts ∧ lv R t ts = lv R' t' ts) : wEq (vOf D td) (vOf R' t') = false := by
  refine Bool.eq_false_iff.mpr fun h2 => ?_
  obtain ⟨ts, h3, h4⟩ := h
  have := (eq_lv h2).2 ts
  have := hD.2 ts h3
  lia
/-! the pile of a page's rows -/
inductive Ch (R : List Nat) (t : Nat) : List Ab → List T → T → Prop
  | one {n : Int} {pre ext : List T} : Ch R t [⟨vOf R t, n, pre⟩] ext (.node n (pre ++ ext))
  | cons {R' : List Nat} {t' : Nat} {n : Int} {pre ext : List T} {ls : List Ab} {τ : T} : Dp R t R' t' → Ch R t ls [.node n (pre ++ ext)] τ → Ch R t (⟨vOf R' t', n, pre⟩ :: ls) ext τ
theorem Ch.ne {R : List Nat} {t : Nat} {ls : List Ab} {ext : List T} {τ : T} : Ch R t ls ext τ → ls ≠ []
  | .one => by simp
  | .cons _ _ => by simp
theorem Ch.tree {R : List Nat} {t : Nat} : ∀ {ls : List Ab} {ext : List T} {τ : T}, Ch R t ls ext τ → plTree ls ext = some τ
  | _, _, _, .one => rfl
  | _ :: [], _, _, .cons _ h => absurd rfl h.ne
  | _ :: _ :: _, _, _, .cons _ h => h.tree
theorem Ch.up {R R' : List Nat} {t t' : Nat} {n : Int} {pre : List T} (hD : Dp R t R' t') : ∀ {ls : List Ab} {ext : List T} {τ : T}, Ch R' t' ls ext τ → Ch R t (ls ++ [⟨vOf R t, n, pre⟩]) ext (.node n (pre ++ [τ]))
  | _, _, _, .one => .cons hD .one
  | _, _, _, .cons h k => .cons (hD.trans h) (k.up hD)
theorem Ch.pop {R : List Nat} {t : Nat} {v : V4} {r : List Ab} (hl0 : wLess (vOf R t) v = false) (hl : ∀ R' t', Dp R t R' t' → wLess (vOf R' t') v = false) (he : ∀ R' t', Dp R t R' t' → wEq (vOf R' t') v = false) :
    ∀ {ls : List Ab} {ext : List T} {τ : T} {acc : Int}, Ch R t ls ext τ → plPop v (ls ++ r) ext acc = plPop v r [τ] (acc + if wEq (vOf R t) v then τ.num else 0)
  | _, _, _, _, .one => by
    rw [List.singleton_append, plPop, hl0]
    rfl
  | _, _, _, _, .cons h k => by
    rw [List.cons_append, plPop, hl _ _ h, he _ _ h]
    simp only [Bool.false_eq_true, if_false, Int.add_zero]
    exact Ch.pop hl0 hl he k
noncomputable def plRA (bs : List Ab) (rows : List (V4 × Int)) : List Ab := rows.foldl (fun bs p => plRow bs p.1 p.2) bs
theorem plRA_app (bs : List Ab) (a b : List (V4 × Int)) : plRA bs (a ++ b) = plRA (plRA bs a) b := by simp [plRA, List.foldl_append]
theorem plRA_cons (bs : List Ab) (p : V4 × Int) (b : List (V4 × Int)) : plRA bs (p :: b) = plRA (plRow bs p.1 p.2) b := rfl
noncomputable def rnP (last : Int) (c : T) : Int := if c.num = last then 0 else c.num
mutual
noncomputable def pgTA (K : Nat) : T → List Nat → Nat → Int → Nat → List (V4 × Int)
  | .node _ cs, R, t, rn, i => (vOf R t, rn) :: pgCA K (K / 4 ^ i % 4) cs.length R t cs 0 0 (i + 1)
noncomputable def pgCA (K kd many : Nat) (R : List Nat) (t : Nat) : List T → Nat → Int → Nat → List (V4 × Int)
  | [], _, _, _ => []
  | c :: cs, s, last, i => pgTA K c (inn kd many R t (shf s last c)).1 (inn kd many R t (shf s last c)).2 (rnP last c) i ++ pgCA K kd many R t cs (shf s last c) c.num (i + c.size)
end
theorem pop_top {R R' : List Nat} {t t' : Nat} {n acc : Int} {pre ext : List T} {r : List Ab} (hD : Dp R t R' t') : plPop (vOf R' t') (⟨vOf R t, n, pre⟩ :: r) ext acc = (⟨vOf R t, n, pre ++ ext⟩ :: r, acc) := by
  rw [plPop, hD.less]
  rfl
theorem shf_le {s : Nat} {last : Int} {c : T} : shf s last c = s ∨ shf s last c = s + 1 := by unfold shf; split <;> simp
mutual
theorem sub_rows (K : Nat) {r : List Ab} : ∀ (c : T) (R : List Nat) (t i : Nat), c.ok → ∃ ls, plRA (⟨vOf R t, c.num, []⟩ :: r) ((pgTA K c R t 0 i).drop 1) = ls ++ r ∧ Ch R t ls [] c
  | .node n cs, R, t, i, ok => by
    have h := kid_rows K (kd := K / 4 ^ i % 4) (many := cs.length) (R := R) (t := t) (n := n) (r := r) cs 0 0 (i + 1) [] [] [] ok.2 (by rw [if_pos rfl]; lia) (.inl ⟨rfl, rfl, rfl, rfl⟩)
    obtain ⟨ls, h1, h2⟩ := h
    refine ⟨ls, ?_, by simpa using h2⟩
    rw [← h1]
    simp [pgTA, T.num]
theorem kid_rows (K : Nat) {kd many : Nat} {R : List Nat} {t : Nat} {n : Int} {r : List Ab} : ∀ (cs : List T) (s : Nat) (last : Int) (i : Nat) (ls0 : List Ab) (pre prev : List T), T.oks cs → s + 1 + cs.length ≤ many + (if last = 0 then 1 else 0) →
    ((ls0 = [] ∧ prev = [] ∧ last = 0 ∧ s = 0) ∨ (∃ c', prev = [c'] ∧ c'.num = last ∧ last ≠ 0 ∧ Ch (inn kd many R t s).1 (inn kd many R t s).2 ls0 [] c')) →
    ∃ ls, plRA (ls0 ++ (⟨vOf R t, n, pre⟩ :: r)) (pgCA K kd many R t cs s last i) = ls ++ r ∧ Ch R t ls [] (.node n (pre ++ prev ++ cs))
  | [], s, last, i, ls0, pre, prev, _, hs, h => by
    rcases h with ⟨rfl, rfl, rfl, _⟩ | ⟨c', rfl, hn, hl, hC⟩
    · refine ⟨[⟨vOf R t, n, pre⟩], by simp [pgCA, plRA], ?_⟩
      simpa using Ch.one (R := R) (t := t) (n := n) (pre := pre) (ext := [])
    · rw [if_neg hl] at hs
      refine ⟨ls0 ++ [⟨vOf R t, n, pre⟩], by simp [pgCA, plRA], ?_⟩
      have := hC.up (n := n) (pre := pre) (child_deeper (by simp at hs; lia))
      simpa using this
  | c :: cs, s, last, i, ls0, pre, prev, ok, hs, h => by
    have hc0 : c.num ≠ 0 := by
      cases c
      exact (menu_no _ ok.1.1).2.2
    have hsl : shf s last c + 1 ≤ many := by
      unfold shf
      rw [List.length_cons] at hs
      by_cases hl : last = 0
      · rw [if_pos (.inl hl)]; rw [if_pos hl] at hs; lia
      · rw [if_neg hl] at hs
        split <;> lia
    obtain ⟨R', hR'⟩ : ∃ R', R' = (inn kd many R t (shf s last c)).1 := ⟨_, rfl⟩
    obtain ⟨t', ht'⟩ : ∃ t', t' = (inn kd many R t (shf s last c)).2 := ⟨_, rfl⟩
    have hD : Dp R t R' t' := by rw [hR', ht']; exact child_deeper hsl
    have first : plRow (ls0 ++ (⟨vOf R t, n, pre⟩ :: r)) (vOf R' t') (rnP last c) = ⟨vOf R' t', c.num, []⟩ :: ⟨vOf R t, n, pre ++ prev⟩ :: r := by
      rcases h with ⟨rfl, rfl, rfl, _⟩ | ⟨c', rfl, hn, hl, hC⟩
      · rw [List.nil_append]
        unfold plRow
        rw [pop_top hD]
        unfold rnP
        rw [if_neg hc0]
      · unfold plRow
        have hsame : c.num = last → shf s last c = s := fun q => by unfold shf; rw [if_pos (.inr q.symm)]
        have hdiff : c.num ≠ last → shf s last c = s + 1 := fun q => by unfold shf; rw [if_neg (fun z => z.elim hl fun e => q e.symm)]
        by_cases q : c.num = last
        · rw [hsame q] at hR' ht'
          rw [hC.pop (v := vOf R' t') (by rw [hR', ht']; exact same_less fun _ _ => Nat.le_refl _) (fun R2 t2 d => by rw [hR', ht']; exact same_less fun ts h => Nat.le_of_lt (d.2 ts h))
            (fun R2 t2 d => by rw [hR', ht']; exact deep_ne d ⟨1, Nat.le_refl _, rfl⟩), pop_top hD]
          have e : (rnP last c + if wEq (vOf (inn kd many R t s).1 (inn kd many R t s).2) (vOf R' t') = true then c'.num else 0) = c.num := by
            rw [hR', ht', wEq_self, if_pos rfl]
            unfold rnP
            rw [if_pos q, hn, q]
            lia
          rw [e]
        · rw [hdiff q] at hR' ht' hsl
          have hs2 : s + 2 ≤ many := by lia
          obtain ⟨s1, s2⟩ := sib_eq (kd := kd) (t := t) (R := R) hs2
          rw [hC.pop (v := vOf R' t') (by rw [hR', ht']; exact sib hs2 (Nat.le_refl _) fun _ _ => Nat.le_refl _) (fun R2 t2 d => by rw [hR', ht']; exact sib hs2 d.1 fun ts h => Nat.le_of_lt (d.2 ts h))
            (fun R2 t2 d => by rw [hR', ht']; exact deep_ne d s1), pop_top hD]
          have e : (rnP last c + if wEq (vOf (inn kd many R t s).1 (inn kd many R t s).2) (vOf R' t') = true then c'.num else 0) = c.num := by
            rw [hR', ht', s2, if_neg Bool.false_ne_true]
            unfold rnP
            rw [if_neg q]
            lia
          rw [e]
    obtain ⟨ls1, e1, C1⟩ := sub_rows K (r := ⟨vOf R t, n, pre ++ prev⟩ :: r) c R' t' i ok.1
    have hT : pgTA K c R' t' (rnP last c) i = (vOf R' t', rnP last c) :: (pgTA K c R' t' 0 i).drop 1 := by
      cases c
      simp [pgTA]
    obtain ⟨ls, e2, C2⟩ := kid_rows K (kd := kd) (many := many) (R := R) (t := t) (n := n) (r := r) cs (shf s last c) c.num (i + c.size) ls1 (pre ++ prev) [c] ok.2 (by
      rw [if_neg hc0]
      rw [List.length_cons] at hs
      unfold shf
      by_cases hl : last = 0
      · rw [if_pos (.inl hl)]; rw [if_pos hl] at hs; lia
      · rw [if_neg hl] at hs
        split <;> lia) (.inr ⟨c, rfl, rfl, hc0, by rw [← hR', ← ht']; exact C1⟩)
    refine ⟨ls, ?_, by simpa using C2⟩
    rw [← e2, ← e1]
    rw [pgCA, plRA_app, ← hR', ← ht', hT, plRA_cons, first]
end
theorem page_tree (K : Nat) (t : T) (ht : t.ok) (R : List Nat) (tl : Nat) : plTree (plRA [] (pgTA K t R tl t.num 0)) [] = some t := by
  obtain ⟨ls, e, C⟩ := sub_rows K (r := []) t R tl 0 ht
  have hT : pgTA K t R tl t.num 0 = (vOf R tl, t.num) :: (pgTA K t R tl 0 0).drop 1 := by
    cases t
    simp [pgTA]
  rw [hT, plRA_cons]
  rw [List.append_nil] at e
  rw [show plRow [] (vOf R tl) t.num = [⟨vOf R tl, t.num, []⟩] from rfl, e]
  exact C.tree
/-! the rows as text -/
theorem scan_run : ∀ (r : Nat) (c : List Int) (b n nt : Nat) (rest : List Nat), scan (List.replicate r 32 ++ rest) c b n nt = scan rest c (b + r) (n + r) nt
  | 0, _, _, _, _, _ => rfl
  | r + 1, c, b, n, nt, rest => by
    rw [List.replicate_succ, List.cons_append, scan, if_pos rfl, scan_run r]
    congr 1 <;> lia
theorem scan_runs : ∀ (R : List Nat) (c : List Int) (n nt : Nat) (rest : List Nat), scan ((R.map fun r => List.replicate r 32 ++ [9]).flatten ++ rest) c 0 n nt = scan rest (R.foldl cntStep c) 0 (n + R.sum + R.length) (nt + R.length)
  | [], _, _, _, _ => rfl
  | r :: R, c, n, nt, rest => by
    rw [List.map_cons, List.flatten_cons, List.append_assoc, List.append_assoc, scan_run, List.singleton_append, scan, if_neg (by decide), if_pos rfl, scan_runs R, List.foldl_cons, List.sum_cons, List.length_cons, Nat.zero_add]
    congr 1 <;> lia
def sgOk (sg : List Nat) (rn : Int) : Prop := (sg = [] ∧ rn = 0) ∨ (rn ∈ menu ∧ sg = sgnL rn)
theorem sgn_head (n : Int) (hn : n ∈ menu) : ∃ c r, sgnL n = c :: r ∧ c ≠ 32 ∧ c ≠ 9 := by
  have h : ∀ n ∈ menu, ((sgnL n).head?.map fun c => c != 32 && c != 9) = some true := by decide +kernel
  have h := h n hn
  cases e : sgnL n with
  | nil => rw [e] at h; cases h
  | cons c r =>
    rw [e] at h
    simp at h
    exact ⟨c, r, rfl, h⟩
theorem scan_end {sg : List Nat} {rn : Int} (h : sgOk sg rn) (c : List Int) (b n nt : Nat) : scan sg c b n nt = (c, b, n, nt) := by
  rcases h with ⟨rfl, _⟩ | ⟨hm, rfl⟩
  · rfl
  · obtain ⟨ch, r, e, h1, h2⟩ := sgn_head rn hm
    rw [e, scan, if_neg h1, if_neg h2]
theorem rot_perm (R : List Nat) (q : Nat) : (R.drop q ++ R.take q).Perm R := by
  have := List.perm_append_comm (l₁ := R.drop q) (l₂ := R.take q)
  rw [List.take_append_drop] at this
  exact this
theorem lead_len (R : List Nat) (t i : Nat) : (pgLead R t i).length = R.sum + R.length + t := by
  unfold pgLead
  rw [List.length_append, flat_len, List.length_replicate, rot_sum, (rot_perm R _).length_eq]
theorem scan_row {R : List Nat} {t i : Nat} {sg : List Nat} {rn : Int} (h : sgOk sg rn) : scan (pgLead R t i ++ sg) [] 0 0 0 = vOf R t := by
  rw [← vOf_perm (t := t) (rot_perm R (i % (R.length + 1)))]
  unfold pgLead
  rw [List.append_assoc, scan_runs, scan_run, scan_end h]
  unfold vOf
  simp
theorem row_ok {R : List Nat} {t i : Nat} {sg : List Nat} {rn : Int} (h : sgOk sg rn) (hb : R.length + R.sum + t ≤ 900) : (pgLead R t i ++ sg).length ≤ 1000 ∧ VOk (scan (pgLead R t i ++ sg) [] 0 0 0) ∧ tokIs ((pgLead R t i ++ sg).drop (scan (pgLead R t i ++ sg) [] 0 0 0).2.2.1) rn := by
  rw [scan_row h, show (vOf R t).2.2.1 = R.sum + R.length + t from rfl, ← lead_len R t i, List.drop_left]
  refine ⟨?_, ⟨?_, by show t ≤ _; lia⟩, ?_⟩
  · rw [List.length_append, lead_len]
    rcases h with ⟨rfl, _⟩ | ⟨hm, rfl⟩
    · simp; lia
    · have := sgnL_len rn hm
      lia
  · show (R.foldl cntStep []).length ≤ _
    rw [cnt_len]
    have : mx R ≤ R.sum + 1 := by
      clear hb h
      induction R with
      | nil => simp [mx]
      | cons x R ih => simp only [mx, List.sum_cons]; lia
    simp
    lia
  · unfold tokIs
    rcases h with ⟨rfl, rfl⟩ | ⟨hm, rfl⟩
    · rw [tok_nil]
      rfl
    · rw [tok_sgn _ hm]
      rfl
def RowsIs (a : List (List Nat)) (b : List (V4 × Int)) : Prop := ∃ rows : List (List Nat × Int), rows.map (·.1) = a ∧ (rows.map fun p => (scan p.1 [] 0 0 0, p.2)) = b ∧ ∀ p ∈ rows, p.1.length ≤ 1000 ∧ VOk (scan p.1 [] 0 0 0) ∧ tokIs (p.1.drop (scan p.1 [] 0 0 0).2.2.1) p.2
theorem RowsIs.nil : RowsIs [] [] := ⟨[], rfl, rfl, by simp⟩
theorem RowsIs.app {a a' : List (List Nat)} {b b' : List (V4 × Int)} : RowsIs a b → RowsIs a' b' → RowsIs (a ++ a') (b ++ b')
  | ⟨x, h1, h2, h3⟩, ⟨y, k1, k2, k3⟩ => ⟨x ++ y, by rw [List.map_append, h1, k1], by rw [List.map_append, h2, k2], fun p hp => (List.mem_append.mp hp).elim (h3 p) (k3 p)⟩
theorem RowsIs.one {R : List Nat} {t i : Nat} {sg : List Nat} {rn : Int} (h : sgOk sg rn) (hb : R.length + R.sum + t ≤ 900) : RowsIs [pgLead R t i ++ sg] [(vOf R t, rn)] :=
  ⟨[(pgLead R t i ++ sg, rn)], rfl, by simp [scan_row h], fun p hp => by rw [List.mem_singleton.mp hp]; exact row_ok h hb⟩
theorem sgP_ok {last : Int} {c : T} (h : c.ok) : sgOk (sgP last c) (rnP last c) := by
  unfold sgP rnP
  split
  · exact .inl ⟨rfl, rfl⟩
  · cases c
    exact .inr ⟨h.1, rfl⟩
mutual
theorem rows_T (K : Nat) : ∀ (c : T) (R : List Nat) (t : Nat) (sg : List Nat) (rn : Int) (i : Nat), c.ok → sgOk sg rn → R.length + R.sum + t + 2 * c.size ≤ 900 → RowsIs (pgT K c R t sg i) (pgTA K c R t rn i)
  | .node n cs, R, t, sg, rn, i, ok, h, hb => by
    simp only [T.size] at hb
    rw [pgT, pgTA]
    exact (RowsIs.one h (by lia)).app (rows_C K cs 0 0 (i + 1) ok.2 (by rw [if_pos rfl]; lia) (fun c hc => by
      obtain ⟨j, hj⟩ := List.getElem?_of_mem hc
      have := sizes_get2 hj
      lia))
theorem rows_C (K : Nat) {kd many : Nat} {R : List Nat} {t : Nat} : ∀ (cs : List T) (s : Nat) (last : Int) (i : Nat), T.oks cs → s + 1 + cs.length ≤ many + (if last = 0 then 1 else 0) → (∀ c ∈ cs, R.length + R.sum + t + 2 * many + 2 * c.size ≤ 900) → RowsIs (pgC K kd many R t cs s last i) (pgCA K kd many R t cs s last i)
  | [], _, _, _, _, _, _ => RowsIs.nil
  | c :: cs, s, last, i, ok, hs, hb => by
    have hc0 : c.num ≠ 0 := by
      cases c
      exact (menu_no _ ok.1.1).2.2
    rw [List.length_cons] at hs
    have hsl : shf s last c + 1 ≤ many ∧ shf s last c + 1 + cs.length ≤ many := by
      unfold shf
      by_cases hl : last = 0
      · rw [if_pos (.inl hl)]; rw [if_pos hl] at hs; lia
      · rw [if_neg hl] at hs
        split <;> lia
    rw [pgC, pgCA]
    have := inn_ok (kd := kd) (R := R) (t := t) hsl.1
    have := hb c (.head _)
    exact (rows_T K c _ _ _ _ i ok.1 (sgP_ok ok.1) (by lia)).app (rows_C K cs _ _ _ ok.2 (by rw [if_neg hc0]; lia) fun c hc => hb c (.tail _ hc))
end
theorem page_back (K : Nat) (t : T) (ht : t.ok) (R : List Nat) (tl : Nat) (hb : R.length + R.sum + tl + 2 * t.size ≤ 900) : ∃ rows : List (List Nat × Int), rows.map (·.1) = pgT K t R tl (sgnL t.num) 0 ∧ (∀ p ∈ rows, p.1.length ≤ 1000 ∧ VOk (scan p.1 [] 0 0 0) ∧ tokIs (p.1.drop (scan p.1 [] 0 0 0).2.2.1) p.2) ∧ plTree (plRows [] rows) [] = some t := by
  obtain ⟨rows, h1, h2, h3⟩ := rows_T K t R tl (sgnL t.num) t.num 0 ht (.inr ⟨by cases t; exact ht.1, rfl⟩) hb
  refine ⟨rows, h1, h3, ?_⟩
  have e : plRows [] rows = plRA [] (rows.map fun p => (scan p.1 [] 0 0 0, p.2)) := by
    unfold plRows plRA
    rw [List.foldl_map]
  rw [e, h2]
  exact page_tree K t ht R tl
/-! the ways joined -/
section
open PySem.SeqAt (EqAt RcAt RcNeAt)
variable {prog : Program} {w : World} {A : Around} {E : Value → Shared → Prop} {g s s' : Shared} {L a : Addr} {h₀ : Heap} {m mg mb : Str → Option Value} {M M' : List (Addr × Obj)}
theorem kids_eq {n : Int} {tk tk' : Tok} {vs ws : List Value} {cs : List T} (h1 : TreesAt s.heap vs cs) (h2 : TreesAt s.heap ws cs) (k : ∀ (c : T) (v v' : Value), c ∈ cs → TreeAt s.heap v c → TreeAt s.heap v' c → EqAt A s v v' true) :
    ∀ j (q1 : j < (Value.int n tk :: vs).toArray.size) (q2 : j < (Value.int n tk' :: ws).toArray.size), EqAt A s (Value.int n tk :: vs).toArray[j] (Value.int n tk' :: ws).toArray[j] true
  | 0, _, _ => by
    have := EqAt.int_int (A := A) (s := s) n tk n tk'
    rw [beq_self_eq_true] at this
    exact this
  | j + 1, q1, q2 => by
    rw [List.size_toArray, List.length_cons] at q1 q2
    obtain ⟨c, e1, t1⟩ := h1.get (List.getElem?_eq_getElem (show j < vs.length by lia))
    obtain ⟨c', e2, t2⟩ := h2.get (List.getElem?_eq_getElem (show j < ws.length by lia))
    rw [e1] at e2
    cases e2
    exact k c _ _ (List.mem_of_getElem? e1) t1 t2
theorem tree_eq : ∀ (k : Nat) (t : T), t.size ≤ k → ∀ (A : Around) (v v' : Value), TreeAt s.heap v t → TreeAt s.heap v' t → A.units + k + 1 < cLine → EqAt A s v v' true
  | 0, .node _ _, h => by simp [T.size] at h
  | k + 1, .node n cs, h => by
    intro A v v' h1 h2 hu
    cases h1 with | @mk a _ tk vs _ e g1 r1 =>
    cases h2 with | @mk a' _ tk' ws _ e' g2 r2 =>
    by_cases q : a = a'
    · subst q; exact EqAt.same _
    · have := RcAt.lists (A := A) (s := s) (e := fun _ => true) (isList_of g1) (isList_of g2) (by rw [List.size_toArray, List.size_toArray, List.length_cons, List.length_cons, r1.length, r2.length]) (by lia)
        (kids_eq r1 r2 fun c v v' hc t1 t2 => by
          obtain ⟨j, hj⟩ := List.getElem?_of_mem hc
          have := T.sizes_get hj
          simp only [T.size] at h
          exact tree_eq k c (by lia) _ v v' t1 t2 (by show A.units + 1 + k + 1 < _; lia))
      rw [show ((List.range (Value.int n tk :: vs).toArray.size).all fun _ => true) = true by rw [List.all_eq_true]; intro _ _; rfl] at this
      exact .of_refs q this
theorem x_neTree {v v' : Value} {t : T} {Q : Value → Shared → Prop} (h1 : TreeAt s.heap v t) (h2 : TreeAt s.heap v' t) (hu : A.units + t.size + 3 < cLine) (h : Q (.bool false) s) : wpAny (model prog w) A (compareOp .NotEq v v') Q E s := by
  obtain ⟨n, cs⟩ := t
  cases h1 with | @mk a _ tk vs _ e g1 r1 =>
  cases h2 with | @mk a' _ tk' ws _ e' g2 r2 =>
  simp only [T.size] at hu
  have := RcNeAt.lists (A := A) (s := s) (e := fun _ => true) (isList_of g1) (isList_of g2) (by rw [List.size_toArray, List.size_toArray, List.length_cons, List.length_cons, r1.length, r2.length]) (by lia)
    (kids_eq r1 r2 fun c v v' hc t1 t2 => by
      obtain ⟨j, hj⟩ := List.getElem?_of_mem hc
      have := T.sizes_get hj
      exact tree_eq (T.sizes cs) c this _ v v' t1 t2 (by show A.units + 1 + _ + 1 < _; lia))
  rw [show ((List.range (Value.int n tk :: vs).toArray.size).all fun _ => true) = true by rw [List.all_eq_true]; intro _ _; rfl] at this
  exact this prog w E Q h
end
/-! each way, there and back -/
mutual
theorem bL_le : ∀ t : T, t.ok → (bL t).length ≤ 5 * t.size
  | .node n cs, h => by
    have := bLs_le cs h.2
    have := sgnL_len n h.1
    simp only [bL, T.size, List.length_append, List.length_singleton]
    lia
theorem bLs_le : ∀ cs : List T, T.oks cs → (bLs cs).length ≤ 5 * T.sizes cs
  | [], _ => by simp [bLs]
  | c :: cs, h => by
    have := bL_le c h.1
    have := bLs_le cs h.2
    simp only [bLs, T.sizes, List.length_append]
    lia
end
theorem grow (a b : Nat) (ha : 1 ≤ a) (hb : 1 ≤ b) : 3 * a + 6 * b ≤ 6 * (a * b) + 3 := by
  obtain ⟨x, rfl⟩ : ∃ x, a = x + 1 := ⟨a - 1, by lia⟩
  obtain ⟨y, rfl⟩ : ∃ y, b = y + 1 := ⟨b - 1, by lia⟩
  simp only [Nat.add_mul, Nat.mul_add]
  lia
mutual
theorem qL_le : ∀ t : T, t.ok → 2 * (qL t).length + 6 ≤ 3 * 4 ^ t.size
  | .node n cs, h => by
    have h1 := qLs_le cs h.2
    have := sgnL_len n h.1
    simp only [qL, T.size, List.length_append, Nat.pow_succ]
    lia
theorem qLs_le : ∀ cs : List T, T.oks cs → (qLs cs).length + 6 ≤ 6 * 4 ^ T.sizes cs
  | [], _ => by simp [qLs, T.sizes]
  | c :: cs, h => by
    have h1 := qL_le c h.1
    have h2 := qLs_le cs h.2
    have h3 := (dbl_len 34 (qL c)).2
    have h4 := grow (4 ^ c.size) (4 ^ T.sizes cs) (Nat.pow_pos (by decide)) (Nat.pow_pos (by decide))
    simp only [qLs, T.sizes, List.length_append, List.length_cons, Nat.pow_add]
    lia
end
section
variable {prog : Program} {w : World} {A : Around} {E : Value → Shared → Prop} {g s s' : Shared} {L a : Addr} {h₀ : Heap} {m mg mb : Str → Option Value} {M M' : List (Addr × Obj)}
def BackPost (s : Shared) (t : T) (Q : Value → Shared → Prop) : Prop := ∀ s' v, Sm s s' → Kp s.heap s'.heap → 0 < s'.toks → TreeAt s'.heap v t → Q v s'
theorem FS.treeAt {v : Value} {t : T} {X : List (Addr × Obj)} (F : FS g h₀ L m M s) (h : TreeIn X v t) (hX : ∀ p ∈ X, p ∈ M) : TreeAt s.heap v t := Tr.mono (fun a o q => F.get (hX (a, o) q)) h
set_option maxHeartbeats 1000000 in
theorem back0 {f : Addr} {t : T} {v : Value} {K cut : Nat} {tw tk tc : Tok} {Q : Value → Shared → Prop} (ok : t.ok) (hsz : t.size ≤ 6) (hA : A.handled = none) (hD : A.depth + 20 < recursionLimit) (B : Base prog w mg mb s.heap) (hf : FnAt s.heap "_law_back" (stA 77) f) (hT : TreeAt s.heap v t) (h : BackPost s t Q) :
    wpAny (model prog w) A (call (.ref f) [.int 0 tw, v, .int K tk, .int cut tc]) Q E s := by
  obtain ⟨a1, e1, f1⟩ : ∃ a, mg "_law_quoted" = some (.ref a) ∧ FnAt s.heap "_law_quoted" (stA 68) a := B.fn 7 rfl
  obtain ⟨a2, e2, f2⟩ : ∃ a, mg "_law_unquoted" = some (.ref a) ∧ FnAt s.heap "_law_unquoted" (stA 69) a := B.fn 8 rfl
  have hq : (qL t).length ≤ 100000 := by
    have h1 := qL_le t ok
    have h2 : 4 ^ t.size ≤ 4 ^ 6 := Nat.pow_le_pow_right (by decide) hsz
    lia
  refine x_call [(Str.ofString "way", Value.int 0 tw), (Str.ofString "node", v), (Str.ofString "kinds", .int K tk), (Str.ofString "cut", .int cut tc)] hf B (by lia) (List.cons_ne_nil _ _) (fun _ _ _ => rfl) rfl ?_
  intro s0 L cd _ F
  have hA' : (A.deeper (envOf "_law_back" (dScope (stA 77)) L f cd)).handled = none := hA
  with_unfolding_all refine wpAny_execs_cons ?_
  walk_at "go"
  refine ite_pos rfl ?_
  walk_at "go"
  have F1 := ‹FS _ _ _ _ _ _›
  refine tpos F1.tp (quoted_spec 6 t hsz ok hq _ _ _ _ _ hA' (by show A.depth + 1 + 6 + 1 < _; lia) (B.keeps F1.kp) e1 (f1.keeps F1.kp) (Tr.kp hT F1.kp) fun s2 t2 S2 K2 P2 => ?_)
  have F2 := F1.kept K2 S2 P2
  clear F1
  walk_at "go"
  have F3 := ‹FS _ _ _ _ _ _›
  refine tpos F3.tp (unquoted_spec 6 t hsz ok hq _ _ _ _ _ hA' (by show A.depth + 1 + 6 + 1 < _; lia) (B.keeps F3.kp) e2 (f2.keeps F3.kp) fun s4 v4 X4 N4 hT4 P4 => ?_)
  have F4 := F3.after N4 P4
  exact h _ _ F4.sm F4.kp F4.tp (F4.treeAt hT4 fun p hp => List.mem_append_left _ hp)
set_option maxHeartbeats 1000000 in
theorem back1 {f : Addr} {t : T} {v : Value} {K cut : Nat} {tw tk tc : Tok} {Q : Value → Shared → Prop} (ok : t.ok) (hsz : t.size ≤ 6) (hcut : cut < t.size) (hA : A.handled = none) (hD : A.depth + 20 < recursionLimit) (B : Base prog w mg mb s.heap) (hf : FnAt s.heap "_law_back" (stA 77) f) (hT : TreeAt s.heap v t) (h : BackPost s t Q) :
    wpAny (model prog w) A (call (.ref f) [.int 1 tw, v, .int K tk, .int cut tc]) Q E s := by
  obtain ⟨a1, e1, f1⟩ : ∃ a, mg "_law_ruled" = some (.ref a) ∧ FnAt s.heap "_law_ruled" (stA 71) a := B.fn 10 rfl
  obtain ⟨a2, e2, f2⟩ : ∃ a, mg "_law_unruled" = some (.ref a) ∧ FnAt s.heap "_law_unruled" (stA 72) a := B.fn 11 rfl
  refine x_call [(Str.ofString "way", Value.int 1 tw), (Str.ofString "node", v), (Str.ofString "kinds", .int K tk), (Str.ofString "cut", .int cut tc)] hf B (by lia) (List.cons_ne_nil _ _) (fun _ _ _ => rfl) rfl ?_
  intro s0 L cd _ F
  have hA' : (A.deeper (envOf "_law_back" (dScope (stA 77)) L f cd)).handled = none := hA
  with_unfolding_all refine wpAny_execs_cons ?_
  walk_at "go"
  refine ite_neg (by decide) ?_
  walk_at "go"
  refine ite_pos rfl ?_
  walk_at "go"
  have F1 := ‹FS _ _ _ _ _ _›
  refine tpos F1.tp (ruled_spec ok hcut hA' (by show A.depth + 1 + _ + 2 < _; lia) (B.keeps F1.kp) (f1.keeps F1.kp) (Tr.kp hT F1.kp) fun s2 ra b1 b2 q0 q1 q2 vs1 vs2 X l x j N2 m0 m1 m2 I1 I2 hd P2 => ?_)
  have F2 := F1.after N2 P2
  clear F1
  walk_at "go"
  have F3 := ‹FS _ _ _ _ _ _›
  refine tpos F3.tp (unruled_spec ok hcut (by lia) hA' (by show A.depth + 1 + 4 < _; lia) (B.keeps F3.kp) (f2.keeps F3.kp) (F3.get (List.mem_append_left _ m0)) (F3.get (List.mem_append_left _ m1)) (F3.get (List.mem_append_left _ m2)) I1 I2 hd fun s4 v4 X4 N4 hT4 P4 => ?_)
  have F4 := F3.after N4 P4
  exact h _ _ F4.sm F4.kp F4.tp (F4.treeAt hT4 fun p hp => List.mem_append_left _ hp)
set_option maxHeartbeats 1000000 in
theorem back3 {f : Addr} {t : T} {v : Value} {K cut : Nat} {tw tk tc : Tok} {Q : Value → Shared → Prop} (ok : t.ok) (hsz : t.size ≤ 6) (hA : A.handled = none) (hD : A.depth + 20 < recursionLimit) (B : Base prog w mg mb s.heap) (hf : FnAt s.heap "_law_back" (stA 77) f) (hT : TreeAt s.heap v t) (h : BackPost s t Q) :
    wpAny (model prog w) A (call (.ref f) [.int 3 tw, v, .int K tk, .int cut tc]) Q E s := by
  obtain ⟨a1, e1, f1⟩ : ∃ a, mg "_law_bracketed" = some (.ref a) ∧ FnAt s.heap "_law_bracketed" (stA 75) a := B.fn 14 rfl
  obtain ⟨a2, e2, f2⟩ : ∃ a, mg "_law_unbracketed" = some (.ref a) ∧ FnAt s.heap "_law_unbracketed" (stA 76) a := B.fn 15 rfl
  have hb := bL_le t ok
  refine x_call [(Str.ofString "way", Value.int 3 tw), (Str.ofString "node", v), (Str.ofString "kinds", .int K tk), (Str.ofString "cut", .int cut tc)] hf B (by lia) (List.cons_ne_nil _ _) (fun _ _ _ => rfl) rfl ?_
  intro s0 L cd _ F
  have hA' : (A.deeper (envOf "_law_back" (dScope (stA 77)) L f cd)).handled = none := hA
  with_unfolding_all refine wpAny_execs_cons ?_
  walk_at "go"
  refine ite_neg (by decide) ?_
  walk_at "go"
  refine ite_neg (by decide) ?_
  walk_at "go"
  refine ite_neg (by decide) ?_
  walk_at "go"
  have F1 := ‹FS _ _ _ _ _ _›
  refine tpos F1.tp (bracketed_spec 6 t hsz ok (by lia) _ _ _ _ _ hA' (by show A.depth + 1 + 6 + 1 < _; lia) (B.keeps F1.kp) e1 (f1.keeps F1.kp) (Tr.kp hT F1.kp) fun s2 t2 S2 K2 P2 => ?_)
  have F2 := F1.kept K2 S2 P2
  clear F1
  walk_at "go"
  have F3 := ‹FS _ _ _ _ _ _›
  refine tpos F3.tp (unbracketed_spec ok (by lia) (by lia) (by show A.depth + 1 + 4 < _; lia) (B.keeps F3.kp) (f2.keeps F3.kp) fun s4 v4 X4 N4 hT4 P4 => ?_)
  have F4 := F3.after N4 P4
  exact h _ _ F4.sm F4.kp F4.tp (F4.treeAt hT4 fun p hp => List.mem_append_left _ hp)
end
/-! the page, there and back; the round -/
section
variable {prog : Program} {w : World} {A : Around} {E : Value → Shared → Prop} {g s s' : Shared} {L a : Addr} {h₀ : Heap} {m mg mb : Str → Option Value} {M M' : List (Addr × Obj)}
theorem x_range1 {hi : Int} {t : Tok} {Q : Value → Shared → Prop} (F : FS g h₀ L m M s) (h : ∀ s' r t' u v, IsRange s'.heap r 0 hi 1 t' u v → FS g h₀ L m M s' → Q (.ref r) s') :
    wpAny (model prog w) A (call (.type "range") [.int hi t]) Q E s :=
  call_range_1 (h _ _ s.toks t (s.toks + 1) (Heap.get?_push_size _ rfl) ((F.push { cls := .type "range", data := .fields #[.int 0 s.toks, .int hi t, .int 1 (s.toks + 1)] }).drop.tk (Nat.succ_pos _)))
set_option maxHeartbeats 2000000 in
theorem back2 {f : Addr} {t : T} {v : Value} {K cut : Nat} {tw tk tc : Tok} {Q : Value → Shared → Prop} (ok : t.ok) (hsz : t.size ≤ 6) (hK : K ≤ 10 ^ 15) (hA : A.handled = none) (hD : A.depth + 20 < recursionLimit) (hu : A.units + 40 < cLine) (B : Base prog w mg mb s.heap) (hf : FnAt s.heap "_law_back" (stA 77) f) (hT : TreeAt s.heap v t) (h : BackPost s t Q) :
    wpAny (model prog w) A (call (.ref f) [.int 2 tw, v, .int K tk, .int cut tc]) Q E s := by
  obtain ⟨a1, e1, f1⟩ : ∃ a, mg "_law_page" = some (.ref a) ∧ FnAt s.heap "_law_page" (stA 73) a := B.fn 12 rfl
  obtain ⟨a2, e2, f2⟩ : ∃ a, mg "_law_unpaged" = some (.ref a) ∧ FnAt s.heap "_law_unpaged" (stA 74) a := B.fn 13 rfl
  obtain ⟨a3, e3, f3⟩ : ∃ a, mg "_law_sign" = some (.ref a) ∧ FnAt s.heap "_law_sign" (stA 66) a := B.fn 5 rfl
  obtain ⟨rows, r1, r2, r3⟩ := page_back K t ok (List.replicate ((cut + 1) % 2) 1) 0 (by
    have : (cut + 1) % 2 < 2 := Nat.mod_lt _ (by decide)
    simp
    lia)
  refine x_call [(Str.ofString "way", Value.int 2 tw), (Str.ofString "node", v), (Str.ofString "kinds", .int K tk), (Str.ofString "cut", .int cut tc)] hf B (by lia) (List.cons_ne_nil _ _) (fun _ _ _ => rfl) rfl ?_
  intro s0 L cd _ F
  have hA' : (A.deeper (envOf "_law_back" (dScope (stA 77)) L f cd)).handled = none := hA
  obtain ⟨n, cs⟩ := t
  have hT0 := id hT
  cases hT with | @mk a _ tk' vs _ e hg hTs =>
  with_unfolding_all refine wpAny_execs_cons ?_
  walk_at "go"
  refine ite_neg (by decide) ?_
  walk_at "go"
  refine ite_neg (by decide) ?_
  walk_at "go"
  refine ite_pos rfl ?_
  walk_at "go"
  refine x_mod ‹FS _ _ _ _ _ _› (by decide) fun s1 t1 F1 => ?_
  rw [show ((cut : Int) + 1) = ((cut + 1 : Nat) : Int) from rfl, show (2 : Int) = ((2 : Nat) : Int) from rfl, nfmod]
  refine x_mulList F1 (F1.get (.head _)) (by lia) (by lia) fun s2 D F2 => ?_
  rw [Int.toNat_natCast] at F2
  walk_at "go"
  rename_i P _ _ _ _ _ _ _ _ _ sX tX F3 _ _
  refine tpos F3.tp (sign_spec (B.keeps F3.kp) (f3.keeps F3.kp) (by show A.depth + 1 < _; lia) ok.1 fun s4 t4 S4 K4 P4 => ?_)
  have F4 := F3.kept K4 S4 P4
  clear F3 K4 S4 P4
  rw [sgn_sOf]
  walk_at "go"
  have hnone : s.heap.get? P = none := (F4.ns _ (.head _)).2.2
  have kB := kp_hole F4.kp hnone
  have hDP : D ≠ P := fun q => (List.nodup_cons.mp F4.nd).1 (by rw [← q]; exact List.mem_cons_self ..)
  refine page_spec (mg := mg) (mb := mb) (P := P) (K := K) 6 (.node n cs) hsz ok _ _ s4 _ D _ _ _ (List.replicate ((cut + 1) % 2) 1) 0 _ _ _ [] (sgnL n) _ hA' (by show A.depth + 1 + 6 + 3 < _; lia) (B.keeps kB) e1 (f1.keeps kB) (Tr.kp hT0 kB) (by rw [hole_ne hDP]; exact F4.get (.tail _ (.head _))) (by unfold Ints; simp [vInt]) (F4.get (.head _)) ?_ (by have := sgnL_len n ok.1; lia) (by simp; lia) hK fun s5 L' m' l' e' F5 hl' => ?_
  · have : (cut + 1) % 2 < 2 := Nat.mod_lt _ (by decide)
    simp
    lia
  have F6 := (F4.perm (List.perm_append_singleton _ _).symm).unhole F5
  walk_at "go"
  have F7 := ‹FS _ _ _ _ _ _›
  have hl2 : (([] : List (Str × Tok)) ++ l').map (·.1) = rows.map fun p => sOf p.1 := by
    rw [List.nil_append, hl']
    have := congrArg (List.map sOf) r1
    rw [List.map_map] at this
    exact this.symm
  have hrl : rows.length ≤ 800 := by
    have := congrArg List.length r1
    rw [List.length_map, pgT_len] at this
    lia
  refine tpos F7.tp (unpaged_spec (rows := rows) (F7.get (List.mem_append_right _ (.head _))) hl2 r2 hrl r3 hA' (by show A.depth + 1 + 8 < _; lia) (by show A.units + 3 + 30 < _; lia) (B.keeps F7.kp) (f2.keeps F7.kp) fun s8 v8 X8 N8 hT8 P8 => ?_)
  have F8 := F7.after N8 P8
  exact h _ _ F8.sm F8.kp F8.tp (F8.treeAt hT8 fun p hp => List.mem_append_left _ hp)
theorem back_spec {f : Addr} {t : T} {v : Value} {way K cut : Nat} {tw tk tc : Tok} {Q : Value → Shared → Prop} (hw : way < 4) (ok : t.ok) (hsz : t.size ≤ 6) (hcut : cut < t.size) (hK : K ≤ 10 ^ 15) (hA : A.handled = none) (hD : A.depth + 20 < recursionLimit) (hu : A.units + 40 < cLine) (B : Base prog w mg mb s.heap) (hf : FnAt s.heap "_law_back" (stA 77) f) (hT : TreeAt s.heap v t) (h : BackPost s t Q) :
    wpAny (model prog w) A (call (.ref f) [.int way tw, v, .int K tk, .int cut tc]) Q E s := by
  match way, hw with
  | 0, _ => exact back0 ok hsz hA hD B hf hT h
  | 1, _ => exact back1 ok hsz hcut hA hD B hf hT h
  | 2, _ => exact back2 ok hsz hK hA hD hu B hf hT h
  | 3, _ => exact back3 ok hsz hA hD B hf hT h
set_option maxHeartbeats 1000000 in
theorem round_spec {f : Addr} {t : T} {v : Value} {K cut : Nat} {tk tc : Tok} {Q : Value → Shared → Prop} (ok : t.ok) (hsz : t.size ≤ 6) (hcut : cut < t.size) (hK : K ≤ 10 ^ 15) (hA : A.handled = none) (hD : A.depth + 30 < recursionLimit) (hu : A.units + 60 < cLine) (B : Base prog w mg mb s.heap) (hf : FnAt s.heap "_law_round" (stA 78) f) (hT : TreeAt s.heap v t)
    (h : ∀ s', Sm s s' → Kp s.heap s'.heap → 0 < s'.toks → Q (.bool true) s') :
    wpAny (model prog w) A (call (.ref f) [v, .int K tk, .int cut tc]) Q E s := by
  obtain ⟨a1, e1, f1⟩ : ∃ a, mg "_law_back" = some (.ref a) ∧ FnAt s.heap "_law_back" (stA 77) a := B.fn 16 rfl
  refine x_call [(Str.ofString "tree", v), (Str.ofString "kinds", .int K tk), (Str.ofString "cut", .int cut tc)] hf B (by lia) (List.cons_ne_nil _ _) (fun _ _ _ => rfl) rfl ?_
  intro s0 L cd _ F
  have hA' : (A.deeper (envOf "_law_round" (dScope (stA 78)) L f cd)).handled = none := hA
  obtain ⟨n, cs⟩ := t
  have hT0 := id hT
  cases hT with | @mk a _ tk' vs _ e hg hTs =>
  with_unfolding_all refine wpAny_execs_cons ?_
  walk_at "go"
  have F1 := ‹FS _ _ _ _ _ _›
  refine x_forRange F1 hA' ?_
  walk_at "go"
  refine x_range1 ‹FS _ _ _ _ _ _› fun s2 r t2 u2 v2 hr F2 => ?_
  refine ⟨0, 4, r, _, _, v2, _, _, fun i m₁ M₁ => M₁ = [] ∧ m₁ "tree" = some (.ref a) ∧ m₁ "kinds" = some (.int K tk) ∧ m₁ "cut" = some (.int cut tc), rfl, F2, ⟨rfl, rfl, rfl, rfl⟩, hr, by lia, by lia, by lia, by lia, ?_, ?_⟩
  · rintro i u m₁ M₁ Z s₁ hi ⟨rfl, n1, n2, n3⟩ F3
    walk_at "goif"
    refine x_if0 (fun s' => ∃ m₂, FS s s.heap L m₂ ([] ++ [Z]) s' ∧ m₂ "tree" = some (.ref a) ∧ m₂ "kinds" = some (.int K tk) ∧ m₂ "cut" = some (.int cut tc)) ?_ ?_
    · walk_at "go"
      have F4 := ‹FS _ _ _ _ _ _›
      refine tpos F4.tp ?_
      rw [show (0 : Int) + (i : Int) = ((i : Nat) : Int) by lia]
      refine back_spec (way := i) (by lia) ok hsz hcut hK hA' (by show A.depth + 1 + 20 < _; lia) (by show A.units + 3 + 40 < _; lia) (B.keeps F4.kp) (f1.keeps F4.kp) (Tr.kp hT0 F4.kp) fun s5 v5 S5 K5 P5 hT5 _ => ?_
      have F5 := F4.kept K5 S5 P5
      clear F4
      walk_at "go"
      refine x_neTree hT5 (Tr.kp hT0 F5.kp) (by show A.units + 3 + _ + 3 < _; lia) ?_
      walk_at "go"
      refine ite_neg Bool.false_ne_true ?_
      exact ⟨_, F5, n1, n2, n3⟩
    · rintro s6 ⟨m₂, F6, n1', n2', n3'⟩
      walk_at "go"
      exact ⟨m₂, [], F6, rfl, n1', n2', n3'⟩
  · rintro m₁ M₁ s₁ ⟨rfl, _⟩ F3
    walk_at "go"
    have F4 := ‹FS _ _ _ _ _ _›
    exact h _ F4.sm F4.kp F4.tp
end
/-! the tree made -/
noncomputable def chOf (p : Nat → Nat) (k j : Nat) : List Nat := (List.range k).filter fun i => decide (1 ≤ i) && p i == j
noncomputable def trF (n : Nat → Int) (p : Nat → Nat) : Nat → Nat → T
  | 0, j => .node (n j) []
  | f + 1, j => .node (n j) ((chOf p 6 j).map (trF n p f))
noncomputable def szF (p : Nat → Nat) : Nat → Nat → Nat
  | 0, _ => 1
  | f + 1, j => ((chOf p 6 j).map (szF p f)).sum + 1
theorem sizes_sum : ∀ cs : List T, T.sizes cs = (cs.map T.size).sum
  | [] => rfl
  | c :: cs => by simp [T.sizes, sizes_sum cs]
theorem tr_size (n : Nat → Int) (p : Nat → Nat) : ∀ f j, (trF n p f j).size = szF p f j
  | 0, _ => rfl
  | f + 1, j => by
    simp only [trF, szF, T.size, sizes_sum, List.map_map]
    congr 2
    exact List.map_congr_left fun i _ => tr_size n p f i
theorem oks_all : ∀ cs : List T, (∀ c ∈ cs, c.ok) → T.oks cs
  | [], _ => trivial
  | c :: cs, h => ⟨h c (.head _), oks_all cs fun c hc => h c (.tail _ hc)⟩
theorem ch_lt {p : Nat → Nat} {k j i : Nat} (h : i ∈ chOf p k j) : i < k ∧ 1 ≤ i ∧ p i = j := by
  unfold chOf at h
  rw [List.mem_filter, List.mem_range] at h
  simpa using h
theorem tr_ok (n : Nat → Int) (p : Nat → Nat) (hn : ∀ i, i < 6 → n i ∈ menu) : ∀ f j, j < 6 → (trF n p f j).ok
  | 0, j, h => ⟨hn j h, trivial⟩
  | f + 1, j, h => ⟨hn j h, oks_all _ fun c hc => by
    obtain ⟨i, hi, rfl⟩ := List.mem_map.mp hc
    exact tr_ok n p hn f i (ch_lt hi).1⟩
theorem szF_congr {p q : Nat → Nat} (h : ∀ i, 1 ≤ i → i < 6 → p i = q i) : ∀ f j, szF p f j = szF q f j
  | 0, _ => rfl
  | f + 1, j => by
    have e : chOf p 6 j = chOf q 6 j := by
      unfold chOf
      refine List.filter_congr fun i hi => ?_
      by_cases h1 : 1 ≤ i
      · rw [h i h1 (List.mem_range.mp hi)]
      · simp [h1]
    simp only [szF, e]
    congr 2
    exact List.map_congr_left fun i _ => szF_congr h f i
noncomputable def pL (p1 p2 p3 p4 p5 i : Nat) : Nat := [0, p1, p2, p3, p4, p5].getD i 0
theorem sz_all : ∀ p1, p1 < 1 → ∀ p2, p2 < 2 → ∀ p3, p3 < 3 → ∀ p4, p4 < 4 → ∀ p5, p5 < 5 → szF (pL p1 p2 p3 p4 p5) 6 0 = 6 := by decide +kernel
theorem sz_six {p : Nat → Nat} (h : ∀ i, 1 ≤ i → i < 6 → p i < i) : szF p 6 0 = 6 := by
  refine (szF_congr (q := pL (p 1) (p 2) (p 3) (p 4) (p 5)) (fun i h1 h2 => ?_) 6 0).trans (sz_all (p 1) (h 1 (by lia) (by lia)) (p 2) (h 2 (by lia) (by lia)) (p 3) (h 3 (by lia) (by lia)) (p 4) (h 4 (by lia) (by lia)) (p 5) (h 5 (by lia) (by lia)))
  match i, h1, h2 with
  | 1, _, _ => rfl
  | 2, _, _ => rfl
  | 3, _, _ => rfl
  | 4, _, _ => rfl
  | 5, _, _ => rfl
abbrev NS := List (Addr × Tok × Nat)
noncomputable def adr (st : NS) (j : Nat) : Addr := (st.getD j default).1
noncomputable def nObj (n : Nat → Int) (p : Nat → Nat) (st : NS) (k j : Nat) : Addr × Obj := (adr st j, lst (.int (n j) (st.getD j default).2.1 :: (chOf p k j).map fun i => .ref (adr st i)) (st.getD j default).2.2)
theorem trs_map {X : List (Addr × Obj)} (v : Nat → Value) (t : Nat → T) : ∀ l : List Nat, (∀ i ∈ l, TreeIn X (v i) (t i)) → TreesIn X (l.map v) (l.map t)
  | [], _ => .nil
  | i :: l, h => .cons (h i (.head _)) (trs_map v t l fun i hi => h i (.tail _ hi))
theorem tr_in {X : List (Addr × Obj)} {n : Nat → Int} {p : Nat → Nat} {st : NS} (hp : ∀ i, 1 ≤ i → i < 6 → p i < i) (h : ∀ j, j < 6 → nObj n p st 6 j ∈ X) : ∀ f j, j < 6 → 6 ≤ f + j → TreeIn X (.ref (adr st j)) (trF n p f j)
  | 0, j, h1, h2 => by lia
  | f + 1, j, h1, h2 => .mk (h j h1) (trs_map _ _ _ fun i hi => by
    obtain ⟨q1, q2, q3⟩ := ch_lt hi
    have := hp i q2 q1
    exact tr_in hp h f i q1 (by lia))
theorem ch_succ {p : Nat → Nat} {k j : Nat} (hk : 1 ≤ k) : chOf p (k + 1) j = chOf p k j ++ if p k = j then [k] else [] := by
  unfold chOf
  rw [List.range_succ, List.filter_append]
  congr 1
  by_cases h : p k = j
  · simp [h, hk]
  · simp [h]
theorem ch_self {p : Nat → Nat} {k : Nat} (hp : ∀ i, 1 ≤ i → i ≤ k → p i < i) : chOf p (k + 1) k = [] := by
  unfold chOf
  rw [List.filter_eq_nil_iff]
  intro i hi
  have := List.mem_range.mp hi
  by_cases h : 1 ≤ i
  · have := hp i h (by lia)
    simp
    lia
  · simp [h]
/-- one node more -/
noncomputable def stUp (st : NS) (q : Nat) (e : Nat) (new : Addr) (tk : Tok) : NS := st.set q ((st.getD q default).1, (st.getD q default).2.1, e) ++ [(new, tk, 0)]
theorem stUp_old {st : NS} {q e : Nat} {new : Addr} {tk : Tok} {j : Nat} (hj : j < st.length) : (stUp st q e new tk).getD j default = if q = j then ((st.getD q default).1, (st.getD q default).2.1, e) else st.getD j default := by
  unfold stUp
  rw [List.getD_eq_getElem?_getD, List.getElem?_append_left (by rw [List.length_set]; exact hj), List.getElem?_set]
  by_cases h : q = j
  · subst h; rw [if_pos rfl, if_pos rfl, if_pos hj]; rfl
  · rw [if_neg h, if_neg h, List.getD_eq_getElem?_getD]
theorem stUp_new {st : NS} {q e : Nat} {new : Addr} {tk : Tok} : (stUp st q e new tk).getD st.length default = (new, tk, 0) := by
  unfold stUp
  rw [List.getD_eq_getElem?_getD, List.getElem?_append_right (by rw [List.length_set]; exact Nat.le_refl _), List.length_set, Nat.sub_self]
  rfl
theorem adr_old {st : NS} {q e : Nat} {new : Addr} {tk : Tok} {j : Nat} (hj : j < st.length) : adr (stUp st q e new tk) j = adr st j := by
  unfold adr
  rw [stUp_old hj]
  by_cases h : q = j
  · rw [if_pos h, h]
  · rw [if_neg h]
theorem nObj_perm {n : Nat → Int} {p : Nat → Nat} {st : NS} {e : Nat} {new : Addr} {tk : Tok} (hk : 1 ≤ st.length) (hp : ∀ i, 1 ≤ i → i ≤ st.length → p i < i) :
    ((adr st (p st.length), lst ((.int (n (p st.length)) (st.getD (p st.length) default).2.1 :: (chOf p st.length (p st.length)).map fun i => Value.ref (adr st i)) ++ [.ref new]) e) :: (new, lst [.int (n st.length) tk]) :: ((List.range st.length).erase (p st.length)).map (nObj n p st st.length)).Perm
      ((List.range (st.length + 1)).map (nObj n p (stUp st (p st.length) e new tk) (st.length + 1))) := by
  have hq : p st.length < st.length := hp _ hk (Nat.le_refl _)
  rw [List.range_succ, List.map_append]
  have h1 : (List.range st.length).Perm (p st.length :: (List.range st.length).erase (p st.length)) := List.perm_cons_erase (List.mem_range.mpr hq)
  have kid : ∀ j, (chOf p st.length j).map (fun i => Value.ref (adr (stUp st (p st.length) e new tk) i)) = (chOf p st.length j).map fun i => Value.ref (adr st i) := fun j => List.map_congr_left fun i hi => by rw [adr_old (ch_lt hi).1]
  have new_a : adr (stUp st (p st.length) e new tk) st.length = new := by unfold adr; rw [stUp_new]
  have e0 : nObj n p (stUp st (p st.length) e new tk) (st.length + 1) (p st.length) = (adr st (p st.length), lst ((.int (n (p st.length)) (st.getD (p st.length) default).2.1 :: (chOf p st.length (p st.length)).map fun i => Value.ref (adr st i)) ++ [.ref new]) e) := by
    unfold nObj
    rw [adr_old hq, stUp_old hq, if_pos rfl, ch_succ hk, if_pos rfl, List.map_append, kid]
    simp [new_a]
  have e1 : nObj n p (stUp st (p st.length) e new tk) (st.length + 1) st.length = (new, lst [.int (n st.length) tk]) := by
    unfold nObj
    rw [new_a, stUp_new, ch_self hp]
    rfl
  have e2 : ((List.range st.length).erase (p st.length)).map (nObj n p (stUp st (p st.length) e new tk) (st.length + 1)) = ((List.range st.length).erase (p st.length)).map (nObj n p st st.length) := by
    refine List.map_congr_left fun j hj => ?_
    have hj1 := List.mem_range.mp (List.mem_of_mem_erase hj)
    have hj2 : p st.length ≠ j := fun q => by
      rw [q] at hj
      exact (List.Nodup.mem_erase_iff List.nodup_range).mp hj |>.1 rfl
    unfold nObj
    rw [adr_old hj1, stUp_old hj1, if_neg hj2, ch_succ hk, if_neg hj2, List.append_nil, kid]
  refine .trans ?_ ((h1.map _).append_right _).symm
  rw [List.map_cons, e0, e2, List.map_singleton, e1]
  exact .cons _ (List.perm_append_singleton _ _).symm
/-! the tree's making, walked -/
noncomputable def numL : List Int := [16, 35, 46, 22, 27, 23, 52, 51, 33, 44, 28, 54]
noncomputable def nOf (zs : List Nat) (i : Nat) : Int := numL.getD (if i = 0 then zs.getD 0 0 % 12 else zs.getD i 0 / 60 % 12) 0
noncomputable def pOf (zs : List Nat) (i : Nat) : Nat := zs.getD i 0 % i
theorem num_menu : ∀ i, i < 12 → numL.getD i 0 ∈ menu := by decide +kernel
theorem nOf_menu (zs : List Nat) (i : Nat) : nOf zs i ∈ menu := by
  unfold nOf
  refine num_menu _ ?_
  split <;> exact Nat.mod_lt _ (by decide)
theorem perm1 {α : Type} {N NL x c Z : α} {A B : List α} (h : A.Perm (x :: B)) : (N :: ((NL :: (A ++ [c])) ++ [Z])).Perm (x :: N :: (B ++ [NL, c, Z])) := by
  have h1 : (N :: ((NL :: (A ++ [c])) ++ [Z])).Perm (N :: NL :: ((x :: B) ++ [c, Z])) := by
    rw [List.cons_append, List.append_assoc]
    exact .cons _ (.cons _ (h.append_right _))
  refine h1.trans (.trans (.cons _ (.swap ..)) (.trans (.swap ..) (.cons _ (.cons _ ?_))))
  exact List.perm_middle.symm
theorem perm2 {α : Type} {N NL x c Z : α} {B : List α} : (x :: N :: (B ++ [NL, c, Z])).Perm (NL :: x :: N :: (B ++ [c, Z])) := by
  have h1 : (x :: N :: (B ++ [NL, c, Z])).Perm (x :: N :: NL :: (B ++ [c, Z])) := .cons _ (.cons _ List.perm_middle)
  exact h1.trans (.trans (.cons _ (.swap ..)) (.swap ..))
theorem perm3 {α : Type} {N NL x c Z : α} {A B : List α} (h : (x :: N :: B).Perm A) : (NL :: x :: N :: (B ++ [c, Z])).Perm ((NL :: (A ++ [c])) ++ [Z]) := by
  rw [List.cons_append, List.append_assoc]
  exact .cons _ (h.append_right [c, Z])
theorem st_get {st : NS} {q : Nat} (hq : q < st.length) : (st.map fun x => Value.ref x.1)[q]? = some (.ref (adr st q)) := by
  unfold adr
  rw [List.getElem?_map, List.getElem?_eq_getElem hq, List.getD_eq_getElem?_getD, List.getElem?_eq_getElem hq]
  rfl
theorem stUp_map {st : NS} {q e : Nat} {new : Addr} {tk : Tok} (hq : q < st.length) : (stUp st q e new tk).map (fun x => Value.ref x.1) = st.map (fun x => Value.ref x.1) ++ [.ref new] := by
  unfold stUp
  rw [List.map_append]
  congr 1
  refine List.ext_getElem (by simp) fun i h1 h2 => ?_
  rw [List.getElem_map, List.getElem_map, List.getElem_set]
  split
  · rename_i h
    subst h
    rw [List.getD_eq_getElem?_getD, List.getElem?_eq_getElem hq]
    rfl
  · rfl
section
variable {prog : Program} {w : World} {A : Around} {E : Value → Shared → Prop} {g s s' : Shared} {L a : Addr} {h₀ : Heap} {m mg mb : Str → Option Value} {M M' : List (Addr × Obj)}
set_option maxHeartbeats 2000000 in
theorem tree_spec {f Ra : Addr} {zs : List Nat} {vs : List Value} {e : Nat} {Q : Value → Shared → Prop} (hz : 6 ≤ zs.length) (hlen : zs.length ≤ 1000) (hR : s.heap.get? Ra = some (lst vs e)) (hI : Ints vs (zs.map Int.ofNat)) (hA : A.handled = none) (hD : A.depth + 5 < recursionLimit) (B : Base prog w mg mb s.heap) (hf : FnAt s.heap "_law_tree" (stA 67) f)
    (h : ∀ s' v X t, Fresh s s' X → TreeIn X v t → t.ok → t.size = 6 → 0 < s'.toks → Q v s') : wpAny (model prog w) A (call (.ref f) [.ref Ra]) Q E s := by
  refine x_call [(Str.ofString "sums", Value.ref Ra)] hf B (by lia) (List.cons_ne_nil _ _) (fun _ _ _ => rfl) rfl ?_
  intro s0 L cd _ F
  have hA' : (A.deeper (envOf "_law_tree" (dScope (stA 67)) L f cd)).handled = none := hA
  have item : ∀ i, i < 6 → ∃ t, vs[i]? = some (.int (zs.getD i 0 : Nat) t) := fun i hi => by
    have : (zs.map Int.ofNat)[i]? = some ((zs.getD i 0 : Nat) : Int) := by
      rw [List.getElem?_map, List.getElem?_eq_getElem (by lia), List.getD_eq_getElem?_getD, List.getElem?_eq_getElem (by lia)]
      rfl
    exact hI.at this
  obtain ⟨t0, h0⟩ := item 0 (by lia)
  with_unfolding_all refine wpAny_execs_cons ?_
  walk_at "go"
  rename_i NT _ _ _ sA _ _ _ _ _ _ _ _ _ _ _ _ sB tB FB
  obtain ⟨nvs, m1, F1, hnv, hm1, hm2⟩ : ∃ nvs m1, FS s s.heap L m1 [(NT, tup nvs)] sB ∧ Ints nvs numL ∧ m1 "numbers" = some (.ref NT) ∧ m1 "sums" = some (.ref Ra) := ⟨_, _, FB, by unfold Ints; rfl, rfl, rfl⟩
  clear FB
  have num : ∀ j, j < 12 → ∃ t, nvs[j]? = some (.int (numL.getD j 0) t) := fun j hj => hnv.at (by
    rw [List.getElem?_eq_getElem (show j < numL.length from hj), List.getD_eq_getElem?_getD, List.getElem?_eq_getElem (show j < numL.length from hj)]
    rfl)
  refine x_item (F1.kp _ _ hR) (by decide) (by decide) h0 ?_
  walk_at "go"
  refine x_mod ‹FS _ _ _ _ _ _› (by decide) fun s2 t2 F2 => ?_
  rw [show ((zs.getD 0 0 : Nat) : Int).fmod 12 = _ from nfmod (zs.getD 0 0) 12]
  obtain ⟨t3, h3⟩ := num (zs.getD 0 0 % 12) (Nat.mod_lt _ (by decide))
  refine x_itemTupH (zs.getD 0 0 % 12) (F2.get (.head _)) rfl h3 (by lia) ?_
  walk_at "go"
  rename_i sC F4 _
  obtain ⟨NL, a0, m2, F4, hq1, hq2, hq3⟩ : ∃ NL a0 m2, FS s s.heap L m2 [(NL, lst [.ref a0]), (a0, lst [.int (numL.getD (zs.getD 0 0 % 12) 0) t3]), (NT, tup nvs)] sC ∧ m2 "numbers" = some (.ref NT) ∧ m2 "sums" = some (.ref Ra) ∧ m2 "nodes" = some (.ref NL) := ⟨_, _, _, F4, hm1, hm2, rfl⟩
  refine x_forRange F4 hA' ?_
  walk_at "go"
  refine x_range2 ‹FS _ _ _ _ _ _› fun s5 r vv hr F5 => ?_
  refine ⟨1, 6, r, _, _, vv, _, _, fun i m₁ M₁ => ∃ (st : NS) (eN : Nat), M₁ = (NL, lst (st.map fun x => Value.ref x.1) eN) :: ((List.range (i + 1)).map (nObj (nOf zs) (pOf zs) st (i + 1)) ++ [(NT, tup nvs)]) ∧ st.length = i + 1 ∧ m₁ "numbers" = some (.ref NT) ∧ m₁ "sums" = some (.ref Ra) ∧ m₁ "nodes" = some (.ref NL), rfl, F5, ⟨[(a0, t3, 0)], 0, rfl, rfl, hq1, hq2, hq3⟩, hr, by lia, by lia, by lia, by lia, ?_, ?_⟩
  · rintro i u m₁ M₁ Z s₁ hi ⟨st, eN, rfl, hst, n1, n2, n3⟩ F6
    rw [show (1 : Int) + (i : Int) = ((i + 1 : Nat) : Int) by lia] at F6
    obtain ⟨t7, h7⟩ := item (i + 1) (by lia)
    walk_at "go"
    refine x_item (FS.kp ‹FS _ _ _ _ _ _› _ _ hR) (by lia) (by lia) (by rw [Int.toNat_natCast]; exact h7) ?_
    walk_at "go"
    refine x_fdiv ‹FS _ _ _ _ _ _› (by decide) (by decide) fun s8 t8 F8 => ?_
    rw [show ((zs.getD (i + 1) 0 : Nat) : Int).fdiv 60 = _ from nfdiv (zs.getD (i + 1) 0) 60]
    walk_at "go"
    refine x_mod ‹FS _ _ _ _ _ _› (by decide) fun s9 t9 F9 => ?_
    rw [show ((zs.getD (i + 1) 0 / 60 : Nat) : Int).fmod 12 = _ from nfmod (zs.getD (i + 1) 0 / 60) 12]
    obtain ⟨t10, h10⟩ := num (zs.getD (i + 1) 0 / 60 % 12) (Nat.mod_lt _ (by decide))
    refine x_itemTupH (zs.getD (i + 1) 0 / 60 % 12) (F9.get (List.mem_append_left _ (.tail _ (List.mem_append_right _ (.head _))))) rfl h10 (by lia) ?_
    have hnum : numL.getD (zs.getD (i + 1) 0 / 60 % 12) 0 = nOf zs st.length := by
      unfold nOf
      rw [if_neg (by lia), hst]
    rw [hnum]
    walk_at "go"
    refine x_item (FS.kp ‹FS _ _ _ _ _ _› _ _ hR) (by lia) (by lia) (by rw [Int.toNat_natCast]; exact h7) ?_
    walk_at "go"
    refine x_mod ‹FS _ _ _ _ _ _› (by lia) fun s11 t11 F11 => ?_
    rw [nfmod, show zs.getD (i + 1) 0 % (i + 1) = pOf zs st.length by unfold pOf; rw [hst]]
    have hp : ∀ j, 1 ≤ j → j ≤ st.length → pOf zs j < j := fun j h1 _ => Nat.mod_lt _ (by lia)
    have hq := hp st.length (by lia) (Nat.le_refl _)
    obtain ⟨N, m3, F12, r1, r2, r3, r4⟩ : ∃ N m3, FS s s.heap L m3 ((N, lst [.int (nOf zs st.length) t10]) :: (((NL, lst (st.map fun x => Value.ref x.1) eN) :: ((List.range (i + 1)).map (nObj (nOf zs) (pOf zs) st (i + 1)) ++ [(NT, tup nvs)])) ++ [Z])) s11 ∧ m3 "node" = some (.ref N) ∧ m3 "nodes" = some (.ref NL) ∧ m3 "numbers" = some (.ref NT) ∧ m3 "sums" = some (.ref Ra) := ⟨_, _, F11, rfl, n3, n1, n2⟩
    clear F11
    refine x_item (F12.get (.tail _ (.head _))) (by lia) (by lia) (by rw [Int.toNat_natCast]; exact st_get hq) ?_
    rw [← hst] at F12
    have F13 : FS s s.heap L m3 ((adr st (pOf zs st.length), lst (.int (nOf zs (pOf zs st.length)) (st.getD (pOf zs st.length) default).2.1 :: (chOf (pOf zs) st.length (pOf zs st.length)).map fun i => .ref (adr st i)) (st.getD (pOf zs st.length) default).2.2) :: (N, lst [.int (nOf zs st.length) t10]) :: (((List.range st.length).erase (pOf zs st.length)).map (nObj (nOf zs) (pOf zs) st st.length) ++ [(NL, lst (st.map fun x => Value.ref x.1) eN), (NT, tup nvs), Z])) s11 :=
      F12.perm (perm1 ((List.perm_cons_erase (List.mem_range.mpr hq)).map _))
    clear F12
    have hch : (chOf (pOf zs) st.length (pOf zs st.length)).length ≤ 10 := by
      unfold chOf
      exact Nat.le_trans (List.length_filter_le _ _) (by rw [List.length_range]; lia)
    walk_at "go"
    refine x_append F13 (by rw [sizeLine_eq, List.length_cons, List.length_map]; lia) fun s14 n14 F14 => ?_
    replace F14 := F14.perm perm2
    walk_at "go"
    refine x_append F14 (by rw [sizeLine_eq, List.length_map]; lia) fun s15 n15 F15 => ?_
    walk_at "go"
    have F16 := F15.perm (perm3 (nObj_perm (n := nOf zs) (p := pOf zs) (st := st) (e := n14) (new := N) (tk := t10) (by lia) hp))
    rw [← stUp_map (e := n14) (tk := t10) hq] at F16
    refine ⟨m3, _, F16, stUp st (pOf zs st.length) n14 N t10, n15, by rw [hst], by unfold stUp; simp [hst], r3, r4, r2⟩
  · rintro m₁ M₁ s₁ ⟨st, eN, rfl, hst, n1, n2, n3⟩ F6
    walk_at "go"
    have F7 := ‹FS _ _ _ _ _ _›
    refine x_item (x := .ref (adr st 0)) (F7.get (.head _)) (by decide) (by decide) (st_get (by rw [hst]; lia)) ?_
    have hp : ∀ i, 1 ≤ i → i < 6 → pOf zs i < i := fun j h1 _ => Nat.mod_lt _ (by lia)
    refine h _ _ _ (trF (nOf zs) (pOf zs) 6 0) F7.fresh ?_ (tr_ok _ _ (fun i _ => nOf_menu zs i) 6 0 (by lia)) ((tr_size _ _ 6 0).trans (sz_six hp)) F7.tp
    exact tr_in (st := st) hp (fun j hj => .tail _ (List.mem_append_left _ (List.mem_map.mpr ⟨j, List.mem_range.mpr (by show j < 6; exact hj), rfl⟩))) 6 0 (by lia) (by lia)
end
/-! the sums of the script -/
theorem carried_int {v : Value} {z : Int} (h : Carried v (.int z)) : ∃ t, v = .int z t := by cases h; exact ⟨_, rfl⟩
theorem carried_ints : ∀ {ys : List Value} {zs : List Int}, CarriedAll ys (zs.map PyData.int) → Ints ys zs
  | _, [], h => by cases h; exact .nil
  | _, z :: zs, h => by
    cases h with | cons a r =>
    obtain ⟨t, rfl⟩ := carried_int a
    exact .cons (carried_ints r)
theorem paired_ints (f : Int → Int) : ∀ {vs ys : List Value} {zs : List Int}, IntsAre vs zs → Paired (fun v y => ∃ z t u, v = Value.int z t ∧ y = Value.int (f z) u) vs ys → IntsAre ys (zs.map f)
  | _, _, _, .nil, .nil => .nil
  | _, _, _, .cons z t h, .cons a r => by
    obtain ⟨z', t', u, e, rfl⟩ := a
    cases e
    exact .cons _ _ (paired_ints f h r)
section
variable {prog : Program} {w : World} {A : Around} {E : Value → Shared → Prop} {g s s' : Shared} {L a : Addr} {h₀ : Heap} {m mg mb : Str → Option Value} {M M' : List (Addr × Obj)}
theorem x_sumL {l : Addr} {vs : List Value} {ns : List Int} {Q : Value → Shared → Prop} (hh : A.handled = none) (hl : s.heap.IsList l vs.toArray) (hi : IntsAre vs ns)
    (h : ∀ h' tk t', Kp s.heap h' → Q (.int ns.sum t') { s with heap := h', toks := tk }) : wpAny (model prog w) A (call (.builtin "sum") [.ref l]) Q E s := by
  obtain ⟨xs, e⟩ := hi.allInts.items
  rw [e] at hl
  refine sum_intListG hh hl fun h' tk t' hk => ?_
  have hn : xs.toList.map (·.1) = ns := by
    rw [← nums_intItems, ← e]
    exact hi.numsOf
  rw [preSum_eq, List.take_of_length_le (by simp), hn]
  exact h h' tk t' hk
theorem comp_ints {env : Env} {elt iter : Expr} {x : Str} {px pos : Pos} {scope : Scope} {Q : Value → Shared → Prop} (f : Int → Int) (hh : A.handled = none)
    (h : wpAny (model prog w) A (eval iter env) (fun xv s₁ => ∃ l vs zs, xv = .ref l ∧ s₁.heap.IsList l vs.toArray ∧ IntsAre vs zs ∧ vs.length ≤ sizeLine ∧
      (∀ C z t s₂ m₂ E', s₂.heap.Ns C m₂ → m₂ x = some (.int z t) → wpAny (model prog w) A (eval elt (compEnvC scope [] C env)) (fun y s₃ => (∃ u, y = .int (f z) u) ∧ Keeps s₂ s₃) E' s₂) ∧
      ∀ D ys h' tk, Kp s₁.heap h' → h'.IsList D ys.toArray → IntsAre ys (zs.map f) → Q (.ref D) { s₁ with heap := h', toks := tk }) E s)
    (hclos : closureFor scope env = pure []) (hcell : ∀ y ∈ scope.names, y.2 ≠ .cell) (hkind : scope.kind = .function)
    (hnames : ∀ y ∈ scope.names, y.2 = .local → scope.names.lookup y.1 = some .local) (hx : scope.names.lookup x = some .local)
    (hs : ∀ x, foldedSetIterable iter env x = pure x := by intro _; rfl) :
    wpAny (model prog w) A (eval (.ListComp elt [⟨.Name x px, iter, [], 0⟩] scope pos) env) Q E s := by
  refine wpAny_ListComp_free (fun _ => true) (fun v y => ∃ z t u, v = Value.int z t ∧ y = Value.int (f z) u) hclos hcell hkind hnames hx (wpAny_mono h (fun xv s₁ h₁ => ?_) fun _ _ e => e) hs
  obtain ⟨l, vs, zs, rfl, hl, hi, hsz, helt, hQ⟩ := h₁
  have hlt : l < s₁.heap.objs.size := by obtain ⟨_, e, _⟩ := hl; exact Heap.lt_size e
  refine wpAny_pyIter_list hl ⟨s₁.heap.objs.size, [s₁.heap.objs.size, l], [s₁.heap.objs.size], vs.toArray.size, _, _, rfl, Walks.list hh _ _ (Nat.ne_of_lt hlt) vs.toArray, by rw [List.size_toArray]; exact hsz,
    ⟨⟨_, Heap.get?_push_size _ rfl, rfl, rfl⟩, hl.push _⟩, ?_, ⟨?_, ?_⟩, ?_⟩
  · intro b hb
    show b < (s₁.heap.push _).objs.size
    rw [Heap.size_push]
    rcases List.mem_cons.mp hb with rfl | hb
    · exact Nat.lt_succ_self _
    · rw [List.mem_singleton.mp hb]
      exact Nat.lt_succ_of_lt hlt
  · intro C i v s₃ m₃ E' _ _ _ _ _ _
    exact wpAny_pure ⟨rfl, _, _, rfl, fun _ _ e => e⟩
  · intro C i v s₃ m₃ E' _ hP _ hn hm _ _
    obtain ⟨z, t, rfl⟩ : ∃ z t, v = Value.int z t := by
      have hv : v ∈ vs := by simpa using Array.mem_of_getElem? hP
      clear hP hm hl hsz hQ helt
      induction hi with
      | nil => cases hv
      | cons z t _ ih =>
        rcases List.mem_cons.mp hv with rfl | hv
        · exact ⟨_, _, rfl⟩
        · exact ih hv
    exact wpAny_mono (helt C z t s₃ m₃ E' hn hm) (fun y s₄ h₄ => ⟨⟨z, t, h₄.1.choose, rfl, h₄.1.choose_spec⟩, h₄.2⟩) fun _ _ e => e
  · intro D h' tk ys vs' _ hlD _ hlen hP hF hk
    have e : vs' = vs := by simpa using list_of_places hlen hP
    subst e
    refine hQ D ys.toList h' tk (fun b o e => hk b o (fun hm => ?_) (Heap.get?_push_of_some _ e)) (by rw [Array.toArray_toList]; exact hlD) (paired_ints f hi (by rwa [List.filter_eq_self.mpr fun _ _ => rfl] at hF))
    rw [List.mem_singleton.mp hm] at e
    exact Nat.lt_irrefl _ (Heap.lt_size e)
end
section
variable {prog : Program} {w : World} {A : Around} {E : Value → Shared → Prop} {s : Shared} {mg mb : Str → Option Value} {env : Env}
theorem n_builtin {x : Str} {pos : Pos} {v : Value} {Q : Value → Shared → Prop} (B : Base prog w mg mb s.heap) (e : mg x = none) (hv : bootBuiltins x = some v) (hn : x ≠ "__name__") (h : Q v s)
    (hg : env.globals = mainGlobals := by rfl) (hb : env.builtins = builtinsNs := by rfl) (hk : env.scope.kind = .function := by rfl) (hx : env.kindOf x = some .globalImplicit := by rfl) (hd : (x == ("__debug__" : Str)) = false := by decide) :
    wpAny (model prog w) A (eval (.Name x pos) env) Q E s := Name_function_global hk hx (loadGlobal_builtin (by rw [hg]; exact B.g) e (by rw [hb]; exact B.b) ((B.bi x e hn).trans hv) h) hd
theorem n_cell {x : Str} {pos : Pos} {v : Value} {c : Addr} {Q : Value → Shared → Prop} (hc : env.cells.lookup x = some c) (hv : s.heap.IsCell c (some v)) (h : Q v s)
    (hk : env.scope.kind = .function := by rfl) (hx : env.kindOf x = some .cell := by rfl) (hd : (x == ("__debug__" : Str)) = false := by decide) :
    wpAny (model prog w) A (eval (.Name x pos) env) Q E s := wpAny_Name (wpAny_loadName_cell hk hx hc hv h) hd
theorem n_local {x : Str} {pos : Pos} {v : Value} {m : Str → Option Value} {Q : Value → Shared → Prop} (hn : s.heap.Ns env.locals m) (hv : m x = some v) (h : Q v s)
    (hk : env.scope.kind = .function := by rfl) (hx : env.kindOf x = some .local := by rfl) (hd : (x == ("__debug__" : Str)) = false := by decide) :
    wpAny (model prog w) A (eval (.Name x pos) env) Q E s := wpAny_Name (wpAny_loadName_local hk hx hn hv h) hd
noncomputable def sumOf (zs : List Int) (ss : List Nat) (z : Int) : Int := (ss.getD z.toNat 0 : Nat) + ((pickNums zs (some z) (some 63) (some ss.length)).map fun x => x.fmod ((10 : Int) ^ (6 : Int).toNat)).sum
theorem sum_mods : ∀ zs : List Int, 0 ≤ (zs.map fun x => x.fmod ((10 : Int) ^ (6 : Int).toNat)).sum ∧ (zs.map fun x => x.fmod ((10 : Int) ^ (6 : Int).toNat)).sum ≤ 1000000 * zs.length
  | [] => ⟨Int.le_refl _, Int.le_refl _⟩
  | z :: zs => by
    obtain ⟨h1, h2⟩ := sum_mods zs
    have h3 : z.fmod ((10 : Int) ^ (6 : Int).toNat) = z % 1000000 := by rw [show ((10 : Int) ^ (6 : Int).toNat) = 1000000 from rfl]; exact Int.fmod_eq_emod_of_nonneg _ (by decide)
    rw [List.map_cons, List.sum_cons, List.length_cons, h3]
    lia
set_option maxHeartbeats 1000000 in
theorem sums_spec {f Rs Rt : Addr} {vs ts : List Value} {zs : List Int} {ss : List Nat} {e2 : Nat} {Q : Value → Shared → Prop} (hz : zs.length ≤ 63) (hRs : s.heap.IsList Rs vs.toArray) (hI : IntsAre vs zs) (hRt : s.heap.get? Rt = some (tup ts e2))
    (hT : Ints ts (ss.map Int.ofNat)) (hss : ∀ n ∈ ss, n ≤ 5000) (hl : ss.length ≤ 100) (hl0 : 0 < ss.length) (hA : A.handled = none) (hD : A.depth + 1 < recursionLimit) (hp : 0 < s.toks) (B : Base prog w mg mb s.heap) (hf : FnAt s.heap "_law_sums" (stA 65) f)
    (h : ∀ s' D ys (ns : List Nat) e', Fresh s s' [(D, lst ys e')] → Ints ys (ns.map Int.ofNat) → ns.length = ss.length → (∀ n ∈ ns, n ≤ 100000000) → 0 < s'.toks → Q (.ref D) s') :
    wpAny (model prog w) A (call (.ref f) [.ref Rs, .ref Rt]) Q E s := by
  obtain ⟨o, pm, cd, doc, ho, hd, hc⟩ := hf
  have hts : ts.length = ss.length := by rw [hT.length, List.length_map]
  refine tpos hp (wpAny_call (call_cells_ret (binds := [(Str.ofString "script", Value.ref Rs), (Str.ofString "starts", Value.ref Rt)]) (by lia) ho hd B.nolimit hc rfl (fun x hx => by
    rcases List.mem_cons.mp hx with rfl | hx
    · exact .inr ⟨by with_unfolding_all rfl, by with_unfolding_all rfl⟩
    · rw [List.mem_singleton.mp hx]
      exact .inr ⟨by with_unfolding_all rfl, by with_unfolding_all rfl⟩) (fun h₁ tk F X => ?_) (by with_unfolding_all rfl) (by with_unfolding_all rfl) (by with_unfolding_all rfl)))
  generalize bindL _ _ _ = m0 at F
  generalize hL : s.heap.objs.size = L at F X
  have hA' : (A.deeper (envOfC "_law_sums" (dScope (stA 65)) L f cd)).handled = none := hA
  have c1 : h₁.IsCell (L + 1) (some (.ref Rs)) := X.cell "script" (L + 1) (by with_unfolding_all rfl)
  have c2 : h₁.IsCell (L + 2) (some (.ref Rt)) := X.cell "starts" (L + 2) (by with_unfolding_all rfl)
  have B1 : Base prog w mg mb h₁ := B.keeps F.keep
  subst hL
  with_unfolding_all refine wpAny_execs_cons ?_
  refine wpAny_Return_some ?_
  refine ListComp_DCr (h₀ := s.heap) (L := s.heap.objs.size) (m := m0) (pz := fun _ => true) (d := fun z => .int (sumOf zs ss z)) hA' (by with_unfolding_all rfl) (by with_unfolding_all decide) (by with_unfolding_all rfl) (by with_unfolding_all decide) (by with_unfolding_all rfl) ?_ (by intro _; with_unfolding_all rfl)
  walk1
  refine n_builtin B1 (B1.builtin _ (by decide +kernel)) (by first | reg3_boot | boot_fact) (by decide) ?_ (hx := by with_unfolding_all rfl)
  walk1
  refine args_cons ?_
  walk1
  refine n_builtin B1 (B1.builtin _ (by decide +kernel)) (by first | reg3_boot | boot_fact) (by decide) ?_ (hx := by with_unfolding_all rfl)
  walk1
  refine args_cons ?_
  refine n_cell (c := s.heap.objs.size + 2) (by with_unfolding_all rfl) c2 ?_ (hx := by with_unfolding_all rfl)
  refine args_nil ?_
  refine len_tuple (items := ts.toArray) ⟨_, F.keep _ _ hRt, rfl, e2, rfl⟩ (by rw [List.size_toArray]; lia) ?_
  refine args_nil ?_
  refine call_range_1 ?_
  have hsz : ts.toArray.size = ss.length := by rw [List.size_toArray]; exact hts
  refine ⟨[], _, 0, ts.toArray.size, 1, _, _, _, ss.length, rfl, Heap.get?_push_size _ rfl, small_one (by lia) (by lia) (by lia) (by lia), by rw [rangeSize_one]; split <;> lia, by rw [sizeLine_eq]; lia, F.push _, News.nil, ?_, ?_, ?_⟩
  · intro C a v s₂ m₂ E' _ _ _ _ _ _
    exact wpAny_pure ⟨rfl, _, _, rfl, fun _ _ e => e⟩
  · intro C a v s₂ m₂ E' hC ha hv _ hn hx hk
    obtain ⟨t, rfl⟩ := hv
    have ha' := mem_rangeInts ha
    have kk : Kp h₁ s₂.heap := fun b o e => hk b o (Heap.get?_push_of_some _ e)
    have B2 : Base prog w mg mb s₂.heap := B1.keeps kk
    have hRs2 := lstInComp (lstInComp hRs F.keep) kk
    have hRt2 := kk _ _ (F.keep _ _ hRt)
    clear hk hC
    walk1
    walk1
    refine n_cell (c := s.heap.objs.size + 2) (by with_unfolding_all rfl) (c2.keeps kk) ?_ (hx := by with_unfolding_all rfl)
    refine n_local hn hx ?_ (hx := by with_unfolding_all rfl)
    obtain ⟨j, rfl⟩ := Int.eq_ofNat_of_zero_le ha'.1
    have hj : j < ss.length := by lia
    obtain ⟨tj, hvj⟩ : ∃ t, ts[j]? = some (.int (ss.getD j 0 : Nat) t) := hT.at (by
      rw [List.getElem?_map, List.getElem?_eq_getElem hj, List.getD_eq_getElem?_getD, List.getElem?_eq_getElem hj]
      rfl)
    refine x_itemTupH j hRt2 rfl hvj (by lia) ?_
    walk1
    refine n_builtin B2 (B2.builtin _ (by decide +kernel)) (by first | reg3_boot | boot_fact) (by decide) ?_ (hx := by with_unfolding_all rfl)
    walk1
    refine args_cons ?_
    refine comp_ints (fun x => x.fmod ((10 : Int) ^ (6 : Int).toNat)) hA' ?_ (by with_unfolding_all rfl) (by with_unfolding_all decide) (by with_unfolding_all rfl) (by with_unfolding_all decide) (by with_unfolding_all rfl) (by intro _; with_unfolding_all rfl)
    refine wpAny_Subscript_Slice_step (T := "list") list_getitem_lookup ?_ (by intro _ _; with_unfolding_all rfl)
    refine n_cell (c := s.heap.objs.size + 1) (by with_unfolding_all rfl) (c1.keeps kk) ?_ (hx := by with_unfolding_all rfl)
    refine wpAny_Slice ?_
    refine wpAny_evalPart_some ?_
    refine n_local hn hx ?_ (hx := by with_unfolding_all rfl)
    refine wpAny_evalPart_some ?_
    refine wpAny_Constant_int ?_
    refine wpAny_evalPart_some ?_
    walk1
    refine n_builtin B2 (B2.builtin _ (by decide +kernel)) (by first | reg3_boot | boot_fact) (by decide) ?_ (hx := by with_unfolding_all rfl)
    walk1
    refine args_cons ?_
    refine n_cell (c := s.heap.objs.size + 2) (by with_unfolding_all rfl) (c2.keeps kk) ?_ (hx := by with_unfolding_all rfl)
    refine args_nil ?_
    refine len_tuple (items := ts.toArray) ⟨_, hRt2, rfl, e2, rfl⟩ (by rw [List.size_toArray]; lia) ?_
    refine ⟨(hRs2.push _).typeIs, wpAny_getItem_list_slice (hRs2.push _) (Heap.IsSliceOf.new ..) (.int _ _) (.int _ _) (.int _ _) (by rw [hsz]; intro q; injection q with q; lia) ?_ (by rw [List.size_toArray, hI.length, sizeLine_eq]; lia)⟩
    have hpk := hI.pick (some (j : Int)) (some 63) (some ((ts.toArray.size : Nat) : Int))
    refine ⟨_, (slicePick vs.toArray (some (j : Int)) (some 63) (some ((ts.toArray.size : Nat) : Int))).toList, _, rfl, ⟨_, Heap.get?_push_size _ rfl, rfl, 0, by rw [Array.toArray_toList]⟩, hpk, ?_, ?_, ?_⟩
    · have := length_pickNums_le hI (some (j : Int)) (some 63) (some ((ts.toArray.size : Nat) : Int))
      rw [hpk.length, sizeLine_eq]
      lia
    · intro C' z t' s₄ m₄ E'' hn4 hx4
      walk1
      refine n_local hn4 hx4 ?_ (hx := by with_unfolding_all rfl)
      walk1
      refine wpAny_Constant_int ?_
      refine wpAny_Constant_int ?_
      refine pow_int_small (by decide) (by decide) (by decide) ?_
      refine mod_int' (by decide) ?_
      exact ⟨⟨_, rfl⟩, _, _, rfl, fun _ _ e => e⟩
    · intro D2 ys2 h2 tk2 kp2 hl2 hi2
      refine args_nil ?_
      refine x_sumL hA' hl2 hi2 fun h3 tk3 t3 kp3 => ?_
      refine add_int ?_
      refine ⟨?_, _, _, rfl, fun b o q => kp3 b o (kp2 b o (Heap.get?_push_of_some _ (Heap.get?_push_of_some _ q)))⟩
      rw [hsz]
      exact .int _ _
  · intro D ys h' tk' F' _ hD hl' hp' hc' htk
    obtain ⟨⟨n', e'⟩, _⟩ := hp'
    have hb : ∀ j, j < ss.length → 0 ≤ sumOf zs ss j ∧ sumOf zs ss j ≤ 100000000 := fun j hj => by
      have h1 := sum_mods (pickNums zs (some (j : Int)) (some 63) (some (ss.length : Int)))
      have h2 := length_pickNums_le hI (some (j : Int)) (some 63) (some (ss.length : Int))
      have h3 := hss (ss.getD j 0) (by rw [List.getD_eq_getElem?_getD, List.getElem?_eq_getElem hj]; exact List.getElem_mem hj)
      unfold sumOf
      rw [Int.toNat_natCast]
      lia
    refine h _ D ys ((List.range ss.length).map fun (j : Nat) => (sumOf zs ss (j : Int)).toNat) n' ⟨.of rfl rfl, F'.keep, fun p hp => ?_, by simp⟩ ?_ (by simp) ?_ htk
    · rw [List.mem_singleton.mp hp]
      exact ⟨e', hD⟩
    · refine carried_ints ?_
      have e3 : ((rangeInts 0 1 ss.length).filter fun _ => true).map (fun z => PyData.int (sumOf zs ss z)) = (((List.range ss.length).map fun (j : Nat) => (sumOf zs ss (j : Int)).toNat).map Int.ofNat).map PyData.int := by
        rw [List.filter_eq_self.mpr fun _ _ => rfl]
        unfold rangeInts
        rw [List.map_map, List.map_map, List.map_map]
        refine List.map_congr_left fun j hj => ?_
        have := (hb j (List.mem_range.mp hj)).1
        show PyData.int (sumOf zs ss (0 + (j : Int) * 1)) = PyData.int ((sumOf zs ss j).toNat : Int)
        rw [Int.toNat_of_nonneg this, Int.mul_one, Int.zero_add]
      rw [← e3]
      exact hc'
    · intro n hn
      obtain ⟨j, hj, rfl⟩ := List.mem_map.mp hn
      have := hb j (List.mem_range.mp hj)
      lia
end
/-! the law -/
section
variable {prog : Program} {w : World} {A : Around} {E : Value → Shared → Prop} {s : Shared} {mg mb : Str → Option Value}
set_option maxHeartbeats 2000000 in
theorem law_spec {f R : Addr} {vs : List Value} {zs : List Int} {Q : Value → Shared → Prop} (hz : zs.length ≤ 63) (hR : s.heap.IsList R vs.toArray) (hI : IntsAre vs zs) (hA : A.handled = none) (hD : A.depth + 40 < recursionLimit) (hu : A.units + 70 < cLine)
    (B : Base prog w mg mb s.heap) (hf : FnAt s.heap "law" (stA 79) f) (h : ∀ s', Sm s s' → Kp s.heap s'.heap → Q (.bool true) s') : wpAny (model prog w) A (call (.ref f) [.ref R]) Q E s := by
  obtain ⟨a1, e1, f1⟩ : ∃ a, mg "_law_sums" = some (.ref a) ∧ FnAt s.heap "_law_sums" (stA 65) a := B.fn 4 rfl
  obtain ⟨a2, e2, f2⟩ : ∃ a, mg "_law_tree" = some (.ref a) ∧ FnAt s.heap "_law_tree" (stA 67) a := B.fn 6 rfl
  obtain ⟨a3, e3, f3⟩ : ∃ a, mg "_law_round" = some (.ref a) ∧ FnAt s.heap "_law_round" (stA 78) a := B.fn 17 rfl
  refine x_call [(Str.ofString "script", Value.ref R)] hf B (by lia) (List.cons_ne_nil _ _) (fun _ _ _ => rfl) rfl ?_
  intro s0 L cd _ F
  have hA' : (A.deeper (envOf "law" (dScope (stA 79)) L f cd)).handled = none := hA
  with_unfolding_all refine wpAny_execs_cons ?_
  walk_at "go"
  have F1 := ‹FS _ _ _ _ _ _›
  refine sums_spec (ss := [4753, 120, 361, 302, 180, 180, 2]) hz (lstInComp hR F1.kp) hI (F1.get (.head _)) (by unfold Ints; rfl) (by decide) (by decide) (by decide) hA' (by show A.depth + 1 + 1 < _; lia) F1.tp (B.keeps F1.kp) (f1.keeps F1.kp) fun s2 D ys ns e' N2 hI2 hl hb tp2 => ?_
  have F2 := F1.after N2 tp2
  walk_at "go"
  have F3 := ‹FS _ _ _ _ _ _›
  have hn : ∀ i, i < 7 → ∃ n : Nat, ns[i]? = some n ∧ n ≤ 100000000 ∧ ∃ t, ys[i]? = some (.int (n : Int) t) := fun i hi => by
    have hi' : i < ns.length := by rw [hl]; exact hi
    exact ⟨_, List.getElem?_eq_getElem hi', hb _ (List.getElem_mem hi'), hI2.at (by rw [List.getElem?_map, List.getElem?_eq_getElem hi']; rfl)⟩
  refine tree_spec (by rw [hl]; decide) (by rw [hl]; decide) (F3.get (.head _)) hI2 hA' (by show A.depth + 1 + 5 < _; lia) (B.keeps F3.kp) (f2.keeps F3.kp) fun s4 v X t N4 hT ok h6 tp4 => ?_
  have F4 := F3.after N4 tp4
  have hTv : TreeAt s4.heap v t := Tr.mono (fun a o q => F4.get (List.mem_append_left _ q)) hT
  obtain ⟨n0, q0, b0, t0, g0⟩ := hn 0 (by lia)
  obtain ⟨n6, q6, b6, t6, g6⟩ := hn 6 (by lia)
  walk_at "go"
  refine x_item (FS.get ‹FS _ _ _ _ _ _› (List.mem_append_right _ (.head _))) (by decide) (by decide) g0 ?_
  walk_at "go"
  refine x_fdiv ‹FS _ _ _ _ _ _› (by decide) (by decide) fun s5 t5 F5 => ?_
  rw [show (n0 : Int).fdiv 12 = _ from nfdiv n0 12]
  walk_at "go"
  refine x_item (FS.get ‹FS _ _ _ _ _ _› (List.mem_append_right _ (.head _))) (by decide) (by decide) g6 ?_
  walk_at "go"
  refine x_mod ‹FS _ _ _ _ _ _› (by decide) fun s7 t7 F7 => ?_
  rw [show (n6 : Int).fmod 6 = _ from nfmod n6 6]
  walk_at "go"
  have F8 := ‹FS _ _ _ _ _ _›
  refine round_spec ok (by lia) (by rw [h6]; exact Nat.mod_lt _ (by decide)) (by lia) hA' (by show A.depth + 1 + 30 < _; lia) (by show A.units + 3 + 60 < _; lia) (B.keeps F8.kp) (f3.keeps F8.kp)
    (Tr.mono (fun a o q => F8.get (List.mem_append_left _ q)) hT) fun s9 S9 K9 P9 => ?_
  walk_at "go"
  exact h _ (F8.sm.trans S9) (F8.kp.trans K9)
end
/-! the end: what the head gives is what the law's walk asks -/
def RecIn (V : Program) (p : Str × Nat) : Prop := ∃ d ∈ recsOf V, d.name = p.1 ∧ d.params = dParams (stA p.2) ∧ d.body = dBody (stA p.2) ∧ d.scope = dScope (stA p.2)
theorem kw_find (W : Params) (x : Str) : ∀ l : List (Str × Tok × Value), nsFind (l.map (kwEnt W)).toArray x = (l.lookup x).map (·.2)
  | [] => rfl
  | y :: l => by
    have ih := kw_find W x l
    unfold nsFind findBy at ih ⊢
    rw [List.find?_toArray] at ih ⊢
    obtain ⟨a, t, v⟩ := y
    by_cases e : a = x
    · subst e
      simp [kwEnt, Value.isStr, List.lookup]
    · have e1 : (a == x) = false := beq_eq_false_iff_ne.mpr e
      have e2 : (x == a) = false := beq_eq_false_iff_ne.mpr (Ne.symm e)
      rw [List.map_cons, List.find?_cons, List.lookup_cons, e2]
      simp only [kwEnt, Value.isStr, e1]
      exact ih
theorem mg_kw {h : Heap} {W : Params} {mg : Str → Option Value} (g : h.Ns mainGlobals mg) (kw : (KW W).In h) (x : Str) : mg x = (kwNames.lookup x).map (·.2) := by
  obtain ⟨o, es, ep, e1, e2, _, e4⟩ := g
  have e0 : h.get? 3 = some (kw3 W) := kw 3 _ rfl
  rw [show mainGlobals = 3 from rfl, e0] at e1
  cases e1
  cases e2
  rw [← e4, kw_find]
theorem pairs_kw (prog : Program) (w : World) : ∀ l : List (Str × Tok × Value), Pairs (PySem.strKind prog w) (l.map (kwEnt w.params)) (l.map fun x => (x.1, x.2.2))
  | [] => .nil
  | _ :: l => .cons (strKind_is prog w _ _) rfl (pairs_kw prog w l)
theorem flat_kw : ∀ (l : List (String × Int)) (k : List (Nat × Nat)), l.length = k.length →
    PyProof.V.FlatPairs PyData.str (((l.zip k).map fun x => (Str.ofString x.1.1, x.2.1, Value.int x.1.2 x.2.2)).map fun x : Str × Tok × Value => (x.1, x.2.2)) (l.map fun p => (.str (Str.ofString p.1), .int p.2))
  | [], [], _ => .nil
  | _ :: l, _ :: k, e => .cons (.int _ _) (flat_kw l k (Nat.succ.inj e))
theorem tok_kw {prog : Program} {w : World} {h : Heap} (kw : (KW w.params).In h) : StrTab prog w h 127 tokData := by
  have e0 : h.get? 127 = some (kw127 w.params) := kw 127 _ rfl
  refine ⟨rfl, kwToks.map fun x => (x.1, x.2.2), ⟨_, _, _, e0, ⟨rfl, rfl, rfl⟩, rfl, fun e he => ?_, pairs_kw prog w kwToks, ?_⟩, flat_kw tokTab tokToks rfl⟩
  · obtain ⟨x, _, rfl⟩ := List.mem_map.mp (List.mem_toArray.mp he)
    exact ⟨x.1, strKind_is prog w _ _, rfl⟩
  · rw [List.map_map]
    show (kwToks.map fun x => x.1).Nodup
    decide +kernel
theorem base_kw {V prog : Program} {loose : List Str} {mean : ExcName → Option Value} {w : World} {mg mb : Str → Option Value} {h : Heap} (hV : ∀ p ∈ fnTab, RecIn V p) (T : PyProof.Rows.Top V loose mean mg mb h) (kw : (KW w.params).In h) : Base prog w mg mb h where
  g := T.g
  b := T.b
  nolimit := T.nolimit
  bi := fun x _ hx => T.builtins x hx
  nodigits := T.nodigits
  builtin := fun x hx => by
    rw [mg_kw T.g kw]
    revert x
    decide +kernel
  fns := fun p hp => by
    obtain ⟨d, hd, e1, e2, e3, e4⟩ := hV p hp
    obtain ⟨a, o, pm, cd, doc, h1, h2, h3, h4⟩ := T.fn d hd
    rw [e1] at h1 h4
    rw [e1, e2, e3, e4] at h3
    exact ⟨a, h1, o, pm, cd, doc, h2, h3, h4⟩
  consts := fun p hp => by
    rw [mg_kw T.g kw]
    simp only [List.mem_cons, List.not_mem_nil, or_false] at hp
    rcases hp with rfl | rfl | rfl <;> exact ⟨_, rfl⟩
  tokd := ⟨127, by rw [mg_kw T.g kw]; rfl, tok_kw kw⟩
  ws := by rw [mg_kw T.g kw]; rfl
  kw := kw
theorem walk_law {V : Program} {loose : List Str} {XP : (Str → Option Value) → Heap → Prop} {as : List Addr} {e : ∀ P, as = (KW P).map (·.1)} {pos : Pos} (hV : ∀ p ∈ fnTab, RecIn V p) :
    WalkO V loose XP (kHook KW as e).says Challenge.rw_wo0067_01.row.toRowW ⟨"law", dParams (stA 79), dBody (stA 79), dScope (stA 79), pos⟩ [] fun f vs => call f vs := by
  intro w s₀ s₁ mg mb G Y fa o pm cd doc dV kV ho hd hcd hD hmg hg args vals as hpre hlay hrd hwl hlo
  have KX := kIn_of Y
  have he := Dflts.none hD rfl; subst he
  have he := Dflts.noKw hD; subst he
  wrow_args hpre hlay hrd hwl hlo
  rename_i xs _ _ _ _ _ _ _ R vs _ hL _ _ _ hI _ hn _
  refine law_spec (zs := xs) (by omega) hL hI rfl (by decide) (by decide) (base_kw hV G.T KX) ⟨o, pm, cd, doc, ho, hd, hcd⟩ fun s' S K => ?_
  exact ⟨.inl ⟨.bool true, .bool true, [], rfl, fun _ => rfl, .bool true, by wrow_post, fun _ => ⟨.nil, fun _ q => nomatch q⟩⟩, .of_keep K, S.1, S.2.2 (.of_eq hg)⟩
theorem recs_in {V : Program} (is : List Nat) (h : (is.map fun i => (recsOf V)[i]?.map fun d => (d.name, d.params, d.body, d.scope)) = fnTab.map fun p => some (p.1, dParams (stA p.2), dBody (stA p.2), dScope (stA p.2))) : ∀ p ∈ fnTab, RecIn V p := fun p hp => by
  have hm : some (p.1, dParams (stA p.2), dBody (stA p.2), dScope (stA p.2)) ∈ fnTab.map fun p => some (p.1, dParams (stA p.2), dBody (stA p.2), dScope (stA p.2)) := List.mem_map.mpr ⟨p, hp, rfl⟩
  rw [← h] at hm
  obtain ⟨i, _, e⟩ := List.mem_map.mp hm
  obtain ⟨d, hd, e⟩ := Option.map_eq_some_iff.mp e
  injection e with e1 e
  injection e with e2 e
  injection e with e3 e4
  exact ⟨d, List.mem_of_getElem? hd, e1, e2, e3, e4⟩

end Mine
set_option Elab.async true
namespace Mine
theorem hd.tw17087091549796120035 : True := trivial
theorem hd.tw15616948245753086127 : True := trivial
theorem hd.tw14892549342360969540 : True := trivial
theorem hd.tw6293948785866598258 : True := trivial
theorem hd.tw5961118342813265553 : True := trivial
theorem hd.tw9641152695372364146 : True := trivial
theorem hd.tw11128854368766332075 : True := trivial
theorem hd.tw3650960628870763488 : True := trivial
theorem hd.tw5148922909946612681 : True := trivial
theorem hd.tw5781342201191254626 : True := trivial
theorem hd.tw17711083657039698284 : True := trivial
theorem hd.tw12631932088317031055 : True := trivial
theorem hd.tw2867327485932766208 : True := trivial
theorem hd.tw15103106377680225435 : True := trivial
theorem hd.tw11652457597714270106 : True := trivial
theorem hd.tw3259873300814134281 : True := trivial
theorem hd.tw11117797201346649052 : True := trivial
theorem hd.tw2802487479954581227 : True := trivial
theorem hd.tw2216850387143573719 : True := trivial
theorem hd.tw18322514126500204803 : True := trivial
theorem hd.tw14727110085682223627 : True := trivial
theorem hd.tw8343274005884668182 : True := trivial
theorem hd.tw12936449754285732098 : True := trivial
theorem hd.tw17447410573909459338 : True := trivial
theorem hd.tw5567388512258382067 : True := trivial
theorem hd.tw11953376511379268794 : True := trivial
theorem hd.tw11893437276241958245 : True := trivial
theorem hd.tw1382963296337349011 : True := trivial
theorem hd.tw18300207936620678264 : True := trivial
theorem hd.tw13518370688599389936 : True := trivial
theorem hd.tw13919464512627920130 : True := trivial
theorem hd.tw5278057926702712004 : True := trivial
theorem hd.tw6545403380812914513 : True := trivial
theorem hd.tw4478964076566166474 : True := trivial
theorem hd.tw4115565904173853331 : True := trivial
theorem hd.tw10111801491309104144 : True := trivial
theorem hd.tw12901994302517312135 : True := trivial
theorem hd.tw6819123309680001836 : True := trivial
theorem hd.tw17901334829092211166 : True := trivial
theorem hd.tw2195365466389143174 : True := trivial
theorem hd.tw13225837485096350037 : True := trivial
theorem hd.tw16037735763661986305 : True := trivial
theorem hd.tw8117029840178788049 : True := trivial
theorem hd.tw9421340871869096474 : True := trivial
theorem hd.tw11467801299996457980 : True := trivial
theorem hd.tw701787995468756871 : True := trivial
theorem hd.tw10269440347320898816 : True := trivial
theorem hd.tw7914949630228597729 : True := trivial
theorem hd.tw8890031922352131692 : True := trivial
theorem hd.tw16056359734778111409 : True := trivial
theorem hd.tw17449393022594162991 : True := trivial
theorem hd.tw6060742912462422084 : True := trivial
theorem hd.tw13483081372092288885 : True := trivial
theorem hd.tw3673089383077640791 : True := trivial
theorem hd.tw1129884963351977449 : True := trivial
theorem hd.tw10170382586518783626 : True := trivial
theorem hd.tw15166520500009309586 : True := trivial
theorem hd.tw17574625026820762457 : True := trivial
theorem hd.tw5634249674695799605 : True := trivial
theorem hd.tw16412773359747925120 : True := trivial
theorem hd.tw17673860158736603733 : True := trivial
theorem hd.tw10403243965636340961 : True := trivial
theorem hd.tw4225703048834024713 : True := trivial
theorem hd.tw7366208706002141716 : True := trivial
theorem hd.tw4172343393113369950 : True := trivial
theorem hd.tw16945582573551092051 : True := trivial
theorem hd.tw16853341256802265648 : True := trivial
theorem hd.tw11213053971927718326 : True := trivial
theorem hd.tw15527848837575444561 : True := trivial
theorem hd.tw4513884756475024261 : True := trivial
theorem hd.tw4851647983119433812 : True := trivial
theorem hd.tw10784824025267889561 : True := trivial
theorem hd.tw10743916045514856203 : True := trivial
theorem hd.tw12487502673411948298 : True := trivial
theorem hd.tw3109861748172591687 : True := trivial
theorem hd.tw15595854959937240912 : True := trivial
theorem hd.tw6196171512934965099 : True := trivial
theorem hd.tw17950676927832955104 : True := trivial
theorem hd.tw10458740792067480800 : True := trivial
theorem hd.tw1506431575118746342 : True := trivial
theorem hd.tw17183224562656869120 : True := trivial
theorem hd.tw15833661619300960221 : True := trivial
theorem hd.tw17213754286329925777 : True := trivial
theorem hd.tw16091413853298234908 : True := trivial
theorem hd.tw6820862383352777685 : True := trivial
theorem hd.tw402640490398009360 : True := trivial
theorem hd.tw8716120427605611371 : True := trivial
theorem hd.tw15837987909243819085 : True := trivial
theorem hd.tw8960069828448710407 : True := trivial
theorem hd.tw7120233287515763914 : True := trivial
theorem hd.tw6276725880618359904 : True := trivial
theorem hd.tw15642763164714097627 : True := trivial
theorem hd.tw3789350110615891812 : True := trivial
theorem hd.tw5688689073270430877 : True := trivial
theorem hd.tw4478166936697009375 : True := trivial
theorem hd.tw5174551420813472067 : True := trivial
theorem hd.tw9170477692918782315 : True := trivial
theorem hd.tw18103342009636024947 : True := trivial
theorem hd.tw15967140613478806237 : True := trivial
theorem hd.tw16194383521188589630 : True := trivial
theorem hd.tw189712035060473897 : True := trivial
theorem hd.tw1413172679324656950 : True := trivial
theorem hd.tw9719896912496429819 : True := trivial
theorem hd.tw3039998526598829958 : True := trivial
theorem hd.tw5902613922787404954 : True := trivial
theorem hd.tw12949589719889679912 : True := trivial
theorem hd.tw10883895901094618302 : True := trivial
theorem hd.tw14955159897011116063 : True := trivial
theorem hd.tw16259696140248634718 : True := trivial
theorem hd.tw15089522573102190283 : True := trivial
theorem hd.tw11917015161858427179 : True := trivial
theorem hd.tw9748044761591592747 : True := trivial
theorem hd.tw5858630264745516266 : True := trivial
theorem hd.tw11513968764499736323 : True := trivial
theorem hd.tw16299908979028503884 : True := trivial
theorem hd.tw1359830224848277088 : True := trivial
theorem hd.tw11054480109507316185 : True := trivial
theorem hd.tw11631947586910100387 : True := trivial
theorem hd.tw2386827423013361158 : True := trivial
theorem hd.tw7722218748539011569 : True := trivial
theorem hd.tw13790719812936386609 : True := trivial
theorem hd.tw6164396464334811476 : True := trivial
theorem hd.tw2101469004524951375 : True := trivial
theorem hd.tw15615537253650120727 : True := trivial
theorem hd.tw13855881374063213867 : True := trivial
theorem hd.tw1011335219593555734 : True := trivial
theorem hd.tw18093812233618175256 : True := trivial
theorem hd.tw1222794163293265305 : True := trivial
theorem hd.tw17006298447274111571 : True := trivial
theorem hd.tw17672654358674132775 : True := trivial
theorem hd.tw4360684699965382250 : True := trivial
theorem hd.tw8735263284916673568 : True := trivial
theorem hd.tw17893044597097874663 : True := trivial
theorem hd.tw15042006015671813226 : True := trivial
theorem hd.tw8112040973832200146 : True := trivial
theorem hd.tw18343703819029505601 : True := trivial
theorem hd.tw2930668341846507884 : True := trivial
theorem hd.tw7023726343779634624 : True := trivial
theorem hd.tw5511420028821071320 : True := trivial
theorem hd.tw9741134391959003819 : True := trivial
theorem hd.tw5657824000916062451 : True := trivial
theorem hd.tw11402939732021071671 : True := trivial
theorem hd.tw6555240042291301478 : True := trivial
theorem hd.tw6411954120941647267 : True := trivial
theorem hd.tw922143313871775805 : True := trivial
theorem hd.tw14168552714766633299 : True := trivial
theorem hd.tw10792051664901133789 : True := trivial
theorem hd.tw6785817131721698500 : True := trivial
theorem hd.tw5387394851084113601 : True := trivial
theorem hd.tw12070051907170230399 : True := trivial
theorem hd.tw11232374478483605306 : True := trivial
theorem hd.tw9345676750909349944 : True := trivial
theorem hd.tw2603259988358896889 : True := trivial
theorem hd.tw17714235663813219645 : True := trivial
theorem hd.tw10614716105012338702 : True := trivial
theorem hd.tw6019021122589006684 : True := trivial
theorem hd.tw1800889605409440832 : True := trivial
theorem hd.tw9960721518486171458 : True := trivial
theorem hd.tw7955510936560370401 : True := trivial
theorem hd.tw1097998534492414930 : True := trivial
theorem hd.tw16007149819294483003 : True := trivial
theorem hd.tw5036846961687405229 : True := trivial
theorem hd.tw9345929723534960622 : True := trivial
theorem hd.tw1997569388931296116 : True := trivial
theorem hd.tw17054507655720011243 : True := trivial
theorem hd.tw1760603350576429475 : True := trivial
theorem hd.tw16920754564084929960 : True := trivial
theorem hd.tw17975533764899295144 : True := trivial
theorem hd.tw4402725079659364252 : True := trivial
theorem hd.tw1600037746751723098 : True := trivial
theorem hd.tw8458067239894703972 : True := trivial
theorem hd.tw8226494294326810461 : True := trivial
theorem hd.tw13770079208771991547 : True := trivial
theorem hd.tw15790720579355451973 : True := trivial
theorem hd.tw11319892378374348655 : True := trivial
theorem hd.tw3452082135128663414 : True := trivial
theorem hd.tw9120999728284197611 : True := trivial
theorem hd.tw728884934406724761 : True := trivial
theorem hd.tw17606422857730326317 : True := trivial
theorem hd.tw13368278939475635651 : True := trivial
theorem hd.tw11465210709893060100 : True := trivial
theorem hd.tw3451239065008710300 : True := trivial
theorem hd.tw11319097763535126812 : True := trivial
theorem hd.tw6407587892757256292 : True := trivial
theorem hd.tw15411387601460861337 : True := trivial
theorem hd.tw4086058157674990017 : True := trivial
theorem hd.tw9673543361469618366 : True := trivial
theorem hd.tw8457440626546761165 : True := trivial
theorem hd.tw6082411064634330575 : True := trivial
theorem hd.tw9566141503761928105 : True := trivial
theorem hd.tw3571134770919094901 : True := trivial
theorem hd.tw15529170255622000948 : True := trivial
theorem hd.tw16345102440705955213 : True := trivial
theorem hd.tw12647368939536790636 : True := trivial
theorem hd.tw7754304195085646258 : True := trivial
theorem hd.tw11754176132448286083 : True := trivial
theorem hd.tw22551697357593593 : True := trivial
theorem hd.tw6291416237084387574 : True := trivial
theorem hd.tw7355570028127101125 : True := trivial
theorem hd.tw6767318904944593275 : True := trivial
theorem hd.tw10601615944963115059 : True := trivial
theorem hd.tw3646829019195819677 : True := trivial
theorem hd.tw4971549296188076032 : True := trivial
theorem hd.tw17177331786930743035 : True := trivial
theorem hd.tw758273949599710562 : True := trivial
theorem hd.tw17542962492245011380 : True := trivial
theorem hd.tw5343241284826551009 : True := trivial
theorem hd.tw11162318198679636149 : True := trivial
theorem hd.tw18219297243305740317 : True := trivial
theorem hd.tw11136197038861592535 : True := trivial
theorem hd.tw18293732401869909652 : True := trivial
theorem hd.tw11660266114150955751 : True := trivial
theorem hd.tw6442067068224118133 : True := trivial
theorem hd.tw3229955645248102723 : True := trivial
theorem hd.tw10603584201595350602 : True := trivial
theorem hd.tw11041590408114104254 : True := trivial
theorem hd.tw2887051446865420828 : True := trivial
theorem hd.tw9657781627882305391 : True := trivial
theorem hd.tw5190246844813560578 : True := trivial
theorem hd.tw14103535550066685397 : True := trivial
theorem hd.tw16432713993328977331 : True := trivial
theorem hd.tw7028611270464810887 : True := trivial
theorem hd.tw14246236162039180721 : True := trivial
theorem hd.tw1518305811592690382 : True := trivial
theorem hd.tw8228950375871286339 : True := trivial
theorem hd.tw16064382804478563927 : True := trivial
theorem hd.tw6394381022753523788 : True := trivial
theorem hd.tw17062030032774818151 : True := trivial
theorem hd.tw6305734824756694309 : True := trivial
theorem hd.tw2708950531961675432 : True := trivial
theorem hd.tw4494801613693538912 : True := trivial
theorem hd.tw10424393626065333798 : True := trivial
theorem hd.tw1439246655266547700 : True := trivial
theorem hd.tw12023040214023829324 : True := trivial
set_option maxHeartbeats 0 in
theorem hd : PySem.Challenge.rw_wo0067_01.Holds := by
  w_on
  o_law
  o_head (kHook KW kwAs (fun _ => by kernel_rfl))
  (case hw => w_witness2)
  w_strict (exact walk_law (recs_in [1, 2, 3, 4, 5, 6, 7, 8, 9, 10, 11, 12, 13, 14, 15, 16, 17, 18] (by kernel_rfl)))
end Mine

theorem PySem.Challenge.cw_wo0067_01_holds : PySem.Challenge.rw_wo0067_01.Holds :=
  Mine.hd
