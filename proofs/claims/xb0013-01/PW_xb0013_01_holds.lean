import PyProof.Rows.All
import Wide.All
import OpenK.AllK
import Wide.FinOn
import PySem.Challenge.RW_xb0013_01
open PySem PySem.W PyProof.Rows PySem.Calls
set_option Elab.async false
set_option maxRecDepth 100000
set_option autoImplicit false
set_option maxHeartbeats 1000000
set_option linter.unusedVariables false
set_option compiler.extract_closed false
set_option bootstrap.genMatcherCode false
set_option genSizeOf false
set_option genInjectivity false
set_option tactic.hygienic false
namespace Mine
local macro_rules | `(tactic| omega) => `(tactic| lia)
def auN (k : Lean.Name) (a : Array Lean.Syntax) : Lean.Syntax := .node .none k a
def auT (s : String) : Lean.Syntax := .atom .none s
def auQ (a : Array Lean.Syntax) : Lean.Syntax := auN ``Lean.Parser.Tactic.tacticSeq #[auN ``Lean.Parser.Tactic.tacticSeq1Indented #[auN `null a]]
def auI (f : String) : Lean.Syntax := .ident .none f.toRawSubstring f.toName []
def auH : Lean.Syntax := auN ``Lean.Parser.Term.hole #[auT "_"]
def auB (s : String) : Lean.Syntax :=
  ([("r", auN ``Lean.Parser.Tactic.tacticRfl #[auT "rfl"]), ("a", auN ``Lean.Parser.Tactic.assumption #[auT "assumption"]), ("d", auN ``Lean.Parser.Tactic.decide #[auT "decide", auN ``Lean.Parser.Tactic.optConfig #[auN `null #[]]]), ("k", auN ``PySem.W.tacticK_is #[auT "k_is"]), ("s", auN ``Lean.Parser.Tactic.skip #[auT "skip"]), ("1", auN ``Lean.Parser.Tactic.intro #[auT "intro", auN `null #[auH]]), ("c", auN ``Lean.Parser.Tactic.tacticAnd_intros #[auT "and_intros"])].lookup s).getD (auN ``PyProof.Rows.tacticWalk_at_ #[auT "walk_at", auN `str #[auT s.quote]])
def auG (s : String) : Lean.Syntax :=
  ([("?", auN ``Lean.Parser.Term.syntheticHole #[auT "?", auT "_"]), ("_", auH), ("=", auI "rfl")].lookup s).getD (auN ``Lean.Parser.Term.byTactic #[auT "by", auQ #[auB s]])
def auS (s : String) : Lean.Syntax :=
  let l := s.splitOn " "
  let x := l.getD 1 ""
  let f := l.getD 0 ""
  if f == "" then auB x
  else if f == "@" then auN ``Lean.Parser.Tactic.apply #[auT "apply", auI x]
  else auN ``Lean.Parser.Tactic.refine #[auT "refine", if l.length == 1 then auI f else auN ``Lean.Parser.Term.app #[auI f, auN `null (l.tail.map auG).toArray]]
def auC (s : String) : Lean.Syntax := auQ ((s.splitOn ";").foldl (fun a x => (if a.isEmpty then a else a.push (auT ";")).push (auS x)) #[])
def auM (s : String) : Lean.TSyntax `tactic := ⟨auN ``Lean.Parser.Tactic.first #[auT "first", auN `null ((s.splitOn "|").map fun x => auN `group #[auT "|", auC x]).toArray]⟩
def auL : List (String × String) := [("put", "Put.head _|@ Put.tail; put"), ("mem", "List.Mem.head _|@ List.Mem.tail; mem"), ("pick", "Pick.head _|@ Pick.tail; pick"), ("hx", " a|Or.inl mem|Or.inr a|Has.cons ?; hx"), ("gl", "r_global a a k ?|r_builtinT a a k r d ?|r_builtinF a a k r d ?"), ("n", "r_NameL r a nm ?|r_NameG r ?; gl|r_NameC a r hx ?|r_NameF a r hx ?| gl"), ("sto", "r_store a ?; 1; 1|r_storeC a r put ?; 1; 1"), ("sub", "Sub.nil|Sub.cons = ?; sub| s"), ("op", "op_add|op_sub|op_eqI|op_neI|op_ltI|op_gtI|op_eqS|op_neS|op_iadd|op_isub|op_mod d"), ("ev", "ev_int|ev_str|ev_none|ev_bool|ev_name =|@ ev_bin; ev; ev; op"), ("glb", "GlB.mk r k r d d"), ("glf", "GlF.mk r k k d"), ("evl", "evl_nil|evl_cons ev ?; evl| s")]
def auR : Lean.Syntax := auC " r"
def auI1 : Lean.Syntax := auC " 1; r"
def auI2 : Lean.Syntax := auC " 1; 1; r"
def auI4 : Lean.Syntax := auC " 1; 1; 1; 1; r"
def auD : Lean.Syntax := auC " d"
def auP : Lean.Syntax := auC " 1; c; r; 1; r"
def auE : Lean.Syntax := auC "@ scEnv; 1; r"
def auO : Lean.Syntax := auC "ntab ="
def auF : Lean.Syntax := auQ #[auM "ydic a|ndic ="]
noncomputable def hdS (i : Nat) : Stmt := PySem.Challenge.pw_xb0013_01.main.body.getD i (.Pass default)
noncomputable def hdB : Stmt -> List Stmt | .FunctionDef (body := b) .. => b | .ClassDef (body := b) .. => b | _ => []
noncomputable def hdM (i : Nat) : Stmt := (hdB (hdS 10)).getD i (.Pass default)
noncomputable abbrev hdV (x : Str) (t : Tok) : Value := .str x t
noncomputable abbrev hdK (P : Params) (x : Str) (t : Tok) (v : Value) : DictEntry := ⟨PyData.keyHash P x, .str x t, v⟩
noncomputable abbrev hdT (l : List Value) : Obj := { cls := .type "tuple", data := .seq l.toArray }
noncomputable abbrev hdC (x q : Str) (t ln ar fl a n : Nat) : Obj := { cls := .type "code", data := .fields #[hdV x t, hdV q (t + 1), hdV "/claim/cut.py" (t + 2), .int ln 0, .int ar 0, .int 0 0, .int 0 0, .int fl 0, .ref a, .bool true, .int 181 0, .ref (a + 1),
 .none, .ref (a + 2), .ref (a + 3), .ref (a + 4), .int (t + 3 + n) 0, .int ln 0, hdV "/claim/cut.py" (t + 4 + n)] }
noncomputable abbrev hdF {n bd : Str} {a : Arguments} {b : List Stmt} {d : List Expr} {r : Option Expr} {tp : List TypeParam} {sc : Scope} {ts : Option Scope} {ps : Pos} (x q : Str) (s : Stmt) (md : Value) (cd : Nat) (_ : s = .FunctionDef n a b d r tp sc ts bd ps) : Obj :=
 { cls := .type "function", data := .func { name := x, qualname := q, params := a, body := .stmts b, scope := sc, globals := 3, closure := [], defaults := .none, kwdefaults := .none, pyModule := md, code := .ref cd } }
noncomputable def heapK (P : Params) : Frag :=
 (nat_lit 2, { cls := .none, data := .dict #[] }) ::
 (nat_lit 3, { cls := .type "dict", data := .dict #[hdK P "__name__" 165 (.str "law_xb0013_01" 330), hdK P "__doc__" 166 .none, hdK P "__package__" 167 .none, hdK P "__loader__" 168 (.builtin "__main__.__loader__#opaque"), hdK P "__spec__" 169 .none, hdK P "__annotations__" 170 (.ref 6), hdK P "__builtins__" 171 (.ref 4), hdK P "__file__" 173 (.str "/claim/cut.py" 172), hdK P "__cached__" 174 .none, hdK P "add_func_stats" 206 (.ref 21), hdK P "add_callers" 217 (.ref 28), hdK P "count_calls" 226 (.ref 35), hdK P "_iter_escaped_chars" 238 (.ref 42), hdK P "_strip_quoted_realnames" 250 (.ref 49), hdK P "_check_parenthesis" 260 (.ref 56), hdK P "_pre_parse_validation" 269 (.ref 63), hdK P "_netrclex" 329 (.ref 101), hdK P "_law_lexer" 340 (.ref 112), hdK P "_law_rows" 354 (.ref 119), hdK P "_law_nested" 365 (.ref 126), hdK P "_law_in_line" 377 (.ref 133), hdK P "_law_told" 388 (.ref 140), hdK P "_law_filed" 402 (.ref 147), hdK P "law" 408 (.ref 152)] 24 }) ::
 (nat_lit 15, hdT []) ::
 (nat_lit 17, hdT [hdV "target" 192, hdV "source" 193, hdV "cc" 194, hdV "nc" 195, hdV "tt" 196, hdV "ct" 197, hdV "callers" 198, hdV "t_cc" 199, hdV "t_nc" 200, hdV "t_tt" 201, hdV "t_ct" 202, hdV "t_callers" 203]) ::
 (nat_lit 18, hdT []) ::
 (nat_lit 20, hdC "add_func_stats" "add_func_stats" 189 2 2 3 15 12) ::
 (nat_lit 21, hdF "add_func_stats" "add_func_stats" (hdS 1) (hdV "cpy313.pstats" 187) 20 rfl) ::
 (nat_lit 22, hdT []) ::
 (nat_lit 24, hdT [hdV "target" 210, hdV "source" 211, hdV "new_callers" 212, hdV "func" 213, hdV "caller" 214]) ::
 (nat_lit 25, hdT []) ::
 (nat_lit 27, hdC "add_callers" "add_callers" 207 6 2 3 22 5) ::
 (nat_lit 28, hdF "add_callers" "add_callers" (hdS 2) (hdV "cpy313.pstats" 187) 27 rfl) ::
 (nat_lit 29, hdT []) ::
 (nat_lit 31, hdT [hdV "callers" 221, hdV "nc" 222, hdV "calls" 223]) ::
 (nat_lit 32, hdT []) ::
 (nat_lit 34, hdC "count_calls" "count_calls" 218 19 1 3 29 3) ::
 (nat_lit 35, hdF "count_calls" "count_calls" (hdS 3) (hdV "cpy313.pstats" 187) 34 rfl) ::
 (nat_lit 36, hdT []) ::
 (nat_lit 38, hdT [hdV "addr" 232, hdV "pos" 233, hdV "escape" 234, hdV "ch" 235]) ::
 (nat_lit 39, hdT []) ::
 (nat_lit 41, hdC "_iter_escaped_chars" "_iter_escaped_chars" 229 25 1 35 36 4) ::
 (nat_lit 42, hdF "_iter_escaped_chars" "_iter_escaped_chars" (hdS 5) (hdV "cpy313.email.utils" 227) 41 rfl) ::
 (nat_lit 43, hdT []) ::
 (nat_lit 45, hdT [hdV "addr" 242, hdV "start" 243, hdV "open_pos" 244, hdV "result" 245, hdV "pos" 246, hdV "ch" 247]) ::
 (nat_lit 46, hdT []) ::
 (nat_lit 48, hdC "_strip_quoted_realnames" "_strip_quoted_realnames" 239 38 1 3 43 6) ::
 (nat_lit 49, hdF "_strip_quoted_realnames" "_strip_quoted_realnames" (hdS 6) (hdV "cpy313.email.utils" 227) 48 rfl) ::
 (nat_lit 50, hdT []) ::
 (nat_lit 52, hdT [hdV "addr" 254, hdV "opens" 255, hdV "pos" 256, hdV "ch" 257]) ::
 (nat_lit 53, hdT []) ::
 (nat_lit 55, hdC "_check_parenthesis" "_check_parenthesis" 251 56 1 3 50 4) ::
 (nat_lit 56, hdF "_check_parenthesis" "_check_parenthesis" (hdS 7) (hdV "cpy313.email.utils" 227) 55 rfl) ::
 (nat_lit 57, hdT []) ::
 (nat_lit 59, hdT [hdV "email_header_fields" 264, hdV "accepted_values" 265, hdV "v" 266]) ::
 (nat_lit 60, hdT []) ::
 (nat_lit 62, hdC "_pre_parse_validation" "_pre_parse_validation" 261 67 1 3 57 3) ::
 (nat_lit 63, hdF "_pre_parse_validation" "_pre_parse_validation" (hdS 8) (hdV "cpy313.email.utils" 227) 62 rfl) ::
 (nat_lit 71, hdT []) ::
 (nat_lit 73, hdT [hdV "self" 287, hdV "fp" 288]) ::
 (nat_lit 74, hdT []) ::
 (nat_lit 76, hdC "__init__" "_netrclex.__init__" 284 77 2 3 71 2) ::
 (nat_lit 77, hdF "__init__" "_netrclex.__init__" (hdM 0) (hdV "cpy313.netrc" 270) 76 rfl) ::
 (nat_lit 78, hdT []) ::
 (nat_lit 80, hdT [hdV "self" 295, hdV "ch" 296]) ::
 (nat_lit 81, hdT []) ::
 (nat_lit 83, hdC "_read_char" "_netrclex._read_char" 292 83 1 3 78 2) ::
 (nat_lit 84, hdF "_read_char" "_netrclex._read_char" (hdM 1) (hdV "cpy313.netrc" 270) 83 rfl) ::
 (nat_lit 85, hdT []) ::
 (nat_lit 87, hdT [hdV "self" 303, hdV "token" 304, hdV "fiter" 305, hdV "ch" 306]) ::
 (nat_lit 88, hdT []) ::
 (nat_lit 90, hdC "get_token" "_netrclex.get_token" 300 89 1 3 85 4) ::
 (nat_lit 91, hdF "get_token" "_netrclex.get_token" (hdM 2) (hdV "cpy313.netrc" 270) 90 rfl) ::
 (nat_lit 92, hdT []) ::
 (nat_lit 94, hdT [hdV "self" 313, hdV "token" 314]) ::
 (nat_lit 95, hdT []) ::
 (nat_lit 97, hdC "push_token" "_netrclex.push_token" 310 116 2 3 92 2) ::
 (nat_lit 98, hdF "push_token" "_netrclex.push_token" (hdM 3) (hdV "cpy313.netrc" 270) 97 rfl) ::
 (nat_lit 99, hdT [hdV "instream" 318, hdV "lineno" 319, hdV "pushback" 320, hdV "whitespace" 321]) ::
 (nat_lit 100, { cls := .type "dict", data := .dict #[hdK P "__module__" 279 (.str "cpy313.netrc" 270), hdK P "__firstlineno__" 283 (.int 75 282), hdK P "__init__" 291 (.ref 77), hdK P "_read_char" 299 (.ref 84), hdK P "get_token" 309 (.ref 91), hdK P "push_token" 317 (.ref 98), hdK P "__static_attributes__" 322 (.ref 99), hdK P "__dict__" 324 (.ref 102), hdK P "__weakref__" 326 (.ref 103), hdK P "__doc__" 327 .none] 4 }) ::
 (nat_lit 101, { cls := .type "type", data := .cls { name := "_netrclex", bases := [.type "object"], mro := [.ref 101, .type "object"], ns := 100, qualname := "_netrclex" }, slots := #[none, none, some (hdV "_netrclex" 272), some (hdV "_netrclex" 280), some (.builtin "object.__new__"), some (.bool true)] }) ::
 (nat_lit 102, { cls := .type "getset_descriptor", data := .fields #[hdV "__dict__" 323, .ref 101, .builtin "function.__dict__", .builtin "function.__dict__#set"] }) ::
 (nat_lit 103, { cls := .type "getset_descriptor", data := .fields #[hdV "__weakref__" 325, .ref 101, .builtin "ExceptionGroup.__weakref__", .none] }) ::
 (nat_lit 106, hdT []) ::
 (nat_lit 108, hdT [hdV "text" 335, hdV "stream" 336]) ::
 (nat_lit 109, hdT [hdV "rest" 337]) ::
 (nat_lit 111, hdC "_law_lexer" "_law_lexer" 332 119 1 3 106 3) ::
 (nat_lit 112, hdF "_law_lexer" "_law_lexer" (hdS 12) (hdV "law_xb0013_01" 330) 111 rfl) ::
 (nat_lit 113, hdT []) ::
 (nat_lit 115, hdT [hdV "calls" 344, hdV "deeds" 345, hdV "place" 346, hdV "rows" 347, hdV "call" 348, hdV "words" 349, hdV "turn" 350, hdV "word" 351]) ::
 (nat_lit 116, hdT []) ::
 (nat_lit 118, hdC "_law_rows" "_law_rows" 341 124 3 3 113 8) ::
 (nat_lit 119, hdF "_law_rows" "_law_rows" (hdS 13) (hdV "law_xb0013_01" 330) 118 rfl) ::
 (nat_lit 120, hdT []) ::
 (nat_lit 122, hdT [hdV "rows" 358, hdV "first" 359, hdV "text" 360, hdV "lasting" 361, hdV "word" 362]) ::
 (nat_lit 123, hdT []) ::
 (nat_lit 125, hdC "_law_nested" "_law_nested" 355 132 2 3 120 5) ::
 (nat_lit 126, hdF "_law_nested" "_law_nested" (hdS 14) (hdV "law_xb0013_01" 330) 125 rfl) ::
 (nat_lit 127, hdT []) ::
 (nat_lit 129, hdT [hdV "line" 369, hdV "rows" 370, hdV "first" 371, hdV "pairs" 372, hdV "name" 373, hdV "word" 374]) ::
 (nat_lit 130, hdT []) ::
 (nat_lit 132, hdC "_law_in_line" "_law_in_line" 366 140 3 3 127 6) ::
 (nat_lit 133, hdF "_law_in_line" "_law_in_line" (hdS 15) (hdV "law_xb0013_01" 330) 132 rfl) ::
 (nat_lit 134, hdT []) ::
 (nat_lit 136, hdT [hdV "text" 381, hdV "pairs" 382, hdV "lasting" 383, hdV "place" 384, hdV "unit" 385]) ::
 (nat_lit 137, hdT []) ::
 (nat_lit 139, hdC "_law_told" "_law_told" 378 151 1 3 134 5) ::
 (nat_lit 140, hdF "_law_told" "_law_told" (hdS 16) (hdV "law_xb0013_01" 330) 139 rfl) ::
 (nat_lit 141, hdT []) ::
 (nat_lit 143, hdT [hdV "pairs" 392, hdV "prices" 393, hdV "book" 394, hdV "caller" 395, hdV "callee" 396, hdV "elder" 397, hdV "more" 398, hdV "kept" 399]) ::
 (nat_lit 144, hdT []) ::
 (nat_lit 146, hdC "_law_filed" "_law_filed" 389 160 2 3 141 8) ::
 (nat_lit 147, hdF "_law_filed" "_law_filed" (hdS 17) (hdV "law_xb0013_01" 330) 146 rfl) ::
 (nat_lit 148, hdT []) ::
 (nat_lit 151, { cls := .type "code", data := .fields #[hdV "law" 403, hdV "law" 404, hdV "/claim/cut.py" 405, .int 169 0, .int 1 0, .int 0 0, .int 0 0, .int 3 0, .ref 148, .bool true, .int 181 0, .ref 149, .none, .none, .none, .ref 150, .int 406 0, .int 169 0, hdV "/claim/cut.py" 407] }) ::
 (nat_lit 152, hdF "law" "law" (hdS 18) (hdV "law_xb0013_01" 330) 151 rfl) :: []

example : PySem.Challenge.rw_xb0013_01 = PySem.Challenge.rw_xb0013_01 /\ heapK = heapK := by
  k_fill
  exact ⟨rfl, rfl⟩
end Mine
namespace Mine.Internal
local macro_rules | `(tactic| omega) => `(tactic| lia)
local macro_rules | `(tactic| walk_at $s:str) => match auL.lookup s.getString with | some m => pure (auM m) | none => Lean.Macro.throwUnsupported
noncomputable abbrev OP := Obj -> Prop
noncomputable abbrev Led := List (Addr × OP)
set_option genInjectivity true in
structure Cx where
 os : OsState
 gs : Array GenState
structure Hf (c : Cx) (g : Heap) (own : Led) (s : Shared) : Prop where
 keep : ∀ b o, g.get? b = some o -> s.heap.get? b = some o
 led : ∀ p ∈ own, (∃ o, s.heap.get? p.1 = some o /\ p.2 o) /\ g.get? p.1 = none
 nodup : (own.map (·.1)).Nodup
 gsEq : s.gens = c.gs
 osEq : s.os = c.os
noncomputable def nsO (m : Str -> Option Value) : OP := fun o => ∃ es ep, o.data = .dict es ep /\ StrKeys es /\ ∀ name, nsFind es name = m name
noncomputable def listO (vs : List Value) : OP := fun o => ∃ n, o = ({ cls := .type "list", data := .seq vs.toArray n } : Obj)
noncomputable def cellO (v : Option Value) : OP := fun o => o.data = .cell v
noncomputable def eqO (x : Obj) : OP := fun o => o = x
variable {c : Cx} {g g' : Heap} {own own' rest : Led} {s s' : Shared} {a b L : Addr} {Pa Pb : OP} {m : Str -> Option Value} {o : Obj}
theorem Hf.at (S : Hf c g own s) (h : (a, Pa) ∈ own) : ∃ o, s.heap.get? a = some o /\ Pa o := (S.led _ h).1
theorem Hf.off (S : Hf c g own s) (h : (a, Pa) ∈ own) : g.get? a = none := (S.led _ h).2
theorem Hf.lt (S : Hf c g own s) (h : (a, Pa) ∈ own) : a < s.heap.objs.size := let ⟨_, e, _⟩ := S.at h; Heap.lt_size e
theorem Hf.new (S : Hf c g own s) : g.get? s.heap.objs.size = none := by
 cases q : g.get? s.heap.objs.size with
 | none => rfl
 | some o => exact absurd (Heap.lt_size (S.keep _ _ q)) (Nat.lt_irrefl _)
theorem Hf.like (S : Hf c g own s) {s' : Shared} (hh : s'.heap = s.heap) (hg : s'.gens = s.gens) (ho : s'.os = s.os) : Hf c g own s' :=
 ⟨fun b o e => by rw [hh]; exact S.keep b o e, fun p hp => by rw [hh]; exact S.led p hp, S.nodup, by rw [hg]; exact S.gsEq, by rw [ho]; exact S.osEq⟩
theorem Hf.tok (S : Hf c g own s) (t : Nat) : Hf c g own { s with toks := t } := S.like rfl rfl rfl
theorem Hf.alloc (S : Hf c g own s) (o : Obj) (hP : Pa o) (hf : autoParam (o.isFreed = false) auR) : Hf c g ((s.heap.objs.size, Pa) :: own) { s with heap := s.heap.push o } := by
 refine ⟨fun b o e => Heap.get?_push_of_some _ (S.keep b o e), fun p hp => ?_, ?_, S.gsEq, S.osEq⟩
 ·rcases List.mem_cons.mp hp with rfl | hp
  ·exact ⟨⟨o, Heap.get?_push_size _ hf, hP⟩, S.new⟩
  ·obtain ⟨⟨o', e, q⟩, n⟩ := S.led p hp
   exact ⟨⟨o', Heap.get?_push_of_some _ e, q⟩, n⟩
 ·rw [List.map_cons, List.nodup_cons]
  refine ⟨fun q => ?_, S.nodup⟩
  obtain ⟨p, hp, e⟩ := List.mem_map.mp q
  exact absurd (S.lt (a := p.1) (Pa := p.2) hp) (by rw [e]; exact Nat.lt_irrefl _)
theorem Hf.push (S : Hf c g own s) (o : Obj) : Hf c g own { s with heap := s.heap.push o } := by
 refine ⟨fun b o e => Heap.get?_push_of_some _ (S.keep b o e), fun p hp => ?_, S.nodup, S.gsEq, S.osEq⟩
 obtain ⟨⟨o', e, q⟩, n⟩ := S.led p hp
 exact ⟨⟨o', Heap.get?_push_of_some _ e, q⟩, n⟩
theorem Hf.perm (S : Hf c g own s) (h : own.Perm own') : Hf c g own' s :=
 ⟨S.keep, fun p hp => S.led p (h.mem_iff.mpr hp), (h.map _).nodup_iff.mp S.nodup, S.gsEq, S.osEq⟩
theorem Hf.tail {p : Addr × OP} (S : Hf c g (p :: own) s) : Hf c g own s :=
 ⟨S.keep, fun q hq => S.led q (.tail _ hq), (List.nodup_cons.mp (by simpa using S.nodup)).2, S.gsEq, S.osEq⟩
theorem Hf.ne (S : Hf c g ((a, Pa) :: own) s) (h : (b, Pb) ∈ own) : b ≠ a := fun e => by
 have := (List.nodup_cons.mp (by simpa using S.nodup : (a :: own.map (·.1)).Nodup)).1
 exact this (e ▸ List.mem_map_of_mem (f := (·.1)) h)
theorem Hf.turn (S : Hf c g ((a, Pa) :: own) s) {h' : Heap} (hx : Heap.ExtBut a s.heap h') (hn : ∃ o, h'.get? a = some o /\ Pb o)
  {s' : Shared} (hh : s'.heap = h') (hg : s'.gens = s.gens) (ho : s'.os = s.os) : Hf c g ((a, Pb) :: own) s' := by
 have off := S.off (List.mem_cons_self)
 refine ⟨fun b o e => ?_, fun p hp => ?_, by simpa using S.nodup, by rw [hg]; exact S.gsEq, by rw [ho]; exact S.osEq⟩
 ·rw [hh]
  refine hx b o (fun q => ?_) (S.keep b o e)
  rw [q] at e; rw [off] at e; cases e
 ·rw [hh]
  rcases List.mem_cons.mp hp with rfl | hp
  ·exact ⟨hn, off⟩
  ·obtain ⟨⟨o', e, q⟩, n⟩ := S.led p (.tail _ hp)
   exact ⟨⟨o', hx _ _ (S.ne (b := p.1) (Pb := p.2) hp) e, q⟩, n⟩
theorem Hf.turn' (S : Hf c g ((a, Pa) :: own) s) {h' : Heap} (hx : Heap.SameBut a s.heap h') (hn : ∃ o, h'.get? a = some o /\ Pb o) (t : Nat) : Hf c g ((a, Pb) :: own) { s with heap := h', toks := t } :=
 S.turn hx.extBut hn rfl rfl rfl
theorem Hf.grow (S : Hf c g own s) {s' : Shared} (hx : ∀ b o, s.heap.get? b = some o -> s'.heap.get? b = some o) (hg : s'.gens = s.gens) (ho : s'.os = s.os) : Hf c g own s' :=
 ⟨fun b o e => hx _ _ (S.keep b o e), fun p hp => let ⟨⟨o', e, q⟩, n⟩ := S.led p hp; ⟨⟨o', hx _ _ e, q⟩, n⟩, S.nodup, by rw [hg]; exact S.gsEq, by rw [ho]; exact S.osEq⟩
theorem Hf.weaken (S : Hf c g ((a, Pa) :: own) s) (h : ∀ o, Pa o -> Pb o) : Hf c g ((a, Pb) :: own) s :=
 ⟨S.keep, fun p hp => by
  rcases List.mem_cons.mp hp with rfl | hp
  ·obtain ⟨⟨o, e, q⟩, n⟩ := S.led _ List.mem_cons_self
   exact ⟨⟨o, e, h o q⟩, n⟩
  ·exact S.led _ (.tail _ hp), by simpa using S.nodup, S.gsEq, S.osEq⟩
inductive Put (a : Addr) (Pa Pb : OP) : Led -> Led -> Prop
 | head (r : Led) : Put a Pa Pb ((a, Pa) :: r) ((a, Pb) :: r)
 | tail (q : Addr × OP) {r r' : Led} : Put a Pa Pb r r' -> Put a Pa Pb (q :: r) (q :: r')
theorem Put.perm {l l' : Led} (h : Put a Pa Pb l l') : ∃ r, l.Perm ((a, Pa) :: r) /\ l'.Perm ((a, Pb) :: r) := by
 induction h with
 | head r => exact ⟨r, .refl _, .refl _⟩
 | tail q _ ih =>
  obtain ⟨r, h1, h2⟩ := ih
  exact ⟨q :: r, (h1.cons q).trans (List.Perm.swap ..), (h2.cons q).trans (List.Perm.swap ..)⟩
theorem Put.mem {l l' : Led} (h : Put a Pa Pb l l') : (a, Pa) ∈ l := let ⟨_, h1, _⟩ := h.perm; h1.mem_iff.mpr List.mem_cons_self
theorem Put.at {l l' : Led} (h : Put a Pa Pb l l') (S : Hf c g l s) : ∃ o, s.heap.get? a = some o /\ Pa o := S.at h.mem
theorem Hf.put {l l' : Led} (S : Hf c g l s) (h : Put a Pa Pb l l') {h' : Heap} (hx : Heap.ExtBut a s.heap h') (hn : ∃ o, h'.get? a = some o /\ Pb o)
  {s' : Shared} (hh : s'.heap = h') (hg : s'.gens = s.gens) (ho : s'.os = s.os) : Hf c g l' s' := by
 obtain ⟨r, h1, h2⟩ := h.perm
 exact ((S.perm h1).turn hx hn hh hg ho).perm h2.symm
inductive Pick (p : Addr × OP) : Led -> Led -> Prop
 | head (r : Led) : Pick p (p :: r) r
 | tail (q : Addr × OP) {r r' : Led} : Pick p r r' -> Pick p (q :: r) (q :: r')
theorem Pick.perm {p : Addr × OP} {l r : Led} (h : Pick p l r) : l.Perm (p :: r) := by
 induction h with
 | head r => exact .refl _
 | tail q _ ih => exact (ih.cons q).trans (List.Perm.swap ..)
noncomputable def Has (g : Heap) (own : Led) (a : Addr) (P : OP) : Prop := (a, P) ∈ own \/ ∃ o, g.get? a = some o /\ P o
theorem Has.at (h : Has g own a Pa) (S : Hf c g own s) : ∃ o, s.heap.get? a = some o /\ Pa o :=
 h.elim S.at fun ⟨o, e, q⟩ => ⟨o, S.keep _ _ e, q⟩
theorem Has.cons {p : Addr × OP} (h : Has g own a Pa) : Has g (p :: own) a Pa := h.imp (.tail _) id
theorem Hf.freeze (S : Hf c g own s) {as : Led} (hs : own.Perm (as ++ rest)) : ∃ g', (∀ b o, g.get? b = some o -> g'.get? b = some o) /\ (∀ p ∈ as, ∃ o, g'.get? p.1 = some o /\ p.2 o) /\ Hf c g' rest s := by
 have S' := S.perm hs
 have nd : ∀ b ∈ rest.map (·.1), b ∉ as.map (·.1) := fun b hb ha => by
  have := S'.nodup
  rw [List.map_append, List.nodup_append] at this
  exact this.2.2 _ ha _ hb rfl
 refine ⟨hideAll s.heap (rest.map (·.1)), fun b o e => hideAll_get _ (S.keep b o e) fun hb => ?_, fun p hp => ?_, ⟨fun b o e => of_hideAll _ e, fun p hp => ?_, ?_, S.gsEq, S.osEq⟩⟩
 ·obtain ⟨p, hp, rfl⟩ := List.mem_map.mp hb
  have := (S'.led p (List.mem_append_right _ hp)).2
  rw [this] at e; cases e
 ·obtain ⟨⟨o, e, q⟩, n⟩ := S'.led p (List.mem_append_left _ hp)
  exact ⟨o, hideAll_get _ e fun hb => nd _ hb (List.mem_map_of_mem hp), q⟩
 ·exact ⟨(S'.led p (List.mem_append_right _ hp)).1, hideAll_none _ (List.mem_map_of_mem hp)⟩
 ·have := S'.nodup
  rw [List.map_append, List.nodup_append] at this
  exact this.2.1
theorem ite_neg {p : Prop} {d : Decidable p} {a b : Prop} (hp : ¬ p) (h : b) : @ite Prop p d a b := by rw [if_neg hp]; exact h
theorem ite_pos {p : Prop} {d : Decidable p} {a b : Prop} (hp : p) (h : a) : @ite Prop p d a b := by rw [if_pos hp]; exact h
noncomputable abbrev Sf (c : Cx) (g : Heap) (L : Addr) (m : Str -> Option Value) (own : Led) (s : Shared) : Prop := Hf c g ((L, nsO m) :: own) s
theorem Sf.ns (S : Sf c g L m own s) : s.heap.Ns L m := by
 obtain ⟨o, e, es, ep, q⟩ := S.at List.mem_cons_self
 exact ⟨o, es, ep, e, q⟩
theorem nsO_of {h : Heap} (N : h.Ns a m) : ∃ o, h.get? a = some o /\ nsO m o := let ⟨o, es, ep, e, q⟩ := N; ⟨o, e, es, ep, q⟩
theorem Sf.alloc (S : Sf c g L m own s) (o : Obj) (hP : Pa o) (hf : autoParam (o.isFreed = false) auR) : Sf c g L m ((s.heap.objs.size, Pa) :: own) { s with heap := s.heap.push o } :=
 (Hf.alloc S o hP hf).perm (List.Perm.swap ..)
theorem Sf.put {own' : Led} (S : Sf c g L m own s) (h : Put a Pa Pb own own') {h' : Heap} (hx : Heap.ExtBut a s.heap h') (hn : ∃ o, h'.get? a = some o /\ Pb o)
  {s' : Shared} (hh : s'.heap = h') (hg : s'.gens = s.gens) (ho : s'.os = s.os) : Sf c g L m own' s' := Hf.put S (h.tail _) hx hn hh hg ho
theorem Sf.front {p : Addr × OP} {rest : Led} (S : Sf c g L m own s) (h : Pick p own rest) : Sf c g L m (p :: rest) s := Hf.perm S (h.perm.cons _)
theorem Hf.rebase (S : Hf c g own s) : ∃ g', (∀ b o, g.get? b = some o -> g'.get? b = some o) /\ (∀ b o, s.heap.get? b = some o -> b ∉ own.map (·.1) -> g'.get? b = some o) /\ Hf c g' own s :=
 by
 refine ⟨hideAll s.heap (own.map fun p => p.1), fun b o e => hideAll_get _ (S.keep b o e) fun hb => ?_, fun b o e hb => hideAll_get _ e hb, fun b o e => of_hideAll _ e, fun p hp => ⟨(S.led p hp).1, hideAll_none _ (List.mem_map_of_mem hp)⟩, S.nodup, S.gsEq, S.osEq⟩
 obtain ⟨p, hp, rfl⟩ := List.mem_map.mp hb
 have := (S.led p hp).2
 rw [this] at e; cases e
theorem Has.sat (h : Has g own a Pa) (S : Sf c g L m own s) : ∃ o, s.heap.get? a = some o /\ Pa o := h.cons.at S
section
variable {prog : Program} {w : World} {A : Around} {E : Value -> Shared -> Prop} {env : Env}
theorem r_Name {x : Str} {pos : Pos} {v : Value} {Q : Value -> Shared -> Prop} (S : Sf c g L m own s) (hv : m x = some v) (h : Q v s) (hL : autoParam (env.locals = L) auR)
  (hk : autoParam (env.scope.kind = .function) auR) (hl : autoParam (env.kindOf x = some .local) auR)
  (hd : autoParam ((x == ("__debug__" : Str)) = false) auD) : wpAny (model prog w) A (eval (.Name x pos) env) Q E s := by
 subst hL
 exact wpAny_Name (wpAny_loadName_local hk hl S.ns hv h) hd
theorem r_loadName {x : Str} {v : Value} {Q : Value -> Shared -> Prop} (S : Sf c g L m own s) (hv : m x = some v) (h : Q v s) (hL : autoParam (env.locals = L) auR)
  (hk : autoParam (env.scope.kind = .function) auR) (hl : autoParam (env.kindOf x = some .local) auR) : wpAny (model prog w) A (loadName env x) Q E s := by
 subst hL
 exact wpAny_loadName_local hk hl S.ns hv h
theorem r_store {x : Str} {v : Value} {Q : Unit -> Shared -> Prop} (S : Sf c g L m own s)
  (h : ∀ s', Sf c g L (fun y => if y = x then some v else m y) own s' -> Q () s') (hL : autoParam (env.locals = L) auR)
  (hk : autoParam (env.scope.kind = .function) auR) (hl : autoParam (env.kindOf x = some .local) auR) : wpAny (model prog w) A (storeName env x v) Q E s := by
 subst hL
 exact wpAny_storeName_local hl S.ns (fun h' hn hs => h _ (S.turn' hs (nsO_of hn) _))
  (by rw [hk]; rfl)
end
section
variable {prog : Program} {w : World} {A : Around}
theorem call_fn {R : Result -> Shared -> Prop} {f : Addr} {oc : Value} {od : Option Addr} {osl : Array (Option Value)} {fd : FuncData} {body : List Stmt} {vals : List Value} {binds : List (Str × Value)}
  (S : Hf c g own s) (hroom : A.depth < recursionLimit) (ho : g.get? f = some ⟨oc, od, .func fd, osl⟩) (hlim : g.NoLimit) (hcd : g.CodeRec fd.code fd.qualname)
  (hbody : fd.body = .stmts body) (hbind : bindArgs fd ⟨vals, []⟩ = pure binds) (hcell : ∀ x ∈ fd.scope.names, x.2 ≠ .cell) (hloc : ∀ x ∈ binds, fd.scope.names.lookup x.1 = some .local)
  (h : ∀ L s', Sf c g L (fun y => binds.reverse.lookup y) own s' -> wpAny (model prog w) (A.deeper (callEnv fd L f)) (execs body (callEnv fd L f))
   (fun f s'' => R (.ok (.ret (match f with | .ret v => v | _ => .none))) s'') (fun _ _ => False) s')
  (hco : fd.scope.isCoroutine = false) (hgen : fd.scope.isGenerator = false) (hk : fd.scope.kind = .function) :
  codeAny (model prog w) A (.call (.ref f) ⟨vals, []⟩) R s := by
 refine codeAny_call_def (fd := fd) (body := body) (binds := binds) hroom (S.keep _ _ ho) rfl (hlim.keeps S.keep) (hcd.keeps S.keep) hbody (fun M A E Q q => by rw [hbind]; exact wpAny_pure q) hcell hloc (fun h₁ hn hk₁ => ?_) hco hgen hk
 refine wpAny_mono (h s.heap.objs.size _ ⟨fun b o e => hk₁ _ _ (S.keep b o e), fun p hp => ?_, ?_, S.gsEq, S.osEq⟩) (fun _ _ q => q) fun _ _ q => q.elim
 ·rcases List.mem_cons.mp hp with rfl | hp
  ·exact ⟨nsO_of hn, S.new⟩
  ·obtain ⟨⟨o', e, q⟩, n⟩ := S.led p hp
   exact ⟨⟨o', hk₁ _ _ e, q⟩, n⟩
 ·rw [List.map_cons, List.nodup_cons]
  refine ⟨fun q => ?_, S.nodup⟩
  obtain ⟨p, hp, e⟩ := List.mem_map.mp q
  exact absurd (S.lt (a := p.1) (Pa := p.2) hp) (by rw [e]; exact Nat.lt_irrefl _)
end

section
structure Base (w : World) (g : Heap) : Prop where
 K : (heapK w.params).In g
 T : ∃ p loose mean mg mb, Top p loose mean mg mb g
theorem Base.keeps {w : World} {g g' : Heap} (B : Base w g) (k : ∀ b o, g.get? b = some o -> g'.get? b = some o) : Base w g' :=
 ⟨fun a o e => k a o (B.K a o e), let ⟨p, l, me, mg, mb, T⟩ := B.T; ⟨p, l, me, mg, mb, T.keeps k⟩⟩
theorem Base.lim {w : World} {g : Heap} (B : Base w g) : g.NoLimit := let ⟨_, _, _, _, _, T⟩ := B.T; T.nolimit
section
variable {prog : Program} {w : World} {A : Around} {E : Value -> Shared -> Prop} {env : Env} {c : Cx} {g : Heap} {own : Led} {s : Shared}
theorem r_global {x : Str} {pos : Pos} {v : Value} {Q : Value -> Shared -> Prop} (B : Base w g) (S : Hf c g own s) (e : nsIn (heapK w.params) mainGlobals x = some (some v)) (h : Q v s)
  (hg : autoParam (env.globals = mainGlobals) auR) (hk : autoParam (env.scope.kind = .function) auR) (hx : autoParam (env.kindOf x = some .globalImplicit) auR) (hd : autoParam ((x == ("__debug__" : Str)) = false) auD) :
  wpAny (model prog w) A (eval (.Name x pos) env) Q E s := by
 obtain ⟨p, l, me, mg, mb, T⟩ := B.T
 have := mg_of B.K T.g e
 exact Calls.Name_function_global hk hx (Calls.loadGlobal_global (env := env) (by rw [hg]; exact T.g.keeps S.keep) this h) hd
theorem r_builtin {x : Str} {pos : Pos} {v : Value} {Q : Value -> Shared -> Prop} (B : Base w g) (S : Hf c g own s) (e : nsIn (heapK w.params) mainGlobals x = some none) (hv : bootBuiltins x = some v) (hn : x ≠ "__name__") (h : Q v s)
  (hg : autoParam (env.globals = mainGlobals) auR) (hb : autoParam (env.builtins = builtinsNs) auR) (hk : autoParam (env.scope.kind = .function) auR) (hx : autoParam (env.kindOf x = some .globalImplicit) auR) (hd : autoParam ((x == ("__debug__" : Str)) = false) auD) :
  wpAny (model prog w) A (eval (.Name x pos) env) Q E s := by
 obtain ⟨p, l, me, mg, mb, T⟩ := B.T
 exact Calls.Name_function_global hk hx (Calls.loadGlobal_builtin (env := env) (by rw [hg]; exact T.g.keeps S.keep) (mg_none_of B.K T.g e) (by rw [hb]; exact T.b.keeps S.keep) ((T.builtins x hn).trans hv) h) hd
end
section
variable {prog : Program} {w : World} {A : Around} {E : Value -> Shared -> Prop} {env : Env} {c : Cx} {g : Heap} {own : Led} {s : Shared}
theorem r_builtinT {x : Str} {pos : Pos} {T : String} {Q : Value -> Shared -> Prop} (B : Base w g) (S : Hf c g own s) (e : nsIn (heapK w.params) mainGlobals x = some none) (hv : bootBuiltins x = some (.type T)) (hn : x ≠ "__name__") (h : Q (.type T) s)
  (hg : autoParam (env.globals = mainGlobals) auR) (hb : autoParam (env.builtins = builtinsNs) auR) (hk : autoParam (env.scope.kind = .function) auR) (hx : autoParam (env.kindOf x = some .globalImplicit) auR) (hd : autoParam ((x == ("__debug__" : Str)) = false) auD) :
  wpAny (model prog w) A (eval (.Name x pos) env) Q E s := r_builtin B S e hv hn h hg hb hk hx hd
theorem r_builtinF {x : Str} {pos : Pos} {T : String} {Q : Value -> Shared -> Prop} (B : Base w g) (S : Hf c g own s) (e : nsIn (heapK w.params) mainGlobals x = some none) (hv : bootBuiltins x = some (.builtin T)) (hn : x ≠ "__name__") (h : Q (.builtin T) s)
  (hg : autoParam (env.globals = mainGlobals) auR) (hb : autoParam (env.builtins = builtinsNs) auR) (hk : autoParam (env.scope.kind = .function) auR) (hx : autoParam (env.kindOf x = some .globalImplicit) auR) (hd : autoParam ((x == ("__debug__" : Str)) = false) auD) :
  wpAny (model prog w) A (eval (.Name x pos) env) Q E s := r_builtin B S e hv hn h hg hb hk hx hd
end
section
variable {prog : Program} {w : World} {A : Around} {c : Cx} {g : Heap} {own : Led} {s : Shared}
theorem callK {R : Result -> Shared -> Prop} {name qual : Str} {params : Arguments} {body : List Stmt} {scope : Scope} {dV kV doc pm cdv ct oc : Value} {an od : Option Addr} {osl : Array (Option Value)} {f : Addr} {vals : List Value} {bs : List (Str × Value)}
  (B : Base w g) (S : Hf c g own s) (hroom : A.depth < recursionLimit)
  (ho : (heapK w.params).lookup f = some ⟨oc, od, .func (fnOf name qual params body scope dV kV doc pm an cdv ct), osl⟩) (hcd : codeIn (heapK w.params) cdv qual = true)
  (hbind : bindArgs (fnOf name qual params body scope dV kV doc pm an cdv ct) ⟨vals, []⟩ = pure ((params.args.map (·.arg)).zip vals)) (hcell : (scope.names.all fun x => x.2 != .cell) = true) (hloc : ((params.args.map (·.arg)).all fun n => scope.names.lookup n == some .local) = true)
  (hbs : ((params.args.map (·.arg)).zip vals).reverse = bs)
  (h : ∀ L s', Sf c g L (fun y => bs.lookup y) own s' -> wpAny (model prog w) (A.deeper (envOf qual scope L f cdv)) (execs body (envOf qual scope L f cdv))
   (fun f s'' => R (.ok (.ret (match f with | .ret v => v | _ => .none))) s'') (fun _ _ => False) s')
  (hco : scope.isCoroutine = false) (hgen : scope.isGenerator = false) (hk : scope.kind = .function) :
  codeAny (model prog w) A (.call (.ref f) ⟨vals, []⟩) R s :=
 call_fn S hroom (B.K _ _ ho) B.lim (codeRec_of B.K hcd) rfl hbind (fun x hx => by simpa using List.all_eq_true.mp hcell x hx) (fun x hx => by
  have hm : x.1 ∈ params.args.map (·.arg) := (List.of_mem_zip (a := x.1) (b := x.2) hx).1
  exact beq_iff_eq.mp (List.all_eq_true.mp hloc x.1 hm)) (by subst hbs; exact h) hco hgen hk
end

end
section
section
variable {prog : Program} {w : World} {A : Around} {E : Value -> Shared -> Prop} {c : Cx} {g : Heap} {own own' : Led} {s : Shared} {L l : Addr} {m : Str -> Option Value} {vs : List Value} {x : Value}
theorem listO_get {h : Heap} (H : ∃ o, h.get? l = some o /\ listO vs o) : ∃ n, h.get? l = some ({ cls := .type "list", data := .seq vs.toArray n } : Obj) := by
 obtain ⟨o, e, n, rfl⟩ := H
 exact ⟨n, e⟩
theorem r_listMethod {name : Str} {id : String} {pl : Sem Bool} {Q : Value × List Value -> Shared -> Prop} (S : Sf c g L m own s) (hm : Has g own l (listO vs)) (slot : Slot "list" name id) (hty : typeOf (.builtin id) = pure (.type "method_descriptor"))
  (h : Q (.builtin id, [.ref l]) s) : wpAny (model prog w) A (getMethod (.ref l) name pl) Q E s := by
 obtain ⟨n, e⟩ := listO_get (hm.sat S)
 have N : News {} (l + 1) s.heap [(l, { cls := .type "list", data := .seq vs.toArray n })] := fun p hp => by
  rw [List.mem_singleton.mp hp]
  exact ⟨e, Nat.ne_of_lt (Nat.lt_succ_self l), rfl⟩
 exact kl_method N List.mem_cons_self slot hty h
theorem r_append {Q : Value -> Shared -> Prop} (S : Sf c g L m own s) (p : Put l (listO vs) (listO (vs ++ [x])) own own') (hsz : vs.length <= sizeLine)
  (h : ∀ s', Sf c g L m own' s' -> Q .none s') : wpAny (model prog w) A (call (.builtin "list.append") [.ref l, x]) Q E s := by
 obtain ⟨n, e⟩ := listO_get (p.tail (L, nsO m) |>.at S)
 refine append_at e (fun h' hs hn => h _ (S.put p hs.extBut ⟨_, hn, n + 1, ?_⟩ rfl rfl rfl)) (by simpa using hsz)
 simp
end
section
variable {mx : Str -> Option Value}
theorem lookIn_ns {name : Str} {o : Obj} (h : nsO mx o) : lookIn name o = some (mx name) := by
 obtain ⟨es, ep, hd, hk, hf⟩ := h
 unfold lookIn
 rw [hd]
 dsimp only
 rw [<- hf name]
 unfold nsFind findBy
 rw [<- Array.find?_toList]
 cases q : es.toList.find? (fun e => e.key.isStr name) with
 | some e => rfl
 | none =>
  have : es.toList.any (·.refKey) = false := by
   rw [List.any_eq_false]
   intro e he
   obtain ⟨n, t, h⟩ := hk e (Array.mem_toList_iff.mp he)
   simp [DictEntry.refKey, h]
  simp [this]
end
noncomputable def insO (mx : Str -> Option Value) (k : Nat) : OP := fun o => ∃ es ep, o.data = .dict es ep /\ StrKeys es /\ es.size <= k /\ ∀ name, nsFind es name = mx name
theorem insO_ns {mx : Str -> Option Value} {k : Nat} {o : Obj} (h : insO mx k o) : nsO mx o := let ⟨es, ep, a, b, _, d⟩ := h; ⟨es, ep, a, b, d⟩
section
variable {M : Model} {prog : Program} {w : World} {A : Around} {E : Value -> Shared -> Prop} {c : Cx} {g : Heap} {own own' : Led} {s : Shared} {L x dx p : Addr} {m mx : Str -> Option Value} {v : Value} {name : Str} {k : Nat}
theorem wp_nsSetN {Q : Unit -> Shared -> Prop} {a : Addr} {o : Obj} (ho : s.heap.get? a = some o) (hi : insO mx k o)
  (h : ∀ h' o', h'.get? a = some o' -> insO (fun y => if y = name then some v else mx y) (if (mx name).isSome then k else k + 1) o' -> Heap.SameBut a s.heap h' -> o'.cls = o.cls -> Q () { s with heap := h', toks := s.toks + 1 }) :
  wpAny M A (nsSet a name v) Q E s := by
 obtain ⟨es, ep, hd, hk, hz, hm⟩ := hi
 unfold nsSet strHash
 refine wpAny_bind (wpAny_bind (wpAny_askSetting (wpAny_pure (wpAny_bind (wpAny_mkText (wpAny_bind (wpAny_loadPart ho ?_)))))))
 have hany : es.any (·.refKey) = false := by
  rw [Array.any_eq_false']; intro e he; obtain ⟨n, t, q⟩ := hk e he; simp [DictEntry.refKey, q]
 simp only [hd, aRefKeyMayBeTheName_eq, aRefKeyMayBeTheNameByArray, hany, Bool.and_false, Bool.false_eq_true, if_false]
 refine wpAny_updatePart ho ?_
 obtain ⟨cl, d, dt, sl⟩ := o
 subst hd
 cases hi : es.findIdx? (·.key.isStr name) with
 | some i =>
  have hs : (mx name).isSome = true := by
   rw [<- hm name]; unfold nsFind; rw [findBy_of_findIdx?, hi]
   have := (Array.findIdx?_eq_some_iff_getElem.mp hi).1
   simp [this]
  refine h _ _ (Heap.get?_update_self _ ho (by simp only [Obj.putName_eq, Obj.putNameByArray, hi]; rfl)) ?_ (Heap.SameBut.update ..) (by simp only [Obj.putName_eq, Obj.putNameByArray, hi])
  refine ⟨_, ep, by simp only [Obj.putName_eq, Obj.putNameByArray, hi]; rfl, hk.modify _ _, by rw [if_pos hs]; simpa using hz, fun y => ?_⟩
  show _ = if y = name then some v else mx y
  rw [<- hm]; exact findBy_modify (fun n v => v.isStr n) Value.isStr_inj es name y v i hi
 | none =>
  have hs : (mx name).isSome = false := by
   rw [<- hm name]; unfold nsFind; rw [findBy_of_findIdx?, hi]; rfl
  refine h _ _ (Heap.get?_update_self _ ho (by simp only [Obj.putName_eq, Obj.putNameByArray, hi]; rfl)) ?_ (Heap.SameBut.update ..) (by simp only [Obj.putName_eq, Obj.putNameByArray, hi])
  refine ⟨_, ep + 1, by simp only [Obj.putName_eq, Obj.putNameByArray, hi]; rfl, hk.push _ _ _ _, by rw [hs]; simpa using hz, fun y => ?_⟩
  show _ = if y = name then some v else mx y
  rw [<- hm]
  exact findBy_push (fun n v => v.isStr n) es name y _ _ v (fun z => by
   show (name == z) = decide (z = name)
   by_cases q : z = name
   ·subst q; simp
   ·have : ¬ name = z := fun e => q e.symm
    simp [q, this]) hi
theorem r_setInst {C : Addr} {Q : Unit -> Shared -> Prop} {k' : Nat} (B : Base w g) (S : Sf c g L m own s) (hx : Has g own x (eqO (instObj C dx)))
  (p : Put dx (insO mx k) (insO (fun y => if y = name then some v else mx y) k') own own') (hk' : (if (mx name).isSome then k else k + 1) <= k') (hz : k' <= 1000)
  (hs : findIn (heapK w.params) (.ref C) "__setattr__" = some (some (.builtin "object.__setattr__"))) (hp : plainOver (heapK w.params) C = true)
  (ht : takerIn (heapK w.params) C name = some none) (hh : hasDictIn (heapK w.params) C = true) (h : ∀ s', Sf c g L m own' s' -> Q () s') :
  wpAny (model prog w) A (setAttr (.ref x) name v) Q E s := by
 obtain ⟨ox, hxo, rfl⟩ := hx.sat S
 obtain ⟨od, hdo, hi⟩ := (p.tail (L, nsO m)).at S
 have X := B.K.keeps S.keep
 have I : InstAt s.heap x (instObj C dx) C (some od) := ⟨hxo, rfl, rfl, hdo⟩
 obtain ⟨hh', gg', dd', tt', oo'⟩ := s
 refine set_plain X I hs (osa_open (s := ⟨hh', gg', dd', tt' + 1, oo'⟩) X I hp ht fun b => ?_)
 obtain ⟨cd, hc, hd'⟩ := any_some hh
 refine wpAny_bind (wpAny_pure (wpAny_bind (wpAny_bind (wpAny_loadPart hxo (wpAny_bind ((looks_clsIn X hc).at ?_))))))
 rw [hd']
 refine wpAny_pure (a := some dx) (wpAny_bind (wpAny_pure (wpAny_bind ?_)))
 refine wp_nsSetN (s := ⟨hh', gg', dd', tt' + 1, oo'⟩) hdo hi fun h' o' e1 e2 e3 e4 => ?_
 obtain ⟨es, ep, q1, q2, q3, q4⟩ := e2
 refine wpAny_bind (wpAny_lookBehind e1 (by rw [q1]; exact pastItsLine_dict (by rw [sizeLine_eq]; omega)) ?_)
 exact wpAny_pure (h _ (S.put p e3.extBut ⟨_, e1, es, ep, q1, q2, Nat.le_trans q3 hk', q4⟩ rfl rfl rfl))
theorem r_setNew {C : Addr} {Q : Unit -> Shared -> Prop} (B : Base w g) (S : Sf c g L m own s) (hx : Has g own x (eqO (instObj C dx)))
  (p : Put dx (insO mx k) (insO (fun y => if y = name then some v else mx y) (k + 1)) own own') (hm : mx name = none) (hz : k + 1 <= 1000)
  (hs : findIn (heapK w.params) (.ref C) "__setattr__" = some (some (.builtin "object.__setattr__"))) (hp : plainOver (heapK w.params) C = true)
  (ht : takerIn (heapK w.params) C name = some none) (hh : hasDictIn (heapK w.params) C = true) (h : ∀ s', Sf c g L m own' s' -> Q () s') :
  wpAny (model prog w) A (setAttr (.ref x) name v) Q E s := r_setInst B S hx p (by rw [hm]; exact Nat.le_refl _) hz hs hp ht hh h
theorem r_setOld {C : Addr} {Q : Unit -> Shared -> Prop} (B : Base w g) (S : Sf c g L m own s) (hx : Has g own x (eqO (instObj C dx)))
  (p : Put dx (insO mx k) (insO (fun y => if y = name then some v else mx y) k) own own') (hm : (mx name).isSome = true) (hz : k <= 1000)
  (hs : findIn (heapK w.params) (.ref C) "__setattr__" = some (some (.builtin "object.__setattr__"))) (hp : plainOver (heapK w.params) C = true)
  (ht : takerIn (heapK w.params) C name = some none) (hh : hasDictIn (heapK w.params) C = true) (h : ∀ s', Sf c g L m own' s' -> Q () s') :
  wpAny (model prog w) A (setAttr (.ref x) name v) Q E s := r_setInst B S hx p (by rw [if_pos hm]; exact Nat.le_refl _) hz hs hp ht hh h
end

end
section
section
variable {prog : Program} {w : World} {A : Around} {E : Value -> Shared -> Prop} {c : Cx} {g : Heap} {own own' : Led} {s : Shared} {L l : Addr} {m : Str -> Option Value} {v y : Value} {vs : List Value}
theorem listO_is {h : Heap} (H : ∃ o, h.get? l = some o /\ listO vs o) : h.IsList l vs.toArray := by
 obtain ⟨n, e⟩ := listO_get H
 exact ⟨_, e, rfl, n, rfl⟩
theorem r_truthList {Q : Bool -> Shared -> Prop} (S : Sf c g L m own s) (hm : Has g own l (listO vs)) (hz : vs.length <= sizeLine) (h : ∀ s', Sf c g L m own s' -> Q (!vs.isEmpty) s') :
  wpAny (model prog w) A (truthy (.ref l)) Q E s := by
 have := h _ (Hf.tok S (s.toks + 1 + 1))
 refine wpAny_truthy_list (listO_is (hm.sat S)) (by rw [List.size_toArray]; rw [sizeLine_eq] at hz; omega) ?_
 rw [List.isEmpty_toArray]; exact this
theorem r_pop0 {u : Tok} {Q : Value -> Shared -> Prop} (S : Sf c g L m own s) (p : Put l (listO (y :: vs)) (listO vs) own own') (hz : vs.length < sizeLine) (h : ∀ s', Sf c g L m own' s' -> Q y s') :
  wpAny (model prog w) A (call (.builtin "list.pop") [.ref l, .int 0 u]) Q E s := by
 obtain ⟨n, e⟩ := listO_get ((p.tail (L, nsO m)).at S)
 refine call_meets PySem.F.slot_list_pop ⟨_, e, rfl⟩ PySem.F.entry_list_pop (PySem.F.args_list_pop_2 _ _) (PySem.MeetsSeq.list_pop_at l _ n 0 u 0 y (by decide) (by simp [seqIndex?]) (by simp) (by simp; omega)) ⟨e, h _ (S.put p (Heap.SameBut.update ..).extBut ⟨_, Heap.get?_update_self _ e ?_, ?_⟩ rfl rfl rfl)⟩
 ·rfl
 ·simp only [Obj.mapSeq]
  refine ⟨n + 1, ?_⟩
  simp [Array.eraseIdxIfInBounds]
theorem strsAre_of {x : Str} : ∀ {acc : List Value} {k : Nat}, (∀ j v, acc[j]? = some v -> SignAt x (k + j) v) -> acc.length + k = x.cps.size -> StrsAre acc ((x.cps.toList.drop k).map fun n => ⟨#[n]⟩)
 | [], k, _, hn => by
  have : x.cps.toList.drop k = [] := List.drop_eq_nil_of_le (by simp at hn ⊢; omega)
  rw [this]; exact .nil
 | a :: r, k, hP, hn => by
  obtain ⟨ch, u, h1, rfl⟩ := hP 0 a rfl
  have hk : k < x.cps.toList.length := by simp at hn ⊢; omega
  rw [List.drop_eq_getElem_cons hk, List.map_cons]
  have e : x.cps.toList[k] = ch := by
   simp only [Nat.add_zero] at h1
   have h2 : k < x.cps.size := by simpa using hk
   rw [Array.getElem?_eq_getElem h2] at h1
   simpa using Option.some.inj h1
  rw [e]
  refine .cons _ u (strsAre_of (k := k + 1) (fun j v q => ?_) (by simp at hn; omega))
  have := hP (j + 1) v (by simpa using q)
  rwa [show k + (j + 1) = k + 1 + j from by omega] at this
theorem r_listStr {x : Str} {t : Tok} {Q : Value -> Shared -> Prop} (hh : A.handled = none) (S : Sf c g L m own s) (hz : x.length <= sizeLine)
  (h : ∀ l vs s', StrsAre vs (signs x) -> Sf c g L m ((l, listO vs) :: own) s' -> Q (.ref l) s') : wpAny (model prog w) A (call (.type "list") [.str x t]) Q E s := by
 refine call_list_str hh x t (fun h' tk acc n hk hl hi => ?_) hz
 refine h _ acc.toList _ (?_ : StrsAre _ _) ?_
 ·have := strsAre_of (x := x) (acc := acc.toList) (k := 0) (fun j v q => by rw [Nat.zero_add]; exact hi.2 j v (by simpa using q)) (by have := hi.1; simpa using this)
  simpa [signs] using this
 ·have S1 : Sf c g L m own { s with heap := h', toks := tk } := Hf.grow S hk rfl rfl
  have off : g.get? s.heap.objs.size = none := S.new
  refine Hf.perm (own := (s.heap.objs.size, listO acc.toList) :: (L, nsO m) :: own) ⟨S1.keep, fun p hp => ?_, ?_, S1.gsEq, S1.osEq⟩ (List.Perm.swap ..)
  ·rcases List.mem_cons.mp hp with rfl | hp
   ·exact ⟨⟨_, hl, n, by simp⟩, off⟩
   ·exact S1.led p hp
  ·rw [List.map_cons, List.nodup_cons]
   refine ⟨fun q => ?_, S.nodup⟩
   obtain ⟨p, hp, e⟩ := List.mem_map.mp q
   exact absurd (S.lt (a := p.1) (Pa := p.2) hp) (by rw [show p.1 = s.heap.objs.size from e]; exact Nat.lt_irrefl _)
end

end
section
section
variable {prog : Program} {w : World} {A : Around} {E : Value -> Shared -> Prop} {env : Env} {c : Cx} {g : Heap} {own own' : Led} {s : Shared} {L : Addr} {m : Str -> Option Value} {x y : Str} {a b : Int} {t u : Tok}
theorem str_beq : (x == y) = decide (x = y) := by
 by_cases h : x = y
 ·subst h; simp
 ·simp [h]
theorem r_eqStr {Q : Value -> Shared -> Prop} (h : Q (.bool (decide (x = y))) s) : wpAny (model prog w) A (compareOp .Eq (.str x t) (.str y u)) Q E s := by
 refine PyProof.Rows.eq_str ?_
 rw [str_beq]; exact h
theorem r_neStr {Q : Value -> Shared -> Prop} (h : Q (.bool (!decide (x = y))) s) : wpAny (model prog w) A (compareOp .NotEq (.str x t) (.str y u)) Q E s := by
 refine PyProof.Rows.ne_str ?_
 rw [show (x != y) = !decide (x = y) from by rw [<- str_beq]; rfl]; exact h
theorem r_addStr {Q : Value -> Shared -> Prop} (S : Sf c g L m own s) (hz : x.length + y.length <= sizeLine) (h : ∀ t' s', Sf c g L m own s' -> Q (.str (x ++ y) t') s') : wpAny (model prog w) A (binaryOp .Add (.str x t) (.str y u)) Q E s :=
 PyProof.Rows.add_str (fun t' tk => h _ _ (Hf.tok S _)) hz
theorem r_iaddStr {Q : Value -> Shared -> Prop} (S : Sf c g L m own s) (hz : x.length + y.length <= sizeLine) (h : ∀ t' s', Sf c g L m own s' -> Q (.str (x ++ y) t') s') : wpAny (model prog w) A (inplaceOp .Add (.str x t) (.str y u)) Q E s :=
 PyProof.Rows.iadd_str (fun t' tk => h _ _ (Hf.tok S _)) hz
theorem r_addInt {Q : Value -> Shared -> Prop} (S : Sf c g L m own s) (h : ∀ t' s', Sf c g L m own s' -> Q (.int (a + b) t') s') : wpAny (model prog w) A (binaryOp .Add (.int a t) (.int b u)) Q E s :=
 PyProof.Rows.add_int (h _ _ (Hf.tok S _))
theorem r_iaddInt {Q : Value -> Shared -> Prop} (S : Sf c g L m own s) (h : ∀ t' s', Sf c g L m own s' -> Q (.int (a + b) t') s') : wpAny (model prog w) A (inplaceOp .Add (.int a t) (.int b u)) Q E s :=
 PyProof.Rows.iadd_int (h _ _ (Hf.tok S _))
theorem r_subInt {Q : Value -> Shared -> Prop} (S : Sf c g L m own s) (h : ∀ t' s', Sf c g L m own s' -> Q (.int (a - b) t') s') : wpAny (model prog w) A (binaryOp .Sub (.int a t) (.int b u)) Q E s :=
 PyProof.Rows.sub_int (h _ _ (Hf.tok S _))
theorem r_modInt {Q : Value -> Shared -> Prop} (S : Sf c g L m own s) (hb : b ≠ 0) (h : ∀ t' s', Sf c g L m own s' -> Q (.int (a.fmod b) t') s') : wpAny (model prog w) A (binaryOp .Mod (.int a t) (.int b u)) Q E s :=
 PyProof.Rows.mod_int hb (h _ _ (Hf.tok S _))
theorem r_floordivInt {Q : Value -> Shared -> Prop} (S : Sf c g L m own s) (hb : b ≠ 0) (hp : Builtin.divisionGoesByPylong a b = false) (h : ∀ t' s', Sf c g L m own s' -> Q (.int (a.fdiv b) t') s') : wpAny (model prog w) A (binaryOp .FloorDiv (.int a t) (.int b u)) Q E s :=
 PyProof.Rows.floordiv_int hb (h _ _ (Hf.tok S _)) (.inl hp)
theorem r_negInt {Q : Value -> Shared -> Prop} (S : Sf c g L m own s) (h : ∀ t' s', Sf c g L m own s' -> Q (.int (-a) t') s') : wpAny (model prog w) A (unaryOp .USub (.int a t)) Q E s :=
 PyProof.Rows.neg_int (h _ _ (Hf.tok S _))
theorem r_lenStr {Q : Value -> Shared -> Prop} (S : Sf c g L m own s) (hz : x.length <= sizeLine) (h : ∀ t' s', Sf c g L m own s' -> Q (.int x.length t') s') : wpAny (model prog w) A (call (.builtin "len") [.str x t]) Q E s :=
 PyProof.Rows.len_str (by rw [sizeLine_eq] at hz; omega) (h _ _ (Hf.tok S _))
theorem r_getIns {C x dx : Addr} {mx : Str -> Option Value} {k : Nat} {name : Str} {v : Value} {expr : Bool} {Q : Value -> Shared -> Prop} (S : Sf c g L m own s) (B : Base w g) (hx : Has g own x (eqO (instObj C dx))) (hd : Has g own dx (insO mx k)) (hv : mx name = some v)
  (hg : plainGet (heapK w.params) C name = true) (hh : hasDictIn (heapK w.params) C = true) {attr : Option Value} (ha : findIn (heapK w.params) (.ref C) name = some attr) (hn : noGet (heapK w.params) attr = true) (hv' : handedIn v = true)
  (h : ∀ s', Sf c g L m own s' -> Q v s') : wpAny (model prog w) A (getAttr (.ref x) name expr) Q E s := by
 obtain ⟨ox, hxo, rfl⟩ := hx.sat S
 obtain ⟨od, hdo, hns⟩ := hd.sat S
 have X := B.K.keeps S.keep
 have I : InstAt s.heap x (instObj C dx) C (some od) := ⟨hxo, rfl, rfl, hdo⟩
 refine get_value X I (plainGet_of hg).1 (findObj_own hh ha hn ?_) hv' (h _ (Hf.tok S _))
 exact (lookIn_ns (insO_ns hns)).trans (by rw [hv])
theorem r_methInst {C x dx f : Addr} {mx : Str -> Option Value} {k : Nat} {name : Str} {pl : Sem Bool} {Q : Value × List Value -> Shared -> Prop} (S : Sf c g L m own s) (B : Base w g) (hx : Has g own x (eqO (instObj C dx))) (hd : Has g own dx (insO mx k)) (hv : mx name = none)
  (hg : plainGet (heapK w.params) C name = true) (hf : findIn (heapK w.params) (.ref C) name = some (some (.ref f))) (ht : isFn (heapK w.params) (.ref f) = true) (h : Q (.ref f, [.ref x]) s) :
  wpAny (model prog w) A (getMethod (.ref x) name pl) Q E s := by
 obtain ⟨ox, hxo, rfl⟩ := hx.sat S
 obtain ⟨od, hdo, hns⟩ := hd.sat S
 have X := B.K.keeps S.keep
 have I : InstAt s.heap x (instObj C dx) C (some od) := ⟨hxo, rfl, rfl, hdo⟩
 refine method_fn X I (plainGet_of hg).1 (plainGet_of hg).2 hf (beq_iff_eq.mp ht) ?_ h
 show (lookIn name od).map _ = _
 rw [lookIn_ns (insO_ns hns), hv]; rfl
theorem r_callFn {rd : Addr} {pos : Pos} {first : List Value} {e : Expr} {rest : List Expr} {Q : Value -> Shared -> Prop} (hf : ∃ o fd, g.get? rd = some o /\ o.data = .func fd)
  (h : wpAny (model prog w) A (spliced (backTo pos (starEach (e :: rest) env))) (fun vs s₁ => (∃ c' own', Hf c' g own' s₁) /\ wpAny (model prog w) A (call (.ref rd) (first ++ vs)) Q E s₁) E s)
  (he : autoParam (starEach (e :: rest) env = (false, eval e env) :: starEach rest env) auR) (hplain : autoParam ((backTo pos (starEach rest env)).any (·.1) = false) auR) :
  wpAny (model prog w) A (callWith pos (.ref rd) first (backTo pos (starEach (e :: rest) env)) []) Q E s := by
 rw [he] at h ⊢
 refine callWith_of (P := fun h => ∃ o fd, h.get? rd = some o /\ o.data = .func fd) (by show ((false || (backTo pos (starEach rest env)).any (·.1)) || false) = false; rw [hplain]; rfl) (fun hp X => ?_) (evalArgs_plain (wpAny_mono h (fun vs s₁ q => ⟨?_, q.2⟩) fun _ _ q => q))
 ·obtain ⟨o, fd, e1, e2⟩ := X
  refine ⟨.frame, .inl rfl, (Looks.ld (part := none) e1).andThen ?_⟩
  rw [e2]; exact .now
 ·obtain ⟨⟨c', own', S⟩, _⟩ := q
  obtain ⟨o, fd, e1, e2⟩ := hf
  exact ⟨o, fd, S.keep _ _ e1, e2⟩
end

end
section
theorem cells_names : ∀ (names : List (Str × NameKind)) (n k : Nat) (acc acc' : List (Str × Addr)), acc.map (·.1) = acc'.map (·.1) -> (cellsFrom n names acc).map (·.1) = (cellsFrom k names acc').map (·.1)
 | [], _, _, _, _, h => h
 | (x, kd) :: r, n, k, acc, acc', h => by
  unfold cellsFrom
  by_cases hk : (kd == .cell) = true
  ·rw [if_pos hk, if_pos hk]; exact cells_names r _ _ _ _ (by simp [h])
  ·rw [if_neg hk, if_neg hk]; exact cells_names r _ _ _ _ h
theorem lookup_nodup {α : Type} {x : Str} {v : α} : ∀ {l : List (Str × α)}, (l.map (·.1)).Nodup -> (x, v) ∈ l -> l.lookup x = some v
 | (y, u) :: r, hn, hm => by
  rw [List.map_cons, List.nodup_cons] at hn
  rw [List.lookup_cons]
  by_cases q : x = y
  ·subst q
   rcases List.mem_cons.mp hm with e | hm
   ·cases e; simp
   ·exact absurd (List.mem_map_of_mem (f := (·.1)) hm) hn.1
  ·rcases List.mem_cons.mp hm with e | hm
   ·cases e; exact absurd rfl q
   ·rw [beq_false_of_ne q]; exact lookup_nodup hn.2 hm
noncomputable def cellLed (cs : List (Str × Addr)) (cm : Str -> Option Value) : Led := cs.map fun x => (x.2, cellO (cm x.1))
section
variable {prog : Program} {w : World} {A : Around} {c : Cx} {g : Heap} {own : Led} {s : Shared}
theorem callC {R : Result -> Shared -> Prop} {name qual : Str} {params : Arguments} {body : List Stmt} {scope : Scope} {dV kV doc pm cdv ct oc : Value} {an od : Option Addr} {osl : Array (Option Value)} {f : Addr} {vals : List Value} {bs : List (Str × Value)}
  (B : Base w g) (S : Hf c g own s) (hroom : A.depth < recursionLimit)
  (ho : (heapK w.params).lookup f = some ⟨oc, od, .func (fnOf name qual params body scope dV kV doc pm an cdv ct), osl⟩) (hcd : codeIn (heapK w.params) cdv qual = true)
  (hbind : bindArgs (fnOf name qual params body scope dV kV doc pm an cdv ct) ⟨vals, []⟩ = pure bs)
  (hkind : (bs.all fun y => scope.names.lookup y.1 == some .local || scope.names.lookup y.1 == some .cell) = true)
  (hnd : ((cellsFrom 0 scope.names []).map (·.1)).Nodup)
  (h : ∀ L s', Sf c g L (bindL (envOfC qual scope L f cdv).kindOf bs fun _ => none) (cellLed (cellsFrom (L + 1) scope.names []) (bindC (envOfC qual scope L f cdv).kindOf bs fun _ => none) ++ own) s' ->
   wpAny (model prog w) (A.deeper (envOfC qual scope L f cdv)) (execs body (envOfC qual scope L f cdv))
   (fun f s'' => R (.ok (.ret (match f with | .ret v => v | _ => .none))) s'') (fun _ _ => False) s')
  (hco : scope.isCoroutine = false) (hgen : scope.isGenerator = false) (hk : scope.kind = .function) :
  codeAny (model prog w) A (.call (.ref f) ⟨vals, []⟩) R s := by
 refine codeAny_call_cells (fd := fnOf name qual params body scope dV kV doc pm an cdv ct) (body := body) hroom (S.keep _ _ (B.K _ _ ho)) rfl (B.lim.keeps S.keep) ((codeRec_of B.K hcd).keeps S.keep) rfl hbind rfl (kindsX hkind _) (fun s₁ x => ?_) hco hgen hk
 refine wpAny_mono (h s.heap.objs.size s₁ ?_) (fun _ _ q => q) fun _ _ q => q.elim
 have old : ∀ p ∈ own, p.1 < s.heap.objs.size := fun p hp => S.lt (a := p.1) (Pa := p.2) hp
 have offg : ∀ b, s.heap.objs.size <= b -> g.get? b = none := fun b hb => by
  cases q : g.get? b with
  | none => rfl
  | some o => exact absurd (Heap.lt_size (S.keep _ _ q)) (Nat.not_lt.mpr hb)
 obtain ⟨h₁, tk, e⟩ := x.toInCall.same
 have nd : ((cellsFrom (s.heap.objs.size + 1) scope.names []).map (·.1)).Nodup := by rw [cells_names scope.names (s.heap.objs.size + 1) 0 [] [] rfl]; exact hnd
 refine ⟨fun b o q => x.toInCall.keep _ _ (S.keep _ _ q), fun p hp => ?_, ?_, by rw [e]; exact S.gsEq, by rw [e]; exact S.osEq⟩
 ·rcases List.mem_cons.mp hp with rfl | hp
  ·exact ⟨nsO_of x.toInCall.ns, offg _ (Nat.le_refl _)⟩
  ·rcases List.mem_append.mp hp with hp | hp
   ·obtain ⟨y, hy, rfl⟩ := List.mem_map.mp hp
    obtain ⟨o, eo, q⟩ := x.cell y.1 y.2 (lookup_nodup nd hy)
    exact ⟨⟨o, eo, q⟩, offg _ (Nat.le_of_lt (x.above y.1 y.2 hy))⟩
   ·obtain ⟨⟨o, eo, q⟩, n⟩ := S.led p hp
    exact ⟨⟨o, x.toInCall.keep _ _ eo, q⟩, n⟩
 ·rw [List.map_cons, List.nodup_cons]
  have m1 : ((cellLed (cellsFrom (s.heap.objs.size + 1) scope.names []) (bindC (envOfC qual scope s.heap.objs.size f cdv).kindOf bs fun _ => none)).map (·.1)) = (cellsFrom (s.heap.objs.size + 1) scope.names []).map (·.2) := by
   unfold cellLed; rw [List.map_map]; rfl
  have ab : ∀ b ∈ (cellsFrom (s.heap.objs.size + 1) scope.names []).map (·.2), s.heap.objs.size < b := fun b hb => by
   obtain ⟨y, hy, rfl⟩ := List.mem_map.mp hb
   exact x.above y.1 y.2 hy
  constructor
  ·intro hm
   rw [List.map_append, m1] at hm
   rcases List.mem_append.mp hm with hm | hm
   ·exact absurd (ab _ hm) (Nat.lt_irrefl _)
   ·obtain ⟨p, hp, e⟩ := List.mem_map.mp hm
    exact absurd (old p hp) (by rw [show p.1 = s.heap.objs.size from e]; exact Nat.lt_irrefl _)
  ·rw [List.map_append, m1, List.nodup_append]
   refine ⟨?_, S.nodup, fun a ha b hb q => ?_⟩
   ·have := x.apart
    exact List.pairwise_map.mpr this
   ·subst q
    obtain ⟨p, hp, e⟩ := List.mem_map.mp hb
    have := old p hp
    rw [show p.1 = a from e] at this
    exact absurd (Nat.lt_trans this (ab _ ha)) (Nat.lt_irrefl _)
end
section
variable {prog : Program} {w : World} {A : Around} {E : Value -> Shared -> Prop} {env : Env} {c : Cx} {g : Heap} {own own' : Led} {s : Shared} {L cc : Addr} {m : Str -> Option Value} {v : Value} {v₀ : Option Value}
theorem r_NameC {x : Str} {pos : Pos} {Q : Value -> Shared -> Prop} (S : Hf c g own s) (hc : env.cells.lookup x = some cc) (hm : Has g own cc (cellO (some v))) (h : Q v s)
  (hk : autoParam (env.scope.kind = .function) auR) (hl : autoParam (env.kindOf x = some .cell) auR) (hd : autoParam ((x == ("__debug__" : Str)) = false) auD) : wpAny (model prog w) A (eval (.Name x pos) env) Q E s :=
 wpAny_Name (wpAny_loadName_cell hk hl hc (hm.at S) h) hd
theorem r_NameF {x : Str} {pos : Pos} {Q : Value -> Shared -> Prop} (S : Hf c g own s) (hc : env.cells.lookup x = some cc) (hm : Has g own cc (cellO (some v))) (h : Q v s)
  (hk : autoParam (env.scope.kind = .function) auR) (hl : autoParam (env.kindOf x = some .free) auR) (hd : autoParam ((x == ("__debug__" : Str)) = false) auD) (hn : autoParam ((x == ("__classdict__" : Str)) = false) auD) : wpAny (model prog w) A (eval (.Name x pos) env) Q E s :=
 wpAny_Name (wpAny_loadName_free hk hl hc (hm.at S) h hn) hd
theorem r_storeC {x : Str} {Q : Unit -> Shared -> Prop} (S : Sf c g L m own s) (hc : env.cells.lookup x = some cc) (p : Put cc (cellO v₀) (cellO (some v)) own own') (h : ∀ s', Sf c g L m own' s' -> Q () s')
  (hk : autoParam (env.scope.kind = .function) auR) (hl : autoParam (env.kindOf x = some .cell) auR) : wpAny (model prog w) A (storeName env x v) Q E s := by
 obtain ⟨o, eo, q⟩ := (p.tail (L, nsO m)).at S
 exact wpAny_storeName_cell hk hl hc ⟨o, eo, q⟩ fun h' hc' hs => h _ (S.put p hs.extBut hc' rfl rfl rfl)
end

end
structure AOk (n : Nat) (A : Around) : Prop where
 hh : A.handled = none
 hd : A.depth + n <= 900
 hu : A.units + 10 * n <= 9000
theorem AOk.mono {n k : Nat} {A : Around} (h : AOk n A) (hk : k <= n) : AOk k A := ⟨h.hh, by have := h.hd; omega, by have := h.hu; omega⟩
theorem AOk.deeper {n : Nat} {A : Around} {env : Env} (h : AOk (n + 1) A) : AOk n (A.deeper env) := ⟨h.hh, by have := h.hd; show A.depth + 1 + n <= 900; omega, by have := h.hu; show A.units + 3 + 10 * n <= 9000; omega⟩
theorem AOk.in1 {n : Nat} {A : Around} (h : AOk (n + 1) A) : AOk n A.in1 := ⟨h.hh, by have := h.hd; show A.depth + n <= 900; omega, by have := h.hu; show A.units + 1 + 10 * n <= 9000; omega⟩
theorem AOk.make {n : Nat} {A : Around} {C : Addr} {vals : List Value} (h : AOk (n + 1) A) : AOk n (A.under (.builtin "type.__call__" ⟨.ref C :: vals, []⟩)) :=
 ⟨h.hh, by rw [depth_under_make]; have := h.hd; omega, by rw [units_under_make]; have := h.hu; omega⟩
theorem AOk.room {n : Nat} {A : Around} (h : AOk n A) : A.depth < recursionLimit := by have := h.hd; show A.depth < 1000; omega
theorem AOk.units {n : Nat} {A : Around} (h : AOk n A) : A.units < cLine := by have := h.hu; show A.units < 9900; omega
section
variable {prog : Program} {w : World} {A : Around} {E : Value -> Shared -> Prop} {env : Env} {c : Cx} {g : Heap} {own : Led} {s : Shared} {L : Addr} {m : Str -> Option Value}
theorem r_int {i : Int} {k pos} {Q : Value -> Shared -> Prop} (S : Sf c g L m own s) (h : ∀ t s', Sf c g L m own s' -> Q (.int i t) s') : wpAny (model prog w) A (eval (.Constant (.int i) k pos) env) Q E s :=
 wpAny_Constant_int (h _ _ (Hf.tok S _))
theorem r_str {x : Str} {k pos} {Q : Value -> Shared -> Prop} (S : Sf c g L m own s) (h : ∀ t s', Sf c g L m own s' -> Q (.str x t) s') : wpAny (model prog w) A (eval (.Constant (.str x) k pos) env) Q E s :=
 Constant_str (h _ _ (Hf.tok S _))
theorem r_listNew {vs : List Value} {Q : Value -> Shared -> Prop} (S : Sf c g L m own s) (hsz : vs.length <= sizeLine) (h : ∀ l s', Sf c g L m ((l, listO vs) :: own) s' -> Q (.ref l) s') :
  wpAny (model prog w) A (newList vs) Q E s :=
 wpAny_newObj_type (h _ _ (S.alloc _ ⟨0, rfl⟩)) (by show vs.toArray.size <= sizeLine; rw [List.size_toArray]; exact hsz)
theorem r_tupNew {vs : List Value} {Q : Value -> Shared -> Prop} (S : Sf c g L m own s) (hsz : vs.length <= sizeLine) (h : ∀ l s', Sf c g L m ((l, eqO { cls := .type "tuple", data := .seq vs.toArray }) :: own) s' -> Q (.ref l) s') :
  wpAny (model prog w) A (newTuple vs) Q E s :=
 wpAny_newObj_type (h _ _ (S.alloc _ rfl)) (by show vs.toArray.size <= sizeLine; rw [List.size_toArray]; exact hsz)
end
section
variable {M : Model} {A : Around} {E : Value -> Shared -> Prop} {env : Env} {s : Shared}
theorem r_splNil {pos : Pos} {Q : List Value -> Shared -> Prop} (h : Q [] s) : wpAny M A (spliced (backTo pos (starEach [] env))) Q E s := spliced_nil h
theorem r_splCons {pos : Pos} {e : Expr} {rest : List Expr} {Q : List Value -> Shared -> Prop} (h : wpAny M A (eval e env) (fun v s₁ => wpAny M A (spliced (backTo pos (starEach rest env))) (fun vs s₂ => Q (v :: vs) s₂) E s₁) E s)
  (he : autoParam (starEach (e :: rest) env = (false, eval e env) :: starEach rest env) auR) : wpAny M A (spliced (backTo pos (starEach (e :: rest) env))) Q E s := by
 rw [he]
 exact spliced_cons h
end
section
variable {prog : Program} {w : World} {A : Around} {E : Value -> Shared -> Prop} {env : Env} {c : Cx} {g : Heap} {own : Led} {s : Shared} {L : Addr} {m : Str -> Option Value}
theorem r_NameL {x : Str} {pos : Pos} {v : Value} {Q : Value -> Shared -> Prop} (hl : env.kindOf x = some .local) (S : Sf c g L m own s) (hv : m x = some v) (h : Q v s) (hL : autoParam (env.locals = L) auR)
  (hk : autoParam (env.scope.kind = .function) auR) (hd : autoParam ((x == ("__debug__" : Str)) = false) auD) : wpAny (model prog w) A (eval (.Name x pos) env) Q E s := r_Name S hv h hL hk hl hd
theorem r_NameG {x : Str} {pos : Pos} {Q : Value -> Shared -> Prop} (_ : env.kindOf x = some .globalImplicit) (h : wpAny (model prog w) A (eval (.Name x pos) env) Q E s) : wpAny (model prog w) A (eval (.Name x pos) env) Q E s := h
end
local macro_rules | `(tactic| walk_at "perm") => `(tactic| ((try simp only [List.cons_append, List.nil_append]); repeat (first | exact List.Perm.refl _ | refine (Pick.perm (by walk_at "pick")).trans (List.Perm.cons _ ?_))))
local macro_rules | `(tactic| walk_at "nm") => `(tactic| first | assumption | with_reducible exact if_pos rfl | (refine (if_neg (by decide)).trans ?_; walk_at "nm") | rfl)
local macro_rules | `(tactic| walk_at "sp") => `(tactic| first | with_reducible refine r_splNil ?_ | refine r_splCons ?_)

section
section
variable {prog : Program} {w : World} {A : Around} {c : Cx} {g : Heap} {own : Led} {s : Shared} {L x dx p : Addr} {mx : Str -> Option Value} {fp : Value}
noncomputable def lexM (mx : Str -> Option Value) (ln : Int) (fp : Value) (p : Addr) : Prop :=
 (∃ t, mx "lineno" = some (.int ln t)) /\ mx "instream" = some fp /\ (∃ t, mx "whitespace" = some (.str "\n\t\r " t)) /\ mx "pushback" = some (.ref p) /\
 (mx "_read_char" = none /\ mx "get_token" = none /\ mx "push_token" = none)
theorem init_spec (hA : AOk 1 A) (B : Base w g) (S : Hf c g ((dx, insO (fun _ => none) 0) :: own) s) (hx : Has g own x (eqO (instObj 101 dx))) :
  codeAny (model prog w) A (.call (.ref 77) ⟨[.ref x, fp], []⟩) (fun r s' => ∃ mx p, r = .ok (.ret .none) /\ lexM mx 1 fp p /\ Hf c g ((p, listO []) :: (dx, insO mx 4) :: own) s') s := by
 refine callK (bs := [(Str.ofString "fp", fp), (Str.ofString "self", .ref x)]) B S hA.room (by k_is) (by k_is) rfl (by decide) (by decide) (by rfl) (fun L s' S => ?_) rfl rfl rfl
 with_reducible refine wpAny_execs_cons ?_
 refine plainObj_wpAny_Assign_Attribute ?_
 refine r_int (by assumption) ?_; intro _ _ _
 walk_at "n"
 refine r_setNew (by assumption) (by assumption) (by walk_at "hx") (by walk_at "put") (by rfl) (by decide) (by k_is) (by k_is) (by k_is) (by k_is) ?_; intro _ _
 with_reducible refine wpAny_execs_cons ?_
 refine plainObj_wpAny_Assign_Attribute ?_
 walk_at "n"
 walk_at "n"
 refine r_setNew (by assumption) (by assumption) (by walk_at "hx") (by walk_at "put") (by rfl) (by decide) (by k_is) (by k_is) (by k_is) (by k_is) ?_; intro _ _
 with_reducible refine wpAny_execs_cons ?_
 refine plainObj_wpAny_Assign_Attribute ?_
 refine r_str (by assumption) ?_; intro _ _ _
 walk_at "n"
 refine r_setNew (by assumption) (by assumption) (by walk_at "hx") (by walk_at "put") (by rfl) (by decide) (by k_is) (by k_is) (by k_is) (by k_is) ?_; intro _ _
 with_reducible refine wpAny_execs_cons ?_
 refine plainObj_wpAny_Assign_Attribute ?_
 refine List_ ?_
 walk_at "sp"
 refine r_listNew (by assumption) (by size_fits) ?_; intro _ _ _
 walk_at "n"
 refine r_setNew (by assumption) (by assumption) (by walk_at "hx") (by walk_at "put") (by rfl) (by decide) (by k_is) (by k_is) (by k_is) (by k_is) ?_; intro _ _
 with_reducible refine wpAny_execs_nil ?_
 dsimp only
 exact ⟨_, _, rfl, ⟨⟨_, rfl⟩, rfl, ⟨_, rfl⟩, rfl, rfl, rfl, rfl⟩, Hf.tail (by assumption)⟩
theorem cls_spec (hA : AOk 2 A) (B : Base w g) (S : Hf c g own s) :
  codeAny (model prog w) A (.call (.ref 101) ⟨[fp], []⟩) (fun r s' => ∃ x dx mx p, r = .ok (.ret (.ref x)) /\ lexM mx 1 fp p /\ Hf c g ((p, listO []) :: (dx, insO mx 4) :: (x, eqO (instObj 101 dx)) :: own) s') s := by
 obtain ⟨hh, gg, dd, tt, oo⟩ := s
 have X := B.K.keeps S.keep
 refine make_core (makes_of X (by k_is)) (looks_findIn X (by k_is)) (fun self => bind_fn X self (by k_is)) (.inl rfl) ?_
 have S1 := Hf.alloc (Pa := insO (fun _ => none) 0) S emptyDict ⟨#[], 0, rfl, fun _ h => by simp at h, Nat.le_refl _, fun _ => rfl⟩
 have S2 := Hf.alloc (Pa := eqO (instObj 101 hh.objs.size)) S1 (instObj 101 hh.objs.size) rfl
 have S3 := S2.perm (List.Perm.swap ..)
 have e : (hh.push emptyDict).objs.size = hh.objs.size + 1 := Heap.size_push ..
 simp only [e] at S3
 refine codeAny_mono (init_spec (A := A.under (.builtin "type.__call__" ⟨.ref 101 :: [fp], []⟩)) (fp := fp) (hA.make) B S3 (.inl List.mem_cons_self)) fun r s' z => ?_
 obtain ⟨mx, p, rfl, h1, h2⟩ := z
 exact ⟨rfl, _, _, mx, p, rfl, h1, h2⟩
end

end
section
section
variable {prog : Program} {w : World} {A : Around} {E : Value -> Shared -> Prop} {env : Env} {c : Cx} {g : Heap} {own : Led} {s : Shared} {L x p : Addr} {m : Str -> Option Value}
theorem triples_inv {l : List Value} (h : TriplesOk l) : l = [] \/ ∃ x tx y ty q r, l = .int x tx :: .int y ty :: q :: r /\ TriplesOk r := by
 cases l with
 | nil => exact .inl rfl
 | cons a l =>
  cases a with
  | int x tx =>
   cases l with
   | nil => exact h.elim
   | cons b l =>
    cases b with
    | int y ty =>
     cases l with
     | nil => exact h.elim
     | cons q r => exact .inr ⟨x, tx, y, ty, q, r, rfl, h⟩
    | _ => exact h.elim
  | _ => exact h.elim
theorem triples_snoc {a b : Int} {ta tb : Tok} {z : Value} : ∀ (n : Nat) (l : List Value), l.length <= n -> TriplesOk l -> TriplesOk (l ++ [.int a ta, .int b tb, z]) := fun n => by
 induction n with
 | zero => intro l hn _; rw [List.length_eq_zero_iff.mp (Nat.le_zero.mp hn)]; trivial
 | succ n ih =>
  intro l hn h
  rcases triples_inv h with rfl | ⟨x, tx, y, ty, q, r, rfl, h'⟩
  ·trivial
  ·exact ih r (by simp only [List.length_cons] at hn; omega) h'
set_option tactic.hygienic true in
theorem among_snoc {pos : Pos} {a b : Int} {ta tb : Tok} {z cv : Value} : ∀ (n : Nat) (l : List Value), l.length <= n -> TriplesOk l -> codeAmong pos (l ++ [.int a ta, .int b tb, z]) = some cv -> codeAmong pos l = some cv \/ cv = z := fun n => by
 have base : codeAmong pos [.int a ta, .int b tb, z] = some cv -> cv = z := fun e => by
  simp only [codeAmong] at e
  split at e
  ·exact (Option.some.inj e).symm
  ·cases e
 induction n with
 | zero => intro l hn _ e; rw [List.length_eq_zero_iff.mp (Nat.le_zero.mp hn)] at e; exact .inr (base e)
 | succ n ih =>
  intro l hn h e
  rcases triples_inv h with rfl | ⟨x, tx, y, ty, q, r, rfl, h'⟩
  ·exact .inr (base e)
  ·simp only [List.cons_append, codeAmong] at e ⊢
   split at e
   ·rename_i h1; rw [if_pos h1]; exact .inl e
   ·rename_i h1; rw [if_neg h1]; exact ih r (by simp only [List.length_cons] at hn; omega) h' e
noncomputable def tabP (g : Heap) : OP := fun o => ∃ ps : Array Value, o = tabObj ps /\ TriplesOk ps.toList /\ ∀ pos cv, codeAmong pos ps.toList = some cv -> ∃ c', cv = .ref c' /\ g.CodeRec cv "_law_lexer.<locals>.<lambda>"
theorem tabP.mono {g g' : Heap} (k : ∀ b o, g.get? b = some o -> g'.get? b = some o) {o : Obj} (h : tabP g o) : tabP g' o :=
 let ⟨ps, a, b, d⟩ := h; ⟨ps, a, b, fun pos cv e => let ⟨c', q, r⟩ := d pos cv e; ⟨c', q, r.keeps k⟩⟩
theorem r_lambda {params : Arguments} {body : Expr} {scope : Scope} {pos : Pos} {clos : List (Str × Addr)} {Q : Value -> Shared -> Prop} (hdef : defaultsOf params env = ([], [])) (B : Base w g) (S : Sf c g L m ((107, tabP g) :: own) s)
  (hcode : env.code = .ref 111) (hC : codeHdIn (heapK w.params) 111 107 = true) (hge : env.globals = mainGlobals) (hcl : closureFor scope env = pure clos) (hq : env.qual ++ "<lambda>" = Str.ofString "_law_lexer.<locals>.<lambda>")
  (h : ∀ g' f c' pm ctv s', (∀ b o, g.get? b = some o -> g'.get? b = some o) -> Base w g' -> g'.CodeRec (.ref c') "_law_lexer.<locals>.<lambda>" ->
   Sf c g' L m ((107, tabP g') :: (f, eqO (kla_obj "<lambda>" "_law_lexer.<locals>.<lambda>" params body scope clos pm c' ctv)) :: own) s' -> Q (.ref f) s') :
  wpAny (model prog w) A (eval (.Lambda params body scope pos) env) Q E s := by
 refine kla_eval hdef ?_
 rw [show (env.qual ++ ("<lambda>" : Str)) = Str.ofString "_law_lexer.<locals>.<lambda>" from hq]
 obtain ⟨p, lo, me, mg, mb, T⟩ := B.T
 have hgs := T.g.keeps S.keep
 obtain ⟨bm, ob, b1, b2, b3, b4, b5, b6⟩ := T.bmain
 obtain ⟨ot, hP, ps, rfl, ht, hall⟩ := S.at (a := 107) (Pa := tabP g) (.tail _ (.head _))
 have offP : g.get? 107 = none := S.off (a := 107) (Pa := tabP g) (.tail _ (.head _))
 have hgP : mainGlobals ≠ 107 := by decide
 have hbP : bm ≠ 107 := fun q => by rw [q, offP] at b3; cases b3
 have hbG : bm ≠ mainGlobals := fun q => by
  obtain ⟨o, es, ep, e, hd, _⟩ := T.g
  rw [q, e] at b3; cases b3; rw [hd] at b6; cases b6
 have C : CodeHd s.heap 111 107 := codeHd_of_K (B.K.keeps S.keep) hC
 have hb : s.heap.BuiltinsAt mg 107 := ⟨bm, ob, b1, b2, hbG, hbP, S.keep _ _ b3, b4, b5, b6⟩
 cases hc : codeAmong pos ps.toList with
 | some cv =>
  obtain ⟨c', rfl, hrec⟩ := hall _ _ hc
  refine kla_makeFunctionHit (mg := mg) hcl hge hgs hcode C hP ht hc hb fun ctv h' tk hk hsz => ?_
  have S1 : Hf c g _ { s with heap := h', toks := tk } := Hf.grow S hk rfl rfl
  have S2 := Hf.alloc (Pa := eqO (kla_obj "<lambda>" "_law_lexer.<locals>.<lambda>" params body scope clos ((mg "__name__").getD .none) c' ctv)) S1 _ rfl
  refine h g _ c' ((mg "__name__").getD .none) ctv _ (fun _ _ e => e) B hrec (S2.perm ?_)
  exact (List.Perm.swap ..).trans ((List.Perm.swap ..).cons _)
 | none =>
  refine kla_makeFunction (mg := mg) hcl hge hgs hcode C hP ht hc hgP hb fun c' ctv h' tk hx hge' hlt hrec htb => ?_
  have S1 := Hf.turn (Pb := eqO (tabObj (ps ++ #[rawInt pos.line, rawInt pos.col, .ref c']))) (s' := { s with heap := h', toks := tk }) (S.perm (List.Perm.swap ..)) hx ⟨_, htb, rfl⟩ rfl rfl rfl
  have S2 := Hf.alloc (Pa := eqO (kla_obj "<lambda>" "_law_lexer.<locals>.<lambda>" params body scope clos ((mg "__name__").getD .none) c' ctv)) S1 _ rfl
  obtain ⟨g', k1, k2, S3⟩ := S2.rebase
  obtain ⟨c₂, oc, vs', t', e2, hoc, hd', hv'⟩ := hrec
  cases e2
  have off : c' ∉ (((h'.objs.size, eqO (kla_obj "<lambda>" "_law_lexer.<locals>.<lambda>" params body scope clos ((mg "__name__").getD .none) c' ctv)) :: (107, eqO (tabObj (ps ++ #[rawInt pos.line, rawInt pos.col, .ref c']))) :: (L, nsO m) :: own : Led)).map (·.1) := fun hm => by
   obtain ⟨q, hq, e⟩ := List.mem_map.mp hm
   rcases List.mem_cons.mp hq with rfl | hq
   ·exact absurd (show h'.objs.size = c' from e) (Nat.ne_of_gt hlt)
   ·have : q.1 < s.heap.objs.size := by
     rcases List.mem_cons.mp hq with rfl | hq
     ·exact Heap.lt_size hP
     ·rcases List.mem_cons.mp hq with rfl | hq
      ·exact S.lt (.head _)
      ·exact S.lt (a := q.1) (Pa := q.2) (.tail _ (.tail _ hq))
    have e' : q.1 = c' := e
    have : q.1 < c' := Nat.lt_of_lt_of_le this hge'
    exact absurd e' (Nat.ne_of_lt this)
  have hrec' : g'.CodeRec (.ref c') "_law_lexer.<locals>.<lambda>" := ⟨c', oc, vs', t', rfl, k2 _ _ (Heap.get?_push_of_some _ hoc) off, hd', hv'⟩
  refine h g' _ c' ((mg "__name__").getD .none) ctv _ k1 (B.keeps k1) hrec' ((Hf.weaken (Pb := tabP g') (S3.perm (List.Perm.swap ..)) fun o e => ?_).perm ?_)
  ·cases e
   refine ⟨_, rfl, by rw [Array.toList_append]; exact triples_snoc _ _ (Nat.le_refl _) ht, fun pos' cv e => ?_⟩
   rw [Array.toList_append] at e
   rcases among_snoc _ _ (Nat.le_refl _) ht e with e | rfl
   ·obtain ⟨c1, q, r⟩ := hall _ _ e
    exact ⟨c1, q, r.keeps k1⟩
   ·exact ⟨c', rfl, hrec'⟩
  ·exact (((List.Perm.swap ..).cons _).trans (List.Perm.swap ..))
end

end
section
theorem store_function : StoreFacts "function" [.type "function", .type "object"] "object.__setattr__" "object" where
 mro := by kernel_rfl
 slot := .of (owner := "object") (n := "__setattr__") (by rw [typeLookup_type, builtinLookup_eq_fast]; kernel_rfl) (by decide +kernel) (by decide +kernel) (by decide +kernel)
  (by first | exact .inl (by decide +kernel) | exact .inr (by decide +kernel)) (by rw [isSubtype_type]; kernel_rfl)
 entry := PySem.F.entry_object_sa
 kind := by decide +kernel
 split := by decide +kernel
 hasOwner := by decide +kernel
 args := fun a b c => by unfold argsOk; kernel_rfl
 passes := fun self => by kernel_rfl
theorem look_fn_read : typeLookup (.type "function") "read" = pure none := by rw [typeLookup_type, builtinLookup_eq_fast]; kernel_rfl
section
variable {prog : Program} {w : World} {A : Around} {E : Value -> Shared -> Prop} {c : Cx} {g : Heap} {own : Led} {s : Shared} {L f : Addr} {m mx : Str -> Option Value} {v : Value}
theorem r_setFn {fo : Obj} {Q : Unit -> Shared -> Prop} (S : Sf c g L m ((f, eqO fo) :: own) s) (hcl : fo.cls = .type "function") (hdi : fo.dict = none) {fd : FuncData} (hda : fo.data = .func fd)
  (h : ∀ d s', Sf c g L m ((d, insO (fun y => if y = Str.ofString "read" then some v else none) 1) :: (f, eqO { fo with dict := some d }) :: own) s' -> Q () s') :
  wpAny (model prog w) A (setAttr (.ref f) "read" v) Q E s := by
 obtain ⟨hh, gg, dd, tt, oo⟩ := s
 obtain ⟨ox, hxo, rfl⟩ := S.at (a := f) (Pa := eqO fo) (.tail _ (.head _))
 obtain ⟨fc, fdi, fda, fsl⟩ := ox
 dsimp only at hcl hdi hda
 subst hcl hdi hda
 have hT : (⟨hh, gg, dd, tt + 1, oo⟩ : Shared).TypeIs (.ref f) "function" := ⟨_, hxo, rfl⟩
 refine wpAny_bind (wpAny_mkText (wpAny_bind (wpAny_callSpecial?_slot hT store_function.slot (wpAny_call_entry store_function.slot hT store_function.entry ?_ (store_function.args ..)))))
 rw [osa_eq]
 refine wpAny_bind ?_
 rw [refuse_eq]
 refine wpAny_bind (wpAny_typeOf hT (wpAny_bind (wpAny_of_eq store_function.mro ?_)))
 rw [store_function.passes]
 refine wpAny_pure (wpAny_bind (wpAny_typeOf hT (wpAny_bind (wpAny_of_eq look_fn_read (wpAny_bind (wpAny_of_eq (a := none) rfl ?_))))))
 refine wpAny_bind (wpAny_of_eq (a := ()) rfl (wpAny_bind ?_))
 refine wpAny_bind (wpAny_loadPart hxo ?_)
 have S1 := Sf.alloc (Pa := insO (fun _ => none) 0) S emptyDict ⟨#[], 0, rfl, fun _ h => by simp at h, Nat.le_refl _, fun _ => rfl⟩
 have hx1 : (hh.push emptyDict).get? f = some { cls := .type "function", data := .func fd, slots := fsl } := Heap.get?_push_of_some _ hxo
 refine wpAny_bind (wpAny_alloc (wpAny_bind (wpAny_update hx1 ?_)))
 have S2 := Hf.put (Pb := eqO { cls := .type "function", dict := some hh.objs.size, data := .func fd, slots := fsl }) (s' := ⟨(hh.push emptyDict).update f fun o => { o with dict := some hh.objs.size }, gg, dd, tt + 1, oo⟩) S1 (by walk_at "put") (Heap.SameBut.update ..).extBut ⟨_, Heap.get?_update_self (fun o => { o with dict := some hh.objs.size }) hx1 rfl, rfl⟩ rfl rfl rfl
 refine wpAny_of_eq (a := some hh.objs.size) rfl ?_
 dsimp only
 obtain ⟨od, hdo, hi⟩ := S2.at (a := hh.objs.size) (Pa := insO (fun _ => none) 0) (by walk_at "mem")
 refine wpAny_bind (wpAny_of_eq (a := ()) rfl (wpAny_bind ?_))
 refine wp_nsSetN hdo hi fun h' o' e1 e2 e3 e4 => ?_
 obtain ⟨es, ep, q1, q2, q3, q4⟩ := e2
 refine wpAny_bind (wpAny_lookBehind e1 (by rw [q1]; exact pastItsLine_dict (by rw [sizeLine_eq]; simp at q3; omega)) ?_)
 refine wpAny_pure ⟨_, rfl, wpAny_pure (h hh.objs.size _ (Hf.put S2 (Pb := insO (fun y => if y = Str.ofString "read" then some v else none) 1) (by walk_at "put") e3.extBut ⟨_, e1, es, ep, q1, q2, by simpa using q3, q4⟩ rfl rfl rfl))⟩
theorem slot_fn_getattribute : Slot "function" "__getattribute__" "object.__getattribute__" :=
 .of (owner := "object") (n := "__getattribute__") (by rw [typeLookup_type, builtinLookup_eq_fast]; kernel_rfl) (by decide +kernel) (by decide +kernel) (by decide +kernel)
  (by first | exact .inl (by decide +kernel) | exact .inr (by decide +kernel)) (by rw [isSubtype_type]; kernel_rfl)
theorem entry_object_ga : entryFor table "object.__getattribute__" = some Builtin.«object.__getattribute__» := entryFor_of_tree (by kernel_rfl)
theorem args_object_ga (a b : Value) : argsOk "object.__getattribute__" ⟨[a, b], []⟩ := by unfold argsOk; kernel_rfl
theorem look_fn_getattr : typeLookup (.type "function") "__getattr__" = pure none := by rw [typeLookup_type, builtinLookup_eq_fast]; kernel_rfl
theorem r_getFn {fo : Obj} {d : Addr} {k : Nat} {ex : Bool} {fd : FuncData} {Q : Value -> Shared -> Prop} (S : Sf c g L m own s) (hf : Has g own f (eqO fo)) (hcl : fo.cls = .type "function") (hdi : fo.dict = some d) (hda : fo.data = .func fd)
  (hd : Has g own d (insO mx k)) (hv : mx "read" = some v) (hh : handedIn v = true) (h : ∀ s', Sf c g L m own s' -> Q v s') : wpAny (model prog w) A (getAttr (.ref f) "read" ex) Q E s := by
 obtain ⟨hp, gg, dd, tt, oo⟩ := s
 obtain ⟨ox, hxo, rfl⟩ := hf.sat S
 obtain ⟨od, hdo, hi⟩ := hd.sat S
 obtain ⟨fc, fdi, fda, fsl⟩ := ox
 dsimp only at hcl hdi hda
 subst hcl hdi hda
 have hT : (⟨hp, gg, dd, tt + 1, oo⟩ : Shared).TypeIs (.ref f) "function" := ⟨_, hxo, rfl⟩
 unfold getAttr getAttrBy
 refine wpAny_bind (wpAny_mkText (wpAny_holding (wpAny_bind (wpAny_typeOf hT (wpAny_bind (wpAny_of_eq slot_fn_getattribute.lookup ?_))))))
 show wpAny _ _ (getAttrByItsOwn _ _ _ _ _ _) _ _ _
 unfold getAttrByItsOwn
 refine wpAny_bind (wpAny_of_eq (a := none) rfl (wpAny_bind (wpAny_attempt (wpAny_holding ?_))))
 unfold callGetattribute
 have hne : ¬ ((ex && onTheHeap (.builtin "object.__getattribute__")) = true) := by cases ex <;> (intro q; cases q)
 rw [if_neg hne]
 unfold boundAndCalled
 refine wpAny_bind (wpAny_of_eq (slot_fn_getattribute.bind _) (wpAny_call_entry slot_fn_getattribute hT entry_object_ga ?_ (args_object_ga ..)))
 have hn : hp.Ns d mx := let ⟨es, ep, a1, a2, _, a4⟩ := hi; ⟨od, es, ep, hdo, a1, a2, a4⟩
 refine wpAny_bind (wpAny_of_eq (a := (.ref f, [.str "read" tt])) rfl (wpAny_bind (wpAny_of_eq (a := Str.ofString "read") rfl (wpAny_bind (wpAny_typeOf hT (wpAny_bind ?_))))))
 refine wpAny_bind (wpAny_of_eq look_fn_read (wpAny_bind (wpAny_of_eq (a := none) rfl (wpAny_bind (wpAny_of_eq (a := none) rfl ?_)))))
 refine wpAny_bind (wpAny_bind (wpAny_bind (wpAny_loadPart hxo (wpAny_bind (wpAny_loadPart hxo ?_)))))
 refine wpAny_pure (wpAny_nsGet hn ?_)
 rw [hv]
 refine wpAny_bind (wpAny_rule (wpAny_pure (wpAny_pure ⟨_, rfl, ?_⟩)))
 show wpAny _ _ (handedOut v) _ _ _
 rw [handedOut_of hh]
 exact wpAny_pure (h _ (Hf.tok S _))
theorem r_methFn {fo : Obj} {d : Addr} {k : Nat} {pl : Sem Bool} {fd : FuncData} {Q : Value × List Value -> Shared -> Prop} (S : Sf c g L m own s) (hf : Has g own f (eqO fo)) (hcl : fo.cls = .type "function") (hdi : fo.dict = some d) (hda : fo.data = .func fd)
  (hd : Has g own d (insO mx k)) (hv : mx "read" = some v) (hh : handedIn v = true) (h : ∀ s', Sf c g L m own s' -> Q (v, []) s') : wpAny (model prog w) A (getMethod (.ref f) "read" pl) Q E s := by
 obtain ⟨ox, hxo, e⟩ := hf.sat S
 have hT : s.TypeIs (.ref f) "function" := ⟨_, hxo, by rw [e]; exact hcl⟩
 unfold getMethod
 refine wpAny_bind (wpAny_specialOf hT slot_fn_getattribute.lookup ?_)
 show wpAny _ _ (if _ then _ else _) _ _ _
 rw [if_neg (by decide +kernel)]
 refine wpAny_bind (wpAny_specialOf hT look_fn_getattr ?_)
 show wpAny _ _ (if _ then _ else _) _ _ _
 rw [if_neg (by decide)]
 refine wpAny_bind (wpAny_specialOf hT look_fn_read ?_)
 exact wpAny_bind (r_getFn S hf hcl hdi hda hd hv hh fun s' S' => wpAny_pure (h s' S'))
end

end
section
noncomputable def popped (vs : List Value) (v : Value) (vs' : List Value) : Prop := vs = v :: vs' \/ (vs = [] /\ vs' = [] /\ ∃ t, v = .str "" t)
noncomputable def Reader (prog : Program) (w : World) (g : Heap) (rd : Value) (rl : Addr) : Prop :=
 ∀ (c : Cx) (g' : Heap) (own : Led) (A : Around) (s : Shared) (vs : List Value) (n : Value), (∀ b o, g.get? b = some o -> g'.get? b = some o) -> AOk 1 A -> Base w g' -> vs.length < sizeLine -> Hf c g' ((rl, listO vs) :: own) s ->
  codeAny (model prog w) A (.call rd ⟨[n], []⟩) (fun r s' => ∃ v vs', r = .ok (.ret v) /\ popped vs v vs' /\ Hf c g' ((rl, listO vs') :: own) s') s
structure LexF (prog : Program) (w : World) (g : Heap) (x dx st rl : Addr) : Prop where
 x : ∃ o, g.get? x = some o /\ eqO (instObj 101 dx) o
 st : ∃ fo sd mr k fd rd, (∃ o, g.get? st = some o /\ eqO fo o) /\ fo.cls = .type "function" /\ fo.dict = some sd /\ fo.data = .func fd /\ (∃ o, g.get? sd = some o /\ insO mr k o) /\ mr "read" = some (.ref rd) /\ Reader prog w g (.ref rd) rl /\
  (∃ o fd', g.get? rd = some o /\ o.data = .func fd')
theorem Reader.mono {prog : Program} {w : World} {g g' : Heap} {rd : Value} {rl : Addr} (k : ∀ b o, g.get? b = some o -> g'.get? b = some o) (R : Reader prog w g rd rl) : Reader prog w g' rd rl :=
 fun c g₂ own A s vs n k₂ => R c g₂ own A s vs n fun b o e => k₂ b o (k b o e)
theorem LexF.mono {prog : Program} {w : World} {g g' : Heap} {x dx st rl : Addr} (k : ∀ b o, g.get? b = some o -> g'.get? b = some o) (F : LexF prog w g x dx st rl) : LexF prog w g' x dx st rl :=
 ⟨F.x.imp fun _ h => ⟨k _ _ h.1, h.2⟩, F.st.imp fun _ h => h.imp fun _ h => h.imp fun _ h => h.imp fun _ h => h.imp fun _ h => h.imp fun _ h =>
  ⟨h.1.imp fun _ z => ⟨k _ _ z.1, z.2⟩, h.2.1, h.2.2.1, h.2.2.2.1, h.2.2.2.2.1.imp fun _ z => ⟨k _ _ z.1, z.2⟩, h.2.2.2.2.2.1, h.2.2.2.2.2.2.1.mono k, h.2.2.2.2.2.2.2.imp fun _ h => h.imp fun _ z => ⟨k _ _ z.1, z.2⟩⟩⟩
section
variable {prog : Program} {w : World} {A : Around} {E : Value -> Shared -> Prop} {env : Env} {c : Cx} {g : Heap} {own : Led} {s : Shared}
theorem r_callK {f : Value} {pos : Pos} {first : List Value} {e : Expr} {rest : List Expr} {Q : Value -> Shared -> Prop} (B : Base w g) (hk : keepIn (heapK w.params) f = true)
  (h : wpAny (model prog w) A (spliced (backTo pos (starEach (e :: rest) env))) (fun vs s₁ => (∃ c' own', Hf c' g own' s₁) /\ wpAny (model prog w) A (call f (first ++ vs)) Q E s₁) E s)
  (he : autoParam (starEach (e :: rest) env = (false, eval e env) :: starEach rest env) auR) (hplain : autoParam ((backTo pos (starEach rest env)).any (·.1) = false) auR) :
  wpAny (model prog w) A (callWith pos f first (backTo pos (starEach (e :: rest) env)) []) Q E s :=
 callWith_K B.K hk (wpAny_mono h (fun vs s₁ q => ⟨let ⟨_, _, S⟩ := q.1; B.K.keeps S.keep, q.2⟩) fun _ _ q => q) he hplain
theorem reader_of {name qual : Str} {params : Arguments} {body : Expr} {scope : Scope} {cl : List (Str × Addr)} {pm ctv : Value} {c' rd rl : Addr}
  (ho : g.get? rd = some (kla_obj name qual params body scope cl pm c' ctv)) (hcd : g.CodeRec (.ref c') qual)
  (hp : params.args.map (·.arg) = [Str.ofString "size"]) (hbind : ∀ n, bindArgs (kla_fn name qual params body scope cl pm (.ref c') ctv) ⟨[n], []⟩ = pure [(Str.ofString "size", n)])
  (hloc : scope.names.lookup (Str.ofString "size") = some .local) (hcell : ∀ x ∈ scope.names, x.2 ≠ .cell) (hco : scope.isCoroutine = false) (hgen : scope.isGenerator = false) (hk : scope.kind = .function)
  (hb : ∀ (c : Cx) (g' : Heap) (own : Led) (A : Around) (s : Shared) (vs : List Value) (n : Value) (L : Addr), (∀ b o, g.get? b = some o -> g'.get? b = some o) -> AOk 0 A -> Base w g' -> vs.length < sizeLine ->
   Sf c g' L (fun y => if y = Str.ofString "size" then some n else none) ((rl, listO vs) :: own) s ->
   wpAny (model prog w) A (eval body (envX qual scope L rd (.ref c') cl)) (fun v s' => ∃ vs', popped vs v vs' /\ Sf c g' L (fun y => if y = Str.ofString "size" then some n else none) ((rl, listO vs') :: own) s') (fun _ _ => False) s) :
  Reader prog w g (.ref rd) rl := by
 intro c g' own A s vs n k hA B hz S
 refine kla_callFunE hA.room (S.keep _ _ (k _ _ ho)) rfl hco hgen rfl ((hcd.keeps k).keeps S.keep) ?_
 rw [hbind]
 refine wpAny_pure (wpAny_newFunctionEnv hcell (fun x hx => by rw [List.mem_singleton.mp hx]; exact hloc) (fun h' hns hsb => ⟨(B.lim.keeps S.keep).fresh _ hsb, ?_⟩) hk)
 refine kla_codeExpr (wpAny_mono (hb c g' own (A.deeper (envX qual scope s.heap.objs.size rd (.ref c') cl)) _ vs n s.heap.objs.size k hA.deeper B hz ?_) (fun v s' q => ?_) fun _ _ q => q.elim)
 ·have ext : ∀ b o, s.heap.get? b = some o -> h'.get? b = some o := fun b o e => hsb.extBut b o (Nat.ne_of_lt (Heap.lt_size e)) (Heap.get?_push_of_some _ e)
  refine ⟨fun b o e => ext _ _ (S.keep b o e), fun p hp => ?_, ?_, S.gsEq, S.osEq⟩
  ·rcases List.mem_cons.mp hp with rfl | hp
   ·refine ⟨nsO_of ?_, S.new⟩
    have e : (fun x => List.lookup x [(Str.ofString "size", n)].reverse) = fun y => if y = Str.ofString "size" then some n else none := by
     funext x
     show List.lookup x [(Str.ofString "size", n)] = _
     rw [List.lookup_cons]
     by_cases q : x = Str.ofString "size"
     ·subst q; simp
     ·rw [beq_false_of_ne q, if_neg q]; rfl
    rw [<- e]; exact hns
   ·obtain ⟨⟨o', e, q⟩, n⟩ := S.led p hp
    exact ⟨⟨o', ext _ _ e, q⟩, n⟩
  ·rw [List.map_cons, List.nodup_cons]
   refine ⟨fun q => ?_, S.nodup⟩
   obtain ⟨p, hp, e⟩ := List.mem_map.mp q
   exact absurd (S.lt (a := p.1) (Pa := p.2) hp) (by rw [show p.1 = s.heap.objs.size from e]; exact Nat.lt_irrefl _)
 ·obtain ⟨vs', h1, h2⟩ := q
  exact ⟨v, vs', rfl, h1, h2.tail⟩
end

end
section
section
variable {prog : Program} {w : World} {A : Around} {c : Cx} {g : Heap} {own : Led} {s : Shared}
set_option tactic.hygienic true in
theorem lexer_spec {text : Str} {t : Tok} (hA : AOk 4 A) (B : Base w g) (S : Hf c g ((107, tabP g) :: own) s) (hsz : text.length < sizeLine) :
  codeAny (model prog w) A (.call (.ref 112) ⟨[.str text t], []⟩) (fun r s' => ∃ g' x dx mx p st rl vs, (∀ b o, g.get? b = some o -> g'.get? b = some o) /\ r = .ok (.ret (.ref x)) /\ LexF prog w g' x dx st rl /\ lexM mx 1 (.ref st) p /\ StrsAre vs (signs text) /\
   Hf c g' ((107, tabP g') :: (p, listO []) :: (dx, insO mx 4) :: (rl, listO vs) :: own) s') s := by
 have hsz' : text.length <= sizeLine := Nat.le_of_lt hsz
 refine callC (bs := [(Str.ofString "text", .str text t)]) B S hA.room (by k_is) (by k_is) rfl (by rfl) (by decide) (fun L s' S => ?_) rfl rfl rfl
 change Sf c g L (fun y => if y = Str.ofString "text" then some (.str text t) else none) ((L + 1, cellO none) :: (107, tabP g) :: own) s' at S
 have hA1 := hA.deeper (env := envOfC (Str.ofString "_law_lexer") { kind := .function, names := [(Str.ofString "text", .local), (Str.ofString "stream", .local), (Str.ofString "rest", .cell), (Str.ofString "list", .globalImplicit), (Str.ofString "_netrclex", .globalImplicit)], isGenerator := false, isCoroutine := false } L 112 (.ref 111))
 with_reducible refine wpAny_execs_cons ?_
 refine wpAny_Assign_Name ?_
 refine Call_ ?_
 walk_at "n"
 first | refine PySem.Pv.callWith_type1 ?_ | refine callWith_type0 ?_
 walk_at "sp"
 walk_at "n"
 walk_at "sp"
 refine r_listStr (AOk.hh (by assumption)) (by assumption) (by assumption) ?_; intro _ _ _ _ _
 walk_at "sto"
 with_reducible refine wpAny_execs_cons ?_
 refine wpAny_Assign_Name ?_
 dsimp only
 rename_i rl vs s1 hvs _ s2 S2
 refine r_lambda rfl B (S2.front (by walk_at "pick")) rfl (by kernel_rfl) rfl rfl (by rfl) ?_
 intro g1 st c1 pm1 ctv1 s3 k1 B1 hr1 S3
 clear B S2
 walk_at "sto"
 with_reducible refine wpAny_execs_cons ?_
 refine plainObj_wpAny_Assign_Attribute ?_
 dsimp only
 rename_i s4 S4
 refine r_lambda rfl B1 (S4.front (by walk_at "pick")) rfl (by kernel_rfl) rfl rfl (by rfl) ?_
 intro g2 rd c2 pm2 ctv2 s5 k2 B2 hr2 S5
 clear B1
 walk_at "n"
 refine r_setFn (S5.front (by walk_at "pick")) rfl rfl rfl ?_
 intro sd s6 S6
 with_reducible refine wpAny_execs_cons ?_
 with_reducible refine wpAny_Return_some ?_
 refine Call_ ?_
 walk_at "n"
 dsimp only
 refine r_callK B2 (by k_is) ?_
 walk_at "sp"
 walk_at "n"
 walk_at "sp"
 refine ⟨⟨_, _, S6⟩, wpAny_call (codeAny_mono (cls_spec (hA1.mono (by decide)) B2 S6) fun r s7 z => ?_)⟩
 obtain ⟨x, dx, mx, p, rfl, hm, S7⟩ := z
 obtain ⟨g3, k3, hf, S8⟩ := Hf.freeze (as := [(x, eqO (instObj 101 dx)), (sd, _), (st, _), (rd, _), (L + 1, cellO (some (.ref rl)))]) (rest := (107, tabP g2) :: (p, listO []) :: (dx, insO mx 4) :: (rl, listO vs) :: (L, _) :: own) S7 (by walk_at "perm")
 have S9 := (Hf.perm (own' := (L, _) :: (107, tabP g2) :: (p, listO []) :: (dx, insO mx 4) :: (rl, listO vs) :: own) S8 (by walk_at "perm")).tail
 have S10 := Hf.weaken (Pb := tabP g3) S9 fun o e => e.mono k3
 have k := fun b o e => k3 b o (k2 b o (k1 b o e))
 obtain ⟨o1, e1, q1⟩ := hf (x, _) (by walk_at "mem")
 obtain ⟨o2, e2, q2⟩ := hf (sd, _) (by walk_at "mem")
 obtain ⟨o3, e3, q3⟩ := hf (st, _) (by walk_at "mem")
 obtain ⟨o4, e4, q4⟩ := hf (rd, _) (by walk_at "mem")
 obtain ⟨o5, e5, q5⟩ := hf (L + 1, _) (by walk_at "mem")
 cases q4
 refine ⟨g3, x, dx, mx, p, st, rl, vs, k, rfl, ⟨⟨o1, e1, q1⟩, _, sd, _, 1, _, rd, ⟨o3, e3, q3⟩, rfl, rfl, rfl, ⟨o2, e2, q2⟩, rfl, ?_, ⟨_, _, e4, rfl⟩⟩, hm, hvs, S10⟩
 refine reader_of e4 (hr2.keeps k3) rfl (fun n => rfl) rfl (by decide) rfl rfl rfl ?_
 intro c g' own A s vs n L' kk hA B hz S
 have hz' := Nat.le_of_lt hz
 have cell : ∃ o, g'.get? (L + 1) = some o /\ cellO (some (.ref rl)) o := ⟨o5, kk _ _ e5, q5⟩
 refine IfExp_ ?_
 refine isTrue_plain ?_
 walk_at "n"
 refine r_truthList (by assumption) (by walk_at "hx") (by assumption) ?_; intro _ _
 cases vs with
 | nil =>
  refine ite_neg (by decide) ?_
  refine r_str (by assumption) ?_; intro _ _ _
  exact ⟨[], .inr ⟨rfl, rfl, _, rfl⟩, by assumption⟩
 | cons y vs =>
  refine ite_pos rfl ?_
  refine MethodCall_ ?_
  walk_at "n"
  refine r_listMethod (by assumption) (by walk_at "hx") PySem.F.slot_list_pop PySem.F.type_list_pop ?_
  first | refine callWith_method1 ?_ | refine callWith_method0 ?_
  walk_at "sp"
  refine r_int (by assumption) ?_; intro _ _ _
  walk_at "sp"
  dsimp only
  refine r_pop0 (by assumption) (by walk_at "put") (Nat.lt_of_succ_lt hz) ?_
  intro s' S'
  exact ⟨vs, .inl rfl, S'⟩
end

end
section
noncomputable def chS (n : Nat) : Str := ⟨#[n]⟩
noncomputable def rdS : List Nat -> Str | [] => ⟨#[]⟩ | n :: _ => chS n
noncomputable def rdN : List Nat -> Int | n :: _ => if n = 10 then 1 else 0 | [] => 0
theorem ofS_nl : Str.ofString "\n" = chS 10 := by decide +kernel
theorem ofS_empty : Str.ofString "" = ⟨#[]⟩ := by decide +kernel
theorem chS_inj {a b : Nat} : (chS a = chS b) = (a = b) := by
 apply propext
 constructor
 ·intro h
  have := congrArg Str.cps h
  simpa [chS] using this
 ·rintro rfl; rfl
theorem lexM.set {mx : Str -> Option Value} {ln n : Int} {fp : Value} {p : Addr} (h : lexM mx ln fp p) (t : Tok) : lexM (fun y => if y = Str.ofString "lineno" then some (.int n t) else mx y) n fp p :=
 ⟨⟨t, by show (if _ then _ else _) = _; rw [if_pos rfl]⟩, by show (if _ then _ else _) = _; rw [if_neg (by decide)]; exact h.2.1,
  let ⟨u, e⟩ := h.2.2.1; ⟨u, by show (if _ then _ else _) = _; rw [if_neg (by decide)]; exact e⟩, by show (if _ then _ else _) = _; rw [if_neg (by decide)]; exact h.2.2.2.1,
  by show (if _ then _ else _) = _; rw [if_neg (by decide)]; exact h.2.2.2.2.1, by show (if _ then _ else _) = _; rw [if_neg (by decide)]; exact h.2.2.2.2.2.1, by show (if _ then _ else _) = _; rw [if_neg (by decide)]; exact h.2.2.2.2.2.2⟩
section
variable {prog : Program} {w : World} {A : Around} {c : Cx} {g : Heap} {own : Led} {s : Shared} {x dx st rl p : Addr} {mx : Str -> Option Value} {ln : Int} {vs : List Value} {cs : List Nat}
set_option tactic.hygienic true in
theorem read_spec (hA : AOk 3 A) (B : Base w g) (F : LexF prog w g x dx st rl) (hm : lexM mx ln (.ref st) p) (hv : StrsAre vs (cs.map chS)) (hz : vs.length < sizeLine) (S : Hf c g ((dx, insO mx 4) :: (rl, listO vs) :: own) s) :
  codeAny (model prog w) A (.call (.ref 84) ⟨[.ref x], []⟩) (fun r s' => ∃ mx' vs' t, r = .ok (.ret (.str (rdS cs) t)) /\ lexM mx' (ln + rdN cs) (.ref st) p /\ StrsAre vs' (cs.tail.map chS) /\ vs'.length <= vs.length /\
   Hf c g ((dx, insO mx' 4) :: (rl, listO vs') :: own) s') s := by
 obtain ⟨hm1, hm2, hm3, hm4, hm5⟩ := id hm
 obtain ⟨hx, fo, sd, mr, k, fd, rd, hst, h1, h2, h3, hsd, h4, hR, hrd⟩ := F
 obtain ⟨u, hm1⟩ := hm1
 refine callK (bs := [(Str.ofString "self", .ref x)]) B S hA.room (by k_is) (by k_is) rfl (by decide) (by decide) (by rfl) (fun L s' S => ?_) rfl rfl rfl
 with_reducible refine wpAny_execs_cons ?_
 refine wpAny_Assign_Name ?_
 refine MethodCall_ ?_
 refine Attribute_Name_ ?_
 walk_at "n"
 dsimp only
 refine r_getIns S B (.inr hx) (.inl (by walk_at "mem")) hm2 (by k_is) (by k_is) (by k_is) rfl rfl ?_
 intro s1 S1
 refine r_methFn S1 (.inr hst) h1 h2 h3 (.inr hsd) h4 rfl ?_
 intro s2 S2
 refine r_callFn (let ⟨o, fd', a, b⟩ := hrd; ⟨o, fd', a, b⟩) ?_
 walk_at "sp"
 refine r_int (by assumption) ?_; intro _ _ _
 walk_at "sp"
 dsimp only
 rename_i t3 s3 S3
 refine ⟨⟨_, _, S3⟩, wpAny_call (codeAny_mono (hR c g _ _ s3 vs _ (fun _ _ e => e) (hA.deeper.mono (by decide)) B hz (Hf.perm (own' := (rl, listO vs) :: (L, _) :: (dx, insO mx 4) :: own) S3 (by walk_at "perm"))) fun r s4 z => ?_)⟩
 obtain ⟨v, vs', rfl, hp, S4⟩ := z
 have S4 := Hf.perm (own' := (L, _) :: (dx, insO mx 4) :: (rl, listO vs') :: own) S4 (by walk_at "perm")
 dsimp only
 have key : ∃ t, v = .str (rdS cs) t /\ StrsAre vs' (cs.tail.map chS) /\ vs'.length <= vs.length := by
  rcases hp with rfl | ⟨rfl, rfl, t, rfl⟩
  ·cases cs with
   | nil => cases hv
   | cons n r => cases hv with | cons y t h => exact ⟨t, rfl, h, Nat.le_succ _⟩
  ·cases cs with
   | nil => exact ⟨t, by rw [ofS_empty]; rfl, .nil, Nat.le_refl _⟩
   | cons n r => cases hv
 obtain ⟨t, rfl, hv', hl⟩ := key
 clear S S1 S2 S3
 walk_at "sto"
 with_reducible refine wpAny_execs_cons ?_
 with_reducible refine wpAny_If ?_
 refine wpAny_isTrue_Compare1 ?_
 walk_at "n"
 refine r_str (by assumption) ?_; intro _ _ _
 refine r_eqStr ?_
 refine wpAny_truthy_bool ?_
 by_cases h10 : rdS cs = Str.ofString "\n"
 ·rw [decide_eq_true h10]
  refine ite_pos rfl ?_
  with_reducible refine wpAny_execs_cons ?_
  refine wpAny_AugAssign_AttributeAny ?_
  walk_at "n"
  dsimp only
  refine r_getIns (by assumption) B (.inr hx) (.inl (by walk_at "mem")) hm1 (by k_is) (by k_is) (by k_is) rfl rfl ?_
  intro s5 S5
  refine r_int (by assumption) ?_; intro _ _ _
  refine r_iaddInt (by assumption) ?_; intro _ _ _
  refine r_setOld B (by assumption) (.inr hx) (by walk_at "put") (by rw [hm1]; rfl) (by decide) (by k_is) (by k_is) (by k_is) (by k_is) ?_
  intro s6 S6
  with_reducible refine wpAny_execs_nil ?_
  with_reducible refine wpAny_execs_cons ?_
  with_reducible refine wpAny_Return_some ?_
  walk_at "n"
  dsimp only
  rw [ofS_nl] at h10
  have e1 : rdN cs = 1 := by
   cases cs with
   | nil => exact absurd (congrArg (fun (z : Str) => z.cps.size) h10) (by decide)
   | cons n r => show (if n = 10 then (1:Int) else 0) = 1; rw [if_pos (chS_inj.mp h10)]
  refine ⟨_, vs', t, rfl, ?_, hv', hl, Hf.tail S6⟩
  rw [e1]; exact hm.set _
 ·rw [decide_eq_false h10]
  refine ite_neg (fun h => nomatch h) ?_
  with_reducible refine wpAny_execs_nil ?_
  with_reducible refine wpAny_execs_cons ?_
  with_reducible refine wpAny_Return_some ?_
  walk_at "n"
  dsimp only
  rw [ofS_nl] at h10
  have e1 : rdN cs = 0 := by
   cases cs with
   | nil => rfl
   | cons n r => show (if n = 10 then (1:Int) else 0) = 0; rw [if_neg (fun e => h10 (chS_inj.mpr e))]
  rename_i S8
  exact ⟨mx, vs', t, rfl, by rw [e1, Int.add_zero]; exact hm, hv', hl, Hf.tail S8⟩
end

end
section
theorem entry_iter : entryFor table "iter" = some Builtin.«iter» := entryFor_of_tree (by kernel_rfl)
theorem args_iter2 (a b : Value) : argsOk "iter" ⟨[a, b], []⟩ := by unfold argsOk; kernel_rfl
theorem kind_iter : builtinKind "iter" = none := by kernel_rfl
theorem plain_iter : plainId "iter" = true := by decide +kernel
theorem slot_citer_next : Slot "callable_iterator" "__next__" "callable_iterator.__next__" :=
 .of (owner := "callable_iterator") (n := "__next__") (by rw [typeLookup_type, builtinLookup_eq_fast]; kernel_rfl) (by decide +kernel) (by decide +kernel) (by decide +kernel)
  (by first | exact .inl (by decide +kernel) | exact .inr (by decide +kernel)) (by rw [isSubtype_type]; kernel_rfl)
theorem entry_citer_next : entryFor table "callable_iterator.__next__" = some Builtin.«callable_iterator.__next__» := entryFor_of_tree (by kernel_rfl)
theorem args_citer_next (a : Value) : argsOk "callable_iterator.__next__" ⟨[a], []⟩ := by unfold argsOk; kernel_rfl
theorem look_method_call : ∃ v, typeLookup (.type "method") "__call__" = pure (some v) := ⟨.builtin "method.__call__", by rw [typeLookup_type, builtinLookup_eq_fast]; kernel_rfl⟩
noncomputable def liveI (b : Addr) (t : Tok) : Obj := { cls := .type "callable_iterator", data := .fields #[.ref b, .str "" t, .bool false] }
noncomputable def endedI : Obj := { cls := .type "callable_iterator", data := .fields #[.none, .none, .bool true] }
theorem r_callBorrowed {M : Model} {A : Around} {E : Value -> Shared -> Prop} {s : Shared} {f : Value} {pos : List Value} {Q : Value -> Shared -> Prop}
  (hc : codeAny M A (.call f ⟨pos, []⟩) (fun r s' => ∃ v, r = .ok (.ret v) /\ Q v s') s) : wpAny M A (callBorrowed f pos) Q E s := fun Γ p hΓ => by
 unfold callBorrowed
 rw [PySem.Sem.wp_call]
 refine wpCode_mono (fun r s' z => ?_) (hc _ p rfl (hΓ.enter _ none p (by intro x; cases x)))
 obtain ⟨v, rfl, q⟩ := z
 exact q
section
variable {prog : Program} {w : World} {A : Around} {E : Value -> Shared -> Prop} {c : Cx} {g : Heap} {own : Led} {s : Shared} {L x dx f b : Addr} {m mx : Str -> Option Value} {t : Tok}
theorem r_bound {C : Addr} {k : Nat} {name : Str} {expr : Bool} {Q : Value -> Shared -> Prop} (S : Sf c g L m own s) (B : Base w g) (hx : Has g own x (eqO (instObj C dx))) (hd : Has g own dx (insO mx k)) (hv : mx name = none)
  (hg : plainGet (heapK w.params) C name = true) (hh : hasDictIn (heapK w.params) C = true) (ha : findIn (heapK w.params) (.ref C) name = some (some (.ref f))) (hf : isFn (heapK w.params) (.ref f) = true)
  (hgf : specialIn (heapK w.params) (.ref f) "__get__" = some (some (.builtin "function.__get__"))) (ht : takesIn (heapK w.params) (.ref f) = some false) (hc : copiedNames.contains name = false)
  (h : ∀ q s', Sf c g L m ((q, eqO (methodObj (.ref f) (.ref x))) :: own) s' -> Q (.ref q) s') : wpAny (model prog w) A (getAttr (.ref x) name expr) Q E s := by
 obtain ⟨ox, hxo, rfl⟩ := hx.sat S
 obtain ⟨od, hdo, hns⟩ := hd.sat S
 have X := B.K.keeps S.keep
 have I : InstAt s.heap x (instObj C dx) C (some od) := ⟨hxo, rfl, rfl, hdo⟩
 refine get_bind X I (plainGet_of hg).1 (findObj_fn hh ha hgf ht hc ?_) (plainGet_of hg).2
  (wpAny_call (fn_get (s := { s with toks := s.toks + 1 }) X (beq_iff_eq.mp hf) (handed_on rfl (h s.heap.objs.size _ (Hf.tok (Sf.alloc (Pa := eqO (methodObj (.ref f) (.ref x))) S (methodObj (.ref f) (.ref x)) rfl) _)))))
 exact (lookIn_ns (insO_ns hns)).trans (by rw [hv])
theorem r_iter2 {Q : Value -> Shared -> Prop} (S : Sf c g L m own s) (hb : Has g own b (eqO (methodObj (.ref f) (.ref x)))) (h : ∀ q s', Sf c g L m ((q, eqO (liveI b t)) :: own) s' -> Q (.ref q) s') :
  wpAny (model prog w) A (call (.builtin "iter") [.ref b, .str "" t]) Q E s := by
 obtain ⟨ob, hbo, rfl⟩ := hb.sat S
 obtain ⟨cv, hcv⟩ := look_method_call
 refine Calls.call_function_entry kind_iter plain_iter entry_iter (args_iter2 _ _) ?_
 unfold Builtin.«iter»
 refine wpAny_bind (wpAny_of_eq (a := [.ref b, .str "" t]) (by first | rfl | kernel_rfl) ?_)
 dsimp only
 refine wpAny_bind (wpAny_specialOf (T := "method") ⟨_, hbo, rfl⟩ hcv ?_)
 refine wpAny_bind (wpAny_rule (wpAny_bind ?_))
 exact wpAny_newObj_type (wpAny_pure ⟨_, rfl, h _ _ (Sf.alloc (Pa := eqO (liveI b t)) S (liveI b t) rfl)⟩) (by size_fits)
theorem r_borrows {Q : Bool -> Shared -> Prop} (hbo : s.heap.get? b = some (methodObj (.ref f) (.ref x))) (hf : ∃ o fd, s.heap.get? f = some o /\ o.data = .func fd) (hq : Q true s) :
  wpAny (model prog w) A (borrowsExactly (.ref b)) Q E s := by
 obtain ⟨o, fd, e1, e2⟩ := hf
 unfold borrowsExactly
 refine wpAny_bind (wpAny_load hbo ?_)
 show wpAny _ _ (if (Value.type "method" == Value.type "method") = true then _ else _) _ _ _
 rw [if_pos (by decide)]
 refine wpAny_bind (wpAny_load e1 ?_)
 rw [e2]
 exact wpAny_pure hq
end

end
section
section
variable {prog : Program} {w : World} {A : Around} {E : Value -> Shared -> Prop} {c : Cx} {g : Heap} {own own' own'' : Led} {s : Shared} {x f b it : Addr} {m : Str -> Option Value} {t : Tok}
theorem r_stop {α : Type} {Q : α -> Shared -> Prop} (S : Hf c g own s) (hh : A.handled = none) (h : ∀ a s', Hf c g own s' -> s'.TypeIs (.ref a) "StopIteration" -> E (.ref a) s') :
  wpAny (model prog w) A (Builtin.SmallTypes.stopIteration (α := α)) Q E s := by
 show wpAny _ _ (newExc (.type "StopIteration") [] >>= _) _ _ _
 refine wpAny_bind ?_
 simp only [newExc, newTuple]
 refine wpAny_bind (wpAny_newObj_type ?_ (by size_fits))
 refine wpAny_bind (m := firstArgMember _ _) (wpAny_of_eq (a := Value.none) (by first | rfl | (simp only [firstArgMember]; rfl)) ?_)
 refine wpAny_newObj_type ?_ (by size_fits)
 simp only [raiseNew]
 refine wpAny_bind (wpAny_handled ?_)
 rw [hh]
 refine wpAny_bind (wpAny_pure (wpAny_throw ?_))
 exact h _ _ (Hf.push (Hf.push S _) _) ⟨_, Heap.get?_push_size _ rfl, rfl⟩
theorem stop_none {Q : Option Value -> Shared -> Prop} {a : Addr} (ht : s.TypeIs (.ref a) "StopIteration") (h : Q none s) :
  wpAny (model prog w) A (do if <- isInstance (.ref a) (.type "StopIteration") then pure none else throw (.ref a)) Q E s :=
 wpAny_bind (wpAny_isInstance (T := "StopIteration") (b := true) ht isSubtype_stop (wpAny_pure h))
theorem r_nextEnded {Q : Option Value -> Shared -> Prop} (S : Hf c g own s) (hh : A.handled = none) (hit : Has g own it (eqO endedI)) (h : ∀ s', Hf c g own s' -> Q none s') :
  wpAny (model prog w) A (pyNext (.ref it)) Q E s := by
 obtain ⟨o, ho, rfl⟩ := hit.at S
 unfold pyNext
 refine wpAny_bind (wpAny_attempt (wpAny_callSpecial?_slot (name := Str.ofString "__next__") ⟨_, ho, rfl⟩ slot_citer_next
  (wpAny_call_entry slot_citer_next ⟨_, ho, rfl⟩ entry_citer_next ?_ (args_citer_next _))))
 show wpAny _ _ (field (.ref it) 2 >>= _) _ _ s
 refine wpAny_bind (wpAny_field ho rfl (x := .bool true) rfl ?_)
 show wpAny _ _ (if (Value.bool true == Value.bool true) = true then _ else _) _ _ s
 rw [if_pos (by decide)]
 refine wpAny_bind (wpAny_rule ?_)
 exact wpAny_bind (r_stop S hh fun a s' S' ht => stop_none ht (h _ S'))
theorem r_nextCall {Q : Option Value -> Shared -> Prop} (S : Hf c g own s) (hh : A.handled = none) (hit : Has g own it (eqO (liveI b t))) (hb : Has g own b (eqO (methodObj (.ref f) (.ref x)))) (hf : ∃ o fd, g.get? f = some o /\ o.data = .func fd)
  (hcall : ∀ s1, Hf c g own s1 -> codeAny (model prog w) A.in1 (.call (.ref f) ⟨[.ref x], []⟩) (fun r s' => ∃ v u own' own'', r = .ok (.ret (.str v u)) /\ Hf c g own' s' /\ Has g own' b (eqO (methodObj (.ref f) (.ref x))) /\
   Put it (eqO (liveI b t)) (eqO endedI) own' own'' /\ (if v = Str.ofString "" then ∀ s'', Hf c g own'' s'' -> Q none s'' else Q (some (.str v u)) s')) s1) : wpAny (model prog w) A (pyNext (.ref it)) Q E s := by
 obtain ⟨o, ho, rfl⟩ := hit.at S
 obtain ⟨ob, hbo, rfl⟩ := hb.at S
 obtain ⟨of, fd, hf1, hf2⟩ := hf
 unfold pyNext
 refine wpAny_bind (wpAny_attempt (wpAny_callSpecial?_slot (name := Str.ofString "__next__") ⟨_, ho, rfl⟩ slot_citer_next
  (wpAny_call_entry slot_citer_next ⟨_, ho, rfl⟩ entry_citer_next ?_ (args_citer_next _))))
 show wpAny _ _ (field (.ref it) 2 >>= _) _ _ s
 refine wpAny_bind (wpAny_field ho rfl (x := .bool false) rfl ?_)
 show wpAny _ _ (if (Value.bool false == Value.bool true) = true then _ else _) _ _ s
 rw [if_neg (by decide)]
 refine wpAny_bind (wpAny_field ho rfl (x := .ref b) rfl ?_)
 refine wpAny_bind (wpAny_attempt ?_)
 unfold callOutOfASlot
 refine wpAny_bind (r_borrows hbo ⟨_, _, S.keep _ _ hf1, hf2⟩ ?_)
 show wpAny _ _ (if true = true then _ else _) _ _ _
 rw [if_pos rfl]
 refine r_callBorrowed (method_call hbo (codeAny_mono (hcall s S) fun r s' z => ?_))
 obtain ⟨v, u, own', own'', rfl, S', hb', P, hq⟩ := z
 refine ⟨_, rfl, ?_⟩
 obtain ⟨o2, ho2, rfl⟩ := S'.at P.mem
 obtain ⟨ob2, hbo2, rfl⟩ := hb'.at S'
 dsimp only
 refine wpAny_bind (wpAny_field ho2 rfl (x := .bool false) rfl ?_)
 show wpAny _ _ (if (Value.bool false == Value.bool true) = true then _ else _) _ _ _
 rw [if_neg (by decide)]
 refine wpAny_bind (wpAny_field ho2 rfl (x := .str "" t) rfl ?_)
 refine wpAny_bind (wpAny_holding (wpAny_eqBool_str ?_))
 by_cases hv : v = Str.ofString ""
 ·rw [if_pos hv] at hq
  rw [decide_eq_true (show Str.ofString "" = v from hv.symm)]
  show wpAny _ _ (if (!true) = true then _ else _) _ _ _
  rw [if_neg (by decide)]
  refine wpAny_bind (wpAny_rule (wpAny_bind ?_))
  show wpAny _ _ (field (.ref it) 0 >>= _) _ _ _
  refine wpAny_bind (wpAny_field ho2 rfl (x := .ref b) rfl ?_)
  refine wpAny_bind ?_
  unfold slotLetsGo
  refine wpAny_bind (r_borrows hbo2 ⟨_, _, S'.keep _ _ hf1, hf2⟩ ?_)
  show wpAny _ _ (if true = true then _ else _) _ _ _
  rw [if_pos rfl]
  refine wpAny_pure ?_
  obtain ⟨r, p1, p2⟩ := P.perm
  have T0 := S'.perm p1
  obtain ⟨hp, gg, dd, tt, oo⟩ := s'
  refine wpAny_bind (wpAny_setField ho2 rfl (by simp) ?_)
  have e1 := Heap.get?_update_self (Obj.mapFields (·.setIfInBounds 0 .none)) ho2 rfl
  refine wpAny_bind (wpAny_setField e1 rfl (by simp) ?_)
  have e2 := Heap.get?_update_self (Obj.mapFields (·.setIfInBounds 1 .none)) e1 rfl
  refine wpAny_setField e2 rfl (by simp) ?_
  have e3 := Heap.get?_update_self (Obj.mapFields (·.setIfInBounds 2 (.bool true))) e2 rfl
  have T3 := Hf.turn' (Pb := eqO endedI) T0 (((Heap.SameBut.update ..).trans (Heap.SameBut.update ..)).trans (Heap.SameBut.update ..)) ⟨_, e3, rfl⟩ tt
  have T4 := Hf.perm T3 p2.symm
  exact r_stop T4 hh fun a s2 S2 ht => stop_none ht (hq _ S2)
 ·rw [if_neg hv] at hq
  rw [decide_eq_false (show ¬ Str.ofString "" = v from fun e => hv e.symm)]
  show wpAny _ _ (if (!false) = true then _ else _) _ _ _
  rw [if_pos (by decide)]
  exact wpAny_bind (wpAny_pure (wpAny_pure ⟨_, rfl, wpAny_pure hq⟩))
end

end
section
section
open Builtin.Str
noncomputable def hasAt (x : Str) (c i : Nat) : Bool := x.cps[i]? == some c
theorem subAt_one (x : Str) (c i : Nat) (h : i < x.length) : subAt x (chS c) i = hasAt x c i := by
 have h' : i < x.cps.size := h
 unfold subAt hasAt
 rw [show i + (chS c).length = i + 1 from rfl, Array.extract_succ_right (by omega) h', Array.extract_eq_empty_of_le (by omega), Array.getElem?_eq_getElem h']
 show ((#[] : Array Nat).push x.cps[i] == #[c]) = _
 by_cases e : x.cps[i] = c
 ·subst e; simp
 ·simp [e]
theorem occ_char (x : Str) (c lim : Nat) : occurrences x (chS c) 0 x.length lim = (((List.range' 0 x.length).filter (hasAt x c)).take lim) := by
 rw [StrLaws.occ_eq]
 have H : ∀ (l : List Nat) (found : Array Nat) (free : Nat), (∀ i ∈ l, free <= i) -> l.Pairwise (· < ·) ->
   (forIn (m := Id) l (found, free) (StrLaws.occBody x (chS c) x.length lim)).run.fst.toList = found.toList ++ ((l.filter (fun i => decide (i < x.length) && hasAt x c i)).take (lim - found.size)) := by
  intro l
  induction l with
  | nil => intro f k _ _; simp
  | cons i r ih =>
   intro f k hk hp
   have hik := hk i List.mem_cons_self
   have hr := List.pairwise_cons.mp hp
   by_cases hi : i < x.length /\ hasAt x c i = true
   ·by_cases hl : f.size < lim
    ·have cond : ((((f.size < lim /\ k <= i) /\ i + (chS c).length <= x.length) /\ subAt x (chS c) i = true)) := ⟨⟨⟨hl, hik⟩, hi.1⟩, by rw [subAt_one _ _ _ hi.1]; exact hi.2⟩
     simp only [List.forIn_cons, StrLaws.occBody, if_pos cond]
     refine (ih (f.push i) (i + (chS c).length) (fun j hj => hr.1 j hj) hr.2).trans ?_
     rw [List.filter_cons_of_pos (by simp [hi]), Array.toList_push, Array.size_push, List.append_assoc]
     rw [show lim - f.size = (lim - (f.size + 1)) + 1 from by omega, List.take_succ_cons]; rfl
    ·have cond : ¬ ((((f.size < lim /\ k <= i) /\ i + (chS c).length <= x.length) /\ subAt x (chS c) i = true)) := fun z => hl z.1.1.1
     simp only [List.forIn_cons, StrLaws.occBody, if_neg cond]
     refine (ih f k (fun j hj => hk j (List.mem_cons_of_mem _ hj)) hr.2).trans ?_
     rw [show lim - f.size = 0 from by omega, List.take_zero, List.take_zero]
   ·have cond : ¬ ((((f.size < lim /\ k <= i) /\ i + (chS c).length <= x.length) /\ subAt x (chS c) i = true)) := fun z => hi ⟨z.1.2, by rw [<- subAt_one _ _ _ z.1.2]; exact z.2⟩
    simp only [List.forIn_cons, StrLaws.occBody, if_neg cond]
    refine (ih f k (fun j hj => hk j (List.mem_cons_of_mem _ hj)) hr.2).trans ?_
    rw [List.filter_cons_of_neg (by simpa using hi)]
 have := H (List.range' 0 (x.length + 1 - 0)) #[] 0 (fun _ _ => Nat.zero_le _) List.pairwise_lt_range'
 refine this.trans ?_
 show List.take lim (List.filter (fun i => decide (i < x.length) && hasAt x c i) (List.range' 0 (x.length + 1))) = _
 rw [List.range'_1_concat, List.filter_append]
 have e1 : List.filter (fun i => decide (i < x.length) && hasAt x c i) [0 + x.length] = [] := by simp
 rw [e1, List.append_nil]
 have e2 : List.filter (fun i => decide (i < x.length) && hasAt x c i) (List.range' 0 x.length) = List.filter (hasAt x c) (List.range' 0 x.length) := by
  refine List.filter_congr fun i hi => ?_
  have : i < x.length := by have := List.mem_range'_1.mp hi; omega
  simp [this]
 rw [e2]
theorem contains_char (x : Str) (c : Nat) : (!(occurrences x (chS c) 0 x.length 1).isEmpty) = decide (c ∈ x.cps.toList) := by
 rw [occ_char]
 by_cases h : c ∈ x.cps.toList
 ·rw [decide_eq_true h]
  obtain ⟨i, hi, e⟩ := List.mem_iff_getElem.mp h
  have : i ∈ (List.range' 0 x.length).filter (hasAt x c) := List.mem_filter.mpr ⟨List.mem_range'_1.mpr ⟨Nat.zero_le _, by rw [Nat.zero_add]; exact (show i < x.cps.size by simpa using hi)⟩, by
   unfold hasAt; rw [Array.getElem?_eq_getElem (by simpa using hi)]; simpa using e⟩
  cases e2 : (List.range' 0 x.length).filter (hasAt x c) with
  | nil => rw [e2] at this; cases this
  | cons a b => rfl
 ·rw [decide_eq_false h]
  have : (List.range' 0 x.length).filter (hasAt x c) = [] := List.filter_eq_nil_iff.mpr fun i hi e => h (by
   have hi' : i < x.cps.size := by have := (List.mem_range'_1.mp hi).2; rw [Nat.zero_add] at this; exact this
   unfold hasAt at e; rw [Array.getElem?_eq_getElem hi'] at e
   have := beq_iff_eq.mp e
   rw [<- Option.some.inj this]; simp)
  rw [this]; rfl
end

end
section
noncomputable def isW (n : Nat) : Bool := n == 10 || n == 9 || n == 13 || n == 32
noncomputable def lexS (q : Nat -> Bool) : List Nat -> List Nat × List Nat
 | [] => ([], [])
 | c :: r => if q c then ([], r) else if c = 92 then (match r with | [] => ([], []) | d :: r' => let z := lexS q r'; (d :: z.1, z.2)) else let z := lexS q r; (c :: z.1, z.2)
noncomputable def isQ (n : Nat) : Bool := n == 34
noncomputable def escY (d : Nat) (r : List Nat) : List Nat := if d = 92 then r.take 1 else [d]
noncomputable def escR (d : Nat) (r : List Nat) : List Nat := if d = 92 then r.tail else r
noncomputable def lexT : List Nat -> List Nat × List Nat
 | [] => ([], [])
 | c :: r => if isW c then lexT r else if isQ c then lexS isQ r else (escY c r ++ (lexS isW (escR c r)).1, (lexS isW (escR c r)).2)
theorem lexS_n {q : Nat -> Bool} : lexS q [] = ([], []) := rfl
theorem lexS_1 {q : Nat -> Bool} {c : Nat} : lexS q [c] = if q c then ([], []) else if c = 92 then ([], []) else (c :: (lexS q []).1, (lexS q []).2) := rfl
theorem lexS_2 {q : Nat -> Bool} {c d : Nat} {r : List Nat} : lexS q (c :: d :: r) = if q c then ([], d :: r) else if c = 92 then (d :: (lexS q r).1, (lexS q r).2) else (c :: (lexS q (d :: r)).1, (lexS q (d :: r)).2) := rfl
theorem lexT_c {c : Nat} {r : List Nat} : lexT (c :: r) = if isW c then lexT r else if isQ c then lexS isQ r else (escY c r ++ (lexS isW (escR c r)).1, (lexS isW (escR c r)).2) := rfl
theorem lexS_stop {q : Nat -> Bool} {d : Nat} (h : q d = true) (r : List Nat) : lexS q (d :: r) = ([], r) := by
 cases r <;> simp [lexS_1, lexS_2, h]
theorem lexS_go {q : Nat -> Bool} {d : Nat} (h : ¬ q d = true) (r : List Nat) : lexS q (d :: r) = (escY d r ++ (lexS q (escR d r)).1, (lexS q (escR d r)).2) := by
 by_cases h2 : d = 92
 ·subst h2; cases r <;> simp [lexS_1, lexS_2, lexS_n, h, escY, escR]
 ·cases r <;> simp [lexS_1, lexS_2, h, h2, escY, escR]
theorem escR_le (d : Nat) (r : List Nat) : (escR d r).length <= r.length := by
 unfold escR; split
 ·rw [List.length_tail]; omega
 ·exact Nat.le_refl _
noncomputable def nl (cs : List Nat) : Int := (cs.count 10 : Nat)
theorem nl_step (cs : List Nat) : rdN cs + nl cs.tail = nl cs := by
 cases cs with
 | nil => rfl
 | cons n r =>
  show (if n = 10 then (1:Int) else 0) + ((r.count 10 : Nat) : Int) = ((List.count 10 (n :: r) : Nat) : Int)
  rw [List.count_cons]
  by_cases h : n = 10
  ·subst h; simp; omega
  ·simp [h]
noncomputable def strOf (l : List Nat) : Str := ⟨l.toArray⟩
theorem strOf_len (l : List Nat) : (strOf l).length = l.length := rfl
theorem strOf_app (a b : List Nat) : strOf a ++ strOf b = strOf (a ++ b) := by
 show (⟨a.toArray ++ b.toArray⟩ : Str) = ⟨(a ++ b).toArray⟩
 rw [List.append_toArray]
structure TY where
 c : Cx
 g : Heap
 own : Led
 x : Addr
 dx : Addr
 st : Addr
 rl : Addr
 p : Addr
 K : Int
 N : Nat
inductive TokS (Y : TY) (L it b : Addr) (t0 : Tok) (j : Nat) (cs acc : List Nat) (live : Bool) (P : (Str -> Option Value) -> Prop) (s : Shared) : Prop
 | mk (m mx : Str -> Option Value) (vs : List Value) (t1 : Tok) (ln : Int) (S : Sf Y.c Y.g L m ((it, eqO (if live then liveI b t0 else endedI)) :: (b, eqO (methodObj (.ref 84) (.ref Y.x))) :: (Y.dx, insO mx 4) :: (Y.p, listO []) :: (Y.rl, listO vs) :: Y.own) s)
  (m1 : m "self" = some (.ref Y.x)) (m2 : m "fiter" = some (.ref it)) (m3 : m "token" = some (.str (strOf acc) t1)) (mP : P m) (hm : lexM mx ln (.ref Y.st) Y.p) (hv : StrsAre vs (cs.map chS)) (hl : vs.length <= Y.N) (hn : ln + nl cs = Y.K) (ha : acc.length + cs.length + j <= Y.N) : TokS Y L it b t0 j cs acc live P s
section
variable {prog : Program} {w : World} {A : Around} {E : Value -> Shared -> Prop} {env : Env} {g : Heap} {own own' : Led} {s : Shared} {L x dx st rl p f b it : Addr} {m mx : Str -> Option Value} {t0 : Tok} {K : Int} {N : Nat} {j : Nat} {cs acc : List Nat} {live : Bool} {Y : TY}
theorem tk_next {P : (Str -> Option Value) -> Prop} {Q : Option Value -> Shared -> Prop} (hA : AOk 4 A) (B : Base w Y.g) (F : LexF prog w Y.g Y.x Y.dx Y.st Y.rl) (hN : Y.N < sizeLine) (T : TokS Y L it b t0 0 cs acc true P s)
  (h0 : cs = [] -> ∀ s', TokS Y L it b t0 0 [] acc false P s' -> Q none s')
  (h1 : ∀ d r, cs = d :: r -> ∀ u s', TokS Y L it b t0 1 r acc true P s' -> Q (some (.str (chS d) u)) s') : wpAny (model prog w) A (pyNext (.ref it)) Q E s := by
 obtain ⟨m, mx, vs, t1, ln, S, m1, m2, m3, mP, hm, hv, hl, hn, ha⟩ := T
 have hf : ∃ o fd, Y.g.get? 84 = some o /\ o.data = .func fd := ⟨_, _, B.K _ _ (by k_is), rfl⟩
 refine r_nextCall (b := b) (t := t0) S hA.hh (.inl (by walk_at "mem")) (.inl (by walk_at "mem")) hf fun s1 S1 => ?_
 have S1' := Hf.perm (own' := (Y.dx, insO mx 4) :: (Y.rl, listO vs) :: (L, nsO m) :: (it, eqO (liveI b t0)) :: (b, eqO (methodObj (.ref 84) (.ref Y.x))) :: (Y.p, listO []) :: Y.own) S1 (by walk_at "perm")
 refine codeAny_mono (read_spec (hA.in1) B F hm hv (Nat.lt_of_le_of_lt hl hN) S1') fun r s2 z => ?_
 obtain ⟨mx', vs', t, rfl, hm', hv', hl', S2⟩ := z
 refine ⟨_, _, _, (L, nsO m) :: (it, eqO endedI) :: (b, eqO (methodObj (.ref 84) (.ref Y.x))) :: (Y.dx, insO mx' 4) :: (Y.p, listO []) :: (Y.rl, listO vs') :: Y.own, rfl, Hf.perm (own' := (L, nsO m) :: (it, eqO (liveI b t0)) :: (b, eqO (methodObj (.ref 84) (.ref Y.x))) :: (Y.dx, insO mx' 4) :: (Y.p, listO []) :: (Y.rl, listO vs') :: Y.own) S2 (by walk_at "perm"), .inl (by walk_at "mem"), by walk_at "put", ?_⟩
 have hn' : ln + rdN cs + nl cs.tail = Y.K := by rw [Int.add_assoc, nl_step]; exact hn
 cases cs with
 | nil =>
  rw [if_pos (by rw [ofS_empty]; rfl)]
  exact fun s3 S3 => h0 rfl s3 ⟨m, mx', vs', t1, _, S3, m1, m2, m3, mP, hm', hv', Nat.le_trans hl' hl, hn', ha⟩
 | cons d r =>
  rw [if_neg (by rw [ofS_empty]; intro e; cases e)]
  exact h1 d r rfl _ _ ⟨m, mx', vs', t1, _, Hf.perm S2 (by walk_at "perm"), m1, m2, m3, mP, hm', hv', Nat.le_trans hl' hl, hn', by simp only [List.length_cons] at ha; omega⟩
theorem fnAt_of {q : Addr} {g h : Heap} (hf : ∃ o fd, g.get? q = some o /\ o.data = .func fd) (k : ∀ b o, g.get? b = some o -> h.get? b = some o) : FnAt q h := by
 obtain ⟨⟨oc, od, da, sl⟩, fd, e1, e2⟩ := hf
 dsimp only at e2
 subst e2
 exact ⟨oc, od, fd, sl, k _ _ e1⟩
structure TokEnv (env : Env) (L : Addr) : Prop where
 hL : env.locals = L
 hk : env.scope.kind = .function
 self : env.kindOf "self" = some .local
 token : env.kindOf "token" = some .local
 ch : env.kindOf "ch" = some .local
 fiter : env.kindOf "fiter" = some .local
inductive AddSt : Stmt -> Prop
 | mk {p1 p2 p3 : Pos} : AddSt (.AugAssign (.Name "token" p1) .Add (.Name "ch" p2) p3)
noncomputable def chIs (y : List Nat) (m : Str -> Option Value) : Prop := ∃ u, m "ch" = some (.str (strOf y) u)
theorem tk_store {P : (Str -> Option Value) -> Prop} {y : List Nat} {u : Tok} {Q : Unit -> Shared -> Prop} (V : TokEnv env L) (T : TokS Y L it b t0 j cs acc live P s)
  (h : ∀ s', TokS Y L it b t0 j cs acc live (chIs y) s' -> Q () s') : wpAny (model prog w) A (storeName env "ch" (.str (strOf y) u)) Q E s := by
 obtain ⟨m, mx, vs, t1, ln, S, m1, m2, m3, mP, q1, q2, q3, q4, q5⟩ := T
 refine r_store S (fun s' S' => h s' ⟨_, mx, vs, t1, ln, S', ?_, ?_, ?_, ⟨u, if_pos rfl⟩, q1, q2, q3, q4, q5⟩) V.hL V.hk V.ch
 ·show (if _ then _ else _) = _; rw [if_neg (by decide)]; exact m1
 ·show (if _ then _ else _) = _; rw [if_neg (by decide)]; exact m2
 ·show (if _ then _ else _) = _; rw [if_neg (by decide)]; exact m3
theorem tk_add {y : List Nat} {st : Stmt} (hg : AddSt st) {Q : Flow -> Shared -> Prop} (V : TokEnv env L) (hN : Y.N < sizeLine) (T : TokS Y L it b t0 j cs acc live (chIs y) s) (hj : y.length <= j)
  (h : ∀ s', TokS Y L it b t0 0 cs (acc ++ y) live (chIs y) s' -> Q .next s') :
  wpAny (model prog w) A (exec st env) Q E s := by
 cases hg
 obtain ⟨m, mx, vs, t1, ln, S, m1, m2, m3, ⟨u, m4⟩, hm, hv, hl, hn, ha⟩ := T
 refine wpAny_AugAssign_Name ?_
 refine r_loadName S m3 ?_ V.hL V.hk V.token
 refine r_Name S m4 ?_ V.hL V.hk V.ch
 refine r_iaddStr S (by rw [strOf_len, strOf_len]; omega) fun t' s1 S1 => ?_
 rw [strOf_app]
 refine r_store S1 (fun s' S' => h s' ⟨_, mx, vs, t', ln, S', ?_, ?_, if_pos rfl, ⟨u, ?_⟩, hm, hv, hl, hn, ?_⟩) V.hL V.hk V.token
 ·show (if _ then _ else _) = _; rw [if_neg (by decide)]; exact m1
 ·show (if _ then _ else _) = _; rw [if_neg (by decide)]; exact m2
 ·show (if _ then _ else _) = _; rw [if_neg (by decide)]; exact m4
 ·rw [List.length_append]; omega
theorem tk_read {P : (Str -> Option Value) -> Prop} {p1 p2 p3 p4 p5 : Pos} {Q : Flow -> Shared -> Prop} (hA : AOk 4 A) (B : Base w Y.g) (F : LexF prog w Y.g Y.x Y.dx Y.st Y.rl) (V : TokEnv env L) (hN : Y.N < sizeLine) (T : TokS Y L it b t0 j cs acc live P s)
  (h : ∀ s', TokS Y L it b t0 (j + (cs.length - cs.tail.length)) cs.tail acc live (chIs (cs.take 1)) s' -> Q .next s')
  {pl : Sem Bool} (he : autoParam (eval (.Call (.Attribute (.Name "self" p2) "_read_char" p3) [] [] p4) env = (do
   let ov <- eval (.Name "self" p2) env
   standAt p3.atName
   let (f, first) <- holding [ov] (getMethod ov "_read_char" pl)
   callWith p4 f first (backTo p4 (starEach [] env)) [])) auR) :
  wpAny (model prog w) A (exec (.Assign [.Name "ch" p1] (.Call (.Attribute (.Name "self" p2) "_read_char" p3) [] [] p4) p5) env) Q E s := by
 obtain ⟨m, mx, vs, t1, ln, S, m1, m2, m3, mP, hm, hv, hl, hn, ha⟩ := T
 refine wpAny_Assign_Name ?_
 refine MethodCall_ (pl := pl) ?_ he
 refine r_Name S m1 ?_ V.hL V.hk V.self
 refine r_methInst S B (.inr F.x) (.inl (by walk_at "mem")) hm.2.2.2.2.1 (by k_is) (by k_is) (by k_is) ?_
 dsimp only
 have hf : ∃ o fd, Y.g.get? 84 = some o /\ o.data = .func fd := ⟨_, _, B.K _ _ (by k_is), rfl⟩
 refine callWith_F0 (q := 84) (fnAt_of hf S.keep) ?_
 have S1 := Hf.perm (own' := (Y.dx, insO mx 4) :: (Y.rl, listO vs) :: (L, nsO m) :: (it, eqO (if live then liveI b t0 else endedI)) :: (b, eqO (methodObj (.ref 84) (.ref Y.x))) :: (Y.p, listO []) :: Y.own) S (by walk_at "perm")
 refine wpAny_call (codeAny_mono (read_spec (hA.mono (by decide)) B F hm hv (Nat.lt_of_le_of_lt hl hN) S1) fun r s2 z => ?_)
 obtain ⟨mx', vs', t, rfl, hm', hv', hl', S2⟩ := z
 dsimp only
 have e1 : rdS cs = strOf (cs.take 1) := by cases cs <;> rfl
 rw [e1]
 refine tk_store (P := fun m => True) (j := j + (cs.length - cs.tail.length)) V ⟨m, mx', vs', t1, _, Hf.perm S2 (by walk_at "perm"), m1, m2, m3, trivial, hm', hv', Nat.le_trans hl' hl, by rw [Int.add_assoc, nl_step]; exact hn, ?_⟩ h
 rw [List.length_tail]; omega
end

end
section
theorem slot_citer_iter : Slot "callable_iterator" "__iter__" "callable_iterator.__iter__" :=
 .of (owner := "callable_iterator") (n := "__iter__") (by rw [typeLookup_type, builtinLookup_eq_fast]; kernel_rfl) (by decide +kernel) (by decide +kernel) (by decide +kernel)
  (by first | exact .inl (by decide +kernel) | exact .inr (by decide +kernel)) (by rw [isSubtype_type]; kernel_rfl)
theorem entry_citer_iter : entryFor table "callable_iterator.__iter__" = some Builtin.«dict_keyiterator.__iter__» :=
 entryFor_alias (id' := "dict_keyiterator.__iter__") (by kernel_rfl) rfl (by decide +kernel) (by kernel_rfl)
theorem args_citer_iter (a : Value) : argsOk "callable_iterator.__iter__" ⟨[a], []⟩ := by unfold argsOk; kernel_rfl
theorem ws_list : (Str.ofString "\n\t\x0d ").cps.toList = [10, 9, 13, 32] := by decide +kernel
section
variable {prog : Program} {w : World} {A : Around} {E : Value -> Shared -> Prop} {c : Cx} {g : Heap} {own : Led} {s : Shared} {L b it : Addr} {m mx : Str -> Option Value} {t0 : Tok} {j : Nat} {cs acc : List Nat} {live : Bool} {Y : TY}
theorem TokS.weak {P P' : (Str -> Option Value) -> Prop} {i : Nat} (T : TokS Y L it b t0 j cs acc live P s) (h : ∀ m, P m -> P' m) (hi : i <= j) : TokS Y L it b t0 i cs acc live P' s := by
 obtain ⟨m, mx, vs, t1, ln, S, m1, m2, m3, mP, hm, hv, hl, hn, ha⟩ := T
 exact ⟨m, mx, vs, t1, ln, S, m1, m2, m3, h _ mP, hm, hv, hl, hn, by omega⟩
theorem r_iterSelf {t : Tok} {Q : Value -> Shared -> Prop} (S : Hf c g own s) (hit : Has g own it (eqO (liveI b t))) (h : Q (.ref it) s) : wpAny (model prog w) A (pyIter (.ref it)) Q E s := by
 obtain ⟨o, ho, rfl⟩ := hit.at S
 refine wpAny_pyIter_slot ⟨_, ho, rfl⟩ slot_citer_iter (wpAny_call_entry slot_citer_iter ⟨_, ho, rfl⟩ entry_citer_iter ?_ (args_citer_iter _))
 show wpAny _ _ (ret (.ref it)) _ _ s
 exact wpAny_pure ⟨_, rfl, "callable_iterator", _, ⟨_, ho, rfl⟩, slot_citer_next.lookup, h⟩
theorem r_inW {d : Nat} {u t : Tok} {Q : Value -> Shared -> Prop} (h : Q (.bool (isW d)) s) : wpAny (model prog w) A (compareOp .In (.str (strOf [d]) u) (.str (Str.ofString "\n\t\x0d ") t)) Q E s := by
 refine PyProof.Rows.in_str ?_
 rw [show strOf [d] = chS d from rfl, contains_char, ws_list]
 have : decide (d ∈ [10, 9, 13, 32]) = isW d := by
  have hb : ∀ k : Nat, (d == k) = decide (d = k) := fun k => by by_cases e : d = k <;> simp [e]
  unfold isW; simp only [hb, List.mem_cons, List.not_mem_nil, or_false, Bool.decide_or, Bool.or_assoc]
 rw [this]; exact h
theorem qs_q : Str.ofString "\"" = chS 34 := by decide +kernel
theorem qs_b : Str.ofString "\\" = chS 92 := by decide +kernel
theorem r_eqQ {d : Nat} {u t : Tok} {Q : Value -> Shared -> Prop} (h : Q (.bool (isQ d)) s) : wpAny (model prog w) A (compareOp .Eq (.str (strOf [d]) u) (.str (Str.ofString "\"") t)) Q E s := by
 refine r_eqStr ?_
 rw [qs_q, show strOf [d] = chS d from rfl]
 have : decide (chS d = chS 34) = isQ d := by
  unfold isQ; by_cases e : d = 34
  ·subst e; decide
  ·rw [decide_eq_false (fun z => e (chS_inj.mp z))]; simp [e]
 rw [this]; exact h
theorem r_eqB {d : Nat} {u t : Tok} {Q : Value -> Shared -> Prop} (h : Q (.bool (decide (d = 92))) s) : wpAny (model prog w) A (compareOp .Eq (.str (strOf [d]) u) (.str (Str.ofString "\\") t)) Q E s := by
 refine r_eqStr ?_
 rw [qs_b, show strOf [d] = chS d from rfl]
 have : decide (chS d = chS 92) = decide (d = 92) := by
  by_cases e : d = 92
  ·subst e; decide
  ·rw [decide_eq_false (fun z => e (chS_inj.mp z)), decide_eq_false e]
 rw [this]; exact h
end
section
variable {prog : Program} {w : World} {A : Around} {E : Value -> Shared -> Prop} {env : Env} {c : Cx} {g : Heap} {own : Led} {s : Shared} {L x dx st rl p f b it : Addr} {m mx : Str -> Option Value} {t0 : Tok} {N : Nat} {j : Nat} {cs acc : List Nat} {live : Bool} {Y : TY}
noncomputable def TsR (prog : Program) (w : World) (env : Env) (Y : TY) (L it b : Addr) (t0 : Tok) (q : Nat -> Bool) (test : Expr) : Prop :=
 ∀ {A : Around} {E : Value -> Shared -> Prop} {d r a s X Z p} {Q : Flow -> Shared -> Prop}, TokS Y L it b t0 1 r a true (chIs [d]) s -> (∀ s', TokS Y L it b t0 1 r a true (chIs [d]) s' -> if q d = true then wpAny (model prog w) A (execs X env) Q E s' else wpAny (model prog w) A (execs Z env) Q E s') -> wpAny (model prog w) A (exec (.If test X Z p) env) Q E s
noncomputable def anyM : (Str -> Option Value) -> Prop := fun _ => True
noncomputable def BodyOut (Y : TY) (L it b : Addr) (t0 : Tok) (q : Nat -> Bool) (d : Nat) (r acc : List Nat) (f : Flow) (s : Shared) : Prop :=
 if q d = true then (∃ t, f = .ret (.str (strOf acc) t)) /\ TokS Y L it b t0 0 r acc true anyM s
 else f = .next /\ TokS Y L it b t0 0 (escR d r) (acc ++ escY d r) true anyM s
inductive EscSt (env : Env) : Stmt -> Prop
 | mk {p1 p2 p3 p4 p5 p6 p7 p8 p9 : Pos} {pl : Sem Bool} (he : eval (.Call (.Attribute (.Name "self" p2) "_read_char" p3) [] [] p4) env = (do
   let ov <- eval (.Name "self" p2) env
   standAt p3.atName
   let (f, first) <- holding [ov] (getMethod ov "_read_char" pl)
   callWith p4 f first (backTo p4 (starEach [] env)) [])) : EscSt env (.If (.Compare (.Name "ch" p6) [.Eq] [.Constant (.str "\\") 0 p7] p8) [.Assign [.Name "ch" p1] (.Call (.Attribute (.Name "self" p2) "_read_char" p3) [] [] p4) p5] [] p9)
theorem tk_esc {d : Nat} {r : List Nat} {st : Stmt} {Q : Flow -> Shared -> Prop} (hA : AOk 4 A) (B : Base w Y.g) (F : LexF prog w Y.g Y.x Y.dx Y.st Y.rl) (V : TokEnv env L) (hN : Y.N < sizeLine) (T : TokS Y L it b t0 1 r acc true (chIs [d]) s)
  (h : ∀ s', TokS Y L it b t0 (escY d r).length (escR d r) acc true (chIs (escY d r)) s' -> Q .next s') (hx : EscSt env st) :
  wpAny (model prog w) A (exec st env) Q E s := by
 obtain ⟨he⟩ := hx
 have T' := T
 obtain ⟨m, mx, vs, t1, ln, S, m1, m2, m3, ⟨u, m4⟩, q1, q2, q3, q4, q5⟩ := T'
 have T4 : ∀ s', Sf Y.c Y.g L m ((it, eqO (if true = true then liveI b t0 else endedI)) :: (b, eqO (methodObj (.ref 84) (.ref Y.x))) :: (Y.dx, insO mx 4) :: (Y.p, listO []) :: (Y.rl, listO vs) :: Y.own) s' -> TokS Y L it b t0 1 r acc true (chIs [d]) s' :=
  fun s' S' => ⟨m, mx, vs, t1, _, S', m1, m2, m3, ⟨u, m4⟩, q1, q2, q3, q4, q5⟩
 refine wpAny_If (wpAny_isTrue_Compare1 ?_)
 refine r_Name S m4 ?_ V.hL V.hk V.ch
 refine r_str S fun t s1 S1 => ?_
 refine r_eqB (wpAny_truthy_bool ?_)
 unfold escY escR at h
 by_cases hb : d = 92
 ·simp only [if_pos hb] at h
  refine ite_pos (decide_eq_true hb) (wpAny_execs_cons ?_)
  refine tk_read hA B F V hN (T4 _ S1) (fun s6 T6 => ?_) he
  refine wpAny_execs_nil (h _ (T6.weak (fun _ h => h) ?_))
  cases r <;> simp
 ·simp only [if_neg hb] at h
  exact ite_neg (by rw [decide_eq_false hb]; decide) (wpAny_execs_nil (h _ (T4 _ S1)))
theorem loopS {q : Nat -> Bool} {p1 : Pos} {body : List Stmt} {R : Result -> Shared -> Prop} (hA : AOk 4 A) (B : Base w Y.g) (F : LexF prog w Y.g Y.x Y.dx Y.st Y.rl) (V : TokEnv env L) (hN : Y.N < sizeLine)
  (hbody : ∀ E' d r a s1, TokS Y L it b t0 1 r a true (chIs [d]) s1 -> wpAny (model prog w) A (execs body env) (BodyOut Y L it b t0 q d r a) E' s1)
  (T : TokS Y L it b t0 0 cs acc true anyM s)
  (hR : ∀ t s', TokS Y L it b t0 0 (lexS q cs).2 (acc ++ (lexS q cs).1) true anyM s' -> R (.ok (.ret (.str (strOf (acc ++ (lexS q cs).1)) t))) s')
  (hE : (lexS q cs).2 = [] -> ∀ s', TokS Y L it b t0 0 [] (acc ++ (lexS q cs).1) false anyM s' -> R (.ok .next) s') :
  codeAny (model prog w) A (.forLoop (.Name "ch" p1) (.ref it) body [] env) R s := by
 generalize hZ : acc ++ (lexS q cs).1 = Z at hR hE
 generalize hY : (lexS q cs).2 = Y2 at hR hE
 refine codeAny_forLoop (fun n s => ∃ cs acc, n = cs.length /\ TokS Y L it b t0 0 cs acc true anyM s /\ acc ++ (lexS q cs).1 = Z /\ (lexS q cs).2 = Y2) (fun n s1 hI => ?_) cs.length ⟨cs, acc, rfl, T, hZ, hY⟩
 clear T hZ hY
 obtain ⟨cs, acc, rfl, T, hZ, hY⟩ := hI
 refine tk_next hA B F hN T (fun e s2 T2 => ?_) fun d r e u s2 T2 => ?_
 ·subst e
  refine wpAny_execs_nil ?_
  refine hE hY.symm s2 ?_
  rw [<- hZ]; show TokS Y L it b t0 0 [] (acc ++ []) false anyM s2; rw [List.append_nil]; exact T2
 ·subst e
  refine wpAny_assign_Name ?_
  show wpAny _ _ (storeName env "ch" (.str (strOf [d]) u)) _ _ _
  refine tk_store V T2 fun s3 T3 => ?_
  refine wpAny_mono (hbody _ d r acc s3 T3) (fun f s4 h4 => ?_) fun _ _ z => z
  unfold BodyOut at h4
  by_cases h1 : q d = true
  ·rw [if_pos h1] at h4
   obtain ⟨⟨t, rfl⟩, T4⟩ := h4
   have e1 : lexS q (d :: r) = ([], r) := lexS_stop h1 r
   rw [e1] at hZ hY
   dsimp only at hZ hY
   rw [List.append_nil] at hZ
   subst hZ hY
   exact hR t s4 T4
  ·rw [if_neg h1] at h4
   obtain ⟨rfl, T4⟩ := h4
   rw [lexS_go h1] at hZ hY
   exact ⟨_, by have := escR_le d r; rw [List.length_cons]; omega, escR d r, acc ++ escY d r, rfl, T4, by rw [List.append_assoc]; exact hZ, hY⟩
theorem tk_q {p1 p2 p3 : Pos} (V : TokEnv env L) : TsR prog w env Y L it b t0 isQ (.Compare (.Name "ch" p1) [.Eq] [.Constant (.str "\"") 0 p2] p3) := by
 intro A E d r a s X Z p Q T h
 obtain ⟨m, mx, vs, t1, ln, S, m1, m2, m3, ⟨u, m4⟩, q1, q2, q3, q4, q5⟩ := T
 refine wpAny_If (wpAny_isTrue_Compare1 ?_)
 refine r_Name S m4 ?_ V.hL V.hk V.ch
 refine r_str S fun t s1 S1 => ?_
 refine r_eqQ (wpAny_truthy_bool ?_)
 exact h _ ⟨m, mx, vs, t1, ln, S1, m1, m2, m3, ⟨u, m4⟩, q1, q2, q3, q4, q5⟩
theorem tk_w {p1 p2 p3 p4 : Pos} (B : Base w Y.g) (F : LexF prog w Y.g Y.x Y.dx Y.st Y.rl) (V : TokEnv env L) : TsR prog w env Y L it b t0 isW (.Compare (.Name "ch" p1) [.In] [.Attribute (.Name "self" p2) "whitespace" p3] p4) := by
 intro A E d r a s X Z p Q T h
 obtain ⟨m, mx, vs, t1, ln, S, m1, m2, m3, ⟨u, m4⟩, hm, q2, q3, q4, q5⟩ := T
 obtain ⟨hm1, hm2, ⟨tw, hm3⟩, hm4, hm5⟩ := id hm
 refine wpAny_If (wpAny_isTrue_Compare1 ?_)
 refine r_Name S m4 ?_ V.hL V.hk V.ch
 refine Attribute_Name_ ?_
 refine r_Name S m1 ?_ V.hL V.hk V.self
 refine r_getIns S B (.inr F.x) (.inl (by walk_at "mem")) hm3 (by k_is) (by k_is) (by k_is) rfl rfl fun s4 S4 => ?_
 refine r_inW (wpAny_truthy_bool ?_)
 exact h _ ⟨m, mx, vs, t1, ln, S4, m1, m2, m3, ⟨u, m4⟩, hm, q2, q3, q4, q5⟩
theorem tk_ret {P : (Str -> Option Value) -> Prop} {p1 p2 : Pos} {Q : Flow -> Shared -> Prop} (V : TokEnv env L) (T : TokS Y L it b t0 j cs acc live P s) (h : ∀ t, Q (.ret (.str (strOf acc) t)) s) :
  wpAny (model prog w) A (exec (.Return (some (.Name "token" p1)) p2) env) Q E s := by
 obtain ⟨m, mx, vs, t1, ln, S, m1, m2, m3, mP, q1, q2, q3, q4, q5⟩ := T
 refine wpAny_Return_some ?_
 exact r_Name S m3 (h _) V.hL V.hk V.token
noncomputable def LpR (prog : Program) (w : World) (env : Env) (Y : TY) (L it b : Addr) (t0 : Tok) (q : Nat -> Bool) (st : Stmt) : Prop :=
 ∀ {A : Around} {E : Value -> Shared -> Prop} {s j cs acc} {P : (Str -> Option Value) -> Prop} {Q : Flow -> Shared -> Prop}, AOk 4 A -> TokS Y L it b t0 j cs acc true P s ->
  (∀ t s', TokS Y L it b t0 0 (lexS q cs).2 (acc ++ (lexS q cs).1) true anyM s' -> Q (.ret (.str (strOf (acc ++ (lexS q cs).1)) t)) s') ->
  ((lexS q cs).2 = [] -> ∀ s', TokS Y L it b t0 0 [] (acc ++ (lexS q cs).1) false anyM s' -> Q .next s') -> wpAny (model prog w) A (exec st env) Q E s
theorem tk_inner {q : Nat -> Bool} {test : Expr} {st : Stmt} {p0 p1 p2 p3 p4 p5 p6 p7 p8 : Pos} (B : Base w Y.g) (F : LexF prog w Y.g Y.x Y.dx Y.st Y.rl) (V : TokEnv env L) (hN : Y.N < sizeLine) (hx : EscSt env st) (ht : TsR prog w env Y L it b t0 q test) :
  LpR prog w env Y L it b t0 q  (.For (.Name "ch" p1) (.Name "fiter" p0) [.If test [.Return (some (.Name "token" p2)) p3] [st] p4, .AugAssign (.Name "token" p5) .Add (.Name "ch" p6) p7] [] p8) := by
 intro A E s j cs acc P Q hA T hR hE
 refine wpAny_For ?_
 have T' := T
 obtain ⟨m, mx, vs, t1, ln, S, m1, m2, m3, mP, q1, q2, q3, q4, q5⟩ := T'
 refine r_Name S m2 ?_ V.hL V.hk V.fiter
 refine r_iterSelf S (.inl (by walk_at "mem")) ?_
 clear S m1 m2 m3 mP q1 q2 q3 q4 q5
 refine loopS hA B F V hN (fun E' d r a s1 T1 => wpAny_execs_cons (ht T1 fun s2 T2 => ?_)) (T.weak (fun _ _ => trivial) (Nat.zero_le _)) hR hE
 unfold BodyOut
 by_cases h1 : q d = true
 ·refine ite_pos h1 (wpAny_execs_cons (tk_ret V T2 fun t => ?_))
  dsimp only
  rw [if_pos h1]
  exact ⟨⟨_, rfl⟩, T2.weak (fun _ _ => trivial) (Nat.zero_le _)⟩
 ·refine ite_neg h1 (wpAny_execs_cons (tk_esc hA B F V hN T2 (fun s8 T8 => wpAny_execs_nil ?_) hx))
  refine wpAny_execs_cons (tk_add .mk V hN T8 (Nat.le_refl _) fun s9 T9 => wpAny_execs_nil ?_)
  rw [if_neg h1]
  exact ⟨rfl, T9.weak (fun _ _ => trivial) (Nat.le_refl _)⟩
end

end
section
section
variable {prog : Program} {w : World} {A : Around} {E : Value -> Shared -> Prop} {env : Env} {c : Cx} {g : Heap} {own : Led} {s : Shared} {L x dx st rl p f b it : Addr} {m mx : Str -> Option Value} {t0 : Tok} {K ln : Int} {N : Nat} {cs acc : List Nat} {vs ws : List Value} {v fp : Value}
theorem getpush_spec (hA : AOk 1 A) (B : Base w g) (hx : Has g own x (eqO (instObj 101 dx))) (hd : Has g own dx (insO mx 4)) (hm : lexM mx ln fp p) (hz : ws.length < sizeLine) (S : Hf c g ((p, listO (v :: ws)) :: own) s) :
  codeAny (model prog w) A (.call (.ref 91) ⟨[.ref x], []⟩) (fun r s' => r = .ok (.ret v) /\ Hf c g ((p, listO ws) :: own) s') s := by
 obtain ⟨hm1, hm2, hm3, hm4, hm5⟩ := id hm
 have hx' : Has g ((p, listO (v :: ws)) :: own) x (eqO (instObj 101 dx)) := hx.cons
 have hd' : Has g ((p, listO (v :: ws)) :: own) dx (insO mx 4) := hd.cons
 have hz1 : (v :: ws).length <= sizeLine := hz
 refine callK (bs := [(Str.ofString "self", .ref x)]) B S hA.room (by k_is) (by k_is) rfl (by decide) (by decide) (by rfl) (fun L s' S => ?_) rfl rfl rfl
 with_reducible refine wpAny_execs_cons ?_
 with_reducible refine wpAny_If ?_
 refine isTrue_plain ?_
 refine Attribute_Name_ ?_
 walk_at "n"
 refine r_getIns (by assumption) B hx' hd' hm4 (by k_is) (by k_is) (by k_is) rfl rfl ?_
 intro s1 S1
 refine r_truthList (by assumption) (by walk_at "hx") (by assumption) ?_; intro _ _
 refine ite_pos rfl ?_
 with_reducible refine wpAny_execs_cons ?_
 with_reducible refine wpAny_Return_some ?_
 refine MethodCall_ ?_
 refine Attribute_Name_ ?_
 walk_at "n"
 dsimp only
 refine r_getIns (by assumption) B hx' hd' hm4 (by k_is) (by k_is) (by k_is) rfl rfl ?_
 intro s2 S2
 refine r_listMethod (by assumption) (by walk_at "hx") PySem.F.slot_list_pop PySem.F.type_list_pop ?_
 first | refine callWith_method1 ?_ | refine callWith_method0 ?_
 walk_at "sp"
 refine r_int (by assumption) ?_; intro _ _ _
 walk_at "sp"
 dsimp only
 refine r_pop0 (by assumption) (by walk_at "put") hz ?_
 intro s3 S3
 exact ⟨rfl, Hf.tail S3⟩
theorem tk_end {P : (Str -> Option Value) -> Prop} {j : Nat} {Y : TY} {Q : Option Value -> Shared -> Prop} (hA : AOk 1 A) (T : TokS Y L it b t0 j cs acc false P s) (h : ∀ s', TokS Y L it b t0 j cs acc false P s' -> Q none s') : wpAny (model prog w) A (pyNext (.ref it)) Q E s := by
 obtain ⟨m, mx, vs, t1, ln, S, q1, q2, q3, q4, q5, q6, q7, q8, q9⟩ := T
 exact r_nextEnded S (AOk.hh hA) (.inl (by walk_at "mem")) fun s' S' => h _ ⟨m, mx, vs, t1, ln, S', q1, q2, q3, q4, q5, q6, q7, q8, q9⟩
theorem TokS.out {P : (Str -> Option Value) -> Prop} {live : Bool} {j : Nat} {t : Tok} {Y : TY} (T : TokS Y L it b t0 j cs acc live P s) (hK : ln = Y.K) : ∃ mx' vs' t' ln', (Except.ok (Flow.ret (.str (strOf acc) t)) : Result) = .ok (.ret (.str (strOf acc) t')) /\ lexM mx' ln' (.ref Y.st) Y.p /\ StrsAre vs' (cs.map chS) /\ vs'.length <= Y.N /\
   ln' + nl cs = ln /\ Hf Y.c Y.g ((Y.dx, insO mx' 4) :: (Y.p, listO []) :: (Y.rl, listO vs') :: Y.own) s := by
 obtain ⟨m, mx', vs', t1, ln', S, m1, m2, m3, mP, hm, hv, hl, hn, ha⟩ := T
 exact ⟨mx', vs', t, ln', rfl, hm, hv, hl, hn.trans hK.symm, S.tail.tail.tail⟩
theorem tk_turn {e2 ag f1 f2 : Stmt} {x1 x2 : Expr} {a2 a3 a4 : Pos} {Y : TY} {d : Nat} {r : List Nat} {Q : Flow -> Shared -> Prop} (hA : AOk 4 A) (B : Base w Y.g) (F : LexF prog w Y.g Y.x Y.dx Y.st Y.rl) (V : TokEnv env L) (hN : Y.N < sizeLine) (h2 : EscSt env e2) (hg : AddSt ag)
  (t1 : TsR prog w env Y L it b t0 isW x1) (t2 : TsR prog w env Y L it b t0 isQ x2) (l1 : LpR prog w env Y L it b t0 isQ f1) (l2 : LpR prog w env Y L it b t0 isW f2)
  (T : TokS Y L it b t0 1 r [] true (chIs [d]) s) (kc : lexT (d :: r) = lexT r -> ∀ s', TokS Y L it b t0 1 r [] true (chIs [d]) s' -> Q .cont s')
  (kr : ∀ t s', TokS Y L it b t0 0 (lexT (d :: r)).2 (lexT (d :: r)).1 true anyM s' -> Q (.ret (.str (strOf (lexT (d :: r)).1) t)) s')
  (kn : (lexT (d :: r)).2 = [] -> ∀ s', TokS Y L it b t0 0 [] (lexT (d :: r)).1 false anyM s' -> Q .next s') :
  wpAny (model prog w) A (execs [.If x1 [.Continue a2] [] a3, .If x2 [f1] [e2, ag, f2] a4] env) Q E s := by
 rw [lexT_c] at kr kn kc
 refine wpAny_execs_cons (t1 T fun s4 T4 => ?_)
 clear T
 by_cases hw : isW d = true
 ·exact ite_pos hw (wpAny_execs_cons (wpAny_Continue (kc (if_pos hw) _ T4)))
 ·rw [if_neg hw] at kr kn
  clear kc
  refine ite_neg hw (wpAny_execs_nil (wpAny_execs_cons (t2 T4 fun s5 T5 => ?_)))
  clear T4
  by_cases hq : isQ d = true
  ·rw [if_pos hq] at kr kn
   exact ite_pos hq (wpAny_execs_cons (l1 hA T5 kr fun hz s6 T6 => wpAny_execs_nil (wpAny_execs_nil (kn hz _ T6))))
  ·rw [if_neg hq] at kr kn
   refine ite_neg hq (wpAny_execs_cons (tk_esc hA B F V hN T5 (fun s6 T6 => wpAny_execs_cons (tk_add hg V hN T6 (Nat.le_refl _) fun s7 T7 => ?_)) h2))
   exact wpAny_execs_cons (l2 hA T7 kr fun hz s6 T6 => wpAny_execs_nil (wpAny_execs_nil (kn hz _ T6)))
theorem tk_main {x : List Stmt} {a1 : Pos} {Y : TY} {R : Result -> Shared -> Prop} (hA : AOk 4 A) (B : Base w Y.g) (F : LexF prog w Y.g Y.x Y.dx Y.st Y.rl) (V : TokEnv env L) (hN : Y.N < sizeLine)
  (hx : TokEnv env L -> ∀ {s d r E} {Q : Flow -> Shared -> Prop}, TokS Y L it b t0 1 r [] true (chIs [d]) s -> (lexT (d :: r) = lexT r -> ∀ s', TokS Y L it b t0 1 r [] true (chIs [d]) s' -> Q .cont s') ->
   (∀ t s', TokS Y L it b t0 0 (lexT (d :: r)).2 (lexT (d :: r)).1 true anyM s' -> Q (.ret (.str (strOf (lexT (d :: r)).1) t)) s') ->
   ((lexT (d :: r)).2 = [] -> ∀ s', TokS Y L it b t0 0 [] (lexT (d :: r)).1 false anyM s' -> Q .next s') -> wpAny (model prog w) A (execs x env) Q E s)
  (T : TokS Y L it b t0 0 cs [] true anyM s)
  (hR : ∀ t s', TokS Y L it b t0 0 (lexT cs).2 (lexT cs).1 true anyM s' -> R (.ok (.ret (.str (strOf (lexT cs).1) t))) s') (hE : (lexT cs).2 = [] -> ∀ s', TokS Y L it b t0 0 [] (lexT cs).1 false anyM s' -> R (.ok .next) s') :
  codeAny (model prog w) A (.forLoop (.Name "ch" a1) (.ref it) x [] env) R s := by
 generalize hZ : lexT cs = Z at hR hE
 refine codeAny_forLoop (fun n s => (∃ cs, n = cs.length + 1 /\ TokS Y L it b t0 0 cs [] true anyM s /\ lexT cs = Z) \/ (n = 0 /\ Z.2 = [] /\ TokS Y L it b t0 0 [] Z.1 false anyM s)) (fun n s1 hI => ?_) _ (.inl ⟨cs, rfl, T, hZ⟩)
 clear T hZ
 rcases hI with ⟨cs, rfl, T, hZ⟩ | ⟨rfl, hZ2, T⟩
 ·subst hZ
  refine tk_next hA B F hN T (fun e s2 T2 => ?_) fun d r e u s2 T2 => ?_
  ·subst e
   exact wpAny_execs_nil (hE rfl _ T2)
  ·subst e
   refine wpAny_assign_Name (tk_store V T2 fun s3 T3 => hx V T3 (fun e s4 T4 => ?_) hR fun hz s6 T6 => ?_)
   ·exact ⟨r.length + 1, Nat.lt_succ_self _, .inl ⟨r, rfl, T4.weak (fun _ _ => trivial) (Nat.zero_le _), e.symm⟩⟩
   ·exact ⟨0, Nat.succ_pos _, .inr ⟨rfl, hz, T6⟩⟩
 ·exact tk_end (hA.mono (by decide)) T fun s' T' => wpAny_execs_nil (hE hZ2 _ T')
set_option tactic.hygienic true in
theorem getlex_spec (hA : AOk 5 A) {Y : TY} (B : Base w Y.g) (F : LexF prog w Y.g Y.x Y.dx Y.st Y.rl) (hm : lexM mx ln (.ref Y.st) Y.p) (hv : StrsAre vs (cs.map chS)) (hN : Y.N < sizeLine) (hz : vs.length <= Y.N) (hc : cs.length <= Y.N) (hK : ln + nl cs = Y.K)
  (S : Hf Y.c Y.g ((Y.dx, insO mx 4) :: (Y.p, listO []) :: (Y.rl, listO vs) :: Y.own) s) :
  codeAny (model prog w) A (.call (.ref 91) ⟨[.ref Y.x], []⟩) (fun r s' => ∃ mx' vs' t ln', r = .ok (.ret (.str (strOf (lexT cs).1) t)) /\ lexM mx' ln' (.ref Y.st) Y.p /\ StrsAre vs' ((lexT cs).2.map chS) /\ vs'.length <= Y.N /\
   ln' + nl (lexT cs).2 = ln + nl cs /\ Hf Y.c Y.g ((Y.dx, insO mx' 4) :: (Y.p, listO []) :: (Y.rl, listO vs') :: Y.own) s') s := by
 obtain ⟨hm1, hm2, hm3, hm4, hm5⟩ := id hm
 have hz0 : ([] : List Value).length <= sizeLine := Nat.zero_le _
 refine callK (bs := [(Str.ofString "self", .ref Y.x)]) B S hA.room (by k_is) (by k_is) rfl (by decide) (by decide) (by rfl) (fun L s' S => ?_) rfl rfl rfl
 with_reducible refine wpAny_execs_cons ?_
 with_reducible refine wpAny_If ?_
 refine isTrue_plain ?_
 refine Attribute_Name_ ?_
 walk_at "n"
 refine r_getIns (by assumption) B (.inr F.x) (.inl (by walk_at "mem")) hm4 (by k_is) (by k_is) (by k_is) rfl rfl ?_
 intro s1 S1
 refine r_truthList (by assumption) (by walk_at "hx") (by assumption) ?_; intro _ _
 refine ite_neg (by decide) ?_
 with_reducible refine wpAny_execs_nil ?_
 with_reducible refine wpAny_execs_cons ?_
 refine wpAny_Assign_Name ?_
 refine r_str (by assumption) ?_; intro _ _ _
 walk_at "sto"
 with_reducible refine wpAny_execs_cons ?_
 refine wpAny_Assign_Name ?_
 refine Call_ ?_
 walk_at "n"
 first | refine callWith_method1 ?_ | refine callWith_method0 ?_
 walk_at "sp"
 refine Attribute_Name_ ?_
 walk_at "n"
 dsimp only
 refine r_bound (f := 84) (by assumption) B (.inr F.x) (.inl (by walk_at "mem")) hm5.1 (by k_is) (by k_is) (by k_is) (by k_is) (by k_is) (by k_is) (by decide) ?_
 intro b s2 S2
 walk_at "sp"
 refine r_str (by assumption) ?_; intro _ _ _
 walk_at "sp"
 refine r_iter2 (by assumption) (.inl (by walk_at "mem")) ?_
 intro it s3 S3
 walk_at "sto"
 with_reducible refine wpAny_execs_cons ?_
 rename_i S6
 have hcs : vs.length = cs.length := by rw [hv.length, List.length_map]
 obtain ⟨t0, T0⟩ : ∃ t0, TokS Y L it b t0 0 cs [] true anyM _ := ⟨_, _, mx, vs, _, ln, S6, rfl, rfl, rfl, trivial, hm, hv, hz, hK, by simpa using hc⟩
 refine wpAny_For ?_
 walk_at "n"
 refine r_iterSelf S6 (.inl (by walk_at "mem")) ?_
 clear S S1 S2 S3 S6 hm1 hm2 hm3 hm4 hm5 hm hv hz hcs
 refine tk_main hA.deeper B F ⟨rfl, rfl, rfl, rfl, rfl, rfl⟩ hN (fun V _ _ _ _ _ T kc kr kn => tk_turn hA.deeper B F V hN (.mk rfl) .mk (tk_w B F V) (tk_q V) (tk_inner B F V hN (.mk rfl) (tk_q V)) (tk_inner B F V hN (.mk rfl) (tk_w B F V)) T kc kr kn) T0 (fun t s' T => T.out hK) fun hz s' T => ?_
 refine wpAny_execs_cons (tk_ret ⟨rfl, rfl, rfl, rfl, rfl, rfl⟩ T fun t => ?_)
 rw [<- hz] at T
 exact T.out hK
end

end
section
section
variable {prog : Program} {w : World} {A : Around} {c : Cx} {g : Heap} {own : Led} {s : Shared} {L x dx p : Addr} {mx : Str -> Option Value} {ln : Int} {ws : List Value} {v fp : Value}
theorem push_spec (hA : AOk 1 A) (B : Base w g) (hx : Has g own x (eqO (instObj 101 dx))) (hd : Has g own dx (insO mx 4)) (hm : lexM mx ln fp p) (hz : ws.length < sizeLine) (S : Hf c g ((p, listO ws) :: own) s) :
  codeAny (model prog w) A (.call (.ref 98) ⟨[.ref x, v], []⟩) (fun r s' => r = .ok (.ret .none) /\ Hf c g ((p, listO (ws ++ [v])) :: own) s') s := by
 obtain ⟨hm1, hm2, hm3, hm4, hm5⟩ := id hm
 have hx' : Has g ((p, listO ws) :: own) x (eqO (instObj 101 dx)) := hx.cons
 have hd' : Has g ((p, listO ws) :: own) dx (insO mx 4) := hd.cons
 refine callK (bs := [(Str.ofString "token", v), (Str.ofString "self", .ref x)]) B S hA.room (by k_is) (by k_is) rfl (by decide) (by decide) (by rfl) (fun L s' S => ?_) rfl rfl rfl
 with_reducible refine wpAny_execs_cons ?_
 refine wpAny_Expr ?_
 refine MethodCall_ ?_
 refine Attribute_Name_ ?_
 walk_at "n"
 dsimp only
 refine r_getIns (by assumption) B hx' hd' hm4 (by k_is) (by k_is) (by k_is) rfl rfl ?_
 intro s1 S1
 refine r_listMethod (by assumption) (by walk_at "hx") PySem.F.slot_list_append PySem.F.type_list_append ?_
 first | refine callWith_method1 ?_ | refine callWith_method0 ?_
 walk_at "sp"
 walk_at "n"
 walk_at "sp"
 dsimp only
 refine r_append (by assumption) (by walk_at "put") (Nat.le_of_lt hz) ?_
 intro s2 S2
 with_reducible refine wpAny_execs_nil ?_
 dsimp only
 exact ⟨rfl, Hf.tail S2⟩
end

end
section
open PySem.W.X in
section
variable {prog : Program} {w : World} {A : Around} {c : Code} {fs : List Frame} {s : Shared} {P : End -> Shared -> Prop} {env : Env} {K : Flow -> Sem Fin} {H : Value -> Sem Fin} {gd : Bool -> Bool} {lv : List Value -> List Value}
open PySem.W.X
theorem x_wrap {α : Type} {m : Sem α} {K : α -> Sem Fin} (h : wpAny (model prog w) (A.over c fs) m (fun a s' => SegX (model prog w) A c (K a) fs s' P) (fun _ _ => False) s) :
  SegX (model prog w) A c (m.wrap K H gd lv) fs s P := by
 rintro Γ p rfl hΓ
 obtain ⟨e, s', hr, hq⟩ := runs_wrap_of_wp (Φ := fun e s' => e.quiet = true /\ P e s') K H gd lv m (h (Γ.over fs) p (hΓ.over fs)) (fun a p' s' h' => h' Γ p' rfl hΓ) (fun x p' s' h' => h'.elim)
 exact ⟨e, s', hr, hq⟩
theorem x_at {p' : Pos} {k : Unit -> Sem Fin} (h : SegX (model prog w) A c (k ()) fs s P) : SegX (model prog w) A c (.at p' k) fs s P :=
 x_wrap (m := standAt p') (K := k) (H := .raise) (gd := id) (lv := id) (wpAny_standAt h)
theorem x_point {l : List Value} {k : Unit -> Sem Fin} (h : SegX (model prog w) A c (k ()) fs s P) : SegX (model prog w) A c (.point l k) fs s P :=
 x_wrap (m := (.point l .pure : Sem Unit)) (K := k) (H := .raise) (gd := id) (lv := id) (fun Γ p hΓ => by
  show Sem.wp _ _ (.point l .pure) _ _ _ _
  rw [Sem.wp]
  exact h)
theorem x_execs_cons {st : Stmt} {rest : List Stmt} (h : SegX (model prog w) A c ((exec st env).wrap (fun f => match f with | .next => (execs rest env).wrap K H gd lv | f => K f) H gd lv) fs s P) :
  SegX (model prog w) A c ((execs (st :: rest) env).wrap K H gd lv) fs s P := by rw [execs_cons_wrap]; exact h
theorem x_func {body : List Stmt} (h : SegX (model prog w) A (.func body env) ((execs body env).wrap (fun f => .pure (.done (.ret (match f with | .ret v => v | _ => .none))))
   (fun e => (leaving env e).wrap (fun _ => .raise e) .raise id id) id id) fs s P) :
  SegX (model prog w) A (.func body env) (denote table (.func body env)) fs s P := by
 show SegX _ A (.func body env) (.point [] fun _ => ((execs body env).onRaise (leaving env)) >>= _) fs s P
 refine x_point ?_
 rw [Sem.onRaise_eq_wrap, Sem.bind_eq_wrap', Sem.wrap_wrap]
 rw [Sem.wrap_congr (execs body env) _ _ (K' := fun f => .pure (.done (.ret (match f with | .ret v => v | _ => .none))))
  (H' := fun e => (leaving env e).wrap (fun _ => .raise e) .raise id id) (fun f => by cases f <;> rfl)
  (fun e => by rw [Sem.bind_eq_wrap, Sem.wrap_wrap]; rfl)]
 exact h
theorem x_If {test : Expr} {body orelse : List Stmt} {pos : Pos} (h : wpAny (model prog w) (A.over c fs) (isTrue test env (eval test env)) (fun b s' => SegX (model prog w) A c ((if b = true then execs body env else execs orelse env).wrap K H gd lv) fs s' P) (fun _ _ => False) s) :
  SegX (model prog w) A c ((exec (.If test body orelse pos) env).wrap K H gd lv) fs s P := by
 show SegX _ A c (.at pos fun _ => (isTrue test env (eval test env) >>= fun b => if b = true then execs body env else execs orelse env).wrap K H gd lv) fs s P
 refine x_at ?_
 rw [Sem.bind_eq_wrap', Sem.wrap_wrap]
 exact x_wrap h
theorem x_Yield {e : Expr} {ypos pos : Pos} (hfs : splitAtGen fs = none) (hgd : gd false = false) (hfg : fs.any Frame.guarded = false)
  (h : wpAny (model prog w) (A.over c fs) (eval e env) (fun v s' => ∀ p l k, (∀ A' P' s'', SegX (model prog w) A' c (K .next) fs s'' P' -> SegX (model prog w) A' c (k (.send .none)) fs s'' P') -> P (.susp v false l k c p fs) s') (fun _ _ => False) s)
  (hco : autoParam (env.scope.isCoroutine = false) auR) (hi : autoParam (interactive env = false) auR) :
  SegX (model prog w) A c ((exec (.Expr (.Yield (some e) ypos) pos) env).wrap K H gd lv) fs s P := by
 rw [exec_Expr env _ pos hi rfl]
 show SegX _ A c (.at pos fun _ => ((eval e env >>= fun v => (standAt ypos >>= fun _ => yieldOut env v)) >>= fun x => dropValue (.Yield (some e) ypos) pos x).wrap K H gd lv) fs s P
 have hy : ∀ v, yieldOut env v = yieldValue v := fun v => by simp only [yieldOut, hco, Bool.false_eq_true, if_false]
 simp only [hy]
 refine x_at ?_
 rw [Sem.bind_eq_wrap', Sem.bind_eq_wrap', Sem.wrap_wrap, Sem.wrap_wrap]
 refine x_wrap (wpAny_mono h (fun v s' h' => ?_) fun _ _ x => x)
 refine x_at ?_
 have := @s_yield prog w A c fs P s' v
 refine (show SegX (model prog w) A c (.yield v (gd false) _ _) fs s' P from ?_)
 rw [hgd]
 refine s_yield _ _ _ _ _ _ _ _ _ _ hfs hfg fun p => h' p _ _ fun A' P' s'' hx => ?_
 exact hx
end

end
section
section
variable {prog : Program} {w : World} {A : Around} {c : Code} {fs : List Frame} {s : Shared} {P : End -> Shared -> Prop} {env : Env} {K : Flow -> Sem Fin} {H : Value -> Sem Fin} {gd : Bool -> Bool} {lv : List Value -> List Value}
open PySem.W.X
theorem x_For {target iter : Expr} {body orelse : List Stmt} {pos : Pos}
  (h : wpAny (model prog w) (A.over c fs) (eval iter env) (fun x s₁ => wpAny (model prog w) (A.over c fs) (pyIter x) (fun it s₂ =>
   ∀ p kk, (∀ A' f s' P', SegX (model prog w) A' c (K f) fs s' P' -> SegX (model prog w) A' c (kk (.ok f)) fs s' P') -> SegX (model prog w) A (.forLoop target it body orelse env) (denote table (.forLoop target it body orelse env)) (.ret kk none (gd false) (lv []) c p [] :: fs) s₂ P) (fun _ _ => False) s₁) (fun _ _ => False) s)
  (hs : autoParam (∀ x, foldedSetIterable iter env x = pure x) auI1) :
  SegX (model prog w) A c ((exec (.For target iter body orelse pos) env).wrap K H gd lv) fs s P := by
 rw [exec_For]
 show SegX _ A c (.at pos fun _ => (eval iter env >>= fun x0 => foldedSetIterable iter env x0 >>= fun x => (standAt iter.pos >>= fun _ => holding [x] (pyIter x) >>= fun it => runOwn (.forLoop target it body orelse env) env)).wrap K H gd lv) fs s P
 refine x_at ?_
 rw [Sem.bind_eq_wrap', Sem.wrap_wrap]
 refine x_wrap (wpAny_mono h (fun x s₁ h₁ => ?_) fun _ _ z => z)
 rw [hs]
 refine x_at (p' := iter.pos) (k := fun _ => (holding [x] (pyIter x) >>= fun it => runOwn (.forLoop target it body orelse env) env).wrap K H gd lv) ?_
 rw [Sem.bind_eq_wrap', Sem.wrap_wrap]
 refine x_wrap (wpAny_holding (wpAny_mono h₁ (fun it s₂ h₂ => ?_) fun _ _ z => z))
 refine s_call _ _ _ _ _ _ _ _ _ _ _ _ fun p => h₂ p _ fun A' f s' P' z => ?_
 exact z
theorem x_forLoop {target : Expr} {it : Value} {body orelse : List Stmt}
  (h : wpAny (model prog w) (A.over (.forLoop target it body orelse env) fs) (pyNext it) (fun r s₁ => match r with
   | none => SegX (model prog w) A (.block orelse env) (denote table (.block orelse env)) fs s₁ P
   | some v => wpAny (model prog w) (A.over (.forLoop target it body orelse env) fs) (letOwnedTupleGo target it v) (fun _ s₂ => wpAny (model prog w) (A.over (.forLoop target it body orelse env) fs) (assign target env v) (fun _ s₃ =>
     SegX (model prog w) A (.forLoop target it body orelse env) ((execs body env).wrap (fun f => match f with
      | .next | .cont => .pure (.again (.forLoop target it body orelse env))
      | .brk => .pure (.done .next)
      | .ret v => .pure (.done (.ret v))) (fun e => (do noteFrame e env; theTreesLotGoes e : Sem Unit).wrap (fun _ => .raise e) .raise id id) id id) fs s₃ P) (fun _ _ => False) s₂) (fun _ _ => False) s₁) (fun _ _ => False) s) :
  SegX (model prog w) A (.forLoop target it body orelse env) (denote table (.forLoop target it body orelse env)) fs s P := by
 show SegX _ A _ ((forTurn target it body orelse env).onRaise (fun x => do noteFrame x env; theTreesLotGoes x)) fs s P
 unfold forTurn
 rw [Sem.onRaise_eq_wrap]
 show SegX _ A _ (.at target.pos fun _ => (((pyNext it).onRaise (fun _ => standAt { target.pos with line := 0 })) >>= _).wrap _ _ _ _) fs s P
 refine x_at ?_
 rw [Sem.bind_eq_wrap', Sem.wrap_wrap]
 refine x_wrap (wpAny_onRaise (wpAny_mono h (fun r s₁ h₁ => ?_) fun _ _ z => z.elim))
 cases r with
 | none => exact s_again _ _ _ _ _ _ _ _ rfl h₁
 | some v =>
  dsimp only at h₁ ⊢
  rw [Sem.bind_eq_wrap', Sem.wrap_wrap]
  refine x_wrap (wpAny_mono h₁ (fun _ s₂ h₂ => ?_) fun _ _ z => z)
  rw [Sem.bind_eq_wrap', Sem.wrap_wrap]
  refine x_wrap (wpAny_mono h₂ (fun _ s₃ h₃ => ?_) fun _ _ z => z)
  rw [Sem.bind_eq_wrap', Sem.wrap_wrap]
  rw [Sem.wrap_congr (execs body env) _ _ (K' := fun f => match f with
      | .next | .cont => .pure (.again (.forLoop target it body orelse env))
      | .brk => .pure (.done .next)
      | .ret v => .pure (.done (.ret v))) (H' := (fun e => (do noteFrame e env; theTreesLotGoes e : Sem Unit).wrap (fun _ => .raise e) .raise id id))
    (fun f => by cases f <;> rfl)
    (fun e => by first | exact Sem.bind_eq_wrap _ _ | (show (do noteFrame e env; theTreesLotGoes e : Sem Unit).bind (fun _ => .raise e) = _; rw [Sem.bind_eq_wrap]))]
  exact h₃
theorem x_blockNil {fs : List Frame} {kk : Result -> Sem Fin} {hd : Option Value} {g : Bool} {l : List Value} {c₁ : Code} {p₁ : Pos} {kp} (h : SegX (model prog w) A c₁ (kk (.ok .next)) fs s P) :
  SegX (model prog w) A (.block [] env) (denote table (.block [] env)) (.ret kk hd g l c₁ p₁ kp :: fs) s P := by
 refine s_pop _ _ _ _ _ _ _ (.ok .next) _ ?_ _ _ _ _ _ _ _ h
 rfl
end

end
section
section
open PySem.W.X
variable {prog : Program} {w : World} {A : Around} {E : Value -> Shared -> Prop} {c : Cx} {g : Heap} {own own' gl : Led} {s : Shared} {a tp : Addr} {gi : Nat} {gst : GenState}
noncomputable def GenSeg (prog : Program) (w : World) (A : Around) (gst : GenState) (s : Shared) (P : End -> Shared -> Prop) : Prop := match gst with
 | .fresh c₀ => SegX (model prog w) A c₀ (denote table c₀) [] s P
 | .suspended k₀ _ c₀ _ fs₀ _ => SegX (model prog w) A c₀ (k₀ (.send .none)) fs₀ s P
 | _ => False
theorem r_wake {α : Type} {l : List Value} {k : GenResult -> Sem α} {Q : α -> Shared -> Prop} {P : End -> Shared -> Prop} (hg : s.gens[gi]? = some gst) (x : GenSeg prog w A gst (s.setGen gi .running) P)
  (h : ∀ e s1, e.genState.bare = true -> P e s1 -> wpAny (model prog w) A (k e.result) Q E (s1.setGen gi e.genState)) : wpAny (model prog w) A (.resume gi (.send .none) l k) Q E s := by
 intro Γ p hΓ
 rw [Sem.wp_resume]
 cases gst with
 | fresh c₀ =>
  obtain ⟨e₁, s₁, hr, hqt, he⟩ := x (Γ.wake c₀ p) p rfl (hΓ.wake c₀ p)
  exact ⟨_, _, by unfold Wakes; rw [hg]; exact ⟨e₁, s₁, hr, hqt, rfl, rfl⟩, h _ _ (End.bare_of_quiet hqt) he Γ p hΓ⟩
 | suspended k₀ l₀ c₀ p₀ fs₀ cl =>
  obtain ⟨e₁, s₁, hr, hqt, he⟩ := x (Γ.wake c₀ p) p₀ rfl (hΓ.wake c₀ p)
  exact ⟨_, _, by unfold Wakes; rw [hg]; exact ⟨e₁, s₁, hr, hqt, rfl, rfl⟩, h _ _ (End.bare_of_quiet hqt) he Γ p hΓ⟩
 | running => exact x.elim
 | finished => exact x.elim
noncomputable def tupO (vs : List Value) : OP := eqO { cls := .type "tuple", data := .seq vs.toArray }
noncomputable def GenOK (prog : Program) (w : World) (g : Heap) : List (Int × List Nat) -> GenState -> Led -> Prop
 | [], gst, gl => ∀ A c own s, AOk 4 A -> Base w g -> Hf c g (gl ++ own) s -> GenSeg prog w A gst s (fun e s' => e = .ret (.ok (.ret .none)) /\ Hf c g own s')
 | y :: r, gst, gl => ∀ A c own s, AOk 4 A -> Base w g -> Hf c g (gl ++ own) s -> GenSeg prog w A gst s (fun e s' => ∃ gl' tp t u, e.result = .yielded (.ref tp) /\ Hf c g (gl' ++ (tp, tupO [.int y.1 t, .str (strOf y.2) u]) :: own) s' /\
   GenOK prog w g r e.genState gl')
noncomputable def GenPost (prog : Program) (w : World) (g : Heap) (c : Cx) (own : Led) : List (Int × List Nat) -> End -> Shared -> Prop
 | [], e, s' => e = .ret (.ok (.ret .none)) /\ Hf c g own s'
 | y :: r, e, s' => ∃ gl' tp t u, e.result = .yielded (.ref tp) /\ Hf c g (gl' ++ (tp, tupO [.int y.1 t, .str (strOf y.2) u]) :: own) s' /\ GenOK prog w g r e.genState gl'
theorem genOK_iff {items : List (Int × List Nat)} {gst : GenState} {gl : Led} : GenOK prog w g items gst gl ↔ ∀ A c own s, AOk 4 A -> Base w g -> Hf c g (gl ++ own) s -> GenSeg prog w A gst s (GenPost prog w g c own items) := by
 cases items <;> exact Iff.rfl
noncomputable def genOb (gi : Nat) : OP := fun o => ∃ nm qn, o.cls = .type "generator" /\ o.data = .fields #[.int gi 0, nm, qn] /\ o.slots = #[]
noncomputable def Cx.gen (c : Cx) (gi : Nat) (x : GenState) : Cx := { c with gs := c.gs.setIfInBounds gi x }
theorem Hf.setGen (S : Hf c g own s) (gi : Nat) (x : GenState) : Hf (c.gen gi x) g own (s.setGen gi x) :=
 ⟨S.keep, S.led, S.nodup, by show s.gens.setIfInBounds gi x = c.gs.setIfInBounds gi x; rw [S.gsEq], S.osEq⟩
theorem r_nextGen {P : End -> Shared -> Prop} {Q : Option Value -> Shared -> Prop} (S : Hf c g own s) (hA : AOk 5 A) (B : Base w g) (hgi : s.gens[gi]? = some gst) (ho : Has g own a (genOb gi))
  (x : GenSeg prog w A.in1 gst (s.setGen gi .running) P)
  (h : ∀ e s1, e.genState.bare = true -> P e s1 -> (∃ v, e.result = .yielded v /\ Q (some v) (s1.setGen gi e.genState)) \/ (e.result = .returned .none /\ ∃ c' own', Hf c' g own' (s1.setGen gi e.genState) /\ ∀ s2, Hf c' g own' s2 -> Q none s2)) :
  wpAny (model prog w) A (pyNext (.ref a)) Q E s := by
 obtain ⟨o, hoo, nm, qn, hc, hd, hsl⟩ := ho.at S
 have hg : s.heap.IsGen a gi := ⟨o, nm, qn, hoo, hc, hd, hsl⟩
 unfold pyNext
 refine wpAny_bind (wpAny_attempt (wpAny_callSpecial?_slot (name := Str.ofString "__next__") hg.typeIs slot_gen_next
  (wpAny_call_entry slot_gen_next hg.typeIs entry_gen_next ?_ (args_gen_next _))))
 show wpAny _ _ (Builtin.Generator.genWake (.ref a) (.send .none)) _ _ s
 unfold Builtin.Generator.genWake
 refine wpAny_bind (wpAny_holding (wpAny_genNumber hg (wpAny_bind (wpAny_genState hgi ?_))))
 cases gst with
 | running => exact x.elim
 | finished => exact x.elim
 | _ =>
  refine wpAny_bind (wpAny_roomToWake (B.lim.keeps S.keep) hA.in1.room ?_)
  show wpAny _ _ (.resume gi (.send .none) [] _) _ _ s
  refine r_wake hgi x fun e s1 hb hP => ?_
  rcases h e s1 hb hP with ⟨v, e1, q⟩ | ⟨e1, c', own', S', q⟩
  ·rw [e1]
   exact wpAny_bind (wpAny_pure (wpAny_pure ⟨v, rfl, wpAny_pure q⟩))
  ·rw [e1]
   refine wpAny_bind (wpAny_pure ?_)
   show wpAny _ _ ((Builtin.SmallTypes.stopIteration : Sem Unit) >>= _) _ _ _
   exact wpAny_bind (r_stop S' (AOk.hh hA.in1) fun a s2 S2 ht => stop_none ht (q _ S2))
end

end
section
section
variable {prog : Program} {w : World} {A : Around} {E : Value -> Shared -> Prop} {c : Cx} {g : Heap} {own old nw : Led} {s s' : Shared} {L e it tp : Addr} {m : Str -> Option Value} {x : Str} {t : Tok} {i d : Nat}
theorem Hf.remake (S : Hf c g (old ++ own) s) (hk : ∀ b o, b ∉ old.map (·.1) -> s.heap.get? b = some o -> s'.heap.get? b = some o) (hn : ∀ p ∈ nw, ∃ o, s'.heap.get? p.1 = some o /\ p.2 o)
  (ha : ∀ p ∈ nw, p.1 ∈ old.map (·.1) \/ s.heap.objs.size <= p.1) (hd : (nw.map (·.1)).Nodup) (hg : s'.gens = s.gens) (ho : s'.os = s.os) : Hf c g (nw ++ own) s' := by
 have hnd := S.nodup
 rw [List.map_append, List.nodup_append] at hnd
 have hlt : ∀ p ∈ own, p.1 < s.heap.objs.size := fun p hp => S.lt (a := p.1) (Pa := p.2) (List.mem_append_right _ hp)
 have hoff : ∀ p ∈ own, p.1 ∉ old.map (·.1) := fun p hp q => hnd.2.2 _ q _ (List.mem_map_of_mem (f := (·.1)) hp) rfl
 refine ⟨fun b o e => hk b o (fun q => ?_) (S.keep b o e), fun p hp => ?_, ?_, by rw [hg]; exact S.gsEq, by rw [ho]; exact S.osEq⟩
 ·obtain ⟨p, hp, rfl⟩ := List.mem_map.mp q
  have := (S.led p (List.mem_append_left _ hp)).2
  rw [this] at e; cases e
 ·rcases List.mem_append.mp hp with hp | hp
  ·refine ⟨hn p hp, ?_⟩
   rcases ha p hp with q | q
   ·obtain ⟨p', hp', e'⟩ := List.mem_map.mp q
    rw [<- e']; exact (S.led p' (List.mem_append_left _ hp')).2
   ·cases e' : g.get? p.1 with
    | none => rfl
    | some o => exact absurd (Heap.lt_size (S.keep _ _ e')) (Nat.not_lt.mpr q)
  ·obtain ⟨⟨o, e', q⟩, n⟩ := S.led p (List.mem_append_right _ hp)
   exact ⟨⟨o, hk _ _ (hoff p hp) e', q⟩, n⟩
 ·rw [List.map_append, List.nodup_append]
  refine ⟨hd, hnd.2.1, fun a ha' b hb e' => ?_⟩
  subst e'
  obtain ⟨p, hp, rfl⟩ := List.mem_map.mp ha'
  obtain ⟨q, hq, e'⟩ := List.mem_map.mp hb
  rcases ha p hp with z | z
  ·exact hoff q hq (e' ▸ z)
  ·have := hlt q hq
   rw [e'] at this; exact absurd this (Nat.not_lt.mpr z)
noncomputable def enumO (it : Addr) (i : Int) : OP := fun o => ∃ old, o = { cls := .type "enumerate", dict := none, data := .fields #[.none, .bool false, .ref it, rawInt i, .none, old], slots := #[] }
noncomputable def enumOutO (it : Addr) (i : Int) (tp : Addr) : OP := fun o => ∃ item, o = { cls := .type "enumerate", dict := none, data := .fields #[rawInt tp, .bool false, .ref it, rawInt i, .none, item], slots := #[] }
noncomputable def strIterO (x : Str) (t : Tok) (i : Nat) : OP := fun o => o.cls = .type (strIterType x) /\ o.data = .fields #[.str x t, .int i 0]
theorem drawsStr (hh : A.handled = none) (it : Addr) (x : Str) (t : Tok) :
  Draws prog w A it [it] x.cps.size (fun i v => ∃ c u, x.cps[i]? = some c /\ v = .str ⟨#[c]⟩ u) (fun i h => h.IsStrIter it (strIterType x) x t i) := by
 unfold strIterType
 by_cases q : x.cps.all (· < 128) = true
 ·rw [if_pos q]; exact Draws.strAscii hh it x t
 ·rw [if_neg q]; exact Draws.strWide hh it x t
theorem r_enumStr {Q : Value -> Shared -> Prop} (S : Sf c g L m own s) (h : ∀ e it s', Sf c g L m ((e, enumO it 0) :: (it, strIterO x t 0) :: own) s' -> Q (.ref e) s') : wpAny (model prog w) A (call (.type "enumerate") [.str x t]) Q E s := by
 refine call_enumerate_str fun h' he hi hs hk => h (s.heap.objs.size + 1) s.heap.objs.size _ ?_
 obtain ⟨o, hio, hic⟩ := hi
 have := Hf.remake (old := []) (nw := [(s.heap.objs.size + 1, enumO s.heap.objs.size 0), (s.heap.objs.size, strIterO x t 0)]) (own := (L, nsO m) :: own) (s' := { s with heap := h' }) S (fun b o _ q => hk b o q) ?_ ?_ ?_ rfl rfl
 ·exact Hf.perm this (((List.Perm.swap _ _ _).cons _).trans (List.Perm.swap _ _ _))
 ·intro p hp
  simp only [List.mem_cons, List.not_mem_nil, or_false] at hp
  rcases hp with rfl | rfl
  ·exact ⟨_, he, _, rfl⟩
  ·exact ⟨o, hio, hic⟩
 ·intro p hp
  simp only [List.mem_cons, List.not_mem_nil, or_false] at hp
  rcases hp with rfl | rfl <;> right <;> simp
 ·simp
theorem r_enumItem {Q : Option Value -> Shared -> Prop} (S : Hf c g ((e, enumO it i) :: (it, strIterO x t i) :: own) s) (hh : A.handled = none) (hi : i < x.cps.size)
  (h : ∀ tp tk u s', Hf c g ((e, enumOutO it ((i : Int) + 1) tp) :: (it, strIterO x t (i + 1)) :: (tp, tupO [.int i tk, .str ⟨#[x.cps[i]]⟩ u]) :: own) s' -> Q (some (.ref tp)) s') : wpAny (model prog w) A (pyNext (.ref e)) Q E s := by
 obtain ⟨oe, heo, old, rfl⟩ := S.at (a := e) List.mem_cons_self
 obtain ⟨oi, hio, hic⟩ := S.at (a := it) (.tail _ List.mem_cons_self)
 have hne : e ≠ it := fun q => S.ne (b := it) (Pb := strIterO x t i) (List.mem_cons_self) q.symm
 refine wpAny_pyNext_enum_itemD (drawsStr (A := A.in1) hh it x t) heo ⟨oi, hio, hic⟩ hi hne (by simpa using hne) fun v h' tk hv he' hst ht hs hk => ?_
 obtain ⟨d, u, hd, rfl⟩ := hv
 rw [Array.getElem?_eq_getElem hi] at hd
 cases hd
 obtain ⟨oi', hio', hic'⟩ := hst
 refine h s.heap.objs.size tk u _ ?_
 have l1 := S.lt (a := e) List.mem_cons_self
 have l2 := S.lt (a := it) (.tail _ List.mem_cons_self)
 refine Hf.remake (old := [(e, enumO it i), (it, strIterO x t i)]) (nw := [(e, enumOutO it ((i : Int) + 1) s.heap.objs.size), (it, strIterO x t (i + 1)), (s.heap.objs.size, tupO [.int i tk, .str ⟨#[x.cps[i]]⟩ u])]) (own := own) S (fun b o hb q => ?_) ?_ ?_ ?_ rfl rfl
 ·simp only [List.map_cons, List.map_nil, List.mem_cons, List.not_mem_nil, or_false, not_or] at hb
  exact hk b o hb.1 hb.2 q
 ·intro p hp
  simp only [List.mem_cons, List.not_mem_nil, or_false] at hp
  rcases hp with rfl | rfl | rfl
  ·exact ⟨_, he', _, rfl⟩
  ·exact ⟨_, hio', hic'⟩
  ·exact ⟨_, ht, rfl⟩
 ·intro p hp
  simp only [List.mem_cons, List.not_mem_nil, or_false] at hp
  rcases hp with rfl | rfl | rfl <;> simp
 ·simp only [List.map_cons, List.map_nil, List.nodup_cons, List.mem_cons, List.not_mem_nil, or_false, not_or, List.nodup_nil, and_true, not_false_eq_true]
  exact ⟨⟨hne, Nat.ne_of_lt l1⟩, Nat.ne_of_lt l2⟩
theorem r_enumEnd {Q : Option Value -> Shared -> Prop} (S : Hf c g ((e, enumO it x.cps.size) :: (it, strIterO x t x.cps.size) :: own) s) (hh : A.handled = none)
  (h : ∀ s', Hf c g ((e, enumO it x.cps.size) :: own) s' -> Q none s') : wpAny (model prog w) A (pyNext (.ref e)) Q E s := by
 obtain ⟨oe, heo, old, rfl⟩ := S.at (a := e) List.mem_cons_self
 obtain ⟨oi, hio, hic⟩ := S.at (a := it) (.tail _ List.mem_cons_self)
 refine wpAny_pyNext_enum_endD (drawsStr (A := A.in1) hh it x t) heo ⟨oi, hio, hic⟩ fun h' hx => h _ ?_
 have S' := Hf.perm S (List.Perm.swap _ _ _)
 have S1 := S'.tail
 refine Hf.remake (old := [(it, strIterO x t x.cps.size)]) (nw := []) (own := (e, enumO it x.cps.size) :: own) S' (fun b o hb q => hx b o (by simpa using hb) q) (fun _ z => by cases z) (fun _ z => by cases z) List.nodup_nil rfl rfl
theorem r_letGoEnum {elts : List Expr} {x1} {pos : Pos} {j : Int} {Q : Unit -> Shared -> Prop} (S : Hf c g ((e, enumOutO it j tp) :: own) s) (h : ∀ s', Hf c g ((e, enumO it j) :: own) s' -> Q () s') :
  wpAny (model prog w) A (letOwnedTupleGo (.Tuple elts x1 pos) (.ref e) (.ref tp)) Q E s := by
 obtain ⟨oe, heo, item, rfl⟩ := S.at (a := e) List.mem_cons_self
 exact wpAny_letOwnedTupleGo_enum heo fun h' he hs => h _ (S.turn' hs ⟨_, he, _, rfl⟩ _)
end

end
section
section
variable {prog : Program} {w : World} {A : Around} {E : Value -> Shared -> Prop} {env : Env} {c : Cx} {g : Heap} {own : Led} {s s' : Shared} {L e tp : Addr} {m : Str -> Option Value} {v1 v2 : Value} {a b : Str} {pa pb pt : Pos}
theorem r_unpack {elts : List Expr} {k} {vs : List Value} {Q : Unit -> Shared -> Prop} (S : Sf c g L m own s) (hh : A.handled = none) (ht : Has g own tp (tupO vs)) (hn : (assignEach elts env).length = vs.length) (hstar : (assignEach elts env).findIdx? (·.1) = none)
  (h : ∀ s', Sf c g L m own s' -> wpAny (model prog w) A (assignInOrder ((assignEach elts env).map (·.2)) vs) Q E s') : wpAny (model prog w) A (assign (.Tuple elts k pt) env (.ref tp)) Q E s := by
 obtain ⟨o, ho, rfl⟩ := ht.sat S
 refine assign_Tuple_tuple (items := vs.toArray) hh ?_ (by simpa using hn) hstar fun h' hx => ?_
 ·exact ⟨_, ho, rfl, 0, rfl⟩
 ·rw [List.toList_toArray]
  exact h _ (Hf.grow S (fun b o e => hx b o (Nat.ne_of_lt (Heap.lt_size e)) e) rfl rfl)
theorem r_each2 {Q : Unit -> Shared -> Prop} (h : wpAny (model prog w) A (storeName env a v1) (fun _ s1 => wpAny (model prog w) A (storeName env b v2) Q E s1) E s) :
  wpAny (model prog w) A (assignInOrder ((assignEach [.Name a pa, .Name b pb] env).map (·.2)) [v1, v2]) Q E s := by
 show wpAny _ _ (holding [v2] (assign (.Name a pa) env v1) >>= fun _ => (holding [] (assign (.Name b pb) env v2) >>= fun _ => pure ())) Q E s
 refine wpAny_bind (wpAny_holding (wpAny_assign_Name (wpAny_mono h (fun _ s1 z => ?_) fun _ _ z => z)))
 exact wpAny_bind (wpAny_holding (wpAny_assign_Name (wpAny_mono z (fun _ s2 y => wpAny_pure y) fun _ _ z => z)))
theorem r_unpack2 {k} {Q : Unit -> Shared -> Prop} (S : Sf c g L m own s) (hh : A.handled = none) (ht : Has g own tp (tupO [v1, v2]))
  (h : ∀ s', Sf c g L m own s' -> wpAny (model prog w) A (storeName env a v1) (fun _ s1 => wpAny (model prog w) A (storeName env b v2) Q E s1) E s') :
  wpAny (model prog w) A (assign (.Tuple [.Name a pa, .Name b pb] k pt) env (.ref tp)) Q E s := by
 refine r_unpack S hh ht rfl rfl fun s' S' => ?_
 exact r_each2 (h s' S')
end

end
section
section
open PySem.W.X
variable {prog : Program} {w : World} {A : Around} {c : Cx} {g : Heap} {own : Led} {s : Shared}
theorem gen_fn {R : Result -> Shared -> Prop} {f : Addr} {oc : Value} {od : Option Addr} {osl : Array (Option Value)} {fd : FuncData} {body : List Stmt} {vals : List Value} {binds : List (Str × Value)}
  (S : Hf c g own s) (hroom : A.depth < recursionLimit) (ho : g.get? f = some ⟨oc, od, .func fd, osl⟩) (hlim : g.NoLimit) (hcd : g.CodeRec fd.code fd.qualname)
  (hbody : fd.body = .stmts body) (hbind : bindArgs fd ⟨vals, []⟩ = pure binds) (hcell : ∀ x ∈ fd.scope.names, x.2 ≠ .cell) (hloc : ∀ x ∈ binds, fd.scope.names.lookup x.1 = some .local)
  (h : ∀ L a s', Sf { c with gs := c.gs.push (.fresh (.func body (callEnv fd L f))) } g L (fun y => binds.reverse.lookup y) ((a, genOb c.gs.size) :: own) s' -> R (.ok (.ret (.ref a))) s')
  (hco : fd.scope.isCoroutine = false) (hgen : fd.scope.isGenerator = true) (hk : fd.scope.kind = .function) :
  codeAny (model prog w) A (.call (.ref f) ⟨vals, []⟩) R s := by
 refine codeAny_call_generator (fd := fd) (body := body) hroom (S.keep _ _ ho) rfl hco hgen hbody (hcd.keeps S.keep) ?_
 rw [hbind]
 refine wpAny_pure (wpAny_newFunctionEnv hcell hloc (fun h₀ hn hsb => ?_) hk)
 have hk₁ : ∀ b o, s.heap.get? b = some o -> h₀.get? b = some o := fun b o e => hsb.extBut b o (Nat.ne_of_lt (Heap.lt_size e)) (Heap.get?_push_of_some _ e)
 refine ⟨(hlim.keeps S.keep).fresh _ hsb, h s.heap.objs.size _ _ ?_⟩
 have S1 : Sf c g s.heap.objs.size (fun y => binds.reverse.lookup y) own { s with heap := h₀, toks := s.toks + binds.length } := by
  refine ⟨fun b o e => hk₁ _ _ (S.keep b o e), fun p hp => ?_, ?_, S.gsEq, S.osEq⟩
  ·rcases List.mem_cons.mp hp with rfl | hp
   ·exact ⟨nsO_of hn, S.new⟩
   ·obtain ⟨⟨o', e, q⟩, n⟩ := S.led p hp
    exact ⟨⟨o', hk₁ _ _ e, q⟩, n⟩
  ·rw [List.map_cons, List.nodup_cons]
   refine ⟨fun q => ?_, S.nodup⟩
   obtain ⟨p, hp, e⟩ := List.mem_map.mp q
   exact absurd (S.lt (a := p.1) (Pa := p.2) hp) (by rw [e]; exact Nat.lt_irrefl _)
 have hgs : s.gens = c.gs := S.gsEq
 have S2 := Sf.alloc (Pa := genOb c.gs.size) S1 { cls := .type "generator", data := .fields #[.int s.gens.size 0, .str fd.name (s.toks + binds.length), .str fd.qualname (s.toks + binds.length + 1)] } ⟨_, _, rfl, by rw [hgs], rfl⟩
 exact ⟨S2.keep, S2.led, S2.nodup, by show s.gens.push _ = c.gs.push _; rw [hgs]; rfl, S2.osEq⟩
theorem callKgen {R : Result -> Shared -> Prop} {name qual : Str} {params : Arguments} {body : List Stmt} {scope : Scope} {dV kV doc pm cdv ct oc : Value} {an od : Option Addr} {osl : Array (Option Value)} {f : Addr} {vals : List Value} {bs : List (Str × Value)}
  (B : Base w g) (S : Hf c g own s) (hroom : A.depth < recursionLimit)
  (ho : (heapK w.params).lookup f = some ⟨oc, od, .func (fnOf name qual params body scope dV kV doc pm an cdv ct), osl⟩) (hcd : codeIn (heapK w.params) cdv qual = true)
  (hbind : bindArgs (fnOf name qual params body scope dV kV doc pm an cdv ct) ⟨vals, []⟩ = pure ((params.args.map (·.arg)).zip vals)) (hcell : (scope.names.all fun x => x.2 != .cell) = true) (hloc : ((params.args.map (·.arg)).all fun n => scope.names.lookup n == some .local) = true)
  (hbs : ((params.args.map (·.arg)).zip vals).reverse = bs)
  (h : ∀ L a s', Sf { c with gs := c.gs.push (.fresh (.func body (envOf qual scope L f cdv))) } g L (fun y => bs.lookup y) ((a, genOb c.gs.size) :: own) s' -> R (.ok (.ret (.ref a))) s')
  (hco : scope.isCoroutine = false) (hgen : scope.isGenerator = true) (hk : scope.kind = .function) :
  codeAny (model prog w) A (.call (.ref f) ⟨vals, []⟩) R s :=
 gen_fn S hroom (B.K _ _ ho) B.lim (codeRec_of B.K hcd) rfl hbind (fun x hx => by simpa using List.all_eq_true.mp hcell x hx) (fun x hx => by
  have hm : x.1 ∈ params.args.map (·.arg) := (List.of_mem_zip (a := x.1) (b := x.2) hx).1
  exact beq_iff_eq.mp (List.all_eq_true.mp hloc x.1 hm)) (by subst hbs; exact h) hco hgen hk
noncomputable def iterE : Nat -> Bool -> List Nat -> List (Int × List Nat)
 | i, true, [] => [((i : Int) - 1, [92])]
 | _, false, [] => []
 | i, true, d :: r => ((i : Int), [92, d]) :: iterE (i + 1) false r
 | i, false, d :: r => if d = 92 then iterE (i + 1) true r else ((i : Int), [d]) :: iterE (i + 1) false r
theorem iterE_t {i d : Nat} {r : List Nat} : iterE i true (d :: r) = ((i : Int), [92, d]) :: iterE (i + 1) false r := rfl
theorem iterE_f {i d : Nat} {r : List Nat} : iterE i false (d :: r) = if d = 92 then iterE (i + 1) true r else ((i : Int), [d]) :: iterE (i + 1) false r := rfl
variable {x : Str} {t : Tok}
set_option tactic.hygienic true in
theorem escaped_spec (hA : AOk 1 A) (B : Base w g) (S : Hf c g own s) (hx : x.length < sizeLine) :
  codeAny (model prog w) A (.call (.ref 42) ⟨[.str x t], []⟩) (fun r s' => ∃ a gst gl, r = .ok (.ret (.ref a)) /\ GenOK prog w g (iterE 0 false x.cps.toList) gst gl /\ gst.bare = true /\ Hf { c with gs := c.gs.push gst } g (gl ++ (a, genOb c.gs.size) :: own) s') s := by
 refine callKgen (bs := [(Str.ofString "addr", .str x t)]) B S hA.room (by k_is) (by k_is) rfl (by decide) (by decide) (by rfl) (fun L a s' S => ?_) rfl rfl rfl
 refine ⟨a, _, [(L, nsO fun y => List.lookup y [(Str.ofString "addr", .str x t)])], rfl, ?_, rfl, S⟩
 rw [genOK_iff]
 intro A c own s hA B S
 show SegX (model prog w) A _ _ [] s _
 refine x_func ?_
 refine x_execs_cons (x_wrap ?_)
 refine wpAny_Assign_Name ?_
 refine r_int (by assumption) ?_; intro _ _ _
 walk_at "sto"
 dsimp only
 refine x_execs_cons (x_wrap ?_)
 refine wpAny_Assign_Name ?_
 refine Constant_bool ?_
 walk_at "sto"
 dsimp only
 refine x_execs_cons (x_For ?_)
 refine Call_ ?_
 walk_at "n"
 first | refine PySem.Pv.callWith_type1 ?_ | refine callWith_type0 ?_
 walk_at "sp"
 walk_at "n"
 walk_at "sp"
 refine r_enumStr (by assumption) ?_
 intro e it s1 S1
 obtain ⟨oe, heo, old, rfl⟩ := S1.at (a := e) (.tail _ List.mem_cons_self)
 refine wpAny_pyIter_enum heo ?_
 intro p kk hkk
 have S2 : Hf c g ((L, nsO _) :: (e, enumO it ((0 : Nat) : Int)) :: (it, strIterO x t 0) :: own) s1 := S1
 generalize hcode : Code.forLoop _ _ _ _ _ = code
 generalize hfs : [Frame.ret _ _ _ _ _ _ _] = fs
 suffices H : ∀ n i esc A c own s m, i + n = x.cps.size -> AOk 4 A -> Hf c g ((L, nsO m) :: (e, enumO it ((i : Nat) : Int)) :: (it, strIterO x t i) :: own) s -> m "escape" = some (.bool esc) -> (esc = true -> ∃ tk, m "pos" = some (.int ((i : Int) - 1) tk)) ->
   SegX (model prog w) A code (denote table code) fs s (GenPost prog w g c own (iterE i esc (x.cps.toList.drop i))) from
  H x.cps.size 0 false A c own s1 _ (by omega) hA S2 rfl (fun z => by cases z)
 clear heo S1 S2 S hA
 intro n
 induction n with
 | zero =>
  intro i esc A c own s m hi hA S hm hp
  obtain rfl : i = x.cps.size := by omega
  rw [<- hcode]
  refine x_forLoop ?_
  have S' := Hf.perm (own' := (e, enumO it ((x.cps.size : Nat) : Int)) :: (it, strIterO x t x.cps.size) :: (L, nsO m) :: own) S (by walk_at "perm")
  refine r_enumEnd S' ?hh fun s2 S2 => ?_
  case hh => rw [<- hfs]; exact hA.hh
  dsimp only
  rw [<- hfs]
  refine x_blockNil (hkk _ _ _ _ ?_)
  dsimp only
  refine x_execs_cons (x_If ?_)
  have S2' : Sf c g L m ((e, enumO it ((x.cps.size : Nat) : Int)) :: own) s2 := Hf.perm S2 (by walk_at "perm")
  refine isTrue_plain (r_Name S2' hm ?_)
  refine wpAny_truthy_bool ?_
  have hd : x.cps.toList.drop x.cps.size = [] := List.drop_eq_nil_of_le (by simp)
  rw [hd]
  cases esc with
  | false =>
   rw [if_neg (by decide)]
   exact s_end _ _ _ _ _ _ (.ok (.ret .none)) _ rfl ⟨rfl, S2'.tail.tail⟩
  | true =>
   rw [if_pos rfl]
   obtain ⟨tk, hp⟩ := hp rfl
   refine x_execs_cons (x_Yield rfl rfl rfl ?_)
   refine Tuple_ ?_
   walk_at "sp"
   walk_at "n"
   walk_at "sp"
   refine r_str (by assumption) ?_; intro _ _ _
   walk_at "sp"
   refine r_tupNew (by assumption) (by size_fits) ?_; intro _ _ _
   dsimp only
   rename_i tp s3 S3
   intro p l k hk
   have S4 : Hf c g ([(L, nsO m), (e, enumO it ((x.cps.size : Nat) : Int))] ++ (tp, tupO [.int ((x.cps.size : Int) - 1) tk, .str (strOf [92]) _]) :: own) _ := Hf.perm S3 (by walk_at "perm")
   refine ⟨_, tp, _, _, rfl, S4, genOK_iff.mpr fun A c own s hA B S => ?_⟩
   show SegX (model prog w) A _ (k (.send .none)) [] s _
   refine hk _ _ _ ?_
   exact s_end _ _ _ _ _ _ (.ok (.ret .none)) _ rfl ⟨rfl, S.tail.tail⟩
 | succ n ih =>
  intro i esc A c own s m hi hA S hm hp
  have hlt : i < x.cps.size := by omega
  rw [<- hcode]
  refine x_forLoop ?_
  have S' := Hf.perm (own' := (e, enumO it ((i : Nat) : Int)) :: (it, strIterO x t i) :: (L, nsO m) :: own) S (by walk_at "perm")
  refine r_enumItem S' ?hh hlt fun tp tk u s2 S2 => ?_
  case hh => rw [<- hfs]; exact hA.hh
  dsimp only
  refine r_letGoEnum S2 fun s3 S3 => ?_
  have S3' : Sf c g L m ((e, enumO it (((i + 1 : Nat) : Nat) : Int)) :: (it, strIterO x t (i + 1)) :: (tp, tupO [.int i tk, .str ⟨#[x.cps[i]]⟩ u]) :: own) s3 := Hf.perm S3 (by walk_at "perm")
  refine r_unpack2 S3' ?hh (.inl (by walk_at "mem")) fun s4 S4 => ?_
  case hh => rw [<- hfs]; exact hA.hh
  walk_at "sto"
  walk_at "sto"
  rename_i s5 S5
  rw [hcode]
  have hdrop : x.cps.toList.drop i = x.cps[i] :: x.cps.toList.drop (i + 1) := by
   rw [List.drop_eq_getElem_cons (by simpa using hlt)]; simp
  rw [hdrop]
  generalize x.cps[i] = d at S5 ⊢
  refine x_execs_cons (x_If ?_)
  refine isTrue_plain (r_Name S5 (v := .bool esc) (by show (if _ then _ else if _ then _ else m _) = _; rw [if_neg (by decide), if_neg (by decide)]; exact hm) ?_)
  refine wpAny_truthy_bool ?_
  cases esc with
  | true =>
   rw [if_pos rfl]
   refine x_execs_cons (x_Yield (by rw [<- hfs]; rfl) rfl (by rw [<- hfs]; rfl) ?_)
   refine Tuple_ ?_
   walk_at "sp"
   walk_at "n"
   walk_at "sp"
   refine wpAny_BinOp ?_
   refine r_str (by assumption) ?_; intro _ _ _
   walk_at "n"
   dsimp only
   refine r_addStr (by assumption) (by rw [sizeLine_eq]; show (Str.ofString "\\").length + 1 <= _; rw [qs_b]; decide) ?_
   intro t3 s6 S6
   walk_at "sp"
   refine r_tupNew (by assumption) (by size_fits) ?_; intro _ _ _
   rename_i tp2 s7 S7
   intro p l k hk
   have S8 : Hf c g ((tp, tupO [.int i tk, .str ⟨#[d]⟩ u]) :: ([(L, nsO _), (e, enumO it ((i + 1 : Nat) : Int)), (it, strIterO x t (i + 1))] ++ (tp2, tupO [.int (i : Int) tk, .str (strOf [92, d]) t3]) :: own)) _ := Hf.perm (own' := (tp, tupO [.int i tk, .str ⟨#[d]⟩ u]) :: ([(L, nsO _), (e, enumO it ((i + 1 : Nat) : Int)), (it, strIterO x t (i + 1))] ++ (tp2, tupO [.int (i : Int) tk, .str (Str.ofString "\\" ++ ⟨#[d]⟩) t3]) :: own)) S7 (by walk_at "perm")
   refine ⟨_, tp2, _, _, rfl, S8.tail, genOK_iff.mpr fun A c own s hA B S => ?_⟩
   show SegX (model prog w) A code (k (.send .none)) fs s _
   refine hk _ _ _ ?_
   refine x_execs_cons (x_wrap ?_)
   refine wpAny_Assign_Name ?_
   refine Constant_bool ?_
   walk_at "sto"
   dsimp only
   refine s_again _ _ _ _ _ _ _ _ (by rw [<- hcode]; rfl) ?_
   exact ih (i + 1) false A c own _ _ (by omega) hA (by assumption) rfl (fun z => by cases z)
  | false =>
   rw [if_neg (by decide)]
   refine x_execs_cons (x_If ?_)
   refine wpAny_isTrue_Compare1 ?_
   walk_at "n"
   refine r_str (by assumption) ?_; intro _ _ _
   refine r_eqStr ?_
   refine wpAny_truthy_bool ?_
   by_cases hd : d = 92
   ·subst hd
    rw [decide_eq_true (show (⟨#[92]⟩ : Str) = Str.ofString "\\" from qs_b.symm), if_pos rfl]
    refine x_execs_cons (x_wrap ?_)
    refine wpAny_Assign_Name ?_
    refine Constant_bool ?_
    walk_at "sto"
    dsimp only
    rename_i s7 S7
    have S8 := Hf.tail (Hf.perm (own' := (tp, tupO [.int i tk, .str ⟨#[92]⟩ u]) :: (L, nsO _) :: (e, enumO it ((i + 1 : Nat) : Int)) :: (it, strIterO x t (i + 1)) :: own) S7 (by walk_at "perm"))
    have e1 : ∀ R, iterE i false (92 :: R) = iterE (i + 1) true R := fun R => rfl
    rw [e1]
    refine s_again _ _ _ _ _ _ _ _ (by rw [<- hcode]; rfl) ?_
    exact ih (i + 1) true A c own _ _ (by omega) hA S8 rfl (fun _ => ⟨tk, by rw [show (((i + 1 : Nat) : Int) - 1) = (i : Int) by omega]; rfl⟩)
   ·rw [decide_eq_false (show ¬ (⟨#[d]⟩ : Str) = Str.ofString "\\" from fun z => hd (chS_inj.mp (z.trans qs_b))), if_neg (by decide)]
    refine x_execs_cons (x_Yield (by rw [<- hfs]; rfl) rfl (by rw [<- hfs]; rfl) ?_)
    refine Tuple_ ?_
    walk_at "sp"
    walk_at "n"
    walk_at "sp"
    walk_at "n"
    walk_at "sp"
    refine r_tupNew (by assumption) (by size_fits) ?_; intro _ _ _
    dsimp only
    rename_i tp2 s7 S7
    intro p l k hk
    have S8 : Hf c g ((tp, tupO [.int i tk, .str ⟨#[d]⟩ u]) :: ([(L, nsO _), (e, enumO it ((i + 1 : Nat) : Int)), (it, strIterO x t (i + 1))] ++ (tp2, tupO [.int (i : Int) tk, .str (strOf [d]) u]) :: own)) _ := Hf.perm S7 (by walk_at "perm")
    have e1 : ∀ R, iterE i false (d :: R) = ((i : Int), [d]) :: iterE (i + 1) false R := fun R => if_neg hd
    rw [e1]
    refine ⟨_, tp2, _, _, rfl, S8.tail, genOK_iff.mpr fun A c own s hA B S => ?_⟩
    show SegX (model prog w) A code (k (.send .none)) fs s _
    refine hk _ _ _ ?_
    refine s_again _ _ _ _ _ _ _ _ (by rw [<- hcode]; rfl) ?_
    refine ih (i + 1) false A c own _ _ (by omega) hA S ?_ (fun z => by cases z)
    show (if _ then _ else if _ then _ else m _) = _
    rw [if_neg (by decide), if_neg (by decide)]; exact hm
end

end
section
section
variable {prog : Program} {w : World} {A : Around} {E : Value -> Shared -> Prop} {c : Cx} {g : Heap} {own : Led} {s : Shared} {a : Addr} {gi : Nat}
theorem r_iterGen {Q : Value -> Shared -> Prop} (S : Hf c g own s) (ho : Has g own a (genOb gi)) (h : Q (.ref a) s) : wpAny (model prog w) A (pyIter (.ref a)) Q E s := by
 obtain ⟨o, hoo, nm, qn, hc, hd, hsl⟩ := ho.at S
 exact wpAny_pyIter_gen ⟨o, nm, qn, hoo, hc, hd, hsl⟩ h
end

end
section
section
variable {prog : Program} {w : World} {A : Around} {E : Value -> Shared -> Prop} {env : Env} {c : Cx} {g : Heap} {own : Led} {s : Shared} {a : Addr} {gi : Nat}
theorem for_loop {R : Result -> Shared -> Prop} {target : Expr} {it : Value} {body : List Stmt} (I : Nat -> Shared -> Prop)
  (turn : ∀ n s, I n s -> wpAny (model prog w) A (pyNext it) (fun r s₁ => match r with
   | none => R (.ok .next) s₁
   | some v => wpAny (model prog w) A (letOwnedTupleGo target it v) (fun _ s₂ => wpAny (model prog w) A (assign target env v) (fun _ s₃ => wpAny (model prog w) A (execs body env) (fun f s₄ => match f with
     | .next | .cont => ∃ m, m < n /\ I m s₄
     | .brk => R (.ok .next) s₄
     | .ret v => R (.ok (.ret v)) s₄) (fun _ _ => False) s₃) (fun _ _ => False) s₂) (fun _ _ => False) s₁) (fun _ _ => False) s)
  (n : Nat) (h : I n s) : codeAny (model prog w) A (.forLoop target it body [] env) R s := by
 refine codeAny_loop' rfl I (fun n s hI => ?_) n h
 show wpAny _ _ ((forTurn target it body [] env).onRaise (fun x => do noteFrame x env; theTreesLotGoes x)) _ _ s
 refine wpAny_noted ?_
 simp only [forTurn]
 refine wpAny_bind (wpAny_standAt (wpAny_bind (wpAny_onRaise (wpAny_mono (turn n s hI) (fun r s₁ h₁ => ?_) fun _ _ h' => h'.elim))))
 cases r with
 | none => exact wpAny_pure (.inr ⟨rfl, codeAny_block (wpAny_execs_nil h₁)⟩)
 | some v =>
  refine wpAny_bind (wpAny_mono h₁ (fun _ s₂ h₂ => ?_) fun _ _ h' => h'.elim)
  refine wpAny_bind (wpAny_mono h₂ (fun _ s₃ h₃ => wpAny_bind (wpAny_mono h₃ (fun f s₄ h₄ => ?_) fun _ _ h' => h'.elim)) fun _ _ h' => h'.elim)
  cases f with
  | next => exact wpAny_pure (.inl ⟨rfl, h₄⟩)
  | cont => exact wpAny_pure (.inl ⟨rfl, h₄⟩)
  | brk => exact wpAny_pure h₄
  | ret v => exact wpAny_pure h₄
theorem r_letGoGen {target : Expr} {v : Value} {Q : Unit -> Shared -> Prop} (S : Hf c g own s) (ho : Has g own a (genOb gi)) (h : Q () s) : wpAny (model prog w) A (letOwnedTupleGo target (.ref a) v) Q E s := by
 obtain ⟨o, hoo, nm, qn, hc, hd, hsl⟩ := ho.at S
 unfold letOwnedTupleGo
 cases target with
 | Tuple =>
  cases v with
  | ref b =>
   refine wpAny_bind (wpAny_load hoo ?_)
   rw [hc, hd]
   exact wpAny_pure h
  | _ => exact wpAny_pure h
 | List =>
  cases v with
  | ref b =>
   refine wpAny_bind (wpAny_load hoo ?_)
   rw [hc, hd]
   exact wpAny_pure h
  | _ => exact wpAny_pure h
 | _ => exact wpAny_pure h
end

end
section
section
variable {prog : Program} {w : World} {A : Around} {E : Value -> Shared -> Prop} {env : Env} {s : Shared} {x y : Str} {t u : Tok}
theorem r_notInChar {d : Nat} {Q : Value -> Shared -> Prop} (hy : y = chS d) (h : Q (.bool (!decide (d ∈ x.cps.toList))) s) : wpAny (model prog w) A (compareOp .NotIn (.str y u) (.str x t)) Q E s := by
 subst hy
 refine PyProof.Rows.notIn_str ?_
 rw [contains_char]; exact h
theorem r_sliceSS {e1 e2 : Expr} {p : Pos} {Q : Value -> Shared -> Prop} (h : wpAny (model prog w) A (eval e1 env) (fun l s1 => wpAny (model prog w) A (eval e2 env) (fun u s2 => Q (.ref s2.heap.objs.size) { s2 with heap := s2.heap.push { cls := .type "slice", data := .fields #[l, u, .none] } }) E s1) E s) :
  wpAny (model prog w) A (eval (.Slice (some e1) (some e2) none p) env) Q E s := by
 refine wpAny_Slice ?_
 rw [evalPart_some]
 refine wpAny_mono h (fun l s1 h1 => ?_) fun _ _ z => z
 rw [evalPart_some]
 refine wpAny_mono h1 (fun u s2 h2 => ?_) fun _ _ z => z
 rw [evalPart_none]
 exact wpAny_pure h2
theorem r_sliceSN {e1 : Expr} {p : Pos} {Q : Value -> Shared -> Prop} (h : wpAny (model prog w) A (eval e1 env) (fun l s1 => Q (.ref s1.heap.objs.size) { s1 with heap := s1.heap.push { cls := .type "slice", data := .fields #[l, .none, .none] } }) E s) :
  wpAny (model prog w) A (eval (.Slice (some e1) none none p) env) Q E s := by
 refine wpAny_Slice ?_
 rw [evalPart_some]
 refine wpAny_mono h (fun l s1 h1 => ?_) fun _ _ z => z
 rw [evalPart_none]
 exact wpAny_pure (wpAny_pure h1)
theorem sum_le_len : ∀ (l : List Nat) (k : Nat), (∀ x ∈ l, x <= k) -> l.sum <= l.length * k
 | [], _, _ => by simp
 | x :: r, k, h => by
  have h1 := h x List.mem_cons_self
  have h2 := sum_le_len r k fun y hy => h y (List.mem_cons_of_mem _ hy)
  rw [List.sum_cons, List.length_cons, Nat.succ_mul]; omega
theorem joinOk_of {xs : List Str} (hl : xs.length <= 1002) (hp : ∀ p ∈ xs, p.length <= 1000) : JoinOk (Str.ofString "") xs = true := by
 unfold JoinOk
 rw [StrLaws.joinTotal]
 have := sum_le_len (xs.map (·.length)) 1000 (fun y hy => by obtain ⟨z, hz, rfl⟩ := List.mem_map.mp hy; exact hp z hz)
 rw [List.length_map] at this
 have e : (Str.ofString "").length = 0 := by decide
 rw [e, Nat.mul_zero, Nat.add_zero, Builtin.Str.tooLong, sizeLine_eq]
 simp only [Bool.not_eq_true', decide_eq_false_iff_not]
 omega
noncomputable def stripStep (x : Str) (st : Int × Option Int × List Str) (y : Int × List Nat) : Int × Option Int × List Str :=
 if y.2 = [34] then (match st.2.1 with
  | none => (st.1, some y.1, st.2.2)
  | some o => (y.1 + 1, none, if st.1 = o then st.2.2 else st.2.2 ++ [Txt.slice x (some st.1) (some o)]))
 else st
noncomputable def stripZ (x : Str) : Int × Option Int × List Str := (iterE 0 false x.cps.toList).foldl (stripStep x) (0, none, [])
noncomputable def stripT (x : Str) : Str :=
 if 34 ∈ x.cps.toList then Txt.join (Str.ofString "") ((stripZ x).2.2 ++ (if (stripZ x).1 < (x.length : Int) then [Txt.slice x (some (stripZ x).1) none] else [])) else x
theorem iterE_len : ∀ (i : Nat) (b : Bool) (l : List Nat), (iterE i b l).length <= l.length + 1
 | _, true, [] => Nat.le_refl _
 | _, false, [] => Nat.zero_le _
 | i, true, d :: r => by
  rw [iterE_t, List.length_cons, List.length_cons]
  have := iterE_len (i + 1) false r; omega
 | i, false, d :: r => by
  rw [iterE_f]
  split
  ·have := iterE_len (i + 1) true r; simp only [List.length_cons]; omega
  ·have := iterE_len (i + 1) false r; simp only [List.length_cons]; omega
end

end
section
inductive PyData where
 | none
 | bool (b : Bool)
 | int (i : Int)
 | str (s : Str)
 | list (xs : List PyData)
 | tuple (xs : List PyData)
 | dict (kvs : List (PyData × PyData))
 | obj (a : Addr)
 | lex (dx p rl : Addr) (ln : Int) (ps : List Str) (cs : List Nat)
 | tab
mutual
inductive Rd (prog : Program) (w : World) (g : Heap) : Value -> PyData -> Prop
 | none : Rd prog w g .none .none
 | bool (b : Bool) : Rd prog w g (.bool b) (.bool b)
 | int (i : Int) (t : Tok) : Rd prog w g (.int i t) (.int i)
 | str (x : Str) (t : Tok) : Rd prog w g (.str x t) (.str x)
 | list {a : Addr} {n : Nat} {vs : List Value} {xs : List PyData} : g.get? a = some { cls := .type "list", data := .seq vs.toArray n } -> RdAll prog w g vs xs -> Rd prog w g (.ref a) (.list xs)
 | tuple {a : Addr} {vs : List Value} {xs : List PyData} : g.IsTuple a vs.toArray -> RdAll prog w g vs xs -> Rd prog w g (.ref a) (.tuple xs)
 | dict {a : Addr} {o : Obj} {kvs : List (Str × Value)} {xs : List (PyData × PyData)} : (a == sysModules) = false -> g.get? a = some o -> o.IsDictOf (strKind prog w) kvs -> RdKv prog w g kvs xs -> Rd prog w g (.ref a) (.dict xs)
 | obj (a : Addr) : Rd prog w g (.ref a) (.obj a)
inductive RdAll (prog : Program) (w : World) (g : Heap) : List Value -> List PyData -> Prop
 | nil : RdAll prog w g [] []
 | cons {v : Value} {d : PyData} {vs : List Value} {ds : List PyData} : Rd prog w g v d -> RdAll prog w g vs ds -> RdAll prog w g (v :: vs) (d :: ds)
inductive RdKv (prog : Program) (w : World) (g : Heap) : List (Str × Value) -> List (PyData × PyData) -> Prop
 | nil : RdKv prog w g [] []
 | cons {k : Str} {v : Value} {d : PyData} {kvs : List (Str × Value)} {xs : List (PyData × PyData)} : Rd prog w g v d -> RdKv prog w g kvs xs -> RdKv prog w g ((k, v) :: kvs) ((.str k, d) :: xs)
end
inductive AV where
 | d (x : PyData)
 | ref (a : Addr)
noncomputable abbrev AM := List (Str × AV)
noncomputable abbrev OwnL := List (Addr × PyData)
structure Frm where
 env : Env
 oc : List (Str × Addr)
section
variable {prog : Program} {w : World} {g g' : Heap} {v : Value} {d : PyData} {vs : List Value} {ds : List PyData}
theorem Rd.up (k : ∀ b o, g.get? b = some o -> g'.get? b = some o) {v d} (h : Rd prog w g v d) : Rd prog w g' v d :=
 Rd.rec (motive_1 := fun v d _ => Rd prog w g' v d) (motive_2 := fun vs ds _ => RdAll prog w g' vs ds) (motive_3 := fun kvs xs _ => RdKv prog w g' kvs xs) .none (fun b => .bool b) (fun i t => .int i t) (fun x t => .str x t) (fun e _ ih => .list (k _ _ e) ih) (fun e _ ih => .tuple (e.at fun o => k _ o) ih) (fun l e i _ ih => .dict l (k _ _ e) i ih) (fun a => .obj a) .nil (fun _ _ a b => .cons a b) .nil (fun _ _ a b => .cons a b) h
theorem RdAll.up (k : ∀ b o, g.get? b = some o -> g'.get? b = some o) {vs ds} (h : RdAll prog w g vs ds) : RdAll prog w g' vs ds :=
 RdAll.rec (motive_1 := fun v d _ => Rd prog w g' v d) (motive_2 := fun vs ds _ => RdAll prog w g' vs ds) (motive_3 := fun kvs xs _ => RdKv prog w g' kvs xs) .none (fun b => .bool b) (fun i t => .int i t) (fun x t => .str x t) (fun e _ ih => .list (k _ _ e) ih) (fun e _ ih => .tuple (e.at fun o => k _ o) ih) (fun l e i _ ih => .dict l (k _ _ e) i ih) (fun a => .obj a) .nil (fun _ _ a b => .cons a b) .nil (fun _ _ a b => .cons a b) h
theorem RdKv.up (k : ∀ b o, g.get? b = some o -> g'.get? b = some o) {kvs xs} (h : RdKv prog w g kvs xs) : RdKv prog w g' kvs xs :=
 RdKv.rec (motive_1 := fun v d _ => Rd prog w g' v d) (motive_2 := fun vs ds _ => RdAll prog w g' vs ds) (motive_3 := fun kvs xs _ => RdKv prog w g' kvs xs) .none (fun b => .bool b) (fun i t => .int i t) (fun x t => .str x t) (fun e _ ih => .list (k _ _ e) ih) (fun e _ ih => .tuple (e.at fun o => k _ o) ih) (fun l e i _ ih => .dict l (k _ _ e) i ih) (fun a => .obj a) .nil (fun _ _ a b => .cons a b) .nil (fun _ _ a b => .cons a b) h
theorem Rd.onInt {P : Value -> Prop} {i : Int} (r : Rd prog w g v (.int i)) (h : ∀ t, P (.int i t)) : P v := by cases r; exact h _
theorem Rd.onStr {P : Value -> Prop} {x : Str} (r : Rd prog w g v (.str x)) (h : ∀ t, P (.str x t)) : P v := by cases r; exact h _
theorem Rd.onBool {P : Value -> Prop} {b : Bool} (r : Rd prog w g v (.bool b)) (h : P (.bool b)) : P v := by cases r; exact h
theorem Rd.onNone {P : Value -> Prop} (r : Rd prog w g v .none) (h : P .none) : P v := by cases r; exact h
theorem Rd.onObj {P : Value -> Prop} {a : Addr} (r : Rd prog w g v (.obj a)) (h : P (.ref a)) : P v := by cases r; exact h
theorem Rd.onList {P : Value -> Prop} {xs : List PyData} (r : Rd prog w g v (.list xs)) (h : ∀ a n vs, g.get? a = some { cls := .type "list", data := .seq vs.toArray n } -> RdAll prog w g vs xs -> P (.ref a)) : P v := by cases r with | list e k => exact h _ _ _ e k
theorem Rd.onTuple {P : Value -> Prop} {xs : List PyData} (r : Rd prog w g v (.tuple xs)) (h : ∀ a vs, g.IsTuple a vs.toArray -> RdAll prog w g vs xs -> P (.ref a)) : P v := by cases r with | tuple e k => exact h _ _ e k
theorem Rd.onDict {P : Value -> Prop} {xs : List (PyData × PyData)} (r : Rd prog w g v (.dict xs)) (h : ∀ a o kvs, (a == sysModules) = false -> g.get? a = some o -> o.IsDictOf (strKind prog w) kvs -> RdKv prog w g kvs xs -> P (.ref a)) : P v := by cases r with | dict l e d k => exact h _ _ _ l e d k
theorem RdAll.onNil {P : List Value -> Prop} (r : RdAll prog w g vs []) (h : P []) : P vs := by cases r; exact h
theorem RdAll.onCons {P : List Value -> Prop} (r : RdAll prog w g vs (d :: ds)) (h : ∀ v vs, Rd prog w g v d -> RdAll prog w g vs ds -> P (v :: vs)) : P vs := by cases r with | cons a b => exact h _ _ a b
theorem RdAll.onOne {P : List Value -> Prop} (r : RdAll prog w g vs [d]) (h : ∀ v, Rd prog w g v d -> P [v]) : P vs := r.onCons fun v _ a b => b.onNil (P := fun us => P (v :: us)) (h v a)
theorem RdKv.len {kvs : List (Str × Value)} {xs : List (PyData × PyData)} (h : RdKv prog w g kvs xs) : kvs.length = xs.length := by
 induction xs generalizing kvs with
 | nil => cases h; rfl
 | cons d ds ih => cases h with | cons a b => rw [List.length_cons, List.length_cons, ih b]
theorem RdAll.len (h : RdAll prog w g vs ds) : vs.length = ds.length := by
 induction ds generalizing vs with
 | nil => cases h; rfl
 | cons d ds ih => cases h with | cons a b => rw [List.length_cons, List.length_cons, ih b]
theorem RdAll.app {us : List Value} {es : List PyData} (h : RdAll prog w g vs ds) (h' : RdAll prog w g us es) : RdAll prog w g (vs ++ us) (ds ++ es) := by
 induction ds generalizing vs with
 | nil => cases h; exact h'
 | cons d ds ih => cases h with | cons a b => exact .cons a (ih b)
theorem RdAll.get {i : Nat} (h : RdAll prog w g vs ds) (hd : ds[i]? = some d) : ∃ v, vs[i]? = some v /\ Rd prog w g v d := by
 induction ds generalizing vs i with
 | nil => cases hd
 | cons e ds ih =>
  cases h with
  | cons a b =>
   cases i with
   | zero => cases hd; exact ⟨_, rfl, a⟩
   | succ i => exact let ⟨u, h1, h2⟩ := ih b hd; ⟨u, h1, h2⟩
theorem RdAll.drop (h : RdAll prog w g vs ds) : ∀ i, RdAll prog w g (vs.drop i) (ds.drop i) := by
 induction ds generalizing vs with
 | nil => cases h; intro i; rw [List.drop_nil, List.drop_nil]; exact .nil
 | cons d ds ih =>
  cases h with
  | cons a b =>
   intro i
   cases i with
   | zero => exact .cons a b
   | succ i => exact ih b i
theorem RdAll.take (h : RdAll prog w g vs ds) : ∀ i, RdAll prog w g (vs.take i) (ds.take i) := by
 induction ds generalizing vs with
 | nil => cases h; intro i; rw [List.take_nil, List.take_nil]; exact .nil
 | cons d ds ih =>
  cases h with
  | cons a b =>
   intro i
   cases i with
   | zero => exact .nil
   | succ i => exact .cons a (ih b i)
end
noncomputable def AVok (prog : Program) (w : World) (g : Heap) (v : Value) : AV -> Prop
 | .d x => Rd prog w g v x
 | .ref a => v = .ref a
noncomputable def ownP (prog : Program) (w : World) (g : Heap) : PyData -> OP
 | .list xs => fun o => ∃ vs, listO vs o /\ RdAll prog w g vs xs
 | .dict xs => fun o => ∃ kvs, o.IsDictOf (strKind prog w) kvs /\ RdKv prog w g kvs xs
 | .tab => tabP g
 | _ => fun _ => False
noncomputable def ownE (prog : Program) (w : World) (g : Heap) (y : Addr × PyData) : Led :=
 match y.2 with
 | .lex dx p rl ln ps cs => [(dx, fun o => ∃ mx st, insO mx 4 o /\ lexM mx ln (.ref st) p /\ LexF prog w g y.1 dx st rl), (p, fun o => ∃ vs, listO vs o /\ RdAll prog w g vs (ps.map .str)), (rl, fun o => ∃ vs, listO vs o /\ StrsAre vs (cs.map chS))]
 | _ => [(y.1, ownP prog w g y.2)]
noncomputable def frmLed (F : Frm) (ml mc : Str -> Option Value) : Led := (F.env.locals, nsO ml) :: F.oc.map fun y => (y.2, cellO (mc y.1))
noncomputable def ownLed (prog : Program) (w : World) (g : Heap) (σ : OwnL) : Led := σ.flatMap (ownE prog w g)
noncomputable def VarIs (F : Frm) (g : Heap) (rest : Led) (ml mc : Str -> Option Value) (x : Str) (v : Value) : Prop :=
 (F.env.kindOf x = some .local /\ ml x = some v) \/ ((F.env.kindOf x = some .cell \/ F.env.kindOf x = some .free) /\ ∃ a, F.env.cells.lookup x = some a /\ (((x, a) ∈ F.oc /\ mc x = some v) \/ Has g rest a (cellO (some v))))
structure RL where
 il : Led
 kp : Led
noncomputable def St (prog : Program) (w : World) (c : Cx) (g : Heap) (F : Frm) (m : AM) (σ : OwnL) (rest : RL) (s : Shared) : Prop :=
 ∃ ml mc, Hf c g (frmLed F ml mc ++ (ownLed prog w g σ ++ (rest.il ++ rest.kp))) s /\ ∀ x a, m.lookup x = some a -> ∃ v, AVok prog w g v a /\ VarIs F g rest.kp ml mc x v
structure Wle (c : Cx) (g : Heap) (c' : Cx) (g' : Heap) : Prop where
 os : c'.os = c.os
 gs : ∃ x, c'.gs = c.gs ++ x /\ AllBare x
 up : ∀ b o, g.get? b = some o -> g'.get? b = some o
structure Sc extends Scope where
 own : List Str
structure FrOk (sc : Sc) (F : Frm) : Prop where
 scope : F.env.scope = sc.toScope
 fn : sc.kind = .function
 gl : F.env.globals = mainGlobals
 bi : F.env.builtins = builtinsNs
 oc : ∀ y ∈ F.oc, F.env.cells.lookup y.1 = some y.2
 nd : (F.oc.map (·.1)).Nodup
 ow : ∀ x ∈ sc.own, ∃ b, (x, b) ∈ F.oc
theorem Wle.rfl {c : Cx} {g : Heap} : Wle c g c g := ⟨Eq.refl _, ⟨#[], by simp, fun _ h => by simp at h⟩, fun _ _ h => h⟩
theorem Wle.grow {c : Cx} {g g' : Heap} (k : ∀ b o, g.get? b = some o -> g'.get? b = some o) : Wle c g c g' := ⟨Eq.refl _, ⟨#[], by simp, fun _ h => by simp at h⟩, k⟩
theorem Wle.trans {c c' c'' : Cx} {g g' g'' : Heap} (a : Wle c g c' g') (b : Wle c' g' c'' g'') : Wle c g c'' g'' := by
 obtain ⟨x, e, hx⟩ := a.gs
 obtain ⟨y, e', hy⟩ := b.gs
 refine ⟨b.os.trans a.os, ⟨x ++ y, by rw [e', e, Array.append_assoc], fun z hz => ?_⟩, fun _ _ h => b.up _ _ (a.up _ _ h)⟩
 rcases Array.mem_append.mp hz with h | h
 ·exact hx z h
 ·exact hy z h
section
variable {prog : Program} {w : World} {c c' : Cx} {g g' : Heap} {F : Frm} {m m' : AM} {σ : OwnL} {rest : RL} {as kp : Led} {s s' : Shared} {v : Value} {a : AV} {x : Str} {ml mc : Str -> Option Value}
theorem AVok.up (k : ∀ b o, g.get? b = some o -> g'.get? b = some o) (h : AVok prog w g v a) : AVok prog w g' v a := by
 cases a with
 | d x => exact Rd.up k h
 | ref a => exact h
theorem VarIs.up (k : ∀ b o, g.get? b = some o -> g'.get? b = some o) (h : VarIs F g kp ml mc x v) : VarIs F g' kp ml mc x v :=
 h.imp id fun ⟨q, a, e, z⟩ => ⟨q, a, e, z.imp id fun y => y.imp id fun ⟨o, e1, e2⟩ => ⟨o, k _ _ e1, e2⟩⟩
theorem ownP.up (k : ∀ b o, g.get? b = some o -> g'.get? b = some o) {d : PyData} {o : Obj} (h : ownP prog w g d o) : ownP prog w g' d o := by
 cases d with
 | list xs => exact let ⟨vs, a, b⟩ := h; ⟨vs, a, RdAll.up k b⟩
 | dict xs => exact let ⟨kvs, a, b⟩ := h; ⟨kvs, a, RdKv.up k b⟩
 | tab => exact tabP.mono k h
 | _ => exact h.elim
noncomputable abbrev One (d : PyData) : Prop := ∀ (prog : Program) (w : World) (g : Heap) (a : Addr), ownE prog w g (a, d) = [(a, ownP prog w g d)]
theorem ownE_fst {y : Addr × PyData} : (ownE prog w g' y).map (·.1) = (ownE prog w g y).map (·.1) := by
 obtain ⟨a, d⟩ := y
 cases d <;> rfl
theorem ownE_up (k : ∀ b o, g.get? b = some o -> g'.get? b = some o) {y : Addr × PyData} {q : Addr × OP} (hq : q ∈ ownE prog w g' y) : ∃ P, (q.1, P) ∈ ownE prog w g y /\ ∀ o, P o -> q.2 o := by
 obtain ⟨a, d⟩ := y
 have one : One d -> ∃ P, (q.1, P) ∈ ownE prog w g (a, d) /\ ∀ o, P o -> q.2 o := fun h => by
  rw [h] at hq
  rw [h]
  rw [List.mem_singleton] at hq
  subst hq
  exact ⟨_, List.mem_cons_self, fun _ z => ownP.up k z⟩
 cases d with
 | lex dx p rl ln ps cs =>
  simp only [ownE, List.mem_cons, List.not_mem_nil, or_false] at hq
  rcases hq with rfl | rfl | rfl
  ·exact ⟨_, List.mem_cons_self, fun o ⟨mx, st, h1, h2, h3⟩ => ⟨mx, st, h1, h2, h3.mono k⟩⟩
  ·exact ⟨_, List.mem_cons_of_mem _ List.mem_cons_self, fun o ⟨vs, h1, h2⟩ => ⟨vs, h1, RdAll.up k h2⟩⟩
  ·exact ⟨_, List.mem_cons_of_mem _ (List.mem_cons_of_mem _ List.mem_cons_self), fun o z => z⟩
 | _ => exact one fun _ _ _ _ => rfl
theorem Hf.weakenAll {o1 o2 : Led} (S : Hf c g o1 s) (hm : o2.map (·.1) = o1.map (·.1)) (h : ∀ p ∈ o2, ∃ P, (p.1, P) ∈ o1 /\ ∀ o, P o -> p.2 o) : Hf c g o2 s :=
 ⟨S.keep, fun p hp => let ⟨P, h1, h2⟩ := h p hp; let ⟨⟨o, e, q⟩, n⟩ := S.led _ h1; ⟨⟨o, e, h2 o q⟩, n⟩, by rw [hm]; exact S.nodup, S.gsEq, S.osEq⟩
theorem ownLed_up (k : ∀ b o, g.get? b = some o -> g'.get? b = some o) {fl : Led} (S : Hf c g' (fl ++ (ownLed prog w g σ ++ kp)) s) : Hf c g' (fl ++ (ownLed prog w g' σ ++ kp)) s := by
 refine S.weakenAll (by
  have e : ∀ σ : OwnL, (ownLed prog w g' σ).map (·.1) = (ownLed prog w g σ).map (·.1) := fun σ => by
   induction σ with
   | nil => rfl
   | cons y r ih => simp only [ownLed, List.flatMap_cons, List.map_append] at ih ⊢; rw [ih, ownE_fst]
  rw [List.map_append, List.map_append, List.map_append, List.map_append, e]) fun p hp => ?_
 rcases List.mem_append.mp hp with hp | hp
 ·exact ⟨_, List.mem_append_left _ hp, fun _ z => z⟩
 ·rcases List.mem_append.mp hp with hp | hp
  ·obtain ⟨y, hy, hp⟩ := List.mem_flatMap.mp hp
   obtain ⟨P, h1, h2⟩ := ownE_up k hp
   exact ⟨P, List.mem_append_right _ (List.mem_append_left _ (List.mem_flatMap.mpr ⟨y, hy, h1⟩)), h2⟩
  ·exact ⟨_, List.mem_append_right _ (List.mem_append_right _ hp), fun _ z => z⟩
theorem St.weak (S : St prog w c g F m σ rest s) (h : ∀ x a, m'.lookup x = some a -> m.lookup x = some a) : St prog w c g F m' σ rest s :=
 let ⟨ml, mc, S, hm⟩ := S; ⟨ml, mc, S, fun x a e => hm x a (h x a e)⟩
theorem St.new (S : St prog w c g F m σ rest s) (H : ∀ L, Hf c g L s -> Hf c' g (as ++ L) s') : ∃ g', (∀ b o, g.get? b = some o -> g'.get? b = some o) /\ (∀ p ∈ as, ∃ o, g'.get? p.1 = some o /\ p.2 o) /\ St prog w c' g' F m σ rest s' := by
 obtain ⟨ml, mc, S, hm⟩ := S
 obtain ⟨g', k, ha, S'⟩ := (H _ S).freeze (List.Perm.refl _)
 exact ⟨g', k, ha, ml, mc, ownLed_up k S', fun x a e => let ⟨v, h1, h2⟩ := hm x a e; ⟨v, h1.up k, h2.up k⟩⟩
theorem St.like (S : St prog w c g F m σ rest s) (H : ∀ L, Hf c g L s -> Hf c' g L s') : St prog w c' g F m σ rest s' :=
 let ⟨ml, mc, S, hm⟩ := S; ⟨ml, mc, H _ S, hm⟩
theorem St.base (S : St prog w c g F m σ rest s) : ∃ L, Hf c g L s := let ⟨_, _, S, _⟩ := S; ⟨_, S⟩
theorem St.tok (S : St prog w c g F m σ rest s) (t : Nat) : St prog w c g F m σ rest { s with toks := t } := S.like fun _ S => S.tok t
end
noncomputable def Ev (prog : Program) (w : World) (n : Nat) (sc : Sc) (m : AM) (σ : OwnL) (e : Expr) (a : AV) : Prop :=
 ∀ (A : Around) (c : Cx) (g : Heap) (F : Frm) (rest : RL) (s : Shared) (E : Value -> Shared -> Prop) (Q : Value -> Shared -> Prop), AOk n A -> Base w g -> FrOk sc F -> St prog w c g F m σ rest s ->
  (∀ c' g' v s', Wle c g c' g' -> AVok prog w g' v a -> St prog w c' g' F m σ rest s' -> Q v s') -> wpAny (model prog w) A (eval e F.env) Q E s
noncomputable def EvL (prog : Program) (w : World) (n : Nat) (sc : Sc) (m : AM) (σ : OwnL) (es : List Expr) (ds : List PyData) : Prop :=
 ∀ (A : Around) (c : Cx) (g : Heap) (F : Frm) (rest : RL) (s : Shared) (E : Value -> Shared -> Prop) (pos : Pos) (Q : List Value -> Shared -> Prop), AOk n A -> Base w g -> FrOk sc F -> St prog w c g F m σ rest s ->
  (∀ c' g' vs s', Wle c g c' g' -> RdAll prog w g' vs ds -> St prog w c' g' F m σ rest s' -> Q vs s') -> wpAny (model prog w) A (spliced (backTo pos (starEach es F.env))) Q E s
section
variable {prog : Program} {w : World} {n : Nat} {sc : Sc} {m : AM} {σ : OwnL} {e : Expr} {es : List Expr} {a : AV} {d : PyData} {ds : List PyData} {i : Int} {x y : Str} {pos : Pos}
theorem ev_int {k} : Ev prog w n sc m σ (.Constant (.int i) k pos) (.d (.int i)) := fun A c g F rest s E Q hA B hF S h =>
 wpAny_Constant_int (h c g _ _ .rfl (.int _ _) (S.tok _))
theorem ev_str {k} : Ev prog w n sc m σ (.Constant (.str x) k pos) (.d (.str x)) := fun A c g F rest s E Q hA B hF S h =>
 Constant_str (h c g _ _ .rfl (.str _ _) (S.tok _))
theorem ev_none {k} : Ev prog w n sc m σ (.Constant .none k pos) (.d .none) := fun A c g F rest s E Q hA B hF S h =>
 wpAny_Constant_none (h c g _ _ .rfl .none S)
theorem ev_bool {k} {b : Bool} : Ev prog w n sc m σ (.Constant (.bool b) k pos) (.d (.bool b)) := fun A c g F rest s E Q hA B hF S h =>
 Constant_bool (h c g _ _ .rfl (.bool _) S)
theorem ev_name (hm : m.lookup x = some a) (hd : autoParam ((x == ("__debug__" : Str)) = false) auD) (hn : autoParam ((x == ("__classdict__" : Str)) = false) auD) : Ev prog w n sc m σ (.Name x pos) a := fun A c g F rest s E Q hA B hF S h => by
 obtain ⟨ml, mc, S, hv⟩ := id S
 obtain ⟨v, h1, h2⟩ := hv x a hm
 have hk : F.env.scope.kind = .function := by rw [hF.scope]; exact hF.fn
 rcases h2 with ⟨k, e⟩ | ⟨k, b, e, z⟩
 ·exact wpAny_Name (wpAny_loadName_local hk k (Sf.ns S) e (h c g _ _ .rfl h1 ⟨ml, mc, S, hv⟩)) hd
 ·have hc : ∃ o, s.heap.get? b = some o /\ cellO (some v) o := by
   rcases z with ⟨z1, z2⟩ | z
   ·rw [<- z2]
    exact S.at (List.mem_append_left _ (List.mem_cons_of_mem _ (List.mem_map_of_mem (f := fun y : Str × Addr => (y.2, cellO (mc y.1))) z1)))
   ·exact Has.at (z.imp (fun q => List.mem_append_right _ (List.mem_append_right _ (List.mem_append_right _ q))) id) S
  rcases k with k | k
  ·exact wpAny_Name (wpAny_loadName_cell hk k e hc (h c g _ _ .rfl h1 ⟨ml, mc, S, hv⟩)) hd
  ·exact wpAny_Name (wpAny_loadName_free hk k e hc (h c g _ _ .rfl h1 ⟨ml, mc, S, hv⟩) hn) hd
theorem evl_nil : EvL prog w n sc m σ [] [] := fun A c g F rest s E pos Q hA B hF S h => spliced_nil (h c g _ _ .rfl .nil S)
theorem evl_cons (h1 : Ev prog w n sc m σ e (.d d)) (h2 : EvL prog w n sc m σ es ds) (he : autoParam (∀ env, starEach (e :: es) env = (false, eval e env) :: starEach es env) auI1) : EvL prog w n sc m σ (e :: es) (d :: ds) :=
 fun A c g F rest s E pos Q hA B hF S h => by
  rw [he]
  refine spliced_cons (h1 A c g F rest s E _ hA B hF S fun c1 g1 v s1 w1 r1 S1 => ?_)
  exact h2 A c1 g1 F rest s1 E pos _ hA (B.keeps w1.up) hF S1 fun c2 g2 vs s2 w2 r2 S2 => h c2 g2 _ s2 (w1.trans w2) (.cons (Rd.up w2.up r1) r2) S2
end

end
section
noncomputable def Op2 (prog : Program) (w : World) (n : Nat) (σ : OwnL) (f : Value -> Value -> Sem Value) (a b r : AV) : Prop :=
 ∀ (A : Around) (c : Cx) (g : Heap) (F : Frm) (m : AM) (rest : RL) (s : Shared) (E : Value -> Shared -> Prop) (Q : Value -> Shared -> Prop) (v1 v2 : Value), AOk n A -> Base w g -> St prog w c g F m σ rest s ->
  AVok prog w g v1 a -> AVok prog w g v2 b -> (∀ c' g' v s', Wle c g c' g' -> AVok prog w g' v r -> St prog w c' g' F m σ rest s' -> Q v s') -> wpAny (model prog w) A (f v1 v2) Q E s
noncomputable def EvT (prog : Program) (w : World) (n : Nat) (sc : Sc) (m : AM) (σ : OwnL) (e : Expr) (b : Bool) : Prop :=
 ∀ (A : Around) (c : Cx) (g : Heap) (F : Frm) (rest : RL) (s : Shared) (E : Value -> Shared -> Prop) (Q : Bool -> Shared -> Prop), AOk n A -> Base w g -> FrOk sc F -> St prog w c g F m σ rest s ->
  (∀ c' g' s', Wle c g c' g' -> St prog w c' g' F m σ rest s' -> Q b s') -> wpAny (model prog w) A (isTrue e F.env (eval e F.env)) Q E s
noncomputable def TrV (prog : Program) (w : World) (a : AV) (b : Bool) : Prop :=
 ∀ (A : Around) (c : Cx) (g : Heap) (F : Frm) (m : AM) (σ : OwnL) (rest : RL) (s : Shared) (E : Value -> Shared -> Prop) (Q : Bool -> Shared -> Prop) (v : Value), St prog w c g F m σ rest s -> AVok prog w g v a ->
  (∀ s', St prog w c g F m σ rest s' -> Q b s') -> wpAny (model prog w) A (truthy v) Q E s
section
variable {prog : Program} {w : World} {n : Nat} {sc : Sc} {m : AM} {σ : OwnL} {e e1 e2 e3 : Expr} {a a1 a2 r : AV} {d d1 d2 : PyData} {i j : Int} {x y : Str} {pos : Pos} {op : Operator} {cop : CmpOp} {b : Bool}
theorem ev_bin (h1 : Ev prog w n sc m σ e1 a1) (h2 : Ev prog w n sc m σ e2 a2) (h : Op2 prog w n σ (binaryOp op) a1 a2 r) : Ev prog w n sc m σ (.BinOp e1 op e2 pos) r := fun A c g F rest s E Q hA B hF S k =>
 wpAny_BinOp (h1 A c g F rest s E _ hA B hF S fun c1 g1 v1 s1 w1 r1 S1 => h2 A c1 g1 F rest s1 E _ hA (B.keeps w1.up) hF S1 fun c2 g2 v2 s2 w2 r2 S2 =>
  h A c2 g2 F m rest s2 E Q v1 v2 hA (B.keeps (w1.trans w2).up) S2 (r1.up w2.up) r2 fun c3 g3 v s3 w3 r3 S3 => k c3 g3 v s3 ((w1.trans w2).trans w3) r3 S3)
theorem ev_cmp (h1 : Ev prog w n sc m σ e1 a1) (h2 : Ev prog w n sc m σ e2 a2) (h : Op2 prog w n σ (compareOp cop) a1 a2 r) (hb : autoParam (behindInMarks cop e2 = false) auR) : Ev prog w n sc m σ (.Compare e1 [cop] [e2] pos) r := fun A c g F rest s E Q hA B hF S k =>
 wpAny_Compare1 (h1 A c g F rest s E _ hA B hF S fun c1 g1 v1 s1 w1 r1 S1 => h2 A c1 g1 F rest s1 E _ hA (B.keeps w1.up) hF S1 fun c2 g2 v2 s2 w2 r2 S2 =>
  h A c2 g2 F m rest s2 E Q v1 v2 hA (B.keeps (w1.trans w2).up) S2 (r1.up w2.up) r2 fun c3 g3 v s3 w3 r3 S3 => k c3 g3 v s3 ((w1.trans w2).trans w3) r3 S3) hb
theorem evt_cmp (h1 : Ev prog w n sc m σ e1 a1) (h2 : Ev prog w n sc m σ e2 a2) (h : Op2 prog w n σ (compareOp cop) a1 a2 (.d (.bool b))) (hb : autoParam (behindInMarks cop e2 = false) auR) : EvT prog w n sc m σ (.Compare e1 [cop] [e2] pos) b := fun A c g F rest s E Q hA B hF S k =>
 wpAny_isTrue_Compare1 (h1 A c g F rest s E _ hA B hF S fun c1 g1 v1 s1 w1 r1 S1 => h2 A c1 g1 F rest s1 E _ hA (B.keeps w1.up) hF S1 fun c2 g2 v2 s2 w2 r2 S2 =>
  h A c2 g2 F m rest s2 E _ v1 v2 hA (B.keeps (w1.trans w2).up) S2 (r1.up w2.up) r2 fun c3 g3 v s3 w3 r3 S3 => by apply r3.onBool; exact wpAny_truthy_bool (k c3 g3 s3 ((w1.trans w2).trans w3) S3)) hb
theorem evt_not (h : EvT prog w n sc m σ e b) : EvT prog w n sc m σ (.UnaryOp .Not e pos) (!b) := fun A c g F rest s E Q hA B hF S k =>
 isTrue_not (h A c g F rest s E _ hA B hF S fun c1 g1 s1 w1 S1 => k c1 g1 s1 w1 S1)
theorem evt_plain (h : Ev prog w n sc m σ e a) (ht : TrV prog w a b) (hp : autoParam (∀ env, isTrue e env (eval e env) = (do let v <- eval e env; standAt e.pos; holding [v] (truthy v))) auI1) : EvT prog w n sc m σ e b := fun A c g F rest s E Q hA B hF S k =>
 isTrue_plain (h A c g F rest s E _ hA B hF S fun c1 g1 v s1 w1 r1 S1 => ht A c1 g1 F m σ rest s1 E Q v S1 r1 fun s2 S2 => k c1 g1 s2 w1 S2) (hp _)
theorem ev_ifexp (h : EvT prog w n sc m σ e1 b) (h2 : b = true -> Ev prog w n sc m σ e2 a) (h3 : b = false -> Ev prog w n sc m σ e3 a) : Ev prog w n sc m σ (.IfExp e1 e2 e3 pos) a := fun A c g F rest s E Q hA B hF S k =>
 IfExp_ (h A c g F rest s E _ hA B hF S fun c1 g1 s1 w1 S1 => by
  have k' := fun c' g' v s' (w2 : Wle c1 g1 c' g') => k c' g' v s' (w1.trans w2)
  cases b with
  | true => exact ite_pos rfl (h2 rfl A c1 g1 F rest s1 E Q hA (B.keeps w1.up) hF S1 k')
  | false => exact ite_neg Bool.false_ne_true (h3 rfl A c1 g1 F rest s1 E Q hA (B.keeps w1.up) hF S1 k'))
theorem tr_bool : TrV prog w (.d (.bool b)) b := fun A c g F m σ rest s E Q v S r k => by apply r.onBool; exact wpAny_truthy_bool (k s S)
theorem ev_neg (h : Ev prog w n sc m σ e (.d (.int i))) : Ev prog w n sc m σ (.UnaryOp .USub e pos) (.d (.int (-i))) := fun A c g F rest s E Q hA B hF S k =>
 UnaryOp_ (h A c g F rest s E _ hA B hF S fun c1 g1 v s1 w1 r1 S1 => by apply r1.onInt; intro _; exact PyProof.Rows.neg_int (k c1 g1 _ _ w1 (.int _ _) (S1.tok _)))
theorem op_of (f : Value -> Value -> Sem Value) (h : ∀ (A : Around) (s : Shared) (E : Value -> Shared -> Prop) (Q : Value -> Shared -> Prop) (g : Heap) v1 v2, AOk n A -> Rd prog w g v1 d1 -> Rd prog w g v2 d2 -> (∀ v t, (∀ g, Rd prog w g v d) -> Q v { s with toks := t }) -> wpAny (model prog w) A (f v1 v2) Q E s) : Op2 prog w n σ f (.d d1) (.d d2) (.d d) :=
 fun A c g F m rest s E Q v1 v2 hA B S r1 r2 k => h A s E Q g v1 v2 hA r1 r2 fun v t hv => k c g v _ .rfl (hv g) (S.tok t)
theorem op_add : Op2 prog w n σ (binaryOp .Add) (.d (.int i)) (.d (.int j)) (.d (.int (i + j))) := op_of _ fun A s E Q g v1 v2 hA r1 r2 k => by apply r1.onInt; intro _; apply r2.onInt; intro _; exact PyProof.Rows.add_int (k _ _ fun _ => .int _ _)
theorem op_sub : Op2 prog w n σ (binaryOp .Sub) (.d (.int i)) (.d (.int j)) (.d (.int (i - j))) := op_of _ fun A s E Q g v1 v2 hA r1 r2 k => by apply r1.onInt; intro _; apply r2.onInt; intro _; exact PyProof.Rows.sub_int (k _ _ fun _ => .int _ _)
theorem op_mul (hm : IntMulOk i j) : Op2 prog w n σ (binaryOp .Mult) (.d (.int i)) (.d (.int j)) (.d (.int (i * j))) := op_of _ fun A s E Q g v1 v2 hA r1 r2 k => by apply r1.onInt; intro _; apply r2.onInt; intro _; exact PyProof.Rows.mul_int (k _ _ fun _ => .int _ _) hm
theorem op_fdiv (hj : j ≠ 0) (hp : Builtin.divisionGoesByPylong i j = false) : Op2 prog w n σ (binaryOp .FloorDiv) (.d (.int i)) (.d (.int j)) (.d (.int (i.fdiv j))) := op_of _ fun A s E Q g v1 v2 hA r1 r2 k => by apply r1.onInt; intro _; apply r2.onInt; intro _; exact PyProof.Rows.floordiv_int hj (k _ _ fun _ => .int _ _) (.inl hp)
theorem op_mod (hj : j ≠ 0) : Op2 prog w n σ (binaryOp .Mod) (.d (.int i)) (.d (.int j)) (.d (.int (i.fmod j))) := op_of _ fun A s E Q g v1 v2 hA r1 r2 k => by apply r1.onInt; intro _; apply r2.onInt; intro _; exact PyProof.Rows.mod_int hj (k _ _ fun _ => .int _ _)
theorem op_pow (h0 : 0 <= j) (hb : (Builtin.Int.intBits i : Int) * j <= 2 ^ 27) : Op2 prog w n σ (binaryOp .Pow) (.d (.int i)) (.d (.int j)) (.d (.int (i ^ j.toNat))) := op_of _ fun A s E Q g v1 v2 hA r1 r2 k => by apply r1.onInt; intro _; apply r2.onInt; intro _; exact PyProof.Rows.pow_int h0 hb (k _ _ fun _ => .int _ _)
theorem op_addS (hz : x.length + y.length <= sizeLine) : Op2 prog w n σ (binaryOp .Add) (.d (.str x)) (.d (.str y)) (.d (.str (x ++ y))) := op_of _ fun A s E Q g v1 v2 hA r1 r2 k => by apply r1.onStr; intro _; apply r2.onStr; intro _; exact PyProof.Rows.add_str (fun t' tk => k _ _ fun _ => .str _ _) hz
theorem op_iadd : Op2 prog w n σ (inplaceOp .Add) (.d (.int i)) (.d (.int j)) (.d (.int (i + j))) := op_of _ fun A s E Q g v1 v2 hA r1 r2 k => by apply r1.onInt; intro _; apply r2.onInt; intro _; exact PyProof.Rows.iadd_int (k _ _ fun _ => .int _ _)
theorem op_isub : Op2 prog w n σ (inplaceOp .Sub) (.d (.int i)) (.d (.int j)) (.d (.int (i - j))) := op_of _ fun A s E Q g v1 v2 hA r1 r2 k => by apply r1.onInt; intro _; apply r2.onInt; intro _; exact PyProof.Rows.isub_int (k _ _ fun _ => .int _ _)
theorem op_iaddS (hz : x.length + y.length <= sizeLine) : Op2 prog w n σ (inplaceOp .Add) (.d (.str x)) (.d (.str y)) (.d (.str (x ++ y))) := op_of _ fun A s E Q g v1 v2 hA r1 r2 k => by apply r1.onStr; intro _; apply r2.onStr; intro _; exact PyProof.Rows.iadd_str (fun t' tk => k _ _ fun _ => .str _ _) hz
theorem op_eqI : Op2 prog w n σ (compareOp .Eq) (.d (.int i)) (.d (.int j)) (.d (.bool (i == j))) := op_of _ fun A s E Q g v1 v2 hA r1 r2 k => by apply r1.onInt; intro _; apply r2.onInt; intro _; exact PyProof.Rows.eq_int (k _ s.toks fun _ => .bool _)
theorem op_neI : Op2 prog w n σ (compareOp .NotEq) (.d (.int i)) (.d (.int j)) (.d (.bool (i != j))) := op_of _ fun A s E Q g v1 v2 hA r1 r2 k => by apply r1.onInt; intro _; apply r2.onInt; intro _; exact PyProof.Rows.ne_int (k _ s.toks fun _ => .bool _)
theorem op_ltI : Op2 prog w n σ (compareOp .Lt) (.d (.int i)) (.d (.int j)) (.d (.bool (decide (i < j)))) := op_of _ fun A s E Q g v1 v2 hA r1 r2 k => by apply r1.onInt; intro _; apply r2.onInt; intro _; exact PyProof.Rows.lt_int (k _ s.toks fun _ => .bool _)
theorem op_gtI : Op2 prog w n σ (compareOp .Gt) (.d (.int i)) (.d (.int j)) (.d (.bool (decide (i > j)))) := op_of _ fun A s E Q g v1 v2 hA r1 r2 k => by apply r1.onInt; intro _; apply r2.onInt; intro _; exact PyProof.Rows.gt_int (k _ s.toks fun _ => .bool _)
theorem op_eqS : Op2 prog w n σ (compareOp .Eq) (.d (.str x)) (.d (.str y)) (.d (.bool (decide (x = y)))) := op_of _ fun A s E Q g v1 v2 hA r1 r2 k => by apply r1.onStr; intro _; apply r2.onStr; intro _; exact r_eqStr (k _ s.toks fun _ => .bool _)
theorem op_neS : Op2 prog w n σ (compareOp .NotEq) (.d (.str x)) (.d (.str y)) (.d (.bool (!decide (x = y)))) := op_of _ fun A s E Q g v1 v2 hA r1 r2 k => by apply r1.onStr; intro _; apply r2.onStr; intro _; exact r_neStr (k _ s.toks fun _ => .bool _)
end
noncomputable def kvGet : List (PyData × PyData) -> Str -> Option PyData
 | [], _ => none
 | (.str y, d) :: r, x => if y = x then some d else kvGet r x
 | _ :: r, x => kvGet r x
theorem kvGet_n {x : Str} : kvGet [] x = none := rfl
theorem kvGet_c {y x : Str} {d : PyData} {r : List (PyData × PyData)} : kvGet ((.str y, d) :: r) x = if y = x then some d else kvGet r x := rfl
inductive PSame : Nat -> PyData -> PyData -> Prop
 | int (u : Nat) (i : Int) : PSame u (.int i) (.int i)
 | str (u : Nat) (x : Str) : PSame u (.str x) (.str x)
 | bool (u : Nat) (b : Bool) : PSame u (.bool b) (.bool b)
 | list {u : Nat} {xs ys : List PyData} : xs.length = ys.length -> (∀ (k : Nat) (d e : PyData), xs[k]? = some d -> ys[k]? = some e -> PSame u d e) -> PSame (u + 1) (.list xs) (.list ys)
 | tuple {u : Nat} {xs ys : List PyData} : xs.length = ys.length -> (∀ (k : Nat) (d e : PyData), xs[k]? = some d -> ys[k]? = some e -> PSame u d e) -> PSame (u + 1) (.tuple xs) (.tuple ys)
inductive DSame : Nat -> PyData -> PyData -> Prop
 | plain {u : Nat} {d e : PyData} : PSame u d e -> DSame u d e
 | tuple {u : Nat} {xs ys : List PyData} : xs.length = ys.length -> (∀ (k : Nat) (d e : PyData), xs[k]? = some d -> ys[k]? = some e -> DSame u d e) -> DSame (u + 1) (.tuple xs) (.tuple ys)
 | dict {u : Nat} {xs ys : List (PyData × PyData)} : xs.length = ys.length -> (∀ x d, (PyData.str x, d) ∈ xs -> (kvGet ys x).isSome = true) -> (∀ x d e, (PyData.str x, d) ∈ xs -> kvGet ys x = some e -> DSame u d e) -> DSame (u + 1) (.dict xs) (.dict ys)
section
variable {prog : Program} {w : World} {g : Heap}
theorem RdKv.at {kvs : List (Str × Value)} {xs : List (PyData × PyData)} (h : RdKv prog w g kvs xs) {x : Str} {d : PyData} (hd : kvGet xs x = some d) : ∃ v, valueAt kvs x = some v /\ Rd prog w g v d := by
 induction xs generalizing kvs with
 | nil => cases hd
 | cons p r ih =>
  cases h with
  | @cons k v d' kvs _ a b =>
   rw [kvGet_c] at hd
   by_cases e : k = x
   ·rw [if_pos e] at hd; cases hd
    exact ⟨v, by simp [valueAt, List.find?_cons, e], a⟩
   ·rw [if_neg e] at hd
    obtain ⟨u, h1, h2⟩ := ih b hd
    exact ⟨u, by rw [<- h1]; simp [valueAt, List.find?_cons, e], h2⟩
theorem RdKv.none {kvs : List (Str × Value)} {xs : List (PyData × PyData)} (h : RdKv prog w g kvs xs) {x : Str} (hd : kvGet xs x = none) : valueAt kvs x = none := by
 induction xs generalizing kvs with
 | nil => cases h; rfl
 | cons p r ih =>
  cases h with
  | @cons k v d' kvs _ a b =>
   rw [kvGet_c] at hd
   by_cases e : k = x
   ·rw [if_pos e] at hd; cases hd
   ·rw [if_neg e] at hd
    rw [<- ih b hd]; simp [valueAt, List.find?_cons, e]
theorem RdKv.atIdx {kvs : List (Str × Value)} {xs : List (PyData × PyData)} (h : RdKv prog w g kvs xs) {i : Nat} {k : Str} {v : Value} (hi : i < (xs.map (·.2)).length) (hv : kvs[i]? = some (k, v)) : Rd prog w g v (xs.map (·.2))[i] := by
 induction xs generalizing kvs i with
 | nil => simp at hi
 | cons p r ih =>
  cases h with
  | cons a b =>
   cases i with
   | zero => cases hv; exact a
   | succ i => exact ih b (by simpa using hi) hv
theorem RdKv.mem {kvs : List (Str × Value)} {xs : List (PyData × PyData)} (h : RdKv prog w g kvs xs) {k : Str} {v : Value} (hm : (k, v) ∈ kvs) : ∃ d, (PyData.str k, d) ∈ xs /\ Rd prog w g v d := by
 induction xs generalizing kvs with
 | nil => cases h; cases hm
 | cons p r ih =>
  cases h with
  | cons a b =>
   rcases List.mem_cons.mp hm with e | hm
   ·cases e; exact ⟨_, List.mem_cons_self, a⟩
   ·obtain ⟨d, h1, h2⟩ := ih b hm; exact ⟨d, List.mem_cons_of_mem _ h1, h2⟩
theorem range_all (k : Nat) : (List.range k).all (fun _ => true) = true := by simp
theorem eqOf {A : Around} {s : Shared} {a b : Addr} (R : SeqAt.RcAt A s (.ref a) (.ref b) true) : SeqAt.EqAt A s (.ref a) (.ref b) true := by
 by_cases e : a = b
 ·subst e; exact SeqAt.EqAt.same _
 ·exact SeqAt.EqAt.of_refs e R
noncomputable def EqW (prog : Program) (w : World) (A : Around) (s : Shared) (v y : Value) : Prop := ∀ (E : Value -> Shared -> Prop) (Q : Bool -> Shared -> Prop), Q true s -> wpAny (model prog w) A (eqBool v y) Q E s
noncomputable def RcW (prog : Program) (w : World) (A : Around) (s : Shared) (v y : Value) : Prop := ∀ (E : Value -> Shared -> Prop) (Q : Value -> Shared -> Prop), Q (.bool true) s -> wpAny (model prog w) A (compareOp .Eq v y) Q E s
theorem eqOfW {A : Around} {s : Shared} {a b : Addr} (R : RcW prog w A s (.ref a) (.ref b)) : EqW prog w A s (.ref a) (.ref b) := fun E Q hq => by
 by_cases e : a = b
 ·subst e; exact SeqAt.EqAt.same _ prog w E Q hq
 ·unfold eqBool
  exact wpAny_holding (wpAny_ite_split (fun hab => absurd (by have := eq_of_beq hab; injection this) e) fun _ => wpAny_bind (R E _ (wpAny_truthy_bool hq)))
theorem el {P : Value -> Value -> Prop} {xs ys : List PyData} {vs us : List Value} (hl : xs.length = ys.length) (h1 : RdAll prog w g vs xs) (h2 : RdAll prog w g us ys) (ih : ∀ (k : Nat) (d e : PyData) v y, xs[k]? = some d -> ys[k]? = some e -> Rd prog w g v d -> Rd prog w g y e -> P v y) (j : Nat) (q1 : j < vs.length) (q2 : j < us.length) : P vs[j] us[j] := by
 have l1 := h1.len
 have l2 := h2.len
 obtain ⟨v, e1, r1⟩ := h1.get (i := j) (List.getElem?_eq_getElem (by omega))
 obtain ⟨y, e2, r2⟩ := h2.get (i := j) (List.getElem?_eq_getElem (by omega))
 rw [List.getElem?_eq_getElem q1] at e1
 rw [List.getElem?_eq_getElem q2] at e2
 cases e1; cases e2
 exact ih j _ _ _ _ (List.getElem?_eq_getElem _) (List.getElem?_eq_getElem _) r1 r2
theorem PSame.rc {u : Nat} {d e : PyData} (D : PSame u d e) : ∀ {A : Around} {s : Shared} {v y : Value}, (∀ b o, g.get? b = some o -> s.heap.get? b = some o) -> A.units + u < cLine -> Rd prog w g v d -> Rd prog w g y e ->
  SeqAt.RcAt A s v y true /\ SeqAt.EqAt A s v y true := by
 induction D with
 | int u i => intro A s v y k hu r r'; apply r.onInt; intro t; apply r'.onInt; intro t'; exact ⟨by simpa using SeqAt.RcAt.int_int (A := A) (s := s) i t i t', by simpa using SeqAt.EqAt.int_int (A := A) (s := s) i t i t'⟩
 | str u x => intro A s v y k hu r r'; apply r.onStr; intro t; apply r'.onStr; intro t'; exact ⟨by simpa using SeqAt.RcAt.str_str (A := A) (s := s) x t x t', by simpa using SeqAt.EqAt.str_str (A := A) (s := s) x t x t'⟩
 | bool u b => intro A s v y k hu r r'; apply r.onBool; apply r'.onBool; exact ⟨by simpa using SeqAt.RcAt.bool_bool (A := A) (s := s) b b, by simpa using SeqAt.EqAt.bool_bool (A := A) (s := s) b b⟩
 | @list u xs ys hl _ ih =>
  intro A s v y k hu r r'
  apply r.onList; intro a n vs e1 h1
  apply r'.onList; intro b n' us e2 h2
  have R := SeqAt.RcAt.lists (A := A) (s := s) (l := a) (b := b) (items := vs.toArray) (items2 := us.toArray) (e := fun _ => true) ⟨_, k _ _ e1, rfl, n, rfl⟩ ⟨_, k _ _ e2, rfl, n', rfl⟩ (by simp [h1.len, h2.len, hl]) (by omega)
    (fun j q1 q2 => el (P := fun v y => SeqAt.EqAt A.in1 s v y true) hl h1 h2 (fun j d e v y z1 z2 r1 r2 => (ih j d e z1 z2 k (by show A.units + 1 + u < cLine; omega) r1 r2).2) j (by simpa using q1) (by simpa using q2))
  rw [range_all] at R
  exact ⟨R, eqOf R⟩
 | @tuple u xs ys hl _ ih =>
  intro A s v y k hu r r'
  apply r.onTuple; intro a vs e1 h1
  apply r'.onTuple; intro b us e2 h2
  have R := SeqAt.RcAt.tuples (A := A) (s := s) (l := a) (b := b) (items := vs.toArray) (items2 := us.toArray) (e := fun _ => true) (e1.at fun o => k _ o) (e2.at fun o => k _ o) (by omega)
    (fun j q1 q2 => el (P := fun v y => SeqAt.EqAt A.in1 s v y true) hl h1 h2 (fun j d e v y z1 z2 r1 r2 => (ih j d e z1 z2 k (by show A.units + 1 + u < cLine; omega) r1 r2).2) j (by simpa using q1) (by simpa using q2))
  rw [range_all, show (vs.toArray.size == us.toArray.size) = true by simp [h1.len, h2.len, hl]] at R
  exact ⟨R, eqOf R⟩
theorem tupEq {A : Around} {E : Value -> Shared -> Prop} {s : Shared} {a b : Addr} {vs us : List Value} {P : Fin -> Shared -> Prop} (ha : s.heap.IsTuple a vs.toArray) (hb : s.heap.IsTuple b us.toArray)
  (hl : vs.length = us.length) (he : ∀ p ∈ vs.zip us, EqW prog w A s p.1 p.2) (h : P (.done (.ret (.bool true))) s) : wpAny (model prog w) A (Builtin.«tuple.__eq__» ⟨[.ref a, .ref b], []⟩) P E s := by
 show wpAny _ _ (isInstance (.ref b) (.type "tuple") >>= _) _ _ s
 refine wpAny_bind (wpAny_isInstance (T := "tuple") hb.typeIs isSubtype_tuple_tuple ?_)
 simp only [Bool.not_true, Bool.false_eq_true, if_false]
 obtain ⟨oa, hoa, _, na, hda⟩ := ha
 obtain ⟨ob, hob, _, nb, hdb⟩ := hb
 refine wpAny_bind (wpAny_tupleItemsOf hoa hda (wpAny_bind (wpAny_tupleItemsOf hob hdb (wpAny_bind ?_))))
 refine wpAny_forIn_list _ (fun rest r s' => r.1 = none /\ s' = s /\ ∀ p ∈ rest, EqW prog w A s p.1 p.2) _ ?_ ?_ _ _ ⟨rfl, rfl, by simpa using he⟩
 ·rintro p rest r s' ⟨hr, rfl, hp⟩
  refine wpAny_bind (hp p List.mem_cons_self _ _ ?_)
  simp only [Bool.not_true, Bool.false_eq_true, if_false]
  exact wpAny_pure ⟨rfl, rfl, fun q hq => hp q (List.mem_cons_of_mem _ hq)⟩
 ·rintro ⟨r1, r2⟩ s' ⟨hr, rfl, _⟩
  cases hr
  refine wpAny_pure ?_
  show P (.done (.ret (.bool (vs.toArray.size == us.toArray.size)))) s'
  rw [List.size_toArray, List.size_toArray, hl, beq_self_eq_true]; exact h
theorem range'_step {i k x : Nat} {rest : List Nat} (h : x :: rest = List.range' i (k - i)) : x = i /\ i < k /\ rest = List.range' (i + 1) (k - (i + 1)) := by
 cases q : k - i with
 | zero => rw [q] at h; cases h
 | succ j =>
  rw [q, List.range'_succ] at h
  injection h with h1 h2
  exact ⟨h1, by omega, by rw [h2]; congr 1; omega⟩
theorem dictSame {A : Around} {E : Value -> Shared -> Prop} {s : Shared} {nm : String} {a b : Addr} {ka kb : List (Str × Value)} {Q : Bool -> Shared -> Prop} (ha : (a == sysModules) = false) (hb : (b == sysModules) = false)
  (da : s.heap.DictOf (strKind prog w) a ka) (db : s.heap.DictOf (strKind prog w) b kb) (hl : ka.length = kb.length) (hh : ∀ k v, (k, v) ∈ ka -> ∃ y, valueAt kb k = some y /\ EqW prog w A s v y) (h : Q true s) :
  wpAny (model prog w) A (Builtin.Dict.samePairs nm a b) Q E s := by
 obtain ⟨oa, es, ep, hoa, _, hda, hka, hpa, _⟩ := da
 obtain ⟨ob, fs, ep', hob, _, hdb, hkb, hpb, _⟩ := db
 have la : es.size = ka.length := by rw [<- hpa.length]; exact Array.length_toList.symm
 have lb : fs.size = kb.length := by rw [<- hpb.length]; exact Array.length_toList.symm
 have hsz : es.size = fs.size := by omega
 unfold Builtin.Dict.samePairs Builtin.Dict.showsAll
 rw [ha, hb]
 refine wpAny_bind (wpAny_pure (wpAny_bind (wpAny_pure (wpAny_bind (wpAny_dictEntries hoa hda (wpAny_bind (wpAny_dictEntries hob hdb ?_)))))))
 rw [if_neg (by simp [hsz])]
 refine wpAny_bind (wpAny_dictEpoch hoa hda (wpAny_bind ?_))
 rw [Std.Legacy.Range.forIn_eq_forIn_range']
 simp only [Std.Legacy.Range.size, Nat.sub_zero, Nat.add_sub_cancel, Nat.div_one]
 refine wpAny_forIn_list _ (fun rest q s' => s' = s /\ q = (none, ()) /\ ∃ i, rest = List.range' i (es.size - i)) _ ?_ ?_ _ _ ⟨rfl, rfl, 0, rfl⟩
 ·rintro x rest q s' ⟨rfl, rfl, i, hr⟩
  obtain ⟨rfl, hlt, hrest⟩ := range'_step hr
  refine wpAny_bind (wpAny_dictEntries hoa hda ?_)
  rw [Array.getElem?_eq_getElem hlt]
  have hlt' : x < ka.length := la ▸ hlt
  obtain ⟨hkey, hval⟩ := hpa.get? (i := x) (e := es[x]) (k := ka[x].1) (v := ka[x].2) (by rw [Array.getElem?_toList]; exact Array.getElem?_eq_getElem hlt) (List.getElem?_eq_getElem hlt')
  obtain ⟨k', hk', hh'⟩ := hka es[x] (Array.getElem_mem hlt)
  rw [(strKind prog w).inj _ _ _ hk' hkey] at hh'
  obtain ⟨y, hy, he⟩ := hh ka[x].1 ka[x].2 (List.getElem_mem hlt')
  show wpAny _ _ (holding [es[x].key, es[x].val] _ >>= _) _ _ _
  rw [hh']
  refine wpAny_bind (wpAny_holding (wpAny_bind (wpAny_dictFind_of hkey hob hdb hkb ?_)))
  have hf := hpb.find ka[x].1
  rw [hy, Array.find?_toList] at hf
  cases hj : fs.findIdx? fun e => (strKind prog w).is ka[x].1 e.key with
  | none =>
   rw [Array.findIdx?_eq_none_iff] at hj
   rw [Array.find?_eq_none.mpr fun e he => by simp [hj e he]] at hf
   cases hf
  | some j =>
   have hv := findBy_of_findIdx? (strKind prog w).is fs ka[x].1
   rw [hj] at hv
   obtain ⟨hjl, _, _⟩ := Array.findIdx?_eq_some_iff_getElem.mp hj
   unfold findBy at hv
   rw [hf] at hv
   simp only [Option.bind_some, Array.getElem?_eq_getElem hjl, Option.map_some] at hv
   refine wpAny_bind (wpAny_dictEntries hob hdb ?_)
   rw [Array.getElem?_eq_getElem hjl]
   rw [Option.some.inj hv, <- hval] at he
   refine wpAny_holding (he _ _ ?_)
   show wpAny _ _ (if (!true) = true then _ else _) _ _ _
   rw [if_neg (by decide)]
   refine wpAny_bind (wpAny_dictEpoch hoa hda ?_)
   rw [if_neg (by simp)]
   exact wpAny_pure ⟨rfl, rfl, x + 1, hrest⟩
 ·rintro q s' ⟨rfl, rfl, _⟩
  exact wpAny_pure h
theorem DSame.rc {u : Nat} {d e : PyData} (D : DSame u d e) : ∀ {A : Around} {s : Shared} {v y : Value}, (∀ b o, g.get? b = some o -> s.heap.get? b = some o) -> A.units + u < cLine -> Rd prog w g v d -> Rd prog w g y e ->
  RcW prog w A s v y /\ EqW prog w A s v y := by
 induction D with
 | plain p => intro A s v y k hu r r'; have := p.rc k hu r r'; exact ⟨fun E Q h => this.1 prog w E Q h, fun E Q h => this.2 prog w E Q h⟩
 | @tuple u xs ys hl _ ih =>
  intro A s v y k hu r r'
  apply r.onTuple; intro a vs e1 h1
  apply r'.onTuple; intro b us e2 h2
  have R : RcW prog w A s (.ref a) (.ref b) := fun E Q h => by
   have z1 : s.heap.IsTuple a vs.toArray := e1.at fun o => k _ o
   have z2 : s.heap.IsTuple b us.toArray := e2.at fun o => k _ o
   refine wpAny_richCompare_same_room (op := .Eq) z1.typeIs z2.typeIs F.slot_tuple_eq (wpAny_call_entry F.slot_tuple_eq z1.typeIs F.entry_tuple_eq (tupEq z1 z2 (by rw [h1.len, h2.len, hl]) (fun p hp => ?_) ⟨_, rfl, (fun e => nomatch e), h⟩) (F.args_tuple_eq_2 _ _)) (by omega)
   obtain ⟨j, hj, rfl⟩ := List.getElem_of_mem hp
   rw [List.length_zip] at hj
   rw [List.getElem_zip]
   exact el (P := fun v y => EqW prog w A.in1 s v y) hl h1 h2 (fun j d e v y z1 z2 r1 r2 => (ih j d e z1 z2 k (by show A.units + 1 + u < cLine; omega) r1 r2).2) j (by omega) (by omega)
  exact ⟨R, eqOfW R⟩
 | @dict u xs ys hl hs _ ih =>
  intro A s v y k hu r r'
  apply r.onDict; intro a o ka l1 e1 d1 h1
  apply r'.onDict; intro b o' kb l2 e2 d2 h2
  have da : s.heap.DictOf (strKind prog w) a ka := Heap.dictOf_iff.mpr ⟨o, k _ _ e1, d1⟩
  have db : s.heap.DictOf (strKind prog w) b kb := Heap.dictOf_iff.mpr ⟨o', k _ _ e2, d2⟩
  have R : RcW prog w A s (.ref a) (.ref b) := fun E Q h => by
   refine wpAny_richCompare_same_room (op := .Eq) da.typeIs db.typeIs F.slot_dict_eq (wpAny_call_entry F.slot_dict_eq da.typeIs F.entry_dict_eq ?_ (F.args_dict_eq_2 _ _)) (by omega)
   show wpAny _ _ (Builtin.Dict.dictSlotArgs "__eq__" ⟨[.ref a, .ref b], []⟩ >>= _) _ _ s
   refine wpAny_bind ?_
   unfold Builtin.Dict.dictSlotArgs
   refine wpAny_bind (wpAny_notOrdered_dict da.typeIs (wpAny_pure (wpAny_bind (wpAny_isInstance (T := "dict") db.typeIs F.sub_dict_dict ?_))))
   simp only [Bool.not_true, Bool.false_eq_true, if_false]
   refine wpAny_bind (wpAny_pure (wpAny_bind (wpAny_pure (wpAny_bind (dictSame l1 l2 da db (by rw [h1.len, h2.len, hl]) (fun x v hm => ?_) (wpAny_pure ⟨_, rfl, (fun x => nomatch x), h⟩))))))
   obtain ⟨d, m1, r1⟩ := h1.mem hm
   obtain ⟨e, he⟩ := Option.isSome_iff_exists.mp (hs x d m1)
   obtain ⟨y, q1, q2⟩ := h2.at he
   exact ⟨y, q1, (ih x d e m1 he k (by show A.units + 1 + u < cLine; omega) r1 q2).2⟩
  exact ⟨R, eqOfW R⟩
end

end
section
noncomputable def OpI (prog : Program) (w : World) (n : Nat) (a i r : AV) : Prop :=
 ∀ (A : Around) (c : Cx) (g : Heap) (F : Frm) (m : AM) (σ : OwnL) (rest : RL) (s : Shared) (E : Value -> Shared -> Prop) (Q : Value -> Shared -> Prop) (v k : Value), AOk n A -> St prog w c g F m σ rest s ->
  AVok prog w g v a -> AVok prog w g k i -> (∀ v s', AVok prog w g v r -> St prog w c g F m σ rest s' -> Q v s') -> ItemOn (model prog w) A E v k Q s
noncomputable def CallB (prog : Program) (w : World) (n : Nat) (f : Value) (ds : List PyData) (r : PyData) : Prop :=
 ∀ (A : Around) (c : Cx) (g : Heap) (F : Frm) (m : AM) (σ : OwnL) (rest : RL) (s : Shared) (E : Value -> Shared -> Prop) (Q : Value -> Shared -> Prop) (vs : List Value), AOk n A -> Base w g -> St prog w c g F m σ rest s ->
  RdAll prog w g vs ds -> (∀ c' g' v s', Wle c g c' g' -> Rd prog w g' v r -> St prog w c' g' F m σ rest s' -> Q v s') -> wpAny (model prog w) A (call f vs) Q E s
noncomputable def Fn (prog : Program) (w : World) (n : Nat) (f : Addr) (ds : List PyData) (r : PyData) : Prop :=
 ∀ (A : Around) (c : Cx) (g : Heap) (own : Led) (s : Shared) (vs : List Value), AOk n A -> Base w g -> Hf c g own s -> RdAll prog w g vs ds ->
  codeAny (model prog w) A (.call (.ref f) ⟨vs, []⟩) (fun r' s' => ∃ c' g' v, r' = .ok (.ret v) /\ Wle c g c' g' /\ Rd prog w g' v r /\ Hf c' g' own s') s
section
variable {prog : Program} {w : World} {n : Nat} {sc : Sc} {m : AM} {σ : OwnL} {e e1 e2 e3 : Expr} {es : List Expr} {a r i : AV} {d dr d1 : PyData} {xs ys ds : List PyData} {k j : Int} {x : Str} {pos p p2 : Pos} {f : Addr}
theorem sub_tail {A : Around} {s : Shared} {E : Value -> Shared -> Prop} {Q : Value -> Shared -> Prop} {value slice : Expr} {o i : Value} {ops : List Value} (h : ItemOn (model prog w) A E o i Q s) (hs : subscripted slice false o i = operate ops (getItem o i)) :
  wpAny (model prog w) A (subscriptTail value slice o i) Q E s := by
 obtain ⟨T, id, hl, hT, hg⟩ := h
 unfold subscriptTail
 refine wpAny_bind ?_
 rw [getitemInPython_of_ne hT.not_modules]
 refine wpAny_bind (wpAny_specialOf hT hl ?_)
 have fin : wpAny (model prog w) A (subscripted slice false o i) (fun r s₃ => wpAny (model prog w) A (letTemporaryGo value o r >>= fun _ => pure r) Q E s₃) E s := by
  rw [hs]
  exact wpAny_operating (wpAny_mono hg (fun r s₃ h₃ => wpAny_bind (wpAny_letTemporaryGo (wpAny_pure h₃))) fun _ _ x => x)
 first
  | exact wpAny_pure (wpAny_bind fin)
  | exact wpAny_bind (wpAny_pure (wpAny_bind fin))
  | exact wpAny_bind fin
theorem ev_sub (h1 : Ev prog w n sc m σ e1 a) (h2 : Ev prog w n sc m σ e2 i) (h : OpI prog w n a i r) (hs : autoParam (∀ o k, subscripted e2 false o k = operate [o, k] (getItem o k)) auI2) : Ev prog w n sc m σ (.Subscript e1 e2 pos) r := fun A c g F rest s E Q hA B hF S q =>
 Subscript_ (h1 A c g F rest s E _ hA B hF S fun c1 g1 v1 s1 w1 r1 S1 => h2 A c1 g1 F rest s1 E _ hA (B.keeps w1.up) hF S1 fun c2 g2 v2 s2 w2 r2 S2 =>
  sub_tail (h A c2 g2 F m σ rest s2 E Q v1 v2 hA S2 (r1.up w2.up) r2 fun v s3 r3 S3 => q c2 g2 v s3 (w1.trans w2) r3 S3) (hs _ _))
theorem opi_list (h0 : 0 <= k) (hk : k < 2 ^ 63) (hd : xs[k.toNat]? = some d) : OpI prog w n (.d (.list xs)) (.d (.int k)) (.d d) := fun A c g F m σ rest s E Q v v2 hA S r1 r2 q => by
 apply r1.onList; intro a n' vs e1 h1
 apply r2.onInt; intro _
 obtain ⟨L, S0⟩ := S.base
 obtain ⟨u, hu, ru⟩ := h1.get hd
 have hl : s.heap.IsList a vs.toArray := ⟨_, S0.keep _ _ e1, rfl, n', rfl⟩
 exact ⟨"list", _, slot_list_getitem.lookup, hl.typeIs, wpAny_getItem_list hl h0 hk (by simpa using hu) (q u s ru S)⟩
theorem opi_listNeg (h0 : k < 0) (h1 : -(xs.length : Int) <= k) (hk : -(2 ^ 63) <= k) (hd : xs[(k + xs.length).toNat]? = some d) : OpI prog w n (.d (.list xs)) (.d (.int k)) (.d d) := fun A c g F m σ rest s E Q v v2 hA S r1 r2 q => by
 apply r1.onList; intro a n' vs e1 hr
 apply r2.onInt; intro _
 obtain ⟨L, S0⟩ := S.base
 obtain ⟨u, hu, ru⟩ := hr.get hd
 have hl : s.heap.IsList a vs.toArray := ⟨_, S0.keep _ _ e1, rfl, n', rfl⟩
 have := hr.len
 exact ⟨"list", _, slot_list_getitem.lookup, hl.typeIs, wpAny_getItem_list_neg hl h0 (by simpa [this] using h1) hk (by simpa [this] using hu) (q u s ru S)⟩
theorem opi_tuple (h0 : 0 <= k) (hk : k < 2 ^ 63) (hd : xs[k.toNat]? = some d) : OpI prog w n (.d (.tuple xs)) (.d (.int k)) (.d d) := fun A c g F m σ rest s E Q v v2 hA S r1 r2 q => by
 apply r1.onTuple; intro a vs e1 hr
 apply r2.onInt; intro _
 obtain ⟨L, S0⟩ := S.base
 obtain ⟨u, hu, ru⟩ := hr.get hd
 have hl : IsTup s.heap a vs.toArray := e1.at fun o => S0.keep _ o
 have hj : k.toNat < vs.length := (List.getElem?_eq_some_iff.mp hu).1
 exact ⟨"tuple", _, slot_tuple_getitem.lookup, hl.typeIs, getItem_tuple hl (by omega) hk (j := k.toNat) (by obtain ⟨b, rfl⟩ := Int.eq_ofNat_of_zero_le h0; simp only [seqIndex?, List.size_toArray]; simp at hj ⊢; omega) (by simpa using hu) (q u s ru S)⟩
theorem opi_dict {kvs : List (PyData × PyData)} (hd : kvGet kvs x = some d) : OpI prog w n (.d (.dict kvs)) (.d (.str x)) (.d d) := fun A c g F m σ rest s E Q v v2 hA S r1 r2 q => by
 apply r1.onDict; intro a o ka l1 e1 d1 hr
 apply r2.onStr; intro t
 obtain ⟨L, S0⟩ := S.base
 obtain ⟨u, hu, ru⟩ := hr.at hd
 have da : s.heap.DictOf (strKind prog w) a ka := Heap.dictOf_iff.mpr ⟨o, S0.keep _ _ e1, d1⟩
 exact ⟨"dict", _, slot_dict_getitem.lookup, da.typeIs, wpAny_getItem_of (strKind_is prog w x t) da.mapOf hu (q u _ ru (S.tok _))⟩
theorem opi_str (h1 : -(x.length : Int) <= k) (h2 : k < x.length) (hr : fitsSsize k = true) : OpI prog w n (.d (.str x)) (.d (.int k)) (.d (.str (Txt.item x k))) := fun A c g F m σ rest s E Q v v2 hA S r1 r2 q => by
 apply r1.onStr; intro _; apply r2.onInt; intro _
 exact SB.item hr (charAt_isSome h1 h2) (q _ _ (.str _ _) (S.tok _))
theorem St.kept {c : Cx} {g : Heap} {F : Frm} {rest : RL} : KeptByPush (St prog w c g F m σ rest) := fun s ob k S => S.like fun L S => (S.push ob).tok k
noncomputable def OpS (prog : Program) (w : World) (n : Nat) (d : PyData) (lo hi : Option Int) (r : PyData) : Prop :=
 ∀ (A : Around) (c : Cx) (g : Heap) (F : Frm) (m : AM) (σ : OwnL) (rest : RL) (s : Shared) (E : Value -> Shared -> Prop) (Q : Value -> Shared -> Prop) (v lv uv : Value), AOk n A -> St prog w c g F m σ rest s ->
  Rd prog w g v d -> IsPart lv lo -> IsPart uv hi -> (∀ g' v s', (∀ b o, g.get? b = some o -> g'.get? b = some o) -> Rd prog w g' v r -> St prog w c g' F m σ rest s' -> Q v s') ->
  ItemOn (model prog w) A E v (.ref s.heap.objs.size) Q { s with heap := s.heap.push { cls := .type "slice", data := .fields #[lv, uv, .none] } }
theorem ops_str {lo hi : Option Int} (hz : x.length <= sizeLine) : OpS prog w n (.str x) lo hi (.str (Txt.slice x lo hi)) := fun A c g F m σ rest s E Q v lv uv hA S r1 pl pu q => by
 apply r1.onStr; intro _
 have k : ∀ s' t', St prog w c g F m σ rest s' -> Q (.str (Txt.slice x lo hi) t') s' := fun s' t' S' => q g _ s' (fun _ _ z => z) (.str _ _) S'
 cases pl <;> cases pu
 ·exact SBG.sliceItem_nn St.kept S k hz
 ·exact SBG.sliceItem_ns St.kept S k hz
 ·exact SBG.sliceItem_sn St.kept S k hz
 ·exact SBG.sliceItem_ss St.kept S k hz
theorem ops_list {lo hi : Option Int} (hz : xs.length <= sizeLine) (hp : ∀ vs : List Value, vs.length = xs.length -> ∃ us, slicePick vs.toArray lo hi none = us.toArray /\ ∀ g, RdAll prog w g vs xs -> RdAll prog w g us ys) : OpS prog w n (.list xs) lo hi (.list ys) := fun A c g F m σ rest s E Q v lv uv hA S r1 pl pu q => by
 apply r1.onList; intro a n' vs e1 hr
 obtain ⟨L, S0⟩ := S.base
 have S1 : St prog w c g F m σ rest { s with heap := s.heap.push { cls := .type "slice", data := .fields #[lv, uv, .none] } } := S.like fun L S => S.push _
 have e2 : (s.heap.push { cls := .type "slice", data := .fields #[lv, uv, .none] }).get? a = some ({ cls := .type "list", data := .seq vs.toArray n' } : Obj) := Heap.get?_push_of_some _ (S0.keep _ _ e1)
 obtain ⟨us, hu, hru⟩ := hp vs hr.len
 refine ⟨"list", _, slot_list_getitem.lookup, ⟨_, e2, rfl⟩, wpAny_getItem_list_slice ⟨_, e2, rfl, n', rfl⟩ ⟨_, Heap.get?_push_size _ rfl, rfl, rfl⟩ pl pu .none (by simp) ?_ (by simpa [hr.len] using hz)⟩
 rw [hu]
 obtain ⟨g', k, ha, S2⟩ := S1.new (as := [(_, eqO { cls := .type "list", data := .seq us.toArray })]) fun L S => S.alloc _ rfl
 obtain ⟨o, ho, rfl⟩ := ha _ List.mem_cons_self
 exact q g' _ _ k (.list ho ((hru g hr).up k)) S2
theorem ops_from (hz : xs.length <= sizeLine) (a : Nat) : OpS prog w n (.list xs) (some a) none (.list (xs.drop a)) := ops_list hz fun vs _ => ⟨vs.drop a, by rw [slicePick_from'], fun g h => h.drop a⟩
theorem ops_upto (hz : xs.length <= sizeLine) (b : Nat) : OpS prog w n (.list xs) none (some b) (.list (xs.take b)) := ops_list hz fun vs _ => ⟨vs.take b, by rw [slicePick_upto'], fun g h => h.take b⟩
theorem ops_but (hz : xs.length <= sizeLine) (b : Nat) (hb : 1 <= b) : OpS prog w n (.list xs) none (some (-(b : Int))) (.list (xs.take (xs.length - b))) := ops_list hz fun vs hl => ⟨vs.take (xs.length - b), by rw [slicePick_butLast _ _ hb]; simp [hl], fun g h => h.take _⟩
theorem ev_sliceF (h1 : Ev prog w n sc m σ e1 (.d d)) (h2 : Ev prog w n sc m σ e2 (.d (.int k))) (h : OpS prog w n d (some k) none dr) : Ev prog w n sc m σ (.Subscript e1 (.Slice (some e2) none none p2) pos) (.d dr) := fun A c g F rest s E Q hA B hF S q =>
 Subscript_ (h1 A c g F rest s E _ hA B hF S fun c1 g1 v1 s1 w1 r1 S1 => r_sliceSN (h2 A c1 g1 F rest s1 E _ hA (B.keeps w1.up) hF S1 fun c2 g2 v2 s2 w2 r2 S2 => by
  apply r2.onInt; intro _
  exact sub_tail (h A c2 g2 F m σ rest s2 E Q v1 _ _ hA S2 (r1.up w2.up) (.int _ _) .none fun g3 v s3 k3 r3 S3 => q c2 g3 v s3 ((w1.trans w2).trans (.grow k3)) r3 S3) rfl))
theorem r_sliceNS {A : Around} {env : Env} {s : Shared} {E : Value -> Shared -> Prop} {e1 : Expr} {p : Pos} {Q : Value -> Shared -> Prop} (h : wpAny (model prog w) A (eval e1 env) (fun u s2 => Q (.ref s2.heap.objs.size) { s2 with heap := s2.heap.push { cls := .type "slice", data := .fields #[.none, u, .none] } }) E s) :
  wpAny (model prog w) A (eval (.Slice none (some e1) none p) env) Q E s := by
 refine wpAny_Slice ?_
 rw [evalPart_none]
 refine wpAny_pure ?_
 rw [evalPart_some]
 refine wpAny_mono h (fun u s2 h2 => ?_) fun _ _ z => z
 exact wpAny_pure h2
theorem ev_sliceT (h1 : Ev prog w n sc m σ e1 (.d d)) (h2 : Ev prog w n sc m σ e2 (.d (.int k))) (h : OpS prog w n d none (some k) dr) : Ev prog w n sc m σ (.Subscript e1 (.Slice none (some e2) none p2) pos) (.d dr) := fun A c g F rest s E Q hA B hF S q =>
 Subscript_ (h1 A c g F rest s E _ hA B hF S fun c1 g1 v1 s1 w1 r1 S1 => r_sliceNS (h2 A c1 g1 F rest s1 E _ hA (B.keeps w1.up) hF S1 fun c2 g2 v2 s2 w2 r2 S2 => by
  apply r2.onInt; intro _
  exact sub_tail (h A c2 g2 F m σ rest s2 E Q v1 _ _ hA S2 (r1.up w2.up) .none (.int _ _) fun g3 v s3 k3 r3 S3 => q c2 g3 v s3 ((w1.trans w2).trans (.grow k3)) r3 S3) rfl))
theorem ev_sliceFT (h1 : Ev prog w n sc m σ e1 (.d d)) (h2 : Ev prog w n sc m σ e2 (.d (.int k))) (h3 : Ev prog w n sc m σ e3 (.d (.int j))) (h : OpS prog w n d (some k) (some j) dr) : Ev prog w n sc m σ (.Subscript e1 (.Slice (some e2) (some e3) none p2) pos) (.d dr) := fun A c g F rest s E Q hA B hF S q =>
 Subscript_ (h1 A c g F rest s E _ hA B hF S fun c1 g1 v1 s1 w1 r1 S1 => r_sliceSS (h2 A c1 g1 F rest s1 E _ hA (B.keeps w1.up) hF S1 fun c2 g2 v2 s2 w2 r2 S2 => h3 A c2 g2 F rest s2 E _ hA (B.keeps (w1.trans w2).up) hF S2 fun c3 g3 v3 s3 w3 r3 S3 => by
  apply r2.onInt; intro _; apply r3.onInt; intro _
  exact sub_tail (h A c3 g3 F m σ rest s3 E Q v1 _ _ hA S3 (r1.up (w2.trans w3).up) (.int _ _) (.int _ _) fun g4 v s4 k4 r4 S4 => q c3 g4 v s4 (((w1.trans w2).trans w3).trans (.grow k4)) r4 S4) rfl))
theorem ev_list (h : EvL prog w n sc m σ es ds) (hz : ds.length <= sizeLine) : Ev prog w n sc m σ (.List es pos) (.d (.list ds)) := fun A c g F rest s E Q hA B hF S q =>
 List_ (h A c g F rest s E _ _ hA B hF S fun c1 g1 vs s1 w1 r1 S1 => wpAny_newObj_type (by
  obtain ⟨g', k, ha, S2⟩ := S1.new (as := [(_, eqO { cls := .type "list", data := .seq vs.toArray })]) fun L S => S.alloc _ rfl
  obtain ⟨o, ho, rfl⟩ := ha _ List.mem_cons_self
  exact q c1 g' _ _ (w1.trans (.grow k)) (.list ho (r1.up k)) S2) (by show vs.toArray.size <= sizeLine; rw [List.size_toArray, r1.len]; exact hz))
theorem ev_tuple {kk : Nat} (h : EvL prog w n sc m σ es ds) (hz : ds.length <= sizeLine) : Ev prog w n sc m σ (.Tuple es kk pos) (.d (.tuple ds)) := fun A c g F rest s E Q hA B hF S q =>
 Tuple_ (h A c g F rest s E _ _ hA B hF S fun c1 g1 vs s1 w1 r1 S1 => wpAny_newObj_type (by
  obtain ⟨g', k, ha, S2⟩ := S1.new (as := [(_, eqO { cls := .type "tuple", data := .seq vs.toArray })]) fun L S => S.alloc _ rfl
  obtain ⟨o, ho, rfl⟩ := ha _ List.mem_cons_self
  exact q c1 g' _ _ (w1.trans (.grow k)) (.tuple ⟨_, ho, rfl, 0, rfl⟩ (r1.up k)) S2) (by show vs.toArray.size <= sizeLine; rw [List.size_toArray, r1.len]; exact hz))
structure GlB (w : World) (sc : Sc) (x : Str) (v : Value) : Prop where
 k : sc.names.lookup x = some .globalImplicit
 e : nsIn (heapK w.params) mainGlobals x = some none
 b : bootBuiltins x = some v
 n : x ≠ "__name__"
 d : (x == ("__debug__" : Str)) = false
structure GlF (w : World) (sc : Sc) (x : Str) (f : Addr) : Prop where
 k : sc.names.lookup x = some .globalImplicit
 e : nsIn (heapK w.params) mainGlobals x = some (some (.ref f))
 f : keepIn (heapK w.params) (.ref f) = true
 d : (x == ("__debug__" : Str)) = false
theorem name_b {A : Around} {c : Cx} {g : Heap} {F : Frm} {rest : RL} {s : Shared} {E : Value -> Shared -> Prop} {v : Value} {Q : Value -> Shared -> Prop} (G : GlB w sc x v) (B : Base w g) (hF : FrOk sc F) (S : St prog w c g F m σ rest s) (h : Q v s) : wpAny (model prog w) A (eval (.Name x pos) F.env) Q E s :=
 let ⟨_, S0⟩ := S.base; r_builtin B S0 G.e G.b G.n h hF.gl hF.bi (by rw [hF.scope]; exact hF.fn) (by show F.env.scope.names.lookup x = _; rw [hF.scope]; exact G.k) G.d
theorem name_f {A : Around} {c : Cx} {g : Heap} {F : Frm} {rest : RL} {s : Shared} {E : Value -> Shared -> Prop} {Q : Value -> Shared -> Prop} (G : GlF w sc x f) (B : Base w g) (hF : FrOk sc F) (S : St prog w c g F m σ rest s) (h : Q (.ref f) s) : wpAny (model prog w) A (eval (.Name x pos) F.env) Q E s :=
 let ⟨_, S0⟩ := S.base; r_global B S0 G.e h hF.gl (by rw [hF.scope]; exact hF.fn) (by show F.env.scope.names.lookup x = _; rw [hF.scope]; exact G.k) G.d
noncomputable def PlainArgs (e : Expr) (rest : List Expr) : Prop := ∀ env : Env, starEach (e :: rest) env = (false, eval e env) :: starEach rest env /\ ∀ pos, (backTo pos (starEach rest env)).any (·.1) = false
theorem ev_callB {id : String} (G : GlB w sc x (.builtin id)) (ha : EvL prog w n sc m σ (e :: es) ds) (h : CallB prog w n (.builtin id) ds d) (hp : autoParam (PlainArgs e es) auP) : Ev prog w n sc m σ (.Call (.Name x p) (e :: es) [] pos) (.d d) := fun A c g F rest s E Q hA B hF S q =>
 Call_ (name_b G B hF S (callWith_method1 (ha A c g F rest s E _ _ hA B hF S fun c1 g1 vs s1 w1 r1 S1 => h A c1 g1 F m σ rest s1 E Q vs hA (B.keeps w1.up) S1 r1 fun c2 g2 v s2 w2 r2 S2 => q c2 g2 v s2 (w1.trans w2) r2 S2) (hp _).1 ((hp _).2 _)))
theorem ev_callT {T : String} (G : GlB w sc x (.type T)) (ha : EvL prog w n sc m σ (e :: es) ds) (h : CallB prog w n (.type T) ds d) (hp : autoParam (PlainArgs e es) auP) : Ev prog w n sc m σ (.Call (.Name x p) (e :: es) [] pos) (.d d) := fun A c g F rest s E Q hA B hF S q =>
 Call_ (name_b G B hF S (PySem.Pv.callWith_type1 (ha A c g F rest s E _ _ hA B hF S fun c1 g1 vs s1 w1 r1 S1 => h A c1 g1 F m σ rest s1 E Q vs hA (B.keeps w1.up) S1 r1 fun c2 g2 v s2 w2 r2 S2 => q c2 g2 v s2 (w1.trans w2) r2 S2) (hp _).1 ((hp _).2 _)))
end

end
section
theorem scEnv {P : Env -> Prop} {S : Scope} (h : ∀ env : Env, P { env with scope := S }) : ∀ env : Env, env.scope = S -> P env := fun env e => by subst e; exact h env
noncomputable def dKind (d : PyData) : Nat := PyData.casesOn (motive_1 := fun _ => Nat) d 0 (fun _ => 0) (fun _ => 0) (fun _ => 0) (fun _ => 0) (fun _ => 0) (fun _ => 1) (fun _ => 0) (fun _ _ _ _ _ _ => 0) 2
theorem ntab {d : PyData} (h : (dKind d == 2) = false) : d ≠ .tab := fun e => by subst e; cases h
theorem ndic {d : PyData} {p : Prop} (h : (dKind d == 1) = false) : ∀ kvs, d = .dict kvs -> p := fun _ e => by subst e; cases h
theorem ydic {d : PyData} {p : Prop} (h : p) : ∀ kvs, d = .dict kvs -> p := fun _ _ => h
inductive Fl where
 | next | brk | cont
 | ret (a : AV)
noncomputable def FlOk (prog : Program) (w : World) (g : Heap) : Flow -> Fl -> Prop
 | .next, .next => True
 | .brk, .brk => True
 | .cont, .cont => True
 | .ret v, .ret a => AVok prog w g v a
 | _, _ => False
noncomputable def Es (prog : Program) (w : World) (n : Nat) (sc : Sc) (m : AM) (σ : OwnL) (st : Stmt) (fl : Fl) (m' : AM) (σ' : OwnL) : Prop :=
 ∀ (A : Around) (c : Cx) (g : Heap) (F : Frm) (rest : RL) (s : Shared) (E : Value -> Shared -> Prop) (Q : Flow -> Shared -> Prop), AOk n A -> Base w g -> FrOk sc F -> St prog w c g F m σ rest s ->
  (∀ c' g' f s', Wle c g c' g' -> FlOk prog w g' f fl -> St prog w c' g' F m' σ' rest s' -> Q f s') -> wpAny (model prog w) A (exec st F.env) Q E s
noncomputable def Ex (prog : Program) (w : World) (n : Nat) (sc : Sc) (m : AM) (σ : OwnL) (ss : List Stmt) (fl : Fl) (m' : AM) (σ' : OwnL) : Prop :=
 ∀ (A : Around) (c : Cx) (g : Heap) (F : Frm) (rest : RL) (s : Shared) (E : Value -> Shared -> Prop) (Q : Flow -> Shared -> Prop), AOk n A -> Base w g -> FrOk sc F -> St prog w c g F m σ rest s ->
  (∀ c' g' f s', Wle c g c' g' -> FlOk prog w g' f fl -> St prog w c' g' F m' σ' rest s' -> Q f s') -> wpAny (model prog w) A (execs ss F.env) Q E s
noncomputable def EsP (prog : Program) (w : World) (n : Nat) (sc : Sc) (m : AM) (σ : OwnL) (st : Stmt) (K : Fl -> AM -> OwnL -> Prop) : Prop :=
 ∀ (A : Around) (c : Cx) (g : Heap) (F : Frm) (rest : RL) (s : Shared) (E : Value -> Shared -> Prop) (Q : Flow -> Shared -> Prop), AOk n A -> Base w g -> FrOk sc F -> St prog w c g F m σ rest s ->
  (∀ c' g' f s' fl m' σ', K fl m' σ' -> Wle c g c' g' -> FlOk prog w g' f fl -> St prog w c' g' F m' σ' rest s' -> Q f s') -> wpAny (model prog w) A (exec st F.env) Q E s
noncomputable def ExP (prog : Program) (w : World) (n : Nat) (sc : Sc) (m : AM) (σ : OwnL) (ss : List Stmt) (K : Fl -> AM -> OwnL -> Prop) : Prop :=
 ∀ (A : Around) (c : Cx) (g : Heap) (F : Frm) (rest : RL) (s : Shared) (E : Value -> Shared -> Prop) (Q : Flow -> Shared -> Prop), AOk n A -> Base w g -> FrOk sc F -> St prog w c g F m σ rest s ->
  (∀ c' g' f s' fl m' σ', K fl m' σ' -> Wle c g c' g' -> FlOk prog w g' f fl -> St prog w c' g' F m' σ' rest s' -> Q f s') -> wpAny (model prog w) A (execs ss F.env) Q E s
theorem len1 {p : List Value -> Prop} (h : ∀ v, p [v]) (vals : List Value) (e : vals.length = 1) : p vals := by
 obtain ⟨v, rfl⟩ := List.length_eq_one_iff.mp e
 exact h v
theorem len2 {p : List Value -> Prop} (h : ∀ v u, p [v, u]) (vals : List Value) (e : vals.length = 2) : p vals := by
 cases vals with
 | nil => cases e
 | cons v vals => exact len1 (p := fun vs => p (v :: vs)) (h v) vals (Nat.succ.inj e)
theorem len3 {p : List Value -> Prop} (h : ∀ v u z, p [v, u, z]) (vals : List Value) (e : vals.length = 3) : p vals := by
 cases vals with
 | nil => cases e
 | cons v vals => exact len2 (p := fun vs => p (v :: vs)) (h v) vals (Nat.succ.inj e)
@[elab_as_elim] theorem lt3 {p : Nat -> Prop} (h0 : p 0) (h1 : p 1) (h2 : p 2) (i : Nat) (hi : i < 3) : p i := by
 obtain rfl | rfl | rfl : i = 0 \/ i = 1 \/ i = 2 := by omega
 ·exact h0
 ·exact h1
 ·exact h2
section
variable {prog : Program} {w : World} {c c' : Cx} {g g' : Heap} {own : Led} {s s' : Shared}
theorem Hf.lower (S : Hf c g' own s) (k : ∀ b o, g.get? b = some o -> g'.get? b = some o) : Hf c g own s :=
 ⟨fun b o e => S.keep b o (k b o e), fun p hp => ⟨(S.led p hp).1, by
  cases q : g.get? p.1 with
  | none => rfl
  | some o => have := (S.led p hp).2; rw [k _ _ q] at this; cases this⟩, S.nodup, S.gsEq, S.osEq⟩
theorem Hf.dropR {l1 l2 : Led} (S : Hf c g (l1 ++ l2) s) : Hf c g l1 s :=
 ⟨S.keep, fun p hp => S.led p (List.mem_append_left _ hp), (List.nodup_append.mp (by rw [<- List.map_append]; exact S.nodup)).1, S.gsEq, S.osEq⟩
variable {n k : Nat} {sc : Sc} {m m' m1 : AM} {σ σ' σ1 : OwnL} {e e1 : Expr} {es : List Expr} {a a1 a2 r : AV} {d : PyData} {ys ds : List PyData} {x y : Str} {pos p : Pos} {f : Addr} {st : Stmt} {ss body els : List Stmt} {fl : Fl} {b : Bool} {op : Operator} {F : Frm} {rest : RL} {v : Value}
theorem ev_callF (G : GlF w sc x f) (ha : EvL prog w n sc m σ (e :: es) ds) (h : Fn prog w n f ds d) (hp : autoParam (PlainArgs e es) auP) : Ev prog w n sc m σ (.Call (.Name x p) (e :: es) [] pos) (.d d) := fun A c g F rest s E Q hA B hF S q =>
 Call_ (name_f G B hF S (r_callK B G.f (ha A c g F rest s E _ _ hA B hF S fun c1 g1 vs s1 w1 r1 S1 => by
  obtain ⟨ml, mc, S2, hm⟩ := S1
  refine ⟨⟨_, _, S2.lower w1.up⟩, wpAny_call (codeAny_mono (h A c1 g1 _ s1 vs hA (B.keeps w1.up) S2 r1) fun r' s2 z => ?_)⟩
  obtain ⟨c2, g2, v, rfl, w2, r2, S3⟩ := z
  exact q c2 g2 v s2 (w1.trans w2) r2 ⟨ml, mc, ownLed_up w2.up S3, fun x a e => let ⟨v, h1, h2⟩ := hm x a e; ⟨v, h1.up w2.up, h2.up w2.up⟩⟩) (hp _).1 ((hp _).2 _)))
theorem ex_nil : Ex prog w n sc m σ [] .next m σ := fun A c g F rest s E Q hA B hF S q => wpAny_execs_nil (q c g _ s .rfl trivial S)
theorem ex_cons (h1 : Es prog w n sc m σ st .next m1 σ1) (h2 : Ex prog w n sc m1 σ1 ss fl m' σ') : Ex prog w n sc m σ (st :: ss) fl m' σ' := fun A c g F rest s E Q hA B hF S q =>
 wpAny_execs_cons (h1 A c g F rest s E _ hA B hF S fun c1 g1 f s1 w1 hf S1 => by
  cases f with
  | next => exact h2 A c1 g1 F rest s1 E Q hA (B.keeps w1.up) hF S1 fun c2 g2 f s2 w2 hf S2 => q c2 g2 f s2 (w1.trans w2) hf S2
  | _ => exact hf.elim)
theorem ex_stop (h1 : Es prog w n sc m σ st fl m' σ') (hfl : fl ≠ .next) : Ex prog w n sc m σ (st :: ss) fl m' σ' := fun A c g F rest s E Q hA B hF S q =>
 wpAny_execs_cons (h1 A c g F rest s E _ hA B hF S fun c1 g1 f s1 w1 hf S1 => by
  cases f with
  | next => cases fl <;> first | exact hf.elim | exact absurd rfl hfl
  | _ => exact q c1 g1 _ s1 w1 hf S1)
theorem ex_pre (h : Ex prog w n sc m1 σ ss fl m' σ') (hm : ∀ x a, m1.lookup x = some a -> m.lookup x = some a) : Ex prog w n sc m σ ss fl m' σ' := fun A c g F rest s E Q hA B hF S q =>
 h A c g F rest s E Q hA B hF (S.weak hm) q
theorem ex_post (h : Ex prog w n sc m σ ss fl m1 σ') (hm : ∀ x a, m'.lookup x = some a -> m1.lookup x = some a) : Ex prog w n sc m σ ss fl m' σ' := fun A c g F rest s E Q hA B hF S q =>
 h A c g F rest s E Q hA B hF S fun c1 g1 f s1 w1 hf S1 => q c1 g1 f s1 w1 hf (S1.weak hm)
theorem es_if (ht : EvT prog w n sc m σ e b) (h1 : b = true -> Ex prog w n sc m σ body fl m' σ') (h2 : b = false -> Ex prog w n sc m σ els fl m' σ') : Es prog w n sc m σ (.If e body els pos) fl m' σ' := fun A c g F rest s E Q hA B hF S q =>
 wpAny_If (ht A c g F rest s E _ hA B hF S fun c1 g1 s1 w1 S1 => by
  have k' := fun c' g' f s' (w2 : Wle c1 g1 c' g') => q c' g' f s' (w1.trans w2)
  cases b with
  | true => exact ite_pos rfl (h1 rfl A c1 g1 F rest s1 E Q hA (B.keeps w1.up) hF S1 k')
  | false => exact ite_neg Bool.false_ne_true (h2 rfl A c1 g1 F rest s1 E Q hA (B.keeps w1.up) hF S1 k'))
theorem St.bare {c : Cx} {g : Heap} {s : Shared} (S : St prog w c g F m σ rest s) : St prog w c g F [] [] rest s := by
 obtain ⟨ml, mc, S, _⟩ := S
 refine ⟨ml, mc, ?_, fun x a e => by cases e⟩
 have P : (frmLed F ml mc ++ (ownLed prog w g σ ++ (rest.il ++ rest.kp))).Perm ((frmLed F ml mc ++ ([] ++ (rest.il ++ rest.kp))) ++ ownLed prog w g σ) := by
  rw [List.nil_append, List.append_assoc]
  exact List.Perm.append_left _ List.perm_append_comm
 exact (S.perm P).dropR
theorem es_ret (h : Ev prog w n sc m σ e a) : Es prog w n sc m σ (.Return (some e) pos) (.ret a) [] [] := fun A c g F rest s E Q hA B hF S q =>
 wpAny_Return_some (h A c g F rest s E _ hA B hF S fun c1 g1 v s1 w1 r1 S1 => q c1 g1 _ s1 w1 r1 S1.bare)
theorem St.store {A : Around} {E : Value -> Shared -> Prop} {Q : Unit -> Shared -> Prop} (hk : sc.names.lookup x = some .local \/ (sc.names.lookup x = some .cell /\ ∃ b, (x, b) ∈ F.oc)) (hF : FrOk sc F) (S : St prog w c g F m σ rest s) (hv : AVok prog w g v a)
  (q : ∀ s', St prog w c g F ((x, a) :: m) σ rest s' -> Q () s') : wpAny (model prog w) A (storeName F.env x v) Q E s := by
 obtain ⟨ml, mc, S, hm⟩ := S
 have hfn : F.env.scope.kind = .function := by rw [hF.scope]; exact hF.fn
 have hkd : ∀ y, F.env.kindOf y = sc.names.lookup y := fun y => by show F.env.scope.names.lookup y = _; rw [hF.scope]
 rcases hk with hk | ⟨hk, b, hb⟩
 ·refine wpAny_storeName_local (by rw [hkd]; exact hk) (Sf.ns S) (fun h' hn hs => q _ ⟨_, mc, S.turn' hs (nsO_of hn) _, fun y z hy => ?_⟩) (by rw [hfn]; rfl)
  rw [List.lookup_cons] at hy
  by_cases e : y = x
  ·subst e
   simp only [beq_self_eq_true] at hy
   cases hy
   exact ⟨v, hv, .inl ⟨by rw [hkd]; exact hk, if_pos rfl⟩⟩
  ·rw [beq_false_of_ne e] at hy
   obtain ⟨u, h1, h2⟩ := hm y z hy
   exact ⟨u, h1, h2.imp (fun ⟨q1, q2⟩ => ⟨q1, (if_neg e).trans q2⟩) id⟩
 ·have hc := hF.oc _ hb
  obtain ⟨l1, l2, hl⟩ := List.append_of_mem hb
  have hx : ∀ y ∈ l1 ++ l2, y.1 ≠ x := fun y hy e => by
   have := hF.nd
   rw [hl, List.map_append, List.map_cons] at this
   have h3 := (List.perm_middle (a := (x, b).1) (l₁ := l1.map (·.1)) (l₂ := l2.map (·.1))).nodup_iff.mp this
   rw [List.nodup_cons, <- List.map_append] at h3
   exact h3.1 (e ▸ List.mem_map_of_mem (f := (·.1)) hy)
  have P : ∀ mc : Str -> Option Value, (frmLed F ml mc ++ (ownLed prog w g σ ++ (rest.il ++ rest.kp))).Perm ((b, cellO (mc x)) :: ((F.env.locals, nsO ml) :: ((l1 ++ l2).map fun y => (y.2, cellO (mc y.1))) ++ (ownLed prog w g σ ++ (rest.il ++ rest.kp)))) := fun mc => by
   unfold frmLed
   rw [hl, List.map_append, List.map_cons, List.map_append, List.cons_append, List.append_assoc, List.cons_append]
   exact (List.perm_middle.cons _).trans ((List.Perm.swap _ _ _).trans (by simp))
  have S1 := S.perm (P mc)
  refine wpAny_storeName_cell hfn (by rw [hkd]; exact hk) hc (S1.at List.mem_cons_self) (fun h' hc' hs => q _ ⟨ml, fun y => if y = x then some v else mc y, ?_, fun y z hy => ?_⟩)
  ·have S2 := S1.turn (Pb := cellO (some v)) hs.extBut hc' (s' := { s with heap := h' }) rfl rfl rfl
   refine Hf.perm S2 ?_
   have := (P fun y => if y = x then some v else mc y).symm
   rw [if_pos rfl, List.map_congr_left (g := fun y => (y.2, cellO (mc y.1))) (fun y hy => by rw [if_neg (hx y hy)])] at this
   exact this
  ·rw [List.lookup_cons] at hy
   by_cases e : y = x
   ·subst e
    simp only [beq_self_eq_true] at hy
    cases hy
    exact ⟨v, hv, .inr ⟨.inl (by rw [hkd]; exact hk), b, hc, .inl ⟨hb, if_pos rfl⟩⟩⟩
   ·rw [beq_false_of_ne e] at hy
    obtain ⟨u, h1, h2⟩ := hm y z hy
    exact ⟨u, h1, h2.imp id fun ⟨q1, a', q2, q3⟩ => ⟨q1, a', q2, q3.imp (fun ⟨z1, z2⟩ => ⟨z1, (if_neg e).trans z2⟩) id⟩⟩
theorem es_assign (h : Ev prog w n sc m σ e a) (hk : sc.names.lookup x = some .local) (hs : autoParam (∀ env : Env, env.scope = sc.toScope -> swapsWith e (some (.Name x p)) pos.line env = pure false) auE) : Es prog w n sc m σ (.Assign [.Name x p] e pos) .next ((x, a) :: m) σ := fun A c g F rest s E Q hA B hF S q =>
 wpAny_Assign_Name (h A c g F rest s E _ hA B hF S fun c1 g1 v s1 w1 r1 S1 => S1.store (.inl hk) hF r1 fun s2 S2 => q c1 g1 _ s2 w1 trivial S2) (hs _ hF.scope)
theorem es_aug (hm : m.lookup x = some a1) (h2 : Ev prog w n sc m σ e a2) (h : Op2 prog w n σ (inplaceOp op) a1 a2 a) (hk : sc.names.lookup x = some .local) : Es prog w n sc m σ (.AugAssign (.Name x p) op e pos) .next ((x, a) :: m) σ := fun A c g F rest s E Q hA B hF S q => by
 obtain ⟨ml, mc, S0, hv⟩ := id S
 obtain ⟨v, h1, h3⟩ := hv x a1 hm
 have hkd : F.env.kindOf x = some .local := by show F.env.scope.names.lookup x = _; rw [hF.scope]; exact hk
 rcases h3 with ⟨_, e1⟩ | ⟨k1, _⟩
 ·exact wpAny_AugAssign_Name (wpAny_loadName_local (by rw [hF.scope]; exact hF.fn) hkd (Sf.ns S0) e1 (h2 A c g F rest s E _ hA B hF S fun c1 g1 v2 s1 w1 r1 S1 =>
   h A c1 g1 F m rest s1 E _ v v2 hA (B.keeps w1.up) S1 (h1.up w1.up) r1 fun c2 g2 u s2 w2 r2 S2 => S2.store (.inl hk) hF r2 fun s3 S3 => q c2 g2 _ s3 (w1.trans w2) trivial S3))
 ·rw [hkd] at k1; rcases k1 with k1 | k1 <;> cases k1
noncomputable def Stb (sc : Sc) (x : Str) : Prop := sc.names.lookup x = some .local \/ (sc.names.lookup x = some .cell /\ x ∈ sc.own)
theorem Stb.of (h : Stb sc x) (hF : FrOk sc F) : sc.names.lookup x = some .local \/ (sc.names.lookup x = some .cell /\ ∃ b, (x, b) ∈ F.oc) := h.imp id fun ⟨a, b⟩ => ⟨a, hF.ow _ b⟩
theorem es_set (h : Ev prog w n sc m σ e a) (hk : Stb sc x) (hs : autoParam (∀ env : Env, env.scope = sc.toScope -> swapsWith e (some (.Name x p)) pos.line env = pure false) auE) : Es prog w n sc m σ (.Assign [.Name x p] e pos) .next ((x, a) :: m) σ := fun A c g F rest s E Q hA B hF S q =>
 wpAny_Assign_Name (h A c g F rest s E _ hA B hF S fun c1 g1 v s1 w1 r1 S1 => S1.store (hk.of hF) hF r1 fun s2 S2 => q c1 g1 _ s2 w1 trivial S2) (hs _ hF.scope)
inductive Unp (sc : Sc) : List Expr -> List PyData -> AM -> AM -> Prop
 | nil {m : AM} : Unp sc [] [] m m
 | cons {x : Str} {p : Pos} {es : List Expr} {d : PyData} {ds : List PyData} {m m' : AM} : Stb sc x -> Unp sc es ds ((x, .d d) :: m) m' -> Unp sc (.Name x p :: es) (d :: ds) m m'
theorem Unp.go {A : Around} {E : Value -> Shared -> Prop} (U : Unp sc es ds m m') : ∀ {vs : List Value} {s : Shared} {Q : Unit -> Shared -> Prop}, FrOk sc F -> St prog w c g F m σ rest s -> RdAll prog w g vs ds -> (∀ s', St prog w c g F m' σ rest s' -> Q () s') ->
  wpAny (model prog w) A (assignInOrder ((assignEach es F.env).map (·.2)) vs) Q E s := by
 induction U with
 | nil => intro vs s Q hF S r q; cases r; exact assignInOrder_nil (q s S)
 | @cons x p es d ds m m' hk _ ih =>
  intro vs s Q hF S r q
  cases r with
  | cons a b =>
   show wpAny _ _ (assignInOrder (assign (.Name x p) F.env :: (assignEach es F.env).map (·.2)) _) _ _ _
   exact assignInOrder_cons (wpAny_assign_Name (S.store (hk.of hF) hF (a := .d d) a fun s' S' => ih hF S' b q))
theorem Unp.len (U : Unp sc es ds m m') (env : Env) : (assignEach es env).length = ds.length /\ (assignEach es env).findIdx? (·.1) = none := by
 induction U with
 | nil => exact ⟨rfl, rfl⟩
 | @cons x p es d ds m m' hk _ ih =>
  show ((false, _) :: assignEach es env).length = _ /\ ((false, _) :: assignEach es env).findIdx? (·.1) = none
  rw [List.length_cons, List.length_cons, ih.1, List.findIdx?_cons, ih.2]
  exact ⟨rfl, rfl⟩
theorem Unp.at {A : Around} {E : Value -> Shared -> Prop} {Q : Unit -> Shared -> Prop} {kk : Nat} (U : Unp sc es ds m m') (hh : A.handled = none) (hF : FrOk sc F) (S : St prog w c g F m σ rest s) (r : Rd prog w g v (.tuple ds)) (q : ∀ s', St prog w c g F m' σ rest s' -> Q () s') :
  wpAny (model prog w) A (assign (.Tuple es kk p) F.env v) Q E s := by
 apply r.onTuple; intro a vs e1 hr
 obtain ⟨L, S0⟩ := S.base
 refine assign_Tuple_tuple (items := vs.toArray) hh (e1.at fun o => S0.keep _ o) (by simpa [hr.len] using (U.len F.env).1) (U.len F.env).2 fun h' hx => ?_
 rw [List.toList_toArray]
 exact U.go hF (S.like fun L S => S.grow (fun b o e => hx b o (Nat.ne_of_lt (Heap.lt_size e)) e) rfl rfl) hr q
theorem es_unpack {kk : Nat} (h : Ev prog w n sc m σ e (.d (.tuple ds))) (U : Unp sc es ds m m') (hs : autoParam (∀ env, swapsWithSole [.Tuple es kk p] e pos.line env = pure false) auI1) (hs2 : autoParam (∀ env, swappedStores [.Tuple es kk p] e env = pure none) auI1) : Es prog w n sc m σ (.Assign [.Tuple es kk p] e pos) .next m' σ := fun A c g F rest s E Q hA B hF S q =>
 Assign_Tuple (h A c g F rest s E _ hA B hF S fun c1 g1 v s1 w1 r1 S1 => U.at hA.hh hF S1 r1 fun s2 S2 => q c1 g1 _ s2 w1 trivial S2) (hs _) (hs2 _)
theorem binds_ok : ∀ {names : List Str} {vs : List Value} {ds : List PyData}, RdAll prog w g vs ds -> ∀ x, ((names.zip (ds.map AV.d)).reverse.lookup x = none /\ (names.zip vs).reverse.lookup x = none) \/
  ∃ a v, (names.zip (ds.map AV.d)).reverse.lookup x = some a /\ (names.zip vs).reverse.lookup x = some v /\ AVok prog w g v a
 | [], _, _, _, x => .inl ⟨rfl, rfl⟩
 | _ :: _, _, _, .nil, x => .inl ⟨rfl, rfl⟩
 | y :: ys, v :: vs, d :: ds, .cons a b, x => by
  simp only [List.map_cons, List.zip_cons_cons, List.reverse_cons, List.lookup_append]
  rcases binds_ok (names := ys) b x with ⟨h1, h2⟩ | ⟨a', v', h1, h2, h3⟩
  ·rw [h1, h2]
   simp only [Option.none_or, List.lookup_cons]
   cases hx : x == y with
   | true => exact .inr ⟨_, _, rfl, rfl, a⟩
   | false => exact .inl ⟨rfl, rfl⟩
  ·rw [h1, h2]; exact .inr ⟨a', v', rfl, rfl, h3⟩
theorem fn_of {name qual : Str} {params : Arguments} {body : List Stmt} {scope : Scope} {dV kV doc pm cdv ct oc : Value} {an od : Option Addr} {osl : Array (Option Value)} {f : Addr} {m0 : AM}
  (ho : ∀ w : World, (heapK w.params).lookup f = some ⟨oc, od, .func (fnOf name qual params body scope dV kV doc pm an cdv ct), osl⟩) (hcd : ∀ w : World, codeIn (heapK w.params) cdv qual = true)
  (hbind : ∀ vals : List Value, vals.length = ds.length -> bindArgs (fnOf name qual params body scope dV kV doc pm an cdv ct) ⟨vals, []⟩ = pure ((params.args.map (·.arg)).zip vals)) (hcell : (scope.names.all fun x => x.2 != .cell) = true) (hloc : ((params.args.map (·.arg)).all fun n => scope.names.lookup n == some .local) = true)
  (hm : ((params.args.map (·.arg)).zip (ds.map AV.d)).reverse = m0) (h : Ex prog w n ⟨scope, []⟩ m0 [] body (.ret (.d d)) [] [])
  (hco : scope.isCoroutine = false) (hgen : scope.isGenerator = false) (hk : scope.kind = .function) : Fn prog w (n + 1) f ds d := fun A c g own s vs hA B S r => by
 refine callK B S hA.room (ho w) (hcd w) (hbind vs r.len) hcell hloc rfl (fun L s' S' => ?_) hco hgen hk
 refine h (A.deeper (envOf qual scope L f cdv)) c g ⟨envOf qual scope L f cdv, []⟩ ⟨[], own⟩ s' _ _ hA.deeper B ⟨rfl, hk, rfl, rfl, fun y hy => absurd hy (List.not_mem_nil), List.nodup_nil, fun y hy => absurd hy (List.not_mem_nil)⟩ ⟨_, fun _ => none, S', fun x a e => ?_⟩ fun c1 g1 fl s1 w1 hf S1 => ?_
 ·rw [<- hm] at e
  obtain ⟨v, h1, h2⟩ : ∃ v, AVok prog w g v a /\ ((params.args.map (·.arg)).zip vs).reverse.lookup x = some v := by
   rcases binds_ok (names := params.args.map (·.arg)) r x with ⟨q1, _⟩ | ⟨a', v, q1, q2, q3⟩
   ·rw [q1] at e; cases e
   ·rw [q1] at e; cases e; exact ⟨v, q3, q2⟩
  refine ⟨v, h1, .inl ⟨?_, h2⟩⟩
  obtain ⟨q, hq, hx⟩ : ∃ q ∈ params.args.map (·.arg), q = x := by
   have hmem := List.mem_reverse.mp (mem_of_lookup h2)
   exact ⟨_, (List.of_mem_zip hmem).1, rfl⟩
  subst hx
  exact beq_iff_eq.mp (List.all_eq_true.mp hloc q hq)
 ·obtain ⟨ml, mc, S2, _⟩ := S1
  cases fl with
  | ret v => exact ⟨c1, g1, v, rfl, w1, hf, Hf.tail S2⟩
  | _ => exact hf.elim
end

end
section
noncomputable def Itr (prog : Program) (w : World) (tgt : Expr) : List PyData -> Heap -> Led -> Value -> Prop
 | [], g, il, it => ∀ (A : Around) (c : Cx) (g1 : Heap) (own : Led) (s : Shared) (E : Value -> Shared -> Prop) (Q : Option Value -> Shared -> Prop), AOk 2 A -> (∀ b o, g.get? b = some o -> g1.get? b = some o) -> Hf c g1 (il ++ own) s ->
   (∀ s', Hf c g1 own s' -> Q none s') -> wpAny (model prog w) A (pyNext it) Q E s
 | d :: ds, g, il, it => ∀ (A : Around) (c : Cx) (g1 : Heap) (own : Led) (s : Shared) (E : Value -> Shared -> Prop) (Q : Value -> Shared -> Prop), AOk 2 A -> (∀ b o, g.get? b = some o -> g1.get? b = some o) -> Hf c g1 (il ++ own) s ->
   (∀ g2 il' v s', (∀ b o, g1.get? b = some o -> g2.get? b = some o) -> Rd prog w g2 v d -> Itr prog w tgt ds g2 il' it -> Hf c g2 (il' ++ own) s' -> Q v s') ->
   wpAny (model prog w) A (pyNext it) (fun r s1 => match r with | none => False | some v => wpAny (model prog w) A (letOwnedTupleGo tgt it v) (fun _ s2 => Q v s2) E s1) E s
noncomputable def Slf (prog : Program) (w : World) (g : Heap) (il : Led) (it : Value) : Prop :=
 ∀ (A : Around) (c : Cx) (g1 : Heap) (own : Led) (s : Shared) (E : Value -> Shared -> Prop) (Q : Value -> Shared -> Prop), (∀ b o, g.get? b = some o -> g1.get? b = some o) -> Hf c g1 (il ++ own) s -> (∀ s', Hf c g1 (il ++ own) s' -> Q it s') -> wpAny (model prog w) A (pyIter it) Q E s
noncomputable def It (prog : Program) (w : World) (n : Nat) (sc : Sc) (m : AM) (σ : OwnL) (e tgt : Expr) (ds : List PyData) : Prop :=
 ∀ (A : Around) (c : Cx) (g : Heap) (F : Frm) (rest : RL) (s : Shared) (E : Value -> Shared -> Prop) (Q : Value -> Shared -> Prop), AOk n A -> Base w g -> FrOk sc F -> St prog w c g F m σ rest s ->
  (∀ c' g' il it s', Wle c g c' g' -> Itr prog w tgt ds g' il it -> Slf prog w g' il it -> St prog w c' g' F m σ ⟨il ++ rest.il, rest.kp⟩ s' -> Q it s') ->
  wpAny (model prog w) A (eval e F.env) (fun x s1 => wpAny (model prog w) A (pyIter x) Q E s1) E s
noncomputable def Bd (prog : Program) (w : World) (n : Nat) (sc : Sc) (tgt : Expr) (body : List Stmt) (d : PyData) (m : AM) (σ : OwnL) (fl : Fl) (m' : AM) (σ' : OwnL) : Prop :=
 ∀ (A : Around) (c : Cx) (g : Heap) (F : Frm) (rest : RL) (s : Shared) (E : Value -> Shared -> Prop) (Q : Flow -> Shared -> Prop) (v : Value), AOk n A -> Base w g -> FrOk sc F -> St prog w c g F m σ rest s -> Rd prog w g v d ->
  (∀ c' g' f s', Wle c g c' g' -> FlOk prog w g' f fl -> St prog w c' g' F m' σ' rest s' -> Q f s') -> wpAny (model prog w) A (assign tgt F.env v) (fun _ s1 => wpAny (model prog w) A (execs body F.env) Q E s1) E s
noncomputable def Lp (prog : Program) (w : World) (n : Nat) (sc : Sc) (tgt : Expr) (body : List Stmt) : List PyData -> AM -> OwnL -> Fl -> AM -> OwnL -> Prop
 | [], m, σ, fl, m', σ' => fl = .next /\ m' = m /\ σ' = σ
 | d :: ds, m, σ, fl, m', σ' => ∃ f m1 σ1, Bd prog w n sc tgt body d m σ f m1 σ1 /\ match f with
   | .next | .cont => Lp prog w n sc tgt body ds m1 σ1 fl m' σ'
   | .brk => fl = .next /\ m' = m1 /\ σ' = σ1
   | .ret a => fl = .ret a /\ m' = m1 /\ σ' = σ1
noncomputable def BdP (prog : Program) (w : World) (n : Nat) (sc : Sc) (tgt : Expr) (body : List Stmt) (d : PyData) (m : AM) (σ : OwnL) (K : Fl -> AM -> OwnL -> Prop) : Prop :=
 ∀ (A : Around) (c : Cx) (g : Heap) (F : Frm) (rest : RL) (s : Shared) (E : Value -> Shared -> Prop) (Q : Flow -> Shared -> Prop) (v : Value), AOk n A -> Base w g -> FrOk sc F -> St prog w c g F m σ rest s -> Rd prog w g v d ->
  (∀ c' g' f s' fl m' σ', K fl m' σ' -> Wle c g c' g' -> FlOk prog w g' f fl -> St prog w c' g' F m' σ' rest s' -> Q f s') -> wpAny (model prog w) A (assign tgt F.env v) (fun _ s1 => wpAny (model prog w) A (execs body F.env) Q E s1) E s
noncomputable def LpP (prog : Program) (w : World) (n : Nat) (sc : Sc) (tgt : Expr) (body : List Stmt) (K : Fl -> AM -> OwnL -> Prop) : List PyData -> AM -> OwnL -> Prop
 | [], m, σ => K .next m σ
 | d :: ds, m, σ => BdP prog w n sc tgt body d m σ fun f m1 σ1 => match f with
   | .next | .cont => LpP prog w n sc tgt body K ds m1 σ1
   | .brk => K .next m1 σ1
   | .ret a => K (.ret a) m1 σ1
section
variable {prog : Program} {w : World} {c c' : Cx} {g g' : Heap} {own : Led} {s s' : Shared} {n k : Nat} {sc : Sc} {m m' m1 : AM} {σ σ' σ1 : OwnL} {e tgt : Expr} {es : List Expr} {a : AV} {d : PyData} {ds : List PyData} {x : Str} {pos p : Pos} {body : List Stmt} {fl : Fl} {F : Frm} {rest : RL} {v it : Value} {il : Led}
theorem Itr.up (h : Itr prog w tgt ds g il it) (k : ∀ b o, g.get? b = some o -> g'.get? b = some o) : Itr prog w tgt ds g' il it := by
 cases ds with
 | nil => exact fun A c g1 own s E Q hA k1 => h A c g1 own s E Q hA fun b o z => k1 b o (k b o z)
 | cons d ds => exact fun A c g1 own s E Q hA k1 => h A c g1 own s E Q hA fun b o z => k1 b o (k b o z)
theorem bd_name (hk : Stb sc x) (h : Ex prog w n sc ((x, .d d) :: m) σ body fl m' σ') : Bd prog w n sc (.Name x p) body d m σ fl m' σ' := fun A c g F rest s E Q v hA B hF S r q =>
 wpAny_assign_Name (S.store (hk.of hF) hF (a := .d d) r fun s1 S1 => h A c g F rest s1 E Q hA B hF S1 q)
theorem bd_tup {kk : Nat} (U : Unp sc es ds m m1) (h : Ex prog w n sc m1 σ body fl m' σ') : Bd prog w n sc (.Tuple es kk p) body (.tuple ds) m σ fl m' σ' := fun A c g F rest s E Q v hA B hF S r q =>
 U.at hA.hh hF S r fun s1 S1 => h A c g F rest s1 E Q hA B hF S1 q
theorem il_perm {ml mc : Str -> Option Value} {il rl kp : Led} : (frmLed F ml mc ++ (ownLed prog w g σ ++ ((il ++ rl) ++ kp))).Perm (il ++ (frmLed F ml mc ++ (ownLed prog w g σ ++ (rl ++ kp)))) := by
 rw [List.append_assoc]
 exact (List.Perm.append_left _ (List.perm_append_comm_assoc _ _ _)).trans (List.perm_append_comm_assoc _ _ _)
theorem next_some {A : Around} {E : Value -> Shared -> Prop} {K : Value -> Shared -> Prop} {N : Shared -> Prop} (h : wpAny (model prog w) A (pyNext it) (fun r s1 => match r with | none => False | some v => wpAny (model prog w) A (letOwnedTupleGo tgt it v) (fun _ s2 => K v s2) E s1) E s) :
  wpAny (model prog w) A (pyNext it) (fun r s1 => match r with | none => N s1 | some v => wpAny (model prog w) A (letOwnedTupleGo tgt it v) (fun _ s2 => K v s2) E s1) E s :=
 wpAny_mono h (fun r s2 z => by cases r with | none => exact z.elim | some v => exact z) fun _ _ z => z
theorem St.front {il rl kp : Led} (S : St prog w c g F m σ ⟨il ++ rl, kp⟩ s) : ∃ L, Hf c g (il ++ L) s /\ ∀ c' g' il' s', (∀ b o, g.get? b = some o -> g'.get? b = some o) -> Hf c' g' (il' ++ L) s' -> St prog w c' g' F m σ ⟨il' ++ rl, kp⟩ s' := by
 obtain ⟨ml, mc, S, hm⟩ := S
 exact ⟨_, S.perm il_perm, fun c' g' il' s' k S' => ⟨ml, mc, ownLed_up k (S'.perm il_perm.symm), fun x a e => let ⟨v, h1, h2⟩ := hm x a e; ⟨v, h1.up k, h2.up k⟩⟩⟩
variable {ss : List Stmt} {st : Stmt} {K K1 : Fl -> AM -> OwnL -> Prop}
theorem es_toP (h : Es prog w n sc m σ st fl m' σ') (hK : K fl m' σ') : EsP prog w n sc m σ st K := fun A c g F rest s E Q hA B hF S q => h A c g F rest s E Q hA B hF S fun c' g' f s' => q c' g' f s' _ _ _ hK
theorem ex_toP (h : Ex prog w n sc m σ ss fl m' σ') (hK : K fl m' σ') : ExP prog w n sc m σ ss K := fun A c g F rest s E Q hA B hF S q => h A c g F rest s E Q hA B hF S fun c' g' f s' => q c' g' f s' _ _ _ hK
theorem EsP.toS (h : EsP prog w n sc m σ st fun a b c => a = fl /\ b = m' /\ c = σ') : Es prog w n sc m σ st fl m' σ' := fun A c g F rest s E Q hA B hF S q => h A c g F rest s E Q hA B hF S fun c' g' f s' _ _ _ hK w' hf S' => by obtain ⟨rfl, rfl, rfl⟩ := hK; exact q c' g' f s' w' hf S'
theorem exp_nil (hK : K .next m σ) : ExP prog w n sc m σ [] K := ex_toP ex_nil hK
theorem exp_consP (h1 : EsP prog w n sc m σ st K1) (h2 : ∀ m1 σ1, K1 .next m1 σ1 -> ExP prog w n sc m1 σ1 ss K) (h3 : ∀ fl m1 σ1, fl ≠ .next -> K1 fl m1 σ1 -> K fl m1 σ1) : ExP prog w n sc m σ (st :: ss) K := fun A c g F rest s E Q hA B hF S q =>
 wpAny_execs_cons (h1 A c g F rest s E _ hA B hF S fun c1 g1 f s1 fl m1 σ1 hK w1 hf S1 => by
  cases f with
  | next =>
   cases fl <;> first | exact hf.elim | exact h2 m1 σ1 hK A c1 g1 F rest s1 E Q hA (B.keeps w1.up) hF S1 fun c2 g2 f s2 _ _ _ hK w2 => q c2 g2 f s2 _ _ _ hK (w1.trans w2)
  | _ => exact q c1 g1 _ s1 fl m1 σ1 (h3 _ _ _ (by rintro rfl; exact hf.elim) hK) w1 hf S1)
theorem exp_cons (h1 : Es prog w n sc m σ st .next m1 σ1) (h2 : ExP prog w n sc m1 σ1 ss K) : ExP prog w n sc m σ (st :: ss) K :=
 exp_consP (K1 := fun a b c => a = .next /\ b = m1 /\ c = σ1) (es_toP h1 ⟨rfl, rfl, rfl⟩) (fun _ _ z => by obtain ⟨_, rfl, rfl⟩ := z; exact h2) fun _ _ _ hn z => absurd z.1 hn
theorem exp_stop (h1 : Es prog w n sc m σ st fl m' σ') (hfl : fl ≠ .next) (hK : K fl m' σ') : ExP prog w n sc m σ (st :: ss) K := ex_toP (ex_stop h1 hfl) hK
theorem exp_pre (h : ExP prog w n sc m1 σ ss K) (hm : ∀ x a, m1.lookup x = some a -> m.lookup x = some a) : ExP prog w n sc m σ ss K := fun A c g F rest s E Q hA B hF S q => h A c g F rest s E Q hA B hF (S.weak hm) q
theorem bdp_tup {kk : Nat} (U : Unp sc es ds m m1) (h : ExP prog w n sc m1 σ body K) : BdP prog w n sc (.Tuple es kk p) body (.tuple ds) m σ K := fun A c g F rest s E Q v hA B hF S r q =>
 U.at hA.hh hF S r fun s1 S1 => h A c g F rest s1 E Q hA B hF S1 q
inductive LoopR (prog : Program) (w : World) (c : Cx) (g : Heap) (F : Frm) (K : Fl -> AM -> OwnL -> Prop) (rest : RL) (r : Result) (s' : Shared) : Prop
 | mk (c' : Cx) (g' : Heap) (f : Flow) (fl : Fl) (m' : AM) (σ' : OwnL) (e : r = .ok f) (hK : K fl m' σ') (w' : Wle c g c' g') (hf : FlOk prog w g' f fl) (S : St prog w c' g' F m' σ' rest s') : LoopR prog w c g F K rest r s'
inductive ForI (prog : Program) (w : World) (n : Nat) (sc : Sc) (tgt : Expr) (body : List Stmt) (K : Fl -> AM -> OwnL -> Prop) (c : Cx) (g : Heap) (F : Frm) (rest : RL) (it : Value) (k : Nat) (s : Shared) : Prop
 | mk (ds : List PyData) (m : AM) (σ : OwnL) (il : Led) (c1 : Cx) (g1 : Heap) (e : k = ds.length) (hl : LpP prog w n sc tgt body K ds m σ) (hI : Itr prog w tgt ds g1 il it) (w1 : Wle c g c1 g1) (S : St prog w c1 g1 F m σ ⟨il ++ rest.il, rest.kp⟩ s) : ForI prog w n sc tgt body K c g F rest it k s
theorem es_forP (hi : It prog w n sc m σ e tgt ds) (hl : LpP prog w n sc tgt body K ds m σ) (h2 : 2 <= n) (hs : autoParam (∀ env x, foldedSetIterable e env x = pure x) auI2) : EsP prog w n sc m σ (.For tgt e body [] pos) K := fun A c g F rest s E Q hA B hF S q => by
 refine wpAny_For (hi A c g F rest s E _ hA B hF S fun c1 g1 il it s1 w1 hI _ S1 => ?_) (hs _)
 refine codeAny_mono (for_loop (R := LoopR prog w c g F K rest) (ForI prog w n sc tgt body K c g F rest it) ?_ _ ⟨ds, m, σ, il, c1, g1, rfl, hl, hI, w1, S1⟩) fun r s' z => ?_
 ·rintro k s ⟨ds, m, σ, il, c1, g1, rfl, hl, hI, w1, S1⟩
  obtain ⟨L, S2, back⟩ := S1.front
  cases ds with
  | nil => exact hI A c1 g1 _ _ _ _ (hA.mono h2) (fun _ _ z => z) S2 fun s' S' => ⟨c1, g1, .next, _, _, _, rfl, hl, w1, trivial, back c1 g1 [] s' (fun _ _ z => z) S'⟩
  | cons d ds =>
   refine next_some (hI A c1 g1 _ _ _ _ (hA.mono h2) (fun _ _ z => z) S2 fun g2 il' v s' k2 r2 hI2 S3 => ?_)
   refine hl A c1 g2 F _ s' _ _ v hA (B.keeps fun b o z => k2 b o (w1.up b o z)) hF (back c1 g2 il' s' k2 S3) r2 fun c3 g3 fl' s3 f m1 σ1 hr w3 hf S4 => ?_
   have w4 := (w1.trans (.grow k2)).trans w3
   obtain ⟨L, S5, back⟩ := S4.front
   have drop : St prog w c3 g3 F m1 σ1 rest s3 := back c3 g3 [] s3 (fun _ _ z => z) ((Hf.perm S5 List.perm_append_comm).dropR)
   cases f <;> cases fl' <;> first | exact hf.elim | exact ⟨_, Nat.lt_succ_self _, ds, m1, σ1, il', c3, g3, rfl, hr, hI2.up w3.up, w4, S4⟩ | exact ⟨c3, g3, _, _, _, _, rfl, hr, w4, hf, drop⟩
 ·obtain ⟨c', g', f, fl, m', σ', rfl, hK, w', hf, S'⟩ := z
  exact q c' g' f s' fl m' σ' hK w' hf S'
theorem Lp.toP (h : Lp prog w n sc tgt body ds m σ fl m' σ') (hK : K fl m' σ') : LpP prog w n sc tgt body K ds m σ := by
 induction ds generalizing m σ with
 | nil => obtain ⟨rfl, rfl, rfl⟩ := h; exact hK
 | cons d ds ih =>
  obtain ⟨f, m1, σ1, hb, hr⟩ := h
  refine fun A c g F rest s E Q v hA B hF S r q => hb A c g F rest s E Q v hA B hF S r fun c' g' f' s' => q c' g' f' s' f m1 σ1 ?_
  cases f with
  | next => exact ih hr
  | cont => exact ih hr
  | brk => obtain ⟨rfl, rfl, rfl⟩ := hr; exact hK
  | ret a => obtain ⟨rfl, rfl, rfl⟩ := hr; exact hK
theorem es_for (hi : It prog w n sc m σ e tgt ds) (hl : Lp prog w n sc tgt body ds m σ fl m' σ') (h2 : 2 <= n) (hs : autoParam (∀ env x, foldedSetIterable e env x = pure x) auI2) : Es prog w n sc m σ (.For tgt e body [] pos) fl m' σ' :=
 (es_forP hi (hl.toP ⟨rfl, rfl, rfl⟩) h2 hs).toS
end

end
section
noncomputable def itLed (h : Heap) (wr : List Addr) : Led := wr.map fun b => (b, fun o => h.get? b = some o)
section
variable {prog : Program} {w : World} {c : Cx} {g g' : Heap} {own : Led} {s : Shared} {k : Nat} {e e1 e2 tgt : Expr} {es : List Expr} {a : AV} {ds : List PyData} {p : Pos} {v : Value} {I : Addr} {fp wr : List Addr} {St' : Nat -> Heap -> Prop} {h0 : Heap}
theorem itLed_at (S : Hf c g (itLed h0 wr ++ own) s) (hg : ∀ b o, g'.get? b = some o -> h0.get? b = some o) (hgg : ∀ b o, g'.get? b = some o -> g.get? b = some o) (hf : ∀ b ∈ fp, b ∈ wr \/ ∃ o, g'.get? b = some o) : ∀ b ∈ fp, ∀ o, h0.get? b = some o -> s.heap.get? b = some o := fun b hb o e => by
 rcases hf b hb with h | ⟨o', e'⟩
 ·obtain ⟨o', e1, e2⟩ := S.at (List.mem_append_left _ (List.mem_map_of_mem (f := fun b => (b, fun o => h0.get? b = some o)) h))
  rw [e] at e2; cases e2; exact e1
 ·rw [hg _ _ e'] at e; cases e
  exact S.keep _ _ (hgg _ _ e')
theorem itLed_next {h' : Heap} {tk : Nat} {as : Led} (S : Hf c g (itLed h0 wr ++ own) s) (hk : ∀ b o, b ∉ wr -> s.heap.get? b = some o -> h'.get? b = some o) (hl : ∀ b ∈ wr, ∃ o, h'.get? b = some o) (ha : ∀ q ∈ as, s.heap.objs.size <= q.1 /\ ∃ o, h'.get? q.1 = some o /\ q.2 o) (hd : (as.map (·.1)).Nodup) : Hf c g (as ++ (itLed h' wr ++ own)) { s with heap := h', toks := tk } := by
 have nm : ∀ h : Heap, (itLed h wr).map (·.1) = wr := fun h => by unfold itLed; rw [List.map_map]; exact List.map_id _
 have hnd := S.nodup
 rw [List.map_append, List.nodup_append, nm] at hnd
 have hlt : ∀ b ∈ wr, b < s.heap.objs.size := fun b hb => S.lt (a := b) (Pa := fun o => h0.get? b = some o) (List.mem_append_left _ (List.mem_map_of_mem (f := fun b => (b, fun o => h0.get? b = some o)) hb))
 rw [<- List.append_assoc]
 refine Hf.remake (old := itLed h0 wr) (nw := as ++ itLed h' wr) S (fun b o hb e => hk b o (by rwa [nm] at hb) e) (fun q hq => ?_) (fun q hq => ?_) ?_ rfl rfl
 ·rcases List.mem_append.mp hq with hq | hq
  ·exact (ha q hq).2
  ·obtain ⟨b, hb, rfl⟩ := List.mem_map.mp hq
   obtain ⟨o, e⟩ := hl b hb
   exact ⟨o, e, e⟩
 ·rcases List.mem_append.mp hq with hq | hq
  ·exact .inr (ha q hq).1
  ·obtain ⟨b, hb, rfl⟩ := List.mem_map.mp hq
   exact .inl (by rw [nm]; exact hb)
 ·rw [List.map_append, nm, List.nodup_append]
  refine ⟨hd, hnd.1, fun b hb b' hb' e => ?_⟩
  subst e
  obtain ⟨q, hq, rfl⟩ := List.mem_map.mp hb
  exact absurd (hlt _ hb') (Nat.not_lt.mpr (ha q hq).1)
theorem itr_walks {P : Nat -> Value -> Prop} (W : ∀ A : Around, A.handled = none -> Walks prog w A I fp wr ds.length P St') (live : ∀ i h, St' i h -> ∀ b ∈ wr, ∃ o, h.get? b = some o) (hf : ∀ b ∈ fp, b ∈ wr \/ ∃ o, g.get? b = some o)
  (hr : ∀ i v (hi : i < ds.length), P i v -> Rd prog w g v ds[i]) (hgo : ∀ (A : Around) i v (s : Shared) (E : Value -> Shared -> Prop) (Q : Unit -> Shared -> Prop), St' i s.heap -> Q () s -> wpAny (model prog w) A (letOwnedTupleGo tgt (.ref I) v) Q E s) :
  ∀ (j i : Nat) (h0 : Heap), j = ds.length - i -> i <= ds.length -> St' i h0 -> (∀ b o, g.get? b = some o -> h0.get? b = some o) -> Itr prog w tgt (ds.drop i) g (itLed h0 wr) (.ref I) := by
 have step : ∀ {h' : Heap} {tk : Nat} {h0 g1 : Heap} {c : Cx} {s : Shared} {own : Led} {i : Nat}, Hf c g1 (itLed h0 wr ++ own) s -> (∀ b o, b ∉ wr -> s.heap.get? b = some o -> h'.get? b = some o) -> St' i h' -> Hf c g1 (itLed h' wr ++ own) { s with heap := h', toks := tk } := fun S hk st => itLed_next (as := []) S hk (live _ _ st) (fun _ h => by cases h) List.nodup_nil
 intro j
 induction j with
 | zero =>
  intro i h0 hj hi st hg
  obtain rfl : i = ds.length := by omega
  rw [List.drop_length]
  intro A c g1 own s E Q hA k S q
  have st' := (W A hA.hh).frame _ _ _ st (itLed_at S hg k hf)
  refine (W A hA.hh).done s Q E st' fun h' tk hk => q _ ?_
  have := S.nodup
  have hnm : (itLed h0 wr).map (·.1) = wr := by unfold itLed; rw [List.map_map]; exact List.map_id _
  exact Hf.remake (old := itLed h0 wr) (nw := []) S (fun b o hb e => hk b o (by rwa [hnm] at hb) e) (fun _ h => by cases h) (fun _ h => by cases h) List.nodup_nil rfl rfl
 | succ j ih =>
  intro i h0 hj hi st hg
  have hlt : i < ds.length := by omega
  rw [List.drop_eq_getElem_cons hlt]
  intro A c g1 own s E Q hA k S q
  have st' := (W A hA.hh).frame _ _ _ st (itLed_at S hg k hf)
  refine (W A hA.hh).item i s _ E hlt st' fun v h' tk hP st2 hk => ?_
  refine hgo A _ v _ E _ st2 (q g1 (itLed h' wr) v _ (fun _ _ z => z) ((hr i v hlt hP).up k) ((ih (i + 1) h' (by omega) hlt st2 fun b o e => ?_).up k) (step S hk st2))
  by_cases hb : b ∈ wr
  ·have := (S.led (b, fun o => h0.get? b = some o) (List.mem_append_left _ (List.mem_map_of_mem (f := fun b => (b, fun o => h0.get? b = some o)) hb))).2
   rw [k _ _ e] at this; cases this
  ·exact hk b o hb (S.keep _ _ (k _ _ e))
theorem itr_walksT {kk : Nat} {dss : List (List PyData)} {Pt : Nat -> Array Value -> Prop} {Mid : Nat -> Addr -> Heap -> Prop} (W : ∀ A : Around, A.handled = none -> WalksT prog w A I fp wr dss.length Pt St' Mid) (live : ∀ i h, St' i h -> ∀ b ∈ wr, ∃ o, h.get? b = some o) (hf : ∀ b ∈ fp, b ∈ wr \/ ∃ o, g.get? b = some o)
  (hr : ∀ i vals (hi : i < dss.length), Pt i vals -> RdAll prog w g vals.toList dss[i]) :
  ∀ (j i : Nat) (h0 : Heap), j = dss.length - i -> i <= dss.length -> St' i h0 -> (∀ b o, g.get? b = some o -> h0.get? b = some o) -> Itr prog w (.Tuple es kk p) ((dss.drop i).map .tuple) g (itLed h0 wr) (.ref I) := by
 have hnm : ∀ h0, (itLed h0 wr).map (·.1) = wr := fun h0 => by unfold itLed; rw [List.map_map]; exact List.map_id _
 intro j
 induction j with
 | zero =>
  intro i h0 hj hi st hg
  obtain rfl : i = dss.length := by omega
  rw [List.drop_length]
  intro A c g1 own s E Q hA k S q
  have st' := (W A hA.hh).frame _ _ _ st (itLed_at S hg k hf)
  refine (W A hA.hh).done s Q E st' fun h' tk hk => q _ ?_
  exact Hf.remake (old := itLed h0 wr) (nw := []) S (fun b o hb e => hk b o (by rwa [hnm] at hb) e) (fun _ h => by cases h) (fun _ h => by cases h) List.nodup_nil rfl rfl
 | succ j ih =>
  intro i h0 hj hi st hg
  have hlt : i < dss.length := by omega
  rw [List.drop_eq_getElem_cons hlt, List.map_cons]
  intro A c g1 own s E Q hA k S q
  have st' := (W A hA.hh).frame _ _ _ st (itLed_at S hg k hf)
  refine (W A hA.hh).item i s _ E hlt st' fun T vals h' tk hP hT hTu hM hk => ?_
  refine (W A hA.hh).go es kk p i T _ _ E hM fun h2 st2 hk2 => ?_
  have hTw := (W A hA.hh).apart _ _ _ hM
  have hk3 : ∀ b o, b ∉ wr -> s.heap.get? b = some o -> h2.get? b = some o := fun b o hb e => hk2 b o hb (hk b o hb e)
  have hT2 : h2.IsTuple T vals := hTu.at fun o e => hk2 T o hTw e
  obtain ⟨o, ho, hc, n', hd⟩ := id hT2
  obtain ⟨g2, k2, ha, S2⟩ := (itLed_next (tk := tk) (as := [(T, eqO o)]) S hk3 (live _ _ st2) (fun q hq => by rw [List.mem_singleton.mp hq]; exact ⟨hT, o, ho, rfl⟩) (by simp)).freeze (List.Perm.refl _)
  obtain ⟨o', ho', rfl⟩ := ha _ List.mem_cons_self
  refine q g2 (itLed h2 wr) (.ref T) _ k2 (.tuple ⟨_, ho', hc, n', by rw [hd]⟩ ((hr i vals hlt hP).up fun b o z => k2 b o (k b o z))) ((ih (i + 1) h2 (by omega) hlt st2 fun b o e => ?_).up fun b o z => k2 b o (k b o z)) S2
  by_cases hb : b ∈ wr
  ·have := (S.led (b, fun o => h0.get? b = some o) (List.mem_append_left _ (List.mem_map_of_mem (f := fun b => (b, fun o => h0.get? b = some o)) hb))).2
   rw [k _ _ e] at this; cases this
  ·exact hk3 b o hb (S.keep _ _ (k _ _ e))
end

end
section
section
variable {prog : Program} {w : World} {c : Cx} {g : Heap} {own il : Led} {s s' : Shared} {n k : Nat} {sc : Sc} {m : AM} {σ : OwnL} {e e1 tgt : Expr} {a : AV} {d : PyData} {xs ds : List PyData} {x : Str} {pos p : Pos} {F : Frm} {rest : RL} {v : Value} {I : Addr} {fp wr : List Addr} {St' : Nat -> Heap -> Prop} {h0 : Heap}
theorem St.addIl (S : St prog w c g F m σ rest s) (H : ∀ L, Hf c g L s -> Hf c g (il ++ L) s') : St prog w c g F m σ ⟨il ++ rest.il, rest.kp⟩ s' := by
 obtain ⟨ml, mc, S, hm⟩ := S
 exact ⟨ml, mc, (H _ S).perm il_perm.symm, hm⟩
theorem slf_of (frame : ∀ i h h', St' i h -> (∀ b ∈ fp, ∀ o, h.get? b = some o -> h'.get? b = some o) -> St' i h') (self : ∀ (A : Around) i (s : Shared) (Q : Value -> Shared -> Prop) (E : Value -> Shared -> Prop), St' i s.heap -> Q (.ref I) s -> wpAny (model prog w) A (pyIter (.ref I)) Q E s)
  (st : St' 0 h0) (hg : ∀ b o, g.get? b = some o -> h0.get? b = some o) (hf : ∀ b ∈ fp, b ∈ wr \/ ∃ o, g.get? b = some o) : Slf prog w g (itLed h0 wr) (.ref I) := fun A c g1 own s E Q k S q =>
 self A 0 s Q E (frame _ _ _ st (itLed_at S hg k hf)) (q s S)
theorem letgo_other {A : Around} {E : Value -> Shared -> Prop} {Q : Unit -> Shared -> Prop} {T : String} (h : ∃ o, s.heap.get? I = some o /\ o.cls = .type T) (hT : ["enumerate", "zip", "dict_itemiterator", "dict_reverseitemiterator", "odict_iterator", "itertools.zip_longest", "itertools.pairwise"].contains T = false) (q : Q () s) : wpAny (model prog w) A (letOwnedTupleGo tgt (.ref I) v) Q E s := by
 obtain ⟨o, ho, hc⟩ := h
 have fin : ∀ b : Addr, wpAny (model prog w) A (do
   let o <- load I
   match o.cls, o.data with
   | .type n, .fields vs =>
    if ["enumerate", "zip", "dict_itemiterator", "dict_reverseitemiterator", "odict_iterator", "itertools.zip_longest", "itertools.pairwise"].contains n && vs[0]? == some (rawInt b) then
     rule "for.unpacks-the-owned-tuple"
     updateField I 0 .none
   | _, _ => pure ()) Q E s := fun b => by
  refine wpAny_bind (wpAny_load ho ?_)
  rw [hc]
  cases o.data with
  | fields vs => simp only [hT, Bool.false_and, Bool.false_eq_true, if_false]; exact wpAny_pure q
  | _ => exact wpAny_pure q
 unfold letOwnedTupleGo
 cases tgt with
 | Tuple => cases v with
  | ref b => exact fin b
  | _ => exact wpAny_pure q
 | List => cases v with
  | ref b => exact fin b
  | _ => exact wpAny_pure q
 | _ => exact wpAny_pure q
theorem RdAll.read {vs : List Value} {i : Nat} (h : RdAll prog w g vs ds) (hi : i < ds.length) (hv : vs.toArray[i]? = some v) : Rd prog w g v ds[i] := by
 obtain ⟨u, e, r⟩ := h.get (List.getElem?_eq_getElem hi)
 rw [List.getElem?_toArray, e] at hv
 cases hv; exact r
theorem walk_new {P : Nat -> Value -> Prop} {ob : Obj} {T : String} {Q : Value -> Shared -> Prop} (S1 : St prog w c g F m σ rest s) (W : ∀ A : Around, A.handled = none -> Walks prog w A s.heap.objs.size (s.heap.objs.size :: fp) [s.heap.objs.size] ds.length P St')
  (hT : ∀ i h, St' i h -> ∃ o, h.get? s.heap.objs.size = some o /\ o.cls = .type T) (hTn : ["enumerate", "zip", "dict_itemiterator", "dict_reverseitemiterator", "odict_iterator", "itertools.zip_longest", "itertools.pairwise"].contains T = false)
  (self : ∀ (A : Around) i (s' : Shared) (Q : Value -> Shared -> Prop) (E : Value -> Shared -> Prop), St' i s'.heap -> Q (.ref s.heap.objs.size) s' -> wpAny (model prog w) A (pyIter (.ref s.heap.objs.size)) Q E s')
  (hfz : ∀ b ∈ fp, ∃ o, g.get? b = some o) (hr : ∀ i v (hi : i < ds.length), P i v -> Rd prog w g v ds[i]) (st : St' 0 (s.heap.push ob)) (hob : ob.isFreed = false)
  (q : ∀ il it s', Itr prog w tgt ds g il it -> Slf prog w g il it -> St prog w c g F m σ ⟨il ++ rest.il, rest.kp⟩ s' -> Q it s') : Q (.ref s.heap.objs.size) { s with heap := s.heap.push ob } := by
 obtain ⟨L, S0⟩ := S1.base
 generalize hh : s.heap.push ob = h0 at st ⊢
 have hg : ∀ b o, g.get? b = some o -> h0.get? b = some o := fun b o z => by rw [<- hh]; exact Heap.get?_push_of_some _ (S0.keep b o z)
 have hf : ∀ b ∈ s.heap.objs.size :: fp, b ∈ [s.heap.objs.size] \/ ∃ o, g.get? b = some o := fun b hb => by
  rcases List.mem_cons.mp hb with rfl | hb
  ·exact .inl List.mem_cons_self
  ·exact .inr (hfz b hb)
 refine q (itLed h0 [s.heap.objs.size]) _ _ (itr_walks W (fun i h z b hb => ?_) hf hr (fun A i v s E Q z => letgo_other (hT i _ z) hTn) _ 0 h0 rfl (Nat.zero_le _) st hg) (slf_of (fun i h h' z hk => (W {} rfl).frame i h h' z hk) self st hg hf) (S1.addIl fun L S => ?_)
 ·rw [List.mem_singleton.mp hb]; exact let ⟨o, e, _⟩ := hT i h z; ⟨o, e⟩
 ·have := Hf.alloc (Pa := fun o => h0.get? s.heap.objs.size = some o) S ob (by rw [<- hh]; exact Heap.get?_push_size _ hob) hob
  rw [hh] at this; exact this
theorem it_list (h : Ev prog w n sc m σ e (.d (.list xs))) : It prog w n sc m σ e tgt xs := fun A c g F rest s E Q hA B hF S q =>
 h A c g F rest s E _ hA B hF S fun c1 g1 v s1 w1 r1 S1 => by
  apply r1.onList; intro a n' vs e1 hr
  obtain ⟨L, S0⟩ := S1.base
  have ha := S0.keep _ _ e1
  have hl : vs.toArray.size = xs.length := by rw [List.size_toArray, hr.len]
  have hne : a ≠ s1.heap.objs.size := Nat.ne_of_lt (Heap.lt_size ha)
  exact wpAny_pyIter_list ⟨_, ha, rfl, n', rfl⟩ (walk_new (fp := [a]) (T := "list_iterator") S1 (fun A hA => hl ▸ Walks.list hA _ _ hne vs.toArray) (fun i h z => let ⟨o, e, c, _⟩ := z.1; ⟨o, e, c⟩) (by decide) (fun A i s' Q E z => wpAny_pyIter_listiter z.1) (fun b hb => by rw [List.mem_singleton.mp hb]; exact ⟨_, e1⟩)
   (fun i v hi hv => hr.read hi hv) ⟨⟨_, Heap.get?_push_size _ rfl, rfl, rfl⟩, ⟨_, Heap.get?_push_of_some _ ha, rfl, n', rfl⟩⟩ rfl fun il it s' => q c1 g1 il it s' w1)
theorem it_tuple (h : Ev prog w n sc m σ e (.d (.tuple xs))) : It prog w n sc m σ e tgt xs := fun A c g F rest s E Q hA B hF S q =>
 h A c g F rest s E _ hA B hF S fun c1 g1 v s1 w1 r1 S1 => by
  apply r1.onTuple; intro a vs e1 hr
  obtain ⟨L, S0⟩ := S1.base
  have ha : s1.heap.IsTuple a vs.toArray := e1.at fun o => S0.keep _ o
  have hl : vs.toArray.size = xs.length := by rw [List.size_toArray, hr.len]
  obtain ⟨o, ho, hc, n', hd⟩ := id ha
  have hne : a ≠ s1.heap.objs.size := Nat.ne_of_lt (Heap.lt_size ho)
  exact wpAny_pyIter_tuple ha (walk_new (fp := [a]) (T := "tuple_iterator") S1 (fun A hA => hl ▸ Walks.tuple hA _ _ hne vs.toArray) (fun i h z => let ⟨o, e, c, _⟩ := z.1; ⟨o, e, c⟩) (by decide) (fun A i s' Q E z => wpAny_pyIter_tupleiter z.1) (fun b hb => by rw [List.mem_singleton.mp hb]; exact let ⟨o, e, _⟩ := e1; ⟨o, e⟩)
   (fun i v hi hv => hr.read hi hv) ⟨⟨_, Heap.get?_push_size _ rfl, rfl, rfl⟩, ⟨o, Heap.get?_push_of_some _ ho, hc, n', hd⟩⟩ rfl fun il it s' => q c1 g1 il it s' w1)
noncomputable def signD (x : Str) : List PyData := x.cps.toList.map fun c => .str ⟨#[c]⟩
theorem it_str (h : Ev prog w n sc m σ e (.d (.str x))) : It prog w n sc m σ e tgt (signD x) := fun A c g F rest s E Q hA B hF S q =>
 h A c g F rest s E _ hA B hF S fun c1 g1 v s1 w1 r1 S1 => by
  apply r1.onStr; intro t
  have hl : x.cps.size = (signD x).length := by simp [signD]
  have hr : ∀ i v (hi : i < (signD x).length), SignAt x i v -> Rd prog w g1 v (signD x)[i] := fun i v hi ⟨c, u, h1, h2⟩ => by
   subst h2
   rw [<- Array.getElem?_toList] at h1
   have : (signD x)[i] = .str ⟨#[c]⟩ := by
    obtain ⟨h3, h4⟩ := List.getElem?_eq_some_iff.mp h1
    simp only [signD, List.getElem_map, h4]
   rw [this]; exact .str _ _
  cases ha : x.cps.all (· < 128)
  ·exact wpAny_pyIter_wide ha (walk_new (fp := []) (T := "str_iterator") S1 (fun A hA => hl ▸ Walks.strWide hA _ x t) (fun i h z => let ⟨o, e, c, _⟩ := z; ⟨o, e, c⟩) (by decide) (fun A i s' Q E z => wpAny_pyIter_striter_wide z) (fun b hb => by cases hb) hr ⟨_, Heap.get?_push_size _ rfl, rfl, rfl⟩ rfl fun il it s' => q c1 g1 il it s' w1)
  ·exact wpAny_pyIter_ascii ha (walk_new (fp := []) (T := "str_ascii_iterator") S1 (fun A hA => hl ▸ Walks.strAscii hA _ x t) (fun i h z => let ⟨o, e, c, _⟩ := z; ⟨o, e, c⟩) (by decide) (fun A i s' Q E z => wpAny_pyIter_striter_ascii z) (fun b hb => by cases hb) hr ⟨_, Heap.get?_push_size _ rfl, rfl, rfl⟩ rfl fun il it s' => q c1 g1 il it s' w1)
noncomputable def rangeD (k : Nat) : List PyData := (List.range k).map fun (i : Nat) => PyData.int (i : Int)
theorem it_range {hp : PlainArgs e []} (G : GlB w sc x (.type "range")) (h : Ev prog w n sc m σ e (.d (.int (k : Int)))) (hk : Builtin.Range.small 0 k 1 = true) : It prog w n sc m σ (.Call (.Name x p) [e] [] pos) tgt (rangeD k) := fun A c g F rest s E Q hA B hF S q =>
 Call_ (name_b G B hF S (PySem.Pv.callWith_type1 (evl_cons h evl_nil (fun env => (hp env).1) A c g F rest s E _ _ hA B hF S fun c1 g1 vs s1 w1 r1 S1 => by
  apply r1.onOne; intro v r2; apply r2.onInt; intro t
  refine call_range_1 ?_
  have S2 : St prog w c1 g1 F m σ rest { s1 with heap := s1.heap.push { cls := .type "range", data := .fields #[.int 0 s1.toks, .int k t, .int 1 (s1.toks + 1)] }, toks := s1.toks + 1 + 1 } := S1.like fun L S => (S.push _).tok _
  have hz : (Builtin.Range.rangeSize 0 k 1) = k := by unfold Builtin.Range.rangeSize; simp; try omega
  have hl : k = (rangeD k).length := by simp [rangeD]
  refine wpAny_pyIter_range (t := s1.toks) (u := t) (v := s1.toks + 1) (Heap.get?_push_size _ rfl) hk (walk_new (fp := []) (T := "range_iterator") (P := fun i v => ∃ t, v = .int (0 + (i : Int) * 1) t) S2 (St' := fun i h => IsRangeIter h _ (0 + (i : Nat) * 1) ((k : Int) - (i : Nat)) 1) (fun A hA => by have := Walks.range (prog := prog) (w := w) hA (s1.heap.push { cls := .type "range", data := .fields #[.int 0 s1.toks, .int k t, .int 1 (s1.toks + 1)] }).objs.size 0 1 k; rw [<- hl]; exact this)
   (fun i h z => ⟨_, z, rfl⟩) (by decide) (fun A i s' Q E z => wpAny_pyIter_rangeiter z) (fun b hb => by cases hb) (fun i v hi ⟨u, hv⟩ => ?_) (by simp only [hz, IsRangeIter, Int.natCast_zero, Int.zero_mul, Int.add_zero, Int.sub_zero]; exact Heap.get?_push_size _ rfl) rfl fun il it s' => q c1 g1 il it s' w1)
  subst hv
  have : (rangeD k)[i] = .int (0 + (i : Int) * 1) := by simp [rangeD]
  rw [this]; exact .int _ _) (hp _).1 ((hp _).2 _)))
end

end
section
section
variable {prog : Program} {w : World} {c c' : Cx} {g g' : Heap} {il as : Led} {s s' : Shared} {n k : Nat} {sc : Sc} {m : AM} {σ : OwnL} {e e1 e2 tgt : Expr} {es : List Expr} {a : AV} {d : PyData} {xs ys : List PyData} {dss : List (List PyData)} {x : Str} {pos p p2 : Pos} {F : Frm} {rest : RL} {v : Value} {I : Addr} {fp wr : List Addr} {St' : Nat -> Heap -> Prop} {h' : Heap} {Pt : Nat -> Array Value -> Prop} {Mid : Nat -> Addr -> Heap -> Prop} {tk : Nat} {kk : Nat}
theorem walk_newT {Q : Value -> Shared -> Prop} (S1 : St prog w c g F m σ rest s) (keep : ∀ b o, s.heap.get? b = some o -> h'.get? b = some o) (hw : ∀ b ∈ wr, s.heap.objs.size <= b) (hnd : wr.Nodup) (ha : ∀ q ∈ as, (s.heap.objs.size <= q.1 /\ q.1 ∉ wr) /\ ∃ o, h'.get? q.1 = some o /\ q.2 o) (had : (as.map (·.1)).Nodup)
  (W : ∀ A : Around, A.handled = none -> WalksT prog w A I fp wr dss.length Pt St' Mid) (live : ∀ i h, St' i h -> ∀ b ∈ wr, ∃ o, h.get? b = some o) (hfz : ∀ g' : Heap, (∀ b o, g.get? b = some o -> g'.get? b = some o) -> (∀ q ∈ as, ∃ o, g'.get? q.1 = some o /\ q.2 o) -> ∀ b ∈ fp, b ∈ wr \/ ∃ o, g'.get? b = some o)
  (hr : ∀ i vals (hi : i < dss.length), Pt i vals -> RdAll prog w g vals.toList dss[i]) (self : ∀ (A : Around) i (s' : Shared) (Q : Value -> Shared -> Prop) (E : Value -> Shared -> Prop), St' i s'.heap -> Q (.ref I) s' -> wpAny (model prog w) A (pyIter (.ref I)) Q E s') (st : St' 0 h')
  (q : ∀ (g' : Heap) il it s', (∀ b o, g.get? b = some o -> g'.get? b = some o) -> Itr prog w (.Tuple es kk p) (dss.map .tuple) g' il it -> Slf prog w g' il it -> St prog w c g' F m σ ⟨il ++ rest.il, rest.kp⟩ s' -> Q it s') : Q (.ref I) { s with heap := h', toks := tk } := by
 have nm : ∀ h : Heap, (itLed h wr).map (·.1) = wr := fun h => by unfold itLed; rw [List.map_map]; exact List.map_id _
 obtain ⟨ml, mc, S, hm⟩ := S1
 have S2 : Hf c g (as ++ (itLed h' wr ++ (frmLed F ml mc ++ (ownLed prog w g σ ++ (rest.il ++ rest.kp))))) { s with heap := h', toks := tk } := by
  rw [<- List.append_assoc]
  refine Hf.remake (old := []) (nw := as ++ itLed h' wr) S (fun b o _ e => keep b o e) (fun q hq => ?_) (fun q hq => ?_) ?_ rfl rfl
  ·rcases List.mem_append.mp hq with hq | hq
   ·exact (ha q hq).2
   ·obtain ⟨b, hb, rfl⟩ := List.mem_map.mp hq
    obtain ⟨o, e⟩ := live _ _ st b hb
    exact ⟨o, e, e⟩
  ·rcases List.mem_append.mp hq with hq | hq
   ·exact .inr (ha q hq).1.1
   ·obtain ⟨b, hb, rfl⟩ := List.mem_map.mp hq
    exact .inr (hw b hb)
  ·rw [List.map_append, nm, List.nodup_append]
   exact ⟨had, hnd, fun b hb b' hb' e => by obtain ⟨q, hq, rfl⟩ := List.mem_map.mp hb; exact (ha q hq).1.2 (e ▸ hb')⟩
 obtain ⟨g', kg, hfr, S3⟩ := S2.freeze (List.Perm.refl _)
 have hf := hfz g' kg hfr
 have hg : ∀ b o, g'.get? b = some o -> h'.get? b = some o := fun b o z => S3.keep b o z
 exact q g' (itLed h' wr) _ _ kg (itr_walksT W live hf (fun i vals hi hP => (hr i vals hi hP).up kg) _ 0 h' rfl (Nat.zero_le _) st hg) (slf_of (fun i h h2 z hk => (W {} rfl).frame i h h2 z hk) self st hg hf)
  ⟨ml, mc, ownLed_up kg (S3.perm il_perm.symm), fun x a e => let ⟨v, h1, h2⟩ := hm x a e; ⟨v, h1.up kg, h2.up kg⟩⟩
noncomputable def enumD (xs : List PyData) : List (List PyData) := xs.zipIdx.map fun y => [.int (y.2 : Int), y.1]
theorem it_enum (G : GlB w sc x (.type "enumerate")) (hp : PlainArgs e []) (h : Ev prog w n sc m σ e (.d (.list xs))) : It prog w n sc m σ (.Call (.Name x p2) [e] [] pos) (.Tuple es kk p) ((enumD xs).map .tuple) := fun A c g F rest s E Q hA B hF S q =>
 Call_ (name_b G B hF S (PySem.Pv.callWith_type1 (evl_cons h evl_nil (fun env => (hp env).1) A c g F rest s E _ _ hA B hF S fun c1 g1 vs s1 w1 r1 S1 => by
  apply r1.onOne; intro v r2; apply r2.onList; intro l n' vs e1 hr
  obtain ⟨L, S0⟩ := S1.base
  have ha := S0.keep _ _ e1
  have hlt := Heap.lt_size ha
  have hl : vs.toArray.size = (enumD xs).length := by simp [enumD, hr.len]
  refine call_enumerate_list ⟨_, ha, rfl, n', rfl⟩ fun h' he hi hs keep => ?_
  refine wpAny_pyIter_enum he (walk_newT (tk := s1.toks) (as := []) (wr := [s1.heap.objs.size + 1, s1.heap.objs.size]) S1 keep (by simp) (by simp) (fun _ h => by cases h) List.nodup_nil
   (fun A hA => hl ▸ WalksT.enumerate hA _ _ l (by simp) (Nat.ne_of_lt (Nat.lt_succ_of_lt hlt)) (Nat.ne_of_lt hlt) vs.toArray) (fun i h z b hb => ?_) (fun g' kg _ b hb => ?_) (fun i vals hi ⟨t, u, hu, hv⟩ => ?_) (fun A i s' Q E z => let ⟨⟨_, e⟩, _⟩ := z; wpAny_pyIter_enum e) ⟨⟨_, he⟩, hi, _, keep _ _ ha, rfl, n', rfl⟩ fun g' il it s' kg => q c1 g' il it s' (w1.trans (.grow kg)))
  ·obtain ⟨⟨_, e⟩, ⟨o, e2, _⟩, _⟩ := z
   rcases List.mem_cons.mp hb with rfl | hb
   ·exact ⟨_, e⟩
   ·rw [List.mem_singleton.mp hb]; exact ⟨_, e2⟩
  ·simp only [List.mem_cons, List.not_mem_nil, or_false] at hb ⊢
   rcases hb with rfl | rfl | rfl
   ·exact .inl (.inl rfl)
   ·exact .inl (.inr rfl)
   ·exact .inr ⟨_, kg _ _ e1⟩
  ·subst hv
   have hi' : i < xs.length := by simpa [enumD] using hi
   have e3 : (enumD xs)[i] = [.int (i : Int), xs[i]] := by simp [enumD]
   rw [e3]
   exact .cons (.int _ _) (.cons (hr.read hi' hu) .nil)) (hp _).1 ((hp _).2 _)))
noncomputable def zipD (xs ys : List PyData) : List (List PyData) := (xs.zip ys).map fun y => [y.1, y.2]
theorem it_zip (G : GlB w sc x (.type "zip")) (hp : PlainArgs e1 [e2]) (hp2 : PlainArgs e2 []) (h1 : Ev prog w n sc m σ e1 (.d (.list xs))) (h2 : Ev prog w n sc m σ e2 (.d (.list ys))) : It prog w n sc m σ (.Call (.Name x p2) [e1, e2] [] pos) (.Tuple es kk p) ((zipD xs ys).map .tuple) := fun A c g F rest s E Q hA B hF S q =>
 Call_ (name_b G B hF S (PySem.Pv.callWith_type1 (evl_cons h1 (evl_cons h2 evl_nil fun env => (hp2 env).1) (fun env => (hp env).1) A c g F rest s E _ _ hA B hF S fun c1 g1 vs s1 w1 r1 S1 => by
  apply r1.onCons; intro v1 vs1 r2 r3; apply r3.onOne; intro v2 r4; apply r2.onList; intro l1 n1 us e1 hr1
  apply r4.onList; intro l2 n2 vs e2 hr2
  obtain ⟨L, S0⟩ := S1.base
  have a1 := S0.keep _ _ e1
  have a2 := S0.keep _ _ e2
  have t1 := Heap.lt_size a1
  have t2 := Heap.lt_size a2
  have hl : min us.toArray.size vs.toArray.size = (zipD xs ys).length := by simp [zipD, hr1.len, hr2.len]
  have D : ZipApart (s1.heap.objs.size + 4) (s1.heap.objs.size + 2) (s1.heap.objs.size + 3) s1.heap.objs.size (s1.heap.objs.size + 1) l1 l2 := by
   clear hl q S0 S S1 B hF hA h1 h2 hr1 hr2 a1 a2 e1 e2
   generalize s1.heap.objs.size = z at *
   have t1' : @LT.lt Nat _ l1 z := t1
   have t2' : @LT.lt Nat _ l2 z := t2
   constructor <;> (show @Ne Nat _ _; omega)
  refine call_zip_2 ⟨_, a1, rfl, n1, rfl⟩ ⟨_, a2, rfl, n2, rfl⟩ fun h' hz hTI hTO hi1 hi2 hs keep => ?_
  refine wpAny_pyIter_zip hz (walk_newT (tk := s1.toks) (as := [(s1.heap.objs.size + 2, fun _ => True)]) (wr := [s1.heap.objs.size + 4, s1.heap.objs.size + 3, s1.heap.objs.size, s1.heap.objs.size + 1]) S1 keep (by simp) (by simp) (fun q hq => ?_) (by simp)
   (fun A hA => hl ▸ WalksT.zip2 hA _ _ _ _ _ l1 l2 D us.toArray vs.toArray) (fun i h z b hb => ?_) (fun g' kg hfr b hb => ?_) (fun i vals hi ⟨u, y, hu, hy, hv⟩ => ?_) (fun A i s' Q E z => wpAny_pyIter_zip z.1) ⟨hz, hTI, ⟨_, _, hTO⟩, hi1, hi2, ⟨_, keep _ _ a1, rfl, n1, rfl⟩, ⟨_, keep _ _ a2, rfl, n2, rfl⟩⟩ fun g' il it s' kg => q c1 g' il it s' (w1.trans (.grow kg)))
  ·rw [List.mem_singleton.mp hq]; exact ⟨⟨by simp, by simp⟩, _, hTI, trivial⟩
  ·obtain ⟨z1, _, ⟨_, _, z2⟩, ⟨o3, z3, _⟩, ⟨o4, z4, _⟩, _⟩ := z
   simp only [List.mem_cons, List.not_mem_nil, or_false] at hb
   rcases hb with rfl | rfl | rfl | rfl
   ·exact ⟨_, z1⟩
   ·exact ⟨_, z2⟩
   ·exact ⟨_, z3⟩
   ·exact ⟨_, z4⟩
  ·obtain ⟨o, ho, _⟩ := hfr _ List.mem_cons_self
   simp only [List.mem_cons, List.not_mem_nil, or_false] at hb ⊢
   rcases hb with rfl | rfl | rfl | rfl | rfl | rfl | rfl
   ·exact .inl (.inl rfl)
   ·exact .inr ⟨o, ho⟩
   ·exact .inl (.inr (.inl rfl))
   ·exact .inl (.inr (.inr (.inl rfl)))
   ·exact .inl (.inr (.inr (.inr rfl)))
   ·exact .inr ⟨_, kg _ _ e1⟩
   ·exact .inr ⟨_, kg _ _ e2⟩
  ·subst hv
   have hi' : i < xs.length /\ i < ys.length := by simpa [zipD, Nat.lt_min] using hi
   have e3 : (zipD xs ys)[i] = [xs[i], ys[i]] := by simp [zipD]
   rw [e3]
   exact .cons (hr1.read hi'.1 hu) (.cons (hr2.read hi'.2 hy) .nil)) (hp _).1 ((hp _).2 _)))
theorem dict_meth {kvs : List (PyData × PyData)} {id : String} {A : Around} {E : Value -> Shared -> Prop} {Q : Value -> Shared -> Prop} (slot : Slot "dict" x id) (ty : typeOf (.builtin id) = pure (.type "method_descriptor")) (h : Ev prog w n sc m σ e (.d (.dict kvs))) (hA : AOk n A) (B : Base w g) (hF : FrOk sc F) (S : St prog w c g F m σ rest s)
  (q : ∀ (c' : Cx) (g' : Heap) (d : Addr) (o : Obj) (ka : List (Str × Value)) (s' : Shared), Wle c g c' g' -> (d == sysModules) = false -> g'.get? d = some o -> s'.heap.get? d = some o -> s'.heap.DictOf (strKind prog w) d ka -> RdKv prog w g' ka kvs -> St prog w c' g' F m σ rest s' -> wpAny (model prog w) A (call (.builtin id) [.ref d]) Q E s')
  {pl : Sem Bool} (he : eval (.Call (.Attribute e x p2) [] [] pos) F.env = (do
   let ov <- eval e F.env
   standAt p2.atName
   let (f, first) <- holding [ov] (getMethod ov x pl)
   callWith pos f first (backTo pos (starEach [] F.env)) [])) : wpAny (model prog w) A (eval (.Call (.Attribute e x p2) [] [] pos) F.env) Q E s :=
 MethodCall_ (h A c g F rest s E _ hA B hF S fun c1 g1 v s1 w1 r1 S1 => by
  apply r1.onDict; intro d o ka l1 e1 d1 hr
  obtain ⟨L, S0⟩ := S1.base
  have da : s1.heap.DictOf (strKind prog w) d ka := Heap.dictOf_iff.mpr ⟨o, S0.keep _ _ e1, d1⟩
  refine getMethod_builtin da.typeIs PySem.F.plainAttrs_dict slot ty (fun b hb => ?_) (callWith_method0 (q c1 g1 d o ka s1 w1 l1 e1 (S0.keep _ _ e1) da hr S1))
  cases hb
  obtain ⟨_, _, hx, _⟩ := d1
  exact ⟨o, S0.keep _ _ e1, hx.2.1⟩) he
theorem it_values {kvs : List (PyData × PyData)} (h : Ev prog w n sc m σ e (.d (.dict kvs))) {pl : Env -> Sem Bool} (he : autoParam (∀ env, eval (.Call (.Attribute e (Str.ofString "values") p2) [] [] pos) env = (do
   let ov <- eval e env
   standAt p2.atName
   let (f, first) <- holding [ov] (getMethod ov (Str.ofString "values") (pl env))
   callWith pos f first (backTo pos (starEach [] env)) [])) auI1) : It prog w n sc m σ (.Call (.Attribute e (Str.ofString "values") p2) [] [] pos) tgt (kvs.map (·.2)) := fun A c g F rest s E Q hA B hF S q =>
 dict_meth PySem.F.slot_dict_values PySem.F.type_dict_values h hA B hF S (fun c1 g1 d o ka s1 w1 l1 e1 e2 da hr S1 => by
  obtain ⟨ep, dat⟩ := da.dictAt
  refine call_meetsIn PySem.F.slot_dict_values da.typeIs PySem.F.entry_dict_values (PySem.F.args_dict_values_1 _) (meets_dict_values (strKind prog w) d l1) ⟨⟨ka, da⟩, ?_⟩
  have hl : ka.length = (kvs.map (·.2)).length := by rw [List.length_map, hr.len]
  have hne : d ≠ (s1.heap.push { cls := .type "dict_values", data := .fields #[.ref d] }).objs.size := by rw [Heap.size_push]; exact Nat.ne_of_lt (Nat.lt_succ_of_lt (Heap.lt_size e2))
  have S2 : St prog w c1 g1 F m σ rest { s1 with heap := s1.heap.push { cls := .type "dict_values", data := .fields #[.ref d] } } := S1.like fun L S => S.push _
  refine wpAny_pyIter_values ⟨_, Heap.get?_push_size _ rfl, rfl, rfl⟩ (dat.push _) (walk_new (fp := [d]) (T := "dict_valueiterator") (P := fun i v => ∃ k, ka[i]? = some (k, v)) (St' := fun i h => h.IsValIter _ d i ka.length ep /\ h.DictAt (strKind prog w) d ka ep) S2 (fun A hA => hl ▸ Walks.dictValues hA _ d hne ka ep) (fun i h z => let ⟨o, e, c, _⟩ := z.1; ⟨o, e, c⟩) (by decide) (fun A i s' Q E z => wpAny_pyIter_valiter z.1) (fun b hb => by rw [List.mem_singleton.mp hb]; exact ⟨o, e1⟩)
   (fun i v hi ⟨k, hv⟩ => ?_) ⟨⟨_, Heap.get?_push_size _ rfl, rfl, rfl⟩, (dat.push _).push _⟩ rfl fun il it s' => q c1 g1 il it s' w1)
  exact hr.atIdx hi hv) (he _)
end

end
theorem sz_le {k : Nat} (h : Nat.ble k 1000 = true) : k <= sizeLine := by have := Nat.le_of_ble_eq_true h; rw [sizeLine_eq]; omega
inductive Sub : AM -> AM -> Prop
 | nil {m : AM} : Sub [] m
 | cons {x : Str} {a : AV} {r m : AM} : m.lookup x = some a -> Sub r m -> Sub ((x, a) :: r) m
theorem Sub.at {m' m : AM} (h : Sub m' m) : ∀ x a, m'.lookup x = some a -> m.lookup x = some a := by
 induction h with
 | nil => intro x a e; cases e
 | @cons y b r m hy _ ih =>
  intro x a e
  rw [List.lookup_cons] at e
  cases hx : x == y with
  | true => rw [hx] at e; cases e; rw [eq_of_beq hx]; exact hy
  | false => rw [hx] at e; exact ih x a e
section
variable {prog : Program} {w : World} {n : Nat} {sc : Sc} {tgt : Expr} {body : List Stmt} {m m' m1 : AM} {σ σ' : OwnL} {fl : Fl} {d : PyData}
theorem bd_post (h : Bd prog w n sc tgt body d m σ fl m1 σ') (hm : Sub m' m1) : Bd prog w n sc tgt body d m σ fl m' σ' := fun A c g F rest s E Q v hA B hF S r q =>
 h A c g F rest s E Q v hA B hF S r fun c1 g1 f s1 w1 hf S1 => q c1 g1 f s1 w1 hf (S1.weak hm.at)
theorem ex_ret {e : Expr} {pos : Pos} {a : AV} {ss : List Stmt} (h : Ev prog w n sc m σ e a) : Ex prog w n sc m σ (.Return (some e) pos :: ss) (.ret a) [] [] := ex_stop (es_ret h) (fun h => nomatch h)
theorem ex_end (hm : Sub m' m) : Ex prog w n sc m σ [] .next m' σ := ex_post ex_nil hm.at
theorem es_ifK {e : Expr} {b : Bool} {els : List Stmt} {pos : Pos} (ht : EvT prog w n sc m σ e b) (h1 : b = true -> Ex prog w n sc m σ body .next m σ') (h2 : b = false -> Ex prog w n sc m σ els .next m σ') : Es prog w n sc m σ (.If e body els pos) .next m σ' := es_if ht h1 h2
theorem lp_fold {α β : Type} (enc : α -> PyData) (mk : β -> AM) (sg : β -> OwnL) (step : β -> α -> β) (h : ∀ b x, Bd prog w n sc tgt body (enc x) (mk b) (sg b) .next (mk (step b x)) (sg (step b x))) : ∀ (l : List α) (b : β), Lp prog w n sc tgt body (l.map enc) (mk b) (sg b) .next (mk (l.foldl step b)) (sg (l.foldl step b))
 | [], b => ⟨rfl, rfl, rfl⟩
 | x :: l, b => ⟨.next, _, _, h b x, lp_fold enc mk sg step h l (step b x)⟩
theorem es_fold {α β : Type} {enc : α -> PyData} {e : Expr} {ds : List PyData} {pos : Pos} (l : List α) (mk : β -> AM) (sg : β -> OwnL) (step : β -> α -> β) (b0 : β) (hi : It prog w n sc (mk b0) (sg b0) e tgt ds) (hd : ds = l.map enc) (h : ∀ b x, Bd prog w n sc tgt body (enc x) (mk b) (sg b) .next (mk (step b x)) (sg (step b x))) (h2 : 2 <= n)
  (hs : autoParam (∀ env x, foldedSetIterable e env x = pure x) auI2) : Es prog w n sc (mk b0) (sg b0) (.For tgt e body [] pos) .next (mk (l.foldl step b0)) (sg (l.foldl step b0)) :=
 es_for hi (hd ▸ lp_fold enc mk sg step h l b0) h2 hs
end
section
variable {prog : Program} {w : World}
theorem count_fn {kvs : List (PyData × PyData)} {is : List Int} (h : kvs.map (·.2) = is.map PyData.int) : Fn prog w 6 35 [.dict kvs] (.int (is.foldl (· + ·) 0)) := by
 refine fn_of (m0 := [(Str.ofString "callers", .d (.dict kvs))]) (fun w => by k_is) (fun w => by k_is) (len1 fun _ => rfl) (by decide) (by decide) rfl ?_ rfl rfl rfl
 refine ex_cons (es_assign (by walk_at "ev") rfl) ?_
 refine ex_cons (es_fold is (fun a => [(Str.ofString "nc", .d (.int a)), (Str.ofString "callers", .d (.dict kvs))]) (fun _ => []) (· + ·) 0 (it_values (ev_name rfl)) h (fun b i => ?_) (by decide)) ?_
 ·refine bd_post (bd_name (.inl rfl) (ex_cons (es_aug rfl (by walk_at "ev") (by walk_at "op") rfl) ex_nil)) (by walk_at "sub")
 ·exact ex_ret (by walk_at "ev")
end

section
inductive PutO (a : Addr) (d d' : PyData) : OwnL -> OwnL -> Prop
 | head {r : OwnL} : PutO a d d' ((a, d) :: r) ((a, d') :: r)
 | tail {q : Addr × PyData} {r r' : OwnL} : PutO a d d' r r' -> PutO a d d' (q :: r) (q :: r')
noncomputable def kvPut : List (PyData × PyData) -> Str -> PyData -> List (PyData × PyData)
 | [], x, d => [(.str x, d)]
 | (.str y, e) :: r, x, d => if y = x then (.str y, d) :: r else (.str y, e) :: kvPut r x d
 | p :: r, x, d => p :: kvPut r x d
theorem kvPut_c {y x : Str} {d e : PyData} {r : List (PyData × PyData)} : kvPut ((.str y, e) :: r) x d = if y = x then (.str y, d) :: r else (.str y, e) :: kvPut r x d := rfl
section
variable {prog : Program} {w : World} {c c' : Cx} {g g' : Heap} {own : Led} {s s' : Shared} {n k : Nat} {sc : Sc} {m : AM} {σ σ' : OwnL} {e e1 e2 : Expr} {es : List Expr} {ad : Addr} {a : AV} {d d' : PyData} {xs : List PyData} {x : Str} {pos p p2 : Pos} {F : Frm} {rest : RL} {v : Value} {kvs : List (PyData × PyData)} {i : Int}
theorem PutO.perm (P : PutO ad d d' σ σ') : ∃ r, (∀ g, (ownLed prog w g σ).Perm (ownE prog w g (ad, d) ++ ownLed prog w g r)) /\ ∀ g, (ownLed prog w g σ').Perm (ownE prog w g (ad, d') ++ ownLed prog w g r) := by
 induction P with
 | @head r => exact ⟨r, fun _ => .refl _, fun _ => .refl _⟩
 | @tail q r r' _ ih =>
  obtain ⟨t, h1, h2⟩ := ih
  exact ⟨q :: t, fun g => ((h1 g).append_left (ownE prog w g q)).trans (List.perm_append_comm_assoc ..), fun g => ((h2 g).append_left (ownE prog w g q)).trans (List.perm_append_comm_assoc ..)⟩
theorem led_perm {ml mc : Str -> Option Value} {t : Addr × OP} {r o rl kp : Led} (P : o.Perm (t :: r)) : (frmLed F ml mc ++ (o ++ (rl ++ kp))).Perm (t :: (frmLed F ml mc ++ (r ++ (rl ++ kp)))) :=
 (List.Perm.append_left _ (P.append_right _)).trans (by rw [List.cons_append]; exact List.perm_middle)
theorem St.turnO (P : PutO ad d d' σ σ') (S : St prog w c g F m σ rest s) (o1 : autoParam (One d) auI4) (o2 : autoParam (One d') auI4) : ∃ L, Hf c g ((ad, ownP prog w g d) :: L) s /\ ∀ s', Hf c g ((ad, ownP prog w g d') :: L) s' -> St prog w c g F m σ' rest s' := by
 obtain ⟨ml, mc, S, hm⟩ := S
 obtain ⟨r, h1, h2⟩ := P.perm (prog := prog) (w := w)
 exact ⟨_, S.perm (led_perm (by have := h1 g; rw [o1] at this; exact this)), fun s' S' => ⟨ml, mc, S'.perm (led_perm (by have := h2 g; rw [o2] at this; exact this)).symm, hm⟩⟩
theorem St.ownAt (P : PutO ad d d' σ σ') (S : St prog w c g F m σ rest s) (o1 : autoParam (One d) auI4) : ∃ o, s.heap.get? ad = some o /\ ownP prog w g d o := by
 obtain ⟨ml, mc, S, hm⟩ := S
 obtain ⟨r, h1, h2⟩ := P.perm (prog := prog) (w := w)
 exact (S.perm (led_perm (by have := h1 g; rw [o1] at this; exact this))).at List.mem_cons_self
theorem base_lt (B : Base w g) (S : Hf c g own s) : sysModules < s.heap.objs.size := by
 obtain ⟨p, l, me, mg, mb, T⟩ := B.T
 obtain ⟨o, es, ep, ho, _⟩ := T.g
 have := Heap.lt_size (S.keep _ _ ho)
 exact Nat.lt_trans (by decide) this
theorem RdKv.put {kvs : List (Str × Value)} {xs : List (PyData × PyData)} (h : RdKv prog w g kvs xs) (hd : (kvs.map (·.1)).Nodup) (hv : Rd prog w g v d) : RdKv prog w g (stored kvs x v) (kvPut xs x d) := by
 have key : ∀ {kvs : List (Str × Value)} {xs : List (PyData × PyData)}, RdKv prog w g kvs xs -> (kvs.map (·.1)).Nodup -> if x ∈ kvs.map (·.1) then RdKv prog w g (kvs.map fun kv => if kv.1 = x then (kv.1, v) else kv) (kvPut xs x d) else RdKv prog w g (kvs ++ [(x, v)]) (kvPut xs x d) := by
  intro kvs xs h hd
  induction xs generalizing kvs with
  | nil => cases h; exact .cons hv .nil
  | cons q r ih =>
   cases h with
   | @cons k u e ks _ a b =>
    rw [List.map_cons, List.nodup_cons] at hd
    have := ih b hd.2
    simp only [kvPut_c, List.map_cons, List.mem_cons]
    by_cases hk : k = x
    ·subst hk
     rw [if_pos (.inl rfl), if_pos rfl, if_pos rfl, map_store_of_not_mem _ _ _ hd.1]
     exact .cons hv b
    ·rw [if_neg hk, if_neg hk]
     by_cases hm : x ∈ ks.map (·.1)
     ·rw [if_pos (.inr hm)]; rw [if_pos hm] at this; exact .cons a this
     ·rw [if_neg (fun z => z.elim (fun z => hk z.symm) hm)]; rw [if_neg hm] at this; exact .cons a this
 have := key h hd
 unfold stored
 by_cases hm : x ∈ kvs.map (·.1)
 ·rw [if_pos hm] at this
  rw [if_pos (by obtain ⟨p, hp, rfl⟩ := List.mem_map.mp hm; exact List.any_eq_true.mpr ⟨p, hp, by simp⟩)]; exact this
 ·rw [if_neg hm] at this
  rw [if_neg (fun z => by obtain ⟨p, hp, q⟩ := List.any_eq_true.mp z; exact hm (by rw [<- of_decide_eq_true q]; exact List.mem_map_of_mem hp))]; exact this
theorem RdAll.set {vs : List Value} {xs : List PyData} (h : RdAll prog w g vs xs) (hv : Rd prog w g v d) : ∀ i, RdAll prog w g (vs.set i v) (xs.set i d) := by
 induction xs generalizing vs with
 | nil => cases h; intro i; exact .nil
 | cons q r ih =>
  cases h with
  | cons a b => intro i; cases i with
   | zero => exact .cons hv b
   | succ i => exact .cons a (ih b i)
theorem own_call {id : String} {A : Around} {E : Value -> Shared -> Prop} {Q : Value -> Shared -> Prop} {pl : Sem Bool} {name : Str} (hm : m.lookup x = some (.ref ad)) (hA : AOk n A) (B : Base w g) (hF : FrOk sc F) (S : St prog w c g F m σ rest s) (h : Ev prog w n sc m σ e (.d d))
  (slot : Slot "list" name id) (ty : typeOf (.builtin id) = pure (.type "method_descriptor")) (P : PutO ad (.list xs) d' σ σ') (hd : (x == ("__debug__" : Str)) = false) (hn : (x == ("__classdict__" : Str)) = false)
  (q : ∀ (c' : Cx) (g' : Heap) (v : Value) (s' : Shared), Wle c g c' g' -> Rd prog w g' v d -> St prog w c' g' F m σ rest s' -> wpAny (model prog w) A (call (.builtin id) [.ref ad, v]) Q E s') (hp : PlainArgs e [])
  (he : eval (.Call (.Attribute (.Name x p) name p2) [e] [] pos) F.env = (do
   let ov <- eval (.Name x p) F.env
   standAt p2.atName
   let (f, first) <- holding [ov] (getMethod ov name pl)
   callWith pos f first (backTo pos (starEach [e] F.env)) [])) : wpAny (model prog w) A (eval (.Call (.Attribute (.Name x p) name p2) [e] [] pos) F.env) Q E s := by
 refine MethodCall_ (pl := pl) ?_ he
 refine (ev_name hm hd hn : Ev prog w n sc m σ (.Name x p) _) A c g F rest s E _ hA B hF S fun c1 g1 v1 s1 w1 r1 S1 => ?_
 obtain rfl : v1 = .ref ad := r1
 obtain ⟨o, ho, vs, ⟨nn, rfl⟩, hr⟩ := S1.ownAt P
 refine getMethod_builtin ⟨_, ho, rfl⟩ PySem.F.plainAttrs_list slot ty (fun b hb => by cases hb; exact ⟨_, ho, rfl⟩) ?_
 exact callWith_method1 (evl_cons h evl_nil (fun env => (hp env).1) A c1 g1 F rest s1 E _ _ hA (B.keeps w1.up) hF S1 fun c2 g2 vs s2 w2 r2 S2 => by
  apply r2.onOne; intro v a
  exact q c2 g2 _ s2 (w1.trans w2) a S2) (hp _).1 ((hp _).2 _)
theorem es_append (hm : m.lookup x = some (.ref ad)) (P : PutO ad (.list xs) (.list (xs ++ [d])) σ σ') (h : Ev prog w n sc m σ e (.d d)) (hz : xs.length <= sizeLine) {pl : Env -> Sem Bool} {pos2 : Pos} (hp : autoParam (PlainArgs e []) auP)
  (hd : autoParam ((x == ("__debug__" : Str)) = false) auD) (hn : autoParam ((x == ("__classdict__" : Str)) = false) auD)
  (he : autoParam (∀ env, eval (.Call (.Attribute (.Name x p) (Str.ofString "append") p2) [e] [] pos) env = (do
   let ov <- eval (.Name x p) env
   standAt p2.atName
   let (f, first) <- holding [ov] (getMethod ov (Str.ofString "append") (pl env))
   callWith pos f first (backTo pos (starEach [e] env)) [])) auI1) : Es prog w n sc m σ (.Expr (.Call (.Attribute (.Name x p) (Str.ofString "append") p2) [e] [] pos) pos2) .next m σ' := fun A c g F rest s E Q hA B hF S q =>
 wpAny_Expr (own_call hm hA B hF S h PySem.F.slot_list_append PySem.F.type_list_append P hd hn (fun c1 g1 v s1 w1 r1 S1 => by
  obtain ⟨L, S2, back⟩ := S1.turnO P
  obtain ⟨o, ho, vs, ⟨nn, rfl⟩, hr⟩ := S2.at List.mem_cons_self
  exact append_at ho (fun h' hs hn => q c1 g1 _ _ w1 trivial (back _ (S2.turn (s' := { s1 with heap := h' }) hs.extBut ⟨_, hn, vs ++ [v], ⟨nn + 1, by simp⟩, hr.app (.cons r1 .nil)⟩ rfl rfl rfl))) (by simpa [hr.len] using hz)) hp (he _))
  (by unfold interactive; rw [hF.scope, hF.fn]; rfl)
theorem opi_own (P : PutO ad (.list xs) d' σ σ') (h0 : 0 <= i) (hk : i < 2 ^ 63) (hd : xs[i.toNat]? = some d) {A : Around} {E : Value -> Shared -> Prop} {Q : Value -> Shared -> Prop} {t : Tok} (S : St prog w c g F m σ rest s) (q : ∀ v, Rd prog w g v d -> Q v s) : ItemOn (model prog w) A E (.ref ad) (.int i t) Q s := by
 obtain ⟨o, ho, vs, ⟨nn, rfl⟩, hr⟩ := S.ownAt P
 obtain ⟨u, hu, ru⟩ := hr.get hd
 have hl : s.heap.IsList ad vs.toArray := ⟨_, ho, rfl, nn, rfl⟩
 exact ⟨"list", _, slot_list_getitem.lookup, hl.typeIs, wpAny_getItem_list hl h0 hk (by simpa using hu) (q u ru)⟩
theorem get_own (P : PutO ad (.list xs) d' σ σ') (h0 : 0 <= i) (hk : i < 2 ^ 63) (hd : xs[i.toNat]? = some d) {A : Around} {E : Value -> Shared -> Prop} {Q : Value -> Shared -> Prop} {t : Tok} (S : St prog w c g F m σ rest s) (q : ∀ v, Rd prog w g v d -> Q v s) : wpAny (model prog w) A (getItem (.ref ad) (.int i t)) Q E s :=
 let ⟨_, _, _, _, hg⟩ := opi_own P h0 hk hd S q; hg
theorem ev_subOwn (P : PutO ad (.list xs) d' σ σ') (h1 : Ev prog w n sc m σ e1 (.ref ad)) (h2 : Ev prog w n sc m σ e2 (.d (.int i))) (h0 : 0 <= i) (hk : i < 2 ^ 63) (hd : xs[i.toNat]? = some d) (hs : autoParam (∀ o k, subscripted e2 false o k = operate [o, k] (getItem o k)) auI2) : Ev prog w n sc m σ (.Subscript e1 e2 pos) (.d d) := fun A c g F rest s E Q hA B hF S q =>
 Subscript_ (h1 A c g F rest s E _ hA B hF S fun c1 g1 v1 s1 w1 r1 S1 => h2 A c1 g1 F rest s1 E _ hA (B.keeps w1.up) hF S1 fun c2 g2 v2 s2 w2 r2 S2 => by
  obtain rfl : v1 = .ref ad := r1
  apply r2.onInt; intro _
  exact sub_tail (opi_own P h0 hk hd S2 fun v r => q c2 g2 v s2 (w1.trans w2) r S2) (hs _ _))
theorem set_own {A : Around} {E : Value -> Shared -> Prop} {Q : Unit -> Shared -> Prop} {t : Tok} (P : PutO ad (.list xs) (.list (xs.set i.toNat d)) σ σ') (S : St prog w c g F m σ rest s) (h0 : 0 <= i) (hk : i < 2 ^ 63) (hi : i < xs.length) (hv : Rd prog w g v d) (q : ∀ s', St prog w c g F m σ' rest s' -> Q () s') :
  wpAny (model prog w) A (setItem (.ref ad) (.int i t) v) Q E s := by
 obtain ⟨L, S2, back⟩ := S.turnO P
 obtain ⟨o, ho, vs, ⟨nn, rfl⟩, hr⟩ := S2.at List.mem_cons_self
 refine ki_setAt (n := nn) ho h0 hk (by simpa [hr.len] using hi) (q _ (back _ (S2.turn (s' := { s with heap := _ }) (Heap.SameBut.update ..).extBut ⟨_, Heap.get?_update_self _ ho rfl, vs.set i.toNat v, ⟨nn, ?_⟩, hr.set hv _⟩ rfl rfl rfl)))
 simp [Obj.mapSeq]
theorem es_setOwn (P : PutO ad (.list xs) (.list (xs.set i.toNat d)) σ σ') (h : Ev prog w n sc m σ e (.d d)) (h1 : Ev prog w n sc m σ e1 (.ref ad)) (h2 : Ev prog w n sc m σ e2 (.d (.int i))) (h0 : 0 <= i) (hk : i < 2 ^ 63) (hi : i < xs.length)
  (hs : autoParam (∀ env, swapsWith e (some (.Subscript e1 e2 p)) pos.line env = pure false) auI1) : Es prog w n sc m σ (.Assign [.Subscript e1 e2 p] e pos) .next m σ' := fun A c g F rest s E Q hA B hF S q =>
 wpAny_Assign_Subscript (h A c g F rest s E _ hA B hF S fun c0 g0 v s0 w0 r0 S0 => h1 A c0 g0 F rest s0 E _ hA (B.keeps w0.up) hF S0 fun c1 g1 v1 s1 w1 r1 S1 => h2 A c1 g1 F rest s1 E _ hA (B.keeps (w0.trans w1).up) hF S1 fun c2 g2 v2 s2 w2 r2 S2 => by
  obtain rfl : v1 = .ref ad := r1
  apply r2.onInt; intro _
  exact set_own P S2 h0 hk hi (Rd.up (w1.trans w2).up r0) fun s' S' => q c2 g2 _ s' ((w0.trans w1).trans w2) trivial S') (hs _)
theorem es_augOwn {op : Operator} {d1 d2 : PyData} (P : PutO ad (.list xs) (.list (xs.set i.toNat d)) σ σ') (h1 : Ev prog w n sc m σ e1 (.ref ad)) (h2 : Ev prog w n sc m σ e2 (.d (.int i))) (hd : xs[i.toNat]? = some d1) (h : Ev prog w n sc m σ e (.d d2)) (ho : Op2 prog w n σ (inplaceOp op) (.d d1) (.d d2) (.d d)) (h0 : 0 <= i) (hk : i < 2 ^ 63)
  (hs : autoParam (∀ env ov iv new, (fun (_ : Env) => augStore e2 ov iv new) env = (do holding [new, ov, iv] (setItem ov iv new); release [new, ov, iv] []; pure Flow.next)) auI4) : Es prog w n sc m σ (.AugAssign (.Subscript e1 e2 p) op e pos) .next m σ' := fun A c g F rest s E Q hA B hF S q =>
 wpAny_AugAssign_SubscriptAny (h1 A c g F rest s E _ hA B hF S fun c1 g1 v1 s1 w1 r1 S1 => h2 A c1 g1 F rest s1 E _ hA (B.keeps w1.up) hF S1 fun c2 g2 v2 s2 w2 r2 S2 => by
  obtain rfl : v1 = .ref ad := r1
  apply r2.onInt; intro _
  exact get_own P h0 hk hd S2 fun v r => h A c2 g2 F rest s2 E _ hA (B.keeps (w1.trans w2).up) hF S2 fun c3 g3 v3 s3 w3 r3 S3 => ho A c3 g3 F m rest s3 E _ v v3 hA (B.keeps ((w1.trans w2).trans w3).up) S3 (Rd.up w3.up r) r3 fun c4 g4 v4 s4 w4 r4 S4 =>
   set_own P S4 h0 hk (by have := (List.getElem?_eq_some_iff.mp hd).1; omega) r4 fun s' S' => q c4 g4 .next s' (((w1.trans w2).trans w3).trans w4) trivial S') (fun ov iv new => hs F.env ov iv new)
end

end
section
inductive PickO (q : Addr × PyData) : OwnL -> OwnL -> Prop
 | head {r : OwnL} : PickO q (q :: r) r
 | tail {p : Addr × PyData} {r r' : OwnL} : PickO q r r' -> PickO q (p :: r) (p :: r')
noncomputable def DAt (prog : Program) (w : World) (σ : OwnL) (a : AV) (kvs : List (PyData × PyData)) : Prop :=
 ∀ (c : Cx) (g : Heap) (F : Frm) (m : AM) (rest : RL) (s : Shared) (v : Value), St prog w c g F m σ rest s -> AVok prog w g v a -> ∃ d ka, v = .ref d /\ (d == sysModules) = false /\ s.heap.DictOf (strKind prog w) d ka /\ RdKv prog w g ka kvs
section
variable {prog : Program} {w : World} {c : Cx} {g g' : Heap} {as : Led} {s s' : Shared} {n : Nat} {sc : Sc} {m : AM} {σ σ' : OwnL} {e e1 e2 : Expr} {ad : Addr} {a r : AV} {d d' : PyData} {x y : Str} {pos p p2 p3 : Pos} {F : Frm} {rest : RL} {v : Value} {kvs : List (PyData × PyData)} {b : Bool}
theorem dat_d : DAt prog w σ (.d (.dict kvs)) kvs := fun c g F m rest s v S r => by
 apply r.onDict; intro d o ka l1 e1 d1 hr
 obtain ⟨L, S0⟩ := S.base
 exact ⟨d, ka, rfl, l1, Heap.dictOf_iff.mpr ⟨o, S0.keep _ _ e1, d1⟩, hr⟩
theorem dat_o (P : PutO ad (.dict kvs) d' σ σ') (l : (ad == sysModules) = false) : DAt prog w σ (.ref ad) kvs := fun c g F m rest s v S r => by
 obtain ⟨o, ho, ka, hd, hr⟩ := S.ownAt P
 exact ⟨ad, ka, r, l, Heap.dictOf_iff.mpr ⟨o, ho, hd⟩, hr⟩
theorem dict_plain {h : Heap} {dd : Addr} {ka : List (Str × Value)} (D : h.DictOf (strKind prog w) dd ka) : ∀ b, Value.ref dd = .ref b -> ∃ o, h.get? b = some o /\ o.dict = none := fun b hb => by
 cases hb
 obtain ⟨o, _, _, ho, hx, _⟩ := D
 exact ⟨o, ho, hx.2.1⟩
theorem RdKv.opt {ka : List (Str × Value)} (h : RdKv prog w g ka kvs) (x : Str) : (kvGet kvs x = Option.none /\ valueAt ka x = Option.none) \/ ∃ d v, kvGet kvs x = some d /\ valueAt ka x = some v /\ Rd prog w g v d := by
 cases q : kvGet kvs x with
 | none => exact .inl ⟨rfl, RdKv.none h q⟩
 | some d => obtain ⟨v, h1, h2⟩ := h.at q; exact .inr ⟨d, v, rfl, h1, h2⟩
theorem op_in (D : DAt prog w σ a kvs) : Op2 prog w n σ (compareOp .In) (.d (.str x)) a (.d (.bool (kvGet kvs x).isSome)) := fun A c g F m rest s E Q v1 v2 hA B S r1 r2 q => by
 apply r1.onStr; intro t
 obtain ⟨d, ka, rfl, l, da, hr⟩ := D c g F m rest s v2 S r2
 refine wpAny_in_of (strKind_is prog w x t) l da.mapOf ?_
 have e : (valueAt ka x).isSome = (kvGet kvs x).isSome := by rcases hr.opt x with ⟨h1, h2⟩ | ⟨_, _, h1, h2, _⟩ <;> rw [h1, h2] <;> rfl
 rw [e]; exact q c g _ _ .rfl (.bool _) (S.tok _)
theorem opi_dat (D : DAt prog w σ a kvs) (hd : kvGet kvs x = some d) {A : Around} {E : Value -> Shared -> Prop} {Q : Value -> Shared -> Prop} {t : Tok} (S : St prog w c g F m σ rest s) (r : AVok prog w g v a) (q : ∀ v s', Rd prog w g v d -> St prog w c g F m σ rest s' -> Q v s') : ItemOn (model prog w) A E v (.str x t) Q s := by
 obtain ⟨d, ka, rfl, l, da, hr⟩ := D c g F m rest s v S r
 obtain ⟨u, hu, ru⟩ := hr.at hd
 exact ⟨"dict", _, slot_dict_getitem.lookup, da.typeIs, wpAny_getItem_of (strKind_is prog w x t) da.mapOf hu (q u _ ru (S.tok _))⟩
theorem ev_get {pl : Env -> Sem Bool} (h : Ev prog w n sc m σ e a) (D : DAt prog w σ a kvs) (h1 : Ev prog w n sc m σ e1 (.d (.str x))) (h2 : Ev prog w n sc m σ e2 (.d d)) (hp : autoParam (PlainArgs e1 [e2]) auP) (hp2 : autoParam (PlainArgs e2 []) auP)
  (he : autoParam (∀ env, eval (.Call (.Attribute e (Str.ofString "get") p2) [e1, e2] [] pos) env = (do
   let ov <- eval e env
   standAt p2.atName
   let (f, first) <- holding [ov] (getMethod ov (Str.ofString "get") (pl env))
   callWith pos f first (backTo pos (starEach [e1, e2] env)) [])) auI1) : Ev prog w n sc m σ (.Call (.Attribute e (Str.ofString "get") p2) [e1, e2] [] pos) (.d ((kvGet kvs x).getD d)) := fun A c g F rest s E Q hA B hF S q =>
 MethodCall_ (h A c g F rest s E _ hA B hF S fun c1 g1 v s1 w1 r1 S1 => by
  obtain ⟨dd, ka, rfl, l, da, hr⟩ := D c1 g1 F m rest s1 v S1 r1
  refine getMethod_builtin da.typeIs PySem.F.plainAttrs_dict PySem.F.slot_dict_get PySem.F.type_dict_get (dict_plain da) ?_
  refine callWith_method1 (evl_cons h1 (evl_cons h2 evl_nil fun env => (hp2 env).1) (fun env => (hp env).1) A c1 g1 F rest s1 E _ _ hA (B.keeps w1.up) hF S1 fun c2 g2 vs s2 w2 r2 S2 => ?_) (hp _).1 ((hp _).2 _)
  apply r2.onCons; intro v1 vs1 ra rb; apply rb.onOne; intro v2 rb; apply ra.onStr; intro t
  obtain ⟨dd', ka', e', l', da', hr'⟩ := D c2 g2 F m rest s2 _ S2 (r1.up w2.up)
  cases e'
  refine call_meetsIn PySem.F.slot_dict_get da'.typeIs PySem.F.entry_dict_get (PySem.F.args_dict_get_3 _ _ _) (meets_dict_get_default (strKind prog w) dd (strKind_is prog w x t) l' _) ⟨_, da'.mapOf, ?_⟩
  rcases hr'.opt x with ⟨q1, q2⟩ | ⟨d', v', q1, q2, q3⟩
  ·rw [q1] at q; rw [q2]; exact q c2 g2 _ _ (w1.trans w2) rb (S2.tok _)
  ·rw [q1] at q; rw [q2]; exact q c2 g2 _ _ (w1.trans w2) q3 (S2.tok _)) (he _)
theorem ev_items {pl : Env -> Sem Bool} (G : GlB w sc x (.type "list")) (h : Ev prog w n sc m σ e a) (D : DAt prog w σ a kvs) (hz : kvs.length <= sizeLine) (hp : autoParam (PlainArgs (.Call (.Attribute e (Str.ofString "items") p2) [] [] p3) []) auP)
  (he : autoParam (∀ env, eval (.Call (.Attribute e (Str.ofString "items") p2) [] [] p3) env = (do
   let ov <- eval e env
   standAt p2.atName
   let (f, first) <- holding [ov] (getMethod ov (Str.ofString "items") (pl env))
   callWith p3 f first (backTo p3 (starEach [] env)) [])) auI1) : Ev prog w n sc m σ (.Call (.Name x p) [.Call (.Attribute e (Str.ofString "items") p2) [] [] p3] [] pos) (.d (.list (kvs.map fun y => .tuple [y.1, y.2]))) := fun A c g F rest s E Q hA B hF S q =>
 Call_ (name_b G B hF S (PySem.Pv.callWith_type1 (by
  rw [(hp _).1]
  refine spliced_cons (MethodCall_ (h A c g F rest s E _ hA B hF S fun c1 g1 v s1 w1 r1 S1 => ?_) (he _))
  obtain ⟨dd, ka, rfl, l, da, hr⟩ := D c1 g1 F m rest s1 v S1 r1
  refine getMethod_builtin da.typeIs PySem.F.plainAttrs_dict PySem.F.slot_dict_items PySem.F.type_dict_items (dict_plain da) (callWith_method0 ?_)
  obtain ⟨ep, dat⟩ := da.dictAt
  refine call_meetsIn PySem.F.slot_dict_items da.typeIs PySem.F.entry_dict_items (PySem.F.args_dict_items_1 _) (meets_dict_items (strKind prog w) dd l) ⟨⟨ka, da⟩, spliced_nil ?_⟩
  have S2 : St prog w c1 g1 F m σ rest { s1 with heap := s1.heap.push { cls := .type "dict_items", data := .fields #[.ref dd] } } := S1.like fun L S => S.push _
  refine kdx_call (knd := strKind prog w) (kvs := ka) (ep := ep) hA.hh ⟨_, Heap.get?_push_size _ rfl, rfl, rfl⟩ (dat.push _) (by rw [hr.len]; exact hz) fun h' tk acc cc as keep hl hlen hG hacc => ?_
  have H : ∀ L, Hf c1 g1 L { s1 with heap := s1.heap.push { cls := .type "dict_items", data := .fields #[.ref dd] } } -> Hf c1 g1 ((((s1.heap.push { cls := .type "dict_items", data := .fields #[.ref dd] }).objs.size, eqO { cls := .type "list", data := .seq acc cc }) :: as.map fun b => (b, fun o => h'.get? b = some o)) ++ L) { s1 with heap := h', toks := tk } := fun L S => by
   refine Hf.remake (old := []) (nw := _) S (fun b o _ z => keep b o z) (fun q hq => ?_) (fun q hq => .inr ?_) ?_ rfl rfl
   ·rcases List.mem_cons.mp hq with rfl | hq
    ·exact ⟨_, hl, rfl⟩
    ·obtain ⟨b, hb, rfl⟩ := List.mem_map.mp hq
     obtain ⟨j, hj⟩ := List.mem_iff_getElem?.mp hb
     obtain ⟨_, _, _, _, _, e3⟩ := hG.pairs j b hj
     exact ⟨_, e3, e3⟩
   ·rcases List.mem_cons.mp hq with rfl | hq
    ·exact Nat.le_refl _
    ·obtain ⟨b, hb, rfl⟩ := List.mem_map.mp hq
     exact Nat.le_of_lt (hG.above b hb)
   ·rw [List.map_cons, List.map_map, List.nodup_cons]
    have e : (List.map ((fun q : Addr × OP => q.1) ∘ fun b => (b, fun o => h'.get? b = some o)) as) = as := List.map_id _
    rw [e]
    exact ⟨fun hm => Nat.lt_irrefl _ (hG.above _ hm), hG.rise.imp fun z => Nat.ne_of_lt z⟩
  obtain ⟨g', kg, ha, S3⟩ := S2.new H
  obtain ⟨o, ho, rfl⟩ := ha _ List.mem_cons_self
  refine q c1 g' _ _ (w1.trans (.grow kg)) (.list (n := cc) (vs := acc.toList) (by rw [Array.toArray_toList]; exact ho) ?_) S3
  rw [hacc]
  have key : ∀ (as : List Addr) (ka : List (Str × Value)) (kvs : List (PyData × PyData)) (_ : RdKv prog w g1 ka kvs) (_ : as.length = ka.length) (_ : ∀ (j : Nat) (b : Addr), as[j]? = some b -> ∃ key kk u, ka[j]? = some (kk, u) /\ (strKind prog w).is kk key = true /\ g'.get? b = some { cls := .type "tuple", data := .seq #[key, u] }), RdAll prog w g' (as.map Value.ref) (kvs.map fun y => .tuple [y.1, y.2]) := by
   intro as
   induction as with
   | nil => intro ka kvs hr hl _; cases hr with | nil => exact .nil | cons _ _ => cases hl
   | cons b as ih =>
    intro ka kvs hr hl hG
    cases hr with
    | nil => cases hl
    | @cons kk u dd ka kvs ra rb =>
     obtain ⟨key, k2, u2, e1, e2, e3⟩ := hG 0 b rfl
     cases e1
     obtain ⟨t, rfl⟩ := Value.isStrOf_shape e2
     exact .cons (.tuple ⟨_, e3, rfl, 0, rfl⟩ (.cons (.str _ _) (.cons (ra.up kg) .nil))) (ih ka kvs rb (by simpa using hl) fun j b h => hG (j + 1) b h)
  refine key as ka kvs hr hlen fun j b hj => ?_
  obtain ⟨key, kk, u, e1, e2, e3⟩ := hG.pairs j b hj
  obtain ⟨o, ho, e4⟩ := ha (b, fun o => h'.get? b = some o) (List.mem_cons_of_mem _ (List.mem_map_of_mem (f := fun b => (b, fun o => h'.get? b = some o)) (List.mem_of_getElem? hj)))
  rw [e3] at e4; cases e4
  exact ⟨key, kk, u, e1, e2, ho⟩) (hp _).1 ((hp _).2 _)))
end

end
section
section
variable {prog : Program} {w : World} {c c' : Cx} {g g' : Heap} {own il as : Led} {s s' : Shared} {n k : Nat} {sc : Sc} {m m' : AM} {σ σ' σ1 : OwnL} {e e1 e2 : Expr} {es : List Expr} {ad : Addr} {a r : AV} {d d1 d2 : PyData} {xs ds : List PyData} {x y : Str} {pos p p2 : Pos} {F : Frm} {rest : RL} {v : Value} {ss : List Stmt} {fl : Fl} {kvs : List (PyData × PyData)} {i : Int} {b : Bool} {op : Operator}
theorem St.addO (S : St prog w c g F m σ rest s) (H : ∀ L, Hf c g L s -> Hf c g ((ad, ownP prog w g d) :: L) s') (o1 : autoParam (One d) auI4) : St prog w c g F m ((ad, d) :: σ) rest s' := by
 obtain ⟨ml, mc, S, hm⟩ := S
 exact ⟨ml, mc, (H _ S).perm (led_perm (by show (ownE prog w g (ad, d) ++ _).Perm _; rw [o1]; exact List.Perm.refl _)).symm, hm⟩
theorem PickO.perm {q : Addr × PyData} (P : PickO q σ σ1) : ∀ g, (ownLed prog w g σ).Perm (ownE prog w g q ++ ownLed prog w g σ1) := by
 induction P with
 | head => exact fun g => .refl _
 | tail _ ih => exact fun g => ((ih g).append_left _).trans (List.perm_append_comm_assoc ..)
theorem St.frz (P : PickO (ad, d) σ σ1) (S : St prog w c g F m σ rest s) (hx : m.lookup x = some (.ref ad)) (hd : ∀ kvs, d = .dict kvs -> (ad == sysModules) = false) (o1 : One d) (o3 : d ≠ .tab) : ∃ g', (∀ b o, g.get? b = some o -> g'.get? b = some o) /\ St prog w c g' F ((x, .d d) :: m) σ1 rest s := by
 obtain ⟨ml, mc, S, hm⟩ := S
 obtain ⟨g', kg, ha, S2⟩ := (S.perm (led_perm (by have := P.perm (prog := prog) (w := w) g; rw [o1] at this; exact this))).freeze (as := [(ad, ownP prog w g d)]) (List.Perm.refl _)
 obtain ⟨o, ho, hP⟩ := ha _ List.mem_cons_self
 refine ⟨g', kg, ml, mc, ownLed_up kg S2, fun y z hy => ?_⟩
 rw [List.lookup_cons] at hy
 cases hxy : y == x with
 | false => rw [hxy] at hy; exact let ⟨v, h1, h2⟩ := hm y z hy; ⟨v, h1.up kg, h2.up kg⟩
 | true =>
  rw [hxy] at hy; cases hy
  obtain ⟨v, h1, h2⟩ := hm x _ hx
  obtain rfl : v = .ref ad := h1
  rw [eq_of_beq hxy]
  refine ⟨.ref ad, ?_, h2.up kg⟩
  cases d with
  | list xs => obtain ⟨vs, ⟨nn, rfl⟩, hr⟩ := hP; exact .list ho (hr.up kg)
  | dict kvs => obtain ⟨ka, hk, hr⟩ := hP; exact .dict (hd _ rfl) ho hk (hr.up kg)
  | tab => exact (o3 rfl).elim
  | _ => exact hP.elim
theorem ex_freeze (P : PickO (ad, d) σ σ1) (hx : m.lookup x = some (.ref ad)) (h : Ex prog w n sc ((x, .d d) :: m) σ1 ss fl m' σ') (hd : autoParam (∀ kvs, d = .dict kvs -> (ad == sysModules) = false) auF) (o1 : autoParam (One d) auI4) (o3 : autoParam (d ≠ .tab) auO) : Ex prog w n sc m σ ss fl m' σ' := fun A c g F rest s E Q hA B hF S q => by
 obtain ⟨g', kg, S2⟩ := S.frz P hx hd o1 o3
 exact h A c g' F rest s E Q hA (B.keeps kg) hF S2 fun c1 g1 f s1 w1 => q c1 g1 f s1 ((Wle.grow kg).trans w1)
theorem ex_newList {pos2 : Pos} (h : EvL prog w n sc m σ es ds) (hz : ds.length <= sizeLine) (hk : Stb sc x) (k : ∀ ad, Ex prog w n sc ((x, .ref ad) :: m) ((ad, .list ds) :: σ) ss fl m' σ') : Ex prog w n sc m σ (.Assign [.Name x p] (.List es pos2) pos :: ss) fl m' σ' := fun A c g F rest s E Q hA B hF S q =>
 wpAny_execs_cons (wpAny_Assign_Name (List_ (h A c g F rest s E _ _ hA B hF S fun c1 g1 vs s1 w1 r1 S1 => wpAny_newObj_type (by
  have S2 : St prog w c1 g1 F m ((s1.heap.objs.size, .list ds) :: σ) rest { s1 with heap := s1.heap.push { cls := .type "list", data := .seq vs.toArray } } := S1.addO fun L S => S.alloc _ ⟨vs, ⟨0, Eq.refl _⟩, r1⟩
  exact S2.store (hk.of hF) hF (a := .ref _) (Eq.refl _) fun s3 S3 => k _ A c1 g1 F rest s3 E Q hA (B.keeps w1.up) hF S3 fun c2 g2 f s2 w2 => q c2 g2 f s2 (w1.trans w2)) (by show vs.toArray.size <= sizeLine; rw [List.size_toArray, r1.len]; exact hz))))
theorem isDict_nil : Obj.IsDictOf (strKind prog w) ({ cls := .type "dict", data := .dict #[] } : Obj) [] := ⟨#[], _, ⟨rfl, rfl, rfl⟩, rfl, fun _ h => by simp at h, .nil, List.nodup_nil⟩
theorem new_sys (B : Base w g) (S : Hf c g own s) : (s.heap.objs.size == sysModules) = false := beq_eq_false_iff_ne.mpr (Nat.ne_of_gt (base_lt B S))
theorem ex_newDict {pos2 : Pos} (hk : Stb sc x) (k : ∀ ad, (ad == sysModules) = false -> Ex prog w n sc ((x, .ref ad) :: m) ((ad, .dict []) :: σ) ss fl m' σ') : Ex prog w n sc m σ (.Assign [.Name x p] (.Dict [] [] pos2) pos :: ss) fl m' σ' := fun A c g F rest s E Q hA B hF S q => by
 obtain ⟨L, S0⟩ := S.base
 refine wpAny_execs_cons (wpAny_Assign_Name (wpAny_Dict_empty ?_) (by rfl))
 have S2 : St prog w c g F m ((s.heap.objs.size, .dict []) :: σ) rest { s with heap := s.heap.push { cls := .type "dict", data := .dict #[] } } := S.addO fun L S => S.alloc _ ⟨[], isDict_nil, .nil⟩
 exact S2.store (hk.of hF) hF (a := .ref _) (Eq.refl _) fun s3 S3 => k _ (new_sys B S0) A c g F rest s3 E Q hA B hF S3 q
theorem ev_dict0 : Ev prog w n sc m σ (.Dict [] [] pos) (.d (.dict [])) := fun A c g F rest s E Q hA B hF S q => by
 obtain ⟨L, S0⟩ := S.base
 refine wpAny_Dict_empty ?_
 obtain ⟨g', kg, ha, S2⟩ := S.new (c' := c) (s' := { s with heap := s.heap.push { cls := .type "dict", data := .dict #[] } }) (as := [(_, eqO { cls := .type "dict", data := .dict #[] })]) fun L S => S.alloc _ rfl
 obtain ⟨o, ho, rfl⟩ := ha _ List.mem_cons_self
 exact q c g' _ _ (.grow kg) (.dict (new_sys B S0) ho isDict_nil .nil) S2
theorem ev_dict1 (h1 : Ev prog w n sc m σ e1 (.d (.str x))) (h2 : Ev prog w n sc m σ e2 (.d d)) (hs : autoParam (∀ env, (evalEachOpt [some e1] env).zip ((evalEach [e2] env).map fun v => do let x <- v; standAt pos; pure x) = [(eval e1 env, do let x <- eval e2 env; standAt pos; pure x)].map fun p => (some p.1, p.2)) auI1) : Ev prog w n sc m σ (.Dict [some e1] [e2] pos) (.d (.dict [(.str x, d)])) := fun A c g F rest s E Q hA B hF S q => by
 obtain ⟨L, S0⟩ := S.base
 refine wpAny_Dict_pairs (knd := strKind prog w) (hs _) (by simp) (by simp) (evalPairs_cons ?_)
 have S2 := S.addIl (il := [(s.heap.objs.size, fun o => o.IsDictOf (strKind prog w) [])]) (s' := { s with heap := s.heap.push { cls := .type "dict", data := .dict #[] } }) fun L S => S.alloc _ isDict_nil
 refine h1 A c g F _ _ E _ hA B hF S2 fun c1 g1 v1 s1 w1 r1 S3 => wpAny_bind (h2 A c1 g1 F _ s1 E _ hA (B.keeps w1.up) hF S3 fun c2 g2 v2 s2 w2 r2 S4 => wpAny_bind (wpAny_standAt (wpAny_pure (evalPairs_nil ?_))))
 apply r1.onStr; intro t
 obtain ⟨L2, S5, back⟩ := S4.front
 obtain ⟨o, ho, hd⟩ := S5.at List.mem_cons_self
 refine ⟨[(x, v2)], ⟨strKind_is prog w x t, rfl, trivial⟩, Heap.dictOf_iff.mpr ⟨o, ho, hd⟩, fun h' hd' hs' => ?_⟩
 obtain ⟨o', ho', hd''⟩ := Heap.dictOf_iff.mp hd'
 have S6 := S5.turn (Pb := eqO o') (s' := { s2 with heap := h', toks := s2.toks + 1 }) hs'.extBut ⟨o', ho', rfl⟩ rfl rfl rfl
 obtain ⟨g3, k3, ha, S7⟩ := Hf.freeze (as := [(s.heap.objs.size, eqO o')]) (rest := L2) S6 (List.Perm.refl _)
 obtain ⟨o2, ho2, rfl⟩ := ha _ List.mem_cons_self
 exact q c2 g3 _ _ ((w1.trans w2).trans (.grow k3)) (.dict (new_sys B S0) ho2 (by simpa [merged, stored] using hd'') (.cons (Rd.up k3 r2) .nil)) (back c2 g3 [] _ k3 S7)
theorem setd_own {A : Around} {E : Value -> Shared -> Prop} {Q : Unit -> Shared -> Prop} {t : Tok} (P : PutO ad (.dict kvs) (.dict (kvPut kvs x d)) σ σ') (S : St prog w c g F m σ rest s) (hz : kvs.length <= sizeLine) (hv : Rd prog w g v d) (q : ∀ s', St prog w c g F m σ' rest s' -> Q () s') : wpAny (model prog w) A (setItem (.ref ad) (.str x t) v) Q E s := by
 obtain ⟨L, S2, back⟩ := S.turnO P
 obtain ⟨o, ho, ka, hd, hr⟩ := S2.at List.mem_cons_self
 refine wpAny_setItem_pairs (hsz := by rw [hr.len]; exact hz) (strKind_is prog w x t) (Heap.dictOf_iff.mpr ⟨o, ho, hd⟩) fun h' hd' hs => q _ (back _ ?_)
 obtain ⟨o', ho', hd''⟩ := Heap.dictOf_iff.mp hd'
 exact S2.turn (s' := { s with heap := h', toks := s.toks + 1 }) hs.extBut ⟨o', ho', _, hd'', hr.put (let ⟨_, _, _, _, _, _, nd⟩ := hd; nd) hv⟩ rfl rfl rfl
theorem es_setDict (P : PutO ad (.dict kvs) (.dict (kvPut kvs x d)) σ σ') (h : Ev prog w n sc m σ e (.d d)) (h1 : Ev prog w n sc m σ e1 (.ref ad)) (h2 : Ev prog w n sc m σ e2 (.d (.str x))) (hz : kvs.length <= sizeLine) (hs : autoParam (∀ env, swapsWith e (some (.Subscript e1 e2 p)) pos.line env = pure false) auI1) : Es prog w n sc m σ (.Assign [.Subscript e1 e2 p] e pos) .next m σ' := fun A c g F rest s E Q hA B hF S q =>
 wpAny_Assign_Subscript (h A c g F rest s E _ hA B hF S fun c0 g0 v s0 w0 r0 S0 => h1 A c0 g0 F rest s0 E _ hA (B.keeps w0.up) hF S0 fun c1 g1 v1 s1 w1 r1 S1 => h2 A c1 g1 F rest s1 E _ hA (B.keeps (w0.trans w1).up) hF S1 fun c2 g2 v2 s2 w2 r2 S2 => by
  obtain rfl : v1 = .ref ad := r1
  apply r2.onStr; intro tk
  exact setd_own P S2 hz (Rd.up (w1.trans w2).up r0) fun s' S' => q c2 g2 _ s' ((w0.trans w1).trans w2) trivial S') (hs _)
theorem es_augDict (P : PutO ad (.dict kvs) (.dict (kvPut kvs x d)) σ σ') (l : (ad == sysModules) = false) (h1 : Ev prog w n sc m σ e1 (.ref ad)) (h2 : Ev prog w n sc m σ e2 (.d (.str x))) (hd : kvGet kvs x = some d1) (h : Ev prog w n sc m σ e (.d d2)) (ho : Op2 prog w n σ (inplaceOp op) (.d d1) (.d d2) (.d d)) (hz : kvs.length <= sizeLine)
  (hs : autoParam (∀ env ov iv new, (fun (_ : Env) => augStore e2 ov iv new) env = (do holding [new, ov, iv] (setItem ov iv new); release [new, ov, iv] []; pure Flow.next)) auI4) : Es prog w n sc m σ (.AugAssign (.Subscript e1 e2 p) op e pos) .next m σ' := fun A c g F rest s E Q hA B hF S q =>
 wpAny_AugAssign_SubscriptAny (h1 A c g F rest s E _ hA B hF S fun c1 g1 v1 s1 w1 r1 S1 => h2 A c1 g1 F rest s1 E _ hA (B.keeps w1.up) hF S1 fun c2 g2 v2 s2 w2 r2 S2 => by
  apply r2.onStr; intro tk
  obtain ⟨_, _, _, _, hg⟩ := opi_dat (A := A) (E := E) (dat_o P l) hd S2 (r1.up w2.up) (Q := fun v s3 => wpAny (model prog w) A (eval e F.env) (fun v_1 s₄ => wpAny (model prog w) A (inplaceOp op v v_1) (fun new s₅ => wpAny (model prog w) A (setItem v1 (.str x ‹Tok›) new) (fun _ => Q .next) E s₅) E s₄) E s3) fun v s3 r S3 => h A c2 g2 F rest s3 E _ hA (B.keeps (w1.trans w2).up) hF S3 fun c3 g3 v3 s3 w3 r3 S3 => ho A c3 g3 F m rest s3 E _ v v3 hA (B.keeps ((w1.trans w2).trans w3).up) S3 (Rd.up w3.up r) r3 fun c4 g4 v4 s4 w4 r4 S4 => by
   obtain rfl : v1 = .ref ad := r1
   exact setd_own P S4 hz r4 fun s' S' => q c4 g4 .next s' (((w1.trans w2).trans w3).trans w4) trivial S'
  exact hg) (fun ov iv new => hs F.env ov iv new)
theorem ev_isi (G : GlB w sc x (.builtin "isinstance")) (G2 : GlB w sc y (.type "tuple")) (h : Ev prog w n sc m σ e (.d (.int i))) (hp : autoParam (PlainArgs e [.Name y p2]) auP) (hp2 : autoParam (PlainArgs (.Name y p2) []) auP) : Ev prog w n sc m σ (.Call (.Name x p) [e, .Name y p2] [] pos) (.d (.bool false)) := fun A c g F rest s E Q hA B hF S q =>
 Call_ (name_b G B hF S (callWith_method1 (by
  rw [(hp _).1]
  refine spliced_cons (h A c g F rest s E _ hA B hF S fun c1 g1 v s1 w1 r1 S1 => ?_)
  rw [(hp2 _).1]
  refine spliced_cons (name_b G2 (B.keeps w1.up) hF S1 (spliced_nil ?_))
  apply r1.onInt; intro _
  exact IsiPair.int_tuple (q c1 g1 _ _ w1 (.bool _) (S1.tok _))) (hp _).1 ((hp _).2 _)))
end

end
section
variable {prog : Program} {w : World} {c : Cx} {g g' : Heap} {s s' : Shared} {n : Nat} {sc : Sc} {m : AM} {σ : OwnL} {e e1 e2 tgt : Expr} {es : List Expr} {a r : AV} {d : PyData} {x y : Str} {pos p p2 : Pos} {kvs : List (PyData × PyData)} {kk : Nat} {body : List Stmt}
theorem walks_items {A : Around} (hh : A.handled = none) (I d : Addr) (hne : d ≠ I) (ka : List (Str × Value)) (ep : Nat) :
  WalksT prog w A I [I, d] [I] ka.length (fun i vals => ∃ key k u, ka[i]? = some (k, u) /\ (strKind prog w).is k key = true /\ vals = #[key, u]) (fun i h => (∃ ok ov, IsItemIter h I d i ka.length ep ok ov) /\ h.DictAt (strKind prog w) d ka ep)
   (fun i T h => (∃ ok ov, IsItemIterOut h I d (i + 1) ka.length ep ok ov T) /\ h.DictAt (strKind prog w) d ka ep /\ T ≠ I) where
 sub := fun b hb => by rw [List.mem_singleton.mp hb]; exact List.mem_cons_self
 frame := fun i h h' ⟨⟨ok, ov, he⟩, hm⟩ hk => ⟨⟨ok, ov, hk I List.mem_cons_self _ he⟩, hm.at' fun o e => hk d (List.mem_cons_of_mem _ List.mem_cons_self) o e⟩
 item := fun i s Q E hi ⟨⟨ok, ov, he⟩, hm⟩ hQ => by
  have hx : ka[i]? = some (ka[i].1, ka[i].2) := List.getElem?_eq_getElem hi
  refine wpAny_pyNext_items_item he hm hx fun key h' hkey ho hT hsz hk => ?_
  exact hQ s.heap.objs.size #[key, ka[i].2] h' s.toks ⟨key, _, _, hx, hkey, rfl⟩ (Nat.le_refl _) ⟨_, hT, rfl, _, rfl⟩ ⟨⟨_, _, ho⟩, hm.at' (fun o e => hk d o hne e), Nat.ne_of_gt (Heap.lt_size he)⟩ fun b o hb e => hk b o (fun z => hb (by rw [z]; exact List.mem_cons_self)) e
 go := fun elts k pos i T s Q E ⟨⟨ok, ov, ho⟩, hm, hT⟩ hQ =>
  wpAny_letOwnedTupleGo_items ho fun h' he hs => hQ h' ⟨⟨ok, ov, he⟩, hm.extBut hs.extBut hne⟩ fun b o hb e => hs.extBut b o (fun z => hb (by rw [z]; exact List.mem_cons_self)) e
 apart := fun i T h ⟨_, _, hT⟩ hm => hT (List.mem_singleton.mp hm)
 done := fun s Q E ⟨⟨ok, ov, he⟩, hm⟩ hQ => wpAny_pyNext_items_end hh he hm (by simp) fun h' hx => hQ h' s.toks fun b o hb e => hx b o (fun z => hb (by rw [z]; exact List.mem_cons_self)) e
 self := fun i s Q E ⟨⟨ok, ov, he⟩, _⟩ hQ => kcp_self he hQ
theorem walks_itemsN {A : Around} (hh : A.handled = none) (I d : Addr) (hne : d ≠ I) (ka : List (Str × Value)) (ep N : Nat) (hN : ka.length = N) :
  WalksT prog w A I [I, d] [I] N (fun i vals => ∃ key k u, ka[i]? = some (k, u) /\ (strKind prog w).is k key = true /\ vals = #[key, u]) (fun i h => (∃ ok ov, IsItemIter h I d i ka.length ep ok ov) /\ h.DictAt (strKind prog w) d ka ep)
   (fun i T h => (∃ ok ov, IsItemIterOut h I d (i + 1) ka.length ep ok ov T) /\ h.DictAt (strKind prog w) d ka ep /\ T ≠ I) := by subst hN; exact walks_items hh I d hne ka ep
theorem it_items (h : Ev prog w n sc m σ e (.d (.dict kvs))) {pl : Env -> Sem Bool} (he : autoParam (∀ env, eval (.Call (.Attribute e (Str.ofString "items") p2) [] [] pos) env = (do
   let ov <- eval e env
   standAt p2.atName
   let (f, first) <- holding [ov] (getMethod ov (Str.ofString "items") (pl env))
   callWith pos f first (backTo pos (starEach [] env)) [])) auI1) : It prog w n sc m σ (.Call (.Attribute e (Str.ofString "items") p2) [] [] pos) (.Tuple es kk p) ((kvs.map fun y => [y.1, y.2]).map .tuple) := fun A c g F rest s E Q hA B hF S q =>
 dict_meth PySem.F.slot_dict_items PySem.F.type_dict_items h hA B hF S (fun c1 g1 d o ka s1 w1 l1 e1 e2 da hr S1 => by
  obtain ⟨ep, dat⟩ := da.dictAt
  refine call_meetsIn PySem.F.slot_dict_items da.typeIs PySem.F.entry_dict_items (PySem.F.args_dict_items_1 _) (meets_dict_items (strKind prog w) d l1) ⟨⟨ka, da⟩, ?_⟩
  have hl : ka.length = (kvs.map fun y => [y.1, y.2]).length := by rw [List.length_map, hr.len]
  generalize hh1 : s1.heap.push { cls := .type "dict_items", data := .fields #[.ref d] } = h1
  have S2 : St prog w c1 g1 F m σ rest { s1 with heap := h1 } := by rw [<- hh1]; exact S1.like fun L S => S.push _
  have dat1 : h1.DictAt (strKind prog w) d ka ep := by rw [<- hh1]; exact dat.push _
  have hne : d ≠ h1.objs.size := by rw [<- hh1, Heap.size_push]; exact Nat.ne_of_lt (Nat.lt_succ_of_lt (Heap.lt_size e2))
  have hv : h1.IsItemsView s1.heap.objs.size d := by rw [<- hh1]; exact ⟨_, Heap.get?_push_size _ rfl, rfl, rfl⟩
  refine wpAny_pyIter_items (s := { s1 with heap := h1 }) hv dat1 (walk_newT (tk := s1.toks) (as := []) (I := h1.objs.size) (fp := [h1.objs.size, d]) (wr := [h1.objs.size]) (Pt := fun i vals => ∃ key k u, ka[i]? = some (k, u) /\ (strKind prog w).is k key = true /\ vals = #[key, u]) (St' := fun i h => (∃ ok ov, IsItemIter h h1.objs.size d i ka.length ep ok ov) /\ h.DictAt (strKind prog w) d ka ep) S2 (fun b o z => Heap.get?_push_of_some _ z) (by simp) (by simp) (fun _ h => by cases h) List.nodup_nil
   (fun A hA => walks_itemsN hA _ d hne ka ep _ hl) (fun i h z b hb => ?_) (fun g' kg _ b hb => ?_) (fun i vals hi ⟨key, k, u, hu, hk, hv⟩ => ?_) (fun A i s' Q E ⟨⟨_, _, z⟩, _⟩ => kcp_self z) ⟨⟨_, _, Heap.get?_push_size _ rfl⟩, dat1.push _⟩ fun g' il it s' kg => q c1 g' il it s' (w1.trans (.grow kg)))
  ·obtain ⟨⟨_, _, z⟩, _⟩ := z
   rw [List.mem_singleton.mp hb]; exact ⟨_, z⟩
  ·rcases List.mem_cons.mp hb with rfl | hb
   ·exact .inl List.mem_cons_self
   ·rw [List.mem_singleton.mp hb]; exact .inr ⟨o, kg _ _ e1⟩
  ·subst hv
   obtain ⟨t, rfl⟩ := Value.isStrOf_shape hk
   have key : ∀ {ka : List (Str × Value)} {kvs : List (PyData × PyData)} {i : Nat}, RdKv prog w g1 ka kvs -> ka[i]? = some (k, u) -> ∃ d, kvs[i]? = some (.str k, d) /\ Rd prog w g1 u d := by
    intro ka kvs i hr hi
    induction kvs generalizing ka i with
    | nil => cases hr; cases hi
    | cons p r ih => cases hr with
     | cons a b => cases i with
      | zero => cases hi; exact ⟨_, rfl, a⟩
      | succ i => exact let ⟨d, h1, h2⟩ := ih b hi; ⟨d, h1, h2⟩
   obtain ⟨dd, h1, h2⟩ := key hr hu
   have e3 : (kvs.map fun y => [y.1, y.2])[i] = [.str k, dd] := by
    obtain ⟨h3, h4⟩ := List.getElem?_eq_some_iff.mp h1
    simp [h4]
   rw [e3]; exact .cons (.str _ _) (.cons h2 .nil)) (he _)
theorem lp_foldI {α β : Type} (enc : α -> PyData) (mk : β -> AM) (sg : β -> OwnL) (step : β -> α -> β) (Inv : β -> List α -> Prop) (hI : ∀ b x l, Inv b (x :: l) -> Inv (step b x) l) (h : ∀ b x l, Inv b (x :: l) -> Bd prog w n sc tgt body (enc x) (mk b) (sg b) .next (mk (step b x)) (sg (step b x))) :
  ∀ (l : List α) (b : β), Inv b l -> Lp prog w n sc tgt body (l.map enc) (mk b) (sg b) .next (mk (l.foldl step b)) (sg (l.foldl step b))
 | [], b, _ => ⟨rfl, rfl, rfl⟩
 | x :: l, b, i => ⟨.next, _, _, h b x l i, lp_foldI enc mk sg step Inv hI h l (step b x) (hI b x l i)⟩
theorem es_foldI {α β : Type} {enc : α -> PyData} {e : Expr} {ds : List PyData} {pos : Pos} (l : List α) (mk : β -> AM) (sg : β -> OwnL) (step : β -> α -> β) (Inv : β -> List α -> Prop) (b0 : β) (i0 : Inv b0 l) (hi : It prog w n sc (mk b0) (sg b0) e tgt ds) (hd : ds = l.map enc) (hI : ∀ b x l, Inv b (x :: l) -> Inv (step b x) l) (h : ∀ b x l, Inv b (x :: l) -> Bd prog w n sc tgt body (enc x) (mk b) (sg b) .next (mk (step b x)) (sg (step b x))) (h2 : 2 <= n)
  (hs : autoParam (∀ env x, foldedSetIterable e env x = pure x) auI2) : Es prog w n sc (mk b0) (sg b0) (.For tgt e body [] pos) .next (mk (l.foldl step b0)) (sg (l.foldl step b0)) :=
 es_for hi (hd ▸ lp_foldI enc mk sg step Inv hI h l b0 i0) h2 hs
end
noncomputable def aD {α : Type} (enc : α -> PyData) (c : List (Str × α)) : List (PyData × PyData) := c.map fun y => (.str y.1, enc y.2)
noncomputable def aGet {α : Type} : List (Str × α) -> Str -> Option α
 | [], _ => none
 | (y, i) :: r, x => if y = x then some i else aGet r x
noncomputable def aPut {α : Type} : List (Str × α) -> Str -> α -> List (Str × α)
 | [], x, i => [(x, i)]
 | (y, j) :: r, x, i => if y = x then (y, i) :: r else (y, j) :: aPut r x i
theorem aGet_n {α : Type} {x : Str} : aGet ([] : List (Str × α)) x = none := rfl
theorem aGet_c {α : Type} {y x : Str} {i : α} {r : List (Str × α)} : aGet ((y, i) :: r) x = if y = x then some i else aGet r x := rfl
theorem aPut_n {α : Type} {x : Str} {i : α} : aPut [] x i = [(x, i)] := rfl
theorem aPut_c {α : Type} {y x : Str} {i j : α} {r : List (Str × α)} : aPut ((y, j) :: r) x i = if y = x then (y, i) :: r else (y, j) :: aPut r x i := rfl
section
variable {α : Type} {enc : α -> PyData}
theorem aD_get (x : Str) : ∀ c : List (Str × α), kvGet (aD enc c) x = (aGet c x).map enc
 | [] => rfl
 | (y, i) :: r => by
  have ih := aD_get x r
  simp only [aD, List.map_cons, kvGet_c, aGet_c] at ih ⊢
  by_cases e : y = x
  ·rw [if_pos e, if_pos e]; rfl
  ·rw [if_neg e, if_neg e]; exact ih
theorem aD_put (x : Str) (i : α) : ∀ c : List (Str × α), kvPut (aD enc c) x (enc i) = aD enc (aPut c x i)
 | [] => rfl
 | (y, j) :: r => by
  have ih := aD_put x i r
  simp only [aD, List.map_cons, kvPut_c, aPut_c] at ih ⊢
  by_cases e : y = x
  ·rw [if_pos e, if_pos e]; rfl
  ·rw [if_neg e, if_neg e, ih]; rfl
theorem aPut_len (x : Str) (i : α) : ∀ c : List (Str × α), (aPut c x i).length <= c.length + 1
 | [] => Nat.le_refl _
 | (y, j) :: r => by
  have ih := aPut_len x i r
  rw [aPut_c]
  split
  ·exact Nat.le_succ _
  ·exact Nat.succ_le_succ ih
theorem aGet_put (x : Str) (i : α) (z : Str) : ∀ c : List (Str × α), aGet (aPut c x i) z = if x = z then some i else aGet c z
 | [] => rfl
 | (y, j) :: r => by
  have ih := aGet_put x i z r
  rw [aPut_c, aGet_c]
  by_cases e : y = x
  ·subst e; rw [if_pos rfl]; rw [aGet_c]
   by_cases q : y = z
   ·rw [if_pos q, if_pos q]
   ·rw [if_neg q, if_neg q, if_neg q]
  ·rw [if_neg e]; rw [aGet_c, ih]
   by_cases q : y = z
   ·rw [if_pos q, if_neg (fun h => e (q.trans h.symm)), if_pos q]
   ·rw [if_neg q, if_neg q]
end
noncomputable abbrev Cs := List (Str × Int)
noncomputable abbrev csD : Cs -> List (PyData × PyData) := aD PyData.int
theorem csD_len (c : Cs) : (csD c).length = c.length := List.length_map ..
noncomputable def cAdd (c : Cs) (y : Str × Int) : Cs := aPut c y.1 (match aGet c y.1 with | some i => i + y.2 | none => y.2)
noncomputable def addC (t s : Cs) : Cs := s.foldl cAdd (t.foldl (fun c y => aPut c y.1 y.2) [])
section
variable {prog : Program} {w : World}
theorem addc_fn {t s : Cs} (hz : t.length + s.length <= 1000) : Fn prog w 8 28 [.dict (csD t), .dict (csD s)] (.dict (csD (addC t s))) := by
 refine fn_of (m0 := [(Str.ofString "source", .d (.dict (csD s))), (Str.ofString "target", .d (.dict (csD t)))]) (fun w => by k_is) (fun w => by k_is) (len2 fun _ _ => rfl) (by decide) (by decide) rfl ?_ rfl rfl rfl
 refine ex_newDict (.inl rfl) fun ad lad => ?_
 refine ex_cons (es_foldI t (enc := fun y => .tuple [.str y.1, .int y.2]) (fun _ => [(Str.ofString "new_callers", .ref ad), (Str.ofString "source", .d (.dict (csD s))), (Str.ofString "target", .d (.dict (csD t)))]) (fun c => [(ad, .dict (csD c))]) (fun c y => aPut c y.1 y.2) (fun b l => b.length + l.length <= 1000) [] (by simpa using Nat.le_trans (Nat.le_add_right _ _) hz) (it_items (ev_name rfl)) (by simp [aD]) (fun b x l h => ?_) (fun b x l h => ?_) (by decide)) ?_
 ·have := aPut_len x.1 x.2 b; simp only [List.length_cons] at h; omega
 ·refine bd_post (bd_tup (.cons (.inl rfl) (.cons (.inl rfl) .nil)) (ex_cons (es_setDict (x := x.1) (d := .int x.2) (σ' := [(ad, .dict (csD (aPut b x.1 x.2)))]) (by rw [aD_put]; exact PutO.head) (ev_name rfl) (ev_name rfl) (ev_name rfl) (by rw [sizeLine_eq, csD_len]; omega)) ex_nil)) (by walk_at "sub")
 refine ex_cons (es_foldI s (enc := fun y => .tuple [.str y.1, .int y.2]) (fun _ => [(Str.ofString "new_callers", .ref ad), (Str.ofString "source", .d (.dict (csD s))), (Str.ofString "target", .d (.dict (csD t)))]) (fun c => [(ad, .dict (csD c))]) cAdd (fun b l => b.length + l.length <= 1000) (t.foldl (fun c y => aPut c y.1 y.2) []) ?_ (it_items (ev_name rfl)) (by simp [aD]) (fun b x l h => ?_) (fun b x l h => ?_) (by decide)) ?_
 ·have key : ∀ (t b : Cs), (t.foldl (fun c y => aPut c y.1 y.2) b).length <= b.length + t.length := fun t => by
   induction t with
   | nil => intro b; exact Nat.le_refl _
   | cons y r ih => intro b; have := ih (aPut b y.1 y.2); have := aPut_len y.1 y.2 b; simp only [List.foldl_cons, List.length_cons]; omega
  have := key t []
  simp only [List.length_nil, Nat.zero_add] at this
  exact Nat.le_trans (Nat.add_le_add_right this _) hz
 ·have := aPut_len x.1 (match aGet b x.1 with | some i => i + x.2 | none => x.2) b; simp only [List.length_cons] at h; simp only [cAdd]; omega
 ·apply bd_post
  ·refine bd_tup (.cons (.inl rfl) (.cons (.inl rfl) .nil)) (ex_cons (es_ifK (evt_cmp (ev_name rfl) (ev_name rfl) (op_in (dat_o (d' := .none) PutO.head lad))) (fun hb => ?_) (fun hb => ?_)) ex_nil)
   ·refine ex_cons (es_ifK (evt_plain (ev_isi (by walk_at "glb") (by walk_at "glb") (ev_name rfl)) tr_bool) (fun h => nomatch h) fun _ => ?_) ex_nil
    rw [aD_get] at hb
    obtain ⟨i, hi⟩ : ∃ i, aGet b x.1 = some i := by
     cases hc : aGet b x.1 with
     | none => rw [hc] at hb; cases hb
     | some i => exact ⟨i, rfl⟩
    refine ex_cons (es_augDict (x := x.1) (d := .int (i + x.2)) (d1 := .int i) (by rw [aD_put]; exact PutO.head) lad (ev_name rfl) (ev_name rfl) (by rw [aD_get, hi]; rfl) (ev_name rfl) op_iadd (by rw [sizeLine_eq, csD_len]; omega)) ?_
    simp only [cAdd, hi]
    exact ex_nil
   ·rw [aD_get] at hb
    have hi : aGet b x.1 = none := by
     cases hc : aGet b x.1 with
     | none => rfl
     | some i => rw [hc] at hb; cases hb
    refine ex_cons (es_setDict (x := x.1) (d := .int x.2) (by rw [aD_put]; exact PutO.head) (ev_name rfl) (ev_name rfl) (ev_name rfl) (by rw [sizeLine_eq, csD_len]; omega)) ?_
    simp only [cAdd, hi]
    exact ex_nil
  ·walk_at "sub"
 ·refine ex_freeze (x := Str.ofString "new_callers") .head rfl ?_
  exact ex_ret (ev_name rfl)
end

structure Ent where
 cc : Int
 nc : Int
 tt : Int
 ct : Int
 cs : Cs
noncomputable def entD (e : Ent) : PyData := .tuple [.int e.cc, .int e.nc, .int e.tt, .int e.ct, .dict (csD e.cs)]
noncomputable def addE (t s : Ent) : Ent := ⟨s.cc + t.cc, s.nc + t.nc, s.tt + t.tt, s.ct + t.ct, addC t.cs s.cs⟩
section
variable {prog : Program} {w : World} {n k : Nat} {f : Addr} {ds : List PyData} {d : PyData}
theorem Fn.mono (h : Fn prog w k f ds d) (hk : k <= n) : Fn prog w n f ds d := fun A c g own s vs hA => h A c g own s vs (hA.mono hk)
theorem stat_fn {t s : Ent} (hz : t.cs.length + s.cs.length <= 1000) : Fn prog w 10 21 [entD t, entD s] (entD (addE t s)) := by
 refine fn_of (m0 := [(Str.ofString "source", .d (entD s)), (Str.ofString "target", .d (entD t))]) (fun w => by k_is) (fun w => by k_is) (len2 fun _ _ => rfl) (by decide) (by decide) rfl ?_ rfl rfl rfl
 refine ex_cons (es_unpack (ev_name rfl) (.cons (.inl rfl) (.cons (.inl rfl) (.cons (.inl rfl) (.cons (.inl rfl) (.cons (.inl rfl) .nil)))))) ?_
 refine ex_cons (es_unpack (ev_name rfl) (.cons (.inl rfl) (.cons (.inl rfl) (.cons (.inl rfl) (.cons (.inl rfl) (.cons (.inl rfl) .nil)))))) ?_
 refine ex_ret (ev_tuple ?_ (sz_le rfl))
 refine evl_cons (by walk_at "ev") (evl_cons (by walk_at "ev") (evl_cons (by walk_at "ev") (evl_cons (by walk_at "ev") (evl_cons (ev_callF (by walk_at "glf") (by walk_at "evl") ((addc_fn hz).mono (by decide))) evl_nil))))
end

section
inductive FK where
 | data (d : PyData)
 | fresh (ds : List PyData)
noncomputable def placeA : List FK -> List Addr -> List AV
 | [], _ => []
 | .data d :: ks, ads => .d d :: placeA ks ads
 | .fresh _ :: ks, ad :: ads => .ref ad :: placeA ks ads
 | .fresh _ :: _, [] => []
noncomputable def placeO : List FK -> List Addr -> OwnL -> OwnL
 | [], _, σ => σ
 | .data _ :: ks, ads, σ => placeO ks ads σ
 | .fresh ds :: ks, ad :: ads, σ => placeO ks ads ((ad, .list ds) :: σ)
 | .fresh _ :: _, [], σ => σ
noncomputable def countF : List FK -> Nat
 | [] => 0
 | .data _ :: ks => countF ks
 | .fresh _ :: ks => countF ks + 1
inductive AVs (prog : Program) (w : World) (g : Heap) : List Value -> List AV -> Prop
 | nil : AVs prog w g [] []
 | cons {v : Value} {a : AV} {vs : List Value} {as : List AV} : AVok prog w g v a -> AVs prog w g vs as -> AVs prog w g (v :: vs) (a :: as)
inductive FkOk (prog : Program) (w : World) (n : Nat) (sc : Sc) (m : AM) : OwnL -> List Expr -> List FK -> Prop
 | nil {σ : OwnL} : FkOk prog w n sc m σ [] []
 | data {σ : OwnL} {e : Expr} {d : PyData} {es : List Expr} {ks : List FK} : Ev prog w n sc m σ e (.d d) -> FkOk prog w n sc m σ es ks -> (∀ env, starEach (e :: es) env = (false, eval e env) :: starEach es env) -> FkOk prog w n sc m σ (e :: es) (.data d :: ks)
 | fresh {σ : OwnL} {l : List Expr} {p : Pos} {ds : List PyData} {es : List Expr} {ks : List FK} : EvL prog w n sc m σ l ds -> ds.length <= sizeLine -> (∀ ad, FkOk prog w n sc m ((ad, .list ds) :: σ) es ks) -> FkOk prog w n sc m σ (.List l p :: es) (.fresh ds :: ks)
section
variable {prog : Program} {w : World} {c c' : Cx} {g g' : Heap} {s s' : Shared} {n : Nat} {sc : Sc} {m m' : AM} {σ σ' : OwnL} {e : Expr} {es : List Expr} {a : AV} {as : List AV} {d : PyData} {x : Str} {pos p p2 : Pos} {F : Frm} {rest : RL} {v : Value} {vs : List Value} {ss : List Stmt} {fl : Fl} {ks : List FK} {ns : List Str} {kk kk2 : Nat}
theorem AVs.len (h : AVs prog w g vs as) : vs.length = as.length := by
 induction h with
 | nil => rfl
 | cons _ _ ih => rw [List.length_cons, List.length_cons, ih]
theorem FkOk.go (K : FkOk prog w n sc m σ es ks) : ∀ {A : Around} {c : Cx} {g : Heap} {s : Shared} {E : Value -> Shared -> Prop} {pos : Pos} {Q : List Value -> Shared -> Prop}, AOk n A -> Base w g -> FrOk sc F -> St prog w c g F m σ rest s ->
  (∀ c' g' vs ads s', Wle c g c' g' -> ads.length = countF ks -> AVs prog w g' vs (placeA ks ads) -> St prog w c' g' F m (placeO ks ads σ) rest s' -> Q vs s') -> wpAny (model prog w) A (spliced (backTo pos (starEach es F.env))) Q E s := by
 induction K with
 | nil => intro A c g s E pos Q hA B hF S q; exact spliced_nil (q c g [] [] s .rfl rfl .nil S)
 | data h K he ih =>
  intro A c g s E pos Q hA B hF S q
  rw [he]
  refine spliced_cons (h A c g F rest s E _ hA B hF S fun c1 g1 v s1 w1 r1 S1 => ?_)
  exact ih hA (B.keeps w1.up) hF S1 fun c2 g2 vs ads s2 w2 hl r2 S2 => q c2 g2 _ ads s2 (w1.trans w2) hl (.cons (r1.up w2.up) r2) S2
 | @fresh σ l p ds es ks h hz K ih =>
  intro A c g s E pos Q hA B hF S q
  show wpAny _ _ (spliced (backTo pos ((false, eval (.List l p) F.env) :: starEach es F.env))) _ _ _
  refine spliced_cons (List_ (h A c g F rest s E _ _ hA B hF S fun c1 g1 vs s1 w1 r1 S1 => wpAny_newObj_type ?_ (by show vs.toArray.size <= sizeLine; rw [List.size_toArray, r1.len]; exact hz)))
  have S2 : St prog w c1 g1 F m ((s1.heap.objs.size, .list ds) :: σ) rest { s1 with heap := s1.heap.push { cls := .type "list", data := .seq vs.toArray } } := S1.addO fun L S => S.alloc _ ⟨vs, ⟨0, Eq.refl _⟩, r1⟩
  exact ih _ hA (B.keeps w1.up) hF S2 fun c2 g2 vs ads s2 w2 hl r2 S3 => q c2 g2 _ (s1.heap.objs.size :: ads) s2 (w1.trans w2) (by rw [List.length_cons, hl]; rfl) (.cons (Eq.refl _) r2) S3
inductive NmOk (sc : Sc) : List Expr -> List Str -> Prop
 | nil : NmOk sc [] []
 | cons {x : Str} {p : Pos} {es : List Expr} {ns : List Str} : Stb sc x -> NmOk sc es ns -> NmOk sc (.Name x p :: es) (x :: ns)
theorem NmOk.len (N : NmOk sc es ns) : es.length = ns.length := by
 induction N with
 | nil => rfl
 | cons _ _ ih => rw [List.length_cons, List.length_cons, ih]
theorem stores_go {A : Around} {E : Value -> Shared -> Prop} : ∀ {l : List (Str × AV)} {vs : List Value} {m : AM} {s : Shared} {Q : Unit -> Shared -> Prop}, (∀ y ∈ l, Stb sc y.1) -> FrOk sc F -> St prog w c g F m σ rest s -> AVs prog w g vs (l.map (·.2)) -> (∀ s', St prog w c g F (l.reverse ++ m) σ rest s' -> Q () s') ->
  wpAny (model prog w) A (assignInOrder (l.map fun y => bindName F.env y.1) vs) Q E s := by
 intro l
 induction l with
 | nil => intro vs m s Q hs hF S r q; cases r; exact assignInOrder_nil (q s S)
 | cons y l ih =>
  intro vs m s Q hs hF S r q
  cases r with
  | cons a b =>
   refine assignInOrder_cons (wpAny_bindName (S.store ((hs y List.mem_cons_self).of hF) hF a fun s1 S1 => ?_))
   exact ih (fun z hz => hs z (List.mem_cons_of_mem _ hz)) hF S1 b fun s' S' => q s' (by rw [List.reverse_cons, List.append_assoc]; exact S')
theorem AVs.rev (h : AVs prog w g vs as) : AVs prog w g vs.reverse as.reverse := by
 have key : ∀ {us : List Value} {bs : List AV} {vs : List Value} {as : List AV}, AVs prog w g us bs -> AVs prog w g vs as -> AVs prog w g (us ++ vs) (bs ++ as) := by
  intro us bs vs as h h'
  induction h with
  | nil => exact h'
  | cons a _ ih => exact .cons a ih
 induction h with
 | nil => exact .nil
 | cons a _ ih => rw [List.reverse_cons, List.reverse_cons]; exact key ih (.cons a .nil)
theorem zip_map {α β γ : Type} {f : α -> γ} : ∀ {l1 : List α} {l2 : List β}, l1.length = l2.length -> (l1.zip l2).map (fun y => f y.1) = l1.map f
 | [], [], _ => rfl
 | a :: l1, b :: l2, h => by rw [List.zip_cons_cons, List.map_cons, List.map_cons, zip_map (by simpa using h)]
theorem zip_snd {α β : Type} : ∀ {l1 : List α} {l2 : List β}, l1.length = l2.length -> (l1.zip l2).map (fun y => y.2) = l2
 | [], [], _ => rfl
 | a :: l1, b :: l2, h => by rw [List.zip_cons_cons, List.map_cons, zip_snd (by simpa using h)]
theorem FkOk.len (K : FkOk prog w n sc m σ es ks) : ks.length = es.length := by
 induction K with
 | nil => rfl
 | data _ _ _ ih => rw [List.length_cons, List.length_cons, ih]
 | fresh _ _ _ ih => rw [List.length_cons, List.length_cons, ih 0]
theorem ex_swap (ns : List Str) (ks : List FK) (K : FkOk prog w n sc m σ es ks) {ts : List Expr} (hn : ∀ x ∈ ns, Stb sc x) (hl : ∀ ads, ads.length = countF ks -> ns.length = (placeA ks ads).length) (k : ∀ ads, ads.length = countF ks -> Ex prog w n sc (ns.zip (placeA ks ads) ++ m) (placeO ks ads σ) ss fl m' σ') (hz : es.length <= 100)
  (hs : autoParam (∀ env, swapsWithSole [.Tuple ts kk p] (.Tuple es kk2 p2) pos.line env = pure false) auI1) (hw : autoParam (∀ env : Env, env.scope = sc.toScope -> swappedStores [.Tuple ts kk p] (.Tuple es kk2 p2) env = pure (some ns)) auE) : Ex prog w n sc m σ (.Assign [.Tuple ts kk p] (.Tuple es kk2 p2) pos :: ss) fl m' σ' := fun A c g F rest s E Q hA B hF S q => by
 refine wpAny_execs_cons (Assign_Tuple_swapped (names := ns) (Tuple_ (K.go hA B hF S fun c1 g1 vs ads s1 w1 hc r1 S1 => ?_)) (hs _) (hw _ hF.scope))
 have lv := r1.len
 have hla := hl ads hc
 have hks := K.len
 have hpl : ∀ (ks : List FK) (ads : List Addr), (placeA ks ads).length <= ks.length := by
  intro ks
  induction ks with
  | nil => intro ads; exact Nat.le_refl _
  | cons f ks ih => intro ads; cases f with
   | data d => exact Nat.succ_le_succ (ih ads)
   | fresh ds => cases ads with
    | nil => exact Nat.zero_le _
    | cons ad ads => exact Nat.succ_le_succ (ih ads)
 refine wpAny_newObj_type ?_ (by show vs.toArray.size <= sizeLine; rw [List.size_toArray, lv, sizeLine_eq]; have := hpl ks ads; omega)
 have S2 : St prog w c1 g1 F m (placeO ks ads σ) rest { s1 with heap := s1.heap.push { cls := .type "tuple", data := .seq vs.toArray } } := S1.like fun L S => S.push _
 have e : ns.length = vs.toArray.size := by rw [List.size_toArray, lv, hla]
 rw [e]
 refine wpAny_unpackItems_tuple hA.hh ⟨_, Heap.get?_push_size _ rfl, rfl, 0, rfl⟩ fun h' hx => ?_
 rw [List.toList_toArray]
 have S3 := S2.like (s' := { s1 with heap := h' }) fun L S => S.grow (fun b o e => hx b o (Nat.ne_of_lt (Heap.lt_size e)) e) rfl rfl
 have e2 : ns.reverse.map (fun y => bindName F.env y) = ((ns.zip (placeA ks ads)).reverse.map fun y => bindName F.env y.1) := by rw [List.map_reverse, List.map_reverse, zip_map hla]
 rw [e2]
 refine stores_go (l := (ns.zip (placeA ks ads)).reverse) (fun y hy => hn y.1 (List.of_mem_zip (List.mem_reverse.mp hy)).1) hF S3 ?_ fun s4 S4 => ?_
 ·rw [List.map_reverse, zip_snd hla]; exact r1.rev
 ·rw [List.reverse_reverse] at S4
  exact k ads hc A c1 g1 F rest s4 E Q hA (B.keeps w1.up) hF S4 fun c2 g2 f s5 w2 => q c2 g2 f s5 (w1.trans w2)
end

end
section
noncomputable abbrev Bk := List (Str × Ent)
noncomputable abbrev Prs := List (Str × Str)
noncomputable def prD (p : Str × Str) : PyData := .tuple [.str p.1, .str p.2]
noncomputable def e0 : Ent := ⟨0, 0, 0, 0, []⟩
noncomputable def priceOf (pr : Cs) (x : Str) : Int := (aGet pr x).getD 0
noncomputable def fileStep (pr : Cs) (b : Bk) (p : Str × Str) : Bk :=
 aPut b p.2 (addE ((aGet b p.2).getD e0) ⟨if (!decide (p.1 = p.2)) = true then 1 else 0, 1, priceOf pr p.1, priceOf pr p.1 * priceOf pr p.2, [(p.1, 1)]⟩)
noncomputable def fileB (pr : Cs) (ps : Prs) : Bk := ps.foldl (fileStep pr) []
theorem addC_len (t s : Cs) : (addC t s).length <= t.length + s.length := by
 have k1 : ∀ (t b : Cs), (t.foldl (fun c y => aPut c y.1 y.2) b).length <= b.length + t.length := fun t => by
  induction t with
  | nil => intro b; exact Nat.le_refl _
  | cons y r ih => intro b; exact Nat.le_trans (ih (aPut b y.1 y.2)) (by have := aPut_len y.1 y.2 b; simp only [List.length_cons]; omega)
 have k2 : ∀ (s b : Cs), (s.foldl cAdd b).length <= b.length + s.length := fun s => by
  induction s with
  | nil => intro b; exact Nat.le_refl _
  | cons y r ih => intro b; exact Nat.le_trans (ih (cAdd b y)) (by have h : (cAdd b y).length <= b.length + 1 := aPut_len _ _ _; simp only [List.length_cons]; omega)
 exact Nat.le_trans (k2 s _) (Nat.add_le_add_right (by simpa using k1 t []) _)
noncomputable def FInv (pr : Cs) (b : Bk) (l : Prs) : Prop :=
 b.length + l.length <= 200 /\ (∀ x e, aGet b x = some e -> e.cs.length + l.length <= 200) /\ ∀ p ∈ l, (∃ i, aGet pr p.1 = some i /\ IntMulOk i (priceOf pr p.2)) /\ ∃ i, aGet pr p.2 = some i
theorem FInv.step {pr : Cs} {b : Bk} {p : Str × Str} {l : Prs} (h : FInv pr b (p :: l)) : FInv pr (fileStep pr b p) l := by
 obtain ⟨h1, h2, h3⟩ := h
 simp only [List.length_cons] at h1 h2
 refine ⟨?_, fun x e hx => ?_, fun q hq => h3 q (List.mem_cons_of_mem _ hq)⟩
 ·exact Nat.le_trans (Nat.add_le_add_right (aPut_len _ _ _) _) (by omega)
 ·unfold fileStep at hx
  rw [aGet_put] at hx
  by_cases e1 : p.2 = x
  ·rw [if_pos e1] at hx
   cases hx
   show (addC ((aGet b p.2).getD e0).cs [(p.1, 1)]).length + l.length <= 200
   have h5 := addC_len ((aGet b p.2).getD e0).cs [(p.1, 1)]
   have h6 : ((aGet b p.2).getD e0).cs.length + (l.length + 1) <= 200 := by
    cases hg : aGet b p.2 with
    | none => show 0 + (l.length + 1) <= 200; omega
    | some e' => exact h2 _ _ hg
   simp only [List.length_cons, List.length_nil] at h5
   omega
  ·rw [if_neg e1] at hx
   have := h2 x e hx; omega
noncomputable def okP : Nat -> PyData -> Bool
 | _, .int _ => true
 | _, .str _ => true
 | _, .bool _ => true
 | u + 1, .list xs => xs.all (okP u)
 | u + 1, .tuple xs => xs.all (okP u)
 | _, _ => false
theorem okP_l (u : Nat) (xs : List PyData) : okP (u + 1) (.list xs) = xs.all (okP u) := rfl
theorem PSame.refl : ∀ (u : Nat) (d : PyData), okP u d = true -> PSame u d d
 | u, .int i, _ => .int u i
 | u, .str x, _ => .str u x
 | u, .bool b, _ => .bool u b
 | u + 1, .list xs, h => .list rfl fun k d e h1 h2 => by rw [h1] at h2; cases h2; exact PSame.refl u d (List.all_eq_true.mp h d (List.mem_of_getElem? h1))
 | u + 1, .tuple xs, h => .tuple rfl fun k d e h1 h2 => by rw [h1] at h2; cases h2; exact PSame.refl u d (List.all_eq_true.mp h d (List.mem_of_getElem? h1))
 | 0, .list _, h => by cases h
 | 0, .tuple _, h => by cases h
 | 0, .none, h => by cases h
 | 0, .dict _, h => by cases h
 | _ + 1, .none, h => by cases h
 | _ + 1, .dict _, h => by cases h
 | 0, .obj _, h => by cases h
 | 0, .lex .., h => by cases h
 | 0, .tab, h => by cases h
 | _ + 1, .obj _, h => by cases h
 | _ + 1, .lex .., h => by cases h
 | _ + 1, .tab, h => by cases h
section
variable {prog : Program} {w : World} {n : Nat} {σ : OwnL} {b : Bool} {d e : PyData} {u : Nat}
theorem callb_int : CallB prog w n (.type "int") [.bool b] (.int (if b = true then 1 else 0)) := fun A c g F m σ rest s E Q vs hA B S r q => by
 apply r.onOne; intro v r1; apply r1.onBool
 exact call_int_bool (q c g _ _ .rfl (.int _ _) (S.tok _))
theorem op_eqD {σ : OwnL} (D : DSame u d e) (hu : u <= 64) : Op2 prog w n σ (compareOp .Eq) (.d d) (.d e) (.d (.bool true)) := fun A c g F m rest s E Q v1 v2 hA B S r1 r2 q => by
 obtain ⟨L, S0⟩ := S.base
 exact (D.rc S0.keep (by have := hA.hu; show A.units + u < 9900; omega) r1 r2).1 E Q (q c g _ s .rfl (.bool _) S)
theorem op_neL {xs ys : List PyData} (D : PSame (u + 1) (.list xs) (.list ys)) (hu : u + 1 <= 64) : Op2 prog w n σ (compareOp .NotEq) (.d (.list xs)) (.d (.list ys)) (.d (.bool false)) := fun A c g F m rest s E Q v1 v2 hA B S r1 r2 q => by
 obtain ⟨L, S0⟩ := S.base
 have hU : A.units + (u + 1) < cLine := by have := hA.hu; show A.units + (u + 1) < 9900; omega
 apply r1.onList; intro a n1 vs e1 h1
 apply r2.onList; intro b n2 us e2 h2
 cases D with | list hl ih =>
 have R := SeqAt.RcNeAt.lists (A := A) (s := s) (l := a) (b := b) (items := vs.toArray) (items2 := us.toArray) (e := fun _ => true) ⟨_, S0.keep _ _ e1, rfl, n1, rfl⟩ ⟨_, S0.keep _ _ e2, rfl, n2, rfl⟩ (by simp [h1.len, h2.len, hl]) (by omega)
  (fun j q1 q2 => el (P := fun v y => SeqAt.EqAt A.in1 s v y true) hl h1 h2 (fun j d e v y z1 z2 r1 r2 => ((ih j d e z1 z2).rc S0.keep (by show A.units + 1 + u < cLine; omega) r1 r2).2) j (by simpa using q1) (by simpa using q2))
 rw [range_all] at R
 exact R prog w E Q (q c g _ s .rfl (.bool _) S)
theorem op_neD {xs ys : List (PyData × PyData)} (D : DSame (u + 1) (.dict xs) (.dict ys)) (hu : u + 1 <= 64) : Op2 prog w n σ (compareOp .NotEq) (.d (.dict xs)) (.d (.dict ys)) (.d (.bool false)) := fun A c g F m rest s E Q v1 v2 hA B S r1 r2 q => by
 obtain ⟨L, S0⟩ := S.base
 have hU : A.units + (u + 1) < cLine := by have := hA.hu; show A.units + (u + 1) < 9900; omega
 apply r1.onDict; intro a o ka l1 e1 d1 h1
 apply r2.onDict; intro b o' kb l2 e2 d2 h2
 have da : s.heap.DictOf (strKind prog w) a ka := Heap.dictOf_iff.mpr ⟨o, S0.keep _ _ e1, d1⟩
 have db : s.heap.DictOf (strKind prog w) b kb := Heap.dictOf_iff.mpr ⟨o', S0.keep _ _ e2, d2⟩
 cases D with
 | plain p => cases p
 | dict hl hs ih =>
  refine wpAny_richCompare_same_room (op := .NotEq) da.typeIs db.typeIs PySem.F.slot_dict_ne (wpAny_call_entry PySem.F.slot_dict_ne da.typeIs PySem.F.entry_dict_ne ?_ (PySem.F.args_dict_ne_2 _ _)) (by omega)
  show wpAny _ _ (Builtin.Dict.dictSlotArgs "__ne__" ⟨[.ref a, .ref b], []⟩ >>= _) _ _ s
  refine wpAny_bind ?_
  unfold Builtin.Dict.dictSlotArgs
  refine wpAny_bind (wpAny_notOrdered_dict da.typeIs (wpAny_pure (wpAny_bind (wpAny_isInstance (T := "dict") db.typeIs PySem.F.sub_dict_dict ?_))))
  simp only [Bool.not_true, Bool.false_eq_true, if_false]
  refine wpAny_bind (wpAny_pure (wpAny_bind (wpAny_pure (wpAny_bind (dictSame l1 l2 da db (by rw [h1.len, h2.len, hl]) (fun x v hm => ?_) (wpAny_pure ⟨_, rfl, (fun x => nomatch x), q c g _ s .rfl (.bool _) S⟩))))))
  obtain ⟨d, m1, r1⟩ := h1.mem hm
  obtain ⟨e, he⟩ := Option.isSome_iff_exists.mp (hs x d m1)
  obtain ⟨y, q1, q2⟩ := h2.at he
  exact ⟨y, q1, ((ih x d e m1 he).rc S0.keep (by show A.units + 1 + u < cLine; omega) r1 q2).2⟩
variable {sc : Sc} {m : AM} {e1 : Expr} {es : List Expr} {pos : Pos} {b' : Bool}
theorem evt_orn : EvT prog w n sc m σ (.BoolOp .Or [] pos) false := fun A c g F rest s E Q hA B hF S q => isTrue_or_nil (q c g s .rfl S)
theorem evt_or (h : EvT prog w n sc m σ e1 b) (h2 : b = false -> EvT prog w n sc m σ (.BoolOp .Or es pos) b') : EvT prog w n sc m σ (.BoolOp .Or (e1 :: es) pos) (b || b') := fun A c g F rest s E Q hA B hF S q =>
 isTrue_or (h A c g F rest s E _ hA B hF S fun c1 g1 s1 w1 S1 => by
  cases b with
  | true => exact ite_pos rfl (q c1 g1 s1 w1 S1)
  | false => exact ite_neg Bool.false_ne_true (h2 rfl A c1 g1 F rest s1 E Q hA (B.keeps w1.up) hF S1 fun c2 g2 s2 w2 S2 => q c2 g2 s2 (w1.trans w2) S2))
end
theorem okP_items (c : Cs) : okP 2 (.list ((csD c).map fun y => .tuple [y.1, y.2])) = true := by
 simp only [okP_l, csD, aD, List.map_map, List.all_map, List.all_eq_true]
 intro y _
 rfl
theorem one_same (x : Str) : DSame 1 (.dict [(.str x, .int 1)]) (.dict [(.str x, .int 1)]) := by
 refine .dict rfl (fun y d h => ?_) fun y d e h h2 => ?_
 ·rw [List.mem_singleton] at h; cases h; rw [kvGet_c, if_pos rfl]; rfl
 ·rw [List.mem_singleton] at h; cases h
  rw [kvGet_c, if_pos rfl] at h2; cases h2; exact .plain (.int 0 1)
section
variable {prog : Program} {w : World}
theorem filed_fn {pr : Cs} {ps : Prs} (h : FInv pr [] ps) : Fn prog w 12 147 [.list (ps.map prD), .dict (csD pr)] (.dict (aD entD (fileB pr ps))) := by
 refine fn_of (m0 := [(Str.ofString "prices", .d (.dict (csD pr))), (Str.ofString "pairs", .d (.list (ps.map prD)))]) (fun w => by k_is) (fun w => by k_is) (len2 fun _ _ => rfl) (by decide) (by decide) rfl ?_ rfl rfl rfl
 refine ex_newDict (.inl rfl) fun ad lad => ?_
 refine ex_cons (es_foldI ps (enc := prD) (fun _ => [(Str.ofString "book", .ref ad), (Str.ofString "prices", .d (.dict (csD pr))), (Str.ofString "pairs", .d (.list (ps.map prD)))]) (fun b => [(ad, .dict (aD entD b))]) (fileStep pr) (FInv pr) [] h (it_list (ev_name rfl)) rfl (fun b x l h => h.step) (fun b p l h => ?_) (by decide)) ?_
 ·obtain ⟨⟨i, hi, him⟩, ⟨j, hj⟩⟩ := h.2.2 p List.mem_cons_self
  have pi : priceOf pr p.1 = i := by unfold priceOf; rw [hi]; rfl
  have pj : priceOf pr p.2 = j := by unfold priceOf; rw [hj]; rfl
  have hg : (kvGet (aD entD b) p.2).getD (entD e0) = entD ((aGet b p.2).getD e0) := by rw [aD_get]; cases aGet b p.2 <;> rfl
  generalize hel : (aGet b p.2).getD e0 = el at hg
  have hlen : el.cs.length + (l.length + 1) <= 200 := by
   rw [<- hel]
   cases hq : aGet b p.2 with
   | none => have := h.1; simp only [List.length_cons] at this; show 0 + (l.length + 1) <= 200; omega
   | some e' => have := h.2.1 _ _ hq; simpa using this
  have hb : b.length + (l.length + 1) <= 200 := by have := h.1; simpa using this
  refine bd_tup (.cons (.inl rfl) (.cons (.inl rfl) .nil)) ?_
  refine ex_swap [Str.ofString "elder", Str.ofString "more"] [.data (entD el), .data (.dict [(.str p.1, .int 1)])] (.data (hg ▸ ev_get (ev_name rfl) (dat_o (d' := .none) PutO.head lad) (ev_name rfl) (ev_tuple (evl_cons ev_int (evl_cons ev_int (evl_cons ev_int (evl_cons ev_int (evl_cons ev_dict0 evl_nil))))) (sz_le rfl))) (.data (ev_dict1 (ev_name rfl) ev_int) .nil (fun _ => rfl)) (fun _ => rfl)) (fun x hx => ?_) (fun ads _ => rfl) (fun ads _ => ?_) (by decide)
  ·simp only [List.mem_cons, List.not_mem_nil, or_false] at hx; rcases hx with rfl | rfl <;> exact .inl rfl
  ·refine ex_cons (es_assign (ev_items (by walk_at "glb") (ev_sub (ev_name rfl) ev_int (opi_tuple (by decide) (by decide) rfl)) dat_d (by rw [csD_len, sizeLine_eq]; omega)) rfl) ?_
   have hst : (addE el ⟨if (!decide (p.1 = p.2)) = true then 1 else 0, 1, i, i * j, [(p.1, 1)]⟩) = addE el ⟨if (!decide (p.1 = p.2)) = true then 1 else 0, 1, priceOf pr p.1, priceOf pr p.1 * priceOf pr p.2, [(p.1, 1)]⟩ := by rw [pi, pj]
   refine ex_cons (es_setDict (x := p.2) (d := entD (addE el ⟨if (!decide (p.1 = p.2)) = true then 1 else 0, 1, i, i * j, [(p.1, 1)]⟩)) (by rw [aD_put]; exact PutO.head) (ev_callF (by walk_at "glf") (evl_cons (ev_name rfl) (evl_cons (ev_tuple (evl_cons (ev_callT (by walk_at "glb") (evl_cons (ev_cmp (ev_name rfl) (ev_name rfl) op_neS) evl_nil) callb_int) (evl_cons ev_int (evl_cons (ev_sub (ev_name rfl) (ev_name rfl) (opi_dict (by rw [aD_get, hi]; rfl))) (evl_cons (ev_bin (ev_sub (ev_name rfl) (ev_name rfl) (opi_dict (by rw [aD_get, hi]; rfl))) (ev_sub (ev_name rfl) (ev_name rfl) (opi_dict (by rw [aD_get, hj]; rfl))) (op_mul (pj ▸ him))) (evl_cons (ev_name rfl) evl_nil))))) (sz_le rfl)) evl_nil)) ((stat_fn (t := el) (s := ⟨if (!decide (p.1 = p.2)) = true then 1 else 0, 1, i, i * j, [(p.1, 1)]⟩) (by show el.cs.length + 1 <= 1000; omega)).mono (by decide))) (ev_name rfl) (ev_name rfl) (by show (aD entD b).length <= sizeLine; rw [aD, List.length_map, sizeLine_eq]; omega)) ?_
   refine ex_cons (es_ifK (evt_or (evt_cmp (ev_items (by walk_at "glb") (ev_sub (ev_name rfl) ev_int (opi_tuple (by decide) (by decide) rfl)) dat_d (by rw [csD_len, sizeLine_eq]; omega)) (ev_name rfl) (op_neL (u := 1) (PSame.refl 2 _ (okP_items el.cs)) (by decide))) fun _ => evt_or (evt_cmp (ev_name rfl) (ev_dict1 (ev_name rfl) ev_int) (op_neD (u := 0) (one_same p.1) (by decide))) fun _ => evt_orn) (fun h => nomatch h) fun _ => ex_nil) ?_
   have hfin : fileStep pr b p = aPut b p.2 (addE el ⟨if (!decide (p.1 = p.2)) = true then 1 else 0, 1, i, i * j, [(p.1, 1)]⟩) := by rw [hst, <- hel]; rfl
   rw [hfin]
   exact ex_end (by walk_at "sub")
 ·refine ex_freeze (x := Str.ofString "book") .head rfl ?_
  exact ex_ret (ev_name rfl)
end

end
section
noncomputable def escD (x : Str) : List PyData := (iterE 0 false x.cps.toList).map fun y => .tuple [.int y.1, .str (strOf y.2)]
section
variable {prog : Program} {w : World} {A : Around} {E : Value -> Shared -> Prop} {c c' : Cx} {g g' : Heap} {own gl : Led} {s s' : Shared} {a : Addr} {gst : GenState} {gi n : Nat} {items : List (Int × List Nat)} {y : Int × List Nat} {m m' : AM} {σ σ' : OwnL} {F : Frm} {rest : RL} {sc : Sc} {e tgt : Expr} {x f : Str} {p pos : Pos} {body : List Stmt} {fl : Fl}
theorem Hf.melt (S : Hf c g' own s) (k : ∀ b o, g.get? b = some o -> g'.get? b = some o) : ∃ ml, Hf c g (ml ++ own) s /\ ∀ c' own' s', Hf c' g (ml ++ own') s' -> Hf c' g' own' s' := by
 let bs := (List.range g'.objs.size).filter fun b => (g'.get? b).isSome && (g.get? b).isNone
 let ml : Led := bs.map fun b => (b, fun o => g'.get? b = some o)
 have hbs : ∀ b, b ∈ bs ↔ (∃ o, g'.get? b = some o) /\ g.get? b = none := fun b => by
  simp only [bs, List.mem_filter, List.mem_range, Bool.and_eq_true, Option.isSome_iff_exists, Option.isNone_iff_eq_none]
  exact ⟨fun h => h.2, fun h => ⟨let ⟨o, e⟩ := h.1; Heap.lt_size e, h⟩⟩
 have hml : ml.map (·.1) = bs := by simp only [ml, List.map_map]; exact List.map_id _
 refine ⟨ml, ⟨fun b o e => S.keep b o (k b o e), fun q hq => ?_, ?_, S.gsEq, S.osEq⟩, fun c' own' s' S' => ⟨fun b o e => ?_, fun q hq => ?_, ?_, S'.gsEq, S'.osEq⟩⟩
 ·rcases List.mem_append.mp hq with hq | hq
  ·obtain ⟨b, hb, rfl⟩ := List.mem_map.mp hq
   obtain ⟨⟨o, e⟩, e2⟩ := (hbs b).mp hb
   exact ⟨⟨o, S.keep _ _ e, e⟩, e2⟩
  ·refine ⟨(S.led q hq).1, ?_⟩
   cases z : g.get? q.1 with
   | none => rfl
   | some o => have := (S.led q hq).2; rw [k _ _ z] at this; cases this
 ·rw [List.map_append, hml, List.nodup_append]
  refine ⟨List.nodup_range.filter _, S.nodup, fun b hb b' hb' e => ?_⟩
  subst e
  obtain ⟨q, hq, rfl⟩ := List.mem_map.mp hb'
  obtain ⟨⟨o, e⟩, _⟩ := (hbs _).mp hb
  have := (S.led q hq).2
  rw [e] at this; cases this
 ·cases z : g.get? b with
  | some o' =>
   have := k b o' z
   rw [e] at this; cases this
   exact S'.keep _ _ z
  | none =>
   obtain ⟨o', e1, e2⟩ := S'.at (List.mem_append_left _ (List.mem_map_of_mem (f := fun b => (b, fun o => g'.get? b = some o)) ((hbs b).mpr ⟨⟨o, e⟩, z⟩)))
   rw [e] at e2; cases e2; exact e1
 ·refine ⟨(S'.led q (List.mem_append_right _ hq)).1, ?_⟩
  cases z : g'.get? q.1 with
  | none => rfl
  | some o =>
   cases z2 : g.get? q.1 with
   | some o' => have := (S'.led q (List.mem_append_right _ hq)).2; rw [z2] at this; cases this
   | none =>
    have h1 := (hbs q.1).mpr ⟨⟨o, z⟩, z2⟩
    have nd := S'.nodup
    rw [List.map_append, hml, List.nodup_append] at nd
    exact absurd rfl (nd.2.2 _ h1 _ (List.mem_map_of_mem (f := (·.1)) hq))
 ·have nd := S'.nodup
  rw [List.map_append, List.nodup_append] at nd
  exact nd.2.1
theorem gen_gen (c : Cx) (gi : Nat) (x z : GenState) : (c.gen gi x).gen gi z = c.gen gi z := by
 simp only [Cx.gen, Cx.mk.injEq, true_and]
 exact Array.setIfInBounds_setIfInBounds ..
theorem gen_item {Q : Option Value -> Shared -> Prop} (hA : AOk 6 A) (B : Base w g) (S : Hf c g (gl ++ own) s) (hgi : c.gs[gi]? = some gst) (ho : Has g own a (genOb gi)) (G : GenOK prog w g (y :: items) gst gl)
  (h : ∀ gst' gl' tp t u s', gst'.bare = true -> GenOK prog w g items gst' gl' -> Hf (c.gen gi gst') g (gl' ++ (tp, tupO [.int y.1 t, .str (strOf y.2) u]) :: own) s' -> Q (some (.ref tp)) s') : wpAny (model prog w) A (pyNext (.ref a)) Q E s := by
 have ho' : Has g (gl ++ own) a (genOb gi) := ho.imp (List.mem_append_right _) id
 refine r_nextGen S (hA.mono (by decide)) B (by rw [S.gsEq]; exact hgi) ho' (genOK_iff.mp G A.in1 _ own _ ((hA.mono (k := 5) (by decide)).in1) B (S.setGen gi .running)) fun e s1 hb hP => .inl ?_
 obtain ⟨gl', tp, t, u, e1, S1, G'⟩ := hP
 have S2 := S1.setGen gi e.genState
 rw [gen_gen] at S2
 exact ⟨_, e1, h _ _ _ t u _ hb G' S2⟩
theorem gen_end {Q : Option Value -> Shared -> Prop} (hA : AOk 6 A) (B : Base w g) (S : Hf c g (gl ++ own) s) (hgi : c.gs[gi]? = some gst) (ho : Has g own a (genOb gi)) (G : GenOK prog w g [] gst gl) (h : ∀ s', Hf (c.gen gi .finished) g own s' -> Q none s') : wpAny (model prog w) A (pyNext (.ref a)) Q E s := by
 have ho' : Has g (gl ++ own) a (genOb gi) := ho.imp (List.mem_append_right _) id
 refine r_nextGen S (hA.mono (by decide)) B (by rw [S.gsEq]; exact hgi) ho' (genOK_iff.mp G A.in1 _ own _ ((hA.mono (k := 5) (by decide)).in1) B (S.setGen gi .running)) fun e s1 hb hP => .inr ?_
 obtain ⟨rfl, S1⟩ := hP
 have S2 := S1.setGen gi .finished
 rw [gen_gen] at S2
 exact ⟨rfl, c.gen gi .finished, own, S2, h⟩
theorem Wle.gen (W : Wle c g c' g') (hgi : c.gs.size <= gi) (hb : gst.bare = true) : Wle c g (c'.gen gi gst) g' := by
 obtain ⟨x, e, hx⟩ := W.gs
 refine ⟨W.os, ⟨x.setIfInBounds (gi - c.gs.size) gst, ?_, fun z hz => ?_⟩, W.up⟩
 ·show c'.gs.setIfInBounds gi gst = _
  rw [e, Array.setIfInBounds_append_right hgi]
 ·rw [Array.mem_iff_getElem?] at hz
  obtain ⟨j, hj⟩ := hz
  rw [Array.getElem?_setIfInBounds] at hj
  split at hj
  ·split at hj
   ·cases hj; exact hb
   ·cases hj
  ·exact hx z (Array.mem_of_getElem? hj)
theorem Wle.at (W : Wle c g c' g') (h : c.gs[gi]? = some gst) : c'.gs[gi]? = some gst := by
 obtain ⟨x, e, _⟩ := W.gs
 have := (Array.getElem?_eq_some_iff.mp h).1
 rw [e, Array.getElem?_append_left this]; exact h
inductive GenR (prog : Program) (w : World) (c : Cx) (g : Heap) (F : Frm) (m' : AM) (σ' : OwnL) (fl : Fl) (rest : RL) (r : Result) (s' : Shared) : Prop
 | mk (c' : Cx) (g' : Heap) (f : Flow) (e : r = .ok f) (w' : Wle c g c' g') (hf : FlOk prog w g' f fl) (S : St prog w c' g' F m' σ' rest s') : GenR prog w c g F m' σ' fl rest r s'
inductive GenI (prog : Program) (w : World) (n : Nat) (sc : Sc) (tgt : Expr) (body : List Stmt) (fl : Fl) (m' : AM) (σ' : OwnL) (g1 : Heap) (gi : Nat) (c : Cx) (g : Heap) (F : Frm) (a : Addr) (rest : RL) (k : Nat) (s : Shared) : Prop
 | mk (items : List (Int × List Nat)) (m : AM) (σ : OwnL) (gst : GenState) (gl : Led) (c2 : Cx) (g2 : Heap) (e : k = items.length) (hl : Lp prog w n sc tgt body (items.map fun y => .tuple [.int y.1, .str (strOf y.2)]) m σ fl m' σ') (G : GenOK prog w g1 items gst gl) (hgs : c2.gs[gi]? = some gst) (w2 : Wle c g c2 g2) (k2 : ∀ b o, g1.get? b = some o -> g2.get? b = some o) (S : St prog w c2 g2 F m σ ⟨(gl ++ [(a, genOb gi)]) ++ rest.il, rest.kp⟩ s) : GenI prog w n sc tgt body fl m' σ' g1 gi c g F a rest k s
theorem es_forGen {p2 : Pos} (G : GlF w sc f 42) (h : Ev prog w n sc m σ e (.d (.str x))) (hx : x.length < sizeLine) (hl : Lp prog w n sc tgt body (escD x) m σ fl m' σ') (hn : 7 <= n) (hp : autoParam (PlainArgs e []) auP)
  (hs : autoParam (∀ env v, foldedSetIterable (.Call (.Name f p) [e] [] p2) env v = pure v) auI2) : Es prog w n sc m σ (.For tgt (.Call (.Name f p) [e] [] p2) body [] pos) fl m' σ' := fun A c g F rest s E Q hA B hF S q => by
 refine wpAny_For (Call_ (name_f G B hF S (r_callK B G.f (evl_cons h evl_nil (fun env => (hp env).1) A c g F rest s E _ _ hA B hF S fun c1 g1 vs s1 w1 r1 S1 => ?_) (hp _).1 ((hp _).2 _)))) (hs _)
 apply r1.onOne; intro v ra; apply ra.onStr; intro t
 obtain ⟨ml, mc, S2, hm⟩ := S1
 refine ⟨⟨_, _, S2.lower w1.up⟩, wpAny_call (codeAny_mono (escaped_spec (hA.mono (by omega)) (B.keeps w1.up) S2 hx) fun r s2 z => ?_)⟩
 obtain ⟨a, gst, gl, rfl, G', hb, S3⟩ := z
 have B1 := B.keeps w1.up
 have hgi : c.gs.size <= c1.gs.size := by obtain ⟨x, e, _⟩ := w1.gs; rw [e, Array.size_append]; omega
 generalize hgi' : c1.gs.size = gi at hgi S3
 have w2 : Wle c g { c1 with gs := c1.gs.push gst } g1 := w1.trans ⟨rfl, ⟨#[gst], by simp, fun z hz => by simp at hz; subst hz; exact hb⟩, fun _ _ z => z⟩
 have S4 : St prog w { c1 with gs := c1.gs.push gst } g1 F m σ ⟨(gl ++ [(a, genOb gi)]) ++ rest.il, rest.kp⟩ s2 := ⟨ml, mc, Hf.perm (own := (gl ++ [(a, genOb gi)]) ++ _) (by rw [List.append_assoc]; exact S3) il_perm.symm, hm⟩
 have hg0 : ({ c1 with gs := c1.gs.push gst } : Cx).gs[gi]? = some gst := by show (c1.gs.push gst)[gi]? = _; rw [<- hgi']; simp
 refine r_iterGen S3 (gi := gi) (.inl (List.mem_append_right _ List.mem_cons_self)) ?_
 generalize ({ c1 with gs := c1.gs.push gst } : Cx) = c2 at w2 S4 hg0
 clear S3 S2 hm
 refine codeAny_mono (for_loop (R := GenR prog w c g F m' σ' fl rest) (GenI prog w n sc tgt body fl m' σ' g1 gi c g F a rest) ?_ _ ⟨_, m, σ, gst, gl, c2, g1, rfl, hl, G', hg0, w2, fun _ _ z => z, S4⟩) fun r s' z => ?_
 ·clear hl G' hg0 S4 w2 hb
  rintro k s ⟨items, m, σ, gst, gl, c2, g2, rfl, hl, G, hgs, w2, k2, S⟩
  obtain ⟨L, S5, back⟩ := S.front
  obtain ⟨md, S6, unmelt⟩ := S5.melt k2
  have S7 : Hf c2 g1 (gl ++ (a, genOb gi) :: (md ++ L)) s := S6.perm (by
   rw [List.append_assoc]
   refine (List.perm_append_comm_assoc _ _ _).trans (List.Perm.append_left _ ?_)
   exact List.perm_middle)
  have ho : ∀ {l : Led}, Has g1 ((a, genOb gi) :: l) a (genOb gi) := .inl List.mem_cons_self
  cases items with
  | nil =>
   obtain ⟨rfl, rfl, rfl⟩ := hl
   refine gen_end (hA.mono (by omega)) B1 S7 hgs ho G fun s' S' => ?_
   exact ⟨c2.gen gi .finished, g2, .next, rfl, w2.gen hgi rfl, trivial, back _ g2 [] s' (fun _ _ z => z) (unmelt _ _ _ S'.tail)⟩
  | cons y items =>
   obtain ⟨f, m1, σ1, hb, hr⟩ := hl
   refine gen_item (hA.mono (by omega)) B1 S7 hgs ho G fun gst' gl' tp ti u s3 hb' G2 S8 => ?_
   dsimp only
   refine r_letGoGen S8 (gi := gi) (.inl (List.mem_append_right _ (List.mem_cons_of_mem _ List.mem_cons_self))) ?_
   have S9 : Hf (c2.gen gi gst') g1 (md ++ ((tp, tupO [.int y.1 ti, .str (strOf y.2) u]) :: ((gl' ++ [(a, genOb gi)]) ++ L))) s3 := S8.perm (by
    rw [List.append_assoc]
    refine List.perm_middle.trans (List.Perm.trans (List.Perm.cons _ ?_) List.perm_middle.symm)
    show (gl' ++ ((a, genOb gi) :: (md ++ L))).Perm (md ++ (gl' ++ ((a, genOb gi) :: L)))
    exact (List.Perm.append_left _ List.perm_middle.symm).trans (List.perm_append_comm_assoc _ _ _))
   obtain ⟨g3, k3, ha, S10⟩ := (unmelt _ _ _ S9).freeze (as := [(tp, tupO [.int y.1 ti, .str (strOf y.2) u])]) (List.Perm.refl _)
   obtain ⟨o, ho', rfl⟩ := ha _ List.mem_cons_self
   have w3 : Wle c g (c2.gen gi gst') g3 := (w2.gen hgi hb').trans (.grow k3)
   have hlt := (Array.getElem?_eq_some_iff.mp hgs).1
   have hgs3 : (c2.gen gi gst').gs[gi]? = some gst' := by show (c2.gs.setIfInBounds gi gst')[gi]? = _; rw [Array.getElem?_setIfInBounds_self_of_lt hlt]
   refine hb A (c2.gen gi gst') g3 F _ s3 _ _ (.ref tp) hA (B.keeps w3.up) hF (back _ g3 (gl' ++ [(a, genOb gi)]) s3 k3 S10) (.tuple ⟨_, ho', rfl, 0, rfl⟩ (.cons (.int _ _) (.cons (.str _ _) .nil))) fun c4 g4 fl' s4 w4 hf S11 => ?_
   have w5 := w3.trans w4
   have drop : St prog w c4 g4 F m1 σ1 rest s4 := by
    obtain ⟨L, S5, back⟩ := S11.front
    exact back c4 g4 [] s4 (fun _ _ z => z) (Hf.perm S5 List.perm_append_comm).dropR
   cases f with
   | next => cases fl' <;> first | exact hf.elim | exact ⟨_, Nat.lt_succ_self _, items, m1, σ1, gst', gl', c4, g4, rfl, hr, G2, w4.at hgs3, w5, fun b o z => w4.up b o (k3 b o (k2 b o z)), S11⟩
   | cont => cases fl' <;> first | exact hf.elim | exact ⟨_, Nat.lt_succ_self _, items, m1, σ1, gst', gl', c4, g4, rfl, hr, G2, w4.at hgs3, w5, fun b o z => w4.up b o (k3 b o (k2 b o z)), S11⟩
   | brk =>
    obtain ⟨rfl, rfl, rfl⟩ := hr
    cases fl' <;> first | exact hf.elim | exact ⟨c4, g4, .next, rfl, w5, trivial, drop⟩
   | ret a =>
    obtain ⟨rfl, rfl, rfl⟩ := hr
    cases fl' <;> first | exact hf.elim | exact ⟨c4, g4, .ret _, rfl, w5, hf, drop⟩
 ·obtain ⟨c', g', f, rfl, w', hf, S'⟩ := z
  exact q c' g' f s' w' hf S'
end

end
section
section
variable {prog : Program} {w : World} {c : Cx} {g : Heap} {n k : Nat} {sc : Sc} {m : AM} {σ σ' : OwnL} {e e1 e2 : Expr} {ad : Addr} {a : AV} {d d' : PyData} {xs : List PyData} {x y : Str} {pos p p2 : Pos} {F : Frm} {rest : RL} {v : Value} {i : Int} {b : Bool}
theorem op_notInC {ch : Nat} : Op2 prog w n σ (compareOp .NotIn) (.d (.str (chS ch))) (.d (.str x)) (.d (.bool (!decide (ch ∈ x.cps.toList)))) := op_of _ fun A s E Q g v1 v2 hA r1 r2 q => by
 apply r1.onStr; intro _; apply r2.onStr; intro _; exact r_notInChar rfl (q _ s.toks fun _ => .bool _)
noncomputable def isNoneD : PyData -> Bool
 | .none => true
 | _ => false
theorem op_isNone (hd : d = .none \/ ∃ i, d = .int i) : Op2 prog w n σ (compareOp .Is) (.d d) (.d .none) (.d (.bool (isNoneD d))) := op_of _ fun A s E Q g v1 v2 hA r1 r2 q => by
 rcases hd with rfl | ⟨i, rfl⟩
 ·apply r1.onNone; apply r2.onNone; exact wpAny_bind (wpAny_pure (wpAny_pure (q _ s.toks fun _ => .bool _)))
 ·apply r1.onInt; intro _; apply r2.onNone; exact wpAny_bind (wpAny_pure (wpAny_pure (q _ s.toks fun _ => .bool _)))
theorem op_isB {b b' : Bool} : Op2 prog w n σ (compareOp .Is) (.d (.bool b)) (.d (.bool b')) (.d (.bool (b == b'))) := op_of _ fun A s E Q g v1 v2 hA r1 r2 q => by
 apply r1.onBool; apply r2.onBool; cases b <;> cases b' <;> exact wpAny_bind (wpAny_pure (wpAny_pure (q _ s.toks fun _ => .bool _)))
theorem callb_lenS (hz : x.length <= sizeLine) : CallB prog w n (.builtin "len") [.str x] (.int x.length) := fun A c g F m σ rest s E Q vs hA B S r q => by
 apply r.onOne; intro v r1; apply r1.onStr; intro _
 exact PyProof.Rows.len_str (by rw [sizeLine_eq] at hz; omega) (q c g _ _ .rfl (.int _ _) (S.tok _))
theorem callb_lenL (hz : xs.length <= sizeLine) : CallB prog w n (.builtin "len") [.list xs] (.int xs.length) := fun A c g F m σ rest s E Q vs hA B S r q => by
 apply r.onOne; intro v r1; apply r1.onList; intro a nn vs e1 h1
 obtain ⟨L, S0⟩ := S.base
 refine PyProof.Rows.len_list (items := vs.toArray) ⟨_, S0.keep _ _ e1, rfl, nn, rfl⟩ (by rw [sizeLine_eq] at hz; simp [h1.len]; omega) ?_
 have e : ((vs.toArray.size : Nat) : Int) = (xs.length : Int) := by simp [h1.len]
 first
  | exact q c g _ _ .rfl (e ▸ .int _ _) (S.tok _)
  | exact q c g _ _ .rfl (e ▸ .int _ _) S
theorem rdAll_strs {vs : List Value} {ts : List Str} (h : RdAll prog w g vs (ts.map .str)) : ∃ l, vs = strValues l /\ l.map (·.1) = ts := by
 induction ts generalizing vs with
 | nil => cases h; exact ⟨[], rfl, rfl⟩
 | cons t r ih =>
  cases h with
  | cons a b =>
   apply a.onStr; intro u
   obtain ⟨l, rfl, rfl⟩ := ih b
   exact ⟨(t, u) :: l, rfl, rfl⟩
theorem ev_join {pl : Env -> Sem Bool} {ts : List Str} {kd : Nat} (h : Ev prog w n sc m σ e (.d (.list (ts.map .str)))) (hz : JoinOk (Str.ofString "") ts = true) (hp : autoParam (PlainArgs e []) auP)
  (he : autoParam (∀ env, eval (.Call (.Attribute (.Constant (.str (Str.ofString "")) kd p) (Str.ofString "join") p2) [e] [] pos) env = (do
   let ov <- eval (.Constant (.str (Str.ofString "")) kd p) env
   standAt p2.atName
   let (f, first) <- holding [ov] (getMethod ov (Str.ofString "join") (pl env))
   callWith pos f first (backTo pos (starEach [e] env)) [])) auI1) : Ev prog w n sc m σ (.Call (.Attribute (.Constant (.str (Str.ofString "")) kd p) (Str.ofString "join") p2) [e] [] pos) (.d (.str (Txt.join (Str.ofString "") ts))) := fun A c g F rest s E Q hA B hF S q =>
 MethodCall_ ((ev_str : Ev prog w n sc m σ _ _) A c g F rest s E _ hA B hF S fun c1 g1 v s1 w1 r1 S1 => by
  apply r1.onStr; intro _
  refine GM.join ?_
  refine callWith_method1 (evl_cons h evl_nil (fun env => (hp env).1) A c1 g1 F rest s1 E _ _ hA (B.keeps w1.up) hF S1 fun c2 g2 vs s2 w2 r2 S2 => ?_) (hp _).1 ((hp _).2 _)
  apply r2.onOne; intro v ra; apply ra.onList; intro ad nn vs e1 h1
  obtain ⟨L, S0⟩ := S2.base
  obtain ⟨l, rfl, hl⟩ := rdAll_strs h1
  exact SC.join (texts := ts) ⟨_, S0.keep _ _ e1, rfl, nn, rfl⟩ hl hz fun t' k => q c2 g2 _ _ (w1.trans w2) (.str _ _) (S2.tok _)) (he _)
theorem es_pop (hm : m.lookup x = some (.ref ad)) (P : PutO ad (.list (xs ++ [.str y])) (.list xs) σ σ') (hz : xs.length < sizeLine) {pl : Env -> Sem Bool} {pos2 : Pos}
  (hd : autoParam ((x == ("__debug__" : Str)) = false) auD) (hn : autoParam ((x == ("__classdict__" : Str)) = false) auD)
  (he : autoParam (∀ env, eval (.Call (.Attribute (.Name x p) (Str.ofString "pop") p2) [] [] pos) env = (do
   let ov <- eval (.Name x p) env
   standAt p2.atName
   let (f, first) <- holding [ov] (getMethod ov (Str.ofString "pop") (pl env))
   callWith pos f first (backTo pos (starEach [] env)) [])) auI1) : Es prog w n sc m σ (.Expr (.Call (.Attribute (.Name x p) (Str.ofString "pop") p2) [] [] pos) pos2) .next m σ' := fun A c g F rest s E Q hA B hF S q =>
 wpAny_Expr (MethodCall_ (pl := pl F.env) ((ev_name hm hd hn : Ev prog w n sc m σ (.Name x p) _) A c g F rest s E _ hA B hF S fun c1 g1 v1 s1 w1 r1 S1 => by
  obtain rfl : v1 = .ref ad := r1
  obtain ⟨L, S2, back⟩ := S1.turnO P
  obtain ⟨o, ho, vs, ⟨nn, rfl⟩, hr⟩ := S2.at List.mem_cons_self
  refine getMethod_builtin ⟨_, ho, rfl⟩ PySem.F.plainAttrs_list PySem.F.slot_list_pop PySem.F.type_list_pop (fun b hb => by cases hb; exact ⟨_, ho, rfl⟩) ?_
  refine callWith_method0 ?_
  obtain ⟨vs', u, rfl, hr', hu⟩ : ∃ vs' u, vs = vs' ++ [u] /\ RdAll prog w g1 vs' xs /\ Rd prog w g1 u (.str y) := by
   have hlen := hr.len
   simp only [List.length_append, List.length_cons, List.length_nil] at hlen
   rcases List.eq_nil_or_concat vs with rfl | ⟨vs', u, rfl⟩
   ·simp at hlen
   ·refine ⟨vs', u, by simp, ?_, ?_⟩
    ·have := hr.take xs.length
     simp only [List.concat_eq_append, List.length_append, List.length_cons, List.length_nil] at hlen
     have hl : xs.length = vs'.length := by omega
     rwa [List.take_left, hl, List.concat_eq_append, List.take_left] at this
    ·have := hr.drop xs.length
     simp only [List.concat_eq_append, List.length_append, List.length_cons, List.length_nil] at hlen
     have hl : xs.length = vs'.length := by omega
     rw [List.drop_left, hl, List.concat_eq_append, List.drop_left] at this
     cases this with | cons a b => exact a
  cases hu with | str _ tk =>
  refine call_meets PySem.F.slot_list_pop ⟨_, ho, rfl⟩ PySem.F.entry_list_pop (PySem.F.args_list_pop_1 _) (PySem.MeetsSeq.list_pop_last ad _ nn (.str y tk) (by simp) (by simp [hr'.len]; omega)) ⟨ho, q c1 g1 .next _ w1 trivial (back _ (S2.turn (s' := { s1 with heap := _ }) (Heap.SameBut.update ..).extBut ⟨_, Heap.get?_update_self _ ho ?_, vs', ⟨nn + 1, ?_⟩, hr'⟩ rfl rfl rfl))⟩
  ·rfl
  ·have q : (vs' ++ [Value.str y tk]).eraseIdx vs'.length = vs' := by rw [List.eraseIdx_append_of_length_le (Nat.le_refl _)]; simp
   simp [Obj.mapSeq, q]) (he _))
  (by unfold interactive; rw [hF.scope, hF.fn]; rfl)
theorem ev_subOwnN (P : PutO ad (.list xs) d' σ σ') (h1 : Ev prog w n sc m σ e1 (.ref ad)) (h2 : Ev prog w n sc m σ e2 (.d (.int i))) (h0 : i < 0) (hl : -(xs.length : Int) <= i) (hk : -(2 ^ 63) <= i) (hd : xs[(i + xs.length).toNat]? = some d) (hs : autoParam (∀ o k, subscripted e2 false o k = operate [o, k] (getItem o k)) auI2) : Ev prog w n sc m σ (.Subscript e1 e2 pos) (.d d) := fun A c g F rest s E Q hA B hF S q =>
 Subscript_ (h1 A c g F rest s E _ hA B hF S fun c1 g1 v1 s1 w1 r1 S1 => h2 A c1 g1 F rest s1 E _ hA (B.keeps w1.up) hF S1 fun c2 g2 v2 s2 w2 r2 S2 => by
  obtain rfl : v1 = .ref ad := r1
  apply r2.onInt; intro _
  refine sub_tail ?_ (hs _ _)
  obtain ⟨o, ho, vs, ⟨nn, rfl⟩, hr⟩ := S2.ownAt P
  obtain ⟨u, hu, ru⟩ := hr.get hd
  have hl' : s2.heap.IsList ad vs.toArray := ⟨_, ho, rfl, nn, rfl⟩
  have := hr.len
  exact ⟨"list", _, slot_list_getitem.lookup, hl'.typeIs, wpAny_getItem_list_neg hl' h0 (by simpa [this] using hl) hk (by simpa [this] using hu) (q c2 g2 u s2 (w1.trans w2) ru S2)⟩)
end

end
section
noncomputable def optD : Option Int -> PyData
 | none => .none
 | some i => .int i
noncomputable abbrev StT := Int × Option Int × List Str
noncomputable def stM (x : Str) (ar : Addr) (st : StT) : AM := [(Str.ofString "result", .ref ar), (Str.ofString "open_pos", .d (optD st.2.1)), (Str.ofString "start", .d (.int st.1)), (Str.ofString "addr", .d (.str x))]
noncomputable def stO (ar : Addr) (st : StT) : OwnL := [(ar, .list (st.2.2.map .str))]
theorem quote_iff {l : List Nat} {ch : Nat} {t : Str} (ht : t = chS ch) : strOf l = t ↔ l = [ch] := by
 subst ht
 exact ⟨fun e => by have := congrArg (fun (z : Str) => z.cps.toList) e; simpa [strOf, chS] using this, fun e => by rw [e]; rfl⟩
theorem stripStep_ok {x : Str} {st : StT} {y : Int × List Nat} (h : ∀ p ∈ st.2.2, p.length <= x.length) : (stripStep x st y).2.2.length <= st.2.2.length + 1 /\ ∀ p ∈ (stripStep x st y).2.2, p.length <= x.length := by
 unfold stripStep
 split
 ·split
  ·exact ⟨Nat.le_succ _, h⟩
  ·split
   ·exact ⟨Nat.le_succ _, h⟩
   ·refine ⟨by simp, fun p hp => ?_⟩
    rcases List.mem_append.mp hp with hp | hp
    ·exact h p hp
    ·rw [List.mem_singleton.mp hp]; exact Txt.slice_le x _ _
 ·exact ⟨Nat.le_succ _, h⟩
section
variable {prog : Program} {w : World}
theorem strip_fn {x : Str} (hx : x.length <= 1000) : Fn prog w 11 49 [.str x] (.str (stripT x)) := by
 have hz : x.length <= sizeLine := by rw [sizeLine_eq]; omega
 refine fn_of (m0 := [(Str.ofString "addr", .d (.str x))]) (fun w => by k_is) (fun w => by k_is) (len1 fun _ => rfl) (by decide) (by decide) rfl ?_ rfl rfl rfl
 by_cases hq : 34 ∈ x.cps.toList
 ·refine ex_cons (es_ifK (evt_cmp ev_str (ev_name rfl) (qs_q ▸ op_notInC)) (fun h => by rw [decide_eq_true hq] at h; cases h) fun _ => ex_nil) ?_
  refine ex_cons (es_assign ev_int rfl) (ex_cons (es_assign ev_none rfl) (ex_newList evl_nil (by rw [sizeLine_eq]; decide) (.inl rfl) fun ar => ?_))
  have hinv : ∀ (l : List (Int × List Nat)) (st : StT), st.2.2.length + l.length <= 1001 /\ (∀ p ∈ st.2.2, p.length <= x.length) -> (l.foldl (stripStep x) st).2.2.length <= 1001 /\ ∀ p ∈ (l.foldl (stripStep x) st).2.2, p.length <= x.length := fun l => by
   induction l with
   | nil => intro st h; exact ⟨by simpa using h.1, h.2⟩
   | cons y l ih =>
    intro st h
    have := stripStep_ok (y := y) h.2
    exact ih _ ⟨by have := h.1; simp only [List.length_cons] at this; omega, this.2⟩
  have h0 : (([] : List Str).length + (iterE 0 false x.cps.toList).length <= 1001 /\ ∀ p ∈ ([] : List Str), p.length <= x.length) := by
   have := iterE_len 0 false x.cps.toList
   have hx' : x.cps.toList.length <= 1000 := by simpa [Str.length] using hx
   exact ⟨by simp only [List.length_nil]; omega, fun p hp => nomatch hp⟩
  have hfin := hinv _ (0, none, []) h0
  refine ex_cons (es_forGen (by walk_at "glf") (ev_name rfl) (by rw [sizeLine_eq]; omega) (lp_foldI (fun y => .tuple [.int y.1, .str (strOf y.2)]) (stM x ar) (stO ar) (stripStep x) (fun st l => st.2.2.length + l.length <= 1001 /\ ∀ p ∈ st.2.2, p.length <= x.length) (fun st y l h => ?_) (fun st y l h => ?_) _ (0, none, []) h0) (by decide)) ?_
  ·have := stripStep_ok (y := y) h.2
   exact ⟨by have := h.1; simp only [List.length_cons] at this; omega, this.2⟩
  ·have hlen : (st.2.2.map PyData.str).length <= sizeLine := by have := h.1; rw [List.length_map, sizeLine_eq]; omega
   clear h h0 hfin hinv hq
   refine bd_tup (.cons (.inl rfl) (.cons (.inl rfl) .nil)) (ex_cons (m1 := stM x ar (stripStep x st y)) (σ1 := stO ar (stripStep x st y)) (es_if (evt_cmp (ev_name rfl) ev_str op_eqS) (fun hb => ?_) fun hb => ?_) ex_nil)
   ·have hy : y.2 = [34] := (quote_iff qs_q).mp (of_decide_eq_true hb)
    obtain ⟨sta, op, pcs⟩ := st
    cases op with
    | none =>
     rw [show stripStep x (sta, none, pcs) y = (sta, some y.1, pcs) by unfold stripStep; rw [if_pos hy]]
     exact ex_cons (m1 := stM x ar (sta, some y.1, pcs)) (es_if (evt_cmp (ev_name rfl) ev_none (op_isNone (.inl rfl))) (fun _ => ex_cons (es_assign (ev_name rfl) rfl) (ex_end (by walk_at "sub"))) fun h => nomatch h) ex_nil
    | some o =>
     rw [show stripStep x (sta, some o, pcs) y = (y.1 + 1, none, if sta = o then pcs else pcs ++ [Txt.slice x (some sta) (some o)]) by unfold stripStep; rw [if_pos hy]]
     refine ex_cons (m1 := stM x ar (y.1 + 1, none, if sta = o then pcs else pcs ++ [Txt.slice x (some sta) (some o)])) (es_if (evt_cmp (ev_name rfl) ev_none (op_isNone (.inr ⟨o, rfl⟩))) (fun h => nomatch h) fun _ => ?_) ex_nil
     refine ex_cons (σ1 := stO ar (y.1 + 1, none, if sta = o then pcs else pcs ++ [Txt.slice x (some sta) (some o)])) (es_ifK (evt_cmp (ev_name rfl) (ev_name rfl) op_neI) (fun h => ?_) fun h => ?_) ?_
     ·rw [if_neg (by simpa using h)]
      refine ex_cons (es_append rfl .head (ev_sliceFT (ev_name rfl) (ev_name rfl) (ev_name rfl) (ops_str hz)) hlen) ?_
      rw [<- show (pcs ++ [Txt.slice x (some sta) (some o)]).map PyData.str = pcs.map PyData.str ++ [.str (Txt.slice x (some sta) (some o))] by simp]
      exact ex_nil
     ·rw [if_pos (by simpa using h)]; exact ex_nil
     ·exact ex_cons (es_assign (ev_bin (ev_name rfl) ev_int op_add) rfl) (ex_cons (es_assign ev_none rfl) (ex_end (by walk_at "sub")))
   ·have hy : y.2 ≠ [34] := fun e => of_decide_eq_false hb ((quote_iff qs_q).mpr e)
    rw [show stripStep x st y = st by unfold stripStep; rw [if_neg hy]]
    exact ex_end (by walk_at "sub")
  ·have hT : stripT x = Txt.join (Str.ofString "") ((stripZ x).2.2 ++ (if (stripZ x).1 < (x.length : Int) then [Txt.slice x (some (stripZ x).1) none] else [])) := by unfold stripT; rw [if_pos hq]
   change (stripZ x).2.2.length <= 1001 /\ ∀ p ∈ (stripZ x).2.2, p.length <= x.length at hfin
   change Ex prog w 10 _ (stM x ar (stripZ x)) (stO ar (stripZ x)) _ _ _ _
   rw [hT]
   generalize stripZ x = z at hfin
   refine ex_cons (σ1 := [(ar, .list ((z.2.2 ++ (if z.1 < (x.length : Int) then [Txt.slice x (some z.1) none] else [])).map .str))]) (es_ifK (evt_cmp (ev_name rfl) (ev_callB (by walk_at "glb") (evl_cons (ev_name rfl) evl_nil) (callb_lenS hz)) op_ltI) (fun h => ?_) fun h => ?_) ?_
   ·rw [if_pos (of_decide_eq_true h), List.map_append]
    exact ex_cons (es_append rfl .head (ev_sliceF (ev_name rfl) (ev_name rfl) (ops_str hz)) (by rw [List.length_map, sizeLine_eq]; omega)) ex_nil
   ·rw [if_neg (of_decide_eq_false h), List.append_nil]; exact ex_nil
   ·refine ex_freeze (x := Str.ofString "result") .head rfl (ex_ret (ev_join (ev_name rfl) (joinOk_of ?_ fun p hp => ?_)))
    ·rw [List.length_append]; split <;> simp <;> omega
    ·rcases List.mem_append.mp hp with hp | hp
     ·exact Nat.le_trans (hfin.2 p hp) hx
     ·split at hp
      ·rw [List.mem_singleton.mp hp]; exact Nat.le_trans (Txt.slice_le x _ _) hx
      ·cases hp
 ·refine ex_stop (es_if (evt_cmp ev_str (ev_name rfl) (qs_q ▸ op_notInC)) (fun _ => ?_) fun h => ?_) (fun h => nomatch h)
  ·rw [stripT, if_neg hq]; exact ex_ret (ev_name rfl)
  ·rw [decide_eq_false hq] at h; cases h
end

end
section
noncomputable def stepM {α β : Type} (step : β -> α -> Option β) : List α -> β -> Option β
 | [], b => some b
 | x :: l, b => match step b x with
  | some b' => stepM step l b'
  | none => none
theorem stepM_c {α β : Type} {step : β -> α -> Option β} {x : α} {l : List α} {b : β} : stepM step (x :: l) b = match step b x with
  | some b' => stepM step l b'
  | none => none := rfl
noncomputable def parStep (k : Int) (y : Int × List Nat) : Option Int :=
 if strOf y.2 = Str.ofString "(" then some (k + 1) else if strOf y.2 = Str.ofString ")" then (if k - 1 < 0 then none else some (k - 1)) else some k
noncomputable def checkT (x : Str) : Bool := match stepM parStep (iterE 0 false (stripT x).cps.toList) 0 with
 | some k => k == 0
 | none => false
noncomputable def preT (xs : List Str) : List Str := xs.map fun x => if checkT x then x else Str.ofString "('', '')"
noncomputable abbrev ToT := List (Str × Str) × List Str
noncomputable def toldStep (st : ToT) (y : Int × List Nat) : ToT :=
 if strOf y.2 = Str.ofString ")" then (st.1, st.2.dropLast) else if ¬ strOf y.2 = Str.ofString "(" then (st.1 ++ [((st.2.getLast?).getD (Str.ofString ""), strOf y.2)], st.2 ++ [strOf y.2]) else st
noncomputable def toldT (x : Str) : List (Str × Str) := ((iterE 0 false (stripT x).cps.toList).foldl toldStep ([], [Str.ofString ""])).1
noncomputable def okTold : List (Int × List Nat) -> Nat -> Prop
 | [], _ => True
 | y :: l, k => if strOf y.2 = Str.ofString ")" then 1 <= k /\ okTold l (k - 1) else if ¬ strOf y.2 = Str.ofString "(" then 1 <= k /\ okTold l (k + 1) else okTold l k
theorem okTold_c {y : Int × List Nat} {l : List (Int × List Nat)} {k : Nat} : okTold (y :: l) k = if strOf y.2 = Str.ofString ")" then 1 <= k /\ okTold l (k - 1) else if ¬ strOf y.2 = Str.ofString "(" then 1 <= k /\ okTold l (k + 1) else okTold l k := rfl
theorem glued_len : ∀ texts : List Str, (Txt.join (Str.ofString "") texts).length <= (texts.map (·.length)).sum := fun texts => by
 have h := size_glued (Str.ofString "") texts
 rw [show (Str.ofString "").length = 0 by decide, Nat.mul_zero, Nat.add_zero] at h
 exact Nat.le_of_eq h
theorem strip_pieces {x : Str} (hx : x.length <= 1000) : (stripZ x).2.2.length <= 1001 /\ ∀ p ∈ (stripZ x).2.2, p.length <= x.length := by
 have hinv : ∀ (l : List (Int × List Nat)) (st : StT), st.2.2.length + l.length <= 1001 /\ (∀ p ∈ st.2.2, p.length <= x.length) -> (l.foldl (stripStep x) st).2.2.length <= 1001 /\ ∀ p ∈ (l.foldl (stripStep x) st).2.2, p.length <= x.length := fun l => by
  induction l with
  | nil => intro st h; exact ⟨by simpa using h.1, h.2⟩
  | cons y l ih =>
   intro st h
   have := stripStep_ok (y := y) h.2
   exact ih _ ⟨by have := h.1; simp only [List.length_cons] at this; omega, this.2⟩
 have := iterE_len 0 false x.cps.toList
 have hx' : x.cps.toList.length <= 1000 := by simpa [Str.length] using hx
 exact hinv _ (0, none, []) ⟨by simp only [List.length_nil]; omega, fun p hp => nomatch hp⟩
theorem stripT_len {x : Str} (hx : x.length <= 1000) : (stripT x).length <= 1002000 := by
 unfold stripT
 split
 ·obtain ⟨h1, h2⟩ := strip_pieces hx
  refine Nat.le_trans (glued_len _) ?_
  have h3 : ∀ p ∈ (stripZ x).2.2 ++ (if (stripZ x).1 < (x.length : Int) then [Txt.slice x (some (stripZ x).1) none] else []), p.length <= 1000 := fun p hp => by
   rcases List.mem_append.mp hp with hp | hp
   ·exact Nat.le_trans (h2 p hp) hx
   ·split at hp
    ·rw [List.mem_singleton.mp hp]; exact Nat.le_trans (Txt.slice_le x _ _) hx
    ·cases hp
  have h4 : ((stripZ x).2.2 ++ (if (stripZ x).1 < (x.length : Int) then [Txt.slice x (some (stripZ x).1) none] else [])).length <= 1002 := by
   rw [List.length_append]; split <;> simp <;> omega
  generalize (stripZ x).2.2 ++ (if (stripZ x).1 < (x.length : Int) then [Txt.slice x (some (stripZ x).1) none] else []) = l at h3 h4
  have := sum_le_len (l.map (·.length)) 1000 (fun y hy => by obtain ⟨z, hz, rfl⟩ := List.mem_map.mp hy; exact h3 z hz)
  rw [List.length_map] at this
  omega
 ·omega
section
variable {prog : Program} {w : World} {n : Nat} {sc : Sc} {tgt : Expr} {body : List Stmt}
theorem lp_ret {α β : Type} (enc : α -> PyData) (mk : β -> AM) (sg : β -> OwnL) (step : β -> α -> Option β) (r : AV) (h : ∀ b x b', step b x = some b' -> Bd prog w n sc tgt body (enc x) (mk b) (sg b) .next (mk b') (sg b')) (hr : ∀ b x, step b x = none -> Bd prog w n sc tgt body (enc x) (mk b) (sg b) (.ret r) [] []) :
  ∀ (l : List α) (b : β), match stepM step l b with
   | some b' => Lp prog w n sc tgt body (l.map enc) (mk b) (sg b) .next (mk b') (sg b')
   | none => Lp prog w n sc tgt body (l.map enc) (mk b) (sg b) (.ret r) [] []
 | [], b => ⟨rfl, rfl, rfl⟩
 | x :: l, b => by
  have ih := fun b' => lp_ret enc mk sg step r h hr l b'
  rw [stepM_c]
  cases e : step b x with
  | none => exact ⟨.ret r, [], [], hr b x e, rfl, rfl, rfl⟩
  | some b' =>
   have := ih b'
   dsimp only
   revert this
   cases stepM step l b' with
   | none => exact fun z => ⟨.next, _, _, h b x b' e, z⟩
   | some b2 => exact fun z => ⟨.next, _, _, h b x b' e, z⟩
theorem ex_genRet {α β : Type} {m : AM} {σ : OwnL} {enc : α -> PyData} {mk : β -> AM} {sg : β -> OwnL} {step : β -> α -> Option β} {r a : AV} {b0 : β} {items : List α} {f : Str} {e : Expr} {p p2 pos : Pos} {x : Str} {ss : List Stmt} (G : GlF w sc f 42) (he : Ev prog w n sc (mk b0) (sg b0) e (.d (.str x))) (hx : x.length < sizeLine) (hd : escD x = items.map enc) (hn : 7 <= n)
  (h : ∀ b x b', step b x = some b' -> Bd prog w n sc tgt body (enc x) (mk b) (sg b) .next (mk b') (sg b')) (hr : ∀ b x, step b x = none -> Bd prog w n sc tgt body (enc x) (mk b) (sg b) (.ret r) [] []) (k : ∀ b, stepM step items b0 = some b -> Ex prog w n sc (mk b) (sg b) ss (.ret a) [] []) (k2 : stepM step items b0 = none -> a = r)
  (hp : autoParam (PlainArgs e []) auP) (hs : autoParam (∀ env v, foldedSetIterable (.Call (.Name f p) [e] [] p2) env v = pure v) auI2) (hm : m = mk b0) (hsg : σ = sg b0) : Ex prog w n sc m σ (.For tgt (.Call (.Name f p) [e] [] p2) body [] pos :: ss) (.ret a) [] [] := by
 subst hm; subst hsg
 have L := lp_ret enc mk sg step r h hr items b0
 rw [<- hd] at L
 cases q : stepM step items b0 with
 | none => rw [q] at L; rw [k2 q]; exact ex_stop (es_forGen G he hx L hn hp hs) (fun h => nomatch h)
 | some b => rw [q] at L; exact ex_cons (es_forGen G he hx L hn hp hs) (k b q)
theorem check_fn {x : Str} (hx : x.length <= 1000) : Fn prog w 12 56 [.str x] (.bool (checkT x)) := by
 have hs := stripT_len hx
 refine fn_of (m0 := [(Str.ofString "addr", .d (.str x))]) (fun w => by k_is) (fun w => by k_is) (len1 fun _ => rfl) (by decide) (by decide) rfl ?_ rfl rfl rfl
 refine ex_cons (es_assign (ev_callF (by walk_at "glf") (evl_cons (ev_name rfl) evl_nil) (strip_fn hx)) rfl) (ex_cons (es_assign ev_int rfl) ?_)
 refine ex_pre (m1 := [(Str.ofString "opens", .d (.int 0)), (Str.ofString "addr", .d (.str (stripT x)))]) ?_ (by walk_at "sub" : Sub _ _).at
 unfold checkT
 generalize stripT x = y at hs
 refine ex_genRet (mk := fun k : Int => [(Str.ofString "opens", .d (.int k)), (Str.ofString "addr", .d (.str y))]) (sg := fun _ => []) (step := parStep) (r := .d (.bool false)) (b0 := 0) (items := iterE 0 false y.cps.toList) (enc := fun y => .tuple [.int y.1, .str (strOf y.2)]) (by walk_at "glf") (ev_name rfl) (by rw [sizeLine_eq]; omega) rfl (by decide) (fun k z k' hk => ?_) (fun k z hk => ?_) (fun k hk => ?_) (fun hk => ?_) (hm := rfl) (hsg := rfl)
 ·refine bd_tup (.cons (.inl rfl) (.cons (.inl rfl) .nil)) (ex_cons (m1 := [(Str.ofString "opens", .d (.int k')), (Str.ofString "addr", .d (.str y))]) (es_if (evt_cmp (ev_name rfl) ev_str op_eqS) (fun hb => ?_) fun hb => ?_) ex_nil)
  ·unfold parStep at hk
   rw [if_pos (of_decide_eq_true hb)] at hk; cases hk
   exact ex_cons (es_aug rfl ev_int op_iadd rfl) (ex_end (by walk_at "sub"))
  ·unfold parStep at hk
   rw [if_neg (of_decide_eq_false hb)] at hk
   refine ex_cons (m1 := [(Str.ofString "opens", .d (.int k')), (Str.ofString "addr", .d (.str y))]) (es_if (evt_cmp (ev_name rfl) ev_str op_eqS) (fun hb => ?_) fun hb => ?_) ex_nil
   ·rw [if_pos (of_decide_eq_true hb)] at hk
    refine ex_cons (es_aug rfl ev_int op_isub rfl) ?_
    split at hk
    ·cases hk
    ·cases hk
     exact ex_cons (es_ifK (evt_cmp (ev_name rfl) ev_int op_ltI) (fun h => absurd (of_decide_eq_true h) ‹_›) fun _ => ex_nil) (ex_end (by walk_at "sub"))
   ·rw [if_neg (of_decide_eq_false hb)] at hk; cases hk
    exact ex_end (by walk_at "sub")
 ·unfold parStep at hk
  split at hk
  ·cases hk
  ·split at hk
   ·split at hk
    ·refine bd_tup (.cons (.inl rfl) (.cons (.inl rfl) .nil)) (ex_stop (es_if (evt_cmp (ev_name rfl) ev_str op_eqS) (fun hb => absurd (of_decide_eq_true hb) ‹_›) fun hb => ?_) (fun h => nomatch h))
     refine ex_stop (es_if (evt_cmp (ev_name rfl) ev_str op_eqS) (fun hb => ?_) fun hb => absurd ‹_› (of_decide_eq_false hb)) (fun h => nomatch h)
     refine ex_cons (es_aug rfl ev_int op_isub rfl) (ex_stop (es_if (evt_cmp (ev_name rfl) ev_int op_ltI) (fun h => ex_ret ev_bool) fun hb => absurd ‹_› (of_decide_eq_false hb)) (fun h => nomatch h))
    ·cases hk
   ·cases hk
 ·rw [hk]
  exact ex_ret (ev_cmp (ev_name rfl) ev_int op_eqI)
 ·rw [hk]
theorem pre_fn {xs : List Str} (hx : ∀ x ∈ xs, x.length <= 1000) (hl : xs.length <= 1000000) : Fn prog w 13 63 [.list (xs.map .str)] (.list ((preT xs).map .str)) := by
 refine fn_of (m0 := [(Str.ofString "email_header_fields", .d (.list (xs.map .str)))]) (fun w => by k_is) (fun w => by k_is) (len1 fun _ => rfl) (by decide) (by decide) rfl ?_ rfl rfl rfl
 refine ex_newList evl_nil (by rw [sizeLine_eq]; decide) (.inl rfl) fun ar => ?_
 refine ex_cons (es_foldI (enc := .str) xs (fun _ => [(Str.ofString "accepted_values", .ref ar), (Str.ofString "email_header_fields", .d (.list (xs.map .str)))]) (fun ys : List Str => [(ar, .list (ys.map .str))]) (fun ys x => ys ++ [if checkT x then x else Str.ofString "('', '')"]) (fun ys l => ys.length + l.length <= 1000000 /\ ∀ x ∈ l, x.length <= 1000) [] ⟨by simpa using hl, hx⟩ (it_list (ev_name rfl)) rfl (fun ys x l h => ⟨by have := h.1; simp only [List.length_append, List.length_cons, List.length_nil] at this ⊢; omega, fun x hx => h.2 x (List.mem_cons_of_mem _ hx)⟩) (fun ys x l h => ?_) (by decide)) ?_
 ·refine bd_name (.inl rfl) ?_
  refine ex_cons (m1 := [(Str.ofString "v", .d (.str (if checkT x then x else Str.ofString "('', '')"))), (Str.ofString "accepted_values", .ref ar), (Str.ofString "email_header_fields", .d (.list (xs.map .str)))]) (σ1 := [(ar, .list (ys.map .str))]) (es_if (evt_not (evt_plain (ev_callF (by walk_at "glf") (evl_cons (ev_name rfl) evl_nil) (check_fn (h.2 x List.mem_cons_self))) tr_bool)) (fun hb => ?_) fun hb => ?_) ?_
  ·rw [if_neg (by simpa using hb)]; exact ex_cons (es_assign ev_str rfl) (ex_end (by walk_at "sub"))
  ·rw [if_pos (by simpa using hb)]; exact ex_end (by walk_at "sub")
  ·refine ex_cons (es_append rfl .head (ev_name rfl) (by have := h.1; rw [List.length_map, sizeLine_eq]; omega)) ?_
   rw [<- show (ys ++ [if checkT x then x else Str.ofString "('', '')"]).map PyData.str = ys.map PyData.str ++ [.str (if checkT x then x else Str.ofString "('', '')")] by simp]
   exact ex_end (by walk_at "sub")
 ·refine ex_freeze (x := Str.ofString "accepted_values") .head rfl ?_
  rw [show xs.foldl (fun ys x => ys ++ [if checkT x then x else Str.ofString "('', '')"]) [] = preT xs by
   have : ∀ (l : List Str) (b : List Str), l.foldl (fun ys x => ys ++ [if checkT x then x else Str.ofString "('', '')"]) b = b ++ preT l := fun l => by
    induction l with
    | nil => intro b; simp [preT]
    | cons x l ih => intro b; rw [List.foldl_cons, ih]; simp [preT]
   rw [this]; rfl]
  exact ex_ret (ev_name rfl)
set_option tactic.hygienic true in
theorem told_fn {x : Str} (hx : x.length <= 1000) (ok : okTold (iterE 0 false (stripT x).cps.toList) 1) : Fn prog w 12 140 [.str x] (.list ((toldT x).map prD)) := by
 have hs := stripT_len hx
 refine fn_of (m0 := [(Str.ofString "text", .d (.str x))]) (fun w => by k_is) (fun w => by k_is) (len1 fun _ => rfl) (by decide) (by decide) rfl ?_ rfl rfl rfl
 refine ex_swap [Str.ofString "pairs", Str.ofString "lasting"] [.fresh [], .fresh [.str (Str.ofString "")]] (.fresh evl_nil (sz_le rfl) fun _ => .fresh (evl_cons ev_str evl_nil) (sz_le rfl) fun _ => .nil) (fun x hx => ?_) (fun ads h => ?_) (fun ads h => ?_) (by decide)
 ·simp only [List.mem_cons, List.not_mem_nil, or_false] at hx; rcases hx with rfl | rfl <;> exact .inl rfl
 ·match ads, h with | [_, _], _ => rfl
 ·match ads, h with
  | [ap, al], _ =>
  show Ex prog w 11 _ [(Str.ofString "pairs", .ref ap), (Str.ofString "lasting", .ref al), (Str.ofString "text", .d (.str x))] [(al, .list [.str (Str.ofString "")]), (ap, .list [])] _ _ _ _
  have h0 : (([] : List (Str × Str)).length + (iterE 0 false (stripT x).cps.toList).length <= 2000000 /\ [Str.ofString ""].length + (iterE 0 false (stripT x).cps.toList).length <= 2000000 /\ okTold (iterE 0 false (stripT x).cps.toList) [Str.ofString ""].length) := by
   have h1 := iterE_len 0 false (stripT x).cps.toList
   have h2 : (stripT x).cps.toList.length <= 1002000 := by simpa [Str.length] using hs
   exact ⟨by simp only [List.length_nil]; omega, by simp only [List.length_cons, List.length_nil]; omega, ok⟩
  refine ex_cons (es_forGen (by walk_at "glf") (ev_callF (by walk_at "glf") (evl_cons (ev_name rfl) evl_nil) (strip_fn hx)) (by rw [sizeLine_eq]; omega) (lp_foldI (fun y => .tuple [.int y.1, .str (strOf y.2)]) (fun _ => [(Str.ofString "pairs", .ref ap), (Str.ofString "lasting", .ref al), (Str.ofString "text", .d (.str x))]) (fun st : ToT => [(al, .list (st.2.map .str)), (ap, .list (st.1.map prD))]) toldStep (fun st l => st.1.length + l.length <= 2000000 /\ st.2.length + l.length <= 2000000 /\ okTold l st.2.length) (fun st y l h => ?_) (fun st y l h => ?_) _ ([], [Str.ofString ""]) h0) (by decide)) ?_
  ·obtain ⟨h1, h2, h3⟩ := h
   simp only [List.length_cons] at h1 h2
   rw [okTold_c] at h3
   unfold toldStep
   split
   ·rename_i e
    rw [if_pos e] at h3
    exact ⟨by dsimp only; omega, by simp only [List.length_dropLast]; omega, by simpa using h3.2⟩
   ·rename_i e
    rw [if_neg e] at h3
    split
    ·rename_i e2
     rw [if_pos e2] at h3
     exact ⟨by simp only [List.length_append, List.length_cons, List.length_nil]; omega, by simp only [List.length_append, List.length_cons, List.length_nil]; omega, by simpa using h3.2⟩
    ·rename_i e2
     rw [if_neg e2] at h3
     exact ⟨by omega, by omega, h3⟩
  ·obtain ⟨h1, h2, h3⟩ := h
   simp only [List.length_cons] at h1 h2
   rw [okTold_c] at h3
   unfold toldStep
   obtain ⟨ps, st⟩ := st
   dsimp only at h1 h2 h3 ⊢
   have hst : 1 <= st.length -> ∃ r z, st = r ++ [z] := fun h => by
    rcases List.eq_nil_or_concat st with rfl | ⟨r, z, rfl⟩
    ·simp at h
    ·exact ⟨r, z, by simp⟩
   refine bd_tup (.cons (.inl rfl) (.cons (.inl rfl) .nil)) (ex_cons (es_ifK (evt_cmp (ev_name rfl) ev_str op_eqS) (fun hb => ?_) fun hb => ?_) (ex_end (by walk_at "sub")))
   ·have e := of_decide_eq_true hb
    rw [if_pos e] at h3 ⊢
    obtain ⟨r, z, rfl⟩ := hst h3.1
    rw [List.dropLast_concat, List.map_append]
    simp only [List.length_append, List.length_cons, List.length_nil] at h2
    exact ex_cons (es_pop rfl .head (by rw [List.length_map, sizeLine_eq]; omega)) ex_nil
   ·have e := of_decide_eq_false hb
    rw [if_neg e] at h3 ⊢
    refine ex_cons (es_ifK (evt_cmp (ev_name rfl) ev_str op_neS) (fun hb => ?_) fun hb => ?_) ex_nil
    ·have e2 : ¬ strOf y.2 = Str.ofString "(" := by simpa using hb
     rw [if_pos e2] at h3 ⊢
     obtain ⟨r, z, rfl⟩ := hst h3.1
     simp only [List.length_append, List.length_cons, List.length_nil] at h2
     rw [List.getLast?_concat, Option.getD_some]
     dsimp only
     rw [show (r ++ [z] ++ [strOf y.2]).map PyData.str = (r ++ [z]).map PyData.str ++ [.str (strOf y.2)] by simp, show (ps ++ [(z, strOf y.2)]).map prD = ps.map prD ++ [.tuple [.str z, .str (strOf y.2)]] by simp [prD]]
     refine ex_cons (es_append rfl (.tail .head) (ev_tuple (evl_cons (ev_subOwnN (d := .str z) (d' := .none) (σ' := [(al, .none), (ap, .list (ps.map prD))]) .head (ev_name rfl) (ev_neg ev_int) (by decide) ?_ (by decide) ?_) (evl_cons (ev_name rfl) evl_nil)) (sz_le rfl)) (by rw [List.length_map, sizeLine_eq]; omega)) (ex_cons (es_append rfl .head (ev_name rfl) (by simp only [List.length_map, List.length_append, List.length_cons, List.length_nil, sizeLine_eq]; omega)) ex_nil)
     ·simp only [List.length_map, List.length_append, List.length_cons, List.length_nil]; omega
     ·simp only [List.length_map, List.length_append, List.length_cons, List.length_nil]; rw [show ((-1 : Int) + ((r.length + (0 + 1) : Nat) : Int)).toNat = r.length by omega]; simp
    ·have e2 : ¬ ¬ strOf y.2 = Str.ofString "(" := by simpa using hb
     rw [if_neg e2] at h3 ⊢
     exact ex_nil
  ·refine ex_freeze (x := Str.ofString "pairs") (.tail .head) rfl (ex_ret (ev_name rfl))
end

end
section
noncomputable def cellNames (names : List (Str × NameKind)) : List Str := ((names.filter fun x => x.2 == .cell).map (·.1)).reverse
noncomputable def childEnv (scope : Scope) (globals : Addr) (cells : List (Str × Addr)) (qual : Str) (C : Addr) (env : Env) : Env :=
 { scope := scope, locals := C, globals := globals, cells := cells, qual := qual, func := none, code := env.code, frame := env.frame, builtins := env.builtins }
section
variable {M : Model} {A : Around} {E : Value -> Shared -> Prop} {c : Cx} {g : Heap} {own : Led} {s : Shared} {scope : Scope} {env : Env} {globals : Addr} {cl : List (Str × Addr)} {qual : Str}
theorem Hf.cells : ∀ (names : List (Str × NameKind)) (acc : List (Str × Addr)) {own : Led} {s : Shared}, Hf c g own s -> ∃ oc, cellsFrom s.heap.objs.size names acc = oc ++ acc /\ oc.map (·.1) = cellNames names /\ Hf c g (oc.map (fun y => (y.2, cellO none)) ++ own) { s with heap := pushCells s.heap names }
 | [], acc, own, s, S => ⟨[], rfl, rfl, S⟩
 | (x, k) :: r, acc, own, s, S => by
  unfold cellsFrom pushCells
  by_cases hk : (k == .cell) = true
  ·rw [if_pos hk, if_pos hk]
   have S1 : Hf c g ((s.heap.objs.size, cellO none) :: own) { s with heap := s.heap.push { cls := .type "cell", data := .cell none } } := S.alloc _ rfl
   obtain ⟨oc, e1, e2, S2⟩ := Hf.cells r ((x, s.heap.objs.size) :: acc) S1
   rw [show ({ s with heap := s.heap.push { cls := .type "cell", data := .cell none } } : Shared).heap.objs.size = s.heap.objs.size + 1 from Heap.size_push ..] at e1
   refine ⟨oc ++ [(x, s.heap.objs.size)], by rw [e1, List.append_assoc]; rfl, ?_, ?_⟩
   ·rw [List.map_append, e2]; simp [cellNames, hk]
   ·rw [List.map_append, List.append_assoc]; exact S2
  ·rw [if_neg hk, if_neg hk]
   obtain ⟨oc, e1, e2, S2⟩ := Hf.cells r acc S
   exact ⟨oc, e1, by rw [e2]; simp [cellNames, hk], S2⟩
theorem new_comp {Q : Env -> Shared -> Prop} (S : Hf c g own s) (h : ∀ C oc s', oc.map (·.1) = cellNames scope.names -> Hf c g ((C, nsO fun _ => none) :: ((oc.map fun y => (y.2, cellO none)) ++ own)) s' -> Q (childEnv scope globals (oc ++ cl) qual C env) s') :
  wpAny M A (newFunctionEnv scope globals cl [] qual none .none (some env)) Q E s := by
 simp only [newFunctionEnv, Option.isSome_some, if_true]
 refine wpAny_bind (wpAny_alloc ?_)
 refine wpAny_bind (wpAny_layCells _ (fun name kind cells => by cases hkc : kind == NameKind.cell <;> simp [hkc]) _ _ _ _ ?_)
 have S1 : Hf c g ((s.heap.objs.size, nsO fun _ => none) :: own) { s with heap := s.heap.push { cls := .type "dict", data := .dict #[] } } := S.alloc _ ⟨#[], _, rfl, fun _ h => by simp at h, fun _ => rfl⟩
 obtain ⟨oc, e1, e2, S2⟩ := Hf.cells scope.names cl S1
 rw [e1]
 refine wpAny_bind (wpAny_pure (wpAny_pure (h _ oc _ e2 (Hf.perm S2 ?_))))
 exact List.perm_middle
theorem closure_ok (h : ∀ y ∈ scope.names, y.2 = .free -> ∃ a, env.cells.lookup y.1 = some a) : ∃ cl, closureFor scope env = pure cl /\ ∀ x, (x, NameKind.free) ∈ scope.names -> cl.lookup x = env.cells.lookup x := by
 have key : ∀ (names : List (Str × NameKind)) (cs : List (Str × Addr)), (∀ y ∈ names, y.2 = .free -> ∃ a, env.cells.lookup y.1 = some a) -> (∀ y ∈ cs, env.cells.lookup y.1 = some y.2) ->
   ∃ cl, (forIn names cs fun (y : Str × NameKind) (cs : List (Str × Addr)) => if (y.2 == .free) = true then (do let a <- cellOf env y.1; pure (ForInStep.yield ((y.1, a) :: cs)) : Sem _) else pure (ForInStep.yield cs)) = pure cl /\ (∀ y ∈ cl, env.cells.lookup y.1 = some y.2) /\ (∀ y ∈ cs, y ∈ cl) /\ ∀ x, (x, NameKind.free) ∈ names -> ∃ a, (x, a) ∈ cl := by
  intro names
  induction names with
  | nil => intro cs _ h2; exact ⟨cs, by simp, h2, fun _ z => z, fun _ z => nomatch z⟩
  | cons y r ih =>
   intro cs h1 h2
   by_cases hk : y.2 = .free
   ·obtain ⟨a, ha⟩ := h1 y List.mem_cons_self hk
    obtain ⟨cl, e, k1, k2, k3⟩ := ih ((y.1, a) :: cs) (fun z hz => h1 z (List.mem_cons_of_mem _ hz)) (fun z hz => by
     rcases List.mem_cons.mp hz with rfl | hz
     ·exact ha
     ·exact h2 z hz)
    refine ⟨cl, ?_, k1, fun z hz => k2 z (List.mem_cons_of_mem _ hz), fun x hx => ?_⟩
    ·rw [List.forIn_cons, if_pos (by rw [hk]; rfl)]
     simp only [cellOf, ha, pure_bind, bind_assoc]
     exact e
    ·rcases List.mem_cons.mp hx with rfl | hx
     ·exact ⟨a, k2 _ List.mem_cons_self⟩
     ·exact k3 x hx
   ·obtain ⟨cl, e, k1, k2, k3⟩ := ih cs (fun z hz => h1 z (List.mem_cons_of_mem _ hz)) h2
    refine ⟨cl, ?_, k1, k2, fun x hx => ?_⟩
    ·rw [List.forIn_cons, if_neg (by simpa using hk), pure_bind]
     exact e
    ·rcases List.mem_cons.mp hx with rfl | hx
     ·exact absurd rfl hk
     ·exact k3 x hx
 obtain ⟨cl, e, k1, _, k3⟩ := key scope.names [] h (fun _ z => nomatch z)
 refine ⟨cl, ?_, fun x hx => ?_⟩
 ·unfold closureFor
  refine Eq.trans ?_ e
  rw [bind_pure]
 ·obtain ⟨a, ha⟩ := k3 x hx
  have h1 := k1 _ ha
  have : (cl.lookup x).isSome := by
   rw [List.lookup_isSome_iff]
   exact ⟨_, ha, by simp⟩
  obtain ⟨b, hb⟩ := Option.isSome_iff_exists.mp this
  have h2 := k1 _ (mem_of_lookup hb)
  rw [hb]; exact h2.symm
end

end
section
noncomputable def EvX (prog : Program) (w : World) (n : Nat) (sc : Sc) (m : AM) (σ : OwnL) (e : Expr) (d : PyData) (σ' : OwnL) : Prop :=
 ∀ (A : Around) (c : Cx) (g : Heap) (F : Frm) (rest : RL) (s : Shared) (E : Value -> Shared -> Prop) (Q : Value -> Shared -> Prop), AOk n A -> Base w g -> FrOk sc F -> St prog w c g F m σ rest s ->
  (∀ c' g' v s', Wle c g c' g' -> Rd prog w g' v d -> St prog w c' g' F m σ' rest s' -> Q v s') -> wpAny (model prog w) A (eval e F.env) Q E s
noncomputable def EvP (prog : Program) (w : World) (n : Nat) (sc : Sc) (m : AM) (σ : OwnL) (e : Expr) (P : PyData -> OwnL -> Prop) : Prop :=
 ∀ (A : Around) (c : Cx) (g : Heap) (F : Frm) (rest : RL) (s : Shared) (E : Value -> Shared -> Prop) (Q : Value -> Shared -> Prop), AOk n A -> Base w g -> FrOk sc F -> St prog w c g F m σ rest s ->
  (∀ c' g' v d σ' s', P d σ' -> Wle c g c' g' -> Rd prog w g' v d -> St prog w c' g' F m σ' rest s' -> Q v s') -> wpAny (model prog w) A (eval e F.env) Q E s
noncomputable def Tb (prog : Program) (w : World) (n : Nat) (sc : Sc) (tgt : Expr) (d : PyData) (m m1 : AM) : Prop :=
 ∀ (A : Around) (c : Cx) (g : Heap) (F : Frm) (σ : OwnL) (rest : RL) (s : Shared) (E : Value -> Shared -> Prop) (Q : Unit -> Shared -> Prop) (v : Value), AOk n A -> FrOk sc F -> St prog w c g F m σ rest s -> Rd prog w g v d -> (∀ s', St prog w c g F m1 σ rest s' -> Q () s') -> wpAny (model prog w) A (assign tgt F.env v) Q E s
noncomputable def EvTs (prog : Program) (w : World) (n : Nat) (sc : Sc) (m : AM) (σ : OwnL) (ifs : List Expr) (b : Bool) : Prop :=
 match ifs with
 | [] => b = true
 | [c] => EvT prog w n sc m σ c b
 | _ => False
inductive Ct (prog : Program) (w : World) (n : Nat) (sc : Sc) (tgt : Expr) (ifs : List Expr) (elt : Expr) (m : AM) : List PyData -> OwnL -> List PyData -> OwnL -> Prop
 | nil {σ : OwnL} : Ct prog w n sc tgt ifs elt m [] σ [] σ
 | yes {d o : PyData} {ds out : List PyData} {m1 : AM} {σ σ1 σ' : OwnL} : Tb prog w n sc tgt d m m1 -> (∀ x a, m.lookup x = some a -> m1.lookup x = some a) -> EvTs prog w n sc m1 σ ifs true -> EvX prog w n sc m1 σ elt o σ1 -> Ct prog w n sc tgt ifs elt m ds σ1 out σ' -> Ct prog w n sc tgt ifs elt m (d :: ds) σ (o :: out) σ'
 | no {d : PyData} {ds out : List PyData} {m1 : AM} {σ σ' : OwnL} : Tb prog w n sc tgt d m m1 -> (∀ x a, m.lookup x = some a -> m1.lookup x = some a) -> EvTs prog w n sc m1 σ ifs false -> Ct prog w n sc tgt ifs elt m ds σ out σ' -> Ct prog w n sc tgt ifs elt m (d :: ds) σ out σ'
noncomputable def CtP (prog : Program) (w : World) (n : Nat) (sc : Sc) (tgt : Expr) (ifs : List Expr) (elt : Expr) (m : AM) (K : List PyData -> OwnL -> Prop) : List PyData -> List PyData -> OwnL -> Prop
 | [], xs, σ => K xs σ
 | d :: ds, xs, σ => ∃ m1, Tb prog w n sc tgt d m m1 /\ (∀ x a, m.lookup x = some a -> m1.lookup x = some a) /\
   ((EvTs prog w n sc m1 σ ifs true /\ EvP prog w n sc m1 σ elt fun o σ1 => CtP prog w n sc tgt ifs elt m K ds (xs ++ [o]) σ1) \/ (EvTs prog w n sc m1 σ ifs false /\ CtP prog w n sc tgt ifs elt m K ds xs σ))
noncomputable def relS (scope : Scope) (sc : Sc) : Sc :=
 ⟨{ scope with names := scope.names.map fun (n, k) => if (k == .free && sc.kind == .function && sc.names.lookup n == some .cell) then (n, .cell) else (n, k) }, cellNames scope.names⟩
noncomputable def capOk (scope : Scope) (sc : Sc) (x : Str) : Bool :=
 !(sc.names.lookup x == some .local) && scope.names.contains (x, .free) && ((relS scope sc).names.lookup x == some .cell || (relS scope sc).names.lookup x == some .free) && !(cellNames scope.names).contains x
inductive Cap (scope : Scope) (sc : Sc) (m : AM) : AM -> Prop
 | nil : Cap scope sc m []
 | cons {x : Str} {a : AV} {r : AM} : m.lookup x = some a -> capOk scope sc x = true -> Cap scope sc m r -> Cap scope sc m ((x, a) :: r)
theorem Cap.at {scope : Scope} {sc : Sc} {m m' : AM} (h : Cap scope sc m m') : ∀ x a, m'.lookup x = some a -> m.lookup x = some a /\ capOk scope sc x = true := by
 induction h with
 | nil => intro x a e; cases e
 | @cons y b r hy hc _ ih =>
  intro x a e
  rw [List.lookup_cons] at e
  cases hx : x == y with
  | true => rw [hx] at e; cases e; rw [eq_of_beq hx]; exact ⟨hy, hc⟩
  | false => rw [hx] at e; exact ih x a e
structure CompOk (scope : Scope) (sc : Sc) (m m' : AM) : Prop where
 kind : scope.kind = .function
 names : (scope.names.all fun x => x.2 != .local || scope.names.lookup x.1 == some .local) = true
 free : (scope.names.all fun y => y.2 != .free || ((m.lookup y.1).isSome && !(sc.names.lookup y.1 == some .local))) = true
 nd : (cellNames scope.names).Nodup
 cap : Cap scope sc m m'
structure Acc (X : Type) where
 P : Heap -> X -> OP
 up : ∀ {g g' : Heap}, (∀ b o, g.get? b = some o -> g'.get? b = some o) -> ∀ x o, P g x o -> P g' x o
noncomputable abbrev ActW := Around -> Addr -> Env -> (Value -> Shared -> Prop) -> (Shared -> Prop) -> Shared -> Prop
noncomputable def Act {X : Type} (prog : Program) (w : World) (n : Nat) (sc : Sc) (U : Acc X) (m : AM) (σ : OwnL) (xs : X) (W : ActW) (P : X -> OwnL -> Prop) : Prop :=
 ∀ (A : Around) (c : Cx) (g : Heap) (F : Frm) (il kp : Led) (s : Shared) (acc : Addr) (E : Value -> Shared -> Prop) (Q : Shared -> Prop), AOk n A -> Base w g -> FrOk sc F -> St prog w c g F m σ ⟨(acc, U.P g xs) :: il, kp⟩ s ->
  (∀ c' g' s' xs' σ', P xs' σ' -> Wle c g c' g' -> St prog w c' g' F m σ' ⟨(acc, U.P g' xs') :: il, kp⟩ s' -> Q s') -> W A acc F.env E Q s
noncomputable def CtA {X : Type} (prog : Program) (w : World) (n : Nat) (sc : Sc) (U : Acc X) (tgt : Expr) (W : ActW) (m : AM) (K : X -> OwnL -> Prop) : List PyData -> X -> OwnL -> Prop
 | [], xs, σ => K xs σ
 | d :: ds, xs, σ => ∃ m1, Tb prog w n sc tgt d m m1 /\ (∀ x a, m.lookup x = some a -> m1.lookup x = some a) /\ Act prog w n sc U m1 σ xs W fun xs' σ1 => CtA prog w n sc U tgt W m K ds xs' σ1
noncomputable def TurnIs (prog : Program) (w : World) (e : Expr) (depth : Nat) (tgt : Expr) (W : ActW) : Prop :=
 (∀ it accv env, (model prog w).den (.compLoop e depth it accv env) = (compTurn e depth it accv env).onRaise (fun x => do noteFrame x env; theTreesLotGoes x)) /\ (∀ (A : Around) it accv env, A.under (.compLoop e depth it accv env) = A) /\ ∀ (A : Around) (it : Value) (acc : Addr) (env : Env) (E : Value -> Shared -> Prop) (R : Result -> Shared -> Prop) (Q : Shared -> Prop) (s : Shared),
  wpAny (model prog w) A (pyNext it) (fun r s1 => match r with
   | none => R (.ok .next) s1
   | some v => wpAny (model prog w) A (letOwnedTupleGo tgt it v) (fun _ s2 => wpAny (model prog w) A (assign tgt env v) (fun _ s3 => W A acc env E Q s3) E s2) E s1) E s ->
  wpAny (model prog w) A (compTurn e depth it (.ref acc) env) (fun t s' => match t with
   | .done f => R (.ok f) s'
   | .again c => c = .compLoop e depth it (.ref acc) env /\ Q s') E s
section
variable {prog : Program} {w : World} {A : Around} {E : Value -> Shared -> Prop} {c c' : Cx} {g g' : Heap} {s s' : Shared} {n : Nat} {sc : Sc} {m m1 : AM} {σ σ' σ1 : OwnL} {e elt tgt : Expr} {ifs : List Expr} {d : PyData} {ds out xs : List PyData} {x : Str} {p : Pos} {F : Frm} {rest : RL} {v : Value} {env : Env}
theorem Ev.toX (h : Ev prog w n sc m σ e (.d d)) : EvX prog w n sc m σ e d σ := h
theorem EvX.ev (h : EvX prog w n sc m σ e d σ) : Ev prog w n sc m σ e (.d d) := h
theorem EvX.toP (h : EvX prog w n sc m σ e d σ') : EvP prog w n sc m σ e fun a b => a = d /\ b = σ' := fun A c g F rest s E Q hA B hF S q =>
 h A c g F rest s E Q hA B hF S fun c' g' v s' w' r S' => q c' g' v _ _ s' ⟨rfl, rfl⟩ w' r S'
theorem EvP.toX (h : EvP prog w n sc m σ e fun a b => a = d /\ b = σ') : EvX prog w n sc m σ e d σ' := fun A c g F rest s E Q hA B hF S q =>
 h A c g F rest s E Q hA B hF S fun c' g' v _ _ s' hP w' r S' => by obtain ⟨rfl, rfl⟩ := hP; exact q c' g' v s' w' r S'
theorem Ct.toP (h : Ct prog w n sc tgt ifs elt m ds σ out σ') : ∀ xs, CtP prog w n sc tgt ifs elt m (fun a b => a = xs ++ out /\ b = σ') ds xs σ := by
 induction h with
 | nil => exact fun xs => ⟨(List.append_nil xs).symm, rfl⟩
 | @yes d o ds out m1 σ σ1 σ' tb sub ts he _ ih =>
  refine fun xs => ⟨m1, tb, sub, .inl ⟨ts, fun A c g F rest s E Q hA B hF S q => he A c g F rest s E Q hA B hF S fun c' g' v s' w' r S' => q c' g' v o σ1 s' ?_ w' r S'⟩⟩
  have := ih (xs ++ [o])
  rw [List.append_assoc] at this
  exact this
 | no tb sub ts _ ih => exact fun xs => ⟨_, tb, sub, .inr ⟨ts, ih xs⟩⟩
theorem tb_name (hk : Stb sc x) : Tb prog w n sc (.Name x p) d m ((x, .d d) :: m) := fun A c g F σ rest s E Q v hA hF S r q =>
 wpAny_assign_Name (S.store (hk.of hF) hF (a := .d d) r q)
theorem tb_tup {es : List Expr} {kk : Nat} (U : Unp sc es ds m m1) : Tb prog w n sc (.Tuple es kk p) (.tuple ds) m m1 := fun A c g F σ rest s E Q v hA hF S r q =>
 U.at hA.hh hF S r q
theorem ts_go {b : Bool} (h : EvTs prog w n sc m σ ifs b) (hA : AOk n A) (B : Base w g) (hF : FrOk sc F) (S : St prog w c g F m σ rest s) {Q : Bool -> Shared -> Prop} (q : ∀ c' g' s', Wle c g c' g' -> St prog w c' g' F m σ rest s' -> Q b s') :
  wpAny (model prog w) A (forIn ifs true fun c r => if r = true then do let ok <- isTrue c F.env (eval c F.env); pure (ForInStep.yield ok) else pure (ForInStep.yield r)) Q E s := by
 match ifs, h with
 | [], h => obtain rfl : b = true := h; exact wpAny_tests_nil (q c g s .rfl S)
 | [t], h => exact wpAny_tests_one (h A c g F rest s E Q hA B hF S q)
end
inductive CtI {X : Type} (prog : Program) (w : World) (U : Acc X) (C : List PyData -> X -> OwnL -> Prop) (tgt : Expr) (m : AM) (c : Cx) (g : Heap) (F : Frm) (rest : RL) (acc : Addr) (it : Value) (k : Nat) (s : Shared) : Prop
 | mk (ds : List PyData) (σ0 : OwnL) (xs : X) (c2 : Cx) (g2 : Heap) (il : Led) (m1 : AM) (e : k = ds.length) (hC : C ds xs σ0) (w2 : Wle c g c2 g2) (hi : Itr prog w tgt ds g2 il it) (hm : ∀ x a, m.lookup x = some a -> m1.lookup x = some a) (S : St prog w c2 g2 F m1 σ0 ⟨((acc, U.P g2 xs) :: il) ++ rest.il, rest.kp⟩ s) : CtI prog w U C tgt m c g F rest acc it k s
section
variable {X : Type} {U : Acc X} {W : ActW} {prog : Program} {w : World} {A : Around} {c c' : Cx} {g g' : Heap} {s s' : Shared} {n k : Nat} {sc : Sc} {m m1 : AM} {σ σ' σ1 : OwnL} {e tgt : Expr} {acc : Addr} {d : PyData} {ds out : List PyData} {xs : X} {p : Pos} {F : Frm} {rest : RL} {v it : Value} {il ril kp : Led} {env : Env} {R : Result -> Shared -> Prop}
theorem St.accUp (S : St prog w c g' F m σ ⟨il ++ ((acc, U.P g xs) :: ril), kp⟩ s) (k : ∀ b o, g.get? b = some o -> g'.get? b = some o) : St prog w c g' F m σ ⟨((acc, U.P g' xs) :: il) ++ ril, kp⟩ s := by
 obtain ⟨ml, mc, S, hm⟩ := S
 have S2 : Hf c g' ((acc, U.P g xs) :: (frmLed F ml mc ++ (ownLed prog w g' σ ++ ((il ++ ril) ++ kp)))) s := S.perm (by
  refine (List.Perm.append_left _ (List.Perm.append_left _ (List.Perm.append_right _ List.perm_middle))).trans ?_
  exact (List.Perm.append_left _ List.perm_middle).trans List.perm_middle)
 have S3 : Hf c g' ((acc, U.P g' xs) :: (frmLed F ml mc ++ (ownLed prog w g' σ ++ ((il ++ ril) ++ kp)))) s := S2.weakenAll rfl fun p hp => by
  rcases List.mem_cons.mp hp with rfl | hp
  ·exact ⟨_, List.mem_cons_self, fun o h => U.up k _ _ h⟩
  ·exact ⟨_, List.mem_cons_of_mem _ hp, fun _ z => z⟩
 exact ⟨ml, mc, S3.perm (List.perm_middle.symm.trans (List.Perm.append_left _ List.perm_middle.symm)), hm⟩
theorem comp_turns {depth : Nat} {K : X -> OwnL -> Prop} (hA : AOk n A) (h2 : 2 <= n) (B : Base w g) (hF : FrOk sc F) (hC : CtA prog w n sc U tgt W m K ds xs σ) (hi : Itr prog w tgt ds g il it) (S : St prog w c g F m σ ⟨((acc, U.P g xs) :: il) ++ rest.il, rest.kp⟩ s) (hturn : TurnIs prog w e depth tgt W)
  (q : ∀ c' g' s' out σ', K out σ' -> Wle c g c' g' -> St prog w c' g' F m σ' ⟨(acc, U.P g' out) :: rest.il, rest.kp⟩ s' -> R (.ok .next) s') : codeAny (model prog w) A (.compLoop e depth it (.ref acc) F.env) R s := by
 refine codeAny_loop rfl (CtI prog w U (CtA prog w n sc U tgt W m K) tgt m c g F rest acc it) (fun k s hI => ?_) ds.length ⟨ds, σ, xs, c, g, il, m, rfl, hC, .rfl, hi, fun _ _ z => z, S⟩
 clear S hi hC
 rw [hturn.1, hturn.2.1]
 refine wpAny_noted (hturn.2.2 _ _ _ _ _ R _ _ ?_)
 obtain ⟨ds, σ0, xs, c2, g2, il, m1, rfl, hC, w2, hi, hm, S⟩ := hI
 obtain ⟨L, S5, back⟩ := S.front
 have S6 : Hf c2 g2 (il ++ ((acc, U.P g2 xs) :: L)) s := S5.perm (by rw [List.cons_append]; exact List.perm_middle.symm)
 have hA2 : AOk 2 A := hA.mono h2
 cases ds with
 | nil =>
  refine wpAny_mono (hi A c2 g2 _ s _ (fun r s1 => r = none /\ R (.ok .next) s1) hA2 (fun _ _ z => z) S6 fun s' S7 => ⟨rfl, q c2 g2 s' xs σ0 hC w2 ((back c2 g2 [(acc, U.P g2 xs)] s' (fun _ _ z => z) S7).weak hm)⟩) (fun r s1 z => ?_) fun _ _ z => z
  obtain ⟨rfl, z⟩ := z; exact z
 | cons d ds =>
  obtain ⟨m2, tb, hsub, hC⟩ := hC
  refine next_some (hi A c2 g2 _ s _ _ hA2 (fun _ _ z => z) S6 fun g3 il' v s' k3 r3 hi3 S7 => ?_)
  have S8 : St prog w c2 g3 F m σ0 ⟨((acc, U.P g2 xs) :: il') ++ rest.il, rest.kp⟩ s' := (back c2 g3 ((acc, U.P g2 xs) :: il') s' k3 (S7.perm List.perm_middle)).weak hm
  have w3 := w2.trans (.grow k3)
  refine tb A c2 g3 F σ0 _ s' _ _ v hA hF S8 r3 fun s4 S9 => ?_
  clear S7 S8 S5 S6 back S
  exact hC A c2 g3 F (il' ++ rest.il) rest.kp s4 acc _ _ hA (B.keeps w3.up) hF (St.accUp (il := []) S9 k3) fun c5 g5 s6 xs' σ1 hC w5 S11 => ⟨ds.length, Nat.lt_succ_self _, ds, σ1, xs', c5, g5, il', m2, rfl, hC, w3.trans w5, hi3.up w5.up, hsub, S11⟩
end
noncomputable def accP (prog : Program) (w : World) (g : Heap) (xs : List PyData) : OP := fun o => ∃ vs, listO vs o /\ RdAll prog w g vs xs
noncomputable def accL (prog : Program) (w : World) : Acc (List PyData) := ⟨accP prog w, fun k _ _ ⟨vs, h1, h2⟩ => ⟨vs, h1, RdAll.up k h2⟩⟩
section
variable {c : Cx} {g : Heap} {own : Led} {s : Shared} {sc : Sc} {m m' : AM} {x y : Str} {p : Pos} {F : Frm} {scope : Scope} {C : Addr} {P : OP} {oc cl : List (Str × Addr)}
theorem Hf.gone (S : Hf c g ((C, P) :: own) s) {h' : Heap} (hs : Heap.SameBut C s.heap h') : Hf c g own { s with heap := h' } := by
 have nd := S.nodup
 rw [List.map_cons, List.nodup_cons] at nd
 refine ⟨fun b o e => ?_, fun p hp => ?_, nd.2, S.gsEq, S.osEq⟩
 ·have : b ≠ C := fun q => by have := (S.led _ List.mem_cons_self).2; rw [q] at e; rw [e] at this; cases this
  rw [hs.2 b this]; exact S.keep _ _ e
 ·obtain ⟨⟨o, e, q⟩, z⟩ := S.led p (List.mem_cons_of_mem _ hp)
  exact ⟨⟨o, (hs.2 p.1 fun q => nd.1 (q ▸ List.mem_map_of_mem (f := (·.1)) hp)).trans e, q⟩, z⟩
theorem comp_perm {X O I K D : Led} {a : Addr × OP} : (D ++ (a :: (X ++ (O ++ (I ++ K))))).Perm (D ++ (O ++ ((a :: I) ++ (X ++ K)))) := by
 refine List.Perm.append_left _ ?_
 refine List.Perm.trans ?_ (List.perm_middle (l₁ := O)).symm
 refine List.Perm.cons _ ?_
 refine (List.perm_append_comm_assoc X O (I ++ K)).trans (List.Perm.append_left _ ?_)
 exact List.perm_append_comm_assoc X I K
noncomputable def compF (scope : Scope) (F : Frm) (oc cl : List (Str × Addr)) (C : Addr) : Frm := ⟨childEnv (relabel scope F.env) F.env.globals (oc ++ cl) F.env.qual C F.env, oc⟩
theorem mem_cells {x : Str} : x ∈ cellNames scope.names -> ∀ {oc : List (Str × Addr)}, oc.map (·.1) = cellNames scope.names -> ∃ b, (x, b) ∈ oc := fun h oc e => by
 rw [<- e] at h
 obtain ⟨y, hy, rfl⟩ := List.mem_map.mp h
 exact ⟨y.2, hy⟩
theorem relS_eq (hF : FrOk sc F) : relabel scope F.env = (relS scope sc).toScope := by
 unfold relabel relS Env.kindOf
 rw [hF.scope]
theorem frOk_comp (hF : FrOk sc F) (K : CompOk scope sc m m') (e : oc.map (·.1) = cellNames scope.names) : FrOk (relS scope sc) (compF scope F oc cl C) := by
 have nd : (oc.map (·.1)).Nodup := by rw [e]; exact K.nd
 refine ⟨relS_eq hF, K.kind, hF.gl, hF.bi, fun y hy => ?_, nd, fun x hx => mem_cells hx e⟩
 show (oc ++ cl).lookup y.1 = some y.2
 have := lookup_nodup nd hy
 rw [List.lookup_append, this]; rfl
end

end
section
section
variable {prog : Program} {w : World} {c c' : Cx} {g g' : Heap} {own il : Led} {s s' : Shared} {n : Nat} {sc : Sc} {m m' : AM} {σ σ' : OwnL} {elt iter tgt : Expr} {ifs : List Expr} {ds out : List PyData} {x y : Str} {pos p : Pos} {F : Frm} {rest : RL} {scope : Scope} {C acc : Addr} {P : OP} {oc cl : List (Str × Addr)} {ml mc : Str -> Option Value} {v : Value} {a : AV}
theorem cap_var (hF : FrOk sc F) (h : capOk scope sc x = true) (e : oc.map (·.1) = cellNames scope.names) (hcl : ∀ x, (x, NameKind.free) ∈ scope.names -> cl.lookup x = F.env.cells.lookup x) (hv : VarIs F g rest.kp ml mc x v) :
  VarIs (compF scope F oc cl C) g (frmLed F ml mc ++ rest.kp) (fun _ => none) (fun _ => none) x v := by
 unfold capOk at h
 simp only [Bool.and_eq_true, Bool.or_eq_true, Bool.not_eq_true', beq_iff_eq, beq_eq_false_iff_ne, List.contains_iff_mem, ne_eq] at h
 obtain ⟨⟨⟨h1, h2⟩, h3⟩, h4⟩ := h
 have hk : (compF scope F oc cl C).env.kindOf x = (relS scope sc).names.lookup x := by
  show (relabel scope F.env).names.lookup x = _
  rw [relS_eq hF]
 rcases hv with ⟨q, _⟩ | ⟨_, b, hb, z⟩
 ·exact absurd (by unfold Env.kindOf at q; rw [hF.scope] at q; exact q) h1
 ·refine .inr ⟨by rw [hk]; exact h3, b, ?_, .inr ?_⟩
  ·show (oc ++ cl).lookup x = some b
   have : oc.lookup x = none := by
    cases q : oc.lookup x with
    | none => rfl
    | some b' =>
     have := List.mem_map_of_mem (f := (·.1)) (mem_of_lookup q)
     rw [e] at this
     exact absurd this (by simpa using h4)
   rw [List.lookup_append, this, hcl x h2, hb]; rfl
  ·rcases z with ⟨z1, z2⟩ | z
   ·exact .inl (List.mem_append_left _ (List.mem_cons_of_mem _ (z2 ▸ List.mem_map_of_mem (f := fun y : Str × Addr => (y.2, cellO (mc y.1))) z1)))
   ·exact z.imp (List.mem_append_right _) id
theorem child_in (hF : FrOk sc F) (K : CompOk scope sc m m') (e : oc.map (·.1) = cellNames scope.names) (hcl : ∀ x, (x, NameKind.free) ∈ scope.names -> cl.lookup x = F.env.cells.lookup x)
  (hm : ∀ x a, m.lookup x = some a -> ∃ v, AVok prog w g v a /\ VarIs F g rest.kp ml mc x v)
  (S : Hf c g ((C, nsO fun _ => none) :: ((oc.map fun y => (y.2, cellO none)) ++ ((acc, P) :: (frmLed F ml mc ++ (ownLed prog w g σ ++ ((il ++ rest.il) ++ rest.kp)))))) s) :
  St prog w c g (compF scope F oc cl C) m' σ ⟨((acc, P) :: il) ++ rest.il, frmLed F ml mc ++ rest.kp⟩ s := by
 refine ⟨fun _ => none, fun _ => none, Hf.perm (own := ((C, nsO fun _ => none) :: (oc.map fun y => (y.2, cellO none))) ++ ((acc, P) :: (frmLed F ml mc ++ (ownLed prog w g σ ++ ((il ++ rest.il) ++ rest.kp))))) S comp_perm, fun x a hx => ?_⟩
 obtain ⟨h1, h2⟩ := K.cap.at x a hx
 obtain ⟨v, h3, h4⟩ := hm x a h1
 exact ⟨v, h3, cap_var hF h2 e hcl h4⟩
theorem out_perm {X O I K D : Led} : (D ++ (X ++ (O ++ (I ++ K)))).Perm (X ++ (O ++ ((D ++ I) ++ K))) := by
 refine (List.perm_append_comm_assoc D _ _).trans (List.Perm.append_left _ ?_)
 refine (List.perm_append_comm_assoc D _ _).trans (List.Perm.append_left _ ?_)
 rw [List.append_assoc]
theorem child_out (k : ∀ b o, g.get? b = some o -> g'.get? b = some o) (hm : ∀ x a, m.lookup x = some a -> ∃ v, AVok prog w g v a /\ VarIs F g rest.kp ml mc x v)
  (S : St prog w c' g' (compF scope F oc cl C) m' σ' ⟨(acc, P) :: rest.il, frmLed F ml mc ++ rest.kp⟩ s) :
  ∃ D, (∃ mC, D.head? = some (C, nsO mC)) /\ St prog w c' g' F m σ' ⟨(acc, P) :: (D ++ rest.il), rest.kp⟩ s := by
 obtain ⟨mlC, mcC, S, _⟩ := S
 refine ⟨frmLed (compF scope F oc cl C) mlC mcC, ⟨mlC, rfl⟩, ml, mc, Hf.perm S ?_, fun x a hx => let ⟨v, h1, h2⟩ := hm x a hx; ⟨v, h1.up k, h2.up k⟩⟩
 refine (comp_perm (D := frmLed (compF scope F oc cl C) mlC mcC) (X := frmLed F ml mc) (O := ownLed prog w g' σ') (I := rest.il) (K := rest.kp) (a := (acc, P))).symm.trans ?_
 refine List.perm_middle.trans ?_
 refine (List.Perm.cons _ out_perm).trans ?_
 exact List.perm_middle.symm.trans (List.Perm.append_left _ List.perm_middle.symm)
theorem St.frzIl {il : Led} {kp : Led} (S : St prog w c g F m σ ⟨(acc, accP prog w g out) :: il, kp⟩ s) : ∃ g', (∀ b o, g.get? b = some o -> g'.get? b = some o) /\ Rd prog w g' (.ref acc) (.list out) /\ St prog w c g' F m σ ⟨il, kp⟩ s := by
 obtain ⟨L, S1, back⟩ := St.front (il := [(acc, accP prog w g out)]) S
 obtain ⟨g', k, ha, S2⟩ := S1.freeze (as := [(acc, accP prog w g out)]) (List.Perm.refl _)
 obtain ⟨o, ho, vs, ⟨nn, rfl⟩, hr⟩ := ha _ List.mem_cons_self
 exact ⟨g', k, .list ho (hr.up k), back c g' [] s k S2⟩
theorem St.ownIl {il : Led} {kp : Led} (S : St prog w c g F m σ ⟨(acc, accP prog w g out) :: il, kp⟩ s) : St prog w c g F m ((acc, .list out) :: σ) ⟨il, kp⟩ s := by
 obtain ⟨ml, mc, S, hm⟩ := S
 exact ⟨ml, mc, S.perm (List.Perm.append_left _ List.perm_middle), hm⟩
inductive GoR {X : Type} (prog : Program) (w : World) (U : Acc X) (KC : X -> OwnL -> Prop) (c : Cx) (g : Heap) (F : Frm) (m : AM) (acc : Addr) (il kp : Led) (r : Result) (s : Shared) : Prop
 | mk (e : r = .ok .next) (c' : Cx) (g' : Heap) (out : X) (σ' : OwnL) (hK : KC out σ') (w' : Wle c g c' g') (S : St prog w c' g' F m σ' ⟨(acc, U.P g' out) :: il, kp⟩ s) : GoR prog w U KC c g F m acc il kp r s
theorem comp_go {X : Type} {U : Acc X} {W : ActW} {e : Expr} {gs : List Comprehension} {x0 : X} {newAcc : Sem Value} {KC : X -> OwnL -> Prop} {A : Around} {E : Value -> Shared -> Prop} {Q : Value -> Shared -> Prop} {use : Option (Value -> Sem Unit)} (hA : AOk n A) (h2 : 2 <= n) (B : Base w g) (hF : FrOk sc F) (S : St prog w c g F m σ rest s) (hi : It prog w n sc m σ iter tgt ds) (K : CompOk scope sc m m') (hC : CtA prog w n (relS scope sc) U tgt W m' KC ds x0 σ)
  (hcl : clausesOf e = ⟨tgt, iter, ifs, 0⟩ :: gs) (hturn : TurnIs prog w e 0 tgt W)
  (hnew : ∀ (g : Heap) (c : Cx) (own : Led) (s : Shared) (Q : Value -> Shared -> Prop), Hf c g own s -> (∀ s', Hf c g ((s.heap.objs.size, U.P g x0) :: own) s' -> Q (.ref s.heap.objs.size) s') -> wpAny (model prog w) A newAcc Q E s)
  (hstart : ∀ (R : Result -> Shared -> Prop) (s : Shared) (it : Value) (acc : Addr) (env : Env), codeAny (model prog w) A (.compLoop e 0 it (.ref acc) env) R s -> wpAny (model prog w) A (pyIter it) (fun it' s' => codeAny (model prog w) A (.compLoop e 0 it' (.ref acc) env) R s') (notedBy (model prog w) A env fun x s' => R (.error x) s') s -> codeAny (model prog w) A (.compStart e 0 it (.ref acc) env) R s)
  (q : ∀ c' g' C D mC acc out σ' s', KC out σ' -> Wle c g c' g' -> (acc == sysModules) = false -> D.head? = some (C, nsO mC) -> St prog w c' g' F m σ' ⟨(acc, U.P g' out) :: (D ++ rest.il), rest.kp⟩ s' -> compPost (model prog w) A E use Q (.ref acc) C (.ok .next) s')
  (hs : ∀ env x, foldedSetIterable iter env x = pure x) : wpAny (model prog w) A (comprehension e scope F.env p newAcc false (eval iter F.env) use) Q E s := by
 have hfree : ∀ y ∈ scope.names, y.2 = .free -> ∃ a, F.env.cells.lookup y.1 = some a := fun y hy hk => by
  have := List.all_eq_true.mp K.free y hy
  simp only [hk, bne_self_eq_false, Bool.false_or, Bool.and_eq_true, Bool.not_eq_true', beq_eq_false_iff_ne, ne_eq] at this
  obtain ⟨a, ha⟩ := Option.isSome_iff_exists.mp this.1
  obtain ⟨ml, mc, _, hm⟩ := S
  obtain ⟨v, _, h⟩ := hm y.1 a ha
  rcases h with ⟨z, _⟩ | ⟨_, b, hb, _⟩
  ·exact absurd (by unfold Env.kindOf at z; rw [hF.scope] at z; exact z) this.2
  ·exact ⟨b, hb⟩
 obtain ⟨cl, hclos, hcl'⟩ := closure_ok hfree
 refine wpAny_comprehension_free (g := ⟨tgt, iter, ifs, 0⟩) (gs := gs) hcl (hs _) hclos K.kind (fun x hx hk => ?_) (hi A c g F rest s E _ hA B hF S fun c1 g1 il it s1 w1 hi1 hslf S1 => ?_)
 ·have := List.all_eq_true.mp K.names x hx
  simpa [hk] using this
 obtain ⟨ml, mc, S2, hm⟩ := S1
 have l := new_sys (B.keeps w1.up) S2
 refine hnew g1 c1 _ s1 _ S2 fun s1' S3 => ?_
 refine new_comp S3 fun C oc s2 e S4 => ?_
 have S5 := child_in (m' := m') (il := il) (rest := rest) (acc := s1.heap.objs.size) (P := U.P g1 x0) (σ := σ) hF K e hcl' hm S4
 have hF' := frOk_comp (C := C) (cl := cl) hF K e
 generalize s1.heap.objs.size = acc at l S5 ⊢
 refine codeAny_mono (R := GoR prog w U KC c1 g1 (compF scope F oc cl C) m' acc rest.il (frmLed F ml mc ++ rest.kp)) ?_ fun r s' z => ?_
 ·have loop := fun s3 S6 => comp_turns (A := A) (s := s3) (R := GoR prog w U KC c1 g1 (compF scope F oc cl C) m' acc rest.il (frmLed F ml mc ++ rest.kp)) (rest := ⟨rest.il, frmLed F ml mc ++ rest.kp⟩) hA h2 (B.keeps w1.up) hF' hC hi1 S6 hturn fun c' g' s' out σ' hK w' S7 => ⟨rfl, c', g', out, σ', hK, w', S7⟩
  refine hstart _ _ _ _ _ (loop _ S5) ?_
  obtain ⟨L, S6, back⟩ := S5.front
  have S7 := S6.perm (own' := il ++ (((acc, U.P g1 x0) :: L))) (by rw [List.cons_append]; exact List.perm_middle.symm)
  exact hslf A c1 g1 _ s2 _ _ (fun _ _ z => z) S7 fun s' S8 => loop s' (back _ _ ((_, U.P g1 x0) :: il) _ (fun _ _ z => z) (S8.perm List.perm_middle))
 ·obtain ⟨rfl, c', g', out, σ', hK, w', S6⟩ := z
  obtain ⟨D, ⟨mC, hD⟩, S7⟩ := child_out (rest := rest) w'.up hm S6
  exact q c' g' C D mC _ out σ' s' hK (w1.trans w') l hD S7
noncomputable def actL (ifs : List Expr) (elt : Expr) (prog : Program) (w : World) : ActW := fun A acc env E Q s =>
 wpAny (model prog w) A (forIn ifs true fun c r => if r = true then do let ok <- isTrue c env (eval c env); pure (ForInStep.yield ok) else pure (ForInStep.yield r)) (fun ok s₄ =>
  if ok = true then wpAny (model prog w) A (eval elt env) (fun x s₅ => wpAny (model prog w) A (call (.builtin "list.append") [.ref acc, x]) (fun _ s₆ => Q s₆) E s₅) E s₄ else Q s₄) E s
theorem turn_L : TurnIs prog w (.ListComp elt [⟨tgt, iter, ifs, 0⟩] scope pos) 0 tgt (actL ifs elt prog w) := .intro (fun _ _ _ => rfl) <| .intro (fun _ _ _ _ => rfl) fun A it acc env E R Q s h => by
 rw [compTurn_list]
 refine wpAny_bind (wpAny_standAt (wpAny_bind (wpAny_mono h (fun r s₁ h₁ => ?_) fun _ _ h' => h')))
 cases r with
 | none => exact wpAny_pure h₁
 | some v =>
  refine wpAny_bind (wpAny_mono h₁ (fun _ s₂ h₂ => wpAny_bind (wpAny_mono h₂ (fun _ s₃ h₃ => wpAny_bind (wpAny_mono h₃ (fun ok s₄ h₄ => ?_) fun _ _ h' => h')) fun _ _ h' => h')) fun _ _ h' => h')
  cases ok with
  | true =>
   rw [if_pos rfl] at h₄
   exact wpAny_bind (wpAny_bind (wpAny_mono h₄ (fun x s₅ h₅ => wpAny_bind (wpAny_mono h₅ (fun _ s₆ h₆ => wpAny_pure (wpAny_pure ⟨rfl, h₆⟩)) fun _ _ h' => h')) fun _ _ h' => h'))
  | false =>
   rw [if_neg (by decide)] at h₄
   exact wpAny_pure ⟨rfl, h₄⟩
theorem new_L {A : Around} {E : Value -> Shared -> Prop} (g : Heap) (c : Cx) (own : Led) (s : Shared) (Q : Value -> Shared -> Prop) (S : Hf c g own s) (h : ∀ s', Hf c g ((s.heap.objs.size, accP prog w g []) :: own) s' -> Q (.ref s.heap.objs.size) s') : wpAny (model prog w) A (newList []) Q E s :=
 wpAny_newList (h _ (S.alloc (Pa := accP prog w g []) { cls := .type "list", data := .seq (#[] : Array Value) } ⟨[], ⟨0, rfl⟩, .nil⟩))
theorem acc_append {xs : List PyData} {A : Around} {E : Value -> Shared -> Prop} {Q : Value -> Shared -> Prop} {o : PyData} {il kp : Led} (hx : xs.length < sizeLine) (r : Rd prog w g v o) (S : St prog w c g F m σ ⟨(acc, accP prog w g xs) :: il, kp⟩ s) (h : ∀ v s', St prog w c g F m σ ⟨(acc, accP prog w g (xs ++ [o])) :: il, kp⟩ s' -> Q v s') : wpAny (model prog w) A (call (.builtin "list.append") [.ref acc, v]) Q E s := by
 obtain ⟨L2, S12, back2⟩ := St.front (il := [(acc, accP prog w g xs)]) S
 obtain ⟨o2, ho, vs, ⟨nn, rfl⟩, hr⟩ := S12.at List.mem_cons_self
 have hl := hr.len
 refine append_at ho (fun h' hs hn => h _ _ ?_) (by rw [List.size_toArray]; omega)
 have S13 : Hf c g ((acc, accP prog w g (xs ++ [o])) :: L2) { s with heap := h' } := S12.turn (s' := { s with heap := h' }) hs.extBut ⟨_, hn, vs ++ [v], ⟨nn + 1, by simp⟩, hr.app (.cons r .nil)⟩ rfl rfl rfl
 exact back2 c g [(acc, accP prog w g (xs ++ [o]))] _ (fun _ _ z => z) S13
theorem ctp_A {K : List PyData -> OwnL -> Prop} : ∀ {ds xs : List PyData} {σ : OwnL}, xs.length + ds.length < sizeLine -> CtP prog w n sc tgt ifs elt m K ds xs σ -> CtA prog w n sc (accL prog w) tgt (actL ifs elt prog w) m K ds xs σ := fun {ds} => by
 induction ds with
 | nil => exact fun _ h => h
 | cons d ds ih =>
  intro xs σ hz hC
  obtain ⟨m1, tb, hsub, hC⟩ := hC
  rw [List.length_cons] at hz
  refine ⟨m1, tb, hsub, fun A c g F il kp s acc E Q hA B hF S q => ?_⟩
  rcases hC with ⟨ts, he⟩ | ⟨ts, hC⟩
  ·refine ts_go ts hA B hF S fun c4 g4 s5 w4 S10 => ?_
   rw [if_pos rfl]
   refine he A c4 g4 F _ s5 E _ hA (B.keeps w4.up) hF S10 fun c5 g5 v5 o σ1 s6 hC w5 r5 S11 => ?_
   have w6 := w4.trans w5
   exact acc_append (by omega) r5 (St.accUp (U := accL prog w) (il := []) S11 w6.up) fun _ s7 S12 => q c5 g5 s7 _ σ1 (ih (by rw [List.length_append]; show xs.length + 1 + ds.length < sizeLine; omega) hC) w6 S12
  ·refine ts_go ts hA B hF S fun c4 g4 s5 w4 S10 => ?_
   rw [if_neg (by decide)]
   exact q c4 g4 s5 xs σ (ih (by omega) hC) w4 (St.accUp (U := accL prog w) (il := []) S10 w4.up)
theorem lcomp_go {KC : List PyData -> OwnL -> Prop} {A : Around} {E : Value -> Shared -> Prop} {Q : Value -> Shared -> Prop} {use : Option (Value -> Sem Unit)} (hA : AOk n A) (h2 : 2 <= n) (B : Base w g) (hF : FrOk sc F) (S : St prog w c g F m σ rest s) (hi : It prog w n sc m σ iter tgt ds) (K : CompOk scope sc m m') (hC : CtP prog w n (relS scope sc) tgt ifs elt m' KC ds [] σ) (hz : ds.length < sizeLine)
  (q : ∀ c' g' C D mC acc out σ' s', KC out σ' -> Wle c g c' g' -> (acc == sysModules) = false -> D.head? = some (C, nsO mC) -> St prog w c' g' F m σ' ⟨(acc, accP prog w g' out) :: (D ++ rest.il), rest.kp⟩ s' -> compPost (model prog w) A E use Q (.ref acc) C (.ok .next) s')
  (hs : ∀ env x, foldedSetIterable iter env x = pure x) : wpAny (model prog w) A (comprehension (.ListComp elt [⟨tgt, iter, ifs, 0⟩] scope pos) scope F.env p (newList []) false (eval iter F.env) use) Q E s :=
 comp_go (U := accL prog w) (x0 := []) hA h2 B hF S hi K (ctp_A (by simpa using hz) hC) rfl turn_L new_L (fun _ _ _ _ _ => codeAny_compStart_list) q hs
end

end
section
section
variable {prog : Program} {w : World} {c : Cx} {g : Heap} {s : Shared} {n : Nat} {sc : Sc} {m m' : AM} {σ σ' : OwnL} {elt iter tgt : Expr} {ifs : List Expr} {ds out : List PyData} {x y : Str} {pos p py : Pos} {F : Frm} {rest : RL} {scope : Scope} {C : Addr} {D : Led} {mC : Str -> Option Value}
theorem comp_end (hD : D.head? = some (C, nsO mC)) (S : St prog w c g F m σ ⟨D ++ rest.il, rest.kp⟩ s) : ∃ mm, s.heap.Ns C mm /\ ∀ h', Heap.SameBut C s.heap h' -> St prog w c g F m σ rest { s with heap := h' } := by
 obtain ⟨L, S1, back⟩ := S.front
 match D, hD with
 | _ :: D, rfl =>
  obtain ⟨o, ho, es, ep, e1, e2, e3⟩ := S1.at List.mem_cons_self
  refine ⟨mC, ⟨o, es, ep, ho, e1, e2, e3⟩, fun h' hs => back c g [] _ (fun _ _ z => z) ?_⟩
  exact Hf.dropR (Hf.perm (Hf.gone S1 hs) List.perm_append_comm)
theorem evp_lcomp {K : List PyData -> OwnL -> Prop} (hi : It prog w n sc m σ iter tgt ds) (K0 : CompOk scope sc m m') (hC : CtP prog w n (relS scope sc) tgt ifs elt m' K ds [] σ) (hz : ds.length < sizeLine) (h2 : 2 <= n) (hs : autoParam (∀ env x, foldedSetIterable iter env x = pure x) auI2) :
  EvP prog w n sc m σ (.ListComp elt [⟨tgt, iter, ifs, 0⟩] scope pos) fun r σ' => ∃ out, r = .list out /\ K out σ' := fun A c g F rest s E Q hA B hF S q => by
 rw [eval_ListComp]
 exact lcomp_go (use := none) hA h2 B hF S hi K0 hC hz (fun c' g' C D mC acc out σ' s' hK w' _ hD S' => let ⟨g2, k2, r, S2⟩ := S'.frzIl; let ⟨mm, h1, h3⟩ := comp_end hD S2; ⟨mm, h1, fun h' hb => q c' g2 _ _ σ' _ ⟨out, rfl, hK⟩ (w'.trans (.grow k2)) r (h3 h' hb)⟩) hs
theorem evp_lcompO {K : List PyData -> OwnL -> Prop} (hi : It prog w n sc m σ iter tgt ds) (K0 : CompOk scope sc m m') (hC : CtP prog w n (relS scope sc) tgt ifs elt m' K ds [] σ) (hz : ds.length < sizeLine) (h2 : 2 <= n) (hs : autoParam (∀ env x, foldedSetIterable iter env x = pure x) auI2) :
  EvP prog w n sc m σ (.ListComp elt [⟨tgt, iter, ifs, 0⟩] scope pos) fun r σ' => ∃ ad out σ0, r = .obj ad /\ σ' = (ad, .list out) :: σ0 /\ K out σ0 := fun A c g F rest s E Q hA B hF S q => by
 rw [eval_ListComp]
 exact lcomp_go (use := none) hA h2 B hF S hi K0 hC hz (fun c' g' C D mC acc out σ' s' hK w' _ hD S' => let ⟨mm, h1, h3⟩ := comp_end hD S'.ownIl; ⟨mm, h1, fun h' hb => q c' g' _ _ _ _ ⟨acc, out, σ', rfl, rfl, hK⟩ w' (.obj acc) (h3 h' hb)⟩) hs
theorem evx_lcomp (hi : It prog w n sc m σ iter tgt ds) (K : CompOk scope sc m m') (hC : Ct prog w n (relS scope sc) tgt ifs elt m' ds σ out σ') (hz : ds.length < sizeLine) (h2 : 2 <= n) (hs : autoParam (∀ env x, foldedSetIterable iter env x = pure x) auI2) :
  EvX prog w n sc m σ (.ListComp elt [⟨tgt, iter, ifs, 0⟩] scope pos) (.list out) σ' := fun A c g F rest s E Q hA B hF S q =>
 evp_lcomp hi K (hC.toP []) hz h2 hs A c g F rest s E Q hA B hF S fun c' g' v d σ2 s' hK w' r S' => by obtain ⟨_, rfl, rfl, rfl⟩ := hK; exact q c' g' v s' w' r S'
theorem es_lcompP {K : List PyData -> OwnL -> Prop} (hi : It prog w n sc m σ iter tgt ds) (K0 : CompOk scope sc m m') (hC : CtP prog w n (relS scope sc) tgt ifs elt m' K ds [] σ) (hz : ds.length < sizeLine) (h2 : 2 <= n) (hk : Stb sc y) (hs : autoParam (∀ env x, foldedSetIterable iter env x = pure x) auI2)
  (hsw : autoParam (∀ env : Env, env.scope = sc.toScope -> swapsWith (.ListComp elt [⟨tgt, iter, ifs, 0⟩] scope pos) (some (.Name y py)) p.line env = pure true) auE) :
  EsP prog w n sc m σ (.Assign [.Name y py] (.ListComp elt [⟨tgt, iter, ifs, 0⟩] scope pos) p) fun fl m1 σ1 => ∃ out, fl = .next /\ m1 = (y, .d (.list out)) :: m /\ K out σ1 := fun A c g F rest s E Q hA B hF S q => by
 rw [exec_Assign_Name_used _ _ _ _ (hsw _ hF.scope)]
 refine wpAny_bind (wpAny_standAt (wpAny_bind ?_))
 show wpAny _ A (do let _ <- comprehension (.ListComp elt [⟨tgt, iter, ifs, 0⟩] scope pos) scope F.env _ (newList []) false (eval iter F.env) (some (assign (.Name y py) F.env))) _ _ s
 refine wpAny_bind (wpAny_mono (lcomp_go (use := some (assign (.Name y py) F.env)) (Q := fun _ s' => Q .next s') (E := E) hA h2 B hF S hi K0 hC hz (fun c' g' C D mC acc out σ' s' hK w' _ hD S' => ?_) hs) (fun _ s' hq => wpAny_pure (wpAny_pure hq)) fun _ _ e => e)
 obtain ⟨g2, k2, r, S2⟩ := S'.frzIl
 exact wpAny_assign_Name (S2.store (hk.of hF) hF (a := .d _) r fun s2 S3 => let ⟨mm, h1, h3⟩ := comp_end hD S3; ⟨mm, h1, fun h' hb => q c' g2 .next _ _ _ σ' ⟨out, rfl, rfl, hK⟩ (w'.trans (.grow k2)) trivial (h3 h' hb)⟩)
theorem es_lcomp (hi : It prog w n sc m σ iter tgt ds) (K : CompOk scope sc m m') (hC : Ct prog w n (relS scope sc) tgt ifs elt m' ds σ out σ') (hz : ds.length < sizeLine) (h2 : 2 <= n) (hk : Stb sc y) (hs : autoParam (∀ env x, foldedSetIterable iter env x = pure x) auI2)
  (hsw : autoParam (∀ env : Env, env.scope = sc.toScope -> swapsWith (.ListComp elt [⟨tgt, iter, ifs, 0⟩] scope pos) (some (.Name y py)) p.line env = pure true) auE) :
  Es prog w n sc m σ (.Assign [.Name y py] (.ListComp elt [⟨tgt, iter, ifs, 0⟩] scope pos) p) .next ((y, .d (.list out)) :: m) σ' := fun A c g F rest s E Q hA B hF S q =>
 es_lcompP hi K (hC.toP []) hz h2 hk hs hsw A c g F rest s E Q hA B hF S fun c' g' f s' fl m1 σ1 hK w' hf S' => by obtain ⟨_, rfl, rfl, rfl, rfl⟩ := hK; exact q c' g' f s' w' hf S'
theorem ct_map {α : Type} {elt : Expr} (enc f : α -> PyData) (l : List α) (h : ∀ x ∈ l, ∃ m1, Tb prog w n sc tgt (enc x) m m1 /\ (∀ y a, m.lookup y = some a -> m1.lookup y = some a) /\ Ev prog w n sc m1 σ elt (.d (f x))) : Ct prog w n sc tgt [] elt m (l.map enc) σ (l.map f) σ := by
 induction l with
 | nil => exact .nil
 | cons x r ih =>
  obtain ⟨m1, h1, h2, h3⟩ := h x List.mem_cons_self
  exact .yes h1 h2 rfl h3 (ih fun z hz => h z (List.mem_cons_of_mem _ hz))
theorem ct_filter {α : Type} {elt t : Expr} (enc f : α -> PyData) (pz : α -> Bool) (l : List α) (h : ∀ x ∈ l, ∃ m1, Tb prog w n sc tgt (enc x) m m1 /\ (∀ y a, m.lookup y = some a -> m1.lookup y = some a) /\ EvT prog w n sc m1 σ t (pz x) /\ Ev prog w n sc m1 σ elt (.d (f x))) : Ct prog w n sc tgt [t] elt m (l.map enc) σ ((l.filter pz).map f) σ := by
 induction l with
 | nil => exact .nil
 | cons x r ih =>
  obtain ⟨m1, h1, h2, h3, h4⟩ := h x List.mem_cons_self
  have ih := ih fun z hz => h z (List.mem_cons_of_mem _ hz)
  cases e : pz x with
  | true => rw [List.filter_cons_of_pos e]; exact .yes h1 h2 (show EvT _ _ _ _ _ _ _ _ from e ▸ h3) h4 ih
  | false => rw [List.filter_cons_of_neg (by rw [e]; decide)]; exact .no h1 h2 (show EvT _ _ _ _ _ _ _ _ from e ▸ h3) ih
end

end
section
inductive Cd (prog : Program) (w : World) (n : Nat) (sc : Sc) (tgt kx vx : Expr) (m : AM) (σ : OwnL) : List PyData -> List (PyData × PyData) -> List (PyData × PyData) -> Prop
 | nil {kvs : List (PyData × PyData)} : Cd prog w n sc tgt kx vx m σ [] kvs kvs
 | cons {d o : PyData} {x : Str} {ds : List PyData} {kvs kvs' : List (PyData × PyData)} {m1 : AM} : Tb prog w n sc tgt d m m1 -> (∀ x a, m.lookup x = some a -> m1.lookup x = some a) -> Ev prog w n sc m1 σ kx (.d (.str x)) -> Ev prog w n sc m1 σ vx (.d o) -> Cd prog w n sc tgt kx vx m σ ds (kvPut kvs x o) kvs' -> Cd prog w n sc tgt kx vx m σ (d :: ds) kvs kvs'
noncomputable def accD (prog : Program) (w : World) (g : Heap) (kvs : List (PyData × PyData)) : OP := fun o => ∃ ka, o.IsDictOf (strKind prog w) ka /\ RdKv prog w g ka kvs
theorem kvPut_len (x : Str) (d : PyData) : ∀ kvs : List (PyData × PyData), (kvPut kvs x d).length <= kvs.length + 1
 | [] => Nat.le_refl _
 | (.str y, e) :: r => by
  have := kvPut_len x d r
  rw [kvPut_c]; split <;> simp only [List.length_cons] <;> omega
 | (.none, _) :: r | (.bool _, _) :: r | (.int _, _) :: r | (.list _, _) :: r | (.tuple _, _) :: r | (.dict _, _) :: r | (.obj _, _) :: r | (.lex .., _) :: r | (.tab, _) :: r => Nat.succ_le_succ (kvPut_len x d r)
section
variable {prog : Program} {w : World} {A : Around} {E : Value -> Shared -> Prop} {c : Cx} {g g' : Heap} {own il : Led} {s s' : Shared} {n : Nat} {sc : Sc} {m : AM} {σ : OwnL} {kx vx iter tgt : Expr} {ds : List PyData} {out : List (PyData × PyData)} {pos : Pos} {F : Frm} {scope : Scope} {acc : Addr} {v it : Value} {env : Env} {R : Result -> Shared -> Prop}
theorem St.frzIlD {il : Led} {kp : Led} (l : (acc == sysModules) = false) (S : St prog w c g F m σ ⟨(acc, accD prog w g out) :: il, kp⟩ s) : ∃ g', (∀ b o, g.get? b = some o -> g'.get? b = some o) /\ Rd prog w g' (.ref acc) (.dict out) /\ St prog w c g' F m σ ⟨il, kp⟩ s := by
 obtain ⟨L, S1, back⟩ := St.front (il := [(acc, accD prog w g out)]) S
 obtain ⟨g', k, ha, S2⟩ := S1.freeze (as := [(acc, accD prog w g out)]) (List.Perm.refl _)
 obtain ⟨o, ho, ka, hd, hr⟩ := ha _ List.mem_cons_self
 exact ⟨g', k, .dict l ho hd (hr.up k), back c g' [] s k S2⟩
noncomputable def accK (prog : Program) (w : World) : Acc (List (PyData × PyData)) := ⟨accD prog w, fun k _ _ ⟨ka, h1, h2⟩ => ⟨ka, h1, RdKv.up k h2⟩⟩
noncomputable def actD (kx vx : Expr) (prog : Program) (w : World) : ActW := fun A acc env E Q s =>
 wpAny (model prog w) A (eval kx env) (fun kv s₄ => wpAny (model prog w) A (eval vx env) (fun vv s₅ => wpAny (model prog w) A (dictSet acc kv vv) (fun _ s₆ => Q s₆) E s₅) E s₄) E s
theorem turn_D : TurnIs prog w (.DictComp kx vx [⟨tgt, iter, [], 0⟩] scope pos) 0 tgt (actD kx vx prog w) := .intro (fun _ _ _ => rfl) <| .intro (fun _ _ _ _ => rfl) fun A it acc env E R Q s h => by
 rw [compTurn_dict]
 refine wpAny_bind (wpAny_standAt (wpAny_bind (wpAny_mono h (fun r s₁ h₁ => ?_) fun _ _ h' => h')))
 cases r with
 | none => exact wpAny_pure h₁
 | some v =>
  refine wpAny_bind (wpAny_mono h₁ (fun _ s₂ h₂ => wpAny_bind (wpAny_mono h₂ (fun _ s₃ h₃ => wpAny_bind (wpAny_pure ?_)) fun _ _ h' => h')) fun _ _ h' => h')
  exact wpAny_bind (wpAny_bind (wpAny_mono h₃ (fun kv s₄ h₄ => wpAny_bind (wpAny_holding (wpAny_mono h₄ (fun vv s₅ h₅ => wpAny_bind (wpAny_standAt (wpAny_holding (wpAny_mono h₅ (fun _ s₆ h₆ => wpAny_pure ⟨rfl, h₆⟩) fun _ _ h' => h')))) fun _ _ h' => h'))) fun _ _ h' => h'))
theorem new_D {A : Around} {E : Value -> Shared -> Prop} (g : Heap) (c : Cx) (own : Led) (s : Shared) (Q : Value -> Shared -> Prop) (S : Hf c g own s) (h : ∀ s', Hf c g ((s.heap.objs.size, accD prog w g []) :: own) s' -> Q (.ref s.heap.objs.size) s') : wpAny (model prog w) A newDict Q E s :=
 wpAny_newObj_type (h _ (S.alloc (Pa := accD prog w g []) { cls := .type "dict", data := .dict #[] } ⟨[], isDict_nil, .nil⟩))
theorem cd_A {ds : List PyData} {kvs out : List (PyData × PyData)} (hC : Cd prog w n sc tgt kx vx m σ ds kvs out) : kvs.length + ds.length < sizeLine -> CtA prog w n sc (accK prog w) tgt (actD kx vx prog w) m (fun b σ' => b = out /\ σ' = σ) ds kvs σ := by
 induction hC with
 | nil => exact fun _ => ⟨rfl, rfl⟩
 | @cons d o x ds kvs kvs' m1 tb hsub hk hv _ ih =>
  intro hz
  rw [List.length_cons] at hz
  have hlp := kvPut_len x o kvs
  refine ⟨m1, tb, hsub, fun A c g F il kp s acc E Q hA B hF S q => ?_⟩
  refine hk A c g F _ s E _ hA B hF S fun c4 g4 kv s5 w4 r4 S10 => ?_
  refine hv A c4 g4 F _ s5 E _ hA (B.keeps w4.up) hF S10 fun c5 g5 v5 s6 w5 r5 S11 => ?_
  have w6 := w4.trans w5
  obtain ⟨L2, S12, back2⟩ := St.front (il := [(acc, accD prog w g5 kvs)]) (St.accUp (U := accK prog w) (il := []) S11 w6.up)
  obtain ⟨o2, ho, ka, hd, hr⟩ := S12.at List.mem_cons_self
  have hlen := hr.len
  apply Rd.onStr r4; intro t
  refine wpAny_dictSet_pairs (hsz := by omega) (strKind_is prog w x t) (Heap.dictOf_iff.mpr ⟨o2, ho, hd⟩) fun h' hd' hs => ?_
  obtain ⟨o', ho', hd''⟩ := Heap.dictOf_iff.mp hd'
  have S13 : Hf c5 g5 ((acc, accD prog w g5 (kvPut kvs x o)) :: L2) { s6 with heap := h', toks := s6.toks + 1 } := S12.turn (s' := { s6 with heap := h', toks := s6.toks + 1 }) hs.extBut ⟨o', ho', _, hd'', hr.put (let ⟨_, _, _, _, _, _, nd⟩ := hd; nd) r5⟩ rfl rfl rfl
  exact q c5 g5 _ _ σ (ih (by omega)) w6 (back2 c5 g5 [(acc, accD prog w g5 (kvPut kvs x o))] _ (fun _ _ z => z) S13)
end

end
section
section
variable {prog : Program} {w : World} {c : Cx} {g : Heap} {s : Shared} {n : Nat} {sc : Sc} {m m' : AM} {σ : OwnL} {kx vx iter tgt : Expr} {ds : List PyData} {out : List (PyData × PyData)} {pos : Pos} {F : Frm} {rest : RL} {scope : Scope}
theorem ev_dcomp (hi : It prog w n sc m σ iter tgt ds) (K : CompOk scope sc m m') (hC : Cd prog w n (relS scope sc) tgt kx vx m' σ ds [] out) (hz : ds.length < sizeLine) (h2 : 2 <= n) (hs : autoParam (∀ env x, foldedSetIterable iter env x = pure x) auI2) :
  Ev prog w n sc m σ (.DictComp kx vx [⟨tgt, iter, [], 0⟩] scope pos) (.d (.dict out)) := fun A c g F rest s E Q hA B hF S q => by
 rw [arm_eval_DictComp]
 refine comp_go (U := accK prog w) (x0 := []) (use := none) hA h2 B hF S hi K (cd_A hC (by simpa using hz)) rfl turn_D new_D (fun _ _ _ _ _ => codeAny_compStart_dict) (fun c' g' C D mC acc out σ' s' hK w' l hD S' => ?_) hs
 obtain ⟨rfl, rfl⟩ := hK
 obtain ⟨g2, k2, r, S7⟩ := S'.frzIlD l
 obtain ⟨mm, h1, h3⟩ := comp_end hD S7
 exact ⟨mm, h1, fun h' hb => q c' g2 _ _ (w'.trans (.grow k2)) r (h3 h' hb)⟩
end

end
section
noncomputable def FnX (prog : Program) (w : World) (n : Nat) (f : Addr) (ds : List PyData) (σ : OwnL) (r : PyData) (σ' : OwnL) : Prop :=
 ∀ (A : Around) (c : Cx) (g : Heap) (own : Led) (s : Shared) (vs : List Value), AOk n A -> Base w g -> Hf c g (ownLed prog w g σ ++ own) s -> RdAll prog w g vs ds ->
  codeAny (model prog w) A (.call (.ref f) ⟨vs, []⟩) (fun r' s' => ∃ c' g' v, r' = .ok (.ret v) /\ Wle c g c' g' /\ Rd prog w g' v r /\ Hf c' g' (ownLed prog w g' σ' ++ own) s') s
noncomputable def FnP (prog : Program) (w : World) (n : Nat) (f : Addr) (ds : List PyData) (σ : OwnL) (P : PyData -> OwnL -> Prop) : Prop :=
 ∀ (A : Around) (c : Cx) (g : Heap) (own : Led) (s : Shared) (vs : List Value), AOk n A -> Base w g -> Hf c g (ownLed prog w g σ ++ own) s -> RdAll prog w g vs ds ->
  codeAny (model prog w) A (.call (.ref f) ⟨vs, []⟩) (fun r' s' => ∃ c' g' v d σ', r' = .ok (.ret v) /\ P d σ' /\ Wle c g c' g' /\ Rd prog w g' v d /\ Hf c' g' (ownLed prog w g' σ' ++ own) s') s
theorem FnP.toX {prog : Program} {w : World} {n : Nat} {f : Addr} {ds : List PyData} {d : PyData} {σ σ' : OwnL} (h : FnP prog w n f ds σ fun a b => a = d /\ b = σ') : FnX prog w n f ds σ d σ' := fun A c g own s vs hA B S r =>
 codeAny_mono (h A c g own s vs hA B S r) fun _ _ h => by
  obtain ⟨c', g', v, _, _, e, ⟨rfl, rfl⟩, z⟩ := h
  exact ⟨c', g', v, e, z⟩
theorem bindC_local {kf : Str -> Option NameKind} : ∀ {bs : List (Str × Value)} {m : Str -> Option Value}, (∀ y ∈ bs, kf y.1 = some .local) -> bindC kf bs m = m
 | [], _, _ => rfl
 | y :: r, m, h => by
  unfold bindC
  rw [if_pos (h y List.mem_cons_self)]
  exact bindC_local fun z hz => h z (List.mem_cons_of_mem _ hz)
theorem bindL_local {kf : Str -> Option NameKind} {x : Str} : ∀ {bs : List (Str × Value)} {m : Str -> Option Value}, (∀ y ∈ bs, kf y.1 = some .local) -> bindL kf bs m x = (bs.reverse.lookup x).or (m x)
 | [], _, _ => by simp [bindL]
 | (y, v) :: r, m, h => by
  unfold bindL
  rw [if_pos (h (y, v) List.mem_cons_self), bindL_local fun z hz => h z (List.mem_cons_of_mem _ hz), List.reverse_cons, List.lookup_append]
  cases r.reverse.lookup x with
  | some u => rfl
  | none =>
   simp only [Option.none_or, List.lookup_cons, List.lookup_nil]
   by_cases e : x = y
   ·subst e; simp
   ·rw [if_neg e, beq_false_of_ne e]; simp
theorem cells_fst : ∀ (names : List (Str × NameKind)) (k : Nat) (acc : List (Str × Addr)), (cellsFrom k names acc).map (·.1) = cellNames names ++ acc.map (·.1)
 | [], _, _ => rfl
 | (x, kd) :: r, k, acc => by
  unfold cellsFrom
  by_cases hk : (kd == .cell) = true
  ·rw [if_pos hk, cells_fst r]; simp [cellNames, hk]
  ·rw [if_neg hk, cells_fst r]; simp [cellNames, hk]
section
variable {prog : Program} {w : World} {n : Nat} {ds : List PyData} {d : PyData} {σ σ' : OwnL}
theorem fnp_of {name qual : Str} {params : Arguments} {body : List Stmt} {scope : Scope} {dV kV doc pm cdv ct oc : Value} {an od : Option Addr} {osl : Array (Option Value)} {f : Addr} {m0 : AM} {P : PyData -> OwnL -> Prop}
  (ho : ∀ w : World, (heapK w.params).lookup f = some ⟨oc, od, .func (fnOf name qual params body scope dV kV doc pm an cdv ct), osl⟩) (hcd : ∀ w : World, codeIn (heapK w.params) cdv qual = true)
  (hbind : ∀ vals : List Value, vals.length = ds.length -> bindArgs (fnOf name qual params body scope dV kV doc pm an cdv ct) ⟨vals, []⟩ = pure ((params.args.map (·.arg)).zip vals)) (hnd : (cellNames scope.names).Nodup) (hloc : ((params.args.map (·.arg)).all fun n => scope.names.lookup n == some .local) = true)
  (hm : ((params.args.map (·.arg)).zip (ds.map AV.d)).reverse = m0) (h : ExP prog w n ⟨scope, cellNames scope.names⟩ m0 σ body fun fl _ σ' => ∃ d, fl = .ret (.d d) /\ P d σ')
  (hco : scope.isCoroutine = false) (hgen : scope.isGenerator = false) (hk : scope.kind = .function)  : FnP prog w (n + 1) f ds σ P := fun A c g own s vs hA B S r => by
 have hl : ∀ y ∈ (params.args.map (·.arg)).zip vs, scope.names.lookup y.1 = some .local := fun y hy => beq_iff_eq.mp (List.all_eq_true.mp hloc y.1 (List.of_mem_zip hy).1)
 refine callC (bs := (params.args.map (·.arg)).zip vs) B S hA.room (ho w) (hcd w) (hbind vs r.len) (List.all_eq_true.mpr fun y hy => by rw [hl y hy]; rfl) (by rw [cells_fst, List.map_nil, List.append_nil]; exact hnd) (fun L s' S' => ?_) hco hgen hk
 have hl' : ∀ y ∈ (params.args.map (·.arg)).zip vs, (envOfC qual scope L f cdv).kindOf y.1 = some .local := hl
 rw [bindC_local hl'] at S'
 have hf : (cellsFrom (L + 1) scope.names []).map (·.1) = cellNames scope.names := by rw [cells_fst, List.map_nil, List.append_nil]
 have nd : ((cellsFrom (L + 1) scope.names []).map (·.1)).Nodup := by rw [hf]; exact hnd
 refine h (A.deeper (envOfC qual scope L f cdv)) c g ⟨envOfC qual scope L f cdv, cellsFrom (L + 1) scope.names []⟩ ⟨[], own⟩ s' _ _ hA.deeper B ⟨rfl, hk, rfl, rfl, fun y hy => lookup_nodup nd hy, nd, fun y hy => mem_cells hy hf⟩ ⟨_, fun _ => none, S', fun x a e => ?_⟩ fun c1 g1 fl s1 _ m1 σ1 hK w1 hf S1 => ?_
 ·rw [<- hm] at e
  obtain ⟨v, h1, h2⟩ : ∃ v, AVok prog w g v a /\ ((params.args.map (·.arg)).zip vs).reverse.lookup x = some v := by
   rcases binds_ok (names := params.args.map (·.arg)) r x with ⟨q1, _⟩ | ⟨a', v, q1, q2, q3⟩
   ·rw [q1] at e; cases e
   ·rw [q1] at e; cases e; exact ⟨v, q3, q2⟩
  refine ⟨v, h1, .inl ⟨hl' (x, v) (List.mem_reverse.mp (mem_of_lookup h2)), ?_⟩⟩
  rw [bindL_local hl', h2]; rfl
 ·obtain ⟨d, rfl, hP⟩ := hK
  obtain ⟨ml, mc, S2, _⟩ := S1
  cases fl with
  | ret v => exact ⟨c1, g1, v, d, σ1, rfl, hP, w1, hf, Hf.dropR (l2 := frmLed ⟨envOfC qual scope L f cdv, cellsFrom (L + 1) scope.names []⟩ ml mc) (Hf.perm S2 List.perm_append_comm)⟩
  | _ => exact hf.elim
end

end
section
section
variable {prog : Program} {w : World} {c : Cx} {g : Heap} {s : Shared} {n : Nat} {sc : Sc} {m : AM} {σ σ' : OwnL} {e : Expr} {es : List Expr} {ds : List PyData} {d : PyData} {P : PyData -> OwnL -> Prop} {f : Addr} {x : Str} {p pos : Pos} {F : Frm} {rest : RL}
theorem own_perm {X O R : Led} : (X ++ (O ++ R)).Perm (O ++ (X ++ R)) := List.perm_append_comm_assoc X O R
theorem evp_call (G : GlF w sc x f) (ha : EvL prog w n sc m σ (e :: es) ds) (h : FnP prog w n f ds σ P) (hp : autoParam (PlainArgs e es) auP) : EvP prog w n sc m σ (.Call (.Name x p) (e :: es) [] pos) P := fun A c g F rest s E Q hA B hF S q =>
 Call_ (name_f G B hF S (r_callK B G.f (ha A c g F rest s E _ _ hA B hF S fun c1 g1 vs s1 w1 r1 S1 => by
  obtain ⟨ml, mc, S2, hm⟩ := S1
  refine ⟨⟨_, _, S2.lower w1.up⟩, wpAny_call (codeAny_mono (h A c1 g1 _ s1 vs hA (B.keeps w1.up) (S2.perm own_perm) r1) fun r' s2 z => ?_)⟩
  obtain ⟨c2, g2, v, d, σ', rfl, hP, w2, r2, S3⟩ := z
  exact q c2 g2 v d σ' s2 hP (w1.trans w2) r2 ⟨ml, mc, S3.perm own_perm, fun x a e => let ⟨v, h1, h2⟩ := hm x a e; ⟨v, h1.up w2.up, h2.up w2.up⟩⟩) (hp _).1 ((hp _).2 _)))
theorem es_setX (h : EvX prog w n sc m σ e d σ') (hk : Stb sc x) (hs : autoParam (∀ env : Env, env.scope = sc.toScope -> swapsWith e (some (.Name x p)) pos.line env = pure false) auE) : Es prog w n sc m σ (.Assign [.Name x p] e pos) .next ((x, .d d) :: m) σ' := fun A c g F rest s E Q hA B hF S q =>
 wpAny_Assign_Name (h A c g F rest s E _ hA B hF S fun c1 g1 v s1 w1 r1 S1 => S1.store (hk.of hF) hF (a := .d d) r1 fun s2 S2 => q c1 g1 _ s2 w1 trivial S2) (hs _ hF.scope)
theorem es_retX (h : EvX prog w n sc m σ e d σ') : Es prog w n sc m σ (.Return (some e) pos) (.ret (.d d)) [] σ' := fun A c g F rest s E Q hA B hF S q =>
 wpAny_Return_some (h A c g F rest s E _ hA B hF S fun c1 g1 v s1 w1 r1 S1 => q c1 g1 _ s1 w1 r1 (S1.weak fun x a z => nomatch z))
end

end
section
section
variable {prog : Program} {w : World} {c : Cx} {g : Heap} {own : Led} {s : Shared} {n : Nat}
theorem Hf.grown (S : Hf c g own s) {h' : Heap} {tk : Nat} (k : ∀ b o, s.heap.get? b = some o -> h'.get? b = some o) : Hf c g own { s with heap := h', toks := tk } :=
 ⟨fun b o e => k b o (S.keep b o e), fun p hp => let ⟨⟨o, e, q⟩, z⟩ := S.led p hp; ⟨⟨o, k _ _ e, q⟩, z⟩, S.nodup, S.gsEq, S.osEq⟩
theorem callb_max {a b : Int} : CallB prog w n (.builtin "max") [.int a, .int b] (.int (if b > a then b else a)) := fun A c g F m σ rest s E Q vs hA B S r q => by
 apply r.onCons; intro v1 vs r1 r2; apply r2.onOne; intro v2 r2; apply r1.onInt; intro t; apply r2.onInt; intro u
 refine max_two_ints hA.hh fun h' tk k => q c g _ _ .rfl ?_ (S.like fun L S => S.grown k)
 split
 ·exact .int _ _
 ·exact .int _ _
theorem rdAll_ints {is : List Int} : ∀ {vs : List Value}, RdAll prog w g vs (is.map .int) -> ∃ xs : Array (Int × Tok), vs.toArray = intItems xs /\ xs.toList.map (·.1) = is := by
 induction is with
 | nil => intro vs h; cases h; exact ⟨#[], by simp [intItems], rfl⟩
 | cons i r ih =>
  intro vs h
  cases h with
  | cons a b =>
   cases a with | int _ u =>
   obtain ⟨xs, e1, e2⟩ := ih b
   refine ⟨⟨(i, u) :: xs.toList⟩, ?_, by simp [e2]⟩
   have : ∀ vs' : List Value, vs'.toArray = intItems xs -> (Value.int i u :: vs').toArray = intItems ⟨(i, u) :: xs.toList⟩ := fun vs' e => by
    apply Array.toList_inj.mp
    have e3 := congrArg Array.toList e
    simp only [intItems] at e3 ⊢
    simp at e3 ⊢
    exact e3
   exact this _ e1
theorem callb_sum {is : List Int} : CallB prog w n (.builtin "sum") [.list (is.map .int)] (.int is.sum) := fun A c g F m σ rest s E Q vs hA B S r q => by
 apply r.onOne; intro v r1; apply r1.onList; intro a nn vs e1 h1
 obtain ⟨xs, e2, e3⟩ := rdAll_ints h1
 obtain ⟨L, S0⟩ := S.base
 refine sum_intListG (l := a) (xs := xs) hA.hh ⟨_, S0.keep _ _ e1, rfl, nn, by rw [e2]⟩ fun h' tk t' k => ?_
 refine q c g _ _ .rfl ?_ (S.like fun L S => S.grown k)
 have : preSum (numAt xs) xs.size = is.sum := by
  rw [<- e3]
  have := preSum_eq xs xs.size
  rw [this, List.take_of_length_le (by simp)]
 rw [this]; exact .int _ _
end
section
variable {prog : Program} {w : World} {n : Nat} {sc : Sc} {m : AM} {σ : OwnL} {e1 : Expr} {es : List Expr} {pos : Pos} {b b' : Bool}
theorem evt_andn : EvT prog w n sc m σ (.BoolOp .And [] pos) true := fun A c g F rest s E Q hA B hF S q => isTrue_and_nil (q c g s .rfl S)
theorem evt_and (h : EvT prog w n sc m σ e1 b) (h2 : b = true -> EvT prog w n sc m σ (.BoolOp .And es pos) b') : EvT prog w n sc m σ (.BoolOp .And (e1 :: es) pos) (b && b') := fun A c g F rest s E Q hA B hF S q =>
 isTrue_and (h A c g F rest s E _ hA B hF S fun c1 g1 s1 w1 S1 => by
  cases b with
  | false => exact ite_neg Bool.false_ne_true (q c1 g1 s1 w1 S1)
  | true => exact ite_pos rfl (h2 rfl A c1 g1 F rest s1 E Q hA (B.keeps w1.up) hF S1 fun c2 g2 s2 w2 S2 => q c2 g2 s2 (w1.trans w2) S2))
end
section
variable {prog : Program} {w : World} {n : Nat} {σ : OwnL} {xs ys : List PyData}
theorem op_addL (hz : xs.length + ys.length <= sizeLine) : Op2 prog w n σ (binaryOp .Add) (.d (.list xs)) (.d (.list ys)) (.d (.list (xs ++ ys))) := fun A c g F m rest s E Q v1 v2 hA B S r1 r2 q => by
 apply Rd.onList r1; intro a n1 vs e1 h1; apply Rd.onList r2; intro b n2 us e2 h2
 obtain ⟨L, S0⟩ := S.base
 have l1 := h1.len
 have l2 := h2.len
 refine P.add_list (n := n1) (n2 := n2) (items := vs.toArray) (items2 := us.toArray) (S0.keep _ _ e1) (S0.keep _ _ e2) ?_ (by simp [l1, l2]; exact hz)
 obtain ⟨g', k, ha, S2⟩ := S.new (c' := c) (s' := { s with heap := s.heap.push { cls := .type "list", data := .seq (vs.toArray ++ us.toArray) } }) (as := [(_, eqO { cls := .type "list", data := .seq (vs.toArray ++ us.toArray) })]) fun L S => S.alloc _ rfl
 obtain ⟨o, ho, rfl⟩ := ha _ List.mem_cons_self
 exact q c g' _ _ (.grow k) (.list (vs := vs ++ us) (n := 0) (by rw [ho]; simp) ((h1.up k).app (h2.up k))) S2
end
section
variable {prog : Program} {w : World} {n : Nat}
theorem callb_divmod {a b : Int} (hb : b ≠ 0) (hp : Builtin.divisionGoesByPylong a b = false) : CallB prog w n (.builtin "divmod") [.int a, .int b] (.tuple [.int (a.fdiv b), .int (a.fmod b)]) := fun A c g F m σ rest s E Q vs hA B S r q => by
 apply r.onCons; intro v1 vs r1 r2; apply r2.onOne; intro v2 r2; apply r1.onInt; intro t; apply r2.onInt; intro u
 refine divmod_int hb ?_ (.inl hp)
 obtain ⟨g', k, ha, S2⟩ := S.new (c' := c) (s' := { s with toks := s.toks + 1 + 1, heap := s.heap.push { cls := .type "tuple", data := .seq #[.int (a.fdiv b) s.toks, .int (a.fmod b) (s.toks + 1)] } }) (as := [(s.heap.objs.size, eqO { cls := .type "tuple", data := .seq #[.int (a.fdiv b) s.toks, .int (a.fmod b) (s.toks + 1)] })]) fun L S => (S.alloc (Pa := eqO { cls := .type "tuple", data := .seq #[.int (a.fdiv b) s.toks, .int (a.fmod b) (s.toks + 1)] }) { cls := .type "tuple", data := .seq #[.int (a.fdiv b) s.toks, .int (a.fmod b) (s.toks + 1)] } rfl).tok (s.toks + 1 + 1)
 obtain ⟨o, ho, rfl⟩ := ha _ List.mem_cons_self
 exact q c g' _ _ (.grow k) (.tuple (vs := [_, _]) ⟨_, ho, rfl, 0, rfl⟩ (.cons (.int _ _) (.cons (.int _ _) .nil))) S2
end

end
section
theorem Hf.sharp {c : Cx} {g : Heap} {a : Addr} {P : OP} {own : Led} {s : Shared} (S : Hf c g ((a, P) :: own) s) : ∃ o, P o /\ Hf c g ((a, eqO o) :: own) s := by
 obtain ⟨o, ho, hP⟩ := S.at List.mem_cons_self
 refine ⟨o, hP, S.keep, fun p hp => ?_, S.nodup, S.gsEq, S.osEq⟩
 rcases List.mem_cons.mp hp with rfl | hp
 ·exact ⟨⟨o, ho, rfl⟩, (S.led _ List.mem_cons_self).2⟩
 ·exact S.led _ (List.mem_cons_of_mem _ hp)
theorem Hf.sharpen {c : Cx} {g : Heap} {a : Addr} {α : Type} {P : α -> OP} {own : Led} {s : Shared} (S : Hf c g ((a, fun o => ∃ z, P z o) :: own) s) : ∃ z, Hf c g ((a, P z) :: own) s :=
 let ⟨o, ⟨z, hz⟩, S1⟩ := S.sharp; ⟨z, S1.weaken fun o' e => e ▸ hz⟩
section
variable {prog : Program} {w : World} {c : Cx} {g : Heap} {own : Led} {s s' : Shared} {n : Nat} {sc : Sc} {m : AM} {σ σ' : OwnL} {e e1 : Expr} {x dx p rl : Addr} {ln ln' : Int} {ps : List Str} {cs : List Nat} {d : PyData} {y : Str} {pos p2 : Pos} {F : Frm} {rest : RL} {v : Value}
theorem lex_open (S : Hf c g (ownE prog w g (x, .lex dx p rl ln ps cs) ++ own) s) : ∃ mx st vs us, lexM mx ln (.ref st) p /\ LexF prog w g x dx st rl /\ RdAll prog w g vs (ps.map .str) /\ StrsAre us (cs.map chS) /\ Hf c g ((dx, insO mx 4) :: (p, listO vs) :: (rl, listO us) :: own) s := by
 obtain ⟨mx, S1⟩ := Hf.sharpen (α := Str -> Option Value) S
 obtain ⟨st, S2⟩ := Hf.sharpen (α := Addr) S1
 have ⟨o, ho, _, h2, h3⟩ := S2.at List.mem_cons_self
 have S3 := S2.weaken (Pb := insO mx 4) fun o z => z.1
 obtain ⟨vs, S4⟩ := Hf.sharpen (α := List Value) (S3.perm (own' := (p, _) :: (dx, insO mx 4) :: (rl, _) :: own) (List.Perm.swap ..))
 have ⟨o, ho, _, h4⟩ := S4.at List.mem_cons_self
 have S5 := (S4.weaken (Pb := listO vs) fun o z => z.1)
 obtain ⟨us, S6⟩ := Hf.sharpen (α := List Value) (S5.perm (own' := (rl, _) :: (p, listO vs) :: (dx, insO mx 4) :: own) ((List.Perm.cons _ (List.Perm.swap ..)).trans (List.Perm.swap ..)))
 have ⟨o, ho, _, h5⟩ := S6.at List.mem_cons_self
 exact ⟨mx, st, vs, us, h2, h3, h4, h5, (S6.weaken (Pb := listO us) fun o z => z.1).perm (((List.Perm.swap ..).trans (List.Perm.cons _ (List.Perm.swap ..))).trans (List.Perm.swap ..))⟩
theorem lex_close {mx : Str -> Option Value} {st : Addr} {vs us : List Value} (hm : lexM mx ln (.ref st) p) (hF : LexF prog w g x dx st rl) (hv : RdAll prog w g vs (ps.map .str)) (hu : StrsAre us (cs.map chS)) (S : Hf c g ((dx, insO mx 4) :: (p, listO vs) :: (rl, listO us) :: own) s) : Hf c g (ownE prog w g (x, .lex dx p rl ln ps cs) ++ own) s :=
 S.weakenAll rfl fun q hq => by
  rcases List.mem_cons.mp hq with rfl | hq
  ·exact ⟨_, List.mem_cons_self, fun o z => ⟨mx, st, z, hm, hF⟩⟩
  rcases List.mem_cons.mp hq with rfl | hq
  ·exact ⟨_, List.mem_cons_of_mem _ List.mem_cons_self, fun o z => ⟨vs, z, hv⟩⟩
  rcases List.mem_cons.mp hq with rfl | hq
  ·exact ⟨_, List.mem_cons_of_mem _ (List.mem_cons_of_mem _ List.mem_cons_self), fun o z => ⟨us, z, hu⟩⟩
  ·exact ⟨_, List.mem_cons_of_mem _ (List.mem_cons_of_mem _ (List.mem_cons_of_mem _ hq)), fun _ z => z⟩
theorem PutO.same {ad : Addr} {d d' : PyData} (P : PutO ad d d' σ σ') : PutO ad d d σ σ := by
 induction P with
 | head => exact .head
 | tail _ ih => exact .tail ih
theorem St.lex {d' : PyData} (P : PutO x (.lex dx p rl ln ps cs) d' σ σ') (S : St prog w c g F m σ rest s) : ∃ ml L, (∃ mx st vs us, lexM mx ln (.ref st) p /\ LexF prog w g x dx st rl /\ RdAll prog w g vs (ps.map .str) /\ StrsAre us (cs.map chS) /\ Hf c g ((dx, insO mx 4) :: (p, listO vs) :: (rl, listO us) :: (F.env.locals, nsO ml) :: L) s) /\
  ∀ s', Hf c g (ownE prog w g (x, d') ++ ((F.env.locals, nsO ml) :: L)) s' -> St prog w c g F m σ' rest s' := by
 obtain ⟨r, h1, h2⟩ := P.perm (prog := prog) (w := w)
 obtain ⟨ml, mc, S, hm⟩ := S
 refine ⟨ml, F.oc.map (fun y => (y.2, cellO (mc y.1))) ++ (ownLed prog w g r ++ (rest.il ++ rest.kp)), lex_open (S.perm (own' := ownE prog w g (x, .lex dx p rl ln ps cs) ++ (frmLed F ml mc ++ (ownLed prog w g r ++ (rest.il ++ rest.kp)))) ?_), fun s' S' => ⟨ml, mc, S'.perm ?_, hm⟩⟩
 ·exact (List.Perm.append_left _ ((List.Perm.append_right _ (h1 g)).trans (by rw [List.append_assoc]))).trans (List.perm_append_comm_assoc _ _ _)
 ·exact ((List.perm_append_comm_assoc _ _ _).trans (List.Perm.append_left _ ((by rw [<- List.append_assoc]; exact List.Perm.append_right _ (h2 g).symm : (ownE prog w g (x, d') ++ (ownLed prog w g r ++ (rest.il ++ rest.kp))).Perm (ownLed prog w g σ' ++ (rest.il ++ rest.kp))))) : (ownE prog w g (x, d') ++ (frmLed F ml mc ++ (ownLed prog w g r ++ (rest.il ++ rest.kp)))).Perm _)
theorem lex_meth {A : Around} {E : Value -> Shared -> Prop} {f : Addr} {pl : Sem Bool} {Q : Value × List Value -> Shared -> Prop} {name : Str} {d' : PyData} (P : PutO x (.lex dx p rl ln ps cs) d' σ σ') (B : Base w g) (S : St prog w c g F m σ rest s) (hn : ∀ mx fp, lexM mx ln fp p -> mx name = none)
  (hg : plainGet (heapK w.params) 101 name = true) (hf : findIn (heapK w.params) (.ref 101) name = some (some (.ref f))) (ht : isFn (heapK w.params) (.ref f) = true) (q : Q (.ref f, [.ref x]) s) : wpAny (model prog w) A (getMethod (.ref x) name pl) Q E s := by
 obtain ⟨ml, L, ⟨mx, st, vs, us, hm, hx, _, _, S3⟩, _⟩ := S.lex P
 exact r_methInst (L := F.env.locals) (m := ml) (own := (dx, insO mx 4) :: (p, listO vs) :: (rl, listO us) :: L) (S3.perm (List.perm_middle (l₁ := [_, _, _]))) B (.inr hx.x) (.inl List.mem_cons_self) (hn _ _ hm) hg hf ht q
theorem lexM.get {mx : Str -> Option Value} {fp : Value} (h : lexM mx ln fp p) : mx "get_token" = none := h.2.2.2.2.2.1
theorem lexM.push {mx : Str -> Option Value} {fp : Value} (h : lexM mx ln fp p) : mx "push_token" = none := h.2.2.2.2.2.2
noncomputable def getD (ln : Int) (ps : List Str) (cs : List Nat) : Str × Int × List Str × List Nat := match ps with
 | y :: ps => (y, ln, ps, cs)
 | [] => (strOf (lexT cs).1, ln + nl cs - nl (lexT cs).2, [], (lexT cs).2)
theorem get_go {A : Around} (hA : AOk 5 A) (B : Base w g) (hz : ps.length < sizeLine) (hc : cs.length < sizeLine) (S : Hf c g (ownE prog w g (x, .lex dx p rl ln ps cs) ++ own) s) :
  codeAny (model prog w) A (.call (.ref 91) ⟨[.ref x], []⟩) (fun r s' => ∃ t, r = .ok (.ret t) /\ Rd prog w g t (.str (getD ln ps cs).1) /\ Hf c g (ownE prog w g (x, .lex dx p rl (getD ln ps cs).2.1 (getD ln ps cs).2.2.1 (getD ln ps cs).2.2.2) ++ own) s') s := by
 obtain ⟨mx, st, vs, us, hm, hx, hv, hu, S3⟩ := lex_open S
 cases ps with
 | cons y ps =>
  revert S3
  apply hv.onCons; intro v vs' r1 r2 S3
  refine codeAny_mono (getpush_spec (p := p) (x := x) (dx := dx) (ws := vs') (v := v) (hA.mono (by decide)) B (.inr hx.x) (.inl List.mem_cons_self) hm (by rw [r2.len, List.length_map]; exact Nat.lt_of_succ_lt hz) (S3.perm (List.Perm.swap ..))) fun r s2 z => ?_
  obtain ⟨rfl, S4⟩ := z
  exact ⟨v, rfl, r1, lex_close hm hx r2 hu (S4.perm (List.Perm.swap ..))⟩
 | nil =>
  revert S3
  apply hv.onNil; intro S3
  have hl : us.length = cs.length := by have := hu.length; rw [List.length_map] at this; exact this
  refine codeAny_mono (getlex_spec (Y := ⟨c, g, own, x, dx, st, rl, p, ln + nl cs, cs.length⟩) hA B hx hm hu hc (Nat.le_of_eq hl) (Nat.le_refl _) rfl S3) fun r s2 z => ?_
  obtain ⟨mx', vs', t, ln', rfl, hm', hv', _, hn, S4⟩ := z
  refine ⟨_, rfl, .str _ _, ?_⟩
  have e : ln' = ln + nl cs - nl (lexT cs).2 := by omega
  subst e
  exact lex_close hm' hx .nil hv' S4
theorem evx_get (h : Ev prog w n sc m σ e (.d (.obj x))) (P : PutO x (.lex dx p rl ln ps cs) (.lex dx p rl (getD ln ps cs).2.1 (getD ln ps cs).2.2.1 (getD ln ps cs).2.2.2) σ σ') (hz : ps.length < sizeLine) (hc : cs.length < sizeLine) (hn : 5 <= n) {pl : Env -> Sem Bool}
  (he : autoParam (∀ env, eval (.Call (.Attribute e (Str.ofString "get_token") p2) [] [] pos) env = (do
   let ov <- eval e env
   standAt p2.atName
   let (f, first) <- holding [ov] (getMethod ov (Str.ofString "get_token") (pl env))
   callWith pos f first (backTo pos (starEach [] env)) [])) auI1) : EvX prog w n sc m σ (.Call (.Attribute e (Str.ofString "get_token") p2) [] [] pos) (.str (getD ln ps cs).1) σ' := fun A c g F rest s E Q hA B hF S q =>
 MethodCall_ (h A c g F rest s E _ hA B hF S fun c1 g1 v s1 w1 r1 S1 => by
  have r1 : Rd prog w g1 v (.obj x) := r1
  apply r1.onObj
  have B1 := B.keeps w1.up
  refine lex_meth P B1 S1 (fun _ _ z => z.get) (by k_is) (by k_is) (by k_is) ?_
  obtain ⟨_, S0⟩ := S1.base
  have hf : ∃ o fd, g1.get? 91 = some o /\ o.data = .func fd := ⟨_, _, B1.K _ _ (by k_is), rfl⟩
  refine callWith_F0 (q := 91) (fnAt_of hf S0.keep) ?_
  obtain ⟨ml, L, ⟨mx, st, vs, us, hm, hx, hv, hu, S3⟩, back⟩ := S1.lex P
  refine wpAny_call (codeAny_mono (get_go (hA.mono hn) B1 hz hc (lex_close hm hx hv hu S3)) fun r s2 z => ?_)
  obtain ⟨t, rfl, r2, S4⟩ := z
  exact q c1 g1 t s2 w1 r2 (back s2 S4)) (he _)
theorem evx_push (h : Ev prog w n sc m σ e (.d (.obj x))) (ha : Ev prog w n sc m σ e1 (.d (.str y))) (P : PutO x (.lex dx p rl ln ps cs) (.lex dx p rl ln (ps ++ [y]) cs) σ σ') (hz : ps.length < sizeLine) (hn : 1 <= n) {pl : Env -> Sem Bool} (hp : autoParam (PlainArgs e1 []) auP)
  (he : autoParam (∀ env, eval (.Call (.Attribute e (Str.ofString "push_token") p2) [e1] [] pos) env = (do
   let ov <- eval e env
   standAt p2.atName
   let (f, first) <- holding [ov] (getMethod ov (Str.ofString "push_token") (pl env))
   callWith pos f first (backTo pos (starEach [e1] env)) [])) auI1) : EvX prog w n sc m σ (.Call (.Attribute e (Str.ofString "push_token") p2) [e1] [] pos) .none σ' := fun A c g F rest s E Q hA B hF S q =>
 MethodCall_ (h A c g F rest s E _ hA B hF S fun c1 g1 v s1 w1 r1 S1 => by
  have r1 : Rd prog w g1 v (.obj x) := r1
  apply r1.onObj
  have B1 := B.keeps w1.up
  refine lex_meth P B1 S1 (fun _ _ z => z.push) (by k_is) (by k_is) (by k_is) ?_
  have hf : ∃ o fd, g1.get? 98 = some o /\ o.data = .func fd := ⟨_, _, B1.K _ _ (by k_is), rfl⟩
  refine r_callFn (rd := 98) hf (evl_cons ha evl_nil (fun env => (hp env).1) A c1 g1 F rest s1 E _ _ hA B1 hF S1 fun c2 g2 vs s2 w2 r2 S2 => ?_) (hp _).1 ((hp _).2 _)
  apply r2.onOne; intro u ru
  obtain ⟨_, S0⟩ := S2.base
  refine ⟨⟨_, _, S0.lower w2.up⟩, ?_⟩
  have B2 := B1.keeps w2.up
  obtain ⟨ml, L, ⟨mx, st, vs, us, hm, hx, hv, hu, S3⟩, back⟩ := S2.lex P
  refine wpAny_call (codeAny_mono (push_spec (x := x) (dx := dx) (p := p) (v := u) (ws := vs) (hA.mono hn) B2 (.inr hx.x) (.inl List.mem_cons_self) hm (by rw [hv.len, List.length_map]; exact hz) (S3.perm (List.Perm.swap ..))) fun r s3 z => ?_)
  obtain ⟨rfl, S4⟩ := z
  exact q c2 g2 .none s3 (w1.trans w2) .none (back s3 (lex_close hm hx (by rw [List.map_append]; exact hv.app (.cons ru .nil)) hu (S4.perm (List.Perm.swap ..))))) (he _)
theorem es_exprX (h : EvX prog w n sc m σ e .none σ') (hs : autoParam (∀ env, swapsWith e none pos.line env = pure false) auI1) : Es prog w n sc m σ (.Expr e pos) .next m σ' := fun A c g F rest s E Q hA B hF S q =>
 wpAny_Expr (h A c g F rest s E _ hA B hF S fun c1 g1 v s1 w1 r1 S1 => by apply r1.onNone; exact q c1 g1 .next s1 w1 trivial S1) (by unfold interactive; rw [hF.scope, hF.fn]; rfl) (hs _)
theorem ev_lineno {d' : PyData} (h : Ev prog w n sc m σ e (.d (.obj x))) (P : PutO x (.lex dx p rl ln ps cs) d' σ σ')
  (he : ∀ env, eval (.Attribute e (Str.ofString "lineno") pos) env = (do
   let o <- eval e env
   standAt pos.atName
   let r <- holding [o] (getAttr o (Str.ofString "lineno") true)
   letTemporaryGo e o r
   pure r)) : Ev prog w n sc m σ (.Attribute e (Str.ofString "lineno") pos) (.d (.int ln)) := fun A c g F rest s E Q hA B hF S q =>
 Attribute_any_ (h A c g F rest s E _ hA B hF S fun c1 g1 v s1 w1 r1 S1 => by
  have r1 : Rd prog w g1 v (.obj x) := r1
  apply r1.onObj
  obtain ⟨ml, L, ⟨mx, st, vs, us, hm, hx, hv, hu, S3⟩, back⟩ := S1.lex P.same
  obtain ⟨t, ht⟩ := hm.1
  refine r_getIns (L := F.env.locals) (m := ml) (own := (dx, insO mx 4) :: (p, listO vs) :: (rl, listO us) :: L) (S3.perm (List.perm_middle (l₁ := [_, _, _]))) (B.keeps w1.up) (.inr hx.x) (.inl List.mem_cons_self) ht (by k_is) (by k_is) (by k_is) rfl rfl fun s2 S4 => ?_
  exact q c1 g1 _ s2 w1 (.int _ _) (back s2 (lex_close hm hx hv hu (S4.perm (List.perm_middle (l₁ := [_, _, _])).symm)))) (he _)
end

end
section
noncomputable def EvLs (prog : Program) (w : World) (n : Nat) (sc : Sc) (m : AM) (σ : OwnL) (es : List Expr) (K : List AV -> OwnL -> Prop) : Prop :=
 ∀ (A : Around) (c : Cx) (g : Heap) (F : Frm) (rest : RL) (s : Shared) (E : Value -> Shared -> Prop) (pos : Pos) (Q : List Value -> Shared -> Prop), AOk n A -> Base w g -> FrOk sc F -> St prog w c g F m σ rest s ->
  (∀ c' g' vs s' as σ', K as σ' -> Wle c g c' g' -> AVs prog w g' vs as -> St prog w c' g' F m σ' rest s' -> Q vs s') -> wpAny (model prog w) A (spliced (backTo pos (starEach es F.env))) Q E s
noncomputable def WlP (prog : Program) (w : World) (n : Nat) (sc : Sc) (test : Expr) (body : List Stmt) (K : Fl -> AM -> OwnL -> Prop) : Nat -> AM -> OwnL -> Prop
 | 0, m, σ => EvT prog w n sc m σ test false /\ K .next m σ
 | k + 1, m, σ => EvT prog w n sc m σ test true /\ ExP prog w n sc m σ body fun fl m1 σ1 => fl = .next /\ WlP prog w n sc test body K k m1 σ1
section
variable {prog : Program} {w : World} {c c' : Cx} {g g' : Heap} {own : Led} {s s' : Shared} {n k : Nat} {sc : Sc} {m m' m1 : AM} {σ σ' σ1 σa σb : OwnL} {e e1 e2 tgt test : Expr} {es ts : List Expr} {ad : Addr} {a : AV} {d d' : PyData} {xs ys ds : List PyData} {x y f : Str} {pos p p2 : Pos} {F : Frm} {rest : RL} {v : Value} {ss body els : List Stmt} {fl : Fl} {kvs : List (PyData × PyData)} {b : Bool} {P P1 : PyData -> OwnL -> Prop} {K K1 : Fl -> AM -> OwnL -> Prop} {KL : List AV -> OwnL -> Prop} {kk kk2 : Nat} {ns : List Str} {u : Nat}
theorem EvP.mono (h : EvP prog w n sc m σ e P) (hp : ∀ d σ', P d σ' -> P1 d σ') : EvP prog w n sc m σ e P1 := fun A c g F rest s E Q hA B hF S q => h A c g F rest s E Q hA B hF S fun c' g' v d σ' s' hP => q c' g' v d σ' s' (hp _ _ hP)
theorem Ev.toP (h : Ev prog w n sc m σ e (.d d)) (hp : P d σ) : EvP prog w n sc m σ e P := fun A c g F rest s E Q hA B hF S q => h A c g F rest s E Q hA B hF S fun c' g' v s' => q c' g' v d σ s' hp
theorem evls_nil (h : KL [] σ) : EvLs prog w n sc m σ [] KL := fun A c g F rest s E pos Q hA B hF S q => spliced_nil (q c g [] s [] σ h .rfl .nil S)
theorem evls_cons (h : EvP prog w n sc m σ e P) (hr : ∀ d σ1, P d σ1 -> EvLs prog w n sc m σ1 es fun as σ' => KL (.d d :: as) σ') (he : autoParam (∀ env, starEach (e :: es) env = (false, eval e env) :: starEach es env) auI1) : EvLs prog w n sc m σ (e :: es) KL := fun A c g F rest s E pos Q hA B hF S q => by
 rw [he]
 exact spliced_cons (h A c g F rest s E _ hA B hF S fun c1 g1 v d σ1 s1 hP w1 r1 S1 => hr d σ1 hP A c1 g1 F rest s1 E pos _ hA (B.keeps w1.up) hF S1 fun c2 g2 vs s2 as σ2 hK w2 r2 S2 => q c2 g2 _ s2 _ σ2 hK (w1.trans w2) (.cons (r1.up w2.up) r2) S2)
theorem evp_listO (h : EvL prog w n sc m σ es ds) (hz : ds.length <= sizeLine) (hp : ∀ ad, P (.obj ad) ((ad, .list ds) :: σ)) : EvP prog w n sc m σ (.List es pos) P := fun A c g F rest s E Q hA B hF S q =>
 List_ (h A c g F rest s E _ _ hA B hF S fun c1 g1 vs s1 w1 r1 S1 => wpAny_newObj_type (by
  have S2 : St prog w c1 g1 F m ((s1.heap.objs.size, .list ds) :: σ) rest { s1 with heap := s1.heap.push { cls := .type "list", data := .seq vs.toArray } } := S1.addO fun L S => S.alloc _ ⟨vs, ⟨0, Eq.refl _⟩, r1⟩
  exact q c1 g1 _ _ _ _ (hp _) w1 (.obj _) S2) (by show vs.toArray.size <= sizeLine; rw [List.size_toArray, r1.len]; exact hz))
theorem AVs.rd {vs : List Value} : ∀ {ds : List PyData}, AVs prog w g vs (ds.map .d) -> ∀ {vs : List Value}, AVs prog w g vs (ds.map .d) -> RdAll prog w g vs ds
 | [], _, _, h => by cases h; exact .nil
 | d :: ds, _, _, h => by cases h with | cons a b => exact .cons a (AVs.rd b b)
theorem evp_tuple (h : EvLs prog w n sc m σ es fun as σ' => ∃ ds, as = ds.map .d /\ P (.tuple ds) σ') (hz : es.length <= 100) (hl : ∀ as σ', (∃ ds : List PyData, as = ds.map AV.d /\ P (.tuple ds) σ') -> as.length <= 100) : EvP prog w n sc m σ (.Tuple es kk pos) P := fun A c g F rest s E Q hA B hF S q =>
 Tuple_ (h A c g F rest s E _ _ hA B hF S fun c1 g1 vs s1 as σ1 hK w1 r1 S1 => wpAny_newObj_type (by
  obtain ⟨ds, rfl, hP⟩ := hK
  obtain ⟨g', kg, ha, S2⟩ := S1.new (as := [(_, eqO { cls := .type "tuple", data := .seq vs.toArray })]) fun L S => S.alloc _ rfl
  obtain ⟨o, ho, rfl⟩ := ha _ List.mem_cons_self
  exact q c1 g' _ _ σ1 _ hP (w1.trans (.grow kg)) (.tuple ⟨_, ho, rfl, 0, rfl⟩ ((AVs.rd r1 r1).up kg)) S2) (by show vs.toArray.size <= sizeLine; rw [List.size_toArray, r1.len, sizeLine_eq]; have := hl _ _ hK; omega))
theorem esp_setP (h : EvP prog w n sc m σ e P) (hk : Stb sc x) (hK : ∀ d σ', P d σ' -> K .next ((x, .d d) :: m) σ') (hs : autoParam (∀ env : Env, env.scope = sc.toScope -> swapsWith e (some (.Name x p)) pos.line env = pure false) auE) : EsP prog w n sc m σ (.Assign [.Name x p] e pos) K := fun A c g F rest s E Q hA B hF S q =>
 wpAny_Assign_Name (h A c g F rest s E _ hA B hF S fun c1 g1 v d σ1 s1 hP w1 r1 S1 => S1.store (hk.of hF) hF (a := .d d) r1 fun s2 S2 => q c1 g1 .next s2 .next _ σ1 (hK d σ1 hP) w1 trivial S2) (hs _ hF.scope)
theorem exp_setP (h : EvP prog w n sc m σ e P) (hk : Stb sc x) (hK : ∀ d σ', P d σ' -> ExP prog w n sc ((x, .d d) :: m) σ' ss K) (hs : autoParam (∀ env : Env, env.scope = sc.toScope -> swapsWith e (some (.Name x p)) pos.line env = pure false) auE) : ExP prog w n sc m σ (.Assign [.Name x p] e pos :: ss) K :=
 exp_consP (K1 := fun fl m1 σ1 => fl = .next /\ ExP prog w n sc m1 σ1 ss K) (esp_setP h hk (fun d σ' z => ⟨rfl, hK d σ' z⟩) hs) (fun _ _ z => z.2) fun _ _ _ hn z => absurd z.1 hn
theorem exp_unpack (h : EvP prog w n sc m σ e P) (U : ∀ d σ', P d σ' -> ∃ ds m1, d = .tuple ds /\ Unp sc es ds m m1 /\ ExP prog w n sc m1 σ' ss K) (hs : autoParam (∀ env, swapsWithSole [.Tuple es kk p] e pos.line env = pure false) auI1) (hs2 : autoParam (∀ env : Env, env.scope = sc.toScope -> swappedStores [.Tuple es kk p] e env = pure none) auE) : ExP prog w n sc m σ (.Assign [.Tuple es kk p] e pos :: ss) K := fun A c g F rest s E Q hA B hF S q =>
 wpAny_execs_cons (Assign_Tuple (h A c g F rest s E _ hA B hF S fun c1 g1 v d σ1 s1 hP w1 r1 S1 => by
  obtain ⟨ds, m1, rfl, u, k⟩ := U d σ1 hP
  exact u.at hA.hh hF S1 r1 fun s2 S2 => k A c1 g1 F rest s2 E Q hA (B.keeps w1.up) hF S2 fun c2 g2 f s3 fl m2 σ2 hK w2 => q c2 g2 f s3 fl m2 σ2 hK (w1.trans w2)) (hs _) (hs2 _ hF.scope))
theorem exp_freeze (P : PickO (ad, d) σ σ1) (hx : m.lookup x = some (.ref ad)) (h : ExP prog w n sc ((x, .d d) :: m) σ1 ss K) (hd : autoParam (∀ kvs, d = .dict kvs -> (ad == sysModules) = false) auF) (o1 : autoParam (One d) auI4) (o3 : autoParam (d ≠ .tab) auO) : ExP prog w n sc m σ ss K := fun A c g F rest s E Q hA B hF S q => by
 obtain ⟨g', kg, S2⟩ := S.frz P hx hd o1 o3
 exact h A c g' F rest s E Q hA (B.keeps kg) hF S2 fun c1 g1 f s1 fl m2 σ2 hK w1 => q c1 g1 f s1 fl m2 σ2 hK ((Wle.grow kg).trans w1)
theorem exp_newDict {pos2 : Pos} (hk : Stb sc x) (k : ∀ ad, (ad == sysModules) = false -> ExP prog w n sc ((x, .ref ad) :: m) ((ad, .dict []) :: σ) ss K) : ExP prog w n sc m σ (.Assign [.Name x p] (.Dict [] [] pos2) pos :: ss) K := fun A c g F rest s E Q hA B hF S q => by
 obtain ⟨L, S0⟩ := S.base
 refine wpAny_execs_cons (wpAny_Assign_Name (wpAny_Dict_empty ?_) (by rfl))
 have S2 : St prog w c g F m ((s.heap.objs.size, .dict []) :: σ) rest { s with heap := s.heap.push { cls := .type "dict", data := .dict #[] } } := S.addO fun L S => S.alloc _ ⟨[], isDict_nil, .nil⟩
 exact S2.store (hk.of hF) hF (a := .ref _) (Eq.refl _) fun s3 S3 => k _ (new_sys B S0) A c g F rest s3 E Q hA B hF S3 q
theorem exp_ref (hx : m.lookup x = some (.d (.obj ad))) (h : ExP prog w n sc ((x, .ref ad) :: m) σ ss K) : ExP prog w n sc m σ ss K := fun A c g F rest s E Q hA B hF S q => by
 obtain ⟨ml, mc, S, hm⟩ := S
 refine h A c g F rest s E Q hA B hF ⟨ml, mc, S, fun z a hz => ?_⟩ q
 rw [List.lookup_cons] at hz
 cases e : z == x with
 | true =>
  rw [e] at hz; cases hz
  rw [eq_of_beq e]
  obtain ⟨v, h1, h2⟩ := hm x _ hx
  have h1 : Rd prog w g v (.obj ad) := h1
  refine ⟨v, ?_, h2⟩
  show v = .ref ad
  apply h1.onObj; rfl
 | false => rw [e] at hz; exact hm z a hz
theorem ev_obj (h : Ev prog w n sc m σ e (.d (.obj ad))) : Ev prog w n sc m σ e (.ref ad) := fun A c g F rest s E Q hA B hF S q => h A c g F rest s E Q hA B hF S fun c1 g1 v s1 w1 r1 S1 => q c1 g1 v s1 w1 (by
 have r1 : Rd prog w g1 v (.obj ad) := r1
 show v = .ref ad
 apply r1.onObj; rfl) S1
theorem exp_swapL (ns : List Str) (H : EvLs prog w n sc m σ es KL) (hn : ∀ x ∈ ns, Stb sc x) (hl : ∀ as σ', KL as σ' -> ns.length = as.length) (k : ∀ as σ', KL as σ' -> ExP prog w n sc (ns.zip as ++ m) σ' ss K) (hz : ns.length <= 100)
  (hs : autoParam (∀ env, swapsWithSole [.Tuple ts kk p] (.Tuple es kk2 p2) pos.line env = pure false) auI1) (hw : autoParam (∀ env : Env, env.scope = sc.toScope -> swappedStores [.Tuple ts kk p] (.Tuple es kk2 p2) env = pure (some ns)) auE) : ExP prog w n sc m σ (.Assign [.Tuple ts kk p] (.Tuple es kk2 p2) pos :: ss) K := fun A c g F rest s E Q hA B hF S q => by
 refine wpAny_execs_cons (Assign_Tuple_swapped (names := ns) (Tuple_ (H A c g F rest s E _ _ hA B hF S fun c1 g1 vs s1 as σ1 hc w1 r1 S1 => ?_)) (hs _) (hw _ hF.scope))
 have lv := r1.len
 have hla := hl as σ1 hc
 refine wpAny_newObj_type ?_ (by show vs.toArray.size <= sizeLine; rw [List.size_toArray, lv, sizeLine_eq]; omega)
 have S2 : St prog w c1 g1 F m σ1 rest { s1 with heap := s1.heap.push { cls := .type "tuple", data := .seq vs.toArray } } := S1.like fun L S => S.push _
 have e : ns.length = vs.toArray.size := by rw [List.size_toArray, lv, hla]
 rw [e]
 refine wpAny_unpackItems_tuple hA.hh ⟨_, Heap.get?_push_size _ rfl, rfl, 0, rfl⟩ fun h' hx => ?_
 rw [List.toList_toArray]
 have S3 := S2.like (s' := { s1 with heap := h' }) fun L S => S.grow (fun b o e => hx b o (Nat.ne_of_lt (Heap.lt_size e)) e) rfl rfl
 have e2 : ns.reverse.map (fun y => bindName F.env y) = ((ns.zip as).reverse.map fun y => bindName F.env y.1) := by rw [List.map_reverse, List.map_reverse, zip_map hla]
 rw [e2]
 refine stores_go (l := (ns.zip as).reverse) (fun y hy => hn y.1 (List.of_mem_zip (List.mem_reverse.mp hy)).1) hF S3 ?_ fun s4 S4 => ?_
 ·rw [List.map_reverse, zip_snd hla]; exact r1.rev
 ·rw [List.reverse_reverse] at S4
  exact k as σ1 hc A c1 g1 F rest s4 E Q hA (B.keeps w1.up) hF S4 fun c2 g2 f s5 fl m2 σ2 hK w2 => q c2 g2 f s5 fl m2 σ2 hK (w1.trans w2)
theorem exp_if (ht : EvT prog w n sc m σ e b) (h1 : b = true -> ExP prog w n sc m σ body K) (h2 : b = false -> ExP prog w n sc m σ els K) : EsP prog w n sc m σ (.If e body els pos) K := fun A c g F rest s E Q hA B hF S q =>
 wpAny_If (ht A c g F rest s E _ hA B hF S fun c1 g1 s1 w1 S1 => by
  have k' := fun c' g' f s' fl m2 σ2 (hK : K fl m2 σ2) (w2 : Wle c1 g1 c' g') => q c' g' f s' fl m2 σ2 hK (w1.trans w2)
  cases b with
  | true => exact ite_pos rfl (h1 rfl A c1 g1 F rest s1 E Q hA (B.keeps w1.up) hF S1 k')
  | false => exact ite_neg Bool.false_ne_true (h2 rfl A c1 g1 F rest s1 E Q hA (B.keeps w1.up) hF S1 k'))
theorem exp_skip (ht : EvT prog w n sc m σ e false) (h : ExP prog w n sc m σ ss K) : ExP prog w n sc m σ (.If e body [] pos :: ss) K :=
 exp_consP (K1 := fun fl m1 σ1 => fl = .next /\ m1 = m /\ σ1 = σ) (exp_if ht (fun z => nomatch z) fun _ => exp_nil ⟨rfl, rfl, rfl⟩) (fun _ _ z => by obtain ⟨_, rfl, rfl⟩ := z; exact h) fun _ _ _ hn z => absurd z.1 hn
theorem lpp_inv {α : Type} {l : List α} (enc : α -> PyData) (I : List α -> AM -> OwnL -> Prop) (step : ∀ x l m σ, I (x :: l) m σ -> BdP prog w n sc tgt body (enc x) m σ fun fl m1 σ1 => fl = .next /\ I l m1 σ1) (h : I l m σ) : LpP prog w n sc tgt body (fun fl m1 σ1 => fl = .next /\ I [] m1 σ1) (l.map enc) m σ := by
 induction l generalizing m σ with
 | nil => exact ⟨rfl, h⟩
 | cons x l ih =>
  refine fun A c g F rest s E Q v hA B hF S r q => step x l m σ h A c g F rest s E Q v hA B hF S r fun c' g' f s' fl m1 σ1 hK => q c' g' f s' fl m1 σ1 ?_
  obtain ⟨rfl, hI⟩ := hK
  exact ih hI
theorem exp_forI {α : Type} (l : List α) (enc : α -> PyData) (I : List α -> AM -> OwnL -> Prop) (hi : It prog w n sc m σ e tgt ds) (hd : ds = l.map enc) (h : I l m σ) (step : ∀ x l m σ, I (x :: l) m σ -> BdP prog w n sc tgt body (enc x) m σ fun fl m1 σ1 => fl = .next /\ I l m1 σ1) (k : ∀ m1 σ1, I [] m1 σ1 -> ExP prog w n sc m1 σ1 ss K) (h2 : 2 <= n) (hs : autoParam (∀ env x, foldedSetIterable e env x = pure x) auI2) :
  ExP prog w n sc m σ (.For tgt e body [] pos :: ss) K :=
 exp_consP (es_forP hi (hd ▸ lpp_inv enc I step h) h2 hs) (fun _ _ z => k _ _ z.2) fun _ _ _ hn z => absurd z.1 hn
theorem esp_while (h : WlP prog w n sc test body K k m σ) : EsP prog w n sc m σ (.While test body [] pos) K := fun A c g F rest s E Q hA B hF S q => by
 refine wpAny_While (codeAny_mono (codeAny_whileLoop (R := LoopR prog w c g F K rest) (fun k s => ∃ m σ c1 g1, WlP prog w n sc test body K k m σ /\ Wle c g c1 g1 /\ St prog w c1 g1 F m σ rest s) ?_ k ⟨m, σ, c, g, h, .rfl, S⟩) fun r s' z => ?_)
 ·rintro k s ⟨m, σ, c1, g1, h, w1, S1⟩
  cases k with
  | zero =>
   refine h.1 A c1 g1 F rest s _ _ hA (B.keeps w1.up) hF S1 fun c2 g2 s2 w2 S2 => ?_
   exact wpAny_execs_nil ⟨c2, g2, .next, .next, m, σ, rfl, h.2, w1.trans w2, trivial, S2⟩
  | succ k =>
   refine h.1 A c1 g1 F rest s _ _ hA (B.keeps w1.up) hF S1 fun c2 g2 s2 w2 S2 => ?_
   refine h.2 A c2 g2 F rest s2 _ _ hA (B.keeps (w1.trans w2).up) hF S2 fun c3 g3 f s3 fl m1 σ1 hK w3 hf S3 => ?_
   obtain ⟨rfl, hW⟩ := hK
   cases f with
   | next => exact ⟨k, Nat.lt_succ_self _, m1, σ1, c3, g3, hW, (w1.trans w2).trans w3, S3⟩
   | _ => exact hf.elim
 ·obtain ⟨c', g', f, fl, m', σ', rfl, hK, w', hf, S'⟩ := z
  exact q c' g' f s' fl m' σ' hK w' hf S'
theorem ownLed_app (g : Heap) : ownLed prog w g (σa ++ σb) = ownLed prog w g σa ++ ownLed prog w g σb := List.flatMap_append
theorem ownLed_perm (h : σ.Perm σ') (g : Heap) : (ownLed prog w g σ).Perm (ownLed prog w g σ') := h.flatMap_right _
theorem St.perm (h : σ.Perm σ') (S : St prog w c g F m σ rest s) : St prog w c g F m σ' rest s :=
 let ⟨ml, mc, S, hm⟩ := S; ⟨ml, mc, S.perm (List.Perm.append_left _ (List.Perm.append_right _ (ownLed_perm h g))), hm⟩
theorem St.dropO (S : St prog w c g F m (σa ++ σb) rest s) : St prog w c g F m σa rest s := by
 obtain ⟨ml, mc, S, hm⟩ := S
 refine ⟨ml, mc, Hf.dropR (l2 := ownLed prog w g σb) (S.perm ?_), hm⟩
 simp only [ownLed_app, List.append_assoc]
 exact List.Perm.append_left _ (List.Perm.append_left _ (List.perm_append_comm.trans (by rw [List.append_assoc])))
theorem evp_callS {fa : Addr} (hσ : σ.Perm (σa ++ σb)) (G : GlF w sc x fa) (ha : EvL prog w n sc m σ (e :: es) ds) (h : FnP prog w n fa ds σa P) (hp : autoParam (PlainArgs e es) auP) : EvP prog w n sc m σ (.Call (.Name x p) (e :: es) [] pos) fun d σ' => ∃ σ1, P d σ1 /\ σ' = σ1 ++ σb := by
 refine evp_call G ha (fun A c g own s vs hA B S r => ?_) hp
 have S1 := S.perm (own' := ownLed prog w g σa ++ (ownLed prog w g σb ++ own)) (by rw [<- List.append_assoc, <- ownLed_app]; exact List.Perm.append_right _ (ownLed_perm hσ g))
 refine codeAny_mono (h A c g _ s vs hA B S1 r) fun r' s' z => ?_
 obtain ⟨c', g', v, d, σ1, rfl, hP, w', r', S'⟩ := z
 refine ⟨c', g', v, d, σ1 ++ σb, rfl, ⟨σ1, hP, rfl⟩, w', r', ?_⟩
 rw [ownLed_app, List.append_assoc]
 have S2 := S'.perm (List.perm_append_comm_assoc _ (ownLed prog w g σb) own)
 have S3 := ownLed_up (fl := []) (σ := σb) (kp := ownLed prog w g' σ1 ++ own) w'.up S2
 exact S3.perm (by rw [List.nil_append]; exact List.perm_append_comm_assoc _ _ _)
theorem ev_subD (h1 : Ev prog w n sc m σ e1 a) (D : DAt prog w σ a kvs) (h2 : Ev prog w n sc m σ e2 (.d (.str x))) (hd : kvGet kvs x = some d) (hs : autoParam (∀ o k, subscripted e2 false o k = operate [o, k] (getItem o k)) auI2) : Ev prog w n sc m σ (.Subscript e1 e2 pos) (.d d) := fun A c g F rest s E Q hA B hF S q =>
 Subscript_ (h1 A c g F rest s E _ hA B hF S fun c1 g1 v1 s1 w1 r1 S1 => h2 A c1 g1 F rest s1 E _ hA (B.keeps w1.up) hF S1 fun c2 g2 v2 s2 w2 r2 S2 => by
  apply r2.onStr; intro t
  exact sub_tail (opi_dat D hd S2 (r1.up w2.up) fun v s3 r3 S3 => q c2 g2 v s3 (w1.trans w2) r3 S3) (hs _ _))
theorem exp_setDict (h : EvP prog w n sc m σ e P) (h1 : ∀ d σ1, P d σ1 -> ∃ kvs σ2, PutO ad (.dict kvs) (.dict (kvPut kvs x d)) σ1 σ2 /\ kvs.length <= sizeLine /\ Ev prog w n sc m σ1 e1 (.ref ad) /\ Ev prog w n sc m σ1 e2 (.d (.str x)) /\ ExP prog w n sc m σ2 ss K) (hs : autoParam (∀ env, swapsWith e (some (.Subscript e1 e2 p)) pos.line env = pure false) auI1) : ExP prog w n sc m σ (.Assign [.Subscript e1 e2 p] e pos :: ss) K := fun A c g F rest s E Q hA B hF S q =>
 wpAny_execs_cons (wpAny_Assign_Subscript (h A c g F rest s E _ hA B hF S fun c0 g0 v d σ1 s0 hP w0 r0 S0 => by
  obtain ⟨kvs, σ2, P, hz, h1, h2, k⟩ := h1 d σ1 hP
  refine h1 A c0 g0 F rest s0 E _ hA (B.keeps w0.up) hF S0 fun c1 g1 v1 s1 w1 r1 S1 => h2 A c1 g1 F rest s1 E _ hA (B.keeps (w0.trans w1).up) hF S1 fun c2 g2 v2 s2 w2 r2 S2 => ?_
  obtain rfl : v1 = .ref ad := r1
  apply r2.onStr; intro tk
  exact setd_own P S2 hz (Rd.up (w1.trans w2).up r0) fun s' S' => k A c2 g2 F rest s' E Q hA (B.keeps ((w0.trans w1).trans w2).up) hF S' fun c3 g3 f s3 fl m3 σ3 hK w3 => q c3 g3 f s3 fl m3 σ3 hK (((w0.trans w1).trans w2).trans w3)) (hs _))
theorem op_neLl (hl : xs.length ≠ ys.length) : Op2 prog w n σ (compareOp .NotEq) (.d (.list xs)) (.d (.list ys)) (.d (.bool true)) := fun A c g F m rest s E Q v1 v2 hA B S r1 r2 q => by
 obtain ⟨L, S0⟩ := S.base
 have hU : A.units < cLine := hA.units
 apply r1.onList; intro a n1 vs e1 h1
 apply r2.onList; intro b n2 us e2 h2
 exact SeqAt.RcNeAt.lists_lengths (A := A) (s := s) (l := a) (b := b) (items := vs.toArray) (items2 := us.toArray) ⟨_, S0.keep _ _ e1, rfl, n1, rfl⟩ ⟨_, S0.keep _ _ e2, rfl, n2, rfl⟩ (by simp [h1.len, h2.len, hl]) hU prog w E Q (q c g _ s .rfl (.bool _) S)
theorem exp_end (hm : Sub m' m) (hK : K .next m' σ) : ExP prog w n sc m σ [] K := ex_toP (ex_end hm) hK
theorem exp_perm (h : σ.Perm σ') (k : ExP prog w n sc m σ' ss K) : ExP prog w n sc m σ ss K := fun A c g F rest s E Q hA B hF S q => k A c g F rest s E Q hA B hF (S.perm h) q
theorem exp_ret (h : EvX prog w n sc m σ e d σ') (hK : K (.ret (.d d)) [] σ') : ExP prog w n sc m σ (.Return (some e) pos :: ss) K := exp_stop (es_retX h) (fun z => nomatch z) hK
theorem FnP.mono {fa : Addr} (h : FnP prog w k fa ds σ P) (hk : k <= n) : FnP prog w n fa ds σ P := fun A c g own s vs hA => h A c g own s vs (hA.mono hk)
theorem PutO.last {l : OwnL} : PutO ad d d' (l ++ [(ad, d)]) (l ++ [(ad, d')]) := by
 induction l with
 | nil => exact .head
 | cons q l ih => exact .tail ih
theorem PickO.last {q : Addr × PyData} {l : OwnL} : PickO q (l ++ [q]) l := by
 induction l with
 | nil => exact .head
 | cons q l ih => exact .tail ih
end

end
section
structure LexR where
 key : Str
 x : Addr
 dx : Addr
 p : Addr
 rl : Addr
 ln : Int
 ps : List Str
 cs : List Nat
noncomputable def lexO (r : LexR) : Addr × PyData := (r.x, .lex r.dx r.p r.rl r.ln r.ps r.cs)
noncomputable def lexK (r : LexR) : PyData × PyData := (.str r.key, .obj r.x)
theorem pyl {a b : Int} (hb : b.natAbs < 2 ^ 30) : Builtin.divisionGoesByPylong a b = false := by
 unfold Builtin.divisionGoesByPylong
 have : b.natAbs.log2 / 30 = 0 := by
  rw [Nat.div_eq_zero_iff]; right
  by_cases h : b.natAbs = 0
  ·rw [h]; decide
  ·exact (Nat.log2_lt h).mpr hb
 simp only [Bool.and_eq_false_imp, decide_eq_true_eq]
 intro h
 split at h <;> omega
noncomputable def rotL (t : Nat) (ws : List Str) : List Str := ws.drop t ++ ws.take t
noncomputable def mx1 (k : Nat) : Int := if (k : Int) > 1 then (k : Int) else 1
noncomputable def rowsOf : Int -> List (Str × List Str) -> List (Str × List Str)
 | _, [] => []
 | pl, (c, ws) :: r => (c, rotL (pl.fmod (mx1 ws.length)).toNat ws) :: rowsOf (pl.fdiv (mx1 ws.length)) r
theorem rowsOf_n {pl : Int} : rowsOf pl [] = [] := rfl
theorem rowsOf_c {pl : Int} {c : Str} {ws : List Str} {r : List (Str × List Str)} : rowsOf pl ((c, ws) :: r) = (c, rotL (pl.fmod (mx1 ws.length)).toNat ws) :: rowsOf (pl.fdiv (mx1 ws.length)) r := rfl
theorem mx1_pos (k : Nat) : 0 < mx1 k := by unfold mx1; split <;> omega
theorem fmod_mx (pl : Int) (k : Nat) : pl.fmod (mx1 k) = ((pl.fmod (mx1 k)).toNat : Int) := (Int.toNat_of_nonneg (Int.fmod_nonneg_of_pos _ (mx1_pos k))).symm
theorem kvPut_new {kvs : List (PyData × PyData)} {x : Str} {d : PyData} (h : kvGet kvs x = none) : kvPut kvs x d = kvs ++ [(.str x, d)] := by
 induction kvs with
 | nil => rfl
 | cons p r ih =>
  obtain ⟨q, e⟩ := p
  cases q with
  | str y =>
   rw [kvGet_c] at h
   by_cases e : y = x
   ·rw [if_pos e] at h; cases h
   ·rw [if_neg e] at h
    rw [kvPut_c, if_neg e, ih h]; rfl
  | _ => exact congrArg (List.cons _) (ih h)
theorem kvGet_lex {rs : List LexR} {x : Str} : kvGet (rs.map lexK) x = none ↔ x ∉ rs.map (·.key) := by
 induction rs with
 | nil => simp [kvGet_n]
 | cons r rs ih =>
  simp only [List.map_cons, lexK, kvGet_c, List.mem_cons, not_or]
  by_cases e : r.key = x
  ·rw [if_pos e]; simp [e]
  ·rw [if_neg e]; rw [ih]; exact ⟨fun h => ⟨fun z => e z.symm, h⟩, fun h => h.2⟩
theorem kvGet_last {kvs : List (PyData × PyData)} {x : Str} {d : PyData} (h : kvGet kvs x = none) : kvGet (kvs ++ [(.str x, d)]) x = some d := by
 induction kvs with
 | nil => exact if_pos rfl
 | cons p r ih =>
  obtain ⟨q, e⟩ := p
  cases q with
  | str y =>
   rw [kvGet_c] at h
   by_cases e : y = x
   ·rw [if_pos e] at h; cases h
   ·rw [if_neg e] at h
    rw [List.cons_append, kvGet_c, if_neg e, ih h]
  | _ => exact ih h
section
variable {prog : Program} {w : World}
theorem zip_enc {α β : Type} {f : α -> PyData} {h : β -> PyData} : ∀ {l1 : List α} {l2 : List β}, (zipD (l1.map f) (l2.map h)).map PyData.tuple = (l1.zip l2).map fun y => .tuple [f y.1, h y.2]
 | [], _ => rfl
 | _ :: _, [] => rfl
 | a :: l1, b :: l2 => by
  have := zip_enc (f := f) (h := h) (l1 := l1) (l2 := l2)
  simp only [zipD, List.map_cons, List.zip_cons_cons] at this ⊢
  rw [<- this]
theorem foldl_snoc {α : Type} (l : List α) : ∀ b : List α, l.foldl (fun ps x => ps ++ [x]) b = b ++ l := by
 induction l with
 | nil => intro b; simp
 | cons x l ih => intro b; rw [List.foldl_cons, ih, List.append_assoc]; rfl
theorem lexer_fn {text : Str} (hz : text.length < sizeLine) : FnP prog w 4 112 [.str text] [(107, .tab)] fun r σ' => ∃ x dx p rl, r = .obj x /\ σ' = [(107, .tab), (x, .lex dx p rl 1 [] text.cps.toList)] := fun A c g own s vs hA B S r => by
 apply r.onOne; intro v rv; apply rv.onStr; intro t
 refine codeAny_mono (lexer_spec (own := own) hA B S hz) fun r' s' z => ?_
 obtain ⟨g', x, dx, mx, p, st, rl, vs, k, rfl, hF, hm, hv, S'⟩ := z
 have S2 := lex_close (ps := []) (cs := text.cps.toList) (own := (107, tabP g') :: own) hm hF .nil hv (S'.perm (by walk_at "perm"))
 exact ⟨c, g', .ref x, .obj x, _, rfl, ⟨x, dx, p, rl, rfl, rfl⟩, .grow k, .obj x, S2.perm (List.perm_middle (l₁ := [_, _, _]))⟩
noncomputable def RowsP (σ0 : OwnL) (pl : Int) (l : List (Str × List Str)) (r : PyData) (σ' : OwnL) : Prop :=
 ∃ rs : List LexR, r = .dict (rs.map lexK) /\ σ' = σ0 ++ rs.reverse.map lexO /\ rs.map (fun r => (r.key, r.ps)) = rowsOf pl l /\ ∀ r ∈ rs, r.cs = []
noncomputable def rowsS (ad : Addr) (rs : List LexR) : OwnL := (107, .tab) :: (rs.reverse.map lexO ++ [(ad, .dict (rs.map lexK))])
noncomputable def rowsM (ad : Addr) (r : PyData × PyData) (pl : Int) : AM := [(Str.ofString "rows", AV.ref ad), (Str.ofString "place", .d (.int pl)), (Str.ofString "deeds", AV.d r.1), (Str.ofString "calls", .d r.2)]
noncomputable def RowsI (ad : Addr) (r : PyData × PyData) (pl : Int) (l0 l : List (Str × List Str)) (m : AM) (σ : OwnL) : Prop :=
 ∃ (pl' : Int) (rs : List LexR), m = rowsM ad r pl' /\ σ = rowsS ad rs /\ rs.map (fun r => (r.key, r.ps)) ++ rowsOf pl' l = rowsOf pl l0 /\ (∀ r ∈ rs, r.cs = []) /\ (rs.map (·.key) ++ l.map (·.1)).Nodup /\ (∀ y ∈ l, y.2.length <= 1000) /\ rs.length + l.length <= 100
theorem zip_fst_sub {α β : Type} : ∀ {l1 : List α} {l2 : List β}, ((l1.zip l2).map (·.1)).Sublist l1
 | [], _ => .slnil
 | _ :: _, [] => List.nil_sublist _
 | a :: l1, b :: l2 => (zip_fst_sub (l1 := l1) (l2 := l2)).cons_cons a
theorem rows_fn {calls : List Str} {deeds : List (List Str)} {pl : Int} (hn : calls.Nodup) (hl : calls.length <= 100) (hd : ∀ ws ∈ deeds, ws.length <= 1000) : FnP prog w 10 119 [.list (calls.map .str), .list (deeds.map fun ws => .list (ws.map .str)), .int pl] [(107, .tab)] (RowsP [(107, .tab)] pl (calls.zip deeds)) := by
 refine fnp_of (m0 := [(Str.ofString "place", .d (.int pl)), (Str.ofString "deeds", .d (.list (deeds.map fun ws => .list (ws.map .str)))), (Str.ofString "calls", .d (.list (calls.map .str)))]) (fun w => by k_is) (fun w => by k_is) (len3 fun _ _ _ => rfl) (by decide) (by decide) rfl ?_ rfl rfl rfl
 refine exp_newDict (.inl rfl) fun ad had => ?_
 refine exp_perm (σ' := rowsS ad []) (List.Perm.swap ..) ?_
 generalize hr : (PyData.list (deeds.map fun ws => PyData.list (ws.map PyData.str)), PyData.list (calls.map PyData.str)) = r
 obtain ⟨hr1, hr2⟩ := Prod.mk.inj hr
 rw [hr1, hr2]
 refine exp_forI (calls.zip deeds) (fun (y : Str × List Str) => PyData.tuple [.str y.1, .list (y.2.map .str)]) (RowsI ad r pl (calls.zip deeds)) (it_zip (by walk_at "glb") (fun _ => ⟨rfl, fun _ => rfl⟩) (fun _ => ⟨rfl, fun _ => rfl⟩) (ev_name (congrArg (some ∘ AV.d) hr2.symm)) (ev_name (congrArg (some ∘ AV.d) hr1.symm))) zip_enc ?_ ?_ ?_ (by decide)
 ·clear hr hr1 hr2
  refine ⟨pl, [], rfl, rfl, rfl, (fun _ h => nomatch h), hn.sublist zip_fst_sub, fun y hy => hd _ (List.of_mem_zip hy).2, ?_⟩
  rw [List.length_nil, List.length_zip]; omega
 ·clear hr hr1 hr2 hn hl hd
  rintro ⟨c, ws⟩ l _ _ ⟨pl', rs, rfl, rfl, h1, h2, h3, h4, h5⟩
  have hws : ws.length <= 1000 := h4 _ List.mem_cons_self
  have hsz : ws.length <= sizeLine := by rw [sizeLine_eq]; omega
  have hnot : c ∉ rs.map (·.key) := fun q => by
   rw [List.nodup_append] at h3
   exact h3.2.2 c q c List.mem_cons_self rfl
  have hk := kvGet_lex.mpr hnot
  obtain ⟨t, ht⟩ : ∃ t : Nat, pl'.fmod (mx1 ws.length) = t := ⟨_, fmod_mx _ _⟩
  refine bdp_tup (.cons (.inl rfl) (.cons (.inl rfl) .nil)) ?_
  have e1 : CallB prog w 9 (.builtin "max") [.int 1, .int ((ws.map PyData.str).length : Nat)] (.int (mx1 ws.length)) := by rw [List.length_map]; exact callb_max
  have e2 : mx1 ws.length ≠ 0 /\ (mx1 ws.length).natAbs < 2 ^ 30 := by unfold mx1; split <;> omega
  refine exp_cons (es_unpack (ds := [.int (pl'.fdiv (mx1 ws.length)), .int t]) (ev_callB (by walk_at "glb") (evl_cons (ev_name rfl) (evl_cons (ev_callB (by walk_at "glb") (evl_cons ev_int (evl_cons (ev_callB (by walk_at "glb") (evl_cons (ev_name rfl) evl_nil) (callb_lenL (by rw [List.length_map]; exact hsz))) evl_nil)) e1) evl_nil)) (ht ▸ callb_divmod e2.1 (pyl e2.2))) (.cons (.inl rfl) (.cons (.inl rfl) .nil))) ?_
  clear e1 e2
  refine exp_setDict (ad := ad) (x := c) (evp_callS (σa := [(107, .tab)]) (.refl _) (by walk_at "glf") (evl_cons ev_str evl_nil) (FnP.mono (lexer_fn (by rw [sizeLine_eq]; decide)) (by decide))) ?_
  rintro d σ1 ⟨_, ⟨x, dx, p, rl, rfl, rfl⟩, rfl⟩
  refine ⟨rs.map lexK, _, PutO.last (l := (107, .tab) :: (x, .lex dx p rl 1 [] []) :: rs.reverse.map lexO), by rw [List.length_map, sizeLine_eq]; omega, ev_name rfl, ev_name rfl, ?_⟩
  rw [kvPut_new hk]
  refine exp_pre (m1 := (Str.ofString "call", .d (.str c)) :: (Str.ofString "words", .d (.list (ws.map .str))) :: (Str.ofString "turn", .d (.int t)) :: rowsM ad r (pl'.fdiv (mx1 ws.length))) ?_ (Sub.at (by walk_at "sub"))
  refine exp_cons (es_foldI (enc := PyData.str) (rotL t ws) (fun _ => (Str.ofString "call", .d (.str c)) :: (Str.ofString "words", .d (.list (ws.map .str))) :: (Str.ofString "turn", .d (.int t)) :: rowsM ad r (pl'.fdiv (mx1 ws.length))) (fun ps => (107, .tab) :: (x, .lex dx p rl 1 ps []) :: (rs.reverse.map lexO ++ [(ad, .dict (rs.map lexK ++ [(.str c, .obj x)]))])) (fun ps y => ps ++ [y]) (fun ps l => ps.length + l.length <= 1000) [] (by simp [rotL]; omega)
   (it_list (ev_bin (ev_sliceF (ev_name rfl) (ev_name rfl) (ops_from (by rw [List.length_map]; exact hsz) t)) (ev_sliceT (ev_name rfl) (ev_name rfl) (ops_upto (by rw [List.length_map]; exact hsz) t)) (op_addL (by simp [sizeLine_eq]; omega)))) (by simp [rotL]) (fun ps y l h => by simp at h ⊢; omega) (fun ps y l h => ?_) (by decide)) ?_
  ·refine bd_post (bd_name (.inl rfl) (ex_cons (es_exprX (evx_push (ev_subD (ev_name rfl) (dat_o (d' := .none) (.tail (.tail PutO.last)) had) (ev_name rfl) (kvGet_last hk)) (ev_name rfl) (.tail .head) (by rw [sizeLine_eq]; omega) (by decide))) ex_nil)) (by walk_at "sub")
  ·rw [foldl_snoc, List.nil_append]
   refine exp_end (m' := rowsM ad r (pl'.fdiv (mx1 ws.length))) (by walk_at "sub") ⟨rfl, _, rs ++ [⟨c, x, dx, p, rl, 1, rotL t ws, []⟩], rfl, ?_, ?_, ?_, ?_, ?_, ?_⟩
   ·simp [rowsS, lexO, lexK]
   ·rw [<- h1]; simp [rowsOf_c, ht]
   ·intro r hr
    rcases List.mem_append.mp hr with hr | hr
    ·exact h2 r hr
    ·rw [List.mem_singleton.mp hr]
   ·simpa using h3
   ·exact fun y hy => h4 y (List.mem_cons_of_mem _ hy)
   ·simp at h5 ⊢; omega
 ·rintro _ _ ⟨pl', rs, rfl, rfl, h1, h2, h3, h4, h5⟩
  clear hr hr1 hr2 hn hl hd
  refine exp_freeze (x := Str.ofString "rows") (PickO.last (l := (107, .tab) :: rs.reverse.map lexO)) rfl ?_
  refine exp_ret (Ev.toX (ev_name rfl)) ⟨_, rfl, rs, rfl, rfl, ?_, h2⟩
  rw [<- h1]; simp [rowsOf_n]
end

end
section
noncomputable abbrev PsT := List (Str × List Str)
noncomputable def psT (rs : List LexR) : PsT := rs.map fun r => (r.key, r.ps)
noncomputable def lexSet : List LexR -> Str -> List Str -> List LexR
 | [], _, _ => []
 | r :: rs, x, ps => if r.key = x then { r with ps := ps } :: rs else r :: lexSet rs x ps
theorem lexSet_c {r : LexR} {rs : List LexR} {x : Str} {ps : List Str} : lexSet (r :: rs) x ps = if r.key = x then { r with ps := ps } :: rs else r :: lexSet rs x ps := rfl
theorem lexSet_K (x : Str) (ps : List Str) : ∀ rs, (lexSet rs x ps).map lexK = rs.map lexK
 | [] => rfl
 | r :: rs => by
  rw [lexSet_c]
  split
  ·rfl
  ·rw [List.map_cons, List.map_cons, lexSet_K]
theorem lexSet_cs (x : Str) (ps : List Str) : ∀ rs, (lexSet rs x ps).map (·.cs) = rs.map (·.cs)
 | [] => rfl
 | r :: rs => by
  rw [lexSet_c]
  split
  ·rfl
  ·rw [List.map_cons, List.map_cons, lexSet_cs]
theorem lex_at {x : Str} {ps : List Str} : ∀ {rs : List LexR}, aGet (psT rs) x = some ps -> ∃ r : LexR, kvGet (rs.map lexK) x = some (.obj r.x) /\ r.ps = ps /\ r.cs ∈ rs.map (·.cs) /\ ∀ ps', PutO r.x (.lex r.dx r.p r.rl r.ln ps r.cs) (.lex r.dx r.p r.rl r.ln ps' r.cs) (rs.map lexO) ((lexSet rs x ps').map lexO) /\ psT (lexSet rs x ps') = aPut (psT rs) x ps'
 | [], h => nomatch h
 | r :: rs, h => by
  simp only [psT, List.map_cons, aGet_c] at h
  simp only [List.map_cons, lexK, kvGet_c, lexSet_c, psT, aPut_c]
  by_cases e : r.key = x
  ·rw [if_pos e] at h ⊢
   cases h
   exact ⟨r, rfl, rfl, List.mem_cons_self, fun ps' => by rw [if_pos e, if_pos e]; exact ⟨.head, rfl⟩⟩
  ·rw [if_neg e] at h ⊢
   obtain ⟨r', h1, h2, h3, h4⟩ := lex_at (rs := rs) h
   refine ⟨r', h1, h2, List.mem_cons_of_mem _ h3, fun ps' => ?_⟩
   rw [if_neg e, if_neg e]
   exact ⟨.tail (h4 ps').1, by rw [List.map_cons]; exact congrArg _ (h4 ps').2⟩
theorem aPut_put {α : Type} (x : Str) (a b : α) : ∀ c : List (Str × α), aPut (aPut c x a) x b = aPut c x b
 | [] => if_pos rfl
 | (y, z) :: r => by
  rw [aPut_c, aPut_c]
  by_cases e : y = x
  ·simp [if_pos e, aPut_c]
  ·simp only [if_neg e, aPut_c, aPut_put x a b r]
noncomputable def opens (x : Str) : Bool := decide (Txt.item x 0 = Str.ofString "(")
noncomputable def nestOk (w : Str) (ps las : List Str) (t : Str) : Bool := decide (1 <= w.length /\ w.length <= 100 /\ t.length <= 10000 /\ las.length <= 1000 /\ ps.length <= 1000)
noncomputable def nestR : Nat -> PsT -> List Str -> Str -> Option (PsT × Str)
 | 0, q, las, t => if las = [] then some (q, t) else none
 | k + 1, q, las, t => match las.getLast? with
  | none => none
  | some nm => match aGet q nm with
   | some (w :: ps) => if nestOk w ps las t = true then nestR k (aPut q nm (ps ++ [w])) (if opens w then las ++ [w] else las.dropLast) (t ++ w) else none
   | _ => none
theorem nestR_0 {q : PsT} {las : List Str} {t : Str} : nestR 0 q las t = if las = [] then some (q, t) else none := rfl
theorem nestR_s {k : Nat} {q : PsT} {las : List Str} {t : Str} : nestR (k + 1) q las t = match las.getLast? with
  | none => none
  | some nm => match aGet q nm with
   | some (w :: ps) => if nestOk w ps las t = true then nestR k (aPut q nm (ps ++ [w])) (if opens w then las ++ [w] else las.dropLast) (t ++ w) else none
   | _ => none := rfl
noncomputable def nestM (d : PyData) (first : Str) (las : List Str) (t : Str) : AM := [(Str.ofString "lasting", .d (.list (las.map .str))), (Str.ofString "text", .d (.str t)), (Str.ofString "first", .d (.str first)), (Str.ofString "rows", .d d)]
theorem stb_all {sc : Sc} {ns : List Str} (h : (ns.all fun x => sc.names.lookup x == some .local || (sc.names.lookup x == some .cell && sc.own.contains x)) = true) : ∀ x ∈ ns, Stb sc x := fun x hx => by
 have := List.all_eq_true.mp h x hx
 simp only [Bool.or_eq_true, Bool.and_eq_true, beq_iff_eq, List.contains_iff_mem] at this
 exact this
noncomputable def NestP (rs : List LexR) (q : PsT) (t : Str) (r : PyData) (σ' : OwnL) : Prop := ∃ rs', r = .str t /\ σ' = rs'.map lexO /\ psT rs' = q /\ rs'.map lexK = rs.map lexK /\ rs'.map (·.cs) = rs.map (·.cs)
section
variable {prog : Program} {w : World} {n : Nat} {sc : Sc} {m : AM} {σ : OwnL} {ad : Addr} {nm : Str} {p1 p2 p3 p4 p5 p6 : Pos}
theorem ev_neg1 {kk : Nat} : Ev prog w n sc m σ (.UnaryOp .USub (.Constant (.int 1) kk p3) p4) (.d (.int (-1))) := ev_neg ev_int
theorem ev_rowLast {K : List (PyData × PyData)} {las : List Str} {kk : Nat} (h1 : m.lookup (Str.ofString "rows") = some (.d (.dict K))) (h2 : m.lookup (Str.ofString "lasting") = some (.d (.list (las.map .str)))) (hl : las.getLast? = some nm) (hk : kvGet K nm = some (.obj ad)) (hz : las.length <= 1000) :
  Ev prog w n sc m σ (.Subscript (.Name "rows" p1) (.Subscript (.Name "lasting" p2) (.UnaryOp .USub (.Constant (.int 1) kk p3) p4) p5) p6) (.d (.obj ad)) := by
 obtain ⟨l, rfl⟩ := List.getLast?_eq_some_iff.mp hl
 rw [List.length_append] at hz
 have hz : l.length + 1 <= 1000 := hz
 refine ev_sub (ev_name h1) (ev_sub (ev_name h2) ev_neg1 (opi_listNeg (d := .str nm) (by decide) ?_ (by decide) ?_)) (opi_dict hk)
 ·rw [List.length_map, List.length_append, List.length_singleton]; omega
 ·rw [List.length_map, List.length_append, List.length_singleton, show (-1 + ((l.length + 1 : Nat) : Int)).toNat = l.length by omega]; simp
end
section
variable {prog : Program} {w : World}
set_option tactic.hygienic true in
theorem nest_fn {rs : List LexR} {first t : Str} {q : PsT} {k : Nat} (hc : ∀ r ∈ rs, r.cs = []) (h : nestR k (psT rs) [first] first = some (q, t)) : FnP prog w 9 126 [.dict (rs.map lexK), .str first] (rs.map lexO) (NestP rs q t) := by
 refine fnp_of (m0 := [(Str.ofString "first", .d (.str first)), (Str.ofString "rows", .d (.dict (rs.map lexK)))]) (fun w => by k_is) (fun w => by k_is) (len2 fun _ _ => rfl) (by decide) (by decide) rfl ?_ rfl rfl rfl
 refine exp_swapL [Str.ofString "text", Str.ofString "lasting"] (KL := fun as σ' => as = [.d (.str first), .d (.list [.str first])] /\ σ' = rs.map lexO) (evls_cons (P := fun d σ' => d = .str first /\ σ' = rs.map lexO) (Ev.toP (ev_name rfl) ⟨rfl, rfl⟩) fun d σ1 z => by
  obtain ⟨rfl, rfl⟩ := z
  exact evls_cons (P := fun d σ' => d = .list [.str first] /\ σ' = rs.map lexO) (Ev.toP (ev_list (evl_cons (ev_name rfl) evl_nil) (sz_le rfl)) ⟨rfl, rfl⟩) fun d σ1 z => by obtain ⟨rfl, rfl⟩ := z; exact evls_nil ⟨rfl, rfl⟩) (stb_all rfl) (fun as σ' z => by rw [z.1]; rfl) (fun as σ' z => ?_) (by decide)
 obtain ⟨rfl, rfl⟩ := z
 refine exp_pre (m1 := nestM (.dict (rs.map lexK)) first [first] first) ?_ (Sub.at (by walk_at "sub"))
 have hcs : ∀ c ∈ rs.map (·.cs), c = [] := by simpa using hc
 unfold NestP
 generalize hC : rs.map (·.cs) = C at hcs ⊢
 generalize hK : rs.map lexK = K at hcs ⊢
 clear hc
 refine exp_consP (esp_while (k := k) (K := fun fl m1 σ1 => fl = .next /\ ∃ rs', m1 = nestM (.dict K) first [] t /\ σ1 = rs'.map lexO /\ psT rs' = q /\ rs'.map lexK = K /\ rs'.map (·.cs) = C) ?_) (fun m1 σ1 z => ?_) fun _ _ _ hn z => absurd z.1 hn
 ·refine (?_ : ∀ k (rs : List LexR) las t0, nestR k (psT rs) las t0 = some (q, t) -> rs.map lexK = K -> rs.map (·.cs) = C -> WlP prog w 8 _ _ _ _ k (nestM (.dict K) first las t0) (rs.map lexO)) k rs [first] first h hK hC
  clear h hK hC
  intro k
  induction k with
  | zero =>
   intro rs las t0 h hK hC
   rw [nestR_0] at h
   split at h
   ·rename_i e
    cases h; subst e
    exact ⟨evt_cmp (ev_name rfl) (ev_list evl_nil (sz_le rfl)) (op_neL (u := 0) (.list rfl fun _ _ _ z => nomatch z) (by decide)), rfl, rs, rfl, rfl, rfl, hK, hC⟩
   ·cases h
  | succ k ih =>
   intro rs las t0 h hK hC
   rw [nestR_s] at h
   split at h
   ·cases h
   rename_i nm hnm
   split at h
   case h_2 => cases h
   rename_i wd ps hget
   split at h
   case isFalse => cases h
   rename_i hok
   simp only [nestOk, decide_eq_true_eq] at hok
   obtain ⟨o1, o2, o3, o4, o5⟩ := hok
   obtain ⟨r, k1, _, k2, k3⟩ := lex_at hget
   obtain ⟨P1, e1⟩ := k3 ps
   have hget2 : aGet (psT (lexSet rs nm ps)) nm = some ps := by rw [e1, aGet_put, if_pos rfl]
   obtain ⟨r2, j1, _, j2, j3⟩ := lex_at hget2
   obtain ⟨P2, e2⟩ := j3 (ps ++ [wd])
   rw [hK] at k1
   rw [lexSet_K, hK] at j1
   rw [lexSet_cs, hC] at j2
   rw [hC] at k2
   rw [e1, aPut_put] at e2
   have hne : las ≠ [] := by rintro rfl; cases hnm
   have hz : ∀ {j : Nat}, j <= 20000 -> j <= sizeLine := fun h => by rw [sizeLine_eq]; omega
   have hz' : ∀ {j : Nat}, j <= 20000 -> j < sizeLine := fun h => by rw [sizeLine_eq]; omega
   refine ⟨evt_cmp (ev_name rfl) (ev_list evl_nil (sz_le rfl)) (op_neLl (by simpa using hne)), ?_⟩
   refine exp_cons (es_setX (d := .str wd) (evx_get (ev_rowLast rfl rfl hnm k1 o4) P1 (hz' (by rw [List.length_cons]; omega)) (by rw [hcs _ k2]; exact hz' (by decide)) (by decide)) (.inl rfl)) ?_
   refine exp_cons (es_exprX (evx_push (ev_rowLast rfl rfl hnm j1 o4) (ev_name rfl) P2 (hz' (by omega)) (by decide))) ?_
   clear P1 P2 j3 k3 e1
   refine exp_cons (es_set (a := .d (.list ((if opens wd = true then las ++ [wd] else las.dropLast).map .str))) (ev_ifexp (b := opens wd) (evt_cmp (ev_sub (ev_name rfl) ev_int (opi_str (by omega) (by omega) (by decide))) ev_str op_eqS) (fun h => ?_) fun h => ?_) (.inl rfl)) ?_
   ·rw [if_pos h, List.map_append]
    exact ev_bin (ev_name rfl) (ev_list (evl_cons (ev_name rfl) evl_nil) (sz_le rfl)) (op_addL (by rw [List.length_map]; exact hz (by simp; omega)))
   ·rw [if_neg (by rw [h]; decide)]
    have := ops_but (prog := prog) (w := w) (n := 8) (xs := las.map PyData.str) (by rw [List.length_map]; exact hz (by omega)) 1 (Nat.le_refl _)
    rw [<- List.dropLast_eq_take, <- List.map_dropLast] at this
    exact ev_sliceT (ev_name rfl) ev_neg1 this
   refine exp_cons (es_aug rfl (ev_name rfl) (op_iaddS (hz (by omega))) rfl) ?_
   refine exp_end (m' := nestM (.dict K) first (if opens wd = true then las ++ [wd] else las.dropLast) (t0 ++ wd)) (by walk_at "sub") ⟨rfl, ih _ _ _ (e2 ▸ h) ?_ ?_⟩
   ·rw [lexSet_K, lexSet_K, hK]
   ·rw [lexSet_cs, lexSet_cs, hC]
 ·obtain ⟨_, rs', rfl, rfl, h1, h2, h3⟩ := z
  exact exp_ret (Ev.toX (ev_name rfl)) ⟨_, rfl, rs', rfl, rfl, h1, h2, h3⟩
end

end
section
noncomputable def tl1 (x : Str) : Str := Txt.slice x (some 1) none
noncomputable def lineOk (nm w : Str) (ps qu : List Str) (prs : Prs) : Bool := decide (nm ≠ Str.ofString "" /\ 1 <= w.length /\ w.length <= 100 /\ nm.length <= 100 /\ ps.length <= 1000 /\ qu.length <= 1000 /\ prs.length <= 1000)
noncomputable def lineR : Nat -> PsT -> List Str -> Str -> Prs -> Option (PsT × Prs)
 | 0, q, qu, nm, prs => if nm = Str.ofString "" /\ qu = [] then some (q, prs) else none
 | k + 1, q, qu, nm, prs => match aGet q nm with
   | some (w :: ps) => if lineOk nm w ps qu prs = true then
     match (if opens w = true then qu ++ [w, nm] else qu) with
     | [] => lineR k (aPut q nm (ps ++ [w])) [] (Str.ofString "") (if opens w = true then prs ++ [(tl1 nm, tl1 w)] else prs)
     | y :: qu' => lineR k (aPut q nm (ps ++ [w])) qu' y (if opens w = true then prs ++ [(tl1 nm, tl1 w)] else prs)
    else none
   | _ => none
theorem lineR_0 {q : PsT} {qu : List Str} {nm : Str} {prs : Prs} : lineR 0 q qu nm prs = if nm = Str.ofString "" /\ qu = [] then some (q, prs) else none := rfl
theorem lineR_s {k : Nat} {q : PsT} {qu : List Str} {nm : Str} {prs : Prs} : lineR (k + 1) q qu nm prs = match aGet q nm with
   | some (w :: ps) => if lineOk nm w ps qu prs = true then
     match (if opens w = true then qu ++ [w, nm] else qu) with
     | [] => lineR k (aPut q nm (ps ++ [w])) [] (Str.ofString "") (if opens w = true then prs ++ [(tl1 nm, tl1 w)] else prs)
     | y :: qu' => lineR k (aPut q nm (ps ++ [w])) qu' y (if opens w = true then prs ++ [(tl1 nm, tl1 w)] else prs)
    else none
   | _ => none := rfl
noncomputable def lineM (d : PyData) (xl ad : Addr) (first nm : Str) : AM := [(Str.ofString "name", .d (.str nm)), (Str.ofString "pairs", .ref ad), (Str.ofString "first", .d (.str first)), (Str.ofString "rows", .d d), (Str.ofString "line", .d (.obj xl))]
noncomputable def lexL (l : LexR) (qu : List Str) : Addr × PyData := (l.x, .lex l.dx l.p l.rl l.ln qu [])
noncomputable def LineP (l : LexR) (rs : List LexR) (q : PsT) (prs : Prs) (r : PyData) (σ' : OwnL) : Prop := ∃ rs', r = .list (prs.map prD) /\ σ' = lexL l [] :: rs'.map lexO /\ psT rs' = q /\ rs'.map lexK = rs.map lexK /\ rs'.map (·.cs) = rs.map (·.cs)
theorem getD_end (l : LexR) : getD l.ln [] [] = (Str.ofString "", l.ln, [], []) := by
 show (strOf [], l.ln + nl [] - nl [], _, _) = _
 rw [show l.ln + nl [] - nl [] = l.ln by omega]; rfl
section
variable {prog : Program} {w : World}
set_option tactic.hygienic true in
theorem line_fn {l : LexR} {rs : List LexR} {first : Str} {prs : Prs} {q : PsT} {k : Nat} (hf : first.length <= 100) (hc : ∀ r ∈ rs, r.cs = []) (h : lineR k (psT rs) [] first [(Str.ofString "", tl1 first)] = some (q, prs)) :
  FnP prog w 9 133 [.obj l.x, .dict (rs.map lexK), .str first] (lexL l [] :: rs.map lexO) (LineP l rs q prs) := by
 refine fnp_of (m0 := [(Str.ofString "first", .d (.str first)), (Str.ofString "rows", .d (.dict (rs.map lexK))), (Str.ofString "line", .d (.obj l.x))]) (fun w => by k_is) (fun w => by k_is) (len3 fun _ _ _ => rfl) (by decide) (by decide) rfl ?_ rfl rfl rfl
 have hz : ∀ {j : Nat}, j <= 20000 -> j <= sizeLine := fun h => by rw [sizeLine_eq]; omega
 have hz' : ∀ {j : Nat}, j <= 20000 -> j < sizeLine := fun h => by rw [sizeLine_eq]; omega
 refine exp_swapL [Str.ofString "pairs", Str.ofString "name"] (KL := fun as σ' => ∃ ad, as = [.d (.obj ad), .d (.str first)] /\ σ' = (ad, .list (([(Str.ofString "", tl1 first)] : Prs).map prD)) :: lexL l [] :: rs.map lexO) (evls_cons (P := fun d σ' => ∃ ad, d = .obj ad /\ σ' = (ad, .list (([(Str.ofString "", tl1 first)] : Prs).map prD)) :: lexL l [] :: rs.map lexO) (evp_listO (evl_cons (ev_tuple (evl_cons ev_str (evl_cons (ev_sliceF (ev_name rfl) ev_int (ops_str (hz (by omega)))) evl_nil)) (sz_le rfl)) evl_nil) (sz_le rfl) fun ad => ⟨ad, rfl, rfl⟩) fun d σ1 z => by
  obtain ⟨ad, rfl, rfl⟩ := z
  exact evls_cons (P := fun d σ' => d = .str first /\ σ' = _) (Ev.toP (ev_name rfl) ⟨rfl, rfl⟩) fun d σ1 z => by obtain ⟨rfl, rfl⟩ := z; exact evls_nil ⟨ad, rfl, rfl⟩) (stb_all rfl) (fun as σ' z => by obtain ⟨ad, rfl, _⟩ := z; rfl) (fun as σ' z => ?_) (by decide)
 obtain ⟨ad, rfl, rfl⟩ := z
 refine exp_ref (x := Str.ofString "pairs") rfl ?_
 refine exp_pre (m1 := lineM (.dict (rs.map lexK)) l.x ad first first) ?_ (Sub.at (by walk_at "sub"))
 have hcs : ∀ c ∈ rs.map (·.cs), c = [] := by simpa using hc
 unfold LineP
 generalize hC : rs.map (·.cs) = C at hcs ⊢
 generalize hK : rs.map lexK = K at hcs ⊢
 clear hc
 refine exp_consP (esp_while (k := k) (K := fun fl m1 σ1 => fl = .next /\ ∃ rs', m1 = lineM (.dict K) l.x ad first (Str.ofString "") /\ σ1 = (ad, .list (prs.map prD)) :: lexL l [] :: rs'.map lexO /\ psT rs' = q /\ rs'.map lexK = K /\ rs'.map (·.cs) = C) ?_) (fun m1 σ1 z => ?_) fun _ _ _ hn z => absurd z.1 hn
 ·refine (?_ : ∀ k (rs : List LexR) qu nm ps, lineR k (psT rs) qu nm ps = some (q, prs) -> rs.map lexK = K -> rs.map (·.cs) = C -> WlP prog w 8 _ _ _ _ k (lineM (.dict K) l.x ad first nm) ((ad, .list (ps.map prD)) :: lexL l qu :: rs.map lexO)) k rs [] first _ h hK hC
  clear h hK hC
  intro k
  induction k with
  | zero =>
   intro rs qu nm ps h hK hC
   rw [lineR_0] at h
   split at h
   ·rename_i e
    obtain ⟨rfl, rfl⟩ := e
    cases h
    exact ⟨evt_cmp (ev_name rfl) ev_str (by have := op_neS (prog := prog) (w := w) (n := 8) (σ := (ad, .list (prs.map prD)) :: lexL l [] :: rs.map lexO) (x := Str.ofString "") (y := Str.ofString ""); simpa using this), rfl, rs, rfl, rfl, rfl, hK, hC⟩
   ·cases h
  | succ k ih =>
   intro rs qu nm prs' h hK hC
   rw [lineR_s] at h
   split at h
   case h_2 => cases h
   rename_i wd ps hget
   split at h
   case isFalse => cases h
   rename_i hok
   simp only [lineOk, decide_eq_true_eq] at hok
   obtain ⟨o0, o1, o2, o3, o4, o5, o6⟩ := hok
   obtain ⟨r, k1, _, k2, k3⟩ := lex_at hget
   obtain ⟨P1, e1⟩ := k3 ps
   have hget2 : aGet (psT (lexSet rs nm ps)) nm = some ps := by rw [e1, aGet_put, if_pos rfl]
   obtain ⟨r2, j1, _, j2, j3⟩ := lex_at hget2
   obtain ⟨P2, e2⟩ := j3 (ps ++ [wd])
   rw [hK] at k1
   rw [lexSet_K, hK] at j1
   rw [lexSet_cs, hC] at j2
   rw [hC] at k2
   rw [e1, aPut_put] at e2
   have hK2 : (lexSet (lexSet rs nm ps) nm (ps ++ [wd])).map lexK = K := by rw [lexSet_K, lexSet_K, hK]
   have hC2 : (lexSet (lexSet rs nm ps) nm (ps ++ [wd])).map (·.cs) = C := by rw [lexSet_cs, lexSet_cs, hC]
   refine ⟨evt_cmp (ev_name rfl) ev_str (by have := op_neS (prog := prog) (w := w) (n := 8) (σ := (ad, .list (prs'.map prD)) :: lexL l qu :: rs.map lexO) (x := nm) (y := Str.ofString ""); rw [decide_eq_false o0] at this; exact this), ?_⟩
   refine exp_cons (es_setX (d := .str wd) (evx_get (ev_sub (ev_name rfl) (ev_name rfl) (opi_dict k1)) (.tail (.tail P1)) (hz' (by rw [List.length_cons]; omega)) (by rw [hcs _ k2]; exact hz' (by decide)) (by decide)) (.inl rfl)) ?_
   refine exp_cons (es_exprX (evx_push (ev_sub (ev_name rfl) (ev_name rfl) (opi_dict j1)) (ev_name rfl) (.tail (.tail P2)) (hz' (by omega)) (by decide))) ?_
   clear P1 P2 j3 k3 e1 hget2 hget k1 j1 k2 j2
   generalize lexSet (lexSet rs nm ps) nm (ps ++ [wd]) = rs2 at e2 hK2 hC2 ⊢
   refine exp_cons (m1 := (Str.ofString "word", .d (.str wd)) :: lineM (.dict K) l.x ad first nm) (σ1 := (ad, .list ((if opens wd = true then prs' ++ [(tl1 nm, tl1 wd)] else prs').map prD)) :: lexL l (if opens wd = true then qu ++ [wd, nm] else qu) :: rs2.map lexO) (es_if (b := opens wd) (evt_cmp (ev_sub (ev_name rfl) ev_int (opi_str (by omega) (by omega) (by decide))) ev_str op_eqS) (fun hb => ?_) fun hb => ?_) ?_
   ·rw [if_pos hb, if_pos hb]
    refine ex_cons (es_append rfl .head (ev_tuple (evl_cons (ev_sliceF (ev_name rfl) ev_int (ops_str (hz (by omega)))) (evl_cons (ev_sliceF (ev_name rfl) ev_int (ops_str (hz (by omega)))) evl_nil)) (sz_le rfl)) (by rw [List.length_map]; exact hz (by omega))) ?_
    refine ex_cons (es_exprX (evx_push (ev_name rfl) (ev_name rfl) (.tail .head) (hz' (by omega)) (by decide))) ?_
    refine ex_cons (es_exprX (evx_push (ev_name rfl) (ev_name rfl) (.tail .head) (hz' (by simp; omega)) (by decide))) ?_
    rw [List.append_assoc, List.map_append]
    exact ex_nil
   ·rw [if_neg (by rw [hb]; decide), if_neg (by rw [hb]; decide)]
    exact ex_nil
   have hlq : (if opens wd = true then qu ++ [wd, nm] else qu).length <= 2000 := by split <;> (try simp) <;> omega
   generalize (if opens wd = true then qu ++ [wd, nm] else qu) = qu2 at h hlq ⊢
   generalize (if opens wd = true then prs' ++ [(tl1 nm, tl1 wd)] else prs') = prs2 at h ⊢
   cases qu2 with
   | nil =>
    have P : PutO l.x (.lex l.dx l.p l.rl l.ln [] []) (.lex l.dx l.p l.rl (getD l.ln [] []).2.1 (getD l.ln [] []).2.2.1 (getD l.ln [] []).2.2.2) ((ad, .list (prs2.map prD)) :: lexL l [] :: rs2.map lexO) ((ad, .list (prs2.map prD)) :: lexL l [] :: rs2.map lexO) := by rw [getD_end]; exact .tail .head
    refine exp_cons (es_setX (d := .str (Str.ofString "")) (congrArg Prod.fst (getD_end l) ▸ evx_get (ev_name rfl) P (hz' (Nat.zero_le _)) (hz' (Nat.zero_le _)) (by decide)) (.inl rfl)) ?_
    exact exp_end (m' := lineM (.dict K) l.x ad first (Str.ofString "")) (by walk_at "sub") ⟨rfl, ih _ _ _ _ (e2 ▸ h) hK2 hC2⟩
   | cons y qu3 =>
    refine exp_cons (es_setX (d := .str y) (evx_get (ps := y :: qu3) (cs := []) (σ' := (ad, .list (prs2.map prD)) :: lexL l qu3 :: rs2.map lexO) (ev_name rfl) (.tail .head) (hz' (Nat.le_trans hlq (by decide))) (hz' (Nat.zero_le _)) (by decide)) (.inl rfl)) ?_
    exact exp_end (m' := lineM (.dict K) l.x ad first y) (by walk_at "sub") ⟨rfl, ih _ _ _ _ (e2 ▸ h) hK2 hC2⟩
 ·obtain ⟨_, rs', rfl, rfl, h1, h2, h3⟩ := z
  refine exp_freeze (x := Str.ofString "pairs") .head rfl ?_
  exact exp_ret (Ev.toX (ev_name rfl)) ⟨_, rfl, rs', rfl, rfl, h1, h2, h3⟩
end

end
section
noncomputable abbrev Rows := List (List Str)
noncomputable def lwStep (cs : List Int) (y : Int × Nat) : List Int := cs.set (y.2 % 7) (cs.getD (y.2 % 7) 0 + y.1.fmod 1000003)
noncomputable def lwCells (is : List Int) : List Int := (is.take 60).zipIdx.foldl lwStep [12, 163, 93, 16, 114, 271828, 1202]
noncomputable def lwMarks : List Str := [Str.ofString "\\(", Str.ofString "\\)", Str.ofString "\\\"", Str.ofString "\\\\"]
noncomputable def lwRems : List Str := [Str.ofString "", Str.ofString "\"(\"", Str.ofString "\"(\"\")\"", Str.ofString "\"\\\")\""]
noncomputable def lwPick (l : List Str) (k : Int) : Str := l.getD (k.fmod 4).toNat (Str.ofString "")
noncomputable def lwCall (c4 : Int) (k : Nat) : Str := Str.ofString "(" ++ lwPick lwMarks (c4 + k)
noncomputable def lwEnd (c4 : Int) (k : Nat) : Str := Str.ofString ")" ++ lwPick lwRems (c4.fdiv (4 ^ (k + 1)))
noncomputable def lwCalls (c4 : Int) : List Str := (List.range 3).map (lwCall c4)
noncomputable def lwEnds (c4 : Int) : List Str := (List.range 3).map (lwEnd c4)
noncomputable def lwIns (l : List Str) (i : Nat) (x : Str) : List Str := l.take i ++ [x] ++ l.drop i
noncomputable def lwSpot (c : Int) (k : Nat) : Nat := (c.fmod ((k : Int) + 1)).toNat
noncomputable def lwCaller (D : Rows) (c : Int) : Nat := if D.getD (c.fmod 3).toNat [] = [] /\ (c.fdiv 3).fmod 4 > 0 then 0 else (c.fmod 3).toNat
noncomputable def lwCallee (c : Int) : Nat := ((c.fdiv 3).fmod 3).toNat
noncomputable def lwPut (D : Rows) (i : Nat) (c : Int) (x : Str) : Rows := D.set i (lwIns (D.getD i []) (lwSpot c (D.getD i []).length) x)
noncomputable def lwDeed (calls ends : List Str) (st : Rows × Prs) (c : Int) : Rows × Prs :=
 (lwPut (lwPut st.1 (lwCaller st.1 c) (c.fdiv 9) (calls.getD (lwCallee c) (Str.ofString ""))) (lwCallee c) (c.fdiv 81) (ends.getD (lwCallee c) (Str.ofString "")),
 st.2 ++ [(tl1 (calls.getD (lwCaller st.1 c) (Str.ofString "")), tl1 (calls.getD (lwCallee c) (Str.ofString "")))])
noncomputable def lwDeeds (n : Nat) (cs : List Int) : Rows × Prs :=
 (cs.take (if n > 3 then 4 else 3)).foldl (lwDeed (lwCalls (cs.getD 4 0)) (lwEnds (cs.getD 4 0))) ([[lwEnd (cs.getD 4 0) 0], [], []], [(Str.ofString "", tl1 (lwCall (cs.getD 4 0) 0))])
noncomputable def lwAll (D : Rows) : List Str := D.getD 0 [] ++ D.getD 1 [] ++ D.getD 2 []
noncomputable def lwWay (c5 : Int) (place : Nat) : Nat := ((c5.fdiv (3 ^ place)).fmod 16).toNat
noncomputable def lwEsc (way c : Nat) : Bool := way % 2 == 1 || (c == 92 || (c == 34 && decide (way % 4 > 1)))
noncomputable def lwSign (way c : Nat) : Str := if lwEsc way c then strOf [92, c] else strOf [c]
noncomputable def lwShown (way : Nat) (x : Str) : Str := Txt.join (Str.ofString "") (x.cps.toList.map (lwSign way))
noncomputable def lwWord (way : Nat) (x : Str) : Str := (if way % 4 > 1 then Str.ofString "\"" ++ lwShown way x ++ Str.ofString "\"" else lwShown way x) ++ Txt.item (Str.ofString "\n\t\r ") ((way / 4 : Nat) : Int)
noncomputable def lwText (c5 : Int) (ws : List Str) : Str := ws.zipIdx.foldl (fun t y => t ++ lwWord (lwWay c5 y.2) y.1) (Str.ofString "")
noncomputable def lwCut (c5 : Int) (t : Str) : Str := Txt.slice t none (some ((t.length : Int) - c5.fmod 2))

end
section
noncomputable abbrev hdSc {n bd : Str} {a : Arguments} {b : List Stmt} {d : List Expr} {r : Option Expr} {tp : List TypeParam} {sc : Scope} {ts : Option Scope} {ps : Pos} (s : Stmt) (_ : s = .FunctionDef n a b d r tp sc ts bd ps) : Sc := ⟨sc, cellNames sc.names⟩
noncomputable def lawSc : Sc := hdSc (hdS 18) rfl
noncomputable abbrev hdBd {n bd : Str} {a : Arguments} {b : List Stmt} {d : List Expr} {r : Option Expr} {tp : List TypeParam} {sc : Scope} {ts : Option Scope} {ps : Pos} (s : Stmt) (_ : s = .FunctionDef n a b d r tp sc ts bd ps) : List Stmt := b
noncomputable def lawB : List Stmt := hdBd (hdS 18) rfl
theorem fmod_nat {a b : Int} (hb : 0 < b) : a.fmod b = ((a.fmod b).toNat : Int) := (Int.toNat_of_nonneg (Int.fmod_nonneg_of_pos _ hb)).symm
theorem fmod_lt' {a : Int} {k : Nat} (hk : 0 < k) : (a.fmod k).toNat < k := by
 have := Int.fmod_lt_of_pos a (b := (k : Int)) (by omega)
 have := Int.fmod_nonneg_of_pos a (b := (k : Int)) (by omega)
 omega
theorem getD_at {α β : Type} {f : α -> β} {l : List α} {i : Nat} {z : α} (h : i < l.length) : (l.map f)[i]? = some (f (l.getD i z)) := by
 rw [List.getElem?_map, List.getD_eq_getElem?_getD, List.getElem?_eq_getElem h]; rfl
section
variable {prog : Program} {w : World} {n : Nat} {sc : Sc} {m : AM} {σ : OwnL} {e1 e2 : Expr} {xs : List PyData} {pos : Pos}
theorem op_eqNil : Op2 prog w n σ (compareOp .Eq) (.d (.list xs)) (.d (.list [])) (.d (.bool xs.isEmpty)) := fun A c g F m rest s E Q v1 v2 hA B S r1 r2 q => by
 cases xs with
 | nil => exact op_eqD (u := 1) (.plain (.list rfl fun _ _ _ z => by simp at z)) (by decide) A c g F m rest s E Q v1 v2 hA B S r1 r2 q
 | cons x xs =>
  obtain ⟨L, S0⟩ := S.base
  apply r1.onList; intro a n1 vs e1 h1
  apply r2.onList; intro b n2 us e2 h2
  exact SeqAt.RcAt.lists_lengths (A := A) (s := s) (l := a) (b := b) (items := vs.toArray) (items2 := us.toArray) ⟨_, S0.keep _ _ e1, rfl, n1, rfl⟩ ⟨_, S0.keep _ _ e2, rfl, n2, rfl⟩ (by simp [h1.len, h2.len]) hA.units prog w E Q (q c g _ s .rfl (.bool _) S)
theorem ev_at {α : Type} {f : α -> PyData} {l : List α} {k : Int} (z : α) (h1 : Ev prog w n sc m σ e1 (.d (.list (l.map f)))) (h2 : Ev prog w n sc m σ e2 (.d (.int k))) (h0 : 0 <= k) (hl : k.toNat < l.length) (hz : l.length <= 100000) (hs : autoParam (∀ o k, subscripted e2 false o k = operate [o, k] (getItem o k)) auI2) : Ev prog w n sc m σ (.Subscript e1 e2 pos) (.d (f (l.getD k.toNat z))) :=
 ev_sub h1 h2 (opi_list h0 (by omega) (getD_at hl)) hs
end
section
variable {prog : Program} {w : World} {n : Nat} {sc : Sc} {m : AM} {σ : OwnL} {e1 e2 : Expr} {pos : Pos}
theorem ev_atN {α : Type} {f : α -> PyData} {l : List α} {k : Nat} (z : α) (h1 : Ev prog w n sc m σ e1 (.d (.list (l.map f)))) (h2 : Ev prog w n sc m σ e2 (.d (.int (k : Int)))) (hl : k < l.length) (hz : l.length <= 100000) (hs : autoParam (∀ o k, subscripted e2 false o k = operate [o, k] (getItem o k)) auI2) : Ev prog w n sc m σ (.Subscript e1 e2 pos) (.d (f (l.getD k z))) := ev_at z h1 h2 (by omega) (by omega) hz hs
end
noncomputable def lawM0 (is : List Int) : AM := [(Str.ofString "script", .d (.list (is.map .int)))]
noncomputable def lawMc (is : List Int) (cs : List Int) : AM := (Str.ofString "cells", .d (.list (cs.map .int))) :: lawM0 is
theorem lwStep_len (cs : List Int) (y : Int × Nat) : (lwStep cs y).length = cs.length := List.length_set ..
theorem lwCells_len (is : List Int) : (lwCells is).length = 7 := by
 have : ∀ (l : List (Int × Nat)) (cs : List Int), (l.foldl lwStep cs).length = cs.length := fun l => by
  induction l with
  | nil => intro cs; rfl
  | cons y l ih => intro cs; rw [List.foldl_cons, ih, lwStep_len]
 exact this _ _
section
variable {prog : Program} {w : World} {K : Fl -> AM -> OwnL -> Prop}
theorem law0 {is : List Int} (hl : is.length <= 1000) (k : ExP prog w 29 lawSc (lawMc is (lwCells is)) [(107, .tab)] (lawB.drop 2) K) : ExP prog w 29 lawSc (lawM0 is) [(107, .tab)] lawB K := by
 refine exp_setP (evp_listO (P := fun d σ' => ∃ ac, d = .obj ac /\ σ' = (ac, .list (([12, 163, 93, 16, 114, 271828, 1202] : List Int).map .int)) :: [(107, .tab)]) (evl_cons ev_int (evl_cons ev_int (evl_cons ev_int (evl_cons ev_int (evl_cons ev_int (evl_cons ev_int (evl_cons ev_int evl_nil))))))) (sz_le rfl) fun ad => ⟨ad, rfl, rfl⟩) (.inr ⟨rfl, by decide⟩) ?_
 rintro d σ' ⟨ac, rfl, rfl⟩
 refine exp_ref (x := Str.ofString "cells") rfl (exp_pre (m1 := (Str.ofString "cells", .ref ac) :: lawM0 is) ?_ (Sub.at (by walk_at "sub")))
 refine exp_cons (es_foldI (enc := fun (y : Int × Nat) => PyData.tuple [.int (y.2 : Int), .int y.1]) (is.take 60).zipIdx (fun _ => (Str.ofString "cells", .ref ac) :: lawM0 is) (fun cs => (ac, .list (cs.map .int)) :: [(107, .tab)]) lwStep (fun cs _ => cs.length = 7) [12, 163, 93, 16, 114, 271828, 1202] rfl
  (it_enum (by walk_at "glb") (fun _ => ⟨rfl, fun _ => rfl⟩) (ev_sliceT (k := 60) (ev_name rfl) ev_int (ops_upto (by rw [List.length_map, sizeLine_eq]; omega) 60))) ?_ (fun cs y l h => by rw [lwStep_len]; exact h) (fun cs y l h => ?_) (by decide)) ?_
 ·rw [<- List.map_take, enumD, List.zipIdx_map, List.map_map, List.map_map]; rfl
 ·have e1 : ((y.2 : Int).fmod 7).toNat = y.2 % 7 := by rw [Int.fmod_eq_emod_of_nonneg _ (by decide)]; omega
  have e2 : (0 : Int) <= (y.2 : Int).fmod 7 := Int.fmod_nonneg_of_pos _ (by decide)
  have e3 : (y.2 : Int).fmod 7 < 2 ^ 63 := by have := Int.fmod_lt_of_pos (y.2 : Int) (b := 7) (by decide); omega
  have e4 : (cs.map PyData.int)[((y.2 : Int).fmod 7).toNat]? = some (.int (cs.getD (y.2 % 7) 0)) := by rw [e1]; exact getD_at (by omega)
  have e5 : (lwStep cs y).map PyData.int = (cs.map PyData.int).set ((y.2 : Int).fmod 7).toNat (.int (cs.getD (y.2 % 7) 0 + y.1.fmod 1000003)) := by rw [e1, <- List.map_set]; rfl
  rw [e5]
  exact bd_post (bd_tup (.cons (.inl rfl) (.cons (.inl rfl) .nil)) (ex_cons (es_augOwn .head (ev_name rfl) (ev_bin (ev_name rfl) ev_int (op_mod (by decide))) e4 (ev_bin (ev_name rfl) ev_int (op_mod (by decide))) op_iadd e2 e3) ex_nil)) (by walk_at "sub")
 ·exact exp_freeze (x := Str.ofString "cells") .head rfl (exp_pre k (Sub.at (by walk_at "sub")))
end
theorem lwPick_len {l : List Str} {k : Int} (h : ∀ s ∈ l, s.length <= 6) : (lwPick l k).length <= 6 := by
 unfold lwPick
 rw [List.getD_eq_getElem?_getD]
 cases q : l[(k.fmod 4).toNat]? with
 | none => decide
 | some s => exact h s (List.mem_of_getElem? q)
theorem marks_len : ∀ s ∈ lwMarks, s.length <= 6 := by decide
theorem rems_len : ∀ s ∈ lwRems, s.length <= 6 := by decide
theorem str_app_len (a b : Str) : (a ++ b).length = a.length + b.length := by
 show (a.cps ++ b.cps).size = _
 rw [Array.size_append]; rfl
theorem lwCall_len (c : Int) (k : Nat) : (lwCall c k).length <= 7 := by
 have := lwPick_len (k := c + k) marks_len
 unfold lwCall; rw [str_app_len]
 have : (Str.ofString "(").length = 1 := by decide
 omega
theorem lwEnd_len (c : Int) (k : Nat) : (lwEnd c k).length <= 7 := by
 have := lwPick_len (k := c.fdiv (4 ^ (k + 1))) rems_len
 unfold lwEnd; rw [str_app_len]
 have : (Str.ofString ")").length = 1 := by decide
 omega
noncomputable def lawMe (is cs : List Int) : AM := (Str.ofString "ends", .d (.list ((lwEnds (cs.getD 4 0)).map .str))) :: (Str.ofString "calls", .d (.list ((lwCalls (cs.getD 4 0)).map .str))) :: lawMc is cs
section
variable {prog : Program} {w : World} {K : Fl -> AM -> OwnL -> Prop}
theorem law1 {is cs : List Int} (h7 : cs.length = 7) (k : ExP prog w 29 lawSc (lawMe is cs) [(107, .tab)] (lawB.drop 4) K) : ExP prog w 29 lawSc (lawMc is cs) [(107, .tab)] (lawB.drop 2) K := by
 have hz : ∀ {a b : Nat}, a <= 10 -> b <= 10 -> a + b <= sizeLine := fun h1 h2 => by rw [sizeLine_eq]; omega
 have e3 : ∀ x : Int, 0 <= x.fmod 4 /\ (x.fmod 4).toNat < 4 := fun x => ⟨Int.fmod_nonneg_of_pos _ (by decide), fmod_lt' (k := 4) (by decide)⟩
 refine exp_cons (es_set (EvX.ev (evx_lcomp (out := (lwCalls (cs.getD 4 0)).map .str) (it_range (hp := fun _ => ⟨rfl, fun _ => rfl⟩) (k := 3) (by walk_at "glb") ev_int rfl) ⟨rfl, by decide, rfl, by decide, .cons (x := Str.ofString "cells") rfl (by decide) .nil⟩ ?_ (by rw [sizeLine_eq]; decide) (by decide))) (.inr ⟨rfl, by decide⟩)) ?_
 ·rw [lwCalls, List.map_map]
  refine ct_map (fun i : Nat => PyData.int (i : Int)) (PyData.str ∘ lwCall (cs.getD 4 0)) (List.range 3) fun i hi => ⟨_, tb_name (.inl rfl), Sub.at (by walk_at "sub"), ?_⟩
  refine ev_bin ev_str (ev_at (f := PyData.str) (l := lwMarks) (Str.ofString "") (ev_list (evl_cons ev_str (evl_cons ev_str (evl_cons ev_str (evl_cons ev_str evl_nil)))) (sz_le rfl)) (ev_bin (ev_bin (ev_at (f := PyData.int) (l := cs) 0 (ev_name rfl) ev_int (by decide) (by rw [h7]; decide) (by rw [h7]; decide)) (ev_name rfl) op_add) ev_int (op_mod (by decide))) (e3 _).1 (e3 _).2 (by decide)) (op_addS (hz (by decide) (Nat.le_trans (lwPick_len (k := cs.getD 4 0 + i) marks_len) (by decide))))
 refine exp_cons (es_lcomp (out := (lwEnds (cs.getD 4 0)).map .str) (it_range (hp := fun _ => ⟨rfl, fun _ => rfl⟩) (k := 3) (by walk_at "glb") ev_int rfl) ⟨rfl, by decide, rfl, by decide, .cons (x := Str.ofString "cells") rfl (by decide) .nil⟩ ?_ (by rw [sizeLine_eq]; decide) (by decide) (.inl rfl)) (exp_pre k (Sub.at (by walk_at "sub")))
 rw [lwEnds, List.map_map]
 refine ct_map (fun i : Nat => PyData.int (i : Int)) (PyData.str ∘ lwEnd (cs.getD 4 0)) (List.range 3) fun i hi => ⟨_, tb_name (.inl rfl), Sub.at (by walk_at "sub"), ?_⟩
 have hi3 : i = 0 \/ i = 1 \/ i = 2 := by have := List.mem_range.mp hi; omega
 have p1 : (4 : Int) ^ ((i : Int) + 1).toNat ≠ 0 /\ ((4 : Int) ^ ((i : Int) + 1).toNat).natAbs < 2 ^ 30 /\ (Builtin.Int.intBits 4 : Int) * ((i : Int) + 1) <= 2 ^ 27 := by rcases hi3 with rfl | rfl | rfl <;> decide
 exact ev_bin ev_str (ev_at (f := PyData.str) (l := lwRems) (Str.ofString "") (ev_list (evl_cons ev_str (evl_cons ev_str (evl_cons ev_str (evl_cons ev_str evl_nil)))) (sz_le rfl)) (ev_bin (ev_bin (ev_at (f := PyData.int) (l := cs) 0 (ev_name rfl) ev_int (by decide) (by rw [h7]; decide) (by rw [h7]; decide)) (ev_bin ev_int (ev_bin (ev_name rfl) ev_int op_add) (op_pow (by omega) p1.2.2)) (op_fdiv p1.1 (pyl p1.2.1))) ev_int (op_mod (by decide))) (e3 _).1 (e3 _).2 (by decide)) (op_addS (hz (by decide) (Nat.le_trans (lwPick_len rems_len) (by decide))))
end

end
section
noncomputable def rowD (ws : List Str) : PyData := .list (ws.map .str)
noncomputable def lawMd (ad ap : Addr) (is cs : List Int) : AM := (Str.ofString "text", .d (.str (Str.ofString ""))) :: (Str.ofString "pairs", .ref ap) :: (Str.ofString "deeds", .ref ad) :: lawMe is cs
noncomputable def deedO (ad ap : Addr) (st : Rows × Prs) : OwnL := [(ap, .list (st.2.map prD)), (ad, .list (st.1.map rowD)), (107, .tab)]
section
variable {prog : Program} {w : World} {m m' : AM} {σ' : OwnL} {fl : Fl} {ss : List Stmt} {ad ap : Addr} {D : Rows} {prs : Prs} {c q : Int} {i j kk k2 : Nat} {zs : List Str} {y z yc : Str} {p0 p1 p2 p3 p4 p5 p6 p7 p8 p9 p10 p11 p12 p13 p14 p15 p16 p17 p18 p19 p20 p21 p22 p23 p24 p25 p26 p27 p28 p29 p30 p31 p32 p33 p34 : Pos}
theorem ex_ins (hq : 0 < q /\ q < 1000) (hD : D.length = 3) (hw : ∀ ws ∈ D, ws.length <= 1000) (hi : i < 3) (hj : j < zs.length) (hzs : zs.length <= 100)
  (g1 : m.lookup (Str.ofString "cell") = some (.d (.int c))) (g2 : m.lookup (Str.ofString "deeds") = some (.ref ad)) (g3 : m.lookup y = some (.d (.int i))) (g4 : m.lookup z = some (.d (.list (zs.map .str)))) (g5 : m.lookup yc = some (.d (.int j)))
  (n1 : (y == ("__debug__" : Str)) = false) (n2 : (y == ("__classdict__" : Str)) = false) (n3 : (z == ("__debug__" : Str)) = false) (n4 : (z == ("__classdict__" : Str)) = false) (n5 : (yc == ("__debug__" : Str)) = false) (n6 : (yc == ("__classdict__" : Str)) = false) (n7 : (y == Str.ofString "spot") = false) (n8 : (z == Str.ofString "spot") = false) (n9 : (yc == Str.ofString "spot") = false)
  (h : Ex prog w 29 lawSc ((Str.ofString "spot", .d (.int (lwSpot (c.fdiv q) (D.getD i []).length : Nat))) :: m) (deedO ad ap (lwPut D i (c.fdiv q) (zs.getD j (Str.ofString "")), prs)) ss fl m' σ') :
  Ex prog w 29 lawSc m (deedO ad ap (D, prs)) (.Assign [.Name (Str.ofString "spot") p0] (.BinOp (.BinOp (.Name (Str.ofString "cell") p1) .FloorDiv (.Constant (.int q) kk p2) p3) .Mod (.BinOp (.Call (.Name (Str.ofString "len") p4) [.Subscript (.Name (Str.ofString "deeds") p5) (.Name y p6) p7] [] p8) .Add (.Constant (.int 1) k2 p9) p10) p11) p12 ::
   .Assign [.Subscript (.Name (Str.ofString "deeds") p13) (.Name y p14) p15] (.BinOp (.BinOp (.Subscript (.Subscript (.Name (Str.ofString "deeds") p16) (.Name y p17) p18) (.Slice none (some (.Name (Str.ofString "spot") p19)) none p20) p21) .Add (.List [.Subscript (.Name z p22) (.Name yc p23) p24] p25) p26) .Add (.Subscript (.Subscript (.Name (Str.ofString "deeds") p27) (.Name y p28) p29) (.Slice (some (.Name (Str.ofString "spot") p30)) none none p31) p32) p33) p34 :: ss) fl m' σ' := by
 have hlen : (D.getD i []).length <= 1000 := by
  rw [List.getD_eq_getElem?_getD, List.getElem?_eq_getElem (by omega)]
  exact hw _ (List.getElem_mem _)
 have hz : ∀ {a : Nat}, a <= 5000 -> a <= sizeLine := fun h => by rw [sizeLine_eq]; omega
 obtain ⟨sp, hsp⟩ : ∃ sp : Nat, lwSpot (c.fdiv q) (D.getD i []).length = sp := ⟨_, rfl⟩
 have e1 : (c.fdiv q).fmod (((D.getD i []).length : Int) + 1) = (sp : Int) := by rw [<- hsp]; exact fmod_nat (by omega)
 have e2 : (D.map rowD)[(i : Int).toNat]? = some (rowD (D.getD i [])) := getD_at (by rw [Int.toNat_natCast]; omega)
 have P0 : ∀ d', PutO ad (.list (D.map rowD)) d' (deedO ad ap (D, prs)) [(ap, .list (prs.map prD)), (ad, d'), (107, .tab)] := fun d' => .tail .head
 rw [hsp] at h
 have sub1 : ∀ {m : AM} {q1 q2 q3 : Pos}, m.lookup (Str.ofString "deeds") = some (.ref ad) -> m.lookup y = some (.d (.int i)) -> Ev prog w 29 lawSc m (deedO ad ap (D, prs)) (.Subscript (.Name (Str.ofString "deeds") q1) (.Name y q2) q3) (.d (rowD (D.getD i []))) := fun a b => ev_subOwn (P0 .none) (ev_name a) (ev_name b n1 n2) (by omega) (by omega) e2
 have om : Op2 prog w 29 (deedO ad ap (D, prs)) (binaryOp .Mod) (.d (.int (c.fdiv q))) (.d (.int (((D.getD i []).length : Int) + 1))) (.d (.int sp)) := e1 ▸ op_mod (by omega)
 refine ex_cons (es_set (a := .d (.int sp)) (ev_bin (ev_bin (ev_name g1) ev_int (op_fdiv (by omega) (pyl (by omega)))) (ev_bin (ev_callB (by walk_at "glb") (evl_cons (sub1 g2 g3) evl_nil) (callb_lenL (by rw [List.length_map]; exact hz (by omega)))) ev_int op_add) (by rw [List.length_map]; exact om)) (.inl rfl)) ?_
 have g2' : ((Str.ofString "spot", AV.d (.int sp)) :: m).lookup (Str.ofString "deeds") = some (.ref ad) := g2
 have g3' : ((Str.ofString "spot", AV.d (.int sp)) :: m).lookup y = some (.d (.int i)) := by rw [List.lookup_cons, n7]; exact g3
 have g4' : ((Str.ofString "spot", AV.d (.int sp)) :: m).lookup z = some (.d (.list (zs.map .str))) := by rw [List.lookup_cons, n8]; exact g4
 have g5' : ((Str.ofString "spot", AV.d (.int sp)) :: m).lookup yc = some (.d (.int j)) := by rw [List.lookup_cons, n9]; exact g5
 have e3 : (lwPut D i (c.fdiv q) (zs.getD j (Str.ofString ""))).map rowD = (D.map rowD).set (i : Int).toNat (.list (((D.getD i []).map PyData.str).take sp ++ [.str (zs.getD j (Str.ofString ""))] ++ ((D.getD i []).map PyData.str).drop sp)) := by
  rw [Int.toNat_natCast, lwPut, List.map_set, hsp]
  simp [rowD, lwIns]
 have P1 : PutO ad (.list (D.map rowD)) (.list ((D.map rowD).set (i : Int).toNat (.list (((D.getD i []).map PyData.str).take sp ++ [.str (zs.getD j (Str.ofString ""))] ++ ((D.getD i []).map PyData.str).drop sp)))) (deedO ad ap (D, prs)) (deedO ad ap (lwPut D i (c.fdiv q) (zs.getD j (Str.ofString "")), prs)) := by
  unfold deedO; rw [e3]; exact .tail .head
 refine ex_cons (es_setOwn P1 (ev_bin (ev_bin (ev_sliceT (sub1 g2' g3') (ev_name rfl) (ops_upto (by rw [List.length_map]; exact hz (by omega)) sp)) (ev_list (evl_cons (ev_at (f := PyData.str) (Str.ofString "") (ev_name g4' n3 n4) (ev_name g5' n5 n6) (by omega) (by omega) (by omega)) evl_nil) (sz_le rfl)) (op_addL (hz ?_))) (ev_sliceF (sub1 g2' g3') (ev_name rfl) (ops_from (by rw [List.length_map]; exact hz (by omega)) sp)) (op_addL (hz ?_))) (ev_name g2') (ev_name g3' n1 n2) (by omega) (by omega) (by rw [List.length_map]; omega)) ?_
 ·simp only [List.length_append, List.length_take, List.length_map, List.length_singleton]; omega
 ·simp only [List.length_append, List.length_take, List.length_map, List.length_singleton, List.length_drop]; omega
 ·exact h
end
noncomputable def DealI (st : Rows × Prs) (l : List Int) : Prop := st.1.length = 3 /\ (∀ ws ∈ st.1, ws.length + 2 * l.length <= 100) /\ st.2.length + l.length <= 100
theorem lwIns_len (l : List Str) (i : Nat) (x : Str) : (lwIns l i x).length = l.length + 1 := by
 unfold lwIns
 simp only [List.length_append, List.length_take, List.length_drop, List.length_singleton]; omega
theorem mem_set {α : Type} {l : List α} {i : Nat} {a x : α} (h : x ∈ l.set i a) : x ∈ l \/ x = a := List.mem_or_eq_of_mem_set h
theorem lwPut_rows {D : Rows} {i : Nat} {c : Int} {x : Str} {k : Nat} (hw : ∀ ws ∈ D, ws.length <= k) : ∀ ws ∈ lwPut D i c x, ws.length <= k + 1 := fun ws h => by
 rcases mem_set h with h | rfl
 ·exact Nat.le_succ_of_le (hw _ h)
 ·rw [lwIns_len, List.getD_eq_getElem?_getD]
  cases q : D[i]? with
  | none => show 0 + 1 <= k + 1; omega
  | some ws => have := hw ws (List.mem_of_getElem? q); show ws.length + 1 <= k + 1; omega
theorem lwPut_len (D : Rows) (i : Nat) (c : Int) (x : Str) : (lwPut D i c x).length = D.length := List.length_set ..
theorem DealI.step {calls ends : List Str} {st : Rows × Prs} {c : Int} {l : List Int} (h : DealI st (c :: l)) : DealI (lwDeed calls ends st c) l := by
 obtain ⟨h1, h2, h3⟩ := h
 rw [List.length_cons] at h2 h3
 refine ⟨by rw [lwDeed, lwPut_len, lwPut_len]; exact h1, fun ws hw => ?_, by rw [lwDeed, List.length_append, List.length_singleton]; omega⟩
 by_cases q : 2 * l.length <= 98
 ·have := lwPut_rows (k := 98 - 2 * l.length + 1) (lwPut_rows (k := 98 - 2 * l.length) fun ws hw => by have := h2 ws hw; omega) ws hw
  omega
 ·exfalso
  cases hD : st.1 with
  | nil => rw [hD] at h1; cases h1
  | cons a _ => have := h2 a (by rw [hD]; exact List.mem_cons_self); omega
section
variable {prog : Program} {w : World} {K : Fl -> AM -> OwnL -> Prop}
noncomputable def lawMr (is cs : List Int) (st : Rows × Prs) : AM := (Str.ofString "text", .d (.str (Str.ofString ""))) :: (Str.ofString "pairs", .d (.list (st.2.map prD))) :: (Str.ofString "deeds", .d (.list (st.1.map rowD))) :: lawMe is cs
theorem law2 {is cs : List Int} (h7 : cs.length = 7) (hl : is.length <= 1000) (k : ExP prog w 29 lawSc (lawMr is cs (lwDeeds is.length cs)) [(107, .tab)] (lawB.drop 6) K) : ExP prog w 29 lawSc (lawMe is cs) [(107, .tab)] (lawB.drop 4) K := by
 have hz : ∀ {a : Nat}, a <= 5000 -> a <= sizeLine := fun h => by rw [sizeLine_eq]; omega
 have hc0 := lwCall_len (cs.getD 4 0) 0
 refine exp_unpack (P := fun d σ' => ∃ ad ap, d = .tuple [.obj ad, .obj ap, .str (Str.ofString "")] /\ σ' = deedO ad ap ([[lwEnd (cs.getD 4 0) 0], [], []], [(Str.ofString "", tl1 (lwCall (cs.getD 4 0) 0))]))
  (evp_tuple (evls_cons (P := fun d σ' => ∃ ad, d = .obj ad /\ σ' = (ad, .list (([[lwEnd (cs.getD 4 0) 0], [], []] : Rows).map rowD)) :: [(107, .tab)]) (evp_listO (evl_cons (ev_list (evl_cons (ev_at (f := PyData.str) (l := lwEnds (cs.getD 4 0)) (Str.ofString "") (ev_name rfl) ev_int (by decide) (by simp [lwEnds]) (by simp [lwEnds])) evl_nil) (sz_le rfl)) (evl_cons (ev_list evl_nil (sz_le rfl)) (evl_cons (ev_list evl_nil (sz_le rfl)) evl_nil))) (sz_le rfl) fun ad => ⟨ad, rfl, rfl⟩) ?_) (by decide) ?_) ?_
 ·rintro d σ1 ⟨ad, rfl, rfl⟩
  refine evls_cons (P := fun d σ' => ∃ ap, d = .obj ap /\ σ' = deedO ad ap ([[lwEnd (cs.getD 4 0) 0], [], []], [(Str.ofString "", tl1 (lwCall (cs.getD 4 0) 0))])) (evp_listO (evl_cons (ev_tuple (evl_cons ev_str (evl_cons (ev_sliceF (ev_at (f := PyData.str) (l := lwCalls (cs.getD 4 0)) (Str.ofString "") (ev_name rfl) ev_int (by decide) (by simp [lwCalls]) (by simp [lwCalls])) ev_int (ops_str (hz (Nat.le_trans hc0 (by decide))))) evl_nil)) (sz_le rfl)) evl_nil) (sz_le rfl) fun ap => ⟨ap, rfl, rfl⟩) ?_
  rintro d σ1 ⟨ap, rfl, rfl⟩
  refine evls_cons (P := fun d σ' => d = .str (Str.ofString "") /\ σ' = _) (Ev.toP ev_str ⟨rfl, rfl⟩) ?_
  rintro d σ1 ⟨rfl, rfl⟩
  exact evls_nil ⟨[.obj ad, .obj ap, .str (Str.ofString "")], rfl, ad, ap, rfl, rfl⟩
 ·rintro as σ' ⟨ds, rfl, ad, ap, e, _⟩
  cases e; show 3 <= 100; decide
 ·rintro d σ' ⟨ad, ap, rfl, rfl⟩
  refine ⟨_, _, rfl, .cons (.inr ⟨rfl, by decide⟩) (.cons (.inl rfl) (.cons (.inl rfl) .nil)), ?_⟩
  refine exp_ref (x := Str.ofString "deeds") rfl (exp_ref (x := Str.ofString "pairs") rfl (exp_pre (m1 := lawMd ad ap is cs) ?_ (Sub.at (by walk_at "sub"))))
  have i0 : DealI ([[lwEnd (cs.getD 4 0) 0], [], []], [(Str.ofString "", tl1 (lwCall (cs.getD 4 0) 0))]) (cs.take (if is.length > 3 then 4 else 3)) := by
   have : (cs.take (if is.length > 3 then 4 else 3)).length <= 4 := by rw [List.length_take]; split <;> omega
   refine ⟨rfl, fun ws hw => ?_, ?_⟩
   ·simp at hw; rcases hw with rfl | rfl <;> simp <;> omega
   ·simp; omega
  clear hc0
  have hN : ((is.length > 3) -> ((if is.length > 3 then 4 else 3 : Nat) : Int) = 4) /\ (¬ is.length > 3 -> ((if is.length > 3 then 4 else 3 : Nat) : Int) = 3) := ⟨fun h => by rw [if_pos h]; rfl, fun h => by rw [if_neg h]; rfl⟩
  unfold lwDeeds at k
  have hcl : ∀ j, ((lwCalls (cs.getD 4 0)).getD j (Str.ofString "")).length <= 7 := fun j => by
   rw [List.getD_eq_getElem?_getD, lwCalls, List.getElem?_map]
   cases q : (List.range 3)[j]? with
   | none => show (Str.ofString "").length <= 7; decide
   | some i => exact lwCall_len _ _
  generalize (if is.length > 3 then 4 else 3) = N at k i0 hN ⊢
  generalize hcalls : lwCalls (cs.getD 4 0) = calls at k hcl ⊢
  generalize hends : lwEnds (cs.getD 4 0) = ends at k ⊢
  have l1 : calls.length = 3 := by rw [<- hcalls]; simp [lwCalls]
  have l2 : ends.length = 3 := by rw [<- hends]; simp [lwEnds]
  refine exp_cons (es_foldI (enc := PyData.int) (cs.take N) (fun _ => lawMd ad ap is cs) (deedO ad ap) (lwDeed calls ends) DealI _ i0 (it_list (ev_sliceT (k := (N : Int)) (ev_name rfl) (ev_ifexp (evt_cmp (ev_callB (by walk_at "glb") (evl_cons (ev_name rfl) evl_nil) (callb_lenL (by rw [List.length_map]; exact hz (by omega)))) ev_int op_gtI) (fun h => ?_) fun h => ?_) (ops_upto (by rw [List.length_map]; exact hz (by omega)) N))) (by rw [List.map_take]) (fun st c l h => h.step) (fun st c l h => ?_) (by decide)) ?_
  ·rw [hN.1 (by have := of_decide_eq_true h; rw [List.length_map] at this; omega)]; exact ev_int
  ·rw [hN.2 (by have := of_decide_eq_false h; rw [List.length_map] at this; omega)]; exact ev_int
  ·clear i0 k hN
   obtain ⟨D, prs⟩ := st
   obtain ⟨h1, h2, h3⟩ := h
   rw [List.length_cons] at h2 h3
   have h1 : D.length = 3 := h1
   have h2 : ∀ ws ∈ D, ws.length + 2 * (l.length + 1) <= 100 := h2
   have h3 : prs.length + (l.length + 1) <= 100 := h3
   have hw : ∀ ws ∈ D, ws.length <= 1000 := fun ws hw => by have := h2 ws hw; omega
   have b0 : (0 : Int) <= c.fmod 3 := Int.fmod_nonneg_of_pos _ (by decide)
   have b1 : c.fmod 3 < 3 := Int.fmod_lt_of_pos _ (by decide)
   have a0 : (0 : Int) <= (c.fdiv 3).fmod 3 := Int.fmod_nonneg_of_pos _ (by decide)
   have a1 : (c.fdiv 3).fmod 3 < 3 := Int.fmod_lt_of_pos _ (by decide)
   have ac : lwCaller D c < 3 := by unfold lwCaller; split <;> omega
   have ae : lwCallee c < 3 := by unfold lwCallee; omega
   have ed : (D.map rowD)[(c.fmod 3).toNat]? = some (rowD (D.getD (c.fmod 3).toNat [])) := getD_at (by omega)
   have P0 : PutO ad (.list (D.map rowD)) .none (deedO ad ap (D, prs)) [(ap, .list (prs.map prD)), (ad, .none), (107, .tab)] := .tail .head
   refine bd_name (.inl rfl) ?_
   refine ex_swap [Str.ofString "caller", Str.ofString "callee"] [.data (.int (lwCaller D c : Nat)), .data (.int (lwCallee c : Nat))] (.data (ev_ifexp (b := decide (D.getD (c.fmod 3).toNat [] = [] /\ (c.fdiv 3).fmod 4 > 0)) ?_ (fun h => ?_) fun h => ?_) (.data ?_ .nil fun _ => rfl) fun _ => rfl) (stb_all rfl) (fun ads _ => rfl) (fun ads _ => ?_) (by decide)
   ·have e : decide (D.getD (c.fmod 3).toNat [] = [] /\ (c.fdiv 3).fmod 4 > 0) = (((D.getD (c.fmod 3).toNat []).map PyData.str).isEmpty && (decide ((c.fdiv 3).fmod 4 > 0) && true)) := by
     rw [Bool.and_true, Bool.decide_and]
     congr 1
     cases D.getD (c.fmod 3).toNat [] <;> rfl
    rw [e]
    exact evt_and (evt_cmp (ev_subOwn P0 (ev_name rfl) (ev_bin (ev_name rfl) ev_int (op_mod (by decide))) b0 (by omega) ed) (ev_list evl_nil (sz_le rfl)) op_eqNil) fun _ => evt_and (evt_cmp (ev_bin (ev_bin (ev_name rfl) ev_int (op_fdiv (by decide) (pyl (by decide)))) ev_int (op_mod (by decide))) ev_int op_gtI) fun _ => evt_andn
   ·rw [show lwCaller D c = 0 from if_pos (of_decide_eq_true h)]; exact ev_int
   ·have e : ((lwCaller D c : Nat) : Int) = c.fmod 3 := by rw [show lwCaller D c = (c.fmod 3).toNat from if_neg (of_decide_eq_false h)]; omega
    rw [e]
    exact ev_bin (ev_name rfl) ev_int (op_mod (by decide))
   ·have e : ((lwCallee c : Nat) : Int) = (c.fdiv 3).fmod 3 := by unfold lwCallee; omega
    rw [e]
    exact ev_bin (ev_bin (ev_name rfl) ev_int (op_fdiv (by decide) (pyl (by decide)))) ev_int (op_mod (by decide))
   ·refine ex_ins (kk := 0) (k2 := 0) (q := 9) (i := lwCaller D c) (j := lwCallee c) (zs := calls) (by decide) h1 hw ac (by omega) (by omega) rfl rfl rfl (by rw [<- hcalls]; rfl) rfl (by decide) (by decide) (by decide) (by decide) (by decide) (by decide) (by decide) (by decide) (by decide) ?_
    refine ex_ins (kk := 0) (k2 := 0) (q := 81) (i := lwCallee c) (j := lwCallee c) (zs := ends) (by decide) (by rw [lwPut_len]; exact h1) (fun ws hm => Nat.le_trans (lwPut_rows (k := 99) (fun ws hw => by have := h2 ws hw; omega) ws hm) (by decide)) ae (by omega) (by omega) rfl rfl rfl (by rw [<- hends]; rfl) rfl (by decide) (by decide) (by decide) (by decide) (by decide) (by decide) (by decide) (by decide) (by decide) ?_
    have P3 : PutO ap (.list (prs.map prD)) (.list (prs.map prD ++ [prD (tl1 (calls.getD (lwCaller D c) (Str.ofString "")), tl1 (calls.getD (lwCallee c) (Str.ofString "")))])) (deedO ad ap (lwPut (lwPut D (lwCaller D c) (c.fdiv 9) (calls.getD (lwCallee c) (Str.ofString ""))) (lwCallee c) (c.fdiv 81) (ends.getD (lwCallee c) (Str.ofString "")), prs)) (deedO ad ap (lwDeed calls ends (D, prs) c)) := by
     unfold deedO lwDeed
     rw [List.map_append]
     exact .head
    have hcs : ∀ {m : AM} {σ : OwnL} {j : Nat} {y : Str} {p1 p2 p3 p4 p5 p6 : Pos} {kk : Nat}, j < 3 -> m.lookup (Str.ofString "calls") = some (.d (.list (calls.map .str))) -> m.lookup y = some (.d (.int (j : Int))) -> (y == ("__debug__" : Str)) = false -> (y == ("__classdict__" : Str)) = false -> Ev prog w 29 lawSc m σ (.Subscript (.Subscript (.Name (Str.ofString "calls") p1) (.Name y p2) p3) (.Slice (some (.Constant (.int 1) kk p4)) none none p5) p6) (.d (.str (tl1 (calls.getD j (Str.ofString ""))))) := fun hj g1 g2 n1 n2 => ev_sliceF (ev_atN (f := PyData.str) (Str.ofString "") (ev_name g1) (ev_name g2 n1 n2) (by omega) (by omega)) ev_int (ops_str (hz (Nat.le_trans (hcl _) (by decide))))
    generalize lwDeed calls ends (D, prs) c = st2 at P3 ⊢
    generalize lwPut (lwPut D (lwCaller D c) (c.fdiv 9) (calls.getD (lwCallee c) (Str.ofString ""))) (lwCallee c) (c.fdiv 81) (ends.getD (lwCallee c) (Str.ofString "")) = D2 at P3 ⊢
    generalize lwCaller D c = i at P3 ac ⊢
    generalize lwCallee c = j at P3 ae ⊢
    exact ex_cons (es_append rfl P3 (ev_tuple (evl_cons (hcs ac (by rw [<- hcalls]; rfl) rfl (by decide) (by decide)) (evl_cons (hcs ae (by rw [<- hcalls]; rfl) rfl (by decide) (by decide)) evl_nil)) (sz_le rfl)) (by rw [List.length_map]; exact hz (by omega))) (ex_end (by walk_at "sub"))
  ·refine exp_freeze (x := Str.ofString "deeds") (.tail .head) rfl (exp_freeze (x := Str.ofString "pairs") .head rfl (exp_pre k (Sub.at (by walk_at "sub"))))
end

end
section
noncomputable def lawMt (is cs : List Int) (st : Rows × Prs) (t : Str) : AM := (Str.ofString "text", .d (.str t)) :: (Str.ofString "pairs", .d (.list (st.2.map prD))) :: (Str.ofString "deeds", .d (.list (st.1.map rowD))) :: lawMe is cs
theorem lwSign_len (way c : Nat) : (lwSign way c).length <= 2 := by
 unfold lwSign; split <;> (rw [strOf_len]; simp)
theorem glued_le {ts : List Str} {k : Nat} (h : ∀ t ∈ ts, t.length <= k) : (Txt.join (Str.ofString "") ts).length <= k * ts.length := by
 refine Nat.le_trans (glued_len ts) ?_
 induction ts with
 | nil => exact Nat.zero_le _
 | cons x r ih =>
  have := ih fun t ht => h t (List.mem_cons_of_mem _ ht)
  have := h x List.mem_cons_self
  rw [List.map_cons, List.sum_cons, List.length_cons, Nat.mul_add]; omega
theorem lwShown_len (way : Nat) (x : Str) : (lwShown way x).length <= 2 * x.length := by
 have := glued_le (ts := x.cps.toList.map (lwSign way)) (k := 2) fun t ht => by
  obtain ⟨c, _, rfl⟩ := List.mem_map.mp ht; exact lwSign_len _ _
 rw [List.length_map] at this
 exact this
theorem item1_len (x : Str) (k : Int) : (Txt.item x k).length <= 1 := by
 exact Nat.le_refl 1
theorem lwWord_len {way : Nat} {x : Str} (h : x.length <= 10) : (lwWord way x).length <= 25 := by
 have h1 := lwShown_len way x
 have h2 := item1_len (Str.ofString "\n\t\r ") ((way / 4 : Nat) : Int)
 have h3 : (Str.ofString "\"").length = 1 := by decide
 unfold lwWord
 split <;> (simp only [str_app_len]; omega)
theorem fmod_cast (a b : Nat) : ((a : Int)).fmod b = ((a % b : Nat) : Int) := by rw [Int.fmod_eq_emod_of_nonneg _ (by omega)]; rfl
theorem fdiv_cast (a b : Nat) : ((a : Int)).fdiv b = ((a / b : Nat) : Int) := by rw [Int.fdiv_eq_ediv_of_nonneg _ (by omega)]; rfl
theorem lwWay_lt (c : Int) (k : Nat) : lwWay c k < 16 := fmod_lt' (k := 16) (by decide)
section
variable {prog : Program} {w : World} {K : Fl -> AM -> OwnL -> Prop}
theorem law3 {is cs : List Int} {st : Rows × Prs} (h7 : cs.length = 7) (hD : st.1.length = 3) (hn : (lwAll st.1).length <= 12) (hw : ∀ x ∈ lwAll st.1, x.length <= 10) (k : ExP prog w 29 lawSc (lawMt is cs st (lwCut (cs.getD 5 0) (lwText (cs.getD 5 0) (lwAll st.1)))) [(107, .tab)] (lawB.drop 8) K) : ExP prog w 29 lawSc (lawMr is cs st) [(107, .tab)] (lawB.drop 6) K := by
 have hz : ∀ {a : Nat}, a <= 50000 -> a <= sizeLine := fun h => by rw [sizeLine_eq]; omega
 have hrow : ∀ {m : AM} {i : Nat} {p1 p2 p3 : Pos} {kk : Nat}, i < 3 -> m.lookup (Str.ofString "deeds") = some (.d (.list (st.1.map rowD))) -> Ev prog w 29 lawSc m [(107, .tab)] (.Subscript (.Name (Str.ofString "deeds") p1) (.Constant (.int (i : Int)) kk p2) p3) (.d (.list ((st.1.getD i []).map .str))) := fun hi g => ev_atN (f := rowD) [] (ev_name g) ev_int (by omega) (by omega)
 have l0 : (st.1.getD 0 []).length + (st.1.getD 1 []).length + (st.1.getD 2 []).length <= 12 := by unfold lwAll at hn; simp only [List.length_append] at hn; exact hn
 refine exp_cons (m1 := lawMt is cs st (lwText (cs.getD 5 0) (lwAll st.1))) (σ1 := [(107, .tab)]) (es_foldI (enc := fun (y : Str × Nat) => PyData.tuple [.int (y.2 : Int), .str y.1]) (lwAll st.1).zipIdx (lawMt is cs st) (fun _ => [(107, .tab)]) (fun t y => t ++ lwWord (lwWay (cs.getD 5 0) y.2) y.1) (fun t l => t.length + 25 * l.length <= 400 /\ ∀ y ∈ l, y.2 < 12 /\ y.1.length <= 10) (Str.ofString "") ?_
  (it_enum (by walk_at "glb") (fun _ => ⟨rfl, fun _ => rfl⟩) (ev_bin (ev_bin (hrow (i := 0) (by decide) rfl) (hrow (i := 1) (by decide) rfl) (op_addL (hz ?_))) (hrow (i := 2) (by decide) rfl) (op_addL (hz ?_)))) ?_ ?_ ?_ (by decide)) ?_
 ·refine ⟨by rw [List.length_zipIdx]; show 0 + 25 * _ <= 400; omega, fun y hy => ?_⟩
  have := List.mem_zipIdx hy
  refine ⟨by omega, hw _ ?_⟩
  rw [this.2.2]; exact List.getElem_mem _
 ·simp only [List.length_map]; omega
 ·simp only [List.length_append, List.length_map]; omega
 ·rw [<- List.map_append, <- List.map_append, enumD, List.zipIdx_map, List.map_map, List.map_map]; rfl
 ·rintro t y l ⟨h1, h2⟩
  have := lwWord_len (way := lwWay (cs.getD 5 0) y.2) (h2 y List.mem_cons_self).2
  rw [List.length_cons] at h1
  exact ⟨by rw [str_app_len]; omega, fun z hz => h2 z (List.mem_cons_of_mem _ hz)⟩
 ·rintro t ⟨x, j⟩ l ⟨h1, h2⟩
  obtain ⟨hj, hx⟩ := h2 (x, j) List.mem_cons_self
  have hj : j < 12 := hj
  have hx : x.length <= 10 := hx
  have hway := lwWay_lt (cs.getD 5 0) j
  have p1 : (3 : Int) ^ ((j : Int)).toNat ≠ 0 /\ ((3 : Int) ^ ((j : Int)).toNat).natAbs < 2 ^ 30 /\ (Builtin.Int.intBits 3 : Int) * (j : Int) <= 2 ^ 27 := by
   rw [Int.toNat_natCast]
   refine ⟨by have := Int.pow_pos (n := 3) (m := j) (by decide); omega, ?_, ?_⟩
   ·rw [Int.natAbs_pow]; exact Nat.lt_of_le_of_lt (Nat.pow_le_pow_right (by decide) (show j <= 11 by omega)) (by decide)
   ·have : (Builtin.Int.intBits 3 : Int) = 2 := by decide
    rw [this]; omega
  have p2 : ((lwWay (cs.getD 5 0) j : Nat) : Int) = ((cs.getD 5 0).fdiv (3 ^ ((j : Int)).toNat)).fmod 16 := by
   unfold lwWay; rw [Int.toNat_natCast]; exact (fmod_nat (by decide)).symm
  have om : Op2 prog w 29 [(107, .tab)] (binaryOp .Mod) (.d (.int ((cs.getD 5 0).fdiv (3 ^ ((j : Int)).toNat)))) (.d (.int 16)) (.d (.int (lwWay (cs.getD 5 0) j : Nat))) := p2 ▸ op_mod (by decide)
  refine bd_tup (.cons (.inl rfl) (.cons (.inl rfl) .nil)) ?_
  refine ex_cons (es_set (a := .d (.int (lwWay (cs.getD 5 0) j : Nat))) (ev_bin (ev_bin (ev_at (f := PyData.int) (l := cs) 0 (ev_name rfl) ev_int (by decide) (by rw [h7]; decide) (by rw [h7]; decide)) (ev_bin ev_int (ev_name rfl) (op_pow (by omega) p1.2.2)) (op_fdiv p1.1 (pyl p1.2.1))) ev_int om) (.inr ⟨rfl, by decide⟩)) ?_
  clear om p1 p2
  show Ex _ _ _ _ _ _ _ _ (lawMt is cs st (t ++ lwWord (lwWay (cs.getD 5 0) j) x)) _
  have hwd := lwWord_len (way := lwWay (cs.getD 5 0) j) hx
  generalize lwWay (cs.getD 5 0) j = way at hway hwd ⊢
  have hx' : x.cps.toList.length = x.length := by rw [Array.length_toList]; rfl
  refine ex_cons (es_set (a := .d (.str (lwShown way x))) (ev_join (ts := x.cps.toList.map (lwSign way)) (EvX.ev (evx_lcomp (it_str (ev_name rfl)) ⟨rfl, by decide, rfl, by decide, .cons (x := Str.ofString "way") rfl (by decide) .nil⟩ ?_ ?_ (by decide))) ?_) (.inl rfl)) ?_
  ·rw [List.map_map]
   refine ct_map (fun c => PyData.str ⟨#[c]⟩) (PyData.str ∘ lwSign way) x.cps.toList fun c hc => ⟨_, tb_name (.inl rfl), Sub.at (by walk_at "sub"), ?_⟩
   have f2 : (way : Int).fmod 2 = ((way % 2 : Nat) : Int) := fmod_cast way 2
   have f4 : (way : Int).fmod 4 = ((way % 4 : Nat) : Int) := fmod_cast way 4
   have e2 : ((way : Int).fmod 2 == 1) = (way % 2 == 1) := by rw [f2]; rcases Nat.mod_two_eq_zero_or_one way with h | h <;> rw [h] <;> rfl
   have e3 : decide ((way : Int).fmod 4 > 1) = decide (way % 4 > 1) := by rw [f4]; exact decide_eq_decide.mpr (by omega)
   have e6 : decide ((⟨#[c]⟩ : Str) = Str.ofString "\\") = (c == 92) := by
    rw [show Str.ofString "\\" = chS 92 by decide, show (⟨#[c]⟩ : Str) = chS c from rfl, Bool.eq_iff_iff, decide_eq_true_eq, chS_inj, beq_iff_eq]
   have e7 : decide ((⟨#[c]⟩ : Str) = Str.ofString "\"") = (c == 34) := by
    rw [show Str.ofString "\"" = chS 34 by decide, show (⟨#[c]⟩ : Str) = chS c from rfl, Bool.eq_iff_iff, decide_eq_true_eq, chS_inj, beq_iff_eq]
   have e : lwEsc way c = (((way : Int).fmod 2 == 1) || (decide ((⟨#[c]⟩ : Str) = Str.ofString "\\") || ((decide ((⟨#[c]⟩ : Str) = Str.ofString "\"") && (decide ((way : Int).fmod 4 > 1) && true)) || false))) := by
    rw [e2, e3, e6, e7, Bool.and_true, Bool.or_false]; rfl
   refine ev_ifexp (b := lwEsc way c) (e ▸ ?_) (fun h => ?_) fun h => ?_
   ·exact evt_or (evt_cmp (ev_bin (ev_name rfl) ev_int (op_mod (by decide))) ev_int op_eqI) fun _ => evt_or (evt_cmp (ev_name rfl) ev_str op_eqS) fun _ => evt_or (evt_and (evt_cmp (ev_name rfl) ev_str op_eqS) fun _ => evt_and (evt_cmp (ev_bin (ev_name rfl) ev_int (op_mod (by decide))) ev_int op_gtI) fun _ => evt_andn) fun _ => evt_orn
   ·rw [show (PyData.str ∘ lwSign way) c = .str (Str.ofString "\\" ++ ⟨#[c]⟩) by show PyData.str (lwSign way c) = _; unfold lwSign; rw [if_pos h]; rfl]
    exact ev_bin ev_str (ev_name rfl) (op_addS (show 1 + 1 <= sizeLine by rw [sizeLine_eq]; decide))
   ·rw [show (PyData.str ∘ lwSign way) c = .str ⟨#[c]⟩ by show PyData.str (lwSign way c) = _; unfold lwSign; rw [if_neg (by rw [h]; decide)]; rfl]
    exact ev_name rfl
  ·rw [show (signD x).length = x.cps.toList.length from List.length_map _, hx', sizeLine_eq]; omega
  ·refine joinOk_of ?_ fun p hp => ?_
   ·rw [List.length_map]; omega
   ·obtain ⟨c, _, rfl⟩ := List.mem_map.mp hp
    exact Nat.le_trans (lwSign_len way c) (by decide)
  have e4 : (way : Int).fdiv 4 = ((way / 4 : Nat) : Int) := fdiv_cast way 4
  have e5 : (way : Int).fmod 4 = ((way % 4 : Nat) : Int) := fmod_cast way 4
  have q1 : (Str.ofString "\"").length = 1 := by decide
  have q2 : (Str.ofString "\n\t\r ").length = 4 := by decide
  have hsh := lwShown_len way x
  have hit := item1_len (Str.ofString "\n\t\r ") ((way / 4 : Nat) : Int)
  have oi : OpI prog w 29 (.d (.str (Str.ofString "\n\t\r "))) (.d (.int ((way : Int).fdiv 4))) (.d (.str (Txt.item (Str.ofString "\n\t\r ") ((way / 4 : Nat) : Int)))) := by
   rw [e4]; exact opi_str (by omega) (by omega) (by unfold fitsSsize; simp; omega)
  refine ex_cons (es_aug rfl (ev_bin (ev_ifexp (b := decide (way % 4 > 1)) (a := .d (.str (if way % 4 > 1 then Str.ofString "\"" ++ lwShown way x ++ Str.ofString "\"" else lwShown way x))) ?_ (fun h => ?_) fun h => ?_) (ev_sub ev_str (ev_bin (ev_name rfl) ev_int (op_fdiv (by decide) (pyl (by decide)))) oi) (op_addS (hz ?_))) (op_iaddS (hz ?_)) rfl) (ex_end (by walk_at "sub"))
  ·rw [show decide (way % 4 > 1) = decide ((way : Int).fmod 4 > 1) by rw [e5]; exact decide_eq_decide.mpr (by omega)]
   exact evt_cmp (ev_bin (ev_name rfl) ev_int (op_mod (by decide))) ev_int op_gtI
  ·rw [if_pos (of_decide_eq_true h)]
   exact ev_bin (ev_bin ev_str (ev_name rfl) (op_addS (hz (by omega)))) ev_str (op_addS (hz (by rw [str_app_len]; omega)))
  ·rw [if_neg (of_decide_eq_false h)]
   exact ev_name rfl
  ·split <;> (try simp only [str_app_len]) <;> omega
  ·have : ((if way % 4 > 1 then Str.ofString "\"" ++ lwShown way x ++ Str.ofString "\"" else lwShown way x) ++ Txt.item (Str.ofString "\n\t\r ") ((way / 4 : Nat) : Int)).length <= 25 := hwd
   rw [List.length_cons] at h1
   omega
 ·have : (lwText (cs.getD 5 0) (lwAll st.1)).length <= 40000 := by
   have key : ∀ (l : List (Str × Nat)) (t : Str), (∀ y ∈ l, y.1.length <= 10) -> (l.foldl (fun t y => t ++ lwWord (lwWay (cs.getD 5 0) y.2) y.1) t).length <= t.length + 25 * l.length := fun l => by
    induction l with
    | nil => intro t _; exact Nat.le_refl _
    | cons y l ih =>
     intro t h
     have h1 := ih (t ++ lwWord (lwWay (cs.getD 5 0) y.2) y.1) fun z hz => h z (List.mem_cons_of_mem _ hz)
     have h2 := lwWord_len (way := lwWay (cs.getD 5 0) y.2) (h y List.mem_cons_self)
     rw [str_app_len] at h1
     rw [List.foldl_cons, List.length_cons]; omega
   have := key (lwAll st.1).zipIdx (Str.ofString "") fun y hy => hw _ (by rw [(List.mem_zipIdx hy).2.2]; exact List.getElem_mem _)
   rw [List.length_zipIdx] at this
   have e0 : (Str.ofString "").length = 0 := rfl
   unfold lwText; omega
  refine exp_cons (es_set (ev_sliceT (ev_name rfl) (ev_bin (ev_callB (by walk_at "glb") (evl_cons (ev_name rfl) evl_nil) (callb_lenS (hz (by omega)))) (ev_bin (ev_at (f := PyData.int) (l := cs) 0 (ev_name rfl) ev_int (by decide) (by rw [h7]; decide) (by rw [h7]; decide)) ev_int (op_mod (by decide))) op_sub) (ops_str (hz (by omega)))) (.inl rfl)) (exp_pre k (Sub.at (by walk_at "sub")))
end

end
section
noncomputable def EvTX (prog : Program) (w : World) (n : Nat) (sc : Sc) (m : AM) (σ : OwnL) (e : Expr) (b : Bool) (σ' : OwnL) : Prop :=
 ∀ (A : Around) (c : Cx) (g : Heap) (F : Frm) (rest : RL) (s : Shared) (E : Value -> Shared -> Prop) (Q : Bool -> Shared -> Prop), AOk n A -> Base w g -> FrOk sc F -> St prog w c g F m σ rest s ->
  (∀ c' g' s', Wle c g c' g' -> St prog w c' g' F m σ' rest s' -> Q b s') -> wpAny (model prog w) A (isTrue e F.env (eval e F.env)) Q E s
theorem nl_count (x : Str) (c : Nat) : Txt.count x (chS c) = ((x.cps.toList.count c : Nat) : Int) := by
 unfold Txt.count
 rw [occ_char, List.take_of_length_le (by
  refine Nat.le_trans (List.length_filter_le _ _) ?_
  rw [List.length_range']; omega)]
 have key : ∀ (l : List Nat) (k : Nat), (∀ i, i < l.length -> x.cps[k + i]? = l[i]?) -> ((List.range' k l.length).filter (hasAt x c)).length = l.count c := by
  intro l
  induction l with
  | nil => intro k _; rfl
  | cons a l ih =>
   intro k h
   have h0 := h 0 (Nat.zero_lt_succ _)
   have := ih (k + 1) fun i hi => by have := h (i + 1) (Nat.succ_lt_succ hi); rw [show k + 1 + i = k + (i + 1) by omega]; exact this
   rw [List.length_cons, List.range'_succ, List.filter_cons, List.count_cons]
   have e : hasAt x c k = (a == c) := by
    unfold hasAt
    rw [show x.cps[k]? = some a from h0]; rfl
   rw [e]
   cases q : a == c
   ·simpa using this
   ·simp [this]
 have := key x.cps.toList 0 fun i hi => by rw [Nat.zero_add, Array.getElem?_toList]
 rw [Array.length_toList] at this
 exact congrArg _ this
section
variable {prog : Program} {w : World} {c c' : Cx} {g g' : Heap} {s s' : Shared} {n : Nat} {sc : Sc} {m : AM} {σ σ' σ1 σ2 σa σb : OwnL} {e e1 e2 : Expr} {es : List Expr} {d d1 d2 : PyData} {ds : List PyData} {x : Str} {pos p p2 : Pos} {F : Frm} {rest : RL} {ss body : List Stmt} {b b' : Bool} {cop : CmpOp} {P P1 : PyData -> OwnL -> Prop} {K : Fl -> AM -> OwnL -> Prop}
theorem EvT.toX (h : EvT prog w n sc m σ e b) : EvTX prog w n sc m σ e b σ := h
theorem evtx_cmp (h1 : EvX prog w n sc m σ e1 d1 σ1) (h2 : EvX prog w n sc m σ1 e2 d2 σ2) (h : Op2 prog w n σ2 (compareOp cop) (.d d1) (.d d2) (.d (.bool b))) (hb : autoParam (behindInMarks cop e2 = false) auR) : EvTX prog w n sc m σ (.Compare e1 [cop] [e2] pos) b σ2 := fun A c g F rest s E Q hA B hF S k =>
 wpAny_isTrue_Compare1 (h1 A c g F rest s E _ hA B hF S fun c1 g1 v1 s1 w1 r1 S1 => h2 A c1 g1 F rest s1 E _ hA (B.keeps w1.up) hF S1 fun c2 g2 v2 s2 w2 r2 S2 =>
  h A c2 g2 F m rest s2 E _ v1 v2 hA (B.keeps (w1.trans w2).up) S2 (r1.up w2.up) r2 fun c3 g3 v s3 w3 r3 S3 => by apply r3.onBool; exact wpAny_truthy_bool (k c3 g3 s3 ((w1.trans w2).trans w3) S3)) hb
theorem evtx_orF (h : EvTX prog w n sc m σ e1 false σ1) (h2 : EvTX prog w n sc m σ1 (.BoolOp .Or es pos) b' σ2) : EvTX prog w n sc m σ (.BoolOp .Or (e1 :: es) pos) b' σ2 := fun A c g F rest s E Q hA B hF S q =>
 isTrue_or (h A c g F rest s E _ hA B hF S fun c1 g1 s1 w1 S1 => ite_neg Bool.false_ne_true (h2 A c1 g1 F rest s1 E Q hA (B.keeps w1.up) hF S1 fun c2 g2 s2 w2 S2 => q c2 g2 s2 (w1.trans w2) S2))
theorem exp_skipX (ht : EvTX prog w n sc m σ e false σ1) (h : ExP prog w n sc m σ1 ss K) : ExP prog w n sc m σ (.If e body [] pos :: ss) K := fun A c g F rest s E Q hA B hF S q =>
 wpAny_execs_cons (wpAny_If (ht A c g F rest s E _ hA B hF S fun c1 g1 s1 w1 S1 => ite_neg Bool.false_ne_true (wpAny_execs_nil (h A c1 g1 F rest s1 E Q hA (B.keeps w1.up) hF S1 fun c2 g2 f s2 fl m2 σ2 hK w2 => q c2 g2 f s2 fl m2 σ2 hK (w1.trans w2)))))
theorem ev_count {pl : Env -> Sem Bool} {k : Nat} (h : Ev prog w n sc m σ e (.d (.str x))) (h1 : Ev prog w n sc m σ e1 (.d (.str (chS k)))) (hp : autoParam (PlainArgs e1 []) auP)
  (he : autoParam (∀ env, eval (.Call (.Attribute e (Str.ofString "count") p2) [e1] [] pos) env = (do
   let ov <- eval e env
   standAt p2.atName
   let (f, first) <- holding [ov] (getMethod ov (Str.ofString "count") (pl env))
   callWith pos f first (backTo pos (starEach [e1] env)) [])) auI1) : Ev prog w n sc m σ (.Call (.Attribute e (Str.ofString "count") p2) [e1] [] pos) (.d (.int (x.cps.toList.count k : Nat))) := fun A c g F rest s E Q hA B hF S q =>
 MethodCall_ (h A c g F rest s E _ hA B hF S fun c1 g1 v s1 w1 r1 S1 => by
  apply r1.onStr; intro _
  refine GM.count ?_
  refine callWith_method1 (evl_cons h1 evl_nil (fun env => (hp env).1) A c1 g1 F rest s1 E _ _ hA (B.keeps w1.up) hF S1 fun c2 g2 vs s2 w2 r2 S2 => ?_) (hp _).1 ((hp _).2 _)
  apply r2.onOne; intro v ra; apply ra.onStr; intro _
  exact SC.count (by rw [nl_count]; exact q c2 g2 _ _ (w1.trans w2) (.int _ _) (S2.tok _))) (he _)
theorem evp_callL {fa : Addr} (G : GlF w sc x fa) (ha : EvLs prog w n sc m σ (e :: es) fun as σ1 => ∃ ds σa σb P1, as = ds.map .d /\ σ1.Perm (σa ++ σb) /\ FnP prog w n fa ds σa P1 /\ ∀ d σ', P1 d σ' -> P d (σ' ++ σb)) (hp : autoParam (PlainArgs e es) auP) : EvP prog w n sc m σ (.Call (.Name x p) (e :: es) [] pos) P := fun A c g F rest s E Q hA B hF S q =>
 Call_ (name_f G B hF S (r_callK B G.f (ha A c g F rest s E _ _ hA B hF S fun c1 g1 vs s1 as σ1 hK w1 r1 S1 => by
  obtain ⟨ds, σa, σb, P1, rfl, hσ, hf, hP1⟩ := hK
  obtain ⟨ml, mc, S2, hm⟩ := S1.perm hσ
  have S3 := S2.perm (own' := ownLed prog w g1 σa ++ (ownLed prog w g1 σb ++ (frmLed F ml mc ++ (rest.il ++ rest.kp)))) (by rw [ownLed_app, List.append_assoc]; exact (List.perm_append_comm_assoc _ _ _).trans (List.Perm.append_left _ (List.perm_append_comm_assoc _ _ _)))
  refine ⟨⟨_, _, S3.lower w1.up⟩, wpAny_call (codeAny_mono (hf A c1 g1 _ s1 vs hA (B.keeps w1.up) S3 (AVs.rd r1 r1)) fun r' s2 z => ?_)⟩
  obtain ⟨c2, g2, v, d, σ', rfl, hP, w2, r2, S4⟩ := z
  refine q c2 g2 v d (σ' ++ σb) s2 (hP1 _ _ hP) (w1.trans w2) r2 ⟨ml, mc, ?_, fun x a e => let ⟨v, h1, h2⟩ := hm x a e; ⟨v, h1.up w2.up, h2.up w2.up⟩⟩
  have S5 := ownLed_up (fl := []) (σ := σb) (kp := ownLed prog w g2 σ' ++ (frmLed F ml mc ++ (rest.il ++ rest.kp))) w2.up (S4.perm (List.perm_append_comm_assoc _ _ _))
  exact S5.perm (by rw [List.nil_append, ownLed_app, List.append_assoc]; exact ((List.perm_append_comm_assoc _ _ _).trans (List.Perm.append_left _ (List.perm_append_comm_assoc _ _ _))).trans (List.perm_append_comm_assoc _ _ _))) (hp _).1 ((hp _).2 _)))
theorem evp_drop (h : EvP prog w n sc m σ e P) (hd : ∀ d σ', P d σ' -> ∃ σa σb, σ'.Perm (σa ++ σb) /\ P1 d σa) : EvP prog w n sc m σ e P1 := fun A c g F rest s E Q hA B hF S q =>
 h A c g F rest s E Q hA B hF S fun c' g' v d σ' s' hP w' r S' => let ⟨σa, σb, hσ, h1⟩ := hd d σ' hP; q c' g' v d σa s' h1 w' r (S'.perm hσ).dropO
end

end
section
noncomputable def Toks : List Str -> List Nat -> List Nat -> Prop
 | [], c, c' => c = c'
 | x :: ws, c, c' => strOf (lexT c).1 = x /\ Toks ws (lexT c).2 c'
noncomputable def TokR : Rows -> List Nat -> List Nat -> Prop
 | [], c, c' => c = c'
 | ws :: D, c, c' => ∃ c1, Toks ws c c1 /\ TokR D c1 c'
theorem lexS_le (q : Nat -> Bool) : ∀ (k : Nat) (l : List Nat), l.length <= k -> (lexS q l).2.length <= l.length
 | 0, l, h => by cases l with | nil => exact Nat.le_refl _ | cons _ _ => cases h
 | k + 1, [], _ => Nat.le_refl _
 | k + 1, c :: r, h => by
  have hr : r.length <= k := Nat.le_of_succ_le_succ h
  by_cases hq : q c = true
  ·rw [lexS_stop hq]; exact Nat.le_succ _
  ·rw [lexS_go hq]
   have h1 := escR_le c r
   have := lexS_le q k (escR c r) (Nat.le_trans h1 hr)
   show (lexS q (escR c r)).2.length <= r.length + 1
   omega
theorem lexT_le : ∀ l : List Nat, (lexT l).2.length <= l.length
 | [] => Nat.le_refl _
 | c :: r => by
  rw [lexT_c]
  split
  ·exact Nat.le_succ_of_le (lexT_le r)
  ·split
   ·exact Nat.le_succ_of_le (lexS_le _ _ r (Nat.le_refl _))
   ·have := lexS_le isW _ (escR c r) (Nat.le_refl _)
    have := escR_le c r
    show (lexS isW (escR c r)).2.length <= r.length + 1
    omega
theorem evx_getE {prog : Program} {w : World} {n : Nat} {sc : Sc} {m : AM} {σ σ' : OwnL} {e : Expr} {x dx p rl : Addr} {ln ln' : Int} {ps ps' : List Str} {cs cs' : List Nat} {y : Str} {pos p2 : Pos} (h : Ev prog w n sc m σ e (.d (.obj x))) (hg : getD ln ps cs = (y, ln', ps', cs')) (P : PutO x (.lex dx p rl ln ps cs) (.lex dx p rl ln' ps' cs') σ σ') (hz : ps.length < sizeLine) (hc : cs.length < sizeLine) (hn : 5 <= n) {pl : Env -> Sem Bool}
  (he : autoParam (∀ env, eval (.Call (.Attribute e (Str.ofString "get_token") p2) [] [] pos) env = (do
   let ov <- eval e env
   standAt p2.atName
   let (f, first) <- holding [ov] (getMethod ov (Str.ofString "get_token") (pl env))
   callWith pos f first (backTo pos (starEach [] env)) [])) auI1) : EvX prog w n sc m σ (.Call (.Attribute e (Str.ofString "get_token") p2) [] [] pos) (.str y) σ' := by
 have := evx_get (σ' := σ') h (by rw [hg]; exact P) hz hc hn he
 rw [hg] at this
 exact this
noncomputable def lineO (x dx p rl : Addr) (k : Int) (c : List Nat) : OwnL := [(107, .tab), (x, .lex dx p rl (k - nl c) [] c)]
section
variable {prog : Program} {w : World} {sc : Sc} {m : AM} {x dx p rl : Addr} {k : Int} {tgt e : Expr} {p2 p3 pos : Pos}
theorem ct_toks {pl : Env -> Sem Bool} (he0 : ∀ env, eval (.Call (.Attribute (.Name (Str.ofString "line") p2) (Str.ofString "get_token") p3) [] [] pos) env = (do
   let ov <- eval (.Name (Str.ofString "line") p2) env
   standAt p3.atName
   let (f, first) <- holding [ov] (getMethod ov (Str.ofString "get_token") (pl env))
   callWith pos f first (backTo pos (starEach [] env)) [])) (hm : m.lookup (Str.ofString "line") = some (.d (.obj x))) (ht : ∀ d, ∃ m1, Tb prog w 29 sc tgt d m m1 /\ (∀ y a, m.lookup y = some a -> m1.lookup y = some a)) : ∀ (ws : List Str) (c c' : List Nat), Toks ws c c' -> c.length < sizeLine ->
  Ct prog w 29 sc tgt [] (.Call (.Attribute (.Name (Str.ofString "line") p2) (Str.ofString "get_token") p3) [] [] pos) m (ws.map .str) (lineO x dx p rl k c) (ws.map .str) (lineO x dx p rl k c')
 | [], c, c', h, _ => by
  have h : c = c' := h
  subst h; exact .nil
 | y :: ws, c, c', h, hz => by
  obtain ⟨m1, h1, h2⟩ := ht (.str y)
  have hl := lexT_le c
  have e : getD (k - nl c) [] c = (y, k - nl (lexT c).2, [], (lexT c).2) := by
   show (strOf (lexT c).1, k - nl c + nl c - nl (lexT c).2, _, _) = _
   rw [h.1, show k - nl c + nl c - nl (lexT c).2 = k - nl (lexT c).2 by omega]
  have he := evx_getE (p2 := p3) (pos := pos) (ev_name (pos := p2) (prog := prog) (w := w) (n := 29) (sc := sc) (σ := lineO x dx p rl k c) (h2 _ _ hm)) e (σ' := lineO x dx p rl k (lexT c).2) (.tail .head) (by rw [sizeLine_eq]; decide) hz (by decide) he0
  exact .yes h1 h2 rfl he (ct_toks he0 hm ht ws _ _ h.2 (by omega))
theorem Toks_le : ∀ (ws : List Str) (c c' : List Nat), Toks ws c c' -> c'.length <= c.length
 | [], c, c', h => Nat.le_of_eq (congrArg List.length (show c = c' from h).symm)
 | y :: ws, c, c', h => Nat.le_trans (Toks_le ws _ _ h.2) (lexT_le c)
end
section
variable {prog : Program} {w : World} {K : Fl -> AM -> OwnL -> Prop}
theorem law4 {is cs : List Int} {st : Rows × Prs} {t : Str} {c : List Nat} (hz : t.length <= 1000) (hR : TokR st.1 t.cps.toList c) (hc : lexT c = ([], [])) (hl : st.1.length <= 10) (hl2 : ∀ ws ∈ st.1, ws.length <= 1000) (k : ∀ l : LexR, ExP prog w 29 lawSc ((Str.ofString "line", .d (.obj l.x)) :: lawMt is cs st t) [(107, .tab), lexL l []] (lawB.drop 10) K) : ExP prog w 29 lawSc (lawMt is cs st t) [(107, .tab)] (lawB.drop 8) K := by
 have hs : t.length < sizeLine := by rw [sizeLine_eq]; omega
 refine exp_setP (evp_callS (σa := [(107, .tab)]) (σb := []) (.refl _) (by walk_at "glf") (evl_cons (ev_name rfl) evl_nil) (FnP.mono (lexer_fn hs) (by decide))) (.inr ⟨rfl, by decide⟩) ?_
 rintro d σ' ⟨_, ⟨x, dx, p, rl, rfl, rfl⟩, rfl⟩
 have e0 : (1 : Int) = (1 + nl t.cps.toList) - nl t.cps.toList := by omega
 refine exp_perm (σ' := lineO x dx p rl (1 + nl t.cps.toList) t.cps.toList) (by unfold lineO; rw [<- e0]; exact .refl _) ?_
 have hcl : t.cps.toList.length < sizeLine := by rw [Array.length_toList]; exact hs
 refine exp_skipX (evtx_orF (evtx_cmp (d1 := .list (st.1.map rowD)) (d2 := .list (st.1.map rowD)) (σ1 := lineO x dx p rl (1 + nl t.cps.toList) c) (σ2 := lineO x dx p rl (1 + nl t.cps.toList) c) (evx_lcomp (it_list (ev_name rfl)) ⟨rfl, by decide, rfl, by decide, .cons (x := Str.ofString "line") rfl (by decide) .nil⟩ ?_ ?_ (by decide)) (Ev.toX (ev_name rfl)) (op_neL (u := 2) (PSame.refl 3 _ ?_) (by decide))) (evtx_orF (σ1 := lineO x dx p rl (1 + nl t.cps.toList) []) ?_ (evtx_orF (σ1 := lineO x dx p rl (1 + nl t.cps.toList) []) ?_ evt_orn))) ?_
 ·refine (?_ : ∀ (D : Rows) c0, TokR D c0 c -> c0.length < sizeLine -> (∀ ws ∈ D, ws.length <= 1000) -> Ct prog w 29 _ _ _ _ _ (D.map rowD) (lineO x dx p rl (1 + nl t.cps.toList) c0) (D.map rowD) (lineO x dx p rl (1 + nl t.cps.toList) c)) st.1 _ hR hcl hl2
  clear hR hc hl hl2 k e0 hcl
  intro D
  induction D with
  | nil =>
   intro c0 h _ _
   have h : c0 = c := h
   subst h; exact .nil
  | cons ws D ih =>
   rintro c0 ⟨c1, h1, h2⟩ h3 h4
   have := Toks_le _ _ _ h1
   refine .yes (tb_name (.inl rfl)) (Sub.at (by walk_at "sub")) rfl ?_ (ih c1 h2 (by omega) fun y hy => h4 y (List.mem_cons_of_mem _ hy))
   exact evx_lcomp (it_list (ev_name rfl)) ⟨rfl, by decide, rfl, by decide, .cons (x := Str.ofString "line") rfl (by decide) .nil⟩ (ct_toks (fun _ => rfl) rfl (fun d => ⟨_, tb_name (.inl rfl), Sub.at (by walk_at "sub")⟩) ws c0 c1 h1 h3) (by rw [List.length_map, sizeLine_eq]; have := h4 ws List.mem_cons_self; omega) (by decide)
 ·rw [List.length_map, sizeLine_eq]; omega
 ·rw [okP_l, List.all_map, List.all_eq_true]
  intro ws _
  show okP 2 (.list (ws.map .str)) = true
  rw [okP_l, List.all_map, List.all_eq_true]
  intro y _; rfl
 ·have e : getD ((1 + nl t.cps.toList) - nl c) [] c = (Str.ofString "", (1 + nl t.cps.toList) - nl [], [], []) := by
   show (strOf (lexT c).1, (1 + nl t.cps.toList) - nl c + nl c - nl (lexT c).2, _, (lexT c).2) = _
   rw [hc, show (1 + nl t.cps.toList) - nl c + nl c - nl [] = (1 + nl t.cps.toList) - nl [] by omega]; rfl
  have hcz : c.length < sizeLine := by
   have key : ∀ (D : Rows) c0, TokR D c0 c -> c.length <= c0.length := fun D => by
    induction D with
    | nil => intro c0 h; exact Nat.le_of_eq (congrArg List.length (show c0 = c from h).symm)
    | cons ws D ih => rintro c0 ⟨c1, h1, h2⟩; exact Nat.le_trans (ih c1 h2) (Toks_le _ _ _ h1)
   have := key _ _ hR
   omega
  exact evtx_cmp (d2 := .str (Str.ofString "")) (evx_getE (ev_name rfl) e (.tail .head) (Nat.zero_lt_of_lt hcz) hcz (by decide)) (Ev.toX ev_str) op_neS
 ·have ox : Op2 prog w 29 (lineO x dx p rl (1 + nl t.cps.toList) []) (compareOp .NotEq) (.d (.int ((1 + nl t.cps.toList) - nl []))) (.d (.int (((t.cps.toList.count 10 : Nat) : Int) + 1))) (.d (.bool false)) := by
   have := op_neI (prog := prog) (w := w) (n := 29) (σ := lineO x dx p rl (1 + nl t.cps.toList) []) (i := (1 + nl t.cps.toList) - nl []) (j := ((t.cps.toList.count 10 : Nat) : Int) + 1)
   rw [show ((1 + nl t.cps.toList) - nl [] != ((t.cps.toList.count 10 : Nat) : Int) + 1) = false by
    rw [bne_eq_false_iff_eq]; unfold nl; simp; omega] at this
   exact this
  exact EvT.toX (evt_cmp (ev_lineno (d' := .none) (ev_name rfl) (.tail .head) (fun _ => by with_unfolding_all rfl)) (ev_bin (ev_count (k := 10) (ev_name rfl) (ofS_nl ▸ ev_str)) ev_int op_add) ox)
 ·exact k ⟨Str.ofString "", x, dx, p, rl, (1 + nl t.cps.toList) - nl [], [], []⟩
end

end
section
noncomputable def lwPrices (calls : List Str) (cs : List Int) : Cs := ((Str.ofString "" :: calls).zip cs).foldl (fun c y => aPut c (tl1 y.1) (y.2.fmod 2001 - 1000)) []
noncomputable def lwTab (b : Bk) (call : Str) : Cs := ((aGet b (tl1 call)).getD e0).cs
theorem it_congr {prog : Program} {w : World} {n : Nat} {sc : Sc} {m : AM} {σ : OwnL} {e tgt : Expr} {ds ds' : List PyData} (h : ds = ds') (hi : It prog w n sc m σ e tgt ds) : It prog w n sc m σ e tgt ds' := h ▸ hi
theorem ev_conv {prog : Program} {w : World} {n : Nat} {sc : Sc} {m : AM} {σ : OwnL} {e : Expr} {a b : AV} (h : a = b) (hi : Ev prog w n sc m σ e a) : Ev prog w n sc m σ e b := h ▸ hi
theorem cd_map {prog : Program} {w : World} {n : Nat} {sc : Sc} {tgt kx vx : Expr} {m : AM} {σ : OwnL} {α : Type} (enc : α -> PyData) (key : α -> Str) (val : α -> PyData) (l : List α) (h : ∀ y ∈ l, ∃ m1, Tb prog w n sc tgt (enc y) m m1 /\ (∀ x a, m.lookup x = some a -> m1.lookup x = some a) /\ Ev prog w n sc m1 σ kx (.d (.str (key y))) /\ Ev prog w n sc m1 σ vx (.d (val y))) :
  ∀ kvs, Cd prog w n sc tgt kx vx m σ (l.map enc) kvs (l.foldl (fun c y => kvPut c (key y) (val y)) kvs) := by
 induction l with
 | nil => exact fun kvs => .nil
 | cons y l ih =>
  intro kvs
  obtain ⟨m1, h1, h2, h3, h4⟩ := h y List.mem_cons_self
  exact .cons h1 h2 h3 h4 (ih (fun z hz => h z (List.mem_cons_of_mem _ hz)) _)
theorem aD_fold {α β : Type} (enc : β -> PyData) (key : α -> Str) (val : α -> β) (l : List α) : ∀ c : List (Str × β), l.foldl (fun c y => kvPut c (key y) (enc (val y))) (aD enc c) = aD enc (l.foldl (fun c y => aPut c (key y) (val y)) c) := by
 induction l with
 | nil => intro c; rfl
 | cons y l ih => intro c; rw [List.foldl_cons, List.foldl_cons, <- ih, aD_put]
noncomputable def lawMp (is cs : List Int) (st : Rows × Prs) (t : Str) (xl : Addr) (tabs : PyData) : AM :=
 (Str.ofString "table", .d tabs) :: (Str.ofString "book", .d (.dict (aD entD (fileB (lwPrices (lwCalls (cs.getD 4 0)) cs) st.2)))) :: (Str.ofString "prices", .d (.dict (csD (lwPrices (lwCalls (cs.getD 4 0)) cs)))) :: (Str.ofString "line", .d (.obj xl)) :: lawMt is cs st t
noncomputable def lwTabs (cs : List Int) (prs : Prs) : List Cs := (lwCalls (cs.getD 4 0)).map (lwTab (fileB (lwPrices (lwCalls (cs.getD 4 0)) cs) prs))
section
variable {prog : Program} {w : World} {K : Fl -> AM -> OwnL -> Prop}
theorem law5 {is cs : List Int} {st : Rows × Prs} {t : Str} {xl : Addr} {σ : OwnL} (h7 : cs.length = 7) (hF : FInv (lwPrices (lwCalls (cs.getD 4 0)) cs) [] st.2) (k : ExP prog w 29 lawSc (lawMp is cs st t xl (.list ((lwTabs cs st.2).map fun c => .dict (csD c)))) σ (lawB.drop 13) K) :
  ExP prog w 29 lawSc ((Str.ofString "line", .d (.obj xl)) :: lawMt is cs st t) σ (lawB.drop 10) K := by
 have hz : ∀ {a : Nat}, a <= 50000 -> a <= sizeLine := fun h => by rw [sizeLine_eq]; omega
 have hcl : ∀ x ∈ lwCalls (cs.getD 4 0), x.length <= 7 := fun x hx => by
  obtain ⟨i, _, rfl⟩ := List.mem_map.mp hx; exact lwCall_len _ _
 have hc3 : (lwCalls (cs.getD 4 0)).length = 3 := by simp [lwCalls]
 unfold lwTabs lawMp at k
 unfold lawMt lawMe at k ⊢
 generalize hcalls : lwCalls (cs.getD 4 0) = calls at *
 refine exp_cons (es_set (a := .d (.dict (csD (lwPrices calls cs)))) (ev_dcomp (ds := ((Str.ofString "" :: calls).zip cs).map fun y => .tuple [.str y.1, .int y.2]) (it_congr zip_enc (it_zip (xs := (Str.ofString "" :: calls).map .str) (ys := cs.map .int) (by walk_at "glb") (fun _ => ⟨rfl, fun _ => rfl⟩) (fun _ => ⟨rfl, fun _ => rfl⟩) (ev_bin (ev_list (evl_cons ev_str evl_nil) (sz_le rfl)) (ev_name rfl) (op_addL (by simp [hc3, sizeLine_eq]))) (ev_name rfl))) ⟨rfl, by decide, rfl, by decide, .nil⟩ ?_ ?_ (by decide)) (.inr ⟨rfl, by decide⟩)) ?_
 ·have := aD_fold PyData.int (fun y : Str × Int => tl1 y.1) (fun y => y.2.fmod 2001 - 1000) ((Str.ofString "" :: calls).zip cs) []
  show Cd _ _ _ _ _ _ _ _ _ _ _ (aD PyData.int (lwPrices calls cs))
  unfold lwPrices
  rw [<- this]
  refine cd_map (fun y => PyData.tuple [.str y.1, .int y.2]) (fun y : Str × Int => tl1 y.1) (fun y => .int (y.2.fmod 2001 - 1000)) _ (fun y hy => ⟨_, tb_tup (.cons (.inl rfl) (.cons (.inl rfl) .nil)), Sub.at (by walk_at "sub"), ?_, ?_⟩) _
  ·have hl : y.1.length <= 7 := by
    rcases List.mem_cons.mp (List.of_mem_zip hy).1 with h | h
    ·rw [h]; decide
    ·exact hcl _ h
   exact ev_sliceF (ev_name rfl) ev_int (ops_str (hz (by omega)))
  ·exact ev_bin (ev_bin (ev_name rfl) ev_int (op_mod (by decide))) ev_int op_sub
 ·rw [List.length_map, List.length_zip, sizeLine_eq]; omega
 refine exp_cons (es_set (a := .d (.dict (aD entD (fileB (lwPrices calls cs) st.2)))) (ev_callF (by walk_at "glf") (evl_cons (ev_name rfl) (evl_cons (ev_name rfl) evl_nil)) (Fn.mono (filed_fn hF) (by decide))) (.inr ⟨rfl, by decide⟩)) ?_
 refine exp_cons (es_set (a := .d (.list ((calls.map (lwTab (fileB (lwPrices calls cs) st.2))).map fun c => .dict (csD c)))) (EvX.ev (evx_lcomp (it_list (ev_name rfl)) ⟨rfl, by decide, rfl, by decide, .cons (x := Str.ofString "book") rfl (by decide) .nil⟩ ?_ ?_ (by decide))) (.inr ⟨rfl, by decide⟩)) k
 ·rw [List.map_map]
  refine ct_map PyData.str _ calls fun x hx => ⟨_, tb_name (.inl rfl), Sub.at (by walk_at "sub"), ?_⟩
  have e : (kvGet (aD entD (fileB (lwPrices calls cs) st.2)) (tl1 x)).getD (entD e0) = entD ((aGet (fileB (lwPrices calls cs) st.2) (tl1 x)).getD e0) := by
   rw [aD_get]
   cases aGet (fileB (lwPrices calls cs) st.2) (tl1 x) <;> rfl
  have hg : ∀ {σ : OwnL}, OpI prog w 29 (.d (.tuple [.int ((aGet (fileB (lwPrices calls cs) st.2) (tl1 x)).getD e0).cc, .int ((aGet (fileB (lwPrices calls cs) st.2) (tl1 x)).getD e0).nc, .int ((aGet (fileB (lwPrices calls cs) st.2) (tl1 x)).getD e0).tt, .int ((aGet (fileB (lwPrices calls cs) st.2) (tl1 x)).getD e0).ct, .dict (csD ((aGet (fileB (lwPrices calls cs) st.2) (tl1 x)).getD e0).cs)])) (.d (.int 4)) (.d (.dict (csD (lwTab (fileB (lwPrices calls cs) st.2) x)))) := fun {σ} => opi_tuple (by decide) (by decide) rfl
  refine ev_sub (ev_conv (congrArg AV.d e) (ev_get (ev_name rfl) dat_d (ev_sliceF (ev_name rfl) ev_int (ops_str (hz (by have := hcl x hx; omega)))) (ev_tuple (evl_cons ev_int (evl_cons ev_int (evl_cons ev_int (evl_cons ev_int (evl_cons ev_dict0 evl_nil))))) (sz_le rfl)))) ev_int (hg (σ := []))
 ·rw [List.length_map, hc3, sizeLine_eq]; decide
end

end
section
noncomputable def lwSq (tabs : List Cs) (calls : List Str) (i j : Nat) : Int := -((aGet (tabs.getD j []) (tl1 (calls.getD i (Str.ofString "")))).getD 0)
noncomputable def csSum (c : Cs) : Int := (c.map (·.2)).foldl (· + ·) 0
noncomputable def lwDiag (D : Rows) (tabs : List Cs) (k : Nat) : Int := if D.getD k [] = [] then 1 else csSum (tabs.getD k [])
noncomputable def lwRow (D : Rows) (tabs : List Cs) (calls : List Str) (j i : Nat) : List Int := (List.range 3).map fun c => if i = c /\ i < j then lwSq tabs calls i c + lwDiag D tabs i else lwSq tabs calls i c
noncomputable def lwTerm (r0 r1 r2 : List Int) (k : Nat) : Int := r0.getD ((k : Int) % 3).toNat 0 * (r1.getD (((k : Int) - 2) % 3).toNat 0 * r2.getD (((k : Int) - 1) % 3).toNat 0 - r1.getD (((k : Int) - 1) % 3).toNat 0 * r2.getD (((k : Int) - 2) % 3).toNat 0)
noncomputable def lwDue (D : Rows) (tabs : List Cs) (calls : List Str) : Int := ((List.range 3).map (lwTerm (lwRow D tabs calls 3 0) (lwRow D tabs calls 3 1) (lwRow D tabs calls 3 2))).sum
noncomputable def sqO (D : Rows) (tabs : List Cs) (calls : List Str) (a0 a1 a2 : Addr) (σ : OwnL) (j : Nat) : OwnL := (a2, .list ((lwRow D tabs calls j 2).map .int)) :: (a1, .list ((lwRow D tabs calls j 1).map .int)) :: (a0, .list ((lwRow D tabs calls j 0).map .int)) :: σ
set_option tactic.hygienic true in
theorem small_bits {a : Int} (h : a.natAbs < 2 ^ 60) : Builtin.Int.intBits a <= 64 := by
 unfold Builtin.Int.intBits
 split
 ·omega
 ·rename_i h0
  have h1 : a.natAbs ≠ 0 := by intro e; exact h0 (by rw [Int.natAbs_eq_zero.mp e]; rfl)
  have := (Nat.log2_lt h1).mpr h
  omega
section
variable {prog : Program} {w : World} {n : Nat} {sc : Sc} {m : AM} {σ σ' : OwnL} {e1 e2 elt tgt : Expr} {body : List Stmt} {ad : Addr} {xs : List Int} {z : Int} {pos : Pos} {R : Nat -> PyData} {S : Nat -> OwnL}
theorem ctp3 (h : ∀ (i : Nat) σ, i < 3 -> ∃ m1, Tb prog w n sc tgt (.int (i : Int)) m m1 /\ (∀ x a, m.lookup x = some a -> m1.lookup x = some a) /\ EvP prog w n sc m1 σ elt fun o σ1 => ∃ ad, o = .obj ad /\ σ1 = (ad, R i) :: σ) :
  CtP prog w n sc tgt [] elt m (fun out σ' => ∃ a0 a1 a2, out = [.obj a0, .obj a1, .obj a2] /\ σ' = (a2, R 2) :: (a1, R 1) :: (a0, R 0) :: σ) (rangeD 3) [] σ := by
 obtain ⟨m1, h1, h2, h3⟩ := h 0 σ (by decide)
 refine ⟨m1, h1, h2, .inl ⟨rfl, EvP.mono h3 ?_⟩⟩
 rintro _ _ ⟨a0, rfl, rfl⟩
 obtain ⟨m1, h1, h2, h3⟩ := h 1 ((a0, R 0) :: σ) (by decide)
 refine ⟨m1, h1, h2, .inl ⟨rfl, EvP.mono h3 ?_⟩⟩
 rintro _ _ ⟨a1, rfl, rfl⟩
 obtain ⟨m1, h1, h2, h3⟩ := h 2 ((a1, R 1) :: (a0, R 0) :: σ) (by decide)
 refine ⟨m1, h1, h2, .inl ⟨rfl, EvP.mono h3 ?_⟩⟩
 rintro _ _ ⟨a2, rfl, rfl⟩
 exact ⟨a0, a1, a2, rfl, rfl⟩
theorem lp3 (h : ∀ k : Nat, k < 3 -> Bd prog w n sc tgt body (.int (k : Int)) m (S k) .next m (S (k + 1))) : Lp prog w n sc tgt body (rangeD 3) m (S 0) .next m (S 3) :=
 ⟨.next, m, S 1, h 0 (by decide), .next, m, S 2, h 1 (by decide), .next, m, S 3, h 2 (by decide), rfl, rfl, rfl⟩
theorem ev_sub3 (P : PutO ad (.list (xs.map .int)) .none σ σ') (hx : xs.length = 3) (h1 : Ev prog w n sc m σ e1 (.ref ad)) (h2 : Ev prog w n sc m σ e2 (.d (.int z))) (h3 : -3 <= z) (h4 : z < 3) (hs : autoParam (∀ o k, subscripted e2 false o k = operate [o, k] (getItem o k)) auI2) : Ev prog w n sc m σ (.Subscript e1 e2 pos) (.d (.int (xs.getD (z % 3).toNat 0))) := by
 by_cases h : z < 0
 ·have e : (z % 3).toNat = (z + ((xs.map PyData.int).length : Nat)).toNat := by rw [List.length_map, hx]; omega
  exact ev_subOwnN P h1 h2 h (by rw [List.length_map, hx]; omega) (by omega) (by rw [e]; exact getD_at (by rw [List.length_map]; omega)) hs
 ·have e : (z % 3).toNat = z.toNat := by omega
  exact ev_subOwn P h1 h2 (by omega) (by omega) (by rw [e]; exact getD_at (by omega)) hs
theorem cs_get (c : Cs) (x : Str) : (kvGet (csD c) x).getD (.int 0) = .int ((aGet c x).getD 0) := by
 rw [aD_get]; cases aGet c x <;> rfl
end
noncomputable def sel3 {α : Type} (a0 a1 a2 : α) : Nat -> α
 | 0 => a0
 | 1 => a1
 | _ => a2
theorem lwRow_ne {D : Rows} {tabs : List Cs} {calls : List Str} {i j : Nat} (h : i ≠ j) : lwRow D tabs calls (j + 1) i = lwRow D tabs calls j i :=
 List.map_congr_left fun c _ => by
  by_cases q : i = c /\ i < j
  ·rw [if_pos q, if_pos ⟨q.1, by omega⟩]
  ·rw [if_neg q, if_neg fun z => q ⟨z.1, by omega⟩]
theorem lwRow_eq (D : Rows) (tabs : List Cs) (calls : List Str) : ∀ k : Nat, k < 3 -> lwRow D tabs calls (k + 1) k = (lwRow D tabs calls k k).set k (lwSq tabs calls k k + lwDiag D tabs k)
 | 0, _ => rfl
 | 1, _ => rfl
 | 2, _ => rfl
theorem lwRow_at (D : Rows) (tabs : List Cs) (calls : List Str) : ∀ k : Nat, k < 3 -> (lwRow D tabs calls k k).getD k 0 = lwSq tabs calls k k
 | 0, _ => rfl
 | 1, _ => rfl
 | 2, _ => rfl
theorem lwRow_len (D : Rows) (tabs : List Cs) (calls : List Str) (j i : Nat) : (lwRow D tabs calls j i).length = 3 := rfl
theorem sq_put (D : Rows) (tabs : List Cs) (calls : List Str) (a0 a1 a2 : Addr) (σ : OwnL) : ∀ k : Nat, k < 3 -> PutO (sel3 a0 a1 a2 k) (.list ((lwRow D tabs calls k k).map .int)) (.list (((lwRow D tabs calls k k).map PyData.int).set (k : Int).toNat (.int (lwSq tabs calls k k + lwDiag D tabs k)))) (sqO D tabs calls a0 a1 a2 σ k) (sqO D tabs calls a0 a1 a2 σ (k + 1)) := fun k hk => by
 rw [Int.toNat_natCast, <- List.map_set, <- lwRow_eq D tabs calls k hk]
 unfold sqO
 match k, hk with
 | 0, _ => rw [lwRow_ne (i := 2) (j := 0) (by decide), lwRow_ne (i := 1) (j := 0) (by decide)]; exact .tail (.tail .head)
 | 1, _ => rw [lwRow_ne (i := 2) (j := 1) (by decide), lwRow_ne (i := 0) (j := 1) (by decide)]; exact .tail .head
 | 2, _ => rw [lwRow_ne (i := 1) (j := 2) (by decide), lwRow_ne (i := 0) (j := 2) (by decide)]; exact .head

end
section
section
variable {prog : Program} {w : World} {K : Fl -> AM -> OwnL -> Prop}
noncomputable def lawMq (is cs : List Int) (st : Rows × Prs) (t : Str) (xl : Addr) (due : Int) : AM := (Str.ofString "due", .d (.int due)) :: lawMp is cs st t xl (.list ((lwTabs cs st.2).map fun c => .dict (csD c)))
theorem exp_dropO {n : Nat} {sc : Sc} {m : AM} {σ σa σb : OwnL} {ss : List Stmt} (h : σ.Perm (σa ++ σb)) (k : ExP prog w n sc m σa ss K) : ExP prog w n sc m σ ss K := fun A c g F rest s E Q hA B hF S q => k A c g F rest s E Q hA B hF (S.perm h).dropO q
theorem law6 {is cs : List Int} {st : Rows × Prs} {t : Str} {xl : Addr} {σ : OwnL} (hD : st.1.length = 3) (hrow : ∀ ws ∈ st.1, ws.length <= 1000) (hsm : ∀ j i, ∀ x ∈ lwRow st.1 (lwTabs cs st.2) (lwCalls (cs.getD 4 0)) j i, x.natAbs < 2 ^ 60)
  (k : ExP prog w 29 lawSc (lawMq is cs st t xl (lwDue st.1 (lwTabs cs st.2) (lwCalls (cs.getD 4 0)))) σ (lawB.drop 16) K) :
  ExP prog w 29 lawSc (lawMp is cs st t xl (.list ((lwTabs cs st.2).map fun c => .dict (csD c)))) σ (lawB.drop 13) K := by
 have hz : ∀ {a : Nat}, a <= 50000 -> a <= sizeLine := fun h => by rw [sizeLine_eq]; omega
 have hcl : ∀ j, ((lwCalls (cs.getD 4 0)).getD j (Str.ofString "")).length <= 7 := fun j => by
  rw [List.getD_eq_getElem?_getD, lwCalls, List.getElem?_map]
  cases q : (List.range 3)[j]? with
  | none => show (Str.ofString "").length <= 7; decide
  | some i => exact lwCall_len _ _
 have hc3 : (lwCalls (cs.getD 4 0)).length = 3 := by simp [lwCalls]
 have ht3 : (lwTabs cs st.2).length = 3 := by unfold lwTabs; rw [List.length_map]; exact hc3
 unfold lawMq lawMp at k
 unfold lawMp
 unfold lawMt lawMe at k ⊢
 generalize lwTabs cs st.2 = tabs at *
 generalize lwCalls (cs.getD 4 0) = calls at *
 refine exp_setP (evp_lcomp (K := fun out σ' => ∃ a0 a1 a2, out = [.obj a0, .obj a1, .obj a2] /\ σ' = sqO st.1 tabs calls a0 a1 a2 σ 0) (it_range (hp := fun _ => ⟨rfl, fun _ => rfl⟩) (k := 3) (by walk_at "glb") ev_int rfl) ⟨rfl, by decide, rfl, by decide, .cons (x := Str.ofString "table") rfl (by decide) (.cons (x := Str.ofString "calls") rfl (by decide) .nil)⟩ (ctp3 (R := fun i => .list ((lwRow st.1 tabs calls 0 i).map .int)) fun i σ hi => ⟨_, tb_name (.inr ⟨rfl, by decide⟩), Sub.at (by walk_at "sub"), ?_⟩) (by rw [sizeLine_eq]; decide) (by decide)) (.inr ⟨rfl, by decide⟩) ?_
 ·refine EvP.mono (evp_lcompO (it_range (hp := fun _ => ⟨rfl, fun _ => rfl⟩) (k := 3) (by walk_at "glb") ev_int rfl) ⟨rfl, by decide, rfl, by decide, .cons (x := Str.ofString "table") rfl (by decide) (.cons (x := Str.ofString "calls") rfl (by decide) (.cons (x := Str.ofString "i") rfl (by decide) .nil))⟩ (Ct.toP (ct_map (fun j : Nat => PyData.int (j : Int)) (fun j => PyData.int (lwSq tabs calls i j)) (List.range 3) fun j hj => ⟨_, tb_name (.inl rfl), Sub.at (by walk_at "sub"), ?_⟩) []) (by rw [sizeLine_eq]; decide) (by decide)) ?_
  ·have hj3 : j < 3 := List.mem_range.mp hj
   exact ev_neg (ev_conv (congrArg AV.d (cs_get (tabs.getD j []) (tl1 (calls.getD i (Str.ofString ""))))) (ev_get (ev_atN (f := fun c => PyData.dict (csD c)) [] (ev_name rfl) (ev_name rfl) (by omega) (by omega)) dat_d (ev_sliceF (ev_atN (f := PyData.str) (Str.ofString "") (ev_name rfl) (ev_name rfl) (by omega) (by omega)) ev_int (ops_str (hz (by have := hcl i; omega)))) ev_int))
  ·rintro d σ' ⟨ad, out, σ0, rfl, rfl, rfl, rfl⟩
   refine ⟨ad, rfl, ?_⟩
   rw [show lwRow st.1 tabs calls 0 i = (List.range 3).map (lwSq tabs calls i) from List.map_congr_left fun c _ => by rw [if_neg (by omega)], List.map_map]
   rfl
 rintro d σ' ⟨out, rfl, a0, a1, a2, rfl, rfl⟩
 refine exp_cons (es_for (it_range (hp := fun _ => ⟨rfl, fun _ => rfl⟩) (k := 3) (by walk_at "glb") ev_int rfl) (lp3 (S := sqO st.1 tabs calls a0 a1 a2 σ) fun k hk => ?_) (by decide)) ?_
 ·refine bd_post (bd_name (.inl rfl) (ex_cons (es_augOwn (sq_put st.1 tabs calls a0 a1 a2 σ k hk) (ev_obj (ev_sub (ev_name rfl) (ev_name rfl) (opi_list (d := .obj (sel3 a0 a1 a2 k)) (by omega) (by omega) (by rw [Int.toNat_natCast]; match k, hk with | 0, _ => rfl | 1, _ => rfl | 2, _ => rfl)))) (ev_name rfl) (d1 := .int (lwSq tabs calls k k)) (by rw [Int.toNat_natCast, <- lwRow_at st.1 tabs calls k hk]; exact getD_at (by rw [lwRow_len]; exact hk)) (d2 := .int (lwDiag st.1 tabs k)) (ev_ifexp (b := ((st.1.getD k []).map PyData.str).isEmpty) (evt_cmp (ev_atN (f := rowD) [] (ev_name rfl) (ev_name rfl) (by omega) (by omega)) (ev_list evl_nil (sz_le rfl)) op_eqNil) (fun h => ?_) fun h => ?_) op_iadd (by omega) (by omega)) ex_nil)) (by walk_at "sub")
  ·rw [show lwDiag st.1 tabs k = 1 from if_pos (by simpa using h)]; exact ev_int
  ·rw [show lwDiag st.1 tabs k = csSum (tabs.getD k []) from if_neg (by simpa using h)]
   exact ev_callF (by walk_at "glf") (evl_cons (ev_atN (f := fun c => PyData.dict (csD c)) [] (ev_name rfl) (ev_name rfl) (by omega) (by omega)) evl_nil) (Fn.mono (count_fn (by simp [csD, aD])) (by decide))
 have hmul : ∀ {j i : Nat} {c : Nat} {b : Int}, IntMulOk ((lwRow st.1 tabs calls j i).getD c 0) b := fun {j i c b} => IntMulOk.of_left (small_bits (by
  rw [List.getD_eq_getElem?_getD]
  cases q : (lwRow st.1 tabs calls j i)[c]? with
  | none => decide
  | some x => exact hsm j i x (List.mem_of_getElem? q)))
 have P0 : PutO a0 (.list ((lwRow st.1 tabs calls 3 0).map .int)) .none (sqO st.1 tabs calls a0 a1 a2 σ 3) _ := .tail (.tail .head)
 have P1 : PutO a1 (.list ((lwRow st.1 tabs calls 3 1).map .int)) .none (sqO st.1 tabs calls a0 a1 a2 σ 3) _ := .tail .head
 have P2 : PutO a2 (.list ((lwRow st.1 tabs calls 3 2).map .int)) .none (sqO st.1 tabs calls a0 a1 a2 σ 3) _ := .head
 refine exp_cons (es_assign (a := .d (.int (lwDue st.1 tabs calls))) (ev_callB (by walk_at "glb") (evl_cons (EvX.ev (evx_lcomp (out := ((List.range 3).map (lwTerm (lwRow st.1 tabs calls 3 0) (lwRow st.1 tabs calls 3 1) (lwRow st.1 tabs calls 3 2))).map .int) (it_range (hp := fun _ => ⟨rfl, fun _ => rfl⟩) (k := 3) (by walk_at "glb") ev_int rfl) ⟨rfl, by decide, rfl, by decide, .cons (x := Str.ofString "square") rfl (by decide) .nil⟩ ?_ (by rw [sizeLine_eq]; decide) (by decide))) evl_nil) callb_sum) rfl) ?_
 ·rw [List.map_map]
  refine ct_map (fun j : Nat => PyData.int (j : Int)) _ (List.range 3) fun j hj => ⟨_, tb_name (.inl rfl), Sub.at (by walk_at "sub"), ?_⟩
  have hj3 : j < 3 := List.mem_range.mp hj
  have sq : ∀ {m : AM} {σ : OwnL} {sc : Sc} {p1 p2 p3 : Pos} {kk : Nat} (c : Nat), c < 3 -> m.lookup (Str.ofString "square") = some (.d (.list [.obj a0, .obj a1, .obj a2])) -> Ev prog w 29 sc m σ (.Subscript (.Name (Str.ofString "square") p1) (.Constant (.int (c : Int)) kk p2) p3) (.ref (sel3 a0 a1 a2 c)) := fun c hc g => ev_obj (ev_sub (ev_name g) ev_int (opi_list (d := .obj (sel3 a0 a1 a2 c)) (by omega) (by omega) (by rw [Int.toNat_natCast]; match c, hc with | 0, _ => rfl | 1, _ => rfl | 2, _ => rfl)))
  have e1 : ∀ {m : AM} {σ : OwnL} {sc : Sc} {p1 p2 p3 : Pos} {kk : Nat}, m.lookup (Str.ofString "k") = some (.d (.int (j : Int))) -> Ev prog w 29 sc m σ (.BinOp (.Name (Str.ofString "k") p1) .Sub (.Constant (.int 1) kk p2) p3) (.d (.int ((j : Int) - 1))) := fun g => ev_bin (ev_name g) ev_int op_sub
  have e2 : ∀ {m : AM} {σ : OwnL} {sc : Sc} {p1 p2 p3 : Pos} {kk : Nat}, m.lookup (Str.ofString "k") = some (.d (.int (j : Int))) -> Ev prog w 29 sc m σ (.BinOp (.Name (Str.ofString "k") p1) .Sub (.Constant (.int 2) kk p2) p3) (.d (.int ((j : Int) - 2))) := fun g => ev_bin (ev_name g) ev_int op_sub
  exact ev_bin (ev_sub3 P0 rfl (sq 0 (by decide) rfl) (ev_name rfl) (by omega) (by omega)) (ev_bin (ev_bin (ev_sub3 P1 rfl (sq 1 (by decide) rfl) (e2 rfl) (by omega) (by omega)) (ev_sub3 P2 rfl (sq 2 (by decide) rfl) (e1 rfl) (by omega) (by omega)) (op_mul hmul)) (ev_bin (ev_sub3 P1 rfl (sq 1 (by decide) rfl) (e1 rfl) (by omega) (by omega)) (ev_sub3 P2 rfl (sq 2 (by decide) rfl) (e2 rfl) (by omega) (by omega)) (op_mul hmul)) op_sub) (op_mul hmul)
 ·exact exp_dropO (σa := σ) (σb := [(a2, .list ((lwRow st.1 tabs calls 3 2).map .int)), (a1, .list ((lwRow st.1 tabs calls 3 1).map .int)), (a0, .list ((lwRow st.1 tabs calls 3 0).map .int))]) (List.perm_append_comm (l₁ := [_, _, _])) (exp_pre k (Sub.at (by walk_at "sub")))
end

end
section
noncomputable def mxN (k : Nat) : Nat := if k > 1 then k else 1
theorem mx1_nat (k : Nat) : mx1 k = (mxN k : Int) := by unfold mx1 mxN; split <;> split <;> omega
theorem len_map {prog : Program} {w : World} {n : Nat} {xs : List Str} (h : xs.length <= sizeLine) : CallB prog w n (.builtin "len") [.list (xs.map .str)] (.int (xs.length : Nat)) := by
 have := callb_lenL (prog := prog) (w := w) (n := n) (xs := xs.map PyData.str) (by rw [List.length_map]; exact h)
 rw [List.length_map] at this; exact this
noncomputable def lwCount (D : Rows) : Nat := (D.getD 0 []).length * mxN (D.getD 1 []).length * mxN (D.getD 2 []).length
noncomputable def lwLen (calls : List Str) (D : Rows) : Nat := (Txt.join (Str.ofString "") (calls.take 1 ++ D.getD 0 [] ++ D.getD 1 [] ++ D.getD 2 [])).length
noncomputable def lawMn (is cs : List Int) (st : Rows × Prs) (t : Str) (xl : Addr) (due : Int) : AM := (Str.ofString "length", .d (.int (lwLen (lwCalls (cs.getD 4 0)) st.1 : Nat))) :: (Str.ofString "count", .d (.int (lwCount st.1 : Nat))) :: lawMq is cs st t xl due
section
variable {prog : Program} {w : World} {K : Fl -> AM -> OwnL -> Prop}
theorem law7 {is cs : List Int} {st : Rows × Prs} {t : Str} {xl : Addr} {due : Int} {σ : OwnL} (hD : st.1.length = 3) (hn : (lwAll st.1).length <= 12) (hw : ∀ x ∈ lwAll st.1, x.length <= 10)
  (k : ExP prog w 29 lawSc (lawMn is cs st t xl due) σ (lawB.drop 17) K) : ExP prog w 29 lawSc (lawMq is cs st t xl due) σ (lawB.drop 16) K := by
 have hz : ∀ {a : Nat}, a <= 50000 -> a <= sizeLine := fun h => by rw [sizeLine_eq]; omega
 have hc3 : (lwCalls (cs.getD 4 0)).length = 3 := by simp [lwCalls]
 have hcl : ∀ x ∈ lwCalls (cs.getD 4 0), x.length <= 7 := fun x hx => by
  obtain ⟨i, _, rfl⟩ := List.mem_map.mp hx; exact lwCall_len _ _
 have l0 : (st.1.getD 0 []).length + (st.1.getD 1 []).length + (st.1.getD 2 []).length <= 12 := by unfold lwAll at hn; simp only [List.length_append] at hn; exact hn
 unfold lawMn lawMq lawMp at k
 unfold lawMq lawMp
 unfold lawMt lawMe at k ⊢
 have hj : ∀ y ∈ (lwCalls (cs.getD 4 0)).take 1 ++ st.1.getD 0 [] ++ st.1.getD 1 [] ++ st.1.getD 2 [], y.length <= 10 := fun y hy => by
  rw [List.append_assoc, List.append_assoc] at hy
  rcases List.mem_append.mp hy with hy | hy
  ·exact Nat.le_trans (hcl y (List.mem_of_mem_take hy)) (by decide)
  ·exact hw y (by unfold lwAll; rw [List.append_assoc]; exact hy)
 have hjl : ((lwCalls (cs.getD 4 0)).take 1 ++ st.1.getD 0 [] ++ st.1.getD 1 [] ++ st.1.getD 2 []).length <= 13 := by
  simp only [List.length_append, List.length_take]; omega
 have hrow : ∀ {m : AM} {σ : OwnL} {i : Nat} {p1 p2 p3 : Pos} {kk : Nat}, i < 3 -> m.lookup (Str.ofString "deeds") = some (.d (.list (st.1.map rowD))) -> Ev prog w 29 lawSc m σ (.Subscript (.Name (Str.ofString "deeds") p1) (.Constant (.int (i : Int)) kk p2) p3) (.d (.list ((st.1.getD i []).map .str))) := fun hi g => ev_atN (f := rowD) [] (ev_name g) ev_int (by omega) (by omega)
 have hmx : ∀ {xs : List Str}, CallB prog w 29 (.builtin "max") [.int 1, .int ((xs.map PyData.str).length : Nat)] (.int (mxN xs.length : Nat)) := fun {xs} => by
  rw [<- mx1_nat, List.length_map]; exact callb_max
 have sm : ∀ {a : Nat} {b : Int}, a <= 100000 -> IntMulOk (a : Int) b := fun h => IntMulOk.of_left (small_bits (by omega))
 generalize lwCalls (cs.getD 4 0) = calls at *
 have e : ((lwCount st.1 : Nat) : Int) = ((st.1.getD 0 []).length : Int) * (mxN (st.1.getD 1 []).length : Int) * (mxN (st.1.getD 2 []).length : Int) := by unfold lwCount; rw [Int.natCast_mul, Int.natCast_mul]
 refine exp_unpack (P := fun d σ' => d = .tuple [.int (lwCount st.1 : Nat), .int (lwLen calls st.1 : Nat)] /\ σ' = σ) (evp_tuple ?_ (by decide) ?_) (fun d σ' z => ?_)
 ·refine evls_cons (P := fun d σ' => d = .int (lwCount st.1 : Nat) /\ σ' = σ) (Ev.toP ?_ ⟨rfl, rfl⟩) fun d σ1 z => ?_
  ·rw [e]
   exact ev_bin (ev_bin (ev_callB (by walk_at "glb") (evl_cons (hrow (i := 0) (by decide) rfl) evl_nil) (len_map (hz (by omega)))) (ev_callB (by walk_at "glb") (evl_cons ev_int (evl_cons (ev_callB (by walk_at "glb") (evl_cons (hrow (i := 1) (by decide) rfl) evl_nil) (callb_lenL (by rw [List.length_map]; exact hz (by omega)))) evl_nil)) hmx) (op_mul (sm (by omega)))) (ev_callB (by walk_at "glb") (evl_cons ev_int (evl_cons (ev_callB (by walk_at "glb") (evl_cons (hrow (i := 2) (by decide) rfl) evl_nil) (callb_lenL (by rw [List.length_map]; exact hz (by omega)))) evl_nil)) hmx) (op_mul (IntMulOk.of_right (small_bits (by unfold mxN; split <;> omega))))
  ·obtain ⟨rfl, rfl⟩ := z
   refine evls_cons (P := fun d σ' => d = .int (lwLen calls st.1 : Nat) /\ σ' = σ1) (Ev.toP ?_ ⟨rfl, rfl⟩) fun d σ1 z => ?_
   ·refine ev_callB (by walk_at "glb") (evl_cons (ev_join (ts := calls.take 1 ++ st.1.getD 0 [] ++ st.1.getD 1 [] ++ st.1.getD 2 []) ?_ (joinOk_of (by omega) fun p hp => Nat.le_trans (hj p hp) (by decide))) evl_nil) (callb_lenS (hz ?_))
    ·simp only [List.map_append, List.map_take]
     refine ev_bin (ev_bin (ev_bin (ev_sliceT (k := 1) (ev_name rfl) ev_int (ops_upto (by rw [List.length_map]; exact hz (by omega)) 1)) (hrow (i := 0) (by decide) rfl) (op_addL (hz ?_))) (hrow (i := 1) (by decide) rfl) (op_addL (hz ?_))) (hrow (i := 2) (by decide) rfl) (op_addL (hz ?_))
     all_goals (simp only [List.length_append, List.length_take, List.length_map]; omega)
    ·have := glued_le (k := 10) hj
     omega
   ·obtain ⟨rfl, rfl⟩ := z
    exact evls_nil ⟨[.int (lwCount st.1 : Nat), .int (lwLen calls st.1 : Nat)], rfl, rfl, rfl⟩
 ·rintro as σ' ⟨ds, rfl, e, _⟩
  cases e; show 2 <= 100; decide
 ·obtain ⟨rfl, rfl⟩ := z
  exact ⟨_, _, rfl, .cons (.inl rfl) (.cons (.inr ⟨rfl, by decide⟩) .nil), exp_pre k (Sub.at (by walk_at "sub"))⟩
end

end
section
section
variable {prog : Program} {w : World} {sc : Sc} {m : AM} {σ : OwnL} {calls : List Str} {D : Rows} {pl : Nat} {run : Str} {e1 e2 e3 e4 : Expr} {x y : Str} {p1 p2 p3 p4 : Pos}
theorem evp_run (hn : calls.Nodup) (hc3 : calls.length = 3) (hd : ∀ ws ∈ D, ws.length <= 1000) (G1 : GlF w sc x 126) (G2 : GlF w sc y 119) (hσ : σ.Perm ([(107, .tab)] ++ σ.tail)) (h1 : ∀ σ, Ev prog w 29 sc m σ e1 (.d (.list (calls.map .str)))) (h2 : ∀ σ, Ev prog w 29 sc m σ e2 (.d (.list (D.map rowD)))) (h3 : ∀ σ, Ev prog w 29 sc m σ e3 (.d (.int (pl : Int)))) (h4 : ∀ σ, Ev prog w 29 sc m σ e4 (.d (.str (calls.getD 0 (Str.ofString "")))))
  (hR : ∃ k q, nestR k (rowsOf pl (calls.zip D)) [calls.getD 0 (Str.ofString "")] (calls.getD 0 (Str.ofString "")) = some (q, run)) (q1 : PlainArgs (.Call (.Name y p1) [e1, e2, e3] [] p2) [e4]) (q2 : PlainArgs e1 [e2, e3]) (he1 : ∀ env, starEach [e1, e2, e3] env = (false, eval e1 env) :: starEach [e2, e3] env) (he2 : ∀ env, starEach [e2, e3] env = (false, eval e2 env) :: starEach [e3] env) (he3 : ∀ env, starEach [e3] env = (false, eval e3 env) :: starEach [] env) (he4 : ∀ env, starEach [e4] env = (false, eval e4 env) :: starEach [] env) (he5 : ∀ env, starEach [.Call (.Name y p1) [e1, e2, e3] [] p2, e4] env = (false, eval (.Call (.Name y p1) [e1, e2, e3] [] p2) env) :: starEach [e4] env) :
  EvX prog w 29 sc m σ (.Call (.Name x p3) [.Call (.Name y p1) [e1, e2, e3] [] p2, e4] [] p4) (.str run) ([(107, .tab)] ++ σ.tail) := by
 obtain ⟨k, q, hr⟩ := hR
 refine EvP.toX (evp_drop (P := fun d σ' => d = .str run /\ ∃ τ, σ' = τ ++ ([(107, .tab)] ++ σ.tail)) (evp_callL G1 (evls_cons (evp_callS (σa := [(107, .tab)]) (σb := σ.tail) hσ G2 (evl_cons (h1 _) (evl_cons (h2 _) (evl_cons (h3 _) evl_nil he3) he2) he1) (FnP.mono (rows_fn hn (by omega) hd) (by decide)) q2) (fun d σ1 z => ?_) he5) q1) fun d σ' z => ?_)
 ·obtain ⟨_, ⟨rs, rfl, rfl, e, hc⟩, rfl⟩ := z
  refine evls_cons (P := fun d σ' => d = .str (calls.getD 0 (Str.ofString "")) /\ σ' = _) (Ev.toP (h4 _) ⟨rfl, rfl⟩) (fun d σ1 z => ?_) he4
  obtain ⟨rfl, rfl⟩ := z
  refine evls_nil ⟨[.dict (rs.map lexK), .str (calls.getD 0 (Str.ofString ""))], rs.map lexO, [(107, .tab)] ++ σ.tail, NestP rs q run, rfl, ?_, FnP.mono (nest_fn hc (by rw [show psT rs = rowsOf pl (calls.zip D) from e]; exact hr)) (by decide), ?_⟩
  ·rw [List.append_assoc]
   refine (List.perm_append_comm_assoc _ _ _).trans (List.Perm.append_right _ ?_)
   exact (List.reverse_perm rs).map lexO
  ·rintro d σ' ⟨rs', rfl, rfl, _⟩
   exact ⟨rfl, _, rfl⟩
 ·obtain ⟨rfl, τ, rfl⟩ := z
  exact ⟨_, τ, List.perm_append_comm, rfl, rfl⟩
end

end
section
noncomputable def lwWhole (N : Nat) (R : Nat -> Str) (L : Nat) : List Str := ((List.range N).map R).filter fun t => ((t.length : Int) == (L : Int))
noncomputable def lawMw (is cs : List Int) (st : Rows × Prs) (t : Str) (xl : Addr) (due : Int) (W : List Str) : AM := (Str.ofString "whole", .d (.list (W.map .str))) :: lawMn is cs st t xl due
section
variable {prog : Program} {w : World} {K : Fl -> AM -> OwnL -> Prop}
theorem law8 {is cs : List Int} {st : Rows × Prs} {t : Str} {xl : Addr} {due : Int} {τ : OwnL} {R : Nat -> Str} (hn : (lwCalls (cs.getD 4 0)).Nodup) (hd : ∀ ws ∈ st.1, ws.length <= 1000) (hN : lwCount st.1 <= 5000) (hR : ∀ i, i < lwCount st.1 -> (∃ k q, nestR k (rowsOf i ((lwCalls (cs.getD 4 0)).zip st.1)) [(lwCalls (cs.getD 4 0)).getD 0 (Str.ofString "")] ((lwCalls (cs.getD 4 0)).getD 0 (Str.ofString "")) = some (q, R i)) /\ (R i).length <= 1000)
  (hdue : ((lwWhole (lwCount st.1) R (lwLen (lwCalls (cs.getD 4 0)) st.1)).length : Int) = due)
  (hW : ∀ one ∈ lwWhole (lwCount st.1) R (lwLen (lwCalls (cs.getD 4 0)) st.1), okTold (iterE 0 false (stripT one).cps.toList) 1 /\ FInv (lwPrices (lwCalls (cs.getD 4 0)) cs) [] (toldT one) /\ DSame 4 (.dict (aD entD (fileB (lwPrices (lwCalls (cs.getD 4 0)) cs) (toldT one)))) (.dict (aD entD (fileB (lwPrices (lwCalls (cs.getD 4 0)) cs) st.2))))
  (k : ExP prog w 29 lawSc (lawMw is cs st t xl due (lwWhole (lwCount st.1) R (lwLen (lwCalls (cs.getD 4 0)) st.1))) ((107, .tab) :: τ) (lawB.drop 20) K) : ExP prog w 29 lawSc (lawMn is cs st t xl due) ((107, .tab) :: τ) (lawB.drop 17) K := by
 have hz : ∀ {a : Nat}, a <= 50000 -> a <= sizeLine := fun h => by rw [sizeLine_eq]; omega
 have hz' : ∀ {a : Nat}, a <= 50000 -> a < sizeLine := fun h => by rw [sizeLine_eq]; omega
 have hc3 : (lwCalls (cs.getD 4 0)).length = 3 := by simp [lwCalls]
 unfold lawMw at k
 unfold lawMn lawMq lawMp at k ⊢
 unfold lawMt lawMe at k ⊢
 generalize hB : fileB (lwPrices (lwCalls (cs.getD 4 0)) cs) st.2 = book at *
 generalize lwPrices (lwCalls (cs.getD 4 0)) cs = pr at *
 generalize lwCalls (cs.getD 4 0) = calls at *
 have hrl : ∀ x ∈ (List.range (lwCount st.1)).map R, x.length <= 1000 := fun x hx => by
  obtain ⟨i, hi, rfl⟩ := List.mem_map.mp hx
  exact (hR i (List.mem_range.mp hi)).2
 have hwl : ∀ x ∈ lwWhole (lwCount st.1) R (lwLen calls st.1), x.length <= 1000 := fun x hx => hrl x (List.mem_filter.mp hx).1
 have hwn : (lwWhole (lwCount st.1) R (lwLen calls st.1)).length <= 5000 := Nat.le_trans (List.length_filter_le _ _) (by rw [List.length_map, List.length_range]; exact hN)
 refine exp_cons (σ1 := (107, .tab) :: τ) (es_lcomp (out := ((List.range (lwCount st.1)).map R).map .str) (it_range (hp := fun _ => ⟨rfl, fun _ => rfl⟩) (k := lwCount st.1) (by walk_at "glb") (ev_name rfl) (by unfold Builtin.Range.small Builtin.Range.rangeSize; simp [Builtin.Range.rangeFitsLong]; omega)) ⟨rfl, by decide, rfl, by decide, .cons (x := Str.ofString "calls") rfl (by decide) (.cons (x := Str.ofString "deeds") rfl (by decide) .nil)⟩ ?_ ?_ (by decide) (.inl rfl)) ?_
 ·rw [List.map_map]
  refine ct_map (fun i : Nat => PyData.int (i : Int)) _ (List.range (lwCount st.1)) fun i hi => ⟨_, tb_name (.inl rfl), Sub.at (by walk_at "sub"), ?_⟩
  exact EvX.ev (evp_run hn hc3 hd (by walk_at "glf") (by walk_at "glf") (.refl _) (fun _ => ev_name rfl) (fun _ => ev_name rfl) (fun _ => ev_name rfl) (fun _ => ev_atN (f := PyData.str) (Str.ofString "") (k := 0) (ev_name rfl) ev_int (by omega) (by omega)) (hR i (List.mem_range.mp hi)).1 (fun _ => ⟨rfl, fun _ => rfl⟩) (fun _ => ⟨rfl, fun _ => rfl⟩) (fun _ => rfl) (fun _ => rfl) (fun _ => rfl) (fun _ => rfl) (fun _ => rfl))
 ·rw [show (rangeD (lwCount st.1)).length = lwCount st.1 by simp [rangeD]]; exact hz' (by omega)
 refine exp_cons (σ1 := (107, .tab) :: τ) (es_lcomp (out := (lwWhole (lwCount st.1) R (lwLen calls st.1)).map .str) (it_list (ev_name rfl)) ⟨rfl, by decide, rfl, by decide, .cons (x := Str.ofString "length") rfl (by decide) .nil⟩ ?_ ?_ (by decide) (.inl rfl)) ?_
 ·unfold lwWhole
  refine ct_filter PyData.str PyData.str (fun t => ((t.length : Int) == (lwLen calls st.1 : Int))) ((List.range (lwCount st.1)).map R) fun x hx => ⟨_, tb_name (.inl rfl), Sub.at (by walk_at "sub"), ?_, ev_name rfl⟩
  exact evt_cmp (ev_callB (by walk_at "glb") (evl_cons (ev_name rfl) evl_nil) (callb_lenS (hz (by have := hrl x hx; omega)))) (ev_name rfl) op_eqI
 ·rw [List.length_map, List.length_map, List.length_range]; exact hz' (by omega)
 clear hR hrl
 generalize lwWhole (lwCount st.1) R (lwLen calls st.1) = W at *
 have o1 : Op2 prog w 29 ((107, .tab) :: τ) (compareOp .NotEq) (.d (.int (W.length : Nat))) (.d (.int due)) (.d (.bool false)) := by
  have := op_neI (prog := prog) (w := w) (n := 29) (σ := (107, .tab) :: τ) (i := (W.length : Nat)) (j := due)
  rw [hdue, bne_self_eq_false] at this
  rw [hdue]; exact this
 refine exp_skip (evt_or (b := false) (b' := false) (evt_cmp (ev_callB (by walk_at "glb") (evl_cons (ev_name rfl) evl_nil) (len_map (hz (by omega)))) (ev_name rfl) o1) fun _ => evt_or (b := false) (b' := false) (evt_cmp (EvX.ev (evx_lcomp (out := []) (it_list (ev_name rfl)) ⟨rfl, by decide, rfl, by decide, .cons (x := Str.ofString "prices") rfl (by decide) (.cons (x := Str.ofString "book") rfl (by decide) .nil)⟩ ?_ ?_ (by decide))) (ev_list evl_nil (sz_le rfl)) (op_neL (u := 0) (.list rfl fun _ _ _ z => by simp at z) (by decide))) fun _ => evt_orn) (exp_pre k (Sub.at (by walk_at "sub")))
 ·have e : ((W.filter fun _ => false).map PyData.str) = [] := by simp
  rw [<- e]
  refine ct_filter PyData.str PyData.str (fun _ => false) W fun x hx => ⟨_, tb_name (.inl rfl), Sub.at (by walk_at "sub"), ?_, ev_name rfl⟩
  obtain ⟨w1, w2, w3⟩ := hW x hx
  exact evt_cmp (ev_callF (by walk_at "glf") (evl_cons (ev_callF (by walk_at "glf") (evl_cons (ev_name rfl) evl_nil) (Fn.mono (told_fn (hwl x hx) w1) (by decide))) (evl_cons (ev_name rfl) evl_nil)) (Fn.mono (filed_fn w2) (by decide))) (ev_name rfl) (op_neD w3 (by decide))
 ·rw [List.length_map]; exact hz' (by omega)
end

end
section
noncomputable def lawMs (is cs : List Int) (st : Rows × Prs) (t : Str) (xl : Addr) (due : Int) (W : List Str) (K1 K2 : List (PyData × PyData)) (run : Str) (served : Prs) : AM :=
 (Str.ofString "run", .d (.str run)) :: (Str.ofString "served", .d (.list (served.map prD))) :: (Str.ofString "nested", .d (.dict K1)) :: (Str.ofString "waited", .d (.dict K2)) :: lawMw is cs st t xl due W
section
variable {prog : Program} {w : World} {K : Fl -> AM -> OwnL -> Prop}
theorem law9 {is cs : List Int} {st : Rows × Prs} {t : Str} {l : LexR} {due : Int} {W : List Str} {k1 k2 pl : Nat} {q1 q2 : PsT} {run : Str} {served : Prs} (h7 : cs.length = 7) (hn : (lwCalls (cs.getD 4 0)).Nodup) (hd : ∀ ws ∈ st.1, ws.length <= 1000) (hN : 0 < lwCount st.1) (hpl : ((cs.getD 6 0).fmod (lwCount st.1)).toNat = pl)
  (r1 : nestR k1 (rowsOf pl ((lwCalls (cs.getD 4 0)).zip st.1)) [(lwCalls (cs.getD 4 0)).getD 0 (Str.ofString "")] ((lwCalls (cs.getD 4 0)).getD 0 (Str.ofString "")) = some (q1, run))
  (r2 : lineR k2 (rowsOf pl ((lwCalls (cs.getD 4 0)).zip st.1)) [] ((lwCalls (cs.getD 4 0)).getD 0 (Str.ofString "")) [(Str.ofString "", tl1 ((lwCalls (cs.getD 4 0)).getD 0 (Str.ofString "")))] = some (q2, served))
  (k : ∀ rs1 rs2 : List LexR, psT rs1 = q1 -> psT rs2 = q2 -> (∀ r ∈ rs1, r.cs = []) -> (∀ r ∈ rs2, r.cs = []) -> ExP prog w 29 lawSc (lawMs is cs st t l.x due W (rs1.map lexK) (rs2.map lexK) run served) ((107, .tab) :: (rs1.map lexO ++ rs2.map lexO)) (lawB.drop 22) K) :
  ExP prog w 29 lawSc (lawMw is cs st t l.x due W) [(107, .tab), lexL l []] (lawB.drop 20) K := by
 have hc3 : (lwCalls (cs.getD 4 0)).length = 3 := by simp [lwCalls]
 have hcl := lwCall_len (cs.getD 4 0) 0
 have hc0 : (lwCalls (cs.getD 4 0)).getD 0 (Str.ofString "") = lwCall (cs.getD 4 0) 0 := rfl
 rw [<- hc0] at hcl
 clear hc0
 unfold lawMs lawMw lawMn lawMq lawMp at k
 unfold lawMw lawMn lawMq lawMp
 unfold lawMt lawMe at k ⊢
 generalize lwPrices (lwCalls (cs.getD 4 0)) cs = pr at *
 generalize lwCalls (cs.getD 4 0) = calls at *
 have om : ∀ {σ : OwnL}, Op2 prog w 29 σ (binaryOp .Mod) (.d (.int (cs.getD 6 0))) (.d (.int (lwCount st.1 : Nat))) (.d (.int (pl : Int))) := fun {σ} => by
  have := op_mod (prog := prog) (w := w) (n := 29) (σ := σ) (i := cs.getD 6 0) (j := (lwCount st.1 : Nat)) (by omega)
  rw [fmod_nat (by omega), hpl] at this
  exact this
 refine exp_swapL [Str.ofString "nested", Str.ofString "waited"] (KL := fun as σ' => ∃ rs1 rs2 : List LexR, as = [.d (.dict (rs1.map lexK)), .d (.dict (rs2.map lexK))] /\ σ' = ([(107, .tab)] ++ rs2.reverse.map lexO) ++ (rs1.reverse.map lexO ++ [lexL l []]) /\ psT rs1 = rowsOf pl (calls.zip st.1) /\ psT rs2 = rowsOf pl (calls.zip st.1) /\ (∀ r ∈ rs1, r.cs = []) /\ ∀ r ∈ rs2, r.cs = []) ?_ (stb_all rfl) (fun as σ' z => by obtain ⟨_, _, rfl, _⟩ := z; rfl) (fun as σ' z => ?_) (by decide)
 ·refine evls_cons (evp_callS (σa := [(107, .tab)]) (σb := [lexL l []]) (.refl _) (by walk_at "glf") (evl_cons (ev_name rfl) (evl_cons (ev_name rfl) (evl_cons (ev_bin (ev_at (f := PyData.int) (l := cs) 0 (ev_name rfl) ev_int (by decide) (by rw [h7]; decide) (by rw [h7]; decide)) (ev_name rfl) om) evl_nil))) (FnP.mono (rows_fn hn (by omega) hd) (by decide))) fun d σ1 z => ?_
  obtain ⟨_, ⟨rs1, rfl, rfl, e1, c1⟩, rfl⟩ := z
  refine evls_cons (evp_callS (σa := [(107, .tab)]) (σb := rs1.reverse.map lexO ++ [lexL l []]) (by rw [List.append_assoc]) (by walk_at "glf") (evl_cons (ev_name rfl) (evl_cons (ev_name rfl) (evl_cons (ev_bin (ev_at (f := PyData.int) (l := cs) 0 (ev_name rfl) ev_int (by decide) (by rw [h7]; decide) (by rw [h7]; decide)) (ev_name rfl) om) evl_nil))) (FnP.mono (rows_fn hn (by omega) hd) (by decide))) fun d σ1 z => ?_
  obtain ⟨_, ⟨rs2, rfl, rfl, e2, c2⟩, rfl⟩ := z
  exact evls_nil ⟨rs1, rs2, rfl, rfl, e1, e2, c1, c2⟩
 ·obtain ⟨rs1, rs2, rfl, rfl, e1, e2, c1, c2⟩ := z
  rw [<- e1] at r1
  rw [<- e2] at r2
  clear e1 e2 om
  have p1 : (([(107, PyData.tab)] ++ rs2.reverse.map lexO) ++ (rs1.reverse.map lexO ++ [lexL l []])).Perm (rs1.map lexO ++ ((107, PyData.tab) :: (rs2.map lexO ++ [lexL l []]))) :=
   (List.perm_append_comm_assoc _ _ _).trans (List.Perm.append ((List.reverse_perm rs1).map lexO) (List.Perm.cons _ (List.Perm.append_right _ ((List.reverse_perm rs2).map lexO))))
  have p2 : ∀ X : OwnL, (X ++ ((107, PyData.tab) :: (rs2.map lexO ++ [lexL l []]))).Perm ((lexL l [] :: rs2.map lexO) ++ ((107, PyData.tab) :: X)) := fun X =>
   List.perm_append_comm.trans ((List.Perm.cons _ (List.Perm.append_right _ List.perm_append_comm)).trans (List.perm_middle (l₁ := lexL l [] :: rs2.map lexO)).symm)
  have p3 : ∀ X Y : OwnL, ((lexL l [] :: Y) ++ ((107, PyData.tab) :: X)).Perm (((107, PyData.tab) :: (X ++ Y)) ++ [lexL l []]) := fun X Y =>
   (List.perm_middle (l₁ := lexL l [] :: Y)).trans ((List.Perm.cons _ ((List.Perm.cons _ List.perm_append_comm).trans (List.perm_append_comm (l₁ := [lexL l []])))))
  refine exp_swapL [Str.ofString "run", Str.ofString "served"] (KL := fun as σ' => ∃ rs1' rs2' : List LexR, as = [.d (.str run), .d (.list (served.map prD))] /\ σ' = (lexL l [] :: rs2'.map lexO) ++ ((107, .tab) :: rs1'.map lexO) /\ psT rs1' = q1 /\ psT rs2' = q2 /\ rs1'.map lexK = rs1.map lexK /\ rs2'.map lexK = rs2.map lexK /\ rs1'.map (·.cs) = rs1.map (·.cs) /\ rs2'.map (·.cs) = rs2.map (·.cs)) ?_ (stb_all rfl) (fun as σ' z => by obtain ⟨_, _, rfl, _⟩ := z; rfl) (fun as σ' z => ?_) (by decide)
  ·refine evls_cons (evp_callS (σa := rs1.map lexO) (σb := (107, .tab) :: (rs2.map lexO ++ [lexL l []])) p1 (by walk_at "glf") (evl_cons (ev_name rfl) (evl_cons (ev_atN (f := PyData.str) (Str.ofString "") (k := 0) (ev_name rfl) ev_int (by omega) (by omega)) evl_nil)) (FnP.mono (nest_fn c1 r1) (by decide))) fun d σ1 z => ?_
   obtain ⟨_, ⟨rs1', rfl, rfl, f1, f2, f3⟩, rfl⟩ := z
   refine evls_cons (evp_callS (σa := lexL l [] :: rs2.map lexO) (σb := (107, .tab) :: rs1'.map lexO) (p2 _) (by walk_at "glf") (evl_cons (ev_name rfl) (evl_cons (ev_name rfl) (evl_cons (ev_atN (f := PyData.str) (Str.ofString "") (k := 0) (ev_name rfl) ev_int (by omega) (by omega)) evl_nil))) (FnP.mono (line_fn (by omega) c2 r2) (by decide))) fun d σ1 z => ?_
   obtain ⟨_, ⟨rs2', rfl, rfl, g1, g2, g3⟩, rfl⟩ := z
   exact evls_nil ⟨rs1', rs2', rfl, rfl, f1, g1, f2, g2, f3, g3⟩
  ·obtain ⟨rs1', rs2', rfl, rfl, f1, g1, f2, g2, f3, g3⟩ := z
   have hc : ∀ {r r' : List LexR}, r'.map (·.cs) = r.map (·.cs) -> (∀ x ∈ r, x.cs = []) -> ∀ x ∈ r', x.cs = [] := fun e h x hx => by
    have : x.cs ∈ (_ : List LexR).map (·.cs) := List.mem_map_of_mem hx
    rw [e] at this
    obtain ⟨y, hy, hxy⟩ := List.mem_map.mp this
    rw [<- hxy]; exact h y hy
   have := k rs1' rs2' f1 g1 (hc f3 c1) (hc g3 c2)
   rw [f2, g2] at this
   exact exp_dropO (p3 _ _) (exp_pre this (Sub.at (by walk_at "sub")))
end

end
section
noncomputable def lwOdd (cs : List Int) (run : Str) : Str := ([Txt.slice run none (some (-((lwEnd (cs.getD 4 0) 0).length : Int))), Txt.slice run (some 3) none ++ Txt.slice run none (some 3), run ++ Str.ofString "\"("] : List Str).getD ((cs.getD 6 0).fmod 3).toNat (Str.ofString "")
noncomputable def lwBlank : Str := Str.ofString "('', '')"
noncomputable def lwHanded (cs : List Int) (W : List Str) (run : Str) : List Str := [lwOdd cs run] ++ W ++ [lwOdd cs run, run ++ Str.ofString "\\"]
noncomputable def lawMh (is cs : List Int) (st : Rows × Prs) (t : Str) (xl : Addr) (due : Int) (W : List Str) (K1 K2 : List (PyData × PyData)) (run : Str) (served : Prs) : AM :=
 (Str.ofString "handed", .d (.list ((lwHanded cs W run).map .str))) :: (Str.ofString "odd", .d (.str (lwOdd cs run))) :: (Str.ofString "blank", .d (.str lwBlank)) :: lawMs is cs st t xl due W K1 K2 run served
section
variable {prog : Program} {w : World} {K : Fl -> AM -> OwnL -> Prop} {σ : OwnL}
theorem law10 {is cs : List Int} {st : Rows × Prs} {t : Str} {xl : Addr} {due : Int} {W : List Str} {K1 K2 : List (PyData × PyData)} {run : Str} {served : Prs} (h7 : cs.length = 7) (hr : run.length <= 1000) (hW : W.length <= 5000)
  (k : ExP prog w 29 lawSc (lawMh is cs st t xl due W K1 K2 run served) σ (lawB.drop 24) K) :
  ExP prog w 29 lawSc (lawMs is cs st t xl due W K1 K2 run served) σ (lawB.drop 22) K := by
 have hz : ∀ {a : Nat}, a <= 50000 -> a <= sizeLine := fun h => by rw [sizeLine_eq]; omega
 have e3 : ∀ x : Int, 0 <= x.fmod 3 /\ (x.fmod 3).toNat < 3 := fun x => ⟨Int.fmod_nonneg_of_pos _ (by decide), fmod_lt' (k := 3) (by decide)⟩
 have hen := lwEnd_len (cs.getD 4 0) 0
 have he3 : (lwEnds (cs.getD 4 0)).length = 3 := by simp [lwEnds]
 have he0 : (lwEnds (cs.getD 4 0)).getD 0 (Str.ofString "") = lwEnd (cs.getD 4 0) 0 := rfl
 have ol : CallB prog w 29 (.builtin "len") [.str ((lwEnds (cs.getD 4 0)).getD 0 (Str.ofString ""))] (.int ((lwEnd (cs.getD 4 0) 0).length : Int)) := by rw [he0]; exact callb_lenS (hz (Nat.le_trans hen (by decide)))
 unfold lawMh at k
 unfold lwHanded at k
 unfold lawMs lawMw lawMn lawMq lawMp lawMt lawMe at k ⊢
 have hodd : (lwOdd cs run) = ([Txt.slice run none (some (-((lwEnd (cs.getD 4 0) 0).length : Int))), Txt.slice run (some 3) none ++ Txt.slice run none (some 3), run ++ Str.ofString "\"("] : List Str).getD ((cs.getD 6 0).fmod 3).toNat (Str.ofString "") := rfl
 generalize lwOdd cs run = odd at *
 generalize lwPrices (lwCalls (cs.getD 4 0)) cs = pr at *
 generalize lwCalls (cs.getD 4 0) = calls at *
 generalize lwEnd (cs.getD 4 0) 0 = e0 at *
 generalize lwEnds (cs.getD 4 0) = ends at *
 refine exp_swapL [Str.ofString "odd", Str.ofString "blank"] (KL := fun as σ' => as = [.d (.str odd), .d (.str lwBlank)] /\ σ' = σ) ?_ (stb_all rfl) (fun as σ' z => by obtain ⟨rfl, rfl⟩ := z; rfl) (fun as σ' z => ?_) (by decide)
 ·refine evls_cons (P := fun d σ' => d = .str odd /\ σ' = σ) (Ev.toP ?_ ⟨rfl, rfl⟩) fun d σ1 z => ?_
  ·rw [hodd]
   refine ev_at (f := PyData.str) (Str.ofString "") (ev_list (evl_cons (ev_sliceT (ev_name rfl) (ev_neg (ev_callB (by walk_at "glb") (evl_cons (ev_atN (f := PyData.str) (Str.ofString "") (k := 0) (ev_name rfl) ev_int (by omega) (by omega)) evl_nil) ol)) (ops_str (hz (by omega)))) (evl_cons (ev_bin (ev_sliceF (ev_name rfl) ev_int (ops_str (hz (by omega)))) (ev_sliceT (ev_name rfl) ev_int (ops_str (hz (by omega)))) (op_addS (hz ?_))) (evl_cons (ev_bin (ev_name rfl) ev_str (op_addS (hz ?_))) evl_nil))) (sz_le rfl)) (ev_bin (ev_at (f := PyData.int) (l := cs) 0 (ev_name rfl) ev_int (by decide) (by rw [h7]; decide) (by rw [h7]; decide)) ev_int (op_mod (by decide))) (e3 _).1 (e3 _).2 (show (3:Nat) <= 100000 by decide)
   ·have := Txt.slice_le run (some 3) none
    have := Txt.slice_le run none (some 3)
    omega
   ·have : (Str.ofString "\"(").length = 2 := by decide
    omega
  ·obtain ⟨rfl, rfl⟩ := z
   exact evls_cons (P := fun d σ' => d = .str lwBlank /\ σ' = σ1) (Ev.toP ev_str ⟨rfl, rfl⟩) fun d σ2 z => by obtain ⟨rfl, rfl⟩ := z; exact evls_nil ⟨rfl, rfl⟩
 ·obtain ⟨rfl, rfl⟩ := z
  refine exp_cons (es_set (a := .d (.list (([odd] ++ W ++ [odd, run ++ Str.ofString "\\"]).map .str))) ?_ (.inl rfl)) (exp_pre k (Sub.at (by walk_at "sub")))
  rw [List.map_append, List.map_append]
  refine ev_bin (ev_bin (ev_list (evl_cons (ev_name rfl) evl_nil) (sz_le rfl)) (ev_name rfl) (op_addL (hz ?_))) (ev_list (evl_cons (ev_name rfl) (evl_cons (ev_bin (ev_name rfl) ev_str (op_addS (hz ?_))) evl_nil)) (sz_le rfl)) (op_addL (hz ?_))
  ·rw [List.length_map]; simp; omega
  ·have : (Str.ofString "\\").length = 1 := by decide
   omega
  ·simp; omega
end

end
section
noncomputable def actE (elt : Expr) (prog : Program) (w : World) : ActW := fun A acc env E Q s => wpAny (model prog w) A (eval elt env) (fun x s1 => wpAny (model prog w) A (call (.builtin "list.append") [.ref acc, x]) (fun _ s2 => Q s2) E s1) E s
noncomputable def actI (e iter : Expr) (prog : Program) (w : World) : ActW := fun A acc env E Q s => wpAny (model prog w) A (eval iter env) (fun x s1 => wpAny (model prog w) A (pyIter x) (fun i s2 => wpAny (model prog w) A (runOwn (.compStart e 1 i (.ref acc) env) env) (fun _ s3 => Q s3) E s2) E s1) E s
section
variable {prog : Program} {w : World} {A : Around} {E : Value -> Shared -> Prop} {c c' c1 : Cx} {g g' g1 : Heap} {s s' : Shared} {n : Nat} {sc : Sc} {m : AM} {σ σ' σ1 : OwnL} {elt iter iter1 iter2 tgt tgt1 tgt2 : Expr} {acc : Addr} {ds out xs : List PyData} {x : Str} {pos : Pos} {F : Frm} {rest : RL} {v it : Value} {il ril kp : Led} {scope : Scope} {env : Env} {R : Result -> Shared -> Prop} {P : List PyData -> OwnL -> Prop} {cl0 : Comprehension}
theorem act_elt (hx : xs.length < sizeLine) (h : EvP prog w n sc m σ elt fun o σ1 => P (xs ++ [o]) σ1) : Act prog w n sc (accL prog w) m σ xs (actE elt prog w) P := fun A c g F il kp s acc E Q hA B hF S q =>
 h A c g F _ s E _ hA B hF S fun c5 g5 v5 o σ1 s6 hC w5 r5 S11 => acc_append hx r5 (St.accUp (U := accL prog w) (il := []) S11 w5.up) fun _ s7 S12 => q c5 g5 s7 _ σ1 hC w5 S12
theorem turn_E : TurnIs prog w (.ListComp elt [cl0, ⟨tgt, iter, [], 0⟩] scope pos) 1 tgt (actE elt prog w) := .intro (fun _ _ _ => rfl) <| .intro (fun _ _ _ _ => rfl) fun A it acc env E R Q s h => by
 show wpAny (model prog w) A (standAt iter.pos >>= fun _ => pyNext it >>= fun r => match r with
   | none => pure (.done .next)
   | some v => letOwnedTupleGo tgt it v >>= fun _ => assign tgt env v >>= fun _ => (eval elt env >>= fun x => call (.builtin "list.append") [.ref acc, x] >>= fun _ => pure ()) >>= fun _ => again (.compLoop (.ListComp elt [cl0, ⟨tgt, iter, [], 0⟩] scope pos) 1 it (.ref acc) env)) _ _ _
 refine wpAny_bind (wpAny_standAt (wpAny_bind (wpAny_mono h (fun r s₁ h₁ => ?_) fun _ _ h' => h')))
 cases r with
 | none => exact wpAny_pure h₁
 | some v => exact wpAny_bind (wpAny_mono h₁ (fun _ s₂ h₂ => wpAny_bind (wpAny_mono h₂ (fun _ s₃ h₃ => wpAny_bind (wpAny_bind (wpAny_mono h₃ (fun x s₅ h₅ => wpAny_bind (wpAny_mono h₅ (fun _ s₆ h₆ => wpAny_pure (wpAny_pure ⟨rfl, h₆⟩)) fun _ _ h' => h')) fun _ _ h' => h'))) fun _ _ h' => h')) fun _ _ h' => h')
theorem start1 {elt : Expr} {cl0 : Comprehension} {env : Env} {accv it : Value}
  (h0 : codeAny (model prog w) A (.compLoop (.ListComp elt [cl0, ⟨tgt, iter, [], 0⟩] scope pos) 1 it accv env) R s)
  (h : wpAny (model prog w) A (pyIter it) (fun it' s' => codeAny (model prog w) A (.compLoop (.ListComp elt [cl0, ⟨tgt, iter, [], 0⟩] scope pos) 1 it' accv env) R s') (notedBy (model prog w) A env fun x s' => R (.error x) s') s) :
  codeAny (model prog w) A (.compStart (.ListComp elt [cl0, ⟨tgt, iter, [], 0⟩] scope pos) 1 it accv env) R s := by
 refine codeAny_of_tree ?_
 show wpAny _ _ ((compStart (.ListComp elt [cl0, ⟨tgt, iter, [], 0⟩] scope pos) 1 it accv env).onRaise (fun x => do noteFrame x env; standAt theWindowsPlace)) _ _ s
 refine wpAny_notedAt ?_
 unfold compStart
 show wpAny _ _ (ask >>= _) _ _ s
 refine wpAny_bind (wpAny_askSetting (wpAny_ite ?_))
 split
 ·first
   | exact wpAny_bind (wpAny_pure (wpAny_pure (And.intro rfl h0)))
   | exact wpAny_pure (And.intro rfl h0)
 ·first
   | exact wpAny_bind (wpAny_rule (wpAny_bind (wpAny_standAt (wpAny_bind (wpAny_mono h (fun it' s' h' => wpAny_pure (And.intro rfl h')) fun _ _ x => x)))))
   | (refine wpAny_bind (wpAny_rule ?_); show wpAny _ _ (standAt iter.pos >>= _) _ _ s; exact wpAny_bind (wpAny_standAt (wpAny_bind (wpAny_mono h (fun it' s' h' => wpAny_pure (And.intro rfl h')) fun _ _ x => x))))
theorem act_iter (h2 : 2 <= n) (hi : It prog w n sc m σ iter2 tgt2 ds) (hC : CtA prog w n sc (accL prog w) tgt2 (actE elt prog w) m P ds xs σ) :
  Act prog w n sc (accL prog w) m σ xs (actI (.ListComp elt [⟨tgt1, iter1, [], 0⟩, ⟨tgt2, iter2, [], 0⟩] scope pos) iter2 prog w) P := fun A c g F il kp s acc E Q hA B hF S q => by
 refine hi A c g F _ s E _ hA B hF S fun c1 g1 il1 it1 s1 w1 hi1 hslf S1 => ?_
 have S2 := St.accUp (U := accL prog w) (ril := il) S1 w1.up
 have loop : ∀ s3, St prog w c1 g1 F m σ ⟨((acc, accP prog w g1 xs) :: il1) ++ il, kp⟩ s3 -> codeAny (model prog w) A (.compLoop (.ListComp elt [⟨tgt1, iter1, [], 0⟩, ⟨tgt2, iter2, [], 0⟩] scope pos) 1 it1 (.ref acc) F.env) (fun r s' => match r with | .ok f => Q s' | .error e => cameBackBy (model prog w) A F.env E e s') s3 := fun s3 S6 =>
  comp_turns (rest := ⟨il, kp⟩) hA h2 (B.keeps w1.up) hF hC hi1 S6 turn_E fun c' g' s' out σ' hK w' S7 => q c' g' s' out σ' hK (w1.trans w') S7
 refine wpAny_runOwn (start1 (loop _ S2) ?_)
 obtain ⟨L, S6, back⟩ := S2.front
 have S7 := S6.perm (own' := il1 ++ ((acc, accP prog w g1 xs) :: L)) (by rw [List.cons_append]; exact List.perm_middle.symm)
 exact hslf A c1 g1 _ s1 _ _ (fun _ _ z => z) S7 fun s' S8 => loop s' (back _ _ ((acc, accP prog w g1 xs) :: il1) _ (fun _ _ z => z) (S8.perm List.perm_middle))
end
section
variable {prog : Program} {w : World} {c c' : Cx} {g g' : Heap} {s s' : Shared} {n : Nat} {sc : Sc} {m m' : AM} {σ σ' : OwnL} {elt iter tgt iter2 tgt2 : Expr} {ds out : List PyData} {pos : Pos} {scope : Scope}
theorem turn_I (hs : ∀ env x, foldedSetIterable iter2 env x = pure x) : TurnIs prog w (.ListComp elt [⟨tgt, iter, [], 0⟩, ⟨tgt2, iter2, [], 0⟩] scope pos) 0 tgt (actI (.ListComp elt [⟨tgt, iter, [], 0⟩, ⟨tgt2, iter2, [], 0⟩] scope pos) iter2 prog w) := .intro (fun _ _ _ => rfl) <| .intro (fun _ _ _ _ => rfl) fun A it acc env E R Q s h => by
 have e : compTurn (.ListComp elt [⟨tgt, iter, [], 0⟩, ⟨tgt2, iter2, [], 0⟩] scope pos) 0 it (.ref acc) env = (standAt iter.pos >>= fun _ => pyNext it >>= fun r => match r with
   | none => pure (.done .next)
   | some v => letOwnedTupleGo tgt it v >>= fun _ => assign tgt env v >>= fun _ => (eval iter2 env >>= fun x => standAt iter2.pos >>= fun _ => foldedSetIterable iter2 env x >>= fun x => holding [x] (pyIter x) >>= fun i => runOwn (.compStart (.ListComp elt [⟨tgt, iter, [], 0⟩, ⟨tgt2, iter2, [], 0⟩] scope pos) 1 i (.ref acc) env) env >>= fun _ => pure ()) >>= fun _ => again (.compLoop (.ListComp elt [⟨tgt, iter, [], 0⟩, ⟨tgt2, iter2, [], 0⟩] scope pos) 0 it (.ref acc) env)) := by
  simp only [bind_assoc, pure_bind]
  rfl
 rw [e]
 refine wpAny_bind (wpAny_standAt (wpAny_bind (wpAny_mono h (fun r s₁ h₁ => ?_) fun _ _ h' => h')))
 cases r with
 | none => exact wpAny_pure h₁
 | some v => exact wpAny_bind (wpAny_mono h₁ (fun _ s₂ h₂ => wpAny_bind (wpAny_mono h₂ (fun _ s₃ h₃ => wpAny_bind (wpAny_bind (wpAny_mono h₃ (fun x s₄ h₄ => wpAny_bind (wpAny_standAt (wpAny_bind (wpAny_of_eq (hs _ x) (wpAny_bind (wpAny_holding (wpAny_mono h₄ (fun i s₅ h₅ => wpAny_bind (wpAny_mono h₅ (fun _ s₆ h₆ => wpAny_pure (wpAny_pure ⟨rfl, h₆⟩)) fun _ _ h' => h')) fun _ _ h' => h'))))))) fun _ _ h' => h'))) fun _ _ h' => h')) fun _ _ h' => h')
theorem evp_lcomp2 {K : List PyData -> OwnL -> Prop} (hi : It prog w n sc m σ iter tgt ds) (K0 : CompOk scope sc m m') (hC : CtA prog w n (relS scope sc) (accL prog w) tgt (actI (.ListComp elt [⟨tgt, iter, [], 0⟩, ⟨tgt2, iter2, [], 0⟩] scope pos) iter2 prog w) m' K ds [] σ) (h2 : 2 <= n) (hs : autoParam (∀ env x, foldedSetIterable iter env x = pure x) auI2) (hs2 : autoParam (∀ env x, foldedSetIterable iter2 env x = pure x) auI2) :
  EvP prog w n sc m σ (.ListComp elt [⟨tgt, iter, [], 0⟩, ⟨tgt2, iter2, [], 0⟩] scope pos) fun r σ' => ∃ out, r = .list out /\ K out σ' := fun A c g F rest s E Q hA B hF S q => by
 rw [eval_ListComp]
 refine comp_go (U := accL prog w) (x0 := []) (use := none) hA h2 B hF S hi K0 hC rfl (turn_I hs2) new_L (fun _ _ _ _ _ => codeAny_compStart_list) (fun c' g' C D mC acc out σ' s' hK w' _ hD S' => ?_) hs
 obtain ⟨g2, k2, r, S2⟩ := S'.frzIl
 obtain ⟨mm, h1, h3⟩ := comp_end hD S2
 exact ⟨mm, h1, fun h' hb => q c' g2 _ _ σ' _ ⟨out, rfl, hK⟩ (w'.trans (.grow k2)) r (h3 h' hb)⟩
end

end
section
noncomputable def lwPop (q : PsT) (L : List (Str × List Str)) : List Str := L.flatMap fun y => (aGet q y.1).getD []
theorem PutO.left {a : Addr} {d d' : PyData} {σ σ' : OwnL} (τ : OwnL) (h : PutO a d d' σ σ') : PutO a d d' (σ ++ τ) (σ' ++ τ) := by
 induction h with
 | head => exact .head
 | tail _ ih => exact .tail ih
theorem PutO.right {a : Addr} {d d' : PyData} {σ σ' : OwnL} (h : PutO a d d' σ σ') : ∀ τ : OwnL, PutO a d d' (τ ++ σ) (τ ++ σ')
 | [] => h
 | _ :: τ => .tail (h.right τ)
theorem aPut_same {α : Type} {x : Str} {i : α} : ∀ {c : List (Str × α)}, aGet c x = some i -> aPut c x i = c
 | [], h => nomatch h
 | (y, j) :: r, h => by
  rw [aGet_c] at h
  rw [aPut_c]
  by_cases e : y = x
  ·rw [if_pos e] at h ⊢; cases h; rfl
  ·rw [if_neg e] at h ⊢; rw [aPut_same h]
theorem evx_to {prog : Program} {w : World} {n : Nat} {sc : Sc} {m : AM} {σ σ' : OwnL} {e : Expr} {d : PyData} {P : PyData -> OwnL -> Prop} (h : EvX prog w n sc m σ e d σ') (hp : P d σ') : EvP prog w n sc m σ e P := EvP.mono h.toP fun _ _ z => by obtain ⟨rfl, rfl⟩ := z; exact hp
noncomputable def rowTok (p1 p2 p3 p4 pos : Pos) : Expr := .Call (.Attribute (.Subscript (.Name (Str.ofString "rows") p1) (.Name (Str.ofString "call") p2) p3) (Str.ofString "get_token") p4) [] [] pos
section
variable {prog : Program} {w : World} {n : Nat} {sc : Sc} {m : AM} {tgt : Expr} {p1 p2 p3 p4 pos : Pos} {KK : List (PyData × PyData)} {OF : List LexR -> OwnL} {nm : Str}
theorem ct_pop {pl : Env -> Sem Bool} (he0 : ∀ env, eval (rowTok p1 p2 p3 p4 pos) env = (do
   let ov <- eval (.Subscript (.Name (Str.ofString "rows") p1) (.Name (Str.ofString "call") p2) p3) env
   standAt p4.atName
   let (f, first) <- holding [ov] (getMethod ov (Str.ofString "get_token") (pl env))
   callWith pos f first (backTo pos (starEach [] env)) [])) (hn : 5 <= n) (hO : ∀ rs rs' a d d', PutO a d d' (rs.map lexO) (rs'.map lexO) -> PutO a d d' (OF rs) (OF rs')) (g1 : m.lookup (Str.ofString "rows") = some (.d (.dict KK))) (g2 : m.lookup (Str.ofString "call") = some (.d (.str nm)))
  (ht : ∀ d, ∃ m1, Tb prog w n sc tgt d m m1 /\ (∀ x a, m.lookup x = some a -> m1.lookup x = some a)) : ∀ (ws ps : List Str) (xs : List PyData) (rs : List LexR) (K : List PyData -> OwnL -> Prop), aGet (psT rs) nm = some ps -> ps.length = ws.length -> ps.length <= 1000 -> rs.map lexK = KK -> (∀ r ∈ rs, r.cs = []) -> xs.length + ps.length <= 20000 ->
   (∀ rs', psT rs' = aPut (psT rs) nm [] -> rs'.map lexK = KK -> (∀ r ∈ rs', r.cs = []) -> K (xs ++ ps.map .str) (OF rs')) -> CtA prog w n sc (accL prog w) tgt (actE (rowTok p1 p2 p3 p4 pos) prog w) m K (ws.map .str) xs (OF rs)
 | [], [], xs, rs, K, h1, _, _, h4, h5, _, k => by
  have := k rs ?_ h4 h5
  ·rw [List.map_nil, List.append_nil] at this; exact this
  ·exact (aPut_same h1).symm
 | [], _ :: _, _, _, _, _, h, _, _, _, _, _ => nomatch h
 | _ :: _, [], _, _, _, _, h, _, _, _, _, _ => nomatch h
 | wd :: ws, y :: ps, xs, rs, K, h1, h2, h3, h4, h5, h6, k => by
  obtain ⟨m1, t1, t2⟩ := ht (.str wd)
  obtain ⟨r, k1, _, k2, k3⟩ := lex_at h1
  obtain ⟨P, e⟩ := k3 ps
  have hr : r.cs = [] := by obtain ⟨r', h, e⟩ := List.mem_map.mp k2; rw [<- e]; exact h5 r' h
  rw [hr] at P
  rw [h4] at k1
  have hz : ∀ {j : Nat}, j <= 20000 -> j < sizeLine := fun h => by rw [sizeLine_eq]; omega
  rw [List.length_cons] at h3 h6
  refine ⟨m1, t1, t2, act_elt (hz (by omega)) (evx_to (evx_getE (ev_sub (ev_name (t2 _ _ g1)) (ev_name (t2 _ _ g2)) (opi_dict k1)) rfl (hO _ _ _ _ _ P) (hz (by rw [List.length_cons]; omega)) (hz (Nat.zero_le _)) hn he0) ?_)⟩
  refine ct_pop he0 hn hO g1 g2 ht ws ps _ _ K (by rw [e, aGet_put, if_pos rfl]) (Nat.succ.inj h2) (by omega) (by rw [lexSet_K]; exact h4) (fun r' hr' => ?_) (by rw [List.length_append, List.length_singleton]; omega) fun rs' e1 e2 e3 => ?_
  ·have := List.mem_map_of_mem (f := (·.cs)) hr'
   rw [lexSet_cs] at this
   obtain ⟨r2, h, e⟩ := List.mem_map.mp this
   rw [<- e]; exact h5 r2 h
  ·rw [e, aPut_put] at e1
   have := k rs' e1 e2 e3
   rw [List.map_cons] at this
   rw [List.append_assoc]; exact this
theorem ct_calls {pl : Env -> Sem Bool} (he0 : ∀ env, eval (rowTok p1 p2 p3 p4 pos) env = (do
   let ov <- eval (.Subscript (.Name (Str.ofString "rows") p1) (.Name (Str.ofString "call") p2) p3) env
   standAt p4.atName
   let (f, first) <- holding [ov] (getMethod ov (Str.ofString "get_token") (pl env))
   callWith pos f first (backTo pos (starEach [] env)) [])) {it2 : Expr} {iter1 tgt1 : Expr} {scope : Scope} {pos2 : Pos} (hn : 5 <= n) (hO : ∀ rs rs' a d d', PutO a d d' (rs.map lexO) (rs'.map lexO) -> PutO a d d' (OF rs) (OF rs')) (g1 : m.lookup (Str.ofString "rows") = some (.d (.dict KK)))
  (ht : ∀ c ws, ∃ m1, Tb prog w n sc tgt1 (.tuple [.str c, rowD ws]) m m1 /\ (∀ x a, m.lookup x = some a -> m1.lookup x = some a) /\ m1.lookup (Str.ofString "call") = some (.d (.str c)) /\ (∀ σ, Ev prog w n sc m1 σ it2 (.d (rowD ws))) /\ ∀ d, ∃ m2, Tb prog w n sc tgt d m1 m2 /\ (∀ x a, m1.lookup x = some a -> m2.lookup x = some a)) (hs : ∀ env x, foldedSetIterable it2 env x = pure x) :
  ∀ (L : List (Str × List Str)) (xs : List PyData) (rs : List LexR) (K : List PyData -> OwnL -> Prop), (L.map (·.1)).Nodup -> (∀ y ∈ L, ∃ ps, aGet (psT rs) y.1 = some ps /\ ps.length = y.2.length /\ ps.length <= 1000) -> rs.map lexK = KK -> (∀ r ∈ rs, r.cs = []) -> xs.length + 1000 * L.length <= 20000 ->
   (∀ rs', K (xs ++ (lwPop (psT rs) L).map .str) (OF rs')) -> CtA prog w n sc (accL prog w) tgt1 (actI (.ListComp (rowTok p1 p2 p3 p4 pos) [⟨tgt1, iter1, [], 0⟩, ⟨tgt, it2, [], 0⟩] scope pos2) it2 prog w) m K (L.map fun y => .tuple [.str y.1, rowD y.2]) xs (OF rs)
 | [], xs, rs, K, _, _, _, _, _, k => by have := k rs; rw [lwPop, List.flatMap_nil, List.map_nil, List.append_nil] at this; exact this
 | (c, ws) :: L, xs, rs, K, h1, h2, h3, h4, h5, k => by
  obtain ⟨m1, t1, t2, t3, t4, t5⟩ := ht c ws
  obtain ⟨ps, q1, q2, q3⟩ := h2 _ List.mem_cons_self
  rw [List.length_cons] at h5
  rw [List.map_cons, List.nodup_cons] at h1
  refine ⟨m1, t1, t2, act_iter (by omega) (it_list (t4 _)) (ct_pop he0 hn hO (t2 _ _ g1) t3 t5 ws ps xs rs _ q1 q2 q3 h3 h4 (by omega) fun rs' e1 e2 e3 => ?_)⟩
  have hg : ∀ y ∈ L, aGet (psT rs') y.1 = aGet (psT rs) y.1 := fun y hy => by
   rw [e1, aGet_put, if_neg fun e => h1.1 (List.mem_map.mpr ⟨y, hy, e.symm⟩)]
  refine ct_calls he0 hn hO g1 ht hs L _ rs' K h1.2 (fun y hy => ?_) e2 e3 (by rw [List.length_append, List.length_map]; omega) fun rs2 => ?_
  ·rw [hg y hy]; exact h2 y (List.mem_cons_of_mem _ hy)
  ·have := k rs2
   have e : lwPop (psT rs) ((c, ws) :: L) = ps ++ lwPop (psT rs') L := by
    unfold lwPop
    rw [List.flatMap_cons, q1]
    congr 1
    have : ∀ L' : List (Str × List Str), (∀ y ∈ L', aGet (psT rs') y.1 = aGet (psT rs) y.1) -> (L'.flatMap fun y => (aGet (psT rs) y.1).getD []) = L'.flatMap fun y => (aGet (psT rs') y.1).getD [] := fun L' => by
     induction L' with
     | nil => intro _; rfl
     | cons z L' ih => intro h; rw [List.flatMap_cons, List.flatMap_cons, h z List.mem_cons_self, ih fun y hy => h y (List.mem_cons_of_mem _ hy)]
    exact this L hg
   rw [e, List.map_append, <- List.append_assoc] at this
   exact this
end
noncomputable def lawMz (is cs : List Int) (st : Rows × Prs) (t : Str) (xl : Addr) (due : Int) (W : List Str) (K1 K2 : List (PyData × PyData)) (run : Str) (served : Prs) (e1 e2 : List Str) : AM :=
 (Str.ofString "ended", .d (.list [.list (e1.map .str), .list (e2.map .str)])) :: lawMh is cs st t xl due W K1 K2 run served
section
variable {prog : Program} {w : World} {K : Fl -> AM -> OwnL -> Prop}
theorem law11 {is cs : List Int} {st : Rows × Prs} {t : Str} {xl : Addr} {due : Int} {W : List Str} {run : Str} {served : Prs} {rs1 rs2 : List LexR} (hn : (lwCalls (cs.getD 4 0)).Nodup) (c1 : ∀ r ∈ rs1, r.cs = []) (c2 : ∀ r ∈ rs2, r.cs = [])
  (h1 : ∀ y ∈ (lwCalls (cs.getD 4 0)).zip st.1, ∃ ps, aGet (psT rs1) y.1 = some ps /\ ps.length = y.2.length /\ ps.length <= 1000) (h2 : ∀ y ∈ (lwCalls (cs.getD 4 0)).zip st.1, ∃ ps, aGet (psT rs2) y.1 = some ps /\ ps.length = y.2.length /\ ps.length <= 1000)
  (k : ExP prog w 29 lawSc (lawMz is cs st t xl due W (rs1.map lexK) (rs2.map lexK) run served (lwPop (psT rs1) ((lwCalls (cs.getD 4 0)).zip st.1)) (lwPop (psT rs2) ((lwCalls (cs.getD 4 0)).zip st.1))) [(107, .tab)] (lawB.drop 25) K) :
  ExP prog w 29 lawSc (lawMh is cs st t xl due W (rs1.map lexK) (rs2.map lexK) run served) ((107, .tab) :: (rs1.map lexO ++ rs2.map lexO)) (lawB.drop 24) K := by
 have hc3 : (lwCalls (cs.getD 4 0)).length = 3 := by simp [lwCalls]
 unfold lawMz at k
 unfold lawMh lawMs lawMw lawMn lawMq lawMp lawMt lawMe at k ⊢
 generalize lwOdd cs run = odd at *
 generalize lwHanded cs W run = handed at *
 generalize lwPrices (lwCalls (cs.getD 4 0)) cs = pr at *
 generalize lwCalls (cs.getD 4 0) = calls at *
 have hzip : ((zipD (calls.map .str) (st.1.map rowD)).map PyData.tuple) = (calls.zip st.1).map fun y => .tuple [.str y.1, rowD y.2] := by
  unfold zipD
  rw [List.zip_map, List.map_map, List.map_map]; rfl
 have hnd : ((calls.zip st.1).map (·.1)).Nodup := hn.sublist zip_fst_sub
 have hlen : (calls.zip st.1).length <= 3 := by rw [List.length_zip]; omega
 refine exp_consP (es_lcompP (K := fun out σ' => out = [.list ((lwPop (psT rs1) (calls.zip st.1)).map .str), .list ((lwPop (psT rs2) (calls.zip st.1)).map .str)] /\ ∃ a b : List LexR, σ' = (107, .tab) :: (a.map lexO ++ b.map lexO)) (it_tuple (ev_tuple (evl_cons (ev_name rfl) (evl_cons (ev_name rfl) evl_nil)) (sz_le rfl))) ⟨rfl, by decide, rfl, by decide, .cons (x := Str.ofString "calls") rfl (by decide) (.cons (x := Str.ofString "deeds") rfl (by decide) .nil)⟩ ?_ (by rw [sizeLine_eq]; exact (by decide : 2 < 16777216)) (by decide) (.inl rfl)) (fun m1 σ1 z => ?_) fun _ _ _ hn z => ?_
 ·refine ⟨_, tb_name (.inr ⟨rfl, by decide⟩), Sub.at (by walk_at "sub"), .inl ⟨rfl, ?_⟩⟩
  refine EvP.mono (evp_lcomp2 (K := fun out σ1 => out = (lwPop (psT rs1) (calls.zip st.1)).map .str /\ ∃ a : List LexR, σ1 = (107, .tab) :: (a.map lexO ++ rs2.map lexO)) (it_zip (by walk_at "glb") (fun _ => ⟨rfl, fun _ => rfl⟩) (fun _ => ⟨rfl, fun _ => rfl⟩) (ev_name rfl) (ev_name rfl)) ⟨rfl, by decide, rfl, by decide, .cons (x := Str.ofString "rows") rfl (by decide) .nil⟩ ?_ (by decide)) fun d σ1 z => ?_
  ·rw [hzip]
   exact ct_calls (fun _ => rfl) (OF := fun rs => (107, .tab) :: (rs.map lexO ++ rs2.map lexO)) (by decide) (fun rs rs' a d d' P => .tail (P.left _)) rfl (fun c ws => ⟨_, tb_tup (.cons (.inl rfl) (.cons (.inl rfl) .nil)), Sub.at (by walk_at "sub"), rfl, fun _ => ev_name rfl, fun d => ⟨_, tb_name (.inl rfl), Sub.at (by walk_at "sub")⟩⟩) (fun _ _ => rfl) (calls.zip st.1) [] rs1 _ hnd h1 rfl c1 (by simp; omega) fun rs' => ⟨rfl, rs', rfl⟩
  ·obtain ⟨_, rfl, rfl, a, rfl⟩ := z
   refine ⟨_, tb_name (.inr ⟨rfl, by decide⟩), Sub.at (by walk_at "sub"), .inl ⟨rfl, ?_⟩⟩
   refine EvP.mono (evp_lcomp2 (K := fun out σ1 => out = (lwPop (psT rs2) (calls.zip st.1)).map .str /\ ∃ b : List LexR, σ1 = (107, .tab) :: (a.map lexO ++ b.map lexO)) (it_zip (by walk_at "glb") (fun _ => ⟨rfl, fun _ => rfl⟩) (fun _ => ⟨rfl, fun _ => rfl⟩) (ev_name rfl) (ev_name rfl)) ⟨rfl, by decide, rfl, by decide, .cons (x := Str.ofString "rows") rfl (by decide) .nil⟩ ?_ (by decide)) fun d σ1 z => ?_
   ·rw [hzip]
    exact ct_calls (fun _ => rfl) (OF := fun rs => (107, .tab) :: (a.map lexO ++ rs.map lexO)) (by decide) (fun rs rs' _ d d' P => .tail (P.right _)) rfl (fun c ws => ⟨_, tb_tup (.cons (.inl rfl) (.cons (.inl rfl) .nil)), Sub.at (by walk_at "sub"), rfl, fun _ => ev_name rfl, fun d => ⟨_, tb_name (.inl rfl), Sub.at (by walk_at "sub")⟩⟩) (fun _ _ => rfl) (calls.zip st.1) [] rs2 _ hnd h2 rfl c2 (by simp; omega) fun rs' => ⟨rfl, rs', rfl⟩
   ·obtain ⟨_, rfl, rfl, b, rfl⟩ := z
    exact ⟨rfl, a, b, rfl⟩
 ·obtain ⟨_, _, rfl, rfl, a, b, rfl⟩ := z
  exact exp_dropO (σa := [(107, .tab)]) (σb := a.map lexO ++ b.map lexO) (.refl _) (exp_pre k (Sub.at (by walk_at "sub")))
 ·obtain ⟨_, z, _⟩ := z; exact absurd z hn
end

end
section
section
variable {prog : Program} {w : World}
theorem tupNe {A : Around} {E : Value -> Shared -> Prop} {s : Shared} {a b : Addr} {vs us : List Value} {P : Fin -> Shared -> Prop} (ha : s.heap.IsTuple a vs.toArray) (hb : s.heap.IsTuple b us.toArray)
  (hl : vs.length = us.length) (he : ∀ p ∈ vs.zip us, EqW prog w A s p.1 p.2) (h : P (.done (.ret (.bool false))) s) : wpAny (model prog w) A (Builtin.«tuple.__ne__» ⟨[.ref a, .ref b], []⟩) P E s := by
 show wpAny _ _ (isInstance (.ref b) (.type "tuple") >>= _) _ _ s
 refine wpAny_bind (wpAny_isInstance (T := "tuple") hb.typeIs isSubtype_tuple_tuple ?_)
 simp only [Bool.not_true, Bool.false_eq_true, if_false]
 obtain ⟨oa, hoa, _, na, hda⟩ := ha
 obtain ⟨ob, hob, _, nb, hdb⟩ := hb
 refine wpAny_bind (wpAny_tupleItemsOf hoa hda (wpAny_bind (wpAny_tupleItemsOf hob hdb (wpAny_bind ?_))))
 refine wpAny_forIn_list _ (fun rest r s' => r.1 = none /\ s' = s /\ ∀ p ∈ rest, EqW prog w A s p.1 p.2) _ ?_ ?_ _ _ ⟨rfl, rfl, by simpa using he⟩
 ·rintro p rest r s' ⟨hr, rfl, hp⟩
  refine wpAny_bind (hp p List.mem_cons_self _ _ ?_)
  simp only [Bool.not_true, Bool.false_eq_true, if_false]
  exact wpAny_pure ⟨rfl, rfl, fun q hq => hp q (List.mem_cons_of_mem _ hq)⟩
 ·rintro ⟨r1, r2⟩ s' ⟨hr, rfl, _⟩
  cases hr
  refine wpAny_pure ?_
  show P (.done (.ret (.bool (!(vs.toArray.size == us.toArray.size))))) s'
  rw [List.size_toArray, List.size_toArray, hl, beq_self_eq_true]; exact h
variable {n : Nat} {sc : Sc} {m : AM} {σ : OwnL} {u : Nat} {e e1 : Expr} {pos p2 : Pos} {l : List Str} {y : Str}
theorem op_neT {xs ys : List PyData} (hl : xs.length = ys.length) (D : ∀ (k : Nat) (d e : PyData), xs[k]? = some d -> ys[k]? = some e -> DSame u d e) (hu : u + 1 <= 64) : Op2 prog w n σ (compareOp .NotEq) (.d (.tuple xs)) (.d (.tuple ys)) (.d (.bool false)) := fun A c g F m rest s E Q v1 v2 hA B S r1 r2 q => by
 obtain ⟨L, S0⟩ := S.base
 have hU : A.units + (u + 1) < cLine := by have := hA.hu; show A.units + (u + 1) < 9900; omega
 apply r1.onTuple; intro a vs e1 h1
 apply r2.onTuple; intro b us e2 h2
 have z1 : s.heap.IsTuple a vs.toArray := e1.at fun o => S0.keep _ o
 have z2 : s.heap.IsTuple b us.toArray := e2.at fun o => S0.keep _ o
 refine wpAny_richCompare_same_room (op := .NotEq) z1.typeIs z2.typeIs PySem.F.slot_tuple_ne (wpAny_call_entry PySem.F.slot_tuple_ne z1.typeIs PySem.F.entry_tuple_ne (tupNe z1 z2 (by rw [h1.len, h2.len, hl]) (fun p hp => ?_) ⟨_, rfl, (fun e => nomatch e), q c g _ s .rfl (.bool _) S⟩) (PySem.F.args_tuple_ne_2 _ _)) (by omega)
 obtain ⟨j, hj, rfl⟩ := List.getElem_of_mem hp
 rw [List.length_zip] at hj
 rw [List.getElem_zip]
 exact el (P := fun v y => EqW prog w A.in1 s v y) hl h1 h2 (fun j d e v y z1 z2 r1 r2 => ((D j d e z1 z2).rc S0.keep (by show A.units + 1 + u < cLine; omega) r1 r2).2) j (by omega) (by omega)
theorem rdAll_strsA {g : Heap} {l : List Str} : ∀ {vs : List Value}, RdAll prog w g vs (l.map .str) -> PyProof.Rows.StrsAre vs l := by
 induction l with
 | nil => intro vs h; cases h; exact .nil
 | cons x r ih =>
  intro vs h
  cases h with
  | cons a b => cases a with | str _ u => exact .cons x u (ih b)
theorem count_in (l : List Str) (y : Str) : PySem.Spec.countIn (.str y) (l.map PySem.PyData.str) = ((l.count y : Nat) : Int) := by
 induction l with
 | nil => rfl
 | cons x l ih =>
  have e : PySem.Spec.same (.str x) (.str y) = (x == y) := by rw [PySem.Spec.same]
  rw [List.map_cons, PySem.Spec.countIn, e, ih, List.count_cons]
  by_cases h : (x == y) = true
  ·rw [if_pos h, if_pos h]; omega
  ·rw [if_neg h, if_neg h]; omega
theorem ev_countL {pl : Env -> Sem Bool} (h : Ev prog w n sc m σ e (.d (.list (l.map .str)))) (h1 : Ev prog w n sc m σ e1 (.d (.str y))) (hp : autoParam (PlainArgs e1 []) auP)
  (he : autoParam (∀ env, eval (.Call (.Attribute e (Str.ofString "count") p2) [e1] [] pos) env = (do
   let ov <- eval e env
   standAt p2.atName
   let (f, first) <- holding [ov] (getMethod ov (Str.ofString "count") (pl env))
   callWith pos f first (backTo pos (starEach [e1] env)) [])) auI1) : Ev prog w n sc m σ (.Call (.Attribute e (Str.ofString "count") p2) [e1] [] pos) (.d (.int (l.count y : Nat))) := fun A c g F rest s E Q hA B hF S q =>
 MethodCall_ (h A c g F rest s E _ hA B hF S fun c1 g1 v s1 w1 r1 S1 => by
  apply r1.onList; intro a nn vs k1 hr
  obtain ⟨L1, S10⟩ := S1.base
  refine getMethod_list_of PySem.F.slot_list_count PySem.F.type_list_count (items := vs.toArray) ⟨_, S10.keep _ _ k1, rfl, nn, rfl⟩ ⟨_, S10.keep _ _ k1, rfl⟩ ?_
  refine callWith_method1 (evl_cons h1 evl_nil (fun env => (hp env).1) A c1 g1 F rest s1 E _ _ hA (B.keeps w1.up) hF S1 fun c2 g2 us s2 w2 r2 S2 => ?_) (hp _).1 ((hp _).2 _)
  apply r2.onOne; intro v ra; apply ra.onStr; intro _
  obtain ⟨L2, S20⟩ := S2.base
  refine PyProof.Rows.count_list_strs ⟨_, S20.keep _ _ (w2.up _ _ k1), rfl, nn, rfl⟩ (rdAll_strsA (hr.up w2.up)) ?_
  rw [count_in]
  exact q c2 g2 _ _ (w1.trans w2) (.int _ _) (S2.tok _)) (he _)
end

end
section
theorem okP_strs (l : List Str) : okP 1 (.list (l.map .str)) = true := by
 simp only [okP_l, List.all_map, List.all_eq_true]
 intro y _; rfl
section
variable {prog : Program} {w : World} {K : Fl -> AM -> OwnL -> Prop} {n : Nat} {sc : Sc} {m : AM} {σ : OwnL} {e1 e2 e3 : Expr} {b : Bool} {pos : Pos}
theorem ev_and3 (h1 : Ev prog w n sc m σ e1 (.d (.bool true))) (h2 : Ev prog w n sc m σ e2 (.d (.bool true))) (h3 : Ev prog w n sc m σ e3 (.d (.bool b))) : Ev prog w n sc m σ (.BoolOp .And [e1, e2, e3] pos) (.d (.bool b)) := fun A c g F rest s E Q hA B hF S q => by
 show wpAny (model prog w) A (do
  let v <- eval e1 F.env
  standAt pos
  let t <- holding [v] (truthy v)
  match BoolOp.And, t with
  | .And, false | .Or, true => pure v
  | _, _ => do
   let v <- eval e2 F.env
   standAt pos
   let t <- holding [v] (truthy v)
   match BoolOp.And, t with
   | .And, false | .Or, true => pure v
   | _, _ => eval e3 F.env) Q E s
 refine wpAny_bind (h1 A c g F rest s E _ hA B hF S fun c1 g1 v1 s1 w1 r1 S1 => wpAny_bind (wpAny_standAt (wpAny_bind (wpAny_holding ?_))))
 apply r1.onBool
 refine wpAny_truthy_bool ?_
 refine wpAny_bind (h2 A c1 g1 F rest s1 E _ hA (B.keeps w1.up) hF S1 fun c2 g2 v2 s2 w2 r2 S2 => wpAny_bind (wpAny_standAt (wpAny_bind (wpAny_holding ?_))))
 apply r2.onBool
 refine wpAny_truthy_bool ?_
 exact h3 A c2 g2 F rest s2 E _ hA (B.keeps (w1.trans w2).up) hF S2 fun c3 g3 v3 s3 w3 r3 S3 => q c3 g3 v3 s3 ((w1.trans w2).trans w3) r3 S3
theorem ev_cat {ea ew ea2 eb : Expr} {x y : Str} {W : List Str} {p1 p2 p3 p4 : Pos} (hz : W.length <= 5000 -> W.length + 3 <= sizeLine) (hW : W.length <= 5000) (h1 : EvL prog w n sc m σ [ea] [.str x]) (h2 : Ev prog w n sc m σ ew (.d (.list (W.map .str)))) (h3 : EvL prog w n sc m σ [ea2, eb] [.str x, .str y]) :
  Ev prog w n sc m σ (.BinOp (.BinOp (.List [ea] p1) .Add ew p2) .Add (.List [ea2, eb] p3) p4) (.d (.list (([x] ++ W ++ [x, y]).map .str))) := by
 rw [List.map_append, List.map_append]
 have := hz hW
 refine ev_bin (ev_bin (ev_list h1 (sz_le rfl)) h2 (op_addL ?_)) (ev_list h3 (sz_le rfl)) (op_addL ?_)
 ·rw [List.length_map]; simp; omega
 ·simp; omega
theorem law12 {is cs : List Int} {st : Rows × Prs} {t : Str} {xl : Addr} {due : Int} {W : List Str} {K1 K2 : List (PyData × PyData)} {run : Str} {served : Prs} {l1 l2 : List Str} (hpre : preT (lwHanded cs W run) = [lwBlank] ++ W ++ [lwBlank, run ++ Str.ofString "\\"]) (hle : l1 = l2) (hx : ∀ x ∈ lwHanded cs W run, x.length <= 1000) (hW : W.length <= 5000)
  (k : ExP prog w 29 lawSc (lawMz is cs st t xl due W K1 K2 run served l1 l2) σ (lawB.drop 26) K) :
  ExP prog w 29 lawSc (lawMz is cs st t xl due W K1 K2 run served l1 l2) σ (lawB.drop 25) K := by
 have hz : ∀ {a : Nat}, a <= 50000 -> a <= sizeLine := fun h => by rw [sizeLine_eq]; omega
 have hrl : (run ++ Str.ofString "\\").length <= 1000 := hx _ (by unfold lwHanded; simp)
 have hr1 : run.length + (Str.ofString "\\").length <= 1000 := by rw [<- str_app_len]; exact hrl
 have hl : (lwHanded cs W run).length <= 5003 := by unfold lwHanded; simp only [List.length_append, List.length_cons, List.length_nil]; omega
 have hh : lwHanded cs W run = [lwOdd cs run] ++ W ++ [lwOdd cs run, run ++ Str.ofString "\\"] := rfl
 subst hle
 unfold lawMz lawMh lawMs lawMw lawMn lawMq lawMp lawMt lawMe at k ⊢
 generalize lwHanded cs W run = handed at *
 generalize lwOdd cs run = odd at *
 generalize lwBlank = blank at *
 generalize lwPrices (lwCalls (cs.getD 4 0)) cs = pr at *
 generalize lwCalls (cs.getD 4 0) = calls at *
 have h2a : ∀ {i : Nat}, i < 2 -> i < [l1, l1].length := fun h => h
 have h2b : [l1, l1].length <= 100000 := (by decide : 2 <= 100000)
 have hb : ∀ {m : AM} {p1 p2 p3 : Pos} {k1 : Nat}, m.lookup (Str.ofString "run") = some (.d (.str run)) -> Ev prog w 29 lawSc m σ (.BinOp (.Name (Str.ofString "run") p1) .Add (.Constant (.str (Str.ofString "\\")) k1 p2) p3) (.d (.str (run ++ Str.ofString "\\"))) := fun h => ev_bin (ev_name h) ev_str (op_addS (hz (by omega)))
 refine exp_skip (evt_or (b := false) (b' := false) (evt_cmp (ev_callF (by walk_at "glf") (evl_cons (ev_name rfl) evl_nil) (Fn.mono (pre_fn hx (by omega)) (by decide))) (ev_conv (by rw [hpre]) (ev_cat (x := blank) (y := run ++ Str.ofString "\\") (fun h => hz (by omega)) hW (evl_cons (ev_name rfl) evl_nil) (ev_name rfl) (evl_cons (ev_name rfl) (evl_cons (hb rfl) evl_nil)))) (op_neL (u := 0) (PSame.refl 1 _ (okP_strs _)) (by decide))) fun _ => evt_or (b := false) (b' := false) (evt_cmp (ev_name rfl) (ev_conv (by rw [hh]) (ev_cat (x := odd) (y := run ++ Str.ofString "\\") (fun h => hz (by omega)) hW (evl_cons (ev_name rfl) evl_nil) (ev_name rfl) (evl_cons (ev_name rfl) (evl_cons (hb rfl) evl_nil)))) (op_neL (u := 0) (PSame.refl 1 _ (okP_strs _)) (by decide))) fun _ => evt_or (b := false) (b' := false) (evt_cmp (ev_at (f := rowD) (l := [l1, l1]) [] (ev_name rfl) ev_int (by decide) (h2a (by decide)) h2b) (ev_at (f := rowD) (l := [l1, l1]) [] (ev_name rfl) ev_int (by decide) (h2a (by decide)) h2b) (op_neL (u := 0) (PSame.refl 1 _ (okP_strs l1)) (by decide))) fun _ => evt_orn) k
end

end
section
noncomputable def lwMine (prs : Prs) (y : Str) : List Str := (prs.filter fun p => decide (p.2 = y)).map (·.1)
noncomputable def lwPaid (pr : Cs) (mine : List Str) : Int := (mine.map (priceOf pr)).sum
noncomputable def lwCnt (f : Str -> Int) (mine : List Str) : Cs := mine.foldl (fun c one => aPut c one (f one)) []
noncomputable def lwTold (pr : Cs) (mine : List Str) (y : Str) : Ent := ⟨(mine.length : Int) - (mine.count y : Nat), mine.length, lwPaid pr mine, lwPaid pr mine * priceOf pr y, lwCnt (fun x => (mine.count x : Nat)) mine⟩
structure NameOk (pr : Cs) (prs : Prs) (y : Str) : Prop where
 hpr : ∀ x ∈ lwMine prs y, ∃ i, aGet pr x = some i
 hpy : ∃ i, aGet pr y = some i
 mul : IntMulOk (lwPaid pr (lwMine prs y)) (priceOf pr y)
 mul2 : ∀ x ∈ lwMine prs y, IntMulOk (priceOf pr x) ((lwMine prs y).count x : Nat)
 cc : ((aGet (fileB pr prs) y).getD e0).cc = (lwTold pr (lwMine prs y) y).cc
 nc : ((aGet (fileB pr prs) y).getD e0).nc = (lwTold pr (lwMine prs y) y).nc
 tt : ((aGet (fileB pr prs) y).getD e0).tt = (lwTold pr (lwMine prs y) y).tt
 ct : ((aGet (fileB pr prs) y).getD e0).ct = (lwTold pr (lwMine prs y) y).ct
 cs : DSame 2 (.dict (csD ((aGet (fileB pr prs) y).getD e0).cs)) (.dict (csD (lwTold pr (lwMine prs y) y).cs))
 sum : csSum (lwCnt (fun x => priceOf pr x * ((lwMine prs y).count x : Nat)) (lwMine prs y)) = lwPaid pr (lwMine prs y)
theorem entD_same {a b : Ent} (h1 : a.cc = b.cc) (h2 : a.nc = b.nc) (h3 : a.tt = b.tt) (h4 : a.ct = b.ct) (h5 : DSame 2 (.dict (csD a.cs)) (.dict (csD b.cs))) : ∀ (k : Nat) (d e : PyData), ([.int a.cc, .int a.nc, .int a.tt, .int a.ct, .dict (csD a.cs)] : List PyData)[k]? = some d -> ([.int b.cc, .int b.nc, .int b.tt, .int b.ct, .dict (csD b.cs)] : List PyData)[k]? = some e -> DSame 2 d e := by
 rw [h1, h2, h3, h4]
 intro k d e q1 q2
 match k with
 | 0 => cases q1; cases q2; exact .plain (.int _ _)
 | 1 => cases q1; cases q2; exact .plain (.int _ _)
 | 2 => cases q1; cases q2; exact .plain (.int _ _)
 | 3 => cases q1; cases q2; exact .plain (.int _ _)
 | 4 => cases q1; cases q2; exact h5
 | _ + 5 => cases q1
noncomputable def lawMv (calls : List Str) (pr : Cs) (prs : Prs) (run odd : Str) (served : Prs) : AM :=
 [(Str.ofString "served", .d (.list (served.map prD))), (Str.ofString "run", .d (.str run)), (Str.ofString "odd", .d (.str odd)), (Str.ofString "book", .d (.dict (aD entD (fileB pr prs)))), (Str.ofString "prices", .d (.dict (csD pr))), (Str.ofString "pairs", .d (.list (prs.map prD))), (Str.ofString "calls", .d (.list (calls.map .str)))]
theorem pr_at {pr : Cs} {x : Str} (h : ∃ i, aGet pr x = some i) : kvGet (csD pr) x = some (.int (priceOf pr x)) := by
 obtain ⟨i, h⟩ := h
 unfold csD priceOf
 rw [aD_get, h]; rfl
section
variable {prog : Program} {w : World} {K : Fl -> AM -> OwnL -> Prop} {σ : OwnL}
theorem mine_len (prs : Prs) (y : Str) : (lwMine prs y).length <= prs.length := by
 unfold lwMine; rw [List.length_map]; exact List.length_filter_le _ _
theorem lwCnt_vals (f : Str -> Int) (mine : List Str) : (csD (lwCnt f mine)).map (·.2) = ((lwCnt f mine).map (·.2)).map .int := by
 unfold csD aD; rw [List.map_map, List.map_map]; rfl
theorem law13 {is cs : List Int} {st : Rows × Prs} {t : Str} {xl : Addr} {due : Int} {W : List Str} {K1 K2 : List (PyData × PyData)} {run : Str} {served : Prs} {l1 l2 : List Str} (hp : st.2.length <= 1000) (hN : ∀ c ∈ lwCalls (cs.getD 4 0), NameOk (lwPrices (lwCalls (cs.getD 4 0)) cs) st.2 (tl1 c))
  (k : ExP prog w 29 lawSc (lawMv (lwCalls (cs.getD 4 0)) (lwPrices (lwCalls (cs.getD 4 0)) cs) st.2 run (lwOdd cs run) served) σ (lawB.drop 27) K) :
  ExP prog w 29 lawSc (lawMz is cs st t xl due W K1 K2 run served l1 l2) σ (lawB.drop 26) K := by
 have hz : ∀ {a : Nat}, a <= 50000 -> a <= sizeLine := fun h => by rw [sizeLine_eq]; omega
 have hz' : ∀ {a : Nat}, a <= 50000 -> a < sizeLine := fun h => by rw [sizeLine_eq]; omega
 have hcl : ∀ x ∈ lwCalls (cs.getD 4 0), x.length <= 7 := fun x hx => by
  obtain ⟨i, _, rfl⟩ := List.mem_map.mp hx; exact lwCall_len _ _
 have hc3 : (lwCalls (cs.getD 4 0)).length = 3 := by simp [lwCalls]
 unfold lawMz lawMh lawMs lawMw lawMn lawMq lawMp lawMt lawMe
 refine exp_pre (m1 := lawMv (lwCalls (cs.getD 4 0)) (lwPrices (lwCalls (cs.getD 4 0)) cs) st.2 run (lwOdd cs run) served) ?_ (by unfold lawMv; exact Sub.at (by walk_at "sub"))
 generalize lwOdd cs run = odd at *
 generalize lwPrices (lwCalls (cs.getD 4 0)) cs = pr at *
 generalize lwCalls (cs.getD 4 0) = calls at *
 unfold lawMv at k ⊢
 refine exp_cons (es_foldI (enc := PyData.str) (calls.map tl1) (fun _ : Unit => _) (fun _ => σ) (fun _ _ => ()) (fun _ l => ∀ y ∈ l, NameOk pr st.2 y) () (fun y hy => by obtain ⟨c, hc, rfl⟩ := List.mem_map.mp hy; exact hN c hc) (it_list (EvX.ev (evx_lcomp (out := (calls.map tl1).map .str) (it_list (ev_name rfl)) ⟨rfl, by decide, rfl, by decide, .nil⟩ ?_ ?_ (by decide)))) rfl (fun b x l h y hy => h y (List.mem_cons_of_mem _ hy)) (fun b y l h => ?_) (by decide)) k
 ·rw [List.map_map]
  exact ct_map PyData.str (PyData.str ∘ tl1) calls fun x hx => ⟨_, tb_name (.inl rfl), Sub.at (by walk_at "sub"), ev_sliceF (ev_name rfl) ev_int (ops_str (hz (by have := hcl x hx; omega)))⟩
 ·rw [List.length_map]; exact hz' (by omega)
 have N := h y List.mem_cons_self
 clear h hN hcl hc3
 have hml := mine_len st.2 y
 obtain ⟨mine, hmine⟩ : ∃ mine, lwMine st.2 y = mine := ⟨_, rfl⟩
 have Np := N.hpr; have Nm := N.mul; have Nm2 := N.mul2; have Ns := N.sum
 have hD := entD_same N.cc N.nc N.tt N.ct N.cs
 rw [hmine] at hml Np Nm Nm2 Ns hD
 refine bd_name (.inr ⟨rfl, by decide⟩) ?_
 refine ex_cons (es_set (a := .d (.list (mine.map .str))) (EvX.ev (evx_lcomp (it_list (ev_name rfl)) ⟨rfl, by decide, rfl, by decide, .cons (x := Str.ofString "name") rfl (by decide) .nil⟩ ?_ ?_ (by decide))) (.inr ⟨rfl, by decide⟩)) ?_
 ·rw [<- hmine]
  unfold lwMine
  rw [List.map_map]
  exact ct_filter prD (PyData.str ∘ (·.1)) (fun p => decide (p.2 = y)) st.2 fun p hp => ⟨_, tb_tup (.cons (.inl rfl) (.cons (.inl rfl) .nil)), Sub.at (by walk_at "sub"), evt_cmp (ev_name rfl) (ev_name rfl) op_eqS, ev_name rfl⟩
 ·rw [List.length_map]; exact hz' (by omega)
 refine ex_cons (es_set (a := .d (.int (lwPaid pr mine))) (ev_callB (by walk_at "glb") (evl_cons (EvX.ev (evx_lcomp (out := (mine.map (priceOf pr)).map .int) (it_list (ev_name rfl)) ⟨rfl, by decide, rfl, by decide, .cons (x := Str.ofString "prices") rfl (by decide) .nil⟩ ?_ ?_ (by decide))) evl_nil) callb_sum) (.inl rfl)) ?_
 ·rw [List.map_map]
  exact ct_map PyData.str (PyData.int ∘ priceOf pr) mine fun x hx => ⟨_, tb_name (.inl rfl), Sub.at (by walk_at "sub"), ev_sub (ev_name rfl) (ev_name rfl) (opi_dict (pr_at (Np x hx)))⟩
 ·rw [List.length_map]; exact hz' (by omega)
 refine ex_cons (es_set (a := .d (entD (lwTold pr mine y))) (ev_tuple (evl_cons (ev_bin (ev_callB (by walk_at "glb") (evl_cons (ev_name rfl) evl_nil) (len_map (hz (by omega)))) (ev_countL (ev_name rfl) (ev_name rfl)) op_sub) (evl_cons (ev_callB (by walk_at "glb") (evl_cons (ev_name rfl) evl_nil) (len_map (hz (by omega)))) (evl_cons (ev_name rfl) (evl_cons (ev_bin (ev_name rfl) (ev_sub (ev_name rfl) (ev_name rfl) (opi_dict (pr_at N.hpy))) (op_mul Nm)) (evl_cons (ev_dcomp (out := csD (lwCnt (fun x => (mine.count x : Nat)) mine)) (it_list (ev_name rfl)) ⟨rfl, by decide, rfl, by decide, .cons (x := Str.ofString "mine") rfl (by decide) .nil⟩ ?_ ?_ (by decide)) evl_nil))))) (sz_le rfl)) (.inl rfl)) ?_
 ·have := aD_fold PyData.int (fun x : Str => x) (fun x => ((mine.count x : Nat) : Int)) mine []
  show Cd _ _ _ _ _ _ _ _ _ _ _ (aD PyData.int (lwCnt _ mine))
  unfold lwCnt
  rw [<- this]
  exact cd_map PyData.str (fun x : Str => x) (fun x => .int ((mine.count x : Nat) : Int)) _ (fun x hx => ⟨_, tb_name (.inl rfl), Sub.at (by walk_at "sub"), ev_name rfl, ev_countL (ev_name rfl) (ev_name rfl)⟩) _
 ·rw [List.length_map]; exact hz' (by omega)
 have e : (kvGet (aD entD (fileB pr st.2)) y).getD (entD e0) = entD ((aGet (fileB pr st.2) y).getD e0) := by
  rw [aD_get]
  cases aGet (fileB pr st.2) y <;> rfl
 refine ex_cons (es_ifK (evt_or (b := false) (b' := false) (evt_cmp (ev_conv (congrArg AV.d e) (ev_get (ev_name rfl) dat_d (ev_name rfl) (ev_tuple (evl_cons ev_int (evl_cons ev_int (evl_cons ev_int (evl_cons ev_int (evl_cons ev_dict0 evl_nil))))) (sz_le rfl)))) (ev_name rfl) (op_neT (u := 2) rfl hD (by decide))) fun _ => evt_or (b := false) (b' := false) (evt_cmp (ev_callF (by walk_at "glf") (evl_cons (ev_dcomp (out := csD (lwCnt (fun x => priceOf pr x * (mine.count x : Nat)) mine)) (it_list (ev_name rfl)) ⟨rfl, by decide, rfl, by decide, .cons (x := Str.ofString "prices") rfl (by decide) (.cons (x := Str.ofString "mine") rfl (by decide) .nil)⟩ ?_ ?_ (by decide)) evl_nil) (Fn.mono (count_fn (lwCnt_vals _ _)) (by decide))) (ev_name rfl) ?_) fun _ => evt_orn) (fun h => nomatch h) fun _ => ex_nil) (ex_end (by walk_at "sub"))
 ·have := aD_fold PyData.int (fun x : Str => x) (fun x => priceOf pr x * ((mine.count x : Nat) : Int)) mine []
  show Cd _ _ _ _ _ _ _ _ _ _ _ (aD PyData.int (lwCnt _ mine))
  unfold lwCnt
  rw [<- this]
  exact cd_map PyData.str (fun x : Str => x) (fun x => .int (priceOf pr x * ((mine.count x : Nat) : Int))) _ (fun x hx => ⟨_, tb_name (.inl rfl), Sub.at (by walk_at "sub"), ev_name rfl, ev_bin (ev_sub (ev_name rfl) (ev_name rfl) (opi_dict (pr_at (Np x hx)))) (ev_countL (ev_name rfl) (ev_name rfl)) (op_mul (Nm2 x hx))⟩) _
 ·rw [List.length_map]; exact hz' (by omega)
 ·have o := op_neI (prog := prog) (w := w) (n := 29) (σ := σ) (i := csSum (lwCnt (fun x => priceOf pr x * ((mine.count x : Nat) : Int)) mine)) (j := lwPaid pr mine)
  have e : (csSum (lwCnt (fun x => priceOf pr x * ((mine.count x : Nat) : Int)) mine) != lwPaid pr mine) = false := by rw [Ns]; exact bne_self_eq_false _
  rw [e] at o
  exact o
end

end
section
section
variable {prog : Program} {w : World} {K : Fl -> AM -> OwnL -> Prop} {σ : OwnL}
theorem law14 {calls : List Str} {pr : Cs} {prs served : Prs} {run odd : Str} (hr : run.length <= 1000) (ho : odd.length <= 1000) (h1 : checkT run = true) (h2 : checkT odd = false) (h3 : okTold (iterE 0 false (stripT run).cps.toList) 1) (h4 : FInv pr [] (toldT run)) (h5 : FInv pr [] served) (h6 : DSame 4 (.dict (aD entD (fileB pr (toldT run)))) (.dict (aD entD (fileB pr served))))
  (k : K (.ret (.d (.bool true))) [] σ) : ExP prog w 29 lawSc (lawMv calls pr prs run odd served) σ (lawB.drop 27) K := by
 unfold lawMv
 have o1 : Op2 prog w 29 σ (compareOp .Is) (.d (.bool (checkT run))) (.d (.bool true)) (.d (.bool true)) := by have := op_isB (prog := prog) (w := w) (n := 29) (σ := σ) (b := checkT run) (b' := true); rw [h1] at this ⊢; exact this
 have o2 : Op2 prog w 29 σ (compareOp .Is) (.d (.bool (checkT odd))) (.d (.bool false)) (.d (.bool true)) := by have := op_isB (prog := prog) (w := w) (n := 29) (σ := σ) (b := checkT odd) (b' := false); rw [h2] at this ⊢; exact this
 refine exp_ret (Ev.toX (ev_and3 (ev_cmp (ev_callF (by walk_at "glf") (evl_cons (ev_name rfl) evl_nil) (Fn.mono (check_fn hr) (by decide))) ev_bool o1) (ev_cmp (ev_callF (by walk_at "glf") (evl_cons (ev_name rfl) evl_nil) (Fn.mono (check_fn ho) (by decide))) ev_bool o2) (ev_cmp (ev_callF (by walk_at "glf") (evl_cons (ev_callF (by walk_at "glf") (evl_cons (ev_name rfl) evl_nil) (Fn.mono (told_fn hr h3) (by decide))) (evl_cons (ev_name rfl) evl_nil)) (Fn.mono (filed_fn h4) (by decide))) (ev_callF (by walk_at "glf") (evl_cons (ev_name rfl) (evl_cons (ev_name rfl) evl_nil)) (Fn.mono (filed_fn h5) (by decide))) (op_eqD h6 (by decide))))) k
end

end
section
noncomputable abbrev lwC (is : List Int) : List Int := lwCells is
noncomputable abbrev lwCl (is : List Int) : List Str := lwCalls ((lwCells is).getD 4 0)
noncomputable abbrev lwD (is : List Int) : Rows := (lwDeeds is.length (lwCells is)).1
noncomputable abbrev lwP (is : List Int) : Prs := (lwDeeds is.length (lwCells is)).2
noncomputable abbrev lwPr (is : List Int) : Cs := lwPrices (lwCl is) (lwCells is)
noncomputable abbrev lwT (is : List Int) : Str := lwCut ((lwCells is).getD 5 0) (lwText ((lwCells is).getD 5 0) (lwAll (lwD is)))
noncomputable abbrev lwRows (is : List Int) (i : Nat) : PsT := rowsOf i ((lwCl is).zip (lwD is))
noncomputable abbrev lwFirst (is : List Int) : Str := (lwCl is).getD 0 (Str.ofString "")
noncomputable abbrev lwPl (is : List Int) : Nat := (((lwCells is).getD 6 0).fmod (lwCount (lwD is))).toNat
structure Tells (pr : Cs) (ps : Prs) (t : Str) : Prop where
 ok : okTold (iterE 0 false (stripT t).cps.toList) 1
 inv : FInv pr [] (toldT t)
 same : DSame 4 (.dict (aD entD (fileB pr (toldT t)))) (.dict (aD entD (fileB pr ps)))
structure LawOk (is : List Int) : Prop where
 nd : (lwCl is).Nodup
 len : (lwD is).length = 3
 rows : ∀ ws ∈ lwD is, ws.length <= 1000
 all : (lwAll (lwD is)).length <= 12
 words : ∀ x ∈ lwAll (lwD is), x.length <= 10
 prs : (lwP is).length <= 1000
 text : (lwT is).length <= 1000
 read : ∃ c, TokR (lwD is) (lwT is).cps.toList c /\ lexT c = ([], [])
 inv : FInv (lwPr is) [] (lwP is)
 small : ∀ j i, ∀ x ∈ lwRow (lwD is) (lwTabs (lwCells is) (lwP is)) (lwCl is) j i, x.natAbs < 2 ^ 60
 cnt : 0 < lwCount (lwD is) /\ lwCount (lwD is) <= 5000
 runs : ∃ R : Nat -> Str, (∀ i, i < lwCount (lwD is) -> (∃ k q, nestR k (lwRows is i) [lwFirst is] (lwFirst is) = some (q, R i)) /\ (R i).length <= 900) /\
  ((lwWhole (lwCount (lwD is)) R (lwLen (lwCl is) (lwD is))).length : Int) = lwDue (lwD is) (lwTabs (lwCells is) (lwP is)) (lwCl is) /\
  (∀ one ∈ lwWhole (lwCount (lwD is)) R (lwLen (lwCl is) (lwD is)), Tells (lwPr is) (lwP is) one) /\
  ∃ k1 k2 q1 q2 run served, nestR k1 (lwRows is (lwPl is)) [lwFirst is] (lwFirst is) = some (q1, run) /\ lineR k2 (lwRows is (lwPl is)) [] (lwFirst is) [(Str.ofString "", tl1 (lwFirst is))] = some (q2, served) /\ run.length <= 900 /\
   (∀ y ∈ (lwCl is).zip (lwD is), ∃ ps, aGet q1 y.1 = some ps /\ ps.length = y.2.length /\ ps.length <= 1000) /\ (∀ y ∈ (lwCl is).zip (lwD is), ∃ ps, aGet q2 y.1 = some ps /\ ps.length = y.2.length /\ ps.length <= 1000) /\
   lwPop q1 ((lwCl is).zip (lwD is)) = lwPop q2 ((lwCl is).zip (lwD is)) /\
   preT (lwHanded (lwCells is) (lwWhole (lwCount (lwD is)) R (lwLen (lwCl is) (lwD is))) run) = [lwBlank] ++ lwWhole (lwCount (lwD is)) R (lwLen (lwCl is) (lwD is)) ++ [lwBlank, run ++ Str.ofString "\\"] /\
   checkT run = true /\ checkT (lwOdd (lwCells is) run) = false /\ okTold (iterE 0 false (stripT run).cps.toList) 1 /\ FInv (lwPr is) [] (toldT run) /\ FInv (lwPr is) [] served /\ DSame 4 (.dict (aD entD (fileB (lwPr is) (toldT run)))) (.dict (aD entD (fileB (lwPr is) served)))
 names : ∀ c ∈ lwCl is, NameOk (lwPr is) (lwP is) (tl1 c)
set_option tactic.hygienic true in
theorem odd_len (cs : List Int) {run : Str} (h : run.length <= 900) : (lwOdd cs run).length <= 1000 := by
 unfold lwOdd
 have e2 : (Str.ofString "\"(").length = 2 := by decide
 have l1 := Txt.slice_le run none (some (-((lwEnd (cs.getD 4 0) 0).length : Int)))
 have l2 : (Txt.slice run (some 3) none ++ Txt.slice run none (some 3)).length <= 1000 := by
  have h1 := Txt.slice_le run (some 3) none
  have h2 : (Txt.slice run none (some 3)).length <= 3 := by
   unfold Txt.slice
   have h3 : (Builtin.Str.strSliceIndices none (some 3) 1 run.length).length <= 3 := by
    unfold Builtin.Str.strSliceIndices sliceRange
    simp only [show (1 : Int) > 0 by decide, if_true, List.length_map, List.length_range]
    (split <;> (try split) <;> (try split) <;> (try simp only [Int.ediv_one]) <;> omega)
   split
   ·rename_i h
    simp only [Bool.and_eq_true, beq_iff_eq] at h
    omega
   ·show (List.filterMap _ _).toArray.size <= 3
    rw [List.size_toArray]
    exact Nat.le_trans (List.length_filterMap_le _ _) h3
  rw [str_app_len]; omega
 have l3 : (run ++ Str.ofString "\"(").length <= 1000 := by rw [str_app_len]; omega
 match ((cs.getD 6 0).fmod 3).toNat with
 | 0 => exact Nat.le_trans l1 (by omega)
 | 1 => exact l2
 | 2 => exact l3
 | _ + 3 => exact (by decide : (Str.ofString "").length <= 1000)
section
variable {prog : Program} {w : World}
theorem law_body {is : List Int} (hl : is.length <= 1000) (H : LawOk is) : ExP prog w 29 lawSc (lawM0 is) [(107, .tab)] lawB fun fl _ σ' => ∃ d, fl = .ret (.d d) /\ (d = .bool true /\ σ' = [(107, .tab)]) := by
 have h7 := lwCells_len is
 obtain ⟨c, hc1, hc2⟩ := H.read
 obtain ⟨R, hR, hdue, hW, k1, k2, q1, q2, run, served, r1, r2, hrl, p1, p2, hpop, hpre, c1, c2, t1, t2, t3, t4⟩ := H.runs
 have hcnt := H.cnt
 have hol := odd_len (lwCells is) hrl
 refine law0 hl (law1 h7 (law2 h7 hl (law3 h7 H.len H.all H.words (law4 H.text hc1 hc2 (Nat.le_trans (Nat.le_of_eq H.len) (by decide)) H.rows fun l => law5 h7 H.inv (law6 H.len H.rows H.small (law7 H.len H.all H.words (law8 (τ := [lexL l []]) H.nd H.rows hcnt.2 (fun i hi => ⟨(hR i hi).1, Nat.le_trans (hR i hi).2 (by decide)⟩) hdue (fun one h => ⟨(hW one h).ok, (hW one h).inv, (hW one h).same⟩) (law9 h7 H.nd H.rows hcnt.1 rfl r1 r2 fun rs1 rs2 e1 e2 d1 d2 => ?_))))))))
 subst e1 e2
 have hWl : (lwWhole (lwCount (lwD is)) R (lwLen (lwCl is) (lwD is))).length <= 5000 := Nat.le_trans (List.length_filter_le _ _) (by rw [List.length_map, List.length_range]; exact hcnt.2)
 refine law10 h7 (by omega) hWl (law11 H.nd d1 d2 p1 p2 (law12 hpre hpop (fun x hx => ?_) hWl (law13 H.prs H.names (law14 (by omega) hol c1 c2 t1 t2 t3 t4 ⟨_, rfl, rfl, rfl⟩))))
 have hb : (Str.ofString "\\").length = 1 := by decide
 unfold lwHanded at hx
 rcases List.mem_append.mp hx with hx | hx
 ·rcases List.mem_append.mp hx with hx | hx
  ·rw [List.mem_singleton.mp hx]; exact hol
  ·obtain ⟨i, hi, rfl⟩ := List.mem_map.mp (List.mem_filter.mp hx).1
   exact Nat.le_trans (hR i (List.mem_range.mp hi)).2 (by decide)
 ·rcases List.mem_cons.mp hx with rfl | hx
  ·exact hol
  ·rw [List.mem_singleton.mp hx, str_app_len]; omega
end

end
section
section
variable {prog : Program} {w : World}
theorem law_fn {is : List Int} (hl : is.length <= 1000) (H : LawOk is) : FnX prog w 30 152 [.list (is.map .int)] [(107, .tab)] (.bool true) [(107, .tab)] :=
 FnP.toX (fnp_of (m0 := lawM0 is) (fun w => by k_is) (fun w => by k_is) (len1 fun _ => rfl) (by decide) (by decide) rfl (law_body hl H) rfl rfl rfl)
end

end
section
noncomputable def dropAt (h : Heap) (a : Addr) : Heap := h.update a fun o => { o with data := .freed }
theorem dropAt_ne (h : Heap) {a b : Addr} (hb : b ≠ a) : (dropAt h a).get? b = h.get? b := (Heap.SameBut.update ..).2 b hb
theorem dropAt_self (h : Heap) (a : Addr) : (dropAt h a).get? a = none := by
  show (match (h.objs.modify a _)[a]? with | some ⟨_, _, .freed, _⟩ => none | o => o) = none
  rw [Array.getElem?_modify, if_pos rfl]
  cases h.objs[a]? <;> rfl
theorem dropAt_le (h : Heap) (a : Addr) : ∀ b o, (dropAt h a).get? b = some o -> h.get? b = some o := fun b o e => by
  by_cases hb : b = a
  · rw [hb, dropAt_self] at e; cases e
  · rwa [dropAt_ne h hb] at e
theorem ns_drop {h : Heap} {a b : Addr} {m : Str -> Option Value} (hb : b ≠ a) (x : h.Ns b m) : (dropAt h a).Ns b m := by
  obtain ⟨o, es, ep, e, r⟩ := x
  exact ⟨o, es, ep, (dropAt_ne h hb).trans e, r⟩
theorem get_drop {h : Heap} {a b : Addr} {o o' : Obj} (ha : h.get? a = some o') (hb : h.get? b = some o) (hc : o.cls ≠ o'.cls) : (dropAt h a).get? b = some o := by
  rw [dropAt_ne h (fun e => hc (by rw [e, ha] at hb; cases hb; rfl))]; exact hb
noncomputable def emptyP (p : Program) : Program := { p with main := { p.main with body := [] } }
theorem base_drop {w : World} {h : Heap} {p : Program} {loose : List Str} {mean : ExcName -> Option Value} {mg mb : Str -> Option Value} (K : (heapK w.params).In h) (T : Top p loose mean mg mb h) (ht : h.get? 107 = some (tabObj #[])) (hs : h.NoSeer) : Base w (dropAt h 107) where
  K := fun a o e => by
    have : a ≠ 107 := by rintro rfl; exact absurd e (by rw [show (heapK w.params).lookup 107 = none from rfl]; exact fun z => nomatch z)
    exact (dropAt_ne h this).trans (K a o e)
  T := ⟨emptyP p, loose ++ (recsOf p).map (·.name) ++ (litsOf p).map (·.1) ++ (clssOf p loose).map (·.name), mean, mg, mb,
    { g := ns_drop (by decide) T.g
      b := ns_drop (by decide) T.b
      nolimit := let ⟨mc, h1, h2⟩ := T.nolimit; ⟨mc, ns_drop (by decide) h1, h2⟩
      nodigits := let ⟨mc, h1, h2⟩ := T.nodigits; ⟨mc, ns_drop (by decide) h1, h2⟩
      fn := fun d hd => nomatch hd
      own := fun d hd => nomatch hd
      const := fun x d hd => nomatch hd
      free := fun x h1 h2 _ _ _ => by
        simp only [List.mem_append, not_or] at h2
        exact T.free x h1 h2.1.1.1 h2.1.1.2 h2.1.2 h2.2
      builtins := T.builtins
      tab := fun d hd => nomatch hd
      bmain := let ⟨bm, ob, h1, h2, h3, h4, r⟩ := T.bmain; ⟨bm, ob, h1, h2, get_drop ht h3 (by rw [h4]; exact fun z => nomatch z), h4, r⟩
      seer := fun _ =>
        { statics := let ⟨mc, a, b⟩ := hs.statics; ⟨mc, ns_drop (by decide) a, b⟩
          mods := let ⟨mc, a, b⟩ := hs.mods; ⟨mc, ns_drop (by decide) a, b⟩
          imp := let ⟨mc, a, b⟩ := hs.imp; ⟨mc, ns_drop (by decide) a, b⟩
          main := let ⟨mg, bm, ob, a, b, c, d, e⟩ := hs.main; ⟨mg, bm, ob, ns_drop (by decide) a, b, get_drop ht c (by rw [d]; exact fun z => nomatch z), d, e⟩ } }⟩

end
section
noncomputable def view0 : Program := PySem.W.view PySem.Challenge.pw_xb0013_01 [1, 2, 3, 5, 6, 7, 8, 10, 12, 13, 14, 15, 16, 17, 18]
noncomputable abbrev hdRec {n bd : Str} {a : Arguments} {b : List Stmt} {d : List Expr} {r : Option Expr} {tp : List TypeParam} {sc : Scope} {ts : Option Scope} {ps : Pos} (s : Stmt) (_ : s = .FunctionDef n a b d r tp sc ts bd ps) : DefRec := ⟨n, a, b, sc, ps⟩
noncomputable def lawRec : DefRec := hdRec (hdS 18) rfl
theorem ints_of {R : WRecords} : ∀ {xs : List WData}, WShape.hasItems R xs .int = true -> ∃ is : List Int, xs = is.map .int
 | [], _ => ⟨[], rfl⟩
 | d :: xs, h => by
  rw [WShape.hasItems, Bool.and_eq_true] at h
  obtain ⟨is, rfl⟩ := ints_of h.2
  obtain ⟨i, rfl⟩ := hasW_int h.1
  exact ⟨i :: is, rfl⟩
theorem rd_ints {prog : Program} {w : World} {P : Params} {g h : Heap} : ∀ {is : List Int} {vs : List Value}, WellAll P h vs (is.map .int) -> RdAll prog w g vs (is.map .int)
 | [], _, h => by cases h; exact .nil
 | i :: is, _, h => by
  cases h with
  | cons a b => cases a with | int _ t => exact .cons (.int i t) (rd_ints b)
theorem law_args {args : List WData} (h : PySem.Challenge.rw_xb0013_01.row.toRowW.claim.pre args = true) : ∃ is : List Int, args = [.list (is.map .int)] /\ is.length <= 63 := by
 obtain ⟨h1, h2⟩ := pre_splitW h
 obtain ⟨d, r, rfl, h3, h4⟩ := hasAllW_cons h1
 obtain rfl := hasAllW_nil h4
 obtain ⟨xs, rfl, h5⟩ := hasW_list h3
 obtain ⟨is, rfl⟩ := ints_of h5
 refine ⟨is, rfl, ?_⟩
 have h6 : (WTm.and (.not (.lt (.lit (.int 63)) (.len (.arg 0)))) (.lit (.bool true))).holds [] { args := [WData.list (is.map .int)] } = true := h2
 by_cases q : is.length <= 63
 ·exact q
 ·exfalso
  have e : less? (.int 63) (.int ((is.length : Nat) : Int)) = some true := by
   rw [less?]; exact congrArg some (decide_eq_true (by omega))
  simp [WTm.holds, WTm.value, e] at h6
section
theorem post_true (is : List Int) : PySem.Challenge.rw_xb0013_01.row.toRowW.claim.post [.list (is.map .int)] (.bool true) [.list (is.map .int)] = true := by
 show (WShape.has [] (.bool true) .bool && (WTm.eq .res (.lit (.bool true))).holds [] { args := [WData.list (is.map .int)], res := some (.bool true), after := [WData.list (is.map .int)] }) = true
 have e : same (.bool true) (.bool true) = true := by rw [same]; rfl
 rw [show WShape.has [] (.bool true) .bool = true by decide +kernel, Bool.true_and]
 simp [WTm.holds, WTm.value, e]
theorem isCode107 {h : Heap} {w : World} (K : (heapK w.params).In h) (ht : h.get? 107 = some (tabObj #[])) : isCodeTable h 107 := by
 have C := codeHd_of_K K (show codeHdIn (heapK w.params) 111 107 = true from rfl)
 exact (C.tab ht).isCodeTable
theorem walk_of (H : ∀ is : List Int, is.length <= 63 -> LawOk is) : WalkO view0 [] (XL view0 []) (kmHook heapK (2 :: 3 :: 15 :: 17 :: 18 :: 20 :: 21 :: 22 :: 24 :: 25 :: 27 :: 28 :: 29 :: 31 :: 32 :: 34 :: 35 :: 36 :: 38 :: 39 :: 41 :: 42 :: 43 :: 45 :: 46 :: 48 :: 49 :: 50 :: 52 :: 53 :: 55 :: 56 :: 57 :: 59 :: 60 :: 62 :: 63 :: 71 :: 73 :: 74 :: 76 :: 77 :: 78 :: 80 :: 81 :: 83 :: 84 :: 85 :: 87 :: 88 :: 90 :: 91 :: 92 :: 94 :: 95 :: 97 :: 98 :: 99 :: 100 :: 101 :: 102 :: 103 :: 106 :: 108 :: 109 :: 111 :: 112 :: 113 :: 115 :: 116 :: 118 :: 119 :: 120 :: 122 :: 123 :: 125 :: 126 :: 127 :: 129 :: 130 :: 132 :: 133 :: 134 :: 136 :: 137 :: 139 :: 140 :: 141 :: 143 :: 144 :: 146 :: 147 :: 148 :: 151 :: 152 :: []) (fun _ => rfl) [107]).says PySem.Challenge.rw_xb0013_01.row.toRowW lawRec [] (fun f vs => call f vs) := by
 intro w s0 s1 mg mb G Y a o pm cd doc dV kV ha ho hcd hdf hmg hgens args vals as hpre hlay hrd hwell hsys
 have K := km_in_of Y
 have ht := km_tabs_of Y 107 (List.mem_singleton.mpr rfl)
 obtain ⟨is, rfl, hl⟩ := law_args hpre
 have B := base_drop K G.T ht (G.T.seer (by decide +kernel))
 have e : mg (Str.ofString "law") = some (.ref 152) := mg_of K G.T.g rfl
 have ea : a = 152 := by
  have : mg (Str.ofString "law") = some (.ref a) := hmg
  rw [e] at this; cases this; rfl
 subst ea
 cases hwell with
 | cons h1 h2 =>
 cases h2
 cases h1 with
 | @list l vs _ hl1 hl2 =>
 have hr : RdAll PySem.Challenge.pw_xb0013_01 w (dropAt s1.heap 107) [.ref l] [.list (is.map .int)] := .cons (.list (get_drop ht hl1 (fun z => nomatch z)) (rd_ints hl2)) .nil
 have S : Hf ⟨s1.os, s1.gens⟩ (dropAt s1.heap 107) (ownLed PySem.Challenge.pw_xb0013_01 w (dropAt s1.heap 107) [(107, .tab)] ++ []) s1 := by
  refine ⟨dropAt_le _ _, fun p hp => ?_, by simp [ownLed, ownE], rfl, rfl⟩
  obtain rfl : p = (107, tabP (dropAt s1.heap 107)) := List.mem_singleton.mp hp
  exact ⟨⟨_, ht, #[], rfl, by simp [TriplesOk], fun pos cv e => by simp [codeAmong] at e⟩, dropAt_self _ _⟩
 refine wpAny_call (codeAny_mono (law_fn (by omega) (H is hl) callerA _ _ _ s1 _ ⟨rfl, by decide, by decide⟩ B S hr) fun r s' z => ?_)
 obtain ⟨c', g', v, rfl, w', rv, S'⟩ := z
 have rv2 : v = .bool true := by cases rv; rfl
 subst rv2
 obtain ⟨⟨o7, ho7, ps, rfl, _, _⟩, _⟩ := S'.led (107, tabP g') List.mem_cons_self
 refine ⟨.inl ⟨_, .bool true, [], rfl, fun cls => rfl, .bool true, post_true is, fun _ => ⟨.nil, fun _ ha => nomatch ha⟩⟩, ⟨fun b o eb => ?_, fun b o eb => ?_⟩, ?_, ?_⟩
 ·by_cases hb : b = 107
  ·subst hb
   rw [ht] at eb; cases eb
   exact .inr (.inl ⟨isCode107 K ht, rfl, #[], ps, rfl, by rw [ho7]; simp [tabObj]⟩)
  ·exact .inl (S'.keep b o (w'.up b o ((dropAt_ne _ hb).trans eb)))
 ·by_cases hb : b = 107
  ·subst hb; exact ⟨_, ho7⟩
  ·exact ⟨o, S'.keep b o (w'.up b o ((dropAt_ne _ hb).trans eb))⟩
 ·rw [S'.osEq, w'.os]
 ·obtain ⟨x, hx1, hx2⟩ := w'.gs
  rw [S'.gsEq, hx1]
  show AllBare (s1.gens ++ x)
  rw [hgens]; simpa using hx2
end

end
section
theorem sum_le {α : Type} {f g : α -> Nat} : ∀ {l : List α}, (∀ x ∈ l, f x <= g x) -> (l.map f).sum <= (l.map g).sum
 | [], _ => Nat.le_refl _
 | a :: l, h => by
  have h1 := h a List.mem_cons_self
  have h2 := sum_le (l := l) fun x hx => h x (List.mem_cons_of_mem _ hx)
  simp only [List.map_cons, List.sum_cons]; omega
theorem sum_same {α : Type} {f g : α -> Nat} : ∀ {l : List α}, (∀ x ∈ l, f x = g x) -> (l.map f).sum = (l.map g).sum
 | [], _ => rfl
 | a :: l, h => by
  have h1 := h a List.mem_cons_self
  have h2 := sum_same (l := l) fun x hx => h x (List.mem_cons_of_mem _ hx)
  simp only [List.map_cons, List.sum_cons, h1, h2]
theorem sum_bump {α : Type} {f g : α -> Nat} {y : α} {d : Nat} (hd : f y = g y + d) : ∀ {l : List α}, l.Nodup -> y ∈ l -> (∀ z ∈ l, z ≠ y -> f z = g z) -> (l.map f).sum = (l.map g).sum + d
 | a :: l, hn, hy, h => by
  rw [List.nodup_cons] at hn
  simp only [List.map_cons, List.sum_cons]
  by_cases e : a = y
  ·subst e
   have := sum_same (l := l) (f := f) (g := g) fun x hx => h x (List.mem_cons_of_mem _ hx) fun e => hn.1 (e ▸ hx)
   omega
  ·have h1 := h a List.mem_cons_self e
   have h2 := sum_bump hd hn.2 ((List.mem_cons.mp hy).resolve_left fun z => e z.symm) fun z hz => h z (List.mem_cons_of_mem _ hz)
   omega
structure Sy where
 keys : List Str
 row : Str -> List Str
 first : Str
noncomputable def Sy.rd (Y : Sy) (u : Str -> Nat) (x : Str) : Nat := (Y.keys.map fun y => ((Y.row y).take (u y)).count x).sum
noncomputable def Sy.en (Y : Sy) (u : Str -> Nat) (x : Str) : Nat := ((Y.row x).take (u x)).countP fun w => !opens w
noncomputable def Sy.ex (Y : Sy) (u : Str -> Nat) (x : Str) : Int := (if x = Y.first then 1 else 0) + (Y.rd u x : Nat) - (Y.en u x : Nat)
noncomputable def Sy.len (Y : Sy) (x : Str) : Nat := (Y.row x).length
structure Sy.Ok (Y : Sy) : Prop where
 nd : Y.keys.Nodup
 fi : Y.first ∈ Y.keys
 call : ∀ y ∈ Y.keys, ∀ w ∈ Y.row y, opens w = true -> w ∈ Y.keys
 op : ∀ x ∈ Y.keys, opens x = true
 full : ∀ x ∈ Y.keys, Y.ex Y.len x = 0
 wl : ∀ y ∈ Y.keys, ∀ w ∈ Y.row y, 1 <= w.length /\ w.length <= 10
 kl : ∀ x ∈ Y.keys, 1 <= x.length /\ x.length <= 10
 small : (Y.keys.map Y.len).sum <= 12
noncomputable def bump (u : Str -> Nat) (y : Str) : Str -> Nat := fun z => if z = y then u z + 1 else u z
section
variable {Y : Sy} {u v : Str -> Nat} {x y w : Str}
theorem take_count_le {l : List Str} {a b : Nat} (h : a <= b) (x : Str) : (l.take a).count x <= (l.take b).count x := (List.take_sublist_take_left h).count_le x
theorem Sy.rd_mono (h : ∀ y ∈ Y.keys, u y <= v y) : Y.rd u x <= Y.rd v x := sum_le fun y hy => take_count_le (h y hy) x
theorem Sy.lt_of (hv : Y.ex v x <= 0) (hu : ∀ y ∈ Y.keys, u y <= v y) (hx : x ∈ Y.keys) (h : 0 < Y.ex u x) : u x < v x := by
 refine Nat.lt_of_le_of_ne (hu x hx) fun e => ?_
 have h1 := Y.rd_mono (x := x) hu
 have h2 : Y.en u x = Y.en v x := by unfold Sy.en; rw [e]
 unfold Sy.ex at hv h
 omega
theorem Sy.rd_bump (O : Y.Ok) (hy : y ∈ Y.keys) (hw : (Y.row y)[u y]? = some w) : Y.rd (bump u y) x = Y.rd u x + if w = x then 1 else 0 := by
 refine sum_bump (y := y) ?_ O.nd hy fun z _ hz => ?_
 ·show ((Y.row y).take (bump u y y)).count x = _
  rw [show bump u y y = u y + 1 from if_pos rfl, List.take_add_one, hw, List.count_append]
  show _ + List.count x [w] = _
  rw [List.count_singleton]
  by_cases h : w = x
  ·subst h; simp
  ·simp [h]
 ·show ((Y.row z).take (bump u y z)).count x = _
  rw [show bump u y z = u z from if_neg hz]
theorem Sy.en_bump (hw : (Y.row y)[u y]? = some w) : Y.en (bump u y) x = Y.en u x + if x = y /\ opens w = false then 1 else 0 := by
 unfold Sy.en
 by_cases h : x = y
 ·subst h
  rw [show bump u x x = u x + 1 from if_pos rfl, List.take_add_one, hw, List.countP_append]
  show _ + List.countP _ [w] = _
  rw [List.countP_singleton]
  cases opens w <;> simp
 ·rw [show bump u y x = u x from if_neg h, if_neg fun z => h z.1]; rfl
set_option tactic.hygienic true in
theorem bump_le (h : ∀ z ∈ Y.keys, u z <= v z) (hy : u y < v y) : ∀ z ∈ Y.keys, bump u y z <= v z := fun z hz => by
 unfold bump
 split
 ·rename_i e; subst e; exact hy
 ·exact h z hz
noncomputable def Sy.left (Y : Sy) (u : Str -> Nat) : Nat := (Y.keys.map fun y => Y.len y - u y).sum
theorem Sy.left_bump (O : Y.Ok) (hy : y ∈ Y.keys) (h : u y < Y.len y) : Y.left u = Y.left (bump u y) + 1 := by
 refine sum_bump (y := y) ?_ O.nd hy fun z _ hz => ?_
 ·rw [show bump u y y = u y + 1 from if_pos rfl]; omega
 ·rw [show bump u y z = u z from if_neg hz]
end

end
section
noncomputable def rotA (l : List Str) (u : Nat) : List Str := l.drop u ++ l.take u
noncomputable def Sy.q (Y : Sy) (u : Str -> Nat) : PsT := Y.keys.map fun x => (x, rotA (Y.row x) (u x))
theorem aGet_keys {f : Str -> List Str} {x : Str} : ∀ {l : List Str}, x ∈ l -> aGet (l.map fun x => (x, f x)) x = some (f x)
 | a :: l, h => by
  rw [List.map_cons, aGet_c]
  by_cases e : a = x
  ·rw [if_pos e, e]
  ·rw [if_neg e]; exact aGet_keys ((List.mem_cons.mp h).resolve_left fun z => e z.symm)
theorem aPut_keys {f g : Str -> List Str} {x : Str} {v : List Str} (hx : g x = v) (hg : ∀ z, z ≠ x -> g z = f z) : ∀ {l : List Str}, l.Nodup -> x ∈ l -> aPut (l.map fun x => (x, f x)) x v = l.map fun x => (x, g x)
 | a :: l, hn, h => by
  rw [List.nodup_cons] at hn
  rw [List.map_cons, aPut_c]
  by_cases e : a = x
  ·subst e
   rw [if_pos rfl, List.map_cons, hx]
   congr 1
   exact List.map_congr_left fun z hz => by rw [hg z fun e => hn.1 (e ▸ hz)]
  ·rw [if_neg e, List.map_cons, hg a e, aPut_keys hx hg hn.2 ((List.mem_cons.mp h).resolve_left fun z => e z.symm)]
section
variable {Y : Sy} {u : Str -> Nat} {x w : Str}
theorem rotA_cons {l : List Str} {k : Nat} (hw : l[k]? = some w) : rotA l k = w :: (l.drop (k + 1) ++ l.take k) /\ (l.drop (k + 1) ++ l.take k) ++ [w] = rotA l (k + 1) := by
 unfold rotA
 obtain ⟨h, e⟩ := List.getElem?_eq_some_iff.mp hw
 constructor
 ·rw [List.drop_eq_getElem_cons h, e]; rfl
 ·rw [List.take_add_one, hw, List.append_assoc]; rfl
theorem Sy.q_get (hx : x ∈ Y.keys) (hw : (Y.row x)[u x]? = some w) : ∃ ps, aGet (Y.q u) x = some (w :: ps) /\ ps.length + 1 = Y.len x /\ (∀ (O : Y.Ok), aPut (Y.q u) x (ps ++ [w]) = Y.q (bump u x)) := by
 obtain ⟨e1, e2⟩ := rotA_cons hw
 refine ⟨_, (aGet_keys hx).trans (congrArg some e1), ?_, fun O => ?_⟩
 ·have := congrArg List.length e2
  unfold rotA at this
  simp only [List.length_append, List.length_drop, List.length_take, List.length_singleton] at this ⊢
  have := (List.getElem?_eq_some_iff.mp hw).1
  unfold Sy.len
  omega
 ·refine aPut_keys (g := fun z => rotA (Y.row z) (bump u x z)) ?_ (fun z hz => ?_) O.nd hx
  ·show rotA _ (bump u x x) = _
   rw [show bump u x x = u x + 1 from if_pos rfl, e2]
  ·show rotA _ (bump u x z) = _
   rw [show bump u x z = u z from if_neg hz]
end

end
section
noncomputable abbrev Tr := List (Str × Str)
inductive Nst (first : Str) : Tr -> List Str -> Prop
 | nil : Nst first [] [first]
 | call {tr : Tr} {las : List Str} {x w : Str} : Nst first tr (las ++ [x]) -> opens w = true -> Nst first (tr ++ [(x, w)]) (las ++ [x] ++ [w])
 | ret {tr : Tr} {las : List Str} {x w : Str} : Nst first tr (las ++ [x]) -> opens w = false -> Nst first (tr ++ [(x, w)]) las
noncomputable def Sy.all (Y : Sy) (u : Str -> Nat) : Tr := Y.keys.flatMap fun y => ((Y.row y).take (u y)).map fun w => (y, w)
noncomputable def trT (first : Str) (tr : Tr) : Str := tr.foldl (fun t y => t ++ y.2) first
theorem trT_snoc (first : Str) (tr : Tr) (y : Str × Str) : trT first (tr ++ [y]) = trT first tr ++ y.2 := by
 unfold trT; rw [List.foldl_append]; rfl
theorem flat_bump {α β : Type} {f g : α -> List β} {y : α} {d : β} (hd : f y = g y ++ [d]) : ∀ {l : List α}, l.Nodup -> y ∈ l -> (∀ z ∈ l, z ≠ y -> f z = g z) -> (l.flatMap f).Perm (l.flatMap g ++ [d])
 | a :: l, hn, hy, h => by
  rw [List.nodup_cons] at hn
  simp only [List.flatMap_cons]
  by_cases e : a = y
  ·subst e
   have : l.flatMap f = l.flatMap g := by
    have : ∀ l' : List α, (∀ x ∈ l', f x = g x) -> l'.flatMap f = l'.flatMap g := fun l' => by
     induction l' with
     | nil => intro _; rfl
     | cons z l' ih => intro h; rw [List.flatMap_cons, List.flatMap_cons, h z List.mem_cons_self, ih fun x hx => h x (List.mem_cons_of_mem _ hx)]
    exact this l fun x hx => h x (List.mem_cons_of_mem _ hx) fun e => hn.1 (e ▸ hx)
   rw [hd, this, List.append_assoc, List.append_assoc]
   exact List.Perm.append_left _ List.perm_append_comm
  ·rw [h a List.mem_cons_self e, List.append_assoc]
   exact List.Perm.append_left _ (flat_bump hd hn.2 ((List.mem_cons.mp hy).resolve_left fun z => e z.symm) fun z hz => h z (List.mem_cons_of_mem _ hz))
structure Sy.NI (Y : Sy) (u : Str -> Nat) (las : List Str) (tr : Tr) : Prop where
 le : ∀ v : Str -> Nat, (∀ x ∈ Y.keys, Y.ex v x <= 0) -> ∀ y ∈ Y.keys, u y <= v y
 cnt : ∀ x ∈ Y.keys, ((las.count x : Nat) : Int) = Y.ex u x
 mem : ∀ x ∈ las, x ∈ Y.keys
 nst : Nst Y.first tr las
 perm : tr.Perm (Y.all u)
 tl : (trT Y.first tr).length + 10 * Y.left u <= 130
 ll : las.length + Y.left u <= 13
section
variable {Y : Sy} {u : Str -> Nat} {x y w : Str} {las : List Str} {tr : Tr}
theorem Sy.all_bump (O : Y.Ok) (hy : y ∈ Y.keys) (hw : (Y.row y)[u y]? = some w) : (Y.all (bump u y)).Perm (Y.all u ++ [(y, w)]) := by
 refine flat_bump (y := y) ?_ O.nd hy fun z _ hz => ?_
 ·show ((Y.row y).take (bump u y y)).map _ = _
  rw [show bump u y y = u y + 1 from if_pos rfl, List.take_add_one, hw, List.map_append]; rfl
 ·show ((Y.row z).take (bump u y z)).map _ = _
  rw [show bump u y z = u z from if_neg hz]
theorem Sy.s_bump (O : Y.Ok) (hy : y ∈ Y.keys) (hw : (Y.row y)[u y]? = some w) : Y.ex (bump u y) x = Y.ex u x + (if w = x then 1 else 0) - (if x = y /\ opens w = false then 1 else 0) := by
 unfold Sy.ex
 rw [Y.rd_bump O hy hw, Y.en_bump hw]
 have e1 : (((if w = x then 1 else 0 : Nat)) : Int) = if w = x then 1 else 0 := by split <;> rfl
 have e2 : (((if x = y /\ opens w = false then 1 else 0 : Nat)) : Int) = if x = y /\ opens w = false then 1 else 0 := by split <;> rfl
 rw [Int.natCast_add, Int.natCast_add, e1, e2]; omega
theorem Sy.len_le (O : Y.Ok) (hx : x ∈ Y.keys) : Y.len x <= 12 := by
 have : ∀ l : List Str, x ∈ l -> Y.len x <= (l.map Y.len).sum := fun l => by
  induction l with
  | nil => intro h; cases h
  | cons a l ih =>
   intro h
   rw [List.map_cons, List.sum_cons]
   rcases List.mem_cons.mp h with rfl | h
   ·omega
   ·have := ih h; omega
 exact Nat.le_trans (this _ hx) O.small
theorem Sy.nest_step (O : Y.Ok) (N : Y.NI u (las ++ [x]) tr) : ∃ w, (Y.row x)[u x]? = some w /\ x ∈ Y.keys /\ Y.NI (bump u x) (if opens w = true then las ++ [x] ++ [w] else las) (tr ++ [(x, w)]) := by
 have hx := N.mem x (List.mem_append_right _ (List.mem_singleton.mpr rfl))
 have hs : 0 < Y.ex u x := by
  rw [<- N.cnt x hx, List.count_append, List.count_singleton, if_pos (beq_self_eq_true x)]; omega
 have hlt : u x < Y.len x := Y.lt_of (v := Y.len) (Int.le_of_eq (O.full x hx)) (N.le _ fun z hz => Int.le_of_eq (O.full z hz)) hx hs
 have hw : (Y.row x)[u x]? = some ((Y.row x)[u x]'hlt) := List.getElem?_eq_getElem hlt
 generalize (Y.row x)[u x]'hlt = w at hw
 have hwm : w ∈ Y.row x := List.mem_of_getElem? hw
 have hwl := O.wl x hx w hwm
 have hleft := Y.left_bump O hx hlt
 refine ⟨w, hw, hx, fun v hv => bump_le (N.le v hv) (Y.lt_of (hv x hx) (N.le v hv) hx hs), fun z hz => ?_, ?_, ?_, (N.perm.append_right _).trans (Y.all_bump O hx hw).symm, ?_, ?_⟩
 ·rw [Y.s_bump O hx hw, <- N.cnt z hz]
  by_cases ho : opens w = true
  ·rw [if_pos ho, List.count_append (l₁ := las ++ [x]), List.count_singleton, if_neg (show ¬ (z = x /\ opens w = false) from fun h => by rw [ho] at h; cases h.2)]
   by_cases e : w = z
   ·subst e; simp <;> omega
   ·rw [if_neg e]; simp [e]
  ·have ho' : opens w = false := by simpa using ho
   rw [if_neg ho, List.count_append, List.count_singleton, if_neg (show ¬ w = z from fun e => ho (e ▸ O.op z hz))]
   by_cases e : x = z
   ·subst e; simp [ho']
   ·rw [if_neg (show ¬ (z = x /\ opens w = false) from fun h => e h.1.symm)]; simp [e]
 ·intro z hz
  by_cases ho : opens w = true
  ·rw [if_pos ho] at hz
   rcases List.mem_append.mp hz with hz | hz
   ·exact N.mem z hz
   ·rw [List.mem_singleton.mp hz]; exact O.call x hx w hwm ho
  ·rw [if_neg ho] at hz
   exact N.mem z (List.mem_append_left _ hz)
 ·by_cases ho : opens w = true
  ·rw [if_pos ho]; exact .call N.nst ho
  ·rw [if_neg ho]; exact .ret N.nst (by simpa using ho)
 ·rw [trT_snoc, str_app_len]
  have := N.tl
  show (trT Y.first tr).length + w.length + _ <= 130
  omega
 ·have := N.ll
  by_cases ho : opens w = true
  ·rw [if_pos ho]; simp only [List.length_append, List.length_singleton] at this ⊢; omega
  ·rw [if_neg ho]; simp only [List.length_append, List.length_singleton] at this ⊢; omega
theorem Sy.nest_ends (O : Y.Ok) : ∀ (n : Nat) (u : Str -> Nat) (las : List Str) (tr : Tr), Y.left u = n -> Y.NI u las tr -> ∃ k u' tr', nestR k (Y.q u) las (trT Y.first tr) = some (Y.q u', trT Y.first tr') /\ Y.NI u' [] tr' := by
 intro n
 induction n with
 | zero =>
  intro u las tr hn N
  rcases List.eq_nil_or_concat las with rfl | ⟨l, x, rfl⟩
  ·exact ⟨0, u, tr, if_pos rfl, N⟩
  ·rw [List.concat_eq_append] at N
   obtain ⟨w, hw, hx, N'⟩ := Y.nest_step O N
   have := Y.left_bump O hx (List.getElem?_eq_some_iff.mp hw).1
   omega
 | succ n ih =>
  intro u las tr hn N
  rcases List.eq_nil_or_concat las with rfl | ⟨l, x, rfl⟩
  ·exact ⟨0, u, tr, if_pos rfl, N⟩
  ·rw [List.concat_eq_append] at N ⊢
   obtain ⟨w, hw, hx, N'⟩ := Y.nest_step O N
   have hlt := (List.getElem?_eq_some_iff.mp hw).1
   have hl := Y.left_bump O hx hlt
   obtain ⟨k, u', tr', hk, N2⟩ := ih (bump u x) _ (tr ++ [(x, w)]) (by omega) N'
   obtain ⟨ps, g1, g2, g3⟩ := Y.q_get hx hw
   refine ⟨k + 1, u', tr', ?_, N2⟩
   have hwl := O.wl x hx w (List.mem_of_getElem? hw)
   have h12 := Y.len_le O hx
   have hok : nestOk w ps (l ++ [x]) (trT Y.first tr) = true := by
    have := N.tl; have := N.ll
    simp only [nestOk, decide_eq_true_eq]
    refine ⟨hwl.1, by omega, by omega, by omega, by omega⟩
   simp only [nestR_s, List.getLast?_append, List.getLast?_singleton, Option.some_or]
   rw [g1]
   simp only [hok, if_true, g3 O]
   rw [trT_snoc] at hk
   rw [List.dropLast_concat]
   exact hk
end

end
section
noncomputable def prOf (y : Str × Str) : Str × Str := (tl1 y.1, tl1 y.2)
noncomputable def callsOf (tr : Tr) : Prs := (tr.filter fun y => opens y.2).map prOf
structure Sy.LI (Y : Sy) (u : Str -> Nat) (act : List Str) (prs : Prs) : Prop where
 le : ∀ v : Str -> Nat, (∀ x ∈ Y.keys, Y.ex v x <= 0) -> ∀ y ∈ Y.keys, u y <= v y
 cnt : ∀ x ∈ Y.keys, ((act.count x : Nat) : Int) = Y.ex u x
 mem : ∀ x ∈ act, x ∈ Y.keys
 pr : ∃ ps, prs = (Str.ofString "", tl1 Y.first) :: ps /\ ps.Perm (callsOf (Y.all u))
 ll : act.length + Y.left u <= 13
 pl : prs.length + Y.left u <= 13
theorem callsOf_perm {a b : Tr} (h : a.Perm b) : (callsOf a).Perm (callsOf b) := (h.filter _).map _
theorem callsOf_snoc (a : Tr) (y : Str × Str) : callsOf (a ++ [y]) = callsOf a ++ if opens y.2 = true then [prOf y] else [] := by
 unfold callsOf
 rw [List.filter_append, List.map_append]
 congr 1
 by_cases h : opens y.2 = true
 ·simp [h]
 ·simp [h]
section
variable {Y : Sy} {u : Str -> Nat} {x y w : Str} {qu : List Str} {prs : Prs}
theorem Sy.line_step (O : Y.Ok) (N : Y.LI u (x :: qu) prs) : ∃ w, (Y.row x)[u x]? = some w /\ x ∈ Y.keys /\ Y.LI (bump u x) (if opens w = true then qu ++ [w, x] else qu) (if opens w = true then prs ++ [(tl1 x, tl1 w)] else prs) := by
 have hx := N.mem x List.mem_cons_self
 have hs : 0 < Y.ex u x := by
  rw [<- N.cnt x hx, List.count_cons_self]; omega
 have hlt : u x < Y.len x := Y.lt_of (v := Y.len) (Int.le_of_eq (O.full x hx)) (N.le _ fun z hz => Int.le_of_eq (O.full z hz)) hx hs
 have hw : (Y.row x)[u x]? = some ((Y.row x)[u x]'hlt) := List.getElem?_eq_getElem hlt
 generalize (Y.row x)[u x]'hlt = w at hw
 have hwm : w ∈ Y.row x := List.mem_of_getElem? hw
 have hleft := Y.left_bump O hx hlt
 refine ⟨w, hw, hx, fun v hv => bump_le (N.le v hv) (Y.lt_of (hv x hx) (N.le v hv) hx hs), fun z hz => ?_, ?_, ?_, ?_, ?_⟩
 ·rw [Y.s_bump O hx hw, <- N.cnt z hz]
  by_cases ho : opens w = true
  ·rw [if_pos ho, List.count_append, if_neg (show ¬ (z = x /\ opens w = false) from fun h => by rw [ho] at h; cases h.2)]
   simp only [List.count_cons, List.count_nil]
   by_cases e : w = z
   ·subst e; simp <;> omega
   ·rw [if_neg e]; simp [e] <;> omega
  ·have ho' : opens w = false := by simpa using ho
   rw [if_neg ho, List.count_cons, if_neg (show ¬ w = z from fun e => ho (e ▸ O.op z hz))]
   by_cases e : x = z
   ·subst e; simp [ho']
   ·rw [if_neg (show ¬ (z = x /\ opens w = false) from fun h => e h.1.symm)]; simp [e]
 ·intro z hz
  by_cases ho : opens w = true
  ·rw [if_pos ho] at hz
   rcases List.mem_append.mp hz with hz | hz
   ·exact N.mem z (List.mem_cons_of_mem _ hz)
   ·rcases List.mem_cons.mp hz with rfl | hz
    ·exact O.call x hx _ hwm ho
    ·rw [List.mem_singleton.mp hz]; exact hx
  ·rw [if_neg ho] at hz
   exact N.mem z (List.mem_cons_of_mem _ hz)
 ·obtain ⟨ps, rfl, hp⟩ := N.pr
  have hp2 : (callsOf (Y.all (bump u x))).Perm (callsOf (Y.all u) ++ if opens w = true then [prOf (x, w)] else []) := by
   have := callsOf_perm (Y.all_bump O hx hw)
   rw [callsOf_snoc] at this; exact this
  by_cases ho : opens w = true
  ·rw [if_pos ho] at hp2 ⊢
   exact ⟨ps ++ [(tl1 x, tl1 w)], rfl, (hp.append_right _).trans hp2.symm⟩
  ·rw [if_neg ho, List.append_nil] at hp2
   rw [if_neg ho]
   exact ⟨ps, rfl, hp.trans hp2.symm⟩
 ·have := N.ll
  rw [List.length_cons] at this
  by_cases ho : opens w = true
  ·rw [if_pos ho]; simp only [List.length_append, List.length_cons, List.length_nil]; omega
  ·rw [if_neg ho]; omega
 ·have := N.pl
  by_cases ho : opens w = true
  ·rw [if_pos ho]; simp only [List.length_append, List.length_singleton]; omega
  ·rw [if_neg ho]; omega
theorem Sy.line_ends (O : Y.Ok) : ∀ (n : Nat) (u : Str -> Nat) (x : Str) (qu : List Str) (prs : Prs), Y.left u = n -> Y.LI u (x :: qu) prs -> ∃ k u' prs', lineR k (Y.q u) qu x prs = some (Y.q u', prs') /\ Y.LI u' [] prs' := by
 intro n
 induction n with
 | zero =>
  intro u x qu prs hn N
  obtain ⟨w, hw, hx, N'⟩ := Y.line_step O N
  have := Y.left_bump O hx (List.getElem?_eq_some_iff.mp hw).1
  omega
 | succ n ih =>
  intro u x qu prs hn N
  obtain ⟨w, hw, hx, N'⟩ := Y.line_step O N
  have hlt := (List.getElem?_eq_some_iff.mp hw).1
  have hl := Y.left_bump O hx hlt
  obtain ⟨ps, g1, g2, g3⟩ := Y.q_get hx hw
  have hwl := O.wl x hx w (List.mem_of_getElem? hw)
  have hkl := O.kl x hx
  have h12 := Y.len_le O hx
  have hok : lineOk x w ps qu prs = true := by
   have h1 := N.ll; have := N.pl
   rw [List.length_cons] at h1
   simp only [lineOk, decide_eq_true_eq]
   refine ⟨fun e => ?_, hwl.1, by omega, by omega, by omega, by omega, by omega⟩
   have := hkl.1
   rw [e] at this
   exact absurd this (by decide)
  have step : ∀ k, lineR (k + 1) (Y.q u) qu x prs = match (if opens w = true then qu ++ [w, x] else qu) with
    | [] => lineR k (Y.q (bump u x)) [] (Str.ofString "") (if opens w = true then prs ++ [(tl1 x, tl1 w)] else prs)
    | y :: qu' => lineR k (Y.q (bump u x)) qu' y (if opens w = true then prs ++ [(tl1 x, tl1 w)] else prs) := fun k => by
   rw [lineR_s, g1]
   simp only [hok, if_true, g3 O]
   try (generalize (if opens w = true then qu ++ [w, x] else qu) = act; cases act <;> rfl)
  generalize (if opens w = true then qu ++ [w, x] else qu) = act at N' step
  generalize (if opens w = true then prs ++ [(tl1 x, tl1 w)] else prs) = prs1 at N' step
  cases act with
  | nil => exact ⟨1, bump u x, prs1, (step 0).trans (if_pos ⟨rfl, rfl⟩), N'⟩
  | cons y qu' =>
   obtain ⟨k, u', prs', hk, N2⟩ := ih (bump u x) y qu' prs1 (by omega) N'
   exact ⟨k + 1, u', prs', by rw [step]; exact hk, N2⟩
end

end
section
noncomputable def wsum (tr : Tr) : Nat := (tr.map fun y => y.2.length).sum
theorem trT_len (first : Str) : ∀ (tr : Tr) , (trT first tr).length = first.length + wsum tr := by
 have : ∀ (tr : Tr) (t : Str), (tr.foldl (fun t y => t ++ y.2) t).length = t.length + wsum tr := fun tr => by
  induction tr with
  | nil => intro t; rfl
  | cons y tr ih =>
   intro t
   rw [List.foldl_cons, ih, str_app_len]
   show _ = _ + (y.2.length + (tr.map fun y => y.2.length).sum)
   unfold wsum; omega
 exact fun tr => this tr first
theorem wsum_perm {a b : Tr} (h : a.Perm b) : wsum a = wsum b := (h.map _).sum_nat
theorem wsum_flat {f : Str -> List Str} : ∀ l : List Str, wsum (l.flatMap fun y => (f y).map fun w => (y, w)) = (l.map fun y => ((f y).map fun w => w.length).sum).sum
 | [] => rfl
 | a :: l => by
  have := wsum_flat (f := f) l
  unfold wsum at this ⊢
  rw [List.flatMap_cons, List.map_append, List.sum_append, this, List.map_cons, List.sum_cons, List.map_map]; rfl
theorem sum_take_le {l : List Nat} (k : Nat) : (l.take k).sum <= l.sum := by
 rw [<- List.take_append_drop k l, List.sum_append, List.take_append_drop]; omega
theorem sum_take_eq : ∀ {l : List Nat} {k : Nat}, (∀ x ∈ l, 1 <= x) -> k <= l.length -> (l.take k).sum = l.sum -> k = l.length
 | [], 0, _, _, _ => rfl
 | a :: l, 0, h, _, e => by
  have := h a List.mem_cons_self
  simp at e; omega
 | a :: l, k + 1, h, hk, e => by
  rw [List.take_succ_cons, List.sum_cons, List.sum_cons] at e
  rw [List.length_cons] at hk ⊢
  rw [sum_take_eq (fun x hx => h x (List.mem_cons_of_mem _ hx)) (Nat.le_of_succ_le_succ hk) (by omega)]
theorem sum_eq_each {α : Type} {f g : α -> Nat} : ∀ {l : List α}, (∀ x ∈ l, f x <= g x) -> (l.map f).sum = (l.map g).sum -> ∀ x ∈ l, f x = g x
 | a :: l, h, e, x, hx => by
  have h1 := h a List.mem_cons_self
  have h2 := sum_le (l := l) fun x hx => h x (List.mem_cons_of_mem _ hx)
  simp only [List.map_cons, List.sum_cons] at e
  rcases List.mem_cons.mp hx with rfl | hx
  ·omega
  ·exact sum_eq_each (fun x hx => h x (List.mem_cons_of_mem _ hx)) (by omega) x hx
section
variable {Y : Sy} {u v : Str -> Nat}
theorem Sy.q_congr (h : ∀ x ∈ Y.keys, u x = v x) : Y.q u = Y.q v := List.map_congr_left fun x hx => by rw [h x hx]
theorem Sy.all_congr (h : ∀ x ∈ Y.keys, u x = v x) : Y.all u = Y.all v := by
 unfold Sy.all
 have : ∀ l : List Str, (∀ x ∈ l, u x = v x) -> (l.flatMap fun y => ((Y.row y).take (u y)).map fun w => (y, w)) = l.flatMap fun y => ((Y.row y).take (v y)).map fun w => (y, w) := fun l => by
  induction l with
  | nil => intro _; rfl
  | cons a l ih => intro h; rw [List.flatMap_cons, List.flatMap_cons, h a List.mem_cons_self, ih fun x hx => h x (List.mem_cons_of_mem _ hx)]
 exact this _ h
theorem Sy.whole_iff (O : Y.Ok) (hu : ∀ y ∈ Y.keys, u y <= Y.len y) : wsum (Y.all u) = wsum (Y.all Y.len) ↔ ∀ y ∈ Y.keys, u y = Y.len y := by
 constructor
 ·intro e y hy
  have e1 : wsum (Y.all u) = _ := wsum_flat (f := fun y => (Y.row y).take (u y)) Y.keys
  have e2 : wsum (Y.all Y.len) = _ := wsum_flat (f := fun y => (Y.row y).take (Y.len y)) Y.keys
  rw [e1, e2] at e
  have := sum_eq_each (fun x hx => ?_) e y hy
  ·rw [show (Y.row y).take (Y.len y) = Y.row y from List.take_length, List.map_take] at this
   have := sum_take_eq (fun x hx => by obtain ⟨w, hw, rfl⟩ := List.mem_map.mp hx; exact (O.wl y hy w hw).1) (by rw [List.length_map]; exact hu y hy) this
   rw [List.length_map] at this
   exact this
  ·rw [show (Y.row x).take (Y.len x) = Y.row x from List.take_length, List.map_take]
   exact sum_take_le _
 ·intro h; rw [Y.all_congr h]
structure Sy.Runs (Y : Sy) (u : Str -> Nat) (tr : Tr) (ps : Prs) : Prop where
 nest : ∃ k, nestR k (Y.keys.map fun x => (x, Y.row x)) [Y.first] Y.first = some (Y.q u, trT Y.first tr)
 line : ∃ k, lineR k (Y.keys.map fun x => (x, Y.row x)) [] Y.first [(Str.ofString "", tl1 Y.first)] = some (Y.q u, (Str.ofString "", tl1 Y.first) :: ps)
 nst : Nst Y.first tr []
 perm : tr.Perm (Y.all u)
 pr : ps.Perm (callsOf (Y.all u))
 le : ∀ v : Str -> Nat, (∀ x ∈ Y.keys, Y.ex v x <= 0) -> ∀ y ∈ Y.keys, u y <= v y
 rest : ∀ x ∈ Y.keys, Y.ex u x = 0
 tl : (trT Y.first tr).length <= 130
theorem Sy.runs (O : Y.Ok) : ∃ u tr ps, Y.Runs u tr ps := by
 have hs : ∀ x ∈ Y.keys, ((([Y.first] : List Str).count x : Nat) : Int) = Y.ex (fun _ => 0) x := fun x hx => by
  have e1 : Y.rd (fun _ => 0) x = 0 := by
   have : ∀ l : List Str, (l.map fun y => ((Y.row y).take 0).count x).sum = 0 := fun l => by
    induction l with
    | nil => rfl
    | cons a l ih => rw [List.map_cons, List.sum_cons, ih]; simp
   exact this _
  have e2 : Y.en (fun _ => 0) x = 0 := rfl
  unfold Sy.ex
  rw [e1, e2, List.count_singleton]
  by_cases h : x = Y.first
  ·subst h; simp
  ·rw [if_neg h, if_neg (by simpa using fun e => h e.symm)]; rfl
 have hl : Y.left (fun _ => 0) = (Y.keys.map Y.len).sum := rfl
 have hsm := O.small
 have hf := O.kl _ O.fi
 have hq : Y.q (fun _ => 0) = Y.keys.map fun x => (x, Y.row x) := List.map_congr_left fun x _ => by
  show (x, rotA (Y.row x) 0) = _
  unfold rotA; rw [List.drop_zero, List.take_zero, List.append_nil]
 have ha : Y.all (fun _ => 0) = [] := by
  have : ∀ l : List Str, (l.flatMap fun y => ((Y.row y).take 0).map fun w => (y, w)) = [] := fun l => by
   induction l with
   | nil => rfl
   | cons a l ih => rw [List.flatMap_cons, ih]; rfl
  exact this _
 have hm : ∀ x ∈ [Y.first], x ∈ Y.keys := fun x hx => by rw [List.mem_singleton.mp hx]; exact O.fi
 obtain ⟨k1, u1, tr, h1, N⟩ := Y.nest_ends O _ (fun _ => 0) [Y.first] [] rfl ⟨fun _ _ _ _ => Nat.zero_le _, hs, hm, .nil, by rw [ha], by rw [hl]; show Y.first.length + _ <= 130; omega, by rw [hl]; show 1 + _ <= 13; omega⟩
 obtain ⟨k2, u2, prs, h2, L⟩ := Y.line_ends O _ (fun _ => 0) Y.first [] [(Str.ofString "", tl1 Y.first)] rfl ⟨fun _ _ _ _ => Nat.zero_le _, hs, hm, ⟨[], rfl, by rw [ha]; exact .refl _⟩, by rw [hl]; show 1 + _ <= 13; omega, by rw [hl]; show 1 + _ <= 13; omega⟩
 have r1 : ∀ x ∈ Y.keys, Y.ex u1 x = 0 := fun x hx => (N.cnt x hx).symm
 have r2 : ∀ x ∈ Y.keys, Y.ex u2 x = 0 := fun x hx => (L.cnt x hx).symm
 have e : ∀ x ∈ Y.keys, u2 x = u1 x := fun x hx => Nat.le_antisymm (L.le u1 (fun z hz => Int.le_of_eq (r1 z hz)) x hx) (N.le u2 (fun z hz => Int.le_of_eq (r2 z hz)) x hx)
 obtain ⟨ps, rfl, hp⟩ := L.pr
 rw [Y.q_congr e] at h2
 rw [Y.all_congr e] at hp
 rw [hq] at h1 h2
 exact ⟨u1, tr, ps, ⟨k1, h1⟩, ⟨k2, h2⟩, N.nst, N.perm, hp, N.le, r1, by have := N.tl; omega⟩
end

end
section
noncomputable def sel4 {α : Type} (x : Nat) (A B C D : α) : α := Nat.rec (motive := fun _ => α) A (fun y _ => Nat.rec (motive := fun _ => α) B (fun z _ => Nat.rec (motive := fun _ => α) C (fun _ _ => D) z) y) x
noncomputable def sim (f : Nat) : Nat -> Nat -> Nat -> List Nat -> List Nat -> List Nat -> Bool :=
 Nat.rec (motive := fun _ => Nat -> Nat -> Nat -> List Nat -> List Nat -> List Nat -> Bool) (fun _ _ _ _ _ _ => false)
  (fun _ ih s0 s1 s2 r0 r1 r2 =>
   Nat.rec (motive := fun _ => Bool)
    (Nat.rec (motive := fun _ => Bool)
     (Nat.rec (motive := fun _ => Bool)
      (List.rec (motive := fun _ => Bool) (List.rec (motive := fun _ => Bool) (List.rec (motive := fun _ => Bool) true (fun _ _ _ => false) r2) (fun _ _ _ => false) r1) (fun _ _ _ => false) r0)
      (fun t _ => List.rec (motive := fun _ => Bool) false (fun x r _ => sel4 x (ih 1 0 (t + 1) r0 r1 r) (ih 0 1 (t + 1) r0 r1 r) (ih 0 0 (t + 2) r0 r1 r) (ih 0 0 t r0 r1 r)) r2) s2)
     (fun t _ => List.rec (motive := fun _ => Bool) false (fun x r _ => sel4 x (ih 1 (t + 1) s2 r0 r r2) (ih 0 (t + 2) s2 r0 r r2) (ih 0 (t + 1) (s2 + 1) r0 r r2) (ih 0 t s2 r0 r r2)) r1) s1)
    (fun t _ => List.rec (motive := fun _ => Bool) false (fun x r _ => sel4 x (ih (t + 2) s1 s2 r r1 r2) (ih (t + 1) (s1 + 1) s2 r r1 r2) (ih (t + 1) s1 (s2 + 1) r r1 r2) (ih t s1 s2 r r1 r2)) r0) s0) f
noncomputable def end3 (a : List Nat) : Bool := List.rec (motive := fun _ => Bool) true (fun x r ih => List.rec (motive := fun _ => Bool) (Nat.beq x 3) (fun _ _ _ => ih) r) a
noncomputable def rots (a : List Nat) : List (List Nat) := (List.range (max 1 a.length)).map fun t => a.drop t ++ a.take t
noncomputable def cnt3 (a0 a1 a2 : List Nat) : Nat := (((rots a0).filter end3).map fun b0 => (((rots a1).filter end3).map fun b1 => ((rots a2).filter end3).countP fun b2 => sim 20 1 0 0 b0 b1 b2).sum).sum
noncomputable def appR (a b : List Nat) : List Nat := List.rec (motive := fun _ => List Nat) b (fun x _ ih => x :: ih) a
noncomputable def splR (a : List Nat) : List Nat -> List (List Nat) := List.rec (motive := fun _ => List Nat -> List (List Nat)) (fun _ => []) (fun x r ih pre => Bool.rec (ih (appR pre [x])) (appR (x :: r) pre :: ih (appR pre [x])) (end3 (appR (x :: r) pre))) a
noncomputable def rotR (a : List Nat) : List (List Nat) := List.rec (motive := fun _ => List (List Nat)) [[]] (fun x r _ => splR (x :: r) []) a
noncomputable def sumR {α : Type} (l : List α) (g : α -> Nat) : Nat := List.rec (motive := fun _ => Nat) 0 (fun x _ ih => Nat.add (g x) ih) l
noncomputable def cntR (j : Nat) (l : List Nat) : Nat := List.rec (motive := fun _ => Nat) 0 (fun x _ ih => Bool.rec ih (Nat.succ ih) (Nat.beq x j)) l
noncomputable def cnt3R (a0 a1 a2 : List Nat) : Nat := sumR (rotR a0) fun b0 => sumR (rotR a1) fun b1 => sumR (rotR a2) fun b2 => Bool.rec 0 1 (sim 20 1 0 0 b0 b1 b2)
noncomputable def cutR (l : List Nat) : Nat -> List Nat × List Nat :=
 List.rec (motive := fun _ => Nat -> List Nat × List Nat) (fun _ => ([], []))
  (fun x r ih k => Nat.rec (motive := fun _ => List Nat × List Nat) ([], x :: r) (fun k' _ => Bool.rec (x :: (ih (k' + 1)).1, (ih (k' + 1)).2) (x :: (ih k').1, (ih k').2) (Nat.beq x 3)) k) l
noncomputable def isNil (a : List Nat) : Bool := List.rec (motive := fun _ => Bool) true (fun _ _ _ => false) a
noncomputable def detR (a0 a1 a2 : List Nat) (c : Nat) : Bool :=
 let A (j : Nat) (a : List Nat) : Nat := cntR j a
 let d0 : Nat := Nat.sub (Nat.add (Nat.add (A 0 a0) (A 0 a1)) (Nat.add (A 0 a2) 1)) (A 0 a0)
 let d1 : Nat := Bool.rec (Nat.sub (Nat.add (Nat.add (A 1 a0) (A 1 a1)) (A 1 a2)) (A 1 a1)) 1 (isNil a1)
 let d2 : Nat := Bool.rec (Nat.sub (Nat.add (Nat.add (A 2 a0) (A 2 a1)) (A 2 a2)) (A 2 a2)) 1 (isNil a2)
 Nat.beq (Nat.mul d0 (Nat.mul d1 d2)) (Nat.add c (Nat.add (Nat.add (Nat.mul d0 (Nat.mul (A 2 a1) (A 1 a2))) (Nat.mul (A 1 a0) (Nat.mul (A 0 a1) d2))) (Nat.add (Nat.add (Nat.mul (A 1 a0) (Nat.mul (A 2 a1) (A 0 a2))) (Nat.mul (A 2 a0) (Nat.mul (A 0 a1) (A 1 a2)))) (Nat.mul (A 2 a0) (Nat.mul d1 (A 0 a2))))))
noncomputable def chkLR (l : List Nat) : Bool :=
 (fun z0 : List Nat × List Nat => (fun z1 : List Nat × List Nat => detR z0.1 z1.1 z1.2 (cnt3R z0.1 z1.1 z1.2)) (cutR z0.2 (cntR 1 l))) (cutR l (Nat.succ (cntR 0 l)))
noncomputable def enumR (P : List Nat -> Bool) (f : Nat) : Nat -> Nat -> List Nat -> Bool :=
 Nat.rec (motive := fun _ => Nat -> Nat -> List Nat -> Bool) (fun _ _ acc => P acc)
  (fun _ ih n m acc =>
   Nat.rec (motive := fun _ => Bool) (Nat.rec (motive := fun _ => Bool) (P acc) (fun m' _ => ih 0 m' (3 :: acc)) m)
    (fun n' _ => and (ih n' m (0 :: acc)) (and (ih n' m (1 :: acc)) (and (ih n' m (2 :: acc)) (Nat.rec (motive := fun _ => Bool) true (fun m' _ => ih n m' (3 :: acc)) m)))) n) f
theorem appR_eq (b : List Nat) : ∀ a : List Nat, appR a b = a ++ b
 | [] => rfl
 | x :: a => congrArg (x :: ·) (appR_eq b a)
theorem sumR_eq {α : Type} (g : α -> Nat) : ∀ l : List α, sumR l g = (l.map g).sum
 | [] => rfl
 | x :: l => congrArg (g x + ·) (sumR_eq g l)
theorem beq3 {x : Nat} (h : x ≠ 3) : Nat.beq x 3 = false := Bool.eq_false_iff.mpr fun z => h (Nat.eq_of_beq_eq_true z)
theorem cntR_eq (j : Nat) : ∀ l : List Nat, cntR j l = l.count j
 | [] => rfl
 | x :: l => by
  have e : cntR j (x :: l) = Bool.rec (motive := fun _ => Nat) (cntR j l) (Nat.succ (cntR j l)) (Nat.beq x j) := rfl
  rw [List.count_cons, <- cntR_eq j l, e]
  by_cases h : x = j
  ·subst h; rw [Nat.beq_refl]; simp
  ·rw [Bool.eq_false_iff.mpr fun z => h (Nat.eq_of_beq_eq_true z)]; simp [h]
theorem splR_eq : ∀ (a pre : List Nat), splR a pre = ((List.range a.length).map fun t => a.drop t ++ (pre ++ a.take t)).filter end3
 | [], _ => rfl
 | x :: r, pre => by
  show Bool.rec (motive := fun _ => List (List Nat)) (splR r (appR pre [x])) (appR (x :: r) pre :: splR r (appR pre [x])) (end3 (appR (x :: r) pre)) = _
  rw [splR_eq r, appR_eq, appR_eq, List.length_cons, List.range_succ_eq_map, List.map_cons, List.map_map, List.filter_cons]
  have e2 : ((fun t => (x :: r).drop t ++ (pre ++ (x :: r).take t)) ∘ Nat.succ) = fun t => r.drop t ++ (pre ++ [x] ++ r.take t) := by
   funext t; simp [Function.comp]
  rw [e2, List.drop_zero, List.take_zero, List.append_nil]
  cases end3 (x :: r ++ pre) <;> rfl
theorem rotR_eq : ∀ a : List Nat, rotR a = (rots a).filter end3
 | [] => rfl
 | x :: r => by
  show splR (x :: r) [] = _
  rw [splR_eq, rots, show max 1 (x :: r).length = (x :: r).length from Nat.max_eq_right (Nat.succ_pos _)]; rfl
theorem sum_ind {α : Type} (p : α -> Bool) : ∀ l : List α, (l.map fun b => (Bool.rec (motive := fun _ => Nat) 0 1 (p b))).sum = l.countP p
 | [] => rfl
 | b :: l => by
  rw [List.map_cons, List.sum_cons, sum_ind p l, List.countP_cons]
  cases p b <;> simp <;> omega
theorem cnt3R_eq (a0 a1 a2 : List Nat) : cnt3R a0 a1 a2 = cnt3 a0 a1 a2 := by
 unfold cnt3R cnt3
 simp only [sumR_eq, rotR_eq, sum_ind]
theorem enumR_ok {P : List Nat -> Bool} : ∀ (f n m : Nat) (acc : List Nat), enumR P f n m acc = true -> n + m = f -> ∀ w : List Nat, w.length = n + m -> w.count 3 = m -> (∀ x ∈ w, x < 4) -> P (w ++ acc) = true := by
 intro f
 induction f with
 | zero =>
  intro n m acc h hf w hw _ _
  obtain rfl : w = [] := List.length_eq_zero_iff.mp (by omega)
  exact h
 | succ f ih =>
  intro n m acc h hf w hw hc hx
  rcases List.eq_nil_or_concat w with rfl | ⟨w, x, rfl⟩
  ·rw [List.length_nil] at hw; omega
  ·rw [List.concat_eq_append] at hw hc hx ⊢
   rw [List.length_append, List.length_singleton] at hw
   rw [List.count_append, List.count_singleton] at hc
   rw [List.append_assoc]
   have hx4 := hx x (List.mem_append_right _ (List.mem_singleton.mpr rfl))
   have hx' : ∀ y ∈ w, y < 4 := fun y hy => hx y (List.mem_append_left _ hy)
   have hwc : w.count 3 <= w.length := List.count_le_length
   clear hx
   by_cases e : x = 3
   ·subst e
    rw [if_pos (show (3 == 3) = true from rfl)] at hc
    cases m with
    | zero => omega
    | succ m =>
     refine ih n m (3 :: acc) ?_ (by omega) w (by omega) (by omega) hx'
     cases n with
     | zero => exact h
     | succ n => exact (Bool.and_eq_true_iff.mp (Bool.and_eq_true_iff.mp (Bool.and_eq_true_iff.mp h).2).2).2
   ·rw [if_neg (by simpa using e)] at hc
    cases n with
    | zero => omega
    | succ n =>
     refine ih n m (x :: acc) ?_ (by omega) w (by omega) (by omega) hx'
     have z := Bool.and_eq_true_iff.mp h
     have z2 := Bool.and_eq_true_iff.mp z.2
     obtain rfl | rfl | rfl : x = 0 \/ x = 1 \/ x = 2 := by omega
     ·exact z.1
     ·exact z2.1
     ·exact (Bool.and_eq_true_iff.mp z2.2).1
theorem enumR_join {P : List Nat -> Bool} {f n m : Nat} {acc : List Nat} (h0 : enumR P f n (m + 1) (0 :: acc) = true) (h1 : enumR P f n (m + 1) (1 :: acc) = true) (h2 : enumR P f n (m + 1) (2 :: acc) = true) (h3 : enumR P f (n + 1) m (3 :: acc) = true) : enumR P (f + 1) (n + 1) (m + 1) acc = true :=
 Bool.and_eq_true_iff.mpr ⟨h0, Bool.and_eq_true_iff.mpr ⟨h1, Bool.and_eq_true_iff.mpr ⟨h2, h3⟩⟩⟩
theorem k3 : enumR chkLR 6 3 3 [3] = true := by decide +kernel
theorem k40 : enumR chkLR 7 3 4 [0, 3] = true := by decide +kernel
theorem k41 : enumR chkLR 7 3 4 [1, 3] = true := by decide +kernel
theorem k42 : enumR chkLR 7 3 4 [2, 3] = true := by decide +kernel
theorem k430 : enumR chkLR 6 3 3 [0, 3, 3] = true := by decide +kernel
theorem k431 : enumR chkLR 6 3 3 [1, 3, 3] = true := by decide +kernel
theorem k432 : enumR chkLR 6 3 3 [2, 3, 3] = true := by decide +kernel
theorem k4330 : enumR chkLR 5 3 2 [0, 3, 3, 3] = true := by decide +kernel
theorem k4331 : enumR chkLR 5 3 2 [1, 3, 3, 3] = true := by decide +kernel
theorem k4332 : enumR chkLR 5 3 2 [2, 3, 3, 3] = true := by decide +kernel
theorem k4333 : enumR chkLR 5 4 1 [3, 3, 3, 3] = true := by decide +kernel
theorem k4 : enumR chkLR 8 4 4 [3] = true := enumR_join k40 k41 k42 (enumR_join k430 k431 k432 (enumR_join k4330 k4331 k4332 k4333))
theorem rots_turn (x : Nat) (r : List Nat) : (rots (r ++ [x])).Perm (rots (x :: r)) := by
 unfold rots
 rw [List.length_append, List.length_singleton, List.length_cons, Nat.max_eq_right (Nat.succ_pos _ : 1 <= r.length + 1)]
 let f : Nat -> List Nat := fun t => (x :: r).drop t ++ (x :: r).take t
 have e2 : (List.range (r.length + 1)).map (fun t => (r ++ [x]).drop t ++ (r ++ [x]).take t) = (List.range (r.length + 1)).map (f ∘ Nat.succ) := List.map_congr_left fun t ht => by
  have := List.mem_range.mp ht
  show _ = r.drop t ++ (x :: r.take t)
  rw [List.drop_append_of_le_length (by omega), List.take_append_of_le_length (by omega), List.append_assoc]; rfl
 have e3 : f 0 :: (List.range (r.length + 1)).map (f ∘ Nat.succ) = (List.range (r.length + 1)).map f ++ [f 0] := by
  rw [<- List.map_map, <- List.map_cons, <- List.range_succ_eq_map, List.range_succ, List.map_append]
  congr 1
  show [(x :: r).drop (x :: r).length ++ (x :: r).take (x :: r).length] = [x :: r ++ []]
  rw [List.drop_length, List.take_length, List.append_nil]; rfl
 rw [e2]
 exact List.Perm.cons_inv (a := f 0) (by rw [e3]; exact List.perm_append_comm)
theorem rots_turns : ∀ (a b : List Nat), (rots (b ++ a)).Perm (rots (a ++ b))
 | a, [] => by rw [List.append_nil]; exact .refl _
 | a, x :: b => by
  have h2 := rots_turns (a ++ [x]) b
  rw [show b ++ (a ++ [x]) = b ++ a ++ [x] from (List.append_assoc ..).symm, show a ++ [x] ++ b = a ++ x :: b by simp] at h2
  exact (rots_turn x (b ++ a)).symm.trans h2
theorem cnt3_turn {a0 a1 a2 b0 b1 b2 : List Nat} (h0 : (rots a0).Perm (rots b0)) (h1 : (rots a1).Perm (rots b1)) (h2 : (rots a2).Perm (rots b2)) : cnt3 a0 a1 a2 = cnt3 b0 b1 b2 := by
 unfold cnt3
 have e1 : ∀ x, (((rots a1).filter end3).map fun y => ((rots a2).filter end3).countP fun z => sim 20 1 0 0 x y z).sum = (((rots b1).filter end3).map fun y => ((rots b2).filter end3).countP fun z => sim 20 1 0 0 x y z).sum := fun x => by
  rw [((h1.filter _).map _).sum_nat]
  congr 1
  exact List.map_congr_left fun y _ => (h2.filter _).countP_eq _
 simp only [e1]
 exact ((h0.filter _).map _).sum_nat
theorem end3_cons {x : Nat} {r : List Nat} (h : end3 r = true) (hx : r = [] -> x = 3) : end3 (x :: r) = true := by
 cases r with
 | nil => rw [hx rfl]; rfl
 | cons y r => exact h
theorem end3_snoc : ∀ w : List Nat, end3 (w ++ [3]) = true
 | [] => rfl
 | x :: w => end3_cons (end3_snoc w) fun e => absurd e (by simp)
theorem end3_tail {x : Nat} {r : List Nat} (h : end3 (x :: r) = true) : end3 r = true /\ (r = [] -> x = 3) := by
 cases r with
 | nil => exact ⟨rfl, fun _ => Nat.eq_of_beq_eq_true h⟩
 | cons y r => exact ⟨h, fun e => nomatch e⟩
theorem end_last : ∀ {a : List Nat}, a ≠ [] -> end3 a = true -> ∃ w, a = w ++ [3]
 | [], h, _ => absurd rfl h
 | x :: r, _, he => by
  by_cases e : r = []
  ·exact ⟨[], by rw [e, (end3_tail he).2 e]; rfl⟩
  ·obtain ⟨w, hw⟩ := end_last e (end3_tail he).1
   exact ⟨x :: w, by rw [hw]; rfl⟩
theorem no_end {a : List Nat} (h : a ≠ []) (hn : 3 ∉ a) : (rots a).filter end3 = [] := by
 rw [List.filter_eq_nil_iff]
 intro b hb he
 obtain ⟨t, _, rfl⟩ := List.mem_map.mp hb
 have hp : (a.drop t ++ a.take t).Perm a := List.perm_append_comm.trans (by rw [List.take_append_drop])
 obtain ⟨w, hw⟩ := end_last (fun e => h (by rw [e] at hp; exact hp.symm.eq_nil)) he
 exact hn (hp.mem_iff.mp (by rw [hw]; exact List.mem_append_right _ List.mem_cons_self))
theorem cutR_app (b : List Nat) : ∀ (a : List Nat) (k : Nat), end3 a = true -> a.count 3 = k -> (k = 0 -> a = []) -> cutR (a ++ b) k = (a, b)
 | [], k, _, hc, _ => by
  obtain rfl : k = 0 := hc.symm
  cases b <;> rfl
 | x :: r, 0, _, _, h0 => nomatch h0 rfl
 | x :: r, k + 1, he, hc, _ => by
  obtain ⟨hr, hl⟩ := end3_tail he
  rw [List.count_cons] at hc
  show Bool.rec (motive := fun _ => List Nat × List Nat) (x :: (cutR (r ++ b) (k + 1)).1, (cutR (r ++ b) (k + 1)).2) (x :: (cutR (r ++ b) k).1, (cutR (r ++ b) k).2) (Nat.beq x 3) = _
  by_cases e : x = 3
  ·subst e
   rw [if_pos (show (3 == 3) = true from rfl)] at hc
   rw [cutR_app b r k hr (by omega) fun hk => Decidable.byContradiction fun hn => ?_]
   ·rfl
   ·obtain ⟨w, hw⟩ := end_last hn hr
    rw [hw, List.count_append] at hc
    have : List.count 3 [3] = 1 := rfl
    omega
  ·rw [if_neg (by simpa using e)] at hc
   rw [beq3 e, cutR_app b r (k + 1) hr hc fun h => nomatch h]
theorem last_app : ∀ {a b : List Nat}, (∃ w, a = w ++ [3]) -> end3 b = true -> ∃ w, a ++ b = w ++ [3]
 | a, [], h, _ => by rw [List.append_nil]; exact h
 | a, x :: b, _, hb => by
  obtain ⟨w, hw⟩ := end_last (List.cons_ne_nil x b) hb
  exact ⟨a ++ w, by rw [hw, List.append_assoc]⟩
structure Bal (N : Nat) (a0 a1 a2 : List Nat) : Prop where
 lt : ∀ x ∈ a0 ++ (a1 ++ a2), x < 4
 k0 : a0.count 3 = (a0 ++ (a1 ++ a2)).count 0 + 1
 k1 : a1.count 3 = (a0 ++ (a1 ++ a2)).count 1
 k2 : a2.count 3 = (a0 ++ (a1 ++ a2)).count 2
 len : (a0 ++ (a1 ++ a2)).length = 2 * N + 1
 k3 : (a0 ++ (a1 ++ a2)).count 3 = N + 1
theorem Bal.perm {N : Nat} {a0 a1 a2 b0 b1 b2 : List Nat} (B : Bal N a0 a1 a2) (h0 : b0.Perm a0) (h1 : b1.Perm a1) (h2 : b2.Perm a2) : Bal N b0 b1 b2 := by
 have p := h0.append (h1.append h2)
 exact ⟨fun x hx => B.lt x (p.mem_iff.mp hx), by rw [h0.count_eq, p.count_eq]; exact B.k0, by rw [h1.count_eq, p.count_eq]; exact B.k1, by rw [h2.count_eq, p.count_eq]; exact B.k2, by rw [p.length_eq]; exact B.len, by rw [p.count_eq]; exact B.k3⟩
theorem det_ok {a0 a1 a2 : List Nat} {N : Nat} (hN : N = 3 \/ N = 4) (B : Bal N a0 a1 a2) (e0 : end3 a0 = true) (e1 : end3 a1 = true) (e2 : end3 a2 = true) (z1 : a1.count 3 = 0 -> a1 = []) : detR a0 a1 a2 (cnt3 a0 a1 a2) = true := by
 have c0 := B.k0
 have hne : a0 ≠ [] := by rintro rfl; simp at c0
 obtain ⟨w, hw⟩ := last_app (last_app (end_last hne e0) e1) e2
 rw [List.append_assoc] at hw
 have hk : chkLR (a0 ++ (a1 ++ a2)) = true := by
  have hl := B.len; have h3 := B.k3; have hx := B.lt
  rw [hw] at hl h3 hx ⊢
  rw [List.length_append, List.length_singleton] at hl
  rw [List.count_append] at h3
  have h3' : w.count 3 = N := Nat.succ.inj h3
  rcases hN with rfl | rfl
  ·exact enumR_ok 6 3 3 [3] k3 rfl w (by omega) h3' fun x hx' => hx x (List.mem_append_left _ hx')
  ·exact enumR_ok 8 4 4 [3] k4 rfl w (by omega) h3' fun x hx' => hx x (List.mem_append_left _ hx')
 unfold chkLR at hk
 rw [cntR_eq, cntR_eq, cutR_app _ a0 _ e0 c0 fun h => nomatch h] at hk
 simp only at hk
 rw [cutR_app _ a1 _ e1 B.k1 fun h => z1 (by rw [B.k1, h]), cnt3R_eq] at hk
 exact hk
theorem turn_end (a : List Nat) (h : a = [] \/ 3 ∈ a) : ∃ b, b.Perm a /\ end3 b = true /\ (rots b).Perm (rots a) := by
 rcases h with rfl | h
 ·exact ⟨[], .refl _, rfl, .refl _⟩
 ·obtain ⟨p, s, rfl⟩ := List.append_of_mem h
  rw [show p ++ 3 :: s = (p ++ [3]) ++ s by rw [List.append_assoc]; rfl]
  exact ⟨s ++ (p ++ [3]), List.perm_append_comm, by rw [<- List.append_assoc]; exact end3_snoc _, rots_turns _ _⟩
theorem isNil_len (a : List Nat) : isNil a = Nat.beq a.length 0 := by cases a <;> rfl
theorem isNil_perm {a b : List Nat} (h : b.Perm a) : isNil b = isNil a := by rw [isNil_len, isNil_len, h.length_eq]
theorem detR_congr {a0 a1 a2 b0 b1 b2 : List Nat} {c : Nat} (h0 : b0.Perm a0) (h1 : b1.Perm a1) (h2 : b2.Perm a2) : detR b0 b1 b2 c = detR a0 a1 a2 c := by
 unfold detR
 simp only [cntR_eq, h0.count_eq, h1.count_eq, h2.count_eq, isNil_perm h1, isNil_perm h2]
theorem isNil_of {a : List Nat} (h : a ≠ []) : isNil a = false := by
 cases a with
 | nil => exact absurd rfl h
 | cons x a => rfl
theorem det_all {a0 a1 a2 : List Nat} {N : Nat} (hN : N = 3 \/ N = 4) (B : Bal N a0 a1 a2) : detR a0 a1 a2 (cnt3 a0 a1 a2) = true := by
 have dead : ∀ {a : List Nat}, ¬ (a = [] \/ 3 ∈ a) -> (rots a).filter end3 = [] /\ isNil a = false /\ a.count 3 = 0 := fun h =>
  ⟨no_end (fun e => h (.inl e)) (fun e => h (.inr e)), isNil_of fun e => h (.inl e), List.count_eq_zero.mpr fun e => h (.inr e)⟩
 have k1 := B.k1; have k2 := B.k2
 simp only [List.count_append] at k1 k2
 have zs : ∀ {α : Type} (l : List α), (l.map fun _ => 0).sum = 0 := fun l => by induction l with | nil => rfl | cons _ l ih => rw [List.map_cons, List.sum_cons, ih]
 by_cases q1 : a1 = [] \/ 3 ∈ a1
 ·by_cases q2 : a2 = [] \/ 3 ∈ a2
  ·obtain ⟨b0, p0, e0, r0⟩ := turn_end a0 (.inr (List.count_pos_iff.mp (by rw [B.k0]; omega)))
   obtain ⟨b1, p1, e1, r1⟩ := turn_end a1 q1
   obtain ⟨b2, p2, e2, r2⟩ := turn_end a2 q2
   rw [<- cnt3_turn r0 r1 r2, <- detR_congr p0 p1 p2]
   refine det_ok hN (B.perm p0 p1 p2) e0 e1 e2 fun h => ?_
   rw [p1.count_eq] at h
   rcases q1 with rfl | q
   ·exact p1.eq_nil
   ·have := List.count_pos_iff.mpr q; omega
  ·obtain ⟨d1, d2, d3⟩ := dead q2
   unfold detR cnt3
   simp only [cntR_eq, d1, d2, List.countP_nil, zs, show a0.count 2 = 0 by omega, show a1.count 2 = 0 by omega, show a2.count 2 = 0 by omega]
   simp
 ·obtain ⟨d1, d2, d3⟩ := dead q1
  unfold detR cnt3
  simp only [cntR_eq, d1, d2, List.map_nil, List.sum_nil, zs, show a0.count 1 = 0 by omega, show a1.count 1 = 0 by omega, show a2.count 1 = 0 by omega]
  simp
theorem sel4_cases {x : Nat} {A B C D : Bool} (h : sel4 x A B C D = true) (hx : x < 4) : A = true \/ B = true \/ C = true \/ (x = 3 /\ D = true) := by
 obtain rfl | rfl | rfl | rfl : x = 0 \/ x = 1 \/ x = 2 \/ x = 3 := by omega
 ·exact .inl h
 ·exact .inr (.inl h)
 ·exact .inr (.inr (.inl h))
 ·exact .inr (.inr (.inr ⟨rfl, h⟩))
noncomputable def Rdy (s : Nat) (r : List Nat) : Prop := end3 r = true /\ (0 < s -> r ≠ [])
theorem Rdy.le {s t : Nat} {r : List Nat} (h : Rdy t r) (k : s <= t) : Rdy s r := ⟨h.1, fun z => h.2 (by omega)⟩
theorem Rdy.go {s t x : Nat} {r : List Nat} (h : Rdy (t + 1) r) : Rdy s (x :: r) := ⟨end3_cons h.1 fun e => absurd e (h.2 (Nat.succ_pos _)), fun _ e => nomatch e⟩
theorem Rdy.stop {s t x : Nat} {r : List Nat} (h : Rdy t r) (e : x = 3) : Rdy s (x :: r) := ⟨end3_cons h.1 fun _ => e, fun _ e => nomatch e⟩
theorem sim_end3 : ∀ (f s0 s1 s2 : Nat) (r0 r1 r2 : List Nat), (∀ x ∈ r0, x < 4) -> (∀ x ∈ r1, x < 4) -> (∀ x ∈ r2, x < 4) -> sim f s0 s1 s2 r0 r1 r2 = true -> Rdy s0 r0 /\ Rdy s1 r1 /\ Rdy s2 r2 := by
 intro f
 induction f with
 | zero => intro _ _ _ _ _ _ _ _ _ h; cases h
 | succ f ih =>
  intro s0 s1 s2 r0 r1 r2 x0 x1 x2 h
  have le : ∀ {k : Nat}, k <= k + 1 := Nat.le_succ _
  cases s0 with
  | succ t =>
   cases r0 with
   | nil => cases h
   | cons x r =>
    have ih' := fun s0 s1 s2 => ih s0 s1 s2 r r1 r2 (fun y hy => x0 y (List.mem_cons_of_mem _ hy)) x1 x2
    rcases sel4_cases h (x0 x List.mem_cons_self) with h | h | h | ⟨e, h⟩
    ·have z := ih' _ _ _ h; exact ⟨z.1.go, z.2⟩
    ·have z := ih' _ _ _ h; exact ⟨z.1.go, z.2.1.le le, z.2.2⟩
    ·have z := ih' _ _ _ h; exact ⟨z.1.go, z.2.1, z.2.2.le le⟩
    ·have z := ih' _ _ _ h; exact ⟨z.1.stop e, z.2⟩
  | zero =>
   cases s1 with
   | succ t =>
    cases r1 with
    | nil => cases h
    | cons x r =>
     have ih' := fun s0 s1 s2 => ih s0 s1 s2 r0 r r2 x0 (fun y hy => x1 y (List.mem_cons_of_mem _ hy)) x2
     rcases sel4_cases h (x1 x List.mem_cons_self) with h | h | h | ⟨e, h⟩
     ·have z := ih' _ _ _ h; exact ⟨z.1.le le, z.2.1.go, z.2.2⟩
     ·have z := ih' _ _ _ h; exact ⟨z.1, z.2.1.go, z.2.2⟩
     ·have z := ih' _ _ _ h; exact ⟨z.1, z.2.1.go, z.2.2.le le⟩
     ·have z := ih' _ _ _ h; exact ⟨z.1, z.2.1.stop e, z.2.2⟩
   | zero =>
    cases s2 with
    | succ t =>
     cases r2 with
     | nil => cases h
     | cons x r =>
      have ih' := fun s0 s1 s2 => ih s0 s1 s2 r0 r1 r x0 x1 fun y hy => x2 y (List.mem_cons_of_mem _ hy)
      rcases sel4_cases h (x2 x List.mem_cons_self) with h | h | h | ⟨e, h⟩
      ·have z := ih' _ _ _ h; exact ⟨z.1.le le, z.2.1, z.2.2.go⟩
      ·have z := ih' _ _ _ h; exact ⟨z.1, z.2.1.le le, z.2.2.go⟩
      ·have z := ih' _ _ _ h; exact ⟨z.1, z.2.1, z.2.2.go⟩
      ·have z := ih' _ _ _ h; exact ⟨z.1, z.2.1, z.2.2.stop e⟩
    | zero =>
     have n : ∀ {k : Nat}, Rdy 0 [] := ⟨rfl, fun h => absurd h (Nat.lt_irrefl 0)⟩
     cases r0 with
     | cons _ _ => cases h
     | nil =>
      cases r1 with
      | cons _ _ => cases h
      | nil =>
       cases r2 with
       | cons _ _ => cases h
       | nil => exact ⟨n (k := 0), n (k := 0), n (k := 0)⟩

end
section
theorem drop_map {α β : Type} {g : β -> α} {l : List α} {k : Nat} {w : α} {r : List β} (h : l.drop k = r.map g) (hw : l[k]? = some w) : ∃ i r', r = i :: r' /\ w = g i /\ l.drop (k + 1) = r'.map g := by
 obtain ⟨hk, e⟩ := List.getElem?_eq_some_iff.mp hw
 rw [List.drop_eq_getElem_cons hk, e] at h
 cases r with
 | nil => cases h
 | cons i r' =>
  rw [List.map_cons] at h
  injection h with h1 h2
  exact ⟨i, r', rfl, h1, h2⟩
noncomputable def at3 {α : Type} (i : Nat) (x y z : α) : α := if i = 0 then x else if i = 1 then y else z
structure Sy.Ab (Y : Sy) (c : Nat -> Str) (W : Nat -> Nat -> Str) : Prop where
 ok : Y.Ok
 keys : Y.keys = [c 0, c 1, c 2]
 inj : ∀ i j, i < 3 -> j < 3 -> c i = c j -> i = j
 call : ∀ k x, x < 3 -> W k x = c x
 ret : ∀ k x, 3 <= x -> opens (W k x) = false
structure Sy.Sim (Y : Sy) (c : Nat -> Str) (W : Nat -> Nat -> Str) (u : Str -> Nat) (s : Nat -> Nat) (r : Nat -> List Nat) : Prop where
 le : ∀ v : Str -> Nat, (∀ x ∈ Y.keys, Y.ex v x <= 0) -> ∀ y ∈ Y.keys, u y <= v y
 h : ∀ k, k < 3 -> Y.ex u (c k) = (s k : Int)
 d : ∀ k, k < 3 -> (Y.row (c k)).drop (u (c k)) = (r k).map (W k)
section
variable {Y : Sy} {u : Str -> Nat} {x w : Str} {c : Nat -> Str} {W : Nat -> Nat -> Str} {s : Nat -> Nat} {r : Nat -> List Nat}
theorem Sy.read (O : Y.Ok) (le : ∀ v : Str -> Nat, (∀ x ∈ Y.keys, Y.ex v x <= 0) -> ∀ y ∈ Y.keys, u y <= v y) (hx : x ∈ Y.keys) (hs : 0 < Y.ex u x) : ∃ w, (Y.row x)[u x]? = some w /\ (∀ v : Str -> Nat, (∀ x ∈ Y.keys, Y.ex v x <= 0) -> ∀ y ∈ Y.keys, bump u x y <= v y) /\ Y.left u = Y.left (bump u x) + 1 /\ ∀ z, Y.ex (bump u x) z = Y.ex u z + (if w = z then 1 else 0) - (if z = x /\ opens w = false then 1 else 0) := by
 have hlt : u x < Y.len x := Y.lt_of (v := Y.len) (Int.le_of_eq (O.full x hx)) (le _ fun z hz => Int.le_of_eq (O.full z hz)) hx hs
 have hw : (Y.row x)[u x]? = some ((Y.row x)[u x]'hlt) := List.getElem?_eq_getElem hlt
 exact ⟨_, hw, fun v hv => bump_le (le v hv) (Y.lt_of (hv x hx) (le v hv) hx hs), Y.left_bump O hx hlt, fun z => Y.s_bump O hx hw⟩
theorem Sy.Ab.mem (A : Y.Ab c W) {k : Nat} (hk : k < 3) : c k ∈ Y.keys := by
 rw [A.keys]
 exact lt3 (p := fun k => c k ∈ [c 0, c 1, c 2]) (by simp) (by simp) (by simp) k hk
theorem Sy.step (A : Y.Ab c W) (S : Y.Sim c W u s r) {k : Nat} (hk : k < 3) (hs : 0 < s k) : ∃ i r', r k = i :: r' /\ Y.left u = Y.left (bump u (c k)) + 1 /\ ∀ (s' : Nat -> Nat) (rr : Nat -> List Nat), (∀ j, j < 3 -> s' j + (if j = k /\ 3 <= i then 1 else 0) = s j + (if i = j then 1 else 0)) -> (∀ j, j < 3 -> rr j = if j = k then r' else r j) -> Y.Sim c W (bump u (c k)) s' rr := by
 obtain ⟨w, hw, le', hl, he⟩ := Y.read A.ok S.le (A.mem hk) (by rw [S.h k hk]; omega)
 obtain ⟨i, r', e, hwi, hd⟩ := drop_map (S.d k hk) hw
 refine ⟨i, r', e, hl, fun s' rr h1 h2 => ⟨le', fun j hj => ?_, fun j hj => ?_⟩⟩
 ·have h3 := h1 j hj
  have h4 := S.h j hj
  have ej : c j = c k ↔ j = k := ⟨A.inj j k hj hk, fun e => by rw [e]⟩
  rw [he, h4]
  by_cases hi : i < 3
  ·have ho : opens w = true := by rw [hwi, A.call k i hi]; exact A.ok.op _ (A.mem hi)
   have ei : w = c j ↔ i = j := by rw [hwi, A.call k i hi]; exact ⟨A.inj i j hi hj, fun e => by rw [e]⟩
   rw [if_neg (fun z => absurd z.2 (by omega))] at h3
   rw [if_neg (show ¬ (c j = c k /\ opens w = false) from fun z => by rw [ho] at z; cases z.2)]
   by_cases z : i = j
   ·rw [if_pos z] at h3; rw [if_pos (ei.mpr z)]; omega
   ·rw [if_neg z] at h3; rw [if_neg fun y => z (ei.mp y)]; omega
  ·have ho : opens w = false := by rw [hwi]; exact A.ret k i (by omega)
   rw [if_neg (by omega : ¬ i = j)] at h3
   rw [if_neg (show ¬ w = c j from fun e => by rw [e, A.ok.op _ (A.mem hj)] at ho; cases ho)]
   by_cases z : j = k
   ·rw [if_pos ⟨z, by omega⟩] at h3; rw [if_pos ⟨ej.mpr z, ho⟩]; omega
   ·rw [if_neg fun y => z y.1] at h3; rw [if_neg fun y => z (ej.mp y.1)]; omega
 ·rw [h2 j hj]
  by_cases z : j = k
  ·subst z; rw [if_pos rfl, show bump u (c j) (c j) = u (c j) + 1 from if_pos rfl]; exact hd
  ·rw [if_neg z, show bump u (c k) (c j) = u (c j) from if_neg fun y => z (A.inj j k hj hk y)]; exact S.d j hj
noncomputable def Sy.Fin (Y : Sy) (b : Bool) : Prop := ∃ u', (∀ v : Str -> Nat, (∀ x ∈ Y.keys, Y.ex v x <= 0) -> ∀ y ∈ Y.keys, u' y <= v y) /\ (∀ x ∈ Y.keys, Y.ex u' x = 0) /\ (b = true ↔ ∀ x ∈ Y.keys, u' x = Y.len x)
theorem Sy.sim_ok (A : Y.Ab c W) : ∀ (f : Nat) (u : Str -> Nat) (s0 s1 s2 : Nat) (r0 r1 r2 : List Nat), Y.left u < f -> Y.Sim c W u (fun k => at3 k s0 s1 s2) (fun k => at3 k r0 r1 r2) -> Y.Fin (sim f s0 s1 s2 r0 r1 r2) := by
 intro f
 induction f with
 | zero => intro u _ _ _ _ _ _ h _; omega
 | succ f ih =>
  intro u s0 s1 s2 r0 r1 r2 hl S
  cases s0 with
  | succ t =>
   obtain ⟨i, r, rfl, h1, h⟩ := Y.step A S (k := 0) (by decide) (Nat.succ_pos _)
   have ih' := fun s0 s1 s2 r0 r1 r2 => ih (bump u (c 0)) s0 s1 s2 r0 r1 r2 (by omega)
   cases i with
   | zero => exact ih' (t + 2) s1 s2 r r1 r2 (h _ _ (lt3 rfl rfl rfl) (lt3 rfl rfl rfl))
   | succ i =>
    cases i with
    | zero => exact ih' (t + 1) (s1 + 1) s2 r r1 r2 (h _ _ (lt3 rfl rfl rfl) (lt3 rfl rfl rfl))
    | succ i =>
     cases i with
     | zero => exact ih' (t + 1) s1 (s2 + 1) r r1 r2 (h _ _ (lt3 rfl rfl rfl) (lt3 rfl rfl rfl))
     | succ i => exact ih' t s1 s2 r r1 r2 (h _ _ (lt3 rfl rfl rfl) (lt3 rfl rfl rfl))
  | zero =>
   cases s1 with
   | succ t =>
    obtain ⟨i, r, rfl, h1, h⟩ := Y.step A S (k := 1) (by decide) (Nat.succ_pos _)
    have ih' := fun s0 s1 s2 r0 r1 r2 => ih (bump u (c 1)) s0 s1 s2 r0 r1 r2 (by omega)
    cases i with
    | zero => exact ih' 1 (t + 1) s2 r0 r r2 (h _ _ (lt3 rfl rfl rfl) (lt3 rfl rfl rfl))
    | succ i =>
     cases i with
     | zero => exact ih' 0 (t + 2) s2 r0 r r2 (h _ _ (lt3 rfl rfl rfl) (lt3 rfl rfl rfl))
     | succ i =>
      cases i with
      | zero => exact ih' 0 (t + 1) (s2 + 1) r0 r r2 (h _ _ (lt3 rfl rfl rfl) (lt3 rfl rfl rfl))
      | succ i => exact ih' 0 t s2 r0 r r2 (h _ _ (lt3 rfl rfl rfl) (lt3 rfl rfl rfl))
   | zero =>
    cases s2 with
    | succ t =>
     obtain ⟨i, r, rfl, h1, h⟩ := Y.step A S (k := 2) (by decide) (Nat.succ_pos _)
     have ih' := fun s0 s1 s2 r0 r1 r2 => ih (bump u (c 2)) s0 s1 s2 r0 r1 r2 (by omega)
     cases i with
     | zero => exact ih' 1 0 (t + 1) r0 r1 r (h _ _ (lt3 rfl rfl rfl) (lt3 rfl rfl rfl))
     | succ i =>
      cases i with
      | zero => exact ih' 0 1 (t + 1) r0 r1 r (h _ _ (lt3 rfl rfl rfl) (lt3 rfl rfl rfl))
      | succ i =>
       cases i with
       | zero => exact ih' 0 0 (t + 2) r0 r1 r (h _ _ (lt3 rfl rfl rfl) (lt3 rfl rfl rfl))
       | succ i => exact ih' 0 0 t r0 r1 r (h _ _ (lt3 rfl rfl rfl) (lt3 rfl rfl rfl))
    | zero =>
     have hle := S.le Y.len fun x hx => Int.le_of_eq (A.ok.full x hx)
     have k : ∀ i, i < 3 -> (at3 i r0 r1 r2 = [] ↔ u (c i) = Y.len (c i)) := fun i hi => by
      have h3 := hle _ (A.mem hi)
      have h4 := congrArg List.length (S.d i hi)
      rw [List.length_drop, List.length_map] at h4
      unfold Sy.len at h3 ⊢
      rw [<- List.length_eq_zero_iff]; omega
     refine ⟨u, S.le, ?_, ?_⟩
     ·rw [A.keys]
      intro x hx
      simp only [List.mem_cons, List.not_mem_nil, or_false] at hx
      rcases hx with rfl | rfl | rfl
      ·exact S.h 0 (by decide)
      ·exact S.h 1 (by decide)
      ·exact S.h 2 (by decide)
     ·have e : sim (f + 1) 0 0 0 r0 r1 r2 = true ↔ r0 = [] /\ r1 = [] /\ r2 = [] := by
       cases r0 with
       | cons _ _ => exact ⟨fun h => Bool.noConfusion h, fun h => nomatch h.1⟩
       | nil =>
        cases r1 with
        | cons _ _ => exact ⟨fun h => Bool.noConfusion h, fun h => nomatch h.2.1⟩
        | nil =>
         cases r2 with
         | cons _ _ => exact ⟨fun h => Bool.noConfusion h, fun h => nomatch h.2.2⟩
         | nil => exact ⟨fun _ => ⟨rfl, rfl, rfl⟩, fun _ => rfl⟩
      rw [e, show r0 = [] ↔ _ from k 0 (by decide), show r1 = [] ↔ _ from k 1 (by decide), show r2 = [] ↔ _ from k 2 (by decide), A.keys]
      simp
end

end
section
noncomputable def lst (x : Str) : List Nat := x.cps.toList
theorem lst_strOf (l : List Nat) : lst (strOf l) = l := rfl
theorem strOf_lst (x : Str) : strOf (lst x) = x := rfl
theorem lst_inj {x y : Str} (h : lst x = lst y) : x = y := by rw [<- strOf_lst x, h, strOf_lst]
theorem lst_app (a b : Str) : lst (a ++ b) = lst a ++ lst b := Array.toList_append ..
theorem lst_len (x : Str) : (lst x).length = x.length := rfl
theorem slice_mid {l : List Nat} {i j : Nat} (h : i <= j) (h2 : j <= l.length) : Txt.slice (strOf l) (some (i : Int)) (some (j : Int)) = strOf ((l.drop i).take (j - i)) := by
 have := beq_iff_eq.mp (PyProof.Rows.slice_closes (x := strOf l) (i := i) (j := j) ⟨by omega, by omega, by show (j : Int) <= (l.length : Nat); omega⟩)
 rw [this]
 show strOf _ = strOf _
 rw [show ((i : Int)).toNat = i by omega, show ((j : Int) - (i : Int)).toNat = j - i by omega]; rfl
theorem slice_to {l : List Nat} {j : Nat} (h2 : j <= l.length) : Txt.slice (strOf l) none (some (j : Int)) = strOf (l.take j) := by
 have := beq_iff_eq.mp (PyProof.Rows.slice_closes_to (x := strOf l) (j := j) ⟨by omega, by show (j : Int) <= (l.length : Nat); omega⟩)
 rw [this]
 show strOf _ = strOf _
 rw [show ((j : Int) - 0).toNat = j by omega]; rfl
theorem slice_from {l : List Nat} {i : Nat} (h2 : i <= l.length) : Txt.slice (strOf l) (some (i : Int)) none = strOf (l.drop i) := by
 have := beq_iff_eq.mp (PyProof.Rows.slice_closes_from (x := strOf l) (i := i) ⟨by omega, by show (i : Int) <= (l.length : Nat); omega⟩)
 rw [this]
 show strOf _ = strOf _
 rw [show ((i : Int)).toNat = i by omega, show (((strOf l).cps.toList.length : Int) - (i : Int)).toNat = l.length - i by show ((l.length : Int) - (i : Int)).toNat = _; omega]
 congr 1
 exact List.take_of_length_le (by show (l.drop i).length <= _; rw [List.length_drop]; exact Nat.le_refl _)
theorem slice_neg {l : List Nat} {k : Nat} (h0 : 0 < k) (h2 : k <= l.length) : Txt.slice (strOf l) none (some (-(k : Int))) = strOf (l.take (l.length - k)) := by
 rw [<- slice_to (Nat.sub_le ..)]
 unfold Txt.slice
 have e : Builtin.Str.strSliceIndices none (some (-(k : Int))) 1 (strOf l).length = Builtin.Str.strSliceIndices none (some ((l.length - k : Nat) : Int)) 1 (strOf l).length := by
  unfold Builtin.Str.strSliceIndices
  rw [strOf_len]
  simp only [show (-(k : Int)) < 0 by omega, show ¬ (((l.length - k : Nat) : Int) < 0) by omega, if_true, if_false, show -(k : Int) + (l.length : Nat) = ((l.length - k : Nat) : Int) by omega]
 rw [e]
theorem join_flat (xs : List Str) : Txt.join (Str.ofString "") xs = strOf (xs.flatMap lst) := by
 have e0 : Str.ofString "" = strOf [] := by decide
 unfold Txt.join
 rw [StrLaws.glued_eq_join, e0]
 have : ∀ (r : List Str), Str.join (strOf []) r = strOf (r.flatMap lst) := fun r => by
  induction r with
  | nil => rfl
  | cons a r ih =>
   cases r with
   | nil => simp [Str.join, strOf_lst]
   | cons b r =>
    rw [Str.join, ih]
    ·apply lst_inj; rw [lst_app, lst_app, lst_strOf, lst_strOf, lst_strOf, List.append_nil, List.flatMap_cons (x := a)]
    ·exact fun e => nomatch e
 exact this xs
inductive IsC : Str -> Prop
 | mk (m : Nat) (h : m = 40 \/ m = 41 \/ m = 34 \/ m = 92) : IsC (strOf [40, 92, m])
inductive IsE : Str -> Prop
 | e0 : IsE (strOf [41])
 | e1 : IsE (strOf [41, 34, 40, 34])
 | e2 : IsE (strOf [41, 34, 40, 34, 34, 41, 34])
 | e3 : IsE (strOf [41, 34, 92, 34, 41, 34])
noncomputable def mkN (i : Nat) : Nat := ([40, 41, 34, 92] : List Nat).getD i 0
theorem mod4 (x : Int) : (x.fmod 4).toNat = 0 \/ (x.fmod 4).toNat = 1 \/ (x.fmod 4).toNat = 2 \/ (x.fmod 4).toNat = 3 := by
 have := fmod_lt' (a := x) (k := 4) (by decide)
 have e : (x.fmod (4 : Nat)).toNat = (x.fmod 4).toNat := rfl
 omega
theorem lwCall_eq (c : Int) (k : Nat) : lwCall c k = strOf [40, 92, mkN ((c + k).fmod 4).toNat] := by
 unfold lwCall lwPick
 rcases mod4 (c + k) with h | h | h | h <;> rw [h] <;> decide
theorem lwCall_is (c : Int) (k : Nat) : IsC (lwCall c k) := by
 rw [lwCall_eq]
 refine .mk _ ?_
 rcases mod4 (c + k) with h | h | h | h <;> rw [h] <;> decide
theorem lwEnd_is (c : Int) (k : Nat) : IsE (lwEnd c k) := by
 unfold lwEnd lwPick
 rcases mod4 (c.fdiv (4 ^ (k + 1))) with h | h | h | h <;> rw [h]
 ·exact (by decide : Str.ofString ")" ++ lwRems.getD 0 (Str.ofString "") = strOf [41]) ▸ .e0
 ·exact (by decide : Str.ofString ")" ++ lwRems.getD 1 (Str.ofString "") = strOf [41, 34, 40, 34]) ▸ .e1
 ·exact (by decide : Str.ofString ")" ++ lwRems.getD 2 (Str.ofString "") = strOf [41, 34, 40, 34, 34, 41, 34]) ▸ .e2
 ·exact (by decide : Str.ofString ")" ++ lwRems.getD 3 (Str.ofString "") = strOf [41, 34, 92, 34, 41, 34]) ▸ .e3
theorem opens_iff (c : Nat) (l : List Nat) : opens (strOf (c :: l)) = decide (c = 40) := by
 have : Txt.item (strOf (c :: l)) 0 = chS c := by
  have := PyProof.Rows.item_zero_left c l (strOf [])
  exact this
 unfold opens
 rw [this, show Str.ofString "(" = chS 40 by decide]
 by_cases h : c = 40
 ·subst h; simp
 ·simp only [h, decide_false, decide_eq_false_iff_not]
  intro e
  exact h (by simpa [chS, lst] using congrArg lst e)
theorem IsC.op {w : Str} (h : IsC w) : opens w = true := by cases h; rw [opens_iff]; rfl
theorem IsE.op {w : Str} (h : IsE w) : opens w = false := by cases h <;> (rw [opens_iff]; rfl)
theorem IsC.len {w : Str} (h : IsC w) : w.length = 3 := by cases h; rfl
theorem IsE.len {w : Str} (h : IsE w) : 1 <= w.length /\ w.length <= 7 := by cases h <;> decide
theorem tl1_cons (c : Nat) (l : List Nat) : tl1 (strOf (c :: l)) = strOf l := slice_from (l := c :: l) (i := 1) (by simp)
theorem calls_eq (c : Int) : lwCalls c = [lwCall c 0, lwCall c 1, lwCall c 2] := rfl
theorem mod_add (c : Int) (k : Nat) : ((c + (k : Nat)).fmod 4).toNat = ((c.fmod 4).toNat + k) % 4 := by
 rw [Int.fmod_eq_emod_of_nonneg _ (by decide), Int.fmod_eq_emod_of_nonneg _ (by decide)]
 obtain ⟨m, hm⟩ := Int.eq_ofNat_of_zero_le (Int.emod_nonneg c (show (4 : Int) ≠ 0 by decide))
 rw [<- Int.emod_add_emod, hm]; rfl
theorem calls_nodup (c : Int) : (lwCalls c).Nodup := by
 rw [calls_eq, lwCall_eq, lwCall_eq, lwCall_eq, mod_add, mod_add, mod_add]
 rcases mod4 c with h | h | h | h <;> rw [h] <;> decide

end
section
noncomputable def Wd (w : Str) : Prop := IsC w \/ IsE w
noncomputable def sg (w : Str) : List Nat := if opens w = true then lst w else [41]
noncomputable def flat (ws : List Str) : List Nat := ws.flatMap lst
noncomputable def flatS (ws : List Str) : List Nat := ws.flatMap sg
theorem sg_C {w : Str} (h : IsC w) : sg w = lst w := if_pos h.op
theorem sg_E {w : Str} (h : IsE w) : sg w = [41] := if_neg (by rw [h.op]; exact Bool.false_ne_true)
theorem iter_C (i m : Nat) (r : List Nat) : iterE i false (40 :: 92 :: m :: r) = ((i : Int), [40]) :: (((i + 2 : Nat) : Int), [92, m]) :: iterE (i + 3) false r := by
 rfl
theorem iter_1 (i c : Nat) (r : List Nat) (h : c ≠ 92) : iterE i false (c :: r) = ((i : Int), [c]) :: iterE (i + 1) false r := by
 rw [iterE_f, if_neg h]
theorem iter_q (i m : Nat) (r : List Nat) : iterE i false (92 :: m :: r) = (((i + 1 : Nat) : Int), [92, m]) :: iterE (i + 2) false r := by
 rfl
theorem cut_piece {p t : List Nat} {a : Nat} (h : a <= p.length) : ((p ++ 41 :: t).drop a).take (p.length + 1 - a) = p.drop a ++ [41] := by
 rw [List.drop_append_of_le_length h, List.take_append, List.length_drop, List.take_of_length_le (by rw [List.length_drop]; omega), show p.length + 1 - a - (p.length - a) = 1 by omega]; rfl
theorem drop_end {p q : List Nat} {k : Nat} (h : q.length = k) : (p ++ q).drop (p.length + k) = [] := List.drop_of_length_le (by rw [List.length_append, h]; exact Nat.le_refl _)
theorem st_other {x : Str} {st : StT} {i : Int} {u : List Nat} (h : u ≠ [34]) : stripStep x st (i, u) = st := by
 unfold stripStep; rw [if_neg h]
theorem st_two {x : Str} {st : StT} {i : Int} {c d : Nat} : stripStep x st (i, [c, d]) = st := st_other (by simp)
theorem st_open {x : Str} {a i : Int} {ps : List Str} : stripStep x (a, none, ps) (i, [34]) = (a, some i, ps) := rfl
theorem st_close {x : Str} {a i o : Int} {ps : List Str} : stripStep x (a, some o, ps) (i, [34]) = (i + 1, none, if a = o then ps else ps ++ [Txt.slice x (some a) (some o)]) := rfl
theorem strip_word {X p r : List Nat} {w : Str} (hw : Wd w) (hX : X = p ++ (lst w ++ r)) {a : Nat} {ps : List Str} (ha : a <= p.length) :
  ∃ (a' : Nat) (ps' : List Str), (iterE p.length false (lst w ++ r)).foldl (stripStep (strOf X)) ((a : Int), none, ps) = (iterE (p ++ lst w).length false r).foldl (stripStep (strOf X)) ((a' : Int), none, ps') /\ a' <= (p ++ lst w).length /\ ps'.flatMap lst ++ (p ++ lst w).drop a' = ps.flatMap lst ++ p.drop a ++ sg w := by
 have hs : ∀ t, lst w ++ r = 41 :: t -> Txt.slice (strOf X) (some (a : Int)) (some ((p.length + 1 : Nat) : Int)) = strOf (p.drop a ++ [41]) := fun t ht => by
  rw [slice_mid (by omega) (by rw [hX, ht]; simp), hX, ht, cut_piece ha]
 have hne : ¬ ((a : Int) = ((p.length + 1 : Nat) : Int)) := by omega
 rcases hw with h | h
 ·refine ⟨a, ps, ?_, by rw [List.length_append]; omega, by rw [List.drop_append_of_le_length ha, sg_C h, List.append_assoc]⟩
  cases h with
  | mk m hm =>
   show (iterE p.length false (40 :: 92 :: m :: r)).foldl _ _ = _
   rw [iter_C, List.foldl_cons, List.foldl_cons, st_two, st_other (by decide)]
   rw [List.length_append]; rfl
 ·rw [sg_E h]
  cases h with
  | e0 =>
   refine ⟨a, ps, ?_, by rw [List.length_append]; omega, by rw [List.drop_append_of_le_length ha, List.append_assoc]; rfl⟩
   show (iterE p.length false (41 :: r)).foldl _ _ = _
   rw [iter_1 _ _ _ (by decide), List.foldl_cons, st_other (by decide)]
   rw [List.length_append]; rfl
  | e1 =>
   refine ⟨p.length + 4, ps ++ [strOf (p.drop a ++ [41])], ?_, by rw [List.length_append]; exact Nat.le_refl _, ?_⟩
   ·show (iterE p.length false (41 :: 34 :: 40 :: 34 :: r)).foldl _ _ = _
    rw [iter_1 _ _ _ (by decide), List.foldl_cons, st_other (by decide), iter_1 _ _ _ (by decide), List.foldl_cons, st_open, iter_1 _ _ _ (by decide), List.foldl_cons, st_other (by decide), iter_1 _ _ _ (by decide), List.foldl_cons, st_close, if_neg hne, hs _ rfl, List.length_append]; rfl
   ·rw [drop_end (k := 4) rfl, List.append_nil, List.flatMap_append, List.append_assoc]; simp [lst_strOf]
  | e2 =>
   refine ⟨p.length + 7, ps ++ [strOf (p.drop a ++ [41])], ?_, by rw [List.length_append]; exact Nat.le_refl _, ?_⟩
   ·show (iterE p.length false (41 :: 34 :: 40 :: 34 :: 34 :: 41 :: 34 :: r)).foldl _ _ = _
    rw [iter_1 _ _ _ (by decide), List.foldl_cons, st_other (by decide), iter_1 _ _ _ (by decide), List.foldl_cons, st_open, iter_1 _ _ _ (by decide), List.foldl_cons, st_other (by decide), iter_1 _ _ _ (by decide), List.foldl_cons, st_close, if_neg hne, hs _ rfl, iter_1 _ _ _ (by decide), List.foldl_cons, st_open, iter_1 _ _ _ (by decide), List.foldl_cons, st_other (by decide), iter_1 _ _ _ (by decide), List.foldl_cons, st_close, if_pos (by omega), List.length_append]; rfl
   ·rw [drop_end (k := 7) rfl, List.append_nil, List.flatMap_append, List.append_assoc]; simp [lst_strOf]
  | e3 =>
   refine ⟨p.length + 6, ps ++ [strOf (p.drop a ++ [41])], ?_, by rw [List.length_append]; exact Nat.le_refl _, ?_⟩
   ·show (iterE p.length false (41 :: 34 :: 92 :: 34 :: 41 :: 34 :: r)).foldl _ _ = _
    rw [iter_1 _ _ _ (by decide), List.foldl_cons, st_other (by decide), iter_1 _ _ _ (by decide), List.foldl_cons, st_open, iter_q, List.foldl_cons, st_two, iter_1 _ _ _ (by decide), List.foldl_cons, st_other (by decide), iter_1 _ _ _ (by decide), List.foldl_cons, st_close, if_neg hne, hs _ rfl, List.length_append]; rfl
   ·rw [drop_end (k := 6) rfl, List.append_nil, List.flatMap_append, List.append_assoc]; simp [lst_strOf]
theorem strip_words {X r : List Nat} : ∀ (ws : List Str) (p : List Nat) (a : Nat) (ps : List Str), (∀ w ∈ ws, Wd w) -> X = p ++ (flat ws ++ r) -> a <= p.length ->
  ∃ (a' : Nat) (ps' : List Str), (iterE p.length false (flat ws ++ r)).foldl (stripStep (strOf X)) ((a : Int), none, ps) = (iterE (p ++ flat ws).length false r).foldl (stripStep (strOf X)) ((a' : Int), none, ps') /\ a' <= (p ++ flat ws).length /\ ps'.flatMap lst ++ (p ++ flat ws).drop a' = ps.flatMap lst ++ p.drop a ++ flatS ws
 | [], p, a, ps, _, _, ha => ⟨a, ps, by simp [flat], by simpa [flat] using ha, by simp [flat, flatS]⟩
 | w :: ws, p, a, ps, h, hX, ha => by
  have e1 : flat (w :: ws) = lst w ++ flat ws := List.flatMap_cons
  have e2 : flatS (w :: ws) = sg w ++ flatS ws := List.flatMap_cons
  rw [e1, List.append_assoc] at hX
  obtain ⟨a1, ps1, f1, l1, g1⟩ := strip_word (h w List.mem_cons_self) hX (ps := ps) ha
  obtain ⟨a2, ps2, f2, l2, g2⟩ := strip_words (X := X) (r := r) ws (p ++ lst w) a1 ps1 (fun z hz => h z (List.mem_cons_of_mem _ hz)) (by rw [hX]; simp) l1
  refine ⟨a2, ps2, ?_, ?_, ?_⟩
  ·rw [e1, List.append_assoc, f1, f2, List.append_assoc]
  ·rw [e1, <- List.append_assoc]; exact l2
  ·rw [e1, <- List.append_assoc, g2, g1, e2]; simp only [List.append_assoc]
theorem flat_noq : ∀ (ws : List Str), (∀ w ∈ ws, Wd w) -> 34 ∉ flat ws -> flatS ws = flat ws
 | [], _, _ => rfl
 | w :: ws, h, hq => by
  have e1 : flat (w :: ws) = lst w ++ flat ws := List.flatMap_cons
  have e2 : flatS (w :: ws) = sg w ++ flatS ws := List.flatMap_cons
  rw [e1, List.mem_append, not_or] at hq
  rw [e1, e2, flat_noq ws (fun z hz => h z (List.mem_cons_of_mem _ hz)) hq.2]
  congr 1
  rcases h w List.mem_cons_self with hw | hw
  ·exact sg_C hw
  ·rw [sg_E hw]
   cases hw with
   | e0 => rfl
   | e1 => exact absurd (by decide) hq.1
   | e2 => exact absurd (by decide) hq.1
   | e3 => exact absurd (by decide) hq.1
set_option tactic.hygienic true in
theorem strip_tail {ws : List Str} {r : List Nat} (h : ∀ w ∈ ws, Wd w) (hr : r = [] \/ r = [92] \/ r = [34, 40]) : stripT (strOf (flat ws ++ r)) = strOf (flatS ws ++ r) := by
 unfold stripT
 by_cases hq : 34 ∈ (strOf (flat ws ++ r)).cps.toList
 ·rw [if_pos hq]
  obtain ⟨a, ps, f, l, g⟩ := strip_words (X := flat ws ++ r) (r := r) ws [] 0 [] h rfl (Nat.le_refl _)
  have hz : (stripZ (strOf (flat ws ++ r))).1 = (a : Int) /\ (stripZ (strOf (flat ws ++ r))).2.2 = ps := by
   unfold stripZ
   have : (iterE 0 false (strOf (flat ws ++ r)).cps.toList).foldl (stripStep (strOf (flat ws ++ r))) (0, none, []) = _ := f
   rw [this]
   rcases hr with rfl | rfl | rfl
   ·exact ⟨rfl, rfl⟩
   ·have : ∀ i, iterE i false [92] = [(((i + 1 : Nat) : Int) - 1, [92])] := fun i => rfl
    rw [this]
    exact ⟨rfl, rfl⟩
   ·rw [iter_1 _ _ _ (by decide), iter_1 _ _ _ (by decide)]
    exact ⟨rfl, rfl⟩
  rw [hz.1, hz.2, join_flat]
  congr 1
  rw [List.flatMap_append]
  have e : (if (a : Int) < ((strOf (flat ws ++ r)).length : Nat) then [Txt.slice (strOf (flat ws ++ r)) (some (a : Int)) none] else []).flatMap lst = (flat ws ++ r).drop a := by
   rw [List.nil_append] at l
   split
   ·rw [slice_from (by rw [List.length_append]; omega)]; simp [lst_strOf]
   ·rename_i h
    have : (flat ws ++ r).length <= a := by
     have : ¬ ((a : Int) < ((flat ws ++ r).length : Nat)) := h
     omega
    rw [List.drop_of_length_le this]; rfl
  rw [List.nil_append] at l g
  rw [e, List.drop_append_of_le_length l, <- List.append_assoc, g]; rfl
 ·rw [if_neg hq]
  have hq' : 34 ∉ flat ws := fun z => hq (List.mem_append_left _ z)
  rw [flat_noq ws h hq']
theorem strOf_ne {a b : List Nat} (h : a ≠ b) : strOf a ≠ strOf b := fun e => h (congrArg lst e)
theorem told_word {w : Str} (hw : Wd w) (i : Nat) (r : List Nat) (st : ToT) : ∃ i', (iterE i false (sg w ++ r)).foldl toldStep st = (iterE i' false r).foldl toldStep (if opens w = true then (st.1 ++ [((st.2.getLast?).getD (Str.ofString ""), tl1 w)], st.2 ++ [tl1 w]) else (st.1, st.2.dropLast)) := by
 have hp : Str.ofString ")" = strOf [41] := by decide
 have ho : Str.ofString "(" = strOf [40] := by decide
 rcases hw with h | h
 ·refine ⟨i + 3, ?_⟩
  rw [if_pos h.op, sg_C h]
  cases h with
  | mk m hm =>
   show (iterE i false (40 :: 92 :: m :: r)).foldl _ _ = _
   rw [iter_C, List.foldl_cons, List.foldl_cons, tl1_cons]
   congr 1
 ·refine ⟨i + 1, ?_⟩
  rw [if_neg (show ¬ opens w = true by rw [h.op]; exact Bool.false_ne_true), sg_E h]
  show (iterE i false (41 :: r)).foldl _ _ = _
  rw [iter_1 _ _ _ (by decide), List.foldl_cons]
  congr 1
theorem par_word {w : Str} (hw : Wd w) (i : Nat) (r : List Nat) (k : Int) : ∃ i', stepM parStep (iterE i false (sg w ++ r)) k = if opens w = true then stepM parStep (iterE i' false r) (k + 1) else if k - 1 < 0 then none else stepM parStep (iterE i' false r) (k - 1) := by
 have hp : Str.ofString ")" = strOf [41] := by decide
 have ho : Str.ofString "(" = strOf [40] := by decide
 rcases hw with h | h
 ·refine ⟨i + 3, ?_⟩
  rw [if_pos h.op, sg_C h]
  cases h with
  | mk m hm =>
   show stepM parStep (iterE i false (40 :: 92 :: m :: r)) k = _
   rw [iter_C, stepM_c, show parStep k ((i : Int), [40]) = some (k + 1) by unfold parStep; rw [ho]; exact if_pos rfl]
   simp only
   rw [stepM_c, show parStep (k + 1) (((i + 2 : Nat) : Int), [92, m]) = some (k + 1) by unfold parStep; rw [ho, hp, if_neg (strOf_ne (by intro e; cases e)), if_neg (strOf_ne (by intro e; cases e))]]
 ·refine ⟨i + 1, ?_⟩
  rw [if_neg (show ¬ opens w = true by rw [h.op]; exact Bool.false_ne_true), sg_E h]
  show stepM parStep (iterE i false (41 :: r)) k = _
  rw [iter_1 _ _ _ (by decide), stepM_c]
  have : parStep k ((i : Int), [41]) = if k - 1 < 0 then none else some (k - 1) := by
   unfold parStep; rw [ho, hp, if_neg (strOf_ne (show [41] ≠ [40] by decide)), if_pos rfl]
  rw [this]
  by_cases hk : k - 1 < 0
  ·rw [if_pos hk, if_pos hk]
  ·rw [if_neg hk, if_neg hk]
theorem ok_word {w : Str} (hw : Wd w) (i : Nat) (r : List Nat) (k : Nat) : ∃ i', okTold (iterE i false (sg w ++ r)) k ↔ if opens w = true then 1 <= k /\ okTold (iterE i' false r) (k + 1) else 1 <= k /\ okTold (iterE i' false r) (k - 1) := by
 have hp : Str.ofString ")" = strOf [41] := by decide
 have ho : Str.ofString "(" = strOf [40] := by decide
 rcases hw with h | h
 ·refine ⟨i + 3, ?_⟩
  rw [if_pos h.op, sg_C h]
  cases h with
  | mk m hm =>
   show okTold (iterE i false (40 :: 92 :: m :: r)) k ↔ _
   rw [iter_C]
   simp only [okTold_c]
   simp only [hp, ho, if_neg (strOf_ne (show [40] ≠ [41] by decide)), if_neg (strOf_ne (show [92, m] ≠ [41] by intro e; cases e)), not_true_eq_false, if_false, show ¬ (strOf [92, m] = strOf [40]) from strOf_ne (by intro e; cases e), not_false_eq_true, if_true]
 ·refine ⟨i + 1, ?_⟩
  rw [if_neg (show ¬ opens w = true by rw [h.op]; exact Bool.false_ne_true), sg_E h]
  show okTold (iterE i false (41 :: r)) k ↔ _
  rw [iter_1 _ _ _ (by decide), okTold_c]
  simp only [hp, if_true]
noncomputable def wsOf (tr : Tr) : List Str := tr.map (·.2)
theorem flatS_cons (w : Str) (ws : List Str) : flatS (w :: ws) = sg w ++ flatS ws := List.flatMap_cons
theorem flatS_snoc (f : Str) (tr : Tr) (y : Str × Str) (r : List Nat) : flatS (f :: wsOf (tr ++ [y])) ++ r = flatS (f :: wsOf tr) ++ (sg y.2 ++ r) := by
 unfold flatS wsOf
 rw [List.map_append, <- List.cons_append, List.flatMap_append, List.append_assoc]; simp
theorem flatS_snoc' (tr : Tr) (y : Str × Str) (r : List Nat) : flatS (wsOf (tr ++ [y])) ++ r = flatS (wsOf tr) ++ (sg y.2 ++ r) := by
 unfold flatS wsOf
 rw [List.map_append, List.flatMap_append, List.append_assoc]; simp
section
variable {first : Str}
theorem told_run (hf : IsC first) : ∀ {tr : Tr} {las : List Str}, Nst first tr las -> (∀ y ∈ tr, Wd y.2) -> ∀ (i : Nat) (r : List Nat), ∃ i', (iterE i false (flatS (first :: wsOf tr) ++ r)).foldl toldStep ([], [Str.ofString ""]) = (iterE i' false r).foldl toldStep ((Str.ofString "", tl1 first) :: callsOf tr, Str.ofString "" :: las.map tl1) := by
 intro tr las h
 induction h with
 | nil =>
  intro _ i r
  obtain ⟨i', e⟩ := told_word (.inl hf) i r ([], [Str.ofString ""])
  refine ⟨i', ?_⟩
  rw [flatS_cons, show flatS (wsOf []) = [] from rfl, List.append_nil, e, if_pos hf.op]; rfl
 | @call tr las x w hn ho ih =>
  intro hw i r
  obtain ⟨i1, e1⟩ := ih (fun y hy => hw y (List.mem_append_left _ hy)) i (sg w ++ r)
  obtain ⟨i2, e2⟩ := told_word (hw (x, w) (List.mem_append_right _ (List.mem_singleton.mpr rfl))) i1 r ((Str.ofString "", tl1 first) :: callsOf tr, Str.ofString "" :: (las ++ [x]).map tl1)
  refine ⟨i2, ?_⟩
  rw [flatS_snoc, e1, e2, if_pos ho]
  congr 1
  rw [callsOf_snoc, if_pos ho, List.map_append, <- List.cons_append, List.getLast?_append]
  simp [prOf]
 | @ret tr las x w hn ho ih =>
  intro hw i r
  obtain ⟨i1, e1⟩ := ih (fun y hy => hw y (List.mem_append_left _ hy)) i (sg w ++ r)
  obtain ⟨i2, e2⟩ := told_word (hw (x, w) (List.mem_append_right _ (List.mem_singleton.mpr rfl))) i1 r ((Str.ofString "", tl1 first) :: callsOf tr, Str.ofString "" :: (las ++ [x]).map tl1)
  refine ⟨i2, ?_⟩
  have hn' : ¬ opens w = true := by rw [ho]; exact Bool.false_ne_true
  rw [flatS_snoc, e1, e2, if_neg hn']
  congr 1
  rw [callsOf_snoc, if_neg hn', List.map_append, <- List.cons_append, List.append_nil, List.map_singleton]
  exact congrArg _ List.dropLast_concat
theorem par_run (hf : IsC first) : ∀ {tr : Tr} {las : List Str}, Nst first tr las -> (∀ y ∈ tr, Wd y.2) -> ∀ (i : Nat) (r : List Nat), ∃ i', stepM parStep (iterE i false (flatS (first :: wsOf tr) ++ r)) 0 = stepM parStep (iterE i' false r) (las.length : Int) := by
 intro tr las h
 induction h with
 | nil =>
  intro _ i r
  obtain ⟨i', e⟩ := par_word (.inl hf) i r 0
  refine ⟨i', ?_⟩
  rw [flatS_cons, show flatS (wsOf []) = [] from rfl, List.append_nil, e, if_pos hf.op]; rfl
 | @call tr las x w hn ho ih =>
  intro hw i r
  obtain ⟨i1, e1⟩ := ih (fun y hy => hw y (List.mem_append_left _ hy)) i (sg w ++ r)
  obtain ⟨i2, e2⟩ := par_word (hw (x, w) (List.mem_append_right _ (List.mem_singleton.mpr rfl))) i1 r ((las ++ [x]).length : Int)
  refine ⟨i2, ?_⟩
  rw [flatS_snoc, e1, e2, if_pos ho, List.length_append (as := las ++ [x])]; rfl
 | @ret tr las x w hn ho ih =>
  intro hw i r
  obtain ⟨i1, e1⟩ := ih (fun y hy => hw y (List.mem_append_left _ hy)) i (sg w ++ r)
  obtain ⟨i2, e2⟩ := par_word (hw (x, w) (List.mem_append_right _ (List.mem_singleton.mpr rfl))) i1 r ((las ++ [x]).length : Int)
  refine ⟨i2, ?_⟩
  have hn' : ¬ opens w = true := by rw [ho]; exact Bool.false_ne_true
  have hl : ((las ++ [x]).length : Int) - 1 = las.length := by rw [List.length_append, List.length_singleton]; omega
  rw [flatS_snoc, e1, e2, if_neg hn', hl, if_neg (by omega)]
theorem par_off : ∀ {tr : Tr} {las : List Str}, Nst first tr las -> (∀ y ∈ tr, Wd y.2) -> ∀ (i : Nat) (r : List Nat), ∃ i', stepM parStep (iterE i false (flatS (wsOf tr) ++ r)) 0 = if las = [] then none else stepM parStep (iterE i' false r) ((las.length : Int) - 1) := by
 intro tr las h
 induction h with
 | nil => intro _ i r; exact ⟨i, rfl⟩
 | @call tr las x w hn ho ih =>
  intro hw i r
  obtain ⟨i1, e1⟩ := ih (fun y hy => hw y (List.mem_append_left _ hy)) i (sg w ++ r)
  obtain ⟨i2, e2⟩ := par_word (hw (x, w) (List.mem_append_right _ (List.mem_singleton.mpr rfl))) i1 r (((las ++ [x]).length : Int) - 1)
  refine ⟨i2, ?_⟩
  rw [flatS_snoc', e1, if_neg (by simp), e2, if_pos ho, if_neg (by simp), List.length_append (as := las ++ [x])]
  congr 1
  simp
 | @ret tr las x w hn ho ih =>
  intro hw i r
  obtain ⟨i1, e1⟩ := ih (fun y hy => hw y (List.mem_append_left _ hy)) i (sg w ++ r)
  obtain ⟨i2, e2⟩ := par_word (hw (x, w) (List.mem_append_right _ (List.mem_singleton.mpr rfl))) i1 r (((las ++ [x]).length : Int) - 1)
  refine ⟨i2, ?_⟩
  have hn' : ¬ opens w = true := by rw [ho]; exact Bool.false_ne_true
  have hl : ((las ++ [x]).length : Int) - 1 = las.length := by rw [List.length_append, List.length_singleton]; omega
  rw [flatS_snoc', e1, if_neg (by simp), e2, if_neg hn', hl]
  cases las with
  | nil => rw [if_pos (by decide), if_pos rfl]
  | cons z las => rw [if_neg (by rw [List.length_cons]; omega), if_neg (by simp)]
theorem ok_run (hf : IsC first) : ∀ {tr : Tr} {las : List Str}, Nst first tr las -> (∀ y ∈ tr, Wd y.2) -> ∀ (i : Nat) (r : List Nat), (∀ i', okTold (iterE i' false r) (las.length + 1)) -> okTold (iterE i false (flatS (first :: wsOf tr) ++ r)) 1 := by
 intro tr las h
 induction h with
 | nil =>
  intro _ i r hr
  obtain ⟨i', e⟩ := ok_word (.inl hf) i r 1
  rw [flatS_cons, show flatS (wsOf []) = [] from rfl, List.append_nil, e, if_pos hf.op]
  exact ⟨Nat.le_refl _, hr i'⟩
 | @call tr las x w hn ho ih =>
  intro hw i r hr
  rw [flatS_snoc]
  refine ih (fun y hy => hw y (List.mem_append_left _ hy)) i (sg w ++ r) fun i1 => ?_
  obtain ⟨i2, e2⟩ := ok_word (hw (x, w) (List.mem_append_right _ (List.mem_singleton.mpr rfl))) i1 r ((las ++ [x]).length + 1)
  rw [e2, if_pos ho]
  refine ⟨by omega, ?_⟩
  have := hr i2
  rw [List.length_append (as := las ++ [x])] at this; exact this
 | @ret tr las x w hn ho ih =>
  intro hw i r hr
  rw [flatS_snoc]
  refine ih (fun y hy => hw y (List.mem_append_left _ hy)) i (sg w ++ r) fun i1 => ?_
  obtain ⟨i2, e2⟩ := ok_word (hw (x, w) (List.mem_append_right _ (List.mem_singleton.mpr rfl))) i1 r ((las ++ [x]).length + 1)
  have hn' : ¬ opens w = true := by rw [ho]; exact Bool.false_ne_true
  rw [e2, if_neg hn']
  refine ⟨by omega, ?_⟩
  have := hr i2
  rw [List.length_append, List.length_singleton]; exact this
theorem Nst.last : ∀ {tr : Tr} {las : List Str}, Nst first tr las -> (∀ x l, las = x :: l -> x = first) /\ (las = [] -> ∃ tr' w, tr = tr' ++ [(first, w)] /\ opens w = false /\ Nst first tr' [first]) := by
 intro tr las h
 induction h with
 | nil => exact ⟨fun x l e => by cases e; rfl, fun e => nomatch e⟩
 | @call tr las x w hn ho ih =>
  refine ⟨fun z l e => ?_, fun e => by simp at e⟩
  cases las with
  | nil =>
   cases e
   exact ih.1 _ [] rfl
  | cons a las => cases e; exact ih.1 _ (las ++ [x]) rfl
 | @ret tr las x w hn ho ih =>
  refine ⟨fun z l e => ?_, fun e => ?_⟩
  ·subst e; exact ih.1 z (l ++ [x]) rfl
  ·subst e
   have : x = first := ih.1 x [] rfl
   subst this
   exact ⟨tr, w, rfl, ho, hn⟩
end

end
section
section
variable {α : Type}
noncomputable def keysOf (c : List (Str × α)) : List Str := c.map (·.1)
theorem aGet_none {x : Str} : ∀ {c : List (Str × α)}, aGet c x = none ↔ x ∉ keysOf c
 | [] => by simp [aGet_n, keysOf]
 | (y, i) :: r => by
  rw [aGet_c]
  by_cases e : y = x
  ·rw [if_pos e]; simp [keysOf, e]
  ·rw [if_neg e, aGet_none (c := r)]
   simp only [keysOf, List.map_cons, List.mem_cons, not_or]
   exact ⟨fun h => ⟨fun z => e z.symm, h⟩, fun h => h.2⟩
theorem aGet_some {x : Str} {c : List (Str × α)} : (aGet c x).isSome = true ↔ x ∈ keysOf c := by
 cases h : aGet c x with
 | none => exact ⟨fun z => (nomatch z), fun z => absurd z (aGet_none.mp h)⟩
 | some a =>
  refine ⟨fun _ => Decidable.byContradiction fun z => ?_, fun _ => rfl⟩
  rw [aGet_none.mpr z] at h; cases h
theorem aGet_mem {x : Str} {a : α} : ∀ {c : List (Str × α)}, (keysOf c).Nodup -> (x, a) ∈ c -> aGet c x = some a
 | (y, i) :: r, hn, h => by
  rw [keysOf, List.map_cons, List.nodup_cons] at hn
  rw [aGet_c]
  rcases List.mem_cons.mp h with h | h
  ·cases h; exact if_pos rfl
  ·have : y ≠ x := fun e => hn.1 (e ▸ List.mem_map.mpr ⟨_, h, rfl⟩)
   rw [if_neg this]; exact aGet_mem hn.2 h
theorem aPut_new {x : Str} {i : α} : ∀ {c : List (Str × α)}, x ∉ keysOf c -> aPut c x i = c ++ [(x, i)]
 | [], _ => rfl
 | (y, j) :: r, h => by
  simp only [keysOf, List.map_cons, List.mem_cons, not_or] at h
  rw [aPut_c, if_neg (fun e => h.1 e.symm), aPut_new (c := r) h.2]; rfl
theorem aPut_old {x : Str} {i : α} : ∀ {c : List (Str × α)}, x ∈ keysOf c -> keysOf (aPut c x i) = keysOf c
 | (y, j) :: r, h => by
  rw [aPut_c]
  by_cases e : y = x
  ·rw [if_pos e]; rfl
  ·rw [if_neg e]
   have := aPut_old (i := i) (c := r) ((List.mem_cons.mp h).resolve_left fun z => e z.symm)
   show y :: keysOf (aPut r x i) = y :: keysOf r
   rw [this]
theorem aPut_nodup {x : Str} {i : α} {c : List (Str × α)} (h : (keysOf c).Nodup) : (keysOf (aPut c x i)).Nodup := by
 by_cases m : x ∈ keysOf c
 ·rw [aPut_old m]; exact h
 ·rw [aPut_new m, keysOf, List.map_append]
  refine List.nodup_append.mpr ⟨h, by simp, fun a ha b hb => ?_⟩
  rw [List.map_singleton, List.mem_singleton] at hb
  intro e
  subst hb e
  exact m ha
theorem copy_eq : ∀ (t acc : List (Str × α)), (keysOf (acc ++ t)).Nodup -> t.foldl (fun c y => aPut c y.1 y.2) acc = acc ++ t
 | [], acc, _ => (List.append_nil _).symm
 | (x, i) :: t, acc, h => by
  have hx : x ∉ keysOf acc := fun m => by
   rw [keysOf, List.map_append, List.nodup_append] at h
   exact h.2.2 x m x (by simp) rfl
  rw [List.foldl_cons, aPut_new hx, copy_eq t (acc ++ [(x, i)]) (by rw [List.append_assoc]; exact h), List.append_assoc]; rfl
theorem nodup_len : ∀ {a b : List Str}, a.Nodup -> (∀ x ∈ a, x ∈ b) -> a.length <= b.length
 | [], _, _, _ => Nat.zero_le _
 | x :: a, b, h, s => by
  rw [List.nodup_cons] at h
  have hb := s x List.mem_cons_self
  have : a.length <= (b.erase x).length := nodup_len h.2 fun y hy => by
   have hy' := s y (List.mem_cons_of_mem _ hy)
   exact (List.mem_erase_of_ne fun e => h.1 (by rw [<- e]; exact hy)).mpr hy'
  rw [List.length_erase_of_mem hb] at this
  have := List.length_pos_of_mem hb
  rw [List.length_cons]; omega
theorem dsame_of {u : Nat} {enc : α -> PyData} {c c' : List (Str × α)} (n : (keysOf c).Nodup) (n' : (keysOf c').Nodup) (h : ∀ x, (aGet c x).isSome = (aGet c' x).isSome) (h2 : ∀ x a b, aGet c x = some a -> aGet c' x = some b -> DSame u (enc a) (enc b)) : DSame (u + 1) (.dict (aD enc c)) (.dict (aD enc c')) := by
 have hm : ∀ x, x ∈ keysOf c ↔ x ∈ keysOf c' := fun x => by rw [<- aGet_some, <- aGet_some, h x]
 have mem : ∀ x d, (PyData.str x, d) ∈ aD enc c -> ∃ a, aGet c x = some a /\ d = enc a := fun x d hd => by
  obtain ⟨⟨y, a⟩, ha, e⟩ := List.mem_map.mp hd
  cases e
  exact ⟨a, aGet_mem n ha, rfl⟩
 refine .dict ?_ (fun x d hd => ?_) fun x d e hd he => ?_
 ·have h1 := nodup_len n fun x hx => (hm x).mp hx
  have h3 := nodup_len n' fun x hx => (hm x).mpr hx
  simp only [keysOf, List.length_map] at h1 h3
  simp only [aD, List.length_map]; omega
 ·obtain ⟨a, ha, _⟩ := mem x d hd
  rw [aD_get, Option.isSome_map, <- h x, ha]; rfl
 ·obtain ⟨a, ha, rfl⟩ := mem x d hd
  rw [aD_get] at he
  cases hb : aGet c' x with
  | none => rw [hb] at he; cases he
  | some b => rw [hb] at he; cases he; exact h2 x a b ha hb
end
structure EntOk (pr : Cs) (M : List Str) (y : Str) (e : Ent) : Prop where
 cc : e.cc = (M.length : Int) - (M.count y : Nat)
 nc : e.nc = M.length
 tt : e.tt = (M.map (priceOf pr)).sum
 ct : e.ct = (M.map (priceOf pr)).sum * priceOf pr y
 nd : (keysOf e.cs).Nodup
 cs : ∀ x, aGet e.cs x = if M.count x = 0 then none else some ((M.count x : Nat) : Int)
structure BkOk (pr : Cs) (ps : Prs) (b : Bk) : Prop where
 nd : (keysOf b).Nodup
 has : ∀ y, (aGet b y).isSome = true ↔ lwMine ps y ≠ []
 ent : ∀ y, EntOk pr (lwMine ps y) y ((aGet b y).getD e0)
theorem mine_snoc (ps : Prs) (p : Str × Str) (y : Str) : lwMine (ps ++ [p]) y = lwMine ps y ++ if p.2 = y then [p.1] else [] := by
 unfold lwMine
 rw [List.filter_append, List.map_append]
 congr 1
 by_cases h : p.2 = y <;> simp [h]
theorem EntOk.add {pr : Cs} {M : List Str} {y q : Str} {e : Ent} (h : EntOk pr M y e) : EntOk pr (M ++ [q]) y (addE e ⟨if (!decide (q = y)) = true then 1 else 0, 1, priceOf pr q, priceOf pr q * priceOf pr y, [(q, 1)]⟩) := by
 have hc : ∀ x, (M ++ [q]).count x = M.count x + if q = x then 1 else 0 := fun x => by
  rw [List.count_append, List.count_singleton]
  by_cases e : q = x
  ·subst e; simp
  ·simp [e]
 have hcs : addC e.cs [(q, 1)] = cAdd e.cs (q, 1) := by
  unfold addC; rw [copy_eq e.cs [] h.nd]; rfl
 refine ⟨?_, ?_, ?_, ?_, ?_, fun x => ?_⟩
 ·show (if (!decide (q = y)) = true then (1 : Int) else 0) + e.cc = _
  rw [h.cc, hc, List.length_append, List.length_singleton]
  by_cases e : q = y
  ·simp [e]; omega
  ·simp [e]; omega
 ·show (1 : Int) + e.nc = _
  rw [h.nc, List.length_append, List.length_singleton]; omega
 ·show priceOf pr q + e.tt = _
  rw [h.tt, List.map_append, List.sum_append]; simp; omega
 ·show priceOf pr q * priceOf pr y + e.ct = _
  rw [h.ct, List.map_append, List.sum_append, Int.add_mul]; simp; omega
 ·show (keysOf (addC e.cs [(q, 1)])).Nodup
  rw [hcs]; exact aPut_nodup h.nd
 ·show aGet (addC e.cs [(q, 1)]) x = _
  rw [hcs, cAdd, aGet_put, hc]
  by_cases e : q = x
  ·subst e
   rw [if_pos rfl, if_pos rfl, if_neg (by omega), h.cs]
   by_cases z : M.count q = 0
   ·rw [if_pos z, z]; rfl
   ·rw [if_neg z]; simp
  ·rw [if_neg e, if_neg e, h.cs, Nat.add_zero]
theorem fileB_ok (pr : Cs) : ∀ ps : Prs, BkOk pr ps (fileB pr ps) := by
 have step : ∀ (ps : Prs) (p : Str × Str) (b : Bk), BkOk pr ps b -> BkOk pr (ps ++ [p]) (fileStep pr b p) := fun ps p b B => by
  refine ⟨aPut_nodup B.nd, fun y => ?_, fun y => ?_⟩
  ·unfold fileStep
   rw [aGet_put, mine_snoc]
   by_cases e : p.2 = y
   ·simp [e]
   ·rw [if_neg e, if_neg e, List.append_nil]; exact B.has y
  ·unfold fileStep
   rw [aGet_put, mine_snoc]
   by_cases e : p.2 = y
   ·subst e
    rw [if_pos rfl, if_pos rfl]
    exact (B.ent p.2).add
   ·rw [if_neg e, if_neg e, List.append_nil]; exact B.ent y
 have h0 : BkOk pr [] [] := ⟨List.nodup_nil, fun y => ⟨fun h => (nomatch h), fun h => absurd rfl h⟩, fun y => ⟨rfl, rfl, rfl, by simp [aGet_n, e0, lwMine], List.nodup_nil, fun x => rfl⟩⟩
 have all : ∀ (qs ps : Prs) (b : Bk), BkOk pr ps b -> BkOk pr (ps ++ qs) (qs.foldl (fileStep pr) b) := fun qs => by
  induction qs with
  | nil => intro ps b B; rw [List.append_nil]; exact B
  | cons q qs ih => intro ps b B; have := ih _ _ (step ps q b B); rwa [List.append_assoc] at this
 exact fun ps => all ps [] [] h0
theorem sum_permI {a b : List Int} (h : a.Perm b) : a.sum = b.sum := by
 induction h with
 | nil => rfl
 | cons x _ ih => rw [List.sum_cons, List.sum_cons, ih]
 | swap x y l => simp only [List.sum_cons]; omega
 | trans _ _ i1 i2 => exact i1.trans i2
theorem EntOk.same {pr : Cs} {M M' : List Str} {y : Str} {e e' : Ent} (h : EntOk pr M y e) (h' : EntOk pr M' y e') (p : M.Perm M') : DSame 3 (entD e) (entD e') := by
 have hs : (M.map (priceOf pr)).sum = (M'.map (priceOf pr)).sum := sum_permI (p.map _)
 refine .tuple rfl (entD_same (by rw [h.cc, h'.cc, p.length_eq, p.count_eq]) (by rw [h.nc, h'.nc, p.length_eq]) (by rw [h.tt, h'.tt, hs]) (by rw [h.ct, h'.ct, hs]) ?_)
 refine dsame_of h.nd h'.nd (fun x => by rw [h.cs, h'.cs, p.count_eq]) fun x a b h1 h2 => ?_
 rw [h.cs, p.count_eq, <- h'.cs, h2] at h1
 cases h1
 exact .plain (.int _ _)
theorem mine_perm {ps qs : Prs} (h : ps.Perm qs) (y : Str) : (lwMine ps y).Perm (lwMine qs y) := (h.filter _).map _
theorem book_perm {pr : Cs} {ps qs : Prs} (h : ps.Perm qs) : DSame 4 (.dict (aD entD (fileB pr ps))) (.dict (aD entD (fileB pr qs))) := by
 have B := fileB_ok pr ps
 have B' := fileB_ok pr qs
 refine dsame_of B.nd B'.nd (fun y => ?_) fun y a b h1 h2 => ?_
 ·rw [Bool.eq_iff_iff, B.has, B'.has]
  exact not_congr ⟨fun e => (e ▸ (mine_perm h y).symm).eq_nil, fun e => (e ▸ mine_perm h y).eq_nil⟩
 ·have e1 := B.ent y
  have e2 := B'.ent y
  rw [h1] at e1
  rw [h2] at e2
  exact e1.same e2 (mine_perm h y)
theorem csSum_eq (c : Cs) : csSum c = (c.map (·.2)).sum := by
 have : ∀ (l : List Int) (a : Int), l.foldl (· + ·) a = a + l.sum := fun l => by
  induction l with
  | nil => intro a; simp
  | cons x l ih => intro a; rw [List.foldl_cons, ih, List.sum_cons]; omega
 unfold csSum; rw [this]; omega
theorem sum_hit (g : Str -> Int) (a : Str) : ∀ {K : List Str}, K.Nodup -> a ∈ K -> (K.map fun x => if a = x then g x else 0).sum = g a
 | b :: K, hn, h => by
  rw [List.nodup_cons] at hn
  rw [List.map_cons, List.sum_cons]
  by_cases e : a = b
  ·subst e
   have : ∀ K : List Str, a ∉ K -> (K.map fun x => if a = x then g x else 0).sum = 0 := fun K => by
    induction K with
    | nil => intro _; rfl
    | cons c K ih =>
     intro h
     rw [List.mem_cons, not_or] at h
     rw [List.map_cons, List.sum_cons, if_neg h.1, ih h.2]; rfl
   rw [if_pos rfl, this K hn.1]; omega
  ·rw [if_neg e, sum_hit g a hn.2 ((List.mem_cons.mp h).resolve_left e)]; omega
theorem sum_add (f g : Str -> Int) : ∀ K : List Str, (K.map fun x => f x + g x).sum = (K.map f).sum + (K.map g).sum
 | [] => rfl
 | a :: K => by simp only [List.map_cons, List.sum_cons, sum_add f g K]; omega
theorem sum_keys (g : Str -> Int) {K : List Str} (hn : K.Nodup) : ∀ M : List Str, (∀ x ∈ M, x ∈ K) -> (K.map fun x => g x * ((M.count x : Nat) : Int)).sum = (M.map g).sum
 | [], _ => by
  have : ∀ K : List Str, (K.map fun x => g x * ((([] : List Str).count x : Nat) : Int)).sum = 0 := fun K => by
   induction K with
   | nil => rfl
   | cons a K ih => rw [List.map_cons, List.sum_cons, ih]; simp
  exact this K
 | a :: M, h => by
  have ih := sum_keys g hn M fun x hx => h x (List.mem_cons_of_mem _ hx)
  have e : (fun x => g x * (((a :: M).count x : Nat) : Int)) = fun x => g x * ((M.count x : Nat) : Int) + if a = x then g x else 0 := by
   funext x
   rw [List.count_cons]
   by_cases q : a = x
   ·subst q; simp [Int.mul_add]
   ·simp [q]
  rw [e, sum_add, ih, sum_hit g a hn (h a List.mem_cons_self), List.map_cons, List.sum_cons]; omega
theorem csSum_of {c : Cs} {M : List Str} (g : Str -> Int) (n : (keysOf c).Nodup) (h : ∀ x, aGet c x = if M.count x = 0 then none else some (g x * ((M.count x : Nat) : Int))) : csSum c = (M.map g).sum := by
 rw [csSum_eq, <- sum_keys g n M fun x hx => ?_]
 ·rw [keysOf, List.map_map]
  congr 1
  refine List.map_congr_left fun y hy => ?_
  have := aGet_mem n (show (y.1, y.2) ∈ c from hy)
  rw [h] at this
  split at this
  ·cases this
  ·exact (Option.some.inj this).symm
 ·refine aGet_some.mp ?_
  rw [h, if_neg (by have := List.count_pos_iff.mpr hx; omega)]; rfl
theorem lwCnt_ok (f : Str -> Int) : ∀ M : List Str, (keysOf (lwCnt f M)).Nodup /\ ∀ x, aGet (lwCnt f M) x = if M.count x = 0 then none else some (f x) := by
 have : ∀ (M P : List Str) (c : Cs), ((keysOf c).Nodup /\ ∀ x, aGet c x = if P.count x = 0 then none else some (f x)) -> (keysOf (M.foldl (fun c one => aPut c one (f one)) c)).Nodup /\ ∀ x, aGet (M.foldl (fun c one => aPut c one (f one)) c) x = if (P ++ M).count x = 0 then none else some (f x) := fun M => by
  induction M with
  | nil => intro P c h; rw [List.append_nil]; exact h
  | cons a M ih =>
   intro P c h
   have := ih (P ++ [a]) (aPut c a (f a)) ⟨aPut_nodup h.1, fun x => ?_⟩
   ·rw [List.append_assoc] at this; exact this
   ·rw [aGet_put, List.count_append, List.count_singleton]
    by_cases e : a = x
    ·subst e; simp
    ·rw [if_neg e, h.2]; simp [e]
 intro M
 exact this M [] [] ⟨List.nodup_nil, fun x => rfl⟩
theorem name_ok {pr : Cs} {ps : Prs} {y : Str} (hx : ∀ x ∈ lwMine ps y, ∃ i, aGet pr x = some i) (hy : ∃ i, aGet pr y = some i) (hm : IntMulOk (lwPaid pr (lwMine ps y)) (priceOf pr y)) (hm2 : ∀ x ∈ lwMine ps y, IntMulOk (priceOf pr x) ((lwMine ps y).count x : Nat)) : NameOk pr ps y := by
 have E := (fileB_ok pr ps).ent y
 have L := lwCnt_ok (fun x => ((lwMine ps y).count x : Nat)) (lwMine ps y)
 have L2 := lwCnt_ok (fun x => priceOf pr x * ((lwMine ps y).count x : Nat)) (lwMine ps y)
 refine ⟨hx, hy, hm, hm2, E.cc, E.nc, E.tt, E.ct, ?_, csSum_of _ L2.1 L2.2⟩
 refine dsame_of E.nd L.1 (fun x => by rw [E.cs]; exact congrArg _ (L.2 x).symm) fun x a b h1 h2 => ?_
 have h3 := L.2 x
 rw [E.cs] at h1
 have : some a = some b := by rw [<- h1, <- h2]; exact h3.symm
 cases this
 exact .plain (.int _ _)

end
section
noncomputable def wd (c0 c1 c2 e : Str) : Nat -> Str
 | 0 => c0
 | 1 => c1
 | 2 => c2
 | _ => e
noncomputable def ltIns (l : List Nat) (i : Nat) (x : Nat) : List Nat := l.take i ++ [x] ++ l.drop i
theorem ltIns_perm (l : List Nat) (i x : Nat) : (ltIns l i x).Perm (x :: l) := by
 unfold ltIns
 rw [List.append_assoc]
 refine List.perm_middle.trans ?_
 show (x :: (l.take i ++ l.drop i)).Perm _
 rw [List.take_append_drop]
theorem ins_map (f : Nat -> Str) (l : List Nat) (i x : Nat) : lwIns (l.map f) i (f x) = (ltIns l i x).map f := by
 unfold lwIns ltIns
 rw [List.map_append, List.map_append, List.map_take, List.map_drop]; rfl
theorem put_ok {f0 f1 f2 : Nat -> Str} {a0 a1 a2 : List Nat} {i : Nat} (hi : i < 3) (c : Int) (x : Nat) {w : Str} (h0 : i = 0 -> w = f0 x) (h1 : i = 1 -> w = f1 x) (h2 : i = 2 -> w = f2 x) :
  ∃ b0 b1 b2 : List Nat, lwPut [a0.map f0, a1.map f1, a2.map f2] i c w = [b0.map f0, b1.map f1, b2.map f2] /\ b0.Perm (if i = 0 then x :: a0 else a0) /\ b1.Perm (if i = 1 then x :: a1 else a1) /\ b2.Perm (if i = 2 then x :: a2 else a2) := by
 revert h0 h1 h2
 refine lt3 (fun h0 _ _ => ?_) (fun _ h1 _ => ?_) (fun _ _ h2 => ?_) i hi
 ·exact ⟨ltIns a0 (lwSpot c (a0.map f0).length) x, a1, a2, by rw [h0 rfl]; exact congrArg (fun z => [z, a1.map f1, a2.map f2]) (ins_map ..), ltIns_perm .., .refl _, .refl _⟩
 ·exact ⟨a0, ltIns a1 (lwSpot c (a1.map f1).length) x, a2, by rw [h1 rfl]; exact congrArg (fun z => [a0.map f0, z, a2.map f2]) (ins_map ..), .refl _, ltIns_perm .., .refl _⟩
 ·exact ⟨a0, a1, ltIns a2 (lwSpot c (a2.map f2).length) x, by rw [h2 rfl]; exact congrArg (fun z => [a0.map f0, a1.map f1, z]) (ins_map ..), .refl _, .refl _, ltIns_perm ..⟩
theorem tri_put {α : Type} {A0 A1 A2 B0 B1 B2 : List α} {i : Nat} (hi : i < 3) {y0 y1 y2 : α} (h0 : B0.Perm (if i = 0 then y0 :: A0 else A0)) (h1 : B1.Perm (if i = 1 then y1 :: A1 else A1)) (h2 : B2.Perm (if i = 2 then y2 :: A2 else A2)) :
  (B0 ++ (B1 ++ B2)).Perm ((if i = 0 then y0 else if i = 1 then y1 else y2) :: (A0 ++ (A1 ++ A2))) := by
 have p := h0.append (h1.append h2)
 clear h0 h1 h2
 revert p
 exact lt3 (fun p => p) (fun p => p.trans List.perm_middle) (fun p => p.trans ((List.perm_middle.append_left A0).trans List.perm_middle)) i hi
theorem tri_map {β : Type} {b a : List Nat} {i k x : Nat} (g : Nat -> β) (h : b.Perm (if i = k then x :: a else a)) : (b.map g).Perm (if i = k then g x :: a.map g else a.map g) := by
 have := h.map g
 by_cases e : i = k
 ·rw [if_pos e] at this ⊢; exact this
 ·rw [if_neg e] at this ⊢; exact this
noncomputable def triW (c0 c1 c2 e0 e1 e2 : Str) (a0 a1 a2 : List Nat) : Tr := a0.map (fun x => (c0, wd c0 c1 c2 e0 x)) ++ (a1.map (fun x => (c1, wd c0 c1 c2 e1 x)) ++ a2.map fun x => (c2, wd c0 c1 c2 e2 x))
theorem cnt_if {b a : List Nat} {i k x y : Nat} (h : b.Perm (if i = k then x :: a else a)) : b.count y = a.count y + if i = k /\ x = y then 1 else 0 := by
 rw [h.count_eq]
 by_cases e : i = k
 ·rw [if_pos e, List.count_cons]
  by_cases q : x = y <;> simp [e, q]
 ·rw [if_neg e, if_neg fun z => e z.1]; rfl
theorem Bal.step {N i j : Nat} {a0 a1 a2 b0 b1 b2 d0 d1 d2 : List Nat} (B : Bal N a0 a1 a2) (hi : i < 3) (hj : j < 3)
  (p0 : b0.Perm (if i = 0 then j :: a0 else a0)) (p1 : b1.Perm (if i = 1 then j :: a1 else a1)) (p2 : b2.Perm (if i = 2 then j :: a2 else a2))
  (q0 : d0.Perm (if j = 0 then 3 :: b0 else b0)) (q1 : d1.Perm (if j = 1 then 3 :: b1 else b1)) (q2 : d2.Perm (if j = 2 then 3 :: b2 else b2)) : Bal (N + 1) d0 d1 d2 := by
 have e1 := tri_put hi p0 p1 p2
 have e2 := tri_put hj q0 q1 q2
 simp only [ite_self] at e1 e2
 have p : (d0 ++ (d1 ++ d2)).Perm (3 :: j :: (a0 ++ (a1 ++ a2))) := e2.trans (e1.cons 3)
 have hc : ∀ y, (d0 ++ (d1 ++ d2)).count y = (a0 ++ (a1 ++ a2)).count y + (if j = y then 1 else 0) + if 3 = y then 1 else 0 := fun y => by
  rw [p.count_eq, List.count_cons, List.count_cons]; simp
 have k0 := B.k0; have k1 := B.k1; have k2 := B.k2; have k3 := B.k3; have len := B.len
 refine ⟨fun x hx => ?_, ?_, ?_, ?_, ?_, ?_⟩
 ·rcases List.mem_cons.mp (p.mem_iff.mp hx) with rfl | hx
  ·decide
  ·rcases List.mem_cons.mp hx with rfl | hx
   ·omega
   ·exact B.lt x hx
 ·rw [hc, cnt_if q0, cnt_if p0]
  simp only [and_true, show ¬ j = 3 by omega, and_false, if_false, show ¬ (3 = 0) by decide]
  omega
 ·rw [hc, cnt_if q1, cnt_if p1]
  simp only [and_true, show ¬ j = 3 by omega, and_false, if_false, show ¬ (3 = 1) by decide]
  omega
 ·rw [hc, cnt_if q2, cnt_if p2]
  simp only [and_true, show ¬ j = 3 by omega, and_false, if_false, show ¬ (3 = 2) by decide]
  omega
 ·rw [p.length_eq, List.length_cons, List.length_cons]; omega
 ·rw [hc, if_neg (show ¬ j = 3 by omega), if_pos rfl]; omega
structure Dd (c0 c1 c2 e0 e1 e2 : Str) (N : Nat) (st : Rows × Prs) (a0 a1 a2 : List Nat) : Prop where
 D : st.1 = [a0.map (wd c0 c1 c2 e0), a1.map (wd c0 c1 c2 e1), a2.map (wd c0 c1 c2 e2)]
 bal : Bal N a0 a1 a2
 prs : ∃ ps, st.2 = (Str.ofString "", tl1 c0) :: ps /\ ps.Perm (callsOf (triW c0 c1 c2 e0 e1 e2 a0 a1 a2))
section
variable {c0 c1 c2 e0 e1 e2 : Str}
theorem Dd.step {N : Nat} {st : Rows × Prs} {a0 a1 a2 : List Nat} (o0 : opens c0 = true) (o1 : opens c1 = true) (o2 : opens c2 = true) (oe0 : opens e0 = false) (oe1 : opens e1 = false) (oe2 : opens e2 = false) (H : Dd c0 c1 c2 e0 e1 e2 N st a0 a1 a2) (c : Int) :
  ∃ d0 d1 d2, Dd c0 c1 c2 e0 e1 e2 (N + 1) (lwDeed [c0, c1, c2] [e0, e1, e2] st c) d0 d1 d2 := by
 have hi : lwCaller st.1 c < 3 := by
  unfold lwCaller
  split
  ·decide
  ·exact fmod_lt' (k := 3) (by decide)
 have hj : lwCallee c < 3 := fmod_lt' (k := 3) (by decide)
 obtain ⟨ps, hp, pp⟩ := H.prs
 unfold lwDeed
 generalize lwCaller st.1 c = i at hi
 generalize lwCallee c = j at hj
 rw [H.D, hp]
 have hw : ∀ e, ([c0, c1, c2] : List Str).getD j (Str.ofString "") = wd c0 c1 c2 e j := fun e => lt3 rfl rfl rfl j hj
 obtain ⟨b0, b1, b2, f1, p0, p1, p2⟩ := put_ok (a0 := a0) (a1 := a1) (a2 := a2) hi (c.fdiv 9) j (fun _ => hw e0) (fun _ => hw e1) (fun _ => hw e2)
 rw [f1]
 obtain ⟨d0, d1, d2, f2, q0, q1, q2⟩ := put_ok (f0 := wd c0 c1 c2 e0) (f1 := wd c0 c1 c2 e1) (f2 := wd c0 c1 c2 e2) (a0 := b0) (a1 := b1) (a2 := b2) hj (c.fdiv 81) 3 (w := ([e0, e1, e2] : List Str).getD j (Str.ofString "")) (fun h => by subst h; rfl) (fun h => by subst h; rfl) (fun h => by subst h; rfl)
 rw [f2]
 refine ⟨d0, d1, d2, rfl, H.bal.step hi hj p0 p1 p2 q0 q1 q2, ps ++ [_], rfl, ?_⟩
 have t1 := tri_put hi (tri_map (fun x => (c0, wd c0 c1 c2 e0 x)) p0) (tri_map (fun x => (c1, wd c0 c1 c2 e1 x)) p1) (tri_map (fun x => (c2, wd c0 c1 c2 e2 x)) p2)
 have t2 := tri_put hj (tri_map (fun x => (c0, wd c0 c1 c2 e0 x)) q0) (tri_map (fun x => (c1, wd c0 c1 c2 e1 x)) q1) (tri_map (fun x => (c2, wd c0 c1 c2 e2 x)) q2)
 have t : (triW c0 c1 c2 e0 e1 e2 d0 d1 d2).Perm _ := t2.trans (t1.cons _)
 refine (pp.append_right _).trans (List.Perm.trans ?_ (callsOf_perm t).symm)
 refine List.perm_append_comm.trans ?_
 have x2 : opens (if j = 0 then (c0, wd c0 c1 c2 e0 3) else if j = 1 then (c1, wd c0 c1 c2 e1 3) else (c2, wd c0 c1 c2 e2 3)).2 = false := lt3 oe0 oe1 oe2 j hj
 have x1 : (if i = 0 then (c0, wd c0 c1 c2 e0 j) else if i = 1 then (c1, wd c0 c1 c2 e1 j) else (c2, wd c0 c1 c2 e2 j)) = (([c0, c1, c2] : List Str).getD i (Str.ofString ""), ([c0, c1, c2] : List Str).getD j (Str.ofString "")) := by
  rw [<- hw e0, <- hw e1, <- hw e2]
  exact lt3 rfl rfl rfl i hi
 have x3 : opens (([c0, c1, c2] : List Str).getD j (Str.ofString "")) = true := lt3 o0 o1 o2 j hj
 rw [x1]
 unfold callsOf
 rw [List.filter_cons_of_neg (by rw [x2]; exact Bool.false_ne_true), List.filter_cons_of_pos (by exact x3)]
 exact .refl _
theorem Dd.fold (o0 : opens c0 = true) (o1 : opens c1 = true) (o2 : opens c2 = true) (oe0 : opens e0 = false) (oe1 : opens e1 = false) (oe2 : opens e2 = false) (l : List Int) : ∀ {N : Nat} {st : Rows × Prs} {a0 a1 a2 : List Nat}, Dd c0 c1 c2 e0 e1 e2 N st a0 a1 a2 -> ∃ a0 a1 a2, Dd c0 c1 c2 e0 e1 e2 (N + l.length) (l.foldl (lwDeed [c0, c1, c2] [e0, e1, e2]) st) a0 a1 a2 := by
 induction l with
 | nil => exact fun h => ⟨_, _, _, h⟩
 | cons c l ih =>
  intro N st a0 a1 a2 h
  obtain ⟨d0, d1, d2, hd⟩ := h.step o0 o1 o2 oe0 oe1 oe2 c
  have := ih hd
  rw [List.length_cons, Nat.add_comm l.length 1, <- Nat.add_assoc]
  exact this
theorem Dd.start (oe0 : opens e0 = false) : Dd c0 c1 c2 e0 e1 e2 0 ([[e0], [], []], [(Str.ofString "", tl1 c0)]) [3] [] [] := by
 refine ⟨rfl, ⟨by decide, rfl, rfl, rfl, rfl, rfl⟩, [], rfl, ?_⟩
 show List.Perm [] (callsOf [(c0, e0)])
 unfold callsOf
 rw [List.filter_cons_of_neg (by show ¬ opens e0 = true; rw [oe0]; exact Bool.false_ne_true)]
 exact .refl _
end
theorem Dd.deeds (n : Nat) (cs : List Int) (h7 : cs.length = 7) : ∃ N a0 a1 a2, (N = 3 \/ N = 4) /\ Dd (lwCall (cs.getD 4 0) 0) (lwCall (cs.getD 4 0) 1) (lwCall (cs.getD 4 0) 2) (lwEnd (cs.getD 4 0) 0) (lwEnd (cs.getD 4 0) 1) (lwEnd (cs.getD 4 0) 2) N (lwDeeds n cs) a0 a1 a2 := by
 have o := fun k => (lwCall_is (cs.getD 4 0) k).op
 have oe := fun k => (lwEnd_is (cs.getD 4 0) k).op
 obtain ⟨a0, a1, a2, h⟩ := Dd.fold (o 0) (o 1) (o 2) (oe 0) (oe 1) (oe 2) (cs.take (if n > 3 then 4 else 3)) (Dd.start (oe 0))
 refine ⟨_, a0, a1, a2, ?_, h⟩
 rw [List.length_take, h7]
 split <;> omega

end
section
structure Wds (c0 c1 c2 e0 e1 e2 : Str) : Prop where
 i0 : IsC c0
 i1 : IsC c1
 i2 : IsC c2
 j0 : IsE e0
 j1 : IsE e1
 j2 : IsE e2
 n01 : c0 ≠ c1
 n02 : c0 ≠ c2
 n12 : c1 ≠ c2
noncomputable def mkY (c0 c1 c2 e0 e1 e2 : Str) (b0 b1 b2 : List Nat) : Sy := ⟨[c0, c1, c2], fun x => if x = c0 then b0.map (wd c0 c1 c2 e0) else if x = c1 then b1.map (wd c0 c1 c2 e1) else b2.map (wd c0 c1 c2 e2), c0⟩
theorem count_wd {f : Nat -> Str} {v : Str} {k : Nat} (h : ∀ x, x < 4 -> (f x = v ↔ x = k)) : ∀ b : List Nat, (∀ x ∈ b, x < 4) -> (b.map f).count v = b.count k
 | [], _ => rfl
 | x :: b, hb => by
  rw [List.map_cons, List.count_cons, List.count_cons, count_wd h b fun y hy => hb y (List.mem_cons_of_mem _ hy)]
  have := h x (hb x List.mem_cons_self)
  by_cases e : x = k
  ·simp [e, (h k (e ▸ hb x List.mem_cons_self)).mpr rfl]
  ·have e' : ¬ f x = v := fun z => e (this.mp z)
   simp [e, e']
theorem countP_wd {f : Nat -> Str} {p : Str -> Bool} {k : Nat} (h : ∀ x, x < 4 -> (p (f x) = true ↔ x = k)) : ∀ b : List Nat, (∀ x ∈ b, x < 4) -> (b.map f).countP p = b.count k
 | [], _ => rfl
 | x :: b, hb => by
  rw [List.map_cons, List.countP_cons, List.count_cons, countP_wd h b fun y hy => hb y (List.mem_cons_of_mem _ hy)]
  have := h x (hb x List.mem_cons_self)
  by_cases e : x = k
  ·rw [if_pos (this.mpr e), if_pos (by simpa using e)]
  ·rw [if_neg fun z => e (this.mp z), if_neg (by simpa using e)]
theorem trT_flat (first : Str) (tr : Tr) : trT first tr = strOf (flat (first :: wsOf tr)) := by
 have : ∀ (tr : Tr) (t : Str), tr.foldl (fun t y => t ++ y.2) t = strOf (lst t ++ flat (wsOf tr)) := fun tr => by
  induction tr with
  | nil => intro t; exact congrArg strOf (List.append_nil _).symm
  | cons y tr ih =>
   intro t
   rw [List.foldl_cons, ih, lst_app, List.append_assoc]; rfl
 exact this tr first
section
variable {c0 c1 c2 e0 e1 e2 : Str} {b0 b1 b2 : List Nat} {N : Nat}
theorem Wds.ne (W : Wds c0 c1 c2 e0 e1 e2) {c e : Str} (hc : IsC c) (he : IsE e) : e ≠ c := fun h => by
 have := hc.op
 rw [<- h, he.op] at this; cases this
@[elab_as_elim] theorem Wds.lt4 {p : Nat -> Prop} (h0 : p 0) (h1 : p 1) (h2 : p 2) (h3 : p 3) (x : Nat) (hx : x < 4) : p x := by
 by_cases e : x = 3
 ·rw [e]; exact h3
 ·exact lt3 h0 h1 h2 x (by omega)
theorem Wds.wd (W : Wds c0 c1 c2 e0 e1 e2) {e : Str} (he : IsE e) {x : Nat} (hx : x < 4) : Wd (wd c0 c1 c2 e x) /\ (opens (Internal.wd c0 c1 c2 e x) = true -> Internal.wd c0 c1 c2 e x ∈ [c0, c1, c2]) := by
 refine Wds.lt4 (p := fun x => Wd (Internal.wd c0 c1 c2 e x) /\ (opens (Internal.wd c0 c1 c2 e x) = true -> Internal.wd c0 c1 c2 e x ∈ [c0, c1, c2])) ?_ ?_ ?_ ?_ x hx
 ·exact ⟨.inl W.i0, fun _ => by simp [Internal.wd]⟩
 ·exact ⟨.inl W.i1, fun _ => by simp [Internal.wd]⟩
 ·exact ⟨.inl W.i2, fun _ => by simp [Internal.wd]⟩
 ·exact ⟨.inr he, fun h => by have := he.op; rw [show opens e = true from h] at this; cases this⟩
theorem Wds.cnt (W : Wds c0 c1 c2 e0 e1 e2) {e : Str} (he : IsE e) {b : List Nat} (hb : ∀ x ∈ b, x < 4) : (b.map (Internal.wd c0 c1 c2 e)).count c0 = b.count 0 /\ (b.map (Internal.wd c0 c1 c2 e)).count c1 = b.count 1 /\ (b.map (Internal.wd c0 c1 c2 e)).count c2 = b.count 2 /\ (b.map (Internal.wd c0 c1 c2 e)).countP (fun w => !opens w) = b.count 3 := by
 have a0 := W.ne W.i0 he
 have a1 := W.ne W.i1 he
 have a2 := W.ne W.i2 he
 have x01 := W.n01; have x02 := W.n02; have x12 := W.n12
 have y01 := x01.symm; have y02 := x02.symm; have y12 := x12.symm
 refine ⟨count_wd (Wds.lt4 ?_ ?_ ?_ ?_) b hb, count_wd (Wds.lt4 ?_ ?_ ?_ ?_) b hb, count_wd (Wds.lt4 ?_ ?_ ?_ ?_) b hb, countP_wd (Wds.lt4 ?_ ?_ ?_ ?_) b hb⟩ <;> simp [Internal.wd, *, W.i0.op, W.i1.op, W.i2.op, he.op]
theorem Y_row (W : Wds c0 c1 c2 e0 e1 e2) : (mkY c0 c1 c2 e0 e1 e2 b0 b1 b2).row c0 = b0.map (wd c0 c1 c2 e0) /\ (mkY c0 c1 c2 e0 e1 e2 b0 b1 b2).row c1 = b1.map (wd c0 c1 c2 e1) /\ (mkY c0 c1 c2 e0 e1 e2 b0 b1 b2).row c2 = b2.map (wd c0 c1 c2 e2) :=
 ⟨if_pos rfl, (if_neg W.n01.symm).trans (if_pos rfl), (if_neg W.n02.symm).trans (if_neg W.n12.symm)⟩
theorem Y_mem {P : Str -> Prop} (h0 : P c0) (h1 : P c1) (h2 : P c2) : ∀ x ∈ (mkY c0 c1 c2 e0 e1 e2 b0 b1 b2).keys, P x := fun x hx => by
 rcases List.mem_cons.mp hx with rfl | hx
 ·exact h0
 ·rcases List.mem_cons.mp hx with rfl | hx
  ·exact h1
  ·rw [List.mem_singleton.mp hx]; exact h2
theorem Bal.lt0 (B : Bal N b0 b1 b2) : (∀ x ∈ b0, x < 4) /\ (∀ x ∈ b1, x < 4) /\ ∀ x ∈ b2, x < 4 :=
 ⟨fun x h => B.lt x (List.mem_append_left _ h), fun x h => B.lt x (List.mem_append_right _ (List.mem_append_left _ h)), fun x h => B.lt x (List.mem_append_right _ (List.mem_append_right _ h))⟩
theorem Y_words (W : Wds c0 c1 c2 e0 e1 e2) (B : Bal N b0 b1 b2) : ∀ y ∈ (mkY c0 c1 c2 e0 e1 e2 b0 b1 b2).keys, ∀ w ∈ (mkY c0 c1 c2 e0 e1 e2 b0 b1 b2).row y, Wd w /\ (opens w = true -> w ∈ [c0, c1, c2]) := by
 obtain ⟨r0, r1, r2⟩ := Y_row (b0 := b0) (b1 := b1) (b2 := b2) W
 have key : ∀ {b : List Nat} {e : Str}, IsE e -> (∀ x ∈ b, x < 4) -> ∀ w ∈ b.map (wd c0 c1 c2 e), Wd w /\ (opens w = true -> w ∈ [c0, c1, c2]) := fun he hb w hw => by
  obtain ⟨x, hx, rfl⟩ := List.mem_map.mp hw
  exact W.wd he (hb x hx)
 obtain ⟨l0, l1, l2⟩ := B.lt0
 refine Y_mem ?_ ?_ ?_
 ·rw [r0]; exact key W.j0 l0
 ·rw [r1]; exact key W.j1 l1
 ·rw [r2]; exact key W.j2 l2
theorem Y_all (W : Wds c0 c1 c2 e0 e1 e2) : (mkY c0 c1 c2 e0 e1 e2 b0 b1 b2).all (mkY c0 c1 c2 e0 e1 e2 b0 b1 b2).len = triW c0 c1 c2 e0 e1 e2 b0 b1 b2 := by
 obtain ⟨r0, r1, r2⟩ := Y_row (b0 := b0) (b1 := b1) (b2 := b2) W
 unfold Sy.all Sy.len triW
 show List.flatMap _ [c0, c1, c2] = _
 simp only [List.flatMap_cons, List.flatMap_nil, r0, r1, r2, List.take_length, List.map_map, List.append_nil]; rfl
theorem Wd.len {w : Str} (h : Wd w) : 1 <= w.length /\ w.length <= 10 := by
 rcases h with h | h
 ·rw [h.len]; decide
 ·exact ⟨h.len.1, Nat.le_trans h.len.2 (by decide)⟩
theorem Y_ok (W : Wds c0 c1 c2 e0 e1 e2) (B : Bal N b0 b1 b2) (hN : N <= 4) : (mkY c0 c1 c2 e0 e1 e2 b0 b1 b2).Ok := by
 obtain ⟨r0, r1, r2⟩ := Y_row (b0 := b0) (b1 := b1) (b2 := b2) W
 obtain ⟨l0, l1, l2⟩ := B.lt0
 have hw := Y_words W B
 have x01 := W.n01; have x02 := W.n02; have x12 := W.n12
 refine ⟨by show [c0, c1, c2].Nodup; simp [x01, x02, x12], by show c0 ∈ [c0, c1, c2]; simp, fun y hy w h => (hw y hy w h).2, Y_mem W.i0.op W.i1.op W.i2.op, ?_, fun y hy w h => (hw y hy w h).1.len, Y_mem ?_ ?_ ?_, ?_⟩
 ·obtain ⟨p00, p01, p02, p03⟩ := W.cnt W.j0 l0
  obtain ⟨p10, p11, p12, p13⟩ := W.cnt W.j1 l1
  obtain ⟨p20, p21, p22, p23⟩ := W.cnt W.j2 l2
  have hr : ∀ x, (mkY c0 c1 c2 e0 e1 e2 b0 b1 b2).rd (mkY c0 c1 c2 e0 e1 e2 b0 b1 b2).len x = (b0.map (wd c0 c1 c2 e0)).count x + ((b1.map (wd c0 c1 c2 e1)).count x + ((b2.map (wd c0 c1 c2 e2)).count x)) := fun x => by
   unfold Sy.rd Sy.len
   show (List.map _ [c0, c1, c2]).sum = _
   simp only [List.map_cons, List.map_nil, List.sum_cons, List.sum_nil, r0, r1, r2, List.take_length, Nat.add_zero]
  have k0 := B.k0; have k1 := B.k1; have k2 := B.k2
  have hf : (mkY c0 c1 c2 e0 e1 e2 b0 b1 b2).first = c0 := rfl
  simp only [List.count_append] at k0 k1 k2
  refine Y_mem ?_ ?_ ?_
  ·unfold Sy.ex
   rw [hr, hf, p00, p10, p20, if_pos rfl]
   unfold Sy.en Sy.len
   rw [r0, List.take_length, p03]; omega
  ·unfold Sy.ex
   rw [hr, hf, p01, p11, p21, if_neg (show ¬ c1 = c0 from x01.symm)]
   unfold Sy.en Sy.len
   rw [r1, List.take_length, p13]; omega
  ·unfold Sy.ex
   rw [hr, hf, p02, p12, p22, if_neg (show ¬ c2 = c0 from x02.symm)]
   unfold Sy.en Sy.len
   rw [r2, List.take_length, p23]; omega
 ·exact (Wd.len (.inl W.i0))
 ·exact (Wd.len (.inl W.i1))
 ·exact (Wd.len (.inl W.i2))
 ·have := B.len
  unfold Sy.len
  show (List.map _ [c0, c1, c2]).sum <= 12
  simp only [List.map_cons, List.map_nil, List.sum_cons, List.sum_nil, r0, r1, r2, List.length_map]
  simp only [List.length_append] at this
  omega
structure PlaceOk (c0 c1 c2 e0 e1 e2 : Str) (b0 b1 b2 : List Nat) (q : PsT) (tr : Tr) (ps : Prs) : Prop where
 nest : ∃ k, nestR k [(c0, b0.map (wd c0 c1 c2 e0)), (c1, b1.map (wd c0 c1 c2 e1)), (c2, b2.map (wd c0 c1 c2 e2))] [c0] c0 = some (q, trT c0 tr)
 line : ∃ k, lineR k [(c0, b0.map (wd c0 c1 c2 e0)), (c1, b1.map (wd c0 c1 c2 e1)), (c2, b2.map (wd c0 c1 c2 e2))] [] c0 [(Str.ofString "", tl1 c0)] = some (q, (Str.ofString "", tl1 c0) :: ps)
 len : (trT c0 tr).length <= 130
 pop : (∃ l, aGet q c0 = some l /\ l.length = b0.length) /\ (∃ l, aGet q c1 = some l /\ l.length = b1.length) /\ ∃ l, aGet q c2 = some l /\ l.length = b2.length
 nst : Nst c0 tr []
 wd : ∀ y ∈ tr, Wd y.2
 prs : ps.Perm (callsOf tr)
 key : ∀ p ∈ callsOf tr, p.1 ∈ [tl1 c0, tl1 c1, tl1 c2] /\ p.2 ∈ [tl1 c0, tl1 c1, tl1 c2]
 few : (callsOf tr).length <= 9
 fin : ∃ tr', ∃ x, tr = tr' ++ [(c0, e0)] /\ Nst c0 tr' [x]
 whole : (trT c0 tr).length = c0.length + wsum (triW c0 c1 c2 e0 e1 e2 b0 b1 b2) ↔ sim 20 1 0 0 b0 b1 b2 = true
 all : sim 20 1 0 0 b0 b1 b2 = true -> (callsOf tr).Perm (callsOf (triW c0 c1 c2 e0 e1 e2 b0 b1 b2))
theorem place_ok (W : Wds c0 c1 c2 e0 e1 e2) (B : Bal N b0 b1 b2) (hN : N <= 4) : ∃ q tr ps, PlaceOk c0 c1 c2 e0 e1 e2 b0 b1 b2 q tr ps := by
 have O := Y_ok W B hN
 obtain ⟨r0, r1, r2⟩ := Y_row (b0 := b0) (b1 := b1) (b2 := b2) W
 have hw := Y_words W B
 have hall := Y_all (b0 := b0) (b1 := b1) (b2 := b2) W
 have hkeys : (mkY c0 c1 c2 e0 e1 e2 b0 b1 b2).keys = [c0, c1, c2] := rfl
 have hfirst : (mkY c0 c1 c2 e0 e1 e2 b0 b1 b2).first = c0 := rfl
 have A : (mkY c0 c1 c2 e0 e1 e2 b0 b1 b2).Ab (fun k => at3 k c0 c1 c2) fun k => wd c0 c1 c2 (at3 k e0 e1 e2) := by
  have x01 := W.n01; have x02 := W.n02; have x12 := W.n12
  refine ⟨O, rfl, fun i j hi hj => ?_, fun k x hx => lt3 rfl rfl rfl x hx, fun k x hx => ?_⟩
  ·exact lt3 (p := fun i => at3 i c0 c1 c2 = at3 j c0 c1 c2 -> i = j) (lt3 (p := fun j => c0 = at3 j c0 c1 c2 -> 0 = j) (fun _ => rfl) (fun e => absurd e x01) (fun e => absurd e x02) j hj) (lt3 (p := fun j => c1 = at3 j c0 c1 c2 -> 1 = j) (fun e => absurd e.symm x01) (fun _ => rfl) (fun e => absurd e x12) j hj) (lt3 (p := fun j => c2 = at3 j c0 c1 c2 -> 2 = j) (fun e => absurd e.symm x02) (fun e => absurd e.symm x12) (fun _ => rfl) j hj) i hi
  ·obtain ⟨y, rfl⟩ := Nat.exists_eq_add_of_le' hx
   show opens (at3 k e0 e1 e2) = false
   unfold at3
   split
   ·exact W.j0.op
   ·split
    ·exact W.j1.op
    ·exact W.j2.op
 have hrows : (mkY c0 c1 c2 e0 e1 e2 b0 b1 b2).keys.map (fun x => (x, (mkY c0 c1 c2 e0 e1 e2 b0 b1 b2).row x)) = [(c0, b0.map (wd c0 c1 c2 e0)), (c1, b1.map (wd c0 c1 c2 e1)), (c2, b2.map (wd c0 c1 c2 e2))] := by
  show List.map _ [c0, c1, c2] = _
  simp only [List.map_cons, List.map_nil, r0, r1, r2]
 have hlen := B.len
 have x01 := W.n01; have x02 := W.n02
 generalize mkY c0 c1 c2 e0 e1 e2 b0 b1 b2 = Y at *
 obtain ⟨u, tr, ps, R⟩ := Y.runs O
 have z1 : ∀ x, Y.rd (fun _ => 0) x = 0 := fun x => by
  unfold Sy.rd; rw [hkeys]; simp
 have z2 : ∀ x, Y.en (fun _ => 0) x = 0 := fun x => rfl
 have S : Y.Sim (fun k => at3 k c0 c1 c2) (fun k => wd c0 c1 c2 (at3 k e0 e1 e2)) (fun _ => 0) (fun k => at3 k 1 0 0) (fun k => at3 k b0 b1 b2) := by
  have z3 : ∀ x, Y.ex (fun _ => 0) x = if x = c0 then 1 else 0 := fun x => by
   unfold Sy.ex
   rw [z1, z2, hfirst]; simp
  exact ⟨fun _ _ _ _ => Nat.zero_le _, lt3 ((z3 c0).trans (if_pos rfl)) ((z3 c1).trans (if_neg x01.symm)) ((z3 c2).trans (if_neg x02.symm)), lt3 r0 r1 r2⟩
 have hl : Y.left (fun _ => 0) < 20 := by
  show (Y.keys.map Y.len).sum < 20
  have := O.small; omega
 obtain ⟨u', le', rest', hsim⟩ := Y.sim_ok A 20 _ _ _ _ _ _ _ hl S
 have he : ∀ x ∈ Y.keys, u' x = u x := fun x hx => Nat.le_antisymm (le' u (fun z hz => Int.le_of_eq (R.rest z hz)) x hx) (R.le u' (fun z hz => Int.le_of_eq (rest' z hz)) x hx)
 have hsim' : sim 20 1 0 0 b0 b1 b2 = true ↔ ∀ x ∈ Y.keys, u x = Y.len x := hsim.trans ⟨fun h x hx => (he x hx).symm.trans (h x hx), fun h x hx => (he x hx).trans (h x hx)⟩
 have hu : ∀ y ∈ Y.keys, u y <= Y.len y := R.le _ fun z hz => Int.le_of_eq (O.full z hz)
 have hmem : ∀ y ∈ tr, y.1 ∈ Y.keys /\ y.2 ∈ Y.row y.1 := fun y hy => by
  have := R.perm.mem_iff.mp hy
  unfold Sy.all at this
  obtain ⟨z, hz, h2⟩ := List.mem_flatMap.mp this
  obtain ⟨w, hw, rfl⟩ := List.mem_map.mp h2
  exact ⟨hz, List.mem_of_mem_take hw⟩
 have nst := R.nst
 have rn := R.nest
 have rl := R.line
 rw [hrows, hfirst] at rn rl
 rw [hfirst] at nst
 have tl3 : ∀ x ∈ [c0, c1, c2], tl1 x ∈ [tl1 c0, tl1 c1, tl1 c2] := fun x hx => List.mem_map.mpr ⟨x, hx, rfl⟩
 refine ⟨Y.q u, tr, ps, rn, rl, ?_, ?_, nst, fun y hy => (hw _ (hmem y hy).1 _ (hmem y hy).2).1, R.pr.trans (callsOf_perm R.perm).symm, fun p hp => ?_, ?_, ?_, ?_, fun h => ?_⟩
 ·have := R.tl; rw [hfirst] at this; exact this
 ·have key : ∀ (x : Str) (e : Str) (b : List Nat), x ∈ Y.keys -> Y.row x = b.map (wd c0 c1 c2 e) -> ∃ l, aGet (Y.q u) x = some l /\ l.length = b.length := fun x e b hx hr => by
   refine ⟨_, aGet_keys hx, ?_⟩
   unfold rotA
   have := hu x hx
   unfold Sy.len at this
   rw [hr] at this ⊢
   rw [List.length_append, List.length_drop, List.length_take]
   rw [List.length_map] at this ⊢; omega
  exact ⟨key c0 e0 b0 (by rw [hkeys]; simp) r0, key c1 e1 b1 (by rw [hkeys]; simp) r1, key c2 e2 b2 (by rw [hkeys]; simp) r2⟩
 ·obtain ⟨y, hy, rfl⟩ := List.mem_map.mp hp
  obtain ⟨hy, ho⟩ := List.mem_filter.mp hy
  have := hmem y hy
  exact ⟨tl3 _ (hkeys ▸ this.1), tl3 _ ((hw _ this.1 _ this.2).2 ho)⟩
 ·have h1 : (callsOf tr).length <= tr.length := by
   unfold callsOf; rw [List.length_map]; exact List.length_filter_le ..
  have h2 : tr.length <= (triW c0 c1 c2 e0 e1 e2 b0 b1 b2).length := by
   rw [R.perm.length_eq, <- hall]
   unfold Sy.all
   rw [List.length_flatMap, List.length_flatMap]
   refine sum_le fun y hy => ?_
   rw [List.length_map, List.length_map, List.length_take, List.length_take]
   have := hu y hy
   omega
  have h3 : (triW c0 c1 c2 e0 e1 e2 b0 b1 b2).length = 2 * N + 1 := by
   rw [<- hlen]; unfold triW; simp only [List.length_append, List.length_map]
  omega
 ·obtain ⟨tr', w, rfl, ho, hn⟩ := nst.last.2 rfl
  have := hmem (c0, w) (List.mem_append_right _ (List.mem_singleton.mpr rfl))
  have hr : w ∈ Y.row c0 := this.2
  rw [r0] at hr
  obtain ⟨x, hx, rfl⟩ := List.mem_map.mp hr
  have hx4 : x < 4 := B.lt0.1 x hx
  refine ⟨tr', c0, ?_, hn⟩
  have no : ∀ {c : Str}, IsC c -> opens c = false -> False := fun h e => by rw [h.op] at e; cases e
  rw [Wds.lt4 (p := fun x => opens (wd c0 c1 c2 e0 x) = false -> x = 3) (fun h => (no W.i0 h).elim) (fun h => (no W.i1 h).elim) (fun h => (no W.i2 h).elim) (fun _ => rfl) x hx4 ho]; rfl
 ·rw [hsim', <- Y.whole_iff O hu, trT_len, wsum_perm R.perm, hall]; omega
 ·have := R.perm
  rw [Y.all_congr (hsim'.mp h), hall] at this
  exact callsOf_perm this
end

end
section
noncomputable def rotN (t : Nat) (a : List Nat) : List Nat := a.drop t ++ a.take t
noncomputable def Sn (n : Nat) (g : Nat -> Nat) : Nat := ((List.range n).map g).sum
theorem Sn_succ (n : Nat) (g : Nat -> Nat) : Sn (n + 1) g = Sn n g + g n := by
 unfold Sn; rw [List.range_succ, List.map_append, List.sum_append]; simp
theorem Sn_congr {n : Nat} {f g : Nat -> Nat} (h : ∀ i, i < n -> f i = g i) : Sn n f = Sn n g := by
 unfold Sn; rw [List.map_congr_left fun i hi => h i (List.mem_range.mp hi)]
theorem Sn_zero : ∀ n : Nat, Sn n (fun _ => 0) = 0
 | 0 => rfl
 | n + 1 => by rw [Sn_succ, Sn_zero n]
theorem Sn_add (f g : Nat -> Nat) : ∀ n : Nat, Sn n (fun i => f i + g i) = Sn n f + Sn n g
 | 0 => rfl
 | n + 1 => by simp only [Sn_succ, Sn_add f g n]; omega
theorem Sn_comm (g : Nat -> Nat -> Nat) (m : Nat) : ∀ n : Nat, Sn n (fun i => Sn m fun j => g i j) = Sn m fun j => Sn n fun i => g i j
 | 0 => (Sn_zero m).symm
 | n + 1 => by simp only [Sn_succ, Sn_comm g m n, Sn_add]
theorem Sn_plus (f : Nat -> Nat) (n : Nat) : ∀ m : Nat, Sn (n + m) f = Sn n f + Sn m fun j => f (n + j)
 | 0 => rfl
 | m + 1 => by rw [<- Nat.add_assoc, Sn_succ, Sn_succ, Sn_plus f n m]; omega
theorem Sn_mul (g : Nat -> Nat -> Nat) {A : Nat} (hA : 0 < A) : ∀ B : Nat, Sn (A * B) (fun i => g (i % A) (i / A)) = Sn B fun b => Sn A fun a => g a b
 | 0 => rfl
 | B + 1 => by
  rw [Nat.mul_succ, Sn_plus, Sn_succ, Sn_mul g hA B]
  congr 1
  refine Sn_congr fun j hj => ?_
  rw [Nat.mul_add_mod, Nat.mod_eq_of_lt hj, Nat.mul_add_div hA, Nat.div_eq_of_lt hj, Nat.add_zero]
theorem countP_sum {α : Type} (p : α -> Bool) : ∀ l : List α, l.countP p = (l.map fun b => if p b = true then 1 else 0).sum
 | [] => rfl
 | b :: l => by
  rw [List.countP_cons, countP_sum p l, List.map_cons, List.sum_cons]; omega
theorem sum_filter {α : Type} {p : α -> Bool} {g : α -> Nat} : ∀ {l : List α}, (∀ x ∈ l, p x = false -> g x = 0) -> ((l.filter p).map g).sum = (l.map g).sum
 | [], _ => rfl
 | b :: l, h => by
  have ih := sum_filter (p := p) (g := g) (l := l) fun x hx => h x (List.mem_cons_of_mem _ hx)
  cases q : p b with
  | true => rw [List.filter_cons_of_pos q, List.map_cons, List.map_cons, List.sum_cons, List.sum_cons, ih]
  | false => rw [List.filter_cons_of_neg (by rw [q]; exact Bool.false_ne_true), ih, List.map_cons, List.sum_cons, h b List.mem_cons_self q]; omega
theorem mxN_max (k : Nat) : mxN k = max 1 k := by unfold mxN; split <;> omega
theorem rots_eq (a : List Nat) (g : List Nat -> Nat) : ((rots a).map g).sum = Sn (mxN a.length) fun t => g (rotN t a) := by
 unfold rots Sn
 rw [List.map_map, mxN_max]; rfl
theorem rots_mem {a b : List Nat} (h : b ∈ rots a) : b.Perm a := by
 obtain ⟨t, _, rfl⟩ := List.mem_map.mp h
 exact List.perm_append_comm.trans (by rw [List.take_append_drop])
theorem rotN_perm (t : Nat) (a : List Nat) : (rotN t a).Perm a := List.perm_append_comm.trans (by rw [List.take_append_drop])
theorem cnt3_sum {a0 a1 a2 : List Nat} (hx : ∀ x ∈ a0 ++ (a1 ++ a2), x < 4) : cnt3 a0 a1 a2 = Sn (mxN a0.length) fun t0 => Sn (mxN a1.length) fun t1 => Sn (mxN a2.length) fun t2 => if sim 20 1 0 0 (rotN t0 a0) (rotN t1 a1) (rotN t2 a2) = true then 1 else 0 := by
 have key : ∀ {b0 b1 b2 : List Nat}, b0.Perm a0 -> b1.Perm a1 -> b2.Perm a2 -> sim 20 1 0 0 b0 b1 b2 = true -> end3 b0 = true /\ end3 b1 = true /\ end3 b2 = true := fun h0 h1 h2 h => by
  have z := sim_end3 20 1 0 0 _ _ _ (fun x h => hx x (List.mem_append_left _ (h0.mem_iff.mp h))) (fun x h => hx x (List.mem_append_right _ (List.mem_append_left _ (h1.mem_iff.mp h)))) (fun x h => hx x (List.mem_append_right _ (List.mem_append_right _ (h2.mem_iff.mp h)))) h
  exact ⟨z.1.1, z.2.1.1, z.2.2.1⟩
 unfold cnt3
 rw [sum_filter, rots_eq]
 ·refine Sn_congr fun t0 _ => ?_
  rw [sum_filter, rots_eq]
  ·refine Sn_congr fun t1 _ => ?_
   rw [countP_sum, sum_filter, rots_eq]
   intro b2 h2 q
   by_cases z : sim 20 1 0 0 (rotN t0 a0) (rotN t1 a1) b2 = true
   ·have := (key (rotN_perm _ _) (rotN_perm _ _) (rots_mem h2) z).2.2
    rw [q] at this; cases this
   ·exact if_neg z
  ·intro b1 h1 q
   refine List.countP_eq_zero.mpr fun b2 h2 z => ?_
   have := (key (rotN_perm _ _) (rots_mem h1) (rots_mem (List.mem_filter.mp h2).1) z).2.1
   rw [q] at this; cases this
 ·intro b0 h0 q
  have : ∀ l : List (List Nat), (∀ b1 ∈ l, b1 ∈ rots a1) -> (l.map fun b1 => ((rots a2).filter end3).countP fun b2 => sim 20 1 0 0 b0 b1 b2).sum = 0 := fun l => by
   induction l with
   | nil => intro _; rfl
   | cons b1 l ih =>
    intro h
    rw [List.map_cons, List.sum_cons, ih fun b hb => h b (List.mem_cons_of_mem _ hb)]
    refine (Nat.add_zero _).trans (List.countP_eq_zero.mpr fun b2 h2 z => ?_)
    have := (key (rots_mem h0) (rots_mem (h b1 List.mem_cons_self)) (rots_mem (List.mem_filter.mp h2).1) z).1
    rw [q] at this; cases this
  exact this _ fun b1 hb => (List.mem_filter.mp hb).1
noncomputable def pl0 (a0 : List Nat) (i : Nat) : List Nat := rotN (i % mxN a0.length) a0
noncomputable def pl1 (a0 a1 : List Nat) (i : Nat) : List Nat := rotN (i / mxN a0.length % mxN a1.length) a1
noncomputable def pl2 (a0 a1 a2 : List Nat) (i : Nat) : List Nat := rotN (i / mxN a0.length / mxN a1.length % mxN a2.length) a2
theorem place_cnt {a0 a1 a2 : List Nat} (hx : ∀ x ∈ a0 ++ (a1 ++ a2), x < 4) (h0 : a0 ≠ []) :
  (List.range (a0.length * mxN a1.length * mxN a2.length)).countP (fun i => sim 20 1 0 0 (pl0 a0 i) (pl1 a0 a1 i) (pl2 a0 a1 a2 i)) = cnt3 a0 a1 a2 := by
 have hm : mxN a0.length = a0.length := by
  have := List.length_pos_iff.mpr h0
  unfold mxN; split <;> omega
 have p1 : 0 < mxN a1.length := by unfold mxN; split <;> omega
 unfold pl0 pl1 pl2
 rw [cnt3_sum hx, countP_sum, hm]
 show Sn _ _ = _
 generalize hn0 : a0.length = n0
 generalize hn1 : mxN a1.length = m1 at p1
 generalize hn2 : mxN a2.length = m2
 have p0 : 0 < n0 := by rw [<- hn0]; exact List.length_pos_iff.mpr h0
 rw [Nat.mul_assoc]
 rw [Sn_mul (fun a b => if sim 20 1 0 0 (rotN a a0) (rotN (b % m1) a1) (rotN (b / m1 % m2) a2) = true then 1 else 0) p0]
 rw [Sn_mul (fun c d => Sn n0 fun a => if sim 20 1 0 0 (rotN a a0) (rotN c a1) (rotN (d % m2) a2) = true then 1 else 0) p1]
 rw [Sn_congr (g := fun d => Sn m1 fun c => Sn n0 fun a => if sim 20 1 0 0 (rotN a a0) (rotN c a1) (rotN d a2) = true then 1 else 0) fun d hd => by rw [Nat.mod_eq_of_lt hd]]
 rw [Sn_comm]
 rw [Sn_congr (g := fun c => Sn n0 fun a => Sn m2 fun d => if sim 20 1 0 0 (rotN a a0) (rotN c a1) (rotN d a2) = true then 1 else 0) fun c _ => Sn_comm ..]
 rw [Sn_comm]

end
section
theorem mine_count (y x : Str) : ∀ ps : Prs, (lwMine ps y).count x = ps.count (x, y)
 | [] => rfl
 | p :: ps => by
  have ih := mine_count y x ps
  have e : lwMine (p :: ps) y = (if p.2 = y then [p.1] else []) ++ lwMine ps y := by
   unfold lwMine
   by_cases h : p.2 = y <;> simp [h]
  rw [e, List.count_append, ih, List.count_cons]
  by_cases h : p.2 = y
  ·rw [if_pos h, List.count_singleton]
   by_cases q : p.1 = x
   ·rw [if_pos (by simpa using q), if_pos (by simp [Prod.ext_iff, q, h])]; omega
   ·rw [if_neg (by simpa using q), if_neg (by simp [Prod.ext_iff, q])]; omega
  ·rw [if_neg h, if_neg (by simp [Prod.ext_iff, h])]; simp
theorem mine_lenP (y : Str) : ∀ ps : Prs, (lwMine ps y).length = ps.countP fun p => decide (p.2 = y) := fun ps => by
 unfold lwMine; rw [List.length_map, List.countP_eq_length_filter]
theorem IsC.inj {a b : Str} (ha : IsC a) (hb : IsC b) (h : tl1 a = tl1 b) : a = b := by
 cases ha; cases hb
 rw [tl1_cons, tl1_cons] at h
 have := congrArg lst h
 rw [lst_strOf, lst_strOf] at this
 injection this with _ this
 rw [this]
theorem IsC.tl {a : Str} (ha : IsC a) : tl1 a ≠ Str.ofString "" := by
 cases ha
 rw [tl1_cons]
 intro h
 have := congrArg (fun z => (lst z).length) h
 exact absurd this (by show ¬ 2 = (lst (Str.ofString "")).length; decide)
section
variable {c0 c1 c2 e0 e1 e2 : Str} {a0 a1 a2 : List Nat} {N : Nat}
theorem row_calls {g : Nat -> Str} {c c' cj : Str} {j : Nat} (hc : tl1 c = tl1 c' ↔ c = c') (hj : ∀ x, x < 4 -> (opens (g x) = true /\ tl1 (g x) = tl1 cj ↔ x = j)) : ∀ a : List Nat, (∀ x ∈ a, x < 4) -> (callsOf (a.map fun x => (c, g x))).count (tl1 c', tl1 cj) = (if c = c' then a.count j else 0) /\ (callsOf (a.map fun x => (c, g x))).countP (fun p => decide (p.2 = tl1 cj)) = a.count j
 | [], _ => ⟨by simp [callsOf], rfl⟩
 | x :: a, h => by
  have ih := row_calls hc hj a fun y hy => h y (List.mem_cons_of_mem _ hy)
  have e : callsOf ((x :: a).map fun x => (c, g x)) = (if opens (g x) = true then [(tl1 c, tl1 (g x))] else []) ++ callsOf (a.map fun x => (c, g x)) := by
   unfold callsOf
   by_cases q : opens (g x) = true <;> simp [q, prOf]
  have hx := hj x (h x List.mem_cons_self)
  rw [e, List.count_append, List.countP_append, ih.1, ih.2, List.count_cons]
  by_cases q : x = j
  ·obtain ⟨q1, q2⟩ := hx.mpr q
   rw [if_pos q1, q2, List.count_singleton]
   by_cases z : c = c'
   ·subst z; simp [q]; omega
   ·have z' : ¬ tl1 c = tl1 c' := fun y => z (hc.mp y)
    simp [q, z, z', Prod.ext_iff]; omega
  ·have z' : ¬ (x == j) = true := by simpa using q
   rw [if_neg z']
   by_cases q1 : opens (g x) = true
   ·have q2 : ¬ tl1 (g x) = tl1 cj := fun y => q (hx.mp ⟨q1, y⟩)
    rw [if_pos q1, List.count_singleton]
    simp [q2, Prod.ext_iff]
   ·rw [if_neg q1]; simp
theorem tl1_iff {a b : Str} (ha : IsC a) (hb : IsC b) : tl1 a = tl1 b ↔ a = b := ⟨ha.inj hb, fun e => e ▸ rfl⟩
theorem wd_iff (W : Wds c0 c1 c2 e0 e1 e2) {e : Str} (he : IsE e) : (∀ x, x < 4 -> (opens (wd c0 c1 c2 e x) = true /\ tl1 (wd c0 c1 c2 e x) = tl1 c0 ↔ x = 0)) /\ (∀ x, x < 4 -> (opens (wd c0 c1 c2 e x) = true /\ tl1 (wd c0 c1 c2 e x) = tl1 c1 ↔ x = 1)) /\ ∀ x, x < 4 -> (opens (wd c0 c1 c2 e x) = true /\ tl1 (wd c0 c1 c2 e x) = tl1 c2 ↔ x = 2) := by
 have x01 := W.n01; have x02 := W.n02; have x12 := W.n12
 have y01 := x01.symm; have y02 := x02.symm; have y12 := x12.symm
 refine ⟨Wds.lt4 ?_ ?_ ?_ ?_, Wds.lt4 ?_ ?_ ?_ ?_, Wds.lt4 ?_ ?_ ?_ ?_⟩ <;> simp [wd, *, W.i0.op, W.i1.op, W.i2.op, he.op, tl1_iff W.i0 W.i1, tl1_iff W.i0 W.i2, tl1_iff W.i1 W.i2, tl1_iff W.i1 W.i0, tl1_iff W.i2 W.i0, tl1_iff W.i2 W.i1]
theorem calls_app (a b : Tr) : callsOf (a ++ b) = callsOf a ++ callsOf b := by
 unfold callsOf; rw [List.filter_append, List.map_append]
theorem prs_count (W : Wds c0 c1 c2 e0 e1 e2) (B : Bal N a0 a1 a2) {P ps : Prs} (hP : P = (Str.ofString "", tl1 c0) :: ps) (hp : ps.Perm (callsOf (triW c0 c1 c2 e0 e1 e2 a0 a1 a2))) : ∀ i j, i < 3 -> j < 3 ->
  (lwMine P (tl1 (at3 j c0 c1 c2))).count (tl1 (at3 i c0 c1 c2)) = (at3 i a0 a1 a2).count j /\ (lwMine P (tl1 (at3 j c0 c1 c2))).length = (a0 ++ (a1 ++ a2)).count j + if j = 0 then 1 else 0 := by
 have x01 := W.n01; have x02 := W.n02; have x12 := W.n12
 have y01 := x01.symm; have y02 := x02.symm; have y12 := x12.symm
 obtain ⟨l0, l1, l2⟩ := B.lt0
 have main : ∀ (ci cj : Str) (j : Nat), IsC ci -> (tl1 c0 = tl1 cj ↔ j = 0) -> (∀ e, IsE e -> ∀ x, x < 4 -> (opens (wd c0 c1 c2 e x) = true /\ tl1 (wd c0 c1 c2 e x) = tl1 cj ↔ x = j)) -> (lwMine P (tl1 cj)).count (tl1 ci) = (if c0 = ci then a0.count j else 0) + ((if c1 = ci then a1.count j else 0) + if c2 = ci then a2.count j else 0) /\ (lwMine P (tl1 cj)).length = (a0 ++ (a1 ++ a2)).count j + if j = 0 then 1 else 0 := fun ci cj j hi h0 hj => by
  have q0 := row_calls (tl1_iff W.i0 hi) (hj e0 W.j0) a0 l0
  have q1 := row_calls (tl1_iff W.i1 hi) (hj e1 W.j1) a1 l1
  have q2 := row_calls (tl1_iff W.i2 hi) (hj e2 W.j2) a2 l2
  rw [mine_count, mine_lenP, hP, List.count_cons, List.countP_cons, hp.count_eq, hp.countP_eq]
  unfold triW
  rw [calls_app, calls_app, List.count_append, List.count_append, List.countP_append, List.countP_append, q0.1, q1.1, q2.1, q0.2, q1.2, q2.2, List.count_append, List.count_append]
  rw [if_neg (show ¬ ((Str.ofString "", tl1 c0) == (tl1 ci, tl1 cj)) = true by
   rw [beq_iff_eq]; intro h; exact hi.tl (congrArg Prod.fst h).symm), Nat.add_zero]
  refine ⟨rfl, ?_⟩
  congr 1
  by_cases z : j = 0
  ·rw [if_pos (by simpa using h0.mpr z), if_pos z]
  ·rw [if_neg (by simpa using fun y => z (h0.mp y)), if_neg z]
 have hj0 : ∀ e, IsE e -> ∀ x, x < 4 -> (opens (wd c0 c1 c2 e x) = true /\ tl1 (wd c0 c1 c2 e x) = tl1 c0 ↔ x = 0) := fun e he => (wd_iff W he).1
 have hj1 : ∀ e, IsE e -> ∀ x, x < 4 -> (opens (wd c0 c1 c2 e x) = true /\ tl1 (wd c0 c1 c2 e x) = tl1 c1 ↔ x = 1) := fun e he => (wd_iff W he).2.1
 have hj2 : ∀ e, IsE e -> ∀ x, x < 4 -> (opens (wd c0 c1 c2 e x) = true /\ tl1 (wd c0 c1 c2 e x) = tl1 c2 ↔ x = 2) := fun e he => (wd_iff W he).2.2
 have z0 : tl1 c0 = tl1 c0 ↔ 0 = 0 := by simp
 have z1 : tl1 c0 = tl1 c1 ↔ 1 = 0 := by rw [tl1_iff W.i0 W.i1]; simp [x01]
 have z2 : tl1 c0 = tl1 c2 ↔ 2 = 0 := by rw [tl1_iff W.i0 W.i2]; simp [x02]
 have row : ∀ (cj : Str) (j : Nat), (tl1 c0 = tl1 cj ↔ j = 0) -> (∀ e, IsE e -> ∀ x, x < 4 -> (opens (wd c0 c1 c2 e x) = true /\ tl1 (wd c0 c1 c2 e x) = tl1 cj ↔ x = j)) -> ∀ i, i < 3 -> (lwMine P (tl1 cj)).count (tl1 (at3 i c0 c1 c2)) = (at3 i a0 a1 a2).count j /\ (lwMine P (tl1 cj)).length = (a0 ++ (a1 ++ a2)).count j + if j = 0 then 1 else 0 := fun cj j z hj i hi => by
  refine lt3 ?_ ?_ ?_ i hi
  ·have := main c0 cj j W.i0 z hj
   rw [if_pos rfl, if_neg y01, if_neg y02] at this; exact this
  ·have := main c1 cj j W.i1 z hj
   rw [if_neg x01, if_pos rfl, if_neg y12, Nat.zero_add] at this; exact this
  ·have := main c2 cj j W.i2 z hj
   rw [if_neg x02, if_neg x12, if_pos rfl, Nat.zero_add, Nat.zero_add] at this; exact this
 intro i j hi hj
 exact lt3 (row c0 0 z0 hj0 i hi) (row c1 1 z1 hj1 i hi) (row c2 2 z2 hj2 i hi) j hj
theorem square_ok (W : Wds c0 c1 c2 e0 e1 e2) (B : Bal N a0 a1 a2) {P ps : Prs} (hP : P = (Str.ofString "", tl1 c0) :: ps) (hp : ps.Perm (callsOf (triW c0 c1 c2 e0 e1 e2 a0 a1 a2))) (pr : Cs) (i j : Nat) (hi : i < 3) (hj : j < 3) :
  lwSq ([c0, c1, c2].map (lwTab (fileB pr P))) [c0, c1, c2] i j = -(((at3 i a0 a1 a2).count j : Nat) : Int) /\ csSum (([c0, c1, c2].map (lwTab (fileB pr P))).getD j []) = (((a0 ++ (a1 ++ a2)).count j + (if j = 0 then 1 else 0) : Nat) : Int) := by
 have E := (fileB_ok pr P).ent (tl1 (at3 j c0 c1 c2))
 have C := prs_count W B hP hp i j hi hj
 have e1 : ([c0, c1, c2].map (lwTab (fileB pr P))).getD j [] = ((aGet (fileB pr P) (tl1 (at3 j c0 c1 c2))).getD Internal.e0).cs := lt3 rfl rfl rfl j hj
 have e2 : [c0, c1, c2].getD i (Str.ofString "") = at3 i c0 c1 c2 := lt3 rfl rfl rfl i hi
 constructor
 ·unfold lwSq
  rw [e1, e2, E.cs, C.1]
  by_cases z : (at3 i a0 a1 a2).count j = 0
  ·rw [if_pos z, z]; rfl
  ·rw [if_neg z]; rfl
 ·rw [e1, csSum_of (M := lwMine P (tl1 (at3 j c0 c1 c2))) (fun _ => 1) E.nd (fun x => by rw [E.cs, Int.one_mul])]
  have : ∀ M : List Str, (M.map fun _ => (1 : Int)).sum = (M.length : Nat) := fun M => by
   induction M with
   | nil => rfl
   | cons _ M ih => rw [List.map_cons, List.sum_cons, ih, List.length_cons]; omega
  rw [this, C.2]
theorem lwRow_eq3 (D : Rows) (T : List Cs) (cl : List Str) : lwRow D T cl 3 0 = [lwSq T cl 0 0 + lwDiag D T 0, lwSq T cl 0 1, lwSq T cl 0 2] /\ lwRow D T cl 3 1 = [lwSq T cl 1 0, lwSq T cl 1 1 + lwDiag D T 1, lwSq T cl 1 2] /\ lwRow D T cl 3 2 = [lwSq T cl 2 0, lwSq T cl 2 1, lwSq T cl 2 2 + lwDiag D T 2] := ⟨rfl, rfl, rfl⟩
theorem lwDue_eq (D : Rows) (T : List Cs) (cl : List Str) {x0 x1 x2 y0 y1 y2 z0 z1 z2 : Int} (h0 : lwRow D T cl 3 0 = [x0, x1, x2]) (h1 : lwRow D T cl 3 1 = [y0, y1, y2]) (h2 : lwRow D T cl 3 2 = [z0, z1, z2]) : lwDue D T cl = x0 * (y1 * z2 - y2 * z1) + (x1 * (y2 * z0 - y0 * z2) + (x2 * (y0 * z1 - y1 * z0) + 0)) := by
 unfold lwDue
 rw [h0, h1, h2]; rfl
theorem sub_ok {A t : Nat} (h : A <= t) : -(A : Int) + (t : Int) = ((Nat.sub t A : Nat) : Int) := by rw [show Nat.sub t A = t - A from rfl, Int.ofNat_sub h, Int.add_comm]; rfl
theorem diag_ok {A t : Nat} {a : List Nat} (f : Nat -> Str) (h : A <= t) (h0 : a = [] -> A = 0) : -(A : Int) + (if a.map f = [] then 1 else (t : Int)) = ((Bool.rec (Nat.sub t A) 1 (isNil a) : Nat) : Int) := by
 cases a with
 | nil => rw [h0 rfl]; rfl
 | cons x a => rw [List.map_cons, if_neg (List.cons_ne_nil _ _)]; exact sub_ok h
theorem det_alg {d0 d1 d2 A01 A02 A10 A12 A20 A21 c : Nat} {x0 x1 x2 y0 y1 y2 z0 z1 z2 : Int} (h : d0 * (d1 * d2) = c + ((d0 * (A12 * A21) + A01 * (A10 * d2)) + ((A01 * (A12 * A20) + A02 * (A10 * A21)) + A02 * (d1 * A20))))
  (e00 : x0 = d0) (e01 : x1 = -(A01 : Nat)) (e02 : x2 = -(A02 : Nat)) (e10 : y0 = -(A10 : Nat)) (e11 : y1 = d1) (e12 : y2 = -(A12 : Nat)) (e20 : z0 = -(A20 : Nat)) (e21 : z1 = -(A21 : Nat)) (e22 : z2 = d2) : x0 * (y1 * z2 - y2 * z1) + (x1 * (y2 * z0 - y0 * z2) + (x2 * (y0 * z1 - y1 * z0) + 0)) = c := by
 subst e00 e01 e02 e10 e11 e12 e20 e21 e22
 have h3 := congrArg (fun z : Nat => (z : Int)) h
 simp only [Int.natCast_add, Int.natCast_mul] at h3
 simp only [Int.mul_sub, Int.neg_mul, Int.mul_neg, Int.neg_neg]
 omega
theorem due_ok (W : Wds c0 c1 c2 e0 e1 e2) (B : Bal N a0 a1 a2) {P ps : Prs} (hP : P = (Str.ofString "", tl1 c0) :: ps) (hp : ps.Perm (callsOf (triW c0 c1 c2 e0 e1 e2 a0 a1 a2))) (pr : Cs) {c : Nat} (h : detR a0 a1 a2 c = true) :
  lwDue [a0.map (wd c0 c1 c2 e0), a1.map (wd c0 c1 c2 e1), a2.map (wd c0 c1 c2 e2)] ([c0, c1, c2].map (lwTab (fileB pr P))) [c0, c1, c2] = c := by
 have Q := square_ok W B hP hp pr
 have q : ∀ i j, i < 3 -> j < 3 -> lwSq ([c0, c1, c2].map (lwTab (fileB pr P))) [c0, c1, c2] i j = -((cntR j (at3 i a0 a1 a2) : Nat) : Int) := fun i j hi hj => by rw [cntR_eq]; exact (Q i j hi hj).1
 obtain ⟨r0, r1, r2⟩ := lwRow_eq3 [a0.map (wd c0 c1 c2 e0), a1.map (wd c0 c1 c2 e1), a2.map (wd c0 c1 c2 e2)] ([c0, c1, c2].map (lwTab (fileB pr P))) [c0, c1, c2]
 rw [lwDue_eq _ _ _ r0 r1 r2]
 have n0 : a0 ≠ [] := by
  have k0 := B.k0
  rintro rfl; simp at k0
 have z : (0 : Nat) < 3 := by decide
 have o : (1 : Nat) < 3 := by decide
 have t : (2 : Nat) < 3 := by decide
 unfold lwDiag
 refine det_alg (Nat.eq_of_beq_eq_true h) ?_ (q 0 1 z o) (q 0 2 z t) (q 1 0 o z) ?_ (q 1 2 o t) (q 2 0 t z) (q 2 1 t o) ?_
 ·rw [q 0 0 z z, (Q 0 0 z z).2]
  refine (if_neg (show ¬ a0.map (wd c0 c1 c2 e0) = [] from fun e => n0 (List.map_eq_nil_iff.mp e)) : (if a0.map (wd c0 c1 c2 e0) = [] then (1 : Int) else _) = _) ▸ ?_
  rw [List.count_append, List.count_append, <- cntR_eq, <- cntR_eq, <- cntR_eq, Nat.add_assoc, Nat.add_assoc, <- Nat.add_assoc (cntR 0 a0)]
  exact sub_ok (Nat.le_trans (Nat.le_add_right ..) (Nat.le_add_right ..))
 ·rw [q 1 1 o o, (Q 1 1 o o).2, List.count_append, List.count_append, <- cntR_eq, <- cntR_eq, <- cntR_eq, <- Nat.add_assoc]
  exact diag_ok (a := a1) _ (Nat.le_trans (Nat.le_add_left ..) (Nat.le_add_right ..)) fun e => by rw [e]; rfl
 ·rw [q 2 2 t t, (Q 2 2 t t).2, List.count_append, List.count_append, <- cntR_eq, <- cntR_eq, <- cntR_eq, <- Nat.add_assoc]
  exact diag_ok (a := a2) _ (Nat.le_add_left ..) fun e => by rw [e]; rfl
end

end
section
noncomputable def shown (way : Nat) (l : List Nat) : List Nat := l.flatMap fun c => if lwEsc way c = true then [92, c] else [c]
noncomputable def core (way : Nat) (l : List Nat) : List Nat := if way % 4 > 1 then 34 :: (shown way l ++ [34]) else shown way l
theorem shown_cons (way c : Nat) (l : List Nat) : shown way (c :: l) = (if lwEsc way c = true then [92, c] else [c]) ++ shown way l := List.flatMap_cons
theorem esc_not {way c : Nat} (h : ¬ lwEsc way c = true) : c ≠ 92 /\ (way % 4 > 1 -> c ≠ 34) := by
 unfold lwEsc at h
 simp only [Bool.or_eq_true, Bool.and_eq_true, beq_iff_eq, decide_eq_true_eq, not_or] at h
 exact ⟨h.2.1, fun hw e => h.2.2 ⟨e, hw⟩⟩
theorem lexS_esc {q : Nat -> Bool} (hq : q 92 = false) (c : Nat) (r : List Nat) : lexS q (92 :: c :: r) = (c :: (lexS q r).1, (lexS q r).2) := by
 rw [lexS_go (by rw [hq]; exact Bool.false_ne_true)]; rfl
theorem lexS_one {q : Nat -> Bool} {c : Nat} (hq : q c = false) (h : c ≠ 92) (r : List Nat) : lexS q (c :: r) = (c :: (lexS q r).1, (lexS q r).2) := by
 rw [lexS_go (by rw [hq]; exact Bool.false_ne_true)]
 unfold escY escR
 rw [if_neg h, if_neg h]; rfl
theorem lexS_shown {q : Nat -> Bool} {way : Nat} (h92 : q 92 = false) (tl : List Nat) : ∀ l : List Nat, (∀ c ∈ l, ¬ lwEsc way c = true -> q c = false) -> lexS q (shown way l ++ tl) = (l ++ (lexS q tl).1, (lexS q tl).2)
 | [], _ => rfl
 | c :: l, h => by
  have ih := lexS_shown (way := way) h92 tl l fun d hd => h d (List.mem_cons_of_mem _ hd)
  rw [shown_cons, List.append_assoc]
  by_cases e : lwEsc way c = true
  ·rw [if_pos e]
   show lexS q (92 :: c :: (shown way l ++ tl)) = _
   rw [lexS_esc h92, ih]; rfl
  ·rw [if_neg e]
   show lexS q (c :: (shown way l ++ tl)) = _
   rw [lexS_one (h c List.mem_cons_self e) (esc_not e).1, ih]; rfl
theorem lexT_word {way : Nat} {c : Nat} {l : List Nat} (hc : c = 40 \/ c = 41) (hl : ∀ d ∈ l, isW d = false) (tl : List Nat) (ht : tl = [] \/ ∃ wh r, isW wh = true /\ tl = wh :: r) : ∃ r', lexT (core way (c :: l) ++ tl) = (c :: l, r') /\ lexT r' = lexT (tl.drop 1) := by
 have hskip : lexT tl = lexT (tl.drop 1) := by
  rcases ht with rfl | ⟨wh, r, hw, rfl⟩
  ·rfl
  ·rw [lexT_c, if_pos hw]; rfl
 unfold core
 by_cases hq : way % 4 > 1
 ·rw [if_pos hq]
  refine ⟨tl, ?_, hskip⟩
  show lexT (34 :: (shown way (c :: l) ++ [34] ++ tl)) = _
  rw [lexT_c, if_neg (by decide), if_pos (by decide), List.append_assoc, lexS_shown (by decide) _ _ fun d _ hd => by
   have := (esc_not hd).2 hq
   simpa [isQ] using this]
  show (c :: l ++ (lexS isQ (34 :: tl)).1, (lexS isQ (34 :: tl)).2) = _
  rw [lexS_stop (by decide)]; simp
 ·rw [if_neg hq]
  have htl : lexS isW tl = ([], tl.drop 1) := by
   rcases ht with rfl | ⟨wh, r, hw, rfl⟩
   ·rfl
   ·rw [lexS_stop hw]; rfl
  refine ⟨tl.drop 1, ?_, rfl⟩
  have hs := lexS_shown (way := way) (q := isW) (by decide) tl l fun d hd _ => hl d hd
  rw [htl, List.append_nil] at hs
  rw [shown_cons, List.append_assoc]
  by_cases e : lwEsc way c = true
  ·rw [if_pos e]
   show lexT (92 :: c :: (shown way l ++ tl)) = _
   rw [lexT_c, if_neg (by decide), if_neg (by decide)]
   show ([c] ++ (lexS isW (shown way l ++ tl)).1, (lexS isW (shown way l ++ tl)).2) = _
   rw [hs]; rfl
  ·rw [if_neg e]
   show lexT (c :: (shown way l ++ tl)) = _
   have e1 : ¬ isW c = true := by rcases hc with rfl | rfl <;> decide
   have e2 : ¬ isQ c = true := by rcases hc with rfl | rfl <;> decide
   rw [lexT_c, if_neg e1, if_neg e2]
   unfold escY escR
   rw [if_neg (esc_not e).1, if_neg (esc_not e).1, hs]; rfl
theorem way_lt (c5 : Int) (k : Nat) : lwWay c5 k < 16 := fmod_lt' (k := 16) (by decide)
theorem white_ok (c5 : Int) (k : Nat) : ∃ wh, isW wh = true /\ Txt.item (Str.ofString "\n\t\r ") ((lwWay c5 k / 4 : Nat) : Int) = strOf [wh] := by
 have := way_lt c5 k
 have h : lwWay c5 k / 4 = 0 \/ lwWay c5 k / 4 = 1 \/ lwWay c5 k / 4 = 2 \/ lwWay c5 k / 4 = 3 := by omega
 rcases h with h | h | h | h <;> rw [h]
 ·exact ⟨10, by decide, by decide⟩
 ·exact ⟨9, by decide, by decide⟩
 ·exact ⟨13, by decide, by decide⟩
 ·exact ⟨32, by decide, by decide⟩
theorem shown_eq (way : Nat) (x : Str) : lwShown way x = strOf (shown way (lst x)) := by
 unfold lwShown shown
 rw [join_flat, List.flatMap_map]
 show strOf (List.flatMap _ (lst x)) = _
 congr 2
 funext c
 unfold lwSign
 by_cases e : lwEsc way c = true
 ·rw [if_pos e, if_pos e]; rfl
 ·rw [if_neg e, if_neg e]; rfl
theorem word_eq (c5 : Int) (k : Nat) (x : Str) : ∃ wh, isW wh = true /\ lst (lwWord (lwWay c5 k) x) = core (lwWay c5 k) (lst x) ++ [wh] := by
 obtain ⟨wh, h1, h2⟩ := white_ok c5 k
 refine ⟨wh, h1, ?_⟩
 unfold lwWord core
 rw [h2, lst_app, lst_strOf, shown_eq]
 congr 1
 by_cases hq : lwWay c5 k % 4 > 1
 ·rw [if_pos hq, if_pos hq, lst_app, lst_app, lst_strOf, show lst (Str.ofString "\"") = [34] by decide]; rfl
 ·rw [if_neg hq, if_neg hq]; rfl
noncomputable def tx (c5 : Int) : Nat -> List Str -> List Nat
 | _, [] => []
 | k, x :: ws => lst (lwWord (lwWay c5 k) x) ++ tx c5 (k + 1) ws
theorem tx_n {c5 : Int} {k : Nat} : tx c5 k [] = [] := rfl
theorem tx_c {c5 : Int} {k : Nat} {x : Str} {ws : List Str} : tx c5 k (x :: ws) = lst (lwWord (lwWay c5 k) x) ++ tx c5 (k + 1) ws := rfl
theorem text_eq (c5 : Int) (ws : List Str) : lwText c5 ws = strOf (tx c5 0 ws) := by
 have : ∀ (ws : List Str) (k : Nat) (t : Str), (ws.zipIdx k).foldl (fun t y => t ++ lwWord (lwWay c5 y.2) y.1) t = strOf (lst t ++ tx c5 k ws) := fun ws => by
  induction ws with
  | nil => intro k t; exact congrArg strOf (List.append_nil _).symm
  | cons x ws ih =>
   intro k t
   rw [List.zipIdx_cons, List.foldl_cons, ih, lst_app, List.append_assoc]; rfl
 unfold lwText
 rw [this]
 show strOf (lst (Str.ofString "") ++ _) = _
 rw [show lst (Str.ofString "") = [] by decide]; rfl
theorem tx_app (c5 : Int) (b : List Str) : ∀ (a : List Str) (k : Nat), tx c5 k (a ++ b) = tx c5 k a ++ tx c5 (k + a.length) b
 | [], k => rfl
 | x :: a, k => by
  rw [List.cons_append, tx_c, tx_c, tx_app c5 b a (k + 1), List.append_assoc, List.length_cons, show k + 1 + a.length = k + (a.length + 1) by omega]
noncomputable def Rdb (x : Str) : Prop := ∃ c l, lst x = c :: l /\ (c = 40 \/ c = 41) /\ ∀ d ∈ l, isW d = false
theorem toks_ok {c5 : Int} (tl : List Nat) : ∀ (ws : List Str) (k : Nat) (c : List Nat), (∀ x ∈ ws, Rdb x) -> lexT c = lexT (tx c5 k ws ++ tl) -> ∃ c', Toks ws c c' /\ lexT c' = lexT tl
 | [], k, c, _, h => ⟨c, rfl, h⟩
 | x :: ws, k, c, hw, h => by
  obtain ⟨d, l, hx, hd, hl⟩ := hw x List.mem_cons_self
  obtain ⟨wh, h1, h2⟩ := word_eq c5 k x
  rw [tx_c, h2, List.append_assoc, List.append_assoc, hx] at h
  obtain ⟨r', e1, e2⟩ := lexT_word (way := lwWay c5 k) hd hl ([wh] ++ (tx c5 (k + 1) ws ++ tl)) (.inr ⟨wh, _, h1, rfl⟩)
  rw [e1] at h
  obtain ⟨c', t1, t2⟩ := toks_ok tl ws (k + 1) r' (fun y hy => hw y (List.mem_cons_of_mem _ hy)) e2
  refine ⟨c', ⟨?_, ?_⟩, t2⟩
  ·rw [h]; show strOf (d :: l) = x; rw [<- hx]; rfl
  ·rw [h]; exact t1
theorem toks_app {c' : List Nat} {b : List Str} : ∀ {a : List Str} {c : List Nat}, Toks (a ++ b) c c' -> ∃ m, Toks a c m /\ Toks b m c'
 | [], c, h => ⟨c, rfl, h⟩
 | x :: a, c, h => by
  obtain ⟨m, h1, h2⟩ := toks_app (a := a) h.2
  exact ⟨m, ⟨h.1, h1⟩, h2⟩
theorem read_ok {D : Rows} {d0 d1 d2 : List Str} (hD : D = [d0, d1, d2]) (hw : ∀ x ∈ d0 ++ d1 ++ d2, Rdb x) (hne : d0 ++ d1 ++ d2 ≠ []) (c5 : Int) : ∃ c, TokR D (lst (lwCut c5 (lwText c5 (lwAll D)))) c /\ lexT c = ([], []) := by
 subst hD
 have hall : lwAll [d0, d1, d2] = d0 ++ d1 ++ d2 := rfl
 have fin : ∀ T : List Nat, (∃ c', Toks (d0 ++ d1 ++ d2) T c' /\ lexT c' = ([], [])) -> ∃ c, TokR [d0, d1, d2] T c /\ lexT c = ([], []) := fun T h => by
  obtain ⟨c', t, e⟩ := h
  obtain ⟨m2, t01, t2⟩ := toks_app (c := T) t
  obtain ⟨m1, t0, t1⟩ := toks_app (c := T) t01
  exact ⟨c', ⟨m1, t0, m2, t1, c', t2, rfl⟩, e⟩
 have hnil : lexT [] = ([], []) := rfl
 refine fin _ ?_
 rw [hall, text_eq]
 generalize d0 ++ d1 ++ d2 = W at *
 unfold lwCut
 have h2 := Int.fmod_lt_of_pos c5 (b := 2) (by decide)
 have h3 := Int.fmod_nonneg_of_pos c5 (b := 2) (by decide)
 have hz : c5.fmod 2 = 0 \/ c5.fmod 2 = 1 := by omega
 rcases hz with hz | hz <;> rw [hz, strOf_len]
 ·rw [Int.sub_zero, slice_to (Nat.le_refl _), List.take_length, lst_strOf]
  obtain ⟨c', t, e⟩ := toks_ok (c5 := c5) [] W 0 (tx c5 0 W) hw (by rw [List.append_nil])
  exact ⟨c', t, by rw [e, hnil]⟩
 ·rcases List.eq_nil_or_concat W with rfl | ⟨W0, x, rfl⟩
  ·exact absurd rfl hne
  ·rw [List.concat_eq_append] at hw ⊢
   obtain ⟨wh, h4, h5⟩ := word_eq c5 (0 + W0.length) x
   have e : tx c5 0 (W0 ++ [x]) = tx c5 0 W0 ++ core (lwWay c5 (0 + W0.length)) (lst x) ++ [wh] := by
    rw [tx_app, tx_c, h5]; simp [tx_n]
   rw [e, List.length_append, List.length_singleton, show (((tx c5 0 W0 ++ core (lwWay c5 (0 + W0.length)) (lst x)).length + 1 : Nat) : Int) - 1 = ((tx c5 0 W0 ++ core (lwWay c5 (0 + W0.length)) (lst x)).length : Nat) by omega, slice_to (by simp only [List.length_append]; omega), List.take_left' rfl, lst_strOf]
   obtain ⟨c1, t, e1⟩ := toks_ok (c5 := c5) (core (lwWay c5 (0 + W0.length)) (lst x)) W0 0 _ (fun y hy => hw y (List.mem_append_left _ hy)) rfl
   obtain ⟨d, l, hx, hd, hl⟩ := hw x (List.mem_append_right _ (List.mem_singleton.mpr rfl))
   obtain ⟨r', e2, e3⟩ := lexT_word (way := lwWay c5 (0 + W0.length)) hd hl [] (.inl rfl)
   rw [List.append_nil] at e2
   rw [hx, e2] at e1
   have app : ∀ (a : List Str) (c m : List Nat), Toks a c m -> strOf (lexT m).1 = x -> Toks (a ++ [x]) c (lexT m).2 := fun a => by
    induction a with
    | nil => intro c m h1 h2; cases h1; exact ⟨h2, rfl⟩
    | cons y a ih => intro c m h1 h2; exact ⟨h1.1, ih _ _ h1.2 h2⟩
   refine ⟨(lexT c1).2, app W0 _ c1 t ?_, ?_⟩
   ·rw [e1]; show strOf (d :: l) = x; rw [<- hx]; rfl
   ·rw [e1]; show lexT r' = _; rw [e3]; exact hnil
theorem shown_len (way : Nat) : ∀ l : List Nat, (shown way l).length <= 2 * l.length
 | [] => Nat.le_refl _
 | c :: l => by
  have ih := shown_len way l
  rw [shown_cons, List.length_append, List.length_cons]
  split
  ·simp only [List.length_cons, List.length_nil]; omega
  ·simp only [List.length_cons, List.length_nil]; omega
theorem text_len {c5 : Int} {ws : List Str} (h : ∀ x ∈ ws, x.length <= 10) (h2 : ws.length <= 12) : (lwCut c5 (lwText c5 ws)).length <= 1000 := by
 have : ∀ (ws : List Str) (k : Nat), (∀ x ∈ ws, x.length <= 10) -> (tx c5 k ws).length <= 23 * ws.length := fun ws => by
  induction ws with
  | nil => intro k _; exact Nat.le_refl _
  | cons x ws ih =>
   intro k h
   obtain ⟨wh, _, e⟩ := word_eq c5 k x
   have h1 := ih (k + 1) fun y hy => h y (List.mem_cons_of_mem _ hy)
   have h3 := shown_len (lwWay c5 k) (lst x)
   have h4 : (lst x).length <= 10 := h x List.mem_cons_self
   rw [tx_c, e, List.length_append, List.length_append, List.length_cons, List.length_cons]
   unfold core
   split
   ·simp only [List.length_cons, List.length_append, List.length_nil]; omega
   ·simp only [List.length_nil]; omega
 refine Nat.le_trans (Txt.slice_le _ _ _) ?_
 rw [text_eq, strOf_len]
 have := this ws 0 h
 omega

end
section
section
variable {c0 c1 c2 e0 e1 e2 : Str} {b0 b1 b2 : List Nat} {q : PsT} {tr : Tr} {ps : Prs}
theorem PlaceOk.words (H : PlaceOk c0 c1 c2 e0 e1 e2 b0 b1 b2 q tr ps) (W : Wds c0 c1 c2 e0 e1 e2) : ∀ w ∈ c0 :: wsOf tr, Wd w := fun w hw => by
 rcases List.mem_cons.mp hw with rfl | hw
 ·exact .inl W.i0
 ·obtain ⟨y, hy, rfl⟩ := List.mem_map.mp hw
  exact H.wd y hy
theorem PlaceOk.strip (H : PlaceOk c0 c1 c2 e0 e1 e2 b0 b1 b2 q tr ps) (W : Wds c0 c1 c2 e0 e1 e2) : stripT (trT c0 tr) = strOf (flatS (c0 :: wsOf tr) ++ []) := by
 rw [trT_flat]
 have := strip_tail (r := []) (H.words W) (.inl rfl)
 rw [List.append_nil] at this; exact this
theorem PlaceOk.told (H : PlaceOk c0 c1 c2 e0 e1 e2 b0 b1 b2 q tr ps) (W : Wds c0 c1 c2 e0 e1 e2) : toldT (trT c0 tr) = (Str.ofString "", tl1 c0) :: callsOf tr := by
 obtain ⟨i', e⟩ := told_run W.i0 H.nst H.wd 0 []
 unfold toldT
 rw [H.strip W]
 show (List.foldl toldStep ([], [Str.ofString ""]) (iterE 0 false (flatS (c0 :: wsOf tr) ++ []))).1 = _
 rw [e]; rfl
theorem PlaceOk.ok (H : PlaceOk c0 c1 c2 e0 e1 e2 b0 b1 b2 q tr ps) (W : Wds c0 c1 c2 e0 e1 e2) : okTold (iterE 0 false (stripT (trT c0 tr)).cps.toList) 1 := by
 rw [H.strip W]
 exact ok_run W.i0 H.nst H.wd 0 [] fun i' => trivial
theorem PlaceOk.check (H : PlaceOk c0 c1 c2 e0 e1 e2 b0 b1 b2 q tr ps) (W : Wds c0 c1 c2 e0 e1 e2) {r : List Nat} (hr : r = [] \/ r = [92] \/ r = [34, 40]) : ∃ i', checkT (strOf (flat (c0 :: wsOf tr) ++ r)) = match stepM parStep (iterE i' false r) 0 with | some k => k == 0 | none => false := by
 obtain ⟨i', e⟩ := par_run W.i0 H.nst H.wd 0 r
 refine ⟨i', ?_⟩
 unfold checkT
 rw [strip_tail (H.words W) hr]
 show (match stepM parStep (iterE 0 false (flatS (c0 :: wsOf tr) ++ r)) 0 with | some k => k == 0 | none => false) = _
 rw [e]; rfl
theorem PlaceOk.checks (H : PlaceOk c0 c1 c2 e0 e1 e2 b0 b1 b2 q tr ps) (W : Wds c0 c1 c2 e0 e1 e2) : checkT (trT c0 tr) = true /\ checkT (trT c0 tr ++ Str.ofString "\\") = true /\ checkT (trT c0 tr ++ Str.ofString "\"(") = false := by
 have hp : Str.ofString ")" = strOf [41] := by decide
 have ho : Str.ofString "(" = strOf [40] := by decide
 have app : ∀ r, trT c0 tr ++ strOf r = strOf (flat (c0 :: wsOf tr) ++ r) := fun r => by rw [trT_flat, strOf_app]
 refine ⟨?_, ?_, ?_⟩
 ·obtain ⟨i', e⟩ := H.check W (r := []) (.inl rfl)
  rw [List.append_nil, <- trT_flat] at e
  rw [e]; rfl
 ·obtain ⟨i', e⟩ := H.check W (r := [92]) (.inr (.inl rfl))
  rw [show Str.ofString "\\" = strOf [92] by decide, app, e]
  have : iterE i' false [92] = [(((i' + 1 : Nat) : Int) - 1, [92])] := rfl
  rw [this, stepM_c]
  unfold parStep
  rw [hp, ho, if_neg (strOf_ne (show [92] ≠ [40] by decide)), if_neg (strOf_ne (show [92] ≠ [41] by decide))]; rfl
 ·obtain ⟨i', e⟩ := H.check W (r := [34, 40]) (.inr (.inr rfl))
  rw [show Str.ofString "\"(" = strOf [34, 40] by decide, app, e, iter_1 _ _ _ (by decide), iter_1 _ _ _ (by decide), stepM_c]
  have h1 : parStep 0 ((i' : Int), [34]) = some 0 := by
   unfold parStep
   rw [hp, ho, if_neg (strOf_ne (show [34] ≠ [40] by decide)), if_neg (strOf_ne (show [34] ≠ [41] by decide))]
  have h2 : parStep 0 (((i' + 1 : Nat) : Int), [40]) = some (0 + 1) := by
   unfold parStep
   rw [ho, if_pos rfl]
  rw [h1]
  simp only
  rw [stepM_c, h2]; rfl
theorem flat_app (a b : List Str) : flat (a ++ b) = flat a ++ flat b := List.flatMap_append
theorem PlaceOk.odd (H : PlaceOk c0 c1 c2 e0 e1 e2 b0 b1 b2 q tr ps) (W : Wds c0 c1 c2 e0 e1 e2) {cs : List Int} (he : lwEnd (cs.getD 4 0) 0 = e0) : checkT (lwOdd cs (trT c0 tr)) = false := by
 have h3 : ((cs.getD 6 0).fmod 3).toNat < 3 := fmod_lt' (k := 3) (by decide)
 unfold lwOdd
 generalize ((cs.getD 6 0).fmod 3).toNat = z at h3
 match z, h3 with
 | 0, _ =>
  show checkT (Txt.slice (trT c0 tr) none (some (-((lwEnd (cs.getD 4 0) 0).length : Int)))) = false
  obtain ⟨tr', x, rfl, hn⟩ := H.fin
  have hw : ∀ y ∈ tr', Wd y.2 := fun y hy => H.wd y (List.mem_append_left _ hy)
  have e : flat (c0 :: wsOf (tr' ++ [(c0, e0)])) = flat (c0 :: wsOf tr') ++ lst e0 := by
   unfold wsOf
   rw [List.map_append, <- List.cons_append, flat_app]
   simp [flat]
  rw [trT_flat, e, he, show ((e0.length : Nat) : Int) = ((lst e0).length : Nat) from rfl, slice_neg (by have := W.j0.len.1; exact this) (by rw [List.length_append]; omega), List.length_append, Nat.add_sub_cancel, List.take_left' rfl]
  obtain ⟨i', e2⟩ := par_run W.i0 hn hw 0 []
  have hs := strip_tail (ws := c0 :: wsOf tr') (r := []) (fun w hw' => by
   rcases List.mem_cons.mp hw' with rfl | hw'
   ·exact .inl W.i0
   ·obtain ⟨y, hy, rfl⟩ := List.mem_map.mp hw'
    exact hw y hy) (.inl rfl)
  unfold checkT
  rw [List.append_nil] at hs
  rw [hs]
  show (match stepM parStep (iterE 0 false (flatS (c0 :: wsOf tr') ++ [])) 0 with | some k => k == 0 | none => false) = _
  rw [e2]; rfl
 | 1, _ =>
  show checkT (Txt.slice (trT c0 tr) (some 3) none ++ Txt.slice (trT c0 tr) none (some 3)) = false
  have l3 : (lst c0).length = 3 := W.i0.len
  have e : flat (c0 :: wsOf tr) = lst c0 ++ flat (wsOf tr) := List.flatMap_cons
  have s1 := slice_from (l := lst c0 ++ flat (wsOf tr)) (i := 3) (by rw [List.length_append]; omega)
  have s2 := slice_to (l := lst c0 ++ flat (wsOf tr)) (j := 3) (by rw [List.length_append]; omega)
  rw [List.drop_left' l3] at s1
  rw [List.take_left' l3] at s2
  rw [trT_flat, e]
  show checkT (Txt.slice (strOf (lst c0 ++ flat (wsOf tr))) (some ((3 : Nat) : Int)) none ++ Txt.slice (strOf (lst c0 ++ flat (wsOf tr))) none (some ((3 : Nat) : Int))) = false
  rw [s1, s2, strOf_app]
  have hs := strip_tail (ws := wsOf tr ++ [c0]) (r := []) (fun w hw => by
   rcases List.mem_append.mp hw with hw | hw
   ·exact H.words W w (List.mem_cons_of_mem _ hw)
   ·rw [List.mem_singleton.mp hw]; exact .inl W.i0) (.inl rfl)
  have e2 : flat (wsOf tr) ++ lst c0 = flat (wsOf tr ++ [c0]) ++ [] := by rw [flat_app]; simp [flat]
  have e3 : flatS (wsOf tr ++ [c0]) ++ [] = flatS (wsOf tr) ++ sg c0 := by unfold flatS; rw [List.flatMap_append]; simp
  obtain ⟨i', e4⟩ := par_off H.nst H.wd 0 (sg c0)
  unfold checkT
  rw [e2, hs, e3]
  show (match stepM parStep (iterE 0 false (flatS (wsOf tr) ++ sg c0)) 0 with | some k => k == 0 | none => false) = _
  rw [e4]; rfl
 | 2, _ => exact (H.checks W).2.2
theorem price_has {x : Str} : ∀ (l : List (Str × Int)) (c : Cs), (x ∈ keysOf c \/ ∃ y ∈ l, tl1 y.1 = x) -> x ∈ keysOf (l.foldl (fun c y => aPut c (tl1 y.1) (y.2.fmod 2001 - 1000)) c)
 | [], c, h => h.elim id fun ⟨_, h, _⟩ => nomatch h
 | y :: l, c, h => by
  rw [List.foldl_cons]
  refine price_has l _ ?_
  rcases h with h | ⟨z, hz, e⟩
  ·refine .inl (aGet_some.mp ?_)
   rw [aGet_put]
   split
   ·rfl
   ·exact aGet_some.mpr h
  ·rcases List.mem_cons.mp hz with rfl | hz
   ·exact .inl (aGet_some.mp (by rw [aGet_put, if_pos e]; rfl))
   ·exact .inr ⟨z, hz, e⟩
theorem price_le {x : Str} {i : Int} : ∀ (l : List (Str × Int)) (c : Cs), (∀ i, aGet c x = some i -> i.natAbs <= 1000) -> aGet (l.foldl (fun c y => aPut c (tl1 y.1) (y.2.fmod 2001 - 1000)) c) x = some i -> i.natAbs <= 1000
 | [], c, h, e => h i e
 | y :: l, c, h, e => by
  rw [List.foldl_cons] at e
  refine price_le l _ (fun i hi => ?_) e
  rw [aGet_put] at hi
  split at hi
  ·cases hi
   have := Int.fmod_lt_of_pos y.2 (b := 2001) (by decide)
   have := Int.fmod_nonneg_of_pos y.2 (b := 2001) (by decide)
   omega
  ·exact h i hi
theorem prices_ok {c4 : Int} {cs : List Int} (h7 : cs.length = 7) : (∀ x ∈ [Str.ofString "", tl1 (lwCall c4 0), tl1 (lwCall c4 1), tl1 (lwCall c4 2)], ∃ i, aGet (lwPrices (lwCalls c4) cs) x = some i) /\ ∀ x, Builtin.Int.intBits (priceOf (lwPrices (lwCalls c4) cs) x) <= 64 := by
 constructor
 ·intro x hx
  refine Option.isSome_iff_exists.mp (aGet_some.mpr (price_has _ _ (.inr ?_)))
  match cs, h7 with
  | k0 :: k1 :: k2 :: k3 :: r, _ =>
   have e : (Str.ofString "" :: lwCalls c4).zip (k0 :: k1 :: k2 :: k3 :: r) = [(Str.ofString "", k0), (lwCall c4 0, k1), (lwCall c4 1, k2), (lwCall c4 2, k3)] := rfl
   rw [e]
   simp only [List.mem_cons, List.not_mem_nil, or_false] at hx
   rcases hx with rfl | rfl | rfl | rfl
   ·exact ⟨(Str.ofString "", k0), by simp, (by decide : tl1 (Str.ofString "") = Str.ofString "")⟩
   ·exact ⟨(lwCall c4 0, k1), by simp, rfl⟩
   ·exact ⟨(lwCall c4 1, k2), by simp, rfl⟩
   ·exact ⟨(lwCall c4 2, k3), by simp, rfl⟩
 ·intro x
  refine small_bits ?_
  unfold priceOf
  cases h : aGet (lwPrices (lwCalls c4) cs) x with
  | none => decide
  | some i =>
   have := price_le _ [] (fun i hi => nomatch hi) h
   show i.natAbs < 2 ^ 60
   omega
theorem finv_of {pr : Cs} {names : List Str} (h1 : ∀ x ∈ names, ∃ i, aGet pr x = some i) (h2 : ∀ x, Builtin.Int.intBits (priceOf pr x) <= 64) {l : Prs} (hl : l.length <= 200) (h : ∀ p ∈ l, p.1 ∈ names /\ p.2 ∈ names) : FInv pr [] l := by
 unfold FInv
 refine ⟨by simpa using hl, fun x e he => (by cases he), fun p hp => ⟨?_, h1 _ (h p hp).2⟩⟩
 obtain ⟨i, hi⟩ := h1 _ (h p hp).1
 exact ⟨i, hi, .of_right (h2 _)⟩
end

end
section
theorem rowsOf_nat (i : Nat) {c0 c1 c2 : Str} {d0 d1 d2 : List Str} : rowsOf (i : Int) [(c0, d0), (c1, d1), (c2, d2)] = [(c0, rotL (i % mxN d0.length) d0), (c1, rotL (i / mxN d0.length % mxN d1.length) d1), (c2, rotL (i / mxN d0.length / mxN d1.length % mxN d2.length) d2)] := by
 have fm : ∀ i k : Nat, ((i : Int).fmod (mx1 k)).toNat = i % mxN k := fun i k => by
  rw [mx1_nat, Int.fmod_eq_emod_of_nonneg _ (by omega), <- Int.natCast_emod, Int.toNat_natCast]
 have fd : ∀ i k : Nat, (i : Int).fdiv (mx1 k) = ((i / mxN k : Nat) : Int) := fun i k => by
  rw [mx1_nat, Int.fdiv_eq_ediv_of_nonneg _ (by omega), <- Int.natCast_ediv]
 rw [rowsOf_c, rowsOf_c, rowsOf_c, rowsOf_n, fd, fd, fm, fm, fm]
theorem rotL_map (f : Nat -> Str) (t : Nat) (a : List Nat) : rotL t (a.map f) = (rotN t a).map f := by
 unfold rotL rotN; rw [List.map_append, List.map_drop, List.map_take]
section
variable {c0 c1 c2 e0 e1 e2 : Str} {a0 a1 a2 b0 b1 b2 : List Nat} {N : Nat} {P ps : Prs} {pr : Cs}
theorem triW_perm (h0 : b0.Perm a0) (h1 : b1.Perm a1) (h2 : b2.Perm a2) : (triW c0 c1 c2 e0 e1 e2 b0 b1 b2).Perm (triW c0 c1 c2 e0 e1 e2 a0 a1 a2) := (h0.map _).append ((h1.map _).append (h2.map _))
noncomputable abbrev D3 (c0 c1 c2 e0 e1 e2 : Str) (a0 a1 a2 : List Nat) : Rows := [a0.map (wd c0 c1 c2 e0), a1.map (wd c0 c1 c2 e1), a2.map (wd c0 c1 c2 e2)]
theorem lwLen_eq : lwLen [c0, c1, c2] (D3 c0 c1 c2 e0 e1 e2 a0 a1 a2) = c0.length + wsum (triW c0 c1 c2 e0 e1 e2 a0 a1 a2) := by
 unfold lwLen
 rw [join_flat, strOf_len, List.length_flatMap]
 show (List.map (fun a => (lst a).length) ([c0] ++ a0.map (wd c0 c1 c2 e0) ++ a1.map (wd c0 c1 c2 e1) ++ a2.map (wd c0 c1 c2 e2))).sum = _
 unfold wsum triW
 simp only [List.map_append, List.map_map, List.sum_append, List.map_cons, List.map_nil, List.sum_cons, List.sum_nil]
 have e : ∀ (c e : Str) (a : List Nat), (a.map ((fun y : Str × Str => y.2.length) ∘ fun x => (c, wd c0 c1 c2 e x))).sum = (a.map ((fun a => (lst a).length) ∘ wd c0 c1 c2 e)).sum := fun c e a => rfl
 rw [e, e, e, lst_len]; omega
theorem tab_bound (hl : P.length <= 20) : ∀ k, (∀ z, 0 <= (aGet (([c0, c1, c2].map (lwTab (fileB pr P))).getD k []) z).getD 0 /\ (aGet (([c0, c1, c2].map (lwTab (fileB pr P))).getD k []) z).getD 0 <= 20) /\ 0 <= csSum (([c0, c1, c2].map (lwTab (fileB pr P))).getD k []) /\ csSum (([c0, c1, c2].map (lwTab (fileB pr P))).getD k []) <= 20 := by
 have key : ∀ c : Str, (∀ z, 0 <= (aGet (lwTab (fileB pr P) c) z).getD 0 /\ (aGet (lwTab (fileB pr P) c) z).getD 0 <= 20) /\ 0 <= csSum (lwTab (fileB pr P) c) /\ csSum (lwTab (fileB pr P) c) <= 20 := fun c => by
  have E := (fileB_ok pr P).ent (tl1 c)
  have hM : (lwMine P (tl1 c)).length <= 20 := by rw [mine_lenP]; exact Nat.le_trans List.countP_le_length hl
  unfold lwTab
  refine ⟨fun z => ?_, ?_⟩
  ·rw [E.cs]
   have : (lwMine P (tl1 c)).count z <= 20 := Nat.le_trans List.count_le_length hM
   split
   ·exact ⟨Int.le_refl _, by decide⟩
   ·exact ⟨Int.natCast_nonneg _, by show ((_ : Nat) : Int) <= 20; omega⟩
  ·rw [csSum_of (M := lwMine P (tl1 c)) (fun _ => 1) E.nd (fun x => by rw [E.cs, Int.one_mul])]
   have : ∀ M : List Str, (M.map fun _ => (1 : Int)).sum = (M.length : Nat) := fun M => by
    induction M with
    | nil => rfl
    | cons _ M ih => rw [List.map_cons, List.sum_cons, ih, List.length_cons]; omega
   rw [this]; omega
 intro k
 match k with
 | 0 => exact key c0
 | 1 => exact key c1
 | 2 => exact key c2
 | k + 3 => exact ⟨fun z => ⟨Int.le_refl _, (by decide : (0 : Int) <= 20)⟩, Int.le_refl _, (by decide : (0 : Int) <= 20)⟩
theorem nat20 {z : Int} (h : 0 <= z /\ z <= 20) : z.natAbs <= 20 := by omega
theorem small_ok (D : Rows) (hl : P.length <= 20) (j i : Nat) : ∀ x ∈ lwRow D ([c0, c1, c2].map (lwTab (fileB pr P))) [c0, c1, c2] j i, x.natAbs < 2 ^ 60 := by
 intro x hx
 unfold lwRow at hx
 obtain ⟨c, hc, rfl⟩ := List.mem_map.mp hx
 have b1 := (tab_bound (c0 := c0) (c1 := c1) (c2 := c2) (pr := pr) hl c).1 (tl1 ([c0, c1, c2].getD i (Str.ofString "")))
 have b2 := (tab_bound (c0 := c0) (c1 := c1) (c2 := c2) (pr := pr) hl i).2
 have hs : (lwSq ([c0, c1, c2].map (lwTab (fileB pr P))) [c0, c1, c2] i c).natAbs <= 20 := by
  unfold lwSq
  rw [Int.natAbs_neg]
  exact nat20 b1
 have hd : (lwDiag D ([c0, c1, c2].map (lwTab (fileB pr P))) i).natAbs <= 20 := by
  unfold lwDiag
  split
  ·decide
  ·exact nat20 b2
 split
 ·exact Nat.lt_of_le_of_lt (Nat.le_trans (Int.natAbs_add_le _ _) (Nat.add_le_add hs hd)) (by decide)
 ·exact Nat.lt_of_le_of_lt hs (by decide)
theorem PlaceOk.tells {q : PsT} {tr : Tr} {ps' : Prs} (H : PlaceOk c0 c1 c2 e0 e1 e2 b0 b1 b2 q tr ps') (W : Wds c0 c1 c2 e0 e1 e2) (hn : ∀ x ∈ [Str.ofString "", tl1 c0, tl1 c1, tl1 c2], ∃ i, aGet pr x = some i) (hs : ∀ x, Builtin.Int.intBits (priceOf pr x) <= 64) : FInv pr [] (toldT (trT c0 tr)) /\ FInv pr [] ((Str.ofString "", tl1 c0) :: ps') := by
 have key : ∀ l : Prs, l.Perm (callsOf tr) -> FInv pr [] ((Str.ofString "", tl1 c0) :: l) := fun l hl => by
  refine finv_of hn hs (by have := H.few; rw [List.length_cons, hl.length_eq]; omega) fun p hp => ?_
  rcases List.mem_cons.mp hp with rfl | hp
  ·exact ⟨by simp, by simp⟩
  ·have := H.key p (hl.mem_iff.mp hp)
   exact ⟨List.mem_cons_of_mem _ this.1, List.mem_cons_of_mem _ this.2⟩
 rw [H.told W]
 exact ⟨key _ (.refl _), key _ H.prs⟩
theorem runs_ok (W : Wds c0 c1 c2 e0 e1 e2) (B : Bal N a0 a1 a2) (hN : N = 3 \/ N = 4) (hP : P = (Str.ofString "", tl1 c0) :: ps) (hp : ps.Perm (callsOf (triW c0 c1 c2 e0 e1 e2 a0 a1 a2))) (hn : ∀ x ∈ [Str.ofString "", tl1 c0, tl1 c1, tl1 c2], ∃ i, aGet pr x = some i) (hs : ∀ x, Builtin.Int.intBits (priceOf pr x) <= 64)
  {cs : List Int} (he : lwEnd (cs.getD 4 0) 0 = e0) (pl : Nat) {D : Rows} (hD : D = (D3 c0 c1 c2 e0 e1 e2 a0 a1 a2)) :
  ∃ R : Nat -> Str, (∀ i, i < lwCount D -> (∃ k q, nestR k (rowsOf (i : Int) ([c0, c1, c2].zip D)) [c0] c0 = some (q, R i)) /\ (R i).length <= 900) /\
  ((lwWhole (lwCount D) R (lwLen [c0, c1, c2] D)).length : Int) = lwDue D ([c0, c1, c2].map (lwTab (fileB pr P))) [c0, c1, c2] /\
  (∀ one ∈ lwWhole (lwCount D) R (lwLen [c0, c1, c2] D), Tells pr P one) /\
  ∃ k1 k2 q1 q2 run served, nestR k1 (rowsOf (pl : Int) ([c0, c1, c2].zip D)) [c0] c0 = some (q1, run) /\ lineR k2 (rowsOf (pl : Int) ([c0, c1, c2].zip D)) [] c0 [(Str.ofString "", tl1 c0)] = some (q2, served) /\ run.length <= 900 /\
   (∀ y ∈ [c0, c1, c2].zip D, ∃ ps, aGet q1 y.1 = some ps /\ ps.length = y.2.length /\ ps.length <= 1000) /\ (∀ y ∈ [c0, c1, c2].zip D, ∃ ps, aGet q2 y.1 = some ps /\ ps.length = y.2.length /\ ps.length <= 1000) /\
   lwPop q1 ([c0, c1, c2].zip D) = lwPop q2 ([c0, c1, c2].zip D) /\
   preT (lwHanded cs (lwWhole (lwCount D) R (lwLen [c0, c1, c2] D)) run) = [lwBlank] ++ lwWhole (lwCount D) R (lwLen [c0, c1, c2] D) ++ [lwBlank, run ++ Str.ofString "\\"] /\
   checkT run = true /\ checkT (lwOdd cs run) = false /\ okTold (iterE 0 false (stripT run).cps.toList) 1 /\ FInv pr [] (toldT run) /\ FInv pr [] served /\ DSame 4 (.dict (aD entD (fileB pr (toldT run)))) (.dict (aD entD (fileB pr served))) := by
 subst hD
 have rows : ∀ i : Nat, rowsOf (i : Int) ([c0, c1, c2].zip (D3 c0 c1 c2 e0 e1 e2 a0 a1 a2)) = [(c0, (pl0 a0 i).map (wd c0 c1 c2 e0)), (c1, (pl1 a0 a1 i).map (wd c0 c1 c2 e1)), (c2, (pl2 a0 a1 a2 i).map (wd c0 c1 c2 e2))] := fun i => by
  show rowsOf (i : Int) [(c0, _), (c1, _), (c2, _)] = _
  rw [rowsOf_nat, rotL_map, rotL_map, rotL_map, List.length_map, List.length_map, List.length_map]; rfl
 have ex : ∀ i : Nat, ∃ z : PsT × Tr × Prs, PlaceOk c0 c1 c2 e0 e1 e2 (pl0 a0 i) (pl1 a0 a1 i) (pl2 a0 a1 a2 i) z.1 z.2.1 z.2.2 := fun i => by
  obtain ⟨q, tr, ps', h⟩ := place_ok W (B.perm (b0 := pl0 a0 i) (b1 := pl1 a0 a1 i) (b2 := pl2 a0 a1 a2 i) (rotN_perm ..) (rotN_perm ..) (rotN_perm ..)) (by omega)
  exact ⟨(q, tr, ps'), h⟩
 obtain ⟨Z, hZ⟩ := Classical.axiomOfChoice ex
 have perm : ∀ i : Nat, (triW c0 c1 c2 e0 e1 e2 (pl0 a0 i) (pl1 a0 a1 i) (pl2 a0 a1 a2 i)).Perm (triW c0 c1 c2 e0 e1 e2 a0 a1 a2) := fun i => triW_perm (rotN_perm ..) (rotN_perm ..) (rotN_perm ..)
 have whole : ∀ i : Nat, (trT c0 (Z i).2.1).length = lwLen [c0, c1, c2] (D3 c0 c1 c2 e0 e1 e2 a0 a1 a2) ↔ sim 20 1 0 0 (pl0 a0 i) (pl1 a0 a1 i) (pl2 a0 a1 a2 i) = true := fun i => by
  rw [lwLen_eq, <- wsum_perm (perm i)]; exact (hZ i).whole
 have n0 : a0 ≠ [] := by
  have k0 := B.k0
  rintro rfl; simp at k0
 have hmem : ∀ one ∈ lwWhole (lwCount (D3 c0 c1 c2 e0 e1 e2 a0 a1 a2)) (fun i => trT c0 (Z i).2.1) (lwLen [c0, c1, c2] (D3 c0 c1 c2 e0 e1 e2 a0 a1 a2)), ∃ i, one = trT c0 (Z i).2.1 /\ one.length = lwLen [c0, c1, c2] (D3 c0 c1 c2 e0 e1 e2 a0 a1 a2) := fun one h => by
  obtain ⟨h1, h2⟩ := List.mem_filter.mp h
  obtain ⟨i, _, rfl⟩ := List.mem_map.mp h1
  have := beq_iff_eq.mp h2
  exact ⟨i, rfl, by omega⟩
 refine ⟨fun i => trT c0 (Z i).2.1, fun i _ => ⟨?_, Nat.le_trans (hZ i).len (by decide)⟩, ?_, fun one h => ?_, ?_⟩
 ·obtain ⟨k, hk⟩ := (hZ i).nest
  exact ⟨k, _, by rw [rows]; exact hk⟩
 ·have hc := place_cnt B.lt n0
  rw [due_ok W B hP hp pr (det_all hN B), <- hc]
  unfold lwWhole
  rw [<- List.countP_eq_length_filter, List.countP_map]
  congr 1
  have e : lwCount (D3 c0 c1 c2 e0 e1 e2 a0 a1 a2) = a0.length * mxN a1.length * mxN a2.length := by
   show (a0.map _).length * mxN (a1.map _).length * mxN (a2.map _).length = _
   rw [List.length_map, List.length_map, List.length_map]
  rw [e]
  refine List.countP_congr fun i _ => ?_
  rw [<- whole i]
  show (((trT c0 (Z i).2.1).length : Int) == _) = true ↔ _
  rw [beq_iff_eq]; omega
 ·obtain ⟨i, rfl, hl⟩ := hmem one h
  have hsim := (whole i).mp hl
  refine ⟨(hZ i).ok W, ((hZ i).tells W hn hs).1, ?_⟩
  rw [(hZ i).told W, hP]
  exact book_perm (((((hZ i).all hsim).trans (callsOf_perm (perm i))).trans hp.symm).cons _)
 ·have H := hZ pl
  obtain ⟨k1, h1⟩ := H.nest
  obtain ⟨k2, h2⟩ := H.line
  have pop : ∀ y ∈ [c0, c1, c2].zip (D3 c0 c1 c2 e0 e1 e2 a0 a1 a2), ∃ ps, aGet (Z pl).1 y.1 = some ps /\ ps.length = y.2.length /\ ps.length <= 1000 := fun y hy => by
   have hl := B.len
   simp only [List.length_append] at hl
   obtain ⟨⟨l0, g0, m0⟩, ⟨l1, g1, m1⟩, ⟨l2, g2, m2⟩⟩ := H.pop
   unfold pl0 at m0; unfold pl1 at m1; unfold pl2 at m2
   rw [(rotN_perm _ _).length_eq] at m0 m1 m2
   rcases List.mem_cons.mp hy with rfl | hy
   ·exact ⟨l0, g0, by rw [List.length_map]; exact m0, by omega⟩
   ·rcases List.mem_cons.mp hy with rfl | hy
    ·exact ⟨l1, g1, by rw [List.length_map]; exact m1, by omega⟩
    ·rw [List.mem_singleton.mp hy]
     exact ⟨l2, g2, by rw [List.length_map]; exact m2, by omega⟩
  have hodd := H.odd W he
  obtain ⟨ch1, ch2, _⟩ := H.checks W
  refine ⟨k1, k2, _, _, _, _, by rw [rows]; exact h1, by rw [rows]; exact h2, Nat.le_trans H.len (by decide), pop, pop, rfl, ?_, ch1, hodd, H.ok W, (H.tells W hn hs).1, (H.tells W hn hs).2, ?_⟩
  ·unfold lwHanded preT
   have hb : lwBlank = Str.ofString "('', '')" := rfl
   have hw : ∀ l : List Str, (∀ one ∈ l, checkT one = true) -> (l.map fun x => if checkT x = true then x else Str.ofString "('', '')") = l := fun l => by
    induction l with
    | nil => intro _; rfl
    | cons x l ih => intro h; rw [List.map_cons, if_pos (h x List.mem_cons_self), ih fun y hy => h y (List.mem_cons_of_mem _ hy)]
   rw [List.map_append, List.map_append, hw (lwWhole _ _ _)]
   ·simp only [List.map_cons, List.map_nil]
    rw [hodd, ch2, hb]; rfl
   ·intro one h
    obtain ⟨i, rfl, _⟩ := hmem one h
    exact ((hZ i).checks W).1
  ·rw [H.told W]
   exact book_perm (H.prs.symm.cons _)
end
theorem rdb_of {x : Str} (h : Wd x) : Rdb x := by
 rcases h with h | h
 ·cases h with
  | mk m hm => exact ⟨40, [92, m], rfl, .inl rfl, by rcases hm with rfl | rfl | rfl | rfl <;> decide⟩
 ·cases h with
  | e0 => exact ⟨41, [], rfl, .inr rfl, by decide⟩
  | e1 => exact ⟨41, [34, 40, 34], rfl, .inr rfl, by decide⟩
  | e2 => exact ⟨41, [34, 40, 34, 34, 41, 34], rfl, .inr rfl, by decide⟩
  | e3 => exact ⟨41, [34, 92, 34, 41, 34], rfl, .inr rfl, by decide⟩
theorem law_ok (is : List Int) : LawOk is := by
 have h7 := lwCells_len is
 obtain ⟨N, a0, a1, a2, hN, H⟩ := Dd.deeds is.length (lwCells is) h7
 obtain ⟨hn, hs⟩ := prices_ok (c4 := (lwCells is).getD 4 0) h7
 have nd := calls_nodup ((lwCells is).getD 4 0)
 generalize hc : (lwCells is).getD 4 0 = c4 at *
 have nd' := nd
 rw [calls_eq] at nd'
 simp only [List.nodup_cons, List.mem_cons, List.not_mem_nil, or_false, not_or, not_false_iff, and_true, List.nodup_nil] at nd'
 have W : Wds (lwCall c4 0) (lwCall c4 1) (lwCall c4 2) (lwEnd c4 0) (lwEnd c4 1) (lwEnd c4 2) := ⟨lwCall_is .., lwCall_is .., lwCall_is .., lwEnd_is .., lwEnd_is .., lwEnd_is .., nd'.1.1, nd'.1.2, nd'.2⟩
 obtain ⟨ps, hP, hp⟩ := H.prs
 have B := H.bal
 have hD : lwD is = _ := H.D
 obtain ⟨l0, l1, l2⟩ := B.lt0
 have hlen := B.len
 simp only [List.length_append] at hlen
 have hwd : ∀ x ∈ lwAll (lwD is), Wd x := by
  rw [hD]
  intro x hx
  have key : ∀ {a : List Nat} {e : Str}, IsE e -> (∀ x ∈ a, x < 4) -> x ∈ a.map (wd (lwCall c4 0) (lwCall c4 1) (lwCall c4 2) e) -> Wd x := fun he ha hx => by
   obtain ⟨y, hy, rfl⟩ := List.mem_map.mp hx
   exact (W.wd he (ha y hy)).1
  rcases List.mem_append.mp hx with hx | hx
  ·rcases List.mem_append.mp hx with hx | hx
   ·exact key W.j0 l0 hx
   ·exact key W.j1 l1 hx
  ·exact key W.j2 l2 hx
 have hall : (lwAll (lwD is)).length <= 9 := by
  rw [hD]
  show (List.map _ a0 ++ List.map _ a1 ++ List.map _ a2).length <= 9
  simp only [List.length_append, List.length_map]; omega
 have n0 : a0 ≠ [] := by
  have k0 := B.k0
  rintro rfl; simp at k0
 have hPl : (lwP is).length <= 20 := by
  have h1 : (callsOf (triW (lwCall c4 0) (lwCall c4 1) (lwCall c4 2) (lwEnd c4 0) (lwEnd c4 1) (lwEnd c4 2) a0 a1 a2)).length <= 9 := by
   unfold callsOf triW
   rw [List.length_map]
   refine Nat.le_trans (List.length_filter_le _ _) ?_
   simp only [List.length_append, List.length_map]; omega
  have h2 : lwP is = _ := hP
  rw [h2, List.length_cons, hp.length_eq]; omega
 have hnames : ∀ p ∈ lwP is, p.1 ∈ [Str.ofString "", tl1 (lwCall c4 0), tl1 (lwCall c4 1), tl1 (lwCall c4 2)] /\ p.2 ∈ [Str.ofString "", tl1 (lwCall c4 0), tl1 (lwCall c4 1), tl1 (lwCall c4 2)] := by
  have h2 : lwP is = _ := hP
  rw [h2]
  intro p hpm
  rcases List.mem_cons.mp hpm with rfl | hpm
  ·exact ⟨by simp, by simp⟩
  ·obtain ⟨y, hy, rfl⟩ := List.mem_map.mp (hp.mem_iff.mp hpm)
   obtain ⟨hy, ho⟩ := List.mem_filter.mp hy
   have tl : ∀ x ∈ [lwCall c4 0, lwCall c4 1, lwCall c4 2], tl1 x ∈ [Str.ofString "", tl1 (lwCall c4 0), tl1 (lwCall c4 1), tl1 (lwCall c4 2)] := fun x hx => List.mem_cons_of_mem _ (List.mem_map.mpr ⟨x, hx, rfl⟩)
   have key : ∀ {a : List Nat} {c e : Str}, c ∈ [lwCall c4 0, lwCall c4 1, lwCall c4 2] -> IsE e -> (∀ x ∈ a, x < 4) -> y ∈ a.map (fun x => (c, wd (lwCall c4 0) (lwCall c4 1) (lwCall c4 2) e x)) -> tl1 y.1 ∈ [Str.ofString "", tl1 (lwCall c4 0), tl1 (lwCall c4 1), tl1 (lwCall c4 2)] /\ tl1 y.2 ∈ [Str.ofString "", tl1 (lwCall c4 0), tl1 (lwCall c4 1), tl1 (lwCall c4 2)] := fun hc he ha hy => by
    obtain ⟨z, hz, rfl⟩ := List.mem_map.mp hy
    exact ⟨tl _ hc, tl _ ((W.wd he (ha z hz)).2 ho)⟩
   rcases List.mem_append.mp hy with hy | hy
   ·exact key (by simp) W.j0 l0 hy
   ·rcases List.mem_append.mp hy with hy | hy
    ·exact key (by simp) W.j1 l1 hy
    ·exact key (by simp) W.j2 l2 hy
 have mx : ∀ k, 0 < mxN k /\ mxN k <= k + 1 := fun k => by unfold mxN; split <;> omega
 subst hc
 refine ⟨nd, by rw [hD]; rfl, fun ws hws => ?_, Nat.le_trans hall (by decide), fun x hx => (hwd x hx).len.2, Nat.le_trans hPl (by decide), text_len (fun x hx => (hwd x hx).len.2) (Nat.le_trans hall (by decide)), ?_, finv_of hn hs (Nat.le_trans hPl (by decide)) hnames, fun j i => small_ok _ hPl j i, ?_, ?_, fun c hc => ?_⟩
 ·rw [hD] at hws
  rcases List.mem_cons.mp hws with rfl | hws
  ·rw [List.length_map]; omega
  ·rcases List.mem_cons.mp hws with rfl | hws
   ·rw [List.length_map]; omega
   ·rw [List.mem_singleton.mp hws, List.length_map]; omega
 ·refine read_ok hD (fun x hx => rdb_of (hwd x (by rw [hD]; exact hx))) (fun e => n0 ?_) _
  have := congrArg List.length e
  simp only [List.length_append, List.length_map, List.length_nil] at this
  exact List.length_eq_zero_iff.mp (by omega)
 ·rw [hD]
  show 0 < (a0.map _).length * mxN (a1.map _).length * mxN (a2.map _).length /\ (a0.map _).length * mxN (a1.map _).length * mxN (a2.map _).length <= 5000
  rw [List.length_map, List.length_map, List.length_map]
  have p0 := List.length_pos_iff.mpr n0
  refine ⟨Nat.mul_pos (Nat.mul_pos p0 (mx _).1) (mx _).1, Nat.le_trans (Nat.mul_le_mul (Nat.mul_le_mul (show a0.length <= 9 by omega) (show mxN a1.length <= 10 by have := (mx a1.length).2; omega)) (show mxN a2.length <= 10 by have := (mx a2.length).2; omega)) (by decide)⟩
 ·exact runs_ok W B hN hP hp hn hs rfl (lwPl is) hD
 ·obtain ⟨x, hx, rfl⟩ : ∃ x ∈ [lwCall ((lwCells is).getD 4 0) 0, lwCall ((lwCells is).getD 4 0) 1, lwCall ((lwCells is).getD 4 0) 2], x = c := ⟨c, hc, rfl⟩
  refine name_ok (fun z hz => ?_) (hn _ (List.mem_cons_of_mem _ (List.mem_map.mpr ⟨x, hx, rfl⟩))) (.of_right (hs _)) fun z _ => .of_left (hs z)
  obtain ⟨p, hp', rfl⟩ := List.mem_map.mp hz
  exact hn _ (hnames p (List.mem_filter.mp hp').1).1

end
theorem facts : ∀ is : List Int, is.length <= 63 -> LawOk is := fun is _ => law_ok is
theorem hd.tw10000147801426223185 : True := trivial
theorem hd.tw10193104807299194216 : True := trivial
theorem hd.tw10200596682531068870 : True := trivial
theorem hd.tw1037384927157171198 : True := trivial
theorem hd.tw10478568671102049440 : True := trivial
theorem hd.tw10503033235834121926 : True := trivial
theorem hd.tw10592794516085672850 : True := trivial
theorem hd.tw10652557068286136655 : True := trivial
theorem hd.tw10954896027920521500 : True := trivial
theorem hd.tw10980597926105621645 : True := trivial
theorem hd.tw11043565332798135927 : True := trivial
theorem hd.tw11082318014727886095 : True := trivial
theorem hd.tw1109879514587821502 : True := trivial
theorem hd.tw11155353856842241703 : True := trivial
theorem hd.tw11570111164570437037 : True := trivial
theorem hd.tw1160317203684671307 : True := trivial
theorem hd.tw11747188248321908775 : True := trivial
theorem hd.tw11815352881546339388 : True := trivial
theorem hd.tw11912248818721715553 : True := trivial
theorem hd.tw11934350699983728027 : True := trivial
theorem hd.tw12280789728482893115 : True := trivial
theorem hd.tw1235247223174674489 : True := trivial
theorem hd.tw12387470312852788890 : True := trivial
theorem hd.tw12426564226344084313 : True := trivial
theorem hd.tw12538513643702813137 : True := trivial
theorem hd.tw126899189614909607 : True := trivial
theorem hd.tw12801012565498045964 : True := trivial
theorem hd.tw12978694689486476534 : True := trivial
theorem hd.tw1298781202104834068 : True := trivial
theorem hd.tw13253541544203528774 : True := trivial
theorem hd.tw13675884382191442351 : True := trivial
theorem hd.tw13702962655247883447 : True := trivial
theorem hd.tw141379768648097825 : True := trivial
theorem hd.tw14204155614346801693 : True := trivial
theorem hd.tw14228869016593613808 : True := trivial
theorem hd.tw14323767728887713897 : True := trivial
theorem hd.tw1446138426791403183 : True := trivial
theorem hd.tw14479959197142875710 : True := trivial
theorem hd.tw1479440292816680990 : True := trivial
theorem hd.tw14846430730451215336 : True := trivial
theorem hd.tw14851662188348016525 : True := trivial
theorem hd.tw15008555091322755903 : True := trivial
theorem hd.tw15015567032572629849 : True := trivial
theorem hd.tw15078313923061940283 : True := trivial
theorem hd.tw15170166819509798712 : True := trivial
theorem hd.tw15182056181559308685 : True := trivial
theorem hd.tw1523212933880916979 : True := trivial
theorem hd.tw15441256140065102201 : True := trivial
theorem hd.tw15446708149075816471 : True := trivial
theorem hd.tw15544853520655005638 : True := trivial
theorem hd.tw15831449180804048182 : True := trivial
theorem hd.tw16049856711259736594 : True := trivial
theorem hd.tw16140346037966671567 : True := trivial
theorem hd.tw16192249821931289364 : True := trivial
theorem hd.tw1626954789893016217 : True := trivial
theorem hd.tw16607972267231536329 : True := trivial
theorem hd.tw16633321846759511662 : True := trivial
theorem hd.tw16698072605275554026 : True := trivial
theorem hd.tw16874378897286668274 : True := trivial
theorem hd.tw16953484572288141156 : True := trivial
theorem hd.tw1697823684261348857 : True := trivial
theorem hd.tw17059487216203745038 : True := trivial
theorem hd.tw17148754175671867601 : True := trivial
theorem hd.tw17204449605386721941 : True := trivial
theorem hd.tw17213202801741711188 : True := trivial
theorem hd.tw17523582860893176437 : True := trivial
theorem hd.tw17562630884545722471 : True := trivial
theorem hd.tw17587535071971633485 : True := trivial
theorem hd.tw17775649180985745786 : True := trivial
theorem hd.tw17896979994045829828 : True := trivial
theorem hd.tw17992777665364332788 : True := trivial
theorem hd.tw18150562674833509941 : True := trivial
theorem hd.tw18178616510705861345 : True := trivial
theorem hd.tw185171875365083224 : True := trivial
theorem hd.tw2114883523508822293 : True := trivial
theorem hd.tw2116293081078497426 : True := trivial
theorem hd.tw2241180450144564393 : True := trivial
theorem hd.tw2382034009712293678 : True := trivial
theorem hd.tw2395360589981782600 : True := trivial
theorem hd.tw2485592187805179729 : True := trivial
theorem hd.tw2655586099545260437 : True := trivial
theorem hd.tw2686811819572748776 : True := trivial
theorem hd.tw2777310486606898128 : True := trivial
theorem hd.tw3058765270845314565 : True := trivial
theorem hd.tw3062554034549116351 : True := trivial
theorem hd.tw3227706676992921592 : True := trivial
theorem hd.tw3312639428575888987 : True := trivial
theorem hd.tw3490399344014754336 : True := trivial
theorem hd.tw3503359234994187029 : True := trivial
theorem hd.tw3641903923722224168 : True := trivial
theorem hd.tw3655753129109681850 : True := trivial
theorem hd.tw3692403537964248751 : True := trivial
theorem hd.tw3751741238260587452 : True := trivial
theorem hd.tw3916285193714390168 : True := trivial
theorem hd.tw4144914912218024235 : True := trivial
theorem hd.tw4229197034057890473 : True := trivial
theorem hd.tw4458026342584188919 : True := trivial
theorem hd.tw455996952264472808 : True := trivial
theorem hd.tw4855435815858847083 : True := trivial
theorem hd.tw4932915121498799041 : True := trivial
theorem hd.tw5165858259965997201 : True := trivial
theorem hd.tw5462893749543862879 : True := trivial
theorem hd.tw5479632107175813453 : True := trivial
theorem hd.tw5604250919994444252 : True := trivial
theorem hd.tw5636303146250169470 : True := trivial
theorem hd.tw5813924530853040166 : True := trivial
theorem hd.tw5963049168890907350 : True := trivial
theorem hd.tw6046201485432095634 : True := trivial
theorem hd.tw6078900312468773854 : True := trivial
theorem hd.tw6362447207671622590 : True := trivial
theorem hd.tw6584964919600876763 : True := trivial
theorem hd.tw6825794384878216377 : True := trivial
theorem hd.tw690909109011163107 : True := trivial
theorem hd.tw7504022934668878425 : True := trivial
theorem hd.tw7593528114467676333 : True := trivial
theorem hd.tw7839665609038958061 : True := trivial
theorem hd.tw80207222412747470 : True := trivial
theorem hd.tw803298182361166000 : True := trivial
theorem hd.tw8455509636433690358 : True := trivial
theorem hd.tw8499867674576427667 : True := trivial
theorem hd.tw8547976606474840627 : True := trivial
theorem hd.tw8637924245605089610 : True := trivial
theorem hd.tw8890726212758104139 : True := trivial
theorem hd.tw8899746735614894663 : True := trivial
theorem hd.tw8994223850203857199 : True := trivial
theorem hd.tw9027985886240724871 : True := trivial
theorem hd.tw9139467792480963413 : True := trivial
theorem hd.tw9180358300632990600 : True := trivial
theorem hd.tw9193979096431994668 : True := trivial
theorem hd.tw9276349011584097663 : True := trivial
theorem hd.tw9372208762206411727 : True := trivial
theorem hd.tw9666415797876524396 : True := trivial
theorem hd.tw9673087150982176410 : True := trivial
theorem hd.tw9691164852092459200 : True := trivial
theorem hd.tw9692193050773601005 : True := trivial
theorem hd.tw9812517637422296469 : True := trivial
theorem hd.tw9826395005243518002 : True := trivial
theorem hd.tw8011990174464649369 : True := trivial
theorem hd.tw16686675729833588591 : True := trivial
set_option Elab.async true in
set_option maxHeartbeats 0 in
theorem hd : PySem.Challenge.rw_xb0013_01.Holds := by
  (w_on; o_law; k_head; (case hw => w_witness2))
  exact walk_of facts
end Mine.Internal
theorem PySem.Challenge.cw_xb0013_01_holds : PySem.Challenge.rw_xb0013_01.Holds :=
  Mine.Internal.hd
