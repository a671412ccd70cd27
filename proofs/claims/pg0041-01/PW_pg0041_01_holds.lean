import PyProof.Rows.All
import Wide.All
import OpenK.AllK
import Wide.FinOn
import Lean
import PySem.Challenge.RW_pg0041_01
set_option Elab.async false
set_option maxRecDepth 100000
set_option autoImplicit false
set_option linter.unusedVariables false
set_option compiler.extract_closed false
namespace Mine
section
open PySem PySem.W PyProof.Rows
set_option maxHeartbeats 8000000
/-! the heap that the law's text leaves, written out: classes, functions, code. What a function runs is taken from the row itself.
The equations beside it keep the heap from being turned once more (a big term that nothing needs). -/
noncomputable abbrev hd.fn {i : Nat} {n : Str} {a : Arguments} {b : List Stmt} {d : List PySem.Expr} {r : Option PySem.Expr} {y : List TypeParam} {s : Scope} {u : Option Scope} {k : Str} {p : Pos}
    (_ : PySem.Challenge.pw_pg0041_01.main.body[i]? = some (.FunctionDef n a b d r y s u k p)) (q : Str) (m c : Value) : Obj :=
  ⟨.type "function", none, .func ⟨n, q, a, .stmts b, s, 3, [], .none, .none, .none, m, none, c, .none, 0⟩, #[]⟩
noncomputable abbrev hd.fnIn {i j : Nat} {n : Str} {a : Arguments} {b : List Stmt} {d : List PySem.Expr} {r : Option PySem.Expr} {y : List TypeParam} {s : Scope} {u : Option Scope} {k : Str} {p : Pos}
    {cn : Str} {cb : List PySem.Expr} {ck : List Keyword} {cs : List Stmt} {cd : List PySem.Expr} {cy : List TypeParam} {cc : Scope} {cu : Option Scope} {ci : Str} {ca : List Str} {cp : Pos}
    (_ : PySem.Challenge.pw_pg0041_01.main.body[i]? = some (.ClassDef cn cb ck cs cd cy cc cu ci ca cp))
    (_ : cs[j]? = some (.FunctionDef n a b d r y s u k p)) (q : Str) (m c : Value) : Obj :=
  ⟨.type "function", none, .func ⟨n, q, a, .stmts b, s, 3, [], .none, .none, .none, m, none, c, .none, 0⟩, #[]⟩
noncomputable def hd.heap_39 (P : Params) : Frag := [
  (3, ⟨(.type "dict"), .none, (.dict #[⟨(PyData.keyHash P (.ofString "__name__")), (.str (.ofString "__name__") 165), (.str (.ofString "law_pg0041_01") 257)⟩, ⟨(PyData.keyHash P (.ofString "__doc__")), (.str (.ofString "__doc__") 166), .none⟩, ⟨(PyData.keyHash P (.ofString "__package__")), (.str (.ofString "__package__") 167), .none⟩, ⟨(PyData.keyHash P (.ofString "__loader__")), (.str (.ofString "__loader__") 168), (.builtin "__main__.__loader__#opaque")⟩, ⟨(PyData.keyHash P (.ofString "__spec__")), (.str (.ofString "__spec__") 169), .none⟩, ⟨(PyData.keyHash P (.ofString "__annotations__")), (.str (.ofString "__annotations__") 170), (.ref 6)⟩, ⟨(PyData.keyHash P (.ofString "__builtins__")), (.str (.ofString "__builtins__") 171), (.ref 4)⟩, ⟨(PyData.keyHash P (.ofString "__file__")), (.str (.ofString "__file__") 173), (.str (.ofString "/claim/cut.py") 172)⟩, ⟨(PyData.keyHash P (.ofString "__cached__")), (.str (.ofString "__cached__") 174), .none⟩, ⟨(PyData.keyHash P (.ofString "replace")), (.str (.ofString "replace") 196), (.ref 21)⟩, ⟨(PyData.keyHash P (.ofString "_netrclex")), (.str (.ofString "_netrclex") 256), (.ref 59)⟩, ⟨(PyData.keyHash P (.ofString "_law_words")), (.str (.ofString "_law_words") 268), (.ref 70)⟩, ⟨(PyData.keyHash P (.ofString "_law_spelled")), (.str (.ofString "_law_spelled") 274), (.ref 75)⟩, ⟨(PyData.keyHash P (.ofString "_law_programs")), (.str (.ofString "_law_programs") 280), (.ref 80)⟩, ⟨(PyData.keyHash P (.ofString "_law_text")), (.str (.ofString "_law_text") 286), (.ref 85)⟩, ⟨(PyData.keyHash P (.ofString "_law_pairs")), (.str (.ofString "_law_pairs") 292), (.ref 90)⟩, ⟨(PyData.keyHash P (.ofString "_law_rest")), (.str (.ofString "_law_rest") 301), (.ref 97)⟩, ⟨(PyData.keyHash P (.ofString "_law_stream")), (.str (.ofString "_law_stream") 311), (.ref 104)⟩, ⟨(PyData.keyHash P (.ofString "_law_read")), (.str (.ofString "_law_read") 321), (.ref 111)⟩, ⟨(PyData.keyHash P (.ofString "_law_contents")), (.str (.ofString "_law_contents") 327), (.ref 116)⟩, ⟨(PyData.keyHash P (.ofString "_law_run")), (.str (.ofString "_law_run") 339), (.ref 123)⟩, ⟨(PyData.keyHash P (.ofString "law")), (.str (.ofString "law") 345), (.ref 128)⟩] 22), #[]⟩),
  (20, ⟨(.type "code"), .none, (.fields #[(.str (.ofString "replace") 189), (.str (.ofString "replace") 190), (.str (.ofString "/claim/cut.py") 191), (.int 2 0), (.int 1 0), (.int 0 0), (.int 0 0), (.int 7 0), (.ref 15), (.bool .true), (.int 181 0), (.ref 16), .none, (.ref 17), (.ref 18), (.ref 19), (.int 194 0), (.int 2 0), (.str (.ofString "/claim/cut.py") 195)]), #[]⟩),
  (21, hd.fn (i := 1) rfl (.ofString "replace") (.str (.ofString "cpy313.pydoc") 187) (.ref 20)),
  (34, ⟨(.type "code"), .none, (.fields #[(.str (.ofString "__init__") 211), (.str (.ofString "_netrclex.__init__") 212), (.str (.ofString "/claim/cut.py") 213), (.int 10 0), (.int 2 0), (.int 0 0), (.int 0 0), (.int 3 0), (.ref 29), (.bool .true), (.int 181 0), (.ref 30), .none, (.ref 31), (.ref 32), (.ref 33), (.int 216 0), (.int 10 0), (.str (.ofString "/claim/cut.py") 217)]), #[]⟩),
  (35, hd.fnIn (i := 3) (j := 0) rfl rfl (.ofString "_netrclex.__init__") (.str (.ofString "cpy313.netrc") 197) (.ref 34)),
  (41, ⟨(.type "code"), .none, (.fields #[(.str (.ofString "_read_char") 219), (.str (.ofString "_netrclex._read_char") 220), (.str (.ofString "/claim/cut.py") 221), (.int 16 0), (.int 1 0), (.int 0 0), (.int 0 0), (.int 3 0), (.ref 36), (.bool .true), (.int 181 0), (.ref 37), .none, (.ref 38), (.ref 39), (.ref 40), (.int 224 0), (.int 16 0), (.str (.ofString "/claim/cut.py") 225)]), #[]⟩),
  (42, hd.fnIn (i := 3) (j := 1) rfl rfl (.ofString "_netrclex._read_char") (.str (.ofString "cpy313.netrc") 197) (.ref 41)),
  (48, ⟨(.type "code"), .none, (.fields #[(.str (.ofString "get_token") 227), (.str (.ofString "_netrclex.get_token") 228), (.str (.ofString "/claim/cut.py") 229), (.int 22 0), (.int 1 0), (.int 0 0), (.int 0 0), (.int 3 0), (.ref 43), (.bool .true), (.int 181 0), (.ref 44), .none, (.ref 45), (.ref 46), (.ref 47), (.int 234 0), (.int 22 0), (.str (.ofString "/claim/cut.py") 235)]), #[]⟩),
  (49, hd.fnIn (i := 3) (j := 2) rfl rfl (.ofString "_netrclex.get_token") (.str (.ofString "cpy313.netrc") 197) (.ref 48)),
  (55, ⟨(.type "code"), .none, (.fields #[(.str (.ofString "push_token") 237), (.str (.ofString "_netrclex.push_token") 238), (.str (.ofString "/claim/cut.py") 239), (.int 49 0), (.int 2 0), (.int 0 0), (.int 0 0), (.int 3 0), (.ref 50), (.bool .true), (.int 181 0), (.ref 51), .none, (.ref 52), (.ref 53), (.ref 54), (.int 242 0), (.int 49 0), (.str (.ofString "/claim/cut.py") 243)]), #[]⟩),
  (56, hd.fnIn (i := 3) (j := 3) rfl rfl (.ofString "_netrclex.push_token") (.str (.ofString "cpy313.netrc") 197) (.ref 55)),
  (58, ⟨(.type "dict"), .none, (.dict #[⟨(PyData.keyHash P (.ofString "__module__")), (.str (.ofString "__module__") 206), (.str (.ofString "cpy313.netrc") 197)⟩, ⟨(PyData.keyHash P (.ofString "__firstlineno__")), (.str (.ofString "__firstlineno__") 210), (.int 8 209)⟩, ⟨(PyData.keyHash P (.ofString "__init__")), (.str (.ofString "__init__") 218), (.ref 35)⟩, ⟨(PyData.keyHash P (.ofString "_read_char")), (.str (.ofString "_read_char") 226), (.ref 42)⟩, ⟨(PyData.keyHash P (.ofString "get_token")), (.str (.ofString "get_token") 236), (.ref 49)⟩, ⟨(PyData.keyHash P (.ofString "push_token")), (.str (.ofString "push_token") 244), (.ref 56)⟩, ⟨(PyData.keyHash P (.ofString "__static_attributes__")), (.str (.ofString "__static_attributes__") 249), (.ref 57)⟩, ⟨(PyData.keyHash P (.ofString "__dict__")), (.str (.ofString "__dict__") 251), (.ref 60)⟩, ⟨(PyData.keyHash P (.ofString "__weakref__")), (.str (.ofString "__weakref__") 253), (.ref 61)⟩, ⟨(PyData.keyHash P (.ofString "__doc__")), (.str (.ofString "__doc__") 254), .none⟩] 4), #[]⟩),
  (59, ⟨(.type "type"), .none, (.cls ⟨(.ofString "_netrclex"), [(.type "object")], [(.ref 59), (.type "object")], 58, (.ofString "_netrclex"), .true, [], [], .false, .none, .false⟩), #[.none, .none, (.some (.str (.ofString "_netrclex") 199)), (.some (.str (.ofString "_netrclex") 207)), (.some (.builtin "object.__new__")), (.some (.bool .true))]⟩),
  (69, ⟨(.type "code"), .none, (.fields #[(.str (.ofString "_law_words") 259), (.str (.ofString "_law_words") 260), (.str (.ofString "/claim/cut.py") 261), (.int 52 0), (.int 1 0), (.int 0 0), (.int 0 0), (.int 3 0), (.ref 64), (.bool .true), (.int 181 0), (.ref 65), .none, (.ref 66), (.ref 67), (.ref 68), (.int 266 0), (.int 52 0), (.str (.ofString "/claim/cut.py") 267)]), #[]⟩),
  (70, hd.fn (i := 5) rfl (.ofString "_law_words") (.str (.ofString "law_pg0041_01") 257) (.ref 69)),
  (74, ⟨(.type "code"), .none, (.fields #[(.str (.ofString "_law_spelled") 269), (.str (.ofString "_law_spelled") 270), (.str (.ofString "/claim/cut.py") 271), (.int 59 0), (.int 1 0), (.int 0 0), (.int 0 0), (.int 3 0), (.ref 71), (.bool .true), (.int 181 0), (.ref 72), .none, .none, .none, (.ref 73), (.int 272 0), (.int 59 0), (.str (.ofString "/claim/cut.py") 273)]), #[]⟩),
  (75, hd.fn (i := 6) rfl (.ofString "_law_spelled") (.str (.ofString "law_pg0041_01") 257) (.ref 74)),
  (79, ⟨(.type "code"), .none, (.fields #[(.str (.ofString "_law_programs") 275), (.str (.ofString "_law_programs") 276), (.str (.ofString "/claim/cut.py") 277), (.int 62 0), (.int 1 0), (.int 0 0), (.int 0 0), (.int 3 0), (.ref 76), (.bool .true), (.int 181 0), (.ref 77), .none, .none, .none, (.ref 78), (.int 278 0), (.int 62 0), (.str (.ofString "/claim/cut.py") 279)]), #[]⟩),
  (80, hd.fn (i := 7) rfl (.ofString "_law_programs") (.str (.ofString "law_pg0041_01") 257) (.ref 79)),
  (84, ⟨(.type "code"), .none, (.fields #[(.str (.ofString "_law_text") 281), (.str (.ofString "_law_text") 282), (.str (.ofString "/claim/cut.py") 283), (.int 74 0), (.int 2 0), (.int 0 0), (.int 0 0), (.int 3 0), (.ref 81), (.bool .true), (.int 181 0), (.ref 82), .none, .none, .none, (.ref 83), (.int 284 0), (.int 74 0), (.str (.ofString "/claim/cut.py") 285)]), #[]⟩),
  (85, hd.fn (i := 8) rfl (.ofString "_law_text") (.str (.ofString "law_pg0041_01") 257) (.ref 84)),
  (89, ⟨(.type "code"), .none, (.fields #[(.str (.ofString "_law_pairs") 287), (.str (.ofString "_law_pairs") 288), (.str (.ofString "/claim/cut.py") 289), (.int 76 0), (.int 1 0), (.int 0 0), (.int 0 0), (.int 3 0), (.ref 86), (.bool .true), (.int 181 0), (.ref 87), .none, .none, .none, (.ref 88), (.int 290 0), (.int 76 0), (.str (.ofString "/claim/cut.py") 291)]), #[]⟩),
  (90, hd.fn (i := 9) rfl (.ofString "_law_pairs") (.str (.ofString "law_pg0041_01") 257) (.ref 89)),
  (96, ⟨(.type "code"), .none, (.fields #[(.str (.ofString "_law_rest") 293), (.str (.ofString "_law_rest") 294), (.str (.ofString "/claim/cut.py") 295), (.int 85 0), (.int 2 0), (.int 0 0), (.int 0 0), (.int 3 0), (.ref 91), (.bool .true), (.int 181 0), (.ref 92), .none, (.ref 93), (.ref 94), (.ref 95), (.int 299 0), (.int 85 0), (.str (.ofString "/claim/cut.py") 300)]), #[]⟩),
  (97, hd.fn (i := 10) rfl (.ofString "_law_rest") (.str (.ofString "law_pg0041_01") 257) (.ref 96)),
  (103, ⟨(.type "code"), .none, (.fields #[(.str (.ofString "_law_stream") 302), (.str (.ofString "_law_stream") 303), (.str (.ofString "/claim/cut.py") 304), (.int 91 0), (.int 1 0), (.int 0 0), (.int 0 0), (.int 3 0), (.ref 98), (.bool .true), (.int 181 0), (.ref 99), .none, (.ref 100), (.ref 101), (.ref 102), (.int 309 0), (.int 91 0), (.str (.ofString "/claim/cut.py") 310)]), #[]⟩),
  (104, hd.fn (i := 11) rfl (.ofString "_law_stream") (.str (.ofString "law_pg0041_01") 257) (.ref 103)),
  (110, ⟨(.type "code"), .none, (.fields #[(.str (.ofString "_law_read") 312), (.str (.ofString "_law_read") 313), (.str (.ofString "/claim/cut.py") 314), (.int 99 0), (.int 1 0), (.int 0 0), (.int 0 0), (.int 3 0), (.ref 105), (.bool .true), (.int 181 0), (.ref 106), .none, (.ref 107), (.ref 108), (.ref 109), (.int 319 0), (.int 99 0), (.str (.ofString "/claim/cut.py") 320)]), #[]⟩),
  (111, hd.fn (i := 12) rfl (.ofString "_law_read") (.str (.ofString "law_pg0041_01") 257) (.ref 110)),
  (115, ⟨(.type "code"), .none, (.fields #[(.str (.ofString "_law_contents") 322), (.str (.ofString "_law_contents") 323), (.str (.ofString "/claim/cut.py") 324), (.int 107 0), (.int 2 0), (.int 0 0), (.int 0 0), (.int 3 0), (.ref 112), (.bool .true), (.int 181 0), (.ref 113), .none, .none, .none, (.ref 114), (.int 325 0), (.int 107 0), (.str (.ofString "/claim/cut.py") 326)]), #[]⟩),
  (116, hd.fn (i := 13) rfl (.ofString "_law_contents") (.str (.ofString "law_pg0041_01") 257) (.ref 115)),
  (122, ⟨(.type "code"), .none, (.fields #[(.str (.ofString "_law_run") 328), (.str (.ofString "_law_run") 329), (.str (.ofString "/claim/cut.py") 330), (.int 114 0), (.int 2 0), (.int 0 0), (.int 0 0), (.int 3 0), (.ref 117), (.bool .true), (.int 181 0), (.ref 118), .none, (.ref 119), (.ref 120), (.ref 121), (.int 337 0), (.int 114 0), (.str (.ofString "/claim/cut.py") 338)]), #[]⟩),
  (123, hd.fn (i := 14) rfl (.ofString "_law_run") (.str (.ofString "law_pg0041_01") 257) (.ref 122)),
  (127, ⟨(.type "code"), .none, (.fields #[(.str (.ofString "law") 340), (.str (.ofString "law") 341), (.str (.ofString "/claim/cut.py") 342), (.int 127 0), (.int 1 0), (.int 0 0), (.int 0 0), (.int 3 0), (.ref 124), (.bool .true), (.int 181 0), (.ref 125), .none, .none, .none, (.ref 126), (.int 343 0), (.int 127 0), (.str (.ofString "/claim/cut.py") 344)]), #[]⟩),
  (128, hd.fn (i := 15) rfl (.ofString "law") (.str (.ofString "law_pg0041_01") 257) (.ref 127))]
local macro_rules | `(tactic| k_head) => `(tactic| o_head (kmHook hd.heap_39 [3, 20, 21, 34, 35, 41, 42, 48, 49, 55, 56, 58, 59, 69, 70, 74, 75, 79, 80, 84, 85, 89, 90, 96, 97, 103, 104, 110, 111, 115, 116, 122, 123, 127, 128] (fun _ => by kernel_rfl) [99]))
open_top hd for PySem.Challenge.rw_pg0041_01
end
open PySem PySem.W PyProof.Rows

-- Core
section
open PySem PySem.W PyProof.Rows
/-! ### partial maps, what stands at an address -/
noncomputable abbrev G := Addr → Option Obj
noncomputable def Sub (g g' : G) : Prop := ∀ b o, g b = some o → g' b = some o
theorem Sub.refl (g : G) : Sub g g := fun _ _ e => e
theorem Sub.trans {g g' g'' : G} (x : Sub g g') (y : Sub g' g'') : Sub g g'' := fun b o e => y b o (x b o e)

inductive AO where
  | list (vs : List Value)
  | tuple (vs : List Value)
  | liter (l : Addr) (i : Nat)
  | cell (v : Option Value)
  | obj (o : Obj)
  | ns (l : List (Str × Value))

noncomputable def NsG (g : G) (a : Addr) (m : Str → Option Value) : Prop :=
  ∃ o es ep, g a = some o ∧ o.data = .dict es ep ∧ StrKeys es ∧ ∀ name, nsFind es name = m name
theorem NsG.mono {g g' : G} {a : Addr} {m : Str → Option Value} (h : NsG g a m) (k : Sub g g') : NsG g' a m :=
  let ⟨o, es, ep, e, r⟩ := h; ⟨o, es, ep, k _ _ e, r⟩
noncomputable def AO.Is (g : G) (a : Addr) : AO → Prop
  | .list vs => ∃ n, g a = some { cls := .type "list", data := .seq vs.toArray n }
  | .tuple vs => ∃ o, g a = some o ∧ o.cls = .type "tuple" ∧ ∃ n, o.data = .seq vs.toArray n
  | .liter l i => ∃ o, g a = some o ∧ o.cls = .type "list_iterator" ∧ o.data = .fields #[.ref l, .int i 0]
  | .cell v => ∃ o, g a = some o ∧ o.data = .cell v
  | .obj o => g a = some o
  | .ns l => ∃ o es ep, g a = some o ∧ o.data = .dict es ep ∧ StrKeys es ∧ (∀ name, nsFind es name = l.lookup name) ∧ es.size ≤ l.length

theorem AO.Is.at {g g' : G} {a : Addr} {x : AO} (h : x.Is g a) (e : ∀ o, g a = some o → g' a = some o) : x.Is g' a := by
  cases x with
  | obj o => exact e o h
  | list vs => obtain ⟨n, ho⟩ := h; exact ⟨n, e _ ho⟩
  | ns l => obtain ⟨o, es, ep, ho, r⟩ := h; exact ⟨o, es, ep, e _ ho, r⟩
  | _ => obtain ⟨o, ho, r⟩ := h; exact ⟨o, e o ho, r⟩
theorem AO.Is.mono {g g' : G} {a : Addr} {x : AO} (h : x.Is g a) (k : Sub g g') : x.Is g' a := h.at fun o e => k a o e
theorem AO.Is.some {g : G} {a : Addr} {x : AO} (h : x.Is g a) : ∃ o, g a = some o := by
  cases x with
  | obj o => exact ⟨o, h⟩
  | list vs => obtain ⟨n, ho⟩ := h; exact ⟨_, ho⟩
  | ns l => obtain ⟨o, es, ep, ho, r⟩ := h; exact ⟨_, ho⟩
  | _ => obtain ⟨o, ho, _⟩ := h; exact ⟨o, ho⟩
theorem AO.Is.isL {s : Shared} {a : Addr} {vs : List Value} (h : (AO.list vs).Is s.heap.get? a) : s.heap.IsList a vs.toArray := let ⟨n, e⟩ := h; ⟨_, e, rfl, n, rfl⟩
theorem AO.Is.plainL {s : Shared} {a : Addr} {vs : List Value} (h : (AO.list vs).Is s.heap.get? a) : ∃ n, IsL s.heap a vs.toArray n := h

/-- the goal's end put under a name: keeps the terms small -/
theorem cut {α : Type} {M : Model} {A : Around} {m : Sem α} {Q : α → Shared → Prop} {E : Value → Shared → Prop} {s : Shared} (h : ∀ Q' : α → Shared → Prop, (∀ a s', Q a s' → Q' a s') → wpAny M A m Q' E s) : wpAny M A m Q E s := h Q fun _ _ x => x

/-! ### the text's own names -/
inductive Glob : Str → Value → Prop
  | replace : Glob "replace" (.ref 21)
  | netrclex : Glob "_netrclex" (.ref 59)
  | words : Glob "_law_words" (.ref 70)
  | spelled : Glob "_law_spelled" (.ref 75)
  | programs : Glob "_law_programs" (.ref 80)
  | text : Glob "_law_text" (.ref 85)
  | pairs : Glob "_law_pairs" (.ref 90)
  | rest : Glob "_law_rest" (.ref 97)
  | stream : Glob "_law_stream" (.ref 104)
  | read : Glob "_law_read" (.ref 111)
  | contents : Glob "_law_contents" (.ref 116)
  | run : Glob "_law_run" (.ref 123)
inductive Blt : Str → Value → Prop
  | len : Blt "len" (.builtin "len")
  | iter : Blt "iter" (.builtin "iter")
  | min : Blt "min" (.builtin "min")
  | list : Blt "list" (.type "list")
  | range : Blt "range" (.type "range")
  | zip : Blt "zip" (.type "zip")

structure Stat (P : Params) (B : G) : Prop where
  K : ∀ a o, (hd.heap_39 P).lookup a = some o → B a = some o
  names : ∃ mg mb, NsG B mainGlobals mg ∧ NsG B builtinsNs mb ∧ (∀ x v, Glob x v → mg x = some v) ∧ ∀ x v, Blt x v → mg x = none ∧ mb x = some v
  nolimit : ∃ mc, NsG B cStatics mc ∧ mc "sys.recursionlimit" = none
  bmod : ∃ mg bm o, NsG B mainGlobals mg ∧ mg "__builtins__" = some (.ref bm) ∧ bm ≠ builtinsNs ∧ B bm = some o ∧ o.cls = .type "module" ∧ o.dict = some builtinsNs ∧ o.data = .plain

theorem Stat.mono {P : Params} {B B' : G} (S : Stat P B) (k : Sub B B') : Stat P B' :=
  ⟨fun a o e => k a o (S.K a o e), let ⟨mg, mb, a, b, c, d⟩ := S.names; ⟨mg, mb, a.mono k, b.mono k, c, d⟩, let ⟨mc, a, b⟩ := S.nolimit; ⟨mc, a.mono k, b⟩, let ⟨mg, bm, o, a, b, c, d, r⟩ := S.bmod; ⟨mg, bm, o, a.mono k, b, c, k _ _ d, r⟩⟩

/-! ### locals by place -/
inductive Rd : List (Str × NameKind) → List (Option Value) → Str → Value → Prop
  | head {x v ns vs} : Rd ((x, .local) :: ns) (some v :: vs) x v
  | tail {y o ns vs x v} : Rd ns vs x v → Rd (y :: ns) (o :: vs) x v
inductive Wr : List (Str × NameKind) → List (Option Value) → Str → Value → List (Option Value) → Prop
  | head {x v o ns vs} : Wr ((x, .local) :: ns) (o :: vs) x v (some v :: vs)
  | tail {y o ns vs x v vs'} : Wr ns vs x v vs' → Wr (y :: ns) (o :: vs) x v (o :: vs')
inductive Kd : List (Str × NameKind) → Str → NameKind → Prop
  | head {x k ns} : Kd ((x, k) :: ns) x k
  | tail {y ns x k} : Kd ns x k → Kd (y :: ns) x k

noncomputable def LocIs (m : Str → Option Value) : List (Str × NameKind) → List (Option Value) → Prop
  | [], _ => True
  | _, [] => True
  | (x, _) :: ns, o :: vs => (∀ v, o = some v → m x = some v) ∧ LocIs m ns vs

theorem Rd.kd {ns vs x v} (h : Rd ns vs x v) : Kd ns x .local := by induction h with
  | head => exact .head
  | tail _ ih => exact .tail ih
theorem Wr.kd {ns vs x v vs'} (h : Wr ns vs x v vs') : Kd ns x .local := by induction h with
  | head => exact .head
  | tail _ ih => exact .tail ih
theorem Kd.mem {ns x k} (h : Kd ns x k) : (x, k) ∈ ns := by induction h with
  | head => exact .head _
  | tail _ ih => exact .tail _ ih
theorem Kd.lookup {ns : List (Str × NameKind)} {x k} (h : Kd ns x k) (nd : (ns.map Prod.fst).Nodup) : ns.lookup x = some k := by induction h with
  | head => rw [List.lookup_cons]; simp
  | @tail y ns x k h ih =>
    rw [List.map_cons, List.nodup_cons] at nd
    have hne : x ≠ y.1 := fun e => nd.1 (e ▸ List.mem_map.mpr ⟨_, h.mem, rfl⟩)
    rw [List.lookup_cons, beq_eq_false_iff_ne.mpr hne]
    exact ih nd.2
theorem Rd.val {m ns vs x v} (h : Rd ns vs x v) (l : LocIs m ns vs) : m x = some v := by induction h with
  | head => exact l.1 _ rfl
  | tail _ ih => exact ih l.2
theorem LocIs.skip {m : Str → Option Value} {x : Str} {v : Value} : ∀ {ns vs}, LocIs m ns vs → x ∉ ns.map Prod.fst → LocIs (fun y => if y = x then some v else m y) ns vs
  | [], _, _, _ => by unfold LocIs; trivial
  | _ :: _, [], _, _ => by unfold LocIs; trivial
  | (y, _) :: ns, o :: vs, l, hx => by
    rw [List.map_cons, List.mem_cons, not_or] at hx
    exact ⟨fun v e => (if_neg (Ne.symm hx.1)).trans (l.1 v e), LocIs.skip l.2 hx.2⟩
theorem Wr.val {m : Str → Option Value} {ns vs x v vs'} (h : Wr ns vs x v vs') (nd : (ns.map Prod.fst).Nodup) (l : LocIs m ns vs) : LocIs (fun y => if y = x then some v else m y) ns vs' := by induction h with
  | head =>
    rw [List.map_cons, List.nodup_cons] at nd
    exact ⟨fun w e => (if_pos rfl).trans e, l.2.skip nd.1⟩
  | @tail y o ns vs x v vs' h ih =>
    rw [List.map_cons, List.nodup_cons] at nd
    have hne : y.1 ≠ x := fun e => nd.1 (e ▸ List.mem_map.mpr ⟨_, h.kd.mem, rfl⟩)
    exact ⟨fun w e => (if_neg hne).trans (l.1 w e), ih nd.2 l.2⟩

/-! ### the state of a frame -/
structure Wd (P : Params) (s₀ : Shared) (B₀ : G) (env : Env) (ns : List (Str × NameKind)) (B : G) (s : Shared) (vs : List (Option Value)) (os : List (Addr × AO)) : Prop where
  names : env.scope.names = ns
  kind : env.scope.kind = .function
  glo : env.globals = mainGlobals
  blt : env.builtins = builtinsNs
  nd : (ns.map Prod.fst).Nodup
  nodebug : ∀ p ∈ ns, (p.1 == ("__debug__" : Str)) = false
  gens : s.gens = s₀.gens
  drawn : s.drawn = s₀.drawn
  osys : s.os = s₀.os
  sub : Sub B₀ B
  stat : Stat P B
  keep : Sub B s.heap.get?
  loc : ∃ m, s.heap.Ns env.locals m ∧ LocIs m ns vs
  objs : ∀ p ∈ os, p.2.Is s.heap.get? p.1
  apart : (env.locals :: os.map Prod.fst).Nodup
  fresh : ∀ a ∈ env.locals :: os.map Prod.fst, B a = none

section
variable {P : Params} {s₀ : Shared} {B₀ : G} {env : Env} {ns : List (Str × NameKind)} {B : G} {s : Shared} {vs : List (Option Value)} {os : List (Addr × AO)}

theorem Wd.at (W : Wd P s₀ B₀ env ns B s vs os) {a : Addr} {x : AO} (h : (a, x) ∈ os) : x.Is s.heap.get? a := W.objs _ h
theorem Wd.ofB (W : Wd P s₀ B₀ env ns B s vs os) {a : Addr} {x : AO} (h : x.Is B a) : x.Is s.heap.get? a := h.mono W.keep
theorem Wd.nolimit (W : Wd P s₀ B₀ env ns B s vs os) : s.heap.NoLimit := let ⟨mc, a, b⟩ := W.stat.nolimit; ⟨mc, a.mono W.keep, b⟩
theorem Wd.L_ne (W : Wd P s₀ B₀ env ns B s vs os) {b : Addr} {o : Obj} (h : B b = some o) : b ≠ env.locals := fun e => by
  have := W.fresh _ (List.mem_cons_self (a := env.locals)); rw [← e, h] at this; cases this
theorem Wd.os_ne (W : Wd P s₀ B₀ env ns B s vs os) {a b : Addr} {x : AO} {o : Obj} (ha : (a, x) ∈ os) (h : B b = some o) : b ≠ a := fun e => by
  have := W.fresh _ (List.mem_cons_of_mem _ (List.mem_map.mpr ⟨_, ha, rfl⟩)); rw [← e, h] at this; cases this
theorem Wd.L_os (W : Wd P s₀ B₀ env ns B s vs os) {p : Addr × AO} (hp : p ∈ os) : p.1 ≠ env.locals := fun e => by
  have := (List.nodup_cons.mp W.apart).1; exact this (e ▸ List.mem_map.mpr ⟨_, hp, rfl⟩)

/-- the heap has grown -/
theorem Wd.keeps (W : Wd P s₀ B₀ env ns B s vs os) {s' : Shared} (k : Keeps s s') : Wd P s₀ B₀ env ns B s' vs os := by
  obtain ⟨h', tk, rfl, hk⟩ := k
  exact { W with keep := W.keep.trans hk, loc := let ⟨m, a, b⟩ := W.loc; ⟨m, a.keeps hk, b⟩, objs := fun p hp => (W.objs p hp).mono hk }
theorem Wd.toks (W : Wd P s₀ B₀ env ns B s vs os) (t : Nat) : Wd P s₀ B₀ env ns B { s with toks := t } vs os := W.keeps ⟨s.heap, t, rfl, fun _ _ e => e⟩

/-- a local has been stored -/
theorem Wd.store (W : Wd P s₀ B₀ env ns B s vs os) {x : Str} {v : Value} {vs' : List (Option Value)} {h' : Heap} {t : Nat} {m : Str → Option Value} (w : Wr ns vs x v vs')
    (hl : LocIs m ns vs) (hn : h'.Ns env.locals (fun y => if y = x then some v else m y)) (hs : Heap.SameBut env.locals s.heap h') :
    Wd P s₀ B₀ env ns B { s with heap := h', toks := t } vs' os :=
  { W with
    keep := fun b o e => (hs.2 b (W.L_ne e)).trans (W.keep b o e)
    loc := ⟨_, hn, w.val W.nd hl⟩
    objs := fun p hp => (W.objs p hp).at fun o e => (hs.2 p.1 (W.L_os hp)).trans e }

inductive Upd (a : Addr) (x x' : AO) : List (Addr × AO) → List (Addr × AO) → Prop
  | head {r} : Upd a x x' ((a, x) :: r) ((a, x') :: r)
  | tail {p r r'} : Upd a x x' r r' → Upd a x x' (p :: r) (p :: r')
theorem Rd.of {ns : List (Str × NameKind)} {vs vs1 : List (Option Value)} {x : Str} {v : Value} (e : vs1 = vs) (h : Rd ns vs x v) : Rd ns vs1 x v := e ▸ h
theorem Wr.of {ns : List (Str × NameKind)} {vs vs1 vs' : List (Option Value)} {x : Str} {v : Value} (e : vs1 = vs) (h : Wr ns vs x v vs') : Wr ns vs1 x v vs' := e ▸ h
theorem mem_of {p : Addr × AO} {os1 : List (Addr × AO)} (e : os1 = os) (h : p ∈ os) : p ∈ os1 := e ▸ h
theorem Upd.of {a : Addr} {x x' : AO} {os os1 os' : List (Addr × AO)} (e : os1 = os) (h : Upd a x x' os os') : Upd a x x' os1 os' := e ▸ h
/-- the frame's lists put under names: keeps the terms small -/
theorem Wd.fold {C : Prop} (W : Wd P s₀ B₀ env ns B s vs os) (h : ∀ vs1 os1, vs1 = vs → os1 = os → Wd P s₀ B₀ env ns B s vs1 os1 → C) : C := h vs os rfl rfl W
theorem Upd.mem {a : Addr} {x x' : AO} {os os'} (u : Upd a x x' os os') : (a, x) ∈ os := by induction u with
  | head => exact .head _
  | tail _ ih => exact .tail _ ih
theorem Upd.names {a : Addr} {x x' : AO} {os os'} (u : Upd a x x' os os') : os'.map Prod.fst = os.map Prod.fst := by induction u with
  | head => rfl
  | tail _ ih => simp [ih]
theorem Upd.of_mem {a : Addr} {x x' : AO} {os os'} (u : Upd a x x' os os') (nd : (os.map Prod.fst).Nodup) : ∀ p ∈ os', p = (a, x') ∨ (p ∈ os ∧ p.1 ≠ a) := by induction u with
  | @head r =>
    intro p hp
    rcases List.mem_cons.mp hp with e | hp
    · exact .inl e
    · rw [List.map_cons, List.nodup_cons] at nd
      exact .inr ⟨.tail _ hp, fun e => nd.1 (e ▸ List.mem_map.mpr ⟨_, hp, rfl⟩)⟩
  | @tail q r r' u ih =>
    intro p hp
    rw [List.map_cons, List.nodup_cons] at nd
    rcases List.mem_cons.mp hp with e | hp
    · subst e
      exact .inr ⟨.head _, fun e => nd.1 (e ▸ List.mem_map.mpr ⟨_, u.mem, rfl⟩)⟩
    · exact (ih nd.2 p hp).imp id fun z => ⟨.tail _ z.1, z.2⟩

/-- one of the frame's own objects has been changed -/
theorem Wd.upd (W : Wd P s₀ B₀ env ns B s vs os) {a : Addr} {x x' : AO} {os'} {h' : Heap} {t : Nat} (u : Upd a x x' os os') (hx : x'.Is h'.get? a)
    (hs : Heap.ExtBut a s.heap h') : Wd P s₀ B₀ env ns B { s with heap := h', toks := t } vs os' := by
  have hL : env.locals ≠ a := fun e => W.L_os u.mem e.symm
  refine { W with
    keep := fun b o e => hs b o (W.os_ne u.mem e) (W.keep b o e)
    loc := let ⟨m, p, q⟩ := W.loc; ⟨m, p.extBut hs hL, q⟩
    objs := fun p hp => ?_
    apart := by rw [u.names]; exact W.apart
    fresh := by rw [u.names]; exact W.fresh }
  rcases u.of_mem (List.nodup_cons.mp W.apart).2 p hp with rfl | ⟨hp, hne⟩
  · exact hx
  · exact (W.objs p hp).at fun o e => hs p.1 o hne e

/-- a new object, the frame's own -/
theorem Wd.push (W : Wd P s₀ B₀ env ns B s vs os) {o : Obj} {x : AO} {t : Nat} (hx : x.Is (s.heap.push o).get? s.heap.objs.size) :
    Wd P s₀ B₀ env ns B { s with heap := s.heap.push o, toks := t } vs ((s.heap.objs.size, x) :: os) := by
  have hk : Sub s.heap.get? (s.heap.push o).get? := fun b o' e => Heap.get?_push_of_some _ e
  have lt : ∀ a ∈ env.locals :: os.map Prod.fst, a < s.heap.objs.size := fun a ha => by
    rcases List.mem_cons.mp ha with rfl | ha
    · obtain ⟨m, n, _⟩ := W.loc; exact n.lt
    · obtain ⟨p, hp, rfl⟩ := List.mem_map.mp ha
      obtain ⟨o, ho⟩ := (W.objs p hp).some
      exact Heap.lt_size ho
  refine { W.keeps ⟨_, t, rfl, hk⟩ with
    objs := fun p hp => ?_
    apart := ?_
    fresh := ?_ }
  · rcases List.mem_cons.mp hp with rfl | hp
    · exact hx
    · exact (W.objs p hp).mono hk
  · rw [List.map_cons]
    refine (List.Perm.swap _ _ _).nodup_iff.mpr (List.nodup_cons.mpr ⟨fun e => Nat.lt_irrefl _ (lt _ e), W.apart⟩)
  · intro a ha
    rw [List.map_cons] at ha
    have ha : a = s.heap.objs.size ∨ a ∈ env.locals :: os.map Prod.fst := by
      rcases List.mem_cons.mp ha with e | ha
      · exact .inr (e ▸ List.mem_cons_self)
      · exact (List.mem_cons.mp ha).imp id fun h => List.mem_cons_of_mem _ h
    rcases ha with rfl | ha
    · cases e : B s.heap.objs.size with
      | none => rfl
      | some o => exact absurd (Heap.lt_size (W.keep _ _ e)) (Nat.lt_irrefl _)
    · exact W.fresh a ha

/-- fewer things known -/
theorem Wd.drop (W : Wd P s₀ B₀ env ns B s vs os) {os' : List (Addr × AO)} (h : os'.Sublist os) : Wd P s₀ B₀ env ns B s vs os' :=
  { W with
    objs := fun p hp => W.objs p (h.subset hp)
    apart := W.apart.sublist ((h.map _).cons_cons _)
    fresh := fun a ha => W.fresh a (((h.map Prod.fst).cons_cons env.locals).subset ha) }
inductive Less : List (Option Value) → List (Option Value) → Prop
  | nil {ws} : Less [] ws
  | same {o us ws} : Less us ws → Less (o :: us) (o :: ws)
  | none {o us ws} : Less us ws → Less (.none :: us) (o :: ws)
theorem Less.refl : ∀ vs, Less vs vs
  | [] => .nil
  | _ :: vs => .same (Less.refl vs)
theorem LocIs.weak {m : Str → Option Value} {ns : List (Str × NameKind)} {vs vs' : List (Option Value)} (h : Less vs' vs) : LocIs m ns vs → LocIs m ns vs' := by
  induction h generalizing ns with
  | nil => intro _; cases ns <;> (unfold LocIs; trivial)
  | same _ ih => intro l; cases ns with
    | nil => unfold LocIs; trivial
    | cons p ns => exact ⟨l.1, ih l.2⟩
  | none _ ih => intro l; cases ns with
    | nil => unfold LocIs; trivial
    | cons p ns => exact ⟨(fun v e => by cases e), ih l.2⟩
/-- a value more or less told -/
theorem Wd.forget (W : Wd P s₀ B₀ env ns B s vs os) {vs' : List (Option Value)} (h : Less vs' vs) : Wd P s₀ B₀ env ns B s vs' os :=
  { W with loc := let ⟨m, a, b⟩ := W.loc; ⟨m, a, b.weak h⟩ }

/-- all that stands and is not the frame's own, or only told, is the new base -/
noncomputable def hide (X : List Addr) (g : G) : G := fun b => if b ∈ X then none else g b
theorem hide_sub (X : List Addr) (g : G) : Sub (hide X g) g := fun b o e => by
  unfold hide at e; split at e
  · cases e
  · exact e
theorem Wd.rebase (W : Wd P s₀ B₀ env ns B s vs os) : Sub B (hide (env.locals :: os.map Prod.fst) s.heap.get?) ∧ Wd P s₀ B₀ env ns (hide (env.locals :: os.map Prod.fst) s.heap.get?) s vs os := by
  have k : Sub B (hide (env.locals :: os.map Prod.fst) s.heap.get?) := fun b o e => by
    unfold hide
    rw [if_neg (fun hb => by rw [W.fresh b hb] at e; cases e)]
    exact W.keep b o e
  exact ⟨k, { W with sub := W.sub.trans k, stat := W.stat.mono k, keep := hide_sub _ _, fresh := fun a ha => by unfold hide; rw [if_pos ha] }⟩
/-- what stood nowhere when the frame's things were known stands in the new base -/
theorem hide_new {X : List Addr} {g : G} {a : Addr} {x : AO} (h : x.Is g a) (ha : a ∉ X) : x.Is (hide X g) a := h.at fun o e => by unfold hide; rw [if_neg ha]; exact e
end
end
-- Ev
section
open PySem PySem.W PyProof.Rows
structure AOk (A : Around) (n : Nat) : Prop where
  handled : A.handled = none
  depth : A.depth + n < recursionLimit
  units : A.units + 20 * n < cLine

theorem AOk.deeper {A : Around} {n : Nat} (h : AOk A (n + 1)) (env : Env) : AOk (A.deeper env) n :=
  ⟨h.handled, by have := h.depth; show A.depth + 1 + n < _; (first | with_reducible assumption | exact Nat.le_of_ble_eq_true rfl | exact Nat.add_le_add_left (Nat.le_of_ble_eq_true rfl) _ | exact Nat.le_trans (by assumption) (Nat.le_of_ble_eq_true rfl) | exact Nat.lt_of_le_of_lt (by assumption) (Nat.le_of_ble_eq_true rfl) | exact Nat.le_trans (Nat.le_of_eq (by assumption)) (Nat.le_trans (by assumption) (Nat.le_of_ble_eq_true rfl)) | lia | omega), by have := h.units; show A.units + 3 + 20 * n < _; (first | with_reducible assumption | exact Nat.le_of_ble_eq_true rfl | exact Nat.add_le_add_left (Nat.le_of_ble_eq_true rfl) _ | exact Nat.le_trans (by assumption) (Nat.le_of_ble_eq_true rfl) | exact Nat.lt_of_le_of_lt (by assumption) (Nat.le_of_ble_eq_true rfl) | exact Nat.le_trans (Nat.le_of_eq (by assumption)) (Nat.le_trans (by assumption) (Nat.le_of_ble_eq_true rfl)) | lia | omega)⟩
theorem AOk.less {A : Around} {n m : Nat} (h : AOk A n) (hm : m ≤ n) : AOk A m :=
  ⟨h.handled, by have := h.depth; (first | with_reducible assumption | exact Nat.le_of_ble_eq_true rfl | exact Nat.add_le_add_left (Nat.le_of_ble_eq_true rfl) _ | exact Nat.le_trans (by assumption) (Nat.le_of_ble_eq_true rfl) | exact Nat.lt_of_le_of_lt (by assumption) (Nat.le_of_ble_eq_true rfl) | exact Nat.le_trans (Nat.le_of_eq (by assumption)) (Nat.le_trans (by assumption) (Nat.le_of_ble_eq_true rfl)) | lia | omega), by have := h.units; (first | with_reducible assumption | exact Nat.le_of_ble_eq_true rfl | exact Nat.add_le_add_left (Nat.le_of_ble_eq_true rfl) _ | exact Nat.le_trans (by assumption) (Nat.le_of_ble_eq_true rfl) | exact Nat.lt_of_le_of_lt (by assumption) (Nat.le_of_ble_eq_true rfl) | exact Nat.le_trans (Nat.le_of_eq (by assumption)) (Nat.le_trans (by assumption) (Nat.le_of_ble_eq_true rfl)) | lia | omega)⟩

section
variable {prog : Program} {w : World} {A : Around} {E : Value → Shared → Prop}
variable {P : Params} {s₀ : Shared} {B₀ : G} {env : Env} {ns : List (Str × NameKind)} {B : G} {s : Shared} {vs vs' : List (Option Value)} {os os' : List (Addr × AO)} {x : Str} {v : Value} {pos : Pos}

theorem Wd.kd {k : NameKind} (W : Wd P s₀ B₀ env ns B s vs os) (h : Kd ns x k) : env.kindOf x = some k := by
  unfold Env.kindOf; rw [W.names]; exact h.lookup W.nd
theorem ev_local {M : Model} {Q : Value → Shared → Prop} (W : Wd P s₀ B₀ env ns B s vs os) (hr : Rd ns vs x v) (h : Q v s) : wpAny M A (eval (.Name x pos) env) Q E s :=
  let ⟨_, hn, hl⟩ := W.loc
  wpAny_Name (wpAny_loadName_local W.kind (W.kd hr.kd) hn (hr.val hl) h) (W.nodebug _ hr.kd.mem)
theorem ld_local {M : Model} {Q : Value → Shared → Prop} (W : Wd P s₀ B₀ env ns B s vs os) (hr : Rd ns vs x v) (h : Q v s) : wpAny M A (loadName env x) Q E s :=
  let ⟨_, hn, hl⟩ := W.loc
  wpAny_loadName_local W.kind (W.kd hr.kd) hn (hr.val hl) h

theorem ev_glob {M : Model} {Q : Value → Shared → Prop} (W : Wd P s₀ B₀ env ns B s vs os) (hk : Kd ns x .globalImplicit) (hg : Glob x v) (h : Q v s) : wpAny M A (eval (.Name x pos) env) Q E s := by
  obtain ⟨mg, mb, g, b, c, d⟩ := W.stat.names
  have g' : s.heap.Ns env.globals mg := by rw [W.glo]; exact g.mono W.keep
  exact Calls.Name_function_global W.kind (W.kd hk) (Calls.loadGlobal_global g' (c x v hg) h) (W.nodebug _ hk.mem)
theorem ev_blt {M : Model} {Q : Value → Shared → Prop} (W : Wd P s₀ B₀ env ns B s vs os) (hk : Kd ns x .globalImplicit) (hg : Blt x v) (h : Q v s) : wpAny M A (eval (.Name x pos) env) Q E s := by
  obtain ⟨mg, mb, g, b, c, d⟩ := W.stat.names
  have g' : s.heap.Ns env.globals mg := by rw [W.glo]; exact g.mono W.keep
  have b' : s.heap.Ns env.builtins mb := by rw [W.blt]; exact b.mono W.keep
  exact Calls.Name_function_global W.kind (W.kd hk) (Calls.loadGlobal_builtin g' (d x v hg).1 b' (d x v hg).2 h) (W.nodebug _ hk.mem)
theorem ev_cell {M : Model} {Q : Value → Shared → Prop} {c : Addr} (W : Wd P s₀ B₀ env ns B s vs os) (hk : Kd ns x .cell) (hc : env.cells.lookup x = some c) (hv : (AO.cell (some v)).Is s.heap.get? c) (h : Q v s) :
    wpAny M A (eval (.Name x pos) env) Q E s :=
  wpAny_Name (wpAny_loadName_cell W.kind (W.kd hk) hc hv h) (W.nodebug _ hk.mem)
theorem ev_free {M : Model} {Q : Value → Shared → Prop} {c : Addr} (W : Wd P s₀ B₀ env ns B s vs os) (hk : Kd ns x .free) (hc : env.cells.lookup x = some c) (hv : (AO.cell (some v)).Is s.heap.get? c) (h : Q v s)
    (hn : (x == ("__classdict__" : Str)) = false := by decide) : wpAny M A (eval (.Name x pos) env) Q E s :=
  wpAny_Name (wpAny_loadName_free W.kind (W.kd hk) hc hv h hn) (W.nodebug _ hk.mem)

theorem st_local {M : Model} {Q : Unit → Shared → Prop} (W : Wd P s₀ B₀ env ns B s vs os) (hw : Wr ns vs x v vs') (h : ∀ s', Wd P s₀ B₀ env ns B s' vs' os → Q () s') : wpAny M A (storeName env x v) Q E s :=
  let ⟨_, hn, hl⟩ := W.loc
  wpAny_storeName_local (W.kd hw.kd) hn (fun h' hn' hs' => h _ (W.store hw hl hn' hs')) (by rw [W.kind]; rfl)
theorem st_cell {M : Model} {Q : Unit → Shared → Prop} {c : Addr} {v₀ : Option Value} (W : Wd P s₀ B₀ env ns B s vs os) (hk : Kd ns x .cell) (hc : env.cells.lookup x = some c) (u : Upd c (.cell v₀) (.cell (some v)) os os')
    (h : ∀ s', Wd P s₀ B₀ env ns B s' vs os' → Q () s') : wpAny M A (storeName env x v) Q E s :=
  wpAny_storeName_cell W.kind (W.kd hk) hc (W.at u.mem) (fun h' hn' hs' => h _ (W.upd (t := s.toks) u hn' hs'.extBut))

theorem Wd.done {s' : Shared} (W : Wd P s s.heap.get? env ns B s' vs os) : Keeps s s' := by
  refine ⟨s'.heap, s'.toks, ?_, fun b o e => W.keep b o (W.sub b o e)⟩
  have h1 := W.gens; have h2 := W.drawn; have h3 := W.osys
  cases s'; cases s; simp_all

theorem keeps_refl (s : Shared) : Keeps s s := ⟨s.heap, s.toks, rfl, fun _ _ e => e⟩
theorem keeps_trans {s s' s'' : Shared} (x : Keeps s s') (y : Keeps s' s'') : Keeps s s'' := by
  obtain ⟨h, t, rfl, k⟩ := x
  obtain ⟨h', t', rfl, k'⟩ := y
  exact ⟨h', t', rfl, fun b o e => k' b o (k b o e)⟩
theorem keeps_sub {s s' : Shared} (x : Keeps s s') : Sub s.heap.get? s'.heap.get? := by obtain ⟨h, t, rfl, k⟩ := x; exact k
theorem keeps_push (s : Shared) (o : Obj) (t : Nat) : Keeps s { s with heap := s.heap.push o, toks := t } := ⟨_, _, rfl, fun _ _ e => Heap.get?_push_of_some _ e⟩

/-- the frame of a def of the text: no cells -/
noncomputable def frameOf (fd : FuncData) (f L : Addr) : Env := newEnv fd.scope L fd.globals fd.closure (fd.qualname ++ ".<locals>.") (some f) fd.code none fd.builtins

theorem call_fn {f : Addr} {o : Obj} {fd : FuncData} {body : List Stmt} {args : List Value} {Q : Value → Shared → Prop} {n : Nat}
    (S : Stat P s.heap.get?) (hA : AOk A (n + 1)) (ho : s.heap.get? f = some o) (hd : o.data = .func fd) (hbody : fd.body = .stmts body)
    (hcode : s.heap.CodeRec fd.code fd.qualname) (hco : fd.scope.isCoroutine = false) (hgen : fd.scope.isGenerator = false) (hkind : fd.scope.kind = .function)
    (hglo : fd.globals = mainGlobals) (hblt : fd.builtins = builtinsNs) (hcell : ∀ x ∈ fd.scope.names, x.2 ≠ .cell)
    (hnd : (fd.scope.names.map Prod.fst).Nodup) (hdb : ∀ p ∈ fd.scope.names, (p.1 == ("__debug__" : Str)) = false)
    (hbind : wpAny (model prog w) A.in1 (bindArgs fd ⟨args, []⟩) (fun binds s₁ => Keeps s s₁ ∧ (binds.all fun x => decide (fd.scope.names.lookup x.1 = some .local)) = true ∧
      ∀ env L s₂, env = frameOf fd f L → Wd P s s.heap.get? env fd.scope.names s₁.heap.get? s₂ (fd.scope.names.map fun p => binds.reverse.lookup p.1) [] → AOk (A.deeper env) n →
        wpAny (model prog w) (A.deeper env) (execs body env) (fun fl s' => Q (match fl with | .ret v => v | _ => .none) s') (fun _ _ => False) s₂) (fun _ _ => False) s) :
    wpAny (model prog w) A (call (.ref f) args) Q E s := by
  refine wpAny_call (codeAny_call_function (by have := hA.depth; (first | with_reducible assumption | exact Nat.le_of_ble_eq_true rfl | exact Nat.add_le_add_left (Nat.le_of_ble_eq_true rfl) _ | exact Nat.le_trans (by assumption) (Nat.le_of_ble_eq_true rfl) | exact Nat.lt_of_le_of_lt (by assumption) (Nat.le_of_ble_eq_true rfl) | exact Nat.le_trans (Nat.le_of_eq (by assumption)) (Nat.le_trans (by assumption) (Nat.le_of_ble_eq_true rfl)) | lia | omega)) ho hd hco hgen hbody hcode ?_)
  refine wpAny_mono hbind (fun binds s₁ h₁ => ?_) fun _ _ x => x.elim
  obtain ⟨hk, hl, h⟩ := h₁
  have nl : s₁.heap.NoLimit := let ⟨mc, a, b⟩ := S.nolimit; ⟨mc, a.mono (keeps_sub hk), b⟩
  refine wpAny_newFunctionEnv hcell (locs hl) (fun h' hns hsb => ⟨nl.fresh _ hsb, codeAny_func (wpAny_mono (h _ s₁.heap.objs.size _ rfl ?_ (hA.deeper _)) (fun fl s' z => z) fun _ _ x => x.elim)⟩) hkind
  obtain ⟨h1, t1, rfl, hk1⟩ := hk
  have keep : Sub h1.get? h'.get? := fun b o e => hsb.extBut b o (Nat.ne_of_lt (Heap.lt_size e)) (Heap.get?_push_of_some _ e)
  refine { names := rfl, kind := hkind, glo := hglo, blt := hblt, nd := hnd, nodebug := hdb, gens := rfl, drawn := rfl, osys := rfl, sub := hk1, stat := S.mono hk1, keep := keep,
           loc := ⟨_, hns, ?_⟩, objs := fun _ h => (nomatch h), apart := by simp, fresh := fun a ha => ?_ }
  · show LocIs _ fd.scope.names _
    generalize fd.scope.names = l
    induction l with
    | nil => unfold LocIs; trivial
    | cons p l ih => exact ⟨fun v e => e, ih⟩
  · have : a = h1.objs.size := by simpa [frameOf, newEnv] using ha
    subst this
    cases e : h1.get? h1.objs.size with
    | none => rfl
    | some o => exact absurd (Heap.lt_size e) (Nat.lt_irrefl _)
end
end
-- Rep
section
open PySem PySem.W PyProof.Rows
theorem bind_star {M : Model} {A : Around} {E : Value → Shared → Prop} {s : Shared} {fd : FuncData} {pa pb : Arg} {v : Value} {rest : List Value} {Q : List (Str × Value) → Shared → Prop}
    (hp : fd.params = ⟨[], [pa], some pb, [], [], none, []⟩) (hd : fd.defaults = .none) (hsz : rest.length ≤ sizeLine)
    (h : Q [(pa.arg, v), (pb.arg, .ref s.heap.objs.size)] { s with heap := s.heap.push { cls := .type "tuple", data := .seq rest.toArray } }) :
    wpAny M A (bindArgs fd ⟨v :: rest, []⟩) Q E s := by
  unfold bindArgs
  have e : seqItems? Value.none = pure none := rfl
  rw [hp, hd, e]
  simp
  exact wpAny_map (wpAny_newTuple h hsz)

section
variable {P : Params} {s₀ : Shared} {B₀ : G} {env : Env} {ns : List (Str × NameKind)} {B : G} {s : Shared} {vs : List (Option Value)} {os : List (Addr × AO)}
theorem Wd.freeze {a : Addr} {x : AO} (W : Wd P s₀ B₀ env ns B s vs ((a, x) :: os)) : ∃ B', Sub B B' ∧ x.Is B' a ∧ Wd P s₀ B₀ env ns B' s vs os := by
  have hx := W.at (.head _)
  have ha : a ∉ env.locals :: os.map Prod.fst := fun h => by
    have nd := W.apart
    rw [List.map_cons] at nd
    rcases List.mem_cons.mp h with e | h
    · exact (List.nodup_cons.mp nd).1 (e ▸ List.mem_cons_self)
    · exact (List.nodup_cons.mp (List.nodup_cons.mp nd).2).1 h
  have W' := W.drop (os' := os) (List.sublist_cons_self _ _)
  exact ⟨_, W'.rebase.1, hide_new hx ha, W'.rebase.2⟩
theorem Wd.freezeC {a : Addr} {x : AO} {p : Prop} (W : Wd P s₀ B₀ env ns B s vs ((a, x) :: os)) (k : ∀ B', Sub B B' → x.Is B' a → Wd P s₀ B₀ env ns B' s vs os → p) : p :=
  let ⟨B', h1, h2, h3⟩ := W.freeze
  k B' h1 h2 h3
end

section
variable {prog : Program} {w : World} {A : Around} {E : Value → Shared → Prop} {s : Shared} {env : Env}
theorem ex_while {test : Expr} {body : List Stmt} {pos : Pos} {Q : Flow → Shared → Prop} (I : Nat → Shared → Prop)
    (turn : ∀ n s, I n s → wpAny (model prog w) A (isTrue test env (eval test env)) (fun b s₂ => if b = true then wpAny (model prog w) A (execs body env) (fun f s₃ => match f with
        | .next | .cont => ∃ m, m < n ∧ I m s₃
        | .brk => Q .next s₃
        | .ret v => Q (.ret v) s₃) (fun _ _ => False) s₂ else Q .next s₂) (fun _ _ => False) s)
    (n : Nat) (h : I n s) : wpAny (model prog w) A (exec (.While test body [] pos) env) Q E s := by
  refine wpAny_While (codeAny_whileLoop I (fun n s hI => ?_) n h)
  refine wpAny_mono (turn n s hI) (fun b s₂ h₂ => ?_) fun _ _ x => x.elim
  cases b with
  | true =>
    simp only [if_true] at h₂ ⊢
    refine wpAny_mono h₂ (fun f s₃ h₃ => ?_) fun _ _ x => x.elim
    cases f <;> exact h₃
  | false =>
    simp only [Bool.false_eq_true, if_false] at h₂ ⊢
    exact wpAny_execs_nil h₂
end

noncomputable def repl : Str → List Str → Str
  | x, a :: b :: r => repl (Txt.join b (Txt.split x a)) r
  | x, _ => x

noncomputable def ROk : Str → List Str → Prop
  | x, a :: b :: r => (a.length == 0) = false ∧ x.length ≤ 10000 ∧ JoinOk b (Txt.split x a) = true ∧ ROk (Txt.join b (Txt.split x a)) r
  | _, [] => True
  | _, [_] => False

theorem strValues_cons (p : Str × Tok) (l : List (Str × Tok)) : strValues (p :: l) = .str p.1 p.2 :: strValues l := rfl

theorem replace_spec {prog : Program} {w : World} {A : Around} {E : Value → Shared → Prop} {s : Shared} {x : Str} {t : Tok} {l : List (Str × Tok)} {Q : Value → Shared → Prop}
    (S : Stat w.params s.heap.get?) (hA : AOk A 1) (hl : l.length ≤ 100) (hok : ROk x (l.map (·.1)))
    (h : ∀ t' s', Keeps s s' → Q (.str (repl x (l.map (·.1))) t') s') :
    wpAny (model prog w) A (call (.ref 21) (.str x t :: strValues l)) Q E s := by
  have ho := S.K 21 _ rfl
  have hc := S.K 20 _ rfl
  refine call_fn (n := 0) S hA ho rfl rfl ⟨_, _, _, _, rfl, hc, rfl, rfl⟩ rfl rfl rfl rfl rfl (by decide) (by decide) (by decide) ?_
  clear ho hc
  refine bind_star rfl rfl (by simp [strValues, sizeLine_eq]; (first | with_reducible assumption | exact Nat.le_of_ble_eq_true rfl | exact Nat.add_le_add_left (Nat.le_of_ble_eq_true rfl) _ | exact Nat.le_trans (by assumption) (Nat.le_of_ble_eq_true rfl) | exact Nat.lt_of_le_of_lt (by assumption) (Nat.le_of_ble_eq_true rfl) | exact Nat.le_trans (Nat.le_of_eq (by assumption)) (Nat.le_trans (by assumption) (Nat.le_of_ble_eq_true rfl)) | lia | omega)) ⟨keeps_push _ _ _, rfl, fun env L s₂ he W hA' => ?_⟩
  replace W : Wd w.params s s.heap.get? env [("text", .local), ("pairs", .local)] _ s₂ [some (.str x t), some (.ref s.heap.objs.size)] [] := W
  have ht : (AO.tuple (strValues l)).Is (s.heap.push { cls := .type "tuple", data := .seq (strValues l).toArray }).get? s.heap.objs.size := ⟨_, Heap.get?_push_size _ rfl, rfl, _, rfl⟩
  clear he
  refine wpAny_execs_cons (ex_while (fun n s' => ∃ B x' t' l' a, Wd w.params s s.heap.get? env [("text", .local), ("pairs", .local)] B s' [some (.str x' t'), some (.ref a)] [] ∧ (AO.tuple (strValues l')).Is B a ∧
    n = l'.length ∧ l'.length ≤ 100 ∧ ROk x' (l'.map (·.1)) ∧ repl x' (l'.map (·.1)) = repl x (l.map (·.1))) ?_ l.length ⟨_, x, t, l, _, W, ht, rfl, hl, hok, rfl⟩)
  clear W ht
  rintro n s' ⟨B, x', t', l', a, W, ht, rfl, hl', hok', he⟩
  refine isTrue_plain (ev_local W (.tail .head) (truthy_tuple (W.ofB ht) ?_ ?_))
  · simp [strValues]; (first | with_reducible assumption | exact Nat.le_of_ble_eq_true rfl | exact Nat.add_le_add_left (Nat.le_of_ble_eq_true rfl) _ | exact Nat.le_trans (by assumption) (Nat.le_of_ble_eq_true rfl) | exact Nat.lt_of_le_of_lt (by assumption) (Nat.le_of_ble_eq_true rfl) | exact Nat.le_trans (Nat.le_of_eq (by assumption)) (Nat.le_trans (by assumption) (Nat.le_of_ble_eq_true rfl)) | lia | omega)
  match l', ht, hok', he with
  | [], ht, hok', he =>
    refine wpAny_execs_cons (wpAny_Return_some (ev_local (W.toks _) .head ?_))
    rw [← he] at h
    exact h _ _ (W.toks _).done
  | [_], ht, hok', he => exact hok'.elim
  | p :: q :: r, ht, hok', he =>
    obtain ⟨h1, h2, h3, h4⟩ := hok'
    show wpAny _ _ _ _ _ _
    refine wpAny_execs_cons (wpAny_Assign_Name ?_)
    refine MethodCall_ (Subscript_ (ev_local (W.toks _) (.tail .head) (wpAny_Constant_int ?_)))
    refine item_tuple (x := .str q.1 q.2) (W.ofB ht) (by decide) (by decide) (j := 1) (by simp [strValues, seqIndex?]; (first | with_reducible assumption | exact Nat.le_of_ble_eq_true rfl | exact Nat.add_le_add_left (Nat.le_of_ble_eq_true rfl) _ | exact Nat.le_trans (by assumption) (Nat.le_of_ble_eq_true rfl) | exact Nat.lt_of_le_of_lt (by assumption) (Nat.le_of_ble_eq_true rfl) | exact Nat.le_trans (Nat.le_of_eq (by assumption)) (Nat.le_trans (by assumption) (Nat.le_of_ble_eq_true rfl)) | lia | omega)) rfl ?_
    with_reducible refine GM.join ?_
    refine callWith_method1 ?_
    refine args_cons (MethodCall_ (ev_local (W.toks _) .head ?_))
    with_reducible refine GM.split ?_
    refine callWith_method1 ?_
    refine args_cons (Subscript_ (ev_local (W.toks _) (.tail .head) (wpAny_Constant_int ?_)))
    refine item_tuple (x := .str p.1 p.2) (W.ofB ht) (by decide) (by decide) (j := 0) (by simp [strValues, seqIndex?]; (first | with_reducible assumption | exact Nat.le_of_ble_eq_true rfl | exact Nat.add_le_add_left (Nat.le_of_ble_eq_true rfl) _ | exact Nat.le_trans (by assumption) (Nat.le_of_ble_eq_true rfl) | exact Nat.lt_of_le_of_lt (by assumption) (Nat.le_of_ble_eq_true rfl) | exact Nat.le_trans (Nat.le_of_eq (by assumption)) (Nat.le_trans (by assumption) (Nat.le_of_ble_eq_true rfl)) | lia | omega)) rfl (args_nil ?_)
    refine SCH.split1 (P := fun h' => Sub s'.heap.get? h'.get?) (fun _ _ k b o e => Heap.get?_push_of_some _ (k b o e)) (Sub.refl _) h1 (fun D ls h' k hls hk hD => ?_) ?_ ?_
    · have K1 : Keeps s' { s' with heap := h', toks := k } := ⟨h', k, rfl, hk⟩
      have W1 := W.keeps K1
      refine args_nil ?_
      refine SC.join (l := ls) hD hls h3 (fun t1 k1 => ?_)
      have W2 := W1.toks k1
      refine st_local W2 .head (fun s3 W3 => ?_)
      show wpAny _ _ _ _ _ _
      refine wpAny_execs_cons (wpAny_Assign_Name ?_)
      refine Subscript_ (ev_local W3 (.tail .head) (wpAny_Slice (evalPart_some_step (wpAny_Constant_int (evalPart_none_step (evalPart_none_step ?_))))))
      have W4 := (W3.toks (s3.toks + 1)).keeps (keeps_push { s3 with toks := s3.toks + 1 } { cls := .type "slice", data := .fields #[.int 2 s3.toks, .none, .none] } (s3.toks + 1))
      refine subscriptTail_ops (ops := [.ref s3.heap.objs.size, .ref a]) (Heap.IsTuple.typeIs (W4.ofB ht)) slot_tuple_getitem.lookup
        (getItem_tuple_from (W4.ofB ht) (Heap.IsSliceOf.new s3.heap (.int 2 s3.toks) .none .none) (by decide) (by simp [strValues]) ?_ (by simp [strValues, sizeLine_eq] at hl' ⊢; (first | with_reducible assumption | exact Nat.le_of_ble_eq_true rfl | exact Nat.add_le_add_left (Nat.le_of_ble_eq_true rfl) _ | exact Nat.le_trans (by assumption) (Nat.le_of_ble_eq_true rfl) | exact Nat.lt_of_le_of_lt (by assumption) (Nat.le_of_ble_eq_true rfl) | exact Nat.le_trans (Nat.le_of_eq (by assumption)) (Nat.le_trans (by assumption) (Nat.le_of_ble_eq_true rfl)) | lia | omega))) rfl (fun _ => rfl)
      have W5 := W4.push (o := { cls := .type "tuple", data := .seq ((strValues (p :: q :: r)).toArray.toList.drop 2).toArray }) (x := .tuple (strValues r)) (t := s3.toks + 1) ⟨_, Heap.get?_push_size _ rfl, rfl, _, rfl⟩
      refine st_local W5 (.tail .head) (fun s6 W6 => ?_)
      refine Wd.freezeC W6 fun B' hB' ht' W7 => ?_
      refine wpAny_execs_nil ⟨r.length, by simp; (first | with_reducible assumption | exact Nat.le_of_ble_eq_true rfl | exact Nat.add_le_add_left (Nat.le_of_ble_eq_true rfl) _ | exact Nat.le_trans (by assumption) (Nat.le_of_ble_eq_true rfl) | exact Nat.lt_of_le_of_lt (by assumption) (Nat.le_of_ble_eq_true rfl) | exact Nat.le_trans (Nat.le_of_eq (by assumption)) (Nat.le_trans (by assumption) (Nat.le_of_ble_eq_true rfl)) | lia | omega), B', _, _, r, _, W7, ht', rfl, by simp at hl'; (first | with_reducible assumption | exact Nat.le_of_ble_eq_true rfl | exact Nat.add_le_add_left (Nat.le_of_ble_eq_true rfl) _ | exact Nat.le_trans (by assumption) (Nat.le_of_ble_eq_true rfl) | exact Nat.lt_of_le_of_lt (by assumption) (Nat.le_of_ble_eq_true rfl) | exact Nat.le_trans (Nat.le_of_eq (by assumption)) (Nat.le_trans (by assumption) (Nat.le_of_ble_eq_true rfl)) | lia | omega), h4, he⟩
    · exact Nat.le_trans h2 (by rw [sizeLine_eq]; (first | with_reducible assumption | exact Nat.le_of_ble_eq_true rfl | exact Nat.add_le_add_left (Nat.le_of_ble_eq_true rfl) _ | exact Nat.le_trans (by assumption) (Nat.le_of_ble_eq_true rfl) | exact Nat.lt_of_le_of_lt (by assumption) (Nat.le_of_ble_eq_true rfl) | exact Nat.le_trans (Nat.le_of_eq (by assumption)) (Nat.le_trans (by assumption) (Nat.le_of_ble_eq_true rfl)) | lia | omega))
    · rw [length_partsBetween]
      have := StrLaws.occ_length_le_len x' p.1 0 x'.length (x'.length + 1)
      rw [sizeLine_eq]
      (first | with_reducible assumption | exact Nat.le_of_ble_eq_true rfl | exact Nat.add_le_add_left (Nat.le_of_ble_eq_true rfl) _ | exact Nat.le_trans (by assumption) (Nat.le_of_ble_eq_true rfl) | exact Nat.lt_of_le_of_lt (by assumption) (Nat.le_of_ble_eq_true rfl) | exact Nat.le_trans (Nat.le_of_eq (by assumption)) (Nat.le_trans (by assumption) (Nat.le_of_ble_eq_true rfl)) | lia | omega)
end
-- Loop
section
open PySem PySem.W PyProof.Rows
section
variable {P : Params} {s₀ : Shared} {B₀ : G} {env : Env} {ns : List (Str × NameKind)} {B : G} {s : Shared} {vs : List (Option Value)} {os : List (Addr × AO)}
/-- an object that is neither told nor the frame's has changed -/
theorem Wd.extBut (W : Wd P s₀ B₀ env ns B s vs os) {a : Addr} {h' : Heap} {t : Nat} (hB : B a = none) (hL : a ∉ env.locals :: os.map Prod.fst) (hs : Heap.ExtBut a s.heap h') :
    Wd P s₀ B₀ env ns B { s with heap := h', toks := t } vs os := by
  have hne : env.locals ≠ a := fun e => hL (e ▸ List.mem_cons_self)
  exact { W with
    keep := fun b o e => hs b o (fun q => by rw [q, hB] at e; cases e) (W.keep b o e)
    loc := let ⟨m, p, q⟩ := W.loc; ⟨m, p.extBut hs hne, q⟩
    objs := fun p hp => (W.objs p hp).at fun o e => hs p.1 o (fun q => hL (q ▸ List.mem_cons_of_mem _ (List.mem_map.mpr ⟨_, hp, rfl⟩))) e }
/-- the head object has changed, and is no more told -/
theorem Wd.lose (W : Wd P s₀ B₀ env ns B s vs os) {a : Addr} {x : AO} {os' : List (Addr × AO)} {h' : Heap} {t : Nat} (e : os = (a, x) :: os') (hs : Heap.ExtBut a s.heap h') :
    Wd P s₀ B₀ env ns B { s with heap := h', toks := t } vs os' := by
  subst e
  have nd := W.apart
  rw [List.map_cons] at nd
  refine (W.drop (os' := os') (List.sublist_cons_self _ _)).extBut (W.fresh a (by simp)) ?_ hs
  intro h
  rcases List.mem_cons.mp h with e | h
  · exact (List.nodup_cons.mp nd).1 (e ▸ List.mem_cons_self)
  · exact (List.nodup_cons.mp (List.nodup_cons.mp nd).2).1 h
/-- an object that did not stand when the frame was last looked at -/
theorem Wd.add (W : Wd P s₀ B₀ env ns B s vs os) {s' : Shared} (k : Keeps s s') {a : Addr} {x : AO} (hx : x.Is s'.heap.get? a) (hn : s.heap.get? a = none) :
    Wd P s₀ B₀ env ns B s' vs ((a, x) :: os) := by
  have W' := W.keeps k
  have hL : a ∉ env.locals :: os.map Prod.fst := fun h => by
    rcases List.mem_cons.mp h with rfl | h
    · obtain ⟨m, ⟨o, _, _, e, _⟩, _⟩ := W.loc; rw [hn] at e; cases e
    · obtain ⟨p, hp, rfl⟩ := List.mem_map.mp h
      obtain ⟨o, e⟩ := (W.objs p hp).some; rw [hn] at e; cases e
  refine { W' with objs := fun p hp => ?_, apart := ?_, fresh := fun b hb => ?_ }
  · rcases List.mem_cons.mp hp with rfl | hp
    · exact hx
    · exact W'.objs p hp
  · rw [List.map_cons]
    exact (List.Perm.swap _ _ _).nodup_iff.mpr (List.nodup_cons.mpr ⟨hL, W.apart⟩)
  · rw [List.map_cons] at hb
    have hb : b = a ∨ b ∈ env.locals :: os.map Prod.fst := by
      rcases List.mem_cons.mp hb with e | hb
      · exact .inr (e ▸ List.mem_cons_self)
      · exact (List.mem_cons.mp hb).imp id fun h => List.mem_cons_of_mem _ h
    rcases hb with rfl | hb
    · cases e : B b with
      | none => rfl
      | some o => have := W.keep _ _ e; rw [hn] at this; cases this
    · exact W.fresh b hb
theorem Wd.not_in (W : Wd P s₀ B₀ env ns B s vs os) {a : Addr} (hn : s.heap.get? a = none) : a ∉ env.locals :: os.map Prod.fst := fun h => by
  rcases List.mem_cons.mp h with rfl | h
  · obtain ⟨m, ⟨o, _, _, e, _⟩, _⟩ := W.loc; rw [hn] at e; cases e
  · obtain ⟨p, hp, rfl⟩ := List.mem_map.mp h
    obtain ⟨o, e⟩ := (W.objs p hp).some; rw [hn] at e; cases e
end

/-- an iterator of known length, by its own object alone -/
structure Steps (prog : Program) (w : World) (A : Around) (g : G) (it : Addr) (n : Nat) (item : Nat → Value → Prop) (ao : Nat → AO) : Prop where
  next : ∀ {k : Nat} {s : Shared} {Q : Option Value → Shared → Prop} {E : Value → Shared → Prop}, k < n → Sub g s.heap.get? → (ao k).Is s.heap.get? it →
    (∀ v h' t, item k v → (ao (k + 1)).Is h'.get? it → Heap.ExtBut it s.heap h' → Q (some v) { s with heap := h', toks := t }) → wpAny (model prog w) A (pyNext (.ref it)) Q E s
  stop : ∀ {s : Shared} {Q : Option Value → Shared → Prop} {E : Value → Shared → Prop}, Sub g s.heap.get? → (ao n).Is s.heap.get? it →
    (∀ h', Heap.ExtBut it s.heap h' → Q none { s with heap := h' }) → wpAny (model prog w) A (pyNext (.ref it)) Q E s

theorem Steps.list {prog : Program} {w : World} {A : Around} {g : G} {it a : Addr} {items : List Value} (hh : A.handled = none) (hl : (AO.list items).Is g a) :
    Steps prog w A g it items.length (fun k v => items[k]? = some v) (fun k => .liter a k) where
  next := fun {k s Q E} hk hg hi h => by
    have hx : items.toArray[k]? = some items[k] := by simp [hk]
    refine wpAny_pyNext_list_item (hi : s.heap.IsListIter it a k) (AO.Is.isL (hl.mono hg)) hx fun h' hi' hs => ?_
    exact h _ h' s.toks (by simp [hk]) hi' hs.extBut
  stop := fun {s Q E} hg hi h => wpAny_pyNext_list_end hh (hi : s.heap.IsListIter it a items.length) (AO.Is.isL (hl.mono hg)) (by simp) fun h' hs => h h' hs

section
variable {prog : Program} {w : World} {A : Around} {E : Value → Shared → Prop} {P : Params} {s₀ : Shared} {B₀ : G} {env : Env} {ns : List (Str × NameKind)}

/-- a loop over an iterator of known length; the frame's things by φ -/
theorem for_loop {target : Expr} {body : List Stmt} {it : Addr} {n : Nat} {item : Nat → Value → Prop} {ao : Nat → AO} {B : G} {s : Shared} {vs : List (Option Value)} {os : List (Addr × AO)} {Q : Flow → Shared → Prop}
    (φ : Nat → G → List (Option Value) → List (Addr × AO) → Prop) (st : Steps prog w A B it n item ao)
    (ht : ∀ v, letOwnedTupleGo target (.ref it) v = pure ())
    (W : Wd P s₀ B₀ env ns B s vs ((it, ao 0) :: os)) (h0 : φ 0 B vs os)
    (turn : ∀ k v B' vs' os' s', k < n → item k v → Sub B B' → φ k B' vs' os' → Wd P s₀ B₀ env ns B' s' vs' ((it, ao (k + 1)) :: os') →
      wpAny (model prog w) A (assign target env v) (fun _ s₂ => wpAny (model prog w) A (execs body env) (fun f s₃ => match f with
        | .next | .cont => ∃ B'' vs'' os'', Sub B B'' ∧ φ (k + 1) B'' vs'' os'' ∧ Wd P s₀ B₀ env ns B'' s₃ vs'' ((it, ao (k + 1)) :: os'')
        | .brk => Q .next s₃
        | .ret v => Q (.ret v) s₃) (fun _ _ => False) s₂) (fun _ _ => False) s')
    (fin : ∀ B' vs' os' s', Sub B B' → φ n B' vs' os' → Wd P s₀ B₀ env ns B' s' vs' os' → Q .next s') :
    wpAny (model prog w) A (runOwn (.forLoop target (.ref it) body [] env) env) Q E s := by
  refine wpAny_runOwn (codeAny_forLoop_any (fun j s' => ∃ k B' vs' os', k ≤ n ∧ j = n - k ∧ Sub B B' ∧ φ k B' vs' os' ∧ Wd P s₀ B₀ env ns B' s' vs' ((it, ao k) :: os')) ?_ n ⟨0, B, vs, os, Nat.zero_le _, rfl, .refl _, h0, W⟩)
  rintro j s' ⟨k, B', vs', os', hk, rfl, hB, hφ, W'⟩
  rcases Nat.lt_or_eq_of_le hk with hlt | rfl
  · refine st.next hlt (hB.trans W'.keep) (W'.at (.head _)) fun v h' t hv hi hs => ?_
    have W2 : Wd P s₀ B₀ env ns B' { s' with heap := h', toks := t } vs' ((it, ao (k + 1)) :: os') := W'.upd (.head) hi hs
    refine wpAny_of_eq (ht v) ?_
    refine wpAny_mono (turn k v B' vs' os' _ hlt hv hB hφ W2) (fun _ s₂ h₂ => wpAny_mono h₂ (fun f s₃ h₃ => ?_) fun _ _ x => x.elim) fun _ _ x => x.elim
    cases f with
    | next => obtain ⟨B'', vs'', os'', a, b, c⟩ := h₃; exact ⟨n - (k + 1), by (first | with_reducible assumption | exact Nat.le_of_ble_eq_true rfl | exact Nat.add_le_add_left (Nat.le_of_ble_eq_true rfl) _ | exact Nat.le_trans (by assumption) (Nat.le_of_ble_eq_true rfl) | exact Nat.lt_of_le_of_lt (by assumption) (Nat.le_of_ble_eq_true rfl) | exact Nat.le_trans (Nat.le_of_eq (by assumption)) (Nat.le_trans (by assumption) (Nat.le_of_ble_eq_true rfl)) | lia | omega), k + 1, B'', vs'', os'', hlt, rfl, a, b, c⟩
    | cont => obtain ⟨B'', vs'', os'', a, b, c⟩ := h₃; exact ⟨n - (k + 1), by (first | with_reducible assumption | exact Nat.le_of_ble_eq_true rfl | exact Nat.add_le_add_left (Nat.le_of_ble_eq_true rfl) _ | exact Nat.le_trans (by assumption) (Nat.le_of_ble_eq_true rfl) | exact Nat.lt_of_le_of_lt (by assumption) (Nat.le_of_ble_eq_true rfl) | exact Nat.le_trans (Nat.le_of_eq (by assumption)) (Nat.le_trans (by assumption) (Nat.le_of_ble_eq_true rfl)) | lia | omega), k + 1, B'', vs'', os'', hlt, rfl, a, b, c⟩
    | brk => exact h₃
    | ret v => exact h₃
  · refine st.stop (hB.trans W'.keep) (W'.at (.head _)) fun h' hs => ?_
    exact wpAny_execs_nil (fin B' vs' os' _ hB hφ (W'.lose (t := s'.toks) rfl hs))

theorem ex_for {target iter : Expr} {body : List Stmt} {pos : Pos} {s : Shared} {Q : Flow → Shared → Prop}
    (h : wpAny (model prog w) A (eval iter env) (fun xv s₁ => wpAny (model prog w) A (pyIter xv) (fun it s₂ => wpAny (model prog w) A (runOwn (.forLoop target it body [] env) env) Q E s₂) E s₁) E s)
    (hs : ∀ x, foldedSetIterable iter env x = pure x := by intro _; rfl) :
    wpAny (model prog w) A (exec (.For target iter body [] pos) env) Q E s := by
  show wpAny _ _ (do standAt pos; let x' ← foldedSetIterable iter env (← eval iter env); standAt iter.pos; runOwn (.forLoop target (← holding [x'] (pyIter x')) body [] env) env) Q E s
  refine wpAny_bind (wpAny_standAt (wpAny_bind (wpAny_mono h (fun xv s₁ h₁ => ?_) fun _ _ e => e)))
  exact wpAny_bind (wpAny_of_eq (hs _) (wpAny_bind (wpAny_standAt (wpAny_bind (wpAny_holding h₁)))))

theorem it_list {a : Addr} {items : List Value} {B : G} {s : Shared} {vs : List (Option Value)} {os : List (Addr × AO)} {Q : Value → Shared → Prop} (W : Wd P s₀ B₀ env ns B s vs os) (hl : (AO.list items).Is s.heap.get? a)
    (h : ∀ it s', Wd P s₀ B₀ env ns B s' vs ((it, .liter a 0) :: os) → Keeps s s' → Q (.ref it) s') : wpAny (model prog w) A (pyIter (.ref a)) Q E s := by
  refine wpAny_pyIter_list hl.isL (h _ _ (W.push (o := { cls := .type "list_iterator", data := .fields #[.ref a, .int 0 0] }) (x := .liter a 0) (t := s.toks) ⟨_, Heap.get?_push_size _ rfl, rfl, rfl⟩) (keeps_push ..))
end
end
-- Cmp
section
open PySem PySem.W PyProof.Rows
section
variable {prog : Program} {w : World} {A : Around} {E : Value → Shared → Prop} {P : Params} {s₀ : Shared} {B₀ : G} {env : Env} {ns : List (Str × NameKind)} {B : G} {vs : List (Option Value)} {os : List (Addr × AO)}

theorem l_append {s : Shared} {D : Addr} {ys : List Value} {y : Value} {os' : List (Addr × AO)} {Q : Value → Shared → Prop} (W : Wd P s₀ B₀ env ns B s vs os) (u : Upd D (.list ys) (.list (ys ++ [y])) os os') (hsz : ys.length ≤ sizeLine)
    (h : ∀ s', Wd P s₀ B₀ env ns B s' vs os' → Q .none s') : wpAny (model prog w) A (call (.builtin "list.append") [.ref D, y]) Q E s := by
  obtain ⟨n, hD⟩ := (W.at u.mem).plainL
  refine call_meets PySem.F.slot_list_append ⟨_, hD, rfl⟩ PySem.F.entry_list_append (PySem.F.args_list_append_2 _ _) (list_append D ys.toArray n y (by simpa using hsz)) ⟨hD, ?_⟩
  have hx := hD.update (fun xs => xs.push y)
  have e : ys.toArray.push y = (ys ++ [y]).toArray := by simp
  rw [e] at hx
  exact h _ (W.upd (t := s.toks) u ⟨_, hx⟩ (Heap.SameBut.update ..).extBut)
theorem LocIs.nones {m : Str → Option Value} : ∀ ns : List (Str × NameKind), LocIs m ns (ns.map fun _ => none)
  | [] => by unfold LocIs; trivial
  | _ :: ns => ⟨(fun v e => by cases e), LocIs.nones ns⟩
theorem Wd.clear {s : Shared} (W : Wd P s₀ B₀ env ns B s vs os) : Wd P s₀ B₀ env ns B s (ns.map fun _ => none) os :=
  { W with loc := let ⟨m, a, b⟩ := W.loc; ⟨m, a, .nones ns⟩ }
noncomputable abbrev testsOf (ifs : List Expr) (env : Env) : Sem Bool := forIn ifs true fun c r => if r = true then do let ok ← isTrue c env (eval c env); pure (ForInStep.yield ok) else pure (ForInStep.yield r)

/-- one turn of a comprehension over a list -/
noncomputable abbrev CompStep (prog : Program) (w : World) (A : Around) (P : Params) (env : Env) (cns : List (Str × NameKind)) (s₁ : Shared) (scope : Scope) (cl : List (Str × Addr)) (vsx : Value → List (Option Value))
    (ifs : List Expr) (elt : Expr) (a : Addr) (items : List Value) (φ : Nat → G → List Value → Prop) : Prop :=
  ∀ k v cenv I D B' s' ys, items[k]? = some v → φ k B' ys → ys.length ≤ k → Sub s₁.heap.get? B' → (∃ C, cenv = compEnvC scope cl C env) →
    Wd P s₁ s₁.heap.get? cenv cns B' s' (vsx v) [(D, .list ys), (I, .liter a (k + 1))] →
    wpAny (model prog w) A (testsOf ifs cenv) (fun ok s'' =>
      (ok = false ∧ ∃ B'' vs'', Sub s₁.heap.get? B'' ∧ φ (k + 1) B'' ys ∧ Wd P s₁ s₁.heap.get? cenv cns B'' s'' vs'' [(D, .list ys), (I, .liter a (k + 1))]) ∨
      (ok = true ∧ wpAny (model prog w) A (eval elt cenv) (fun y s3 => ∃ B3 vs3, Sub s₁.heap.get? B3 ∧ φ (k + 1) B3 (ys ++ [y]) ∧
        Wd P s₁ s₁.heap.get? cenv cns B3 s3 vs3 [(D, .list ys), (I, .liter a (k + 1))]) (fun _ _ => False) s'')) (fun _ _ => False) s'

theorem comp_core {elt iter : Expr} {x : Str} {px : Pos} {ifs : List Expr} {scope : Scope} {cl : List (Str × Addr)} {pos : Pos} {cns : List (Str × NameKind)} {vsx : Value → List (Option Value)} {s₁ : Shared} {a : Addr} {items : List Value}
    {R : Value → Addr → Result → Shared → Prop} (φ : Nat → G → List Value → Prop)
    (hA : A.handled = none) (W : Wd P s₀ B₀ env ns B s₁ vs os) (hl : (AO.list items).Is s₁.heap.get? a) (hsz : items.length ≤ 100000)
    (hkind : scope.kind = .function) (hcell : ∀ y ∈ scope.names, y.2 ≠ .cell) (hcns : (relabel scope env).names = cns) (hnd : (cns.map Prod.fst).Nodup) (hdb : ∀ p ∈ cns, (p.1 == ("__debug__" : Str)) = false)
    (hw : ∀ v, Wr cns (cns.map fun _ => none) x v (vsx v)) (h0 : φ 0 s₁.heap.get? [])
    (step : CompStep prog w A P env cns s₁ scope cl vsx ifs elt a items φ)
    (fin : ∀ D C s' B' ys vs', φ items.length B' ys → Sub s₁.heap.get? B' → s₁.heap.get? D = none → s₁.heap.get? C = none → Wd P s₁ s₁.heap.get? (compEnvC scope cl C env) cns B' s' vs' [(D, .list ys)] →
      R (.ref D) C (.ok .next) s') :
    wpAny (model prog w) A (pyIter (.ref a)) (fun it s₂ => wpAny (model prog w) A (newList []) (fun acc s₃ => wpAny (model prog w) A (newFunctionEnv scope env.globals cl [] env.qual none .none (some env)) (fun cenv s₄ =>
      codeAny (model prog w) A (.compStart (.ListComp elt [⟨.Name x px, iter, ifs, 0⟩] scope pos) 0 it acc { cenv with scope := relabel scope env }) (R acc cenv.locals) s₄) E s₃) E s₂) E s₁ := by
  refine wpAny_pyIter_list hl.isL (wpAny_newList ?_ (by decide))
  refine wpAny_newFunctionEnv hcell (by intro y hy; simp at hy) (fun h₁ hns hsb => ?_) hkind
  dsimp only at hns hsb ⊢
  generalize hH1 : s₁.heap.push { cls := .type "list_iterator", data := .fields #[.ref a, .int 0 0] } = H1 at hns hsb ⊢
  generalize hH2 : H1.push { cls := .type "list", data := .seq ([] : List Value).toArray } = H2 at hns hsb ⊢
  have z1 : H1.objs.size = s₁.heap.objs.size + 1 := by rw [← hH1, Heap.size_push]
  have z2 : H2.objs.size = s₁.heap.objs.size + 2 := by rw [← hH2, Heap.size_push, z1]
  have old : Sub s₁.heap.get? H2.get? := fun b o e => hH2 ▸ Heap.get?_push_of_some _ (hH1 ▸ Heap.get?_push_of_some _ e)
  have keep : Sub s₁.heap.get? h₁.get? := fun b o e => hsb.extBut b o (Nat.ne_of_lt (Nat.lt_of_lt_of_le (Heap.lt_size e) (by (first | with_reducible assumption | exact Nat.le_of_ble_eq_true rfl | exact Nat.add_le_add_left (Nat.le_of_ble_eq_true rfl) _ | exact Nat.le_trans (by assumption) (Nat.le_of_ble_eq_true rfl) | exact Nat.lt_of_le_of_lt (by assumption) (Nat.le_of_ble_eq_true rfl) | exact Nat.le_trans (Nat.le_of_eq (by assumption)) (Nat.le_trans (by assumption) (Nat.le_of_ble_eq_true rfl)) | lia | omega)))) (Heap.get?_push_of_some _ (old b o e))
  have none_of : ∀ b, s₁.heap.objs.size ≤ b → s₁.heap.get? b = none := fun b hb => by
    cases e : s₁.heap.get? b with
    | none => rfl
    | some o => exact absurd (Heap.lt_size e) (Nat.not_lt.mpr hb)
  have hit : (AO.liter a 0).Is h₁.get? s₁.heap.objs.size :=
    ⟨_, hsb.extBut _ _ (neN (by (first | with_reducible assumption | exact Nat.le_of_ble_eq_true rfl | exact Nat.add_le_add_left (Nat.le_of_ble_eq_true rfl) _ | exact Nat.le_trans (by assumption) (Nat.le_of_ble_eq_true rfl) | exact Nat.lt_of_le_of_lt (by assumption) (Nat.le_of_ble_eq_true rfl) | exact Nat.le_trans (Nat.le_of_eq (by assumption)) (Nat.le_trans (by assumption) (Nat.le_of_ble_eq_true rfl)) | lia | omega))) (Heap.get?_push_of_some _ (hH2 ▸ Heap.get?_push_of_some _ (hH1 ▸ Heap.get?_push_size _ rfl))), rfl, rfl⟩
  have hacc : (AO.list []).Is h₁.get? H1.objs.size := ⟨0, hsb.extBut _ _ (neN (by (first | with_reducible assumption | exact Nat.le_of_ble_eq_true rfl | exact Nat.add_le_add_left (Nat.le_of_ble_eq_true rfl) _ | exact Nat.le_trans (by assumption) (Nat.le_of_ble_eq_true rfl) | exact Nat.lt_of_le_of_lt (by assumption) (Nat.le_of_ble_eq_true rfl) | exact Nat.le_trans (Nat.le_of_eq (by assumption)) (Nat.le_trans (by assumption) (Nat.le_of_ble_eq_true rfl)) | lia | omega))) (Heap.get?_push_of_some _ (hH2 ▸ Heap.get?_push_size _ rfl))⟩
  have W0 : Wd P s₁ s₁.heap.get? (compEnvC scope cl H2.objs.size env) cns s₁.heap.get? { s₁ with heap := h₁, toks := s₁.toks } (cns.map fun _ => none) [(H1.objs.size, .list []), (s₁.heap.objs.size, .liter a 0)] := by
    refine { names := hcns, kind := hkind, glo := W.glo, blt := W.blt, nd := hnd, nodebug := hdb, gens := rfl, drawn := rfl, osys := rfl, sub := .refl _, stat := W.stat.mono W.keep, keep := keep,
             loc := ⟨_, hns, ?_⟩, objs := ?_, apart := ?_, fresh := ?_ }
    · exact .nones cns
    · intro p hp
      simp only [List.mem_cons, List.mem_nil_iff, or_false] at hp
      rcases hp with rfl | rfl
      · exact hacc
      · exact hit
    · show ([H2.objs.size, H1.objs.size, s₁.heap.objs.size] : List Nat).Nodup
      simp only [List.nodup_cons, List.mem_cons, List.mem_nil_iff, or_false, not_or, List.nodup_nil, not_false_eq_true, and_true]
      (first | with_reducible assumption | exact Nat.le_of_ble_eq_true rfl | exact Nat.add_le_add_left (Nat.le_of_ble_eq_true rfl) _ | exact Nat.le_trans (by assumption) (Nat.le_of_ble_eq_true rfl) | exact Nat.lt_of_le_of_lt (by assumption) (Nat.le_of_ble_eq_true rfl) | exact Nat.le_trans (Nat.le_of_eq (by assumption)) (Nat.le_trans (by assumption) (Nat.le_of_ble_eq_true rfl)) | lia | omega)
    · intro b hb
      have hb : b = H2.objs.size ∨ b = H1.objs.size ∨ b = s₁.heap.objs.size := by simpa [compEnvC] using hb
      exact none_of b (by rcases hb with h | h | h <;> (rw [h]; first | exact Nat.le_refl _ | (simp only [z1, z2]; exact Nat.le_add_right _ _)))
  have loop : codeAny (model prog w) A (.compLoop (.ListComp elt [⟨.Name x px, iter, ifs, 0⟩] scope pos) 0 (.ref s₁.heap.objs.size) (.ref H1.objs.size) (compEnvC scope cl H2.objs.size env)) (R (.ref H1.objs.size) H2.objs.size)
      { s₁ with heap := h₁, toks := s₁.toks } := by
    refine codeAny_compLoop_tests (fun j s' => ∃ k B' ys vs', k ≤ items.length ∧ j = items.length - k ∧ Sub s₁.heap.get? B' ∧ φ k B' ys ∧ ys.length ≤ k ∧
      Wd P s₁ s₁.heap.get? (compEnvC scope cl H2.objs.size env) cns B' s' vs' [(H1.objs.size, .list ys), (s₁.heap.objs.size, .liter a k)]) ?_ items.length ⟨0, _, [], _, Nat.zero_le _, rfl, .refl _, h0, Nat.le_refl _, W0⟩
    rintro j s' ⟨k, B', ys, vs', hk, rfl, hB, hφ, hys, W'⟩
    rcases Nat.lt_or_eq_of_le hk with hlt | rfl
    · refine (Steps.list (prog := prog) (w := w) hA (hl.mono hB)).next hlt W'.keep (W'.at (.tail _ (.head _))) fun v h' t hv hi hs => ?_
      have W2 := W'.upd (t := t) (.tail .head) hi hs
      refine wpAny_assign_Name (st_local W2.clear (hw v) fun s3 W3 => ?_)
      refine wpAny_mono (step k v _ _ _ B' s3 ys hv hφ hys hB ⟨_, rfl⟩ W3) (fun ok s4 h4 => ?_) fun _ _ e => e.elim
      rcases h4 with ⟨rfl, B'', vs'', hB'', hφ'', W4⟩ | ⟨rfl, h4⟩
      · exact ⟨items.length - (k + 1), by (first | with_reducible assumption | exact Nat.le_of_ble_eq_true rfl | exact Nat.add_le_add_left (Nat.le_of_ble_eq_true rfl) _ | exact Nat.le_trans (by assumption) (Nat.le_of_ble_eq_true rfl) | exact Nat.lt_of_le_of_lt (by assumption) (Nat.le_of_ble_eq_true rfl) | exact Nat.le_trans (Nat.le_of_eq (by assumption)) (Nat.le_trans (by assumption) (Nat.le_of_ble_eq_true rfl)) | lia | omega), k + 1, B'', ys, vs'', hlt, rfl, hB'', hφ'', by (first | with_reducible assumption | exact Nat.le_of_ble_eq_true rfl | exact Nat.add_le_add_left (Nat.le_of_ble_eq_true rfl) _ | exact Nat.le_trans (by assumption) (Nat.le_of_ble_eq_true rfl) | exact Nat.lt_of_le_of_lt (by assumption) (Nat.le_of_ble_eq_true rfl) | exact Nat.le_trans (Nat.le_of_eq (by assumption)) (Nat.le_trans (by assumption) (Nat.le_of_ble_eq_true rfl)) | lia | omega), W4⟩
      · simp only [if_true]
        refine wpAny_mono h4 (fun y s5 h5 => ?_) fun _ _ e => e.elim
        obtain ⟨B3, vs3, hB3, hφ3, W5⟩ := h5
        refine l_append W5 .head (by rw [sizeLine_eq]; (first | with_reducible assumption | exact Nat.le_of_ble_eq_true rfl | exact Nat.add_le_add_left (Nat.le_of_ble_eq_true rfl) _ | exact Nat.le_trans (by assumption) (Nat.le_of_ble_eq_true rfl) | exact Nat.lt_of_le_of_lt (by assumption) (Nat.le_of_ble_eq_true rfl) | exact Nat.le_trans (Nat.le_of_eq (by assumption)) (Nat.le_trans (by assumption) (Nat.le_of_ble_eq_true rfl)) | lia | omega)) (fun s6 W6 => ?_)
        exact ⟨items.length - (k + 1), by (first | with_reducible assumption | exact Nat.le_of_ble_eq_true rfl | exact Nat.add_le_add_left (Nat.le_of_ble_eq_true rfl) _ | exact Nat.le_trans (by assumption) (Nat.le_of_ble_eq_true rfl) | exact Nat.lt_of_le_of_lt (by assumption) (Nat.le_of_ble_eq_true rfl) | exact Nat.le_trans (Nat.le_of_eq (by assumption)) (Nat.le_trans (by assumption) (Nat.le_of_ble_eq_true rfl)) | lia | omega), k + 1, B3, ys ++ [y], vs3, hlt, rfl, hB3, hφ3, by simp; (first | with_reducible assumption | exact Nat.le_of_ble_eq_true rfl | exact Nat.add_le_add_left (Nat.le_of_ble_eq_true rfl) _ | exact Nat.le_trans (by assumption) (Nat.le_of_ble_eq_true rfl) | exact Nat.lt_of_le_of_lt (by assumption) (Nat.le_of_ble_eq_true rfl) | exact Nat.le_trans (Nat.le_of_eq (by assumption)) (Nat.le_trans (by assumption) (Nat.le_of_ble_eq_true rfl)) | lia | omega), W6⟩
    · refine (Steps.list (prog := prog) (w := w) hA (hl.mono hB)).stop W'.keep (W'.at (.tail _ (.head _))) fun h' hs => ?_
      have W2 : Wd P s₁ s₁.heap.get? (compEnvC scope cl H2.objs.size env) cns B' s' vs' [(s₁.heap.objs.size, .liter a items.length), (H1.objs.size, .list ys)] := by
        refine { W' with objs := fun p hp => W'.objs p ?_, apart := ?_, fresh := fun b hb => W'.fresh b ?_ }
        · simp only [List.mem_cons, List.mem_nil_iff, or_false] at hp ⊢; exact hp.symm
        · exact ((List.Perm.swap _ _ _).cons _).nodup_iff.mp W'.apart
        · simp only [List.map_cons, List.map_nil, List.mem_cons, List.mem_nil_iff, or_false] at hb ⊢
          rcases hb with h | h | h
          · exact .inl h
          · exact .inr (.inr h)
          · exact .inr (.inl h)
      exact fin _ _ _ B' ys vs' hφ hB (none_of _ (by (first | with_reducible assumption | exact Nat.le_of_ble_eq_true rfl | exact Nat.add_le_add_left (Nat.le_of_ble_eq_true rfl) _ | exact Nat.le_trans (by assumption) (Nat.le_of_ble_eq_true rfl) | exact Nat.lt_of_le_of_lt (by assumption) (Nat.le_of_ble_eq_true rfl) | exact Nat.le_trans (Nat.le_of_eq (by assumption)) (Nat.le_trans (by assumption) (Nat.le_of_ble_eq_true rfl)) | lia | omega))) (none_of _ (by (first | with_reducible assumption | exact Nat.le_of_ble_eq_true rfl | exact Nat.add_le_add_left (Nat.le_of_ble_eq_true rfl) _ | exact Nat.le_trans (by assumption) (Nat.le_of_ble_eq_true rfl) | exact Nat.lt_of_le_of_lt (by assumption) (Nat.le_of_ble_eq_true rfl) | exact Nat.le_trans (Nat.le_of_eq (by assumption)) (Nat.le_trans (by assumption) (Nat.le_of_ble_eq_true rfl)) | lia | omega))) (W2.lose (t := s'.toks) rfl hs)
  exact codeAny_compStart_list loop (wpAny_pyIter_listiter hit loop)

theorem closure_of {scope : Scope} {cl : List (Str × Addr)} (h : closureFor scope env = pure cl) : closureFor scope env = pure cl := h

/-- a comprehension whose list is handed on -/
theorem ev_comp {elt iter : Expr} {x : Str} {px : Pos} {ifs : List Expr} {scope : Scope} {cl : List (Str × Addr)} {pos : Pos} {s : Shared} {Q : Value → Shared → Prop}
    (hclos : closureFor scope env = pure cl) (hkind : scope.kind = .function) (hnames : ∀ y ∈ scope.names, y.2 = .local → scope.names.lookup y.1 = some .local)
    (h : wpAny (model prog w) A (eval iter env) (fun xv s₁ => wpAny (model prog w) A (pyIter xv) (fun it s₂ => wpAny (model prog w) A (newList []) (fun acc s₃ =>
      wpAny (model prog w) A (newFunctionEnv scope env.globals cl [] env.qual none .none (some env)) (fun cenv s₄ =>
        codeAny (model prog w) A (.compStart (.ListComp elt [⟨.Name x px, iter, ifs, 0⟩] scope pos) 0 it acc { cenv with scope := relabel scope env }) (compPost (model prog w) A E none Q acc cenv.locals) s₄) E s₃) E s₂) E s₁) E s)
    (hs : ∀ x, foldedSetIterable iter env x = pure x := by intro _; rfl) :
    wpAny (model prog w) A (eval (.ListComp elt [⟨.Name x px, iter, ifs, 0⟩] scope pos) env) Q E s := by
  rw [eval_ListComp]
  exact wpAny_comprehension_free (use := none) rfl hs hclos hkind hnames h

/-- what is left of the frame behind a comprehension -/
theorem comp_plain {elt iter : Expr} {x : Str} {px : Pos} {ifs : List Expr} {scope : Scope} {cl : List (Str × Addr)} {pos : Pos} {cns : List (Str × NameKind)} {vsx : Value → List (Option Value)} {s₁ : Shared} {a : Addr} {items : List Value}
    {Q : Value → Shared → Prop} (φ : Nat → G → List Value → Prop)
    (hA : A.handled = none) (W : Wd P s₀ B₀ env ns B s₁ vs os) (hl : (AO.list items).Is s₁.heap.get? a) (hsz : items.length ≤ 100000)
    (hkind : scope.kind = .function) (hcell : ∀ y ∈ scope.names, y.2 ≠ .cell) (hcns : (relabel scope env).names = cns) (hnd : (cns.map Prod.fst).Nodup) (hdb : ∀ p ∈ cns, (p.1 == ("__debug__" : Str)) = false)
    (hw : ∀ v, Wr cns (cns.map fun _ => none) x v (vsx v)) (h0 : φ 0 s₁.heap.get? [])
    (step : CompStep prog w A P env cns s₁ scope cl vsx ifs elt a items φ)
    (fin : ∀ D s' B' B₂ ys, φ items.length B' ys → Sub B B₂ → (∀ (b : Addr) (y : AO), y.Is B' b → s₁.heap.get? b = none → y.Is B₂ b) → Wd P s₀ B₀ env ns B₂ s' vs ((D, .list ys) :: os) → Q (.ref D) s') :
    wpAny (model prog w) A (pyIter (.ref a)) (fun it s₂ => wpAny (model prog w) A (newList []) (fun acc s₃ => wpAny (model prog w) A (newFunctionEnv scope env.globals cl [] env.qual none .none (some env)) (fun cenv s₄ =>
      codeAny (model prog w) A (.compStart (.ListComp elt [⟨.Name x px, iter, ifs, 0⟩] scope pos) 0 it acc { cenv with scope := relabel scope env }) (compPost (model prog w) A E none Q acc cenv.locals) s₄) E s₃) E s₂) E s₁ := by
  refine comp_core φ hA W hl hsz hkind hcell hcns hnd hdb hw h0 step fun D C s' B' ys vs' hφ hB hD hC W' => ?_
  obtain ⟨m, hm, _⟩ := W'.loc
  have hDC : D ≠ C := fun e => W'.L_os (p := (D, .list ys)) (.head _) e
  have hCB : B' C = none := W'.fresh C (.head _)
  have hDB : B' D = none := W'.fresh D (by simp)
  refine ⟨m, hm, fun h' hs => ?_⟩
  have K : Keeps s₁ { s' with heap := h' } := by
    obtain ⟨h1, t1, e, k1⟩ := W'.done
    subst e
    exact ⟨h', t1, rfl, fun b o e => hs.extBut b o (fun q => by rw [q, hC] at e; cases e) (k1 b o e)⟩
  have W2 : Wd P s₀ B₀ env ns B { s' with heap := h' } vs ((D, .list ys) :: os) := W.add K ((W'.at (.head _)).at fun o e => hs.extBut D o hDC e) hD
  refine fin D _ B' _ ys hφ W2.rebase.1 (fun b y hy hb => ?_) W2.rebase.2
  refine hide_new (hy.at fun o e => ?_) ?_
  · exact hs.extBut b o (fun q => by rw [q, hCB] at e; cases e) (W'.keep b o e)
  · intro hm
    rw [List.map_cons] at hm
    have hm : b = D ∨ b ∈ env.locals :: os.map Prod.fst := by
      rcases List.mem_cons.mp hm with e | hm
      · exact .inr (e ▸ List.mem_cons_self)
      · exact (List.mem_cons.mp hm).imp id fun h => List.mem_cons_of_mem _ h
    rcases hm with rfl | hm
    · obtain ⟨o, e⟩ := hy.some; rw [hDB] at e; cases e
    · exact W.not_in hb hm

/-- «y = [..]», the store ahead of the loop's name being let go -/
theorem ex_comp {elt iter : Expr} {x y : Str} {px py : Pos} {ifs : List Expr} {scope : Scope} {cl : List (Str × Addr)} {pos spos : Pos} {s : Shared} {Q : Flow → Shared → Prop}
    (hsw : swapsWith (.ListComp elt [⟨.Name x px, iter, ifs, 0⟩] scope pos) (some (.Name y py)) spos.line env = pure true)
    (hclos : closureFor scope env = pure cl) (hkind : scope.kind = .function) (hnames : ∀ y ∈ scope.names, y.2 = .local → scope.names.lookup y.1 = some .local)
    (h : wpAny (model prog w) A (eval iter env) (fun xv s₁ => wpAny (model prog w) A (pyIter xv) (fun it s₂ => wpAny (model prog w) A (newList []) (fun acc s₃ =>
      wpAny (model prog w) A (newFunctionEnv scope env.globals cl [] env.qual none .none (some env)) (fun cenv s₄ =>
        codeAny (model prog w) A (.compStart (.ListComp elt [⟨.Name x px, iter, ifs, 0⟩] scope pos) 0 it acc { cenv with scope := relabel scope env })
          (compPost (model prog w) A E (some (assign (.Name y py) env)) (fun _ s' => Q .next s') acc cenv.locals) s₄) E s₃) E s₂) E s₁) E s)
    (hs : ∀ x, foldedSetIterable iter env x = pure x := by intro _; rfl) :
    wpAny (model prog w) A (exec (.Assign [.Name y py] (.ListComp elt [⟨.Name x px, iter, ifs, 0⟩] scope pos) spos) env) Q E s := by
  rw [exec_Assign_Name_used _ _ _ _ hsw]
  refine wpAny_bind (wpAny_standAt (wpAny_bind ?_))
  show wpAny _ A (do let _ ← comprehension (.ListComp elt [⟨.Name x px, iter, ifs, 0⟩] scope pos) scope env _ (newList []) false (eval iter env) (some (assign (.Name y py) env))) _ _ s
  exact wpAny_bind (wpAny_mono (wpAny_comprehension_free (use := some (assign (.Name y py) env)) (Q := fun _ s' => Q .next s') rfl hs hclos hkind hnames h)
    (fun _ s' hq => wpAny_pure (wpAny_pure hq)) fun _ _ e => e)

theorem used_fin {y : Str} {py : Pos} {scope : Scope} {cl : List (Str × Addr)} {cns : List (Str × NameKind)} {vs' : Value → List (Option Value)} {s₁ : Shared} {Q : Shared → Prop} {D C : Addr} {s' : Shared} {B' : G} {ys : List Value} {vs'' : List (Option Value)}
    (W : Wd P s₀ B₀ env ns B s₁ vs os) (hy : ∀ v, Wr ns vs y v (vs' v)) (hB : Sub s₁.heap.get? B') (hD : s₁.heap.get? D = none) (hC : s₁.heap.get? C = none)
    (W' : Wd P s₁ s₁.heap.get? (compEnvC scope cl C env) cns B' s' vs'' [(D, .list ys)])
    (fin : ∀ s' B₂, Sub B B₂ → (∀ (b : Addr) (y : AO), y.Is B' b → s₁.heap.get? b = none → y.Is B₂ b) → Wd P s₀ B₀ env ns B₂ s' (vs' (.ref D)) ((D, .list ys) :: os) → Q s') :
    compPost (model prog w) A E (some (assign (.Name y py) env)) (fun _ s' => Q s') (.ref D) C (.ok .next) s' := by
  obtain ⟨m, hm, _⟩ := W'.loc
  have hDC : D ≠ C := fun e => W'.L_os (p := (D, .list ys)) (.head _) e
  have hCB : B' C = none := W'.fresh C (.head _)
  have hDB : B' D = none := W'.fresh D (by simp)
  have W2 : Wd P s₀ B₀ env ns B s' vs ((D, .list ys) :: os) := W.add W'.done (W'.at (.head _)) hD
  have hLC : C ≠ env.locals := fun e => W.not_in hC (e ▸ List.mem_cons_self)
  have hCn : C ∉ env.locals :: ((D, AO.list ys) :: os).map Prod.fst := by
    intro hm
    rw [List.map_cons] at hm
    have hm : C = D ∨ C ∈ env.locals :: os.map Prod.fst := by
      rcases List.mem_cons.mp hm with e | hm
      · exact .inr (e ▸ List.mem_cons_self)
      · exact (List.mem_cons.mp hm).imp id fun h => List.mem_cons_of_mem _ h
    rcases hm with e | hm
    · exact hDC e.symm
    · exact W.not_in hC hm
  have hnB : ∀ (b : Addr) (y : AO), y.Is B' b → s₁.heap.get? b = none → y.Is (hide (env.locals :: ((D, AO.list ys) :: os).map Prod.fst) s'.heap.get?) b := fun b y hy hb => by
    refine hide_new (hy.at fun o e => W'.keep b o e) ?_
    intro hm
    rw [List.map_cons] at hm
    have hm : b = D ∨ b ∈ env.locals :: os.map Prod.fst := by
      rcases List.mem_cons.mp hm with e | hm
      · exact .inr (e ▸ List.mem_cons_self)
      · exact (List.mem_cons.mp hm).imp id fun h => List.mem_cons_of_mem _ h
    rcases hm with rfl | hm
    · obtain ⟨o, e⟩ := hy.some; rw [hDB] at e; cases e
    · exact W.not_in hb hm
  have hBC : B C = none := by
    cases e : B C with
    | none => rfl
    | some o => have := W.keep _ _ e; rw [hC] at this; cases this
  show wpAny _ A (assign (.Name y py) env (.ref D)) _ _ _
  obtain ⟨m₂, hn₂, hl₂⟩ := W2.loc
  refine wpAny_assign_Name (wpAny_storeName_local (W2.kd (hy (.ref D)).kd) hn₂ (fun h3 hn3 hs3 => ?_) (by rw [W2.kind]; rfl))
  refine ⟨m, hm.sameBut hs3 hLC, fun h4 hs4 => ?_⟩

  -- the comprehension's own names hang on nothing
  have hR : ∃ B₂, Sub B B₂ ∧ (∀ (b : Addr) (y : AO), y.Is B' b → s₁.heap.get? b = none → y.Is B₂ b) ∧ Wd P s₀ B₀ env ns B₂ { s' with heap := h4, toks := s'.toks + 1 } (vs' (.ref D)) ((D, .list ys) :: os) := by
    have W3' : Wd P s₀ B₀ env ns B { s' with heap := h3, toks := s'.toks + 1 } (vs' (.ref D)) ((D, .list ys) :: os) := W2.store (t := s'.toks + 1) (hy (.ref D)) hl₂ hn3 hs3
    have W4 := W3'.extBut (t := s'.toks + 1) hBC hCn hs4.extBut
    refine ⟨_, W4.rebase.1, fun b y hy hb => ?_, W4.rebase.2⟩
    have hbX : b ∉ env.locals :: ((D, AO.list ys) :: os).map Prod.fst := fun hm => by
      obtain ⟨o, e⟩ := (hnB b y hy hb).some
      unfold hide at e; rw [if_pos hm] at e; cases e
    refine hide_new (hy.at fun o e => ?_) hbX
    have hbC : b ≠ C := fun q => by rw [q, hCB] at e; cases e
    exact hs4.extBut b o hbC (hs3.extBut b o (fun q => hbX (q ▸ List.mem_cons_self)) (W'.keep b o e))
  obtain ⟨B₂, h1, h2, W5⟩ := hR
  exact fin _ B₂ h1 h2 W5

theorem comp_used {elt iter : Expr} {x y : Str} {px py : Pos} {ifs : List Expr} {scope : Scope} {cl : List (Str × Addr)} {pos : Pos} {cns : List (Str × NameKind)} {vsx : Value → List (Option Value)} {vs' : Value → List (Option Value)} {s₁ : Shared} {a : Addr} {items : List Value}
    {Q : Shared → Prop} (φ : Nat → G → List Value → Prop)
    (hA : A.handled = none) (W : Wd P s₀ B₀ env ns B s₁ vs os) (hl : (AO.list items).Is s₁.heap.get? a) (hsz : items.length ≤ 100000)
    (hkind : scope.kind = .function) (hcell : ∀ y ∈ scope.names, y.2 ≠ .cell) (hcns : (relabel scope env).names = cns) (hnd : (cns.map Prod.fst).Nodup) (hdb : ∀ p ∈ cns, (p.1 == ("__debug__" : Str)) = false)
    (hw : ∀ v, Wr cns (cns.map fun _ => none) x v (vsx v)) (hy : ∀ v, Wr ns vs y v (vs' v)) (h0 : φ 0 s₁.heap.get? [])
    (step : CompStep prog w A P env cns s₁ scope cl vsx ifs elt a items φ)
    (fin : ∀ D s' B' B₂ ys, φ items.length B' ys → Sub B B₂ → (∀ (b : Addr) (y : AO), y.Is B' b → s₁.heap.get? b = none → y.Is B₂ b) → Wd P s₀ B₀ env ns B₂ s' (vs' (.ref D)) ((D, .list ys) :: os) → Q s') :
    wpAny (model prog w) A (pyIter (.ref a)) (fun it s₂ => wpAny (model prog w) A (newList []) (fun acc s₃ => wpAny (model prog w) A (newFunctionEnv scope env.globals cl [] env.qual none .none (some env)) (fun cenv s₄ =>
      codeAny (model prog w) A (.compStart (.ListComp elt [⟨.Name x px, iter, ifs, 0⟩] scope pos) 0 it acc { cenv with scope := relabel scope env })
        (compPost (model prog w) A E (some (assign (.Name y py) env)) (fun _ s' => Q s') acc cenv.locals) s₄) E s₃) E s₂) E s₁ := by
  exact comp_core φ hA W hl hsz hkind hcell hcns hnd hdb hw h0 step fun D C s' B' ys vs'' hφ hB hD hC W' => used_fin W hy hB hD hC W' fun s2 B₂ h1 h2 W5 => fin D s2 B' B₂ ys hφ h1 h2 W5
end
end
-- Fnc
section
open PySem PySem.W PyProof.Rows
theorem bind1 {fd : FuncData} {x : Str} {v : Value} (h : bindArgs fd ⟨[v], []⟩ = pure [(x, v)]) : bindArgs fd ⟨[v], []⟩ = pure [(x, v)] := h
theorem bind2 {fd : FuncData} {x y : Str} {v u : Value} (h : bindArgs fd ⟨[v, u], []⟩ = pure [(x, v), (y, u)]) (_ : true = true) : bindArgs fd ⟨[v, u], []⟩ = pure [(x, v), (y, u)] := h

section
variable {prog : Program} {w : World} {A : Around} {E : Value → Shared → Prop} {P : Params} {s : Shared}

theorem call_fnC {f : Addr} {o : Obj} {fd : FuncData} {body : List Stmt} {args : List Value} {Q : Value → Shared → Prop} {n : Nat} {binds : List (Str × Value)}
    (S : Stat P s.heap.get?) (hA : AOk A (n + 1)) (ho : s.heap.get? f = some o) (hd : o.data = .func fd) (hbody : fd.body = .stmts body)
    (hcode : s.heap.CodeRec fd.code fd.qualname) (hco : fd.scope.isCoroutine = false) (hgen : fd.scope.isGenerator = false) (hkind : fd.scope.kind = .function)
    (hglo : fd.globals = mainGlobals) (hblt : fd.builtins = builtinsNs) (hclo : fd.closure = [])
    (hnd : (fd.scope.names.map Prod.fst).Nodup) (hdb : ∀ p ∈ fd.scope.names, (p.1 == ("__debug__" : Str)) = false)
    (hbind : bindArgs fd ⟨args, []⟩ = pure binds)
    (hbk : (binds.all fun y => fd.scope.names.lookup y.1 == some .local || fd.scope.names.lookup y.1 == some .cell) = true)
    (hcn : ((cellsFrom 0 fd.scope.names []).map (·.1)).Nodup)
    (h : ∀ env L s₂, env = callEnvC fd L f → env.cells = cellsFrom (L + 1) fd.scope.names [] → Wd P s s.heap.get? env fd.scope.names s.heap.get? s₂ (fd.scope.names.map fun p => bindL (fun x => fd.scope.names.lookup x) binds (fun _ => none) p.1)
        ((cellsFrom (L + 1) fd.scope.names []).map fun p => (p.2, .cell (bindC (fun x => fd.scope.names.lookup x) binds (fun _ => none) p.1))) → AOk (A.deeper env) n →
        wpAny (model prog w) (A.deeper env) (execs body env) (fun fl s' => Q (match fl with | .ret v => v | _ => .none) s') (fun _ _ => False) s₂) :
    wpAny (model prog w) A (call (.ref f) args) Q E s := by
  have nl : s.heap.NoLimit := let ⟨mc, a, b⟩ := S.nolimit; ⟨mc, a, b⟩
  refine wpAny_call (codeAny_call_cells (by have := hA.depth; (first | with_reducible assumption | exact Nat.le_of_ble_eq_true rfl | exact Nat.add_le_add_left (Nat.le_of_ble_eq_true rfl) _ | exact Nat.le_trans (by assumption) (Nat.le_of_ble_eq_true rfl) | exact Nat.lt_of_le_of_lt (by assumption) (Nat.le_of_ble_eq_true rfl) | exact Nat.le_trans (Nat.le_of_eq (by assumption)) (Nat.le_trans (by assumption) (Nat.le_of_ble_eq_true rfl)) | lia | omega)) ho hd nl hcode hbody hbind hclo (kindsX hbk _) (fun s₁ I => ?_) hco hgen hkind)
  refine wpAny_mono (h (callEnvC fd s.heap.objs.size f) s.heap.objs.size s₁ rfl rfl ?_ (hA.deeper _)) (fun fl s' z => z) fun _ _ x => x.elim
  obtain ⟨h1, t1, rfl, hk1⟩ := I.done
  have hlt : ∀ n c, (n, c) ∈ cellsFrom (s.heap.objs.size + 1) fd.scope.names [] → s.heap.objs.size < c := fun n c hm => I.above n c hm
  have fresh : ∀ a, s.heap.objs.size ≤ a → s.heap.get? a = none := fun a ha => by
    cases e : s.heap.get? a with
    | none => rfl
    | some o => exact absurd (Heap.lt_size e) (Nat.not_lt.mpr ha)
  refine { names := rfl, kind := hkind, glo := hglo, blt := hblt, nd := hnd, nodebug := hdb, gens := rfl, drawn := rfl, osys := rfl, sub := .refl _, stat := S, keep := hk1,
           loc := ⟨_, I.toInCall.ns, ?_⟩, objs := fun p hp => ?_, apart := ?_, fresh := fun a ha => ?_ }
  · show LocIs (bindL _ binds _) fd.scope.names _
    generalize hg : bindL (callEnvC fd s.heap.objs.size f).kindOf binds (fun _ => none) = m
    have : (fun (p : Str × NameKind) => bindL (fun x => fd.scope.names.lookup x) binds (fun _ => none) p.1) = fun p => m p.1 := by rw [← hg]; rfl
    rw [this]
    generalize fd.scope.names = l
    induction l with
    | nil => unfold LocIs; trivial
    | cons p l ih => exact ⟨fun v e => e, ih⟩
  · obtain ⟨q, hq, rfl⟩ := List.mem_map.mp hp
    have hnd' : ((cellsFrom (s.heap.objs.size + 1) fd.scope.names []).map (·.1)).Nodup := by
      have key : ∀ (names : List (Str × NameKind)) (n m : Nat) (acc acc' : List (Str × Addr)), acc.map (·.1) = acc'.map (·.1) → (cellsFrom n names acc).map (·.1) = (cellsFrom m names acc').map (·.1) := by
        intro names
        induction names with
        | nil => intro n m acc acc' h; exact h
        | cons p r ih =>
          intro n m acc acc' h
          obtain ⟨x, k⟩ := p
          unfold cellsFrom
          split
          · exact ih _ _ _ _ (by simp [h])
          · exact ih _ _ _ _ h
      rw [key _ _ 0 _ [] rfl]; exact hcn
    have hlook : (cellsFrom (s.heap.objs.size + 1) fd.scope.names []).lookup q.1 = some q.2 := by
      clear hp hbind hbk h I hlt hcn
      generalize cellsFrom (s.heap.objs.size + 1) fd.scope.names [] = l at hq hnd' ⊢
      induction l with
      | nil => cases hq
      | cons p r ih =>
        rw [List.map_cons, List.nodup_cons] at hnd'
        rcases List.mem_cons.mp hq with rfl | hq
        · exact List.lookup_cons_self
        · have : q.1 ≠ p.1 := fun e => hnd'.1 (e ▸ List.mem_map.mpr ⟨_, hq, rfl⟩)
          rw [List.lookup_cons, beq_eq_false_iff_ne.mpr this]
          exact ih hq hnd'.2
    exact I.cell q.1 q.2 hlook
  · show ((callEnvC fd s.heap.objs.size f).locals :: _).Nodup
    rw [List.nodup_cons, List.map_map]
    constructor
    · intro hm
      obtain ⟨q, hq, e⟩ := List.mem_map.mp hm
      exact absurd e (Nat.ne_of_gt (hlt q.1 q.2 hq))
    · exact List.pairwise_map.mpr (I.apart)
  · rcases List.mem_cons.mp ha with rfl | ha
    · exact fresh _ (Nat.le_refl _)
    · rw [List.map_map] at ha
      obtain ⟨q, hq, rfl⟩ := List.mem_map.mp ha
      exact fresh _ (Nat.le_of_lt (hlt q.1 q.2 hq))
end
end
-- Mth
section
open PySem PySem.W PyProof.Rows
noncomputable def plainBase : Expr → Bool
  | .Call .. => false
  | _ => true
noncomputable def plainArg : Expr → Bool
  | .Starred .. => false
  | _ => true

section
variable {M : Model} {A : Around} {E : Value → Shared → Prop} {s : Shared} {env : Env}
theorem starEach_cons_plain {e : Expr} {rest : List Expr} (h : plainArg e = true) : starEach (e :: rest) env = (false, eval e env) :: starEach rest env := by
  cases e <;> first | rfl | cases h
theorem starEach_plain : ∀ {args : List Expr}, args.all plainArg = true → (starEach args env).all (fun p => !p.1) = true
  | [], _ => rfl
  | e :: r, h => by
    rw [List.all_cons, Bool.and_eq_true] at h
    rw [starEach_cons_plain h.1, List.all_cons]
    exact starEach_plain h.2
theorem backTo_plain {pos : Pos} : ∀ {ts : List (Bool × Sem Value)}, ts.all (fun p => !p.1) = true → (backTo pos ts).all (fun p => !p.1) = true
  | [], _ => rfl
  | p :: r, h => by
    rw [List.all_cons, Bool.and_eq_true] at h
    show (!(p.1) && (backTo pos r).all _) = true
    rw [h.1, Bool.true_and]; exact backTo_plain h.2

theorem call_meth {o : Expr} {name : Str} {apos pos : Pos} {args : List Expr} {Q : Value → Shared → Prop} (hside : (plainBase o && (args.all plainArg && (Nat.blt args.length 30 && Nat.beq apos.endLine pos.line))) = true)
    (h : wpAny M A (eval o env) (fun ov s₁ => wpAny M A (getMethod ov name (do return (← importBound o env).getD true)) (fun fx s₂ => wpAny M A (callWith pos fx.1 fx.2 (backTo pos (starEach args env)) []) Q E s₂) E s₁) E s) :
    wpAny M A (eval (.Call (.Attribute o name apos) args [] pos) env) Q E s := by
  obtain ⟨ho, hside⟩ := Bool.and_eq_true_iff.mp hside
  obtain ⟨ha, hside⟩ := Bool.and_eq_true_iff.mp hside
  obtain ⟨hn, hl⟩ := Bool.and_eq_true_iff.mp hside
  have hbase : attributeBase o name env (eval o env) = eval o env := by
    unfold attributeBase
    split
    · cases ho
    · rfl
  have hform : methodCallForm (args.length + ([] : List Keyword).length) (backTo pos (starEach args env)) (backToKw pos (keywordEach [] env)) = true := by
    unfold methodCallForm
    rw [backTo_plain (starEach_plain ha)]
    have : args.length < 30 := Nat.le_of_ble_eq_true hn
    simp [keywordEach, backToKw, this]
  rw [arm_eval_Call, hbase]
  refine wpAny_bind (wpAny_mono h (fun ov s₁ h₁ => wpAny_bind (wpAny_standAt ?_)) fun _ _ x => x)
  unfold methodCall
  rw [hform]
  refine wpAny_bind (wpAny_holding ?_)
  unfold calleeOf
  rw [if_pos rfl]
  refine wpAny_mono h₁ (fun fx s₂ h₂ => ?_) fun _ _ x => x
  obtain ⟨f, first⟩ := fx
  have hp : methodCallPos true o env apos pos = pure pos := by
    unfold methodCallPos
    have : (apos.endLine == pos.line) = true := beq_iff_eq.mpr (Nat.eq_of_beq_eq_true hl)
    rw [this]; rfl
  refine wpAny_bind (wpAny_of_eq hp h₂)

theorem backTo_any {pos : Pos} {args : List Expr} (h : args.all plainArg = true) : (backTo pos (starEach args env)).any (·.1) = false := by
  have := backTo_plain (pos := pos) (starEach_plain (env := env) h)
  rw [List.any_eq_false]
  intro x hx
  have := List.all_eq_true.mp this x hx
  simpa using this

/-- a built-in's call, its arguments plain; what is known of the arguments is told by «args_c», «args_nil» -/
theorem with_builtin {pos : Pos} {id : String} {first : List Value} {e : Expr} {rest : List Expr} {Q : Value → Shared → Prop} (ha : (e :: rest).all plainArg = true)
    (h : wpAny M A (spliced (backTo pos (starEach (e :: rest) env))) (fun vs s₁ => wpAny M A (call (.builtin id) (first ++ vs)) Q E s₁) E s) :
    wpAny M A (callWith pos (.builtin id) first (backTo pos (starEach (e :: rest) env)) []) Q E s := by
  refine Calls.callWith_builtin (backTo_any ha) ?_
  rw [List.all_cons, Bool.and_eq_true] at ha
  rw [starEach_cons_plain ha.1] at h ⊢
  exact Calls.evalArgs_plain h
theorem args_c {e : Expr} {rest : List Expr} {pos : Pos} {Q : List Value → Shared → Prop} (hp : plainArg e = true)
    (h : wpAny M A (eval e env) (fun v s₁ => wpAny M A (spliced (backTo pos (starEach rest env))) (fun vs s₂ => Q (v :: vs) s₂) E s₁) E s) : wpAny M A (spliced (backTo pos (starEach (e :: rest) env))) Q E s := by
  rw [starEach_cons_plain hp]; exact Calls.spliced_cons h

noncomputable def noComp : Expr → Bool
  | .ListComp .. | .SetComp .. | .DictComp .. => false
  | _ => true
theorem noComp_swaps {e : Expr} (h : noComp e = true) (t : Option Expr) (l : Nat) (env : Env) : swapsWith e t l env = pure false := by
  unfold swapsWith; cases e <;> first | rfl | cases h
theorem asg {x : Str} {pos' pos : Pos} {value : Expr} {Q : Flow → Shared → Prop} (hn : noComp value = true)
    (h : wpAny M A (eval value env) (fun v s₁ => wpAny M A (storeName env x v) (fun _ => Q .next) E s₁) E s) : wpAny M A (exec (.Assign [.Name x pos'] value pos) env) Q E s := by
  exact wpAny_Assign_Name h (noComp_swaps hn _ _ _)
theorem asgs {x : Str} {pos' pos : Pos} {value : Expr} {rest : List Stmt} {Q : Flow → Shared → Prop} (hn : noComp value = true)
    (h : wpAny M A (eval value env) (fun v s₁ => wpAny M A (storeName env x v) (fun _ s₂ => wpAny M A (execs rest env) Q E s₂) E s₁) E s) : wpAny M A (execs (.Assign [.Name x pos'] value pos :: rest) env) Q E s :=
  wpAny_execs_cons (asg hn h)
theorem rets {e : Expr} {pos : Pos} {rest : List Stmt} {Q : Flow → Shared → Prop} (h : wpAny M A (eval e env) (fun v s₁ => Q (.ret v) s₁) E s) : wpAny M A (execs (.Return (some e) pos :: rest) env) Q E s :=
  wpAny_execs_cons (wpAny_Return_some h)
theorem ifs {test : Expr} {body orelse rest : List Stmt} {pos : Pos} {Q : Flow → Shared → Prop}
    (h : wpAny M A (isTrue test env (eval test env)) (fun b s₂ => wpAny M A (execs (if b = true then body else orelse) env) (fun f s' => match f with | .next => wpAny M A (execs rest env) Q E s' | f => Q f s') E s₂) E s) :
    wpAny M A (execs (.If test body orelse pos :: rest) env) Q E s := by
  refine wpAny_execs_cons (wpAny_If (wpAny_mono h (fun b s₂ h₂ => ?_) fun _ _ x => x))
  cases b <;> exact h₂
noncomputable def onName : Expr → Bool
  | .Name .. => true
  | _ => false
noncomputable def noSlice : Expr → Bool
  | .Slice .. => false
  | _ => true
theorem noSlice_sub {slice : Expr} (h : noSlice slice = true) (o i : Value) : subscripted slice false o i = operate [o, i] (getItem o i) := by
  cases slice <;> first | rfl | cases h
theorem onName_eq {value : Expr} (h : onName value = true) : ∃ x p, value = .Name x p := by
  cases value <;> first | exact ⟨_, _, rfl⟩ | cases h
theorem onName_let {value : Expr} (h : onName value = true) (o r : Value) : letTemporaryGo value o r = pure () := by
  obtain ⟨x, p, rfl⟩ := onName_eq h; rfl
theorem sub_list {value slice : Expr} {l : Addr} {items : List Value} {k : Int} {u : Tok} {x : Value} {prog : Program} {w : World} {Q : Value → Shared → Prop} (hn : (onName value && noSlice slice) = true) (hl : (AO.list items).Is s.heap.get? l)
    (h0 : 0 ≤ k) (hfit : k < 2 ^ 63) (hx : items[k.toNat]? = some x) (h : Q x s) : wpAny (model prog w) A (subscriptTail value slice (.ref l) (.int k u)) Q E s := by
  obtain ⟨h1, h2⟩ := Bool.and_eq_true_iff.mp hn
  exact item_list hl.isL h0 hfit (by rw [List.getElem?_toArray]; exact hx) h (noSlice_sub h2 _ _) (onName_let h1 _)
end
end
-- Dat
section
open PySem PySem.W PyProof.Rows
theorem ints_get {vs : List Value} {ns : List Int} (h : IntsAre vs ns) : ∀ {k : Nat} {v : Value}, vs[k]? = some v → ∃ n t, v = .int n t ∧ ns[k]? = some n := by
  induction h with
  | nil => intro k v e; simp at e
  | cons n t h ih =>
    intro k v e
    cases k with
    | zero => simp at e; exact ⟨n, t, e.symm, rfl⟩
    | succ k => simpa using ih (by simpa using e)
theorem ints_at {vs : List Value} {ns : List Int} (h : IntsAre vs ns) : ∀ {k : Nat} {n : Int}, ns[k]? = some n → ∃ t, vs[k]? = some (.int n t) := by
  induction h with
  | nil => intro k v e; simp at e
  | cons n t h ih =>
    intro k v e
    cases k with
    | zero => simp at e; subst e; exact ⟨t, rfl⟩
    | succ k => simpa using ih (by simpa using e)
theorem ints_len {vs : List Value} {ns : List Int} (h : IntsAre vs ns) : vs.length = ns.length := by
  induction h with
  | nil => rfl
  | cons n t h ih => simp [ih]
theorem ints_app {vs us : List Value} {ns ms : List Int} (h : IntsAre vs ns) (g : IntsAre us ms) : IntsAre (vs ++ us) (ns ++ ms) := by
  induction h with
  | nil => exact g
  | cons n t h ih => exact .cons n t ih
theorem ints_snoc {vs : List Value} {ns : List Int} (h : IntsAre vs ns) (n : Int) (t : Tok) : IntsAre (vs ++ [.int n t]) (ns ++ [n]) := ints_app h (.cons n t .nil)

theorem strs_get {vs : List Value} {ns : List Str} (h : StrsAre vs ns) : ∀ {k : Nat} {v : Value}, vs[k]? = some v → ∃ n t, v = .str n t ∧ ns[k]? = some n := by
  induction h with
  | nil => intro k v e; simp at e
  | cons n t h ih =>
    intro k v e
    cases k with
    | zero => simp at e; exact ⟨n, t, e.symm, rfl⟩
    | succ k => simpa using ih (by simpa using e)
theorem strs_at {vs : List Value} {ns : List Str} (h : StrsAre vs ns) : ∀ {k : Nat} {n : Str}, ns[k]? = some n → ∃ t, vs[k]? = some (.str n t) := by
  induction h with
  | nil => intro k v e; simp at e
  | cons n t h ih =>
    intro k v e
    cases k with
    | zero => simp at e; subst e; exact ⟨t, rfl⟩
    | succ k => simpa using ih (by simpa using e)
theorem strs_len {vs : List Value} {ns : List Str} (h : StrsAre vs ns) : vs.length = ns.length := by
  induction h with
  | nil => rfl
  | cons n t h ih => simp [ih]
theorem strs_app {vs us : List Value} {ns ms : List Str} (h : StrsAre vs ns) (g : StrsAre us ms) : StrsAre (vs ++ us) (ns ++ ms) := by
  induction h with
  | nil => exact g
  | cons n t h ih => exact .cons n t ih
theorem strs_snoc {vs : List Value} {ns : List Str} (h : StrsAre vs ns) (n : Str) (t : Tok) : StrsAre (vs ++ [.str n t]) (ns ++ [n]) := strs_app h (.cons n t .nil)
theorem strs_values {vs : List Value} {ns : List Str} (h : StrsAre vs ns) : ∃ l : List (Str × Tok), vs = strValues l ∧ l.map (·.1) = ns := by
  induction h with
  | nil => exact ⟨[], rfl, rfl⟩
  | cons n t h ih => obtain ⟨l, a, b⟩ := ih; exact ⟨(n, t) :: l, by simp [strValues, a], by simp [b]⟩
theorem values_strs (l : List (Str × Tok)) : StrsAre (strValues l) (l.map (·.1)) := by
  induction l with
  | nil => exact .nil
  | cons p l ih => exact .cons p.1 p.2 ih

theorem joinOk_of {sep : Str} {texts : List Str} (B : Nat) (hB : ∀ y ∈ texts, y.length ≤ B) (h : texts.length * B + texts.length * sep.length ≤ 16777216) : JoinOk sep texts = true := by
  unfold JoinOk
  rw [Bool.not_eq_true']
  exact StrLaws.joinFits hB h

/-- the text of a row of deeds -/
noncomputable def textOf (ss : List Str) (ds : List Int) : Str := Txt.join "" (ds.map fun k => ss.getD k.toNat "")

theorem text_spec {prog : Program} {w : World} {A : Around} {E : Value → Shared → Prop} {s : Shared} {d sp : Addr} {dv sv : List Value} {ds : List Int} {ss : List Str} {Q : Value → Shared → Prop} {n : Nat}
    (S : Stat w.params s.heap.get?) (hA : AOk A (n + 1)) (hd : (AO.list dv).Is s.heap.get? d) (hdi : IntsAre dv ds) (hs : (AO.list sv).Is s.heap.get? sp) (hss : StrsAre sv ss)
    (hk : ∀ k ∈ ds, 0 ≤ k ∧ k < ss.length) (hlen : ds.length ≤ 1000) (hsz : ∀ x ∈ ss, x.length ≤ 100) (hss8 : ss.length ≤ 8)
    (h : ∀ t' s', Keeps s s' → Q (.str (textOf ss ds) t') s') :
    wpAny (model prog w) A (call (.ref 85) [.ref d, .ref sp]) Q E s := by
  have ho := S.K 85 _ rfl
  have hc := S.K 84 _ rfl
  refine call_fnC (n := n) S hA ho rfl rfl ⟨_, _, _, _, rfl, hc, rfl, rfl⟩ rfl rfl rfl rfl rfl rfl ?_ ?_ (bind2 rfl ?_) ?_ ?_ ?_
  · decide
  · decide
  · decide
  · rfl
  · decide
  clear ho hc
  intro env L s₂ he hcells W hA'
  replace W : Wd w.params s s.heap.get? env [("deeds", .local), ("spelled", .cell)] s.heap.get? s₂ [some (.ref d), none] [(L + 1, .cell (some (.ref sp)))] := W
  replace hcells : env.cells = [((("spelled" : Str)), L + 1)] := hcells
  clear he
  refine wpAny_execs_cons ?_
  refine wpAny_Return_some ?_
  refine call_meth ?_ ?_
  · rfl
  refine Calls.Constant_str ?_
  with_reducible refine GM.join ?_
  refine with_builtin ?_ ?_
  · rfl
  refine args_c ?_ ?_
  · rfl
  refine ev_comp (cl := [("spelled", L + 1)]) ?_ rfl ?_ ?_
  · simp only [closureFor, cellOf, hcells]; rfl
  · decide
  refine ev_local (W.toks _) .head ?_
  have kx : env.kindOf "spelled" = some .cell := W.kd (.tail .head)
  refine comp_plain (fun k _ ys => StrsAre ys ((ds.take k).map fun k => ss.getD k.toNat "")) (vsx := fun v => [none, some v, none]) (cns := [(".0", .local), ("deed", .local), ("spelled", .cell)]) hA'.handled (W.toks _) (hd.mono W.keep)
    ?_ rfl ?_ ?_ ?_ ?_ (fun v => .tail .head) .nil ?_ ?_
  · rw [ints_len hdi]; (first | with_reducible assumption | exact Nat.le_of_ble_eq_true rfl | exact Nat.add_le_add_left (Nat.le_of_ble_eq_true rfl) _ | exact Nat.le_trans (by assumption) (Nat.le_of_ble_eq_true rfl) | exact Nat.lt_of_le_of_lt (by assumption) (Nat.le_of_ble_eq_true rfl) | exact Nat.le_trans (Nat.le_of_eq (by assumption)) (Nat.le_trans (by assumption) (Nat.le_of_ble_eq_true rfl)) | lia | omega)
  · decide
  · simp only [relabel, List.map, W.kind, kx]; rfl
  · decide
  · decide
  · rintro k v cenv I D B' s' ys hv hφ hys hB ⟨C, rfl⟩ W'
    obtain ⟨m, t, rfl, hm⟩ := ints_get hdi hv
    have hmm := hk m (List.mem_of_getElem? hm)
    refine wpAny_tests_nil (.inr ⟨rfl, ?_⟩)
    refine Subscript_ (ev_cell W' (.tail (.tail .head)) rfl ((W.at (.head _)).mono (fun b o e => W'.keep b o (hB b o e))) (ev_local W' (.tail .head) ?_))
    obtain ⟨x, hx⟩ : ∃ x, ss[m.toNat]? = some x := ⟨ss[m.toNat]'(by (first | with_reducible assumption | exact Nat.le_of_ble_eq_true rfl | exact Nat.add_le_add_left (Nat.le_of_ble_eq_true rfl) _ | exact Nat.le_trans (by assumption) (Nat.le_of_ble_eq_true rfl) | exact Nat.lt_of_le_of_lt (by assumption) (Nat.le_of_ble_eq_true rfl) | exact Nat.le_trans (Nat.le_of_eq (by assumption)) (Nat.le_trans (by assumption) (Nat.le_of_ble_eq_true rfl)) | lia | omega)), by simp⟩
    obtain ⟨u, hu⟩ := strs_at hss hx
    refine sub_list rfl ((hs.mono W.keep).mono (fun b o e => W'.keep b o (hB b o e))) hmm.1 ?_ hu ?_
    · (first | with_reducible assumption | exact Nat.le_of_ble_eq_true rfl | exact Nat.add_le_add_left (Nat.le_of_ble_eq_true rfl) _ | exact Nat.le_trans (by assumption) (Nat.le_of_ble_eq_true rfl) | exact Nat.lt_of_le_of_lt (by assumption) (Nat.le_of_ble_eq_true rfl) | exact Nat.le_trans (Nat.le_of_eq (by assumption)) (Nat.le_trans (by assumption) (Nat.le_of_ble_eq_true rfl)) | lia | omega)
    refine ⟨B', _, hB, ?_, W'⟩
    have : (ds.take (k + 1)).map (fun k => ss.getD k.toNat "") = (ds.take k).map (fun k => ss.getD k.toNat "") ++ [x] := by
      rw [List.take_add_one, hm]
      simp [List.getD, hx]
    show StrsAre _ _
    rw [this]
    exact strs_snoc hφ x u
  · intro D s' B' B₂ ys hφ hB hn W'
    refine args_nil ?_
    rw [show dv.length = ds.length from ints_len hdi, List.take_of_length_le (Nat.le_refl _)] at hφ
    obtain ⟨l, rfl, hl⟩ := strs_values hφ
    refine SC.join (W'.at (.head _)).isL hl ?_ fun t' k => ?_
    · refine joinOk_of 100 (fun y hy => ?_) ?_
      · obtain ⟨k, hk', rfl⟩ := List.mem_map.mp hy
        have := hk k hk'
        have e : ss.getD k.toNat "" = ss[k.toNat]'(by (first | with_reducible assumption | exact Nat.le_of_ble_eq_true rfl | exact Nat.add_le_add_left (Nat.le_of_ble_eq_true rfl) _ | exact Nat.le_trans (by assumption) (Nat.le_of_ble_eq_true rfl) | exact Nat.lt_of_le_of_lt (by assumption) (Nat.le_of_ble_eq_true rfl) | exact Nat.le_trans (Nat.le_of_eq (by assumption)) (Nat.le_trans (by assumption) (Nat.le_of_ble_eq_true rfl)) | lia | omega)) := by rw [List.getD_eq_getElem?_getD, List.getElem?_eq_getElem (by (first | with_reducible assumption | exact Nat.le_of_ble_eq_true rfl | exact Nat.add_le_add_left (Nat.le_of_ble_eq_true rfl) _ | exact Nat.le_trans (by assumption) (Nat.le_of_ble_eq_true rfl) | exact Nat.lt_of_le_of_lt (by assumption) (Nat.le_of_ble_eq_true rfl) | exact Nat.le_trans (Nat.le_of_eq (by assumption)) (Nat.le_trans (by assumption) (Nat.le_of_ble_eq_true rfl)) | lia | omega))]; rfl
        rw [e]
        exact hsz _ (List.getElem_mem _)
      · simp only [List.length_map]
        have : (Str.ofString "").length = 0 := by decide
        rw [this]; (first | with_reducible assumption | exact Nat.le_of_ble_eq_true rfl | exact Nat.add_le_add_left (Nat.le_of_ble_eq_true rfl) _ | exact Nat.le_trans (by assumption) (Nat.le_of_ble_eq_true rfl) | exact Nat.lt_of_le_of_lt (by assumption) (Nat.le_of_ble_eq_true rfl) | exact Nat.le_trans (Nat.le_of_eq (by assumption)) (Nat.le_trans (by assumption) (Nat.le_of_ble_eq_true rfl)) | lia | omega)
    · exact h _ _ (W'.toks k).done
end
-- Ops
section
open PySem PySem.W PyProof.Rows
section
variable {prog : Program} {w : World} {A : Around} {E : Value → Shared → Prop} {s : Shared} {a b : Int} {t u : Tok} {x y : Str} {Q : Value → Shared → Prop}
theorem o_mod (hb : b ≠ 0) (h : Q (.int (a.fmod b) s.toks) { s with toks := s.toks + 1 }) : wpAny (model prog w) A (binaryOp .Mod (.int a t) (.int b u)) Q E s := by with_reducible exact mod_int' hb h
theorem o_div (hb : b ≠ 0) (hs : b.natAbs < 1073741824) (h : Q (.int (a.fdiv b) s.toks) { s with toks := s.toks + 1 }) : wpAny (model prog w) A (binaryOp .FloorDiv (.int a t) (.int b u)) Q E s :=
  by with_reducible exact floordiv_int hb h (Or.inl (PyProof.noPylong_small hs))
theorem o_addS (hsz : x.length + y.length ≤ sizeLine) (h : ∀ t' tk, Q (.str (x ++ y) t') { s with toks := tk }) : wpAny (model prog w) A (binaryOp .Add (.str x t) (.str y u)) Q E s := by with_reducible exact PyProof.Rows.add_str h hsz
theorem o_iaddS (hsz : x.length + y.length ≤ sizeLine) (h : ∀ t' tk, Q (.str (x ++ y) t') { s with toks := tk }) : wpAny (model prog w) A (inplaceOp .Add (.str x t) (.str y u)) Q E s := by with_reducible exact PyProof.Rows.iadd_str h hsz
theorem o_eqS (h : Q (.bool (x == y)) s) : wpAny (model prog w) A (compareOp .Eq (.str x t) (.str y u)) Q E s := by with_reducible exact PyProof.Rows.eq_str h
theorem o_neS (h : Q (.bool (x != y)) s) : wpAny (model prog w) A (compareOp .NotEq (.str x t) (.str y u)) Q E s := by with_reducible exact PyProof.Rows.ne_str h
theorem sub_str {value slice : Expr} {i : Int} {c : Nat} (hn : noSlice slice = true) (h0 : 0 ≤ i) (h1 : i < 2 ^ 63) (hc : x.cps[i.toNat]? = some c)
    (h : Q (.str ⟨#[c]⟩ s.toks) { s with toks := s.toks + 1 }) : wpAny (model prog w) A (subscriptTail value slice (.str x t) (.int i u)) Q E s := by
  refine subscriptTail_builtin (typeIs_str s x t) slot_str_getitem.lookup (PyProof.Rows.getItem_str ?_ (StrLaws.at_nonneg h0 hc) h) ?_ ?_
  · simp; (first | with_reducible assumption | exact Nat.le_of_ble_eq_true rfl | exact Nat.add_le_add_left (Nat.le_of_ble_eq_true rfl) _ | exact Nat.le_trans (by assumption) (Nat.le_of_ble_eq_true rfl) | exact Nat.lt_of_le_of_lt (by assumption) (Nat.le_of_ble_eq_true rfl) | exact Nat.le_trans (Nat.le_of_eq (by assumption)) (Nat.le_trans (by assumption) (Nat.le_of_ble_eq_true rfl)) | lia | omega)
  · exact noSlice_sub hn _ _
  · intro _; cases value <;> rfl
end
end
-- Rul
section
open PySem PySem.W PyProof.Rows
section
variable {prog : Program} {w : World} {A : Around} {E : Value → Shared → Prop}
variable {P : Params} {s₀ : Shared} {B₀ : G} {env : Env} {ns : List (Str × NameKind)} {B : G} {s : Shared} {vs vs' : List (Option Value)} {os os' : List (Addr × AO)} {x y : Str} {v : Value} {pos : Pos} {a b : Int} {t u : Tok} {k : Nat} {Q : Value → Shared → Prop}

theorem c_int (W : Wd P s₀ B₀ env ns B s vs os) (h : ∀ t s', Wd P s₀ B₀ env ns B s' vs os → Q (.int a t) s') : wpAny (model prog w) A (eval (.Constant (.int a) k pos) env) Q E s := by with_reducible exact wpAny_Constant_int (h _ _ (W.toks _))
theorem c_str (W : Wd P s₀ B₀ env ns B s vs os) (h : ∀ t s', Wd P s₀ B₀ env ns B s' vs os → Q (.str x t) s') : wpAny (model prog w) A (eval (.Constant (.str x) k pos) env) Q E s := by with_reducible exact Calls.Constant_str (h _ _ (W.toks _))
theorem c_none (h : Q .none s) : wpAny (model prog w) A (eval (.Constant .none k pos) env) Q E s := wpAny_pure h
theorem c_bool {b : Bool} (h : Q (.bool b) s) : wpAny (model prog w) A (eval (.Constant (.bool b) k pos) env) Q E s := wpAny_pure h
theorem w_mod (W : Wd P s₀ B₀ env ns B s vs os) (hb : b ≠ 0) (h : ∀ t s', Wd P s₀ B₀ env ns B s' vs os → Q (.int (a.fmod b) t) s') : wpAny (model prog w) A (binaryOp .Mod (.int a t) (.int b u)) Q E s := by with_reducible exact o_mod hb (h _ _ (W.toks _))
theorem w_div (W : Wd P s₀ B₀ env ns B s vs os) (hb : b ≠ 0 ∧ b.natAbs < 1073741824) (h : ∀ t s', Wd P s₀ B₀ env ns B s' vs os → Q (.int (a.fdiv b) t) s') : wpAny (model prog w) A (binaryOp .FloorDiv (.int a t) (.int b u)) Q E s := by with_reducible exact o_div hb.1 hb.2 (h _ _ (W.toks _))
theorem w_add (W : Wd P s₀ B₀ env ns B s vs os) (h : ∀ t s', Wd P s₀ B₀ env ns B s' vs os → Q (.int (a + b) t) s') : wpAny (model prog w) A (binaryOp .Add (.int a t) (.int b u)) Q E s := by with_reducible exact PyProof.Rows.add_int (h _ _ (W.toks _))
theorem w_sub (W : Wd P s₀ B₀ env ns B s vs os) (h : ∀ t s', Wd P s₀ B₀ env ns B s' vs os → Q (.int (a - b) t) s') : wpAny (model prog w) A (binaryOp .Sub (.int a t) (.int b u)) Q E s := by with_reducible exact PyProof.Rows.sub_int (h _ _ (W.toks _))
theorem w_isub (W : Wd P s₀ B₀ env ns B s vs os) (h : ∀ t s', Wd P s₀ B₀ env ns B s' vs os → Q (.int (a - b) t) s') : wpAny (model prog w) A (inplaceOp .Sub (.int a t) (.int b u)) Q E s := by with_reducible exact PyProof.Rows.isub_int (h _ _ (W.toks _))
theorem w_iadd (W : Wd P s₀ B₀ env ns B s vs os) (h : ∀ t s', Wd P s₀ B₀ env ns B s' vs os → Q (.int (a + b) t) s') : wpAny (model prog w) A (inplaceOp .Add (.int a t) (.int b u)) Q E s := by with_reducible exact PyProof.Rows.iadd_int (h _ _ (W.toks _))
theorem w_addS (W : Wd P s₀ B₀ env ns B s vs os) (hsz : x.length + y.length ≤ sizeLine) (h : ∀ t s', Wd P s₀ B₀ env ns B s' vs os → Q (.str (x ++ y) t) s') : wpAny (model prog w) A (binaryOp .Add (.str x t) (.str y u)) Q E s := by with_reducible exact o_addS hsz fun t' tk => h _ _ (W.toks _)
theorem w_iaddS (W : Wd P s₀ B₀ env ns B s vs os) (hsz : x.length + y.length ≤ sizeLine) (h : ∀ t s', Wd P s₀ B₀ env ns B s' vs os → Q (.str (x ++ y) t) s') : wpAny (model prog w) A (inplaceOp .Add (.str x t) (.str y u)) Q E s := by with_reducible exact o_iaddS hsz fun t' tk => h _ _ (W.toks _)
theorem w_subS {value slice : Expr} {i : Int} {c : Nat} (W : Wd P s₀ B₀ env ns B s vs os) (hn : noSlice slice = true) (h0 : 0 ≤ i) (h1 : i < 2 ^ 63) (hc : x.cps[i.toNat]? = some c)
    (h : ∀ t s', Wd P s₀ B₀ env ns B s' vs os → Q (.str ⟨#[c]⟩ t) s') : wpAny (model prog w) A (subscriptTail value slice (.str x t) (.int i u)) Q E s := by with_reducible exact sub_str hn h0 h1 hc (h _ _ (W.toks _))
theorem w_eq (h : Q (.bool (a == b)) s) : wpAny (model prog w) A (compareOp .Eq (.int a t) (.int b u)) Q E s := by with_reducible exact PyProof.Rows.eq_int h
theorem w_ne (h : Q (.bool (a != b)) s) : wpAny (model prog w) A (compareOp .NotEq (.int a t) (.int b u)) Q E s := by with_reducible exact PyProof.Rows.ne_int h
theorem w_gt (h : Q (.bool (decide (b < a))) s) : wpAny (model prog w) A (compareOp .Gt (.int a t) (.int b u)) Q E s := by with_reducible exact PyProof.Rows.gt_int h
theorem w_lt (h : Q (.bool (decide (a < b))) s) : wpAny (model prog w) A (compareOp .Lt (.int a t) (.int b u)) Q E s := by with_reducible exact PyProof.Rows.lt_int h
theorem w_ge (h : Q (.bool (decide (b ≤ a))) s) : wpAny (model prog w) A (compareOp .GtE (.int a t) (.int b u)) Q E s := by with_reducible exact PyProof.Rows.ge_int h
theorem tr_bool {b : Bool} {Q : Bool → Shared → Prop} (h : Q b s) : wpAny (model prog w) A (truthy (.bool b)) Q E s := by with_reducible exact wpAny_truthy_bool h
theorem cmp1 {l r : Expr} {op : CmpOp} (hm : behindInMarks op r = false) (h : wpAny (model prog w) A (eval l env) (fun a s₁ => wpAny (model prog w) A (eval r env) (fun b s₂ => wpAny (model prog w) A (compareOp op a b) Q E s₂) E s₁) E s) :
    wpAny (model prog w) A (eval (.Compare l [op] [r] pos) env) Q E s := wpAny_Compare1 h hm
theorem test1 {l r : Expr} {op : CmpOp} {whole : Sem Value} {Q : Bool → Shared → Prop} (hm : behindInMarks op r = false) (h : wpAny (model prog w) A (eval l env) (fun a s₁ => wpAny (model prog w) A (eval r env) (fun b s₂ => wpAny (model prog w) A (compareOp op a b)
      (fun c s₃ => wpAny (model prog w) A (truthy c) Q E s₃) E s₂) E s₁) E s) : wpAny (model prog w) A (isTrue (.Compare l [op] [r] pos) env whole) Q E s := wpAny_isTrue_Compare1 h hm
theorem new_list {items : List Value} (W : Wd P s₀ B₀ env ns B s vs os) (hsz : items.length ≤ sizeLine) (h : ∀ D s', Wd P s₀ B₀ env ns B s' vs ((D, .list items) :: os) → Q (.ref D) s') : wpAny (model prog w) A (newList items) Q E s :=
  wpAny_newList (h _ _ (W.push (t := s.toks) ⟨_, Heap.get?_push_size _ rfl⟩)) hsz
theorem new_tuple {items : List Value} (W : Wd P s₀ B₀ env ns B s vs os) (hsz : items.length ≤ sizeLine) (h : ∀ D s', Wd P s₀ B₀ env ns B s' vs ((D, .tuple items) :: os) → Q (.ref D) s') : wpAny (model prog w) A (newTuple items) Q E s :=
  wpAny_newTuple (h _ _ (W.push (t := s.toks) ⟨_, Heap.get?_push_size _ rfl, rfl, _, rfl⟩)) hsz
theorem augs {value : Expr} {op : Operator} {pos' : Pos} {rest : List Stmt} {Q : Flow → Shared → Prop}
    (h : wpAny (model prog w) A (loadName env x) (fun old s₁ => wpAny (model prog w) A (eval value env) (fun v s₂ => wpAny (model prog w) A (inplaceOp op old v) (fun r s₃ => wpAny (model prog w) A (storeName env x r) (fun _ s₄ => wpAny (model prog w) A (execs rest env) Q E s₄) E s₃) E s₂) E s₁) E s) :
    wpAny (model prog w) A (execs (.AugAssign (.Name x pos') op value pos :: rest) env) Q E s := wpAny_execs_cons (wpAny_AugAssign_Name h)
theorem w_addL {l r : Addr} {us ws : List Value} (W : Wd P s₀ B₀ env ns B s vs os) (hl : (AO.list us).Is s.heap.get? l) (hr : (AO.list ws).Is s.heap.get? r) (hsz : us.length + ws.length ≤ sizeLine)
    (h : ∀ D s', Wd P s₀ B₀ env ns B s' vs ((D, .list (us ++ ws)) :: os) → Q (.ref D) s') : wpAny (model prog w) A (binaryOp .Add (.ref l) (.ref r)) Q E s := by
  obtain ⟨n, ho⟩ := hl
  obtain ⟨n2, ho2⟩ := hr
  refine concat_meets ⟨_, ho, rfl⟩ ⟨_, ho2, rfl⟩ noFill_list_add seq_list_add PySem.F.slot_list_add PySem.F.entry_list_add (PySem.F.args_list_add_2 _ _) (list_addW l r us.toArray ws.toArray n n2 none none #[] #[] (by simpa using hsz)) ⟨ho, ho2, ?_⟩
  exact h _ _ (W.push (t := s.toks) (x := .list (us ++ ws)) ⟨0, (Heap.get?_push_size _ rfl).trans (by simp)⟩)
/-- an own object handed out: what the caller may know of it -/
theorem Wd.own {s' : Shared} {D : Addr} {x : AO} (W : Wd P s s.heap.get? env ns B s' vs os) (h : (D, x) ∈ os) : s.heap.get? D = none ∧ x.Is s'.heap.get? D := by
  refine ⟨?_, W.at h⟩
  cases e : s.heap.get? D with
  | none => rfl
  | some o => have := W.fresh D (List.mem_cons_of_mem _ (List.mem_map.mpr ⟨_, h, rfl⟩)); rw [W.sub _ _ e] at this; cases this
end
end
-- Wds
section
open PySem PySem.W PyProof.Rows
noncomputable def signs : List Nat := [34, 92, 32, 10, 35, 97, 9, 98]
noncomputable def sg (k : Int) : Nat := signs.getD k.toNat 0
noncomputable def word1 (n : Int) : Str := ⟨#[sg (n.fmod 8), sg ((n.fdiv 8).fmod 8)]⟩
noncomputable def word2' (n : Int) : Str := ⟨#[sg ((n.fdiv 64).fmod 8), sg ((n.fdiv 512).fmod 8)]⟩
noncomputable def word2 (n : Int) : Str := if (word2' n == word1 n) = true then ⟨#[sg (n.fmod 8), sg ((n.fdiv 8 + 1).fmod 8)]⟩ else word2' n

theorem signs_at {k : Int} (h0 : 0 ≤ k) (h1 : k < 8) : (Str.ofString "\"\\ \n#a\tb").cps[k.toNat]? = some (sg k) := by
  obtain ⟨n, rfl⟩ := Int.eq_ofNat_of_zero_le h0
  have : n < 8 := by omega
  have e : (Str.ofString "\"\\ \n#a\tb").cps = signs.toArray := by decide
  rw [e]
  match n, this with
  | 0, _ | 1, _ | 2, _ | 3, _ | 4, _ | 5, _ | 6, _ | 7, _ => rfl
theorem fm8 (k : Int) : 0 ≤ k.fmod 8 ∧ k.fmod 8 < 8 := by
  rw [Int.fmod_eq_emod_of_nonneg _ (by decide)]; omega

section
variable {prog : Program} {w : World} {A : Around} {E : Value → Shared → Prop} {s : Shared} {env : Env} {x : Str} {t u : Tok}
variable {P : Params} {s₀ : Shared} {B₀ : G} {ns : List (Str × NameKind)} {B : G} {vs vs' : List (Option Value)} {os os' : List (Addr × AO)}
theorem sub_signs {value slice : Expr} {k : Int} {Q : Value → Shared → Prop} (W : Wd P s₀ B₀ env ns B s vs os) (hn : noSlice slice = true)
    (h : ∀ t s', Wd P s₀ B₀ env ns B s' vs os → Q (.str ⟨#[sg (k.fmod 8)]⟩ t) s') : wpAny (model prog w) A (subscriptTail value slice (.str "\"\\ \n#a\tb" t) (.int (k.fmod 8) u)) Q E s := by
  with_reducible exact w_subS W hn (fm8 k).1 (Int.lt_trans (fm8 k).2 (by decide)) (signs_at (fm8 k).1 (fm8 k).2) h
theorem w_add11 {a b : Nat} {Q : Value → Shared → Prop} (W : Wd P s₀ B₀ env ns B s vs os) (h : ∀ t s', Wd P s₀ B₀ env ns B s' vs os → Q (.str ⟨#[a, b]⟩ t) s') : wpAny (model prog w) A (binaryOp .Add (.str ⟨#[a]⟩ t) (.str ⟨#[b]⟩ u)) Q E s := by
  refine w_addS W ?_ h
  show 1 + 1 ≤ sizeLine
  decide
theorem sub_0 {value slice : Expr} {a b : Nat} {Q : Value → Shared → Prop} (W : Wd P s₀ B₀ env ns B s vs os) (hn : noSlice slice = true)
    (h : ∀ t s', Wd P s₀ B₀ env ns B s' vs os → Q (.str ⟨#[a]⟩ t) s') : wpAny (model prog w) A (subscriptTail value slice (.str ⟨#[a, b]⟩ t) (.int 0 u)) Q E s := by
  refine w_subS W hn ?_ ?_ ?_ h
  · decide
  · decide
  · rfl
theorem sub_1 {value slice : Expr} {a b : Nat} {Q : Value → Shared → Prop} (W : Wd P s₀ B₀ env ns B s vs os) (hn : noSlice slice = true)
    (h : ∀ t s', Wd P s₀ B₀ env ns B s' vs os → Q (.str ⟨#[b]⟩ t) s') : wpAny (model prog w) A (subscriptTail value slice (.str ⟨#[a, b]⟩ t) (.int 1 u)) Q E s := by
  refine w_subS W hn ?_ ?_ ?_ h
  · decide
  · decide
  · rfl
end


theorem words_spec {prog : Program} {w : World} {A : Around} {E : Value → Shared → Prop} {s : Shared} {t : Tok} {N : Int} {Q : Value → Shared → Prop} {n : Nat}
    (S : Stat w.params s.heap.get?) (hA : AOk A (n + 1))
    (h : ∀ r t1 t2 s', Keeps s s' → s.heap.get? r = none → (AO.list [.str (word1 N) t1, .str (word2 N) t2]).Is s'.heap.get? r → Q (.ref r) s') :
    wpAny (model prog w) A (call (.ref 70) [.int N t]) Q E s := by
  have ho := S.K 70 _ rfl
  have hc := S.K 69 _ rfl
  refine call_fn (n := n) S hA ho rfl rfl ⟨_, _, _, _, rfl, hc, rfl, rfl⟩ rfl rfl rfl rfl rfl (by decide) (by decide) (by decide) ?_
  clear ho hc
  refine wpAny_of_eq (bind1 rfl) ⟨keeps_refl _, rfl, fun env L s₂ he W hA' => ?_⟩
  replace W : Wd w.params s s.heap.get? env [("number", .local), ("signs", .local), ("first", .local), ("second", .local)] _ s₂ [some (.int N t), none, none, none] [] := W
  clear he
  ((((with_reducible refine' asgs ?nc1 ?_); (case nc1 => rfl))); (((with_reducible refine' c_str (by assumption) ?_); intro _ _ _)); (((with_reducible refine' st_local (by assumption) ?wr3 ?_); (case wr3 => ((with_reducible (repeat first | exact Wr.head | apply Wr.tail | (apply Wr.of; assumption))))); intro _ _)); (((with_reducible refine' asgs ?nc4 ?_); (case nc4 => rfl))); (with_reducible refine' wpAny_BinOp ?_); (with_reducible refine' Subscript_ ?_); (((with_reducible refine' ev_local (by assumption) ?rd7 ?_); (case rd7 => ((with_reducible (repeat first | exact Rd.head | apply Rd.tail | (apply Rd.of; assumption))))))); (with_reducible refine' wpAny_BinOp ?_); (((with_reducible refine' ev_local (by assumption) ?rd9 ?_); (case rd9 => ((with_reducible (repeat first | exact Rd.head | apply Rd.tail | (apply Rd.of; assumption))))))); (((with_reducible refine' c_int (by assumption) ?_); intro _ _ _)); (((with_reducible refine' w_mod (by assumption) ?nz11 ?_); (case nz11 => decide); intro _ _ _)); (((with_reducible refine' sub_signs (by assumption) ?ns12 ?_); (case ns12 => rfl); intro _ _ _)); (with_reducible refine' Subscript_ ?_); (((with_reducible refine' ev_local (by assumption) ?rd14 ?_); (case rd14 => ((with_reducible (repeat first | exact Rd.head | apply Rd.tail | (apply Rd.of; assumption))))))); (with_reducible refine' wpAny_BinOp ?_); (with_reducible refine' wpAny_BinOp ?_); (((with_reducible refine' ev_local (by assumption) ?rd17 ?_); (case rd17 => ((with_reducible (repeat first | exact Rd.head | apply Rd.tail | (apply Rd.of; assumption))))))); (((with_reducible refine' c_int (by assumption) ?_); intro _ _ _)); (((with_reducible refine' w_div (by assumption) ?nz19 ?_); (case nz19 => decide); intro _ _ _)); (((with_reducible refine' c_int (by assumption) ?_); intro _ _ _)); (((with_reducible refine' w_mod (by assumption) ?nz21 ?_); (case nz21 => decide); intro _ _ _)); (((with_reducible refine' sub_signs (by assumption) ?ns22 ?_); (case ns22 => rfl); intro _ _ _)); (((with_reducible refine' w_add11 (by assumption) ?_); intro _ _ _)); (((with_reducible refine' st_local (by assumption) ?wr24 ?_); (case wr24 => ((with_reducible (repeat first | exact Wr.head | apply Wr.tail | (apply Wr.of; assumption))))); intro _ _)); (((with_reducible refine' asgs ?nc25 ?_); (case nc25 => rfl))); (with_reducible refine' wpAny_BinOp ?_); (with_reducible refine' Subscript_ ?_); (((with_reducible refine' ev_local (by assumption) ?rd28 ?_); (case rd28 => ((with_reducible (repeat first | exact Rd.head | apply Rd.tail | (apply Rd.of; assumption))))))); (with_reducible refine' wpAny_BinOp ?_); (with_reducible refine' wpAny_BinOp ?_); (((with_reducible refine' ev_local (by assumption) ?rd31 ?_); (case rd31 => ((with_reducible (repeat first | exact Rd.head | apply Rd.tail | (apply Rd.of; assumption))))))); (((with_reducible refine' c_int (by assumption) ?_); intro _ _ _)); (((with_reducible refine' w_div (by assumption) ?nz33 ?_); (case nz33 => decide); intro _ _ _)); (((with_reducible refine' c_int (by assumption) ?_); intro _ _ _)); (((with_reducible refine' w_mod (by assumption) ?nz35 ?_); (case nz35 => decide); intro _ _ _)); (((with_reducible refine' sub_signs (by assumption) ?ns36 ?_); (case ns36 => rfl); intro _ _ _)); (with_reducible refine' Subscript_ ?_); (((with_reducible refine' ev_local (by assumption) ?rd38 ?_); (case rd38 => ((with_reducible (repeat first | exact Rd.head | apply Rd.tail | (apply Rd.of; assumption))))))); (with_reducible refine' wpAny_BinOp ?_); (with_reducible refine' wpAny_BinOp ?_); (((with_reducible refine' ev_local (by assumption) ?rd41 ?_); (case rd41 => ((with_reducible (repeat first | exact Rd.head | apply Rd.tail | (apply Rd.of; assumption))))))); (((with_reducible refine' c_int (by assumption) ?_); intro _ _ _)); (((with_reducible refine' w_div (by assumption) ?nz43 ?_); (case nz43 => decide); intro _ _ _)); (((with_reducible refine' c_int (by assumption) ?_); intro _ _ _)); (((with_reducible refine' w_mod (by assumption) ?nz45 ?_); (case nz45 => decide); intro _ _ _)); (((with_reducible refine' sub_signs (by assumption) ?ns46 ?_); (case ns46 => rfl); intro _ _ _)); (((with_reducible refine' w_add11 (by assumption) ?_); intro _ _ _)); (((with_reducible refine' st_local (by assumption) ?wr48 ?_); (case wr48 => ((with_reducible (repeat first | exact Wr.head | apply Wr.tail | (apply Wr.of; assumption))))); intro _ _)); (with_reducible refine' ifs ?_); (((with_reducible refine' test1 ?nm50 ?_); (case nm50 => rfl))); (((with_reducible refine' ev_local (by assumption) ?rd51 ?_); (case rd51 => ((with_reducible (repeat first | exact Rd.head | apply Rd.tail | (apply Rd.of; assumption))))))); (((with_reducible refine' ev_local (by assumption) ?rd52 ?_); (case rd52 => ((with_reducible (repeat first | exact Rd.head | apply Rd.tail | (apply Rd.of; assumption))))))); (with_reducible refine' o_eqS ?_); (with_reducible refine' tr_bool ?_))
  split
  · rename_i hc
    ((((with_reducible refine' asgs ?nc55 ?_); (case nc55 => rfl))); (with_reducible refine' wpAny_BinOp ?_); (with_reducible refine' Subscript_ ?_); (((with_reducible refine' ev_local (by assumption) ?rd58 ?_); (case rd58 => ((with_reducible (repeat first | exact Rd.head | apply Rd.tail | (apply Rd.of; assumption))))))); (((with_reducible refine' c_int (by assumption) ?_); intro _ _ _)); (((with_reducible refine' sub_0 (by assumption) ?ns60 ?_); (case ns60 => rfl); intro _ _ _)); (with_reducible refine' Subscript_ ?_); (((with_reducible refine' ev_local (by assumption) ?rd62 ?_); (case rd62 => ((with_reducible (repeat first | exact Rd.head | apply Rd.tail | (apply Rd.of; assumption))))))); (with_reducible refine' wpAny_BinOp ?_); (with_reducible refine' wpAny_BinOp ?_); (with_reducible refine' wpAny_BinOp ?_); (((with_reducible refine' ev_local (by assumption) ?rd66 ?_); (case rd66 => ((with_reducible (repeat first | exact Rd.head | apply Rd.tail | (apply Rd.of; assumption))))))); (((with_reducible refine' c_int (by assumption) ?_); intro _ _ _)); (((with_reducible refine' w_div (by assumption) ?nz68 ?_); (case nz68 => decide); intro _ _ _)); (((with_reducible refine' c_int (by assumption) ?_); intro _ _ _)); (((with_reducible refine' w_add (by assumption) ?_); intro _ _ _)); (((with_reducible refine' c_int (by assumption) ?_); intro _ _ _)); (((with_reducible refine' w_mod (by assumption) ?nz72 ?_); (case nz72 => decide); intro _ _ _)); (((with_reducible refine' sub_signs (by assumption) ?ns73 ?_); (case ns73 => rfl); intro _ _ _)); (((with_reducible refine' w_add11 (by assumption) ?_); intro _ _ _)); (((with_reducible refine' st_local (by assumption) ?wr75 ?_); (case wr75 => ((with_reducible (repeat first | exact Wr.head | apply Wr.tail | (apply Wr.of; assumption))))); intro _ _)))
    refine wpAny_execs_nil ?_
    show wpAny _ _ _ _ _ _
    ((with_reducible refine' rets ?_); (with_reducible refine' PyProof.Rows.List_ ?_); (((with_reducible refine' args_c ?pa78 ?_); (case pa78 => rfl))); (((with_reducible refine' ev_local (by assumption) ?rd79 ?_); (case rd79 => ((with_reducible (repeat first | exact Rd.head | apply Rd.tail | (apply Rd.of; assumption))))))); (((with_reducible refine' args_c ?pa80 ?_); (case pa80 => rfl))); (((with_reducible refine' ev_local (by assumption) ?rd81 ?_); (case rd81 => ((with_reducible (repeat first | exact Rd.head | apply Rd.tail | (apply Rd.of; assumption))))))); (with_reducible refine' PyProof.Rows.args_nil ?_))
    refine new_list (by assumption) (show 2 ≤ sizeLine by decide) (fun D s' W' => ?_)
    have o := W'.own (.head _)
    have e : word2 N = ⟨#[sg (N.fmod 8), sg ((N.fdiv 8 + 1).fmod 8)]⟩ := if_pos hc
    rw [e] at h
    exact h _ _ _ _ W'.done o.1 o.2
  · rename_i hc
    refine wpAny_execs_nil ?_
    show wpAny _ _ _ _ _ _
    ((with_reducible refine' rets ?_); (with_reducible refine' PyProof.Rows.List_ ?_); (((with_reducible refine' args_c ?pa85 ?_); (case pa85 => rfl))); (((with_reducible refine' ev_local (by assumption) ?rd86 ?_); (case rd86 => ((with_reducible (repeat first | exact Rd.head | apply Rd.tail | (apply Rd.of; assumption))))))); (((with_reducible refine' args_c ?pa87 ?_); (case pa87 => rfl))); (((with_reducible refine' ev_local (by assumption) ?rd88 ?_); (case rd88 => ((with_reducible (repeat first | exact Rd.head | apply Rd.tail | (apply Rd.of; assumption))))))); (with_reducible refine' PyProof.Rows.args_nil ?_))
    refine new_list (by assumption) (show 2 ≤ sizeLine by decide) (fun D s' W' => ?_)
    have o := W'.own (.head _)
    have e : word2 N = word2' N := if_neg hc
    rw [e] at h
    exact h _ _ _ _ W'.done o.1 o.2
end
-- Spl
section
open PySem PySem.W PyProof.Rows
section
variable {prog : Program} {w : World} {A : Around} {E : Value → Shared → Prop} {s : Shared} {env : Env} {x : Str} {t u : Tok}
variable {P : Params} {s₀ : Shared} {B₀ : G} {ns : List (Str × NameKind)} {B : G} {vs vs' : List (Option Value)} {os os' : List (Addr × AO)}
theorem Wd.st (W : Wd P s₀ B₀ env ns B s vs os) : Stat P s.heap.get? := W.stat.mono W.keep

theorem call_g {fname : Str} {f : Addr} {o : Obj} {fd : FuncData} {e : Expr} {rest : List Expr} {p pos : Pos} {Q : Value → Shared → Prop} (W : Wd P s₀ B₀ env ns B s vs os) (hk : Kd ns fname .globalImplicit) (hg : Glob fname (.ref f))
    (hf : (hd.heap_39 P).lookup f = some o) (hd' : o.data = .func fd) (ha : plainArg e = true)
    (h : wpAny (model prog w) A (spliced (backTo pos (starEach (e :: rest) env))) (fun vs s₁ => Stat P s₁.heap.get? ∧ wpAny (model prog w) A (call (.ref f) vs) Q E s₁) E s) :
    wpAny (model prog w) A (eval (.Call (.Name fname p) (e :: rest) [] pos) env) Q E s := by
  with_reducible refine Call_ (ev_glob W hk hg ?_) ?_
  · rw [starEach_cons_plain ha] at h ⊢
    refine Calls.callWith_function (o := o) (fd := fd) (Calls.evalArgs_plain (wpAny_mono h (fun vs s₁ h₁ => ⟨⟨h₁.1.K _ _ hf, hd'⟩, h₁.2⟩) fun _ _ x => x))
  · rfl
theorem call_b {fname : Str} {id : String} {e : Expr} {rest : List Expr} {p pos : Pos} {Q : Value → Shared → Prop} (W : Wd P s₀ B₀ env ns B s vs os) (hk : Kd ns fname .globalImplicit) (hg : Blt fname (.builtin id))
    (ha : (e :: rest).all plainArg = true)
    (h : wpAny (model prog w) A (spliced (backTo pos (starEach (e :: rest) env))) (fun vs s₁ => wpAny (model prog w) A (call (.builtin id) vs) Q E s₁) E s) :
    wpAny (model prog w) A (eval (.Call (.Name fname p) (e :: rest) [] pos) env) Q E s := by
  with_reducible refine Call_ (ev_blt W hk hg ?_) ?_
  · exact with_builtin ha h
  · rfl
end

noncomputable def esc (c : Nat) : List Nat := if c = 92 ∨ c = 34 then [92, c] else [c]
noncomputable def putOf (a b : Nat) : Str := ⟨([34] ++ esc a ++ esc b ++ [34]).toArray⟩
noncomputable def takeOf (a b : Nat) : Str := ⟨#[92, a, 92, b, 45, 9, 13, 32, 10]⟩
theorem repl_word : ∀ a ∈ signs, ∀ b ∈ signs, repl ⟨#[a, b]⟩ ["\\", "\\\\", "\"", "\\\""] = ⟨(esc a ++ esc b).toArray⟩ := by decide +kernel
theorem repl_ok : ∀ a ∈ signs, ∀ b ∈ signs, JoinOk "\\\\" (Txt.split ⟨#[a, b]⟩ "\\") = true ∧ (Txt.join "\\\\" (Txt.split ⟨#[a, b]⟩ "\\")).length ≤ 10000 ∧ JoinOk "\\\"" (Txt.split (Txt.join "\\\\" (Txt.split ⟨#[a, b]⟩ "\\")) "\"") = true := by decide +kernel

theorem swaps {env : Env} {P : Params} {s₀ : Shared} {B₀ : G} {ns : List (Str × NameKind)} {B : G} {s : Shared} {vs : List (Option Value)} {os : List (Addr × AO)} {elt : Expr} {gens : List Comprehension} {scope : Scope} {pos p : Pos} {y : Str} {line : Nat}
    (W : Wd P s₀ B₀ env ns B s vs os) (hk : Kd ns y .local) (hl : Nat.beq p.line pos.line = true) (hn : (scope.names.any fun (n, k) => n == y && (k == .local || k == .cell)) = false) :
    swapsWith (.ListComp elt gens scope pos) (some (.Name y p)) line env = pure true := by
  have h1 : env.blockKind = .function := by unfold Env.blockKind; rw [W.kind]; rfl
  have h2 := W.kd hk
  have h3 : (p.line == (Expr.ListComp elt gens scope pos).pos.line) = true := beq_iff_eq.mpr (Nat.eq_of_beq_eq_true hl)
  show (pure (env.blockKind == .function && env.kindOf y == some .local && p.line == (Expr.ListComp elt gens scope pos).pos.line && !(scope.names.any fun (n, k) => n == y && (k == .local || k == .cell))) : Sem Bool) = pure true
  rw [h1, h2, h3, hn]; rfl

theorem esc_len (c : Nat) : (esc c).length ≤ 2 := by unfold esc; split <;> simp
theorem put_eq (p q : Nat) : Str.ofString "\"" ++ (⟨(esc p ++ esc q).toArray⟩ : Str) ++ Str.ofString "\"" = putOf p q := by
  have e : Str.ofString "\"" = ⟨#[34]⟩ := by decide
  rw [e]
  exact Str.ext' (by simp [Str.cps_append, putOf])
theorem take_eq (p q : Nat) : Str.ofString "\\" ++ (⟨#[p]⟩ : Str) ++ Str.ofString "\\" ++ (⟨#[q]⟩ : Str) ++ Str.ofString "-\t\r \n" = takeOf p q := by
  have e : Str.ofString "\\" = ⟨#[92]⟩ := by decide
  have e' : Str.ofString "-\t\r \n" = ⟨#[45, 9, 13, 32, 10]⟩ := by decide
  rw [e, e']
  rfl
theorem quote_len : (Str.ofString "\"").length = 1 := by decide
theorem replace4 {prog : Program} {w : World} {A : Around} {E : Value → Shared → Prop} {s : Shared} {a b : Nat} {t u1 u2 u3 u4 : Tok} {Q : Value → Shared → Prop}
    (S : Stat w.params s.heap.get?) (hA : AOk A 1) (ha : a ∈ signs) (hb : b ∈ signs)
    (h : ∀ t' s', Keeps s s' → Q (.str ⟨(esc a ++ esc b).toArray⟩ t') s') :
    wpAny (model prog w) A (call (.ref 21) [.str ⟨#[a, b]⟩ t, .str "\\" u1, .str "\\\\" u2, .str "\"" u3, .str "\\\"" u4]) Q E s := by
  have k := repl_ok a ha b hb
  refine replace_spec (l := [("\\", u1), ("\\\\", u2), ("\"", u3), ("\\\"", u4)]) S hA (show 4 ≤ 100 by decide) ⟨(by decide : ((Str.ofString "\\").length == 0) = false), show 2 ≤ 10000 by decide, k.1, (by decide : ((Str.ofString "\"").length == 0) = false), k.2.1, k.2.2, trivial⟩ (fun t' s' hk => ?_)
  have e := repl_word a ha b hb
  have h' := h t' s' hk
  rw [← e] at h'
  exact h'


theorem spelled_spec {prog : Program} {w : World} {A : Around} {E : Value → Shared → Prop} {s : Shared} {wl : Addr} {a b c d : Nat} {t1 t2 : Tok} {Q : Value → Shared → Prop} {n : Nat}
    (S : Stat w.params s.heap.get?) (hA : AOk A (n + 2)) (ha : a ∈ signs) (hb : b ∈ signs) (hc : c ∈ signs) (hd : d ∈ signs) (hl : (AO.list [.str ⟨#[a, b]⟩ t1, .str ⟨#[c, d]⟩ t2]).Is s.heap.get? wl)
    (h : ∀ r sv s', Keeps s s' → s.heap.get? r = none → StrsAre sv [putOf a b, putOf c d, takeOf a b, takeOf c d] → (AO.list sv).Is s'.heap.get? r → Q (.ref r) s') :
    wpAny (model prog w) A (call (.ref 75) [.ref wl]) Q E s := by
  have ho := S.K 75 _ rfl
  have hc := S.K 74 _ rfl
  refine call_fn (n := n + 1) S hA ho rfl rfl ⟨_, _, _, _, rfl, hc, rfl, rfl⟩ rfl rfl rfl rfl rfl (by decide) (by decide) (by decide) ?_
  clear ho hc
  refine wpAny_of_eq (bind1 rfl) ⟨keeps_refl _, rfl, fun env L s₂ he W hA' => ?_⟩
  replace W : Wd w.params s s.heap.get? env [("words", .local), ("puts", .local)] _ s₂ [some (.ref wl), none] [] := W
  clear he
  have item : ∀ (f : Nat → Nat → Str) (k : Nat) (v : Value), [Value.str ⟨#[a, b]⟩ t1, .str ⟨#[c, d]⟩ t2][k]? = some v → ∃ p q tt, v = .str ⟨#[p, q]⟩ tt ∧ p ∈ signs ∧ q ∈ signs ∧ [f a b, f c d].take (k + 1) = [f a b, f c d].take k ++ [f p q] := by
    intro f k v hv
    match k, hv with
    | 0, hv => cases hv; exact ⟨a, b, t1, rfl, ha, hb, rfl⟩
    | 1, hv => cases hv; exact ⟨c, d, t2, rfl, by assumption, by assumption, rfl⟩
  refine wpAny_execs_cons (ex_comp (cl := []) (swaps W (.tail .head) ?_ ?_) ?_ ?_ ?_ (ev_local W .head ?_) ?_)
  · rfl
  · decide
  · exact closureFor_none (by decide)
  · rfl
  · decide
  · refine comp_used (fun k _ ys => StrsAre ys ([putOf a b, putOf c d].take k)) (vsx := fun v => [none, some v, none]) (vs' := fun v => [some (.ref wl), some v]) (cns := [(".0", .local), ("word", .local), ("replace", .globalImplicit)]) hA'.handled W (hl.mono W.keep)
      (show 2 ≤ 100000 by decide) rfl ?_ rfl ?_ ?_ (fun v => .tail .head) (fun v => .tail .head) .nil ?_ ?_
    · decide
    · decide
    · decide
    · rintro k v cenv I D B' s' ys hv hφ hys hB - W'
      obtain ⟨p, q, tt, rfl, hp, hq, e⟩ := item putOf k v hv
      refine wpAny_tests_nil (.inr ⟨rfl, ?_⟩)
      dsimp only at W'
      ((with_reducible refine' wpAny_BinOp ?_); (with_reducible refine' wpAny_BinOp ?_); (((with_reducible refine' c_str (by assumption) ?_); intro _ _ _)))
      refine call_g (by assumption) (.tail (.tail .head)) .replace rfl rfl rfl ?_
      ((((with_reducible refine' args_c ?pa4 ?_); (case pa4 => rfl))); (((with_reducible refine' ev_local (by assumption) ?rd5 ?_); (case rd5 => ((with_reducible (repeat first | exact Rd.head | apply Rd.tail | (apply Rd.of; assumption))))))); (((with_reducible refine' args_c ?pa6 ?_); (case pa6 => rfl))); (((with_reducible refine' c_str (by assumption) ?_); intro _ _ _)); (((with_reducible refine' args_c ?pa8 ?_); (case pa8 => rfl))); (((with_reducible refine' c_str (by assumption) ?_); intro _ _ _)); (((with_reducible refine' args_c ?pa10 ?_); (case pa10 => rfl))); (((with_reducible refine' c_str (by assumption) ?_); intro _ _ _)); (((with_reducible refine' args_c ?pa12 ?_); (case pa12 => rfl))); (((with_reducible refine' c_str (by assumption) ?_); intro _ _ _)); (with_reducible refine' PyProof.Rows.args_nil ?_))
      refine ⟨Wd.st (by assumption), replace4 (Wd.st (by assumption)) (hA'.less (by (first | with_reducible assumption | exact Nat.le_of_ble_eq_true rfl | exact Nat.add_le_add_left (Nat.le_of_ble_eq_true rfl) _ | exact Nat.le_trans (by assumption) (Nat.le_of_ble_eq_true rfl) | exact Nat.lt_of_le_of_lt (by assumption) (Nat.le_of_ble_eq_true rfl) | exact Nat.le_trans (Nat.le_of_eq (by assumption)) (Nat.le_trans (by assumption) (Nat.le_of_ble_eq_true rfl)) | lia | omega))) hp hq (fun t' s'' hk => ?_)⟩
      rename Wd _ _ _ _ _ _ _ _ _ => W2
      have W3 := W2.keeps hk
      refine w_addS W3 ?_ (fun t3 s4 W4 => ?_)
      · rw [quote_len]
        show 1 + (esc p ++ esc q).toArray.size ≤ sizeLine
        have := esc_len p; have := esc_len q
        simp [sizeLine_eq]; (first | with_reducible assumption | exact Nat.le_of_ble_eq_true rfl | exact Nat.add_le_add_left (Nat.le_of_ble_eq_true rfl) _ | exact Nat.le_trans (by assumption) (Nat.le_of_ble_eq_true rfl) | exact Nat.lt_of_le_of_lt (by assumption) (Nat.le_of_ble_eq_true rfl) | exact Nat.le_trans (Nat.le_of_eq (by assumption)) (Nat.le_trans (by assumption) (Nat.le_of_ble_eq_true rfl)) | lia | omega)
      ((((with_reducible refine' c_str (by assumption) ?_); intro _ _ _)))
      refine w_addS (by assumption) ?_ (fun t5 s6 W6 => ?_)
      · rw [Str.length_append, quote_len]
        show 1 + (esc p ++ esc q).toArray.size + 1 ≤ sizeLine
        have := esc_len p; have := esc_len q
        simp [sizeLine_eq]; (first | with_reducible assumption | exact Nat.le_of_ble_eq_true rfl | exact Nat.add_le_add_left (Nat.le_of_ble_eq_true rfl) _ | exact Nat.le_trans (by assumption) (Nat.le_of_ble_eq_true rfl) | exact Nat.lt_of_le_of_lt (by assumption) (Nat.le_of_ble_eq_true rfl) | exact Nat.le_trans (Nat.le_of_eq (by assumption)) (Nat.le_trans (by assumption) (Nat.le_of_ble_eq_true rfl)) | lia | omega)
      refine ⟨B', _, hB, ?_, W6⟩
      rw [put_eq]
      show StrsAre _ (List.take (k + 1) _)
      rw [e]
      exact strs_snoc hφ _ _
    · intro D s' B' B₂ ys hφ hB hn W'
      have hw' : (AO.list [.str ⟨#[a, b]⟩ t1, .str ⟨#[c, d]⟩ t2]).Is s'.heap.get? wl := (hl.mono hB).mono W'.keep
      show wpAny _ _ _ _ _ _
      ((with_reducible refine' rets ?_); (with_reducible refine' wpAny_BinOp ?_); (((with_reducible refine' ev_local (by assumption) ?rd18 ?_); (case rd18 => ((with_reducible (repeat first | exact Rd.head | apply Rd.tail | (apply Rd.of; assumption))))))))
      refine ev_comp (cl := []) ?_ rfl ?_ (ev_local W' .head ?_) ?_
      · exact closureFor_none (by decide)
      · decide
      · refine comp_plain (fun k _ ys => StrsAre ys ([takeOf a b, takeOf c d].take k)) (vsx := fun v => [none, some v]) (cns := [(".0", .local), ("word", .local)]) hA'.handled W' hw'
          (show 2 ≤ 100000 by decide) rfl ?_ rfl ?_ ?_ (fun v => .tail .head) .nil ?_ ?_
        · decide
        · decide
        · decide
        · rintro k v cenv I D' B'' s'' ys' hv hφ' hys hB' - W2
          obtain ⟨p, q, tt, rfl, hp, hq, e⟩ := item takeOf k v hv
          refine wpAny_tests_nil (.inr ⟨rfl, ?_⟩)
          dsimp only at W2
          ((with_reducible refine' wpAny_BinOp ?_); (with_reducible refine' wpAny_BinOp ?_); (with_reducible refine' wpAny_BinOp ?_); (with_reducible refine' wpAny_BinOp ?_); (((with_reducible refine' c_str (by assumption) ?_); intro _ _ _)); (with_reducible refine' Subscript_ ?_); (((with_reducible refine' ev_local (by assumption) ?rd25 ?_); (case rd25 => ((with_reducible (repeat first | exact Rd.head | apply Rd.tail | (apply Rd.of; assumption))))))); (((with_reducible refine' c_int (by assumption) ?_); intro _ _ _)); (((with_reducible refine' sub_0 (by assumption) ?ns27 ?_); (case ns27 => rfl); intro _ _ _)); (((with_reducible refine' w_addS (by assumption) ?sz28 ?_); (case sz28 => exact Nat.le_of_ble_eq_true rfl); intro _ _ _)); (((with_reducible refine' c_str (by assumption) ?_); intro _ _ _)); (((with_reducible refine' w_addS (by assumption) ?sz30 ?_); (case sz30 => exact Nat.le_of_ble_eq_true rfl); intro _ _ _)); (with_reducible refine' Subscript_ ?_); (((with_reducible refine' ev_local (by assumption) ?rd32 ?_); (case rd32 => ((with_reducible (repeat first | exact Rd.head | apply Rd.tail | (apply Rd.of; assumption))))))); (((with_reducible refine' c_int (by assumption) ?_); intro _ _ _)); (((with_reducible refine' sub_1 (by assumption) ?ns34 ?_); (case ns34 => rfl); intro _ _ _)); (((with_reducible refine' w_addS (by assumption) ?sz35 ?_); (case sz35 => exact Nat.le_of_ble_eq_true rfl); intro _ _ _)); (((with_reducible refine' c_str (by assumption) ?_); intro _ _ _)); (((with_reducible refine' w_addS (by assumption) ?sz37 ?_); (case sz37 => exact Nat.le_of_ble_eq_true rfl); intro _ _ _)))
          refine ⟨B'', _, hB', ?_, by assumption⟩
          rw [take_eq]
          show StrsAre _ (List.take (k + 1) _)
          rw [e]
          exact strs_snoc hφ' _ _
        · intro D2 s2 B2' B3 zs hφ2 hB3 hn3 W3
          refine w_addL W3 (W3.at (.tail _ (.head _))) (W3.at (.head _)) ?_ (fun D4 s4 W4 => ?_)
          · rw [strs_len hφ, strs_len hφ2]; exact Nat.le_of_ble_eq_true rfl
          · have o := W4.own (.head _)
            exact h _ _ _ W4.done o.1 (strs_app hφ hφ2) o.2
      · intro _; rfl
  · intro _; rfl
end
-- Lst
section
open PySem PySem.W PyProof.Rows
section
variable {prog : Program} {w : World} {A : Around} {E : Value → Shared → Prop} {s : Shared} {env : Env} {x : Str} {t u : Tok}
variable {P : Params} {s₀ : Shared} {B₀ : G} {ns : List (Str × NameKind)} {B : G} {vs vs' : List (Option Value)} {os os' : List (Addr × AO)} {Q : Value → Shared → Prop}

theorem mem_h {α : Type} {a : α} {l : List α} : a ∈ a :: l := .head _
theorem mem_t {α : Type} {a b : α} {l : List α} (h : a ∈ l) : a ∈ b :: l := .tail _ h
theorem gm_list {name : Str} {id : String} {pl : Sem Bool} {l : Addr} {items : List Value} {Q : Value × List Value → Shared → Prop} (slot : Slot "list" name id)
    (hty : typeOf (.builtin id) = pure (.type "method_descriptor")) (hl : (AO.list items).Is s.heap.get? l) (h : Q (.builtin id, [.ref l]) s) : wpAny (model prog w) A (getMethod (.ref l) name pl) Q E s := by
  have hd : s.heap.NoDictAt (.ref l) := by obtain ⟨n, e⟩ := hl; exact ⟨_, e, rfl⟩
  with_reducible exact getMethod_list_of slot hty hl.isL hd h
theorem gm_append {pl : Sem Bool} {l : Addr} {items : List Value} {Q : Value × List Value → Shared → Prop} (hl : (AO.list items).Is s.heap.get? l) (h : Q (.builtin "list.append", [.ref l]) s) : wpAny (model prog w) A (getMethod (.ref l) "append" pl) Q E s := by
  with_reducible exact gm_list PySem.F.slot_list_append PySem.F.type_list_append hl h
theorem gm_extend {pl : Sem Bool} {l : Addr} {items : List Value} {Q : Value × List Value → Shared → Prop} (hl : (AO.list items).Is s.heap.get? l) (h : Q (.builtin "list.extend", [.ref l]) s) : wpAny (model prog w) A (getMethod (.ref l) "extend" pl) Q E s := by
  with_reducible exact gm_list PySem.F.slot_list_extend PySem.F.type_list_extend hl h
theorem gm_pop {pl : Sem Bool} {l : Addr} {items : List Value} {Q : Value × List Value → Shared → Prop} (hl : (AO.list items).Is s.heap.get? l) (h : Q (.builtin "list.pop", [.ref l]) s) : wpAny (model prog w) A (getMethod (.ref l) "pop" pl) Q E s := by
  with_reducible exact gm_list PySem.F.slot_list_pop PySem.F.type_list_pop hl h

theorem l_extend {D b : Addr} {ys zs : List Value} (W : Wd P s₀ B₀ env ns B s vs os) (u : Upd D (.list ys) (.list (ys ++ zs)) os os') (hb : (AO.list zs).Is s.heap.get? b) (hsz : ys.length + zs.length ≤ sizeLine)
    (h : ∀ s', Wd P s₀ B₀ env ns B s' vs os' → Q .none s') : wpAny (model prog w) A (call (.builtin "list.extend") [.ref D, .ref b]) Q E s := by
  obtain ⟨n, hD⟩ := (W.at u.mem).plainL
  obtain ⟨n2, hb⟩ := hb.plainL
  have hsz' : ys.toArray.size + zs.toArray.size ≤ sizeLine := by simpa using hsz
  refine call_meets PySem.F.slot_list_extend ⟨_, hD, rfl⟩ PySem.F.entry_list_extend (PySem.F.args_list_extend_2 _ _) (AutoSeq1.list_extend_list_list_0 D ys.toArray n b zs.toArray n2 (extend_door hsz') (Nat.le_trans (Nat.le_add_right _ _) hsz')) ⟨hD, hb, ?_⟩
  have hx := hD.update (fun xs => xs ++ zs.toArray)
  have e : ys.toArray ++ zs.toArray = (ys ++ zs).toArray := by simp
  rw [e] at hx
  exact h _ (W.upd (t := s.toks) u ⟨_, hx⟩ (Heap.SameBut.update ..).extBut)

theorem exprs {e : Expr} {pos : Pos} {rest : List Stmt} {Q : Flow → Shared → Prop} (W : Wd P s₀ B₀ env ns B s vs os) (hn : noComp e = true)
    (h : wpAny (model prog w) A (eval e env) (fun v s' => v = .none ∧ wpAny (model prog w) A (execs rest env) Q E s') E s) : wpAny (model prog w) A (execs (.Expr e pos :: rest) env) Q E s := by
  refine wpAny_execs_cons (wpAny_Expr (wpAny_mono h (fun v s' h' => ?_) fun _ _ x => x) ?_ ?_)
  · obtain ⟨rfl, h'⟩ := h'; exact h'
  · unfold interactive; rw [W.kind]; rfl
  · exact noComp_swaps hn _ _ _

theorem call_t {fname : Str} {T : String} {e : Expr} {rest : List Expr} {p pos : Pos} (W : Wd P s₀ B₀ env ns B s vs os) (hk : Kd ns fname .globalImplicit) (hg : Blt fname (.type T)) (ha : (e :: rest).all plainArg = true)
    (h : wpAny (model prog w) A (spliced (backTo pos (starEach (e :: rest) env))) (fun vs s₁ => wpAny (model prog w) A (call (.type T) vs) Q E s₁) E s) :
    wpAny (model prog w) A (eval (.Call (.Name fname p) (e :: rest) [] pos) env) Q E s := by
  with_reducible refine Call_ (ev_blt W hk hg ?_) ?_
  · refine PySem.callWith_type (backTo_any ha) ?_
    rw [List.all_cons, Bool.and_eq_true] at ha
    rw [starEach_cons_plain ha.1] at h ⊢
    exact Calls.evalArgs_plain h
  · rfl

noncomputable abbrev rgObj (a b : Int) (t u v : Tok) : Obj := { cls := .type "range", data := .fields #[.int a t, .int b u, .int 1 v] }
noncomputable abbrev rgIt (a left : Int) : AO := .obj { cls := .type "range_iterator", data := .fields #[rawInt a, rawInt left, rawInt 1] }
theorem r_range1 {n : Int} (W : Wd P s₀ B₀ env ns B s vs os) (h : ∀ r t u v s', Wd P s₀ B₀ env ns B s' vs os → s'.heap.get? r = some (rgObj 0 n t u v) → Q (.ref r) s') : wpAny (model prog w) A (call (.type "range") [.int n t]) Q E s := by
  refine call_range_1 ?_
  exact h _ _ _ _ _ (W.keeps (keeps_push s _ _)) (Heap.get?_push_size _ rfl)
theorem r_range2 {a n : Int} (W : Wd P s₀ B₀ env ns B s vs os) (h : ∀ r t u v s', Wd P s₀ B₀ env ns B s' vs os → s'.heap.get? r = some (rgObj a n t u v) → Q (.ref r) s') : wpAny (model prog w) A (call (.type "range") [.int a t, .int n u]) Q E s := by
  refine call_range_2 ?_
  exact h _ _ _ _ _ (W.keeps (keeps_push s _ _)) (Heap.get?_push_size _ rfl)
theorem it_range {r : Addr} {a b : Int} {t u v : Tok} (W : Wd P s₀ B₀ env ns B s vs os) (hr : s.heap.get? r = some (rgObj a b t u v)) (ha : 0 ≤ a) (hab : a ≤ b) (hb : b < 2 ^ 62)
    (h : ∀ it s', Wd P s₀ B₀ env ns B s' vs ((it, rgIt a (b - a)) :: os) → Q (.ref it) s') : wpAny (model prog w) A (pyIter (.ref r)) Q E s := by
  refine wpAny_pyIter_range hr (small_one (by (first | with_reducible assumption | exact Nat.le_of_ble_eq_true rfl | exact Nat.add_le_add_left (Nat.le_of_ble_eq_true rfl) _ | exact Nat.le_trans (by assumption) (Nat.le_of_ble_eq_true rfl) | exact Nat.lt_of_le_of_lt (by assumption) (Nat.le_of_ble_eq_true rfl) | exact Nat.le_trans (Nat.le_of_eq (by assumption)) (Nat.le_trans (by assumption) (Nat.le_of_ble_eq_true rfl)) | lia | omega)) (by (first | with_reducible assumption | exact Nat.le_of_ble_eq_true rfl | exact Nat.add_le_add_left (Nat.le_of_ble_eq_true rfl) _ | exact Nat.le_trans (by assumption) (Nat.le_of_ble_eq_true rfl) | exact Nat.lt_of_le_of_lt (by assumption) (Nat.le_of_ble_eq_true rfl) | exact Nat.le_trans (Nat.le_of_eq (by assumption)) (Nat.le_trans (by assumption) (Nat.le_of_ble_eq_true rfl)) | lia | omega)) (by (first | with_reducible assumption | exact Nat.le_of_ble_eq_true rfl | exact Nat.add_le_add_left (Nat.le_of_ble_eq_true rfl) _ | exact Nat.le_trans (by assumption) (Nat.le_of_ble_eq_true rfl) | exact Nat.lt_of_le_of_lt (by assumption) (Nat.le_of_ble_eq_true rfl) | exact Nat.le_trans (Nat.le_of_eq (by assumption)) (Nat.le_trans (by assumption) (Nat.le_of_ble_eq_true rfl)) | lia | omega)) hb) ?_
  have e : Builtin.Range.rangeSize a b 1 = b - a := by rw [rangeSize_one]; split <;> (first | with_reducible assumption | exact Nat.le_of_ble_eq_true rfl | exact Nat.add_le_add_left (Nat.le_of_ble_eq_true rfl) _ | exact Nat.le_trans (by assumption) (Nat.le_of_ble_eq_true rfl) | exact Nat.lt_of_le_of_lt (by assumption) (Nat.le_of_ble_eq_true rfl) | exact Nat.le_trans (Nat.le_of_eq (by assumption)) (Nat.le_trans (by assumption) (Nat.le_of_ble_eq_true rfl)) | lia | omega)
  rw [e]
  exact h _ _ (W.push (t := s.toks) (x := rgIt a (b - a)) (Heap.get?_push_size _ rfl))
theorem Steps.range {g : G} {it : Addr} {a b : Int} (hh : A.handled = none) (hab : a ≤ b) : Steps prog w A g it (b - a).toNat (fun k v => ∃ t, v = .int (a + k) t) (fun k => rgIt (a + k) (b - a - k)) where
  next := fun {k s Q E} hk hg hi h => by
    refine wpAny_pyNext_range_item (x := a + k) (left := b - a - k) (step := 1) hi (by (first | with_reducible assumption | exact Nat.le_of_ble_eq_true rfl | exact Nat.add_le_add_left (Nat.le_of_ble_eq_true rfl) _ | exact Nat.le_trans (by assumption) (Nat.le_of_ble_eq_true rfl) | exact Nat.lt_of_le_of_lt (by assumption) (Nat.le_of_ble_eq_true rfl) | exact Nat.le_trans (Nat.le_of_eq (by assumption)) (Nat.le_trans (by assumption) (Nat.le_of_ble_eq_true rfl)) | lia | omega)) fun h' hi' hs => ?_
    refine h _ h' _ ⟨_, rfl⟩ ?_ hs.extBut
    have e1 : a + ((k + 1 : Nat) : Int) = a + k + 1 := by (first | with_reducible assumption | exact Nat.le_of_ble_eq_true rfl | exact Nat.add_le_add_left (Nat.le_of_ble_eq_true rfl) _ | exact Nat.le_trans (by assumption) (Nat.le_of_ble_eq_true rfl) | exact Nat.lt_of_le_of_lt (by assumption) (Nat.le_of_ble_eq_true rfl) | exact Nat.le_trans (Nat.le_of_eq (by assumption)) (Nat.le_trans (by assumption) (Nat.le_of_ble_eq_true rfl)) | lia | omega)
    have e2 : b - a - ((k + 1 : Nat) : Int) = b - a - k - 1 := by (first | with_reducible assumption | exact Nat.le_of_ble_eq_true rfl | exact Nat.add_le_add_left (Nat.le_of_ble_eq_true rfl) _ | exact Nat.le_trans (by assumption) (Nat.le_of_ble_eq_true rfl) | exact Nat.lt_of_le_of_lt (by assumption) (Nat.le_of_ble_eq_true rfl) | exact Nat.le_trans (Nat.le_of_eq (by assumption)) (Nat.le_trans (by assumption) (Nat.le_of_ble_eq_true rfl)) | lia | omega)
    show h'.get? it = _
    rw [e1, e2]; exact hi'
  stop := fun {s Q E} hg hi h => wpAny_pyNext_range_end (x := a + ((b - a).toNat : Nat)) (left := b - a - ((b - a).toNat : Nat)) (step := 1) hh hi (by (first | with_reducible assumption | exact Nat.le_of_ble_eq_true rfl | exact Nat.add_le_add_left (Nat.le_of_ble_eq_true rfl) _ | exact Nat.le_trans (by assumption) (Nat.le_of_ble_eq_true rfl) | exact Nat.lt_of_le_of_lt (by assumption) (Nat.le_of_ble_eq_true rfl) | exact Nat.le_trans (Nat.le_of_eq (by assumption)) (Nat.le_trans (by assumption) (Nat.le_of_ble_eq_true rfl)) | lia | omega)) fun h' hs => h h' hs
end
end
-- Prs
section
open PySem PySem.W PyProof.Rows
inductive LsAre {α : Type} (R : List Value → α → Prop) (B : G) : List Value → List α → Prop
  | nil : LsAre R B [] []
  | cons {a : Addr} {dv : List Value} {d : α} {rs : List Value} {ds : List α} : (AO.list dv).Is B a → R dv d → LsAre R B rs ds → LsAre R B (.ref a :: rs) (d :: ds)
section
variable {α : Type} {R : List Value → α → Prop} {B B' : G} {rs us : List Value} {ds es : List α}
theorem LsAre.mono (h : LsAre R B rs ds) (k : Sub B B') : LsAre R B' rs ds := by
  induction h with
  | nil => exact .nil
  | cons a b _ ih => exact .cons (a.mono k) b ih
theorem LsAre.app (h : LsAre R B rs ds) (g : LsAre R B us es) : LsAre R B (rs ++ us) (ds ++ es) := by
  induction h with
  | nil => exact g
  | cons a b _ ih => exact .cons a b ih
theorem LsAre.len (h : LsAre R B rs ds) : rs.length = ds.length := by
  induction h with
  | nil => rfl
  | cons a b _ ih => simp [ih]
theorem LsAre.get (h : LsAre R B rs ds) : ∀ {k : Nat} {v : Value}, rs[k]? = some v → ∃ a dv d, v = .ref a ∧ (AO.list dv).Is B a ∧ R dv d ∧ ds[k]? = some d := by
  induction h with
  | nil => intro k v e; simp at e
  | @cons a dv d rs ds ha hd h ih =>
    intro k v e
    cases k with
    | zero => simp at e; exact ⟨a, dv, d, e.symm, ha, hd, rfl⟩
    | succ k => simpa using ih (by simpa using e)
end

theorem Wd.two_rows {P : Params} {s₀ : Shared} {B₀ : G} {env : Env} {ns : List (Str × NameKind)} {B : G} {s : Shared} {vs : List (Option Value)} {os : List (Addr × AO)} {o r1 r2 : Addr} {x x1 x2 : AO}
    (W : Wd P s₀ B₀ env ns B s vs ((o, x) :: (r2, x2) :: (r1, x1) :: os)) : ∃ B', Sub B B' ∧ x1.Is B' r1 ∧ x2.Is B' r2 ∧ Wd P s₀ B₀ env ns B' s vs os := by
  refine Wd.freezeC (W.drop (List.sublist_cons_self _ _)) fun B1 k1 h1 W1 => ?_
  refine Wd.freezeC W1 fun B2 k2 h2 W2 => ?_
  exact ⟨B2, k1.trans k2, h2, h1.mono k2, W2⟩

noncomputable def rowsXY (x y : Int) : List (List Int) := (if x ≠ y then [[x, y + 2], [y + 2, x]] else []) ++ ([[x, y, y + 2], [x, y + 2, y]] ++ [[x, x + 2, y + 2], [x + 2, x, y + 2]])
noncomputable def rowsX (x : Int) : Nat → List (List Int)
  | 0 => []
  | j + 1 => rowsX x j ++ rowsXY x j
noncomputable def rowsTo : Nat → List (List Int)
  | 0 => []
  | k + 1 => rowsTo k ++ rowsX k 2


/-- `for_loop` with the turn's end under a name: the terms stay small -/
theorem for_loopC {prog : Program} {w : World} {A : Around} {E : Value → Shared → Prop} {P : Params} {s₀ : Shared} {B₀ : G} {env : Env} {ns : List (Str × NameKind)}
    {target : Expr} {body : List Stmt} {it : Addr} {n : Nat} {item : Nat → Value → Prop} {ao : Nat → AO} {B : G} {s : Shared} {vs : List (Option Value)} {os : List (Addr × AO)} {Q : Flow → Shared → Prop}
    (φ : Nat → G → List (Option Value) → List (Addr × AO) → Prop) (st : Steps prog w A B it n item ao)
    (ht : ∀ v, letOwnedTupleGo target (.ref it) v = pure ())
    (W : Wd P s₀ B₀ env ns B s vs ((it, ao 0) :: os)) (h0 : φ 0 B vs os)
    (turn : ∀ (k : Nat) (QQ : Flow → Shared → Prop) (v : Value) (B' : G) (vs' : List (Option Value)) (os' : List (Addr × AO)) (s' : Shared),
      (∀ (B'' : G) (vs'' : List (Option Value)) (os'' : List (Addr × AO)) (s₃ : Shared), Sub B B'' → φ (k + 1) B'' vs'' os'' → Wd P s₀ B₀ env ns B'' s₃ vs'' ((it, ao (k + 1)) :: os'') → QQ .next s₃ ∧ QQ .cont s₃) →
      (∀ s₃, Q .next s₃ → QQ .brk s₃) → (∀ v s₃, Q (.ret v) s₃ → QQ (.ret v) s₃) →
      k < n → item k v → Sub B B' → φ k B' vs' os' → Wd P s₀ B₀ env ns B' s' vs' ((it, ao (k + 1)) :: os') →
      wpAny (model prog w) A (assign target env v) (fun _ s₂ => wpAny (model prog w) A (execs body env) QQ (fun _ _ => False) s₂) (fun _ _ => False) s')
    (fin : ∀ B' vs' os' s', Sub B B' → φ n B' vs' os' → Wd P s₀ B₀ env ns B' s' vs' os' → Q .next s') :
    wpAny (model prog w) A (runOwn (.forLoop target (.ref it) body [] env) env) Q E s :=
  for_loop φ st ht W h0 (fun k v B' vs' os' s' a b c d e => turn k (fun f s₃ => match f with
        | .next | .cont => ∃ B'' vs'' os'', Sub B B'' ∧ φ (k + 1) B'' vs'' os'' ∧ Wd P s₀ B₀ env ns B'' s₃ vs'' ((it, ao (k + 1)) :: os'')
        | .brk => Q .next s₃
        | .ret v => Q (.ret v) s₃) v B' vs' os' s' (fun B'' vs'' os'' s₃ x y z => ⟨⟨B'', vs'', os'', x, y, z⟩, B'', vs'', os'', x, y, z⟩) (fun _ x => x) (fun _ _ x => x) a b c d e) fin

/-- an expression that is a number, whatever own objects stand about -/
noncomputable def IE (prog : Program) (w : World) (A : Around) (P : Params) (s₀ : Shared) (B₀ : G) (env : Env) (ns : List (Str × NameKind)) (vs : List (Option Value)) (e : Expr) (n : Int) : Prop :=
  plainArg e = true ∧ ∀ (B : G) (s : Shared) (os : List (Addr × AO)) (E Q : Value → Shared → Prop), Wd P s₀ B₀ env ns B s vs os → (∀ t s', Wd P s₀ B₀ env ns B s' vs os → Q (.int n t) s') → wpAny (model prog w) A (eval e env) Q E s
inductive IEs (prog : Program) (w : World) (A : Around) (P : Params) (s₀ : Shared) (B₀ : G) (env : Env) (ns : List (Str × NameKind)) (vs : List (Option Value)) : List Expr → List Int → Prop
  | nil : IEs prog w A P s₀ B₀ env ns vs [] []
  | cons {e : Expr} {n : Int} {es : List Expr} {m : List Int} : IE prog w A P s₀ B₀ env ns vs e n → IEs prog w A P s₀ B₀ env ns vs es m → IEs prog w A P s₀ B₀ env ns vs (e :: es) (n :: m)
section
variable {prog : Program} {w : World} {A : Around} {E : Value → Shared → Prop} {s : Shared} {P : Params} {s₀ : Shared} {B₀ B : G} {env : Env} {ns : List (Str × NameKind)} {vs : List (Option Value)} {os : List (Addr × AO)}
theorem IE.local {x : Str} {n : Int} {t : Tok} {pos : Pos} (hr : Rd ns vs x (.int n t)) : IE prog w A P s₀ B₀ env ns vs (.Name x pos) n := ⟨rfl, fun _ _ _ _ _ W h => ev_local W hr (h _ _ W)⟩
theorem IE.add {e : Expr} {n b : Int} {k : Nat} {p pos : Pos} (h : IE prog w A P s₀ B₀ env ns vs e n) : IE prog w A P s₀ B₀ env ns vs (.BinOp e .Add (.Constant (.int b) k p) pos) (n + b) :=
  ⟨rfl, fun _ _ _ _ _ W h' => wpAny_BinOp (h.2 _ _ _ _ _ W fun _ _ W1 => c_int W1 fun _ _ W2 => w_add W2 h')⟩
theorem IEs.args {es : List Expr} {n : List Int} (h : IEs prog w A P s₀ B₀ env ns vs es n) : ∀ {s : Shared} {pos : Pos} {Q : List Value → Shared → Prop}, Wd P s₀ B₀ env ns B s vs os → (∀ u s', IntsAre u n → Wd P s₀ B₀ env ns B s' vs os → Q u s') →
    wpAny (model prog w) A (spliced (backTo pos (starEach es env))) Q E s := by
  induction h with
  | nil => exact fun W h => args_nil (h _ _ .nil W)
  | cons a _ ih => exact fun W h => args_c a.1 (a.2 _ _ _ _ _ W fun t _ W1 => ih W1 fun u s' g W2 => h _ _ (.cons _ t g) W2)
theorem IEs.list {es : List Expr} {n : List Int} {pos : Pos} {Q : Value → Shared → Prop} (h : IEs prog w A P s₀ B₀ env ns vs es n) (hn : n.length ≤ sizeLine) (W : Wd P s₀ B₀ env ns B s vs os)
    (k : ∀ D u s', IntsAre u n → Wd P s₀ B₀ env ns B s' vs ((D, .list u) :: os) → Q (.ref D) s') : wpAny (model prog w) A (eval (.List es pos) env) Q E s :=
  List_ (h.args W fun u _ g W1 => new_list W1 (by rw [ints_len g]; exact hn) fun D _ W2 => k D u _ g W2)
/-- `o.extend([[..], [..]])` -/
theorem ext2 {o : Str} {es fs : List Expr} {n m : List Int} {p1 p2 p3 p4 p5 p6 p7 : Pos} {rest : List Stmt} {D : Addr} {rs : List Value} {os' : List Value → List (Addr × AO)} {Q : Flow → Shared → Prop}
    (hside : Nat.beq p2.endLine p6.line = true) (he : IEs prog w A P s₀ B₀ env ns vs es n) (hf : IEs prog w A P s₀ B₀ env ns vs fs m) (hn : n.length ≤ sizeLine) (hm : m.length ≤ sizeLine) (W : Wd P s₀ B₀ env ns B s vs os)
    (hr : Rd ns vs o (.ref D)) (u : ∀ zs, Upd D (.list rs) (.list (rs ++ zs)) os (os' zs)) (hl : rs.length ≤ 200)
    (k : ∀ B' zs s', Sub B B' → LsAre IntsAre B' zs [n, m] → Wd P s₀ B₀ env ns B' s' vs (os' zs) → wpAny (model prog w) A (execs rest env) Q E s') :
    wpAny (model prog w) A (execs (.Expr (.Call (.Attribute (.Name o p1) "extend" p2) [.List [.List es p3, .List fs p4] p5] [] p6) p7 :: rest) env) Q E s := by
  refine exprs W rfl (call_meth (by simp [plainBase, plainArg, hside]) (ev_local W hr (gm_extend (W.at (u []).mem) ?_)))
  refine with_builtin rfl (args_c rfl (List_ (args_c rfl (he.list hn W fun r1 u1 s1 g1 W1 => args_c rfl (hf.list hm W1 fun r2 u2 s2 g2 W2 => args_nil (new_list W2 (Nat.le_of_ble_eq_true rfl) fun r s3 W3 => args_nil ?_))))))
  refine l_extend W3 (.tail (.tail (.tail (u _)))) (W3.at (.head _)) ?_ fun s4 W4 => ⟨rfl, ?_⟩
  · rw [sizeLine_eq]; simp only [List.length_cons, List.length_nil]; (first | with_reducible assumption | exact Nat.le_of_ble_eq_true rfl | exact Nat.add_le_add_left (Nat.le_of_ble_eq_true rfl) _ | exact Nat.le_trans (by assumption) (Nat.le_of_ble_eq_true rfl) | exact Nat.lt_of_le_of_lt (by assumption) (Nat.le_of_ble_eq_true rfl) | exact Nat.le_trans (Nat.le_of_eq (by assumption)) (Nat.le_trans (by assumption) (Nat.le_of_ble_eq_true rfl)) | lia | omega)
  obtain ⟨B', k', i, j, W5⟩ := W4.two_rows
  exact k B' _ s4 k' (.cons i g1 (.cons j g2 .nil)) W5
/-- `if test: body` whose both ends meet -/
theorem ifs_join {M : Model} {test : Expr} {body rest : List Stmt} {pos : Pos} {Q : Flow → Shared → Prop} (R : Shared → Prop)
    (h : wpAny M A (isTrue test env (eval test env)) (fun b s₂ => (b = true → wpAny M A (execs body env) (fun f s' => f = .next ∧ R s') E s₂) ∧ (b = false → R s₂)) E s)
    (k : ∀ s', R s' → wpAny M A (execs rest env) Q E s') : wpAny M A (execs (.If test body [] pos :: rest) env) Q E s := by
  refine ifs (wpAny_mono h (fun b s₂ h₂ => ?_) fun _ _ x => x)
  cases b with
  | true => exact wpAny_mono (h₂.1 rfl) (fun f s' h' => by obtain ⟨rfl, h'⟩ := h'; exact k _ h') fun _ _ x => x
  | false => exact wpAny_execs_nil (k _ (h₂.2 rfl))
theorem rows_len {k j : Nat} {rs : List Value} (hk : k < (2 - 0 : Int).toNat) (hj : j < (2 - 0 : Int).toNat) (h : rs.length = (rowsTo k ++ rowsX k j).length) : rs.length ≤ 100 := by
  have hk : k < 2 := hk
  have hj : j < 2 := hj
  rw [h]
  rcases k with _ | _ | k <;> rcases j with _ | _ | j <;> first | (first | with_reducible assumption | exact Nat.le_of_ble_eq_true rfl | exact Nat.add_le_add_left (Nat.le_of_ble_eq_true rfl) _ | exact Nat.le_trans (by assumption) (Nat.le_of_ble_eq_true rfl) | exact Nat.lt_of_le_of_lt (by assumption) (Nat.le_of_ble_eq_true rfl) | exact Nat.le_trans (Nat.le_of_eq (by assumption)) (Nat.le_trans (by assumption) (Nat.le_of_ble_eq_true rfl)) | lia | omega) | decide
end
theorem rows_ok : ∀ d ∈ rowsTo 2, d.length ≤ 1000 ∧ ∀ k ∈ d, 0 ≤ k ∧ k < 4 := by decide
theorem pairs_spec {prog : Program} {w : World} {A : Around} {E : Value → Shared → Prop} {s : Shared} {sp : Addr} {sv : List Value} {ss : List Str} {Q : Value → Shared → Prop} {n : Nat}
    (S : Stat w.params s.heap.get?) (hA : AOk A (n + 2)) (hs : (AO.list sv).Is s.heap.get? sp) (hss : StrsAre sv ss) (h4 : ss.length = 4) (hsz : ∀ x ∈ ss, x.length ≤ 100)
    (h : ∀ r pv s', Keeps s s' → s.heap.get? r = none → StrsAre pv ((rowsTo 2).map (textOf ss)) → (AO.list pv).Is s'.heap.get? r → Q (.ref r) s') :
    wpAny (model prog w) A (call (.ref 90) [.ref sp]) Q E s := by
  have ho := S.K 90 _ rfl
  have hc := S.K 89 _ rfl
  refine call_fnC (n := n + 1) S hA ho rfl rfl ⟨_, _, _, _, rfl, hc, rfl, rfl⟩ rfl rfl rfl rfl rfl rfl ?_ ?_ (bind1 rfl) ?_ ?_ ?_
  · decide
  · decide
  · rfl
  · decide
  clear ho hc
  intro env L s₂ he hcells W hA'
  replace W : Wd w.params s s.heap.get? env [("spelled", .cell), ("rows", .local), ("x", .local), ("y", .local), ("range", .globalImplicit)] s.heap.get? s₂ [none, none, none, none, none] [(L + 1, .cell (some (.ref sp)))] := W
  replace hcells : env.cells = [((("spelled" : Str)), L + 1)] := hcells
  clear he
  ((((with_reducible refine' asgs ?nc1 ?_); (case nc1 => rfl))); (with_reducible refine' PyProof.Rows.List_ ?_); (with_reducible refine' PyProof.Rows.args_nil ?_); (((with_reducible refine' new_list (by assumption) ?sz4 ?_); (case sz4 => exact Nat.le_of_ble_eq_true rfl); intro _ _ _)); (((with_reducible refine' st_local (by assumption) ?wr5 ?_); (case wr5 => ((with_reducible (repeat first | exact Wr.head | apply Wr.tail | (apply Wr.of; assumption))))); intro _ _)))
  rename Wd _ _ _ _ _ _ _ _ _ => W1
  rename_i D s3 Wa s4
  clear Wa
  refine wpAny_execs_cons (ex_for ?_ ?_)
  · refine call_t W1 (.tail (.tail (.tail (.tail .head)))) .range ?_ ?_
    · rfl
    ((((with_reducible refine' args_c ?pa6 ?_); (case pa6 => rfl))); (((with_reducible refine' c_int (by assumption) ?_); intro _ _ _)); (with_reducible refine' PyProof.Rows.args_nil ?_))
    refine r_range1 (by assumption) (fun r t u v s5 W5 hr => ?_)
    refine it_range W5 hr (by decide) (by decide) (by decide) (fun it s6 W6 => ?_)
    refine for_loopC (fun k B' vs' os' => ∃ rs xv yv, vs' = [none, some (.ref D), xv, yv, none] ∧ os' = [(D, .list rs), (L + 1, .cell (some (.ref sp)))] ∧ LsAre IntsAre B' rs (rowsTo k))
      (Steps.range (a := 0) (b := 2) hA'.handled (by decide)) (fun _ => rfl) W6 ⟨[], none, none, rfl, rfl, .nil⟩ ?_ ?_
    · intro k QQ v B' vs' os' s' hQQ _ _ hk hv hB hφ W'
      obtain ⟨tk, rfl⟩ := hv
      obtain ⟨rs, xv, yv, rfl, rfl, hrs⟩ := hφ
      replace hQQ := fun rs yv B'' s3 hB g W => (hQQ B'' [none, some (.ref D), some (.int (0 + (k : Int)) tk), yv, none] [(D, .list rs), (L + 1, .cell (some (.ref sp)))] s3 hB ⟨rs, _, yv, rfl, rfl, g⟩ W).1
      refine wpAny_assign_Name (st_local W' (.tail (.tail .head)) (fun s7 W7 => ?_))
      refine wpAny_execs_cons (ex_for ?_ ?_)
      · refine call_t W7 (.tail (.tail (.tail (.tail .head)))) .range ?_ ?_
        · rfl
        ((((with_reducible refine' args_c ?pa9 ?_); (case pa9 => rfl))); (((with_reducible refine' c_int (by assumption) ?_); intro _ _ _)); (with_reducible refine' PyProof.Rows.args_nil ?_))
        refine r_range1 (by assumption) (fun r2 t2 u2 v2 s8 W8 hr2 => ?_)
        refine it_range W8 hr2 (by decide) (by decide) (by decide) (fun it2 s9 W9 => ?_)
        have eX : (0 : Int) + (k : Int) = k := Int.zero_add _
        revert hQQ W9
        rw [eX]
        intro hQQ W9
        generalize rgIt (0 + ((k + 1 : Nat) : Int)) (2 - 0 - ((k + 1 : Nat) : Int)) = itx at hQQ W9
        refine for_loopC (fun j B'' vs'' os'' => ∃ rs' yv', vs'' = [none, some (.ref D), some (.int k tk), yv', none] ∧ os'' = [(it, itx), (D, .list rs'), (L + 1, .cell (some (.ref sp)))] ∧ LsAre IntsAre B'' rs' (rowsTo k ++ rowsX k j))
          (Steps.range (a := 0) (b := 2) hA'.handled (by decide)) (fun _ => rfl) W9 ⟨rs, yv, rfl, rfl, by simpa [rowsX] using hrs⟩ ?_ ?_
        · intro j Q2 v B'' vs'' os'' s'' hQ2 _ _ hj hv hB' hφ W10
          obtain ⟨tj, rfl⟩ := hv
          obtain ⟨rs', yv', rfl, rfl, hrs'⟩ := hφ
          have eY : (0 : Int) + (j : Int) = j := Int.zero_add _
          rw [eY]
          generalize rgIt (0 + ((j + 1 : Nat) : Int)) (2 - 0 - ((j + 1 : Nat) : Int)) = ity at hQ2 W10
          have hlen : rs'.length ≤ 100 := rows_len hk hj hrs'.len
          have eZ : rowsTo k ++ rowsX k (j + 1) = rowsTo k ++ rowsX k j ++ rowsXY k j := (List.append_assoc _ _ _).symm
          rw [eZ] at hQ2
          replace hQ2 := fun rs' B'' s3 hB g W => (hQ2 B'' [none, some (.ref D), some (.int k tk), some (.int j tj), none] [(it, itx), (D, .list rs'), (L + 1, .cell (some (.ref sp)))] s3 hB ⟨rs', _, rfl, rfl, g⟩ W).1
          refine wpAny_assign_Name (st_local W10 (.tail (.tail (.tail .head))) (fun s11 W11 => ?_))
          clear W10 W9 W8 W7 W' hQQ
          have X := fun pos => IE.local (prog := prog) (w := w) (A := A.deeper env) (P := w.params) (s₀ := s) (B₀ := s.heap.get?) (env := env) (pos := pos) (.tail (.tail .head) : Rd [("spelled", .cell), ("rows", .local), ("x", .local), ("y", .local), ("range", .globalImplicit)] [none, some (.ref D), some (.int k tk), some (.int j tj), none] "x" _)
          have Y := fun pos => IE.local (prog := prog) (w := w) (A := A.deeper env) (P := w.params) (s₀ := s) (B₀ := s.heap.get?) (env := env) (pos := pos) (.tail (.tail (.tail .head)) : Rd [("spelled", .cell), ("rows", .local), ("x", .local), ("y", .local), ("range", .globalImplicit)] [none, some (.ref D), some (.int k tk), some (.int j tj), none] "y" _)
          refine ifs_join (fun s' => ∃ B3 rs3, Sub B'' B3 ∧ LsAre IntsAre B3 rs3 (rowsTo k ++ rowsX k j ++ if (k : Int) ≠ j then [[(k : Int), j + 2], [(j : Int) + 2, k]] else []) ∧ rs3.length ≤ 102 ∧
            Wd w.params s s.heap.get? env [("spelled", .cell), ("rows", .local), ("x", .local), ("y", .local), ("range", .globalImplicit)] B3 s' [none, some (.ref D), some (.int k tk), some (.int j tj), none] [(it2, ity), (it, itx), (D, .list rs3), (L + 1, .cell (some (.ref sp)))]) ?_ ?_
          · ((((with_reducible refine' test1 ?nm12 ?_); (case nm12 => rfl))); (((with_reducible refine' ev_local (by assumption) ?rd13 ?_); (case rd13 => ((with_reducible (repeat first | exact Rd.head | apply Rd.tail | (apply Rd.of; assumption))))))); (((with_reducible refine' ev_local (by assumption) ?rd14 ?_); (case rd14 => ((with_reducible (repeat first | exact Rd.head | apply Rd.tail | (apply Rd.of; assumption))))))); (with_reducible refine' w_ne ?_); (with_reducible refine' tr_bool ?_))
            refine ⟨fun e => ?_, fun e => ⟨B'', _, .refl _, ?_, by (first | with_reducible assumption | exact Nat.le_of_ble_eq_true rfl | exact Nat.add_le_add_left (Nat.le_of_ble_eq_true rfl) _ | exact Nat.le_trans (by assumption) (Nat.le_of_ble_eq_true rfl) | exact Nat.lt_of_le_of_lt (by assumption) (Nat.le_of_ble_eq_true rfl) | exact Nat.le_trans (Nat.le_of_eq (by assumption)) (Nat.le_trans (by assumption) (Nat.le_of_ble_eq_true rfl)) | lia | omega), W11⟩⟩
            · have e : (k : Int) ≠ j := by simpa using e
              refine ext2 rfl (.cons (X _) (.cons (Y _).add .nil)) (.cons (Y _).add (.cons (X _) .nil)) (Nat.le_of_ble_eq_true rfl) (Nat.le_of_ble_eq_true rfl) W11 (.tail .head) (fun zs => .tail (.tail .head)) (by (first | with_reducible assumption | exact Nat.le_of_ble_eq_true rfl | exact Nat.add_le_add_left (Nat.le_of_ble_eq_true rfl) _ | exact Nat.le_trans (by assumption) (Nat.le_of_ble_eq_true rfl) | exact Nat.lt_of_le_of_lt (by assumption) (Nat.le_of_ble_eq_true rfl) | exact Nat.le_trans (Nat.le_of_eq (by assumption)) (Nat.le_trans (by assumption) (Nat.le_of_ble_eq_true rfl)) | lia | omega)) fun B3 zs s3 k3 g3 W3 => ?_
              refine wpAny_execs_nil ⟨rfl, B3, _, k3, ?_, ?_, W3⟩
              · rw [if_pos e]; exact (hrs'.mono k3).app g3
              · rw [List.length_append, g3.len]; simp only [List.length_cons, List.length_nil]; (first | with_reducible assumption | exact Nat.le_of_ble_eq_true rfl | exact Nat.add_le_add_left (Nat.le_of_ble_eq_true rfl) _ | exact Nat.le_trans (by assumption) (Nat.le_of_ble_eq_true rfl) | exact Nat.lt_of_le_of_lt (by assumption) (Nat.le_of_ble_eq_true rfl) | exact Nat.le_trans (Nat.le_of_eq (by assumption)) (Nat.le_trans (by assumption) (Nat.le_of_ble_eq_true rfl)) | lia | omega)
            · have e : ¬ (k : Int) ≠ j := by simpa using e
              rw [if_neg e, List.append_nil]; exact hrs'
          · rintro s3 ⟨B3, rs3, k3, g3, l3, W3⟩
            refine ext2 rfl (.cons (X _) (.cons (Y _) (.cons (Y _).add .nil))) (.cons (X _) (.cons (Y _).add (.cons (Y _) .nil))) (Nat.le_of_ble_eq_true rfl) (Nat.le_of_ble_eq_true rfl) W3 (.tail .head) (fun zs => .tail (.tail .head)) (by (first | with_reducible assumption | exact Nat.le_of_ble_eq_true rfl | exact Nat.add_le_add_left (Nat.le_of_ble_eq_true rfl) _ | exact Nat.le_trans (by assumption) (Nat.le_of_ble_eq_true rfl) | exact Nat.lt_of_le_of_lt (by assumption) (Nat.le_of_ble_eq_true rfl) | exact Nat.le_trans (Nat.le_of_eq (by assumption)) (Nat.le_trans (by assumption) (Nat.le_of_ble_eq_true rfl)) | lia | omega)) fun B4 zs4 s4 k4 g4 W4 => ?_
            refine ext2 rfl (.cons (X _) (.cons (X _).add (.cons (Y _).add .nil))) (.cons (X _).add (.cons (X _) (.cons (Y _).add .nil))) (Nat.le_of_ble_eq_true rfl) (Nat.le_of_ble_eq_true rfl) W4 (.tail .head) (fun zs => .tail (.tail .head)) (by rw [List.length_append, g4.len]; simp only [List.length_cons, List.length_nil]; (first | with_reducible assumption | exact Nat.le_of_ble_eq_true rfl | exact Nat.add_le_add_left (Nat.le_of_ble_eq_true rfl) _ | exact Nat.le_trans (by assumption) (Nat.le_of_ble_eq_true rfl) | exact Nat.lt_of_le_of_lt (by assumption) (Nat.le_of_ble_eq_true rfl) | exact Nat.le_trans (Nat.le_of_eq (by assumption)) (Nat.le_trans (by assumption) (Nat.le_of_ble_eq_true rfl)) | lia | omega)) fun B5 zs5 s5 k5 g5 W5 => ?_
            refine wpAny_execs_nil (hQ2 _ B5 _ (((hB'.trans k3).trans k4).trans k5) ?_ W5)
            have g := (((g3.mono k4).app g4).mono k5).app g5
            exact (show _ = _ ++ rowsXY _ _ from ((List.append_assoc _ _ _).trans (List.append_assoc _ _ _)).trans rfl) ▸ g
        · rintro B'' vs'' os'' s'' hB' ⟨rs', yv', rfl, rfl, hrs'⟩ W10
          exact wpAny_execs_nil (hQQ rs' yv' B'' _ (hB.trans hB') hrs' W10)
      · intro _; rfl
    · rintro B' vs' os' s' hB ⟨rs, xv, yv, rfl, rfl, hrs⟩ W'
      show wpAny _ _ _ _ _ _
      replace hrs : LsAre IntsAre B' rs (rowsTo 2) := hrs
      have hlen : rs.length = 20 := by rw [hrs.len]; decide
      have kx : env.kindOf "spelled" = some .cell := W'.kd .head
      ((with_reducible refine' rets ?_))
      refine ev_comp (cl := [("spelled", L + 1)]) ?_ rfl ?_ (ev_local W' (.tail .head) ?_) ?_
      · simp only [closureFor, cellOf, hcells]; rfl
      · decide
      · refine comp_plain (fun k _ ys => StrsAre ys (((rowsTo 2).take k).map (textOf ss))) (vsx := fun v => [none, some v, none, none]) (cns := [(".0", .local), ("row", .local), ("_law_text", .globalImplicit), ("spelled", .cell)]) hA'.handled W' (W'.at (.head _))
          ?_ rfl ?_ ?_ ?_ ?_ (fun v => .tail .head) .nil ?_ ?_
        · (first | with_reducible assumption | exact Nat.le_of_ble_eq_true rfl | exact Nat.add_le_add_left (Nat.le_of_ble_eq_true rfl) _ | exact Nat.le_trans (by assumption) (Nat.le_of_ble_eq_true rfl) | exact Nat.lt_of_le_of_lt (by assumption) (Nat.le_of_ble_eq_true rfl) | exact Nat.le_trans (Nat.le_of_eq (by assumption)) (Nat.le_trans (by assumption) (Nat.le_of_ble_eq_true rfl)) | lia | omega)
        · decide
        · simp only [relabel, List.map, W'.kind, kx]; rfl
        · decide
        · decide
        · rintro k v cenv I D' B'' s'' ys hv hφ hys hB'' ⟨C, rfl⟩ W2
          obtain ⟨a, dv, d, rfl, ha, hd, hdk⟩ := hrs.get hv
          have hd' := rows_ok d (List.mem_of_getElem? hdk)
          dsimp only at W2
          have up : Sub s'.heap.get? s''.heap.get? := hB''.trans W2.keep
          refine wpAny_tests_nil (.inr ⟨rfl, ?_⟩)
          refine call_g W2 (.tail (.tail .head)) .text rfl rfl rfl ?_
          ((((with_reducible refine' args_c ?pa18 ?_); (case pa18 => rfl))); (((with_reducible refine' ev_local (by assumption) ?rd19 ?_); (case rd19 => ((with_reducible (repeat first | exact Rd.head | apply Rd.tail | (apply Rd.of; assumption))))))); (((with_reducible refine' args_c ?pa20 ?_); (case pa20 => rfl))))
          refine ev_cell W2 (.tail (.tail (.tail .head))) rfl ((W'.at (.tail _ (.head _))).mono up) ?_
          ((with_reducible refine' PyProof.Rows.args_nil ?_))
          refine ⟨W2.st, text_spec (n := n) W2.st (hA'.less (by (first | with_reducible assumption | exact Nat.le_of_ble_eq_true rfl | exact Nat.add_le_add_left (Nat.le_of_ble_eq_true rfl) _ | exact Nat.le_trans (by assumption) (Nat.le_of_ble_eq_true rfl) | exact Nat.lt_of_le_of_lt (by assumption) (Nat.le_of_ble_eq_true rfl) | exact Nat.le_trans (Nat.le_of_eq (by assumption)) (Nat.le_trans (by assumption) (Nat.le_of_ble_eq_true rfl)) | lia | omega))) (((ha.mono W'.keep).mono up)) hd ((hs.mono (W'.sub.trans W'.keep)).mono up) hss (fun k hk => ?_) hd'.1 hsz (by (first | with_reducible assumption | exact Nat.le_of_ble_eq_true rfl | exact Nat.add_le_add_left (Nat.le_of_ble_eq_true rfl) _ | exact Nat.le_trans (by assumption) (Nat.le_of_ble_eq_true rfl) | exact Nat.lt_of_le_of_lt (by assumption) (Nat.le_of_ble_eq_true rfl) | exact Nat.le_trans (Nat.le_of_eq (by assumption)) (Nat.le_trans (by assumption) (Nat.le_of_ble_eq_true rfl)) | lia | omega)) (fun t' s3 hk3 => ?_)⟩
          · have := hd'.2 k hk; (first | with_reducible assumption | exact Nat.le_of_ble_eq_true rfl | exact Nat.add_le_add_left (Nat.le_of_ble_eq_true rfl) _ | exact Nat.le_trans (by assumption) (Nat.le_of_ble_eq_true rfl) | exact Nat.lt_of_le_of_lt (by assumption) (Nat.le_of_ble_eq_true rfl) | exact Nat.le_trans (Nat.le_of_eq (by assumption)) (Nat.le_trans (by assumption) (Nat.le_of_ble_eq_true rfl)) | lia | omega)
          · refine ⟨B'', _, hB'', ?_, W2.keeps hk3⟩
            show StrsAre _ _
            rw [List.take_add_one, hdk, List.map_append]
            exact strs_snoc hφ _ _
        · intro D2 s2 B2 B3 zs hφ2 hB3 hn3 W3
          rw [hlen, List.take_of_length_le (by decide)] at hφ2
          have o := W3.own (.head _)
          exact h _ _ _ W3.done o.1 hφ2 o.2
      · intro _; rfl
  · intro _; rfl
end
-- Rst
section
open PySem PySem.W PyProof.Rows
section
variable {prog : Program} {w : World} {A : Around} {E : Value → Shared → Prop} {s : Shared} {env : Env}
theorem args_star {e : Expr} {p pos : Pos} {Q : List Value → Shared → Prop}
    (h : wpAny (model prog w) A (eval e env) (fun v s₁ => ∃ l items, v = .ref l ∧ (AO.list items).Is s₁.heap.get? l ∧ items.length ≤ sizeLine ∧ ∀ s₂, Keeps s₁ s₂ → Q items s₂) E s) :
    wpAny (model prog w) A (spliced (backTo pos (starEach [.Starred e p] env))) Q E s := by
  show wpAny _ _ (spliced [(true, do let v ← eval e env; standAt pos; pure v)]) Q E s
  unfold spliced
  refine wpAny_bind (wpAny_bind (wpAny_mono h (fun v s₁ h₁ => ?_) fun _ _ x => x))
  obtain ⟨l, items, rfl, hl, hsz, hq⟩ := h₁
  refine wpAny_bind (wpAny_standAt (wpAny_pure ?_))
  simp only [if_true]
  refine wpAny_bind ?_
  unfold notIterableAtAll
  refine wpAny_bind (wpAny_specialOf hl.isL.typeIs slot_list_iter.lookup ?_)
  refine wpAny_pure ?_
  simp only [Bool.false_eq_true, if_false]
  refine wpAny_bind (PyProof.Rows.collect_list hl.isL ?_ hsz)
  refine wpAny_bind (wpAny_holding (Calls.spliced_nil ?_))
  refine wpAny_pure ?_
  rw [List.append_nil]
  refine hq _ ⟨_, _, rfl, fun b o e => ?_⟩
  rw [Heap.get?_update_other _ _ (Nat.ne_of_gt (Heap.lt_size e))]
  exact Heap.get?_push_of_some _ e
end


theorem call_rep {prog : Program} {w : World} {A : Around} {E : Value → Shared → Prop} {s : Shared} {env : Env} {s₀ : Shared} {B₀ : G} {ns : List (Str × NameKind)} {B : G} {vs : List (Option Value)} {os : List (Addr × AO)} {n : Str} {x : Str} {t : Tok} {p q q' r pos : Pos} {pl : Addr} {l : List (Str × Tok)} {Q : Value → Shared → Prop}
    (W : Wd w.params s₀ B₀ env ns B s vs os) (hA : AOk A 1) (hk : Kd ns "replace" .globalImplicit) (hx : Rd ns vs n (.str x t)) (hp : Rd ns vs "pairs" (.ref pl)) (hl : (AO.list (strValues l)).Is B pl) (hlen : l.length ≤ 100) (hok : ROk x (l.map (·.1)))
    (h : ∀ t' s', Wd w.params s₀ B₀ env ns B s' vs os → Q (.str (repl x (l.map (·.1))) t') s') :
    wpAny (model prog w) A (eval (.Call (.Name "replace" r) [.Name n p, .Starred (.Name "pairs" q) q'] [] pos) env) Q E s := by
  refine call_g W hk .replace rfl rfl rfl ?_
  refine args_c ?_ ?_
  · rfl
  refine ev_local W hx ?_
  refine args_star (ev_local W hp ⟨pl, strValues l, rfl, W.ofB hl, ?_, fun s₂ hk2 => ?_⟩)
  · simp [strValues, sizeLine_eq]; (first | with_reducible assumption | exact Nat.le_of_ble_eq_true rfl | exact Nat.add_le_add_left (Nat.le_of_ble_eq_true rfl) _ | exact Nat.le_trans (by assumption) (Nat.le_of_ble_eq_true rfl) | exact Nat.lt_of_le_of_lt (by assumption) (Nat.le_of_ble_eq_true rfl) | exact Nat.le_trans (Nat.le_of_eq (by assumption)) (Nat.le_trans (by assumption) (Nat.le_of_ble_eq_true rfl)) | lia | omega)
  · have W2 := W.keeps hk2
    exact ⟨W2.st, replace_spec W2.st hA hlen hok (fun t' s' hk3 => h t' s' (W2.keeps hk3))⟩

theorem rest_spec {prog : Program} {w : World} {A : Around} {E : Value → Shared → Prop} {s : Shared} {x : Str} {t : Tok} {pl : Addr} {pv : List Value} {ps : List Str} {Q : Value → Shared → Prop} {n : Nat} (I : Str → Prop) (μ : Str → Nat)
    (S : Stat w.params s.heap.get?) (hA : AOk A (n + 2)) (hl : (AO.list pv).Is s.heap.get? pl) (hps : StrsAre pv ps) (hlen : ps.length ≤ 100)
    (h0 : I x) (step : ∀ y, I y → ROk y ps ∧ I (repl y ps) ∧ (repl y ps ≠ y → μ (repl y ps) < μ y))
    (h : ∀ y t' s', I y → repl y ps = y → Keeps s s' → Q (.str y t') s') :
    wpAny (model prog w) A (call (.ref 97) [.str x t, .ref pl]) Q E s := by
  have ho := S.K 97 _ rfl
  have hc := S.K 96 _ rfl
  refine call_fn (n := n + 1) S hA ho rfl rfl ⟨_, _, _, _, rfl, hc, rfl, rfl⟩ rfl rfl rfl rfl rfl (by decide) (by decide) (by decide) ?_
  clear ho hc
  refine wpAny_of_eq (bind2 rfl (by decide)) ⟨keeps_refl _, rfl, fun env L s₂ he W hA' => ?_⟩
  replace W : Wd w.params s s.heap.get? env [("text", .local), ("pairs", .local), ("left", .local), ("replace", .globalImplicit)] _ s₂ [some (.str x t), some (.ref pl), none, none] [] := W
  clear he
  obtain ⟨l, rfl, rfl⟩ := strs_values hps
  have hl' : l.length ≤ 100 := by simpa using hlen
  refine asgs ?_ ?_
  · rfl
  refine call_rep W (hA'.less (by (first | with_reducible assumption | exact Nat.le_of_ble_eq_true rfl | exact Nat.add_le_add_left (Nat.le_of_ble_eq_true rfl) _ | exact Nat.le_trans (by assumption) (Nat.le_of_ble_eq_true rfl) | exact Nat.lt_of_le_of_lt (by assumption) (Nat.le_of_ble_eq_true rfl) | exact Nat.le_trans (Nat.le_of_eq (by assumption)) (Nat.le_trans (by assumption) (Nat.le_of_ble_eq_true rfl)) | lia | omega))) (.tail (.tail (.tail .head))) .head (.tail .head) hl hl' (step x h0).1 (fun t1 s3 W3 => ?_)
  ((((with_reducible refine' st_local (by assumption) ?wr1 ?_); (case wr1 => ((with_reducible (repeat first | exact Wr.head | apply Wr.tail | (apply Wr.of; assumption))))); intro _ _)))
  rename Wd _ _ _ _ _ _ _ _ _ => W4
  refine wpAny_execs_cons (ex_while (fun k s' => ∃ y yt zt, I y ∧ k = μ y ∧ Wd w.params s s.heap.get? env [("text", .local), ("pairs", .local), ("left", .local), ("replace", .globalImplicit)] s.heap.get? s' [some (.str y yt), some (.ref pl), some (.str (repl y (l.map (·.1))) zt), none] [])
    ?_ (μ x) ⟨x, t, t1, h0, rfl, W4⟩)
  rintro k s' ⟨y, yt, zt, hy, rfl, W'⟩
  clear W W3 W4
  ((((with_reducible refine' test1 ?nm2 ?_); (case nm2 => rfl))); (((with_reducible refine' ev_local (by assumption) ?rd3 ?_); (case rd3 => ((with_reducible (repeat first | exact Rd.head | apply Rd.tail | (apply Rd.of; assumption))))))); (((with_reducible refine' ev_local (by assumption) ?rd4 ?_); (case rd4 => ((with_reducible (repeat first | exact Rd.head | apply Rd.tail | (apply Rd.of; assumption))))))); (with_reducible refine' o_neS ?_); (with_reducible refine' tr_bool ?_))
  have hs := step y hy
  split
  · rename_i hne
    have hne : repl y (l.map (·.1)) ≠ y := by simpa using hne
    ((((with_reducible refine' asgs ?nc7 ?_); (case nc7 => rfl))); (((with_reducible refine' ev_local (by assumption) ?rd8 ?_); (case rd8 => ((with_reducible (repeat first | exact Rd.head | apply Rd.tail | (apply Rd.of; assumption))))))); (((with_reducible refine' st_local (by assumption) ?wr9 ?_); (case wr9 => ((with_reducible (repeat first | exact Wr.head | apply Wr.tail | (apply Wr.of; assumption))))); intro _ _)); (((with_reducible refine' asgs ?nc10 ?_); (case nc10 => rfl))))
    refine call_rep (by assumption) (hA'.less (by (first | with_reducible assumption | exact Nat.le_of_ble_eq_true rfl | exact Nat.add_le_add_left (Nat.le_of_ble_eq_true rfl) _ | exact Nat.le_trans (by assumption) (Nat.le_of_ble_eq_true rfl) | exact Nat.lt_of_le_of_lt (by assumption) (Nat.le_of_ble_eq_true rfl) | exact Nat.le_trans (Nat.le_of_eq (by assumption)) (Nat.le_trans (by assumption) (Nat.le_of_ble_eq_true rfl)) | lia | omega))) (.tail (.tail (.tail .head))) .head (.tail .head) hl hl' (step _ hs.2.1).1 (fun t1 s3 W3 => ?_)
    ((((with_reducible refine' st_local (by assumption) ?wr11 ?_); (case wr11 => ((with_reducible (repeat first | exact Wr.head | apply Wr.tail | (apply Wr.of; assumption))))); intro _ _)))
    refine wpAny_execs_nil ⟨_, hs.2.2 hne, _, _, _, hs.2.1, rfl, by assumption⟩
  · rename_i hne
    have hne : repl y (l.map (·.1)) = y := by simpa using hne
    show wpAny _ _ _ _ _ _
    ((with_reducible refine' rets ?_); (((with_reducible refine' ev_local (by assumption) ?rd13 ?_); (case rd13 => ((with_reducible (repeat first | exact Rd.head | apply Rd.tail | (apply Rd.of; assumption))))))))
    rw [hne]
    exact h _ _ _ hy hne W'.done
end
-- Cm2
section
open PySem PySem.W PyProof.Rows
section
variable {prog : Program} {w : World} {A : Around} {E : Value → Shared → Prop} {P : Params} {s₀ : Shared} {B₀ : G} {env : Env} {ns : List (Str × NameKind)} {B : G} {vs : List (Option Value)} {os : List (Addr × AO)}

noncomputable abbrev comp2 (elt : Expr) (x y : Str) (px py : Pos) (i1 i2 : Expr) (scope : Scope) (pos : Pos) : Expr := .ListComp elt [⟨.Name x px, i1, [], 0⟩, ⟨.Name y py, i2, [], 0⟩] scope pos

theorem turn_in (elt i1 i2 : Expr) (x y : Str) (px py : Pos) (scope : Scope) (pos : Pos) (it acc : Value) (env : Env) :
    compTurn (comp2 elt x y px py i1 i2 scope pos) 1 it acc env = (standAt i2.pos >>= fun _ => pyNext it >>= fun r => match r with
      | none => pure (.done .next)
      | some v => letOwnedTupleGo (.Name y py) it v >>= fun _ => assign (.Name y py) env v >>= fun _ =>
        (eval elt env >>= fun x => call (.builtin "list.append") [acc, x] >>= fun _ => pure ()) >>= fun _ =>
          again (.compLoop (comp2 elt x y px py i1 i2 scope pos) 1 it acc env)) := by rfl
theorem turn_out (elt i1 i2 : Expr) (x y : Str) (px py : Pos) (scope : Scope) (pos : Pos) (it acc : Value) (env : Env) :
    compTurn (comp2 elt x y px py i1 i2 scope pos) 0 it acc env = (standAt i1.pos >>= fun _ => pyNext it >>= fun r => match r with
      | none => pure (.done .next)
      | some v => letOwnedTupleGo (.Name x px) it v >>= fun _ => assign (.Name x px) env v >>= fun _ =>
        eval i2 env >>= fun x' => standAt i2.pos >>= fun _ => foldedSetIterable i2 env x' >>= fun x'' => holding [x''] (pyIter x'') >>= fun it' =>
          runOwn (.compStart (comp2 elt x y px py i1 i2 scope pos) 1 it' acc env) env >>= fun _ =>
          again (.compLoop (comp2 elt x y px py i1 i2 scope pos) 0 it acc env)) := by rfl

theorem start_in {R : Result → Shared → Prop} {s : Shared} {elt i1 i2 : Expr} {x y : Str} {px py : Pos} {scope : Scope} {pos : Pos} {it acc : Value} {env : Env}
    (h0 : codeAny (model prog w) A (.compLoop (comp2 elt x y px py i1 i2 scope pos) 1 it acc env) R s)
    (h : wpAny (model prog w) A (pyIter it) (fun it' s' => codeAny (model prog w) A (.compLoop (comp2 elt x y px py i1 i2 scope pos) 1 it' acc env) R s') (notedBy (model prog w) A env fun x s' => R (.error x) s') s) :
    codeAny (model prog w) A (.compStart (comp2 elt x y px py i1 i2 scope pos) 1 it acc env) R s := by
  refine codeAny_of_tree ?_
  show wpAny _ _ ((compStart (comp2 elt x y px py i1 i2 scope pos) 1 it acc env).onRaise (fun x => do noteFrame x env; standAt theWindowsPlace)) _ _ s
  refine wpAny_notedAt ?_
  unfold compStart
  show wpAny _ _ (ask >>= _) _ _ s
  refine wpAny_bind (wpAny_askSetting (wpAny_ite ?_))
  split
  · first
      | exact wpAny_bind (wpAny_pure (wpAny_pure (And.intro rfl h0)))
      | exact wpAny_pure (And.intro rfl h0)
  · first
      | exact wpAny_bind (wpAny_rule (wpAny_bind (wpAny_standAt (wpAny_bind (wpAny_mono h (fun it' s' h' => wpAny_pure (And.intro rfl h')) fun _ _ x => x)))))
      | (refine wpAny_bind (wpAny_rule ?_); show wpAny _ _ (standAt i2.pos >>= _) _ _ s; exact wpAny_bind (wpAny_standAt (wpAny_bind (wpAny_mono h (fun it' s' h' => wpAny_pure (And.intro rfl h')) fun _ _ x => x))))

/-- the inner loop -/
theorem loop_in {elt i1 i2 : Expr} {x y : Str} {px py : Pos} {scope : Scope} {pos : Pos} {cenv : Env} {cns : List (Str × NameKind)} {s₁ : Shared} {a2 I1 I2 D : Addr} {ao : AO} {items2 : List Value} {u0 : List (Option Value)} {vsy : Value → List (Option Value)}
    {R : Result → Shared → Prop} {s : Shared} {B1 : G} {ys : List Value} (ψ : Nat → G → List Value → Prop)
    (hA : A.handled = none) (hl : (AO.list items2).Is s₁.heap.get? a2) (hsz : ∀ j B' ys, ψ j B' ys → ys.length ≤ 100000) (hwy : ∀ v, Wr cns u0 y v (vsy v)) (hless : ∀ v, Less u0 (vsy v))
    (W : Wd P s₁ s₁.heap.get? cenv cns B1 s u0 [(I2, .liter a2 0), (D, .list ys), (I1, ao)]) (h0 : ψ 0 B1 ys)
    (step : ∀ j v B' s' ys, items2[j]? = some v → ψ j B' ys → Sub s₁.heap.get? B' → Wd P s₁ s₁.heap.get? cenv cns B' s' (vsy v) [(I2, .liter a2 (j + 1)), (D, .list ys), (I1, ao)] →
      wpAny (model prog w) A (eval elt cenv) (fun z s3 => ∃ B3, ψ (j + 1) B3 (ys ++ [z]) ∧ Wd P s₁ s₁.heap.get? cenv cns B3 s3 (vsy v) [(I2, .liter a2 (j + 1)), (D, .list ys), (I1, ao)]) (fun _ _ => False) s')
    (fin : ∀ B' s' ys, ψ items2.length B' ys → Wd P s₁ s₁.heap.get? cenv cns B' s' u0 [(D, .list ys), (I1, ao)] → R (.ok .next) s') :
    codeAny (model prog w) A (.compLoop (comp2 elt x y px py i1 i2 scope pos) 1 (.ref I2) (.ref D) cenv) R s := by
  refine codeAny_loop rfl (fun m s' => ∃ j B' ys, j ≤ items2.length ∧ m = items2.length - j ∧ ψ j B' ys ∧ Wd P s₁ s₁.heap.get? cenv cns B' s' u0 [(I2, .liter a2 j), (D, .list ys), (I1, ao)]) ?_ items2.length ⟨0, B1, ys, Nat.zero_le _, rfl, h0, W⟩
  rintro m s' ⟨j, B', ys', hj, rfl, hψ, W'⟩
  show wpAny _ _ ((compTurn (comp2 elt x y px py i1 i2 scope pos) 1 (.ref I2) (.ref D) cenv).onRaise (fun x => do noteFrame x cenv; theTreesLotGoes x)) _ _ s'
  refine wpAny_noted ?_
  rw [turn_in]
  refine wpAny_bind (wpAny_standAt (wpAny_bind ?_))
  rcases Nat.lt_or_eq_of_le hj with hlt | rfl
  · refine (Steps.list (prog := prog) (w := w) hA (hl.mono W'.sub)).next hlt W'.keep (W'.at (.head _)) fun v h' t hv hi hs => ?_
    have W2 := W'.upd (t := t) .head hi hs
    refine wpAny_bind (wpAny_of_eq rfl ?_)
    refine wpAny_bind (wpAny_assign_Name (st_local W2 (hwy v) fun s3 W3 => ?_))
    refine wpAny_bind (wpAny_bind (wpAny_mono (step j v B' s3 ys' hv hψ W'.sub W3) (fun z s4 h4 => ?_) fun _ _ e => e.elim))
    obtain ⟨B3, hψ3, W4⟩ := h4
    refine wpAny_bind (l_append W4 (.tail .head) (by have := hsz _ _ _ hψ; rw [sizeLine_eq]; (first | with_reducible assumption | exact Nat.le_of_ble_eq_true rfl | exact Nat.add_le_add_left (Nat.le_of_ble_eq_true rfl) _ | exact Nat.le_trans (by assumption) (Nat.le_of_ble_eq_true rfl) | exact Nat.lt_of_le_of_lt (by assumption) (Nat.le_of_ble_eq_true rfl) | exact Nat.le_trans (Nat.le_of_eq (by assumption)) (Nat.le_trans (by assumption) (Nat.le_of_ble_eq_true rfl)) | lia | omega)) (fun s5 W5 => ?_))
    refine wpAny_pure (wpAny_pure ⟨rfl, items2.length - (j + 1), by (first | with_reducible assumption | exact Nat.le_of_ble_eq_true rfl | exact Nat.add_le_add_left (Nat.le_of_ble_eq_true rfl) _ | exact Nat.le_trans (by assumption) (Nat.le_of_ble_eq_true rfl) | exact Nat.lt_of_le_of_lt (by assumption) (Nat.le_of_ble_eq_true rfl) | exact Nat.le_trans (Nat.le_of_eq (by assumption)) (Nat.le_trans (by assumption) (Nat.le_of_ble_eq_true rfl)) | lia | omega), j + 1, B3, ys' ++ [z], hlt, rfl, hψ3, W5.forget (hless v)⟩)
  · refine (Steps.list (prog := prog) (w := w) hA (hl.mono W'.sub)).stop W'.keep (W'.at (.head _)) fun h' hs => ?_
    exact wpAny_pure (fin B' _ ys' hψ (W'.lose (t := s'.toks) rfl hs))

theorem ex_comp2 {elt i1 i2 : Expr} {x y z : Str} {px py pz : Pos} {scope : Scope} {cl : List (Str × Addr)} {pos spos : Pos} {s : Shared} {Q : Flow → Shared → Prop}
    (hsw : swapsWith (comp2 elt x y px py i1 i2 scope pos) (some (.Name z pz)) spos.line env = pure true)
    (hclos : closureFor scope env = pure cl) (hkind : scope.kind = .function) (hnames : ∀ y ∈ scope.names, y.2 = .local → scope.names.lookup y.1 = some .local)
    (h : wpAny (model prog w) A (eval i1 env) (fun xv s₁ => wpAny (model prog w) A (pyIter xv) (fun it s₂ => wpAny (model prog w) A (newList []) (fun acc s₃ =>
      wpAny (model prog w) A (newFunctionEnv scope env.globals cl [] env.qual none .none (some env)) (fun cenv s₄ =>
        codeAny (model prog w) A (.compStart (comp2 elt x y px py i1 i2 scope pos) 0 it acc { cenv with scope := relabel scope env })
          (compPost (model prog w) A E (some (assign (.Name z pz) env)) (fun _ s' => Q .next s') acc cenv.locals) s₄) E s₃) E s₂) E s₁) E s)
    (hs : ∀ x, foldedSetIterable i1 env x = pure x) :
    wpAny (model prog w) A (exec (.Assign [.Name z pz] (comp2 elt x y px py i1 i2 scope pos) spos) env) Q E s := by
  rw [exec_Assign_Name_used _ _ _ _ hsw]
  refine wpAny_bind (wpAny_standAt (wpAny_bind ?_))
  show wpAny _ A (do let _ ← comprehension (comp2 elt x y px py i1 i2 scope pos) scope env _ (newList []) false (eval i1 env) (some (assign (.Name z pz) env))) _ _ s
  exact wpAny_bind (wpAny_mono (wpAny_comprehension_free (use := some (assign (.Name z pz) env)) (Q := fun _ s' => Q .next s') rfl hs hclos hkind hnames h)
    (fun _ s' hq => wpAny_pure (wpAny_pure hq)) fun _ _ e => e)

theorem comp2_core {elt i1 i2 : Expr} {x y : Str} {px py : Pos} {scope : Scope} {cl : List (Str × Addr)} {pos : Pos} {cns : List (Str × NameKind)} {vsx : Value → List (Option Value)} {vsy : Value → Value → List (Option Value)} {s₁ : Shared} {a1 a2 : Addr} {items1 items2 : List Value}
    {R : Value → Addr → Result → Shared → Prop} (ψ : Nat → Nat → G → List Value → Prop)
    (hA : A.handled = none) (W : Wd P s₀ B₀ env ns B s₁ vs os) (hl1 : (AO.list items1).Is s₁.heap.get? a1) (hl2 : (AO.list items2).Is s₁.heap.get? a2) (hsz : ∀ k j B' ys, ψ k j B' ys → ys.length ≤ 100000)
    (hkind : scope.kind = .function) (hcell : ∀ y ∈ scope.names, y.2 ≠ .cell) (hcns : (relabel scope env).names = cns) (hnd : (cns.map Prod.fst).Nodup) (hdb : ∀ p ∈ cns, (p.1 == ("__debug__" : Str)) = false)
    (hwx : ∀ v, Wr cns (cns.map fun _ => none) x v (vsx v)) (hwy : ∀ v u, Wr cns (vsx v) y u (vsy v u)) (hless : ∀ v u, Less (vsx v) (vsy v u)) (h0 : ψ 0 0 s₁.heap.get? [])
    (hnext : ∀ k B' ys, ψ k items2.length B' ys → ψ (k + 1) 0 B' ys)
    (hi2 : ∀ C B' s' vs' os' (Q : Value → Shared → Prop) (E' : Value → Shared → Prop), Wd P s₁ s₁.heap.get? (compEnvC scope cl C env) cns B' s' vs' os' → Q (.ref a2) s' → wpAny (model prog w) A (eval i2 (compEnvC scope cl C env)) Q E' s')
    (hs2 : ∀ C x, foldedSetIterable i2 (compEnvC scope cl C env) x = pure x)
    (step : ∀ k v j u C I1 I2 D B' s' ys, items1[k]? = some v → items2[j]? = some u → ψ k j B' ys → Sub s₁.heap.get? B' → Wd P s₁ s₁.heap.get? (compEnvC scope cl C env) cns B' s' (vsy v u) [(I2, .liter a2 (j + 1)), (D, .list ys), (I1, .liter a1 (k + 1))] →
      wpAny (model prog w) A (eval elt (compEnvC scope cl C env)) (fun z s3 => ∃ B3, ψ k (j + 1) B3 (ys ++ [z]) ∧ Wd P s₁ s₁.heap.get? (compEnvC scope cl C env) cns B3 s3 (vsy v u) [(I2, .liter a2 (j + 1)), (D, .list ys), (I1, .liter a1 (k + 1))]) (fun _ _ => False) s')
    (fin : ∀ D C s' B' ys vs', ψ items1.length 0 B' ys → Sub s₁.heap.get? B' → s₁.heap.get? D = none → s₁.heap.get? C = none → Wd P s₁ s₁.heap.get? (compEnvC scope cl C env) cns B' s' vs' [(D, .list ys)] →
      R (.ref D) C (.ok .next) s') :
    wpAny (model prog w) A (pyIter (.ref a1)) (fun it s₂ => wpAny (model prog w) A (newList []) (fun acc s₃ => wpAny (model prog w) A (newFunctionEnv scope env.globals cl [] env.qual none .none (some env)) (fun cenv s₄ =>
      codeAny (model prog w) A (.compStart (comp2 elt x y px py i1 i2 scope pos) 0 it acc { cenv with scope := relabel scope env }) (R acc cenv.locals) s₄) E s₃) E s₂) E s₁ := by
  refine wpAny_pyIter_list hl1.isL (wpAny_newList ?_ (by decide))
  refine wpAny_newFunctionEnv hcell (by intro y hy; simp at hy) (fun h₁ hns hsb => ?_) hkind
  dsimp only at hns hsb ⊢
  generalize hH1 : s₁.heap.push { cls := .type "list_iterator", data := .fields #[.ref a1, .int 0 0] } = H1 at hns hsb ⊢
  generalize hH2 : H1.push { cls := .type "list", data := .seq ([] : List Value).toArray } = H2 at hns hsb ⊢
  have z1 : H1.objs.size = s₁.heap.objs.size + 1 := by rw [← hH1, Heap.size_push]
  have z2 : H2.objs.size = s₁.heap.objs.size + 2 := by rw [← hH2, Heap.size_push, z1]
  have old : Sub s₁.heap.get? H2.get? := fun b o e => hH2 ▸ Heap.get?_push_of_some _ (hH1 ▸ Heap.get?_push_of_some _ e)
  have keep : Sub s₁.heap.get? h₁.get? := fun b o e => hsb.extBut b o (Nat.ne_of_lt (Nat.lt_of_lt_of_le (Heap.lt_size e) (by (first | with_reducible assumption | exact Nat.le_of_ble_eq_true rfl | exact Nat.add_le_add_left (Nat.le_of_ble_eq_true rfl) _ | exact Nat.le_trans (by assumption) (Nat.le_of_ble_eq_true rfl) | exact Nat.lt_of_le_of_lt (by assumption) (Nat.le_of_ble_eq_true rfl) | exact Nat.le_trans (Nat.le_of_eq (by assumption)) (Nat.le_trans (by assumption) (Nat.le_of_ble_eq_true rfl)) | lia | omega)))) (Heap.get?_push_of_some _ (old b o e))
  have none_of : ∀ b, s₁.heap.objs.size ≤ b → s₁.heap.get? b = none := fun b hb => by
    cases e : s₁.heap.get? b with
    | none => rfl
    | some o => exact absurd (Heap.lt_size e) (Nat.not_lt.mpr hb)
  have hit : (AO.liter a1 0).Is h₁.get? s₁.heap.objs.size :=
    ⟨_, hsb.extBut _ _ (neN (by (first | with_reducible assumption | exact Nat.le_of_ble_eq_true rfl | exact Nat.add_le_add_left (Nat.le_of_ble_eq_true rfl) _ | exact Nat.le_trans (by assumption) (Nat.le_of_ble_eq_true rfl) | exact Nat.lt_of_le_of_lt (by assumption) (Nat.le_of_ble_eq_true rfl) | exact Nat.le_trans (Nat.le_of_eq (by assumption)) (Nat.le_trans (by assumption) (Nat.le_of_ble_eq_true rfl)) | lia | omega))) (Heap.get?_push_of_some _ (hH2 ▸ Heap.get?_push_of_some _ (hH1 ▸ Heap.get?_push_size _ rfl))), rfl, rfl⟩
  have hacc : (AO.list []).Is h₁.get? H1.objs.size := ⟨0, hsb.extBut _ _ (neN (by (first | with_reducible assumption | exact Nat.le_of_ble_eq_true rfl | exact Nat.add_le_add_left (Nat.le_of_ble_eq_true rfl) _ | exact Nat.le_trans (by assumption) (Nat.le_of_ble_eq_true rfl) | exact Nat.lt_of_le_of_lt (by assumption) (Nat.le_of_ble_eq_true rfl) | exact Nat.le_trans (Nat.le_of_eq (by assumption)) (Nat.le_trans (by assumption) (Nat.le_of_ble_eq_true rfl)) | lia | omega))) (Heap.get?_push_of_some _ (hH2 ▸ Heap.get?_push_size _ rfl))⟩
  have W0 : Wd P s₁ s₁.heap.get? (compEnvC scope cl H2.objs.size env) cns s₁.heap.get? { s₁ with heap := h₁, toks := s₁.toks } (cns.map fun _ => none) [(H1.objs.size, .list []), (s₁.heap.objs.size, .liter a1 0)] := by
    refine { names := hcns, kind := hkind, glo := W.glo, blt := W.blt, nd := hnd, nodebug := hdb, gens := rfl, drawn := rfl, osys := rfl, sub := .refl _, stat := W.stat.mono W.keep, keep := keep,
             loc := ⟨_, hns, .nones cns⟩, objs := ?_, apart := ?_, fresh := ?_ }
    · intro p hp
      simp only [List.mem_cons, List.mem_nil_iff, or_false] at hp
      rcases hp with rfl | rfl
      · exact hacc
      · exact hit
    · show ([H2.objs.size, H1.objs.size, s₁.heap.objs.size] : List Nat).Nodup
      simp only [List.nodup_cons, List.mem_cons, List.mem_nil_iff, or_false, not_or, List.nodup_nil, not_false_eq_true, and_true]
      (first | with_reducible assumption | exact Nat.le_of_ble_eq_true rfl | exact Nat.add_le_add_left (Nat.le_of_ble_eq_true rfl) _ | exact Nat.le_trans (by assumption) (Nat.le_of_ble_eq_true rfl) | exact Nat.lt_of_le_of_lt (by assumption) (Nat.le_of_ble_eq_true rfl) | exact Nat.le_trans (Nat.le_of_eq (by assumption)) (Nat.le_trans (by assumption) (Nat.le_of_ble_eq_true rfl)) | lia | omega)
    · intro b hb
      have hb : b = H2.objs.size ∨ b = H1.objs.size ∨ b = s₁.heap.objs.size := by simpa [compEnvC] using hb
      exact none_of b (by rcases hb with h | h | h <;> (rw [h]; first | exact Nat.le_refl _ | (simp only [z1, z2]; exact Nat.le_add_right _ _)))
  have loop : codeAny (model prog w) A (.compLoop (comp2 elt x y px py i1 i2 scope pos) 0 (.ref s₁.heap.objs.size) (.ref H1.objs.size) (compEnvC scope cl H2.objs.size env)) (R (.ref H1.objs.size) H2.objs.size)
      { s₁ with heap := h₁, toks := s₁.toks } := by
    refine codeAny_loop rfl (fun m s' => ∃ k B' ys vs', k ≤ items1.length ∧ m = items1.length - k ∧ ψ k 0 B' ys ∧
      Wd P s₁ s₁.heap.get? (compEnvC scope cl H2.objs.size env) cns B' s' vs' [(H1.objs.size, .list ys), (s₁.heap.objs.size, .liter a1 k)]) ?_ items1.length ⟨0, _, [], _, Nat.zero_le _, rfl, h0, W0⟩
    rintro m s' ⟨k, B', ys, vs', hk, rfl, hψ, W'⟩
    show wpAny _ _ ((compTurn (comp2 elt x y px py i1 i2 scope pos) 0 (.ref s₁.heap.objs.size) (.ref H1.objs.size) (compEnvC scope cl H2.objs.size env)).onRaise (fun x => do noteFrame x (compEnvC scope cl H2.objs.size env); theTreesLotGoes x)) _ _ s'
    refine wpAny_noted ?_
    rw [turn_out]
    refine wpAny_bind (wpAny_standAt (wpAny_bind ?_))
    rcases Nat.lt_or_eq_of_le hk with hlt | rfl
    · refine (Steps.list (prog := prog) (w := w) hA (hl1.mono W'.sub)).next hlt W'.keep (W'.at (.tail _ (.head _))) fun v h' t hv hi hs => ?_
      have W2 := W'.upd (t := t) (.tail .head) hi hs
      refine wpAny_bind (wpAny_of_eq rfl ?_)
      refine wpAny_bind (wpAny_assign_Name (st_local W2.clear (hwx v) fun s3 W3 => ?_))
      refine wpAny_bind (hi2 _ B' s3 _ _ _ _ W3 ?_)
      refine wpAny_bind (wpAny_standAt (wpAny_bind (wpAny_of_eq (hs2 _ _) (wpAny_bind (wpAny_holding (it_list W3 (hl2.mono (W3.sub.trans W3.keep)) (fun I2 s4 W4 hk4 => ?_)))))))
      refine wpAny_bind (wpAny_runOwn ?_)
      refine (fun (inner : ∀ s5, Wd P s₁ s₁.heap.get? (compEnvC scope cl H2.objs.size env) cns B' s5 (vsx v) [(I2, .liter a2 0), (H1.objs.size, .list ys), (s₁.heap.objs.size, .liter a1 (k + 1))] →
          codeAny (model prog w) (A.mark none) (.compLoop (comp2 elt x y px py i1 i2 scope pos) 1 (.ref I2) (.ref H1.objs.size) (compEnvC scope cl H2.objs.size env)) _ s5) =>
            start_in (inner _ W4) (wpAny_pyIter_listiter (W4.at (.head _)) (inner _ W4))) ?_
      intro s5 W5
      refine loop_in (fun j B' ys => ψ k j B' ys) hA hl2 (fun j B' ys h => hsz k j B' ys h) (hwy v) (hless v) W5 hψ (fun j u B'' s6 ys' hu hψ' hB'' W6 => step k v j u _ _ _ _ B'' s6 ys' hv hu hψ' hB'' W6) (fun B'' s6 ys' hψ' W6 => ?_)
      exact wpAny_pure ⟨rfl, items1.length - (k + 1), by (first | with_reducible assumption | exact Nat.le_of_ble_eq_true rfl | exact Nat.add_le_add_left (Nat.le_of_ble_eq_true rfl) _ | exact Nat.le_trans (by assumption) (Nat.le_of_ble_eq_true rfl) | exact Nat.lt_of_le_of_lt (by assumption) (Nat.le_of_ble_eq_true rfl) | exact Nat.le_trans (Nat.le_of_eq (by assumption)) (Nat.le_trans (by assumption) (Nat.le_of_ble_eq_true rfl)) | lia | omega), k + 1, B'', ys', _, hlt, rfl, hnext k B'' ys' hψ', W6⟩
    · refine (Steps.list (prog := prog) (w := w) hA (hl1.mono W'.sub)).stop W'.keep (W'.at (.tail _ (.head _))) fun h' hs => ?_
      have W2 : Wd P s₁ s₁.heap.get? (compEnvC scope cl H2.objs.size env) cns B' s' vs' [(s₁.heap.objs.size, .liter a1 items1.length), (H1.objs.size, .list ys)] := by
        refine { W' with objs := fun p hp => W'.objs p ?_, apart := ?_, fresh := fun b hb => W'.fresh b ?_ }
        · simp only [List.mem_cons, List.mem_nil_iff, or_false] at hp ⊢; exact hp.symm
        · exact ((List.Perm.swap _ _ _).cons _).nodup_iff.mp W'.apart
        · simp only [List.map_cons, List.map_nil, List.mem_cons, List.mem_nil_iff, or_false] at hb ⊢
          rcases hb with h | h | h
          · exact .inl h
          · exact .inr (.inr h)
          · exact .inr (.inl h)
      exact wpAny_pure (fin _ _ _ B' ys vs' hψ W'.sub (none_of _ (by (first | with_reducible assumption | exact Nat.le_of_ble_eq_true rfl | exact Nat.add_le_add_left (Nat.le_of_ble_eq_true rfl) _ | exact Nat.le_trans (by assumption) (Nat.le_of_ble_eq_true rfl) | exact Nat.lt_of_le_of_lt (by assumption) (Nat.le_of_ble_eq_true rfl) | exact Nat.le_trans (Nat.le_of_eq (by assumption)) (Nat.le_trans (by assumption) (Nat.le_of_ble_eq_true rfl)) | lia | omega))) (none_of _ (by (first | with_reducible assumption | exact Nat.le_of_ble_eq_true rfl | exact Nat.add_le_add_left (Nat.le_of_ble_eq_true rfl) _ | exact Nat.le_trans (by assumption) (Nat.le_of_ble_eq_true rfl) | exact Nat.lt_of_le_of_lt (by assumption) (Nat.le_of_ble_eq_true rfl) | exact Nat.le_trans (Nat.le_of_eq (by assumption)) (Nat.le_trans (by assumption) (Nat.le_of_ble_eq_true rfl)) | lia | omega))) (W2.lose (t := s'.toks) rfl hs))
  exact codeAny_compStart_list loop (wpAny_pyIter_listiter hit loop)
end
end
-- Cnt
section
open PySem PySem.W PyProof.Rows
theorem Wd.perm {P : Params} {s₀ : Shared} {B₀ : G} {env : Env} {ns : List (Str × NameKind)} {B : G} {s : Shared} {vs : List (Option Value)} {os os' : List (Addr × AO)} (W : Wd P s₀ B₀ env ns B s vs os) (h : os.Perm os') : Wd P s₀ B₀ env ns B s vs os' :=
  { W with
    objs := fun p hp => W.objs p (h.mem_iff.mpr hp)
    apart := ((h.map Prod.fst).cons _).nodup_iff.mp W.apart
    fresh := fun a ha => W.fresh a (((h.map Prod.fst).cons _).mem_iff.mpr ha) }
theorem LsAre.at {α : Type} {R : List Value → α → Prop} {B : G} {rs : List Value} {ds : List α} (h : LsAre R B rs ds) {a : Addr} (ha : Value.ref a ∈ rs) : ∃ dv, (AO.list dv).Is B a := by
  induction h with
  | nil => cases ha
  | cons x y _ ih =>
    rcases List.mem_cons.mp ha with e | ha
    · cases e; exact ⟨_, x⟩
    · exact ih ha
theorem LsAre.up {α : Type} {R : List Value → α → Prop} {B B' g : G} {rs : List Value} {ds : List α} (h : LsAre R B rs ds) (hn : ∀ a, Value.ref a ∈ rs → g a = none) (k : ∀ (b : Addr) (y : AO), y.Is B b → g b = none → y.Is B' b) : LsAre R B' rs ds := by
  induction h with
  | nil => exact .nil
  | cons a b _ ih => exact .cons (k _ _ a (hn _ (.head _))) b (ih fun a ha => hn a (.tail _ ha))

noncomputable def longN (ws : List Str) : Nat → List (List Str)
  | 0 => [[]]
  | n + 1 => (longN ws n).flatMap fun r => ws.map fun x => r ++ [x]
noncomputable def contN (ws : List Str) : Nat → List (List Str)
  | 0 => [[]]
  | n + 1 => contN ws n ++ longN ws (n + 1)
theorem longN_len (ws : List Str) (h : ws.length = 2) : ∀ n, (longN ws n).length = 2 ^ n
  | 0 => rfl
  | n + 1 => by
    have ih := longN_len ws h n
    show ((longN ws n).flatMap _).length = _
    rw [List.length_flatMap]
    have : (longN ws n).map (fun a => (ws.map fun x => a ++ [x]).length) = (longN ws n).map fun _ => 2 := by simp [h]
    rw [this, List.map_const', List.sum_replicate_nat, ih]
    rw [Nat.pow_succ]
theorem contN_len (ws : List Str) (h : ws.length = 2) : ∀ n, (contN ws n).length = 2 ^ (n + 1) - 1
  | 0 => rfl
  | n + 1 => by
    show (contN ws n ++ longN ws (n + 1)).length = _
    rw [List.length_append, contN_len ws h n, longN_len ws h]
    have : 0 < 2 ^ (n + 1) := Nat.pow_pos (by decide)
    rw [Nat.pow_succ 2 (n + 1)]
    (first | with_reducible assumption | exact Nat.le_of_ble_eq_true rfl | exact Nat.add_le_add_left (Nat.le_of_ble_eq_true rfl) _ | exact Nat.le_trans (by assumption) (Nat.le_of_ble_eq_true rfl) | exact Nat.lt_of_le_of_lt (by assumption) (Nat.le_of_ble_eq_true rfl) | exact Nat.le_trans (Nat.le_of_eq (by assumption)) (Nat.le_trans (by assumption) (Nat.le_of_ble_eq_true rfl)) | lia | omega)
theorem longN_mem (ws : List Str) : ∀ n, ∀ r ∈ longN ws n, r.length = n
  | 0, r, h => by simp [longN] at h; simp [h]
  | n + 1, r, h => by
    obtain ⟨q, hq, h⟩ := List.mem_flatMap.mp h
    obtain ⟨x, hx, rfl⟩ := List.mem_map.mp h
    simp [longN_mem ws n q hq]
noncomputable def innerN (ws : List Str) (ls : List (List Str)) (k j : Nat) : List (List Str) :=
  (ls.take k).flatMap (fun r => ws.map fun x => r ++ [x]) ++ (match ls[k]? with | some r => (ws.take j).map fun x => r ++ [x] | none => [])
theorem innerN_zero (ws : List Str) (ls : List (List Str)) (k : Nat) : innerN ws ls k 0 = (ls.take k).flatMap (fun r => ws.map fun x => r ++ [x]) := by
  unfold innerN; cases ls[k]? <;> simp
theorem innerN_next (ws : List Str) (ls : List (List Str)) (k : Nat) : innerN ws ls k ws.length = innerN ws ls (k + 1) 0 := by
  rw [innerN_zero]; unfold innerN
  rw [List.take_add_one]
  cases h : ls[k]? with
  | none => simp
  | some r => simp [List.flatMap_append]
theorem innerN_succ (ws : List Str) (ls : List (List Str)) {k j : Nat} {r : List Str} {x : Str} (hr : ls[k]? = some r) (hx : ws[j]? = some x) : innerN ws ls k (j + 1) = innerN ws ls k j ++ [r ++ [x]] := by
  unfold innerN
  rw [hr]
  dsimp only
  rw [List.take_add_one, hx]
  simp

theorem innerN_small {ws : List Str} {k k' j : Nat} {rr : List Str} (h2 : ws.length = 2) (hk : k < 4) (hrk : (longN ws k)[k']? = some rr) : (innerN ws (longN ws k) k' (j + 1)).length ≤ 100 := by
  have h1 : (innerN ws (longN ws k) k' (j + 1)).length ≤ 2 * k' + 2 := by
    unfold innerN
    rw [List.length_append, List.length_flatMap, hrk]
    have e1 : ((longN ws k).take k').map (fun a => (ws.map fun x => a ++ [x]).length) = ((longN ws k).take k').map fun _ => 2 := by simp [h2]
    rw [e1, List.map_const', List.sum_replicate_nat]
    simp only [List.length_take, List.length_map]
    (first | with_reducible assumption | exact Nat.le_of_ble_eq_true rfl | exact Nat.add_le_add_left (Nat.le_of_ble_eq_true rfl) _ | exact Nat.le_trans (by assumption) (Nat.le_of_ble_eq_true rfl) | exact Nat.lt_of_le_of_lt (by assumption) (Nat.le_of_ble_eq_true rfl) | exact Nat.le_trans (Nat.le_of_eq (by assumption)) (Nat.le_trans (by assumption) (Nat.le_of_ble_eq_true rfl)) | lia | omega)
  have h3 : k' < (longN ws k).length := (List.getElem?_eq_some_iff.mp hrk).1
  have h4 : (longN ws k).length = 2 ^ k := longN_len ws h2 k
  have h5 : 2 ^ k ≤ 2 ^ 3 := Nat.pow_le_pow_right (by decide) (Nat.le_of_lt_succ hk)
  (first | with_reducible assumption | exact Nat.le_of_ble_eq_true rfl | exact Nat.add_le_add_left (Nat.le_of_ble_eq_true rfl) _ | exact Nat.le_trans (by assumption) (Nat.le_of_ble_eq_true rfl) | exact Nat.lt_of_le_of_lt (by assumption) (Nat.le_of_ble_eq_true rfl) | exact Nat.le_trans (Nat.le_of_eq (by assumption)) (Nat.le_trans (by assumption) (Nat.le_of_ble_eq_true rfl)) | lia | omega)
theorem cont_small {ws : List Str} {k : Nat} (h2 : ws.length = 2) (hk : k < 4) : (contN ws k).length + (longN ws (k + 1)).length ≤ sizeLine := by
  rw [contN_len ws h2, longN_len ws h2, sizeLine_eq]
  have : 2 ^ (k + 1) ≤ 2 ^ 4 := Nat.pow_le_pow_right (by decide) (by (first | with_reducible assumption | exact Nat.le_of_ble_eq_true rfl | exact Nat.add_le_add_left (Nat.le_of_ble_eq_true rfl) _ | exact Nat.le_trans (by assumption) (Nat.le_of_ble_eq_true rfl) | exact Nat.lt_of_le_of_lt (by assumption) (Nat.le_of_ble_eq_true rfl) | exact Nat.le_trans (Nat.le_of_eq (by assumption)) (Nat.le_trans (by assumption) (Nat.le_of_ble_eq_true rfl)) | lia | omega))
  (first | with_reducible assumption | exact Nat.le_of_ble_eq_true rfl | exact Nat.add_le_add_left (Nat.le_of_ble_eq_true rfl) _ | exact Nat.le_trans (by assumption) (Nat.le_of_ble_eq_true rfl) | exact Nat.lt_of_le_of_lt (by assumption) (Nat.le_of_ble_eq_true rfl) | exact Nat.le_trans (Nat.le_of_eq (by assumption)) (Nat.le_trans (by assumption) (Nat.le_of_ble_eq_true rfl)) | lia | omega)
theorem contents_spec {prog : Program} {w : World} {A : Around} {E : Value → Shared → Prop} {s : Shared} {wl : Addr} {wv : List Value} {ws : List Str} {N : Nat} {tN : Tok} {Q : Value → Shared → Prop} {n : Nat}
    (S : Stat w.params s.heap.get?) (hA : AOk A (n + 1)) (hw : (AO.list wv).Is s.heap.get? wl) (hws : StrsAre wv ws) (h2 : ws.length = 2) (hN : N ≤ 4)
    (h : ∀ r cv s', Keeps s s' → s.heap.get? r = none → (AO.list cv).Is s'.heap.get? r → LsAre StrsAre s'.heap.get? cv (contN ws N) → (∀ a, Value.ref a ∈ cv → s.heap.get? a = none ∧ a ≠ r) → Q (.ref r) s') :
    wpAny (model prog w) A (call (.ref 116) [.ref wl, .int N tN]) Q E s := by
  have ho := S.K 116 _ rfl
  have hc := S.K 115 _ rfl
  refine call_fnC (n := n) S hA ho rfl rfl ⟨_, _, _, _, rfl, hc, rfl, rfl⟩ rfl rfl rfl rfl rfl rfl ?_ ?_ (bind2 rfl ?_) ?_ ?_ ?_
  · decide
  · decide
  · decide
  · rfl
  · decide
  clear ho hc
  intro env L s₂ he hcells W hA'
  replace W : Wd w.params s s.heap.get? env [("words", .cell), ("size", .local), ("contents", .local), ("longest", .local), ("turn", .local), ("range", .globalImplicit)] s.heap.get? s₂ [none, some (.int N tN), none, none, none, none] [(L + 1, .cell (some (.ref wl)))] := W
  replace hcells : env.cells = [((("words" : Str)), L + 1)] := hcells
  clear he
  ((((with_reducible refine' asgs ?nc1 ?_); (case nc1 => rfl))); (with_reducible refine' PyProof.Rows.List_ ?_); (((with_reducible refine' args_c ?pa3 ?_); (case pa3 => rfl))); (with_reducible refine' PyProof.Rows.List_ ?_); (with_reducible refine' PyProof.Rows.args_nil ?_); (((with_reducible refine' new_list (by assumption) ?sz6 ?_); (case sz6 => exact Nat.le_of_ble_eq_true rfl); intro _ _ _)); (with_reducible refine' PyProof.Rows.args_nil ?_); (((with_reducible refine' new_list (by assumption) ?sz8 ?_); (case sz8 => exact Nat.le_of_ble_eq_true rfl); intro _ _ _)); (((with_reducible refine' st_local (by assumption) ?wr9 ?_); (case wr9 => ((with_reducible (repeat first | exact Wr.head | apply Wr.tail | (apply Wr.of; assumption))))); intro _ _)); (((with_reducible refine' asgs ?nc10 ?_); (case nc10 => rfl))); (with_reducible refine' PyProof.Rows.List_ ?_); (((with_reducible refine' args_c ?pa12 ?_); (case pa12 => rfl))); (with_reducible refine' PyProof.Rows.List_ ?_); (with_reducible refine' PyProof.Rows.args_nil ?_); (((with_reducible refine' new_list (by assumption) ?sz15 ?_); (case sz15 => exact Nat.le_of_ble_eq_true rfl); intro _ _ _)); (with_reducible refine' PyProof.Rows.args_nil ?_); (((with_reducible refine' new_list (by assumption) ?sz17 ?_); (case sz17 => exact Nat.le_of_ble_eq_true rfl); intro _ _ _)); (((with_reducible refine' st_local (by assumption) ?wr18 ?_); (case wr18 => ((with_reducible (repeat first | exact Wr.head | apply Wr.tail | (apply Wr.of; assumption))))); intro _ _)))
  rename_i e0 q1 w1 C q2 w2 q3 w3 e1 q4 w4 la q5 w5 q6 W6
  clear w1 w2 w3 w4 w5 W
  have oC := (W6.own (mem_t (mem_t mem_h))).1
  have o0 := (W6.own (mem_t (mem_t (mem_t mem_h)))).1
  have o1 := (W6.own (mem_t mem_h)).1
  have ol := (W6.own mem_h).1
  refine Wd.freezeC W6 fun B1 k1 i1 W7 => ?_
  refine Wd.freezeC W7 fun B2 k2 i2 W8 => ?_
  refine Wd.freezeC (W8.perm (.swap _ _ _)) fun B3 k3 i3 W9 => ?_
  clear W6 W7 W8
  refine wpAny_execs_cons (ex_for ?_ ?_)
  · refine call_t W9 (.tail (.tail (.tail (.tail (.tail .head))))) .range ?_ ?_
    · rfl
    ((((with_reducible refine' args_c ?pa19 ?_); (case pa19 => rfl))); (((with_reducible refine' ev_local (by assumption) ?rd20 ?_); (case rd20 => ((with_reducible (repeat first | exact Rd.head | apply Rd.tail | (apply Rd.of; assumption))))))); (with_reducible refine' PyProof.Rows.args_nil ?_))
    refine r_range1 (by assumption) (fun r t u v s5 W5 hr => ?_)
    refine it_range W5 hr (by (first | with_reducible assumption | exact Nat.le_of_ble_eq_true rfl | exact Nat.add_le_add_left (Nat.le_of_ble_eq_true rfl) _ | exact Nat.le_trans (by assumption) (Nat.le_of_ble_eq_true rfl) | exact Nat.lt_of_le_of_lt (by assumption) (Nat.le_of_ble_eq_true rfl) | exact Nat.le_trans (Nat.le_of_eq (by assumption)) (Nat.le_trans (by assumption) (Nat.le_of_ble_eq_true rfl)) | lia | omega)) (by (first | with_reducible assumption | exact Nat.le_of_ble_eq_true rfl | exact Nat.add_le_add_left (Nat.le_of_ble_eq_true rfl) _ | exact Nat.le_trans (by assumption) (Nat.le_of_ble_eq_true rfl) | exact Nat.lt_of_le_of_lt (by assumption) (Nat.le_of_ble_eq_true rfl) | exact Nat.le_trans (Nat.le_of_eq (by assumption)) (Nat.le_trans (by assumption) (Nat.le_of_ble_eq_true rfl)) | lia | omega)) (by (first | with_reducible assumption | exact Nat.le_of_ble_eq_true rfl | exact Nat.add_le_add_left (Nat.le_of_ble_eq_true rfl) _ | exact Nat.le_trans (by assumption) (Nat.le_of_ble_eq_true rfl) | exact Nat.lt_of_le_of_lt (by assumption) (Nat.le_of_ble_eq_true rfl) | exact Nat.le_trans (Nat.le_of_eq (by assumption)) (Nat.le_trans (by assumption) (Nat.le_of_ble_eq_true rfl)) | lia | omega)) (fun it s6 W6 => ?_)
    refine for_loopC (fun k B' vs' os' => ∃ cv lv la tv, vs' = [none, some (.int N tN), some (.ref C), some (.ref la), tv, none] ∧ os' = [(C, .list cv), (L + 1, .cell (some (.ref wl)))] ∧ LsAre StrsAre B' cv (contN ws k) ∧ (AO.list lv).Is B' la ∧ LsAre StrsAre B' lv (longN ws k) ∧
        ∀ a, Value.ref a ∈ cv → s.heap.get? a = none)
      (Steps.range (a := 0) (b := N) hA'.handled (by (first | with_reducible assumption | exact Nat.le_of_ble_eq_true rfl | exact Nat.add_le_add_left (Nat.le_of_ble_eq_true rfl) _ | exact Nat.le_trans (by assumption) (Nat.le_of_ble_eq_true rfl) | exact Nat.lt_of_le_of_lt (by assumption) (Nat.le_of_ble_eq_true rfl) | exact Nat.le_trans (Nat.le_of_eq (by assumption)) (Nat.le_trans (by assumption) (Nat.le_of_ble_eq_true rfl)) | lia | omega))) (fun _ => rfl) W6 ⟨[.ref e0], [.ref e1], la, none, rfl, rfl, .cons i3 .nil .nil, (i1.mono k2).mono k3, .cons (i2.mono k3) .nil .nil, ?_⟩ ?_ ?_
    · intro a ha; simp at ha; rw [ha]; exact o0
    · intro k QQ v B' vs' os' s' hQQ _ _ hk hv hB hφ W'
      obtain ⟨tk, rfl⟩ := hv
      obtain ⟨cv, lv, la, tv, rfl, rfl, hcv, hla, hlv, hfr⟩ := hφ
      replace hQQ := fun B'' cv lv la tv s3 k' a b c d W => (hQQ B'' [none, some (.int N tN), some (.ref C), some (.ref la), tv, none] [(C, .list cv), (L + 1, .cell (some (.ref wl)))] s3 k' ⟨cv, lv, la, tv, rfl, rfl, a, b, c, d⟩ W).1
      have hk4 : k < 4 := by (first | with_reducible assumption | exact Nat.le_of_ble_eq_true rfl | exact Nat.add_le_add_left (Nat.le_of_ble_eq_true rfl) _ | exact Nat.le_trans (by assumption) (Nat.le_of_ble_eq_true rfl) | exact Nat.lt_of_le_of_lt (by assumption) (Nat.le_of_ble_eq_true rfl) | exact Nat.le_trans (Nat.le_of_eq (by assumption)) (Nat.le_trans (by assumption) (Nat.le_of_ble_eq_true rfl)) | lia | omega)
      refine wpAny_assign_Name (st_local W' (.tail (.tail (.tail (.tail .head)))) (fun s7 W7 => ?_))
      clear W5 W6 W9 W'
      have kx : env.kindOf "words" = some .cell := W7.kd .head
      have hww : (AO.list wv).Is s7.heap.get? wl := hw.mono (W7.sub.trans W7.keep)
      have hwl : wv.length = 2 := by rw [strs_len hws, h2]
      have hlvl : lv.length ≤ 100 := by rw [hlv.len, longN_len ws h2 k]; exact Nat.le_trans (Nat.pow_le_pow_right (by decide) (Nat.le_of_lt hk4)) (by decide)
      refine wpAny_execs_cons (ex_comp2 (cl := [("words", L + 1)]) (swaps W7 (.tail (.tail (.tail .head))) ?_ ?_) ?_ rfl ?_ (ev_local W7 (.tail (.tail (.tail .head))) ?_) ?_)
      · rfl
      · decide
      · simp only [closureFor, cellOf, hcells]; rfl
      · decide
      · refine comp2_core (cns := [(".0", .local), ("row", .local), ("word", .local), ("words", .cell)]) (vsx := fun v => [none, some v, none, none]) (vsy := fun v u => [none, some v, some u, none]) (items1 := lv) (items2 := wv) (a2 := wl)
          (fun k' j B'' ys => LsAre StrsAre B'' ys (innerN ws (longN ws k) k' j) ∧ ys.length ≤ 100 ∧ ∀ a, Value.ref a ∈ ys → s7.heap.get? a = none) hA'.handled W7 (W7.ofB hla) hww ?_ rfl ?_ ?_ ?_ ?_
          (fun v => .tail .head) (fun v u => .tail (.tail .head)) (fun v u => .same (.same (.none (.same .nil)))) ⟨by rw [innerN_zero]; exact .nil, by decide, fun a ha => by cases ha⟩ ?_ ?_ ?_ ?_ ?_
        · rintro k' j B'' ys ⟨_, h', _⟩; (first | with_reducible assumption | exact Nat.le_of_ble_eq_true rfl | exact Nat.add_le_add_left (Nat.le_of_ble_eq_true rfl) _ | exact Nat.le_trans (by assumption) (Nat.le_of_ble_eq_true rfl) | exact Nat.lt_of_le_of_lt (by assumption) (Nat.le_of_ble_eq_true rfl) | exact Nat.le_trans (Nat.le_of_eq (by assumption)) (Nat.le_trans (by assumption) (Nat.le_of_ble_eq_true rfl)) | lia | omega)
        · decide
        · simp only [relabel, List.map, W7.kind, kx]; rfl
        · decide
        · decide
        · rintro k' B'' ys ⟨h', h'', h3⟩
          rw [strs_len hws, innerN_next] at h'
          exact ⟨h', h'', h3⟩
        · intro C' B'' s'' vs'' os'' Q' E' W'' hq
          exact ev_cell W'' (.tail (.tail (.tail .head))) rfl ((W7.at (mem_t (mem_t mem_h))).mono (W''.sub.trans W''.keep)) hq
        · intro C x; rfl
        · rintro k' v j u C' I1 I2 D B'' s'' ys hv hu ⟨hψ, hys, hyf⟩ hB'' W''
          obtain ⟨ra, rv, rr, rfl, hra, hrr, hrk⟩ := hlv.get hv
          obtain ⟨x, tx, rfl, hx⟩ := strs_get hws hu
          ((with_reducible refine' wpAny_BinOp ?_); (((with_reducible refine' ev_local (by assumption) ?rd23 ?_); (case rd23 => ((with_reducible (repeat first | exact Rd.head | apply Rd.tail | (apply Rd.of; assumption))))))); (with_reducible refine' PyProof.Rows.List_ ?_); (((with_reducible refine' args_c ?pa25 ?_); (case pa25 => rfl))); (((with_reducible refine' ev_local (by assumption) ?rd26 ?_); (case rd26 => ((with_reducible (repeat first | exact Rd.head | apply Rd.tail | (apply Rd.of; assumption))))))); (with_reducible refine' PyProof.Rows.args_nil ?_); (((with_reducible refine' new_list (by assumption) ?sz28 ?_); (case sz28 => exact Nat.le_of_ble_eq_true rfl); intro _ _ _)))
          rename Wd _ _ _ _ _ _ _ _ _ => Wx
          refine w_addL Wx (((W7.ofB hra).mono hB'').mono Wx.keep) (Wx.at mem_h) ?_ (fun D' s8 W8 => ?_)
          · rw [strs_len hrr, longN_mem ws k rr (List.mem_of_getElem? hrk), sizeLine_eq]
            show k + 1 ≤ _
            (first | with_reducible assumption | exact Nat.le_of_ble_eq_true rfl | exact Nat.add_le_add_left (Nat.le_of_ble_eq_true rfl) _ | exact Nat.le_trans (by assumption) (Nat.le_of_ble_eq_true rfl) | exact Nat.lt_of_le_of_lt (by assumption) (Nat.le_of_ble_eq_true rfl) | exact Nat.le_trans (Nat.le_of_eq (by assumption)) (Nat.le_trans (by assumption) (Nat.le_of_ble_eq_true rfl)) | lia | omega)
          · have o8 := (W8.own mem_h).1
            refine Wd.freezeC W8 fun B8 k8 i8 W9 => ?_
            have W10 := W9.drop (List.sublist_cons_self _ _)
            refine ⟨B8, ⟨?_, ?_, ?_⟩, W10⟩
            · rw [innerN_succ ws _ hrk hx]
              exact (hψ.mono k8).app (.cons i8 (strs_snoc hrr x tx) .nil)
            · have hl := ((hψ.mono k8).app (.cons i8 (strs_snoc hrr x tx) .nil)).len
              rw [hl, ← innerN_succ ws _ hrk hx]
              exact innerN_small h2 hk4 hrk
            · intro a ha
              rcases List.mem_append.mp ha with ha | ha
              · exact hyf a ha
              · simp at ha; rw [ha]; exact o8
        · rintro D C' s8 B8 ys vs8 ⟨hψ, hys, hyf⟩ hB8 hD hC' W8
          refine used_fin W7 (vs' := fun v => [none, some (.int N tN), some (.ref C), some v, some (.int (0 + k) tk), none]) (fun v => .tail (.tail (.tail .head))) hB8 hD hC' W8 (fun s9 B9 k9 up9 W9 => ?_)
          have hys' : LsAre StrsAre B9 ys (longN ws (k + 1)) := by
            have := hψ.up hyf up9
            rw [innerN_zero, hlv.len, List.take_of_length_le (Nat.le_refl _)] at this
            exact this
          have hsub : Sub s.heap.get? s7.heap.get? := W7.sub.trans W7.keep
          clear W8 W7
          show wpAny _ _ _ _ _ _
          ((((with_reducible refine' exprs (by assumption) ?nc29 ?_); (case nc29 => rfl))); (((with_reducible refine' call_meth ?sd30 ?_); (case sd30 => rfl))); (((with_reducible refine' ev_local (by assumption) ?rd31 ?_); (case rd31 => ((with_reducible (repeat first | exact Rd.head | apply Rd.tail | (apply Rd.of; assumption))))))); (((with_reducible refine' gm_extend (Wd.at (by assumption) ?mm32) ?_); (case mm32 => ((with_reducible (repeat first | exact mem_h | apply mem_t | (apply mem_of; assumption))))))); (((with_reducible refine' with_builtin ?sd33 ?_); (case sd33 => rfl))); (((with_reducible refine' args_c ?pa34 ?_); (case pa34 => rfl))); (((with_reducible refine' ev_local (by assumption) ?rd35 ?_); (case rd35 => ((with_reducible (repeat first | exact Rd.head | apply Rd.tail | (apply Rd.of; assumption))))))); (with_reducible refine' PyProof.Rows.args_nil ?_))
          refine l_extend W9 (.tail (.tail .head)) (W9.at mem_h) ?_ (fun s10 W10 => ⟨rfl, ?_⟩)
          · rw [hcv.len, hys'.len]; exact cont_small h2 hk4
          · refine Wd.freezeC W10 fun B11 k11 i11 W11 => ?_
            refine wpAny_execs_nil (hQQ B11 (cv ++ ys) ys D _ _ ((hB.trans k9).trans k11) (((hcv.mono k9).app hys').mono k11) i11 (hys'.mono k11) ?_ W11)
            intro a ha
            rcases List.mem_append.mp ha with ha | ha
            · exact hfr a ha
            · have := hyf a ha
              cases e : s.heap.get? a with
              | none => rfl
              | some o => rw [hsub a o e] at this; cases this
      · intro _; rfl
    · rintro B' vs' os' s' hB ⟨cv, lv, la, tv, rfl, rfl, hcv, hla, hlv, hfr⟩ W'
      show wpAny _ _ _ _ _ _
      ((with_reducible refine' rets ?_); (((with_reducible refine' ev_local (by assumption) ?rd38 ?_); (case rd38 => ((with_reducible (repeat first | exact Rd.head | apply Rd.tail | (apply Rd.of; assumption))))))))
      have e : ((N : Int) - 0).toNat = N := by (first | with_reducible assumption | exact Nat.le_of_ble_eq_true rfl | exact Nat.add_le_add_left (Nat.le_of_ble_eq_true rfl) _ | exact Nat.le_trans (by assumption) (Nat.le_of_ble_eq_true rfl) | exact Nat.lt_of_le_of_lt (by assumption) (Nat.le_of_ble_eq_true rfl) | exact Nat.le_trans (Nat.le_of_eq (by assumption)) (Nat.le_trans (by assumption) (Nat.le_of_ble_eq_true rfl)) | lia | omega)
      rw [e] at hcv
      refine h _ _ _ W'.done oC (W'.at mem_h) (hcv.mono W'.keep) (fun a ha => ⟨hfr a ha, ?_⟩)
      rintro rfl
      obtain ⟨dv, hdv⟩ := hcv.at ha
      obtain ⟨o, ho⟩ := hdv.some
      rw [W'.fresh a (by simp)] at ho
      cases ho
  · intro _; rfl
end
-- Pgm
section
open PySem PySem.W PyProof.Rows
section
variable {prog : Program} {w : World} {A : Around} {E : Value → Shared → Prop} {s : Shared} {env : Env} {x : Str} {t u : Tok}
variable {P : Params} {s₀ : Shared} {B₀ : G} {ns : List (Str × NameKind)} {B : G} {vs vs' : List (Option Value)} {os os' : List (Addr × AO)} {Q : Value → Shared → Prop}
theorem l_set {D : Addr} {ys : List Value} {k : Int} {v : Value} {Q : Unit → Shared → Prop} (W : Wd P s₀ B₀ env ns B s vs os) (u' : Upd D (.list ys) (.list (ys.set k.toNat v)) os os') (h0 : 0 ≤ k) (h1 : k < ys.length) (h2 : ys.length ≤ 1000)
    (h : ∀ s', Wd P s₀ B₀ env ns B s' vs os' → Q () s') : wpAny (model prog w) A (setItem (.ref D) (.int k t) v) Q E s := by
  obtain ⟨n, hD⟩ := (W.at u'.mem).plainL
  refine ki_setAt hD h0 ?_ ?_ ?_
  · (first | with_reducible assumption | exact Nat.le_of_ble_eq_true rfl | exact Nat.add_le_add_left (Nat.le_of_ble_eq_true rfl) _ | exact Nat.le_trans (by assumption) (Nat.le_of_ble_eq_true rfl) | exact Nat.lt_of_le_of_lt (by assumption) (Nat.le_of_ble_eq_true rfl) | exact Nat.le_trans (Nat.le_of_eq (by assumption)) (Nat.le_trans (by assumption) (Nat.le_of_ble_eq_true rfl)) | lia | omega)
  · simpa using h1
  · have hx := hD.update (fun xs => xs.setIfInBounds k.toNat v)
    have e : ys.toArray.setIfInBounds k.toNat v = (ys.set k.toNat v).toArray := by simp
    rw [e] at hx
    exact h _ (W.upd (t := s.toks) u' ⟨_, hx⟩ (Heap.SameBut.update ..).extBut)
theorem l_len {l : Addr} {ys : List Value} (W : Wd P s₀ B₀ env ns B s vs os) (hl : (AO.list ys).Is s.heap.get? l) (h2 : ys.length ≤ 1000) (h : ∀ t s', Wd P s₀ B₀ env ns B s' vs os → Q (.int ys.length t) s') :
    wpAny (model prog w) A (call (.builtin "len") [.ref l]) Q E s := by
  refine Calls.call_len_list hl.isL ?_ ?_
  · simp; (first | with_reducible assumption | exact Nat.le_of_ble_eq_true rfl | exact Nat.add_le_add_left (Nat.le_of_ble_eq_true rfl) _ | exact Nat.le_trans (by assumption) (Nat.le_of_ble_eq_true rfl) | exact Nat.lt_of_le_of_lt (by assumption) (Nat.le_of_ble_eq_true rfl) | exact Nat.le_trans (Nat.le_of_eq (by assumption)) (Nat.le_trans (by assumption) (Nat.le_of_ble_eq_true rfl)) | lia | omega)
  · exact h _ _ (W.toks _)
theorem l_copy {l : Addr} {ys : List Value} (W : Wd P s₀ B₀ env ns B s vs os) (hl : (AO.list ys).Is s.heap.get? l) (h2 : ys.length ≤ 1000) (h : ∀ D s', Wd P s₀ B₀ env ns B s' vs ((D, .list ys) :: os) → Q (.ref D) s') :
    wpAny (model prog w) A (call (.type "list") [.ref l]) Q E s := by
  obtain ⟨n, hl⟩ := hl
  refine call_list_seq l (.inl rfl) hl rfl rfl (fun h' c' hk hS => ?_) ?_
  · refine h _ _ (W.add ⟨h', s.toks, rfl, hk⟩ ⟨c', hS⟩ ?_)
    cases e : s.heap.get? s.heap.objs.size with
    | none => rfl
    | some o => exact absurd (Heap.lt_size e) (Nat.lt_irrefl _)
  · rw [sizeLine_eq]; simp; (first | with_reducible assumption | exact Nat.le_of_ble_eq_true rfl | exact Nat.add_le_add_left (Nat.le_of_ble_eq_true rfl) _ | exact Nat.le_trans (by assumption) (Nat.le_of_ble_eq_true rfl) | exact Nat.lt_of_le_of_lt (by assumption) (Nat.le_of_ble_eq_true rfl) | exact Nat.le_trans (Nat.le_of_eq (by assumption)) (Nat.le_trans (by assumption) (Nat.le_of_ble_eq_true rfl)) | lia | omega)
theorem as_sub {o i : Expr} {pos : Pos} {v : Value} {Q : Unit → Shared → Prop}
    (h : wpAny (model prog w) A (eval o env) (fun ov s₁ => wpAny (model prog w) A (eval i env) (fun iv s₂ => wpAny (model prog w) A (setItem ov iv v) Q E s₂) E s₁) E s) :
    wpAny (model prog w) A (assign (.Subscript o i pos) env v) Q E s := by
  rw [assign_Subscript]
  refine wpAny_bind (wpAny_holding (wpAny_mono h (fun ov s₁ h₁ => wpAny_bind (wpAny_holding (wpAny_mono h₁ (fun iv s₂ h₂ => ?_) fun _ _ x => x))) fun _ _ x => x))
  exact wpAny_bind (wpAny_standAt (wpAny_bind (wpAny_holding (wpAny_mono h₂ (fun _ s₃ h₃ => wpAny_release h₃) fun _ _ x => x))))
/-- «a[i], b[j] = e» -/
theorem swap_asg {o1 i1 o2 i2 e : Expr} {k : Nat} {p1 p2 tp pos : Pos} {rest : List Stmt} {Q : Flow → Shared → Prop} (hA : A.handled = none) (hn : noComp e = true) (W : Wd P s₀ B₀ env ns B s vs os)
    (h : wpAny (model prog w) A (eval e env) (fun v s₁ => ∃ a x y, v = .ref a ∧ (AO.tuple [x, y]).Is s₁.heap.get? a ∧ ∀ s₂, Keeps s₁ s₂ → wpAny (model prog w) A (assign (.Subscript o1 i1 p1) env x) (fun _ s₃ =>
      wpAny (model prog w) A (assign (.Subscript o2 i2 p2) env y) (fun _ s₄ => wpAny (model prog w) A (execs rest env) Q E s₄) E s₃) E s₂) E s) :
    wpAny (model prog w) A (execs (.Assign [.Tuple [.Subscript o1 i1 p1, .Subscript o2 i2 p2] k tp] e pos :: rest) env) Q E s := by
  refine wpAny_execs_cons (Assign_Tuple (wpAny_mono h (fun v s₁ h₁ => ?_) fun _ _ x => x) ?_ ?_)
  · obtain ⟨a, x, y, rfl, ht, h₁⟩ := h₁
    refine assign_Tuple_tuple (items := #[x, y]) hA ht rfl rfl (fun h' he => ?_)
    have K : Keeps s₁ { s₁ with heap := h' } := ⟨h', s₁.toks, rfl, fun b o e => he b o (Nat.ne_of_lt (Heap.lt_size e)) e⟩
    show wpAny _ _ (do holding [y] (assign (.Subscript o1 i1 p1) env x); assignInOrder [assign (.Subscript o2 i2 p2) env] [y]) _ _ _
    refine wpAny_bind (wpAny_holding (wpAny_mono (h₁ _ K) (fun _ s₃ h₃ => ?_) fun _ _ x => x))
    show wpAny _ _ (do holding [] (assign (.Subscript o2 i2 p2) env y); assignInOrder [] []) _ _ _
    exact wpAny_bind (wpAny_holding (wpAny_mono h₃ (fun _ s₄ h₄ => wpAny_pure h₄) fun _ _ x => x))
  · unfold swapsWithSole; exact noComp_swaps hn _ _ _
  · have hb : env.blockKind = .function := by unfold Env.blockKind; rw [W.kind]; rfl
    unfold swappedStores
    cases e <;> first | rfl | (simp [hb])
end

noncomputable def stepD (ds : List Int) (n : Int) : List Int := ds ++ [if 1 < n.fmod 4 ∧ (ds.filter fun d => decide (1 < d)).length = 4 then n.fmod 4 - 2 else n.fmod 4]
noncomputable def deedsOf (ns : List Int) : List Int := ns.foldl stepD []
noncomputable def stepO (ns : List Int) (ds : List Int) (p : Nat) : List Int := if ((ns.getD p 0).fdiv 4).fmod 2 = 1 then (ds.set (p - 1) (ds.getD p 0)).set p (ds.getD (p - 1) 0) else ds
noncomputable def othersTo (ns ds : List Int) (k : Nat) : List Int := (List.range' 1 k).foldl (stepO ns) ds
noncomputable def othersOf (ns ds : List Int) : List Int := othersTo ns ds (ns.length - 1)
theorem deedsOf_succ {ns : List Int} {k : Nat} {n : Int} (h : ns[k]? = some n) : deedsOf (ns.take (k + 1)) = stepD (deedsOf (ns.take k)) n := by
  unfold deedsOf; rw [List.take_add_one, h, List.foldl_append]; rfl
theorem deedsOf_len (ns : List Int) : (deedsOf ns).length = ns.length := by
  have : ∀ (l : List Int) (acc : List Int), (l.foldl stepD acc).length = acc.length + l.length := by
    intro l
    induction l with
    | nil => intro acc; rfl
    | cons a l ih => intro acc; rw [List.foldl_cons, ih]; simp [stepD]; (first | with_reducible assumption | exact Nat.le_of_ble_eq_true rfl | exact Nat.add_le_add_left (Nat.le_of_ble_eq_true rfl) _ | exact Nat.le_trans (by assumption) (Nat.le_of_ble_eq_true rfl) | exact Nat.lt_of_le_of_lt (by assumption) (Nat.le_of_ble_eq_true rfl) | exact Nat.le_trans (Nat.le_of_eq (by assumption)) (Nat.le_trans (by assumption) (Nat.le_of_ble_eq_true rfl)) | lia | omega)
  exact (this ns []).trans (by simp)
theorem othersTo_succ (ns ds : List Int) (k : Nat) : othersTo ns ds (k + 1) = stepO ns (othersTo ns ds k) (k + 1) := by
  unfold othersTo
  rw [List.range'_concat, List.foldl_append]
  show stepO ns _ (1 + 1 * k) = _
  rw [show 1 + 1 * k = k + 1 by (first | with_reducible assumption | exact Nat.le_of_ble_eq_true rfl | exact Nat.add_le_add_left (Nat.le_of_ble_eq_true rfl) _ | exact Nat.le_trans (by assumption) (Nat.le_of_ble_eq_true rfl) | exact Nat.lt_of_le_of_lt (by assumption) (Nat.le_of_ble_eq_true rfl) | exact Nat.le_trans (Nat.le_of_eq (by assumption)) (Nat.le_trans (by assumption) (Nat.le_of_ble_eq_true rfl)) | lia | omega)]
theorem stepO_len (ns ds : List Int) (p : Nat) : (stepO ns ds p).length = ds.length := by unfold stepO; split <;> simp
theorem othersTo_len (ns ds : List Int) : ∀ k, (othersTo ns ds k).length = ds.length
  | 0 => rfl
  | k + 1 => by rw [othersTo_succ, stepO_len, othersTo_len ns ds k]


theorem ints_set {vs : List Value} {ns : List Int} (h : IntsAre vs ns) (n : Int) (t : Tok) : ∀ i : Nat, IntsAre (vs.set i (.int n t)) (ns.set i n) := by
  induction h with
  | nil => intro i; exact .nil
  | cons m u h ih =>
    intro i
    cases i with
    | zero => exact .cons n t h
    | succ i => exact .cons m u (ih i)
/-- `ifs_join` with the meeting point under a name -/
theorem ifs_joinC {M : Model} {A : Around} {E : Value → Shared → Prop} {s : Shared} {env : Env} {test : Expr} {body rest : List Stmt} {pos : Pos} {Q : Flow → Shared → Prop} (R₀ : Shared → Prop)
    (h : ∀ R : Shared → Prop, (∀ s', R₀ s' → R s') → wpAny M A (isTrue test env (eval test env)) (fun b s₂ => (b = true → wpAny M A (execs body env) (fun f s' => f = .next ∧ R s') E s₂) ∧ (b = false → R s₂)) E s)
    (k : ∀ s', R₀ s' → wpAny M A (execs rest env) Q E s') : wpAny M A (execs (.If test body [] pos :: rest) env) Q E s :=
  ifs_join R₀ (h R₀ fun _ x => x) k
theorem programs_spec {prog : Program} {w : World} {A : Around} {E : Value → Shared → Prop} {s : Shared} {nl : Addr} {nv : List Value} {ns : List Int} {Q : Value → Shared → Prop} {n : Nat}
    (S : Stat w.params s.heap.get?) (hA : AOk A (n + 1)) (hn : (AO.list nv).Is s.heap.get? nl) (hns : IntsAre nv ns) (h1 : 1 ≤ ns.length) (h100 : ns.length ≤ 100)
    (h : ∀ r d o dv ov s', Keeps s s' → s.heap.get? r = none → s.heap.get? d = none → s.heap.get? o = none → (AO.list [.ref d, .ref o]).Is s'.heap.get? r → (AO.list dv).Is s'.heap.get? d → IntsAre dv (deedsOf ns) →
      (AO.list ov).Is s'.heap.get? o → IntsAre ov (othersOf ns (deedsOf ns)) → Q (.ref r) s') :
    wpAny (model prog w) A (call (.ref 80) [.ref nl]) Q E s := by
  have ho := S.K 80 _ rfl
  have hc := S.K 79 _ rfl
  refine call_fn (n := n) S hA ho rfl rfl ⟨_, _, _, _, rfl, hc, rfl, rfl⟩ rfl rfl rfl rfl rfl (by decide) (by decide) (by decide) ?_
  clear ho hc
  refine wpAny_of_eq (bind1 rfl) ⟨keeps_refl _, rfl, fun env L s₂ he W hA' => ?_⟩
  replace W : Wd w.params s s.heap.get? env [("numbers", .local), ("deeds", .local), ("number", .local), ("deed", .local), ("others", .local), ("place", .local), ("len", .globalImplicit), ("list", .globalImplicit), ("range", .globalImplicit)] _ s₂
    [some (.ref nl), none, none, none, none, none, none, none, none] [] := W
  clear he
  ((((with_reducible refine' asgs ?nc1 ?_); (case nc1 => rfl))); (with_reducible refine' PyProof.Rows.List_ ?_); (with_reducible refine' PyProof.Rows.args_nil ?_); (((with_reducible refine' new_list (by assumption) ?sz4 ?_); (case sz4 => exact Nat.le_of_ble_eq_true rfl); intro _ _ _)); (((with_reducible refine' st_local (by assumption) ?wr5 ?_); (case wr5 => ((with_reducible (repeat first | exact Wr.head | apply Wr.tail | (apply Wr.of; assumption))))); intro _ _)))
  rename_i D q1 w1 q2 W1
  clear w1 W
  refine wpAny_execs_cons (ex_for ?_ ?_)
  · refine ev_local W1 .head (it_list W1 (hn.mono W1.keep) (fun it s3 W3 _ => ?_))
    refine for_loopC (fun k B' vs' os' => ∃ dv a b, vs' = [some (.ref nl), some (.ref D), a, b, none, none, none, none, none] ∧ os' = [(D, .list dv)] ∧ IntsAre dv (deedsOf (ns.take k)))
      (Steps.list hA'.handled hn) (fun _ => rfl) W3 ⟨[], none, none, rfl, rfl, .nil⟩ ?_ ?_
    · intro k QQ v B' vs' os' s' hQQ _ _ hk hv hB hφ W'
      obtain ⟨dv, a, b, rfl, rfl, hdv⟩ := hφ
      obtain ⟨m, tm, rfl, hm⟩ := ints_get hns hv
      replace hQQ := fun dv' a b B'' s3 hB (g : IntsAre dv' (deedsOf (ns.take (k + 1)))) W => (hQQ B'' [some (.ref nl), some (.ref D), a, b, none, none, none, none, none] [(D, .list dv')] s3 hB ⟨dv', a, b, rfl, rfl, g⟩ W).1
      refine wpAny_assign_Name (st_local W' (.tail (.tail .head)) (fun s4 W4 => ?_))
      clear W' W3 W1
      have hdl : dv.length ≤ 100 := by rw [ints_len hdv, deedsOf_len]; simp; (first | with_reducible assumption | exact Nat.le_of_ble_eq_true rfl | exact Nat.add_le_add_left (Nat.le_of_ble_eq_true rfl) _ | exact Nat.le_trans (by assumption) (Nat.le_of_ble_eq_true rfl) | exact Nat.lt_of_le_of_lt (by assumption) (Nat.le_of_ble_eq_true rfl) | exact Nat.le_trans (Nat.le_of_eq (by assumption)) (Nat.le_trans (by assumption) (Nat.le_of_ble_eq_true rfl)) | lia | omega)
      ((((with_reducible refine' asgs ?nc6 ?_); (case nc6 => rfl))); (with_reducible refine' wpAny_BinOp ?_); (((with_reducible refine' ev_local (by assumption) ?rd8 ?_); (case rd8 => ((with_reducible (repeat first | exact Rd.head | apply Rd.tail | (apply Rd.of; assumption))))))); (((with_reducible refine' c_int (by assumption) ?_); intro _ _ _)); (((with_reducible refine' w_mod (by assumption) ?nz10 ?_); (case nz10 => decide); intro _ _ _)); (((with_reducible refine' st_local (by assumption) ?wr11 ?_); (case wr11 => ((with_reducible (repeat first | exact Wr.head | apply Wr.tail | (apply Wr.of; assumption))))); intro _ _)))
      rename Wd _ _ _ _ _ _ _ _ _ => W4'
      refine ifs_joinC (fun s' => ∃ B5 b t5, Sub s.heap.get? B5 ∧ b = (if 1 < m.fmod 4 ∧ ((deedsOf (ns.take k)).filter fun d => decide (1 < d)).length = 4 then m.fmod 4 - 2 else m.fmod 4) ∧
          Wd w.params s s.heap.get? env [("numbers", .local), ("deeds", .local), ("number", .local), ("deed", .local), ("others", .local), ("place", .local), ("len", .globalImplicit), ("list", .globalImplicit), ("range", .globalImplicit)] B5 s'
            [some (.ref nl), some (.ref D), some (.int m tm), some (.int b t5), none, none, none, none, none] [(it, .liter nl (k + 1)), (D, .list dv)]) ?_ ?_
      · intro R hR
        replace hR := fun B5 b t5 s' x y z => hR s' ⟨B5, b, t5, x, y, z⟩
        clear hQQ
        ((with_reducible refine' PyProof.Rows.isTrue_and ?_); (((with_reducible refine' test1 ?nm13 ?_); (case nm13 => rfl))); (((with_reducible refine' ev_local (by assumption) ?rd14 ?_); (case rd14 => ((with_reducible (repeat first | exact Rd.head | apply Rd.tail | (apply Rd.of; assumption))))))); (((with_reducible refine' c_int (by assumption) ?_); intro _ _ _)); (with_reducible refine' w_gt ?_); (with_reducible refine' tr_bool ?_))
        split
        · rename_i hd1
          have hd1 : 1 < m.fmod 4 := by simpa using hd1
          ((with_reducible refine' PyProof.Rows.isTrue_and ?_); (((with_reducible refine' test1 ?nm19 ?_); (case nm19 => rfl))))
          rename Wd _ _ _ _ _ _ _ _ _ => W5
          refine call_b W5 (.tail (.tail (.tail (.tail (.tail (.tail .head)))))) .len ?_ ?_
          · rfl
          refine args_c ?_ ?_
          · rfl
          refine ev_comp (cl := []) ?_ rfl ?_ (ev_local W5 (.tail .head) ?_) ?_
          · exact closureFor_none (by decide)
          · decide
          · refine comp_plain (fun j _ ys => IntsAre ys (((deedsOf (ns.take k)).take j).filter fun d => decide (1 < d))) (vsx := fun v => [none, some v]) (cns := [(".0", .local), ("one", .local)]) hA'.handled W5 (W5.at (mem_t mem_h))
              ?_ rfl ?_ rfl ?_ ?_ (fun v => .tail .head) .nil ?_ ?_
            · (first | with_reducible assumption | exact Nat.le_of_ble_eq_true rfl | exact Nat.add_le_add_left (Nat.le_of_ble_eq_true rfl) _ | exact Nat.le_trans (by assumption) (Nat.le_of_ble_eq_true rfl) | exact Nat.lt_of_le_of_lt (by assumption) (Nat.le_of_ble_eq_true rfl) | exact Nat.le_trans (Nat.le_of_eq (by assumption)) (Nat.le_trans (by assumption) (Nat.le_of_ble_eq_true rfl)) | lia | omega)
            · decide
            · decide
            · decide
            · rintro j v cenv I D' B'' s'' ys hv' hφ' hys hB' - W2
              obtain ⟨d, td, rfl, hdd⟩ := ints_get hdv hv'
              have e : ((deedsOf (ns.take k)).take (j + 1)).filter (fun d => decide (1 < d)) = ((deedsOf (ns.take k)).take j).filter (fun d => decide (1 < d)) ++ (if 1 < d then [d] else []) := by
                rw [List.take_add_one, hdd, List.filter_append]
                simp [List.filter_cons]
              refine wpAny_tests_one ?_
              dsimp only at W2
              ((((with_reducible refine' test1 ?nm20 ?_); (case nm20 => rfl))); (((with_reducible refine' ev_local (by assumption) ?rd21 ?_); (case rd21 => ((with_reducible (repeat first | exact Rd.head | apply Rd.tail | (apply Rd.of; assumption))))))); (((with_reducible refine' c_int (by assumption) ?_); intro _ _ _)); (with_reducible refine' w_gt ?_); (with_reducible refine' tr_bool ?_))
              by_cases hdq : 1 < d
              · refine .inr ⟨by simpa using hdq, ?_⟩
                ((((with_reducible refine' ev_local (by assumption) ?rd25 ?_); (case rd25 => ((with_reducible (repeat first | exact Rd.head | apply Rd.tail | (apply Rd.of; assumption))))))))
                refine ⟨B'', _, hB', ?_, by assumption⟩
                show IntsAre _ _
                rw [e, if_pos hdq]
                exact ints_snoc hφ' _ _
              · refine .inl ⟨by simpa using hdq, B'', _, hB', ?_, by assumption⟩
                show IntsAre _ _
                rw [e, if_neg hdq, List.append_nil]
                exact hφ'
            · intro D2 s2 B2' B3 zs hφ2 hB3 hn3 W3
              rw [ints_len hdv, List.take_of_length_le (Nat.le_refl _)] at hφ2
              refine args_nil (l_len W3 (W3.at mem_h) ?_ (fun t4 s5 W6 => ?_))
              · rw [ints_len hφ2]
                have := List.length_filter_le (fun d => decide (1 < d)) (deedsOf (ns.take k))
                rw [deedsOf_len] at this
                simp at this
                (first | with_reducible assumption | exact Nat.le_of_ble_eq_true rfl | exact Nat.add_le_add_left (Nat.le_of_ble_eq_true rfl) _ | exact Nat.le_trans (by assumption) (Nat.le_of_ble_eq_true rfl) | exact Nat.lt_of_le_of_lt (by assumption) (Nat.le_of_ble_eq_true rfl) | exact Nat.le_trans (Nat.le_of_eq (by assumption)) (Nat.le_trans (by assumption) (Nat.le_of_ble_eq_true rfl)) | lia | omega)
              · have W7 := W6.drop (List.sublist_cons_self _ _)
                clear W6 W5 W4 W4'
                ((((with_reducible refine' c_int (by assumption) ?_); intro _ _ _)); (with_reducible refine' w_eq ?_); (with_reducible refine' tr_bool ?_))
                have hzl : zs.length = ((deedsOf (ns.take k)).filter fun d => decide (1 < d)).length := ints_len hφ2
                split
                · rename_i h4
                  have h4 : zs.length = 4 := by have : (zs.length : Int) = 4 := by simpa using h4
                                                (first | with_reducible assumption | exact Nat.le_of_ble_eq_true rfl | exact Nat.add_le_add_left (Nat.le_of_ble_eq_true rfl) _ | exact Nat.le_trans (by assumption) (Nat.le_of_ble_eq_true rfl) | exact Nat.lt_of_le_of_lt (by assumption) (Nat.le_of_ble_eq_true rfl) | exact Nat.le_trans (Nat.le_of_eq (by assumption)) (Nat.le_trans (by assumption) (Nat.le_of_ble_eq_true rfl)) | lia | omega)
                  ((with_reducible refine' PyProof.Rows.isTrue_and_nil ?_))
                  refine ⟨fun _ => ?_, fun e => nomatch e⟩
                  ((with_reducible refine' augs ?_); (((with_reducible refine' ld_local (by assumption) ?rd31 ?_); (case rd31 => ((with_reducible (repeat first | exact Rd.head | apply Rd.tail | (apply Rd.of; assumption))))))); (((with_reducible refine' c_int (by assumption) ?_); intro _ _ _)); (((with_reducible refine' w_isub (by assumption) ?_); intro _ _ _)); (((with_reducible refine' st_local (by assumption) ?wr34 ?_); (case wr34 => ((with_reducible (repeat first | exact Wr.head | apply Wr.tail | (apply Wr.of; assumption))))); intro _ _)))
                  exact wpAny_execs_nil ⟨rfl, hR _ _ _ _ (hB.trans hB3) (by rw [if_pos ⟨hd1, hzl ▸ h4⟩]) (by assumption)⟩
                · rename_i h4
                  have h4 : ¬ zs.length = 4 := fun e => h4 (by rw [e]; rfl)
                  exact ⟨fun e => (nomatch e), fun _ => hR _ _ _ _ (hB.trans hB3) (by rw [if_neg (fun e => h4 (hzl.trans e.2))]) (by assumption)⟩
          · intro _; rfl
        · rename_i hd1
          have hd1 : ¬ 1 < m.fmod 4 := by simpa using hd1
          refine ⟨fun e => (nomatch e), fun _ => hR _ _ _ _ hB (by rw [if_neg (fun e => hd1 e.1)]) (by assumption)⟩
      · rintro s5 ⟨B5, b5, t5, hB5, hb, W5⟩
        ((((with_reducible refine' exprs (by assumption) ?nc35 ?_); (case nc35 => rfl))); (((with_reducible refine' call_meth ?sd36 ?_); (case sd36 => rfl))); (((with_reducible refine' ev_local (by assumption) ?rd37 ?_); (case rd37 => ((with_reducible (repeat first | exact Rd.head | apply Rd.tail | (apply Rd.of; assumption))))))); (((with_reducible refine' gm_append (Wd.at (by assumption) ?mm38) ?_); (case mm38 => ((with_reducible (repeat first | exact mem_h | apply mem_t | (apply mem_of; assumption))))))); (((with_reducible refine' with_builtin ?sd39 ?_); (case sd39 => rfl))); (((with_reducible refine' args_c ?pa40 ?_); (case pa40 => rfl))); (((with_reducible refine' ev_local (by assumption) ?rd41 ?_); (case rd41 => ((with_reducible (repeat first | exact Rd.head | apply Rd.tail | (apply Rd.of; assumption))))))); (with_reducible refine' PyProof.Rows.args_nil ?_))
        rename Wd _ _ _ _ _ _ _ _ _ => W9
        refine l_append W9 (.tail .head) ?_ (fun s10 W10 => ⟨rfl, ?_⟩)
        · rw [sizeLine_eq]; (first | with_reducible assumption | exact Nat.le_of_ble_eq_true rfl | exact Nat.add_le_add_left (Nat.le_of_ble_eq_true rfl) _ | exact Nat.le_trans (by assumption) (Nat.le_of_ble_eq_true rfl) | exact Nat.lt_of_le_of_lt (by assumption) (Nat.le_of_ble_eq_true rfl) | exact Nat.le_trans (Nat.le_of_eq (by assumption)) (Nat.le_trans (by assumption) (Nat.le_of_ble_eq_true rfl)) | lia | omega)
        refine wpAny_execs_nil (hQQ _ _ _ _ _ hB5 ?_ W10)
        rw [deedsOf_succ hm, stepD, ← hb]
        exact ints_snoc hdv _ _
    · rintro B' vs' os' s' hB ⟨dv, a, b, rfl, rfl, hdv⟩ W'
      rw [ints_len hns, List.take_of_length_le (Nat.le_refl _)] at hdv
      have hdl : dv.length = ns.length := by rw [ints_len hdv, deedsOf_len]
      clear W1 W3
      show wpAny _ _ _ _ _ _
      refine asgs ?_ ?_
      · rfl
      refine call_t W' (.tail (.tail (.tail (.tail (.tail (.tail (.tail .head))))))) .list ?_ ?_
      · rfl
      ((((with_reducible refine' args_c ?pa43 ?_); (case pa43 => rfl))); (((with_reducible refine' ev_local (by assumption) ?rd44 ?_); (case rd44 => ((with_reducible (repeat first | exact Rd.head | apply Rd.tail | (apply Rd.of; assumption))))))); (with_reducible refine' PyProof.Rows.args_nil ?_))
      refine l_copy W' (W'.at mem_h) (by (first | with_reducible assumption | exact Nat.le_of_ble_eq_true rfl | exact Nat.add_le_add_left (Nat.le_of_ble_eq_true rfl) _ | exact Nat.le_trans (by assumption) (Nat.le_of_ble_eq_true rfl) | exact Nat.lt_of_le_of_lt (by assumption) (Nat.le_of_ble_eq_true rfl) | exact Nat.le_trans (Nat.le_of_eq (by assumption)) (Nat.le_trans (by assumption) (Nat.le_of_ble_eq_true rfl)) | lia | omega)) (fun O s4 W4 => ?_)
      ((((with_reducible refine' st_local (by assumption) ?wr46 ?_); (case wr46 => ((with_reducible (repeat first | exact Wr.head | apply Wr.tail | (apply Wr.of; assumption))))); intro _ _)))
      rename Wd _ _ _ _ _ _ _ _ _ => W5
      refine wpAny_execs_cons (ex_for ?_ ?_)
      · refine call_t W5 (.tail (.tail (.tail (.tail (.tail (.tail (.tail (.tail .head)))))))) .range ?_ ?_
        · rfl
        ((((with_reducible refine' args_c ?pa47 ?_); (case pa47 => rfl))); (((with_reducible refine' c_int (by assumption) ?_); intro _ _ _)); (((with_reducible refine' args_c ?pa49 ?_); (case pa49 => rfl))))
        rename Wd _ _ _ _ _ _ _ _ _ => W6
        refine call_b W6 (.tail (.tail (.tail (.tail (.tail (.tail .head)))))) .len ?_ ?_
        · rfl
        ((((with_reducible refine' args_c ?pa50 ?_); (case pa50 => rfl))); (((with_reducible refine' ev_local (by assumption) ?rd51 ?_); (case rd51 => ((with_reducible (repeat first | exact Rd.head | apply Rd.tail | (apply Rd.of; assumption))))))); (with_reducible refine' PyProof.Rows.args_nil ?_))
        refine l_len W6 (hn.mono (W6.sub.trans W6.keep)) (by rw [ints_len hns]; (first | with_reducible assumption | exact Nat.le_of_ble_eq_true rfl | exact Nat.add_le_add_left (Nat.le_of_ble_eq_true rfl) _ | exact Nat.le_trans (by assumption) (Nat.le_of_ble_eq_true rfl) | exact Nat.lt_of_le_of_lt (by assumption) (Nat.le_of_ble_eq_true rfl) | exact Nat.le_trans (Nat.le_of_eq (by assumption)) (Nat.le_trans (by assumption) (Nat.le_of_ble_eq_true rfl)) | lia | omega)) (fun t7 s7 W7 => ?_)
        ((with_reducible refine' PyProof.Rows.args_nil ?_))
        rw [ints_len hns]
        refine r_range2 W7 (fun r t u v s8 W8 hr => ?_)
        refine it_range W8 hr (by (first | with_reducible assumption | exact Nat.le_of_ble_eq_true rfl | exact Nat.add_le_add_left (Nat.le_of_ble_eq_true rfl) _ | exact Nat.le_trans (by assumption) (Nat.le_of_ble_eq_true rfl) | exact Nat.lt_of_le_of_lt (by assumption) (Nat.le_of_ble_eq_true rfl) | exact Nat.le_trans (Nat.le_of_eq (by assumption)) (Nat.le_trans (by assumption) (Nat.le_of_ble_eq_true rfl)) | lia | omega)) (by (first | with_reducible assumption | exact Nat.le_of_ble_eq_true rfl | exact Nat.add_le_add_left (Nat.le_of_ble_eq_true rfl) _ | exact Nat.le_trans (by assumption) (Nat.le_of_ble_eq_true rfl) | exact Nat.lt_of_le_of_lt (by assumption) (Nat.le_of_ble_eq_true rfl) | exact Nat.le_trans (Nat.le_of_eq (by assumption)) (Nat.le_trans (by assumption) (Nat.le_of_ble_eq_true rfl)) | lia | omega)) (by (first | with_reducible assumption | exact Nat.le_of_ble_eq_true rfl | exact Nat.add_le_add_left (Nat.le_of_ble_eq_true rfl) _ | exact Nat.le_trans (by assumption) (Nat.le_of_ble_eq_true rfl) | exact Nat.lt_of_le_of_lt (by assumption) (Nat.le_of_ble_eq_true rfl) | exact Nat.le_trans (Nat.le_of_eq (by assumption)) (Nat.le_trans (by assumption) (Nat.le_of_ble_eq_true rfl)) | lia | omega)) (fun it2 s9 W9 => ?_)
        have eit : rgIt 1 ((ns.length : Int) - 1) = rgIt (1 + ((0 : Nat) : Int)) ((ns.length : Int) - 1 - ((0 : Nat) : Int)) := by simp
        rw [eit] at W9
        refine for_loopC (fun k B'' vs'' os'' => ∃ ov c, vs'' = [some (.ref nl), some (.ref D), a, b, some (.ref O), c, none, none, none] ∧ os'' = [(O, .list ov), (D, .list dv)] ∧ IntsAre ov (othersTo ns (deedsOf ns) k))
          (Steps.range (a := 1) (b := ns.length) hA'.handled (by (first | with_reducible assumption | exact Nat.le_of_ble_eq_true rfl | exact Nat.add_le_add_left (Nat.le_of_ble_eq_true rfl) _ | exact Nat.le_trans (by assumption) (Nat.le_of_ble_eq_true rfl) | exact Nat.lt_of_le_of_lt (by assumption) (Nat.le_of_ble_eq_true rfl) | exact Nat.le_trans (Nat.le_of_eq (by assumption)) (Nat.le_trans (by assumption) (Nat.le_of_ble_eq_true rfl)) | lia | omega))) (fun _ => rfl) W9 ⟨dv, none, rfl, rfl, hdv⟩ ?_ ?_
        · intro k QQ v B'' vs'' os'' s10 hQQ _ _ hk hv hB' hφ W10
          obtain ⟨tk, rfl⟩ := hv
          obtain ⟨ov, c, rfl, rfl, hov⟩ := hφ
          replace hQQ := fun ov' c B3 s3 hB (g : IntsAre ov' (othersTo ns (deedsOf ns) (k + 1))) W => (hQQ B3 [some (.ref nl), some (.ref D), a, b, some (.ref O), c, none, none, none] [(O, .list ov'), (D, .list dv)] s3 hB ⟨ov', c, rfl, rfl, g⟩ W).1
          have hkl : k + 1 < ns.length := by (first | with_reducible assumption | exact Nat.le_of_ble_eq_true rfl | exact Nat.add_le_add_left (Nat.le_of_ble_eq_true rfl) _ | exact Nat.le_trans (by assumption) (Nat.le_of_ble_eq_true rfl) | exact Nat.lt_of_le_of_lt (by assumption) (Nat.le_of_ble_eq_true rfl) | exact Nat.le_trans (Nat.le_of_eq (by assumption)) (Nat.le_trans (by assumption) (Nat.le_of_ble_eq_true rfl)) | lia | omega)
          have hovl : ov.length = ns.length := by rw [ints_len hov, othersTo_len, deedsOf_len]
          refine wpAny_assign_Name (st_local W10 (.tail (.tail (.tail (.tail (.tail .head))))) (fun s11 W11 => ?_))
          clear W4 W5 W6 W7 W8 W9 W10 W'
          obtain ⟨m, hm⟩ : ∃ m, ns[k + 1]? = some m := ⟨ns[k + 1], by simp⟩
          obtain ⟨tm, htm⟩ := ints_at hns hm
          have hp : ((1 : Int) + (k : Int)).toNat = k + 1 := by (first | with_reducible assumption | exact Nat.le_of_ble_eq_true rfl | exact Nat.add_le_add_left (Nat.le_of_ble_eq_true rfl) _ | exact Nat.le_trans (by assumption) (Nat.le_of_ble_eq_true rfl) | exact Nat.lt_of_le_of_lt (by assumption) (Nat.le_of_ble_eq_true rfl) | exact Nat.le_trans (Nat.le_of_eq (by assumption)) (Nat.le_trans (by assumption) (Nat.le_of_ble_eq_true rfl)) | lia | omega)
          have hp' : ((1 : Int) + (k : Int) - 1).toNat = k := by (first | with_reducible assumption | exact Nat.le_of_ble_eq_true rfl | exact Nat.add_le_add_left (Nat.le_of_ble_eq_true rfl) _ | exact Nat.le_trans (by assumption) (Nat.le_of_ble_eq_true rfl) | exact Nat.lt_of_le_of_lt (by assumption) (Nat.le_of_ble_eq_true rfl) | exact Nat.le_trans (Nat.le_of_eq (by assumption)) (Nat.le_trans (by assumption) (Nat.le_of_ble_eq_true rfl)) | lia | omega)
          ((with_reducible refine' ifs ?_); (((with_reducible refine' test1 ?nm55 ?_); (case nm55 => rfl))); (with_reducible refine' wpAny_BinOp ?_); (with_reducible refine' wpAny_BinOp ?_); (with_reducible refine' Subscript_ ?_); (((with_reducible refine' ev_local (by assumption) ?rd59 ?_); (case rd59 => ((with_reducible (repeat first | exact Rd.head | apply Rd.tail | (apply Rd.of; assumption))))))); (((with_reducible refine' ev_local (by assumption) ?rd60 ?_); (case rd60 => ((with_reducible (repeat first | exact Rd.head | apply Rd.tail | (apply Rd.of; assumption))))))))
          refine sub_list rfl (hn.mono (W11.sub.trans W11.keep)) (by (first | with_reducible assumption | exact Nat.le_of_ble_eq_true rfl | exact Nat.add_le_add_left (Nat.le_of_ble_eq_true rfl) _ | exact Nat.le_trans (by assumption) (Nat.le_of_ble_eq_true rfl) | exact Nat.lt_of_le_of_lt (by assumption) (Nat.le_of_ble_eq_true rfl) | exact Nat.le_trans (Nat.le_of_eq (by assumption)) (Nat.le_trans (by assumption) (Nat.le_of_ble_eq_true rfl)) | lia | omega)) (by (first | with_reducible assumption | exact Nat.le_of_ble_eq_true rfl | exact Nat.add_le_add_left (Nat.le_of_ble_eq_true rfl) _ | exact Nat.le_trans (by assumption) (Nat.le_of_ble_eq_true rfl) | exact Nat.lt_of_le_of_lt (by assumption) (Nat.le_of_ble_eq_true rfl) | exact Nat.le_trans (Nat.le_of_eq (by assumption)) (Nat.le_trans (by assumption) (Nat.le_of_ble_eq_true rfl)) | lia | omega)) (by rw [hp]; exact htm) ?_
          ((((with_reducible refine' c_int (by assumption) ?_); intro _ _ _)); (((with_reducible refine' w_div (by assumption) ?nz62 ?_); (case nz62 => decide); intro _ _ _)); (((with_reducible refine' c_int (by assumption) ?_); intro _ _ _)); (((with_reducible refine' w_mod (by assumption) ?nz64 ?_); (case nz64 => decide); intro _ _ _)); (((with_reducible refine' c_int (by assumption) ?_); intro _ _ _)); (with_reducible refine' w_eq ?_); (with_reducible refine' tr_bool ?_))
          have hg : ns.getD (k + 1) 0 = m := by simp [List.getD, hm]
          split
          · rename_i hc1
            have hc1 : (m.fdiv 4).fmod 2 = 1 := by simpa using hc1
            obtain ⟨p, hpv⟩ : ∃ p, (othersTo ns (deedsOf ns) k)[k + 1]? = some p := ⟨(othersTo ns (deedsOf ns) k)[k + 1]'(by rw [othersTo_len, deedsOf_len]; (first | with_reducible assumption | exact Nat.le_of_ble_eq_true rfl | exact Nat.add_le_add_left (Nat.le_of_ble_eq_true rfl) _ | exact Nat.le_trans (by assumption) (Nat.le_of_ble_eq_true rfl) | exact Nat.lt_of_le_of_lt (by assumption) (Nat.le_of_ble_eq_true rfl) | exact Nat.le_trans (Nat.le_of_eq (by assumption)) (Nat.le_trans (by assumption) (Nat.le_of_ble_eq_true rfl)) | lia | omega)), by simp⟩
            obtain ⟨q, hqv⟩ : ∃ q, (othersTo ns (deedsOf ns) k)[k]? = some q := ⟨(othersTo ns (deedsOf ns) k)[k]'(by rw [othersTo_len, deedsOf_len]; (first | with_reducible assumption | exact Nat.le_of_ble_eq_true rfl | exact Nat.add_le_add_left (Nat.le_of_ble_eq_true rfl) _ | exact Nat.le_trans (by assumption) (Nat.le_of_ble_eq_true rfl) | exact Nat.lt_of_le_of_lt (by assumption) (Nat.le_of_ble_eq_true rfl) | exact Nat.le_trans (Nat.le_of_eq (by assumption)) (Nat.le_trans (by assumption) (Nat.le_of_ble_eq_true rfl)) | lia | omega)), by simp⟩
            obtain ⟨tp, htp⟩ := ints_at hov hpv
            obtain ⟨tq, htq⟩ := ints_at hov hqv
            rename Wd _ _ _ _ _ _ _ _ _ => W12
            refine swap_asg hA'.handled ?_ W12 ?_
            · rfl
            ((with_reducible refine' PyProof.Rows.Tuple_ ?_); (((with_reducible refine' args_c ?pa69 ?_); (case pa69 => rfl))); (with_reducible refine' Subscript_ ?_); (((with_reducible refine' ev_local (by assumption) ?rd71 ?_); (case rd71 => ((with_reducible (repeat first | exact Rd.head | apply Rd.tail | (apply Rd.of; assumption))))))); (((with_reducible refine' ev_local (by assumption) ?rd72 ?_); (case rd72 => ((with_reducible (repeat first | exact Rd.head | apply Rd.tail | (apply Rd.of; assumption))))))))
            refine sub_list rfl (W12.at (mem_t mem_h)) (by (first | with_reducible assumption | exact Nat.le_of_ble_eq_true rfl | exact Nat.add_le_add_left (Nat.le_of_ble_eq_true rfl) _ | exact Nat.le_trans (by assumption) (Nat.le_of_ble_eq_true rfl) | exact Nat.lt_of_le_of_lt (by assumption) (Nat.le_of_ble_eq_true rfl) | exact Nat.le_trans (Nat.le_of_eq (by assumption)) (Nat.le_trans (by assumption) (Nat.le_of_ble_eq_true rfl)) | lia | omega)) (by (first | with_reducible assumption | exact Nat.le_of_ble_eq_true rfl | exact Nat.add_le_add_left (Nat.le_of_ble_eq_true rfl) _ | exact Nat.le_trans (by assumption) (Nat.le_of_ble_eq_true rfl) | exact Nat.lt_of_le_of_lt (by assumption) (Nat.le_of_ble_eq_true rfl) | exact Nat.le_trans (Nat.le_of_eq (by assumption)) (Nat.le_trans (by assumption) (Nat.le_of_ble_eq_true rfl)) | lia | omega)) (by rw [hp]; exact htp) ?_
            ((((with_reducible refine' args_c ?pa73 ?_); (case pa73 => rfl))); (with_reducible refine' Subscript_ ?_); (((with_reducible refine' ev_local (by assumption) ?rd75 ?_); (case rd75 => ((with_reducible (repeat first | exact Rd.head | apply Rd.tail | (apply Rd.of; assumption))))))); (with_reducible refine' wpAny_BinOp ?_); (((with_reducible refine' ev_local (by assumption) ?rd77 ?_); (case rd77 => ((with_reducible (repeat first | exact Rd.head | apply Rd.tail | (apply Rd.of; assumption))))))); (((with_reducible refine' c_int (by assumption) ?_); intro _ _ _)); (((with_reducible refine' w_sub (by assumption) ?_); intro _ _ _)))
            rename Wd _ _ _ _ _ _ _ _ _ => W13
            refine sub_list rfl (W13.at (mem_t mem_h)) (by (first | with_reducible assumption | exact Nat.le_of_ble_eq_true rfl | exact Nat.add_le_add_left (Nat.le_of_ble_eq_true rfl) _ | exact Nat.le_trans (by assumption) (Nat.le_of_ble_eq_true rfl) | exact Nat.lt_of_le_of_lt (by assumption) (Nat.le_of_ble_eq_true rfl) | exact Nat.le_trans (Nat.le_of_eq (by assumption)) (Nat.le_trans (by assumption) (Nat.le_of_ble_eq_true rfl)) | lia | omega)) (by (first | with_reducible assumption | exact Nat.le_of_ble_eq_true rfl | exact Nat.add_le_add_left (Nat.le_of_ble_eq_true rfl) _ | exact Nat.le_trans (by assumption) (Nat.le_of_ble_eq_true rfl) | exact Nat.lt_of_le_of_lt (by assumption) (Nat.le_of_ble_eq_true rfl) | exact Nat.le_trans (Nat.le_of_eq (by assumption)) (Nat.le_trans (by assumption) (Nat.le_of_ble_eq_true rfl)) | lia | omega)) (by rw [hp']; exact htq) ?_
            ((with_reducible refine' PyProof.Rows.args_nil ?_))
            refine new_tuple W13 (show 2 ≤ sizeLine by decide) (fun T s14 W14 => ⟨T, _, _, rfl, W14.at mem_h, fun s15 hk15 => ?_⟩)
            have W15 := (W14.keeps hk15).drop (List.sublist_cons_self _ _)
            clear W11 W12 W13 W14
            refine as_sub ?_
            ((((with_reducible refine' ev_local (by assumption) ?rd81 ?_); (case rd81 => ((with_reducible (repeat first | exact Rd.head | apply Rd.tail | (apply Rd.of; assumption))))))); (with_reducible refine' wpAny_BinOp ?_); (((with_reducible refine' ev_local (by assumption) ?rd83 ?_); (case rd83 => ((with_reducible (repeat first | exact Rd.head | apply Rd.tail | (apply Rd.of; assumption))))))); (((with_reducible refine' c_int (by assumption) ?_); intro _ _ _)); (((with_reducible refine' w_sub (by assumption) ?_); intro _ _ _)))
            rename Wd _ _ _ _ _ _ _ _ _ => W16
            refine l_set W16 (.tail .head) (by (first | with_reducible assumption | exact Nat.le_of_ble_eq_true rfl | exact Nat.add_le_add_left (Nat.le_of_ble_eq_true rfl) _ | exact Nat.le_trans (by assumption) (Nat.le_of_ble_eq_true rfl) | exact Nat.lt_of_le_of_lt (by assumption) (Nat.le_of_ble_eq_true rfl) | exact Nat.le_trans (Nat.le_of_eq (by assumption)) (Nat.le_trans (by assumption) (Nat.le_of_ble_eq_true rfl)) | lia | omega)) (by (first | with_reducible assumption | exact Nat.le_of_ble_eq_true rfl | exact Nat.add_le_add_left (Nat.le_of_ble_eq_true rfl) _ | exact Nat.le_trans (by assumption) (Nat.le_of_ble_eq_true rfl) | exact Nat.lt_of_le_of_lt (by assumption) (Nat.le_of_ble_eq_true rfl) | exact Nat.le_trans (Nat.le_of_eq (by assumption)) (Nat.le_trans (by assumption) (Nat.le_of_ble_eq_true rfl)) | lia | omega)) (by (first | with_reducible assumption | exact Nat.le_of_ble_eq_true rfl | exact Nat.add_le_add_left (Nat.le_of_ble_eq_true rfl) _ | exact Nat.le_trans (by assumption) (Nat.le_of_ble_eq_true rfl) | exact Nat.lt_of_le_of_lt (by assumption) (Nat.le_of_ble_eq_true rfl) | exact Nat.le_trans (Nat.le_of_eq (by assumption)) (Nat.le_trans (by assumption) (Nat.le_of_ble_eq_true rfl)) | lia | omega)) (fun s17 W17 => ?_)
            refine as_sub ?_
            ((((with_reducible refine' ev_local (by assumption) ?rd86 ?_); (case rd86 => ((with_reducible (repeat first | exact Rd.head | apply Rd.tail | (apply Rd.of; assumption))))))); (((with_reducible refine' ev_local (by assumption) ?rd87 ?_); (case rd87 => ((with_reducible (repeat first | exact Rd.head | apply Rd.tail | (apply Rd.of; assumption))))))))
            refine l_set W17 (.tail .head) (by (first | with_reducible assumption | exact Nat.le_of_ble_eq_true rfl | exact Nat.add_le_add_left (Nat.le_of_ble_eq_true rfl) _ | exact Nat.le_trans (by assumption) (Nat.le_of_ble_eq_true rfl) | exact Nat.lt_of_le_of_lt (by assumption) (Nat.le_of_ble_eq_true rfl) | exact Nat.le_trans (Nat.le_of_eq (by assumption)) (Nat.le_trans (by assumption) (Nat.le_of_ble_eq_true rfl)) | lia | omega)) (by simp; (first | with_reducible assumption | exact Nat.le_of_ble_eq_true rfl | exact Nat.add_le_add_left (Nat.le_of_ble_eq_true rfl) _ | exact Nat.le_trans (by assumption) (Nat.le_of_ble_eq_true rfl) | exact Nat.lt_of_le_of_lt (by assumption) (Nat.le_of_ble_eq_true rfl) | exact Nat.le_trans (Nat.le_of_eq (by assumption)) (Nat.le_trans (by assumption) (Nat.le_of_ble_eq_true rfl)) | lia | omega)) (by simp; (first | with_reducible assumption | exact Nat.le_of_ble_eq_true rfl | exact Nat.add_le_add_left (Nat.le_of_ble_eq_true rfl) _ | exact Nat.le_trans (by assumption) (Nat.le_of_ble_eq_true rfl) | exact Nat.lt_of_le_of_lt (by assumption) (Nat.le_of_ble_eq_true rfl) | exact Nat.le_trans (Nat.le_of_eq (by assumption)) (Nat.le_trans (by assumption) (Nat.le_of_ble_eq_true rfl)) | lia | omega)) (fun s18 W18 => ?_)
            refine wpAny_execs_nil ?_
            refine wpAny_execs_nil (hQQ _ _ _ _ hB' ?_ W18)
            rw [hp, hp', othersTo_succ, stepO, hg, if_pos hc1]
            have e1 : (othersTo ns (deedsOf ns) k).getD (k + 1) 0 = p := by simp [List.getD, hpv]
            have e2 : (othersTo ns (deedsOf ns) k).getD (k + 1 - 1) 0 = q := by simp [List.getD, hqv]
            rw [e1, e2]
            exact ints_set (ints_set hov _ _ _) _ _ _
          · rename_i hc1
            have hc1 : ¬ (m.fdiv 4).fmod 2 = 1 := by simpa using hc1
            refine wpAny_execs_nil ?_
            refine wpAny_execs_nil (hQQ ov _ _ _ hB' ?_ (by assumption))
            rw [othersTo_succ, stepO, hg, if_neg hc1]
            exact hov
        · rintro B'' vs'' os'' s10 hB' ⟨ov, c, rfl, rfl, hov⟩ W10
          show wpAny _ _ _ _ _ _
          ((with_reducible refine' rets ?_); (with_reducible refine' PyProof.Rows.List_ ?_); (((with_reducible refine' args_c ?pa90 ?_); (case pa90 => rfl))); (((with_reducible refine' ev_local (by assumption) ?rd91 ?_); (case rd91 => ((with_reducible (repeat first | exact Rd.head | apply Rd.tail | (apply Rd.of; assumption))))))); (((with_reducible refine' args_c ?pa92 ?_); (case pa92 => rfl))); (((with_reducible refine' ev_local (by assumption) ?rd93 ?_); (case rd93 => ((with_reducible (repeat first | exact Rd.head | apply Rd.tail | (apply Rd.of; assumption))))))); (with_reducible refine' PyProof.Rows.args_nil ?_); (((with_reducible refine' new_list (by assumption) ?sz95 ?_); (case sz95 => exact Nat.le_of_ble_eq_true rfl); intro _ _ _)))
          rename Wd _ _ _ _ _ _ _ _ _ => W11
          have e : ((ns.length : Int) - 1).toNat = ns.length - 1 := by (first | with_reducible assumption | exact Nat.le_of_ble_eq_true rfl | exact Nat.add_le_add_left (Nat.le_of_ble_eq_true rfl) _ | exact Nat.le_trans (by assumption) (Nat.le_of_ble_eq_true rfl) | exact Nat.lt_of_le_of_lt (by assumption) (Nat.le_of_ble_eq_true rfl) | exact Nat.le_trans (Nat.le_of_eq (by assumption)) (Nat.le_trans (by assumption) (Nat.le_of_ble_eq_true rfl)) | lia | omega)
          rw [e] at hov
          have o1 := W11.own mem_h
          have o2 := W11.own (mem_t mem_h)
          have o3 := W11.own (mem_t (mem_t mem_h))
          exact h _ _ _ _ _ _ W11.done o1.1 o3.1 o2.1 o1.2 o3.2 hdv o2.2 hov
      · intro _; rfl
  · intro _; rfl
end
-- Ins
section
open PySem PySem.W PyProof.Rows
/-! ### what is known of the class -/
section
variable (P : Params)
theorem k_ga : findIn (hd.heap_39 P) (.ref 59) "__getattribute__" = some (some (.builtin "object.__getattribute__")) := by kernel_rfl
theorem k_g : findIn (hd.heap_39 P) (.ref 59) "__getattr__" = some none := by kernel_rfl
theorem k_sa : findIn (hd.heap_39 P) (.ref 59) "__setattr__" = some (some (.builtin "object.__setattr__")) := by kernel_rfl
theorem k_init : findIn (hd.heap_39 P) (.ref 59) "__init__" = some (some (.ref 35)) := by kernel_rfl
theorem k_rc : findIn (hd.heap_39 P) (.ref 59) "_read_char" = some (some (.ref 42)) := by kernel_rfl
theorem k_gt : findIn (hd.heap_39 P) (.ref 59) "get_token" = some (some (.ref 49)) := by kernel_rfl
theorem k_pt : findIn (hd.heap_39 P) (.ref 59) "push_token" = some (some (.ref 56)) := by kernel_rfl
theorem k_lineno : findIn (hd.heap_39 P) (.ref 59) "lineno" = some none := by kernel_rfl
theorem k_instream : findIn (hd.heap_39 P) (.ref 59) "instream" = some none := by kernel_rfl
theorem k_whitespace : findIn (hd.heap_39 P) (.ref 59) "whitespace" = some none := by kernel_rfl
theorem k_pushback : findIn (hd.heap_39 P) (.ref 59) "pushback" = some none := by kernel_rfl
theorem k_hasDict : hasDictIn (hd.heap_39 P) 59 = true := by kernel_rfl
theorem k_plain : plainOver (hd.heap_39 P) 59 = true := by kernel_rfl
theorem k_makes : makesIn (hd.heap_39 P) 59 = true := by kernel_rfl
theorem t_35 : typeIn (hd.heap_39 P) (.ref 35) = some (.type "function") := by kernel_rfl
theorem t_42 : typeIn (hd.heap_39 P) (.ref 42) = some (.type "function") := by kernel_rfl
theorem t_49 : typeIn (hd.heap_39 P) (.ref 49) = some (.type "function") := by kernel_rfl
theorem t_56 : typeIn (hd.heap_39 P) (.ref 56) = some (.type "function") := by kernel_rfl
end

theorem ns_look {o : Obj} {es : Array DictEntry} {ep : Nat} {m : Str → Option Value} {name : Str} (hd : o.data = .dict es ep) (hk : StrKeys es) (hm : ∀ n, nsFind es n = m n) : lookIn name o = some (m name) := by
  unfold lookIn
  rw [hd]
  dsimp only
  have h := hm name
  unfold nsFind findBy at h
  rw [← Array.find?_toList] at h
  have hr : es.toList.any (·.refKey) = false := by
    rw [List.any_eq_false]; intro e he
    obtain ⟨n, t, q⟩ := hk e (by simpa using he)
    simp [DictEntry.refKey, q]
  split
  · rename_i e he; rw [he] at h; rw [← h]; rfl
  · rename_i he; rw [he] at h; rw [hr, ← h]; rfl

/-! ### changes within told objects -/
structure Chg (X : List Addr) (s s' : Shared) : Prop where
  sub : Sub (hide X s.heap.get?) s'.heap.get?
  gens : s'.gens = s.gens
  drawn : s'.drawn = s.drawn
  osys : s'.os = s.os
theorem Chg.refl (X : List Addr) (s : Shared) : Chg X s s := ⟨hide_sub _ _, rfl, rfl, rfl⟩

section
variable {P : Params} {s₀ : Shared} {B₀ : G} {env : Env} {ns : List (Str × NameKind)} {B : G} {s : Shared} {vs : List (Option Value)} {os : List (Addr × AO)}

theorem Wd.hidden (W : Wd P s₀ B₀ env ns B s vs os) {X : List Addr} (hX : ∀ a ∈ X, a ∈ os.map Prod.fst) : Sub B (hide X s.heap.get?) := fun b o e => by
  unfold hide
  rw [if_neg (fun hb => by rw [W.fresh b (List.mem_cons_of_mem _ (hX b hb))] at e; cases e)]
  exact W.keep b o e

theorem Wd.chg {X X' : List (Addr × AO)} (W : Wd P s₀ B₀ env ns B s vs (X ++ os)) {s' : Shared} (c : Chg (X.map Prod.fst) s s') (hn : X'.map Prod.fst = X.map Prod.fst) (hX : ∀ p ∈ X', p.2.Is s'.heap.get? p.1) :
    Wd P s₀ B₀ env ns B s' vs (X' ++ os) := by
  have hL : env.locals ∉ X.map Prod.fst := fun h => (List.nodup_cons.mp W.apart).1 (by rw [List.map_append]; exact List.mem_append_left _ h)
  have names : (X' ++ os).map Prod.fst = (X ++ os).map Prod.fst := by rw [List.map_append, List.map_append, hn]
  refine { W with
    gens := c.gens.trans W.gens, drawn := c.drawn.trans W.drawn, osys := c.osys.trans W.osys
    keep := (W.hidden (X := X.map Prod.fst) (fun a ha => by rw [List.map_append]; exact List.mem_append_left _ ha)).trans c.sub
    loc := ?_
    objs := fun p hp => ?_
    apart := by rw [names]; exact W.apart
    fresh := by rw [names]; exact W.fresh }
  · obtain ⟨m, ⟨o, es, ep, e, r⟩, q⟩ := W.loc
    exact ⟨m, ⟨o, es, ep, c.sub _ _ (by unfold hide; rw [if_neg hL]; exact e), r⟩, q⟩
  · rcases List.mem_append.mp hp with hp | hp
    · exact hX p hp
    · have hne : p.1 ∉ X.map Prod.fst := fun h => by
        have := (List.nodup_cons.mp W.apart).2
        rw [List.map_append, List.nodup_append] at this
        exact this.2.2 _ h _ (List.mem_map.mpr ⟨_, hp, rfl⟩) rfl
      exact (W.objs p (List.mem_append_right _ hp)).at fun o e => c.sub _ _ (by unfold hide; rw [if_neg hne]; exact e)

theorem Wd.doneX {X : List Addr} {s' : Shared} (W : Wd P s (hide X s.heap.get?) env ns B s' vs os) : Chg X s s' := ⟨W.sub.trans W.keep, W.gens, W.drawn, W.osys⟩
end

section
variable {prog : Program} {w : World} {A : Around} {E : Value → Shared → Prop} {P : Params} {s : Shared}
noncomputable def RetR (Q : Value → Shared → Prop) (E : Value → Shared → Prop) : Result → Shared → Prop := fun r s' => match r with | .ok (.ret v) => Q v s' | .ok _ => False | .error e => E e s'
/-- the call of a def that changes the objects X -/
theorem code_fnM {f : Addr} {o : Obj} {fd : FuncData} {body : List Stmt} {args : List Value} {Q : Value → Shared → Prop} {n : Nat} {binds : List (Str × Value)} {X : List (Addr × AO)}
    (S : Stat P (hide (X.map Prod.fst) s.heap.get?)) (hXn : (X.map Prod.fst).Nodup) (hX : ∀ p ∈ X, p.2.Is s.heap.get? p.1)
    (hA : AOk A (n + 1)) (ho : s.heap.get? f = some o) (hd : o.data = .func fd) (hbody : fd.body = .stmts body)
    (hcode : s.heap.CodeRec fd.code fd.qualname) (hco : fd.scope.isCoroutine = false) (hgen : fd.scope.isGenerator = false) (hkind : fd.scope.kind = .function)
    (hglo : fd.globals = mainGlobals) (hblt : fd.builtins = builtinsNs) (hcell : ∀ x ∈ fd.scope.names, x.2 ≠ .cell)
    (hnd : (fd.scope.names.map Prod.fst).Nodup) (hdb : ∀ p ∈ fd.scope.names, (p.1 == ("__debug__" : Str)) = false)
    (hbind : bindArgs fd ⟨args, []⟩ = pure binds) (hl : (binds.all fun x => decide (fd.scope.names.lookup x.1 = some .local)) = true)
    (h : ∀ env L s₂, env = frameOf fd f L → Wd P s (hide (X.map Prod.fst) s.heap.get?) env fd.scope.names (hide (X.map Prod.fst) s.heap.get?) s₂ (fd.scope.names.map fun p => binds.reverse.lookup p.1) X → AOk (A.deeper env) n →
        wpAny (model prog w) (A.deeper env) (execs body env) (fun fl s' => Q (match fl with | .ret v => v | _ => .none) s') (fun _ _ => False) s₂) :
    codeAny (model prog w) A (.call (.ref f) ⟨args, []⟩) (RetR Q E) s := by
  refine codeAny_call_function (by have := hA.depth; (first | with_reducible assumption | exact Nat.le_of_ble_eq_true rfl | exact Nat.add_le_add_left (Nat.le_of_ble_eq_true rfl) _ | exact Nat.le_trans (by assumption) (Nat.le_of_ble_eq_true rfl) | exact Nat.lt_of_le_of_lt (by assumption) (Nat.le_of_ble_eq_true rfl) | exact Nat.le_trans (Nat.le_of_eq (by assumption)) (Nat.le_trans (by assumption) (Nat.le_of_ble_eq_true rfl)) | lia | omega)) ho hd hco hgen hbody hcode ?_
  rw [hbind]
  refine wpAny_pure ?_
  have nl : s.heap.NoLimit := let ⟨mc, a, b⟩ := S.nolimit; ⟨mc, a.mono (hide_sub _ _), b⟩
  refine wpAny_newFunctionEnv hcell (locs hl) (fun h' hns hsb => ⟨nl.fresh _ hsb, codeAny_func (wpAny_mono (h _ s.heap.objs.size _ rfl ?_ (hA.deeper _)) (fun fl s' z => z) fun _ _ x => x.elim)⟩) hkind
  have keep : Sub s.heap.get? h'.get? := fun b o e => hsb.extBut b o (Nat.ne_of_lt (Heap.lt_size e)) (Heap.get?_push_of_some _ e)
  have hLX : ∀ p ∈ X, p.1 < s.heap.objs.size := fun p hp => by obtain ⟨o, ho⟩ := (hX p hp).some; exact Heap.lt_size ho
  refine { names := rfl, kind := hkind, glo := hglo, blt := hblt, nd := hnd, nodebug := hdb, gens := rfl, drawn := rfl, osys := rfl, sub := .refl _, stat := S, keep := (hide_sub _ _).trans keep,
           loc := ⟨_, hns, ?_⟩, objs := fun p hp => (hX p hp).mono keep, apart := ?_, fresh := fun a ha => ?_ }
  · show LocIs _ fd.scope.names _
    generalize fd.scope.names = l
    induction l with
    | nil => unfold LocIs; trivial
    | cons p l ih => exact ⟨fun v e => e, ih⟩
  · refine List.nodup_cons.mpr ⟨fun hm => ?_, hXn⟩
    obtain ⟨p, hp, e⟩ := List.mem_map.mp hm
    exact absurd e (Nat.ne_of_lt (hLX p hp))
  · rcases List.mem_cons.mp ha with rfl | ha
    · show hide _ _ s.heap.objs.size = none
      cases e : hide (X.map Prod.fst) s.heap.get? s.heap.objs.size with
      | none => rfl
      | some o => exact absurd (Heap.lt_size (hide_sub _ _ _ _ e)) (Nat.lt_irrefl _)
    · unfold hide; rw [if_pos ha]
end

theorem AOk.in1 {A : Around} {n : Nat} (h : AOk A (n + 1)) : AOk A.in1 n := ⟨h.handled, by have := h.depth; show A.depth + n < _; (first | with_reducible assumption | exact Nat.le_of_ble_eq_true rfl | exact Nat.add_le_add_left (Nat.le_of_ble_eq_true rfl) _ | exact Nat.le_trans (by assumption) (Nat.le_of_ble_eq_true rfl) | exact Nat.lt_of_le_of_lt (by assumption) (Nat.le_of_ble_eq_true rfl) | exact Nat.le_trans (Nat.le_of_eq (by assumption)) (Nat.le_trans (by assumption) (Nat.le_of_ble_eq_true rfl)) | lia | omega), by have := h.units; show A.units + 1 + 20 * n < _; (first | with_reducible assumption | exact Nat.le_of_ble_eq_true rfl | exact Nat.add_le_add_left (Nat.le_of_ble_eq_true rfl) _ | exact Nat.le_trans (by assumption) (Nat.le_of_ble_eq_true rfl) | exact Nat.lt_of_le_of_lt (by assumption) (Nat.le_of_ble_eq_true rfl) | exact Nat.le_trans (Nat.le_of_eq (by assumption)) (Nat.le_trans (by assumption) (Nat.le_of_ble_eq_true rfl)) | lia | omega)⟩

/-! ### an object's own dict -/
section
variable {prog : Program} {w : World} {A : Around} {E : Value → Shared → Prop} {P : Params} {s : Shared}

theorem ns_put {M : Model} {a : Addr} {l l' : List (Str × Value)} {name : Str} {v : Value} {Q : Unit → Shared → Prop} (hn : (AO.ns l).Is s.heap.get? a)
    (hl : ∀ y, l'.lookup y = if y = name then some v else l.lookup y) (hz : ((l.lookup name).isSome = true ∧ l.length ≤ l'.length) ∨ l.length < l'.length)
    (h : ∀ h', (AO.ns l').Is h'.get? a → Heap.SameBut a s.heap h' → Q () { s with heap := h', toks := s.toks + 1 }) : wpAny M A (nsSet a name v) Q E s := by
  obtain ⟨o, es, ep, ho, hd, hk, hm, hs⟩ := hn
  unfold nsSet
  refine wpAny_bind (wpAny_bind (wpAny_askSetting (wpAny_pure (wpAny_bind (wpAny_mkText (wpAny_bind (wpAny_loadPart ho ?_)))))))
  rw [hd]
  dsimp only
  have c : (!es.any (·.key.isStr name) && es.any (·.refKey)) = false := by
    have : es.any (·.refKey) = false := by rw [Array.any_eq_false']; intro e he; obtain ⟨n, t, h⟩ := hk e he; simp [DictEntry.refKey, h]
    rw [this, Bool.and_false]
  rw [aRefKeyMayBeTheName_at, c]
  refine wpAny_updatePart ho ?_
  refine h _ ?_ (Heap.SameBut.update ..)
  obtain ⟨oc, od, dt, sl⟩ := o
  dsimp only at hd
  subst hd
  cases hi : es.findIdx? (·.key.isStr name) with
  | some i =>
    refine ⟨_, _, ep, Heap.get?_update_self _ ho (by simp only [Obj.putName_eq, Obj.putNameByArray, hi]; rfl), by simp only [Obj.putName_eq, Obj.putNameByArray, hi]; rfl, hk.modify _ _, fun x => ?_, ?_⟩
    · rw [hl, ← hm]; exact findBy_modify (fun n v => v.isStr n) Value.isStr_inj es name x v i hi
    · rw [Array.size_modify]; rcases hz with hz | hz <;> (first | with_reducible assumption | exact Nat.le_of_ble_eq_true rfl | exact Nat.add_le_add_left (Nat.le_of_ble_eq_true rfl) _ | exact Nat.le_trans (by assumption) (Nat.le_of_ble_eq_true rfl) | exact Nat.lt_of_le_of_lt (by assumption) (Nat.le_of_ble_eq_true rfl) | exact Nat.le_trans (Nat.le_of_eq (by assumption)) (Nat.le_trans (by assumption) (Nat.le_of_ble_eq_true rfl)) | lia | omega)
  | none =>
    refine ⟨_, _, ep + 1, Heap.get?_update_self _ ho (by simp only [Obj.putName_eq, Obj.putNameByArray, hi]; rfl), by simp only [Obj.putName_eq, Obj.putNameByArray, hi]; rfl, hk.push _ _ _ _, fun x => ?_, ?_⟩
    · rw [hl, ← hm]
      exact findBy_push (fun n v => v.isStr n) es name x _ _ v (fun y => by
        show (name == y) = decide (y = name)
        by_cases h : y = name
        · subst h; simp
        · have : ¬ name = y := fun e => h e.symm
          simp [h, this]) hi
    · rw [Array.size_push]
      rcases hz with hz | hz
      · exfalso
        have h0 := hm name
        unfold nsFind at h0
        rw [findBy_of_findIdx?, hi] at h0
        rw [← h0] at hz
        exact absurd hz.1 (by simp)
      · (first | with_reducible assumption | exact Nat.le_of_ble_eq_true rfl | exact Nat.add_le_add_left (Nat.le_of_ble_eq_true rfl) _ | exact Nat.le_trans (by assumption) (Nat.le_of_ble_eq_true rfl) | exact Nat.lt_of_le_of_lt (by assumption) (Nat.le_of_ble_eq_true rfl) | exact Nat.le_trans (Nat.le_of_eq (by assumption)) (Nat.le_trans (by assumption) (Nat.le_of_ble_eq_true rfl)) | lia | omega)

theorem ns_of {g : G} {a : Addr} {l : List (Str × Value)} (h : (AO.ns l).Is g a) : ∃ o : Obj, g a = some o ∧ (∀ name, lookIn name o = some (l.lookup name)) ∧ ∃ (es : Array DictEntry) (ep : Nat), o.data = Data.dict es ep ∧ es.size ≤ l.length :=
  let ⟨o, es, ep, ho, hd, hk, hm, hs⟩ := h; ⟨o, ho, fun name => ns_look hd hk hm, es, ep, hd, hs⟩

variable {s₀ : Shared} {B₀ : G} {env : Env} {ns : List (Str × NameKind)} {B : G} {vs : List (Option Value)} {os os' : List (Addr × AO)} {x d : Addr} {l l' : List (Str × Value)} {name : Str} {v : Value}

theorem Wd.inK (W : Wd P s₀ B₀ env ns B s vs os) : (hd.heap_39 P).In s.heap := fun a o e => W.keep _ _ (W.stat.K a o e)

theorem inst_at {h : Heap} {o : Obj} (hx : h.get? x = some (instObj 59 d)) (hd : h.get? d = some o) : InstAt h x (instObj 59 d) 59 (some o) := ⟨hx, rfl, rfl, hd⟩

theorem at_get {expr : Bool} {Q : Value → Shared → Prop} (W : Wd P s₀ B₀ env ns B s vs os) (hx : B x = some (instObj 59 d)) (hdd : (d, AO.ns l) ∈ os) (hf : findIn (hd.heap_39 P) (.ref 59) name = some none) (hv : l.lookup name = some v)
    (hh : handedIn v = true) (h : ∀ s', Wd P s₀ B₀ env ns B s' vs os → Q v s') : wpAny (model prog w) A (getAttr (.ref x) name expr) Q E s := by
  obtain ⟨o, ho, hl, _⟩ := ns_of (W.at hdd)
  exact get_value W.inK (inst_at (W.keep _ _ hx) ho) (k_ga P) (findObj_own (k_hasDict P) hf rfl ((hl name).trans (by rw [hv]))) hh (h _ (W.toks _))

theorem at_meth {f : Addr} {pl : Sem Bool} {Q : Value × List Value → Shared → Prop} (W : Wd P s₀ B₀ env ns B s vs os) (hx : B x = some (instObj 59 d)) (hdd : (d, AO.ns l) ∈ os) (hf : findIn (hd.heap_39 P) (.ref 59) name = some (some (.ref f)))
    (ht : typeIn (hd.heap_39 P) (.ref f) = some (.type "function")) (hv : l.lookup name = none) (h : Q (.ref f, [.ref x]) s) : wpAny (model prog w) A (getMethod (.ref x) name pl) Q E s := by
  obtain ⟨o, ho, hl, _⟩ := ns_of (W.at hdd)
  exact method_fn W.inK (inst_at (W.keep _ _ hx) ho) (k_ga P) (k_g P) hf ht (by unfold shadowIn; dsimp only; rw [hl name, hv]; rfl) h

theorem at_set {Q : Unit → Shared → Prop} (W : Wd P s₀ B₀ env ns B s vs os) (hx : B x = some (instObj 59 d)) (u : Upd d (.ns l) (.ns l') os os') (hf : findIn (hd.heap_39 P) (.ref 59) name = some none)
    (hl : ∀ y, l'.lookup y = if y = name then some v else l.lookup y) (hz : (((l.lookup name).isSome = true ∧ l.length ≤ l'.length) ∨ l.length < l'.length) ∧ l'.length ≤ 1000)
    (h : ∀ s', Wd P s₀ B₀ env ns B s' vs os' → Q () s') : wpAny (model prog w) A (setAttr (.ref x) name v) Q E s := by
  obtain ⟨o, ho, hlk, _⟩ := ns_of (W.at u.mem)
  refine set_plain W.inK (inst_at (W.keep _ _ hx) ho) (k_sa P) ?_
  have W' := W.toks (s.toks + 1)
  refine osa_open (r := none) W'.inK (inst_at (W'.keep _ _ hx) ho) (k_plain P) (by unfold takerIn; rw [hf]; rfl) fun b => ?_
  obtain ⟨cd, hc, hd'⟩ := any_some (k_hasDict P)
  refine wpAny_bind (wpAny_pure (wpAny_bind (wpAny_bind (wpAny_loadPart (W'.keep _ _ hx) (wpAny_bind ((looks_clsIn W'.inK hc).here ?_))))))
  rw [hd']
  refine wpAny_pure (a := some d) (wpAny_bind (wpAny_pure (wpAny_bind ?_)))
  refine ns_put (W'.at u.mem) hl hz.1 fun h' hn hs => ?_
  obtain ⟨o', ho', _, es, ep, hd2, hsz⟩ := ns_of hn
  refine wpAny_bind (wpAny_lookBehind ho' (by rw [hd2]; exact pastItsLine_dict (by rw [sizeLine_eq]; have := hz.2; (first | with_reducible assumption | exact Nat.le_of_ble_eq_true rfl | exact Nat.add_le_add_left (Nat.le_of_ble_eq_true rfl) _ | exact Nat.le_trans (by assumption) (Nat.le_of_ble_eq_true rfl) | exact Nat.lt_of_le_of_lt (by assumption) (Nat.le_of_ble_eq_true rfl) | exact Nat.le_trans (Nat.le_of_eq (by assumption)) (Nat.le_trans (by assumption) (Nat.le_of_ble_eq_true rfl)) | lia | omega))) ?_)
  exact wpAny_pure (h _ (W'.upd (t := _) u hn hs.extBut))
end
end
-- Lex
section
open PySem PySem.W PyProof.Rows PyProof.V PySem.SeqAt
section
variable {prog : Program} {w : World} {A : Around} {E : Value → Shared → Prop} {s : Shared} {env : Env} {x : Str} {t u : Tok}
variable {P : Params} {s₀ : Shared} {B₀ : G} {ns : List (Str × NameKind)} {B : G} {vs vs' : List (Option Value)} {os os' : List (Addr × AO)} {Q : Value → Shared → Prop}

theorem l_pop0 {D : Addr} {y : Value} {ys : List Value} (W : Wd P s₀ B₀ env ns B s vs os) (up : Upd D (.list (y :: ys)) (.list ys) os os') (hsz : ys.length + 1 ≤ sizeLine)
    (h : ∀ s', Wd P s₀ B₀ env ns B s' vs os' → Q y s') : wpAny (model prog w) A (call (.builtin "list.pop") [.ref D, .int 0 t]) Q E s := by
  obtain ⟨n, hD⟩ := (W.at up.mem).plainL
  refine call_meets PySem.F.slot_list_pop ⟨_, hD, rfl⟩ PySem.F.entry_list_pop (PySem.F.args_list_pop_2 _ _) (MeetsSeq.list_pop_at D (y :: ys).toArray n 0 t 0 y rfl ?_ rfl (by simpa using hsz)) ⟨hD, ?_⟩
  · unfold seqIndex?; simp
  have hx := hD.update (fun xs => xs.eraseIdxIfInBounds 0)
  have e : (y :: ys).toArray.eraseIdxIfInBounds 0 = ys.toArray := by simp [Array.eraseIdxIfInBounds]
  rw [e] at hx
  exact h _ (W.upd (t := s.toks) up ⟨_, hx⟩ (Heap.SameBut.update ..).extBut)

theorem readsAll_strs {h : Heap} : ∀ {vs : List Value} {ns : List Str}, StrsAre vs ns → ReadsAll h vs (ns.map PyData.str) []
  | _, _, .nil => .nil
  | _, _, .cons k t r => by
    have := ReadsAll.cons (Reads.str (h := h) k t) (readsAll_strs (h := h) r)
    simpa using this
theorem reads_list {h : Heap} {a : Addr} {vs : List Value} {xs : List PyData} {as : List Addr} (hl : (AO.list vs).Is h.get? a) (hr : ReadsAll h vs xs as) : Reads h (.ref a) (.list xs) (a :: as) := by
  obtain ⟨n, ho⟩ := hl
  exact Reads.list ho rfl rfl (by simpa using hr)

end

theorem canLayAll0_strs : ∀ {ns : List Str}, (∀ x ∈ ns, PyData.strOk x = true) → PyData.canLayAll0 (ns.map PyData.str) = true
  | [], _ => by simp [PyData.canLayAll0]
  | n :: r, h => by simp [PyData.canLayAll0, PyData.canLay0, h n (.head _), canLayAll0_strs (ns := r) fun x hx => h x (.tail _ hx)]
theorem depthAll_strs : ∀ ns : List Str, PyData.depthAll (ns.map PyData.str) ≤ 1
  | [] => by simp [PyData.depthAll]
  | n :: r => by
    have := depthAll_strs r
    simp only [List.map_cons, PyData.depthAll, PyData.depth]
    (first | with_reducible assumption | exact Nat.le_of_ble_eq_true rfl | exact Nat.add_le_add_left (Nat.le_of_ble_eq_true rfl) _ | exact Nat.le_trans (by assumption) (Nat.le_of_ble_eq_true rfl) | exact Nat.lt_of_le_of_lt (by assumption) (Nat.le_of_ble_eq_true rfl) | exact Nat.le_trans (Nat.le_of_eq (by assumption)) (Nat.le_trans (by assumption) (Nat.le_of_ble_eq_true rfl)) | lia | omega)
theorem shaped_strs {ns : List Str} (h : ∀ x ∈ ns, PyData.strOk x = true) : shaped (.list (ns.map PyData.str)) = true := by
  have h1 := depthAll_strs ns
  have h2 : PyData.depth (.list (ns.map PyData.str)) ≤ 64 := by simp only [PyData.depth]; (first | with_reducible assumption | exact Nat.le_of_ble_eq_true rfl | exact Nat.add_le_add_left (Nat.le_of_ble_eq_true rfl) _ | exact Nat.le_trans (by assumption) (Nat.le_of_ble_eq_true rfl) | exact Nat.lt_of_le_of_lt (by assumption) (Nat.le_of_ble_eq_true rfl) | exact Nat.le_trans (Nat.le_of_eq (by assumption)) (Nat.le_trans (by assumption) (Nat.le_of_ble_eq_true rfl)) | lia | omega)
  show (PyData.canLay0 (.list (ns.map PyData.str)) && decide (PyData.depth (.list (ns.map PyData.str)) ≤ 64)) = true
  rw [Bool.and_eq_true]
  exact ⟨by simp only [PyData.canLay0]; exact canLayAll0_strs h, decide_eq_true h2⟩
theorem ne_empty {prog : Program} {w : World} {A : Around} {E : Value → Shared → Prop} {s : Shared} {Q : Value → Shared → Prop} {l D : Addr} {vs : List Value} {ns : List Str} (hl : (AO.list vs).Is s.heap.get? l) (hvs : StrsAre vs ns) (hok : ∀ x ∈ ns, PyData.strOk x = true)
    (hD : (AO.list []).Is s.heap.get? D) (hu : A.units + 64 < cLine) (h : Q (.bool (!ns.isEmpty)) s) : wpAny (model prog w) A (compareOp .NotEq (.ref l) (.ref D)) Q E s := by
  refine ne_dataH_same (reads_list hl (readsAll_strs hvs)) (reads_list hD .nil) (shaped_strs hok) (shaped_strs (ns := []) (by simp)) hu ?_ ?_
  · cases ns <;> simp [SeqAt.noMix, SeqAt.noMixAll]
  · cases ns with
    | nil => simpa [PySem.Spec.same, PySem.Spec.sameAll] using h
    | cons n r => simpa [PySem.Spec.same, PySem.Spec.sameAll] using h

noncomputable def CodeG (g : G) (cd : Value) (q : Str) : Prop := ∃ c o vs t, cd = .ref c ∧ g c = some o ∧ o.data = .fields vs ∧ vs[1]? = some (.str q t)
theorem CodeG.mono {g g' : G} {cd : Value} {q : Str} (h : CodeG g cd q) (k : Sub g g') : CodeG g' cd q := let ⟨c, o, vs, t, e, a, r⟩ := h; ⟨c, o, vs, t, e, k _ _ a, r⟩
noncomputable def one (c : Nat) : Str := ⟨#[c]⟩
theorem one_ok {c : Nat} (h : c < 128) : PyData.strOk (one c) = true := by unfold PyData.strOk one; simp; (first | with_reducible assumption | exact Nat.le_of_ble_eq_true rfl | exact Nat.add_le_add_left (Nat.le_of_ble_eq_true rfl) _ | exact Nat.le_trans (by assumption) (Nat.le_of_ble_eq_true rfl) | exact Nat.lt_of_le_of_lt (by assumption) (Nat.le_of_ble_eq_true rfl) | exact Nat.le_trans (Nat.le_of_eq (by assumption)) (Nat.le_trans (by assumption) (Nat.le_of_ble_eq_true rfl)) | lia | omega)
noncomputable def headS : List Nat → Str
  | [] => ""
  | c :: _ => one c

/-- the inner def of the stream's def -/
noncomputable def readDef (P : Params) : Option (Arguments × List Stmt × Scope) := match (hd.heap_39 P).lookup 104 with
  | some o => (match o.data with
    | .func fd => (match fd.body with
      | .stmts (_ :: .FunctionDef _ params body _ _ _ scope _ _ _ :: _) => some (params, body, scope)
      | _ => none)
    | _ => none)
  | none => none

noncomputable def ReadAt (P : Params) (B : G) (rd sg : Addr) : Prop :=
  ∃ o fd body c, B rd = some o ∧ o.cls = .type "function" ∧ o.data = .func fd ∧ fd.body = .stmts body ∧ readDef P = some (fd.params, body, fd.scope) ∧ fd.globals = mainGlobals ∧ fd.builtins = builtinsNs ∧ fd.defaults = .none ∧
    fd.closure = [(Str.ofString "signs", c)] ∧ CodeG B fd.code fd.qualname ∧ (AO.cell (some (.ref sg))).Is B c
theorem ReadAt.mono {P : Params} {B B' : G} {rd sg : Addr} (h : ReadAt P B rd sg) (k : Sub B B') : ReadAt P B' rd sg :=
  let ⟨o, fd, body, c, e, r1, r2, r3, r4, r5, r6, r7, r8, r9, r10⟩ := h; ⟨o, fd, body, c, k _ _ e, r1, r2, r3, r4, r5, r6, r7, r8, r9.mono k, r10.mono k⟩


theorem read_spec {prog : Program} {w : World} {A : Around} {E : Value → Shared → Prop} {P : Params} {s : Shared} {Q : Value → Shared → Prop} {n : Nat} {rd sg : Addr} {vs : List Value} {cs : List Nat} {arg : Value}
    (S : Stat P (hide [sg] s.heap.get?)) (R : ReadAt P (hide [sg] s.heap.get?) rd sg) (hsg : (AO.list vs).Is s.heap.get? sg) (hvs : StrsAre vs (cs.map one)) (hcs : ∀ c ∈ cs, c < 128) (hlen : cs.length ≤ 100000) (hA : AOk A (n + 5))
    (hQ : ∀ t s' vs', Chg [sg] s s' → (AO.list vs').Is s'.heap.get? sg → StrsAre vs' (cs.tail.map one) → Q (.str (headS cs) t) s') : wpAny (model prog w) A (call (.ref rd) [arg]) Q E s := by
  obtain ⟨o, fd, body, c, ho, r1, r2, r3, r4, r5, r6, r7, r8, r9, r10⟩ := R
  obtain ⟨fname, fq, fparams, fbody, fscope, fglob, fclos, frest⟩ := fd
  dsimp only at r2 r3 r4 r5 r6 r7 r8 r9
  cases r4
  subst r3 r5 r6 r7 r8
  refine wpAny_call (code_fnM (Q := Q) (E := E) (n := n + 4) (X := [(sg, .list vs)]) S (by simp) (fun p hp => ?_) hA (hide_sub _ _ _ _ ho) r2 rfl (r9.mono (hide_sub _ _)) rfl rfl rfl rfl rfl (by dsimp only; decide) (by dsimp only; decide) (by dsimp only; decide) (bind1 rfl) rfl ?_)
  · rcases List.mem_cons.mp hp with rfl | hp
    · exact hsg
    · cases hp
  intro env L s₂ henv W hA'
  have hcl : env.cells.lookup (Str.ofString "signs") = some c := by subst henv; rfl
  clear henv r2
  replace W : Wd P s (hide [sg] s.heap.get?) env [(Str.ofString "size", .local), (Str.ofString "signs", .free)] (hide [sg] s.heap.get?) s₂ [some arg, none] [(sg, .list vs)] := W
  have hu : (A.deeper env).units + 64 < cLine := by have := hA'.units; (first | with_reducible assumption | exact Nat.le_of_ble_eq_true rfl | exact Nat.add_le_add_left (Nat.le_of_ble_eq_true rfl) _ | exact Nat.le_trans (by assumption) (Nat.le_of_ble_eq_true rfl) | exact Nat.lt_of_le_of_lt (by assumption) (Nat.le_of_ble_eq_true rfl) | exact Nat.le_trans (Nat.le_of_eq (by assumption)) (Nat.le_trans (by assumption) (Nat.le_of_ble_eq_true rfl)) | lia | omega)
  ((with_reducible refine' rets ?_))
  with_reducible refine' wpAny_IfExp ?_
  ((((with_reducible refine' test1 ?nm2 ?_); (case nm2 => rfl))))
  with_reducible refine' ev_free W ?_ hcl (r10.mono W.keep) ?_ rfl
  · ((with_reducible (repeat first | exact Kd.head | apply Kd.tail)))
  ((with_reducible refine' PyProof.Rows.List_ ?_))
  ((with_reducible refine' PyProof.Rows.args_nil ?_))
  ((((with_reducible refine' new_list (by assumption) ?sz5 ?_); (case sz5 => exact Nat.le_of_ble_eq_true rfl); intro _ _ _)))
  rename_i D s₃ W₃
  with_reducible refine' ne_empty (W₃.at (mem_t mem_h)) hvs ?_ (W₃.at mem_h) hu ?_
  · intro y hy
    obtain ⟨c, hc, rfl⟩ := List.mem_map.mp hy
    exact one_ok (hcs c hc)
  ((with_reducible refine' tr_bool ?_))
  cases cs with
  | nil =>
    rw [if_neg (by simp)]
    ((((with_reducible refine' c_str (by assumption) ?_); intro _ _ _)))
    rename_i t₄ s₄ W₄
    exact hQ _ _ _ W₄.doneX (W₄.at (mem_t mem_h)) hvs
  | cons k cs =>
    rw [if_pos (by simp)]
    rw [List.map_cons] at hvs
    cases hvs with
    | cons _ tk hvs =>
    ((((with_reducible refine' call_meth ?sd8 ?_); (case sd8 => rfl))))
    with_reducible refine' ev_free W₃ ?_ hcl (r10.mono W₃.keep) ?_ rfl
    · ((with_reducible (repeat first | exact Kd.head | apply Kd.tail)))
    with_reducible refine' gm_pop (W₃.at (mem_t mem_h)) ?_
    ((((with_reducible refine' with_builtin ?sd9 ?_); (case sd9 => rfl))))
    ((((with_reducible refine' args_c ?pa10 ?_); (case pa10 => rfl))))
    ((((with_reducible refine' c_int (by assumption) ?_); intro _ _ _)))
    ((with_reducible refine' PyProof.Rows.args_nil ?_))
    rename_i t₄ s₄ W₄
    show wpAny _ _ (call (.builtin "list.pop") [.ref sg, .int 0 t₄]) _ _ _
    with_reducible refine' l_pop0 W₄ (.tail .head) ?_ ?_
    · have := strs_len hvs
      rw [List.length_map] at this
      rw [sizeLine_eq]; simp only [List.length_cons] at hlen; (first | with_reducible assumption | exact Nat.le_of_ble_eq_true rfl | exact Nat.add_le_add_left (Nat.le_of_ble_eq_true rfl) _ | exact Nat.le_trans (by assumption) (Nat.le_of_ble_eq_true rfl) | exact Nat.lt_of_le_of_lt (by assumption) (Nat.le_of_ble_eq_true rfl) | exact Nat.le_trans (Nat.le_of_eq (by assumption)) (Nat.le_trans (by assumption) (Nat.le_of_ble_eq_true rfl)) | lia | omega)
    intro s₅ W₅
    exact hQ _ _ _ W₅.doneX (W₅.at (mem_t mem_h)) hvs
end
-- Fna
section
open PySem PySem.W PyProof.Rows PyProof.V PySem.SeqAt PySem.Builtin.ObjectAttr
/-! ### attributes of a function object -/
section
variable {prog : Program} {w : World} {A : Around} {E : Value → Shared → Prop} {P : Params} {s : Shared} {x d : Addr} {o od : Obj} {v : Value}
theorem f_ga : findIn (hd.heap_39 P) (.type "function") "__getattribute__" = some (some (.builtin "object.__getattribute__")) := by kernel_rfl
theorem f_g : findIn (hd.heap_39 P) (.type "function") "__getattr__" = some none := by kernel_rfl
theorem f_read : findIn (hd.heap_39 P) (.type "function") "read" = some none := by kernel_rfl
theorem f_sa : findIn (hd.heap_39 P) (.type "function") "__setattr__" = some (some (.builtin "object.__setattr__")) := by kernel_rfl

theorem slot_fga : Slot "function" "__getattribute__" "object.__getattribute__" :=
  .of (owner := "object") (n := "__getattribute__") (by rw [typeLookup_type, builtinLookup_eq_fast]; kernel_rfl) (by decide +kernel) (by decide +kernel) (by decide +kernel)
    (by first | exact .inl (by decide +kernel) | exact .inr (by decide +kernel)) (by rw [isSubtype_type]; kernel_rfl)

theorem fn_read {expr : Bool} {Q : Value → Shared → Prop} (X : (hd.heap_39 P).In s.heap) (ho : s.heap.get? x = some o) (hc : o.cls = .type "function") (hd : o.dict = some d) (hf : ∃ fd, o.data = .func fd)
    (hod : s.heap.get? d = some od) (hl : lookIn "read" od = some (some v)) (hh : handedIn v = true) (h : Q v { s with toks := s.toks + 1 }) : wpAny (model prog w) A (getAttr (.ref x) "read" expr) Q E s := by
  obtain ⟨hh', g, dr, t, os⟩ := s
  have L0 : Looks (model prog w) hh' (typeOf (.ref x)) (.type "function") := hc ▸ (Looks.ld ho).andThen .now
  have L1 := looks_findIn (M := model prog w) X (f_ga (P := P))
  have L2 := looks_findIn (M := model prog w) X (f_read (P := P))
  have L3 : Looks (model prog w) hh' (inOwnDict "read" (.ref x)) (some v) := by
    intro A Q E s k q
    obtain ⟨fd, hfd⟩ := hf
    refine wpAny_bind (wpAny_bind (wpAny_loadPart (k _ _ ho) ?_))
    rw [hfd]
    refine wpAny_bind (wpAny_loadPart (k _ _ ho) ?_)
    rw [hc, hd]
    refine wpAny_pure (a := some d) ?_
    refine wpAny_bind (wpAny_loadPart (k _ _ hod) ?_)
    rw [nsLook_of hl]; exact wpAny_pure q
  have LF : Looks (model prog w) hh' (find (.ref x) (.type "function") "read") (.value v) := L2.andThen (Looks.now.andThen (Looks.now.andThen (L3.andThen (Looks.tag .now))))
  unfold getAttr getAttrBy
  refine wpAny_bind (wpAny_mkText (wpAny_holding (wpAny_bind (L0.at (wpAny_bind (L1.at ?_))))))
  dsimp only
  rw [if_neg (by decide)]
  unfold getAttrByItsOwn
  refine wpAny_bind (wpAny_pure (wpAny_bind (wpAny_attempt (wpAny_holding ?_))))
  unfold callGetattribute
  rw [if_neg (by simp [onTheHeap])]
  unfold boundAndCalled
  rw [slot_fga.bind]
  refine wpAny_bind (wpAny_pure (wpAny_call ?_))
  refine codeAny_call_builtin slot_fga.plain F.entry_object_getattribute (slot_fga.check _ _ _ _ _ _ _ _ ⟨_, ho, hc⟩ (F.args_object_getattribute_2 _ _) ?_)
  refine wpAny_bind (wpAny_pure (wpAny_bind (wpAny_pure (wpAny_bind (L0.at (wpAny_bind (LF.at ?_)))))))
  refine wpAny_pure ?_
  show wpAny _ _ (handedOut v) _ _ _
  rw [handedOut_of hh]; exact wpAny_pure h

theorem fn_meth {pl : Sem Bool} {Q : Value × List Value → Shared → Prop} (X : (hd.heap_39 P).In s.heap) (ho : s.heap.get? x = some o) (hc : o.cls = .type "function") (hd : o.dict = some d) (hf : ∃ fd, o.data = .func fd)
    (hod : s.heap.get? d = some od) (hl : lookIn "read" od = some (some v)) (hh : handedIn v = true) (h : Q (v, []) { s with toks := s.toks + 1 }) : wpAny (model prog w) A (getMethod (.ref x) "read" pl) Q E s := by
  have L0 : Looks (model prog w) s.heap (typeOf (.ref x)) (.type "function") := hc ▸ (Looks.ld ho).andThen .now
  have hcan := PySem.F.canon_object_ga
  unfold getMethod specialOf
  refine wpAny_bind (wpAny_bind (L0.here ((looks_findIn X (f_ga (P := P))).here ?_)))
  dsimp only
  rw [hcan, if_neg (by decide)]
  refine wpAny_bind (wpAny_bind (L0.here ((looks_findIn X (f_g (P := P))).here ?_)))
  refine wpAny_bind (wpAny_bind (L0.here ((looks_findIn X (f_read (P := P))).here ?_)))
  exact wpAny_bind (fn_read X ho hc hd hf hod hl hh (wpAny_pure h))
end
end
-- Rch
section
open PySem PySem.W PyProof.Rows PyProof.V PySem.SeqAt
noncomputable def whiteS : Str := Str.ofString "\n\t\x0d "
noncomputable def lexL (n : Int) (t u : Tok) (st pb : Addr) : List (Str × Value) := [(Str.ofString "lineno", .int n t), (Str.ofString "instream", .ref st), (Str.ofString "whitespace", .str whiteS u), (Str.ofString "pushback", .ref pb)]
noncomputable def StreamAt (P : Params) (B : G) (st sg : Addr) : Prop :=
  ∃ o ds fd rd, B st = some o ∧ o.cls = .type "function" ∧ o.dict = some ds ∧ o.data = .func fd ∧ (AO.ns [(Str.ofString "read", .ref rd)]).Is B ds ∧ ReadAt P B rd sg
theorem StreamAt.mono {P : Params} {B B' : G} {st sg : Addr} (h : StreamAt P B st sg) (k : Sub B B') : StreamAt P B' st sg :=
  let ⟨o, ds, fd, rd, e, r1, r2, r3, r4, r5⟩ := h; ⟨o, ds, fd, rd, k _ _ e, r1, r2, r3, r4.mono k, r5.mono k⟩
noncomputable def LexAt (P : Params) (B : G) (x d st sg : Addr) : Prop := B x = some (instObj 59 d) ∧ StreamAt P B st sg
theorem LexAt.mono {P : Params} {B B' : G} {x d st sg : Addr} (h : LexAt P B x d st sg) (k : Sub B B') : LexAt P B' x d st sg := ⟨k _ _ h.1, h.2.mono k⟩
noncomputable def bump (cs : List Nat) : Int := if cs.head? = some 10 then 1 else 0

section
variable {prog : Program} {w : World} {A : Around} {E : Value → Shared → Prop} {s : Shared} {env : Env} {x : Str} {t u : Tok}
variable {P : Params} {s₀ : Shared} {B₀ : G} {ns : List (Str × NameKind)} {B : G} {vs vs' : List (Option Value)} {os os' : List (Addr × AO)} {Q : Value → Shared → Prop}

theorem ev_attr {M : Model} {value : Expr} {attr : Str} {pos : Pos} (hn : onName value = true) (h : wpAny M A (eval value env) (fun o s₁ => wpAny M A (getAttr o attr true) Q E s₁) E s) :
    wpAny M A (eval (.Attribute value attr pos) env) Q E s := by
  obtain ⟨n, np, rfl⟩ := onName_eq hn
  rw [arm_eval_Attribute]
  have e1 : attributeBase (.Name n np) attr env (eval (.Name n np) env) = eval (.Name n np) env := rfl
  rw [e1]
  refine wpAny_bind (wpAny_mono h (fun o s₁ h₁ => wpAny_bind (wpAny_standAt (wpAny_bind (wpAny_holding (wpAny_mono h₁ (fun r s₂ h₂ => ?_) fun _ _ y => y))))) fun _ _ y => y)
  have e2 : letTemporaryGo (.Name n np) o r = pure () := rfl
  rw [e2]
  exact wpAny_bind (wpAny_pure (wpAny_pure h₂))
theorem with_fn {M : Model} {pos : Pos} {f : Addr} {first : List Value} {e : Expr} {rest : List Expr} {o : Obj} {fd : FuncData} (ha : plainArg e = true)
    (h : wpAny M A (spliced (backTo pos (starEach (e :: rest) env))) (fun vs s₁ => (s₁.heap.get? f = some o ∧ o.data = .func fd) ∧ wpAny M A (call (.ref f) (first ++ vs)) Q E s₁) E s) :
    wpAny M A (callWith pos (.ref f) first (backTo pos (starEach (e :: rest) env)) []) Q E s := by
  rw [starEach_cons_plain ha] at h ⊢
  exact Calls.callWith_function (o := o) (fd := fd) (Calls.evalArgs_plain h)
theorem with_fn0 {M : Model} {pos : Pos} {f : Addr} {first : List Value} {o : Obj} {fd : FuncData} (hf : s.heap.get? f = some o) (hd : o.data = .func fd)
    (h : wpAny M A (call (.ref f) first) Q E s) : wpAny M A (callWith pos (.ref f) first (backTo pos (starEach [] env)) []) Q E s := by
  refine Calls.callWith_function (o := o) (fd := fd) ?_
  have : evalArgs (.ref f) true (backTo pos (starEach [] env)) [] = pure ⟨[], []⟩ := by first | rfl | (unfold evalArgs; rfl)
  rw [this]
  refine wpAny_pure ⟨⟨hf, hd⟩, ?_⟩
  rw [List.append_nil]; exact h
theorem asg_attr {o value : Expr} {attr : Str} {pos' pos : Pos} {rest : List Stmt} {Q : Flow → Shared → Prop} {M : Model} (hn : noComp value = true)
    (h : wpAny M A (eval value env) (fun v s₁ => wpAny M A (eval o env) (fun ov s₂ => wpAny M A (setAttr ov attr v) (fun _ s₃ => wpAny M A (execs rest env) Q E s₃) E s₂) E s₁) E s) :
    wpAny M A (execs (.Assign [.Attribute o attr pos'] value pos :: rest) env) Q E s := by
  exact wpAny_execs_cons (plainObj_wpAny_Assign_Attribute h (noComp_swaps hn _ _ _))
theorem aug_attr {o value : Expr} {attr : Str} {tpos pos : Pos} {op : Operator} {rest : List Stmt} {Q : Flow → Shared → Prop} {M : Model}
    (h : wpAny M A (eval o env) (fun ov s₁ => wpAny M A (getAttr ov attr true) (fun old s₂ => wpAny M A (eval value env) (fun v s₃ => wpAny M A (inplaceOp op old v) (fun new s₄ =>
            wpAny M A (setAttr ov attr new) (fun _ s₅ => wpAny M A (execs rest env) Q E s₅) E s₄) E s₃) E s₂) E s₁) E s) :
    wpAny M A (execs (.AugAssign (.Attribute o attr tpos) op value pos :: rest) env) Q E s :=
  wpAny_execs_cons (wpAny_AugAssign_AttributeAny h)
end


theorem lexL_set (n m : Int) (t t' u : Tok) (st pb : Addr) : ∀ y, (lexL m t' u st pb).lookup y = if y = Str.ofString "lineno" then some (.int m t') else (lexL n t u st pb).lookup y := by
  intro y
  unfold lexL
  by_cases h : y = Str.ofString "lineno"
  · subst h; rw [if_pos rfl, List.lookup_cons_self]
  · rw [if_neg h]; simp only [List.lookup_cons, beq_eq_false_iff_ne.mpr h]

theorem headS_nl (cs : List Nat) : (headS cs == Str.ofString "\n") = decide (cs.head? = some 10) := by
  cases cs with
  | nil => decide
  | cons c cs =>
    have : Str.ofString "\n" = one 10 := by decide
    rw [this]
    unfold headS one
    by_cases h : c = 10
    · subst h; simp
    · simp [h]

theorem rc_code {prog : Program} {w : World} {A : Around} {E : Value → Shared → Prop} {P : Params} {s : Shared} {Q : Value → Shared → Prop} {k : Nat} {x d st sg pb : Addr} {vs : List Value} {cs : List Nat} {n : Int} {t u : Tok}
    (S : Stat P (hide [sg, d] s.heap.get?)) (hne : sg ≠ d) (R : LexAt P (hide [sg, d] s.heap.get?) x d st sg) (hd' : (AO.ns (lexL n t u st pb)).Is s.heap.get? d) (hsg : (AO.list vs).Is s.heap.get? sg)
    (hvs : StrsAre vs (cs.map one)) (hcs : ∀ c ∈ cs, c < 128) (hlen : cs.length ≤ 100000) (hA : AOk A (k + 6))
    (hQ : ∀ t₁ t₂ s' vs', Chg [sg, d] s s' → (AO.ns (lexL (n + bump cs) t₂ u st pb)).Is s'.heap.get? d → (AO.list vs').Is s'.heap.get? sg → StrsAre vs' (cs.tail.map one) → Q (.str (headS cs) t₁) s') :
    codeAny (model prog w) A (.call (.ref 42) ⟨[.ref x], []⟩) (RetR Q E) s := by
  have ho := hide_sub _ _ _ _ (S.K 42 _ rfl)
  have hc := hide_sub _ _ _ _ (S.K 41 _ rfl)
  refine code_fnM (P := P) (n := k + 5) (X := [(sg, .list vs), (d, .ns (lexL n t u st pb))]) S ?_ ?_ hA ho rfl rfl ⟨_, _, _, _, rfl, hc, rfl, rfl⟩ rfl rfl rfl rfl rfl ?_ ?_ ?_ (bind1 rfl) rfl ?_
  · simpa using hne
  · intro p hp
    rcases List.mem_cons.mp hp with rfl | hp
    · exact hsg
    · rcases List.mem_cons.mp hp with rfl | hp
      · exact hd'
      · cases hp
  · decide
  · decide
  · decide
  clear ho hc
  intro env L s₂ henv W hA'
  clear henv
  replace W : Wd P s (hide [sg, d] s.heap.get?) env [(Str.ofString "self", .local), (Str.ofString "ch", .local)] (hide [sg, d] s.heap.get?) s₂ [some (.ref x), none] [(sg, .list vs), (d, .ns (lexL n t u st pb))] := W
  obtain ⟨hx, o, ds, fd, rd, q1, q2, q3, q4, q5, q6⟩ := R
  ((((with_reducible refine' asgs ?nc1 ?_); (case nc1 => rfl))))
  ((((with_reducible refine' call_meth ?sd2 ?_); (case sd2 => rfl))))
  with_reducible refine' ev_attr rfl ?_
  ((((with_reducible refine' ev_local (by assumption) ?rd3 ?_); (case rd3 => ((with_reducible (repeat first | exact Rd.head | apply Rd.tail | (apply Rd.of; assumption))))))))
  with_reducible refine' at_get W hx (mem_t mem_h) (k_instream P) rfl rfl ?_
  intro s₃ W₃
  obtain ⟨od, e1, e2, _⟩ := ns_of (q5.mono W₃.keep)
  have hq1 := W₃.keep _ _ q1
  with_reducible refine' fn_meth W₃.inK hq1 q2 q3 ⟨_, q4⟩ e1 (e2 _) rfl ?_
  replace W₃ := W₃.toks (s₃.toks + 1)
  obtain ⟨o₂, fd₂, b₂, c₂, p1, p2, p3, prest⟩ := id q6
  with_reducible refine' with_fn (o := o₂) (fd := fd₂) rfl ?_
  ((((with_reducible refine' args_c ?pa4 ?_); (case pa4 => rfl))))
  ((((with_reducible refine' c_int (by assumption) ?_); intro _ _ _)))
  rename_i t₄ s₄ W₄
  ((with_reducible refine' PyProof.Rows.args_nil ?_))
  refine ⟨⟨W₄.keep _ _ p1, p3⟩, ?_⟩
  have hid := W₄.hidden (X := [sg]) (by simp)
  show wpAny _ _ (call (.ref rd) [.int 1 t₄]) _ _ _
  with_reducible refine' read_spec (n := k) (W₄.stat.mono hid) (q6.mono hid) (W₄.at mem_h) hvs hcs hlen hA' ?_
  intro t₅ s₅ vs₅ c₅ l₅ h₅
  have W₅ := Wd.chg (X := [(sg, .list vs)]) (X' := [(sg, .list vs₅)]) W₄ c₅ rfl (by simpa using l₅)
  clear W₄ W₃ W
  ((((with_reducible refine' st_local (by assumption) ?wr7 ?_); (case wr7 => ((with_reducible (repeat first | exact Wr.head | apply Wr.tail | (apply Wr.of; assumption))))); intro _ _)))
  rename_i s₆ W₆
  clear W₅
  ((with_reducible refine' ifs ?_))
  ((((with_reducible refine' test1 ?nm9 ?_); (case nm9 => rfl))))
  ((((with_reducible refine' ev_local (by assumption) ?rd10 ?_); (case rd10 => ((with_reducible (repeat first | exact Rd.head | apply Rd.tail | (apply Rd.of; assumption))))))))
  ((((with_reducible refine' c_str (by assumption) ?_); intro _ _ _)))
  rename_i t₇ s₇ W₇
  ((with_reducible refine' o_eqS ?_))
  ((with_reducible refine' tr_bool ?_))
  rw [headS_nl]
  by_cases hb : cs.head? = some 10
  · rw [if_pos (by simpa using hb)]
    have hbu : bump cs = 1 := by unfold bump; rw [if_pos hb]
    with_reducible refine' aug_attr ?_
    ((((with_reducible refine' ev_local (by assumption) ?rd14 ?_); (case rd14 => ((with_reducible (repeat first | exact Rd.head | apply Rd.tail | (apply Rd.of; assumption))))))))
    with_reducible refine' at_get W₇ hx (mem_t mem_h) (k_lineno P) rfl rfl ?_
    intro s₈ W₈
    ((((with_reducible refine' c_int (by assumption) ?_); intro _ _ _)))
    rename_i t₉ s₉ W₉
    with_reducible refine' w_iadd W₉ ?_
    intro t₁₀ s₁₀ W₁₀
    with_reducible refine' at_set W₁₀ hx (.tail .head) (k_lineno P) (lexL_set n (n + 1) t t₁₀ u st pb) ?_ ?_
    · exact ⟨.inl ⟨rfl, Nat.le_refl _⟩, Nat.le_of_ble_eq_true rfl⟩
    intro s₁₁ W₁₁
    refine wpAny_execs_nil ?_
    show wpAny _ _ (execs _ env) _ _ _
    ((with_reducible refine' rets ?_))
    ((((with_reducible refine' ev_local (by assumption) ?rd17 ?_); (case rd17 => ((with_reducible (repeat first | exact Rd.head | apply Rd.tail | (apply Rd.of; assumption))))))))
    exact hQ _ t₁₀ _ _ W₁₁.doneX (by rw [hbu]; exact W₁₁.at (mem_t mem_h)) (W₁₁.at mem_h) h₅
  · rw [if_neg (by simpa using hb)]
    have hbu : n + bump cs = n := by unfold bump; rw [if_neg hb]; exact Int.add_zero n
    refine wpAny_execs_nil ?_
    show wpAny _ _ (execs _ env) _ _ _
    ((with_reducible refine' rets ?_))
    ((((with_reducible refine' ev_local (by assumption) ?rd19 ?_); (case rd19 => ((with_reducible (repeat first | exact Rd.head | apply Rd.tail | (apply Rd.of; assumption))))))))
    exact hQ _ t _ _ W₇.doneX (by rw [hbu]; exact W₇.at (mem_t mem_h)) (W₇.at mem_h) h₅
end
-- Itr
section
open PySem PySem.W PyProof.Rows PyProof.V PySem.SeqAt
theorem slot_cin : Slot "callable_iterator" "__next__" "callable_iterator.__next__" :=
  .of (owner := "callable_iterator") (n := "__next__") (by rw [typeLookup_type, builtinLookup_eq_fast]; kernel_rfl) (by decide +kernel) (by decide +kernel) (by decide +kernel)
    (by first | exact .inl (by decide +kernel) | exact .inr (by decide +kernel)) (by rw [isSubtype_type]; kernel_rfl)
theorem entry_cin : entryFor table "callable_iterator.__next__" = some Builtin.«callable_iterator.__next__» := entryFor_of_tree (by kernel_rfl)
theorem args_cin (a : Value) : argsOk "callable_iterator.__next__" ⟨[a], []⟩ := by unfold argsOk; kernel_rfl
theorem slot_cii : Slot "callable_iterator" "__iter__" "callable_iterator.__iter__" :=
  .of (owner := "callable_iterator") (n := "__iter__") (by rw [typeLookup_type, builtinLookup_eq_fast]; kernel_rfl) (by decide +kernel) (by decide +kernel) (by decide +kernel)
    (by first | exact .inl (by decide +kernel) | exact .inr (by decide +kernel)) (by rw [isSubtype_type]; kernel_rfl)
theorem args_cii (a : Value) : argsOk "callable_iterator.__iter__" ⟨[a], []⟩ := by unfold argsOk; kernel_rfl

noncomputable abbrev citObj (m : Addr) (t : Tok) : Obj := { cls := .type "callable_iterator", data := .fields #[.ref m, .str (Str.ofString "") t, .bool false] }
noncomputable abbrev citEnd : Obj := { cls := .type "callable_iterator", data := .fields #[.none, .none, .bool true] }
section
variable {prog : Program} {w : World} {A : Around} {E : Value → Shared → Prop} {s : Shared}

theorem callB {M : Model} {f : Value} {pos : List Value} {Q : Value → Shared → Prop} (h : codeAny M A (.call f ⟨pos, []⟩) (RetR Q E) s) : wpAny M A (callBorrowed f pos) Q E s := fun Γ p hΓ => by
  unfold callBorrowed
  rw [Sem.wp_call]
  refine codeAny_mono h (fun r s' z => ?_) _ p rfl (hΓ.enter _ none p (by intro x; cases x))
  rcases r with e | (v | _ | _ | _) <;> first | exact z | exact z.elim

theorem borrows {m f : Addr} {of : Obj} {fd : FuncData} {self : Value} {M : Model} {Q : Bool → Shared → Prop} (hm : s.heap.get? m = some (methodObj (.ref f) self)) (hf : s.heap.get? f = some of) (hd : of.data = .func fd) (h : Q true s) :
    wpAny M A (borrowsExactly (.ref m)) Q E s := by
  unfold borrowsExactly
  refine wpAny_bind (wpAny_load hm ?_)
  dsimp only
  rw [if_pos (by decide)]
  show wpAny M A (load f >>= _) Q E s
  refine wpAny_bind (wpAny_load hf ?_)
  rw [hd]
  exact wpAny_pure h

/-- the next sign of an iterator over a method -/
theorem next_call {it m f : Addr} {t : Tok} {of : Obj} {fd : FuncData} {self : Value} {Q : Option Value → Shared → Prop} (hh : A.handled = none)
    (hit : s.heap.get? it = some (citObj m t)) (hm : s.heap.get? m = some (methodObj (.ref f) self)) (hf : s.heap.get? f = some of) (hd : of.data = .func fd)
    (h : codeAny (model prog w) A.in1 (.call (.ref f) ⟨[self], []⟩) (RetR (fun v s₁ => ∃ y ty, v = .str y ty ∧ s₁.heap.get? it = some (citObj m t) ∧ s₁.heap.get? m = some (methodObj (.ref f) self) ∧ s₁.heap.get? f = some of ∧
      if y = Str.ofString "" then ∀ h', h'.get? it = some citEnd → Heap.ExtBut it s₁.heap h' → Q none { s₁ with heap := h' } else Q (some v) s₁) (fun _ _ => False)) s) :
    wpAny (model prog w) A (pyNext (.ref it)) Q E s := by
  have hT : s.TypeIs (.ref it) "callable_iterator" := ⟨_, hit, rfl⟩
  unfold pyNext
  refine wpAny_bind (wpAny_attempt (wpAny_callSpecial?_slot (name := Str.ofString "__next__") hT slot_cin
    (wpAny_call_entry slot_cin hT entry_cin ?_ (args_cin _))))
  show wpAny _ _ (field (.ref it) 2 >>= _) _ _ s
  refine wpAny_bind (wpAny_field hit rfl (x := .bool false) rfl ?_)
  rw [if_neg (by decide)]
  show wpAny _ _ (field (.ref it) 0 >>= _) _ _ s
  refine wpAny_bind (wpAny_field hit rfl (x := .ref m) rfl ?_)
  refine wpAny_bind (wpAny_attempt ?_)
  unfold callOutOfASlot
  refine wpAny_bind (borrows hm hf hd ?_)
  rw [if_pos rfl]
  refine callB (method_call hm (codeAny_mono h fun r s₁ z => ?_))
  rcases r with e | (v | _ | _ | _) <;> first | exact z.elim | skip
  obtain ⟨y, ty, rfl, i1, i2, i3, z⟩ := z
  show wpAny _ _ (field (.ref it) 2 >>= _) _ _ s₁
  refine wpAny_bind (wpAny_field i1 rfl (x := .bool false) rfl ?_)
  rw [if_neg (by decide)]
  show wpAny _ _ (field (.ref it) 1 >>= _) _ _ s₁
  refine wpAny_bind (wpAny_field i1 rfl (x := .str (Str.ofString "") t) rfl ?_)
  refine wpAny_bind (wpAny_holding (PyProof.Rows.eqBool_str ?_))
  by_cases hy : y = Str.ofString ""
  · subst hy
    rw [if_pos rfl] at z
    rw [if_neg (by simp)]
    refine wpAny_bind (wpAny_rule (wpAny_bind ?_))
    show wpAny _ _ (field (.ref it) 0 >>= _) _ _ s₁
    refine wpAny_bind (wpAny_field i1 rfl (x := .ref m) rfl ?_)
    refine wpAny_bind ?_
    unfold slotLetsGo
    refine wpAny_bind (borrows i2 i3 hd ?_)
    rw [if_pos rfl]
    refine wpAny_pure ?_
    refine wpAny_bind (wpAny_setField_rec i1 (by simp) fun h₁ g₁ b₁ => ?_)
    refine wpAny_bind (wpAny_setField_rec g₁ (by simp) fun h₂ g₂ b₂ => ?_)
    refine wpAny_setField_rec g₂ (by simp) fun h₃ g₃ b₃ => ?_
    show wpAny _ _ (newExc (.type "StopIteration") [] >>= _) _ _ _
    refine wpAny_bind ?_
    simp only [newExc, newTuple]
    refine wpAny_bind (wpAny_newObj_type ?_ (by size_fits))
    refine wpAny_bind (m := firstArgMember _ _) (wpAny_of_eq (a := Value.none) (by first | rfl | (simp only [firstArgMember]; rfl)) ?_)
    refine wpAny_newObj_type ?_ (by size_fits)
    simp only [raiseNew]
    refine wpAny_bind (wpAny_handled ?_)
    first | rw [show A.in1.handled = none from hh] | rw [hh]
    refine wpAny_bind (wpAny_pure (wpAny_throw ?_))
    refine wpAny_bind (wpAny_isInstance (T := "StopIteration") (b := true) ⟨_, Heap.get?_push_size _ rfl, rfl⟩ isSubtype_stop ?_)
    refine wpAny_pure (z _ (Heap.get?_push_of_some _ (Heap.get?_push_of_some _ g₃)) ?_)
    exact ((((b₁.extBut).trans b₂.extBut).trans b₃.extBut).push _).push _
  · rw [if_neg hy] at z
    have : (Str.ofString "" == y) = false := by rw [beq_eq_false_iff_ne]; exact fun e => hy e.symm
    rw [this]
    rw [if_pos (by decide)]
    exact wpAny_pure ⟨_, rfl, wpAny_pure z⟩

theorem next_ended {it : Addr} {Q : Option Value → Shared → Prop} (hh : A.handled = none) (hit : s.heap.get? it = some citEnd) (h : ∀ s', Keeps s s' → Q none s') : wpAny (model prog w) A (pyNext (.ref it)) Q E s := by
  have hT : s.TypeIs (.ref it) "callable_iterator" := ⟨_, hit, rfl⟩
  unfold pyNext
  refine wpAny_bind (wpAny_attempt (wpAny_callSpecial?_slot (name := Str.ofString "__next__") hT slot_cin
    (wpAny_call_entry slot_cin hT entry_cin ?_ (args_cin _))))
  show wpAny _ _ (field (.ref it) 2 >>= _) _ _ s
  refine wpAny_bind (wpAny_field hit rfl (x := .bool true) rfl ?_)
  rw [if_pos (by decide)]
  refine wpAny_bind (wpAny_rule (wpAny_bind ?_))
  show wpAny _ _ (newExc (.type "StopIteration") [] >>= _) _ _ _
  refine wpAny_bind ?_
  simp only [newExc, newTuple]
  refine wpAny_bind (wpAny_newObj_type ?_ (by size_fits))
  refine wpAny_bind (m := firstArgMember _ _) (wpAny_of_eq (a := Value.none) (by first | rfl | (simp only [firstArgMember]; rfl)) ?_)
  refine wpAny_newObj_type ?_ (by size_fits)
  simp only [raiseNew]
  refine wpAny_bind (wpAny_handled ?_)
  first | rw [show A.in1.handled = none from hh] | rw [hh]
  refine wpAny_bind (wpAny_pure (wpAny_throw ?_))
  refine wpAny_bind (wpAny_isInstance (T := "StopIteration") (b := true) ⟨_, Heap.get?_push_size _ rfl, rfl⟩ isSubtype_stop ?_)
  exact wpAny_pure (h _ ⟨_, _, rfl, fun b o e => Heap.get?_push_of_some _ (Heap.get?_push_of_some _ e)⟩)

theorem entry_cii : entryFor table "callable_iterator.__iter__" = some Builtin.«dict_keyiterator.__iter__» :=
  entryFor_alias (id' := "dict_keyiterator.__iter__") (by kernel_rfl) (by first | rfl | decide +kernel | (unfold String.splitOn; simp +decide [String.splitOnAux])) (by decide +kernel) (by kernel_rfl)
theorem iter_cit {it m : Addr} {t : Tok} {Q : Value → Shared → Prop} (hit : s.heap.get? it = some (citObj m t)) (h : Q (.ref it) s) : wpAny (model prog w) A (pyIter (.ref it)) Q E s := by
  have hT : s.TypeIs (.ref it) "callable_iterator" := ⟨_, hit, rfl⟩
  refine wpAny_pyIter_slot hT slot_cii (wpAny_call_entry slot_cii hT entry_cii ?_ (args_cii _))
  show wpAny _ _ (ret (.ref it)) _ _ s
  exact wpAny_pure ⟨_, rfl, "callable_iterator", _, hT, slot_cin.lookup, h⟩

theorem entry_iter : entryFor table "iter" = some Builtin.«iter» := entryFor_of_tree (by kernel_rfl)
theorem args_iter (a b : Value) : argsOk "iter" ⟨[a, b], []⟩ := by unfold argsOk; kernel_rfl
theorem lk_method_call : typeLookup (.type "method") "__call__" = pure (some (.builtin "method.__call__")) := by rw [typeLookup_type, builtinLookup_eq_fast]; kernel_rfl
theorem call_iter {m f : Addr} {self : Value} {t : Tok} {Q : Value → Shared → Prop} (hm : s.heap.get? m = some (methodObj (.ref f) self))
    (h : Q (.ref s.heap.objs.size) { s with heap := s.heap.push (citObj m t) }) : wpAny (model prog w) A (call (.builtin "iter") [.ref m, .str (Str.ofString "") t]) Q E s := by
  refine Calls.call_function_entry (by decide +kernel) (by decide +kernel) entry_iter (args_iter _ _) ?_
  show wpAny _ _ (specialOf (.ref m) "__call__" >>= _) _ _ s
  refine wpAny_bind (wpAny_specialOf (T := "method") ⟨_, hm, rfl⟩ lk_method_call ?_)
  rw [if_neg (by simp)]
  refine wpAny_bind (wpAny_rule ?_)
  unfold newFields
  exact wpAny_bind (wpAny_newObj_type (wpAny_pure ⟨_, rfl, h⟩) (by size_fits))

theorem k_rcget (P : Params) : specialIn (hd.heap_39 P) (.ref 42) "__get__" = some (some (.builtin "function.__get__")) := by kernel_rfl
theorem k_rctakes (P : Params) : takesIn (hd.heap_39 P) (.ref 42) = some false := by kernel_rfl
theorem at_bound {P : Params} {x d : Addr} {od : Obj} {expr : Bool} {Q : Value → Shared → Prop} (X : (hd.heap_39 P).In s.heap) (hx : s.heap.get? x = some (instObj 59 d)) (hod : s.heap.get? d = some od) (hl : lookIn (Str.ofString "_read_char") od = some none)
    (h : ∀ t, Q (.ref s.heap.objs.size) { s with heap := s.heap.push (methodObj (.ref 42) (.ref x)), toks := t }) : wpAny (model prog w) A (getAttr (.ref x) (Str.ofString "_read_char") expr) Q E s := by
  refine get_bind (g := .builtin "function.__get__") (a := .ref 42) X (inst_at hx hod) (k_ga P) ?_ (k_g P) ?_
  · obtain ⟨cd, hc', hcd⟩ := any_some (k_hasDict P)
    unfold findObj
    have ho : W.ownOf cd (some od) (Str.ofString "_read_char") = some none := by unfold W.ownOf; rw [if_pos hcd]; exact hl
    rw [hc', Option.bind_some, show findIn (hd.heap_39 P) (.ref 59) (Str.ofString "_read_char") = some (some (.ref 42)) from k_rc P, Option.bind_some]
    simp only [k_rcget, k_rctakes, Option.bind_some, ho]
    rw [if_neg (by have : copiedNames.contains (Str.ofString "_read_char") = false := by decide
                   rw [this]; simp)]
  · refine wpAny_call (fn_get (K := hd.heap_39 P) (s := { s with toks := s.toks + 1 }) X (t_42 P) ?_)
    show wpAny _ _ (handedOut (.ref _)) _ _ _
    exact wpAny_pure (h _)

variable {P : Params} {s₀ : Shared} {B₀ : G} {env : Env} {ns : List (Str × NameKind)} {B : G} {vs : List (Option Value)} {os : List (Addr × AO)} {x d st sg pb it m : Addr} {us : List Value} {cs : List Nat} {n : Int} {t u tt : Tok}
theorem one_ne (c : Nat) : one c ≠ Str.ofString "" := by
  intro h
  have := congrArg (fun z => z.cps.size) h
  revert this
  show (1 : Nat) = (Str.ofString "").cps.size → False
  decide

theorem cit_next {k : Nat} {Q : Option Value → Shared → Prop} (W : Wd P s₀ B₀ env ns B s vs ((sg, .list us) :: (d, .ns (lexL n t u st pb)) :: (it, .obj (citObj m tt)) :: (m, .obj (methodObj (.ref 42) (.ref x))) :: os)) (R : LexAt P B x d st sg)
    (hus : StrsAre us (cs.map one)) (hcs : ∀ c ∈ cs, c < 128) (hlen : cs.length ≤ 100000) (hA : AOk A (k + 7))
    (hend : cs = [] → ∀ us' t₂ s', StrsAre us' [] → Wd P s₀ B₀ env ns B s' vs ((sg, .list us') :: (d, .ns (lexL n t₂ u st pb)) :: (it, .obj citEnd) :: (m, .obj (methodObj (.ref 42) (.ref x))) :: os) → Q none s')
    (hnext : ∀ c cs', cs = c :: cs' → ∀ t₁ t₂ us' s', StrsAre us' (cs'.map one) → Wd P s₀ B₀ env ns B s' vs ((sg, .list us') :: (d, .ns (lexL (n + bump cs) t₂ u st pb)) :: (it, .obj (citObj m tt)) :: (m, .obj (methodObj (.ref 42) (.ref x))) :: os) → Q (some (.str (one c) t₁)) s') :
    wpAny (model prog w) A (pyNext (.ref it)) Q E s := by
  have h42 := W.keep _ _ (W.stat.K 42 _ rfl)
  have hm : s.heap.get? m = some (methodObj (.ref 42) (.ref x)) := W.at (mem_t (mem_t (mem_t mem_h)))
  have hi : s.heap.get? it = some (citObj m tt) := W.at (mem_t (mem_t mem_h))
  have hid := W.hidden (X := [sg, d]) (by intro a ha; simp at ha; rcases ha with rfl | rfl <;> simp)
  have hne : sg ≠ d := by
    have := (List.nodup_cons.mp W.apart).2
    simp only [List.map_cons, List.nodup_cons, List.mem_cons, not_or] at this
    exact this.1.1
  refine next_call (f := 42) hA.handled hi hm h42 rfl ?_
  refine rc_code (k := k) (W.stat.mono hid) hne (R.mono hid) (W.at (mem_t mem_h)) (W.at mem_h) hus hcs hlen hA.in1 ?_
  intro t₁ t₂ s' us' c hd' hs' hus'
  have W' := Wd.chg (X := [(sg, .list us), (d, .ns (lexL n t u st pb))]) (X' := [(sg, .list us'), (d, .ns (lexL (n + bump cs) t₂ u st pb))]) W c rfl (by
    intro p hp; simp only [List.mem_cons, List.not_mem_nil, or_false] at hp; rcases hp with rfl | rfl
    · exact hs'
    · exact hd')
  refine ⟨headS cs, t₁, rfl, W'.at (mem_t (mem_t mem_h)), W'.at (mem_t (mem_t (mem_t mem_h))), W'.keep _ _ (W'.stat.K 42 _ rfl), ?_⟩
  cases cs with
  | nil =>
    rw [if_pos (show headS [] = Str.ofString "" from rfl)]
    intro h' e1 e2
    have hb : n + bump [] = n := by unfold bump; simp
    rw [hb] at W'
    exact hend rfl us' t₂ _ hus' (W'.upd (t := s'.toks) (.tail (.tail .head)) (show (AO.obj citEnd).Is h'.get? it from e1) e2)
  | cons c cs =>
    rw [if_neg (show headS (c :: cs) ≠ Str.ofString "" from one_ne c)]
    exact hnext c cs rfl t₁ t₂ us' _ hus' W'
theorem cit_stop {Q : Option Value → Shared → Prop} (W : Wd P s₀ B₀ env ns B s vs os) (hit : (it, .obj citEnd) ∈ os) (hh : A.handled = none) (h : ∀ s', Wd P s₀ B₀ env ns B s' vs os → Q none s') : wpAny (model prog w) A (pyNext (.ref it)) Q E s :=
  next_ended hh (W.at hit) fun s' k => h s' (W.keeps k)
end
end
-- Gtk
section
open PySem PySem.W PyProof.Rows PyProof.V PySem.SeqAt
/-! ### the lexer in plain words -/
noncomputable def white (c : Nat) : Bool := c == 10 || c == 9 || c == 13 || c == 32
noncomputable def tokQ (acc : List Nat) : List Nat → List Nat × List Nat
  | [] => (acc, [])
  | c :: cs => if c = 34 then (acc, cs) else if c = 92 then (match cs with | [] => (acc, []) | e :: cs' => tokQ (acc ++ [e]) cs') else tokQ (acc ++ [c]) cs
noncomputable def tokW (acc : List Nat) : List Nat → List Nat × List Nat
  | [] => (acc, [])
  | c :: cs => if white c = true then (acc, cs) else if c = 92 then (match cs with | [] => (acc, []) | e :: cs' => tokW (acc ++ [e]) cs') else tokW (acc ++ [c]) cs
noncomputable def getTok : List Nat → List Nat × List Nat
  | [] => ([], [])
  | c :: cs => if white c = true then getTok cs else if c = 34 then tokQ [] cs else if c = 92 then (match cs with | [] => ([], []) | e :: cs' => tokW [e] cs') else tokW [c] cs
noncomputable def nl (cs : List Nat) : Int := (cs.filter (fun c => c == 10)).length
theorem nl_bump (cs : List Nat) : bump cs + nl cs.tail = nl cs := by
  cases cs with
  | nil => simp [bump, nl]
  | cons c cs =>
    unfold bump nl
    by_cases h : c = 10
    · subst h; simp; (first | with_reducible assumption | exact Nat.le_of_ble_eq_true rfl | exact Nat.add_le_add_left (Nat.le_of_ble_eq_true rfl) _ | exact Nat.le_trans (by assumption) (Nat.le_of_ble_eq_true rfl) | exact Nat.lt_of_le_of_lt (by assumption) (Nat.le_of_ble_eq_true rfl) | exact Nat.le_trans (Nat.le_of_eq (by assumption)) (Nat.le_trans (by assumption) (Nat.le_of_ble_eq_true rfl)) | lia | omega)
    · simp [h]
theorem white_ok : ∀ c < 128, (!(Builtin.Str.occurrences whiteS (one c) 0 whiteS.length 1).isEmpty) = white c := by decide +kernel
theorem in_white {prog : Program} {w : World} {A : Around} {E : Value → Shared → Prop} {s : Shared} {c : Nat} {t u : Tok} {Q : Value → Shared → Prop} (hc : c < 128) (h : Q (.bool (white c)) s) :
    wpAny (model prog w) A (compareOp .In (.str (one c) u) (.str whiteS t)) Q E s := P.in_str (by rw [white_ok c hc]; exact h)
noncomputable def txt (l : List Nat) : Str := ⟨l.toArray⟩
theorem txt_snoc (l : List Nat) (c : Nat) : txt l ++ one c = txt (l ++ [c]) := by
  show (⟨l.toArray ++ #[c]⟩ : Str) = ⟨(l ++ [c]).toArray⟩
  simp
theorem txt_len (l : List Nat) : (txt l).length = l.length := by show l.toArray.size = _; simp

theorem test_attr {M : Model} {A : Around} {E : Value → Shared → Prop} {s : Shared} {env : Env} {value : Expr} {attr : Str} {pos : Pos} {whole : Sem Value} {Q : Bool → Shared → Prop} (h : wpAny M A whole (fun v s₁ => wpAny M A (truthy v) Q E s₁) E s) :
    wpAny M A (isTrue (.Attribute value attr pos) env whole) Q E s := by
  show wpAny M A (do let v ← whole; standAt _; holding [v] (truthy v)) Q E s
  exact wpAny_bind (wpAny_mono h (fun v s₁ h₁ => wpAny_bind (wpAny_standAt (wpAny_holding h₁))) fun _ _ x => x)
theorem tr_list {prog : Program} {w : World} {A : Around} {E : Value → Shared → Prop} {P : Params} {s₀ : Shared} {B₀ : G} {env : Env} {ns : List (Str × NameKind)} {B : G} {s : Shared} {vs : List (Option Value)} {os : List (Addr × AO)} {l : Addr} {items : List Value} {Q : Bool → Shared → Prop}
    (W : Wd P s₀ B₀ env ns B s vs os) (hl : (AO.list items).Is s.heap.get? l) (hsz : items.length ≤ 100000) (h : ∀ s', Wd P s₀ B₀ env ns B s' vs os → Q (!items.isEmpty) s') : wpAny (model prog w) A (truthy (.ref l)) Q E s := by
  refine wpAny_truthy_list hl.isL (by simp; (first | with_reducible assumption | exact Nat.le_of_ble_eq_true rfl | exact Nat.add_le_add_left (Nat.le_of_ble_eq_true rfl) _ | exact Nat.le_trans (by assumption) (Nat.le_of_ble_eq_true rfl) | exact Nat.lt_of_le_of_lt (by assumption) (Nat.le_of_ble_eq_true rfl) | exact Nat.le_trans (Nat.le_of_eq (by assumption)) (Nat.le_trans (by assumption) (Nat.le_of_ble_eq_true rfl)) | lia | omega)) ?_
  have := h _ (W.toks (s.toks + 1 + 1))
  simpa using this
noncomputable abbrev gns : List (Str × NameKind) := [(Str.ofString "self", .local), (Str.ofString "token", .local), (Str.ofString "fiter", .local), (Str.ofString "ch", .local), (Str.ofString "iter", .globalImplicit)]


/-- the frame of get_token amid its loops -/
noncomputable def GC (P : Params) (s₀ : Shared) (B₀ : G) (env : Env) (B : G) (x d st sg pb it m : Addr) (u : Tok) (N : Int) (acc cs : List Nat) (o : Obj) (y : Str) (s : Shared) : Prop :=
  ∃ us n t ta ty, StrsAre us (cs.map one) ∧ n + nl cs = N ∧ (∀ c ∈ cs, c < 128) ∧ acc.length + cs.length + 1 ≤ 20000 ∧ Wd P s₀ B₀ env gns B s [some (.ref x), some (.str (txt acc) ta), some (.ref it), some (.str y ty), none]
    [(sg, .list us), (d, .ns (lexL n t u st pb)), (it, .obj o), (m, .obj (methodObj (.ref 42) (.ref x))), (pb, .list [])]
noncomputable def GS (P : Params) (s₀ : Shared) (B₀ : G) (env : Env) (B : G) (x d st sg pb it m : Addr) (u : Tok) (N : Int) (acc cs : List Nat) (o : Obj) (s : Shared) : Prop :=
  ∃ us n t ta chv, StrsAre us (cs.map one) ∧ n + nl cs = N ∧ (∀ c ∈ cs, c < 128) ∧ acc.length + cs.length ≤ 20000 ∧ Wd P s₀ B₀ env gns B s [some (.ref x), some (.str (txt acc) ta), some (.ref it), chv, none]
    [(sg, .list us), (d, .ns (lexL n t u st pb)), (it, .obj o), (m, .obj (methodObj (.ref 42) (.ref x))), (pb, .list [])]
section
variable {prog : Program} {w : World} {A : Around} {E : Value → Shared → Prop} {P : Params} {s₀ s : Shared} {B₀ : G} {env : Env} {B : G} {x d st sg pb it m : Addr} {u tt : Tok} {N : Int} {acc cs : List Nat} {o : Obj} {y : Str} {k : Nat}
theorem gs_next {Q : Option Value → Shared → Prop} (H : GS P s₀ B₀ env B x d st sg pb it m u N acc cs (citObj m tt) s) (R : LexAt P B x d st sg) (hA : AOk A (k + 7))
    (hend : cs = [] → ∀ s', GS P s₀ B₀ env B x d st sg pb it m u N acc [] citEnd s' → Q none s')
    (hnext : ∀ c cs', cs = c :: cs' → c < 128 → ∀ t₁ s', GS P s₀ B₀ env B x d st sg pb it m u N acc cs' (citObj m tt) s' → acc.length + cs'.length + 1 ≤ 20000 → Q (some (.str (one c) t₁)) s') : wpAny (model prog w) A (pyNext (.ref it)) Q E s := by
  obtain ⟨us, n, t, ta, chv, h1, h2, h3, h4, W⟩ := H
  refine cit_next (k := k) W R h1 h3 (by (first | with_reducible assumption | exact Nat.le_of_ble_eq_true rfl | exact Nat.add_le_add_left (Nat.le_of_ble_eq_true rfl) _ | exact Nat.le_trans (by assumption) (Nat.le_of_ble_eq_true rfl) | exact Nat.lt_of_le_of_lt (by assumption) (Nat.le_of_ble_eq_true rfl) | exact Nat.le_trans (Nat.le_of_eq (by assumption)) (Nat.le_trans (by assumption) (Nat.le_of_ble_eq_true rfl)) | lia | omega)) hA ?_ ?_
  · rintro rfl us' t₂ s' hu W'
    exact hend rfl s' ⟨us', n, t₂, ta, chv, hu, h2, h3, h4, W'⟩
  · rintro c cs' rfl t₁ t₂ us' s' hu W'
    have hb := nl_bump (c :: cs')
    rw [List.tail_cons] at hb
    exact hnext c cs' rfl (h3 c (.head _)) t₁ s' ⟨us', _, t₂, ta, chv, hu, by (first | with_reducible assumption | exact Nat.le_of_ble_eq_true rfl | exact Nat.add_le_add_left (Nat.le_of_ble_eq_true rfl) _ | exact Nat.le_trans (by assumption) (Nat.le_of_ble_eq_true rfl) | exact Nat.lt_of_le_of_lt (by assumption) (Nat.le_of_ble_eq_true rfl) | exact Nat.le_trans (Nat.le_of_eq (by assumption)) (Nat.le_trans (by assumption) (Nat.le_of_ble_eq_true rfl)) | lia | omega), fun z hz => h3 z (.tail _ hz), by simp at h4; (first | with_reducible assumption | exact Nat.le_of_ble_eq_true rfl | exact Nat.add_le_add_left (Nat.le_of_ble_eq_true rfl) _ | exact Nat.le_trans (by assumption) (Nat.le_of_ble_eq_true rfl) | exact Nat.lt_of_le_of_lt (by assumption) (Nat.le_of_ble_eq_true rfl) | exact Nat.le_trans (Nat.le_of_eq (by assumption)) (Nat.le_trans (by assumption) (Nat.le_of_ble_eq_true rfl)) | lia | omega), W'⟩ (by simp at h4; (first | with_reducible assumption | exact Nat.le_of_ble_eq_true rfl | exact Nat.add_le_add_left (Nat.le_of_ble_eq_true rfl) _ | exact Nat.le_trans (by assumption) (Nat.le_of_ble_eq_true rfl) | exact Nat.lt_of_le_of_lt (by assumption) (Nat.le_of_ble_eq_true rfl) | exact Nat.le_trans (Nat.le_of_eq (by assumption)) (Nat.le_trans (by assumption) (Nat.le_of_ble_eq_true rfl)) | lia | omega))
theorem gs_stop {Q : Option Value → Shared → Prop} (H : GS P s₀ B₀ env B x d st sg pb it m u N acc cs citEnd s) (hh : A.handled = none) (h : ∀ s', GS P s₀ B₀ env B x d st sg pb it m u N acc cs citEnd s' → Q none s') :
    wpAny (model prog w) A (pyNext (.ref it)) Q E s := by
  obtain ⟨us, n, t, ta, chv, h1, h2, h3, h4, W⟩ := H
  exact cit_stop W (mem_t (mem_t mem_h)) hh fun s' W' => h s' ⟨us, n, t, ta, chv, h1, h2, h3, h4, W'⟩
theorem gs_store {M : Model} {t₁ : Tok} {Q : Unit → Shared → Prop} (H : GS P s₀ B₀ env B x d st sg pb it m u N acc cs o s) (hz : acc.length + cs.length + 1 ≤ 20000) (h : ∀ s', GC P s₀ B₀ env B x d st sg pb it m u N acc cs o y s' → Q () s') :
    wpAny M A (storeName env (Str.ofString "ch") (.str y t₁)) Q E s := by
  obtain ⟨us, n, t, ta, chv, h1, h2, h3, h4, W⟩ := H
  exact st_local W (.tail (.tail (.tail .head))) fun s' W' => h s' ⟨us, n, t, ta, t₁, h1, h2, h3, hz, W'⟩
theorem gc_gs (H : GC P s₀ B₀ env B x d st sg pb it m u N acc cs o y s) : GS P s₀ B₀ env B x d st sg pb it m u N acc cs o s := by
  obtain ⟨us, n, t, ta, ty, h1, h2, h3, h4, W⟩ := H
  exact ⟨us, n, t, ta, _, h1, h2, h3, by (first | with_reducible assumption | exact Nat.le_of_ble_eq_true rfl | exact Nat.add_le_add_left (Nat.le_of_ble_eq_true rfl) _ | exact Nat.le_trans (by assumption) (Nat.le_of_ble_eq_true rfl) | exact Nat.lt_of_le_of_lt (by assumption) (Nat.le_of_ble_eq_true rfl) | exact Nat.le_trans (Nat.le_of_eq (by assumption)) (Nat.le_trans (by assumption) (Nat.le_of_ble_eq_true rfl)) | lia | omega), W⟩
theorem gc_ch {M : Model} {p : Pos} {Q : Value → Shared → Prop} (H : GC P s₀ B₀ env B x d st sg pb it m u N acc cs o y s) (h : ∀ ty, Q (.str y ty) s) : wpAny M A (eval (.Name (Str.ofString "ch") p) env) Q E s := by
  obtain ⟨us, n, t, ta, ty, h1, h2, h3, h4, W⟩ := H
  exact ev_local W (.tail (.tail (.tail .head))) (h _)
theorem gc_eq {M : Model} {z : Str} {p0 p1 p2 : Pos} {kd : Nat} {whole : Sem Value} {Q : Bool → Shared → Prop} (H : GC P s₀ B₀ env B x d st sg pb it m u N acc cs o y s)
    (h : ∀ s', GC P s₀ B₀ env B x d st sg pb it m u N acc cs o y s' → Q (y == z) s') :
    wpAny (model prog w) A (isTrue (.Compare (.Name (Str.ofString "ch") p0) [.Eq] [.Constant (.str z) 0 p1] p2) env whole) Q E s := by
  obtain ⟨us, n, t, ta, ty, h1, h2, h3, h4, W⟩ := H
  ((((with_reducible refine' test1 ?nm1 ?_); (case nm1 => rfl))))
  ((((with_reducible refine' ev_local (by assumption) ?rd2 ?_); (case rd2 => ((with_reducible (repeat first | exact Rd.head | apply Rd.tail | (apply Rd.of; assumption))))))))
  ((((with_reducible refine' c_str (by assumption) ?_); intro _ _ _)))
  ((with_reducible refine' o_eqS ?_))
  ((with_reducible refine' tr_bool ?_))
  rename_i t' s' W'
  exact h s' ⟨us, n, t, ta, ty, h1, h2, h3, h4, W'⟩
theorem gc_white {c : Nat} {p0 p1 p2 p3 : Pos} {whole : Sem Value} {Q : Bool → Shared → Prop} (H : GC P s₀ B₀ env B x d st sg pb it m u N acc cs o (one c) s) (hx : B x = some (instObj 59 d)) (hc : c < 128)
    (h : ∀ s', GC P s₀ B₀ env B x d st sg pb it m u N acc cs o (one c) s' → Q (white c) s') :
    wpAny (model prog w) A (isTrue (.Compare (.Name (Str.ofString "ch") p0) [.In] [.Attribute (.Name (Str.ofString "self") p3) (Str.ofString "whitespace") p1] p2) env whole) Q E s := by
  obtain ⟨us, n, t, ta, ty, h1, h2, h3, h4, W⟩ := H
  ((((with_reducible refine' test1 ?nm6 ?_); (case nm6 => rfl))))
  ((((with_reducible refine' ev_local (by assumption) ?rd7 ?_); (case rd7 => ((with_reducible (repeat first | exact Rd.head | apply Rd.tail | (apply Rd.of; assumption))))))))
  with_reducible refine' ev_attr rfl ?_
  ((((with_reducible refine' ev_local (by assumption) ?rd8 ?_); (case rd8 => ((with_reducible (repeat first | exact Rd.head | apply Rd.tail | (apply Rd.of; assumption))))))))
  with_reducible refine' at_get W hx (mem_t mem_h) (k_whitespace P) rfl rfl ?_
  intro s' W'
  with_reducible refine' in_white hc ?_
  ((with_reducible refine' tr_bool ?_))
  exact h s' ⟨us, n, t, ta, ty, h1, h2, h3, h4, W'⟩
theorem txt_app (l : List Nat) (y : Str) : txt l ++ y = txt (l ++ y.cps.toList) := by
  obtain ⟨a⟩ := y
  show (⟨l.toArray ++ a⟩ : Str) = ⟨(l ++ a.toList).toArray⟩
  congr 1
  simp
theorem gc_add {p0 p1 p2 : Pos} {rest : List Stmt} {Q : Flow → Shared → Prop} (H : GC P s₀ B₀ env B x d st sg pb it m u N acc cs o y s) (hy : y.cps.toList.length ≤ 1)
    (h : ∀ s', GS P s₀ B₀ env B x d st sg pb it m u N (acc ++ y.cps.toList) cs o s' → wpAny (model prog w) A (execs rest env) Q E s') :
    wpAny (model prog w) A (execs (.AugAssign (.Name (Str.ofString "token") p0) .Add (.Name (Str.ofString "ch") p1) p2 :: rest) env) Q E s := by
  obtain ⟨us, n, t, ta, ty, h1, h2, h3, h4, W⟩ := H
  ((with_reducible refine' augs ?_))
  ((((with_reducible refine' ld_local (by assumption) ?rd11 ?_); (case rd11 => ((with_reducible (repeat first | exact Rd.head | apply Rd.tail | (apply Rd.of; assumption))))))))
  ((((with_reducible refine' ev_local (by assumption) ?rd12 ?_); (case rd12 => ((with_reducible (repeat first | exact Rd.head | apply Rd.tail | (apply Rd.of; assumption))))))))
  with_reducible refine' w_iaddS W ?_ ?_
  · rw [txt_len, sizeLine_eq]
    have : y.length ≤ 1 := by simpa [Str.length] using hy
    (first | with_reducible assumption | exact Nat.le_of_ble_eq_true rfl | exact Nat.add_le_add_left (Nat.le_of_ble_eq_true rfl) _ | exact Nat.le_trans (by assumption) (Nat.le_of_ble_eq_true rfl) | exact Nat.lt_of_le_of_lt (by assumption) (Nat.le_of_ble_eq_true rfl) | exact Nat.le_trans (Nat.le_of_eq (by assumption)) (Nat.le_trans (by assumption) (Nat.le_of_ble_eq_true rfl)) | lia | omega)
  intro t' s' W'
  rw [txt_app]
  ((((with_reducible refine' st_local (by assumption) ?wr13 ?_); (case wr13 => ((with_reducible (repeat first | exact Wr.head | apply Wr.tail | (apply Wr.of; assumption))))); intro _ _)))
  rename_i s₂ W₂
  exact h s₂ ⟨us, n, t, t', _, h1, h2, h3, by rw [List.length_append]; (first | with_reducible assumption | exact Nat.le_of_ble_eq_true rfl | exact Nat.add_le_add_left (Nat.le_of_ble_eq_true rfl) _ | exact Nat.le_trans (by assumption) (Nat.le_of_ble_eq_true rfl) | exact Nat.lt_of_le_of_lt (by assumption) (Nat.le_of_ble_eq_true rfl) | exact Nat.le_trans (Nat.le_of_eq (by assumption)) (Nat.le_trans (by assumption) (Nat.le_of_ble_eq_true rfl)) | lia | omega), W₂⟩
theorem gc_read {p0 p1 p2 p3 p4 : Pos} {rest : List Stmt} {Q : Flow → Shared → Prop} (H : GC P s₀ B₀ env B x d st sg pb it m u N acc cs o y s) (R : LexAt P B x d st sg) (hA : AOk A (k + 6)) (hp : Nat.beq p2.endLine p3.line = true)
    (h : ∀ s', GC P s₀ B₀ env B x d st sg pb it m u N acc cs.tail o (headS cs) s' → wpAny (model prog w) A (execs rest env) Q E s') :
    wpAny (model prog w) A (execs (.Assign [.Name (Str.ofString "ch") p0] (.Call (.Attribute (.Name (Str.ofString "self") p1) (Str.ofString "_read_char") p2) [] [] p3) p4 :: rest) env) Q E s := by
  obtain ⟨us, n, t, ta, ty, h1, h2, h3, h4, W⟩ := H
  ((((with_reducible refine' asgs ?nc14 ?_); (case nc14 => rfl))))
  with_reducible refine' call_meth ?_ ?_
  · rw [hp]; rfl
  ((((with_reducible refine' ev_local (by assumption) ?rd15 ?_); (case rd15 => ((with_reducible (repeat first | exact Rd.head | apply Rd.tail | (apply Rd.of; assumption))))))))
  have hx := R.1
  with_reducible refine' at_meth W hx (mem_t mem_h) (k_rc P) (t_42 P) rfl ?_
  have h42 := W.keep _ _ (W.stat.K 42 _ rfl)
  with_reducible refine' with_fn0 h42 rfl ?_
  have hid := W.hidden (X := [sg, d]) (by intro a ha; simp at ha; rcases ha with rfl | rfl <;> simp)
  have hne : sg ≠ d := by
    have := (List.nodup_cons.mp W.apart).2
    simp only [List.map_cons, List.nodup_cons, List.mem_cons, not_or] at this
    exact this.1.1
  refine wpAny_call (rc_code (k := k) (W.stat.mono hid) hne (R.mono hid) (W.at (mem_t mem_h)) (W.at mem_h) h1 h3 (by (first | with_reducible assumption | exact Nat.le_of_ble_eq_true rfl | exact Nat.add_le_add_left (Nat.le_of_ble_eq_true rfl) _ | exact Nat.le_trans (by assumption) (Nat.le_of_ble_eq_true rfl) | exact Nat.lt_of_le_of_lt (by assumption) (Nat.le_of_ble_eq_true rfl) | exact Nat.le_trans (Nat.le_of_eq (by assumption)) (Nat.le_trans (by assumption) (Nat.le_of_ble_eq_true rfl)) | lia | omega)) hA ?_)
  intro t₁ t₂ s' us' c hd' hs' hus'
  have W' := Wd.chg (X := [(sg, .list us), (d, .ns (lexL n t u st pb))]) (X' := [(sg, .list us'), (d, .ns (lexL (n + bump cs) t₂ u st pb))]) W c rfl (by
    intro p hp; simp only [List.mem_cons, List.not_mem_nil, or_false] at hp; rcases hp with rfl | rfl
    · exact hs'
    · exact hd')
  ((((with_reducible refine' st_local (by assumption) ?wr16 ?_); (case wr16 => ((with_reducible (repeat first | exact Wr.head | apply Wr.tail | (apply Wr.of; assumption))))); intro _ _)))
  rename_i s₂ W₂
  have hb := nl_bump cs
  have hl : cs.tail.length ≤ cs.length := by simp
  exact h s₂ ⟨us', _, t₂, ta, t₁, hus', by (first | with_reducible assumption | exact Nat.le_of_ble_eq_true rfl | exact Nat.add_le_add_left (Nat.le_of_ble_eq_true rfl) _ | exact Nat.le_trans (by assumption) (Nat.le_of_ble_eq_true rfl) | exact Nat.lt_of_le_of_lt (by assumption) (Nat.le_of_ble_eq_true rfl) | exact Nat.le_trans (Nat.le_of_eq (by assumption)) (Nat.le_trans (by assumption) (Nat.le_of_ble_eq_true rfl)) | lia | omega), fun z hz => h3 z (List.mem_of_mem_tail hz), by (first | with_reducible assumption | exact Nat.le_of_ble_eq_true rfl | exact Nat.add_le_add_left (Nat.le_of_ble_eq_true rfl) _ | exact Nat.le_trans (by assumption) (Nat.le_of_ble_eq_true rfl) | exact Nat.lt_of_le_of_lt (by assumption) (Nat.le_of_ble_eq_true rfl) | exact Nat.le_trans (Nat.le_of_eq (by assumption)) (Nat.le_trans (by assumption) (Nat.le_of_ble_eq_true rfl)) | lia | omega), W₂⟩
noncomputable def escY (c : Nat) (cs : List Nat) : Str := if c = 92 then headS cs else one c
noncomputable def escR (c : Nat) (cs : List Nat) : List Nat := if c = 92 then cs.tail else cs
theorem one_bs (c : Nat) : (one c == Str.ofString "\\") = decide (c = 92) := by
  have : Str.ofString "\\" = one 92 := by decide
  rw [this]; unfold one
  by_cases h : c = 92
  · subst h; simp
  · simp [h]
theorem one_qt (c : Nat) : (one c == Str.ofString "\"") = decide (c = 34) := by
  have : Str.ofString "\"" = one 34 := by decide
  rw [this]; unfold one
  by_cases h : c = 34
  · subst h; simp
  · simp [h]
theorem escY_len (c : Nat) (cs : List Nat) : (escY c cs).cps.toList.length ≤ 1 := by
  unfold escY
  split
  · cases cs <;> simp [headS, one]
    decide
  · simp [one]
theorem gc_esc {c : Nat} {q0 q1 q2 q3 p0 p1 p2 p3 p4 : Pos} {rest : List Stmt} {Q : Flow → Shared → Prop} (H : GC P s₀ B₀ env B x d st sg pb it m u N acc cs o (one c) s) (R : LexAt P B x d st sg) (hA : AOk A (k + 6)) (hp : Nat.beq p2.endLine p3.line = true)
    (h : ∀ s', GC P s₀ B₀ env B x d st sg pb it m u N acc (escR c cs) o (escY c cs) s' → wpAny (model prog w) A (execs rest env) Q E s') :
    wpAny (model prog w) A (execs (.If (.Compare (.Name (Str.ofString "ch") q0) [.Eq] [.Constant (.str (Str.ofString "\\")) 0 q1] q2)
      [.Assign [.Name (Str.ofString "ch") p0] (.Call (.Attribute (.Name (Str.ofString "self") p1) (Str.ofString "_read_char") p2) [] [] p3) p4] [] q3 :: rest) env) Q E s := by
  ((with_reducible refine' ifs ?_))
  with_reducible refine' gc_eq (kd := 0) (M := model prog w) H ?_
  intro s₁ H₁
  rw [one_bs]
  by_cases hc : c = 92
  · subst hc
    rw [if_pos (by simp)]
    refine gc_read H₁ R hA hp fun s₂ H₂ => wpAny_execs_nil (h s₂ ?_)
    unfold escY escR; rw [if_pos rfl, if_pos rfl]; exact H₂
  · rw [if_neg (by simpa using hc)]
    refine wpAny_execs_nil (h s₁ ?_)
    unfold escY escR; rw [if_neg hc, if_neg hc]; exact H₁
theorem tokQ_step {c : Nat} (h : c ≠ 34) : tokQ acc (c :: cs) = tokQ (acc ++ (escY c cs).cps.toList) (escR c cs) := by
  unfold escY escR
  by_cases hc : c = 92
  · subst hc
    rw [if_pos rfl, if_pos rfl]
    cases cs with
    | nil => unfold tokQ; simp [headS]; decide
    | cons e cs => conv => lhs; unfold tokQ
                   rw [if_neg h, if_pos rfl]; rfl
  · rw [if_neg hc, if_neg hc]
    conv => lhs; unfold tokQ
    rw [if_neg h, if_neg hc]; rfl
theorem tokW_step {c : Nat} (h : white c = false) : tokW acc (c :: cs) = tokW (acc ++ (escY c cs).cps.toList) (escR c cs) := by
  unfold escY escR
  by_cases hc : c = 92
  · subst hc
    rw [if_pos rfl, if_pos rfl]
    cases cs with
    | nil => unfold tokW; simp [headS]; decide
    | cons e cs => conv => lhs; unfold tokW
                   rw [if_neg (by rw [h]; simp), if_pos rfl]; rfl
  · rw [if_neg hc, if_neg hc]
    conv => lhs; unfold tokW
    rw [if_neg (by rw [h]; simp), if_neg hc]; rfl
theorem escR_len (c : Nat) (cs : List Nat) : (escR c cs).length < (c :: cs).length := by unfold escR; split <;> simp <;> (first | with_reducible assumption | exact Nat.le_of_ble_eq_true rfl | exact Nat.add_le_add_left (Nat.le_of_ble_eq_true rfl) _ | exact Nat.le_trans (by assumption) (Nat.le_of_ble_eq_true rfl) | exact Nat.lt_of_le_of_lt (by assumption) (Nat.le_of_ble_eq_true rfl) | exact Nat.le_trans (Nat.le_of_eq (by assumption)) (Nat.le_trans (by assumption) (Nat.le_of_ble_eq_true rfl)) | lia | omega)
theorem gc_token {M : Model} {p : Pos} {Q : Value → Shared → Prop} (H : GC P s₀ B₀ env B x d st sg pb it m u N acc cs o y s) (h : ∀ ty, Q (.str (txt acc) ty) s) : wpAny M A (eval (.Name (Str.ofString "token") p) env) Q E s := by
  obtain ⟨us, n, t, ta, ty, h1, h2, h3, h4, W⟩ := H
  exact ev_local W (.tail .head) (h _)

theorem loop_q {r0 r1 r2 a0 a1 a2 a3 a4 b0 b1 b2 b3 p0 p1 p2 p3 p4 c0 c1 c2 e0 : Pos} {Q : Flow → Shared → Prop} (H : GS P s₀ B₀ env B x d st sg pb it m u N acc cs (citObj m tt) s) (R : LexAt P B x d st sg) (hA : AOk A (k + 7)) (hp : Nat.beq p2.endLine p3.line = true)
    (hret : ∀ t s', GS P s₀ B₀ env B x d st sg pb it m u N (tokQ acc cs).1 (tokQ acc cs).2 (citObj m tt) s' → Q (.ret (.str (txt (tokQ acc cs).1) t)) s')
    (hend : ∀ s', (tokQ acc cs).2 = [] → GS P s₀ B₀ env B x d st sg pb it m u N (tokQ acc cs).1 [] citEnd s' → Q .next s') :
    wpAny (model prog w) A (exec (.For (.Name (Str.ofString "ch") r0) (.Name (Str.ofString "fiter") r1)
      [.If (.Compare (.Name (Str.ofString "ch") a0) [.Eq] [.Constant (.str (Str.ofString "\"")) 0 a1] a2) [.Return (some (.Name (Str.ofString "token") a3)) a4]
        [.If (.Compare (.Name (Str.ofString "ch") b0) [.Eq] [.Constant (.str (Str.ofString "\\")) 0 b1] b2)
          [.Assign [.Name (Str.ofString "ch") p0] (.Call (.Attribute (.Name (Str.ofString "self") p1) (Str.ofString "_read_char") p2) [] [] p3) p4] [] b3] e0,
       .AugAssign (.Name (Str.ofString "token") c0) .Add (.Name (Str.ofString "ch") c1) c2] [] r2) env) Q E s := by
  refine ex_for ?_ (fun _ => rfl)
  have hf : ∀ p (Q' : Value → Shared → Prop) E', Q' (.ref it) s → wpAny (model prog w) A (eval (.Name (Str.ofString "fiter") p) env) Q' E' s := by
    intro p Q' E' hq
    obtain ⟨us, n, t, ta, ty, h1, h2, h3, h4, W⟩ := H
    exact ev_local W (.tail (.tail .head)) hq
  refine hf _ _ _ ?_
  have hi : s.heap.get? it = some (citObj m tt) := by
    obtain ⟨us, n, t, ta, ty, h1, h2, h3, h4, W⟩ := H
    exact W.at (mem_t (mem_t mem_h))
  refine iter_cit hi ?_
  refine wpAny_runOwn (codeAny_forLoop_any (fun j s' => ∃ acc' cs', cs'.length = j ∧ tokQ acc' cs' = tokQ acc cs ∧ GS P s₀ B₀ env B x d st sg pb it m u N acc' cs' (citObj m tt) s') ?_ cs.length ⟨acc, cs, rfl, rfl, H⟩)
  rintro j s' ⟨acc', cs', rfl, e, H'⟩
  refine gs_next H' R hA ?_ ?_
  · rintro rfl s'' H''
    have e' : (acc', []) = tokQ acc cs := e
    exact wpAny_execs_nil (hend _ (by rw [← e']) (by rw [← e']; exact H''))
  · rintro c cs'' rfl hc t₁ s'' H'' hz
    refine wpAny_of_eq (a := ()) rfl (wpAny_assign_Name (gs_store H'' hz fun s₃ H₃ => ?_))
    with_reducible refine' ifs ?_
    with_reducible refine' gc_eq (kd := 0) (M := model prog w) H₃ ?_
    intro s₄ H₄
    rw [one_qt]
    by_cases hq : c = 34
    · subst hq
      rw [if_pos (by simp)]
      refine rets (gc_token H₄ fun ty => ?_)
      have e' : (acc', cs'') = tokQ acc cs := by rw [← e]; unfold tokQ; rw [if_pos rfl]
      have := hret ty s₄
      rw [← e'] at this
      exact this (gc_gs H₄)
    · rw [if_neg (by simpa using hq)]
      refine gc_esc (k := k + 1) H₄ R hA hp fun s₅ H₅ => wpAny_execs_nil ?_
      refine gc_add H₅ (escY_len _ _) fun s₆ H₆ => wpAny_execs_nil ?_
      exact ⟨_, escR_len c cs'', _, _, rfl, (tokQ_step hq).symm.trans e, H₆⟩
theorem loop_w {r0 r1 r2 a5 a0 a1 a2 a3 a4 b0 b1 b2 b3 p0 p1 p2 p3 p4 c0 c1 c2 e0 : Pos} {Q : Flow → Shared → Prop} (H : GS P s₀ B₀ env B x d st sg pb it m u N acc cs (citObj m tt) s) (R : LexAt P B x d st sg) (hA : AOk A (k + 7)) (hp : Nat.beq p2.endLine p3.line = true)
    (hret : ∀ t s', GS P s₀ B₀ env B x d st sg pb it m u N (tokW acc cs).1 (tokW acc cs).2 (citObj m tt) s' → Q (.ret (.str (txt (tokW acc cs).1) t)) s')
    (hend : ∀ s', (tokW acc cs).2 = [] → GS P s₀ B₀ env B x d st sg pb it m u N (tokW acc cs).1 [] citEnd s' → Q .next s') :
    wpAny (model prog w) A (exec (.For (.Name (Str.ofString "ch") r0) (.Name (Str.ofString "fiter") r1)
      [.If (.Compare (.Name (Str.ofString "ch") a0) [.In] [.Attribute (.Name (Str.ofString "self") a5) (Str.ofString "whitespace") a1] a2) [.Return (some (.Name (Str.ofString "token") a3)) a4]
        [.If (.Compare (.Name (Str.ofString "ch") b0) [.Eq] [.Constant (.str (Str.ofString "\\")) 0 b1] b2)
          [.Assign [.Name (Str.ofString "ch") p0] (.Call (.Attribute (.Name (Str.ofString "self") p1) (Str.ofString "_read_char") p2) [] [] p3) p4] [] b3] e0,
       .AugAssign (.Name (Str.ofString "token") c0) .Add (.Name (Str.ofString "ch") c1) c2] [] r2) env) Q E s := by
  have hx := R.1
  refine ex_for ?_ (fun _ => rfl)
  have hf : ∀ p (Q' : Value → Shared → Prop) E', Q' (.ref it) s → wpAny (model prog w) A (eval (.Name (Str.ofString "fiter") p) env) Q' E' s := by
    intro p Q' E' hq
    obtain ⟨us, n, t, ta, ty, h1, h2, h3, h4, W⟩ := H
    exact ev_local W (.tail (.tail .head)) hq
  refine hf _ _ _ ?_
  have hi : s.heap.get? it = some (citObj m tt) := by
    obtain ⟨us, n, t, ta, ty, h1, h2, h3, h4, W⟩ := H
    exact W.at (mem_t (mem_t mem_h))
  refine iter_cit hi ?_
  refine wpAny_runOwn (codeAny_forLoop_any (fun j s' => ∃ acc' cs', cs'.length = j ∧ tokW acc' cs' = tokW acc cs ∧ GS P s₀ B₀ env B x d st sg pb it m u N acc' cs' (citObj m tt) s') ?_ cs.length ⟨acc, cs, rfl, rfl, H⟩)
  rintro j s' ⟨acc', cs', rfl, e, H'⟩
  refine gs_next H' R hA ?_ ?_
  · rintro rfl s'' H''
    have e' : (acc', []) = tokW acc cs := e
    exact wpAny_execs_nil (hend _ (by rw [← e']) (by rw [← e']; exact H''))
  · rintro c cs'' rfl hc t₁ s'' H'' hz
    refine wpAny_of_eq (a := ()) rfl (wpAny_assign_Name (gs_store H'' hz fun s₃ H₃ => ?_))
    with_reducible refine' ifs ?_
    with_reducible refine' gc_white H₃ hx hc ?_
    intro s₄ H₄
    by_cases hq : white c = true
    · rw [if_pos hq]
      refine rets (gc_token H₄ fun ty => ?_)
      have e' : (acc', cs'') = tokW acc cs := by rw [← e]; unfold tokW; rw [if_pos hq]
      have := hret ty s₄
      rw [← e'] at this
      exact this (gc_gs H₄)
    · rw [if_neg hq]
      refine gc_esc (k := k + 1) H₄ R hA hp fun s₅ H₅ => wpAny_execs_nil ?_
      refine gc_add H₅ (escY_len _ _) fun s₆ H₆ => wpAny_execs_nil ?_
      exact ⟨_, escR_len c cs'', _, _, rfl, (tokW_step (by simpa using hq)).symm.trans e, H₆⟩
theorem getTok_step {c : Nat} (h : white c = false) (hq : c ≠ 34) : getTok (c :: cs) = tokW ([] ++ (escY c cs).cps.toList) (escR c cs) := by
  unfold escY escR
  by_cases hc : c = 92
  · subst hc
    rw [if_pos rfl, if_pos rfl]
    cases cs with
    | nil => unfold getTok tokW; simp [headS]; decide
    | cons e cs => conv => lhs; unfold getTok
                   rw [if_neg (by rw [h]; simp), if_neg hq, if_pos rfl]; rfl
  · rw [if_neg hc, if_neg hc]
    conv => lhs; unfold getTok
    rw [if_neg (by rw [h]; simp), if_neg hq, if_neg hc]; rfl
theorem perm5 {α : Type} (a b c d e : α) : [a, b, c, d, e].Perm [c, d, a, b, e] := List.Perm.append_right [e] (List.perm_append_comm (l₁ := [a, b]) (l₂ := [c, d]))
theorem gs_token {M : Model} {p : Pos} {Q : Value → Shared → Prop} (H : GS P s₀ B₀ env B x d st sg pb it m u N acc cs o s) (h : ∀ ty, Q (.str (txt acc) ty) s) : wpAny M A (eval (.Name (Str.ofString "token") p) env) Q E s := by
  obtain ⟨us, n, t, ta, ty, h1, h2, h3, h4, W⟩ := H
  exact ev_local W (.tail .head) (h _)
end
theorem gt_code {prog : Program} {w : World} {A : Around} {E : Value → Shared → Prop} {P : Params} {s : Shared} {Q : Value → Shared → Prop} {k : Nat} {x d st sg pb : Addr} {us : List Value} {cs : List Nat} {n : Int} {t u : Tok}
    (S : Stat P (hide [sg, d, pb] s.heap.get?)) (hne : [sg, d, pb].Nodup) (R : LexAt P (hide [sg, d, pb] s.heap.get?) x d st sg) (hd' : (AO.ns (lexL n t u st pb)).Is s.heap.get? d) (hsg : (AO.list us).Is s.heap.get? sg) (hpb : (AO.list []).Is s.heap.get? pb)
    (hus : StrsAre us (cs.map one)) (hcs : ∀ c ∈ cs, c < 128) (hlen : cs.length ≤ 10000) (hA : AOk A (k + 10))
    (hQ : ∀ t₁ t₂ s' us', Chg [sg, d, pb] s s' → (AO.ns (lexL (n + nl cs - nl (getTok cs).2) t₂ u st pb)).Is s'.heap.get? d → (AO.list us').Is s'.heap.get? sg → StrsAre us' ((getTok cs).2.map one) → (AO.list []).Is s'.heap.get? pb → Q (.str (txt (getTok cs).1) t₁) s') :
    codeAny (model prog w) A (.call (.ref 49) ⟨[.ref x], []⟩) (RetR Q E) s := by
  have ho := hide_sub _ _ _ _ (S.K 49 _ rfl)
  have hc := hide_sub _ _ _ _ (S.K 48 _ rfl)
  refine code_fnM (P := P) (n := k + 9) (X := [(sg, .list us), (d, .ns (lexL n t u st pb)), (pb, .list [])]) S hne ?_ hA ho rfl rfl ⟨_, _, _, _, rfl, hc, rfl, rfl⟩ rfl rfl rfl rfl rfl ?_ ?_ ?_ (bind1 rfl) rfl ?_
  · intro p hp
    simp only [List.mem_cons, List.not_mem_nil, or_false] at hp
    rcases hp with rfl | rfl | rfl
    · exact hsg
    · exact hd'
    · exact hpb
  · decide
  · decide
  · decide
  clear ho hc
  intro env L s₂ henv W hA'
  clear henv
  replace W : Wd P s (hide [sg, d, pb] s.heap.get?) env gns (hide [sg, d, pb] s.heap.get?) s₂ [some (.ref x), none, none, none, none] [(sg, .list us), (d, .ns (lexL n t u st pb)), (pb, .list [])] := W
  obtain ⟨hx, RS⟩ := id R
  ((with_reducible refine' ifs ?_))
  with_reducible refine' test_attr ?_
  with_reducible refine' ev_attr rfl ?_
  ((((with_reducible refine' ev_local (by assumption) ?rd19 ?_); (case rd19 => ((with_reducible (repeat first | exact Rd.head | apply Rd.tail | (apply Rd.of; assumption))))))))
  with_reducible refine' at_get W hx (mem_t mem_h) (k_pushback P) rfl rfl ?_
  intro s₃ W₃
  with_reducible refine' tr_list W₃ (W₃.at (mem_t (mem_t mem_h))) (by simp) ?_
  intro s₄ W₄
  clear W W₃
  rw [if_neg (by simp)]
  with_reducible refine' wpAny_execs_nil ?_
  dsimp only
  ((((with_reducible refine' asgs ?nc20 ?_); (case nc20 => rfl))))
  ((((with_reducible refine' c_str (by assumption) ?_); intro _ _ _)))
  ((((with_reducible refine' st_local (by assumption) ?wr22 ?_); (case wr22 => ((with_reducible (repeat first | exact Wr.head | apply Wr.tail | (apply Wr.of; assumption))))); intro _ _)))
  ((((with_reducible refine' asgs ?nc23 ?_); (case nc23 => rfl))))
  rename_i t₅ s₅ W₅ s₆ W₆
  clear W₄ W₅
  with_reducible refine' call_b W₆ ?_ Blt.iter rfl ?_
  · ((with_reducible (repeat first | exact Kd.head | apply Kd.tail)))
  ((((with_reducible refine' args_c ?pa24 ?_); (case pa24 => rfl))))
  with_reducible refine' ev_attr rfl ?_
  ((((with_reducible refine' ev_local (by assumption) ?rd25 ?_); (case rd25 => ((with_reducible (repeat first | exact Rd.head | apply Rd.tail | (apply Rd.of; assumption))))))))
  obtain ⟨od, e1, e2, _⟩ := ns_of (W₆.at (mem_t mem_h))
  have hx6 := W₆.keep _ _ hx
  with_reducible refine' at_bound W₆.inK hx6 e1 (e2 _) ?_
  intro t₇
  have W₇ := W₆.push (o := methodObj (.ref 42) (.ref x)) (x := .obj (methodObj (.ref 42) (.ref x))) (t := t₇) (Heap.get?_push_size _ rfl)
  clear e1 e2 hx6
  generalize s₆.heap.objs.size = m at W₇ ⊢
  revert W₇
  generalize ({ s₆ with heap := s₆.heap.push (methodObj (.ref 42) (.ref x)), toks := t₇ } : Shared) = s₇
  intro W₇
  ((((with_reducible refine' args_c ?pa26 ?_); (case pa26 => rfl))))
  ((((with_reducible refine' c_str (by assumption) ?_); intro _ _ _)))
  rename_i t₈ s₈ W₈
  ((with_reducible refine' PyProof.Rows.args_nil ?_))
  have hm8 : s₈.heap.get? m = some (methodObj (.ref 42) (.ref x)) := W₈.at mem_h
  with_reducible refine' call_iter hm8 ?_
  clear hm8
  have W₉ := W₈.push (o := citObj m t₈) (x := .obj (citObj m t₈)) (t := s₈.toks) (Heap.get?_push_size _ rfl)
  clear W₇ W₆ W₈
  generalize s₈.heap.objs.size = it at W₉ ⊢
  revert W₉
  show Wd P s _ env gns _ ({ s₈ with heap := s₈.heap.push (citObj m t₈) } : Shared) _ _ → _
  generalize ({ s₈ with heap := s₈.heap.push (citObj m t₈) } : Shared) = s₉
  intro W₉
  ((((with_reducible refine' st_local (by assumption) ?wr29 ?_); (case wr29 => ((with_reducible (repeat first | exact Wr.head | apply Wr.tail | (apply Wr.of; assumption))))); intro _ _)))
  rename_i s₁₀ W₁₀
  clear W₉
  have H : GS P s (hide [sg, d, pb] s.heap.get?) env (hide [sg, d, pb] s.heap.get?) x d st sg pb it m u (n + nl cs) [] cs (citObj m t₈) s₁₀ :=
    ⟨us, n, t, t₅, none, hus, rfl, hcs, by simp; (first | with_reducible assumption | exact Nat.le_of_ble_eq_true rfl | exact Nat.add_le_add_left (Nat.le_of_ble_eq_true rfl) _ | exact Nat.le_trans (by assumption) (Nat.le_of_ble_eq_true rfl) | exact Nat.lt_of_le_of_lt (by assumption) (Nat.le_of_ble_eq_true rfl) | exact Nat.le_trans (Nat.le_of_eq (by assumption)) (Nat.le_trans (by assumption) (Nat.le_of_ble_eq_true rfl)) | lia | omega), W₁₀.perm (perm5 _ _ _ _ _)⟩
  clear W₁₀
  have fin : ∀ o tk s', GS P s (hide [sg, d, pb] s.heap.get?) env (hide [sg, d, pb] s.heap.get?) x d st sg pb it m u (n + nl cs) (getTok cs).1 (getTok cs).2 o s' → Q (.str (txt (getTok cs).1) tk) s' := by
    intro o tk s' H'
    obtain ⟨us', n', t', ta', ch', h1, h2, h3, h4, W'⟩ := H'
    have en : n' = n + nl cs - nl (getTok cs).2 := by (first | with_reducible assumption | exact Nat.le_of_ble_eq_true rfl | exact Nat.add_le_add_left (Nat.le_of_ble_eq_true rfl) _ | exact Nat.le_trans (by assumption) (Nat.le_of_ble_eq_true rfl) | exact Nat.lt_of_le_of_lt (by assumption) (Nat.le_of_ble_eq_true rfl) | exact Nat.le_trans (Nat.le_of_eq (by assumption)) (Nat.le_trans (by assumption) (Nat.le_of_ble_eq_true rfl)) | lia | omega)
    exact hQ tk t' s' us' W'.doneX (by rw [← en]; exact W'.at (mem_t mem_h)) (W'.at mem_h) h1 (W'.at (mem_t (mem_t (mem_t (mem_t mem_h)))))
  have hf : ∀ p (Q' : Value → Shared → Prop) E', Q' (.ref it) s₁₀ → wpAny (model prog w) (A.deeper env) (eval (.Name (Str.ofString "fiter") p) env) Q' E' s₁₀ := by
    intro p Q' E' hq
    obtain ⟨us, n, t, ta, ty, h1, h2, h3, h4, W⟩ := H
    exact ev_local W (.tail (.tail .head)) hq
  have hi : s₁₀.heap.get? it = some (citObj m t₈) := by
    obtain ⟨us, n, t, ta, ty, h1, h2, h3, h4, W⟩ := H
    exact W.at (mem_t (mem_t mem_h))
  refine wpAny_execs_cons (ex_for ?_ (fun _ => rfl))
  refine hf _ _ _ (iter_cit hi ?_)
  refine wpAny_runOwn (codeAny_forLoop_any (fun j s' => (∃ cs', j = cs'.length + 1 ∧ getTok cs' = getTok cs ∧ GS P s (hide [sg, d, pb] s.heap.get?) env (hide [sg, d, pb] s.heap.get?) x d st sg pb it m u (n + nl cs) [] cs' (citObj m t₈) s') ∨
    (j = 0 ∧ (getTok cs).2 = [] ∧ GS P s (hide [sg, d, pb] s.heap.get?) env (hide [sg, d, pb] s.heap.get?) x d st sg pb it m u (n + nl cs) (getTok cs).1 [] citEnd s')) ?_ (cs.length + 1) (.inl ⟨cs, rfl, rfl, H⟩))
  have over : ∀ o s', GS P s (hide [sg, d, pb] s.heap.get?) env (hide [sg, d, pb] s.heap.get?) x d st sg pb it m u (n + nl cs) (getTok cs).1 (getTok cs).2 o s' → ∀ p p', wpAny (model prog w) (A.deeper env) (execs [.Return (some (.Name (Str.ofString "token") p)) p'] env) (fun fl s' => Q (match fl with | .ret v => v | _ => .none) s') (fun _ _ => False) s' := by
    intro o s' H' p p'
    exact rets (gs_token H' fun ty => fin o ty s' H')
  rintro j s' (⟨cs', rfl, e, H'⟩ | ⟨rfl, e, H'⟩)
  · refine gs_next (k := k + 2) H' R hA' ?_ ?_
    · rintro rfl s'' H''
      refine wpAny_execs_nil ?_
      refine over citEnd s'' ?_ _ _
      rw [← e]; exact H''
    · rintro c cs'' rfl hc t₁ s'' H'' hz
      refine wpAny_of_eq (a := ()) rfl (wpAny_assign_Name (gs_store H'' hz fun s₃ H₃ => ?_))
      with_reducible refine' ifs ?_
      with_reducible refine' gc_white H₃ hx hc ?_
      intro s₄ H₄
      by_cases hw : white c = true
      · rw [if_pos hw]
        refine wpAny_execs_cons ?_
        show wpAny _ _ (do standAt _; pure Flow.cont) _ _ _
        refine wpAny_bind (wpAny_standAt (wpAny_pure ?_))
        refine ⟨cs''.length + 1, by simp, .inl ⟨cs'', rfl, ?_, gc_gs H₄⟩⟩
        rw [← e]; conv => rhs; unfold getTok
        rw [if_pos hw]
      · rw [if_neg hw]
        refine wpAny_execs_nil ?_
        with_reducible refine' ifs ?_
        with_reducible refine' gc_eq (kd := 0) (M := model prog w) H₄ ?_
        intro s₅ H₅
        rw [one_qt]
        by_cases hq : c = 34
        · subst hq
          rw [if_pos (by simp)]
          have e' : tokQ [] cs'' = getTok cs := by rw [← e]; conv => rhs; unfold getTok
                                                   rw [if_neg hw, if_pos rfl]
          refine wpAny_execs_cons (loop_q (k := k + 2) (gc_gs H₅) R hA' rfl ?_ ?_)
          · intro tk s₆ H₆
            rw [e'] at H₆ ⊢
            exact fin _ tk s₆ H₆
          · intro s₆ h₆ H₆
            rw [e'] at H₆ h₆
            refine wpAny_execs_nil (wpAny_execs_nil ?_)
            exact ⟨0, by (first | with_reducible assumption | exact Nat.le_of_ble_eq_true rfl | exact Nat.add_le_add_left (Nat.le_of_ble_eq_true rfl) _ | exact Nat.le_trans (by assumption) (Nat.le_of_ble_eq_true rfl) | exact Nat.lt_of_le_of_lt (by assumption) (Nat.le_of_ble_eq_true rfl) | exact Nat.le_trans (Nat.le_of_eq (by assumption)) (Nat.le_trans (by assumption) (Nat.le_of_ble_eq_true rfl)) | lia | omega), .inr ⟨rfl, h₆, H₆⟩⟩
        · rw [if_neg (by simpa using hq)]
          refine gc_esc (k := k + 3) H₅ R hA' rfl fun s₆ H₆ => ?_
          refine gc_add H₆ (escY_len _ _) fun s₇ H₇ => ?_
          have e' : tokW ([] ++ (escY c cs'').cps.toList) (escR c cs'') = getTok cs := (getTok_step (by simpa using hw) hq).symm.trans e
          refine wpAny_execs_cons (loop_w (k := k + 2) H₇ R hA' rfl ?_ ?_)
          · intro tk s₈ H₈
            rw [e'] at H₈ ⊢
            exact fin _ tk s₈ H₈
          · intro s₈ h₈ H₈
            rw [e'] at H₈ h₈
            refine wpAny_execs_nil (wpAny_execs_nil ?_)
            exact ⟨0, by (first | with_reducible assumption | exact Nat.le_of_ble_eq_true rfl | exact Nat.add_le_add_left (Nat.le_of_ble_eq_true rfl) _ | exact Nat.le_trans (by assumption) (Nat.le_of_ble_eq_true rfl) | exact Nat.lt_of_le_of_lt (by assumption) (Nat.le_of_ble_eq_true rfl) | exact Nat.le_trans (Nat.le_of_eq (by assumption)) (Nat.le_trans (by assumption) (Nat.le_of_ble_eq_true rfl)) | lia | omega), .inr ⟨rfl, h₈, H₈⟩⟩
  · refine gs_stop H' hA'.handled fun s'' H'' => wpAny_execs_nil ?_
    refine over citEnd s'' ?_ _ _
    rw [e]; exact H''
end
-- Tk2
section
open PySem PySem.W PyProof.Rows PyProof.V PySem.SeqAt
theorem gt_pop {prog : Program} {w : World} {A : Around} {E : Value → Shared → Prop} {P : Params} {s : Shared} {Q : Value → Shared → Prop} {k : Nat} {x d st sg pb : Addr} {us : List Value} {v : Value} {ps : List Value} {n : Int} {t u : Tok}
    (S : Stat P (hide [sg, d, pb] s.heap.get?)) (hne : [sg, d, pb].Nodup) (R : LexAt P (hide [sg, d, pb] s.heap.get?) x d st sg) (hd' : (AO.ns (lexL n t u st pb)).Is s.heap.get? d) (hsg : (AO.list us).Is s.heap.get? sg) (hpb : (AO.list (v :: ps)).Is s.heap.get? pb)
    (hlen : ps.length ≤ 10000) (hA : AOk A (k + 1))
    (hQ : ∀ s', Chg [sg, d, pb] s s' → (AO.ns (lexL n t u st pb)).Is s'.heap.get? d → (AO.list us).Is s'.heap.get? sg → (AO.list ps).Is s'.heap.get? pb → Q v s') :
    codeAny (model prog w) A (.call (.ref 49) ⟨[.ref x], []⟩) (RetR Q E) s := by
  have ho := hide_sub _ _ _ _ (S.K 49 _ rfl)
  have hc := hide_sub _ _ _ _ (S.K 48 _ rfl)
  refine code_fnM (P := P) (n := k) (X := [(sg, .list us), (d, .ns (lexL n t u st pb)), (pb, .list (v :: ps))]) S hne ?_ hA ho rfl rfl ⟨_, _, _, _, rfl, hc, rfl, rfl⟩ rfl rfl rfl rfl rfl ?_ ?_ ?_ (bind1 rfl) rfl ?_
  · intro p hp
    simp only [List.mem_cons, List.not_mem_nil, or_false] at hp
    rcases hp with rfl | rfl | rfl
    · exact hsg
    · exact hd'
    · exact hpb
  · decide
  · decide
  · decide
  clear ho hc
  intro env L s₂ henv W hA'
  clear henv
  replace W : Wd P s (hide [sg, d, pb] s.heap.get?) env gns (hide [sg, d, pb] s.heap.get?) s₂ [some (.ref x), none, none, none, none] [(sg, .list us), (d, .ns (lexL n t u st pb)), (pb, .list (v :: ps))] := W
  obtain ⟨hx, RS⟩ := id R
  ((with_reducible refine' ifs ?_))
  with_reducible refine' test_attr ?_
  with_reducible refine' ev_attr rfl ?_
  ((((with_reducible refine' ev_local (by assumption) ?rd2 ?_); (case rd2 => ((with_reducible (repeat first | exact Rd.head | apply Rd.tail | (apply Rd.of; assumption))))))))
  with_reducible refine' at_get W hx (mem_t mem_h) (k_pushback P) rfl rfl ?_
  intro s₃ W₃
  with_reducible refine' tr_list W₃ (W₃.at (mem_t (mem_t mem_h))) (by simp; (first | with_reducible assumption | exact Nat.le_of_ble_eq_true rfl | exact Nat.add_le_add_left (Nat.le_of_ble_eq_true rfl) _ | exact Nat.le_trans (by assumption) (Nat.le_of_ble_eq_true rfl) | exact Nat.lt_of_le_of_lt (by assumption) (Nat.le_of_ble_eq_true rfl) | exact Nat.le_trans (Nat.le_of_eq (by assumption)) (Nat.le_trans (by assumption) (Nat.le_of_ble_eq_true rfl)) | lia | omega)) ?_
  intro s₄ W₄
  clear W W₃
  rw [if_pos (by simp)]
  ((with_reducible refine' rets ?_))
  ((((with_reducible refine' call_meth ?sd4 ?_); (case sd4 => rfl))))
  with_reducible refine' ev_attr rfl ?_
  ((((with_reducible refine' ev_local (by assumption) ?rd5 ?_); (case rd5 => ((with_reducible (repeat first | exact Rd.head | apply Rd.tail | (apply Rd.of; assumption))))))))
  with_reducible refine' at_get W₄ hx (mem_t mem_h) (k_pushback P) rfl rfl ?_
  intro s₅ W₅
  with_reducible refine' gm_pop (W₅.at (mem_t (mem_t mem_h))) ?_
  ((((with_reducible refine' with_builtin ?sd6 ?_); (case sd6 => rfl))))
  ((((with_reducible refine' args_c ?pa7 ?_); (case pa7 => rfl))))
  ((((with_reducible refine' c_int (by assumption) ?_); intro _ _ _)))
  rename_i t₆ s₆ W₆
  ((with_reducible refine' PyProof.Rows.args_nil ?_))
  show wpAny _ _ (call (.builtin "list.pop") [.ref pb, .int 0 t₆]) _ _ _
  with_reducible refine' l_pop0 W₆ (.tail (.tail .head)) ?_ ?_
  · rw [sizeLine_eq]; (first | with_reducible assumption | exact Nat.le_of_ble_eq_true rfl | exact Nat.add_le_add_left (Nat.le_of_ble_eq_true rfl) _ | exact Nat.le_trans (by assumption) (Nat.le_of_ble_eq_true rfl) | exact Nat.lt_of_le_of_lt (by assumption) (Nat.le_of_ble_eq_true rfl) | exact Nat.le_trans (Nat.le_of_eq (by assumption)) (Nat.le_trans (by assumption) (Nat.le_of_ble_eq_true rfl)) | lia | omega)
  intro s₇ W₇
  exact hQ _ W₇.doneX (W₇.at (mem_t mem_h)) (W₇.at mem_h) (W₇.at (mem_t (mem_t mem_h)))

theorem pt_code {prog : Program} {w : World} {A : Around} {E : Value → Shared → Prop} {P : Params} {s : Shared} {Q : Value → Shared → Prop} {k : Nat} {x d st sg pb : Addr} {us : List Value} {v : Value} {ps : List Value} {n : Int} {t u : Tok}
    (S : Stat P (hide [sg, d, pb] s.heap.get?)) (hne : [sg, d, pb].Nodup) (R : LexAt P (hide [sg, d, pb] s.heap.get?) x d st sg) (hd' : (AO.ns (lexL n t u st pb)).Is s.heap.get? d) (hsg : (AO.list us).Is s.heap.get? sg) (hpb : (AO.list ps).Is s.heap.get? pb)
    (hlen : ps.length ≤ 10000) (hA : AOk A (k + 1))
    (hQ : ∀ s', Chg [sg, d, pb] s s' → (AO.ns (lexL n t u st pb)).Is s'.heap.get? d → (AO.list us).Is s'.heap.get? sg → (AO.list (ps ++ [v])).Is s'.heap.get? pb → Q .none s') :
    codeAny (model prog w) A (.call (.ref 56) ⟨[.ref x, v], []⟩) (RetR Q E) s := by
  have ho := hide_sub _ _ _ _ (S.K 56 _ rfl)
  have hc := hide_sub _ _ _ _ (S.K 55 _ rfl)
  refine code_fnM (P := P) (n := k) (X := [(sg, .list us), (d, .ns (lexL n t u st pb)), (pb, .list ps)]) S hne ?_ hA ho rfl rfl ⟨_, _, _, _, rfl, hc, rfl, rfl⟩ rfl rfl rfl rfl rfl ?_ ?_ ?_ (bind2 rfl ?_) rfl ?_
  · intro p hp
    simp only [List.mem_cons, List.not_mem_nil, or_false] at hp
    rcases hp with rfl | rfl | rfl
    · exact hsg
    · exact hd'
    · exact hpb
  · decide
  · decide
  · decide
  · decide
  clear ho hc
  intro env L s₂ henv W hA'
  clear henv
  replace W : Wd P s (hide [sg, d, pb] s.heap.get?) env [(Str.ofString "self", .local), (Str.ofString "token", .local)] (hide [sg, d, pb] s.heap.get?) s₂ [some (.ref x), some v] [(sg, .list us), (d, .ns (lexL n t u st pb)), (pb, .list ps)] := W
  obtain ⟨hx, RS⟩ := id R
  ((((with_reducible refine' exprs (by assumption) ?nc10 ?_); (case nc10 => rfl))))
  ((((with_reducible refine' call_meth ?sd11 ?_); (case sd11 => rfl))))
  with_reducible refine' ev_attr rfl ?_
  ((((with_reducible refine' ev_local (by assumption) ?rd12 ?_); (case rd12 => ((with_reducible (repeat first | exact Rd.head | apply Rd.tail | (apply Rd.of; assumption))))))))
  with_reducible refine' at_get W hx (mem_t mem_h) (k_pushback P) rfl rfl ?_
  intro s₃ W₃
  with_reducible refine' gm_append (W₃.at (mem_t (mem_t mem_h))) ?_
  ((((with_reducible refine' with_builtin ?sd13 ?_); (case sd13 => rfl))))
  ((((with_reducible refine' args_c ?pa14 ?_); (case pa14 => rfl))))
  ((((with_reducible refine' ev_local (by assumption) ?rd15 ?_); (case rd15 => ((with_reducible (repeat first | exact Rd.head | apply Rd.tail | (apply Rd.of; assumption))))))))
  ((with_reducible refine' PyProof.Rows.args_nil ?_))
  show wpAny _ _ (call (.builtin "list.append") [.ref pb, v]) _ _ _
  with_reducible refine' l_append W₃ (.tail (.tail .head)) ?_ ?_
  · rw [sizeLine_eq]; (first | with_reducible assumption | exact Nat.le_of_ble_eq_true rfl | exact Nat.add_le_add_left (Nat.le_of_ble_eq_true rfl) _ | exact Nat.le_trans (by assumption) (Nat.le_of_ble_eq_true rfl) | exact Nat.lt_of_le_of_lt (by assumption) (Nat.le_of_ble_eq_true rfl) | exact Nat.le_trans (Nat.le_of_eq (by assumption)) (Nat.le_trans (by assumption) (Nat.le_of_ble_eq_true rfl)) | lia | omega)
  intro s₄ W₄
  refine ⟨rfl, wpAny_execs_nil ?_⟩
  exact hQ _ W₄.doneX (W₄.at (mem_t mem_h)) (W₄.at mem_h) (W₄.at (mem_t (mem_t mem_h)))
end
-- Mak
section
open PySem PySem.W PyProof.Rows PyProof.V PySem.SeqAt
theorem init_code {prog : Program} {w : World} {A : Around} {E : Value → Shared → Prop} {P : Params} {s : Shared} {Q : Value → Shared → Prop} {k : Nat} {x d st : Addr}
    (S : Stat P (hide [d] s.heap.get?)) (hx : hide [d] s.heap.get? x = some (instObj 59 d)) (hd' : (AO.ns []).Is s.heap.get? d) (hA : AOk A (k + 1))
    (hQ : ∀ pb t u s', Chg [d] s s' → (AO.ns (lexL 1 t u st pb)).Is s'.heap.get? d → (AO.list []).Is s'.heap.get? pb → hide [d] s.heap.get? pb = none → pb ≠ d → Q .none s') :
    codeAny (model prog w) A (.call (.ref 35) ⟨[.ref x, .ref st], []⟩) (RetR Q E) s := by
  have ho := hide_sub _ _ _ _ (S.K 35 _ rfl)
  have hc := hide_sub _ _ _ _ (S.K 34 _ rfl)
  refine code_fnM (P := P) (n := k) (X := [(d, .ns [])]) S (by simp) ?_ hA ho rfl rfl ⟨_, _, _, _, rfl, hc, rfl, rfl⟩ rfl rfl rfl rfl rfl ?_ ?_ ?_ (bind2 rfl ?_) rfl ?_
  · intro p hp
    simp only [List.mem_cons, List.not_mem_nil, or_false] at hp
    rcases hp with rfl
    exact hd'
  · decide
  · decide
  · decide
  · decide
  clear ho hc
  intro env L s₂ henv W hA'
  clear henv
  replace W : Wd P s (hide [d] s.heap.get?) env [(Str.ofString "self", .local), (Str.ofString "fp", .local)] (hide [d] s.heap.get?) s₂ [some (.ref x), some (.ref st)] [(d, .ns [])] := W
  with_reducible refine' asg_attr rfl ?_
  ((((with_reducible refine' c_int (by assumption) ?_); intro _ _ _)))
  rename_i t₁ s₁ W₁
  ((((with_reducible refine' ev_local (by assumption) ?rd2 ?_); (case rd2 => ((with_reducible (repeat first | exact Rd.head | apply Rd.tail | (apply Rd.of; assumption))))))))
  with_reducible refine' at_set (l' := [(Str.ofString "lineno", .int 1 t₁)]) W₁ hx .head (k_lineno P) ?_ ?_ ?_
  · intro y; rw [List.lookup_cons]; by_cases h : y = Str.ofString "lineno"
    · subst h; simp
    · rw [if_neg h, beq_eq_false_iff_ne.mpr h]
  · simp
  intro s₃ W₃
  with_reducible refine' asg_attr rfl ?_
  ((((with_reducible refine' ev_local (by assumption) ?rd3 ?_); (case rd3 => ((with_reducible (repeat first | exact Rd.head | apply Rd.tail | (apply Rd.of; assumption))))))))
  ((((with_reducible refine' ev_local (by assumption) ?rd4 ?_); (case rd4 => ((with_reducible (repeat first | exact Rd.head | apply Rd.tail | (apply Rd.of; assumption))))))))
  with_reducible refine' at_set (l' := [(Str.ofString "lineno", .int 1 t₁), (Str.ofString "instream", .ref st)]) W₃ hx .head (k_instream P) ?_ ?_ ?_
  · intro y; by_cases h : y = Str.ofString "instream"
    · subst h; rfl
    · rw [if_neg h]; simp only [List.lookup_cons, beq_eq_false_iff_ne.mpr h]
  · simp
  intro s₄ W₄
  with_reducible refine' asg_attr rfl ?_
  ((((with_reducible refine' c_str (by assumption) ?_); intro _ _ _)))
  rename_i t₅ s₅ W₅
  ((((with_reducible refine' ev_local (by assumption) ?rd6 ?_); (case rd6 => ((with_reducible (repeat first | exact Rd.head | apply Rd.tail | (apply Rd.of; assumption))))))))
  with_reducible refine' at_set (l' := [(Str.ofString "lineno", .int 1 t₁), (Str.ofString "instream", .ref st), (Str.ofString "whitespace", .str whiteS t₅)]) W₅ hx .head (k_whitespace P) ?_ ?_ ?_
  · intro y; by_cases h : y = Str.ofString "whitespace"
    · subst h; rfl
    · rw [if_neg h]; simp only [List.lookup_cons, beq_eq_false_iff_ne.mpr h]
  · simp
  intro s₆ W₆
  with_reducible refine' asg_attr rfl ?_
  ((with_reducible refine' PyProof.Rows.List_ ?_))
  ((with_reducible refine' PyProof.Rows.args_nil ?_))
  ((((with_reducible refine' new_list (by assumption) ?sz9 ?_); (case sz9 => exact Nat.le_of_ble_eq_true rfl); intro _ _ _)))
  rename_i D s₇ W₇
  ((((with_reducible refine' ev_local (by assumption) ?rd10 ?_); (case rd10 => ((with_reducible (repeat first | exact Rd.head | apply Rd.tail | (apply Rd.of; assumption))))))))
  with_reducible refine' at_set (l' := lexL 1 t₁ t₅ st D) W₇ hx (.tail .head) (k_pushback P) ?_ ?_ ?_
  · intro y; unfold lexL; by_cases h : y = Str.ofString "pushback"
    · subst h; rfl
    · rw [if_neg h]; simp only [List.lookup_cons, beq_eq_false_iff_ne.mpr h]
  · simp [lexL]
  intro s₈ W₈
  refine wpAny_execs_nil ?_
  have hne : D ≠ d := by
    have := (List.nodup_cons.mp W₈.apart).2
    simp only [List.map_cons, List.nodup_cons, List.mem_cons, not_or] at this
    exact this.1.1
  exact hQ D t₁ t₅ _ W₈.doneX (W₈.at (mem_t mem_h)) (W₈.at mem_h) (W₈.fresh D (by simp)) hne

theorem AOk.make {A : Around} {n : Nat} (h : AOk A (n + 1)) (a : Addr) (rest : List Value) : AOk (A.under (.builtin "type.__call__" ⟨.ref a :: rest, []⟩)) n := by
  have hw : (Code.builtin "type.__call__" ⟨.ref a :: rest, []⟩).weight ≤ 1 := by
    have : (Code.builtin "type.__call__" ⟨.ref a :: rest, []⟩).weight = 1 := by rfl
    (first | with_reducible assumption | exact Nat.le_of_ble_eq_true rfl | exact Nat.add_le_add_left (Nat.le_of_ble_eq_true rfl) _ | exact Nat.le_trans (by assumption) (Nat.le_of_ble_eq_true rfl) | exact Nat.lt_of_le_of_lt (by assumption) (Nat.le_of_ble_eq_true rfl) | exact Nat.le_trans (Nat.le_of_eq (by assumption)) (Nat.le_trans (by assumption) (Nat.le_of_ble_eq_true rfl)) | lia | omega)
  have hu : (Code.builtin "type.__call__" ⟨.ref a :: rest, []⟩).cUnits ≤ 20 := by
    have : (Code.builtin "type.__call__" ⟨.ref a :: rest, []⟩).cUnits = 1 := by rfl
    (first | with_reducible assumption | exact Nat.le_of_ble_eq_true rfl | exact Nat.add_le_add_left (Nat.le_of_ble_eq_true rfl) _ | exact Nat.le_trans (by assumption) (Nat.le_of_ble_eq_true rfl) | exact Nat.lt_of_le_of_lt (by assumption) (Nat.le_of_ble_eq_true rfl) | exact Nat.le_trans (Nat.le_of_eq (by assumption)) (Nat.le_trans (by assumption) (Nat.le_of_ble_eq_true rfl)) | lia | omega)
  refine ⟨h.handled, ?_, ?_⟩
  · have := h.depth; show A.depth + _ + n < _; (first | with_reducible assumption | exact Nat.le_of_ble_eq_true rfl | exact Nat.add_le_add_left (Nat.le_of_ble_eq_true rfl) _ | exact Nat.le_trans (by assumption) (Nat.le_of_ble_eq_true rfl) | exact Nat.lt_of_le_of_lt (by assumption) (Nat.le_of_ble_eq_true rfl) | exact Nat.le_trans (Nat.le_of_eq (by assumption)) (Nat.le_trans (by assumption) (Nat.le_of_ble_eq_true rfl)) | lia | omega)
  · have := h.units; show A.units + _ + 20 * n < _; (first | with_reducible assumption | exact Nat.le_of_ble_eq_true rfl | exact Nat.add_le_add_left (Nat.le_of_ble_eq_true rfl) _ | exact Nat.le_trans (by assumption) (Nat.le_of_ble_eq_true rfl) | exact Nat.lt_of_le_of_lt (by assumption) (Nat.le_of_ble_eq_true rfl) | exact Nat.le_trans (Nat.le_of_eq (by assumption)) (Nat.le_trans (by assumption) (Nat.le_of_ble_eq_true rfl)) | lia | omega)

theorem make_code {prog : Program} {w : World} {A : Around} {E : Value → Shared → Prop} {P : Params} {s : Shared} {Q : Value → Shared → Prop} {k : Nat} {st : Addr}
    (S : Stat P s.heap.get?) (hA : AOk A (k + 2))
    (hQ : ∀ x d pb t u s', Keeps s s' → s'.heap.get? x = some (instObj 59 d) → (AO.ns (lexL 1 t u st pb)).Is s'.heap.get? d → (AO.list []).Is s'.heap.get? pb → s.heap.get? x = none → s.heap.get? d = none → s.heap.get? pb = none → x ≠ d → pb ≠ d → pb ≠ x → Q (.ref x) s') :
    codeAny (model prog w) A (.call (.ref 59) ⟨[.ref st], []⟩) (RetR Q E) s := by
  obtain ⟨h, g, dr, tk, os⟩ := s
  have X : (hd.heap_39 P).In h := fun a o e => S.K a o e
  refine make_core (makes_of X (k_makes P)) (looks_findIn X (k_init P)) (fun self => bind_fn X self (t_35 P)) (.inl rfl) ?_
  have fresh : ∀ a, h.objs.size ≤ a → h.get? a = none := fun a ha => by
    cases e : h.get? a with
    | none => rfl
    | some o => exact absurd (Heap.lt_size e) (Nat.not_lt.mpr ha)
  have k1 : Sub h.get? ((h.push emptyDict).push (instObj 59 h.objs.size)).get? := fun b o e => Heap.get?_push_of_some _ (Heap.get?_push_of_some _ e)
  have ked : ((h.push emptyDict).push (instObj 59 h.objs.size)).get? h.objs.size = some emptyDict := Heap.get?_push_of_some _ (Heap.get?_push_size _ rfl)
  have kix : ((h.push emptyDict).push (instObj 59 h.objs.size)).get? (h.objs.size + 1) = some (instObj 59 h.objs.size) := by
    have := Heap.get?_push_size (h := h.push emptyDict) (o := instObj 59 h.objs.size) rfl
    rwa [Heap.size_push] at this
  have kh : Sub h.get? (hide [h.objs.size] ((h.push emptyDict).push (instObj 59 h.objs.size)).get?) := fun b o e => by
    unfold hide; rw [if_neg (by simp; exact Nat.ne_of_lt (Heap.lt_size e))]; exact k1 b o e
  refine codeAny_mono (init_code (Q := fun v s' => v = .none ∧ Q (.ref (h.objs.size + 1)) s') (E := E) (k := k) (x := h.objs.size + 1) (d := h.objs.size) (st := st) (S.mono kh) ?_ ?_ (hA.make 59 _) ?_) ?_
  · unfold hide; rw [if_neg (by simp)]; exact kix
  · exact ⟨_, #[], _, ked, rfl, by intro e he; simp at he, by intro n; rfl, by simp⟩
  · intro pb t u s' c e1 e2 e3 e4
    refine ⟨rfl, hQ (h.objs.size + 1) h.objs.size pb t u s' ?_ ?_ e1 e2 (fresh _ (Nat.le_succ _)) (fresh _ (Nat.le_refl _)) ?_ (Nat.succ_ne_self _) e4 ?_⟩
    · have hs := c.sub; have h1 := c.gens; have h2 := c.drawn; have h3 := c.osys
      refine ⟨s'.heap, s'.toks, ?_, fun b o e => hs b o (kh b o e)⟩
      cases s'; simp_all
    · exact c.sub _ _ (by unfold hide; rw [if_neg (by simp)]; exact kix)
    · cases e : h.get? pb with
      | none => rfl
      | some o => rw [kh _ _ e] at e3; cases e3
    · rintro rfl
      have : hide [h.objs.size] ((h.push emptyDict).push (instObj 59 h.objs.size)).get? (h.objs.size + 1) = some (instObj 59 h.objs.size) := by unfold hide; rw [if_neg (by simp)]; exact kix
      rw [this] at e3; cases e3
  · intro r s' z
    rcases r with e | (v | _ | _ | _)
    · exact z
    · exact z
    all_goals exact z
end
-- Stm
section
open PySem PySem.W PyProof.Rows PyProof.V PySem.SeqAt
noncomputable abbrev tab (ps : Array Value) : AO := .obj { cls := .none, data := .fields ps }
section
variable {M : Model} {A : Around} {E : Value → Shared → Prop} {P : Params} {s₀ s : Shared} {B₀ : G} {env : Env} {ns : List (Str × NameKind)} {B : G} {vs : List (Option Value)} {os : List (Addr × AO)}
theorem isCode {ps : Array Value} (S : Stat P s.heap.get?) (h99 : (tab ps).Is s.heap.get? 99) (ht : TriplesOk ps.toList) : s.heap.IsCode 103 99 ps := by
  have hc := S.K 103 _ rfl
  exact ⟨_, _, _, _, _, _, _, _, _, _, hc, rfl, rfl, rfl, rfl, rfl, rfl, h99, rfl, ht, by decide⟩
theorem tableAt {ps : Array Value} (S : Stat P s.heap.get?) (h99 : (tab ps).Is s.heap.get? 99) : s.heap.TableAt 103 99 ps := by
  have hc := S.K 103 _ rfl
  exact ⟨⟨_, _, hc, rfl, rfl, rfl⟩, h99⟩
theorem fc_new {ps : Array Value} {pos : Pos} {fl : Nat} {name qualname : Str} {pa : Arguments} {scope : Scope} {body : FuncBody} {Q : Value → Shared → Prop} (W : Wd P s₀ B₀ env ns B s vs ((99, tab ps) :: os)) (hcode : env.code = .ref 103)
    (hnf : codeAmong pos ps.toList = none) (htr : TriplesOk ps.toList)
    (h : ∀ c' s', Wd P s₀ B₀ env ns B s' vs ((99, tab (ps ++ #[rawInt pos.line, rawInt pos.col, .ref c'])) :: os) → CodeG s'.heap.get? (.ref c') qualname → s.heap.get? c' = none → Q (.ref c') s') :
    wpAny M A (functionCode env pos fl name qualname pa scope body) Q E s := by
  refine wpAny_functionCodeX hcode (isCode W.st (W.at mem_h) htr) (tableAt W.st (W.at mem_h)) hnf fun c' h' tk hx hge hlt hok' hrec htab' hP => ?_
  refine h c' _ (W.upd (t := tk) .head (show (tab _).Is h'.get? 99 from htab'.2) hx) hrec ?_
  cases e : s.heap.get? c' with
  | none => rfl
  | some o => exact absurd (Heap.lt_size e) (Nat.not_lt.mpr hge)
theorem fc_hit {ps : Array Value} {pos : Pos} {fl : Nat} {name qualname : Str} {pa : Arguments} {scope : Scope} {body : FuncBody} {c' : Value} {Q : Value → Shared → Prop} (S : Stat P s.heap.get?) (h99 : (tab ps).Is s.heap.get? 99) (hcode : env.code = .ref 103)
    (hf : codeAmong pos ps.toList = some c') (htr : TriplesOk ps.toList) (h : Q c' s) : wpAny M A (functionCode env pos fl name qualname pa scope body) Q E s :=
  wpAny_functionCode_hit hcode (isCode S h99 htr) hf h
end
end
-- Sta
section
open PySem PySem.W PyProof.Rows PyProof.V PySem.SeqAt PySem.Builtin.ObjectAttr
/-! ### behind a call: new objects join the base -/
noncomputable def grow (B : G) (s s' : Shared) (Y : List Addr) : G := fun a => if (s.heap.get? a).isNone then (if a ∈ Y then none else s'.heap.get? a) else B a
theorem grow_new {B : G} {s s' : Shared} {Y : List Addr} {a : Addr} (h : s.heap.get? a = none) (hY : a ∉ Y) : grow B s s' Y a = s'.heap.get? a := by unfold grow; rw [if_pos (by rw [h]; rfl), if_neg hY]
theorem grow_old {B : G} {s s' : Shared} {Y : List Addr} {a : Addr} {o : Obj} (h : s.heap.get? a = some o) : grow B s s' Y a = B a := by unfold grow; rw [if_neg (by rw [h]; simp)]
theorem grow_sub {B : G} {s s' : Shared} {Y : List Addr} (k : Sub B s.heap.get?) : Sub B (grow B s s' Y) := fun b o e => by rw [grow_old (k b o e)]; exact e
theorem AO.Is.grown {B : G} {s s' : Shared} {Y : List Addr} {a : Addr} {x : AO} (h : x.Is s'.heap.get? a) (hn : s.heap.get? a = none) (hY : a ∉ Y) : x.Is (grow B s s' Y) a := h.at fun o e => by rw [grow_new hn hY]; exact e
section
variable {P : Params} {s₀ : Shared} {B₀ : G} {env : Env} {ns : List (Str × NameKind)} {B : G} {s s' : Shared} {vs : List (Option Value)} {os : List (Addr × AO)}
theorem Wd.stands (W : Wd P s₀ B₀ env ns B s vs os) {a : Addr} (h : a ∈ env.locals :: os.map Prod.fst) : ∃ o, s.heap.get? a = some o := by
  cases e : s.heap.get? a with
  | none => exact absurd h (W.not_in e)
  | some o => exact ⟨o, rfl⟩
theorem Wd.call {X X' Y : List (Addr × AO)} (W : Wd P s₀ B₀ env ns B s vs (X ++ os)) (c : Chg (X.map Prod.fst) s s') (hn : X'.map Prod.fst = X.map Prod.fst) (hX : ∀ p ∈ X', p.2.Is s'.heap.get? p.1)
    (hYn : (Y.map Prod.fst).Nodup) (hYf : ∀ p ∈ Y, s.heap.get? p.1 = none) (hY : ∀ p ∈ Y, p.2.Is s'.heap.get? p.1) : Wd P s₀ B₀ env ns (grow B s s' (Y.map Prod.fst)) s' vs (Y ++ (X' ++ os)) := by
  have W' := W.chg c hn hX
  have names : (X' ++ os).map Prod.fst = (X ++ os).map Prod.fst := by rw [List.map_append, List.map_append, hn]
  have hYf' : ∀ a ∈ Y.map Prod.fst, s.heap.get? a = none := fun a ha => by obtain ⟨p, hp, rfl⟩ := List.mem_map.mp ha; exact hYf p hp
  refine { W' with
    sub := W.sub.trans (grow_sub W.keep), stat := W.stat.mono (grow_sub W.keep)
    keep := fun b o e => ?_
    objs := fun p hp => ?_
    apart := ?_
    fresh := fun a ha => ?_ }
  · cases q : s.heap.get? b with
    | none =>
      by_cases hb : b ∈ Y.map Prod.fst
      · unfold grow at e; rw [if_pos (by rw [q]; rfl), if_pos hb] at e; cases e
      · rwa [grow_new q hb] at e
    | some o' => rw [grow_old q] at e; exact W'.keep b o e
  · rcases List.mem_append.mp hp with hp | hp
    · exact hY p hp
    · exact W'.objs p hp
  · rw [List.map_append]
    have h1 := W'.apart
    refine (List.perm_middle (a := env.locals) (l₁ := Y.map Prod.fst) (l₂ := (X' ++ os).map Prod.fst)).nodup_iff.mp ?_
    refine List.nodup_append.mpr ⟨hYn, h1, fun a ha b hb e => ?_⟩
    subst e
    rw [names] at hb
    obtain ⟨o, ho⟩ := W.stands hb
    rw [hYf' a ha] at ho; cases ho
  · rw [List.map_append] at ha
    have : a ∈ Y.map Prod.fst ∨ a ∈ env.locals :: (X ++ os).map Prod.fst := by
      rcases List.mem_cons.mp ha with e | ha
      · exact .inr (e ▸ List.mem_cons_self)
      · rcases List.mem_append.mp ha with ha | ha
        · exact .inl ha
        · exact .inr (List.mem_cons_of_mem _ (names ▸ ha))
    rcases this with h | h
    · unfold grow; rw [if_pos (by rw [hYf' a h]; rfl), if_pos h]
    · obtain ⟨o, ho⟩ := W.stands h
      rw [grow_old ho]; exact W.fresh a h
theorem chg_nil {s s' : Shared} (c : Chg [] s s') : Keeps s s' := by
  have h0 := c.sub; have h1 := c.gens; have h2 := c.drawn; have h3 := c.osys
  refine ⟨s'.heap, s'.toks, ?_, fun b o e => h0 b o (by unfold hide; rw [if_neg (by simp)]; exact e)⟩
  cases s'; cases s; simp_all
theorem chg_keeps {X : List Addr} {s s' : Shared} (k : Keeps s s') : Chg X s s' := by obtain ⟨h, t, rfl, k⟩ := k; exact ⟨fun b o e => k b o (hide_sub _ _ b o e), rfl, rfl, rfl⟩
end

section
variable {prog : Program} {w : World} {A : Around} {E : Value → Shared → Prop} {s : Shared} {env : Env} {x : Str} {t u : Tok}
variable {P : Params} {s₀ : Shared} {B₀ : G} {ns : List (Str × NameKind)} {B : G} {vs vs' : List (Option Value)} {os os' : List (Addr × AO)} {Q : Value → Shared → Prop}

theorem strs_of_get : ∀ (vs : List Value) (cs : List Nat), vs.length = cs.length → (∀ (j : Nat) (v : Value), vs[j]? = some v → ∃ c u, cs[j]? = some c ∧ v = Value.str (one c) u) → StrsAre vs (cs.map one)
  | [], [], _, _ => .nil
  | [], _ :: _, h, _ => by simp at h
  | _ :: _, [], h, _ => by simp at h
  | v :: vs, c :: cs, h, k => by
    obtain ⟨c', u, e, rfl⟩ := k 0 v rfl
    simp at e; subst e
    exact .cons _ _ (strs_of_get vs cs (by simpa using h) fun j v e => by simpa using k (j + 1) v (by simpa using e))
theorem l_text (W : Wd P s₀ B₀ env ns B s vs os) (hh : A.handled = none) (hsz : x.length ≤ 100000) (h : ∀ D ys s', StrsAre ys (x.cps.toList.map one) → Wd P s₀ B₀ env ns B s' vs ((D, .list ys) :: os) → Q (.ref D) s') :
    wpAny (model prog w) A (call (.type "list") [.str x t]) Q E s := by
  refine call_list_str hh x t (fun h' tk acc' c' hk hS' hacc => ?_) (by rw [sizeLine_eq]; have : x.cps.size = x.length := rfl; (first | with_reducible assumption | exact Nat.le_of_ble_eq_true rfl | exact Nat.add_le_add_left (Nat.le_of_ble_eq_true rfl) _ | exact Nat.le_trans (by assumption) (Nat.le_of_ble_eq_true rfl) | exact Nat.lt_of_le_of_lt (by assumption) (Nat.le_of_ble_eq_true rfl) | exact Nat.le_trans (Nat.le_of_eq (by assumption)) (Nat.le_trans (by assumption) (Nat.le_of_ble_eq_true rfl)) | lia | omega))
  have hnone : s.heap.get? s.heap.objs.size = none := by
    cases e : s.heap.get? s.heap.objs.size with
    | none => rfl
    | some o => exact absurd (Heap.lt_size e) (Nat.lt_irrefl _)
  refine h _ acc'.toList _ ?_ (W.add ⟨h', tk, rfl, hk⟩ (x := .list acc'.toList) ⟨c', by simpa using hS'⟩ hnone)
  refine strs_of_get _ _ (by simp [hacc.1]) fun j v hv => ?_
  obtain ⟨c, u, hc, rfl⟩ := hacc.2 j v (by simpa using hv)
  exact ⟨c, u, by simpa using hc, rfl⟩

/-! ### making functions -/
theorem Wd.bat {g : Heap} (S : Stat P B) (k : Sub B g.get?) (h99 : B 99 = none ∨ ∃ ps, B 99 = some (tabObj ps)) : ∃ mg, g.Ns mainGlobals mg ∧ g.BuiltinsAt mg 99 := by
  obtain ⟨mg, bm, o, a, b, c, d, e1, e2, e3⟩ := S.bmod
  refine ⟨mg, a.mono k, bm, o, b, c, fun q => ?_, fun q => ?_, k _ _ d, e1, e2, e3⟩
  · obtain ⟨o', es, ep, e, hd, _⟩ := a
    rw [q, e] at d; cases d; rw [hd] at e3; cases e3
  · rw [q] at d
    rcases h99 with h | ⟨ps, h⟩
    · rw [h] at d; cases d
    · rw [h] at d; cases d; cases e1
theorem codeHd103 {h : Heap} (S : Stat P h.get?) : CodeHd h 103 99 := codeHd_of_K (K := hd.heap_39 P) (fun a o e => S.K a o e) (by kernel_rfl)

theorem mk_newS {M : Model} {name qual : Str} {params : Arguments} {body : List Stmt} {scope : Scope} {clos : List (Str × Addr)} {ps : Array Value} {pos : Pos} {fl : Nat} {osf : Addr → List (Addr × AO)} (W : Wd P s₀ B₀ env ns B s vs os)
    (U : ∀ c', Upd 99 (tab ps) (tab (ps ++ #[rawInt pos.line, rawInt pos.col, .ref c'])) os (osf c')) (hcode : env.code = .ref 103) (hcl : closureFor scope env = pure clos) (ht : TriplesOk ps.toList) (hnf : codeAmong pos ps.toList = none)
    (h : ∀ f doc pm c' ctv B' s', Sub B B' → CodeG B' (.ref c') qual → s.heap.get? c' = none → Wd P s₀ B₀ env ns B' s' vs ((f, .obj (fnMade name qual params body scope clos doc pm c' ctv)) :: osf c') → Q (.ref f) s') :
    wpAny M A (makeFunction name qual params (.stmts body) scope env [] [] [] pos fl) Q E s := by
  have hP : s.heap.get? 99 = some (tabObj ps) := W.at (U 0).mem
  have hB : B 99 = none := W.fresh 99 (List.mem_cons_of_mem _ (List.mem_map.mpr ⟨_, (U 0).mem, rfl⟩))
  obtain ⟨mg, hg, hb⟩ := Wd.bat W.stat W.keep (.inl hB)
  refine makeFunction_K (mg := mg) hcl W.glo hg hcode (codeHd103 W.st) hP ht hnf (by decide) hb fun c' ctv doc h' tk hx hge hlt hrec htb => ?_
  have W1 := W.upd (t := tk) (U c') (show (tab _).Is h'.get? 99 from htb) hx
  have W2 := W1.push (o := fnMade name qual params body scope clos doc ((mg "__name__").getD .none) c' ctv) (x := .obj (fnMade name qual params body scope clos doc ((mg "__name__").getD .none) c' ctv)) (t := tk) (Heap.get?_push_size _ rfl)
  have hn : s.heap.get? c' = none := by
    cases e : s.heap.get? c' with
    | none => rfl
    | some o => exact absurd (Heap.lt_size e) (Nat.not_lt.mpr hge)
  refine h _ _ _ c' ctv _ _ W2.rebase.1 ?_ hn W2.rebase.2
  obtain ⟨c₂, oc, vs', t', e2, hoc, hd, hv⟩ := hrec
  cases e2
  refine ⟨c', oc, vs', t', rfl, ?_, hd, hv⟩
  unfold hide
  rw [if_neg]
  · exact Heap.get?_push_of_some _ hoc
  · intro hm
    rw [List.map_cons] at hm
    rcases List.mem_cons.mp hm with e | hm
    · obtain ⟨o, ho⟩ := W.stands (a := env.locals) List.mem_cons_self
      rw [← e, hn] at ho; cases ho
    · rcases List.mem_cons.mp hm with e | hm
      · exact absurd e (Nat.ne_of_lt hlt)
      · rw [(U c').names] at hm
        obtain ⟨o, ho⟩ := W.stands (List.mem_cons_of_mem _ hm)
        rw [hn] at ho; cases ho

theorem mk_newE {M : Model} {name qual : Str} {params : Arguments} {body : Expr} {scope : Scope} {clos : List (Str × Addr)} {ps : Array Value} {pos : Pos} {fl : Nat} {osf : Addr → List (Addr × AO)} (W : Wd P s₀ B₀ env ns B s vs os)
    (U : ∀ c', Upd 99 (tab ps) (tab (ps ++ #[rawInt pos.line, rawInt pos.col, .ref c'])) os (osf c')) (hcode : env.code = .ref 103) (hcl : closureFor scope env = pure clos) (ht : TriplesOk ps.toList) (hnf : codeAmong pos ps.toList = none)
    (h : ∀ f pm c' ctv B' s', Sub B B' → CodeG B' (.ref c') qual → s.heap.get? c' = none → Wd P s₀ B₀ env ns B' s' vs ((f, .obj (kla_obj name qual params body scope clos pm c' ctv)) :: osf c') → Q (.ref f) s') :
    wpAny M A (makeFunction name qual params (.expr body) scope env [] [] [] pos fl) Q E s := by
  have hP : s.heap.get? 99 = some (tabObj ps) := W.at (U 0).mem
  have hB : B 99 = none := W.fresh 99 (List.mem_cons_of_mem _ (List.mem_map.mpr ⟨_, (U 0).mem, rfl⟩))
  obtain ⟨mg, hg, hb⟩ := Wd.bat W.stat W.keep (.inl hB)
  refine kla_makeFunction (mg := mg) hcl W.glo hg hcode (codeHd103 W.st) hP ht hnf (by decide) hb fun c' ctv h' tk hx hge hlt hrec htb => ?_
  have W1 := W.upd (t := tk) (U c') (show (tab _).Is h'.get? 99 from htb) hx
  have W2 := W1.push (o := kla_obj name qual params body scope clos ((mg "__name__").getD .none) c' ctv) (x := .obj (kla_obj name qual params body scope clos ((mg "__name__").getD .none) c' ctv)) (t := tk) (Heap.get?_push_size _ rfl)
  have hn : s.heap.get? c' = none := by
    cases e : s.heap.get? c' with
    | none => rfl
    | some o => exact absurd (Heap.lt_size e) (Nat.not_lt.mpr hge)
  refine h _ _ c' ctv _ _ W2.rebase.1 ?_ hn W2.rebase.2
  obtain ⟨c₂, oc, vs', t', e2, hoc, hd, hv⟩ := hrec
  cases e2
  refine ⟨c', oc, vs', t', rfl, ?_, hd, hv⟩
  unfold hide
  rw [if_neg]
  · exact Heap.get?_push_of_some _ hoc
  · intro hm
    rw [List.map_cons] at hm
    rcases List.mem_cons.mp hm with e | hm
    · obtain ⟨o, ho⟩ := W.stands (a := env.locals) List.mem_cons_self
      rw [← e, hn] at ho; cases ho
    · rcases List.mem_cons.mp hm with e | hm
      · exact absurd e (Nat.ne_of_lt hlt)
      · rw [(U c').names] at hm
        obtain ⟨o, ho⟩ := W.stands (List.mem_cons_of_mem _ hm)
        rw [hn] at ho; cases ho

theorem mk_hitS {M : Model} {name qual : Str} {params : Arguments} {body : List Stmt} {scope : Scope} {clos : List (Str × Addr)} {ps : Array Value} {pos : Pos} {fl : Nat} {c' : Addr} (W : Wd P s₀ B₀ env ns B s vs os)
    (h99 : (tab ps).Is B 99) (hcode : env.code = .ref 103) (hcl : closureFor scope env = pure clos) (ht : TriplesOk ps.toList) (hf : codeAmong pos ps.toList = some (.ref c'))
    (h : ∀ f doc pm ctv s', Wd P s₀ B₀ env ns B s' vs ((f, .obj (fnMade name qual params body scope clos doc pm c' ctv)) :: os) → Q (.ref f) s') :
    wpAny M A (makeFunction name qual params (.stmts body) scope env [] [] [] pos fl) Q E s := by
  obtain ⟨mg, hg, hb⟩ := Wd.bat W.stat W.keep (.inr ⟨ps, h99⟩)
  refine makeFunction_hit (mg := mg) hcl W.glo hg hcode (codeHd103 W.st) (W.keep _ _ h99) ht hf hb fun ctv doc h' tk hk hsz => ?_
  have W1 := W.keeps (s' := { s with heap := h', toks := tk }) ⟨h', tk, rfl, hk⟩
  exact h _ _ _ ctv _ (W1.push (o := fnMade name qual params body scope clos doc ((mg "__name__").getD .none) c' ctv) (x := .obj (fnMade name qual params body scope clos doc ((mg "__name__").getD .none) c' ctv)) (t := tk) (Heap.get?_push_size _ rfl))
theorem mk_hitE {M : Model} {name qual : Str} {params : Arguments} {body : Expr} {scope : Scope} {clos : List (Str × Addr)} {ps : Array Value} {pos : Pos} {fl : Nat} {c' : Addr} (W : Wd P s₀ B₀ env ns B s vs os)
    (h99 : (tab ps).Is B 99) (hcode : env.code = .ref 103) (hcl : closureFor scope env = pure clos) (ht : TriplesOk ps.toList) (hf : codeAmong pos ps.toList = some (.ref c'))
    (h : ∀ f pm ctv s', Wd P s₀ B₀ env ns B s' vs ((f, .obj (kla_obj name qual params body scope clos pm c' ctv)) :: os) → Q (.ref f) s') :
    wpAny M A (makeFunction name qual params (.expr body) scope env [] [] [] pos fl) Q E s := by
  obtain ⟨mg, hg, hb⟩ := Wd.bat W.stat W.keep (.inr ⟨ps, h99⟩)
  refine kla_makeFunctionHit (mg := mg) hcl W.glo hg hcode (codeHd103 W.st) (W.keep _ _ h99) ht hf hb fun ctv h' tk hk hsz => ?_
  have W1 := W.keeps (s' := { s with heap := h', toks := tk }) ⟨h', tk, rfl, hk⟩
  exact h _ _ ctv _ (W1.push (o := kla_obj name qual params body scope clos ((mg "__name__").getD .none) c' ctv) (x := .obj (kla_obj name qual params body scope clos ((mg "__name__").getD .none) c' ctv)) (t := tk) (Heap.get?_push_size _ rfl))

/-! ### a function's attribute -/
theorem mro_fn : mroOf (.type "function") = pure [.type "function", .type "object"] := by kernel_rfl
theorem refuse_fn (self : Value) : refuseLoop self "__setattr__" [.type "function", .type "object"] = pure () := by kernel_rfl
theorem hasDict_fn : typeHasDict (.type "function") = true := by decide +kernel

theorem fn_set {f : Addr} {o : Obj} {fd : FuncData} {v : Value} {osf : Addr → List (Addr × AO)} {Q : Unit → Shared → Prop} (W : Wd P s₀ B₀ env ns B s vs os) (hc : o.cls = .type "function") (hdict : o.dict = none) (hdata : o.data = .func fd)
    (U : ∀ d, Upd f (.obj o) (.obj { o with dict := some d }) os (osf d))
    (h : ∀ d s', Wd P s₀ B₀ env ns B s' vs ((d, .ns [(Str.ofString "read", v)]) :: osf d) → Q () s') : wpAny (model prog w) A (setAttr (.ref f) (Str.ofString "read") v) Q E s := by
  have ho : s.heap.get? f = some o := W.at (U 0).mem
  have L0 : Looks (model prog w) s.heap (typeOf (.ref f)) (.type "function") := hc ▸ (Looks.ld ho).andThen .now
  refine wpAny_bind (wpAny_mkText (wpAny_bind (wpAny_bind (wpAny_bind (L0 _ _ _ _ (fun _ _ e => e) (looks_findIn W.inK (f_sa (P := P)) _ _ _ _ (fun _ _ e => e) (wpAny_holding ?_)))))))
  rw [PySem.F.store_object.slot.bind]
  refine wpAny_bind (wpAny_pure (wpAny_bind (wpAny_call ?_)))
  have SF := PySem.F.store_object
  have W' := W.toks (s.toks + 1)
  have sub : Looks (model prog w) s.heap (isInstance (.ref f) (.type "object")) true := L0.andThen (Looks.of_pure (by rw [isSubtype_type]; kernel_rfl))
  refine codeAny_call_builtin SF.slot.plain SF.entry (@check_slot (model prog w) _ _ { s with toks := s.toks + 1 } "object.__setattr__" "object" "__setattr__" (.ref f) [.str (Str.ofString "read") _, v] [] _ SF.kind SF.split sub (SF.args (.ref f) (.str (Str.ofString "read") _) v) ?_)
  show wpAny _ _ (Builtin.«object.__setattr__» ⟨[.ref f, .str (Str.ofString "read") _, v], []⟩) _ _ _
  rw [osa_eq, refuse_eq]
  refine wpAny_bind (wpAny_bind (L0 _ _ _ _ (fun _ _ e => e) ?_))
  rw [mro_fn]
  refine wpAny_bind (wpAny_pure ?_)
  rw [refuse_fn]
  refine wpAny_pure (wpAny_bind (L0 _ _ _ _ (fun _ _ e => e) (wpAny_bind (looks_findIn W.inK (f_read (P := P)) _ _ _ _ (fun _ _ e => e) ?_))))
  show wpAny _ _ (storeInOwnDict (.ref f) (.type "function") _ _ _ _) _ _ _
  unfold storeInOwnDict
  refine wpAny_bind (wpAny_pure ?_)
  rw [if_neg (by decide)]
  refine wpAny_bind ?_
  show wpAny _ _ (instanceDict f true) _ _ _
  unfold instanceDict
  refine wpAny_bind (wpAny_loadPart ho ?_)
  rw [hc]
  dsimp only
  rw [hdict]
  dsimp only
  rw [hasDict_fn, if_neg (by decide), hdata]
  refine wpAny_bind (wpAny_alloc ?_)
  dsimp only
  have Wp := W'.push (o := { cls := .type "dict", data := .dict #[] }) (x := .ns []) (t := s.toks + 1) ⟨_, #[], _, Heap.get?_push_size _ rfl, rfl, (by intro e he; simp at he), (by intro n; rfl), (by simp)⟩
  dsimp only at Wp
  have hne : s.heap.objs.size ≠ f := Nat.ne_of_gt (Heap.lt_size ho)
  have ho2 : (s.heap.push { cls := .type "dict", data := .dict #[] }).get? f = some o := Heap.get?_push_of_some _ ho
  refine wpAny_bind (wpAny_update ho2 ?_)
  have hu := Heap.get?_update_self (fun o => { o with dict := some s.heap.objs.size } : Obj → Obj) ho2 (by simp [Obj.isFreed, hdata])
  have Wu := Wp.upd (t := s.toks + 1) (.tail (U s.heap.objs.size)) (show (AO.obj _).Is _ f from hu) (Heap.SameBut.update ..).extBut
  refine wpAny_of_eq (a := some s.heap.objs.size) rfl ?_
  dsimp only
  unfold storeInDict
  refine wpAny_bind (wpAny_pure ?_)
  refine wpAny_bind ?_
  refine ns_put (l' := [(Str.ofString "read", v)]) (Wu.at mem_h) ?_ (.inr (by simp)) fun h' hn hs => ?_
  · intro y
    by_cases hy : y = Str.ofString "read"
    · subst hy; simp
    · simp [hy, List.lookup_cons, beq_eq_false_iff_ne.mpr hy]
  obtain ⟨o', ho', _, es, ep, hd2, hsz⟩ := ns_of hn
  refine wpAny_bind (wpAny_lookBehind ho' (by rw [hd2]; exact pastItsLine_dict (by rw [sizeLine_eq]; simp at hsz; (first | with_reducible assumption | exact Nat.le_of_ble_eq_true rfl | exact Nat.add_le_add_left (Nat.le_of_ble_eq_true rfl) _ | exact Nat.le_trans (by assumption) (Nat.le_of_ble_eq_true rfl) | exact Nat.lt_of_le_of_lt (by assumption) (Nat.le_of_ble_eq_true rfl) | exact Nat.le_trans (Nat.le_of_eq (by assumption)) (Nat.le_trans (by assumption) (Nat.le_of_ble_eq_true rfl)) | lia | omega))) ?_)
  exact wpAny_pure (wpAny_pure (wpAny_pure (h _ _ (Wu.upd (t := _) .head hn hs.extBut))))
end
end
-- Stc
section
open PySem PySem.W PyProof.Rows PyProof.V PySem.SeqAt
section
variable {prog : Program} {w : World} {A : Around} {E : Value → Shared → Prop} {P : Params} {s : Shared}

theorem code_fnCM {f : Addr} {o : Obj} {fd : FuncData} {body : List Stmt} {args : List Value} {Q : Value → Shared → Prop} {n : Nat} {binds : List (Str × Value)} {X : List (Addr × AO)}
    (S : Stat P (hide (X.map Prod.fst) s.heap.get?)) (hXn : (X.map Prod.fst).Nodup) (hX : ∀ p ∈ X, p.2.Is s.heap.get? p.1)
    (hA : AOk A (n + 1)) (ho : s.heap.get? f = some o) (hd : o.data = .func fd) (hbody : fd.body = .stmts body)
    (hcode : s.heap.CodeRec fd.code fd.qualname) (hco : fd.scope.isCoroutine = false) (hgen : fd.scope.isGenerator = false) (hkind : fd.scope.kind = .function)
    (hglo : fd.globals = mainGlobals) (hblt : fd.builtins = builtinsNs) (hclo : fd.closure = [])
    (hnd : (fd.scope.names.map Prod.fst).Nodup) (hdb : ∀ p ∈ fd.scope.names, (p.1 == ("__debug__" : Str)) = false)
    (hbind : bindArgs fd ⟨args, []⟩ = pure binds)
    (hbk : (binds.all fun y => fd.scope.names.lookup y.1 == some .local || fd.scope.names.lookup y.1 == some .cell) = true)
    (hcn : ((cellsFrom 0 fd.scope.names []).map (·.1)).Nodup)
    (h : ∀ env L s₂, env = callEnvC fd L f → env.cells = cellsFrom (L + 1) fd.scope.names [] → Wd P s (hide (X.map Prod.fst) s.heap.get?) env fd.scope.names (hide (X.map Prod.fst) s.heap.get?) s₂ (fd.scope.names.map fun p => bindL (fun x => fd.scope.names.lookup x) binds (fun _ => none) p.1)
        (((cellsFrom (L + 1) fd.scope.names []).map fun p => (p.2, .cell (bindC (fun x => fd.scope.names.lookup x) binds (fun _ => none) p.1))) ++ X) → AOk (A.deeper env) n →
        wpAny (model prog w) (A.deeper env) (execs body env) (fun fl s' => Q (match fl with | .ret v => v | _ => .none) s') (fun _ _ => False) s₂) :
    codeAny (model prog w) A (.call (.ref f) ⟨args, []⟩) (RetR Q E) s := by
  have nl : s.heap.NoLimit := let ⟨mc, a, b⟩ := S.nolimit; ⟨mc, a.mono (hide_sub _ _), b⟩
  refine codeAny_call_cells (by have := hA.depth; (first | with_reducible assumption | exact Nat.le_of_ble_eq_true rfl | exact Nat.add_le_add_left (Nat.le_of_ble_eq_true rfl) _ | exact Nat.le_trans (by assumption) (Nat.le_of_ble_eq_true rfl) | exact Nat.lt_of_le_of_lt (by assumption) (Nat.le_of_ble_eq_true rfl) | exact Nat.le_trans (Nat.le_of_eq (by assumption)) (Nat.le_trans (by assumption) (Nat.le_of_ble_eq_true rfl)) | lia | omega)) ho hd nl hcode hbody hbind hclo (kindsX hbk _) (fun s₁ I => ?_) hco hgen hkind
  refine wpAny_mono (h (callEnvC fd s.heap.objs.size f) s.heap.objs.size s₁ rfl rfl ?_ (hA.deeper _)) (fun fl s' z => z) fun _ _ x => x.elim
  obtain ⟨h1, t1, rfl, hk1⟩ := I.done
  have hlt : ∀ n c, (n, c) ∈ cellsFrom (s.heap.objs.size + 1) fd.scope.names [] → s.heap.objs.size < c := fun n c hm => I.above n c hm
  have fresh : ∀ a, s.heap.objs.size ≤ a → hide (X.map Prod.fst) s.heap.get? a = none := fun a ha => by
    cases e : hide (X.map Prod.fst) s.heap.get? a with
    | none => rfl
    | some o => exact absurd (Heap.lt_size (hide_sub _ _ _ _ e)) (Nat.not_lt.mpr ha)
  have hLX : ∀ p ∈ X, p.1 < s.heap.objs.size := fun p hp => by obtain ⟨o, ho⟩ := (hX p hp).some; exact Heap.lt_size ho
  refine { names := rfl, kind := hkind, glo := hglo, blt := hblt, nd := hnd, nodebug := hdb, gens := rfl, drawn := rfl, osys := rfl, sub := .refl _, stat := S, keep := (hide_sub _ _).trans hk1,
           loc := ⟨_, I.toInCall.ns, ?_⟩, objs := fun p hp => ?_, apart := ?_, fresh := fun a ha => ?_ }
  · show LocIs (bindL _ binds _) fd.scope.names _
    generalize hg : bindL (callEnvC fd s.heap.objs.size f).kindOf binds (fun _ => none) = m
    have : (fun (p : Str × NameKind) => bindL (fun x => fd.scope.names.lookup x) binds (fun _ => none) p.1) = fun p => m p.1 := by rw [← hg]; rfl
    rw [this]
    generalize fd.scope.names = l
    induction l with
    | nil => unfold LocIs; trivial
    | cons p l ih => exact ⟨fun v e => e, ih⟩
  · rcases List.mem_append.mp hp with hp | hp
    · obtain ⟨q, hq, rfl⟩ := List.mem_map.mp hp
      have hnd' : ((cellsFrom (s.heap.objs.size + 1) fd.scope.names []).map (·.1)).Nodup := by
        have key : ∀ (names : List (Str × NameKind)) (n m : Nat) (acc acc' : List (Str × Addr)), acc.map (·.1) = acc'.map (·.1) → (cellsFrom n names acc).map (·.1) = (cellsFrom m names acc').map (·.1) := by
          intro names
          induction names with
          | nil => intro n m acc acc' h; exact h
          | cons p r ih =>
            intro n m acc acc' h
            obtain ⟨x, k⟩ := p
            unfold cellsFrom
            split
            · exact ih _ _ _ _ (by simp [h])
            · exact ih _ _ _ _ h
        rw [key _ _ 0 _ [] rfl]; exact hcn
      have hlook : (cellsFrom (s.heap.objs.size + 1) fd.scope.names []).lookup q.1 = some q.2 := by
        clear hp hbind hbk h I hlt hcn
        generalize cellsFrom (s.heap.objs.size + 1) fd.scope.names [] = l at hq hnd' ⊢
        induction l with
        | nil => cases hq
        | cons p r ih =>
          rw [List.map_cons, List.nodup_cons] at hnd'
          rcases List.mem_cons.mp hq with rfl | hq
          · exact List.lookup_cons_self
          · have : q.1 ≠ p.1 := fun e => hnd'.1 (e ▸ List.mem_map.mpr ⟨_, hq, rfl⟩)
            rw [List.lookup_cons, beq_eq_false_iff_ne.mpr this]
            exact ih hq hnd'.2
      exact I.cell q.1 q.2 hlook
    · exact (hX p hp).mono hk1
  · show ((callEnvC fd s.heap.objs.size f).locals :: _).Nodup
    rw [List.nodup_cons, List.map_append, List.map_map]
    constructor
    · intro hm
      rcases List.mem_append.mp hm with hm | hm
      · obtain ⟨q, hq, e⟩ := List.mem_map.mp hm
        exact absurd e (Nat.ne_of_gt (hlt q.1 q.2 hq))
      · obtain ⟨q, hq, e⟩ := List.mem_map.mp hm
        exact absurd e (Nat.ne_of_lt (hLX q hq))
    · refine List.nodup_append.mpr ⟨List.pairwise_map.mpr (I.apart), hXn, fun a ha b hb e => ?_⟩
      obtain ⟨q, hq, rfl⟩ := List.mem_map.mp ha
      obtain ⟨p, hp, rfl⟩ := List.mem_map.mp hb
      exact absurd e (Nat.ne_of_gt (Nat.lt_trans (hLX p hp) (hlt q.1 q.2 hq)))
  · rcases List.mem_cons.mp ha with rfl | ha
    · exact fresh _ (Nat.le_refl _)
    · rw [List.map_append, List.map_map] at ha
      rcases List.mem_append.mp ha with ha | ha
      · obtain ⟨q, hq, rfl⟩ := List.mem_map.mp ha
        exact fresh _ (Nat.le_of_lt (hlt q.1 q.2 hq))
      · unfold hide; rw [if_pos ha]
end

/-! ### the stream -/
noncomputable def qRead : Str := Str.ofString "_law_stream.<locals>.read"
noncomputable def tab2 (c1 c2 : Addr) : Array Value := #[rawInt 94, rawInt 4, .ref c1, rawInt 96, rawInt 13, .ref c2]
noncomputable def TabAt (g : G) : Prop := ∃ c1 c2, (tab (tab2 c1 c2)).Is g 99 ∧ CodeG g (.ref c1) qRead
theorem TabAt.mono {g g' : G} (h : TabAt g) (k : Sub g g') : TabAt g' := let ⟨c1, c2, a, b⟩ := h; ⟨c1, c2, a.mono k, b.mono k⟩
noncomputable def TabS (X : List (Addr × AO)) (B : G) : Prop := X = [(99, tab #[])] ∨ (X = [] ∧ TabAt B)
noncomputable def TabE (X X' : List (Addr × AO)) (s s' : Shared) : Prop := (X = [(99, tab #[])] ∧ ∃ c1 c2, X' = [(99, tab (tab2 c1 c2))] ∧ CodeG s'.heap.get? (.ref c1) qRead ∧ s.heap.get? c1 = none) ∨ (X = [] ∧ X' = [])

theorem Wd.ownX {P : Params} {env : Env} {ns : List (Str × NameKind)} {B : G} {vs : List (Option Value)} {os : List (Addr × AO)} {X : List Addr} {s s' : Shared} {D : Addr} {x : AO} (W : Wd P s (hide X s.heap.get?) env ns B s' vs os) (h : (D, x) ∈ os) (hD : D ∉ X) : s.heap.get? D = none := by
  cases e : s.heap.get? D with
  | none => rfl
  | some o =>
    have := W.fresh D (List.mem_cons_of_mem _ (List.mem_map.mpr ⟨_, h, rfl⟩))
    rw [W.sub D o (by unfold hide; rw [if_neg hD]; exact e)] at this; cases this


noncomputable def p94 : Pos := ⟨94, 4, 95, 50⟩
noncomputable def p96 : Pos := ⟨96, 13, 96, 25⟩

theorem Upd.last {a : Addr} {x x' : AO} : ∀ {os : List (Addr × AO)}, Upd a x x' (os ++ [(a, x)]) (os ++ [(a, x')])
  | [] => .head
  | _ :: r => .tail (Upd.last (os := r))
section
variable {M : Model} {A : Around} {E : Value → Shared → Prop} {s : Shared} {env : Env} {P : Params} {s₀ : Shared} {B₀ : G} {ns : List (Str × NameKind)} {B : G} {vs : List (Option Value)} {os X : List (Addr × AO)} {Q : Value → Shared → Prop}
  {name qual : Str} {params : Arguments} {scope : Scope} {clos : List (Str × Addr)} {ps : Array Value} {pos : Pos} {fl : Nat}
theorem mk_bothS {body : List Stmt} (W : Wd P s₀ B₀ env ns B s vs (os ++ X))
    (hT : (X = [(99, tab ps)] ∧ TriplesOk ps.toList ∧ codeAmong pos ps.toList = none) ∨ (X = [] ∧ ∃ ps' c', (tab ps').Is B 99 ∧ TriplesOk ps'.toList ∧ codeAmong pos ps'.toList = some (.ref c'))) (hcode : env.code = .ref 103) (hcl : closureFor scope env = pure clos)
    (h : ∀ f doc pm c' ctv B' s' X', ((X = [(99, tab ps)] ∧ X' = [(99, tab (ps ++ #[rawInt pos.line, rawInt pos.col, .ref c']))] ∧ s.heap.get? c' = none ∧ CodeG B' (.ref c') qual) ∨ (X = [] ∧ X' = [] ∧ ∃ ps', (tab ps').Is B 99 ∧ codeAmong pos ps'.toList = some (.ref c'))) →
      Sub B B' → Wd P s₀ B₀ env ns B' s' vs ((f, .obj (fnMade name qual params body scope clos doc pm c' ctv)) :: (os ++ X')) → Q (.ref f) s') :
    wpAny M A (makeFunction name qual params (.stmts body) scope env [] [] [] pos fl) Q E s := by
  rcases hT with ⟨rfl, h1, h2⟩ | ⟨rfl, ps', c', h1, h2, h3⟩
  · exact mk_newS W (fun c' => Upd.last) hcode hcl h1 h2 fun f doc pm c' ctv B' s' k1 k2 k3 W' => h f doc pm c' ctv B' s' _ (.inl ⟨rfl, rfl, k3, k2⟩) k1 W'
  · exact mk_hitS W h1 hcode hcl h2 h3 fun f doc pm ctv s' W' => h f doc pm c' ctv B s' [] (.inr ⟨rfl, rfl, ps', h1, h3⟩) (.refl _) W'
theorem mk_bothE {body : Expr} (W : Wd P s₀ B₀ env ns B s vs (os ++ X))
    (hT : (X = [(99, tab ps)] ∧ TriplesOk ps.toList ∧ codeAmong pos ps.toList = none) ∨ (X = [] ∧ ∃ ps' c', (tab ps').Is B 99 ∧ TriplesOk ps'.toList ∧ codeAmong pos ps'.toList = some (.ref c'))) (hcode : env.code = .ref 103) (hcl : closureFor scope env = pure clos)
    (h : ∀ f pm c' ctv B' s' X', ((X = [(99, tab ps)] ∧ X' = [(99, tab (ps ++ #[rawInt pos.line, rawInt pos.col, .ref c']))] ∧ s.heap.get? c' = none ∧ CodeG B' (.ref c') qual) ∨ (X = [] ∧ X' = [] ∧ ∃ ps', (tab ps').Is B 99 ∧ codeAmong pos ps'.toList = some (.ref c'))) →
      Sub B B' → Wd P s₀ B₀ env ns B' s' vs ((f, .obj (kla_obj name qual params body scope clos pm c' ctv)) :: (os ++ X')) → Q (.ref f) s') :
    wpAny M A (makeFunction name qual params (.expr body) scope env [] [] [] pos fl) Q E s := by
  rcases hT with ⟨rfl, h1, h2⟩ | ⟨rfl, ps', c', h1, h2, h3⟩
  · exact mk_newE W (fun c' => Upd.last) hcode hcl h1 h2 fun f pm c' ctv B' s' k1 k2 k3 W' => h f pm c' ctv B' s' _ (.inl ⟨rfl, rfl, k3, k2⟩) k1 W'
  · exact mk_hitE W h1 hcode hcl h2 h3 fun f pm ctv s' W' => h f pm c' ctv B s' [] (.inr ⟨rfl, rfl, ps', h1, h3⟩) (.refl _) W'
end

theorem stream_code {prog : Program} {w : World} {A : Around} {E : Value → Shared → Prop} {P : Params} {s : Shared} {Q : Value → Shared → Prop} {n : Nat} {x : Str} {t : Tok} {X : List (Addr × AO)} {B : G}
    (S : Stat P B) (hB : Sub B (hide (X.map Prod.fst) s.heap.get?)) (hX : ∀ p ∈ X, p.2.Is s.heap.get? p.1) (hT : TabS X B) (hA : AOk A (n + 1)) (hx : x.length ≤ 10000)
    (hQ : ∀ st sg ys X' s', Chg (X.map Prod.fst) s s' → TabE X X' s s' → X'.map Prod.fst = X.map Prod.fst → (∀ p ∈ X', p.2.Is s'.heap.get? p.1) → StrsAre ys (x.cps.toList.map one) → (AO.list ys).Is s'.heap.get? sg → s.heap.get? sg = none →
      StreamAt P (grow B s s' [sg]) st sg → Q (.ref st) s') :
    codeAny (model prog w) A (.call (.ref 104) ⟨[.str x t], []⟩) (RetR Q E) s := by
  have S' := S.mono hB
  have ho := hide_sub _ _ _ _ (S'.K 104 _ rfl)
  have hc := hide_sub _ _ _ _ (S'.K 103 _ rfl)
  have hXn : (X.map Prod.fst).Nodup := by rcases hT with rfl | ⟨rfl, _⟩ <;> simp
  refine code_fnCM (P := P) (n := n) (X := X) S' hXn hX hA ho rfl rfl ⟨_, _, _, _, rfl, hc, rfl, rfl⟩ rfl rfl rfl rfl rfl rfl ?_ ?_ (bind1 rfl) ?_ ?_ ?_
  · decide
  · decide
  · rfl
  · decide
  clear ho hc
  intro env L s₂ he hcells W hA'
  replace W : Wd P s (hide (X.map Prod.fst) s.heap.get?) env [("text", .local), ("read", .local), ("stream", .local), ("signs", .cell), ("list", .globalImplicit)] (hide (X.map Prod.fst) s.heap.get?) s₂ [some (.str x t), none, none, none, none]
    ([(L + 1, .cell none)] ++ X) := W
  replace hcells : env.cells = [((("signs" : Str)), L + 1)] := hcells
  have hcode : env.code = .ref 103 := by rw [he]; rfl
  have hqual : env.qual = Str.ofString "_law_stream.<locals>." := by rw [he]; rfl
  have hlk : env.cells.lookup (Str.ofString "signs") = some (L + 1) := by rw [hcells]; rfl
  clear he
  refine asgs ?_ ?_
  · rfl
  refine call_t W (.tail (.tail (.tail (.tail .head)))) .list ?_ ?_
  · rfl
  ((((with_reducible refine' args_c ?pa1 ?_); (case pa1 => rfl))))
  ((((with_reducible refine' ev_local (by assumption) ?rd2 ?_); (case rd2 => ((with_reducible (repeat first | exact Rd.head | apply Rd.tail | (apply Rd.of; assumption))))))))
  ((with_reducible refine' PyProof.Rows.args_nil ?_))
  refine l_text W hA'.handled (by (first | with_reducible assumption | exact Nat.le_of_ble_eq_true rfl | exact Nat.add_le_add_left (Nat.le_of_ble_eq_true rfl) _ | exact Nat.le_trans (by assumption) (Nat.le_of_ble_eq_true rfl) | exact Nat.lt_of_le_of_lt (by assumption) (Nat.le_of_ble_eq_true rfl) | exact Nat.le_trans (Nat.le_of_eq (by assumption)) (Nat.le_trans (by assumption) (Nat.le_of_ble_eq_true rfl)) | lia | omega)) (fun sg ys s₃ hys W₃ => ?_)
  refine st_cell W₃ (.tail (.tail (.tail .head))) hlk (.tail .head) (fun s₄ W₄ => ?_)
  clear W W₃
  have hq : qualnameIn env (Str.ofString "read") (Str.ofString "read") = qRead := by
    unfold qualnameIn
    rw [W₄.kd (.tail .head), hqual]
    rfl
  refine wpAny_execs_cons (nestDef_K rfl rfl rfl ?_)
  rw [hq]
  have W₄' : Wd P s (hide (X.map Prod.fst) s.heap.get?) env [("text", .local), ("read", .local), ("stream", .local), ("signs", .cell), ("list", .globalImplicit)] (hide (X.map Prod.fst) s.heap.get?) s₄ [some (.str x t), none, none, none, none]
    ([(sg, .list ys), (L + 1, .cell (some (.ref sg)))] ++ X) := W₄
  clear W₄
  have hT1 : (X = [(99, tab #[])] ∧ TriplesOk (#[] : Array Value).toList ∧ codeAmong p94 (#[] : Array Value).toList = none) ∨ (X = [] ∧ ∃ ps' c', (tab ps').Is (hide (X.map Prod.fst) s.heap.get?) 99 ∧ TriplesOk ps'.toList ∧ codeAmong p94 ps'.toList = some (.ref c')) := by
    rcases hT with h | ⟨h, c1, c2, h1, h2⟩
    · exact .inl ⟨h, trivial, rfl⟩
    · exact .inr ⟨h, tab2 c1 c2, c1, h1.mono hB, by simp [tab2, TriplesOk, rawInt], rfl⟩
  refine mk_bothS (pos := p94) W₄' hT1 hcode (by simp only [closureFor, cellOf, hcells]; rfl) ?_
  intro f1 doc pm c1 ctv B₅ s₅ X1 hX1 hB5 W₅
  refine st_local W₅ (.tail .head) (fun s₆ W₆ => ?_)
  show wpAny _ _ (execs _ env) _ _ _
  refine asgs ?_ ?_
  · rfl
  refine kla_eval rfl ?_
  generalize hrd : AO.obj (fnMade _ _ _ _ _ _ _ _ _ _) = rdo at W₆
  have W₆' : Wd P s (hide (X.map Prod.fst) s.heap.get?) env [("text", .local), ("read", .local), ("stream", .local), ("signs", .cell), ("list", .globalImplicit)] B₅ s₆ [some (.str x t), some (.ref f1), none, none, none]
    ([(f1, rdo), (sg, .list ys), (L + 1, .cell (some (.ref sg)))] ++ X1) := W₆
  have hT2 : (X1 = [(99, tab #[rawInt 94, rawInt 4, .ref c1])] ∧ TriplesOk (#[rawInt 94, rawInt 4, .ref c1] : Array Value).toList ∧ codeAmong p96 (#[rawInt 94, rawInt 4, .ref c1] : Array Value).toList = none) ∨
      (X1 = [] ∧ ∃ ps' c', (tab ps').Is B₅ 99 ∧ TriplesOk ps'.toList ∧ codeAmong p96 ps'.toList = some (.ref c')) := by
    rcases hX1 with ⟨_, h, _⟩ | ⟨hX0, h, _⟩
    · exact .inl ⟨h, by simp [TriplesOk, rawInt], rfl⟩
    · rcases hT with hq | ⟨_, d1, d2, h1, h2⟩
      · rw [hX0] at hq; cases hq
      · exact .inr ⟨h, tab2 d1 d2, d2, (h1.mono hB).mono hB5, by simp [tab2, TriplesOk, rawInt], rfl⟩
  clear W₆
  refine mk_bothE (pos := p96) W₆' hT2 hcode (closureFor_none (by decide)) ?_
  intro f2 pm2 c2 ctv2 B₇ s₇ X2 hX2 hB7 W₇
  refine st_local W₇ (.tail (.tail .head)) (fun s₈ W₈ => ?_)
  show wpAny _ _ (execs _ env) _ _ _
  refine asg_attr rfl ?_
  ((((with_reducible refine' ev_local (by assumption) ?rd4 ?_); (case rd4 => ((with_reducible (repeat first | exact Rd.head | apply Rd.tail | (apply Rd.of; assumption))))))))
  ((((with_reducible refine' ev_local (by assumption) ?rd5 ?_); (case rd5 => ((with_reducible (repeat first | exact Rd.head | apply Rd.tail | (apply Rd.of; assumption))))))))
  refine fn_set W₈ rfl rfl rfl (fun d => .head) (fun d s₉ W₉ => ?_)
  ((with_reducible refine' rets ?_))
  ((((with_reducible refine' ev_local (by assumption) ?rd7 ?_); (case rd7 => ((with_reducible (repeat first | exact Rd.head | apply Rd.tail | (apply Rd.of; assumption))))))))
  have hn2 : X2.map Prod.fst = X.map Prod.fst := by
    rcases hX2 with ⟨hh, h, _⟩ | ⟨h0, h, _⟩
    · rcases hX1 with ⟨h1, _⟩ | ⟨_, h2, _⟩
      · rw [h, h1]; rfl
      · rw [h2] at hh; cases hh
    · rcases hX1 with ⟨_, h2, _⟩ | ⟨h1, _, _⟩
      · rw [h2] at h0; cases h0
      · rw [h, h1]
  have W₉' : Wd P s (hide (X.map Prod.fst) s.heap.get?) env [("text", .local), ("read", .local), ("stream", .local), ("signs", .cell), ("list", .globalImplicit)] B₇ s₉ [some (.str x t), some (.ref f1), some (.ref f2), none, none]
    ([(d, .ns [(Str.ofString "read", .ref f1)]), (f2, _), (f1, rdo), (sg, .list ys), (L + 1, .cell (some (.ref sg)))] ++ X2) := W₉
  clear W₉
  have hnd := (List.nodup_cons.mp W₉'.apart).2
  rw [List.map_append, List.nodup_append] at hnd
  have new : ∀ {D : Addr} {y : AO}, (D, y) ∈ [(d, .ns [(Str.ofString "read", .ref f1)]), (f2, _), (f1, rdo), (sg, .list ys), (L + 1, .cell (some (.ref sg)))] → y.Is s₉.heap.get? D ∧ s.heap.get? D = none := fun {D y} hm => by
    have hm' := List.mem_append_left X2 hm
    refine ⟨W₉'.at hm', W₉'.ownX hm' (fun hx => ?_)⟩
    exact hnd.2.2 D (List.mem_map.mpr ⟨_, hm, rfl⟩) D (hn2 ▸ hx) rfl
  have hap := hnd.1
  simp only [List.map_cons, List.map_nil, List.nodup_cons, List.mem_cons, List.not_mem_nil, or_false, not_or] at hap
  have n1 := new mem_h
  have n2 := new (mem_t mem_h)
  have n3 := new (mem_t (mem_t mem_h))
  have n4 := new (mem_t (mem_t (mem_t mem_h)))
  have n5 := new (mem_t (mem_t (mem_t (mem_t mem_h))))
  subst hrd
  have hcd : CodeG (grow B s s₉ [sg]) (.ref c1) qRead := by
    rcases hX1 with ⟨h1, h2, h3, h4⟩ | ⟨h1, h2, ps', h3, h4⟩
    · have hs : s.heap.get? c1 = none := by
        cases e : s.heap.get? c1 with
        | none => rfl
        | some o =>
          have := W₄'.doneX.sub c1 o (by
            unfold hide; rw [if_neg]; exact e
            intro hm
            rw [h1] at hm
            have hm : c1 = 99 := by simpa using hm
            have h99 := W₄'.at (a := 99) (x := tab #[]) (by rw [h1]; simp)
            rw [← hm] at h99
            obtain ⟨o, h⟩ := h99.some
            rw [h3] at h; cases h)
          rw [h3] at this; cases this
      obtain ⟨c, o, vs', t', e1, e2, e3⟩ := (h4.mono hB7).mono W₉'.keep
      cases e1
      refine ⟨c1, o, vs', t', rfl, ?_, e3⟩
      rw [grow_new hs (fun hm => ?_)]; exact e2
      have hm : c1 = sg := by simpa using hm
      have hq := (h4.mono hB7)
      obtain ⟨c, o, _, _, e1, e2, _⟩ := hq
      cases e1
      rw [hm, W₉'.fresh sg (by simp)] at e2; cases e2
    · rcases hT with hq | ⟨_, d1, d2, k1, k2⟩
      · rw [h1] at hq; cases hq
      · have e99 : hide (X.map Prod.fst) s.heap.get? 99 = some (tabObj (tab2 d1 d2)) := k1.mono hB
        have h3' : hide (X.map Prod.fst) s.heap.get? 99 = some (tabObj ps') := h3
        rw [e99] at h3'
        have : tab2 d1 d2 = ps' := by injection h3' with h3'; injection h3' with _ _ h3'; injection h3'
        rw [← this] at h4
        have : d1 = c1 := by
          have h4' : some (Value.ref d1) = some (Value.ref c1) := h4
          injection h4' with h4'; injection h4'
        subst this
        exact k2.mono (grow_sub (hB.trans (hide_sub _ _)))
  have hsg : ∀ {D : Addr}, D ≠ sg → D ∉ [sg] := fun h hm => h (by simpa using hm)
  refine hQ f2 sg ys X2 s₉ W₉'.doneX ?_ hn2 (fun p hp => W₉'.at (List.mem_append_right _ hp)) hys n4.1 n4.2 ?_
  · rcases hX1 with ⟨h1, h2, h3, h4⟩ | ⟨h1, h2, ps', h3, h4⟩
    · rcases hX2 with ⟨k1, k2, k3, k4⟩ | ⟨k1, _⟩
      · refine .inl ⟨h1, c1, c2, k2, (h4.mono hB7).mono W₉'.keep, ?_⟩
        cases e : s.heap.get? c1 with
        | none => rfl
        | some o =>
          have := W₄'.doneX.sub c1 o (by
            unfold hide; rw [if_neg]; exact e
            intro hm
            rw [h1] at hm
            have hm : c1 = 99 := by simpa using hm
            have h99 := W₄'.at (a := 99) (x := tab #[]) (by rw [h1]; simp)
            rw [← hm] at h99
            obtain ⟨o, h⟩ := h99.some
            rw [h3] at h; cases h)
          rw [h3] at this; cases this
      · rw [k1] at h2; cases h2
    · rcases hX2 with ⟨k1, _⟩ | ⟨k1, k2, _⟩
      · rw [h2] at k1; cases k1
      · exact .inr ⟨h1, k2⟩
  · refine ⟨_, d, _, f1, (n2.1.grown n2.2 (hsg ?_) : (AO.obj _).Is _ _), rfl, rfl, rfl, n1.1.grown n1.2 (hsg ?_), ?_⟩
    · exact hap.2.1.2.1
    · exact hap.1.2.2.1
    · refine ⟨_, _, _, L + 1, (n3.1.grown n3.2 (hsg ?_) : (AO.obj _).Is _ _), rfl, rfl, rfl, rfl, rfl, rfl, rfl, rfl, hcd, n5.1.grown n5.2 (hsg ?_)⟩
      · exact hap.2.2.1.1
      · exact fun e => hap.2.2.2.1 e.symm
end
-- Law1
section

/-! ### the plain law of deeds -/
inductive D where
  | p (x : Bool)
  | t (x : Bool)
  deriving DecidableEq

noncomputable def act : List D → List Bool → Option (List Bool)
  | [], q => some q
  | .p x :: r, q => act r (q ++ [x])
  | .t _ :: _, [] => none
  | .t x :: r, y :: q => if y = x then act r q else none

noncomputable def takesD : List D → List Bool
  | [] => []
  | .p _ :: r => takesD r
  | .t x :: r => x :: takesD r
noncomputable def putsD : List D → List Bool
  | [] => []
  | .p x :: r => x :: putsD r
  | .t _ :: r => putsD r
noncomputable def invD : List D → Nat
  | [] => 0
  | .p _ :: r => (takesD r).length + invD r
  | .t _ :: r => invD r

theorem act_app : ∀ (a b : List D) (q : List Bool), act (a ++ b) q = (act a q).bind (act b)
  | [], b, q => rfl
  | .p x :: a, b, q => act_app a b (q ++ [x])
  | .t x :: a, b, [] => rfl
  | .t x :: a, b, y :: q => by
    show (if y = x then act (a ++ b) q else none) = (if y = x then act a q else none).bind (act b)
    split
    · exact act_app a b q
    · rfl
theorem takes_app : ∀ (a b : List D), takesD (a ++ b) = takesD a ++ takesD b
  | [], b => rfl
  | .p _ :: a, b => takes_app a b
  | .t x :: a, b => congrArg (x :: ·) (takes_app a b)
theorem puts_app : ∀ (a b : List D), putsD (a ++ b) = putsD a ++ putsD b
  | [], b => rfl
  | .t _ :: a, b => puts_app a b
  | .p x :: a, b => congrArg (x :: ·) (puts_app a b)
theorem inv_app : ∀ (a b : List D), invD (a ++ b) = invD a + invD b + (putsD a).length * (takesD b).length
  | [], b => by simp [invD, putsD]
  | .t _ :: a, b => by simp only [List.cons_append, invD, putsD]; exact inv_app a b
  | .p x :: a, b => by
    simp only [List.cons_append, invD, putsD, takes_app, List.length_append, List.length_cons, inv_app a b, Nat.add_mul]
    (first | lia | omega)

structure Red (a b : List D) : Prop where
  act : ∀ q, act b q = act a q
  takes : takesD b = takesD a
  puts : putsD b = putsD a
  inv : b = a ∨ invD b < invD a
theorem Red.refl (a : List D) : Red a a := ⟨fun _ => rfl, rfl, rfl, .inl rfl⟩
theorem Red.trans {a b c : List D} (x : Red a b) (y : Red b c) : Red a c :=
  ⟨fun q => (y.act q).trans (x.act q), y.takes.trans x.takes, y.puts.trans x.puts, by
    rcases x.inv with rfl | h
    · exact y.inv
    · rcases y.inv with rfl | h'
      · exact .inr h
      · exact .inr (by (first | lia | omega))⟩
theorem Red.ctx {a b : List D} (h : Red a b) (u v : List D) : Red (u ++ a ++ v) (u ++ b ++ v) := by
  refine ⟨fun q => ?_, ?_, ?_, ?_⟩
  · rw [act_app, act_app, act_app, act_app]
    congr 1
    congr 1
    funext q
    exact h.act q
  · simp only [takes_app, h.takes]
  · simp only [puts_app, h.puts]
  · rcases h.inv with rfl | h'
    · exact .inl rfl
    · refine .inr ?_
      simp only [inv_app, puts_app, h.takes, h.puts]
      (first | lia | omega)

inductive Rule : List D → List D → Prop
  | sw (x y : Bool) (h : x ≠ y) : Rule [.p x, .t y] [.t y, .p x]
  | pp (x y : Bool) : Rule [.p x, .p y, .t y] [.p x, .t y, .p y]
  | tt (x y : Bool) : Rule [.p x, .t x, .t y] [.t x, .p x, .t y]

theorem Rule.red {l r : List D} (h : Rule l r) : Red l r := by
  cases h with
  | sw x y h =>
    refine ⟨fun q => ?_, rfl, rfl, .inr (by simp [invD, takesD])⟩
    cases q with
    | nil => simp [act, h]
    | cons z q => simp [act]
  | pp x y =>
    refine ⟨fun q => ?_, rfl, rfl, .inr (by simp [invD, takesD])⟩
    cases q with
    | nil => simp [act]
    | cons z q => simp [act]
  | tt x y =>
    refine ⟨fun q => ?_, rfl, rfl, .inr (by simp [invD, takesD])⟩
    cases q with
    | nil => simp [act]
    | cons z q => simp [act]
theorem Rule.lt {l r : List D} (h : Rule l r) (u v : List D) : invD (u ++ r ++ v) < invD (u ++ l ++ v) := by
  rcases (h.red.ctx u v).inv with e | e
  · exfalso
    have e1 := List.append_cancel_right e
    have e2 := List.append_cancel_left e1
    cases h with
    | sw x y h => simp at e2
    | pp x y => simp at e2
    | tt x y => simp at e2
  · exact e

/-- the normal form -/
noncomputable def nfD (T K P : List Bool) : List D := T.map .t ++ (K.flatMap (fun x => [D.p x, D.t x]) ++ P.map .p)

theorem nf_of_irr : ∀ (ds : List D), (∀ l r, Rule l r → ∀ u v, ds ≠ u ++ l ++ v) → ∃ T K P, ds = nfD T K P
  | [], _ => ⟨[], [], [], rfl⟩
  | .t x :: ds, h => by
    obtain ⟨T, K, P, e⟩ := nf_of_irr ds (fun l r hr u v e => h l r hr (.t x :: u) v (by rw [e]; rfl))
    exact ⟨x :: T, K, P, by rw [e]; rfl⟩
  | .p x :: ds, h => by
    obtain ⟨T, K, P, e⟩ := nf_of_irr ds (fun l r hr u v e => h l r hr (.p x :: u) v (by rw [e]; rfl))
    match T, K, e with
    | [], [], e => exact ⟨[], [], x :: P, by rw [e]; rfl⟩
    | [], y :: K, e => exact absurd (by rw [e]; rfl : .p x :: ds = [] ++ [D.p x, D.p y, D.t y] ++ (K.flatMap (fun x => [D.p x, D.t x]) ++ P.map .p)) (h _ _ (.pp x y) _ _)
    | y :: T, K, e =>
      by_cases hxy : x = y
      · subst hxy
        match T, e with
        | [], e => exact ⟨[], x :: K, P, by rw [e]; rfl⟩
        | z :: T, e => exact absurd (by rw [e]; rfl : .p x :: ds = [] ++ [D.p x, D.t x, D.t z] ++ (T.map .t ++ (K.flatMap (fun x => [D.p x, D.t x]) ++ P.map .p))) (h _ _ (.tt x z) _ _)
      · exact absurd (by rw [e]; rfl : .p x :: ds = [] ++ [D.p x, D.t y] ++ (T.map .t ++ (K.flatMap (fun x => [D.p x, D.t x]) ++ P.map .p))) (h _ _ (.sw x y hxy) _ _)

theorem takes_nf (T K P : List Bool) : takesD (nfD T K P) = T ++ K := by
  unfold nfD
  rw [takes_app, takes_app]
  have h1 : ∀ T : List Bool, takesD (T.map .t) = T := fun T => by induction T with
    | nil => rfl
    | cons x T ih => simp [takesD, ih]
  have h2 : ∀ K : List Bool, takesD (K.flatMap (fun x => [D.p x, D.t x])) = K := fun K => by induction K with
    | nil => rfl
    | cons x K ih => simp [takesD, ih]
  have h3 : ∀ P : List Bool, takesD (P.map .p) = [] := fun P => by induction P with
    | nil => rfl
    | cons x P ih => simp [takesD, ih]
  rw [h1, h2, h3, List.append_nil]
theorem puts_nf (T K P : List Bool) : putsD (nfD T K P) = K ++ P := by
  unfold nfD
  rw [puts_app, puts_app]
  have h1 : ∀ T : List Bool, putsD (T.map .t) = [] := fun T => by induction T with
    | nil => rfl
    | cons x T ih => simp [putsD, ih]
  have h2 : ∀ K : List Bool, putsD (K.flatMap (fun x => [D.p x, D.t x])) = K := fun K => by induction K with
    | nil => rfl
    | cons x K ih => simp [putsD, ih]
  have h3 : ∀ P : List Bool, putsD (P.map .p) = P := fun P => by induction P with
    | nil => rfl
    | cons x P ih => simp [putsD, ih]
  rw [h1, h2, h3, List.nil_append]

theorem act_puts : ∀ (P q : List Bool), act (P.map .p) q = some (q ++ P)
  | [], q => by simp [act]
  | x :: P, q => by
    show act (P.map .p) (q ++ [x]) = _
    rw [act_puts P]
    simp
theorem act_takes : ∀ (T q : List Bool) (r : List D), act (T.map .t ++ r) q = if T.length ≤ q.length ∧ q.take T.length = T then act r (q.drop T.length) else none
  | [], q, r => by simp
  | x :: T, [], r => by simp [act]
  | x :: T, y :: q, r => by
    show (if y = x then act (T.map .t ++ r) q else none) = _
    rw [act_takes T q r]
    by_cases h : y = x
    · simp [h]
    · simp [h]
theorem act_pairs : ∀ (K q P : List Bool), act (K.flatMap (fun x => [D.p x, D.t x]) ++ P.map .p) q = if (q ++ K).take K.length = K then some ((q ++ K).drop K.length ++ P) else none
  | [], q, P => by simp [act_puts]
  | x :: K, [], P => by
    show (if x = x then act (K.flatMap (fun x => [D.p x, D.t x]) ++ P.map .p) [] else none) = _
    rw [if_pos rfl, act_pairs K [] P]
    simp
  | x :: K, y :: q, P => by
    show (if y = x then act (K.flatMap (fun x => [D.p x, D.t x]) ++ P.map .p) (q ++ [x]) else none) = _
    rw [act_pairs K (q ++ [x]) P]
    by_cases h : y = x
    · simp [h]
    · simp [h]

/-- what a program in normal form does -/
theorem act_nf (T K P c : List Bool) : act (nfD T K P) c =
    if T.length ≤ c.length ∧ (c ++ (K ++ P)).take (T ++ K).length = T ++ K then some ((c ++ (K ++ P)).drop (T ++ K).length) else none := by
  unfold nfD
  rw [act_takes]
  by_cases hT : T.length ≤ c.length
  · have hc : c = c.take T.length ++ c.drop T.length := (List.take_append_drop _ _).symm
    have hl : (c.take T.length).length = T.length := by rw [List.length_take]; (first | lia | omega)
    generalize c.take T.length = a at hc hl
    generalize c.drop T.length = b at hc
    subst hc
    rw [act_pairs]
    have e1 : (a ++ b).take T.length = a := by rw [← hl]; simp
    have e2 : (a ++ b).drop T.length = b := by rw [← hl]; simp
    have e3 : (a ++ b ++ (K ++ P)).take (T ++ K).length = a ++ (b ++ K).take K.length := by
      have : a ++ b ++ (K ++ P) = a ++ ((b ++ K) ++ P) := by simp
      rw [this, List.length_append, ← hl, List.take_append, List.take_of_length_le (by (first | lia | omega))]
      congr 1
      rw [Nat.add_sub_cancel_left, List.take_append_of_le_length (by simp)]
    have e4 : (a ++ b ++ (K ++ P)).drop (T ++ K).length = (b ++ K).drop K.length ++ P := by
      have : a ++ b ++ (K ++ P) = a ++ ((b ++ K) ++ P) := by simp
      rw [this, List.length_append, ← hl, List.drop_append, List.drop_of_length_le (by (first | lia | omega)), List.nil_append, Nat.add_sub_cancel_left, List.drop_append_of_le_length (by simp)]
    have hTab : T.length ≤ (a ++ b).length := hT
    have e5 : (a ++ (b ++ K).take K.length = T ++ K) ↔ (a = T ∧ (b ++ K).take K.length = K) := by
      constructor
      · intro h; exact List.append_inj h hl
      · rintro ⟨rfl, h⟩; rw [h]
    rw [e3, e4]
    by_cases h1 : a = T
    · subst h1
      by_cases h2 : (b ++ K).take K.length = K
      · rw [if_pos ⟨hTab, rfl⟩, if_pos h2, if_pos ⟨hTab, e5.mpr ⟨rfl, h2⟩⟩]
      · rw [if_pos ⟨hTab, rfl⟩, if_neg h2, if_neg (fun h => h2 (e5.mp h.2).2)]
    · rw [if_neg (fun h => h1 h.2), if_neg (fun h => h1 (e5.mp h.2).1)]
  · rw [if_neg (fun h => hT h.1), if_neg (fun h => hT h.1)]

/-- two normal forms with as many takes and puts that do the same to every content are one -/
theorem nf_inj {T K P T' K' P' : List Bool} (hm : (T ++ K).length = (T' ++ K').length)
    (h : ∀ c : List Bool, c.length ≤ (T ++ K).length → act (nfD T K P) c = act (nfD T' K' P') c) : T = T' ∧ K = K' ∧ P = P' := by
  have key : ∀ {T K P T' K' P' : List Bool}, (T ++ K).length = (T' ++ K').length → (∀ c : List Bool, c.length ≤ (T ++ K).length → act (nfD T K P) c = act (nfD T' K' P') c) → T'.length ≤ T.length := by
    intro T K P T' K' P' hm h
    have h1 := h T (by simp)
    rw [act_nf, act_nf, if_pos ⟨Nat.le_refl _, by rw [← List.append_assoc, List.take_left' rfl]⟩] at h1
    by_cases hc : T'.length ≤ T.length ∧ (T ++ (K' ++ P')).take (T' ++ K').length = T' ++ K'
    · exact hc.1
    · rw [if_neg hc] at h1; cases h1
  have l1 := key hm h
  have l2 := key hm.symm (fun c hc => (h c (by rw [hm]; exact hc)).symm)
  have hl : T.length = T'.length := by (first | lia | omega)
  have hk : K.length = K'.length := by simp only [List.length_append] at hm; (first | lia | omega)
  have h1 := h T (by simp)
  rw [act_nf, act_nf, if_pos ⟨Nat.le_refl _, by rw [← List.append_assoc, List.take_left' rfl]⟩] at h1
  by_cases hc : T'.length ≤ T.length ∧ (T ++ (K' ++ P')).take (T' ++ K').length = T' ++ K'
  · rw [if_pos hc] at h1
    have e1 : T = T' := by
      have := hc.2
      rw [← List.append_assoc, List.length_append, ← hl, ← List.length_append, List.take_left'] at this
      · exact (List.append_inj this hl).1
      · rfl
    subst e1
    have e2 : P = P' := by simpa using h1
    subst e2
    have h2 := h (T ++ K) (Nat.le_refl _)
    rw [act_nf, act_nf, if_pos ⟨by simp, List.take_left' rfl⟩] at h2
    by_cases hd : T.length ≤ (T ++ K).length ∧ (T ++ K ++ (K' ++ P)).take (T ++ K').length = T ++ K'
    · have := hd.2
      rw [← hm, List.take_left' rfl] at this
      exact ⟨rfl, List.append_cancel_left this, rfl⟩
    · rw [if_neg hd] at h2; cases h2
  · rw [if_neg hc] at h1; cases h1
end
-- Law2
section
open PySem PySem.W PyProof.Rows
/-! ### deeds as rows of signs -/
noncomputable def putL (a b : Nat) : List Nat := 34 :: (esc a ++ (esc b ++ [34]))
noncomputable def takeL (a b : Nat) : List Nat := [92, a, 92, b, 45, 9, 13, 32, 10]
noncomputable abbrev WW := Bool → Nat × Nat
noncomputable def encD (w : WW) : D → List Nat
  | .p x => putL (w x).1 (w x).2
  | .t x => takeL (w x).1 (w x).2
noncomputable def enc (w : WW) (ds : List D) : List Nat := ds.flatMap (encD w)
structure WOk (w : WW) : Prop where
  one : ∀ x, (w x).1 ∈ signs
  two : ∀ x, (w x).2 ∈ signs
  ne : ∀ x y, w x = w y → x = y
theorem enc_cons (w : WW) (d : D) (ds : List D) : enc w (d :: ds) = encD w d ++ enc w ds := rfl
theorem enc_app (w : WW) (a b : List D) : enc w (a ++ b) = enc w a ++ enc w b := by unfold enc; rw [List.flatMap_append]

theorem esc_cases (a : Nat) : (esc a = [92, a] ∧ (a = 92 ∨ a = 34)) ∨ (esc a = [a] ∧ a ≠ 92 ∧ a ≠ 34) := by
  unfold esc
  by_cases h : a = 92 ∨ a = 34
  · rw [if_pos h]; exact .inl ⟨rfl, h⟩
  · rw [if_neg h]; exact .inr ⟨rfl, fun e => h (.inl e), fun e => h (.inr e)⟩
theorem esc_inj {a c : Nat} {X Y : List Nat} (h : esc a ++ X = esc c ++ Y) : a = c ∧ X = Y := by
  rcases esc_cases a with ⟨e, q⟩ | ⟨e, q, q'⟩ <;> rcases esc_cases c with ⟨e', r⟩ | ⟨e', r, r'⟩ <;> rw [e, e'] at h <;> simp at h
  · exact h
  · exact absurd h.1.symm r
  · exact absurd h.1 q
  · exact h
theorem not45 {a : Nat} (h : a ∈ signs) : a ≠ 45 := by rintro rfl; exact absurd h (by decide)

theorem code_inj {w : WW} (hw : WOk w) {d e : D} {X Y : List Nat} (h : encD w d ++ X = encD w e ++ Y) : d = e ∧ X = Y := by
  cases d with
  | p x => cases e with
    | p y =>
      simp only [encD, putL, List.cons_append, List.append_assoc, List.cons.injEq, true_and] at h
      obtain ⟨h1, h2⟩ := esc_inj h
      obtain ⟨h3, h4⟩ := esc_inj h2
      simp at h4
      exact ⟨congrArg D.p (hw.ne x y (Prod.ext h1 h3)), h4⟩
    | t y => simp [encD, putL, takeL] at h
  | t x => cases e with
    | p y => simp [encD, putL, takeL] at h
    | t y =>
      simp [encD, takeL] at h
      exact ⟨congrArg D.t (hw.ne x y (Prod.ext h.1 h.2.1)), h.2.2⟩
theorem encD_ne (w : WW) (d : D) : encD w d ≠ [] := by cases d <;> simp [encD, putL, takeL]
theorem dec_prefix {w : WW} (hw : WOk w) : ∀ {l ds : List D} {v : List Nat}, enc w l ++ v = enc w ds → ∃ ds', ds = l ++ ds' ∧ v = enc w ds'
  | [], ds, v, h => ⟨ds, rfl, h⟩
  | d :: l, [], v, h => by
    rw [enc_cons, List.append_assoc] at h
    have : encD w d = [] := (List.append_eq_nil_iff.mp h).1
    exact absurd this (encD_ne w d)
  | d :: l, e :: ds, v, h => by
    rw [enc_cons, enc_cons, List.append_assoc] at h
    obtain ⟨rfl, h'⟩ := code_inj hw h
    obtain ⟨ds', e1, e2⟩ := dec_prefix hw h'
    exact ⟨ds', by rw [e1]; rfl, e2⟩
theorem enc_inj {w : WW} (hw : WOk w) {a b : List D} (h : enc w a = enc w b) : a = b := by
  obtain ⟨ds', e1, e2⟩ := dec_prefix hw (l := a) (ds := b) (v := []) (by rw [List.append_nil]; exact h)
  cases ds' with
  | nil => rw [e1, List.append_nil]
  | cons d ds' => exact absurd (List.append_eq_nil_iff.mp e2.symm).1 (encD_ne w d)

theorem esc_ne34 {a : Nat} {X Y : List Nat} (h : 34 :: Y = esc a ++ X) : False := by
  rcases esc_cases a with ⟨e, q⟩ | ⟨e, q, q'⟩ <;> rw [e] at h <;> simp at h
  exact q' h.1.symm
theorem esc_ne45 {a : Nat} {X Y : List Nat} (ha : a ∈ signs) (h : 45 :: Y = esc a ++ X) : False := by
  rcases esc_cases a with ⟨e, q⟩ | ⟨e, q, q'⟩ <;> rw [e] at h <;> simp at h
  exact not45 ha h.1.symm
theorem esc_92 {a c : Nat} {X Y : List Nat} (h : 92 :: c :: Y = esc a ++ X) : Y = X := by
  rcases esc_cases a with ⟨e, q⟩ | ⟨e, q, q'⟩ <;> rw [e] at h <;> simp at h
  · exact h.2
  · exact absurd h.1.symm q
theorem append_split {α : Type} {a b c d : List α} (h : a ++ b = c ++ d) : (∃ m, c = a ++ m ∧ b = m ++ d) ∨ ∃ m, m ≠ [] ∧ a = c ++ m ∧ m ++ b = d := by
  rcases List.append_eq_append_iff.mp h with ⟨m, h1, h2⟩ | ⟨m, h1, h2⟩
  · exact .inl ⟨m, h1, h2⟩
  · by_cases hm : m = []
    · subst hm
      exact .inl ⟨[], by simpa using h1.symm, by simpa using h2.symm⟩
    · exact .inr ⟨m, hm, h1, h2.symm⟩

theorem inside {w : WW} (hw : WOk w) {a b : Nat} (ha : a ∈ signs) (hb : b ∈ signs) {d : D} {ds : List D} {u m X : List Nat} (hu : u ≠ []) (hm : m ≠ []) (hd : encD w d = u ++ m)
    (h : m ++ enc w ds = 34 :: (esc a ++ (esc b ++ 34 :: X))) : False := by
  cases d with
  | t x =>
    simp only [encD, takeL] at hd
    rcases u with _ | ⟨_, _ | ⟨_, _ | ⟨_, _ | ⟨_, _ | ⟨_, _ | ⟨_, _ | ⟨_, _ | ⟨_, _ | ⟨_, u⟩⟩⟩⟩⟩⟩⟩⟩⟩ <;> simp at hd
    · exact hu rfl
    · rw [← hd.2] at h; simp at h
      exact esc_ne45 hb (esc_92 h.2)
    · rw [← hd.2.2] at h; simp at h
    · rw [← hd.2.2.2] at h; simp at h
      exact esc_ne45 ha h.2
    · rw [← hd.2.2.2.2] at h; simp at h
    · rw [← hd.2.2.2.2.2] at h; simp at h
    · rw [← hd.2.2.2.2.2.2] at h; simp at h
    · rw [← hd.2.2.2.2.2.2.2] at h; simp at h
    · rw [← hd.2.2.2.2.2.2.2.2] at h; simp at h
    · exact hm hd.2.2.2.2.2.2.2.2.2.2
  | p x =>
    simp only [encD, putL] at hd
    rcases u with _ | ⟨z, u⟩
    · exact hu rfl
    rw [List.cons_append, List.cons.injEq] at hd
    have hd := hd.2
    rcases append_split hd with ⟨u', rfl, hd'⟩ | ⟨m', hm', h1, h2⟩
    · rcases append_split hd' with ⟨u'', rfl, hd''⟩ | ⟨m', hm', h1, h2⟩
      · rcases u'' with _ | ⟨z', u''⟩
        · simp at hd''; subst hd''
          simp at h
          cases ds with
          | nil =>
            have := congrArg List.length h
            simp [enc] at this
          | cons e ds =>
            rw [enc_cons] at h
            cases e with
            | p y => exact esc_ne34 (by simpa [encD, putL] using h)
            | t y =>
              have h' : 92 :: (w y).1 :: (92 :: (w y).2 :: (45 :: ([9, 13, 32, 10] ++ enc w ds))) = esc a ++ (esc b ++ 34 :: X) := by simpa [encD, takeL] using h
              have := esc_92 (esc_92 h')
              simp at this
        · simp at hd''
          exact hm hd''.2.2
      · rw [← h2] at h
        rcases esc_cases (w x).2 with ⟨e, q⟩ | ⟨e, q, q'⟩ <;> rw [e] at h1
        · rcases u' with _ | ⟨z', _ | ⟨z'', u'⟩⟩ <;> simp at h1
          · subst h1; simp at h
          · rw [← h1.2] at h
            simp at h
            exact esc_ne34 h.2
          · exact hm' h1.2.2.2
        · rcases u' with _ | ⟨z', u'⟩ <;> simp at h1
          · subst h1; simp at h; exact q' h.1
          · exact hm' h1.2.2
    · rw [← h2] at h
      rcases esc_cases (w x).1 with ⟨e, q⟩ | ⟨e, q, q'⟩ <;> rw [e] at h1
      · rcases u with _ | ⟨z', _ | ⟨z'', u⟩⟩ <;> simp at h1
        · subst h1; simp at h
        · rw [← h1.2] at h
          simp at h
          exact esc_ne34 (esc_inj h.2).2
        · exact hm' h1.2.2.2
      · rcases u with _ | ⟨z', u⟩ <;> simp at h1
        · subst h1; simp at h; exact q' h.1
        · exact hm' h1.2.2

theorem align {w : WW} (hw : WOk w) {a b : Nat} (ha : a ∈ signs) (hb : b ∈ signs) : ∀ {ds : List D} {u X : List Nat}, enc w ds = u ++ (putL a b ++ X) → ∃ d1 d2, ds = d1 ++ d2 ∧ u = enc w d1 ∧ enc w d2 = putL a b ++ X
  | ds, [], X, h => ⟨[], ds, rfl, rfl, h⟩
  | [], z :: u, X, h => by simp [enc] at h
  | d :: ds, z :: u, X, h => by
    rw [enc_cons] at h
    rcases append_split h with ⟨m, h1, h2⟩ | ⟨m, hm, h1, h2⟩
    · obtain ⟨d1, d2, rfl, rfl, h3⟩ := align hw ha hb h2
      exact ⟨d :: d1, d2, rfl, by rw [h1]; rfl, h3⟩
    · exact (inside (X := X) hw ha hb (by simp) hm h1 (by rw [h2]; simp [putL])).elim

/-- a pattern that opens with a put stands in a text of deeds only as deeds -/
theorem occurs {w : WW} (hw : WOk w) {x : Bool} {l : List D} {ds : List D} {u v : List Nat} (h : enc w ds = u ++ (enc w (.p x :: l) ++ v)) : ∃ d1 d2, ds = d1 ++ (.p x :: l) ++ d2 ∧ u = enc w d1 ∧ v = enc w d2 := by
  rw [enc_cons, List.append_assoc] at h
  obtain ⟨d1, d2, rfl, rfl, h3⟩ := align hw (hw.one x) (hw.two x) (h : _ = u ++ (putL _ _ ++ _))
  have h4 : enc w (.p x :: l) ++ v = enc w d2 := by rw [h3, enc_cons, List.append_assoc]; rfl
  obtain ⟨d3, rfl, rfl⟩ := dec_prefix hw h4
  exact ⟨d1, d3, by simp, rfl, rfl⟩

/-! ### the lexer reads the deeds back -/
inductive ReadsC : List Nat → List (List Nat) → Prop
  | done {cs} : getTok cs = ([], []) → ReadsC cs []
  | more {cs y r ws} : getTok cs = (y, r) → y ≠ [] → ReadsC r ws → ReadsC cs (y :: ws)
noncomputable def tokD (w : WW) : D → List Nat
  | .p x => [(w x).1, (w x).2]
  | .t x => [(w x).1, (w x).2, 45]
theorem tokQ_esc (acc : List Nat) (a : Nat) (X : List Nat) : tokQ acc (esc a ++ X) = tokQ (acc ++ [a]) X := by
  rcases esc_cases a with ⟨e, q⟩ | ⟨e, q, q'⟩ <;> rw [e]
  · show tokQ acc (92 :: a :: X) = _
    conv => lhs; unfold tokQ
    simp
  · show tokQ acc (a :: X) = _
    conv => lhs; unfold tokQ
    rw [if_neg q', if_neg q]
theorem getTok_put (a b : Nat) (X : List Nat) : getTok (putL a b ++ X) = ([a, b], X) := by
  show getTok (34 :: (esc a ++ (esc b ++ [34]) ++ X)) = _
  unfold getTok
  rw [if_neg (by decide), if_pos rfl, List.append_assoc, tokQ_esc, List.append_assoc, tokQ_esc]
  show tokQ _ (34 :: X) = _
  unfold tokQ
  rw [if_pos rfl]; rfl
theorem getTok_take (a b : Nat) (X : List Nat) : getTok (takeL a b ++ X) = ([a, b, 45], 13 :: 32 :: 10 :: X) := by
  show getTok (92 :: a :: 92 :: b :: 45 :: 9 :: 13 :: 32 :: 10 :: X) = _
  unfold getTok
  rw [if_neg (by decide), if_neg (by decide), if_pos rfl]
  show tokW [a] (92 :: b :: 45 :: 9 :: 13 :: 32 :: 10 :: X) = _
  unfold tokW
  rw [if_neg (by decide), if_pos rfl]
  show tokW [a, b] (45 :: 9 :: 13 :: 32 :: 10 :: X) = _
  unfold tokW
  rw [if_neg (by decide), if_neg (by decide)]
  show tokW [a, b, 45] (9 :: 13 :: 32 :: 10 :: X) = _
  unfold tokW
  rw [if_pos (by decide)]
theorem getTok_white {c : Nat} (h : white c = true) (X : List Nat) : getTok (c :: X) = getTok X := by
  conv => lhs; unfold getTok
  rw [if_pos h]
theorem getTok_gap (X : List Nat) : getTok (13 :: 32 :: 10 :: X) = getTok X := by
  rw [getTok_white (by decide), getTok_white (by decide), getTok_white (by decide)]
theorem readsC_gap {X : List Nat} {ws : List (List Nat)} (h : ReadsC X ws) : ReadsC (13 :: 32 :: 10 :: X) ws := by
  cases h with
  | done e => exact .done ((getTok_gap X).trans e)
  | more e n r => exact .more ((getTok_gap X).trans e) n r
theorem readsC_enc (w : WW) : ∀ ds : List D, ReadsC (enc w ds) (ds.map (tokD w))
  | [] => .done rfl
  | .p x :: ds => .more (getTok_put _ _ _) (List.cons_ne_nil _ _) (readsC_enc w ds)
  | .t x :: ds => .more (getTok_take _ _ _) (List.cons_ne_nil _ _) (readsC_gap (readsC_enc w ds))
end
-- Law3
section
open PySem PySem.W PyProof.Rows PySem.Builtin PySem.Builtin.Str
/-! ### replace on texts of deeds -/
theorem txt_app' (a b : List Nat) : txt a ++ txt b = txt (a ++ b) := Str.ext' (by simp [Str.cps_append, txt])
theorem txt_inj {a b : List Nat} (h : txt a = txt b) : a = b := by
  have := congrArg (fun s : Str => s.cps.toList) h
  simpa [txt] using this
theorem txt_of (x : Str) : x = txt x.cps.toList := Str.ext' (by simp [txt])
theorem split_two {x y : Str} {u v : List Nat} (h : x = txt (u ++ (y.cps.toList ++ v))) (hx : ∀ c ∈ x.cps.toList, c < 128) : 2 ≤ (Txt.split x y).length := by
  have hsub : y.cps.toList ⊆ x.cps.toList := by rw [h]; intro c hc; simp [txt]; exact .inr (.inl (by simpa using hc))
  have hk : PySem.Builtin.Str.strKind y = 1 ∧ PySem.Builtin.Str.strKind x = 1 := by
    constructor
    · unfold PySem.Builtin.Str.strKind; rw [if_pos]; rw [Array.all_eq_true']; intro c hc; have := hx c (hsub (by simpa using hc)); simp; (first | lia | omega)
    · unfold PySem.Builtin.Str.strKind; rw [if_pos]; rw [Array.all_eq_true']; intro c hc; have := hx c (by simpa using hc); simp; (first | lia | omega)
  have hl : x.length = u.length + (y.length + v.length) := by rw [h, txt_len]; simp [Str.length]
  unfold Txt.split
  rw [if_neg]
  · rcases StrLaws.occ_head x y (x.length + 1) (by (first | lia | omega)) with ⟨h0, hn⟩ | ⟨i, r, h0, _⟩
    · exfalso
      refine hn u.length ⟨by (first | lia | omega), ?_⟩
      unfold subAt
      rw [beq_iff_eq]
      apply Array.toList_inj.mp
      rw [h]
      simp [txt, Str.length]
    · rw [h0]
      simp only [List.isEmpty_cons, Bool.false_eq_true, if_false]
      rw [length_partsBetween]
      simp
  · rw [hk.1, hk.2]
    simp; (first | lia | omega)
theorem enc_small {w : WW} (hw : WOk w) {ds : List D} : ∀ c ∈ enc w ds, c < 128 := by
  have hs : ∀ {a : Nat}, a ∈ signs → a < 128 := fun {a} h => by revert a; decide
  have he : ∀ {a : Nat}, a ∈ signs → ∀ c ∈ esc a, c < 128 := fun {a} h c hc => by
    rcases esc_cases a with ⟨e, q⟩ | ⟨e, q, q'⟩ <;> rw [e] at hc <;> simp at hc
    · rcases hc with rfl | rfl
      · decide
      · exact hs h
    · rw [hc]; exact hs h
  intro c hc
  unfold enc at hc
  obtain ⟨d, hd, hc⟩ := List.mem_flatMap.mp hc
  cases d with
  | p x =>
    simp only [encD, putL, List.mem_cons, List.mem_append, List.not_mem_nil, or_false] at hc
    rcases hc with rfl | hc | hc | rfl
    · decide
    · exact he (hw.one x) c hc
    · exact he (hw.two x) c hc
    · decide
  | t x =>
    simp only [encD, takeL, List.mem_cons, List.not_mem_nil, or_false] at hc
    have h1 := hs (hw.one x)
    have h2 := hs (hw.two x)
    rcases hc with rfl | rfl | rfl | rfl | rfl | rfl | rfl | rfl | rfl <;> first | exact h1 | exact h2 | decide

theorem join_rep {w : WW} (hw : WOk w) {x : Bool} {l r : List D} (hr : Rule (.p x :: l) r) : ∀ (parts : List Str) (ds : List D), parts ≠ [] → Str.join (txt (enc w (.p x :: l))) parts = txt (enc w ds) →
    ∃ ds', Str.join (txt (enc w r)) parts = txt (enc w ds') ∧ Red ds ds' ∧ (2 ≤ parts.length → invD ds' < invD ds)
  | [], ds, h0, _ => absurd rfl h0
  | [p], ds, _, h => ⟨ds, h, .refl _, fun h => by simp at h⟩
  | p :: q :: rest, ds, _, h => by
    have h' : p ++ txt (enc w (.p x :: l)) ++ Str.join (txt (enc w (.p x :: l))) (q :: rest) = txt (enc w ds) := h
    generalize hj : Str.join (txt (enc w (.p x :: l))) (q :: rest) = j at h'
    rw [txt_of p, txt_of j, txt_app', txt_app', List.append_assoc] at h'
    obtain ⟨d1, d2, rfl, h1, h2⟩ := occurs hw (txt_inj h').symm
    obtain ⟨d3, h3, h4, _⟩ := join_rep hw hr (q :: rest) d2 (by simp) (by rw [hj, txt_of j, h2])
    have c1 := hr.red.ctx d1 d2
    have c2 := h4.ctx (d1 ++ r) []
    rw [List.append_nil, List.append_nil] at c2
    refine ⟨d1 ++ r ++ d3, ?_, c1.trans c2, fun _ => ?_⟩
    · show p ++ txt (enc w r) ++ Str.join (txt (enc w r)) (q :: rest) = _
      rw [h3, txt_of p, txt_app', txt_app', h1, enc_app, enc_app]
    · have := hr.lt d1 d2
      rcases c2.inv with e | e
      · rw [e]; exact this
      · (first | lia | omega)
theorem split_ne (x y : Str) : Txt.split x y ≠ [] := by
  unfold Txt.split
  split
  · simp
  · split
    · simp
    · intro h
      have := congrArg List.length h
      rw [length_partsBetween] at this
      simp at this
theorem one_rep {w : WW} (hw : WOk w) {x : Bool} {l r : List D} (hr : Rule (.p x :: l) r) (ds : List D) :
    ∃ ds', Txt.join (txt (enc w r)) (Txt.split (txt (enc w ds)) (txt (enc w (.p x :: l)))) = txt (enc w ds') ∧ Red ds ds' ∧ (∀ u v, ds = u ++ (.p x :: l) ++ v → invD ds' < invD ds) := by
  obtain ⟨ds', h1, h2, h3⟩ := join_rep hw hr (Txt.split (txt (enc w ds)) (txt (enc w (.p x :: l)))) ds (split_ne _ _) (StrLaws.join_split _ _)
  refine ⟨ds', ?_, h2, fun u v e => h3 (split_two (u := enc w u) (v := enc w v) ?_ ?_)⟩
  · show glued _ _ = _
    rw [StrLaws.glued_eq_join]; exact h1
  · rw [e, enc_app, enc_app]; simp [txt]
  · intro c hc
    exact enc_small hw c (by simpa [txt] using hc)

noncomputable def rulesL : List (Bool × List D × List D) :=
  [(false, [.p false, .t false], [.p false, .t false, .p false]), (false, [.t false, .t false], [.t false, .p false, .t false]),
   (false, [.t true], [.t true, .p false]), (false, [.p true, .t true], [.p false, .t true, .p true]), (false, [.t false, .t true], [.t false, .p false, .t true]),
   (true, [.t false], [.t false, .p true]), (true, [.p false, .t false], [.p true, .t false, .p false]), (true, [.t true, .t false], [.t true, .p true, .t false]),
   (true, [.p true, .t true], [.p true, .t true, .p true]), (true, [.t true, .t true], [.t true, .p true, .t true])]
theorem rulesL_rule : ∀ q ∈ rulesL, Rule (.p q.1 :: q.2.1) q.2.2 := by
  intro q hq
  simp only [rulesL, List.mem_cons, List.not_mem_nil, or_false] at hq
  rcases hq with rfl | rfl | rfl | rfl | rfl | rfl | rfl | rfl | rfl | rfl
  · exact .pp false false
  · exact .tt false false
  · exact .sw false true (by decide)
  · exact .pp false true
  · exact .tt false true
  · exact .sw true false (by decide)
  · exact .pp true false
  · exact .tt true false
  · exact .pp true true
  · exact .tt true true
theorem rulesL_all {l r : List D} (h : Rule l r) : ∃ q ∈ rulesL, l = .p q.1 :: q.2.1 := by
  cases h with
  | sw x y h => cases x <;> cases y <;> first | exact absurd rfl h | decide
  | pp x y => cases x <;> cases y <;> decide
  | tt x y => cases x <;> cases y <;> decide
theorem Rule.len {l r : List D} (h : Rule l r) : r.length ≤ 3 := by cases h <;> simp
noncomputable def pairsOf (w : WW) (rs : List (Bool × List D × List D)) : List Str := rs.flatMap fun q => [txt (enc w (.p q.1 :: q.2.1)), txt (enc w q.2.2)]

theorem encD_len (w : WW) (d : D) : (encD w d).length ≤ 9 := by
  cases d with
  | p x => have := esc_len (w x).1; have := esc_len (w x).2; simp [encD, putL]; (first | lia | omega)
  | t x => simp [encD, takeL]
theorem enc_len (w : WW) : ∀ ds : List D, (enc w ds).length ≤ 9 * ds.length
  | [] => by simp [enc]
  | d :: ds => by have := encD_len w d; have := enc_len w ds; rw [enc_cons, List.length_append, List.length_cons]; (first | lia | omega)
theorem D_len : ∀ ds : List D, ds.length = (takesD ds).length + (putsD ds).length
  | [] => rfl
  | .p _ :: ds => by have := D_len ds; simp [takesD, putsD]; (first | lia | omega)
  | .t _ :: ds => by have := D_len ds; simp [takesD, putsD]; (first | lia | omega)
theorem Red.len {a b : List D} (h : Red a b) : b.length = a.length := by rw [D_len, D_len a, h.takes, h.puts]

theorem all_rep {w : WW} (hw : WOk w) : ∀ (rs : List (Bool × List D × List D)) (ds : List D), (∀ q ∈ rs, Rule (.p q.1 :: q.2.1) q.2.2) → ds.length ≤ 100 →
    ROk (txt (enc w ds)) (pairsOf w rs) ∧ ∃ ds', repl (txt (enc w ds)) (pairsOf w rs) = txt (enc w ds') ∧ Red ds ds' ∧ (∀ q ∈ rs, ∀ u v, ds = u ++ (.p q.1 :: q.2.1) ++ v → invD ds' < invD ds)
  | [], ds, _, _ => ⟨trivial, ds, rfl, .refl _, fun q h => by cases h⟩
  | q :: rs, ds, hrs, hlen => by
    obtain ⟨d1, e1, r1, i1⟩ := one_rep hw (hrs q (.head _)) ds
    obtain ⟨ok, d2, e2, r2, i2⟩ := all_rep hw rs d1 (fun q' h => hrs q' (.tail _ h)) (by rw [r1.len]; exact hlen)
    have hl1 := enc_len w ds
    have hpos : 1 ≤ (txt (enc w (.p q.1 :: q.2.1))).length := by rw [txt_len, enc_cons]; simp [encD, putL]
    refine ⟨⟨?_, ?_, ?_, by rw [e1]; exact ok⟩, d2, ?_, r1.trans r2, ?_⟩
    · rw [beq_eq_false_iff_ne]; (first | lia | omega)
    · rw [txt_len]; (first | lia | omega)
    · refine joinOk_of 900 (fun y hy => ?_) ?_
      · have := part_short hy; rw [txt_len] at this; (first | lia | omega)
      · have h1 := split_weight (txt (enc w ds)) (txt (enc w (.p q.1 :: q.2.1))) hpos
        have h2 : (txt (enc w ds)).length ≤ 900 := by rw [txt_len]; (first | lia | omega)
        have h3 : (txt (enc w q.2.2)).length ≤ 27 := by
          rw [txt_len]
          have := enc_len w q.2.2
          have : q.2.2.length ≤ 3 := (hrs q (.head _)).len
          (first | lia | omega)
        have h4 : (Txt.split (txt (enc w ds)) (txt (enc w (.p q.1 :: q.2.1)))).length ≤ 901 := by (first | lia | omega)
        have := Nat.mul_le_mul_right 900 h4
        have := Nat.mul_le_mul h4 h3
        (first | lia | omega)
    · show repl (Txt.join _ (Txt.split _ _)) (pairsOf w rs) = _
      rw [e1]; exact e2
    · intro q' hq' u v e
      rcases List.mem_cons.mp hq' with rfl | hq'
      · have := i1 u v e
        rcases r2.inv with h | h
        · rw [h]; exact this
        · (first | lia | omega)
      · rcases r1.inv with h | h
        · rw [← h]; exact i2 q' hq' u v (h.trans e)
        · rcases r2.inv with h' | h'
          · rw [h']; exact h
          · (first | lia | omega)

/-- the measure of a text -/
noncomputable def muT (w : WW) (y : Str) : Nat := open Classical in if h : ∃ ds, y = txt (enc w ds) then invD h.choose else 0
theorem muT_enc {w : WW} (hw : WOk w) (ds : List D) : muT w (txt (enc w ds)) = invD ds := by
  have h : ∃ ds', txt (enc w ds) = txt (enc w ds') := ⟨ds, rfl⟩
  unfold muT
  rw [dif_pos h]
  exact congrArg invD (enc_inj hw (txt_inj h.choose_spec)).symm

theorem rest_step {w : WW} (hw : WOk w) {ds₀ : List D} (hlen : ds₀.length ≤ 100) (y : Str) (h : ∃ ds, y = txt (enc w ds) ∧ Red ds₀ ds) :
    ROk y (pairsOf w rulesL) ∧ (∃ ds, repl y (pairsOf w rulesL) = txt (enc w ds) ∧ Red ds₀ ds) ∧ (repl y (pairsOf w rulesL) ≠ y → muT w (repl y (pairsOf w rulesL)) < muT w y) := by
  obtain ⟨ds, rfl, hr⟩ := h
  obtain ⟨ok, d2, e2, r2, _⟩ := all_rep hw rulesL ds rulesL_rule (by rw [hr.len]; exact hlen)
  refine ⟨ok, ⟨d2, e2, hr.trans r2⟩, fun hne => ?_⟩
  rw [e2, muT_enc hw, muT_enc hw]
  rcases r2.inv with h | h
  · rw [e2, h] at hne; exact absurd rfl hne
  · exact h
theorem rest_end {w : WW} (hw : WOk w) {ds₀ : List D} (hlen : ds₀.length ≤ 100) (y : Str) (h : ∃ ds, y = txt (enc w ds) ∧ Red ds₀ ds) (he : repl y (pairsOf w rulesL) = y) :
    ∃ T K P, y = txt (enc w (nfD T K P)) ∧ Red ds₀ (nfD T K P) := by
  obtain ⟨ds, rfl, hr⟩ := h
  obtain ⟨ok, d2, e2, r2, i2⟩ := all_rep hw rulesL ds rulesL_rule (by rw [hr.len]; exact hlen)
  rw [he] at e2
  have e3 := enc_inj hw (txt_inj e2)
  subst e3
  obtain ⟨T, K, P, rfl⟩ := nf_of_irr ds (fun l r hlr u v e => by
    obtain ⟨q, hq, rfl⟩ := rulesL_all hlr
    exact Nat.lt_irrefl _ (i2 q hq u v e))
  exact ⟨T, K, P, rfl, hr⟩
end
-- Lx
section
open PySem PySem.W PyProof.Rows PyProof.V PySem.SeqAt
section
variable {prog : Program} {w : World} {A : Around} {E : Value → Shared → Prop} {P : Params} {s₀ s : Shared} {B₀ : G} {env : Env} {ns : List (Str × NameKind)} {B : G} {vs : List (Option Value)} {os X : List (Addr × AO)} {Q : Value → Shared → Prop}
  {x d st sg pb : Addr} {us : List Value} {cs : List Nat} {n : Int} {t u : Tok} {k : Nat}

noncomputable abbrev lexO (sg d pb : Addr) (us : List Value) (n : Int) (t u : Tok) (st : Addr) (ps : List Value) (os : List (Addr × AO)) : List (Addr × AO) := (sg, .list us) :: (d, .ns (lexL n t u st pb)) :: (pb, .list ps) :: os
theorem lex_hid {ps : List Value} (W : Wd P s₀ B₀ env ns B s vs (lexO sg d pb us n t u st ps os)) : Sub B (hide [sg, d, pb] s.heap.get?) := W.hidden (X := [sg, d, pb]) (by intro a ha; simp at ha; rcases ha with rfl | rfl | rfl <;> simp)
theorem lex_nd {ps : List Value} (W : Wd P s₀ B₀ env ns B s vs (lexO sg d pb us n t u st ps os)) : [sg, d, pb].Nodup := by
  have := (List.nodup_cons.mp W.apart).2
  simp only [List.map_cons, List.nodup_cons, List.mem_cons, not_or] at this
  simp only [List.nodup_cons, List.mem_cons, List.not_mem_nil, or_false, not_or, not_false_eq_true, List.nodup_nil, and_true]
  exact ⟨⟨this.1.1, this.1.2.1⟩, this.2.1.1⟩
theorem lex_chg {s' : Shared} {us' ps ps' : List Value} {n' : Int} {t' : Tok} (W : Wd P s₀ B₀ env ns B s vs (lexO sg d pb us n t u st ps os)) (c : Chg [sg, d, pb] s s') (h1 : (AO.ns (lexL n' t' u st pb)).Is s'.heap.get? d) (h2 : (AO.list us').Is s'.heap.get? sg) (h3 : (AO.list ps').Is s'.heap.get? pb) :
    Wd P s₀ B₀ env ns B s' vs (lexO sg d pb us' n' t' u st ps' os) :=
  Wd.chg (X := [(sg, .list us), (d, .ns (lexL n t u st pb)), (pb, .list ps)]) (X' := [(sg, .list us'), (d, .ns (lexL n' t' u st pb)), (pb, .list ps')]) W c rfl (by
    intro p hp; simp only [List.mem_cons, List.not_mem_nil, or_false] at hp; rcases hp with rfl | rfl | rfl
    · exact h2
    · exact h1
    · exact h3)

theorem w_tok {nm : Str} {p1 p2 p3 : Pos} (W : Wd P s₀ B₀ env ns B s vs (lexO sg d pb us n t u st [] os)) (R : LexAt P B x d st sg) (hr : Rd ns vs nm (.ref x)) (hp : Nat.beq p2.endLine p3.line = true)
    (hus : StrsAre us (cs.map one)) (hcs : ∀ c ∈ cs, c < 128) (hlen : cs.length ≤ 10000) (hA : AOk A (k + 10))
    (h : ∀ t₁ t₂ s' us', Wd P s₀ B₀ env ns B s' vs (lexO sg d pb us' (n + nl cs - nl (getTok cs).2) t₂ u st [] os) → StrsAre us' ((getTok cs).2.map one) → Q (.str (txt (getTok cs).1) t₁) s') :
    wpAny (model prog w) A (eval (.Call (.Attribute (.Name nm p1) (Str.ofString "get_token") p2) [] [] p3) env) Q E s := by
  obtain ⟨hRx, _⟩ := id R
  with_reducible refine' call_meth ?_ ?_
  · rw [hp]; rfl
  with_reducible refine' ev_local W hr ?_
  with_reducible refine' at_meth W hRx (mem_t mem_h) (k_gt P) (t_49 P) rfl ?_
  have h49 := W.keep _ _ (W.stat.K 49 _ rfl)
  with_reducible refine' with_fn0 h49 rfl ?_
  have hid := lex_hid W
  refine wpAny_call (gt_code (k := k) (W.stat.mono hid) (lex_nd W) (R.mono hid) (W.at (mem_t mem_h)) (W.at mem_h) (W.at (mem_t (mem_t mem_h))) hus hcs hlen hA ?_)
  intro t₁ t₂ s' us' c h1 h2 h3 h4
  exact h t₁ t₂ s' us' (lex_chg W c h1 h2 h4) h3

theorem w_pop {nm : Str} {p1 p2 p3 : Pos} {v : Value} {ps : List Value} (W : Wd P s₀ B₀ env ns B s vs (lexO sg d pb us n t u st (v :: ps) os)) (R : LexAt P B x d st sg) (hr : Rd ns vs nm (.ref x)) (hp : Nat.beq p2.endLine p3.line = true)
    (hlen : ps.length ≤ 10000) (hA : AOk A (k + 1)) (h : ∀ s', Wd P s₀ B₀ env ns B s' vs (lexO sg d pb us n t u st ps os) → Q v s') :
    wpAny (model prog w) A (eval (.Call (.Attribute (.Name nm p1) (Str.ofString "get_token") p2) [] [] p3) env) Q E s := by
  obtain ⟨hRx, _⟩ := id R
  with_reducible refine' call_meth ?_ ?_
  · rw [hp]; rfl
  with_reducible refine' ev_local W hr ?_
  with_reducible refine' at_meth W hRx (mem_t mem_h) (k_gt P) (t_49 P) rfl ?_
  have h49 := W.keep _ _ (W.stat.K 49 _ rfl)
  with_reducible refine' with_fn0 h49 rfl ?_
  have hid := lex_hid W
  refine wpAny_call (gt_pop (k := k) (W.stat.mono hid) (lex_nd W) (R.mono hid) (W.at (mem_t mem_h)) (W.at mem_h) (W.at (mem_t (mem_t mem_h))) hlen hA ?_)
  intro s' c h1 h2 h3
  exact h s' (lex_chg W c h1 h2 h3)

theorem w_push {nm ny : Str} {p1 p2 p3 p4 : Pos} {v : Value} {ps : List Value} (W : Wd P s₀ B₀ env ns B s vs (lexO sg d pb us n t u st ps os)) (R : LexAt P B x d st sg) (hr : Rd ns vs nm (.ref x)) (hp : Nat.beq p2.endLine p3.line = true)
    (hy : Rd ns vs ny v) (hlen : ps.length ≤ 10000) (hA : AOk A (k + 1)) (h : ∀ s', Wd P s₀ B₀ env ns B s' vs (lexO sg d pb us n t u st (ps ++ [v]) os) → Q .none s') :
    wpAny (model prog w) A (eval (.Call (.Attribute (.Name nm p1) (Str.ofString "push_token") p2) [.Name ny p4] [] p3) env) Q E s := by
  obtain ⟨hRx, _⟩ := id R
  with_reducible refine' call_meth ?_ ?_
  · rw [hp]; rfl
  with_reducible refine' ev_local W hr ?_
  with_reducible refine' at_meth W hRx (mem_t mem_h) (k_pt P) (t_56 P) rfl ?_
  have h56 := W.keep _ _ (W.stat.K 56 _ rfl)
  with_reducible refine' with_fn ?ha ?h
  case ha => rfl
  case h =>
    with_reducible refine' args_c ?pa ?_
    (case pa => rfl)
    with_reducible refine' ev_local W hy ?_
    with_reducible refine' PyProof.Rows.args_nil ?_
    refine ⟨⟨h56, rfl⟩, ?_⟩
    have hid := lex_hid W
    show wpAny _ _ (call (.ref 56) [.ref x, v]) _ _ _
    refine wpAny_call (pt_code (k := k) (W.stat.mono hid) (lex_nd W) (R.mono hid) (W.at (mem_t mem_h)) (W.at mem_h) (W.at (mem_t (mem_t mem_h))) hlen hA ?_)
    intro s' c h1 h2 h3
    exact h s' (lex_chg W c h1 h2 h3)

noncomputable def TabB (X X' : List (Addr × AO)) (B' : G) (s : Shared) : Prop := (X = [(99, tab #[])] ∧ ∃ c1 c2, X' = [(99, tab (tab2 c1 c2))] ∧ CodeG B' (.ref c1) qRead ∧ s.heap.get? c1 = none) ∨ (X = [] ∧ X' = [])
theorem TabB.mono {X X' : List (Addr × AO)} {B' B'' : G} {s : Shared} (h : TabB X X' B' s) (k : Sub B' B'') : TabB X X' B'' s := by
  rcases h with ⟨a, c1, c2, b, c, e⟩ | h
  · exact .inl ⟨a, c1, c2, b, c.mono k, e⟩
  · exact .inr h
theorem k_keep59 (P : Params) : keepIn (hd.heap_39 P) (.ref 59) = true := by kernel_rfl
theorem w_mklex {e : Expr} {p0 p1 p2 p3 : Pos} (W : Wd P s₀ B₀ env ns B s vs (os ++ X)) (hT : TabS X B) (hkn : Kd ns (Str.ofString "_netrclex") .globalImplicit) (hks : Kd ns (Str.ofString "_law_stream") .globalImplicit) (hpe : plainArg e = true) (hA : AOk A (k + 2))
    (he : wpAny (model prog w) A (eval e env) (fun v s₁ => ∃ x t, v = .str x t ∧ x.length ≤ 10000 ∧ Wd P s₀ B₀ env ns B s₁ vs (os ++ X) ∧
      ∀ lx d st sg pb ys B' t u X' s', Sub B B' → TabB X X' B' s₁ → LexAt P B' lx d st sg → StrsAre ys (x.cps.toList.map one) → Wd P s₀ B₀ env ns B' s' vs (lexO sg d pb ys 1 t u st [] (os ++ X')) → Q (.ref lx) s') E s) :
    wpAny (model prog w) A (eval (.Call (.Name (Str.ofString "_netrclex") p0) [.Call (.Name (Str.ofString "_law_stream") p1) [e] [] p2] [] p3) env) Q E s := by
  with_reducible refine Call_ (ev_glob W hkn .netrclex ?_) ?_
  · refine callWith_K (K := hd.heap_39 P) W.inK (k_keep59 P) ?_
    with_reducible refine' args_c ?_ ?_
    · rfl
    refine call_g W hks .stream (by rfl) (by rfl) hpe ?_
    with_reducible refine' args_c hpe ?_
    refine wpAny_mono he (fun v s₁ h₁ => ?_) fun _ _ x => x
    obtain ⟨x, t, rfl, hx, W₁, h⟩ := h₁
    with_reducible refine' PyProof.Rows.args_nil ?_
    refine ⟨W₁.st, ?_⟩
    have hXX : ∀ p ∈ X, p ∈ os ++ X := fun p hp => List.mem_append_right _ hp
    refine wpAny_call (stream_code (X := X) (B := B) W₁.stat (W₁.hidden (fun a ha => ?_)) (fun p hp => W₁.objs p (hXX p hp)) hT (hA.less (m := k + 1) (by (first | with_reducible assumption | exact Nat.le_of_ble_eq_true rfl | exact Nat.add_le_add_left (Nat.le_of_ble_eq_true rfl) _ | exact Nat.le_trans (by assumption) (Nat.le_of_ble_eq_true rfl) | exact Nat.lt_of_le_of_lt (by assumption) (Nat.le_of_ble_eq_true rfl) | exact Nat.le_trans (Nat.le_of_eq (by assumption)) (Nat.le_trans (by assumption) (Nat.le_of_ble_eq_true rfl)) | lia | omega))) hx ?_)
    · rw [List.map_append]; exact List.mem_append_right _ ha
    intro st sg ys X' s' c hTE hn hX' hys hsg hnew hst
    have W₂ := Wd.call (X := X) (X' := X') (Y := [(sg, .list ys)]) (W₁.perm List.perm_append_comm) c hn hX' (by simp) (by simpa using hnew) (by intro p hp; simp at hp; subst hp; exact hsg)
    with_reducible refine' PyProof.Rows.args_nil ?_
    refine ⟨W₂.inK, ?_⟩
    show wpAny _ _ (call (.ref 59) [.ref st]) _ _ _
    refine wpAny_call (make_code W₂.st hA ?_)
    intro lx d pb t' u' s'' kk hlx hd' hpb n1 n2 n3 e1 e2 e3
    have W₃ := Wd.call (X := []) (X' := []) (Y := [(d, .ns (lexL 1 t' u' st pb)), (pb, .list [])]) W₂ (chg_keeps kk) rfl (fun p hp => nomatch hp) (by simp; exact fun e => e2 e.symm) (by intro p hp; simp at hp; rcases hp with rfl | rfl <;> assumption)
      (by intro p hp; simp at hp; rcases hp with rfl | rfl <;> assumption)
    have k1 : Sub B (grow B s₁ s' (List.map Prod.fst [(sg, AO.list ys)])) := grow_sub W₁.keep
    have k2 := grow_sub (s' := s'') (Y := List.map Prod.fst [(d, AO.ns (lexL 1 t' u' st pb)), (pb, AO.list [])]) W₂.keep
    refine h lx d st sg pb ys _ t' u' X' s'' (k1.trans k2) ?_ ⟨?_, StreamAt.mono hst k2⟩ hys (W₃.perm ?_)
    · rcases hTE with ⟨a, c1, c2, b, hc, hn1⟩ | hh
      · refine .inl ⟨a, c1, c2, b, ?_, hn1⟩
        refine CodeG.mono ?_ k2
        obtain ⟨c, o, vs', t, e1, e2, e3⟩ := hc
        cases e1
        refine ⟨c1, o, vs', t, rfl, ?_, e3⟩
        rw [grow_new hn1 (fun hm => ?_)]; exact e2
        have hm : c1 = sg := by simpa using hm
        subst hm
        obtain ⟨n, hsg⟩ := hsg
        rw [hsg] at e2
        cases e2
        obtain ⟨_, e3⟩ := e3
        exact absurd e3 (by rename_i e4; cases e4)
      · exact .inr hh
    · rw [grow_new n1 (by simp; exact ⟨e1, fun e => e3 e.symm⟩)]; exact hlx
    · simp only [List.nil_append, List.cons_append]
      refine List.Perm.trans (List.perm_middle (l₁ := [(d, AO.ns (lexL 1 t' u' st pb)), (pb, AO.list [])])) ?_
      exact List.Perm.cons _ (List.Perm.cons _ (List.Perm.cons _ (List.perm_append_comm (l₁ := X') (l₂ := os))))
  · rfl
end
/-- `ex_while` with the turn's end under a name -/
theorem ex_whileC {prog : Program} {w : World} {A : Around} {E : Value → Shared → Prop} {s : Shared} {env : Env} {test : Expr} {body : List Stmt} {pos : Pos} {Q : Flow → Shared → Prop} (I : Nat → Shared → Prop)
    (turn : ∀ (n : Nat) (QQ : Flow → Shared → Prop) (s : Shared), (∀ m s₃, m < n → I m s₃ → QQ .next s₃ ∧ QQ .cont s₃) → (∀ s₃, Q .next s₃ → QQ .brk s₃) → (∀ v s₃, Q (.ret v) s₃ → QQ (.ret v) s₃) → I n s →
      wpAny (model prog w) A (isTrue test env (eval test env)) (fun b s₂ => if b = true then wpAny (model prog w) A (execs body env) QQ (fun _ _ => False) s₂ else Q .next s₂) (fun _ _ => False) s)
    (n : Nat) (h : I n s) : wpAny (model prog w) A (exec (.While test body [] pos) env) Q E s :=
  ex_while I (fun n s hI => turn n (fun f s₃ => match f with
        | .next | .cont => ∃ m, m < n ∧ I m s₃
        | .brk => Q .next s₃
        | .ret v => Q (.ret v) s₃) s (fun m s₃ a b => ⟨⟨m, a, b⟩, m, a, b⟩) (fun _ x => x) (fun _ _ x => x) hI) n h
end
-- Lrd
section
open PySem PySem.W PyProof.Rows PyProof.V PySem.SeqAt
theorem TabS.mono {X : List (Addr × AO)} {B B' : G} (h : TabS X B) (k : Sub B B') : TabS X B' := by
  rcases h with h | ⟨h, c1, c2, a, b⟩
  · exact .inl h
  · exact .inr ⟨h, c1, c2, a.mono k, b.mono k⟩
theorem TabS.nd {X : List (Addr × AO)} {B : G} (h : TabS X B) : (X.map Prod.fst).Nodup := by rcases h with rfl | ⟨rfl, _⟩ <;> simp
theorem TabB.names {X X' : List (Addr × AO)} {B : G} {s : Shared} (h : TabB X X' B s) : X'.map Prod.fst = X.map Prod.fst := by
  rcases h with ⟨rfl, c1, c2, rfl, _⟩ | ⟨rfl, rfl⟩ <;> rfl
theorem Wd.noneX {P : Params} {s s₁ : Shared} {B : G} {env : Env} {ns : List (Str × NameKind)} {vs : List (Option Value)} {os X : List (Addr × AO)} {a : Addr} (W : Wd P s (hide (X.map Prod.fst) s.heap.get?) env ns B s₁ vs (os ++ X)) (hn : s₁.heap.get? a = none) : s.heap.get? a = none := by
  cases e : s.heap.get? a with
  | none => rfl
  | some o =>
    have hx : a ∉ X.map Prod.fst := fun h => by
      obtain ⟨o, ho⟩ := W.stands (a := a) (List.mem_cons_of_mem _ (by rw [List.map_append]; exact List.mem_append_right _ h))
      rw [ho] at hn; cases hn
    have := W.keep _ _ (W.sub a o (by unfold hide; rw [if_neg hx]; exact e))
    rw [this] at hn; cases hn
theorem txt_nil : txt [] = Str.ofString "" := by decide
theorem txt_ne {y : List Nat} : (txt y != Str.ofString "") = !y.isEmpty := by
  rw [← txt_nil]
  cases y with
  | nil => rfl
  | cons c y =>
    show (!(txt (c :: y) == txt [])) = true
    rw [Bool.not_eq_true', beq_eq_false_iff_ne]
    intro h
    have := txt_inj h
    cases this

theorem tokQ_suf : ∀ (k : Nat) (cs : List Nat), cs.length ≤ k → ∀ acc, (tokQ acc cs).2 <:+ cs
  | _, [], _, acc => by unfold tokQ; exact List.suffix_refl _
  | 0, _ :: _, h, _ => by simp at h
  | k + 1, c :: cs, h, acc => by
    unfold tokQ
    split
    · exact List.suffix_cons _ _
    · split
      · cases cs with
        | nil => exact List.nil_suffix
        | cons e cs => exact ((tokQ_suf k cs (by simp at h; (first | with_reducible assumption | exact Nat.le_of_ble_eq_true rfl | exact Nat.add_le_add_left (Nat.le_of_ble_eq_true rfl) _ | exact Nat.le_trans (by assumption) (Nat.le_of_ble_eq_true rfl) | exact Nat.lt_of_le_of_lt (by assumption) (Nat.le_of_ble_eq_true rfl) | exact Nat.le_trans (Nat.le_of_eq (by assumption)) (Nat.le_trans (by assumption) (Nat.le_of_ble_eq_true rfl)) | lia | omega)) _).trans (List.suffix_cons _ _)).trans (List.suffix_cons _ _)
      · exact (tokQ_suf k cs (by simp at h; (first | with_reducible assumption | exact Nat.le_of_ble_eq_true rfl | exact Nat.add_le_add_left (Nat.le_of_ble_eq_true rfl) _ | exact Nat.le_trans (by assumption) (Nat.le_of_ble_eq_true rfl) | exact Nat.lt_of_le_of_lt (by assumption) (Nat.le_of_ble_eq_true rfl) | exact Nat.le_trans (Nat.le_of_eq (by assumption)) (Nat.le_trans (by assumption) (Nat.le_of_ble_eq_true rfl)) | lia | omega)) _).trans (List.suffix_cons _ _)
theorem tokW_suf : ∀ (k : Nat) (cs : List Nat), cs.length ≤ k → ∀ acc, (tokW acc cs).2 <:+ cs
  | _, [], _, acc => by unfold tokW; exact List.suffix_refl _
  | 0, _ :: _, h, _ => by simp at h
  | k + 1, c :: cs, h, acc => by
    unfold tokW
    split
    · exact List.suffix_cons _ _
    · split
      · cases cs with
        | nil => exact List.nil_suffix
        | cons e cs => exact ((tokW_suf k cs (by simp at h; (first | with_reducible assumption | exact Nat.le_of_ble_eq_true rfl | exact Nat.add_le_add_left (Nat.le_of_ble_eq_true rfl) _ | exact Nat.le_trans (by assumption) (Nat.le_of_ble_eq_true rfl) | exact Nat.lt_of_le_of_lt (by assumption) (Nat.le_of_ble_eq_true rfl) | exact Nat.le_trans (Nat.le_of_eq (by assumption)) (Nat.le_trans (by assumption) (Nat.le_of_ble_eq_true rfl)) | lia | omega)) _).trans (List.suffix_cons _ _)).trans (List.suffix_cons _ _)
      · exact (tokW_suf k cs (by simp at h; (first | with_reducible assumption | exact Nat.le_of_ble_eq_true rfl | exact Nat.add_le_add_left (Nat.le_of_ble_eq_true rfl) _ | exact Nat.le_trans (by assumption) (Nat.le_of_ble_eq_true rfl) | exact Nat.lt_of_le_of_lt (by assumption) (Nat.le_of_ble_eq_true rfl) | exact Nat.le_trans (Nat.le_of_eq (by assumption)) (Nat.le_trans (by assumption) (Nat.le_of_ble_eq_true rfl)) | lia | omega)) _).trans (List.suffix_cons _ _)
theorem getTok_suf : ∀ (cs : List Nat), (getTok cs).2 <:+ cs
  | [] => by unfold getTok; exact List.suffix_refl _
  | c :: cs => by
    unfold getTok
    split
    · exact (getTok_suf cs).trans (List.suffix_cons _ _)
    · split
      · exact (tokQ_suf _ cs (Nat.le_refl _) _).trans (List.suffix_cons _ _)
      · split
        · cases cs with
          | nil => exact List.nil_suffix
          | cons e cs => exact ((tokW_suf _ cs (Nat.le_refl _) _).trans (List.suffix_cons _ _)).trans (List.suffix_cons _ _)
        · exact (tokW_suf _ cs (Nat.le_refl _) _).trans (List.suffix_cons _ _)
theorem lread_code {prog : Program} {w : World} {A : Around} {E : Value → Shared → Prop} {P : Params} {s : Shared} {Q : Value → Shared → Prop} {k : Nat} {x : Str} {t : Tok} {X : List (Addr × AO)} {B : G} {ws : List (List Nat)}
    (S : Stat P B) (hB : Sub B (hide (X.map Prod.fst) s.heap.get?)) (hX : ∀ p ∈ X, p.2.Is s.heap.get? p.1) (hT : TabS X B) (hA : AOk A (k + 11)) (hx : x.length ≤ 10000) (hcs : ∀ c ∈ x.cps.toList, c < 128) (hr : ReadsC x.cps.toList ws) (hw : ws.length ≤ 1000)
    (hQ : ∀ r vl t X' s', Chg (X.map Prod.fst) s s' → TabE X X' s s' → X'.map Prod.fst = X.map Prod.fst → (∀ p ∈ X', p.2.Is s'.heap.get? p.1) → StrsAre vl (ws.map txt) → (AO.list (vl ++ [.int (1 + nl x.cps.toList) t])).Is s'.heap.get? r → s.heap.get? r = none → Q (.ref r) s') :
    codeAny (model prog w) A (.call (.ref 111) ⟨[.str x t], []⟩) (RetR Q E) s := by
  have S' := S.mono hB
  have ho := hide_sub _ _ _ _ (S'.K 111 _ rfl)
  have hc := hide_sub _ _ _ _ (S'.K 110 _ rfl)
  refine code_fnM (P := P) (n := k + 10) (X := X) S' hT.nd hX hA ho rfl rfl ⟨_, _, _, _, rfl, hc, rfl, rfl⟩ rfl rfl rfl rfl rfl ?_ ?_ ?_ (bind1 rfl) rfl ?_
  · decide
  · decide
  · decide
  clear ho hc
  intro env L s₂ henv W hA'
  clear henv
  refine cut ?_
  intro QF hQF
  replace hQ := fun r vl t X' s' a b c d e f g => hQF (.ret (.ref r)) s' (hQ r vl t X' s' a b c d e f g)
  clear hQF
  generalize A.deeper env = A' at hA'
  replace W : Wd P s (hide (X.map Prod.fst) s.heap.get?) env [(Str.ofString "text", .local), (Str.ofString "lexer", .local), (Str.ofString "told", .local), (Str.ofString "word", .local), (Str.ofString "_netrclex", .globalImplicit), (Str.ofString "_law_stream", .globalImplicit)]
    (hide (X.map Prod.fst) s.heap.get?) s₂ [some (.str x t), none, none, none, none, none] ([] ++ X) := W
  refine asgs ?_ ?_
  · rfl
  refine w_mklex (k := k) (os := []) W (hT.mono hB) (.tail (.tail (.tail (.tail .head)))) (.tail (.tail (.tail (.tail (.tail .head))))) rfl (hA'.less (by (first | with_reducible assumption | exact Nat.le_of_ble_eq_true rfl | exact Nat.add_le_add_left (Nat.le_of_ble_eq_true rfl) _ | exact Nat.le_trans (by assumption) (Nat.le_of_ble_eq_true rfl) | exact Nat.lt_of_le_of_lt (by assumption) (Nat.le_of_ble_eq_true rfl) | exact Nat.le_trans (Nat.le_of_eq (by assumption)) (Nat.le_trans (by assumption) (Nat.le_of_ble_eq_true rfl)) | lia | omega))) ?_
  ((((with_reducible refine' ev_local (by assumption) ?rd1 ?_); (case rd1 => ((with_reducible (repeat first | exact Rd.head | apply Rd.tail | (apply Rd.of; assumption))))))))
  refine ⟨x, t, rfl, hx, W, ?_⟩
  intro lx d st sg pb ys B₁ t₁ u X' s₃ hB₁ hTB R hys W₁
  have hnone := fun (a : Addr) (h : s₂.heap.get? a = none) => W.noneX h
  have hnm := hTB.names
  clear W
  ((((with_reducible refine' st_local (by assumption) ?wr2 ?_); (case wr2 => ((with_reducible (repeat first | exact Wr.head | apply Wr.tail | (apply Wr.of; assumption))))); intro _ _)))
  rename_i s₄ W₂
  clear W₁
  refine asgs ?_ ?_
  · rfl
  ((with_reducible refine' PyProof.Rows.List_ ?_))
  ((with_reducible refine' PyProof.Rows.args_nil ?_))
  ((((with_reducible refine' new_list (by assumption) ?sz5 ?_); (case sz5 => exact Nat.le_of_ble_eq_true rfl); intro _ _ _)))
  rename_i tl s₅ W₃
  clear W₂
  ((((with_reducible refine' st_local (by assumption) ?wr6 ?_); (case wr6 => ((with_reducible (repeat first | exact Wr.head | apply Wr.tail | (apply Wr.of; assumption))))); intro _ _)))
  rename_i s₆ W₄
  clear W₃
  refine asgs ?_ ?_
  · rfl
  have W₅ := W₄.perm (os' := lexO sg d pb ys 1 t₁ u st [] ((tl, .list []) :: ([] ++ X'))) ?_
  rotate_left
  · exact (List.perm_middle (l₁ := [(sg, AO.list ys), (d, .ns (lexL 1 t₁ u st pb)), (pb, .list [])])).symm
  clear W₄
  refine w_tok (k := k) (cs := x.cps.toList) W₅ R (.tail .head) rfl hys hcs (by simpa [Str.length] using hx) hA' ?_
  intro t₃ t₄ s₇ us' W₆ hus
  clear W₅
  ((((with_reducible refine' st_local (by assumption) ?wr7 ?_); (case wr7 => ((with_reducible (repeat first | exact Wr.head | apply Wr.tail | (apply Wr.of; assumption))))); intro _ _)))
  rename_i s₈ W₇
  clear W₆
  refine wpAny_execs_cons (ex_whileC (fun m s' => ∃ done rest cs us n t₂ vl tw, ReadsC cs rest ∧ done ++ rest = ws ∧ rest.length = m ∧ StrsAre us ((getTok cs).2.map one) ∧ n + nl (getTok cs).2 = 1 + nl x.cps.toList ∧ (∀ c ∈ (getTok cs).2, c < 128) ∧ (getTok cs).2.length ≤ 10000 ∧ StrsAre vl (done.map txt) ∧
      Wd P s (hide (X.map Prod.fst) s.heap.get?) env [(Str.ofString "text", .local), (Str.ofString "lexer", .local), (Str.ofString "told", .local), (Str.ofString "word", .local), (Str.ofString "_netrclex", .globalImplicit), (Str.ofString "_law_stream", .globalImplicit)] B₁ s'
        [some (.str x t), some (.ref lx), some (.ref tl), some (.str (txt (getTok cs).1) tw), none, none] (lexO sg d pb us n t₂ u st [] ((tl, .list vl) :: ([] ++ X')))) ?_ ws.length ?_)
  · intro m QQ s' hQQ _ _ hI
    obtain ⟨done, rest, cs, us, n, t₂, vl, tw, h1, h2, h3, h4, h5, h6, h7, h8, W⟩ := hI
    replace hQQ := fun m' done rest cs us n t₂ vl tw s3 hm a b c d e f g i W => (hQQ m' s3 hm ⟨done, rest, cs, us, n, t₂, vl, tw, a, b, c, d, e, f, g, i, W⟩).1
    ((((with_reducible refine' test1 ?nm8 ?_); (case nm8 => rfl))))
    ((((with_reducible refine' ev_local (by assumption) ?rd9 ?_); (case rd9 => ((with_reducible (repeat first | exact Rd.head | apply Rd.tail | (apply Rd.of; assumption))))))))
    ((((with_reducible refine' c_str (by assumption) ?_); intro _ _ _)))
    ((with_reducible refine' o_neS ?_))
    ((with_reducible refine' tr_bool ?_))
    rw [txt_ne]
    rename_i e1 s₉ W₉
    clear W
    cases h1 with
    | done e =>
      rw [e] at h4 h5 W₉ ⊢
      show wpAny _ _ _ _ _ _
      ((with_reducible refine' rets ?_))
      ((with_reducible refine' wpAny_BinOp ?_))
      ((((with_reducible refine' ev_local (by assumption) ?rd15 ?_); (case rd15 => ((with_reducible (repeat first | exact Rd.head | apply Rd.tail | (apply Rd.of; assumption))))))))
      ((with_reducible refine' PyProof.Rows.List_ ?_))
      ((((with_reducible refine' args_c ?pa17 ?_); (case pa17 => rfl))))
      with_reducible refine' ev_attr rfl ?_
      ((((with_reducible refine' ev_local (by assumption) ?rd18 ?_); (case rd18 => ((with_reducible (repeat first | exact Rd.head | apply Rd.tail | (apply Rd.of; assumption))))))))
      obtain ⟨hRx, _⟩ := id R
      with_reducible refine' at_get W₉ hRx (mem_t mem_h) (k_lineno P) rfl rfl ?_
      intro s₁₀ W₁₀
      clear W₉
      ((with_reducible refine' PyProof.Rows.args_nil ?_))
      with_reducible refine' new_list W₁₀ ?_ ?_
      · exact Nat.le_of_ble_eq_true rfl
      intro D s₁₁ W₁₁
      clear W₁₀
      simp only [List.append_nil] at h2
      subst h2
      with_reducible refine' w_addL W₁₁ (W₁₁.at (mem_t (mem_t (mem_t (mem_t mem_h))))) (W₁₁.at mem_h) ?_ ?_
      · rw [strs_len h8, List.length_map, sizeLine_eq]; show _ + 1 ≤ _; (first | with_reducible assumption | exact Nat.le_of_ble_eq_true rfl | exact Nat.add_le_add_left (Nat.le_of_ble_eq_true rfl) _ | exact Nat.le_trans (by assumption) (Nat.le_of_ble_eq_true rfl) | exact Nat.lt_of_le_of_lt (by assumption) (Nat.le_of_ble_eq_true rfl) | exact Nat.le_trans (Nat.le_of_eq (by assumption)) (Nat.le_trans (by assumption) (Nat.le_of_ble_eq_true rfl)) | lia | omega)
      intro D' s₁₂ W₁₂
      have hn : n = 1 + nl x.cps.toList := by
        have h5' : n + nl ([] : List Nat) = 1 + nl x.cps.toList := h5
        have : nl ([] : List Nat) = 0 := rfl
        (first | with_reducible assumption | exact Nat.le_of_ble_eq_true rfl | exact Nat.add_le_add_left (Nat.le_of_ble_eq_true rfl) _ | exact Nat.le_trans (by assumption) (Nat.le_of_ble_eq_true rfl) | exact Nat.lt_of_le_of_lt (by assumption) (Nat.le_of_ble_eq_true rfl) | exact Nat.le_trans (Nat.le_of_eq (by assumption)) (Nat.le_trans (by assumption) (Nat.le_of_ble_eq_true rfl)) | lia | omega)
      subst hn
      have hmem : ∀ p ∈ X', p ∈ (D', AO.list (vl ++ [Value.int (1 + nl x.cps.toList) t₂])) :: (D, .list [Value.int (1 + nl x.cps.toList) t₂]) :: lexO sg d pb us (1 + nl x.cps.toList) t₂ u st [] ((tl, .list vl) :: ([] ++ X')) := fun p hp => by simp [hp]
      refine hQ D' vl t₂ X' s₁₂ W₁₂.doneX ?_ hnm (fun p hp => W₁₂.objs p (hmem p hp)) h8 (W₁₂.at mem_h) ?_
      · rcases hTB with ⟨a, c1, c2, b, c, e⟩ | hh
        · exact .inl ⟨a, c1, c2, b, c.mono W₁₂.keep, hnone _ e⟩
        · exact .inr hh
      · refine W₁₂.ownX mem_h (fun hm => ?_)
        rw [← hnm] at hm
        have := (List.nodup_cons.mp W₁₂.apart).2
        rw [List.map_cons, List.nodup_cons] at this
        refine this.1 ?_
        obtain ⟨p, hp, e⟩ := List.mem_map.mp hm
        rw [← e]
        refine List.mem_map.mpr ⟨p, ?_, rfl⟩
        simp [hp]
    | @more _ y r rest' e hy hr' =>
      rw [e] at h4 h5 h6 h7 W₉ ⊢
      have hy' : (!y.isEmpty) = true := by cases y with
        | nil => exact absurd rfl hy
        | cons => rfl
      show if (!y.isEmpty) = true then _ else _
      rw [if_pos hy']
      show wpAny _ _ _ _ _ _
      ((((with_reducible refine' exprs (by assumption) ?nc20 ?_); (case nc20 => rfl))))
      ((((with_reducible refine' call_meth ?sd21 ?_); (case sd21 => rfl))))
      ((((with_reducible refine' ev_local (by assumption) ?rd22 ?_); (case rd22 => ((with_reducible (repeat first | exact Rd.head | apply Rd.tail | (apply Rd.of; assumption))))))))
      with_reducible refine' gm_append (W₉.at (mem_t (mem_t (mem_t mem_h)))) ?_
      ((((with_reducible refine' with_builtin ?sd23 ?_); (case sd23 => rfl))))
      ((((with_reducible refine' args_c ?pa24 ?_); (case pa24 => rfl))))
      ((((with_reducible refine' ev_local (by assumption) ?rd25 ?_); (case rd25 => ((with_reducible (repeat first | exact Rd.head | apply Rd.tail | (apply Rd.of; assumption))))))))
      ((with_reducible refine' PyProof.Rows.args_nil ?_))
      show wpAny _ _ (call (.builtin "list.append") [.ref tl, _]) _ _ _
      with_reducible refine' l_append W₉ (.tail (.tail (.tail .head))) ?_ ?_
      · rw [strs_len h8, List.length_map, sizeLine_eq]
        have := congrArg List.length h2
        simp at this; (first | with_reducible assumption | exact Nat.le_of_ble_eq_true rfl | exact Nat.add_le_add_left (Nat.le_of_ble_eq_true rfl) _ | exact Nat.le_trans (by assumption) (Nat.le_of_ble_eq_true rfl) | exact Nat.lt_of_le_of_lt (by assumption) (Nat.le_of_ble_eq_true rfl) | exact Nat.le_trans (Nat.le_of_eq (by assumption)) (Nat.le_trans (by assumption) (Nat.le_of_ble_eq_true rfl)) | lia | omega)
      intro s₁₀ W₁₀
      clear W₉
      refine ⟨rfl, ?_⟩
      refine asgs ?_ ?_
      · rfl
      refine w_tok (k := k) (cs := r) W₁₀ R (.tail .head) rfl h4 h6 h7 hA' ?_
      intro t₃ t₄ s₁₁ us' W₁₁ hus'
      clear W₁₀
      ((((with_reducible refine' st_local (by assumption) ?wr27 ?_); (case wr27 => ((with_reducible (repeat first | exact Wr.head | apply Wr.tail | (apply Wr.of; assumption))))); intro _ _)))
      rename_i s₁₂ W₁₂
      clear W₁₁
      refine wpAny_execs_nil ?_
      have hsuf := getTok_suf r
      have h5' : n + nl r = 1 + nl x.cps.toList := h5
      refine hQQ rest'.length (done ++ [y]) rest' r us' _ t₄ _ t₃ _ (by simp at h3; (first | with_reducible assumption | exact Nat.le_of_ble_eq_true rfl | exact Nat.add_le_add_left (Nat.le_of_ble_eq_true rfl) _ | exact Nat.le_trans (by assumption) (Nat.le_of_ble_eq_true rfl) | exact Nat.lt_of_le_of_lt (by assumption) (Nat.le_of_ble_eq_true rfl) | exact Nat.le_trans (Nat.le_of_eq (by assumption)) (Nat.le_trans (by assumption) (Nat.le_of_ble_eq_true rfl)) | lia | omega)) hr' (by rw [List.append_assoc]; exact h2) rfl hus' (by (first | with_reducible assumption | exact Nat.le_of_ble_eq_true rfl | exact Nat.add_le_add_left (Nat.le_of_ble_eq_true rfl) _ | exact Nat.le_trans (by assumption) (Nat.le_of_ble_eq_true rfl) | exact Nat.lt_of_le_of_lt (by assumption) (Nat.le_of_ble_eq_true rfl) | exact Nat.le_trans (Nat.le_of_eq (by assumption)) (Nat.le_trans (by assumption) (Nat.le_of_ble_eq_true rfl)) | lia | omega)) (fun c hc => h6 c (hsuf.mem hc)) (Nat.le_trans hsuf.length_le h7) ?_ W₁₂
      rw [List.map_append]
      exact strs_snoc h8 _ _
  · have hsuf := getTok_suf x.cps.toList
    exact ⟨[], ws, x.cps.toList, us', _, t₄, [], t₃, hr, rfl, rfl, hus, by (first | with_reducible assumption | exact Nat.le_of_ble_eq_true rfl | exact Nat.add_le_add_left (Nat.le_of_ble_eq_true rfl) _ | exact Nat.le_trans (by assumption) (Nat.le_of_ble_eq_true rfl) | exact Nat.lt_of_le_of_lt (by assumption) (Nat.le_of_ble_eq_true rfl) | exact Nat.le_trans (Nat.le_of_eq (by assumption)) (Nat.le_trans (by assumption) (Nat.le_of_ble_eq_true rfl)) | lia | omega), fun c hc => hcs c (hsuf.mem hc), Nat.le_trans hsuf.length_le (by simpa [Str.length] using hx), .nil, W₇⟩
end
-- Sq
section
open PySem PySem.W PyProof.Rows PyProof.V PySem.SeqAt
section
variable {prog : Program} {w : World} {A : Around} {E : Value → Shared → Prop} {P : Params} {s₀ s : Shared} {B₀ : G} {env : Env} {ns : List (Str × NameKind)} {B : G} {vs : List (Option Value)} {os : List (Addr × AO)} {Q : Value → Shared → Prop} {a : Int} {t u : Tok}
theorem w_neg (W : Wd P s₀ B₀ env ns B s vs os) (h : ∀ t s', Wd P s₀ B₀ env ns B s' vs os → Q (.int (-a) t) s') : wpAny (model prog w) A (unaryOp .USub (.int a t)) Q E s := by with_reducible exact PyProof.Rows.neg_int (h _ _ (W.toks _))
theorem sub_last {value slice : Expr} {l : Addr} {items : List Value} {x : Value} (hn : (onName value && noSlice slice) = true) (hl : (AO.list (items ++ [x])).Is s.heap.get? l) (hsz : items.length ≤ 100000)
    (h : Q x s) : wpAny (model prog w) A (subscriptTail value slice (.ref l) (.int (-1) u)) Q E s := by
  obtain ⟨h1, h2⟩ := Bool.and_eq_true_iff.mp hn
  have e : (items ++ [x]).toArray.size = items.length + 1 := by simp
  refine subscriptTail_builtin hl.isL.typeIs slot_list_getitem.lookup (wpAny_getItem_list_neg hl.isL (by decide) (by rw [e]; (first | with_reducible assumption | exact Nat.le_of_ble_eq_true rfl | exact Nat.add_le_add_left (Nat.le_of_ble_eq_true rfl) _ | exact Nat.le_trans (by assumption) (Nat.le_of_ble_eq_true rfl) | exact Nat.lt_of_le_of_lt (by assumption) (Nat.le_of_ble_eq_true rfl) | exact Nat.le_trans (Nat.le_of_eq (by assumption)) (Nat.le_trans (by assumption) (Nat.le_of_ble_eq_true rfl)) | lia | omega)) (by (first | with_reducible assumption | exact Nat.le_of_ble_eq_true rfl | exact Nat.add_le_add_left (Nat.le_of_ble_eq_true rfl) _ | exact Nat.le_trans (by assumption) (Nat.le_of_ble_eq_true rfl) | exact Nat.lt_of_le_of_lt (by assumption) (Nat.le_of_ble_eq_true rfl) | exact Nat.le_trans (Nat.le_of_eq (by assumption)) (Nat.le_trans (by assumption) (Nat.le_of_ble_eq_true rfl)) | lia | omega)) ?_ h) ?_ ?_
  · rw [e]
    have : (-1 + ((items.length + 1 : Nat) : Int)).toNat = items.length := by (first | with_reducible assumption | exact Nat.le_of_ble_eq_true rfl | exact Nat.add_le_add_left (Nat.le_of_ble_eq_true rfl) _ | exact Nat.le_trans (by assumption) (Nat.le_of_ble_eq_true rfl) | exact Nat.lt_of_le_of_lt (by assumption) (Nat.le_of_ble_eq_true rfl) | exact Nat.le_trans (Nat.le_of_eq (by assumption)) (Nat.le_trans (by assumption) (Nat.le_of_ble_eq_true rfl)) | lia | omega)
    rw [this]; simp
  · exact noSlice_sub h2 _ _
  · exact onName_let h1 _
theorem w_slice {value : Expr} {lower upper : Option Expr} {p : Pos} {l : Addr} {items : List Value} {vl vu : Value} {lo hi : Option Int} (W : Wd P s₀ B₀ env ns B s vs os) (hn : onName value = true) (hl : (AO.list items).Is s.heap.get? l) (pl : IsPart vl lo) (pu : IsPart vu hi)
    (hsz : items.length ≤ 100000) (h : ∀ D s', Wd P s₀ B₀ env ns B s' vs ((D, .list (slicePick items.toArray lo hi none).toList) :: os) → Q (.ref D) s') :
    wpAny (model prog w) A (subscriptTail value (.Slice lower upper none p) (.ref l) (.ref s.heap.objs.size)) Q E { s with heap := s.heap.push { cls := .type "slice", data := .fields #[vl, vu, .none] } } := by
  have W1 := W.keeps (keeps_push s { cls := .type "slice", data := .fields #[vl, vu, .none] } s.toks)
  have hl1 : (AO.list items).Is (s.heap.push { cls := .type "slice", data := .fields #[vl, vu, .none] }).get? l := hl.mono fun b o e => Heap.get?_push_of_some _ e
  refine subscriptTail_ops (ops := [.ref s.heap.objs.size, .ref l]) (Heap.IsList.typeIs (s := { s with heap := s.heap.push { cls := .type "slice", data := .fields #[vl, vu, .none] } }) (AO.Is.isL (s := { s with heap := s.heap.push { cls := .type "slice", data := .fields #[vl, vu, .none] } }) hl1)) slot_list_getitem.lookup
    (wpAny_getItem_list_slice (AO.Is.isL (s := { s with heap := s.heap.push { cls := .type "slice", data := .fields #[vl, vu, .none] } }) hl1) (Heap.IsSliceOf.new ..) pl pu .none (by simp) ?_ (by rw [sizeLine_eq]; simp; (first | with_reducible assumption | exact Nat.le_of_ble_eq_true rfl | exact Nat.add_le_add_left (Nat.le_of_ble_eq_true rfl) _ | exact Nat.le_trans (by assumption) (Nat.le_of_ble_eq_true rfl) | exact Nat.lt_of_le_of_lt (by assumption) (Nat.le_of_ble_eq_true rfl) | exact Nat.le_trans (Nat.le_of_eq (by assumption)) (Nat.le_trans (by assumption) (Nat.le_of_ble_eq_true rfl)) | lia | omega))) rfl ?_
  · exact h _ _ (W1.push (t := s.toks) (x := .list (slicePick items.toArray lo hi none).toList) ⟨0, (Heap.get?_push_size _ rfl).trans (by simp)⟩)
  · exact onName_let hn _
end
end
-- Lrn
section
open PySem PySem.W PyProof.Rows PyProof.V PySem.SeqAt
/-! ### a program run on a content -/
noncomputable def runP : List Str → List Str → Option (List Str)
  | [], q => some q
  | d :: r, q => if d.length = 2 then runP r (q ++ [d]) else match q with
    | [] => none
    | y :: q' => if y ++ Str.ofString "-" = d then runP r q' else none
noncomputable def EndIs (h₀ g : G) (v : Value) (o : Option (List Str)) : Prop := (o = none ∧ v = .none) ∨ ∃ q r rv, o = some q ∧ v = .ref r ∧ h₀ r = none ∧ StrsAre rv q ∧ (AO.list rv).Is g r
theorem strs_head {pv : List Value} {y : Str} {q : List Str} (h : StrsAre pv (y :: q)) : ∃ t pv', pv = .str y t :: pv' ∧ StrsAre pv' q := by cases h with | cons _ t h => exact ⟨t, _, rfl, h⟩
theorem strs_nil {pv : List Value} (h : StrsAre pv []) : pv = [] := by cases h; rfl
theorem strs_snoc' {pv : List Value} {q : List Str} {y : Str} (h : StrsAre pv (q ++ [y])) : ∃ pv' t, pv = pv' ++ [.str y t] ∧ StrsAre pv' q := by
  induction q generalizing pv with
  | nil => obtain ⟨t, pv', rfl, h'⟩ := strs_head h; rw [strs_nil h']; exact ⟨[], t, rfl, .nil⟩
  | cons z q ih =>
    obtain ⟨t, pv', rfl, h'⟩ := strs_head h
    obtain ⟨pv'', t', rfl, h''⟩ := ih h'
    exact ⟨.str z t :: pv'', t', rfl, .cons _ _ h''⟩
theorem lexO_in (it sg d pb : Addr) (x : AO) (us : List Value) (n : Int) (t u : Tok) (st : Addr) (ps : List Value) (os : List (Addr × AO)) : ((it, x) :: lexO sg d pb us n t u st ps os).Perm (lexO sg d pb us n t u st ps ((it, x) :: os)) :=
  (List.perm_middle (l₁ := [(sg, AO.list us), (d, .ns (lexL n t u st pb)), (pb, .list ps)])).symm
noncomputable abbrev rns : List (Str × NameKind) := [(Str.ofString "told", .local), (Str.ofString "content", .local), (Str.ofString "line", .local), (Str.ofString "word", .local), (Str.ofString "deed", .local), (Str.ofString "waiting", .local),
  (Str.ofString "_netrclex", .globalImplicit), (Str.ofString "_law_stream", .globalImplicit), (Str.ofString "len", .globalImplicit)]
theorem tilde_len : (Str.ofString "~").length = 1 := by decide
theorem dash_len : (Str.ofString "-").length = 1 := by decide
theorem tilde_eq : txt [126] = Str.ofString "~" := by decide
theorem drop_cons {α : Type} {l : List α} {j : Nat} {a : α} (h : l[j]? = some a) : l.drop j = a :: l.drop (j + 1) := by
  obtain ⟨hj, e⟩ := List.getElem?_eq_some_iff.mp h
  rw [List.drop_eq_getElem_cons hj, e]

theorem runP_put {d : Str} {r q : List Str} (h : d.length = 2) : runP (d :: r) q = runP r (q ++ [d]) := by
  conv => lhs; unfold runP
  rw [if_pos h]
theorem runP_nil {d : Str} {r : List Str} (h : ¬ d.length = 2) : runP (d :: r) [] = none := by
  conv => lhs; unfold runP
  rw [if_neg h]
theorem runP_take {d y : Str} {r q : List Str} (h : ¬ d.length = 2) : runP (d :: r) (y :: q) = if y ++ Str.ofString "-" = d then runP r q else none := by
  conv => lhs; unfold runP
  rw [if_neg h]
theorem w_next {prog : Program} {w : World} {A : Around} {E : Value → Shared → Prop} {P : Params} {s₀ s : Shared} {B₀ : G} {env : Env} {ns : List (Str × NameKind)} {B : G} {vs : List (Option Value)} {os : List (Addr × AO)} {Q : Value → Shared → Prop}
    {x d st sg pb : Addr} {us ps : List Value} {n : Int} {t u : Tok} {k : Nat} {nm : Str} {p1 p2 p3 : Pos} {q : List Str} (W : Wd P s₀ B₀ env ns B s vs (lexO sg d pb us n t u st ps os)) (R : LexAt P B x d st sg) (hr : Rd ns vs nm (.ref x)) (hp : Nat.beq p2.endLine p3.line = true)
    (hus : StrsAre us ([126].map one)) (hps : StrsAre ps q) (hq : q.length ≤ 10000) (hA : AOk A (k + 10))
    (h0 : q = [] → ∀ t₁ s' us' n' t', Wd P s₀ B₀ env ns B s' vs (lexO sg d pb us' n' t' u st [] os) → Q (.str (Str.ofString "~") t₁) s')
    (h1 : ∀ z q' t₁ ps', q = z :: q' → StrsAre ps' q' → ∀ s', Wd P s₀ B₀ env ns B s' vs (lexO sg d pb us n t u st ps' os) → Q (.str z t₁) s') :
    wpAny (model prog w) A (eval (.Call (.Attribute (.Name nm p1) (Str.ofString "get_token") p2) [] [] p3) env) Q E s := by
  cases q with
  | nil =>
    rw [strs_nil hps] at W
    refine w_tok (k := k) (cs := [126]) W R hr hp hus (by decide) (by decide) hA ?_
    intro t₃ t₄ s₁₂ us' W₁₂ hus'
    have e1 : txt (getTok [126]).1 = Str.ofString "~" := by decide
    rw [e1]
    exact h0 rfl _ _ _ _ _ W₁₂
  | cons z q =>
    obtain ⟨tz, pv', rfl, hpv'⟩ := strs_head hps
    refine w_pop (k := k + 9) W R hr hp ?_ hA (fun s₁₂ W₁₂ => ?_)
    · rw [strs_len hpv']; simp at hq; (first | with_reducible assumption | exact Nat.le_of_ble_eq_true rfl | exact Nat.add_le_add_left (Nat.le_of_ble_eq_true rfl) _ | exact Nat.le_trans (by assumption) (Nat.le_of_ble_eq_true rfl) | exact Nat.lt_of_le_of_lt (by assumption) (Nat.le_of_ble_eq_true rfl) | exact Nat.le_trans (Nat.le_of_eq (by assumption)) (Nat.le_trans (by assumption) (Nat.le_of_ble_eq_true rfl)) | lia | omega)
    exact h1 z q tz pv' rfl hpv' _ W₁₂

theorem lrun_spec {prog : Program} {w : World} {A : Around} {E : Value → Shared → Prop} {P : Params} {s : Shared} {Q : Value → Shared → Prop} {k : Nat} {tl cl : Addr} {tv cv : List Value} {tds cds : List Str}
    (S : Stat P s.heap.get?) (hT : TabAt s.heap.get?) (hA : AOk A (k + 11)) (htl : (AO.list tv).Is s.heap.get? tl) (htv : StrsAre tv tds) (hcl : (AO.list cv).Is s.heap.get? cl) (hcv : StrsAre cv cds)
    (h23 : ∀ y ∈ tds, y.length = 2 ∨ y.length = 3) (hc2 : ∀ y ∈ cds, y.length = 2) (htn : tds.length ≤ 1000) (hcn : cds.length ≤ 1000)
    (hQ : ∀ v s', Keeps s s' → EndIs s.heap.get? s'.heap.get? v (runP tds cds) → Q v s') :
    wpAny (model prog w) A (call (.ref 123) [.ref tl, .ref cl]) Q E s := by
  have ho := S.K 123 _ rfl
  have hc := S.K 122 _ rfl
  refine call_fn (n := k + 10) S hA ho rfl rfl ⟨_, _, _, _, rfl, hc, rfl, rfl⟩ rfl rfl rfl rfl rfl (by decide) (by decide) (by decide) ?_
  clear ho hc
  refine wpAny_of_eq (bind2 rfl (by decide)) ⟨keeps_refl _, rfl, fun env L s₂ he W hA' => ?_⟩
  replace W : Wd P s s.heap.get? env rns s.heap.get? s₂ [some (.ref tl), some (.ref cl), none, none, none, none, none, none, none] ([] ++ []) := W
  clear he
  refine cut ?_
  intro QF hQF
  replace hQ := fun v s' k e => hQF (.ret v) s' (hQ v s' k e)
  clear hQF
  generalize A.deeper env = A' at hA'
  refine asgs ?_ ?_
  · rfl
  refine w_mklex (k := k) (os := []) (X := []) W (.inr ⟨rfl, hT⟩) (.tail (.tail (.tail (.tail (.tail (.tail .head)))))) (.tail (.tail (.tail (.tail (.tail (.tail (.tail .head))))))) rfl (hA'.less (by (first | with_reducible assumption | exact Nat.le_of_ble_eq_true rfl | exact Nat.add_le_add_left (Nat.le_of_ble_eq_true rfl) _ | exact Nat.le_trans (by assumption) (Nat.le_of_ble_eq_true rfl) | exact Nat.lt_of_le_of_lt (by assumption) (Nat.le_of_ble_eq_true rfl) | exact Nat.le_trans (Nat.le_of_eq (by assumption)) (Nat.le_trans (by assumption) (Nat.le_of_ble_eq_true rfl)) | lia | omega))) ?_
  with_reducible refine' c_str W ?_
  intro t₁ s₃ W₃
  refine ⟨_, t₁, rfl, by rw [tilde_len]; decide, W₃, ?_⟩
  intro lx d st sg pb ys B₁ t₂ u X' s₄ hB₁ hTB R hys W₄
  have hX' : X' = [] := List.map_eq_nil_iff.mp hTB.names
  subst hX'
  clear W W₃
  ((((with_reducible refine' st_local (by assumption) ?wr1 ?_); (case wr1 => ((with_reducible (repeat first | exact Wr.head | apply Wr.tail | (apply Wr.of; assumption))))); intro _ _)))
  rename_i s₅ W₅
  clear W₄
  have htl' := htl.mono hB₁
  have hcl' := hcl.mono hB₁
  have hys' : StrsAre ys ([126].map one) := hys
  -- the content
  refine wpAny_execs_cons (ex_for ?_ ?_)
  · ((((with_reducible refine' ev_local (by assumption) ?rd2 ?_); (case rd2 => ((with_reducible (repeat first | exact Rd.head | apply Rd.tail | (apply Rd.of; assumption))))))))
    refine it_list W₅ (W₅.ofB hcl') fun it s₆ W₆ _ => ?_
    refine for_loopC (fun j B' vs' os' => ∃ pv wv, vs' = [some (.ref tl), some (.ref cl), some (.ref lx), wv, none, none, none, none, none] ∧ os' = lexO sg d pb ys 1 t₂ u st pv [] ∧ StrsAre pv (cds.take j) ∧ B' = B₁)
      (Steps.list hA'.handled hcl') (fun _ => rfl) W₆ ⟨[], none, rfl, rfl, .nil, rfl⟩ ?_ ?_
    · intro j QQ v B' vs' os' s' hQQ _ _ hj hv hB hφ W'
      obtain ⟨pv, wv, rfl, rfl, hpv, rfl⟩ := hφ
      obtain ⟨y, ty, rfl, hy⟩ := strs_get hcv hv
      replace hQQ := fun pv' wv s3 (g : StrsAre pv' (cds.take (j + 1))) W => (hQQ B' [some (.ref tl), some (.ref cl), some (.ref lx), wv, none, none, none, none, none] (lexO sg d pb ys 1 t₂ u st pv' []) s3 (.refl _) ⟨pv', wv, rfl, rfl, g, rfl⟩ W).1
      refine wpAny_assign_Name (st_local W' (.tail (.tail (.tail .head))) (fun s₇ W₇ => ?_))
      have W₈ := W₇.perm (lexO_in ..)
      ((((with_reducible refine' exprs (by assumption) ?nc3 ?_); (case nc3 => rfl))))
      refine w_push (k := k + 9) W₈ R (.tail (.tail .head)) rfl (.tail (.tail (.tail .head))) ?_ hA' (fun s₉ W₉ => ⟨rfl, ?_⟩)
      · rw [strs_len hpv]; simp; (first | with_reducible assumption | exact Nat.le_of_ble_eq_true rfl | exact Nat.add_le_add_left (Nat.le_of_ble_eq_true rfl) _ | exact Nat.le_trans (by assumption) (Nat.le_of_ble_eq_true rfl) | exact Nat.lt_of_le_of_lt (by assumption) (Nat.le_of_ble_eq_true rfl) | exact Nat.le_trans (Nat.le_of_eq (by assumption)) (Nat.le_trans (by assumption) (Nat.le_of_ble_eq_true rfl)) | lia | omega)
      refine wpAny_execs_nil (hQQ _ _ _ ?_ (W₉.perm (lexO_in ..).symm))
      rw [List.take_add_one, hy]
      exact strs_snoc hpv _ _
    · rintro B' vs' os' s' hB ⟨pv, wv, rfl, rfl, hpv, rfl⟩ W'
      rw [strs_len hcv, List.take_of_length_le (Nat.le_refl _)] at hpv
      clear W₅ W₆
      show wpAny _ _ _ _ _ _
      -- the deeds
      refine wpAny_execs_cons (ex_for ?_ ?_)
      · ((((with_reducible refine' ev_local (by assumption) ?rd4 ?_); (case rd4 => ((with_reducible (repeat first | exact Rd.head | apply Rd.tail | (apply Rd.of; assumption))))))))
        refine it_list W' (W'.ofB htl') fun it s₇ W₇ _ => ?_
        refine for_loopC (fun j B'' vs' os' => ∃ pv q dv, vs' = [some (.ref tl), some (.ref cl), some (.ref lx), wv, dv, none, none, none, none] ∧ os' = lexO sg d pb ys 1 t₂ u st pv [] ∧ StrsAre pv q ∧ B'' = B' ∧ (∀ y ∈ q, y.length = 2) ∧ q.length ≤ cds.length + j ∧
            runP (tds.drop j) q = runP tds cds)
          (Steps.list hA'.handled htl') (fun _ => rfl) W₇ ⟨pv, cds, none, rfl, rfl, hpv, rfl, hc2, by (first | with_reducible assumption | exact Nat.le_of_ble_eq_true rfl | exact Nat.add_le_add_left (Nat.le_of_ble_eq_true rfl) _ | exact Nat.le_trans (by assumption) (Nat.le_of_ble_eq_true rfl) | exact Nat.lt_of_le_of_lt (by assumption) (Nat.le_of_ble_eq_true rfl) | exact Nat.le_trans (Nat.le_of_eq (by assumption)) (Nat.le_trans (by assumption) (Nat.le_of_ble_eq_true rfl)) | lia | omega), rfl⟩ ?_ ?_
        · intro j QQ v B'' vs' os' s' hQQ _ hret hj hv hB' hφ W₈
          obtain ⟨pv, q, dv, rfl, rfl, hpv, rfl, hq2, hql, hrun⟩ := hφ
          replace hQQ := fun pv' q dv s3 g1 g2 g3 g4 W => (hQQ B'' [some (.ref tl), some (.ref cl), some (.ref lx), wv, dv, none, none, none, none] (lexO sg d pb ys 1 t₂ u st pv' []) s3 (.refl _) ⟨pv', q, dv, rfl, rfl, g1, rfl, g2, g3, g4⟩ W).1
          obtain ⟨y, ty, rfl, hy⟩ := strs_get htv hv
          have hym : y ∈ tds := List.mem_of_getElem? hy
          have hjl : j < tds.length := (List.getElem?_eq_some_iff.mp hy).1
          rw [drop_cons hy] at hrun
          refine wpAny_assign_Name (st_local W₈ (.tail (.tail (.tail (.tail .head)))) (fun s₉ W₉ => ?_))
          have W₁₀ := W₉.perm (lexO_in ..)
          clear W₇ W₈ W₉ W'
          ((with_reducible refine' ifs ?_))
          ((((with_reducible refine' test1 ?nm6 ?_); (case nm6 => rfl))))
          refine call_b W₁₀ (.tail (.tail (.tail (.tail (.tail (.tail (.tail (.tail .head)))))))) .len rfl ?_
          ((((with_reducible refine' args_c ?pa7 ?_); (case pa7 => rfl))))
          ((((with_reducible refine' ev_local (by assumption) ?rd8 ?_); (case rd8 => ((with_reducible (repeat first | exact Rd.head | apply Rd.tail | (apply Rd.of; assumption))))))))
          ((with_reducible refine' PyProof.Rows.args_nil ?_))
          refine PyProof.Rows.len_str ?_ ?_
          · rcases h23 y hym with h | h <;> (first | with_reducible assumption | exact Nat.le_of_ble_eq_true rfl | exact Nat.add_le_add_left (Nat.le_of_ble_eq_true rfl) _ | exact Nat.le_trans (by assumption) (Nat.le_of_ble_eq_true rfl) | exact Nat.lt_of_le_of_lt (by assumption) (Nat.le_of_ble_eq_true rfl) | exact Nat.le_trans (Nat.le_of_eq (by assumption)) (Nat.le_trans (by assumption) (Nat.le_of_ble_eq_true rfl)) | lia | omega)
          have Wt := W₁₀.toks (s₉.toks + 1 + 1)
          ((((with_reducible refine' c_int (by assumption) ?_); intro _ _ _)))
          ((with_reducible refine' w_eq ?_))
          ((with_reducible refine' tr_bool ?_))
          rename Wd _ _ _ _ _ _ _ _ _ => W₁₁
          by_cases h2 : y.length = 2
          · have h2' : ((y.length : Int) == 2) = true := by rw [beq_iff_eq]; (first | with_reducible assumption | exact Nat.le_of_ble_eq_true rfl | exact Nat.add_le_add_left (Nat.le_of_ble_eq_true rfl) _ | exact Nat.le_trans (by assumption) (Nat.le_of_ble_eq_true rfl) | exact Nat.lt_of_le_of_lt (by assumption) (Nat.le_of_ble_eq_true rfl) | exact Nat.le_trans (Nat.le_of_eq (by assumption)) (Nat.le_trans (by assumption) (Nat.le_of_ble_eq_true rfl)) | lia | omega)
            rw [if_pos h2']
            rw [runP_put h2] at hrun
            ((((with_reducible refine' exprs (by assumption) ?nc13 ?_); (case nc13 => rfl))))
            refine w_push (k := k + 9) W₁₁ R (.tail (.tail .head)) rfl (.tail (.tail (.tail (.tail .head)))) ?_ hA' (fun s₁₂ W₁₂ => ⟨rfl, ?_⟩)
            · rw [strs_len hpv]; (first | with_reducible assumption | exact Nat.le_of_ble_eq_true rfl | exact Nat.add_le_add_left (Nat.le_of_ble_eq_true rfl) _ | exact Nat.le_trans (by assumption) (Nat.le_of_ble_eq_true rfl) | exact Nat.lt_of_le_of_lt (by assumption) (Nat.le_of_ble_eq_true rfl) | exact Nat.le_trans (Nat.le_of_eq (by assumption)) (Nat.le_trans (by assumption) (Nat.le_of_ble_eq_true rfl)) | lia | omega)
            refine wpAny_execs_nil ?_
            show wpAny _ _ _ _ _ _
            refine wpAny_execs_nil (hQQ _ (q ++ [y]) _ _ (strs_snoc hpv _ _) ?_ ?_ hrun (W₁₂.perm (lexO_in ..).symm))
            · intro z hz
              rcases List.mem_append.mp hz with hz | hz
              · exact hq2 z hz
              · simp at hz; rw [hz]; exact h2
            · rw [List.length_append]; show q.length + 1 ≤ _; (first | with_reducible assumption | exact Nat.le_of_ble_eq_true rfl | exact Nat.add_le_add_left (Nat.le_of_ble_eq_true rfl) _ | exact Nat.le_trans (by assumption) (Nat.le_of_ble_eq_true rfl) | exact Nat.lt_of_le_of_lt (by assumption) (Nat.le_of_ble_eq_true rfl) | exact Nat.le_trans (Nat.le_of_eq (by assumption)) (Nat.le_trans (by assumption) (Nat.le_of_ble_eq_true rfl)) | lia | omega)
          · have h2' : ¬ ((y.length : Int) == 2) = true := by rw [beq_iff_eq]; (first | with_reducible assumption | exact Nat.le_of_ble_eq_true rfl | exact Nat.add_le_add_left (Nat.le_of_ble_eq_true rfl) _ | exact Nat.le_trans (by assumption) (Nat.le_of_ble_eq_true rfl) | exact Nat.lt_of_le_of_lt (by assumption) (Nat.le_of_ble_eq_true rfl) | exact Nat.le_trans (Nat.le_of_eq (by assumption)) (Nat.le_trans (by assumption) (Nat.le_of_ble_eq_true rfl)) | lia | omega)
            have h3 : y.length = 3 := (h23 y hym).resolve_left h2
            rw [if_neg h2']
            ((with_reducible refine' ifs ?_))
            ((((with_reducible refine' test1 ?nm15 ?_); (case nm15 => rfl))))
            ((with_reducible refine' wpAny_BinOp ?_))
            cases q with
            | nil =>
              rw [runP_nil h2] at hrun
              rw [strs_nil hpv] at W₁₁
              refine w_tok (k := k) (cs := [126]) W₁₁ R (.tail (.tail .head)) rfl hys' (by decide) (by decide) hA' ?_
              intro t₃ t₄ s₁₂ us' W₁₂ hus'
              ((((with_reducible refine' c_str (by assumption) ?_); intro _ _ _)))
              have e1 : txt (getTok [126]).1 = Str.ofString "~" := by decide
              rw [e1]
              refine w_addS (by assumption) (by decide) ?_
              intro t₆ s₁₄ W₁₄
              ((((with_reducible refine' ev_local (by assumption) ?rd18 ?_); (case rd18 => ((with_reducible (repeat first | exact Rd.head | apply Rd.tail | (apply Rd.of; assumption))))))))
              ((with_reducible refine' o_neS ?_))
              ((with_reducible refine' tr_bool ?_))
              have hne : (Str.ofString "~" ++ Str.ofString "-" != y) = true := by
                show (!(_ == _)) = true
                rw [Bool.not_eq_true', beq_eq_false_iff_ne]
                intro e
                rw [← e, Str.length_append, tilde_len, dash_len] at h3
                (first | with_reducible assumption | exact Nat.le_of_ble_eq_true rfl | exact Nat.add_le_add_left (Nat.le_of_ble_eq_true rfl) _ | exact Nat.le_trans (by assumption) (Nat.le_of_ble_eq_true rfl) | exact Nat.lt_of_le_of_lt (by assumption) (Nat.le_of_ble_eq_true rfl) | exact Nat.le_trans (Nat.le_of_eq (by assumption)) (Nat.le_trans (by assumption) (Nat.le_of_ble_eq_true rfl)) | lia | omega)
              rw [if_pos hne]
              ((with_reducible refine' rets ?_))
              ((with_reducible refine' c_none ?_))
              exact hret _ _ (hQ .none _ W₁₄.done (.inl ⟨hrun.symm, rfl⟩))
            | cons z q =>
              rw [runP_take h2] at hrun
              obtain ⟨tz, pv', rfl, hpv'⟩ := strs_head hpv
              refine w_pop (k := k + 9) W₁₁ R (.tail (.tail .head)) rfl ?_ hA' (fun s₁₂ W₁₂ => ?_)
              · rw [strs_len hpv']; simp at hql; (first | with_reducible assumption | exact Nat.le_of_ble_eq_true rfl | exact Nat.add_le_add_left (Nat.le_of_ble_eq_true rfl) _ | exact Nat.le_trans (by assumption) (Nat.le_of_ble_eq_true rfl) | exact Nat.lt_of_le_of_lt (by assumption) (Nat.le_of_ble_eq_true rfl) | exact Nat.le_trans (Nat.le_of_eq (by assumption)) (Nat.le_trans (by assumption) (Nat.le_of_ble_eq_true rfl)) | lia | omega)
              ((((with_reducible refine' c_str (by assumption) ?_); intro _ _ _)))
              refine w_addS (by assumption) ?_ ?_
              · rw [hq2 z (.head _), dash_len, sizeLine_eq]; decide
              intro t₆ s₁₄ W₁₄
              ((((with_reducible refine' ev_local (by assumption) ?rd24 ?_); (case rd24 => ((with_reducible (repeat first | exact Rd.head | apply Rd.tail | (apply Rd.of; assumption))))))))
              ((with_reducible refine' o_neS ?_))
              ((with_reducible refine' tr_bool ?_))
              by_cases hz : z ++ Str.ofString "-" = y
              · rw [if_neg (by rw [hz]; simp)]
                simp only [hz, if_true] at hrun
                refine wpAny_execs_nil ?_
                show wpAny _ _ _ _ _ _
                refine wpAny_execs_nil ?_
                show wpAny _ _ _ _ _ _
                refine wpAny_execs_nil (hQQ _ q _ _ hpv' (fun y hy => hq2 y (.tail _ hy)) (by simp at hql; (first | with_reducible assumption | exact Nat.le_of_ble_eq_true rfl | exact Nat.add_le_add_left (Nat.le_of_ble_eq_true rfl) _ | exact Nat.le_trans (by assumption) (Nat.le_of_ble_eq_true rfl) | exact Nat.lt_of_le_of_lt (by assumption) (Nat.le_of_ble_eq_true rfl) | exact Nat.le_trans (Nat.le_of_eq (by assumption)) (Nat.le_trans (by assumption) (Nat.le_of_ble_eq_true rfl)) | lia | omega)) hrun (W₁₄.perm (lexO_in ..).symm))
              · rw [if_pos (by simpa using hz)]
                simp only [hz, if_false] at hrun
                ((with_reducible refine' rets ?_))
                ((with_reducible refine' c_none ?_))
                exact hret _ _ (hQ .none _ W₁₄.done (.inl ⟨hrun.symm, rfl⟩))
        · rintro B'' vs' os' s' hB' ⟨pv, q, dv, rfl, rfl, hpv, rfl, hq2, hql, hrun⟩ W₈
          rw [strs_len htv, List.drop_of_length_le (Nat.le_refl _)] at hrun
          have hrun : runP tds cds = some q := hrun.symm
          rw [strs_len htv] at hql
          clear W₇ W'
          show wpAny _ _ _ _ _ _
          refine asgs ?_ ?_
          · rfl
          ((with_reducible refine' PyProof.Rows.List_ ?_))
          ((((with_reducible refine' args_c ?pa30 ?_); (case pa30 => rfl))))
          have qne : ∀ z ∈ q, z ≠ Str.ofString "~" := fun z hz e => by
            have := hq2 z hz
            rw [e, tilde_len] at this
            (first | with_reducible assumption | exact Nat.le_of_ble_eq_true rfl | exact Nat.add_le_add_left (Nat.le_of_ble_eq_true rfl) _ | exact Nat.le_trans (by assumption) (Nat.le_of_ble_eq_true rfl) | exact Nat.lt_of_le_of_lt (by assumption) (Nat.le_of_ble_eq_true rfl) | exact Nat.le_trans (Nat.le_of_eq (by assumption)) (Nat.le_trans (by assumption) (Nat.le_of_ble_eq_true rfl)) | lia | omega)
          refine wpAny_mono (Q := fun v s' => ∃ last tz us n t₂ ps q', v = .str last tz ∧ ((q = last :: q' ∧ StrsAre ps q' ∧ StrsAre us ([126].map one)) ∨ (q = [] ∧ last = Str.ofString "~")) ∧
              Wd P s s.heap.get? env rns B'' s' [some (.ref tl), some (.ref cl), some (.ref lx), wv, dv, none, none, none, none] (lexO sg d pb us n t₂ u st ps [])) (w_next (k := k) (q := q) W₈ R (.tail (.tail .head)) rfl hys' hpv (by (first | with_reducible assumption | exact Nat.le_of_ble_eq_true rfl | exact Nat.add_le_add_left (Nat.le_of_ble_eq_true rfl) _ | exact Nat.le_trans (by assumption) (Nat.le_of_ble_eq_true rfl) | exact Nat.lt_of_le_of_lt (by assumption) (Nat.le_of_ble_eq_true rfl) | exact Nat.le_trans (Nat.le_of_eq (by assumption)) (Nat.le_trans (by assumption) (Nat.le_of_ble_eq_true rfl)) | lia | omega)) hA' ?_ ?_) ?_ (fun _ _ x => x)
          · intro e t₁ s' us' n' t' W
            exact ⟨_, _, us', n', t', [], [], rfl, .inr ⟨e, rfl⟩, W⟩
          · intro z q' t₁ ps' e hps' s' W
            exact ⟨z, t₁, ys, _, _, ps', q', rfl, .inl ⟨e, hps', hys'⟩, W⟩
          rintro v s₁₀ ⟨last, tz, us, n, t₂, ps, q', rfl, hst, W₁₀⟩
          clear W₈
          ((with_reducible refine' PyProof.Rows.args_nil ?_))
          ((((with_reducible refine' new_list (by assumption) ?sz32 ?_); (case sz32 => exact Nat.le_of_ble_eq_true rfl); intro _ _ _)))
          rename_i D s₁₁ W₁₁
          clear W₁₀
          ((((with_reducible refine' st_local (by assumption) ?wr33 ?_); (case wr33 => ((with_reducible (repeat first | exact Wr.head | apply Wr.tail | (apply Wr.of; assumption))))); intro _ _)))
          rename_i s₁₂ W₁₂
          clear W₁₁
          refine wpAny_execs_cons (ex_whileC (fun m s' => ∃ wl dn last tz us n t₂ ps q', StrsAre wl dn ∧ ((q = dn ++ last :: q' ∧ StrsAre ps q' ∧ StrsAre us ([126].map one) ∧ m = q'.length + 1) ∨ (q = dn ∧ last = Str.ofString "~" ∧ m = 0)) ∧
              Wd P s s.heap.get? env rns B'' s' [some (.ref tl), some (.ref cl), some (.ref lx), wv, dv, some (.ref D), none, none, none] (lexO sg d pb us n t₂ u st ps [(D, .list (wl ++ [.str last tz]))])) ?_ q.length ?_)
          · intro m QQ s' hQQ _ _ hI
            obtain ⟨wl, dn, last, tz, us, n, t₂, ps, q', hwl, hst, W⟩ := hI
            replace hQQ := fun m' wl dn last tz us n t₂ ps q' s3 hm a b W => (hQQ m' s3 hm ⟨wl, dn, last, tz, us, n, t₂, ps, q', a, b, W⟩).1
            have hwn : wl.length ≤ 3000 := by
              rw [strs_len hwl]
              rcases hst with ⟨e, _⟩ | ⟨e, _⟩
              · have := congrArg List.length e; simp at this; (first | with_reducible assumption | exact Nat.le_of_ble_eq_true rfl | exact Nat.add_le_add_left (Nat.le_of_ble_eq_true rfl) _ | exact Nat.le_trans (by assumption) (Nat.le_of_ble_eq_true rfl) | exact Nat.lt_of_le_of_lt (by assumption) (Nat.le_of_ble_eq_true rfl) | exact Nat.le_trans (Nat.le_of_eq (by assumption)) (Nat.le_trans (by assumption) (Nat.le_of_ble_eq_true rfl)) | lia | omega)
              · rw [← e]; (first | with_reducible assumption | exact Nat.le_of_ble_eq_true rfl | exact Nat.add_le_add_left (Nat.le_of_ble_eq_true rfl) _ | exact Nat.le_trans (by assumption) (Nat.le_of_ble_eq_true rfl) | exact Nat.lt_of_le_of_lt (by assumption) (Nat.le_of_ble_eq_true rfl) | exact Nat.le_trans (Nat.le_of_eq (by assumption)) (Nat.le_trans (by assumption) (Nat.le_of_ble_eq_true rfl)) | lia | omega)
            ((((with_reducible refine' test1 ?nm34 ?_); (case nm34 => rfl))))
            ((with_reducible refine' Subscript_ ?_))
            ((((with_reducible refine' ev_local (by assumption) ?rd36 ?_); (case rd36 => ((with_reducible (repeat first | exact Rd.head | apply Rd.tail | (apply Rd.of; assumption))))))))
            refine wpAny_UnaryOp ?_
            ((((with_reducible refine' c_int (by assumption) ?_); intro _ _ _)))
            rename Wd _ _ _ _ _ _ _ _ _ => Wa
            refine w_neg Wa ?_
            intro t₅ s₁₃ W₁₃
            refine sub_last (x := .str last tz) rfl (W₁₃.at (mem_t (mem_t (mem_t mem_h)))) (by (first | with_reducible assumption | exact Nat.le_of_ble_eq_true rfl | exact Nat.add_le_add_left (Nat.le_of_ble_eq_true rfl) _ | exact Nat.le_trans (by assumption) (Nat.le_of_ble_eq_true rfl) | exact Nat.lt_of_le_of_lt (by assumption) (Nat.le_of_ble_eq_true rfl) | exact Nat.le_trans (Nat.le_of_eq (by assumption)) (Nat.le_trans (by assumption) (Nat.le_of_ble_eq_true rfl)) | lia | omega)) ?_
            ((((with_reducible refine' c_str (by assumption) ?_); intro _ _ _)))
            rename Wd _ _ _ _ _ _ _ _ _ => W₁₄
            clear W Wa W₁₃
            ((with_reducible refine' o_neS ?_))
            ((with_reducible refine' tr_bool ?_))
            rcases hst with ⟨e, hps, hus, hm⟩ | ⟨e, hl, hm⟩
            · have hne : (last != Str.ofString "~") = true := by
                have := qne last (by rw [e]; simp)
                simpa using this
              rw [if_pos hne]
              ((((with_reducible refine' exprs (by assumption) ?nc41 ?_); (case nc41 => rfl))))
              ((((with_reducible refine' call_meth ?sd42 ?_); (case sd42 => rfl))))
              ((((with_reducible refine' ev_local (by assumption) ?rd43 ?_); (case rd43 => ((with_reducible (repeat first | exact Rd.head | apply Rd.tail | (apply Rd.of; assumption))))))))
              with_reducible refine' gm_append (W₁₄.at (mem_t (mem_t (mem_t mem_h)))) ?_
              ((((with_reducible refine' with_builtin ?sd44 ?_); (case sd44 => rfl))))
              ((((with_reducible refine' args_c ?pa45 ?_); (case pa45 => rfl))))
              refine w_next (k := k) (q := q') W₁₄ R (.tail (.tail .head)) rfl hus hps ?_ hA' ?_ ?_
              · have := congrArg List.length e; simp at this; (first | with_reducible assumption | exact Nat.le_of_ble_eq_true rfl | exact Nat.add_le_add_left (Nat.le_of_ble_eq_true rfl) _ | exact Nat.le_trans (by assumption) (Nat.le_of_ble_eq_true rfl) | exact Nat.lt_of_le_of_lt (by assumption) (Nat.le_of_ble_eq_true rfl) | exact Nat.le_trans (Nat.le_of_eq (by assumption)) (Nat.le_trans (by assumption) (Nat.le_of_ble_eq_true rfl)) | lia | omega)
              · intro e' t₁ s' us' n' t' W
                ((with_reducible refine' PyProof.Rows.args_nil ?_))
                show wpAny _ _ (call (.builtin "list.append") [.ref D, _]) _ _ _
                with_reducible refine' l_append W (.tail (.tail (.tail .head))) ?_ ?_
                · rw [sizeLine_eq]; simp; (first | with_reducible assumption | exact Nat.le_of_ble_eq_true rfl | exact Nat.add_le_add_left (Nat.le_of_ble_eq_true rfl) _ | exact Nat.le_trans (by assumption) (Nat.le_of_ble_eq_true rfl) | exact Nat.lt_of_le_of_lt (by assumption) (Nat.le_of_ble_eq_true rfl) | exact Nat.le_trans (Nat.le_of_eq (by assumption)) (Nat.le_trans (by assumption) (Nat.le_of_ble_eq_true rfl)) | lia | omega)
                intro s₁₅ W₁₅
                refine ⟨rfl, wpAny_execs_nil (hQQ 0 (wl ++ [.str last tz]) (dn ++ [last]) _ t₁ us' n' t' [] [] _ (by (first | with_reducible assumption | exact Nat.le_of_ble_eq_true rfl | exact Nat.add_le_add_left (Nat.le_of_ble_eq_true rfl) _ | exact Nat.le_trans (by assumption) (Nat.le_of_ble_eq_true rfl) | exact Nat.lt_of_le_of_lt (by assumption) (Nat.le_of_ble_eq_true rfl) | exact Nat.le_trans (Nat.le_of_eq (by assumption)) (Nat.le_trans (by assumption) (Nat.le_of_ble_eq_true rfl)) | lia | omega)) (strs_snoc hwl _ _) (.inr ⟨by rw [e, e'], rfl, rfl⟩) W₁₅)⟩
              · intro z q'' t₁ ps' e' hps' s' W
                ((with_reducible refine' PyProof.Rows.args_nil ?_))
                show wpAny _ _ (call (.builtin "list.append") [.ref D, _]) _ _ _
                with_reducible refine' l_append W (.tail (.tail (.tail .head))) ?_ ?_
                · rw [sizeLine_eq]; simp; (first | with_reducible assumption | exact Nat.le_of_ble_eq_true rfl | exact Nat.add_le_add_left (Nat.le_of_ble_eq_true rfl) _ | exact Nat.le_trans (by assumption) (Nat.le_of_ble_eq_true rfl) | exact Nat.lt_of_le_of_lt (by assumption) (Nat.le_of_ble_eq_true rfl) | exact Nat.le_trans (Nat.le_of_eq (by assumption)) (Nat.le_trans (by assumption) (Nat.le_of_ble_eq_true rfl)) | lia | omega)
                intro s₁₅ W₁₅
                refine ⟨rfl, wpAny_execs_nil (hQQ (q''.length + 1) (wl ++ [.str last tz]) (dn ++ [last]) z t₁ us _ _ ps' q'' _ (by rw [hm, e']; simp) (strs_snoc hwl _ _) (.inl ⟨by rw [e, e']; simp, hps', hus, rfl⟩) W₁₅)⟩
            · subst hl
              rw [if_neg (by simp)]
              show wpAny _ _ _ _ _ _
              ((with_reducible refine' rets ?_))
              ((with_reducible refine' Subscript_ ?_))
              ((((with_reducible refine' ev_local (by assumption) ?rd50 ?_); (case rd50 => ((with_reducible (repeat first | exact Rd.head | apply Rd.tail | (apply Rd.of; assumption))))))))
              refine wpAny_Slice (evalPart_none_step (evalPart_some_step ?_))
              refine wpAny_UnaryOp ?_
              ((((with_reducible refine' c_int (by assumption) ?_); intro _ _ _)))
              rename Wd _ _ _ _ _ _ _ _ _ => Wa
              refine w_neg Wa ?_
              intro t₅ s₁₅ W₁₅
              refine evalPart_none_step ?_
              refine w_slice (lo := none) (hi := some (-1)) W₁₅ rfl (W₁₅.at (mem_t (mem_t (mem_t mem_h)))) .none (.int _ _) ?_ ?_
              · simp; (first | with_reducible assumption | exact Nat.le_of_ble_eq_true rfl | exact Nat.add_le_add_left (Nat.le_of_ble_eq_true rfl) _ | exact Nat.le_trans (by assumption) (Nat.le_of_ble_eq_true rfl) | exact Nat.lt_of_le_of_lt (by assumption) (Nat.le_of_ble_eq_true rfl) | exact Nat.le_trans (Nat.le_of_eq (by assumption)) (Nat.le_trans (by assumption) (Nat.le_of_ble_eq_true rfl)) | lia | omega)
              intro D' s₁₆ W₁₆
              have e2 : (slicePick (wl ++ [Value.str (Str.ofString "~") tz]).toArray none (some (-1)) none).toList = wl := by
                have := slicePick_butLast (wl ++ [Value.str (Str.ofString "~") tz]).toArray 1 (Nat.le_refl _)
                rw [show (-((1 : Nat) : Int)) = -1 from rfl] at this
                rw [this]
                simp
              rw [e2] at W₁₆
              refine hQ (.ref D') _ W₁₆.done (.inr ⟨q, D', wl, hrun, rfl, (W₁₆.own mem_h).1, e ▸ hwl, W₁₆.at mem_h⟩)
          · refine ⟨[], [], last, tz, us, n, t₂, ps, q', .nil, ?_, W₁₂.perm (lexO_in ..)⟩
            rcases hst with ⟨e, a, b⟩ | ⟨e, a⟩
            · exact .inl ⟨e, a, b, by rw [e]; simp⟩
            · exact .inr ⟨e, a, by rw [e]; rfl⟩
      · intro _; rfl
  · intro _; rfl
end
-- Zp
section
open PySem PySem.W PyProof.Rows PyProof.V PySem.SeqAt
/-! ### zip of two lists -/
noncomputable abbrev zipX (z TI TO i1 i2 l1 l2 : Addr) (f0 a b : Value) (k : Nat) : List (Addr × AO) :=
  [(z, .obj { cls := .type "zip", dict := none, data := .fields #[f0, .bool false, .bool false, .ref TI, .ref TO], slots := #[] }), (TI, .obj { cls := .type "tuple", data := .seq #[.ref i1, .ref i2] }),
   (TO, .obj { cls := .type "tuple", data := .seq #[a, b] }), (i1, .liter l1 k), (i2, .liter l2 k)]
section
variable {prog : Program} {w : World} {A : Around} {E : Value → Shared → Prop} {P : Params} {s₀ s : Shared} {B₀ : G} {env : Env} {ns : List (Str × NameKind)} {B : G} {vs : List (Option Value)} {os : List (Addr × AO)} {Q : Value → Shared → Prop}
  {z TI TO i1 i2 l1 l2 : Addr} {f0 a b : Value} {k : Nat} {xs ys : List Value}

theorem Wd.adds (W : Wd P s₀ B₀ env ns B s vs os) {s' : Shared} (kk : Keeps s s') {Y : List (Addr × AO)} (hYn : (Y.map Prod.fst).Nodup) (hYf : ∀ p ∈ Y, s.heap.get? p.1 = none) (hY : ∀ p ∈ Y, p.2.Is s'.heap.get? p.1) :
    Wd P s₀ B₀ env ns B s' vs (Y ++ os) := by
  have W' := W.keeps kk
  have hYf' : ∀ a ∈ Y.map Prod.fst, s.heap.get? a = none := fun a ha => by obtain ⟨p, hp, rfl⟩ := List.mem_map.mp ha; exact hYf p hp
  refine { W' with objs := fun p hp => ?_, apart := ?_, fresh := fun a ha => ?_ }
  · rcases List.mem_append.mp hp with hp | hp
    · exact hY p hp
    · exact W'.objs p hp
  · rw [List.map_append]
    refine (List.perm_middle (a := env.locals) (l₁ := Y.map Prod.fst) (l₂ := os.map Prod.fst)).nodup_iff.mp ?_
    refine List.nodup_append.mpr ⟨hYn, W'.apart, fun a ha b hb e => ?_⟩
    subst e
    obtain ⟨o, ho⟩ := W.stands hb
    rw [hYf' a ha] at ho; cases ho
  · rw [List.map_append] at ha
    have : a ∈ Y.map Prod.fst ∨ a ∈ env.locals :: os.map Prod.fst := by
      rcases List.mem_cons.mp ha with e | ha
      · exact .inr (e ▸ List.mem_cons_self)
      · rcases List.mem_append.mp ha with ha | ha
        · exact .inl ha
        · exact .inr (List.mem_cons_of_mem _ ha)
    rcases this with h | h
    · cases e : B a with
      | none => rfl
      | some o => have := W.keep _ _ e; rw [hYf' a h] at this; cases this
    · exact W.fresh a h
theorem Wd.loseX {X : List (Addr × AO)} (W : Wd P s₀ B₀ env ns B s vs (X ++ os)) {s' : Shared} (c : Chg (X.map Prod.fst) s s') : Wd P s₀ B₀ env ns B s' vs os := by
  have hL : env.locals ∉ X.map Prod.fst := fun h => (List.nodup_cons.mp W.apart).1 (by rw [List.map_append]; exact List.mem_append_left _ h)
  have W0 := W.drop (os' := os) (List.sublist_append_right _ _)
  refine { W0 with
    gens := c.gens.trans W.gens, drawn := c.drawn.trans W.drawn, osys := c.osys.trans W.osys
    keep := (W.hidden (X := X.map Prod.fst) (fun a ha => by rw [List.map_append]; exact List.mem_append_left _ ha)).trans c.sub
    loc := ?_
    objs := fun p hp => ?_ }
  · obtain ⟨m, ⟨o, es, ep, e, r⟩, q⟩ := W.loc
    exact ⟨m, ⟨o, es, ep, c.sub _ _ (by unfold hide; rw [if_neg hL]; exact e), r⟩, q⟩
  · have hne : p.1 ∉ X.map Prod.fst := fun h => by
      have := (List.nodup_cons.mp W.apart).2
      rw [List.map_append, List.nodup_append] at this
      exact this.2.2 _ h _ (List.mem_map.mpr ⟨_, hp, rfl⟩) rfl
    exact (W.objs p (List.mem_append_right _ hp)).at fun o e => c.sub _ _ (by unfold hide; rw [if_neg hne]; exact e)

theorem z_apart (W : Wd P s₀ B₀ env ns B s vs (zipX z TI TO i1 i2 l1 l2 f0 a b k ++ os)) (h1 : (AO.list xs).Is B l1) (h2 : (AO.list ys).Is B l2) : ZipApart z TI TO i1 i2 l1 l2 := by
  have nd := (List.nodup_cons.mp W.apart).2
  rw [List.map_append, List.nodup_append] at nd
  have nd := nd.1
  simp only [List.map_cons, List.map_nil, List.nodup_cons, List.mem_cons, List.not_mem_nil, or_false, not_or] at nd
  obtain ⟨⟨a1, a2, a3, a4⟩, ⟨b1, b2, b3⟩, ⟨c1, c2⟩, d1, _⟩ := nd
  obtain ⟨o1, e1⟩ := h1.some
  obtain ⟨o2, e2⟩ := h2.some
  have ne : ∀ {x : Addr} {ao : AO} {l : Addr} {o : Obj}, (x, ao) ∈ zipX z TI TO i1 i2 l1 l2 f0 a b k ++ os → B l = some o → l ≠ x := fun hm he => W.os_ne hm he
  have m1 : (z, _) ∈ zipX z TI TO i1 i2 l1 l2 f0 a b k ++ os := mem_h
  have m3 : (TO, _) ∈ zipX z TI TO i1 i2 l1 l2 f0 a b k ++ os := mem_t (mem_t mem_h)
  have m4 : (i1, _) ∈ zipX z TI TO i1 i2 l1 l2 f0 a b k ++ os := mem_t (mem_t (mem_t mem_h))
  have m5 : (i2, _) ∈ zipX z TI TO i1 i2 l1 l2 f0 a b k ++ os := mem_t (mem_t (mem_t (mem_t mem_h)))
  exact ⟨fun e => a1 e.symm, fun e => a2 e.symm, fun e => a3 e.symm, fun e => a4 e.symm, b1, b2, b3, c1, c2, d1, ne m1 e1, ne m3 e1, ne m4 e1, ne m5 e1, ne m1 e2, ne m3 e2, ne m4 e2, ne m5 e2⟩

theorem z_call (W : Wd P s₀ B₀ env ns B s vs os) (h1 : (AO.list xs).Is s.heap.get? l1) (h2 : (AO.list ys).Is s.heap.get? l2)
    (h : ∀ z TI TO i1 i2 s', Wd P s₀ B₀ env ns B s' vs (zipX z TI TO i1 i2 l1 l2 .none .none .none 0 ++ os) → Q (.ref z) s') : wpAny (model prog w) A (call (.type "zip") [.ref l1, .ref l2]) Q E s := by
  refine call_zip_2 h1.isL h2.isL fun h' hz hTI hTO hi1 hi2 hsz hk => ?_
  have fresh : ∀ a, s.heap.objs.size ≤ a → s.heap.get? a = none := fun a ha => by
    cases e : s.heap.get? a with
    | none => rfl
    | some o => exact absurd (Heap.lt_size e) (Nat.not_lt.mpr ha)
  refine h (s.heap.objs.size + 4) (s.heap.objs.size + 2) (s.heap.objs.size + 3) s.heap.objs.size (s.heap.objs.size + 1) _ (W.adds (Y := zipX _ _ _ _ _ _ _ _ _ _ _) ⟨h', s.toks, rfl, hk⟩ ?_ ?_ ?_)
  · show ([s.heap.objs.size + 4, s.heap.objs.size + 2, s.heap.objs.size + 3, s.heap.objs.size, s.heap.objs.size + 1] : List Nat).Nodup
    simp only [List.nodup_cons, List.mem_cons, List.not_mem_nil, or_false, not_or, List.nodup_nil, not_false_eq_true, and_true]
    (first | with_reducible assumption | exact Nat.le_of_ble_eq_true rfl | exact Nat.add_le_add_left (Nat.le_of_ble_eq_true rfl) _ | exact Nat.le_trans (by assumption) (Nat.le_of_ble_eq_true rfl) | exact Nat.lt_of_le_of_lt (by assumption) (Nat.le_of_ble_eq_true rfl) | exact Nat.le_trans (Nat.le_of_eq (by assumption)) (Nat.le_trans (by assumption) (Nat.le_of_ble_eq_true rfl)) | lia | omega)
  · intro p hp
    simp only [List.mem_cons, List.not_mem_nil, or_false] at hp
    rcases hp with rfl | rfl | rfl | rfl | rfl
    · exact fresh _ (Nat.le_add_right _ _)
    · exact fresh _ (Nat.le_add_right _ _)
    · exact fresh _ (Nat.le_add_right _ _)
    · exact fresh _ (Nat.le_refl _)
    · exact fresh _ (Nat.le_add_right _ _)
  · intro p hp
    simp only [List.mem_cons, List.not_mem_nil, or_false] at hp
    rcases hp with rfl | rfl | rfl | rfl | rfl
    · exact hz
    · exact hTI
    · exact hTO
    · exact hi1
    · exact hi2

theorem z_chg {s' : Shared} (hk : ∀ c o, c ≠ z → c ≠ TO → c ≠ i1 → c ≠ i2 → s.heap.get? c = some o → s'.heap.get? c = some o) (e : s' = { s with heap := s'.heap }) : Chg ((zipX z TI TO i1 i2 l1 l2 f0 a b k).map Prod.fst) s s' := by
  refine ⟨fun c o ho => ?_, ?_, ?_, ?_⟩
  · unfold hide at ho
    split at ho
    · cases ho
    · rename_i hm
      simp only [List.map_cons, List.map_nil, List.mem_cons, List.not_mem_nil, or_false, not_or] at hm
      exact hk c o hm.1 hm.2.2.1 hm.2.2.2.1 hm.2.2.2.2 ho
  · rw [e]
  · rw [e]
  · rw [e]

theorem z_item {x y : Value} {Q : Option Value → Shared → Prop} (W : Wd P s₀ B₀ env ns B s vs (zipX z TI TO i1 i2 l1 l2 .none a b k ++ os)) (h1 : (AO.list xs).Is B l1) (h2 : (AO.list ys).Is B l2) (hx : xs[k]? = some x) (hy : ys[k]? = some y)
    (h : ∀ (T : Addr) s', Wd P s₀ B₀ env ns B s' vs (zipX z TI TO i1 i2 l1 l2 (rawInt T) x y (k + 1) ++ os) → IsPair s'.heap T x y → Q (some (.ref T)) s') : wpAny (model prog w) A (pyNext (.ref z)) Q E s := by
  have D := z_apart W h1 h2
  have m1 := W.at (a := z) mem_h
  have m2 := W.at (a := TI) (mem_t mem_h)
  have m3 := W.at (a := TO) (mem_t (mem_t mem_h))
  have m4 := W.at (a := i1) (mem_t (mem_t (mem_t mem_h)))
  have m5 := W.at (a := i2) (mem_t (mem_t (mem_t (mem_t mem_h))))
  refine wpAny_pyNext_zip_item D m1 m2 m3 m4 m5 (W.ofB h1).isL (W.ofB h2).isL (by simpa using hx) (by simpa using hy) fun h' a1 a2 a3 a4 a5 a6 hk => ?_
  refine h _ _ (Wd.chg (X' := zipX z TI TO i1 i2 l1 l2 (rawInt s.heap.objs.size) x y (k + 1)) W (z_chg hk rfl) rfl ?_) a5
  intro p hp
  simp only [List.mem_cons, List.not_mem_nil, or_false] at hp
  rcases hp with rfl | rfl | rfl | rfl | rfl
  · exact a1
  · exact hk _ _ D.TIz D.TITO D.TIi1 D.TIi2 m2
  · exact a2
  · exact a3
  · exact a4
theorem z_end {Q : Option Value → Shared → Prop} (hh : A.handled = none) (W : Wd P s₀ B₀ env ns B s vs (zipX z TI TO i1 i2 l1 l2 .none a b k ++ os)) (h1 : (AO.list xs).Is B l1) (h2 : (AO.list ys).Is B l2) (hx : xs[k]? = none)
    (h : ∀ s', Wd P s₀ B₀ env ns B s' vs os → Q none s') : wpAny (model prog w) A (pyNext (.ref z)) Q E s := by
  have D := z_apart W h1 h2
  refine wpAny_pyNext_zip_end hh D (W.at (a := z) mem_h) (W.at (a := TI) (mem_t mem_h)) (W.at (a := TO) (mem_t (mem_t mem_h))) (W.at (a := i1) (mem_t (mem_t (mem_t mem_h)))) (W.at (a := i2) (mem_t (mem_t (mem_t (mem_t mem_h))))) (W.ofB h1).isL (W.ofB h2).isL (.inl (by simpa using hx)) fun h' hk => ?_
  exact h _ (W.loseX (z_chg hk rfl))
theorem z_let {x y : Value} {T : Addr} {elts : List Expr} {x1} {pos : Pos} {Q : Unit → Shared → Prop} (W : Wd P s₀ B₀ env ns B s vs (zipX z TI TO i1 i2 l1 l2 (rawInt T) a b k ++ os)) (hT : IsPair s.heap T x y)
    (h : ∀ s', Wd P s₀ B₀ env ns B s' vs (zipX z TI TO i1 i2 l1 l2 .none a b k ++ os) → IsPair s'.heap T x y → Q () s') : wpAny (model prog w) A (letOwnedTupleGo (.Tuple elts x1 pos) (.ref z) (.ref T)) Q E s := by
  have m1 : IsZip s.heap z TI TO (rawInt T) := W.at (a := z) mem_h
  refine wpAny_letOwnedTupleGo_zip m1 fun h' hz' hs' => ?_
  have hne : T ≠ z := fun e => by
    have hT' : s.heap.get? T = _ := hT
    have m1' : s.heap.get? z = _ := m1
    rw [e, m1'] at hT'; injection hT' with hT'; injection hT' with hc; injection hc with hc; exact absurd hc (by decide)
  exact h _ (W.upd (t := s.toks) .head (show (AO.obj _).Is h'.get? z from hz') hs'.extBut) (hs'.extBut _ _ hne hT)
theorem z_assign {x y : Str} {px py tp : Pos} {kk : Nat} {u v : Value} {T : Addr} {Q : Unit → Shared → Prop} (hh : A.handled = none) (W : Wd P s₀ B₀ env ns B s vs os) (hT : IsPair s.heap T u v) {vs1 vs2 : List (Option Value)} (w1 : Wr ns vs x u vs1) (w2 : Wr ns vs1 y v vs2)
    (h : ∀ s', Wd P s₀ B₀ env ns B s' vs2 os → Q () s') : wpAny (model prog w) A (assign (.Tuple [.Name x px, .Name y py] kk tp) env (.ref T)) Q E s := by
  refine assign_Tuple_tuple (items := #[u, v]) hh ⟨_, hT, rfl, _, rfl⟩ rfl rfl (fun h' he => ?_)
  have K : Keeps s { s with heap := h' } := ⟨h', s.toks, rfl, fun b o e => he b o (Nat.ne_of_lt (Heap.lt_size e)) e⟩
  have W1 := W.keeps K
  show wpAny _ _ (do holding [v] (assign (.Name x px) env u); assignInOrder [assign (.Name y py) env] [v]) _ _ _
  refine wpAny_bind (wpAny_holding (wpAny_assign_Name (st_local W1 w1 fun s₂ W₂ => ?_)))
  show wpAny _ _ (do holding [] (assign (.Name y py) env v); assignInOrder [] []) _ _ _
  refine wpAny_bind (wpAny_holding (wpAny_assign_Name (st_local W₂ w2 fun s₃ W₃ => ?_)))
  exact wpAny_pure (h _ W₃)
end
end
-- Zq
section
open PySem PySem.W PyProof.Rows PyProof.V PySem.SeqAt
section
variable {prog : Program} {w : World} {A : Around} {E : Value → Shared → Prop} {P : Params} {s₀ s : Shared} {B₀ : G} {env : Env} {ns : List (Str × NameKind)} {B : G} {vs : List (Option Value)} {os : List (Addr × AO)}
  {z TI TO i1 i2 l1 l2 : Addr} {f0 a b : Value} {k : Nat} {xs ys : List Value}

theorem zip_loop {x y : Str} {px py tp : Pos} {kk : Nat} {body : List Stmt} {Q : Flow → Shared → Prop} (φ : Nat → G → List (Option Value) → List (Addr × AO) → Prop) (hh : A.handled = none)
    (W : Wd P s₀ B₀ env ns B s vs (zipX z TI TO i1 i2 l1 l2 .none a b 0 ++ os)) (h1 : (AO.list xs).Is B l1) (h2 : (AO.list ys).Is B l2) (hlen : xs.length = ys.length) (h0 : φ 0 B vs os)
    (hw : ∀ k B' vs' os' u v, φ k B' vs' os' → ∃ v1 v2, Wr ns vs' x u v1 ∧ Wr ns v1 y v v2)
    (turn : ∀ k u v B' vs' os' s' v1 v2 a b, xs[k]? = some u → ys[k]? = some v → Sub B B' → φ k B' vs' os' → Wr ns vs' x u v1 → Wr ns v1 y v v2 → Wd P s₀ B₀ env ns B' s' v2 (zipX z TI TO i1 i2 l1 l2 .none a b (k + 1) ++ os') →
      wpAny (model prog w) A (execs body env) (fun f s₃ => match f with
        | .next | .cont => ∃ B'' vs'' os'', Sub B B'' ∧ φ (k + 1) B'' vs'' os'' ∧ Wd P s₀ B₀ env ns B'' s₃ vs'' (zipX z TI TO i1 i2 l1 l2 .none a b (k + 1) ++ os'')
        | .brk => Q .next s₃
        | .ret v => Q (.ret v) s₃) (fun _ _ => False) s')
    (fin : ∀ B' vs' os' s', Sub B B' → φ xs.length B' vs' os' → Wd P s₀ B₀ env ns B' s' vs' os' → Q .next s') :
    wpAny (model prog w) A (runOwn (.forLoop (.Tuple [.Name x px, .Name y py] kk tp) (.ref z) body [] env) env) Q E s := by
  refine wpAny_runOwn (codeAny_forLoop_any (fun j s' => ∃ k B' vs' os' a b, k ≤ xs.length ∧ j = xs.length - k ∧ Sub B B' ∧ φ k B' vs' os' ∧ Wd P s₀ B₀ env ns B' s' vs' (zipX z TI TO i1 i2 l1 l2 .none a b k ++ os')) ?_ xs.length ⟨0, B, vs, os, a, b, Nat.zero_le _, rfl, .refl _, h0, W⟩)
  rintro j s' ⟨k, B', vs', os', a, b, hk, rfl, hB, hφ, W'⟩
  rcases Nat.lt_or_eq_of_le hk with hlt | rfl
  · have hx : xs[k]? = some xs[k] := List.getElem?_eq_getElem hlt
    have hy : ys[k]? = some (ys[k]'(hlen ▸ hlt)) := List.getElem?_eq_getElem _
    refine z_item W' (h1.mono hB) (h2.mono hB) hx hy fun T s₂ W₂ hT => ?_
    refine z_let W₂ hT fun s₃ W₃ hT₃ => ?_
    obtain ⟨v1, v2, w1, w2⟩ := hw k B' vs' os' xs[k] (ys[k]'(hlen ▸ hlt)) hφ
    refine z_assign hh W₃ hT₃ w1 w2 fun s₄ W₄ => ?_
    refine wpAny_mono (turn k _ _ B' vs' os' s₄ v1 v2 _ _ hx hy hB hφ w1 w2 W₄) (fun f s₃ h₃ => ?_) fun _ _ x => x.elim
    cases f with
    | next => obtain ⟨B'', vs'', os'', a, b, c⟩ := h₃; exact ⟨xs.length - (k + 1), by (first | with_reducible assumption | exact Nat.le_of_ble_eq_true rfl | exact Nat.add_le_add_left (Nat.le_of_ble_eq_true rfl) _ | exact Nat.le_trans (by assumption) (Nat.le_of_ble_eq_true rfl) | exact Nat.lt_of_le_of_lt (by assumption) (Nat.le_of_ble_eq_true rfl) | exact Nat.le_trans (Nat.le_of_eq (by assumption)) (Nat.le_trans (by assumption) (Nat.le_of_ble_eq_true rfl)) | lia | omega), k + 1, B'', vs'', os'', _, _, hlt, rfl, a, b, c⟩
    | cont => obtain ⟨B'', vs'', os'', a, b, c⟩ := h₃; exact ⟨xs.length - (k + 1), by (first | with_reducible assumption | exact Nat.le_of_ble_eq_true rfl | exact Nat.add_le_add_left (Nat.le_of_ble_eq_true rfl) _ | exact Nat.le_trans (by assumption) (Nat.le_of_ble_eq_true rfl) | exact Nat.lt_of_le_of_lt (by assumption) (Nat.le_of_ble_eq_true rfl) | exact Nat.le_trans (Nat.le_of_eq (by assumption)) (Nat.le_trans (by assumption) (Nat.le_of_ble_eq_true rfl)) | lia | omega), k + 1, B'', vs'', os'', _, _, hlt, rfl, a, b, c⟩
    | brk => exact h₃
    | ret v => exact h₃
  · refine z_end hh W' (h1.mono hB) (h2.mono hB) (List.getElem?_eq_none (Nat.le_refl _)) fun s₂ W₂ => ?_
    exact wpAny_execs_nil (fin B' vs' os' _ hB hφ W₂)

/-- «codeAny_compLoop_tests» for an iterator that hands out its own tuple -/
theorem compLoop_let {elt target iter : Expr} {ifs : List Expr} {scope : Scope} {pos : Pos} {it acc : Value} {R : Result → Shared → Prop} (I : Nat → Shared → Prop)
    (turn : ∀ n s, I n s → wpAny (model prog w) A (pyNext it) (fun r s₁ => match r with
      | none => R (.ok .next) s₁
      | some v => wpAny (model prog w) A (letOwnedTupleGo target it v) (fun _ s₁ => wpAny (model prog w) A (assign target env v) (fun _ s₂ =>
          wpAny (model prog w) A (testsOf ifs env) (fun ok s₃ =>
            if ok = true then wpAny (model prog w) A (eval elt env) (fun x s₄ =>
              wpAny (model prog w) A (call (.builtin "list.append") [acc, x]) (fun _ s₅ => ∃ m, m < n ∧ I m s₅) (fun _ _ => False) s₄) (fun _ _ => False) s₃
            else ∃ m, m < n ∧ I m s₃) (fun _ _ => False) s₂) (fun _ _ => False) s₁) (fun _ _ => False) s₁) (fun _ _ => False) s)
    (n : Nat) (h : I n s) :
    codeAny (model prog w) A (.compLoop (.ListComp elt [⟨target, iter, ifs, 0⟩] scope pos) 0 it acc env) R s := by
  refine codeAny_loop rfl I (fun n s hI => ?_) n h
  show wpAny _ A ((compTurn (.ListComp elt [⟨target, iter, ifs, 0⟩] scope pos) 0 it acc env).onRaise (fun x => do noteFrame x env; theTreesLotGoes x)) _ _ s
  refine wpAny_noted ?_
  rw [compTurn_list]
  refine wpAny_bind (wpAny_standAt (wpAny_bind (wpAny_mono (turn n s hI) (fun r s₁ h₁ => ?_) fun _ _ h' => h'.elim)))
  cases r with
  | none => exact wpAny_pure h₁
  | some v =>
    refine wpAny_bind (wpAny_mono h₁ (fun _ s₂ h₁ => ?_) fun _ _ h' => h'.elim)
    refine wpAny_bind (wpAny_mono h₁ (fun _ s₂ h₂ => wpAny_bind (wpAny_mono h₂ (fun ok s₃ h₃ => ?_) fun _ _ h' => h'.elim)) fun _ _ h' => h'.elim)
    cases ok with
    | false => exact wpAny_pure ⟨rfl, h₃⟩
    | true =>
      exact wpAny_bind (wpAny_bind (wpAny_mono h₃ (fun x s₄ h₄ => wpAny_bind (wpAny_mono h₄ (fun _ s₅ h₅ => wpAny_pure (wpAny_pure ⟨rfl, h₅⟩)) fun _ _ h' => h'.elim)) fun _ _ h' => h'.elim))

theorem compStart_zip {elt target iter ifs rest scope pos acc} {R : Result → Shared → Prop} (hz : IsZip s.heap z TI TO f0)
    (h0 : codeAny (model prog w) A (.compLoop (.ListComp elt (⟨target, iter, ifs, 0⟩ :: rest) scope pos) 0 (.ref z) acc env) R s) :
    codeAny (model prog w) A (.compStart (.ListComp elt (⟨target, iter, ifs, 0⟩ :: rest) scope pos) 0 (.ref z) acc env) R s :=
  codeAny_compStart_list h0 (wpAny_pyIter_zip hz h0)

theorem comp_zip {elt iter : Expr} {x y : Str} {px py tp : Pos} {kk : Nat} {ifs : List Expr} {scope : Scope} {cl : List (Str × Addr)} {pos : Pos} {cns : List (Str × NameKind)} {vsx : Value → Value → List (Option Value)} {sa s₁ : Shared}
    {R : Value → Addr → Result → Shared → Prop} (φ : Nat → G → List Value → Prop)
    (hA : A.handled = none) (W : Wd P s₀ B₀ env ns B sa vs os) (K : Keeps sa s₁) (hzn : ((zipX z TI TO i1 i2 l1 l2 .none .none .none 0).map Prod.fst).Nodup) (hzf : ∀ p ∈ zipX z TI TO i1 i2 l1 l2 .none .none .none 0, sa.heap.get? p.1 = none)
    (hz : ∀ p ∈ zipX z TI TO i1 i2 l1 l2 .none .none .none 0, p.2.Is s₁.heap.get? p.1) (h1 : (AO.list xs).Is sa.heap.get? l1) (h2 : (AO.list ys).Is sa.heap.get? l2) (hlen : xs.length = ys.length) (hsz : xs.length ≤ 100000)
    (hkind : scope.kind = .function) (hcell : ∀ y ∈ scope.names, y.2 ≠ .cell) (hcns : (relabel scope env).names = cns) (hnd : (cns.map Prod.fst).Nodup) (hdb : ∀ p ∈ cns, (p.1 == ("__debug__" : Str)) = false)
    (hw : ∀ u v, ∃ v1, Wr cns (cns.map fun _ => none) x u v1 ∧ Wr cns v1 y v (vsx u v)) (h0 : φ 0 sa.heap.get? [])
    (step : ∀ k u v cenv D B' s' zs a b, xs[k]? = some u → ys[k]? = some v → φ k B' zs → zs.length ≤ k → Sub sa.heap.get? B' → (∃ C, cenv = compEnvC scope cl C env) →
      Wd P sa sa.heap.get? cenv cns B' s' (vsx u v) ((D, .list zs) :: zipX z TI TO i1 i2 l1 l2 .none a b (k + 1)) →
      wpAny (model prog w) A (testsOf ifs cenv) (fun ok s'' =>
        (ok = false ∧ ∃ B'' vs'', Sub sa.heap.get? B'' ∧ φ (k + 1) B'' zs ∧ Wd P sa sa.heap.get? cenv cns B'' s'' vs'' ((D, .list zs) :: zipX z TI TO i1 i2 l1 l2 .none a b (k + 1))) ∨
        (ok = true ∧ wpAny (model prog w) A (eval elt cenv) (fun y s3 => ∃ B3 vs3, Sub sa.heap.get? B3 ∧ φ (k + 1) B3 (zs ++ [y]) ∧
          Wd P sa sa.heap.get? cenv cns B3 s3 vs3 ((D, .list zs) :: zipX z TI TO i1 i2 l1 l2 .none a b (k + 1))) (fun _ _ => False) s'')) (fun _ _ => False) s')
    (fin : ∀ D C s' B' zs vs', φ xs.length B' zs → Sub sa.heap.get? B' → sa.heap.get? D = none → sa.heap.get? C = none → Wd P sa sa.heap.get? (compEnvC scope cl C env) cns B' s' vs' [(D, .list zs)] →
      R (.ref D) C (.ok .next) s') :
    wpAny (model prog w) A (pyIter (.ref z)) (fun it s₂ => wpAny (model prog w) A (newList []) (fun acc s₃ => wpAny (model prog w) A (newFunctionEnv scope env.globals cl [] env.qual none .none (some env)) (fun cenv s₄ =>
      codeAny (model prog w) A (.compStart (.ListComp elt [⟨.Tuple [.Name x px, .Name y py] kk tp, iter, ifs, 0⟩] scope pos) 0 it acc { cenv with scope := relabel scope env }) (R acc cenv.locals) s₄) E s₃) E s₂) E s₁ := by
  obtain ⟨hp, tk, rfl, kh⟩ := K
  refine wpAny_pyIter_zip (hz _ mem_h) (wpAny_newList ?_ (by decide))
  refine wpAny_newFunctionEnv hcell (by intro y hy; simp at hy) (fun h₁ hns hsb => ?_) hkind
  dsimp only at hns hsb hz ⊢
  generalize hH2 : hp.push { cls := .type "list", data := .seq ([] : List Value).toArray } = H2 at hns hsb ⊢
  have z2 : H2.objs.size = hp.objs.size + 1 := by rw [← hH2, Heap.size_push]
  have old : Sub hp.get? H2.get? := fun b o e => hH2 ▸ Heap.get?_push_of_some _ e
  have keep : Sub hp.get? h₁.get? := fun b o e => hsb.extBut b o (Nat.ne_of_lt (Nat.lt_of_lt_of_le (Heap.lt_size e) (by (first | with_reducible assumption | exact Nat.le_of_ble_eq_true rfl | exact Nat.add_le_add_left (Nat.le_of_ble_eq_true rfl) _ | exact Nat.le_trans (by assumption) (Nat.le_of_ble_eq_true rfl) | exact Nat.lt_of_le_of_lt (by assumption) (Nat.le_of_ble_eq_true rfl) | exact Nat.le_trans (Nat.le_of_eq (by assumption)) (Nat.le_trans (by assumption) (Nat.le_of_ble_eq_true rfl)) | lia | omega)))) (Heap.get?_push_of_some _ (old b o e))
  have none_of : ∀ b, hp.objs.size ≤ b → sa.heap.get? b = none := fun b hb => by
    cases e : sa.heap.get? b with
    | none => rfl
    | some o => exact absurd (Heap.lt_size (kh b o e)) (Nat.not_lt.mpr hb)
  have hacc : (AO.list []).Is h₁.get? hp.objs.size := ⟨0, hsb.extBut _ _ (neN (by (first | with_reducible assumption | exact Nat.le_of_ble_eq_true rfl | exact Nat.add_le_add_left (Nat.le_of_ble_eq_true rfl) _ | exact Nat.le_trans (by assumption) (Nat.le_of_ble_eq_true rfl) | exact Nat.lt_of_le_of_lt (by assumption) (Nat.le_of_ble_eq_true rfl) | exact Nat.le_trans (Nat.le_of_eq (by assumption)) (Nat.le_trans (by assumption) (Nat.le_of_ble_eq_true rfl)) | lia | omega))) (Heap.get?_push_of_some _ (hH2 ▸ Heap.get?_push_size _ rfl))⟩
  have zlt : ∀ p ∈ zipX z TI TO i1 i2 l1 l2 .none .none .none 0, p.1 < hp.objs.size := fun p hpm => by obtain ⟨o, e⟩ := (hz p hpm).some; exact Heap.lt_size e
  have W0 : Wd P sa sa.heap.get? (compEnvC scope cl H2.objs.size env) cns sa.heap.get? { sa with heap := h₁, toks := tk } (cns.map fun _ => none) ((hp.objs.size, .list []) :: zipX z TI TO i1 i2 l1 l2 .none .none .none 0) := by
    refine { names := hcns, kind := hkind, glo := W.glo, blt := W.blt, nd := hnd, nodebug := hdb, gens := rfl, drawn := rfl, osys := rfl, sub := .refl _, stat := W.stat.mono W.keep, keep := fun b o e => keep b o (kh b o e),
             loc := ⟨_, hns, ?_⟩, objs := ?_, apart := ?_, fresh := ?_ }
    · exact .nones cns
    · intro p hpm
      rcases List.mem_cons.mp hpm with rfl | hpm
      · exact hacc
      · exact (hz p hpm).mono keep
    · rw [List.map_cons]
      refine List.nodup_cons.mpr ⟨fun hm => ?_, List.nodup_cons.mpr ⟨fun hm => ?_, hzn⟩⟩
      · have hm : H2.objs.size = hp.objs.size ∨ H2.objs.size ∈ (zipX z TI TO i1 i2 l1 l2 .none .none .none 0).map Prod.fst := List.mem_cons.mp hm
        rcases hm with e | hm
        · (first | with_reducible assumption | exact Nat.le_of_ble_eq_true rfl | exact Nat.add_le_add_left (Nat.le_of_ble_eq_true rfl) _ | exact Nat.le_trans (by assumption) (Nat.le_of_ble_eq_true rfl) | exact Nat.lt_of_le_of_lt (by assumption) (Nat.le_of_ble_eq_true rfl) | exact Nat.le_trans (Nat.le_of_eq (by assumption)) (Nat.le_trans (by assumption) (Nat.le_of_ble_eq_true rfl)) | lia | omega)
        · obtain ⟨p, hpm, e⟩ := List.mem_map.mp hm
          have h3 := zlt p hpm
          rw [e, z2] at h3
          exact absurd h3 (Nat.not_lt.mpr (Nat.le_succ _))
      · obtain ⟨p, hpm, e⟩ := List.mem_map.mp hm
        have h3 := zlt p hpm
        rw [e] at h3
        exact Nat.lt_irrefl _ h3
    · intro b hb
      have hb : b = H2.objs.size ∨ b = hp.objs.size ∨ b ∈ (zipX z TI TO i1 i2 l1 l2 .none .none .none 0).map Prod.fst := by
        rcases List.mem_cons.mp hb with e | hb
        · exact .inl e
        · exact .inr (List.mem_cons.mp hb)
      rcases hb with rfl | rfl | hb
      · exact none_of _ (by rw [z2]; exact Nat.le_succ _)
      · exact none_of _ (Nat.le_refl _)
      · obtain ⟨p, hpm, rfl⟩ := List.mem_map.mp hb
        exact hzf p hpm
  have perm : ∀ (D : Addr) (zs : List Value) (f0 a b : Value) (k : Nat), ((D, AO.list zs) :: zipX z TI TO i1 i2 l1 l2 f0 a b k).Perm (zipX z TI TO i1 i2 l1 l2 f0 a b k ++ [(D, AO.list zs)]) := fun D zs f0 a b k => (List.perm_append_comm (l₁ := [(D, AO.list zs)]))
  refine compStart_zip (keep _ _ (hz _ mem_h)) ?_
  refine compLoop_let (fun j s' => ∃ k B' zs vs' a b, k ≤ xs.length ∧ j = xs.length - k ∧ Sub sa.heap.get? B' ∧ φ k B' zs ∧ zs.length ≤ k ∧
      Wd P sa sa.heap.get? (compEnvC scope cl H2.objs.size env) cns B' s' vs' ((hp.objs.size, .list zs) :: zipX z TI TO i1 i2 l1 l2 .none a b k)) ?_ xs.length ⟨0, _, [], _, _, _, Nat.zero_le _, rfl, .refl _, h0, Nat.le_refl _, W0⟩
  rintro j s' ⟨k, B', zs, vs', a, b, hk, rfl, hB, hφ, hzs, W'⟩
  rcases Nat.lt_or_eq_of_le hk with hlt | rfl
  · have hx : xs[k]? = some xs[k] := List.getElem?_eq_getElem hlt
    have hy : ys[k]? = some (ys[k]'(hlen ▸ hlt)) := List.getElem?_eq_getElem _
    refine z_item (W'.perm (perm ..)) (h1.mono hB) (h2.mono hB) hx hy fun T s₂ W₂ hT => ?_
    refine z_let W₂ hT fun s₃ W₃ hT₃ => ?_
    obtain ⟨v1, w1, w2⟩ := hw xs[k] (ys[k]'(hlen ▸ hlt))
    refine z_assign hA W₃.clear hT₃ w1 w2 fun s₄ W₄ => ?_
    refine wpAny_mono (step k _ _ _ _ B' s₄ zs _ _ hx hy hφ hzs hB ⟨_, rfl⟩ (W₄.perm (perm ..).symm)) (fun ok s4 h4 => ?_) fun _ _ e => e.elim
    rcases h4 with ⟨rfl, B'', vs'', hB'', hφ'', W4⟩ | ⟨rfl, h4⟩
    · exact ⟨xs.length - (k + 1), by (first | with_reducible assumption | exact Nat.le_of_ble_eq_true rfl | exact Nat.add_le_add_left (Nat.le_of_ble_eq_true rfl) _ | exact Nat.le_trans (by assumption) (Nat.le_of_ble_eq_true rfl) | exact Nat.lt_of_le_of_lt (by assumption) (Nat.le_of_ble_eq_true rfl) | exact Nat.le_trans (Nat.le_of_eq (by assumption)) (Nat.le_trans (by assumption) (Nat.le_of_ble_eq_true rfl)) | lia | omega), k + 1, B'', zs, vs'', _, _, hlt, rfl, hB'', hφ'', by (first | with_reducible assumption | exact Nat.le_of_ble_eq_true rfl | exact Nat.add_le_add_left (Nat.le_of_ble_eq_true rfl) _ | exact Nat.le_trans (by assumption) (Nat.le_of_ble_eq_true rfl) | exact Nat.lt_of_le_of_lt (by assumption) (Nat.le_of_ble_eq_true rfl) | exact Nat.le_trans (Nat.le_of_eq (by assumption)) (Nat.le_trans (by assumption) (Nat.le_of_ble_eq_true rfl)) | lia | omega), W4⟩
    · simp only [if_true]
      refine wpAny_mono h4 (fun y s5 h5 => ?_) fun _ _ e => e.elim
      obtain ⟨B3, vs3, hB3, hφ3, W5⟩ := h5
      refine l_append W5 .head (by rw [sizeLine_eq]; (first | with_reducible assumption | exact Nat.le_of_ble_eq_true rfl | exact Nat.add_le_add_left (Nat.le_of_ble_eq_true rfl) _ | exact Nat.le_trans (by assumption) (Nat.le_of_ble_eq_true rfl) | exact Nat.lt_of_le_of_lt (by assumption) (Nat.le_of_ble_eq_true rfl) | exact Nat.le_trans (Nat.le_of_eq (by assumption)) (Nat.le_trans (by assumption) (Nat.le_of_ble_eq_true rfl)) | lia | omega)) (fun s6 W6 => ?_)
      exact ⟨xs.length - (k + 1), by (first | with_reducible assumption | exact Nat.le_of_ble_eq_true rfl | exact Nat.add_le_add_left (Nat.le_of_ble_eq_true rfl) _ | exact Nat.le_trans (by assumption) (Nat.le_of_ble_eq_true rfl) | exact Nat.lt_of_le_of_lt (by assumption) (Nat.le_of_ble_eq_true rfl) | exact Nat.le_trans (Nat.le_of_eq (by assumption)) (Nat.le_trans (by assumption) (Nat.le_of_ble_eq_true rfl)) | lia | omega), k + 1, B3, zs ++ [y], vs3, _, _, hlt, rfl, hB3, hφ3, by simp; (first | with_reducible assumption | exact Nat.le_of_ble_eq_true rfl | exact Nat.add_le_add_left (Nat.le_of_ble_eq_true rfl) _ | exact Nat.le_trans (by assumption) (Nat.le_of_ble_eq_true rfl) | exact Nat.lt_of_le_of_lt (by assumption) (Nat.le_of_ble_eq_true rfl) | exact Nat.le_trans (Nat.le_of_eq (by assumption)) (Nat.le_trans (by assumption) (Nat.le_of_ble_eq_true rfl)) | lia | omega), W6⟩
  · refine z_end hA (W'.perm (perm ..)) (h1.mono hB) (h2.mono hB) (List.getElem?_eq_none (Nat.le_refl _)) fun s₂ W₂ => ?_
    exact fin _ _ _ B' zs vs' hφ hB (none_of _ (Nat.le_refl _)) (none_of _ (by rw [z2]; exact Nat.le_succ _)) W₂

theorem ex_compT {elt iter target : Expr} {y : Str} {py : Pos} {ifs : List Expr} {scope : Scope} {cl : List (Str × Addr)} {pos spos : Pos} {s : Shared} {Q : Flow → Shared → Prop}
    (hsw : swapsWith (.ListComp elt [⟨target, iter, ifs, 0⟩] scope pos) (some (.Name y py)) spos.line env = pure true)
    (hclos : closureFor scope env = pure cl) (hkind : scope.kind = .function) (hnames : ∀ y ∈ scope.names, y.2 = .local → scope.names.lookup y.1 = some .local)
    (h : wpAny (model prog w) A (eval iter env) (fun xv s₁ => wpAny (model prog w) A (pyIter xv) (fun it s₂ => wpAny (model prog w) A (newList []) (fun acc s₃ =>
      wpAny (model prog w) A (newFunctionEnv scope env.globals cl [] env.qual none .none (some env)) (fun cenv s₄ =>
        codeAny (model prog w) A (.compStart (.ListComp elt [⟨target, iter, ifs, 0⟩] scope pos) 0 it acc { cenv with scope := relabel scope env })
          (compPost (model prog w) A E (some (assign (.Name y py) env)) (fun _ s' => Q .next s') acc cenv.locals) s₄) E s₃) E s₂) E s₁) E s)
    (hs : ∀ x, foldedSetIterable iter env x = pure x := by intro _; rfl) :
    wpAny (model prog w) A (exec (.Assign [.Name y py] (.ListComp elt [⟨target, iter, ifs, 0⟩] scope pos) spos) env) Q E s := by
  rw [exec_Assign_Name_used _ _ _ _ hsw]
  refine wpAny_bind (wpAny_standAt (wpAny_bind ?_))
  show wpAny _ A (do let _ ← comprehension (.ListComp elt [⟨target, iter, ifs, 0⟩] scope pos) scope env _ (newList []) false (eval iter env) (some (assign (.Name y py) env))) _ _ s
  exact wpAny_bind (wpAny_mono (wpAny_comprehension_free (use := some (assign (.Name y py) env)) (Q := fun _ s' => Q .next s') rfl hs hclos hkind hnames h)
    (fun _ s' hq => wpAny_pure (wpAny_pure hq)) fun _ _ e => e)

theorem z_callK (h1 : (AO.list xs).Is s.heap.get? l1) (h2 : (AO.list ys).Is s.heap.get? l2) {Q : Value → Shared → Prop}
    (h : ∀ z TI TO i1 i2 s', Keeps s s' → ((zipX z TI TO i1 i2 l1 l2 .none .none .none 0).map Prod.fst).Nodup → (∀ p ∈ zipX z TI TO i1 i2 l1 l2 .none .none .none 0, s.heap.get? p.1 = none) →
      (∀ p ∈ zipX z TI TO i1 i2 l1 l2 .none .none .none 0, p.2.Is s'.heap.get? p.1) → Q (.ref z) s') : wpAny (model prog w) A (call (.type "zip") [.ref l1, .ref l2]) Q E s := by
  refine call_zip_2 h1.isL h2.isL fun h' hz hTI hTO hi1 hi2 hsz hk => ?_
  have fresh : ∀ a, s.heap.objs.size ≤ a → s.heap.get? a = none := fun a ha => by
    cases e : s.heap.get? a with
    | none => rfl
    | some o => exact absurd (Heap.lt_size e) (Nat.not_lt.mpr ha)
  refine h (s.heap.objs.size + 4) (s.heap.objs.size + 2) (s.heap.objs.size + 3) s.heap.objs.size (s.heap.objs.size + 1) _ ⟨h', s.toks, rfl, hk⟩ ?_ ?_ ?_
  · show ([s.heap.objs.size + 4, s.heap.objs.size + 2, s.heap.objs.size + 3, s.heap.objs.size, s.heap.objs.size + 1] : List Nat).Nodup
    simp only [List.nodup_cons, List.mem_cons, List.not_mem_nil, or_false, not_or, List.nodup_nil, not_false_eq_true, and_true]
    (first | with_reducible assumption | exact Nat.le_of_ble_eq_true rfl | exact Nat.add_le_add_left (Nat.le_of_ble_eq_true rfl) _ | exact Nat.le_trans (by assumption) (Nat.le_of_ble_eq_true rfl) | exact Nat.lt_of_le_of_lt (by assumption) (Nat.le_of_ble_eq_true rfl) | exact Nat.le_trans (Nat.le_of_eq (by assumption)) (Nat.le_trans (by assumption) (Nat.le_of_ble_eq_true rfl)) | lia | omega)
  · intro p hp
    simp only [List.mem_cons, List.not_mem_nil, or_false] at hp
    rcases hp with rfl | rfl | rfl | rfl | rfl
    · exact fresh _ (Nat.le_add_right _ _)
    · exact fresh _ (Nat.le_add_right _ _)
    · exact fresh _ (Nat.le_add_right _ _)
    · exact fresh _ (Nat.le_refl _)
    · exact fresh _ (Nat.le_add_right _ _)
  · intro p hp
    simp only [List.mem_cons, List.not_mem_nil, or_false] at hp
    rcases hp with rfl | rfl | rfl | rfl | rfl
    · exact hz
    · exact hTI
    · exact hTO
    · exact hi1
    · exact hi2
end
end
-- Cp
section
open PySem PySem.W PyProof.Rows PyProof.V PySem.SeqAt
/-! ### what is compared -/
noncomputable def dR (r : List Str) : PyData := .list (r.map .str)
noncomputable def dO : Option (List Str) → PyData
  | none => .none
  | some r => dR r
noncomputable def dE (es : List (Option (List Str))) : PyData := .list (es.map dO)
noncomputable def EndV (g : G) (v : Value) (o : Option (List Str)) : Prop := (o = none ∧ v = .none) ∨ ∃ q r rv, o = some q ∧ v = .ref r ∧ StrsAre rv q ∧ (AO.list rv).Is g r
inductive EndsAre (g : G) : List Value → List (Option (List Str)) → Prop
  | nil : EndsAre g [] []
  | cons {v o vs os} : EndV g v o → EndsAre g vs os → EndsAre g (v :: vs) (o :: os)
theorem EndV.mono {g g' : G} {v : Value} {o : Option (List Str)} (h : EndV g v o) (k : Sub g g') : EndV g' v o := by
  rcases h with h | ⟨q, r, rv, a, b, c, d⟩
  · exact .inl h
  · exact .inr ⟨q, r, rv, a, b, c, d.mono k⟩
theorem EndsAre.mono {g g' : G} {vs : List Value} {os : List (Option (List Str))} (h : EndsAre g vs os) (k : Sub g g') : EndsAre g' vs os := by
  induction h with
  | nil => exact .nil
  | cons a _ ih => exact .cons (a.mono k) ih
theorem EndsAre.snoc {g : G} {vs : List Value} {os : List (Option (List Str))} {v : Value} {o : Option (List Str)} (h : EndsAre g vs os) (a : EndV g v o) : EndsAre g (vs ++ [v]) (os ++ [o]) := by
  induction h with
  | nil => exact .cons a .nil
  | cons b _ ih => exact .cons b ih
theorem EndsAre.len {g : G} {vs : List Value} {os : List (Option (List Str))} (h : EndsAre g vs os) : vs.length = os.length := by induction h with
  | nil => rfl
  | cons _ _ ih => simp [ih]
theorem EndsAre.get {g : G} {vs : List Value} {os : List (Option (List Str))} (h : EndsAre g vs os) : ∀ {k : Nat} {v : Value}, vs[k]? = some v → ∃ o, EndV g v o ∧ os[k]? = some o := by
  induction h with
  | nil => intro k v e; simp at e
  | cons a _ ih =>
    intro k v e
    cases k with
    | zero => simp at e; subst e; exact ⟨_, a, rfl⟩
    | succ k => simpa using ih (by simpa using e)

theorem noMixAll_map {α : Type} {f : α → PyData} (h : ∀ a b, noMix (f a) (f b) = true) : ∀ xs ys : List α, noMixAll (xs.map f) (ys.map f) = true
  | [], [] => rfl
  | [], _ :: _ => rfl
  | _ :: _, [] => rfl
  | x :: xs, y :: ys => by
    show (noMix (f x) (f y) && noMixAll (xs.map f) (ys.map f)) = true
    rw [h, noMixAll_map h xs ys]; rfl
theorem noMix_str (a b : Str) : noMix (.str a) (.str b) = true := by unfold noMix; rfl
theorem noMix_int (a b : Int) : noMix (.int a) (.int b) = true := by unfold noMix; rfl
theorem noMix_dR (a b : List Str) : noMix (dR a) (dR b) = true := by show noMixAll _ _ = true; exact noMixAll_map noMix_str a b
theorem noMix_dO (a b : Option (List Str)) : noMix (dO a) (dO b) = true := by
  cases a with
  | none => cases b with
    | none => rfl
    | some b => rfl
  | some a => cases b with
    | none => rfl
    | some b => exact noMix_dR a b
theorem noMix_dE (a b : List (Option (List Str))) : noMix (dE a) (dE b) = true := by show noMixAll _ _ = true; exact noMixAll_map noMix_dO a b
theorem noMixAll_app {a b c d : List PyData} (hl : a.length = c.length) (h1 : noMixAll a c = true) (h2 : noMixAll b d = true) : noMixAll (a ++ b) (c ++ d) = true := by
  induction a generalizing c with
  | nil => cases c with
    | nil => exact h2
    | cons _ _ => simp at hl
  | cons x a ih => cases c with
    | nil => simp at hl
    | cons y c =>
      have h1' : (noMix x y && noMixAll a c) = true := h1
      rw [Bool.and_eq_true] at h1'
      show (noMix x y && noMixAll (a ++ b) (c ++ d)) = true
      rw [h1'.1, ih (by simpa using hl) h1'.2]; rfl

theorem dR_inj {a b : List Str} (h : dR a = dR b) : a = b := by
  have h : a.map PyData.str = b.map PyData.str := PyData.list.inj h
  exact (List.map_inj_right (fun x y e => PyData.str.inj e)).mp h
theorem dO_inj {a b : Option (List Str)} (h : dO a = dO b) : a = b := by
  cases a with
  | none => cases b with
    | none => rfl
    | some b => cases h
  | some a => cases b with
    | none => cases h
    | some b => rw [dR_inj h]
theorem dE_inj {a b : List (Option (List Str))} (h : dE a = dE b) : a = b := by
  have h : a.map dO = b.map dO := PyData.list.inj h
  exact (List.map_inj_right (fun x y e => dO_inj e)).mp h

theorem shaped_dR {r : List Str} (h : ∀ x ∈ r, PyData.strOk x = true) : shaped (dR r) = true := shaped_strs h
theorem canLayAll0_map {α : Type} {f : α → PyData} : ∀ {xs : List α}, (∀ x ∈ xs, PyData.canLay0 (f x) = true) → PyData.canLayAll0 (xs.map f) = true
  | [], _ => by simp [PyData.canLayAll0]
  | x :: xs, h => by simp only [List.map_cons, PyData.canLayAll0, h x (.head _), Bool.true_and]; exact canLayAll0_map fun y hy => h y (.tail _ hy)
theorem depthAll_map {α : Type} {f : α → PyData} {n : Nat} : ∀ {xs : List α}, (∀ x ∈ xs, PyData.depth (f x) ≤ n) → PyData.depthAll (xs.map f) ≤ n
  | [], _ => by simp [PyData.depthAll]
  | x :: xs, h => by
    have := h x (.head _)
    have := depthAll_map (xs := xs) fun y hy => h y (.tail _ hy)
    simp only [List.map_cons, PyData.depthAll]; (first | with_reducible assumption | exact Nat.le_of_ble_eq_true rfl | exact Nat.add_le_add_left (Nat.le_of_ble_eq_true rfl) _ | exact Nat.le_trans (by assumption) (Nat.le_of_ble_eq_true rfl) | exact Nat.lt_of_le_of_lt (by assumption) (Nat.le_of_ble_eq_true rfl) | exact Nat.le_trans (Nat.le_of_eq (by assumption)) (Nat.le_trans (by assumption) (Nat.le_of_ble_eq_true rfl)) | lia | omega)
theorem shaped_list {xs : List PyData} (h1 : PyData.canLayAll0 xs = true) (h2 : PyData.depthAll xs ≤ 10) : shaped (.list xs) = true := by
  unfold shaped
  rw [Bool.and_eq_true]
  exact ⟨by simp only [PyData.canLay0]; exact h1, decide_eq_true (by simp only [PyData.depth]; (first | with_reducible assumption | exact Nat.le_of_ble_eq_true rfl | exact Nat.add_le_add_left (Nat.le_of_ble_eq_true rfl) _ | exact Nat.le_trans (by assumption) (Nat.le_of_ble_eq_true rfl) | exact Nat.lt_of_le_of_lt (by assumption) (Nat.le_of_ble_eq_true rfl) | exact Nat.le_trans (Nat.le_of_eq (by assumption)) (Nat.le_trans (by assumption) (Nat.le_of_ble_eq_true rfl)) | lia | omega))⟩
theorem shaped_ints (ns : List Int) : shaped (.list (ns.map .int)) = true :=
  shaped_list (canLayAll0_map fun x _ => by simp [PyData.canLay0]) (depthAll_map fun x _ => by simp [PyData.depth])
noncomputable def OkO (o : Option (List Str)) : Prop := ∀ r, o = some r → ∀ x ∈ r, PyData.strOk x = true
theorem canLay_dO {o : Option (List Str)} (h : OkO o) : PyData.canLay0 (dO o) = true := by
  cases o with
  | none => simp [dO, PyData.canLay0]
  | some r => simp only [dO, dR, PyData.canLay0]; exact canLayAll0_strs (h r rfl)
theorem depth_dO (o : Option (List Str)) : PyData.depth (dO o) ≤ 5 := by
  cases o with
  | none => simp [dO, PyData.depth]
  | some r => simp only [dO, dR, PyData.depth]; have := depthAll_strs r; (first | with_reducible assumption | exact Nat.le_of_ble_eq_true rfl | exact Nat.add_le_add_left (Nat.le_of_ble_eq_true rfl) _ | exact Nat.le_trans (by assumption) (Nat.le_of_ble_eq_true rfl) | exact Nat.lt_of_le_of_lt (by assumption) (Nat.le_of_ble_eq_true rfl) | exact Nat.le_trans (Nat.le_of_eq (by assumption)) (Nat.le_trans (by assumption) (Nat.le_of_ble_eq_true rfl)) | lia | omega)
theorem shaped_dO {o : Option (List Str)} (h : OkO o) : shaped (dO o) = true := by
  unfold shaped
  rw [Bool.and_eq_true]
  exact ⟨canLay_dO h, decide_eq_true (by have := depth_dO o; (first | with_reducible assumption | exact Nat.le_of_ble_eq_true rfl | exact Nat.add_le_add_left (Nat.le_of_ble_eq_true rfl) _ | exact Nat.le_trans (by assumption) (Nat.le_of_ble_eq_true rfl) | exact Nat.lt_of_le_of_lt (by assumption) (Nat.le_of_ble_eq_true rfl) | exact Nat.le_trans (Nat.le_of_eq (by assumption)) (Nat.le_trans (by assumption) (Nat.le_of_ble_eq_true rfl)) | lia | omega))⟩
theorem shaped_dE {es : List (Option (List Str))} (h : ∀ o ∈ es, OkO o) : shaped (dE es) = true :=
  shaped_list (canLayAll0_map fun x hx => canLay_dO (h x hx)) (depthAll_map fun x _ => by have := depth_dO x; (first | with_reducible assumption | exact Nat.le_of_ble_eq_true rfl | exact Nat.add_le_add_left (Nat.le_of_ble_eq_true rfl) _ | exact Nat.le_trans (by assumption) (Nat.le_of_ble_eq_true rfl) | exact Nat.lt_of_le_of_lt (by assumption) (Nat.le_of_ble_eq_true rfl) | exact Nat.le_trans (Nat.le_of_eq (by assumption)) (Nat.le_trans (by assumption) (Nat.le_of_ble_eq_true rfl)) | lia | omega))

theorem reads_endV {h : Heap} {v : Value} {o : Option (List Str)} (k : EndV h.get? v o) : ∃ as, Reads h v (dO o) as := by
  rcases k with ⟨rfl, rfl⟩ | ⟨q, r, rv, rfl, rfl, a, b⟩
  · exact ⟨_, .none⟩
  · exact ⟨_, reads_list b (readsAll_strs a)⟩
theorem reads_ends {h : Heap} {vs : List Value} {es : List (Option (List Str))} (k : EndsAre h.get? vs es) : ∃ as, ReadsAll h vs (es.map dO) as := by
  induction k with
  | nil => exact ⟨_, .nil⟩
  | cons a _ ih =>
    obtain ⟨as, ih⟩ := ih
    obtain ⟨bs, b⟩ := reads_endV a
    exact ⟨_, .cons b ih⟩
noncomputable def dSI : Str ⊕ Int → PyData
  | .inl x => .str x
  | .inr k => .int k
theorem readsAll_app {h : Heap} {vs us : List Value} {xs ys : List PyData} {as bs : List Addr} (a : ReadsAll h vs xs as) (b : ReadsAll h us ys bs) : ∃ cs, ReadsAll h (vs ++ us) (xs ++ ys) cs := by
  induction vs generalizing xs as with
  | nil => cases a with | nil => exact ⟨_, b⟩
  | cons v vs ih => cases a with
    | cons c d =>
      obtain ⟨cs, e⟩ := ih d
      exact ⟨_, .cons c e⟩
theorem readsAll_ints {h : Heap} : ∀ {vs : List Value} {ns : List Int}, IntsAre vs ns → ∃ as, ReadsAll h vs (ns.map PyData.int) as
  | _, _, .nil => ⟨_, .nil⟩
  | _, _, .cons k t r => by obtain ⟨as, e⟩ := readsAll_ints (h := h) r; exact ⟨_, .cons (.int k t) e⟩

section
variable {prog : Program} {w : World} {A : Around} {E : Value → Shared → Prop} {s : Shared} {Q : Value → Shared → Prop}
theorem ne_same {a b : Value} {d : PyData} {as bs : List Addr} (ra : Reads s.heap a d as) (rb : Reads s.heap b d bs) (hd : shaped d = true) (hm : noMix d d = true) (hu : A.units + 64 < cLine) (h : Q (.bool false) s) : wpAny (model prog w) A (compareOp .NotEq a b) Q E s := by
  refine ne_dataH_same ra rb hd hd hu hm ?_
  rw [PyProof.Rows.same_iff.mpr rfl]; exact h
theorem eq_strs {l r : Addr} {vs us : List Value} {a b : List Str} (hl : (AO.list vs).Is s.heap.get? l) (hr : (AO.list us).Is s.heap.get? r) (ha : StrsAre vs a) (hb : StrsAre us b) (ka : ∀ x ∈ a, PyData.strOk x = true) (kb : ∀ x ∈ b, PyData.strOk x = true)
    (hu : A.units + 64 < cLine) (h : Q (.bool (decide (a = b))) s) : wpAny (model prog w) A (compareOp .Eq (.ref l) (.ref r)) Q E s := by
  refine eq_dataH_same (reads_list hl (readsAll_strs ha)) (reads_list hr (readsAll_strs hb)) (shaped_dR ka) (shaped_dR kb) hu (noMix_dR a b) ?_
  have : PySem.Spec.same (dR a) (dR b) = decide (a = b) := by
    by_cases e : a = b
    · rw [decide_eq_true e]; exact PyProof.Rows.same_iff.mpr (by rw [e])
    · rw [decide_eq_false e, Bool.eq_false_iff]; exact fun z => e (dR_inj (PyProof.Rows.same_iff.mp z))
  show Q (.bool (PySem.Spec.same (dR a) (dR b))) s
  rw [this]; exact h
theorem eq_ends {l r : Addr} {vs us : List Value} {a b : List (Option (List Str))} (hl : (AO.list vs).Is s.heap.get? l) (hr : (AO.list us).Is s.heap.get? r) (ha : EndsAre s.heap.get? vs a) (hb : EndsAre s.heap.get? us b) (ka : ∀ o ∈ a, OkO o) (kb : ∀ o ∈ b, OkO o)
    (hu : A.units + 64 < cLine) (h : Q (.bool (decide (a = b))) s) : wpAny (model prog w) A (compareOp .Eq (.ref l) (.ref r)) Q E s := by
  obtain ⟨as, ra⟩ := reads_ends ha
  obtain ⟨bs, rb⟩ := reads_ends hb
  refine eq_dataH_same (reads_list hl ra) (reads_list hr rb) (shaped_dE ka) (shaped_dE kb) hu (noMix_dE a b) ?_
  have : PySem.Spec.same (dE a) (dE b) = decide (a = b) := by
    by_cases e : a = b
    · rw [decide_eq_true e]; exact PyProof.Rows.same_iff.mpr (by rw [e])
    · rw [decide_eq_false e, Bool.eq_false_iff]; exact fun z => e (dE_inj (PyProof.Rows.same_iff.mp z))
  show Q (.bool (PySem.Spec.same (dE a) (dE b))) s
  rw [this]; exact h
theorem ne_endV {v u : Value} {o : Option (List Str)} (hv : EndV s.heap.get? v o) (hu' : EndV s.heap.get? u o) (ho : OkO o) (hu : A.units + 64 < cLine) (h : Q (.bool false) s) : wpAny (model prog w) A (compareOp .NotEq v u) Q E s := by
  obtain ⟨as, ra⟩ := reads_endV hv
  obtain ⟨bs, rb⟩ := reads_endV hu'
  exact ne_same ra rb (shaped_dO ho) (noMix_dO o o) hu h
theorem ne_told {l r : Addr} {vs us : List Value} {a : List Str} {n : Int} {t u : Tok} (hl : (AO.list (vs ++ [.int n t])).Is s.heap.get? l) (hr : (AO.list (us ++ [.int n u])).Is s.heap.get? r) (ha : StrsAre vs a) (hb : StrsAre us a) (ka : ∀ x ∈ a, PyData.strOk x = true)
    (hu : A.units + 64 < cLine) (h : Q (.bool false) s) : wpAny (model prog w) A (compareOp .NotEq (.ref l) (.ref r)) Q E s := by
  obtain ⟨as, ra⟩ := readsAll_app (readsAll_strs ha) (.cons (.int n t) .nil : ReadsAll s.heap [Value.int n t] [PyData.int n] _)
  obtain ⟨bs, rb⟩ := readsAll_app (readsAll_strs hb) (.cons (.int n u) .nil : ReadsAll s.heap [Value.int n u] [PyData.int n] _)
  refine ne_same (reads_list hl ra) (reads_list hr rb) (shaped_list ?_ ?_) ?_ hu h
  · have e : a.map PyData.str ++ [PyData.int n] = (a.map (fun x => (Sum.inl x : Str ⊕ Int)) ++ [Sum.inr n]).map dSI := by simp [dSI]
    rw [e]
    refine canLayAll0_map fun x hx => ?_
    rcases List.mem_append.mp hx with hx | hx
    · obtain ⟨y, hy, rfl⟩ := List.mem_map.mp hx
      simp [dSI, PyData.canLay0, ka y hy]
    · simp at hx; subst hx; simp [dSI, PyData.canLay0]
  · have e : a.map PyData.str ++ [PyData.int n] = (a.map (fun x => (Sum.inl x : Str ⊕ Int)) ++ [Sum.inr n]).map dSI := by simp [dSI]
    rw [e]
    refine depthAll_map fun x hx => ?_
    cases x <;> simp [dSI, PyData.depth]
  · show noMixAll _ _ = true
    exact noMixAll_app rfl (noMixAll_map noMix_str a a) rfl
theorem eq_nil {l r : Addr} {vs : List Value} {a : List Int} (hl : (AO.list vs).Is s.heap.get? l) (hr : (AO.list []).Is s.heap.get? r) (ha : IntsAre vs a) (hu : A.units + 64 < cLine) (h : Q (.bool a.isEmpty) s) : wpAny (model prog w) A (compareOp .Eq (.ref l) (.ref r)) Q E s := by
  obtain ⟨as, ra⟩ := readsAll_ints (h := s.heap) ha
  refine eq_dataH_same (reads_list hl ra) (reads_list hr .nil) (shaped_ints a) (shaped_ints []) hu ?_ ?_
  · show noMixAll (a.map PyData.int) (([] : List Int).map PyData.int) = true
    exact noMixAll_map noMix_int a []
  · have : PySem.Spec.same (.list (a.map PyData.int)) (.list []) = a.isEmpty := by
      cases a with
      | nil => simp [PySem.Spec.same, PySem.Spec.sameAll]
      | cons x a => simp [PySem.Spec.same, PySem.Spec.sameAll]
    rw [this]; exact h
end
end
-- Law4
section
open PySem PySem.W PyProof.Rows PySem.Builtin PySem.Builtin.Str
/-! ### from numbers to deeds -/
noncomputable def code : D → Int
  | .p false => 0
  | .p true => 1
  | .t false => 2
  | .t true => 3
noncomputable def dOf (k : Int) : D := if k = 0 then .p false else if k = 1 then .p true else if k = 2 then .t false else .t true
theorem code_dOf {k : Int} (h0 : 0 ≤ k) (h1 : k < 4) : code (dOf k) = k := by
  unfold dOf
  split
  · rename_i h; rw [h]; rfl
  · split
    · rename_i h; rw [h]; rfl
    · split
      · rename_i h; rw [h]; rfl
      · show (3 : Int) = k; (first | lia | omega)
theorem code_range (d : D) : 0 ≤ code d ∧ code d < 4 := by cases d with | p x => cases x <;> decide | t x => cases x <;> decide
theorem code_mod (x : Bool) : (code (.p x)).fmod 2 = code (.p x) ∧ (code (.t x)).fmod 2 = code (.p x) := by cases x <;> decide
theorem map_code {ks : List Int} (h : ∀ k ∈ ks, 0 ≤ k ∧ k < 4) : ks = (ks.map dOf).map code := by
  rw [List.map_map]
  have : ks.map (code ∘ dOf) = ks.map _root_.id := List.map_congr_left fun k hk => code_dOf (h k hk).1 (h k hk).2
  rw [this, List.map_id]
theorem taken_eq : ∀ ds : List D, (ds.map code).filter (fun d => decide (1 < d)) = (takesD ds).map fun x => code (.t x)
  | [] => rfl
  | .p x :: ds => by
    have := taken_eq ds
    cases x <;> simpa [takesD, code] using this
  | .t x :: ds => by
    have := taken_eq ds
    cases x <;> simpa [takesD, code] using this
theorem laid_eq : ∀ ds : List D, (ds.map code).filter (fun d => decide (d < 2)) = (putsD ds).map fun x => code (.p x)
  | [] => rfl
  | .p x :: ds => by
    have := laid_eq ds
    cases x <;> simpa [putsD, code] using this
  | .t x :: ds => by
    have := laid_eq ds
    cases x <;> simpa [putsD, code] using this

theorem fm4 (k : Int) : 0 ≤ k.fmod 4 ∧ k.fmod 4 < 4 := by rw [Int.fmod_eq_emod_of_nonneg _ (by decide)]; (first | lia | omega)
theorem stepD_ok {ds : List Int} {n : Int} (h : (∀ k ∈ ds, 0 ≤ k ∧ k < 4) ∧ (ds.filter fun d => decide (1 < d)).length ≤ 4) :
    (∀ k ∈ stepD ds n, 0 ≤ k ∧ k < 4) ∧ ((stepD ds n).filter fun d => decide (1 < d)).length ≤ 4 := by
  have hf := fm4 n
  unfold stepD
  by_cases hc : 1 < n.fmod 4 ∧ (ds.filter fun d => decide (1 < d)).length = 4
  · rw [if_pos hc]
    refine ⟨fun k hk => ?_, ?_⟩
    · rcases List.mem_append.mp hk with hk | hk
      · exact h.1 k hk
      · simp at hk; (first | lia | omega)
    · rw [List.filter_append, List.length_append]
      have : ([n.fmod 4 - 2].filter fun d => decide (1 < d)) = [] := by simp; (first | lia | omega)
      rw [this]; simp; exact h.2
  · rw [if_neg hc]
    refine ⟨fun k hk => ?_, ?_⟩
    · rcases List.mem_append.mp hk with hk | hk
      · exact h.1 k hk
      · simp at hk; (first | lia | omega)
    · rw [List.filter_append, List.length_append]
      by_cases h1 : 1 < n.fmod 4
      · have h4 : (ds.filter fun d => decide (1 < d)).length ≠ 4 := fun e => hc ⟨h1, e⟩
        have : ([n.fmod 4].filter fun d => decide (1 < d)).length ≤ 1 := List.length_filter_le _ _
        have := h.2
        (first | lia | omega)
      · have : ([n.fmod 4].filter fun d => decide (1 < d)) = [] := by simp; (first | lia | omega)
        rw [this]; simp; exact h.2
theorem deedsOf_ok (ns : List Int) : (∀ k ∈ deedsOf ns, 0 ≤ k ∧ k < 4) ∧ ((deedsOf ns).filter fun d => decide (1 < d)).length ≤ 4 := by
  have : ∀ (l acc : List Int), ((∀ k ∈ acc, 0 ≤ k ∧ k < 4) ∧ (acc.filter fun d => decide (1 < d)).length ≤ 4) → (∀ k ∈ l.foldl stepD acc, 0 ≤ k ∧ k < 4) ∧ ((l.foldl stepD acc).filter fun d => decide (1 < d)).length ≤ 4 := by
    intro l
    induction l with
    | nil => intro acc h; exact h
    | cons n l ih => intro acc h; exact ih _ (stepD_ok h)
  exact this ns [] ⟨fun k hk => by simp at hk, by simp⟩
theorem stepO_perm {ns ds : List Int} {p : Nat} (h1 : 1 ≤ p) (h2 : p < ds.length) : (stepO ns ds p).Perm ds := by
  unfold stepO
  split
  · have := List.set_set_perm (as := ds) (i := p - 1) (j := p) (by (first | lia | omega)) h2
    have e1 : ds.getD p 0 = ds[p] := by simp [h2]
    have e2 : ds.getD (p - 1) 0 = ds[p - 1]'(by (first | lia | omega)) := by simp [show p - 1 < ds.length by (first | lia | omega)]
    rw [e1, e2]; exact this
  · exact .refl _
theorem othersTo_perm {ns ds : List Int} : ∀ k, k + 1 ≤ ds.length → (othersTo ns ds k).Perm ds
  | 0, _ => .refl _
  | k + 1, h => by
    rw [othersTo_succ]
    exact (stepO_perm (by (first | lia | omega)) (by rw [othersTo_len]; (first | lia | omega))).trans (othersTo_perm k (by (first | lia | omega)))

/-- the two programs -/
theorem programs_ok {ns : List Int} (h1 : 1 ≤ ns.length) : ∃ d0 d1 : List D, deedsOf ns = d0.map code ∧ othersOf ns (deedsOf ns) = d1.map code ∧ d0.length = ns.length ∧ d1.length = ns.length ∧ (takesD d0).length ≤ 4 ∧ (takesD d1).length = (takesD d0).length ∧ (putsD d1).length = (putsD d0).length := by
  have hok := deedsOf_ok ns
  have hp : (othersOf ns (deedsOf ns)).Perm (deedsOf ns) := othersTo_perm _ (by rw [deedsOf_len]; (first | lia | omega))
  have e0 := map_code hok.1
  have e1 := map_code (ks := othersOf ns (deedsOf ns)) fun k hk => hok.1 k (hp.mem_iff.mp hk)
  have l0 : ((deedsOf ns).map dOf).length = ns.length := by rw [List.length_map, deedsOf_len]
  have l1 : ((othersOf ns (deedsOf ns)).map dOf).length = ns.length := by rw [List.length_map, hp.length_eq, deedsOf_len]
  have t0 := congrArg List.length (taken_eq ((deedsOf ns).map dOf))
  have t1 := congrArg List.length (taken_eq ((othersOf ns (deedsOf ns)).map dOf))
  rw [← e0, List.length_map] at t0
  rw [← e1, List.length_map] at t1
  have tp := (hp.filter (fun d => decide (1 < d))).length_eq
  have k0 := D_len ((deedsOf ns).map dOf)
  have k1 := D_len ((othersOf ns (deedsOf ns)).map dOf)
  refine ⟨_, _, e0, e1, l0, l1, by have := hok.2; (first | lia | omega), by (first | lia | omega), by (first | lia | omega)⟩

/-- the two words -/
noncomputable def wdS (w : WW) (b : Bool) : Str := ⟨#[(w b).1, (w b).2]⟩
theorem sg_mem {k : Int} (h0 : 0 ≤ k) (h1 : k < 8) : sg k ∈ signs := by
  obtain ⟨n, rfl⟩ := Int.eq_ofNat_of_zero_le h0
  have : n < 8 := by (first | lia | omega)
  match n, this with
  | 0, _ | 1, _ | 2, _ | 3, _ | 4, _ | 5, _ | 6, _ | 7, _ => decide
theorem sg_inj {j k : Int} (h0 : 0 ≤ j) (h1 : j < 8) (g0 : 0 ≤ k) (g1 : k < 8) (e : sg j = sg k) : j = k := by
  obtain ⟨m, rfl⟩ := Int.eq_ofNat_of_zero_le h0
  obtain ⟨n, rfl⟩ := Int.eq_ofNat_of_zero_le g0
  have hm : m < 8 := by (first | lia | omega)
  have hn : n < 8 := by (first | lia | omega)
  have : ∀ m < 8, ∀ n < 8, sg (m : Nat) = sg (n : Nat) → m = n := by decide
  rw [this m hm n hn e]
theorem word_ne {n : Int} : word1 n ≠ word2 n := by
  unfold word2
  split
  · intro h
    have h8 := fm8 (n.fdiv 8)
    have g8 := fm8 (n.fdiv 8 + 1)
    have e : sg ((n.fdiv 8).fmod 8) = sg ((n.fdiv 8 + 1).fmod 8) := by
      have := congrArg (fun s : Str => s.cps[1]?) h
      simpa [word1] using this
    have := sg_inj h8.1 h8.2 g8.1 g8.2 e
    rw [Int.fmod_eq_emod_of_nonneg _ (by decide), Int.fmod_eq_emod_of_nonneg _ (by decide)] at this
    (first | lia | omega)
  · rename_i h
    intro e
    rw [← e] at h
    exact h (by simp)
theorem words_ok (n : Int) : ∃ w : WW, WOk w ∧ word1 n = wdS w false ∧ word2 n = wdS w true := by
  have key : ∀ a b c d : Nat, a ∈ signs → b ∈ signs → c ∈ signs → d ∈ signs → word1 n = ⟨#[a, b]⟩ → word2 n = ⟨#[c, d]⟩ → ∃ w : WW, WOk w ∧ word1 n = wdS w false ∧ word2 n = wdS w true := by
    intro a b c d ha hb hc hd h1 h2
    refine ⟨fun x => if x then (c, d) else (a, b), ⟨fun x => by cases x <;> assumption, fun x => by cases x <;> assumption, fun x y e => ?_⟩, h1, h2⟩
    have hne : (a, b) ≠ (c, d) := fun e => word_ne (n := n) (by rw [h1, h2]; cases e; rfl)
    cases x <;> cases y <;> first | rfl | exact absurd e hne | exact absurd e.symm hne
  have m := fun k : Int => sg_mem (fm8 k).1 (fm8 k).2
  by_cases h : (word2' n == word1 n) = true
  · exact key _ _ _ _ (m _) (m _) (m _) (m _) rfl (by unfold word2; rw [if_pos h])
  · exact key _ _ _ _ (m _) (m _) (m _) (m _) rfl (by unfold word2; rw [if_neg h]; rfl)

/-! ### texts -/
noncomputable def ssOf (w : WW) : List Str := [putOf (w false).1 (w false).2, putOf (w true).1 (w true).2, takeOf (w false).1 (w false).2, takeOf (w true).1 (w true).2]
theorem put_txt (a b : Nat) : putOf a b = txt (putL a b) := by unfold putOf txt putL; simp
theorem take_txt (a b : Nat) : takeOf a b = txt (takeL a b) := rfl
theorem ss_code (w : WW) (d : D) : (ssOf w).getD (code d).toNat "" = txt (encD w d) := by
  cases d with
  | p x => cases x <;> exact put_txt _ _
  | t x => cases x <;> rfl
theorem join_nil (l : List (List Nat)) : Txt.join "" (l.map txt) = txt l.flatten := by
  show glued _ _ = _
  rw [StrLaws.glued_eq_join]
  induction l with
  | nil => rfl
  | cons a l ih =>
    cases l with
    | nil => show txt a = _; simp
    | cons b l =>
      show txt a ++ "" ++ Str.join "" ((b :: l).map txt) = _
      rw [ih]
      have e : ("" : Str) = txt [] := by decide
      rw [e, txt_app', txt_app']; simp
theorem textOf_enc (w : WW) (ds : List D) : textOf (ssOf w) (ds.map code) = txt (enc w ds) := by
  unfold textOf
  have : (ds.map code).map (fun k => (ssOf w).getD k.toNat "") = (ds.map (encD w)).map txt := by
    rw [List.map_map, List.map_map]
    exact List.map_congr_left fun d _ => ss_code w d
  rw [this, join_nil]
  unfold enc
  rw [List.flatMap_def]
theorem rows_code : rowsTo 2 = rulesL.flatMap fun q => [(D.p q.1 :: q.2.1).map code, q.2.2.map code] := by decide
theorem pairs_eq (w : WW) : (rowsTo 2).map (textOf (ssOf w)) = pairsOf w rulesL := by
  rw [rows_code, List.map_flatMap]
  unfold pairsOf
  congr 1
  funext q
  show [textOf _ _, textOf _ _] = _
  rw [textOf_enc, textOf_enc]

/-! ### contents -/
noncomputable def rowS (w : WW) (c : List Bool) : List Str := c.map (wdS w)
theorem wdS_inj {w : WW} (hw : WOk w) {x y : Bool} (h : wdS w x = wdS w y) : x = y := by
  have h1 := congrArg (fun s : Str => s.cps[0]?) h
  have h2 := congrArg (fun s : Str => s.cps[1]?) h
  simp [wdS] at h1 h2
  exact hw.ne x y (Prod.ext h1 h2)
theorem rowS_inj {w : WW} (hw : WOk w) {a b : List Bool} (h : rowS w a = rowS w b) : a = b := (List.map_inj_right (fun x y e => wdS_inj hw e)).mp h
theorem longN_iff (w : WW) : ∀ n r, r ∈ longN [wdS w false, wdS w true] n ↔ ∃ c : List Bool, c.length = n ∧ r = rowS w c
  | 0, r => by
    simp only [longN, List.mem_singleton, List.length_eq_zero_iff]
    exact ⟨fun h => ⟨[], rfl, h⟩, fun ⟨c, h, e⟩ => by rw [e, h]; rfl⟩
  | n + 1, r => by
    simp only [longN, List.mem_flatMap, List.mem_map]
    constructor
    · rintro ⟨q, hq, x, hx, rfl⟩
      obtain ⟨c, hc, rfl⟩ := (longN_iff w n q).mp hq
      have : ∃ b, x = wdS w b := by
        simp at hx
        rcases hx with rfl | rfl
        · exact ⟨false, rfl⟩
        · exact ⟨true, rfl⟩
      obtain ⟨b, rfl⟩ := this
      exact ⟨c ++ [b], by simp [hc], by simp [rowS]⟩
    · rintro ⟨c, hc, rfl⟩
      have hne : c ≠ [] := by intro e; rw [e] at hc; simp at hc
      have e := List.dropLast_concat_getLast hne
      refine ⟨rowS w c.dropLast, (longN_iff w n _).mpr ⟨_, by simp [hc], rfl⟩, wdS w (c.getLast hne), ?_, ?_⟩
      · cases c.getLast hne <;> simp
      · show rowS w c.dropLast ++ [wdS w (c.getLast hne)] = rowS w c
        conv => rhs; rw [← e]
        simp [rowS]
theorem contN_iff (w : WW) : ∀ n r, r ∈ contN [wdS w false, wdS w true] n ↔ ∃ c : List Bool, c.length ≤ n ∧ r = rowS w c
  | 0, r => by
    have h := longN_iff w 0 r
    simp only [longN] at h
    simp only [contN, Nat.le_zero]
    exact h
  | n + 1, r => by
    simp only [contN, List.mem_append, contN_iff w n, longN_iff w (n + 1)]
    constructor
    · rintro (⟨c, h, e⟩ | ⟨c, h, e⟩)
      · exact ⟨c, by (first | lia | omega), e⟩
      · exact ⟨c, by (first | lia | omega), e⟩
    · rintro ⟨c, h, e⟩
      by_cases hc : c.length = n + 1
      · exact .inr ⟨c, hc, e⟩
      · exact .inl ⟨c, by (first | lia | omega), e⟩

/-! ### a program run -/
noncomputable def tokS (w : WW) (d : D) : Str := txt (tokD w d)
theorem tok_put (w : WW) (x : Bool) : tokS w (.p x) = wdS w x := rfl
theorem tok_take (w : WW) (x : Bool) : tokS w (.t x) = wdS w x ++ Str.ofString "-" := by
  have e : Str.ofString "-" = txt [45] := by decide
  rw [e]; exact (txt_app' [(w x).1, (w x).2] [45]).symm
theorem wdS_len (w : WW) (x : Bool) : (wdS w x).length = 2 := rfl
theorem runP_act {w : WW} (hw : WOk w) : ∀ (ds : List D) (c : List Bool), runP (ds.map (tokS w)) (rowS w c) = (act ds c).map (rowS w)
  | [], c => rfl
  | .p x :: ds, c => by
    rw [List.map_cons, runP_put (show (tokS w (.p x)).length = 2 from rfl)]
    have := runP_act hw ds (c ++ [x])
    rw [show rowS w (c ++ [x]) = rowS w c ++ [tokS w (.p x)] by simp [rowS, tok_put]] at this
    exact this
  | .t x :: ds, [] => runP_nil (show ¬ (tokS w (.t x)).length = 2 from fun h => absurd (show (3 : Nat) = 2 from h) (by decide))
  | .t x :: ds, y :: c => by
    show runP (tokS w (.t x) :: ds.map (tokS w)) (wdS w y :: rowS w c) = (if y = x then act ds c else none).map (rowS w)
    rw [runP_take (show ¬ (tokS w (.t x)).length = 2 from fun h => absurd (show (3 : Nat) = 2 from h) (by decide)), tok_take]
    by_cases h : y = x
    · subst h
      rw [if_pos rfl, if_pos rfl]
      exact runP_act hw ds c
    · rw [if_neg h, if_neg]
      · rfl
      · intro e
        have e' : (wdS w y).cps ++ (Str.ofString "-").cps = (wdS w x).cps ++ (Str.ofString "-").cps := congrArg Str.cps e
        exact h (wdS_inj hw (Str.ext' (Array.append_inj_left' e' rfl)))
theorem map_inj_opt {w : WW} (hw : WOk w) {a b : Option (List Bool)} (h : a.map (rowS w) = b.map (rowS w)) : a = b := by
  cases a with
  | none => cases b with
    | none => rfl
    | some b => cases h
  | some a => cases b with
    | none => cases h
    | some b => exact congrArg some (rowS_inj hw (Option.some.inj h))
end
-- Law5
section
open PySem PySem.W PyProof.Rows PySem.Builtin PySem.Builtin.Str
/-! ### what the law asks, in plain words -/
noncomputable def endsOf (w : WW) (ds : List D) (cs : List (List Str)) : List (Option (List Str)) := cs.map (runP (ds.map (tokS w)))
noncomputable def heldTo (cs : List (List Str)) (es : List (Option (List Str))) (k : Nat) : List Int := (((cs.zip es).take k).filter fun p => p.2.isSome).map fun p => (p.1.length : Int)
theorem heldTo_succ {cs : List (List Str)} {es : List (Option (List Str))} {k : Nat} {r : List Str} {o : Option (List Str)} (h1 : cs[k]? = some r) (h2 : es[k]? = some o) :
    heldTo cs es (k + 1) = heldTo cs es k ++ (if o.isSome = true then [(r.length : Int)] else []) := by
  unfold heldTo
  have e : (cs.zip es)[k]? = some (r, o) := by rw [List.getElem?_zip_eq_some]; exact ⟨h1, h2⟩
  rw [List.take_add_one, e, List.filter_append, List.map_append]
  congr 1
  cases o <;> simp
structure Asked (w : WW) (d0 d1 : List D) (T K P T' K' P' : List Bool) : Prop where
  hw : WOk w
  r0 : Red d0 (nfD T K P)
  r1 : Red d1 (nfD T' K' P')
  m : (takesD d1).length = (takesD d0).length
  m4 : (takesD d0).length ≤ 4
  l0 : d0.length ≤ 8
  l1 : d1.length ≤ 8
section
variable {w : WW} {d0 d1 : List D} {T K P T' K' P' : List Bool}
noncomputable abbrev contsOf (w : WW) (d0 : List D) : List (List Str) := contN [wdS w false, wdS w true] (takesD d0).length
theorem Asked.takes (H : Asked w d0 d1 T K P T' K' P') : takesD d0 = T ++ K := by rw [← H.r0.takes, takes_nf]
theorem Asked.puts (H : Asked w d0 d1 T K P T' K' P') : putsD d0 = K ++ P := by rw [← H.r0.puts, puts_nf]
theorem Asked.takes' (H : Asked w d0 d1 T K P T' K' P') : takesD d1 = T' ++ K' := by rw [← H.r1.takes, takes_nf]
theorem Asked.run0 (H : Asked w d0 d1 T K P T' K' P') (c : List Bool) : runP (d0.map (tokS w)) (rowS w c) = (act (nfD T K P) c).map (rowS w) := by rw [runP_act H.hw, H.r0.act]
theorem Asked.run1 (H : Asked w d0 d1 T K P T' K' P') (c : List Bool) : runP (d1.map (tokS w)) (rowS w c) = (act (nfD T' K' P') c).map (rowS w) := by rw [runP_act H.hw, H.r1.act]

theorem Asked.heldIff (H : Asked w d0 d1 T K P T' K' P') (a : Int) : a ∈ heldTo (contsOf w d0) (endsOf w d0 (contsOf w d0)) (contsOf w d0).length ↔
    ∃ c : List Bool, c.length ≤ (takesD d0).length ∧ (act (nfD T K P) c).isSome = true ∧ a = c.length := by
  unfold heldTo endsOf
  have hz : (contsOf w d0).zip ((contsOf w d0).map (runP (d0.map (tokS w)))) = (contsOf w d0).map fun r => (r, runP (d0.map (tokS w)) r) := by
    rw [List.zip_map_right, List.zip_eq_zipWith, List.zipWith_self, List.map_map]; rfl
  rw [List.take_of_length_le (by simp), hz]
  simp only [List.mem_map, List.mem_filter]
  constructor
  · rintro ⟨p, ⟨⟨r, hr, rfl⟩, hp⟩, rfl⟩
    obtain ⟨c, hc, rfl⟩ := (contN_iff w _ _).mp hr
    refine ⟨c, hc, ?_, by simp [rowS]⟩
    have hp' : (runP (d0.map (tokS w)) (rowS w c)).isSome = true := hp
    rw [H.run0] at hp'
    simpa using hp'
  · rintro ⟨c, hc, hs, rfl⟩
    refine ⟨(rowS w c, runP (d0.map (tokS w)) (rowS w c)), ⟨⟨rowS w c, (contN_iff w _ _).mpr ⟨c, hc, rfl⟩, rfl⟩, ?_⟩, by simp [rowS]⟩
    show (runP (d0.map (tokS w)) (rowS w c)).isSome = true
    rw [H.run0]; simpa using hs
theorem Asked.least (H : Asked w d0 d1 T K P T' K' P') : ((T.length : Nat) : Int) ∈ heldTo (contsOf w d0) (endsOf w d0 (contsOf w d0)) (contsOf w d0).length ∧
    ∀ a ∈ heldTo (contsOf w d0) (endsOf w d0 (contsOf w d0)) (contsOf w d0).length, ((T.length : Nat) : Int) ≤ a := by
  constructor
  · refine (H.heldIff _).mpr ⟨T, by rw [H.takes]; simp, ?_, rfl⟩
    rw [act_nf, if_pos ⟨Nat.le_refl _, by rw [← List.append_assoc, List.take_left' rfl]⟩]; rfl
  · intro a ha
    obtain ⟨c, _, hs, rfl⟩ := (H.heldIff a).mp ha
    rw [act_nf] at hs
    by_cases hc : T.length ≤ c.length ∧ (c ++ (K ++ P)).take (T ++ K).length = T ++ K
    · have := hc.1; (first | lia | omega)
    · rw [if_neg hc] at hs; cases hs

/-- the order that is asked of what is left -/
theorem nf_code (T K P : List Bool) : (nfD T K P).map code = T.map (fun x => code (.t x)) ++ (K.flatMap (fun x => [code (.p x), code (.t x)]) ++ P.map fun x => code (.p x)) := by
  unfold nfD
  rw [List.map_append, List.map_append, List.map_map, List.map_map, List.map_flatMap]
  rfl
theorem code_sub (x : Bool) : code (.t x) - 2 = code (.p x) := by cases x <;> rfl

/-- the end of a content -/
theorem Asked.end0 (H : Asked w d0 d1 T K P T' K' P') {r : List Str} (hr : r ∈ contsOf w d0) :
    runP (d0.map (tokS w)) r = if T.length ≤ r.length ∧ (r ++ rowS w (putsD d0)).take (rowS w (takesD d0)).length = rowS w (takesD d0) then some ((r ++ rowS w (putsD d0)).drop (rowS w (takesD d0)).length) else none := by
  obtain ⟨c, hc, rfl⟩ := (contN_iff w _ _).mp hr
  rw [H.run0, act_nf, H.takes, H.puts]
  have e1 : rowS w c ++ rowS w (K ++ P) = rowS w (c ++ (K ++ P)) := by unfold rowS; rw [← List.map_append]
  have e2 : (rowS w (T ++ K)).length = (T ++ K).length := by unfold rowS; rw [List.length_map]
  have e3 : (rowS w c).length = c.length := by unfold rowS; rw [List.length_map]
  rw [e1, e2, e3]
  have e4 : (rowS w (c ++ (K ++ P))).take (T ++ K).length = rowS w ((c ++ (K ++ P)).take (T ++ K).length) := by unfold rowS; rw [List.map_take]
  have e5 : (rowS w (c ++ (K ++ P))).drop (T ++ K).length = rowS w ((c ++ (K ++ P)).drop (T ++ K).length) := by unfold rowS; rw [List.map_drop]
  rw [e4, e5]
  by_cases h : T.length ≤ c.length ∧ (c ++ (K ++ P)).take (T ++ K).length = T ++ K
  · rw [if_pos h, if_pos ⟨h.1, by rw [h.2]⟩]; rfl
  · rw [if_neg h, if_neg (fun z => h ⟨z.1, rowS_inj H.hw z.2⟩)]; rfl

/-- the last line of the law -/
theorem Asked.last (H : Asked w d0 d1 T K P T' K' P') : (txt (enc w (nfD T K P)) = txt (enc w (nfD T' K' P'))) ↔ (endsOf w d0 (contsOf w d0) = endsOf w d1 (contsOf w d0)) := by
  constructor
  · intro h
    have e := enc_inj H.hw (txt_inj h)
    unfold endsOf
    refine List.map_congr_left fun r hr => ?_
    obtain ⟨c, hc, rfl⟩ := (contN_iff w _ _).mp hr
    rw [H.run0, H.run1, e]
  · intro h
    have hl : (T ++ K).length = (T' ++ K').length := by rw [← H.takes, ← H.takes', H.m]
    obtain ⟨rfl, rfl, rfl⟩ := nf_inj hl (P := P) (P' := P') fun c hc => by
      rw [← H.takes] at hc
      have hr : rowS w c ∈ contsOf w d0 := (contN_iff w _ _).mpr ⟨c, hc, rfl⟩
      have := List.map_inj_left.mp h _ hr
      rw [H.run0, H.run1] at this
      exact map_inj_opt H.hw this
    rfl
theorem strOk_wd (hw : WOk w) (x : Bool) : PyData.strOk (wdS w x) = true := by
  have hs : ∀ {a : Nat}, a ∈ signs → a < 1114112 := fun {a} h => by revert a; decide
  unfold PyData.strOk wdS
  simp [hs (hw.one x), hs (hw.two x)]
theorem strOk_row (hw : WOk w) (c : List Bool) : ∀ x ∈ rowS w c, PyData.strOk x = true := by
  intro x hx
  obtain ⟨b, _, rfl⟩ := List.mem_map.mp hx
  exact strOk_wd hw b
theorem Asked.okO (H : Asked w d0 d1 T K P T' K' P') : (∀ o ∈ endsOf w d0 (contsOf w d0), OkO o) ∧ ∀ o ∈ endsOf w d1 (contsOf w d0), OkO o := by
  constructor
  · intro o ho r hr
    obtain ⟨q, hq, rfl⟩ := List.mem_map.mp ho
    obtain ⟨c, hc, rfl⟩ := (contN_iff w _ _).mp hq
    rw [H.run0] at hr
    obtain ⟨b, _, rfl⟩ := Option.map_eq_some_iff.mp hr
    exact strOk_row H.hw b
  · intro o ho r hr
    obtain ⟨q, hq, rfl⟩ := List.mem_map.mp ho
    obtain ⟨c, hc, rfl⟩ := (contN_iff w _ _).mp hq
    rw [H.run1] at hr
    obtain ⟨b, _, rfl⟩ := Option.map_eq_some_iff.mp hr
    exact strOk_row H.hw b
end
end
-- Lw
section
open PySem PySem.W PyProof.Rows PyProof.V PySem.SeqAt
noncomputable def lawSeg (k : Nat) : Option (List Stmt) := match PySem.Challenge.pw_pg0041_01.main.body[15]? with
  | some (PySem.Stmt.FunctionDef _ _ body _ _ _ _ _ _ _) => some (body.drop k)
  | _ => none
noncomputable abbrev gnl : List (Str × NameKind) := [(Str.ofString "len", .globalImplicit), (Str.ofString "_law_words", .globalImplicit), (Str.ofString "_law_spelled", .globalImplicit), (Str.ofString "_law_pairs", .globalImplicit), (Str.ofString "_law_programs", .globalImplicit), (Str.ofString "_law_contents", .globalImplicit), (Str.ofString "_law_text", .globalImplicit), (Str.ofString "_law_read", .globalImplicit), (Str.ofString "_law_rest", .globalImplicit), (Str.ofString "zip", .globalImplicit), (Str.ofString "min", .globalImplicit)]
noncomputable abbrev lns : List (Str × NameKind) := [(Str.ofString "script", .local), (Str.ofString "numbers", .local), (Str.ofString "words", .cell), (Str.ofString "spelled", .local), (Str.ofString "pairs", .local), (Str.ofString "programs", .local), (Str.ofString "deed", .local), (Str.ofString "taken", .local), (Str.ofString "laid", .local), (Str.ofString "contents", .local), (Str.ofString "lefts", .local), (Str.ofString "ends", .local), (Str.ofString "deeds", .local), (Str.ofString "text", .local), (Str.ofString "told", .cell), (Str.ofString "due", .local), (Str.ofString "content", .local), (Str.ofString "end", .local), (Str.ofString "held", .local), (Str.ofString "least", .local), (Str.ofString "order", .local), (Str.ofString "puts", .local), (Str.ofString "takes", .local), (Str.ofString "row", .local), (Str.ofString "goes", .local),
  (Str.ofString "len", .globalImplicit), (Str.ofString "_law_words", .globalImplicit), (Str.ofString "_law_spelled", .globalImplicit), (Str.ofString "_law_pairs", .globalImplicit), (Str.ofString "_law_programs", .globalImplicit), (Str.ofString "_law_contents", .globalImplicit), (Str.ofString "_law_text", .globalImplicit), (Str.ofString "_law_read", .globalImplicit), (Str.ofString "_law_rest", .globalImplicit), (Str.ofString "zip", .globalImplicit), (Str.ofString "min", .globalImplicit)]

/-! ### every program has a normal form -/
theorem nf_exists : ∀ (n : Nat) (ds : List D), invD ds = n → ∃ T K P, Red ds (nfD T K P) := by
  intro n
  induction n using Nat.strongRecOn with
  | ind n ih =>
    intro ds hn
    by_cases h : ∃ l r u v, Rule l r ∧ ds = u ++ l ++ v
    · obtain ⟨l, r, u, v, hr, rfl⟩ := h
      have hlt := hr.lt u v
      obtain ⟨T, K, P, hred⟩ := ih _ (by rw [← hn]; exact hlt) (u ++ r ++ v) rfl
      exact ⟨T, K, P, (hr.red.ctx u v).trans hred⟩
    · obtain ⟨T, K, P, rfl⟩ := nf_of_irr ds (fun l r hr u v e => h ⟨l, r, u, v, hr, e⟩)
      exact ⟨T, K, P, .refl _⟩
theorem nf_unique {ds : List D} {T K P T' K' P' : List Bool} (h : Red ds (nfD T K P)) (h' : Red ds (nfD T' K' P')) : nfD T K P = nfD T' K' P' := by
  have e1 : takesD ds = T ++ K := by rw [← h.takes, takes_nf]
  have e2 : takesD ds = T' ++ K' := by rw [← h'.takes, takes_nf]
  obtain ⟨rfl, rfl, rfl⟩ := nf_inj (T := T) (K := K) (P := P) (T' := T') (K' := K') (P' := P') (by rw [← e1, ← e2]) (fun c _ => by rw [h.act, h'.act])
  rfl

section
variable {prog : Program} {w : World} {A : Around} {E : Value → Shared → Prop} {P : Params} {s₀ s : Shared} {B₀ : G} {env : Env} {ns : List (Str × NameKind)} {B : G} {vs : List (Option Value)} {os : List (Addr × AO)} {Q : Value → Shared → Prop} {x : Str} {t u : Tok}
theorem tail_opsT {value slice : Expr} {o i : Value} {T id : String} {ops : List Value} (hT : s.TypeIs o T)
    (hl : typeLookup (.type T) "__getitem__" = pure (some (.builtin id))) (h : wpAny (model prog w) A (getItem o i) Q E s)
    (hs : subscripted slice false o i = operate ops (getItem o i)) : wpAny (model prog w) A (subscriptTail value slice o i) Q E s := by
  unfold subscriptTail
  refine wpAny_bind ?_
  rw [getitemInPython_of_ne hT.not_modules]
  refine wpAny_bind (wpAny_specialOf hT hl ?_)
  have fin : wpAny (model prog w) A (subscripted slice false o i) (fun r s₃ => wpAny (model prog w) A (letTemporaryGo value o r >>= fun _ => pure r) Q E s₃) E s := by
    rw [hs]
    exact wpAny_operating (wpAny_mono h (fun r s₃ h₃ => wpAny_bind (wpAny_letTemporaryGo (wpAny_pure h₃))) fun _ _ x => x)
  first
    | exact wpAny_pure (wpAny_bind fin)
    | exact wpAny_bind (wpAny_pure (wpAny_bind fin))
    | exact wpAny_bind fin
theorem w_sliceT {value : Expr} {lower upper : Option Expr} {p : Pos} {l : Addr} {items : List Value} {vl vu : Value} {lo hi : Option Int} (W : Wd P s₀ B₀ env ns B s vs os) (hl : (AO.list items).Is s.heap.get? l) (pl : IsPart vl lo) (pu : IsPart vu hi)
    (hsz : items.length ≤ 100000) (h : ∀ D s', Wd P s₀ B₀ env ns B s' vs ((D, .list (slicePick items.toArray lo hi none).toList) :: os) → Q (.ref D) s') :
    wpAny (model prog w) A (subscriptTail value (.Slice lower upper none p) (.ref l) (.ref s.heap.objs.size)) Q E { s with heap := s.heap.push { cls := .type "slice", data := .fields #[vl, vu, .none] } } := by
  have W1 := W.keeps (keeps_push s { cls := .type "slice", data := .fields #[vl, vu, .none] } s.toks)
  have hl1 : (AO.list items).Is (s.heap.push { cls := .type "slice", data := .fields #[vl, vu, .none] }).get? l := hl.mono fun b o e => Heap.get?_push_of_some _ e
  refine tail_opsT (ops := [.ref s.heap.objs.size, .ref l]) (Heap.IsList.typeIs (s := { s with heap := s.heap.push { cls := .type "slice", data := .fields #[vl, vu, .none] } }) (AO.Is.isL (s := { s with heap := s.heap.push { cls := .type "slice", data := .fields #[vl, vu, .none] } }) hl1)) slot_list_getitem.lookup
    (wpAny_getItem_list_slice (AO.Is.isL (s := { s with heap := s.heap.push { cls := .type "slice", data := .fields #[vl, vu, .none] } }) hl1) (Heap.IsSliceOf.new ..) pl pu .none (by simp) ?_ (by rw [sizeLine_eq]; simp; (first | with_reducible assumption | exact Nat.le_of_ble_eq_true rfl | exact Nat.add_le_add_left (Nat.le_of_ble_eq_true rfl) _ | exact Nat.le_trans (by assumption) (Nat.le_of_ble_eq_true rfl) | exact Nat.lt_of_le_of_lt (by assumption) (Nat.le_of_ble_eq_true rfl) | exact Nat.le_trans (Nat.le_of_eq (by assumption)) (Nat.le_trans (by assumption) (Nat.le_of_ble_eq_true rfl)) | lia | omega))) rfl
  exact h _ _ (W1.push (t := s.toks) (x := .list (slicePick items.toArray lo hi none).toList) ⟨0, (Heap.get?_push_size _ rfl).trans (by simp)⟩)
theorem pick_to (items : List Value) (b : Nat) : (slicePick items.toArray none (some (b : Int)) none).toList = items.take b := by rw [slicePick_upto']
theorem pick_from (items : List Value) (a : Nat) : (slicePick items.toArray (some (a : Int)) none none).toList = items.drop a := by rw [slicePick_from']

theorem l_min {l : Addr} {us : List Value} {ks : List Int} (W : Wd P s₀ B₀ env ns B s vs os) (hh : A.handled = none) (hl : (AO.list us).Is s.heap.get? l) (hi : IntsAre us ks) (hne : 0 < ks.length)
    (h : ∀ M t s', Wd P s₀ B₀ env ns B s' vs os → M ∈ ks → (∀ a ∈ ks, M ≤ a) → Q (.int M t) s') : wpAny (model prog w) A (call (.builtin "min") [.ref l]) Q E s := by
  obtain ⟨xs, e⟩ := hi.allInts.items
  have hns : ks = xs.toList.map (·.1) := by rw [← hi.numsOf, ← nums_intItems, ← e]
  have hsz : 0 < xs.size := by
    have h3 := hne; rw [hns, List.length_map, Array.length_toList] at h3; exact h3
  have hl' := hl.isL
  rw [e] at hl'
  refine min_intList hh hl' hsz fun v h' tk hv hk => ?_
  obtain ⟨t, rfl⟩ := intItems_at hv
  obtain ⟨h1, h2⟩ := argBest_lt (numAt xs) (xs.size - 1)
  refine h _ t _ (W.keeps ⟨h', tk, rfl, hk⟩) ?_ fun a ha => ?_
  · rw [hns, numAt_eq]; exact getD_mem (by rw [List.length_map, Array.length_toList]; (first | with_reducible assumption | exact Nat.le_of_ble_eq_true rfl | exact Nat.add_le_add_left (Nat.le_of_ble_eq_true rfl) _ | exact Nat.le_trans (by assumption) (Nat.le_of_ble_eq_true rfl) | exact Nat.lt_of_le_of_lt (by assumption) (Nat.le_of_ble_eq_true rfl) | exact Nat.le_trans (Nat.le_of_eq (by assumption)) (Nat.le_trans (by assumption) (Nat.le_of_ble_eq_true rfl)) | lia | omega))
  · rw [hns] at ha
    obtain ⟨j, hj, rfl⟩ := mem_getD ha
    rw [List.length_map, Array.length_toList] at hj
    rw [← numAt_eq]; exact h2 j (by (first | with_reducible assumption | exact Nat.le_of_ble_eq_true rfl | exact Nat.add_le_add_left (Nat.le_of_ble_eq_true rfl) _ | exact Nat.le_trans (by assumption) (Nat.le_of_ble_eq_true rfl) | exact Nat.lt_of_le_of_lt (by assumption) (Nat.le_of_ble_eq_true rfl) | exact Nat.le_trans (Nat.le_of_eq (by assumption)) (Nat.le_trans (by assumption) (Nat.le_of_ble_eq_true rfl)) | lia | omega))

theorem w_mulS {n : Int} (W : Wd P s₀ B₀ env ns B s vs os) (hn : n = 0 ∨ n = 1) (h : ∀ t s', Wd P s₀ B₀ env ns B s' vs os → Q (.str (if n = 1 then x else Str.empty) t) s') : wpAny (model prog w) A (binaryOp .Mult (.str x t) (.int n u)) Q E s := by
  rcases hn with rfl | rfl
  · exact PySem.P.mul_str_none (by decide) (by decide) (h _ _ (W.toks _))
  · refine PySem.P.mul_str (by decide) (fun _ h => by simp at h) (fun _ h => by simp at h) ?_
    rw [if_neg (by decide), if_pos (by simp)]
    exact h _ _ (W.toks _)
theorem count_nl (l : List Nat) : (Txt.count (txt l) (Str.ofString "\n") : Int) = nl l := by
  have e : Str.ofString "\n" = ⟨#[10]⟩ := by decide
  rw [e, PyProof.Rows.count_is]
  have : ∀ l : List Nat, PySem.Spec.countIn (.str ⟨#[10]⟩) (l.map fun n => PyData.str ⟨#[n]⟩) = nl l := by
    intro l
    induction l with
    | nil => rfl
    | cons c l ih =>
      rw [List.map_cons, PySem.Spec.countIn, ih]
      unfold nl
      by_cases h : c = 10
      · subst h
        rw [if_pos (PyProof.Rows.same_iff.mpr rfl)]
        simp; (first | with_reducible assumption | exact Nat.le_of_ble_eq_true rfl | exact Nat.add_le_add_left (Nat.le_of_ble_eq_true rfl) _ | exact Nat.le_trans (by assumption) (Nat.le_of_ble_eq_true rfl) | exact Nat.lt_of_le_of_lt (by assumption) (Nat.le_of_ble_eq_true rfl) | exact Nat.le_trans (Nat.le_of_eq (by assumption)) (Nat.le_trans (by assumption) (Nat.le_of_ble_eq_true rfl)) | lia | omega)
      · rw [if_neg (fun q => h (by
          have := PyProof.Rows.same_iff.mp q
          simpa using this))]
        simp [h]
  have e2 : (txt l).cps.toList = l := by simp [txt]
  rw [e2]; exact this l
end
end
-- La
section
open PySem PySem.W PyProof.Rows PyProof.V PySem.SeqAt
structure FA (ww : WW) (d0 d1 : List D) (B : G) (wl spl pl gl a0 a1 tkl ldl ctl : Addr) : Prop where
  words : ∃ t1 t2, (AO.list [.str (wdS ww false) t1, .str (wdS ww true) t2]).Is B wl
  spelled : ∃ v, StrsAre v (ssOf ww) ∧ (AO.list v).Is B spl
  pairs : ∃ v, StrsAre v (pairsOf ww rulesL) ∧ (AO.list v).Is B pl
  progs : (AO.list [.ref a0, .ref a1]).Is B gl
  p0 : ∃ v, IntsAre v (d0.map code) ∧ (AO.list v).Is B a0
  p1 : ∃ v, IntsAre v (d1.map code) ∧ (AO.list v).Is B a1
  taken : ∃ v, IntsAre v ((takesD d0).map fun x => code (.t x)) ∧ (AO.list v).Is B tkl
  laid : ∃ v, IntsAre v ((putsD d0).map fun x => code (.p x)) ∧ (AO.list v).Is B ldl
  conts : ∃ v, LsAre StrsAre B v (contsOf ww d0) ∧ (AO.list v).Is B ctl
noncomputable def numsOf (script : List Int) : List Int := script.take 8 ++ [1672, 1, 6, 2, 1].drop (script.take 8).length
theorem ints_take {vs : List Value} {ns : List Int} (h : IntsAre vs ns) (k : Nat) : IntsAre (vs.take k) (ns.take k) := PyProof.Rows.IntsAre.take h k
theorem ints_drop {vs : List Value} {ns : List Int} (h : IntsAre vs ns) (k : Nat) : IntsAre (vs.drop k) (ns.drop k) := PyProof.Rows.IntsAre.drop h k

theorem nums_are {sv : List Value} {script : List Int} (hsv : IntsAre sv script) (t1 t2 t3 t4 t5 : Tok) : IntsAre (sv.take 8 ++ ([Value.int 1672 t1, Value.int 1 t2, Value.int 6 t3, Value.int 2 t4, Value.int 1 t5] : List Value).drop (sv.take 8).length) (numsOf script) := by
  unfold numsOf
  rw [ints_len (ints_take hsv 8)]
  exact ints_app (ints_take hsv 8) (ints_drop (.cons _ _ (.cons _ _ (.cons _ _ (.cons _ _ (.cons _ _ .nil))))) _)
theorem nums_len (script : List Int) : 5 ≤ (numsOf script).length ∧ (numsOf script).length ≤ 8 := by
  unfold numsOf
  rw [List.length_append, List.length_drop, List.length_take]
  show 5 ≤ _ + (5 - _) ∧ _ + (5 - _) ≤ 8
  (first | with_reducible assumption | exact Nat.le_of_ble_eq_true rfl | exact Nat.add_le_add_left (Nat.le_of_ble_eq_true rfl) _ | exact Nat.le_trans (by assumption) (Nat.le_of_ble_eq_true rfl) | exact Nat.lt_of_le_of_lt (by assumption) (Nat.le_of_ble_eq_true rfl) | exact Nat.le_trans (Nat.le_of_eq (by assumption)) (Nat.le_trans (by assumption) (Nat.le_of_ble_eq_true rfl)) | lia | omega)
theorem segA {prog : Program} {w : World} {A : Around} {E : Value → Shared → Prop} {s₀ s : Shared} {B₀ : G} {env : Env} {B : G} {Q : Flow → Shared → Prop} {k : Nat} {body : List Stmt} {scl cw ct : Addr} {sv : List Value} {script : List Int} {ww : WW} {d0 d1 : List D} {n0 : Int} {ntl : List Int}
    (hb : lawSeg 0 = some body) (hcells : env.cells = [(Str.ofString "told", ct), (Str.ofString "words", cw)]) (hsc : (AO.list sv).Is B scl) (hsv : IntsAre sv script) (hlen : script.length ≤ 63) (hA : AOk A (k + 13))
    (hns : numsOf script = n0 :: ntl) (hw : WOk ww) (hw1 : word1 (n0.fdiv 8) = wdS ww false) (hw2 : word2 (n0.fdiv 8) = wdS ww true) (hd0 : deedsOf (numsOf script) = d0.map code) (hd1 : othersOf (numsOf script) (deedsOf (numsOf script)) = d1.map code) (h4 : (takesD d0).length ≤ 4)
    (W : Wd w.params s₀ B₀ env lns B s [some (.ref scl), none, none, none, none, none, none, none, none, none, none, none, none, none, none, none, none, none, none, none, none, none, none, none, none] [(cw, .cell none), (ct, .cell none), (99, tab #[])])
    (h : ∀ B' s' rest nl wl spl pl gl a0 a1 tkl ldl ctl LF EN, Sub B B' → FA ww d0 d1 B' wl spl pl gl a0 a1 tkl ldl ctl → lawSeg 10 = some rest →
      Wd w.params s₀ B₀ env lns B' s' [some (.ref scl), some (.ref nl), none, some (.ref spl), some (.ref pl), some (.ref gl), none, some (.ref tkl), some (.ref ldl), some (.ref ctl), some (.ref LF), some (.ref EN), none, none, none, none, none, none, none, none, none, none, none, none, none]
        [(EN, .list []), (LF, .list []), (cw, .cell (some (.ref wl))), (ct, .cell none), (99, tab #[])] → wpAny (model prog w) A (execs rest env) Q E s') :
    wpAny (model prog w) A (execs body env) Q E s := by
  cases hb
  have hcw : env.cells.lookup (Str.ofString "words") = some cw := by rw [hcells]; rfl
  have hct : env.cells.lookup (Str.ofString "told") = some ct := by rw [hcells]; rfl
  -- numbers
  refine asgs ?_ ?_
  · rfl
  ((with_reducible refine' wpAny_BinOp ?_))
  ((with_reducible refine' Subscript_ ?_))
  ((((with_reducible refine' ev_local (by assumption) ?rd3 ?_); (case rd3 => ((with_reducible (repeat first | exact Rd.head | apply Rd.tail | (apply Rd.of; assumption))))))))
  refine wpAny_Slice (evalPart_none_step (evalPart_some_step ?_))
  ((((with_reducible refine' c_int (by assumption) ?_); intro _ _ _)))
  refine evalPart_none_step ?_
  rename Wd _ _ _ _ _ _ _ _ _ => W1
  refine w_sliceT (lo := none) (hi := some 8) W1 (W1.ofB hsc) .none (.int _ _) ?_ ?_
  · rw [ints_len hsv]; (first | with_reducible assumption | exact Nat.le_of_ble_eq_true rfl | exact Nat.add_le_add_left (Nat.le_of_ble_eq_true rfl) _ | exact Nat.le_trans (by assumption) (Nat.le_of_ble_eq_true rfl) | exact Nat.lt_of_le_of_lt (by assumption) (Nat.le_of_ble_eq_true rfl) | exact Nat.le_trans (Nat.le_of_eq (by assumption)) (Nat.le_trans (by assumption) (Nat.le_of_ble_eq_true rfl)) | lia | omega)
  intro D1 s2 W2
  have e8 : (slicePick sv.toArray none (some 8) none).toList = sv.take 8 := pick_to sv 8
  rw [e8] at W2
  clear W W1
  ((with_reducible refine' Subscript_ ?_))
  ((with_reducible refine' PyProof.Rows.List_ ?_))
  ((((with_reducible refine' args_c ?pa7 ?_); (case pa7 => rfl))))
  ((((with_reducible refine' c_int (by assumption) ?_); intro _ _ _)))
  ((((with_reducible refine' args_c ?pa9 ?_); (case pa9 => rfl))))
  ((((with_reducible refine' c_int (by assumption) ?_); intro _ _ _)))
  ((((with_reducible refine' args_c ?pa11 ?_); (case pa11 => rfl))))
  ((((with_reducible refine' c_int (by assumption) ?_); intro _ _ _)))
  ((((with_reducible refine' args_c ?pa13 ?_); (case pa13 => rfl))))
  ((((with_reducible refine' c_int (by assumption) ?_); intro _ _ _)))
  ((((with_reducible refine' args_c ?pa15 ?_); (case pa15 => rfl))))
  ((((with_reducible refine' c_int (by assumption) ?_); intro _ _ _)))
  ((with_reducible refine' PyProof.Rows.args_nil ?_))
  ((((with_reducible refine' new_list (by assumption) ?sz18 ?_); (case sz18 => exact Nat.le_of_ble_eq_true rfl); intro _ _ _)))
  rename Wd _ _ _ _ _ _ _ _ _ => W3
  clear W2
  refine wpAny_Slice (evalPart_some_step ?_)
  refine call_b W3 (by ((with_reducible (repeat first | exact Kd.head | apply Kd.tail)))) .len rfl ?_
  ((((with_reducible refine' args_c ?pa19 ?_); (case pa19 => rfl))))
  ((with_reducible refine' Subscript_ ?_))
  ((((with_reducible refine' ev_local (by assumption) ?rd21 ?_); (case rd21 => ((with_reducible (repeat first | exact Rd.head | apply Rd.tail | (apply Rd.of; assumption))))))))
  refine wpAny_Slice (evalPart_none_step (evalPart_some_step ?_))
  ((((with_reducible refine' c_int (by assumption) ?_); intro _ _ _)))
  refine evalPart_none_step ?_
  rename Wd _ _ _ _ _ _ _ _ _ => W4
  clear W3
  refine w_sliceT (lo := none) (hi := some 8) W4 (W4.ofB hsc) .none (.int _ _) ?_ ?_
  · rw [ints_len hsv]; (first | with_reducible assumption | exact Nat.le_of_ble_eq_true rfl | exact Nat.add_le_add_left (Nat.le_of_ble_eq_true rfl) _ | exact Nat.le_trans (by assumption) (Nat.le_of_ble_eq_true rfl) | exact Nat.lt_of_le_of_lt (by assumption) (Nat.le_of_ble_eq_true rfl) | exact Nat.le_trans (Nat.le_of_eq (by assumption)) (Nat.le_trans (by assumption) (Nat.le_of_ble_eq_true rfl)) | lia | omega)
  intro D3 s5 W5
  rw [e8] at W5
  clear W4
  ((with_reducible refine' PyProof.Rows.args_nil ?_))
  refine l_len W5 (W5.at mem_h) ?_ ?_
  · rw [List.length_take]; (first | with_reducible assumption | exact Nat.le_of_ble_eq_true rfl | exact Nat.add_le_add_left (Nat.le_of_ble_eq_true rfl) _ | exact Nat.le_trans (by assumption) (Nat.le_of_ble_eq_true rfl) | exact Nat.lt_of_le_of_lt (by assumption) (Nat.le_of_ble_eq_true rfl) | exact Nat.le_trans (Nat.le_of_eq (by assumption)) (Nat.le_trans (by assumption) (Nat.le_of_ble_eq_true rfl)) | lia | omega)
  intro t6 s6 W6
  clear W5
  refine evalPart_none_step (evalPart_none_step ?_)
  refine w_sliceT (lo := some ((sv.take 8).length : Int)) (hi := none) W6 (W6.at (mem_t mem_h)) (.int _ _) .none ?_ ?_
  · show 5 ≤ _; (first | with_reducible assumption | exact Nat.le_of_ble_eq_true rfl | exact Nat.add_le_add_left (Nat.le_of_ble_eq_true rfl) _ | exact Nat.le_trans (by assumption) (Nat.le_of_ble_eq_true rfl) | exact Nat.lt_of_le_of_lt (by assumption) (Nat.le_of_ble_eq_true rfl) | exact Nat.le_trans (Nat.le_of_eq (by assumption)) (Nat.le_trans (by assumption) (Nat.le_of_ble_eq_true rfl)) | lia | omega)
  intro D4 s7 W7
  rw [pick_from] at W7
  clear W6
  refine w_addL W7 (W7.at (mem_t (mem_t (mem_t mem_h)))) (W7.at mem_h) ?_ (fun nl s8 W8 => ?_)
  · have : (sv.take 8).length ≤ 8 := by rw [List.length_take]; (first | with_reducible assumption | exact Nat.le_of_ble_eq_true rfl | exact Nat.add_le_add_left (Nat.le_of_ble_eq_true rfl) _ | exact Nat.le_trans (by assumption) (Nat.le_of_ble_eq_true rfl) | exact Nat.lt_of_le_of_lt (by assumption) (Nat.le_of_ble_eq_true rfl) | exact Nat.le_trans (Nat.le_of_eq (by assumption)) (Nat.le_trans (by assumption) (Nat.le_of_ble_eq_true rfl)) | lia | omega)
    rw [List.length_drop, sizeLine_eq]
    show _ + (5 - _) ≤ _
    (first | with_reducible assumption | exact Nat.le_of_ble_eq_true rfl | exact Nat.add_le_add_left (Nat.le_of_ble_eq_true rfl) _ | exact Nat.le_trans (by assumption) (Nat.le_of_ble_eq_true rfl) | exact Nat.lt_of_le_of_lt (by assumption) (Nat.le_of_ble_eq_true rfl) | exact Nat.le_trans (Nat.le_of_eq (by assumption)) (Nat.le_trans (by assumption) (Nat.le_of_ble_eq_true rfl)) | lia | omega)
  clear W7
  ((((with_reducible refine' st_local (by assumption) ?wr24 ?_); (case wr24 => ((with_reducible (repeat first | exact Wr.head | apply Wr.tail | (apply Wr.of; assumption))))); intro _ _)))
  rename_i s9 W9
  clear W8
  have W9 := W9.drop (os' := [(nl, _), (cw, .cell none), (ct, .cell none), (99, tab #[])]) (.cons_cons _ (.cons _ (.cons _ (.cons _ (.cons _ (.refl _))))))
  refine Wd.freezeC W9 fun B1 k1 i1 W10 => ?_
  have hN : ∃ v, IntsAre v (numsOf script) ∧ (AO.list v).Is B1 nl := ⟨_, nums_are hsv _ _ _ _ _, i1⟩
  clear W9 i1
  obtain ⟨nv, hnv, hnl⟩ := hN
  obtain ⟨tn, hn0⟩ := ints_at hnv (k := 0) (n := n0) (by rw [hns]; rfl)
  -- words
  refine asgs ?_ ?_
  · rfl
  refine call_g W10 (by ((with_reducible (repeat first | exact Kd.head | apply Kd.tail)))) .words rfl rfl rfl ?_
  ((((with_reducible refine' args_c ?pa25 ?_); (case pa25 => rfl))))
  ((with_reducible refine' wpAny_BinOp ?_))
  ((with_reducible refine' Subscript_ ?_))
  ((((with_reducible refine' ev_local (by assumption) ?rd28 ?_); (case rd28 => ((with_reducible (repeat first | exact Rd.head | apply Rd.tail | (apply Rd.of; assumption))))))))
  ((((with_reducible refine' c_int (by assumption) ?_); intro _ _ _)))
  refine sub_list (k := 0) rfl (AO.Is.mono hnl (Wd.keep (by assumption))) (by decide) (by decide) hn0 ?_
  ((((with_reducible refine' c_int (by assumption) ?_); intro _ _ _)))
  rename Wd _ _ _ _ _ _ _ _ _ => W11
  refine w_div W11 (by decide) ?_
  intro t12 s12 W12
  clear W10 W11
  ((with_reducible refine' PyProof.Rows.args_nil ?_))
  refine ⟨W12.st, words_spec (n := k) W12.st (hA.less (by (first | with_reducible assumption | exact Nat.le_of_ble_eq_true rfl | exact Nat.add_le_add_left (Nat.le_of_ble_eq_true rfl) _ | exact Nat.le_trans (by assumption) (Nat.le_of_ble_eq_true rfl) | exact Nat.lt_of_le_of_lt (by assumption) (Nat.le_of_ble_eq_true rfl) | exact Nat.le_trans (Nat.le_of_eq (by assumption)) (Nat.le_trans (by assumption) (Nat.le_of_ble_eq_true rfl)) | lia | omega))) (fun wl t1 t2 s13 hk13 hnew13 hwl => ?_)⟩
  rw [hw1, hw2] at hwl
  have W13 := W12.add hk13 hwl hnew13
  clear W12
  refine st_cell W13 (by ((with_reducible (repeat first | exact Kd.head | apply Kd.tail)))) hcw (.tail .head) (fun s14 W14 => ?_)
  clear W13
  refine Wd.freezeC W14 fun B2 k2 i2 W15 => ?_
  clear W14
  -- spelled
  show wpAny _ _ (execs _ env) _ _ _
  refine asgs ?_ ?_
  · rfl
  refine call_g W15 (by ((with_reducible (repeat first | exact Kd.head | apply Kd.tail)))) .spelled rfl rfl rfl ?_
  ((((with_reducible refine' args_c ?pa32 ?_); (case pa32 => rfl))))
  refine ev_cell W15 (by ((with_reducible (repeat first | exact Kd.head | apply Kd.tail)))) hcw (W15.at mem_h) ?_
  ((with_reducible refine' PyProof.Rows.args_nil ?_))
  refine ⟨W15.st, spelled_spec (n := k) W15.st (hA.less (by (first | with_reducible assumption | exact Nat.le_of_ble_eq_true rfl | exact Nat.add_le_add_left (Nat.le_of_ble_eq_true rfl) _ | exact Nat.le_trans (by assumption) (Nat.le_of_ble_eq_true rfl) | exact Nat.lt_of_le_of_lt (by assumption) (Nat.le_of_ble_eq_true rfl) | exact Nat.le_trans (Nat.le_of_eq (by assumption)) (Nat.le_trans (by assumption) (Nat.le_of_ble_eq_true rfl)) | lia | omega))) (hw.one false) (hw.two false) (hw.one true) (hw.two true) (W15.ofB i2) (fun spl spv s16 hk16 hnew16 hspv hspl => ?_)⟩
  replace hspv : StrsAre spv (ssOf ww) := hspv
  have W16 := W15.add hk16 hspl hnew16
  clear W15
  ((((with_reducible refine' st_local (by assumption) ?wr34 ?_); (case wr34 => ((with_reducible (repeat first | exact Wr.head | apply Wr.tail | (apply Wr.of; assumption))))); intro _ _)))
  rename_i s17 W17
  clear W16
  refine Wd.freezeC W17 fun B3 k3 i3 W18 => ?_
  clear W17
  -- pairs
  refine asgs ?_ ?_
  · rfl
  refine call_g W18 (by ((with_reducible (repeat first | exact Kd.head | apply Kd.tail)))) .pairs rfl rfl rfl ?_
  ((((with_reducible refine' args_c ?pa35 ?_); (case pa35 => rfl))))
  ((((with_reducible refine' ev_local (by assumption) ?rd36 ?_); (case rd36 => ((with_reducible (repeat first | exact Rd.head | apply Rd.tail | (apply Rd.of; assumption))))))))
  ((with_reducible refine' PyProof.Rows.args_nil ?_))
  have hss : ∀ x ∈ ssOf ww, x.length ≤ 100 := by
    intro x hx
    simp only [ssOf, List.mem_cons, List.not_mem_nil, or_false] at hx
    rcases hx with rfl | rfl | rfl | rfl
    · rw [put_txt, txt_len]; have := encD_len ww (.p false); exact Nat.le_trans this (by decide)
    · rw [put_txt, txt_len]; have := encD_len ww (.p true); exact Nat.le_trans this (by decide)
    · show 9 ≤ 100; decide
    · show 9 ≤ 100; decide
  refine ⟨W18.st, pairs_spec (n := k) W18.st (hA.less (by (first | with_reducible assumption | exact Nat.le_of_ble_eq_true rfl | exact Nat.add_le_add_left (Nat.le_of_ble_eq_true rfl) _ | exact Nat.le_trans (by assumption) (Nat.le_of_ble_eq_true rfl) | exact Nat.lt_of_le_of_lt (by assumption) (Nat.le_of_ble_eq_true rfl) | exact Nat.le_trans (Nat.le_of_eq (by assumption)) (Nat.le_trans (by assumption) (Nat.le_of_ble_eq_true rfl)) | lia | omega))) (W18.ofB i3) hspv rfl hss (fun pl pv s19 hk19 hnew19 hpv hpl => ?_)⟩
  rw [pairs_eq] at hpv
  have W19 := W18.add hk19 hpl hnew19
  clear W18
  ((((with_reducible refine' st_local (by assumption) ?wr38 ?_); (case wr38 => ((with_reducible (repeat first | exact Wr.head | apply Wr.tail | (apply Wr.of; assumption))))); intro _ _)))
  rename_i s20 W20
  clear W19
  refine Wd.freezeC W20 fun B4 k4 i4 W21 => ?_
  clear W20
  -- programs
  refine asgs ?_ ?_
  · rfl
  refine call_g W21 (by ((with_reducible (repeat first | exact Kd.head | apply Kd.tail)))) .programs rfl rfl rfl ?_
  ((((with_reducible refine' args_c ?pa39 ?_); (case pa39 => rfl))))
  ((((with_reducible refine' ev_local (by assumption) ?rd40 ?_); (case rd40 => ((with_reducible (repeat first | exact Rd.head | apply Rd.tail | (apply Rd.of; assumption))))))))
  ((with_reducible refine' PyProof.Rows.args_nil ?_))
  have hnl21 := (((hnl.mono k2).mono k3).mono k4)
  have hnn := nums_len script
  refine ⟨W21.st, programs_spec (n := k) W21.st (hA.less (by (first | with_reducible assumption | exact Nat.le_of_ble_eq_true rfl | exact Nat.add_le_add_left (Nat.le_of_ble_eq_true rfl) _ | exact Nat.le_trans (by assumption) (Nat.le_of_ble_eq_true rfl) | exact Nat.lt_of_le_of_lt (by assumption) (Nat.le_of_ble_eq_true rfl) | exact Nat.le_trans (Nat.le_of_eq (by assumption)) (Nat.le_trans (by assumption) (Nat.le_of_ble_eq_true rfl)) | lia | omega))) (W21.ofB hnl21) hnv (by (first | with_reducible assumption | exact Nat.le_of_ble_eq_true rfl | exact Nat.add_le_add_left (Nat.le_of_ble_eq_true rfl) _ | exact Nat.le_trans (by assumption) (Nat.le_of_ble_eq_true rfl) | exact Nat.lt_of_le_of_lt (by assumption) (Nat.le_of_ble_eq_true rfl) | exact Nat.le_trans (Nat.le_of_eq (by assumption)) (Nat.le_trans (by assumption) (Nat.le_of_ble_eq_true rfl)) | lia | omega)) (by (first | with_reducible assumption | exact Nat.le_of_ble_eq_true rfl | exact Nat.add_le_add_left (Nat.le_of_ble_eq_true rfl) _ | exact Nat.le_trans (by assumption) (Nat.le_of_ble_eq_true rfl) | exact Nat.lt_of_le_of_lt (by assumption) (Nat.le_of_ble_eq_true rfl) | exact Nat.le_trans (Nat.le_of_eq (by assumption)) (Nat.le_trans (by assumption) (Nat.le_of_ble_eq_true rfl)) | lia | omega)) (fun gl a0 a1 dv ov s22 hk22 hn1 hn2 hn3 hgl ha0 hdv ha1 hov => ?_)⟩
  rw [hd0] at hdv
  rw [hd1] at hov
  have W22k := W21.keeps hk22
  have hg : ∃ B5, Sub B4 B5 ∧ (AO.list [.ref a0, .ref a1]).Is B5 gl ∧ (AO.list dv).Is B5 a0 ∧ (AO.list ov).Is B5 a1 ∧ Wd w.params s₀ B₀ env lns B5 s22 [some (.ref scl), some (.ref nl), none, some (.ref spl), some (.ref pl), none, none, none, none, none, none, none, none, none, none, none, none, none, none, none, none, none, none, none, none] [(cw, .cell (some (.ref wl))), (ct, .cell none), (99, tab #[])] :=
    ⟨_, W22k.rebase.1, hide_new hgl (W21.not_in hn1), hide_new ha0 (W21.not_in hn2), hide_new ha1 (W21.not_in hn3), W22k.rebase.2⟩
  clear W22k W21 hgl ha0 ha1
  obtain ⟨B5, k5, hgl, ha0, ha1, W22⟩ := hg
  ((((with_reducible refine' st_local (by assumption) ?wr42 ?_); (case wr42 => ((with_reducible (repeat first | exact Wr.head | apply Wr.tail | (apply Wr.of; assumption))))); intro _ _)))
  rename_i s23 W23
  clear W22
  have two : ∀ y ∈ ([(Str.ofString ".0", .local), (Str.ofString "deed", .local)] : List (Str × NameKind)), y.2 = .local → ([(Str.ofString ".0", .local), (Str.ofString "deed", .local)] : List (Str × NameKind)).lookup y.1 = some .local := by decide
  have hdl : dv.length ≤ 100000 := by
    rw [ints_len hdv, ← hd0, deedsOf_len]; (first | with_reducible assumption | exact Nat.le_of_ble_eq_true rfl | exact Nat.add_le_add_left (Nat.le_of_ble_eq_true rfl) _ | exact Nat.le_trans (by assumption) (Nat.le_of_ble_eq_true rfl) | exact Nat.lt_of_le_of_lt (by assumption) (Nat.le_of_ble_eq_true rfl) | exact Nat.le_trans (Nat.le_of_eq (by assumption)) (Nat.le_trans (by assumption) (Nat.le_of_ble_eq_true rfl)) | lia | omega)
  -- taken
  refine wpAny_execs_cons (ex_comp (cl := []) (swaps W23 (by ((with_reducible (repeat first | exact Kd.head | apply Kd.tail)))) rfl (by decide)) (closureFor_none (by decide)) rfl two ?_ ?_)
  · ((with_reducible refine' Subscript_ ?_))
    ((((with_reducible refine' ev_local (by assumption) ?rd44 ?_); (case rd44 => ((with_reducible (repeat first | exact Rd.head | apply Rd.tail | (apply Rd.of; assumption))))))))
    ((((with_reducible refine' c_int (by assumption) ?_); intro _ _ _)))
    rename_i tz s24 W24
    refine sub_list (k := 0) rfl (W24.ofB hgl) (by decide) (by decide) rfl ?_
    clear W23
    refine comp_used (fun j _ ys => IntsAre ys (((d0.map code).take j).filter fun d => decide (1 < d))) (vsx := fun v => [none, some v]) (vs' := fun v => [some (.ref scl), some (.ref nl), none, some (.ref spl), some (.ref pl), some (.ref gl), none, some v, none, none, none, none, none, none, none, none, none, none, none, none, none, none, none, none, none]) (cns := [(Str.ofString ".0", .local), (Str.ofString "deed", .local)]) hA.handled W24 (W24.ofB ha0)
      hdl rfl (by decide) rfl (by decide) (by decide) (fun v => .tail .head) (fun v => by ((with_reducible (repeat first | exact Wr.head | apply Wr.tail | (apply Wr.of; assumption))))) .nil ?_ ?_
    · rintro j v cenv I D' B'' s'' ys hv' hφ' hys hB' - W2
      obtain ⟨d, td, rfl, hdd⟩ := ints_get hdv hv'
      have e : ((d0.map code).take (j + 1)).filter (fun d => decide (1 < d)) = ((d0.map code).take j).filter (fun d => decide (1 < d)) ++ (if 1 < d then [d] else []) := by
        rw [List.take_add_one, hdd, List.filter_append]
        simp [List.filter_cons]
      refine wpAny_tests_one ?_
      dsimp only at W2
      ((((with_reducible refine' test1 ?nm46 ?_); (case nm46 => rfl))); (((with_reducible refine' ev_local (by assumption) ?rd47 ?_); (case rd47 => ((with_reducible (repeat first | exact Rd.head | apply Rd.tail | (apply Rd.of; assumption))))))); (((with_reducible refine' c_int (by assumption) ?_); intro _ _ _)); (with_reducible refine' w_gt ?_); (with_reducible refine' tr_bool ?_))
      by_cases hdq : 1 < d
      · refine .inr ⟨by simpa using hdq, ?_⟩
        ((((with_reducible refine' ev_local (by assumption) ?rd51 ?_); (case rd51 => ((with_reducible (repeat first | exact Rd.head | apply Rd.tail | (apply Rd.of; assumption))))))))
        refine ⟨B'', _, hB', ?_, by assumption⟩
        show IntsAre _ _
        rw [e, if_pos hdq]
        exact ints_snoc hφ' _ _
      · refine .inl ⟨by simpa using hdq, B'', _, hB', ?_, by assumption⟩
        show IntsAre _ _
        rw [e, if_neg hdq, List.append_nil]
        exact hφ'
    · intro tkl s25 B6' B6 tkv htk k6 _ W25
      rw [ints_len hdv, List.take_of_length_le (Nat.le_refl _), taken_eq] at htk
      refine Wd.freezeC W25 fun B7 k7 i7 W26 => ?_
      clear W24 W25
      show wpAny _ _ (execs _ env) _ _ _
      have hgl7 := (hgl.mono k6).mono k7
      have ha07 := (ha0.mono k6).mono k7
      refine wpAny_execs_cons (ex_comp (cl := []) (swaps W26 (by ((with_reducible (repeat first | exact Kd.head | apply Kd.tail)))) rfl (by decide)) (closureFor_none (by decide)) rfl two ?_ ?_)
      · ((with_reducible refine' Subscript_ ?_))
        ((((with_reducible refine' ev_local (by assumption) ?rd53 ?_); (case rd53 => ((with_reducible (repeat first | exact Rd.head | apply Rd.tail | (apply Rd.of; assumption))))))))
        ((((with_reducible refine' c_int (by assumption) ?_); intro _ _ _)))
        rename_i tz2 s27 W27
        refine sub_list (k := 0) rfl (W27.ofB hgl7) (by decide) (by decide) rfl ?_
        clear W26
        refine comp_used (fun j _ ys => IntsAre ys (((d0.map code).take j).filter fun d => decide (d < 2))) (vsx := fun v => [none, some v]) (vs' := fun v => [some (.ref scl), some (.ref nl), none, some (.ref spl), some (.ref pl), some (.ref gl), none, some (.ref tkl), some v, none, none, none, none, none, none, none, none, none, none, none, none, none, none, none, none]) (cns := [(Str.ofString ".0", .local), (Str.ofString "deed", .local)]) hA.handled W27 (W27.ofB ha07)
          hdl rfl (by decide) rfl (by decide) (by decide) (fun v => .tail .head) (fun v => by ((with_reducible (repeat first | exact Wr.head | apply Wr.tail | (apply Wr.of; assumption))))) .nil ?_ ?_
        · rintro j v cenv I D' B'' s'' ys hv' hφ' hys hB' - W2
          obtain ⟨d, td, rfl, hdd⟩ := ints_get hdv hv'
          have e : ((d0.map code).take (j + 1)).filter (fun d => decide (d < 2)) = ((d0.map code).take j).filter (fun d => decide (d < 2)) ++ (if d < 2 then [d] else []) := by
            rw [List.take_add_one, hdd, List.filter_append]
            simp [List.filter_cons]
          refine wpAny_tests_one ?_
          dsimp only at W2
          ((((with_reducible refine' test1 ?nm55 ?_); (case nm55 => rfl))); (((with_reducible refine' ev_local (by assumption) ?rd56 ?_); (case rd56 => ((with_reducible (repeat first | exact Rd.head | apply Rd.tail | (apply Rd.of; assumption))))))); (((with_reducible refine' c_int (by assumption) ?_); intro _ _ _)); (with_reducible refine' w_lt ?_); (with_reducible refine' tr_bool ?_))
          by_cases hdq : d < 2
          · refine .inr ⟨by simpa using hdq, ?_⟩
            ((((with_reducible refine' ev_local (by assumption) ?rd60 ?_); (case rd60 => ((with_reducible (repeat first | exact Rd.head | apply Rd.tail | (apply Rd.of; assumption))))))))
            refine ⟨B'', _, hB', ?_, by assumption⟩
            show IntsAre _ _
            rw [e, if_pos hdq]
            exact ints_snoc hφ' _ _
          · refine .inl ⟨by simpa using hdq, B'', _, hB', ?_, by assumption⟩
            show IntsAre _ _
            rw [e, if_neg hdq, List.append_nil]
            exact hφ'
        · intro ldl s28 B8' B8 ldv hld k8 _ W28
          rw [ints_len hdv, List.take_of_length_le (Nat.le_refl _), laid_eq] at hld
          refine Wd.freezeC W28 fun B9 k9 i9 W29 => ?_
          clear W27 W28
          have i7' := (i7.mono k8).mono k9
          have hwl9 := (((((((i2.mono k3).mono k4).mono k5).mono k6).mono k7).mono k8).mono k9)
          show wpAny _ _ (execs _ env) _ _ _
          -- contents
          refine asgs ?_ ?_
          · rfl
          refine call_g W29 (by ((with_reducible (repeat first | exact Kd.head | apply Kd.tail)))) .contents rfl rfl rfl ?_
          ((((with_reducible refine' args_c ?pa61 ?_); (case pa61 => rfl))))
          refine ev_cell W29 (by ((with_reducible (repeat first | exact Kd.head | apply Kd.tail)))) hcw (W29.at mem_h) ?_
          ((((with_reducible refine' args_c ?pa62 ?_); (case pa62 => rfl))))
          refine call_b W29 (by ((with_reducible (repeat first | exact Kd.head | apply Kd.tail)))) .len rfl ?_
          ((((with_reducible refine' args_c ?pa63 ?_); (case pa63 => rfl))))
          ((((with_reducible refine' ev_local (by assumption) ?rd64 ?_); (case rd64 => ((with_reducible (repeat first | exact Rd.head | apply Rd.tail | (apply Rd.of; assumption))))))))
          ((with_reducible refine' PyProof.Rows.args_nil ?_))
          have htkl : tkv.length = (takesD d0).length := by rw [ints_len htk, List.length_map]
          refine l_len W29 (W29.ofB i7') (by (first | with_reducible assumption | exact Nat.le_of_ble_eq_true rfl | exact Nat.add_le_add_left (Nat.le_of_ble_eq_true rfl) _ | exact Nat.le_trans (by assumption) (Nat.le_of_ble_eq_true rfl) | exact Nat.lt_of_le_of_lt (by assumption) (Nat.le_of_ble_eq_true rfl) | exact Nat.le_trans (Nat.le_of_eq (by assumption)) (Nat.le_trans (by assumption) (Nat.le_of_ble_eq_true rfl)) | lia | omega)) ?_
          intro t30 s30 W30
          clear W29
          rw [htkl]
          ((with_reducible refine' PyProof.Rows.args_nil ?_))
          refine ⟨W30.st, contents_spec (n := k) (ws := [wdS ww false, wdS ww true]) W30.st (hA.less (by (first | with_reducible assumption | exact Nat.le_of_ble_eq_true rfl | exact Nat.add_le_add_left (Nat.le_of_ble_eq_true rfl) _ | exact Nat.le_trans (by assumption) (Nat.le_of_ble_eq_true rfl) | exact Nat.lt_of_le_of_lt (by assumption) (Nat.le_of_ble_eq_true rfl) | exact Nat.le_trans (Nat.le_of_eq (by assumption)) (Nat.le_trans (by assumption) (Nat.le_of_ble_eq_true rfl)) | lia | omega))) (W30.ofB hwl9) (.cons _ _ (.cons _ _ .nil)) rfl h4 (fun ctl cv s31 hk31 hnew31 hctl hcv hcn => ?_)⟩
          have W31k := W30.keeps hk31
          have hg : ∃ B10, Sub B9 B10 ∧ (AO.list cv).Is B10 ctl ∧ LsAre StrsAre B10 cv (contsOf ww d0) ∧ Wd w.params s₀ B₀ env lns B10 s31 [some (.ref scl), some (.ref nl), none, some (.ref spl), some (.ref pl), some (.ref gl), none, some (.ref tkl), some (.ref ldl), none, none, none, none, none, none, none, none, none, none, none, none, none, none, none, none] [(cw, .cell (some (.ref wl))), (ct, .cell none), (99, tab #[])] :=
            ⟨_, W31k.rebase.1, hide_new hctl (W30.not_in hnew31), hcv.up (g := s30.heap.get?) (fun a ha => (hcn a ha).1) (fun b y hy hb => hide_new hy (W30.not_in hb)), W31k.rebase.2⟩
          clear W31k W30 hctl hcv
          obtain ⟨B10, k10, hctl, hcv, W31⟩ := hg
          ((((with_reducible refine' st_local (by assumption) ?wr67 ?_); (case wr67 => ((with_reducible (repeat first | exact Wr.head | apply Wr.tail | (apply Wr.of; assumption))))); intro _ _)))
          rename_i s32 W32
          clear W31
          ((((with_reducible refine' asgs ?nc68 ?_); (case nc68 => rfl))))
          ((with_reducible refine' PyProof.Rows.List_ ?_))
          ((with_reducible refine' PyProof.Rows.args_nil ?_))
          ((((with_reducible refine' new_list (by assumption) ?sz71 ?_); (case sz71 => exact Nat.le_of_ble_eq_true rfl); intro _ _ _)))
          ((((with_reducible refine' st_local (by assumption) ?wr72 ?_); (case wr72 => ((with_reducible (repeat first | exact Wr.head | apply Wr.tail | (apply Wr.of; assumption))))); intro _ _)))
          ((((with_reducible refine' asgs ?nc73 ?_); (case nc73 => rfl))))
          ((with_reducible refine' PyProof.Rows.List_ ?_))
          ((with_reducible refine' PyProof.Rows.args_nil ?_))
          ((((with_reducible refine' new_list (by assumption) ?sz76 ?_); (case sz76 => exact Nat.le_of_ble_eq_true rfl); intro _ _ _)))
          ((((with_reducible refine' st_local (by assumption) ?wr77 ?_); (case wr77 => ((with_reducible (repeat first | exact Wr.head | apply Wr.tail | (apply Wr.of; assumption))))); intro _ _)))
          rename Wd _ _ _ _ _ _ _ _ _ => W33
          have up3 := ((((k4.trans k5).trans k6).trans k7).trans k8).trans (k9.trans k10)
          refine h B10 _ _ nl wl spl pl gl a0 a1 tkl ldl ctl _ _ ?_ ?_ rfl W33
          · exact (((k1.trans k2).trans k3).trans k4).trans ((k5.trans k6).trans ((k7.trans k8).trans (k9.trans k10)))
          · exact ⟨⟨_, _, hwl9.mono k10⟩, ⟨_, hspv, i3.mono up3⟩, ⟨_, hpv, i4.mono ((((k5.trans k6).trans k7).trans k8).trans (k9.trans k10))⟩, hgl7.mono ((k8.trans k9).trans k10), ⟨_, hdv, ha07.mono ((k8.trans k9).trans k10)⟩,
              ⟨_, hov, ha1.mono (((k6.trans k7).trans k8).trans (k9.trans k10))⟩, ⟨_, htk, i7'.mono k10⟩, ⟨_, hld, i9.mono k10⟩, ⟨_, hcv, hctl⟩⟩
      · intro _; rfl
  · intro _; rfl
end
-- Lb
section
open PySem PySem.W PyProof.Rows PyProof.V PySem.SeqAt
theorem FA.mono {ww : WW} {d0 d1 : List D} {B B' : G} {wl spl pl gl a0 a1 tkl ldl ctl : Addr} (h : FA ww d0 d1 B wl spl pl gl a0 a1 tkl ldl ctl) (k : Sub B B') : FA ww d0 d1 B' wl spl pl gl a0 a1 tkl ldl ctl :=
  ⟨let ⟨a, b, c⟩ := h.words; ⟨a, b, c.mono k⟩, let ⟨a, b, c⟩ := h.spelled; ⟨a, b, c.mono k⟩, let ⟨a, b, c⟩ := h.pairs; ⟨a, b, c.mono k⟩, h.progs.mono k, let ⟨a, b, c⟩ := h.p0; ⟨a, b, c.mono k⟩, let ⟨a, b, c⟩ := h.p1; ⟨a, b, c.mono k⟩,
    let ⟨a, b, c⟩ := h.taken; ⟨a, b, c.mono k⟩, let ⟨a, b, c⟩ := h.laid; ⟨a, b, c.mono k⟩, let ⟨a, b, c⟩ := h.conts; ⟨a, b.mono k, c.mono k⟩⟩
inductive EvAre (B : G) : List Value → List (List (Option (List Str))) → Prop
  | nil : EvAre B [] []
  | cons {e vv es r rs} : (AO.list vv).Is B e → EndsAre B vv es → EvAre B r rs → EvAre B (.ref e :: r) (es :: rs)
theorem EvAre.mono {B B' : G} {vs : List Value} {es : List (List (Option (List Str)))} (h : EvAre B vs es) (k : Sub B B') : EvAre B' vs es := by
  induction h with
  | nil => exact .nil
  | cons a b _ ih => exact .cons (a.mono k) (b.mono k) ih
theorem EvAre.snoc {B : G} {vs : List Value} {es : List (List (Option (List Str)))} {e : Addr} {vv : List Value} {x : List (Option (List Str))} (h : EvAre B vs es) (a : (AO.list vv).Is B e) (b : EndsAre B vv x) : EvAre B (vs ++ [.ref e]) (es ++ [x]) := by
  induction h with
  | nil => exact .cons a b .nil
  | cons c d _ ih => exact .cons c d ih
theorem EvAre.len {B : G} {vs : List Value} {es : List (List (Option (List Str)))} (h : EvAre B vs es) : vs.length = es.length := by induction h with
  | nil => rfl
  | cons _ _ _ ih => simp [ih]
theorem wd_at (ww : WW) (x : Bool) (t1 t2 : Tok) : ∃ t, ([.str (wdS ww false) t1, .str (wdS ww true) t2] : List Value)[(code (.p x)).toNat]? = some (.str (wdS ww x) t) := by cases x <;> exact ⟨_, rfl⟩
theorem tok_val (ww : WW) (d : D) (t1 t2 : Tok) : ∃ (x : Bool) (t : Tok), (code d).fmod 2 = code (.p x) ∧ ([.str (wdS ww false) t1, .str (wdS ww true) t2] : List Value)[(code (.p x)).toNat]? = some (.str (wdS ww x) t) ∧
    ((code d).fdiv 2 = 0 ∨ (code d).fdiv 2 = 1) ∧ wdS ww x ++ (if (code d).fdiv 2 = 1 then Str.ofString "-" else Str.empty) = tokS ww d := by
  cases d with
  | p x =>
    obtain ⟨t, ht⟩ := wd_at ww x t1 t2
    refine ⟨x, t, (code_mod x).1, ht, .inl (by cases x <;> rfl), ?_⟩
    have : (code (.p x)).fdiv 2 = 0 := by cases x <;> rfl
    rw [this, if_neg (by decide), tok_put]
    exact Str.ext' (by simp [Str.cps_append, Str.empty])
  | t x =>
    obtain ⟨t, ht⟩ := wd_at ww x t1 t2
    refine ⟨x, t, (code_mod x).2, ht, .inr (by cases x <;> rfl), ?_⟩
    have : (code (.t x)).fdiv 2 = 1 := by cases x <;> rfl
    rw [this, if_pos rfl, tok_take]
theorem tokS_ok {ww : WW} (hw : WOk ww) (d : D) : PyData.strOk (tokS ww d) = true := by
  have hs : ∀ {a : Nat}, a ∈ signs → a < 1114112 := fun {a} h => by revert a; decide
  cases d <;> (unfold PyData.strOk tokS tokD txt; simp [hs (hw.one _), hs (hw.two _)])
theorem tokS_len (ww : WW) (d : D) : (tokS ww d).length = 2 ∨ (tokS ww d).length = 3 := by
  cases d
  · exact .inl rfl
  · exact .inr rfl
theorem conts_len2 {ww : WW} {d0 : List D} {r : List Str} (hr : r ∈ contsOf ww d0) : ∀ y ∈ r, y.length = 2 := by
  obtain ⟨c, _, rfl⟩ := (contN_iff ww _ _).mp hr
  intro y hy
  obtain ⟨b, _, rfl⟩ := List.mem_map.mp hy
  rfl
theorem conts_len {ww : WW} {d0 : List D} {r : List Str} (hr : r ∈ contsOf ww d0) : r.length ≤ (takesD d0).length := by
  obtain ⟨c, hc, rfl⟩ := (contN_iff ww _ _).mp hr
  simpa [rowS] using hc
theorem conts_size {ww : WW} {d0 : List D} (h4 : (takesD d0).length ≤ 4) : (contsOf ww d0).length ≤ 31 := by
  rw [contN_len _ rfl]
  have : 2 ^ ((takesD d0).length + 1) ≤ 2 ^ 5 := Nat.pow_le_pow_right (by decide) (by (first | with_reducible assumption | exact Nat.le_of_ble_eq_true rfl | exact Nat.add_le_add_left (Nat.le_of_ble_eq_true rfl) _ | exact Nat.le_trans (by assumption) (Nat.le_of_ble_eq_true rfl) | exact Nat.lt_of_le_of_lt (by assumption) (Nat.le_of_ble_eq_true rfl) | exact Nat.le_trans (Nat.le_of_eq (by assumption)) (Nat.le_trans (by assumption) (Nat.le_of_ble_eq_true rfl)) | lia | omega))
  (first | with_reducible assumption | exact Nat.le_of_ble_eq_true rfl | exact Nat.add_le_add_left (Nat.le_of_ble_eq_true rfl) _ | exact Nat.le_trans (by assumption) (Nat.le_of_ble_eq_true rfl) | exact Nat.lt_of_le_of_lt (by assumption) (Nat.le_of_ble_eq_true rfl) | exact Nat.le_trans (Nat.le_of_eq (by assumption)) (Nat.le_trans (by assumption) (Nat.le_of_ble_eq_true rfl)) | lia | omega)

theorem EndsAre.up {B B' g : G} {vs : List Value} {os : List (Option (List Str))} (h : EndsAre B vs os) (hn : ∀ a, Value.ref a ∈ vs → g a = none) (k : ∀ (b : Addr) (y : AO), y.Is B b → g b = none → y.Is B' b) : EndsAre B' vs os := by
  induction h with
  | nil => exact .nil
  | cons a _ ih =>
    refine .cons ?_ (ih fun a ha => hn a (.tail _ ha))
    rcases a with h | ⟨q, r, rv, x, rfl, y, z⟩
    · exact .inl h
    · exact .inr ⟨q, r, rv, x, rfl, y, k _ _ z (hn r (.head _))⟩
theorem w_count {prog : Program} {w : World} {A : Around} {E : Value → Shared → Prop} {P : Params} {s₀ s : Shared} {B₀ : G} {env : Env} {ns : List (Str × NameKind)} {B : G} {vs : List (Option Value)} {os : List (Addr × AO)} {Q : Value → Shared → Prop} {x y : Str} {t u : Tok}
    (W : Wd P s₀ B₀ env ns B s vs os) (h : ∀ t s', Wd P s₀ B₀ env ns B s' vs os → Q (.int (Txt.count x y) t) s') : wpAny (model prog w) A (call (.builtin "str.count") [.str x t, .str y u]) Q E s := PySem.SC.count (h _ _ (W.toks _))
theorem pick_init (items : List Value) (x : Value) : (slicePick (items ++ [x]).toArray none (some (-1)) none).toList = items := by
  have := slicePick_butLast (items ++ [x]).toArray 1 (Nat.le_refl _)
  rw [show (-((1 : Nat) : Int)) = -1 from rfl] at this
  rw [this]
  simp
/-- the goal put under a name while facts are opened -/
theorem byG {p : Prop} (h : ∀ G : Prop, (p → G) → G) : p := h p id
theorem segB {prog : Program} {w : World} {A : Around} {E : Value → Shared → Prop} {s₀ s : Shared} {B₀ : G} {env : Env} {B : G} {Q : Flow → Shared → Prop} {k : Nat} {body : List Stmt} {scl nl' cw ct wl spl pl gl a0 a1 tkl ldl ctl LF EN : Addr} {ww : WW} {d0 d1 : List D} {T K P T' K' P' : List Bool}
    (hb : lawSeg 10 = some body) (hcells : env.cells = [(Str.ofString "told", ct), (Str.ofString "words", cw)]) (hA : AOk A (k + 13)) (H : Asked ww d0 d1 T K P T' K' P') (F : FA ww d0 d1 B wl spl pl gl a0 a1 tkl ldl ctl)
    (W : Wd w.params s₀ B₀ env lns B s [some (.ref scl), some (.ref nl'), none, some (.ref spl), some (.ref pl), some (.ref gl), none, some (.ref tkl), some (.ref ldl), some (.ref ctl), some (.ref LF), some (.ref EN), none, none, none, none, none, none, none, none, none, none, none, none, none]
        [(EN, .list []), (LF, .list []), (cw, .cell (some (.ref wl))), (ct, .cell none), (99, tab #[])])
    (h : ∀ B' s' rest lv ev, Sub B B' → TabAt B' → StrsAre lv [txt (enc ww (nfD T K P)), txt (enc ww (nfD T' K' P'))] → EvAre B' ev [endsOf ww d0 (contsOf ww d0), endsOf ww d1 (contsOf ww d0)] → (AO.list lv).Is B' LF → (AO.list ev).Is B' EN → lawSeg 11 = some rest →
      Wd w.params s₀ B₀ env lns B' s' [none, none, none, some (.ref spl), none, none, none, some (.ref tkl), some (.ref ldl), some (.ref ctl), some (.ref LF), some (.ref EN), none, none, none, none, none, none, none, none, none, none, none, none, none]
        [(cw, .cell (some (.ref wl)))] → wpAny (model prog w) A (execs rest env) Q E s') :
    wpAny (model prog w) A (execs body env) Q E s := by
  cases hb
  have hcw : env.cells.lookup (Str.ofString "words") = some cw := by rw [hcells]; rfl
  have hct : env.cells.lookup (Str.ofString "told") = some ct := by rw [hcells]; rfl
  have hsz := conts_size (ww := ww) H.m4
  refine wpAny_execs_cons (ex_for ?_ ?_)
  · ((((with_reducible refine' ev_local (by assumption) ?rd1 ?_); (case rd1 => ((with_reducible (repeat first | exact Rd.head | apply Rd.tail | (apply Rd.of; assumption))))))))
    refine it_list W (W.ofB F.progs) (fun it s3 W3 _ => ?_)
    refine for_loop (fun j B' vs' os' => ∃ lv ev v12 v13 v15 tc X, vs' = [some (.ref scl), some (.ref nl'), none, some (.ref spl), some (.ref pl), some (.ref gl), none, some (.ref tkl), some (.ref ldl), some (.ref ctl), some (.ref LF), some (.ref EN), v12, v13, none, v15, none, none, none, none, none, none, none, none, none] ∧
        os' = [(EN, .list ev), (LF, .list lv), (cw, .cell (some (.ref wl))), (ct, .cell tc)] ++ X ∧ StrsAre lv ([txt (enc ww (nfD T K P)), txt (enc ww (nfD T' K' P'))].take j) ∧ EvAre B' ev ([endsOf ww d0 (contsOf ww d0), endsOf ww d1 (contsOf ww d0)].take j) ∧ TabS X B' ∧ (1 ≤ j → TabAt B'))
      (Steps.list hA.handled F.progs) (fun _ => rfl) W3 ⟨[], [], none, none, none, none, [(99, tab #[])], rfl, rfl, .nil, .nil, .inl rfl, fun h => by (first | with_reducible assumption | exact Nat.le_of_ble_eq_true rfl | exact Nat.add_le_add_left (Nat.le_of_ble_eq_true rfl) _ | exact Nat.le_trans (by assumption) (Nat.le_of_ble_eq_true rfl) | exact Nat.lt_of_le_of_lt (by assumption) (Nat.le_of_ble_eq_true rfl) | exact Nat.le_trans (Nat.le_of_eq (by assumption)) (Nat.le_trans (by assumption) (Nat.le_of_ble_eq_true rfl)) | lia | omega)⟩ ?_ ?_
    · intro j v B' vs' os' s' hj hv hB hφφ W'
      refine byG fun GG hGG => ?_
      obtain ⟨lv, ev, v12, v13, v15, tc, X, rfl, rfl, hlv, hev, hT, hT1⟩ := hφφ
      refine hGG ?_
      clear hGG GG
      clear W W3
      have hprog : ∃ (dk : List D) (ak : Addr) (dv : List Value) (Tk Kk Pk : List Bool), v = .ref ak ∧ IntsAre dv (dk.map code) ∧ (AO.list dv).Is B' ak ∧ Red dk (nfD Tk Kk Pk) ∧ dk.length ≤ 8 ∧
          [txt (enc ww (nfD T K P)), txt (enc ww (nfD T' K' P'))].take (j + 1) = [txt (enc ww (nfD T K P)), txt (enc ww (nfD T' K' P'))].take j ++ [txt (enc ww (nfD Tk Kk Pk))] ∧
          [endsOf ww d0 (contsOf ww d0), endsOf ww d1 (contsOf ww d0)].take (j + 1) = [endsOf ww d0 (contsOf ww d0), endsOf ww d1 (contsOf ww d0)].take j ++ [endsOf ww dk (contsOf ww d0)] := by
        match j, hv with
        | 0, hv => cases hv; obtain ⟨dv, x, y⟩ := F.p0; exact ⟨d0, a0, dv, T, K, P, rfl, x, y.mono hB, H.r0, H.l0, rfl, rfl⟩
        | 1, hv => cases hv; obtain ⟨dv, x, y⟩ := F.p1; exact ⟨d1, a1, dv, T', K', P', rfl, x, y.mono hB, H.r1, H.l1, rfl, rfl⟩
        | (n + 2), hv => simp at hv
      refine byG fun GG hGG => ?_
      obtain ⟨dk, ak, dv, Tk, Kk, Pk, rfl, hdv, hak, hred, hdl, hlt, het⟩ := hprog
      refine hGG ?_
      clear hGG GG
      rw [hlt, het]
      have F' := F.mono hB
      refine wpAny_assign_Name (st_local W' (by ((with_reducible (repeat first | exact Wr.head | apply Wr.tail | (apply Wr.of; assumption))))) (fun s4 W4 => ?_))
      clear W'
      refine cut ?_
      intro QQ hQQ
      refine W4.fold ?_
      clear W4
      intro vs1 os1 e1 e2 W4
      -- text
      refine asgs ?_ ?_
      · rfl
      refine call_g W4 (by ((with_reducible (repeat first | exact Kd.head | apply Kd.tail)))) .text rfl rfl rfl ?_
      ((((with_reducible refine' args_c ?pa2 ?_); (case pa2 => rfl))))
      ((((with_reducible refine' ev_local (by assumption) ?rd3 ?_); (case rd3 => ((with_reducible (repeat first | exact Rd.head | apply Rd.tail | (apply Rd.of; assumption))))))))
      ((((with_reducible refine' args_c ?pa4 ?_); (case pa4 => rfl))))
      ((((with_reducible refine' ev_local (by assumption) ?rd5 ?_); (case rd5 => ((with_reducible (repeat first | exact Rd.head | apply Rd.tail | (apply Rd.of; assumption))))))))
      ((with_reducible refine' PyProof.Rows.args_nil ?_))
      have hss : ∀ x ∈ ssOf ww, x.length ≤ 100 := by
        intro x hx
        simp only [ssOf, List.mem_cons, List.not_mem_nil, or_false] at hx
        rcases hx with rfl | rfl | rfl | rfl
        · rw [put_txt, txt_len]; have := encD_len ww (.p false); exact Nat.le_trans this (by decide)
        · rw [put_txt, txt_len]; have := encD_len ww (.p true); exact Nat.le_trans this (by decide)
        · show 9 ≤ 100; decide
        · show 9 ≤ 100; decide
      refine byG fun GG hGG => ?_
      obtain ⟨spv, hspv, hspl⟩ := F'.spelled
      refine hGG ?_
      clear hGG GG
      refine ⟨W4.st, text_spec (n := k) W4.st (hA.less (by (first | with_reducible assumption | exact Nat.le_of_ble_eq_true rfl | exact Nat.add_le_add_left (Nat.le_of_ble_eq_true rfl) _ | exact Nat.le_trans (by assumption) (Nat.le_of_ble_eq_true rfl) | exact Nat.lt_of_le_of_lt (by assumption) (Nat.le_of_ble_eq_true rfl) | exact Nat.le_trans (Nat.le_of_eq (by assumption)) (Nat.le_trans (by assumption) (Nat.le_of_ble_eq_true rfl)) | lia | omega))) (W4.ofB hak) hdv (W4.ofB hspl) hspv ?_ ?_ hss (show 4 ≤ 8 by decide) (fun t5 s5 hk5 => ?_)⟩
      · intro z hz
        refine byG fun GG hGG => ?_
        obtain ⟨d, _, rfl⟩ := List.mem_map.mp hz
        refine hGG ?_
        clear hGG GG
        have := code_range d
        exact ⟨this.1, by show code d < 4; exact this.2⟩
      · rw [List.length_map]; (first | with_reducible assumption | exact Nat.le_of_ble_eq_true rfl | exact Nat.add_le_add_left (Nat.le_of_ble_eq_true rfl) _ | exact Nat.le_trans (by assumption) (Nat.le_of_ble_eq_true rfl) | exact Nat.lt_of_le_of_lt (by assumption) (Nat.le_of_ble_eq_true rfl) | exact Nat.le_trans (Nat.le_of_eq (by assumption)) (Nat.le_trans (by assumption) (Nat.le_of_ble_eq_true rfl)) | lia | omega)
      rw [textOf_enc]
      have W5 := W4.keeps hk5
      clear W4
      ((((with_reducible refine' st_local (by assumption) ?wr7 ?_); (case wr7 => ((with_reducible (repeat first | exact Wr.head | apply Wr.tail | (apply Wr.of; assumption))))); intro _ _)))
      rename_i s6 W6
      clear W5 e1
      subst e2
      -- told
      refine asgs ?_ ?_
      · rfl
      refine call_g W6 (by ((with_reducible (repeat first | exact Kd.head | apply Kd.tail)))) .read rfl rfl rfl ?_
      ((((with_reducible refine' args_c ?pa8 ?_); (case pa8 => rfl))))
      ((((with_reducible refine' ev_local (by assumption) ?rd9 ?_); (case rd9 => ((with_reducible (repeat first | exact Rd.head | apply Rd.tail | (apply Rd.of; assumption))))))))
      ((with_reducible refine' PyProof.Rows.args_nil ?_))
      have hcl : (txt (enc ww dk)).cps.toList = enc ww dk := by simp [txt]
      have hel := enc_len ww dk
      have W6p := W6.perm (os' := X ++ [(it, .liter gl (j + 1)), (EN, .list ev), (LF, .list lv), (cw, .cell (some (.ref wl))), (ct, .cell tc)]) (List.perm_append_comm (l₁ := [(it, AO.liter gl (j + 1)), (EN, .list ev), (LF, .list lv), (cw, .cell (some (.ref wl))), (ct, .cell tc)]))
      clear W6
      refine ⟨W6p.st, wpAny_call (lread_code (k := k) (X := X) (B := B') (ws := dk.map (tokD ww)) W6p.stat (W6p.hidden (fun a ha => by rw [List.map_append]; exact List.mem_append_left _ ha)) (fun p hp => W6p.objs p (List.mem_append_left _ hp)) hT (hA.less (by (first | with_reducible assumption | exact Nat.le_of_ble_eq_true rfl | exact Nat.add_le_add_left (Nat.le_of_ble_eq_true rfl) _ | exact Nat.le_trans (by assumption) (Nat.le_of_ble_eq_true rfl) | exact Nat.lt_of_le_of_lt (by assumption) (Nat.le_of_ble_eq_true rfl) | exact Nat.le_trans (Nat.le_of_eq (by assumption)) (Nat.le_trans (by assumption) (Nat.le_of_ble_eq_true rfl)) | lia | omega))) ?_ ?_ ?_ ?_ ?_)⟩
      · rw [txt_len]; (first | with_reducible assumption | exact Nat.le_of_ble_eq_true rfl | exact Nat.add_le_add_left (Nat.le_of_ble_eq_true rfl) _ | exact Nat.le_trans (by assumption) (Nat.le_of_ble_eq_true rfl) | exact Nat.lt_of_le_of_lt (by assumption) (Nat.le_of_ble_eq_true rfl) | exact Nat.le_trans (Nat.le_of_eq (by assumption)) (Nat.le_trans (by assumption) (Nat.le_of_ble_eq_true rfl)) | lia | omega)
      · rw [hcl]; exact enc_small H.hw
      · rw [hcl]; exact readsC_enc ww dk
      · rw [List.length_map]; (first | with_reducible assumption | exact Nat.le_of_ble_eq_true rfl | exact Nat.add_le_add_left (Nat.le_of_ble_eq_true rfl) _ | exact Nat.le_trans (by assumption) (Nat.le_of_ble_eq_true rfl) | exact Nat.lt_of_le_of_lt (by assumption) (Nat.le_of_ble_eq_true rfl) | exact Nat.le_trans (Nat.le_of_eq (by assumption)) (Nat.le_trans (by assumption) (Nat.le_of_ble_eq_true rfl)) | lia | omega)
      intro r tvl tn X' s7 hch hTE hXn hX' htvl hr hrn
      rw [hcl] at hr
      have W7 := Wd.call (X := X) (X' := X') (Y := [(r, .list (tvl ++ [.int (1 + nl (enc ww dk)) tn]))]) W6p hch hXn hX' (by simp) (by simpa using hrn) (by intro p hp; simp at hp; subst hp; exact hr)
      -- the table is as the base has it
      have hg : ∃ B7, Sub B' B7 ∧ TabAt B7 ∧ Wd w.params s₀ B₀ env lns B7 s7 [some (.ref scl), some (.ref nl'), none, some (.ref spl), some (.ref pl), some (.ref gl), none, some (.ref tkl), some (.ref ldl), some (.ref ctl), some (.ref LF), some (.ref EN), some (.ref ak), some (.str (txt (enc ww dk)) t5), none, v15, none, none, none, none, none, none, none, none, none]
          [(r, .list (tvl ++ [.int (1 + nl (enc ww dk)) tn])), (it, .liter gl (j + 1)), (EN, .list ev), (LF, .list lv), (cw, .cell (some (.ref wl))), (ct, .cell tc)] := by
        have k7 : Sub B' _ := grow_sub (s' := s7) (Y := [(r, AO.list (tvl ++ [.int (1 + nl (enc ww dk)) tn]))].map Prod.fst) W6p.keep
        rcases hTE with ⟨hX, c1, c2, hX'', hcd, hn1⟩ | ⟨hX, hX''⟩
        · subst hX''
          refine Wd.freezeC (W7.perm (.swap _ _ _)) fun B8 k8 i8 W8 => ?_
          refine ⟨B8, k7.trans k8, ⟨c1, c2, i8, CodeG.mono ?_ k8⟩, W8⟩
          refine byG fun GG hGG => ?_
          obtain ⟨c, o, vs', t, e1, e2, e3⟩ := hcd
          refine hGG ?_
          clear hGG GG
          cases e1
          refine ⟨c1, o, vs', t, rfl, ?_, e3⟩
          rw [grow_new hn1 (fun hm => ?_)]; exact e2
          have hm : c1 = r := by simpa using hm
          subst hm
          obtain ⟨n, hr⟩ := hr
          rw [hr] at e2
          cases e2
          obtain ⟨_, e3⟩ := e3
          exact absurd e3 (by rename_i e4; cases e4)
        · subst hX''
          refine ⟨_, k7, ?_, W7⟩
          rcases hT with h99 | ⟨_, h99⟩
          · rw [hX] at h99; cases h99
          · obtain ⟨c1, c2, x, y⟩ := h99
            exact ⟨c1, c2, x.mono k7, y.mono k7⟩
      clear W7 W6p hch hX' hr
      refine byG fun GG hGG => ?_
      obtain ⟨B7, k7, hTab, W7⟩ := hg
      refine hGG ?_
      clear hGG GG
      have F7 := F'.mono k7
      have hak7 := hak.mono k7
      have hev7 := hev.mono k7
      refine st_cell W7 (by ((with_reducible (repeat first | exact Kd.head | apply Kd.tail)))) hct (.tail (.tail (.tail (.tail (.tail .head))))) (fun s8 W8 => ?_)
      clear W7
      show wpAny _ _ (execs _ env) _ _ _
      refine W8.fold ?_
      clear W8
      intro vs2 os2 e1 e2 W8
      -- due
      refine byG fun GG hGG => ?_
      obtain ⟨t1, t2, hwl⟩ := F7.words
      refine hGG ?_
      clear hGG GG
      have kx : env.kindOf (Str.ofString "words") = some .cell := W8.kd (by ((with_reducible (repeat first | exact Kd.head | apply Kd.tail))))
      refine wpAny_execs_cons (ex_comp (cl := [(Str.ofString "words", cw)]) (swaps W8 (by ((with_reducible (repeat first | exact Kd.head | apply Kd.tail)))) rfl (by decide)) (by simp only [closureFor, cellOf, hcells]; rfl) rfl (by decide) ?_ ?_)
      · ((((with_reducible refine' ev_local (by assumption) ?rd11 ?_); (case rd11 => ((with_reducible (repeat first | exact Rd.head | apply Rd.tail | (apply Rd.of; assumption))))))))
        refine comp_used (fun j _ ys => StrsAre ys ((dk.take j).map (tokS ww))) (vsx := fun v => [none, some v, none]) (vs' := fun v => [some (.ref scl), some (.ref nl'), none, some (.ref spl), some (.ref pl), some (.ref gl), none, some (.ref tkl), some (.ref ldl), some (.ref ctl), some (.ref LF), some (.ref EN), some (.ref ak), some (.str (txt (enc ww dk)) t5), none, some v, none, none, none, none, none, none, none, none, none]) (cns := [(Str.ofString ".0", .local), (Str.ofString "deed", .local), (Str.ofString "words", .cell)]) hA.handled W8 (W8.ofB hak7)
          ?_ rfl (by decide) ?_ (by decide) (by decide) (fun v => .tail .head) (fun v => by ((with_reducible (repeat first | exact Wr.head | apply Wr.tail | (apply Wr.of; assumption))))) .nil ?_ ?_
        · rw [ints_len hdv, List.length_map]; (first | with_reducible assumption | exact Nat.le_of_ble_eq_true rfl | exact Nat.add_le_add_left (Nat.le_of_ble_eq_true rfl) _ | exact Nat.le_trans (by assumption) (Nat.le_of_ble_eq_true rfl) | exact Nat.lt_of_le_of_lt (by assumption) (Nat.le_of_ble_eq_true rfl) | exact Nat.le_trans (Nat.le_of_eq (by assumption)) (Nat.le_trans (by assumption) (Nat.le_of_ble_eq_true rfl)) | lia | omega)
        · simp only [relabel, List.map, W8.kind, kx]; rfl
        · rintro j' v cenv I D' B'' s'' ys hv' hφ' hys hB' ⟨C, rfl⟩ W9
          refine byG fun GG hGG => ?_
          obtain ⟨kk, td, rfl, hkk⟩ := ints_get hdv hv'
          refine hGG ?_
          clear hGG GG
          obtain ⟨d, hd, rfl⟩ : ∃ d, dk[j']? = some d ∧ code d = kk := by
            rw [List.getElem?_map] at hkk
            cases e : dk[j']? with
            | none => rw [e] at hkk; cases hkk
            | some d => rw [e] at hkk; exact ⟨d, rfl, Option.some.inj hkk⟩
          refine byG fun GG hGG => ?_
          obtain ⟨x, tx, hm, hat, h01, hval⟩ := tok_val ww d t1 t2
          refine hGG ?_
          clear hGG GG
          refine wpAny_tests_nil (.inr ⟨rfl, ?_⟩)
          dsimp only at W9
          have up : Sub s8.heap.get? s''.heap.get? := hB'.trans W9.keep
          ((with_reducible refine' wpAny_BinOp ?_))
          ((with_reducible refine' Subscript_ ?_))
          refine ev_cell W9 (.tail (.tail .head)) rfl ((W8.at (mem_of e2 (mem_t (mem_t (mem_t (mem_t mem_h)))))).mono up) ?_
          ((with_reducible refine' wpAny_BinOp ?_))
          ((((with_reducible refine' ev_local (by assumption) ?rd15 ?_); (case rd15 => ((with_reducible (repeat first | exact Rd.head | apply Rd.tail | (apply Rd.of; assumption))))))))
          ((((with_reducible refine' c_int (by assumption) ?_); intro _ _ _)))
          ((((with_reducible refine' w_mod (by assumption) ?nz17 ?_); (case nz17 => decide); intro _ _ _)))
          rw [hm]
          rename Wd _ _ _ _ _ _ _ _ _ => W10
          refine sub_list (x := .str (wdS ww x) tx) rfl (((hwl.mono W8.keep).mono hB').mono W10.keep) (code_range (.p x)).1 (Int.lt_trans (code_range (.p x)).2 (by decide)) hat ?_
          clear W9
          ((with_reducible refine' wpAny_BinOp ?_))
          ((((with_reducible refine' c_str (by assumption) ?_); intro _ _ _)))
          ((with_reducible refine' wpAny_BinOp ?_))
          ((((with_reducible refine' ev_local (by assumption) ?rd21 ?_); (case rd21 => ((with_reducible (repeat first | exact Rd.head | apply Rd.tail | (apply Rd.of; assumption))))))))
          ((((with_reducible refine' c_int (by assumption) ?_); intro _ _ _)))
          ((((with_reducible refine' w_div (by assumption) ?nz23 ?_); (case nz23 => decide); intro _ _ _)))
          rename Wd _ _ _ _ _ _ _ _ _ => W11
          refine w_mulS W11 h01 (fun t12 s12 W12 => ?_)
          refine w_addS W12 ?_ (fun t13 s13 W13 => ?_)
          · rw [wdS_len]
            rcases h01 with e | e <;> rw [e] <;> decide
          rw [hval]
          refine ⟨B'', _, hB', ?_, W13⟩
          show StrsAre _ _
          rw [List.take_add_one, hd, List.map_append]
          exact strs_snoc hφ' _ _
        · intro D s9 B9' B9 duv hdu k9 _ W9
          rw [ints_len hdv, List.length_map, List.take_of_length_le (Nat.le_refl _)] at hdu
          clear W8
          show wpAny _ _ (execs _ env) _ _ _
          refine W9.fold ?_
          clear W9 e1
          intro vs3 os3 e3 e4 W9
          refine ifs (test1 ?_ ?_)
          · rfl
          refine ev_cell W9 (by ((with_reducible (repeat first | exact Kd.head | apply Kd.tail)))) hct (W9.at (by ((with_reducible (repeat first | exact mem_h | apply mem_t | (apply mem_of; assumption)))))) ?_
          ((with_reducible refine' wpAny_BinOp ?_))
          ((((with_reducible refine' ev_local (by assumption) ?rd25 ?_); (case rd25 => ((with_reducible (repeat first | exact Rd.head | apply Rd.tail | (apply Rd.of; assumption))))))))
          ((with_reducible refine' PyProof.Rows.List_ ?_))
          ((((with_reducible refine' args_c ?pa27 ?_); (case pa27 => rfl))))
          ((with_reducible refine' wpAny_BinOp ?_))
          ((((with_reducible refine' c_int (by assumption) ?_); intro _ _ _)))
          ((((with_reducible refine' call_meth ?sd30 ?_); (case sd30 => rfl))))
          ((((with_reducible refine' ev_local (by assumption) ?rd31 ?_); (case rd31 => ((with_reducible (repeat first | exact Rd.head | apply Rd.tail | (apply Rd.of; assumption))))))))
          with_reducible refine GM.count ?_
          ((((with_reducible refine' with_builtin ?sd32 ?_); (case sd32 => rfl))))
          ((((with_reducible refine' args_c ?pa33 ?_); (case pa33 => rfl))))
          ((((with_reducible refine' c_str (by assumption) ?_); intro _ _ _)))
          ((with_reducible refine' PyProof.Rows.args_nil ?_))
          rename Wd _ _ _ _ _ _ _ _ _ => W10
          show wpAny _ _ (call (.builtin "str.count") [.str _ _, .str _ _]) _ _ _
          refine w_count W10 (fun t11 s11 W11 => ?_)
          rw [count_nl]
          clear W9 W10
          ((((with_reducible refine' w_add (by assumption) ?_); intro _ _ _)))
          ((with_reducible refine' PyProof.Rows.args_nil ?_))
          rename Wd _ _ _ _ _ _ _ _ _ => W12
          refine new_list W12 (Nat.le_of_ble_eq_true rfl) ?_
          intro D2 s13 W13
          clear W11 W12
          refine w_addL W13 (W13.at (by ((with_reducible (repeat first | exact mem_h | apply mem_t | (apply mem_of; assumption)))))) (W13.at mem_h) ?_ (fun D3 s14 W14 => ?_)
          · rw [strs_len hdu, List.length_map, sizeLine_eq]; show _ + 1 ≤ _; (first | with_reducible assumption | exact Nat.le_of_ble_eq_true rfl | exact Nat.add_le_add_left (Nat.le_of_ble_eq_true rfl) _ | exact Nat.le_trans (by assumption) (Nat.le_of_ble_eq_true rfl) | exact Nat.lt_of_le_of_lt (by assumption) (Nat.le_of_ble_eq_true rfl) | exact Nat.le_trans (Nat.le_of_eq (by assumption)) (Nat.le_trans (by assumption) (Nat.le_of_ble_eq_true rfl)) | lia | omega)
          clear W13
          have htv : StrsAre tvl (dk.map (tokS ww)) := by rw [List.map_map] at htvl; exact htvl
          refine ne_told (W14.at (by ((with_reducible (repeat first | exact mem_h | apply mem_t | (apply mem_of; assumption)))))) (W14.at mem_h) htv hdu ?_ ?_ ?_
          · intro x hx
            refine byG fun GG hGG => ?_
            obtain ⟨d, _, rfl⟩ := List.mem_map.mp hx
            refine hGG ?_
            clear hGG GG
            exact tokS_ok H.hw d
          · have := hA.units; (first | with_reducible assumption | exact Nat.le_of_ble_eq_true rfl | exact Nat.add_le_add_left (Nat.le_of_ble_eq_true rfl) _ | exact Nat.le_trans (by assumption) (Nat.le_of_ble_eq_true rfl) | exact Nat.lt_of_le_of_lt (by assumption) (Nat.le_of_ble_eq_true rfl) | exact Nat.le_trans (Nat.le_of_eq (by assumption)) (Nat.le_trans (by assumption) (Nat.le_of_ble_eq_true rfl)) | lia | omega)
          ((with_reducible refine' tr_bool ?_))
          rw [if_neg (by decide)]
          refine wpAny_execs_nil ?_
          show wpAny _ _ (execs _ env) _ _ _
          have W15 := W14.drop (os' := os3) (.cons _ (.cons _ (.refl _)))
          subst e4
          have W15 := W15.drop (os' := os2) (.cons _ (.refl _))
          clear W14
          have F9 := F7.mono k9
          have hev9 := hev7.mono k9
          -- lefts
          ((((with_reducible refine' exprs (by assumption) ?nc39 ?_); (case nc39 => rfl))))
          ((((with_reducible refine' call_meth ?sd40 ?_); (case sd40 => rfl))))
          ((((with_reducible refine' ev_local (by assumption) ?rd41 ?_); (case rd41 => ((with_reducible (repeat first | exact Rd.head | apply Rd.tail | (apply Rd.of; assumption))))))))
          with_reducible refine' gm_append (W15.at (by ((with_reducible (repeat first | exact mem_h | apply mem_t | (apply mem_of; assumption)))))) ?_
          ((((with_reducible refine' with_builtin ?sd42 ?_); (case sd42 => rfl))))
          ((((with_reducible refine' args_c ?pa43 ?_); (case pa43 => rfl))))
          refine call_g W15 (by ((with_reducible (repeat first | exact Kd.head | apply Kd.tail)))) .rest rfl rfl rfl ?_
          ((((with_reducible refine' args_c ?pa44 ?_); (case pa44 => rfl))))
          ((((with_reducible refine' ev_local (by assumption) ?rd45 ?_); (case rd45 => ((with_reducible (repeat first | exact Rd.head | apply Rd.tail | (apply Rd.of; assumption))))))))
          ((((with_reducible refine' args_c ?pa46 ?_); (case pa46 => rfl))))
          ((((with_reducible refine' ev_local (by assumption) ?rd47 ?_); (case rd47 => ((with_reducible (repeat first | exact Rd.head | apply Rd.tail | (apply Rd.of; assumption))))))))
          ((with_reducible refine' PyProof.Rows.args_nil ?_))
          refine byG fun GG hGG => ?_
          obtain ⟨pv, hpv, hpl⟩ := F9.pairs
          refine hGG ?_
          clear hGG GG
          refine ⟨W15.st, rest_spec (n := k) (fun y => ∃ ds, y = txt (enc ww ds) ∧ Red dk ds) (muT ww) W15.st (hA.less (by (first | with_reducible assumption | exact Nat.le_of_ble_eq_true rfl | exact Nat.add_le_add_left (Nat.le_of_ble_eq_true rfl) _ | exact Nat.le_trans (by assumption) (Nat.le_of_ble_eq_true rfl) | exact Nat.lt_of_le_of_lt (by assumption) (Nat.le_of_ble_eq_true rfl) | exact Nat.le_trans (Nat.le_of_eq (by assumption)) (Nat.le_trans (by assumption) (Nat.le_of_ble_eq_true rfl)) | lia | omega))) (W15.ofB hpl) hpv (show 20 ≤ 100 by decide) ⟨dk, rfl, .refl _⟩ (rest_step H.hw (by (first | with_reducible assumption | exact Nat.le_of_ble_eq_true rfl | exact Nat.add_le_add_left (Nat.le_of_ble_eq_true rfl) _ | exact Nat.le_trans (by assumption) (Nat.le_of_ble_eq_true rfl) | exact Nat.lt_of_le_of_lt (by assumption) (Nat.le_of_ble_eq_true rfl) | exact Nat.le_trans (Nat.le_of_eq (by assumption)) (Nat.le_trans (by assumption) (Nat.le_of_ble_eq_true rfl)) | lia | omega))) (fun y t16 s16 hy hye hk16 => ?_)⟩
          refine byG fun GG hGG => ?_
          obtain ⟨T1, K1, P1, rfl, hred1⟩ := rest_end H.hw (by (first | with_reducible assumption | exact Nat.le_of_ble_eq_true rfl | exact Nat.add_le_add_left (Nat.le_of_ble_eq_true rfl) _ | exact Nat.le_trans (by assumption) (Nat.le_of_ble_eq_true rfl) | exact Nat.lt_of_le_of_lt (by assumption) (Nat.le_of_ble_eq_true rfl) | exact Nat.le_trans (Nat.le_of_eq (by assumption)) (Nat.le_trans (by assumption) (Nat.le_of_ble_eq_true rfl)) | lia | omega)) y hy hye
          refine hGG ?_
          clear hGG GG
          rw [nf_unique hred1 hred]
          have W16 := W15.keeps hk16
          clear W15
          ((with_reducible refine' PyProof.Rows.args_nil ?_))
          show wpAny _ _ (call (.builtin "list.append") [.ref LF, _]) _ _ _
          refine l_append W16 (by ((with_reducible (repeat first | exact Upd.head | apply Upd.tail | (apply Upd.of; assumption))))) ?_ (fun s17 W17 => ⟨rfl, ?_⟩)
          · rw [strs_len hlv, List.length_take, sizeLine_eq]; show min _ 2 ≤ _; (first | with_reducible assumption | exact Nat.le_of_ble_eq_true rfl | exact Nat.add_le_add_left (Nat.le_of_ble_eq_true rfl) _ | exact Nat.le_trans (by assumption) (Nat.le_of_ble_eq_true rfl) | exact Nat.lt_of_le_of_lt (by assumption) (Nat.le_of_ble_eq_true rfl) | exact Nat.le_trans (Nat.le_of_eq (by assumption)) (Nat.le_trans (by assumption) (Nat.le_of_ble_eq_true rfl)) | lia | omega)
          clear W16
          have hlv' := strs_snoc hlv (txt (enc ww (nfD Tk Kk Pk))) t16
          refine W17.fold ?_
          clear W17 e2
          intro vs4 os4 e5 e6 W17
          -- ends
          ((((with_reducible refine' exprs (by assumption) ?nc50 ?_); (case nc50 => rfl))))
          ((((with_reducible refine' call_meth ?sd51 ?_); (case sd51 => rfl))))
          ((((with_reducible refine' ev_local (by assumption) ?rd52 ?_); (case rd52 => ((with_reducible (repeat first | exact Rd.head | apply Rd.tail | (apply Rd.of; assumption))))))))
          with_reducible refine' gm_append (W17.at (by ((with_reducible (repeat first | exact mem_h | apply mem_t | (apply mem_of; assumption)))))) ?_
          ((((with_reducible refine' with_builtin ?sd53 ?_); (case sd53 => rfl))))
          ((((with_reducible refine' args_c ?pa54 ?_); (case pa54 => rfl))))
          refine byG fun GG hGG => ?_
          obtain ⟨cv, hcv, hctl⟩ := F9.conts
          refine hGG ?_
          clear hGG GG
          have kt : env.kindOf (Str.ofString "told") = some .cell := W17.kd (by ((with_reducible (repeat first | exact Kd.head | apply Kd.tail))))
          refine ev_comp (cl := [(Str.ofString "told", ct)]) (by simp only [closureFor, cellOf, hcells]; rfl) rfl (by decide) ?_ ?_
          · ((((with_reducible refine' ev_local (by assumption) ?rd55 ?_); (case rd55 => ((with_reducible (repeat first | exact Rd.head | apply Rd.tail | (apply Rd.of; assumption))))))))
            refine comp_plain (fun j B' ys => EndsAre B' ys (((contsOf ww d0).take j).map (runP (dk.map (tokS ww)))) ∧ ∀ a, Value.ref a ∈ ys → s17.heap.get? a = none) (vsx := fun v => [none, some v, none, none]) (cns := [(Str.ofString ".0", .local), (Str.ofString "content", .local), (Str.ofString "_law_run", .globalImplicit), (Str.ofString "told", .cell)]) hA.handled W17 (W17.ofB hctl)
              ?_ rfl (by decide) ?_ (by decide) (by decide) (fun v => .tail .head) ⟨.nil, fun a ha => by cases ha⟩ ?_ ?_
            · rw [hcv.len]; (first | with_reducible assumption | exact Nat.le_of_ble_eq_true rfl | exact Nat.add_le_add_left (Nat.le_of_ble_eq_true rfl) _ | exact Nat.le_trans (by assumption) (Nat.le_of_ble_eq_true rfl) | exact Nat.lt_of_le_of_lt (by assumption) (Nat.le_of_ble_eq_true rfl) | exact Nat.le_trans (Nat.le_of_eq (by assumption)) (Nat.le_trans (by assumption) (Nat.le_of_ble_eq_true rfl)) | lia | omega)
            · simp only [relabel, List.map, W17.kind, kt]; rfl
            · rintro j' v cenv I D' B'' s'' ys hv' ⟨hφ', hnn⟩ hys hB' ⟨C, rfl⟩ W18
              refine byG fun GG hGG => ?_
              obtain ⟨cr, rv, rr, rfl, hcr, hrr, hrk⟩ := hcv.get hv'
              refine hGG ?_
              clear hGG GG
              have hrm := List.mem_of_getElem? hrk
              refine wpAny_tests_nil (.inr ⟨rfl, ?_⟩)
              dsimp only at W18
              have up : Sub s17.heap.get? s''.heap.get? := hB'.trans W18.keep
              refine call_g W18 (by ((with_reducible (repeat first | exact Kd.head | apply Kd.tail)))) .run rfl rfl rfl ?_
              ((((with_reducible refine' args_c ?pa56 ?_); (case pa56 => rfl))))
              ((with_reducible refine' Subscript_ ?_))
              refine ev_cell W18 (.tail (.tail (.tail .head))) rfl ((W17.at (mem_of e6 (mem_t (mem_t (mem_t (mem_t (mem_t mem_h))))))).mono up) ?_
              refine wpAny_Slice (evalPart_none_step (evalPart_some_step ?_))
              refine wpAny_UnaryOp ?_
              ((((with_reducible refine' c_int (by assumption) ?_); intro _ _ _)))
              rename Wd _ _ _ _ _ _ _ _ _ => W19
              refine w_neg W19 ?_
              intro t20 s20 W20
              refine evalPart_none_step ?_
              refine w_slice (lo := none) (hi := some (-1)) W20 rfl (((W17.at (mem_of e6 mem_h)).mono hB').mono W20.keep) .none (.int _ _) ?_ ?_
              · rw [List.length_append, strs_len htv, List.length_map]; show _ + 1 ≤ _; (first | with_reducible assumption | exact Nat.le_of_ble_eq_true rfl | exact Nat.add_le_add_left (Nat.le_of_ble_eq_true rfl) _ | exact Nat.le_trans (by assumption) (Nat.le_of_ble_eq_true rfl) | exact Nat.lt_of_le_of_lt (by assumption) (Nat.le_of_ble_eq_true rfl) | exact Nat.le_trans (Nat.le_of_eq (by assumption)) (Nat.le_trans (by assumption) (Nat.le_of_ble_eq_true rfl)) | lia | omega)
              intro D4 s21 W21
              rw [pick_init] at W21
              clear W18 W19 W20
              ((((with_reducible refine' args_c ?pa59 ?_); (case pa59 => rfl))))
              ((((with_reducible refine' ev_local (by assumption) ?rd60 ?_); (case rd60 => ((with_reducible (repeat first | exact Rd.head | apply Rd.tail | (apply Rd.of; assumption))))))))
              ((with_reducible refine' PyProof.Rows.args_nil ?_))
              refine ⟨W21.st, lrun_spec (k := k) W21.st ?_ (hA.less (by (first | with_reducible assumption | exact Nat.le_of_ble_eq_true rfl | exact Nat.add_le_add_left (Nat.le_of_ble_eq_true rfl) _ | exact Nat.le_trans (by assumption) (Nat.le_of_ble_eq_true rfl) | exact Nat.lt_of_le_of_lt (by assumption) (Nat.le_of_ble_eq_true rfl) | exact Nat.le_trans (Nat.le_of_eq (by assumption)) (Nat.le_trans (by assumption) (Nat.le_of_ble_eq_true rfl)) | lia | omega))) (W21.at mem_h) htv (((hcr.mono W17.keep).mono hB').mono W21.keep) hrr ?_ (conts_len2 hrm) ?_ ?_ (fun v s22 hk22 hend => ?_)⟩
              · obtain ⟨c1, c2, x, y⟩ := (hTab)
                have z := (k9.trans W17.keep).trans (hB'.trans W21.keep)
                exact ⟨c1, c2, x.mono z, y.mono z⟩
              · intro y hy
                refine byG fun GG hGG => ?_
                obtain ⟨d, _, rfl⟩ := List.mem_map.mp hy
                refine hGG ?_
                clear hGG GG
                exact tokS_len ww d
              · rw [List.length_map]; (first | with_reducible assumption | exact Nat.le_of_ble_eq_true rfl | exact Nat.add_le_add_left (Nat.le_of_ble_eq_true rfl) _ | exact Nat.le_trans (by assumption) (Nat.le_of_ble_eq_true rfl) | exact Nat.lt_of_le_of_lt (by assumption) (Nat.le_of_ble_eq_true rfl) | exact Nat.le_trans (Nat.le_of_eq (by assumption)) (Nat.le_trans (by assumption) (Nat.le_of_ble_eq_true rfl)) | lia | omega)
              · have := conts_len hrm; have := H.m4; (first | with_reducible assumption | exact Nat.le_of_ble_eq_true rfl | exact Nat.add_le_add_left (Nat.le_of_ble_eq_true rfl) _ | exact Nat.le_trans (by assumption) (Nat.le_of_ble_eq_true rfl) | exact Nat.lt_of_le_of_lt (by assumption) (Nat.le_of_ble_eq_true rfl) | exact Nat.le_trans (Nat.le_of_eq (by assumption)) (Nat.le_trans (by assumption) (Nat.le_of_ble_eq_true rfl)) | lia | omega)
              have W22 := (W21.keeps hk22).drop (os' := [(D', .list ys), (I, .liter ctl (j' + 1))]) (.cons _ (.refl _))
              have upn : ∀ a, s21.heap.get? a = none → s17.heap.get? a = none := fun a ha => by
                cases e : s17.heap.get? a with
                | none => rfl
                | some o => have := W21.keep _ _ (hB' _ _ e); rw [ha] at this; cases this
              refine ⟨_, _, hB'.trans W22.rebase.1, ⟨?_, ?_⟩, W22.rebase.2⟩
              · rw [List.take_add_one, hrk, List.map_append]
                refine (hφ'.mono W22.rebase.1).snoc ?_
                rcases hend with ⟨x, y⟩ | ⟨q, r, rv, x, y, hn, z, zz⟩
                · exact .inl ⟨x, y⟩
                · refine .inr ⟨q, r, rv, x, y, z, hide_new zz ?_⟩
                  intro hm
                  obtain ⟨o, ho⟩ := W21.stands (a := r) (by
                    rcases List.mem_cons.mp hm with e | hm
                    · exact e ▸ List.mem_cons_self
                    · exact List.mem_cons_of_mem _ (List.mem_cons_of_mem _ hm))
                  rw [ho] at hn; cases hn
              · intro a ha
                rcases List.mem_append.mp ha with ha | ha
                · exact hnn a ha
                · rcases hend with ⟨x, y⟩ | ⟨q, r, rv, x, y, hn, z, zz⟩
                  · rw [y] at ha; simp at ha
                  · rw [y] at ha
                    have : a = r := by simpa using ha
                    rw [this]; exact upn r hn
            · intro D s18 B18' B18 evk hφ k18 up18 W18
              obtain ⟨hevk, hnn⟩ := hφ
              rw [hcv.len, List.take_of_length_le (Nat.le_refl _)] at hevk
              have hevk := hevk.up hnn up18
              clear W17
              ((with_reducible refine' PyProof.Rows.args_nil ?_))
              show wpAny _ _ (call (.builtin "list.append") [.ref EN, .ref D]) _ _ _
              refine l_append W18 (by ((with_reducible (repeat first | exact Upd.head | apply Upd.tail | (apply Upd.of; assumption))))) ?_ (fun s19 W19 => ⟨rfl, ?_⟩)
              · rw [hev9.len, List.length_take, sizeLine_eq]; show min _ 2 ≤ _; (first | with_reducible assumption | exact Nat.le_of_ble_eq_true rfl | exact Nat.add_le_add_left (Nat.le_of_ble_eq_true rfl) _ | exact Nat.le_trans (by assumption) (Nat.le_of_ble_eq_true rfl) | exact Nat.lt_of_le_of_lt (by assumption) (Nat.le_of_ble_eq_true rfl) | exact Nat.le_trans (Nat.le_of_eq (by assumption)) (Nat.le_trans (by assumption) (Nat.le_of_ble_eq_true rfl)) | lia | omega)
              refine Wd.freezeC W19 fun B20 k20 i20 W20 => ?_
              have W21 := W20.drop (os' := [(it, .liter gl (j + 1)), (EN, .list (ev ++ [.ref D])), (LF, .list (lv ++ [.str (txt (enc ww (nfD Tk Kk Pk))) t16])), (cw, .cell (some (.ref wl))), (ct, .cell (some (.ref r)))]) (.cons _ (.refl _))
              clear W18 W19 W20 e6
              subst e5
              subst e3
              have kk := (k9.trans k18).trans k20
              refine wpAny_execs_nil (hQQ _ _ ⟨B20, _, _, (hB.trans k7).trans kk, ⟨_, _, _, _, _, _, [], rfl, rfl, hlv', ?_, .inr ⟨rfl, ?_⟩, fun _ => ?_⟩, W21⟩)
              · exact (hev7.mono kk).snoc i20 (hevk.mono k20)
              · obtain ⟨c1, c2, x, y⟩ := hTab
                exact ⟨c1, c2, x.mono kk, y.mono kk⟩
              · obtain ⟨c1, c2, x, y⟩ := hTab
                exact ⟨c1, c2, x.mono kk, y.mono kk⟩
          · intro _; rfl
      · intro _; rfl
    · intro B' vs' os' s' hB hφφ W'
      refine byG fun GG hGG => ?_
      obtain ⟨lv, ev, v12, v13, v15, tc, X, rfl, rfl, hlv, hev, hT, hT1⟩ := hφφ
      refine hGG ?_
      clear hGG GG
      refine Wd.freezeC W' fun B1 k1 i1 W1 => ?_
      refine Wd.freezeC W1 fun B2 k2 i2 W2 => ?_
      have W3 := W2.drop (os' := [(cw, .cell (some (.ref wl)))]) (.cons_cons _ (List.nil_sublist _))
      refine h B2 s' _ lv ev ((hB.trans k1).trans k2) (let ⟨c1, c2, x, y⟩ := hT1 (show 1 ≤ 2 by decide); ⟨c1, c2, x.mono (k1.trans k2), y.mono (k1.trans k2)⟩) hlv ((hev.mono k1).mono k2) i2 (i1.mono k2) rfl (W3.forget ?_)
      exact .none (.none (.none (.same (.none (.none (.none (.same (.same (.same (.same (.same (.none (.none (.none (.none (.none (.none (.none (.none (.none (.none (.none (.none (.none .nil))))))))))))))))))))))))
  · intro _; rfl
end
-- Lc
section
open PySem PySem.W PyProof.Rows PyProof.V PySem.SeqAt
noncomputable abbrev cns4 : List (Str × NameKind) := [(Str.ofString ".0", .local), (Str.ofString "content", .local), (Str.ofString "end", .local), (Str.ofString "len", .globalImplicit)]
theorem IE.sub {prog : Program} {w : World} {A : Around} {P : Params} {s₀ : Shared} {B₀ : G} {env : Env} {ns : List (Str × NameKind)} {vs : List (Option Value)} {e : Expr} {n b : Int} {k : Nat} {p pos : Pos}
    (h : IE prog w A P s₀ B₀ env ns vs e n) : IE prog w A P s₀ B₀ env ns vs (.BinOp e .Sub (.Constant (.int b) k p) pos) (n - b) :=
  ⟨rfl, fun _ _ _ _ _ W h' => wpAny_BinOp (h.2 _ _ _ _ _ W fun _ _ W1 => c_int W1 fun _ _ W2 => w_sub W2 h')⟩
/-- `o.extend([..])` -/
theorem ext1 {prog : Program} {w : World} {A : Around} {E : Value → Shared → Prop} {s : Shared} {P : Params} {s₀ : Shared} {B₀ B : G} {env : Env} {ns : List (Str × NameKind)} {vs : List (Option Value)} {os : List (Addr × AO)}
    {o : Str} {es : List Expr} {n : List Int} {p1 p2 p3 p6 p7 : Pos} {rest : List Stmt} {D : Addr} {rs : List Value} {os' : List Value → List (Addr × AO)} {Q : Flow → Shared → Prop}
    (hside : Nat.beq p2.endLine p6.line = true) (he : IEs prog w A P s₀ B₀ env ns vs es n) (hn : n.length ≤ sizeLine) (W : Wd P s₀ B₀ env ns B s vs os)
    (hr : Rd ns vs o (.ref D)) (u : ∀ zs, Upd D (.list rs) (.list (rs ++ zs)) os (os' zs)) (hl : rs.length + n.length ≤ sizeLine)
    (k : ∀ zs s', IntsAre zs n → Wd P s₀ B₀ env ns B s' vs (os' zs) → wpAny (model prog w) A (execs rest env) Q E s') :
    wpAny (model prog w) A (execs (.Expr (.Call (.Attribute (.Name o p1) "extend" p2) [.List es p3] [] p6) p7 :: rest) env) Q E s := by
  refine exprs W rfl (call_meth (by simp [plainBase, plainArg, hside]) (ev_local W hr (gm_extend (W.at (u []).mem) ?_)))
  refine with_builtin rfl (args_c rfl (he.list hn W fun r1 u1 s1 g1 W1 => args_nil ?_))
  exact l_extend W1 (.tail (u _)) (W1.at (.head _)) (by rw [ints_len g1]; exact hl) fun s4 W4 => ⟨rfl, k u1 s4 g1 (W4.drop (List.sublist_cons_self _ _))⟩
theorem segC {prog : Program} {w : World} {A : Around} {E : Value → Shared → Prop} {s₀ s : Shared} {B₀ : G} {env : Env} {B : G} {Q : Flow → Shared → Prop} {k : Nat} {body : List Stmt} {cw ct wl spl pl gl a0 a1 tkl ldl ctl LF EN : Addr} {ww : WW} {d0 d1 : List D} {T K P T' K' P' : List Bool} {lv ev : List Value}
    (hb : lawSeg 11 = some body) (hcells : env.cells = [(Str.ofString "told", ct), (Str.ofString "words", cw)]) (hA : AOk A (k + 13)) (H : Asked ww d0 d1 T K P T' K' P') (F : FA ww d0 d1 B wl spl pl gl a0 a1 tkl ldl ctl)
    (hlv : StrsAre lv [txt (enc ww (nfD T K P)), txt (enc ww (nfD T' K' P'))]) (hev : EvAre B ev [endsOf ww d0 (contsOf ww d0), endsOf ww d1 (contsOf ww d0)]) (hLF : (AO.list lv).Is B LF) (hEN : (AO.list ev).Is B EN)
    (W : Wd w.params s₀ B₀ env lns B s [none, none, none, some (.ref spl), none, none, none, some (.ref tkl), some (.ref ldl), some (.ref ctl), some (.ref LF), some (.ref EN), none, none, none, none, none, none, none, none, none, none, none, none, none] [(cw, .cell (some (.ref wl)))])
    (h : ∀ B' s' rest tl, Sub B B' → lawSeg 18 = some rest →
      Wd w.params s₀ B₀ env lns B' s' [none, none, none, none, none, none, none, some (.ref tkl), some (.ref ldl), some (.ref ctl), some (.ref LF), some (.ref EN), none, none, none, none, none, none, none, some (.int (T.length : Nat) tl), none, none, none, none, none]
        [(cw, .cell (some (.ref wl)))] → wpAny (model prog w) A (execs rest env) Q E s') :
    wpAny (model prog w) A (execs body env) Q E s := by
  cases hb
  have hsz := conts_size (ww := ww) H.m4
  obtain ⟨e0, v0, evr, rfl, he0, hv0, hevr⟩ : ∃ e0 v0 evr, ev = .ref e0 :: evr ∧ (AO.list v0).Is B e0 ∧ EndsAre B v0 (endsOf ww d0 (contsOf ww d0)) ∧ EvAre B evr [endsOf ww d1 (contsOf ww d0)] := by
    cases hev with
    | cons a b c => exact ⟨_, _, _, rfl, a, b, c⟩
  obtain ⟨cv, hcv, hctl⟩ := F.conts
  have hll : cv.length = v0.length := by rw [hcv.len, hv0.len]; unfold endsOf; rw [List.length_map]
  -- held
  refine wpAny_execs_cons (ex_compT (cl := []) (swaps W (by ((with_reducible (repeat first | exact Kd.head | apply Kd.tail)))) rfl (by decide)) (closureFor_none (by decide)) rfl (by decide) ?_ ?_)
  · refine call_t W (by ((with_reducible (repeat first | exact Kd.head | apply Kd.tail)))) .zip rfl ?_
    ((((with_reducible refine' args_c ?pa1 ?_); (case pa1 => rfl))))
    ((((with_reducible refine' ev_local (by assumption) ?rd2 ?_); (case rd2 => ((with_reducible (repeat first | exact Rd.head | apply Rd.tail | (apply Rd.of; assumption))))))))
    ((((with_reducible refine' args_c ?pa3 ?_); (case pa3 => rfl))))
    ((with_reducible refine' Subscript_ ?_))
    ((((with_reducible refine' ev_local (by assumption) ?rd5 ?_); (case rd5 => ((with_reducible (repeat first | exact Rd.head | apply Rd.tail | (apply Rd.of; assumption))))))))
    ((((with_reducible refine' c_int (by assumption) ?_); intro _ _ _)))
    rename Wd _ _ _ _ _ _ _ _ _ => W1
    refine sub_list (k := 0) (x := .ref e0) rfl (W1.ofB hEN) (by decide) (by decide) rfl ?_
    ((with_reducible refine' PyProof.Rows.args_nil ?_))
    refine z_callK (W1.ofB hctl) (W1.ofB he0) (fun z TI TO i1 i2 s2 hk2 hzn hzf hz => ?_)
    clear W
    refine comp_zip (vsx := fun u v => [none, some u, some v, none]) (cns := cns4) (fun j B' ys => IntsAre ys (heldTo (contsOf ww d0) (endsOf ww d0 (contsOf ww d0)) j)) hA.handled W1 hk2 hzn hzf hz (W1.ofB hctl) (W1.ofB he0) hll (by rw [hcv.len]; (first | with_reducible assumption | exact Nat.le_of_ble_eq_true rfl | exact Nat.add_le_add_left (Nat.le_of_ble_eq_true rfl) _ | exact Nat.le_trans (by assumption) (Nat.le_of_ble_eq_true rfl) | exact Nat.lt_of_le_of_lt (by assumption) (Nat.le_of_ble_eq_true rfl) | exact Nat.le_trans (Nat.le_of_eq (by assumption)) (Nat.le_trans (by assumption) (Nat.le_of_ble_eq_true rfl)) | lia | omega))
      rfl (by decide) rfl (by decide) (by decide) (fun u v => ⟨_, .tail .head, .tail (.tail .head)⟩) .nil ?_ ?_
    · rintro j u v cenv D' B' s' zs a b hu hv hφ hzs hB' - W2
      obtain ⟨cr, rv, rr, rfl, hcr, hrr, hrk⟩ := hcv.get hu
      obtain ⟨o, hvo, hok⟩ := hv0.get hv
      have hrm := List.mem_of_getElem? hrk
      have e := heldTo_succ hrk hok
      refine wpAny_tests_one ?_
      ((((with_reducible refine' test1 ?nm8 ?_); (case nm8 => rfl))))
      ((((with_reducible refine' ev_local (by assumption) ?rd9 ?_); (case rd9 => ((with_reducible (repeat first | exact Rd.head | apply Rd.tail | (apply Rd.of; assumption))))))))
      ((with_reducible refine' c_none ?_))
      refine PyProof.Rows.isnot_none_gen ?_
      ((with_reducible refine' tr_bool ?_))
      rcases hvo with ⟨rfl, rfl⟩ | ⟨q, r, rv', rfl, rfl, hq, hr⟩
      · refine .inl ⟨rfl, B', _, hB', ?_, W2⟩
        rw [e]
        show IntsAre _ (_ ++ [])
        rw [List.append_nil]; exact hφ
      · refine .inr ⟨rfl, ?_⟩
        refine call_b W2 (by ((with_reducible (repeat first | exact Kd.head | apply Kd.tail)))) .len rfl ?_
        ((((with_reducible refine' args_c ?pa12 ?_); (case pa12 => rfl))))
        ((((with_reducible refine' ev_local (by assumption) ?rd13 ?_); (case rd13 => ((with_reducible (repeat first | exact Rd.head | apply Rd.tail | (apply Rd.of; assumption))))))))
        ((with_reducible refine' PyProof.Rows.args_nil ?_))
        have hrl : rv.length = rr.length := strs_len hrr
        refine l_len W2 (((hcr.mono W1.keep).mono hB').mono W2.keep) ?_ (fun t3 s3 W3 => ?_)
        · rw [hrl]; have := conts_len hrm; have := H.m4; (first | with_reducible assumption | exact Nat.le_of_ble_eq_true rfl | exact Nat.add_le_add_left (Nat.le_of_ble_eq_true rfl) _ | exact Nat.le_trans (by assumption) (Nat.le_of_ble_eq_true rfl) | exact Nat.lt_of_le_of_lt (by assumption) (Nat.le_of_ble_eq_true rfl) | exact Nat.le_trans (Nat.le_of_eq (by assumption)) (Nat.le_trans (by assumption) (Nat.le_of_ble_eq_true rfl)) | lia | omega)
        refine ⟨B', _, hB', ?_, W3⟩
        rw [e, hrl]
        exact ints_snoc hφ _ _
    · intro D C s3 B' zs vs' hφ hB' hD hC W2
      refine used_fin W1 (vs' := fun v => [none, none, none, some (.ref spl), none, none, none, some (.ref tkl), some (.ref ldl), some (.ref ctl), some (.ref LF), some (.ref EN), none, none, none, none, none, none, some v, none, none, none, none, none, none]) (fun v => by ((with_reducible (repeat first | exact Wr.head | apply Wr.tail | (apply Wr.of; assumption))))) hB' hD hC W2 (fun s4 B4 k4 _ W4 => ?_)
      rw [hcv.len] at hφ
      obtain ⟨hT1, hT2⟩ := H.least
      clear W1 W2 hz hzf hzn hk2
      show wpAny _ _ (execs _ env) _ _ _
      have F4 := F.mono k4
      have hLF4 := hLF.mono k4
      -- held == []
      refine ifs (test1 ?_ ?_)
      · rfl
      ((((with_reducible refine' ev_local (by assumption) ?rd15 ?_); (case rd15 => ((with_reducible (repeat first | exact Rd.head | apply Rd.tail | (apply Rd.of; assumption))))))))
      ((with_reducible refine' PyProof.Rows.List_ ?_))
      ((with_reducible refine' PyProof.Rows.args_nil ?_))
      ((((with_reducible refine' new_list (by assumption) ?sz18 ?_); (case sz18 => exact Nat.le_of_ble_eq_true rfl); intro _ _ _)))
      rename Wd _ _ _ _ _ _ _ _ _ => W5
      refine eq_nil (W5.at (mem_t mem_h)) (W5.at mem_h) hφ (by have := hA.units; (first | with_reducible assumption | exact Nat.le_of_ble_eq_true rfl | exact Nat.add_le_add_left (Nat.le_of_ble_eq_true rfl) _ | exact Nat.le_trans (by assumption) (Nat.le_of_ble_eq_true rfl) | exact Nat.lt_of_le_of_lt (by assumption) (Nat.le_of_ble_eq_true rfl) | exact Nat.le_trans (Nat.le_of_eq (by assumption)) (Nat.le_trans (by assumption) (Nat.le_of_ble_eq_true rfl)) | lia | omega)) ?_
      clear W4
      ((with_reducible refine' tr_bool ?_))
      have hne : (heldTo (contsOf ww d0) (endsOf ww d0 (contsOf ww d0)) (contsOf ww d0).length).isEmpty = false := by
        cases e : heldTo (contsOf ww d0) (endsOf ww d0 (contsOf ww d0)) (contsOf ww d0).length with
        | nil => rw [e] at hT1; cases hT1
        | cons _ _ => rfl
      rw [hne, if_neg (by decide)]
      refine wpAny_execs_nil ?_
      show wpAny _ _ (execs _ env) _ _ _
      -- least
      refine asgs ?_ ?_
      · rfl
      refine call_b W5 (by ((with_reducible (repeat first | exact Kd.head | apply Kd.tail)))) .min rfl ?_
      ((((with_reducible refine' args_c ?pa20 ?_); (case pa20 => rfl))))
      ((((with_reducible refine' ev_local (by assumption) ?rd21 ?_); (case rd21 => ((with_reducible (repeat first | exact Rd.head | apply Rd.tail | (apply Rd.of; assumption))))))))
      ((with_reducible refine' PyProof.Rows.args_nil ?_))
      refine l_min W5 hA.handled (W5.at (mem_t mem_h)) hφ ?_ (fun M tl s6 W6 hM hmin => ?_)
      · cases e : heldTo (contsOf ww d0) (endsOf ww d0 (contsOf ww d0)) (contsOf ww d0).length with
        | nil => rw [e] at hT1; cases hT1
        | cons _ _ => simp
      have hMT : M = ((T.length : Nat) : Int) := Int.le_antisymm (hmin _ hT1) (hT2 _ hM)
      subst hMT
      have W6 := W6.drop (os' := [(cw, .cell (some (.ref wl)))]) (.cons _ (.cons _ (.refl _)))
      clear W5
      ((((with_reducible refine' st_local (by assumption) ?wr23 ?_); (case wr23 => ((with_reducible (repeat first | exact Wr.head | apply Wr.tail | (apply Wr.of; assumption))))); intro _ _)))
      rename_i s7 W7
      clear W6
      -- order
      obtain ⟨tkv, htk, htkl⟩ := F4.taken
      obtain ⟨ldv, hld, hldl⟩ := F4.laid
      have htn : tkv.length = (takesD d0).length := by rw [ints_len htk, List.length_map]
      have hln : ldv.length = (putsD d0).length := by rw [ints_len hld, List.length_map]
      have hpn : (putsD d0).length ≤ 8 := by have := D_len d0; have := H.l0; (first | with_reducible assumption | exact Nat.le_of_ble_eq_true rfl | exact Nat.add_le_add_left (Nat.le_of_ble_eq_true rfl) _ | exact Nat.le_trans (by assumption) (Nat.le_of_ble_eq_true rfl) | exact Nat.lt_of_le_of_lt (by assumption) (Nat.le_of_ble_eq_true rfl) | exact Nat.le_trans (Nat.le_of_eq (by assumption)) (Nat.le_trans (by assumption) (Nat.le_of_ble_eq_true rfl)) | lia | omega)
      have hm4 := H.m4
      refine asgs ?_ ?_
      · rfl
      ((with_reducible refine' Subscript_ ?_))
      ((((with_reducible refine' ev_local (by assumption) ?rd25 ?_); (case rd25 => ((with_reducible (repeat first | exact Rd.head | apply Rd.tail | (apply Rd.of; assumption))))))))
      refine wpAny_Slice (evalPart_none_step (evalPart_some_step ?_))
      ((((with_reducible refine' ev_local (by assumption) ?rd26 ?_); (case rd26 => ((with_reducible (repeat first | exact Rd.head | apply Rd.tail | (apply Rd.of; assumption))))))))
      refine evalPart_none_step ?_
      refine w_slice (lo := none) (hi := some ((T.length : Nat) : Int)) W7 rfl (W7.ofB htkl) .none (.int _ _) (by (first | with_reducible assumption | exact Nat.le_of_ble_eq_true rfl | exact Nat.add_le_add_left (Nat.le_of_ble_eq_true rfl) _ | exact Nat.le_trans (by assumption) (Nat.le_of_ble_eq_true rfl) | exact Nat.lt_of_le_of_lt (by assumption) (Nat.le_of_ble_eq_true rfl) | exact Nat.le_trans (Nat.le_of_eq (by assumption)) (Nat.le_trans (by assumption) (Nat.le_of_ble_eq_true rfl)) | lia | omega)) ?_
      intro D5 s8 W8
      rw [pick_to] at W8
      clear W7
      ((((with_reducible refine' st_local (by assumption) ?wr27 ?_); (case wr27 => ((with_reducible (repeat first | exact Wr.head | apply Wr.tail | (apply Wr.of; assumption))))); intro _ _)))
      rename_i s9 W9
      clear W8
      -- for deed in taken[least:]
      refine wpAny_execs_cons (ex_for ?_ ?_)
      · ((with_reducible refine' Subscript_ ?_))
        ((((with_reducible refine' ev_local (by assumption) ?rd29 ?_); (case rd29 => ((with_reducible (repeat first | exact Rd.head | apply Rd.tail | (apply Rd.of; assumption))))))))
        refine wpAny_Slice (evalPart_some_step ?_)
        ((((with_reducible refine' ev_local (by assumption) ?rd30 ?_); (case rd30 => ((with_reducible (repeat first | exact Rd.head | apply Rd.tail | (apply Rd.of; assumption))))))))
        refine evalPart_none_step (evalPart_none_step ?_)
        refine w_slice (lo := some ((T.length : Nat) : Int)) (hi := none) W9 rfl (W9.ofB htkl) (.int _ _) .none (by (first | with_reducible assumption | exact Nat.le_of_ble_eq_true rfl | exact Nat.add_le_add_left (Nat.le_of_ble_eq_true rfl) _ | exact Nat.le_trans (by assumption) (Nat.le_of_ble_eq_true rfl) | exact Nat.lt_of_le_of_lt (by assumption) (Nat.le_of_ble_eq_true rfl) | exact Nat.le_trans (Nat.le_of_eq (by assumption)) (Nat.le_trans (by assumption) (Nat.le_of_ble_eq_true rfl)) | lia | omega)) ?_
        intro D6 s10 W10
        rw [pick_from] at W10
        clear W9
        refine Wd.freezeC W10 fun B7 k7 i7 W11 => ?_
        clear W10
        have htd : IntsAre (tkv.drop T.length) (K.map fun x => code (.t x)) := by
          have := ints_drop htk T.length
          rw [H.takes, List.map_append, List.drop_left' (by simp)] at this
          exact this
        have htt : IntsAre (tkv.take T.length) (T.map fun x => code (.t x)) := by
          have := ints_take htk T.length
          rw [H.takes, List.map_append, List.take_left' (by simp)] at this
          exact this
        refine it_list W11 (W11.ofB i7) (fun it s12 W12 _ => ?_)
        refine for_loopC (fun j B' vs' os' => ∃ dv ov, vs' = [none, none, none, some (.ref spl), none, none, dv, some (.ref tkl), some (.ref ldl), some (.ref ctl), some (.ref LF), some (.ref EN), none, none, none, none, none, none, some (.ref D), some (.int (T.length : Nat) tl), some (.ref D5), none, none, none, none] ∧
            os' = [(D5, .list ov), (cw, .cell (some (.ref wl)))] ∧ IntsAre ov (T.map (fun x => code (.t x)) ++ (K.take j).flatMap fun x => [code (.p x), code (.t x)]))
          (Steps.list hA.handled i7) (fun _ => rfl) W12 ⟨none, _, rfl, rfl, by simpa using htt⟩ ?_ ?_
        · intro j QQ v B' vs' os' s' hQQ _ _ hj hv hB hφ W'
          obtain ⟨dv, ov, rfl, rfl, hov⟩ := hφ
          replace hQQ := fun dv ov' s3 (g : IntsAre ov' (T.map (fun x => code (.t x)) ++ (K.take (j + 1)).flatMap fun x => [code (.p x), code (.t x)])) W => (hQQ B' [none, none, none, some (.ref spl), none, none, dv, some (.ref tkl), some (.ref ldl), some (.ref ctl), some (.ref LF), some (.ref EN), none, none, none, none, none, none, some (.ref D), some (.int (T.length : Nat) tl), some (.ref D5), none, none, none, none] [(D5, .list ov'), (cw, .cell (some (.ref wl)))] s3 hB ⟨dv, ov', rfl, rfl, g⟩ W).1
          obtain ⟨n, tn, rfl, hn⟩ := ints_get htd hv
          obtain ⟨x, hx, rfl⟩ : ∃ x, K[j]? = some x ∧ code (.t x) = n := by
            rw [List.getElem?_map] at hn
            cases e : K[j]? with
            | none => rw [e] at hn; cases hn
            | some x => rw [e] at hn; exact ⟨x, rfl, Option.some.inj hn⟩
          refine wpAny_assign_Name (st_local W' (by ((with_reducible (repeat first | exact Wr.head | apply Wr.tail | (apply Wr.of; assumption))))) (fun s13 W13 => ?_))
          clear W11 W12 W'
          refine ext1 rfl (.cons (IE.sub (IE.local (by ((with_reducible (repeat first | exact Rd.head | apply Rd.tail | (apply Rd.of; assumption))))))) (.cons (IE.local (by ((with_reducible (repeat first | exact Rd.head | apply Rd.tail | (apply Rd.of; assumption)))))) .nil)) (Nat.le_of_ble_eq_true rfl) W13 (by ((with_reducible (repeat first | exact Rd.head | apply Rd.tail | (apply Rd.of; assumption))))) (fun zs => .tail .head) ?_ fun zs s15 g15 W16 => ?_
          · have hK : j < K.length := (List.getElem?_eq_some_iff.mp hx).1
            have hTK : T.length + K.length ≤ 4 := by have := congrArg List.length H.takes; rw [List.length_append] at this; (first | with_reducible assumption | exact Nat.le_of_ble_eq_true rfl | exact Nat.add_le_add_left (Nat.le_of_ble_eq_true rfl) _ | exact Nat.le_trans (by assumption) (Nat.le_of_ble_eq_true rfl) | exact Nat.lt_of_le_of_lt (by assumption) (Nat.le_of_ble_eq_true rfl) | exact Nat.le_trans (Nat.le_of_eq (by assumption)) (Nat.le_trans (by assumption) (Nat.le_of_ble_eq_true rfl)) | lia | omega)
            rw [ints_len hov, List.length_append, List.length_map, List.length_flatMap, sizeLine_eq]
            have : ((K.take j).map fun x => [code (.p x), code (.t x)].length).sum = 2 * j := by
              show ((K.take j).map fun _ => 2).sum = 2 * j
              rw [List.map_const', List.sum_replicate_nat, List.length_take]
              (first | with_reducible assumption | exact Nat.le_of_ble_eq_true rfl | exact Nat.add_le_add_left (Nat.le_of_ble_eq_true rfl) _ | exact Nat.le_trans (by assumption) (Nat.le_of_ble_eq_true rfl) | exact Nat.lt_of_le_of_lt (by assumption) (Nat.le_of_ble_eq_true rfl) | exact Nat.le_trans (Nat.le_of_eq (by assumption)) (Nat.le_trans (by assumption) (Nat.le_of_ble_eq_true rfl)) | lia | omega)
            rw [this]
            show _ + 2 ≤ _
            (first | with_reducible assumption | exact Nat.le_of_ble_eq_true rfl | exact Nat.add_le_add_left (Nat.le_of_ble_eq_true rfl) _ | exact Nat.le_trans (by assumption) (Nat.le_of_ble_eq_true rfl) | exact Nat.lt_of_le_of_lt (by assumption) (Nat.le_of_ble_eq_true rfl) | exact Nat.le_trans (Nat.le_of_eq (by assumption)) (Nat.le_trans (by assumption) (Nat.le_of_ble_eq_true rfl)) | lia | omega)
          refine wpAny_execs_nil (hQQ _ _ _ ?_ W16)
          rw [List.take_add_one, hx, List.flatMap_append, ← List.append_assoc]
          rw [code_sub] at g15
          exact ints_app hov g15
        · rintro B' vs' os' s' hB ⟨dv, ov, rfl, rfl, hov⟩ W'
          have hKl : (tkv.drop T.length).length = K.length := by rw [ints_len htd, List.length_map]
          rw [hKl, List.take_of_length_le (Nat.le_refl _)] at hov
          clear W11 W12
          show wpAny _ _ (execs _ env) _ _ _
          have hTK : T.length + K.length = (takesD d0).length := by have := congrArg List.length H.takes; rw [List.length_append] at this; (first | with_reducible assumption | exact Nat.le_of_ble_eq_true rfl | exact Nat.add_le_add_left (Nat.le_of_ble_eq_true rfl) _ | exact Nat.le_trans (by assumption) (Nat.le_of_ble_eq_true rfl) | exact Nat.lt_of_le_of_lt (by assumption) (Nat.le_of_ble_eq_true rfl) | exact Nat.le_trans (Nat.le_of_eq (by assumption)) (Nat.le_trans (by assumption) (Nat.le_of_ble_eq_true rfl)) | lia | omega)
          ((((with_reducible refine' exprs (by assumption) ?nc31 ?_); (case nc31 => rfl))))
          ((((with_reducible refine' call_meth ?sd32 ?_); (case sd32 => rfl))))
          ((((with_reducible refine' ev_local (by assumption) ?rd33 ?_); (case rd33 => ((with_reducible (repeat first | exact Rd.head | apply Rd.tail | (apply Rd.of; assumption))))))))
          with_reducible refine' gm_extend (W'.at mem_h) ?_
          ((((with_reducible refine' with_builtin ?sd34 ?_); (case sd34 => rfl))))
          ((((with_reducible refine' args_c ?pa35 ?_); (case pa35 => rfl))))
          ((with_reducible refine' Subscript_ ?_))
          ((((with_reducible refine' ev_local (by assumption) ?rd37 ?_); (case rd37 => ((with_reducible (repeat first | exact Rd.head | apply Rd.tail | (apply Rd.of; assumption))))))))
          refine wpAny_Slice (evalPart_some_step ?_)
          ((with_reducible refine' wpAny_BinOp ?_))
          refine call_b W' (by ((with_reducible (repeat first | exact Kd.head | apply Kd.tail)))) .len rfl ?_
          ((((with_reducible refine' args_c ?pa39 ?_); (case pa39 => rfl))))
          ((((with_reducible refine' ev_local (by assumption) ?rd40 ?_); (case rd40 => ((with_reducible (repeat first | exact Rd.head | apply Rd.tail | (apply Rd.of; assumption))))))))
          ((with_reducible refine' PyProof.Rows.args_nil ?_))
          refine l_len W' (W'.ofB (htkl.mono (k7.trans hB))) (by (first | with_reducible assumption | exact Nat.le_of_ble_eq_true rfl | exact Nat.add_le_add_left (Nat.le_of_ble_eq_true rfl) _ | exact Nat.le_trans (by assumption) (Nat.le_of_ble_eq_true rfl) | exact Nat.lt_of_le_of_lt (by assumption) (Nat.le_of_ble_eq_true rfl) | exact Nat.le_trans (Nat.le_of_eq (by assumption)) (Nat.le_trans (by assumption) (Nat.le_of_ble_eq_true rfl)) | lia | omega)) (fun t17 s17 W17 => ?_)
          ((((with_reducible refine' ev_local (by assumption) ?rd42 ?_); (case rd42 => ((with_reducible (repeat first | exact Rd.head | apply Rd.tail | (apply Rd.of; assumption))))))))
          ((((with_reducible refine' w_sub (by assumption) ?_); intro _ _ _)))
          rename Wd _ _ _ _ _ _ _ _ _ => W18
          refine evalPart_none_step (evalPart_none_step ?_)
          have hlow : ((tkv.length : Int) - ((T.length : Nat) : Int)) = ((K.length : Nat) : Int) := by (first | with_reducible assumption | exact Nat.le_of_ble_eq_true rfl | exact Nat.add_le_add_left (Nat.le_of_ble_eq_true rfl) _ | exact Nat.le_trans (by assumption) (Nat.le_of_ble_eq_true rfl) | exact Nat.lt_of_le_of_lt (by assumption) (Nat.le_of_ble_eq_true rfl) | exact Nat.le_trans (Nat.le_of_eq (by assumption)) (Nat.le_trans (by assumption) (Nat.le_of_ble_eq_true rfl)) | lia | omega)
          rw [hlow]
          refine w_slice (lo := some ((K.length : Nat) : Int)) (hi := none) W18 rfl (W18.ofB (hldl.mono (k7.trans hB))) (.int _ _) .none (by (first | with_reducible assumption | exact Nat.le_of_ble_eq_true rfl | exact Nat.add_le_add_left (Nat.le_of_ble_eq_true rfl) _ | exact Nat.le_trans (by assumption) (Nat.le_of_ble_eq_true rfl) | exact Nat.lt_of_le_of_lt (by assumption) (Nat.le_of_ble_eq_true rfl) | exact Nat.le_trans (Nat.le_of_eq (by assumption)) (Nat.le_trans (by assumption) (Nat.le_of_ble_eq_true rfl)) | lia | omega)) ?_
          intro D7 s19 W19
          rw [pick_from] at W19
          clear W' W17 W18
          have hpd : IntsAre (ldv.drop K.length) (P.map fun x => code (.p x)) := by
            have := ints_drop hld K.length
            rw [H.puts, List.map_append, List.drop_left' (by simp)] at this
            exact this
          have hPK : K.length + P.length = (putsD d0).length := by have := congrArg List.length H.puts; rw [List.length_append] at this; (first | with_reducible assumption | exact Nat.le_of_ble_eq_true rfl | exact Nat.add_le_add_left (Nat.le_of_ble_eq_true rfl) _ | exact Nat.le_trans (by assumption) (Nat.le_of_ble_eq_true rfl) | exact Nat.lt_of_le_of_lt (by assumption) (Nat.le_of_ble_eq_true rfl) | exact Nat.le_trans (Nat.le_of_eq (by assumption)) (Nat.le_trans (by assumption) (Nat.le_of_ble_eq_true rfl)) | lia | omega)
          ((with_reducible refine' PyProof.Rows.args_nil ?_))
          show wpAny _ _ (call (.builtin "list.extend") [.ref D5, .ref _]) _ _ _
          have hfin := ints_app hov hpd
          rw [List.append_assoc, ← nf_code] at hfin
          have hfl := ints_len hfin
          rw [List.length_append, List.length_map, H.r0.len] at hfl
          have hl0 := H.l0
          refine l_extend W19 (.tail .head) (W19.at mem_h) ?_ (fun s20 W20 => ⟨rfl, ?_⟩)
          · rw [hfl, sizeLine_eq]; (first | with_reducible assumption | exact Nat.le_of_ble_eq_true rfl | exact Nat.add_le_add_left (Nat.le_of_ble_eq_true rfl) _ | exact Nat.le_trans (by assumption) (Nat.le_of_ble_eq_true rfl) | exact Nat.lt_of_le_of_lt (by assumption) (Nat.le_of_ble_eq_true rfl) | exact Nat.le_trans (Nat.le_of_eq (by assumption)) (Nat.le_trans (by assumption) (Nat.le_of_ble_eq_true rfl)) | lia | omega)
          clear W19
          -- lefts[0]
          refine ifs (test1 ?_ ?_)
          · rfl
          ((with_reducible refine' Subscript_ ?_))
          ((((with_reducible refine' ev_local (by assumption) ?rd46 ?_); (case rd46 => ((with_reducible (repeat first | exact Rd.head | apply Rd.tail | (apply Rd.of; assumption))))))))
          ((((with_reducible refine' c_int (by assumption) ?_); intro _ _ _)))
          rename Wd _ _ _ _ _ _ _ _ _ => W21
          obtain ⟨tv0, hlv0⟩ := strs_at hlv (k := 0) (n := txt (enc ww (nfD T K P))) rfl
          refine sub_list (k := 0) (x := .str (txt (enc ww (nfD T K P))) tv0) rfl (W21.ofB (hLF4.mono (k7.trans hB))) (by decide) (by decide) hlv0 ?_
          clear W20
          refine call_g W21 (by ((with_reducible (repeat first | exact Kd.head | apply Kd.tail)))) .text rfl rfl rfl ?_
          ((((with_reducible refine' args_c ?pa48 ?_); (case pa48 => rfl))))
          ((((with_reducible refine' ev_local (by assumption) ?rd49 ?_); (case rd49 => ((with_reducible (repeat first | exact Rd.head | apply Rd.tail | (apply Rd.of; assumption))))))))
          ((((with_reducible refine' args_c ?pa50 ?_); (case pa50 => rfl))))
          ((((with_reducible refine' ev_local (by assumption) ?rd51 ?_); (case rd51 => ((with_reducible (repeat first | exact Rd.head | apply Rd.tail | (apply Rd.of; assumption))))))))
          ((with_reducible refine' PyProof.Rows.args_nil ?_))
          have hss : ∀ x ∈ ssOf ww, x.length ≤ 100 := by
            intro x hx
            simp only [ssOf, List.mem_cons, List.not_mem_nil, or_false] at hx
            rcases hx with rfl | rfl | rfl | rfl
            · rw [put_txt, txt_len]; have := encD_len ww (.p false); exact Nat.le_trans this (by decide)
            · rw [put_txt, txt_len]; have := encD_len ww (.p true); exact Nat.le_trans this (by decide)
            · show 9 ≤ 100; decide
            · show 9 ≤ 100; decide
          obtain ⟨spv, hspv, hspl⟩ := F4.spelled
          refine ⟨W21.st, text_spec (n := k) W21.st (hA.less (by (first | with_reducible assumption | exact Nat.le_of_ble_eq_true rfl | exact Nat.add_le_add_left (Nat.le_of_ble_eq_true rfl) _ | exact Nat.le_trans (by assumption) (Nat.le_of_ble_eq_true rfl) | exact Nat.lt_of_le_of_lt (by assumption) (Nat.le_of_ble_eq_true rfl) | exact Nat.le_trans (Nat.le_of_eq (by assumption)) (Nat.le_trans (by assumption) (Nat.le_of_ble_eq_true rfl)) | lia | omega))) (W21.at (mem_t mem_h)) hfin (W21.ofB (hspl.mono (k7.trans hB))) hspv ?_ ?_ hss (show 4 ≤ 8 by decide) (fun t22 s22 hk22 => ?_)⟩
          · intro z hz
            obtain ⟨d, _, rfl⟩ := List.mem_map.mp hz
            have := code_range d
            exact ⟨this.1, by show code d < 4; exact this.2⟩
          · rw [List.length_map, H.r0.len]; (first | with_reducible assumption | exact Nat.le_of_ble_eq_true rfl | exact Nat.add_le_add_left (Nat.le_of_ble_eq_true rfl) _ | exact Nat.le_trans (by assumption) (Nat.le_of_ble_eq_true rfl) | exact Nat.lt_of_le_of_lt (by assumption) (Nat.le_of_ble_eq_true rfl) | exact Nat.le_trans (Nat.le_of_eq (by assumption)) (Nat.le_trans (by assumption) (Nat.le_of_ble_eq_true rfl)) | lia | omega)
          rw [textOf_enc]
          have W22 := W21.keeps hk22
          clear W21
          ((with_reducible refine' o_neS ?_))
          ((with_reducible refine' tr_bool ?_))
          rw [if_neg (by simp)]
          refine wpAny_execs_nil ?_
          have W23 := W22.drop (os' := [(cw, .cell (some (.ref wl)))]) (.cons _ (.cons _ (.refl _)))
          refine h B' _ _ tl ((k4.trans k7).trans hB) rfl (W23.forget ?_)
          exact .none (.none (.none (.none (.none (.none (.none (.same (.same (.same (.same (.same (.none (.none (.none (.none (.none (.none (.none (.same (.none (.none (.none (.none (.none .nil))))))))))))))))))))))))
      · intro _; rfl
  · intro _; rfl
end
-- Ld
section
open PySem PySem.W PyProof.Rows PyProof.V PySem.SeqAt
theorem Wr.unique {ns : List (Str × NameKind)} {vs : List (Option Value)} {x : Str} {v : Value} {a b : List (Option Value)} (h : Wr ns vs x v a) (h' : Wr ns vs x v b) (nd : (ns.map Prod.fst).Nodup) : a = b := by
  induction h generalizing b with
  | head =>
    rw [List.map_cons, List.nodup_cons] at nd
    cases h' with
    | head => rfl
    | tail h' => exact absurd (List.mem_map.mpr ⟨_, h'.kd.mem, rfl⟩) nd.1
  | tail h ih =>
    rw [List.map_cons, List.nodup_cons] at nd
    cases h' with
    | head => exact absurd (List.mem_map.mpr ⟨_, h.kd.mem, rfl⟩) nd.1
    | tail h' => rw [ih h' nd.2]
theorem strs_take : ∀ {vs : List Value} {ns : List Str}, StrsAre vs ns → ∀ k : Nat, StrsAre (vs.take k) (ns.take k) := by
  intro vs ns h
  induction h with
  | nil => intro k; simp; exact .nil
  | cons n t h ih => intro k; cases k with
    | zero => exact .nil
    | succ k => exact .cons n t (ih k)
theorem strs_drop : ∀ {vs : List Value} {ns : List Str}, StrsAre vs ns → ∀ k : Nat, StrsAre (vs.drop k) (ns.drop k) := by
  intro vs ns h
  induction h with
  | nil => intro k; simp; exact .nil
  | cons n t h ih => intro k; cases k with
    | zero => exact .cons n t h
    | succ k => exact ih k
/-- `zip_loop` with the turn's end under a name -/
theorem zip_loopC {prog : Program} {w : World} {A : Around} {E : Value → Shared → Prop} {P : Params} {s₀ s : Shared} {B₀ B : G} {env : Env} {ns : List (Str × NameKind)} {vs : List (Option Value)} {os : List (Addr × AO)}
    {z TI TO i1 i2 l1 l2 : Addr} {a b : Value} {xs ys : List Value}
    {x y : Str} {px py tp : Pos} {kk : Nat} {body : List Stmt} {Q : Flow → Shared → Prop} (φ : Nat → G → List (Option Value) → List (Addr × AO) → Prop) (hh : A.handled = none)
    (W : Wd P s₀ B₀ env ns B s vs (zipX z TI TO i1 i2 l1 l2 .none a b 0 ++ os)) (h1 : (AO.list xs).Is B l1) (h2 : (AO.list ys).Is B l2) (hlen : xs.length = ys.length) (h0 : φ 0 B vs os)
    (hw : ∀ k B' vs' os' u v, φ k B' vs' os' → ∃ v1 v2, Wr ns vs' x u v1 ∧ Wr ns v1 y v v2)
    (turn : ∀ (k : Nat) (QQ : Flow → Shared → Prop) u v B' vs' os' s' v1 v2 a b,
      (∀ B'' vs'' os'' s₃, Sub B B'' → φ (k + 1) B'' vs'' os'' → Wd P s₀ B₀ env ns B'' s₃ vs'' (zipX z TI TO i1 i2 l1 l2 .none a b (k + 1) ++ os'') → QQ .next s₃ ∧ QQ .cont s₃) → (∀ s₃, Q .next s₃ → QQ .brk s₃) → (∀ v s₃, Q (.ret v) s₃ → QQ (.ret v) s₃) →
      xs[k]? = some u → ys[k]? = some v → Sub B B' → φ k B' vs' os' → Wr ns vs' x u v1 → Wr ns v1 y v v2 → Wd P s₀ B₀ env ns B' s' v2 (zipX z TI TO i1 i2 l1 l2 .none a b (k + 1) ++ os') →
      wpAny (model prog w) A (execs body env) QQ (fun _ _ => False) s')
    (fin : ∀ B' vs' os' s', Sub B B' → φ xs.length B' vs' os' → Wd P s₀ B₀ env ns B' s' vs' os' → Q .next s') :
    wpAny (model prog w) A (runOwn (.forLoop (.Tuple [.Name x px, .Name y py] kk tp) (.ref z) body [] env) env) Q E s :=
  zip_loop φ hh W h1 h2 hlen h0 hw (fun k u v B' vs' os' s' v1 v2 a b c d e f g i j => turn k (fun f s₃ => match f with
        | .next | .cont => ∃ B'' vs'' os'', Sub B B'' ∧ φ (k + 1) B'' vs'' os'' ∧ Wd P s₀ B₀ env ns B'' s₃ vs'' (zipX z TI TO i1 i2 l1 l2 .none a b (k + 1) ++ os'')
        | .brk => Q .next s₃
        | .ret v => Q (.ret v) s₃) u v B' vs' os' s' v1 v2 a b (fun B'' vs'' os'' s₃ x y z => ⟨⟨B'', vs'', os'', x, y, z⟩, B'', vs'', os'', x, y, z⟩) (fun _ x => x) (fun _ _ x => x) c d e f g i j) fin
theorem segD {prog : Program} {w : World} {A : Around} {E : Value → Shared → Prop} {s₀ s : Shared} {B₀ : G} {env : Env} {B : G} {Q : Flow → Shared → Prop} {k : Nat} {body : List Stmt} {cw ct wl spl pl gl a0 a1 tkl ldl ctl LF EN : Addr} {ww : WW} {d0 d1 : List D} {T K P T' K' P' : List Bool} {lv ev : List Value} {tl : Tok}
    (hb : lawSeg 18 = some body) (hcells : env.cells = [(Str.ofString "told", ct), (Str.ofString "words", cw)]) (hA : AOk A (k + 13)) (H : Asked ww d0 d1 T K P T' K' P') (F : FA ww d0 d1 B wl spl pl gl a0 a1 tkl ldl ctl)
    (hlv : StrsAre lv [txt (enc ww (nfD T K P)), txt (enc ww (nfD T' K' P'))]) (hev : EvAre B ev [endsOf ww d0 (contsOf ww d0), endsOf ww d1 (contsOf ww d0)]) (hLF : (AO.list lv).Is B LF) (hEN : (AO.list ev).Is B EN)
    (W : Wd w.params s₀ B₀ env lns B s [none, none, none, none, none, none, none, some (.ref tkl), some (.ref ldl), some (.ref ctl), some (.ref LF), some (.ref EN), none, none, none, none, none, none, none, some (.int (T.length : Nat) tl), none, none, none, none, none]
        [(cw, .cell (some (.ref wl)))])
    (h : ∀ B' s' vs' os', Sub B B' → Wd w.params s₀ B₀ env lns B' s' vs' os' → Q (.ret (.bool true)) s') :
    wpAny (model prog w) A (execs body env) Q E s := by
  cases hb
  have hsz := conts_size (ww := ww) H.m4
  have hcw : env.cells.lookup (Str.ofString "words") = some cw := by rw [hcells]; rfl
  obtain ⟨e0, v0, e1, v1, rfl, he0, hv0, he1, hv1⟩ : ∃ e0 v0 e1 v1, ev = [.ref e0, .ref e1] ∧ (AO.list v0).Is B e0 ∧ EndsAre B v0 (endsOf ww d0 (contsOf ww d0)) ∧ (AO.list v1).Is B e1 ∧ EndsAre B v1 (endsOf ww d1 (contsOf ww d0)) := by
    cases hev with
    | cons a b c => cases c with
      | cons a' b' c' => cases c' with
        | nil => exact ⟨_, _, _, _, rfl, a, b, a', b'⟩
  obtain ⟨tkv, htk, htkl⟩ := F.taken
  obtain ⟨ldv, hld, hldl⟩ := F.laid
  have hm4 := H.m4
  have htn : tkv.length = (takesD d0).length := by rw [ints_len htk, List.length_map]
  have hln : ldv.length = (putsD d0).length := by rw [ints_len hld, List.length_map]
  have hpn : (putsD d0).length ≤ 8 := by have := D_len d0; have := H.l0; (first | with_reducible assumption | exact Nat.le_of_ble_eq_true rfl | exact Nat.add_le_add_left (Nat.le_of_ble_eq_true rfl) _ | exact Nat.le_trans (by assumption) (Nat.le_of_ble_eq_true rfl) | exact Nat.lt_of_le_of_lt (by assumption) (Nat.le_of_ble_eq_true rfl) | exact Nat.le_trans (Nat.le_of_eq (by assumption)) (Nat.le_trans (by assumption) (Nat.le_of_ble_eq_true rfl)) | lia | omega)
  -- puts
  have kx : env.kindOf (Str.ofString "words") = some .cell := W.kd (by ((with_reducible (repeat first | exact Kd.head | apply Kd.tail))))
  refine wpAny_execs_cons (ex_comp (cl := [(Str.ofString "words", cw)]) (swaps W (by ((with_reducible (repeat first | exact Kd.head | apply Kd.tail)))) rfl (by decide)) (by simp only [closureFor, cellOf, hcells]; rfl) rfl (by decide) ?_ ?_)
  · ((((with_reducible refine' ev_local (by assumption) ?rd1 ?_); (case rd1 => ((with_reducible (repeat first | exact Rd.head | apply Rd.tail | (apply Rd.of; assumption))))))))
    obtain ⟨t1, t2, hwl⟩ := F.words
    refine comp_used (fun j _ ys => StrsAre ys (rowS ww ((putsD d0).take j))) (vsx := fun v => [none, some v, none]) (vs' := fun v => [none, none, none, none, none, none, none, some (.ref tkl), some (.ref ldl), some (.ref ctl), some (.ref LF), some (.ref EN), none, none, none, none, none, none, none, some (.int (T.length : Nat) tl), none, some v, none, none, none]) (cns := [(Str.ofString ".0", .local), (Str.ofString "deed", .local), (Str.ofString "words", .cell)]) hA.handled W (W.ofB hldl)
      (by (first | with_reducible assumption | exact Nat.le_of_ble_eq_true rfl | exact Nat.add_le_add_left (Nat.le_of_ble_eq_true rfl) _ | exact Nat.le_trans (by assumption) (Nat.le_of_ble_eq_true rfl) | exact Nat.lt_of_le_of_lt (by assumption) (Nat.le_of_ble_eq_true rfl) | exact Nat.le_trans (Nat.le_of_eq (by assumption)) (Nat.le_trans (by assumption) (Nat.le_of_ble_eq_true rfl)) | lia | omega)) rfl (by decide) (by simp only [relabel, List.map, W.kind, kx]; rfl) (by decide) (by decide) (fun v => .tail .head) (fun v => by ((with_reducible (repeat first | exact Wr.head | apply Wr.tail | (apply Wr.of; assumption))))) .nil ?_ ?_
    · rintro j' v cenv I D' B'' s'' ys hv' hφ' hys hB' ⟨C, rfl⟩ W9
      obtain ⟨kk, td, rfl, hkk⟩ := ints_get hld hv'
      obtain ⟨x, hx, rfl⟩ : ∃ x, (putsD d0)[j']? = some x ∧ code (.p x) = kk := by
        rw [List.getElem?_map] at hkk
        cases e : (putsD d0)[j']? with
        | none => rw [e] at hkk; cases hkk
        | some d => rw [e] at hkk; exact ⟨d, rfl, Option.some.inj hkk⟩
      obtain ⟨tx, hat⟩ := wd_at ww x t1 t2
      refine wpAny_tests_nil (.inr ⟨rfl, ?_⟩)
      dsimp only at W9
      have up : Sub s.heap.get? s''.heap.get? := hB'.trans W9.keep
      ((with_reducible refine' Subscript_ ?_))
      refine ev_cell W9 (.tail (.tail .head)) rfl ((W.at mem_h).mono up) ?_
      ((((with_reducible refine' ev_local (by assumption) ?rd3 ?_); (case rd3 => ((with_reducible (repeat first | exact Rd.head | apply Rd.tail | (apply Rd.of; assumption))))))))
      refine sub_list (x := .str (wdS ww x) tx) rfl (((hwl.mono W.keep).mono hB').mono W9.keep) (code_range (.p x)).1 (Int.lt_trans (code_range (.p x)).2 (by decide)) hat ?_
      refine ⟨B'', _, hB', ?_, W9⟩
      show StrsAre _ _
      rw [List.take_add_one, hx]
      unfold rowS
      rw [List.map_append]
      exact strs_snoc hφ' _ _
    · intro pul s1 B1' B1 puv hpu k1 _ W1
      rw [hln, List.take_of_length_le (Nat.le_refl _)] at hpu
      refine Wd.freezeC W1 fun B2 k2 i2 W2 => ?_
      clear W1
      have F2 := (F.mono k1).mono k2
      show wpAny _ _ (execs _ env) _ _ _
      -- takes
      refine wpAny_execs_cons (ex_comp (cl := [(Str.ofString "words", cw)]) (swaps W2 (by ((with_reducible (repeat first | exact Kd.head | apply Kd.tail)))) rfl (by decide)) (by simp only [closureFor, cellOf, hcells]; rfl) rfl (by decide) ?_ ?_)
      · ((((with_reducible refine' ev_local (by assumption) ?rd4 ?_); (case rd4 => ((with_reducible (repeat first | exact Rd.head | apply Rd.tail | (apply Rd.of; assumption))))))))
        obtain ⟨t1, t2, hwl⟩ := F2.words
        refine comp_used (fun j _ ys => StrsAre ys (rowS ww ((takesD d0).take j))) (vsx := fun v => [none, some v, none]) (vs' := fun v => [none, none, none, none, none, none, none, some (.ref tkl), some (.ref ldl), some (.ref ctl), some (.ref LF), some (.ref EN), none, none, none, none, none, none, none, some (.int (T.length : Nat) tl), none, some (.ref pul), some v, none, none]) (cns := [(Str.ofString ".0", .local), (Str.ofString "deed", .local), (Str.ofString "words", .cell)]) hA.handled W2 (W2.ofB ((htkl.mono k1).mono k2))
          (by (first | with_reducible assumption | exact Nat.le_of_ble_eq_true rfl | exact Nat.add_le_add_left (Nat.le_of_ble_eq_true rfl) _ | exact Nat.le_trans (by assumption) (Nat.le_of_ble_eq_true rfl) | exact Nat.lt_of_le_of_lt (by assumption) (Nat.le_of_ble_eq_true rfl) | exact Nat.le_trans (Nat.le_of_eq (by assumption)) (Nat.le_trans (by assumption) (Nat.le_of_ble_eq_true rfl)) | lia | omega)) rfl (by decide) (by simp only [relabel, List.map, W2.kind, kx]; rfl) (by decide) (by decide) (fun v => .tail .head) (fun v => by ((with_reducible (repeat first | exact Wr.head | apply Wr.tail | (apply Wr.of; assumption))))) .nil ?_ ?_
        · rintro j' v cenv I D' B'' s'' ys hv' hφ' hys hB' ⟨C, rfl⟩ W9
          obtain ⟨kk, td, rfl, hkk⟩ := ints_get htk hv'
          obtain ⟨x, hx, rfl⟩ : ∃ x, (takesD d0)[j']? = some x ∧ code (.t x) = kk := by
            rw [List.getElem?_map] at hkk
            cases e : (takesD d0)[j']? with
            | none => rw [e] at hkk; cases hkk
            | some d => rw [e] at hkk; exact ⟨d, rfl, Option.some.inj hkk⟩
          obtain ⟨tx, hat⟩ := wd_at ww x t1 t2
          refine wpAny_tests_nil (.inr ⟨rfl, ?_⟩)
          dsimp only at W9
          have up : Sub s1.heap.get? s''.heap.get? := hB'.trans W9.keep
          ((with_reducible refine' Subscript_ ?_))
          refine ev_cell W9 (.tail (.tail .head)) rfl ((W2.at mem_h).mono up) ?_
          ((with_reducible refine' wpAny_BinOp ?_))
          ((((with_reducible refine' ev_local (by assumption) ?rd7 ?_); (case rd7 => ((with_reducible (repeat first | exact Rd.head | apply Rd.tail | (apply Rd.of; assumption))))))))
          ((((with_reducible refine' c_int (by assumption) ?_); intro _ _ _)))
          ((((with_reducible refine' w_sub (by assumption) ?_); intro _ _ _)))
          rename Wd _ _ _ _ _ _ _ _ _ => W10
          rw [code_sub]
          refine sub_list (x := .str (wdS ww x) tx) rfl (((hwl.mono W2.keep).mono hB').mono W10.keep) (code_range (.p x)).1 (Int.lt_trans (code_range (.p x)).2 (by decide)) hat ?_
          refine ⟨B'', _, hB', ?_, W10⟩
          show StrsAre _ _
          rw [List.take_add_one, hx]
          unfold rowS
          rw [List.map_append]
          exact strs_snoc hφ' _ _
        · intro tal s3 B3' B3 tav hta k3 _ W3
          rw [htn, List.take_of_length_le (Nat.le_refl _)] at hta
          refine Wd.freezeC W3 fun B4 k4 i4 W4 => ?_
          clear W W2 W3
          have i2' := (i2.mono k3).mono k4
          have F4 := (F2.mono k3).mono k4
          have kk := (k1.trans k2).trans (k3.trans k4)
          show wpAny _ _ (execs _ env) _ _ _
          obtain ⟨cv, hcv, hctl⟩ := F4.conts
          have hv04 := hv0.mono kk
          have hll : cv.length = v0.length := by rw [hcv.len, hv04.len]; unfold endsOf; rw [List.length_map]
          have hpul : puv.length = (putsD d0).length := by rw [strs_len hpu]; simp [rowS]
          have htal : tav.length = (takesD d0).length := by rw [strs_len hta]; simp [rowS]
          -- the contents
          refine wpAny_execs_cons (ex_for ?_ ?_)
          · refine call_t W4 (by ((with_reducible (repeat first | exact Kd.head | apply Kd.tail)))) .zip rfl ?_
            ((((with_reducible refine' args_c ?pa10 ?_); (case pa10 => rfl))))
            ((((with_reducible refine' ev_local (by assumption) ?rd11 ?_); (case rd11 => ((with_reducible (repeat first | exact Rd.head | apply Rd.tail | (apply Rd.of; assumption))))))))
            ((((with_reducible refine' args_c ?pa12 ?_); (case pa12 => rfl))))
            ((with_reducible refine' Subscript_ ?_))
            ((((with_reducible refine' ev_local (by assumption) ?rd14 ?_); (case rd14 => ((with_reducible (repeat first | exact Rd.head | apply Rd.tail | (apply Rd.of; assumption))))))))
            ((((with_reducible refine' c_int (by assumption) ?_); intro _ _ _)))
            rename Wd _ _ _ _ _ _ _ _ _ => W5
            refine sub_list (k := 0) (x := .ref e0) rfl (W5.ofB (hEN.mono kk)) (by decide) (by decide) rfl ?_
            ((with_reducible refine' PyProof.Rows.args_nil ?_))
            refine z_call W5 (W5.ofB hctl) (W5.ofB (he0.mono kk)) (fun z TI TO i1 i2 s6 W6 => ?_)
            clear W4 W5
            refine wpAny_pyIter_zip (W6.at mem_h) ?_
            refine zip_loopC (fun j B' vs' os' => ∃ cvv evv rvv gvv, vs' = [none, none, none, none, none, none, none, some (.ref tkl), some (.ref ldl), some (.ref ctl), some (.ref LF), some (.ref EN), none, none, none, none, cvv, evv, none, some (.int (T.length : Nat) tl), none, some (.ref pul), some (.ref tal), rvv, gvv] ∧ os' = [(cw, .cell (some (.ref wl)))]) hA.handled W6 hctl (he0.mono kk) hll ⟨none, none, none, none, rfl, rfl⟩ ?_ ?_ ?_
            · rintro j B' vs' os' u v ⟨cvv, evv, rvv, gvv, rfl, rfl⟩
              exact ⟨_, _, by ((with_reducible (repeat first | exact Wr.head | apply Wr.tail | (apply Wr.of; assumption)))), by ((with_reducible (repeat first | exact Wr.head | apply Wr.tail | (apply Wr.of; assumption))))⟩
            · intro j QQ u v B' vs' os' s7 v1' v2' a b hQQ _ _ hu hv hB hφ w1 w2 W7
              obtain ⟨cvv, evv, rvv, gvv, rfl, rfl⟩ := hφ
              replace hQQ := fun cvv evv rvv gvv s3 W => (hQQ B' [none, none, none, none, none, none, none, some (.ref tkl), some (.ref ldl), some (.ref ctl), some (.ref LF), some (.ref EN), none, none, none, none, cvv, evv, none, some (.int (T.length : Nat) tl), none, some (.ref pul), some (.ref tal), rvv, gvv] [(cw, .cell (some (.ref wl)))] s3 hB ⟨cvv, evv, rvv, gvv, rfl, rfl⟩ W).1
              obtain rfl := Wr.unique w1 (by ((with_reducible (repeat first | exact Wr.head | apply Wr.tail | (apply Wr.of; assumption))))) W7.nd
              obtain rfl := Wr.unique w2 (by ((with_reducible (repeat first | exact Wr.head | apply Wr.tail | (apply Wr.of; assumption))))) W7.nd
              clear W6
              obtain ⟨cr, rv, rr, rfl, hcr, hrr, hrk⟩ := hcv.get hu
              obtain ⟨o, hvo, hok⟩ := hv04.get hv
              have hrm := List.mem_of_getElem? hrk
              have ho : o = runP (d0.map (tokS ww)) rr := by
                have : (endsOf ww d0 (contsOf ww d0))[j]? = some (runP (d0.map (tokS ww)) rr) := by unfold endsOf; rw [List.getElem?_map, hrk]; rfl
                rw [this] at hok; exact (Option.some.inj hok).symm
              have hrl : rv.length = rr.length := strs_len hrr
              have hrn := conts_len hrm
              have hokr : ∀ x ∈ rr ++ rowS ww (putsD d0), PyData.strOk x = true := by
                intro x hx
                rcases List.mem_append.mp hx with hx | hx
                · obtain ⟨c, _, e⟩ := (contN_iff ww _ _).mp hrm
                  rw [e] at hx
                  exact strOk_row H.hw c x hx
                · exact strOk_row H.hw _ x hx
              -- row
              refine asgs ?_ ?_
              · rfl
              ((with_reducible refine' wpAny_BinOp ?_))
              ((((with_reducible refine' ev_local (by assumption) ?rd18 ?_); (case rd18 => ((with_reducible (repeat first | exact Rd.head | apply Rd.tail | (apply Rd.of; assumption))))))))
              ((((with_reducible refine' ev_local (by assumption) ?rd19 ?_); (case rd19 => ((with_reducible (repeat first | exact Rd.head | apply Rd.tail | (apply Rd.of; assumption))))))))
              refine w_addL W7 (W7.ofB (hcr.mono hB)) (W7.ofB (i2'.mono hB)) ?_ (fun R s8 W8 => ?_)
              · rw [sizeLine_eq]; (first | with_reducible assumption | exact Nat.le_of_ble_eq_true rfl | exact Nat.add_le_add_left (Nat.le_of_ble_eq_true rfl) _ | exact Nat.le_trans (by assumption) (Nat.le_of_ble_eq_true rfl) | exact Nat.lt_of_le_of_lt (by assumption) (Nat.le_of_ble_eq_true rfl) | exact Nat.le_trans (Nat.le_of_eq (by assumption)) (Nat.le_trans (by assumption) (Nat.le_of_ble_eq_true rfl)) | lia | omega)
              clear W7
              ((((with_reducible refine' st_local (by assumption) ?wr20 ?_); (case wr20 => ((with_reducible (repeat first | exact Wr.head | apply Wr.tail | (apply Wr.of; assumption))))); intro _ _)))
              rename_i s9 W9
              clear W8
              have hrow := strs_app hrr hpu
              have hrowl : (rv ++ puv).length = rr.length + (putsD d0).length := by rw [List.length_append]; (first | with_reducible assumption | exact Nat.le_of_ble_eq_true rfl | exact Nat.add_le_add_left (Nat.le_of_ble_eq_true rfl) _ | exact Nat.le_trans (by assumption) (Nat.le_of_ble_eq_true rfl) | exact Nat.lt_of_le_of_lt (by assumption) (Nat.le_of_ble_eq_true rfl) | exact Nat.le_trans (Nat.le_of_eq (by assumption)) (Nat.le_trans (by assumption) (Nat.le_of_ble_eq_true rfl)) | lia | omega)
              -- goes
              refine asgs ?_ ?_
              · rfl
              refine wpAny_mono (Q := fun gv s' => gv = .bool (decide (T.length ≤ rr.length) && decide ((rr ++ rowS ww (putsD d0)).take (rowS ww (takesD d0)).length = rowS ww (takesD d0))) ∧
                Wd w.params s₀ B₀ env lns B' s' [none, none, none, none, none, none, none, some (.ref tkl), some (.ref ldl), some (.ref ctl), some (.ref LF), some (.ref EN), none, none, none, none, some (.ref cr), some v, none, some (.int (T.length : Nat) tl), none, some (.ref pul), some (.ref tal), some (.ref R), gvv] ((R, .list (rv ++ puv)) :: (zipX z TI TO i1 i2 ctl e0 .none a b (j + 1) ++ [(cw, .cell (some (.ref wl)))]))) ?_ ?_ (fun _ _ x => x)
              · refine PyProof.Rows.BoolOp_and ?_
                ((((with_reducible refine' cmp1 ?nm21 ?_); (case nm21 => rfl))))
                refine call_b W9 (by ((with_reducible (repeat first | exact Kd.head | apply Kd.tail)))) .len rfl ?_
                ((((with_reducible refine' args_c ?pa22 ?_); (case pa22 => rfl))))
                ((((with_reducible refine' ev_local (by assumption) ?rd23 ?_); (case rd23 => ((with_reducible (repeat first | exact Rd.head | apply Rd.tail | (apply Rd.of; assumption))))))))
                ((with_reducible refine' PyProof.Rows.args_nil ?_))
                refine l_len W9 (W9.ofB (hcr.mono hB)) (by (first | with_reducible assumption | exact Nat.le_of_ble_eq_true rfl | exact Nat.add_le_add_left (Nat.le_of_ble_eq_true rfl) _ | exact Nat.le_trans (by assumption) (Nat.le_of_ble_eq_true rfl) | exact Nat.lt_of_le_of_lt (by assumption) (Nat.le_of_ble_eq_true rfl) | exact Nat.le_trans (Nat.le_of_eq (by assumption)) (Nat.le_trans (by assumption) (Nat.le_of_ble_eq_true rfl)) | lia | omega)) (fun t10 s10 W10 => ?_)
                clear W9
                ((((with_reducible refine' ev_local (by assumption) ?rd25 ?_); (case rd25 => ((with_reducible (repeat first | exact Rd.head | apply Rd.tail | (apply Rd.of; assumption))))))))
                ((with_reducible refine' w_ge ?_))
                ((with_reducible refine' tr_bool ?_))
                by_cases hT : T.length ≤ rr.length
                · have hT' : decide (((T.length : Nat) : Int) ≤ (rv.length : Int)) = true := by rw [decide_eq_true_iff]; (first | with_reducible assumption | exact Nat.le_of_ble_eq_true rfl | exact Nat.add_le_add_left (Nat.le_of_ble_eq_true rfl) _ | exact Nat.le_trans (by assumption) (Nat.le_of_ble_eq_true rfl) | exact Nat.lt_of_le_of_lt (by assumption) (Nat.le_of_ble_eq_true rfl) | exact Nat.le_trans (Nat.le_of_eq (by assumption)) (Nat.le_trans (by assumption) (Nat.le_of_ble_eq_true rfl)) | lia | omega)
                  rw [hT', if_pos rfl]
                  refine PyProof.Rows.BoolOp_one ?_
                  ((((with_reducible refine' cmp1 ?nm28 ?_); (case nm28 => rfl))))
                  ((with_reducible refine' Subscript_ ?_))
                  ((((with_reducible refine' ev_local (by assumption) ?rd30 ?_); (case rd30 => ((with_reducible (repeat first | exact Rd.head | apply Rd.tail | (apply Rd.of; assumption))))))))
                  refine wpAny_Slice (evalPart_none_step (evalPart_some_step ?_))
                  refine call_b W10 (by ((with_reducible (repeat first | exact Kd.head | apply Kd.tail)))) .len rfl ?_
                  ((((with_reducible refine' args_c ?pa31 ?_); (case pa31 => rfl))))
                  ((((with_reducible refine' ev_local (by assumption) ?rd32 ?_); (case rd32 => ((with_reducible (repeat first | exact Rd.head | apply Rd.tail | (apply Rd.of; assumption))))))))
                  ((with_reducible refine' PyProof.Rows.args_nil ?_))
                  refine l_len W10 (W10.ofB (i4.mono hB)) (by (first | with_reducible assumption | exact Nat.le_of_ble_eq_true rfl | exact Nat.add_le_add_left (Nat.le_of_ble_eq_true rfl) _ | exact Nat.le_trans (by assumption) (Nat.le_of_ble_eq_true rfl) | exact Nat.lt_of_le_of_lt (by assumption) (Nat.le_of_ble_eq_true rfl) | exact Nat.le_trans (Nat.le_of_eq (by assumption)) (Nat.le_trans (by assumption) (Nat.le_of_ble_eq_true rfl)) | lia | omega)) (fun t11 s11 W11 => ?_)
                  refine evalPart_none_step ?_
                  refine w_slice (lo := none) (hi := some ((tav.length : Nat) : Int)) W11 rfl (W11.at mem_h) .none (.int _ _) (by (first | with_reducible assumption | exact Nat.le_of_ble_eq_true rfl | exact Nat.add_le_add_left (Nat.le_of_ble_eq_true rfl) _ | exact Nat.le_trans (by assumption) (Nat.le_of_ble_eq_true rfl) | exact Nat.lt_of_le_of_lt (by assumption) (Nat.le_of_ble_eq_true rfl) | exact Nat.le_trans (Nat.le_of_eq (by assumption)) (Nat.le_trans (by assumption) (Nat.le_of_ble_eq_true rfl)) | lia | omega)) ?_
                  intro D12 s12 W12
                  rw [pick_to] at W12
                  clear W10 W11
                  ((((with_reducible refine' ev_local (by assumption) ?rd34 ?_); (case rd34 => ((with_reducible (repeat first | exact Rd.head | apply Rd.tail | (apply Rd.of; assumption))))))))
                  have htk' : (rowS ww (takesD d0)).length = tav.length := by rw [strs_len hta]
                  have hst : StrsAre ((rv ++ puv).take tav.length) ((rr ++ rowS ww (putsD d0)).take (rowS ww (takesD d0)).length) := by
                    rw [htk']
                    clear W12
                    exact strs_take hrow _
                  refine eq_strs (W12.at mem_h) (W12.ofB (i4.mono hB)) hst hta (fun x hx => hokr x (List.mem_of_mem_take hx)) (strOk_row H.hw _) (by have := hA.units; (first | with_reducible assumption | exact Nat.le_of_ble_eq_true rfl | exact Nat.add_le_add_left (Nat.le_of_ble_eq_true rfl) _ | exact Nat.le_trans (by assumption) (Nat.le_of_ble_eq_true rfl) | exact Nat.lt_of_le_of_lt (by assumption) (Nat.le_of_ble_eq_true rfl) | exact Nat.le_trans (Nat.le_of_eq (by assumption)) (Nat.le_trans (by assumption) (Nat.le_of_ble_eq_true rfl)) | lia | omega)) ?_
                  refine ⟨?_, W12.drop (.cons _ (.refl _))⟩
                  rw [decide_eq_true hT, Bool.true_and]
                · have hT' : decide (((T.length : Nat) : Int) ≤ (rv.length : Int)) = false := by rw [decide_eq_false_iff_not]; (first | with_reducible assumption | exact Nat.le_of_ble_eq_true rfl | exact Nat.add_le_add_left (Nat.le_of_ble_eq_true rfl) _ | exact Nat.le_trans (by assumption) (Nat.le_of_ble_eq_true rfl) | exact Nat.lt_of_le_of_lt (by assumption) (Nat.le_of_ble_eq_true rfl) | exact Nat.le_trans (Nat.le_of_eq (by assumption)) (Nat.le_trans (by assumption) (Nat.le_of_ble_eq_true rfl)) | lia | omega)
                  rw [hT', if_neg (by decide)]
                  refine ⟨?_, W10⟩
                  rw [decide_eq_false hT, Bool.false_and]
              · rintro gv s10 ⟨rfl, W10⟩
                clear W9
                ((((with_reducible refine' st_local (by assumption) ?wr35 ?_); (case wr35 => ((with_reducible (repeat first | exact Wr.head | apply Wr.tail | (apply Wr.of; assumption))))); intro _ _)))
                rename_i s11 W11
                clear W10
                refine ifs (test1 ?_ ?_)
                · rfl
                ((((with_reducible refine' ev_local (by assumption) ?rd36 ?_); (case rd36 => ((with_reducible (repeat first | exact Rd.head | apply Rd.tail | (apply Rd.of; assumption))))))))
                refine IfExp_ (isTrue_plain ?_)
                ((((with_reducible refine' ev_local (by assumption) ?rd37 ?_); (case rd37 => ((with_reducible (repeat first | exact Rd.head | apply Rd.tail | (apply Rd.of; assumption))))))))
                ((with_reducible refine' tr_bool ?_))
                have hend := H.end0 hrm
                rw [← ho] at hend
                have hOk := H.okO.1 o (List.mem_of_getElem? hok)
                have hvB : EndV B' v o := hvo.mono hB
                have htk' : (rowS ww (takesD d0)).length = tav.length := by rw [strs_len hta]
                by_cases hg : T.length ≤ rr.length ∧ (rr ++ rowS ww (putsD d0)).take (rowS ww (takesD d0)).length = rowS ww (takesD d0)
                · rw [if_pos (by rw [decide_eq_true hg.1, decide_eq_true hg.2]; rfl)]
                  rw [if_pos hg] at hend
                  ((with_reducible refine' Subscript_ ?_))
                  ((((with_reducible refine' ev_local (by assumption) ?rd40 ?_); (case rd40 => ((with_reducible (repeat first | exact Rd.head | apply Rd.tail | (apply Rd.of; assumption))))))))
                  refine wpAny_Slice (evalPart_some_step ?_)
                  refine call_b W11 (by ((with_reducible (repeat first | exact Kd.head | apply Kd.tail)))) .len rfl ?_
                  ((((with_reducible refine' args_c ?pa41 ?_); (case pa41 => rfl))))
                  ((((with_reducible refine' ev_local (by assumption) ?rd42 ?_); (case rd42 => ((with_reducible (repeat first | exact Rd.head | apply Rd.tail | (apply Rd.of; assumption))))))))
                  ((with_reducible refine' PyProof.Rows.args_nil ?_))
                  refine l_len W11 (W11.ofB (i4.mono hB)) (by (first | with_reducible assumption | exact Nat.le_of_ble_eq_true rfl | exact Nat.add_le_add_left (Nat.le_of_ble_eq_true rfl) _ | exact Nat.le_trans (by assumption) (Nat.le_of_ble_eq_true rfl) | exact Nat.lt_of_le_of_lt (by assumption) (Nat.le_of_ble_eq_true rfl) | exact Nat.le_trans (Nat.le_of_eq (by assumption)) (Nat.le_trans (by assumption) (Nat.le_of_ble_eq_true rfl)) | lia | omega)) (fun t12 s12 W12 => ?_)
                  refine evalPart_none_step (evalPart_none_step ?_)
                  refine w_slice (lo := some ((tav.length : Nat) : Int)) (hi := none) W12 rfl (W12.at mem_h) (.int _ _) .none (by (first | with_reducible assumption | exact Nat.le_of_ble_eq_true rfl | exact Nat.add_le_add_left (Nat.le_of_ble_eq_true rfl) _ | exact Nat.le_trans (by assumption) (Nat.le_of_ble_eq_true rfl) | exact Nat.lt_of_le_of_lt (by assumption) (Nat.le_of_ble_eq_true rfl) | exact Nat.le_trans (Nat.le_of_eq (by assumption)) (Nat.le_trans (by assumption) (Nat.le_of_ble_eq_true rfl)) | lia | omega)) ?_
                  intro D13 s13 W13
                  rw [pick_from] at W13
                  clear W11 W12
                  refine ne_endV (o := o) (hvB.mono W13.keep) (.inr ⟨_, D13, _, hend, rfl, ?_, W13.at mem_h⟩) hOk (by have := hA.units; (first | with_reducible assumption | exact Nat.le_of_ble_eq_true rfl | exact Nat.add_le_add_left (Nat.le_of_ble_eq_true rfl) _ | exact Nat.le_trans (by assumption) (Nat.le_of_ble_eq_true rfl) | exact Nat.lt_of_le_of_lt (by assumption) (Nat.le_of_ble_eq_true rfl) | exact Nat.le_trans (Nat.le_of_eq (by assumption)) (Nat.le_trans (by assumption) (Nat.le_of_ble_eq_true rfl)) | lia | omega)) ?_
                  · rw [htk']; exact strs_drop hrow _
                  ((with_reducible refine' tr_bool ?_))
                  rw [if_neg (by decide)]
                  refine wpAny_execs_nil ?_
                  show wpAny _ _ _ _ _ _
                  refine wpAny_execs_nil (hQQ _ _ _ _ _ (W13.drop (.cons _ (.cons _ (.refl _)))))
                · rw [if_neg (by
                    intro e
                    rw [Bool.and_eq_true, decide_eq_true_iff, decide_eq_true_iff] at e
                    exact hg e)]
                  rw [if_neg hg] at hend
                  ((with_reducible refine' c_none ?_))
                  refine ne_endV (o := o) (hvB.mono W11.keep) (.inl ⟨hend, rfl⟩) hOk (by have := hA.units; (first | with_reducible assumption | exact Nat.le_of_ble_eq_true rfl | exact Nat.add_le_add_left (Nat.le_of_ble_eq_true rfl) _ | exact Nat.le_trans (by assumption) (Nat.le_of_ble_eq_true rfl) | exact Nat.lt_of_le_of_lt (by assumption) (Nat.le_of_ble_eq_true rfl) | exact Nat.le_trans (Nat.le_of_eq (by assumption)) (Nat.le_trans (by assumption) (Nat.le_of_ble_eq_true rfl)) | lia | omega)) ?_
                  ((with_reducible refine' tr_bool ?_))
                  rw [if_neg (by decide)]
                  refine wpAny_execs_nil ?_
                  show wpAny _ _ _ _ _ _
                  refine wpAny_execs_nil (hQQ _ _ _ _ _ (W11.drop (.cons _ (.refl _))))
            · rintro B' vs' os' s7 hB ⟨cvv, evv, rvv, gvv, rfl, rfl⟩ W7
              clear W6
              show wpAny _ _ (execs _ env) _ _ _
              ((with_reducible refine' rets ?_))
              ((((with_reducible refine' cmp1 ?nm48 ?_); (case nm48 => rfl))))
              ((((with_reducible refine' cmp1 ?nm49 ?_); (case nm49 => rfl))))
              ((with_reducible refine' Subscript_ ?_))
              ((((with_reducible refine' ev_local (by assumption) ?rd51 ?_); (case rd51 => ((with_reducible (repeat first | exact Rd.head | apply Rd.tail | (apply Rd.of; assumption))))))))
              ((((with_reducible refine' c_int (by assumption) ?_); intro _ _ _)))
              rename Wd _ _ _ _ _ _ _ _ _ => W8
              obtain ⟨tv0, hlv0⟩ := strs_at hlv (k := 0) (n := txt (enc ww (nfD T K P))) rfl
              obtain ⟨tv1, hlv1⟩ := strs_at hlv (k := 1) (n := txt (enc ww (nfD T' K' P'))) rfl
              refine sub_list (k := 0) (x := .str _ tv0) rfl (W8.ofB ((hLF.mono kk).mono hB)) (by decide) (by decide) hlv0 ?_
              ((with_reducible refine' Subscript_ ?_))
              ((((with_reducible refine' ev_local (by assumption) ?rd54 ?_); (case rd54 => ((with_reducible (repeat first | exact Rd.head | apply Rd.tail | (apply Rd.of; assumption))))))))
              ((((with_reducible refine' c_int (by assumption) ?_); intro _ _ _)))
              rename Wd _ _ _ _ _ _ _ _ _ => W9
              refine sub_list (k := 1) (x := .str _ tv1) rfl (W9.ofB ((hLF.mono kk).mono hB)) (by decide) (by decide) hlv1 ?_
              ((with_reducible refine' o_eqS ?_))
              ((((with_reducible refine' cmp1 ?nm57 ?_); (case nm57 => rfl))))
              ((with_reducible refine' Subscript_ ?_))
              ((((with_reducible refine' ev_local (by assumption) ?rd59 ?_); (case rd59 => ((with_reducible (repeat first | exact Rd.head | apply Rd.tail | (apply Rd.of; assumption))))))))
              ((((with_reducible refine' c_int (by assumption) ?_); intro _ _ _)))
              rename Wd _ _ _ _ _ _ _ _ _ => W10
              refine sub_list (k := 0) (x := .ref e0) rfl (W10.ofB ((hEN.mono kk).mono hB)) (by decide) (by decide) rfl ?_
              ((with_reducible refine' Subscript_ ?_))
              ((((with_reducible refine' ev_local (by assumption) ?rd62 ?_); (case rd62 => ((with_reducible (repeat first | exact Rd.head | apply Rd.tail | (apply Rd.of; assumption))))))))
              ((((with_reducible refine' c_int (by assumption) ?_); intro _ _ _)))
              rename Wd _ _ _ _ _ _ _ _ _ => W11
              refine sub_list (k := 1) (x := .ref e1) rfl (W11.ofB ((hEN.mono kk).mono hB)) (by decide) (by decide) rfl ?_
              have kb := (kk.trans hB).trans W11.keep
              refine eq_ends (he0.mono kb) (he1.mono kb) (hv0.mono kb) (hv1.mono kb) H.okO.1 H.okO.2 (by have := hA.units; (first | with_reducible assumption | exact Nat.le_of_ble_eq_true rfl | exact Nat.add_le_add_left (Nat.le_of_ble_eq_true rfl) _ | exact Nat.le_trans (by assumption) (Nat.le_of_ble_eq_true rfl) | exact Nat.lt_of_le_of_lt (by assumption) (Nat.le_of_ble_eq_true rfl) | exact Nat.le_trans (Nat.le_of_eq (by assumption)) (Nat.le_trans (by assumption) (Nat.le_of_ble_eq_true rfl)) | lia | omega)) ?_
              refine PyProof.Rows.eq_bool ?_
              have hl : ((txt (enc ww (nfD T K P)) == txt (enc ww (nfD T' K' P'))) == decide (endsOf ww d0 (contsOf ww d0) = endsOf ww d1 (contsOf ww d0))) = true := by
                by_cases e : txt (enc ww (nfD T K P)) = txt (enc ww (nfD T' K' P'))
                · rw [decide_eq_true (H.last.mp e), e]; simp
                · rw [decide_eq_false (fun q => e (H.last.mpr q)), beq_eq_false_iff_ne.mpr e]; rfl
              rw [hl]
              exact h _ _ _ _ (kk.trans hB) W11
          · intro _; rfl
      · intro _; rfl
  · intro _; rfl
end
-- Fi
section
open PySem PySem.W PyProof.Rows PyProof.V PySem.SeqAt
noncomputable def mainIn (P : Params) (x : Str) : Option (Option Value) := match (hd.heap_39 P).lookup mainGlobals with
  | some o => (match o.data with
    | .dict es _ => some (nsFind es x)
    | _ => none)
  | none => none
theorem main_of {P : Params} {h : Heap} {mg : Str → Option Value} (X : (hd.heap_39 P).In h) (g : h.Ns mainGlobals mg) {x : Str} {r : Option Value} (e : mainIn P x = some r) : mg x = r := by
  obtain ⟨o, es, ep, ho, hdt, _, hm⟩ := g
  unfold mainIn at e
  split at e
  · rename_i o' ho'
    have := X _ _ ho'
    rw [ho] at this
    cases this
    rw [hdt] at e
    dsimp only at e
    rw [← hm x]
    exact Option.some.inj e
  · cases e
section
variable (P : Params)
theorem g_replace : mainIn P (Str.ofString "replace") = some (some (.ref 21)) := by kernel_rfl
theorem g_netrclex : mainIn P (Str.ofString "_netrclex") = some (some (.ref 59)) := by kernel_rfl
theorem g_words : mainIn P (Str.ofString "_law_words") = some (some (.ref 70)) := by kernel_rfl
theorem g_spelled : mainIn P (Str.ofString "_law_spelled") = some (some (.ref 75)) := by kernel_rfl
theorem g_programs : mainIn P (Str.ofString "_law_programs") = some (some (.ref 80)) := by kernel_rfl
theorem g_text : mainIn P (Str.ofString "_law_text") = some (some (.ref 85)) := by kernel_rfl
theorem g_pairs : mainIn P (Str.ofString "_law_pairs") = some (some (.ref 90)) := by kernel_rfl
theorem g_rest : mainIn P (Str.ofString "_law_rest") = some (some (.ref 97)) := by kernel_rfl
theorem g_stream : mainIn P (Str.ofString "_law_stream") = some (some (.ref 104)) := by kernel_rfl
theorem g_read : mainIn P (Str.ofString "_law_read") = some (some (.ref 111)) := by kernel_rfl
theorem g_contents : mainIn P (Str.ofString "_law_contents") = some (some (.ref 116)) := by kernel_rfl
theorem g_run : mainIn P (Str.ofString "_law_run") = some (some (.ref 123)) := by kernel_rfl
theorem g_len : mainIn P (Str.ofString "len") = some none := by kernel_rfl
theorem g_iter : mainIn P (Str.ofString "iter") = some none := by kernel_rfl
theorem g_min : mainIn P (Str.ofString "min") = some none := by kernel_rfl
theorem g_list : mainIn P (Str.ofString "list") = some none := by kernel_rfl
theorem g_range : mainIn P (Str.ofString "range") = some none := by kernel_rfl
theorem g_zip : mainIn P (Str.ofString "zip") = some none := by kernel_rfl
theorem k_99 : (hd.heap_39 P).lookup 99 = none := by kernel_rfl
theorem k_103 : ∃ o vs, (hd.heap_39 P).lookup 103 = some o ∧ o.cls = .type "code" ∧ o.data = .fields vs ∧ vs[11]? = some (.ref 99) := ⟨_, _, rfl, rfl, rfl, rfl⟩
end
theorem b_len : bootBuiltins (Str.ofString "len") = some (.builtin "len") := by decide +kernel
theorem b_iter : bootBuiltins (Str.ofString "iter") = some (.builtin "iter") := by decide +kernel
theorem b_min : bootBuiltins (Str.ofString "min") = some (.builtin "min") := by decide +kernel
theorem b_list : bootBuiltins (Str.ofString "list") = some (.type "list") := by decide +kernel
theorem b_range : bootBuiltins (Str.ofString "range") = some (.type "range") := by decide +kernel
theorem b_zip : bootBuiltins (Str.ofString "zip") = some (.type "zip") := by decide +kernel

theorem hid99 {h : Heap} (h99 : h.get? 99 = some (tabObj #[])) {a : Addr} {o : Obj} (e : h.get? a = some o) (hne : o ≠ tabObj #[]) : hide [99] h.get? a = some o := by
  unfold hide
  rw [if_neg]
  · exact e
  · intro hm
    have : a = 99 := by simpa using hm
    rw [this, h99] at e
    exact hne (Option.some.inj e).symm
theorem stat_of {w : World} {p : Program} {loose : List Str} {mean : ExcName → Option Value} {mg mb : Str → Option Value} {h : Heap} (X : (hd.heap_39 w.params).In h) (h99 : h.get? 99 = some (tabObj #[])) (T : Top p loose mean mg mb h) : Stat w.params (hide [99] h.get?) := by
  have ns : ∀ {a : Addr} {m : Str → Option Value}, h.Ns a m → NsG (hide [99] h.get?) a m := fun {a m} ⟨o, es, ep, ho, hdt, r⟩ =>
    ⟨o, es, ep, hid99 h99 ho (fun e => by rw [e] at hdt; cases hdt), hdt, r⟩
  refine ⟨fun a o e => ?_, ⟨mg, mb, ns T.g, ns T.b, fun x v gl => ?_, fun x v bl => ?_⟩, ?_, ?_⟩
  · unfold hide
    rw [if_neg]
    · exact X a o e
    · intro hm
      have : a = 99 := by simpa using hm
      rw [this, k_99] at e; cases e
  · cases gl
    · exact main_of X T.g (g_replace _)
    · exact main_of X T.g (g_netrclex _)
    · exact main_of X T.g (g_words _)
    · exact main_of X T.g (g_spelled _)
    · exact main_of X T.g (g_programs _)
    · exact main_of X T.g (g_text _)
    · exact main_of X T.g (g_pairs _)
    · exact main_of X T.g (g_rest _)
    · exact main_of X T.g (g_stream _)
    · exact main_of X T.g (g_read _)
    · exact main_of X T.g (g_contents _)
    · exact main_of X T.g (g_run _)
  · cases bl
    · exact ⟨main_of X T.g (g_len _), (T.builtins _ (by decide)).trans b_len⟩
    · exact ⟨main_of X T.g (g_iter _), (T.builtins _ (by decide)).trans b_iter⟩
    · exact ⟨main_of X T.g (g_min _), (T.builtins _ (by decide)).trans b_min⟩
    · exact ⟨main_of X T.g (g_list _), (T.builtins _ (by decide)).trans b_list⟩
    · exact ⟨main_of X T.g (g_range _), (T.builtins _ (by decide)).trans b_range⟩
    · exact ⟨main_of X T.g (g_zip _), (T.builtins _ (by decide)).trans b_zip⟩
  · obtain ⟨mc, a, b⟩ := T.nolimit
    exact ⟨mc, ns a, b⟩
  · obtain ⟨bm, ob, e1, e2, e3, e4, e5, e6⟩ := T.bmain
    exact ⟨mg, bm, ob, ns T.g, e1, e2, hid99 h99 e3 (fun e => by rw [e] at e4; cases e4), e4, e5, e6⟩
theorem aok_caller : AOk callerA 15 := ⟨rfl, by decide +kernel, by decide +kernel⟩
end
-- Fz
section
open PySem PySem.W PyProof.Rows PyProof.V PySem.SeqAt
set_option maxHeartbeats 4000000
theorem prep (script : List Int) : ∃ n0 ntl ww d0 d1 T K P T' K' P', numsOf script = n0 :: ntl ∧ word1 (n0.fdiv 8) = wdS ww false ∧ word2 (n0.fdiv 8) = wdS ww true ∧ deedsOf (numsOf script) = d0.map code ∧ othersOf (numsOf script) (deedsOf (numsOf script)) = d1.map code ∧ Asked ww d0 d1 T K P T' K' P' := by
  have hl := nums_len script
  cases hns : numsOf script with
  | nil => rw [hns] at hl; simp at hl
  | cons n0 ntl =>
    obtain ⟨ww, hw, h1, h2⟩ := words_ok (n0.fdiv 8)
    obtain ⟨d0, d1, e0, e1, l0, l1, t0, t1, _⟩ := programs_ok (ns := n0 :: ntl) (by simp)
    obtain ⟨T, K, P, r0⟩ := nf_exists _ d0 rfl
    obtain ⟨T', K', P', r1⟩ := nf_exists _ d1 rfl
    rw [hns] at hl
    exact ⟨n0, ntl, ww, d0, d1, T, K, P, T', K', P', rfl, h1, h2, e0, e1, ⟨hw, r0, r1, t1, t0, by (first | with_reducible assumption | exact Nat.le_of_ble_eq_true rfl | exact Nat.add_le_add_left (Nat.le_of_ble_eq_true rfl) _ | exact Nat.le_trans (by assumption) (Nat.le_of_ble_eq_true rfl) | exact Nat.lt_of_le_of_lt (by assumption) (Nat.le_of_ble_eq_true rfl) | exact Nat.le_trans (Nat.le_of_eq (by assumption)) (Nat.le_trans (by assumption) (Nat.le_of_ble_eq_true rfl)) | lia | omega), by (first | with_reducible assumption | exact Nat.le_of_ble_eq_true rfl | exact Nat.add_le_add_left (Nat.le_of_ble_eq_true rfl) _ | exact Nat.le_trans (by assumption) (Nat.le_of_ble_eq_true rfl) | exact Nat.lt_of_le_of_lt (by assumption) (Nat.le_of_ble_eq_true rfl) | exact Nat.le_trans (Nat.le_of_eq (by assumption)) (Nat.le_trans (by assumption) (Nat.le_of_ble_eq_true rfl)) | lia | omega)⟩⟩
theorem post_ok (script : List Int) : PySem.Challenge.rw_pg0041_01.row.claim.post [ofPy (PyData.list (List.map PyData.int script))] (WData.bool true) [ofPy (PyData.list (List.map PyData.int script))] = true := by
  refine postW_of (X := true) ?_ ?_ rfl
  · rfl
  · exact congrArg (fun b => some (WData.bool b)) (PySem.W.same_iff.mpr rfl : PySem.W.same (WData.bool true) (WData.bool true) = true)
theorem law_holds : PySem.Challenge.rw_pg0041_01.Holds := by
  refine Mine.hd ?_
  intro w s₀ s₁ mg mb G Y fa o pm cd doc dV kV ho hd hcd hD hmg hg args vals as hpre hlay hrd hwl hlo
  have KX := km_in_of Y
  have KT := km_tabs_of Y 99 (by simp)
  have hdV : dV = .none := by
    rcases hD.pos with ⟨_, e⟩ | ⟨e, _⟩
    · exact e
    · exact absurd rfl e
  subst hdV
  have S := stat_of KX KT G.T
  clear hD hmg G Y
  wrow_args hpre hlay hrd hwl hlo
  rename_i script _ _ _ _ _ _ _ scl sv _ hL _ hW _ hsv _ hlen _
  have hscl : (AO.list sv).Is s₁.heap.get? scl := by
    obtain ⟨o', ho', _, n, hdat⟩ := hL
    cases hW with
    | list hget _ =>
      rw [hget] at ho'
      cases ho'
      cases hdat
      exact ⟨_, hget⟩
  have hscB : (AO.list sv).Is (hide [99] s₁.heap.get?) scl := by
    obtain ⟨n, e⟩ := hscl
    exact ⟨n, hid99 KT e (fun q => by cases q)⟩
  clear hL hW
  obtain ⟨n0, ntl, ww, d0, d1, T, K, P, T', K', P', hns, hw1, hw2, hd0, hd1, H⟩ := prep script
  have hlen' : script.length ≤ 63 := by omega
  refine wpAny_call (code_fnCM (n := 14) (X := [(99, tab #[])]) (P := w.params) S (by simp) ?_ aok_caller ho hd rfl hcd rfl rfl rfl rfl rfl rfl ?_ ?_ (bind1 rfl) ?_ ?_ ?_)
  · intro p hp
    simp only [List.mem_cons, List.not_mem_nil, or_false] at hp
    subst hp
    exact KT
  · show (lns.map Prod.fst).Nodup
    decide
  · show ∀ p ∈ lns, (p.1 == ("__debug__" : Str)) = false
    decide
  · rfl
  · show ((cellsFrom 0 lns []).map (·.1)).Nodup
    decide
  intro env L s₂ he hcells W hA'
  clear he hcd hd ho
  replace hcells : env.cells = [(Str.ofString "told", L + 1 + 1), (Str.ofString "words", L + 1)] := hcells
  replace W : Wd w.params s₁ (hide [99] s₁.heap.get?) env lns (hide [99] s₁.heap.get?) s₂ [some (.ref scl), none, none, none, none, none, none, none, none, none, none, none, none, none, none, none, none, none, none, none, none, none, none, none, none, none, none, none, none, none, none, none, none, none, none, none]
    [(L + 1 + 1, .cell none), (L + 1, .cell none), (99, tab #[])] := W
  have W1 := (W.perm (.swap _ _ _)).forget (vs' := [some (.ref scl), none, none, none, none, none, none, none, none, none, none, none, none, none, none, none, none, none, none, none, none, none, none, none, none])
    (.same (.same (.same (.same (.same (.same (.same (.same (.same (.same (.same (.same (.same (.same (.same (.same (.same (.same (.same (.same (.same (.same (.same (.same (.same .nil)))))))))))))))))))))))))
  clear W
  refine segA (k := 1) (w := w) rfl hcells hscB hsv hlen' hA' hns H.hw hw1 hw2 hd0 hd1 H.m4 W1 ?_
  intro B1 s3 rest nl wl spl pl gl a0 a1 tkl ldl ctl LF EN k1 F1 hrest W2
  refine segB (k := 1) hrest hcells hA' H F1 W2 ?_
  intro B2 s4 rest2 lv ev k2 hTab hlv hev hLF hEN hrest2 W3
  refine segC (k := 1) hrest2 hcells hA' H (F1.mono k2) hlv hev hLF hEN W3 ?_
  intro B3 s5 rest3 tl k3 hrest3 W4
  refine segD (k := 1) hrest3 hcells hA' H ((F1.mono k2).mono k3) hlv (hev.mono k3) (hLF.mono k3) (hEN.mono k3) W4 ?_
  intro B4 s6 vs6 os6 k4 W5
  obtain ⟨c1, c2, h99, _⟩ := hTab
  have h99' : s6.heap.get? 99 = some (tabObj (tab2 c1 c2)) := ((h99.mono k3).mono k4).mono W5.keep
  have hkeep : Sub (hide [99] s₁.heap.get?) s6.heap.get? := W5.sub.trans W5.keep
  refine ⟨.inl ⟨.bool true, .bool true, [], rfl, fun cls => rfl, .bool true, ?_, fun _ => ⟨.nil, fun a ha => by cases ha⟩⟩, ⟨fun b o' e => ?_, fun b o' e => ?_⟩, W5.osys, .of_eq ?_⟩
  · exact post_ok script
  · by_cases hb : b = 99
    · subst hb
      rw [KT] at e
      cases e
      refine .inr (.inl ⟨?_, rfl, #[], tab2 c1 c2, rfl, by simpa using h99'⟩)
      obtain ⟨o1, vs1, q1, q2, q3, q4⟩ := k_103 w.params
      exact ⟨103, o1, vs1, KX _ _ q1, q2, q3, q4⟩
    · refine .inl (hkeep b o' ?_)
      unfold hide; rw [if_neg (by simpa using hb)]; exact e
  · by_cases hb : b = 99
    · subst hb; exact ⟨_, h99'⟩
    · refine ⟨o', hkeep b o' ?_⟩
      unfold hide; rw [if_neg (by simpa using hb)]; exact e
  · rw [W5.gens]; exact hg
end
end Mine
theorem PySem.Challenge.cw_pg0041_01_holds : PySem.Challenge.rw_pg0041_01.Holds :=
  Mine.law_holds
