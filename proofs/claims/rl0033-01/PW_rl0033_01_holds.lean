import PyProof.Rows.All
import Wide.All
import OpenK.AllK
import Wide.FinOn
import PySem.Challenge.RW_rl0033_01
open PySem PySem.W PyProof.Rows
set_option Elab.async false
set_option maxRecDepth 100000
set_option maxHeartbeats 0
set_option linter.unusedVariables false
set_option linter.unusedSimpArgs false

namespace Mine
/-! the head: the top's run, statement by statement, over states that are told by short words -/
abbrev pr : Program := PySem.Challenge.pw_rl0033_01
abbrev ann : Option Value := some (.ref 6)
abbrev q0 : Pos := ⟨0, 0, 0, 0⟩
abbrev BF : List Frame := [topFrame q0]
noncomputable def envT : Env := { scope := pr.main.scope, locals := mainNs, globals := mainNs, cells := [], code := .ref 13, frame := some 14 }
noncomputable def cE : Code := .body (behindTheImports pr) envT
noncomputable def mkBT (os : List Obj) : BT := (os.zipIdx).foldl (fun t x => t.ins x.2 x.1) .nil
noncomputable def s0 (w : World) (os : OsState) : Shared := ⟨boot_heap w.params, #[], boot_drawn, boot_toks, os⟩
noncomputable def sa (w : World) (os : OsState) : Shared := match topGo treeTable pr w 11 ann 12 (s0 w os) (topStub pr) with
  | some (s, _) => s
  | none => s0 w os
noncomputable def ta (w : World) (os : OsState) : SharedT := ⟨mkBT (sa w os).heap.objs.toList, 15, (sa w os).heap.life, (sa w os).gens, (sa w os).drawn, (sa w os).toks, os⟩
noncomputable def sts (i j : Nat) : List Stmt := (pr.main.body.take j).drop i
noncomputable abbrev segRunQ := @PySem.W.Fast.tw10110043849684766642
noncomputable abbrev segGoQ := @PySem.W.Fast.tw10295753902157049106
noncomputable abbrev tableQ := @PySem.W.Fast.tw14364793385576792824
noncomputable abbrev execsQ := @PySem.W.Fast.tw12563942051412417395
noncomputable abbrev denoteQ := @PySem.W.Fast.tw11892475500146522536
noncomputable abbrev piecesQ (l : List Stmt) (env : Env) (c : Code) (p : Pos) (B : List Frame) : Thread := ⟨(execsQ l env).wrap doneF deadEnd id id, c, p, B⟩
theorem te_run : @segRunT = @segRunQ := PySem.W.Fast.te10110043849684766642
theorem te_go : @segGoT = @segGoQ := PySem.W.Fast.te10295753902157049106
theorem te_tb : @treeTable = @tableQ := PySem.W.Fast.te14364793385576792824
theorem te_ex : @execs = @execsQ := PySem.W.Fast.te12563942051412417395
theorem te_dn : @denote = @denoteQ := PySem.W.Fast.te11892475500146522536
/-- a stretch of the text with its names as numbers -/
def n0 : { l : List Stmt // sts 0 4 = l } := by
  refine ⟨?l, ?h⟩
  case h =>
    simp only [sts, pr, PySem.Challenge.pw_rl0033_01, List.take, List.drop]
    str_meet
    exact rfl
def n4 : { l : List Stmt // sts 4 5 = l } := by
  refine ⟨?l, ?h⟩
  case h =>
    simp only [sts, pr, PySem.Challenge.pw_rl0033_01, List.take, List.drop]
    str_meet
    exact rfl
def n5 : { l : List Stmt // sts 5 13 = l } := by
  refine ⟨?l, ?h⟩
  case h =>
    simp only [sts, pr, PySem.Challenge.pw_rl0033_01, List.take, List.drop]
    str_meet
    exact rfl
def n13 : { l : List Stmt // sts 13 14 = l } := by
  refine ⟨?l, ?h⟩
  case h =>
    simp only [sts, pr, PySem.Challenge.pw_rl0033_01, List.take, List.drop]
    str_meet
    exact rfl
def n14 : { l : List Stmt // sts 14 15 = l } := by
  refine ⟨?l, ?h⟩
  case h =>
    simp only [sts, pr, PySem.Challenge.pw_rl0033_01, List.take, List.drop]
    str_meet
    exact rfl
def n15 : { l : List Stmt // sts 15 16 = l } := by
  refine ⟨?l, ?h⟩
  case h =>
    simp only [sts, pr, PySem.Challenge.pw_rl0033_01, List.take, List.drop]
    str_meet
    exact rfl
def nE : { l : Env // envT = l } := by
  refine ⟨?l, ?h⟩
  case h =>
    simp only [envT, pr, PySem.Challenge.pw_rl0033_01]
    str_meet
    exact rfl
abbrev rS : String := "special-get-raises"
abbrev rC : String := "comprehension-iter-twice"
def w1 (b : Bool) (w : World) : World := w.withFollow "special-get-raises" b
def w2 (b c : Bool) (w : World) : World := (w.withFollow "comprehension-iter-twice" c).withFollow "special-get-raises" b
noncomputable def stQ (w : World) (n : Nat) (s : SharedT) (l : List Stmt) (p : Pos) : SharedT := match segRunQ tableQ pr w 11 ann 1 n s (piecesQ l nE.1 cE p BF) with
  | some (_, s', _, _) => s'
  | none => s
noncomputable def t3 (w : World) (os : OsState) : SharedT := stQ w 311 (ta w os) n0.1 q0
def hx (n : Nat) : Nat := if n < 10 then 48 + n else 55 + n
def hexS (i : Nat) : Str := Str.mk #[61, hx (i / 16), hx (i % 16)]
def e4 : Expr := match n4.1 with
  | [.Assign _ e _] => e
  | _ => default
def sc4 : Scope := match n4.1 with
  | [.Assign _ (.ListComp _ _ s _) _] => s
  | _ => default
noncomputable def env4 : Env := { scope := sc4, locals := 53, globals := 3, cells := [], qual := Str.mk #[], func := none, code := .ref 13, frame := some 14, builtins := 0 }
noncomputable def c4 : Code := .compLoop e4 0 (.ref 51) (.ref 52) env4
def o50 : Obj := { cls := .type "range", data := .fields #[.int 0 245, .int 256 244, .int 1 246] }
def o51 (k : Nat) : Obj := { cls := .type "range_iterator", data := .fields #[.int k 0, .int (256 - k : Nat) 0, .int 1 0] }
def mapItems (k : Nat) : List Value := (List.range k).map fun i => .str (hexS i) (250 + 4 * i)
def o52 (k : Nat) : Obj := { cls := .type "list", data := .seq (mapItems k).toArray k }
def o53 (k : Nat) (P : Params) : Obj := { cls := .type "dict", data := .dict #[⟨PyData.keyHash P (Str.mk #[99]), .str (Str.mk #[99]) 248, .int (k - 1 : Nat) (247 + 4 * (k - 1))⟩] 1 }
def oTup : Obj := { cls := .type "tuple", data := .seq #[] }
def oStop (a : Nat) : Obj := { cls := .type "StopIteration", data := .fields #[.ref a, .none, .none, .none, .bool false, .none] }
noncomputable def S4 (w : World) (os : OsState) (k : Nat) : SharedT :=
  let t := t3 w os
  ⟨(((t.tree.ins 50 o50).ins 51 (o51 k)).ins 52 (o52 k)).ins 53 (o53 k w.params), 54, t.life, t.gens, t.drawn, 247 + 4 * k, os⟩
noncomputable def th4 (f : Frame) : Thread := ⟨denoteQ tableQ c4, c4, ⟨30, 15, 30, 26⟩, [f, topFrame q0]⟩
abbrev p3 : Pos := ⟨29, 0, 29, 2⟩
abbrev p4 : Pos := ⟨30, 0, 30, 11⟩
abbrev p12 : Pos := ⟨38, 0, 38, 8⟩
abbrev p13 : Pos := ⟨39, 9, 39, 74⟩
abbrev p14 : Pos := ⟨41, 0, 41, 28⟩
abbrev p15 : Pos := ⟨42, 9, 42, 110⟩
abbrev p26 : Pos := ⟨104, 0, 136, 38⟩
noncomputable def f4 (c : Bool) (w : World) (os : OsState) : Frame := match segGoQ tableQ pr w 11 ann 1 (if c then 42 else 52) (t3 w os) (piecesQ n4.1 nE.1 cE p3 BF) with
  | some (_, t) => t.stack.headD (topFrame q0)
  | none => topFrame q0
def putE (e : DictEntry) (o : Obj) : Obj := match o.data with
  | .dict es n => { o with data := .dict (es.push e) (n + 1) }
  | _ => o
def setE (i : Nat) (v : Value) (o : Obj) : Obj := match o.data with
  | .dict es n => { o with data := .dict (es.modify i fun e => { e with val := v }) n }
  | _ => o
noncomputable def t4 (w : World) (os : OsState) : SharedT :=
  let t := t3 w os
  ⟨((((((t.tree.set 3 (putE ⟨PyData.keyHash w.params (Str.mk #[95, 81, 85, 79, 80, 82, 73, 95, 77, 65, 80]), .str (Str.mk #[95, 81, 85, 79, 80, 82, 73, 95, 77, 65, 80]) 1271, .ref 52⟩)).ins 50 o50).ins 51 (o51 256)).ins 52 (o52 256)).ins 53
    { cls := .type "dict", data := .dict #[] 2 }).ins 54 oTup).ins 55 (oStop 54), 56, t.life, t.gens, t.drawn, 1272, os⟩
noncomputable def t12 (w : World) (os : OsState) : SharedT := stQ w 133 (t4 w os) n5.1 p4
theorem pre_ : ∀ w os, topGo treeTable pr w 11 ann 12 (s0 w os) (topStub pr) = some (sa w os, ⟨denote treeTable cE, cE, q0, BF⟩) := by
  intro w os
  kernel_rfl
theorem block_ : ∀ w os, segRun treeTable pr w 11 ann 1 1 (sa w os) (blockOf (behindTheImports pr) envT cE q0 BF) = some (.next, (ta w os).abs, cE, q0) := by
  intro w os
  kernel_rfl
theorem q0_ : ∀ w os, segRunQ tableQ pr w 11 ann 1 311 (ta w os) (piecesQ n0.1 nE.1 cE q0 BF) = some (.next, t3 w os, cE, p3) := by
  intro w os
  kernel_rfl
theorem in4_ff : ∀ w os, segGoQ tableQ pr (w2 false false w) 11 ann 1 89 (t3 (w2 false false w) os) (piecesQ n4.1 nE.1 cE p3 BF) = some (S4 (w2 false false w) os 1, th4 (f4 false (w2 false false w) os)) := by
  intro w os
  kernel_rfl
theorem out4_ff : ∀ w os, segRunQ tableQ pr (w2 false false w) 11 ann 1 28 (S4 (w2 false false w) os 256) (th4 (f4 false (w2 false false w) os)) = some (.next, t4 (w2 false false w) os, cE, p4) := by
  intro w os
  kernel_rfl
theorem q5_ : ∀ w os, segRunQ tableQ pr w 11 ann 1 133 (t4 w os) (piecesQ n5.1 nE.1 cE p4 BF) = some (.next, t12 w os, cE, p12) := by
  intro w os
  kernel_rfl
end Mine

namespace Mine
def n16 : { l : List Stmt // sts 16 27 = l } := by
  refine ⟨?l, ?h⟩
  case h =>
    simp only [sts, pr, PySem.Challenge.pw_rl0033_01, List.take, List.drop]
    str_meet
    exact rfl
/-- the bytes that the two loops over the tables meet -/
def hdrB : List Nat := [45, 33, 42, 43, 47] ++ List.range' 97 26 ++ List.range' 65 26 ++ List.range' 48 10
def bodB : List Nat := List.range' 32 29 ++ List.range' 62 65 ++ [9]
def tabItems (bs : List Nat) (t : Nat) : List Value := (List.range 256).map fun j => if bs.contains j then .str (Str.mk #[j]) (t + 3 * bs.idxOf j) else .str (hexS j) (250 + 4 * j)
def oTab (bs : List Nat) (t : Nat) : Obj := { cls := .type "list", data := .seq (tabItems bs t).toArray }
def oByt (n : Int) : Obj := { cls := .type "bytes_iterator", data := .fields #[.none, .int n 0] }
noncomputable def t13 (w : World) (os : OsState) : SharedT :=
  let t := t12 w os
  ⟨((((t.tree.set 3 (putE ⟨PyData.keyHash w.params (Str.mk #[99]), .str (Str.mk #[99]) 1297, .int 57 1494⟩)).set 57 (fun _ => oTab hdrB 1298)).ins 60 (oByt 67)).ins 61 oTup).ins 62 (oStop 61), 63, t.life, t.gens, t.drawn, 1497, os⟩
noncomputable def t14 (w : World) (os : OsState) : SharedT := stQ w 25 (t13 w os) n14.1 p13
noncomputable def t15 (w : World) (os : OsState) : SharedT :=
  let t := t14 w os
  ⟨((((t.tree.set 3 (setE 20 (.int 9 1783))).set 59 (fun _ => oTab bodB 1503)).ins 63 (oByt 95)).ins 64 oTup).ins 65 (oStop 64), 66, t.life, t.gens, t.drawn, 1786, os⟩
noncomputable def t26 (w : World) (os : OsState) : SharedT := stQ w 377 (t15 w os) n16.1 p15
theorem q13_f : ∀ w os, segRunQ tableQ pr (w1 false w) 11 ann 1 3077 (t12 (w1 false w) os) (piecesQ n13.1 nE.1 cE p12 BF) = some (.next, t13 (w1 false w) os, cE, p13) := by
  intro w os
  kernel_rfl
theorem q14_ : ∀ w os, segRunQ tableQ pr w 11 ann 1 25 (t13 w os) (piecesQ n14.1 nE.1 cE p13 BF) = some (.next, t14 w os, cE, p14) := by
  intro w os
  kernel_rfl
theorem q15_f : ∀ w os, segRunQ tableQ pr (w1 false w) 11 ann 1 4303 (t14 (w1 false w) os) (piecesQ n15.1 nE.1 cE p14 BF) = some (.next, t15 (w1 false w) os, cE, p15) := by
  intro w os
  kernel_rfl
theorem q16_f : ∀ w os, segRunQ tableQ pr (w1 false w) 11 ann 1 377 (t15 (w1 false w) os) (piecesQ n16.1 nE.1 cE p15 BF) = some (.next, t26 (w1 false w) os, cE, p26) := by
  intro w os
  kernel_rfl
end Mine

namespace Mine
/-! what the walk knows of the objects that the top has made -/
def stAt (i : Nat) : Stmt := pr.main.body[i]?.getD default
def defP : Stmt → Arguments
  | .FunctionDef _ a _ _ _ _ _ _ _ _ => a
  | _ => default
def defB : Stmt → List Stmt
  | .FunctionDef _ _ b _ _ _ _ _ _ _ => b
  | _ => []
def defS : Stmt → Scope
  | .FunctionDef _ _ _ _ _ _ s _ _ _ => s
  | _ => default
def clsBody : List Stmt := match stAt 1 with
  | .ClassDef _ _ _ b _ _ _ _ _ _ _ => b
  | _ => []
def fnO (nm q : Str) (st : Stmt) (dV pm : Value) (cd : Nat) : Obj :=
  { cls := .type "function", data := .func { name := nm, qualname := q, params := defP st, body := .stmts (defB st), scope := defS st, globals := 3, closure := [], defaults := dV, kwdefaults := .none, pyModule := pm, code := .ref cd, builtins := 0 } }
def codeO (nm q : Str) (t ln na l8 : Nat) (a b c : Value) (t16 : Nat) : Obj :=
  { cls := .type "code", data := .fields #[.str nm t, .str q (t + 1), .str (Str.ofString "/claim/cut.py") (t + 2), .int ln 0, .int na 0, .int 0 0, .int 0 0, .int 3 0, .ref l8, .bool true, .int 181 0, .ref (l8 + 1), .none, a, b, c, .int t16 0, .int ln 0, .str (Str.ofString "/claim/cut.py") (t16 + 1)] }
def en (P : Params) (x : Str) (t : Nat) (v : Value) : DictEntry := ⟨PyData.keyHash P x, .str x t, v⟩
abbrev pmA : Value := .str (Str.ofString "cpy313.pstats") 187
abbrev pmB : Value := .str (Str.ofString "cpy313.email.quoprimime") 1287
abbrev pmC : Value := .str (Str.ofString "law_rl0033_01") 1821
def globals (P : Params) : List DictEntry :=
  [en P (Str.ofString "__name__") 165 pmC, en P (Str.ofString "__doc__") 166 .none, en P (Str.ofString "__package__") 167 .none, en P (Str.ofString "__loader__") 168 (.builtin "__main__.__loader__#opaque"), en P (Str.ofString "__spec__") 169 .none,
   en P (Str.ofString "__annotations__") 170 (.ref 6), en P (Str.ofString "__builtins__") 171 (.ref 4), en P (Str.ofString "__file__") 173 (.str (Str.ofString "/claim/cut.py") 172), en P (Str.ofString "__cached__") 174 .none,
   en P (Str.ofString "TupleComp") 230 (.ref 38), en P (Str.ofString "add_callers") 241 (.ref 49), en P (Str.ofString "NL") 243 (.str (Str.ofString "\n") 242), en P (Str.ofString "_QUOPRI_MAP") 1271 (.ref 52),
   en P (Str.ofString "_QUOPRI_HEADER_MAP") 1272 (.ref 57), en P (Str.ofString "_QUOPRI_BODY_MAP") 1273 (.ref 59), en P (Str.ofString "ascii_lowercase") 1275 (.str (Str.ofString "abcdefghijklmnopqrstuvwxyz") 1274),
   en P (Str.ofString "ascii_uppercase") 1277 (.str (Str.ofString "ABCDEFGHIJKLMNOPQRSTUVWXYZ") 1276), en P (Str.ofString "ascii_letters") 1279 (.str (Str.ofString "abcdefghijklmnopqrstuvwxyzABCDEFGHIJKLMNOPQRSTUVWXYZ") 1278),
   en P (Str.ofString "digits") 1281 (.str (Str.ofString "0123456789") 1280), en P (Str.ofString "hexdigits") 1286 (.str (Str.ofString "0123456789abcdefABCDEF") 1285), en P (Str.ofString "unquote") 1792 (.ref 72), en P (Str.ofString "quote") 1799 (.ref 79),
   en P (Str.ofString "_QUOPRI_BODY_ENCODE_MAP") 1800 (.ref 81), en P (Str.ofString "decode") 1820 (.ref 92), en P (Str.ofString "_law_row") 1828 (.ref 97), en P (Str.ofString "_law_slope") 1840 (.ref 104), en P (Str.ofString "_law_turn") 1853 (.ref 111),
   en P (Str.ofString "law") 1859 (.ref 116)]
def clsNs (P : Params) : List DictEntry :=
  [en P (Str.ofString "__module__") 196 pmA, en P (Str.ofString "__firstlineno__") 200 (.int 2 199), en P (Str.ofString "__init__") 208 (.ref 28), en P (Str.ofString "compare") 221 (.ref 35), en P (Str.ofString "__static_attributes__") 223 (.ref 36),
   en P (Str.ofString "__dict__") 225 (.ref 39), en P (Str.ofString "__weakref__") 227 (.ref 40), en P (Str.ofString "__doc__") 228 .none]
def stI : Stmt := clsBody[0]?.getD default
def stC : Stmt := clsBody[1]?.getD default
noncomputable def K (P : Params) : Frag :=
  [(0, boot_o_0 P), (2, { cls := .none, data := .dict #[] }), (3, { cls := .type "dict", data := .dict (globals P).toArray 30 }),
   (27, codeO (Str.ofString "__init__") (Str.ofString "TupleComp.__init__") 201 4 2 22 (.ref 24) (.ref 25) (.ref 26) 206),
   (28, fnO (Str.ofString "__init__") (Str.ofString "TupleComp.__init__") stI .none pmA 27),
   (34, codeO (Str.ofString "compare") (Str.ofString "TupleComp.compare") 209 7 3 29 (.ref 31) (.ref 32) (.ref 33) 219),
   (35, fnO (Str.ofString "compare") (Str.ofString "TupleComp.compare") stC .none pmA 34),
   (36, { cls := .type "tuple", data := .seq #[.str (Str.ofString "comp_select_list") 222] }),
   (37, { cls := .type "dict", data := .dict (clsNs P).toArray 4 }),
   (38, { cls := .type "type", data := .cls { name := Str.ofString "TupleComp", bases := [.type "object"], mro := [.ref 38, .type "object"], ns := 37, qualname := Str.ofString "TupleComp" },
          slots := #[none, none, some (.str (Str.ofString "TupleComp") 189), some (.str (Str.ofString "TupleComp") 197), some (.builtin "object.__new__"), some (.bool true)] }),
   (39, { cls := .type "getset_descriptor", data := .fields #[.str (Str.ofString "__dict__") 224, .ref 38, .builtin "function.__dict__", .builtin "function.__dict__#set"] }),
   (40, { cls := .type "getset_descriptor", data := .fields #[.str (Str.ofString "__weakref__") 226, .ref 38, .builtin "ExceptionGroup.__weakref__", .none] }),
   (48, codeO (Str.ofString "add_callers") (Str.ofString "add_callers") 231 16 2 43 (.ref 45) (.ref 46) (.ref 47) 239),
   (49, fnO (Str.ofString "add_callers") (Str.ofString "add_callers") (stAt 2) .none pmA 48),
   (52, o52 256),
   (71, codeO (Str.ofString "unquote") (Str.ofString "unquote") 1786 44 1 66 (.ref 68) (.ref 69) (.ref 70) 1790),
   (72, fnO (Str.ofString "unquote") (Str.ofString "unquote") (stAt 16) .none pmB 71),
   (78, codeO (Str.ofString "quote") (Str.ofString "quote") 1793 46 1 73 (.ref 75) (.ref 76) (.ref 77) 1797),
   (79, fnO (Str.ofString "quote") (Str.ofString "quote") (stAt 17) .none pmB 78),
   (85, { cls := .type "tuple", data := .seq #[.str (Str.ofString "\n") 242] }),
   (91, codeO (Str.ofString "decode") (Str.ofString "decode") 1808 52 2 86 (.ref 88) (.ref 89) (.ref 90) 1818),
   (92, fnO (Str.ofString "decode") (Str.ofString "decode") (stAt 21) (.ref 85) pmB 91),
   (96, codeO (Str.ofString "_law_row") (Str.ofString "_law_row") 1823 83 2 93 .none .none (.ref 95) 1826),
   (97, fnO (Str.ofString "_law_row") (Str.ofString "_law_row") (stAt 23) .none pmC 96),
   (103, codeO (Str.ofString "_law_slope") (Str.ofString "_law_slope") 1829 90 2 98 (.ref 100) (.ref 101) (.ref 102) 1838),
   (104, fnO (Str.ofString "_law_slope") (Str.ofString "_law_slope") (stAt 24) .none pmC 103),
   (110, codeO (Str.ofString "_law_turn") (Str.ofString "_law_turn") 1841 96 3 105 (.ref 107) (.ref 108) (.ref 109) 1851),
   (111, fnO (Str.ofString "_law_turn") (Str.ofString "_law_turn") (stAt 25) .none pmC 110),
   (115, codeO (Str.ofString "law") (Str.ofString "law") 1854 104 1 112 .none .none (.ref 114) 1857),
   (116, fnO (Str.ofString "law") (Str.ofString "law") (stAt 26) .none pmC 115)]
def kAs : List Addr := [0, 2, 3, 27, 28, 34, 35, 36, 37, 38, 39, 40, 48, 49, 52, 71, 72, 78, 79, 85, 91, 92, 96, 97, 103, 104, 110, 111, 115, 116]
end Mine

namespace Mine
noncomputable def qV : Program := { pr with main := { pr.main with body := [stAt 26] } }
def loose : List Str := [Str.ofString "TupleComp", Str.ofString "add_callers", Str.ofString "NL", Str.ofString "_QUOPRI_MAP", Str.ofString "_QUOPRI_HEADER_MAP", Str.ofString "_QUOPRI_BODY_MAP", Str.ofString "ascii_lowercase", Str.ofString "ascii_uppercase", Str.ofString "ascii_letters",
  Str.ofString "digits", Str.ofString "hexdigits", Str.ofString "unquote", Str.ofString "quote", Str.ofString "_QUOPRI_BODY_ENCODE_MAP", Str.ofString "decode", Str.ofString "_law_row", Str.ofString "_law_slope", Str.ofString "_law_turn"]
noncomputable abbrev openSeenQ := @PySem.W.Fast.tw4187177175401517315
theorem te_os : @openSeen = @openSeenQ := PySem.W.Fast.te4187177175401517315
theorem fin_ : ∀ w os, topRun treeTable pr w 11 ann 2 (t26 w os).abs ⟨doneF .next, cE, p26, BF⟩ = some (t26 w os).abs := by
  intro w os
  kernel_rfl
theorem l1_f : ∀ w os, (staticsOk (importedModules pr.main.body) (boot_heap (w1 false w).params) (t26 (w1 false w) os).abs.heap && namesBound pr (t26 (w1 false w) os).abs.heap && gensDone (t26 (w1 false w) os).abs && laidKept (boot_heap (w1 false w).params) (t26 (w1 false w) os).abs.heap) = true := by
  intro w os
  kernel_rfl
theorem l3_f : ∀ w os, kAs.map (t26 (w1 false w) os).abs.heap.get? = (K (w1 false w).params).map fun p => some p.2 := by
  intro w os
  kernel_rfl
theorem l2_f : ∀ w os, openSeenQ qV loose (importedModules pr.main.body) (fun _ => true) true (t26 (w1 false w) os).abs = openGood qV loose := by
  intro w os
  kernel_rfl
end Mine

namespace Mine
theorem c4_f1 : ∀ w os f, segGoQ tableQ pr (w1 false w) 11 ann 1 4699 (S4 (w1 false w) os 1) (th4 f) = some (S4 (w1 false w) os 128, th4 f) := by
  intro w os f
  kernel_rfl
theorem c4_f2 : ∀ w os f, segGoQ tableQ pr (w1 false w) 11 ann 1 4736 (S4 (w1 false w) os 128) (th4 f) = some (S4 (w1 false w) os 256, th4 f) := by
  intro w os f
  kernel_rfl
theorem c4_t1 : ∀ w os f, segGoQ tableQ pr (w1 true w) 11 ann 1 4699 (S4 (w1 true w) os 1) (th4 f) = some (S4 (w1 true w) os 128, th4 f) := by
  intro w os f
  kernel_rfl
theorem c4_t2 : ∀ w os f, segGoQ tableQ pr (w1 true w) 11 ann 1 4736 (S4 (w1 true w) os 128) (th4 f) = some (S4 (w1 true w) os 256, th4 f) := by
  intro w os f
  kernel_rfl
theorem in4_ft : ∀ w os, segGoQ tableQ pr (w2 false true w) 11 ann 1 79 (t3 (w2 false true w) os) (piecesQ n4.1 nE.1 cE p3 BF) = some (S4 (w2 false true w) os 1, th4 (f4 true (w2 false true w) os)) := by
  intro w os
  kernel_rfl
theorem in4_tf : ∀ w os, segGoQ tableQ pr (w2 true false w) 11 ann 1 89 (t3 (w2 true false w) os) (piecesQ n4.1 nE.1 cE p3 BF) = some (S4 (w2 true false w) os 1, th4 (f4 false (w2 true false w) os)) := by
  intro w os
  kernel_rfl
theorem in4_tt : ∀ w os, segGoQ tableQ pr (w2 true true w) 11 ann 1 79 (t3 (w2 true true w) os) (piecesQ n4.1 nE.1 cE p3 BF) = some (S4 (w2 true true w) os 1, th4 (f4 true (w2 true true w) os)) := by
  intro w os
  kernel_rfl
theorem out4_ft : ∀ w os, segRunQ tableQ pr (w2 false true w) 11 ann 1 28 (S4 (w2 false true w) os 256) (th4 (f4 true (w2 false true w) os)) = some (.next, t4 (w2 false true w) os, cE, p4) := by
  intro w os
  kernel_rfl
theorem out4_tf : ∀ w os, segRunQ tableQ pr (w2 true false w) 11 ann 1 28 (S4 (w2 true false w) os 256) (th4 (f4 false (w2 true false w) os)) = some (.next, t4 (w2 true false w) os, cE, p4) := by
  intro w os
  kernel_rfl
theorem out4_tt : ∀ w os, segRunQ tableQ pr (w2 true true w) 11 ann 1 28 (S4 (w2 true true w) os 256) (th4 (f4 true (w2 true true w) os)) = some (.next, t4 (w2 true true w) os, cE, p4) := by
  intro w os
  kernel_rfl
theorem q13_t : ∀ w os, segRunQ tableQ pr (w1 true w) 11 ann 1 3077 (t12 (w1 true w) os) (piecesQ n13.1 nE.1 cE p12 BF) = some (.next, t13 (w1 true w) os, cE, p13) := by
  intro w os
  kernel_rfl
theorem q15_t : ∀ w os, segRunQ tableQ pr (w1 true w) 11 ann 1 4303 (t14 (w1 true w) os) (piecesQ n15.1 nE.1 cE p14 BF) = some (.next, t15 (w1 true w) os, cE, p15) := by
  intro w os
  kernel_rfl
theorem q16_t : ∀ w os, segRunQ tableQ pr (w1 true w) 11 ann 1 377 (t15 (w1 true w) os) (piecesQ n16.1 nE.1 cE p15 BF) = some (.next, t26 (w1 true w) os, cE, p26) := by
  intro w os
  kernel_rfl
theorem l1_t : ∀ w os, (staticsOk (importedModules pr.main.body) (boot_heap (w1 true w).params) (t26 (w1 true w) os).abs.heap && namesBound pr (t26 (w1 true w) os).abs.heap && gensDone (t26 (w1 true w) os).abs && laidKept (boot_heap (w1 true w).params) (t26 (w1 true w) os).abs.heap) = true := by
  intro w os
  kernel_rfl
theorem l3_t : ∀ w os, kAs.map (t26 (w1 true w) os).abs.heap.get? = (K (w1 true w).params).map fun p => some p.2 := by
  intro w os
  kernel_rfl
theorem l2_t : ∀ w os, openSeenQ qV loose (importedModules pr.main.body) (fun _ => true) true (t26 (w1 true w) os).abs = openGood qV loose := by
  intro w os
  kernel_rfl
theorem body_split : behindTheImports pr = sts 0 4 ++ (sts 4 5 ++ (sts 5 13 ++ (sts 13 14 ++ (sts 14 15 ++ (sts 15 16 ++ (sts 16 27 ++ [])))))) := by
  kernel_rfl
end Mine

namespace Mine
theorem rq : segRunQ tableQ = segRunT treeTable := by rw [te_run, te_tb]
theorem gq : segGoQ tableQ = segGoT treeTable := by rw [te_go, te_tb]
theorem pq {l l' : List Stmt} (h : l' = l) (c : Code) (p : Pos) (B : List Frame) : piecesQ l nE.1 c p B = piecesOf l' envT c p B := by
  subst h
  show (⟨(execsQ l' nE.1).wrap doneF deadEnd id id, c, p, B⟩ : Thread) = ⟨(execs l' envT).wrap doneF deadEnd id id, c, p, B⟩
  rw [← nE.2, te_ex]
theorem back {l l' : List Stmt} {w : World} {n : Nat} {s s' : SharedT} {p p' : Pos} (hl : l' = l) (h : segRunQ tableQ pr w 11 ann 1 n s (piecesQ l nE.1 cE p BF) = some (.next, s', cE, p')) :
    segRun treeTable pr w 11 ann 1 n s.abs (piecesOf l' envT cE p BF) = some (.next, s'.abs, cE, p') := by
  rw [rq, pq hl] at h
  exact segRun_of h
theorem segRun_more {w : World} {b : Nat} {r : Flow × Shared × Code × Pos} (k : Nat) : ∀ (n : Nat) (s : Shared) (t : Thread), segRun treeTable pr w 11 ann b n s t = some r → segRun treeTable pr w 11 ann b (n + k) s t = some r
  | 0, s, t, h => by cases h
  | n + 1, s, t, h => by
    rw [Nat.succ_add]
    unfold segRun at h ⊢
    split at h
    · exact h
    · split at h
      · exact h
      · split at h
        · exact segRun_more k n _ _ h
        · exact h
theorem all4 {w : World} {os : OsState} {n : Nat} {f : Frame} (a : segGoQ tableQ pr w 11 ann 1 n (t3 w os) (piecesQ n4.1 nE.1 cE p3 BF) = some (S4 w os 1, th4 f))
    (b : segGoQ tableQ pr w 11 ann 1 4699 (S4 w os 1) (th4 f) = some (S4 w os 128, th4 f)) (c : segGoQ tableQ pr w 11 ann 1 4736 (S4 w os 128) (th4 f) = some (S4 w os 256, th4 f))
    (d : segRunQ tableQ pr w 11 ann 1 28 (S4 w os 256) (th4 f) = some (.next, t4 w os, cE, p4)) :
    segRun treeTable pr w 11 ann 1 (n + (4699 + (4736 + 28))) (t3 w os).abs (piecesOf (sts 4 5) envT cE p3 BF) = some (.next, (t4 w os).abs, cE, p4) := by
  rw [gq] at a b c
  rw [rq] at d
  rw [pq n4.2] at a
  exact seg_go (segGo_of a) (seg_go (segGo_of b) (seg_go (segGo_of c) (segRun_of d)))
theorem r4 : ∀ w, ∀ os, segRun treeTable pr w 11 ann 1 9552 (t3 w os).abs (piecesOf (sts 4 5) envT cE p3 BF) = some (.next, (t4 w os).abs, cE, p4) := by
  refine byRow2 rS (byRow2 rC ?_ ?_) (byRow2 rC ?_ ?_)
  · exact fun w os => all4 (in4_ff w os) (c4_f1 _ os _) (c4_f2 _ os _) (out4_ff w os)
  · exact fun w os => segRun_more 10 9542 _ _ (all4 (in4_ft w os) (c4_f1 _ os _) (c4_f2 _ os _) (out4_ft w os))
  · exact fun w os => all4 (in4_tf w os) (c4_t1 _ os _) (c4_t2 _ os _) (out4_tf w os)
  · exact fun w os => segRun_more 10 9542 _ _ (all4 (in4_tt w os) (c4_t1 _ os _) (c4_t2 _ os _) (out4_tt w os))
theorem r13 : ∀ w, ∀ os, segRun treeTable pr w 11 ann 1 3077 (t12 w os).abs (piecesOf (sts 13 14) envT cE p12 BF) = some (.next, (t13 w os).abs, cE, p13) :=
  byRow2 rS (fun w os => back n13.2 (q13_f w os)) (fun w os => back n13.2 (q13_t w os))
theorem r15 : ∀ w, ∀ os, segRun treeTable pr w 11 ann 1 4303 (t14 w os).abs (piecesOf (sts 15 16) envT cE p14 BF) = some (.next, (t15 w os).abs, cE, p15) :=
  byRow2 rS (fun w os => back n15.2 (q15_f w os)) (fun w os => back n15.2 (q15_t w os))
theorem r16 : ∀ w, ∀ os, segRun treeTable pr w 11 ann 1 377 (t15 w os).abs (piecesOf (sts 16 27) envT cE p15 BF) = some (.next, (t26 w os).abs, cE, p26) :=
  byRow2 rS (fun w os => back n16.2 (q16_f w os)) (fun w os => back n16.2 (q16_t w os))
theorem run_ : ∀ w os, topRun treeTable pr w 11 ann (12 + (1 + (311 + (9552 + (133 + (3077 + (25 + (4303 + (377 + 2))))))))) (s0 w os) (topStub pr) = some (t26 w os).abs := by
  intro w os
  refine go_top (pre_ w os) (piece_block (block_ w os) ?_)
  rw [body_split]
  exact piece_app (back n0.2 (q0_ w os)) (piece_app (r4 w os) (piece_app (back n5.2 (q5_ w os)) (piece_app (r13 w os) (piece_app (back n14.2 (q14_ w os)) (piece_app (r15 w os) (piece_app (r16 w os) (piece_nil (fin_ w os))))))))
theorem l1 : ∀ w, ∀ os, (staticsOk (importedModules pr.main.body) (boot_heap w.params) (t26 w os).abs.heap && namesBound pr (t26 w os).abs.heap && gensDone (t26 w os).abs && laidKept (boot_heap w.params) (t26 w os).abs.heap) = true := byRow2 rS l1_f l1_t
theorem l2 : ∀ w, ∀ os, openSeen qV loose (importedModules pr.main.body) (fun _ => true) true (t26 w os).abs = openGood qV loose := by
  rw [te_os]; exact byRow2 rS l2_f l2_t
theorem l3 : ∀ w, ∀ os, kAs.map (t26 w os).abs.heap.get? = (K w.params).map fun p => some p.2 := byRow2 rS l3_f l3_t
theorem kAs_ok : ∀ P, kAs = (K P).map (·.1) := fun _ => rfl
theorem size_ : ∀ w : World, ((boot_heap w.params).isNs mainGlobals && (Array.mk ([] : List GenState)).size == 0) = true ∧ (boot_heap w.params).objs.size = 11 ∧ (boot_heap w.params).nsMap mainGlobals "__annotations__" = ann := by
  intro w
  exact ⟨by kernel_rfl, by kernel_rfl, by kernel_rfl⟩
theorem boot_ : ∀ w : World, (importEnds treeTable (opening pr) w 600 (start (opening pr)).1 (start (opening pr)).2).map (fun s => (s.heap, s.gens, s.drawn, s.toks)) = some (boot_heap w.params, Array.mk [], boot_drawn, boot_toks) := by
  intro w
  kernel_rfl
theorem fence_ : ∀ s : Shared, fenceModules? pr s = some s := fun s => by kernel_rfl
theorem open_ : ∀ w : World, (fencedOpening treeTable pr w 40000).map (fun s => (s.heap, s.gens, s.drawn, s.toks)) = some (boot_heap w.params, Array.mk [], boot_drawn, boot_toks) := by
  intro w
  obtain ⟨s, hs, hv⟩ := Option.map_eq_some_iff.mp (boot_ w)
  have m : importEnds treeTable (opening pr) w 40000 (start (opening pr)).1 (start (opening pr)).2 = some s := importEnds_mono 39400 _ _ _ _ hs
  unfold fencedOpening
  rw [m, Option.bind_some, fence_ s, Option.map_some, hv]
/-- the top's run, as the head of the library wants it -/
theorem left_ : LeftO pr qV loose (fun _ => true) (kHook K kAs kAs_ok).obs (kHook K kAs kAs_ok).val 40000 := by
  intro w
  obtain ⟨⟨h, gs, d, k, os⟩, e, e'⟩ := Option.map_eq_some_iff.mp (open_ w)
  simp only [Prod.mk.injEq] at e'
  obtain ⟨rfl, rfl, rfl, rfl⟩ := e'
  obtain ⟨z1, z2, z3⟩ := size_ w
  have r : topRun treeTable pr w 11 ann 40000 (s0 w os) (topStub pr) = some (t26 w os).abs := topRun_mono 22207 _ _ _ _ (run_ w os)
  have t : topFrom treeTable pr w 40000 (s0 w os) = some (t26 w os).abs := by
    unfold topFrom
    show (match (boot_heap w.params).isNs mainGlobals && (Array.mk ([] : List GenState)).size == 0 with
      | true => (topRun treeTable pr w (boot_heap w.params).objs.size ((boot_heap w.params).nsMap mainGlobals "__annotations__") 40000 (s0 w os) (topStub pr)).bind _
      | false => none) = _
    rw [z1, z2, z3]
    show (topRun treeTable pr w 11 ann 40000 (s0 w os) (topStub pr)).bind _ = _
    rw [r]
    show (match staticsOk (importedModules pr.main.body) (boot_heap w.params) (t26 w os).abs.heap && namesBound pr (t26 w os).abs.heap && gensDone (t26 w os).abs && laidKept (boot_heap w.params) (t26 w os).abs.heap with | true => _ | false => _) = _
    rw [l1 w os]
  unfold openEnds
  rw [e]
  show (topFrom treeTable pr w 40000 (s0 w os)).map _ = _
  rw [t]
  exact congrArg some (Prod.ext (l2 w os) (l3 w os))
end Mine

namespace Mine
/-- all that stood still stands -/
abbrev Le (h h' : Heap) : Prop := ∀ b o, h.get? b = some o → h'.get? b = some o
structure Tp (w : World) (mg mb : Str → Option Value) (h : Heap) : Prop where
  X : (K w.params).In h
  T : TopRead qV loose mg mb h
theorem Tp.le {w : World} {mg mb : Str → Option Value} {h h' : Heap} (x : Tp w mg mb h) (k : Le h h') : Tp w mg mb h' := ⟨x.X.keeps k, x.T.keeps k⟩
section
variable {w : World} {A : Around} {E : Value → Shared → Prop} {s : Shared} {mg mb : Str → Option Value}
theorem k79 (w : World) : (K w.params).lookup 79 = some (fnO (Str.ofString "quote") (Str.ofString "quote") (stAt 17) .none pmB 78) := by rfl
theorem k78 (w : World) : (K w.params).lookup 78 = some (codeO (Str.ofString "quote") (Str.ofString "quote") 1793 46 1 73 (.ref 75) (.ref 76) (.ref 77) 1797) := by rfl
theorem g_map (w : World) : nsIn (K w.params) mainGlobals (Str.ofString "_QUOPRI_MAP") = some (some (.ref 52)) := by kernel_rfl
theorem g_ord (w : World) : nsIn (K w.params) mainGlobals (Str.ofString "ord") = some none := by kernel_rfl
theorem b_ord : bootBuiltins (Str.ofString "ord") = some (.builtin "ord") := by kernel_rfl
theorem k52 (w : World) : (K w.params).lookup 52 = some ⟨.type "list", none, .seq (mapItems 256).toArray 256, #[]⟩ := by rfl
theorem k52_at {n : Nat} (hn : n < 256) : (mapItems 256)[Int.toNat (n : Int)]? = some (.str (hexS n) (250 + 4 * n)) := by
  simp [mapItems, hn]
theorem quote_ok {n : Nat} {t : Tok} (hn : n < 256) (X : Tp w mg mb s.heap) (hroom : A.depth < recursionLimit) {Q : Value → Shared → Prop}
    (h : ∀ t' h' tk, Le s.heap h' → Q (.str (hexS n) t') { s with heap := h', toks := tk }) : wpAny (model pr w) A (call (.ref 79) [.str ⟨#[n]⟩ t]) Q E s := by
  refine wpAny_call (call_plain_ret (name := Str.ofString "quote") (params := defP (stAt 17)) (body := defB (stAt 17)) (scope := defS (stAt 17)) (pm := pmB) (cd := .ref 78) (doc := .none) (binds := [(Str.ofString "c", .str ⟨#[n]⟩ t)]) hroom (X.X _ _ (k79 w)) rfl X.T.nolimit (codeRec_of X.X (by kernel_rfl)) (by rfl) (locs (by kernel_rfl)) ?_)
  intro h₁ F
  refine wpAny_execs_cons ?_
  refine wpAny_Return_some ?_
  refine Subscript_ ?_
  refine name_K F X.X X.T (g_map w) ?_
  refine wpAny_Call_NameR ?_
  refine name_B F X.X X.T (g_ord w) b_ord (by decide) ?_
  refine PyProof.Rows.callWith_builtin1 ?_
  refine spliced_more ?_
  refine ld F rfl ?_
  refine spliced_none ?_
  refine P.ord_of_char ?_
  refine topList_K F X.X (k52 w) (by omega) (by omega) (k52_at hn) ?_
  exact h _ _ _ F.keep
end
end Mine

namespace Mine
abbrev hexP (n : Nat) : Str := ⟨#[hx (n / 16), hx (n % 16)]⟩
theorem int16_all (u v : Tok) : (List.range 256).map (fun n => Builtin.«int.__new__» ⟨[.type "int", .str (hexP n) u, .int 16 v], []⟩) = (List.range 256).map (fun (n : Nat) => mkInt (n : Int) >>= ret) := by kernel_rfl
theorem int16_tree {n : Nat} (hn : n < 256) (u v : Tok) : Builtin.«int.__new__» ⟨[.type "int", .str (hexP n) u, .int 16 v], []⟩ = (mkInt (n : Int) >>= ret) := by
  have h := congrArg (fun l => l[n]?) (int16_all u v)
  simpa [hn] using h
theorem int16_gives {n : Nat} (hn : n < 256) (u v : Tok) : Gives (Builtin.«int.__new__» ⟨[.type "int", .str (hexP n) u, .int 16 v], []⟩) (.int n) :=
  .of_wp fun M A E s Q h => by
    rw [int16_tree hn]
    exact wpAny_bind (wpAny_mkInt (wpAny_pure ⟨_, rfl, h⟩))
theorem int16_call {w : World} {A : Around} {E : Value → Shared → Prop} {s : Shared} {Q : Value → Shared → Prop} {n : Nat} {u v : Tok} (hn : n < 256) (h : Q (.int n s.toks) { s with toks := s.toks + 1 }) :
    wpAny (model pr w) A (call (.type "int") [.str (hexP n) u, .int 16 v]) Q E s :=
  callType_new F.called_int F.newNe_int (by kernel_rfl) (by kernel_rfl) (fun obj => by unfold argsOk; kernel_rfl) F.entry_int_new (int16_gives hn u v).meets (show (Made.int n).post _ s from ⟨rfl, h⟩)
theorem slice13_all : (List.range 256).map (fun n => Txt.slice (hexS n) (some 1) (some 3)) = (List.range 256).map (fun n => hexP n) := by kernel_rfl
theorem slice13 {n : Nat} (hn : n < 256) : Txt.slice (hexS n) (some 1) (some 3) = hexP n := by
  have h := congrArg (fun l => l[n]?) slice13_all
  simpa [hn] using h
section
variable {w : World} {A : Around} {E : Value → Shared → Prop} {s : Shared} {mg mb : Str → Option Value}
theorem k72 (w : World) : (K w.params).lookup 72 = some (fnO (Str.ofString "unquote") (Str.ofString "unquote") (stAt 16) .none pmB 71) := by rfl
theorem g_chr (w : World) : nsIn (K w.params) mainGlobals (Str.ofString "chr") = some none := by kernel_rfl
theorem g_int (w : World) : nsIn (K w.params) mainGlobals (Str.ofString "int") = some none := by kernel_rfl
theorem b_chr : bootBuiltins (Str.ofString "chr") = some (.builtin "chr") := by kernel_rfl
theorem b_int : bootBuiltins (Str.ofString "int") = some (.type "int") := by kernel_rfl
theorem unquote_ok {n : Nat} {t : Tok} (hn : n < 256) (X : Tp w mg mb s.heap) (hroom : A.depth < recursionLimit) {Q : Value → Shared → Prop}
    (h : ∀ t' h' tk, Le s.heap h' → Q (.str ⟨#[n]⟩ t') { s with heap := h', toks := tk }) : wpAny (model pr w) A (call (.ref 72) [.str (hexS n) t]) Q E s := by
  refine wpAny_call (call_plain_ret (name := Str.ofString "unquote") (params := defP (stAt 16)) (body := defB (stAt 16)) (scope := defS (stAt 16)) (pm := pmB) (cd := .ref 71) (doc := .none) (binds := [(Str.ofString "s", .str (hexS n) t)]) hroom (X.X _ _ (k72 w)) rfl X.T.nolimit (codeRec_of X.X (by kernel_rfl)) (by rfl) (locs (by kernel_rfl)) ?_)
  intro h₁ F
  refine wpAny_execs_cons ?_
  refine wpAny_Return_some ?_
  refine wpAny_Call_NameR ?_
  refine name_B F X.X X.T (g_chr w) b_chr (by decide) ?_
  refine PyProof.Rows.callWith_builtin1 ?_
  refine spliced_more ?_
  refine wpAny_Call_NameR ?_
  refine name_B F X.X X.T (g_int w) b_int (by decide) ?_
  refine Pv.callWith_type1 ?_
  refine spliced_more ?_
  refine Subscript_ ?_
  refine ld F rfl ?_
  refine wpAny_Slice ?_
  refine evalPart_some_step (wpAny_Constant_int ?_)
  refine evalPart_some_step (wpAny_Constant_int ?_)
  refine evalPart_none_step ?_
  refine slice_strN_ss (L := s.heap.objs.size) (news := []) F News.nil (fun h₂ t₂ k F₂ _ => ?_) (hsz := by show 3 ≤ sizeLine; decide)
  rw [slice13 hn]
  refine spliced_more ?_
  refine wpAny_Constant_int ?_
  refine spliced_none ?_
  refine int16_call hn ?_
  refine spliced_none ?_
  refine chr_of_range (by omega) (by omega) ?_
  exact h _ _ _ F₂.keep
end
end Mine

namespace Mine
/-! a big-step reading of the text: what an expression gives, told by data -/
def AOk (k : Nat) (A : Around) : Prop := A.handled = none ∧ A.depth + k ≤ 600 ∧ A.units + 20 * k ≤ 9000
theorem AOk.less {k j : Nat} {A : Around} (h : AOk k A) (hj : j ≤ k) : AOk j A := ⟨h.1, by have := h.2.1; omega, by have := h.2.2; omega⟩
theorem AOk.deeper {k : Nat} {A : Around} (h : AOk (k + 1) A) (env : Env) : AOk k (A.deeper env) := ⟨h.1, by have := h.2.1; show A.depth + 1 + k ≤ 600; omega, by have := h.2.2; show A.units + 3 + 20 * k ≤ 9000; omega⟩
theorem AOk.in1 {k : Nat} {A : Around} (h : AOk (k + 1) A) : AOk k A.in1 := ⟨h.1, by have := h.2.1; show A.depth + k ≤ 600; omega, by have := h.2.2; show A.units + 1 + 20 * k ≤ 9000; omega⟩
theorem AOk.in2 {k : Nat} {A : Around} (h : AOk (k + 1) A) : AOk k A.in1.in1 := ⟨h.1, by have := h.2.1; show A.depth + k ≤ 600; omega, by have := h.2.2; show A.units + 1 + 1 + 20 * k ≤ 9000; omega⟩
theorem AOk.room {k : Nat} {A : Around} (h : AOk k A) : A.depth < recursionLimit := by have := h.2.1; show A.depth < 1000; omega
theorem AOk.units {k : Nat} {A : Around} (h : AOk k A) : A.units + 64 < cLine := by have := h.2.2; show A.units + 64 < 9900; omega
theorem AOk.hd {k : Nat} {A : Around} (h : AOk k A) : A.handled = none := h.1
theorem AOk.mark {k : Nat} {A : Around} (h : AOk k A) : AOk k (A.mark none) := h

theorem Le.refl (h : Heap) : Le h h := fun _ _ e => e
theorem Le.trans {a b c : Heap} (x : Le a b) (y : Le b c) : Le a c := fun q o e => y q o (x q o e)
theorem Le.push (h : Heap) (o : Obj) : Le h (h.push o) := fun _ _ e => Heap.get?_push_of_some o e
/-- all sequences stand -/
def Gs (h h' : Heap) : Prop := ∀ b o, (∃ xs n, o.data = .seq xs n) → h.get? b = some o → h'.get? b = some o
theorem Gs.of_le {h h' : Heap} (x : Le h h') : Gs h h' := fun b o _ e => x b o e
theorem Gs.trans {a b c : Heap} (x : Gs a b) (y : Gs b c) : Gs a c := fun q o s e => y q o s (x q o s e)
theorem Gs.but {L : Addr} {h h' : Heap} (x : Heap.SameBut L h h') (hL : ∀ o, h.get? L = some o → ∀ xs n, o.data ≠ .seq xs n) : Gs h h' := by
  rintro b o ⟨xs, n, hd⟩ e
  by_cases hb : b = L
  · subst hb; exact absurd hd (hL o e xs n)
  · exact (x.2 b hb).trans e
mutual
/-- no dict within -/
def seqOnly : PyData → Bool
  | .list xs | .tuple xs => seqOnlyAll xs
  | .dict _ => false
  | _ => true
def seqOnlyAll : List PyData → Bool
  | [] => true
  | x :: xs => seqOnly x && seqOnlyAll xs
end
mutual
theorem Reads.gs {h h' : Heap} (g : Gs h h') : ∀ {v : Value} {d : PyData} {as : List Addr}, Reads h v d as → seqOnly d = true → Reads h' v d as
  | _, _, _, .none, _ => .none
  | _, _, _, .bool b, _ => .bool b
  | _, _, _, .int i t, _ => .int i t
  | _, _, _, .str x t, _ => .str x t
  | _, _, _, .list e c d r, hs => .list (g _ _ ⟨_, _, d⟩ e) c d (ReadsAll.gs g r (by simpa [seqOnly] using hs))
  | _, _, _, .tuple e c d r, hs => .tuple (g _ _ ⟨_, _, d⟩ e) c d (ReadsAll.gs g r (by simpa [seqOnly] using hs))
  | _, _, _, .dict .., hs => by simp [seqOnly] at hs
theorem ReadsAll.gs {h h' : Heap} (g : Gs h h') : ∀ {vs : List Value} {ds : List PyData} {as : List Addr}, ReadsAll h vs ds as → seqOnlyAll ds = true → ReadsAll h' vs ds as
  | _, _, _, .nil, _ => .nil
  | _, _, _, .cons a r, hs => by
    simp only [seqOnlyAll, Bool.and_eq_true] at hs
    exact .cons (Reads.gs g a hs.1) (ReadsAll.gs g r hs.2)
end
/-- v reads as d in h, d made of lists, tuples and plain data -/
def Rd (h : Heap) (v : Value) (d : PyData) : Prop := (∃ as, Reads h v d as) ∧ seqOnly d = true
def RdL (h : Heap) (vs : List Value) (ds : List PyData) : Prop := (∃ as, ReadsAll h vs ds as) ∧ seqOnlyAll ds = true
theorem Rd.gs {h h' : Heap} {v : Value} {d : PyData} (x : Rd h v d) (g : Gs h h') : Rd h' v d := let ⟨⟨as, r⟩, s⟩ := x; ⟨⟨as, Reads.gs g r s⟩, s⟩
theorem Rd.le {h h' : Heap} {v : Value} {d : PyData} (x : Rd h v d) (g : Le h h') : Rd h' v d := x.gs (.of_le g)
theorem RdL.gs {h h' : Heap} {v : List Value} {d : List PyData} (x : RdL h v d) (g : Gs h h') : RdL h' v d := let ⟨⟨as, r⟩, s⟩ := x; ⟨⟨as, ReadsAll.gs g r s⟩, s⟩
theorem RdL.le {h h' : Heap} {v : List Value} {d : List PyData} (x : RdL h v d) (g : Le h h') : RdL h' v d := x.gs (.of_le g)
theorem Rd.int (h : Heap) (i : Int) (t : Tok) : Rd h (.int i t) (.int i) := ⟨⟨_, .int i t⟩, rfl⟩
theorem Rd.str (h : Heap) (i : Str) (t : Tok) : Rd h (.str i t) (.str i) := ⟨⟨_, .str i t⟩, rfl⟩
theorem Rd.bool (h : Heap) (b : Bool) : Rd h (.bool b) (.bool b) := ⟨⟨_, .bool b⟩, rfl⟩
theorem RdL.nil (h : Heap) : RdL h [] [] := ⟨⟨_, .nil⟩, rfl⟩
theorem RdL.cons {h : Heap} {v : Value} {d : PyData} {vs : List Value} {ds : List PyData} (x : Rd h v d) (y : RdL h vs ds) : RdL h (v :: vs) (d :: ds) := by
  obtain ⟨⟨_, a⟩, b⟩ := x
  obtain ⟨⟨_, c⟩, e⟩ := y
  exact ⟨⟨_, .cons a c⟩, by simp [seqOnlyAll, b, e]⟩
theorem Rd.int_inv {h : Heap} {v : Value} {i : Int} (x : Rd h v (.int i)) : ∃ t, v = .int i t := by
  obtain ⟨⟨_, a⟩, _⟩ := x
  cases a; exact ⟨_, rfl⟩
theorem Rd.str_inv {h : Heap} {v : Value} {i : Str} (x : Rd h v (.str i)) : ∃ t, v = .str i t := by
  obtain ⟨⟨_, a⟩, _⟩ := x
  cases a; exact ⟨_, rfl⟩
theorem Rd.bool_inv {h : Heap} {v : Value} {i : Bool} (x : Rd h v (.bool i)) : v = .bool i := by
  obtain ⟨⟨_, a⟩, _⟩ := x
  cases a; rfl
theorem Rd.list_inv {h : Heap} {v : Value} {ds : List PyData} (x : Rd h v (.list ds)) : ∃ a o vs n, v = .ref a ∧ h.get? a = some o ∧ o.cls = .type "list" ∧ o.data = .seq vs n ∧ RdL h vs.toList ds := by
  obtain ⟨⟨_, a⟩, s⟩ := x
  cases a with
  | list e c d r => exact ⟨_, _, _, _, rfl, e, c, d, ⟨_, r⟩, by simpa [seqOnly] using s⟩
theorem Rd.tuple_inv {h : Heap} {v : Value} {ds : List PyData} (x : Rd h v (.tuple ds)) : ∃ a o vs n, v = .ref a ∧ h.get? a = some o ∧ o.cls = .type "tuple" ∧ o.data = .seq vs n ∧ RdL h vs.toList ds := by
  obtain ⟨⟨_, a⟩, s⟩ := x
  cases a with
  | tuple e c d r => exact ⟨_, _, _, _, rfl, e, c, d, ⟨_, r⟩, by simpa [seqOnly] using s⟩
theorem Rd.list {h : Heap} {a : Addr} {o : Obj} {vs : Array Value} {n : Nat} {ds : List PyData} (e : h.get? a = some o) (c : o.cls = .type "list") (d : o.data = .seq vs n) (r : RdL h vs.toList ds) : Rd h (.ref a) (.list ds) := by
  obtain ⟨⟨_, r⟩, s⟩ := r
  exact ⟨⟨_, .list e c d r⟩, by simpa [seqOnly] using s⟩
theorem Rd.tuple {h : Heap} {a : Addr} {o : Obj} {vs : Array Value} {n : Nat} {ds : List PyData} (e : h.get? a = some o) (c : o.cls = .type "tuple") (d : o.data = .seq vs n) (r : RdL h vs.toList ds) : Rd h (.ref a) (.tuple ds) := by
  obtain ⟨⟨_, r⟩, s⟩ := r
  exact ⟨⟨_, .tuple e c d r⟩, by simpa [seqOnly] using s⟩
theorem RdL.cons_inv {h : Heap} {vs : List Value} {d : PyData} {ds : List PyData} (x : RdL h vs (d :: ds)) : ∃ v r, vs = v :: r ∧ Rd h v d ∧ RdL h r ds := by
  obtain ⟨⟨_, a⟩, s⟩ := x
  simp only [seqOnlyAll, Bool.and_eq_true] at s
  cases a with
  | cons p q => exact ⟨_, _, rfl, ⟨⟨_, p⟩, s.1⟩, ⟨⟨_, q⟩, s.2⟩⟩
theorem RdL.nil_inv {h : Heap} {vs : List Value} (x : RdL h vs []) : vs = [] := by
  obtain ⟨⟨_, a⟩, s⟩ := x
  cases a; rfl
theorem RdL.length {h : Heap} : ∀ {vs : List Value} {ds : List PyData}, RdL h vs ds → vs.length = ds.length
  | vs, [], x => by rw [x.nil_inv]; rfl
  | vs, d :: ds, x => by
    obtain ⟨v, r, rfl, _, q⟩ := x.cons_inv
    simp [q.length]
theorem RdL.get {h : Heap} : ∀ {vs : List Value} {ds : List PyData} {i : Nat} {d : PyData}, RdL h vs ds → ds[i]? = some d → ∃ v, vs[i]? = some v ∧ Rd h v d
  | vs, [], i, d, x, e => by simp at e
  | vs, d' :: ds, 0, d, x, e => by
    obtain ⟨v, r, rfl, p, q⟩ := x.cons_inv
    simp at e; subst e; exact ⟨v, rfl, p⟩
  | vs, d' :: ds, i + 1, d, x, e => by
    obtain ⟨v, r, rfl, p, q⟩ := x.cons_inv
    simpa using q.get (by simpa using e)
theorem RdL.append {h : Heap} : ∀ {vs ws : List Value} {ds es : List PyData}, RdL h vs ds → RdL h ws es → RdL h (vs ++ ws) (ds ++ es)
  | vs, ws, [], es, x, y => by rw [x.nil_inv]; exact y
  | vs, ws, d :: ds, es, x, y => by
    obtain ⟨v, r, rfl, p, q⟩ := x.cons_inv
    exact .cons p (q.append y)
theorem RdL.take {h : Heap} : ∀ {vs : List Value} {ds : List PyData} (n : Nat), RdL h vs ds → RdL h (vs.take n) (ds.take n)
  | vs, [], n, x => by rw [x.nil_inv]; simpa using RdL.nil h
  | vs, d :: ds, 0, x => by simpa using RdL.nil h
  | vs, d :: ds, n + 1, x => by
    obtain ⟨v, r, rfl, p, q⟩ := x.cons_inv
    simpa using RdL.cons p (q.take n)
theorem RdL.drop {h : Heap} : ∀ {vs : List Value} {ds : List PyData} (n : Nat), RdL h vs ds → RdL h (vs.drop n) (ds.drop n)
  | vs, [], n, x => by rw [x.nil_inv]; simpa using RdL.nil h
  | vs, d :: ds, 0, x => by simpa using x
  | vs, d :: ds, n + 1, x => by
    obtain ⟨v, r, rfl, p, q⟩ := x.cons_inv
    simpa using q.drop n
theorem RdL.reverse {h : Heap} : ∀ {vs : List Value} {ds : List PyData}, RdL h vs ds → RdL h vs.reverse ds.reverse
  | vs, [], x => by rw [x.nil_inv]; simpa using RdL.nil h
  | vs, d :: ds, x => by
    obtain ⟨v, r, rfl, p, q⟩ := x.cons_inv
    simpa using q.reverse.append (.cons p (.nil h))
/-- what a name is known to hold -/
inductive Slot where
  | d (x : PyData)
  | v (u : Value)
def Slot.has : Slot → Value → Heap → Prop
  | .d x, a, h => Rd h a x
  | .v u, a, _ => a = u
theorem Slot.has_gs {sl : Slot} {a : Value} {h h' : Heap} (x : sl.has a h) (g : Gs h h') : sl.has a h' := by
  cases sl with
  | d y => exact Rd.gs x g
  | v u => exact x
/-- the frame at hand -/
structure Fm (w : World) (mg mb : Str → Option Value) (B : Heap) (W : List Str) (env : Env) (h : Heap) (Δ : List (Str × Slot)) : Prop where
  tp : Tp w mg mb B
  keep : Le B h
  glob : env.globals = mainGlobals
  blt : env.builtins = builtinsNs
  kind : env.scope.kind = .function
  ns : ∃ m, h.Ns env.locals m ∧ ∀ x sl, Δ.lookup x = some sl → env.kindOf x = some .local → ∃ v, m x = some v ∧ sl.has v h
  cell : ∀ x c, env.cells.lookup x = some c → ∃ ov, h.IsCell c ov ∧ ∀ sl, Δ.lookup x = some sl → (env.kindOf x = some .cell ∨ env.kindOf x = some .free) → ∃ v, ov = some v ∧ sl.has v h
  freshL : B.get? env.locals = none
  freshC : ∀ x ∈ W, ∃ c, env.cells.lookup x = some c ∧ B.get? c = none
  apart : env.cells.Pairwise fun x y => x.2 ≠ y.2
/-- all but the frame stands -/
def Eff (env : Env) (M : List Addr) (h h' : Heap) : Prop := ∀ b o, b ≠ env.locals → (∀ x c, env.cells.lookup x = some c → c ≠ b) → b ∉ M → h.get? b = some o → h'.get? b = some o
theorem Eff.of_le {env : Env} {M : List Addr} {h h' : Heap} (x : Le h h') : Eff env M h h' := fun b o _ _ _ e => x b o e
theorem Eff.trans {env : Env} {M : List Addr} {a b c : Heap} (x : Eff env M a b) (y : Eff env M b c) : Eff env M a c := fun q o p r m e => y q o p r m (x q o p r m e)
theorem Eff.more {env : Env} {M M' : List Addr} {a b : Heap} (x : Eff env M a b) (h : ∀ q ∈ M, q ∈ M') : Eff env M' a b := fun q o p r m e => x q o p r (fun z => m (h q z)) e
abbrev Gr (env : Env) (h h' : Heap) : Prop := Eff env [] h h'
section
variable {w : World} {mg mb : Str → Option Value} {B : Heap} {W : List Str} {env : Env} {h h' : Heap} {Δ : List (Str × Slot)}
theorem Fm.tpn (F : Fm w mg mb B W env h Δ) : Tp w mg mb h := F.tp.le F.keep
theorem Fm.le (F : Fm w mg mb B W env h Δ) (k : Le h h') : Fm w mg mb B W env h' Δ where
  tp := F.tp
  keep := F.keep.trans k
  glob := F.glob
  blt := F.blt
  kind := F.kind
  ns := by
    obtain ⟨m, hn, hm⟩ := F.ns
    exact ⟨m, hn.keeps k, fun x sl e l => by obtain ⟨v, a, b⟩ := hm x sl e l; exact ⟨v, a, Slot.has_gs b (.of_le k)⟩⟩
  cell := fun x c e => by
    obtain ⟨ov, a, b⟩ := F.cell x c e
    exact ⟨ov, a.keeps k, fun sl e l => by obtain ⟨v, a, b⟩ := b sl e l; exact ⟨v, a, Slot.has_gs b (.of_le k)⟩⟩
  freshL := F.freshL
  freshC := F.freshC
  apart := F.apart
/-- a change at one address that is no frame, no cell and no sequence -/
theorem Fm.but {I : Addr} (F : Fm w mg mb B W env h Δ) (k : ∀ b o, b ≠ I → h.get? b = some o → h'.get? b = some o) (hB : B.get? I = none) (hI : ∀ o, h.get? I = some o → (∀ xs n, o.data ≠ .seq xs n) ∧ (∀ es n, o.data ≠ .dict es n) ∧ ∀ c, o.data ≠ .cell c) : Fm w mg mb B W env h' Δ := by
  have g : Gs h h' := by
    rintro b o ⟨xs, n, hd⟩ e
    by_cases hb : b = I
    · subst hb; exact absurd hd ((hI o e).1 xs n)
    · exact k b o hb e
  refine ⟨F.tp, ?_, F.glob, F.blt, F.kind, ?_, ?_, F.freshL, F.freshC, F.apart⟩
  · intro b o e
    by_cases hb : b = I
    · subst hb; rw [hB] at e; cases e
    · exact k b o hb (F.keep b o e)
  · obtain ⟨m, hn, hm⟩ := F.ns
    have hL : env.locals ≠ I := by
      rintro rfl
      obtain ⟨o, es, ep, ho, hd, _⟩ := hn
      exact (hI o ho).2.1 es ep hd
    exact ⟨m, hn.at' fun o e => k _ o hL e, fun x sl e l => by obtain ⟨v, a, b⟩ := hm x sl e l; exact ⟨v, a, Slot.has_gs b g⟩⟩
  · intro x c e
    obtain ⟨ov, a, b⟩ := F.cell x c e
    have hc : c ≠ I := by
      rintro rfl
      obtain ⟨o, ho, hd⟩ := a
      exact (hI o ho).2.2 _ hd
    refine ⟨ov, ?_, fun sl e l => by obtain ⟨v, a, b⟩ := b sl e l; exact ⟨v, a, Slot.has_gs b g⟩⟩
    obtain ⟨o, ho, hd⟩ := a
    exact ⟨o, k c o hc ho, hd⟩
theorem Fm.mono {Δ' : List (Str × Slot)} (F : Fm w mg mb B W env h Δ) (hs : ∀ x sl, Δ'.lookup x = some sl → Δ.lookup x = some sl) : Fm w mg mb B W env h Δ' where
  tp := F.tp
  keep := F.keep
  glob := F.glob
  blt := F.blt
  kind := F.kind
  ns := by
    obtain ⟨m, hn, hm⟩ := F.ns
    exact ⟨m, hn, fun x sl e l => hm x sl (hs x sl e) l⟩
  cell := fun x c e => by
    obtain ⟨ov, a, b⟩ := F.cell x c e
    exact ⟨ov, a, fun sl e l => b sl (hs x sl e) l⟩
  freshL := F.freshL
  freshC := F.freshC
  apart := F.apart
theorem lookup_cons_of {α : Type} {x y : Str} {a b : α} {l : List (Str × α)} (h : ((y, b) :: l).lookup x = some a) : (x = y ∧ a = b) ∨ (x ≠ y ∧ l.lookup x = some a) := by
  rw [List.lookup_cons] at h
  cases hb : x == y with
  | true => rw [hb] at h; cases h; exact .inl ⟨beq_iff_eq.mp hb, rfl⟩
  | false => rw [hb] at h; exact .inr ⟨fun e => by simp [e] at hb, h⟩
/-- a value that is known reads so -/
theorem Fm.retype {x : Str} {v : Value} {sl : Slot} (F : Fm w mg mb B W env h ((x, .v v) :: Δ)) (hv : sl.has v h) : Fm w mg mb B W env h ((x, sl) :: Δ) where
  tp := F.tp
  keep := F.keep
  glob := F.glob
  blt := F.blt
  kind := F.kind
  ns := by
    obtain ⟨m, hn, hm⟩ := F.ns
    refine ⟨m, hn, fun y sl' e l => ?_⟩
    rcases lookup_cons_of e with ⟨rfl, rfl⟩ | ⟨ne, e'⟩
    · obtain ⟨u, a, b⟩ := hm y (.v v) (by simp) l
      have b' : u = v := b
      subst b'
      exact ⟨u, a, hv⟩
    · exact hm y sl' (by rw [List.lookup_cons, beq_eq_false_iff_ne.mpr ne]; exact e') l
  cell := fun y c e => by
    obtain ⟨ov, a, b⟩ := F.cell y c e
    refine ⟨ov, a, fun sl' e l => ?_⟩
    rcases lookup_cons_of e with ⟨rfl, rfl⟩ | ⟨ne, e'⟩
    · obtain ⟨u, a, b⟩ := b (.v v) (by simp) l
      have b' : u = v := b
      subst b'
      exact ⟨u, a, hv⟩
    · exact b sl' (by rw [List.lookup_cons, beq_eq_false_iff_ne.mpr ne]; exact e') l
  freshL := F.freshL
  freshC := F.freshC
  apart := F.apart
end
section
variable {w : World} {mg mb : Str → Option Value} {B : Heap} {W : List Str} {env : Env} {Δ : List (Str × Slot)} {A : Around} {E : Value → Shared → Prop} {s : Shared}
theorem st_local {x : Str} {v : Value} {Q : Unit → Shared → Prop} (F : Fm w mg mb B W env s.heap Δ) (hl : env.kindOf x = some .local)
    (h : ∀ h', Gr env s.heap h' → Gs s.heap h' → Heap.SameBut env.locals s.heap h' → Fm w mg mb B W env h' ((x, .v v) :: Δ) → Q () { s with heap := h', toks := s.toks + 1 }) : wpAny (model pr w) A (storeName env x v) Q E s := by
  obtain ⟨m, hn, hm⟩ := F.ns
  refine wpAny_storeName_local hl hn (fun h' hn' hs' => ?_) (by rw [F.kind]; rfl)
  have g : Gs s.heap h' := .but hs' fun o ho xs n hd => by
    obtain ⟨o', es, ep, ho', hd', _⟩ := hn
    rw [ho'] at ho; cases ho; rw [hd'] at hd; cases hd
  refine h h' (fun b o hb _ _ e => (hs'.2 b hb).trans e) g hs' ?_
  refine ⟨F.tp, ?_, F.glob, F.blt, F.kind, ⟨_, hn', ?_⟩, ?_, F.freshL, F.freshC, F.apart⟩
  · intro b o e
    exact (hs'.2 b (by rintro rfl; rw [F.freshL] at e; cases e)).trans (F.keep b o e)
  · intro y sl e l
    rcases lookup_cons_of e with ⟨rfl, rfl⟩ | ⟨ne, e'⟩
    · exact ⟨v, by simp, rfl⟩
    · obtain ⟨u, a, b⟩ := hm y sl e' l
      exact ⟨u, by simp [ne, a], Slot.has_gs b g⟩
  · intro y c e
    obtain ⟨ov, a, b⟩ := F.cell y c e
    have hc : c ≠ env.locals := by
      rintro rfl
      obtain ⟨o, ho, hd⟩ := a
      obtain ⟨o', es, ep, ho', hd', _⟩ := hn
      rw [ho'] at ho; cases ho; rw [hd'] at hd; cases hd
    refine ⟨ov, a.sameBut hs' hc, fun sl e l => ?_⟩
    rcases lookup_cons_of e with ⟨rfl, rfl⟩ | ⟨ne, e'⟩
    · rw [hl] at l; rcases l with l | l <;> cases l
    · obtain ⟨u, a, b⟩ := b sl e' l
      exact ⟨u, a, Slot.has_gs b g⟩
theorem st_cell {x : Str} {v : Value} {Q : Unit → Shared → Prop} (F : Fm w mg mb B W env s.heap Δ) (hl : env.kindOf x = some .cell) (hx : x ∈ W)
    (h : ∀ h', Gr env s.heap h' → Gs s.heap h' → Fm w mg mb B W env h' ((x, .v v) :: Δ) → Q () { s with heap := h' }) : wpAny (model pr w) A (storeName env x v) Q E s := by
  obtain ⟨m, hn, hm⟩ := F.ns
  obtain ⟨c, hc, hB⟩ := F.freshC x hx
  obtain ⟨ov, hcell, _⟩ := F.cell x c hc
  refine wpAny_storeName_cell F.kind hl hc hcell fun h' hc' hs' => ?_
  have g : Gs s.heap h' := .but hs' fun o ho xs n hd => by
    obtain ⟨o', ho', hd'⟩ := hcell
    rw [ho'] at ho; cases ho; rw [hd'] at hd; cases hd
  refine h h' (fun b o _ hb _ e => (hs'.2 b (Ne.symm (hb _ _ hc))).trans e) g ?_
  have hL : env.locals ≠ c := by
    rintro rfl
    obtain ⟨o, ho, hd⟩ := hcell
    obtain ⟨o', es, ep, ho', hd', _⟩ := hn
    rw [ho'] at ho; cases ho; rw [hd'] at hd; cases hd
  refine ⟨F.tp, ?_, F.glob, F.blt, F.kind, ⟨m, hn.sameBut hs' hL, ?_⟩, ?_, F.freshL, F.freshC, F.apart⟩
  · intro b o e
    exact (hs'.2 b (by rintro rfl; rw [hB] at e; cases e)).trans (F.keep b o e)
  · intro y sl e l
    rcases lookup_cons_of e with ⟨rfl, rfl⟩ | ⟨ne, e'⟩
    · rw [hl] at l; cases l
    · obtain ⟨u, a, b⟩ := hm y sl e' l
      exact ⟨u, a, Slot.has_gs b g⟩
  · intro y c' e
    by_cases hy : y = x
    · subst hy
      rw [hc] at e; cases e
      refine ⟨some v, hc', fun sl e l => ?_⟩
      rcases lookup_cons_of e with ⟨_, rfl⟩ | ⟨ne, _⟩
      · exact ⟨v, rfl, rfl⟩
      · exact absurd rfl ne
    · obtain ⟨ov', a, b⟩ := F.cell y c' e
      have hcc : c' ≠ c := by
        rintro rfl
        exact hy (name_of_addr F.apart (mem_of_lookup e) (mem_of_lookup hc))
      refine ⟨ov', a.sameBut hs' hcc, fun sl e l => ?_⟩
      rcases lookup_cons_of e with ⟨rfl, rfl⟩ | ⟨ne, e'⟩
      · exact absurd rfl hy
      · obtain ⟨u, a, b⟩ := b sl e' l
        exact ⟨u, a, Slot.has_gs b g⟩
end
/-- what an expression gives -/
def Ev (w : World) (k : Nat) (env : Env) (h₀ : Heap) (e : Expr) (R : Value → Heap → Prop) : Prop :=
  ∀ (A : Around) (s : Shared) (Q : Value → Shared → Prop) (E : Value → Shared → Prop), AOk k A → Le h₀ s.heap → (∀ v h' tk, Le s.heap h' → R v h' → Q v { s with heap := h', toks := tk }) → wpAny (model pr w) A (eval e env) Q E s
/-- what a tree that is handed a value gives -/
def Cv (w : World) (k : Nat) (h₀ : Heap) (t : Sem Value) (R : Value → Heap → Prop) : Prop :=
  ∀ (A : Around) (s : Shared) (Q : Value → Shared → Prop) (E : Value → Shared → Prop), AOk k A → Le h₀ s.heap → (∀ v h' tk, Le s.heap h' → R v h' → Q v { s with heap := h', toks := tk }) → wpAny (model pr w) A t Q E s
abbrev D (d : PyData) : Value → Heap → Prop := fun v h => Rd h v d
/-- what a test tells -/
def Tv (w : World) (k : Nat) (env : Env) (h₀ : Heap) (e : Expr) (b : Bool) : Prop :=
  ∀ (A : Around) (s : Shared) (Q : Bool → Shared → Prop) (E : Value → Shared → Prop), AOk k A → Le h₀ s.heap → (∀ h' tk, Le s.heap h' → Q b { s with heap := h', toks := tk }) → wpAny (model pr w) A (isTrue e env (eval e env)) Q E s
section
variable {w : World} {mg mb : Str → Option Value} {B : Heap} {W : List Str} {env : Env} {Δ : List (Str × Slot)} {k : Nat} {h₀ : Heap}
theorem Ev.mono {e : Expr} {R R' : Value → Heap → Prop} (x : Ev w k env h₀ e R) (hr : ∀ v h, Le h₀ h → R v h → R' v h) : Ev w k env h₀ e R' :=
  fun A s Q E ha hl hq => x A s Q E ha hl fun v h' tk l r => hq v h' tk l (hr v h' (hl.trans l) r)
theorem Ev.le {e : Expr} {R : Value → Heap → Prop} {h₁ : Heap} (x : Ev w k env h₀ e R) (hl : Le h₀ h₁) : Ev w k env h₁ e R :=
  fun A s Q E ha hl' hq => x A s Q E ha (hl.trans hl') hq
theorem Tv.le {e : Expr} {b : Bool} {h₁ : Heap} (x : Tv w k env h₀ e b) (hl : Le h₀ h₁) : Tv w k env h₁ e b :=
  fun A s Q E ha hl' hq => x A s Q E ha (hl.trans hl') hq
theorem ev_slot {x : Str} {pos : Pos} {sl : Slot} (F : Fm w mg mb B W env h₀ Δ) (e : Δ.lookup x = some sl)
    (hl : (env.kindOf x = some .local) ∨ ((env.kindOf x = some .cell ∨ env.kindOf x = some .free) ∧ (env.cells.lookup x).isSome = true ∧ (x == ("__classdict__" : Str)) = false)) (hd : (x == ("__debug__" : Str)) = false := by decide) : Ev w k env h₀ (.Name x pos) (fun v h => sl.has v h) := by
  intro A s Q E ha hle hq
  refine wpAny_Name ?_ hd
  rcases hl with hl | ⟨hl, hc, hcd⟩
  · obtain ⟨m, hn, hm⟩ := (F.le hle).ns
    obtain ⟨v, hv, r⟩ := hm x sl e hl
    exact wpAny_loadName_local F.kind hl hn hv (hq v s.heap s.toks (.refl _) r)
  · obtain ⟨c, hc⟩ := Option.isSome_iff_exists.mp hc
    obtain ⟨ov, a, b⟩ := (F.le hle).cell x c hc
    obtain ⟨v, rfl, r⟩ := b sl e hl
    rcases hl with hl | hl
    · exact wpAny_loadName_cell F.kind hl hc a (hq v s.heap s.toks (.refl _) r)
    · exact wpAny_loadName_free F.kind hl hc a (hq v s.heap s.toks (.refl _) r) hcd
theorem ev_name {x : Str} {pos : Pos} {d : PyData} (F : Fm w mg mb B W env h₀ Δ) (e : Δ.lookup x = some (.d d))
    (hl : (env.kindOf x = some .local) ∨ ((env.kindOf x = some .cell ∨ env.kindOf x = some .free) ∧ (env.cells.lookup x).isSome = true ∧ (x == ("__classdict__" : Str)) = false) := by first | exact .inl rfl | exact .inr ⟨.inl rfl, rfl, rfl⟩ | exact .inr ⟨.inr rfl, rfl, rfl⟩) (hd : (x == ("__debug__" : Str)) = false := by decide) : Ev w k env h₀ (.Name x pos) (D d) := ev_slot F e hl hd
theorem ev_nameV {x : Str} {pos : Pos} {v : Value} (F : Fm w mg mb B W env h₀ Δ) (e : Δ.lookup x = some (.v v))
    (hl : (env.kindOf x = some .local) ∨ ((env.kindOf x = some .cell ∨ env.kindOf x = some .free) ∧ (env.cells.lookup x).isSome = true ∧ (x == ("__classdict__" : Str)) = false) := by first | exact .inl rfl | exact .inr ⟨.inl rfl, rfl, rfl⟩ | exact .inr ⟨.inr rfl, rfl, rfl⟩) (hd : (x == ("__debug__" : Str)) = false := by decide) : Ev w k env h₀ (.Name x pos) (fun u _ => u = v) := ev_slot F e hl hd
theorem ev_global {x : Str} {pos : Pos} {v : Value} (F : Fm w mg mb B W env h₀ Δ) (e : nsIn (K w.params) mainGlobals x = some (some v))
    (hx : env.kindOf x = some .globalImplicit := by rfl) (hd : (x == ("__debug__" : Str)) = false := by decide) : Ev w k env h₀ (.Name x pos) (fun u _ => u = v) := by
  intro A s Q E ha hle hq
  have F' := F.le hle
  exact Calls.Name_function_global F.kind hx (Calls.loadGlobal_global (env := env) (show s.heap.Ns env.globals mg from F.glob ▸ F'.tpn.T.g) (mg_of F.tp.X F.tp.T.g e) (hq v s.heap s.toks (.refl _) rfl)) hd
theorem ev_built {x : Str} {pos : Pos} {v : Value} (F : Fm w mg mb B W env h₀ Δ) (e : nsIn (K w.params) mainGlobals x = some none) (hv : bootBuiltins x = some v) (hn : x ≠ "__name__" := by decide)
    (hx : env.kindOf x = some .globalImplicit := by rfl) (hd : (x == ("__debug__" : Str)) = false := by decide) : Ev w k env h₀ (.Name x pos) (fun u _ => u = v) := by
  intro A s Q E ha hle hq
  have F' := F.le hle
  exact Calls.Name_function_global F.kind hx (Calls.loadGlobal_builtin (env := env) (show s.heap.Ns env.globals mg from F.glob ▸ F'.tpn.T.g) (mg_none_of F.tp.X F.tp.T.g e) (show s.heap.Ns env.builtins mb from F.blt ▸ F'.tpn.T.b) ((F.tp.T.builtins x hn).trans hv) (hq v s.heap s.toks (.refl _) rfl)) hd
theorem ev_int {i : Int} {kk : Nat} {pos : Pos} : Ev w k env h₀ (.Constant (.int i) kk pos) (D (.int i)) :=
  fun A s Q E ha hle hq => wpAny_Constant_int (hq _ _ _ (.refl _) (.int _ _ _))
theorem ev_str {x : Str} {kk : Nat} {pos : Pos} : Ev w k env h₀ (.Constant (.str x) kk pos) (D (.str x)) := by
  intro A s Q E ha hle hq
  rw [eval_Constant]
  show wpAny _ A (mkText x) Q E s
  exact wpAny_mkText (hq _ _ _ (.refl _) (.str _ _ _))
theorem ev_bool {x : Bool} {kk : Nat} {pos : Pos} : Ev w k env h₀ (.Constant (.bool x) kk pos) (D (.bool x)) := by
  intro A s Q E ha hle hq
  rw [eval_Constant]
  show wpAny _ A (pure (.bool x)) Q E s
  exact wpAny_pure (hq _ s.heap s.toks (.refl _) (.bool _ _))
/-- two operands -/
theorem ev_bin {l r : Expr} {op : Operator} {pos : Pos} {R₁ R₂ R : Value → Heap → Prop} (h₁ : Ev w k env h₀ l R₁) (h₂ : Ev w k env h₀ r R₂)
    (mono : ∀ v h h', Le h h' → R₁ v h → R₁ v h') (h : ∀ a b h₃, Le h₀ h₃ → R₁ a h₃ → R₂ b h₃ → Cv w k h₃ (binaryOp op a b) R) : Ev w k env h₀ (.BinOp l op r pos) R := by
  intro A s Q E ha hle hq
  refine wpAny_BinOp (h₁ A s _ E ha hle fun a h₁ t₁ l₁ r₁ => h₂ A _ _ E ha (hle.trans l₁) fun b h₂ t₂ l₂ r₂ => ?_)
  exact h a b h₂ (hle.trans (l₁.trans l₂)) (mono _ _ _ l₂ r₁) r₂ A _ _ E ha (.refl _) fun v h' tk l r => hq v h' tk (l₁.trans (l₂.trans l)) r
theorem D.mono {d : PyData} : ∀ v h h', Le h h' → D d v h → D d v h' := fun _ _ _ l r => Rd.le r l
theorem ev_cmp {l r : Expr} {op : CmpOp} {pos : Pos} {R₁ R₂ R : Value → Heap → Prop} (h₁ : Ev w k env h₀ l R₁) (h₂ : Ev w k env h₀ r R₂)
    (mono : ∀ v h h', Le h h' → R₁ v h → R₁ v h') (h : ∀ a b h₃, Le h₀ h₃ → R₁ a h₃ → R₂ b h₃ → Cv w k h₃ (compareOp op a b) R) (hm : behindInMarks op r = false := by with_unfolding_all rfl) : Ev w k env h₀ (.Compare l [op] [r] pos) R := by
  intro A s Q E ha hle hq
  refine wpAny_Compare1 (h₁ A s _ E ha hle fun a h₁ t₁ l₁ r₁ => h₂ A _ _ E ha (hle.trans l₁) fun b h₂ t₂ l₂ r₂ => ?_) hm
  exact h a b h₂ (hle.trans (l₁.trans l₂)) (mono _ _ _ l₂ r₁) r₂ A _ _ E ha (.refl _) fun v h' tk l r => hq v h' tk (l₁.trans (l₂.trans l)) r
theorem tv_cmp {l r : Expr} {op : CmpOp} {pos : Pos} {R₁ R₂ : Value → Heap → Prop} {c : Bool} (h₁ : Ev w k env h₀ l R₁) (h₂ : Ev w k env h₀ r R₂)
    (mono : ∀ v h h', Le h h' → R₁ v h → R₁ v h') (h : ∀ a b h₃, Le h₀ h₃ → R₁ a h₃ → R₂ b h₃ → Cv w k h₃ (compareOp op a b) (D (.bool c))) (hm : behindInMarks op r = false := by with_unfolding_all rfl) : Tv w k env h₀ (.Compare l [op] [r] pos) c := by
  intro A s Q E ha hle hq
  refine wpAny_isTrue_Compare1 (h₁ A s _ E ha hle fun a h₁ t₁ l₁ r₁ => h₂ A _ _ E ha (hle.trans l₁) fun b h₂ t₂ l₂ r₂ => ?_) hm
  refine h a b h₂ (hle.trans (l₁.trans l₂)) (mono _ _ _ l₂ r₁) r₂ A _ _ E ha (.refl _) fun v h' tk l r => ?_
  obtain rfl := Rd.bool_inv r
  exact wpAny_truthy_bool (hq h' tk (l₁.trans (l₂.trans l)))
end
end Mine

namespace Mine
section
variable {w : World} {mg mb : Str → Option Value} {B : Heap} {W : List Str} {env : Env} {Δ : List (Str × Slot)} {k : Nat} {h₀ : Heap} {l r e : Expr} {pos : Pos} {a b : Int} {x y : Str}
theorem ev_addI (p : Ev w k env h₀ l (D (.int a))) (q : Ev w k env h₀ r (D (.int b))) : Ev w k env h₀ (.BinOp l .Add r pos) (D (.int (a + b))) := by
  refine ev_bin p q D.mono fun u v h₃ _ ru rv => ?_
  obtain ⟨t, rfl⟩ := Rd.int_inv ru
  obtain ⟨t', rfl⟩ := Rd.int_inv rv
  exact fun A s Q E ha hle hq => P.add_int (hq _ _ _ (.refl _) (.int _ _ _))
theorem ev_subI (p : Ev w k env h₀ l (D (.int a))) (q : Ev w k env h₀ r (D (.int b))) : Ev w k env h₀ (.BinOp l .Sub r pos) (D (.int (a - b))) := by
  refine ev_bin p q D.mono fun u v h₃ _ ru rv => ?_
  obtain ⟨t, rfl⟩ := Rd.int_inv ru
  obtain ⟨t', rfl⟩ := Rd.int_inv rv
  exact fun A s Q E ha hle hq => P.sub_int (hq _ _ _ (.refl _) (.int _ _ _))
theorem ev_mulI (p : Ev w k env h₀ l (D (.int a))) (q : Ev w k env h₀ r (D (.int b))) (hm : IntMulOk a b) : Ev w k env h₀ (.BinOp l .Mult r pos) (D (.int (a * b))) := by
  refine ev_bin p q D.mono fun u v h₃ _ ru rv => ?_
  obtain ⟨t, rfl⟩ := Rd.int_inv ru
  obtain ⟨t', rfl⟩ := Rd.int_inv rv
  exact fun A s Q E ha hle hq => P.mul_int (hq _ _ _ (.refl _) (.int _ _ _)) hm
theorem ev_divI (p : Ev w k env h₀ l (D (.int a))) (q : Ev w k env h₀ r (D (.int b))) (hb : b ≠ 0) (hp : Builtin.divisionGoesByPylong a b = false) : Ev w k env h₀ (.BinOp l .FloorDiv r pos) (D (.int (a.fdiv b))) := by
  refine ev_bin p q D.mono fun u v h₃ _ ru rv => ?_
  obtain ⟨t, rfl⟩ := Rd.int_inv ru
  obtain ⟨t', rfl⟩ := Rd.int_inv rv
  exact fun A s Q E ha hle hq => floordiv_int hb (hq _ _ _ (.refl _) (.int _ _ _)) (.inl hp)
theorem ev_modI (p : Ev w k env h₀ l (D (.int a))) (q : Ev w k env h₀ r (D (.int b))) (hb : b ≠ 0) : Ev w k env h₀ (.BinOp l .Mod r pos) (D (.int (a.fmod b))) := by
  refine ev_bin p q D.mono fun u v h₃ _ ru rv => ?_
  obtain ⟨t, rfl⟩ := Rd.int_inv ru
  obtain ⟨t', rfl⟩ := Rd.int_inv rv
  exact fun A s Q E ha hle hq => mod_int' hb (hq _ _ _ (.refl _) (.int _ _ _))
theorem ev_addS (p : Ev w k env h₀ l (D (.str x))) (q : Ev w k env h₀ r (D (.str y))) (hz : x.length + y.length ≤ sizeLine) : Ev w k env h₀ (.BinOp l .Add r pos) (D (.str (x ++ y))) := by
  refine ev_bin p q D.mono fun u v h₃ _ ru rv => ?_
  obtain ⟨t, rfl⟩ := Rd.str_inv ru
  obtain ⟨t', rfl⟩ := Rd.str_inv rv
  exact fun A s Q E ha hle hq => PyProof.Rows.add_str (fun t' tk => hq _ _ _ (.refl _) (.str _ _ _)) hz
theorem cmpI {op : CmpOp} {c : Bool} (hc : ∀ (t t' : Tok) (A : Around) (s : Shared) (Q : Value → Shared → Prop) (E : Value → Shared → Prop), Q (.bool c) s → wpAny (model pr w) A (compareOp op (.int a t) (.int b t')) Q E s) :
    ∀ u v h₃, Le h₀ h₃ → D (.int a) u h₃ → D (.int b) v h₃ → Cv w k h₃ (compareOp op u v) (D (.bool c)) := by
  intro u v h₃ _ ru rv
  obtain ⟨t, rfl⟩ := Rd.int_inv ru
  obtain ⟨t', rfl⟩ := Rd.int_inv rv
  exact fun A s Q E ha hle hq => hc t t' A s Q E (hq _ s.heap s.toks (.refl _) (.bool _ _))
theorem cmpS {op : CmpOp} {c : Bool} (hc : ∀ (t t' : Tok) (A : Around) (s : Shared) (Q : Value → Shared → Prop) (E : Value → Shared → Prop), Q (.bool c) s → wpAny (model pr w) A (compareOp op (.str x t) (.str y t')) Q E s) :
    ∀ u v h₃, Le h₀ h₃ → D (.str x) u h₃ → D (.str y) v h₃ → Cv w k h₃ (compareOp op u v) (D (.bool c)) := by
  intro u v h₃ _ ru rv
  obtain ⟨t, rfl⟩ := Rd.str_inv ru
  obtain ⟨t', rfl⟩ := Rd.str_inv rv
  exact fun A s Q E ha hle hq => hc t t' A s Q E (hq _ s.heap s.toks (.refl _) (.bool _ _))
theorem tv_ltI (p : Ev w k env h₀ l (D (.int a))) (q : Ev w k env h₀ r (D (.int b))) (hm : behindInMarks .Lt r = false := by with_unfolding_all rfl) : Tv w k env h₀ (.Compare l [.Lt] [r] pos) (decide (a < b)) :=
  tv_cmp p q D.mono (cmpI fun _ _ _ _ _ _ h => P.lt_int h) hm
theorem tv_gtI (p : Ev w k env h₀ l (D (.int a))) (q : Ev w k env h₀ r (D (.int b))) (hm : behindInMarks .Gt r = false := by with_unfolding_all rfl) : Tv w k env h₀ (.Compare l [.Gt] [r] pos) (decide (a > b)) :=
  tv_cmp p q D.mono (cmpI fun _ _ _ _ _ _ h => P.gt_int h) hm
theorem tv_eqI (p : Ev w k env h₀ l (D (.int a))) (q : Ev w k env h₀ r (D (.int b))) (hm : behindInMarks .Eq r = false := by with_unfolding_all rfl) : Tv w k env h₀ (.Compare l [.Eq] [r] pos) (a == b) :=
  tv_cmp p q D.mono (cmpI fun _ _ _ _ _ _ h => P.eq_int h) hm
theorem tv_neI (p : Ev w k env h₀ l (D (.int a))) (q : Ev w k env h₀ r (D (.int b))) (hm : behindInMarks .NotEq r = false := by with_unfolding_all rfl) : Tv w k env h₀ (.Compare l [.NotEq] [r] pos) (a != b) :=
  tv_cmp p q D.mono (cmpI fun _ _ _ _ _ _ h => P.ne_int h) hm
theorem tv_neS (p : Ev w k env h₀ l (D (.str x))) (q : Ev w k env h₀ r (D (.str y))) (hm : behindInMarks .NotEq r = false := by with_unfolding_all rfl) : Tv w k env h₀ (.Compare l [.NotEq] [r] pos) (x != y) :=
  tv_cmp p q D.mono (cmpS fun _ _ _ _ _ _ h => PyProof.Rows.ne_str h) hm
theorem tv_inS (p : Ev w k env h₀ l (D (.str y))) (q : Ev w k env h₀ r (D (.str x))) (hm : behindInMarks .In r = false := by with_unfolding_all rfl) : Tv w k env h₀ (.Compare l [.In] [r] pos) (!(Builtin.Str.occurrences x y 0 x.length 1).isEmpty) :=
  tv_cmp p q D.mono (cmpS fun _ _ _ _ _ _ h => P.in_str h) hm
theorem tv_notInS (p : Ev w k env h₀ l (D (.str y))) (q : Ev w k env h₀ r (D (.str x))) (hm : behindInMarks .NotIn r = false := by with_unfolding_all rfl) : Tv w k env h₀ (.Compare l [.NotIn] [r] pos) (!(!(Builtin.Str.occurrences x y 0 x.length 1).isEmpty)) :=
  tv_cmp p q D.mono (cmpS fun _ _ _ _ _ _ h => P.notIn_str h) hm
theorem ev_negI (p : Ev w k env h₀ e (D (.int a))) : Ev w k env h₀ (.UnaryOp .USub e pos) (D (.int (-a))) := by
  intro A s Q E ha hle hq
  show wpAny _ A (do let v ← eval e env; standAt pos; holding [v] (unaryOp .USub v)) Q E s
  refine wpAny_bind (p A s _ E ha hle fun v h₁ t₁ l₁ r₁ => wpAny_bind (wpAny_standAt (wpAny_holding ?_)))
  obtain ⟨t, rfl⟩ := Rd.int_inv r₁
  exact P.neg_int (hq _ _ _ l₁ (.int _ _ _))
theorem tv_not {c : Bool} (p : Tv w k env h₀ e c) : Tv w k env h₀ (.UnaryOp .Not e pos) (!c) := by
  intro A s Q E ha hle hq
  show wpAny _ A (do return !(← isTrue e env (eval e env))) Q E s
  exact wpAny_bind (p A s _ E ha hle fun h₁ t₁ l₁ => wpAny_pure (hq h₁ t₁ l₁))
theorem tv_and {c d : Bool} (p : Tv w k env h₀ e c) (q : c = true → Tv w k env h₀ (.BoolOp .And [r] pos) d) : Tv w k env h₀ (.BoolOp .And [e, r] pos) (c && d) := by
  intro A s Q E ha hle hq
  refine isTrue_and (p A s _ E ha hle fun h₁ t₁ l₁ => ?_)
  cases c with
  | false => exact hq h₁ t₁ l₁
  | true => exact q rfl A _ _ E ha (hle.trans l₁) fun h₂ t₂ l₂ => hq h₂ t₂ (l₁.trans l₂)
theorem tv_and3 {c d : Bool} {r₂ : Expr} (p : Tv w k env h₀ e c) (q : c = true → Tv w k env h₀ (.BoolOp .And [r, r₂] pos) d) : Tv w k env h₀ (.BoolOp .And [e, r, r₂] pos) (c && d) := by
  intro A s Q E ha hle hq
  refine isTrue_and (p A s _ E ha hle fun h₁ t₁ l₁ => ?_)
  cases c with
  | false => exact hq h₁ t₁ l₁
  | true => exact q rfl A _ _ E ha (hle.trans l₁) fun h₂ t₂ l₂ => hq h₂ t₂ (l₁.trans l₂)
theorem tv_and1 {c : Bool} (p : Tv w k env h₀ e c) : Tv w k env h₀ (.BoolOp .And [e] pos) c := by
  intro A s Q E ha hle hq
  refine isTrue_and (p A s _ E ha hle fun h₁ t₁ l₁ => ?_)
  cases c with
  | false => exact hq h₁ t₁ l₁
  | true => exact isTrue_and_nil (hq h₁ t₁ l₁)
theorem tv_or {c d : Bool} (p : Tv w k env h₀ e c) (q : c = false → Tv w k env h₀ (.BoolOp .Or [r] pos) d) : Tv w k env h₀ (.BoolOp .Or [e, r] pos) (c || d) := by
  intro A s Q E ha hle hq
  refine isTrue_or (p A s _ E ha hle fun h₁ t₁ l₁ => ?_)
  cases c with
  | true => exact hq h₁ t₁ l₁
  | false => exact q rfl A _ _ E ha (hle.trans l₁) fun h₂ t₂ l₂ => hq h₂ t₂ (l₁.trans l₂)
theorem tv_or1 {c : Bool} (p : Tv w k env h₀ e c) : Tv w k env h₀ (.BoolOp .Or [e] pos) c := by
  intro A s Q E ha hle hq
  refine isTrue_or (p A s _ E ha hle fun h₁ t₁ l₁ => ?_)
  cases c with
  | true => exact hq h₁ t₁ l₁
  | false => exact isTrue_or_nil (hq h₁ t₁ l₁)
/-- many operands, one after the other -/
def Evs (w : World) (k : Nat) (env : Env) (h₀ : Heap) : List Expr → (List Value → Heap → Prop) → Prop := fun es R =>
  ∀ (A : Around) (pos : Pos) (s : Shared) (Q : List Value → Shared → Prop) (E : Value → Shared → Prop), AOk k A → Le h₀ s.heap → (∀ v h' tk, Le s.heap h' → R v h' → Q v { s with heap := h', toks := tk }) → wpAny (model pr w) A (spliced (backTo pos (starEach es env))) Q E s
theorem evs_nil : Evs w k env h₀ [] (fun vs _ => vs = []) := fun A pos s Q E ha hle hq => spliced_none (hq [] s.heap s.toks (.refl _) rfl)
theorem evs_cons {es : List Expr} {R : Value → Heap → Prop} {S : List Value → Heap → Prop} (p : Ev w k env h₀ e R) (q : Evs w k env h₀ es S) (mono : ∀ v h h', Le h h' → R v h → R v h')
    (he : starEach (e :: es) env = (false, eval e env) :: starEach es env := by rfl) : Evs w k env h₀ (e :: es) (fun vs h => ∃ v r, vs = v :: r ∧ R v h ∧ S r h) :=
  fun A pos s Q E ha hle hq => spliced_more (p A s _ E ha hle fun v h₁ t₁ l₁ r₁ => q A pos _ _ E ha (hle.trans l₁) fun vs h₂ t₂ l₂ r₂ => hq _ h₂ t₂ (l₁.trans l₂) ⟨v, vs, rfl, mono _ _ _ l₂ r₁, r₂⟩) he
/-- data, one after the other -/
def Evd (w : World) (k : Nat) (env : Env) (h₀ : Heap) (es : List Expr) (ds : List PyData) : Prop := Evs w k env h₀ es (fun vs h => RdL h vs ds)
theorem evd_nil : Evd w k env h₀ [] [] := fun A pos s Q E ha hle hq => spliced_none (hq [] s.heap s.toks (.refl _) (.nil _))
theorem evd_cons {es : List Expr} {d : PyData} {ds : List PyData} (p : Ev w k env h₀ e (D d)) (q : Evd w k env h₀ es ds) (he : starEach (e :: es) env = (false, eval e env) :: starEach es env := by rfl) : Evd w k env h₀ (e :: es) (d :: ds) :=
  fun A pos s Q E ha hle hq => spliced_more (p A s _ E ha hle fun v h₁ t₁ l₁ r₁ => q A pos _ _ E ha (hle.trans l₁) fun vs h₂ t₂ l₂ r₂ => hq _ h₂ t₂ (l₁.trans l₂) (.cons (r₁.le l₂) r₂)) he
theorem ev_list {es : List Expr} {ds : List PyData} (p : Evd w k env h₀ es ds) (hz : ds.length ≤ sizeLine := by size_fits) : Ev w k env h₀ (.List es pos) (D (.list ds)) := by
  intro A s Q E ha hle hq
  refine List_ (p A pos s _ E ha hle fun vs h₁ t₁ l₁ r₁ => wpAny_newObj_type (hq _ _ _ (l₁.trans (Le.push _ _)) ?_) ?_)
  · exact .list (Heap.get?_push_size _ rfl) rfl rfl (by simpa using r₁.le (Le.push _ _))
  · show vs.toArray.size ≤ sizeLine
    rw [List.size_toArray, r₁.length]; exact hz
theorem ev_tuple {es : List Expr} {ds : List PyData} {kk : Nat} (p : Evd w k env h₀ es ds) (hz : ds.length ≤ sizeLine := by size_fits) : Ev w k env h₀ (.Tuple es kk pos) (D (.tuple ds)) := by
  intro A s Q E ha hle hq
  refine Tuple_ (p A pos s _ E ha hle fun vs h₁ t₁ l₁ r₁ => wpAny_newObj_type (hq _ _ _ (l₁.trans (Le.push _ _)) ?_) ?_)
  · exact .tuple (Heap.get?_push_size _ rfl) rfl rfl (by simpa using r₁.le (Le.push _ _))
  · show vs.toArray.size ≤ sizeLine
    rw [List.size_toArray, r₁.length]; exact hz
theorem Rd.isList {h : Heap} {v : Value} {ds : List PyData} (x : Rd h v (.list ds)) : ∃ a vs, v = .ref a ∧ h.IsList a vs ∧ RdL h vs.toList ds := by
  obtain ⟨a, o, vs, n, rfl, ho, hc, hd, r⟩ := x.list_inv
  exact ⟨a, vs, rfl, ⟨o, ho, hc, n, hd⟩, r⟩
theorem ev_addL {ds es : List PyData} (p : Ev w k env h₀ l (D (.list ds))) (q : Ev w k env h₀ r (D (.list es))) (hz : ds.length + es.length ≤ sizeLine) : Ev w k env h₀ (.BinOp l .Add r pos) (D (.list (ds ++ es))) := by
  refine ev_bin p q D.mono fun u v h₃ _ ru rv => ?_
  obtain ⟨a, ⟨cls, dd, data, sl⟩, vs, n, rfl, ho, hc, hd, r₁⟩ := Rd.list_inv ru
  obtain ⟨b, ⟨cls2, dd2, data2, sl2⟩, ws, n2, rfl, ho2, hc2, hd2, r₂⟩ := Rd.list_inv rv
  simp only at hc hd hc2 hd2
  subst hc hd hc2 hd2
  intro A s Q E ha hle hq
  refine concat_meets ⟨_, hle _ _ ho, rfl⟩ ⟨_, hle _ _ ho2, rfl⟩ noFill_list_add seq_list_add PySem.F.slot_list_add PySem.F.entry_list_add (PySem.F.args_list_add_2 _ _) (list_addW a b vs ws n n2 dd dd2 sl sl2 ?_) ⟨hle _ _ ho, hle _ _ ho2, ?_⟩
  · have e1 := r₁.length
    have e2 := r₂.length
    simp at e1 e2
    omega
  · refine hq _ _ _ (Le.push _ _) (.list (Heap.get?_push_size _ rfl) rfl rfl ?_)
    have := (r₁.append r₂).le (hle.trans (.push _ ({ cls := .type "list", data := .seq (vs ++ ws) } : Obj)))
    simpa using this
/-- an item -/
theorem ev_sub {value slice : Expr} {R₁ R₂ R : Value → Heap → Prop} (p : Ev w k env h₀ value R₁) (q : Ev w k env h₀ slice R₂) (mono : ∀ v h h', Le h h' → R₁ v h → R₁ v h')
    (h : ∀ o i h₃, Le h₀ h₃ → R₁ o h₃ → R₂ i h₃ → ∃ T id, typeLookup (.type T) "__getitem__" = pure (some (.builtin id)) ∧ (∀ s : Shared, Le h₃ s.heap → s.TypeIs o T) ∧ Cv w k h₃ (getItem o i) R)
    (hs : ∀ o i, ∃ ops, subscripted slice false o i = operate ops (getItem o i) := by intro _ _; exact ⟨_, rfl⟩) : Ev w k env h₀ (.Subscript value slice pos) R := by
  intro A s Q E ha hle hq
  refine Subscript_ (p A s _ E ha hle fun o h₁ t₁ l₁ r₁ => q A _ _ E ha (hle.trans l₁) fun i h₂ t₂ l₂ r₂ => ?_)
  obtain ⟨T, id, hl, hT, hc⟩ := h o i h₂ (hle.trans (l₁.trans l₂)) (mono _ _ _ l₂ r₁) r₂
  obtain ⟨ops, hops⟩ := hs o i
  exact tail_any (hT _ (.refl _)) hl (hc A _ _ E ha (.refl _) fun v h' tk l r => hq v h' tk (l₁.trans (l₂.trans l)) r) hops
theorem ev_itemL {value slice : Expr} {ds : List PyData} {d : PyData} {i : Int} (p : Ev w k env h₀ value (D (.list ds))) (q : Ev w k env h₀ slice (D (.int i))) (h0 : 0 ≤ i) (hd : ds[i.toNat]? = some d) (hfit : i < 2 ^ 63)
    (hs : ∀ o i, ∃ ops, subscripted slice false o i = operate ops (getItem o i) := by intro _ _; exact ⟨_, rfl⟩) : Ev w k env h₀ (.Subscript value slice pos) (D d) := by
  refine ev_sub p q D.mono (fun o j h₃ _ ro ri => ?_) hs
  obtain ⟨a, vs, rfl, hl, r₁⟩ := Rd.isList ro
  obtain ⟨t, rfl⟩ := Rd.int_inv ri
  obtain ⟨v, hv, rv⟩ := r₁.get hd
  refine ⟨"list", _, list_getitem_lookup, fun s l => Heap.IsList.typeIs (hl.at fun o e => l _ o e), fun A s Q E ha hle hq => ?_⟩
  exact wpAny_getItem_list (hl.at fun o e => hle _ o e) h0 hfit (by simpa using hv) (hq _ s.heap s.toks (.refl _) (rv.le hle))
theorem ev_lastL {value slice : Expr} {ds : List PyData} {d : PyData} (p : Ev w k env h₀ value (D (.list ds))) (q : Ev w k env h₀ slice (D (.int (-1)))) (hd : ds.getLast? = some d)
    (hs : ∀ o i, ∃ ops, subscripted slice false o i = operate ops (getItem o i) := by intro _ _; exact ⟨_, rfl⟩) : Ev w k env h₀ (.Subscript value slice pos) (D d) := by
  refine ev_sub p q D.mono (fun o j h₃ _ ro ri => ?_) hs
  obtain ⟨a, vs, rfl, hl, r₁⟩ := Rd.isList ro
  obtain ⟨t, rfl⟩ := Rd.int_inv ri
  rw [List.getLast?_eq_getElem?] at hd
  obtain ⟨v, hv, rv⟩ := r₁.get hd
  have hlen := r₁.length
  simp at hlen
  have hpos : 0 < ds.length := by
    rcases Nat.eq_zero_or_pos ds.length with h | h
    · rw [List.eq_nil_of_length_eq_zero h] at hd; simp at hd
    · exact h
  refine ⟨"list", _, list_getitem_lookup, fun s l => Heap.IsList.typeIs (hl.at fun o e => l _ o e), fun A s Q E ha hle hq => ?_⟩
  refine wpAny_getItem_list_neg (hl.at fun o e => hle _ o e) (by decide) (by omega) (by decide) (x := v) ?_ (hq _ s.heap s.toks (.refl _) (rv.le hle))
  have e : (-1 + (vs.size : Int)).toNat = ds.length - 1 := by omega
  rw [e]; simpa using hv
theorem ev_itemS {value slice : Expr} {i : Int} {c : Nat} (p : Ev w k env h₀ value (D (.str x))) (q : Ev w k env h₀ slice (D (.int i))) (hr : (decide (i < -(2 ^ 63 : Int)) || decide (i ≥ 2 ^ 63)) = false) (hc : (seqIndex? i x.length).bind (x.cps[·]?) = some c)
    (hs : ∀ o i, ∃ ops, subscripted slice false o i = operate ops (getItem o i) := by intro _ _; exact ⟨_, rfl⟩) : Ev w k env h₀ (.Subscript value slice pos) (D (.str ⟨#[c]⟩)) := by
  refine ev_sub p q D.mono (fun o j h₃ _ ro ri => ?_) hs
  obtain ⟨t, rfl⟩ := Rd.str_inv ro
  obtain ⟨t', rfl⟩ := Rd.int_inv ri
  exact ⟨"str", _, PySem.F.slot_str_getitem.lookup, fun s _ => typeIs_str s x t, fun A s Q E ha hle hq => P.getItem_str hr hc (hq _ _ _ (.refl _) (.str _ _ _))⟩
/-- a slice's part -/
def Pt (w : World) (k : Nat) (env : Env) (h₀ : Heap) : Option Expr → Option Int → Prop
  | none, o => o = none
  | some e, o => ∃ i, o = some i ∧ Ev w k env h₀ e (D (.int i))
theorem pt_none : Pt w k env h₀ none none := rfl
theorem pt_some {i : Int} (p : Ev w k env h₀ e (D (.int i))) : Pt w k env h₀ (some e) (some i) := ⟨i, rfl, p⟩
theorem pt_run {oe : Option Expr} {o : Option Int} (p : Pt w k env h₀ oe o) {A : Around} {s : Shared} {Q : Value → Shared → Prop} {E : Value → Shared → Prop} (ha : AOk k A) (hle : Le h₀ s.heap)
    (hq : ∀ v h' tk, Le s.heap h' → IsPart v o → Q v { s with heap := h', toks := tk }) : wpAny (model pr w) A (evalPart oe env) Q E s := by
  cases oe with
  | none =>
    have p' : o = none := p
    subst p'
    exact evalPart_none_step (hq _ s.heap s.toks (.refl _) .none)
  | some e =>
    obtain ⟨i, rfl, p⟩ := p
    refine evalPart_some_step (p A s _ E ha hle fun v h' tk l r => ?_)
    obtain ⟨t, rfl⟩ := Rd.int_inv r
    exact hq _ h' tk l (.int _ _)
theorem ev_sliceObj {lower upper step : Option Expr} {lo hi st : Option Int} (p : Pt w k env h₀ lower lo) (q : Pt w k env h₀ upper hi) (r : Pt w k env h₀ step st) :
    Ev w k env h₀ (.Slice lower upper step pos) (fun v h => ∃ a vl vu vs, v = .ref a ∧ h.IsSliceOf a vl vu vs ∧ IsPart vl lo ∧ IsPart vu hi ∧ IsPart vs st) := by
  intro A s Q E ha hle hq
  refine wpAny_Slice (pt_run p ha hle fun v₁ h₁ t₁ l₁ r₁ => pt_run q ha (hle.trans l₁) fun v₂ h₂ t₂ l₂ r₂ => pt_run r ha (hle.trans (l₁.trans l₂)) fun v₃ h₃ t₃ l₃ r₃ => ?_)
  exact hq _ _ _ (l₁.trans (l₂.trans (l₃.trans (Le.push _ _)))) ⟨_, v₁, v₂, v₃, rfl, Heap.IsSliceOf.new .., r₁, r₂, r₃⟩
theorem ev_sliceL {value : Expr} {lower upper step : Option Expr} {lo hi st : Option Int} {ds es : List PyData} {sp : Pos} (p : Ev w k env h₀ value (D (.list ds))) (p₁ : Pt w k env h₀ lower lo) (p₂ : Pt w k env h₀ upper hi) (p₃ : Pt w k env h₀ step st) (h0 : st ≠ some 0) (hz : ds.length ≤ sizeLine)
    (he : ∀ h (vs : Array Value), RdL h vs.toList ds → RdL h (slicePick vs lo hi st).toList es)
    (hs : ∀ o i, ∃ ops, subscripted (.Slice lower upper step sp) false o i = operate ops (getItem o i) := by intro _ _; exact ⟨_, rfl⟩) : Ev w k env h₀ (.Subscript value (.Slice lower upper step sp) pos) (D (.list es)) := by
  refine ev_sub p (ev_sliceObj p₁ p₂ p₃) D.mono (fun o j h₃ _ ro ri => ?_) hs
  obtain ⟨a, vs, rfl, hl, r₁⟩ := Rd.isList ro
  obtain ⟨c, vl, vu, vt, rfl, hsl, x₁, x₂, x₃⟩ := ri
  refine ⟨"list", _, list_getitem_lookup, fun s l => Heap.IsList.typeIs (hl.at fun o e => l _ o e), fun A s Q E ha hle hq => ?_⟩
  have hsl' : s.heap.IsSliceOf c vl vu vt := by obtain ⟨o, ho, r⟩ := hsl; exact ⟨o, hle _ _ ho, r⟩
  refine wpAny_getItem_list_slice (hl.at fun o e => hle _ o e) hsl' x₁ x₂ x₃ h0 (hq _ _ _ (Le.push _ _) (.list (Heap.get?_push_size _ rfl) rfl rfl ?_)) ?_
  · exact (he _ vs r₁).le (hle.trans (Le.push _ _))
  · have e := r₁.length
    simp at e
    omega
theorem pick_upto {h : Heap} {ds : List PyData} (n : Nat) (vs : Array Value) (r : RdL h vs.toList ds) : RdL h (slicePick vs none (some (n : Int)) none).toList (ds.take n) := by
  rw [slicePick_upto']; simpa using r.take n
theorem pick_from {h : Heap} {ds : List PyData} (n : Nat) (vs : Array Value) (r : RdL h vs.toList ds) : RdL h (slicePick vs (some (n : Int)) none none).toList (ds.drop n) := by
  rw [slicePick_from']; simpa using r.drop n
theorem pick_rev {h : Heap} {ds : List PyData} (vs : Array Value) (r : RdL h vs.toList ds) : RdL h (slicePick vs none none (some (-1))).toList ds.reverse := by
  rw [krv_pick]; simpa using r.reverse
end
end Mine

namespace Mine
section
variable {w : World} {mg mb : Str → Option Value} {B : Heap} {W : List Str} {env : Env} {Δ : List (Str × Slot)} {k : Nat} {A : Around} {s : Shared} {Q : Flow → Shared → Prop} {E : Value → Shared → Prop} {rest : List Stmt} {pos : Pos}
theorem Eff.refl {M : List Addr} {h : Heap} : Eff env M h h := fun _ _ _ _ _ e => e
/-- may a name be bound -/
def Bd (W : List Str) (env : Env) (x : Str) : Prop := env.kindOf x = some .local ∨ (env.kindOf x = some .cell ∧ x ∈ W)
theorem st_any {x : Str} {v : Value} {Q : Unit → Shared → Prop} (F : Fm w mg mb B W env s.heap Δ) (hl : Bd W env x)
    (h : ∀ h' tk, Gr env s.heap h' → Gs s.heap h' → Fm w mg mb B W env h' ((x, .v v) :: Δ) → Q () { s with heap := h', toks := tk }) : wpAny (model pr w) A (storeName env x v) Q E s := by
  rcases hl with hl | ⟨hl, hx⟩
  · exact st_local F hl fun h' g gs _ F' => h h' _ g gs F'
  · exact st_cell F hl hx fun h' g gs F' => h h' _ g gs F'
theorem st_d {x : Str} {v : Value} {d : PyData} {Q : Unit → Shared → Prop} (F : Fm w mg mb B W env s.heap Δ) (hl : Bd W env x) (hv : Rd s.heap v d)
    (h : ∀ h' tk, Gr env s.heap h' → Gs s.heap h' → Fm w mg mb B W env h' ((x, .d d) :: Δ) → Q () { s with heap := h', toks := tk }) : wpAny (model pr w) A (storeName env x v) Q E s :=
  st_any F hl fun h' tk g gs F' => h h' tk g gs (F'.retype (sl := .d d) (hv.gs gs))
theorem sx_nil (h : Q .next s) : wpAny (model pr w) A (execs [] env) Q E s := wpAny_execs_nil h
theorem sx_ret {e : Expr} {R : Value → Heap → Prop} (ha : AOk k A) (p : Ev w k env s.heap e R) (h : ∀ v h' tk, Le s.heap h' → R v h' → Q (.ret v) { s with heap := h', toks := tk }) : wpAny (model pr w) A (execs (.Return (some e) pos :: rest) env) Q E s :=
  wpAny_execs_cons (wpAny_Return_some (p A s _ E ha (.refl _) fun v h' tk l r => h v h' tk l r))
theorem sx_cont (h : Q .cont s) : wpAny (model pr w) A (execs (.Continue pos :: rest) env) Q E s := by
  refine wpAny_execs_cons ?_
  show wpAny _ A (do standAt pos; pure Flow.cont) _ _ _
  exact wpAny_bind (wpAny_standAt (wpAny_pure h))
theorem sx_if {test : Expr} {body orelse : List Stmt} {c : Bool} (ha : AOk k A) (p : Tv w k env s.heap test c)
    (h1 : c = true → ∀ h' tk, Le s.heap h' → wpAny (model pr w) A (execs body env) (fun f s' => match f with | .next => wpAny (model pr w) A (execs rest env) Q E s' | f => Q f s') E { s with heap := h', toks := tk })
    (h2 : c = false → ∀ h' tk, Le s.heap h' → wpAny (model pr w) A (execs orelse env) (fun f s' => match f with | .next => wpAny (model pr w) A (execs rest env) Q E s' | f => Q f s') E { s with heap := h', toks := tk }) :
    wpAny (model pr w) A (execs (.If test body orelse pos :: rest) env) Q E s := by
  refine wpAny_execs_cons (wpAny_If (p A s _ E ha (.refl _) fun h' tk l => ?_))
  cases c with
  | true => exact h1 rfl h' tk l
  | false => exact h2 rfl h' tk l
theorem sx_assignR {x : Str} {p' : Pos} {e : Expr} {R : Value → Heap → Prop} (F : Fm w mg mb B W env s.heap Δ) (ha : AOk k A) (p : Ev w k env s.heap e R) (hl : Bd W env x)
    (h : ∀ v h₁ h' tk, Le s.heap h₁ → R v h₁ → Gr env h₁ h' → Gs h₁ h' → Fm w mg mb B W env h' ((x, .v v) :: Δ) → wpAny (model pr w) A (execs rest env) Q E { s with heap := h', toks := tk })
    (hs : swapsWith e (some (.Name x p')) pos.line env = pure false := by rfl) : wpAny (model pr w) A (execs (.Assign [.Name x p'] e pos :: rest) env) Q E s :=
  wpAny_execs_cons (wpAny_Assign_Name (p A s _ E ha (.refl _) fun v h₁ t₁ l₁ r₁ => st_any (F.le l₁) hl fun h' tk g gs F' => h v h₁ h' tk l₁ r₁ g gs F') hs)
theorem sx_assign {x : Str} {p' : Pos} {e : Expr} {d : PyData} (F : Fm w mg mb B W env s.heap Δ) (ha : AOk k A) (p : Ev w k env s.heap e (D d)) (hl : Bd W env x)
    (h : ∀ h' tk, Gr env s.heap h' → Gs s.heap h' → Fm w mg mb B W env h' ((x, .d d) :: Δ) → wpAny (model pr w) A (execs rest env) Q E { s with heap := h', toks := tk })
    (hs : swapsWith e (some (.Name x p')) pos.line env = pure false := by rfl) : wpAny (model pr w) A (execs (.Assign [.Name x p'] e pos :: rest) env) Q E s :=
  sx_assignR F ha p hl (fun v h₁ h' tk l r g gs F' => h h' tk ((Eff.of_le l).trans g) ((Gs.of_le l).trans gs) (F'.retype (sl := .d d) (Rd.gs r gs))) hs
/-- names bound one after the other -/
theorem bind1 {x : Str} {v : Value} {d : PyData} {Q : Unit → Shared → Prop} (F : Fm w mg mb B W env s.heap Δ) (hl : Bd W env x) (hv : Rd s.heap v d)
    (h : ∀ h' tk, Gr env s.heap h' → Gs s.heap h' → Fm w mg mb B W env h' ((x, .d d) :: Δ) → Q () { s with heap := h', toks := tk }) : wpAny (model pr w) A (bindName env x v) Q E s :=
  wpAny_bindName (st_d F hl hv h)
theorem items_of {v : Value} {ds : List PyData} {n : Nat} {Q : List Value → Shared → Prop} (ha : AOk k A) (hv : Rd s.heap v (.tuple ds) ∨ Rd s.heap v (.list ds)) (hn : n = ds.length)
    (h : ∀ vs h', Le s.heap h' → RdL h' vs ds → Q vs { s with heap := h' }) : wpAny (model pr w) A (unpackItems v n none) Q E s := by
  have le : ∀ h', Heap.ExtBut s.heap.objs.size s.heap h' → Le s.heap h' := fun h' he b o e => he b o (Nat.ne_of_lt (Heap.lt_size e)) e
  rcases hv with hv | hv
  · obtain ⟨a, o, vs, m, rfl, ho, hc, hd, r⟩ := hv.tuple_inv
    have e := r.length
    simp at e
    rw [show n = vs.size by omega]
    exact wpAny_unpackItems_tuple ha.hd ⟨o, ho, hc, m, hd⟩ fun h' he => h _ h' (le h' he) (r.le (le h' he))
  · obtain ⟨a, o, vs, m, rfl, ho, hc, hd, r⟩ := hv.list_inv
    have e := r.length
    simp at e
    rw [show n = vs.size by omega]
    exact kun_itemsOf ha.hd ⟨o, ho, hc, m, hd⟩ fun h' he => h _ h' (le h' he) (r.le (le h' he))
theorem asg1 {x : Str} {p : Pos} {v : Value} {d : PyData} {Q : Unit → Shared → Prop} (F : Fm w mg mb B W env s.heap Δ) (hl : Bd W env x) (hv : Rd s.heap v d)
    (h : ∀ h' tk, Gr env s.heap h' → Gs s.heap h' → Fm w mg mb B W env h' ((x, .d d) :: Δ) → Q () { s with heap := h', toks := tk }) : wpAny (model pr w) A (assign (.Name x p) env v) Q E s :=
  wpAny_assign_Name (st_d F hl hv h)
theorem asg2 {x y : Str} {p p' tp : Pos} {kk : Nat} {v : Value} {d e : PyData} {Q : Unit → Shared → Prop} (F : Fm w mg mb B W env s.heap Δ) (ha : AOk k A) (hx : Bd W env x) (hy : Bd W env y) (hv : Rd s.heap v (.tuple [d, e]) ∨ Rd s.heap v (.list [d, e]))
    (h : ∀ h' tk, Gr env s.heap h' → Gs s.heap h' → Fm w mg mb B W env h' ((y, .d e) :: (x, .d d) :: Δ) → Q () { s with heap := h', toks := tk }) : wpAny (model pr w) A (assign (.Tuple [.Name x p, .Name y p'] kk tp) env v) Q E s := by
  rw [arm_assign_Tuple]
  refine wpAny_bind (wpAny_standAt ?_)
  unfold unpack
  refine wpAny_bind (wpAny_holding (items_of ha hv rfl fun vs h₁ l₁ r₁ => ?_))
  obtain ⟨a, r, rfl, ra, r₁⟩ := r₁.cons_inv
  obtain ⟨b, r, rfl, rb, r₁⟩ := r₁.cons_inv
  rw [r₁.nil_inv]
  show wpAny _ A (do holding [b] (assign (.Name x p) env a); assignInOrder [assign (.Name y p') env] [b]) _ _ _
  refine wpAny_bind (wpAny_holding (asg1 (F.le l₁) hx ra fun h₂ t₂ g₂ gs₂ F₂ => ?_))
  show wpAny _ A (do holding [] (assign (.Name y p') env b); assignInOrder [] []) _ _ _
  refine wpAny_bind (wpAny_holding (asg1 F₂ hy (rb.gs gs₂) fun h₃ t₃ g₃ gs₃ F₃ => ?_))
  show wpAny _ A (pure ()) _ _ _
  exact wpAny_pure (h h₃ t₃ ((Eff.of_le l₁).trans (g₂.trans g₃)) ((Gs.of_le l₁).trans (gs₂.trans gs₃)) F₃)
theorem asg3 {x y z : Str} {p p' p'' tp : Pos} {kk : Nat} {v : Value} {d e f : PyData} {Q : Unit → Shared → Prop} (F : Fm w mg mb B W env s.heap Δ) (ha : AOk k A) (hx : Bd W env x) (hy : Bd W env y) (hz : Bd W env z) (hv : Rd s.heap v (.tuple [d, e, f]) ∨ Rd s.heap v (.list [d, e, f]))
    (h : ∀ h' tk, Gr env s.heap h' → Gs s.heap h' → Fm w mg mb B W env h' ((z, .d f) :: (y, .d e) :: (x, .d d) :: Δ) → Q () { s with heap := h', toks := tk }) : wpAny (model pr w) A (assign (.Tuple [.Name x p, .Name y p', .Name z p''] kk tp) env v) Q E s := by
  rw [arm_assign_Tuple]
  refine wpAny_bind (wpAny_standAt ?_)
  unfold unpack
  refine wpAny_bind (wpAny_holding (items_of ha hv rfl fun vs h₁ l₁ r₁ => ?_))
  obtain ⟨a, r, rfl, ra, r₁⟩ := r₁.cons_inv
  obtain ⟨b, r, rfl, rb, r₁⟩ := r₁.cons_inv
  obtain ⟨c, r, rfl, rc, r₁⟩ := r₁.cons_inv
  rw [r₁.nil_inv]
  show wpAny _ A (do holding [b, c] (assign (.Name x p) env a); assignInOrder [assign (.Name y p') env, assign (.Name z p'') env] [b, c]) _ _ _
  refine wpAny_bind (wpAny_holding (asg1 (F.le l₁) hx ra fun h₂ t₂ g₂ gs₂ F₂ => ?_))
  show wpAny _ A (do holding [c] (assign (.Name y p') env b); assignInOrder [assign (.Name z p'') env] [c]) _ _ _
  refine wpAny_bind (wpAny_holding (asg1 F₂ hy (rb.gs gs₂) fun h₃ t₃ g₃ gs₃ F₃ => ?_))
  show wpAny _ A (do holding [] (assign (.Name z p'') env c); assignInOrder [] []) _ _ _
  refine wpAny_bind (wpAny_holding (asg1 F₃ hz ((rc.gs gs₂).gs gs₃) fun h₄ t₄ g₄ gs₄ F₄ => ?_))
  show wpAny _ A (pure ()) _ _ _
  exact wpAny_pure (h h₄ t₄ ((Eff.of_le l₁).trans (g₂.trans (g₃.trans g₄))) ((Gs.of_le l₁).trans (gs₂.trans (gs₃.trans gs₄))) F₄)
/-- two names at once from a written pair -/
theorem sx_pair {x y : Str} {p p' tp : Pos} {kk : Nat} {e : Expr} {d f : PyData} (F : Fm w mg mb B W env s.heap Δ) (ha : AOk k A) (pe : Ev w k env s.heap e (D (.tuple [d, f]))) (hx : Bd W env x) (hy : Bd W env y)
    (h : ∀ h' tk, Gr env s.heap h' → Gs s.heap h' → Fm w mg mb B W env h' ((x, .d d) :: (y, .d f) :: Δ) → wpAny (model pr w) A (execs rest env) Q E { s with heap := h', toks := tk })
    (hs : swapsWithSole [.Tuple [.Name x p, .Name y p'] kk tp] e pos.line env = pure false := by rfl) (hw : swappedStores [.Tuple [.Name x p, .Name y p'] kk tp] e env = pure (some [x, y]) := by rfl) :
    wpAny (model pr w) A (execs (.Assign [.Tuple [.Name x p, .Name y p'] kk tp] e pos :: rest) env) Q E s := by
  refine wpAny_execs_cons (Assign_Tuple_swapped (pe A s _ E ha (.refl _) fun v h₁ t₁ l₁ r₁ => items_of ha (.inl r₁) rfl fun vs h₂ l₂ r₂ => ?_) hs hw)
  obtain ⟨a, r, rfl, ra, r₂⟩ := r₂.cons_inv
  obtain ⟨b, r, rfl, rb, r₂⟩ := r₂.cons_inv
  rw [r₂.nil_inv]
  show wpAny _ A (do holding [a] (bindName env y b); assignInOrder [bindName env x] [a]) _ _ _
  refine wpAny_bind (wpAny_holding (bind1 ((F.le l₁).le l₂) hy rb fun h₃ t₃ g₃ gs₃ F₃ => ?_))
  show wpAny _ A (do holding [] (bindName env x a); assignInOrder [] []) _ _ _
  refine wpAny_bind (wpAny_holding (bind1 F₃ hx (ra.gs gs₃) fun h₄ t₄ g₄ gs₄ F₄ => ?_))
  show wpAny _ A (pure ()) _ _ _
  exact wpAny_pure (h h₄ t₄ ((Eff.of_le (l₁.trans l₂)).trans (g₃.trans g₄)) ((Gs.of_le (l₁.trans l₂)).trans (gs₃.trans gs₄)) F₄)
theorem sx_three {x y z : Str} {p p' p'' tp : Pos} {kk : Nat} {e : Expr} {d f g : PyData} (F : Fm w mg mb B W env s.heap Δ) (ha : AOk k A) (pe : Ev w k env s.heap e (D (.tuple [d, f, g]))) (hx : Bd W env x) (hy : Bd W env y) (hz : Bd W env z)
    (h : ∀ h' tk, Gr env s.heap h' → Gs s.heap h' → Fm w mg mb B W env h' ((x, .d d) :: (y, .d f) :: (z, .d g) :: Δ) → wpAny (model pr w) A (execs rest env) Q E { s with heap := h', toks := tk })
    (hs : swapsWithSole [.Tuple [.Name x p, .Name y p', .Name z p''] kk tp] e pos.line env = pure false := by rfl) (hw : swappedStores [.Tuple [.Name x p, .Name y p', .Name z p''] kk tp] e env = pure (some [x, y, z]) := by rfl) :
    wpAny (model pr w) A (execs (.Assign [.Tuple [.Name x p, .Name y p', .Name z p''] kk tp] e pos :: rest) env) Q E s := by
  refine wpAny_execs_cons (Assign_Tuple_swapped (pe A s _ E ha (.refl _) fun v h₁ t₁ l₁ r₁ => items_of ha (.inl r₁) rfl fun vs h₂ l₂ r₂ => ?_) hs hw)
  obtain ⟨a, r, rfl, ra, r₂⟩ := r₂.cons_inv
  obtain ⟨b, r, rfl, rb, r₂⟩ := r₂.cons_inv
  obtain ⟨c, r, rfl, rc, r₂⟩ := r₂.cons_inv
  rw [r₂.nil_inv]
  show wpAny _ A (do holding [b, a] (bindName env z c); assignInOrder [bindName env y, bindName env x] [b, a]) _ _ _
  refine wpAny_bind (wpAny_holding (bind1 ((F.le l₁).le l₂) hz rc fun h₃ t₃ g₃ gs₃ F₃ => ?_))
  show wpAny _ A (do holding [a] (bindName env y b); assignInOrder [bindName env x] [a]) _ _ _
  refine wpAny_bind (wpAny_holding (bind1 F₃ hy (rb.gs gs₃) fun h₄ t₄ g₄ gs₄ F₄ => ?_))
  show wpAny _ A (do holding [] (bindName env x a); assignInOrder [] []) _ _ _
  refine wpAny_bind (wpAny_holding (bind1 F₄ hx ((ra.gs gs₃).gs gs₄) fun h₅ t₅ g₅ gs₅ F₅ => ?_))
  show wpAny _ A (pure ()) _ _ _
  exact wpAny_pure (h h₅ t₅ ((Eff.of_le (l₁.trans l₂)).trans (g₃.trans (g₄.trans g₅))) ((Gs.of_le (l₁.trans l₂)).trans (gs₃.trans (gs₄.trans gs₅))) F₅)
/-- a name turned in place -/
theorem sx_aug {x : Str} {p' : Pos} {op : Operator} {e : Expr} {d₁ d₂ d : PyData} (F : Fm w mg mb B W env s.heap Δ) (ha : AOk k A) (hx : Δ.lookup x = some (.d d₁)) (hl : env.kindOf x = some .local) (p : Ev w k env s.heap e (D d₂))
    (hop : ∀ u v h₃, D d₁ u h₃ → D d₂ v h₃ → Cv w k h₃ (inplaceOp op u v) (D d))
    (h : ∀ h' tk, Gr env s.heap h' → Gs s.heap h' → Fm w mg mb B W env h' ((x, .d d) :: Δ) → wpAny (model pr w) A (execs rest env) Q E { s with heap := h', toks := tk }) :
    wpAny (model pr w) A (execs (.AugAssign (.Name x p') op e pos :: rest) env) Q E s := by
  obtain ⟨m, hn, hm⟩ := F.ns
  obtain ⟨u, hu, ru⟩ := hm x _ hx hl
  refine wpAny_execs_cons (wpAny_AugAssign_Name (wpAny_loadName_local F.kind hl hn hu (p A s _ E ha (.refl _) fun v h₁ t₁ l₁ r₁ => ?_)))
  refine hop u v h₁ (Rd.le ru l₁) r₁ A _ _ E ha (.refl _) fun r h₂ t₂ l₂ r₂ => ?_
  exact st_d (F.le (l₁.trans l₂)) (.inl hl) r₂ fun h' tk g gs F' => h h' tk ((Eff.of_le (l₁.trans l₂)).trans g) ((Gs.of_le (l₁.trans l₂)).trans gs) F'
theorem aug_addI {a b : Int} : ∀ u v h₃, D (.int a) u h₃ → D (.int b) v h₃ → Cv w k h₃ (inplaceOp .Add u v) (D (.int (a + b))) := by
  intro u v h₃ ru rv
  obtain ⟨t, rfl⟩ := Rd.int_inv ru
  obtain ⟨t', rfl⟩ := Rd.int_inv rv
  exact fun A s Q E ha hle hq => P.iadd_int (hq _ _ _ (.refl _) (.int _ _ _))
theorem aug_subI {a b : Int} : ∀ u v h₃, D (.int a) u h₃ → D (.int b) v h₃ → Cv w k h₃ (inplaceOp .Sub u v) (D (.int (a - b))) := by
  intro u v h₃ ru rv
  obtain ⟨t, rfl⟩ := Rd.int_inv ru
  obtain ⟨t', rfl⟩ := Rd.int_inv rv
  exact fun A s Q E ha hle hq => P.isub_int (hq _ _ _ (.refl _) (.int _ _ _))
theorem aug_addS {x y : Str} (hz : x.length + y.length ≤ sizeLine) : ∀ u v h₃, D (.str x) u h₃ → D (.str y) v h₃ → Cv w k h₃ (inplaceOp .Add u v) (D (.str (x ++ y))) := by
  intro u v h₃ ru rv
  obtain ⟨t, rfl⟩ := Rd.str_inv ru
  obtain ⟨t', rfl⟩ := Rd.str_inv rv
  exact fun A s Q E ha hle hq => PyProof.Rows.iadd_str (fun t' tk => hq _ _ _ (.refl _) (.str _ _ _)) hz
end
end Mine

namespace Mine
/-- a loop's turn ends so -/
def TurnEnd (env : Env) (M : List Addr) (J : Heap → Prop) (s : Shared) (h : Heap) (Q : Flow → Shared → Prop) : Flow → Shared → Prop := fun f s₃ =>
  match f with
  | .next | .cont => ∃ h' tk', s₃ = { s with heap := h', toks := tk' } ∧ J h' ∧ Eff env M h h'
  | .brk => False
  | .ret v => Q (.ret v) s₃
section
variable {w : World} {mg mb : Str → Option Value} {B : Heap} {W : List Str} {env : Env} {Δ : List (Str × Slot)} {k : Nat} {A : Around} {s : Shared} {Q : Flow → Shared → Prop} {E : Value → Shared → Prop} {rest : List Stmt} {pos : Pos}
theorem for_core {target : Expr} {body : List Stmt} {I : Addr} {fp : List Addr} {n : Nat} {P : Nat → Value → Prop} {St : Nat → Heap → Prop} {M : List Addr} {J : Nat → Heap → Prop} {R : Result → Shared → Prop}
    (Wk : Walks pr w A I fp [I] n P St) (hst : St 0 s.heap) (hoff : ∀ b ∈ fp, b ≠ env.locals ∧ (∀ x c, env.cells.lookup x = some c → c ≠ b) ∧ b ∉ M) (h0 : J 0 s.heap)
    (mono : ∀ i h h', St i h → (∀ b o, b ≠ I → h.get? b = some o → h'.get? b = some o) → J i h → J i h')
    (turn : ∀ i v h tk, i < n → P i v → J i h → St (i + 1) h → Eff env (I :: M) s.heap h → wpAny (model pr w) A (letOwnedTupleGo target (.ref I) v) (fun _ s₁ => wpAny (model pr w) A (assign target env v) (fun _ s₂ => wpAny (model pr w) A (execs body env)
      (TurnEnd env M (J (i + 1)) s h fun f s' => match f with | .ret v => R (.ok (.ret v)) s' | _ => False) (fun _ _ => False) s₂) (fun _ _ => False) s₁) (fun _ _ => False) { s with heap := h, toks := tk })
    (done : ∀ h tk, J n h → Eff env (I :: M) s.heap h → R (.ok .next) { s with heap := h, toks := tk }) : codeAny (model pr w) A (.forLoop target (.ref I) body [] env) R s := by
  refine codeAny_forLoop_any (fun kk s' => ∃ i h tk, s' = { s with heap := h, toks := tk } ∧ J i h ∧ St i h ∧ Eff env (I :: M) s.heap h ∧ i ≤ n ∧ kk = n - i) ?_ n ⟨0, s.heap, s.toks, rfl, h0, hst, Eff.refl, Nat.zero_le _, rfl⟩
  rintro kk s' ⟨i, h, tk, rfl, hJ, hS, hE, hi, rfl⟩
  have one : ∀ h₁ : Heap, (∀ b o, b ∉ [I] → h.get? b = some o → h₁.get? b = some o) → (∀ b o, b ≠ I → h.get? b = some o → h₁.get? b = some o) := fun h₁ hk b o hb e => hk b o (by simpa using hb) e
  have eff : ∀ h₁ : Heap, (∀ b o, b ∉ [I] → h.get? b = some o → h₁.get? b = some o) → Eff env (I :: M) h h₁ := fun h₁ hk b o _ _ hM e => hk b o (fun hb => hM (by simp at hb; simp [hb])) e
  by_cases hlt : i < n
  · refine Wk.item i _ _ _ hlt hS fun v h₁ tk₁ hP hS₁ hk₁ => ?_
    refine wpAny_mono (turn i v h₁ tk₁ hlt hP (mono i h h₁ hS (one h₁ hk₁) hJ) hS₁ (hE.trans (eff h₁ hk₁))) (fun _ s₁ e₁ => ?_) fun _ _ x => x.elim
    refine wpAny_mono e₁ (fun _ s₂ e₂ => ?_) fun _ _ x => x.elim
    refine wpAny_mono e₂ (fun f s₃ e₃ => ?_) fun _ _ x => x.elim
    have fin : (∃ h' tk', s₃ = { s with heap := h', toks := tk' } ∧ J (i + 1) h' ∧ Eff env M h₁ h') →
        ∃ m, m < n - i ∧ ∃ i h tk, s₃ = { s with heap := h, toks := tk } ∧ J i h ∧ St i h ∧ Eff env (I :: M) s.heap h ∧ i ≤ n ∧ m = n - i := by
      rintro ⟨h', tk', rfl, hJ', hf⟩
      exact ⟨n - (i + 1), by omega, i + 1, h', tk', rfl, hJ', Wk.frame _ _ _ hS₁ fun b hb o e => hf b o (hoff b hb).1 (hoff b hb).2.1 (hoff b hb).2.2 e, (hE.trans (eff h₁ hk₁)).trans (hf.more fun q hq => List.mem_cons_of_mem _ hq), by omega, rfl⟩
    cases f with
    | next => exact fin e₃
    | cont => exact fin e₃
    | brk => exact e₃.elim
    | ret v => exact e₃
  · obtain rfl : i = n := by omega
    refine Wk.done _ _ _ hS fun h₁ tk₁ hk₁ => ?_
    exact wpAny_execs_nil (done h₁ tk₁ (mono i h h₁ hS (one h₁ hk₁) hJ) (hE.trans (eff h₁ hk₁)))
/-- what is said of the heap between the turns does not hang on a new iterator -/
def Steady (h₀ : Heap) (J : Heap → Prop) : Prop := ∀ I h h', h₀.get? I = none → (∀ o, h.get? I = some o → ∃ vs, o.data = .fields vs) → (∀ b o, b ≠ I → h.get? b = some o → h'.get? b = some o) → J h → J h'
theorem Fm.steady {h₀ : Heap} (hB : Le B h₀) : Steady h₀ fun h => Fm w mg mb B W env h Δ := fun I h h' h0 hI hk F => F.but hk (by
    cases e : B.get? I with
    | none => rfl
    | some o => rw [hB _ _ e] at h0; cases h0) fun o ho => by
  obtain ⟨vs, hd⟩ := hI o ho
  exact ⟨fun xs n e => (by rw [hd] at e; cases e), fun xs n e => (by rw [hd] at e; cases e), fun c e => (by rw [hd] at e; cases e)⟩
theorem Steady.and {h₀ : Heap} {J J' : Heap → Prop} (x : Steady h₀ J) (y : Steady h₀ J') : Steady h₀ fun h => J h ∧ J' h := fun I h h' a b c d => ⟨x I h h' a b c d.1, y I h h' a b c d.2⟩
theorem Steady.const {h₀ : Heap} {P : Prop} : Steady h₀ fun _ => P := fun I h h' a b c d => d
theorem Steady.ex {α : Sort u} {h₀ : Heap} {J : α → Heap → Prop} (x : ∀ a, Steady h₀ (J a)) : Steady h₀ fun h => ∃ a, J a h := fun I h h' a b c ⟨q, d⟩ => ⟨q, x q I h h' a b c d⟩
/-- targets of a for -/
def IsTarget : Expr → Prop
  | .Name _ _ => True
  | .Tuple _ _ _ => True
  | _ => False
theorem letGo_list {target : Expr} {I l : Addr} {i : Nat} {v : Value} {Q : Unit → Shared → Prop} (ht : IsTarget target) (hit : s.heap.IsListIter I l i) (h : Q () s) : wpAny (model pr w) A (letOwnedTupleGo target (.ref I) v) Q E s := by
  cases target <;> first | exact ht.elim | skip
  · exact wpAny_pure h
  · cases v with
    | ref T => exact wpAny_letOwnedTupleGo_listiter hit h
    | _ => exact wpAny_pure h
theorem Fm.live {h : Heap} (F : Fm w mg mb B W env h Δ) : (∃ o es n, h.get? env.locals = some o ∧ o.data = .dict es n) ∧ ∀ x c, env.cells.lookup x = some c → ∃ o v, h.get? c = some o ∧ o.data = .cell v := by
  refine ⟨?_, fun x c e => ?_⟩
  · obtain ⟨m, ⟨o, es, ep, ho, hd, _⟩, _⟩ := F.ns
    exact ⟨o, es, ep, ho, hd⟩
  · obtain ⟨ov, ⟨o, ho, hd⟩, _⟩ := F.cell x c e
    exact ⟨o, ov, ho, hd⟩
theorem not_live {h : Heap} {a : Addr} (ha : h.objs.size ≤ a) : h.get? a = none := by
  cases e : h.get? a with
  | none => rfl
  | some o => exact absurd (Heap.lt_size e) (Nat.not_lt.mpr ha)
theorem not_live_le {h h' : Heap} {a : Addr} (l : Le h h') (ha : h'.get? a = none) : h.get? a = none := by
  cases e : h.get? a with
  | none => rfl
  | some o => rw [l _ _ e] at ha; cases ha
/-- a for over a list -/
theorem sx_forL {target iter : Expr} {body : List Stmt} {ds : List PyData} {M : List Addr} {J : Nat → Heap → Prop} (F : Fm w mg mb B W env s.heap Δ) (ha : AOk k A) (ht : IsTarget target) (he : Ev w k env s.heap iter (D (.list ds)))
    (hM : ∀ a ∈ M, ∃ o, s.heap.get? a = some o ∧ ∀ xs n, o.data ≠ .seq xs n)
    (h0 : ∀ h', Le s.heap h' → J 0 h') (mono : ∀ i, Steady s.heap (J i))
    (turn : ∀ i d v h tk, ds[i]? = some d → Rd h v d → J i h → Eff env M s.heap h → wpAny (model pr w) A (assign target env v) (fun _ s₂ => wpAny (model pr w) A (execs body env) (TurnEnd env M (J (i + 1)) s h Q) (fun _ _ => False) s₂) (fun _ _ => False) { s with heap := h, toks := tk })
    (done : ∀ h tk, J ds.length h → Eff env M s.heap h → wpAny (model pr w) A (execs rest env) Q E { s with heap := h, toks := tk })
    (hs : ∀ x, foldedSetIterable iter env x = pure x := by intro _; rfl) : wpAny (model pr w) A (execs (.For target iter body [] pos :: rest) env) Q E s := by
  refine wpAny_execs_cons (wpAny_For (he A s _ E ha (.refl _) fun v h₁ t₁ l₁ r₁ => ?_) hs)
  obtain ⟨ax, vs, rfl, hl, rv⟩ := Rd.isList r₁
  have hlen : vs.size = ds.length := by simpa using rv.length
  refine wpAny_pyIter_list hl ?_
  have hfresh : s.heap.get? h₁.objs.size = none := not_live_le l₁ (not_live (Nat.le_refl _))
  have axne : ax ≠ h₁.objs.size := by obtain ⟨o, ho, _⟩ := hl; exact Nat.ne_of_lt (Heap.lt_size ho)
  obtain ⟨⟨oL, esL, nL, hoL, hdL⟩, hcells⟩ := F.live
  have Wk := Walks.list (prog := pr) (w := w) (A := A.mark none) ha.hd h₁.objs.size ax axne vs
  refine for_core (J := J) (M := M) Wk ⟨⟨_, Heap.get?_push_size _ rfl, rfl, rfl⟩, hl.push _⟩ ?_ (h0 _ (l₁.trans (Le.push _ _))) ?_ ?_ ?_
  · intro b hb
    rcases List.mem_cons.mp hb with rfl | hb
    · exact ⟨fun e => (by rw [e, hoL] at hfresh; cases hfresh), fun x c e ec => (by
        obtain ⟨o, v, ho, _⟩ := hcells x c e
        rw [ec, hfresh] at ho; cases ho), fun hm => (by
        obtain ⟨o, ho, _⟩ := hM _ hm
        rw [hfresh] at ho; cases ho)⟩
    · simp at hb; subst hb
      obtain ⟨o, ho, hc, n, hd⟩ := id hl
      exact ⟨fun e => (by subst e; rw [l₁ _ _ hoL] at ho; cases ho; rw [hd] at hdL; cases hdL), fun x c e ec => (by
        subst ec
        obtain ⟨o', v, ho', hd'⟩ := hcells x _ e
        rw [l₁ _ _ ho'] at ho; cases ho; rw [hd] at hd'; cases hd'), fun hm => (by
        obtain ⟨o', ho', hd'⟩ := hM _ hm
        rw [l₁ _ _ ho'] at ho; cases ho; exact hd' _ _ hd)⟩
  · intro i h h' hS hk hJ
    exact mono i _ h h' hfresh (fun o ho => by
      obtain ⟨⟨o', ho', _, hd⟩, _⟩ := hS
      rw [ho] at ho'; cases ho'; exact ⟨_, hd⟩) hk hJ
  · intro i v h tk hi hP hJ hS hE
    refine letGo_list ht hS.1 ?_
    have hd : ds[i]? = some (ds[i]'(by omega)) := by simp
    obtain ⟨u, hu, ru⟩ := rv.get hd
    have huv : u = v := by
      have : vs.toList[i]? = some v := by simpa using hP
      rw [hu] at this; cases this; rfl
    subst huv
    have hEs : Eff env M s.heap h := fun b o x y z e => hE b o x y (fun hm => by
      rcases List.mem_cons.mp hm with rfl | hm
      · rw [hfresh] at e; cases e
      · exact z hm) (Le.push _ _ _ _ (l₁ _ _ e))
    have hgs : Gs h₁ h := by
      rintro b o ⟨xs, n, hd'⟩ e
      refine hE b o (fun e' => ?_) (fun x c e' ec => ?_) (fun hm => ?_) (Le.push _ _ _ _ e)
      · subst e'; rw [l₁ _ _ hoL] at e; cases e; rw [hd'] at hdL; cases hdL
      · subst ec
        obtain ⟨o', v, ho', hd''⟩ := hcells x _ e'
        rw [l₁ _ _ ho'] at e; cases e; rw [hd'] at hd''; cases hd''
      · rcases List.mem_cons.mp hm with rfl | hm
        · exact Nat.lt_irrefl _ (Heap.lt_size e)
        · obtain ⟨o', ho', hd''⟩ := hM _ hm
          rw [l₁ _ _ ho'] at e; cases e; exact hd'' _ _ hd'
    refine wpAny_mono (turn i _ u h tk hd (ru.gs hgs) hJ hEs) (fun _ s₂ e₂ => wpAny_mono e₂ (fun f s₃ e₃ => ?_) fun _ _ x => x) fun _ _ x => x
    cases f with
    | next => exact e₃
    | cont => exact e₃
    | brk => exact e₃
    | ret v => exact e₃
  · intro h tk hJ hE
    rw [hlen] at hJ
    exact done h tk hJ fun b o x y z e => hE b o x y (fun hm => by
      rcases List.mem_cons.mp hm with rfl | hm
      · rw [hfresh] at e; cases e
      · exact z hm) (Le.push _ _ _ _ (l₁ _ _ e))
/-- a for over range(n) -/
theorem sx_forR {target e : Expr} {body : List Stmt} {n : Nat} {M : List Addr} {J : Nat → Heap → Prop} {rp rpos : Pos} (F : Fm w mg mb B W env s.heap Δ) (ha : AOk k A) (ht : ∃ x p, target = .Name x p)
    (hf : Ev w k env s.heap (.Name (Str.ofString "range") rp) (fun u _ => u = .type "range")) (he : Ev w k env s.heap e (D (.int n))) (hn : (n : Int) < 2 ^ 62)
    (hM : ∀ a ∈ M, ∃ o, s.heap.get? a = some o)
    (h0 : ∀ h', Le s.heap h' → J 0 h') (mono : ∀ i, Steady s.heap (J i))
    (turn : ∀ i v h tk, i < n → Rd h v (.int i) → J i h → Eff env M s.heap h → wpAny (model pr w) A (assign target env v) (fun _ s₂ => wpAny (model pr w) A (execs body env) (TurnEnd env M (J (i + 1)) s h Q) (fun _ _ => False) s₂) (fun _ _ => False) { s with heap := h, toks := tk })
    (done : ∀ h tk, J n h → Eff env M s.heap h → wpAny (model pr w) A (execs rest env) Q E { s with heap := h, toks := tk })
    (hst : starEach [e] env = [(false, eval e env)] := by rfl) (hs : ∀ x, foldedSetIterable (.Call (.Name (Str.ofString "range") rp) [e] [] rpos) env x = pure x := by intro _; rfl) :
    wpAny (model pr w) A (execs (.For target (.Call (.Name (Str.ofString "range") rp) [e] [] rpos) body [] pos :: rest) env) Q E s := by
  refine wpAny_execs_cons (wpAny_For (wpAny_Call_NameR (hf A s _ E ha (.refl _) fun f h₀ t₀ l₀ r₀ => ?_)) hs)
  subst r₀
  rw [hst]
  refine PyProof.Rows.callWith_type rfl (Calls.evalArgs_plain (Calls.spliced_cons (he A _ _ E ha l₀ fun v h₁ t₁ l₁ r₁ => Calls.spliced_nil ?_)))
  obtain ⟨tv, rfl⟩ := Rd.int_inv r₁
  refine call_range_1 ?_
  refine wpAny_pyIter_range (IsRange.new ..) (small_one (by decide) (by decide) (by omega) hn) ?_
  have hsz : Builtin.Range.rangeSize 0 (n : Int) 1 = (n : Int) := by rw [rangeSize_one]; split <;> omega
  have l₂ : Le s.heap h₁ := l₀.trans l₁
  generalize hH : h₁.push { cls := .type "range", data := .fields #[.int 0 t₁, .int (n : Int) tv, .int 1 (t₁ + 1)] } = H
  have lH : Le s.heap H := by rw [← hH]; exact l₂.trans (Le.push _ _)
  have hfresh : s.heap.get? H.objs.size = none := not_live_le lH (not_live (Nat.le_refl _))
  obtain ⟨⟨oL, esL, nL, hoL, hdL⟩, hcells⟩ := F.live
  have Wk := Walks.range (prog := pr) (w := w) (A := A.mark none) ha.hd H.objs.size 0 1 n
  have effs : ∀ h, Eff env (H.objs.size :: M) (H.push { cls := .type "range_iterator", data := .fields #[rawInt 0, rawInt (Builtin.Range.rangeSize 0 (n : Int) 1), rawInt 1] }) h → Eff env M s.heap h := fun h hE b o x y z e => hE b o x y (fun hm => by
      rcases List.mem_cons.mp hm with rfl | hm
      · rw [hfresh] at e; cases e
      · exact z hm) (Le.push _ _ _ _ (lH _ _ e))
  refine for_core (J := J) (M := M) Wk ?_ ?_ (h0 _ (lH.trans (Le.push _ _))) ?_ ?_ ?_
  · show IsRangeIter _ _ _ _ _
    have e1 : (0 + ((0 : Nat) : Int) * 1) = 0 := by simp
    have e2 : ((n : Int) - ((0 : Nat) : Int)) = Builtin.Range.rangeSize 0 (n : Int) 1 := by rw [hsz]; simp
    rw [e1, e2]
    exact Heap.get?_push_size _ rfl
  · intro b hb
    rcases List.mem_cons.mp hb with rfl | hb
    · exact ⟨fun e => (by rw [e, hoL] at hfresh; cases hfresh), fun x c e ec => (by
        obtain ⟨o, v, ho, _⟩ := hcells x c e
        rw [ec, hfresh] at ho; cases ho), fun hm => (by
        obtain ⟨o, ho⟩ := hM _ hm
        rw [hfresh] at ho; cases ho)⟩
    · cases hb
  · intro i h h' hS hk hJ
    exact mono i _ h h' hfresh (fun o ho => by
      have hS' : h.get? _ = some _ := hS
      rw [ho] at hS'; cases hS'; exact ⟨_, rfl⟩) hk hJ
  · intro i v h tk hi hP hJ hS hE
    obtain ⟨x, p, rfl⟩ := ht
    obtain ⟨t, rfl⟩ := hP
    have e0 : (0 + (i : Int) * 1) = (i : Int) := by omega
    rw [e0]
    refine wpAny_pure ?_
    refine wpAny_mono (turn i _ h tk hi (.int h i t) hJ (effs h hE)) (fun _ s₂ e₂ => wpAny_mono e₂ (fun f s₃ e₃ => ?_) fun _ _ x => x) fun _ _ x => x
    cases f with
    | next => exact e₃
    | cont => exact e₃
    | brk => exact e₃
    | ret v => exact e₃
  · intro h tk hJ hE
    exact done h tk hJ (effs h hE)
theorem sx_while {test : Expr} {body : List Stmt} {M : List Addr} {J : Nat → Heap → Prop} (n : Nat) (ha : AOk k A) (h0 : J n s.heap)
    (turn : ∀ n h, J n h → Eff env M s.heap h → ∃ c : Bool, Tv w k env h test c ∧
      (c = true → ∀ h₁ tk, Le h h₁ → wpAny (model pr w) A (execs body env) (TurnEnd env M (fun h' => ∃ m, m < n ∧ J m h') s h Q) (fun _ _ => False) { s with heap := h₁, toks := tk }) ∧
      (c = false → ∀ h₁ tk, Le h h₁ → wpAny (model pr w) A (execs rest env) Q E { s with heap := h₁, toks := tk })) : wpAny (model pr w) A (execs (.While test body [] pos :: rest) env) Q E s := by
  refine wpAny_execs_cons (wpAny_While ?_)
  refine codeAny_whileLoop (fun n s' => ∃ h tk, s' = { s with heap := h, toks := tk } ∧ J n h ∧ Eff env M s.heap h) ?_ n ⟨s.heap, s.toks, rfl, h0, Eff.refl⟩
  rintro n s' ⟨h, tk, rfl, hJ, hE⟩
  obtain ⟨c, tv, h1, h2⟩ := turn n h hJ hE
  refine tv _ _ _ _ ha.mark (.refl _) fun h₁ t₁ l₁ => ?_
  cases c with
  | true =>
    refine wpAny_mono (h1 rfl h₁ t₁ l₁) (fun f s₃ e₃ => ?_) fun _ _ x => x.elim
    have fin : (∃ h' tk', s₃ = { s with heap := h', toks := tk' } ∧ (∃ m, m < n ∧ J m h') ∧ Eff env M h h') → ∃ m, m < n ∧ ∃ h tk, s₃ = { s with heap := h, toks := tk } ∧ J m h ∧ Eff env M s.heap h := by
      rintro ⟨h', tk', rfl, ⟨m, hm, hJ'⟩, hf⟩
      exact ⟨m, hm, h', tk', rfl, hJ', hE.trans hf⟩
    cases f with
    | next => exact fin e₃
    | cont => exact fin e₃
    | brk => exact e₃.elim
    | ret v => exact e₃
  | false => exact wpAny_execs_nil (h2 rfl h₁ t₁ l₁)
/-- a call by a name -/
theorem ev_call {x : Str} {p : Pos} {e : Expr} {es : List Expr} {f : Value} {S : List Value → Heap → Prop} {R : Value → Heap → Prop} {h₀ : Heap} (hf : Ev w k env h₀ (.Name x p) (fun u _ => u = f)) (hargs : Evs w k env h₀ (e :: es) S)
    (hkind : (∃ id, f = .builtin id) ∨ (∃ T, f = .type T) ∨ ∃ a o fd, f = .ref a ∧ h₀.get? a = some o ∧ o.data = .func fd)
    (h : ∀ vs h₃, Le h₀ h₃ → S vs h₃ → Cv w k h₃ (call f vs) R) (hse : starEach (e :: es) env = (false, eval e env) :: starEach es env := by rfl) (hplain : (backTo pos (starEach es env)).any (·.1) = false := by rfl) : Ev w k env h₀ (.Call (.Name x p) (e :: es) [] pos) R := by
  intro A s Q E ha hle hq
  refine wpAny_Call_NameR (hf A s _ E ha hle fun f' h₁ t₁ l₁ r₁ => ?_)
  subst r₁
  have main : ∀ (Q' : List Value → Shared → Prop), (∀ vs h₂ t₂, Le h₁ h₂ → S vs h₂ → Q' vs { s with heap := h₂, toks := t₂ }) → wpAny (model pr w) A (spliced (backTo pos (starEach (e :: es) env))) Q' E { s with heap := h₁, toks := t₁ } :=
    fun Q' hq' => hargs A pos _ _ E ha (hle.trans l₁) fun vs h₂ t₂ l₂ r₂ => hq' vs h₂ t₂ l₂ r₂
  have fin : ∀ vs h₂ t₂, Le h₁ h₂ → S vs h₂ → wpAny (model pr w) A (call f' vs) Q E { s with heap := h₂, toks := t₂ } := fun vs h₂ t₂ l₂ r₂ =>
    h vs h₂ (hle.trans (l₁.trans l₂)) r₂ A _ _ E ha (.refl _) fun v h₃ t₃ l₃ r₃ => hq v h₃ t₃ (l₁.trans (l₂.trans l₃)) r₃
  rw [hse] at main ⊢
  have hp' : (backTo pos ((false, eval e env) :: starEach es env)).any (·.1) = false := by show (false || (backTo pos (starEach es env)).any (·.1)) = false; rw [hplain]; rfl
  rcases hkind with ⟨id, rfl⟩ | ⟨T, rfl⟩ | ⟨a, o, fd, rfl, ho, hd⟩
  · exact Calls.callWith_builtin hp' (Calls.evalArgs_plain (main _ fin))
  · exact PyProof.Rows.callWith_type hp' (Calls.evalArgs_plain (main _ fin))
  · exact Calls.callWith_function (o := o) (fd := fd) (Calls.evalArgs_plain (main _ fun vs h₂ t₂ l₂ r₂ => ⟨⟨l₂ _ _ (l₁ _ _ (hle _ _ ho)), hd⟩, fin vs h₂ t₂ l₂ r₂⟩))
end
end Mine

namespace Mine
section
variable {w : World} {mg mb : Str → Option Value} {B : Heap} {W : List Str} {env : Env} {Δ : List (Str × Slot)} {k : Nat} {A : Around} {s : Shared}
theorem Fm.retypeAll {Δ' : List (Str × Slot)} {h : Heap} (F : Fm w mg mb B W env h Δ) (hs : ∀ x sl, Δ'.lookup x = some sl → ∃ v, Δ.lookup x = some (.v v) ∧ sl.has v h) : Fm w mg mb B W env h Δ' where
  tp := F.tp
  keep := F.keep
  glob := F.glob
  blt := F.blt
  kind := F.kind
  ns := by
    obtain ⟨m, hn, hm⟩ := F.ns
    refine ⟨m, hn, fun x sl e l => ?_⟩
    obtain ⟨v, ev, hv⟩ := hs x sl e
    obtain ⟨u, hu, ru⟩ := hm x _ ev l
    have e' : u = v := ru
    subst e'
    exact ⟨u, hu, hv⟩
  cell := fun x c e => by
    obtain ⟨ov, a, b⟩ := F.cell x c e
    refine ⟨ov, a, fun sl e l => ?_⟩
    obtain ⟨v, ev, hv⟩ := hs x sl e
    obtain ⟨u, hu, ru⟩ := b _ ev l
    have e' : u = v := ru
    subst e'
    exact ⟨u, hu, hv⟩
  freshL := F.freshL
  freshC := F.freshC
  apart := F.apart
def fnD (nm q : Str) (st : Stmt) (dV pm : Value) (cd : Nat) : FuncData :=
  { name := nm, qualname := q, params := defP st, body := .stmts (defB st), scope := defS st, globals := 3, closure := [], defaults := dV, kwdefaults := .none, pyModule := pm, code := .ref cd, builtins := 0 }
/-- what a def gives -/
def Fn (w : World) (mg mb : Str → Option Value) (k : Nat) (f : Value) (S : List Value → Heap → Prop) (R : Value → Heap → Prop) : Prop :=
  ∀ (A : Around) (s : Shared) (Q : Value → Shared → Prop) (E : Value → Shared → Prop) (vs : List Value), AOk k A → Tp w mg mb s.heap → S vs s.heap → (∀ v h' tk, Le s.heap h' → R v h' → Q v { s with heap := h', toks := tk }) → wpAny (model pr w) A (call f vs) Q E s
/-- into a def of the text, without cells -/
theorem enter {a : Addr} {nm q : Str} {st : Stmt} {dV pm : Value} {cd : Nat} {args : List Value} {binds : List (Str × Value)} {Q : Value → Shared → Prop} {E : Value → Shared → Prop} (X : Tp w mg mb s.heap) (hk : (K w.params).lookup a = some (fnO nm q st dV pm cd))
    (hc : codeIn (K w.params) (.ref cd) q = true) (hroom : A.depth < recursionLimit) (hb : BindsTo s (fnD nm q st dV pm cd) ⟨args, []⟩ binds) (hloc : (binds.all fun x => decide ((defS st).names.lookup x.1 = some .local)) = true)
    (hco : (defS st).isCoroutine = false) (hgen : (defS st).isGenerator = false) (hkd : (defS st).kind = .function) (hcell : ∀ x ∈ (defS st).names, x.2 ≠ .cell)
    (hΔ : ∀ x sl, Δ.lookup x = some sl → ∃ v, binds.reverse.lookup x = some v ∧ sl.has v s.heap)
    (h : ∀ h₁ tk, Fm w mg mb s.heap [] (envOf q (defS st) s.heap.objs.size a (.ref cd)) h₁ Δ →
      wpAny (model pr w) (A.deeper (envOf q (defS st) s.heap.objs.size a (.ref cd))) (execs (defB st) (envOf q (defS st) s.heap.objs.size a (.ref cd)))
        (fun f s' => Q (match f with | .ret v => v | _ => .none) s') (fun _ _ => False) { s with heap := h₁, toks := tk }) :
    wpAny (model pr w) A (call (.ref a) args) Q E s := by
  refine wpAny_call (codeAny_call_function (fd := fnD nm q st dV pm cd) hroom (X.X _ _ hk) rfl hco hgen rfl (codeRec_of X.X hc) ?_)
  refine hb _ _ _ _ (wpAny_newFunctionEnv hcell (locs hloc) (fun h₁ hns hsb => ⟨X.T.nolimit.fresh _ hsb, ?_⟩) hkd)
  show codeAny _ _ (.func (defB st) (envOf q (defS st) s.heap.objs.size a (.ref cd))) _ _
  have le : Le s.heap h₁ := fun b o e => hsb.extBut b o (Nat.ne_of_lt (Heap.lt_size e)) (Heap.get?_push_of_some _ e)
  refine codeAny_func (wpAny_mono (h h₁ _ ⟨X, le, rfl, rfl, hkd, ⟨_, hns, fun x sl e l => ?_⟩, fun x c e => (by cases e), not_live (Nat.le_refl _), fun x hx => (by cases hx), List.Pairwise.nil⟩) (fun _ _ x => x) fun _ _ x => x.elim)
  obtain ⟨v, hv, sv⟩ := hΔ x sl e
  exact ⟨v, hv, Slot.has_gs sv (.of_le le)⟩
variable {h₀ : Heap} {pos : Pos} {R : Value → Heap → Prop} {e : Expr}
/-- a call of a def, by its contract -/
theorem ev_fn {x : Str} {p : Pos} {e : Expr} {es : List Expr} {a : Addr} {S : List Value → Heap → Prop} {o : Obj} {fd : FuncData} (F : Fm w mg mb B W env h₀ Δ) (hn : nsIn (K w.params) mainGlobals x = some (some (.ref a))) (hK : (K w.params).lookup a = some o) (hd : o.data = .func fd)
    (hargs : Evs w k env h₀ (e :: es) S) (fn : Fn w mg mb k (.ref a) S R) (hS : ∀ vs h h', Le h h' → S vs h → S vs h') (hx : env.kindOf x = some .globalImplicit := by rfl) (hdb : (x == ("__debug__" : Str)) = false := by decide)
    (hse : starEach (e :: es) env = (false, eval e env) :: starEach es env := by rfl) (hplain : (backTo pos (starEach es env)).any (·.1) = false := by rfl) : Ev w k env h₀ (.Call (.Name x p) (e :: es) [] pos) R :=
  ev_call (ev_global F hn hx hdb) hargs (.inr (.inr ⟨a, o, fd, rfl, F.tpn.X _ _ hK, hd⟩)) (fun vs h₃ l r A s Q E ha hle hq => fn A s Q E vs ha ((F.le l).le hle).tpn (hS _ _ _ hle r) hq) hse hplain
/-- the data handed in -/
abbrev Ds (ds : List PyData) : List Value → Heap → Prop := fun vs h => RdL h vs ds
theorem Ds.mono {ds : List PyData} : ∀ vs h h', Le h h' → Ds ds vs h → Ds ds vs h' := fun _ _ _ l r => RdL.le r l
theorem ev_built1 {x : Str} {p : Pos} {e : Expr} {f : Value} {R₁ : Value → Heap → Prop} (F : Fm w mg mb B W env h₀ Δ) (hn : nsIn (K w.params) mainGlobals x = some none) (hv : bootBuiltins x = some f) (hf : (∃ id, f = .builtin id) ∨ ∃ T, f = .type T) (he : Ev w k env h₀ e R₁)
    (h : ∀ v h₃, Le h₀ h₃ → R₁ v h₃ → Cv w k h₃ (call f [v]) R) (hm : x ≠ "__name__" := by decide) (hx : env.kindOf x = some .globalImplicit := by rfl) (hdb : (x == ("__debug__" : Str)) = false := by decide)
    (hse : starEach [e] env = (false, eval e env) :: starEach [] env := by rfl) : Ev w k env h₀ (.Call (.Name x p) [e] [] pos) R := by
  refine ev_call (S := fun vs h => ∃ v, vs = [v] ∧ R₁ v h) (ev_built F hn hv hm hx hdb) (fun A pos s Q E ha hle hq => spliced_more (he A s _ E ha hle fun v h₁ t₁ l₁ r₁ => spliced_none (hq _ h₁ t₁ l₁ ⟨v, rfl, r₁⟩)) hse) (hf.elim .inl fun x => .inr (.inl x)) (fun vs h₃ l r => ?_) hse rfl
  obtain ⟨v, rfl, r⟩ := r
  exact h v h₃ l r
theorem g_len (w : World) : nsIn (K w.params) mainGlobals (Str.ofString "len") = some none := by kernel_rfl
theorem g_abs (w : World) : nsIn (K w.params) mainGlobals (Str.ofString "abs") = some none := by kernel_rfl
theorem g_range (w : World) : nsIn (K w.params) mainGlobals (Str.ofString "range") = some none := by kernel_rfl
theorem g_quote (w : World) : nsIn (K w.params) mainGlobals (Str.ofString "quote") = some (some (.ref 79)) := by kernel_rfl
theorem g_unquote (w : World) : nsIn (K w.params) mainGlobals (Str.ofString "unquote") = some (some (.ref 72)) := by kernel_rfl
theorem b_len : bootBuiltins (Str.ofString "len") = some (.builtin "len") := by kernel_rfl
theorem b_abs : bootBuiltins (Str.ofString "abs") = some (.builtin "abs") := by kernel_rfl
theorem b_range : bootBuiltins (Str.ofString "range") = some (.type "range") := by kernel_rfl
theorem ev_abs {p : Pos} {e : Expr} {a : Int} (F : Fm w mg mb B W env h₀ Δ) (he : Ev w k env h₀ e (D (.int a))) (hx : env.kindOf (Str.ofString "abs") = some .globalImplicit := by rfl)
    (hse : starEach [e] env = (false, eval e env) :: starEach [] env := by rfl) : Ev w k env h₀ (.Call (.Name (Str.ofString "abs") p) [e] [] pos) (D (.int (if a < 0 then -a else a))) :=
  ev_built1 F (g_abs w) b_abs (.inl ⟨_, rfl⟩) he (fun v h₃ l r A s Q E ha hle hq => by
    obtain ⟨t, rfl⟩ := Rd.int_inv r
    exact call_abs_int fun u tk => hq _ s.heap tk (.refl _) (.int _ _ _)) (by decide) hx (by decide) hse
theorem ev_chr {p : Pos} {e : Expr} {a : Int} (F : Fm w mg mb B W env h₀ Δ) (he : Ev w k env h₀ e (D (.int a))) (h0 : 0 ≤ a) (h1 : a ≤ 1114111) (hx : env.kindOf (Str.ofString "chr") = some .globalImplicit := by rfl)
    (hse : starEach [e] env = (false, eval e env) :: starEach [] env := by rfl) : Ev w k env h₀ (.Call (.Name (Str.ofString "chr") p) [e] [] pos) (D (.str ⟨#[a.toNat]⟩)) :=
  ev_built1 F (g_chr w) b_chr (.inl ⟨_, rfl⟩) he (fun v h₃ l r A s Q E ha hle hq => by
    obtain ⟨t, rfl⟩ := Rd.int_inv r
    exact chr_of_range h0 h1 (hq _ s.heap _ (.refl _) (.str _ _ _))) (by decide) hx (by decide) hse
theorem ev_ord {p : Pos} {e : Expr} {c : Nat} (F : Fm w mg mb B W env h₀ Δ) (he : Ev w k env h₀ e (D (.str ⟨#[c]⟩))) (hx : env.kindOf (Str.ofString "ord") = some .globalImplicit := by rfl)
    (hse : starEach [e] env = (false, eval e env) :: starEach [] env := by rfl) : Ev w k env h₀ (.Call (.Name (Str.ofString "ord") p) [e] [] pos) (D (.int c)) :=
  ev_built1 F (g_ord w) b_ord (.inl ⟨_, rfl⟩) he (fun v h₃ l r A s Q E ha hle hq => by
    obtain ⟨t, rfl⟩ := Rd.str_inv r
    exact P.ord_of_char (hq _ s.heap _ (.refl _) (.int _ _ _))) (by decide) hx (by decide) hse
theorem ev_lenL {p : Pos} {e : Expr} {ds : List PyData} (F : Fm w mg mb B W env h₀ Δ) (he : Ev w k env h₀ e (D (.list ds))) (hz : ds.length ≤ 1000000) (hx : env.kindOf (Str.ofString "len") = some .globalImplicit := by rfl)
    (hse : starEach [e] env = (false, eval e env) :: starEach [] env := by rfl) : Ev w k env h₀ (.Call (.Name (Str.ofString "len") p) [e] [] pos) (D (.int ds.length)) :=
  ev_built1 F (g_len w) b_len (.inl ⟨_, rfl⟩) he (fun v h₃ l r A s Q E ha hle hq => by
    obtain ⟨a, vs, rfl, hl, rv⟩ := Rd.isList r
    have e1 : vs.size = ds.length := by simpa using rv.length
    exact Calls.call_len_list (hl.at fun o e => hle _ o e) (by omega) (hq _ s.heap _ (.refl _) (by rw [e1]; exact .int _ _ _))) (by decide) hx (by decide) hse
theorem ev_lenS {p : Pos} {e : Expr} {x : Str} (F : Fm w mg mb B W env h₀ Δ) (he : Ev w k env h₀ e (D (.str x))) (hz : x.length ≤ 1000000) (hx : env.kindOf (Str.ofString "len") = some .globalImplicit := by rfl)
    (hse : starEach [e] env = (false, eval e env) :: starEach [] env := by rfl) : Ev w k env h₀ (.Call (.Name (Str.ofString "len") p) [e] [] pos) (D (.int x.length)) :=
  ev_built1 F (g_len w) b_len (.inl ⟨_, rfl⟩) he (fun v h₃ l r A s Q E ha hle hq => by
    obtain ⟨t, rfl⟩ := Rd.str_inv r
    exact P.len_str (by omega) (hq _ s.heap _ (.refl _) (.int _ _ _))) (by decide) hx (by decide) hse
theorem quote_fn {n : Nat} (hn : n < 256) : Fn w mg mb (k + 1) (.ref 79) (Ds [.str ⟨#[n]⟩]) (D (.str (hexS n))) := by
  intro A s Q E vs ha X r hq
  obtain ⟨v, vs, rfl, rv, r⟩ := r.cons_inv
  rw [r.nil_inv]
  obtain ⟨t, rfl⟩ := Rd.str_inv rv
  exact quote_ok hn X ha.room fun t' h' tk l => hq _ h' tk l (.str _ _ _)
theorem unquote_fn {n : Nat} (hn : n < 256) : Fn w mg mb (k + 1) (.ref 72) (Ds [.str (hexS n)]) (D (.str ⟨#[n]⟩)) := by
  intro A s Q E vs ha X r hq
  obtain ⟨v, vs, rfl, rv, r⟩ := r.cons_inv
  rw [r.nil_inv]
  obtain ⟨t, rfl⟩ := Rd.str_inv rv
  exact unquote_ok hn X ha.room fun t' h' tk l => hq _ h' tk l (.str _ _ _)
theorem ev_quote {p : Pos} {e : Expr} {n : Nat} (F : Fm w mg mb B W env h₀ Δ) (hn : n < 256) (he : Ev w (k + 1) env h₀ e (D (.str ⟨#[n]⟩))) (hx : env.kindOf (Str.ofString "quote") = some .globalImplicit := by rfl)
    (hse : starEach [e] env = (false, eval e env) :: starEach [] env := by rfl) : Ev w (k + 1) env h₀ (.Call (.Name (Str.ofString "quote") p) [e] [] pos) (D (.str (hexS n))) :=
  ev_fn F (g_quote w) (k79 w) rfl (evd_cons he evd_nil hse) (quote_fn hn) Ds.mono hx (by decide) hse rfl
theorem ev_unquote {p : Pos} {e : Expr} {n : Nat} (F : Fm w mg mb B W env h₀ Δ) (hn : n < 256) (he : Ev w (k + 1) env h₀ e (D (.str (hexS n)))) (hx : env.kindOf (Str.ofString "unquote") = some .globalImplicit := by rfl)
    (hse : starEach [e] env = (false, eval e env) :: starEach [] env := by rfl) : Ev w (k + 1) env h₀ (.Call (.Name (Str.ofString "unquote") p) [e] [] pos) (D (.str ⟨#[n]⟩)) :=
  ev_fn F (g_unquote w) (k72 w) rfl (evd_cons he evd_nil hse) (unquote_fn hn) Ds.mono hx (by decide) hse rfl
end
end Mine

namespace Mine
/-- the text of a slope, from how far across and how far up -/
def slopeT (x y : Int) : Str := hexS ((x.fdiv (Int.gcd x y)).toNat) ++ hexS (((y.fdiv (Int.gcd x y)).fmod 256).toNat)
theorem fmod_gcd (a b : Int) : Int.gcd b (a.fmod b) = Int.gcd a b := by
  rw [Int.gcd_comm a b]
  have : a.fmod b = a + b * (-(a.fdiv b)) := by
    have := Int.mul_fdiv_add_fmod a b
    rw [Int.mul_neg]; omega
  rw [this, Int.gcd_add_mul_left_right]
theorem fmod_less (a b : Int) (hb : b ≠ 0) : (a.fmod b).natAbs < b.natAbs := by
  rcases Int.lt_or_gt_of_ne hb with h | h
  · have h1 := Int.fmod_nonneg_of_pos (-a) (b := -b) (by omega)
    have h2 := Int.fmod_lt_of_pos (-a) (b := -b) (by omega)
    rw [Int.neg_fmod_neg] at h1 h2
    omega
  · have h1 := Int.fmod_nonneg_of_pos a h
    have h2 := Int.fmod_lt_of_pos a h
    omega
theorem fdiv_range {x : Int} {g : Nat} (hg : 0 < g) (h0 : -255 ≤ x) (h1 : x ≤ 255) : -255 ≤ x.fdiv g ∧ x.fdiv g ≤ 255 ∧ (0 ≤ x → 0 ≤ x.fdiv g) := by
  rw [Int.fdiv_eq_ediv_of_nonneg _ (by omega)]
  refine ⟨?_, ?_, fun h => Int.ediv_nonneg h (by omega)⟩
  · apply Int.le_ediv_of_mul_le (by omega)
    have : (-255 : Int) * g ≤ -255 * 1 := Int.mul_le_mul_of_nonpos_left (by omega) (by omega)
    omega
  · rcases Int.lt_or_le x 0 with h | h
    · have := Int.ediv_neg_of_neg_of_pos h (show (0 : Int) < g by omega)
      omega
    · have := Int.ediv_le_self (b := (g : Int)) h
      omega
section
variable {w : World} {mg mb : Str → Option Value} {k : Nat}
theorem k104 (w : World) : (K w.params).lookup 104 = some (fnO (Str.ofString "_law_slope") (Str.ofString "_law_slope") (stAt 24) .none pmC 103) := by rfl
theorem slope_fn {u1 a1 u2 a2 : Int} (hx0 : 0 ≤ a2 - a1) (hx1 : a2 - a1 ≤ 255) (hy0 : -255 ≤ u2 - u1) (hy1 : u2 - u1 ≤ 255) (hne : ¬ (a2 - a1 = 0 ∧ u2 - u1 = 0)) :
    Fn w mg mb (k + 2) (.ref 104) (Ds [.list [.int u1, .int a1], .list [.int u2, .int a2]]) (D (.str (slopeT (a2 - a1) (u2 - u1)))) := by
  intro A s Q E vs ha X r hq
  obtain ⟨v₁, vs, rfl, r₁, r⟩ := r.cons_inv
  obtain ⟨v₂, vs, rfl, r₂, r⟩ := r.cons_inv
  rw [r.nil_inv]
  refine enter (binds := [(Str.ofString "one", v₁), (Str.ofString "other", v₂)]) (Δ := [(Str.ofString "one", .d (.list [.int u1, .int a1])), (Str.ofString "other", .d (.list [.int u2, .int a2]))]) X (k104 w) (by kernel_rfl) ha.room (BindsTo.of_eq (by rfl)) (by kernel_rfl) (by rfl) (by rfl) (by rfl) (by decide +kernel) ?_ fun h₁ tk₁ F => ?_
  · intro x sl e
    rcases lookup_cons_of e with ⟨rfl, rfl⟩ | ⟨_, e⟩
    · exact ⟨v₁, by rfl, r₁⟩
    rcases lookup_cons_of e with ⟨rfl, rfl⟩ | ⟨_, e⟩
    · exact ⟨v₂, by rfl, r₂⟩
    · cases e
  have ha := ha.deeper (envOf (Str.ofString "_law_slope") (defS (stAt 24)) s.heap.objs.size 104 (.ref 103))
  refine sx_pair (d := .int (a2 - a1)) (f := .int (u2 - u1)) F ha (ev_tuple (evd_cons (ev_subI (ev_itemL (ev_name F rfl) ev_int (by decide) rfl (by decide)) (ev_itemL (ev_name F rfl) ev_int (by decide) rfl (by decide))) (evd_cons (ev_subI (ev_itemL (ev_name F rfl) ev_int (by decide) rfl (by decide)) (ev_itemL (ev_name F rfl) ev_int (by decide) rfl (by decide))) evd_nil))) (.inl rfl) (.inl rfl) fun h₂ tk₂ g₂ _ F₂ => ?_
  refine sx_pair (d := .int (a2 - a1)) (f := .int (u2 - u1)) F₂ ha (ev_tuple (evd_cons (ev_name F₂ rfl) (evd_cons (ev_name F₂ rfl) evd_nil))) (.inl rfl) (.inl rfl) fun h₃ tk₃ g₃ _ F₃ => ?_
  have hg : 0 < Int.gcd (a2 - a1) (u2 - u1) := by
    rcases Nat.eq_zero_or_pos (Int.gcd (a2 - a1) (u2 - u1)) with h | h
    · rw [Int.gcd_eq_zero_iff] at h; exact absurd h hne
    · exact h
  refine sx_while (M := []) (J := fun n h => ∃ a b : Int, Fm w mg mb s.heap [] (envOf (Str.ofString "_law_slope") (defS (stAt 24)) s.heap.objs.size 104 (.ref 103)) h
      [(Str.ofString "a", .d (.int a)), (Str.ofString "b", .d (.int b)), (Str.ofString "x", .d (.int (a2 - a1))), (Str.ofString "y", .d (.int (u2 - u1)))] ∧ Int.gcd a b = Int.gcd (a2 - a1) (u2 - u1) ∧ n = b.natAbs) _ ha
    ⟨_, _, F₃.mono ?_, rfl, rfl⟩ ?_
  · intro x sl e
    rcases lookup_cons_of e with ⟨rfl, rfl⟩ | ⟨n1, e⟩
    · rfl
    rcases lookup_cons_of e with ⟨rfl, rfl⟩ | ⟨n2, e⟩
    · rfl
    rcases lookup_cons_of e with ⟨rfl, rfl⟩ | ⟨n3, e⟩
    · rfl
    rcases lookup_cons_of e with ⟨rfl, rfl⟩ | ⟨n4, e⟩
    · rfl
    cases e
  · rintro n h ⟨a, b, F₄, hgcd, rfl⟩ _
    refine ⟨_, tv_neI (ev_name F₄ rfl) ev_int, fun hc h₅ tk₅ l₅ => ?_, fun hc h₅ tk₅ l₅ => ?_⟩
    · have hb : b ≠ 0 := by simpa using hc
      have F₅ := F₄.le l₅
      refine sx_pair (d := .int b) (f := .int (a.fmod b)) F₅ ha (ev_tuple (evd_cons (ev_name F₅ rfl) (evd_cons (ev_modI (ev_name F₅ rfl) (ev_name F₅ rfl) hb) evd_nil))) (.inl rfl) (.inl rfl) fun h₆ tk₆ g₆ _ F₆ => ?_
      refine sx_nil ⟨h₆, tk₆, rfl, ⟨_, fmod_less a b hb, b, a.fmod b, F₆.mono ?_, (fmod_gcd a b).trans hgcd, rfl⟩, (Eff.of_le l₅).trans g₆⟩
      intro x sl e
      rcases lookup_cons_of e with ⟨rfl, rfl⟩ | ⟨n1, e⟩
      · rfl
      rcases lookup_cons_of e with ⟨rfl, rfl⟩ | ⟨n2, e⟩
      · rfl
      rcases lookup_cons_of e with ⟨rfl, rfl⟩ | ⟨n3, e⟩
      · rfl
      rcases lookup_cons_of e with ⟨rfl, rfl⟩ | ⟨n4, e⟩
      · rfl
      cases e
    · have hb : b = 0 := by simpa using hc
      subst hb
      have F₅ := F₄.le l₅
      have ea : (if a < 0 then -a else a) = ((Int.gcd (a2 - a1) (u2 - u1) : Nat) : Int) := by
        rw [← hgcd, Int.gcd_zero_right]
        split <;> omega
      have abs : ∀ pos pos' pos'' : Pos, Ev w (k + 1) (envOf (Str.ofString "_law_slope") (defS (stAt 24)) s.heap.objs.size 104 (.ref 103)) h₅ (.Call (.Name (Str.ofString "abs") pos) [.Name (Str.ofString "a") pos'] [] pos'') (D (.int ((Int.gcd (a2 - a1) (u2 - u1) : Nat) : Int))) := by
        intro pos pos' pos''
        have := ev_abs (k := k + 1) (p := pos) (pos := pos'') F₅ (ev_name (pos := pos') F₅ (x := Str.ofString "a") (d := .int a) rfl)
        rwa [ea] at this
      obtain ⟨x1, x2, x3⟩ := fdiv_range hg (x := a2 - a1) (by omega) (by omega)
      obtain ⟨y1, y2, y3⟩ := fdiv_range hg (x := u2 - u1) (by omega) (by omega)
      have m1 := Int.fmod_nonneg_of_pos ((u2 - u1).fdiv (Int.gcd (a2 - a1) (u2 - u1))) (b := 256) (by decide)
      have m2 := Int.fmod_lt_of_pos ((u2 - u1).fdiv (Int.gcd (a2 - a1) (u2 - u1))) (b := 256) (by decide)
      have hx3 := x3 hx0
      have hpg : Builtin.divisionGoesByPylong (a2 - a1) ((Int.gcd (a2 - a1) (u2 - u1) : Nat) : Int) = false ∧ Builtin.divisionGoesByPylong (u2 - u1) ((Int.gcd (a2 - a1) (u2 - u1) : Nat) : Int) = false := by
        have : Int.gcd (a2 - a1) (u2 - u1) ≤ 255 := by
          by_cases h0 : a2 - a1 = 0
          · have h1 : u2 - u1 ≠ 0 := fun h => hne ⟨h0, h⟩
            have := Int.gcd_le_natAbs_right (a2 - a1) h1
            omega
          · have := Int.gcd_le_natAbs_left (u2 - u1) h0
            omega
        exact ⟨PyProof.noPylong_small (by omega), PyProof.noPylong_small (by omega)⟩
      refine sx_ret ha (ev_addS (ev_quote F₅ (n := ((a2 - a1).fdiv (Int.gcd (a2 - a1) (u2 - u1))).toNat) (by omega) (ev_chr F₅ (ev_divI (ev_name F₅ rfl) (abs _ _ _) (by omega) hpg.1) (by omega) (by omega)))
        (ev_quote F₅ (n := (((u2 - u1).fdiv (Int.gcd (a2 - a1) (u2 - u1))).fmod 256).toNat) (by omega) (ev_chr F₅ (ev_modI (ev_divI (ev_name F₅ rfl) (abs _ _ _) (by omega) hpg.2) ev_int (by decide)) (by omega) (by omega))) (show 3 + 3 ≤ sizeLine by decide)) fun v h' tk l r => ?_
      exact hq v h' tk ((F₅.le l).keep) r
end
end Mine

namespace Mine
/-- a TupleComp of the second figure by way, and the first against it -/
structure CompAt (h : Heap) (a d : Addr) (way : Int) : Prop where
  inst : h.get? a = some (instObj 38 d)
  dict : ∃ hsh t c n, h.get? d = some { cls := .type "dict", data := .dict #[⟨hsh, .str (Str.ofString "comp_select_list") t, c⟩] n } ∧ handedIn c = true ∧ Rd h c (.list [.tuple [.int 1, .int way], .tuple [.int 0, .int (-way)]])
theorem CompAt.le {h h' : Heap} {a d : Addr} {way : Int} (x : CompAt h a d way) (l : Le h h') : CompAt h' a d way := by
  obtain ⟨i, hsh, t, c, n, e, hh, r⟩ := x
  exact ⟨l _ _ i, hsh, t, c, n, l _ _ e, hh, r.le l⟩
def Off (env : Env) (b : Addr) : Prop := b ≠ env.locals ∧ ∀ x c, env.cells.lookup x = some c → c ≠ b
theorem CompAt.eff {env : Env} {h h' : Heap} {a d : Addr} {way : Int} (x : CompAt h a d way) (oa : Off env a) (od : Off env d) (l : Eff env [] h h') (g : Gs h h') : CompAt h' a d way := by
  obtain ⟨i, hsh, t, c, n, e, hh, r⟩ := x
  exact ⟨l _ _ oa.1 oa.2 (by simp) i, hsh, t, c, n, l _ _ od.1 od.2 (by simp) e, hh, r.gs g⟩
/-- what compare tells of two points (up, across) -/
def cmpV (way : Int) (l r : Int × Int) : Int := if l.2 < r.2 then -way else if l.2 > r.2 then way else if l.1 < r.1 then - -way else if l.1 > r.1 then -way else 0
abbrev pt (p : Int × Int) : PyData := .list [.int p.1, .int p.2]
theorem pick_all {Δ Δ' : List (Str × Slot)} (h : ∀ p ∈ Δ', Δ.lookup p.1 = some p.2) : ∀ x sl, Δ'.lookup x = some sl → Δ.lookup x = some sl := fun x sl e => h (x, sl) (mem_of_lookup e)
section
variable {w : World} {mg mb : Str → Option Value} {B : Heap} {W : List Str} {env : Env} {Δ : List (Str × Slot)} {k : Nat} {h₀ : Heap} {pos : Pos}
theorem ga38 (w : World) : findIn (K w.params) (.ref 38) "__getattribute__" = some (some (.builtin "object.__getattribute__")) := by kernel_rfl
theorem gk38 (w : World) : findIn (K w.params) (.ref 38) "__getattr__" = some none := by kernel_rfl
theorem fo38 (w : World) (hsh : Int) (t : Tok) (c : Value) (n : Nat) : findObj (K w.params) 38 (some { cls := .type "dict", data := .dict #[⟨hsh, .str (Str.ofString "comp_select_list") t, c⟩] n }) "comp_select_list" = some (.value c) := by kernel_rfl
theorem k35 (w : World) : (K w.params).lookup 35 = some (fnO (Str.ofString "compare") (Str.ofString "TupleComp.compare") stC .none pmA 34) := by rfl
theorem ev_comp {x : Str} {p : Pos} {a d : Addr} {way : Int} (F : Fm w mg mb B W env h₀ Δ) (hx : Ev w k env h₀ (.Name x p) (fun u _ => u = .ref a)) (C : CompAt h₀ a d way) :
    Ev w k env h₀ (.Attribute (.Name x p) (Str.ofString "comp_select_list") pos) (D (.list [.tuple [.int 1, .int way], .tuple [.int 0, .int (-way)]])) := by
  intro A s Q E ha hle hq
  refine Attribute_Name_ (hx A s _ E ha hle fun v h₁ t₁ l₁ r₁ => ?_)
  subst r₁
  have C₁ := C.le (hle.trans l₁)
  obtain ⟨i, hsh, t, c, n, e, hh, r⟩ := C₁
  exact get_value (s := { s with heap := h₁, toks := t₁ }) (F.le (hle.trans l₁)).tpn.X ⟨i, rfl, rfl, e⟩ (ga38 w) (fo38 w hsh t c n) hh (hq _ h₁ _ l₁ r)
end
section
variable {w : World} {mg mb : Str → Option Value} {k : Nat}
theorem compare_fn {way : Int} {l r : Int × Int} : Fn w mg mb (k + 1) (.ref 35) (fun vs h => ∃ a d u v, vs = [.ref a, u, v] ∧ CompAt h a d way ∧ Rd h u (pt l) ∧ Rd h v (pt r)) (D (.int (cmpV way l r))) := by
  intro A s Q E vs ha X hr hq
  obtain ⟨a, d, u, v, rfl, C, ru, rv⟩ := hr
  refine enter (nm := Str.ofString "compare") (q := Str.ofString "TupleComp.compare") (st := stC) (dV := .none) (pm := pmA) (cd := 34) (binds := [(Str.ofString "self", .ref a), (Str.ofString "left", u), (Str.ofString "right", v)]) (Δ := [(Str.ofString "self", .v (.ref a)), (Str.ofString "left", .d (pt l)), (Str.ofString "right", .d (pt r))]) X (k35 w) (by kernel_rfl) ha.room (BindsTo.of_eq (by rfl)) (by kernel_rfl) (by rfl) (by rfl) (by rfl) (by decide +kernel) ?_ fun h₁ tk₁ F => ?_
  · intro x sl e
    have e := mem_of_lookup e
    simp only [List.mem_cons, List.not_mem_nil, or_false, Prod.mk.injEq] at e
    rcases e with ⟨rfl, rfl⟩ | ⟨rfl, rfl⟩ | ⟨rfl, rfl⟩
    · exact ⟨_, by rfl, rfl⟩
    · exact ⟨_, by rfl, ru⟩
    · exact ⟨_, by rfl, rv⟩
  have ha := ha.deeper (envOf (Str.ofString "TupleComp.compare") (defS stC) s.heap.objs.size 35 (.ref 34))
  have C₁ := C.le F.keep
  have body : ∀ (J : Heap → Prop) (i dir lv rv : Int) (h₀ h : Heap) (tk : Nat) (Δ : List (Str × Slot)),
      Fm w mg mb s.heap [] (envOf (Str.ofString "TupleComp.compare") (defS stC) s.heap.objs.size 35 (.ref 34)) h ((Str.ofString "direction", .d (.int dir)) :: (Str.ofString "index", .d (.int i)) :: [(Str.ofString "self", .v (.ref a)), (Str.ofString "left", .d (pt l)), (Str.ofString "right", .d (pt r))]) →
      Eff (envOf (Str.ofString "TupleComp.compare") (defS stC) s.heap.objs.size 35 (.ref 34)) [] h₀ h → 0 ≤ i → i < 2 ^ 63 → [PyData.int l.1, PyData.int l.2][i.toNat]? = some (.int lv) → [PyData.int r.1, PyData.int r.2][i.toNat]? = some (.int rv) →
      (lv = rv → ∀ h', Fm w mg mb s.heap [] (envOf (Str.ofString "TupleComp.compare") (defS stC) s.heap.objs.size 35 (.ref 34)) h' [(Str.ofString "self", .v (.ref a)), (Str.ofString "left", .d (pt l)), (Str.ofString "right", .d (pt r))] → J h') →
      (lv < rv → cmpV way l r = -dir) → (lv > rv → cmpV way l r = dir) →
      ∀ st, st = (match stC with | .FunctionDef _ _ [.For _ _ b _ _, _] _ _ _ _ _ _ _ => b | _ => []) →
      wpAny (model pr w) (A.deeper (envOf (Str.ofString "TupleComp.compare") (defS stC) s.heap.objs.size 35 (.ref 34))) (execs st (envOf (Str.ofString "TupleComp.compare") (defS stC) s.heap.objs.size 35 (.ref 34)))
        (TurnEnd (envOf (Str.ofString "TupleComp.compare") (defS stC) s.heap.objs.size 35 (.ref 34)) [] J { s with heap := h₁, toks := tk₁ } h₀ fun f s' => Q (match f with | .ret v => v | _ => .none) s') (fun _ _ => False) { s with heap := h, toks := tk } := by
    intro J i dir lv rv h₀ h tk Δ F he h0 h63 el er hJ hlt hgt st est
    subst est
    refine sx_assign F ha (ev_itemL (ev_name F rfl) (ev_name F rfl) h0 el h63) (.inl rfl) fun h₂ tk₂ g₂ _ F₂ => ?_
    refine sx_assign F₂ ha (ev_itemL (ev_name F₂ rfl) (ev_name F₂ rfl) h0 er h63) (.inl rfl) fun h₃ tk₃ g₃ _ F₃ => ?_
    refine sx_if ha (tv_ltI (ev_name F₃ rfl) (ev_name F₃ rfl)) (fun hc h₄ tk₄ l₄ => ?_) fun hc h₄ tk₄ l₄ => ?_
    · have F₄ := F₃.le l₄
      refine sx_ret ha (ev_negI (ev_name F₄ rfl)) fun v h' tk l r => ?_
      rw [← hlt (by simpa using hc)] at r
      exact hq v h' tk (F₄.le l).keep r
    · have F₄ := F₃.le l₄
      refine sx_nil ?_
      refine sx_if ha (tv_gtI (ev_name F₄ rfl) (ev_name F₄ rfl)) (fun hc' h₅ tk₅ l₅ => ?_) fun hc' h₅ tk₅ l₅ => ?_
      · have F₅ := F₄.le l₅
        refine sx_ret ha (ev_name F₅ rfl) fun v h' tk l r => ?_
        rw [← hgt (by simpa using hc')] at r
        exact hq v h' tk (F₅.le l).keep r
      · have F₅ := F₄.le l₅
        have hc : ¬ lv < rv := by simpa using hc
        have hc' : ¬ lv > rv := by simpa using hc'
        refine sx_nil (sx_nil ⟨h₅, tk₅, rfl, hJ (by omega) h₅ (F₅.mono (pick_all ?_)), he.trans (g₂.trans (g₃.trans ((Eff.of_le l₄).trans (Eff.of_le l₅))))⟩)
        exact List.forall_mem_cons.mpr ⟨rfl, List.forall_mem_cons.mpr ⟨rfl, List.forall_mem_cons.mpr ⟨rfl, List.forall_mem_nil _⟩⟩⟩
  refine sx_forL (M := []) (J := fun i h => Fm w mg mb s.heap [] (envOf (Str.ofString "TupleComp.compare") (defS stC) s.heap.objs.size 35 (.ref 34)) h [(Str.ofString "self", .v (.ref a)), (Str.ofString "left", .d (pt l)), (Str.ofString "right", .d (pt r))] ∧ (1 ≤ i → l.2 = r.2) ∧ (2 ≤ i → l.1 = r.1)) F ha trivial
    (ev_comp F (ev_nameV F rfl) C₁) (fun _ h => nomatch h) (fun h' l => ⟨F.le l, by omega, by omega⟩) (fun i => (Fm.steady F.keep).and .const) ?_ ?_
  · rintro i dd v h tk hd hv ⟨Fh, j1, j2⟩ he
    match i, hd with
    | 0, hd =>
      simp at hd; subst hd
      refine asg2 Fh ha (.inl rfl) (.inl rfl) (.inl hv) fun h' tk' g gs F' => ?_
      refine body _ 1 way l.2 r.2 _ h' tk' [] F' g (by decide) (by decide) rfl rfl (fun e h' F'' => ⟨F'', fun _ => e, by omega⟩) (fun e => ?_) (fun e => ?_) _ rfl
      · unfold cmpV; rw [if_pos e]
      · unfold cmpV; rw [if_neg (by omega), if_pos e]
    | 1, hd =>
      simp at hd; subst hd
      have j1 := j1 (by omega)
      refine asg2 Fh ha (.inl rfl) (.inl rfl) (.inl hv) fun h' tk' g gs F' => ?_
      refine body _ 0 (-way) l.1 r.1 _ h' tk' [] F' g (by decide) (by decide) rfl rfl (fun e h' F'' => ⟨F'', fun _ => j1, fun _ => e⟩) (fun e => ?_) (fun e => ?_) _ rfl
      · unfold cmpV; rw [if_neg (by omega), if_neg (by omega), if_pos e]
      · unfold cmpV; rw [if_neg (by omega), if_neg (by omega), if_neg (by omega), if_pos e]
    | n + 2, hd => simp at hd
  · rintro h tk ⟨Fh, j1, j2⟩ he
    have e1 := j1 (show 1 ≤ 2 by decide)
    have e2 := j2 (show 2 ≤ 2 by decide)
    refine sx_ret ha ev_int fun v h' tk l' r' => ?_
    have : cmpV way l r = 0 := by unfold cmpV; rw [if_neg (by omega), if_neg (by omega), if_neg (by omega), if_neg (by omega)]
    rw [← this] at r'
    exact hq v h' tk (Fh.le l').keep r'
end
end Mine

namespace Mine
def noHeap : Heap := { objs := #[] }
theorem noHeap_get (b : Addr) : noHeap.get? b = none := not_live (Nat.zero_le _)
/-- everything that stands, but for some -/
def allBut (h : Heap) (V : List Addr) : List (Addr × Obj) := (List.range h.objs.size).filterMap fun a => if a ∈ V then none else (h.get? a).map fun o => (a, o)
theorem mem_allBut {h : Heap} {V : List Addr} {p : Addr × Obj} : p ∈ allBut h V ↔ h.get? p.1 = some p.2 ∧ p.1 ∉ V := by
  unfold allBut
  rw [List.mem_filterMap]
  constructor
  · rintro ⟨a, _, e⟩
    split at e
    · cases e
    · rename_i hv
      obtain ⟨o, ho, rfl⟩ := Option.map_eq_some_iff.mp e
      exact ⟨ho, hv⟩
  · rintro ⟨e, hv⟩
    exact ⟨p.1, List.mem_range.mpr (Heap.lt_size e), by rw [if_neg hv, e]; rfl⟩
section
variable {w : World} {mg mb : Str → Option Value} {Δ : List (Str × Slot)} {k : Nat} {A : Around} {s : Shared}
theorem enterC {a : Addr} {nm q : Str} {st : Stmt} {dV pm : Value} {cd : Nat} {args : List Value} {binds : List (Str × Value)} {R : Result → Shared → Prop} (X : Tp w mg mb s.heap) (hk : (K w.params).lookup a = some (fnO nm q st dV pm cd))
    (hc : codeIn (K w.params) (.ref cd) q = true) (hroom : A.depth < recursionLimit) (hb : BindsTo s (fnD nm q st dV pm cd) ⟨args, []⟩ binds) (hloc : (binds.all fun x => decide ((defS st).names.lookup x.1 = some .local)) = true)
    (hco : (defS st).isCoroutine = false) (hgen : (defS st).isGenerator = false) (hkd : (defS st).kind = .function) (hcell : ∀ x ∈ (defS st).names, x.2 ≠ .cell)
    (hΔ : ∀ x sl, Δ.lookup x = some sl → ∃ v, binds.reverse.lookup x = some v ∧ sl.has v s.heap)
    (h : ∀ h₁ tk, Fm w mg mb s.heap [] (envOf q (defS st) s.heap.objs.size a (.ref cd)) h₁ Δ →
      wpAny (model pr w) (A.deeper (envOf q (defS st) s.heap.objs.size a (.ref cd))) (execs (defB st) (envOf q (defS st) s.heap.objs.size a (.ref cd)))
        (fun f s' => R (.ok (.ret (match f with | .ret v => v | _ => .none))) s') (fun _ _ => False) { s with heap := h₁, toks := tk }) :
    codeAny (model pr w) A (.call (.ref a) ⟨args, []⟩) R s := by
  refine codeAny_call_function (fd := fnD nm q st dV pm cd) hroom (X.X _ _ hk) rfl hco hgen rfl (codeRec_of X.X hc) ?_
  refine hb _ _ _ _ (wpAny_newFunctionEnv hcell (locs hloc) (fun h₁ hns hsb => ⟨X.T.nolimit.fresh _ hsb, ?_⟩) hkd)
  show codeAny _ _ (.func (defB st) (envOf q (defS st) s.heap.objs.size a (.ref cd))) _ _
  have le : Le s.heap h₁ := fun b o e => hsb.extBut b o (Nat.ne_of_lt (Heap.lt_size e)) (Heap.get?_push_of_some _ e)
  refine codeAny_func (wpAny_mono (h h₁ _ ⟨X, le, rfl, rfl, hkd, ⟨_, hns, fun x sl e l => ?_⟩, fun x c e => (by cases e), not_live (Nat.le_refl _), fun x hx => (by cases hx), List.Pairwise.nil⟩) (fun _ _ x => x) fun _ _ x => x.elim)
  obtain ⟨v, hv, sv⟩ := hΔ x sl e
  exact ⟨v, hv, Slot.has_gs sv (.of_le le)⟩
theorem k28 (w : World) : (K w.params).lookup 28 = some (fnO (Str.ofString "__init__") (Str.ofString "TupleComp.__init__") stI .none pmA 27) := by rfl
theorem mk38 (w : World) : makesIn (K w.params) 38 = true := by kernel_rfl
theorem in38 (w : World) : findIn (K w.params) (.ref 38) "__init__" = some (some (.ref 28)) := by kernel_rfl
theorem ty28 (w : World) : typeIn (K w.params) (.ref 28) = some (.type "function") := by kernel_rfl
theorem sa38 (w : World) : findIn (K w.params) (.ref 38) "__setattr__" = some (some (.builtin "object.__setattr__")) := by kernel_rfl
theorem po38 (w : World) : plainOver (K w.params) 38 = true := by kernel_rfl
theorem ta38 (w : World) : takerIn (K w.params) 38 (Str.ofString "comp_select_list") = some none := by kernel_rfl
theorem hd38 (w : World) : (clsIn (K w.params) 38).any (·.hasDict) = true := by kernel_rfl
theorem underOk {k : Nat} {A : Around} (ha : AOk (k + 1) A) (C : Addr) (rest : List Value) (kw : List (Str × Value)) : AOk k (A.under (.builtin "type.__call__" ⟨.ref C :: rest, kw⟩)) := by
  have e1 : (Code.builtin "type.__call__" ⟨.ref C :: rest, kw⟩).weight = 1 := by rfl
  have e2 : (Code.builtin "type.__call__" ⟨.ref C :: rest, kw⟩).cUnits = 1 := by rfl
  refine ⟨ha.1, ?_, ?_⟩
  · show A.depth + _ + k ≤ 600
    rw [e1]; have := ha.2.1; omega
  · show A.units + _ + 20 * k ≤ 9000
    rw [e2]; have := ha.2.2; omega
theorem make_comp {v : Value} {way : Int} {Q : Value → Shared → Prop} {E : Value → Shared → Prop} (X : Tp w mg mb s.heap) (ha : AOk (k + 2) A) (hh : handedIn v = true) (hv : Rd s.heap v (.list [.tuple [.int 1, .int way], .tuple [.int 0, .int (-way)]]))
    (h : ∀ a d h' tk, Le s.heap h' → CompAt h' a d way → s.heap.get? a = none → s.heap.get? d = none → Q (.ref a) { s with heap := h', toks := tk }) : wpAny (model pr w) A (call (.ref 38) [v]) Q E s := by
  obtain ⟨hp, g, dr, tk, os⟩ := s
  refine wpAny_call (make_core (makes_of X.X (mk38 w)) (looks_findIn X.X (in38 w)) (fun self => bind_fn X.X self (ty28 w)) (.inl rfl) ?_)
  have ha' := underOk ha 38 [v] []
  generalize hH : (hp.push emptyDict).push (instObj 38 hp.objs.size) = H
  have le : Le hp H := by rw [← hH]; exact (Le.push _ _).trans (Le.push _ _)
  have hx : H.get? (hp.objs.size + 1) = some (instObj 38 hp.objs.size) := by rw [← hH]; heap_get
  have hdx : H.get? hp.objs.size = some emptyDict := by rw [← hH]; heap_get
  refine enterC (s := ⟨H, g, dr, tk, os⟩) (nm := Str.ofString "__init__") (q := Str.ofString "TupleComp.__init__") (st := stI) (dV := .none) (pm := pmA) (cd := 27) (binds := [(Str.ofString "self", .ref (hp.objs.size + 1)), (Str.ofString "comp_select_list", v)]) (Δ := [(Str.ofString "self", .v (.ref (hp.objs.size + 1))), (Str.ofString "comp_select_list", .v v)]) (X.le le) (k28 w) (by kernel_rfl) ha'.room (BindsTo.of_eq (by rfl)) (by kernel_rfl) (by rfl) (by rfl) (by rfl) (by decide +kernel) ?_ fun h₁ tk₁ F => ?_
  · intro x sl e
    have e := mem_of_lookup e
    simp only [List.mem_cons, List.not_mem_nil, or_false, Prod.mk.injEq] at e
    rcases e with ⟨rfl, rfl⟩ | ⟨rfl, rfl⟩
    · exact ⟨_, by rfl, rfl⟩
    · exact ⟨_, by rfl, rfl⟩
  have ha' := ha'.deeper (envOf (Str.ofString "TupleComp.__init__") (defS stI) H.objs.size 28 (.ref 27))
  refine wpAny_execs_cons (plainObj_wpAny_Assign_Attribute ?_)
  refine ev_nameV F (x := Str.ofString "comp_select_list") rfl (.inl rfl) (by decide) _ _ _ _ ha' (.refl _) fun v' h₂ tk₂ l₂ r₂ => ?_
  subst r₂
  refine ev_nameV (F.le l₂) (x := Str.ofString "self") rfl (.inl rfl) (by decide) _ _ _ _ ha' (.refl _) fun ov h₃ tk₃ l₃ r₃ => ?_
  subst r₃
  have F₃ := (F.le l₂).le l₃
  have l₄ : Le H h₃ := F₃.keep
  obtain ⟨m, hn, _⟩ := F₃.ns
  have hn : h₃.Ns H.objs.size m := hn
  have Fr0 : Fr noHeap H.objs.size h₃ m := ⟨hn, fun b o e => (by rw [noHeap_get] at e; cases e), Nat.zero_le _⟩
  have dL : hp.objs.size ≠ H.objs.size := Nat.ne_of_lt (Heap.lt_size hdx)
  have N0 : News noHeap H.objs.size h₃ ([] ++ (hp.objs.size, emptyDict) :: allBut h₃ [H.objs.size, hp.objs.size]) := by
    intro p hp'
    rcases List.mem_cons.mp hp' with rfl | hp'
    · exact ⟨l₄ _ _ hdx, dL, noHeap_get _⟩
    · obtain ⟨e1, e2⟩ := mem_allBut.mp hp'
      exact ⟨e1, fun e => e2 (by simp [e]), noHeap_get _⟩
  refine set_plain (s := ⟨h₃, g, dr, tk₃, os⟩) (x := hp.objs.size + 1) (od := some emptyDict) F₃.tpn.X ⟨l₄ _ _ hx, rfl, rfl, l₄ _ _ hdx⟩ (sa38 w) ?_
  refine osa_dict (s := ⟨h₃, g, dr, tk₃ + 1, os⟩) (od := emptyDict) (es := [⟨PyData.keyHash w.params (Str.ofString "comp_select_list"), .str (Str.ofString "comp_select_list") (tk₃ + 1), v'⟩]) (n := 1)
    Fr0 N0 F₃.tpn.X ⟨l₄ _ _ hx, rfl, rfl, l₄ _ _ hdx⟩ rfl (po38 w) (ta38 w) (hd38 w) (by rfl) (fun _ h => nomatch h) ?_ (by rfl) (by rfl) (show 1 ≤ 1000 by decide) ?_
  · intro p hp' e
    exact (mem_allBut.mp hp').2 (by simp [e])
  intro h₅ F₅ N₅
  refine sx_nil ⟨rfl, ?_⟩
  have l₅ : Le hp h₅ := by
    intro b o e
    have lt := Heap.lt_size e
    have := N₅ (b, o) (List.mem_cons_of_mem _ (mem_allBut.mpr ⟨l₄ _ _ (le _ _ e), by
      have := Heap.lt_size hdx
      show b ∉ _
      simp only [List.mem_cons, List.not_mem_nil, or_false, not_or]
      exact ⟨Nat.ne_of_lt (Nat.lt_trans lt this), Nat.ne_of_lt lt⟩⟩))
    exact this.1
  have inst : h₅.get? (hp.objs.size + 1) = some (instObj 38 hp.objs.size) := by
    have := N₅ (hp.objs.size + 1, instObj 38 hp.objs.size) (List.mem_cons_of_mem _ (mem_allBut.mpr ⟨l₄ _ _ hx, by
      have := Heap.lt_size hx
      show hp.objs.size + 1 ∉ _
      simp only [List.mem_cons, List.not_mem_nil, or_false, not_or]
      exact ⟨Nat.ne_of_lt this, Nat.succ_ne_self _⟩⟩))
    exact this.1
  have dict := (N₅ _ (List.mem_cons_self ..)).1
  exact h _ hp.objs.size h₅ _ l₅ ⟨inst, _, _, v', _, dict, hh, hv.le l₅⟩ (not_live (Nat.le_succ _)) (not_live (Nat.le_refl _))
end
end Mine

namespace Mine
mutual
/-- the list out is nowhere within -/
def Lacks (out : List PyData) : PyData → Prop
  | .list xs => xs ≠ out ∧ LacksAll out xs
  | .tuple xs => LacksAll out xs
  | _ => True
def LacksAll (out : List PyData) : List PyData → Prop
  | [] => True
  | x :: xs => Lacks out x ∧ LacksAll out xs
end
mutual
theorem Reads.lack {h h' : Heap} {D : Addr} {oD : Obj} {ys : Array Value} {nD : Nat} {out : List PyData} {bs : List Addr} (hD : h.get? D = some oD) (hd : oD.data = .seq ys nD) (hr : ReadsAll h ys.toList out bs)
    (k : ∀ b o, b ≠ D → (∃ xs n, o.data = .seq xs n) → h.get? b = some o → h'.get? b = some o) : ∀ {v : Value} {d : PyData} {as : List Addr}, Reads h v d as → seqOnly d = true → Lacks out d → (∀ a, v = .ref a → oD.cls = .type "list") → Reads h' v d as
  | _, _, _, .none, _, _, _ => .none
  | _, _, _, .bool b, _, _, _ => .bool b
  | _, _, _, .int i t, _, _, _ => .int i t
  | _, _, _, .str x t, _, _, _ => .str x t
  | _, _, _, .list (a := a) (o := o) (vs := vs) (n := n) e c d r, hs, hl, hc => by
    have ne : a ≠ D := by
      rintro rfl
      rw [hD] at e; cases e
      rw [hd] at d; cases d
      exact hl.1 (ReadsAll.unique r hr).1
    exact .list (k _ _ ne ⟨_, _, d⟩ e) c d (ReadsAll.lack hD hd hr k r (by simpa [seqOnly] using hs) hl.2 (hc a rfl))
  | _, _, _, .tuple (a := a) (o := o) (vs := vs) (n := n) e c d r, hs, hl, hc => by
    have ne : a ≠ D := by
      rintro rfl
      rw [hD] at e; cases e
      rw [hc _ rfl] at c; injection c with c; exact absurd c (by decide)
    exact .tuple (k _ _ ne ⟨_, _, d⟩ e) c d (ReadsAll.lack hD hd hr k r (by simpa [seqOnly] using hs) hl (hc a rfl))
  | _, _, _, .dict .., hs, _, _ => by simp [seqOnly] at hs
theorem ReadsAll.lack {h h' : Heap} {D : Addr} {oD : Obj} {ys : Array Value} {nD : Nat} {out : List PyData} {bs : List Addr} (hD : h.get? D = some oD) (hd : oD.data = .seq ys nD) (hr : ReadsAll h ys.toList out bs)
    (k : ∀ b o, b ≠ D → (∃ xs n, o.data = .seq xs n) → h.get? b = some o → h'.get? b = some o) : ∀ {vs : List Value} {ds : List PyData} {as : List Addr}, ReadsAll h vs ds as → seqOnlyAll ds = true → LacksAll out ds → oD.cls = .type "list" → ReadsAll h' vs ds as
  | _, _, _, .nil, _, _, _ => .nil
  | _, _, _, .cons a r, hs, hl, hc => by
    simp only [seqOnlyAll, Bool.and_eq_true] at hs
    exact .cons (Reads.lack hD hd hr k a hs.1 hl.1 fun _ _ => hc) (ReadsAll.lack hD hd hr k r hs.2 hl.2 hc)
end
theorem Rd.lack {h h' : Heap} {D : Addr} {ys : Array Value} {out : List PyData} {v : Value} {d : PyData} (x : Rd h v d) (hD : h.IsList D ys) (hr : RdL h ys.toList out) (hl : Lacks out d) (k : ∀ b o, b ≠ D → (∃ xs n, o.data = .seq xs n) → h.get? b = some o → h'.get? b = some o) : Rd h' v d := by
  obtain ⟨⟨as, r⟩, hs⟩ := x
  obtain ⟨oD, ho, hc, n, hd⟩ := hD
  obtain ⟨⟨bs, rr⟩, _⟩ := hr
  exact ⟨⟨as, Reads.lack ho hd rr k r hs hl fun _ _ => hc⟩, hs⟩
theorem RdL.lack {h h' : Heap} {D : Addr} {ys : Array Value} {out : List PyData} {vs : List Value} {ds : List PyData} (x : RdL h vs ds) (hD : h.IsList D ys) (hr : RdL h ys.toList out) (hl : LacksAll out ds) (k : ∀ b o, b ≠ D → (∃ xs n, o.data = .seq xs n) → h.get? b = some o → h'.get? b = some o) : RdL h' vs ds := by
  obtain ⟨⟨as, r⟩, hs⟩ := x
  obtain ⟨oD, ho, hc, n, hd⟩ := hD
  obtain ⟨⟨bs, rr⟩, _⟩ := hr
  exact ⟨⟨as, ReadsAll.lack ho hd rr k r hs hl hc⟩, hs⟩
theorem lacksAll_of {out : List PyData} : ∀ {ds : List PyData}, (∀ d ∈ ds, Lacks out d) → LacksAll out ds
  | [], _ => trivial
  | d :: ds, h => ⟨h d List.mem_cons_self, lacksAll_of fun e he => h e (List.mem_cons_of_mem _ he)⟩
section
variable {w : World} {mg mb : Str → Option Value} {B : Heap} {W : List Str} {env : Env} {Δ : List (Str × Slot)} {k : Nat} {A : Around} {s : Shared} {E : Value → Shared → Prop}
/-- the tests behind a comprehension's for -/
def Tvs (w : World) (k : Nat) (env : Env) (h₀ : Heap) : List Expr → Bool → Prop
  | [], b => b = true
  | [t], b => Tv w k env h₀ t b
  | _, _ => False
theorem tvs_run {ifs : List Expr} {b : Bool} {h₀ : Heap} (t : Tvs w k env h₀ ifs b) {Q : Bool → Shared → Prop} (ha : AOk k A) (hle : Le h₀ s.heap) (hq : ∀ h' tk, Le s.heap h' → Q b { s with heap := h', toks := tk }) :
    wpAny (model pr w) A (forIn ifs true fun c r => if r = true then do let ok ← isTrue c env (eval c env); pure (ForInStep.yield ok) else pure (ForInStep.yield r)) Q E s := by
  match ifs, t with
  | [], t =>
    have t' : b = true := t
    subst t'
    exact wpAny_tests_nil (hq s.heap s.toks (.refl _))
  | [c], t =>
    have t' : Tv w k env h₀ c b := t
    exact wpAny_tests_one (t' A s Q E ha hle hq)
/-- what a comprehension knows of its items -/
structure Comp (w : World) (mg mb : Str → Option Value) (k : Nat) (env : Env) (scope : Scope) (cl : List (Str × Addr)) (target elt : Expr) (ifs : List Expr) (h₁ : Heap) (ds : List PyData) (sel : PyData → Option PyData) (Δf : List (Str × Slot)) (Δt : PyData → List (Str × Slot)) : Prop where
  tgt : IsTarget target
  free : ∀ h C m, Le h₁ h → h₁.get? C = none → h.Ns C m → Fm w mg mb h₁ [] (compEnvC scope cl C env) h Δf
  asg : ∀ d ∈ ds, ∀ C A s Q E v, AOk k A → Fm w mg mb h₁ [] (compEnvC scope cl C env) s.heap Δf → Rd s.heap v d → (∀ h' tk, (∀ b o, b ≠ C → s.heap.get? b = some o → h'.get? b = some o) → Fm w mg mb h₁ [] (compEnvC scope cl C env) h' (Δt d) → Q () { s with heap := h', toks := tk }) →
    wpAny (model pr w) A (assign target (compEnvC scope cl C env) v) Q E s
  test : ∀ d ∈ ds, ∀ C h, Fm w mg mb h₁ [] (compEnvC scope cl C env) h (Δt d) → Tvs w k (compEnvC scope cl C env) h ifs (sel d).isSome
  elt : ∀ d ∈ ds, ∀ e, sel d = some e → ∀ C h, Fm w mg mb h₁ [] (compEnvC scope cl C env) h (Δt d) → Ev w k (compEnvC scope cl C env) h elt (D e)
  lack : ∀ i, LacksAll ((ds.take i).filterMap sel) (ds.filterMap sel)
theorem LacksAll.left {out : List PyData} : ∀ {xs ys : List PyData}, LacksAll out (xs ++ ys) → LacksAll out xs
  | [], _, _ => trivial
  | _ :: _, _, h => ⟨h.1, LacksAll.left h.2⟩
theorem LacksAll.mem {out : List PyData} : ∀ {xs : List PyData} {x : PyData}, LacksAll out xs → x ∈ xs → Lacks out x
  | _ :: _, _, h, hm => by
    rcases List.mem_cons.mp hm with rfl | hm
    · exact h.1
    · exact LacksAll.mem h.2 hm
theorem take_filterMap_succ {ds : List PyData} {sel : PyData → Option PyData} {i : Nat} {d : PyData} (h : ds[i]? = some d) : (ds.take (i + 1)).filterMap sel = (ds.take i).filterMap sel ++ (sel d).toList := by
  rw [List.take_add_one, h, List.filterMap_append]
  cases hs : sel d <;> simp [hs]
theorem comp_block {elt target iter : Expr} {ifs : List Expr} {scope : Scope} {cl : List (Str × Addr)} {pos : Pos} {I : Addr} {fp : List Addr} {P : Nat → Value → Prop} {St : Nat → Heap → Prop} {h₁ : Heap} {ds : List PyData} {sel : PyData → Option PyData} {Δf : List (Str × Slot)} {Δt : PyData → List (Str × Slot)} {RR : Value → Addr → Result → Shared → Prop}
    (Wk : Walks pr w A I fp [I] ds.length P St) (ha : AOk k A) (hst : St 0 s.heap) (l₁ : Le h₁ s.heap) (hI : h₁.get? I = none) (hfp : ∀ b ∈ fp, b < s.heap.objs.size) (hIs : I < s.heap.objs.size)
    (hIk : ∀ i h, St i h → ∀ o, h.get? I = some o → ∃ vs, o.data = .fields vs) (hP : ∀ i v h, i < ds.length → P i v → Le h₁ h → ∃ d, ds[i]? = some d ∧ Rd h v d)
    (hgo : ∀ i v (s' : Shared) (Q : Unit → Shared → Prop), St (i + 1) s'.heap → P i v → Q () s' → wpAny (model pr w) A (letOwnedTupleGo target (.ref I) v) Q (fun _ _ => False) s')
    (Cp : Comp w mg mb k env scope cl target elt ifs h₁ ds sel Δf Δt) (hcell : ∀ y ∈ scope.names, y.2 ≠ .cell) (hkind : scope.kind = .function) (hsz : ds.length ≤ 1000)
    (hRR : ∀ D C h' tk m ys, h₁.get? D = none → h₁.get? C = none → D ≠ C → h'.Ns C m → h'.IsList D ys → RdL h' ys.toList (ds.filterMap sel) → Le h₁ h' → RR (.ref D) C (.ok .next) { s with heap := h', toks := tk }) :
    wpAny (model pr w) A (newList []) (fun acc s₃ => wpAny (model pr w) A (newFunctionEnv scope env.globals cl [] env.qual none .none (some env)) (fun cenv s₄ =>
      codeAny (model pr w) A (.compStart (.ListComp elt [⟨target, iter, ifs, 0⟩] scope pos) 0 (.ref I) acc { cenv with scope := relabel scope env }) (RR acc cenv.locals) s₄) E s₃) E s := by
  refine wpAny_newObj_type (wpAny_newFunctionEnv hcell (by intro y hy; simp at hy) (fun h₂ hns₂ hsb₂ => ?_) hkind)
  dsimp only at hns₂ hsb₂ ⊢
  generalize hH2 : s.heap.push { cls := .type "list", dict := none, data := .seq ([] : List Value).toArray } = H2 at hns₂ hsb₂ ⊢
  have hC : H2.objs.size = s.heap.objs.size + 1 := by rw [← hH2, Heap.size_push]
  have hDC : s.heap.objs.size ≠ H2.objs.size := by rw [hC]; exact Nat.ne_of_lt (Nat.lt_succ_self _)
  have below : ∀ b, b < s.heap.objs.size → b ≠ H2.objs.size ∧ b ≠ s.heap.objs.size := fun b hb => ⟨by rw [hC]; exact Nat.ne_of_lt (Nat.lt_succ_of_lt hb), Nat.ne_of_lt hb⟩
  have hIC := (below I hIs).1
  have hID := (below I hIs).2
  have hDf : s.heap.objs.size ∉ fp := fun hm => Nat.lt_irrefl _ (hfp _ hm)
  have hCf : H2.objs.size ∉ fp := fun hm => by have := hfp _ hm; rw [hC] at this; exact Nat.lt_irrefl _ (Nat.lt_of_succ_lt this)
  have old : ∀ b o, s.heap.get? b = some o → h₂.get? b = some o := fun b o e => hsb₂.extBut b o (below b (Heap.lt_size e)).1 (Heap.get?_push_of_some _ (hH2 ▸ Heap.get?_push_of_some _ e))
  have hacc : h₂.IsList s.heap.objs.size #[] := ⟨_, hsb₂.extBut _ _ hDC (Heap.get?_push_of_some _ (hH2 ▸ Heap.get?_push_size _ rfl)), rfl, _, rfl⟩
  have hst₂ : St 0 h₂ := Wk.frame _ _ _ hst fun b _ o e => old b o e
  have nD : h₁.get? s.heap.objs.size = none := not_live_le l₁ (not_live (Nat.le_refl _))
  have nC : h₁.get? H2.objs.size = none := not_live_le l₁ (not_live (by rw [hC]; exact Nat.le_succ _))
  have main : ∀ s₃ : Shared, s₃ = { s with heap := h₂, toks := s.toks + ([] : List (Str × Value)).length } →
      codeAny (model pr w) A (.compLoop (.ListComp elt [⟨target, iter, ifs, 0⟩] scope pos) 0 (.ref I) (.ref s.heap.objs.size) (compEnvC scope cl H2.objs.size env)) (RR (.ref s.heap.objs.size) H2.objs.size) s₃ := by
    rintro s₃ rfl
    refine codeAny_loop rfl (fun kk s' => ∃ i h tk m ys, s' = { s with heap := h, toks := tk } ∧ St i h ∧ h.IsList s.heap.objs.size ys ∧ RdL h ys.toList ((ds.take i).filterMap sel) ∧ h.Ns H2.objs.size m ∧ Le h₁ h ∧ i ≤ ds.length ∧ kk = ds.length + 1 - i) ?_ (ds.length + 1)
      ⟨0, h₂, s.toks + ([] : List (Str × Value)).length, _, #[], rfl, hst₂, hacc, by simpa using RdL.nil h₂, hns₂, fun b o e => old b o (l₁ b o e), Nat.zero_le _, rfl⟩
    rintro kk s' ⟨i, h, tk, m, ys, rfl, hS, hl, hr, hn, hle, hi, rfl⟩
    refine wpAny_noted ?_
    rw [compTurn_list]
    refine wpAny_bind (wpAny_standAt (wpAny_bind ?_))
    by_cases hlt : i < ds.length
    · refine Wk.item i _ _ _ hlt hS fun v ha₁ tk₁ hPv hS₁ hk₁ => ?_
      have k₁ : ∀ b o, b ≠ I → h.get? b = some o → ha₁.get? b = some o := fun b o hb e => hk₁ b o (by simpa using hb) e
      have le₁ : Le h₁ ha₁ := fun b o e => k₁ b o (by rintro rfl; rw [hI] at e; cases e) (hle b o e)
      obtain ⟨d, hd, rd⟩ := hP i v ha₁ hlt hPv le₁
      have hdm : d ∈ ds := List.mem_of_getElem? hd
      refine wpAny_bind (wpAny_mono (hgo i v _ (fun _ s' => s' = { s with heap := ha₁, toks := tk₁ }) hS₁ hPv rfl) (fun _ s' e => ?_) fun _ _ e => e.elim)
      subst e
      have hn₁ : ha₁.Ns H2.objs.size m := hn.at' fun o e => k₁ _ o (Ne.symm hIC) e
      have gs₁ : Gs h ha₁ := by
        rintro b o ⟨xs, n, hd'⟩ e
        refine k₁ b o ?_ e
        rintro rfl
        obtain ⟨vs, hd''⟩ := hIk _ _ hS o e
        rw [hd''] at hd'; cases hd'
      have hl₁ : ha₁.IsList s.heap.objs.size ys := hl.at fun o e => k₁ _ o (Ne.symm hID) e
      refine wpAny_bind (Cp.asg d hdm H2.objs.size A { s with heap := ha₁, toks := tk₁ } _ _ v ha (Cp.free ha₁ _ m le₁ nC hn₁) rd fun hb tkb kb Fb => ?_)
      have kb : ∀ b o, b ≠ H2.objs.size → ha₁.get? b = some o → hb.get? b = some o := kb
      have gsb : Gs ha₁ hb := by
        rintro b o ⟨xs, n, hd'⟩ e
        refine kb b o ?_ e
        rintro rfl
        obtain ⟨o', es, ep, ho', hd'', _⟩ := hn₁
        rw [ho'] at e; cases e; rw [hd''] at hd'; cases hd'
      have leb : Le h₁ hb := fun b o e => kb b o (by rintro rfl; rw [nC] at e; cases e) (le₁ b o e)
      have hSb : St (i + 1) hb := Wk.frame _ _ _ hS₁ fun b hbm o e => kb b o (fun e' => hCf (e' ▸ hbm)) e
      have hlb : hb.IsList s.heap.objs.size ys := hl₁.at fun o e => kb _ o hDC e
      have hrb := (hr.gs gs₁).gs gsb
      refine wpAny_bind (tvs_run (Cp.test d hdm _ _ Fb) ha (.refl _) fun hc tkc lc => ?_)
      have hrc := hrb.le lc
      have hlc : hc.IsList s.heap.objs.size ys := hlb.at fun o e => lc _ o e
      have hSc : St (i + 1) hc := Wk.frame _ _ _ hSb fun b _ o e => lc b o e
      obtain ⟨mb', hnb, _⟩ := Fb.ns
      have hnb : hb.Ns H2.objs.size mb' := hnb
      have eTake := take_filterMap_succ (sel := sel) hd
      have len : ((ds.take i).filterMap sel).length ≤ 1000 := Nat.le_trans (List.length_filterMap_le _ _) (by rw [List.length_take]; omega)
      cases hsel : sel d with
      | none =>
        rw [hsel] at eTake
        simp only [Option.isSome_none, Bool.false_eq_true, if_false]
        refine wpAny_pure ⟨rfl, ds.length + 1 - (i + 1), by omega, i + 1, hc, tkc, _, ys, rfl, hSc, hlc, ?_, hnb.keeps lc, leb.trans lc, hlt, rfl⟩
        rw [eTake]; simpa using hrc
      | some e =>
        rw [hsel] at eTake
        simp only [Option.isSome_some, if_true]
        refine wpAny_bind (wpAny_bind (Cp.elt d hdm e hsel _ _ Fb A _ _ _ ha lc fun y hd' tkd ld ry => ?_))
        have hrd := hrc.le ld
        have hld : hd'.IsList s.heap.objs.size ys := hlc.at fun o e => ld _ o e
        have hsz' : ys.size ≤ sizeLine := by
          have := hrd.length
          simp only [Array.length_toList] at this
          rw [sizeLine_eq]; omega
        refine wpAny_bind (wpAny_list_append hld (fun he hle' hse => wpAny_pure (wpAny_pure ⟨rfl, ?_⟩)) hsz')
        have lk := Cp.lack i
        have split : ds.filterMap sel = (ds.take (i + 1)).filterMap sel ++ (ds.drop (i + 1)).filterMap sel := by rw [← List.filterMap_append, List.take_append_drop]
        rw [split, eTake] at lk
        have lk := lk.left
        have ke : ∀ b o, b ≠ s.heap.objs.size → (∃ xs n, o.data = .seq xs n) → hd'.get? b = some o → he.get? b = some o := fun b o hb _ e => hse.extBut b o hb e
        refine ⟨ds.length + 1 - (i + 1), by omega, i + 1, he, tkd, _, ys.push y, rfl, Wk.frame _ _ _ hSc fun b hbm o e => hse.extBut b o (fun e' => hDf (e' ▸ hbm)) (ld b o e), hle', ?_, ((hnb.keeps lc).keeps ld).sameBut hse (Ne.symm hDC), ?_, hlt, rfl⟩
        · rw [eTake, Array.toList_push]
          refine RdL.append (RdL.lack hrd hld hrd lk.left ke) (.cons (Rd.lack ry hld hrd (lk.mem (by simp)) ke) (.nil _))
        · intro b o e'
          exact hse.extBut b o (by rintro rfl; rw [nD] at e'; cases e') (ld b o (lc b o (leb b o e')))
    · obtain rfl : i = ds.length := by omega
      refine Wk.done _ _ _ hS fun h₃ tk₃ hk₃ => wpAny_pure ?_
      have k₁ : ∀ b o, b ≠ I → h.get? b = some o → h₃.get? b = some o := fun b o hb e => hk₃ b o (by simpa using hb) e
      have gs₁ : Gs h h₃ := by
        rintro b o ⟨xs, n, hd'⟩ e
        refine k₁ b o ?_ e
        rintro rfl
        obtain ⟨vs, hd''⟩ := hIk _ _ hS o e
        rw [hd''] at hd'; cases hd'
      refine hRR _ _ h₃ tk₃ m ys nD nC hDC (hn.at' fun o e => k₁ _ o (Ne.symm hIC) e) (hl.at fun o e => k₁ _ o (Ne.symm hID) e) ?_ fun b o e => k₁ b o (by rintro rfl; rw [hI] at e; cases e) (hle b o e)
      have := hr.gs gs₁
      rwa [List.take_length] at this
  exact codeAny_compStart_list (main _ rfl) (Wk.self 0 _ _ _ hst₂ (main _ rfl))
end
end Mine

namespace Mine
section
variable {w : World} {mg mb : Str → Option Value} {B : Heap} {W : List Str} {env : Env} {Δ : List (Str × Slot)} {k : Nat} {A : Around} {s : Shared} {E : Value → Shared → Prop}
theorem Fm.off {h h' : Heap} {I : Addr} (F : Fm w mg mb B W env h Δ) (kk : ∀ b o, b ≠ I → h.get? b = some o → h'.get? b = some o) (hB : B.get? I = none) (hs : ∀ o, h.get? I = some o → ∀ xs n, o.data ≠ .seq xs n) (hL : env.locals ≠ I) (hc : ∀ x c, env.cells.lookup x = some c → c ≠ I) : Fm w mg mb B W env h' Δ := by
  have g : Gs h h' := by
    rintro b o ⟨xs, n, hd⟩ e
    by_cases hb : b = I
    · subst hb; exact absurd hd (hs o e xs n)
    · exact kk b o hb e
  refine ⟨F.tp, ?_, F.glob, F.blt, F.kind, ?_, ?_, F.freshL, F.freshC, F.apart⟩
  · intro b o e
    by_cases hb : b = I
    · subst hb; rw [hB] at e; cases e
    · exact kk b o hb (F.keep b o e)
  · obtain ⟨m, hn, hm⟩ := F.ns
    exact ⟨m, hn.at' fun o e => kk _ o hL e, fun x sl e l => by obtain ⟨v, a, b⟩ := hm x sl e l; exact ⟨v, a, Slot.has_gs b g⟩⟩
  · intro x c e
    obtain ⟨ov, a, b⟩ := F.cell x c e
    refine ⟨ov, ?_, fun sl e l => by obtain ⟨v, a, b⟩ := b sl e l; exact ⟨v, a, Slot.has_gs b g⟩⟩
    obtain ⟨o, ho, hd⟩ := a
    exact ⟨o, kk c o (hc x c e) ho, hd⟩
/-- the frame of a comprehension -/
theorem comp_free {scope : Scope} {cl : List (Str × Addr)} {h₁ : Heap} {Δf : List (Str × Slot)} (F : Fm w mg mb B W env h₁ Δ) (hkind : scope.kind = .function)
    (hcl : ∀ x c, cl.lookup x = some c → env.cells.lookup x = some c ∧ (env.kindOf x = some .cell ∨ env.kindOf x = some .free)) (hap : cl.Pairwise fun x y => x.2 ≠ y.2)
    (hΔ : ∀ x sl, Δf.lookup x = some sl → Δ.lookup x = some sl ∧ ∀ C, (compEnvC scope cl C env).kindOf x ≠ some .local) :
    ∀ h C m, Le h₁ h → h₁.get? C = none → h.Ns C m → Fm w mg mb h₁ [] (compEnvC scope cl C env) h Δf := by
  intro h C m l hC hn
  refine ⟨F.tpn, l, F.glob, F.blt, hkind, ⟨m, hn, fun x sl e lc => absurd lc ((hΔ x sl e).2 C)⟩, fun x c e => ?_, hC, fun x hx => (by cases hx), hap⟩
  obtain ⟨e1, e2⟩ := hcl x c e
  obtain ⟨ov, a, b⟩ := F.cell x c e1
  refine ⟨ov, a.keeps l, fun sl e lc => ?_⟩
  obtain ⟨v, hv, sv⟩ := b sl (hΔ x sl e).1 e2
  exact ⟨v, hv, Slot.has_gs sv (.of_le l)⟩
theorem asgC1 {x : Str} {p : Pos} {v : Value} {d : PyData} {Q : Unit → Shared → Prop} (F : Fm w mg mb B W env s.heap Δ) (hl : env.kindOf x = some .local) (hv : Rd s.heap v d)
    (h : ∀ h' tk, (∀ b o, b ≠ env.locals → s.heap.get? b = some o → h'.get? b = some o) → Fm w mg mb B W env h' ((x, .d d) :: Δ) → Q () { s with heap := h', toks := tk }) : wpAny (model pr w) A (assign (.Name x p) env v) Q E s :=
  wpAny_assign_Name (st_local F hl fun h' g gs sb F' => h h' _ (fun b o hb e => sb.extBut b o hb e) (F'.retype (sl := .d d) (hv.gs gs)))
theorem asgC2 {x y : Str} {p p' tp : Pos} {kk : Nat} {v : Value} {d e : PyData} {Q : Unit → Shared → Prop} (F : Fm w mg mb B W env s.heap Δ) (ha : AOk k A) (hx : env.kindOf x = some .local) (hy : env.kindOf y = some .local) (hv : Rd s.heap v (.tuple [d, e]) ∨ Rd s.heap v (.list [d, e]))
    (h : ∀ h' tk, (∀ b o, b ≠ env.locals → s.heap.get? b = some o → h'.get? b = some o) → Fm w mg mb B W env h' ((y, .d e) :: (x, .d d) :: Δ) → Q () { s with heap := h', toks := tk }) : wpAny (model pr w) A (assign (.Tuple [.Name x p, .Name y p'] kk tp) env v) Q E s := by
  rw [arm_assign_Tuple]
  refine wpAny_bind (wpAny_standAt ?_)
  unfold unpack
  refine wpAny_bind (wpAny_holding (items_of ha hv rfl fun vs h₁ l₁ r₁ => ?_))
  obtain ⟨a, r, rfl, ra, r₁⟩ := r₁.cons_inv
  obtain ⟨b, r, rfl, rb, r₁⟩ := r₁.cons_inv
  rw [r₁.nil_inv]
  show wpAny _ A (do holding [b] (assign (.Name x p) env a); assignInOrder [assign (.Name y p') env] [b]) _ _ _
  refine wpAny_bind (wpAny_holding (wpAny_assign_Name (st_local (F.le l₁) hx fun h₂ g₂ gs₂ sb₂ F₂ => ?_)))
  show wpAny _ A (do holding [] (assign (.Name y p') env b); assignInOrder [] []) _ _ _
  have F₂ := F₂.retype (sl := .d d) (Rd.gs ra gs₂)
  refine wpAny_bind (wpAny_holding (wpAny_assign_Name (st_local F₂ hy fun h₃ g₃ gs₃ sb₃ F₃ => ?_)))
  show wpAny _ A (pure ()) _ _ _
  exact wpAny_pure (h h₃ _ (fun q o hq e => sb₃.extBut q o hq (sb₂.extBut q o hq (l₁ q o e))) (F₃.retype (sl := .d e) ((Rd.gs rb gs₂).gs gs₃)))
section
variable {h₀ : Heap} {elt target iter : Expr} {ifs : List Expr} {scope : Scope} {cl : List (Str × Addr)} {pos : Pos} {ds : List PyData} {sel : PyData → Option PyData} {Δf : List (Str × Slot)} {Δt : PyData → List (Str × Slot)}
theorem comp_list {RR : Value → Addr → Result → Shared → Prop} {h₁ : Heap} (ha : AOk k A) (hh : s.heap = h₁) {v : Value} (rv : Rd h₁ v (.list ds)) (Cp : Comp w mg mb k env scope cl target elt ifs h₁ ds sel Δf Δt) (hcell : ∀ y ∈ scope.names, y.2 ≠ .cell) (hkind : scope.kind = .function) (hsz : ds.length ≤ 1000)
    (hRR : ∀ D C h' tk m ys, h₁.get? D = none → h₁.get? C = none → D ≠ C → h'.Ns C m → h'.IsList D ys → RdL h' ys.toList (ds.filterMap sel) → Le h₁ h' → RR (.ref D) C (.ok .next) { s with heap := h', toks := tk }) :
    wpAny (model pr w) A (pyIter v) (fun it s₂ => wpAny (model pr w) A (newList []) (fun acc s₃ => wpAny (model pr w) A (newFunctionEnv scope env.globals cl [] env.qual none .none (some env)) (fun cenv s₄ =>
      codeAny (model pr w) A (.compStart (.ListComp elt [⟨target, iter, ifs, 0⟩] scope pos) 0 it acc { cenv with scope := relabel scope env }) (RR acc cenv.locals) s₄) E s₃) E s₂) E s := by
  subst hh
  obtain ⟨ax, vs, rfl, hl, rl⟩ := Rd.isList rv
  have hlen : vs.size = ds.length := by simpa using rl.length
  refine wpAny_pyIter_list hl ?_
  have axne : ax ≠ s.heap.objs.size := by obtain ⟨o, ho, _⟩ := hl; exact Nat.ne_of_lt (Heap.lt_size ho)
  have Wk := Walks.list (prog := pr) (w := w) (A := A) ha.hd s.heap.objs.size ax axne vs
  rw [hlen] at Wk
  refine comp_block (h₁ := s.heap) Wk ha ⟨⟨_, Heap.get?_push_size _ rfl, rfl, rfl⟩, hl.push _⟩ (Le.push _ _) (not_live (Nat.le_refl _)) ?_ ?_ ?_ ?_ ?_ Cp hcell hkind hsz hRR
  · intro b hb
    rw [Heap.size_push]
    rcases List.mem_cons.mp hb with rfl | hb
    · exact Nat.lt_succ_self _
    · simp at hb; subst hb
      obtain ⟨o, ho, _⟩ := hl
      exact Nat.lt_succ_of_lt (Heap.lt_size ho)
  · rw [Heap.size_push]; exact Nat.lt_succ_self _
  · intro i h hS o ho
    obtain ⟨⟨o', ho', _, hd⟩, _⟩ := hS
    rw [ho] at ho'; cases ho'; exact ⟨_, hd⟩
  · intro i v h hi hP l
    have hd : ds[i]? = some (ds[i]'hi) := by simp
    obtain ⟨u, hu, ru⟩ := rl.get hd
    have huv : u = v := by
      have : vs.toList[i]? = some v := by simpa using hP
      rw [hu] at this; cases this; rfl
    subst huv
    exact ⟨_, hd, ru.le l⟩
  · intro i v s' Q hS hP hQ
    exact letGo_list Cp.tgt hS.1 hQ
theorem comp_str {RR : Value → Addr → Result → Shared → Prop} {h₁ : Heap} {x : Str} (ha : AOk k A) (hh : s.heap = h₁) {v : Value} (rv : Rd h₁ v (.str x)) (hx : ∃ y p, target = .Name y p) (Cp : Comp w mg mb k env scope cl target elt ifs h₁ (x.cps.toList.map fun c => .str ⟨#[c]⟩) sel Δf Δt) (hcell : ∀ y ∈ scope.names, y.2 ≠ .cell) (hkind : scope.kind = .function) (hsz : x.length ≤ 1000)
    (hRR : ∀ D C h' tk m ys, h₁.get? D = none → h₁.get? C = none → D ≠ C → h'.Ns C m → h'.IsList D ys → RdL h' ys.toList ((x.cps.toList.map fun c => PyData.str ⟨#[c]⟩).filterMap sel) → Le h₁ h' → RR (.ref D) C (.ok .next) { s with heap := h', toks := tk }) :
    wpAny (model pr w) A (pyIter v) (fun it s₂ => wpAny (model pr w) A (newList []) (fun acc s₃ => wpAny (model pr w) A (newFunctionEnv scope env.globals cl [] env.qual none .none (some env)) (fun cenv s₄ =>
      codeAny (model pr w) A (.compStart (.ListComp elt [⟨target, iter, ifs, 0⟩] scope pos) 0 it acc { cenv with scope := relabel scope env }) (RR acc cenv.locals) s₄) E s₃) E s₂) E s := by
  subst hh
  obtain ⟨t, rfl⟩ := Rd.str_inv rv
  have go : ∀ ty, Walks pr w A s.heap.objs.size [s.heap.objs.size] [s.heap.objs.size] (x.cps.toList.map fun c => PyData.str ⟨#[c]⟩).length (SignAt x) (fun i h => h.IsStrIter s.heap.objs.size ty x t i) →
      wpAny (model pr w) A (newList []) (fun acc s₃ => wpAny (model pr w) A (newFunctionEnv scope env.globals cl [] env.qual none .none (some env)) (fun cenv s₄ =>
        codeAny (model pr w) A (.compStart (.ListComp elt [⟨target, iter, ifs, 0⟩] scope pos) 0 (.ref s.heap.objs.size) acc { cenv with scope := relabel scope env }) (RR acc cenv.locals) s₄) E s₃) E { s with heap := s.heap.push { cls := .type ty, data := .fields #[.str x t, .int 0 0] } } := by
    intro ty Wk
    refine comp_block (h₁ := s.heap) Wk ha ⟨_, Heap.get?_push_size _ rfl, rfl, rfl⟩ (Le.push _ _) (not_live (Nat.le_refl _)) ?_ ?_ ?_ ?_ ?_ Cp hcell hkind (by simpa [Str.length] using hsz) hRR
    · intro b hb
      rw [Heap.size_push]
      rcases List.mem_cons.mp hb with rfl | hb
      · exact Nat.lt_succ_self _
      · cases hb
    · rw [Heap.size_push]; exact Nat.lt_succ_self _
    · intro i h hS o ho
      obtain ⟨o', ho', _, hd⟩ := hS
      rw [ho] at ho'; cases ho'; exact ⟨_, hd⟩
    · intro i v h hi hP l
      obtain ⟨c, u, hc, rfl⟩ := hP
      exact ⟨_, by simp [hc], .str _ _ _⟩
    · intro i v s' Q hS hP hQ
      obtain ⟨y, p, rfl⟩ := hx
      exact wpAny_pure hQ
  have hn : (x.cps.toList.map fun c => PyData.str ⟨#[c]⟩).length = x.cps.size := by simp
  cases hall : x.cps.all (· < 128)
  · exact wpAny_pyIter_wide hall (go "str_iterator" (by rw [hn]; exact Walks.strWide ha.hd _ x t))
  · exact wpAny_pyIter_ascii hall (go "str_ascii_iterator" (by rw [hn]; exact Walks.strAscii ha.hd _ x t))
/-- a source of items for a comprehension -/
def IsSrc (target : Expr) (ds : List PyData) (d : PyData) : Prop := (d = .list ds ∧ ds.length ≤ 1000) ∨ ∃ x : Str, d = .str x ∧ ds = (x.cps.toList.map fun c => .str ⟨#[c]⟩) ∧ x.length ≤ 1000 ∧ ∃ y p, target = .Name y p
theorem comp_src {RR : Value → Addr → Result → Shared → Prop} {h₁ : Heap} {dd : PyData} (ha : AOk k A) (hh : s.heap = h₁) {v : Value} (hs : IsSrc target ds dd) (rv : Rd h₁ v dd) (Cp : Comp w mg mb k env scope cl target elt ifs h₁ ds sel Δf Δt) (hcell : ∀ y ∈ scope.names, y.2 ≠ .cell) (hkind : scope.kind = .function)
    (hRR : ∀ D C h' tk m ys, h₁.get? D = none → h₁.get? C = none → D ≠ C → h'.Ns C m → h'.IsList D ys → RdL h' ys.toList (ds.filterMap sel) → Le h₁ h' → RR (.ref D) C (.ok .next) { s with heap := h', toks := tk }) :
    wpAny (model pr w) A (pyIter v) (fun it s₂ => wpAny (model pr w) A (newList []) (fun acc s₃ => wpAny (model pr w) A (newFunctionEnv scope env.globals cl [] env.qual none .none (some env)) (fun cenv s₄ =>
      codeAny (model pr w) A (.compStart (.ListComp elt [⟨target, iter, ifs, 0⟩] scope pos) 0 it acc { cenv with scope := relabel scope env }) (RR acc cenv.locals) s₄) E s₃) E s₂) E s := by
  rcases hs with ⟨rfl, hz⟩ | ⟨x, rfl, rfl, hz, hx⟩
  · exact comp_list ha hh rv Cp hcell hkind hz hRR
  · exact comp_str ha hh rv hx Cp hcell hkind hz hRR
theorem ev_comprehension {dd : PyData} (he : Ev w k env h₀ iter (D dd)) (hsrc : IsSrc target ds dd) (hclos : closureFor scope env = pure cl) (hcell : ∀ y ∈ scope.names, y.2 ≠ .cell) (hkind : scope.kind = .function) (hnames : ∀ y ∈ scope.names, y.2 = .local → scope.names.lookup y.1 = some .local)
    (Cp : ∀ h₁, Le h₀ h₁ → Comp w mg mb k env scope cl target elt ifs h₁ ds sel Δf Δt) (hs : ∀ x, foldedSetIterable iter env x = pure x := by intro _; rfl) : Ev w k env h₀ (.ListComp elt [⟨target, iter, ifs, 0⟩] scope pos) (D (.list (ds.filterMap sel))) := by
  intro A s Q E ha hle hq
  rw [eval_ListComp]
  refine wpAny_comprehension_free (use := none) rfl hs hclos hkind hnames (he A s _ _ ha hle fun v h₁ t₁ l₁ r₁ => ?_)
  refine comp_src (RR := fun acc C => compPost (model pr w) A E none Q acc C) ha rfl hsrc r₁ (Cp h₁ (hle.trans l₁)) hcell hkind ?_
  intro D C h' tk m ys hD hC hDC hn hl hr l
  refine ⟨m, hn, fun h'' hs'' => ?_⟩
  have gs : Gs h' h'' := .but hs'' fun o ho xs n hd => by
    obtain ⟨o', es, ep, ho', hd', _⟩ := hn
    rw [ho'] at ho; cases ho; rw [hd'] at hd; cases hd
  refine hq _ h'' tk (l₁.trans fun b o e => hs''.extBut b o (by rintro rfl; rw [hC] at e; cases e) (l b o e)) ?_
  obtain ⟨o, ho, hc, n, hd⟩ := hl
  exact .list (hs''.extBut _ _ hDC ho) hc hd (hr.gs gs)
theorem sx_comprehension {dd : PyData} {y : Str} {py spos : Pos} {rest : List Stmt} {Q : Flow → Shared → Prop} (F : Fm w mg mb B W env s.heap Δ) (ha : AOk k A) (he : Ev w k env s.heap iter (D dd)) (hsrc : IsSrc target ds dd) (hclos : closureFor scope env = pure cl) (hcell : ∀ y ∈ scope.names, y.2 ≠ .cell) (hkind : scope.kind = .function)
    (hnames : ∀ y ∈ scope.names, y.2 = .local → scope.names.lookup y.1 = some .local) (hy : env.kindOf y = some .local)
    (Cp : ∀ h₁, Le s.heap h₁ → Comp w mg mb k env scope cl target elt ifs h₁ ds sel Δf Δt)
    (h : ∀ h' tk, Gr env s.heap h' → Gs s.heap h' → Fm w mg mb B W env h' ((y, .d (.list (ds.filterMap sel))) :: Δ) → wpAny (model pr w) A (execs rest env) Q E { s with heap := h', toks := tk })
    (hsw : swapsWith (.ListComp elt [⟨target, iter, ifs, 0⟩] scope pos) (some (.Name y py)) spos.line env = pure true := by rfl) (hs : ∀ x, foldedSetIterable iter env x = pure x := by intro _; rfl) :
    wpAny (model pr w) A (execs (.Assign [.Name y py] (.ListComp elt [⟨target, iter, ifs, 0⟩] scope pos) spos :: rest) env) Q E s := by
  refine wpAny_execs_cons ?_
  rw [exec_Assign_Name_used _ _ _ _ hsw]
  refine wpAny_bind (wpAny_standAt (wpAny_bind ?_))
  show wpAny _ A (do let _ ← comprehension (.ListComp elt [⟨target, iter, ifs, 0⟩] scope pos) scope env _ (newList []) false (eval iter env) (some (assign (.Name y py) env))) _ _ s
  refine wpAny_bind (wpAny_mono (wpAny_comprehension_free (use := some (assign (.Name y py) env)) (Q := fun _ s' => wpAny (model pr w) A (execs rest env) Q E s') (E := E) rfl hs hclos hkind hnames
    (he A s _ _ ha (.refl _) fun v h₁ t₁ l₁ r₁ => ?_)) (fun _ s' hq => wpAny_pure (wpAny_pure hq)) fun _ _ e => e)
  have F₁ := F.le l₁
  refine comp_src (RR := fun acc C => compPost (model pr w) A E (some (assign (.Name y py) env)) (fun _ s' => wpAny (model pr w) A (execs rest env) Q E s') acc C) ha rfl hsrc r₁ (Cp h₁ l₁) hcell hkind ?_
  intro D C h' tk m ys hD hC hDC hn hl hr l
  have F' := F₁.le l
  have LC : env.locals ≠ C := by
    rintro e
    obtain ⟨⟨o, es, n, ho, _⟩, _⟩ := F₁.live
    rw [e] at ho
    have ho : h₁.get? C = some o := ho
    rw [hC] at ho; cases ho
  have cC : ∀ x c, env.cells.lookup x = some c → c ≠ C := by
    rintro x c e rfl
    obtain ⟨_, hc⟩ := F₁.live
    obtain ⟨o, v, ho, _⟩ := hc x _ e
    have ho : h₁.get? _ = some o := ho
    rw [hC] at ho; cases ho
  have rD : Rd h' (.ref D) (.list (ds.filterMap sel)) := by
    obtain ⟨o, ho, hc, n, hd⟩ := hl
    exact .list ho hc hd hr
  show wpAny _ A (assign (.Name y py) env (.ref D)) _ _ _
  refine wpAny_assign_Name (st_local (s := { s with heap := h', toks := tk }) F' hy fun h₂ g gs sb F₂ => ?_)
  have F₂ := F₂.retype (sl := .d (.list (ds.filterMap sel))) (Rd.gs rD gs)
  refine ⟨m, hn.sameBut sb (Ne.symm LC), fun h₃ hs₃ => ?_⟩
  have nC₂ : ∀ o, h₂.get? C = some o → ∀ xs n, o.data ≠ .seq xs n := by
    intro o ho xs n hd
    obtain ⟨o', es, ep, ho', hd', _⟩ := hn.sameBut sb (Ne.symm LC)
    rw [ho'] at ho; cases ho; rw [hd'] at hd; cases hd
  have F₃ := F₂.off (h' := h₃) (I := C) (fun b o hb e => hs₃.extBut b o hb e) (by
    cases e : B.get? C with
    | none => rfl
    | some o => rw [F₁.keep _ _ e] at hC; cases hC) nC₂ LC cC
  refine h h₃ _ ?_ ?_ F₃
  · intro b o p q z e
    exact hs₃.extBut b o (by rintro rfl; rw [l₁ _ _ e] at hC; cases hC) (g b o p q z (l b o (l₁ b o e)))
  · intro b o sq e
    exact hs₃.extBut b o (by rintro rfl; rw [l₁ _ _ e] at hC; cases hC) (gs b o sq (l b o (l₁ b o e)))
end
end
end Mine

namespace Mine
section
variable {w : World} {mg mb : Str → Option Value} {B : Heap} {W : List Str} {env : Env} {Δ : List (Str × Slot)} {k : Nat} {A : Around} {s : Shared} {h₀ : Heap} {pos : Pos}
/-- into a def of the text, with cells -/
theorem enterX {a : Addr} {nm q : Str} {st : Stmt} {dV pm : Value} {cd : Nat} {args : List Value} {binds : List (Str × Value)} {Q : Value → Shared → Prop} {E : Value → Shared → Prop} (X : Tp w mg mb s.heap) (hk : (K w.params).lookup a = some (fnO nm q st dV pm cd))
    (hc : codeIn (K w.params) (.ref cd) q = true) (hroom : A.depth < recursionLimit) (hb : bindArgs (fnD nm q st dV pm cd) ⟨args, []⟩ = pure binds) (hloc : ∀ x ∈ binds, (defS st).names.lookup x.1 = some .local)
    (hco : (defS st).isCoroutine = false) (hgen : (defS st).isGenerator = false) (hkd : (defS st).kind = .function)
    (hW : ∀ x ∈ W, ((cellsFrom (s.heap.objs.size + 1) (defS st).names []).lookup x).isSome = true)
    (hΔ : ∀ x sl, Δ.lookup x = some sl → (callEnvC (fnD nm q st dV pm cd) s.heap.objs.size a).kindOf x = some .local ∧ ∃ v, bindL (callEnvC (fnD nm q st dV pm cd) s.heap.objs.size a).kindOf binds (fun _ => none) x = some v ∧ sl.has v s.heap)
    (h : ∀ h₁ tk, Fm w mg mb s.heap W (callEnvC (fnD nm q st dV pm cd) s.heap.objs.size a) h₁ Δ →
      wpAny (model pr w) (A.deeper (callEnvC (fnD nm q st dV pm cd) s.heap.objs.size a)) (execs (defB st) (callEnvC (fnD nm q st dV pm cd) s.heap.objs.size a))
        (fun f s' => Q (match f with | .ret v => v | _ => .none) s') (fun _ _ => False) { s with heap := h₁, toks := tk }) :
    wpAny (model pr w) A (call (.ref a) args) Q E s := by
  refine wpAny_call (codeAny_call_cells (fd := fnD nm q st dV pm cd) (body := defB st) hroom (X.X _ _ hk) rfl X.T.nolimit (codeRec_of X.X hc) rfl hb rfl (fun x hx => .inl (hloc x hx)) (fun s₁ C => ?_) hco hgen hkd)
  obtain ⟨h₁, tk, e⟩ := C.toInCall.same
  subst e
  have le : Le s.heap h₁ := C.toInCall.keep
  refine wpAny_mono (h h₁ tk ⟨X, le, rfl, rfl, hkd, ⟨_, C.toInCall.ns, fun x sl e l => ?_⟩, fun x c e => ?_, not_live C.toInCall.fresh, fun x hx => ?_, C.apart⟩) (fun _ _ x => x) fun _ _ x => x.elim
  · obtain ⟨_, v, hv, sv⟩ := hΔ x sl e
    exact ⟨v, hv, Slot.has_gs sv (.of_le le)⟩
  · refine ⟨_, C.cell x c e, fun sl e' l => ?_⟩
    have := (hΔ x sl e').1
    rw [this] at l
    rcases l with l | l <;> cases l
  · obtain ⟨c, hc⟩ := Option.isSome_iff_exists.mp (hW x hx)
    refine ⟨c, hc, not_live ?_⟩
    have := C.above x c (mem_of_lookup hc)
    exact Nat.le_trans C.toInCall.fresh (Nat.le_of_lt this)
theorem g_TC (w : World) : nsIn (K w.params) mainGlobals (Str.ofString "TupleComp") = some (some (.ref 38)) := by kernel_rfl
theorem kp38 (w : World) : keepIn (K w.params) (.ref 38) = true := by kernel_rfl
/-- TupleComp([(1, way), (0, -way)]) -/
theorem ev_make {p : Pos} {e : Expr} {way : Int} (F : Fm w mg mb B W env h₀ Δ) (he : Ev w (k + 2) env h₀ e (D (.list [.tuple [.int 1, .int way], .tuple [.int 0, .int (-way)]]))) (hx : env.kindOf (Str.ofString "TupleComp") = some .globalImplicit := by rfl)
    (hse : starEach [e] env = (false, eval e env) :: starEach [] env := by rfl) : Ev w (k + 2) env h₀ (.Call (.Name (Str.ofString "TupleComp") p) [e] [] pos) (fun v h => ∃ a d, v = .ref a ∧ CompAt h a d way ∧ h₀.get? a = none ∧ h₀.get? d = none) := by
  intro A s Q E ha hle hq
  refine wpAny_Call_NameR (ev_global F (g_TC w) hx (by decide) A s _ E ha hle fun f h₁ t₁ l₁ r₁ => ?_)
  subst r₁
  rw [hse]
  refine callWith_of (P := fun h => (K w.params).In h) rfl (keeps_K (kp38 w)) (Calls.evalArgs_plain (Calls.spliced_cons (he A _ _ E ha (hle.trans l₁) fun v h₂ t₂ l₂ r₂ => Calls.spliced_nil ⟨(F.le (hle.trans (l₁.trans l₂))).tpn.X, ?_⟩)))
  obtain ⟨av, vs, rfl, _⟩ := Rd.isList r₂
  refine make_comp (s := { s with heap := h₂, toks := t₂ }) (F.le (hle.trans (l₁.trans l₂))).tpn ha rfl r₂ fun a d h' tk l C na nd => ?_
  exact hq _ h' tk (l₁.trans (l₂.trans l)) ⟨a, d, rfl, C, not_live_le (hle.trans (l₁.trans l₂)) na, not_live_le (hle.trans (l₁.trans l₂)) nd⟩
theorem fi35 (w : World) : findIn (K w.params) (.ref 38) (Str.ofString "compare") = some (some (.ref 35)) := by kernel_rfl
theorem ty35 (w : World) : typeIn (K w.params) (.ref 35) = some (.type "function") := by kernel_rfl
theorem sh35 (hsh : Int) (t : Tok) (c : Value) (n : Nat) : shadowIn (some { cls := .type "dict", data := .dict #[⟨hsh, .str (Str.ofString "comp_select_list") t, c⟩] n }) (Str.ofString "compare") = some false := by kernel_rfl
/-- comp.compare(one, other) -/
theorem ev_compare {o e₁ e₂ : Expr} {ap : Pos} {a d : Addr} {way : Int} {l r : Int × Int} (F : Fm w mg mb B W env h₀ Δ) (ho : Ev w (k + 1) env h₀ o (fun u _ => u = .ref a)) (C : CompAt h₀ a d way) (h1 : Ev w (k + 1) env h₀ e₁ (D (pt l))) (h2 : Ev w (k + 1) env h₀ e₂ (D (pt r)))
    (hse : starEach [e₁, e₂] env = [(false, eval e₁ env), (false, eval e₂ env)] := by rfl)
    (hev : eval (.Call (.Attribute o (Str.ofString "compare") ap) [e₁, e₂] [] pos) env = (do
      let ov ← eval o env
      standAt ap.atName
      let (f, first) ← holding [ov] (getMethod ov (Str.ofString "compare") (do return (← importBound o env).getD true))
      callWith pos f first (backTo pos (starEach [e₁, e₂] env)) (backToKw pos (keywordEach [] env))) := by rfl) :
    Ev w (k + 1) env h₀ (.Call (.Attribute o (Str.ofString "compare") ap) [e₁, e₂] [] pos) (D (.int (cmpV way l r))) := by
  intro A s Q E ha hle hq
  refine methodCall_KW (pl := (do return (← importBound o env).getD true)) ?_ hev
  refine ho A s _ E ha hle fun ov h₁ t₁ l₁ r₁ => ?_
  subst r₁
  obtain ⟨i, hsh, t, c, n, e, hh, rr⟩ := C.le (hle.trans l₁)
  refine method_fn (s := { s with heap := h₁, toks := t₁ }) (F.le (hle.trans l₁)).tpn.X ⟨i, rfl, rfl, e⟩ (ga38 w) (gk38 w) (fi35 w) (ty35 w) (sh35 hsh t c n) ?_
  rw [hse]
  refine Calls.callWith_function (o := fnO (Str.ofString "compare") (Str.ofString "TupleComp.compare") stC .none pmA 34) (Calls.evalArgs_plain (Calls.spliced_cons (h1 A _ _ E ha (hle.trans l₁) fun v₁ h₂ t₂ l₂ r₂ => Calls.spliced_cons (h2 A _ _ E ha (hle.trans (l₁.trans l₂)) fun v₂ h₃ t₃ l₃ r₃ => Calls.spliced_nil ⟨⟨?_, rfl⟩, ?_⟩))))
  · exact (F.le (hle.trans (l₁.trans (l₂.trans l₃)))).tpn.X _ _ (k35 w)
  · refine compare_fn (way := way) (l := l) (r := r) (mg := mg) (mb := mb) A _ Q E _ ha (F.le (hle.trans (l₁.trans (l₂.trans l₃)))).tpn ⟨a, d, v₁, v₂, rfl, C.le (hle.trans (l₁.trans (l₂.trans l₃))), Rd.le r₂ l₃, r₃⟩ fun v h' tk l r => hq v h' tk (l₁.trans (l₂.trans (l₃.trans l))) r
theorem CompAt.steady {a d : Addr} {way : Int} : Steady h₀ fun h => CompAt h a d way := by
  intro I h h' h0 hI kk C
  obtain ⟨i, hsh, t, c, n, e, hh, r⟩ := C
  have g : Gs h h' := by
    rintro b o ⟨xs, n, hd⟩ e
    by_cases hb : b = I
    · subst hb
      obtain ⟨vs, hd'⟩ := hI o e
      rw [hd'] at hd; cases hd
    · exact kk b o hb e
  refine ⟨kk _ _ ?_ i, hsh, t, c, n, kk _ _ ?_ e, hh, r.gs g⟩
  · rintro rfl
    obtain ⟨vs, hd⟩ := hI _ i
    cases hd
  · rintro rfl
    obtain ⟨vs, hd⟩ := hI _ e
    cases hd
end
end Mine

namespace Mine
/-- a point into a row -/
def putIn (way : Int) (row : List (Int × Int)) (p : Int × Int) : List (Int × Int) := row.filter (fun q => decide (cmpV way q p < 0)) ++ [p] ++ row.filter (fun q => decide (cmpV way q p > 0))
def rowF (way : Int) (places : List (Int × Int)) : List (Int × Int) := places.foldl (putIn way) []
theorem putIn_len (way : Int) (row : List (Int × Int)) (p : Int × Int) : (putIn way row p).length ≤ row.length + 1 := by
  unfold putIn
  have : ∀ l : List (Int × Int), (l.filter (fun q => decide (cmpV way q p < 0))).length + (l.filter (fun q => decide (cmpV way q p > 0))).length ≤ l.length := by
    intro l
    induction l with
    | nil => simp
    | cons q l ih =>
      rw [List.filter_cons, List.filter_cons]
      by_cases h1 : cmpV way q p < 0
      · have h2 : ¬ cmpV way q p > 0 := by omega
        simp only [h1, h2, decide_true, decide_false, if_true, List.length_cons]
        simp only [Bool.false_eq_true, if_false]
        omega
      · by_cases h2 : cmpV way q p > 0
        · simp only [h1, h2, decide_true, decide_false, if_true, List.length_cons]
          simp only [Bool.false_eq_true, if_false]
          omega
        · simp only [h1, h2, decide_false, Bool.false_eq_true, if_false, List.length_cons]
          omega
  have := this row
  simp only [List.length_append, List.length_cons, List.length_nil]
  omega
noncomputable abbrev eRow (L : Nat) : Env := callEnvC (fnD (Str.ofString "_law_row") (Str.ofString "_law_row") (stAt 23) .none pmC 96) L 97
def asPt : PyData → Int × Int
  | .list [.int a, .int b] => (a, b)
  | _ => (0, 0)
theorem asPt_pt (p : Int × Int) : asPt (pt p) = p := rfl
def selTold (way : Int) (p : Int × Int) (d : PyData) : Option PyData := some (.tuple [.int (cmpV way (asPt d) p), d])
def selSide (f : Int → Bool) : PyData → Option PyData
  | .tuple [.int c, d] => if f c then some d else none
  | _ => none
def told (way : Int) (p : Int × Int) (row : List (Int × Int)) : List PyData := row.map fun q => .tuple [.int (cmpV way q p), pt q]
theorem told_eq (way : Int) (p : Int × Int) (row : List (Int × Int)) : (row.map pt).filterMap (selTold way p) = told way p row := by
  induction row with
  | nil => rfl
  | cons q row ih => simp only [List.map_cons, List.filterMap_cons, selTold, told]; congr 1
theorem side_eq (f : Int → Bool) (way : Int) (p : Int × Int) (row : List (Int × Int)) : (told way p row).filterMap (selSide f) = (row.filter fun q => f (cmpV way q p)).map pt := by
  induction row with
  | nil => rfl
  | cons q row ih =>
    simp only [told, List.map_cons, List.filterMap_cons, selSide, List.filter_cons]
    cases hf : f (cmpV way q p) with
    | true =>
      simp only [if_true, List.map_cons]
      congr 1
    | false =>
      simp only [Bool.false_eq_true, if_false]
      exact ih
theorem lack_pt {out : List PyData} (h : ∀ e ∈ out, ∀ i, e ≠ .int i) (q : Int × Int) : Lacks out (pt q) := by
  refine ⟨?_, trivial, trivial, trivial⟩
  rintro rfl
  exact h _ List.mem_cons_self _ rfl
theorem lack_told {way : Int} {p : Int × Int} {row : List (Int × Int)} (i : Nat) : LacksAll (((row.map pt).take i).filterMap (selTold way p)) ((row.map pt).filterMap (selTold way p)) := by
  refine lacksAll_of fun d hd => ?_
  rw [told_eq] at hd
  obtain ⟨q, _, rfl⟩ := List.mem_map.mp hd
  refine ⟨trivial, lack_pt (fun e he j => ?_) q, trivial⟩
  rw [← List.map_take, told_eq] at he
  obtain ⟨q', _, rfl⟩ := List.mem_map.mp he
  intro h; cases h
theorem lack_side {f : Int → Bool} {way : Int} {p : Int × Int} {row : List (Int × Int)} (i : Nat) : LacksAll (((told way p row).take i).filterMap (selSide f)) ((told way p row).filterMap (selSide f)) := by
  refine lacksAll_of fun d hd => ?_
  rw [side_eq] at hd
  obtain ⟨q, _, rfl⟩ := List.mem_map.mp hd
  refine lack_pt (fun e he j => ?_) q
  have : (told way p row).take i = told way p (row.take i) := by unfold told; rw [List.map_take]
  rw [this, side_eq] at he
  obtain ⟨q', _, rfl⟩ := List.mem_map.mp he
  intro h; cases h
section
variable {w : World} {mg mb : Str → Option Value} {k : Nat}
theorem k97 (w : World) : (K w.params).lookup 97 = some (fnO (Str.ofString "_law_row") (Str.ofString "_law_row") (stAt 23) .none pmC 96) := by rfl
def sideΔ (Δf : List (Str × Slot)) : PyData → List (Str × Slot)
  | .tuple [a, b] => (Str.ofString "one", .d b) :: (Str.ofString "side", .d a) :: Δf
  | _ => Δf
theorem sideComp {B : Heap} {W : List Str} {env : Env} {h₁ : Heap} {Δ : List (Str × Slot)} {scope : Scope} {op : CmpOp} {f : Int → Bool} {way : Int} {p : Int × Int} {row : List (Int × Int)} {p₁ p₂ p₃ p₄ p₅ p₆ p₇ : Pos} {kk kk' : Nat} (F : Fm w mg mb B W env h₁ Δ)
    (hsc : scope = { kind := .function, names := [(Str.ofString ".0", .local), (Str.ofString "side", .local), (Str.ofString "one", .local)], isGenerator := false, isCoroutine := false, more := [] })
    (ht : ∀ (c : Int) (l r : Expr) (pos : Pos) (env : Env) (h₀ : Heap), Ev w k env h₀ l (D (.int c)) → Ev w k env h₀ r (D (.int 0)) → behindInMarks op r = false → Tv w k env h₀ (.Compare l [op] [r] pos) (f c)) (hm : behindInMarks op (.Constant (.int 0) kk' p₆) = false) :
    Comp w mg mb k env scope [] (.Tuple [.Name (Str.ofString "side") p₁, .Name (Str.ofString "one") p₂] kk p₃) (.Name (Str.ofString "one") p₄) [.Compare (.Name (Str.ofString "side") p₅) [op] [.Constant (.int 0) kk' p₆] p₇] h₁ (told way p row) (selSide f) [] (sideΔ []) := by
  subst hsc
  refine ⟨trivial, comp_free F rfl (fun x c e => nomatch e) .nil (fun x sl e => nomatch e), ?_, ?_, ?_, lack_side⟩
  · intro d hd C A s Q E v ha F hv hq
    obtain ⟨q, _, rfl⟩ := List.mem_map.mp hd
    exact asgC2 F ha rfl rfl (.inl hv) fun h' tk kk F' => hq h' tk kk F'
  · intro d hd C h F
    obtain ⟨q, _, rfl⟩ := List.mem_map.mp hd
    have e : (selSide f (.tuple [.int (cmpV way q p), pt q])).isSome = f (cmpV way q p) := by
      show (if f (cmpV way q p) then some (pt q) else none).isSome = _
      cases f (cmpV way q p) <;> rfl
    show Tvs w k _ h [_] _
    rw [e]
    exact ht _ _ _ _ _ _ (ev_name F rfl) ev_int hm
  · intro d hd e he C h F
    obtain ⟨q, _, rfl⟩ := List.mem_map.mp hd
    have e' : e = pt q := by
      have he : (if f (cmpV way q p) then some (pt q) else none) = some e := he
      cases hf : f (cmpV way q p) <;> rw [hf] at he
      · cases he
      · simpa using he.symm
    subst e'
    exact ev_name F rfl
theorem row_fn {way : Int} {places : List (Int × Int)} (hlen : places.length ≤ 64) : Fn w mg mb (k + 4) (.ref 97) (Ds [.list (places.map pt), .int way]) (D (.list ((rowF way places).map pt))) := by
  intro A s Q E vs ha X r hq
  obtain ⟨v₁, vs, rfl, r₁, r⟩ := r.cons_inv
  obtain ⟨v₂, vs, rfl, r₂, r⟩ := r.cons_inv
  rw [r.nil_inv]
  refine enterX (nm := Str.ofString "_law_row") (q := Str.ofString "_law_row") (st := stAt 23) (dV := .none) (pm := pmC) (cd := 96) (W := [Str.ofString "comp", Str.ofString "place"]) (binds := [(Str.ofString "places", v₁), (Str.ofString "way", v₂)]) (Δ := [(Str.ofString "places", .d (.list (places.map pt))), (Str.ofString "way", .d (.int way))])
    X (k97 w) (by kernel_rfl) ha.room (by rfl) (locs (by kernel_rfl)) (by rfl) (by rfl) (by rfl) ?_ ?_ fun h₁ tk₁ F => ?_
  · intro x hx
    simp only [List.mem_cons, List.not_mem_nil, or_false] at hx
    rcases hx with rfl | rfl <;> rfl
  · intro x sl e
    have e := mem_of_lookup e
    simp only [List.mem_cons, List.not_mem_nil, or_false, Prod.mk.injEq] at e
    rcases e with ⟨rfl, rfl⟩ | ⟨rfl, rfl⟩
    · exact ⟨by rfl, _, by rfl, r₁⟩
    · exact ⟨by rfl, _, by rfl, r₂⟩
  have ha := ha.deeper (eRow s.heap.objs.size)
  refine sx_assignR F ha (ev_make F (ev_list (evd_cons (ev_tuple (evd_cons ev_int (evd_cons (ev_name F rfl) evd_nil))) (evd_cons (ev_tuple (evd_cons ev_int (evd_cons (ev_negI (ev_name F rfl)) evd_nil))) evd_nil)))) (.inr ⟨rfl, by simp⟩) fun v h₂ h₃ tk₃ l₂ rc g₃ gs₃ F₃ => ?_
  obtain ⟨a, d, rfl, C₂, na, nd⟩ := rc
  have off : ∀ b, h₁.get? b = none → Off (eRow s.heap.objs.size) b := by
    intro b hb
    obtain ⟨⟨oL, _, _, hoL, _⟩, hcells⟩ := F.live
    refine ⟨?_, fun x c e ec => ?_⟩
    · rintro rfl; rw [hoL] at hb; cases hb
    · subst ec
      obtain ⟨o, v, ho, _⟩ := hcells x _ e
      rw [ho] at hb; cases hb
  have C₃ := C₂.eff (off a na) (off d nd) g₃ gs₃
  refine sx_assign F₃ ha (ev_list evd_nil) (.inl rfl) fun h₄ tk₄ g₄ gs₄ F₄ => ?_
  have C₄ := C₃.eff (off a na) (off d nd) g₄ gs₄
  refine sx_forL (M := []) (J := fun i h => Fm w mg mb s.heap [Str.ofString "comp", Str.ofString "place"] (eRow s.heap.objs.size) h [(Str.ofString "row", .d (.list ((rowF way (places.take i)).map pt))), (Str.ofString "comp", .v (.ref a)), (Str.ofString "places", .d (.list (places.map pt)))] ∧ CompAt h a d way)
    F₄ ha trivial (ev_name F₄ rfl) (fun _ h => nomatch h) (fun h' l => ⟨(F₄.le l).mono (pick_all ?_), C₄.le l⟩) (fun i => (Fm.steady F₄.keep).and CompAt.steady) ?_ ?_
  · exact List.forall_mem_cons.mpr ⟨rfl, List.forall_mem_cons.mpr ⟨rfl, List.forall_mem_cons.mpr ⟨rfl, List.forall_mem_nil _⟩⟩⟩
  · rintro i dd v h tk hd hv ⟨Fh, Ch⟩ he
    rw [List.getElem?_map] at hd
    obtain ⟨p, hp, rfl⟩ := Option.map_eq_some_iff.mp hd
    generalize hrow : rowF way (places.take i) = row at Fh
    have hnext : rowF way (places.take (i + 1)) = putIn way row p := by
      unfold rowF at hrow ⊢
      rw [List.take_add_one, hp, List.foldl_append, hrow]; rfl
    have hrl : row.length ≤ 64 := by
      rw [← hrow]
      have : ∀ (l : List (Int × Int)) (acc : List (Int × Int)), (l.foldl (putIn way) acc).length ≤ acc.length + l.length := by
        intro l
        induction l with
        | nil => intro acc; simp
        | cons q l ih =>
          intro acc
          have h1 := ih (putIn way acc q)
          have h2 := putIn_len way acc q
          simp only [List.foldl_cons, List.length_cons]
          omega
      have := this (places.take i) []
      unfold rowF
      simp only [List.length_nil, List.length_take] at this
      omega
    refine asg1 Fh (.inr ⟨rfl, by simp⟩) hv fun h₅ tk₅ g₅ gs₅ F₅ => ?_
    have C₅ := Ch.eff (off a na) (off d nd) g₅ gs₅
    have src1 : IsSrc (.Name (Str.ofString "one") ⟨87, 52, 87, 55⟩) (row.map pt) (.list (row.map pt)) := .inl ⟨rfl, by rw [List.length_map]; omega⟩
    refine sx_comprehension (cl := [(Str.ofString "place", s.heap.objs.size + 1 + 1), (Str.ofString "comp", s.heap.objs.size + 1)]) (sel := selTold way p) (Δf := [(Str.ofString "comp", .v (.ref a)), (Str.ofString "place", .d (pt p))]) (Δt := fun d => [(Str.ofString "one", .d d), (Str.ofString "comp", .v (.ref a)), (Str.ofString "place", .d (pt p))])
      F₅ ha (ev_name F₅ rfl) src1 (by rfl) (by decide) rfl (by decide) rfl ?_ ?_
    · intro h₆ l₆
      refine ⟨trivial, comp_free (F₅.le l₆) rfl ?_ ?_ ?_, fun d hd C A s Q E v ha F hv hq => asgC1 F rfl hv fun h' tk kk F' => hq h' tk kk F', fun d hd C h F => rfl, ?_, lack_told⟩
      · intro x c e
        have e := mem_of_lookup e
        simp only [List.mem_cons, List.not_mem_nil, or_false, Prod.mk.injEq] at e
        rcases e with ⟨rfl, rfl⟩ | ⟨rfl, rfl⟩
        · exact ⟨by rfl, .inl rfl⟩
        · exact ⟨by rfl, .inl rfl⟩
      · simp
      · intro x sl e
        have e := mem_of_lookup e
        simp only [List.mem_cons, List.not_mem_nil, or_false, Prod.mk.injEq] at e
        rcases e with ⟨rfl, rfl⟩ | ⟨rfl, rfl⟩
        · exact ⟨rfl, fun C h => nomatch (show some NameKind.cell = some NameKind.local from h)⟩
        · exact ⟨rfl, fun C h => nomatch (show some NameKind.cell = some NameKind.local from h)⟩
      · intro d' hd' e he' C h F
        obtain ⟨q, _, rfl⟩ := List.mem_map.mp hd'
        cases he'
        exact ev_tuple (evd_cons (ev_compare F (ev_nameV F rfl) ((C₅.le l₆).le F.keep) (ev_name F rfl) (ev_name F rfl)) (evd_cons (ev_name F rfl) evd_nil))
    · intro h₆ tk₆ g₆ gs₆ F₆
      have C₆ := C₅.eff (off a na) (off d nd) g₆ gs₆
      rw [told_eq] at F₆
      have tlen : (told way p row).length ≤ 1000 := by unfold told; rw [List.length_map]; omega
      have sz : ∀ f : Int → Bool, ((row.filter fun q => f (cmpV way q p)).map pt).length ≤ 64 := fun f => by
        rw [List.length_map]; exact Nat.le_trans (List.length_filter_le _ _) hrl
      have c1 := side_eq (fun c => decide (c < 0)) way p row
      have c2 := side_eq (fun c => decide (c > 0)) way p row
      have z1 := sz (fun c => decide (c < 0))
      have z2 := sz (fun c => decide (c > 0))
      rw [← c1] at z1
      rw [← c2] at z2
      refine sx_assign F₆ ha (ev_addL (ev_addL
        (ev_comprehension (ds := told way p row) (sel := selSide fun c => decide (c < 0)) (Δf := []) (Δt := sideΔ []) (cl := []) (ev_name F₆ rfl) (.inl ⟨rfl, tlen⟩) (by rfl) (by decide) rfl (by decide) fun h₇ l₇ => sideComp (F₆.le l₇) rfl (fun c l r pos env h₀ p q m => tv_ltI p q m) rfl)
        (ev_list (evd_cons (ev_name F₆ rfl) evd_nil)) ?_)
        (ev_comprehension (ds := told way p row) (sel := selSide fun c => decide (c > 0)) (Δf := []) (Δt := sideΔ []) (cl := []) (ev_name F₆ rfl) (.inl ⟨rfl, tlen⟩) (by rfl) (by decide) rfl (by decide) fun h₇ l₇ => sideComp (F₆.le l₇) rfl (fun c l r pos env h₀ p q m => tv_gtI p q m) rfl) ?_) (.inl rfl) fun h₇ tk₇ g₇ gs₇ F₇ => ?_
      · have : (64 : Nat) + 1 ≤ sizeLine := by decide
        simp only [List.length_cons, List.length_nil]
        omega
      · have : (64 : Nat) + 1 + 64 ≤ sizeLine := by decide
        simp only [List.length_append, List.length_cons, List.length_nil]
        omega
      · have C₇ := C₆.eff (off a na) (off d nd) g₇ gs₇
        have e : (told way p row).filterMap (selSide fun c => decide (c < 0)) ++ [pt p] ++ (told way p row).filterMap (selSide fun c => decide (c > 0)) = (putIn way row p).map pt := by
          rw [c1, c2]; unfold putIn; simp
        rw [e] at F₇
        refine sx_nil ⟨h₇, tk₇, rfl, ⟨?_, C₇⟩, g₅.trans (g₆.trans g₇)⟩
        rw [hnext]
        exact F₇.mono (pick_all (List.forall_mem_cons.mpr ⟨rfl, List.forall_mem_cons.mpr ⟨rfl, List.forall_mem_cons.mpr ⟨rfl, List.forall_mem_nil _⟩⟩⟩))
  · rintro h tk ⟨Fh, Ch⟩ he
    refine sx_ret ha (ev_name Fh rfl) fun v h' tk l r => ?_
    have : rowF way (places.take (places.map pt).length) = rowF way places := by rw [List.length_map, List.take_length]
    rw [this] at r
    exact hq v h' tk (Fh.le l).keep r
end
end Mine

namespace Mine
abbrev P2 := Int × Int
def turnStep (x y : Int) (st : List P2 × Nat × List P2) (p : P2) : List P2 × Nat × List P2 :=
  if (p.2 - (st.2.2.getLast?.getD (0, 0)).2) * y ≠ (p.1 - (st.2.2.getLast?.getD (0, 0)).1) * x then (st.1 ++ st.2.2.reverse, st.2.1, [p])
  else (st.1, st.2.1 + st.2.2.length, st.2.2 ++ [p])
def turnF (x y : Int) (row : List P2) : List P2 × Nat :=
  let st := (row.drop 1).foldl (turnStep x y) ([], 0, row.take 1)
  (st.1 ++ st.2.2.reverse, st.2.1)
/-- how far a point may lie -/
def Near (p : P2) : Prop := 0 ≤ p.1 ∧ p.1 ≤ 255 ∧ 0 ≤ p.2 ∧ p.2 ≤ 255
theorem mulOk {a b : Int} (h0 : -512 ≤ a) (h1 : a ≤ 512) (h2 : -512 ≤ b) (h3 : b ≤ 512) : IntMulOk a b := by
  apply IntMulOk.of_left
  unfold Builtin.Int.intBits
  split
  · decide
  · rename_i h
    have h : a ≠ 0 := by simpa using h
    have : a.natAbs.log2 < 10 := (Nat.log2_lt (by omega)).mpr (by omega)
    omega
theorem turn_run (x y : Int) : ∀ (l : List P2) (st : List P2 × Nat × List P2), st.2.2 ≠ [] → (∀ q ∈ st.2.2, Near q) → (∀ q ∈ l, Near q) →
    (l.foldl (turnStep x y) st).2.2 ≠ [] ∧ (∀ q ∈ (l.foldl (turnStep x y) st).2.2, Near q) ∧ (l.foldl (turnStep x y) st).1.length + (l.foldl (turnStep x y) st).2.2.length = st.1.length + st.2.2.length + l.length
  | [], st, h1, h2, _ => ⟨h1, h2, by simp⟩
  | p :: l, st, h1, h2, h3 => by
    have step : (turnStep x y st p).2.2 ≠ [] ∧ (∀ q ∈ (turnStep x y st p).2.2, Near q) ∧ (turnStep x y st p).1.length + (turnStep x y st p).2.2.length = st.1.length + st.2.2.length + 1 := by
      unfold turnStep
      split
      · refine ⟨by simp, fun q hq => ?_, by simp⟩
        simp at hq; subst hq
        exact h3 _ List.mem_cons_self
      · refine ⟨by simp, fun q hq => ?_, by simp; omega⟩
        rcases List.mem_append.mp hq with hq | hq
        · exact h2 q hq
        · simp at hq; subst hq
          exact h3 _ List.mem_cons_self
    have ih := turn_run x y l (turnStep x y st p) step.1 step.2.1 fun q hq => h3 q (List.mem_cons_of_mem _ hq)
    refine ⟨ih.1, ih.2.1, ?_⟩
    have := ih.2.2
    have := step.2.2
    simp only [List.foldl_cons, List.length_cons]
    omega
noncomputable abbrev eTurn (L : Nat) : Env := envOf (Str.ofString "_law_turn") (defS (stAt 25)) L 111 (.ref 110)
section
variable {w : World} {mg mb : Str → Option Value} {k : Nat}
theorem k111 (w : World) : (K w.params).lookup 111 = some (fnO (Str.ofString "_law_turn") (Str.ofString "_law_turn") (stAt 25) .none pmC 110) := by rfl
theorem turn_fn {x y : Int} {row : List P2} (hlen : row.length ≤ 64) (hnear : ∀ p ∈ row, Near p) (hx : -512 ≤ x ∧ x ≤ 512) (hy : -512 ≤ y ∧ y ≤ 512) :
    Fn w mg mb (k + 2) (.ref 111) (Ds [.list (row.map pt), .int x, .int y]) (D (.tuple [.list ((turnF x y row).1.map pt), .int (turnF x y row).2])) := by
  intro A s Q E vs ha X r hq
  obtain ⟨v₁, vs, rfl, r₁, r⟩ := r.cons_inv
  obtain ⟨v₂, vs, rfl, r₂, r⟩ := r.cons_inv
  obtain ⟨v₃, vs, rfl, r₃, r⟩ := r.cons_inv
  rw [r.nil_inv]
  refine enter (nm := Str.ofString "_law_turn") (q := Str.ofString "_law_turn") (st := stAt 25) (dV := .none) (pm := pmC) (cd := 110) (binds := [(Str.ofString "row", v₁), (Str.ofString "x", v₂), (Str.ofString "y", v₃)]) (Δ := [(Str.ofString "row", .d (.list (row.map pt))), (Str.ofString "x", .d (.int x)), (Str.ofString "y", .d (.int y))])
    X (k111 w) (by kernel_rfl) ha.room (BindsTo.of_eq (by rfl)) (by kernel_rfl) (by rfl) (by rfl) (by rfl) (by decide +kernel) ?_ fun h₁ tk₁ F => ?_
  · intro x sl e
    have e := mem_of_lookup e
    simp only [List.mem_cons, List.not_mem_nil, or_false, Prod.mk.injEq] at e
    rcases e with ⟨rfl, rfl⟩ | ⟨rfl, rfl⟩ | ⟨rfl, rfl⟩
    · exact ⟨_, by rfl, r₁⟩
    · exact ⟨_, by rfl, r₂⟩
    · exact ⟨_, by rfl, r₃⟩
  have ha := ha.deeper (eTurn s.heap.objs.size)
  have sz : (row.map pt).length ≤ sizeLine := by rw [List.length_map, sizeLine_eq]; omega
  refine sx_three (d := .list []) (f := .int 0) (g := .list ((row.take 1).map pt)) F ha (ev_tuple (evd_cons (ev_list evd_nil) (evd_cons ev_int (evd_cons (ev_sliceL (ev_name F rfl) pt_none (pt_some ev_int) pt_none (by simp) sz fun h vs r => by
    rw [List.map_take]; exact pick_upto 1 vs r) evd_nil)))) (.inl rfl) (.inl rfl) (.inl rfl) fun h₂ tk₂ g₂ gs₂ F₂ => ?_
  refine sx_forL (M := []) (ds := (row.drop 1).map pt) (J := fun i h => ∃ st : List P2 × Nat × List P2, st = ((row.drop 1).take i).foldl (turnStep x y) ([], 0, row.take 1) ∧
      Fm w mg mb s.heap [] (eTurn s.heap.objs.size) h [(Str.ofString "turned", .d (.list (st.1.map pt))), (Str.ofString "pairs", .d (.int st.2.1)), (Str.ofString "run", .d (.list (st.2.2.map pt))), (Str.ofString "x", .d (.int x)), (Str.ofString "y", .d (.int y))])
    F₂ ha trivial (ev_sliceL (ev_name F₂ rfl) (pt_some ev_int) pt_none pt_none (by simp) sz fun h vs r => by
      rw [List.map_drop]; exact pick_from 1 vs r) (fun _ h => nomatch h) (fun h' l => ⟨_, rfl, (F₂.le l).mono (pick_all ?_)⟩) (fun i => Steady.ex fun st => Steady.const.and (Fm.steady F₂.keep)) ?_ ?_
  · exact List.forall_mem_cons.mpr ⟨rfl, List.forall_mem_cons.mpr ⟨rfl, List.forall_mem_cons.mpr ⟨rfl, List.forall_mem_cons.mpr ⟨rfl, List.forall_mem_cons.mpr ⟨rfl, List.forall_mem_nil _⟩⟩⟩⟩⟩
  · rintro i dd v h tk hd hv ⟨st, hst, Fh⟩ he
    rw [List.getElem?_map] at hd
    obtain ⟨p, hp, rfl⟩ := Option.map_eq_some_iff.mp hd
    have hne : row ≠ [] := by rintro rfl; simp at hp
    have ht1 : row.take 1 ≠ [] := by
      cases row with
      | nil => exact absurd rfl hne
      | cons a r => simp
    have hpm : p ∈ row := List.mem_of_mem_drop (List.mem_of_getElem? hp)
    have inv := turn_run x y ((row.drop 1).take i) ([], 0, row.take 1) ht1 (fun q hq => hnear q (List.mem_of_mem_take hq)) fun q hq => hnear q (List.mem_of_mem_drop (List.mem_of_mem_take hq))
    rw [← hst] at inv
    obtain ⟨inv1, inv2, inv3⟩ := inv
    have hnext : ((row.drop 1).take (i + 1)).foldl (turnStep x y) ([], 0, row.take 1) = turnStep x y st p := by
      rw [List.take_add_one (l := row.drop 1), hp, List.foldl_append, ← hst]; rfl
    obtain ⟨turned, pairs, run⟩ := st
    dsimp only at Fh inv1 inv2 inv3
    obtain ⟨q, hq⟩ : ∃ q, run.getLast? = some q := by
      cases hl : run.getLast? with
      | none => exact absurd (List.getLast?_eq_none_iff.mp hl) inv1
      | some q => exact ⟨q, rfl⟩
    have hqn : Near q := inv2 q (List.mem_of_getLast? hq)
    have hpn : Near p := hnear p hpm
    obtain ⟨p1, p2, p3, p4⟩ := hpn
    obtain ⟨q1, q2, q3, q4⟩ := hqn
    have hql : (run.map pt).getLast? = some (pt q) := by rw [List.getLast?_map, hq]; rfl
    have lens : turned.length + run.length ≤ 64 := by
      simp only [List.length_nil, List.length_take, List.length_drop] at inv3
      omega
    have big : (64 : Nat) + 64 + 1 ≤ sizeLine := by decide
    refine asg1 Fh (.inl rfl) hv fun h₃ tk₃ g₃ gs₃ F₃ => ?_
    have fin : ∀ (t' r' : List P2) (pr' : Nat) (h₄ : Heap) (tk₄ : Nat), Fm w mg mb s.heap [] (eTurn s.heap.objs.size) h₄ [(Str.ofString "turned", .d (.list (t'.map pt))), (Str.ofString "run", .d (.list (r'.map pt))), (Str.ofString "pairs", .d (.int pr')), (Str.ofString "place", .d (pt p)), (Str.ofString "x", .d (.int x)), (Str.ofString "y", .d (.int y))] →
        Eff (eTurn s.heap.objs.size) [] h h₄ → r'.length ≤ 64 → turnStep x y (turned, pairs, run) p = (t', pr' + r'.length, r' ++ [p]) → ∀ st, st = (match stAt 25 with | .FunctionDef _ _ [_, .For _ _ [_, a, b] _ _, _] _ _ _ _ _ _ _ => [a, b] | _ => []) →
        wpAny (model pr w) (A.deeper (eTurn s.heap.objs.size)) (execs st (eTurn s.heap.objs.size)) (TurnEnd (eTurn s.heap.objs.size) [] (fun h => ∃ st : List P2 × Nat × List P2, st = ((row.drop 1).take (i + 1)).foldl (turnStep x y) ([], 0, row.take 1) ∧
          Fm w mg mb s.heap [] (eTurn s.heap.objs.size) h [(Str.ofString "turned", .d (.list (st.1.map pt))), (Str.ofString "pairs", .d (.int st.2.1)), (Str.ofString "run", .d (.list (st.2.2.map pt))), (Str.ofString "x", .d (.int x)), (Str.ofString "y", .d (.int y))]) { s with heap := h₂, toks := tk₂ } h fun f s' => Q (match f with | .ret v => v | _ => .none) s') (fun _ _ => False) { s with heap := h₄, toks := tk₄ } := by
      intro t' r' pr' h₄ tk₄ F₄ g₄ rl hstep st est
      subst est
      refine sx_aug F₄ ha (d₁ := .int pr') (d₂ := .int (r'.map pt).length) rfl rfl (ev_lenL F₄ (ev_name F₄ rfl) (by rw [List.length_map]; omega)) aug_addI fun h₅ tk₅ g₅ gs₅ F₅ => ?_
      refine sx_assign F₅ ha (ev_addL (ev_name F₅ rfl) (ev_list (evd_cons (ev_name F₅ rfl) evd_nil)) (by
        rw [List.length_map]; simp only [List.length_cons, List.length_nil]; omega)) (.inl rfl) fun h₆ tk₆ g₆ gs₆ F₆ => ?_
      refine sx_nil ⟨h₆, tk₆, rfl, ⟨_, rfl, ?_⟩, g₄.trans (g₅.trans g₆)⟩
      rw [hnext, hstep]
      have e1 : r'.map pt ++ [pt p] = (r' ++ [p]).map pt := by simp
      have e2 : (pr' : Int) + ((r'.map pt).length : Int) = ((pr' + r'.length : Nat) : Int) := by rw [List.length_map]; omega
      rw [e1] at F₆
      rw [e2] at F₆
      exact F₆.mono (pick_all (List.forall_mem_cons.mpr ⟨rfl, List.forall_mem_cons.mpr ⟨rfl, List.forall_mem_cons.mpr ⟨rfl, List.forall_mem_cons.mpr ⟨rfl, List.forall_mem_cons.mpr ⟨rfl, List.forall_mem_nil _⟩⟩⟩⟩⟩))
    have last : ∀ (j : Nat) (jd : Int) (hj : [PyData.int q.1, PyData.int q.2][j]? = some (.int jd)) (p₁ p₂ p₃ p₄ p₅ p₆ : Pos) (k₁ k₂ : Nat), Ev w (k + 1) (eTurn s.heap.objs.size) h₃ (.Subscript (.Subscript (.Name (Str.ofString "run") p₁) (.UnaryOp .USub (.Constant (.int 1) k₁ p₂) p₃) p₄) (.Constant (.int (j : Int)) k₂ p₅) p₆) (D (.int jd)) := by
      intro j jd hj p₁ p₂ p₃ p₄ p₅ p₆ k₁ k₂
      have jlt : j < 2 := by
        rcases Nat.lt_or_ge j 2 with h | h
        · exact h
        · rw [List.getElem?_eq_none (by simpa using h)] at hj; cases hj
      exact ev_itemL (ev_lastL (ev_name F₃ rfl) (ev_negI ev_int) hql) ev_int (by omega) (by simpa using hj) (by omega)
    refine sx_if ha (tv_neI (ev_mulI (ev_subI (ev_itemL (ev_name F₃ rfl) ev_int (by decide) rfl (by decide)) (last 1 q.2 rfl _ _ _ _ _ _ _ _)) (ev_name F₃ rfl) (mulOk (by omega) (by omega) (by omega) (by omega)))
      (ev_mulI (ev_subI (ev_itemL (ev_name F₃ rfl) ev_int (by decide) rfl (by decide)) (last 0 q.1 rfl _ _ _ _ _ _ _ _)) (ev_name F₃ rfl) (mulOk (by omega) (by omega) (by omega) (by omega)))) (fun hc h₄ tk₄ l₄ => ?_) fun hc h₄ tk₄ l₄ => ?_
    · have F₄ := F₃.le l₄
      have hc : (p.2 - q.2) * y ≠ (p.1 - q.1) * x := by simpa using hc
      refine sx_pair (d := .list ((turned ++ run.reverse).map pt)) (f := .list []) F₄ ha (ev_tuple (evd_cons ?_ (evd_cons (ev_list evd_nil) evd_nil))) (.inl rfl) (.inl rfl) fun h₅ tk₅ g₅ gs₅ F₅ => ?_
      · rw [List.map_append, List.map_reverse]
        exact ev_addL (ev_name F₄ rfl) (ev_sliceL (ev_name F₄ rfl) pt_none pt_none (pt_some (ev_negI ev_int)) (by simp) (by rw [List.length_map]; omega) fun h vs r => pick_rev vs r) (by simp only [List.length_map, List.length_reverse]; omega)
      · refine sx_nil (fin (turned ++ run.reverse) [] pairs h₅ tk₅ (F₅.mono (pick_all ?_)) (g₃.trans ((Eff.of_le l₄).trans g₅)) (by simp) ?_ _ rfl)
        · exact List.forall_mem_cons.mpr ⟨rfl, List.forall_mem_cons.mpr ⟨rfl, List.forall_mem_cons.mpr ⟨rfl, List.forall_mem_cons.mpr ⟨rfl, List.forall_mem_cons.mpr ⟨rfl, List.forall_mem_cons.mpr ⟨rfl, List.forall_mem_nil _⟩⟩⟩⟩⟩⟩
        · unfold turnStep
          simp only [hq, Option.getD_some]
          rw [if_pos hc]; simp
    · have F₄ := F₃.le l₄
      have hc : (p.2 - q.2) * y = (p.1 - q.1) * x := by simpa using hc
      refine sx_nil (fin turned run pairs h₄ tk₄ (F₄.mono (pick_all ?_)) (g₃.trans (Eff.of_le l₄)) (by omega) ?_ _ rfl)
      · exact List.forall_mem_cons.mpr ⟨rfl, List.forall_mem_cons.mpr ⟨rfl, List.forall_mem_cons.mpr ⟨rfl, List.forall_mem_cons.mpr ⟨rfl, List.forall_mem_cons.mpr ⟨rfl, List.forall_mem_cons.mpr ⟨rfl, List.forall_mem_nil _⟩⟩⟩⟩⟩⟩
      · unfold turnStep
        simp only [hq, Option.getD_some]
        rw [if_neg (fun h => h hc)]
  · rintro h tk ⟨st, hst, Fh⟩ he
    have e : (row.drop 1).take ((row.drop 1).map pt).length = row.drop 1 := by rw [List.length_map, List.take_length]
    rw [e] at hst
    have ef : turnF x y row = (st.1 ++ st.2.2.reverse, st.2.1) := by unfold turnF; rw [← hst]
    have big : (64 : Nat) + 64 + 1 ≤ sizeLine := by decide
    have lens : st.1.length + st.2.2.length ≤ 64 := by
      have : ∀ (l : List P2) (st : List P2 × Nat × List P2), (l.foldl (turnStep x y) st).1.length + (l.foldl (turnStep x y) st).2.2.length ≤ st.1.length + st.2.2.length + l.length := by
        intro l
        induction l with
        | nil => intro st; simp
        | cons p l ih =>
          intro st
          have h1 := ih (turnStep x y st p)
          have h2 : (turnStep x y st p).1.length + (turnStep x y st p).2.2.length ≤ st.1.length + st.2.2.length + 1 := by
            unfold turnStep
            split <;> simp <;> omega
          simp only [List.foldl_cons, List.length_cons]
          omega
      have := this (row.drop 1) ([], 0, row.take 1)
      rw [← hst] at this
      simp only [List.length_nil, List.length_take, List.length_drop] at this
      omega
    refine sx_ret ha (ev_tuple (evd_cons (d := .list ((st.1 ++ st.2.2.reverse).map pt)) ?_ (evd_cons (ev_name Fh rfl) evd_nil))) fun v h' tk l r => ?_
    · rw [List.map_append, List.map_reverse]
      exact ev_addL (ev_name Fh rfl) (ev_sliceL (ev_name Fh rfl) pt_none pt_none (pt_some (ev_negI ev_int)) (by simp) (by rw [List.length_map]; omega) fun h vs r => pick_rev vs r) (by simp only [List.length_map, List.length_reverse]; omega)
    · refine hq v h' tk (Fh.le l).keep ?_
      rw [ef]; exact r
end
end Mine

namespace Mine
section
variable {w : World} {mg mb : Str → Option Value} {B : Heap} {W : List Str} {env : Env} {Δ : List (Str × Slot)} {k : Nat} {h₀ : Heap} {pos : Pos} {e : Expr} {x y : Str} {R : Value → Heap → Prop}
theorem tv_plain {b : Bool} (p : Ev w k env h₀ e (D (.bool b))) (he : isTrue e env (eval e env) = (do let v ← eval e env; standAt e.pos; holding [v] (truthy v)) := by rfl) : Tv w k env h₀ e b := by
  intro A s Q E ha hle hq
  refine isTrue_plain (p A s _ E ha hle fun v h' tk l r => ?_) he
  obtain rfl := Rd.bool_inv r
  exact wpAny_truthy_bool (hq h' tk l)
theorem tv_str (p : Ev w k env h₀ e (D (.str x))) (hz : x.length ≤ 1000000) (he : isTrue e env (eval e env) = (do let v ← eval e env; standAt e.pos; holding [v] (truthy v)) := by rfl) : Tv w k env h₀ e ((x.length : Int) != 0) := by
  intro A s Q E ha hle hq
  refine isTrue_plain (p A s _ E ha hle fun v h' tk l r => ?_) he
  obtain ⟨t, rfl⟩ := Rd.str_inv r
  exact P.truthy_str (by omega) (hq h' _ l)
theorem part_value {v : Value} {o : Option Int} (h : IsPart v o) : ∃ l : Option (Int × Tok), v = partValue l ∧ l.map (·.1) = o := by
  cases h with
  | none => exact ⟨none, rfl, rfl⟩
  | int i t => exact ⟨some (i, t), rfl, rfl⟩
theorem ev_sliceS {value : Expr} {lower upper : Option Expr} {lo hi : Option Int} {sp : Pos} (p : Ev w k env h₀ value (D (.str x))) (p₁ : Pt w k env h₀ lower lo) (p₂ : Pt w k env h₀ upper hi) (hz : x.length ≤ sizeLine)
    (hs : ∀ o i, ∃ ops, subscripted (.Slice lower upper none sp) false o i = operate ops (getItem o i) := by intro _ _; exact ⟨_, rfl⟩) : Ev w k env h₀ (.Subscript value (.Slice lower upper none sp) pos) (D (.str (Txt.slice x lo hi))) := by
  refine ev_sub p (ev_sliceObj p₁ p₂ pt_none) D.mono (fun o j h₃ _ ro ri => ?_) hs
  obtain ⟨t, rfl⟩ := Rd.str_inv ro
  obtain ⟨c, vl, vu, vt, rfl, hsl, x₁, x₂, x₃⟩ := ri
  cases x₃
  obtain ⟨l, rfl, rfl⟩ := part_value x₁
  obtain ⟨u, rfl, rfl⟩ := part_value x₂
  refine ⟨"str", _, PySem.F.slot_str_getitem.lookup, fun s _ => typeIs_str s x t, fun A s Q E ha hle hq => ?_⟩
  obtain ⟨o, ho, hc, hd⟩ := hsl
  have fin : ∀ t' k', Q (.str (Txt.slice x (l.map (·.1)) (u.map (·.1))) t') { s with toks := k' } := fun t' k' => hq _ s.heap k' (.refl _) (.str _ _ _)
  refine wpAny_getItem_str_slice (l := l) (u := u) (st := none) ⟨o, hle _ _ ho, hc, hd⟩ rfl ?_
  cases l <;> cases u <;> exact post_val_or_str ⟨Nat.le_trans (Txt.slice_le x _ _) hz, fin⟩
theorem ev_m0 {o : Expr} {ap : Pos} {name : Str} (ho : Ev w k env h₀ o (D (.str x))) (hm : ∀ (A : Around) (t : Tok) (s : Shared) (Q : Value → Shared → Prop) (E : Value → Shared → Prop), AOk k A → (∀ v h' tk, Le s.heap h' → R v h' → Q v { s with heap := h', toks := tk }) → MethodOnS pr w A E name (.str x t) pos [] Q s)
    (hbase : attributeBase o name env (eval o env) = eval o env := by rfl) (hline : (ap.endLine == pos.line) = true := by rfl) : Ev w k env h₀ (.Call (.Attribute o name ap) [] [] pos) R := by
  intro A s Q E ha hle hq
  refine Call_method0 hbase hline (ho A s _ E ha hle fun v h₁ t₁ l₁ r₁ => ?_)
  obtain ⟨t, rfl⟩ := Rd.str_inv r₁
  exact hm A t _ Q E ha fun v h' tk l r => hq v h' tk (l₁.trans l) r
theorem ev_rstrip {o : Expr} {ap : Pos} (ho : Ev w k env h₀ o (D (.str x))) (hz : x.length ≤ sizeLine) (hbase : attributeBase o (Str.ofString "rstrip") env (eval o env) = eval o env := by rfl) (hline : (ap.endLine == pos.line) = true := by rfl) :
    Ev w k env h₀ (.Call (.Attribute o (Str.ofString "rstrip") ap) [] [] pos) (D (.str (Txt.rstrip x))) :=
  ev_m0 ho (fun A t s Q E ha hq => SB.rstrip (fun t' k' => hq _ s.heap k' (.refl _) (.str _ _ _)) hz) hbase hline
theorem ev_splitlines {o : Expr} {ap : Pos} (ho : Ev w k env h₀ o (D (.str x))) (hz : x.length ≤ sizeLine) (hl : (lineCuts x == [(0, x.length)]) = true) (hbase : attributeBase o (Str.ofString "splitlines") env (eval o env) = eval o env := by rfl) (hline : (ap.endLine == pos.line) = true := by rfl) :
    Ev w k env h₀ (.Call (.Attribute o (Str.ofString "splitlines") ap) [] [] pos) (D (.list [.str x])) := by
  refine ev_m0 ho (fun A t s Q E ha hq => ⟨"str", "str.splitlines", PySem.F.plainAttrs_str, PySem.F.slot_str_splitlines, PySem.F.type_str_splitlines, typeIs_str _ _ _, (fun _ e => nomatch e), ?_⟩) hbase hline
  refine Calls.callWith_builtin rfl (PySem.evalArgs_none ?_)
  show wpAny _ A (call (.builtin "str.splitlines") [.str x t]) Q E s
  have hl2 : (lineCuts x).length ≤ sizeLine := by
    rw [beq_iff_eq.mp hl]; exact (show 1 ≤ sizeLine by decide)
  refine call_meets PySem.F.slot_str_splitlines (typeIs_str _ _ _) PySem.F.entry_str_splitlines (PySem.F.args_str_splitlines_1 _) (meets_str_splitlines x t hz hl2) ?_
  show if (lineCuts x == [(0, x.length)]) = true then listOfItself x t A _ s else _
  rw [if_pos hl]
  refine hq _ _ s.toks (Le.push _ _) (.list (Heap.get?_push_size _ rfl) rfl rfl ?_)
  simpa using RdL.cons (.str _ x t) (.nil _)
theorem ev_endswith {o a : Expr} {ap : Pos} (ho : Ev w k env h₀ o (D (.str x))) (hp : Ev w k env h₀ a (D (.str y))) (hse : starEach [a] env = [(false, eval a env)] := by rfl) (hbase : attributeBase o (Str.ofString "endswith") env (eval o env) = eval o env := by rfl) (hline : (ap.endLine == pos.line) = true := by rfl) :
    Ev w k env h₀ (.Call (.Attribute o (Str.ofString "endswith") ap) [a] [] pos) (D (.bool (Txt.endswith x y))) := by
  intro A s Q E ha hle hq
  refine Call_method1 hbase hse hline (ho A s _ E ha hle fun v h₁ t₁ l₁ r₁ => ?_)
  obtain ⟨t, rfl⟩ := Rd.str_inv r₁
  refine SB.endswith (hp A _ _ E ha (hle.trans l₁) fun v h₂ t₂ l₂ r₂ => ?_)
  obtain ⟨u, rfl⟩ := Rd.str_inv r₂
  exact ⟨y, u, rfl, hq _ h₂ t₂ (l₁.trans l₂) (.bool _ _)⟩
end
end Mine

namespace Mine
def hexD : Str := Str.ofString "0123456789abcdefABCDEF"
def crlf : Str := Str.ofString "\r\n"
def nl : Str := Str.ofString "\n"
def itemIs (x : Str) (i : Int) (f : Nat → Bool) : Bool := match (seqIndex? i x.length).bind (x.cps[·]?) with | some c => f c | none => false
/-- what decode needs of a text -/
structure DecOk (x : Str) (ns : List Nat) : Prop where
  len : x.length = 3 * ns.length
  one : 1 ≤ ns.length ∧ ns.length ≤ 2
  small : ∀ n ∈ ns, n < 256
  cuts : (lineCuts x == [(0, x.length)]) = true
  strip : Txt.rstrip x = x
  sign : ∀ j < ns.length, itemIs x (3 * (j : Int)) (fun c => c == 61) = true
  hex1 : ∀ j < ns.length, itemIs x (3 * (j : Int) + 1) (fun c => !(Builtin.Str.occurrences hexD ⟨#[c]⟩ 0 hexD.length 1).isEmpty) = true
  hex2 : ∀ j < ns.length, itemIs x (3 * (j : Int) + 2) (fun c => !(Builtin.Str.occurrences hexD ⟨#[c]⟩ 0 hexD.length 1).isEmpty) = true
  cut : ∀ j < ns.length, Txt.slice x (some (3 * (j : Int))) (some (3 * (j : Int) + 3)) = hexS (ns.getD j 0)
  last : itemIs x (-1) (fun c => !(!(Builtin.Str.occurrences crlf ⟨#[c]⟩ 0 crlf.length 1).isEmpty)) = true
  ends : Txt.endswith (⟨ns.toArray⟩ ++ nl) nl = true
  back : Txt.slice (⟨ns.toArray⟩ ++ nl) none (some (-1)) = ⟨ns.toArray⟩
theorem itemIs_get {x : Str} {i : Int} {f : Nat → Bool} (h : itemIs x i f = true) : ∃ c, (seqIndex? i x.length).bind (x.cps[·]?) = some c ∧ f c = true := by
  unfold itemIs at h
  split at h
  · rename_i c e; exact ⟨c, e, h⟩
  · cases h
noncomputable abbrev eDec (L : Nat) : Env := envOf (Str.ofString "decode") (defS (stAt 21)) L 92 (.ref 91)
section
variable {w : World} {mg mb : Str → Option Value} {k : Nat}
theorem k92 (w : World) : (K w.params).lookup 92 = some (fnO (Str.ofString "decode") (Str.ofString "decode") (stAt 21) (.ref 85) pmB 91) := by rfl
theorem k85 (w : World) : (K w.params).lookup 85 = some { cls := .type "tuple", data := .seq #[.str (Str.ofString "\n") 242] } := by rfl
theorem g_hexd (w : World) : nsIn (K w.params) mainGlobals (Str.ofString "hexdigits") = some (some (.str hexD 1285)) := by kernel_rfl
theorem decode_fn {x : Str} {ns : List Nat} (H : DecOk x ns) : Fn w mg mb (k + 3) (.ref 92) (Ds [.str x]) (D (.str ⟨ns.toArray⟩)) := by
  intro A s Q E vs ha X r hq
  obtain ⟨v₁, vs, rfl, r₁, r⟩ := r.cons_inv
  rw [r.nil_inv]
  refine enter (nm := Str.ofString "decode") (q := Str.ofString "decode") (st := stAt 21) (dV := .ref 85) (pm := pmB) (cd := 91) (binds := [(Str.ofString "encoded", v₁), (Str.ofString "eol", .str nl 242)]) (Δ := [(Str.ofString "encoded", .d (.str x)), (Str.ofString "eol", .d (.str nl))])
    X (k92 w) (by kernel_rfl) ha.room (binds_K X.X rfl (k85 w) rfl (by rfl) (by rfl)) (by kernel_rfl) (by rfl) (by rfl) (by rfl) (by decide +kernel) ?_ fun h₁ tk₁ F => ?_
  · intro x sl e
    have e := mem_of_lookup e
    simp only [List.mem_cons, List.not_mem_nil, or_false, Prod.mk.injEq] at e
    rcases e with ⟨rfl, rfl⟩ | ⟨rfl, rfl⟩
    · exact ⟨_, by rfl, r₁⟩
    · exact ⟨_, by rfl, .str _ _ _⟩
  have ha := ha.deeper (eDec s.heap.objs.size)
  have hl6 : x.length ≤ 6 := by rw [H.len]; have := H.one.2; omega
  have hl3 : 3 ≤ x.length := by rw [H.len]; have := H.one.1; omega
  have hz : x.length ≤ sizeLine := by rw [sizeLine_eq]; omega
  refine sx_if ha (tv_not (tv_str (ev_name F rfl) (by omega))) (fun hc => ?_) fun hc h₂ tk₂ l₂ => ?_
  · exfalso
    have : ¬ (x.length = 0) := by omega
    simp [this] at hc
  have F₂ := F.le l₂
  refine sx_nil (sx_assign F₂ ha ev_str (.inl rfl) fun h₃ tk₃ g₃ gs₃ F₃ => ?_)
  refine sx_forL (M := []) (ds := [.str x]) (J := fun i h => Fm w mg mb s.heap [] (eDec s.heap.objs.size) h [(Str.ofString "decoded", .d (.str (if i = 0 then Str.ofString "" else ⟨ns.toArray⟩ ++ nl))), (Str.ofString "encoded", .d (.str x)), (Str.ofString "eol", .d (.str nl))])
    F₃ ha trivial (ev_splitlines (ev_name F₃ rfl) hz H.cuts) (fun _ h => nomatch h) (fun h' l => (F₃.le l).mono (pick_all ?_)) (fun i => Fm.steady F₃.keep) ?_ ?_
  · exact List.forall_mem_cons.mpr ⟨rfl, List.forall_mem_cons.mpr ⟨rfl, List.forall_mem_cons.mpr ⟨rfl, List.forall_mem_nil _⟩⟩⟩
  · rintro i dd v h tk hd hv Fh he
    have hi : i = 0 := by
      rcases Nat.eq_zero_or_pos i with h | h
      · exact h
      · rw [List.getElem?_eq_none (by simp only [List.length_cons, List.length_nil]; omega)] at hd; cases hd
    subst hi
    simp at hd
    subst hd
    rw [if_pos rfl] at Fh
    refine asg1 Fh (.inl rfl) hv fun h₄ tk₄ g₄ gs₄ F₄ => ?_
    refine sx_assign F₄ ha (ev_rstrip (ev_name F₄ rfl) hz) (.inl rfl) fun h₅ tk₅ g₅ gs₅ F₅ => ?_
    rw [H.strip] at F₅
    refine sx_if ha (tv_not (tv_str (ev_name F₅ rfl) (by omega))) (fun hc => ?_) fun hc h₆ tk₆ l₆ => ?_
    · exfalso
      have : ¬ (x.length = 0) := by omega
      simp [this] at hc
    have F₆ := F₅.le l₆
    refine sx_nil (sx_assign F₆ ha ev_int (.inl rfl) fun h₇ tk₇ g₇ gs₇ F₇ => ?_)
    refine sx_assign F₇ ha (ev_lenS F₇ (ev_name F₇ rfl) (by omega)) (.inl rfl) fun h₈ tk₈ g₈ gs₈ F₈ => ?_
    refine sx_while (M := []) (J := fun n h => ∃ j : Nat, j ≤ ns.length ∧ n = ns.length - j ∧ Fm w mg mb s.heap [] (eDec s.heap.objs.size) h [(Str.ofString "i", .d (.int (3 * (j : Int)))), (Str.ofString "decoded", .d (.str (if j = ns.length then ⟨ns.toArray⟩ ++ nl else ⟨(ns.take j).toArray⟩))), (Str.ofString "line", .d (.str x)), (Str.ofString "n", .d (.int x.length)), (Str.ofString "encoded", .d (.str x)), (Str.ofString "eol", .d (.str nl))])
      _ ha ⟨0, Nat.zero_le _, rfl, ?_⟩ ?_
    · have : ¬ (0 = ns.length) := by have := H.one.1; omega
      rw [if_neg this]
      exact F₈.mono (pick_all (List.forall_mem_cons.mpr ⟨rfl, List.forall_mem_cons.mpr ⟨rfl, List.forall_mem_cons.mpr ⟨rfl, List.forall_mem_cons.mpr ⟨rfl, List.forall_mem_cons.mpr ⟨rfl, List.forall_mem_cons.mpr ⟨rfl, List.forall_mem_nil _⟩⟩⟩⟩⟩⟩))
    · rintro n h₉ ⟨j, hj, rfl, F₉⟩ he₉
      refine ⟨_, tv_ltI (ev_name F₉ rfl) (ev_name F₉ rfl), fun hc h₁₀ tk₁₀ l₁₀ => ?_, fun hc h₁₀ tk₁₀ l₁₀ => ?_⟩
      · have hc : 3 * (j : Int) < x.length := by simpa using hc
        have hjl : j < ns.length := by have := H.len; omega
        have hlen := H.len
        have F₁₀ := F₉.le l₁₀
        rw [if_neg (by omega)] at F₁₀
        obtain ⟨c, hcc, hcv⟩ := itemIs_get (H.sign j hjl)
        have hcv : c = 61 := by simpa using hcv
        subst hcv
        obtain ⟨c₁, hc₁, hv₁⟩ := itemIs_get (H.hex1 j hjl)
        obtain ⟨c₂, hc₂, hv₂⟩ := itemIs_get (H.hex2 j hjl)
        have small : ∀ i : Int, 0 ≤ i → i ≤ 100 → (decide (i < -(2 ^ 63 : Int)) || decide (i ≥ 2 ^ 63)) = false := by
          intro i h0 h1
          rw [decide_eq_false (by omega), decide_eq_false (by omega)]; rfl
        refine sx_assign F₁₀ ha (ev_itemS (ev_name F₁₀ rfl) (ev_name F₁₀ rfl) (small _ (by omega) (by omega)) hcc) (.inl rfl) fun h₁₁ tk₁₁ g₁₁ gs₁₁ F₁₁ => ?_
        refine sx_if ha (tv_neS (ev_name F₁₁ rfl) ev_str) (fun h => absurd h (by decide)) fun _ h₁₂ tk₁₂ l₁₂ => ?_
        have F₁₂ := F₁₁.le l₁₂
        refine sx_if ha (tv_eqI (ev_addI (ev_name F₁₂ rfl) ev_int) (ev_name F₁₂ rfl)) (fun hc => ?_) fun _ h₁₃ tk₁₃ l₁₃ => ?_
        · exfalso
          have hc : 3 * (j : Int) + 1 = x.length := by simpa using hc
          omega
        have F₁₃ := F₁₂.le l₁₃
        have hexd : ∀ (h : Heap) (p : Pos), Fm w mg mb s.heap [] (eDec s.heap.objs.size) h [(Str.ofString "c", .d (.str ⟨#[61]⟩)), (Str.ofString "i", .d (.int (3 * (j : Int)))), (Str.ofString "decoded", .d (.str ⟨(ns.take j).toArray⟩)), (Str.ofString "line", .d (.str x)), (Str.ofString "n", .d (.int x.length)), (Str.ofString "encoded", .d (.str x)), (Str.ofString "eol", .d (.str nl))] →
            Ev w (k + 2) (eDec s.heap.objs.size) h (.Name (Str.ofString "hexdigits") p) (D (.str hexD)) := fun h p F => (ev_global F (g_hexd w)).mono fun v h' _ e => by subst e; exact .str _ _ _
        refine sx_if ha (tv_and3 (tv_ltI (ev_addI (ev_name F₁₃ rfl) ev_int) (ev_name F₁₃ rfl)) fun _ => tv_and (tv_inS (ev_itemS (ev_name F₁₃ rfl) (ev_addI (ev_name F₁₃ rfl) ev_int) (small _ (by omega) (by omega)) hc₁) (hexd _ _ F₁₃)) fun _ => tv_and1 (tv_inS (ev_itemS (ev_name F₁₃ rfl) (ev_addI (ev_name F₁₃ rfl) ev_int) (small _ (by omega) (by omega)) hc₂) (hexd _ _ F₁₃)))
          (fun _ h₁₄ tk₁₄ l₁₄ => ?_) fun hc => ?_
        · have F₁₄ := F₁₃.le l₁₄
          obtain ⟨n, hn⟩ : ∃ n, ns[j]? = some n := ⟨ns[j], by simp [hjl]⟩
          have hgd : ns.getD j 0 = n := by rw [List.getD_eq_getElem?_getD, hn]; rfl
          have hn256 : n < 256 := H.small n (List.mem_of_getElem? hn)
          have hcut := H.cut j hjl
          rw [hgd] at hcut
          have cut : ∀ p₁ p₂ p₃ p₄ p₅ p₆ kk, Ev w (k + 2) (eDec s.heap.objs.size) h₁₄ (.Subscript (.Name (Str.ofString "line") p₁) (.Slice (some (.Name (Str.ofString "i") p₂)) (some (.BinOp (.Name (Str.ofString "i") p₃) .Add (.Constant (.int 3) kk p₄) p₅)) none p₆) p₁) (D (.str (hexS n))) := by
            intro p₁ p₂ p₃ p₄ p₅ p₆ kk
            rw [← hcut]
            exact ev_sliceS (ev_name F₁₄ rfl) (pt_some (ev_name F₁₄ rfl)) (pt_some (ev_addI (ev_name F₁₄ rfl) ev_int)) hz
          have cut' := fun p₁ p₂ p₃ p₄ p₅ p₆ p₇ kk => (by
            have := ev_sliceS (w := w) (k := k + 2) (env := eDec s.heap.objs.size) (h₀ := h₁₄) (pos := p₇) (sp := p₆) (ev_name (pos := p₁) F₁₄ (x := Str.ofString "line") (d := .str x) rfl) (pt_some (ev_name (pos := p₂) F₁₄ (x := Str.ofString "i") (d := .int (3 * (j : Int))) rfl)) (pt_some (ev_addI (pos := p₅) (ev_name (pos := p₃) F₁₄ (x := Str.ofString "i") (d := .int (3 * (j : Int))) rfl) (ev_int (i := 3) (kk := kk) (pos := p₄)))) hz
            rw [hcut] at this
            exact this)
          refine sx_aug F₁₄ ha (d₁ := .str ⟨(ns.take j).toArray⟩) (d₂ := .str ⟨#[n]⟩) rfl rfl (ev_unquote F₁₄ hn256 (cut' _ _ _ _ _ _ _ _)) (aug_addS ?_) fun h₁₅ tk₁₅ g₁₅ gs₁₅ F₁₅ => ?_
          · show (ns.take j).toArray.size + 1 ≤ sizeLine
            rw [List.size_toArray, List.length_take, sizeLine_eq]
            have := H.one.2
            omega
          have etake : (⟨(ns.take j).toArray⟩ : Str) ++ ⟨#[n]⟩ = ⟨(ns.take (j + 1)).toArray⟩ := by
            show Str.mk ((ns.take j).toArray ++ #[n]) = _
            rw [List.take_add_one, hn]; simp
          rw [etake] at F₁₅
          refine sx_aug F₁₅ ha (d₁ := .int (3 * (j : Int))) (d₂ := .int 3) rfl rfl ev_int aug_addI fun h₁₆ tk₁₆ g₁₆ gs₁₆ F₁₆ => ?_
          have e3 : 3 * (j : Int) + 3 = 3 * ((j + 1 : Nat) : Int) := by omega
          rw [e3] at F₁₆
          refine sx_nil (sx_nil (sx_nil ?_))
          have effs : Eff (eDec s.heap.objs.size) [] h₉ h₁₆ := (Eff.of_le l₁₀).trans (g₁₁.trans ((Eff.of_le l₁₂).trans ((Eff.of_le l₁₃).trans ((Eff.of_le l₁₄).trans (g₁₅.trans g₁₆)))))
          refine sx_if ha (tv_eqI (ev_name F₁₆ rfl) (ev_name F₁₆ rfl)) (fun hc h₁₇ tk₁₇ l₁₇ => ?_) fun hc h₁₇ tk₁₇ l₁₇ => ?_
          · have F₁₇ := F₁₆.le l₁₇
            have hc : 3 * ((j + 1 : Nat) : Int) = x.length := by simpa using hc
            have hjn : j + 1 = ns.length := by omega
            rw [hjn, List.take_length] at F₁₇
            refine sx_aug F₁₇ ha (d₁ := .str ⟨ns.toArray⟩) (d₂ := .str nl) rfl rfl (ev_name F₁₇ rfl) (aug_addS ?_) fun h₁₈ tk₁₈ g₁₈ gs₁₈ F₁₈ => ?_
            · show ns.toArray.size + 1 ≤ sizeLine
              rw [List.size_toArray, sizeLine_eq]
              have := H.one.2
              omega
            refine sx_nil (sx_nil ⟨h₁₈, tk₁₈, rfl, ⟨_, (by omega : ns.length - (j + 1) < ns.length - j), j + 1, by omega, rfl, ?_⟩, effs.trans ((Eff.of_le l₁₇).trans g₁₈)⟩)
            rw [if_pos hjn, hjn]
            exact F₁₈.mono (pick_all (List.forall_mem_cons.mpr ⟨rfl, List.forall_mem_cons.mpr ⟨rfl, List.forall_mem_cons.mpr ⟨rfl, List.forall_mem_cons.mpr ⟨rfl, List.forall_mem_cons.mpr ⟨rfl, List.forall_mem_cons.mpr ⟨rfl, List.forall_mem_nil _⟩⟩⟩⟩⟩⟩))
          · have F₁₇ := F₁₆.le l₁₇
            have hc : ¬ (3 * ((j + 1 : Nat) : Int) = x.length) := by simpa using hc
            have hjn : ¬ (j + 1 = ns.length) := by omega
            refine sx_nil (sx_nil ⟨h₁₇, tk₁₇, rfl, ⟨_, (by omega : ns.length - (j + 1) < ns.length - j), j + 1, by omega, rfl, ?_⟩, effs.trans (Eff.of_le l₁₇)⟩)
            rw [if_neg hjn]
            exact F₁₇.mono (pick_all (List.forall_mem_cons.mpr ⟨rfl, List.forall_mem_cons.mpr ⟨rfl, List.forall_mem_cons.mpr ⟨rfl, List.forall_mem_cons.mpr ⟨rfl, List.forall_mem_cons.mpr ⟨rfl, List.forall_mem_cons.mpr ⟨rfl, List.forall_mem_nil _⟩⟩⟩⟩⟩⟩))
        · exfalso
          rw [hv₁, hv₂] at hc
          have : decide (3 * (j : Int) + 2 < x.length) = true := decide_eq_true (by omega)
          rw [this] at hc
          cases hc
      · have hc : ¬ (3 * (j : Int) < x.length) := by simpa using hc
        have hlen := H.len
        have hjn : j = ns.length := by omega
        have F₁₀ := F₉.le l₁₀
        rw [if_pos hjn] at F₁₀
        refine sx_nil ⟨h₁₀, tk₁₀, rfl, ?_, g₄.trans (g₅.trans ((Eff.of_le l₆).trans (g₇.trans (g₈.trans (he₉.trans (Eff.of_le l₁₀))))))⟩
        show Fm w mg mb s.heap [] (eDec s.heap.objs.size) h₁₀ [(Str.ofString "decoded", .d (.str (⟨ns.toArray⟩ ++ nl))), (Str.ofString "encoded", .d (.str x)), (Str.ofString "eol", .d (.str nl))]
        exact F₁₀.mono (pick_all (List.forall_mem_cons.mpr ⟨rfl, List.forall_mem_cons.mpr ⟨rfl, List.forall_mem_cons.mpr ⟨rfl, List.forall_mem_nil _⟩⟩⟩))
  · intro h tk Fh he
    have Fh : Fm w mg mb s.heap [] (eDec s.heap.objs.size) h [(Str.ofString "decoded", .d (.str (⟨ns.toArray⟩ ++ nl))), (Str.ofString "encoded", .d (.str x)), (Str.ofString "eol", .d (.str nl))] := Fh
    obtain ⟨c, hcc, hcv⟩ := itemIs_get H.last
    have hz2 : ((⟨ns.toArray⟩ : Str) ++ nl).length ≤ sizeLine := by
      show (ns.toArray ++ nl.cps).size ≤ sizeLine
      rw [Array.size_append, List.size_toArray, sizeLine_eq]
      have h1 := H.one.2
      have h2 : nl.cps.size = 1 := by rfl
      omega
    refine sx_if ha (tv_and (tv_notInS (ev_itemS (ev_name Fh rfl) (ev_negI ev_int) (by decide) hcc) ev_str) fun _ => tv_and1 (tv_plain (ev_endswith (ev_name Fh rfl) (ev_name Fh rfl)))) (fun _ h₄ tk₄ l₄ => ?_) fun hc => ?_
    · have F₄ := Fh.le l₄
      have back := fun p₁ p₂ p₃ p₄ p₅ p₆ p₇ => (by
        have := ev_sliceS (w := w) (k := k + 2) (env := eDec s.heap.objs.size) (h₀ := h₄) (pos := p₇) (sp := p₆) (ev_name (pos := p₁) F₄ (x := Str.ofString "decoded") (d := .str (⟨ns.toArray⟩ ++ nl)) rfl) pt_none (pt_some (ev_negI (pos := p₂) (ev_lenS (pos := p₃) (p := p₄) F₄ (ev_name (pos := p₅) F₄ (x := Str.ofString "eol") (d := .str nl) rfl) (by decide)))) hz2
        have e : (-(nl.length : Int)) = -1 := by rfl
        rw [e, H.back] at this
        exact this)
      refine sx_assign F₄ ha (back _ _ _ _ _ _ _) (.inl rfl) fun h₅ tk₅ g₅ gs₅ F₅ => ?_
      refine sx_nil (sx_ret ha (ev_name F₅ rfl) fun v h' tk l r => hq v h' tk (F₅.le l).keep r)
    · exfalso
      have hcv : (!(!(Builtin.Str.occurrences crlf ⟨#[c]⟩ 0 crlf.length 1).isEmpty)) = true := hcv
      rw [H.ends] at hc
      have hc' : ((!(!(Builtin.Str.occurrences crlf ⟨#[c]⟩ 0 crlf.length 1).isEmpty)) && true) = false := hc
      rw [hcv] at hc'
      cases hc'
end
end Mine

namespace Mine
def putK (kv : List (Str × Int)) (k : Str) (n : Int) : List (Str × Int) :=
  if kv.any (fun p => p.1 = k) then kv.map (fun p => if p.1 = k then (p.1, n) else p) else kv ++ [(k, n)]
def getK (kv : List (Str × Int)) (k : Str) : Option Int := (kv.find? fun p => p.1 = k).map (·.2)
def bare (vals : List (Str × Int × Tok)) : List (Str × Int) := vals.map fun x => (x.1, x.2.1)
/-- a dict of texts and ints stands at a -/
def DInt (w : World) (h : Heap) (a : Addr) (kv : List (Str × Int)) : Prop := 3 < a ∧ ∃ vals : List (Str × Int × Tok), h.DictOf (strKind pr w) a (intPairs vals) ∧ bare vals = kv
theorem intAt_bare (vals : List (Str × Int × Tok)) (k : Str) : PySem.intAt vals k = getK (bare vals) k := by
  induction vals with
  | nil => rfl
  | cons x l ih =>
    unfold PySem.intAt getK bare at ih ⊢
    simp only [List.map_cons, List.find?_cons]
    by_cases h : x.1 = k
    · simp [h]
    · simp only [h, decide_false]
      exact ih
theorem stored_bare (vals : List (Str × Int × Tok)) (k : Str) (n : Int) (t : Tok) : ∃ vals', stored (intPairs vals) k (.int n t) = intPairs vals' ∧ bare vals' = putK (bare vals) k n := by
  have e1 : (intPairs vals).any (fun kv => kv.1 = k) = vals.any (fun x => x.1 = k) := by unfold intPairs; rw [List.any_map]; rfl
  have e2 : (bare vals).any (fun p => p.1 = k) = vals.any (fun x => x.1 = k) := by unfold bare; rw [List.any_map]; rfl
  by_cases h : vals.any (fun x => x.1 = k) = true
  · refine ⟨vals.map fun x => if x.1 = k then (x.1, n, t) else x, ?_, ?_⟩
    · unfold stored
      rw [e1, if_pos h]
      unfold intPairs
      rw [List.map_map, List.map_map]
      refine List.map_congr_left fun x _ => ?_
      simp only [Function.comp_apply]
      split <;> rfl
    · unfold putK
      rw [e2, if_pos h]
      unfold bare
      rw [List.map_map, List.map_map]
      refine List.map_congr_left fun x _ => ?_
      simp only [Function.comp_apply]
      split <;> rfl
  · refine ⟨vals ++ [(k, n, t)], ?_, ?_⟩
    · unfold stored
      rw [e1, if_neg h]
      unfold intPairs
      rw [List.map_append]; rfl
    · unfold putK
      rw [e2, if_neg h]
      unfold bare
      rw [List.map_append]; rfl
section
variable {w : World} {mg mb : Str → Option Value} {B : Heap} {W : List Str} {env : Env} {Δ : List (Str × Slot)} {k : Nat} {A : Around} {s : Shared} {h₀ : Heap} {pos : Pos}
theorem DInt.at {h h' : Heap} {a : Addr} {kv : List (Str × Int)} (x : DInt w h a kv) (e : ∀ o, h.get? a = some o → h'.get? a = some o) : DInt w h' a kv := by
  obtain ⟨h3, vals, hd, hb⟩ := x
  exact ⟨h3, vals, hd.at e, hb⟩
theorem DInt.le {h h' : Heap} {a : Addr} {kv : List (Str × Int)} (x : DInt w h a kv) (l : Le h h') : DInt w h' a kv := x.at fun o e => l a o e
theorem DInt.eff {M : List Addr} {h h' : Heap} {a : Addr} {kv : List (Str × Int)} (x : DInt w h a kv) (oa : Off env a) (hM : a ∉ M) (l : Eff env M h h') : DInt w h' a kv := x.at fun o e => l a o oa.1 oa.2 hM e
theorem DInt.live {h : Heap} {a : Addr} {kv : List (Str × Int)} (x : DInt w h a kv) : ∃ o es n, h.get? a = some o ∧ o.data = .dict es n := by
  obtain ⟨h3, vals, ⟨o, es, ep, ho, _, hd, _⟩, hb⟩ := x
  exact ⟨o, es, ep, ho, hd⟩
theorem DInt.steady {a : Addr} {kv : List (Str × Int)} : Steady h₀ fun h => DInt w h a kv := by
  intro I h h' h0 hI kk x
  refine x.at fun o e => kk a o ?_ e
  rintro rfl
  obtain ⟨o', es, n, ho, hd⟩ := x.live
  obtain ⟨vs, hd'⟩ := hI o' ho
  rw [hd] at hd'; cases hd'
theorem DInt.sys {h : Heap} {a : Addr} {kv : List (Str × Int)} (x : DInt w h a kv) : (a == sysModules) = false := by
  have := x.1
  exact beq_eq_false_iff_ne.mpr (Nat.ne_of_gt (Nat.lt_trans (by decide : 1 < 3) this))
theorem DInt.nodup {h : Heap} {a : Addr} {kv : List (Str × Int)} (x : DInt w h a kv) : (kv.map (·.1)).Nodup := by
  obtain ⟨h3, vals, ⟨o, es, ep, ho, _, hd, _, _, hn⟩, hb⟩ := x
  subst hb
  unfold intPairs at hn
  unfold bare
  rw [List.map_map] at hn ⊢
  exact hn
theorem ev_dict0 (F : Fm w mg mb B W env h₀ Δ) : Ev w k env h₀ (.Dict [] [] pos) (fun v h => ∃ a, v = .ref a ∧ DInt w h a [] ∧ h₀.get? a = none) := by
  intro A s Q E ha hle hq
  have h3 : 3 < s.heap.objs.size := by
    have := (F.le hle).tpn.T.g.lt
    exact this
  refine wpAny_Dict_empty (hq _ _ s.toks (Le.push _ _) ⟨_, rfl, ⟨h3, [], Heap.DictOf.new _, rfl⟩, not_live_le hle (not_live (Nat.le_refl _))⟩)
theorem set_D {a : Addr} {kv : List (Str × Int)} {x : Str} {n : Int} {t u : Tok} {Q : Unit → Shared → Prop} {E : Value → Shared → Prop} (H : DInt w s.heap a kv) (hz : kv.length ≤ 1000)
    (h : ∀ h' tk, Heap.SameBut a s.heap h' → DInt w h' a (putK kv x n) → Q () { s with heap := h', toks := tk }) : wpAny (model pr w) A (setItem (.ref a) (.str x t) (.int n u)) Q E s := by
  obtain ⟨h3, vals, hd, rfl⟩ := H
  obtain ⟨vals', e1, e2⟩ := stored_bare vals x n u
  have hlen : (intPairs vals).length ≤ sizeLine := by
    unfold intPairs
    unfold bare at hz
    rw [List.length_map] at hz ⊢
    rw [sizeLine_eq]; omega
  refine wpAny_setItem_pairs (knd := strKind pr w) (k := x) (by show Value.isStrOf x (.str x t) = true; simp [Value.isStrOf]) hd (fun h' hd' hs => h h' _ hs ⟨h3, vals', e1 ▸ hd', e2⟩) hlen
theorem get_D {a : Addr} {kv : List (Str × Int)} {x : Str} {n : Int} {t : Tok} {Q : Value → Shared → Prop} {E : Value → Shared → Prop} (H : DInt w s.heap a kv) (hg : getK kv x = some n) (h : ∀ u tk, Q (.int n u) { s with toks := tk }) : wpAny (model pr w) A (getItem (.ref a) (.str x t)) Q E s := by
  obtain ⟨h3, vals, hd, rfl⟩ := H
  rw [← intAt_bare] at hg
  obtain ⟨u, hu⟩ := valueAt_intPairs_of_isSome (vals := vals) (k := x) (by rw [hg]; rfl)
  rw [hg] at hu
  exact wpAny_getItem_of (knd := strKind pr w) (k := x) (by show Value.isStrOf x (.str x t) = true; simp [Value.isStrOf]) hd.mapOf hu (h u _)
theorem cv_inD {a : Addr} {kv : List (Str × Int)} {x : Str} {v : Value} (H : DInt w h₀ a kv) (hv : Rd h₀ v (.str x)) : Cv w k h₀ (compareOp .In v (.ref a)) (D (.bool (getK kv x).isSome)) := by
  obtain ⟨t, rfl⟩ := Rd.str_inv hv
  intro A s Q E ha hle hq
  have hsys := H.sys
  obtain ⟨h3, vals, hd, rfl⟩ := H.le hle
  refine wpAny_in_of (knd := strKind pr w) (k := x) (by show Value.isStrOf x (.str x t) = true; simp [Value.isStrOf]) hsys hd.mapOf ?_
  rw [isSome_valueAt_intPairs, intAt_bare]
  exact hq _ s.heap _ (.refl _) (.bool _ _)
/-- what stays where a dict of the frame's own turns -/
theorem Fm.dict {a : Addr} {kv : List (Str × Int)} {h h' : Heap} (F : Fm w mg mb B W env h Δ) (H : DInt w h a kv) (oa : Off env a) (hB : B.get? a = none) (hs : Heap.SameBut a h h') : Fm w mg mb B W env h' Δ ∧ Eff env [a] h h' ∧ Gs h h' := by
  obtain ⟨o, es, n, ho, hd⟩ := H.live
  have ns : ∀ o, h.get? a = some o → ∀ xs n, o.data ≠ .seq xs n := by
    intro o' ho' xs m e
    rw [ho] at ho'; cases ho'; rw [hd] at e; cases e
  exact ⟨F.off (fun b o hb e => hs.extBut b o hb e) hB ns (Ne.symm oa.1) oa.2, fun b o _ _ hb e => hs.extBut b o (by simpa using hb) e, .but hs ns⟩
section
variable {Q : Flow → Shared → Prop} {E : Value → Shared → Prop} {rest : List Stmt}
theorem sx_setD {o i value : Expr} {p : Pos} {a : Addr} {kv : List (Str × Int)} {x : Str} {n : Int} (F : Fm w mg mb B W env s.heap Δ) (ha : AOk k A) (ho : Ev w k env s.heap o (fun u _ => u = .ref a)) (hi : Ev w k env s.heap i (D (.str x))) (hv : Ev w k env s.heap value (D (.int n)))
    (H : DInt w s.heap a kv) (oa : Off env a) (hB : B.get? a = none) (hz : kv.length ≤ 1000)
    (h : ∀ h' tk, Eff env [a] s.heap h' → Gs s.heap h' → Fm w mg mb B W env h' Δ → DInt w h' a (putK kv x n) → wpAny (model pr w) A (execs rest env) Q E { s with heap := h', toks := tk })
    (hs : swapsWith value (some (.Subscript o i p)) pos.line env = pure false := by rfl) : wpAny (model pr w) A (execs (.Assign [.Subscript o i p] value pos :: rest) env) Q E s := by
  refine wpAny_execs_cons (wpAny_Assign_Subscript (hv A s _ E ha (.refl _) fun v h₁ t₁ l₁ r₁ => ho A _ _ E ha l₁ fun ov h₂ t₂ l₂ r₂ => hi A _ _ E ha (l₁.trans l₂) fun iv h₃ t₃ l₃ r₃ => ?_) hs)
  subst r₂
  obtain ⟨t, rfl⟩ := Rd.str_inv r₃
  obtain ⟨u, rfl⟩ := Rd.int_inv r₁
  have l : Le s.heap h₃ := l₁.trans (l₂.trans l₃)
  refine set_D (H.le l) hz fun h' tk hsb H' => ?_
  obtain ⟨F', e', g'⟩ := (F.le l).dict (H.le l) oa hB hsb
  exact h h' tk ((Eff.of_le l).trans e') ((Gs.of_le l).trans g') F' H'
theorem sx_augD {o value : Expr} {xi : Str} {pi p : Pos} {a : Addr} {kv : List (Str × Int)} {x : Str} {m n : Int} (F : Fm w mg mb B W env s.heap Δ) (ha : AOk k A) (ho : Ev w k env s.heap o (fun u _ => u = .ref a)) (hi : Ev w k env s.heap (.Name xi pi) (D (.str x))) (hv : Ev w k env s.heap value (D (.int n)))
    (H : DInt w s.heap a kv) (oa : Off env a) (hB : B.get? a = none) (hz : kv.length ≤ 1000) (hg : getK kv x = some m)
    (h : ∀ h' tk, Eff env [a] s.heap h' → Gs s.heap h' → Fm w mg mb B W env h' Δ → DInt w h' a (putK kv x (m + n)) → wpAny (model pr w) A (execs rest env) Q E { s with heap := h', toks := tk }) :
    wpAny (model pr w) A (execs (.AugAssign (.Subscript o (.Name xi pi) p) .Add value pos :: rest) env) Q E s := by
  refine wpAny_execs_cons (wpAny_AugAssign_Subscript (ho A s _ E ha (.refl _) fun ov h₁ t₁ l₁ r₁ => hi A _ _ E ha l₁ fun iv h₂ t₂ l₂ r₂ => ?_))
  subst r₁
  obtain ⟨t, rfl⟩ := Rd.str_inv r₂
  refine get_D (s := { s with heap := h₂, toks := t₂ }) (H.le (l₁.trans l₂)) hg fun u tk => ?_
  refine hv A _ _ E ha (l₁.trans l₂) fun v h₃ t₃ l₃ r₃ => ?_
  obtain ⟨u', rfl⟩ := Rd.int_inv r₃
  refine P.iadd_int ?_
  have l : Le s.heap h₃ := l₁.trans (l₂.trans l₃)
  refine set_D (s := { s with heap := h₃, toks := t₃ + 1 }) (H.le l) hz fun h' tk hsb H' => ?_
  obtain ⟨F', e', g'⟩ := (F.le l).dict (H.le l) oa hB hsb
  exact h h' tk ((Eff.of_le l).trans e') ((Gs.of_le l).trans g') F' H'
/-- for k, v in d.items() -/
theorem sx_forItems {elts : List Expr} {kk : Nat} {tp ap cp : Pos} {o : Expr} {body : List Stmt} {d : Addr} {kv : List (Str × Int)} {M : List Addr} {J : Nat → Heap → Prop} (F : Fm w mg mb B W env s.heap Δ) (ha : AOk k A) (ho : Ev w k env s.heap o (fun u _ => u = .ref d)) (H : DInt w s.heap d kv) (od : Off env d)
    (hM : ∀ a ∈ M, (∃ o, s.heap.get? a = some o ∧ ∀ xs n, o.data ≠ .seq xs n) ∧ a ≠ d)
    (h0 : ∀ h', Le s.heap h' → J 0 h') (mono : ∀ i, Steady s.heap (J i))
    (turn : ∀ i x n v h tk, kv[i]? = some (x, n) → Rd h v (.tuple [.str x, .int n]) → J i h → Eff env M s.heap h → wpAny (model pr w) A (assign (.Tuple elts kk tp) env v) (fun _ s₂ => wpAny (model pr w) A (execs body env) (TurnEnd env M (J (i + 1)) s h Q) (fun _ _ => False) s₂) (fun _ _ => False) { s with heap := h, toks := tk })
    (done : ∀ h tk, J kv.length h → Eff env M s.heap h → wpAny (model pr w) A (execs rest env) Q E { s with heap := h, toks := tk })
    (hbase : attributeBase o (Str.ofString "items") env (eval o env) = eval o env := by rfl) (hline : (ap.endLine == cp.line) = true := by rfl)
    (hs : ∀ x, foldedSetIterable (.Call (.Attribute o (Str.ofString "items") ap) [] [] cp) env x = pure x := by intro _; rfl) :
    wpAny (model pr w) A (execs (.For (.Tuple elts kk tp) (.Call (.Attribute o (Str.ofString "items") ap) [] [] cp) body [] pos :: rest) env) Q E s := by
  refine wpAny_execs_cons (wpAny_For ?_ hs)
  have hsys := H.sys
  refine wpAny_Call_method (T := "dict") (id := "dict.items") hbase rfl hline PySem.F.plainAttrs_dict PySem.F.slot_dict_items PySem.F.type_dict_items (ho A s _ E ha (.refl _) fun dv h₁ t₁ l₁ r₁ => ?_)
  subst r₁
  have H₁ := H.le l₁
  obtain ⟨h3, vals, hd, rfl⟩ := id H₁
  refine ⟨hd.typeIs, hd.mapOf.noDict, ?_⟩
  show wpAny _ _ (callWith cp (.builtin "dict.items") [.ref d] [] []) _ E _
  refine method_meetsIn PySem.F.slot_dict_items PySem.F.entry_dict_items rfl (PySem.evalArgs_none ⟨rfl, hd.typeIs, PySem.F.args_dict_items_1 _, _, meets_dict_items (strKind pr w) d hsys, ⟨_, hd⟩, ?_⟩)
  generalize hH : h₁.push { cls := .type "dict_items", data := .fields #[.ref d] } = H'
  have lH : Le s.heap H' := by rw [← hH]; exact l₁.trans (Le.push _ _)
  obtain ⟨ep, hat₁⟩ := hd.dictAt
  have hat : H'.DictAt (strKind pr w) d (intPairs vals) ep := by rw [← hH]; exact hat₁.push _
  have hview : H'.IsItemsView h₁.objs.size d := by rw [← hH]; exact ⟨_, Heap.get?_push_size _ rfl, rfl, rfl⟩
  show wpAny _ A (pyIter (.ref h₁.objs.size)) _ E { s with heap := H', toks := t₁ }
  refine wpAny_pyIter_items (s := { s with heap := H', toks := t₁ }) hview hat ?_
  generalize hI : H'.objs.size = I
  have hfresh : s.heap.get? I = none := not_live_le lH (not_live (by rw [hI]; exact Nat.le_refl _))
  have lI : Le s.heap (H'.push { cls := .type "dict_itemiterator", data := .fields #[.none, .bool false, .ref d, .int 0 0, .int (intPairs vals).length 0, .int ep 0, .none, .none] }) := lH.trans (Le.push _ _)
  obtain ⟨⟨oL, esL, nL, hoL, hdL⟩, hcells⟩ := F.live
  obtain ⟨oD, esD, nD, hoD, hdD⟩ := H.live
  have dI : d ≠ I := by rintro rfl; rw [hfresh] at hoD; cases hoD
  have hlen : (intPairs vals).length = (bare vals).length := by unfold intPairs bare; rw [List.length_map, List.length_map]
  have LI : env.locals ≠ I := by rintro e; rw [e, hfresh] at hoL; cases hoL
  have cI : ∀ x c, env.cells.lookup x = some c → c ≠ I := by
    rintro x c e rfl
    obtain ⟨o, v, ho, _⟩ := hcells x _ e
    rw [hfresh] at ho; cases ho
  have MI : I ∉ M := fun hm => by
    obtain ⟨⟨o, ho, _⟩, _⟩ := hM _ hm
    rw [hfresh] at ho; cases ho
  have Md : d ∉ M := fun hm => (hM _ hm).2 rfl
  refine codeAny_forLoop_any (fun n s' => ∃ i h tk ok ov, s' = { s with heap := h, toks := tk } ∧ J i h ∧ IsItemIter h I d i (intPairs vals).length ep ok ov ∧ h.DictAt (strKind pr w) d (intPairs vals) ep ∧ Eff env (I :: M) (H'.push { cls := .type "dict_itemiterator", data := .fields #[.none, .bool false, .ref d, .int 0 0, .int (intPairs vals).length 0, .int ep 0, .none, .none] }) h ∧ i ≤ (intPairs vals).length ∧ n = (intPairs vals).length + 1 - i) ?_ ((intPairs vals).length + 1)
    ⟨0, _, _, .none, .none, rfl, h0 _ lI, by rw [← hI]; exact Heap.get?_push_size _ rfl, hat.push _, Eff.refl, Nat.zero_le _, rfl⟩
  rintro n s' ⟨i, h, tk, ok, ov, rfl, hJ, hit, hda, hE, hi, rfl⟩
  have toS : ∀ h', Eff env (I :: M) (H'.push { cls := .type "dict_itemiterator", data := .fields #[.none, .bool false, .ref d, .int 0 0, .int (intPairs vals).length 0, .int ep 0, .none, .none] }) h' → Eff env M s.heap h' := fun h' hE b o x y z e => hE b o x y (fun hm => by
    rcases List.mem_cons.mp hm with rfl | hm
    · rw [hfresh] at e; cases e
    · exact z hm) (lI _ _ e)
  have fieldsI : ∀ o, h.get? I = some o → ∃ vs, o.data = .fields vs := fun o ho => by rw [hit] at ho; cases ho; exact ⟨_, rfl⟩
  cases hv : (intPairs vals)[i]? with
  | none =>
    have hin : i = (intPairs vals).length := Nat.le_antisymm hi (by simpa using hv)
    refine wpAny_pyNext_items_end (s := { s with heap := h, toks := tk }) ha.mark.hd hit hda hv fun h₂ he₂ => wpAny_execs_nil ?_
    have he₂ : Heap.ExtBut I h h₂ := he₂
    have hJ₂ := mono i I h h₂ hfresh fieldsI (fun b o hb e => he₂ b o hb e) hJ
    rw [hin, hlen] at hJ₂
    exact done h₂ _ hJ₂ (toS _ (hE.trans fun b o _ _ hm e => he₂ b o (fun e' => hm (by simp [e'])) e))
  | some kvp =>
    obtain ⟨x, v⟩ := kvp
    have hlt : i < (intPairs vals).length := (List.getElem?_eq_some_iff.mp hv).1
    obtain ⟨n, t, hvb, rfl⟩ : ∃ n t, (bare vals)[i]? = some (x, n) ∧ v = .int n t := by
      unfold intPairs at hv
      rw [List.getElem?_map] at hv
      obtain ⟨y, hy, e⟩ := Option.map_eq_some_iff.mp hv
      cases e
      exact ⟨y.2.1, y.2.2, by unfold bare; rw [List.getElem?_map, hy]; rfl, rfl⟩
    refine wpAny_pyNext_items_item (s := { s with heap := h, toks := tk }) hit hda hv fun key h₂ hkey heo htup hz₂ hk₂ => ?_
    have hk₂ : ∀ b o, b ≠ I → h.get? b = some o → h₂.get? b = some o := hk₂
    refine wpAny_letOwnedTupleGo_items heo fun h₃ he₃ hs₃ => ?_
    have hs₃ : Heap.SameBut I h₂ h₃ := hs₃
    have k₃ : ∀ b o, b ≠ I → h.get? b = some o → h₃.get? b = some o := fun b o hb e => hs₃.extBut b o hb (hk₂ b o hb e)
    have hJ₃ := mono i I h h₃ hfresh fieldsI k₃ hJ
    have tI : h.objs.size ≠ I := Nat.ne_of_gt (Heap.lt_size hit)
    have htup₃ : h₃.get? h.objs.size = some { cls := .type "tuple", data := .seq #[key, .int n t] } := hs₃.extBut _ _ tI htup
    obtain ⟨tkey, rfl⟩ := Value.isStrOf_shape hkey
    have rt : Rd h₃ (.ref h.objs.size) (.tuple [.str x, .int n]) := .tuple htup₃ rfl rfl (.cons (.str _ _ _) (.cons (.int _ _ _) (.nil _)))
    have e₃ : Eff env (I :: M) h h₃ := fun b o _ _ hm e => k₃ b o (fun e' => hm (by simp [e'])) e
    refine wpAny_mono (turn i x n (.ref h.objs.size) h₃ tk hvb rt hJ₃ (toS _ (hE.trans e₃))) (fun _ s₂ e₂ => wpAny_mono e₂ (fun f s₃ q₃ => ?_) fun _ _ z => z.elim) fun _ _ z => z.elim
    have fin : (∃ h' tk', s₃ = { s with heap := h', toks := tk' } ∧ J (i + 1) h' ∧ Eff env M h₃ h') → ∃ m, m < (intPairs vals).length + 1 - i ∧ ∃ i h tk ok ov, s₃ = { s with heap := h, toks := tk } ∧ J i h ∧ IsItemIter h I d i (intPairs vals).length ep ok ov ∧ h.DictAt (strKind pr w) d (intPairs vals) ep ∧ Eff env (I :: M) (H'.push { cls := .type "dict_itemiterator", data := .fields #[.none, .bool false, .ref d, .int 0 0, .int (intPairs vals).length 0, .int ep 0, .none, .none] }) h ∧ i ≤ (intPairs vals).length ∧ m = (intPairs vals).length + 1 - i := by
      rintro ⟨h', tk', rfl, hJ', hf⟩
      exact ⟨(intPairs vals).length + 1 - (i + 1), by omega, i + 1, h', tk', _, _, rfl, hJ', hf _ _ (Ne.symm LI) cI MI he₃, hda.at fun o e => hf d o od.1 od.2 Md (k₃ d o dI e), (hE.trans e₃).trans (hf.more fun q hq => List.mem_cons_of_mem _ hq), hlt, rfl⟩
    cases f with
    | next => exact fin q₃
    | cont => exact fin q₃
    | brk => exact q₃.elim
    | ret v => exact q₃
end
end
end Mine

namespace Mine
def mergeStep (acc : List (Str × Int)) (p : Str × Int) : List (Str × Int) := match getK acc p.1 with
  | some m => putK acc p.1 (m + p.2)
  | none => putK acc p.1 p.2
def copyK (kv : List (Str × Int)) : List (Str × Int) := kv.foldl (fun acc p => putK acc p.1 p.2) []
def mergeK (kv₁ kv₂ : List (Str × Int)) : List (Str × Int) := kv₂.foldl mergeStep (copyK kv₁)
theorem putK_len (kv : List (Str × Int)) (x : Str) (n : Int) : (putK kv x n).length ≤ kv.length + 1 := by
  unfold putK
  split <;> simp
theorem fold_len {f : List (Str × Int) → Str × Int → List (Str × Int)} (hf : ∀ acc p, (f acc p).length ≤ acc.length + 1) : ∀ (l acc : List (Str × Int)), (l.foldl f acc).length ≤ acc.length + l.length
  | [], acc => by simp
  | p :: l, acc => by
    have h1 := fold_len hf l (f acc p)
    have h2 := hf acc p
    simp only [List.foldl_cons, List.length_cons]
    omega
theorem mergeStep_len (acc : List (Str × Int)) (p : Str × Int) : (mergeStep acc p).length ≤ acc.length + 1 := by
  unfold mergeStep
  split <;> exact putK_len ..
noncomputable abbrev eAdd (L : Nat) : Env := envOf (Str.ofString "add_callers") (defS (stAt 2)) L 49 (.ref 48)
section
variable {w : World} {mg mb : Str → Option Value} {k : Nat} {A : Around} {s : Shared}
theorem k49 (w : World) : (K w.params).lookup 49 = some (fnO (Str.ofString "add_callers") (Str.ofString "add_callers") (stAt 2) .none pmA 48) := by rfl
theorem g_isi (w : World) : nsIn (K w.params) mainGlobals (Str.ofString "isinstance") = some none := by kernel_rfl
theorem g_tup (w : World) : nsIn (K w.params) mainGlobals (Str.ofString "tuple") = some none := by kernel_rfl
theorem b_isi : bootBuiltins (Str.ofString "isinstance") = some (.builtin "isinstance") := by kernel_rfl
theorem b_tup : bootBuiltins (Str.ofString "tuple") = some (.type "tuple") := by kernel_rfl
theorem add_ok {a b : Addr} {kv₁ kv₂ : List (Str × Int)} {Q : Value → Shared → Prop} {E : Value → Shared → Prop} (ha : AOk (k + 2) A) (X : Tp w mg mb s.heap) (H₁ : DInt w s.heap a kv₁) (H₂ : DInt w s.heap b kv₂) (hz : kv₁.length + kv₂.length ≤ 500)
    (hq : ∀ c h' tk, Le s.heap h' → DInt w h' c (mergeK kv₁ kv₂) → s.heap.get? c = none → Q (.ref c) { s with heap := h', toks := tk }) : wpAny (model pr w) A (call (.ref 49) [.ref a, .ref b]) Q E s := by
  refine enter (nm := Str.ofString "add_callers") (q := Str.ofString "add_callers") (st := stAt 2) (dV := .none) (pm := pmA) (cd := 48) (binds := [(Str.ofString "target", .ref a), (Str.ofString "source", .ref b)]) (Δ := [(Str.ofString "target", .v (.ref a)), (Str.ofString "source", .v (.ref b))])
    X (k49 w) (by kernel_rfl) ha.room (BindsTo.of_eq (by rfl)) (by kernel_rfl) (by rfl) (by rfl) (by rfl) (by decide +kernel) ?_ fun h₁ tk₁ F => ?_
  · intro x sl e
    have e := mem_of_lookup e
    simp only [List.mem_cons, List.not_mem_nil, or_false, Prod.mk.injEq] at e
    rcases e with ⟨rfl, rfl⟩ | ⟨rfl, rfl⟩
    · exact ⟨_, by rfl, rfl⟩
    · exact ⟨_, by rfl, rfl⟩
  have ha := ha.deeper (eAdd s.heap.objs.size)
  have offOld : ∀ q kv, DInt w s.heap q kv → Off (eAdd s.heap.objs.size) q := by
    intro q kv H
    obtain ⟨o, _, _, ho, _⟩ := H.live
    exact ⟨Nat.ne_of_lt (Heap.lt_size ho), fun x c e => nomatch e⟩
  have oa := offOld a _ H₁
  have ob := offOld b _ H₂
  have H₁ := H₁.le F.keep
  have H₂ := H₂.le F.keep
  refine sx_assignR F ha (ev_dict0 F) (.inl rfl) fun v h₂ h₃ tk₃ l₂ rc g₃ gs₃ F₃ => ?_
  obtain ⟨c, rfl, Hc, nc⟩ := rc
  have ncs : s.heap.get? c = none := not_live_le F.keep nc
  have oc : Off (eAdd s.heap.objs.size) c := by
    obtain ⟨⟨oL, _, _, hoL, _⟩, _⟩ := F.live
    exact ⟨(by rintro rfl; rw [hoL] at nc; cases nc), fun x c e => nomatch e⟩
  have Hc := Hc.eff oc (by simp) g₃
  have H₁ := (H₁.le l₂).eff oa (by simp) g₃
  have H₂ := (H₂.le l₂).eff ob (by simp) g₃
  have ca : c ≠ a := by rintro rfl; obtain ⟨o, _, _, ho, _⟩ := (‹DInt w h₁ c kv₁›).live; rw [ho] at nc; cases nc
  have cb : c ≠ b := by rintro rfl; obtain ⟨o, _, _, ho, _⟩ := (‹DInt w h₁ c kv₂›).live; rw [ho] at nc; cases nc
  have cM : ∀ h, (∃ kv, DInt w h c kv) → ∀ q ∈ [c], ∃ o, h.get? q = some o ∧ ∀ xs n, o.data ≠ .seq xs n := by
    rintro h ⟨kv, H⟩ q hq
    simp at hq; subst hq
    obtain ⟨o, es, n, ho, hd⟩ := H.live
    exact ⟨o, ho, fun xs n e => by rw [hd] at e; cases e⟩
  refine sx_forItems (M := [c]) (J := fun i h => Fm w mg mb s.heap [] (eAdd s.heap.objs.size) h [(Str.ofString "new_callers", .v (.ref c)), (Str.ofString "source", .v (.ref b))] ∧ DInt w h c ((kv₁.take i).foldl (fun acc p => putK acc p.1 p.2) []) ∧ DInt w h b kv₂)
    F₃ ha (ev_nameV F₃ rfl) H₁ oa (fun q hq => ⟨cM _ ⟨_, Hc⟩ q hq, by simp at hq; subst hq; exact ca⟩) (fun h' l => ⟨(F₃.le l).mono (pick_all ?_), Hc.le l, H₂.le l⟩) (fun i => (Fm.steady F₃.keep).and (DInt.steady.and DInt.steady)) ?_ ?_
  · exact List.forall_mem_cons.mpr ⟨rfl, List.forall_mem_cons.mpr ⟨rfl, List.forall_mem_nil _⟩⟩
  · rintro i x n v h tk hx hv ⟨Fh, Hh, Hb⟩ he
    refine asg2 Fh ha (.inl rfl) (.inl rfl) (.inl hv) fun h₄ tk₄ g₄ gs₄ F₄ => ?_
    have Hh := Hh.eff oc (by simp) g₄
    have Hb := Hb.eff ob (by simp) g₄
    have len := fold_len (f := fun acc p => putK acc p.1 p.2) (fun acc p => putK_len ..) (kv₁.take i) []
    simp only [List.length_nil, List.length_take] at len
    refine sx_setD F₄ ha (ev_nameV F₄ rfl) (ev_name F₄ rfl) (ev_name F₄ rfl) Hh oc ncs (by omega) fun h₅ tk₅ g₅ gs₅ F₅ H₅ => ?_
    refine sx_nil ⟨h₅, tk₅, rfl, ⟨F₅.mono (pick_all (List.forall_mem_cons.mpr ⟨rfl, List.forall_mem_cons.mpr ⟨rfl, List.forall_mem_nil _⟩⟩)), ?_, Hb.eff ob (by simpa using Ne.symm cb) g₅⟩, (g₄.more (by simp)).trans g₅⟩
    rw [List.take_add_one, hx, List.foldl_append]
    exact H₅
  · rintro h tk ⟨Fh, Hh, Hb⟩ he
    rw [List.take_length] at Hh
    have len1 := fold_len (f := fun acc p => putK acc p.1 p.2) (fun acc p => putK_len ..) kv₁ []
    simp only [List.length_nil] at len1
    refine sx_forItems (M := [c]) (J := fun i h => Fm w mg mb s.heap [] (eAdd s.heap.objs.size) h [(Str.ofString "new_callers", .v (.ref c))] ∧ DInt w h c ((kv₂.take i).foldl mergeStep (copyK kv₁)))
      Fh ha (ev_nameV Fh rfl) Hb ob (fun q hq => ⟨cM _ ⟨_, Hh⟩ q hq, by simp at hq; subst hq; exact cb⟩) (fun h' l => ⟨(Fh.le l).mono (pick_all ?_), Hh.le l⟩) (fun i => (Fm.steady Fh.keep).and DInt.steady) ?_ ?_
    · exact List.forall_mem_cons.mpr ⟨rfl, List.forall_mem_nil _⟩
    · rintro i x n v h tk hx hv ⟨Fh, Hh⟩ he
      generalize hacc : (kv₂.take i).foldl mergeStep (copyK kv₁) = acc at Hh
      have hnext : (kv₂.take (i + 1)).foldl mergeStep (copyK kv₁) = mergeStep acc (x, n) := by
        rw [List.take_add_one, hx, List.foldl_append, hacc]; rfl
      have len : acc.length ≤ 1000 := by
        have := fold_len mergeStep_len (kv₂.take i) (copyK kv₁)
        rw [hacc] at this
        have e : (copyK kv₁).length ≤ kv₁.length := by unfold copyK; omega
        simp only [List.length_take] at this
        omega
      refine asg2 Fh ha (.inl rfl) (.inl rfl) (.inl hv) fun h₄ tk₄ g₄ gs₄ F₄ => ?_
      have Hh := Hh.eff oc (by simp) g₄
      have fin : ∀ h₆ tk₆, Fm w mg mb s.heap [] (eAdd s.heap.objs.size) h₆ [(Str.ofString "caller", .d (.int n)), (Str.ofString "func", .d (.str x)), (Str.ofString "new_callers", .v (.ref c))] → DInt w h₆ c (mergeStep acc (x, n)) → Eff (eAdd s.heap.objs.size) [c] h h₆ →
          TurnEnd (eAdd s.heap.objs.size) [c] (fun h => Fm w mg mb s.heap [] (eAdd s.heap.objs.size) h [(Str.ofString "new_callers", .v (.ref c))] ∧ DInt w h c ((kv₂.take (i + 1)).foldl mergeStep (copyK kv₁))) { s with heap := h₆, toks := tk₆ } h (fun f s' => Q (match f with | .ret v => v | _ => .none) s') .next { s with heap := h₆, toks := tk₆ } := by
        intro h₆ tk₆ F₆ H₆ e₆
        refine ⟨h₆, tk₆, rfl, ⟨F₆.mono (pick_all (List.forall_mem_cons.mpr ⟨rfl, List.forall_mem_nil _⟩)), ?_⟩, e₆⟩
        rw [hnext]; exact H₆
      refine sx_if ha (tv_cmp (R₁ := D (.str x)) (R₂ := fun u _ => u = .ref c) (ev_name F₄ rfl) (ev_nameV F₄ rfl) D.mono fun u v h₅ l₅ r₁ r₂ => (by subst r₂; exact cv_inD (Hh.le l₅) r₁)) (fun hc h₅ tk₅ l₅ => ?_) fun hc h₅ tk₅ l₅ => ?_
      · have F₅ := F₄.le l₅
        obtain ⟨m, hm⟩ := Option.isSome_iff_exists.mp hc
        refine sx_if (c := false) ha (tv_plain (ev_call (S := fun vs h => ∃ v r, vs = v :: r ∧ D (.int n) v h ∧ ∃ v' r', r = v' :: r' ∧ v' = .type "tuple" ∧ r' = []) (ev_built F₅ (g_isi w) b_isi) (evs_cons (ev_name F₅ rfl) (evs_cons (ev_built F₅ (g_tup w) b_tup) evs_nil fun v h h' _ e => e) D.mono) (.inl ⟨_, rfl⟩) fun vs h₆ l₆ r₆ => ?_)) (fun h => nomatch h) fun _ h₆ tk₆ l₆ => ?_
        · obtain ⟨v, r, rfl, rv, v', r', rfl, rfl, rfl⟩ := r₆
          obtain ⟨t, rfl⟩ := Rd.int_inv rv
          intro A s Q E ha hle hq
          exact IsiPair.int_tuple (hq _ s.heap _ (.refl _) (.bool _ _))
        · have F₆ := F₅.le l₆
          refine sx_augD F₆ ha (ev_nameV F₆ rfl) (ev_name F₆ rfl) (ev_name F₆ rfl) ((Hh.le l₅).le l₆) oc ncs len hm fun h₇ tk₇ g₇ gs₇ F₇ H₇ => ?_
          refine sx_nil (sx_nil (sx_nil (fin h₇ tk₇ F₇ ?_ ((g₄.more (by simp)).trans ((Eff.of_le l₅).trans ((Eff.of_le l₆).trans g₇))))))
          unfold mergeStep
          rw [hm]; exact H₇
      · have F₅ := F₄.le l₅
        have hm : getK acc x = none := by simpa using hc
        refine sx_setD F₅ ha (ev_nameV F₅ rfl) (ev_name F₅ rfl) (ev_name F₅ rfl) (Hh.le l₅) oc ncs len fun h₆ tk₆ g₆ gs₆ F₆ H₆ => ?_
        refine sx_nil (sx_nil (fin h₆ tk₆ F₆ ?_ ((g₄.more (by simp)).trans ((Eff.of_le l₅).trans g₆))))
        unfold mergeStep
        rw [hm]; exact H₆
    · rintro h tk ⟨Fh, Hh⟩ he
      rw [List.take_length] at Hh
      refine sx_ret ha (ev_nameV Fh rfl) fun v h' tk l r => ?_
      subst r
      exact hq c h' tk (Fh.le l).keep (Hh.le l) ncs
end
end Mine

namespace Mine
section
variable {w : World} {mg mb : Str → Option Value} {B : Heap} {W : List Str} {env : Env} {Δ : List (Str × Slot)} {k : Nat} {A : Around} {s : Shared} {h₀ : Heap} {pos : Pos}
theorem Rd.steady {v : Value} {d : PyData} : Steady h₀ fun h => Rd h v d := by
  intro I h h' h0 hI kk x
  refine x.gs ?_
  rintro b o ⟨xs, n, hd⟩ e
  by_cases hb : b = I
  · subst hb
    obtain ⟨vs, hd'⟩ := hI o e
    rw [hd'] at hd; cases hd
  · exact kk b o hb e
/-- a list of the frame's own grows -/
theorem Fm.grown {P : Addr} {h h' : Heap} {ys : Array Value} {out : List PyData} (F : Fm w mg mb B W env h Δ) (hP : h.IsList P ys) (hr : RdL h ys.toList out) (hl : ∀ x d, Δ.lookup x = some (.d d) → Lacks out d) (oP : Off env P) (hB : B.get? P = none) (hs : Heap.SameBut P h h') : Fm w mg mb B W env h' Δ := by
  have kk : ∀ b o, b ≠ P → h.get? b = some o → h'.get? b = some o := fun b o hb e => hs.extBut b o hb e
  have has : ∀ x (sl : Slot) v, Δ.lookup x = some sl → sl.has v h → sl.has v h' := by
    intro x sl v e hv
    cases sl with
    | d d => exact Rd.lack hv hP hr (hl x d e) fun b o hb _ e => kk b o hb e
    | v u => exact hv
  refine ⟨F.tp, ?_, F.glob, F.blt, F.kind, ?_, ?_, F.freshL, F.freshC, F.apart⟩
  · intro b o e
    exact kk b o (by rintro rfl; rw [hB] at e; cases e) (F.keep b o e)
  · obtain ⟨m, hn, hm⟩ := F.ns
    exact ⟨m, hn.at' fun o e => kk _ o (Ne.symm oP.1) e, fun x sl e l => by obtain ⟨v, a, b⟩ := hm x sl e l; exact ⟨v, a, has x sl v e b⟩⟩
  · intro x c e
    obtain ⟨ov, a, b⟩ := F.cell x c e
    refine ⟨ov, ?_, fun sl e' l => by obtain ⟨v, a, b⟩ := b sl e' l; exact ⟨v, a, has x sl v e' b⟩⟩
    obtain ⟨o, ho, hd⟩ := a
    exact ⟨o, kk c o (oP.2 x c e) ho, hd⟩
section
variable {Q : Flow → Shared → Prop} {E : Value → Shared → Prop} {rest : List Stmt}
/-- xs.append(v), as a statement -/
theorem sx_append {o e : Expr} {ap p : Pos} {P : Addr} {out : List PyData} {d : PyData} (F : Fm w mg mb B W env s.heap Δ) (ha : AOk k A) (ho : Ev w k env s.heap o (fun u _ => u = .ref P)) (he : Ev w k env s.heap e (D d))
    (hP : Rd s.heap (.ref P) (.list out)) (hl : ∀ x d, Δ.lookup x = some (.d d) → Lacks out d) (hl2 : LacksAll out out) (hld : Lacks out d) (oP : Off env P) (hB : B.get? P = none) (hz : out.length ≤ 1000) (hno : ∀ o, s.heap.get? P = some o → o.dict = none)
    (h : ∀ h' tk, Eff env [P] s.heap h' → Fm w mg mb B W env h' Δ → Rd h' (.ref P) (.list (out ++ [d])) → (∀ o, h'.get? P = some o → o.dict = none) → wpAny (model pr w) A (execs rest env) Q E { s with heap := h', toks := tk })
    (hse : starEach [e] env = [(false, eval e env)] := by rfl) (hbase : attributeBase o (Str.ofString "append") env (eval o env) = eval o env := by rfl) (hline : (ap.endLine == p.line) = true := by rfl)
    (hi : interactive env = false := by rfl) (hs : swapsWith (.Call (.Attribute o (Str.ofString "append") ap) [e] [] p) none pos.line env = pure false := by rfl) :
    wpAny (model pr w) A (execs (.Expr (.Call (.Attribute o (Str.ofString "append") ap) [e] [] p) pos :: rest) env) Q E s := by
  refine wpAny_execs_cons (wpAny_Expr ?_ hi hs)
  refine wpAny_Call_method (T := "list") (id := "list.append") hbase (by rw [hse]; rfl) hline PySem.F.plainAttrs_list PySem.F.slot_list_append PySem.F.type_list_append (ho A s _ E ha (.refl _) fun ov h₁ t₁ l₁ r₁ => ?_)
  subst r₁
  have hP₁ := hP.le l₁
  obtain ⟨a, vs, ea, hl₁, _⟩ := Rd.isList hP₁
  cases ea
  obtain ⟨oP₀, hoP₀, _⟩ : ∃ o, s.heap.get? P = some o ∧ True := by
    obtain ⟨a, o, vs, n, ea, ho, _⟩ := hP.list_inv
    cases ea; exact ⟨o, ho, trivial⟩
  refine ⟨hl₁.typeIs, fun a ea => (by cases ea; exact ⟨_, l₁ _ _ hoP₀, hno _ hoP₀⟩), ?_⟩
  rw [hse]
  refine Calls.callWith_builtin rfl (Calls.evalArgs_plain (Calls.spliced_cons (he A _ _ E ha l₁ fun v h₂ t₂ l₂ r₂ => Calls.spliced_nil ?_)))
  have l : Le s.heap h₂ := l₁.trans l₂
  obtain ⟨a, vs, ea, hl₂, rv⟩ := Rd.isList (hP.le l)
  cases ea
  have hsz : vs.size ≤ sizeLine := by
    have := rv.length
    simp only [Array.length_toList] at this
    rw [sizeLine_eq]; omega
  obtain ⟨oo, hoo, hcc, nn, hdd⟩ := id hl₂
  have hP₂ := l _ _ hoP₀
  have hno₂ : oo.dict = none := by
    rw [hoo] at hP₂
    have := Option.some.inj hP₂
    rw [this]; exact hno _ hoP₀
  refine wpAny_call_entry slot_list_append hl₂.typeIs entry_list_append ?_ (args_list_append _ _)
  show wpAny _ _ (updateSeq P (·.push v) >>= fun _ => ret .none) _ _ _
  refine wpAny_bind (wpAny_updateSeq hoo hdd (wpAny_pure ⟨.none, rfl, ?_⟩))
  obtain ⟨n', hd'⟩ := Obj.data_mapSeq hdd (·.push v)
  generalize hH : Heap.update h₂ P (Obj.mapSeq fun xs => xs.push v) = h₃
  have hs₃ : Heap.SameBut P h₂ h₃ := by rw [← hH]; exact Heap.SameBut.update ..
  have ho₃ : h₃.get? P = some (oo.mapSeq (·.push v)) := by rw [← hH]; exact Heap.get?_update_self _ hoo (Obj.isFreed_of_seq hd')
  have kk : ∀ b o, b ≠ P → (∃ xs n, o.data = .seq xs n) → h₂.get? b = some o → h₃.get? b = some o := fun b o hb _ e => hs₃.extBut b o hb e
  refine h h₃ _ ?_ ((F.le l).grown hl₂ rv hl oP hB hs₃) ?_ ?_
  · exact fun b o p q z e => hs₃.extBut b o (by simpa using z) (l b o e)
  · refine .list ho₃ ((Obj.cls_mapSeq ..).trans hcc) hd' ?_
    rw [Array.toList_push]
    exact (RdL.lack rv hl₂ rv hl2 kk).append (.cons (Rd.lack r₂ hl₂ rv hld kk) (.nil _))
  · intro o e
    rw [ho₃] at e; cases e
    revert hno₂ hdd
    clear ho₃ hd' hoo hcc hH hs₃
    intro hdd hno₂
    cases oo
    cases hdd
    exact hno₂
end
theorem eqv_pt (p q : P2) : PyData.eqv (pt p) (pt q) = decide (p = q) := by
  obtain ⟨a, b⟩ := p
  obtain ⟨c, d⟩ := q
  simp only [pt, PyData.eqv, PyData.eqvAll, Bool.and_true]
  by_cases h1 : a = c <;> by_cases h2 : b = d <;> simp [h1, h2]
theorem eqv_pts : ∀ (ps qs : List P2), PyData.eqvAll (ps.map pt) (qs.map pt) = decide (ps = qs)
  | [], [] => rfl
  | [], _ :: _ => rfl
  | _ :: _, [] => rfl
  | p :: ps, q :: qs => by
    simp only [List.map_cons, PyData.eqvAll, eqv_pt, eqv_pts ps qs]
    by_cases h1 : p = q <;> by_cases h2 : ps = qs <;> simp [h1, h2]
theorem shaped_pts (ps : List P2) : SeqAt.shaped (.list (ps.map pt)) = true := by
  have h : ∀ ps : List P2, PyData.canLayAll0 (ps.map pt) = true ∧ PyData.depthAll (ps.map pt) ≤ 1 := by
    intro ps
    induction ps with
    | nil => exact ⟨rfl, Nat.zero_le _⟩
    | cons p ps ih => exact ⟨by simp only [List.map_cons, PyData.canLayAll0, ih.1]; rfl, by
        simp only [List.map_cons, PyData.depthAll]
        have : PyData.depth (pt p) = 1 := rfl
        omega⟩
  unfold SeqAt.shaped
  have := h ps
  simp only [PyData.canLay0, PyData.depth, this.1, Bool.true_and]
  exact decide_eq_true (by omega)
theorem cv_neP {p q : P2} {u v : Value} (hu : Rd h₀ u (pt p)) (hv : Rd h₀ v (pt q)) : Cv w k h₀ (compareOp .NotEq u v) (D (.bool (!decide (p = q)))) := by
  intro A s Q E ha hle hq
  obtain ⟨⟨as, ra⟩, _⟩ := hu.le hle
  obtain ⟨⟨bs, rb⟩, _⟩ := hv.le hle
  refine ne_dataH ra rb (by rfl) (by rfl) ha.units ?_
  rw [eqv_pt]
  exact hq _ s.heap s.toks (.refl _) (.bool _ _)
theorem cv_neL {p q : List P2} {u v : Value} (hu : Rd h₀ u (.list (p.map pt))) (hv : Rd h₀ v (.list (q.map pt))) : Cv w k h₀ (compareOp .NotEq u v) (D (.bool (!decide (p = q)))) := by
  intro A s Q E ha hle hq
  obtain ⟨⟨as, ra⟩, _⟩ := hu.le hle
  obtain ⟨⟨bs, rb⟩, _⟩ := hv.le hle
  refine ne_dataH ra rb (shaped_pts p) (shaped_pts q) ha.units ?_
  have : PyData.eqv (.list (p.map pt)) (.list (q.map pt)) = decide (p = q) := by rw [PyData.eqv, eqv_pts]
  rw [this]
  exact hq _ s.heap s.toks (.refl _) (.bool _ _)
theorem cv_eqL {p q : List P2} {u v : Value} (hu : Rd h₀ u (.list (p.map pt))) (hv : Rd h₀ v (.list (q.map pt))) : Cv w k h₀ (compareOp .Eq u v) (D (.bool (decide (p = q)))) := by
  intro A s Q E ha hle hq
  obtain ⟨⟨as, ra⟩, _⟩ := hu.le hle
  obtain ⟨⟨bs, rb⟩, _⟩ := hv.le hle
  refine eq_dataH ra rb (shaped_pts p) (shaped_pts q) ha.units ?_
  have : PyData.eqv (.list (p.map pt)) (.list (q.map pt)) = decide (p = q) := by rw [PyData.eqv, eqv_pts]
  rw [this]
  exact hq _ s.heap s.toks (.refl _) (.bool _ _)
theorem cv_notIn {p : P2} {q : List P2} {u v : Value} (hu : Rd h₀ u (pt p)) (hv : Rd h₀ v (.list (q.map pt))) : Cv w k h₀ (compareOp .NotIn u v) (D (.bool (!decide (p ∈ q)))) := by
  intro A s Q E ha hle hq
  obtain ⟨⟨as, ra⟩, _⟩ := hu.le hle
  obtain ⟨⟨bs, rb⟩, _⟩ := hv.le hle
  have sh := shaped_pts q
  have hc := SeqAt.canLay_of_shaped sh
  simp only [PyData.canLay0] at hc
  refine SeqAt.notIn_list_reads rb ra hc (by rfl) ?_ ?_
  · have h1 : PyData.depth (pt p) = 1 := rfl
    have h2 := Nat.min_le_right (PyData.depthAll (q.map pt)) (PyData.depth (pt p))
    have := ha.units
    omega
  · have : ((q.map pt).any fun y => PyData.eqv y (pt p)) = decide (p ∈ q) := by
      rw [List.any_map]
      rw [Bool.eq_iff_iff, List.any_eq_true]
      constructor
      · rintro ⟨x, hx, e⟩
        simp only [Function.comp_apply, eqv_pt, decide_eq_true_eq] at e
        exact decide_eq_true (e ▸ hx)
      · intro e
        exact ⟨p, of_decide_eq_true e, by simp [eqv_pt]⟩
    rw [this]
    exact hq _ s.heap s.toks (.refl _) (.bool _ _)
/-- an item of a tuple -/
theorem ev_itemT {value slice : Expr} {ds : List PyData} {d : PyData} {i : Nat} (p : Ev w k env h₀ value (D (.tuple ds))) (q : Ev w k env h₀ slice (D (.int (i : Int)))) (hd : ds[i]? = some d) (hfit : i < 1000)
    (hs : ∀ o i, ∃ ops, subscripted slice false o i = operate ops (getItem o i) := by intro _ _; exact ⟨_, rfl⟩) : Ev w k env h₀ (.Subscript value slice pos) (D d) := by
  refine ev_sub p q D.mono (fun o j h₃ _ ro ri => ?_) hs
  obtain ⟨a, oo, vs, n, rfl, ho, hc, hdd, r₁⟩ := Rd.tuple_inv ro
  obtain ⟨t, rfl⟩ := Rd.int_inv ri
  obtain ⟨v, hv, rv⟩ := r₁.get hd
  have hlen := r₁.length
  simp only [Array.length_toList] at hlen
  have hil : i < ds.length := by
    rcases Nat.lt_or_ge i ds.length with h | h
    · exact h
    · rw [List.getElem?_eq_none h] at hd; cases hd
  have tup : ∀ s : Shared, Le h₃ s.heap → IsTup s.heap a vs := fun s l => ⟨oo, l _ _ ho, hc, n, hdd⟩
  refine ⟨"tuple", _, slot_tuple_getitem.lookup, fun s l => (tup s l).typeIs, fun A s Q E ha hle hq => ?_⟩
  refine getItem_tuple (tup s hle) (by omega) (by omega) (j := i) ?_ (x := v) (by simpa using hv) (hq _ s.heap s.toks (.refl _) (rv.le hle))
  unfold seqIndex?
  have h1 : ¬ ((i : Int) < 0) := by omega
  simp only [h1, if_false]
  rw [if_pos (by simp only [Bool.and_eq_true, decide_eq_true_eq]; omega)]
  simp
end
end Mine

namespace Mine
section
variable {w : World} {mg mb : Str → Option Value} {B : Heap} {W : List Str} {env : Env} {Δ : List (Str × Slot)} {k : Nat} {A : Around} {s : Shared} {h₀ : Heap} {pos : Pos}
theorem ev_index {o a : Expr} {ap : Pos} {x y : Str} {i : Nat} {rest : List Nat} (ho : Ev w k env h₀ o (D (.str x))) (hp : Ev w k env h₀ a (D (.str y))) (hi : Builtin.Str.occurrences x y 0 x.length 1 = i :: rest) (hse : starEach [a] env = [(false, eval a env)] := by rfl) (hbase : attributeBase o (Str.ofString "index") env (eval o env) = eval o env := by rfl) (hline : (ap.endLine == pos.line) = true := by rfl) :
    Ev w k env h₀ (.Call (.Attribute o (Str.ofString "index") ap) [a] [] pos) (D (.int i)) := by
  intro A s Q E ha hle hq
  refine Call_method1 hbase hse hline (ho A s _ E ha hle fun v h₁ t₁ l₁ r₁ => ?_)
  obtain ⟨t, rfl⟩ := Rd.str_inv r₁
  refine SB.index (hp A _ _ E ha (hle.trans l₁) fun v h₂ t₂ l₂ r₂ => ?_)
  obtain ⟨u, rfl⟩ := Rd.str_inv r₂
  exact ⟨y, u, rfl, i, rest, hi, hq _ h₂ _ (l₁.trans l₂) (.int _ _ _)⟩
/-- len of a dict -/
theorem ev_lenD {p : Pos} {e : Expr} {a : Addr} {kv : List (Str × Int)} (F : Fm w mg mb B W env h₀ Δ) (he : Ev w k env h₀ e (fun u _ => u = .ref a)) (H : DInt w h₀ a kv) (hz : kv.length ≤ 1000) (hx : env.kindOf (Str.ofString "len") = some .globalImplicit := by rfl)
    (hse : starEach [e] env = (false, eval e env) :: starEach [] env := by rfl) : Ev w k env h₀ (.Call (.Name (Str.ofString "len") p) [e] [] pos) (D (.int kv.length)) :=
  ev_built1 F (g_len w) b_len (.inl ⟨_, rfl⟩) he (fun v h₃ l r A s Q E ha hle hq => by
    subst r
    have H' := H.le (l.trans hle)
    have hsys := H'.sys
    obtain ⟨h3, vals, hd, rfl⟩ := H'
    have e1 : (intPairs vals).length = (bare vals).length := by unfold intPairs bare; rw [List.length_map, List.length_map]
    refine call_len_dict (knd := strKind pr w) hsys hd (by omega) (hq _ s.heap _ (.refl _) ?_)
    rw [e1]; exact .int _ _ _) (by decide) hx (by decide) hse
/-- booked[text] -/
theorem ev_itemD {value slice : Expr} {a : Addr} {kv : List (Str × Int)} {x : Str} {n : Int} (p : Ev w k env h₀ value (fun u _ => u = .ref a)) (q : Ev w k env h₀ slice (D (.str x))) (H : DInt w h₀ a kv) (hg : getK kv x = some n)
    (hs : ∀ o i, ∃ ops, subscripted slice false o i = operate ops (getItem o i) := by intro _ _; exact ⟨_, rfl⟩) : Ev w k env h₀ (.Subscript value slice pos) (D (.int n)) := by
  refine ev_sub p q (fun v h h' _ e => e) (fun o j h₃ l ro ri => ?_) hs
  subst ro
  obtain ⟨t, rfl⟩ := Rd.str_inv ri
  have H₃ := H.le l
  refine ⟨"dict", _, slot_dict_getitem.lookup, fun s l => ?_, fun A s Q E ha hle hq => ?_⟩
  · obtain ⟨_, vals, hd, _⟩ := H₃.le l
    exact hd.typeIs
  · exact get_D (H₃.le hle) hg fun u tk => hq _ s.heap tk (.refl _) (.int _ _ _)
/-- own.get(text, n) -/
theorem ev_getD {o e₁ e₂ : Expr} {ap : Pos} {a : Addr} {kv : List (Str × Int)} {x : Str} {n : Int} (ho : Ev w k env h₀ o (fun u _ => u = .ref a)) (h1 : Ev w k env h₀ e₁ (D (.str x))) (h2 : Ev w k env h₀ e₂ (D (.int n))) (H : DInt w h₀ a kv)
    (hse : starEach [e₁, e₂] env = [(false, eval e₁ env), (false, eval e₂ env)] := by rfl) (hbase : attributeBase o (Str.ofString "get") env (eval o env) = eval o env := by rfl) (hline : (ap.endLine == pos.line) = true := by rfl) :
    Ev w k env h₀ (.Call (.Attribute o (Str.ofString "get") ap) [e₁, e₂] [] pos) (D (.int ((getK kv x).getD n))) := by
  intro A s Q E ha hle hq
  refine wpAny_Call_method (T := "dict") (id := "dict.get") hbase (by rw [hse]; rfl) hline PySem.F.plainAttrs_dict PySem.F.slot_dict_get PySem.F.type_dict_get (ho A s _ E ha hle fun ov h₁ t₁ l₁ r₁ => ?_)
  subst r₁
  have H₁ := H.le (hle.trans l₁)
  have hsys := H₁.sys
  refine ⟨?_, fun b e => ?_, ?_⟩
  · obtain ⟨_, vals, hd, _⟩ := H₁
    exact hd.typeIs
  · obtain ⟨_, vals, hd, _⟩ := H₁
    cases e
    exact hd.mapOf.noDict _ rfl
  rw [hse]
  refine wpAny_dict_get2 (knd := strKind pr w) hsys (h1 A _ _ E ha (hle.trans l₁) fun v₁ h₂ t₂ l₂ r₂ => h2 A _ _ E ha (hle.trans (l₁.trans l₂)) fun v₂ h₃ t₃ l₃ r₃ => ?_)
  obtain ⟨t, rfl⟩ := Rd.str_inv r₂
  obtain ⟨u, rfl⟩ := Rd.int_inv r₃
  obtain ⟨_, vals, hd, e⟩ := H₁.le (l₂.trans l₃)
  refine ⟨x, _, by show Value.isStrOf x (.str x t) = true; simp [Value.isStrOf], hd.mapOf, ?_⟩
  have fin : ∀ v tk, D (.int ((getK kv x).getD n)) v h₃ → Q v { s with heap := h₃, toks := tk } := fun v tk r => hq v h₃ tk (l₁.trans (l₂.trans l₃)) r
  rw [← e, ← intAt_bare] at fin
  cases hia : PySem.intAt vals x with
  | none =>
    have : valueAt (intPairs vals) x = none := by
      have := isSome_valueAt_intPairs (vals := vals) (k := x)
      rw [hia] at this
      cases hv : valueAt (intPairs vals) x with
      | none => rfl
      | some v => rw [hv] at this; cases this
    rw [this]
    rw [hia] at fin
    exact fin _ _ (.int _ _ _)
  | some m =>
    obtain ⟨u', hu⟩ := valueAt_intPairs_of_isSome (vals := vals) (k := x) (by rw [hia]; rfl)
    rw [hia] at hu fin
    rw [hu]
    exact fin _ _ (.int _ _ _)
/-- a < b < c -/
theorem tv_chainI {l r₁ r₂ : Expr} {a b c : Int} (h1 : Ev w k env h₀ l (D (.int a))) (h2 : Ev w k env h₀ r₁ (D (.int b))) (h3 : Ev w k env h₀ r₂ (D (.int c)))
    (hm : lastMarks [.Lt, .Lt] [r₁, r₂] = false := by with_unfolding_all rfl) : Tv w k env h₀ (.Compare l [.Lt, .Lt] [r₁, r₂] pos) (decide (a < b) && decide (b < c)) := by
  intro A s Q E ha hle hq
  refine isTrue_chain (h1 A s _ E ha hle fun u h₁ t₁ l₁ r₁ => ?_) hm
  obtain ⟨t, rfl⟩ := Rd.int_inv r₁
  refine test_link (h2 A _ _ E ha (hle.trans l₁) fun u h₂ t₂ l₂ r₂ => ?_)
  obtain ⟨t', rfl⟩ := Rd.int_inv r₂
  refine P.lt_int ?_
  refine wpAny_truthy_bool ?_
  cases hab : decide (a < b) with
  | false =>
    rw [hab] at hq
    simp only [Bool.false_eq_true, if_false]
    exact hq _ _ (l₁.trans l₂)
  | true =>
    rw [hab] at hq
    simp only [if_true]
    refine test_last (h3 A _ _ E ha (hle.trans (l₁.trans l₂)) fun u h₃ t₃ l₃ r₃ => ?_)
    obtain ⟨t'', rfl⟩ := Rd.int_inv r₃
    refine P.lt_int ?_
    exact wpAny_truthy_bool (hq _ _ (l₁.trans (l₂.trans l₃)))
section
variable {Q : Flow → Shared → Prop} {E : Value → Shared → Prop} {rest : List Stmt}
/-- two names from a value -/
theorem sx_unpack2 {x y : Str} {p p' tp : Pos} {kk : Nat} {e : Expr} {d f : PyData} (F : Fm w mg mb B W env s.heap Δ) (ha : AOk k A) (pe : Ev w k env s.heap e (fun v h => Rd h v (.tuple [d, f]) ∨ Rd h v (.list [d, f]))) (hx : Bd W env x) (hy : Bd W env y)
    (h : ∀ h' tk, Gr env s.heap h' → Gs s.heap h' → Fm w mg mb B W env h' ((y, .d f) :: (x, .d d) :: Δ) → wpAny (model pr w) A (execs rest env) Q E { s with heap := h', toks := tk })
    (hs : swapsWithSole [.Tuple [.Name x p, .Name y p'] kk tp] e pos.line env = pure false := by rfl) (hw : swappedStores [.Tuple [.Name x p, .Name y p'] kk tp] e env = pure none := by rfl) :
    wpAny (model pr w) A (execs (.Assign [.Tuple [.Name x p, .Name y p'] kk tp] e pos :: rest) env) Q E s :=
  wpAny_execs_cons (PyProof.Rows.Assign_Tuple (pe A s _ E ha (.refl _) fun v h₁ t₁ l₁ r₁ => asg2 (F.le l₁) ha hx hy r₁ fun h' tk g gs F' => h h' tk ((Eff.of_le l₁).trans g) ((Gs.of_le l₁).trans gs) F') hs hw)
/-- a name of data and one of another value -/
theorem sx_pairV {x y : Str} {p p' tp tpos : Pos} {kk kk' : Nat} {e₁ e₂ : Expr} {d : PyData} {R : Value → Heap → Prop} (F : Fm w mg mb B W env s.heap Δ) (ha : AOk k A) (p₁ : Ev w k env s.heap e₁ (D d)) (p₂ : Ev w k env s.heap e₂ R) (hx : Bd W env x) (hy : Bd W env y)
    (mono : ∀ v h h', Le h h' → R v h → R v h')
    (h : ∀ v h₁ h' tk, Le s.heap h₁ → R v h₁ → Gr env h₁ h' → Gs h₁ h' → Fm w mg mb B W env h' ((x, .d d) :: (y, .v v) :: Δ) → wpAny (model pr w) A (execs rest env) Q E { s with heap := h', toks := tk })
    (hs : swapsWithSole [.Tuple [.Name x p, .Name y p'] kk tp] (.Tuple [e₁, e₂] kk' tpos) pos.line env = pure false := by rfl) (hw : swappedStores [.Tuple [.Name x p, .Name y p'] kk tp] (.Tuple [e₁, e₂] kk' tpos) env = pure (some [x, y]) := by rfl)
    (hse : starEach [e₁, e₂] env = (false, eval e₁ env) :: starEach [e₂] env := by rfl) (hse' : starEach [e₂] env = (false, eval e₂ env) :: starEach [] env := by rfl) :
    wpAny (model pr w) A (execs (.Assign [.Tuple [.Name x p, .Name y p'] kk tp] (.Tuple [e₁, e₂] kk' tpos) pos :: rest) env) Q E s := by
  refine wpAny_execs_cons (Assign_Tuple_swapped ?_ hs hw)
  refine Tuple_ (spliced_more (p₁ A s _ E ha (.refl _) fun v₁ h₁ t₁ l₁ r₁ => spliced_more (p₂ A _ _ E ha l₁ fun v₂ h₂ t₂ l₂ r₂ => spliced_none (wpAny_newObj_type ?_ (by size_fits))) hse') hse)
  refine wpAny_unpackItems_tuple (items := #[v₁, v₂]) ha.hd ⟨_, Heap.get?_push_size _ rfl, rfl, _, rfl⟩ fun h₃ he => ?_
  generalize hH : Heap.push h₂ { cls := .type "tuple", data := .seq #[v₁, v₂] } = H at he
  have l₃ : Le h₂ h₃ := fun b o e => by
    have e' : H.get? b = some o := by rw [← hH]; exact Heap.get?_push_of_some _ e
    exact he b o (Nat.ne_of_lt (Heap.lt_size e')) e'
  show wpAny _ A (do holding [v₁] (bindName env y v₂); assignInOrder [bindName env x] [v₁]) _ _ _
  refine wpAny_bind (wpAny_holding (wpAny_bindName (st_any (s := { s with heap := h₃, toks := _ }) (F.le (l₁.trans (l₂.trans l₃))) hy fun h₄ t₄ g₄ gs₄ F₄ => ?_)))
  show wpAny _ A (do holding [] (bindName env x v₁); assignInOrder [] []) _ _ _
  refine wpAny_bind (wpAny_holding (bind1 F₄ hx (((r₁.le l₂).le l₃).gs gs₄) fun h₅ t₅ g₅ gs₅ F₅ => ?_))
  show wpAny _ A (pure ()) _ _ _
  exact wpAny_pure (h v₂ h₃ h₅ t₅ (l₁.trans (l₂.trans l₃)) (mono _ _ _ l₃ r₂) (g₄.trans g₅) (gs₄.trans gs₅) F₅)
/-- a cell's name turned in place -/
theorem sx_augC {x : Str} {p' : Pos} {op : Operator} {e : Expr} {d₁ d₂ d : PyData} (F : Fm w mg mb B W env s.heap Δ) (ha : AOk k A) (hx : Δ.lookup x = some (.d d₁)) (hl : env.kindOf x = some .cell) (hW : x ∈ W) (hc : (env.cells.lookup x).isSome = true) (p : Ev w k env s.heap e (D d₂))
    (hop : ∀ u v h₃, D d₁ u h₃ → D d₂ v h₃ → Cv w k h₃ (inplaceOp op u v) (D d))
    (h : ∀ h' tk, Gr env s.heap h' → Gs s.heap h' → Fm w mg mb B W env h' ((x, .d d) :: Δ) → wpAny (model pr w) A (execs rest env) Q E { s with heap := h', toks := tk }) :
    wpAny (model pr w) A (execs (.AugAssign (.Name x p') op e pos :: rest) env) Q E s := by
  obtain ⟨c, hc⟩ := Option.isSome_iff_exists.mp hc
  obtain ⟨ov, a, b⟩ := F.cell x c hc
  obtain ⟨u, rfl, ru⟩ := b _ hx (.inl hl)
  refine wpAny_execs_cons (wpAny_AugAssign_Name (wpAny_loadName_cell F.kind hl hc a (p A s _ E ha (.refl _) fun v h₁ t₁ l₁ r₁ => ?_)))
  refine hop u v h₁ (Rd.le ru l₁) r₁ A _ _ E ha (.refl _) fun r h₂ t₂ l₂ r₂ => ?_
  exact st_d (F.le (l₁.trans l₂)) (.inr ⟨hl, hW⟩) r₂ fun h' tk g gs F' => h h' tk ((Eff.of_le (l₁.trans l₂)).trans g) ((Gs.of_le (l₁.trans l₂)).trans gs) F'
/-- for k in d -/
theorem sx_forKeys {iter : Expr} {x : Str} {p : Pos} {body : List Stmt} {d : Addr} {kv : List (Str × Int)} {M : List Addr} {J : Nat → Heap → Prop} (F : Fm w mg mb B W env s.heap Δ) (ha : AOk k A) (ho : Ev w k env s.heap iter (fun u _ => u = .ref d)) (H : DInt w s.heap d kv) (od : Off env d)
    (hM : ∀ a ∈ M, (∃ o, s.heap.get? a = some o) ∧ a ≠ d)
    (h0 : ∀ h', Le s.heap h' → J 0 h') (mono : ∀ i, Steady s.heap (J i))
    (turn : ∀ i y n v h tk, kv[i]? = some (y, n) → Rd h v (.str y) → J i h → Eff env M s.heap h → wpAny (model pr w) A (assign (.Name x p) env v) (fun _ s₂ => wpAny (model pr w) A (execs body env) (TurnEnd env M (J (i + 1)) s h Q) (fun _ _ => False) s₂) (fun _ _ => False) { s with heap := h, toks := tk })
    (done : ∀ h tk, J kv.length h → Eff env M s.heap h → wpAny (model pr w) A (execs rest env) Q E { s with heap := h, toks := tk })
    (hs : ∀ x, foldedSetIterable iter env x = pure x := by intro _; rfl) : wpAny (model pr w) A (execs (.For (.Name x p) iter body [] pos :: rest) env) Q E s := by
  refine wpAny_execs_cons (wpAny_For (ho A s _ E ha (.refl _) fun v h₁ t₁ l₁ r₁ => ?_) hs)
  subst r₁
  have hsys := H.sys
  obtain ⟨h3, vals, hd, rfl⟩ := H.le l₁
  obtain ⟨ep, hat⟩ := hd.dictAt
  have hlen : (intPairs vals).length = (bare vals).length := by unfold intPairs bare; rw [List.length_map, List.length_map]
  refine wpAny_pyIter_dict (knd := strKind pr w) hsys hat ?_
  have hfresh : s.heap.get? h₁.objs.size = none := not_live_le l₁ (not_live (Nat.le_refl _))
  obtain ⟨oD, esD, nD, hoD, hdD⟩ := H.live
  have axne : d ≠ h₁.objs.size := by rintro rfl; rw [hfresh] at hoD; cases hoD
  obtain ⟨⟨oL, esL, nL, hoL, hdL⟩, hcells⟩ := F.live
  have Wk := Walks.dictKeys (prog := pr) (w := w) (knd := strKind pr w) (A := A.mark none) ha.hd h₁.objs.size d axne (intPairs vals) ep
  have effs : ∀ h, Eff env (h₁.objs.size :: M) (h₁.push { cls := .type "dict_keyiterator", data := .fields #[.ref d, .int 0 0, .int (intPairs vals).length 0, .int ep 0] }) h → Eff env M s.heap h := fun h hE b o x y z e => hE b o x y (fun hm => by
      rcases List.mem_cons.mp hm with rfl | hm
      · rw [hfresh] at e; cases e
      · exact z hm) (Le.push _ _ _ _ (l₁ _ _ e))
  refine for_core (J := J) (M := M) Wk ⟨⟨_, Heap.get?_push_size _ rfl, rfl, rfl⟩, hat.push _⟩ ?_ (h0 _ (l₁.trans (Le.push _ _))) ?_ ?_ ?_
  · intro b hb
    rcases List.mem_cons.mp hb with rfl | hb
    · exact ⟨fun e => (by rw [e, hoL] at hfresh; cases hfresh), fun x c e ec => (by
        obtain ⟨o, v, ho, _⟩ := hcells x c e
        rw [ec, hfresh] at ho; cases ho), fun hm => (by
        obtain ⟨⟨o, ho⟩, _⟩ := hM _ hm
        rw [hfresh] at ho; cases ho)⟩
    · simp at hb; subst hb
      exact ⟨od.1, od.2, fun hm => (hM _ hm).2 rfl⟩
  · intro i h h' hS hk hJ
    exact mono i _ h h' hfresh (fun o ho => by
      obtain ⟨⟨o', ho', _, hd⟩, _⟩ := hS
      rw [ho] at ho'; cases ho'; exact ⟨_, hd⟩) hk hJ
  · intro i v h tk hi hP hJ hS hE
    refine wpAny_pure ?_
    obtain ⟨y, u, hy, hkey⟩ := hP
    obtain ⟨t, rfl⟩ := Value.isStrOf_shape hkey
    obtain ⟨n, hn⟩ : ∃ n, (bare vals)[i]? = some (y, n) := by
      unfold intPairs at hy
      rw [List.getElem?_map] at hy
      obtain ⟨z, hz, e⟩ := Option.map_eq_some_iff.mp hy
      cases e
      exact ⟨z.2.1, by unfold bare; rw [List.getElem?_map, hz]; rfl⟩
    refine wpAny_mono (turn i y n _ h tk hn (.str h y t) hJ (effs h hE)) (fun _ s₂ e₂ => wpAny_mono e₂ (fun f s₃ e₃ => ?_) fun _ _ x => x) fun _ _ x => x
    cases f with
    | next => exact e₃
    | cont => exact e₃
    | brk => exact e₃
    | ret v => exact e₃
  · intro h tk hJ hE
    rw [hlen] at hJ
    exact done h tk hJ (effs h hE)
end
end
end Mine

namespace Mine
/-! the library's sort tree, with answers from a number for each item -/
def ok {α : Type} (n : Nat) (q : Nat → Int) (P : α → Prop) : KasT α → Prop
  | .ret a => P a
  | .ask i j k => i < n ∧ j < n ∧ ok n q P (k (decide (q i < q j)))
theorem ok_bind {α β : Type} {n : Nat} {q : Nat → Int} {P : β → Prop} {f : α → KasT β} : ∀ {t : KasT α}, ok n q (fun a => ok n q P (f a)) t → ok n q P (t.bind f)
  | .ret _, h => h
  | .ask _ _ _, h => ⟨h.1, h.2.1, ok_bind h.2.2⟩
theorem ok_mono {α : Type} {n : Nat} {q : Nat → Int} {P P' : α → Prop} (hp : ∀ a, P a → P' a) : ∀ {t : KasT α}, ok n q P t → ok n q P' t
  | .ret _, h => hp _ h
  | .ask _ _ _, h => ⟨h.1, h.2.1, ok_mono hp h.2.2⟩
/-- an order of the items -/
structure Perm' (n : Nat) (p : Array Nat) : Prop where
  perm : p.Perm (List.toArray (List.range n))
theorem Perm'.size {n : Nat} {p : Array Nat} (h : Perm' n p) : p.size = n := by
  have := (h.perm.toList).length_eq
  simpa using this
theorem Perm'.lt {n : Nat} {p : Array Nat} (h : Perm' n p) {i : Nat} (hi : i < n) : p.getD i 0 < n := by
  have hs := h.size
  have e : p.getD i 0 = p[i] := by simp [Array.getD, hs, hi]
  rw [e]
  have hm : p[i] ∈ p.toList := Array.getElem_mem_toList (by omega)
  have := (h.perm.toList).mem_iff.mp hm
  simpa using this
theorem Perm'.inj {n : Nat} {p : Array Nat} (h : Perm' n p) {i j : Nat} (hi : i < n) (hj : j < n) (hij : i ≠ j) : p.getD i 0 ≠ p.getD j 0 := by
  have hs := h.size
  have e : ∀ i, (hi : i < n) → p.getD i 0 = p.toList[i]'(by simp [hs, hi]) := fun i hi => by simp [Array.getD, hs, hi]
  have nd : p.toList.Nodup := (h.perm.toList).nodup_iff.mpr (by simpa using List.nodup_range)
  rw [e i hi, e j hj]
  intro e2
  have pw := List.pairwise_iff_getElem.mp nd
  rcases Nat.lt_or_gt_of_ne hij with hlt | hgt
  · exact pw i j _ _ hlt e2
  · exact pw j i _ _ hgt e2.symm
theorem Perm'.of {n : Nat} {p p' : Array Nat} (h : Perm' n p) (x : p'.Perm p) : Perm' n p' := ⟨x.trans h.perm⟩
/-- the first m rise -/
def Up (q : Nat → Int) (p : Array Nat) (m : Nat) : Prop := ∀ i, i + 1 < m → q (p.getD i 0) < q (p.getD (i + 1) 0)
def Down (q : Nat → Int) (p : Array Nat) (m : Nat) : Prop := ∀ i, i + 1 < m → q (p.getD (i + 1) 0) < q (p.getD i 0)
theorem Up.lt {q : Nat → Int} {p : Array Nat} {m : Nat} (h : Up q p m) : ∀ {j i : Nat}, i < j → j < m → q (p.getD i 0) < q (p.getD j 0)
  | 0, i, hij, _ => absurd hij (Nat.not_lt_zero _)
  | j + 1, i, hij, hj => by
    have h1 := h j hj
    rcases Nat.lt_or_ge i j with hlt | hge
    · exact Int.lt_trans (h.lt hlt (by omega)) h1
    · obtain rfl : i = j := by omega
      exact h1
section
variable {n : Nat} {q : Nat → Int}
theorem getD_mirror {p : Array Nat} {j : Nat} (hj : j ≤ p.size) (i : Nat) : (kas_rev p 0 j).getD i 0 = if i < j then p.getD (j - 1 - i) 0 else p.getD i 0 := by
  have h := getElem?_mirror_all (xs := p) (i := 0) hj i
  rw [Array.getD_eq_getD_getElem?, show kas_rev p 0 j = mirror p 0 j ((j - 0) / 2) from rfl, h]
  by_cases hi : i < j
  · rw [if_pos ⟨Nat.zero_le _, hi⟩, if_pos hi, Array.getD_eq_getD_getElem?, show 0 + j - 1 - i = j - 1 - i by omega]
  · rw [if_neg (fun x => hi x.2), if_neg hi, Array.getD_eq_getD_getElem?]
theorem Down.rev {p : Array Nat} {m : Nat} (h : Down q p m) (hm : m ≤ p.size) : Up q (kas_rev p 0 m) m := by
  intro i hi
  rw [getD_mirror hm, getD_mirror hm, if_pos (by omega), if_pos hi]
  have := h (m - 1 - (i + 1)) (by omega)
  rwa [show m - 1 - (i + 1) + 1 = m - 1 - i by omega] at this
variable (hq : ∀ i j, i < n → j < n → q i = q j → i = j)
include hq
theorem asc_ok {p : Array Nat} (hp : Perm' n p) {P : Nat → Prop} : ∀ (f m : Nat), 1 ≤ m → m + f = n → Up q p m → (∀ r, 1 ≤ r → r ≤ n → m ≤ r → Up q p r → (r < n → q (p.getD r 0) < q (p.getD (r - 1) 0)) → P r) → ok n q P (kas_asc p f m)
  | 0, m, h1, hn, hu, h => h m h1 (by omega) (Nat.le_refl _) hu (fun x => by omega)
  | f + 1, m, h1, hn, hu, h => by
    refine ⟨hp.lt (by omega), hp.lt (by omega), ?_⟩
    by_cases hc : q (p.getD m 0) < q (p.getD (m - 1) 0)
    · rw [decide_eq_true hc]; dsimp only; rw [if_pos rfl]
      exact h m h1 (by omega) (Nat.le_refl _) hu fun _ => hc
    · rw [decide_eq_false hc]; dsimp only; rw [if_neg (by decide)]
      refine asc_ok hp f (m + 1) (by omega) (by omega) ?_ fun r a b c d e => h r a b (by omega) d e
      intro i hi
      rcases Nat.lt_or_ge (i + 1) m with hlt | hge
      · exact hu i hlt
      · obtain rfl : i = m - 1 := by omega
        rw [show m - 1 + 1 = m by omega]
        have hne : q (p.getD m 0) ≠ q (p.getD (m - 1) 0) := fun e => hp.inj (i := m) (j := m - 1) (by omega) (by omega) (by omega) (hq _ _ (hp.lt (by omega)) (hp.lt (by omega)) e)
        omega
theorem desc_ok {p : Array Nat} (hp : Perm' n p) {P : Array Nat × Nat × Nat → Prop} : ∀ (f m : Nat), 1 ≤ m → m + f = n → Down q p m → (∀ r, 1 ≤ r → r ≤ n → Down q p r → P (p, r, 0)) → ok n q P (kas_desc f p m 0)
  | 0, m, h1, hn, hu, h => h m h1 (by omega) hu
  | f + 1, m, h1, hn, hu, h => by
    refine ⟨hp.lt (by omega), hp.lt (by omega), ?_⟩
    by_cases hc : q (p.getD m 0) < q (p.getD (m - 1) 0)
    · rw [decide_eq_true hc]; dsimp only; rw [if_pos rfl, if_neg (by decide)]
      refine desc_ok hp f (m + 1) (by omega) (by omega) ?_ h
      intro i hi
      rcases Nat.lt_or_ge (i + 1) m with hlt | hge
      · exact hu i hlt
      · obtain rfl : i = m - 1 := by omega
        rw [show m - 1 + 1 = m by omega]
        exact hc
    · rw [decide_eq_false hc]; dsimp only; rw [if_neg (by decide)]
      refine ⟨hp.lt (by omega), hp.lt (by omega), ?_⟩
      have hne : q (p.getD m 0) ≠ q (p.getD (m - 1) 0) := fun e => hp.inj (i := m) (j := m - 1) (by omega) (by omega) (by omega) (hq _ _ (hp.lt (by omega)) (hp.lt (by omega)) e)
      rw [decide_eq_true (by omega)]; dsimp only; rw [if_pos rfl]
      exact h m h1 (by omega) hu
theorem count_ok {P : Nat × Array Nat → Prop} {p : Array Nat} (hp : Perm' n p) (h2 : 2 ≤ n) (h : ∀ m p', 1 ≤ m → m ≤ n → Perm' n p' → Up q p' m → P (m, p')) : ok n q P (kas_count n p) := by
  unfold kas_count
  refine ok_bind (asc_ok hq hp (n - 1) 1 (Nat.le_refl _) (by omega) (fun i hi => by omega) fun r h1 hr _ hu hlt => ?_)
  by_cases hrn : r = n
  · subst hrn
    rw [if_pos (by simp)]
    exact h r p h1 hr hp hu
  · rw [if_neg (by simpa using hrn)]
    by_cases hr1 : r > 1
    · rw [if_pos hr1]
      refine ⟨hp.lt (by omega), hp.lt (by omega), ?_⟩
      rw [decide_eq_true (hu.lt (by omega) (by omega))]; dsimp only; rw [if_pos rfl]
      exact h r p h1 hr hp hu
    · rw [if_neg hr1]
      obtain rfl : r = 1 := by omega
      unfold kas_descPart
      refine ok_bind (desc_ok hq hp (n - 2) 2 (by omega) (by omega) ?_ fun m hm1 hmn hd => ?_)
      · intro i hi
        obtain rfl : i = 0 := by omega
        exact hlt (by omega)
      · rw [if_neg (by simp)]
        unfold kas_tail3
        have hp' : Perm' n (kas_rev p 0 m) := hp.of (mirror_perm _ _ _ _)
        refine ok_bind (asc_ok hq hp' (n - m) m hm1 (by omega) (hd.rev (by rw [hp.size]; exact hmn)) fun r a b c d e => ?_)
        exact h r _ a b hp' d
theorem place_ok {p : Array Nat} (hp : Perm' n p) {k : Nat} (hk : k < n) (hu : Up q p k) {P : Nat → Prop} (h : ∀ l, l ≤ k → (∀ i, i < l → q (p.getD i 0) < q (p.getD k 0)) → (∀ i, l ≤ i → i < k → q (p.getD k 0) < q (p.getD i 0)) → P l) :
    ∀ (f l r : Nat), l ≤ r → r ≤ k → r ≤ l + f → (∀ i, i < l → q (p.getD i 0) < q (p.getD k 0)) → (∀ i, r ≤ i → i < k → q (p.getD k 0) < q (p.getD i 0)) → ok n q P (kas_place p k f l r)
  | 0, l, r, hlr, hrk, hf, ha, hb => by
    obtain rfl : l = r := by omega
    exact h l hrk ha hb
  | f + 1, l, r, hlr, hrk, hf, ha, hb => by
    unfold kas_place
    by_cases hge : l ≥ r
    · rw [if_pos hge]
      obtain rfl : l = r := by omega
      exact h l hrk ha hb
    · rw [if_neg hge]
      refine ⟨hp.lt hk, hp.lt (by omega), ?_⟩
      have hmid : (l + r) / 2 < k := by omega
      by_cases hc : q (p.getD k 0) < q (p.getD ((l + r) / 2) 0)
      · rw [decide_eq_true hc]; dsimp only; rw [if_pos rfl]
        refine place_ok hp hk hu h f l ((l + r) / 2) (by omega) (by omega) (by omega) ha fun i hi hik => ?_
        rcases Nat.lt_or_ge ((l + r) / 2) i with hlt | hge
        · exact Int.lt_trans hc (hu.lt hlt hik)
        · obtain rfl : i = (l + r) / 2 := by omega
          exact hc
      · rw [decide_eq_false hc]; dsimp only; rw [if_neg (by decide)]
        refine place_ok hp hk hu h f ((l + r) / 2 + 1) r (by omega) (by omega) (by omega) (fun i hi => ?_) hb
        have hne : q (p.getD k 0) ≠ q (p.getD ((l + r) / 2) 0) := fun e => hp.inj (i := k) (j := (l + r) / 2) hk (by omega) (by omega) (hq _ _ (hp.lt hk) (hp.lt (by omega)) e)
        rcases Nat.lt_or_ge i ((l + r) / 2) with hlt | hge
        · exact Int.lt_trans (hu.lt hlt hmid) (by omega)
        · obtain rfl : i = (l + r) / 2 := by omega
          omega
theorem bin_ok {P : Array Nat → Prop} : ∀ (f : Nat) (p : Array Nat) (k : Nat), Perm' n p → 1 ≤ k → k + f = n → Up q p k → (∀ p', Perm' n p' → Up q p' n → P p') → ok n q P (kas_bin f p k)
  | 0, p, k, hp, h1, hn, hu, h => h p hp (by obtain rfl : k = n := by omega
                                             exact hu)
  | f + 1, p, k, hp, h1, hn, hu, h => by
    have hk : k < n := by omega
    refine ok_bind (place_ok hq hp hk hu (fun l hl ha hb => ?_) k 0 k (Nat.zero_le _) (Nat.le_refl _) (by omega) (fun i hi => absurd hi (Nat.not_lt_zero _)) (fun i h1 h2 => by omega))
    refine bin_ok f _ (k + 1) (hp.of (bubble_perm _ _ _)) (by omega) (by omega) ?_ h
    have g : ∀ i, (bubble p k (k - l)).getD i 0 = if i = l then p.getD k 0 else if l < i ∧ i ≤ k then p.getD (i - 1) 0 else p.getD i 0 := by
      intro i
      rw [Array.getD_eq_getD_getElem?, getElem?_bubble (by rw [hp.size]; exact hk) (k - l) (by omega), show k - (k - l) = l by omega]
      split
      · rw [Array.getD_eq_getD_getElem?]
      · split <;> rw [Array.getD_eq_getD_getElem?]
    intro i hi
    rw [g, g]
    by_cases h1 : i + 1 < l
    · rw [if_neg (by omega), if_neg (by omega), if_neg (by omega), if_neg (by omega)]
      exact hu i (by omega)
    · by_cases h2 : i + 1 = l
      · rw [if_neg (by omega), if_neg (by omega), if_pos h2]
        exact ha i (by omega)
      · by_cases h3 : i = l
        · rw [if_pos h3, if_neg (by omega), if_pos (by omega)]
          rw [show i + 1 - 1 = i by omega]
          exact hb i (by omega) (by omega)
        · rw [if_neg h3, if_pos (by omega), if_neg (by omega), if_pos (by omega)]
          have := hu (i - 1) (by omega)
          rwa [show i - 1 + 1 = i + 1 - 1 by omega] at this
theorem sort_ok {P : Array Nat → Prop} (h2 : 2 ≤ n) (h : ∀ p, Perm' n p → Up q p n → P p) : ok n q P (kas_sort n) := by
  unfold kas_sort
  refine ok_bind (count_ok hq ⟨.refl _⟩ h2 fun m p h1 hm hp hu => ?_)
  by_cases hlt : m < n
  · rw [if_pos hlt]
    have e : max m 1 = m := by omega
    rw [e]
    exact bin_ok hq (n - m) p m hp h1 (by omega) hu h
  · rw [if_neg hlt]
    obtain rfl : m = n := by omega
    exact h p hp hu
end
/-- the tree as the machine runs it -/
theorem ok_wp {α : Type} {n : Nat} {q : Nat → Int} {P : α → Prop} {cmp : Nat → Nat → (Bool → Shared → Prop) → Shared → Prop} {Q : α → Shared → Prop} {I : Shared → Prop}
    (hc : ∀ i j (C : Bool → Shared → Prop) s, i < n → j < n → I s → (∀ s', I s' → C (decide (q i < q j)) s') → cmp i j C s) (hQ : ∀ a s, I s → P a → Q a s) : ∀ (t : KasT α) (s : Shared), I s → ok n q P t → t.kasWp cmp Q s
  | .ret a, s, hI, h => hQ a s hI h
  | .ask i j k, s, hI, h => hc i j _ s h.1 h.2.1 hI fun s' hI' => ok_wp hc hQ (k _) s' hI' h.2.2
end Mine

namespace Mine
/-- a sort key -/
def KeyAt (h : Heap) (k : Value) (c : Int × Int) : Prop := ∃ t o n t₁ t₂, k = .ref t ∧ h.get? t = some o ∧ o.cls = .type "tuple" ∧ o.data = .seq #[.int c.1 t₁, .int c.2 t₂] n
theorem KeyAt.of_rd {h : Heap} {k : Value} {c : Int × Int} (x : Rd h k (.tuple [.int c.1, .int c.2])) : KeyAt h k c := by
  obtain ⟨a, o, vs, n, rfl, ho, hc, hd, r⟩ := x.tuple_inv
  obtain ⟨v₁, r₁, e₁, x₁, r⟩ := r.cons_inv
  obtain ⟨v₂, r₂, e₂, x₂, r⟩ := r.cons_inv
  obtain ⟨t₁, rfl⟩ := Rd.int_inv x₁
  obtain ⟨t₂, rfl⟩ := Rd.int_inv x₂
  have e₃ := r.nil_inv
  subst e₃ e₂
  have : vs = #[.int c.1 t₁, .int c.2 t₂] := Array.toList_inj.mp (by simpa using e₁)
  subst this
  exact ⟨a, o, n, t₁, t₂, rfl, ho, hc, hd⟩
theorem KeyAt.but {h h' : Heap} {k : Value} {c : Int × Int} {b : Addr} {xs : Array Value} {n : Nat} (x : KeyAt h k c) (hb : h.get? b = some (seqObj "list" xs n)) (kk : ∀ q o, q ≠ b → h.get? q = some o → h'.get? q = some o) : KeyAt h' k c := by
  obtain ⟨t, o, n, t₁, t₂, e, ho, hc, hd⟩ := x
  refine ⟨t, o, n, t₁, t₂, e, kk t o ?_ ho, hc, hd⟩
  rintro rfl
  rw [hb] at ho; cases ho
  injection hc with hc
  exact absurd hc (by decide)
theorem KeyAt.le {h h' : Heap} {k : Value} {c : Int × Int} (x : KeyAt h k c) (l : Le h h') : KeyAt h' k c := by
  obtain ⟨t, o, n, t₁, t₂, e, ho, r⟩ := x
  exact ⟨t, o, n, t₁, t₂, e, l _ _ ho, r⟩
/-- keys, one after the other -/
def KeysAt (h : Heap) (ks : List Value) (cs : List (Int × Int)) : Prop := ks.length = cs.length ∧ ∀ (i : Nat) k c, ks[i]? = some k → cs[i]? = some c → KeyAt h k c
theorem KeysAt.snoc {h : Heap} {ks : List Value} {cs : List (Int × Int)} {k : Value} {c : Int × Int} (x : KeysAt h ks cs) (y : KeyAt h k c) : KeysAt h (ks ++ [k]) (cs ++ [c]) := by
  refine ⟨by simp [x.1], fun i k' c' hk hc => ?_⟩
  rcases Nat.lt_or_ge i ks.length with hlt | hge
  · rw [List.getElem?_append_left hlt] at hk
    rw [List.getElem?_append_left (by have := x.1; omega)] at hc
    exact x.2 i k' c' hk hc
  · rw [List.getElem?_append_right hge] at hk
    rw [List.getElem?_append_right (by have := x.1; omega)] at hc
    have hi : i - ks.length = 0 := by
      rcases Nat.eq_zero_or_pos (i - ks.length) with h | h
      · exact h
      · rw [List.getElem?_eq_none (by simp; omega)] at hk; cases hk
    rw [hi] at hk
    rw [show i - cs.length = 0 by have := x.1; omega] at hc
    simp only [List.getElem?_cons_zero, Option.some.injEq] at hk hc
    subst hk hc
    exact y
theorem KeysAt.mono {h h' : Heap} {ks : List Value} {cs : List (Int × Int)} (x : KeysAt h ks cs) (m : ∀ k c, KeyAt h k c → KeyAt h' k c) : KeysAt h' ks cs := ⟨x.1, fun i k c a b => m k c (x.2 i k c a b)⟩
section
variable {w : World} {A : Around} {E : Value → Shared → Prop} {s : Shared}
/-- the keys are made -/
theorem keys_run {H₀ : Heap} {a kS : Addr} {f : Value} {e1 : Nat} {n : Nat} {body : Value → PUnit → Sem (ForInStep PUnit)} {R : PUnit → Shared → Prop} {key : Value → Int × Int} (hn : n < 64) (hkS : H₀.get? kS = none)
    (hka : kS ≠ a)
    {V : Value → Prop} (hf : ∀ v, V v → ∀ s Q, Le H₀ s.heap → (∀ k h' tk, Le s.heap h' → KeyAt h' k (key v) → Q k { s with heap := h', toks := tk }) → wpAny (model pr w) A (call f [v]) Q (fun _ _ => False) s)
    (hb : ∀ v (s : Shared) (R' : ForInStep PUnit → Shared → Prop), wpAny (model pr w) A ((call f [v]).attempt) (fun r s' => match r with
      | .ok k => wpAny (model pr w) A (Builtin.List.listUpdate (.ref kS) (·.push k)) (fun _ s'' => R' (.yield ⟨⟩) s'') E s'
      | .error _ => False) E s → wpAny (model pr w) A (body v ⟨⟩) R' E s) : ∀ (r ks : List Value) (done : List Value) (e : Nat) (s : Shared), (∀ v ∈ r, V v) → ks.length + r.length ≤ n →
      s.heap.get? kS = some (seqObj "list" ks.toArray e) → s.heap.get? a = some (seqObj "list" #[] e1) → Le H₀ s.heap → KeysAt s.heap ks (done.map key) →
      (∀ ks' e' h' tk, h'.get? kS = some (seqObj "list" (List.toArray ks') e') → h'.get? a = some (seqObj "list" #[] e1) → Le H₀ h' → KeysAt h' ks' ((done ++ r).map key) → R ⟨⟩ { s with heap := h', toks := tk }) →
      wpAny (model pr w) A (forIn r PUnit.unit body) R E s
  | [], ks, done, e, s, hv, hl, h1, h2, h3, h4, h => by
    rw [List.forIn_nil]
    refine wpAny_pure (h ks e s.heap s.toks h1 h2 h3 (by simpa using h4))
  | v :: r, ks, done, e, s, hv, hl, h1, h2, h3, h4, h => by
    rw [List.forIn_cons]
    simp only [List.length_cons] at hl
    refine wpAny_bind (hb v s _ (wpAny_attempt (wpAny_mono (hf v (hv v (.head _)) s (fun k s' => ∃ h' tk, s' = { s with heap := h', toks := tk } ∧ Le s.heap h' ∧ KeyAt h' k (key v)) h3 fun k h' tk l y => ⟨h', tk, rfl, l, y⟩) (fun k s' hk => ?_) fun _ _ x => x.elim)))
    obtain ⟨h', tk, rfl, l, y⟩ := hk
    have g1 := l _ _ h1
    have s1 := Heap.SameBut.update h' kS (Obj.mapSeq (·.push k))
    have ea : (List.toArray ks).push k = List.toArray (ks ++ [k]) := by simp
    obtain ⟨c2, hc2⟩ : ∃ c2, (h'.update kS (Obj.mapSeq (·.push k))).get? kS = some (seqObj "list" (List.toArray (ks ++ [k])) c2) := ⟨_, by rw [← ea]; exact get?_update_seq g1 (·.push k)⟩
    show wpAny _ _ _ _ _ { s with heap := h', toks := tk }
    refine listUpdate_at g1 rfl ?_ (by rw [List.size_toArray, sizeLine_eq]; omega) (Nat.le_trans (Nat.le_of_eq (Array.size_push ..)) (by rw [List.size_toArray, sizeLine_eq]; omega))
    show wpAny _ _ (forIn r PUnit.unit body) _ _ { s with heap := h'.update kS (Obj.mapSeq (·.push k)), toks := tk }
    refine keys_run hn hkS hka hf hb r (ks ++ [k]) (done ++ [v]) c2 _ (fun u hu => hv u (.tail _ hu)) (by simp only [List.length_append, List.length_singleton]; omega) hc2 (s1.extBut _ _ (Ne.symm hka) (l _ _ h2)) (fun b o e => s1.extBut b o (by rintro rfl; rw [hkS] at e; cases e) (l b o (h3 b o e))) ?_ ?_
    · have h4' := (h4.mono fun k c x => x.le l).mono (h' := h'.update kS (Obj.mapSeq (·.push k))) fun k c x => x.but g1 fun q o hq e => s1.extBut q o hq e
      have y' := y.but g1 fun q o hq e => s1.extBut q o hq e
      rw [List.map_append]
      exact h4'.snoc y'
    · intro ks' e' h'' tk' x1 x2 x3 x4
      exact h ks' e' h'' tk' x1 x2 x3 (by simpa using x4)
def qOf (c : Int × Int) : Int := 1024 * c.1 + c.2
theorem key_lt {ks : List Value} {cs : List (Int × Int)} {i j : Nat} {C : Bool → Shared → Prop} (hk : KeysAt s.heap ks cs) (hr : ∀ c ∈ cs, -500 ≤ c.2 ∧ c.2 ≤ 500) (hi : i < ks.length) (hj : j < ks.length)
    (h : C (decide (qOf (cs.getD i (0, 0)) < qOf (cs.getD j (0, 0)))) s) : wpAny (model pr w) A (keyLt' (tuples' true) (ks.getD i Value.none) (ks.getD j Value.none)) C (fun _ _ => False) s := by
  have hl := hk.1
  have gi : ∀ i, (hi : i < ks.length) → ks[i]? = some (ks.getD i Value.none) := fun i hi => by simp [hi]
  have gc : ∀ i, (hi : i < ks.length) → cs[i]? = some (cs.getD i (0, 0)) := fun i hi => by rw [hl] at hi; simp [hi]
  obtain ⟨t, o, n, t₁, t₂, e, ho, hc, hd⟩ := hk.2 i _ _ (gi i hi) (gc i hi)
  obtain ⟨t', o', n', t₁', t₂', e', ho', hc', hd'⟩ := hk.2 j _ _ (gi j hj) (gc j hj)
  have ri := hr _ (List.mem_of_getElem? (gc i hi))
  have rj := hr _ (List.mem_of_getElem? (gc j hj))
  rw [e, e']
  generalize cs.getD i (0, 0) = c at *
  generalize cs.getD j (0, 0) = c' at *
  obtain ⟨x, y⟩ := c
  obtain ⟨x', y'⟩ := c'
  dsimp only at *
  unfold qOf at h
  dsimp only at h
  refine kat_lt ho hd ho' hd' ?_
  refine kat_cons (wpAny_eqBool_int ?_)
  refine kat_go (fun ex => kat_yes ?_) fun ex => kat_no ?_
  · have ex : x = x' := by simpa using ex
    refine kat_cons (wpAny_eqBool_int ?_)
    refine kat_go (fun ey => kat_yes (kat_nil ?_)) fun ey => kat_no ?_
    · have ey : y = y' := by simpa using ey
      subst ex ey
      rw [decide_eq_false (by omega)] at h
      exact h
    · show wpAny _ _ (oneLt' false _ _) _ _ _
      refine kat_one _ _ (P.lt_int ?_)
      show C (decide (y < y')) s
      have : (1024 * x + y < 1024 * x' + y') = (y < y') := by rw [ex]; simp
      simp only [this] at h
      exact h
  · show wpAny _ _ (oneLt' true _ _) _ _ _
    have ex : x ≠ x' := by simpa using ex
    refine oneLt_int ?_
    have : (1024 * x + y < 1024 * x' + y') = (x < x') := by
      apply propext
      constructor <;> intro _ <;> omega
    simp only [this] at h
    exact h
end
end Mine

namespace Mine
theorem Rd.unique {h : Heap} {v : Value} {d d' : PyData} (x : Rd h v d) (y : Rd h v d') : d = d' := by
  obtain ⟨⟨as, r⟩, _⟩ := x
  obtain ⟨⟨bs, r'⟩, _⟩ := y
  first | exact Reads.unique_data r r' | exact (Reads.unique (h := h) r r').1 | exact (ReadsAll.unique (.cons r .nil) (.cons r' .nil)).1 |> fun e => (List.cons.inj e).1
theorem pt_inj {p q : P2} (h : pt p = pt q) : p = q := by
  have := eqv_pt p q
  rw [h, eqv_pt] at this
  simpa using this.symm
def skey (p : P2) : Int × Int := (p.2, -p.1)
open Classical in
noncomputable def keyOf (h : Heap) (v : Value) : Int × Int := if hp : ∃ p, Rd h v (pt p) then skey hp.choose else (0, 0)
theorem keyOf_eq {h : Heap} {v : Value} {p : P2} (x : Rd h v (pt p)) : keyOf h v = skey p := by
  have hp : ∃ p, Rd h v (pt p) := ⟨p, x⟩
  unfold keyOf
  rw [dif_pos hp, pt_inj (hp.choose_spec.unique x)]
theorem keyOf_map {h : Heap} : ∀ {vs : List Value} {pts : List P2}, RdL h vs (pts.map pt) → vs.map (keyOf h) = pts.map skey
  | _, [], r => by rw [r.nil_inv]; rfl
  | _, p :: pts, r => by
    obtain ⟨v, vs, rfl, x, r⟩ := r.cons_inv
    rw [List.map_cons, List.map_cons, keyOf_eq x, keyOf_map r]
theorem RdL.mem {h : Heap} : ∀ {vs : List Value} {pts : List P2}, RdL h vs (pts.map pt) → ∀ v ∈ vs, ∃ p ∈ pts, Rd h v (pt p)
  | _, [], r, v, hv => by rw [r.nil_inv] at hv; cases hv
  | _, p :: pts, r, v, hv => by
    obtain ⟨u, vs, rfl, x, r⟩ := r.cons_inv
    rcases List.mem_cons.mp hv with rfl | hv
    · exact ⟨p, .head _, x⟩
    · obtain ⟨q, hq, y⟩ := r.mem v hv
      exact ⟨q, .tail _ hq, y⟩
def before (p q : P2) : Prop := qOf (skey p) < qOf (skey q)
theorem sorted_unique : ∀ {xs ys : List P2}, xs.Perm ys → xs.Pairwise before → ys.Pairwise before → xs = ys
  | [], ys, hp, _, _ => (List.nil_perm.mp hp).symm ▸ rfl
  | x :: xs, [], hp, _, _ => absurd hp.length_eq (by simp)
  | x :: xs, y :: ys, hp, hx, hy => by
    have hx' := List.pairwise_cons.mp hx
    have hy' := List.pairwise_cons.mp hy
    have e : x = y := by
      rcases List.mem_cons.mp (hp.mem_iff.mp (.head _)) with e | e
      · exact e
      · rcases List.mem_cons.mp (hp.mem_iff.mpr (.head _ : y ∈ y :: ys)) with e' | e'
        · exact e'.symm
        · have h1 := hx'.1 y e'
          have h2 := hy'.1 x e
          unfold before at h1 h2
          omega
    subst e
    rw [sorted_unique (List.perm_cons x |>.mp hp) hx'.2 hy'.2]
section
variable {w : World} {A : Around} {E : Value → Shared → Prop} {s : Shared}
theorem KeysAt.firsts {h : Heap} : ∀ {ks : List Value} {cs : List (Int × Int)}, KeysAt h ks cs → ∃ fs, KatTups h ks fs ∧ fs.length = ks.length ∧ ∀ f ∈ fs, ∃ i t, f = Value.int i t
  | [], cs, _ => ⟨[], .nil, rfl, fun _ h => nomatch h⟩
  | k :: ks, [], x => absurd x.1 (by simp)
  | k :: ks, c :: cs, x => by
    have x' : KeysAt h ks cs := ⟨by have := x.1; simpa using this, fun i k' c' a b => x.2 (i + 1) k' c' (by simpa using a) (by simpa using b)⟩
    obtain ⟨fs, h1, h2, h3⟩ := x'.firsts
    obtain ⟨t, o, n, t₁, t₂, rfl, ho, hc, hd⟩ := x.2 0 k c rfl rfl
    exact ⟨.int c.1 t₁ :: fs, .cons ho hc hd (by simp) h1, by simp [h2], fun f hf => by
      rcases List.mem_cons.mp hf with rfl | hf
      · exact ⟨_, _, rfl⟩
      · exact h3 f hf⟩
theorem qOf_inj {pts : List P2} (near : ∀ p ∈ pts, Near p) (nd : pts.Nodup) {i j : Nat} (hi : i < pts.length) (hj : j < pts.length) (e : qOf ((pts.map skey).getD i (0, 0)) = qOf ((pts.map skey).getD j (0, 0))) : i = j := by
  have g : ∀ i (hi : i < pts.length), (pts.map skey).getD i (0, 0) = skey pts[i] := fun i hi => by simp [hi]
  rw [g i hi, g j hj] at e
  have n1 := near _ (List.getElem_mem hi)
  have n2 := near _ (List.getElem_mem hj)
  have : pts[i] = pts[j] := by
    generalize pts[i] = p at *
    generalize pts[j] = q at *
    obtain ⟨a, b⟩ := p
    obtain ⟨c, d⟩ := q
    unfold qOf skey at e
    obtain ⟨a1, a2, a3, a4⟩ := n1
    obtain ⟨b1, b2, b3, b4⟩ := n2
    dsimp only at *
    have h1 : b = d := by omega
    have h2 : a = c := by omega
    rw [h1, h2]
  rcases Nat.lt_trichotomy i j with h | h | h
  · exact absurd this (List.pairwise_iff_getElem.mp nd i j hi hj h)
  · exact h
  · exact absurd this.symm (List.pairwise_iff_getElem.mp nd j i hj hi h)
theorem map_range_getD (pts : List P2) : (List.range pts.length).map (fun i => pts.getD i (0, 0)) = pts := by
  refine List.ext_getElem (by simp) fun i h1 h2 => ?_
  simp [h2]
theorem RdL.of_map {h : Heap} {f : Nat → Value} {g : Nat → PyData} : ∀ (l : List Nat), (∀ i ∈ l, Rd h (f i) (g i)) → RdL h (l.map f) (l.map g)
  | [], _ => .nil _
  | i :: l, x => .cons (x i (.head _)) (RdL.of_map l fun j hj => x j (.tail _ hj))
theorem tree_ok {a q : Addr} {H₀ : Heap} {vs : List Value} {pts ps : List P2} {P : PySem.Fin → Shared → Prop} (rv : RdL H₀ vs (pts.map pt)) (h1 : 1 ≤ pts.length) (h64 : pts.length < 64) (near : ∀ p ∈ pts, Near p) (nd : pts.Nodup)
    (hperm : ps.Perm pts) (hsort : ps.Pairwise before) (hoL : s.heap.get? a = some (seqObj "list" vs.toArray 0)) (keep : Le H₀ s.heap) (fresh : H₀.get? a = none)
    (hf : ∀ v p, p ∈ pts → Rd H₀ v (pt p) → ∀ (s' : Shared) (Q : Value → Shared → Prop), Le H₀ s'.heap → (∀ k h' tk, Le s'.heap h' → KeyAt h' k (skey p) → Q k { s' with heap := h', toks := tk }) → wpAny (model pr w) A (call (.ref q) [v]) Q (fun _ _ => False) s')
    (h : ∀ h' tk, Le H₀ h' → Rd h' (.ref a) (.list (ps.map pt)) → P (.done (.ret .none)) { s with heap := h', toks := tk }) : wpAny (model pr w) A (ksk_tree a (.ref q) false) P E s := by
  have hlen : vs.length = pts.length := by simpa using rv.length
  obtain ⟨H, gg, dd, tt, oo⟩ := s
  dsimp only at hoL keep
  have s1 := Heap.SameBut.update H a (Obj.mapSeq fun _ => (#[] : Array Value))
  obtain ⟨e1, ho1⟩ : ∃ e1, (H.update a (Obj.mapSeq fun _ => (#[] : Array Value))).get? a = some (seqObj "list" #[] e1) := ⟨_, get?_update_seq hoL fun _ => #[]⟩
  generalize hH1 : H.update a (Obj.mapSeq fun _ => (#[] : Array Value)) = H1 at *
  have k1 : Le H₀ H1 := fun b o e => s1.extBut b o (by rintro rfl; rw [fresh] at e; cases e) (keep b o e)
  unfold ksk_tree
  refine wpAny_bind (listItems_at hoL rfl ?_)
  refine wpAny_bind (listUpdate_at hoL rfl ?_ (by rw [List.size_toArray, sizeLine_eq]; omega) (Nat.zero_le _))
  show wpAny _ _ _ _ _ ⟨H.update a (Obj.mapSeq fun _ => (#[] : Array Value)), gg, dd, tt, oo⟩
  rw [hH1]
  refine wpAny_bind (seqEpoch_at ho1 rfl ?_)
  refine wpAny_bind (wpAny_newTuple ?_ (by show vs.length ≤ _; rw [sizeLine_eq]; omega))
  refine wpAny_bind (wpAny_newList ?_ (Nat.zero_le _))
  refine wpAny_holding ?_
  show wpAny _ _ (ksk_rest a (.ref q) false vs.toArray e1 (.ref (H1.push (seqObj "tuple" vs.toArray 0)).objs.size)) _ _ ⟨(H1.push (seqObj "tuple" vs.toArray 0)).push (seqObj "list" #[] 0), gg, dd, tt, oo⟩
  have hkS : ((H1.push (seqObj "tuple" vs.toArray 0)).push (seqObj "list" #[] 0)).get? (H1.push (seqObj "tuple" vs.toArray 0)).objs.size = some (seqObj "list" #[] 0) := Heap.get?_push_size _ rfl
  have k2 : Le H1 ((H1.push (seqObj "tuple" vs.toArray 0)).push (seqObj "list" #[] 0)) := (Le.push _ _).trans (Le.push _ _)
  have hkS0 : H1.get? (H1.push (seqObj "tuple" vs.toArray 0)).objs.size = none := not_live (by rw [Heap.size_push]; exact Nat.le_succ _)
  generalize (H1.push (seqObj "tuple" vs.toArray 0)).push (seqObj "list" #[] 0) = H2 at *
  generalize (H1.push (seqObj "tuple" vs.toArray 0)).objs.size = kS at *
  have hka : kS ≠ a := by rintro rfl; rw [ho1] at hkS0; cases hkS0
  have hkSs : H₀.get? kS = none := not_live_le k1 hkS0
  unfold ksk_rest
  refine wpAny_bind (wpAny_rule ?_)
  first
    | rw [List.forIn_toArray]
    | (rw [← Array.forIn_toList]; simp only [List.toList_toArray])
    | rw [← Array.forIn_toList]
  refine wpAny_bind (keys_run (H₀ := H₀) (a := a) (kS := kS) (f := .ref q) (e1 := e1) (n := 63) (key := keyOf H₀) (V := fun v => v ∈ vs) (by omega) hkSs hka (fun v hv s' Q' l hq => ?_) (fun v s' R' hx => ?_) vs [] [] 0 ⟨H2, gg, dd, tt, oo⟩ (fun v hv => hv) (by simp; omega) hkS (k2 _ _ ho1) (k1.trans k2) ⟨rfl, fun i k c hk => by simp at hk⟩ ?_)
  · obtain ⟨p, hp, x⟩ := rv.mem v hv
    rw [keyOf_eq x] at hq
    exact hf v p hp x s' Q' l hq
  · refine wpAny_bind (wpAny_mono hx (fun r s'' hr => ?_) fun _ _ x => x)
    cases r with
    | error e => exact hr.elim
    | ok k => exact wpAny_bind (wpAny_mono hr (fun _ s3 h3 => wpAny_pure h3) fun _ _ x => x)
  · intro ks e H3 tk x1 x2 x3 x4
    rw [List.nil_append, keyOf_map rv] at x4
    have hkl : ks.length = vs.length := by rw [x4.1, List.length_map, hlen]
    try dsimp only
    refine wpAny_bind (listItems_at x1 rfl ?_)
    have tail : ∀ (st : SortSt) (out : List Value) (tk' : Nat), (arrOf st).map (·.2) = List.toArray out → failedOf st = none → out.length = vs.length → RdL H₀ out (ps.map pt) →
        wpAny (model pr w) A (ksk_tail a false e1 (.ref kS) st) P E ⟨H3, gg, dd, tk', oo⟩ := by
      intro st out tk' hout hfail hol hrd
      have s3 := Heap.SameBut.update H3 kS (Obj.mapSeq fun _ => (#[] : Array Value))
      have ha3 := s3.extBut _ _ (Ne.symm hka) x2
      have s4 := Heap.SameBut.update (H3.update kS (Obj.mapSeq fun _ => (#[] : Array Value))) a (Obj.mapSeq fun _ => List.toArray out)
      obtain ⟨c2, hc2⟩ : ∃ c2, ((H3.update kS (Obj.mapSeq fun _ => (#[] : Array Value))).update a (Obj.mapSeq fun _ => List.toArray out)).get? a = some (seqObj "list" (List.toArray out) c2) := ⟨_, get?_update_seq ha3 fun _ => List.toArray out⟩
      have k4 : Le H₀ ((H3.update kS (Obj.mapSeq fun _ => (#[] : Array Value))).update a (Obj.mapSeq fun _ => List.toArray out)) := fun b o e => s4.extBut b o (by rintro rfl; rw [fresh] at e; cases e) (s3.extBut b o (by rintro rfl; rw [hkSs] at e; cases e) (x3 b o e))
      unfold ksk_tail
      try dsimp only
      rw [hout]
      simp only [Bool.false_eq_true, if_false]
      refine wpAny_bind (listUpdate_at x1 rfl ?_ (by rw [List.size_toArray, sizeLine_eq]; omega) (Nat.zero_le _))
      refine wpAny_bind (wpAny_letGo ?_)
      refine wpAny_bind (seqEpoch_at ha3 rfl ?_)
      refine wpAny_bind (listUpdate_at ha3 rfl ?_ (Nat.zero_le _) (by rw [List.size_toArray, sizeLine_eq]; omega))
      rw [hfail]
      simp only [bne_self_eq_false, Bool.false_eq_true, if_false]
      exact wpAny_pure (h _ tk' k4 (.list hc2 rfl rfl (by simpa using hrd.le k4)))
    unfold ksk_end
    try dsimp only
    simp only [Bool.false_eq_true, if_false]
    by_cases hn2 : vs.toArray.size < 2
    · rw [if_pos hn2, if_pos hn2]
      have hv1 : vs.length = 1 := by simp at hn2; omega
      have hp1 : ps = pts := by
        match pts, hlen, h1, hperm with
        | [p], _, _, hperm => exact List.perm_singleton.mp hperm
        | _ :: _ :: _, hl, _, _ => simp at hl; omega
      refine wpAny_bind (wpAny_pure (wpAny_bind (wpAny_pure ?_)))
      refine tail _ vs tk ?_ rfl rfl (hp1 ▸ rv)
      show ((List.toArray ks).zip vs.toArray).map (·.2) = vs.toArray
      apply Array.toList_inj.mp
      rw [Array.toList_map, ksk_zip]
      exact List.map_snd_zip (by simp [hkl])
    · rw [if_neg hn2, if_neg hn2]
      have hv2 : 2 ≤ vs.length := by rw [List.size_toArray] at hn2; omega
      obtain ⟨fs, hfs, hfl, hfi⟩ := x4.firsts
      refine wpAny_bind (kat_kind (s := ⟨H3, gg, dd, tk, oo⟩) (T := .type "int") (vs := ks) hfs (by omega) (fun v hv => ?_) (by rfl) ?_)
      · obtain ⟨i, t, rfl⟩ := hfi v hv
        exact Looks.of_pure rfl
      show wpAny _ _ ((sortRuns').run (SortSt.mk' (tuples' true) (ks.toArray.zip vs.toArray) #[] 7 none) >>= _) _ _ _
      refine wpAny_bind (wpAny_mono (kat_run (Q := fun st' s' => ∃ p : Array Nat, arrOf st' = p.map (kas_item (ks.toArray.zip vs.toArray)) ∧ failedOf st' = none ∧ Perm' vs.length p ∧ Up (fun i => qOf ((pts.map skey).getD i (0, 0))) p vs.length ∧ s' = ⟨H3, gg, dd, tk, oo⟩)
        (G := fun p s' => Perm' vs.length p ∧ Up (fun i => qOf ((pts.map skey).getD i (0, 0))) p vs.length ∧ s' = ⟨H3, gg, dd, tk, oo⟩) hkl hv2 (by omega) (fun p st' s' _ y2 y3 y4 => ⟨p, y2, y3, y4⟩) ?_) ?_ fun _ _ x => x)
      · refine ok_wp (n := vs.length) (q := fun i => qOf ((pts.map skey).getD i (0, 0))) (P := fun p => Perm' vs.length p ∧ Up (fun i => qOf ((pts.map skey).getD i (0, 0))) p vs.length) (I := fun s' => s' = ⟨H3, gg, dd, tk, oo⟩) ?_ ?_ _ _ rfl ?_
        · rintro i j C s hi hj rfl hC
          refine key_lt x4 ?_ (by omega) (by omega) (hC _ rfl)
          intro c hc
          obtain ⟨p, hp, rfl⟩ := List.mem_map.mp hc
          have := near p hp
          unfold skey
          dsimp only
          obtain ⟨a1, a2, a3, a4⟩ := this
          omega
        · rintro p s rfl ⟨y1, y2⟩
          exact ⟨y1, y2, rfl⟩
        · refine sort_ok ?_ hv2 fun p y1 y2 => ⟨y1, y2⟩
          intro i j hi hj e
          rw [hlen] at hi hj
          exact qOf_inj near nd hi hj e
      · rintro ⟨⟨⟩, st'⟩ s' ⟨p, har, hfail, hp, hu, rfl⟩
        try dsimp only
        refine tail st' (p.toList.map fun i => vs.getD i Value.none) tk (kat_snds hkl har) hfail (by rw [List.length_map, Array.length_toList, hp.size]) ?_
        have hps : ps = p.toList.map fun i => pts.getD i (0, 0) := by
          refine sorted_unique (hperm.trans ?_) hsort ?_
          · have := (hp.perm.toList).map fun i => pts.getD i (0, 0)
            refine (this.trans ?_).symm
            have e : (List.range vs.length).map (fun i => pts.getD i (0, 0)) = pts := by
              rw [hlen]
              exact map_range_getD pts
            simp only [List.toList_toArray]
            rw [e]
          · rw [List.pairwise_map, List.pairwise_iff_getElem]
            intro i j hi hj hij
            have hz := hp.size
            simp only [Array.length_toList] at hi hj
            have := hu.lt hij (by omega)
            have e : ∀ i (hi : i < p.size), p.toList[i]'(by simpa using hi) = p.getD i 0 := fun i hi => by simp [Array.getD, hi]
            rw [e i hi, e j hj]
            have g : ∀ i, i < pts.length → (pts.map skey).getD i (0, 0) = skey (pts.getD i (0, 0)) := fun i hi => by simp [hi]
            have q1 := hp.lt (i := i) (by omega)
            have q2 := hp.lt (i := j) (by omega)
            show qOf _ < qOf _
            rw [← g _ (by omega), ← g _ (by omega)]
            exact this
        rw [hps, List.map_map]
        refine RdL.of_map _ fun i hi => ?_
        have hi : i < vs.length := by
          have := (hp.perm.toList).mem_iff.mp hi
          simpa using this
        obtain ⟨v, hv, x⟩ := rv.get (i := i) (d := pt (pts.getD i (0, 0))) (by rw [hlen] at hi; simp [hi])
        have : vs.getD i Value.none = v := by rw [List.getD_eq_getElem?_getD, hv]; rfl
        rw [this]; exact x
/-- the heap behind a copy of a list, made in two steps -/
def grownHeap (h : Heap) (vs : List Value) : Heap := ((h.push (seqObj "list" #[] 0)).update h.objs.size (Obj.mapSeq (· ++ vs.toArray))).push (seqObj "list" vs.toArray 0)
theorem grown_list (h : Heap) (vs : List Value) : ((h.push (seqObj "list" #[] 0)).update h.objs.size (Obj.mapSeq (· ++ vs.toArray))).objs.size = h.objs.size + 1 ∧ Le h (grownHeap h vs) ∧ (grownHeap h vs).get? (h.objs.size + 1) = some (seqObj "list" vs.toArray 0) := by
  have u := Heap.SameBut.update (h.push (seqObj "list" #[] 0)) h.objs.size (Obj.mapSeq (· ++ vs.toArray))
  have z := u.1.trans (Heap.size_push ..)
  refine ⟨z, fun b o e => Le.push _ _ _ _ (u.extBut b o (Nat.ne_of_lt (Heap.lt_size e)) (Le.push _ _ _ _ e)), ?_⟩
  rw [← z]
  exact Heap.get?_push_size _ rfl
theorem sorted_ok {l q : Addr} {vs : List Value} {pts ps : List P2} {Q : Value → Shared → Prop} (hl : s.heap.IsList l vs.toArray) (rv : RdL s.heap vs (pts.map pt)) (h1 : 1 ≤ pts.length) (h64 : pts.length < 64) (near : ∀ p ∈ pts, Near p) (nd : pts.Nodup)
    (hperm : ps.Perm pts) (hsort : ps.Pairwise before)
    (hf : ∀ v p, p ∈ pts → Rd s.heap v (pt p) → ∀ (s' : Shared) (Q : Value → Shared → Prop), Le s.heap s'.heap → (∀ k h' tk, Le s'.heap h' → KeyAt h' k (skey p) → Q k { s' with heap := h', toks := tk }) → wpAny (model pr w) A.in1.in1 (call (.ref q) [v]) Q (fun _ _ => False) s')
    (h : ∀ a h' tk, Le s.heap h' → Rd h' (.ref a) (.list (ps.map pt)) → Q (.ref a) { s with heap := h', toks := tk }) : wpAny (model pr w) A (call (.builtin "sorted") [.ref l] [(Str.ofString "key", .ref q)]) Q E s := by
  have hlen : vs.length = pts.length := by simpa using rv.length
  have fits : vs.length ≤ sizeLine := by rw [sizeLine_eq, hlen]; exact Nat.le_trans (Nat.le_of_lt h64) (by decide)
  obtain ⟨z, k, g⟩ := grown_list s.heap vs
  refine call_function_entry_kw kind_sorted plain_sorted entry_sorted (ksk_s1 _ _) ?_
  unfold Builtin.«sorted»
  refine wpAny_bind (m := checkCount _ 1 1 _) (wpAny_pure (wpAny_bind (collect_list hl (wpAny_bind (wpAny_newList ?_ fits)) fits)))
  dsimp only
  rw [z]
  refine wpAny_bind (wpAny_holding (wpAny_call_entry_kw slot_list_sort ⟨_, g, rfl⟩ entry_list_sort ?_ (ksk_l1 _ _)))
  show wpAny (model pr w) A.in1.in1 (Builtin.«list.sort» ⟨[.ref (s.heap.objs.size + 1)], [(Str.ofString "key", .ref q)]⟩) _ _ { s with heap := grownHeap s.heap vs }
  rw [ksk_t1]
  exact tree_ok (s := { s with heap := grownHeap s.heap vs }) (H₀ := s.heap) rv h1 h64 near nd hperm hsort g k (not_live (Nat.le_succ _)) hf fun h' tk l r => ⟨_, rfl, wpAny_pure ⟨_, rfl, h _ h' tk l r⟩⟩
end
end Mine

namespace Mine
def lamArgs (p : Pos) : Arguments := { posonlyargs := [], args := [{ arg := Str.ofString "place", annotation := none, pos := p }], vararg := none, kwonlyargs := [], kw_defaults := [], kwarg := none, defaults := [] }
def lamBody (k₁ k₂ k₃ : Nat) (p₁ p₂ p₃ p₄ p₅ p₆ p₇ p₈ : Pos) : Expr :=
  .Tuple [.Subscript (.Name (Str.ofString "place") p₁) (.Constant (.int 1) k₁ p₂) p₃, .UnaryOp .USub (.Subscript (.Name (Str.ofString "place") p₄) (.Constant (.int 0) k₂ p₅) p₆) p₇] k₃ p₈
def lamScope : Scope := { kind := .function, names := [(Str.ofString "place", .local)], isGenerator := false, isCoroutine := false, more := [] }
section
variable {w : World} {mg mb : Str → Option Value} {B : Heap} {W : List Str} {env : Env} {Δ : List (Str × Slot)} {k : Nat} {A : Around} {s : Shared} {Q : Value → Shared → Prop} {E : Value → Shared → Prop} {k₁ k₂ k₃ : Nat} {p₀ p₁ p₂ p₃ p₄ p₅ p₆ p₇ p₈ pos : Pos}
theorem lam_ok {f c' : Addr} {q : Str} {pm ctv v : Value} {p : P2} (ha : AOk (k + 1) A) (X : Tp w mg mb s.heap) (hf : s.heap.get? f = some (kla_obj (Str.ofString "<lambda>") q (lamArgs p₀) (lamBody k₁ k₂ k₃ p₁ p₂ p₃ p₄ p₅ p₆ p₇ p₈) lamScope [] pm c' ctv)) (hcd : s.heap.CodeRec (.ref c') q)
    (hv : Rd s.heap v (pt p)) (h : ∀ u h' tk, Le s.heap h' → KeyAt h' u (skey p) → Q u { s with heap := h', toks := tk }) : wpAny (model pr w) A (call (.ref f) [v]) Q E s := by
  refine wpAny_call (kla_callFunE (body := lamBody k₁ k₂ k₃ p₁ p₂ p₃ p₄ p₅ p₆ p₇ p₈) ha.room hf rfl rfl rfl rfl hcd ?_)
  show wpAny _ _ (pure [(Str.ofString "place", v)]) _ _ _
  refine wpAny_pure (wpAny_newFunctionEnv (fun x hx => by simp only [lamScope, List.mem_cons, List.not_mem_nil, or_false] at hx; subst hx; decide) (locs (by rfl)) (fun h₁ hns hsb => ⟨X.T.nolimit.fresh _ hsb, ?_⟩) rfl)
  show codeAny _ _ (.expr (lamBody k₁ k₂ k₃ p₁ p₂ p₃ p₄ p₅ p₆ p₇ p₈) (envOf q lamScope s.heap.objs.size f (.ref c'))) _ _
  have le : Le s.heap h₁ := fun b o e => hsb.extBut b o (Nat.ne_of_lt (Heap.lt_size e)) (Heap.get?_push_of_some _ e)
  have F : Fm w mg mb s.heap [] (envOf q lamScope s.heap.objs.size f (.ref c')) h₁ [(Str.ofString "place", .d (pt p))] := by
    refine ⟨X, le, rfl, rfl, rfl, ⟨_, hns, fun x sl e l => ?_⟩, fun x c e => (by cases e), not_live (Nat.le_refl _), fun x hx => (by cases hx), List.Pairwise.nil⟩
    have e := mem_of_lookup e
    simp only [List.mem_cons, List.not_mem_nil, or_false, Prod.mk.injEq] at e
    obtain ⟨rfl, rfl⟩ := e
    exact ⟨v, by rfl, hv.le le⟩
  have ha := ha.deeper (envOf q lamScope s.heap.objs.size f (.ref c'))
  refine kla_codeExpr ?_
  refine (ev_tuple (evd_cons (ev_itemL (ds := [.int p.1, .int p.2]) (d := .int p.2) (i := 1) (ev_name F rfl) ev_int (by decide) rfl (by decide)) (evd_cons (ev_negI (ev_itemL (ds := [.int p.1, .int p.2]) (d := .int p.1) (i := 0) (ev_name F rfl) ev_int (by decide) rfl (by decide))) evd_nil))) _ _ _ _ ha (.refl _) fun u h' tk l r => ?_
  exact h u h' tk (le.trans l) (KeyAt.of_rd r)
/-- a lambda is made: one table is no more what it was -/
theorem lam_make {c P : Addr} (F : Fm w mg mb B W env s.heap Δ) (hcode : env.code = .ref c) (hC : CodeHd s.heap c P) (hP : s.heap.get? P = some (tabObj #[])) (hgP : mainGlobals ≠ P) (hb : s.heap.BuiltinsAt mg P)
    (h : ∀ f c' q pm ctv h' tk, Heap.ExtBut P s.heap h' → (∃ ps, h'.get? P = some (tabObj ps)) → h'.get? f = some (kla_obj (Str.ofString "<lambda>") q (lamArgs p₀) (lamBody k₁ k₂ k₃ p₁ p₂ p₃ p₄ p₅ p₆ p₇ p₈) lamScope [] pm c' ctv) → h'.CodeRec (.ref c') q → Q (.ref f) { s with heap := h', toks := tk }) :
    wpAny (model pr w) A (eval (.Lambda (lamArgs p₀) (lamBody k₁ k₂ k₃ p₁ p₂ p₃ p₄ p₅ p₆ p₇ p₈) lamScope pos) env) Q E s := by
  refine kla_eval rfl (kla_makeFunction (mg := mg) (clos := []) (ps := #[]) rfl F.glob F.tpn.T.g hcode hC hP trivial rfl hgP hb fun c' ctv h' tk hx hge hlt hrec htb => ?_)
  refine h h'.objs.size c' _ _ ctv _ tk (fun b o hb e => Heap.get?_push_of_some _ (hx b o hb e)) ⟨_, Heap.get?_push_of_some _ htb⟩ (Heap.get?_push_size _ rfl) (hrec.keeps fun b o e => Heap.get?_push_of_some _ e)
theorem g_sorted (w : World) : nsIn (K w.params) mainGlobals (Str.ofString "sorted") = some none := by kernel_rfl
theorem b_sorted : bootBuiltins (Str.ofString "sorted") = some (.builtin "sorted") := by kernel_rfl
end
section
variable {w : World} {mg mb : Str → Option Value} {B : Heap} {W : List Str} {env : Env} {Δ : List (Str × Slot)} {k : Nat} {A : Around} {s : Shared} {Q : Flow → Shared → Prop} {E : Value → Shared → Prop} {k₁ k₂ k₃ : Nat} {p₀ p₁ p₂ p₃ p₄ p₅ p₆ p₇ p₈ lpos pos cpos p₉ r₁ r₂ r₃ kp : Pos} {rest body : List Stmt}
/-- if row != sorted(places, key=lambda place: (place[1], -place[0])) -/
theorem sx_ifSorted {c P : Addr} {pts row : List P2} (F : Fm w mg mb B W env s.heap Δ) (ha : AOk (k + 4) A) (hcode : env.code = .ref c) (hC : CodeHd s.heap c P) (hP : s.heap.get? P = some (tabObj #[])) (hgP : mainGlobals ≠ P) (hb : s.heap.BuiltinsAt mg P)
    (hBP : B.get? P = none) (oP : Off env P) (hrow : Δ.lookup (Str.ofString "row") = some (.d (.list (row.map pt)))) (hpts : Δ.lookup (Str.ofString "places") = some (.d (.list (pts.map pt)))) (h1 : 1 ≤ pts.length) (h64 : pts.length < 64) (near : ∀ p ∈ pts, Near p) (nd : pts.Nodup)
    (hperm : row.Perm pts) (hsort : row.Pairwise before)
    (hk : env.kindOf (Str.ofString "row") = some .local ∧ env.kindOf (Str.ofString "places") = some .local ∧ env.kindOf (Str.ofString "sorted") = some .globalImplicit)
    (h : ∀ h' tk, Eff env [P] s.heap h' → Gs s.heap h' → (∃ ps, h'.get? P = some (tabObj ps)) → Fm w mg mb B W env h' Δ → wpAny (model pr w) A (execs rest env) Q E { s with heap := h', toks := tk }) :
    wpAny (model pr w) A (execs (.If (.Compare (.Name (Str.ofString "row") r₁) [.NotEq] [.Call (.Name (Str.ofString "sorted") r₂) [.Name (Str.ofString "places") r₃] [⟨some (Str.ofString "key"), .Lambda (lamArgs p₀) (lamBody k₁ k₂ k₃ p₁ p₂ p₃ p₄ p₅ p₆ p₇ p₈) lamScope lpos, kp⟩] cpos] p₉) body [] pos :: rest) env) Q E s := by
  refine wpAny_execs_cons (wpAny_If (wpAny_isTrue_Compare1 (ev_name F hrow (.inl hk.1) (by decide) A s _ E ha (.refl _) fun v₁ h₁ t₁ l₁ x₁ => ?_) (by rfl)))
  refine wpAny_Call_Name_kw (ev_built (F.le l₁) (g_sorted w) b_sorted (by decide) hk.2.2 (by decide) A _ _ E ha (.refl _) fun f h₂ t₂ l₂ x₂ => ?_)
  subst x₂
  refine callWith_kw (spliced_more (ev_name ((F.le l₁).le l₂) hpts (.inl hk.2.1) (by decide) A _ _ E ha (.refl _) fun v₃ h₃ t₃ l₃ x₃ => spliced_none (kws_cons ?_)))
  have l := l₁.trans (l₂.trans l₃)
  have F₃ := F.le l
  refine lam_make F₃ hcode (hC.keeps l) (l _ _ hP) hgP (hb.keeps l) fun f c' q pm ctv h₄ t₄ hx htb hf hcd => kws_nil ?_
  have nP : ∀ o, h₃.get? P = some o → ∀ xs n, o.data ≠ .seq xs n := by
    intro o ho xs n hd
    rw [l _ _ hP] at ho; cases ho; cases hd
  have F₄ := F₃.off (I := P) (fun b o hb e => hx b o hb e) hBP nP (Ne.symm oP.1) oP.2
  have gs₄ : Gs h₃ h₄ := by
    rintro b o ⟨xs, n, hd⟩ e
    by_cases hb : b = P
    · subst hb; exact absurd hd (nP o e xs n)
    · exact hx b o hb e
  have y₃ := x₃.gs gs₄
  obtain ⟨a, vs, rfl, hl, rv⟩ := Rd.isList y₃
  refine sorted_ok (s := { s with heap := h₄, toks := t₄ }) (vs := vs.toList) (pts := pts) (ps := row) (by simpa using hl) rv h1 h64 near nd hperm hsort (fun v p hp x s' Q' l' hq => ?_) fun a' h₅ t₅ l₅ x₅ => ?_
  · refine lam_ok (k := k + 2) (mg := mg) (mb := mb) (ha.in2.less (by omega)) (F₄.le l').tpn (l' _ _ hf) (hcd.keeps l') (x.le l') hq
  · have y₁ : Rd h₅ v₁ (.list (row.map pt)) := (Rd.gs (Rd.le (Rd.le x₁ l₂) l₃) gs₄).le l₅
    refine cv_neL (k := k) (h₀ := h₅) y₁ x₅ A _ _ E (ha.less (by omega)) (.refl _) fun v h₆ t₆ l₆ r => ?_
    rw [show decide (row = row) = true from decide_eq_true rfl] at r
    obtain rfl := Rd.bool_inv r
    refine wpAny_truthy_bool ?_
    show wpAny _ _ (execs [] env) _ _ _
    refine wpAny_execs_nil ?_
    have l₆' := l₅.trans l₆
    refine h h₆ t₆ (fun b o _ _ hb e => l₆' _ _ (hx b o (by simpa using hb) (l _ _ e))) ((Gs.of_le l).trans (gs₄.trans (Gs.of_le l₆'))) (by obtain ⟨ps, e⟩ := htb; exact ⟨ps, l₆' _ _ e⟩) (F₄.le l₆')
end
end Mine

namespace Mine
/-! what law computes, in plain words -/
def hexU : Str := Str.ofString "0123456789ABCDEF"
def numsF (script : List Int) : List Int := script.take 8 ++ ([0, 0, 0, 1] : List Int).drop script.length
def octF (k : Nat) (n : Int) : Nat := ((n + 37 * k).fmod 256).toNat
def ptF (n : Nat) : P2 := (((n / 16 : Nat) : Int), ((n % 16 : Nat) : Int))
def addP (ps : List P2) (p : P2) : List P2 := if p ∈ ps then ps else ps ++ [p]
def ptsUpTo (ns : List Int) (i : Nat) : List P2 := ((List.range i).map fun k => ptF (octF k (ns.getD k 0))).foldl addP []
def placesF (script : List Int) : List P2 := ptsUpTo (numsF script) (numsF script).length
theorem numsF_len (script : List Int) : 4 ≤ (numsF script).length ∧ (numsF script).length ≤ 8 := by
  unfold numsF
  simp only [List.length_append, List.length_take, List.length_drop, List.length_cons, List.length_nil]
  omega
theorem octF_lt (k : Nat) (n : Int) : octF k n < 256 := by
  unfold octF
  have h1 := Int.fmod_nonneg_of_pos (n + 37 * k) (b := 256) (by omega)
  have h2 := Int.fmod_lt_of_pos (n + 37 * k) (b := 256) (by omega)
  omega
theorem octF_eq (k : Nat) (n : Int) : ((octF k n : Nat) : Int) = (n + 37 * k).fmod 256 := by
  unfold octF
  have h1 := Int.fmod_nonneg_of_pos (n + 37 * k) (b := 256) (by omega)
  omega
/-- the figures of an octet's text, and where they stand in the row of sixteen -/
def figIdx (c : Nat) : Nat := match Builtin.Str.occurrences hexU ⟨#[c]⟩ 0 hexU.length 1 with | i :: _ => i | [] => 99
def figOk (n : Nat) : Bool := match (Txt.slice (hexS n) (some 1) none).cps.toList with
  | [c, d] => !(Builtin.Str.occurrences hexU ⟨#[c]⟩ 0 hexU.length 1).isEmpty && !(Builtin.Str.occurrences hexU ⟨#[d]⟩ 0 hexU.length 1).isEmpty && figIdx c == n / 16 && figIdx d == n % 16
  | _ => false
theorem figs_all : (List.range 256).all figOk = true := by kernel_rfl
theorem figs {n : Nat} (hn : n < 256) : ∃ c d, (Txt.slice (hexS n) (some 1) none).cps.toList = [c, d] ∧ (∃ r, Builtin.Str.occurrences hexU ⟨#[c]⟩ 0 hexU.length 1 = (n / 16) :: r) ∧ (∃ r, Builtin.Str.occurrences hexU ⟨#[d]⟩ 0 hexU.length 1 = (n % 16) :: r) := by
  have h := List.all_eq_true.mp figs_all n (List.mem_range.mpr hn)
  unfold figOk at h
  split at h
  · rename_i c d e
    simp only [Bool.and_eq_true, Bool.not_eq_true', beq_iff_eq] at h
    obtain ⟨⟨⟨h1, h2⟩, h3⟩, h4⟩ := h
    refine ⟨c, d, e, ?_, ?_⟩
    · unfold figIdx at h3
      cases ho : Builtin.Str.occurrences hexU ⟨#[c]⟩ 0 hexU.length 1 with
      | nil => rw [ho] at h1; cases h1
      | cons i r => rw [ho] at h3; exact ⟨r, by rw [← h3]⟩
    · unfold figIdx at h4
      cases ho : Builtin.Str.occurrences hexU ⟨#[d]⟩ 0 hexU.length 1 with
      | nil => rw [ho] at h2; cases h2
      | cons i r => rw [ho] at h4; exact ⟨r, by rw [← h4]⟩
  · cases h
def selFig : PyData → Option PyData
  | .str y => some (.int (match Builtin.Str.occurrences hexU y 0 hexU.length 1 with | i :: _ => (i : Int) | [] => 0))
  | _ => none
/-- the slopes from the earlier ones in the row -/
def textOf (p q : P2) : Str := slopeT (q.2 - p.2) (q.1 - p.1)
def ownStep (q : P2) (kv : List (Str × Int)) (p : P2) : List (Str × Int) := putK kv (textOf p q) ((getK kv (textOf p q)).getD 0 + 1)
def ownF (row : List P2) (q : P2) (k : Nat) : List (Str × Int) := (row.take k).foldl (ownStep q) []
def bookUpTo (row : List P2) (k : Nat) : List (Str × Int) := (List.range k).foldl (fun kv i => mergeK kv (ownF row (row.getD i (0, 0)) i)) []
def bookF (row : List P2) : List (Str × Int) := bookUpTo row row.length
/-- the slopes in their order -/
abbrev S3 := Int × Int × Int
def trip (t : S3) : PyData := .tuple [.int t.1, .int t.2.1, .int t.2.2]
def inS (sl : List S3) (t : S3) : List S3 := sl.filter (fun o => decide (o.2.1 * t.1 < t.2.1 * o.1)) ++ [t] ++ sl.drop (sl.filter (fun o => decide (o.2.1 * t.1 < t.2.1 * o.1))).length
def sgn (y : Int) : Int := y - y.fdiv 128 * 256
def tripOf (dir : Str → Nat × Nat) (e : Str × Int) : S3 := ((dir e.1).1, sgn (dir e.1).2, e.2)
def slopesF (dir : Str → Nat × Nat) (kv : List (Str × Int)) : List S3 := (kv.map (tripOf dir)).foldl inS []
def rowsF (row : List P2) (sl : List S3) : List P2 := sl.foldl (fun r t => (turnF t.1 t.2.1 r).1) row
section
variable {w : World} {mg mb : Str → Option Value} {B : Heap} {W : List Str} {env : Env} {Δ : List (Str × Slot)} {k : Nat} {A : Around} {s : Shared} {h₀ : Heap} {pos : Pos}
/-- a list of the frame's own -/
def OwnL (h : Heap) (P : Addr) (out : List PyData) : Prop := Rd h (.ref P) (.list out) ∧ ∀ o, h.get? P = some o → o.dict = none
theorem OwnL.le {h h' : Heap} {P : Addr} {out : List PyData} (x : OwnL h P out) (l : Le h h') : OwnL h' P out := by
  refine ⟨x.1.le l, fun o e => ?_⟩
  obtain ⟨a, o', vs, n, ea, ho, _⟩ := x.1.list_inv
  cases ea
  rw [l _ _ ho] at e; cases e
  exact x.2 _ ho
theorem OwnL.eff {h h' : Heap} {P : Addr} {out : List PyData} {M : List Addr} (x : OwnL h P out) (oP : Off env P) (hM : P ∉ M) (g : Eff env M h h') (gs : Gs h h') : OwnL h' P out := by
  refine ⟨x.1.gs gs, fun o e => ?_⟩
  obtain ⟨a, o', vs, n, ea, ho, _⟩ := x.1.list_inv
  cases ea
  rw [g _ _ oP.1 oP.2 hM ho] at e; cases e
  exact x.2 _ ho
theorem OwnL.steady {P : Addr} {out : List PyData} : Steady h₀ fun h => OwnL h P out := by
  intro I h h' h0 hI kk x
  refine ⟨Rd.steady I h h' h0 hI kk x.1, fun o e => ?_⟩
  obtain ⟨a, o', vs, n, ea, ho, _, hd, _⟩ := x.1.list_inv
  cases ea
  have ne : P ≠ I := by
    rintro rfl
    obtain ⟨ws, hd'⟩ := hI _ ho
    rw [hd] at hd'; cases hd'
  rw [kk _ _ ne ho] at e; cases e
  exact x.2 _ ho
theorem ev_list0 (F : Fm w mg mb B W env h₀ Δ) : Ev w k env h₀ (.List [] pos) (fun v h => ∃ P, v = .ref P ∧ OwnL h P [] ∧ h₀.get? P = none) := by
  intro A s Q E ha hle hq
  refine List_ (spliced_none (wpAny_newObj_type (hq _ _ _ (Le.push _ _) ⟨_, rfl, ⟨?_, fun o e => ?_⟩, not_live_le hle (not_live (Nat.le_refl _))⟩) (by size_fits)))
  · exact .list (Heap.get?_push_size _ rfl) rfl rfl (by simpa using RdL.nil _)
  · rw [Heap.get?_push_size _ rfl] at e; cases e; rfl
theorem off_new {h₁ : Heap} (F : Fm w mg mb B W env h₁ Δ) {b : Addr} (hb : h₁.get? b = none) : Off env b := by
  obtain ⟨⟨oL, _, _, hoL, _⟩, hcells⟩ := F.live
  refine ⟨?_, fun x c e ec => ?_⟩
  · rintro rfl; rw [hoL] at hb; cases hb
  · subst ec
    obtain ⟨o, v, ho, _⟩ := hcells x _ e
    rw [ho] at hb; cases hb
/-- a key that stays -/
def Tb (P : Addr) (h : Heap) : Prop := h.get? P = some (tabObj #[])
theorem g_row (w : World) : nsIn (K w.params) mainGlobals (Str.ofString "_law_row") = some (some (.ref 97)) := by kernel_rfl
theorem g_slope (w : World) : nsIn (K w.params) mainGlobals (Str.ofString "_law_slope") = some (some (.ref 104)) := by kernel_rfl
theorem g_turn (w : World) : nsIn (K w.params) mainGlobals (Str.ofString "_law_turn") = some (some (.ref 111)) := by kernel_rfl
theorem g_add (w : World) : nsIn (K w.params) mainGlobals (Str.ofString "add_callers") = some (some (.ref 49)) := by kernel_rfl
theorem g_decode (w : World) : nsIn (K w.params) mainGlobals (Str.ofString "decode") = some (some (.ref 92)) := by kernel_rfl
theorem k116 (w : World) : (K w.params).lookup 116 = some (fnO (Str.ofString "law") (Str.ofString "law") (stAt 26) .none pmC 115) := by rfl
noncomputable abbrev eLaw (L : Nat) : Env := callEnvC (fnD (Str.ofString "law") (Str.ofString "law") (stAt 26) .none pmC 115) L 116
abbrev WL : List Str := [Str.ofString "x", Str.ofString "y"]
end
end Mine

namespace Mine
section
variable {w : World} {mg mb : Str → Option Value} {B : Heap} {k : Nat} {A : Around} {s : Shared} {Q : Flow → Shared → Prop} {E : Value → Shared → Prop} {L : Addr}
theorem figSel {n : Nat} (hn : n < 256) : (((Txt.slice (hexS n) (some 1) none).cps.toList.map fun c => PyData.str ⟨#[c]⟩)).filterMap selFig = [.int ((n / 16 : Nat) : Int), .int ((n % 16 : Nat) : Int)] := by
  obtain ⟨c, d, e, ⟨r, h1⟩, ⟨r', h2⟩⟩ := figs hn
  rw [e]
  simp only [List.map_cons, List.map_nil, List.filterMap_cons, List.filterMap_nil, selFig, h1, h2]
theorem lack_ints {out : List PyData} : ∀ (ns : List Int), LacksAll out (ns.map .int)
  | [] => trivial
  | n :: ns => ⟨trivial, lack_ints ns⟩
theorem pts_no_int {ps : List P2} : ∀ e ∈ ps.map pt, ∀ i, e ≠ PyData.int i := by
  intro e he i
  obtain ⟨p, _, rfl⟩ := List.mem_map.mp he
  exact fun h => nomatch h
theorem Tv.as {env : Env} {h₀ : Heap} {e : Expr} {c d : Bool} (x : Tv w k env h₀ e c) (h : c = d) : Tv w k env h₀ e d := h ▸ x
theorem law_A {script : List Int} (F : Fm w mg mb B WL (eLaw L) s.heap [(Str.ofString "script", .d (.list (script.map .int)))]) (ha : AOk (k + 6) A) (hz : script.length ≤ 63) (hdec : ∀ n, n < 256 → DecOk (hexS n) [n])
    (hh : ∀ h' tk, Eff (eLaw L) [] s.heap h' → Fm w mg mb B WL (eLaw L) h' [(Str.ofString "places", .d (.list ((placesF script).map pt)))] → wpAny (model pr w) A (execs ((defB (stAt 26)).drop 3) (eLaw L)) Q E { s with heap := h', toks := tk }) :
    wpAny (model pr w) A (execs (defB (stAt 26)) (eLaw L)) Q E s := by
  have big : (1000 : Nat) ≤ sizeLine := by decide
  obtain ⟨nl1, nl2⟩ := numsF_len script
  refine sx_assign (d := .list ((numsF script).map .int)) F ha ?_ (.inl rfl) fun h₁ tk₁ g₁ gs₁ F₁ => ?_
  · have e : (numsF script).map PyData.int = (script.take 8).map PyData.int ++ (([0, 0, 0, 1] : List Int).drop script.length).map PyData.int := by unfold numsF; rw [List.map_append]
    rw [e]
    refine ev_addL (ev_sliceL (ev_name F rfl) pt_none (pt_some ev_int) pt_none (by simp) (by rw [List.length_map]; omega) fun h vs r => by
      rw [List.map_take]; exact pick_upto 8 vs r) (ev_sliceL (ds := ([0, 0, 0, 1] : List Int).map PyData.int) (ev_list (evd_cons ev_int (evd_cons ev_int (evd_cons ev_int (evd_cons ev_int evd_nil))))) (pt_some (ev_lenL F (ev_name F rfl) (by rw [List.length_map]; omega))) pt_none pt_none (by simp) (by rw [List.length_map]; exact Nat.le_trans (by decide) big) fun h vs r => by
      rw [List.map_drop, ← List.length_map (f := PyData.int) (as := script)]
      exact pick_from _ vs r) ?_
    simp only [List.length_map, List.length_take, List.length_drop, List.length_cons, List.length_nil]
    omega
  refine sx_assignR F₁ ha (ev_list0 F₁) (.inl rfl) fun v h₂ h₃ tk₃ l₂ rc g₃ gs₃ F₃ => ?_
  obtain ⟨P, rfl, O₂, nP⟩ := rc
  have oP := off_new F₁ nP
  have O₃ := O₂.eff oP (by simp) g₃ gs₃
  have hBP : B.get? P = none := by
    cases e : B.get? P with
    | none => rfl
    | some o => rw [F₁.keep _ _ e] at nP; cases nP
  generalize hns : numsF script = ns at *
  have nlen : (ns.map PyData.int).length = ns.length := List.length_map _
  refine sx_forR (n := (ns.map PyData.int).length) (M := [P]) (J := fun i h => Fm w mg mb B WL (eLaw L) h [(Str.ofString "places", .v (.ref P)), (Str.ofString "numbers", .d (.list (ns.map .int)))] ∧ OwnL h P ((ptsUpTo ns i).map pt))
    F₃ ha ⟨_, _, rfl⟩ (ev_built F₃ (g_range w) b_range) (ev_lenL F₃ (ev_name F₃ rfl) (by rw [nlen]; omega)) (by rw [nlen]; omega) ?_ (fun h' l => ⟨(F₃.le l).mono (pick_all ?_), O₃.le l⟩) (fun i => (Fm.steady F₃.keep).and OwnL.steady) ?_ ?_
  · intro a ha
    simp only [List.mem_cons, List.not_mem_nil, or_false] at ha
    subst ha
    obtain ⟨a, o, vs, n, ea, ho, _⟩ := O₃.1.list_inv
    cases ea
    exact ⟨o, ho⟩
  · exact List.forall_mem_cons.mpr ⟨rfl, List.forall_mem_cons.mpr ⟨rfl, List.forall_mem_nil _⟩⟩
  · rintro i v h tk hi hv ⟨Fh, Oh⟩ he
    rw [nlen] at hi
    generalize hps : ptsUpTo ns i = ps at Oh
    have hnext : ptsUpTo ns (i + 1) = addP ps (ptF (octF i (ns.getD i 0))) := by
      rw [← hps]; unfold ptsUpTo
      rw [List.range_succ, List.map_append, List.foldl_append]; rfl
    have hpl : ps.length ≤ i := by
      rw [← hps]; unfold ptsUpTo
      have : ∀ (l acc : List P2), (l.foldl addP acc).length ≤ acc.length + l.length := by
        intro l
        induction l with
        | nil => intro acc; simp
        | cons q l ih =>
          intro acc
          have h1 := ih (addP acc q)
          have h2 : (addP acc q).length ≤ acc.length + 1 := by unfold addP; split <;> simp
          simp only [List.foldl_cons, List.length_cons]
          omega
      have := this ((List.range i).map fun k => ptF (octF k (ns.getD k 0))) []
      simpa using this
    obtain ⟨n, hn⟩ : ∃ n, n = octF i (ns.getD i 0) := ⟨_, rfl⟩
    have hn256 : n < 256 := hn ▸ octF_lt _ _
    have hni : (ns.map PyData.int)[((i : Int)).toNat]? = some (.int (ns.getD i 0)) := by
      rw [Int.toNat_natCast, List.getElem?_map, List.getElem?_eq_getElem hi, List.getD_eq_getElem?_getD, List.getElem?_eq_getElem hi]; rfl
    refine asg1 Fh (.inl rfl) hv fun h₄ tk₄ g₄ gs₄ F₄ => ?_
    have O₄ := Oh.eff oP (by simp) g₄ gs₄
    refine sx_assign (d := .int n) F₄ ha ?_ (.inl rfl) fun h₅ tk₅ g₅ gs₅ F₅ => ?_
    · rw [hn, octF_eq]
      exact ev_modI (ev_addI (ev_itemL (ev_name F₄ rfl) (ev_name F₄ rfl) (by omega) hni (by omega)) (ev_mulI ev_int (ev_name F₄ rfl) (mulOk (by omega) (by omega) (by omega) (by omega)))) ev_int (by decide)
    have O₅ := O₄.eff oP (by simp) g₅ gs₅
    refine sx_assign (d := .str (hexS n)) F₅ ha (ev_quote F₅ hn256 (ev_chr (a := (n : Int)) F₅ (ev_name F₅ rfl) (by omega) (by omega))) (.inl rfl) fun h₆ tk₆ g₆ gs₆ F₆ => ?_
    have O₆ := O₅.eff oP (by simp) g₆ gs₆
    have hdn := hdec n hn256
    have hlen3 : (hexS n).length ≤ sizeLine := Nat.le_trans (show 3 ≤ 1000 by decide) big
    obtain ⟨c₁, c₂, hcd, ⟨r₁, hr₁⟩, ⟨r₂, hr₂⟩⟩ := figs hn256
    refine sx_comprehension (cl := []) (sel := selFig) (Δf := []) (Δt := fun d => [(Str.ofString "figure", .d d)]) (dd := .str (Txt.slice (hexS n) (some 1) none)) (ds := ((Txt.slice (hexS n) (some 1) none).cps.toList.map fun c => PyData.str ⟨#[c]⟩))
      F₆ ha (ev_sliceS (ev_name F₆ rfl) (pt_some ev_int) pt_none hlen3) (.inr ⟨_, rfl, rfl, ?_, _, _, rfl⟩) (by rfl) (by decide) rfl (by decide) rfl ?_ ?_
    · show (Txt.slice (hexS n) (some 1) none).cps.size ≤ 1000
      rw [← Array.length_toList, hcd]; exact (by simp : 2 ≤ 1000)
    · intro h₇ l₇
      refine ⟨trivial, comp_free (F₆.le l₇) rfl (fun x c e => nomatch e) .nil (fun x sl e => nomatch e), fun d hd C A s Q E v ha F hv hq => asgC1 F rfl hv fun h' tk kk F' => hq h' tk kk F', fun d hd C h F => ?_, ?_, fun i => ?_⟩
      · rw [hcd] at hd
        simp only [List.map_cons, List.map_nil, List.mem_cons, List.not_mem_nil, or_false] at hd
        rcases hd with rfl | rfl <;> rfl
      · intro d hd e he C h F
        rw [hcd] at hd
        simp only [List.map_cons, List.map_nil, List.mem_cons, List.not_mem_nil, or_false] at hd
        rcases hd with rfl | rfl
        · simp only [selFig, hr₁, Option.some.injEq] at he
          subst he
          exact ev_index ev_str (ev_name F rfl) hr₁
        · simp only [selFig, hr₂, Option.some.injEq] at he
          subst he
          exact ev_index ev_str (ev_name F rfl) hr₂
      · refine lacksAll_of fun d hd => ?_
        obtain ⟨e, _, he⟩ := List.mem_filterMap.mp hd
        cases e <;> simp only [selFig] at he <;> first | cases he | skip
        exact trivial
    intro h₇ tk₇ g₇ gs₇ F₇
    rw [figSel hn256] at F₇
    have O₇ := O₆.eff oP (by simp) g₇ gs₇
    have F₇ : Fm w mg mb B WL (eLaw L) h₇ ((Str.ofString "place", .d (pt (ptF n))) :: (Str.ofString "word", .d (.str (hexS n))) :: (Str.ofString "octet", .d (.int n)) :: (Str.ofString "places", .v (.ref P)) :: (Str.ofString "numbers", .d (.list (ns.map .int))) :: []) :=
      F₇.mono (pick_all (List.forall_mem_cons.mpr ⟨rfl, List.forall_mem_cons.mpr ⟨rfl, List.forall_mem_cons.mpr ⟨rfl, List.forall_mem_cons.mpr ⟨rfl, List.forall_mem_cons.mpr ⟨rfl, List.forall_mem_nil _⟩⟩⟩⟩⟩))
    have e16 : pt (ptF n) = .list [.int ((n : Int).fdiv 16), .int ((n : Int).fmod 16)] := by
      unfold ptF pt
      rw [Int.fdiv_eq_ediv_of_nonneg _ (by omega), Int.fmod_eq_emod_of_nonneg _ (by omega)]
      simp
    refine sx_if (c := false) ha (tv_or (c := false) (d := false) (tv_cmp (R₁ := D (pt (ptF n))) (R₂ := D (pt (ptF n))) (ev_name F₇ rfl) ?_ D.mono fun a b h₈ l₈ ra rb => ?_) fun _ => tv_or1 ?_) (fun h => nomatch h) fun _ h₈ tk₈ l₈ => ?_
    · rw [e16]
      exact ev_list (evd_cons (ev_divI (ev_name F₇ rfl) ev_int (by decide) (PyProof.noPylong_small (by decide))) (evd_cons (ev_modI (ev_name F₇ rfl) ev_int (by decide)) evd_nil))
    · have := cv_neP (w := w) (k := k + 6) ra rb
      rwa [show (!decide (ptF n = ptF n)) = false by simp] at this
    · exact Tv.as (tv_neS (ev_fn F₇ (g_decode w) (k92 w) rfl (evd_cons (ev_name F₇ rfl) evd_nil) (decode_fn (k := k + 3) hdn) Ds.mono) (ev_chr (a := (n : Int)) F₇ (ev_name F₇ rfl) (by omega) (by omega))) (by simp)
    have F₈ := F₇.le l₈
    have O₈ := O₇.le l₈
    refine sx_nil ?_
    have eff8 : Eff (eLaw L) [] h h₈ := g₄.trans (g₅.trans (g₆.trans (g₇.trans (Eff.of_le l₈))))
    refine sx_if ha (tv_cmp (R₁ := D (pt (ptF n))) (R₂ := fun u _ => u = .ref P) (ev_name F₈ rfl) (ev_nameV F₈ rfl) D.mono fun a b h₉ l₉ ra rb => (by subst rb; exact cv_notIn ra (O₈.le l₉).1)) (fun hc h₉ tk₉ l₉ => ?_) fun hc h₉ tk₉ l₉ => ?_
    · have F₉ := F₈.le l₉
      have O₉ := O₈.le l₉
      have hnp : ptF n ∉ ps := by simpa using hc
      refine sx_append F₉ ha (ev_nameV F₉ rfl) (ev_name F₉ rfl) O₉.1 ?_ ?_ (lack_pt pts_no_int _) oP hBP (by rw [List.length_map]; omega) O₉.2 fun h' tk' g' F' R' no' => sx_nil (sx_nil ⟨h', tk', rfl, ⟨F'.mono (pick_all ?_), ?_, no'⟩, (eff8.more (by simp)).trans ((Eff.of_le l₉).trans g')⟩)
      · intro x d e
        have e := mem_of_lookup e
        simp only [List.mem_cons, List.not_mem_nil, or_false, Prod.mk.injEq] at e
        rcases e with ⟨_, e⟩ | ⟨_, e⟩ | ⟨_, e⟩ | ⟨_, e⟩ | ⟨_, e⟩ <;> cases e
        · exact lack_pt pts_no_int _
        · exact trivial
        · exact trivial
        · refine ⟨fun e => ?_, lack_ints ns⟩
          cases ns with
          | nil => simp at nl1
          | cons a r =>
            cases ps with
            | nil => cases e
            | cons p ps => cases e
      · refine lacksAll_of fun d hd => ?_
        obtain ⟨q, _, rfl⟩ := List.mem_map.mp hd
        exact lack_pt pts_no_int q
      · exact List.forall_mem_cons.mpr ⟨rfl, List.forall_mem_cons.mpr ⟨rfl, List.forall_mem_nil _⟩⟩
      · rw [hnext, ← hn]
        unfold addP
        rw [if_neg hnp, List.map_append]
        exact R'
    · have F₉ := F₈.le l₉
      have O₉ := O₈.le l₉
      have hnp : ptF n ∈ ps := by simpa using hc
      refine sx_nil (sx_nil ⟨h₉, tk₉, rfl, ⟨F₉.mono (pick_all ?_), ?_⟩, (eff8.trans (Eff.of_le l₉)).more (by simp)⟩)
      · exact List.forall_mem_cons.mpr ⟨rfl, List.forall_mem_cons.mpr ⟨rfl, List.forall_mem_nil _⟩⟩
      · rw [hnext, ← hn]
        unfold addP
        rw [if_pos hnp]
        exact O₉
  · rintro h tk ⟨Fh, Oh⟩ he
    rw [nlen] at Oh
    have Fp := Fh.retype (sl := .d (.list ((ptsUpTo ns ns.length).map pt))) Oh.1
    refine hh h tk ?_ ?_
    · intro b o p q z e
      exact he b o p q (fun hm => by
        simp only [List.mem_cons, List.not_mem_nil, or_false] at hm
        subst hm
        have e₁ := g₁ _ o p q z e
        rw [e₁] at nP; cases nP) (g₃ _ o p q z (l₂ _ _ (g₁ _ o p q z e)))
    · unfold placesF
      rw [hns]
      exact Fp.mono (pick_all (List.forall_mem_cons.mpr ⟨rfl, List.forall_mem_nil _⟩))
end
end Mine

namespace Mine
theorem ownF_len (row : List P2) (q : P2) (k : Nat) : (ownF row q k).length ≤ k := by
  unfold ownF
  have : ∀ (l : List P2) (acc : List (Str × Int)), (l.foldl (ownStep q) acc).length ≤ acc.length + l.length := by
    intro l
    induction l with
    | nil => intro acc; simp
    | cons p l ih =>
      intro acc
      have h1 := ih (ownStep q acc p)
      have h2 : (ownStep q acc p).length ≤ acc.length + 1 := putK_len _ _ _
      simp only [List.foldl_cons, List.length_cons]
      omega
  have := this (row.take k) []
  simp only [List.length_nil, List.length_take] at this
  omega
theorem mergeK_len (a b : List (Str × Int)) : (mergeK a b).length ≤ a.length + b.length := by
  have h1 := fold_len mergeStep_len b (copyK a)
  have h2 := fold_len (f := fun acc p => putK acc p.1 p.2) (fun acc p => putK_len ..) a []
  unfold mergeK
  unfold copyK at h1 ⊢
  simp only [List.length_nil] at h2
  omega
theorem bookUpTo_succ (row : List P2) (i : Nat) : bookUpTo row (i + 1) = mergeK (bookUpTo row i) (ownF row (row.getD i (0, 0)) i) := by
  unfold bookUpTo
  rw [List.range_succ, List.foldl_append]; rfl
theorem bookUpTo_len (row : List P2) : ∀ k, (bookUpTo row k).length ≤ k * k
  | 0 => Nat.zero_le _
  | k + 1 => by
    have h1 := bookUpTo_len row k
    have h2 := mergeK_len (bookUpTo row k) (ownF row (row.getD k (0, 0)) k)
    have h3 := ownF_len row (row.getD k (0, 0)) k
    rw [bookUpTo_succ]
    have e : (k + 1) * (k + 1) = k * k + k + k + 1 := by rw [Nat.add_mul, Nat.mul_add]; omega
    omega
section
variable {w : World} {mg mb : Str → Option Value} {B : Heap} {W : List Str} {env : Env} {Δ : List (Str × Slot)} {k : Nat} {A : Around} {s : Shared} {Q : Flow → Shared → Prop} {E : Value → Shared → Prop} {L : Addr} {h₀ : Heap}
theorem base_new {h : Heap} (F : Fm w mg mb B W env h Δ) {b : Addr} (hb : h.get? b = none) : B.get? b = none := by
  cases e : B.get? b with
  | none => rfl
  | some o => rw [F.keep _ _ e] at hb; cases hb
theorem Eff.drop {h h' : Heap} {c : Addr} {M : List Addr} (x : Eff env (c :: M) h h') (hc : h.get? c = none) : Eff env M h h' := fun b o p q m e => x b o p q (fun hm => by
  rcases List.mem_cons.mp hm with rfl | hm
  · rw [hc] at e; cases e
  · exact m hm) e
/-- stays what it was -/
theorem Eff.new {h h' : Heap} {c : Addr} {M : List Addr} (x : Eff env M h' h) : Eff env M h' h := x
theorem law_B {pts : List P2} (F : Fm w mg mb B WL (eLaw L) s.heap [(Str.ofString "places", .d (.list (pts.map pt)))]) (ha : AOk (k + 6) A) (hT : s.heap.get? 113 = some (tabObj #[])) (hC : CodeHd B 115 113) (hb : B.BuiltinsAt mg 113) (hB : B.get? 113 = none) (oT : Off (eLaw L) 113)
    (h1 : 1 ≤ pts.length) (h8 : pts.length ≤ 8) (near : ∀ p ∈ pts, Near p) (nd : pts.Nodup) (hperm : (rowF 1 pts).Perm pts) (hsort : (rowF 1 pts).Pairwise before)
    (hh : ∀ b h' tk, Eff (eLaw L) [113] s.heap h' → (∃ ps, h'.get? 113 = some (tabObj ps)) → DInt w h' b [] → Off (eLaw L) b → B.get? b = none → Fm w mg mb B WL (eLaw L) h' [(Str.ofString "row", .d (.list ((rowF 1 pts).map pt))), (Str.ofString "booked", .v (.ref b)), (Str.ofString "places", .d (.list (pts.map pt)))] →
      wpAny (model pr w) A (execs ((defB (stAt 26)).drop 5) (eLaw L)) Q E { s with heap := h', toks := tk }) : wpAny (model pr w) A (execs ((defB (stAt 26)).drop 3) (eLaw L)) Q E s := by
  refine sx_pairV (R := fun v h => ∃ a, v = .ref a ∧ DInt w h a [] ∧ s.heap.get? a = none) F ha (ev_fn F (g_row w) (k97 w) rfl (evd_cons (ev_name F rfl) (evd_cons ev_int evd_nil)) (row_fn (k := k + 2) (way := 1) (by omega)) Ds.mono) (ev_dict0 F) (.inl rfl) (.inl rfl) (fun v h h' l r => by
    obtain ⟨a, e, H, n⟩ := r
    exact ⟨a, e, H.le l, n⟩) fun v h₁ h₂ tk l₁ r₁ g₂ gs₂ F₂ => ?_
  obtain ⟨b, rfl, Hb, nb⟩ := r₁
  have ob := off_new F nb
  have Hb := Hb.eff ob (by simp) g₂
  have e₂ : Eff (eLaw L) [] s.heap h₂ := (Eff.of_le l₁).trans g₂
  have hT₂ : h₂.get? 113 = some (tabObj #[]) := e₂ _ _ oT.1 oT.2 (by simp) hT
  have b113 : b ≠ 113 := by rintro rfl; rw [hT] at nb; cases nb
  have hg3 : mainGlobals ≠ 113 := by decide
  refine sx_ifSorted (k := k + 2) (c := 115) (P := 113) (pts := pts) (row := rowF 1 pts) F₂ ha rfl (hC.keeps F₂.keep) hT₂ hg3 (hb.keeps F₂.keep) hB oT rfl rfl h1 (by omega) near nd hperm hsort ⟨rfl, rfl, rfl⟩ fun h₃ tk₃ g₃ gs₃ htb F₃ => ?_
  exact hh b h₃ tk₃ ((e₂.more (by simp)).trans g₃) htb (Hb.eff ob (by simpa using b113) g₃) ob (base_new F nb) F₃
/-- add_callers(booked, own) -/
theorem ev_add {x y : Str} {p p₁ p₂ pos : Pos} {a b : Addr} {kv₁ kv₂ : List (Str × Int)} (F : Fm w mg mb B W env h₀ Δ) (h1 : Ev w (k + 2) env h₀ (.Name x p₁) (fun u _ => u = .ref a)) (h2 : Ev w (k + 2) env h₀ (.Name y p₂) (fun u _ => u = .ref b)) (H₁ : DInt w h₀ a kv₁) (H₂ : DInt w h₀ b kv₂) (hz : kv₁.length + kv₂.length ≤ 500)
    (hx : env.kindOf (Str.ofString "add_callers") = some .globalImplicit := by rfl) : Ev w (k + 2) env h₀ (.Call (.Name (Str.ofString "add_callers") p) [.Name x p₁, .Name y p₂] [] pos) (fun v h => ∃ c, v = .ref c ∧ DInt w h c (mergeK kv₁ kv₂) ∧ h₀.get? c = none) := by
  refine ev_call (S := fun vs h => ∃ v r, vs = v :: r ∧ v = .ref a ∧ ∃ v' r', r = v' :: r' ∧ v' = .ref b ∧ r' = []) (ev_global F (g_add w) hx (by decide)) (evs_cons h1 (evs_cons h2 evs_nil fun v h h' _ e => e) fun v h h' _ e => e) (.inr (.inr ⟨49, _, _, rfl, F.tpn.X _ _ (k49 w), rfl⟩)) fun vs h₃ l r => ?_
  obtain ⟨v, r, rfl, rfl, v', r', rfl, rfl, rfl⟩ := r
  intro A s Q E ha hle hq
  exact add_ok ha (F.le (l.trans hle)).tpn (H₁.le (l.trans hle)) (H₂.le (l.trans hle)) hz fun c h' tk l' D n => hq _ h' tk l' ⟨c, rfl, D, not_live_le (l.trans hle) n⟩
theorem law_C {pts row : List P2} {b : Addr} (F : Fm w mg mb B WL (eLaw L) s.heap [(Str.ofString "row", .d (.list (row.map pt))), (Str.ofString "booked", .v (.ref b)), (Str.ofString "places", .d (.list (pts.map pt)))]) (ha : AOk (k + 6) A)
    (Hb : DInt w s.heap b []) (ob : Off (eLaw L) b) (nb : B.get? b = none) (h8 : row.length ≤ 8) (near : ∀ p ∈ row, Near p) (hsort : row.Pairwise before)
    (hh : ∀ b h' tk, Eff (eLaw L) [] s.heap h' → DInt w h' b (bookF row) → Off (eLaw L) b → B.get? b = none → Fm w mg mb B WL (eLaw L) h' [(Str.ofString "row", .d (.list (row.map pt))), (Str.ofString "booked", .v (.ref b)), (Str.ofString "places", .d (.list (pts.map pt)))] →
      wpAny (model pr w) A (execs ((defB (stAt 26)).drop 6) (eLaw L)) Q E { s with heap := h', toks := tk }) : wpAny (model pr w) A (execs ((defB (stAt 26)).drop 5) (eLaw L)) Q E s := by
  have nlen : (row.map pt).length = row.length := List.length_map _
  refine sx_forR (n := (row.map pt).length) (M := []) (J := fun i h => ∃ b, Fm w mg mb B WL (eLaw L) h [(Str.ofString "row", .d (.list (row.map pt))), (Str.ofString "booked", .v (.ref b)), (Str.ofString "places", .d (.list (pts.map pt)))] ∧ DInt w h b (bookUpTo row i) ∧ Off (eLaw L) b ∧ B.get? b = none)
    F ha ⟨_, _, rfl⟩ (ev_built F (g_range w) b_range) (ev_lenL F (ev_name F rfl) (by rw [nlen]; omega)) (by rw [nlen]; omega) (fun _ h => nomatch h) (fun h' l => ⟨b, F.le l, Hb.le l, ob, nb⟩) (fun i => Steady.ex fun b => (Fm.steady F.keep).and (DInt.steady.and (Steady.const.and Steady.const))) ?_ ?_
  · rintro i v h tk hi hv ⟨b, Fh, Hb, ob, nb⟩ he
    rw [nlen] at hi
    obtain ⟨q, hq⟩ : ∃ q, row[i]? = some q := ⟨row[i], List.getElem?_eq_getElem hi⟩
    have hqd : row.getD i (0, 0) = q := by rw [List.getD_eq_getElem?_getD, hq]; rfl
    have hqm : q ∈ row := List.mem_of_getElem? hq
    have bl := bookUpTo_len row i
    have il : i * i ≤ 8 * 8 := Nat.mul_le_mul (by omega) (by omega)
    refine asg1 Fh (.inl rfl) hv fun h₄ tk₄ g₄ gs₄ F₄ => ?_
    have Hb₄ := Hb.eff ob (by simp) g₄
    refine sx_assignR F₄ ha (ev_dict0 F₄) (.inl rfl) fun v h₅ h₆ tk₆ l₅ rc g₆ gs₆ F₆ => ?_
    obtain ⟨c, rfl, Hc, nc⟩ := rc
    have oc := off_new F₄ nc
    have Hc := Hc.eff oc (by simp) g₆
    have Hb₆ := (Hb₄.le l₅).eff ob (by simp) g₆
    have bc : b ≠ c := by
      rintro rfl
      obtain ⟨o, _, _, ho, _⟩ := Hb₄.live
      rw [ho] at nc; cases nc
    have e₆ : Eff (eLaw L) [] h h₆ := g₄.trans ((Eff.of_le l₅).trans g₆)
    have nch : h.get? c = none := by
      cases e : h.get? c with
      | none => rfl
      | some o => rw [g₄ _ o oc.1 oc.2 (by simp) e] at nc; cases nc
    refine sx_forR (n := i) (M := [c]) (J := fun j h => Fm w mg mb B WL (eLaw L) h [(Str.ofString "own", .v (.ref c)), (Str.ofString "k", .d (.int i)), (Str.ofString "row", .d (.list (row.map pt))), (Str.ofString "booked", .v (.ref b)), (Str.ofString "places", .d (.list (pts.map pt)))] ∧ DInt w h c (ownF row q j) ∧ DInt w h b (bookUpTo row i))
      F₆ ha ⟨_, _, rfl⟩ (ev_built F₆ (g_range w) b_range) (ev_name F₆ rfl) (by omega) ?_ (fun h' l => ⟨F₆.le l, Hc.le l, Hb₆.le l⟩) (fun i => (Fm.steady F₆.keep).and (DInt.steady.and DInt.steady)) ?_ ?_
    · intro a ha
      simp only [List.mem_cons, List.not_mem_nil, or_false] at ha
      subst ha
      obtain ⟨o, _, _, ho, _⟩ := Hc.live
      exact ⟨o, ho⟩
    · rintro j v h tk hj hv ⟨Fh, Hc, Hb⟩ he
      obtain ⟨p, hp⟩ : ∃ p, row[j]? = some p := ⟨row[j]'(by omega), List.getElem?_eq_getElem _⟩
      have hpm : p ∈ row := List.mem_of_getElem? hp
      obtain ⟨p1, p2, p3, p4⟩ := near p hpm
      obtain ⟨q1, q2, q3, q4⟩ := near q hqm
      have hpq : before p q := by
        have := List.pairwise_iff_getElem.mp hsort j i (by omega) hi hj
        have e1 : row[j]'(by omega) = p := Option.some.inj ((List.getElem?_eq_getElem (by omega)).symm.trans hp)
        have e2 : row[i] = q := Option.some.inj ((List.getElem?_eq_getElem hi).symm.trans hq)
        rw [e1, e2] at this; exact this
      unfold before qOf skey at hpq
      dsimp only at hpq
      have hnext : ownF row q (j + 1) = ownStep q (ownF row q j) p := by
        unfold ownF
        rw [List.take_add_one, hp, List.foldl_append]; rfl
      have ol := ownF_len row q j
      refine asg1 Fh (.inl rfl) hv fun h₇ tk₇ g₇ gs₇ F₇ => ?_
      have Hc₇ := Hc.eff oc (by simp) g₇
      have Hb₇ := Hb.eff ob (by simp) g₇
      refine sx_assign (d := .str (textOf p q)) F₇ ha (ev_fn F₇ (g_slope w) (k104 w) rfl (evd_cons (ev_itemL (d := pt p) (ev_name F₇ rfl) (ev_name F₇ rfl) (by omega) (by rw [Int.toNat_natCast, List.getElem?_map, hp]; rfl) (by omega)) (evd_cons (ev_itemL (d := pt q) (ev_name F₇ rfl) (ev_name F₇ rfl) (by omega) (by rw [Int.toNat_natCast, List.getElem?_map, hq]; rfl) (by omega)) evd_nil))
        (slope_fn (k := k + 4) (u1 := p.1) (a1 := p.2) (u2 := q.1) (a2 := q.2) (by omega) (by omega) (by omega) (by omega) (by omega)) Ds.mono) (.inl rfl) fun h₈ tk₈ g₈ gs₈ F₈ => ?_
      have Hc₈ := Hc₇.eff oc (by simp) g₈
      have Hb₈ := Hb₇.eff ob (by simp) g₈
      refine sx_setD F₈ ha (ev_nameV F₈ rfl) (ev_name F₈ rfl) (ev_addI (ev_getD (ev_nameV F₈ rfl) (ev_name F₈ rfl) ev_int Hc₈) ev_int) Hc₈ oc (base_new F₄ nc) (by omega) fun h₉ tk₉ g₉ gs₉ F₉ H₉ => ?_
      refine sx_nil ⟨h₉, tk₉, rfl, ⟨F₉.mono (pick_all ?_), ?_, Hb₈.eff ob (by simpa using bc) g₉⟩, ((g₇.trans g₈).more (by simp)).trans g₉⟩
      · exact List.forall_mem_cons.mpr ⟨rfl, List.forall_mem_cons.mpr ⟨rfl, List.forall_mem_cons.mpr ⟨rfl, List.forall_mem_cons.mpr ⟨rfl, List.forall_mem_cons.mpr ⟨rfl, List.forall_mem_nil _⟩⟩⟩⟩⟩
      · rw [hnext]; exact H₉
    · rintro h₇ tk₇ ⟨F₇, Hc₇, Hb₇⟩ e₇
      have ol := ownF_len row q i
      refine sx_assignR F₇ ha (ev_add (k := k + 4) F₇ (ev_nameV F₇ rfl) (ev_nameV F₇ rfl) Hb₇ Hc₇ (by omega)) (.inl rfl) fun v h₈ h₉ tk₉ l₈ rd g₉ gs₉ F₉ => ?_
      obtain ⟨d, rfl, Hd, nd⟩ := rd
      have od := off_new F₇ nd
      refine sx_nil ⟨h₉, tk₉, rfl, ⟨d, F₉.mono (pick_all ?_), ?_, od, base_new F₇ nd⟩, ?_⟩
      · exact List.forall_mem_cons.mpr ⟨rfl, List.forall_mem_cons.mpr ⟨rfl, List.forall_mem_cons.mpr ⟨rfl, List.forall_mem_nil _⟩⟩⟩
      · rw [bookUpTo_succ, hqd]
        exact Hd.eff od (by simp) g₉
      · exact Eff.drop (c := c) ((e₆.more (by simp)).trans (e₇.trans (((Eff.of_le l₈).trans g₉).more (by simp)))) nch
  · rintro h tk ⟨b, Fh, Hb, ob, nb⟩ he
    rw [nlen] at Hb
    exact hh b h tk he Hb ob nb Fh
end
end Mine

namespace Mine
def selOrd : PyData → Option PyData
  | .str y => some (.int ((y.cps.getD 0 0 : Nat) : Int))
  | _ => none
def selAhead (x y : Int) : PyData → Option PyData
  | .tuple [.int a, .int b, .int c] => if b * x < y * a then some (.tuple [.int a, .int b, .int c]) else none
  | _ => none
theorem ahead_eq (x y : Int) (sl : List S3) : (sl.map trip).filterMap (selAhead x y) = (sl.filter fun o => decide (o.2.1 * x < y * o.1)).map trip := by
  induction sl with
  | nil => rfl
  | cons t sl ih =>
    rw [List.map_cons, List.filterMap_cons, ih, List.filter_cons]
    have e : selAhead x y (trip t) = if t.2.1 * x < y * t.1 then some (trip t) else none := rfl
    rw [e]
    by_cases h : t.2.1 * x < y * t.1
    · rw [if_pos h, decide_eq_true h, if_pos rfl]; rfl
    · rw [if_neg h, decide_eq_false h, if_neg (by decide)]
theorem getK_mem {kv : List (Str × Int)} (nd : (kv.map (·.1)).Nodup) {i : Nat} {x : Str} {n : Int} (h : kv[i]? = some (x, n)) : getK kv x = some n := by
  unfold getK
  have hm : (x, n) ∈ kv := List.mem_of_getElem? h
  clear h
  induction kv with
  | nil => cases hm
  | cons e kv ih =>
    rw [List.map_cons, List.nodup_cons] at nd
    rw [List.find?_cons]
    rcases List.mem_cons.mp hm with rfl | hm
    · simp
    · have : e.1 ≠ x := by
        rintro rfl
        exact nd.1 (List.mem_map_of_mem (f := (·.1)) hm)
      rw [decide_eq_false this]
      exact ih nd.2 hm
theorem mem_inS {sl : List S3} {t u : S3} (h : u ∈ inS sl t) : u = t ∨ u ∈ sl := by
  unfold inS at h
  simp only [List.mem_append, List.mem_cons, List.not_mem_nil, or_false] at h
  rcases h with (h | h) | h
  · exact .inr (List.mem_filter.mp h).1
  · exact .inl h
  · exact .inr (List.mem_of_mem_drop h)
theorem inS_len (sl : List S3) (t : S3) : (inS sl t).length = sl.length + 1 := by
  unfold inS
  have := List.length_filter_le (fun o : S3 => decide (o.2.1 * t.1 < t.2.1 * o.1)) sl
  simp only [List.length_append, List.length_cons, List.length_nil, List.length_drop]
  omega
theorem foldS_mem : ∀ (l acc : List S3) (u : S3), u ∈ l.foldl inS acc → u ∈ l ∨ u ∈ acc
  | [], acc, u, h => .inr h
  | t :: l, acc, u, h => by
    rcases foldS_mem l (inS acc t) u h with h | h
    · exact .inl (.tail _ h)
    · rcases mem_inS h with rfl | h
      · exact .inl (.head _)
      · exact .inr h
theorem foldS_len : ∀ (l acc : List S3), (l.foldl inS acc).length = acc.length + l.length
  | [], acc => by simp
  | t :: l, acc => by
    rw [List.foldl_cons, foldS_len l, inS_len, List.length_cons]; omega
theorem slopesF_mem {dir : Str → Nat × Nat} {kv : List (Str × Int)} {u : S3} (h : u ∈ slopesF dir kv) : ∃ e ∈ kv, u = tripOf dir e := by
  rcases foldS_mem _ _ _ h with h | h
  · obtain ⟨e, he, rfl⟩ := List.mem_map.mp h
    exact ⟨e, he, rfl⟩
  · cases h
theorem slopesF_len (dir : Str → Nat × Nat) (kv : List (Str × Int)) : (slopesF dir kv).length = kv.length := by
  unfold slopesF
  rw [foldS_len]; simp
theorem sgn_range {n : Nat} (h : n < 256) : -128 ≤ sgn n ∧ sgn n ≤ 127 ∧ (n : Int).fdiv 128 ≤ 1 ∧ 0 ≤ (n : Int).fdiv 128 := by
  unfold sgn
  rw [Int.fdiv_eq_ediv_of_nonneg _ (by omega)]
  omega
def SmallS (t : S3) : Prop := 0 ≤ t.1 ∧ t.1 ≤ 255 ∧ -128 ≤ t.2.1 ∧ t.2.1 ≤ 127
theorem small_trip {dir : Str → Nat × Nat} {e : Str × Int} (h : DecOk e.1 [(dir e.1).1, (dir e.1).2]) : SmallS (tripOf dir e) := by
  have h1 := h.small (dir e.1).1 (by simp)
  have h2 := h.small (dir e.1).2 (by simp)
  obtain ⟨a, b, _⟩ := sgn_range h2
  unfold SmallS tripOf
  dsimp only
  omega
section
variable {w : World} {mg mb : Str → Option Value} {B : Heap} {W : List Str} {env : Env} {Δ : List (Str × Slot)} {k : Nat} {A : Around} {s : Shared} {Q : Flow → Shared → Prop} {E : Value → Shared → Prop} {L : Addr} {h₀ : Heap}
theorem law_D {pts row : List P2} {b : Addr} {kv : List (Str × Int)} {dir : Str → Nat × Nat} (F : Fm w mg mb B WL (eLaw L) s.heap [(Str.ofString "row", .d (.list (row.map pt))), (Str.ofString "booked", .v (.ref b)), (Str.ofString "places", .d (.list (pts.map pt)))]) (ha : AOk (k + 6) A)
    (Hb : DInt w s.heap b kv) (ob : Off (eLaw L) b) (h8 : pts.length ≤ 8) (h64 : kv.length ≤ 64) (hU : ¬ (1 < kv.length ∧ kv.length < pts.length / 2 * 2)) (hdec : ∀ e ∈ kv, DecOk e.1 [(dir e.1).1, (dir e.1).2])
    (hh : ∀ h' tk, Eff (eLaw L) [] s.heap h' → Fm w mg mb B WL (eLaw L) h' [(Str.ofString "slopes", .d (.list ((slopesF dir kv).map trip))), (Str.ofString "row", .d (.list (row.map pt))), (Str.ofString "places", .d (.list (pts.map pt)))] →
      wpAny (model pr w) A (execs ((defB (stAt 26)).drop 9) (eLaw L)) Q E { s with heap := h', toks := tk }) : wpAny (model pr w) A (execs ((defB (stAt 26)).drop 6) (eLaw L)) Q E s := by
  have big : (1000 : Nat) ≤ sizeLine := by decide
  have nlen : (pts.map pt).length = pts.length := List.length_map _
  refine sx_if (c := false) ha (Tv.as (tv_chainI ev_int (ev_lenD F (ev_nameV F rfl) Hb (by omega)) (ev_mulI (ev_divI (ev_lenL F (ev_name F rfl) (by rw [nlen]; omega)) ev_int (by decide) (PyProof.noPylong_small (by decide))) ev_int ?_)) ?_) (fun h => nomatch h) fun _ h₁ tk₁ l₁ => sx_nil ?_
  · rw [nlen, Int.fdiv_eq_ediv_of_nonneg _ (by omega)]
    exact mulOk (by omega) (by omega) (by omega) (by omega)
  · rw [nlen, Int.fdiv_eq_ediv_of_nonneg _ (by omega)]
    rw [Bool.and_eq_false_iff, decide_eq_false_iff_not, decide_eq_false_iff_not]
    omega
  have F₁ := F.le l₁
  have Hb₁ := Hb.le l₁
  refine sx_assign F₁ ha (ev_list evd_nil) (.inl rfl) fun h₂ tk₂ g₂ gs₂ F₂ => ?_
  have Hb₂ := Hb₁.eff ob (by simp) g₂
  refine sx_forKeys (M := []) (kv := kv) (J := fun i h => Fm w mg mb B WL (eLaw L) h [(Str.ofString "slopes", .d (.list ((slopesF dir (kv.take i)).map trip))), (Str.ofString "row", .d (.list (row.map pt))), (Str.ofString "booked", .v (.ref b)), (Str.ofString "places", .d (.list (pts.map pt)))] ∧ DInt w h b kv)
    F₂ ha (ev_nameV F₂ rfl) Hb₂ ob (fun _ h => nomatch h) (fun h' l => ⟨F₂.le l, Hb₂.le l⟩) (fun i => (Fm.steady F₂.keep).and DInt.steady) ?_ ?_
  · rintro i y n v h tk hi hv ⟨Fh, Hh⟩ he
    have hi64 : i < kv.length := (List.getElem?_eq_some_iff.mp hi).1
    generalize hsl : slopesF dir (kv.take i) = sl at Fh
    have hnext : slopesF dir (kv.take (i + 1)) = inS sl (tripOf dir (y, n)) := by
      rw [← hsl]; unfold slopesF
      rw [List.take_add_one, hi, List.map_append, List.foldl_append]; rfl
    have hsm : ∀ t ∈ sl, SmallS t := by
      intro t ht
      rw [← hsl] at ht
      obtain ⟨e, he, rfl⟩ := slopesF_mem ht
      exact small_trip (hdec e (List.mem_of_mem_take he))
    have hsz : sl.length ≤ 64 := by rw [← hsl, slopesF_len, List.length_take]; omega
    have hd := hdec (y, n) (List.mem_of_getElem? hi)
    dsimp only at hd
    have hst : SmallS (tripOf dir (y, n)) := small_trip (e := (y, n)) hd
    unfold tripOf at hnext hst
    dsimp only at hnext hst
    generalize hab : dir y = ab at *
    obtain ⟨a, c⟩ := ab
    dsimp only at *
    have ha256 := hd.small a (by simp)
    have hc256 := hd.small c (by simp)
    obtain ⟨sg1, sg2, sg3, sg4⟩ := sgn_range hc256
    refine asg1 Fh (.inl rfl) hv fun h₄ tk₄ g₄ gs₄ F₄ => ?_
    have H₄ := Hh.eff ob (by simp) g₄
    refine sx_unpack2 (d := .int a) (f := .int c) F₄ ha (Ev.mono (ev_comprehension (mg := mg) (mb := mb) (dd := .str ⟨[a, c].toArray⟩) (ds := [.str ⟨#[a]⟩, .str ⟨#[c]⟩]) (sel := selOrd) (cl := []) (Δf := []) (Δt := fun d => [(Str.ofString "sign", .d d)]) (ev_fn F₄ (g_decode w) (k92 w) rfl (evd_cons (ev_name F₄ rfl) evd_nil) (decode_fn (k := k + 3) hd) Ds.mono) (.inr ⟨_, rfl, rfl, by show 2 ≤ 1000; omega, _, _, rfl⟩) (by rfl) (by decide) rfl (by decide) fun h₅ l₅ => ?_) fun v h l r => .inr r) (.inr ⟨rfl, by simp⟩) (.inr ⟨rfl, by simp⟩) fun h₅ tk₅ g₅ gs₅ F₅ => ?_
    · refine ⟨trivial, comp_free (F₄.le l₅) rfl (fun x c e => nomatch e) .nil (fun x sl e => nomatch e), fun d hd C A s Q E v ha F hv hq => asgC1 F rfl hv fun h' tk kk F' => hq h' tk kk F', fun d hd C h F => ?_, fun d hd e he C h F => ?_, fun i => ?_⟩
      · simp only [List.mem_cons, List.not_mem_nil, or_false] at hd
        rcases hd with rfl | rfl <;> rfl
      · simp only [List.mem_cons, List.not_mem_nil, or_false] at hd
        rcases hd with rfl | rfl
        · cases he
          exact ev_ord F (ev_name F rfl)
        · cases he
          exact ev_ord F (ev_name F rfl)
      · exact ⟨trivial, trivial, trivial⟩
    have H₅ := H₄.eff ob (by simp) g₅
    refine sx_augC (d := .int (sgn c)) F₅ ha rfl rfl (by simp) rfl (ev_mulI (ev_divI (ev_name F₅ rfl) ev_int (by decide) (PyProof.noPylong_small (by decide))) ev_int (mulOk (by omega) (by omega) (by omega) (by omega))) aug_subI fun h₆ tk₆ g₆ gs₆ F₆ => ?_
    have H₆ := H₅.eff ob (by simp) g₆
    refine sx_comprehension (cl := [(Str.ofString "y", L + 1 + 1), (Str.ofString "x", L + 1)]) (sel := selAhead a (sgn c)) (ds := sl.map trip) (Δf := [(Str.ofString "x", .d (.int a)), (Str.ofString "y", .d (.int (sgn c)))]) (Δt := fun d => [(Str.ofString "one", .d d), (Str.ofString "x", .d (.int a)), (Str.ofString "y", .d (.int (sgn c)))])
      F₆ ha (ev_name F₆ rfl) (.inl ⟨rfl, by rw [List.length_map]; omega⟩) (by rfl) (by decide) rfl (by decide) rfl ?_ ?_
    · intro h₇ l₇
      refine ⟨trivial, comp_free (F₆.le l₇) rfl ?_ ?_ ?_, fun d hd C A s Q E v ha F hv hq => asgC1 F rfl hv fun h' tk kk F' => hq h' tk kk F', fun d hd C h F => ?_, fun d hd e he C h F => ?_, fun i => ?_⟩
      · intro x c e
        have e := mem_of_lookup e
        simp only [List.mem_cons, List.not_mem_nil, or_false, Prod.mk.injEq] at e
        rcases e with ⟨rfl, rfl⟩ | ⟨rfl, rfl⟩
        · exact ⟨by rfl, .inl rfl⟩
        · exact ⟨by rfl, .inl rfl⟩
      · simp
      · intro x sl e
        have e := mem_of_lookup e
        simp only [List.mem_cons, List.not_mem_nil, or_false, Prod.mk.injEq] at e
        rcases e with ⟨rfl, rfl⟩ | ⟨rfl, rfl⟩
        · exact ⟨rfl, fun C h => nomatch (show some NameKind.cell = some NameKind.local from h)⟩
        · exact ⟨rfl, fun C h => nomatch (show some NameKind.cell = some NameKind.local from h)⟩
      · obtain ⟨t, ht, rfl⟩ := List.mem_map.mp hd
        obtain ⟨t1, t2, t3, t4⟩ := hsm t ht
        have e : (selAhead a (sgn c) (trip t)).isSome = decide (t.2.1 * a < sgn c * t.1) := by
          show (if t.2.1 * a < sgn c * t.1 then some (trip t) else none).isSome = _
          by_cases h : t.2.1 * a < sgn c * t.1
          · rw [if_pos h, decide_eq_true h]; rfl
          · rw [if_neg h, decide_eq_false h]; rfl
        show Tvs w _ _ h [_] _
        rw [e]
        exact tv_ltI (ev_mulI (ev_itemT (i := 1) (ds := [.int t.1, .int t.2.1, .int t.2.2]) (d := .int t.2.1) (ev_name F rfl) ev_int rfl (by decide)) (ev_name F rfl) (mulOk (by omega) (by omega) (by omega) (by omega))) (ev_mulI (ev_name F rfl) (ev_itemT (i := 0) (ds := [.int t.1, .int t.2.1, .int t.2.2]) (d := .int t.1) (ev_name F rfl) ev_int rfl (by decide)) (mulOk (by omega) (by omega) (by omega) (by omega)))
      · obtain ⟨t, ht, rfl⟩ := List.mem_map.mp hd
        have he : (if t.2.1 * a < sgn c * t.1 then some (trip t) else none) = some e := he
        have e' : e = trip t := by
          by_cases h : t.2.1 * a < sgn c * t.1
          · rw [if_pos h] at he; simpa using he.symm
          · rw [if_neg h] at he; cases he
        subst e'
        exact ev_name F rfl
      · refine lacksAll_of fun d hd => ?_
        rw [ahead_eq] at hd
        obtain ⟨t, _, rfl⟩ := List.mem_map.mp hd
        exact ⟨trivial, trivial, trivial, trivial⟩
    intro h₇ tk₇ g₇ gs₇ F₇
    rw [ahead_eq] at F₇
    have H₇ := H₆.eff ob (by simp) g₇
    have fl := List.length_filter_le (fun o : S3 => decide (o.2.1 * (a : Int) < sgn c * o.1)) sl
    refine sx_assign (d := .list ((inS sl ((a : Int), sgn c, n)).map trip)) F₇ ha ?_ (.inl rfl) fun h₈ tk₈ g₈ gs₈ F₈ => ?_
    · have e : (inS sl ((a : Int), sgn c, n)).map trip = (sl.filter fun o => decide (o.2.1 * (a : Int) < sgn c * o.1)).map trip ++ [trip ((a : Int), sgn c, n)] ++ (sl.map trip).drop ((sl.filter fun o => decide (o.2.1 * (a : Int) < sgn c * o.1)).map trip).length := by
        unfold inS
        rw [List.map_append, List.map_append, List.map_drop, List.length_map]; rfl
      rw [e]
      refine ev_addL (ev_addL (ev_name F₇ rfl) (ev_list (evd_cons (ev_tuple (evd_cons (ev_name F₇ rfl) (evd_cons (ev_name F₇ rfl) (evd_cons (ev_itemD (ev_nameV F₇ rfl) (ev_name F₇ rfl) H₇ (getK_mem H₇.nodup hi)) evd_nil)))) evd_nil)) ?_)
        (ev_sliceL (ds := sl.map trip) (ev_name F₇ rfl) (pt_some (ev_lenL F₇ (ev_name F₇ rfl) (by rw [List.length_map]; omega))) pt_none pt_none (by simp) (by rw [List.length_map]; omega) fun h vs r => pick_from _ vs r) ?_
      · simp only [List.length_map, List.length_cons, List.length_nil]
        omega
      · simp only [List.length_append, List.length_map, List.length_cons, List.length_nil, List.length_drop]
        omega
    refine sx_nil ⟨h₈, tk₈, rfl, ⟨?_, H₇.eff ob (by simp) g₈⟩, g₄.trans (g₅.trans (g₆.trans (g₇.trans g₈)))⟩
    rw [hnext]
    exact F₈.mono (pick_all (List.forall_mem_cons.mpr ⟨rfl, List.forall_mem_cons.mpr ⟨rfl, List.forall_mem_cons.mpr ⟨rfl, List.forall_mem_cons.mpr ⟨rfl, List.forall_mem_nil _⟩⟩⟩⟩))
  · rintro h tk ⟨Fh, Hh⟩ he
    rw [List.take_length] at Fh
    exact hh h tk (((Eff.of_le l₁).trans g₂).trans he) (Fh.mono (pick_all (List.forall_mem_cons.mpr ⟨rfl, List.forall_mem_cons.mpr ⟨rfl, List.forall_mem_cons.mpr ⟨rfl, List.forall_mem_nil _⟩⟩⟩)))
end
end Mine

namespace Mine
/-- what the plain law is to show of a script -/
structure LawOk (script : List Int) (dir : Str → Nat × Nat) : Prop where
  dec1 : ∀ n, n < 256 → DecOk (hexS n) [n]
  some1 : 1 ≤ (placesF script).length
  most8 : (placesF script).length ≤ 8
  near : ∀ p ∈ placesF script, Near p
  nodup : (placesF script).Nodup
  perm : (rowF 1 (placesF script)).Perm (placesF script)
  sort : (rowF 1 (placesF script)).Pairwise before
  ungar : ¬ (1 < (bookF (rowF 1 (placesF script))).length ∧ (bookF (rowF 1 (placesF script))).length < (placesF script).length / 2 * 2)
  dec : ∀ e ∈ bookF (rowF 1 (placesF script)), DecOk e.1 [(dir e.1).1, (dir e.1).2]
  rows : ∀ i, (rowsF (rowF 1 (placesF script)) ((slopesF dir (bookF (rowF 1 (placesF script)))).take i)).Perm (placesF script)
  turns : ∀ (i : Nat) t, (slopesF dir (bookF (rowF 1 (placesF script))))[i]? = some t → ((turnF t.1 t.2.1 (rowsF (rowF 1 (placesF script)) ((slopesF dir (bookF (rowF 1 (placesF script)))).take i))).2 : Int) = t.2.2
  last : rowsF (rowF 1 (placesF script)) (slopesF dir (bookF (rowF 1 (placesF script)))) = rowF (-1) (placesF script)
section
variable {w : World} {mg mb : Str → Option Value} {B : Heap} {W : List Str} {env : Env} {Δ : List (Str × Slot)} {k : Nat} {A : Around} {s : Shared} {E : Value → Shared → Prop} {L : Addr} {h₀ : Heap}
theorem law_E {Q : Flow → Shared → Prop} {pts row : List P2} {sl : List S3} (F : Fm w mg mb B WL (eLaw L) s.heap [(Str.ofString "slopes", .d (.list (sl.map trip))), (Str.ofString "row", .d (.list (row.map pt))), (Str.ofString "places", .d (.list (pts.map pt)))]) (ha : AOk (k + 6) A)
    (h8 : pts.length ≤ 8) (near : ∀ p ∈ pts, Near p) (hsl : sl.length ≤ 64) (small : ∀ t ∈ sl, SmallS t) (rows : ∀ i, (rowsF row (sl.take i)).Perm pts) (turns : ∀ (i : Nat) t, sl[i]? = some t → ((turnF t.1 t.2.1 (rowsF row (sl.take i))).2 : Int) = t.2.2) (last : rowsF row sl = rowF (-1) pts)
    (hh : ∀ h' tk, Le B h' → Eff (eLaw L) [] s.heap h' → Q (.ret (.bool true)) { s with heap := h', toks := tk }) : wpAny (model pr w) A (execs ((defB (stAt 26)).drop 9) (eLaw L)) Q E s := by
  refine sx_forL (M := []) (J := fun i h => Fm w mg mb B WL (eLaw L) h [(Str.ofString "row", .d (.list ((rowsF row (sl.take i)).map pt))), (Str.ofString "places", .d (.list (pts.map pt)))])
    F ha trivial (ev_name F rfl) (fun _ h => nomatch h) (fun h' l => (F.le l).mono (pick_all ?_)) (fun i => Fm.steady F.keep) ?_ ?_
  · exact List.forall_mem_cons.mpr ⟨rfl, List.forall_mem_cons.mpr ⟨rfl, List.forall_mem_nil _⟩⟩
  · rintro i d v h tk hd hv Fh he
    rw [List.getElem?_map] at hd
    obtain ⟨t, ht, rfl⟩ := Option.map_eq_some_iff.mp hd
    obtain ⟨t1, t2, t3, t4⟩ := small t (List.mem_of_getElem? ht)
    have hr := rows i
    have htn := turns i t ht
    generalize hrow : rowsF row (sl.take i) = r at *
    have hnext : rowsF row (sl.take (i + 1)) = (turnF t.1 t.2.1 r).1 := by
      rw [← hrow]; unfold rowsF
      rw [List.take_add_one, ht, List.foldl_append]; rfl
    refine asg3 Fh ha (.inr ⟨rfl, by simp⟩) (.inr ⟨rfl, by simp⟩) (.inl rfl) (.inl hv) fun h₄ tk₄ g₄ gs₄ F₄ => ?_
    refine sx_unpack2 (d := .list ((turnF t.1 t.2.1 r).1.map pt)) (f := .int (turnF t.1 t.2.1 r).2) F₄ ha (Ev.mono (ev_fn F₄ (g_turn w) (k111 w) rfl (evd_cons (ev_name F₄ rfl) (evd_cons (ev_name F₄ rfl) (evd_cons (ev_name F₄ rfl) evd_nil))) (turn_fn (k := k + 4) (row := r) (by rw [hr.length_eq]; omega) (fun p hp => near p (hr.mem_iff.mp hp)) ⟨by omega, by omega⟩ ⟨by omega, by omega⟩) Ds.mono) fun v h l r => .inl r) (.inl rfl) (.inl rfl) fun h₅ tk₅ g₅ gs₅ F₅ => ?_
    refine sx_if (c := false) ha (Tv.as (tv_neI (ev_name F₅ rfl) (ev_name F₅ rfl)) (by rw [htn]; simp)) (fun h => nomatch h) fun _ h₆ tk₆ l₆ => sx_nil (sx_nil ⟨h₆, tk₆, rfl, ?_, g₄.trans (g₅.trans (Eff.of_le l₆))⟩)
    rw [hnext]
    exact (F₅.le l₆).mono (pick_all (List.forall_mem_cons.mpr ⟨rfl, List.forall_mem_cons.mpr ⟨rfl, List.forall_mem_nil _⟩⟩))
  · rintro h tk Fh he
    rw [List.length_map, List.take_length, last] at Fh
    refine sx_ret ha (ev_cmp (ev_name Fh rfl) (ev_fn Fh (g_row w) (k97 w) rfl (evd_cons (ev_name Fh rfl) (evd_cons (ev_negI ev_int) evd_nil)) (row_fn (k := k + 2) (way := -1) (by omega)) Ds.mono) D.mono fun a b h₃ l ra rb => cv_eqL ra rb) fun v h' tk l r => ?_
    rw [show decide (rowF (-1) pts = rowF (-1) pts) = true from decide_eq_true rfl] at r
    obtain rfl := Rd.bool_inv r
    exact hh h' tk (Fh.le l).keep (he.trans (Eff.of_le l))
theorem k115 (w : World) : noTabs (K w.params) = true := by kernel_rfl
theorem Fm.base {B' : Heap} {h : Heap} (F : Fm w mg mb B W env h Δ) (X : Tp w mg mb B') (l : Le B' B) : Fm w mg mb B' W env h Δ where
  tp := X
  keep := l.trans F.keep
  glob := F.glob
  blt := F.blt
  kind := F.kind
  ns := F.ns
  cell := F.cell
  freshL := not_live_le l F.freshL
  freshC := fun x hx => by
    obtain ⟨c, hc, e⟩ := F.freshC x hx
    exact ⟨c, hc, not_live_le l e⟩
  apart := F.apart
theorem law_ok {v : Value} {script : List Int} {dir : Str → Nat × Nat} {Q : Value → Shared → Prop} (ha : AOk (k + 7) A) (X : Tp w mg mb s.heap) (hC : CodeHd s.heap 115 113) (hT : s.heap.get? 113 = some (tabObj #[])) (hb : s.heap.BuiltinsAt mg 113)
    (hv : Rd s.heap v (.list (script.map .int))) (hz : script.length ≤ 63) (O : LawOk script dir) (hq : ∀ h' tk, Le (ghostOf s.heap [(115, 113)]) h' → (∃ ps, h'.get? 113 = some (tabObj ps)) → Q (.bool true) { s with heap := h', toks := tk }) : wpAny (model pr w) A (call (.ref 116) [v]) Q E s := by
  have hTT : TabsAt [(115, 113)] s.heap := by
    intro q hq
    simp only [List.mem_cons, List.not_mem_nil, or_false] at hq
    subst hq
    exact ⟨hC, hT⟩
  have XG : Tp w mg mb (ghostOf s.heap [(115, 113)]) := by
    refine ⟨ghost_K hTT X.X (k115 w), ghost_ns hTT X.T.g, ghost_ns hTT X.T.b, ?_, X.T.builtins, X.T.free⟩
    obtain ⟨mc, a, r⟩ := X.T.nolimit
    exact ⟨mc, ghost_ns hTT a, r⟩
  have hCG : CodeHd (ghostOf s.heap [(115, 113)]) 115 113 := (ghost_code hTT).1
  have hBG : (ghostOf s.heap [(115, 113)]).get? 113 = none := hideAll_none _ (by simp)
  have hbG : (ghostOf s.heap [(115, 113)]).BuiltinsAt mg 113 := by
    obtain ⟨bm, ob, b1, b2, b3, b4, b5, b6, b7, b8⟩ := hb
    exact ⟨bm, ob, b1, b2, b3, b4, ghost_get hTT b5 (fun q => by rw [q] at b6; cases b6), b6, b7, b8⟩
  refine enterX (nm := Str.ofString "law") (q := Str.ofString "law") (st := stAt 26) (dV := .none) (pm := pmC) (cd := 115) (W := WL) (binds := [(Str.ofString "script", v)]) (Δ := [(Str.ofString "script", .d (.list (script.map .int)))])
    X (k116 w) (by kernel_rfl) ha.room (by rfl) (locs (by kernel_rfl)) (by rfl) (by rfl) (by rfl) ?_ ?_ fun h₁ tk₁ F => ?_
  · intro x hx
    simp only [WL, List.mem_cons, List.not_mem_nil, or_false] at hx
    rcases hx with rfl | rfl <;> rfl
  · intro x sl e
    have e := mem_of_lookup e
    simp only [List.mem_cons, List.not_mem_nil, or_false, Prod.mk.injEq] at e
    obtain ⟨rfl, rfl⟩ := e
    exact ⟨by rfl, _, by rfl, hv⟩
  have oT : Off (eLaw s.heap.objs.size) 113 := by
    refine ⟨?_, fun x c e ec => ?_⟩
    · intro e
      have := F.freshL
      rw [← e, hT] at this; cases this
    · subst ec
      have h1 := Heap.lt_size hT
      have e : ([(Str.ofString "y", s.heap.objs.size + 1 + 1), (Str.ofString "x", s.heap.objs.size + 1)] : List (Str × Addr)).lookup x = some 113 := e
      have e := mem_of_lookup e
      simp only [List.mem_cons, List.not_mem_nil, or_false, Prod.mk.injEq] at e
      have h1 : (113 : Nat) < s.heap.objs.size := h1
      rcases e with ⟨_, e⟩ | ⟨_, e⟩
      · have e : (113 : Nat) = s.heap.objs.size + 1 + 1 := e
        omega
      · have e : (113 : Nat) = s.heap.objs.size + 1 := e
        omega
  have hT₁ : h₁.get? 113 = some (tabObj #[]) := F.keep _ _ hT
  have F := F.base XG fun b o e => of_hideAll _ e
  have ha := ha.deeper (eLaw s.heap.objs.size)
  refine law_A F ha hz O.dec1 fun h₂ tk₂ e₂ F₂ => ?_
  have hT₂ := e₂ _ _ oT.1 oT.2 (by simp) hT₁
  refine law_B (s := { s with heap := h₂, toks := tk₂ }) F₂ ha hT₂ hCG hbG hBG oT O.some1 O.most8 O.near O.nodup O.perm O.sort fun b h₃ tk₃ e₃ htb Hb ob nb F₃ => ?_
  refine law_C (s := { s with heap := h₃, toks := tk₃ }) F₃ ha Hb ob nb (by rw [O.perm.length_eq]; exact O.most8) (fun p hp => O.near p (O.perm.mem_iff.mp hp)) O.sort fun b h₄ tk₄ e₄ Hb ob nb F₄ => ?_
  have l64 : (bookF (rowF 1 (placesF script))).length ≤ 64 := by
    have h1 := bookUpTo_len (rowF 1 (placesF script)) (rowF 1 (placesF script)).length
    have h2 : (rowF 1 (placesF script)).length ≤ 8 := by rw [O.perm.length_eq]; exact O.most8
    have h3 := Nat.mul_le_mul h2 h2
    exact Nat.le_trans h1 h3
  refine law_D (s := { s with heap := h₄, toks := tk₄ }) F₄ ha Hb ob O.most8 l64 O.ungar O.dec fun h₅ tk₅ e₅ F₅ => ?_
  refine law_E (s := { s with heap := h₅, toks := tk₅ }) F₅ ha O.most8 O.near (by rw [slopesF_len]; exact l64) (fun t ht => ?_) O.rows O.turns O.last fun h₆ tk₆ l e₆ => hq h₆ tk₆ l ?_
  · obtain ⟨e, he, rfl⟩ := slopesF_mem ht
    exact small_trip (O.dec e he)
  · obtain ⟨ps, htb⟩ := htb
    exact ⟨ps, e₆ _ _ oT.1 oT.2 (by simp) (e₅ _ _ oT.1 oT.2 (by simp) (e₄ _ _ oT.1 oT.2 (by simp) htb))⟩
end
end Mine

namespace Mine
theorem loose_eq : looseW qV loose = loose := by kernel_rfl
theorem seqOnly_ints : ∀ (ns : List Int), seqOnlyAll (ns.map PyData.int) = true
  | [] => rfl
  | n :: ns => by simp only [List.map_cons, seqOnlyAll, seqOnly, seqOnly_ints ns, Bool.and_self]
theorem code_ok {w : World} {mean : ExcName → Option Value} {mg mb : Str → Option Value} {h : Heap} (T : Top qV loose mean mg mb h) (X : (K w.params).In h) : CodeHd h 115 113 ∧ h.get? 113 = some (tabObj #[]) := by
  obtain ⟨d, hr⟩ : ∃ d, (recsOf qV).find? (fun e => e.name == Str.ofString "law") = some d := Option.isSome_iff_exists.mp (by kernel_rfl)
  exact tab_of T X hr (by kernel_rfl)
theorem old_ok {h h' : Heap} (hT : TabsAt [(115, 113)] h) (l : Le (ghostOf h [(115, 113)]) h') (x : ∃ ps, h'.get? 113 = some (tabObj ps)) : OldK h h' := by
  obtain ⟨ps, e'⟩ := x
  obtain ⟨hC, hP⟩ := hT (115, 113) (.head _)
  have ht : h.TableAt 115 113 #[] := hC.tab hP
  have ne : ∀ b o, b ≠ 113 → h.get? b = some o → h'.get? b = some o := fun b o hb e => l _ _ (ghost_ne e (by simpa using hb))
  refine ⟨fun b o e => ?_, fun b o e => ?_⟩
  · by_cases hb : b = 113
    · subst hb
      have e₀ : o = tabObj #[] := Option.some.inj (e.symm.trans hP)
      subst e₀
      exact .inr (.inl ⟨ht.isCodeTable, rfl, #[], ps, rfl, by simpa using e'⟩)
    · exact .inl (ne b o hb e)
  · by_cases hb : b = 113
    · exact ⟨_, hb ▸ e'⟩
    · exact ⟨o, ne b o hb e⟩
theorem callerOk : AOk 7 callerA := ⟨rfl, by decide, by decide⟩
end Mine
theorem Mine.top (dir : Str → Nat × Nat) (O : ∀ script : List Int, script.length ≤ 63 → Mine.LawOk script dir) : PySem.Challenge.rw_rl0033_01.Holds := by
  o_law
  refine holds_open (q := Mine.qV) (loose := Mine.loose) (Xt := fun _ => true) (XP := fun _ _ => True) (Yf := (kHook Mine.K Mine.kAs Mine.kAs_ok).obs) (Ya := (kHook Mine.K Mine.kAs Mine.kAs_ok).val) (YP := (kHook Mine.K Mine.kAs Mine.kAs_ok).says) (N := 40000) Mine.left_ (kHook Mine.K Mine.kAs Mine.kAs_ok).of (kHook Mine.K Mine.kAs Mine.kAs_ok).keeps (fun _ _ => trivial) (fun _ _ _ _ _ => trivial) (by rfl) (by rfl) (by rfl) (fun s _ => recFacts_nil rfl) (by rfl) (by assumption) (by decide +kernel) ⟨rfl, rfl, rfl, rfl, rfl, by decide +kernel⟩ ?hw ?hc
  case hw => w_witness2
  case hc =>
    intro w s₀ s₁ mg mb G Y fa o pm cd doc dV kV ho hd hcd hD hmg hg args vals as hpre hlay hrd hwl hlo
    have KX := kIn_of Y
    have T := G.T
    rw [Mine.loose_eq] at T
    have X : Mine.Tp w mg mb s₁.heap := ⟨KX, topRead_of T⟩
    have hfa : fa = 116 := by
      have e1 : mg (Str.ofString "law") = some (.ref fa) := hmg
      have e2 := mg_of (K := Mine.K w.params) (n := Str.ofString "law") (v := .ref 116) KX T.g (by kernel_rfl)
      rw [e1] at e2; cases e2; rfl
    clear hmg hD hcd hd ho
    wrow_args hpre hlay hrd hwl hlo
    rename_i script _ _ _ _ _ as _ a vs as' hL ra wl r0 hI _ hlen _
    subst hfa
    obtain ⟨hC, hT⟩ := Mine.code_ok T KX
    have hb : s₁.heap.BuiltinsAt mg 113 := by
      obtain ⟨bm, ob, b1, b2, b3, b4, b5, b6⟩ := T.bmain
      have hbP : bm ≠ 113 := fun q => by
        rw [q, hT] at b3; cases b3; cases b4
      have hbG : bm ≠ mainGlobals := fun q => by
        obtain ⟨o, es, ep, e, hd, _⟩ := T.g
        rw [q, e] at b3; cases b3; rw [hd] at b6; cases b6
      exact ⟨bm, ob, b1, b2, hbG, hbP, b3, b4, b5, b6⟩
    have hTT : TabsAt [(115, 113)] s₁.heap := by
      intro q hq
      simp only [List.mem_cons, List.not_mem_nil, or_false] at hq
      subst hq
      exact ⟨hC, hT⟩
    have hz : script.length ≤ 63 := by omega
    refine Mine.law_ok (k := 0) (dir := dir) Mine.callerOk X hC hT hb ⟨⟨_, r0⟩, by simp only [Mine.seqOnly, Mine.seqOnly_ints]⟩ hz (O script hz) fun h' tk l htb => ?_
    refine ⟨.inl ⟨.bool true, .bool true, [], rfl, fun _ => rfl, .bool _, ?_, fun _ => ⟨List.nodup_nil, fun _ h => nomatch h⟩⟩, Mine.old_ok hTT l htb, rfl, .of_eq hg⟩
    wrow_post

namespace Mine
def decOkB (x : Str) (ns : List Nat) : Bool :=
  (x.length == 3 * ns.length) && (1 ≤ ns.length && ns.length ≤ 2) && ns.all (· < 256) && (lineCuts x == [(0, x.length)]) && (Txt.rstrip x == x) &&
  (List.range ns.length).all (fun j => itemIs x (3 * (j : Int)) (fun c => c == 61)) &&
  (List.range ns.length).all (fun j => itemIs x (3 * (j : Int) + 1) (fun c => !(Builtin.Str.occurrences hexD ⟨#[c]⟩ 0 hexD.length 1).isEmpty)) &&
  (List.range ns.length).all (fun j => itemIs x (3 * (j : Int) + 2) (fun c => !(Builtin.Str.occurrences hexD ⟨#[c]⟩ 0 hexD.length 1).isEmpty)) &&
  (List.range ns.length).all (fun j => Txt.slice x (some (3 * (j : Int))) (some (3 * (j : Int) + 3)) == hexS (ns.getD j 0)) &&
  itemIs x (-1) (fun c => !(!(Builtin.Str.occurrences crlf ⟨#[c]⟩ 0 crlf.length 1).isEmpty)) &&
  Txt.endswith (⟨ns.toArray⟩ ++ nl) nl && (Txt.slice (⟨ns.toArray⟩ ++ nl) none (some (-1)) == ⟨ns.toArray⟩)
theorem decOk_of {x : Str} {ns : List Nat} (h : decOkB x ns = true) : DecOk x ns := by
  unfold decOkB at h
  simp only [Bool.and_eq_true, List.all_eq_true, List.mem_range, decide_eq_true_eq] at h
  obtain ⟨⟨⟨⟨⟨⟨⟨⟨⟨⟨⟨h1, h2⟩, h3⟩, h4⟩, h5⟩, h6⟩, h7⟩, h8⟩, h9⟩, h10⟩, h11⟩, h12⟩ := h
  exact ⟨eq_of_beq h1, h2, h3, h4, eq_of_beq h5, h6, h7, h8, fun j hj => eq_of_beq (h9 j hj), h10, h11, eq_of_beq h12⟩
theorem dec1_all : (List.range 256).all (fun n => decOkB (hexS n) [n]) = true := by kernel_rfl
theorem dec1 {n : Nat} (hn : n < 256) : DecOk (hexS n) [n] := decOk_of (List.all_eq_true.mp dec1_all n (List.mem_range.mpr hn))
end Mine
namespace Mine
/-- the text of a way in lowest terms -/
def slT (x y : Int) : Str := hexS x.toNat ++ hexS (y.fmod 256).toNat
def dec2B (x : Nat) : Bool := (List.range 31).all fun j => if Nat.gcd x ((j : Int) - 15).natAbs == 1 then decOkB (slT x ((j : Int) - 15)) [x, (((j : Int) - 15).fmod 256).toNat] else true
theorem dec2_a : (List.range 4).all (fun n => dec2B n) = true := by kernel_rfl
theorem dec2_b : (List.range 4).all (fun n => dec2B (n + 4)) = true := by kernel_rfl
theorem dec2_c : (List.range 4).all (fun n => dec2B (n + 8)) = true := by kernel_rfl
theorem dec2_d : (List.range 4).all (fun n => dec2B (n + 12)) = true := by kernel_rfl
end Mine

namespace Mine
theorem dec2_x {x : Nat} (hx : x < 16) : dec2B x = true := by
  by_cases h1 : x < 4
  · exact List.all_eq_true.mp dec2_a x (List.mem_range.mpr h1)
  by_cases h2 : x < 8
  · have := List.all_eq_true.mp dec2_b (x - 4) (List.mem_range.mpr (by omega))
    rwa [show x - 4 + 4 = x by omega] at this
  by_cases h3 : x < 12
  · have := List.all_eq_true.mp dec2_c (x - 8) (List.mem_range.mpr (by omega))
    rwa [show x - 8 + 8 = x by omega] at this
  · have := List.all_eq_true.mp dec2_d (x - 12) (List.mem_range.mpr (by omega))
    rwa [show x - 12 + 12 = x by omega] at this
theorem dec2 {x y : Int} (h0 : 0 ≤ x) (h1 : x ≤ 15) (h2 : -15 ≤ y) (h3 : y ≤ 15) (hg : Int.gcd x y = 1) : DecOk (slT x y) [x.toNat, (y.fmod 256).toNat] := by
  obtain ⟨n, rfl⟩ := Int.eq_ofNat_of_zero_le h0
  have hb := List.all_eq_true.mp (dec2_x (x := n) (by omega)) (y + 15).toNat (List.mem_range.mpr (by omega))
  have e : (((y + 15).toNat : Nat) : Int) - 15 = y := by omega
  rw [e] at hb
  have hg' : Nat.gcd n y.natAbs = 1 := hg
  rw [if_pos (by simpa using hg')] at hb
  exact decOk_of hb
/-- back from the text -/
def dirT (t : Str) : Nat × Nat := (16 * figIdx (t.cps.getD 1 0) + figIdx (t.cps.getD 2 0), 16 * figIdx (t.cps.getD 4 0) + figIdx (t.cps.getD 5 0))
theorem fig_hx : ∀ k, k < 16 → figIdx (hx k) = k := by
  have h : (List.range 16).all (fun k => figIdx (hx k) == k) = true := by kernel_rfl
  intro k hk
  exact eq_of_beq (List.all_eq_true.mp h k (List.mem_range.mpr hk))
theorem dirT_hex {a b : Nat} (ha : a < 256) (hb : b < 256) : dirT (hexS a ++ hexS b) = (a, b) := by
  have e : (hexS a ++ hexS b) = ⟨#[61, hx (a / 16), hx (a % 16), 61, hx (b / 16), hx (b % 16)]⟩ := rfl
  rw [e]
  unfold dirT
  simp only [Array.getD_eq_getD_getElem?]
  show (16 * figIdx (hx (a / 16)) + figIdx (hx (a % 16)), 16 * figIdx (hx (b / 16)) + figIdx (hx (b % 16))) = (a, b)
  rw [fig_hx _ (by omega), fig_hx _ (by omega), fig_hx _ (by omega), fig_hx _ (by omega)]
  simp only [Prod.mk.injEq]
  omega
theorem sgn_fmod {y : Int} (h2 : -15 ≤ y) (h3 : y ≤ 15) : sgn (((y.fmod 256).toNat : Nat) : Int) = y ∧ (y.fmod 256).toNat < 256 := by
  have e : y.fmod 256 = if y < 0 then y + 256 else y := by
    rw [Int.fmod_eq_emod_of_nonneg _ (by omega)]
    split <;> omega
  unfold sgn
  rw [Int.fdiv_eq_ediv_of_nonneg _ (by omega), e]
  split <;> omega
theorem tripOf_slT {x y n : Int} (h0 : 0 ≤ x) (h1 : x ≤ 15) (h2 : -15 ≤ y) (h3 : y ≤ 15) : tripOf dirT (slT x y, n) = (x, y, n) := by
  obtain ⟨s1, s2⟩ := sgn_fmod h2 h3
  unfold tripOf slT
  dsimp only
  rw [dirT_hex (by omega) s2]
  dsimp only
  rw [s1, Int.toNat_of_nonneg h0]
theorem dec_slT {x y : Int} (h0 : 0 ≤ x) (h1 : x ≤ 15) (h2 : -15 ≤ y) (h3 : y ≤ 15) (hg : Int.gcd x y = 1) : DecOk (slT x y) [(dirT (slT x y)).1, (dirT (slT x y)).2] := by
  obtain ⟨s1, s2⟩ := sgn_fmod h2 h3
  have : dirT (slT x y) = (x.toNat, (y.fmod 256).toNat) := by
    unfold slT
    exact dirT_hex (by omega) s2
  rw [this]
  exact dec2 h0 h1 h2 h3 hg
end Mine

namespace Mine
/-! the points and the row -/
def Tiny (p : P2) : Prop := 0 ≤ p.1 ∧ p.1 ≤ 15 ∧ 0 ≤ p.2 ∧ p.2 ≤ 15
theorem Tiny.near {p : P2} (h : Tiny p) : Near p := by obtain ⟨a, b, c, d⟩ := h; exact ⟨a, by omega, c, by omega⟩
theorem tiny_ptF {n : Nat} (h : n < 256) : Tiny (ptF n) := by
  unfold Tiny ptF
  dsimp only
  omega
theorem addP_mem {ps : List P2} {p q : P2} : q ∈ addP ps p ↔ q ∈ ps ∨ q = p := by
  unfold addP
  split
  · rename_i h
    constructor
    · exact .inl
    · rintro (h' | rfl) <;> assumption
  · simp
theorem addP_nodup {ps : List P2} {p : P2} (h : ps.Nodup) : (addP ps p).Nodup := by
  unfold addP
  split
  · exact h
  · rename_i hp
    rw [List.nodup_append]
    exact ⟨h, by simp, fun a ha b hb => by simp at hb; subst hb; rintro rfl; exact hp ha⟩
theorem foldP_nodup : ∀ (l acc : List P2), acc.Nodup → (l.foldl addP acc).Nodup
  | [], acc, h => h
  | p :: l, acc, h => foldP_nodup l _ (addP_nodup h)
theorem foldP_mem : ∀ (l acc : List P2) (q : P2), q ∈ l.foldl addP acc ↔ q ∈ acc ∨ q ∈ l
  | [], acc, q => by simp
  | p :: l, acc, q => by
    rw [List.foldl_cons, foldP_mem l, addP_mem, List.mem_cons]
    constructor
    · rintro ((h | h) | h)
      · exact .inl h
      · exact .inr (.inl h)
      · exact .inr (.inr h)
    · rintro (h | h | h)
      · exact .inl (.inl h)
      · exact .inl (.inr h)
      · exact .inr h
theorem foldP_len : ∀ (l acc : List P2), (l.foldl addP acc).length ≤ acc.length + l.length
  | [], acc => by simp
  | q :: l, acc => by
    have h1 := foldP_len l (addP acc q)
    have h2 : (addP acc q).length ≤ acc.length + 1 := by unfold addP; split <;> simp
    simp only [List.foldl_cons, List.length_cons]
    omega
theorem places_facts (script : List Int) : 1 ≤ (placesF script).length ∧ (placesF script).length ≤ 8 ∧ (∀ p ∈ placesF script, Tiny p) ∧ (placesF script).Nodup := by
  obtain ⟨n1, n2⟩ := numsF_len script
  unfold placesF ptsUpTo
  generalize numsF script = ns at *
  refine ⟨?_, ?_, ?_, foldP_nodup _ _ List.nodup_nil⟩
  · have : ptF (octF 0 (ns.getD 0 0)) ∈ ((List.range ns.length).map fun k => ptF (octF k (ns.getD k 0))).foldl addP [] := by
      rw [foldP_mem]
      exact .inr (List.mem_map.mpr ⟨0, List.mem_range.mpr (by omega), rfl⟩)
    exact List.length_pos_of_mem this
  · have := foldP_len ((List.range ns.length).map fun k => ptF (octF k (ns.getD k 0))) []
    rw [List.length_nil, List.length_map, List.length_range] at this
    omega
  · intro p hp
    rw [foldP_mem] at hp
    rcases hp with hp | hp
    · cases hp
    · obtain ⟨k, _, rfl⟩ := List.mem_map.mp hp
      exact tiny_ptF (octF_lt _ _)
/-- the row's number of a point, by the way -/
def kap (way : Int) (p : P2) : Int := way * (1024 * p.2 + -p.1)
theorem cmp_kap {way : Int} (hw : way = 1 ∨ way = -1) {p q : P2} (hp : Tiny p) (hq : Tiny q) : (cmpV way q p < 0 ↔ kap way q < kap way p) ∧ (cmpV way q p > 0 ↔ kap way p < kap way q) := by
  obtain ⟨a, b⟩ := p
  obtain ⟨c, d⟩ := q
  obtain ⟨a1, a2, a3, a4⟩ := hp
  obtain ⟨b1, b2, b3, b4⟩ := hq
  unfold cmpV kap
  dsimp only at *
  rcases hw with rfl | rfl
  · repeat' split
    all_goals omega
  · repeat' split
    all_goals omega
theorem kap_inj {way : Int} (hw : way = 1 ∨ way = -1) {p q : P2} (hp : Tiny p) (hq : Tiny q) (h : kap way p = kap way q) : p = q := by
  obtain ⟨a, b⟩ := p
  obtain ⟨c, d⟩ := q
  obtain ⟨a1, a2, a3, a4⟩ := hp
  obtain ⟨b1, b2, b3, b4⟩ := hq
  unfold kap at h
  dsimp only at *
  have : a = c ∧ b = d := by rcases hw with rfl | rfl <;> omega
  rw [this.1, this.2]
theorem filter_split {α : Type} (f g : α → Bool) : ∀ (l : List α), (∀ x ∈ l, g x = !f x) → (l.filter f ++ l.filter g).Perm l
  | [], _ => .nil
  | x :: l, h => by
    have ih := filter_split f g l fun y hy => h y (.tail _ hy)
    have hx := h x (.head _)
    rw [List.filter_cons, List.filter_cons, hx]
    cases hf : f x with
    | true => simpa [hf] using ih
    | false =>
      simp only [Bool.false_eq_true, if_false, Bool.not_false, if_true]
      exact List.perm_middle.trans (.cons x ih)
theorem putIn_ok {way : Int} (hw : way = 1 ∨ way = -1) {row : List P2} {p : P2} (hp : Tiny p) (hr : ∀ q ∈ row, Tiny q) (hn : p ∉ row) (hs : row.Pairwise fun a b => kap way a < kap way b) :
    (putIn way row p).Pairwise (fun a b => kap way a < kap way b) ∧ (putIn way row p).Perm (row ++ [p]) := by
  have c : ∀ q ∈ row, (cmpV way q p < 0 ↔ kap way q < kap way p) ∧ (cmpV way q p > 0 ↔ kap way p < kap way q) := fun q hq => cmp_kap hw hp (hr q hq)
  have ne : ∀ q ∈ row, kap way q ≠ kap way p := fun q hq e => hn (kap_inj hw (hr q hq) hp e ▸ hq)
  unfold putIn
  constructor
  · rw [List.pairwise_append, List.pairwise_append]
    refine ⟨⟨hs.filter _, by simp, fun a ha b hb => ?_⟩, hs.filter _, fun a ha b hb => ?_⟩
    · simp only [List.mem_cons, List.not_mem_nil, or_false] at hb
      subst hb
      obtain ⟨h1, h2⟩ := List.mem_filter.mp ha
      exact (c a h1).1.mp (of_decide_eq_true h2)
    · obtain ⟨h1, h2⟩ := List.mem_filter.mp hb
      have hb' := (c b h1).2.mp (of_decide_eq_true h2)
      simp only [List.mem_append, List.mem_cons, List.not_mem_nil, or_false] at ha
      rcases ha with ha | rfl
      · obtain ⟨h3, h4⟩ := List.mem_filter.mp ha
        have := (c a h3).1.mp (of_decide_eq_true h4)
        omega
      · exact hb'
  · have h1 := filter_split (fun q => decide (cmpV way q p < 0)) (fun q => decide (cmpV way q p > 0)) row fun q hq => by
      obtain ⟨e1, e2⟩ := c q hq
      have e3 := ne q hq
      rw [decide_eq_decide.mpr e1, decide_eq_decide.mpr e2]
      by_cases h : kap way q < kap way p
      · rw [decide_eq_true h, decide_eq_false (by omega)]; rfl
      · rw [decide_eq_false h, decide_eq_true (by omega)]; rfl
    rw [List.append_assoc]
    refine (List.perm_middle (a := p) (l₁ := row.filter fun q => decide (cmpV way q p < 0)) (l₂ := row.filter fun q => decide (cmpV way q p > 0))).trans ?_
    refine (List.Perm.cons p h1).trans ?_
    exact (List.perm_append_comm (l₁ := [p]) (l₂ := row))
theorem fold_ok {way : Int} (hw : way = 1 ∨ way = -1) : ∀ (l acc : List P2), (∀ p ∈ l, Tiny p) → (∀ p ∈ acc, Tiny p) → (acc ++ l).Nodup → acc.Pairwise (fun a b => kap way a < kap way b) →
    (l.foldl (putIn way) acc).Pairwise (fun a b => kap way a < kap way b) ∧ (l.foldl (putIn way) acc).Perm (acc ++ l)
  | [], acc, _, _, _, hs => ⟨hs, by simp⟩
  | p :: l, acc, hl, ha, nd, hs => by
    have hn : p ∉ acc := by
      rw [List.nodup_append] at nd
      exact fun h => nd.2.2 p h p (.head _) rfl
    obtain ⟨h1, h2⟩ := putIn_ok hw (hl p (.head _)) ha hn hs
    have e : (acc ++ [p]) ++ l = acc ++ p :: l := by simp
    obtain ⟨h3, h4⟩ := fold_ok hw l (putIn way acc p) (fun q hq => hl q (.tail _ hq)) (fun q hq => by
      have := h2.mem_iff.mp hq
      simp only [List.mem_append, List.mem_cons, List.not_mem_nil, or_false] at this
      rcases this with h | rfl
      · exact ha q h
      · exact hl q (.head _)) (((h2.append_right l).nodup_iff).mpr (e ▸ nd)) h1
    exact ⟨h3, h4.trans (e ▸ h2.append_right l)⟩
theorem row_ok {way : Int} (hw : way = 1 ∨ way = -1) {pts : List P2} (ht : ∀ p ∈ pts, Tiny p) (nd : pts.Nodup) : (rowF way pts).Pairwise (fun a b => kap way a < kap way b) ∧ (rowF way pts).Perm pts := by
  obtain ⟨h1, h2⟩ := fold_ok hw pts [] ht (fun _ h => nomatch h) (by simpa using nd) .nil
  rw [List.nil_append] at h2
  exact ⟨h1, h2⟩
theorem kap_before {p q : P2} : kap 1 p < kap 1 q ↔ before p q := by
  unfold kap before qOf skey
  dsimp only
  omega
theorem kap_behind {p q : P2} : kap (-1) p < kap (-1) q ↔ before q p := by
  unfold kap before qOf skey
  dsimp only
  omega
theorem row1_ok {pts : List P2} (ht : ∀ p ∈ pts, Tiny p) (nd : pts.Nodup) : (rowF 1 pts).Pairwise before ∧ (rowF 1 pts).Perm pts := by
  obtain ⟨h1, h2⟩ := row_ok (.inl rfl) ht nd
  exact ⟨h1.imp fun h => kap_before.mp h, h2⟩
theorem rowM_ok {pts : List P2} (ht : ∀ p ∈ pts, Tiny p) (nd : pts.Nodup) : (rowF (-1) pts).Pairwise (fun p q => before q p) ∧ (rowF (-1) pts).Perm pts := by
  obtain ⟨h1, h2⟩ := row_ok (.inr rfl) ht nd
  exact ⟨h1.imp fun h => kap_behind.mp h, h2⟩
end Mine

namespace Mine
/-! pairs counted, and booked -/
def pc (f : P2 → P2 → Bool) : List P2 → Nat
  | [] => 0
  | p :: l => l.countP (f p) + pc f l
theorem pc_snoc (f : P2 → P2 → Bool) (q : P2) : ∀ l : List P2, pc f (l ++ [q]) = pc f l + l.countP fun p => f p q
  | [] => rfl
  | p :: l => by
    rw [List.cons_append, pc, pc, pc_snoc f q l, List.countP_append, List.countP_cons, List.countP_cons, List.countP_nil]
    omega
theorem pc_perm {f : P2 → P2 → Bool} (hf : ∀ p q, f p q = f q p) {l l' : List P2} (h : l.Perm l') : pc f l = pc f l' := by
  induction h with
  | nil => rfl
  | cons p h ih => rw [pc, pc, ih, h.countP_eq]
  | swap p q l =>
    simp only [pc, List.countP_cons]
    rw [hf p q]
    omega
  | trans _ _ ih1 ih2 => exact ih1.trans ih2
theorem pc_congr {f g : P2 → P2 → Bool} {r : P2 → P2 → Prop} : ∀ {l : List P2}, l.Pairwise r → (∀ p ∈ l, ∀ q ∈ l, r p q → f p q = g p q) → pc f l = pc g l
  | [], _, _ => rfl
  | p :: l, h, e => by
    rw [List.pairwise_cons] at h
    rw [pc, pc, pc_congr h.2 fun a ha b hb => e a (.tail _ ha) b (.tail _ hb)]
    congr 1
    exact List.countP_congr fun q hq => by rw [e p (.head _) q (.tail _ hq) (h.1 q hq)]
/-- a dict that counts -/
def Counts (kv : List (Str × Int)) (c : Str → Nat) : Prop := (kv.map (·.1)).Nodup ∧ ∀ t, getK kv t = if c t = 0 then none else some ((c t : Nat) : Int)
theorem getK_nil (t : Str) : getK [] t = none := rfl
theorem getK_cons (e : Str × Int) (kv : List (Str × Int)) (t : Str) : getK (e :: kv) t = if e.1 = t then some e.2 else getK kv t := by
  unfold getK
  rw [List.find?_cons]
  by_cases h : e.1 = t
  · rw [decide_eq_true h, if_pos h]; rfl
  · rw [decide_eq_false h, if_neg h]
theorem getK_none {kv : List (Str × Int)} {t : Str} : getK kv t = none ↔ t ∉ kv.map (·.1) := by
  induction kv with
  | nil => simp [getK_nil]
  | cons e kv ih =>
    rw [getK_cons, List.map_cons, List.mem_cons, not_or]
    by_cases h : e.1 = t
    · rw [if_pos h]
      constructor
      · intro x; cases x
      · intro x; exact absurd h.symm x.1
    · rw [if_neg h, ih]
      exact ⟨fun x => ⟨fun e => h e.symm, x⟩, fun x => x.2⟩
theorem getK_of_mem {kv : List (Str × Int)} (nd : (kv.map (·.1)).Nodup) {x : Str} {n : Int} (h : (x, n) ∈ kv) : getK kv x = some n := by
  obtain ⟨i, hi, e⟩ := List.mem_iff_getElem.mp h
  exact getK_mem nd (i := i) (by rw [List.getElem?_eq_getElem hi, e])
theorem mem_of_getK {kv : List (Str × Int)} {x : Str} {n : Int} (h : getK kv x = some n) : (x, n) ∈ kv := by
  induction kv with
  | nil => cases h
  | cons e kv ih =>
    rw [getK_cons] at h
    by_cases he : e.1 = x
    · rw [if_pos he] at h
      cases h; subst he; exact .head _
    · rw [if_neg he] at h
      exact .tail _ (ih h)
theorem putK_fst (kv : List (Str × Int)) (x : Str) (n : Int) : (putK kv x n).map (·.1) = if x ∈ kv.map (·.1) then kv.map (·.1) else kv.map (·.1) ++ [x] := by
  unfold putK
  have e : (kv.any fun p => p.1 = x) = decide (x ∈ kv.map (·.1)) := by
    rw [Bool.eq_iff_iff, List.any_eq_true, decide_eq_true_eq, List.mem_map]
    constructor
    · rintro ⟨p, hp, h⟩; exact ⟨p, hp, of_decide_eq_true h⟩
    · rintro ⟨p, hp, h⟩; exact ⟨p, hp, decide_eq_true h⟩
  rw [e]
  by_cases h : x ∈ kv.map (·.1)
  · rw [decide_eq_true h, if_pos rfl, if_pos h, List.map_map]
    refine List.map_congr_left fun p _ => ?_
    simp only [Function.comp_apply]
    split <;> rfl
  · rw [decide_eq_false h, if_neg (by decide), if_neg h, List.map_append]; rfl
theorem putK_nodup {kv : List (Str × Int)} (nd : (kv.map (·.1)).Nodup) (x : Str) (n : Int) : ((putK kv x n).map (·.1)).Nodup := by
  rw [putK_fst]
  split
  · exact nd
  · rename_i h
    rw [List.nodup_append]
    exact ⟨nd, by simp, fun a ha b hb => by simp at hb; subst hb; rintro rfl; exact h ha⟩
theorem getK_put_any : ∀ (kv : List (Str × Int)) (x : Str) (n : Int) (t : Str), getK (kv.map fun p => if p.1 = x then (p.1, n) else p) t = if t = x then (getK kv t).map fun _ => n else getK kv t
  | [], x, n, t => by rw [List.map_nil, getK_nil]; split <;> rfl
  | e :: kv, x, n, t => by
    rw [List.map_cons, getK_cons, getK_cons, getK_put_any kv x n t]
    by_cases h1 : e.1 = x
    · rw [if_pos h1]
      dsimp only
      by_cases h2 : e.1 = t
      · rw [if_pos h2, if_pos h2, if_pos (h2.symm.trans h1)]; rfl
      · rw [if_neg h2, if_neg h2]
    · rw [if_neg h1]
      by_cases h2 : e.1 = t
      · rw [if_pos h2, if_pos h2, if_neg fun h3 => h1 (h2.trans h3)]
      · rw [if_neg h2, if_neg h2]
theorem getK_append (kv : List (Str × Int)) (e : Str × Int) (t : Str) : getK (kv ++ [e]) t = (getK kv t).orElse fun _ => if e.1 = t then some e.2 else none := by
  induction kv with
  | nil => rw [List.nil_append, getK_cons, getK_nil]; rfl
  | cons a kv ih =>
    rw [List.cons_append, getK_cons, getK_cons, ih]
    split <;> rfl
theorem getK_putK (kv : List (Str × Int)) (x : Str) (n : Int) (t : Str) : getK (putK kv x n) t = if t = x then some n else getK kv t := by
  unfold putK
  split
  · rename_i h
    rw [getK_put_any]
    by_cases ht : t = x
    · rw [if_pos ht, if_pos ht]
      cases hg : getK kv t with
      | some m => rfl
      | none =>
        rw [getK_none] at hg
        obtain ⟨p, hp, e⟩ := List.any_eq_true.mp h
        exact absurd (List.mem_map.mpr ⟨p, hp, (of_decide_eq_true e).trans ht.symm⟩) hg
    · rw [if_neg ht, if_neg ht]
  · rename_i h
    rw [getK_append]
    by_cases ht : t = x
    · subst ht
      have : getK kv t = none := by
        rw [getK_none]
        intro hm
        obtain ⟨p, hp, e⟩ := List.mem_map.mp hm
        exact h (List.any_eq_true.mpr ⟨p, hp, decide_eq_true e⟩)
      rw [this, if_pos rfl]
      simp
    · rw [if_neg ht]
      dsimp only
      rw [if_neg fun h => ht h.symm]
      cases getK kv t <;> rfl
theorem counts_nil : Counts [] fun _ => 0 := ⟨List.nodup_nil, fun t => rfl⟩
theorem counts_own {kv : List (Str × Int)} {c : Str → Nat} (h : Counts kv c) (q p : P2) : Counts (ownStep q kv p) fun t => c t + if textOf p q = t then 1 else 0 := by
  refine ⟨putK_nodup h.1 _ _, fun t => ?_⟩
  unfold ownStep
  show _ = if (c t + if textOf p q = t then 1 else 0) = 0 then none else some (((c t + if textOf p q = t then 1 else 0 : Nat)) : Int)
  rw [getK_putK, h.2 (textOf p q)]
  by_cases ht : t = textOf p q
  · subst ht
    by_cases hc : c (textOf p q) = 0 <;> simp [hc]
  · have ht' : ¬ textOf p q = t := fun e => ht e.symm
    rw [if_neg ht, h.2 t, if_neg ht']; rfl
theorem counts_ownF (row : List P2) (q : P2) (k : Nat) : Counts (ownF row q k) fun t => (row.take k).countP fun p => decide (textOf p q = t) := by
  have : ∀ (l : List P2) (kv : List (Str × Int)) (c : Str → Nat), Counts kv c → Counts (l.foldl (ownStep q) kv) fun t => c t + l.countP fun p => decide (textOf p q = t) := by
    intro l
    induction l with
    | nil => intro kv c h; exact h
    | cons p l ih =>
      intro kv c h
      have := ih _ _ (counts_own h q p)
      rw [List.foldl_cons]
      have e : (fun t => c t + (if textOf p q = t then 1 else 0) + l.countP fun p => decide (textOf p q = t)) = fun t => c t + (p :: l).countP fun p => decide (textOf p q = t) := by
        funext t
        rw [List.countP_cons]
        by_cases h : textOf p q = t
        · rw [if_pos h, decide_eq_true h, if_pos rfl]; omega
        · rw [if_neg h, decide_eq_false h, if_neg (by decide)]; omega
      rw [← e]; exact this
  have h := this (row.take k) [] _ counts_nil
  unfold ownF
  simpa using h
theorem fold_put : ∀ (l : List (Str × Int)) (acc : List (Str × Int)), (l.map (·.1)).Nodup → (acc.map (·.1)).Nodup → ((l.foldl (fun acc p => putK acc p.1 p.2) acc).map (·.1)).Nodup ∧ ∀ t, getK (l.foldl (fun acc p => putK acc p.1 p.2) acc) t = (getK l t).orElse fun _ => getK acc t
  | [], acc, _, h => ⟨h, fun t => rfl⟩
  | e :: l, acc, nd, h => by
    rw [List.map_cons, List.nodup_cons] at nd
    obtain ⟨h1, h2⟩ := fold_put l (putK acc e.1 e.2) nd.2 (putK_nodup h _ _)
    refine ⟨h1, fun t => ?_⟩
    rw [List.foldl_cons, h2 t, getK_putK, getK_cons]
    by_cases ht : e.1 = t
    · subst ht
      rw [if_pos rfl, if_pos rfl, getK_none.mpr nd.1]; rfl
    · rw [if_neg fun h => ht h.symm, if_neg ht]
theorem copyK_ok {kv : List (Str × Int)} (nd : (kv.map (·.1)).Nodup) : ((copyK kv).map (·.1)).Nodup ∧ ∀ t, getK (copyK kv) t = getK kv t := by
  obtain ⟨h1, h2⟩ := fold_put kv [] nd List.nodup_nil
  refine ⟨h1, fun t => ?_⟩
  unfold copyK
  rw [h2 t, getK_nil]
  cases getK kv t <;> rfl
theorem getK_merge (acc : List (Str × Int)) (e : Str × Int) (t : Str) : getK (mergeStep acc e) t = if t = e.1 then some ((getK acc t).getD 0 + e.2) else getK acc t := by
  unfold mergeStep
  cases h : getK acc e.1 with
  | none =>
    dsimp only
    rw [getK_putK]
    by_cases ht : t = e.1
    · subst ht; rw [if_pos rfl, if_pos rfl, h]; simp
    · rw [if_neg ht, if_neg ht]
  | some m =>
    dsimp only
    rw [getK_putK]
    by_cases ht : t = e.1
    · subst ht; rw [if_pos rfl, if_pos rfl, h]; rfl
    · rw [if_neg ht, if_neg ht]
theorem mergeStep_nodup {acc : List (Str × Int)} (h : (acc.map (·.1)).Nodup) (e : Str × Int) : ((mergeStep acc e).map (·.1)).Nodup := by
  unfold mergeStep
  split <;> exact putK_nodup h _ _
theorem fold_merge : ∀ (l : List (Str × Int)) (acc : List (Str × Int)), (l.map (·.1)).Nodup → (acc.map (·.1)).Nodup → ((l.foldl mergeStep acc).map (·.1)).Nodup ∧ ∀ t, getK (l.foldl mergeStep acc) t = match getK l t with | some n => some ((getK acc t).getD 0 + n) | none => getK acc t
  | [], acc, _, h => ⟨h, fun t => rfl⟩
  | e :: l, acc, nd, h => by
    rw [List.map_cons, List.nodup_cons] at nd
    obtain ⟨h1, h2⟩ := fold_merge l (mergeStep acc e) nd.2 (mergeStep_nodup h _)
    refine ⟨h1, fun t => ?_⟩
    rw [List.foldl_cons, h2 t, getK_merge, getK_cons]
    by_cases ht : e.1 = t
    · subst ht
      rw [if_pos rfl, if_pos rfl, getK_none.mpr nd.1]
    · rw [if_neg fun h => ht h.symm, if_neg ht]
theorem counts_merge {a b : List (Str × Int)} {ca cb : Str → Nat} (ha : Counts a ca) (hb : Counts b cb) : Counts (mergeK a b) fun t => ca t + cb t := by
  obtain ⟨h1, h2⟩ := copyK_ok ha.1
  obtain ⟨h3, h4⟩ := fold_merge b (copyK a) hb.1 h1
  refine ⟨h3, fun t => ?_⟩
  unfold mergeK
  show _ = if ca t + cb t = 0 then none else some ((ca t + cb t : Nat) : Int)
  rw [h4 t, h2 t, ha.2 t, hb.2 t]
  by_cases e1 : cb t = 0 <;> by_cases e2 : ca t = 0 <;> simp [e1, e2]
theorem counts_bookUpTo (row : List P2) : ∀ k, k ≤ row.length → Counts (bookUpTo row k) fun t => pc (fun p q => decide (textOf p q = t)) (row.take k)
  | 0, _ => counts_nil
  | k + 1, hk => by
    have h := counts_merge (counts_bookUpTo row k (by omega)) (counts_ownF row (row.getD k (0, 0)) k)
    rw [bookUpTo_succ]
    have e : row.take (k + 1) = row.take k ++ [row.getD k (0, 0)] := by
      rw [List.take_add_one, List.getD_eq_getElem?_getD, List.getElem?_eq_getElem (by omega)]; rfl
    rw [e]
    have e2 : (fun t => pc (fun p q => decide (textOf p q = t)) (row.take k ++ [row.getD k (0, 0)])) = fun t => pc (fun p q => decide (textOf p q = t)) (row.take k) + (row.take k).countP fun p => decide (textOf p (row.getD k (0, 0)) = t) := by
      funext t
      rw [pc_snoc]
    rw [e2]
    exact h
theorem counts_book (row : List P2) : Counts (bookF row) fun t => pc (fun p q => decide (textOf p q = t)) row := by
  have := counts_bookUpTo row row.length (Nat.le_refl _)
  rwa [List.take_length] at this
theorem pc_pos {f : P2 → P2 → Bool} : ∀ {l : List P2}, pc f l ≠ 0 → ∃ (i j : Nat) (p q : P2), i < j ∧ l[i]? = some p ∧ l[j]? = some q ∧ f p q = true
  | [], h => absurd rfl h
  | p :: l, h => by
    rw [pc] at h
    by_cases h1 : l.countP (f p) = 0
    · rw [h1, Nat.zero_add] at h
      obtain ⟨i, j, a, b, hij, ha, hb, hf⟩ := pc_pos (l := l) h
      exact ⟨i + 1, j + 1, a, b, by omega, ha, hb, hf⟩
    · obtain ⟨q, hq, hf⟩ := List.countP_pos_iff.mp (Nat.pos_of_ne_zero h1)
      obtain ⟨j, hj, e⟩ := List.mem_iff_getElem.mp hq
      exact ⟨0, j + 1, p, q, by omega, rfl, by rw [List.getElem?_cons_succ, List.getElem?_eq_getElem hj, e], hf⟩
theorem pc_ne {f : P2 → P2 → Bool} : ∀ {l : List P2} {i j : Nat} {p q : P2}, i < j → l[i]? = some p → l[j]? = some q → f p q = true → pc f l ≠ 0
  | [], i, j, p, q, _, hp, _, _ => by simp at hp
  | a :: l, 0, j + 1, p, q, _, hp, hq, hf => by
    simp only [List.getElem?_cons_zero, Option.some.injEq] at hp
    subst hp
    rw [List.getElem?_cons_succ] at hq
    have : 0 < l.countP (f a) := List.countP_pos_iff.mpr ⟨q, List.mem_of_getElem? hq, hf⟩
    rw [pc]; omega
  | a :: l, i + 1, j + 1, p, q, hij, hp, hq, hf => by
    rw [List.getElem?_cons_succ] at hp hq
    have := pc_ne (l := l) (by omega) hp hq hf
    rw [pc]; omega
end Mine

namespace Mine
/-! ways in lowest terms -/
structure Way (x y : Int) : Prop where
  x0 : 0 ≤ x
  x1 : x ≤ 15
  y0 : -15 ≤ y
  y1 : y ≤ 15
  g : Int.gcd x y = 1
  down : x = 0 → y = -1
theorem Way.unique {x y x' y' : Int} (h : Way x y) (h' : Way x' y') (e : x * y' = y * x') : x = x' ∧ y = y' := by
  obtain ⟨n, rfl⟩ := Int.eq_ofNat_of_zero_le h.x0
  obtain ⟨m, rfl⟩ := Int.eq_ofNat_of_zero_le h'.x0
  have e1 : n * y'.natAbs = y.natAbs * m := by
    have := congrArg Int.natAbs e
    rwa [Int.natAbs_mul, Int.natAbs_mul, Int.natAbs_natCast, Int.natAbs_natCast] at this
  have c1 : Nat.Coprime n y.natAbs := h.g
  have c2 : Nat.Coprime m y'.natAbs := h'.g
  have d1 : n ∣ m := c1.dvd_of_dvd_mul_left ⟨y'.natAbs, e1.symm⟩
  have d2 : m ∣ n := c2.dvd_of_dvd_mul_left (by rw [Nat.mul_comm, e1, Nat.mul_comm]; exact ⟨y.natAbs, rfl⟩)
  have hnm : n = m := Nat.dvd_antisymm d1 d2
  subst hnm
  refine ⟨rfl, ?_⟩
  rcases Nat.eq_zero_or_pos n with h0 | h0
  · subst h0
    rw [h.down rfl, h'.down rfl]
  · rw [Int.mul_comm y] at e
    exact (Int.eq_of_mul_eq_mul_left (by omega) e).symm
/-- two points' way -/
theorem way_of {p q : P2} (hp : Tiny p) (hq : Tiny q) (hb : before p q) : ∃ (g : Nat) (x y : Int), 0 < g ∧ Way x y ∧ q.2 - p.2 = g * x ∧ q.1 - p.1 = g * y ∧ textOf p q = slT x y := by
  obtain ⟨a, b⟩ := p
  obtain ⟨c, d⟩ := q
  obtain ⟨a1, a2, a3, a4⟩ := hp
  obtain ⟨b1, b2, b3, b4⟩ := hq
  unfold before qOf skey at hb
  unfold textOf
  dsimp only at *
  generalize hdx : d - b = dx
  generalize hdy : c - a = dy
  have hne : ¬ (dx = 0 ∧ dy = 0) := by omega
  have hg : 0 < Int.gcd dx dy := by
    rcases Nat.eq_zero_or_pos (Int.gcd dx dy) with h | h
    · rw [Int.gcd_eq_zero_iff] at h; exact absurd h hne
    · exact h
  refine ⟨Int.gcd dx dy, dx.fdiv (Int.gcd dx dy), dy.fdiv (Int.gcd dx dy), hg, ?_, ?_, ?_, rfl⟩
  · obtain ⟨r1, r2, r3⟩ := fdiv_range (x := dx) hg (by omega) (by omega)
    obtain ⟨r4, r5, r6⟩ := fdiv_range (x := dy) hg (by omega) (by omega)
    have k1 : dx.fdiv (Int.gcd dx dy) * Int.gcd dx dy = dx := by
      rw [Int.fdiv_eq_ediv_of_nonneg _ (by omega)]; exact Int.ediv_mul_cancel (Int.gcd_dvd_left ..)
    have k2 : dy.fdiv (Int.gcd dx dy) * Int.gcd dx dy = dy := by
      rw [Int.fdiv_eq_ediv_of_nonneg _ (by omega)]; exact Int.ediv_mul_cancel (Int.gcd_dvd_right ..)
    have k3 : Int.gcd (dx.fdiv (Int.gcd dx dy)) (dy.fdiv (Int.gcd dx dy)) = 1 := by
      rw [Int.fdiv_eq_ediv_of_nonneg _ (by omega), Int.fdiv_eq_ediv_of_nonneg _ (by omega)]
      exact Int.gcd_ediv_gcd_ediv_gcd hg
    generalize Int.gcd dx dy = g at *
    generalize dx.fdiv g = x at *
    generalize dy.fdiv g = y at *
    have hx0 : 0 ≤ x := r3 (by omega)
    have hx1 : x ≤ dx := by
      have : x * 1 ≤ x * (g : Int) := Int.mul_le_mul_of_nonneg_left (by omega) hx0
      omega
    have hy1 : y ≤ 15 := by
      rcases Int.lt_or_le y 0 with h | h
      · omega
      · have : y * 1 ≤ y * (g : Int) := Int.mul_le_mul_of_nonneg_left (by omega) h
        omega
    have hy0 : -15 ≤ y := by
      rcases Int.lt_or_le y 0 with h | h
      · have : y * (g : Int) ≤ y * 1 := Int.mul_le_mul_of_nonpos_left (by omega) (by omega)
        omega
      · omega
    refine ⟨hx0, by omega, hy0, hy1, k3, fun h => ?_⟩
    subst h
    have hy : y.natAbs = 1 := by simpa [Int.gcd] using k3
    have : dy < 0 := by omega
    rcases Int.lt_or_le y 0 with h | h
    · omega
    · have : 0 ≤ y * (g : Int) := Int.mul_nonneg h (by omega)
      omega
  · rw [Int.mul_comm, Int.fdiv_eq_ediv_of_nonneg _ (by omega)]; exact (Int.ediv_mul_cancel (Int.gcd_dvd_left ..)).symm
  · rw [Int.mul_comm, Int.fdiv_eq_ediv_of_nonneg _ (by omega)]; exact (Int.ediv_mul_cancel (Int.gcd_dvd_right ..)).symm
theorem Way.trip {x y n : Int} (h : Way x y) : tripOf dirT (slT x y, n) = (x, y, n) := tripOf_slT h.x0 h.x1 h.y0 h.y1
theorem Way.dec {x y : Int} (h : Way x y) : DecOk (slT x y) [(dirT (slT x y)).1, (dirT (slT x y)).2] := dec_slT h.x0 h.x1 h.y0 h.y1 h.g
/-- how far a point lies off a way -/
def off (x y : Int) (p : P2) : Int := p.2 * y - p.1 * x
/-- what lies between two ways -/
def crs (x y x' y' : Int) : Int := x * y' - y * x'
theorem off_diff {p q : P2} {g : Nat} {x y x' y' : Int} (h1 : q.2 - p.2 = g * x) (h2 : q.1 - p.1 = g * y) : off x' y' q - off x' y' p = g * crs x y x' y' := by
  have e2 : q.2 = p.2 + g * x := by omega
  have e1 : q.1 = p.1 + g * y := by omega
  unfold off crs
  rw [e1, e2]
  simp only [Int.add_mul, Int.mul_sub, Int.mul_assoc]
  omega
end Mine

namespace Mine
/-! the slopes stand in their order -/
def WayS (t : S3) : Prop := Way t.1 t.2.1
def slt (o t : S3) : Prop := o.2.1 * t.1 < t.2.1 * o.1
theorem slt_pos {o t : S3} (ho : WayS o) (ht : WayS t) (h : slt o t) : 0 < t.1 := by
  unfold slt at h
  rcases Int.lt_or_le 0 t.1 with h1 | h1
  · exact h1
  · have e : t.1 = 0 := by have := ht.x0; omega
    rw [e, ht.down e] at h
    have := ho.x0
    omega
theorem slt_trans {o t u : S3} (ho : WayS o) (ht : WayS t) (hu : WayS u) (h1 : slt o t) (h2 : slt t u) : slt o u := by
  have pt := slt_pos ho ht h1
  have pu := slt_pos ht hu h2
  have po := ho.x0
  unfold slt at *
  have a1 : o.2.1 * t.1 * u.1 < t.2.1 * o.1 * u.1 := Int.mul_lt_mul_of_pos_right h1 pu
  have a2 : t.2.1 * u.1 * o.1 ≤ u.2.1 * t.1 * o.1 := Int.mul_le_mul_of_nonneg_right (Int.le_of_lt h2) po
  have e1 : t.2.1 * o.1 * u.1 = t.2.1 * u.1 * o.1 := by rw [Int.mul_assoc, Int.mul_comm o.1, ← Int.mul_assoc]
  have e2 : u.2.1 * t.1 * o.1 = u.2.1 * o.1 * t.1 := by rw [Int.mul_assoc, Int.mul_comm t.1, ← Int.mul_assoc]
  have e3 : o.2.1 * t.1 * u.1 = o.2.1 * u.1 * t.1 := by rw [Int.mul_assoc, Int.mul_comm t.1, ← Int.mul_assoc]
  have a3 : o.2.1 * u.1 * t.1 < u.2.1 * o.1 * t.1 := by omega
  exact Int.lt_of_mul_lt_mul_right a3 (Int.le_of_lt pt)
theorem slt_asymm {o t : S3} (h : slt o t) : ¬ slt t o := by
  unfold slt at *
  rw [Int.mul_comm] at h
  have e : t.2.1 * o.1 = o.1 * t.2.1 := Int.mul_comm ..
  intro h'
  rw [Int.mul_comm o.2.1] at h'
  omega
def differ (o t : S3) : Prop := ¬ (o.1 = t.1 ∧ o.2.1 = t.2.1)
theorem slt_total {o t : S3} (ho : WayS o) (ht : WayS t) (h : differ o t) : slt o t ∨ slt t o := by
  have : o.1 * t.2.1 ≠ o.2.1 * t.1 := fun e => h (Way.unique ho ht e)
  unfold slt
  rw [Int.mul_comm t.2.1]
  omega
theorem slt_split {t : S3} (ht : WayS t) : ∀ {sl : List S3}, (∀ o ∈ sl, WayS o) → (∀ o ∈ sl, differ o t) → sl.Pairwise slt → ∃ A B, sl = A ++ B ∧ (∀ a ∈ A, slt a t) ∧ ∀ b ∈ B, slt t b
  | [], _, _, _ => ⟨[], [], rfl, (fun _ h => nomatch h), (fun _ h => nomatch h)⟩
  | o :: sl, hw, hd, hs => by
    rw [List.pairwise_cons] at hs
    by_cases h : slt o t
    · obtain ⟨A, B, e, h1, h2⟩ := slt_split ht (fun a ha => hw a (.tail _ ha)) (fun a ha => hd a (.tail _ ha)) hs.2
      refine ⟨o :: A, B, by rw [e]; rfl, fun a ha => ?_, h2⟩
      rcases List.mem_cons.mp ha with rfl | ha
      · exact h
      · exact h1 a ha
    · have h' : slt t o := (slt_total (hw o (.head _)) ht (hd o (.head _))).resolve_left h
      refine ⟨[], o :: sl, rfl, (fun _ h => nomatch h), fun b hb => ?_⟩
      rcases List.mem_cons.mp hb with rfl | hb
      · exact h'
      · exact slt_trans ht (hw o (.head _)) (hw b (.tail _ hb)) h' (hs.1 b hb)
theorem inS_ok {sl : List S3} {t : S3} (ht : WayS t) (hw : ∀ o ∈ sl, WayS o) (hd : ∀ o ∈ sl, differ o t) (hs : sl.Pairwise slt) : (inS sl t).Pairwise slt ∧ (inS sl t).Perm (sl ++ [t]) := by
  obtain ⟨A, B, e, h1, h2⟩ := slt_split ht hw hd hs
  have f : sl.filter (fun o => decide (o.2.1 * t.1 < t.2.1 * o.1)) = A := by
    rw [e, List.filter_append]
    have e1 : A.filter (fun o => decide (o.2.1 * t.1 < t.2.1 * o.1)) = A := List.filter_eq_self.mpr fun a ha => decide_eq_true (h1 a ha)
    have e2 : B.filter (fun o => decide (o.2.1 * t.1 < t.2.1 * o.1)) = [] := List.filter_eq_nil_iff.mpr fun b hb => by
      rw [decide_eq_true_eq]
      exact slt_asymm (h2 b hb)
    rw [e1, e2, List.append_nil]
  unfold inS
  rw [f, e, List.drop_left]
  rw [e, List.pairwise_append] at hs
  constructor
  · rw [List.pairwise_append, List.pairwise_append]
    refine ⟨⟨hs.1, by simp, fun a ha b hb => ?_⟩, hs.2.1, fun a ha b hb => ?_⟩
    · simp only [List.mem_cons, List.not_mem_nil, or_false] at hb
      subst hb
      exact h1 a ha
    · simp only [List.mem_append, List.mem_cons, List.not_mem_nil, or_false] at ha
      rcases ha with ha | rfl
      · exact hs.2.2 a ha b hb
      · exact h2 b hb
  · rw [List.append_assoc, List.append_assoc]
    exact List.Perm.append_left A List.perm_append_comm
theorem differ_symm {o t : S3} (h : differ o t) : differ t o := fun e => h ⟨e.1.symm, e.2.symm⟩
theorem foldS_ok : ∀ (l acc : List S3), (∀ t ∈ l, WayS t) → (∀ t ∈ acc, WayS t) → (acc ++ l).Pairwise differ → acc.Pairwise slt → (l.foldl inS acc).Pairwise slt ∧ (l.foldl inS acc).Perm (acc ++ l)
  | [], acc, _, _, _, hs => ⟨hs, by simp⟩
  | t :: l, acc, hl, ha, hd, hs => by
    have hd' := List.pairwise_append.mp hd
    obtain ⟨h1, h2⟩ := inS_ok (hl t (.head _)) ha (fun o ho => hd'.2.2 o ho t (.head _)) hs
    have e : (acc ++ [t]) ++ l = acc ++ t :: l := by simp
    obtain ⟨h3, h4⟩ := foldS_ok l (inS acc t) (fun q hq => hl q (.tail _ hq)) (fun q hq => by
      have := h2.mem_iff.mp hq
      simp only [List.mem_append, List.mem_cons, List.not_mem_nil, or_false] at this
      rcases this with h | rfl
      · exact ha q h
      · exact hl q (.head _)) (((h2.append_right l).pairwise_iff differ_symm).mpr (e ▸ hd)) h1
    exact ⟨h3, h4.trans (e ▸ h2.append_right l)⟩
structure KeysOk (kv : List (Str × Int)) : Prop where
  nd : (kv.map (·.1)).Nodup
  way : ∀ e ∈ kv, ∃ x y, Way x y ∧ e.1 = slT x y
theorem slopes_ok {kv : List (Str × Int)} (h : KeysOk kv) : (slopesF dirT kv).Pairwise slt ∧ (slopesF dirT kv).Perm (kv.map (tripOf dirT)) := by
  have hw : ∀ t ∈ kv.map (tripOf dirT), WayS t := by
    intro t ht
    obtain ⟨⟨e, n⟩, he, rfl⟩ := List.mem_map.mp ht
    obtain ⟨x, y, w, rfl⟩ := h.way _ he
    rw [w.trip]; exact w
  have hd : (kv.map (tripOf dirT)).Pairwise differ := by
    rw [List.pairwise_map]
    have nd := h.nd
    unfold List.Nodup at nd
    rw [List.pairwise_map] at nd
    refine List.Pairwise.imp_of_mem (fun {a b} ha hb hab => ?_) nd
    obtain ⟨a, n⟩ := a
    obtain ⟨b, m⟩ := b
    obtain ⟨x, y, w, e⟩ := h.way _ ha
    obtain ⟨x', y', w', e'⟩ := h.way _ hb
    dsimp only at e e' hab
    subst e e'
    rw [w.trip, w'.trip]
    rintro ⟨h1, h2⟩
    dsimp only at h1 h2
    subst h1 h2
    exact hab rfl
  obtain ⟨h1, h2⟩ := foldS_ok (kv.map (tripOf dirT)) [] hw (fun _ h => nomatch h) (by simpa using hd) .nil
  exact ⟨h1, by simpa [slopesF] using h2⟩
end Mine

namespace Mine
/-! a turn of the row -/
def eqo (x y : Int) (p q : P2) : Bool := decide (off x y p = off x y q)
structure TurnAt (x y : Int) (done : List P2) (st : List P2 × Nat × List P2) (G : List (List P2)) (c : Int) : Prop where
  all : done = G.flatten ++ st.2.2
  turned : st.1 = (G.map List.reverse).flatten
  cnt : st.2.1 = pc (eqo x y) done
  ne : st.2.2 ≠ []
  run : ∀ q ∈ st.2.2, off x y q = c
  above : ∀ q ∈ G.flatten, c < off x y q
  same : ∀ g ∈ G, ∀ p ∈ g, ∀ q ∈ g, off x y p = off x y q
  desc : G.Pairwise fun g g' => ∀ p ∈ g, ∀ q ∈ g', off x y q < off x y p
theorem turn_at {x y : Int} {done : List P2} {st : List P2 × Nat × List P2} {G : List (List P2)} {c : Int} (h : TurnAt x y done st G c) (p : P2) (hp : off x y p ≤ c) : ∃ G' c', TurnAt x y (done ++ [p]) (turnStep x y st p) G' c' ∧ c' = off x y p := by
  obtain ⟨turned, pairs, run⟩ := st
  obtain ⟨h1, h2, h3, h4, h5, h6, h7, h8⟩ := h
  dsimp only at h1 h2 h3 h4 h5
  obtain ⟨l, hl⟩ : ∃ l, run.getLast? = some l := by
    cases e : run.getLast? with
    | none => exact absurd (List.getLast?_eq_none_iff.mp e) h4
    | some l => exact ⟨l, rfl⟩
  have hlc := h5 l (List.mem_of_getLast? hl)
  have cond : ((p.2 - l.2) * y ≠ (p.1 - l.1) * x) ↔ off x y p ≠ c := by
    rw [← hlc]
    unfold off
    rw [Int.sub_mul, Int.sub_mul]
    omega
  unfold turnStep
  dsimp only
  rw [hl, Option.getD_some]
  by_cases hc : off x y p = c
  · rw [if_neg (fun h => cond.mp h hc)]
    refine ⟨G, c, ⟨by rw [h1, List.append_assoc], h2, ?_, by simp, ?_, h6, h7, h8⟩, hc.symm⟩
    · dsimp only
      rw [pc_snoc, h3, h1, List.countP_append]
      have e1 : G.flatten.countP (fun q => eqo x y q p) = 0 := by
        rw [List.countP_eq_zero]
        intro q hq
        have := h6 q hq
        unfold eqo
        rw [decide_eq_true_eq]; omega
      have e2 : run.countP (fun q => eqo x y q p) = run.length := by
        rw [List.countP_eq_length]
        intro q hq
        have := h5 q hq
        unfold eqo
        rw [decide_eq_true_eq]; omega
      rw [e1, e2]; omega
    · intro q hq
      simp only [List.mem_append, List.mem_cons, List.not_mem_nil, or_false] at hq
      rcases hq with hq | rfl
      · exact h5 q hq
      · exact hc
  · rw [if_pos (cond.mpr hc)]
    refine ⟨G ++ [run], off x y p, ⟨?_, ?_, ?_, by simp, ?_, ?_, ?_, ?_⟩, rfl⟩
    · rw [h1]; simp
    · dsimp only
      rw [h2]; simp
    · dsimp only
      rw [pc_snoc, h3, h1, List.countP_append]
      have e1 : G.flatten.countP (fun q => eqo x y q p) = 0 := by
        rw [List.countP_eq_zero]
        intro q hq
        have := h6 q hq
        unfold eqo
        rw [decide_eq_true_eq]; omega
      have e2 : run.countP (fun q => eqo x y q p) = 0 := by
        rw [List.countP_eq_zero]
        intro q hq
        have := h5 q hq
        unfold eqo
        rw [decide_eq_true_eq]; omega
      rw [e1, e2]; omega
    · intro q hq
      simp only [List.mem_cons, List.not_mem_nil, or_false] at hq
      rw [hq]
    · intro q hq
      rw [List.flatten_append, List.mem_append] at hq
      rcases hq with hq | hq
      · have := h6 q hq; omega
      · simp only [List.flatten_cons, List.flatten_nil, List.append_nil] at hq
        have := h5 q hq; omega
    · intro g hg a ha b hb
      simp only [List.mem_append, List.mem_cons, List.not_mem_nil, or_false] at hg
      rcases hg with hg | rfl
      · exact h7 g hg a ha b hb
      · rw [h5 a ha, h5 b hb]
    · rw [List.pairwise_append]
      refine ⟨h8, by simp, fun g hg g' hg' a ha b hb => ?_⟩
      simp only [List.mem_cons, List.not_mem_nil, or_false] at hg'
      subst hg'
      rw [h5 b hb]
      exact h6 a (List.mem_flatten.mpr ⟨g, hg, ha⟩)
theorem turn_fold {x y : Int} : ∀ (l done : List P2) (st : List P2 × Nat × List P2) (G : List (List P2)) (c : Int), TurnAt x y done st G c → l.Pairwise (fun p q => off x y q ≤ off x y p) → (∀ p ∈ l, off x y p ≤ c) →
    ∃ G' c', TurnAt x y (done ++ l) (l.foldl (turnStep x y) st) G' c'
  | [], done, st, G, c, h, _, _ => ⟨G, c, by simpa using h⟩
  | p :: l, done, st, G, c, h, hs, hc => by
    rw [List.pairwise_cons] at hs
    obtain ⟨G', c', h', e⟩ := turn_at h p (hc p (.head _))
    obtain ⟨G'', c'', h''⟩ := turn_fold l (done ++ [p]) _ G' c' h' hs.2 fun q hq => e ▸ hs.1 q hq
    exact ⟨G'', c'', by simpa using h''⟩
theorem turnF_ok {x y : Int} {row : List P2} (hs : row.Pairwise fun p q => off x y q ≤ off x y p) : ∃ G : List (List P2), row = G.flatten ∧ (turnF x y row).1 = (G.map List.reverse).flatten ∧ (turnF x y row).2 = pc (eqo x y) row ∧
    (∀ g ∈ G, ∀ p ∈ g, ∀ q ∈ g, off x y p = off x y q) ∧ G.Pairwise fun g g' => ∀ p ∈ g, ∀ q ∈ g', off x y q < off x y p := by
  cases row with
  | nil => exact ⟨[], rfl, rfl, rfl, (fun _ h => nomatch h), .nil⟩
  | cons p l =>
    rw [List.pairwise_cons] at hs
    have h0 : TurnAt x y [p] ([], 0, [p]) [] (off x y p) := by
      refine ⟨rfl, rfl, rfl, by simp, fun q hq => ?_, (fun _ h => nomatch h), (fun _ h => nomatch h), .nil⟩
      simp only [List.mem_cons, List.not_mem_nil, or_false] at hq
      rw [hq]
    obtain ⟨G, c, h⟩ := turn_fold l [p] _ [] _ h0 hs.2 hs.1
    obtain ⟨h1, h2, h3, h4, h5, h6, h7, h8⟩ := h
    have e : turnF x y (p :: l) = ((l.foldl (turnStep x y) ([], 0, [p])).1 ++ (l.foldl (turnStep x y) ([], 0, [p])).2.2.reverse, (l.foldl (turnStep x y) ([], 0, [p])).2.1) := rfl
    rw [e]
    refine ⟨G ++ [(l.foldl (turnStep x y) ([], 0, [p])).2.2], ?_, ?_, h3, ?_, ?_⟩
    · rw [List.flatten_append, List.flatten_cons, List.flatten_nil, List.append_nil, ← h1]; rfl
    · dsimp only
      rw [h2]; simp
    · intro g hg a ha b hb
      simp only [List.mem_append, List.mem_cons, List.not_mem_nil, or_false] at hg
      rcases hg with hg | rfl
      · exact h7 g hg a ha b hb
      · rw [h5 a ha, h5 b hb]
    · rw [List.pairwise_append]
      refine ⟨h8, by simp, fun g hg g' hg' a ha b hb => ?_⟩
      simp only [List.mem_cons, List.not_mem_nil, or_false] at hg'
      subst hg'
      rw [h5 b hb]
      exact h6 a (List.mem_flatten.mpr ⟨g, hg, ha⟩)
end Mine

namespace Mine
/-! the row, slope by slope -/
def At (sl : List S3) (i : Nat) (p q : P2) : Prop := ∃ (t : S3) (g : Nat), sl[i]? = some t ∧ 0 < g ∧ q.2 - p.2 = g * t.1 ∧ q.1 - p.1 = g * t.2.1
structure Scene (R : List P2) (sl : List S3) : Prop where
  sorted : R.Pairwise before
  slp : sl.Pairwise slt
  hit : ∀ p ∈ R, ∀ q ∈ R, before p q → ∃ i, At sl i p q
theorem crs_pos {o t : S3} (h : slt o t) : 0 < crs o.1 o.2.1 t.1 t.2.1 := by
  unfold slt at h
  unfold crs
  rw [Int.mul_comm t.2.1] at h
  omega
theorem crs_neg {o t : S3} (h : slt o t) : crs t.1 t.2.1 o.1 o.2.1 < 0 := by
  unfold slt at h
  unfold crs
  rw [Int.mul_comm o.2.1] at h
  omega
theorem crs_self (t : S3) : crs t.1 t.2.1 t.1 t.2.1 = 0 := by
  unfold crs
  rw [Int.mul_comm]; omega
theorem slp_at {sl : List S3} (h : sl.Pairwise slt) {i j : Nat} {s t : S3} (hi : sl[i]? = some s) (hj : sl[j]? = some t) (hij : i < j) : slt s t := by
  obtain ⟨h1, e1⟩ := List.getElem?_eq_some_iff.mp hi
  obtain ⟨h2, e2⟩ := List.getElem?_eq_some_iff.mp hj
  have := List.pairwise_iff_getElem.mp h i j h1 h2 hij
  rwa [e1, e2] at this
theorem at_sign {sl : List S3} (h : sl.Pairwise slt) {i k : Nat} {s : S3} {p q : P2} (ha : At sl i p q) (hk : sl[k]? = some s) :
    (i < k → off s.1 s.2.1 p < off s.1 s.2.1 q) ∧ (i = k → off s.1 s.2.1 p = off s.1 s.2.1 q) ∧ (k < i → off s.1 s.2.1 q < off s.1 s.2.1 p) := by
  obtain ⟨t, g, ht, hg, e1, e2⟩ := ha
  have d := off_diff (x' := s.1) (y' := s.2.1) e1 e2
  refine ⟨fun hik => ?_, fun hik => ?_, fun hik => ?_⟩
  · have c := crs_pos (slp_at h ht hk hik)
    have := Int.mul_pos (show (0 : Int) < g by omega) c
    omega
  · subst hik
    rw [ht] at hk; cases hk
    rw [crs_self, Int.mul_zero] at d
    omega
  · have c := crs_neg (slp_at h hk ht hik)
    have := Int.mul_neg_of_pos_of_neg (show (0 : Int) < g by omega) c
    omega
theorem at_of_eq {sl : List S3} (h : sl.Pairwise slt) {i k : Nat} {s : S3} {p q : P2} (ha : At sl i p q) (hk : sl[k]? = some s) (e : off s.1 s.2.1 p = off s.1 s.2.1 q) : i = k := by
  obtain ⟨h1, h2, h3⟩ := at_sign h ha hk
  rcases Nat.lt_trichotomy i k with x | x | x
  · have := h1 x; omega
  · exact x
  · have := h3 x; omega
/-- the order before the turn k -/
def Ord (sl : List S3) (k : Nat) (p q : P2) : Prop := (∃ i, before p q ∧ At sl i p q ∧ k ≤ i) ∨ ∃ i, before q p ∧ At sl i q p ∧ i < k
theorem ord_off {sl : List S3} (h : sl.Pairwise slt) {k : Nat} {s : S3} (hk : sl[k]? = some s) {p q : P2} (o : Ord sl k p q) : off s.1 s.2.1 q ≤ off s.1 s.2.1 p := by
  rcases o with ⟨i, _, ha, hi⟩ | ⟨i, _, ha, hi⟩
  · obtain ⟨h1, h2, h3⟩ := at_sign h ha hk
    rcases Nat.eq_or_lt_of_le hi with e | e
    · have := h2 e.symm; omega
    · have := h3 e; omega
  · have := (at_sign h ha hk).1 hi
    omega
theorem ord_back {sl : List S3} (h : sl.Pairwise slt) {k : Nat} {s : S3} (hk : sl[k]? = some s) {p q : P2} (o : Ord sl k p q) (e : off s.1 s.2.1 p = off s.1 s.2.1 q) : Ord sl (k + 1) q p := by
  rcases o with ⟨i, hb, ha, hi⟩ | ⟨i, hb, ha, hi⟩
  · have := at_of_eq h ha hk e
    exact .inr ⟨i, hb, ha, by omega⟩
  · have := at_of_eq h ha hk e.symm
    omega
theorem ord_on {sl : List S3} (h : sl.Pairwise slt) {k : Nat} {s : S3} (hk : sl[k]? = some s) {p q : P2} (o : Ord sl k p q) (e : off s.1 s.2.1 q < off s.1 s.2.1 p) : Ord sl (k + 1) p q := by
  rcases o with ⟨i, hb, ha, hi⟩ | ⟨i, hb, ha, hi⟩
  · have h2 := (at_sign h ha hk).2.1
    rcases Nat.eq_or_lt_of_le hi with e' | e'
    · have := h2 e'.symm; omega
    · exact .inl ⟨i, hb, ha, by omega⟩
  · exact .inr ⟨i, hb, ha, by omega⟩
theorem flat_perm : ∀ G : List (List P2), (G.map List.reverse).flatten.Perm G.flatten
  | [] => .nil
  | g :: G => by
    rw [List.map_cons, List.flatten_cons, List.flatten_cons]
    exact (List.reverse_perm g).append (flat_perm G)
/-- one turn -/
theorem turn_ord {sl : List S3} (h : sl.Pairwise slt) {k : Nat} {s : S3} (hk : sl[k]? = some s) {r : List P2} (hr : r.Pairwise (Ord sl k)) : ∃ G : List (List P2), r = G.flatten ∧ (turnF s.1 s.2.1 r).1 = (G.map List.reverse).flatten ∧ (turnF s.1 s.2.1 r).2 = pc (eqo s.1 s.2.1) r ∧
    (∀ g ∈ G, ∀ p ∈ g, ∀ q ∈ g, off s.1 s.2.1 p = off s.1 s.2.1 q) ∧ (turnF s.1 s.2.1 r).1.Pairwise (Ord sl (k + 1)) ∧ (turnF s.1 s.2.1 r).1.Perm r := by
  obtain ⟨G, h1, h2, h3, h4, h5⟩ := turnF_ok (x := s.1) (y := s.2.1) (hr.imp fun o => ord_off h hk o)
  refine ⟨G, h1, h2, h3, h4, ?_, by rw [h2]; exact (flat_perm G).trans (by rw [← h1])⟩
  rw [h1, List.pairwise_flatten] at hr
  rw [h2, List.pairwise_flatten]
  constructor
  · intro g' hg'
    obtain ⟨g, hg, rfl⟩ := List.mem_map.mp hg'
    rw [List.pairwise_reverse]
    exact List.Pairwise.imp_of_mem (fun {a b} ha hb o => ord_back h hk o (h4 g hg a ha b hb)) (hr.1 g hg)
  · rw [List.pairwise_map]
    refine (hr.2.and h5).imp fun {g g'} hh a ha b hb => ?_
    rw [List.mem_reverse] at ha hb
    exact ord_on h hk (hh.1 a ha b hb) (hh.2 a ha b hb)
theorem rowsF_succ {row : List P2} {sl : List S3} {k : Nat} {s : S3} (hk : sl[k]? = some s) : rowsF row (sl.take (k + 1)) = (turnF s.1 s.2.1 (rowsF row (sl.take k))).1 := by
  unfold rowsF
  rw [List.take_add_one, hk, List.foldl_append]; rfl
theorem scene_rows {R : List P2} {sl : List S3} (S : Scene R sl) : ∀ k, k ≤ sl.length → (rowsF R (sl.take k)).Perm R ∧ (rowsF R (sl.take k)).Pairwise (Ord sl k)
  | 0, _ => by
    refine ⟨.refl _, ?_⟩
    show R.Pairwise _
    refine List.Pairwise.imp_of_mem (fun {a b} ha hb hab => ?_) S.sorted
    obtain ⟨i, hi⟩ := S.hit a ha b hb hab
    exact .inl ⟨i, hab, hi, Nat.zero_le _⟩
  | k + 1, hk => by
    obtain ⟨h1, h2⟩ := scene_rows S k (by omega)
    have hs : sl[k]? = some sl[k] := List.getElem?_eq_getElem (by omega)
    obtain ⟨G, _, _, _, _, h3, h4⟩ := turn_ord S.slp hs h2
    rw [rowsF_succ hs]
    exact ⟨h4.trans h1, h3⟩
theorem eqo_symm (x y : Int) (p q : P2) : eqo x y p q = eqo x y q p := by
  unfold eqo
  exact decide_eq_decide.mpr ⟨Eq.symm, Eq.symm⟩
theorem scene_turns {R : List P2} {sl : List S3} (S : Scene R sl) {k : Nat} {s : S3} (hk : sl[k]? = some s) : (turnF s.1 s.2.1 (rowsF R (sl.take k))).2 = pc (eqo s.1 s.2.1) R := by
  have hlt : k < sl.length := (List.getElem?_eq_some_iff.mp hk).1
  obtain ⟨h1, h2⟩ := scene_rows S k (by omega)
  obtain ⟨G, _, _, h3, _⟩ := turn_ord S.slp hk h2
  rw [h3]
  exact pc_perm (eqo_symm _ _) h1
theorem scene_last {R : List P2} {sl : List S3} (S : Scene R sl) : (rowsF R sl).Pairwise (fun p q => before q p) ∧ (rowsF R sl).Perm R := by
  obtain ⟨h1, h2⟩ := scene_rows S sl.length (Nat.le_refl _)
  rw [List.take_length] at h1 h2
  refine ⟨h2.imp fun o => ?_, h1⟩
  rcases o with ⟨i, hb, ⟨t, g, ht, _⟩, hi⟩ | ⟨i, hb, _⟩
  · have := (List.getElem?_eq_some_iff.mp ht).1
    omega
  · exact hb
end Mine

namespace Mine
theorem before_asymm {p q : P2} (h : before p q) : ¬ before q p := by
  unfold before at *
  omega
theorem at_order {R : List P2} (h : R.Pairwise before) {i j : Nat} {p q : P2} (hp : R[i]? = some p) (hq : R[j]? = some q) (hij : i < j) : before p q := by
  obtain ⟨h1, e1⟩ := List.getElem?_eq_some_iff.mp hp
  obtain ⟨h2, e2⟩ := List.getElem?_eq_some_iff.mp hq
  have := List.pairwise_iff_getElem.mp h i j h1 h2 hij
  rwa [e1, e2] at this
theorem order_at {R : List P2} (h : R.Pairwise before) {p q : P2} (hp : p ∈ R) (hq : q ∈ R) (hb : before p q) : ∃ i j : Nat, i < j ∧ R[i]? = some p ∧ R[j]? = some q := by
  obtain ⟨i, hi, e1⟩ := List.mem_iff_getElem.mp hp
  obtain ⟨j, hj, e2⟩ := List.mem_iff_getElem.mp hq
  have g1 : R[i]? = some p := by rw [List.getElem?_eq_getElem hi, e1]
  have g2 : R[j]? = some q := by rw [List.getElem?_eq_getElem hj, e2]
  rcases Nat.lt_trichotomy i j with x | x | x
  · exact ⟨i, j, x, g1, g2⟩
  · subst x
    rw [g1] at g2; cases g2
    unfold before at hb
    exact absurd hb (Int.lt_irrefl _)
  · exact absurd (at_order h g2 g1 x) (before_asymm hb)
theorem key_from {R : List P2} (ht : ∀ p ∈ R, Tiny p) (hs : R.Pairwise before) {e : Str × Int} (he : e ∈ bookF R) : ∃ p q, p ∈ R ∧ q ∈ R ∧ before p q ∧ textOf p q = e.1 ∧ e.2 = (pc (fun p q => decide (textOf p q = e.1)) R : Nat) := by
  obtain ⟨nd, hc⟩ := counts_book R
  have hg := getK_of_mem nd (x := e.1) (n := e.2) he
  rw [hc e.1] at hg
  by_cases h0 : pc (fun p q => decide (textOf p q = e.1)) R = 0
  · rw [if_pos h0] at hg; cases hg
  · rw [if_neg h0] at hg
    obtain ⟨i, j, p, q, hij, hp, hq, hf⟩ := pc_pos h0
    exact ⟨p, q, List.mem_of_getElem? hp, List.mem_of_getElem? hq, at_order hs hp hq hij, of_decide_eq_true hf, (Option.some.inj hg).symm⟩
theorem keys_ok {R : List P2} (ht : ∀ p ∈ R, Tiny p) (hs : R.Pairwise before) : KeysOk (bookF R) := by
  refine ⟨(counts_book R).1, fun e he => ?_⟩
  obtain ⟨p, q, hp, hq, hb, hx, _⟩ := key_from ht hs he
  obtain ⟨g, x, y, _, w, _, _, e'⟩ := way_of (ht p hp) (ht q hq) hb
  exact ⟨x, y, w, by rw [← hx, e']⟩
theorem key_to {R : List P2} (hs : R.Pairwise before) {p q : P2} (hp : p ∈ R) (hq : q ∈ R) (hb : before p q) : ∃ n, (textOf p q, n) ∈ bookF R := by
  obtain ⟨nd, hc⟩ := counts_book R
  obtain ⟨i, j, hij, h1, h2⟩ := order_at hs hp hq hb
  have h0 := pc_ne (f := fun a b => decide (textOf a b = textOf p q)) hij h1 h2 (decide_eq_true rfl)
  have hg := hc (textOf p q)
  dsimp only at hg
  rw [if_neg h0] at hg
  exact ⟨_, mem_of_getK hg⟩
theorem scene_ok {R : List P2} (ht : ∀ p ∈ R, Tiny p) (hs : R.Pairwise before) : Scene R (slopesF dirT (bookF R)) := by
  obtain ⟨h1, h2⟩ := slopes_ok (keys_ok ht hs)
  refine ⟨hs, h1, fun p hp q hq hb => ?_⟩
  obtain ⟨g, x, y, hg, w, e1, e2, e'⟩ := way_of (ht p hp) (ht q hq) hb
  obtain ⟨n, hn⟩ := key_to hs hp hq hb
  have hm : (x, y, n) ∈ slopesF dirT (bookF R) := by
    rw [h2.mem_iff]
    refine List.mem_map.mpr ⟨_, hn, ?_⟩
    rw [e', w.trip]
  obtain ⟨i, hi, e⟩ := List.mem_iff_getElem.mp hm
  exact ⟨i, (x, y, n), g, by rw [List.getElem?_eq_getElem hi, e], hg, e1, e2⟩
theorem times_ok {R : List P2} (ht : ∀ p ∈ R, Tiny p) (hs : R.Pairwise before) {k : Nat} {s : S3} (hk : (slopesF dirT (bookF R))[k]? = some s) : (pc (eqo s.1 s.2.1) R : Int) = s.2.2 := by
  have S := scene_ok ht hs
  obtain ⟨h1, h2⟩ := slopes_ok (keys_ok ht hs)
  obtain ⟨e, he, rfl⟩ := List.mem_map.mp (h2.mem_iff.mp (List.mem_of_getElem? hk))
  obtain ⟨p₀, q₀, hp₀, hq₀, hb₀, hx₀, hn⟩ := key_from ht hs he
  obtain ⟨g₀, x, y, hg₀, w, d1, d2, e₀⟩ := way_of (ht p₀ hp₀) (ht q₀ hq₀) hb₀
  obtain ⟨t, n⟩ := e
  dsimp only at hx₀ hn
  have et : t = slT x y := hx₀.symm.trans e₀
  subst et
  rw [w.trip] at hk ⊢
  dsimp only
  rw [hn]
  congr 1
  refine pc_congr hs fun p hp q hq hb => ?_
  obtain ⟨g, x', y', hg, w', c1, c2, e'⟩ := way_of (ht p hp) (ht q hq) hb
  have d := off_diff (x' := x) (y' := y) c1 c2
  unfold eqo
  refine decide_eq_decide.mpr ⟨fun h => ?_, fun h => ?_⟩
  · have hz : (g : Int) * crs x' y' x y = 0 := by omega
    rcases Int.mul_eq_zero.mp hz with h | h
    · omega
    · unfold crs at h
      obtain ⟨r1, r2⟩ := Way.unique w' w (by omega)
      rw [e', r1, r2]
  · rw [e'] at h
    have : (x', y') = (x, y) := by
      have t1 := w'.trip (n := 0)
      have t2 := w.trip (n := 0)
      rw [h, t2] at t1
      simp only [Prod.mk.injEq] at t1 ⊢
      exact ⟨t1.1.symm, t1.2.1.symm⟩
    simp only [Prod.mk.injEq] at this
    rw [this.1, this.2] at d
    have z := crs_self (x, y, 0)
    dsimp only at z
    rw [z, Int.mul_zero] at d
    omega
/-- all of the law but Ungar's bound -/
theorem law_of {script : List Int} (hU : ¬ (1 < (bookF (rowF 1 (placesF script))).length ∧ (bookF (rowF 1 (placesF script))).length < (placesF script).length / 2 * 2)) : LawOk script dirT := by
  obtain ⟨n1, n8, ht, nd⟩ := places_facts script
  obtain ⟨hs, hperm⟩ := row1_ok ht nd
  have ht' : ∀ p ∈ rowF 1 (placesF script), Tiny p := fun p hp => ht p (hperm.mem_iff.mp hp)
  have S := scene_ok ht' hs
  refine ⟨fun n hn => dec1 hn, n1, n8, fun p hp => (ht p hp).near, nd, hperm, hs, hU, fun e he => ?_, fun i => ?_, fun i t hi => ?_, ?_⟩
  · obtain ⟨x, y, w, e'⟩ := (keys_ok ht' hs).way e he
    rw [e']; exact w.dec
  · rcases Nat.le_total i (slopesF dirT (bookF (rowF 1 (placesF script)))).length with h | h
    · exact (scene_rows S i h).1.trans hperm
    · rw [List.take_of_length_le h]
      exact (scene_last S).2.trans hperm
  · rw [scene_turns S hi]
    exact times_ok ht' hs hi
  · obtain ⟨l1, l2⟩ := scene_last S
    obtain ⟨m1, m2⟩ := rowM_ok ht nd
    have e := sorted_unique (xs := (rowsF (rowF 1 (placesF script)) (slopesF dirT (bookF (rowF 1 (placesF script))))).reverse) (ys := (rowF (-1) (placesF script)).reverse)
      ((List.reverse_perm _).trans ((l2.trans hperm).trans (m2.symm.trans (List.reverse_perm _).symm))) (List.pairwise_reverse.mpr l1) (List.pairwise_reverse.mpr m1)
    exact List.reverse_inj.mp e
end Mine

namespace Mine
/-! Ungar: rows turned in runs -/
section
variable {α : Type}
theorem flat_at : ∀ (G : List (List α)) (x : Nat), x < G.flatten.length → ∃ a b g, g ∈ G ∧ a ≤ x ∧ x ≤ b ∧ b < G.flatten.length ∧ (∀ j, a ≤ j → j ≤ b → (G.map List.reverse).flatten[j]? = G.flatten[a + b - j]?) ∧ ∀ j, a ≤ j → j ≤ b → ∀ p, G.flatten[j]? = some p → p ∈ g
  | [], x, h => by simp at h
  | g :: G, x, h => by
    rw [List.flatten_cons, List.length_append] at h
    by_cases hx : x < g.length
    · refine ⟨0, g.length - 1, g, .head _, Nat.zero_le _, by omega, by rw [List.flatten_cons, List.length_append]; omega, fun j _ hj => ?_, fun j _ hj p hp => ?_⟩
      · rw [List.map_cons, List.flatten_cons, List.flatten_cons, List.getElem?_append_left (by rw [List.length_reverse]; omega), List.getElem?_append_left (by omega), List.getElem?_reverse (by omega), Nat.zero_add]
      · rw [List.flatten_cons, List.getElem?_append_left (by omega)] at hp
        exact List.mem_of_getElem? hp
    · obtain ⟨a, b, g', hg, h1, h2, h3, h4, h5⟩ := flat_at G (x - g.length) (by omega)
      refine ⟨g.length + a, g.length + b, g', .tail _ hg, by omega, by omega, by rw [List.flatten_cons, List.length_append]; omega, fun j hj1 hj2 => ?_, fun j hj1 hj2 p hp => ?_⟩
      · rw [List.map_cons, List.flatten_cons, List.flatten_cons, List.getElem?_append_right (by rw [List.length_reverse]; omega), List.getElem?_append_right (by omega), List.length_reverse, h4 _ (by omega) (by omega)]
        congr 1
        omega
      · rw [List.flatten_cons, List.getElem?_append_right (by omega)] at hp
        exact h5 _ (by omega) (by omega) p hp
/-- how many leave the first m -/
theorem flat_cut : ∀ (G : List (List α)) (m : Nat), m ≤ G.flatten.length → ∃ d, d ≤ m ∧ d ≤ G.flatten.length - m ∧ (∀ S : α → Bool, (G.flatten.take m).countP S ≤ ((G.map List.reverse).flatten.take m).countP S + d) ∧
    (d = 0 ∨ ∃ g ∈ G, ∀ j, m - d ≤ j → j < m + d → (∀ p, G.flatten[j]? = some p → p ∈ g) ∧ ∀ p, (G.map List.reverse).flatten[j]? = some p → p ∈ g)
  | [], m, h => by
    have : m = 0 := by simpa using h
    subst this
    exact ⟨0, Nat.le_refl _, Nat.zero_le _, fun S => by simp, .inl rfl⟩
  | g :: G, m, h => by
    rw [List.flatten_cons, List.length_append] at h
    by_cases hm : m ≤ g.length
    · refine ⟨min m (g.length - m), Nat.min_le_left _ _, ?_, fun S => ?_, .inr ⟨g, .head _, fun j h1 h2 => ⟨fun p hp => ?_, fun p hp => ?_⟩⟩⟩
      · rw [List.flatten_cons, List.length_append]
        have := Nat.min_le_right m (g.length - m)
        omega
      · rw [List.map_cons, List.flatten_cons, List.flatten_cons, List.take_append_of_le_length hm, List.take_append_of_le_length (by rw [List.length_reverse]; exact hm)]
        rcases Nat.le_total m (g.length - m) with hc | hc
        · rw [Nat.min_eq_left hc]
          have h1 := List.countP_le_length (p := S) (l := g.take m)
          rw [List.length_take] at h1
          omega
        · rw [Nat.min_eq_right hc, List.take_reverse, List.countP_reverse]
          have h1 : (g.take m).countP S ≤ g.countP S := (List.take_sublist m g).countP_le
          have h2 : g.countP S = (g.take (g.length - m)).countP S + (g.drop (g.length - m)).countP S := by
            rw [← List.countP_append, List.take_append_drop]
          have h3 := List.countP_le_length (p := S) (l := g.take (g.length - m))
          rw [List.length_take] at h3
          omega
      · have := Nat.min_le_right m (g.length - m)
        rw [List.flatten_cons, List.getElem?_append_left (by omega)] at hp
        exact List.mem_of_getElem? hp
      · have := Nat.min_le_right m (g.length - m)
        rw [List.map_cons, List.flatten_cons, List.getElem?_append_left (by rw [List.length_reverse]; omega)] at hp
        exact List.mem_reverse.mp (List.mem_of_getElem? hp)
    · obtain ⟨d, h1, h2, h3, h4⟩ := flat_cut G (m - g.length) (by omega)
      refine ⟨d, by omega, by rw [List.flatten_cons, List.length_append]; omega, fun S => ?_, ?_⟩
      · rw [List.map_cons, List.flatten_cons, List.flatten_cons, List.take_append, List.take_append, List.length_reverse, List.take_of_length_le (l := g) (by omega), List.take_of_length_le (l := g.reverse) (by rw [List.length_reverse]; omega), List.countP_append, List.countP_append, List.countP_reverse]
        have := h3 S
        omega
      · rcases h4 with h4 | ⟨g', hg, h5⟩
        · exact .inl h4
        · refine .inr ⟨g', .tail _ hg, fun j j1 j2 => ?_⟩
          obtain ⟨h6, h7⟩ := h5 (j - g.length) (by omega) (by omega)
          refine ⟨fun p hp => ?_, fun p hp => ?_⟩
          · rw [List.flatten_cons, List.getElem?_append_right (by omega)] at hp
            exact h6 p hp
          · rw [List.map_cons, List.flatten_cons, List.getElem?_append_right (by rw [List.length_reverse]; omega), List.length_reverse] at hp
            exact h7 p hp
/-- rows, each got from the one before by turning runs -/
structure Sweep (n N : Nat) (R : Nat → List α) (E : Nat → α → α → Prop) : Prop where
  len : ∀ t, t ≤ 2 * N → (R t).length = n
  nd : ∀ t, t ≤ 2 * N → (R t).Nodup
  move : ∀ t, t < 2 * N → ∃ G : List (List α), R t = G.flatten ∧ R (t + 1) = (G.map List.reverse).flatten ∧ ∀ g ∈ G, ∀ p ∈ g, ∀ q ∈ g, E (t % N) p q
  uniq : ∀ p q t t', p ≠ q → t < N → t' < N → E t p q → E t' p q → t = t'
  half : ∀ t, t ≤ N → R (N + t) = (R t).reverse
section
variable {n N : Nat} {R : Nat → List α} {E : Nat → α → α → Prop}
theorem Sweep.at (W : Sweep n N R E) {t : Nat} (ht : t < 2 * N) {x : Nat} (hx : x < n) : ∃ a b, a ≤ x ∧ x ≤ b ∧ b < n ∧ (∀ j, a ≤ j → j ≤ b → (R (t + 1))[j]? = (R t)[a + b - j]?) ∧ ∀ j k p q, a ≤ j → j ≤ b → a ≤ k → k ≤ b → (R t)[j]? = some p → (R t)[k]? = some q → E (t % N) p q := by
  obtain ⟨G, h1, h2, h3⟩ := W.move t ht
  have hl := W.len t (by omega)
  obtain ⟨a, b, g, hg, a1, a2, a3, a4, a5⟩ := flat_at G x (by rw [← h1, hl]; exact hx)
  refine ⟨a, b, a1, a2, by rw [← hl, h1]; exact a3, fun j j1 j2 => by rw [h1, h2]; exact a4 j j1 j2, fun j k p q j1 j2 k1 k2 hp hq => ?_⟩
  rw [h1] at hp hq
  exact h3 g hg p (a5 j j1 j2 p hp) q (a5 k k1 k2 q hq)
theorem Sweep.ne (W : Sweep n N R E) {t : Nat} (ht : t ≤ 2 * N) {j k : Nat} {p q : α} (hjk : j ≠ k) (hp : (R t)[j]? = some p) (hq : (R t)[k]? = some q) : p ≠ q := by
  rintro rfl
  obtain ⟨h1, e1⟩ := List.getElem?_eq_some_iff.mp hp
  obtain ⟨h2, e2⟩ := List.getElem?_eq_some_iff.mp hq
  have pw := List.pairwise_iff_getElem.mp (W.nd t ht)
  rcases Nat.lt_or_gt_of_ne hjk with h | h
  · exact pw j k h1 h2 h (e1.trans e2.symm)
  · exact pw k j h2 h1 h (e2.trans e1.symm)
theorem Sweep.some (W : Sweep n N R E) {t : Nat} (ht : t ≤ 2 * N) {j : Nat} (hj : j < n) : ∃ p, (R t)[j]? = some p := ⟨(R t)[j]'(by rw [W.len t ht]; exact hj), List.getElem?_eq_getElem _⟩
/-- a block about the middle that lies in one run -/
def Block (m : Nat) (R : Nat → List α) (E : Nat → α → α → Prop) (N t u d : Nat) : Prop := ∀ j k p q, m - d ≤ j → j < m + d → m - d ≤ k → k < m + d → (R u)[j]? = some p → (R u)[k]? = some q → E (t % N) p q
theorem mod_ne {N t t' : Nat} (hN : 0 < N) (h1 : t < t') (h2 : t' < t + N) : t % N ≠ t' % N := by
  intro e
  have h3 := Nat.div_add_mod t N
  have h4 := Nat.div_add_mod t' N
  rw [e] at h3
  have h5 : N * (t' / N) - N * (t / N) = t' - t := by omega
  rw [← Nat.mul_sub] at h5
  rcases Nat.eq_zero_or_pos (t' / N - t / N) with h | h
  · rw [h, Nat.mul_zero] at h5; omega
  · have := Nat.mul_le_mul_left N h
    omega
/-- what stands about the middle after a crossing stays there a while -/
theorem Sweep.after (W : Sweep n N R E) (hN : 0 < N) {m t₀ d : Nat} (hm : m + d ≤ n) (hb : Block m R E N t₀ (t₀ + 1) d) : ∀ j, j ≤ d → t₀ + 1 + j ≤ 2 * N → j < N → ∀ x, m - (d - j) ≤ x → x < m + (d - j) → d ≤ m → (R (t₀ + 1 + j))[x]? = (R (t₀ + 1))[x]?
  | 0, _, _, _, x, _, _, _ => rfl
  | j + 1, hj, ht, hjN, x, h1, h2, hdm => by
    have ih := W.after hN hm hb j (by omega) (by omega) (by omega)
    obtain ⟨a, b, a1, a2, a3, a4, a5⟩ := W.at (t := t₀ + 1 + j) (by omega) (x := x) (by omega)
    have nb : ∀ y, m - (d - j) ≤ y → y < m + (d - j) → a ≤ y → y ≤ b → x ≠ y → False := by
      intro y y1 y2 y3 y4 hxy
      obtain ⟨p, hp⟩ := W.some (t := t₀ + 1 + j) (by omega) (j := x) (by omega)
      obtain ⟨q, hq⟩ := W.some (t := t₀ + 1 + j) (by omega) (j := y) (by omega)
      have e1 := a5 x y p q a1 a2 y3 y4 hp hq
      have e2 := hb x y p q (by omega) (by omega) (by omega) (by omega) ((ih x (by omega) (by omega) hdm).symm.trans hp) ((ih y y1 y2 hdm).symm.trans hq)
      have ne := W.ne (t := t₀ + 1 + j) (by omega) hxy hp hq
      have := W.uniq p q _ _ ne (Nat.mod_lt _ hN) (Nat.mod_lt _ hN) e2 e1
      exact mod_ne hN (by omega) (by omega) this
    have ha : a = x := by
      rcases Nat.lt_or_ge a x with h | h
      · exact (nb (x - 1) (by omega) (by omega) (by omega) (by omega) (by omega)).elim
      · omega
    have hbx : b = x := by
      rcases Nat.lt_or_ge x b with h | h
      · exact (nb (x + 1) (by omega) (by omega) (by omega) (by omega) (by omega)).elim
      · omega
    have e := a4 x (by omega) (by omega)
    rw [show a + b - x = x by omega] at e
    rw [← ih x (by omega) (by omega) hdm]
    exact e
theorem Sweep.prior (W : Sweep n N R E) (hN : 0 < N) {m t₁ e : Nat} (hm : m + e ≤ n) (ht₁ : t₁ < 2 * N) (hb : Block m R E N t₁ t₁ e) : ∀ i, i ≤ e → i ≤ t₁ → i < N → ∀ x, m - (e - i) ≤ x → x < m + (e - i) → e ≤ m → (R (t₁ - i))[x]? = (R t₁)[x]?
  | 0, _, _, _, x, _, _, _ => rfl
  | i + 1, hi, ht, hiN, x, h1, h2, hem => by
    have ih := W.prior hN hm ht₁ hb i (by omega) (by omega) (by omega)
    obtain ⟨a, b, a1, a2, a3, a4, a5⟩ := W.at (t := t₁ - (i + 1)) (by omega) (x := x) (by omega)
    rw [show t₁ - (i + 1) + 1 = t₁ - i by omega] at a4
    have nb : ∀ y, m - (e - i) ≤ y → y < m + (e - i) → a ≤ y → y ≤ b → x ≠ y → False := by
      intro y y1 y2 y3 y4 hxy
      obtain ⟨p, hp⟩ := W.some (t := t₁ - i) (by omega) (j := x) (by omega)
      obtain ⟨q, hq⟩ := W.some (t := t₁ - i) (by omega) (j := y) (by omega)
      have e1 := a5 (a + b - x) (a + b - y) p q (by omega) (by omega) (by omega) (by omega) ((a4 x a1 a2).symm.trans hp) ((a4 y y3 y4).symm.trans hq)
      have e2 := hb x y p q (by omega) (by omega) (by omega) (by omega) ((ih x (by omega) (by omega) hem).symm.trans hp) ((ih y y1 y2 hem).symm.trans hq)
      have ne := W.ne (t := t₁ - i) (by omega) hxy hp hq
      have := W.uniq p q _ _ ne (Nat.mod_lt _ hN) (Nat.mod_lt _ hN) e1 e2
      exact mod_ne hN (by omega) (by omega) this
    have ha : a = x := by
      rcases Nat.lt_or_ge a x with h | h
      · exact (nb (x - 1) (by omega) (by omega) (by omega) (by omega) (by omega)).elim
      · omega
    have hbx : b = x := by
      rcases Nat.lt_or_ge x b with h | h
      · exact (nb (x + 1) (by omega) (by omega) (by omega) (by omega) (by omega)).elim
      · omega
    have e' := a4 x (by omega) (by omega)
    rw [show a + b - x = x by omega] at e'
    rw [← ih x (by omega) (by omega) hem]
    exact e'.symm
/-- two crossings lie apart -/
theorem Sweep.gap (W : Sweep n N R E) (hN : 0 < N) {m t₀ t₁ d e : Nat} (hd : d ≤ m) (he : e ≤ m) (hmd : m + d ≤ n) (hme : m + e ≤ n) (d1 : 1 ≤ d) (e1 : 1 ≤ e) (h01 : t₀ < t₁) (h1N : t₁ < t₀ + N) (ht₁ : t₁ < 2 * N)
    (b₀ : Block m R E N t₀ (t₀ + 1) d) (b₁ : Block m R E N t₁ t₁ e) : d + e ≤ t₁ - t₀ := by
  rcases Nat.lt_or_ge (t₁ - t₀) (d + e) with hlt | hge
  · exfalso
    obtain ⟨j, hj⟩ : ∃ j, j = min (d - 1) (t₁ - t₀ - 1) := ⟨_, rfl⟩
    have j1 : j ≤ d - 1 := hj ▸ Nat.min_le_left _ _
    have j2 : j ≤ t₁ - t₀ - 1 := hj ▸ Nat.min_le_right _ _
    have hi : t₁ - t₀ - 1 - j ≤ e - 1 := by
      rcases Nat.le_total (d - 1) (t₁ - t₀ - 1) with h | h
      · rw [Nat.min_eq_left h] at hj; omega
      · rw [Nat.min_eq_right h] at hj; omega
    obtain ⟨i, hie⟩ : ∃ i, i = t₁ - t₀ - 1 - j := ⟨_, rfl⟩
    have A := W.after hN hmd b₀ j (by omega) (by omega) (by omega)
    have P := W.prior hN hme ht₁ b₁ i (by omega) (by omega) (by omega)
    have eT : t₁ - i = t₀ + 1 + j := by omega
    rw [eT] at P
    obtain ⟨p, hp⟩ := W.some (t := t₀ + 1 + j) (by omega) (j := m - 1) (by omega)
    obtain ⟨q, hq⟩ := W.some (t := t₀ + 1 + j) (by omega) (j := m) (by omega)
    have ne := W.ne (t := t₀ + 1 + j) (by omega) (show m - 1 ≠ m by omega) hp hq
    have x1 := b₀ (m - 1) m p q (by omega) (by omega) (by omega) (by omega) ((A (m - 1) (by omega) (by omega) hd).symm.trans hp) ((A m (by omega) (by omega) hd).symm.trans hq)
    have x2 := b₁ (m - 1) m p q (by omega) (by omega) (by omega) (by omega) ((P (m - 1) (by omega) (by omega) he).symm.trans hp) ((P m (by omega) (by omega) he).symm.trans hq)
    exact mod_ne hN h01 h1N (W.uniq p q _ _ ne (Nat.mod_lt _ hN) (Nat.mod_lt _ hN) x1 x2)
  · exact hge
end
end
end Mine

namespace Mine
section
variable {α : Type} {n N m : Nat} {R : Nat → List α} {E : Nat → α → α → Prop}
theorem runs_perm : ∀ G : List (List α), (G.map List.reverse).flatten.Perm G.flatten
  | [] => .nil
  | g :: G => by
    rw [List.map_cons, List.flatten_cons, List.flatten_cons]
    exact (List.reverse_perm g).append (runs_perm G)
def sumD (D : Nat → Nat) : Nat → Nat
  | 0 => 0
  | k + 1 => sumD D k + D k
theorem Sweep.cross (W : Sweep (2 * m) N R E) (hN : 0 < N) : ∃ D : Nat → Nat, (∀ t, t < 2 * N → D t ≤ m ∧ Block m R E N t t (D t) ∧ Block m R E N t (t + 1) (D t)) ∧ (∀ t, t < N → ∀ S : α → Bool, ((R t).take m).countP S ≤ ((R (t + 1)).take m).countP S + D t) ∧ ∀ t, D (t + N) = D t := by
  have h : ∀ t, ∃ d, t < N → d ≤ m ∧ Block m R E N t t d ∧ Block m R E N t (t + 1) d ∧ ∀ S : α → Bool, ((R t).take m).countP S ≤ ((R (t + 1)).take m).countP S + d := by
    intro t
    by_cases ht : t < N
    · obtain ⟨G, h1, h2, h3⟩ := W.move t (by omega)
      have hl := W.len t (by omega)
      obtain ⟨d, d1, d2, d3, d4⟩ := flat_cut G m (by rw [← h1, hl]; omega)
      refine ⟨d, fun _ => ⟨d1, ?_, ?_, fun S => by rw [h1, h2]; exact d3 S⟩⟩
      · intro j k p q j1 j2 k1 k2 hp hq
        rcases d4 with d4 | ⟨g, hg, hc⟩
        · subst d4; omega
        · rw [h1] at hp hq
          exact h3 g hg p ((hc j j1 j2).1 p hp) q ((hc k k1 k2).1 q hq)
      · intro j k p q j1 j2 k1 k2 hp hq
        rcases d4 with d4 | ⟨g, hg, hc⟩
        · subst d4; omega
        · rw [h2] at hp hq
          exact h3 g hg p ((hc j j1 j2).2 p hp) q ((hc k k1 k2).2 q hq)
    · exact ⟨0, fun h => absurd h ht⟩
  obtain ⟨d, hd⟩ : ∃ d : Nat → Nat, ∀ t, t < N → d t ≤ m ∧ Block m R E N t t (d t) ∧ Block m R E N t (t + 1) (d t) ∧ ∀ S : α → Bool, ((R t).take m).countP S ≤ ((R (t + 1)).take m).countP S + d t := ⟨fun t => (h t).choose, fun t => (h t).choose_spec⟩
  have flip : ∀ u v e, u ≤ N → e ≤ m → Block m R E N v u e → Block m R E N (N + v) (N + u) e := by
    intro u v e hu he b j k p q j1 j2 k1 k2 hp hq
    have hl := W.len u (by omega)
    rw [W.half u hu, List.getElem?_reverse (by omega), hl] at hp hq
    rw [Nat.add_mod_left]
    exact b _ _ p q (by omega) (by omega) (by omega) (by omega) hp hq
  refine ⟨fun t => d (t % N), fun t ht => ?_, fun t ht S => ?_, fun t => by dsimp only; rw [Nat.add_mod_right]⟩
  · dsimp only
    by_cases h : t < N
    · rw [Nat.mod_eq_of_lt h]
      obtain ⟨h1, h2, h3, _⟩ := hd t h
      exact ⟨h1, h2, h3⟩
    · obtain ⟨u, rfl⟩ : ∃ u, t = N + u := ⟨t - N, by omega⟩
      have hu : u < N := by omega
      rw [Nat.add_mod_left, Nat.mod_eq_of_lt hu]
      obtain ⟨h1, h2, h3, _⟩ := hd u hu
      exact ⟨h1, flip u u _ (by omega) h1 h2, flip (u + 1) u _ (by omega) h1 h3⟩
  · dsimp only
    rw [Nat.mod_eq_of_lt ht]
    exact (hd t ht).2.2.2 S
theorem Sweep.even [DecidableEq α] (W : Sweep (2 * m) N R E) (hm : 1 ≤ m) (hN : 0 < N) (nc : ∀ t, t < N → ∃ p q, p ∈ R 0 ∧ q ∈ R 0 ∧ p ≠ q ∧ ¬ E t p q) : 2 * m ≤ N := by
  obtain ⟨D, hD, hS, hP⟩ := W.cross hN
  have l0 := W.len 0 (by omega)
  have total : m ≤ sumD D N := by
    have step : ∀ (S : α → Bool) k, k ≤ N → ((R 0).take m).countP S ≤ ((R k).take m).countP S + sumD D k := by
      intro S k
      induction k with
      | zero => intro _; exact Nat.le_refl _
      | succ k ih =>
        intro hk
        have h1 := ih (by omega)
        have h2 := hS k (by omega) S
        show _ ≤ _ + (sumD D k + D k)
        omega
    have h := step (fun p => decide (p ∈ (R 0).take m)) N (Nat.le_refl _)
    have h1 : ((R 0).take m).countP (fun p => decide (p ∈ (R 0).take m)) = m := by
      rw [List.countP_eq_length.mpr fun p hp => decide_eq_true hp, List.length_take]; omega
    have h2 : ((R N).take m).countP (fun p => decide (p ∈ (R 0).take m)) = 0 := by
      have e : R N = (R 0).reverse := W.half 0 (Nat.zero_le _)
      rw [e, List.take_reverse, List.countP_reverse, List.countP_eq_zero]
      intro p hp
      rw [decide_eq_true_eq]
      intro hp'
      have nd := W.nd 0 (Nat.zero_le _)
      rw [← List.take_append_drop m (R 0), List.nodup_append] at nd
      rw [l0, show 2 * m - m = m by omega] at hp
      exact nd.2.2 p hp' p hp rfl
    omega
  have least : ∀ k, k ≤ N → sumD D k = 0 ∨ ∃ t₀, t₀ < k ∧ 1 ≤ D t₀ ∧ sumD D t₀ = 0 := by
    intro k
    induction k with
    | zero => intro _; exact .inl rfl
    | succ k ih =>
      intro hk
      rcases ih (by omega) with h | ⟨t₀, h1, h2, h3⟩
      · rcases Nat.eq_zero_or_pos (D k) with h0 | h0
        · exact .inl (by show sumD D k + D k = 0; omega)
        · exact .inr ⟨k, by omega, h0, h⟩
      · exact .inr ⟨t₀, by omega, h2, h3⟩
  obtain ⟨t₀, ht₀, hd₀, hs₀⟩ : ∃ t₀, t₀ < N ∧ 1 ≤ D t₀ ∧ sumD D t₀ = 0 := by
    rcases least N (Nat.le_refl _) with h | h
    · omega
    · exact h
  have gap : ∀ a b, a < b → b < a + N → b < 2 * N → 1 ≤ D a → 1 ≤ D b → D a + D b ≤ b - a := by
    intro a b hab hb hb2 ha1 hb1
    obtain ⟨h1, h2, h3⟩ := hD a (by omega)
    obtain ⟨h4, h5, h6⟩ := hD b hb2
    exact W.gap hN h1 h4 (by omega) (by omega) ha1 hb1 hab hb hb2 h3 h5
  have chain : ∀ k, t₀ + 1 + k ≤ N → ∃ l, t₀ ≤ l ∧ l < t₀ + 1 + k ∧ 1 ≤ D l ∧ 2 * sumD D (t₀ + 1 + k) ≤ (l - t₀) + D l + D t₀ ∧ (l = t₀ → sumD D (t₀ + 1 + k) = D t₀) := by
    intro k
    induction k with
    | zero =>
      intro _
      refine ⟨t₀, Nat.le_refl _, by omega, hd₀, ?_, fun _ => ?_⟩
      · show 2 * (sumD D t₀ + D t₀) ≤ _
        omega
      · show sumD D t₀ + D t₀ = _
        omega
    | succ k ih =>
      intro hk
      obtain ⟨l, h1, h2, h3, h4, h5⟩ := ih (by omega)
      have e : sumD D (t₀ + 1 + (k + 1)) = sumD D (t₀ + 1 + k) + D (t₀ + 1 + k) := rfl
      rcases Nat.eq_zero_or_pos (D (t₀ + 1 + k)) with h0 | h0
      · exact ⟨l, h1, by omega, h3, by omega, fun h => by have := h5 h; omega⟩
      · have g := gap l (t₀ + 1 + k) h2 (by omega) (by omega) h3 h0
        exact ⟨t₀ + 1 + k, by omega, by omega, h0, by omega, fun h => by omega⟩
  obtain ⟨l, h1, h2, h3, h4, h5⟩ := chain (N - (t₀ + 1)) (by omega)
  rw [show t₀ + 1 + (N - (t₀ + 1)) = N by omega] at h2 h4 h5
  rcases Nat.eq_or_lt_of_le h1 with h | h
  · exfalso
    have e := h5 h.symm
    obtain ⟨dm, b, _⟩ := hD t₀ (by omega)
    have em : D t₀ = m := by omega
    obtain ⟨p, q, hp, hq, hne, hE⟩ := nc t₀ ht₀
    rw [em] at b
    have perm : ∀ k, k ≤ N → (R k).Perm (R 0) := by
      intro k
      induction k with
      | zero => intro _; exact .refl _
      | succ k ih =>
        intro hk
        obtain ⟨G, g1, g2, _⟩ := W.move k (by omega)
        refine List.Perm.trans ?_ (ih (by omega))
        rw [g1, g2]
        exact runs_perm G
    have hp' := (perm t₀ (by omega)).mem_iff.mpr hp
    have hq' := (perm t₀ (by omega)).mem_iff.mpr hq
    obtain ⟨i, hi, ei⟩ := List.mem_iff_getElem.mp hp'
    obtain ⟨j, hj, ej⟩ := List.mem_iff_getElem.mp hq'
    have lt := W.len t₀ (by omega)
    have := b i j p q (by omega) (by omega) (by omega) (by omega) (by rw [List.getElem?_eq_getElem hi, ei]) (by rw [List.getElem?_eq_getElem hj, ej])
    rw [Nat.mod_eq_of_lt ht₀] at this
    exact hE this
  · have g := gap l (t₀ + N) (by omega) (by omega) (by omega) h3 (by rw [hP]; exact hd₀)
    rw [hP] at g
    omega
/-- some letters alone -/
theorem Sweep.sub (W : Sweep n N R E) (f : α → Bool) {k : Nat} (hk : ∀ t, t ≤ 2 * N → ((R t).filter f).length = k) : Sweep k N (fun t => (R t).filter f) E where
  len := hk
  nd := fun t ht => (W.nd t ht).filter f
  move := fun t ht => by
    obtain ⟨G, h1, h2, h3⟩ := W.move t ht
    refine ⟨G.map (List.filter f), ?_, ?_, fun g hg p hp q hq => ?_⟩
    · rw [h1, List.filter_flatten]
    · rw [h2, List.filter_flatten, List.map_map, List.map_map]
      congr 1
      exact List.map_congr_left fun g _ => by simp
    · obtain ⟨g', hg', rfl⟩ := List.mem_map.mp hg
      exact h3 g' hg' p (List.mem_filter.mp hp).1 q (List.mem_filter.mp hq).1
  uniq := W.uniq
  half := fun t ht => by
    rw [W.half t ht, List.filter_reverse]
end
end Mine

namespace Mine
def Eo (sl : List S3) (t : Nat) (p q : P2) : Prop := ∃ s, sl[t]? = some s ∧ off s.1 s.2.1 p = off s.1 s.2.1 q
theorem off_unique {x y x' y' : Int} {p q : P2} (hc : crs x y x' y' ≠ 0) (h1 : off x y p = off x y q) (h2 : off x' y' p = off x' y' q) : p = q := by
  obtain ⟨a, b⟩ := p
  obtain ⟨c, d⟩ := q
  unfold off at h1 h2
  dsimp only at h1 h2
  have e1 : (b - d) * y = (a - c) * x := by rw [Int.sub_mul, Int.sub_mul]; omega
  have e2 : (b - d) * y' = (a - c) * x' := by rw [Int.sub_mul, Int.sub_mul]; omega
  have z1 : (b - d) * crs x y x' y' = 0 := by
    unfold crs
    rw [Int.mul_sub, Int.mul_comm x, ← Int.mul_assoc, e2, ← Int.mul_assoc, e1, Int.mul_assoc, Int.mul_assoc, Int.mul_comm x]
    omega
  have z2 : (a - c) * crs x y x' y' = 0 := by
    unfold crs
    rw [Int.mul_sub, ← Int.mul_assoc, ← e1, Int.mul_comm y, ← Int.mul_assoc, ← e2, Int.mul_assoc, Int.mul_assoc, Int.mul_comm y]
    omega
  have w1 : b - d = 0 := (Int.mul_eq_zero.mp z1).resolve_right hc
  have w2 : a - c = 0 := (Int.mul_eq_zero.mp z2).resolve_right hc
  have : a = c ∧ b = d := by omega
  rw [this.1, this.2]
theorem eo_unique {sl : List S3} (h : sl.Pairwise slt) {p q : P2} {t t' : Nat} (hne : p ≠ q) (e1 : Eo sl t p q) (e2 : Eo sl t' p q) : t = t' := by
  obtain ⟨s, hs, o1⟩ := e1
  obtain ⟨s', hs', o2⟩ := e2
  rcases Nat.lt_trichotomy t t' with x | x | x
  · have c := crs_pos (slp_at h hs hs' x)
    exact absurd (off_unique (by omega) o1 o2) hne
  · exact x
  · have c := crs_pos (slp_at h hs' hs x)
    exact absurd (off_unique (by omega) o2 o1) hne
theorem before_ne {p q : P2} (h : before p q) : p ≠ q := by
  rintro rfl
  unfold before at h
  exact Int.lt_irrefl _ h
theorem at_eo {sl : List S3} (h : sl.Pairwise slt) {i : Nat} {p q : P2} (ha : At sl i p q) : Eo sl i p q := by
  obtain ⟨s, g, hs, hr⟩ := ha
  exact ⟨s, hs, (at_sign h ⟨s, g, hs, hr⟩ hs).2.1 rfl⟩
/-- the rows through two half turns -/
def rowsT (R : List P2) (sl : List S3) (t : Nat) : List P2 := if t ≤ sl.length then rowsF R (sl.take t) else (rowsF R (sl.take (t - sl.length))).reverse
theorem sweep_ok {R : List P2} {sl : List S3} (S : Scene R sl) (hN : 0 < sl.length) : Sweep R.length sl.length (rowsT R sl) (Eo sl) := by
  have ndR : R.Nodup := S.sorted.imp before_ne
  have lo : ∀ t, t ≤ sl.length → rowsT R sl t = rowsF R (sl.take t) := fun t ht => if_pos ht
  have last : rowsF R (sl.take sl.length) = R.reverse := by
    rw [List.take_length]
    obtain ⟨l1, l2⟩ := scene_last S
    have := sorted_unique (xs := (rowsF R sl).reverse) (ys := R) ((List.reverse_perm _).trans l2) (List.pairwise_reverse.mpr l1) S.sorted
    exact List.reverse_eq_iff.mp this
  have half : ∀ t, t ≤ sl.length → rowsT R sl (sl.length + t) = (rowsF R (sl.take t)).reverse := by
    intro t ht
    rcases Nat.eq_zero_or_pos t with h | h
    · subst h
      rw [Nat.add_zero, lo _ (Nat.le_refl _), last]; rfl
    · unfold rowsT
      rw [if_neg (by omega), Nat.add_sub_cancel_left]
  have perm : ∀ t, t ≤ 2 * sl.length → (rowsT R sl t).Perm R := by
    intro t ht
    by_cases h : t ≤ sl.length
    · rw [lo t h]
      exact (scene_rows S t h).1
    · obtain ⟨u, rfl⟩ : ∃ u, t = sl.length + u := ⟨t - sl.length, by omega⟩
      rw [half u (by omega)]
      exact (List.reverse_perm _).trans (scene_rows S u (by omega)).1
  have run : ∀ t, t < sl.length → ∃ G : List (List P2), rowsF R (sl.take t) = G.flatten ∧ rowsF R (sl.take (t + 1)) = (G.map List.reverse).flatten ∧ ∀ g ∈ G, ∀ p ∈ g, ∀ q ∈ g, Eo sl t p q := by
    intro t ht
    have hs : sl[t]? = some sl[t] := List.getElem?_eq_getElem ht
    obtain ⟨G, h1, h2, _, h4, _, _⟩ := turn_ord S.slp hs (scene_rows S t (by omega)).2
    exact ⟨G, h1, by rw [rowsF_succ hs, h2], fun g hg p hp q hq => ⟨_, hs, h4 g hg p hp q hq⟩⟩
  refine ⟨fun t ht => (perm t ht).length_eq, fun t ht => (perm t ht).nodup_iff.mpr ndR, fun t ht => ?_, fun p q t t' hne _ _ e1 e2 => eo_unique S.slp hne e1 e2, fun t ht => ?_⟩
  · by_cases h : t < sl.length
    · obtain ⟨G, h1, h2, h3⟩ := run t h
      rw [Nat.mod_eq_of_lt h, lo t (by omega), lo (t + 1) (by omega)]
      exact ⟨G, h1, h2, h3⟩
    · obtain ⟨u, rfl⟩ : ∃ u, t = sl.length + u := ⟨t - sl.length, by omega⟩
      have hu : u < sl.length := by omega
      obtain ⟨G, h1, h2, h3⟩ := run u hu
      rw [Nat.add_mod_left, Nat.mod_eq_of_lt hu, half u (by omega), show sl.length + u + 1 = sl.length + (u + 1) by omega, half (u + 1) (by omega)]
      refine ⟨(G.map List.reverse).reverse, ?_, ?_, fun g hg p hp q hq => ?_⟩
      · rw [h1, List.reverse_flatten]
      · rw [h2, List.reverse_flatten, List.map_reverse]
      · rw [List.mem_reverse] at hg
        obtain ⟨g', hg', rfl⟩ := List.mem_map.mp hg
        exact h3 g' hg' p (List.mem_reverse.mp hp) q (List.mem_reverse.mp hq)
  · rw [half t ht, lo t ht]
theorem ungar {R : List P2} {sl : List S3} (S : Scene R sl) (real : ∀ i, i < sl.length → ∃ p q, p ∈ R ∧ q ∈ R ∧ before p q ∧ At sl i p q) : ¬ (1 < sl.length ∧ sl.length < R.length / 2 * 2) := by
  rintro ⟨h1, h2⟩
  have hN : 0 < sl.length := by omega
  have W := sweep_ok S hN
  have r0 : rowsT R sl 0 = R := by unfold rowsT; rw [if_pos (Nat.zero_le _)]; rfl
  have ndR : R.Nodup := S.sorted.imp before_ne
  obtain ⟨p₀, q₀, hp₀, hq₀, hb₀, ha₀⟩ := real 0 hN
  obtain ⟨p₁, q₁, hp₁, hq₁, hb₁, ha₁⟩ := real 1 h1
  have other : ∀ t, t < sl.length → ∃ p q, ((p = p₀ ∧ q = q₀) ∨ (p = p₁ ∧ q = q₁)) ∧ p ∈ R ∧ q ∈ R ∧ p ≠ q ∧ ¬ Eo sl t p q := by
    intro t _
    by_cases h : t = 0
    · subst h
      refine ⟨p₁, q₁, .inr ⟨rfl, rfl⟩, hp₁, hq₁, before_ne hb₁, fun e => ?_⟩
      have := eo_unique S.slp (before_ne hb₁) e (at_eo S.slp ha₁)
      omega
    · refine ⟨p₀, q₀, .inl ⟨rfl, rfl⟩, hp₀, hq₀, before_ne hb₀, fun e => ?_⟩
      exact h (eo_unique S.slp (before_ne hb₀) e (at_eo S.slp ha₀))
  rcases Nat.mod_two_eq_zero_or_one R.length with he | ho
  · obtain ⟨m, hm⟩ : ∃ m, R.length = 2 * m := ⟨R.length / 2, by omega⟩
    rw [hm] at W
    have := W.even (by omega) hN fun t ht => by
      obtain ⟨p, q, _, hp, hq, hne, hE⟩ := other t ht
      rw [r0]
      exact ⟨p, q, hp, hq, hne, hE⟩
    omega
  · obtain ⟨m, hm⟩ : ∃ m, R.length = 2 * m + 1 := ⟨R.length / 2, by omega⟩
    have hm2 : 2 ≤ m := by omega
    obtain ⟨z, hz, z1, z2, z3, z4⟩ : ∃ z ∈ R, z ≠ p₀ ∧ z ≠ q₀ ∧ z ≠ p₁ ∧ z ≠ q₁ := by
      apply Classical.byContradiction
      intro hno
      have hall : ∀ z ∈ R, z = p₀ ∨ z = q₀ ∨ z = p₁ ∨ z = q₁ := by
        intro z hz
        apply Classical.byContradiction
        intro h
        exact hno ⟨z, hz, fun e => h (.inl e), fun e => h (.inr (.inl e)), fun e => h (.inr (.inr (.inl e))), fun e => h (.inr (.inr (.inr e)))⟩
      have cnt : ∀ l : List P2, (∀ z ∈ l, z = p₀ ∨ z = q₀ ∨ z = p₁ ∨ z = q₁) → l.length ≤ l.count p₀ + l.count q₀ + l.count p₁ + l.count q₁ := by
        intro l
        induction l with
        | nil => intro _; simp
        | cons a l ih =>
          intro h
          have h1 := ih fun z hz => h z (.tail _ hz)
          have m1 : ∀ b, l.count b ≤ (a :: l).count b := fun b => List.count_le_count_cons
          have m0 := m1 p₀
          have mq := m1 q₀
          have mp1 := m1 p₁
          have mq1 := m1 q₁
          rcases h a (.head _) with e | e | e | e
          · subst e; rw [List.count_cons_self] at m0 ⊢; rw [List.length_cons]; omega
          · subst e; rw [List.count_cons_self] at mq ⊢; rw [List.length_cons]; omega
          · subst e; rw [List.count_cons_self] at mp1 ⊢; rw [List.length_cons]; omega
          · subst e; rw [List.count_cons_self] at mq1 ⊢; rw [List.length_cons]; omega
      have c := cnt R hall
      have nc := List.nodup_iff_count.mp ndR
      have c1 := nc p₀
      have c2 := nc q₀
      have c3 := nc p₁
      have c4 := nc q₁
      omega
    have hlen : ∀ t, t ≤ 2 * sl.length → ((rowsT R sl t).filter fun p => decide (p ≠ z)).length = 2 * m := by
      intro t ht
      have nd := W.nd t ht
      have hl := W.len t ht
      have hzt : z ∈ rowsT R sl t := by
        by_cases h : z ∈ rowsT R sl t
        · exact h
        · exfalso
          have hp : (rowsT R sl t).Perm R := by
            have : ∀ k, k ≤ 2 * sl.length → (rowsT R sl k).Perm R := by
              intro k
              induction k with
              | zero => intro _; rw [r0]
              | succ k ih =>
                intro hk
                obtain ⟨G, g1, g2, _⟩ := W.move k (by omega)
                have h := ih (by omega)
                rw [g1] at h
                rw [g2]
                exact (runs_perm G).trans h
            exact this t ht
          exact h (hp.mem_iff.mpr hz)
      have c1 : (rowsT R sl t).count z = 1 := by
        have h1 := (List.nodup_iff_count.mp nd) z
        have h2 := List.count_pos_iff.mpr hzt
        omega
      have e := List.length_eq_countP_add_countP (fun p => p == z) (l := rowsT R sl t)
      rw [← List.countP_eq_length_filter]
      have e2 : (rowsT R sl t).countP (fun p => decide (p ≠ z)) = (rowsT R sl t).countP (fun a => decide (¬ (a == z) = true)) := List.countP_congr fun p _ => by simp
      have e3 : (rowsT R sl t).countP (fun p => p == z) = 1 := c1
      rw [e2]
      omega
    have W' := W.sub (fun p => decide (p ≠ z)) hlen
    have := W'.even (by omega) hN fun t ht => by
      obtain ⟨p, q, hw, hp, hq, hne, hE⟩ := other t ht
      rw [r0]
      refine ⟨p, q, List.mem_filter.mpr ⟨hp, ?_⟩, List.mem_filter.mpr ⟨hq, ?_⟩, hne, hE⟩
      · rcases hw with ⟨rfl, rfl⟩ | ⟨rfl, rfl⟩
        · exact decide_eq_true (Ne.symm z1)
        · exact decide_eq_true (Ne.symm z3)
      · rcases hw with ⟨rfl, rfl⟩ | ⟨rfl, rfl⟩
        · exact decide_eq_true (Ne.symm z2)
        · exact decide_eq_true (Ne.symm z4)
    omega
/-- each slope is some pair's -/
theorem real_ok {R : List P2} (ht : ∀ p ∈ R, Tiny p) (hs : R.Pairwise before) : ∀ i, i < (slopesF dirT (bookF R)).length → ∃ p q, p ∈ R ∧ q ∈ R ∧ before p q ∧ At (slopesF dirT (bookF R)) i p q := by
  intro i hi
  obtain ⟨h1, h2⟩ := slopes_ok (keys_ok ht hs)
  have hk : (slopesF dirT (bookF R))[i]? = some (slopesF dirT (bookF R))[i] := List.getElem?_eq_getElem hi
  obtain ⟨e, he, e0⟩ := List.mem_map.mp (h2.mem_iff.mp (List.getElem_mem hi))
  obtain ⟨p, q, hp, hq, hb, hx, hn⟩ := key_from ht hs he
  obtain ⟨g, x, y, hg, w, d1, d2, e'⟩ := way_of (ht p hp) (ht q hq) hb
  obtain ⟨t, n⟩ := e
  have et : t = slT x y := hx.symm.trans e'
  subst et
  rw [w.trip] at e0
  exact ⟨p, q, hp, hq, hb, (x, y, n), g, by rw [hk, e0], hg, d1, d2⟩
theorem law_all (script : List Int) : LawOk script dirT := by
  refine law_of ?_
  obtain ⟨n1, n8, ht, nd⟩ := places_facts script
  obtain ⟨hs, hperm⟩ := row1_ok ht nd
  have ht' : ∀ p ∈ rowF 1 (placesF script), Tiny p := fun p hp => ht p (hperm.mem_iff.mp hp)
  have := ungar (scene_ok ht' hs) (real_ok ht' hs)
  rwa [slopesF_len, hperm.length_eq] at this
end Mine

theorem PySem.Challenge.cw_rl0033_01_holds : PySem.Challenge.rw_rl0033_01.Holds := by
  exact Mine.top Mine.dirT fun script _ => Mine.law_all script
