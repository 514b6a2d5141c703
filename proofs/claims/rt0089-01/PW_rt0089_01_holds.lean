import PyProof.Rows.All
import Wide.All
import OpenK.AllK
import Wide.FinOn
import PyProof.MeetsSeq3
import KE.KTurns
import Lean
import PySem.Challenge.RW_rt0089_01
set_option Elab.async false
local macro_rules | `(tactic| walk_at $s:str) => `(tactic| k_extra $s)
-- HLib
section
open PySem PySem.W PyProof.Rows
set_option maxRecDepth 100000
namespace Mine
noncomputable section
abbrev P0 : Program := PySem.Challenge.pw_rt0089_01
abbrev tab := PySem.W.Fast.tw14364793385576792824
theorem tab_eq : treeTable = tab := PySem.W.Fast.te14364793385576792824
abbrev runQ := PySem.W.Fast.tw10110043849684766642
theorem runQ_eq : @segRunT = runQ := PySem.W.Fast.te10110043849684766642
abbrev goQ := PySem.W.Fast.tw10295753902157049106
theorem goQ_eq : @segGoT = goQ := PySem.W.Fast.te10295753902157049106
abbrev denQ := PySem.W.Fast.tw11892475500146522536
theorem denQ_eq : @denote = denQ := PySem.W.Fast.te11892475500146522536
abbrev execsQ := PySem.W.Fast.tw12563942051412417395
theorem execsQ_eq : @execs = execsQ := PySem.W.Fast.te12563942051412417395

def stA (i : Nat) : Stmt := (P0.main.body[i]?).getD (.Pass default)
def stM (i j : Nat) : Stmt := match stA i with
  | .ClassDef _ _ _ b _ _ _ _ _ _ _ => (b[j]?).getD (.Pass default)
  | _ => .Pass default
def fnD (s : Stmt) (gl bu : Addr) (name qual : Str) (cl : List (Str × Addr)) (dV kV doc pm : Value) (an : Option Addr) (cd ct : Value) : Data := match s with
  | .FunctionDef _ args body _ _ _ scope _ _ _ => .func { name := name, qualname := qual, params := args, body := .stmts body, scope := scope, globals := gl, closure := cl, defaults := dV, kwdefaults := kV, doc := doc, pyModule := pm, annotations := an, code := cd, closureTuple := ct, builtins := bu }
  | _ => .plain
def e (P : Params) (k : Str) (t : Tok) (v : Value) : DictEntry := ⟨PyData.keyHash P k, .str k t, v⟩
def st (t : Params → BT) (n toks : Nat) (w : World) (os : OsState) : SharedT := ⟨t w.params, n, {}, #[], {}, toks, os⟩
def env : Env := { scope := P0.main.scope, locals := mainNs, globals := mainNs, cells := [], code := .ref 30, frame := some 31 }
abbrev bodyE : List Stmt := behindTheImports P0
abbrev cE : Code := .body bodyE env
abbrev q0 : Pos := ⟨0, 0, 0, 0⟩
def sts (i j : Nat) : List Stmt := (bodyE.drop i).take (j - i)
abbrev wholeQ (i j : Nat) (p : Pos) : Thread := ⟨(execsQ (sts i j) env).wrap doneF deadEnd id id, cE, p, [topFrame q0]⟩
abbrev ann0 : Option Value := some (.ref 6)

/-- a group of the top's statements, run from one written state to the next -/
abbrev Seg (n i j : Nat) (p p' : Pos) (s s' : World → OsState → SharedT) : Prop :=
  ∀ w os, runQ tab P0 w 28 ann0 1 n (s w os) (wholeQ i j p) = some (.next, s' w os, cE, p')
theorem Seg.out {n i j : Nat} {p p' : Pos} {s s' : World → OsState → SharedT} (h : Seg n i j p p' s s') (w : World) (os : OsState) :
    segRun treeTable P0 w 28 ann0 1 n (s w os).abs (piecesOf (sts i j) env cE p [topFrame q0]) = some (.next, (s' w os).abs, cE, p') := by
  refine segRun_of ?_
  rw [runQ_eq, tab_eq]
  show PySem.W.Fast.tw10110043849684766642 tab P0 w 28 ann0 1 n (s w os) ⟨(execs (sts i j) env).wrap doneF deadEnd id id, cE, p, [topFrame q0]⟩ = _
  rw [execsQ_eq]
  exact h w os
abbrev rowA : String := "comprehension-iter-twice"
abbrev rowB : String := "special-get-raises"
abbrev SegB (b : Bool) (n i j : Nat) (p p' : Pos) (s s' : World → OsState → SharedT) : Prop :=
  ∀ (w : World) (os : OsState), runQ tab P0 (w.withFollow rowB b) 28 ann0 1 n (s (w.withFollow rowB b) os) (wholeQ i j p) = some (.next, s' (w.withFollow rowB b) os, cE, p')
theorem Seg.ofRow {n i j : Nat} {p p' : Pos} {s s' : World → OsState → SharedT} (a : SegB false n i j p p' s s') (b : SegB true n i j p p' s s') : Seg n i j p p' s s' :=
  byRow2 rowB (P := fun w => ∀ os, runQ tab P0 w 28 ann0 1 n (s w os) (wholeQ i j p) = some (.next, s' w os, cE, p')) a b

/-- what a loop's frame bears: guarded, live, its place -/
structure FD where
  g : Bool
  l : List Value
  p : Pos
abbrev inLoop (c : Code) (f : FD) (k : Result → Sem Fin) (p : Pos) : Thread := ⟨denQ tab c, c, p, [.ret k none f.g f.l cE f.p [], topFrame q0]⟩
abbrev TurnsAt (w : World) (n : Nat) (c : Code) (f : FD) (s : World → OsState → SharedT) (p : Pos) (s' : World → OsState → SharedT) (p' : Pos) : Prop :=
  ∀ os k, goQ tab P0 w 28 ann0 1 n (s w os) (inLoop c f k p) = some (s' w os, inLoop c f k p')
abbrev Turns (n : Nat) (c : Code) (f : FD) (s : World → OsState → SharedT) (p : Pos) (s' : World → OsState → SharedT) (p' : Pos) : Prop :=
  ∀ w os k, goQ tab P0 w 28 ann0 1 n (s w os) (inLoop c f k p) = some (s' w os, inLoop c f k p')
section
variable {tb : String → Option Builtin} {p : Program} {w : World} {n₀ : Nat} {ann : Option Value} {b : Nat}
theorem go_add {m : Nat} {r : Option (SharedT × Thread)} : ∀ {n : Nat} {s s' : SharedT} {t t' : Thread}, segGoT tb p w n₀ ann b n s t = some (s', t') → segGoT tb p w n₀ ann b m s' t' = r → segGoT tb p w n₀ ann b (n + m) s t = r
  | 0, s, s', t, t', h, k => by
    obtain ⟨rfl, rfl⟩ : s = s' ∧ t = t' := by simpa [segGoT] using h
    rw [Nat.zero_add]; exact k
  | n + 1, s, s', t, t', h, k => by
    rw [show n + 1 + m = n + m + 1 by omega]
    unfold segGoT at h
    unfold segGoT
    cases he : endAt b t with
    | some x => rw [he] at h; cases h
    | none =>
      rw [he] at h
      cases hk : stepOk n₀ ann t with
      | false => rw [hk] at h; cases h
      | true =>
        rw [hk] at h
        cases hs : stepT (denote tb) p w s t with
        | none => rw [hs] at h; cases h
        | some x => obtain ⟨s₂, t₂⟩ := x; rw [hs] at h; exact go_add h k
theorem go_run {m : Nat} {r : Option (Flow × SharedT × Code × Pos)} : ∀ {n : Nat} {s s' : SharedT} {t t' : Thread}, segGoT tb p w n₀ ann b n s t = some (s', t') → segRunT tb p w n₀ ann b m s' t' = r → segRunT tb p w n₀ ann b (n + m) s t = r
  | 0, s, s', t, t', h, k => by
    obtain ⟨rfl, rfl⟩ : s = s' ∧ t = t' := by simpa [segGoT] using h
    rw [Nat.zero_add]; exact k
  | n + 1, s, s', t, t', h, k => by
    rw [show n + 1 + m = n + m + 1 by omega]
    unfold segGoT at h
    unfold segRunT
    cases he : endAt b t with
    | some x => rw [he] at h; cases h
    | none =>
      rw [he] at h
      cases hk : stepOk n₀ ann t with
      | false => rw [hk] at h; cases h
      | true =>
        rw [hk] at h
        cases hs : stepT (denote tb) p w s t with
        | none => rw [hs] at h; cases h
        | some x => obtain ⟨s₂, t₂⟩ := x; rw [hs] at h; exact go_run h k
theorem run_mono (m : Nat) {r : Flow × SharedT × Code × Pos} : ∀ {n : Nat} {s : SharedT} {t : Thread}, segRunT tb p w n₀ ann b n s t = some r → segRunT tb p w n₀ ann b (n + m) s t = some r
  | 0, s, t, h => by cases h
  | n + 1, s, t, h => by
    rw [show n + 1 + m = n + m + 1 by omega]
    unfold segRunT at h
    unfold segRunT
    cases he : endAt b t with
    | some x => rw [he] at h; exact h
    | none =>
      rw [he] at h
      cases hk : stepOk n₀ ann t with
      | false => rw [hk] at h; cases h
      | true =>
        rw [hk] at h
        cases hs : stepT (denote tb) p w s t with
        | none => rw [hs] at h; cases h
        | some x => obtain ⟨s₂, t₂⟩ := x; rw [hs] at h; exact run_mono m h
end
theorem Turns.and {n m : Nat} {c : Code} {f : FD} {s s1 s2 : World → OsState → SharedT} {p p1 p2 : Pos} (a : Turns n c f s p s1 p1) (b : Turns m c f s1 p1 s2 p2) : Turns (n + m) c f s p s2 p2 := by
  intro w os k
  have x := a w os k
  have y := b w os k
  rw [← goQ_eq] at x y ⊢
  exact go_add x y
/-- what stands at a loop's start, and, with its own continuation, what the run makes of it behind the last turn -/
abbrev peek (w : World) (n3 : Nat) (c : Code) (sE : SharedT) (pE : Pos) (x : SharedT × Thread) :=
  (x.1, x.2.cur, x.2.code, x.2.pos, match x.2.stack with
    | [.ret k h g l d pp kept, f] => some (h, g, l, d, pp, kept, f, runQ tab P0 w 28 ann0 1 n3 sE ⟨denQ tab c, c, pE, [.ret k h g l d pp kept, f]⟩)
    | _ => none)
abbrev EndsAt (w : World) (n1 n3 idx : Nat) (p p' : Pos) (s s' : World → OsState → SharedT) (c : Code) (f : FD) (sF : World → OsState → SharedT) (pF : Pos) (sE : World → OsState → SharedT) (pE : Pos) : Prop :=
  ∀ os, (goQ tab P0 w 28 ann0 1 n1 (s w os) (wholeQ idx (idx + 1) p)).map (peek w n3 c (sE w os) pE) =
    some (sF w os, denQ tab c, c, pF, some (none, f.g, f.l, cE, f.p, [], topFrame q0, some (.next, s' w os, cE, p')))
abbrev world2 (w : World) (a b : Bool) : World := (w.withFollow rowA a).withFollow rowB b
theorem glue {w : World} {nL n1 n3 idx : Nat} {p p' : Pos} {s s' : World → OsState → SharedT} {c : Code} {f : FD} {sF : World → OsState → SharedT} {pF : Pos} {sE : World → OsState → SharedT} {pE : Pos}
    (T : TurnsAt w nL c f sF pF sE pE) (h : EndsAt w n1 n3 idx p p' s s' c f sF pF sE pE) (os : OsState) :
    runQ tab P0 w 28 ann0 1 (n1 + (nL + n3)) (s w os) (wholeQ idx (idx + 1) p) = some (.next, s' w os, cE, p') := by
  obtain ⟨⟨s₁, t₁⟩, e1, e2⟩ := Option.map_eq_some_iff.mp (h os)
  obtain ⟨cur, code, pos, stack⟩ := t₁
  dsimp only [peek] at e2
  simp only [Prod.mk.injEq] at e2
  obtain ⟨rfl, rfl, rfl, rfl, e3⟩ := e2
  split at e3
  · rename_i k h' g' l' d' pp' kept' f' 
    simp only [Option.some.injEq, Prod.mk.injEq] at e3
    obtain ⟨rfl, rfl, rfl, rfl, rfl, rfl, rfl, e4⟩ := e3
    have x := T os k
    rw [← goQ_eq] at x e1
    rw [← runQ_eq] at e4 ⊢
    exact go_run e1 (go_run x e4)
  · cases e3
theorem runQ_mono {w : World} {n : Nat} (m : Nat) {s : SharedT} {t : Thread} {r : Flow × SharedT × Code × Pos} (h : runQ tab P0 w 28 ann0 1 n s t = some r) : runQ tab P0 w 28 ann0 1 (n + m) s t = some r := by
  rw [← runQ_eq] at h ⊢; exact run_mono m h
theorem two {P : World → Prop} (h : ∀ w a b, P (world2 w a b)) (w : World) : P w := by
  have x := h w (w.params.followText rowA) (w.params.followText rowB)
  have e1 : w.withFollow rowA (w.params.followText rowA) = w := World.withFollow_self w rowA
  dsimp only [world2] at x
  rw [e1, World.withFollow_self] at x
  exact x
theorem loop_seg {nL n1 d n3 idx : Nat} {p p' : Pos} {s s' : World → OsState → SharedT} {c : Code} {f : FD} {sF : World → OsState → SharedT} {pF : Pos} {sE : World → OsState → SharedT} {pE : Pos}
    (T : ∀ (w : World) b, TurnsAt (w.withFollow rowB b) nL c f sF pF sE pE)
    (h1 : ∀ w, EndsAt (world2 w true true) n1 n3 idx p p' s s' c f sF pF sE pE) (h2 : ∀ w, EndsAt (world2 w true false) n1 n3 idx p p' s s' c f sF pF sE pE)
    (h3 : ∀ w, EndsAt (world2 w false true) (n1 + d) n3 idx p p' s s' c f sF pF sE pE) (h4 : ∀ w, EndsAt (world2 w false false) (n1 + d) n3 idx p p' s s' c f sF pF sE pE) :
    Seg (n1 + (nL + n3) + d) idx (idx + 1) p p' s s' := by
  refine two (P := fun w => ∀ os, runQ tab P0 w 28 ann0 1 (n1 + (nL + n3) + d) (s w os) (wholeQ idx (idx + 1) p) = some (.next, s' w os, cE, p')) fun w a b => ?_
  cases a
  · intro os
    have := glue (T (w.withFollow rowA false) b) (by cases b; exact h4 w; exact h3 w) os
    rwa [show n1 + d + (nL + n3) = n1 + (nL + n3) + d by omega] at this
  · intro os
    exact runQ_mono d (glue (T (w.withFollow rowA true) b) (by cases b; exact h2 w; exact h1 w) os)
def compC (s : Stmt) (it acc loc : Addr) : Code := match s with
  | .Assign _ x _ => .compLoop x 0 (.ref it) (.ref acc) { env with scope := (match x with | .ListComp _ _ sc _ => sc | .DictComp _ _ _ sc _ => sc | _ => default), locals := loc }
  | _ => default
def forC (s : Stmt) (it : Addr) : Code := match s with
  | .For tg _ b o _ => .forLoop tg (.ref it) b o env
  | _ => default
def c5 : Code := compC (stA 6) 51 52 53
def c11 : Code := compC (stA 12) 78 79 80
def c20 : Code := forC (stA 21) 87
def c22 : Code := forC (stA 23) 90
def f5 : FD := ⟨true, [.ref 53, .ref 52], ⟨12, 48, 12, 85⟩⟩
def f11 : FD := ⟨true, [.ref 80, .ref 79], ⟨110, 36, 110, 46⟩⟩
def f20 : FD := ⟨false, [], ⟨119, 9, 119, 74⟩⟩
def f22 : FD := ⟨false, [], ⟨122, 9, 122, 110⟩⟩
end
end Mine
end

-- HObj
section
open PySem PySem.W PyProof.Rows
set_option linter.unusedVariables false
set_option maxRecDepth 100000
set_option maxHeartbeats 0
namespace Mine
noncomputable section
noncomputable def g0 (P : Params) : List DictEntry := [e P "__name__" 1 (.str "builtins" 160), e P "__doc__" 2 (.builtin "builtins.__doc__:str#\x6fpaque"), e P "__package__" 3 (.builtin "builtins.__package__:str#\x6fpaque"), e P "__loader__" 4 (.builtin "builtins.__loader__:shared#\x6fpaque"), e P "__spec__" 5 (.builtin "builtins.__spec__#\x6fpaque"), e P "__build_class__" 6 (.builtin "__build_class__"), e P "__import__" 7 (.builtin "__import__"), e P "abs" 8 (.builtin "abs"), e P "all" 9 (.builtin "all"), e P "any" 10 (.builtin "any"), e P "ascii" 11 (.builtin "ascii"), e P "bin" 12 (.builtin "bin")]
noncomputable def g1 (P : Params) : List DictEntry := [e P "breakpoint" 13 (.builtin "breakpoint"), e P "callable" 14 (.builtin "callable"), e P "chr" 15 (.builtin "chr"), e P "compile" 16 (.builtin "compile"), e P "delattr" 17 (.builtin "delattr"), e P "dir" 18 (.builtin "dir"), e P "divmod" 19 (.builtin "divmod"), e P "eval" 20 (.builtin "eval"), e P "exec" 21 (.builtin "exec"), e P "format" 22 (.builtin "format"), e P "getattr" 23 (.builtin "getattr"), e P "globals" 24 (.builtin "globals")]
noncomputable def g2 (P : Params) : List DictEntry := [e P "hasattr" 25 (.builtin "hasattr"), e P "hash" 26 (.builtin "hash"), e P "hex" 27 (.builtin "hex"), e P "id" 28 (.builtin "id"), e P "input" 29 (.builtin "input"), e P "isinstance" 30 (.builtin "isinstance"), e P "issubclass" 31 (.builtin "issubclass"), e P "iter" 32 (.builtin "iter"), e P "aiter" 33 (.builtin "aiter"), e P "len" 34 (.builtin "len"), e P "locals" 35 (.builtin "locals"), e P "max" 36 (.builtin "max")]
noncomputable def g3 (P : Params) : List DictEntry := [e P "min" 37 (.builtin "min"), e P "next" 38 (.builtin "next"), e P "anext" 39 (.builtin "anext"), e P "oct" 40 (.builtin "oct"), e P "ord" 41 (.builtin "ord"), e P "pow" 42 (.builtin "pow"), e P "print" 43 (.builtin "print"), e P "repr" 44 (.builtin "repr"), e P "round" 45 (.builtin "round"), e P "setattr" 46 (.builtin "setattr"), e P "sorted" 47 (.builtin "sorted"), e P "sum" 48 (.builtin "sum")]
noncomputable def g4 (P : Params) : List DictEntry := [e P "vars" 49 (.builtin "vars"), e P "None" 50 .none, e P "Ellipsis" 51 (.ellipsis), e P "NotImplemented" 52 (.notImplemented), e P "False" 53 (.bool false), e P "True" 54 (.bool true), e P "bool" 55 (.type "bool"), e P "memoryview" 56 (.type "memoryview"), e P "bytearray" 57 (.type "bytearray"), e P "bytes" 58 (.type "bytes"), e P "classmethod" 59 (.type "classmethod"), e P "complex" 60 (.type "complex")]
noncomputable def g5 (P : Params) : List DictEntry := [e P "dict" 61 (.type "dict"), e P "enumerate" 62 (.type "enumerate"), e P "filter" 63 (.type "filter"), e P "float" 64 (.type "float"), e P "frozenset" 65 (.type "frozenset"), e P "property" 66 (.type "property"), e P "int" 67 (.type "int"), e P "list" 68 (.type "list"), e P "map" 69 (.type "map"), e P "object" 70 (.type "object"), e P "range" 71 (.type "range"), e P "reversed" 72 (.type "reversed")]
noncomputable def g6 (P : Params) : List DictEntry := [e P "set" 73 (.type "set"), e P "slice" 74 (.type "slice"), e P "staticmethod" 75 (.type "staticmethod"), e P "str" 76 (.type "str"), e P "super" 77 (.type "super"), e P "tuple" 78 (.type "tuple"), e P "type" 79 (.type "type"), e P "zip" 80 (.type "zip"), e P "__debug__" 81 (.bool true), e P "BaseException" 82 (.type "BaseException"), e P "BaseExceptionGroup" 83 (.type "BaseExceptionGroup"), e P "Exception" 84 (.type "Exception")]
noncomputable def g7 (P : Params) : List DictEntry := [e P "GeneratorExit" 85 (.type "GeneratorExit"), e P "KeyboardInterrupt" 86 (.type "KeyboardInterrupt"), e P "SystemExit" 87 (.type "SystemExit"), e P "ArithmeticError" 88 (.type "ArithmeticError"), e P "AssertionError" 89 (.type "AssertionError"), e P "AttributeError" 90 (.type "AttributeError"), e P "BufferError" 91 (.type "BufferError"), e P "EOFError" 92 (.type "EOFError"), e P "ImportError" 93 (.type "ImportError"), e P "LookupError" 94 (.type "LookupError"), e P "MemoryError" 95 (.type "MemoryError"), e P "NameError" 96 (.type "NameError")]
noncomputable def g8 (P : Params) : List DictEntry := [e P "OSError" 97 (.type "OSError"), e P "ReferenceError" 98 (.type "ReferenceError"), e P "RuntimeError" 99 (.type "RuntimeError"), e P "StopAsyncIteration" 100 (.type "StopAsyncIteration"), e P "StopIteration" 101 (.type "StopIteration"), e P "SyntaxError" 102 (.type "SyntaxError"), e P "SystemError" 103 (.type "SystemError"), e P "TypeError" 104 (.type "TypeError"), e P "ValueError" 105 (.type "ValueError"), e P "Warning" 106 (.type "Warning"), e P "FloatingPointError" 107 (.type "FloatingPointError"), e P "OverflowError" 108 (.type "OverflowError")]
noncomputable def g9 (P : Params) : List DictEntry := [e P "ZeroDivisionError" 109 (.type "ZeroDivisionError"), e P "BytesWarning" 110 (.type "BytesWarning"), e P "DeprecationWarning" 111 (.type "DeprecationWarning"), e P "EncodingWarning" 112 (.type "EncodingWarning"), e P "FutureWarning" 113 (.type "FutureWarning"), e P "ImportWarning" 114 (.type "ImportWarning"), e P "PendingDeprecationWarning" 115 (.type "PendingDeprecationWarning"), e P "ResourceWarning" 116 (.type "ResourceWarning"), e P "RuntimeWarning" 117 (.type "RuntimeWarning"), e P "SyntaxWarning" 118 (.type "SyntaxWarning"), e P "UnicodeWarning" 119 (.type "UnicodeWarning"), e P "UserWarning" 120 (.type "UserWarning")]
noncomputable def g10 (P : Params) : List DictEntry := [e P "BlockingIOError" 121 (.type "BlockingIOError"), e P "ChildProcessError" 122 (.type "ChildProcessError"), e P "ConnectionError" 123 (.type "ConnectionError"), e P "FileExistsError" 124 (.type "FileExistsError"), e P "FileNotFoundError" 125 (.type "FileNotFoundError"), e P "InterruptedError" 126 (.type "InterruptedError"), e P "IsADirectoryError" 127 (.type "IsADirectoryError"), e P "NotADirectoryError" 128 (.type "NotADirectoryError"), e P "PermissionError" 129 (.type "PermissionError"), e P "ProcessLookupError" 130 (.type "ProcessLookupError"), e P "TimeoutError" 131 (.type "TimeoutError"), e P "IndentationError" 132 (.type "IndentationError")]
noncomputable def g11 (P : Params) : List DictEntry := [e P "_IncompleteInputError" 133 (.type "_IncompleteInputError"), e P "IndexError" 134 (.type "IndexError"), e P "KeyError" 135 (.type "KeyError"), e P "ModuleNotFoundError" 136 (.type "ModuleNotFoundError"), e P "NotImplementedError" 137 (.type "NotImplementedError"), e P "PythonFinalizationError" 138 (.type "PythonFinalizationError"), e P "RecursionError" 139 (.type "RecursionError"), e P "UnboundLocalError" 140 (.type "UnboundLocalError"), e P "UnicodeError" 141 (.type "UnicodeError"), e P "BrokenPipeError" 142 (.type "BrokenPipeError"), e P "ConnectionAbortedError" 143 (.type "ConnectionAbortedError"), e P "ConnectionRefusedError" 144 (.type "ConnectionRefusedError")]
noncomputable def g12 (P : Params) : List DictEntry := [e P "ConnectionResetError" 145 (.type "ConnectionResetError"), e P "TabError" 146 (.type "TabError"), e P "UnicodeDecodeError" 147 (.type "UnicodeDecodeError"), e P "UnicodeEncodeError" 148 (.type "UnicodeEncodeError"), e P "UnicodeTranslateError" 149 (.type "UnicodeTranslateError"), e P "ExceptionGroup" 150 (.type "ExceptionGroup"), e P "EnvironmentError" 151 (.type "OSError"), e P "IOError" 152 (.type "OSError"), e P "open" 153 (.builtin "open"), e P "quit" 154 (.builtin "builtins.quit#\x6fpaque"), e P "exit" 155 (.builtin "builtins.exit#\x6fpaque"), e P "copyright" 156 (.builtin "builtins.copyright#\x6fpaque")]
noncomputable def g13 (P : Params) : List DictEntry := [e P "credits" 157 (.builtin "builtins.credits#\x6fpaque"), e P "license" 158 (.builtin "builtins.license#\x6fpaque"), e P "help" 159 (.builtin "builtins.help#\x6fpaque")]
noncomputable def o0_0 (P : Params) : Obj := ⟨.type "dict", none, .dict ⟨g0 P ++ (g1 P ++ (g2 P ++ (g3 P ++ (g4 P ++ (g5 P ++ (g6 P ++ (g7 P ++ (g8 P ++ (g9 P ++ (g10 P ++ (g11 P ++ (g12 P ++ (g13 P)))))))))))))⟩ 159, ⟨[]⟩⟩
noncomputable def o1_0 (P : Params) : Obj := ⟨.type "dict", none, .dict ⟨[e P "builtins" 162 (.ref 4), e P "__main__" 163 (.ref 5), e P "_sre" 244 (.ref 12)]⟩ 3, ⟨[]⟩⟩
noncomputable def o2_0 (P : Params) : Obj := ⟨.none, none, .dict ⟨[e P "\x69mport.loaded._sre" 183 (.bool true), e P "class._frozen_importlib.BuiltinImporter" 185 (.ref 14), e P "watched.\x69mport" 206 (.ref 18), e P "class._frozen_importlib.ModuleSpec" 216 (.ref 22), e P "sys.modules.booked-epoch" 245 (.int 3 0), e P "\x69mport.later-laid._sre" 270 (.bool true), e P "watched.library" 272 (.ref 27), e P "watched.library-objects" 0 (.str ⟨⟨[12]⟩⟩ 0), e P "watched.library-deep._sre" 273 (.str ⟨⟨[4, 0, 0, 11, 4, 0, 0, 11, 4, 0, 0, 3, 4, 0, 0, 11, 8, 4, 100, 105, 99, 116, 2]⟩⟩ 0)]⟩ 9, ⟨[]⟩⟩
noncomputable def o3_0 (P : Params) : Obj := ⟨.type "dict", none, .dict ⟨[e P "__name__" 165 (.str "__main__" 164), e P "__doc__" 166 .none, e P "__package__" 167 .none, e P "__loader__" 168 (.builtin "__main__.__loader__#\x6fpaque"), e P "__spec__" 169 .none, e P "__annotations__" 170 (.ref 6), e P "__builtins__" 171 (.ref 4), e P "__file__" 173 (.str "/claim/cut.py" 172), e P "__cached__" 174 .none, e P "_sre" 275 (.ref 12)]⟩ 10, ⟨[]⟩⟩
noncomputable def o4_0 (P : Params) : Obj := ⟨.type "module", (some 0), .plain, ⟨[]⟩⟩
noncomputable def o5_0 (P : Params) : Obj := ⟨.type "module", (some 3), .plain, ⟨[]⟩⟩
noncomputable def o6_0 (P : Params) : Obj := ⟨.type "dict", none, .dict ⟨[]⟩ 0, ⟨[]⟩⟩
noncomputable def o7_0 (P : Params) : Obj := ⟨.type "tuple", none, .seq ⟨[]⟩ 0, ⟨[]⟩⟩
noncomputable def o8_0 (P : Params) : Obj := ⟨.none, none, .fields ⟨[]⟩, ⟨[]⟩⟩
noncomputable def o9_0 (P : Params) : Obj := ⟨.type "code", none, .fields ⟨[.str "<module>" 176, .str "<module>" 177, .str "/claim/cut.py" 178, .int 1 0, .int 0 0, .int 0 0, .int 0 0, .int 0 0, .ref 7, .bool false, .int 175 0, .ref 8, .none, .none, .none, .none, .int 179 0, .int 1 0, .str "/claim/cut.py" 180]⟩, ⟨[]⟩⟩
noncomputable def o10_0 (P : Params) : Obj := ⟨.type "frame", none, .plain, ⟨[some (.ref 9), some (.ref 3), some (.ref 3), none, some (.str "__main__" 164), none, some (.ref 0)]⟩⟩
noncomputable def g14 (P : Params) : List DictEntry := [e P "__name__" 247 (.str "_sre" 246), e P "__doc__" 248 .none, e P "__package__" 250 (.str "" 249), e P "__loader__" 251 (.ref 14), e P "__spec__" 252 (.ref 26), e P "compile" 253 (.builtin "_sre.compile"), e P "template" 254 (.builtin "_sre.template"), e P "getcodesize" 255 (.builtin "_sre.getcodesize"), e P "ascii_iscased" 256 (.builtin "_sre.ascii_iscased"), e P "unicode_iscased" 257 (.builtin "_sre.unicode_iscased"), e P "ascii_tolower" 258 (.builtin "_sre.ascii_tolower"), e P "unicode_tolower" 259 (.builtin "_sre.unicode_tolower")]
noncomputable def g15 (P : Params) : List DictEntry := [e P "MAGIC" 261 (.int 20230612 260), e P "CODESIZE" 263 (.int 4 262), e P "MAXREPEAT" 265 (.int 4294967295 264), e P "MAXGROUPS" 267 (.int 1073741823 266), e P "copyright" 269 (.str " SRE 2.2.2 Copyright (c) 1997-2002 by Secret Labs AB " 268)]
noncomputable def o11_0 (P : Params) : Obj := ⟨.type "dict", none, .dict ⟨g14 P ++ (g15 P)⟩ 17, ⟨[]⟩⟩
noncomputable def o12_0 (P : Params) : Obj := ⟨.type "module", (some 11), .plain, ⟨[]⟩⟩
noncomputable def g16 (P : Params) : List DictEntry := [e P "__module__" 189 (.str "_frozen_importlib" 186), e P "__firstlineno__" 190 (.int 971 187), e P "__doc__" 191 (.builtin "_frozen_importlib.BuiltinImporter.__doc__:str#\x6fpaque"), e P "_ORIGIN" 192 (.str "built-in" 188), e P "find_spec" 193 (.builtin "_frozen_importlib.BuiltinImporter.find_spec#\x6fpaque"), e P "create_module" 194 (.builtin "_frozen_importlib.BuiltinImporter.create_module#\x6fpaque"), e P "exec_module" 195 (.builtin "_frozen_importlib.BuiltinImporter.exec_module#\x6fpaque"), e P "get_code" 196 (.builtin "_frozen_importlib.BuiltinImporter.get_code#\x6fpaque"), e P "get_source" 197 (.builtin "_frozen_importlib.BuiltinImporter.get_source#\x6fpaque"), e P "is_package" 198 (.builtin "_frozen_importlib.BuiltinImporter.is_package#\x6fpaque"), e P "load_module" 199 (.builtin "_frozen_importlib.BuiltinImporter.load_module#\x6fpaque"), e P "__static_attributes__" 200 (.ref 15)]
noncomputable def g17 (P : Params) : List DictEntry := [e P "__dict__" 202 (.ref 16), e P "__weakref__" 204 (.ref 17)]
noncomputable def o13_0 (P : Params) : Obj := ⟨.type "dict", none, .dict ⟨g16 P ++ (g17 P)⟩ 14, ⟨[]⟩⟩
noncomputable def o14_0 (P : Params) : Obj := ⟨.type "type", none, .cls { name := "BuiltinImporter", bases := [.type "object"], mro := [.ref 14, .type "object"], ns := 13, qualname := "BuiltinImporter", hasDict := true, slotNames := [], subclasses := [], abstract := false, collection := none, hasDel := false }, ⟨[]⟩⟩
noncomputable def o15_0 (P : Params) : Obj := ⟨.type "tuple", none, .seq ⟨[]⟩ 0, ⟨[]⟩⟩
noncomputable def o16_0 (P : Params) : Obj := ⟨.type "getset_descriptor", none, .fields ⟨[.str "__dict__" 201, .ref 14, .builtin "function.__dict__", .builtin "function.__dict__#set"]⟩, ⟨[]⟩⟩
noncomputable def o17_0 (P : Params) : Obj := ⟨.type "getset_descriptor", none, .fields ⟨[.str "__weakref__" 203, .ref 14, .builtin "ExceptionGroup.__weakref__", .none]⟩, ⟨[]⟩⟩
noncomputable def o18_0 (P : Params) : Obj := ⟨.none, none, .seq ⟨[.int 13 0, .str ⟨⟨[6, 189, 10, 95, 95, 109, 111, 100, 117, 108, 101, 95, 95, 6, 186, 17, 95, 102, 114, 111, 122, 101, 110, 95, 105, 109, 112, 111, 114, 116, 108, 105, 98, 6, 190, 15, 95, 95, 102, 105, 114, 115, 116, 108, 105, 110, 101, 110, 111, 95, 95, 4, 187, 0, 971, 6, 191, 7, 95, 95, 100, 111, 99, 95, 95, 9, 52, 95, 102, 114, 111, 122, 101, 110, 95, 105, 109, 112, 111, 114, 116, 108, 105, 98, 46, 66, 117, 105, 108, 116, 105, 110, 73, 109, 112, 111, 114, 116, 101, 114, 46, 95, 95, 100, 111, 99, 95, 95, 58, 115, 116, 114, 35, 111, 112, 97, 113, 117, 101, 6, 192, 7, 95, 79, 82, 73, 71, 73, 78, 6, 188, 8, 98, 117, 105, 108, 116, 45, 105, 110, 6, 193, 9, 102, 105, 110, 100, 95, 115, 112, 101, 99, 9, 50, 95, 102, 114, 111, 122, 101, 110, 95, 105, 109, 112, 111, 114, 116, 108, 105, 98, 46, 66, 117, 105, 108, 116, 105, 110, 73, 109, 112, 111, 114, 116, 101, 114, 46, 102, 105, 110, 100, 95, 115, 112, 101, 99, 35, 111, 112, 97, 113, 117, 101, 6, 194, 13, 99, 114, 101, 97, 116, 101, 95, 109, 111, 100, 117, 108, 101, 9, 54, 95, 102, 114, 111, 122, 101, 110, 95, 105, 109, 112, 111, 114, 116, 108, 105, 98, 46, 66, 117, 105, 108, 116, 105, 110, 73, 109, 112, 111, 114, 116, 101, 114, 46, 99, 114, 101, 97, 116, 101, 95, 109, 111, 100, 117, 108, 101, 35, 111, 112, 97, 113, 117, 101, 6, 195, 11, 101, 120, 101, 99, 95, 109, 111, 100, 117, 108, 101, 9, 52, 95, 102, 114, 111, 122, 101, 110, 95, 105, 109, 112, 111, 114, 116, 108, 105, 98, 46, 66, 117, 105, 108, 116, 105, 110, 73, 109, 112, 111, 114, 116, 101, 114, 46, 101, 120, 101, 99, 95, 109, 111, 100, 117, 108, 101, 35, 111, 112, 97, 113, 117, 101, 6, 196, 8, 103, 101, 116, 95, 99, 111, 100, 101, 9, 49, 95, 102, 114, 111, 122, 101, 110, 95, 105, 109, 112, 111, 114, 116, 108, 105, 98, 46, 66, 117, 105, 108, 116, 105, 110, 73, 109, 112, 111, 114, 116, 101, 114, 46, 103, 101, 116, 95, 99, 111, 100, 101, 35, 111, 112, 97, 113, 117, 101, 6, 197, 10, 103, 101, 116, 95, 115, 111, 117, 114, 99, 101, 9, 51, 95, 102, 114, 111, 122, 101, 110, 95, 105, 109, 112, 111, 114, 116, 108, 105, 98, 46, 66, 117, 105, 108, 116, 105, 110, 73, 109, 112, 111, 114, 116, 101, 114, 46, 103, 101, 116, 95, 115, 111, 117, 114, 99, 101, 35, 111, 112, 97, 113, 117, 101, 6, 198, 10, 105, 115, 95, 112, 97, 99, 107, 97, 103, 101, 9, 51, 95, 102, 114, 111, 122, 101, 110, 95, 105, 109, 112, 111, 114, 116, 108, 105, 98, 46, 66, 117, 105, 108, 116, 105, 110, 73, 109, 112, 111, 114, 116, 101, 114, 46, 105, 115, 95, 112, 97, 99, 107, 97, 103, 101, 35, 111, 112, 97, 113, 117, 101, 6, 199, 11, 108, 111, 97, 100, 95, 109, 111, 100, 117, 108, 101, 9, 52, 95, 102, 114, 111, 122, 101, 110, 95, 105, 109, 112, 111, 114, 116, 108, 105, 98, 46, 66, 117, 105, 108, 116, 105, 110, 73, 109, 112, 111, 114, 116, 101, 114, 46, 108, 111, 97, 100, 95, 109, 111, 100, 117, 108, 101, 35, 111, 112, 97, 113, 117, 101, 6, 200, 21, 95, 95, 115, 116, 97, 116, 105, 99, 95, 97, 116, 116, 114, 105, 98, 117, 116, 101, 115, 95, 95, 4, 0, 0, 15, 6, 202, 8, 95, 95, 100, 105, 99, 116, 95, 95, 4, 0, 0, 16, 6, 204, 11, 95, 95, 119, 101, 97, 107, 114, 101, 102, 95, 95, 4, 0, 0, 17]⟩⟩ 0, .bool true, .bool true, .str "" 205, .int 21 0, .str ⟨⟨[6, 227, 10, 95, 95, 109, 111, 100, 117, 108, 101, 95, 95, 6, 217, 17, 95, 102, 114, 111, 122, 101, 110, 95, 105, 109, 112, 111, 114, 116, 108, 105, 98, 6, 228, 15, 95, 95, 102, 105, 114, 115, 116, 108, 105, 110, 101, 110, 111, 95, 95, 4, 218, 0, 562, 6, 229, 7, 95, 95, 100, 111, 99, 95, 95, 9, 47, 95, 102, 114, 111, 122, 101, 110, 95, 105, 109, 112, 111, 114, 116, 108, 105, 98, 46, 77, 111, 100, 117, 108, 101, 83, 112, 101, 99, 46, 95, 95, 100, 111, 99, 95, 95, 58, 115, 116, 114, 35, 111, 112, 97, 113, 117, 101, 6, 230, 8, 95, 95, 105, 110, 105, 116, 95, 95, 9, 44, 95, 102, 114, 111, 122, 101, 110, 95, 105, 109, 112, 111, 114, 116, 108, 105, 98, 46, 77, 111, 100, 117, 108, 101, 83, 112, 101, 99, 46, 95, 95, 105, 110, 105, 116, 95, 95, 35, 111, 112, 97, 113, 117, 101, 6, 231, 8, 95, 95, 114, 101, 112, 114, 95, 95, 9, 44, 95, 102, 114, 111, 122, 101, 110, 95, 105, 109, 112, 111, 114, 116, 108, 105, 98, 46, 77, 111, 100, 117, 108, 101, 83, 112, 101, 99, 46, 95, 95, 114, 101, 112, 114, 95, 95, 35, 111, 112, 97, 113, 117, 101, 6, 232, 6, 95, 95, 101, 113, 95, 95, 9, 42, 95, 102, 114, 111, 122, 101, 110, 95, 105, 109, 112, 111, 114, 116, 108, 105, 98, 46, 77, 111, 100, 117, 108, 101, 83, 112, 101, 99, 46, 95, 95, 101, 113, 95, 95, 35, 111, 112, 97, 113, 117, 101, 6, 233, 6, 99, 97, 99, 104, 101, 100, 9, 42, 95, 102, 114, 111, 122, 101, 110, 95, 105, 109, 112, 111, 114, 116, 108, 105, 98, 46, 77, 111, 100, 117, 108, 101, 83, 112, 101, 99, 46, 99, 97, 99, 104, 101, 100, 35, 111, 112, 97, 113, 117, 101, 6, 234, 6, 112, 97, 114, 101, 110, 116, 9, 42, 95, 102, 114, 111, 122, 101, 110, 95, 105, 109, 112, 111, 114, 116, 108, 105, 98, 46, 77, 111, 100, 117, 108, 101, 83, 112, 101, 99, 46, 112, 97, 114, 101, 110, 116, 35, 111, 112, 97, 113, 117, 101, 6, 235, 12, 104, 97, 115, 95, 108, 111, 99, 97, 116, 105, 111, 110, 9, 48, 95, 102, 114, 111, 122, 101, 110, 95, 105, 109, 112, 111, 114, 116, 108, 105, 98, 46, 77, 111, 100, 117, 108, 101, 83, 112, 101, 99, 46, 104, 97, 115, 95, 108, 111, 99, 97, 116, 105, 111, 110, 35, 111, 112, 97, 113, 117, 101, 6, 236, 21, 95, 95, 115, 116, 97, 116, 105, 99, 95, 97, 116, 116, 114, 105, 98, 117, 116, 101, 115, 95, 95, 4, 0, 0, 23, 6, 238, 8, 95, 95, 100, 105, 99, 116, 95, 95, 4, 0, 0, 24, 6, 240, 11, 95, 95, 119, 101, 97, 107, 114, 101, 102, 95, 95, 4, 0, 0, 25, 6, 241, 8, 95, 95, 104, 97, 115, 104, 95, 95, 0]⟩⟩ 0, .bool true, .bool true, .str "" 242]⟩ 1, ⟨[]⟩⟩
noncomputable def o19_0 (P : Params) : Obj := ⟨.type "list", none, .seq ⟨[]⟩ 0, ⟨[]⟩⟩
noncomputable def o20_0 (P : Params) : Obj := ⟨.type "dict", none, .dict ⟨[e P "name" 208 (.str "_sre" 207), e P "loader" 209 (.ref 14), e P "origin" 210 (.str "built-in" 184), e P "loader_state" 211 .none, e P "submodule_search_locations" 212 .none, e P "_uninitialized_submodules" 213 (.ref 19), e P "_set_fileattr" 214 (.bool false), e P "_cached" 215 .none, e P "_initializing" 243 (.bool false)]⟩ 9, ⟨[]⟩⟩
noncomputable def g18 (P : Params) : List DictEntry := [e P "__module__" 227 (.str "_frozen_importlib" 217), e P "__firstlineno__" 228 (.int 562 218), e P "__doc__" 229 (.builtin "_frozen_importlib.ModuleSpec.__doc__:str#\x6fpaque"), e P "__init__" 230 (.builtin "_frozen_importlib.ModuleSpec.__init__#\x6fpaque"), e P "__repr__" 231 (.builtin "_frozen_importlib.ModuleSpec.__repr__#\x6fpaque"), e P "__eq__" 232 (.builtin "_frozen_importlib.ModuleSpec.__eq__#\x6fpaque"), e P "cached" 233 (.builtin "_frozen_importlib.ModuleSpec.cached#\x6fpaque"), e P "parent" 234 (.builtin "_frozen_importlib.ModuleSpec.parent#\x6fpaque"), e P "has_location" 235 (.builtin "_frozen_importlib.ModuleSpec.has_location#\x6fpaque"), e P "__static_attributes__" 236 (.ref 23), e P "__dict__" 238 (.ref 24), e P "__weakref__" 240 (.ref 25)]
noncomputable def g19 (P : Params) : List DictEntry := [e P "__hash__" 241 .none]
noncomputable def o21_0 (P : Params) : Obj := ⟨.type "dict", none, .dict ⟨g18 P ++ (g19 P)⟩ 13, ⟨[]⟩⟩
noncomputable def o22_0 (P : Params) : Obj := ⟨.type "type", none, .cls { name := "ModuleSpec", bases := [.type "object"], mro := [.ref 22, .type "object"], ns := 21, qualname := "ModuleSpec", hasDict := true, slotNames := [], subclasses := [], abstract := false, collection := none, hasDel := false }, ⟨[]⟩⟩
noncomputable def o23_0 (P : Params) : Obj := ⟨.type "tuple", none, .seq ⟨[.str "_cached" 219, .str "_set_fileattr" 220, .str "_uninitialized_submodules" 221, .str "loader" 222, .str "loader_state" 223, .str "name" 224, .str "origin" 225, .str "submodule_search_locations" 226]⟩ 0, ⟨[]⟩⟩
noncomputable def o24_0 (P : Params) : Obj := ⟨.type "getset_descriptor", none, .fields ⟨[.str "__dict__" 237, .ref 22, .builtin "function.__dict__", .builtin "function.__dict__#set"]⟩, ⟨[]⟩⟩
noncomputable def o25_0 (P : Params) : Obj := ⟨.type "getset_descriptor", none, .fields ⟨[.str "__weakref__" 239, .ref 22, .builtin "ExceptionGroup.__weakref__", .none]⟩, ⟨[]⟩⟩
noncomputable def o26_0 (P : Params) : Obj := ⟨.ref 22, (some 20), .plain, ⟨[]⟩⟩
noncomputable def o27_0 (P : Params) : Obj := ⟨.none, none, .seq ⟨[.int 11 0, .str ⟨⟨[6, 247, 8, 95, 95, 110, 97, 109, 101, 95, 95, 6, 246, 4, 95, 115, 114, 101, 6, 248, 7, 95, 95, 100, 111, 99, 95, 95, 0, 6, 250, 11, 95, 95, 112, 97, 99, 107, 97, 103, 101, 95, 95, 6, 249, 0, 6, 251, 10, 95, 95, 108, 111, 97, 100, 101, 114, 95, 95, 4, 0, 0, 14, 6, 252, 8, 95, 95, 115, 112, 101, 99, 95, 95, 4, 0, 0, 26, 6, 253, 7, 99, 111, 109, 112, 105, 108, 101, 9, 12, 95, 115, 114, 101, 46, 99, 111, 109, 112, 105, 108, 101, 6, 254, 8, 116, 101, 109, 112, 108, 97, 116, 101, 9, 13, 95, 115, 114, 101, 46, 116, 101, 109, 112, 108, 97, 116, 101, 6, 255, 11, 103, 101, 116, 99, 111, 100, 101, 115, 105, 122, 101, 9, 16, 95, 115, 114, 101, 46, 103, 101, 116, 99, 111, 100, 101, 115, 105, 122, 101, 6, 256, 13, 97, 115, 99, 105, 105, 95, 105, 115, 99, 97, 115, 101, 100, 9, 18, 95, 115, 114, 101, 46, 97, 115, 99, 105, 105, 95, 105, 115, 99, 97, 115, 101, 100, 6, 257, 15, 117, 110, 105, 99, 111, 100, 101, 95, 105, 115, 99, 97, 115, 101, 100, 9, 20, 95, 115, 114, 101, 46, 117, 110, 105, 99, 111, 100, 101, 95, 105, 115, 99, 97, 115, 101, 100, 6, 258, 13, 97, 115, 99, 105, 105, 95, 116, 111, 108, 111, 119, 101, 114, 9, 18, 95, 115, 114, 101, 46, 97, 115, 99, 105, 105, 95, 116, 111, 108, 111, 119, 101, 114, 6, 259, 15, 117, 110, 105, 99, 111, 100, 101, 95, 116, 111, 108, 111, 119, 101, 114, 9, 20, 95, 115, 114, 101, 46, 117, 110, 105, 99, 111, 100, 101, 95, 116, 111, 108, 111, 119, 101, 114, 6, 261, 5, 77, 65, 71, 73, 67, 4, 260, 0, 20230612, 6, 263, 8, 67, 79, 68, 69, 83, 73, 90, 69, 4, 262, 0, 4, 6, 265, 9, 77, 65, 88, 82, 69, 80, 69, 65, 84, 4, 264, 0, 4294967295, 6, 267, 9, 77, 65, 88, 71, 82, 79, 85, 80, 83, 4, 266, 0, 1073741823, 6, 269, 9, 99, 111, 112, 121, 114, 105, 103, 104, 116, 6, 268, 53, 32, 83, 82, 69, 32, 50, 46, 50, 46, 50, 32, 67, 111, 112, 121, 114, 105, 103, 104, 116, 32, 40, 99, 41, 32, 49, 57, 57, 55, 45, 50, 48, 48, 50, 32, 98, 121, 32, 83, 101, 99, 114, 101, 116, 32, 76, 97, 98, 115, 32, 65, 66, 32]⟩⟩ 0, .bool true, .bool false, .str "_sre" 271]⟩ 0, ⟨[]⟩⟩
noncomputable def te (P : Params) : BT := (.node (o0_0 P) (.node (o1_0 P) (.node (o3_0 P) (.node (o7_0 P) (.node (o15_0 P) .nil .nil) (.node (o23_0 P) .nil .nil)) (.node (o11_0 P) (.node (o19_0 P) .nil .nil) (.node (o27_0 P) .nil .nil))) (.node (o5_0 P) (.node (o9_0 P) (.node (o17_0 P) .nil .nil) (.node (o25_0 P) .nil .nil)) (.node (o13_0 P) (.node (o21_0 P) .nil .nil) .nil))) (.node (o2_0 P) (.node (o4_0 P) (.node (o8_0 P) (.node (o16_0 P) .nil .nil) (.node (o24_0 P) .nil .nil)) (.node (o12_0 P) (.node (o20_0 P) .nil .nil) .nil)) (.node (o6_0 P) (.node (o10_0 P) (.node (o18_0 P) .nil .nil) (.node (o26_0 P) .nil .nil)) (.node (o14_0 P) (.node (o22_0 P) .nil .nil) .nil))))
noncomputable abbrev se := st te 28 276
noncomputable def g20 (P : Params) : List DictEntry := [e P "__name__" 247 (.str "_sre" 246), e P "__doc__" 248 .none, e P "__package__" 250 (.str "" 249), e P "__loader__" 251 (.builtin "off-the-table:_sre.__loader__:shared#\x6fpaque"), e P "__spec__" 252 (.builtin "off-the-table:_sre.__spec__:shared#\x6fpaque"), e P "compile" 253 (.builtin "_sre.compile"), e P "template" 254 (.builtin "off-the-table:_sre.template:shared#\x6fpaque"), e P "getcodesize" 255 (.builtin "off-the-table:_sre.getcodesize:shared#\x6fpaque"), e P "ascii_iscased" 256 (.builtin "off-the-table:_sre.ascii_iscased:shared#\x6fpaque"), e P "unicode_iscased" 257 (.builtin "off-the-table:_sre.unicode_iscased:shared#\x6fpaque"), e P "ascii_tolower" 258 (.builtin "off-the-table:_sre.ascii_tolower:shared#\x6fpaque"), e P "unicode_tolower" 259 (.builtin "off-the-table:_sre.unicode_tolower:shared#\x6fpaque")]
noncomputable def o11_1 (P : Params) : Obj := ⟨.type "dict", none, .dict ⟨g20 P ++ (g15 P)⟩ 17, ⟨[]⟩⟩
noncomputable def t0 (P : Params) : BT := (.node (o0_0 P) (.node (o1_0 P) (.node (o3_0 P) (.node (o7_0 P) (.node (o15_0 P) .nil .nil) (.node (o23_0 P) .nil .nil)) (.node (o11_1 P) (.node (o19_0 P) .nil .nil) (.node (o27_0 P) .nil .nil))) (.node (o5_0 P) (.node (o9_0 P) (.node (o17_0 P) .nil .nil) (.node (o25_0 P) .nil .nil)) (.node (o13_0 P) (.node (o21_0 P) .nil .nil) .nil))) (.node (o2_0 P) (.node (o4_0 P) (.node (o8_0 P) (.node (o16_0 P) .nil .nil) (.node (o24_0 P) .nil .nil)) (.node (o12_0 P) (.node (o20_0 P) .nil .nil) .nil)) (.node (o6_0 P) (.node (o10_0 P) (.node (o18_0 P) .nil .nil) (.node (o26_0 P) .nil .nil)) (.node (o14_0 P) (.node (o22_0 P) .nil .nil) .nil))))
noncomputable abbrev s0 := st t0 28 276
noncomputable def o28_0 (P : Params) : Obj := ⟨.type "tuple", none, .seq ⟨[]⟩ 0, ⟨[]⟩⟩
noncomputable def o29_0 (P : Params) : Obj := ⟨.none, none, .fields ⟨[]⟩, ⟨[]⟩⟩
noncomputable def o30_0 (P : Params) : Obj := ⟨.type "code", none, .fields ⟨[.str "<module>" 277, .str "<module>" 278, .str "/claim/cut.py" 279, .int 1 0, .int 0 0, .int 0 0, .int 0 0, .int 0 0, .ref 28, .bool false, .int 276 0, .ref 29, .none, .none, .none, .none, .int 280 0, .int 1 0, .str "/claim/cut.py" 281]⟩, ⟨[]⟩⟩
noncomputable def o31_0 (P : Params) : Obj := ⟨.type "frame", none, .plain, ⟨[some (.ref 30), some (.ref 3), some (.ref 3), none, some (.str "__main__" 164), none, some (.ref 0)]⟩⟩
noncomputable def ta (P : Params) : BT := (.node (o0_0 P) (.node (o1_0 P) (.node (o3_0 P) (.node (o7_0 P) (.node (o15_0 P) (.node (o31_0 P) .nil .nil) .nil) (.node (o23_0 P) .nil .nil)) (.node (o11_1 P) (.node (o19_0 P) .nil .nil) (.node (o27_0 P) .nil .nil))) (.node (o5_0 P) (.node (o9_0 P) (.node (o17_0 P) .nil .nil) (.node (o25_0 P) .nil .nil)) (.node (o13_0 P) (.node (o21_0 P) .nil .nil) (.node (o29_0 P) .nil .nil)))) (.node (o2_0 P) (.node (o4_0 P) (.node (o8_0 P) (.node (o16_0 P) .nil .nil) (.node (o24_0 P) .nil .nil)) (.node (o12_0 P) (.node (o20_0 P) .nil .nil) (.node (o28_0 P) .nil .nil))) (.node (o6_0 P) (.node (o10_0 P) (.node (o18_0 P) .nil .nil) (.node (o26_0 P) .nil .nil)) (.node (o14_0 P) (.node (o22_0 P) .nil .nil) (.node (o30_0 P) .nil .nil)))))
noncomputable abbrev sa := st ta 32 282
noncomputable def g21 (P : Params) : List DictEntry := [e P "__name__" 165 (.str "re" 338), e P "__doc__" 166 .none, e P "__package__" 167 .none, e P "__loader__" 168 (.builtin "__main__.__loader__#\x6fpaque"), e P "__spec__" 169 .none, e P "__annotations__" 170 (.ref 6), e P "__builtins__" 171 (.ref 4), e P "__file__" 173 (.str "/claim/cut.py" 172), e P "__cached__" 174 .none, e P "_sre" 275 (.ref 12), e P "_wall" 288 (.ref 38), e P "_twin_re_1" 328 (.ref 43)]
noncomputable def g22 (P : Params) : List DictEntry := [e P "translate" 337 (.ref 50)]
noncomputable def o3_1 (P : Params) : Obj := ⟨.type "dict", none, .dict ⟨g21 P ++ (g22 P)⟩ 13, ⟨[]⟩⟩
noncomputable def o29_1 (P : Params) : Obj := ⟨.none, none, .fields ⟨[.int 2 0, .int 0 0, .ref 37, .int 7 0, .int 0 0, .ref 49]⟩, ⟨[]⟩⟩
noncomputable def o32_0 (P : Params) : Obj := ⟨.type "tuple", none, .seq ⟨[]⟩ 0, ⟨[]⟩⟩
noncomputable def o33_0 (P : Params) : Obj := ⟨.none, none, .fields ⟨[]⟩, ⟨[]⟩⟩
noncomputable def o34_0 (P : Params) : Obj := ⟨.type "tuple", none, .seq ⟨[.str "k" 285]⟩ 0, ⟨[]⟩⟩
noncomputable def o35_0 (P : Params) : Obj := ⟨.type "tuple", none, .seq ⟨[]⟩ 0, ⟨[]⟩⟩
noncomputable def o36_0 (P : Params) : Obj := ⟨.none, none, fnD (stA 1) 0 0 "_wall" "_wall" [] .none .none .none .none none .none .none, ⟨[]⟩⟩
noncomputable def o37_0 (P : Params) : Obj := ⟨.type "code", none, .fields ⟨[.str "_wall" 282, .str "_wall" 283, .str "/claim/cut.py" 284, .int 2 0, .int 1 0, .int 0 0, .int 0 0, .int 3 0, .ref 32, .bool true, .int 276 0, .ref 33, .none, .ref 34, .ref 35, .ref 36, .int 286 0, .int 2 0, .str "/claim/cut.py" 287]⟩, ⟨[]⟩⟩
noncomputable def o38_0 (P : Params) : Obj := ⟨.type "function", none, fnD (stA 1) 3 0 "_wall" "_wall" [] .none .none .none (.str "__main__" 164) none (.ref 37) .none, ⟨[]⟩⟩
noncomputable def o39_0 (P : Params) : Obj := ⟨.type "list", none, .seq ⟨[.int 14 294, .int 14 295, .int 4 296, .int 1 297, .int 1 298, .int 9 299, .int 0 300, .int 64 301, .int 0 302, .int 1342177280 303, .int 0 304, .int 0 305, .int 0 306, .int 0 307, .int 0 308, .int 17 309, .int 0 310, .int 13 311, .int 11 312, .int 9 313, .int 0 314, .int 64 315, .int 0 316, .int 1342177280 317, .int 0 318, .int 0 319, .int 0 320, .int 0 321, .int 0 322, .int 17 323, .int 1 324, .int 1 325]⟩ 0, ⟨[]⟩⟩
noncomputable def o40_0 (P : Params) : Obj := ⟨.type "dict", none, .dict ⟨[]⟩ 0, ⟨[]⟩⟩
noncomputable def o41_0 (P : Params) : Obj := ⟨.type "tuple", none, .seq ⟨[.none, .none]⟩ 0, ⟨[]⟩⟩
noncomputable def o42_0 (P : Params) : Obj := ⟨.type "tuple", none, .seq ⟨[.int 14 0, .int 14 0, .int 4 0, .int 1 0, .int 1 0, .int 9 0, .int 0 0, .int 64 0, .int 0 0, .int 1342177280 0, .int 0 0, .int 0 0, .int 0 0, .int 0 0, .int 0 0, .int 17 0, .int 0 0, .int 13 0, .int 11 0, .int 9 0, .int 0 0, .int 64 0, .int 0 0, .int 1342177280 0, .int 0 0, .int 0 0, .int 0 0, .int 0 0, .int 0 0, .int 17 0, .int 1 0, .int 1 0]⟩ 0, ⟨[]⟩⟩
noncomputable def o43_0 (P : Params) : Obj := ⟨.type "re.Pattern", none, .fields ⟨[.str "([&~|])" 292, .int 32 327, .int 1 0, .none, .none, .ref 42, .int 0 0]⟩, ⟨[]⟩⟩
noncomputable def o44_0 (P : Params) : Obj := ⟨.type "tuple", none, .seq ⟨[]⟩ 0, ⟨[]⟩⟩
noncomputable def o45_0 (P : Params) : Obj := ⟨.none, none, .fields ⟨[]⟩, ⟨[]⟩⟩
noncomputable def o46_0 (P : Params) : Obj := ⟨.type "tuple", none, .seq ⟨[.str "pat" 332, .str "STAR" 333, .str "parts" 334]⟩ 0, ⟨[]⟩⟩
noncomputable def o47_0 (P : Params) : Obj := ⟨.type "tuple", none, .seq ⟨[]⟩ 0, ⟨[]⟩⟩
noncomputable def o48_0 (P : Params) : Obj := ⟨.none, none, fnD (stA 4) 0 0 "translate" "translate" [] .none .none .none .none none .none .none, ⟨[]⟩⟩
noncomputable def o49_0 (P : Params) : Obj := ⟨.type "code", none, .fields ⟨[.str "translate" 329, .str "translate" 330, .str "/claim/cut.py" 331, .int 7 0, .int 1 0, .int 0 0, .int 0 0, .int 3 0, .ref 44, .bool true, .int 276 0, .ref 45, .none, .ref 46, .ref 47, .ref 48, .int 335 0, .int 7 0, .str "/claim/cut.py" 336]⟩, ⟨[]⟩⟩
noncomputable def o50_0 (P : Params) : Obj := ⟨.type "function", none, fnD (stA 4) 3 0 "translate" "translate" [] .none .none .none (.str "cpy313.fnmatch" 289) none (.ref 49) .none, ⟨[]⟩⟩
noncomputable def tp5 (P : Params) : BT := (.node (o0_0 P) (.node (o1_0 P) (.node (o3_1 P) (.node (o7_0 P) (.node (o15_0 P) (.node (o31_0 P) .nil .nil) (.node (o47_0 P) .nil .nil)) (.node (o23_0 P) (.node (o39_0 P) .nil .nil) .nil)) (.node (o11_1 P) (.node (o19_0 P) (.node (o35_0 P) .nil .nil) .nil) (.node (o27_0 P) (.node (o43_0 P) .nil .nil) .nil))) (.node (o5_0 P) (.node (o9_0 P) (.node (o17_0 P) (.node (o33_0 P) .nil .nil) (.node (o49_0 P) .nil .nil)) (.node (o25_0 P) (.node (o41_0 P) .nil .nil) .nil)) (.node (o13_0 P) (.node (o21_0 P) (.node (o37_0 P) .nil .nil) .nil) (.node (o29_1 P) (.node (o45_0 P) .nil .nil) .nil)))) (.node (o2_0 P) (.node (o4_0 P) (.node (o8_0 P) (.node (o16_0 P) (.node (o32_0 P) .nil .nil) (.node (o48_0 P) .nil .nil)) (.node (o24_0 P) (.node (o40_0 P) .nil .nil) .nil)) (.node (o12_0 P) (.node (o20_0 P) (.node (o36_0 P) .nil .nil) .nil) (.node (o28_0 P) (.node (o44_0 P) .nil .nil) .nil))) (.node (o6_0 P) (.node (o10_0 P) (.node (o18_0 P) (.node (o34_0 P) .nil .nil) (.node (o50_0 P) .nil .nil)) (.node (o26_0 P) (.node (o42_0 P) .nil .nil) .nil)) (.node (o14_0 P) (.node (o22_0 P) (.node (o38_0 P) .nil .nil) .nil) (.node (o30_0 P) (.node (o46_0 P) .nil .nil) .nil)))))
noncomputable abbrev sp5 := st tp5 51 340
noncomputable def g23 (P : Params) : List DictEntry := [e P "translate" 337 (.ref 50), e P "_special_chars_map" 485 (.ref 52)]
noncomputable def o3_2 (P : Params) : Obj := ⟨.type "dict", none, .dict ⟨g21 P ++ (g23 P)⟩ 14, ⟨[]⟩⟩
noncomputable def o51_0 (P : Params) : Obj := ⟨.type "bytes_iterator", none, .fields ⟨[.none, .int 24 0]⟩, ⟨[]⟩⟩
noncomputable def g24 (P : Params) : List DictEntry := [⟨40, .int 40 341, .str "\\(" 345⟩, ⟨41, .int 41 347, .str "\\)" 351⟩, ⟨91, .int 91 353, .str "\\[" 357⟩, ⟨93, .int 93 359, .str "\\]" 363⟩, ⟨123, .int 123 365, .str "\\{" 369⟩, ⟨125, .int 125 371, .str "\\}" 375⟩, ⟨63, .int 63 377, .str "\\?" 381⟩, ⟨42, .int 42 383, .str "\\*" 387⟩, ⟨43, .int 43 389, .str "\\+" 393⟩, ⟨45, .int 45 395, .str "\\-" 399⟩, ⟨124, .int 124 401, .str "\\|" 405⟩, ⟨94, .int 94 407, .str "\\^" 411⟩]
noncomputable def g25 (P : Params) : List DictEntry := [⟨36, .int 36 413, .str "\\$" 417⟩, ⟨92, .int 92 419, .str "\\\\" 423⟩, ⟨46, .int 46 425, .str "\\." 429⟩, ⟨38, .int 38 431, .str "\\&" 435⟩, ⟨126, .int 126 437, .str "\\~" 441⟩, ⟨35, .int 35 443, .str "\\#" 447⟩, ⟨32, .int 32 449, .str "\\ " 453⟩, ⟨9, .int 9 455, .str ⟨⟨[92, 9]⟩⟩ 459⟩, ⟨10, .int 10 461, .str ⟨⟨[92, 10]⟩⟩ 465⟩, ⟨13, .int 13 467, .str ⟨⟨[92, 13]⟩⟩ 471⟩, ⟨11, .int 11 473, .str ⟨⟨[92, 11]⟩⟩ 477⟩, ⟨12, .int 12 479, .str ⟨⟨[92, 12]⟩⟩ 483⟩]
noncomputable def o52_0 (P : Params) : Obj := ⟨.type "dict", none, .dict ⟨g24 P ++ (g25 P)⟩ 24, ⟨[]⟩⟩
noncomputable def o53_0 (P : Params) : Obj := ⟨.type "dict", none, .dict ⟨[]⟩ 2, ⟨[]⟩⟩
noncomputable def o54_0 (P : Params) : Obj := ⟨.type "tuple", none, .seq ⟨[]⟩ 0, ⟨[]⟩⟩
noncomputable def o55_0 (P : Params) : Obj := ⟨.type "StopIteration", none, .fields ⟨[.ref 54, .none, .none, .none, .bool false, .none]⟩, ⟨[]⟩⟩
noncomputable def tp6 (P : Params) : BT := (.node (o0_0 P) (.node (o1_0 P) (.node (o3_2 P) (.node (o7_0 P) (.node (o15_0 P) (.node (o31_0 P) .nil .nil) (.node (o47_0 P) .nil .nil)) (.node (o23_0 P) (.node (o39_0 P) .nil .nil) (.node (o55_0 P) .nil .nil))) (.node (o11_1 P) (.node (o19_0 P) (.node (o35_0 P) .nil .nil) (.node (o51_0 P) .nil .nil)) (.node (o27_0 P) (.node (o43_0 P) .nil .nil) .nil))) (.node (o5_0 P) (.node (o9_0 P) (.node (o17_0 P) (.node (o33_0 P) .nil .nil) (.node (o49_0 P) .nil .nil)) (.node (o25_0 P) (.node (o41_0 P) .nil .nil) .nil)) (.node (o13_0 P) (.node (o21_0 P) (.node (o37_0 P) .nil .nil) (.node (o53_0 P) .nil .nil)) (.node (o29_1 P) (.node (o45_0 P) .nil .nil) .nil)))) (.node (o2_0 P) (.node (o4_0 P) (.node (o8_0 P) (.node (o16_0 P) (.node (o32_0 P) .nil .nil) (.node (o48_0 P) .nil .nil)) (.node (o24_0 P) (.node (o40_0 P) .nil .nil) .nil)) (.node (o12_0 P) (.node (o20_0 P) (.node (o36_0 P) .nil .nil) (.node (o52_0 P) .nil .nil)) (.node (o28_0 P) (.node (o44_0 P) .nil .nil) .nil))) (.node (o6_0 P) (.node (o10_0 P) (.node (o18_0 P) (.node (o34_0 P) .nil .nil) (.node (o50_0 P) .nil .nil)) (.node (o26_0 P) (.node (o42_0 P) .nil .nil) .nil)) (.node (o14_0 P) (.node (o22_0 P) (.node (o38_0 P) .nil .nil) (.node (o54_0 P) .nil .nil)) (.node (o30_0 P) (.node (o46_0 P) .nil .nil) .nil)))))
noncomputable abbrev sp6 := st tp6 56 486
noncomputable def g26 (P : Params) : List DictEntry := [e P "__name__" 165 (.str "cpy313.fnmatch" 493), e P "__doc__" 166 .none, e P "__package__" 167 .none, e P "__loader__" 168 (.builtin "__main__.__loader__#\x6fpaque"), e P "__spec__" 169 .none, e P "__annotations__" 170 (.ref 6), e P "__builtins__" 171 (.ref 4), e P "__file__" 173 (.str "/claim/cut.py" 172), e P "__cached__" 174 .none, e P "_sre" 275 (.ref 12), e P "_wall" 288 (.ref 38), e P "_twin_re_1" 328 (.ref 43)]
noncomputable def g27 (P : Params) : List DictEntry := [e P "translate" 337 (.ref 50), e P "_special_chars_map" 485 (.ref 52), e P "escape" 492 (.ref 62), e P "_translate" 513 (.ref 69), e P "_join_translated_parts" 526 (.ref 76), e P "NL" 528 (.str ⟨⟨[10]⟩⟩ 527)]
noncomputable def o3_3 (P : Params) : Obj := ⟨.type "dict", none, .dict ⟨g26 P ++ (g27 P)⟩ 18, ⟨[]⟩⟩
noncomputable def o29_2 (P : Params) : Obj := ⟨.none, none, .fields ⟨[.int 2 0, .int 0 0, .ref 37, .int 7 0, .int 0 0, .ref 49, .int 13 0, .int 0 0, .ref 61, .int 20 0, .int 0 0, .ref 68, .int 82 0, .int 0 0, .ref 75]⟩, ⟨[]⟩⟩
noncomputable def o56_0 (P : Params) : Obj := ⟨.type "tuple", none, .seq ⟨[]⟩ 0, ⟨[]⟩⟩
noncomputable def o57_0 (P : Params) : Obj := ⟨.none, none, .fields ⟨[]⟩, ⟨[]⟩⟩
noncomputable def o58_0 (P : Params) : Obj := ⟨.type "tuple", none, .seq ⟨[.str "pattern" 489]⟩ 0, ⟨[]⟩⟩
noncomputable def o59_0 (P : Params) : Obj := ⟨.type "tuple", none, .seq ⟨[]⟩ 0, ⟨[]⟩⟩
noncomputable def o60_0 (P : Params) : Obj := ⟨.none, none, fnD (stA 7) 0 0 "escape" "escape" [] .none .none .none .none none .none .none, ⟨[]⟩⟩
noncomputable def o61_0 (P : Params) : Obj := ⟨.type "code", none, .fields ⟨[.str "escape" 486, .str "escape" 487, .str "/claim/cut.py" 488, .int 13 0, .int 1 0, .int 0 0, .int 0 0, .int 3 0, .ref 56, .bool true, .int 276 0, .ref 57, .none, .ref 58, .ref 59, .ref 60, .int 490 0, .int 13 0, .str "/claim/cut.py" 491]⟩, ⟨[]⟩⟩
noncomputable def o62_0 (P : Params) : Obj := ⟨.type "function", none, fnD (stA 7) 3 0 "escape" "escape" [] .none .none .none (.str "re" 338) none (.ref 61) .none, ⟨[]⟩⟩
noncomputable def o63_0 (P : Params) : Obj := ⟨.type "tuple", none, .seq ⟨[]⟩ 0, ⟨[]⟩⟩
noncomputable def o64_0 (P : Params) : Obj := ⟨.none, none, .fields ⟨[]⟩, ⟨[]⟩⟩
noncomputable def o65_0 (P : Params) : Obj := ⟨.type "tuple", none, .seq ⟨[.str "pat" 498, .str "STAR" 499, .str "QUESTION_MARK" 500, .str "res" 501, .str "add" 502, .str "i" 503, .str "n" 504, .str "c" 505, .str "j" 506, .str "stuff" 507, .str "chunks" 508, .str "k" 509, .str "chunk" 510]⟩ 0, ⟨[]⟩⟩
noncomputable def o66_0 (P : Params) : Obj := ⟨.type "tuple", none, .seq ⟨[]⟩ 0, ⟨[]⟩⟩
noncomputable def o67_0 (P : Params) : Obj := ⟨.none, none, fnD (stA 9) 0 0 "_translate" "_translate" [] .none .none .none .none none .none .none, ⟨[]⟩⟩
noncomputable def o68_0 (P : Params) : Obj := ⟨.type "code", none, .fields ⟨[.str "_translate" 495, .str "_translate" 496, .str "/claim/cut.py" 497, .int 20 0, .int 3 0, .int 0 0, .int 0 0, .int 3 0, .ref 63, .bool true, .int 276 0, .ref 64, .none, .ref 65, .ref 66, .ref 67, .int 511 0, .int 20 0, .str "/claim/cut.py" 512]⟩, ⟨[]⟩⟩
noncomputable def o69_0 (P : Params) : Obj := ⟨.type "function", none, fnD (stA 9) 3 0 "_translate" "_translate" [] .none .none .none (.str "cpy313.fnmatch" 493) none (.ref 68) .none, ⟨[]⟩⟩
noncomputable def o70_0 (P : Params) : Obj := ⟨.type "tuple", none, .seq ⟨[]⟩ 0, ⟨[]⟩⟩
noncomputable def o71_0 (P : Params) : Obj := ⟨.none, none, .fields ⟨[]⟩, ⟨[]⟩⟩
noncomputable def o72_0 (P : Params) : Obj := ⟨.type "tuple", none, .seq ⟨[.str "inp" 517, .str "STAR" 518, .str "res" 519, .str "add" 520, .str "i" 521, .str "n" 522, .str "fixed" 523]⟩ 0, ⟨[]⟩⟩
noncomputable def o73_0 (P : Params) : Obj := ⟨.type "tuple", none, .seq ⟨[]⟩ 0, ⟨[]⟩⟩
noncomputable def o74_0 (P : Params) : Obj := ⟨.none, none, fnD (stA 10) 0 0 "_join_translated_parts" "_join_translated_parts" [] .none .none .none .none none .none .none, ⟨[]⟩⟩
noncomputable def o75_0 (P : Params) : Obj := ⟨.type "code", none, .fields ⟨[.str "_join_translated_parts" 514, .str "_join_translated_parts" 515, .str "/claim/cut.py" 516, .int 82 0, .int 2 0, .int 0 0, .int 0 0, .int 3 0, .ref 70, .bool true, .int 276 0, .ref 71, .none, .ref 72, .ref 73, .ref 74, .int 524 0, .int 82 0, .str "/claim/cut.py" 525]⟩, ⟨[]⟩⟩
noncomputable def o76_0 (P : Params) : Obj := ⟨.type "function", none, fnD (stA 10) 3 0 "_join_translated_parts" "_join_translated_parts" [] .none .none .none (.str "cpy313.fnmatch" 493) none (.ref 75) .none, ⟨[]⟩⟩
noncomputable def tp11 (P : Params) : BT := (.node (o0_0 P) (.node (o1_0 P) (.node (o3_3 P) (.node (o7_0 P) (.node (o15_0 P) (.node (o31_0 P) (.node (o63_0 P) .nil .nil) .nil) (.node (o47_0 P) .nil .nil)) (.node (o23_0 P) (.node (o39_0 P) (.node (o71_0 P) .nil .nil) .nil) (.node (o55_0 P) .nil .nil))) (.node (o11_1 P) (.node (o19_0 P) (.node (o35_0 P) (.node (o67_0 P) .nil .nil) .nil) (.node (o51_0 P) .nil .nil)) (.node (o27_0 P) (.node (o43_0 P) (.node (o75_0 P) .nil .nil) .nil) (.node (o59_0 P) .nil .nil)))) (.node (o5_0 P) (.node (o9_0 P) (.node (o17_0 P) (.node (o33_0 P) (.node (o65_0 P) .nil .nil) .nil) (.node (o49_0 P) .nil .nil)) (.node (o25_0 P) (.node (o41_0 P) (.node (o73_0 P) .nil .nil) .nil) (.node (o57_0 P) .nil .nil))) (.node (o13_0 P) (.node (o21_0 P) (.node (o37_0 P) (.node (o69_0 P) .nil .nil) .nil) (.node (o53_0 P) .nil .nil)) (.node (o29_2 P) (.node (o45_0 P) .nil .nil) (.node (o61_0 P) .nil .nil))))) (.node (o2_0 P) (.node (o4_0 P) (.node (o8_0 P) (.node (o16_0 P) (.node (o32_0 P) (.node (o64_0 P) .nil .nil) .nil) (.node (o48_0 P) .nil .nil)) (.node (o24_0 P) (.node (o40_0 P) (.node (o72_0 P) .nil .nil) .nil) (.node (o56_0 P) .nil .nil))) (.node (o12_0 P) (.node (o20_0 P) (.node (o36_0 P) (.node (o68_0 P) .nil .nil) .nil) (.node (o52_0 P) .nil .nil)) (.node (o28_0 P) (.node (o44_0 P) (.node (o76_0 P) .nil .nil) .nil) (.node (o60_0 P) .nil .nil)))) (.node (o6_0 P) (.node (o10_0 P) (.node (o18_0 P) (.node (o34_0 P) (.node (o66_0 P) .nil .nil) .nil) (.node (o50_0 P) .nil .nil)) (.node (o26_0 P) (.node (o42_0 P) (.node (o74_0 P) .nil .nil) .nil) (.node (o58_0 P) .nil .nil))) (.node (o14_0 P) (.node (o22_0 P) (.node (o38_0 P) (.node (o70_0 P) .nil .nil) .nil) (.node (o54_0 P) .nil .nil)) (.node (o30_0 P) (.node (o46_0 P) .nil .nil) (.node (o62_0 P) .nil .nil))))))
noncomputable abbrev sp11 := st tp11 77 529
noncomputable def g28 (P : Params) : List DictEntry := [e P "translate" 337 (.ref 50), e P "_special_chars_map" 485 (.ref 52), e P "escape" 492 (.ref 62), e P "_translate" 513 (.ref 69), e P "_join_translated_parts" 526 (.ref 76), e P "NL" 528 (.str ⟨⟨[10]⟩⟩ 527), e P "_QUOPRI_MAP" 1556 (.ref 79)]
noncomputable def o3_4 (P : Params) : Obj := ⟨.type "dict", none, .dict ⟨g26 P ++ (g28 P)⟩ 19, ⟨[]⟩⟩
noncomputable def o77_0 (P : Params) : Obj := ⟨.type "range", none, .fields ⟨[.int 0 530, .int 256 529, .int 1 531]⟩, ⟨[]⟩⟩
noncomputable def o78_0 (P : Params) : Obj := ⟨.type "range_iterator", none, .fields ⟨[.int 256 0, .int 0 0, .int 1 0]⟩, ⟨[]⟩⟩
noncomputable def g29 : List Value := [.str "=00" 535, .str "=01" 539, .str "=02" 543, .str "=03" 547, .str "=04" 551, .str "=05" 555, .str "=06" 559, .str "=07" 563, .str "=08" 567, .str "=09" 571, .str "=0A" 575, .str "=0B" 579, .str "=0C" 583, .str "=0D" 587, .str "=0E" 591, .str "=0F" 595, .str "=10" 599, .str "=11" 603, .str "=12" 607, .str "=13" 611, .str "=14" 615, .str "=15" 619, .str "=16" 623, .str "=17" 627, .str "=18" 631, .str "=19" 635, .str "=1A" 639, .str "=1B" 643, .str "=1C" 647, .str "=1D" 651, .str "=1E" 655, .str "=1F" 659]
noncomputable def g30 : List Value := [.str "=20" 663, .str "=21" 667, .str "=22" 671, .str "=23" 675, .str "=24" 679, .str "=25" 683, .str "=26" 687, .str "=27" 691, .str "=28" 695, .str "=29" 699, .str "=2A" 703, .str "=2B" 707, .str "=2C" 711, .str "=2D" 715, .str "=2E" 719, .str "=2F" 723, .str "=30" 727, .str "=31" 731, .str "=32" 735, .str "=33" 739, .str "=34" 743, .str "=35" 747, .str "=36" 751, .str "=37" 755, .str "=38" 759, .str "=39" 763, .str "=3A" 767, .str "=3B" 771, .str "=3C" 775, .str "=3D" 779, .str "=3E" 783, .str "=3F" 787]
noncomputable def g31 : List Value := [.str "=40" 791, .str "=41" 795, .str "=42" 799, .str "=43" 803, .str "=44" 807, .str "=45" 811, .str "=46" 815, .str "=47" 819, .str "=48" 823, .str "=49" 827, .str "=4A" 831, .str "=4B" 835, .str "=4C" 839, .str "=4D" 843, .str "=4E" 847, .str "=4F" 851, .str "=50" 855, .str "=51" 859, .str "=52" 863, .str "=53" 867, .str "=54" 871, .str "=55" 875, .str "=56" 879, .str "=57" 883, .str "=58" 887, .str "=59" 891, .str "=5A" 895, .str "=5B" 899, .str "=5C" 903, .str "=5D" 907, .str "=5E" 911, .str "=5F" 915]
noncomputable def g32 : List Value := [.str "=60" 919, .str "=61" 923, .str "=62" 927, .str "=63" 931, .str "=64" 935, .str "=65" 939, .str "=66" 943, .str "=67" 947, .str "=68" 951, .str "=69" 955, .str "=6A" 959, .str "=6B" 963, .str "=6C" 967, .str "=6D" 971, .str "=6E" 975, .str "=6F" 979, .str "=70" 983, .str "=71" 987, .str "=72" 991, .str "=73" 995, .str "=74" 999, .str "=75" 1003, .str "=76" 1007, .str "=77" 1011, .str "=78" 1015, .str "=79" 1019, .str "=7A" 1023, .str "=7B" 1027, .str "=7C" 1031, .str "=7D" 1035, .str "=7E" 1039, .str "=7F" 1043]
noncomputable def g33 : List Value := [.str "=80" 1047, .str "=81" 1051, .str "=82" 1055, .str "=83" 1059, .str "=84" 1063, .str "=85" 1067, .str "=86" 1071, .str "=87" 1075, .str "=88" 1079, .str "=89" 1083, .str "=8A" 1087, .str "=8B" 1091, .str "=8C" 1095, .str "=8D" 1099, .str "=8E" 1103, .str "=8F" 1107, .str "=90" 1111, .str "=91" 1115, .str "=92" 1119, .str "=93" 1123, .str "=94" 1127, .str "=95" 1131, .str "=96" 1135, .str "=97" 1139, .str "=98" 1143, .str "=99" 1147, .str "=9A" 1151, .str "=9B" 1155, .str "=9C" 1159, .str "=9D" 1163, .str "=9E" 1167, .str "=9F" 1171]
noncomputable def g34 : List Value := [.str "=A0" 1175, .str "=A1" 1179, .str "=A2" 1183, .str "=A3" 1187, .str "=A4" 1191, .str "=A5" 1195, .str "=A6" 1199, .str "=A7" 1203, .str "=A8" 1207, .str "=A9" 1211, .str "=AA" 1215, .str "=AB" 1219, .str "=AC" 1223, .str "=AD" 1227, .str "=AE" 1231, .str "=AF" 1235, .str "=B0" 1239, .str "=B1" 1243, .str "=B2" 1247, .str "=B3" 1251, .str "=B4" 1255, .str "=B5" 1259, .str "=B6" 1263, .str "=B7" 1267, .str "=B8" 1271, .str "=B9" 1275, .str "=BA" 1279, .str "=BB" 1283, .str "=BC" 1287, .str "=BD" 1291, .str "=BE" 1295, .str "=BF" 1299]
noncomputable def g35 : List Value := [.str "=C0" 1303, .str "=C1" 1307, .str "=C2" 1311, .str "=C3" 1315, .str "=C4" 1319, .str "=C5" 1323, .str "=C6" 1327, .str "=C7" 1331, .str "=C8" 1335, .str "=C9" 1339, .str "=CA" 1343, .str "=CB" 1347, .str "=CC" 1351, .str "=CD" 1355, .str "=CE" 1359, .str "=CF" 1363, .str "=D0" 1367, .str "=D1" 1371, .str "=D2" 1375, .str "=D3" 1379, .str "=D4" 1383, .str "=D5" 1387, .str "=D6" 1391, .str "=D7" 1395, .str "=D8" 1399, .str "=D9" 1403, .str "=DA" 1407, .str "=DB" 1411, .str "=DC" 1415, .str "=DD" 1419, .str "=DE" 1423, .str "=DF" 1427]
noncomputable def g36 : List Value := [.str "=E0" 1431, .str "=E1" 1435, .str "=E2" 1439, .str "=E3" 1443, .str "=E4" 1447, .str "=E5" 1451, .str "=E6" 1455, .str "=E7" 1459, .str "=E8" 1463, .str "=E9" 1467, .str "=EA" 1471, .str "=EB" 1475, .str "=EC" 1479, .str "=ED" 1483, .str "=EE" 1487, .str "=EF" 1491, .str "=F0" 1495, .str "=F1" 1499, .str "=F2" 1503, .str "=F3" 1507, .str "=F4" 1511, .str "=F5" 1515, .str "=F6" 1519, .str "=F7" 1523, .str "=F8" 1527, .str "=F9" 1531, .str "=FA" 1535, .str "=FB" 1539, .str "=FC" 1543, .str "=FD" 1547, .str "=FE" 1551, .str "=FF" 1555]
noncomputable def o79_0 (P : Params) : Obj := ⟨.type "list", none, .seq ⟨g29 ++ (g30 ++ (g31 ++ (g32 ++ (g33 ++ (g34 ++ (g35 ++ (g36)))))))⟩ 256, ⟨[]⟩⟩
noncomputable def o80_0 (P : Params) : Obj := ⟨.type "dict", none, .dict ⟨[]⟩ 2, ⟨[]⟩⟩
noncomputable def o81_0 (P : Params) : Obj := ⟨.type "tuple", none, .seq ⟨[]⟩ 0, ⟨[]⟩⟩
noncomputable def o82_0 (P : Params) : Obj := ⟨.type "StopIteration", none, .fields ⟨[.ref 81, .none, .none, .none, .bool false, .none]⟩, ⟨[]⟩⟩
noncomputable def tp12 (P : Params) : BT := (.node (o0_0 P) (.node (o1_0 P) (.node (o3_4 P) (.node (o7_0 P) (.node (o15_0 P) (.node (o31_0 P) (.node (o63_0 P) .nil .nil) .nil) (.node (o47_0 P) (.node (o79_0 P) .nil .nil) .nil)) (.node (o23_0 P) (.node (o39_0 P) (.node (o71_0 P) .nil .nil) .nil) (.node (o55_0 P) .nil .nil))) (.node (o11_1 P) (.node (o19_0 P) (.node (o35_0 P) (.node (o67_0 P) .nil .nil) .nil) (.node (o51_0 P) .nil .nil)) (.node (o27_0 P) (.node (o43_0 P) (.node (o75_0 P) .nil .nil) .nil) (.node (o59_0 P) .nil .nil)))) (.node (o5_0 P) (.node (o9_0 P) (.node (o17_0 P) (.node (o33_0 P) (.node (o65_0 P) .nil .nil) .nil) (.node (o49_0 P) (.node (o81_0 P) .nil .nil) .nil)) (.node (o25_0 P) (.node (o41_0 P) (.node (o73_0 P) .nil .nil) .nil) (.node (o57_0 P) .nil .nil))) (.node (o13_0 P) (.node (o21_0 P) (.node (o37_0 P) (.node (o69_0 P) .nil .nil) .nil) (.node (o53_0 P) .nil .nil)) (.node (o29_2 P) (.node (o45_0 P) (.node (o77_0 P) .nil .nil) .nil) (.node (o61_0 P) .nil .nil))))) (.node (o2_0 P) (.node (o4_0 P) (.node (o8_0 P) (.node (o16_0 P) (.node (o32_0 P) (.node (o64_0 P) .nil .nil) .nil) (.node (o48_0 P) (.node (o80_0 P) .nil .nil) .nil)) (.node (o24_0 P) (.node (o40_0 P) (.node (o72_0 P) .nil .nil) .nil) (.node (o56_0 P) .nil .nil))) (.node (o12_0 P) (.node (o20_0 P) (.node (o36_0 P) (.node (o68_0 P) .nil .nil) .nil) (.node (o52_0 P) .nil .nil)) (.node (o28_0 P) (.node (o44_0 P) (.node (o76_0 P) .nil .nil) .nil) (.node (o60_0 P) .nil .nil)))) (.node (o6_0 P) (.node (o10_0 P) (.node (o18_0 P) (.node (o34_0 P) (.node (o66_0 P) .nil .nil) .nil) (.node (o50_0 P) (.node (o82_0 P) .nil .nil) .nil)) (.node (o26_0 P) (.node (o42_0 P) (.node (o74_0 P) .nil .nil) .nil) (.node (o58_0 P) .nil .nil))) (.node (o14_0 P) (.node (o22_0 P) (.node (o38_0 P) (.node (o70_0 P) .nil .nil) .nil) (.node (o54_0 P) .nil .nil)) (.node (o30_0 P) (.node (o46_0 P) (.node (o78_0 P) .nil .nil) .nil) (.node (o62_0 P) .nil .nil))))))
noncomputable abbrev sp12 := st tp12 83 1557
noncomputable def g37 (P : Params) : List DictEntry := [e P "__name__" 165 (.str "cpy313.email.quoprimime" 1572), e P "__doc__" 166 .none, e P "__package__" 167 .none, e P "__loader__" 168 (.builtin "__main__.__loader__#\x6fpaque"), e P "__spec__" 169 .none, e P "__annotations__" 170 (.ref 6), e P "__builtins__" 171 (.ref 4), e P "__file__" 173 (.str "/claim/cut.py" 172), e P "__cached__" 174 .none, e P "_sre" 275 (.ref 12), e P "_wall" 288 (.ref 38), e P "_twin_re_1" 328 (.ref 43)]
noncomputable def g38 (P : Params) : List DictEntry := [e P "translate" 337 (.ref 50), e P "_special_chars_map" 485 (.ref 52), e P "escape" 492 (.ref 62), e P "_translate" 513 (.ref 69), e P "_join_translated_parts" 526 (.ref 76), e P "NL" 528 (.str ⟨⟨[10]⟩⟩ 527), e P "_QUOPRI_MAP" 1556 (.ref 79), e P "_QUOPRI_HEADER_MAP" 1557 (.ref 84), e P "_QUOPRI_BODY_MAP" 1558 (.ref 86), e P "ascii_lowercase" 1560 (.str "abcdefghijklmnopqrstuvwxyz" 1559), e P "ascii_uppercase" 1562 (.str "ABCDEFGHIJKLMNOPQRSTUVWXYZ" 1561), e P "ascii_letters" 1564 (.str "abcdefghijklmnopqrstuvwxyzABCDEFGHIJKLMNOPQRSTUVWXYZ" 1563)]
noncomputable def g39 (P : Params) : List DictEntry := [e P "digits" 1566 (.str "0123456789" 1565), e P "hexdigits" 1571 (.str "0123456789abcdefABCDEF" 1570)]
noncomputable def o3_5 (P : Params) : Obj := ⟨.type "dict", none, .dict ⟨g37 P ++ (g38 P ++ (g39 P))⟩ 26, ⟨[]⟩⟩
noncomputable def o83_0 (P : Params) : Obj := ⟨.type "slice", none, .fields ⟨[.none, .none, .none]⟩, ⟨[]⟩⟩
noncomputable def o84_0 (P : Params) : Obj := ⟨.type "list", none, .seq ⟨g29 ++ (g30 ++ (g31 ++ (g32 ++ (g33 ++ (g34 ++ (g35 ++ (g36)))))))⟩ 0, ⟨[]⟩⟩
noncomputable def o85_0 (P : Params) : Obj := ⟨.type "slice", none, .fields ⟨[.none, .none, .none]⟩, ⟨[]⟩⟩
noncomputable def o86_0 (P : Params) : Obj := ⟨.type "list", none, .seq ⟨g29 ++ (g30 ++ (g31 ++ (g32 ++ (g33 ++ (g34 ++ (g35 ++ (g36)))))))⟩ 0, ⟨[]⟩⟩
noncomputable def tp20 (P : Params) : BT := (.node (o0_0 P) (.node (o1_0 P) (.node (o3_5 P) (.node (o7_0 P) (.node (o15_0 P) (.node (o31_0 P) (.node (o63_0 P) .nil .nil) .nil) (.node (o47_0 P) (.node (o79_0 P) .nil .nil) .nil)) (.node (o23_0 P) (.node (o39_0 P) (.node (o71_0 P) .nil .nil) .nil) (.node (o55_0 P) .nil .nil))) (.node (o11_1 P) (.node (o19_0 P) (.node (o35_0 P) (.node (o67_0 P) .nil .nil) .nil) (.node (o51_0 P) (.node (o83_0 P) .nil .nil) .nil)) (.node (o27_0 P) (.node (o43_0 P) (.node (o75_0 P) .nil .nil) .nil) (.node (o59_0 P) .nil .nil)))) (.node (o5_0 P) (.node (o9_0 P) (.node (o17_0 P) (.node (o33_0 P) (.node (o65_0 P) .nil .nil) .nil) (.node (o49_0 P) (.node (o81_0 P) .nil .nil) .nil)) (.node (o25_0 P) (.node (o41_0 P) (.node (o73_0 P) .nil .nil) .nil) (.node (o57_0 P) .nil .nil))) (.node (o13_0 P) (.node (o21_0 P) (.node (o37_0 P) (.node (o69_0 P) .nil .nil) .nil) (.node (o53_0 P) (.node (o85_0 P) .nil .nil) .nil)) (.node (o29_2 P) (.node (o45_0 P) (.node (o77_0 P) .nil .nil) .nil) (.node (o61_0 P) .nil .nil))))) (.node (o2_0 P) (.node (o4_0 P) (.node (o8_0 P) (.node (o16_0 P) (.node (o32_0 P) (.node (o64_0 P) .nil .nil) .nil) (.node (o48_0 P) (.node (o80_0 P) .nil .nil) .nil)) (.node (o24_0 P) (.node (o40_0 P) (.node (o72_0 P) .nil .nil) .nil) (.node (o56_0 P) .nil .nil))) (.node (o12_0 P) (.node (o20_0 P) (.node (o36_0 P) (.node (o68_0 P) .nil .nil) .nil) (.node (o52_0 P) (.node (o84_0 P) .nil .nil) .nil)) (.node (o28_0 P) (.node (o44_0 P) (.node (o76_0 P) .nil .nil) .nil) (.node (o60_0 P) .nil .nil)))) (.node (o6_0 P) (.node (o10_0 P) (.node (o18_0 P) (.node (o34_0 P) (.node (o66_0 P) .nil .nil) .nil) (.node (o50_0 P) (.node (o82_0 P) .nil .nil) .nil)) (.node (o26_0 P) (.node (o42_0 P) (.node (o74_0 P) .nil .nil) .nil) (.node (o58_0 P) .nil .nil))) (.node (o14_0 P) (.node (o22_0 P) (.node (o38_0 P) (.node (o70_0 P) .nil .nil) .nil) (.node (o54_0 P) (.node (o86_0 P) .nil .nil) .nil)) (.node (o30_0 P) (.node (o46_0 P) (.node (o78_0 P) .nil .nil) .nil) (.node (o62_0 P) .nil .nil))))))
noncomputable abbrev sp20 := st tp20 87 1574
noncomputable def g40 (P : Params) : List DictEntry := [e P "digits" 1566 (.str "0123456789" 1565), e P "hexdigits" 1571 (.str "0123456789abcdefABCDEF" 1570), e P "c" 1582 (.int 57 1779)]
noncomputable def o3_6 (P : Params) : Obj := ⟨.type "dict", none, .dict ⟨g37 P ++ (g38 P ++ (g40 P))⟩ 27, ⟨[]⟩⟩
noncomputable def g41 : List Value := [.str "=20" 663, .str "!" 1586, .str "=22" 671, .str "=23" 675, .str "=24" 679, .str "=25" 683, .str "=26" 687, .str "=27" 691, .str "=28" 695, .str "=29" 699, .str "*" 1589, .str "+" 1592, .str "=2C" 711, .str "-" 1583, .str "=2E" 719, .str "/" 1595, .str "0" 1754, .str "1" 1757, .str "2" 1760, .str "3" 1763, .str "4" 1766, .str "5" 1769, .str "6" 1772, .str "7" 1775, .str "8" 1778, .str "9" 1781, .str "=3A" 767, .str "=3B" 771, .str "=3C" 775, .str "=3D" 779, .str "=3E" 783, .str "=3F" 787]
noncomputable def g42 : List Value := [.str "=40" 791, .str "A" 1676, .str "B" 1679, .str "C" 1682, .str "D" 1685, .str "E" 1688, .str "F" 1691, .str "G" 1694, .str "H" 1697, .str "I" 1700, .str "J" 1703, .str "K" 1706, .str "L" 1709, .str "M" 1712, .str "N" 1715, .str "O" 1718, .str "P" 1721, .str "Q" 1724, .str "R" 1727, .str "S" 1730, .str "T" 1733, .str "U" 1736, .str "V" 1739, .str "W" 1742, .str "X" 1745, .str "Y" 1748, .str "Z" 1751, .str "=5B" 899, .str "=5C" 903, .str "=5D" 907, .str "=5E" 911, .str "=5F" 915]
noncomputable def g43 : List Value := [.str "=60" 919, .str "a" 1598, .str "b" 1601, .str "c" 1604, .str "d" 1607, .str "e" 1610, .str "f" 1613, .str "g" 1616, .str "h" 1619, .str "i" 1622, .str "j" 1625, .str "k" 1628, .str "l" 1631, .str "m" 1634, .str "n" 1637, .str "o" 1640, .str "p" 1643, .str "q" 1646, .str "r" 1649, .str "s" 1652, .str "t" 1655, .str "u" 1658, .str "v" 1661, .str "w" 1664, .str "x" 1667, .str "y" 1670, .str "z" 1673, .str "=7B" 1027, .str "=7C" 1031, .str "=7D" 1035, .str "=7E" 1039, .str "=7F" 1043]
noncomputable def o84_1 (P : Params) : Obj := ⟨.type "list", none, .seq ⟨g29 ++ (g41 ++ (g42 ++ (g43 ++ (g33 ++ (g34 ++ (g35 ++ (g36)))))))⟩ 0, ⟨[]⟩⟩
noncomputable def o87_0 (P : Params) : Obj := ⟨.type "bytes_iterator", none, .fields ⟨[.none, .int 67 0]⟩, ⟨[]⟩⟩
noncomputable def o88_0 (P : Params) : Obj := ⟨.type "tuple", none, .seq ⟨[]⟩ 0, ⟨[]⟩⟩
noncomputable def o89_0 (P : Params) : Obj := ⟨.type "StopIteration", none, .fields ⟨[.ref 88, .none, .none, .none, .bool false, .none]⟩, ⟨[]⟩⟩
noncomputable def tp21 (P : Params) : BT := (.node (o0_0 P) (.node (o1_0 P) (.node (o3_6 P) (.node (o7_0 P) (.node (o15_0 P) (.node (o31_0 P) (.node (o63_0 P) .nil .nil) .nil) (.node (o47_0 P) (.node (o79_0 P) .nil .nil) .nil)) (.node (o23_0 P) (.node (o39_0 P) (.node (o71_0 P) .nil .nil) .nil) (.node (o55_0 P) (.node (o87_0 P) .nil .nil) .nil))) (.node (o11_1 P) (.node (o19_0 P) (.node (o35_0 P) (.node (o67_0 P) .nil .nil) .nil) (.node (o51_0 P) (.node (o83_0 P) .nil .nil) .nil)) (.node (o27_0 P) (.node (o43_0 P) (.node (o75_0 P) .nil .nil) .nil) (.node (o59_0 P) .nil .nil)))) (.node (o5_0 P) (.node (o9_0 P) (.node (o17_0 P) (.node (o33_0 P) (.node (o65_0 P) .nil .nil) .nil) (.node (o49_0 P) (.node (o81_0 P) .nil .nil) .nil)) (.node (o25_0 P) (.node (o41_0 P) (.node (o73_0 P) .nil .nil) .nil) (.node (o57_0 P) (.node (o89_0 P) .nil .nil) .nil))) (.node (o13_0 P) (.node (o21_0 P) (.node (o37_0 P) (.node (o69_0 P) .nil .nil) .nil) (.node (o53_0 P) (.node (o85_0 P) .nil .nil) .nil)) (.node (o29_2 P) (.node (o45_0 P) (.node (o77_0 P) .nil .nil) .nil) (.node (o61_0 P) .nil .nil))))) (.node (o2_0 P) (.node (o4_0 P) (.node (o8_0 P) (.node (o16_0 P) (.node (o32_0 P) (.node (o64_0 P) .nil .nil) .nil) (.node (o48_0 P) (.node (o80_0 P) .nil .nil) .nil)) (.node (o24_0 P) (.node (o40_0 P) (.node (o72_0 P) .nil .nil) .nil) (.node (o56_0 P) (.node (o88_0 P) .nil .nil) .nil))) (.node (o12_0 P) (.node (o20_0 P) (.node (o36_0 P) (.node (o68_0 P) .nil .nil) .nil) (.node (o52_0 P) (.node (o84_1 P) .nil .nil) .nil)) (.node (o28_0 P) (.node (o44_0 P) (.node (o76_0 P) .nil .nil) .nil) (.node (o60_0 P) .nil .nil)))) (.node (o6_0 P) (.node (o10_0 P) (.node (o18_0 P) (.node (o34_0 P) (.node (o66_0 P) .nil .nil) .nil) (.node (o50_0 P) (.node (o82_0 P) .nil .nil) .nil)) (.node (o26_0 P) (.node (o42_0 P) (.node (o74_0 P) .nil .nil) .nil) (.node (o58_0 P) .nil .nil))) (.node (o14_0 P) (.node (o22_0 P) (.node (o38_0 P) (.node (o70_0 P) .nil .nil) .nil) (.node (o54_0 P) (.node (o86_0 P) .nil .nil) .nil)) (.node (o30_0 P) (.node (o46_0 P) (.node (o78_0 P) .nil .nil) .nil) (.node (o62_0 P) .nil .nil))))))
noncomputable abbrev sp21 := st tp21 90 1782
noncomputable def g44 : List Value := [.str "_" 1782, .str "!" 1586, .str "=22" 671, .str "=23" 675, .str "=24" 679, .str "=25" 683, .str "=26" 687, .str "=27" 691, .str "=28" 695, .str "=29" 699, .str "*" 1589, .str "+" 1592, .str "=2C" 711, .str "-" 1583, .str "=2E" 719, .str "/" 1595, .str "0" 1754, .str "1" 1757, .str "2" 1760, .str "3" 1763, .str "4" 1766, .str "5" 1769, .str "6" 1772, .str "7" 1775, .str "8" 1778, .str "9" 1781, .str "=3A" 767, .str "=3B" 771, .str "=3C" 775, .str "=3D" 779, .str "=3E" 783, .str "=3F" 787]
noncomputable def o84_2 (P : Params) : Obj := ⟨.type "list", none, .seq ⟨g29 ++ (g44 ++ (g42 ++ (g43 ++ (g33 ++ (g34 ++ (g35 ++ (g36)))))))⟩ 0, ⟨[]⟩⟩
noncomputable def tp22 (P : Params) : BT := (.node (o0_0 P) (.node (o1_0 P) (.node (o3_6 P) (.node (o7_0 P) (.node (o15_0 P) (.node (o31_0 P) (.node (o63_0 P) .nil .nil) .nil) (.node (o47_0 P) (.node (o79_0 P) .nil .nil) .nil)) (.node (o23_0 P) (.node (o39_0 P) (.node (o71_0 P) .nil .nil) .nil) (.node (o55_0 P) (.node (o87_0 P) .nil .nil) .nil))) (.node (o11_1 P) (.node (o19_0 P) (.node (o35_0 P) (.node (o67_0 P) .nil .nil) .nil) (.node (o51_0 P) (.node (o83_0 P) .nil .nil) .nil)) (.node (o27_0 P) (.node (o43_0 P) (.node (o75_0 P) .nil .nil) .nil) (.node (o59_0 P) .nil .nil)))) (.node (o5_0 P) (.node (o9_0 P) (.node (o17_0 P) (.node (o33_0 P) (.node (o65_0 P) .nil .nil) .nil) (.node (o49_0 P) (.node (o81_0 P) .nil .nil) .nil)) (.node (o25_0 P) (.node (o41_0 P) (.node (o73_0 P) .nil .nil) .nil) (.node (o57_0 P) (.node (o89_0 P) .nil .nil) .nil))) (.node (o13_0 P) (.node (o21_0 P) (.node (o37_0 P) (.node (o69_0 P) .nil .nil) .nil) (.node (o53_0 P) (.node (o85_0 P) .nil .nil) .nil)) (.node (o29_2 P) (.node (o45_0 P) (.node (o77_0 P) .nil .nil) .nil) (.node (o61_0 P) .nil .nil))))) (.node (o2_0 P) (.node (o4_0 P) (.node (o8_0 P) (.node (o16_0 P) (.node (o32_0 P) (.node (o64_0 P) .nil .nil) .nil) (.node (o48_0 P) (.node (o80_0 P) .nil .nil) .nil)) (.node (o24_0 P) (.node (o40_0 P) (.node (o72_0 P) .nil .nil) .nil) (.node (o56_0 P) (.node (o88_0 P) .nil .nil) .nil))) (.node (o12_0 P) (.node (o20_0 P) (.node (o36_0 P) (.node (o68_0 P) .nil .nil) .nil) (.node (o52_0 P) (.node (o84_2 P) .nil .nil) .nil)) (.node (o28_0 P) (.node (o44_0 P) (.node (o76_0 P) .nil .nil) .nil) (.node (o60_0 P) .nil .nil)))) (.node (o6_0 P) (.node (o10_0 P) (.node (o18_0 P) (.node (o34_0 P) (.node (o66_0 P) .nil .nil) .nil) (.node (o50_0 P) (.node (o82_0 P) .nil .nil) .nil)) (.node (o26_0 P) (.node (o42_0 P) (.node (o74_0 P) .nil .nil) .nil) (.node (o58_0 P) .nil .nil))) (.node (o14_0 P) (.node (o22_0 P) (.node (o38_0 P) (.node (o70_0 P) .nil .nil) .nil) (.node (o54_0 P) (.node (o86_0 P) .nil .nil) .nil)) (.node (o30_0 P) (.node (o46_0 P) (.node (o78_0 P) .nil .nil) .nil) (.node (o62_0 P) .nil .nil))))))
noncomputable abbrev sp22 := st tp22 90 1785
noncomputable def g45 (P : Params) : List DictEntry := [e P "digits" 1566 (.str "0123456789" 1565), e P "hexdigits" 1571 (.str "0123456789abcdefABCDEF" 1570), e P "c" 1582 (.int 9 2068)]
noncomputable def o3_7 (P : Params) : Obj := ⟨.type "dict", none, .dict ⟨g37 P ++ (g38 P ++ (g45 P))⟩ 27, ⟨[]⟩⟩
noncomputable def g46 : List Value := [.str "=00" 535, .str "=01" 539, .str "=02" 543, .str "=03" 547, .str "=04" 551, .str "=05" 555, .str "=06" 559, .str "=07" 563, .str "=08" 567, .str ⟨⟨[9]⟩⟩ 2070, .str "=0A" 575, .str "=0B" 579, .str "=0C" 583, .str "=0D" 587, .str "=0E" 591, .str "=0F" 595, .str "=10" 599, .str "=11" 603, .str "=12" 607, .str "=13" 611, .str "=14" 615, .str "=15" 619, .str "=16" 623, .str "=17" 627, .str "=18" 631, .str "=19" 635, .str "=1A" 639, .str "=1B" 643, .str "=1C" 647, .str "=1D" 651, .str "=1E" 655, .str "=1F" 659]
noncomputable def g47 : List Value := [.str " " 1788, .str "!" 1791, .str "\"" 1794, .str "#" 1797, .str "$" 1800, .str "%" 1803, .str "&" 1806, .str "'" 1809, .str "(" 1812, .str ")" 1815, .str "*" 1818, .str "+" 1821, .str "," 1824, .str "-" 1827, .str "." 1830, .str "/" 1833, .str "0" 1836, .str "1" 1839, .str "2" 1842, .str "3" 1845, .str "4" 1848, .str "5" 1851, .str "6" 1854, .str "7" 1857, .str "8" 1860, .str "9" 1863, .str ":" 1866, .str ";" 1869, .str "<" 1872, .str "=3D" 779, .str ">" 1875, .str "?" 1878]
noncomputable def g48 : List Value := [.str "@" 1881, .str "A" 1884, .str "B" 1887, .str "C" 1890, .str "D" 1893, .str "E" 1896, .str "F" 1899, .str "G" 1902, .str "H" 1905, .str "I" 1908, .str "J" 1911, .str "K" 1914, .str "L" 1917, .str "M" 1920, .str "N" 1923, .str "O" 1926, .str "P" 1929, .str "Q" 1932, .str "R" 1935, .str "S" 1938, .str "T" 1941, .str "U" 1944, .str "V" 1947, .str "W" 1950, .str "X" 1953, .str "Y" 1956, .str "Z" 1959, .str "[" 1962, .str "\\" 1965, .str "]" 1968, .str "^" 1971, .str "_" 1974]
noncomputable def g49 : List Value := [.str "`" 1977, .str "a" 1980, .str "b" 1983, .str "c" 1986, .str "d" 1989, .str "e" 1992, .str "f" 1995, .str "g" 1998, .str "h" 2001, .str "i" 2004, .str "j" 2007, .str "k" 2010, .str "l" 2013, .str "m" 2016, .str "n" 2019, .str "o" 2022, .str "p" 2025, .str "q" 2028, .str "r" 2031, .str "s" 2034, .str "t" 2037, .str "u" 2040, .str "v" 2043, .str "w" 2046, .str "x" 2049, .str "y" 2052, .str "z" 2055, .str "{" 2058, .str "|" 2061, .str "}" 2064, .str "~" 2067, .str "=7F" 1043]
noncomputable def o86_1 (P : Params) : Obj := ⟨.type "list", none, .seq ⟨g46 ++ (g47 ++ (g48 ++ (g49 ++ (g33 ++ (g34 ++ (g35 ++ (g36)))))))⟩ 0, ⟨[]⟩⟩
noncomputable def o90_0 (P : Params) : Obj := ⟨.type "bytes_iterator", none, .fields ⟨[.none, .int 95 0]⟩, ⟨[]⟩⟩
noncomputable def o91_0 (P : Params) : Obj := ⟨.type "tuple", none, .seq ⟨[]⟩ 0, ⟨[]⟩⟩
noncomputable def o92_0 (P : Params) : Obj := ⟨.type "StopIteration", none, .fields ⟨[.ref 91, .none, .none, .none, .bool false, .none]⟩, ⟨[]⟩⟩
noncomputable def tp23 (P : Params) : BT := (.node (o0_0 P) (.node (o1_0 P) (.node (o3_7 P) (.node (o7_0 P) (.node (o15_0 P) (.node (o31_0 P) (.node (o63_0 P) .nil .nil) .nil) (.node (o47_0 P) (.node (o79_0 P) .nil .nil) .nil)) (.node (o23_0 P) (.node (o39_0 P) (.node (o71_0 P) .nil .nil) .nil) (.node (o55_0 P) (.node (o87_0 P) .nil .nil) .nil))) (.node (o11_1 P) (.node (o19_0 P) (.node (o35_0 P) (.node (o67_0 P) .nil .nil) .nil) (.node (o51_0 P) (.node (o83_0 P) .nil .nil) .nil)) (.node (o27_0 P) (.node (o43_0 P) (.node (o75_0 P) .nil .nil) .nil) (.node (o59_0 P) (.node (o91_0 P) .nil .nil) .nil)))) (.node (o5_0 P) (.node (o9_0 P) (.node (o17_0 P) (.node (o33_0 P) (.node (o65_0 P) .nil .nil) .nil) (.node (o49_0 P) (.node (o81_0 P) .nil .nil) .nil)) (.node (o25_0 P) (.node (o41_0 P) (.node (o73_0 P) .nil .nil) .nil) (.node (o57_0 P) (.node (o89_0 P) .nil .nil) .nil))) (.node (o13_0 P) (.node (o21_0 P) (.node (o37_0 P) (.node (o69_0 P) .nil .nil) .nil) (.node (o53_0 P) (.node (o85_0 P) .nil .nil) .nil)) (.node (o29_2 P) (.node (o45_0 P) (.node (o77_0 P) .nil .nil) .nil) (.node (o61_0 P) .nil .nil))))) (.node (o2_0 P) (.node (o4_0 P) (.node (o8_0 P) (.node (o16_0 P) (.node (o32_0 P) (.node (o64_0 P) .nil .nil) .nil) (.node (o48_0 P) (.node (o80_0 P) .nil .nil) .nil)) (.node (o24_0 P) (.node (o40_0 P) (.node (o72_0 P) .nil .nil) .nil) (.node (o56_0 P) (.node (o88_0 P) .nil .nil) .nil))) (.node (o12_0 P) (.node (o20_0 P) (.node (o36_0 P) (.node (o68_0 P) .nil .nil) .nil) (.node (o52_0 P) (.node (o84_2 P) .nil .nil) .nil)) (.node (o28_0 P) (.node (o44_0 P) (.node (o76_0 P) .nil .nil) .nil) (.node (o60_0 P) (.node (o92_0 P) .nil .nil) .nil)))) (.node (o6_0 P) (.node (o10_0 P) (.node (o18_0 P) (.node (o34_0 P) (.node (o66_0 P) .nil .nil) .nil) (.node (o50_0 P) (.node (o82_0 P) .nil .nil) .nil)) (.node (o26_0 P) (.node (o42_0 P) (.node (o74_0 P) .nil .nil) .nil) (.node (o58_0 P) (.node (o90_0 P) .nil .nil) .nil))) (.node (o14_0 P) (.node (o22_0 P) (.node (o38_0 P) (.node (o70_0 P) .nil .nil) .nil) (.node (o54_0 P) (.node (o86_1 P) .nil .nil) .nil)) (.node (o30_0 P) (.node (o46_0 P) (.node (o78_0 P) .nil .nil) .nil) (.node (o62_0 P) .nil .nil))))))
noncomputable abbrev sp23 := st tp23 93 2071
noncomputable def g50 (P : Params) : List DictEntry := [e P "digits" 1566 (.str "0123456789" 1565), e P "hexdigits" 1571 (.str "0123456789abcdefABCDEF" 1570), e P "c" 1582 (.int 9 2068), e P "unquote" 2077 (.ref 99), e P "quote" 2084 (.ref 106), e P "_QUOPRI_BODY_ENCODE_MAP" 2085 (.ref 108)]
noncomputable def o3_8 (P : Params) : Obj := ⟨.type "dict", none, .dict ⟨g37 P ++ (g38 P ++ (g50 P))⟩ 30, ⟨[]⟩⟩
noncomputable def o29_3 (P : Params) : Obj := ⟨.none, none, .fields ⟨[.int 2 0, .int 0 0, .ref 37, .int 7 0, .int 0 0, .ref 49, .int 13 0, .int 0 0, .ref 61, .int 20 0, .int 0 0, .ref 68, .int 82 0, .int 0 0, .ref 75, .int 124 0, .int 0 0, .ref 98, .int 126 0, .int 0 0, .ref 105]⟩, ⟨[]⟩⟩
noncomputable def o93_0 (P : Params) : Obj := ⟨.type "tuple", none, .seq ⟨[]⟩ 0, ⟨[]⟩⟩
noncomputable def o94_0 (P : Params) : Obj := ⟨.none, none, .fields ⟨[]⟩, ⟨[]⟩⟩
noncomputable def o95_0 (P : Params) : Obj := ⟨.type "tuple", none, .seq ⟨[.str "s" 2074]⟩ 0, ⟨[]⟩⟩
noncomputable def o96_0 (P : Params) : Obj := ⟨.type "tuple", none, .seq ⟨[]⟩ 0, ⟨[]⟩⟩
noncomputable def o97_0 (P : Params) : Obj := ⟨.none, none, fnD (stA 24) 0 0 "unquote" "unquote" [] .none .none .none .none none .none .none, ⟨[]⟩⟩
noncomputable def o98_0 (P : Params) : Obj := ⟨.type "code", none, .fields ⟨[.str "unquote" 2071, .str "unquote" 2072, .str "/claim/cut.py" 2073, .int 124 0, .int 1 0, .int 0 0, .int 0 0, .int 3 0, .ref 93, .bool true, .int 276 0, .ref 94, .none, .ref 95, .ref 96, .ref 97, .int 2075 0, .int 124 0, .str "/claim/cut.py" 2076]⟩, ⟨[]⟩⟩
noncomputable def o99_0 (P : Params) : Obj := ⟨.type "function", none, fnD (stA 24) 3 0 "unquote" "unquote" [] .none .none .none (.str "cpy313.email.quoprimime" 1572) none (.ref 98) .none, ⟨[]⟩⟩
noncomputable def o100_0 (P : Params) : Obj := ⟨.type "tuple", none, .seq ⟨[]⟩ 0, ⟨[]⟩⟩
noncomputable def o101_0 (P : Params) : Obj := ⟨.none, none, .fields ⟨[]⟩, ⟨[]⟩⟩
noncomputable def o102_0 (P : Params) : Obj := ⟨.type "tuple", none, .seq ⟨[.str "c" 2081]⟩ 0, ⟨[]⟩⟩
noncomputable def o103_0 (P : Params) : Obj := ⟨.type "tuple", none, .seq ⟨[]⟩ 0, ⟨[]⟩⟩
noncomputable def o104_0 (P : Params) : Obj := ⟨.none, none, fnD (stA 25) 0 0 "quote" "quote" [] .none .none .none .none none .none .none, ⟨[]⟩⟩
noncomputable def o105_0 (P : Params) : Obj := ⟨.type "code", none, .fields ⟨[.str "quote" 2078, .str "quote" 2079, .str "/claim/cut.py" 2080, .int 126 0, .int 1 0, .int 0 0, .int 0 0, .int 3 0, .ref 100, .bool true, .int 276 0, .ref 101, .none, .ref 102, .ref 103, .ref 104, .int 2082 0, .int 126 0, .str "/claim/cut.py" 2083]⟩, ⟨[]⟩⟩
noncomputable def o106_0 (P : Params) : Obj := ⟨.type "function", none, fnD (stA 25) 3 0 "quote" "quote" [] .none .none .none (.str "cpy313.email.quoprimime" 1572) none (.ref 105) .none, ⟨[]⟩⟩
noncomputable def o107_0 (P : Params) : Obj := ⟨.type "slice", none, .fields ⟨[.none, .none, .none]⟩, ⟨[]⟩⟩
noncomputable def o108_0 (P : Params) : Obj := ⟨.type "list", none, .seq ⟨g46 ++ (g47 ++ (g48 ++ (g49 ++ (g33 ++ (g34 ++ (g35 ++ (g36)))))))⟩ 0, ⟨[]⟩⟩
noncomputable def tp26 (P : Params) : BT := (.node (o0_0 P) (.node (o1_0 P) (.node (o3_8 P) (.node (o7_0 P) (.node (o15_0 P) (.node (o31_0 P) (.node (o63_0 P) .nil .nil) (.node (o95_0 P) .nil .nil)) (.node (o47_0 P) (.node (o79_0 P) .nil .nil) .nil)) (.node (o23_0 P) (.node (o39_0 P) (.node (o71_0 P) .nil .nil) (.node (o103_0 P) .nil .nil)) (.node (o55_0 P) (.node (o87_0 P) .nil .nil) .nil))) (.node (o11_1 P) (.node (o19_0 P) (.node (o35_0 P) (.node (o67_0 P) .nil .nil) (.node (o99_0 P) .nil .nil)) (.node (o51_0 P) (.node (o83_0 P) .nil .nil) .nil)) (.node (o27_0 P) (.node (o43_0 P) (.node (o75_0 P) .nil .nil) (.node (o107_0 P) .nil .nil)) (.node (o59_0 P) (.node (o91_0 P) .nil .nil) .nil)))) (.node (o5_0 P) (.node (o9_0 P) (.node (o17_0 P) (.node (o33_0 P) (.node (o65_0 P) .nil .nil) (.node (o97_0 P) .nil .nil)) (.node (o49_0 P) (.node (o81_0 P) .nil .nil) .nil)) (.node (o25_0 P) (.node (o41_0 P) (.node (o73_0 P) .nil .nil) (.node (o105_0 P) .nil .nil)) (.node (o57_0 P) (.node (o89_0 P) .nil .nil) .nil))) (.node (o13_0 P) (.node (o21_0 P) (.node (o37_0 P) (.node (o69_0 P) .nil .nil) (.node (o101_0 P) .nil .nil)) (.node (o53_0 P) (.node (o85_0 P) .nil .nil) .nil)) (.node (o29_3 P) (.node (o45_0 P) (.node (o77_0 P) .nil .nil) .nil) (.node (o61_0 P) (.node (o93_0 P) .nil .nil) .nil))))) (.node (o2_0 P) (.node (o4_0 P) (.node (o8_0 P) (.node (o16_0 P) (.node (o32_0 P) (.node (o64_0 P) .nil .nil) (.node (o96_0 P) .nil .nil)) (.node (o48_0 P) (.node (o80_0 P) .nil .nil) .nil)) (.node (o24_0 P) (.node (o40_0 P) (.node (o72_0 P) .nil .nil) (.node (o104_0 P) .nil .nil)) (.node (o56_0 P) (.node (o88_0 P) .nil .nil) .nil))) (.node (o12_0 P) (.node (o20_0 P) (.node (o36_0 P) (.node (o68_0 P) .nil .nil) (.node (o100_0 P) .nil .nil)) (.node (o52_0 P) (.node (o84_2 P) .nil .nil) .nil)) (.node (o28_0 P) (.node (o44_0 P) (.node (o76_0 P) .nil .nil) (.node (o108_0 P) .nil .nil)) (.node (o60_0 P) (.node (o92_0 P) .nil .nil) .nil)))) (.node (o6_0 P) (.node (o10_0 P) (.node (o18_0 P) (.node (o34_0 P) (.node (o66_0 P) .nil .nil) (.node (o98_0 P) .nil .nil)) (.node (o50_0 P) (.node (o82_0 P) .nil .nil) .nil)) (.node (o26_0 P) (.node (o42_0 P) (.node (o74_0 P) .nil .nil) (.node (o106_0 P) .nil .nil)) (.node (o58_0 P) (.node (o90_0 P) .nil .nil) .nil))) (.node (o14_0 P) (.node (o22_0 P) (.node (o38_0 P) (.node (o70_0 P) .nil .nil) (.node (o102_0 P) .nil .nil)) (.node (o54_0 P) (.node (o86_1 P) .nil .nil) .nil)) (.node (o30_0 P) (.node (o46_0 P) (.node (o78_0 P) .nil .nil) .nil) (.node (o62_0 P) (.node (o94_0 P) .nil .nil) .nil))))))
noncomputable abbrev sp26 := st tp26 109 2086
noncomputable def g51 (P : Params) : List DictEntry := [e P "digits" 1566 (.str "0123456789" 1565), e P "hexdigits" 1571 (.str "0123456789abcdefABCDEF" 1570), e P "c" 1582 (.int 10 2090), e P "unquote" 2077 (.ref 99), e P "quote" 2084 (.ref 106), e P "_QUOPRI_BODY_ENCODE_MAP" 2085 (.ref 108)]
noncomputable def o3_9 (P : Params) : Obj := ⟨.type "dict", none, .dict ⟨g37 P ++ (g38 P ++ (g51 P))⟩ 30, ⟨[]⟩⟩
noncomputable def g52 : List Value := [.str "=00" 535, .str "=01" 539, .str "=02" 543, .str "=03" 547, .str "=04" 551, .str "=05" 555, .str "=06" 559, .str "=07" 563, .str "=08" 567, .str ⟨⟨[9]⟩⟩ 2070, .str ⟨⟨[10]⟩⟩ 2092, .str "=0B" 579, .str "=0C" 583, .str ⟨⟨[13]⟩⟩ 2089, .str "=0E" 591, .str "=0F" 595, .str "=10" 599, .str "=11" 603, .str "=12" 607, .str "=13" 611, .str "=14" 615, .str "=15" 619, .str "=16" 623, .str "=17" 627, .str "=18" 631, .str "=19" 635, .str "=1A" 639, .str "=1B" 643, .str "=1C" 647, .str "=1D" 651, .str "=1E" 655, .str "=1F" 659]
noncomputable def o108_1 (P : Params) : Obj := ⟨.type "list", none, .seq ⟨g52 ++ (g47 ++ (g48 ++ (g49 ++ (g33 ++ (g34 ++ (g35 ++ (g36)))))))⟩ 0, ⟨[]⟩⟩
noncomputable def o109_0 (P : Params) : Obj := ⟨.type "bytes_iterator", none, .fields ⟨[.none, .int 2 0]⟩, ⟨[]⟩⟩
noncomputable def o110_0 (P : Params) : Obj := ⟨.type "tuple", none, .seq ⟨[]⟩ 0, ⟨[]⟩⟩
noncomputable def o111_0 (P : Params) : Obj := ⟨.type "StopIteration", none, .fields ⟨[.ref 110, .none, .none, .none, .bool false, .none]⟩, ⟨[]⟩⟩
noncomputable def tp27 (P : Params) : BT := (.node (o0_0 P) (.node (o1_0 P) (.node (o3_9 P) (.node (o7_0 P) (.node (o15_0 P) (.node (o31_0 P) (.node (o63_0 P) .nil .nil) (.node (o95_0 P) .nil .nil)) (.node (o47_0 P) (.node (o79_0 P) .nil .nil) (.node (o111_0 P) .nil .nil))) (.node (o23_0 P) (.node (o39_0 P) (.node (o71_0 P) .nil .nil) (.node (o103_0 P) .nil .nil)) (.node (o55_0 P) (.node (o87_0 P) .nil .nil) .nil))) (.node (o11_1 P) (.node (o19_0 P) (.node (o35_0 P) (.node (o67_0 P) .nil .nil) (.node (o99_0 P) .nil .nil)) (.node (o51_0 P) (.node (o83_0 P) .nil .nil) .nil)) (.node (o27_0 P) (.node (o43_0 P) (.node (o75_0 P) .nil .nil) (.node (o107_0 P) .nil .nil)) (.node (o59_0 P) (.node (o91_0 P) .nil .nil) .nil)))) (.node (o5_0 P) (.node (o9_0 P) (.node (o17_0 P) (.node (o33_0 P) (.node (o65_0 P) .nil .nil) (.node (o97_0 P) .nil .nil)) (.node (o49_0 P) (.node (o81_0 P) .nil .nil) .nil)) (.node (o25_0 P) (.node (o41_0 P) (.node (o73_0 P) .nil .nil) (.node (o105_0 P) .nil .nil)) (.node (o57_0 P) (.node (o89_0 P) .nil .nil) .nil))) (.node (o13_0 P) (.node (o21_0 P) (.node (o37_0 P) (.node (o69_0 P) .nil .nil) (.node (o101_0 P) .nil .nil)) (.node (o53_0 P) (.node (o85_0 P) .nil .nil) .nil)) (.node (o29_3 P) (.node (o45_0 P) (.node (o77_0 P) .nil .nil) (.node (o109_0 P) .nil .nil)) (.node (o61_0 P) (.node (o93_0 P) .nil .nil) .nil))))) (.node (o2_0 P) (.node (o4_0 P) (.node (o8_0 P) (.node (o16_0 P) (.node (o32_0 P) (.node (o64_0 P) .nil .nil) (.node (o96_0 P) .nil .nil)) (.node (o48_0 P) (.node (o80_0 P) .nil .nil) .nil)) (.node (o24_0 P) (.node (o40_0 P) (.node (o72_0 P) .nil .nil) (.node (o104_0 P) .nil .nil)) (.node (o56_0 P) (.node (o88_0 P) .nil .nil) .nil))) (.node (o12_0 P) (.node (o20_0 P) (.node (o36_0 P) (.node (o68_0 P) .nil .nil) (.node (o100_0 P) .nil .nil)) (.node (o52_0 P) (.node (o84_2 P) .nil .nil) .nil)) (.node (o28_0 P) (.node (o44_0 P) (.node (o76_0 P) .nil .nil) (.node (o108_1 P) .nil .nil)) (.node (o60_0 P) (.node (o92_0 P) .nil .nil) .nil)))) (.node (o6_0 P) (.node (o10_0 P) (.node (o18_0 P) (.node (o34_0 P) (.node (o66_0 P) .nil .nil) (.node (o98_0 P) .nil .nil)) (.node (o50_0 P) (.node (o82_0 P) .nil .nil) .nil)) (.node (o26_0 P) (.node (o42_0 P) (.node (o74_0 P) .nil .nil) (.node (o106_0 P) .nil .nil)) (.node (o58_0 P) (.node (o90_0 P) .nil .nil) .nil))) (.node (o14_0 P) (.node (o22_0 P) (.node (o38_0 P) (.node (o70_0 P) .nil .nil) (.node (o102_0 P) .nil .nil)) (.node (o54_0 P) (.node (o86_1 P) .nil .nil) .nil)) (.node (o30_0 P) (.node (o46_0 P) (.node (o78_0 P) .nil .nil) (.node (o110_0 P) .nil .nil)) (.node (o62_0 P) (.node (o94_0 P) .nil .nil) .nil))))))
noncomputable abbrev sp27 := st tp27 112 2093
noncomputable def g53 (P : Params) : List DictEntry := [e P "__name__" 165 (.str "abc" 2117), e P "__doc__" 166 .none, e P "__package__" 167 .none, e P "__loader__" 168 (.builtin "__main__.__loader__#\x6fpaque"), e P "__spec__" 169 .none, e P "__annotations__" 170 (.ref 6), e P "__builtins__" 171 (.ref 4), e P "__file__" 173 (.str "/claim/cut.py" 172), e P "__cached__" 174 .none, e P "_sre" 275 (.ref 12), e P "_wall" 288 (.ref 38), e P "_twin_re_1" 328 (.ref 43)]
noncomputable def g54 (P : Params) : List DictEntry := [e P "digits" 1566 (.str "0123456789" 1565), e P "hexdigits" 1571 (.str "0123456789abcdefABCDEF" 1570), e P "unquote" 2077 (.ref 99), e P "quote" 2084 (.ref 106), e P "_QUOPRI_BODY_ENCODE_MAP" 2085 (.ref 108), e P "decode" 2105 (.ref 119), e P "_plain_name" 2116 (.ref 126)]
noncomputable def o3_10 (P : Params) : Obj := ⟨.type "dict", none, .dict ⟨g53 P ++ (g38 P ++ (g54 P))⟩ 33, ⟨[]⟩⟩
noncomputable def o29_4 (P : Params) : Obj := ⟨.none, none, .fields ⟨[.int 2 0, .int 0 0, .ref 37, .int 7 0, .int 0 0, .ref 49, .int 13 0, .int 0 0, .ref 61, .int 20 0, .int 0 0, .ref 68, .int 82 0, .int 0 0, .ref 75, .int 124 0, .int 0 0, .ref 98, .int 126 0, .int 0 0, .ref 105, .int 132 0, .int 0 0, .ref 118, .int 163 0, .int 0 0, .ref 125]⟩, ⟨[]⟩⟩
noncomputable def o112_0 (P : Params) : Obj := ⟨.type "tuple", none, .seq ⟨[.str ⟨⟨[10]⟩⟩ 527]⟩ 0, ⟨[]⟩⟩
noncomputable def o113_0 (P : Params) : Obj := ⟨.type "tuple", none, .seq ⟨[]⟩ 0, ⟨[]⟩⟩
noncomputable def o114_0 (P : Params) : Obj := ⟨.none, none, .fields ⟨[]⟩, ⟨[]⟩⟩
noncomputable def o115_0 (P : Params) : Obj := ⟨.type "tuple", none, .seq ⟨[.str "encoded" 2096, .str "eol" 2097, .str "decoded" 2098, .str "line" 2099, .str "i" 2100, .str "n" 2101, .str "c" 2102]⟩ 0, ⟨[]⟩⟩
noncomputable def o116_0 (P : Params) : Obj := ⟨.type "tuple", none, .seq ⟨[]⟩ 0, ⟨[]⟩⟩
noncomputable def o117_0 (P : Params) : Obj := ⟨.none, none, fnD (stA 29) 0 0 "decode" "decode" [] .none .none .none .none none .none .none, ⟨[]⟩⟩
noncomputable def o118_0 (P : Params) : Obj := ⟨.type "code", none, .fields ⟨[.str "decode" 2093, .str "decode" 2094, .str "/claim/cut.py" 2095, .int 132 0, .int 2 0, .int 0 0, .int 0 0, .int 3 0, .ref 113, .bool true, .int 276 0, .ref 114, .none, .ref 115, .ref 116, .ref 117, .int 2103 0, .int 132 0, .str "/claim/cut.py" 2104]⟩, ⟨[]⟩⟩
noncomputable def o119_0 (P : Params) : Obj := ⟨.type "function", none, fnD (stA 29) 3 0 "decode" "decode" [] (.ref 112) .none .none (.str "cpy313.email.quoprimime" 1572) none (.ref 118) .none, ⟨[]⟩⟩
noncomputable def o120_0 (P : Params) : Obj := ⟨.type "tuple", none, .seq ⟨[]⟩ 0, ⟨[]⟩⟩
noncomputable def o121_0 (P : Params) : Obj := ⟨.none, none, .fields ⟨[]⟩, ⟨[]⟩⟩
noncomputable def o122_0 (P : Params) : Obj := ⟨.type "tuple", none, .seq ⟨[.str "x" 2111, .str "what" 2112, .str "kind" 2113]⟩ 0, ⟨[]⟩⟩
noncomputable def o123_0 (P : Params) : Obj := ⟨.type "tuple", none, .seq ⟨[]⟩ 0, ⟨[]⟩⟩
noncomputable def o124_0 (P : Params) : Obj := ⟨.none, none, fnD (stA 31) 0 0 "_plain_name" "_plain_name" [] .none .none .none .none none .none .none, ⟨[]⟩⟩
noncomputable def o125_0 (P : Params) : Obj := ⟨.type "code", none, .fields ⟨[.str "_plain_name" 2108, .str "_plain_name" 2109, .str "/claim/cut.py" 2110, .int 163 0, .int 2 0, .int 0 0, .int 0 0, .int 3 0, .ref 120, .bool true, .int 276 0, .ref 121, .none, .ref 122, .ref 123, .ref 124, .int 2114 0, .int 163 0, .str "/claim/cut.py" 2115]⟩, ⟨[]⟩⟩
noncomputable def o126_0 (P : Params) : Obj := ⟨.type "function", none, fnD (stA 31) 3 0 "_plain_name" "_plain_name" [] .none .none .none (.str "os" 2106) none (.ref 125) .none, ⟨[]⟩⟩
noncomputable def tp32 (P : Params) : BT := (.node (o0_0 P) (.node (o1_0 P) (.node (o3_10 P) (.node (o7_0 P) (.node (o15_0 P) (.node (o31_0 P) (.node (o63_0 P) .nil .nil) (.node (o95_0 P) .nil .nil)) (.node (o47_0 P) (.node (o79_0 P) .nil .nil) (.node (o111_0 P) .nil .nil))) (.node (o23_0 P) (.node (o39_0 P) (.node (o71_0 P) .nil .nil) (.node (o103_0 P) .nil .nil)) (.node (o55_0 P) (.node (o87_0 P) .nil .nil) (.node (o119_0 P) .nil .nil)))) (.node (o11_1 P) (.node (o19_0 P) (.node (o35_0 P) (.node (o67_0 P) .nil .nil) (.node (o99_0 P) .nil .nil)) (.node (o51_0 P) (.node (o83_0 P) .nil .nil) (.node (o115_0 P) .nil .nil))) (.node (o27_0 P) (.node (o43_0 P) (.node (o75_0 P) .nil .nil) (.node (o107_0 P) .nil .nil)) (.node (o59_0 P) (.node (o91_0 P) .nil .nil) (.node (o123_0 P) .nil .nil))))) (.node (o5_0 P) (.node (o9_0 P) (.node (o17_0 P) (.node (o33_0 P) (.node (o65_0 P) .nil .nil) (.node (o97_0 P) .nil .nil)) (.node (o49_0 P) (.node (o81_0 P) .nil .nil) (.node (o113_0 P) .nil .nil))) (.node (o25_0 P) (.node (o41_0 P) (.node (o73_0 P) .nil .nil) (.node (o105_0 P) .nil .nil)) (.node (o57_0 P) (.node (o89_0 P) .nil .nil) (.node (o121_0 P) .nil .nil)))) (.node (o13_0 P) (.node (o21_0 P) (.node (o37_0 P) (.node (o69_0 P) .nil .nil) (.node (o101_0 P) .nil .nil)) (.node (o53_0 P) (.node (o85_0 P) .nil .nil) (.node (o117_0 P) .nil .nil))) (.node (o29_4 P) (.node (o45_0 P) (.node (o77_0 P) .nil .nil) (.node (o109_0 P) .nil .nil)) (.node (o61_0 P) (.node (o93_0 P) .nil .nil) (.node (o125_0 P) .nil .nil)))))) (.node (o2_0 P) (.node (o4_0 P) (.node (o8_0 P) (.node (o16_0 P) (.node (o32_0 P) (.node (o64_0 P) .nil .nil) (.node (o96_0 P) .nil .nil)) (.node (o48_0 P) (.node (o80_0 P) .nil .nil) (.node (o112_0 P) .nil .nil))) (.node (o24_0 P) (.node (o40_0 P) (.node (o72_0 P) .nil .nil) (.node (o104_0 P) .nil .nil)) (.node (o56_0 P) (.node (o88_0 P) .nil .nil) (.node (o120_0 P) .nil .nil)))) (.node (o12_0 P) (.node (o20_0 P) (.node (o36_0 P) (.node (o68_0 P) .nil .nil) (.node (o100_0 P) .nil .nil)) (.node (o52_0 P) (.node (o84_2 P) .nil .nil) (.node (o116_0 P) .nil .nil))) (.node (o28_0 P) (.node (o44_0 P) (.node (o76_0 P) .nil .nil) (.node (o108_1 P) .nil .nil)) (.node (o60_0 P) (.node (o92_0 P) .nil .nil) (.node (o124_0 P) .nil .nil))))) (.node (o6_0 P) (.node (o10_0 P) (.node (o18_0 P) (.node (o34_0 P) (.node (o66_0 P) .nil .nil) (.node (o98_0 P) .nil .nil)) (.node (o50_0 P) (.node (o82_0 P) .nil .nil) (.node (o114_0 P) .nil .nil))) (.node (o26_0 P) (.node (o42_0 P) (.node (o74_0 P) .nil .nil) (.node (o106_0 P) .nil .nil)) (.node (o58_0 P) (.node (o90_0 P) .nil .nil) (.node (o122_0 P) .nil .nil)))) (.node (o14_0 P) (.node (o22_0 P) (.node (o38_0 P) (.node (o70_0 P) .nil .nil) (.node (o102_0 P) .nil .nil)) (.node (o54_0 P) (.node (o86_1 P) .nil .nil) (.node (o118_0 P) .nil .nil))) (.node (o30_0 P) (.node (o46_0 P) (.node (o78_0 P) .nil .nil) (.node (o110_0 P) .nil .nil)) (.node (o62_0 P) (.node (o94_0 P) .nil .nil) (.node (o126_0 P) .nil .nil)))))))
noncomputable abbrev sp32 := st tp32 127 2119
noncomputable def g55 (P : Params) : List DictEntry := [e P "__name__" 165 (.str "collections.abc" 2143), e P "__doc__" 166 .none, e P "__package__" 167 .none, e P "__loader__" 168 (.builtin "__main__.__loader__#\x6fpaque"), e P "__spec__" 169 .none, e P "__annotations__" 170 (.ref 6), e P "__builtins__" 171 (.ref 4), e P "__file__" 173 (.str "/claim/cut.py" 172), e P "__cached__" 174 .none, e P "_sre" 275 (.ref 12), e P "_wall" 288 (.ref 38), e P "_twin_re_1" 328 (.ref 43)]
noncomputable def g56 (P : Params) : List DictEntry := [e P "digits" 1566 (.str "0123456789" 1565), e P "hexdigits" 1571 (.str "0123456789abcdefABCDEF" 1570), e P "unquote" 2077 (.ref 99), e P "quote" 2084 (.ref 106), e P "_QUOPRI_BODY_ENCODE_MAP" 2085 (.ref 108), e P "decode" 2105 (.ref 119), e P "_plain_name" 2116 (.ref 126), e P "ABCMeta" 2142 (.ref 143)]
noncomputable def o3_11 (P : Params) : Obj := ⟨.type "dict", none, .dict ⟨g55 P ++ (g38 P ++ (g56 P))⟩ 34, ⟨[]⟩⟩
noncomputable def o29_5 (P : Params) : Obj := ⟨.none, none, .fields ⟨[.int 2 0, .int 0 0, .ref 37, .int 7 0, .int 0 0, .ref 49, .int 13 0, .int 0 0, .ref 61, .int 20 0, .int 0 0, .ref 68, .int 82 0, .int 0 0, .ref 75, .int 124 0, .int 0 0, .ref 98, .int 126 0, .int 0 0, .ref 105, .int 132 0, .int 0 0, .ref 118, .int 163 0, .int 0 0, .ref 125, .int 169 0, .int 0 0, .ref 132]⟩, ⟨[]⟩⟩
noncomputable def o127_0 (P : Params) : Obj := ⟨.type "tuple", none, .seq ⟨[.type "type"]⟩ 0, ⟨[]⟩⟩
noncomputable def o128_0 (P : Params) : Obj := ⟨.type "builtin_function_or_method", none, .fields ⟨[.builtin "type.__prepare__", .type "type"]⟩, ⟨[]⟩⟩
noncomputable def o129_0 (P : Params) : Obj := ⟨.type "dict", none, .dict ⟨[e P "__module__" 2126 (.str "abc" 2117), e P "__qualname__" 2128 (.str "ABCMeta" 2127), e P "__firstlineno__" 2130 (.int 169 2129), e P "register" 2138 (.ref 140), e P "__static_attributes__" 2139 (.ref 141)]⟩ 5, ⟨[]⟩⟩
noncomputable def o130_0 (P : Params) : Obj := ⟨.type "tuple", none, .seq ⟨[]⟩ 0, ⟨[]⟩⟩
noncomputable def o131_0 (P : Params) : Obj := ⟨.none, none, .fields ⟨[.int 171 0, .int 4 0, .ref 139]⟩, ⟨[]⟩⟩
noncomputable def o132_0 (P : Params) : Obj := ⟨.type "code", none, .fields ⟨[.str "ABCMeta" 2121, .str "ABCMeta" 2122, .str "/claim/cut.py" 2123, .int 169 0, .int 0 0, .int 0 0, .int 0 0, .int 0 0, .ref 130, .bool false, .int 276 0, .ref 131, .none, .none, .none, .none, .int 2124 0, .int 169 0, .str "/claim/cut.py" 2125]⟩, ⟨[]⟩⟩
noncomputable def o133_0 (P : Params) : Obj := ⟨.type "frame", none, .plain, ⟨[some (.ref 132), some (.ref 3), some (.ref 129), none, some (.str "abc" 2117), none, some (.ref 0)]⟩⟩
noncomputable def o134_0 (P : Params) : Obj := ⟨.type "tuple", none, .seq ⟨[]⟩ 0, ⟨[]⟩⟩
noncomputable def o135_0 (P : Params) : Obj := ⟨.none, none, .fields ⟨[]⟩, ⟨[]⟩⟩
noncomputable def o136_0 (P : Params) : Obj := ⟨.type "tuple", none, .seq ⟨[.str "cls" 2134, .str "subclass" 2135]⟩ 0, ⟨[]⟩⟩
noncomputable def o137_0 (P : Params) : Obj := ⟨.type "tuple", none, .seq ⟨[]⟩ 0, ⟨[]⟩⟩
noncomputable def o138_0 (P : Params) : Obj := ⟨.none, none, fnD (stM 33 0) 0 0 "register" "ABCMeta.register" [] .none .none .none .none none .none .none, ⟨[]⟩⟩
noncomputable def o139_0 (P : Params) : Obj := ⟨.type "code", none, .fields ⟨[.str "register" 2131, .str "ABCMeta.register" 2132, .str "/claim/cut.py" 2133, .int 171 0, .int 2 0, .int 0 0, .int 0 0, .int 3 0, .ref 134, .bool true, .int 276 0, .ref 135, .none, .ref 136, .ref 137, .ref 138, .int 2136 0, .int 171 0, .str "/claim/cut.py" 2137]⟩, ⟨[]⟩⟩
noncomputable def o140_0 (P : Params) : Obj := ⟨.type "function", none, fnD (stM 33 0) 3 0 "register" "ABCMeta.register" [] .none .none .none (.str "abc" 2117) none (.ref 139) .none, ⟨[]⟩⟩
noncomputable def o141_0 (P : Params) : Obj := ⟨.type "tuple", none, .seq ⟨[]⟩ 0, ⟨[]⟩⟩
noncomputable def o142_0 (P : Params) : Obj := ⟨.type "dict", none, .dict ⟨[e P "__module__" 2126 (.str "abc" 2117), e P "__firstlineno__" 2130 (.int 169 2129), e P "register" 2138 (.ref 140), e P "__static_attributes__" 2139 (.ref 141), e P "__doc__" 2140 .none]⟩ 2, ⟨[]⟩⟩
noncomputable def o143_0 (P : Params) : Obj := ⟨.type "type", none, .cls { name := "ABCMeta", bases := [.type "type"], mro := [.ref 143, .type "type", .type "object"], ns := 142, qualname := "ABCMeta", hasDict := true, slotNames := [], subclasses := [], abstract := false, collection := none, hasDel := false }, ⟨[some (.ref 127), none, some (.str "ABCMeta" 2119), some (.str "ABCMeta" 2127), some (.builtin "type.__new__"), some (.bool true)]⟩⟩
noncomputable def o144_0 (P : Params) : Obj := ⟨.type "super", none, .fields ⟨[.ref 143, .ref 143, .ref 143]⟩, ⟨[]⟩⟩
noncomputable def o145_0 (P : Params) : Obj := ⟨.type "builtin_function_or_method", none, .fields ⟨[.builtin "object.__init_subclass__", .ref 143]⟩, ⟨[]⟩⟩
noncomputable def tp34 (P : Params) : BT := (.node (o0_0 P) (.node (o1_0 P) (.node (o3_11 P) (.node (o7_0 P) (.node (o15_0 P) (.node (o31_0 P) (.node (o63_0 P) (.node (o127_0 P) .nil .nil) .nil) (.node (o95_0 P) .nil .nil)) (.node (o47_0 P) (.node (o79_0 P) (.node (o143_0 P) .nil .nil) .nil) (.node (o111_0 P) .nil .nil))) (.node (o23_0 P) (.node (o39_0 P) (.node (o71_0 P) (.node (o135_0 P) .nil .nil) .nil) (.node (o103_0 P) .nil .nil)) (.node (o55_0 P) (.node (o87_0 P) .nil .nil) (.node (o119_0 P) .nil .nil)))) (.node (o11_1 P) (.node (o19_0 P) (.node (o35_0 P) (.node (o67_0 P) (.node (o131_0 P) .nil .nil) .nil) (.node (o99_0 P) .nil .nil)) (.node (o51_0 P) (.node (o83_0 P) .nil .nil) (.node (o115_0 P) .nil .nil))) (.node (o27_0 P) (.node (o43_0 P) (.node (o75_0 P) (.node (o139_0 P) .nil .nil) .nil) (.node (o107_0 P) .nil .nil)) (.node (o59_0 P) (.node (o91_0 P) .nil .nil) (.node (o123_0 P) .nil .nil))))) (.node (o5_0 P) (.node (o9_0 P) (.node (o17_0 P) (.node (o33_0 P) (.node (o65_0 P) (.node (o129_0 P) .nil .nil) .nil) (.node (o97_0 P) .nil .nil)) (.node (o49_0 P) (.node (o81_0 P) (.node (o145_0 P) .nil .nil) .nil) (.node (o113_0 P) .nil .nil))) (.node (o25_0 P) (.node (o41_0 P) (.node (o73_0 P) (.node (o137_0 P) .nil .nil) .nil) (.node (o105_0 P) .nil .nil)) (.node (o57_0 P) (.node (o89_0 P) .nil .nil) (.node (o121_0 P) .nil .nil)))) (.node (o13_0 P) (.node (o21_0 P) (.node (o37_0 P) (.node (o69_0 P) (.node (o133_0 P) .nil .nil) .nil) (.node (o101_0 P) .nil .nil)) (.node (o53_0 P) (.node (o85_0 P) .nil .nil) (.node (o117_0 P) .nil .nil))) (.node (o29_5 P) (.node (o45_0 P) (.node (o77_0 P) (.node (o141_0 P) .nil .nil) .nil) (.node (o109_0 P) .nil .nil)) (.node (o61_0 P) (.node (o93_0 P) .nil .nil) (.node (o125_0 P) .nil .nil)))))) (.node (o2_0 P) (.node (o4_0 P) (.node (o8_0 P) (.node (o16_0 P) (.node (o32_0 P) (.node (o64_0 P) (.node (o128_0 P) .nil .nil) .nil) (.node (o96_0 P) .nil .nil)) (.node (o48_0 P) (.node (o80_0 P) (.node (o144_0 P) .nil .nil) .nil) (.node (o112_0 P) .nil .nil))) (.node (o24_0 P) (.node (o40_0 P) (.node (o72_0 P) (.node (o136_0 P) .nil .nil) .nil) (.node (o104_0 P) .nil .nil)) (.node (o56_0 P) (.node (o88_0 P) .nil .nil) (.node (o120_0 P) .nil .nil)))) (.node (o12_0 P) (.node (o20_0 P) (.node (o36_0 P) (.node (o68_0 P) (.node (o132_0 P) .nil .nil) .nil) (.node (o100_0 P) .nil .nil)) (.node (o52_0 P) (.node (o84_2 P) .nil .nil) (.node (o116_0 P) .nil .nil))) (.node (o28_0 P) (.node (o44_0 P) (.node (o76_0 P) (.node (o140_0 P) .nil .nil) .nil) (.node (o108_1 P) .nil .nil)) (.node (o60_0 P) (.node (o92_0 P) .nil .nil) (.node (o124_0 P) .nil .nil))))) (.node (o6_0 P) (.node (o10_0 P) (.node (o18_0 P) (.node (o34_0 P) (.node (o66_0 P) (.node (o130_0 P) .nil .nil) .nil) (.node (o98_0 P) .nil .nil)) (.node (o50_0 P) (.node (o82_0 P) .nil .nil) (.node (o114_0 P) .nil .nil))) (.node (o26_0 P) (.node (o42_0 P) (.node (o74_0 P) (.node (o138_0 P) .nil .nil) .nil) (.node (o106_0 P) .nil .nil)) (.node (o58_0 P) (.node (o90_0 P) .nil .nil) (.node (o122_0 P) .nil .nil)))) (.node (o14_0 P) (.node (o22_0 P) (.node (o38_0 P) (.node (o70_0 P) (.node (o134_0 P) .nil .nil) .nil) (.node (o102_0 P) .nil .nil)) (.node (o54_0 P) (.node (o86_1 P) .nil .nil) (.node (o118_0 P) .nil .nil))) (.node (o30_0 P) (.node (o46_0 P) (.node (o78_0 P) (.node (o142_0 P) .nil .nil) .nil) (.node (o110_0 P) .nil .nil)) (.node (o62_0 P) (.node (o94_0 P) .nil .nil) (.node (o126_0 P) .nil .nil)))))))
noncomputable abbrev sp34 := st tp34 146 2145
noncomputable def g57 (P : Params) : List DictEntry := [e P "digits" 1566 (.str "0123456789" 1565), e P "hexdigits" 1571 (.str "0123456789abcdefABCDEF" 1570), e P "unquote" 2077 (.ref 99), e P "quote" 2084 (.ref 106), e P "_QUOPRI_BODY_ENCODE_MAP" 2085 (.ref 108), e P "decode" 2105 (.ref 119), e P "_plain_name" 2116 (.ref 126), e P "ABCMeta" 2142 (.ref 143), e P "_ABCLike" 2185 (.ref 176)]
noncomputable def o3_12 (P : Params) : Obj := ⟨.type "dict", none, .dict ⟨g55 P ++ (g38 P ++ (g57 P))⟩ 35, ⟨[]⟩⟩
noncomputable def g58 : List Value := [.int 2 0, .int 0 0, .ref 37, .int 7 0, .int 0 0, .ref 49, .int 13 0, .int 0 0, .ref 61, .int 20 0, .int 0 0, .ref 68, .int 82 0, .int 0 0, .ref 75, .int 124 0, .int 0 0, .ref 98, .int 126 0, .int 0 0, .ref 105, .int 132 0, .int 0 0, .ref 118, .int 163 0, .int 0 0, .ref 125, .int 169 0, .int 0 0, .ref 132, .int 174 0, .int 0 0]
noncomputable def g59 : List Value := [.ref 151]
noncomputable def o29_6 (P : Params) : Obj := ⟨.none, none, .fields ⟨g58 ++ (g59)⟩, ⟨[]⟩⟩
noncomputable def o143_1 (P : Params) : Obj := ⟨.type "type", none, .cls { name := "ABCMeta", bases := [.type "type"], mro := [.ref 143, .type "type", .type "object"], ns := 142, qualname := "ABCMeta", hasDict := true, slotNames := [], subclasses := [.ref 176], abstract := false, collection := none, hasDel := false }, ⟨[some (.ref 127), none, some (.str "ABCMeta" 2119), some (.str "ABCMeta" 2127), some (.builtin "type.__new__"), some (.bool true)]⟩⟩
noncomputable def o146_0 (P : Params) : Obj := ⟨.type "tuple", none, .seq ⟨[.ref 143]⟩ 0, ⟨[]⟩⟩
noncomputable def o147_0 (P : Params) : Obj := ⟨.type "builtin_function_or_method", none, .fields ⟨[.builtin "type.__prepare__", .type "type"]⟩, ⟨[]⟩⟩
noncomputable def o148_0 (P : Params) : Obj := ⟨.type "dict", none, .dict ⟨[e P "__module__" 2152 (.str "collections.abc" 2143), e P "__qualname__" 2154 (.str "_ABCLike" 2153), e P "__firstlineno__" 2156 (.int 174 2155), e P "__instancecheck__" 2165 (.ref 159), e P "__subclasscheck__" 2173 (.ref 166), e P "register" 2181 (.ref 173), e P "__static_attributes__" 2182 (.ref 174)]⟩ 7, ⟨[]⟩⟩
noncomputable def o149_0 (P : Params) : Obj := ⟨.type "tuple", none, .seq ⟨[]⟩ 0, ⟨[]⟩⟩
noncomputable def o150_0 (P : Params) : Obj := ⟨.none, none, .fields ⟨[.int 176 0, .int 4 0, .ref 158, .int 182 0, .int 4 0, .ref 165, .int 187 0, .int 4 0, .ref 172]⟩, ⟨[]⟩⟩
noncomputable def o151_0 (P : Params) : Obj := ⟨.type "code", none, .fields ⟨[.str "_ABCLike" 2147, .str "_ABCLike" 2148, .str "/claim/cut.py" 2149, .int 174 0, .int 0 0, .int 0 0, .int 0 0, .int 0 0, .ref 149, .bool false, .int 276 0, .ref 150, .none, .none, .none, .none, .int 2150 0, .int 174 0, .str "/claim/cut.py" 2151]⟩, ⟨[]⟩⟩
noncomputable def o152_0 (P : Params) : Obj := ⟨.type "frame", none, .plain, ⟨[some (.ref 151), some (.ref 3), some (.ref 148), none, some (.str "collections.abc" 2143), none, some (.ref 0)]⟩⟩
noncomputable def o153_0 (P : Params) : Obj := ⟨.type "tuple", none, .seq ⟨[]⟩ 0, ⟨[]⟩⟩
noncomputable def o154_0 (P : Params) : Obj := ⟨.none, none, .fields ⟨[]⟩, ⟨[]⟩⟩
noncomputable def o155_0 (P : Params) : Obj := ⟨.type "tuple", none, .seq ⟨[.str "cls" 2160, .str "\x69nstance" 2161, .str "C" 2162]⟩ 0, ⟨[]⟩⟩
noncomputable def o156_0 (P : Params) : Obj := ⟨.type "tuple", none, .seq ⟨[]⟩ 0, ⟨[]⟩⟩
noncomputable def o157_0 (P : Params) : Obj := ⟨.none, none, fnD (stM 35 0) 0 0 "__instancecheck__" "_ABCLike.__instancecheck__" [] .none .none .none .none none .none .none, ⟨[]⟩⟩
noncomputable def o158_0 (P : Params) : Obj := ⟨.type "code", none, .fields ⟨[.str "__instancecheck__" 2157, .str "_ABCLike.__instancecheck__" 2158, .str "/claim/cut.py" 2159, .int 176 0, .int 2 0, .int 0 0, .int 0 0, .int 3 0, .ref 153, .bool true, .int 276 0, .ref 154, .none, .ref 155, .ref 156, .ref 157, .int 2163 0, .int 176 0, .str "/claim/cut.py" 2164]⟩, ⟨[]⟩⟩
noncomputable def o159_0 (P : Params) : Obj := ⟨.type "function", none, fnD (stM 35 0) 3 0 "__instancecheck__" "_ABCLike.__instancecheck__" [] .none .none .none (.str "collections.abc" 2143) none (.ref 158) .none, ⟨[]⟩⟩
noncomputable def o160_0 (P : Params) : Obj := ⟨.type "tuple", none, .seq ⟨[]⟩ 0, ⟨[]⟩⟩
noncomputable def o161_0 (P : Params) : Obj := ⟨.none, none, .fields ⟨[]⟩, ⟨[]⟩⟩
noncomputable def o162_0 (P : Params) : Obj := ⟨.type "tuple", none, .seq ⟨[.str "cls" 2169, .str "C" 2170]⟩ 0, ⟨[]⟩⟩
noncomputable def o163_0 (P : Params) : Obj := ⟨.type "tuple", none, .seq ⟨[]⟩ 0, ⟨[]⟩⟩
noncomputable def o164_0 (P : Params) : Obj := ⟨.none, none, fnD (stM 35 1) 0 0 "__subclasscheck__" "_ABCLike.__subclasscheck__" [] .none .none .none .none none .none .none, ⟨[]⟩⟩
noncomputable def o165_0 (P : Params) : Obj := ⟨.type "code", none, .fields ⟨[.str "__subclasscheck__" 2166, .str "_ABCLike.__subclasscheck__" 2167, .str "/claim/cut.py" 2168, .int 182 0, .int 2 0, .int 0 0, .int 0 0, .int 3 0, .ref 160, .bool true, .int 276 0, .ref 161, .none, .ref 162, .ref 163, .ref 164, .int 2171 0, .int 182 0, .str "/claim/cut.py" 2172]⟩, ⟨[]⟩⟩
noncomputable def o166_0 (P : Params) : Obj := ⟨.type "function", none, fnD (stM 35 1) 3 0 "__subclasscheck__" "_ABCLike.__subclasscheck__" [] .none .none .none (.str "collections.abc" 2143) none (.ref 165) .none, ⟨[]⟩⟩
noncomputable def o167_0 (P : Params) : Obj := ⟨.type "tuple", none, .seq ⟨[]⟩ 0, ⟨[]⟩⟩
noncomputable def o168_0 (P : Params) : Obj := ⟨.none, none, .fields ⟨[]⟩, ⟨[]⟩⟩
noncomputable def o169_0 (P : Params) : Obj := ⟨.type "tuple", none, .seq ⟨[.str "cls" 2177, .str "subclass" 2178]⟩ 0, ⟨[]⟩⟩
noncomputable def o170_0 (P : Params) : Obj := ⟨.type "tuple", none, .seq ⟨[]⟩ 0, ⟨[]⟩⟩
noncomputable def o171_0 (P : Params) : Obj := ⟨.none, none, fnD (stM 35 2) 0 0 "register" "_ABCLike.register" [] .none .none .none .none none .none .none, ⟨[]⟩⟩
noncomputable def o172_0 (P : Params) : Obj := ⟨.type "code", none, .fields ⟨[.str "register" 2174, .str "_ABCLike.register" 2175, .str "/claim/cut.py" 2176, .int 187 0, .int 2 0, .int 0 0, .int 0 0, .int 3 0, .ref 167, .bool true, .int 276 0, .ref 168, .none, .ref 169, .ref 170, .ref 171, .int 2179 0, .int 187 0, .str "/claim/cut.py" 2180]⟩, ⟨[]⟩⟩
noncomputable def o173_0 (P : Params) : Obj := ⟨.type "function", none, fnD (stM 35 2) 3 0 "register" "_ABCLike.register" [] .none .none .none (.str "collections.abc" 2143) none (.ref 172) .none, ⟨[]⟩⟩
noncomputable def o174_0 (P : Params) : Obj := ⟨.type "tuple", none, .seq ⟨[]⟩ 0, ⟨[]⟩⟩
noncomputable def o175_0 (P : Params) : Obj := ⟨.type "dict", none, .dict ⟨[e P "__module__" 2152 (.str "collections.abc" 2143), e P "__firstlineno__" 2156 (.int 174 2155), e P "__instancecheck__" 2165 (.ref 159), e P "__subclasscheck__" 2173 (.ref 166), e P "register" 2181 (.ref 173), e P "__static_attributes__" 2182 (.ref 174), e P "__doc__" 2183 .none]⟩ 2, ⟨[]⟩⟩
noncomputable def o176_0 (P : Params) : Obj := ⟨.type "type", none, .cls { name := "_ABCLike", bases := [.ref 143], mro := [.ref 176, .ref 143, .type "type", .type "object"], ns := 175, qualname := "_ABCLike", hasDict := true, slotNames := [], subclasses := [], abstract := false, collection := none, hasDel := false }, ⟨[some (.ref 146), none, some (.str "_ABCLike" 2145), some (.str "_ABCLike" 2153), some (.builtin "type.__new__"), some (.bool true)]⟩⟩
noncomputable def o177_0 (P : Params) : Obj := ⟨.type "super", none, .fields ⟨[.ref 176, .ref 176, .ref 176]⟩, ⟨[]⟩⟩
noncomputable def o178_0 (P : Params) : Obj := ⟨.type "builtin_function_or_method", none, .fields ⟨[.builtin "object.__init_subclass__", .ref 176]⟩, ⟨[]⟩⟩
noncomputable def tp35 (P : Params) : BT := (.node (o0_0 P) (.node (o1_0 P) (.node (o3_12 P) (.node (o7_0 P) (.node (o15_0 P) (.node (o31_0 P) (.node (o63_0 P) (.node (o127_0 P) .nil .nil) .nil) (.node (o95_0 P) (.node (o159_0 P) .nil .nil) .nil)) (.node (o47_0 P) (.node (o79_0 P) (.node (o143_1 P) .nil .nil) .nil) (.node (o111_0 P) (.node (o175_0 P) .nil .nil) .nil))) (.node (o23_0 P) (.node (o39_0 P) (.node (o71_0 P) (.node (o135_0 P) .nil .nil) .nil) (.node (o103_0 P) (.node (o167_0 P) .nil .nil) .nil)) (.node (o55_0 P) (.node (o87_0 P) (.node (o151_0 P) .nil .nil) .nil) (.node (o119_0 P) .nil .nil)))) (.node (o11_1 P) (.node (o19_0 P) (.node (o35_0 P) (.node (o67_0 P) (.node (o131_0 P) .nil .nil) .nil) (.node (o99_0 P) (.node (o163_0 P) .nil .nil) .nil)) (.node (o51_0 P) (.node (o83_0 P) (.node (o147_0 P) .nil .nil) .nil) (.node (o115_0 P) .nil .nil))) (.node (o27_0 P) (.node (o43_0 P) (.node (o75_0 P) (.node (o139_0 P) .nil .nil) .nil) (.node (o107_0 P) (.node (o171_0 P) .nil .nil) .nil)) (.node (o59_0 P) (.node (o91_0 P) (.node (o155_0 P) .nil .nil) .nil) (.node (o123_0 P) .nil .nil))))) (.node (o5_0 P) (.node (o9_0 P) (.node (o17_0 P) (.node (o33_0 P) (.node (o65_0 P) (.node (o129_0 P) .nil .nil) .nil) (.node (o97_0 P) (.node (o161_0 P) .nil .nil) .nil)) (.node (o49_0 P) (.node (o81_0 P) (.node (o145_0 P) .nil .nil) .nil) (.node (o113_0 P) (.node (o177_0 P) .nil .nil) .nil))) (.node (o25_0 P) (.node (o41_0 P) (.node (o73_0 P) (.node (o137_0 P) .nil .nil) .nil) (.node (o105_0 P) (.node (o169_0 P) .nil .nil) .nil)) (.node (o57_0 P) (.node (o89_0 P) (.node (o153_0 P) .nil .nil) .nil) (.node (o121_0 P) .nil .nil)))) (.node (o13_0 P) (.node (o21_0 P) (.node (o37_0 P) (.node (o69_0 P) (.node (o133_0 P) .nil .nil) .nil) (.node (o101_0 P) (.node (o165_0 P) .nil .nil) .nil)) (.node (o53_0 P) (.node (o85_0 P) (.node (o149_0 P) .nil .nil) .nil) (.node (o117_0 P) .nil .nil))) (.node (o29_6 P) (.node (o45_0 P) (.node (o77_0 P) (.node (o141_0 P) .nil .nil) .nil) (.node (o109_0 P) (.node (o173_0 P) .nil .nil) .nil)) (.node (o61_0 P) (.node (o93_0 P) (.node (o157_0 P) .nil .nil) .nil) (.node (o125_0 P) .nil .nil)))))) (.node (o2_0 P) (.node (o4_0 P) (.node (o8_0 P) (.node (o16_0 P) (.node (o32_0 P) (.node (o64_0 P) (.node (o128_0 P) .nil .nil) .nil) (.node (o96_0 P) (.node (o160_0 P) .nil .nil) .nil)) (.node (o48_0 P) (.node (o80_0 P) (.node (o144_0 P) .nil .nil) .nil) (.node (o112_0 P) (.node (o176_0 P) .nil .nil) .nil))) (.node (o24_0 P) (.node (o40_0 P) (.node (o72_0 P) (.node (o136_0 P) .nil .nil) .nil) (.node (o104_0 P) (.node (o168_0 P) .nil .nil) .nil)) (.node (o56_0 P) (.node (o88_0 P) (.node (o152_0 P) .nil .nil) .nil) (.node (o120_0 P) .nil .nil)))) (.node (o12_0 P) (.node (o20_0 P) (.node (o36_0 P) (.node (o68_0 P) (.node (o132_0 P) .nil .nil) .nil) (.node (o100_0 P) (.node (o164_0 P) .nil .nil) .nil)) (.node (o52_0 P) (.node (o84_2 P) (.node (o148_0 P) .nil .nil) .nil) (.node (o116_0 P) .nil .nil))) (.node (o28_0 P) (.node (o44_0 P) (.node (o76_0 P) (.node (o140_0 P) .nil .nil) .nil) (.node (o108_1 P) (.node (o172_0 P) .nil .nil) .nil)) (.node (o60_0 P) (.node (o92_0 P) (.node (o156_0 P) .nil .nil) .nil) (.node (o124_0 P) .nil .nil))))) (.node (o6_0 P) (.node (o10_0 P) (.node (o18_0 P) (.node (o34_0 P) (.node (o66_0 P) (.node (o130_0 P) .nil .nil) .nil) (.node (o98_0 P) (.node (o162_0 P) .nil .nil) .nil)) (.node (o50_0 P) (.node (o82_0 P) (.node (o146_0 P) .nil .nil) .nil) (.node (o114_0 P) (.node (o178_0 P) .nil .nil) .nil))) (.node (o26_0 P) (.node (o42_0 P) (.node (o74_0 P) (.node (o138_0 P) .nil .nil) .nil) (.node (o106_0 P) (.node (o170_0 P) .nil .nil) .nil)) (.node (o58_0 P) (.node (o90_0 P) (.node (o154_0 P) .nil .nil) .nil) (.node (o122_0 P) .nil .nil)))) (.node (o14_0 P) (.node (o22_0 P) (.node (o38_0 P) (.node (o70_0 P) (.node (o134_0 P) .nil .nil) .nil) (.node (o102_0 P) (.node (o166_0 P) .nil .nil) .nil)) (.node (o54_0 P) (.node (o86_1 P) (.node (o150_0 P) .nil .nil) .nil) (.node (o118_0 P) .nil .nil))) (.node (o30_0 P) (.node (o46_0 P) (.node (o78_0 P) (.node (o142_0 P) .nil .nil) .nil) (.node (o110_0 P) (.node (o174_0 P) .nil .nil) .nil)) (.node (o62_0 P) (.node (o94_0 P) (.node (o158_0 P) .nil .nil) .nil) (.node (o126_0 P) .nil .nil)))))))
noncomputable abbrev sp35 := st tp35 179 2186
noncomputable def g60 (P : Params) : List DictEntry := [e P "__name__" 165 (.str "law_rt0089_01" 2244), e P "__doc__" 166 .none, e P "__package__" 167 .none, e P "__loader__" 168 (.builtin "__main__.__loader__#\x6fpaque"), e P "__spec__" 169 .none, e P "__annotations__" 170 (.ref 6), e P "__builtins__" 171 (.ref 4), e P "__file__" 173 (.str "/claim/cut.py" 172), e P "__cached__" 174 .none, e P "_sre" 275 (.ref 12), e P "_wall" 288 (.ref 38), e P "_twin_re_1" 328 (.ref 43)]
noncomputable def g61 (P : Params) : List DictEntry := [e P "digits" 1566 (.str "0123456789" 1565), e P "hexdigits" 1571 (.str "0123456789abcdefABCDEF" 1570), e P "unquote" 2077 (.ref 99), e P "quote" 2084 (.ref 106), e P "_QUOPRI_BODY_ENCODE_MAP" 2085 (.ref 108), e P "decode" 2105 (.ref 119), e P "_plain_name" 2116 (.ref 126), e P "ABCMeta" 2142 (.ref 143), e P "_ABCLike" 2185 (.ref 176), e P "_abc_plain_meta" 2192 (.ref 185), e P "fspath" 2204 (.ref 192), e P "_check_arg_types" 2217 (.ref 199)]
noncomputable def g62 (P : Params) : List DictEntry := [e P "_get_sep" 2226 (.ref 206), e P "join" 2237 (.ref 213), e P "commonpath" 2243 (.ref 218), e P "_law_way" 2255 (.ref 225), e P "_law_takes" 2266 (.ref 232), e P "_law_met" 2272 (.ref 237), e P "_law_answers" 2289 (.ref 244), e P "law" 2295 (.ref 249)]
noncomputable def o3_13 (P : Params) : Obj := ⟨.type "dict", none, .dict ⟨g60 P ++ (g38 P ++ (g61 P ++ (g62 P)))⟩ 46, ⟨[]⟩⟩
noncomputable def g63 : List Value := [.ref 151, .int 189 0, .int 0 0, .ref 184, .int 193 0, .int 0 0, .ref 191, .int 210 0, .int 0 0, .ref 198, .int 222 0, .int 0 0, .ref 205, .int 227 0, .int 0 0, .ref 212, .int 244 0, .int 0 0, .ref 217, .int 274 0, .int 0 0, .ref 224, .int 279 0, .int 0 0, .ref 231, .int 292 0, .int 0 0, .ref 236, .int 295 0, .int 0 0, .ref 243, .int 308 0]
noncomputable def g64 : List Value := [.int 0 0, .ref 248]
noncomputable def o29_7 (P : Params) : Obj := ⟨.none, none, .fields ⟨g58 ++ (g63 ++ (g64))⟩, ⟨[]⟩⟩
noncomputable def o179_0 (P : Params) : Obj := ⟨.type "tuple", none, .seq ⟨[]⟩ 0, ⟨[]⟩⟩
noncomputable def o180_0 (P : Params) : Obj := ⟨.none, none, .fields ⟨[]⟩, ⟨[]⟩⟩
noncomputable def o181_0 (P : Params) : Obj := ⟨.type "tuple", none, .seq ⟨[.str "C" 2189]⟩ 0, ⟨[]⟩⟩
noncomputable def o182_0 (P : Params) : Obj := ⟨.type "tuple", none, .seq ⟨[]⟩ 0, ⟨[]⟩⟩
noncomputable def o183_0 (P : Params) : Obj := ⟨.none, none, fnD (stA 36) 0 0 "_abc_plain_meta" "_abc_plain_meta" [] .none .none .none .none none .none .none, ⟨[]⟩⟩
noncomputable def o184_0 (P : Params) : Obj := ⟨.type "code", none, .fields ⟨[.str "_abc_plain_meta" 2186, .str "_abc_plain_meta" 2187, .str "/claim/cut.py" 2188, .int 189 0, .int 1 0, .int 0 0, .int 0 0, .int 3 0, .ref 179, .bool true, .int 276 0, .ref 180, .none, .ref 181, .ref 182, .ref 183, .int 2190 0, .int 189 0, .str "/claim/cut.py" 2191]⟩, ⟨[]⟩⟩
noncomputable def o185_0 (P : Params) : Obj := ⟨.type "function", none, fnD (stA 36) 3 0 "_abc_plain_meta" "_abc_plain_meta" [] .none .none .none (.str "collections.abc" 2143) none (.ref 184) .none, ⟨[]⟩⟩
noncomputable def o186_0 (P : Params) : Obj := ⟨.type "tuple", none, .seq ⟨[]⟩ 0, ⟨[]⟩⟩
noncomputable def o187_0 (P : Params) : Obj := ⟨.none, none, .fields ⟨[]⟩, ⟨[]⟩⟩
noncomputable def o188_0 (P : Params) : Obj := ⟨.type "tuple", none, .seq ⟨[.str "path" 2198, .str "kind" 2199, .str "hook" 2200, .str "given" 2201]⟩ 0, ⟨[]⟩⟩
noncomputable def o189_0 (P : Params) : Obj := ⟨.type "tuple", none, .seq ⟨[]⟩ 0, ⟨[]⟩⟩
noncomputable def o190_0 (P : Params) : Obj := ⟨.none, none, fnD (stA 38) 0 0 "fspath" "fspath" [] .none .none .none .none none .none .none, ⟨[]⟩⟩
noncomputable def o191_0 (P : Params) : Obj := ⟨.type "code", none, .fields ⟨[.str "fspath" 2195, .str "fspath" 2196, .str "/claim/cut.py" 2197, .int 193 0, .int 1 0, .int 0 0, .int 0 0, .int 3 0, .ref 186, .bool true, .int 276 0, .ref 187, .none, .ref 188, .ref 189, .ref 190, .int 2202 0, .int 193 0, .str "/claim/cut.py" 2203]⟩, ⟨[]⟩⟩
noncomputable def o192_0 (P : Params) : Obj := ⟨.type "function", none, fnD (stA 38) 3 0 "fspath" "fspath" [] .none .none .none (.str "os" 2193) none (.ref 191) .none, ⟨[]⟩⟩
noncomputable def o193_0 (P : Params) : Obj := ⟨.type "tuple", none, .seq ⟨[]⟩ 0, ⟨[]⟩⟩
noncomputable def o194_0 (P : Params) : Obj := ⟨.none, none, .fields ⟨[]⟩, ⟨[]⟩⟩
noncomputable def o195_0 (P : Params) : Obj := ⟨.type "tuple", none, .seq ⟨[.str "funcname" 2210, .str "args" 2211, .str "hasstr" 2212, .str "hasbytes" 2213, .str "s" 2214]⟩ 0, ⟨[]⟩⟩
noncomputable def o196_0 (P : Params) : Obj := ⟨.type "tuple", none, .seq ⟨[]⟩ 0, ⟨[]⟩⟩
noncomputable def o197_0 (P : Params) : Obj := ⟨.none, none, fnD (stA 40) 0 0 "_check_arg_types" "_check_arg_types" [] .none .none .none .none none .none .none, ⟨[]⟩⟩
noncomputable def o198_0 (P : Params) : Obj := ⟨.type "code", none, .fields ⟨[.str "_check_arg_types" 2207, .str "_check_arg_types" 2208, .str "/claim/cut.py" 2209, .int 210 0, .int 1 0, .int 0 0, .int 0 0, .int 7 0, .ref 193, .bool true, .int 276 0, .ref 194, .none, .ref 195, .ref 196, .ref 197, .int 2215 0, .int 210 0, .str "/claim/cut.py" 2216]⟩, ⟨[]⟩⟩
noncomputable def o199_0 (P : Params) : Obj := ⟨.type "function", none, fnD (stA 40) 3 0 "_check_arg_types" "_check_arg_types" [] .none .none .none (.str "cpy313.genericpath" 2205) none (.ref 198) .none, ⟨[]⟩⟩
noncomputable def o200_0 (P : Params) : Obj := ⟨.type "tuple", none, .seq ⟨[]⟩ 0, ⟨[]⟩⟩
noncomputable def o201_0 (P : Params) : Obj := ⟨.none, none, .fields ⟨[]⟩, ⟨[]⟩⟩
noncomputable def o202_0 (P : Params) : Obj := ⟨.type "tuple", none, .seq ⟨[.str "path" 2223]⟩ 0, ⟨[]⟩⟩
noncomputable def o203_0 (P : Params) : Obj := ⟨.type "tuple", none, .seq ⟨[]⟩ 0, ⟨[]⟩⟩
noncomputable def o204_0 (P : Params) : Obj := ⟨.none, none, fnD (stA 42) 0 0 "_get_sep" "_get_sep" [] .none .none .none .none none .none .none, ⟨[]⟩⟩
noncomputable def o205_0 (P : Params) : Obj := ⟨.type "code", none, .fields ⟨[.str "_get_sep" 2220, .str "_get_sep" 2221, .str "/claim/cut.py" 2222, .int 222 0, .int 1 0, .int 0 0, .int 0 0, .int 3 0, .ref 200, .bool true, .int 276 0, .ref 201, .none, .ref 202, .ref 203, .ref 204, .int 2224 0, .int 222 0, .str "/claim/cut.py" 2225]⟩, ⟨[]⟩⟩
noncomputable def o206_0 (P : Params) : Obj := ⟨.type "function", none, fnD (stA 42) 3 0 "_get_sep" "_get_sep" [] .none .none .none (.str "cpy313.posixpath" 2218) none (.ref 205) .none, ⟨[]⟩⟩
noncomputable def o207_0 (P : Params) : Obj := ⟨.type "tuple", none, .seq ⟨[]⟩ 0, ⟨[]⟩⟩
noncomputable def o208_0 (P : Params) : Obj := ⟨.none, none, .fields ⟨[]⟩, ⟨[]⟩⟩
noncomputable def o209_0 (P : Params) : Obj := ⟨.type "tuple", none, .seq ⟨[.str "a" 2230, .str "p" 2231, .str "sep" 2232, .str "path" 2233, .str "b" 2234]⟩ 0, ⟨[]⟩⟩
noncomputable def o210_0 (P : Params) : Obj := ⟨.type "tuple", none, .seq ⟨[]⟩ 0, ⟨[]⟩⟩
noncomputable def o211_0 (P : Params) : Obj := ⟨.none, none, fnD (stA 43) 0 0 "join" "join" [] .none .none .none .none none .none .none, ⟨[]⟩⟩
noncomputable def o212_0 (P : Params) : Obj := ⟨.type "code", none, .fields ⟨[.str "join" 2227, .str "join" 2228, .str "/claim/cut.py" 2229, .int 227 0, .int 1 0, .int 0 0, .int 0 0, .int 7 0, .ref 207, .bool true, .int 276 0, .ref 208, .none, .ref 209, .ref 210, .ref 211, .int 2235 0, .int 227 0, .str "/claim/cut.py" 2236]⟩, ⟨[]⟩⟩
noncomputable def o213_0 (P : Params) : Obj := ⟨.type "function", none, fnD (stA 43) 3 0 "join" "join" [] .none .none .none (.str "cpy313.posixpath" 2218) none (.ref 212) .none, ⟨[]⟩⟩
noncomputable def o214_0 (P : Params) : Obj := ⟨.type "tuple", none, .seq ⟨[]⟩ 0, ⟨[]⟩⟩
noncomputable def o215_0 (P : Params) : Obj := ⟨.none, none, .fields ⟨[]⟩, ⟨[]⟩⟩
noncomputable def o216_0 (P : Params) : Obj := ⟨.none, none, fnD (stA 44) 0 0 "commonpath" "commonpath" [] .none .none .none .none none .none .none, ⟨[]⟩⟩
noncomputable def o217_0 (P : Params) : Obj := ⟨.type "code", none, .fields ⟨[.str "commonpath" 2238, .str "commonpath" 2239, .str "/claim/cut.py" 2240, .int 244 0, .int 1 0, .int 0 0, .int 0 0, .int 3 0, .ref 214, .bool true, .int 276 0, .ref 215, .none, .none, .none, .ref 216, .int 2241 0, .int 244 0, .str "/claim/cut.py" 2242]⟩, ⟨[]⟩⟩
noncomputable def o218_0 (P : Params) : Obj := ⟨.type "function", none, fnD (stA 44) 3 0 "commonpath" "commonpath" [] .none .none .none (.str "cpy313.posixpath" 2218) none (.ref 217) .none, ⟨[]⟩⟩
noncomputable def o219_0 (P : Params) : Obj := ⟨.type "tuple", none, .seq ⟨[]⟩ 0, ⟨[]⟩⟩
noncomputable def o220_0 (P : Params) : Obj := ⟨.none, none, .fields ⟨[]⟩, ⟨[]⟩⟩
noncomputable def o221_0 (P : Params) : Obj := ⟨.type "tuple", none, .seq ⟨[.str "names" 2249, .str "row" 2250, .str "way" 2251, .str "kind" 2252]⟩ 0, ⟨[]⟩⟩
noncomputable def o222_0 (P : Params) : Obj := ⟨.type "tuple", none, .seq ⟨[]⟩ 0, ⟨[]⟩⟩
noncomputable def o223_0 (P : Params) : Obj := ⟨.none, none, fnD (stA 46) 0 0 "_law_way" "_law_way" [] .none .none .none .none none .none .none, ⟨[]⟩⟩
noncomputable def o224_0 (P : Params) : Obj := ⟨.type "code", none, .fields ⟨[.str "_law_way" 2246, .str "_law_way" 2247, .str "/claim/cut.py" 2248, .int 274 0, .int 2 0, .int 0 0, .int 0 0, .int 3 0, .ref 219, .bool true, .int 276 0, .ref 220, .none, .ref 221, .ref 222, .ref 223, .int 2253 0, .int 274 0, .str "/claim/cut.py" 2254]⟩, ⟨[]⟩⟩
noncomputable def o225_0 (P : Params) : Obj := ⟨.type "function", none, fnD (stA 46) 3 0 "_law_way" "_law_way" [] .none .none .none (.str "law_rt0089_01" 2244) none (.ref 224) .none, ⟨[]⟩⟩
noncomputable def o226_0 (P : Params) : Obj := ⟨.type "tuple", none, .seq ⟨[]⟩ 0, ⟨[]⟩⟩
noncomputable def o227_0 (P : Params) : Obj := ⟨.none, none, .fields ⟨[]⟩, ⟨[]⟩⟩
noncomputable def o228_0 (P : Params) : Obj := ⟨.type "tuple", none, .seq ⟨[.str "text" 2259, .str "way" 2260, .str "groups" 2261, .str "place" 2262, .str "group" 2263]⟩ 0, ⟨[]⟩⟩
noncomputable def o229_0 (P : Params) : Obj := ⟨.type "tuple", none, .seq ⟨[]⟩ 0, ⟨[]⟩⟩
noncomputable def o230_0 (P : Params) : Obj := ⟨.none, none, fnD (stA 47) 0 0 "_law_takes" "_law_takes" [] .none .none .none .none none .none .none, ⟨[]⟩⟩
noncomputable def o231_0 (P : Params) : Obj := ⟨.type "code", none, .fields ⟨[.str "_law_takes" 2256, .str "_law_takes" 2257, .str "/claim/cut.py" 2258, .int 279 0, .int 2 0, .int 0 0, .int 0 0, .int 3 0, .ref 226, .bool true, .int 276 0, .ref 227, .none, .ref 228, .ref 229, .ref 230, .int 2264 0, .int 279 0, .str "/claim/cut.py" 2265]⟩, ⟨[]⟩⟩
noncomputable def o232_0 (P : Params) : Obj := ⟨.type "function", none, fnD (stA 47) 3 0 "_law_takes" "_law_takes" [] .none .none .none (.str "law_rt0089_01" 2244) none (.ref 231) .none, ⟨[]⟩⟩
noncomputable def o233_0 (P : Params) : Obj := ⟨.type "tuple", none, .seq ⟨[]⟩ 0, ⟨[]⟩⟩
noncomputable def o234_0 (P : Params) : Obj := ⟨.none, none, .fields ⟨[]⟩, ⟨[]⟩⟩
noncomputable def o235_0 (P : Params) : Obj := ⟨.none, none, fnD (stA 48) 0 0 "_law_met" "_law_met" [] .none .none .none .none none .none .none, ⟨[]⟩⟩
noncomputable def o236_0 (P : Params) : Obj := ⟨.type "code", none, .fields ⟨[.str "_law_met" 2267, .str "_law_met" 2268, .str "/claim/cut.py" 2269, .int 292 0, .int 4 0, .int 0 0, .int 0 0, .int 3 0, .ref 233, .bool true, .int 276 0, .ref 234, .none, .none, .none, .ref 235, .int 2270 0, .int 292 0, .str "/claim/cut.py" 2271]⟩, ⟨[]⟩⟩
noncomputable def o237_0 (P : Params) : Obj := ⟨.type "function", none, fnD (stA 48) 3 0 "_law_met" "_law_met" [] .none .none .none (.str "law_rt0089_01" 2244) none (.ref 236) .none, ⟨[]⟩⟩
noncomputable def o238_0 (P : Params) : Obj := ⟨.type "tuple", none, .seq ⟨[]⟩ 0, ⟨[]⟩⟩
noncomputable def o239_0 (P : Params) : Obj := ⟨.none, none, .fields ⟨[]⟩, ⟨[]⟩⟩
noncomputable def o240_0 (P : Params) : Obj := ⟨.type "tuple", none, .seq ⟨[.str "names" 2276, .str "ways" 2277, .str "rows" 2278, .str "most" 2279, .str "answers" 2280, .str "kind" 2281, .str "some" 2282, .str "more" 2283, .str "asked" 2284, .str "text" 2285, .str "k" 2286]⟩ 0, ⟨[]⟩⟩
noncomputable def o241_0 (P : Params) : Obj := ⟨.type "tuple", none, .seq ⟨[]⟩ 0, ⟨[]⟩⟩
noncomputable def o242_0 (P : Params) : Obj := ⟨.none, none, fnD (stA 49) 0 0 "_law_answers" "_law_answers" [] .none .none .none .none none .none .none, ⟨[]⟩⟩
noncomputable def o243_0 (P : Params) : Obj := ⟨.type "code", none, .fields ⟨[.str "_law_answers" 2273, .str "_law_answers" 2274, .str "/claim/cut.py" 2275, .int 295 0, .int 3 0, .int 0 0, .int 0 0, .int 3 0, .ref 238, .bool true, .int 276 0, .ref 239, .none, .ref 240, .ref 241, .ref 242, .int 2287 0, .int 295 0, .str "/claim/cut.py" 2288]⟩, ⟨[]⟩⟩
noncomputable def o244_0 (P : Params) : Obj := ⟨.type "function", none, fnD (stA 49) 3 0 "_law_answers" "_law_answers" [] .none .none .none (.str "law_rt0089_01" 2244) none (.ref 243) .none, ⟨[]⟩⟩
noncomputable def o245_0 (P : Params) : Obj := ⟨.type "tuple", none, .seq ⟨[]⟩ 0, ⟨[]⟩⟩
noncomputable def o246_0 (P : Params) : Obj := ⟨.none, none, .fields ⟨[]⟩, ⟨[]⟩⟩
noncomputable def o247_0 (P : Params) : Obj := ⟨.none, none, fnD (stA 50) 0 0 "law" "law" [] .none .none .none .none none .none .none, ⟨[]⟩⟩
noncomputable def o248_0 (P : Params) : Obj := ⟨.type "code", none, .fields ⟨[.str "law" 2290, .str "law" 2291, .str "/claim/cut.py" 2292, .int 308 0, .int 1 0, .int 0 0, .int 0 0, .int 3 0, .ref 245, .bool true, .int 276 0, .ref 246, .none, .none, .none, .ref 247, .int 2293 0, .int 308 0, .str "/claim/cut.py" 2294]⟩, ⟨[]⟩⟩
noncomputable def o249_0 (P : Params) : Obj := ⟨.type "function", none, fnD (stA 50) 3 0 "law" "law" [] .none .none .none (.str "law_rt0089_01" 2244) none (.ref 248) .none, ⟨[]⟩⟩
noncomputable def tp50 (P : Params) : BT := (.node (o0_0 P) (.node (o1_0 P) (.node (o3_13 P) (.node (o7_0 P) (.node (o15_0 P) (.node (o31_0 P) (.node (o63_0 P) (.node (o127_0 P) .nil .nil) (.node (o191_0 P) .nil .nil)) (.node (o95_0 P) (.node (o159_0 P) .nil .nil) (.node (o223_0 P) .nil .nil))) (.node (o47_0 P) (.node (o79_0 P) (.node (o143_1 P) .nil .nil) (.node (o207_0 P) .nil .nil)) (.node (o111_0 P) (.node (o175_0 P) .nil .nil) (.node (o239_0 P) .nil .nil)))) (.node (o23_0 P) (.node (o39_0 P) (.node (o71_0 P) (.node (o135_0 P) .nil .nil) (.node (o199_0 P) .nil .nil)) (.node (o103_0 P) (.node (o167_0 P) .nil .nil) (.node (o231_0 P) .nil .nil))) (.node (o55_0 P) (.node (o87_0 P) (.node (o151_0 P) .nil .nil) (.node (o215_0 P) .nil .nil)) (.node (o119_0 P) (.node (o183_0 P) .nil .nil) (.node (o247_0 P) .nil .nil))))) (.node (o11_1 P) (.node (o19_0 P) (.node (o35_0 P) (.node (o67_0 P) (.node (o131_0 P) .nil .nil) (.node (o195_0 P) .nil .nil)) (.node (o99_0 P) (.node (o163_0 P) .nil .nil) (.node (o227_0 P) .nil .nil))) (.node (o51_0 P) (.node (o83_0 P) (.node (o147_0 P) .nil .nil) (.node (o211_0 P) .nil .nil)) (.node (o115_0 P) (.node (o179_0 P) .nil .nil) (.node (o243_0 P) .nil .nil)))) (.node (o27_0 P) (.node (o43_0 P) (.node (o75_0 P) (.node (o139_0 P) .nil .nil) (.node (o203_0 P) .nil .nil)) (.node (o107_0 P) (.node (o171_0 P) .nil .nil) (.node (o235_0 P) .nil .nil))) (.node (o59_0 P) (.node (o91_0 P) (.node (o155_0 P) .nil .nil) (.node (o219_0 P) .nil .nil)) (.node (o123_0 P) (.node (o187_0 P) .nil .nil) .nil))))) (.node (o5_0 P) (.node (o9_0 P) (.node (o17_0 P) (.node (o33_0 P) (.node (o65_0 P) (.node (o129_0 P) .nil .nil) (.node (o193_0 P) .nil .nil)) (.node (o97_0 P) (.node (o161_0 P) .nil .nil) (.node (o225_0 P) .nil .nil))) (.node (o49_0 P) (.node (o81_0 P) (.node (o145_0 P) .nil .nil) (.node (o209_0 P) .nil .nil)) (.node (o113_0 P) (.node (o177_0 P) .nil .nil) (.node (o241_0 P) .nil .nil)))) (.node (o25_0 P) (.node (o41_0 P) (.node (o73_0 P) (.node (o137_0 P) .nil .nil) (.node (o201_0 P) .nil .nil)) (.node (o105_0 P) (.node (o169_0 P) .nil .nil) (.node (o233_0 P) .nil .nil))) (.node (o57_0 P) (.node (o89_0 P) (.node (o153_0 P) .nil .nil) (.node (o217_0 P) .nil .nil)) (.node (o121_0 P) (.node (o185_0 P) .nil .nil) (.node (o249_0 P) .nil .nil))))) (.node (o13_0 P) (.node (o21_0 P) (.node (o37_0 P) (.node (o69_0 P) (.node (o133_0 P) .nil .nil) (.node (o197_0 P) .nil .nil)) (.node (o101_0 P) (.node (o165_0 P) .nil .nil) (.node (o229_0 P) .nil .nil))) (.node (o53_0 P) (.node (o85_0 P) (.node (o149_0 P) .nil .nil) (.node (o213_0 P) .nil .nil)) (.node (o117_0 P) (.node (o181_0 P) .nil .nil) (.node (o245_0 P) .nil .nil)))) (.node (o29_7 P) (.node (o45_0 P) (.node (o77_0 P) (.node (o141_0 P) .nil .nil) (.node (o205_0 P) .nil .nil)) (.node (o109_0 P) (.node (o173_0 P) .nil .nil) (.node (o237_0 P) .nil .nil))) (.node (o61_0 P) (.node (o93_0 P) (.node (o157_0 P) .nil .nil) (.node (o221_0 P) .nil .nil)) (.node (o125_0 P) (.node (o189_0 P) .nil .nil) .nil)))))) (.node (o2_0 P) (.node (o4_0 P) (.node (o8_0 P) (.node (o16_0 P) (.node (o32_0 P) (.node (o64_0 P) (.node (o128_0 P) .nil .nil) (.node (o192_0 P) .nil .nil)) (.node (o96_0 P) (.node (o160_0 P) .nil .nil) (.node (o224_0 P) .nil .nil))) (.node (o48_0 P) (.node (o80_0 P) (.node (o144_0 P) .nil .nil) (.node (o208_0 P) .nil .nil)) (.node (o112_0 P) (.node (o176_0 P) .nil .nil) (.node (o240_0 P) .nil .nil)))) (.node (o24_0 P) (.node (o40_0 P) (.node (o72_0 P) (.node (o136_0 P) .nil .nil) (.node (o200_0 P) .nil .nil)) (.node (o104_0 P) (.node (o168_0 P) .nil .nil) (.node (o232_0 P) .nil .nil))) (.node (o56_0 P) (.node (o88_0 P) (.node (o152_0 P) .nil .nil) (.node (o216_0 P) .nil .nil)) (.node (o120_0 P) (.node (o184_0 P) .nil .nil) (.node (o248_0 P) .nil .nil))))) (.node (o12_0 P) (.node (o20_0 P) (.node (o36_0 P) (.node (o68_0 P) (.node (o132_0 P) .nil .nil) (.node (o196_0 P) .nil .nil)) (.node (o100_0 P) (.node (o164_0 P) .nil .nil) (.node (o228_0 P) .nil .nil))) (.node (o52_0 P) (.node (o84_2 P) (.node (o148_0 P) .nil .nil) (.node (o212_0 P) .nil .nil)) (.node (o116_0 P) (.node (o180_0 P) .nil .nil) (.node (o244_0 P) .nil .nil)))) (.node (o28_0 P) (.node (o44_0 P) (.node (o76_0 P) (.node (o140_0 P) .nil .nil) (.node (o204_0 P) .nil .nil)) (.node (o108_1 P) (.node (o172_0 P) .nil .nil) (.node (o236_0 P) .nil .nil))) (.node (o60_0 P) (.node (o92_0 P) (.node (o156_0 P) .nil .nil) (.node (o220_0 P) .nil .nil)) (.node (o124_0 P) (.node (o188_0 P) .nil .nil) .nil))))) (.node (o6_0 P) (.node (o10_0 P) (.node (o18_0 P) (.node (o34_0 P) (.node (o66_0 P) (.node (o130_0 P) .nil .nil) (.node (o194_0 P) .nil .nil)) (.node (o98_0 P) (.node (o162_0 P) .nil .nil) (.node (o226_0 P) .nil .nil))) (.node (o50_0 P) (.node (o82_0 P) (.node (o146_0 P) .nil .nil) (.node (o210_0 P) .nil .nil)) (.node (o114_0 P) (.node (o178_0 P) .nil .nil) (.node (o242_0 P) .nil .nil)))) (.node (o26_0 P) (.node (o42_0 P) (.node (o74_0 P) (.node (o138_0 P) .nil .nil) (.node (o202_0 P) .nil .nil)) (.node (o106_0 P) (.node (o170_0 P) .nil .nil) (.node (o234_0 P) .nil .nil))) (.node (o58_0 P) (.node (o90_0 P) (.node (o154_0 P) .nil .nil) (.node (o218_0 P) .nil .nil)) (.node (o122_0 P) (.node (o186_0 P) .nil .nil) .nil)))) (.node (o14_0 P) (.node (o22_0 P) (.node (o38_0 P) (.node (o70_0 P) (.node (o134_0 P) .nil .nil) (.node (o198_0 P) .nil .nil)) (.node (o102_0 P) (.node (o166_0 P) .nil .nil) (.node (o230_0 P) .nil .nil))) (.node (o54_0 P) (.node (o86_1 P) (.node (o150_0 P) .nil .nil) (.node (o214_0 P) .nil .nil)) (.node (o118_0 P) (.node (o182_0 P) .nil .nil) (.node (o246_0 P) .nil .nil)))) (.node (o30_0 P) (.node (o46_0 P) (.node (o78_0 P) (.node (o142_0 P) .nil .nil) (.node (o206_0 P) .nil .nil)) (.node (o110_0 P) (.node (o174_0 P) .nil .nil) (.node (o238_0 P) .nil .nil))) (.node (o62_0 P) (.node (o94_0 P) (.node (o158_0 P) .nil .nil) (.node (o222_0 P) .nil .nil)) (.node (o126_0 P) (.node (o190_0 P) .nil .nil) .nil)))))))
noncomputable abbrev sp50 := st tp50 250 2296
noncomputable def o51_1 (P : Params) : Obj := ⟨.type "bytes_iterator", none, .fields ⟨[.bytes ⟨[40, 41, 91, 93, 123, 125, 63, 42, 43, 45, 124, 94, 36, 92, 46, 38, 126, 35, 32, 9, 10, 13, 11, 12]⟩ 340, .int 0 0]⟩, ⟨[]⟩⟩
noncomputable def o52_1 (P : Params) : Obj := ⟨.type "dict", none, .dict ⟨[]⟩ 0, ⟨[]⟩⟩
noncomputable def o53_1 (P : Params) : Obj := ⟨.type "dict", none, .dict ⟨[]⟩ 0, ⟨[]⟩⟩
noncomputable def tl5_0 (P : Params) : BT := (.node (o0_0 P) (.node (o1_0 P) (.node (o3_1 P) (.node (o7_0 P) (.node (o15_0 P) (.node (o31_0 P) .nil .nil) (.node (o47_0 P) .nil .nil)) (.node (o23_0 P) (.node (o39_0 P) .nil .nil) .nil)) (.node (o11_1 P) (.node (o19_0 P) (.node (o35_0 P) .nil .nil) (.node (o51_1 P) .nil .nil)) (.node (o27_0 P) (.node (o43_0 P) .nil .nil) .nil))) (.node (o5_0 P) (.node (o9_0 P) (.node (o17_0 P) (.node (o33_0 P) .nil .nil) (.node (o49_0 P) .nil .nil)) (.node (o25_0 P) (.node (o41_0 P) .nil .nil) .nil)) (.node (o13_0 P) (.node (o21_0 P) (.node (o37_0 P) .nil .nil) (.node (o53_1 P) .nil .nil)) (.node (o29_1 P) (.node (o45_0 P) .nil .nil) .nil)))) (.node (o2_0 P) (.node (o4_0 P) (.node (o8_0 P) (.node (o16_0 P) (.node (o32_0 P) .nil .nil) (.node (o48_0 P) .nil .nil)) (.node (o24_0 P) (.node (o40_0 P) .nil .nil) .nil)) (.node (o12_0 P) (.node (o20_0 P) (.node (o36_0 P) .nil .nil) (.node (o52_1 P) .nil .nil)) (.node (o28_0 P) (.node (o44_0 P) .nil .nil) .nil))) (.node (o6_0 P) (.node (o10_0 P) (.node (o18_0 P) (.node (o34_0 P) .nil .nil) (.node (o50_0 P) .nil .nil)) (.node (o26_0 P) (.node (o42_0 P) .nil .nil) .nil)) (.node (o14_0 P) (.node (o22_0 P) (.node (o38_0 P) .nil .nil) .nil) (.node (o30_0 P) (.node (o46_0 P) .nil .nil) .nil)))))
noncomputable abbrev sl5_0 := st tl5_0 54 341
noncomputable def o51_2 (P : Params) : Obj := ⟨.type "bytes_iterator", none, .fields ⟨[.bytes ⟨[40, 41, 91, 93, 123, 125, 63, 42, 43, 45, 124, 94, 36, 92, 46, 38, 126, 35, 32, 9, 10, 13, 11, 12]⟩ 340, .int 24 0]⟩, ⟨[]⟩⟩
noncomputable def o53_2 (P : Params) : Obj := ⟨.type "dict", none, .dict ⟨[e P "i" 342 (.int 12 479)]⟩ 1, ⟨[]⟩⟩
noncomputable def tl5_1 (P : Params) : BT := (.node (o0_0 P) (.node (o1_0 P) (.node (o3_1 P) (.node (o7_0 P) (.node (o15_0 P) (.node (o31_0 P) .nil .nil) (.node (o47_0 P) .nil .nil)) (.node (o23_0 P) (.node (o39_0 P) .nil .nil) .nil)) (.node (o11_1 P) (.node (o19_0 P) (.node (o35_0 P) .nil .nil) (.node (o51_2 P) .nil .nil)) (.node (o27_0 P) (.node (o43_0 P) .nil .nil) .nil))) (.node (o5_0 P) (.node (o9_0 P) (.node (o17_0 P) (.node (o33_0 P) .nil .nil) (.node (o49_0 P) .nil .nil)) (.node (o25_0 P) (.node (o41_0 P) .nil .nil) .nil)) (.node (o13_0 P) (.node (o21_0 P) (.node (o37_0 P) .nil .nil) (.node (o53_2 P) .nil .nil)) (.node (o29_1 P) (.node (o45_0 P) .nil .nil) .nil)))) (.node (o2_0 P) (.node (o4_0 P) (.node (o8_0 P) (.node (o16_0 P) (.node (o32_0 P) .nil .nil) (.node (o48_0 P) .nil .nil)) (.node (o24_0 P) (.node (o40_0 P) .nil .nil) .nil)) (.node (o12_0 P) (.node (o20_0 P) (.node (o36_0 P) .nil .nil) (.node (o52_0 P) .nil .nil)) (.node (o28_0 P) (.node (o44_0 P) .nil .nil) .nil))) (.node (o6_0 P) (.node (o10_0 P) (.node (o18_0 P) (.node (o34_0 P) .nil .nil) (.node (o50_0 P) .nil .nil)) (.node (o26_0 P) (.node (o42_0 P) .nil .nil) .nil)) (.node (o14_0 P) (.node (o22_0 P) (.node (o38_0 P) .nil .nil) .nil) (.node (o30_0 P) (.node (o46_0 P) .nil .nil) .nil)))))
noncomputable abbrev sl5_1 := st tl5_1 54 485
noncomputable def o78_1 (P : Params) : Obj := ⟨.type "range_iterator", none, .fields ⟨[.int 0 0, .int 256 0, .int 1 0]⟩, ⟨[]⟩⟩
noncomputable def o79_1 (P : Params) : Obj := ⟨.type "list", none, .seq ⟨[]⟩ 0, ⟨[]⟩⟩
noncomputable def o80_1 (P : Params) : Obj := ⟨.type "dict", none, .dict ⟨[]⟩ 0, ⟨[]⟩⟩
noncomputable def tl11_0 (P : Params) : BT := (.node (o0_0 P) (.node (o1_0 P) (.node (o3_3 P) (.node (o7_0 P) (.node (o15_0 P) (.node (o31_0 P) (.node (o63_0 P) .nil .nil) .nil) (.node (o47_0 P) (.node (o79_1 P) .nil .nil) .nil)) (.node (o23_0 P) (.node (o39_0 P) (.node (o71_0 P) .nil .nil) .nil) (.node (o55_0 P) .nil .nil))) (.node (o11_1 P) (.node (o19_0 P) (.node (o35_0 P) (.node (o67_0 P) .nil .nil) .nil) (.node (o51_0 P) .nil .nil)) (.node (o27_0 P) (.node (o43_0 P) (.node (o75_0 P) .nil .nil) .nil) (.node (o59_0 P) .nil .nil)))) (.node (o5_0 P) (.node (o9_0 P) (.node (o17_0 P) (.node (o33_0 P) (.node (o65_0 P) .nil .nil) .nil) (.node (o49_0 P) .nil .nil)) (.node (o25_0 P) (.node (o41_0 P) (.node (o73_0 P) .nil .nil) .nil) (.node (o57_0 P) .nil .nil))) (.node (o13_0 P) (.node (o21_0 P) (.node (o37_0 P) (.node (o69_0 P) .nil .nil) .nil) (.node (o53_0 P) .nil .nil)) (.node (o29_2 P) (.node (o45_0 P) (.node (o77_0 P) .nil .nil) .nil) (.node (o61_0 P) .nil .nil))))) (.node (o2_0 P) (.node (o4_0 P) (.node (o8_0 P) (.node (o16_0 P) (.node (o32_0 P) (.node (o64_0 P) .nil .nil) .nil) (.node (o48_0 P) (.node (o80_1 P) .nil .nil) .nil)) (.node (o24_0 P) (.node (o40_0 P) (.node (o72_0 P) .nil .nil) .nil) (.node (o56_0 P) .nil .nil))) (.node (o12_0 P) (.node (o20_0 P) (.node (o36_0 P) (.node (o68_0 P) .nil .nil) .nil) (.node (o52_0 P) .nil .nil)) (.node (o28_0 P) (.node (o44_0 P) (.node (o76_0 P) .nil .nil) .nil) (.node (o60_0 P) .nil .nil)))) (.node (o6_0 P) (.node (o10_0 P) (.node (o18_0 P) (.node (o34_0 P) (.node (o66_0 P) .nil .nil) .nil) (.node (o50_0 P) .nil .nil)) (.node (o26_0 P) (.node (o42_0 P) (.node (o74_0 P) .nil .nil) .nil) (.node (o58_0 P) .nil .nil))) (.node (o14_0 P) (.node (o22_0 P) (.node (o38_0 P) (.node (o70_0 P) .nil .nil) .nil) (.node (o54_0 P) .nil .nil)) (.node (o30_0 P) (.node (o46_0 P) (.node (o78_1 P) .nil .nil) .nil) (.node (o62_0 P) .nil .nil))))))
noncomputable abbrev sl11_0 := st tl11_0 81 532
noncomputable def o78_2 (P : Params) : Obj := ⟨.type "range_iterator", none, .fields ⟨[.int 32 0, .int 224 0, .int 1 0]⟩, ⟨[]⟩⟩
noncomputable def o79_2 (P : Params) : Obj := ⟨.type "list", none, .seq ⟨[.str "=00" 535, .str "=01" 539, .str "=02" 543, .str "=03" 547, .str "=04" 551, .str "=05" 555, .str "=06" 559, .str "=07" 563, .str "=08" 567, .str "=09" 571, .str "=0A" 575, .str "=0B" 579, .str "=0C" 583, .str "=0D" 587, .str "=0E" 591, .str "=0F" 595, .str "=10" 599, .str "=11" 603, .str "=12" 607, .str "=13" 611, .str "=14" 615, .str "=15" 619, .str "=16" 623, .str "=17" 627, .str "=18" 631, .str "=19" 635, .str "=1A" 639, .str "=1B" 643, .str "=1C" 647, .str "=1D" 651, .str "=1E" 655, .str "=1F" 659]⟩ 32, ⟨[]⟩⟩
noncomputable def o80_2 (P : Params) : Obj := ⟨.type "dict", none, .dict ⟨[e P "c" 533 (.int 31 656)]⟩ 1, ⟨[]⟩⟩
noncomputable def tl11_1 (P : Params) : BT := (.node (o0_0 P) (.node (o1_0 P) (.node (o3_3 P) (.node (o7_0 P) (.node (o15_0 P) (.node (o31_0 P) (.node (o63_0 P) .nil .nil) .nil) (.node (o47_0 P) (.node (o79_2 P) .nil .nil) .nil)) (.node (o23_0 P) (.node (o39_0 P) (.node (o71_0 P) .nil .nil) .nil) (.node (o55_0 P) .nil .nil))) (.node (o11_1 P) (.node (o19_0 P) (.node (o35_0 P) (.node (o67_0 P) .nil .nil) .nil) (.node (o51_0 P) .nil .nil)) (.node (o27_0 P) (.node (o43_0 P) (.node (o75_0 P) .nil .nil) .nil) (.node (o59_0 P) .nil .nil)))) (.node (o5_0 P) (.node (o9_0 P) (.node (o17_0 P) (.node (o33_0 P) (.node (o65_0 P) .nil .nil) .nil) (.node (o49_0 P) .nil .nil)) (.node (o25_0 P) (.node (o41_0 P) (.node (o73_0 P) .nil .nil) .nil) (.node (o57_0 P) .nil .nil))) (.node (o13_0 P) (.node (o21_0 P) (.node (o37_0 P) (.node (o69_0 P) .nil .nil) .nil) (.node (o53_0 P) .nil .nil)) (.node (o29_2 P) (.node (o45_0 P) (.node (o77_0 P) .nil .nil) .nil) (.node (o61_0 P) .nil .nil))))) (.node (o2_0 P) (.node (o4_0 P) (.node (o8_0 P) (.node (o16_0 P) (.node (o32_0 P) (.node (o64_0 P) .nil .nil) .nil) (.node (o48_0 P) (.node (o80_2 P) .nil .nil) .nil)) (.node (o24_0 P) (.node (o40_0 P) (.node (o72_0 P) .nil .nil) .nil) (.node (o56_0 P) .nil .nil))) (.node (o12_0 P) (.node (o20_0 P) (.node (o36_0 P) (.node (o68_0 P) .nil .nil) .nil) (.node (o52_0 P) .nil .nil)) (.node (o28_0 P) (.node (o44_0 P) (.node (o76_0 P) .nil .nil) .nil) (.node (o60_0 P) .nil .nil)))) (.node (o6_0 P) (.node (o10_0 P) (.node (o18_0 P) (.node (o34_0 P) (.node (o66_0 P) .nil .nil) .nil) (.node (o50_0 P) .nil .nil)) (.node (o26_0 P) (.node (o42_0 P) (.node (o74_0 P) .nil .nil) .nil) (.node (o58_0 P) .nil .nil))) (.node (o14_0 P) (.node (o22_0 P) (.node (o38_0 P) (.node (o70_0 P) .nil .nil) .nil) (.node (o54_0 P) .nil .nil)) (.node (o30_0 P) (.node (o46_0 P) (.node (o78_2 P) .nil .nil) .nil) (.node (o62_0 P) .nil .nil))))))
noncomputable abbrev sl11_1 := st tl11_1 81 660
noncomputable def o78_3 (P : Params) : Obj := ⟨.type "range_iterator", none, .fields ⟨[.int 64 0, .int 192 0, .int 1 0]⟩, ⟨[]⟩⟩
noncomputable def o79_3 (P : Params) : Obj := ⟨.type "list", none, .seq ⟨g29 ++ (g30)⟩ 64, ⟨[]⟩⟩
noncomputable def o80_3 (P : Params) : Obj := ⟨.type "dict", none, .dict ⟨[e P "c" 533 (.int 63 784)]⟩ 1, ⟨[]⟩⟩
noncomputable def tl11_2 (P : Params) : BT := (.node (o0_0 P) (.node (o1_0 P) (.node (o3_3 P) (.node (o7_0 P) (.node (o15_0 P) (.node (o31_0 P) (.node (o63_0 P) .nil .nil) .nil) (.node (o47_0 P) (.node (o79_3 P) .nil .nil) .nil)) (.node (o23_0 P) (.node (o39_0 P) (.node (o71_0 P) .nil .nil) .nil) (.node (o55_0 P) .nil .nil))) (.node (o11_1 P) (.node (o19_0 P) (.node (o35_0 P) (.node (o67_0 P) .nil .nil) .nil) (.node (o51_0 P) .nil .nil)) (.node (o27_0 P) (.node (o43_0 P) (.node (o75_0 P) .nil .nil) .nil) (.node (o59_0 P) .nil .nil)))) (.node (o5_0 P) (.node (o9_0 P) (.node (o17_0 P) (.node (o33_0 P) (.node (o65_0 P) .nil .nil) .nil) (.node (o49_0 P) .nil .nil)) (.node (o25_0 P) (.node (o41_0 P) (.node (o73_0 P) .nil .nil) .nil) (.node (o57_0 P) .nil .nil))) (.node (o13_0 P) (.node (o21_0 P) (.node (o37_0 P) (.node (o69_0 P) .nil .nil) .nil) (.node (o53_0 P) .nil .nil)) (.node (o29_2 P) (.node (o45_0 P) (.node (o77_0 P) .nil .nil) .nil) (.node (o61_0 P) .nil .nil))))) (.node (o2_0 P) (.node (o4_0 P) (.node (o8_0 P) (.node (o16_0 P) (.node (o32_0 P) (.node (o64_0 P) .nil .nil) .nil) (.node (o48_0 P) (.node (o80_3 P) .nil .nil) .nil)) (.node (o24_0 P) (.node (o40_0 P) (.node (o72_0 P) .nil .nil) .nil) (.node (o56_0 P) .nil .nil))) (.node (o12_0 P) (.node (o20_0 P) (.node (o36_0 P) (.node (o68_0 P) .nil .nil) .nil) (.node (o52_0 P) .nil .nil)) (.node (o28_0 P) (.node (o44_0 P) (.node (o76_0 P) .nil .nil) .nil) (.node (o60_0 P) .nil .nil)))) (.node (o6_0 P) (.node (o10_0 P) (.node (o18_0 P) (.node (o34_0 P) (.node (o66_0 P) .nil .nil) .nil) (.node (o50_0 P) .nil .nil)) (.node (o26_0 P) (.node (o42_0 P) (.node (o74_0 P) .nil .nil) .nil) (.node (o58_0 P) .nil .nil))) (.node (o14_0 P) (.node (o22_0 P) (.node (o38_0 P) (.node (o70_0 P) .nil .nil) .nil) (.node (o54_0 P) .nil .nil)) (.node (o30_0 P) (.node (o46_0 P) (.node (o78_3 P) .nil .nil) .nil) (.node (o62_0 P) .nil .nil))))))
noncomputable abbrev sl11_2 := st tl11_2 81 788
noncomputable def o78_4 (P : Params) : Obj := ⟨.type "range_iterator", none, .fields ⟨[.int 96 0, .int 160 0, .int 1 0]⟩, ⟨[]⟩⟩
noncomputable def o79_4 (P : Params) : Obj := ⟨.type "list", none, .seq ⟨g29 ++ (g30 ++ (g31))⟩ 96, ⟨[]⟩⟩
noncomputable def o80_4 (P : Params) : Obj := ⟨.type "dict", none, .dict ⟨[e P "c" 533 (.int 95 912)]⟩ 1, ⟨[]⟩⟩
noncomputable def tl11_3 (P : Params) : BT := (.node (o0_0 P) (.node (o1_0 P) (.node (o3_3 P) (.node (o7_0 P) (.node (o15_0 P) (.node (o31_0 P) (.node (o63_0 P) .nil .nil) .nil) (.node (o47_0 P) (.node (o79_4 P) .nil .nil) .nil)) (.node (o23_0 P) (.node (o39_0 P) (.node (o71_0 P) .nil .nil) .nil) (.node (o55_0 P) .nil .nil))) (.node (o11_1 P) (.node (o19_0 P) (.node (o35_0 P) (.node (o67_0 P) .nil .nil) .nil) (.node (o51_0 P) .nil .nil)) (.node (o27_0 P) (.node (o43_0 P) (.node (o75_0 P) .nil .nil) .nil) (.node (o59_0 P) .nil .nil)))) (.node (o5_0 P) (.node (o9_0 P) (.node (o17_0 P) (.node (o33_0 P) (.node (o65_0 P) .nil .nil) .nil) (.node (o49_0 P) .nil .nil)) (.node (o25_0 P) (.node (o41_0 P) (.node (o73_0 P) .nil .nil) .nil) (.node (o57_0 P) .nil .nil))) (.node (o13_0 P) (.node (o21_0 P) (.node (o37_0 P) (.node (o69_0 P) .nil .nil) .nil) (.node (o53_0 P) .nil .nil)) (.node (o29_2 P) (.node (o45_0 P) (.node (o77_0 P) .nil .nil) .nil) (.node (o61_0 P) .nil .nil))))) (.node (o2_0 P) (.node (o4_0 P) (.node (o8_0 P) (.node (o16_0 P) (.node (o32_0 P) (.node (o64_0 P) .nil .nil) .nil) (.node (o48_0 P) (.node (o80_4 P) .nil .nil) .nil)) (.node (o24_0 P) (.node (o40_0 P) (.node (o72_0 P) .nil .nil) .nil) (.node (o56_0 P) .nil .nil))) (.node (o12_0 P) (.node (o20_0 P) (.node (o36_0 P) (.node (o68_0 P) .nil .nil) .nil) (.node (o52_0 P) .nil .nil)) (.node (o28_0 P) (.node (o44_0 P) (.node (o76_0 P) .nil .nil) .nil) (.node (o60_0 P) .nil .nil)))) (.node (o6_0 P) (.node (o10_0 P) (.node (o18_0 P) (.node (o34_0 P) (.node (o66_0 P) .nil .nil) .nil) (.node (o50_0 P) .nil .nil)) (.node (o26_0 P) (.node (o42_0 P) (.node (o74_0 P) .nil .nil) .nil) (.node (o58_0 P) .nil .nil))) (.node (o14_0 P) (.node (o22_0 P) (.node (o38_0 P) (.node (o70_0 P) .nil .nil) .nil) (.node (o54_0 P) .nil .nil)) (.node (o30_0 P) (.node (o46_0 P) (.node (o78_4 P) .nil .nil) .nil) (.node (o62_0 P) .nil .nil))))))
noncomputable abbrev sl11_3 := st tl11_3 81 916
noncomputable def o78_5 (P : Params) : Obj := ⟨.type "range_iterator", none, .fields ⟨[.int 128 0, .int 128 0, .int 1 0]⟩, ⟨[]⟩⟩
noncomputable def o79_5 (P : Params) : Obj := ⟨.type "list", none, .seq ⟨g29 ++ (g30 ++ (g31 ++ (g32)))⟩ 128, ⟨[]⟩⟩
noncomputable def o80_5 (P : Params) : Obj := ⟨.type "dict", none, .dict ⟨[e P "c" 533 (.int 127 1040)]⟩ 1, ⟨[]⟩⟩
noncomputable def tl11_4 (P : Params) : BT := (.node (o0_0 P) (.node (o1_0 P) (.node (o3_3 P) (.node (o7_0 P) (.node (o15_0 P) (.node (o31_0 P) (.node (o63_0 P) .nil .nil) .nil) (.node (o47_0 P) (.node (o79_5 P) .nil .nil) .nil)) (.node (o23_0 P) (.node (o39_0 P) (.node (o71_0 P) .nil .nil) .nil) (.node (o55_0 P) .nil .nil))) (.node (o11_1 P) (.node (o19_0 P) (.node (o35_0 P) (.node (o67_0 P) .nil .nil) .nil) (.node (o51_0 P) .nil .nil)) (.node (o27_0 P) (.node (o43_0 P) (.node (o75_0 P) .nil .nil) .nil) (.node (o59_0 P) .nil .nil)))) (.node (o5_0 P) (.node (o9_0 P) (.node (o17_0 P) (.node (o33_0 P) (.node (o65_0 P) .nil .nil) .nil) (.node (o49_0 P) .nil .nil)) (.node (o25_0 P) (.node (o41_0 P) (.node (o73_0 P) .nil .nil) .nil) (.node (o57_0 P) .nil .nil))) (.node (o13_0 P) (.node (o21_0 P) (.node (o37_0 P) (.node (o69_0 P) .nil .nil) .nil) (.node (o53_0 P) .nil .nil)) (.node (o29_2 P) (.node (o45_0 P) (.node (o77_0 P) .nil .nil) .nil) (.node (o61_0 P) .nil .nil))))) (.node (o2_0 P) (.node (o4_0 P) (.node (o8_0 P) (.node (o16_0 P) (.node (o32_0 P) (.node (o64_0 P) .nil .nil) .nil) (.node (o48_0 P) (.node (o80_5 P) .nil .nil) .nil)) (.node (o24_0 P) (.node (o40_0 P) (.node (o72_0 P) .nil .nil) .nil) (.node (o56_0 P) .nil .nil))) (.node (o12_0 P) (.node (o20_0 P) (.node (o36_0 P) (.node (o68_0 P) .nil .nil) .nil) (.node (o52_0 P) .nil .nil)) (.node (o28_0 P) (.node (o44_0 P) (.node (o76_0 P) .nil .nil) .nil) (.node (o60_0 P) .nil .nil)))) (.node (o6_0 P) (.node (o10_0 P) (.node (o18_0 P) (.node (o34_0 P) (.node (o66_0 P) .nil .nil) .nil) (.node (o50_0 P) .nil .nil)) (.node (o26_0 P) (.node (o42_0 P) (.node (o74_0 P) .nil .nil) .nil) (.node (o58_0 P) .nil .nil))) (.node (o14_0 P) (.node (o22_0 P) (.node (o38_0 P) (.node (o70_0 P) .nil .nil) .nil) (.node (o54_0 P) .nil .nil)) (.node (o30_0 P) (.node (o46_0 P) (.node (o78_5 P) .nil .nil) .nil) (.node (o62_0 P) .nil .nil))))))
noncomputable abbrev sl11_4 := st tl11_4 81 1044
noncomputable def o78_6 (P : Params) : Obj := ⟨.type "range_iterator", none, .fields ⟨[.int 160 0, .int 96 0, .int 1 0]⟩, ⟨[]⟩⟩
noncomputable def o79_6 (P : Params) : Obj := ⟨.type "list", none, .seq ⟨g29 ++ (g30 ++ (g31 ++ (g32 ++ (g33))))⟩ 160, ⟨[]⟩⟩
noncomputable def o80_6 (P : Params) : Obj := ⟨.type "dict", none, .dict ⟨[e P "c" 533 (.int 159 1168)]⟩ 1, ⟨[]⟩⟩
noncomputable def tl11_5 (P : Params) : BT := (.node (o0_0 P) (.node (o1_0 P) (.node (o3_3 P) (.node (o7_0 P) (.node (o15_0 P) (.node (o31_0 P) (.node (o63_0 P) .nil .nil) .nil) (.node (o47_0 P) (.node (o79_6 P) .nil .nil) .nil)) (.node (o23_0 P) (.node (o39_0 P) (.node (o71_0 P) .nil .nil) .nil) (.node (o55_0 P) .nil .nil))) (.node (o11_1 P) (.node (o19_0 P) (.node (o35_0 P) (.node (o67_0 P) .nil .nil) .nil) (.node (o51_0 P) .nil .nil)) (.node (o27_0 P) (.node (o43_0 P) (.node (o75_0 P) .nil .nil) .nil) (.node (o59_0 P) .nil .nil)))) (.node (o5_0 P) (.node (o9_0 P) (.node (o17_0 P) (.node (o33_0 P) (.node (o65_0 P) .nil .nil) .nil) (.node (o49_0 P) .nil .nil)) (.node (o25_0 P) (.node (o41_0 P) (.node (o73_0 P) .nil .nil) .nil) (.node (o57_0 P) .nil .nil))) (.node (o13_0 P) (.node (o21_0 P) (.node (o37_0 P) (.node (o69_0 P) .nil .nil) .nil) (.node (o53_0 P) .nil .nil)) (.node (o29_2 P) (.node (o45_0 P) (.node (o77_0 P) .nil .nil) .nil) (.node (o61_0 P) .nil .nil))))) (.node (o2_0 P) (.node (o4_0 P) (.node (o8_0 P) (.node (o16_0 P) (.node (o32_0 P) (.node (o64_0 P) .nil .nil) .nil) (.node (o48_0 P) (.node (o80_6 P) .nil .nil) .nil)) (.node (o24_0 P) (.node (o40_0 P) (.node (o72_0 P) .nil .nil) .nil) (.node (o56_0 P) .nil .nil))) (.node (o12_0 P) (.node (o20_0 P) (.node (o36_0 P) (.node (o68_0 P) .nil .nil) .nil) (.node (o52_0 P) .nil .nil)) (.node (o28_0 P) (.node (o44_0 P) (.node (o76_0 P) .nil .nil) .nil) (.node (o60_0 P) .nil .nil)))) (.node (o6_0 P) (.node (o10_0 P) (.node (o18_0 P) (.node (o34_0 P) (.node (o66_0 P) .nil .nil) .nil) (.node (o50_0 P) .nil .nil)) (.node (o26_0 P) (.node (o42_0 P) (.node (o74_0 P) .nil .nil) .nil) (.node (o58_0 P) .nil .nil))) (.node (o14_0 P) (.node (o22_0 P) (.node (o38_0 P) (.node (o70_0 P) .nil .nil) .nil) (.node (o54_0 P) .nil .nil)) (.node (o30_0 P) (.node (o46_0 P) (.node (o78_6 P) .nil .nil) .nil) (.node (o62_0 P) .nil .nil))))))
noncomputable abbrev sl11_5 := st tl11_5 81 1172
noncomputable def o78_7 (P : Params) : Obj := ⟨.type "range_iterator", none, .fields ⟨[.int 192 0, .int 64 0, .int 1 0]⟩, ⟨[]⟩⟩
noncomputable def o79_7 (P : Params) : Obj := ⟨.type "list", none, .seq ⟨g29 ++ (g30 ++ (g31 ++ (g32 ++ (g33 ++ (g34)))))⟩ 192, ⟨[]⟩⟩
noncomputable def o80_7 (P : Params) : Obj := ⟨.type "dict", none, .dict ⟨[e P "c" 533 (.int 191 1296)]⟩ 1, ⟨[]⟩⟩
noncomputable def tl11_6 (P : Params) : BT := (.node (o0_0 P) (.node (o1_0 P) (.node (o3_3 P) (.node (o7_0 P) (.node (o15_0 P) (.node (o31_0 P) (.node (o63_0 P) .nil .nil) .nil) (.node (o47_0 P) (.node (o79_7 P) .nil .nil) .nil)) (.node (o23_0 P) (.node (o39_0 P) (.node (o71_0 P) .nil .nil) .nil) (.node (o55_0 P) .nil .nil))) (.node (o11_1 P) (.node (o19_0 P) (.node (o35_0 P) (.node (o67_0 P) .nil .nil) .nil) (.node (o51_0 P) .nil .nil)) (.node (o27_0 P) (.node (o43_0 P) (.node (o75_0 P) .nil .nil) .nil) (.node (o59_0 P) .nil .nil)))) (.node (o5_0 P) (.node (o9_0 P) (.node (o17_0 P) (.node (o33_0 P) (.node (o65_0 P) .nil .nil) .nil) (.node (o49_0 P) .nil .nil)) (.node (o25_0 P) (.node (o41_0 P) (.node (o73_0 P) .nil .nil) .nil) (.node (o57_0 P) .nil .nil))) (.node (o13_0 P) (.node (o21_0 P) (.node (o37_0 P) (.node (o69_0 P) .nil .nil) .nil) (.node (o53_0 P) .nil .nil)) (.node (o29_2 P) (.node (o45_0 P) (.node (o77_0 P) .nil .nil) .nil) (.node (o61_0 P) .nil .nil))))) (.node (o2_0 P) (.node (o4_0 P) (.node (o8_0 P) (.node (o16_0 P) (.node (o32_0 P) (.node (o64_0 P) .nil .nil) .nil) (.node (o48_0 P) (.node (o80_7 P) .nil .nil) .nil)) (.node (o24_0 P) (.node (o40_0 P) (.node (o72_0 P) .nil .nil) .nil) (.node (o56_0 P) .nil .nil))) (.node (o12_0 P) (.node (o20_0 P) (.node (o36_0 P) (.node (o68_0 P) .nil .nil) .nil) (.node (o52_0 P) .nil .nil)) (.node (o28_0 P) (.node (o44_0 P) (.node (o76_0 P) .nil .nil) .nil) (.node (o60_0 P) .nil .nil)))) (.node (o6_0 P) (.node (o10_0 P) (.node (o18_0 P) (.node (o34_0 P) (.node (o66_0 P) .nil .nil) .nil) (.node (o50_0 P) .nil .nil)) (.node (o26_0 P) (.node (o42_0 P) (.node (o74_0 P) .nil .nil) .nil) (.node (o58_0 P) .nil .nil))) (.node (o14_0 P) (.node (o22_0 P) (.node (o38_0 P) (.node (o70_0 P) .nil .nil) .nil) (.node (o54_0 P) .nil .nil)) (.node (o30_0 P) (.node (o46_0 P) (.node (o78_7 P) .nil .nil) .nil) (.node (o62_0 P) .nil .nil))))))
noncomputable abbrev sl11_6 := st tl11_6 81 1300
noncomputable def o78_8 (P : Params) : Obj := ⟨.type "range_iterator", none, .fields ⟨[.int 224 0, .int 32 0, .int 1 0]⟩, ⟨[]⟩⟩
noncomputable def o79_8 (P : Params) : Obj := ⟨.type "list", none, .seq ⟨g29 ++ (g30 ++ (g31 ++ (g32 ++ (g33 ++ (g34 ++ (g35))))))⟩ 224, ⟨[]⟩⟩
noncomputable def o80_8 (P : Params) : Obj := ⟨.type "dict", none, .dict ⟨[e P "c" 533 (.int 223 1424)]⟩ 1, ⟨[]⟩⟩
noncomputable def tl11_7 (P : Params) : BT := (.node (o0_0 P) (.node (o1_0 P) (.node (o3_3 P) (.node (o7_0 P) (.node (o15_0 P) (.node (o31_0 P) (.node (o63_0 P) .nil .nil) .nil) (.node (o47_0 P) (.node (o79_8 P) .nil .nil) .nil)) (.node (o23_0 P) (.node (o39_0 P) (.node (o71_0 P) .nil .nil) .nil) (.node (o55_0 P) .nil .nil))) (.node (o11_1 P) (.node (o19_0 P) (.node (o35_0 P) (.node (o67_0 P) .nil .nil) .nil) (.node (o51_0 P) .nil .nil)) (.node (o27_0 P) (.node (o43_0 P) (.node (o75_0 P) .nil .nil) .nil) (.node (o59_0 P) .nil .nil)))) (.node (o5_0 P) (.node (o9_0 P) (.node (o17_0 P) (.node (o33_0 P) (.node (o65_0 P) .nil .nil) .nil) (.node (o49_0 P) .nil .nil)) (.node (o25_0 P) (.node (o41_0 P) (.node (o73_0 P) .nil .nil) .nil) (.node (o57_0 P) .nil .nil))) (.node (o13_0 P) (.node (o21_0 P) (.node (o37_0 P) (.node (o69_0 P) .nil .nil) .nil) (.node (o53_0 P) .nil .nil)) (.node (o29_2 P) (.node (o45_0 P) (.node (o77_0 P) .nil .nil) .nil) (.node (o61_0 P) .nil .nil))))) (.node (o2_0 P) (.node (o4_0 P) (.node (o8_0 P) (.node (o16_0 P) (.node (o32_0 P) (.node (o64_0 P) .nil .nil) .nil) (.node (o48_0 P) (.node (o80_8 P) .nil .nil) .nil)) (.node (o24_0 P) (.node (o40_0 P) (.node (o72_0 P) .nil .nil) .nil) (.node (o56_0 P) .nil .nil))) (.node (o12_0 P) (.node (o20_0 P) (.node (o36_0 P) (.node (o68_0 P) .nil .nil) .nil) (.node (o52_0 P) .nil .nil)) (.node (o28_0 P) (.node (o44_0 P) (.node (o76_0 P) .nil .nil) .nil) (.node (o60_0 P) .nil .nil)))) (.node (o6_0 P) (.node (o10_0 P) (.node (o18_0 P) (.node (o34_0 P) (.node (o66_0 P) .nil .nil) .nil) (.node (o50_0 P) .nil .nil)) (.node (o26_0 P) (.node (o42_0 P) (.node (o74_0 P) .nil .nil) .nil) (.node (o58_0 P) .nil .nil))) (.node (o14_0 P) (.node (o22_0 P) (.node (o38_0 P) (.node (o70_0 P) .nil .nil) .nil) (.node (o54_0 P) .nil .nil)) (.node (o30_0 P) (.node (o46_0 P) (.node (o78_8 P) .nil .nil) .nil) (.node (o62_0 P) .nil .nil))))))
noncomputable abbrev sl11_7 := st tl11_7 81 1428
noncomputable def o80_9 (P : Params) : Obj := ⟨.type "dict", none, .dict ⟨[e P "c" 533 (.int 255 1552)]⟩ 1, ⟨[]⟩⟩
noncomputable def tl11_8 (P : Params) : BT := (.node (o0_0 P) (.node (o1_0 P) (.node (o3_3 P) (.node (o7_0 P) (.node (o15_0 P) (.node (o31_0 P) (.node (o63_0 P) .nil .nil) .nil) (.node (o47_0 P) (.node (o79_0 P) .nil .nil) .nil)) (.node (o23_0 P) (.node (o39_0 P) (.node (o71_0 P) .nil .nil) .nil) (.node (o55_0 P) .nil .nil))) (.node (o11_1 P) (.node (o19_0 P) (.node (o35_0 P) (.node (o67_0 P) .nil .nil) .nil) (.node (o51_0 P) .nil .nil)) (.node (o27_0 P) (.node (o43_0 P) (.node (o75_0 P) .nil .nil) .nil) (.node (o59_0 P) .nil .nil)))) (.node (o5_0 P) (.node (o9_0 P) (.node (o17_0 P) (.node (o33_0 P) (.node (o65_0 P) .nil .nil) .nil) (.node (o49_0 P) .nil .nil)) (.node (o25_0 P) (.node (o41_0 P) (.node (o73_0 P) .nil .nil) .nil) (.node (o57_0 P) .nil .nil))) (.node (o13_0 P) (.node (o21_0 P) (.node (o37_0 P) (.node (o69_0 P) .nil .nil) .nil) (.node (o53_0 P) .nil .nil)) (.node (o29_2 P) (.node (o45_0 P) (.node (o77_0 P) .nil .nil) .nil) (.node (o61_0 P) .nil .nil))))) (.node (o2_0 P) (.node (o4_0 P) (.node (o8_0 P) (.node (o16_0 P) (.node (o32_0 P) (.node (o64_0 P) .nil .nil) .nil) (.node (o48_0 P) (.node (o80_9 P) .nil .nil) .nil)) (.node (o24_0 P) (.node (o40_0 P) (.node (o72_0 P) .nil .nil) .nil) (.node (o56_0 P) .nil .nil))) (.node (o12_0 P) (.node (o20_0 P) (.node (o36_0 P) (.node (o68_0 P) .nil .nil) .nil) (.node (o52_0 P) .nil .nil)) (.node (o28_0 P) (.node (o44_0 P) (.node (o76_0 P) .nil .nil) .nil) (.node (o60_0 P) .nil .nil)))) (.node (o6_0 P) (.node (o10_0 P) (.node (o18_0 P) (.node (o34_0 P) (.node (o66_0 P) .nil .nil) .nil) (.node (o50_0 P) .nil .nil)) (.node (o26_0 P) (.node (o42_0 P) (.node (o74_0 P) .nil .nil) .nil) (.node (o58_0 P) .nil .nil))) (.node (o14_0 P) (.node (o22_0 P) (.node (o38_0 P) (.node (o70_0 P) .nil .nil) .nil) (.node (o54_0 P) .nil .nil)) (.node (o30_0 P) (.node (o46_0 P) (.node (o78_0 P) .nil .nil) .nil) (.node (o62_0 P) .nil .nil))))))
noncomputable abbrev sl11_8 := st tl11_8 81 1556
noncomputable def o87_1 (P : Params) : Obj := ⟨.type "bytes_iterator", none, .fields ⟨[.bytes ⟨[45, 33, 42, 43, 47, 97, 98, 99, 100, 101, 102, 103, 104, 105, 106, 107, 108, 109, 110, 111, 112, 113, 114, 115, 116, 117, 118, 119, 120, 121, 122, 65, 66, 67, 68, 69, 70, 71, 72, 73, 74, 75, 76, 77, 78, 79, 80, 81, 82, 83, 84, 85, 86, 87, 88, 89, 90, 48, 49, 50, 51, 52, 53, 54, 55, 56, 57]⟩ 1580, .int 0 0]⟩, ⟨[]⟩⟩
noncomputable def tl20_0 (P : Params) : BT := (.node (o0_0 P) (.node (o1_0 P) (.node (o3_5 P) (.node (o7_0 P) (.node (o15_0 P) (.node (o31_0 P) (.node (o63_0 P) .nil .nil) .nil) (.node (o47_0 P) (.node (o79_0 P) .nil .nil) .nil)) (.node (o23_0 P) (.node (o39_0 P) (.node (o71_0 P) .nil .nil) .nil) (.node (o55_0 P) (.node (o87_1 P) .nil .nil) .nil))) (.node (o11_1 P) (.node (o19_0 P) (.node (o35_0 P) (.node (o67_0 P) .nil .nil) .nil) (.node (o51_0 P) (.node (o83_0 P) .nil .nil) .nil)) (.node (o27_0 P) (.node (o43_0 P) (.node (o75_0 P) .nil .nil) .nil) (.node (o59_0 P) .nil .nil)))) (.node (o5_0 P) (.node (o9_0 P) (.node (o17_0 P) (.node (o33_0 P) (.node (o65_0 P) .nil .nil) .nil) (.node (o49_0 P) (.node (o81_0 P) .nil .nil) .nil)) (.node (o25_0 P) (.node (o41_0 P) (.node (o73_0 P) .nil .nil) .nil) (.node (o57_0 P) .nil .nil))) (.node (o13_0 P) (.node (o21_0 P) (.node (o37_0 P) (.node (o69_0 P) .nil .nil) .nil) (.node (o53_0 P) (.node (o85_0 P) .nil .nil) .nil)) (.node (o29_2 P) (.node (o45_0 P) (.node (o77_0 P) .nil .nil) .nil) (.node (o61_0 P) .nil .nil))))) (.node (o2_0 P) (.node (o4_0 P) (.node (o8_0 P) (.node (o16_0 P) (.node (o32_0 P) (.node (o64_0 P) .nil .nil) .nil) (.node (o48_0 P) (.node (o80_0 P) .nil .nil) .nil)) (.node (o24_0 P) (.node (o40_0 P) (.node (o72_0 P) .nil .nil) .nil) (.node (o56_0 P) .nil .nil))) (.node (o12_0 P) (.node (o20_0 P) (.node (o36_0 P) (.node (o68_0 P) .nil .nil) .nil) (.node (o52_0 P) (.node (o84_0 P) .nil .nil) .nil)) (.node (o28_0 P) (.node (o44_0 P) (.node (o76_0 P) .nil .nil) .nil) (.node (o60_0 P) .nil .nil)))) (.node (o6_0 P) (.node (o10_0 P) (.node (o18_0 P) (.node (o34_0 P) (.node (o66_0 P) .nil .nil) .nil) (.node (o50_0 P) (.node (o82_0 P) .nil .nil) .nil)) (.node (o26_0 P) (.node (o42_0 P) (.node (o74_0 P) .nil .nil) .nil) (.node (o58_0 P) .nil .nil))) (.node (o14_0 P) (.node (o22_0 P) (.node (o38_0 P) (.node (o70_0 P) .nil .nil) .nil) (.node (o54_0 P) (.node (o86_0 P) .nil .nil) .nil)) (.node (o30_0 P) (.node (o46_0 P) (.node (o78_0 P) .nil .nil) .nil) (.node (o62_0 P) .nil .nil))))))
noncomputable abbrev sl20_0 := st tl20_0 88 1581
noncomputable def g65 (P : Params) : List DictEntry := [e P "digits" 1566 (.str "0123456789" 1565), e P "hexdigits" 1571 (.str "0123456789abcdefABCDEF" 1570), e P "c" 1582 (.int 114 1647)]
noncomputable def o3_14 (P : Params) : Obj := ⟨.type "dict", none, .dict ⟨g37 P ++ (g38 P ++ (g65 P))⟩ 27, ⟨[]⟩⟩
noncomputable def g66 : List Value := [.str "=20" 663, .str "!" 1586, .str "=22" 671, .str "=23" 675, .str "=24" 679, .str "=25" 683, .str "=26" 687, .str "=27" 691, .str "=28" 695, .str "=29" 699, .str "*" 1589, .str "+" 1592, .str "=2C" 711, .str "-" 1583, .str "=2E" 719, .str "/" 1595, .str "=30" 727, .str "=31" 731, .str "=32" 735, .str "=33" 739, .str "=34" 743, .str "=35" 747, .str "=36" 751, .str "=37" 755, .str "=38" 759, .str "=39" 763, .str "=3A" 767, .str "=3B" 771, .str "=3C" 775, .str "=3D" 779, .str "=3E" 783, .str "=3F" 787]
noncomputable def g67 : List Value := [.str "=60" 919, .str "a" 1598, .str "b" 1601, .str "c" 1604, .str "d" 1607, .str "e" 1610, .str "f" 1613, .str "g" 1616, .str "h" 1619, .str "i" 1622, .str "j" 1625, .str "k" 1628, .str "l" 1631, .str "m" 1634, .str "n" 1637, .str "o" 1640, .str "p" 1643, .str "q" 1646, .str "r" 1649, .str "=73" 995, .str "=74" 999, .str "=75" 1003, .str "=76" 1007, .str "=77" 1011, .str "=78" 1015, .str "=79" 1019, .str "=7A" 1023, .str "=7B" 1027, .str "=7C" 1031, .str "=7D" 1035, .str "=7E" 1039, .str "=7F" 1043]
noncomputable def o84_3 (P : Params) : Obj := ⟨.type "list", none, .seq ⟨g29 ++ (g66 ++ (g31 ++ (g67 ++ (g33 ++ (g34 ++ (g35 ++ (g36)))))))⟩ 0, ⟨[]⟩⟩
noncomputable def o87_2 (P : Params) : Obj := ⟨.type "bytes_iterator", none, .fields ⟨[.bytes ⟨[45, 33, 42, 43, 47, 97, 98, 99, 100, 101, 102, 103, 104, 105, 106, 107, 108, 109, 110, 111, 112, 113, 114, 115, 116, 117, 118, 119, 120, 121, 122, 65, 66, 67, 68, 69, 70, 71, 72, 73, 74, 75, 76, 77, 78, 79, 80, 81, 82, 83, 84, 85, 86, 87, 88, 89, 90, 48, 49, 50, 51, 52, 53, 54, 55, 56, 57]⟩ 1580, .int 23 0]⟩, ⟨[]⟩⟩
noncomputable def tl20_1 (P : Params) : BT := (.node (o0_0 P) (.node (o1_0 P) (.node (o3_14 P) (.node (o7_0 P) (.node (o15_0 P) (.node (o31_0 P) (.node (o63_0 P) .nil .nil) .nil) (.node (o47_0 P) (.node (o79_0 P) .nil .nil) .nil)) (.node (o23_0 P) (.node (o39_0 P) (.node (o71_0 P) .nil .nil) .nil) (.node (o55_0 P) (.node (o87_2 P) .nil .nil) .nil))) (.node (o11_1 P) (.node (o19_0 P) (.node (o35_0 P) (.node (o67_0 P) .nil .nil) .nil) (.node (o51_0 P) (.node (o83_0 P) .nil .nil) .nil)) (.node (o27_0 P) (.node (o43_0 P) (.node (o75_0 P) .nil .nil) .nil) (.node (o59_0 P) .nil .nil)))) (.node (o5_0 P) (.node (o9_0 P) (.node (o17_0 P) (.node (o33_0 P) (.node (o65_0 P) .nil .nil) .nil) (.node (o49_0 P) (.node (o81_0 P) .nil .nil) .nil)) (.node (o25_0 P) (.node (o41_0 P) (.node (o73_0 P) .nil .nil) .nil) (.node (o57_0 P) .nil .nil))) (.node (o13_0 P) (.node (o21_0 P) (.node (o37_0 P) (.node (o69_0 P) .nil .nil) .nil) (.node (o53_0 P) (.node (o85_0 P) .nil .nil) .nil)) (.node (o29_2 P) (.node (o45_0 P) (.node (o77_0 P) .nil .nil) .nil) (.node (o61_0 P) .nil .nil))))) (.node (o2_0 P) (.node (o4_0 P) (.node (o8_0 P) (.node (o16_0 P) (.node (o32_0 P) (.node (o64_0 P) .nil .nil) .nil) (.node (o48_0 P) (.node (o80_0 P) .nil .nil) .nil)) (.node (o24_0 P) (.node (o40_0 P) (.node (o72_0 P) .nil .nil) .nil) (.node (o56_0 P) .nil .nil))) (.node (o12_0 P) (.node (o20_0 P) (.node (o36_0 P) (.node (o68_0 P) .nil .nil) .nil) (.node (o52_0 P) (.node (o84_3 P) .nil .nil) .nil)) (.node (o28_0 P) (.node (o44_0 P) (.node (o76_0 P) .nil .nil) .nil) (.node (o60_0 P) .nil .nil)))) (.node (o6_0 P) (.node (o10_0 P) (.node (o18_0 P) (.node (o34_0 P) (.node (o66_0 P) .nil .nil) .nil) (.node (o50_0 P) (.node (o82_0 P) .nil .nil) .nil)) (.node (o26_0 P) (.node (o42_0 P) (.node (o74_0 P) .nil .nil) .nil) (.node (o58_0 P) .nil .nil))) (.node (o14_0 P) (.node (o22_0 P) (.node (o38_0 P) (.node (o70_0 P) .nil .nil) .nil) (.node (o54_0 P) (.node (o86_0 P) .nil .nil) .nil)) (.node (o30_0 P) (.node (o46_0 P) (.node (o78_0 P) .nil .nil) .nil) (.node (o62_0 P) .nil .nil))))))
noncomputable abbrev sl20_1 := st tl20_1 88 1650
noncomputable def g68 (P : Params) : List DictEntry := [e P "digits" 1566 (.str "0123456789" 1565), e P "hexdigits" 1571 (.str "0123456789abcdefABCDEF" 1570), e P "c" 1582 (.int 79 1716)]
noncomputable def o3_15 (P : Params) : Obj := ⟨.type "dict", none, .dict ⟨g37 P ++ (g38 P ++ (g68 P))⟩ 27, ⟨[]⟩⟩
noncomputable def g69 : List Value := [.str "=40" 791, .str "A" 1676, .str "B" 1679, .str "C" 1682, .str "D" 1685, .str "E" 1688, .str "F" 1691, .str "G" 1694, .str "H" 1697, .str "I" 1700, .str "J" 1703, .str "K" 1706, .str "L" 1709, .str "M" 1712, .str "N" 1715, .str "O" 1718, .str "=50" 855, .str "=51" 859, .str "=52" 863, .str "=53" 867, .str "=54" 871, .str "=55" 875, .str "=56" 879, .str "=57" 883, .str "=58" 887, .str "=59" 891, .str "=5A" 895, .str "=5B" 899, .str "=5C" 903, .str "=5D" 907, .str "=5E" 911, .str "=5F" 915]
noncomputable def o84_4 (P : Params) : Obj := ⟨.type "list", none, .seq ⟨g29 ++ (g66 ++ (g69 ++ (g43 ++ (g33 ++ (g34 ++ (g35 ++ (g36)))))))⟩ 0, ⟨[]⟩⟩
noncomputable def o87_3 (P : Params) : Obj := ⟨.type "bytes_iterator", none, .fields ⟨[.bytes ⟨[45, 33, 42, 43, 47, 97, 98, 99, 100, 101, 102, 103, 104, 105, 106, 107, 108, 109, 110, 111, 112, 113, 114, 115, 116, 117, 118, 119, 120, 121, 122, 65, 66, 67, 68, 69, 70, 71, 72, 73, 74, 75, 76, 77, 78, 79, 80, 81, 82, 83, 84, 85, 86, 87, 88, 89, 90, 48, 49, 50, 51, 52, 53, 54, 55, 56, 57]⟩ 1580, .int 46 0]⟩, ⟨[]⟩⟩
noncomputable def tl20_2 (P : Params) : BT := (.node (o0_0 P) (.node (o1_0 P) (.node (o3_15 P) (.node (o7_0 P) (.node (o15_0 P) (.node (o31_0 P) (.node (o63_0 P) .nil .nil) .nil) (.node (o47_0 P) (.node (o79_0 P) .nil .nil) .nil)) (.node (o23_0 P) (.node (o39_0 P) (.node (o71_0 P) .nil .nil) .nil) (.node (o55_0 P) (.node (o87_3 P) .nil .nil) .nil))) (.node (o11_1 P) (.node (o19_0 P) (.node (o35_0 P) (.node (o67_0 P) .nil .nil) .nil) (.node (o51_0 P) (.node (o83_0 P) .nil .nil) .nil)) (.node (o27_0 P) (.node (o43_0 P) (.node (o75_0 P) .nil .nil) .nil) (.node (o59_0 P) .nil .nil)))) (.node (o5_0 P) (.node (o9_0 P) (.node (o17_0 P) (.node (o33_0 P) (.node (o65_0 P) .nil .nil) .nil) (.node (o49_0 P) (.node (o81_0 P) .nil .nil) .nil)) (.node (o25_0 P) (.node (o41_0 P) (.node (o73_0 P) .nil .nil) .nil) (.node (o57_0 P) .nil .nil))) (.node (o13_0 P) (.node (o21_0 P) (.node (o37_0 P) (.node (o69_0 P) .nil .nil) .nil) (.node (o53_0 P) (.node (o85_0 P) .nil .nil) .nil)) (.node (o29_2 P) (.node (o45_0 P) (.node (o77_0 P) .nil .nil) .nil) (.node (o61_0 P) .nil .nil))))) (.node (o2_0 P) (.node (o4_0 P) (.node (o8_0 P) (.node (o16_0 P) (.node (o32_0 P) (.node (o64_0 P) .nil .nil) .nil) (.node (o48_0 P) (.node (o80_0 P) .nil .nil) .nil)) (.node (o24_0 P) (.node (o40_0 P) (.node (o72_0 P) .nil .nil) .nil) (.node (o56_0 P) .nil .nil))) (.node (o12_0 P) (.node (o20_0 P) (.node (o36_0 P) (.node (o68_0 P) .nil .nil) .nil) (.node (o52_0 P) (.node (o84_4 P) .nil .nil) .nil)) (.node (o28_0 P) (.node (o44_0 P) (.node (o76_0 P) .nil .nil) .nil) (.node (o60_0 P) .nil .nil)))) (.node (o6_0 P) (.node (o10_0 P) (.node (o18_0 P) (.node (o34_0 P) (.node (o66_0 P) .nil .nil) .nil) (.node (o50_0 P) (.node (o82_0 P) .nil .nil) .nil)) (.node (o26_0 P) (.node (o42_0 P) (.node (o74_0 P) .nil .nil) .nil) (.node (o58_0 P) .nil .nil))) (.node (o14_0 P) (.node (o22_0 P) (.node (o38_0 P) (.node (o70_0 P) .nil .nil) .nil) (.node (o54_0 P) (.node (o86_0 P) .nil .nil) .nil)) (.node (o30_0 P) (.node (o46_0 P) (.node (o78_0 P) .nil .nil) .nil) (.node (o62_0 P) .nil .nil))))))
noncomputable abbrev sl20_2 := st tl20_2 88 1719
noncomputable def o87_4 (P : Params) : Obj := ⟨.type "bytes_iterator", none, .fields ⟨[.bytes ⟨[45, 33, 42, 43, 47, 97, 98, 99, 100, 101, 102, 103, 104, 105, 106, 107, 108, 109, 110, 111, 112, 113, 114, 115, 116, 117, 118, 119, 120, 121, 122, 65, 66, 67, 68, 69, 70, 71, 72, 73, 74, 75, 76, 77, 78, 79, 80, 81, 82, 83, 84, 85, 86, 87, 88, 89, 90, 48, 49, 50, 51, 52, 53, 54, 55, 56, 57]⟩ 1580, .int 67 0]⟩, ⟨[]⟩⟩
noncomputable def tl20_3 (P : Params) : BT := (.node (o0_0 P) (.node (o1_0 P) (.node (o3_6 P) (.node (o7_0 P) (.node (o15_0 P) (.node (o31_0 P) (.node (o63_0 P) .nil .nil) .nil) (.node (o47_0 P) (.node (o79_0 P) .nil .nil) .nil)) (.node (o23_0 P) (.node (o39_0 P) (.node (o71_0 P) .nil .nil) .nil) (.node (o55_0 P) (.node (o87_4 P) .nil .nil) .nil))) (.node (o11_1 P) (.node (o19_0 P) (.node (o35_0 P) (.node (o67_0 P) .nil .nil) .nil) (.node (o51_0 P) (.node (o83_0 P) .nil .nil) .nil)) (.node (o27_0 P) (.node (o43_0 P) (.node (o75_0 P) .nil .nil) .nil) (.node (o59_0 P) .nil .nil)))) (.node (o5_0 P) (.node (o9_0 P) (.node (o17_0 P) (.node (o33_0 P) (.node (o65_0 P) .nil .nil) .nil) (.node (o49_0 P) (.node (o81_0 P) .nil .nil) .nil)) (.node (o25_0 P) (.node (o41_0 P) (.node (o73_0 P) .nil .nil) .nil) (.node (o57_0 P) .nil .nil))) (.node (o13_0 P) (.node (o21_0 P) (.node (o37_0 P) (.node (o69_0 P) .nil .nil) .nil) (.node (o53_0 P) (.node (o85_0 P) .nil .nil) .nil)) (.node (o29_2 P) (.node (o45_0 P) (.node (o77_0 P) .nil .nil) .nil) (.node (o61_0 P) .nil .nil))))) (.node (o2_0 P) (.node (o4_0 P) (.node (o8_0 P) (.node (o16_0 P) (.node (o32_0 P) (.node (o64_0 P) .nil .nil) .nil) (.node (o48_0 P) (.node (o80_0 P) .nil .nil) .nil)) (.node (o24_0 P) (.node (o40_0 P) (.node (o72_0 P) .nil .nil) .nil) (.node (o56_0 P) .nil .nil))) (.node (o12_0 P) (.node (o20_0 P) (.node (o36_0 P) (.node (o68_0 P) .nil .nil) .nil) (.node (o52_0 P) (.node (o84_1 P) .nil .nil) .nil)) (.node (o28_0 P) (.node (o44_0 P) (.node (o76_0 P) .nil .nil) .nil) (.node (o60_0 P) .nil .nil)))) (.node (o6_0 P) (.node (o10_0 P) (.node (o18_0 P) (.node (o34_0 P) (.node (o66_0 P) .nil .nil) .nil) (.node (o50_0 P) (.node (o82_0 P) .nil .nil) .nil)) (.node (o26_0 P) (.node (o42_0 P) (.node (o74_0 P) .nil .nil) .nil) (.node (o58_0 P) .nil .nil))) (.node (o14_0 P) (.node (o22_0 P) (.node (o38_0 P) (.node (o70_0 P) .nil .nil) .nil) (.node (o54_0 P) (.node (o86_0 P) .nil .nil) .nil)) (.node (o30_0 P) (.node (o46_0 P) (.node (o78_0 P) .nil .nil) .nil) (.node (o62_0 P) .nil .nil))))))
noncomputable abbrev sl20_3 := st tl20_3 88 1782
noncomputable def o90_1 (P : Params) : Obj := ⟨.type "bytes_iterator", none, .fields ⟨[.bytes ⟨[32, 33, 34, 35, 36, 37, 38, 39, 40, 41, 42, 43, 44, 45, 46, 47, 48, 49, 50, 51, 52, 53, 54, 55, 56, 57, 58, 59, 60, 62, 63, 64, 65, 66, 67, 68, 69, 70, 71, 72, 73, 74, 75, 76, 77, 78, 79, 80, 81, 82, 83, 84, 85, 86, 87, 88, 89, 90, 91, 92, 93, 94, 95, 96, 97, 98, 99, 100, 101, 102, 103, 104, 105, 106, 107, 108, 109, 110, 111, 112, 113, 114, 115, 116, 117, 118, 119, 120, 121, 122, 123, 124, 125, 126, 9]⟩ 1785, .int 0 0]⟩, ⟨[]⟩⟩
noncomputable def tl22_0 (P : Params) : BT := (.node (o0_0 P) (.node (o1_0 P) (.node (o3_6 P) (.node (o7_0 P) (.node (o15_0 P) (.node (o31_0 P) (.node (o63_0 P) .nil .nil) .nil) (.node (o47_0 P) (.node (o79_0 P) .nil .nil) .nil)) (.node (o23_0 P) (.node (o39_0 P) (.node (o71_0 P) .nil .nil) .nil) (.node (o55_0 P) (.node (o87_0 P) .nil .nil) .nil))) (.node (o11_1 P) (.node (o19_0 P) (.node (o35_0 P) (.node (o67_0 P) .nil .nil) .nil) (.node (o51_0 P) (.node (o83_0 P) .nil .nil) .nil)) (.node (o27_0 P) (.node (o43_0 P) (.node (o75_0 P) .nil .nil) .nil) (.node (o59_0 P) .nil .nil)))) (.node (o5_0 P) (.node (o9_0 P) (.node (o17_0 P) (.node (o33_0 P) (.node (o65_0 P) .nil .nil) .nil) (.node (o49_0 P) (.node (o81_0 P) .nil .nil) .nil)) (.node (o25_0 P) (.node (o41_0 P) (.node (o73_0 P) .nil .nil) .nil) (.node (o57_0 P) (.node (o89_0 P) .nil .nil) .nil))) (.node (o13_0 P) (.node (o21_0 P) (.node (o37_0 P) (.node (o69_0 P) .nil .nil) .nil) (.node (o53_0 P) (.node (o85_0 P) .nil .nil) .nil)) (.node (o29_2 P) (.node (o45_0 P) (.node (o77_0 P) .nil .nil) .nil) (.node (o61_0 P) .nil .nil))))) (.node (o2_0 P) (.node (o4_0 P) (.node (o8_0 P) (.node (o16_0 P) (.node (o32_0 P) (.node (o64_0 P) .nil .nil) .nil) (.node (o48_0 P) (.node (o80_0 P) .nil .nil) .nil)) (.node (o24_0 P) (.node (o40_0 P) (.node (o72_0 P) .nil .nil) .nil) (.node (o56_0 P) (.node (o88_0 P) .nil .nil) .nil))) (.node (o12_0 P) (.node (o20_0 P) (.node (o36_0 P) (.node (o68_0 P) .nil .nil) .nil) (.node (o52_0 P) (.node (o84_2 P) .nil .nil) .nil)) (.node (o28_0 P) (.node (o44_0 P) (.node (o76_0 P) .nil .nil) .nil) (.node (o60_0 P) .nil .nil)))) (.node (o6_0 P) (.node (o10_0 P) (.node (o18_0 P) (.node (o34_0 P) (.node (o66_0 P) .nil .nil) .nil) (.node (o50_0 P) (.node (o82_0 P) .nil .nil) .nil)) (.node (o26_0 P) (.node (o42_0 P) (.node (o74_0 P) .nil .nil) .nil) (.node (o58_0 P) (.node (o90_1 P) .nil .nil) .nil))) (.node (o14_0 P) (.node (o22_0 P) (.node (o38_0 P) (.node (o70_0 P) .nil .nil) .nil) (.node (o54_0 P) (.node (o86_0 P) .nil .nil) .nil)) (.node (o30_0 P) (.node (o46_0 P) (.node (o78_0 P) .nil .nil) .nil) (.node (o62_0 P) .nil .nil))))))
noncomputable abbrev sl22_0 := st tl22_0 91 1786
noncomputable def g70 (P : Params) : List DictEntry := [e P "digits" 1566 (.str "0123456789" 1565), e P "hexdigits" 1571 (.str "0123456789abcdefABCDEF" 1570), e P "c" 1582 (.int 55 1855)]
noncomputable def o3_16 (P : Params) : Obj := ⟨.type "dict", none, .dict ⟨g37 P ++ (g38 P ++ (g70 P))⟩ 27, ⟨[]⟩⟩
noncomputable def g71 : List Value := [.str " " 1788, .str "!" 1791, .str "\"" 1794, .str "#" 1797, .str "$" 1800, .str "%" 1803, .str "&" 1806, .str "'" 1809, .str "(" 1812, .str ")" 1815, .str "*" 1818, .str "+" 1821, .str "," 1824, .str "-" 1827, .str "." 1830, .str "/" 1833, .str "0" 1836, .str "1" 1839, .str "2" 1842, .str "3" 1845, .str "4" 1848, .str "5" 1851, .str "6" 1854, .str "7" 1857, .str "=38" 759, .str "=39" 763, .str "=3A" 767, .str "=3B" 771, .str "=3C" 775, .str "=3D" 779, .str "=3E" 783, .str "=3F" 787]
noncomputable def o86_2 (P : Params) : Obj := ⟨.type "list", none, .seq ⟨g29 ++ (g71 ++ (g31 ++ (g32 ++ (g33 ++ (g34 ++ (g35 ++ (g36)))))))⟩ 0, ⟨[]⟩⟩
noncomputable def o90_2 (P : Params) : Obj := ⟨.type "bytes_iterator", none, .fields ⟨[.bytes ⟨[32, 33, 34, 35, 36, 37, 38, 39, 40, 41, 42, 43, 44, 45, 46, 47, 48, 49, 50, 51, 52, 53, 54, 55, 56, 57, 58, 59, 60, 62, 63, 64, 65, 66, 67, 68, 69, 70, 71, 72, 73, 74, 75, 76, 77, 78, 79, 80, 81, 82, 83, 84, 85, 86, 87, 88, 89, 90, 91, 92, 93, 94, 95, 96, 97, 98, 99, 100, 101, 102, 103, 104, 105, 106, 107, 108, 109, 110, 111, 112, 113, 114, 115, 116, 117, 118, 119, 120, 121, 122, 123, 124, 125, 126, 9]⟩ 1785, .int 24 0]⟩, ⟨[]⟩⟩
noncomputable def tl22_1 (P : Params) : BT := (.node (o0_0 P) (.node (o1_0 P) (.node (o3_16 P) (.node (o7_0 P) (.node (o15_0 P) (.node (o31_0 P) (.node (o63_0 P) .nil .nil) .nil) (.node (o47_0 P) (.node (o79_0 P) .nil .nil) .nil)) (.node (o23_0 P) (.node (o39_0 P) (.node (o71_0 P) .nil .nil) .nil) (.node (o55_0 P) (.node (o87_0 P) .nil .nil) .nil))) (.node (o11_1 P) (.node (o19_0 P) (.node (o35_0 P) (.node (o67_0 P) .nil .nil) .nil) (.node (o51_0 P) (.node (o83_0 P) .nil .nil) .nil)) (.node (o27_0 P) (.node (o43_0 P) (.node (o75_0 P) .nil .nil) .nil) (.node (o59_0 P) .nil .nil)))) (.node (o5_0 P) (.node (o9_0 P) (.node (o17_0 P) (.node (o33_0 P) (.node (o65_0 P) .nil .nil) .nil) (.node (o49_0 P) (.node (o81_0 P) .nil .nil) .nil)) (.node (o25_0 P) (.node (o41_0 P) (.node (o73_0 P) .nil .nil) .nil) (.node (o57_0 P) (.node (o89_0 P) .nil .nil) .nil))) (.node (o13_0 P) (.node (o21_0 P) (.node (o37_0 P) (.node (o69_0 P) .nil .nil) .nil) (.node (o53_0 P) (.node (o85_0 P) .nil .nil) .nil)) (.node (o29_2 P) (.node (o45_0 P) (.node (o77_0 P) .nil .nil) .nil) (.node (o61_0 P) .nil .nil))))) (.node (o2_0 P) (.node (o4_0 P) (.node (o8_0 P) (.node (o16_0 P) (.node (o32_0 P) (.node (o64_0 P) .nil .nil) .nil) (.node (o48_0 P) (.node (o80_0 P) .nil .nil) .nil)) (.node (o24_0 P) (.node (o40_0 P) (.node (o72_0 P) .nil .nil) .nil) (.node (o56_0 P) (.node (o88_0 P) .nil .nil) .nil))) (.node (o12_0 P) (.node (o20_0 P) (.node (o36_0 P) (.node (o68_0 P) .nil .nil) .nil) (.node (o52_0 P) (.node (o84_2 P) .nil .nil) .nil)) (.node (o28_0 P) (.node (o44_0 P) (.node (o76_0 P) .nil .nil) .nil) (.node (o60_0 P) .nil .nil)))) (.node (o6_0 P) (.node (o10_0 P) (.node (o18_0 P) (.node (o34_0 P) (.node (o66_0 P) .nil .nil) .nil) (.node (o50_0 P) (.node (o82_0 P) .nil .nil) .nil)) (.node (o26_0 P) (.node (o42_0 P) (.node (o74_0 P) .nil .nil) .nil) (.node (o58_0 P) (.node (o90_2 P) .nil .nil) .nil))) (.node (o14_0 P) (.node (o22_0 P) (.node (o38_0 P) (.node (o70_0 P) .nil .nil) .nil) (.node (o54_0 P) (.node (o86_2 P) .nil .nil) .nil)) (.node (o30_0 P) (.node (o46_0 P) (.node (o78_0 P) .nil .nil) .nil) (.node (o62_0 P) .nil .nil))))))
noncomputable abbrev sl22_1 := st tl22_1 91 1858
noncomputable def g72 (P : Params) : List DictEntry := [e P "digits" 1566 (.str "0123456789" 1565), e P "hexdigits" 1571 (.str "0123456789abcdefABCDEF" 1570), e P "c" 1582 (.int 80 1927)]
noncomputable def o3_17 (P : Params) : Obj := ⟨.type "dict", none, .dict ⟨g37 P ++ (g38 P ++ (g72 P))⟩ 27, ⟨[]⟩⟩
noncomputable def g73 : List Value := [.str "@" 1881, .str "A" 1884, .str "B" 1887, .str "C" 1890, .str "D" 1893, .str "E" 1896, .str "F" 1899, .str "G" 1902, .str "H" 1905, .str "I" 1908, .str "J" 1911, .str "K" 1914, .str "L" 1917, .str "M" 1920, .str "N" 1923, .str "O" 1926, .str "P" 1929, .str "=51" 859, .str "=52" 863, .str "=53" 867, .str "=54" 871, .str "=55" 875, .str "=56" 879, .str "=57" 883, .str "=58" 887, .str "=59" 891, .str "=5A" 895, .str "=5B" 899, .str "=5C" 903, .str "=5D" 907, .str "=5E" 911, .str "=5F" 915]
noncomputable def o86_3 (P : Params) : Obj := ⟨.type "list", none, .seq ⟨g29 ++ (g47 ++ (g73 ++ (g32 ++ (g33 ++ (g34 ++ (g35 ++ (g36)))))))⟩ 0, ⟨[]⟩⟩
noncomputable def o90_3 (P : Params) : Obj := ⟨.type "bytes_iterator", none, .fields ⟨[.bytes ⟨[32, 33, 34, 35, 36, 37, 38, 39, 40, 41, 42, 43, 44, 45, 46, 47, 48, 49, 50, 51, 52, 53, 54, 55, 56, 57, 58, 59, 60, 62, 63, 64, 65, 66, 67, 68, 69, 70, 71, 72, 73, 74, 75, 76, 77, 78, 79, 80, 81, 82, 83, 84, 85, 86, 87, 88, 89, 90, 91, 92, 93, 94, 95, 96, 97, 98, 99, 100, 101, 102, 103, 104, 105, 106, 107, 108, 109, 110, 111, 112, 113, 114, 115, 116, 117, 118, 119, 120, 121, 122, 123, 124, 125, 126, 9]⟩ 1785, .int 48 0]⟩, ⟨[]⟩⟩
noncomputable def tl22_2 (P : Params) : BT := (.node (o0_0 P) (.node (o1_0 P) (.node (o3_17 P) (.node (o7_0 P) (.node (o15_0 P) (.node (o31_0 P) (.node (o63_0 P) .nil .nil) .nil) (.node (o47_0 P) (.node (o79_0 P) .nil .nil) .nil)) (.node (o23_0 P) (.node (o39_0 P) (.node (o71_0 P) .nil .nil) .nil) (.node (o55_0 P) (.node (o87_0 P) .nil .nil) .nil))) (.node (o11_1 P) (.node (o19_0 P) (.node (o35_0 P) (.node (o67_0 P) .nil .nil) .nil) (.node (o51_0 P) (.node (o83_0 P) .nil .nil) .nil)) (.node (o27_0 P) (.node (o43_0 P) (.node (o75_0 P) .nil .nil) .nil) (.node (o59_0 P) .nil .nil)))) (.node (o5_0 P) (.node (o9_0 P) (.node (o17_0 P) (.node (o33_0 P) (.node (o65_0 P) .nil .nil) .nil) (.node (o49_0 P) (.node (o81_0 P) .nil .nil) .nil)) (.node (o25_0 P) (.node (o41_0 P) (.node (o73_0 P) .nil .nil) .nil) (.node (o57_0 P) (.node (o89_0 P) .nil .nil) .nil))) (.node (o13_0 P) (.node (o21_0 P) (.node (o37_0 P) (.node (o69_0 P) .nil .nil) .nil) (.node (o53_0 P) (.node (o85_0 P) .nil .nil) .nil)) (.node (o29_2 P) (.node (o45_0 P) (.node (o77_0 P) .nil .nil) .nil) (.node (o61_0 P) .nil .nil))))) (.node (o2_0 P) (.node (o4_0 P) (.node (o8_0 P) (.node (o16_0 P) (.node (o32_0 P) (.node (o64_0 P) .nil .nil) .nil) (.node (o48_0 P) (.node (o80_0 P) .nil .nil) .nil)) (.node (o24_0 P) (.node (o40_0 P) (.node (o72_0 P) .nil .nil) .nil) (.node (o56_0 P) (.node (o88_0 P) .nil .nil) .nil))) (.node (o12_0 P) (.node (o20_0 P) (.node (o36_0 P) (.node (o68_0 P) .nil .nil) .nil) (.node (o52_0 P) (.node (o84_2 P) .nil .nil) .nil)) (.node (o28_0 P) (.node (o44_0 P) (.node (o76_0 P) .nil .nil) .nil) (.node (o60_0 P) .nil .nil)))) (.node (o6_0 P) (.node (o10_0 P) (.node (o18_0 P) (.node (o34_0 P) (.node (o66_0 P) .nil .nil) .nil) (.node (o50_0 P) (.node (o82_0 P) .nil .nil) .nil)) (.node (o26_0 P) (.node (o42_0 P) (.node (o74_0 P) .nil .nil) .nil) (.node (o58_0 P) (.node (o90_3 P) .nil .nil) .nil))) (.node (o14_0 P) (.node (o22_0 P) (.node (o38_0 P) (.node (o70_0 P) .nil .nil) .nil) (.node (o54_0 P) (.node (o86_3 P) .nil .nil) .nil)) (.node (o30_0 P) (.node (o46_0 P) (.node (o78_0 P) .nil .nil) .nil) (.node (o62_0 P) .nil .nil))))))
noncomputable abbrev sl22_2 := st tl22_2 91 1930
noncomputable def g74 (P : Params) : List DictEntry := [e P "digits" 1566 (.str "0123456789" 1565), e P "hexdigits" 1571 (.str "0123456789abcdefABCDEF" 1570), e P "c" 1582 (.int 104 1999)]
noncomputable def o3_18 (P : Params) : Obj := ⟨.type "dict", none, .dict ⟨g37 P ++ (g38 P ++ (g74 P))⟩ 27, ⟨[]⟩⟩
noncomputable def g75 : List Value := [.str "`" 1977, .str "a" 1980, .str "b" 1983, .str "c" 1986, .str "d" 1989, .str "e" 1992, .str "f" 1995, .str "g" 1998, .str "h" 2001, .str "=69" 955, .str "=6A" 959, .str "=6B" 963, .str "=6C" 967, .str "=6D" 971, .str "=6E" 975, .str "=6F" 979, .str "=70" 983, .str "=71" 987, .str "=72" 991, .str "=73" 995, .str "=74" 999, .str "=75" 1003, .str "=76" 1007, .str "=77" 1011, .str "=78" 1015, .str "=79" 1019, .str "=7A" 1023, .str "=7B" 1027, .str "=7C" 1031, .str "=7D" 1035, .str "=7E" 1039, .str "=7F" 1043]
noncomputable def o86_4 (P : Params) : Obj := ⟨.type "list", none, .seq ⟨g29 ++ (g47 ++ (g48 ++ (g75 ++ (g33 ++ (g34 ++ (g35 ++ (g36)))))))⟩ 0, ⟨[]⟩⟩
noncomputable def o90_4 (P : Params) : Obj := ⟨.type "bytes_iterator", none, .fields ⟨[.bytes ⟨[32, 33, 34, 35, 36, 37, 38, 39, 40, 41, 42, 43, 44, 45, 46, 47, 48, 49, 50, 51, 52, 53, 54, 55, 56, 57, 58, 59, 60, 62, 63, 64, 65, 66, 67, 68, 69, 70, 71, 72, 73, 74, 75, 76, 77, 78, 79, 80, 81, 82, 83, 84, 85, 86, 87, 88, 89, 90, 91, 92, 93, 94, 95, 96, 97, 98, 99, 100, 101, 102, 103, 104, 105, 106, 107, 108, 109, 110, 111, 112, 113, 114, 115, 116, 117, 118, 119, 120, 121, 122, 123, 124, 125, 126, 9]⟩ 1785, .int 72 0]⟩, ⟨[]⟩⟩
noncomputable def tl22_3 (P : Params) : BT := (.node (o0_0 P) (.node (o1_0 P) (.node (o3_18 P) (.node (o7_0 P) (.node (o15_0 P) (.node (o31_0 P) (.node (o63_0 P) .nil .nil) .nil) (.node (o47_0 P) (.node (o79_0 P) .nil .nil) .nil)) (.node (o23_0 P) (.node (o39_0 P) (.node (o71_0 P) .nil .nil) .nil) (.node (o55_0 P) (.node (o87_0 P) .nil .nil) .nil))) (.node (o11_1 P) (.node (o19_0 P) (.node (o35_0 P) (.node (o67_0 P) .nil .nil) .nil) (.node (o51_0 P) (.node (o83_0 P) .nil .nil) .nil)) (.node (o27_0 P) (.node (o43_0 P) (.node (o75_0 P) .nil .nil) .nil) (.node (o59_0 P) .nil .nil)))) (.node (o5_0 P) (.node (o9_0 P) (.node (o17_0 P) (.node (o33_0 P) (.node (o65_0 P) .nil .nil) .nil) (.node (o49_0 P) (.node (o81_0 P) .nil .nil) .nil)) (.node (o25_0 P) (.node (o41_0 P) (.node (o73_0 P) .nil .nil) .nil) (.node (o57_0 P) (.node (o89_0 P) .nil .nil) .nil))) (.node (o13_0 P) (.node (o21_0 P) (.node (o37_0 P) (.node (o69_0 P) .nil .nil) .nil) (.node (o53_0 P) (.node (o85_0 P) .nil .nil) .nil)) (.node (o29_2 P) (.node (o45_0 P) (.node (o77_0 P) .nil .nil) .nil) (.node (o61_0 P) .nil .nil))))) (.node (o2_0 P) (.node (o4_0 P) (.node (o8_0 P) (.node (o16_0 P) (.node (o32_0 P) (.node (o64_0 P) .nil .nil) .nil) (.node (o48_0 P) (.node (o80_0 P) .nil .nil) .nil)) (.node (o24_0 P) (.node (o40_0 P) (.node (o72_0 P) .nil .nil) .nil) (.node (o56_0 P) (.node (o88_0 P) .nil .nil) .nil))) (.node (o12_0 P) (.node (o20_0 P) (.node (o36_0 P) (.node (o68_0 P) .nil .nil) .nil) (.node (o52_0 P) (.node (o84_2 P) .nil .nil) .nil)) (.node (o28_0 P) (.node (o44_0 P) (.node (o76_0 P) .nil .nil) .nil) (.node (o60_0 P) .nil .nil)))) (.node (o6_0 P) (.node (o10_0 P) (.node (o18_0 P) (.node (o34_0 P) (.node (o66_0 P) .nil .nil) .nil) (.node (o50_0 P) (.node (o82_0 P) .nil .nil) .nil)) (.node (o26_0 P) (.node (o42_0 P) (.node (o74_0 P) .nil .nil) .nil) (.node (o58_0 P) (.node (o90_4 P) .nil .nil) .nil))) (.node (o14_0 P) (.node (o22_0 P) (.node (o38_0 P) (.node (o70_0 P) .nil .nil) .nil) (.node (o54_0 P) (.node (o86_4 P) .nil .nil) .nil)) (.node (o30_0 P) (.node (o46_0 P) (.node (o78_0 P) .nil .nil) .nil) (.node (o62_0 P) .nil .nil))))))
noncomputable abbrev sl22_3 := st tl22_3 91 2002
noncomputable def o90_5 (P : Params) : Obj := ⟨.type "bytes_iterator", none, .fields ⟨[.bytes ⟨[32, 33, 34, 35, 36, 37, 38, 39, 40, 41, 42, 43, 44, 45, 46, 47, 48, 49, 50, 51, 52, 53, 54, 55, 56, 57, 58, 59, 60, 62, 63, 64, 65, 66, 67, 68, 69, 70, 71, 72, 73, 74, 75, 76, 77, 78, 79, 80, 81, 82, 83, 84, 85, 86, 87, 88, 89, 90, 91, 92, 93, 94, 95, 96, 97, 98, 99, 100, 101, 102, 103, 104, 105, 106, 107, 108, 109, 110, 111, 112, 113, 114, 115, 116, 117, 118, 119, 120, 121, 122, 123, 124, 125, 126, 9]⟩ 1785, .int 95 0]⟩, ⟨[]⟩⟩
noncomputable def tl22_4 (P : Params) : BT := (.node (o0_0 P) (.node (o1_0 P) (.node (o3_7 P) (.node (o7_0 P) (.node (o15_0 P) (.node (o31_0 P) (.node (o63_0 P) .nil .nil) .nil) (.node (o47_0 P) (.node (o79_0 P) .nil .nil) .nil)) (.node (o23_0 P) (.node (o39_0 P) (.node (o71_0 P) .nil .nil) .nil) (.node (o55_0 P) (.node (o87_0 P) .nil .nil) .nil))) (.node (o11_1 P) (.node (o19_0 P) (.node (o35_0 P) (.node (o67_0 P) .nil .nil) .nil) (.node (o51_0 P) (.node (o83_0 P) .nil .nil) .nil)) (.node (o27_0 P) (.node (o43_0 P) (.node (o75_0 P) .nil .nil) .nil) (.node (o59_0 P) .nil .nil)))) (.node (o5_0 P) (.node (o9_0 P) (.node (o17_0 P) (.node (o33_0 P) (.node (o65_0 P) .nil .nil) .nil) (.node (o49_0 P) (.node (o81_0 P) .nil .nil) .nil)) (.node (o25_0 P) (.node (o41_0 P) (.node (o73_0 P) .nil .nil) .nil) (.node (o57_0 P) (.node (o89_0 P) .nil .nil) .nil))) (.node (o13_0 P) (.node (o21_0 P) (.node (o37_0 P) (.node (o69_0 P) .nil .nil) .nil) (.node (o53_0 P) (.node (o85_0 P) .nil .nil) .nil)) (.node (o29_2 P) (.node (o45_0 P) (.node (o77_0 P) .nil .nil) .nil) (.node (o61_0 P) .nil .nil))))) (.node (o2_0 P) (.node (o4_0 P) (.node (o8_0 P) (.node (o16_0 P) (.node (o32_0 P) (.node (o64_0 P) .nil .nil) .nil) (.node (o48_0 P) (.node (o80_0 P) .nil .nil) .nil)) (.node (o24_0 P) (.node (o40_0 P) (.node (o72_0 P) .nil .nil) .nil) (.node (o56_0 P) (.node (o88_0 P) .nil .nil) .nil))) (.node (o12_0 P) (.node (o20_0 P) (.node (o36_0 P) (.node (o68_0 P) .nil .nil) .nil) (.node (o52_0 P) (.node (o84_2 P) .nil .nil) .nil)) (.node (o28_0 P) (.node (o44_0 P) (.node (o76_0 P) .nil .nil) .nil) (.node (o60_0 P) .nil .nil)))) (.node (o6_0 P) (.node (o10_0 P) (.node (o18_0 P) (.node (o34_0 P) (.node (o66_0 P) .nil .nil) .nil) (.node (o50_0 P) (.node (o82_0 P) .nil .nil) .nil)) (.node (o26_0 P) (.node (o42_0 P) (.node (o74_0 P) .nil .nil) .nil) (.node (o58_0 P) (.node (o90_5 P) .nil .nil) .nil))) (.node (o14_0 P) (.node (o22_0 P) (.node (o38_0 P) (.node (o70_0 P) .nil .nil) .nil) (.node (o54_0 P) (.node (o86_1 P) .nil .nil) .nil)) (.node (o30_0 P) (.node (o46_0 P) (.node (o78_0 P) .nil .nil) .nil) (.node (o62_0 P) .nil .nil))))))
noncomputable abbrev sl22_4 := st tl22_4 91 2071
end
end Mine
end

-- HSegA
section
open PySem PySem.W PyProof.Rows
set_option linter.unusedVariables false
set_option maxRecDepth 100000
set_option maxHeartbeats 0
namespace Mine
noncomputable section
theorem seg0 : Seg 160 0 5 ⟨0, 0, 0, 0⟩ ⟨11, 0, 11, 8⟩ sa sp5 := by intro w os; kernel_rfl
theorem seg6 : Seg 124 6 11 ⟨12, 0, 12, 18⟩ ⟨109, 0, 109, 2⟩ sp6 sp11 := by intro w os; kernel_rfl
theorem seg12 : Seg 133 12 20 ⟨110, 0, 110, 11⟩ ⟨118, 0, 118, 8⟩ sp12 sp20 := by intro w os; kernel_rfl
theorem seg21 : Seg 25 21 22 ⟨119, 9, 119, 74⟩ ⟨121, 0, 121, 28⟩ sp21 sp22 := by intro w os; kernel_rfl
theorem seg23 : Seg 86 23 26 ⟨122, 9, 122, 110⟩ ⟨128, 0, 128, 23⟩ sp23 sp26 := by intro w os; kernel_rfl
theorem seg27 : Seg 94 27 32 ⟨129, 9, 129, 16⟩ ⟨168, 0, 168, 8⟩ sp27 sp32 := by intro w os; kernel_rfl
theorem seg32 : Seg 219 32 34 ⟨168, 0, 168, 8⟩ ⟨173, 0, 173, 8⟩ sp32 sp34 := by intro w os; kernel_rfl
theorem seg34 : Seg 310 34 35 ⟨173, 0, 173, 8⟩ ⟨174, 0, 188, 16⟩ sp34 sp35 := by intro w os; kernel_rfl
theorem seg35 : Seg 375 35 50 ⟨174, 0, 188, 16⟩ ⟨308, 0, 322, 70⟩ sp35 sp50 := by intro w os; kernel_rfl
theorem seg26 : Seg 118 26 27 ⟨128, 0, 128, 23⟩ ⟨129, 9, 129, 16⟩ sp26 sp27 := Seg.ofRow (by intro w os; kernel_rfl) (by intro w os; kernel_rfl)
end
end Mine
end

-- HSeg5
section
open PySem PySem.W PyProof.Rows
set_option linter.unusedVariables false
set_option maxRecDepth 100000
set_option maxHeartbeats 0
namespace Mine
noncomputable section
theorem go5_0_true (w : World) : TurnsAt (w.withFollow rowB true) 1200 c5 f5 sl5_0 ⟨12, 48, 12, 85⟩ sl5_1 ⟨12, 22, 12, 38⟩ := by intro os k; kernel_rfl
theorem go5_0_false (w : World) : TurnsAt (w.withFollow rowB false) 1200 c5 f5 sl5_0 ⟨12, 48, 12, 85⟩ sl5_1 ⟨12, 22, 12, 38⟩ := by intro os k; kernel_rfl
theorem loop5 (w : World) (b : Bool) : TurnsAt (w.withFollow rowB b) 1200 c5 f5 sl5_0 ⟨12, 48, 12, 85⟩ sl5_1 ⟨12, 22, 12, 38⟩ := by cases b; exact go5_0_false w; exact go5_0_true w
theorem ends5_true_true (w : World) : EndsAt (world2 w true true) 14 29 5 ⟨11, 0, 11, 8⟩ ⟨12, 0, 12, 18⟩ sp5 sp6 c5 f5 sl5_0 ⟨12, 48, 12, 85⟩ sl5_1 ⟨12, 22, 12, 38⟩ := by intro os; kernel_rfl
theorem ends5_true_false (w : World) : EndsAt (world2 w true false) 14 29 5 ⟨11, 0, 11, 8⟩ ⟨12, 0, 12, 18⟩ sp5 sp6 c5 f5 sl5_0 ⟨12, 48, 12, 85⟩ sl5_1 ⟨12, 22, 12, 38⟩ := by intro os; kernel_rfl
theorem ends5_false_true (w : World) : EndsAt (world2 w false true) (14 + 10) 29 5 ⟨11, 0, 11, 8⟩ ⟨12, 0, 12, 18⟩ sp5 sp6 c5 f5 sl5_0 ⟨12, 48, 12, 85⟩ sl5_1 ⟨12, 22, 12, 38⟩ := by intro os; kernel_rfl
theorem ends5_false_false (w : World) : EndsAt (world2 w false false) (14 + 10) 29 5 ⟨11, 0, 11, 8⟩ ⟨12, 0, 12, 18⟩ sp5 sp6 c5 f5 sl5_0 ⟨12, 48, 12, 85⟩ sl5_1 ⟨12, 22, 12, 38⟩ := by intro os; kernel_rfl
theorem seg5 : Seg (14 + (1200 + 29) + 10) 5 6 ⟨11, 0, 11, 8⟩ ⟨12, 0, 12, 18⟩ sp5 sp6 := loop_seg loop5 ends5_true_true ends5_true_false ends5_false_true ends5_false_false
end
end Mine
end

-- HSeg11
section
open PySem PySem.W PyProof.Rows
set_option linter.unusedVariables false
set_option maxRecDepth 100000
set_option maxHeartbeats 0
namespace Mine
noncomputable section
theorem go11_0 : Turns 1184 c11 f11 sl11_0 ⟨110, 36, 110, 46⟩ sl11_1 ⟨110, 15, 110, 26⟩ := by intro w os k; kernel_rfl
theorem go11_1 : Turns 1184 c11 f11 sl11_1 ⟨110, 15, 110, 26⟩ sl11_2 ⟨110, 15, 110, 26⟩ := by intro w os k; kernel_rfl
theorem go11_2 : Turns 1184 c11 f11 sl11_2 ⟨110, 15, 110, 26⟩ sl11_3 ⟨110, 15, 110, 26⟩ := by intro w os k; kernel_rfl
theorem go11_3 : Turns 1184 c11 f11 sl11_3 ⟨110, 15, 110, 26⟩ sl11_4 ⟨110, 15, 110, 26⟩ := by intro w os k; kernel_rfl
theorem go11_4 : Turns 1184 c11 f11 sl11_4 ⟨110, 15, 110, 26⟩ sl11_5 ⟨110, 15, 110, 26⟩ := by intro w os k; kernel_rfl
theorem go11_5 : Turns 1184 c11 f11 sl11_5 ⟨110, 15, 110, 26⟩ sl11_6 ⟨110, 15, 110, 26⟩ := by intro w os k; kernel_rfl
theorem go11_6 : Turns 1184 c11 f11 sl11_6 ⟨110, 15, 110, 26⟩ sl11_7 ⟨110, 15, 110, 26⟩ := by intro w os k; kernel_rfl
theorem go11_7 : Turns 1184 c11 f11 sl11_7 ⟨110, 15, 110, 26⟩ sl11_8 ⟨110, 15, 110, 26⟩ := by intro w os k; kernel_rfl
theorem loop11 : Turns 9472 c11 f11 sl11_0 ⟨110, 36, 110, 46⟩ sl11_8 ⟨110, 15, 110, 26⟩ := (go11_0.and (go11_1.and (go11_2.and (go11_3.and (go11_4.and (go11_5.and (go11_6.and go11_7)))))))
theorem ends11_true_true (w : World) : EndsAt (world2 w true true) 42 28 11 ⟨109, 0, 109, 2⟩ ⟨110, 0, 110, 11⟩ sp11 sp12 c11 f11 sl11_0 ⟨110, 36, 110, 46⟩ sl11_8 ⟨110, 15, 110, 26⟩ := by intro os; kernel_rfl
theorem ends11_true_false (w : World) : EndsAt (world2 w true false) 42 28 11 ⟨109, 0, 109, 2⟩ ⟨110, 0, 110, 11⟩ sp11 sp12 c11 f11 sl11_0 ⟨110, 36, 110, 46⟩ sl11_8 ⟨110, 15, 110, 26⟩ := by intro os; kernel_rfl
theorem ends11_false_true (w : World) : EndsAt (world2 w false true) (42 + 10) 28 11 ⟨109, 0, 109, 2⟩ ⟨110, 0, 110, 11⟩ sp11 sp12 c11 f11 sl11_0 ⟨110, 36, 110, 46⟩ sl11_8 ⟨110, 15, 110, 26⟩ := by intro os; kernel_rfl
theorem ends11_false_false (w : World) : EndsAt (world2 w false false) (42 + 10) 28 11 ⟨109, 0, 109, 2⟩ ⟨110, 0, 110, 11⟩ sp11 sp12 c11 f11 sl11_0 ⟨110, 36, 110, 46⟩ sl11_8 ⟨110, 15, 110, 26⟩ := by intro os; kernel_rfl
theorem seg11 : Seg (42 + (9472 + 28) + 10) 11 12 ⟨109, 0, 109, 2⟩ ⟨110, 0, 110, 11⟩ sp11 sp12 := loop_seg (fun w b => loop11 (w.withFollow rowB b)) ends11_true_true ends11_true_false ends11_false_true ends11_false_false
end
end Mine
end

-- HSeg20
section
open PySem PySem.W PyProof.Rows
set_option linter.unusedVariables false
set_option maxRecDepth 100000
set_option maxHeartbeats 0
namespace Mine
noncomputable section
theorem go20_0 : Turns 1035 c20 f20 sl20_0 ⟨119, 9, 119, 74⟩ sl20_1 ⟨120, 4, 120, 25⟩ := by intro w os k; kernel_rfl
theorem go20_1 : Turns 1035 c20 f20 sl20_1 ⟨120, 4, 120, 25⟩ sl20_2 ⟨120, 4, 120, 25⟩ := by intro w os k; kernel_rfl
theorem go20_2 : Turns 945 c20 f20 sl20_2 ⟨120, 4, 120, 25⟩ sl20_3 ⟨120, 4, 120, 25⟩ := by intro w os k; kernel_rfl
theorem loop20 : Turns 3015 c20 f20 sl20_0 ⟨119, 9, 119, 74⟩ sl20_3 ⟨120, 4, 120, 25⟩ := (go20_0.and (go20_1.and go20_2))
theorem ends20_true_true (w : World) : EndsAt (world2 w true true) 44 18 20 ⟨118, 0, 118, 8⟩ ⟨119, 9, 119, 74⟩ sp20 sp21 c20 f20 sl20_0 ⟨119, 9, 119, 74⟩ sl20_3 ⟨120, 4, 120, 25⟩ := by intro os; kernel_rfl
theorem ends20_true_false (w : World) : EndsAt (world2 w true false) 44 18 20 ⟨118, 0, 118, 8⟩ ⟨119, 9, 119, 74⟩ sp20 sp21 c20 f20 sl20_0 ⟨119, 9, 119, 74⟩ sl20_3 ⟨120, 4, 120, 25⟩ := by intro os; kernel_rfl
theorem ends20_false_true (w : World) : EndsAt (world2 w false true) (44 + 0) 18 20 ⟨118, 0, 118, 8⟩ ⟨119, 9, 119, 74⟩ sp20 sp21 c20 f20 sl20_0 ⟨119, 9, 119, 74⟩ sl20_3 ⟨120, 4, 120, 25⟩ := by intro os; kernel_rfl
theorem ends20_false_false (w : World) : EndsAt (world2 w false false) (44 + 0) 18 20 ⟨118, 0, 118, 8⟩ ⟨119, 9, 119, 74⟩ sp20 sp21 c20 f20 sl20_0 ⟨119, 9, 119, 74⟩ sl20_3 ⟨120, 4, 120, 25⟩ := by intro os; kernel_rfl
theorem seg20 : Seg (44 + (3015 + 18) + 0) 20 21 ⟨118, 0, 118, 8⟩ ⟨119, 9, 119, 74⟩ sp20 sp21 := loop_seg (fun w b => loop20 (w.withFollow rowB b)) ends20_true_true ends20_true_false ends20_false_true ends20_false_false
end
end Mine
end

-- HSeg22
section
open PySem PySem.W PyProof.Rows
set_option linter.unusedVariables false
set_option maxRecDepth 100000
set_option maxHeartbeats 0
namespace Mine
noncomputable section
theorem go22_0 : Turns 1080 c22 f22 sl22_0 ⟨122, 9, 122, 110⟩ sl22_1 ⟨123, 4, 123, 23⟩ := by intro w os k; kernel_rfl
theorem go22_1 : Turns 1080 c22 f22 sl22_1 ⟨123, 4, 123, 23⟩ sl22_2 ⟨123, 4, 123, 23⟩ := by intro w os k; kernel_rfl
theorem go22_2 : Turns 1080 c22 f22 sl22_2 ⟨123, 4, 123, 23⟩ sl22_3 ⟨123, 4, 123, 23⟩ := by intro w os k; kernel_rfl
theorem go22_3 : Turns 1035 c22 f22 sl22_3 ⟨123, 4, 123, 23⟩ sl22_4 ⟨123, 4, 123, 23⟩ := by intro w os k; kernel_rfl
theorem loop22 : Turns 4275 c22 f22 sl22_0 ⟨122, 9, 122, 110⟩ sl22_4 ⟨123, 4, 123, 23⟩ := (go22_0.and (go22_1.and (go22_2.and go22_3)))
theorem ends22_true_true (w : World) : EndsAt (world2 w true true) 10 18 22 ⟨121, 0, 121, 28⟩ ⟨122, 9, 122, 110⟩ sp22 sp23 c22 f22 sl22_0 ⟨122, 9, 122, 110⟩ sl22_4 ⟨123, 4, 123, 23⟩ := by intro os; kernel_rfl
theorem ends22_true_false (w : World) : EndsAt (world2 w true false) 10 18 22 ⟨121, 0, 121, 28⟩ ⟨122, 9, 122, 110⟩ sp22 sp23 c22 f22 sl22_0 ⟨122, 9, 122, 110⟩ sl22_4 ⟨123, 4, 123, 23⟩ := by intro os; kernel_rfl
theorem ends22_false_true (w : World) : EndsAt (world2 w false true) (10 + 0) 18 22 ⟨121, 0, 121, 28⟩ ⟨122, 9, 122, 110⟩ sp22 sp23 c22 f22 sl22_0 ⟨122, 9, 122, 110⟩ sl22_4 ⟨123, 4, 123, 23⟩ := by intro os; kernel_rfl
theorem ends22_false_false (w : World) : EndsAt (world2 w false false) (10 + 0) 18 22 ⟨121, 0, 121, 28⟩ ⟨122, 9, 122, 110⟩ sp22 sp23 c22 f22 sl22_0 ⟨122, 9, 122, 110⟩ sl22_4 ⟨123, 4, 123, 23⟩ := by intro os; kernel_rfl
theorem seg22 : Seg (10 + (4275 + 18) + 0) 22 23 ⟨121, 0, 121, 28⟩ ⟨122, 9, 122, 110⟩ sp22 sp23 := loop_seg (fun w b => loop22 (w.withFollow rowB b)) ends22_true_true ends22_true_false ends22_false_true ends22_false_false
end
end Mine
end

-- HTop
section
open PySem PySem.W PyProof.Rows
set_option linter.unusedVariables false
set_option maxRecDepth 100000
set_option maxHeartbeats 0
namespace Mine
noncomputable section
abbrev impGoQ := PySem.W.Fast.tw14789777615569096658
theorem impGoQ_eq : @impGoT = impGoQ := PySem.W.Fast.te14789777615569096658
abbrev startQ := PySem.W.Fast.tw1435165496053646825
theorem startQ_eq : @start = startQ := PySem.W.Fast.te1435165496053646825
abbrev fenceQ := PySem.W.Fast.tw14289696077712309145
theorem fenceQ_eq : @fenceModules? = fenceQ := PySem.W.Fast.te14289696077712309145
abbrev topQ := PySem.W.Fast.tw15667345088766844465
theorem topQ_eq : @topGo = topQ := PySem.W.Fast.te15667345088766844465
def osZ : OsState := (startQ (opening P0)).1.os
def sZ : SharedT := ⟨.nil, 0, {}, #[], {}, 1, osZ⟩
def thZ : Thread := (startQ (opening P0)).2
theorem imp0 : ∀ w : World, (impGoQ tab (opening P0) w 798 sZ thZ).map (fun x => (x.1, x.2.atExitBegin)) = some (se w osZ, some []) := by intro w; kernel_rfl
theorem start0 : (start (opening P0)).1 = sZ.abs := by rw [startQ_eq]; kernel_rfl
theorem opens (w : World) : importEnds treeTable (opening P0) w (798 + 1) (start (opening P0)).1 (start (opening P0)).2 = some ⟨absHeap (te w.params) 28 {}, #[], {}, 276, (start (opening P0)).1.os⟩ := by
  obtain ⟨⟨s₁, t₁⟩, e1, e2⟩ := Option.map_eq_some_iff.mp (imp0 w)
  obtain ⟨rfl, e3⟩ := Prod.mk.inj e2
  have z : (start (opening P0)).2 = thZ := by rw [startQ_eq]; rfl
  rw [← impGoQ_eq, ← tab_eq] at e1
  have y := impGo_of e1
  rw [start0, z]
  refine imp_go y ?_
  unfold importEnds
  dsimp only at e3
  rw [e3]
  rfl
theorem fence0 : ∀ w : World, (fun os => (fenceModules? P0 ⟨absHeap (te w.params) 28 {}, #[], {}, 276, os⟩).map (fun s => (s.heap, s.gens, s.drawn, s.toks))) = fun _ => some (absHeap (t0 w.params) 28 {}, #[], {}, 276) := by
  rw [fenceQ_eq]; intro w; kernel_rfl
theorem open0 : ∀ w : World, (fencedOpening treeTable P0 w 40000).map (fun s => (s.heap, s.gens, s.drawn, s.toks)) = some (absHeap (t0 w.params) 28 {}, #[], {}, 276) :=
  open_cut (He := fun P => absHeap (te P) 28 {}) (H₀ := fun P => absHeap (t0 P) 28 {}) opens (by decide) fence0
theorem size0 : ∀ w : World, ((absHeap (t0 w.params) 28 {}).isNs mainGlobals && (#[] : Array GenState).size == 0, (absHeap (t0 w.params) 28 {}).objs.size, (absHeap (t0 w.params) 28 {}).nsMap mainGlobals "__annotations__") = (true, 28, some (.ref 6)) := by
  intro w; kernel_rfl
theorem pre0 (w : World) (os : OsState) : topGo treeTable P0 w 28 ann0 12 (s0 w os).abs (topStub P0) = some ((sa w os).abs, ⟨denote treeTable cE, cE, q0, [topFrame q0]⟩) := by
  rw [topQ_eq, denQ_eq, tab_eq]
  kernel_rfl
theorem block0 (w : World) (os : OsState) : segRun treeTable P0 w 28 ann0 1 1 (sa w os).abs (blockOf bodyE env cE q0 [topFrame q0]) = some (.next, (sa w os).abs, cE, q0) := by
  kernel_rfl
theorem fin0 (w : World) (os : OsState) : topRun treeTable P0 w 28 ann0 2 (sp50 w os).abs ⟨doneF .next, cE, ⟨308, 0, 322, 70⟩, [topFrame q0]⟩ = some (sp50 w os).abs := by
  kernel_rfl
theorem body0 : sts 0 5 ++ (sts 5 6 ++ (sts 6 11 ++ (sts 11 12 ++ (sts 12 20 ++ (sts 20 21 ++ (sts 21 22 ++ (sts 22 23 ++ (sts 23 26 ++ (sts 26 27 ++ (sts 27 32 ++ (sts 32 34 ++ (sts 34 35 ++ (sts 35 50 ++ []))))))))))))) = bodyE := by
  kernel_rfl
theorem run0 (w : World) (os : OsState) : ∃ M, Nat.ble M 40000 = true ∧ topRun treeTable P0 w 28 ann0 M (s0 w os).abs (topStub P0) = some (sp50 w os).abs := by
  have k := piece_nil (env := env) (fin0 w os)
  have k := piece_app (seg35.out w os) k
  have k := piece_app (seg34.out w os) k
  have k := piece_app (seg32.out w os) k
  have k := piece_app (seg27.out w os) k
  have k := piece_app (seg26.out w os) k
  have k := piece_app (seg23.out w os) k
  have k := piece_app (seg22.out w os) k
  have k := piece_app (seg21.out w os) k
  have k := piece_app (seg20.out w os) k
  have k := piece_app (seg12.out w os) k
  have k := piece_app (seg11.out w os) k
  have k := piece_app (seg6.out w os) k
  have k := piece_app (seg5.out w os) k
  have k := piece_app (seg0.out w os) k
  rw [body0] at k
  have k := piece_block (block0 w os) k
  have k := go_top (pre0 w os) k
  exact ⟨_, by decide, k⟩
end
end Mine
end

-- HLeft
section
open PySem PySem.W PyProof.Rows
set_option linter.unusedVariables false
set_option maxRecDepth 100000
set_option maxHeartbeats 0
namespace Mine
noncomputable section
def view : Program := { P0 with main := { P0.main with body := [stA 0, stA 50] } }
def loose : List Str := Str.ofString "_wall" :: Str.ofString "_twin_re_1" :: Str.ofString "translate" :: Str.ofString "_special_chars_map" :: Str.ofString "escape" :: Str.ofString "_translate" :: Str.ofString "_join_translated_parts" :: Str.ofString "NL" :: Str.ofString "_QUOPRI_MAP" :: Str.ofString "_QUOPRI_HEADER_MAP" :: Str.ofString "_QUOPRI_BODY_MAP" :: Str.ofString "ascii_lowercase" :: Str.ofString "ascii_uppercase" :: Str.ofString "ascii_letters" :: Str.ofString "digits" :: Str.ofString "hexdigits" :: Str.ofString "unquote" :: Str.ofString "quote" :: Str.ofString "_QUOPRI_BODY_ENCODE_MAP" :: Str.ofString "decode" :: Str.ofString "_plain_name" :: Str.ofString "ABCMeta" :: Str.ofString "_ABCLike" :: Str.ofString "_abc_plain_meta" :: Str.ofString "fspath" :: Str.ofString "_check_arg_types" :: Str.ofString "_get_sep" :: Str.ofString "join" :: Str.ofString "commonpath" :: Str.ofString "_law_way" :: Str.ofString "_law_takes" :: Str.ofString "_law_met" :: Str.ofString "_law_answers" :: []
abbrev H0 (P : Params) : Heap := absHeap (t0 P) 28 {}
abbrev H1 (P : Params) : Heap := absHeap (tp50 P) 250 {}
abbrev S1 (w : World) (os : OsState) : Shared := ⟨H1 w.params, #[], {}, 2296, os⟩
abbrev mods : List Str := importedModules P0.main.body
theorem look1 (w : World) (os : OsState) : (staticsOk mods (H0 w.params) (H1 w.params) && namesBound P0 (H1 w.params) && gensDone (S1 w os) && laidKept (H0 w.params) (H1 w.params)) = true := by kernel_rfl
theorem look2 (w : World) (os : OsState) : seen ((recsOf view).map (·.name)) (ownsOf view) [] { S1 w os with gens := #[] } = expectedOf view := by kernel_rfl
theorem look3 (w : World) (os : OsState) : (H1 w.params).bltView = bltViewBooted := by kernel_rfl
theorem look4 (w : World) (os : OsState) : ((H1 w.params).keysOk (looseW view loose) ((recsOf view).map (·.name)) ((litsOf view).map (·.1)) ((clssOf view (looseW view loose)).map (·.name))) = true := by kernel_rfl
theorem look5 (w : World) (os : OsState) : ((H1 w.params).accountedOkI mods && (H1 w.params).isNs mainGlobals && (H1 w.params).isNs builtinsNs && tablesOk view (H1 w.params) && (xlAt view [] (S1 w os) && recOk [] (S1 w os)) && ((S1 w os).gens.size == 0)) = true := by kernel_rfl
theorem look6 (w : World) (os : OsState) : tabsOk view (S1 w os) = true := by kernel_rfl
theorem look7 (w : World) (os : OsState) : pinSeenD view (drecsOf view) (S1 w os) = pinGoodD (drecsOf view) := by kernel_rfl
theorem look8 (w : World) (os : OsState) : plainSeenE view (looseW view loose) (S1 w os) = plainGoodE view (looseW view loose) := by kernel_rfl
theorem look9 (w : World) (os : OsState) : plainSeenD view loose (S1 w os) = plainGoodD view loose := by kernel_rfl
theorem look10 (w : World) (os : OsState) : wideSeen view (S1 w os) = wideGood view := by kernel_rfl
theorem look11 (w : World) (os : OsState) : clsSeenW view loose (S1 w os) = clsGoodW view loose := by kernel_rfl
theorem left0 {K : Params → Frag} {as : List Addr} (e : ∀ P, as.map (H1 P).get? = (K P).map fun p => some p.2) :
    LeftO P0 view loose (fun s => xlAt view [] s && recOk [] s) (fun s => as.map s.heap.get?) (fun w => (K w.params).map fun p => some p.2) 40000 := by
  refine LeftO.of_pieces (p := P0) (q := view) (loose := loose) (Xt := fun s => xlAt view [] s && recOk [] s) (Yf := fun s => as.map s.heap.get?) (Ya := fun w => (K w.params).map fun p => some p.2) (g0 := true) (H₀ := H0) (H₁ := H1) (gs₀ := #[]) (gs₁ := #[]) (d₀ := {}) (d₁ := {}) (k₀ := 276) (k₁ := 2296) (m₀ := 28) (ann := ann0) (M := 40000) (N := 40000) open0 size0 (fun w os => ?_) (by decide) (fun w => ?_)
  · obtain ⟨M, hM, k⟩ := run0 w os
    have k := topRun_mono (40000 - M) _ _ _ _ k
    rw [show M + (40000 - M) = 40000 by have := Nat.le_of_ble_eq_true hM; omega] at k
    exact k
  · funext os
    refine Prod.ext (look1 w os) (Prod.ext ?_ (e w.params))
    exact Prod.ext (look2 w os) (Prod.ext (look3 w os) (Prod.ext (by show (_ && _) = true; rw [look4 w os]; exact look5 w os) (Prod.ext (look6 w os) (Prod.ext (look7 w os) (Prod.ext (look8 w os) (Prod.ext (look9 w os) (Prod.ext (look10 w os) (look11 w os))))))))
end
end Mine
end

-- HHead0
section
open PySem PySem.W PyProof.Rows
set_option linter.unusedVariables false
set_option maxRecDepth 100000
set_option maxHeartbeats 400000
namespace Mine
abbrev row : OpenRow := PySem.Challenge.rw_rt0089_01.row
def lawD : DefRec := match stA 50 with
  | .FunctionDef n a b _ _ _ sc _ _ pos => ⟨n, a, b, sc, pos⟩
  | _ => ⟨Str.empty, default, [], default, default⟩
theorem law_def : defOf view row.name = some (lawD, []) := by kernel_rfl
theorem law_the : row.prog.theDef row.name = some (lawD.params, lawD.body, lawD.scope) := by kernel_rfl
theorem law_kw : kwWritten? lawD.params.kwonlyargs lawD.params.kw_defaults = some [] := by kernel_rfl
theorem law_ok : (chainsOk view && opensWell row.prog && (frees row.toRowW && row.within.isEmpty)) = true := by kernel_rfl
theorem law_bare : row.prog.bare := ⟨rfl, rfl, rfl, rfl, rfl, by decide +kernel⟩
theorem head1 {K : Params → Frag} {as : List Addr} (eK : ∀ P, as = (K P).map (·.1)) (e : ∀ P, as.map (H1 P).get? = (K P).map fun p => some p.2) (said : row.wellSaid = true) (hw : row.toRowW.promised)
    (call : WalkO view loose (XL view []) (InK K) row.toRowW lawD [] fun f vs => PySem.call f vs) : row.Holds :=
  holds_open (q := view) (loose := loose) (Xt := fun s => xlAt view [] s && recOk [] s) (XP := XL view []) (Yf := Hook.obs (kHook K as eK)) (Ya := Hook.val (kHook K as eK)) (YP := Hook.says (kHook K as eK)) (N := 40000) (d := lawD) (kwd := [])
    (left0 e) (Hook.of (kHook K as eK)) (Hook.keeps (kHook K as eK)) (fun s e => xl_of s (Bool.and_eq_true_iff.mp e).1) XL.keeps law_def law_the law_kw (fun s e => recFacts_of (Bool.and_eq_true_iff.mp e).2) rfl said law_ok law_bare hw call
end Mine
end

-- HHead
section
open PySem PySem.W PyProof.Rows
set_option linter.unusedVariables false
set_option maxRecDepth 100000
set_option maxHeartbeats 400000
namespace Mine
theorem head2 {K : Params → Frag} {as : List Addr} {eK : ∀ P, as = (K P).map (·.1)} {ts : List Addr} (H : Hook) (hH : H = kmHook K as eK ts) (said : row.wellSaid = true) (e : ∀ P, as.map (H1 P).get? = (K P).map fun p => some p.2) (hw : row.toRowW.promised)
    (call : WalkO view loose (XL view []) (InK K) row.toRowW lawD [] fun f vs => PySem.call f vs) : row.Holds := head1 eK e said hw call
local macro_rules
  | `(tactic| o_head $H:term) => `(tactic| (
      refine head2 $H rfl (by assumption) ?he ?hw ?hc
      (case he => (intro P; kernel_rfl))))
open_top hd for PySem.Challenge.rw_rt0089_01
end Mine
end

-- WLib
section
open PySem PySem.W PyProof.Rows PySem.Calls
set_option linter.unusedVariables false
set_option maxRecDepth 100000
set_option maxHeartbeats 40000000
namespace Mine
/-- where a call stands: the caller's frame, the frames below, the written part, the top's facts, room for d frames more -/
structure Cx (K : Frag) (p : Program) (loose : List Str) (mean : ExcName → Option Value) (mg mb : Str → Option Value) (d dp un : Nat) (cs : Scope) (outer : List Env) (A₀ : Around) (base h₀ : Heap) (L : Addr) (m : Str → Option Value) (h : Heap) : Prop where
  B : Below A₀ base outer h₀
  F : Fr h₀ L h m
  X : K.In h₀
  T : Top p loose mean mg mb h₀
  kind : cs.kind = .function
  room : dp + d < recursionLimit
  units : un + 8 * d < cLine
section
variable {w : World} {K : Frag} {p : Program} {loose : List Str} {mean : ExcName → Option Value} {mg mb : Str → Option Value} {d dp un : Nat} {gd : Option (List Code)} {cn : Str} {cs : Scope} {a : Addr} {ccd : Value} {cl : List (Str × Addr)} {outer : List Env} {A₀ : Around} {base h₀ : Heap} {L : Addr} {m : Str → Option Value} {s : Shared} {Q E : Value → Shared → Prop}
  {name qual : Str} {params : Arguments} {body : List Stmt} {scope : Scope} {dV kV doc pm cdv ct oc : Value} {an od : Option Addr} {osl : Array (Option Value)} {f : Addr} {pos : List Value} {kw : List (Str × Value)} {binds : List (Str × Value)}
/-- a def of the top is entered: its base is the whole heap as it stands -/
theorem enter (C : Cx K p loose mean mg mb (d + 1) dp un cs outer A₀ base h₀ L m s.heap)
    (ho : K.lookup f = some ⟨oc, od, .func (fnOf name qual params body scope dV kV doc pm an cdv ct), osl⟩) (hcd : codeIn K cdv qual = true)
    (hbind : BindsTo s (fnOf name qual params body scope dV kV doc pm an cdv ct) ⟨pos, kw⟩ binds) (hloc : ∀ y ∈ binds, scope.names.lookup y.1 = some .local)
    (h : ∀ g L' h₁ tk, s.heap.StaysIn g → g.StaysIn s.heap → Fr g L' h₁ (fun y => binds.reverse.lookup y) → News g L' h₁ [] →
      Cx K p loose mean mg mb d (dp + 1) (un + 3) scope (envX cn cs L a ccd cl :: outer) (ktrTop dp un gd cn cs L a ccd cl outer) base g L' (fun y => binds.reverse.lookup y) h₁ →
      wpAny (model PySem.Challenge.pw_rt0089_01 w) (ktrTop (dp + 1) (un + 3) gd qual scope L' f cdv [] (envX cn cs L a ccd cl :: outer)) (execs body (envOf qual scope L' f cdv))
        (fun fl s' => Q (match fl with | .ret v => v | _ => .none) s')
        (fun e s' => wpAny (model PySem.Challenge.pw_rt0089_01 w) (ktrTop (dp + 1) (un + 3) gd qual scope L' f cdv [] (envX cn cs L a ccd cl :: outer)) (leaving (envOf qual scope L' f cdv) e) (fun _ s'' => E e s'') (fun e' s'' => E e' s'') s')
        { s with heap := h₁, toks := tk })
    (hcell : ∀ x ∈ scope.names, x.2 ≠ .cell) (hco : scope.isCoroutine = false := by rfl) (hgen : scope.isGenerator = false := by rfl) (hk : scope.kind = .function := by rfl) :
    wpAny (model PySem.Challenge.pw_rt0089_01 w) (ktrTop dp un gd cn cs L a ccd cl outer) (call (.ref f) pos kw) Q E s := by
  refine wpAny_call ?_
  obtain ⟨FG, BG, st, _⟩ := groundX (R := fun _ _ => True) (A := ktrTop dp un gd cn cs L a ccd cl outer) (env := envX cn cs L a ccd cl) C.B C.F (News.nil (h := s.heap)) rfl rfl C.kind
  have X := C.X.keeps C.F.keep
  refine codeAny_call_def (fd := fnOf name qual params body scope dV kV doc pm an cdv ct) (body := body) (binds := binds) (by have := C.room; show dp < recursionLimit; omega) (X _ _ ho) rfl (C.T.nolimit.keeps C.F.keep) (codeRec_of X hcd) rfl hbind hcell hloc (fun h₁ hns hk₁ => ?_) hco hgen hk
  exact h s.heap s.heap.objs.size h₁ _ (fun _ _ e => e) (fun _ _ e => e) ⟨hns, hk₁, Nat.le_refl _⟩ News.nil ⟨BG, ⟨hns, hk₁, Nat.le_refl _⟩, X, C.T.keeps C.F.keep, hk, by have := C.room; omega, by have := C.units; omega⟩
/-- the same for a def some of whose names are cells: the cells stand on the ledger -/
theorem enterC {mL mC : Str → Option Value} (C : Cx K p loose mean mg mb (d + 1) dp un cs outer A₀ base h₀ L m s.heap)
    (ho : K.lookup f = some ⟨oc, od, .func (fnOf name qual params body scope dV kV doc pm an cdv ct), osl⟩) (hcd : codeIn K cdv qual = true)
    (hbind : BindsTo s (fnOf name qual params body scope dV kV doc pm an cdv ct) ⟨pos, kw⟩ binds)
    (hkind : (binds.all fun y => scope.names.lookup y.1 == some .local || scope.names.lookup y.1 == some .cell) = true)
    (eL : bindL (envOfC qual scope 0 f cdv).kindOf binds (fun _ => none) = mL) (eC : bindC (envOfC qual scope 0 f cdv).kindOf binds (fun _ => none) = mC)
    (hnd : ((cellsFrom 0 scope.names []).map (·.1)).Nodup)
    (h : ∀ g L' h₁ tk cells, s.heap.StaysIn g → g.StaysIn s.heap → Fr g L' h₁ mL → News g L' h₁ cells →
      CellsAre mC (cellsFrom (L' + 1) scope.names []) cells →
      Cx K p loose mean mg mb d (dp + 1) (un + 3) scope (envX cn cs L a ccd cl :: outer) (ktrTop dp un gd cn cs L a ccd cl outer) base g L' mL h₁ →
      wpAny (model PySem.Challenge.pw_rt0089_01 w) (ktrTop (dp + 1) (un + 3) gd qual scope L' f cdv (cellsFrom (L' + 1) scope.names []) (envX cn cs L a ccd cl :: outer)) (execs body (envOfC qual scope L' f cdv))
        (fun fl s' => Q (match fl with | .ret v => v | _ => .none) s')
        (fun e s' => wpAny (model PySem.Challenge.pw_rt0089_01 w) (ktrTop (dp + 1) (un + 3) gd qual scope L' f cdv (cellsFrom (L' + 1) scope.names []) (envX cn cs L a ccd cl :: outer)) (leaving (envOfC qual scope L' f cdv) e) (fun _ s'' => E e s'') (fun e' s'' => E e' s'') s')
        { s with heap := h₁, toks := tk })
    (hco : scope.isCoroutine = false := by rfl) (hgen : scope.isGenerator = false := by rfl) (hk : scope.kind = .function := by rfl) :
    wpAny (model PySem.Challenge.pw_rt0089_01 w) (ktrTop dp un gd cn cs L a ccd cl outer) (call (.ref f) pos kw) Q E s := by
  subst eL eC
  refine wpAny_call ?_
  obtain ⟨FG, BG, st, _⟩ := groundX (R := fun _ _ => True) (A := ktrTop dp un gd cn cs L a ccd cl outer) (env := envX cn cs L a ccd cl) C.B C.F (News.nil (h := s.heap)) rfl rfl C.kind
  have X := C.X.keeps C.F.keep
  have T := C.T.keeps C.F.keep
  refine codeAny_call_function (by have := C.room; show dp < recursionLimit; omega) (X _ _ ho) rfl hco hgen rfl (codeRec_of X hcd) (hbind _ _ _ _ ?_)
  refine wpAny_newFunctionEnv_cells hk (kindsX hkind _) fun env' he s' x => ?_
  subst he
  refine ⟨T.nolimit.keeps x.toInCall.keep, codeAny_func ?_⟩
  obtain ⟨h₁, tk, rfl, _⟩ := x.done
  have hk₁ := x.toInCall.keep
  obtain ⟨cells, NC, Y⟩ := Cl.news (h₀ := s.heap) (Nat.le_refl _) fun n c hm => ⟨x.cell n c (lookup_of_mem_nodup (cellsFrom_names scope.names 0 (s.heap.objs.size + 1) [] [] rfl ▸ hnd) hm), x.above n c hm⟩
  exact h s.heap s.heap.objs.size h₁ tk cells (fun _ _ e => e) (fun _ _ e => e) ⟨x.toInCall.ns, hk₁, Nat.le_refl _⟩ NC Y ⟨BG, ⟨x.toInCall.ns, hk₁, Nat.le_refl _⟩, X, T, hk, by have := C.room; omega, by have := C.units; omega⟩
/-- the same for a def that takes the rest of its arguments as a tuple: the tuple stands on the ledger -/
theorem enterRest {g₁ : Addr → Option (List (Str × Value))} {rb : Addr → List (Str × Value)} {vs : List Value} (C : Cx K p loose mean mg mb (d + 1) dp un cs outer A₀ base h₀ L m s.heap)
    (ho : K.lookup f = some ⟨oc, od, .func (fnOf name qual params body scope dV kV doc pm an cdv ct), osl⟩) (hcd : codeIn K cdv qual = true)
    (hp : peek1 K ⟨PySem.Challenge.pw_rt0089_01, w.params⟩ (bindArgs (fnOf name qual params body scope dV kV doc pm an cdv ct) ⟨pos, kw⟩) = some (({ cls := .type "tuple", data := .seq vs.toArray } : Obj), g₁))
    (hg₁ : ∀ D, g₁ D = some (rb D)) (hloc : ∀ D, ∀ y ∈ rb D, scope.names.lookup y.1 = some .local)
    (h : ∀ D g L' h₁ tk, s.heap.StaysIn g → Fr g L' h₁ (fun y => (rb D).reverse.lookup y) → News g L' h₁ [(D, ({ cls := .type "tuple", data := .seq vs.toArray } : Obj))] →
      Cx K p loose mean mg mb d (dp + 1) (un + 3) scope (envX cn cs L a ccd cl :: outer) (ktrTop dp un gd cn cs L a ccd cl outer) base g L' (fun y => (rb D).reverse.lookup y) h₁ →
      wpAny (model PySem.Challenge.pw_rt0089_01 w) (ktrTop (dp + 1) (un + 3) gd qual scope L' f cdv [] (envX cn cs L a ccd cl :: outer)) (execs body (envOf qual scope L' f cdv))
        (fun fl s' => Q (match fl with | .ret v => v | _ => .none) s')
        (fun e s' => wpAny (model PySem.Challenge.pw_rt0089_01 w) (ktrTop (dp + 1) (un + 3) gd qual scope L' f cdv [] (envX cn cs L a ccd cl :: outer)) (leaving (envOf qual scope L' f cdv) e) (fun _ s'' => E e s'') (fun e' s'' => E e' s'') s')
        { s with heap := h₁, toks := tk })
    (hcell : ∀ x ∈ scope.names, x.2 ≠ .cell) (hco : scope.isCoroutine = false := by rfl) (hgen : scope.isGenerator = false := by rfl) (hk : scope.kind = .function := by rfl) :
    wpAny (model PySem.Challenge.pw_rt0089_01 w) (ktrTop dp un gd cn cs L a ccd cl outer) (call (.ref f) pos kw) Q E s := by
  refine wpAny_call ?_
  have X := C.X.keeps C.F.keep
  have T := C.T.keeps C.F.keep
  refine codeAny_call_function (fd := fnOf name qual params body scope dV kV doc pm an cdv ct) (body := body) (by have := C.room; show dp < recursionLimit; omega) (X _ _ ho) rfl hco hgen rfl (codeRec_of X hcd) ?_
  have F₀ : Fr s.heap L s.heap m → True := fun _ => trivial
  have nf : ∀ D h', Fr h₀ L h' m → News h₀ L h' ((D, ({ cls := .type "tuple", data := .seq vs.toArray } : Obj)) :: []) → h' = s.heap.push { cls := .type "tuple", data := .seq vs.toArray } → True := fun _ _ _ _ _ => trivial
  have key : ∀ (t : Sem (List (Str × Value))) (g₁ : Addr → Option (List (Str × Value))) (Qb : List (Str × Value) → Shared → Prop) (Eb : Value → Shared → Prop) (A : Around), peek1 K ⟨PySem.Challenge.pw_rt0089_01, w.params⟩ t = some (({ cls := .type "tuple", data := .seq vs.toArray } : Obj), g₁) → (∀ D, g₁ D = some (rb D)) →
      Qb (rb s.heap.objs.size) { s with heap := s.heap.push { cls := .type "tuple", data := .seq vs.toArray } } → wpAny (model PySem.Challenge.pw_rt0089_01 w) A t Qb Eb s := by
    intro t
    induction t with
    | rule _ k ih => intro g Qb Eb A e hg q Γ p hΓ; exact ih () g Qb Eb A e hg q Γ p hΓ
    | point _ k ih => intro g Qb Eb A e hg q Γ p hΓ; exact ih () g Qb Eb A e hg q Γ p hΓ
    | ask k ih => intro g Qb Eb A e hg q Γ p hΓ; exact ih _ g Qb Eb A e hg q Γ p hΓ
    | load a _ k ih =>
      intro g Qb Eb A e hg q Γ p hΓ
      simp only [peek1] at e
      split at e
      · rename_i ob ho; exact ⟨ob, X _ _ ho, ih ob g Qb Eb A e hg q Γ p hΓ⟩
      · cases e
    | alloc ob k _ =>
      intro g Qb Eb A e hg q
      have e : some (ob, fun D => PySem.W.peek K ⟨PySem.Challenge.pw_rt0089_01, w.params⟩ (k D)) = some (({ cls := .type "tuple", data := .seq vs.toArray } : Obj), g) := e
      obtain ⟨e1, e2⟩ := Prod.mk.inj (Option.some.inj e)
      subst e1
      subst e2
      have X' : K.In (s.heap.push { cls := .type "tuple", data := .seq vs.toArray }) := X.keeps fun b x hb => Heap.get?_push_of_some _ hb
      show wpAny _ A (alloc _ >>= k) Qb Eb s
      refine wpAny_bind (wpAny_alloc ?_)
      exact (Looks.of_peek (M := model PySem.Challenge.pw_rt0089_01 w) (h := s.heap.push { cls := .type "tuple", data := .seq vs.toArray }) X' (hg s.heap.objs.size)).here (s := { s with heap := s.heap.push { cls := .type "tuple", data := .seq vs.toArray } }) q
    | _ => intro g Qb Eb A e; cases e
  refine key _ g₁ _ _ _ hp hg₁ ?_
  clear key nf F₀
  have F1 : Fr h₀ L (s.heap.push { cls := .type "tuple", data := .seq vs.toArray }) m := C.F.push _
  have N1 : News h₀ L (s.heap.push { cls := .type "tuple", data := .seq vs.toArray }) [(s.heap.objs.size, ({ cls := .type "tuple", data := .seq vs.toArray } : Obj))] := News.push C.F News.nil _
  obtain ⟨FG, BG, st, _⟩ := groundX (s := { s with heap := s.heap.push { cls := .type "tuple", data := .seq vs.toArray } }) (R := fun _ _ => True) (A := ktrTop dp un gd cn cs L a ccd cl outer) (env := envX cn cs L a ccd cl) C.B F1 N1 rfl rfl C.kind
  have hst : s.heap.StaysIn (hideAll (s.heap.push { cls := .type "tuple", data := .seq vs.toArray }) [s.heap.objs.size]) := fun b o e => hideAll_get _ (Heap.get?_push_of_some _ e) (fun q => by
    rw [List.mem_singleton.mp q] at e; exact absurd (Heap.lt_size e) (Nat.lt_irrefl _))
  refine wpAny_newFunctionEnv hcell (hloc _) (fun h₁ hns hsb => ⟨(T.nolimit.keeps fun b o e => Heap.get?_push_of_some _ e).fresh _ hsb, codeAny_func ?_⟩) hk
  have hk₁ : ∀ b o, (s.heap.push { cls := .type "tuple", data := .seq vs.toArray }).get? b = some o → h₁.get? b = some o := fun b o e => hsb.extBut b o (Nat.ne_of_lt (Heap.lt_size e)) (Heap.get?_push_of_some _ e)
  have FL : Fr (hideAll (s.heap.push { cls := .type "tuple", data := .seq vs.toArray }) [s.heap.objs.size]) (s.heap.push { cls := .type "tuple", data := .seq vs.toArray }).objs.size h₁ (fun y => (rb s.heap.objs.size).reverse.lookup y) := ⟨hns, fun b o e => hk₁ b o (of_hideAll _ e), Nat.le_of_eq (hideAll_size _ _)⟩
  refine h s.heap.objs.size _ _ h₁ _ hst FL (fun p hp => ?_) ⟨BG, FL, C.X.keeps st, C.T.keeps st, hk, by have := C.room; omega, by have := C.units; omega⟩
  exact ⟨hk₁ _ _ (N1 p hp).1, Nat.ne_of_lt (Heap.lt_size (N1 p hp).1), hideAll_none _ (List.mem_map_of_mem hp)⟩
theorem Cx.at {d' : Nat} {m' : Str → Option Value} {h h' : Heap} (C : Cx K p loose mean mg mb d dp un cs outer A₀ base h₀ L m h) (F : Fr h₀ L h' m') (le : d' ≤ d) : Cx K p loose mean mg mb d' dp un cs outer A₀ base h₀ L m' h' :=
  ⟨C.B, F, C.X, C.T, C.kind, by have := C.room; omega, by have := C.units; omega⟩
theorem fr_stays {m : Str → Option Value} {h h' : Heap} (F : Fr h₀ L h m) (k : h.StaysIn h') : Fr h₀ L h' m :=
  let ⟨o, a1, a2, hL, r⟩ := F.ns
  ⟨⟨o, a1, a2, k _ _ hL, r⟩, fun b o e => k _ _ (F.keep b o e), F.above⟩
theorem news_stays {news : List (Addr × Obj)} {h h' : Heap} (N : News h₀ L h news) (k : h.StaysIn h') : News h₀ L h' news :=
  fun p hp => ⟨k _ _ (N p hp).1, (N p hp).2⟩
/-- what a call of a def of the top keeps: all that stood; and one value comes back -/
noncomputable abbrev Gives (s : Shared) (Q : Value → Shared → Prop) (v : Value) : Prop := ∀ h' tk', s.heap.StaysIn h' → Q v { s with heap := h', toks := tk' }
end
section
open LCg LCt
variable {prog : Program} {w : World} {A : Around} {s : Shared} {h₀ : Heap} {L : Addr} {m : Str → Option Value} {env : Env}
theorem compEnd_mono {s₁ : Shared} {I C D : Addr} {oI oC oD : Obj} {S : List (Addr × Obj) → Prop} {r r' : Value → List (Addr × Obj) → Prop} {y : Value} {s₂ : Shared} (h : CompEnd h₀ L m s₁ I oI C oC D oD S r y s₂) (k : ∀ nw, r y nw → r' y nw) : CompEnd h₀ L m s₁ I oI C oC D oD S r' y s₂ := by
  obtain ⟨h', tk, nw, e, F, N, o, hS, hr⟩ := h
  exact ⟨h', tk, nw, e, F, N, o, hS, k _ hr⟩
/-- a comprehension with a test, of any length, by what holds of the list so far -/
theorem compT_ind {ct elt : PySem.Expr} {x : Str} {scope : Scope} {cl : List (Str × Addr)} {S : List (Addr × Obj) → Prop} {P : Nat → Value → Prop} {Fin : List Value → List (Addr × Obj) → Prop} {n : Nat} {news : List (Addr × Obj)}
    (Rel : Nat → List Value → List (Addr × Obj) → Prop) (h0 : Rel 0 [] news)
    (step : ∀ i ys nw, i < n → Rel i ys nw → ∀ v I oI C oC D m₂ h tk (E' : Value → Shared → Prop), P i v → NsObj oC m₂ → m₂ x = some v → Fr h₀ L h m → News h₀ L h ((I, oI) :: (C, oC) :: (D, lst ys) :: nw) → Off3 I C D nw → ((@Ne Nat I C) ∧ (@Ne Nat I D) ∧ (@Ne Nat C D)) →
      wpAny (model prog w) A (isTrue ct (compEnvC scope cl C env) (eval ct (compEnvC scope cl C env))) (fun ok s' => if ok = true then
        wpAny (model prog w) A (eval elt (compEnvC scope cl C env)) (CompEnd h₀ L m { s with heap := h, toks := tk } I oI C oC D (lst ys) S (fun y nw' => Rel (i + 1) (ys ++ [y]) nw')) E' s'
        else CompEnd h₀ L m { s with heap := h, toks := tk } I oI C oC D (lst ys) S (fun _ nw' => Rel (i + 1) ys nw') Value.none s') E' { s with heap := h, toks := tk })
    (fin : ∀ ys nw, Rel n ys nw → Fin ys nw) : CompRestT prog w A h₀ L m env ct elt x scope cl s S P Fin n 0 [] news := by
  have key : ∀ k i ys nw, i + k = n → Rel i ys nw → CompRestT prog w A h₀ L m env ct elt x scope cl s S P Fin k i ys nw := by
    intro k
    induction k with
    | zero => intro i ys nw e r; obtain rfl : i = n := e; exact CompRestT.zero (fin _ _ r)
    | succ k ih =>
      intro i ys nw e r
      refine CompRestT.succ fun v I oI C oC D m₂ h tk E' hv hC hx F N off ne => ?_
      refine wpAny_mono (step i ys nw (by omega) r v I oI C oC D m₂ h tk E' hv hC hx F N off ne) (fun ok s' q => ?_) fun _ _ e => e
      cases ok with
      | true =>
        simp only [if_true] at q ⊢
        exact wpAny_mono q (fun y s'' z => compEnd_mono z fun nw' hr => ih _ _ _ (by omega) hr) fun _ _ e => e
      | false =>
        simp only [Bool.false_eq_true, if_false] at q ⊢
        exact compEnd_mono q fun nw' hr => ih _ _ _ (by omega) hr
  exact key n 0 [] news (by omega) h0
theorem compU_ind {elt : PySem.Expr} {x : Str} {scope : Scope} {cl : List (Str × Addr)} {S : List (Addr × Obj) → Prop} {P : Nat → Value → Prop} {Fin : List Value → List (Addr × Obj) → Prop} {n : Nat} {news : List (Addr × Obj)}
    (Rel : Nat → List Value → List (Addr × Obj) → Prop) (h0 : Rel 0 [] news)
    (step : ∀ i ys nw, i < n → Rel i ys nw → ∀ v I oI C oC D m₂ h tk (E' : Value → Shared → Prop), P i v → NsObj oC m₂ → m₂ x = some v → Fr h₀ L h m → News h₀ L h ((I, oI) :: (C, oC) :: (D, lst ys) :: nw) → Off3 I C D nw → ((@Ne Nat I C) ∧ (@Ne Nat I D) ∧ (@Ne Nat C D)) →
      wpAny (model prog w) A (eval elt (compEnvC scope cl C env)) (CompEnd h₀ L m { s with heap := h, toks := tk } I oI C oC D (lst ys) S (fun y nw' => Rel (i + 1) (ys ++ [y]) nw')) E' { s with heap := h, toks := tk })
    (fin : ∀ ys nw, Rel n ys nw → Fin ys nw) : CompRest prog w A h₀ L m env elt x scope cl s S P Fin n 0 [] news := by
  have key : ∀ k i ys nw, i + k = n → Rel i ys nw → CompRest prog w A h₀ L m env elt x scope cl s S P Fin k i ys nw := by
    intro k
    induction k with
    | zero => intro i ys nw e r; obtain rfl : i = n := e; exact CompRest.zero (fin _ _ r)
    | succ k ih =>
      intro i ys nw e r
      refine CompRest.succ fun v I oI C oC D m₂ h tk E' hv hC hx F N off ne => ?_
      exact wpAny_mono (step i ys nw (by omega) r v I oI C oC D m₂ h tk E' hv hC hx F N off ne) (fun y s'' z => compEnd_mono z fun nw' hr => ih _ _ _ (by omega) hr) fun _ _ e => e
  exact key n 0 [] news (by omega) h0
end
end Mine
end

-- WLw
section
open PySem PySem.W PyProof.Rows PySem.Calls
set_option linter.unusedVariables false
set_option maxRecDepth 100000
set_option maxHeartbeats 40000000
namespace Mine
noncomputable def lwBody : List Stmt := match stA 50 with
  | .FunctionDef n a b _ _ _ sc _ _ pos => b
  | _ => []
noncomputable def lwScope : Scope := match stA 50 with
  | .FunctionDef n a b _ _ _ sc _ _ pos => sc
  | _ => default
noncomputable def lwS (i : Nat) : Stmt := lwBody.getD i (stA 0)
noncomputable def octA (ns : List Int) : Nat := (ns.sum % 256).toNat
noncomputable def octB (ns : List Int) : Nat := ((ns.sum + 1 + ns.sum / 256 % 255) % 256).toNat
noncomputable def stp (ns : List Int) : List Int := ns.take 7 ++ List.drop (ns.take 7).length [0, 7, 2, 1, 6]
theorem octA_lt (ns : List Int) : octA ns < 256 := by unfold octA; omega
theorem octB_lt (ns : List Int) : octB ns < 256 := by unfold octB; omega
theorem oct_ne (ns : List Int) : octA ns ≠ octB ns := by unfold octA octB; omega
theorem octA_eq (ns : List Int) : ns.sum.fmod 256 = ((octA ns : Nat) : Int) := by
  unfold octA; rw [Int.fmod_eq_emod_of_nonneg _ (by decide)]; omega
theorem octB_eq (ns : List Int) : (ns.sum + 1 + (ns.sum.fdiv 256).fmod 255).fmod 256 = ((octB ns : Nat) : Int) := by
  unfold octB; rw [Int.fmod_eq_emod_of_nonneg _ (by decide), Int.fmod_eq_emod_of_nonneg _ (by decide), Int.fdiv_eq_ediv_of_nonneg _ (by decide)]; omega
theorem stp_len (ns : List Int) : 5 ≤ (stp ns).length ∧ (stp ns).length ≤ 7 := by
  unfold stp
  rw [List.length_append, List.length_drop, List.length_take]
  simp only [List.length_cons, List.length_nil]
  omega
theorem news_pick4 {h₀ : Heap} {L : Addr} {h : Heap} {a b c d : Addr × Obj} {news : List (Addr × Obj)} (N : News h₀ L h news) (ha : a ∈ news) (hb : b ∈ news) (hc : c ∈ news) (he : d ∈ news) : News h₀ L h [a, b, c, d] := fun p hp => by
  rcases List.mem_cons.mp hp with rfl | hp
  · exact N _ ha
  rcases List.mem_cons.mp hp with rfl | hp
  · exact N _ hb
  rcases List.mem_cons.mp hp with rfl | hp
  · exact N _ hc
  · rw [List.mem_singleton.mp hp]; exact N _ he
theorem news_pick5 {h₀ : Heap} {L : Addr} {h : Heap} {a b c d e : Addr × Obj} {news : List (Addr × Obj)} (N : News h₀ L h news) (ha : a ∈ news) (hb : b ∈ news) (hc : c ∈ news) (he : d ∈ news) (hf : e ∈ news) : News h₀ L h [a, b, c, d, e] := fun p hp => by
  rcases List.mem_cons.mp hp with rfl | hp
  · exact N _ ha
  · exact news_pick4 N hb hc he hf p hp
end Mine
end

-- WInt
section
open PySem PySem.W PyProof.Rows PySem.Calls PySem.NumText
set_option linter.unusedVariables false
set_option maxRecDepth 100000
set_option maxHeartbeats 40000000
namespace Mine
noncomputable def hx (n : Nat) : Nat := if n < 10 then 48 + n else 55 + n
noncomputable def rdO (n : int_private% "Numeral") : Option Int := (int_private% "Numeral.rec") (motive := fun _ => Option Int) none (fun _ => none) none (fun i => some i) n
theorem rdO_some {n : int_private% "Numeral"} {i : Int} (h : rdO n = some i) : n = (int_private% "Numeral.value") i := by
  cases n <;> first | cases h; rfl | cases h
theorem rd_hex : ∀ a < 16, ∀ b < 16, rdO ((int_private% "readNumeral") 0 16 [hx a, hx b]) = some ((a * 16 + b : Nat) : Int) := by decide +kernel
theorem hx_small : ∀ a < 16, hx a < 128 ∧ (hx a != 0) = true := by decide +kernel
theorem wp_text16 {M : Model} {A : Around} {E : Value → Shared → Prop} {s : Shared} {Q : Value → Shared → Prop} {v : Value} {text : List Nat} {n : Int}
    (hs : (text.takeWhile (· != 0)).length ≤ 640) (hr : (int_private% "readNumeral") 0 16 (text.takeWhile (· != 0)) = (int_private% "Numeral.value") n)
    (ha : ((text.takeWhile (· != 0)).length == text.length) = true) (h : Q (.int n s.toks) { s with toks := s.toks + 1 }) :
    wpAny M A ((int_private% "intFromText") v text 16) Q E s := by
  obtain ⟨hp, g, d, tk, os⟩ := s
  repeat (any_goals (first
    | assumption
    | (with_reducible refine wpAny_ite_true (decide_eq_true hs) ?_)
    | (with_reducible refine wpAny_ite_true (decide_eq_true ha) ?_)
    | wp_step))
  all_goals (try rw [hr])
  all_goals (try dsimp only)
  repeat (any_goals (first
    | assumption
    | (with_reducible refine wpAny_ite_true (decide_eq_true hs) ?_)
    | (with_reducible refine wpAny_ite_true (decide_eq_true ha) ?_)
    | wp_step))
structure Hid (p : Prop) : Prop where
  out : p
theorem gives_hex {a b : Nat} {u k : Tok} (ha : a < 16) (hb : b < 16) : PySem.Gives (Builtin.«int.__new__» ⟨[.type "int", .str ⟨#[hx a, hx b]⟩ u, .int 16 k], []⟩) (.int ((a * 16 + b : Nat) : Int)) :=
  .of_wp fun M A E s Q h => by
    obtain ⟨hp, g, d, tk, os⟩ := s
    have f1 := F.conv_sub_int
    have f2 := F.madeHere_int
    have f6 : typeOf (.str ⟨#[hx a, hx b]⟩ u) = pure (.type "str") := rfl
    have hk : Hid (([hx a, hx b].takeWhile (· != 0)).length ≤ 640 ∧ (int_private% "readNumeral") 0 16 ([hx a, hx b].takeWhile (· != 0)) = (int_private% "Numeral.value") ((a * 16 + b : Nat) : Int) ∧ (([hx a, hx b].takeWhile (· != 0)).length == [hx a, hx b].length) = true) := by
      have e : [hx a, hx b].takeWhile (· != 0) = [hx a, hx b] := by simp only [List.takeWhile, (hx_small a ha).2, (hx_small b hb).2]
      rw [e]
      exact ⟨⟨by simp, rdO_some (rd_hex a ha b hb), by simp⟩⟩
    have hall : ((⟨#[hx a, hx b]⟩ : Str).cps.all (· < 128)) = true := by
      simp [(hx_small a ha).1, (hx_small b hb).1]
    repeat (any_goals (first
      | assumption
      | ((with_reducible show wpAny _ _ ((int_private% "intFromText") _ _ _) _ _ _); rw [if_pos hall]; refine wp_text16 hk.out.1 hk.out.2.1 hk.out.2.2 ?_)
      | wp_step))
    all_goals first | exact ⟨_, rfl, h⟩ | skip
theorem typeCall_int_2 (a b : Value) : checkTypeCall "int" ⟨[a, b], []⟩ = pure () := by kernel_rfl
theorem newCall_int_2 (a b : Value) : checkBuiltinCall "int.__new__" ⟨[.type "int", a, b], []⟩ = pure () := by kernel_rfl
theorem args_init_3 (o a b : Value) : argsOk "object.__init__" ⟨[o, a, b], []⟩ := by unfold argsOk; kernel_rfl
/-- what quote gives for an octet -/
noncomputable def qs (o : Nat) : Str := ⟨#[61, hx (o / 16), hx (o % 16)]⟩
theorem qs_slice (o : Nat) : Txt.slice (qs o) (some 1) (some 3) = ⟨#[hx (o / 16), hx (o % 16)]⟩ := by rfl
theorem call_hex {prog : Program} {w : World} {A : Around} {E : Value → Shared → Prop} {s : Shared} {o : Nat} {t k : Tok} {Q : Value → Shared → Prop} (ho : o < 256) (h : Q (.int (o : Int) s.toks) { s with toks := s.toks + 1 }) :
    wpAny (model prog w) A (call (.type "int") [.str (Txt.slice (qs o) (some 1) (some 3)) t, .int 16 k]) Q E s := by
  rw [qs_slice]
  refine callType_new F.called_int F.newNe_int (typeCall_int_2 _ _) (newCall_int_2 _ _) (fun obj => args_init_3 obj _ _) F.entry_int_new (gives_hex (by omega) (by omega)).meets ?_
  have e : o / 16 * 16 + o % 16 = o := by omega
  show (Made.int _).post _ s
  rw [e]
  exact ⟨rfl, h⟩
end Mine
end

-- WTx
section
open PySem PySem.Builtin PySem.Builtin.Str PySem.StrLaws
set_option linter.unusedVariables false
set_option maxRecDepth 100000
namespace Mine
/-- a text of its signs -/
noncomputable abbrev tS (l : List Nat) : Str := ⟨l.toArray⟩
noncomputable def jn (y : List Nat) : List (List Nat) → List Nat
  | [] => []
  | [p] => p
  | p :: q :: r => p ++ y ++ jn y (q :: r)
theorem tS_len (l : List Nat) : (tS l).length = l.length := by simp [Str.length]
theorem tS_app (a b : List Nat) : tS a ++ tS b = tS (a ++ b) := Str.ext' (by simp [Str.cps_append])
theorem at_take {x y : List Nat} {k : Nat} (h : At (tS x) (tS y) (tS x).length k) : k + y.length ≤ x.length ∧ (x.drop k).take y.length = y := by
  obtain ⟨h1, h2⟩ := h
  rw [subAt_eq] at h2
  rw [tS_len, tS_len] at h1
  refine ⟨h1, ?_⟩
  have := eq_of_beq h2
  simpa [tS_len] using this
theorem at_of {x y : List Nat} {k : Nat} (h0 : 1 ≤ y.length) (h : (x.drop k).take y.length = y) : At (tS x) (tS y) (tS x).length k := by
  refine ⟨?_, ?_⟩
  · have e := congrArg List.length h
    rw [List.length_take, List.length_drop] at e
    rw [tS_len, tS_len]
    omega
  · rw [subAt_eq]
    simp only [tS_len]
    simpa using h

theorem at_head {x y' : List Nat} {c k : Nat} (h : At (tS x) (tS (c :: y')) (tS x).length k) : x[k]? = some c := by
  have h2 := (at_take h).2
  have e : ((x.drop k).take (c :: y').length)[0]? = some c := by rw [h2]; rfl
  rw [List.getElem?_take_of_lt (by simp), List.getElem?_drop] at e
  simpa using e
theorem sub_tS (x : List Nat) (i j : Nat) : strSub (tS x) i j = tS ((x.drop i).take (j - i)) := by
  apply Str.ext'
  apply Array.toList_inj.mp
  rw [strSub_toList]
theorem parts_jn (c : Nat) (y' : List Nat) : ∀ (ps : List (List Nat)), ps ≠ [] → (∀ p ∈ ps, c ∉ p) → ∀ (x pre : List Nat) (cuts : List Nat) (f : Nat), x = pre ++ jn (c :: y') ps →
    ChainG (tS x) (tS (c :: y')) (tS x).length pre.length cuts f → (∀ k, f ≤ k → ¬ At (tS x) (tS (c :: y')) (tS x).length k) → partsFrom (tS x) (tS (c :: y')).length pre.length cuts = ps.map tS := by
  intro ps
  induction ps with
  | nil => intro h; exact absurd rfl h
  | cons p r ih =>
    intro _ hf x pre cuts f hx hG hn
    cases r with
    | nil =>
      have hx' : x = pre ++ p := hx
      cases cuts with
      | cons i cs =>
        obtain ⟨g1, g2, g3, g4⟩ := hG
        have e := at_head g2
        rw [hx', List.getElem?_append_right g1] at e
        exact absurd (List.mem_of_getElem? e) (hf p (.head _))
      | nil =>
        show [strSub (tS x) pre.length (tS x).length] = [tS p]
        rw [sub_tS, tS_len, hx']
        simp
    | cons q r =>
      have hx' : x = pre ++ (p ++ ((c :: y') ++ jn (c :: y') (q :: r))) := by rw [hx]; show pre ++ (p ++ (c :: y') ++ jn (c :: y') (q :: r)) = _; simp
      have hA : At (tS x) (tS (c :: y')) (tS x).length (pre.length + p.length) := by
        refine at_of (by simp) ?_
        rw [hx', ← List.append_assoc, ← List.length_append, List.drop_left, List.take_left]
      cases cuts with
      | nil =>
        have e : f = pre.length := hG
        exact absurd hA (hn _ (by omega))
      | cons i cs =>
        obtain ⟨g1, g2, g3, g4⟩ := hG
        have hi : i = pre.length + p.length := by
          rcases Nat.lt_trichotomy i (pre.length + p.length) with h | h | h
          · exfalso
            have e := at_head g2
            rw [hx', List.getElem?_append_right g1, List.getElem?_append_left (by omega)] at e
            exact absurd (List.mem_of_getElem? e) (hf p (.head _))
          · exact h
          · exact absurd hA (g3 _ (by omega) h)
        have e2 := ih (by simp) (fun a ha => hf a (.tail _ ha)) x (pre ++ (p ++ (c :: y'))) cs f (by rw [hx']; simp) (by
          have e3 : (pre ++ (p ++ (c :: y'))).length = i + (tS (c :: y')).length := by rw [hi, tS_len]; simp; omega
          rw [e3]; exact g4) hn
        show strSub (tS x) pre.length i :: partsFrom (tS x) (tS (c :: y')).length (i + (tS (c :: y')).length) cs = tS p :: (q :: r).map tS
        have e3 : i + (tS (c :: y')).length = (pre ++ (p ++ (c :: y'))).length := by rw [hi, tS_len]; simp; omega
        rw [e3, e2, sub_tS, hi, hx']
        congr 2
        rw [List.drop_left, show pre.length + p.length - pre.length = p.length by omega, List.take_left]
theorem strKind_pos (x : Str) : 1 ≤ Builtin.Str.strKind x := by unfold Builtin.Str.strKind; split; omega; split <;> omega
/-- split of a joined text whose parts lack the separator's first sign -/
theorem split_jn (c : Nat) (y' : List Nat) (ps : List (List Nat)) (h0 : ps ≠ []) (hf : ∀ p ∈ ps, c ∉ p) (hk : Builtin.Str.strKind (tS (c :: y')) = 1) : Txt.split (tS (jn (c :: y') ps)) (tS (c :: y')) = ps.map tS := by
  obtain ⟨f, hG, hn⟩ := occ_tight (tS (jn (c :: y') ps)) (tS (c :: y')) (by rw [tS_len]; simp)
  have main := parts_jn c y' ps h0 hf (jn (c :: y') ps) [] _ f rfl hG hn
  unfold Txt.split
  split
  · rename_i hc
    rw [Bool.or_eq_true, decide_eq_true_eq, decide_eq_true_eq] at hc
    have hc' : (tS (jn (c :: y') ps)).length < (tS (c :: y')).length := by
      rcases hc with h | h
      · exact h
      · have := strKind_pos (tS (jn (c :: y') ps)); omega
    match ps, h0 with
    | [p], _ => rfl
    | p :: q :: r, _ =>
      exfalso
      rw [tS_len, tS_len] at hc'
      have : (jn (c :: y') (p :: q :: r)).length = (p ++ (c :: y') ++ jn (c :: y') (q :: r)).length := rfl
      rw [this] at hc'
      simp at hc'
      omega
  · split
    · rename_i he
      rw [List.isEmpty_iff] at he
      rw [he] at main
      have e : partsFrom (tS (jn (c :: y') ps)) (tS (c :: y')).length 0 [] = [tS (jn (c :: y') ps)] := by show [strSub _ 0 _] = _; rw [sub_whole]
      rw [← main]; exact e.symm
    · rw [partsBetween_eq]; exact main
/-- no line break: the text is its one line -/
theorem lines_cut {l : List Nat} (h0 : l ≠ []) (h : ∀ c ∈ l, Unicode.isLineBreak c = false) : (lineCuts (tS l) == [(0, (tS l).length)]) = true := by
  have key : ∀ (m cur : Nat) (st : LsSt), cur + m ≤ l.length → Id.run (forIn (m := Id) (List.range' cur m) st (lsBody (tS l))) = st := by
    intro m
    induction m with
    | zero => intro cur st _; rfl
    | succ m ih =>
      intro cur st hm
      rw [List.range'_succ, List.forIn_cons]
      have e : Unicode.isLineBreak ((tS l).cps.getD cur 0) = false := by
        refine h _ ?_
        have hc : cur < l.length := by omega
        have : (tS l).cps.getD cur 0 = l[cur] := by simp [hc]
        rw [this]; exact List.getElem_mem hc
      have eb : lsBody (tS l) cur st = pure (ForInStep.yield st) := by
        unfold lsBody
        rw [e, Bool.and_false, if_neg (by decide)]
      rw [eb]
      exact ih (cur + 1) st (by omega)
  have e1 : lineSpans (tS l) = [(0, (tS l).length, (tS l).length)] := by
    rw [ls_eq, tS_len, key _ _ _ (by omega)]
    unfold lsEnd
    have : 0 < l.length := List.length_pos_iff.mpr h0
    simp [tS_len, this]
  unfold lineCuts
  rw [e1]
  simp
theorem rstrip_same {l : List Nat} {c : Nat} (h : Unicode.isSpace c = false) : stripSame Unicode.isSpace false true (tS (l ++ [c])) = true := by
  unfold stripSame stripLo stripHi
  simp [h]
/-- find from a place: the first place where it stands -/
theorem find3_at {x y : List Nat} {i : Nat} {k : Nat} (hi : i ≤ k) (ha : At (tS x) (tS y) (tS x).length k) (hn : ∀ j, i ≤ j → j < k → ¬ At (tS x) (tS y) (tS x).length j) : Txt.find3 (tS x) (tS y) (i : Int) = (k : Int) := by
  have e : fromIndex (tS x).length (i : Int) = i := by unfold fromIndex; rw [if_neg (by omega)]; omega
  unfold Txt.find3
  rw [e]
  rcases occ_head_from (tS x) (tS y) i 1 (by omega) with ⟨_, h⟩ | ⟨a, r, h1, h2, h3, h4⟩
  · exact absurd ha (h k hi)
  · rw [h1]
    rcases Nat.lt_trichotomy a k with h | h | h
    · exact absurd h3 (hn a h2 h)
    · rw [h]
    · exact absurd ha (h4 k hi h)
theorem find3_none {x y : List Nat} {i : Nat} (hn : ∀ j, i ≤ j → ¬ At (tS x) (tS y) (tS x).length j) : Txt.find3 (tS x) (tS y) (i : Int) = -1 := by
  have e : fromIndex (tS x).length (i : Int) = i := by unfold fromIndex; rw [if_neg (by omega)]; omega
  unfold Txt.find3
  rw [e]
  rcases occ_head_from (tS x) (tS y) i 1 (by omega) with ⟨h1, h⟩ | ⟨a, r, h1, h2, h3, h4⟩
  · rw [h1]
  · exact absurd h3 (hn a h2)
end Mine
end

-- WTy
section
open PySem PySem.Builtin PySem.Builtin.Str PySem.StrLaws
set_option linter.unusedVariables false
set_option maxRecDepth 100000
namespace Mine
/-- the signs of a pattern's names -/
noncomputable def plainC (c : Nat) : Bool := c == 61 || (48 ≤ c && c ≤ 57) || (65 ≤ c && c ≤ 70)
/-- an octet's name -/
noncomputable def nm (o : Nat) : List Nat := [61, hx (o / 16), hx (o % 16)]
/-- the signs of a way -/
noncomputable def wq (os : List Nat) : List Nat := os.flatMap fun o => 47 :: nm o
noncomputable abbrev wS (os : List Nat) : Str := tS (wq os)
theorem qs_eq (o : Nat) : qs o = tS (nm o) := rfl
theorem wq_cons (o : Nat) (r : List Nat) : wq (o :: r) = [47, 61, hx (o / 16), hx (o % 16)] ++ wq r := by rfl
theorem wq_app (a b : List Nat) : wq (a ++ b) = wq a ++ wq b := by unfold wq; exact List.flatMap_append
theorem wq_len (os : List Nat) : (wq os).length = 4 * os.length := by
  induction os with
  | nil => rfl
  | cons o r ih => rw [wq_cons, List.length_append, ih]; simp only [List.length_cons, List.length_nil]; omega
theorem wS_len (os : List Nat) : (wS os).length = 4 * os.length := by rw [tS_len, wq_len]
theorem hx_plain : ∀ a < 16, plainC (hx a) = true := by decide +kernel
theorem nm_plain {o : Nat} (ho : o < 256) : ∀ c ∈ nm o, plainC c = true := by
  intro c hc
  unfold nm at hc
  simp only [List.mem_cons, List.not_mem_nil, or_false] at hc
  rcases hc with rfl | rfl | rfl
  · rfl
  · exact hx_plain _ (by omega)
  · exact hx_plain _ (by omega)
theorem wq_plain {os : List Nat} (ho : ∀ o ∈ os, o < 256) : ∀ c ∈ wq os, c = 47 ∨ plainC c = true := by
  intro c hc
  unfold wq at hc
  obtain ⟨o, h1, h2⟩ := List.mem_flatMap.mp hc
  rcases List.mem_cons.mp h2 with rfl | h2
  · exact .inl rfl
  · exact .inr (nm_plain (ho o h1) c h2)
theorem plain_small {c : Nat} (h : plainC c = true) : c < 128 := by unfold plainC at h; simp at h; omega
theorem plain_facts : ∀ c < 128, plainC c = true → Unicode.isLineBreak c = false ∧ Unicode.isSpace c = false ∧ c ≠ 42 ∧ c ≠ 47 ∧ c ≠ 40 ∧ c ≠ 41 ∧ c ≠ 63 ∧ c ≠ 91 ∧ c ≠ 46 := by decide +kernel
theorem plain_fact {c : Nat} (h : plainC c = true) : Unicode.isLineBreak c = false ∧ Unicode.isSpace c = false ∧ c ≠ 42 ∧ c ≠ 47 ∧ c ≠ 40 ∧ c ≠ 41 ∧ c ≠ 63 ∧ c ≠ 91 ∧ c ≠ 46 := plain_facts c (plain_small h) h
theorem hx_ne {a : Nat} (h : a < 16) : hx a ≠ 61 ∧ hx a ≠ 47 := by
  unfold hx; split <;> omega
theorem wS_lines {os : List Nat} (h0 : os ≠ []) (ho : ∀ o ∈ os, o < 256) : (lineCuts (wS os) == [(0, (wS os).length)]) = true := by
  refine lines_cut ?_ fun c hc => ?_
  · intro h; have := congrArg List.length h; rw [wq_len] at this; have h9 : 4 * os.length = 0 := this; exact h0 (List.eq_nil_of_length_eq_zero (by omega))
  · rcases wq_plain ho c hc with rfl | h
    · decide +kernel
    · exact (plain_fact h).1
theorem wS_rstrip {os : List Nat} (h0 : os ≠ []) (ho : ∀ o ∈ os, o < 256) : stripSame Unicode.isSpace false true (wS os) = true := by
  obtain ⟨o, h1⟩ : ∃ o, os = os.dropLast ++ [o] := ⟨_, (List.dropLast_concat_getLast h0).symm⟩
  have e : wq os = (wq os.dropLast ++ [47, 61, hx (o / 16)]) ++ [hx (o % 16)] := by
    conv => lhs; rw [h1, wq_app]
    simp [wq, nm]
  have hx1 : o < 256 := ho o (by rw [h1]; simp)
  show stripSame _ _ _ (tS (wq os)) = true
  rw [e]
  exact rstrip_same (plain_fact (hx_plain _ (by omega))).2.1
theorem wq_drop (os : List Nat) (k : Nat) : (wq os).drop (4 * k) = wq (os.drop k) := by
  induction os generalizing k with
  | nil => simp [wq]
  | cons o r ih =>
    cases k with
    | zero => rfl
    | succ k =>
      rw [wq_cons, List.drop_succ_cons, ← ih k, show 4 * (k + 1) = 4 * k + 4 by omega]
      simp
theorem wq_take (os : List Nat) (k : Nat) : (wq os).take (4 * k) = wq (os.take k) := by
  induction os generalizing k with
  | nil => simp [wq]
  | cons o r ih =>
    cases k with
    | zero => rfl
    | succ k =>
      rw [wq_cons, List.take_succ_cons, wq_cons, ← ih k, show 4 * (k + 1) = 4 * k + 4 by omega]
      simp
theorem wq_at {os : List Nat} {k o : Nat} (h : os[k]? = some o) (j : Nat) (hj : j < 4) : (wq os)[4 * k + j]? = ([47, 61, hx (o / 16), hx (o % 16)] : List Nat)[j]? := by
  obtain ⟨hk, e⟩ := List.getElem?_eq_some_iff.mp h
  have e1 : (wq os).drop (4 * k) = wq (o :: os.drop (k + 1)) := by rw [wq_drop, ← e, List.getElem_cons_drop hk]
  rw [← List.getElem?_drop, e1, wq_cons, List.getElem?_append_left (by simpa using hj)]
theorem wq_sub {os : List Nat} {k o : Nat} (h : os[k]? = some o) : ((wq os).drop (4 * k + 1)).take 3 = nm o := by
  obtain ⟨hk, e⟩ := List.getElem?_eq_some_iff.mp h
  have e1 : (wq os).drop (4 * k) = wq (o :: os.drop (k + 1)) := by rw [wq_drop, ← e, List.getElem_cons_drop hk]
  rw [← List.drop_drop, e1, wq_cons]
  rfl
theorem item_tS {l : List Nat} {i c : Nat} (h : l[i]? = some c) : Txt.item (tS l) (i : Int) = tS [c] := by
  unfold Txt.item Txt.charAt
  have : ((seqIndex? (i : Int) (tS l).length).bind ((tS l).cps[·]?)) = some c := at_nonneg (by omega) (by simpa using h)
  rw [this]; rfl
theorem wS_item {os : List Nat} {k o : Nat} (h : os[k]? = some o) {i : Int} (j : Nat) (hj : j < 4) (hi : i = ((4 * k + j : Nat) : Int)) : Txt.item (wS os) i = tS [([47, 61, hx (o / 16), hx (o % 16)] : List Nat)[j]'(by simpa using hj)] := by
  subst hi
  refine item_tS ?_
  rw [wq_at h j hj]
  exact List.getElem?_eq_getElem _
end Mine
end

-- WLs
section
open PySem PySem.W PyProof.Rows PySem.Calls
set_option linter.unusedVariables false
set_option maxRecDepth 100000
set_option maxHeartbeats 1000000
namespace Mine
section
variable {prog : Program} {w : World} {A : Around} {E : Value → Shared → Prop} {s : Shared} {t u : Tok} {h₀ g : Heap} {L D l : Addr} {m : Str → Option Value} {news : List (Addr × Obj)} {value slice : PySem.Expr} {vs : List Value} {k : Int} {x : Value}
theorem len_any {Q : Value → Shared → Prop} (hl : s.heap.IsList l vs.toArray) (hs : vs.length ≤ 1000) (h : Q (.int (vs.length : Nat) (s.toks + 1)) { s with toks := s.toks + 1 + 1 }) : wpAny (model prog w) A (call (.builtin "len") [.ref l]) Q E s :=
  len_list hl (by simp; omega) (by simpa using h)
theorem truthy_any {Q : Bool → Shared → Prop} (hl : s.heap.IsList l vs.toArray) (hs : vs.length ≤ 1000) (h : Q (!vs.isEmpty) { s with toks := s.toks + 1 + 1 }) : wpAny (model prog w) A (truthy (.ref l)) Q E s :=
  wpAny_truthy_list hl (by simp; omega) (by simpa using h)
theorem item_any {Q : Value → Shared → Prop} (n : Nat) (hl : s.heap.IsList l vs.toArray) (hk : k = (n : Nat)) (hx : vs[n]? = some x) (hs : n ≤ 1000) (h : Q x s)
    (he : subscripted slice false (.ref l) (.int k u) = operate [.ref l, .int k u] (getItem (.ref l) (.int k u)) := by with_unfolding_all rfl) (hg : ∀ r, letTemporaryGo value (.ref l) r = pure () := by intro _; with_unfolding_all rfl) :
    wpAny (model prog w) A (subscriptTail value slice (.ref l) (.int k u)) Q E s := by
  subst hk
  exact item_list hl (by omega) (by omega) (by simpa using hx) h he hg
theorem item_end {Q : Value → Shared → Prop} (hl : s.heap.IsList l (vs ++ [x]).toArray) (h : Q x s)
    (he : subscripted slice false (.ref l) (.int (-1) u) = operate [.ref l, .int (-1) u] (getItem (.ref l) (.int (-1) u)) := by with_unfolding_all rfl) (hg : ∀ r, letTemporaryGo value (.ref l) r = pure () := by intro _; with_unfolding_all rfl) :
    wpAny (model prog w) A (subscriptTail value slice (.ref l) (.int (-1) u)) Q E s := by
  refine subscriptTail_builtin hl.typeIs slot_list_getitem.lookup (wpAny_getItem_list_neg hl (by decide) (by simp; omega) (by decide) ?_ h) he hg
  have e : (-1 + (((vs ++ [x]).toArray).size : Int)).toNat = vs.length := by simp; omega
  rw [e]; simp
theorem isnot_str {y : Str} {a : Addr} {Q : Value → Shared → Prop} (h : Q (.bool true) s) : wpAny (model prog w) A (compareOp .IsNot (.str y t) (.ref a)) Q E s := wpAny_isNot_other (by rfl) (by intro x; cases x) h
theorem is_str {y : Str} {a : Addr} {Q : Value → Shared → Prop} (h : Q (.bool false) s) : wpAny (model prog w) A (compareOp .Is (.str y t) (.ref a)) Q E s := wpAny_is_other (by rfl) (by intro x; cases x) h
theorem news_of_fresh {h' : Heap} {o : Obj} (F : Fr h₀ L s.heap m) (F2 : Fr h₀ L h' m) (N2 : News h₀ L h' news) (h1 : h'.get? D = some o) (h2 : s.heap.get? D = none) : News h₀ L h' ((D, o) :: news) := by
  intro p hp
  rcases List.mem_cons.mp hp with rfl | hp
  · refine ⟨h1, fun e => ?_, ?_⟩
    · obtain ⟨oL, _, _, hL, _⟩ := F.ns
      have e : D = L := e
      rw [← e, h2] at hL; cases hL
    · cases q : h₀.get? D with
      | none => rfl
      | some o' => have := F.keep _ _ q; rw [h2] at this; cases this
  · exact N2 p hp
theorem fresh_of (hg : s.heap.StaysIn g) (h : g.get? D = none) : s.heap.get? D = none := by
  cases q : s.heap.get? D with
  | none => rfl
  | some o => rw [hg _ _ q] at h; cases h
end
/-- the parts of a pattern: a star is the one object, a sign its text -/
noncomputable def PartsAre (st : Addr) (vs : List Value) (pl : List Nat) : Prop := vs.length = pl.length ∧ ∀ (i c : Nat), pl[i]? = some c → (c = 42 → vs[i]? = some (Value.ref st)) ∧ (c ≠ 42 → ∃ t, vs[i]? = some (Value.str (tS [c]) t))
theorem PartsAre.nil {st : Addr} : PartsAre st [] [] := ⟨rfl, fun i c h => by simp at h⟩
theorem PartsAre.star {st : Addr} {vs : List Value} {pl : List Nat} {i : Nat} (h : PartsAre st vs (pl.take i)) (e : pl[i]? = some 42) : PartsAre st (vs ++ [Value.ref st]) (pl.take (i + 1)) := by
  have hi := (List.getElem?_eq_some_iff.mp e).1
  have hl : vs.length = i := by rw [h.1, List.length_take]; omega
  rw [List.take_add_one, e]
  refine ⟨by simp [h.1], fun j c hj => ?_⟩
  rcases Nat.lt_trichotomy j i with h1 | rfl | h1
  · rw [Option.toList_some, List.getElem?_append_left (by rw [List.length_take]; omega)] at hj
    obtain ⟨a, b⟩ := h.2 j c hj
    rw [List.getElem?_append_left (by omega)]
    exact ⟨a, b⟩
  · rw [Option.toList_some, List.getElem?_append_right (by rw [List.length_take]; omega)] at hj
    have : j - (pl.take j).length = 0 := by rw [List.length_take]; omega
    rw [this] at hj
    cases hj
    refine ⟨fun _ => ?_, fun h => absurd rfl h⟩
    rw [List.getElem?_append_right (by omega), hl]; simp
  · have := (List.getElem?_eq_some_iff.mp hj).1
    rw [Option.toList_some, List.length_append, List.length_take, List.length_singleton] at this
    omega
theorem PartsAre.sign {st : Addr} {vs : List Value} {pl : List Nat} {i c : Nat} {t : Tok} (h : PartsAre st vs (pl.take i)) (e : pl[i]? = some c) (hc : c ≠ 42) : PartsAre st (vs ++ [Value.str (tS [c]) t]) (pl.take (i + 1)) := by
  have hi := (List.getElem?_eq_some_iff.mp e).1
  have hl : vs.length = i := by rw [h.1, List.length_take]; omega
  rw [List.take_add_one, e]
  refine ⟨by simp [h.1], fun j c' hj => ?_⟩
  rcases Nat.lt_trichotomy j i with h1 | rfl | h1
  · rw [Option.toList_some, List.getElem?_append_left (by rw [List.length_take]; omega)] at hj
    obtain ⟨a, b⟩ := h.2 j c' hj
    rw [List.getElem?_append_left (by omega)]
    exact ⟨a, b⟩
  · rw [Option.toList_some, List.getElem?_append_right (by rw [List.length_take]; omega)] at hj
    have : j - (pl.take j).length = 0 := by rw [List.length_take]; omega
    rw [this] at hj
    cases hj
    refine ⟨fun h => absurd h hc, fun _ => ⟨t, ?_⟩⟩
    rw [List.getElem?_append_right (by omega), hl]; simp
  · have := (List.getElem?_eq_some_iff.mp hj).1
    rw [Option.toList_some, List.length_append, List.length_take, List.length_singleton] at this
    omega
/-- a pattern of names and stars, no two stars side by side -/
structure Pat (pl : List Nat) : Prop where
  sign : ∀ c ∈ pl, c = 42 ∨ plainC c = true
  apart : ∀ i : Nat, pl[i]? = some 42 → pl[i + 1]? ≠ some 42
theorem pat_cases {st : Addr} {pl : List Nat} {i : Nat} {vs : List Value} (hp : Pat pl) (hi : i ≤ pl.length) (h : PartsAre st vs (pl.take i)) :
    (i = pl.length) ∨ (i < pl.length ∧ pl[i]? = some 42 ∧ vs = []) ∨ (i < pl.length ∧ pl[i]? = some 42 ∧ ∃ vs' c t, vs = vs' ++ [Value.str (tS [c]) t]) ∨ (i < pl.length ∧ ∃ c, pl[i]? = some c ∧ plainC c = true) := by
  rcases Nat.lt_or_ge i pl.length with h1 | h1
  · refine .inr ?_
    have e : pl[i]? = some pl[i] := List.getElem?_eq_getElem h1
    rcases hp.sign _ (List.getElem_mem h1) with h2 | h2
    · rw [h2] at e
      have hl : vs.length = i := by rw [h.1, List.length_take]; omega
      cases i with
      | zero => exact .inl ⟨h1, e, List.eq_nil_of_length_eq_zero hl⟩
      | succ i =>
        refine .inr (.inl ⟨h1, e, ?_⟩)
        have e1 : pl[i]? = some pl[i] := List.getElem?_eq_getElem (by omega)
        have hc : pl[i] ≠ 42 := fun q => by rw [q] at e1; exact hp.apart i e1 e
        obtain ⟨t, ht⟩ := (h.2 i pl[i] (by rw [List.getElem?_take_of_lt (by omega)]; exact e1)).2 hc
        refine ⟨vs.take i, pl[i], t, ?_⟩
        have := List.take_add_one (l := vs) (i := i)
        rw [ht, List.take_of_length_le (by omega)] at this
        exact this
    · exact .inr (.inr ⟨h1, _, e, h2⟩)
  · exact .inl (by omega)
end Mine
namespace Mine
section
variable {prog : Program} {w : World} {A : Around} {E : Value → Shared → Prop} {Q : Flow → Shared → Prop} {s : Shared} {env : Env} {h₀ : Heap} {L : Addr}
/-- a while whose turns change one list of the ledger -/
theorem while_ol {σ : Type} {test : PySem.Expr} {body : List Stmt} {pos : Pos} {m₀ : Str → Option Value} {q l : Addr} {o : Obj} (vs : σ → List Value) (n : σ → Nat) (ps : σ → List (Str × Value)) (stored : List Str) (P : σ → Prop) (μ : σ → Nat) (c₀ : σ)
    (F : Fr h₀ L s.heap m₀) (N : News h₀ L s.heap [(q, o), (l, W.listOf (vs c₀).toArray (n c₀))]) (hk : ∀ p ∈ ps c₀, m₀ p.1 = some p.2) (hp : P c₀)
    (turn : ∀ (c : σ) (u : Str → Option Value) h tk, P c → Fr h₀ L h (kstB (fun z => if stored.contains z then u z else m₀ z) (ps c)) → News h₀ L h [(q, o), (l, W.listOf (vs c).toArray (n c))] →
      wpAny (model prog w) A (isTrue test env (eval test env)) (fun b s₂ =>
        if b = true then wpAny (model prog w) A (execs body env) (KswPost h₀ L s (fun c => [(q, o), (l, W.listOf (vs c).toArray (n c))]) ps (fun _ => True) stored m₀ P μ Q c) E s₂ else Q .next s₂) E { s with heap := h, toks := tk })
    (hE : PassesOwn (model prog w) A env E := by passes_own) :
    wpAny (model prog w) A (exec (.While test body [] pos) env) Q E s :=
  ksw_while (fun c => [(q, o), (l, W.listOf (vs c).toArray (n c))]) ps (fun _ => True) stored P μ c₀ F N trivial hk hp (fun c u h tk _ => turn c u h tk) hE
end
end Mine
namespace Mine
theorem PartsAre.len {st : Addr} {vs : List Value} {pl : List Nat} (h : PartsAre st vs pl) : vs.length = pl.length := h.1
end Mine
namespace Mine
theorem news_tail {h₀ h : Heap} {L : Addr} {p : Addr × Obj} {news : List (Addr × Obj)} (N : News h₀ L h (p :: news)) : News h₀ L h news := fun q hq => N q (.tail _ hq)
section
variable {σ : Type} {h₀ : Heap} {L : Addr} {s : Shared} {Led : σ → List (Addr × Obj)} {ps : σ → List (Str × Value)} {Facts : σ → Prop} {stored : List Str} {m₀ m' : Str → Option Value} {P : σ → Prop} {μ : σ → Nat} {c : σ} {h' : Heap} {tk : Nat} {news' : List (Addr × Obj)}
/-- a turn's end, one name turned: an int; the ledger told -/
theorem kendL_i (c' : σ) (F : Fr h₀ L h' m') (N : News h₀ L h' news') {n1 : Str} {a b : Int} {ti : Tok} (hps : ps c' = [(n1, Value.int b ti)]) (h1 : m' n1 = some (.int a ti)) (hL : Led c' = news') (e1 : a = b)
    (hf : Facts c') (hr : ∀ z, (∀ p ∈ ps c', z ≠ p.1) → stored.contains z = false → m' z = m₀ z) (hp : P c') (hm : μ c' < μ c) : KswEnd h₀ L s Led ps Facts stored m₀ P μ c { s with heap := h', toks := tk } := by
  subst e1
  refine ksw_end c' F N (fun p hp => hL ▸ hp) hf ?_ hr hp hm
  rw [hps]
  exact List.forall_mem_cons.mpr ⟨h1, List.forall_mem_nil _⟩
end
end Mine
namespace Mine
section
variable {prog : Program} {w : World} {A : Around} {E : Value → Shared → Prop} {s : Shared} {t : Tok} {D : Addr}
theorem ite_ieq_t {x y : Int} {P Q : Prop} (h : x = y) (hp : P) : if (x == y) = true then P else Q := by rw [if_pos (by simp [h])]; exact hp
theorem ite_ieq_f {x y : Int} {P Q : Prop} (h : ¬ x = y) (hq : Q) : if (x == y) = true then P else Q := by rw [if_neg (by simp [h])]; exact hq
theorem ite_ine_t {x y : Int} {P Q : Prop} (h : ¬ x = y) (hp : P) : if (x != y) = true then P else Q := by rw [if_pos (by simp [h])]; exact hp
theorem ite_ine_f {x y : Int} {P Q : Prop} (h : x = y) (hq : Q) : if (x != y) = true then P else Q := by rw [if_neg (by simp [h])]; exact hq
theorem join_flat : ∀ ts : List (List Nat), Str.join (Str.ofString "") (ts.map tS) = tS ts.flatten
  | [] => rfl
  | [a] => by simp [Str.join]
  | a :: b :: r => by
    have ih := join_flat (b :: r)
    show tS a ++ Str.ofString "" ++ Str.join (Str.ofString "") ((b :: r).map tS) = _
    rw [ih, show Str.ofString "" = tS [] by decide +kernel, tS_app, tS_app]
    simp
theorem join_tS {l : List (Str × Tok)} (ts : List (List Nat)) {Q : Value → Shared → Prop} (hl : s.heap.IsList D (strValues l).toArray) (ht : l.map (·.1) = ts.map tS) (hb : ∀ a ∈ ts, a.length ≤ 100) (hn : ts.length ≤ 100)
    (hq : ∀ t' k, Q (.str (tS ts.flatten) t') { s with toks := k }) : wpAny (model prog w) A (call (.builtin "str.join") [.str (Str.ofString "") t, .ref D]) Q E s := by
  refine SC.join hl ht ?_ fun t' k => ?_
  · have : Builtin.Str.tooLong ((ts.map tS).toArray.foldl (fun a p => a + p.length + (Str.ofString "").length) 0) = false := StrLaws.joinFits (B := 100) (fun y hy => by
      obtain ⟨a, ha, rfl⟩ := List.mem_map.mp hy
      rw [tS_len]; exact hb a ha) (by
        have e : (Str.ofString "").length = 0 := by decide +kernel
        rw [e, List.length_map]; omega)
    unfold JoinOk
    rw [this]; rfl
  · show Q (.str (Builtin.Str.glued _ _) t') _
    rw [StrLaws.glued_eq_join, join_flat]
    exact hq t' k
end
end Mine
namespace Mine
section
variable {prog : Program} {w : World} {A : Around} {E : Value → Shared → Prop} {s : Shared} {env : Env} {h₀ : Heap} {x : Str} {body : List Stmt} {Q : Flow → Shared → Prop}
/-- a loop over a made list, by what holds of the turn's number, the frame and the ledger (without the list) -/
theorem iter_made {l : Addr} {vs : List Value} {m₀ : Str → Option Value} {news : List (Addr × Obj)} (J : Nat → (Str → Option Value) → List (Addr × Obj) → Prop)
    (hh : A.handled = none) (hls : s.heap.IsList l vs.toArray) (hl0 : l ≠ env.locals) (hln : ∀ p ∈ news, p.1 ≠ l) (F : Fr h₀ env.locals s.heap m₀) (N : News h₀ env.locals s.heap news) (hj : J 0 m₀ news)
    (turn : ∀ i v m₁ news₁ h tk own, vs[i]? = some v → news₁.map (·.1) = news.map (·.1) → OwnOff own (news.map (·.1)) → J i m₁ news₁ → Fr h₀ env.locals h (fun y => if y = x then some v else m₁ y) → News h₀ env.locals h (news₁ ++ own) →
      wpAny (model prog w) A (execs body env) (InvPostN h₀ env.locals (J (i + 1)) own (news.map (·.1)) { s with heap := h, toks := tk } Q) E { s with heap := h, toks := tk })
    (done : ∀ m₁ news₁ h tk, J vs.length m₁ news₁ → Fr h₀ env.locals h m₁ → News h₀ env.locals h news₁ → Q .next { s with heap := h, toks := tk }) :
    wpAny (model prog w) A (pyIter (.ref l)) (fun it s₂ => LoopAtV prog w A h₀ env x body Q E it s₂) E s := by
  obtain ⟨ol, hol, _⟩ := id hls
  have hlt : l < s.heap.objs.size := Heap.lt_size hol
  have hne : l ≠ s.heap.objs.size := Nat.ne_of_lt hlt
  refine wpAny_pyIter_list hls ?_
  have W := Walks.list (prog := prog) (w := w) hh s.heap.objs.size l hne vs.toArray
  have hlen : vs.toArray.size = vs.length := by simp
  rw [hlen] at W
  let J' : Nat → (Str → Option Value) → List (Addr × Obj) → Prop := fun i m₁ news₁ => news₁.map (·.1) = news.map (·.1) ∧ J i m₁ news₁
  refine ⟨_, _, _, vs.length, _, _, m₀, news, J', rfl, W, ?_, ?_, ?_, ⟨⟨_, Heap.get?_push_size _ rfl, rfl, rfl⟩, hls.at fun o e => Heap.get?_push_of_some _ e⟩, F.push _, (fun p hp => ⟨Heap.get?_push_of_some _ (N p hp).1, (N p hp).2⟩), ⟨rfl, hj⟩, ?_, ?_⟩
  · intro hm
    rcases List.mem_cons.mp hm with e | hm
    · exact absurd F.ns.lt (e ▸ Nat.lt_irrefl _)
    · exact hl0 (List.mem_singleton.mp hm).symm
  · intro b hb
    rw [List.mem_singleton.mp hb]
    exact next_is_new F
  · intro p hp hI
    exact absurd (Heap.lt_size (N p hp).1) ((List.mem_singleton.mp hI) ▸ Nat.lt_irrefl _)
  · rintro i v m₁ news₁ s₁ own ⟨hh', tk', rfl⟩ hin hP ⟨hadr, hJ⟩ hoff hown _ _ _ F₁ N₁
    have hsep : OwnOff own (news.map (·.1)) := by
      intro p hp b hb e
      obtain ⟨q, hq, rfl⟩ := List.mem_map.mp hb
      rcases List.mem_cons.mp (hown p hp) with h1 | h1
      · exact absurd (Heap.lt_size (N q hq).1) (by rw [← e, h1]; exact Nat.lt_irrefl _)
      · exact hln q hq (e.symm.trans (List.mem_singleton.mp h1))
    have hx : vs[i]? = some v := by simpa using hP
    have N₂ : News h₀ env.locals hh' (news₁ ++ own) := fun p hp => N₁ p ((List.mem_append.mp hp).elim (fun h => List.mem_append.mpr (.inr h)) fun h => List.mem_append.mpr (.inl h))
    refine wpAny_mono (turn i v m₁ news₁ hh' tk' own hx hadr hsep hJ F₁ N₂) (fun f s₂ p => ?_) fun _ _ e => e
    have fin : InvEndN h₀ env.locals (J (i + 1)) own (news.map (·.1)) { s with heap := hh', toks := tk' } s₂ → LoopStepU h₀ env.locals [s.heap.objs.size] own (J' (i + 1)) { s with heap := hh', toks := tk' } .next s₂ := by
      rintro ⟨h', tk, m', news', nx, e, F', N', hn, ho, ha, hm⟩
      refine ⟨rfl, h', tk, m', nx, e, F', fun p hp => N' p ((List.mem_append.mp hp).elim (ho p) (hn p)), fun p hp hq => ?_, ha, hm⟩
      have h1 : p.1 ∈ nx.map (·.1) := List.mem_map.mpr ⟨p, hp, rfl⟩
      rw [ha, ← hadr] at h1
      obtain ⟨q, hq1, hq2⟩ := List.mem_map.mp h1
      exact hoff q hq1 (by rw [hq2]; exact hq)
    cases f with
    | ret v => exact .ret p
    | brk => exact .brk p
    | next => exact .next (fin p)
    | cont => exact .cont (fin p)
  · rintro h' tk m' news' F' N' _ ⟨_, hJ⟩
    exact done m' news' h' tk hJ F' N'
end
end Mine
namespace Mine
theorem pick_from (vs : List Value) (n : Nat) : slicePick vs.toArray (some (n : Int)) none none = (vs.drop n).toArray := by
  have e : sliceBounds (some (n : Int)) none none vs.toArray.size = (((min n vs.toArray.size : Nat) : Int), ((vs.toArray.size : Nat) : Int), 1) := by
    simp only [sliceBounds, Option.getD_none, show (1 : Int) > 0 by decide, if_true, if_neg (show ¬ ((n : Int) < 0) by omega)]
    congr 1
    omega
  rw [kmk_pick_nat _ e]
  simp only [List.size_toArray]
  rw [kmk_drop_min]
  congr 1
  rw [List.take_of_length_le]
  rw [List.length_drop]; omega
theorem pick_to (vs : List Value) (n : Nat) : slicePick vs.toArray none (some (n : Int)) none = (vs.take n).toArray := by
  have e : sliceBounds none (some (n : Int)) none vs.toArray.size = (((0 : Nat) : Int), ((min n vs.toArray.size : Nat) : Int), 1) := by
    simp only [sliceBounds, Option.getD_none, show (1 : Int) > 0 by decide, if_true, if_neg (show ¬ ((n : Int) < 0) by omega)]
    congr 1
    congr 1
    omega
  rw [kmk_pick_nat _ e]
  simp only [List.size_toArray, List.drop_zero, Nat.sub_zero]
  rw [kmk_take_min]
section
variable {prog : Program} {w : World} {A : Around} {E : Value → Shared → Prop} {s : Shared} {h₀ : Heap} {L l : Addr} {m : Str → Option Value} {news : List (Addr × Obj)} {value slice : PySem.Expr} {vs : List Value} {u : Tok} {Q : Value → Shared → Prop}
theorem slice_fromL (n : Nat) (F : Fr h₀ L s.heap m) (N : News h₀ L s.heap news) (hl : s.heap.IsList l vs.toArray) (hz : vs.length ≤ 1000)
    (h : ∀ D h', Fr h₀ L h' m → News h₀ L h' ((D, listOf (vs.drop n).toArray 0) :: news) → (∀ p ∈ news, p.1 < D) → Q (.ref D) { s with heap := h' })
    (hs : subscripted slice false (.ref l) (.ref s.heap.objs.size) = operate [.ref s.heap.objs.size, .ref l] (getItem (.ref l) (.ref s.heap.objs.size)) := by with_unfolding_all rfl) (ht : ∀ r, letTemporaryGo value (.ref l) r = pure () := by intro _; with_unfolding_all rfl) :
    wpAny (model prog w) A (subscriptTail value slice (.ref l) (.ref s.heap.objs.size)) Q E { s with heap := s.heap.push { cls := .type "slice", data := .fields #[.int (n : Int) u, .none, .none] } } :=
  kmk_slice F N hl (IsPart.int _ _) IsPart.none (fun D h' F' N' l1 => h D h' F' (by rw [pick_from] at N'; exact N') l1) hs ht (by rw [sizeLine_eq]; simp; omega)
theorem slice_toL (n : Nat) (F : Fr h₀ L s.heap m) (N : News h₀ L s.heap news) (hl : s.heap.IsList l vs.toArray) (hz : vs.length ≤ 1000)
    (h : ∀ D h', Fr h₀ L h' m → News h₀ L h' ((D, listOf (vs.take n).toArray 0) :: news) → (∀ p ∈ news, p.1 < D) → Q (.ref D) { s with heap := h' })
    (hs : subscripted slice false (.ref l) (.ref s.heap.objs.size) = operate [.ref s.heap.objs.size, .ref l] (getItem (.ref l) (.ref s.heap.objs.size)) := by with_unfolding_all rfl) (ht : ∀ r, letTemporaryGo value (.ref l) r = pure () := by intro _; with_unfolding_all rfl) :
    wpAny (model prog w) A (subscriptTail value slice (.ref l) (.ref s.heap.objs.size)) Q E { s with heap := s.heap.push { cls := .type "slice", data := .fields #[.none, .int (n : Int) u, .none] } } :=
  kmk_slice F N hl IsPart.none (IsPart.int _ _) (fun D h' F' N' l1 => h D h' F' (by rw [pick_to] at N'; exact N') l1) hs ht (by rw [sizeLine_eq]; simp; omega)
theorem join_flat_sep (y : List Nat) : ∀ ts : List (List Nat), Str.join (tS y) (ts.map tS) = tS (jn y ts)
  | [] => rfl
  | [a] => rfl
  | a :: b :: r => by
    have ih := join_flat_sep y (b :: r)
    show tS a ++ tS y ++ Str.join (tS y) ((b :: r).map tS) = _
    rw [ih, tS_app, tS_app]
    rfl
theorem join_sep {t : Tok} {D : Addr} {l : List (Str × Tok)} (y : List Nat) (ts : List (List Nat)) {x : Str} (hx : x = tS y) (hl : s.heap.IsList D (strValues l).toArray) (ht : l.map (·.1) = ts.map tS) (hb : ∀ a ∈ ts, a.length ≤ 100) (hy : y.length ≤ 10) (hn : ts.length ≤ 100)
    (hq : ∀ t' k, Q (.str (tS (jn y ts)) t') { s with toks := k }) : wpAny (model prog w) A (call (.builtin "str.join") [.str x t, .ref D]) Q E s := by
  subst hx
  refine SC.join hl ht ?_ fun t' k => ?_
  · have : Builtin.Str.tooLong ((ts.map tS).toArray.foldl (fun a p => a + p.length + (tS y).length) 0) = false := StrLaws.joinFits (B := 100) (fun z hz => by
      obtain ⟨a, ha, rfl⟩ := List.mem_map.mp hz
      rw [tS_len]; exact hb a ha) (by
        rw [List.length_map, tS_len]
        have := Nat.mul_le_mul hn hy
        omega)
    unfold JoinOk
    rw [this]; rfl
  · show Q (.str (Builtin.Str.glued _ _) t') _
    rw [StrLaws.glued_eq_join, join_flat_sep]
    exact hq t' k
end
end Mine
namespace Mine
section
variable {prog : Program} {w : World} {A : Around} {E : Value → Shared → Prop} {s : Shared} {env : Env} {h₀ : Heap} {x y : Str} {body : List Stmt} {Q : Flow → Shared → Prop}
/-- what a turn hands on: the ledger as it was, one int name -/
noncomputable def TurnI (m₀ : Str → Option Value) (news : List (Addr × Obj)) (x y : Str) (P : Int → Prop) (m' : Str → Option Value) (nx : List (Addr × Obj)) : Prop :=
  nx = news ∧ (∃ a' t', m' y = some (.int a' t') ∧ P a') ∧ ∀ z, z ≠ x → z ≠ y → m' z = m₀ z
theorem map_xy {m₀ m₁ : Str → Option Value} {a : Int} {ta : Tok} (h1 : m₁ y = some (.int a ta)) (h2 : ∀ z, z ≠ x → z ≠ y → m₁ z = m₀ z) (hyx : y ≠ x) (u : Option Value) : (fun z => if z = x then u else m₁ z) = fun z => if z = x then u else if z = y then some (.int a ta) else m₀ z := by
  funext z
  by_cases e1 : z = x
  · simp [e1]
  · simp only [if_neg e1]
    by_cases e2 : z = y
    · subst e2; simp [h1]
    · simp only [if_neg e2]; exact h2 z e1 e2
theorem iter_made_i {l : Addr} {vs : List Value} {m₀ : Str → Option Value} {news : List (Addr × Obj)} {a₀ : Int} {t₀ : Tok} (P : Nat → Int → Prop)
    (hh : A.handled = none) (hls : s.heap.IsList l vs.toArray) (hl0 : l ≠ env.locals) (hln : ∀ p ∈ news, p.1 ≠ l) (F : Fr h₀ env.locals s.heap m₀) (N : News h₀ env.locals s.heap news) (hy : m₀ y = some (.int a₀ t₀)) (hyx : y ≠ x) (hP : P 0 a₀)
    (turn : ∀ i v a ta h tk own, vs[i]? = some v → P i a → OwnOff own (news.map (·.1)) → Fr h₀ env.locals h (fun z => if z = x then some v else if z = y then some (.int a ta) else m₀ z) → News h₀ env.locals h (news ++ own) →
      wpAny (model prog w) A (execs body env) (InvPostN h₀ env.locals (TurnI m₀ news x y (P (i + 1))) own (news.map (·.1)) { s with heap := h, toks := tk } Q) E { s with heap := h, toks := tk })
    (done : ∀ (u : Option Value) a ta h tk, P vs.length a → Fr h₀ env.locals h (fun z => if z = x then u else if z = y then some (.int a ta) else m₀ z) → News h₀ env.locals h news → Q .next { s with heap := h, toks := tk }) :
    wpAny (model prog w) A (pyIter (.ref l)) (fun it s₂ => LoopAtV prog w A h₀ env x body Q E it s₂) E s := by
  refine iter_made (J := fun i => TurnI m₀ news x y (P i)) hh hls hl0 hln F N ⟨rfl, ⟨a₀, t₀, hy, hP⟩, fun _ _ _ => rfl⟩ ?_ ?_
  · rintro i v m₁ news₁ h tk own hv _ hoff ⟨rfl, ⟨a, ta, h1, hp⟩, h2⟩ F₁ N₁
    rw [map_xy h1 h2 hyx] at F₁
    exact turn i v a ta h tk own hv hp hoff F₁ N₁
  · rintro m₁ news₁ h tk ⟨rfl, ⟨a, ta, h1, hp⟩, h2⟩ F₁ N₁
    refine done (m₁ x) a ta h tk hp ?_ N₁
    rw [← map_xy h1 h2 hyx (m₁ x)]
    have e : (fun z => if z = x then m₁ x else m₁ z) = m₁ := by
      funext z
      by_cases e1 : z = x
      · simp [e1]
      · simp [e1]
    rw [e]; exact F₁
theorem turn_end {L : Addr} {P : Int → Prop} {m₀ m' : Str → Option Value} {news own news' : List (Addr × Obj)} {adr : List Addr} {h' : Heap} {tk : Nat} {a b : Int} {t : Tok} (F : Fr h₀ L h' m') (N : News h₀ L h' news') (hn : news ++ own = news') (ha : news.map (·.1) = adr) (h1 : m' y = some (.int a t)) (e : a = b) (hP : P b) (hm : ∀ z, z ≠ x → z ≠ y → m' z = m₀ z) :
    InvEndN h₀ L (TurnI m₀ news x y P) own adr s { s with heap := h', toks := tk } := by
  subst e hn
  exact ⟨h', tk, m', _, news, rfl, F, N, fun p hp => List.mem_append.mpr (.inl hp), fun p hp => List.mem_append.mpr (.inr hp), ha, rfl, ⟨_, _, h1, hP⟩, hm⟩
end
end Mine
end

-- WSet
section
open PySem PySem.W PyProof.Rows PySem.Calls PySem.Spec
set_option linter.unusedVariables false
set_option maxRecDepth 100000
set_option maxHeartbeats 1000000
namespace Mine
noncomputable def tb0 (b : Bool) : SetTable := .fresh 0 0 b
noncomputable def tb1 (b : Bool) : SetTable := { mask := 7, place := #[1], dummies := #[], finger := 0, led := b, moves := 0, plain := true }
noncomputable def setO0 (b : Bool) : Obj := { cls := .type "set", data := .set #[] 0 (tb0 b) }
noncomputable def setO1 (b : Bool) : Obj := { cls := .type "set", data := .set #[(1, .bool true)] 1 (tb1 b) }
theorem lay1 (b : Bool) : layNew (tb0 b) #[] 1 (.bool true) = (#[(1, .bool true)], tb1 b, false, false) := by cases b <;> kernel_rfl
section
variable {prog : Program} {w : World} {A : Around} {E : Value → Shared → Prop} {s : Shared} {D : Addr} {b : Bool}
theorem typeIs_true : s.TypeIs (.bool true) "bool" := rfl
theorem args_hash_b : argsOk "int.__hash__" ⟨[.bool true], []⟩ := F.args_int_hash_1 _
theorem hash_true {Q : Int → Shared → Prop} (h : Q 1 { s with toks := s.toks + 1 }) : wpAny (model prog w) A (pyHash (.bool true)) Q E s := by
  unfold pyHash
  have hv : [Value.bool true].any Value.onHeap = false := rfl
  refine wpAny_bind ?_
  rw [cRoomFor, if_neg (by rw [hv]; exact Bool.false_ne_true)]; refine wpAny_pure ?_
  refine wpAny_bind (wpAny_specialOf typeIs_true F.slot_bool_hash.lookup ?_)
  show wpAny _ _ (if (some (Value.builtin "int.__hash__") == some Value.none) = true then _ else _) Q E s
  rw [if_neg (by rw [beq_builtin_none]; exact Bool.false_ne_true)]
  refine wpAny_bind (wpAny_specialOf typeIs_true F.slot_bool_hash.lookup ?_)
  show wpAny _ _ (callSpecialIfBoundUnlessNone? (.bool true) "__hash__" _ >>= _) Q E s
  refine wpAny_bind (wpAny_callSpecialIfBoundUnlessNone?_slot typeIs_true F.slot_bool_hash
    (wpAny_call_entry F.slot_bool_hash typeIs_true F.entry_int_hash
      (show wpAny _ _ (do ret (← mkInt 1)) _ _ s from wpAny_ret_mkInt ?_) args_hash_b))
  exact wpAny_pure h
theorem eq_true_true {Q : Bool → Shared → Prop} (h : Q true s) : wpAny (model prog w) A (eqBool (.bool true) (.bool true)) Q E s := by
  unfold eqBool
  refine wpAny_holding ?_
  show wpAny _ _ (if (Value.bool true == Value.bool true) = true then _ else _) _ _ s
  rw [if_pos (by decide)]
  exact wpAny_bind (wpAny_rule (wpAny_pure h))
theorem fits0 (b : Bool) : (tb0 b).fits (#[] : Array (Int × Value)).size = true := by cases b <;> rfl
theorem fits1 (b : Bool) : (tb1 b).fits (#[(1, .bool true)] : Array (Int × Value)).size = true := by cases b <;> rfl
theorem add_first {Q : Value → Shared → Prop} (ho : s.heap.get? D = some (setO0 b)) (h : ∀ h', Heap.SameBut D s.heap h' → h'.get? D = some (setO1 b) → Q .none { s with heap := h', toks := s.toks + 1 }) :
    wpAny (model prog w) A (call (.builtin "set.add") [.ref D, .bool true]) Q E s := by
  have hT : s.TypeIs (.ref D) "set" := ⟨_, ho, rfl⟩
  refine wpAny_call_entry F.slot_set_add hT F.entry_set_add ?_ (F.args_set_add_2 _ _)
  unfold Builtin.«set.add» Builtin.Frozenset.oneOther
  simp only [List.isEmpty_nil, bind_assoc]
  unfold Builtin.Frozenset.addrOf setAdd
  refine wpAny_bind (wpAny_pure ?_)
  try dsimp only
  refine wpAny_bind (wpAny_pure ?_)
  try dsimp only
  refine wpAny_bind ?_
  refine wpAny_holding ?_
  refine wpAny_bind (hash_true ?_)
  unfold setAddHashed setAddHashedIn
  refine wpAny_holding (wpAny_bind (wpAny_setState_of ho rfl (fits0 b) ?_))
  dsimp only
  rw [if_pos (by decide +kernel)]
  unfold setAddByScan
  refine wpAny_bind ?_
  refine wpAny_bind (wpAny_rule ?_)
  refine wpAny_bind (m := setScan D (.bool true) 1 true #[]) (wpAny_pure ?_)
  dsimp only
  rw [lay1 b]
  dsimp only
  refine wpAny_bind (wpAny_pure ?_)
  rw [show (tb1 b).plain = true by cases b <;> rfl]
  simp only [if_true]
  refine wpAny_bind (m := hashByValue 8 (.bool true)) (wpAny_pure ?_)
  simp only [if_true]
  refine wpAny_bind (wpAny_storeSet_of (es' := #[(1, .bool true)]) ho rfl ?_ (by rw [sizeLine_eq]; decide))
  rw [show (tb1 b).tooFull = false by cases b <;> decide +kernel]
  simp only [Bool.and_false, Bool.false_eq_true, if_false]
  refine wpAny_pure (wpAny_pure ?_)
  have hsb : Heap.SameBut D s.heap (s.heap.update D (Obj.putSet #[(1, .bool true)] (tb1 b))) := Heap.SameBut.update ..
  have hg : (s.heap.update D (Obj.putSet #[(1, .bool true)] (tb1 b))).get? D = some (setO1 b) := Heap.get?_update_self _ ho (by cases b <;> rfl)
  exact wpAny_pure ⟨_, rfl, h _ hsb hg⟩
theorem add_again {Q : Value → Shared → Prop} (ho : s.heap.get? D = some (setO1 b)) (h : Q .none { s with toks := s.toks + 1 }) :
    wpAny (model prog w) A (call (.builtin "set.add") [.ref D, .bool true]) Q E s := by
  have hT : s.TypeIs (.ref D) "set" := ⟨_, ho, rfl⟩
  refine wpAny_call_entry F.slot_set_add hT F.entry_set_add ?_ (F.args_set_add_2 _ _)
  unfold Builtin.«set.add» Builtin.Frozenset.oneOther
  simp only [List.isEmpty_nil, bind_assoc]
  unfold Builtin.Frozenset.addrOf setAdd
  refine wpAny_bind (wpAny_pure ?_)
  try dsimp only
  refine wpAny_bind (wpAny_pure ?_)
  try dsimp only
  refine wpAny_bind ?_
  refine wpAny_holding ?_
  refine wpAny_bind (hash_true ?_)
  unfold setAddHashed setAddHashedIn
  refine wpAny_holding (wpAny_bind (wpAny_setState_of ho rfl (fits1 b) ?_))
  dsimp only
  rw [if_pos (by decide +kernel)]
  unfold setAddByScan
  refine wpAny_bind ?_
  refine wpAny_bind (wpAny_rule ?_)
  show wpAny _ _ (setScanFrom D (.bool true) 1 true [(1, .bool true)] 0 >>= _) _ _ _
  unfold setScanFrom
  rw [if_pos (by decide)]
  refine wpAny_bind (wpAny_bind (wpAny_setEpoch_of ho rfl (fits1 b) ?_))
  refine wpAny_bind (eq_true_true ?_)
  simp only [Bool.and_self, if_true]
  refine wpAny_pure (wpAny_pure (wpAny_pure ?_))
  exact wpAny_pure ⟨_, rfl, h⟩
theorem new_set {Q : Value → Shared → Prop} (h : Q (.ref s.heap.objs.size) { s with heap := s.heap.push (setO0 (!w.params.followText "set-order")) }) : wpAny (model prog w) A (newSet (.type "set")) Q E s := by
  unfold newSet setsByText
  refine wpAny_bind (wpAny_bind (wpAny_askSetting (wpAny_pure ?_)))
  exact wpAny_newObj_type h (Nat.zero_le _)
theorem slot_set_iter : Slot "set" "__iter__" "set.__iter__" :=
  .of (owner := "set") (n := "__iter__") (by rw [typeLookup_type, builtinLookup_eq_fast]; kernel_rfl) (by decide +kernel) (by decide +kernel) (by decide +kernel)
    (by first | exact .inl (by decide +kernel) | exact .inr (by decide +kernel)) (by rw [isSubtype_type]; kernel_rfl)
theorem entry_set_iter : entryFor table "set.__iter__" = some Builtin.«frozenset.__iter__» :=
  entryFor_alias (id' := "frozenset.__iter__") (by kernel_rfl) rfl (by decide +kernel) (by kernel_rfl)
theorem args_set_iter (a : Value) : argsOk "set.__iter__" ⟨[a], []⟩ := by unfold argsOk; kernel_rfl
theorem slot_si_next : Slot "set_iterator" "__next__" "set_iterator.__next__" :=
  .of (owner := "set_iterator") (n := "__next__") (by rw [typeLookup_type, builtinLookup_eq_fast]; kernel_rfl) (by decide +kernel) (by decide +kernel) (by decide +kernel)
    (by first | exact .inl (by decide +kernel) | exact .inr (by decide +kernel)) (by rw [isSubtype_type]; kernel_rfl)
theorem entry_si_next : entryFor table "set_iterator.__next__" = some Builtin.«set_iterator.__next__» := entryFor_of_tree (by kernel_rfl)
theorem args_si_next (a : Value) : argsOk "set_iterator.__next__" ⟨[a], []⟩ := by unfold argsOk; kernel_rfl
noncomputable def siO (D : Addr) (slot i : Int) (left : Value) : Obj := { cls := .type "set_iterator", data := .fields #[rawInt slot, rawInt i, left, rawInt 1, rawInt 1] }
theorem iter_set {Q : Value → Shared → Prop} (ho : s.heap.get? D = some (setO1 b)) (h : Q (.ref s.heap.objs.size) { s with heap := s.heap.push (siO D 0 0 (.ref D)) }) : wpAny (model prog w) A (pyIter (.ref D)) Q E s := by
  have hT : s.TypeIs (.ref D) "set" := ⟨_, ho, rfl⟩
  refine wpAny_pyIter_slot hT slot_set_iter (wpAny_call_entry slot_set_iter hT entry_set_iter ?_ (args_set_iter _))
  unfold Builtin.«frozenset.__iter__»
  refine wpAny_bind (m := Builtin.Frozenset.slot0 "__iter__" _) (wpAny_pure ?_)
  refine wpAny_bind ?_
  unfold Builtin.Frozenset.sizeOf setEntries
  refine wpAny_bind (wpAny_bind (wpAny_setState_of ho rfl (fits1 b) (wpAny_pure (wpAny_pure ?_))))
  refine wpAny_bind ?_
  unfold setDrawn setsByText
  refine wpAny_bind (wpAny_setState_of ho rfl (fits1 b) ?_)
  dsimp only
  refine wpAny_bind (wpAny_bind (wpAny_askSetting (wpAny_pure (wpAny_pure ?_))))
  rw [if_neg (fun q => absurd (Bool.and_eq_true_iff.mp q).2 (by cases b <;> decide +kernel))]
  refine wpAny_bind (wpAny_pure ?_)
  refine wpAny_bind (wpAny_setEpoch_of ho rfl (fits1 b) ?_)
  refine wpAny_bind (m := newFields "set_iterator" [rawInt 0, rawInt 0, .ref D, rawInt 1, rawInt 1]) (wpAny_newObj_type ?_ (Nat.le_of_ble_eq_true rfl))
  exact wpAny_pure ⟨_, rfl, "set_iterator", _, ⟨_, Heap.get?_push_size _ rfl, rfl⟩, slot_si_next.lookup, h⟩
theorem pick_one {α : Type} (f : Nat → Nat) (x : α) : pickOrder f #[x] = #[x] := by
  unfold pickOrder
  show pickOrder.go f 1 0 [x] #[] = _
  unfold pickOrder.go
  simp only [List.length_singleton, Nat.mod_one]
  rfl
/-- the set's only element, by either way of walking it -/
theorem next_one {Q : Option (Value × Nat) → Shared → Prop} (ho : s.heap.get? D = some (setO1 (!w.params.followText "set-order"))) (h : ∀ sl, (w.params.followText "set-order" = false → sl = 2) → Q (some (.bool true, sl)) s) :
    wpAny (model prog w) A (setNext D 0 0 1) Q E s := by
  unfold setNext
  refine wpAny_bind (wpAny_setState_of ho rfl (fits1 _) ?_)
  dsimp only
  unfold setsByText
  refine wpAny_bind (wpAny_bind (wpAny_askSetting (wpAny_pure ?_)))
  show wpAny _ _ (if w.params.followText "set-order" = true then _ else _) _ _ _
  cases hb : w.params.followText "set-order" with
  | true =>
    rw [if_pos rfl]
    simp only [bne_self_eq_false, Bool.false_eq_true, if_false]
    refine wpAny_bind ?_
    unfold setWalk setsByText
    rw [hb] at ho
    refine wpAny_bind (wpAny_setState_of ho rfl (fits1 _) ?_)
    dsimp only
    refine wpAny_bind (wpAny_bind (wpAny_askSetting (wpAny_pure ?_)))
    show wpAny _ _ (if w.params.followText "set-order" = true then _ else _) _ _ _
    rw [if_pos hb]
    refine wpAny_bind (wpAny_askSetting (wpAny_pure (wpAny_pure ?_)))
    rw [pick_one]
    exact h 0 (fun q => by rw [hb] at q; cases q)
  | false =>
    rw [if_neg (by decide)]
    refine wpAny_bind (wpAny_pure ?_)
    rw [show SetTable.below (tb1 !false).place 0 = 0 by decide +kernel]
    exact wpAny_pure (h 2 (fun _ => rfl))
theorem one_one : ((((1 : Nat) : Int) != 1)) = false := by decide
theorem next_body {I : Addr} {Q : Fin → Shared → Prop} (hI : s.heap.get? I = some (siO D 0 0 (.ref D))) (ho : s.heap.get? D = some (setO1 (!w.params.followText "set-order")))
    (h : ∀ h' (sl : Nat), h'.get? I = some (siO D (sl : Int) 1 (.ref D)) → (w.params.followText "set-order" = false → sl = 2) → Heap.SameBut I s.heap h' → Q (.done (.ret (.bool true))) { s with heap := h' }) :
    wpAny (model prog w) A (Builtin.«set_iterator.__next__» ⟨[.ref I], []⟩) Q E s := by
  unfold Builtin.«set_iterator.__next__»
  refine wpAny_bind (m := slotArgs "__next__" 0 _) (wpAny_pure ?_)
  refine wpAny_bind (wpAny_fieldsOf hI rfl ?_)
  dsimp only
  refine wpAny_bind ?_
  unfold setEntries
  refine wpAny_bind (wpAny_setState_of ho rfl (fits1 _) (wpAny_pure ?_))
  refine wpAny_ite_false one_one ?_
  refine wpAny_bind (next_one (D := D) ho fun sl hsl => ?_)
  dsimp only
  refine wpAny_bind (wpAny_setField_rec hI (by simp) fun h₁ hI₁ hs₁ => ?_)
  refine wpAny_bind (wpAny_setField_rec hI₁ (by simp) fun h₂ hI₂ hs₂ => ?_)
  exact wpAny_pure (h h₂ sl hI₂ hsl (hs₁.trans hs₂))
theorem next_none {sl : Nat} {Q : Option (Value × Nat) → Shared → Prop} (ho : s.heap.get? D = some (setO1 (!w.params.followText "set-order"))) (hsl : w.params.followText "set-order" = false → sl = 2) (h : Q none s) :
    wpAny (model prog w) A (setNext D sl 1 1) Q E s := by
  unfold setNext
  refine wpAny_bind (wpAny_setState_of ho rfl (fits1 _) ?_)
  dsimp only
  unfold setsByText
  refine wpAny_bind (wpAny_bind (wpAny_askSetting (wpAny_pure ?_)))
  show wpAny _ _ (if w.params.followText "set-order" = true then _ else _) _ _ _
  cases hb : w.params.followText "set-order" with
  | true =>
    rw [if_pos rfl]
    simp only [bne_self_eq_false, Bool.false_eq_true, if_false]
    refine wpAny_bind ?_
    unfold setWalk setsByText
    rw [hb] at ho
    refine wpAny_bind (wpAny_setState_of ho rfl (fits1 _) ?_)
    dsimp only
    refine wpAny_bind (wpAny_bind (wpAny_askSetting (wpAny_pure ?_)))
    show wpAny _ _ (if w.params.followText "set-order" = true then _ else _) _ _ _
    rw [if_pos hb]
    refine wpAny_bind (wpAny_askSetting (wpAny_pure (wpAny_pure ?_)))
    rw [pick_one]
    exact h
  | false =>
    rw [if_neg (by decide)]
    refine wpAny_bind (wpAny_pure ?_)
    rw [hsl hb, show SetTable.below (tb1 !false).place 2 = 1 by decide +kernel]
    exact wpAny_pure h
theorem next_end {I : Addr} {sl : Nat} {Q : Fin → Shared → Prop} (hh : A.handled = none) (hI : s.heap.get? I = some (siO D sl 1 (.ref D))) (ho : s.heap.get? D = some (setO1 (!w.params.followText "set-order"))) (hsl : w.params.followText "set-order" = false → sl = 2)
    (hE : ∀ h' e, Heap.ExtBut I s.heap h' → (∃ o, h'.get? e = some o ∧ o.cls = .type "StopIteration") → E (.ref e) { s with heap := h' }) :
    wpAny (model prog w) A (Builtin.«set_iterator.__next__» ⟨[.ref I], []⟩) Q E s := by
  unfold Builtin.«set_iterator.__next__»
  refine wpAny_bind (m := slotArgs "__next__" 0 _) (wpAny_pure ?_)
  refine wpAny_bind (wpAny_fieldsOf hI rfl ?_)
  dsimp only
  refine wpAny_bind ?_
  unfold setEntries
  refine wpAny_bind (wpAny_setState_of ho rfl (fits1 _) (wpAny_pure ?_))
  refine wpAny_ite_false one_one ?_
  refine wpAny_bind (next_none (D := D) (sl := sl) ho hsl ?_)
  dsimp only
  refine wpAny_bind (wpAny_setField_rec hI (by simp) fun h₁ hI₁ hs₁ => ?_)
  show wpAny _ _ (newExc (.type "StopIteration") [] >>= _) _ _ _
  refine wpAny_bind ?_
  simp only [newExc, newTuple]
  refine wpAny_bind (wpAny_newObj_type ?_ (by size_fits))
  refine wpAny_bind (m := firstArgMember _ _) (wpAny_of_eq (a := Value.none) (by first | rfl | (simp only [firstArgMember]; rfl)) ?_)
  refine wpAny_newObj_type ?_ (by size_fits)
  refine wpAny_raiseNew_none hh ?_
  exact hE _ _ (fun c o hc e => Heap.get?_push_of_some _ (Heap.get?_push_of_some _ (hs₁.extBut _ _ hc e))) ⟨_, Heap.get?_push_size _ rfl, rfl⟩
theorem pyNext_set {I : Addr} {Q : Option Value → Shared → Prop} (hI : s.heap.get? I = some (siO D 0 0 (.ref D))) (ho : s.heap.get? D = some (setO1 (!w.params.followText "set-order")))
    (h : ∀ h' (sl : Nat), h'.get? I = some (siO D (sl : Int) 1 (.ref D)) → (w.params.followText "set-order" = false → sl = 2) → Heap.SameBut I s.heap h' → Q (some (.bool true)) { s with heap := h' }) : wpAny (model prog w) A (pyNext (.ref I)) Q E s := by
  have hT : s.TypeIs (.ref I) "set_iterator" := ⟨_, hI, rfl⟩
  unfold pyNext
  exact wpAny_bind (wpAny_attempt (wpAny_callSpecial?_slot (name := Str.ofString "__next__") hT slot_si_next
    (wpAny_call_entry slot_si_next hT entry_si_next (next_body hI ho fun h' sl a b c => ⟨_, rfl, wpAny_pure (h h' sl a b c)⟩) (args_si_next _))))
theorem pyNext_set_end {I : Addr} {sl : Nat} {Q : Option Value → Shared → Prop} (hh : A.handled = none) (hI : s.heap.get? I = some (siO D sl 1 (.ref D))) (ho : s.heap.get? D = some (setO1 (!w.params.followText "set-order"))) (hsl : w.params.followText "set-order" = false → sl = 2)
    (hQ : ∀ h', Heap.ExtBut I s.heap h' → Q none { s with heap := h' }) : wpAny (model prog w) A (pyNext (.ref I)) Q E s := by
  have hT : s.TypeIs (.ref I) "set_iterator" := ⟨_, hI, rfl⟩
  unfold pyNext
  refine wpAny_bind (wpAny_attempt (wpAny_callSpecial?_slot (name := Str.ofString "__next__") hT slot_si_next
    (wpAny_call_entry slot_si_next hT entry_si_next (next_end hh hI ho hsl fun h' e hk he => ?_) (args_si_next _))))
  obtain ⟨o, ho, hc⟩ := he
  refine wpAny_bind (wpAny_isInstance (T := "StopIteration") (b := true) ⟨o, ho, hc⟩ isSubtype_stop ?_)
  exact wpAny_pure (hQ _ hk)
theorem unpack_set {Q : List Value → Shared → Prop} (hh : A.handled = none) (ho : s.heap.get? D = some (setO1 (!w.params.followText "set-order"))) (h : ∀ h', Heap.ExtBut s.heap.objs.size s.heap h' → Q [.bool true] { s with heap := h' }) :
    wpAny (model prog w) A (unpackItems (.ref D) 1 none) Q E s := by
  have hT : s.TypeIs (.ref D) "set" := ⟨_, ho, rfl⟩
  have hlt : D ≠ s.heap.objs.size := Nat.ne_of_lt (Heap.lt_size ho)
  unfold unpackItems
  refine wpAny_bind ?_
  unfold notIterableAtAll
  refine wpAny_bind (wpAny_specialOf hT slot_set_iter.lookup ?_)
  refine wpAny_pure ?_
  simp only [Bool.false_eq_true, if_false]
  refine wpAny_bind (wpAny_holding (iter_set ho ?_))
  have ho₁ : (s.heap.push (siO D 0 0 (.ref D))).get? D = some (setO1 (!w.params.followText "set-order")) := Heap.get?_push_of_some _ ho
  refine wpAny_bind (wpAny_holding ?_)
  show wpAny _ _ (draw _ 1) _ _ _
  unfold draw
  refine wpAny_bind (pyNext_set (D := D) (Heap.get?_push_size _ rfl) ho₁ fun h₁ sl hI₁ hsl hs₁ => ?_)
  dsimp only
  refine wpAny_bind (wpAny_holding (wpAny_pure (wpAny_pure ?_)))
  rw [if_neg (by simp)]
  have ho₂ := hs₁.extBut _ _ hlt ho₁
  refine wpAny_bind (wpAny_holding (pyNext_set_end hh hI₁ ho₂ hsl fun h₂ he₂ => ?_))
  simp only [Option.isSome_none, Bool.false_eq_true, if_false]
  exact wpAny_pure (h h₂ fun b o hb e => he₂ b o hb (hs₁.extBut b o hb (Heap.get?_push_of_some _ e)))
end
end Mine
end

-- WCv
section
open PySem PySem.W PyProof.Rows PySem.Calls PySem.Spec
set_option linter.unusedVariables false
set_option maxRecDepth 100000
set_option maxHeartbeats 1000000
namespace Mine
open PyProof.Rows.LCg
section
variable {prog : Program} {w : World} {A : Around} {E : Value → Shared → Prop} {s : Shared} {h₀ : Heap} {L : Addr} {m : Str → Option Value} {env : Env}
noncomputable abbrev tupV (vs : List Value) : Obj := { cls := .type "tuple", data := .seq vs.toArray }
theorem tup_st {ax I : Addr} {its : List Value} : ∀ i (h h' : Heap) (o : Obj) (nw : List (Addr × Obj)), (h.IsTupleIter I ax i ∧ h.IsTuple ax its.toArray) → h.get? I = some o → h'.get? I = some o → (∀ b o, h₀.get? b = some o → h'.get? b = some o) → News h₀ L h' nw → (ax, tupV its) ∈ nw → (h'.IsTupleIter I ax i ∧ h'.IsTuple ax its.toArray) :=
  fun i h h' o nw st e e' k N S => ⟨by obtain ⟨o', q, r⟩ := st.1; rw [e] at q; cases q; exact ⟨o, e', r⟩, ⟨_, (N _ S).1, rfl, _, rfl⟩⟩
/-- a comprehension over a made tuple: where it starts -/
noncomputable def CompSrcV (prog : Program) (w : World) (A : Around) (h₀ : Heap) (L : Addr) (m : Str → Option Value) (env : Env) (elt : PySem.Expr) (x : Str) (scope : Scope) (cl : List (Str × Addr)) (Fin : Shared → List Value → List (Addr × Obj) → Prop) (xv : Value) (s₁ : Shared) : Prop :=
  ∃ ax its news, xv = .ref ax ∧ A.handled = none ∧ Fr h₀ L s₁.heap m ∧ News h₀ L s₁.heap news ∧ (ax, tupV its) ∈ news ∧ its.length ≤ sizeLine ∧
    ∀ s₂ : Shared, (∃ h, s₂ = { s₁ with heap := h }) → CompRest prog w A h₀ L m env elt x scope cl s₂ (fun nw => (ax, tupV its) ∈ nw) (fun i v => its[i]? = some v) (Fin s₂) its.length 0 [] news
theorem Assign_ListComp_V {elt iter : PySem.Expr} {x y : Str} {px py : Pos} {scope : Scope} {cl : List (Str × Addr)} {pos spos : Pos} {Q : Flow → Shared → Prop} (F₀ : Fr h₀ L s.heap m) (hLe : env.locals = L)
    (hsw : swapsWith (.ListComp elt [⟨.Name x px, iter, [], 0⟩] scope pos) (some (.Name y py)) spos.line env = pure true)
    (hclos : closureFor scope env = pure cl) (hcell : ∀ z ∈ scope.names, z.2 ≠ .cell) (hkind : scope.kind = .function)
    (hnames : ∀ z ∈ scope.names, z.2 = .local → scope.names.lookup z.1 = some .local) (hx : scope.names.lookup x = some .local)
    (hy : env.kindOf y = some .local) (hp : (env.scope.kind == .class || (env.scope.kind == .module && env.locals != env.globals)) = false)
    (h : wpAny (model prog w) A (eval iter env) (CompSrcV prog w A h₀ L m env elt x scope cl (fun s₂ => FinA h₀ L m s₂ y Q)) E s)
    (hs : ∀ x, foldedSetIterable iter env x = pure x := by intro _; rfl) :
    wpAny (model prog w) A (exec (.Assign [.Name y py] (.ListComp elt [⟨.Name x px, iter, [], 0⟩] scope pos) spos) env) Q E s := by
  subst hLe
  rw [exec_Assign_Name_used _ _ _ _ hsw]
  refine wpAny_bind (wpAny_standAt (wpAny_bind ?_))
  show wpAny _ A (do let _ ← comprehension (.ListComp elt [⟨.Name x px, iter, [], 0⟩] scope pos) scope env _ (newList []) false (eval iter env) (some (assign (.Name y py) env))) _ _ s
  refine wpAny_bind (wpAny_mono (wpAny_comprehension_free (use := some (assign (.Name y py) env)) (Q := fun _ s' => Q .next s') rfl hs hclos hkind hnames
    (wpAny_mono h (fun xv s₁ h₁ => ?_) fun _ _ e => e)) (fun _ s' hq => wpAny_pure (wpAny_pure hq)) fun _ _ e => e)
  obtain ⟨ax, its, news, rfl, hh, F, N, S, hsz, R⟩ := h₁
  have hl : s₁.heap.IsTuple ax its.toArray := ⟨_, (N _ S).1, rfl, _, rfl⟩
  have hlt : ax < s₁.heap.objs.size := Heap.lt_size (N _ S).1
  refine wpAny_pyIter_tuple hl ?_
  have up : ∀ b o, s₁.heap.get? b = some o → (s₁.heap.push { cls := .type "tuple_iterator", data := .fields #[.ref ax, .int 0 0] }).get? b = some o := fun b o e => Heap.get?_push_of_some _ e
  have hsize : its.toArray.size = its.length := by simp
  have W := Walks.tuple (prog := prog) (w := w) hh s₁.heap.objs.size ax (Nat.ne_of_lt hlt) its.toArray
  rw [hsize] at W
  have W' : Walks prog w A s₁.heap.objs.size [s₁.heap.objs.size, ax] [s₁.heap.objs.size] its.length (fun i v => its[i]? = some v) (fun i h => h.IsTupleIter s₁.heap.objs.size ax i ∧ h.IsTuple ax its.toArray) :=
    ⟨W.sub, W.frame, fun i s Q E hi st hQ => W.item i s Q E hi st fun v h' tk hP => hQ v h' tk (by simpa using hP), W.done, W.self⟩
  refine block_U W' hsz (fun i h st => by obtain ⟨o, e, _⟩ := st.1; exact ⟨o, e⟩) tup_st hcell hkind hx ⟨⟨_, Heap.get?_push_size _ rfl, rfl, rfl⟩, hl.push _⟩ (fun b hb => ?_)
    (F.keeps up) (N.grown up) (Nat.ne_of_lt F.ns.lt) (next_is_new F) (fun p hp => Nat.ne_of_lt (Heap.lt_size (N p hp).1)) S (R _ ⟨_, rfl⟩) ?_
  · show b < (s₁.heap.push _).objs.size
    rw [Heap.size_push]
    rcases List.mem_cons.mp hb with rfl | hb
    · exact Nat.lt_succ_self _
    · rw [List.mem_singleton.mp hb]; exact Nat.lt_succ_of_lt hlt
  · intro D C h' tk m' ys news' F' N' o1 hn hC₀ hD₀ hCL hDL hCD offC fin
    show wpAny _ A (assign (.Name y py) env (.ref D)) _ _ _
    refine wpAny_assign_Name (wpAny_storeName_local hy F'.ns (fun h₂ hn₂ hs₂ => ?_) hp)
    have hL₀ : h₀.get? env.locals = none := Heap.get?_none_of_le F'.above
    have F₂ : Fr h₀ env.locals h₂ (fun z => if z = y then some (.ref D) else m z) := ⟨hn₂, fun b o e => hs₂.extBut b o (fun q => by rw [q, hL₀] at e; cases e) (F'.keep b o e), F'.above⟩
    refine ⟨m', hn.sameBut hs₂ hCL, fun h'' hs'' => fin D h'' _ (F₂.change hs'' hCL hC₀) (fun p hp => ?_) o1⟩
    have z : h₂.get? p.1 = some p.2 := hs₂.extBut _ _ (N' p hp).2.1 (N' p hp).1
    refine ⟨hs''.extBut _ _ ?_ z, (N' p hp).2⟩
    rcases List.mem_cons.mp hp with rfl | hp
    · exact Ne.symm hCD
    · exact offC p hp
end
end Mine
end

-- WSc
section
open PySem PySem.W PyProof.Rows PySem.Calls PySem.Spec
set_option linter.unusedVariables false
set_option maxRecDepth 100000
set_option maxHeartbeats 1000000
namespace Mine
open PyProof.Rows.LCg
theorem compTurn_set (elt target iter : PySem.Expr) (ifs : List PySem.Expr) (scope : Scope) (pos : Pos) (it acc : Value) (env : Env) :
    compTurn (.SetComp elt [⟨target, iter, ifs, 0⟩] scope pos) 0 it acc env = (do
      standAt iter.pos
      match ← pyNext it with
      | none => pure (.done .next)
      | some v =>
        letOwnedTupleGo target it v
        assign target env v
        let mut ok := true
        for c in ifs do
          if ok then ok ← isTrue c env (eval c env)
        if ok then
          (do
            let v ← eval elt env
            standAt elt.pos
            let _ ← call (.builtin "set.add") [acc, v])
        again (.compLoop (.SetComp elt [⟨target, iter, ifs, 0⟩] scope pos) 0 it acc env)) := by rfl
section
variable {prog : Program} {w : World} {A : Around} {E : Value → Shared → Prop} {R : Result → Shared → Prop} {s : Shared} {h₀ : Heap} {L : Addr} {m : Str → Option Value}
theorem compStart_set {elt target iter ifs rest scope pos it acc env}
    (h0 : codeAny (model prog w) A (.compLoop (.SetComp elt (⟨target, iter, ifs, 0⟩ :: rest) scope pos) 0 it acc env) R s)
    (h : wpAny (model prog w) A (pyIter it) (fun it' s' => codeAny (model prog w) A (.compLoop (.SetComp elt (⟨target, iter, ifs, 0⟩ :: rest) scope pos) 0 it' acc env) R s')
      (notedBy (model prog w) A env fun x s' => R (.error x) s') s) :
    codeAny (model prog w) A (.compStart (.SetComp elt (⟨target, iter, ifs, 0⟩ :: rest) scope pos) 0 it acc env) R s := by
  refine codeAny_of_tree ?_
  show wpAny _ A ((compStart (.SetComp elt (⟨target, iter, ifs, 0⟩ :: rest) scope pos) 0 it acc env).onRaise (fun x => do noteFrame x env; standAt theWindowsPlace)) _ _ s
  refine wpAny_notedAt ?_
  unfold compStart
  show wpAny _ A (ask >>= _) _ _ s
  refine wpAny_bind (wpAny_askSetting (wpAny_ite ?_))
  split
  · first
      | exact wpAny_bind (wpAny_pure (wpAny_pure (And.intro rfl h0)))
      | exact wpAny_pure (And.intro rfl h0)
  · first
      | exact wpAny_bind (wpAny_rule (wpAny_bind (wpAny_standAt (wpAny_bind (wpAny_mono h (fun it' s' h' => wpAny_pure (And.intro rfl h')) fun _ _ x => x)))))
      | (refine wpAny_bind (wpAny_rule ?_); show wpAny _ _ (standAt iter.pos >>= _) _ _ s; exact wpAny_bind (wpAny_standAt (wpAny_bind (wpAny_mono h (fun it' s' h' => wpAny_pure (And.intro rfl h')) fun _ _ x => x))))
theorem compLoop_set {elt target iter : PySem.Expr} {ifs : List PySem.Expr} {scope : Scope} {pos : Pos} {it acc : Value} {env : Env} (I : Nat → Shared → Prop)
    (turn : ∀ n s, I n s → wpAny (model prog w) A (pyNext it) (fun r s₁ => match r with
      | none => R (.ok .next) s₁
      | some v => wpAny (model prog w) A (assign target env v) (fun _ s₂ =>
          wpAny (model prog w) A (forIn ifs true fun c r => if r = true then do let ok ← isTrue c env (eval c env); pure (ForInStep.yield ok) else pure (ForInStep.yield r)) (fun ok s₃ =>
            if ok = true then wpAny (model prog w) A (eval elt env) (fun x s₄ =>
              wpAny (model prog w) A (call (.builtin "set.add") [acc, x]) (fun _ s₅ => ∃ m, m < n ∧ I m s₅) (notedBy (model prog w) A env fun e s' => R (.error e) s') s₄) (notedBy (model prog w) A env fun e s' => R (.error e) s') s₃
            else ∃ m, m < n ∧ I m s₃) (notedBy (model prog w) A env fun e s' => R (.error e) s') s₂) (notedBy (model prog w) A env fun e s' => R (.error e) s') s₁) (notedBy (model prog w) A env fun e s' => R (.error e) s') s)
    (n : Nat) (h : I n s) (ht : ∀ v, letOwnedTupleGo target it v = pure () := by intro _; rfl) :
    codeAny (model prog w) A (.compLoop (.SetComp elt [⟨target, iter, ifs, 0⟩] scope pos) 0 it acc env) R s := by
  refine codeAny_loop rfl I (fun n s hI => ?_) n h
  show wpAny _ A ((compTurn (.SetComp elt [⟨target, iter, ifs, 0⟩] scope pos) 0 it acc env).onRaise (fun x => do noteFrame x env; theTreesLotGoes x)) _ _ s
  refine wpAny_noted ?_
  rw [compTurn_set]
  refine wpAny_bind (wpAny_standAt (wpAny_bind (wpAny_mono (turn n s hI) (fun r s₁ h₁ => ?_) fun _ _ h' => h')))
  cases r with
  | none => exact wpAny_pure h₁
  | some v =>
    refine wpAny_bind (wpAny_of_eq (ht v) ?_)
    refine wpAny_bind (wpAny_mono h₁ (fun _ s₂ h₂ => wpAny_bind (wpAny_mono h₂ (fun ok s₃ h₃ => ?_) fun _ _ h' => h')) fun _ _ h' => h')
    cases ok with
    | false => exact wpAny_pure ⟨rfl, h₃⟩
    | true =>
      exact wpAny_bind (wpAny_bind (wpAny_mono h₃ (fun x s₄ h₄ => wpAny_bind (wpAny_standAt (wpAny_bind (wpAny_mono h₄ (fun _ s₅ h₅ => wpAny_pure (wpAny_pure ⟨rfl, h₅⟩)) fun _ _ h' => h')))) fun _ _ h' => h'))
noncomputable def setAt (b : Bool) (i : Nat) : Obj := if i = 0 then setO0 b else setO1 b
theorem add_at {D : Addr} {b : Bool} {i : Nat} {Q : Value → Shared → Prop} (ho : s.heap.get? D = some (setAt b i)) (h : ∀ h', Heap.SameBut D s.heap h' → h'.get? D = some (setAt b (i + 1)) → Q .none { s with heap := h', toks := s.toks + 1 }) :
    wpAny (model prog w) A (call (.builtin "set.add") [.ref D, .bool true]) Q E s := by
  cases i with
  | zero => exact add_first ho h
  | succ i => exact add_again ho (h s.heap (Heap.SameBut.refl _ _) ho)
/-- what an element's value hands on: True, and nothing changed -/
noncomputable def ElTrue (h₀ : Heap) (L : Addr) (m : Str → Option Value) (s₁ : Shared) (need : List (Addr × Obj)) (y : Value) (s₂ : Shared) : Prop :=
  y = .bool true ∧ ∃ h' tk, s₂ = { s₁ with heap := h', toks := tk } ∧ Fr h₀ L h' m ∧ News h₀ L h' need
theorem block_S {elt iter : PySem.Expr} {x : Str} {px : Pos} {scope : Scope} {cl : List (Str × Addr)} {pos : Pos} {env : Env} {s₂ : Shared} {I : Addr} {fp : List Addr} {n : Nat} {P : Nat → Value → Prop} {St : Nat → Heap → Prop} {news : List (Addr × Obj)}
    {RR : Value → Addr → Result → Shared → Prop} (h1 : 1 ≤ n)
    (W : Walks prog w A I fp [I] n P St) (hIo : ∀ i h, St i h → ∃ o, h.get? I = some o)
    (hSt : ∀ i h h' o, St i h → h.get? I = some o → h'.get? I = some o → News h₀ L h' news → St i h')
    (hcell : ∀ y ∈ scope.names, y.2 ≠ .cell) (hkind : scope.kind = .function) (hx : scope.names.lookup x = some .local) (hst : St 0 s₂.heap) (hfp : ∀ b ∈ fp, b < s₂.heap.objs.size)
    (F : Fr h₀ L s₂.heap m) (N : News h₀ L s₂.heap news) (hIL : L ≠ I) (hI₀ : h₀.get? I = none) (off : ∀ p ∈ news, p.1 ≠ I)
    (R : ∀ i v I oI C oC D oD m₂ h tk (E' : Value → Shared → Prop), i < n → P i v → NsObj oC m₂ → m₂ x = some v → Fr h₀ L h m → News h₀ L h ((I, oI) :: (C, oC) :: (D, oD) :: news) → Off3 I C D news → ((@Ne Nat I C) ∧ (@Ne Nat I D) ∧ (@Ne Nat C D)) →
      wpAny (model prog w) A (eval elt (compEnvC scope cl C env)) (ElTrue h₀ L m { s₂ with heap := h, toks := tk } ((I, oI) :: (C, oC) :: (D, oD) :: news)) E' { s₂ with heap := h, toks := tk })
    (hRR : ∀ D C h tk m', Fr h₀ L h m → News h₀ L h ((D, setO1 (!w.params.followText "set-order")) :: news) → Off1 D news → h.Ns C m' → h₀.get? C = none → h₀.get? D = none → C ≠ L → D ≠ L → C ≠ D → (∀ p ∈ news, p.1 ≠ C) → RR (.ref D) C (.ok .next) { s₂ with heap := h, toks := tk }) :
    wpAny (model prog w) A (newSet (.type "set")) (fun acc s₃ => wpAny (model prog w) A (newFunctionEnv scope env.globals cl [] env.qual none .none (some env)) (fun cenv s₄ =>
      codeAny (model prog w) A (.compStart (.SetComp elt [⟨.Name x px, iter, [], 0⟩] scope pos) 0 (.ref I) acc { cenv with scope := relabel scope env }) (RR acc cenv.locals) s₄) E s₃) E s₂ := by
  refine new_set (wpAny_newFunctionEnv hcell (by intro y hy; simp at hy) (fun h₁ hns₁ hsb₁ => ?_) hkind)
  dsimp only at hns₁ hsb₁ ⊢
  generalize hb : (!w.params.followText "set-order") = b at hns₁ hsb₁ hRR ⊢
  generalize hH2 : s₂.heap.push (setO0 b) = H2 at hns₁ hsb₁ ⊢
  have hC : H2.objs.size = s₂.heap.objs.size + 1 := by rw [← hH2, Heap.size_push]
  have hDC : s₂.heap.objs.size ≠ H2.objs.size := by rw [hC]; exact Nat.ne_of_lt (Nat.lt_succ_self _)
  have below : ∀ b, b < s₂.heap.objs.size → b ≠ H2.objs.size ∧ b ≠ s₂.heap.objs.size := fun b hb => ⟨by rw [hC]; exact Nat.ne_of_lt (Nat.lt_succ_of_lt hb), Nat.ne_of_lt hb⟩
  have hDf : s₂.heap.objs.size ∉ fp := fun hm => Nat.lt_irrefl _ (hfp _ hm)
  have hCf : H2.objs.size ∉ fp := fun hm => by have := hfp _ hm; rw [hC] at this; exact Nat.lt_irrefl _ (Nat.lt_of_succ_lt this)
  have hIf : I ∈ fp := W.sub I (List.mem_singleton.mpr rfl)
  have hIlt : I < s₂.heap.objs.size := hfp I hIf
  have old : ∀ b o, s₂.heap.get? b = some o → h₁.get? b = some o := fun b o e => hsb₁.extBut b o (below b (Heap.lt_size e)).1 (Heap.get?_push_of_some _ (hH2 ▸ Heap.get?_push_of_some _ e))
  have hacc : h₁.get? s₂.heap.objs.size = some (setAt b 0) := hsb₁.extBut _ _ hDC (Heap.get?_push_of_some _ (hH2 ▸ Heap.get?_push_size _ rfl))
  have hst₁ : St 0 h₁ := W.frame _ _ _ hst fun b _ o e => old b o e
  have fresh : ∀ a, s₂.heap.objs.size ≤ a → s₂.heap.get? a = none := fun a ha => by
    cases e : s₂.heap.get? a with
    | none => rfl
    | some o' => exact absurd (Heap.lt_size e) (Nat.not_lt.mpr ha)
  have fresh₀ : ∀ a, s₂.heap.objs.size ≤ a → h₀.get? a = none := fun a ha => by
    cases e : h₀.get? a with
    | none => rfl
    | some o' => have := F.keep a o' e; rw [fresh a ha] at this; cases this
  have hD₀ : h₀.get? s₂.heap.objs.size = none := fresh₀ _ (Nat.le_refl _)
  have hC₀ : h₀.get? H2.objs.size = none := fresh₀ _ (by rw [hC]; exact Nat.le_succ _)
  have hLlt : L < s₂.heap.objs.size := F.ns.lt
  have hDL : s₂.heap.objs.size ≠ L := Ne.symm (below L hLlt).2
  have hCL : H2.objs.size ≠ L := Ne.symm (below L hLlt).1
  have hCI : I ≠ H2.objs.size := (below I hIlt).1
  have hDI : I ≠ s₂.heap.objs.size := (below I hIlt).2
  have off₀ : Off3 I H2.objs.size s₂.heap.objs.size news := Off3.of fun p hp => ⟨off p hp, (below _ (Heap.lt_size (N p hp).1)).1, (below _ (Heap.lt_size (N p hp).1)).2⟩
  have off3 := off₀.mem
  have loop : ∀ s₃ : Shared, s₃ = { s₂ with heap := h₁, toks := s₂.toks + ([] : List (Str × Value)).length } →
      codeAny (model prog w) A (.compLoop (.SetComp elt [⟨.Name x px, iter, [], 0⟩] scope pos) 0 (.ref I) (.ref s₂.heap.objs.size) (compEnvC scope cl H2.objs.size env))
        (RR (.ref s₂.heap.objs.size) H2.objs.size) s₃ := by
    rintro s₃ rfl
    refine compLoop_set
      (fun k s' => ∃ h' tk i m', s' = { s₂ with heap := h', toks := tk } ∧ i ≤ n ∧ k = n + 1 - i ∧ St i h' ∧ Fr h₀ L h' m ∧ h'.Ns H2.objs.size m' ∧ News h₀ L h' ((s₂.heap.objs.size, setAt b i) :: news)) ?_ (n + 1)
      ⟨h₁, _, 0, _, rfl, Nat.zero_le _, rfl, hst₁, F.keeps old, hns₁, fun p hp => ?_⟩
    · rintro k s' ⟨h', tk, i, m', rfl, hi, rfl, hst', F', hn', N'⟩
      by_cases hlt : i < n
      · refine W.item i _ _ _ hlt hst' fun v h₂ tk₂ hPv hst₂ hk₂ => ?_
        refine wpAny_assign_Name (wpAny_storeName_local (lookup_relabel_local hx) (hn'.at' fun o e => hk₂ _ o (by simpa using Ne.symm hCI) e) (fun h₃ hn₃ hs₃ => ?_) (by simp [compEnvC, relabel, hkind]))
        refine wpAny_tests_nil ?_
        simp only [if_true]
        have hst₃ : St (i + 1) h₃ := W.frame _ _ _ hst₂ fun b hb o e => hs₃.extBut b o (fun q => hCf (by have q' : b = H2.objs.size := q; rw [← q']; exact hb)) e
        obtain ⟨oI, heI⟩ := hIo _ _ hst₃
        obtain ⟨oC, heC, hoC⟩ := ns_obj hn₃
        have F₃ : Fr h₀ L h₃ m := (fr_but F' hk₂ hIL hI₀).change hs₃ hCL hC₀
        have N₂ : News h₀ L h₂ ((s₂.heap.objs.size, setAt b i) :: news) := news_but N' hk₂ fun p hp => by
          rcases List.mem_cons.mp hp with rfl | hp
          · exact Ne.symm hDI
          · exact (off3 p hp).1
        have N₃ : News h₀ L h₃ ((I, oI) :: (H2.objs.size, oC) :: (s₂.heap.objs.size, setAt b i) :: news) := fun p hp => by
          rcases List.mem_cons.mp hp with rfl | hp
          · exact ⟨heI, Ne.symm hIL, hI₀⟩
          · rcases List.mem_cons.mp hp with rfl | hp
            · exact ⟨heC, hCL, hC₀⟩
            · have z := N₂ p hp
              refine ⟨hs₃.extBut _ _ ?_ z.1, z.2⟩
              rcases List.mem_cons.mp hp with rfl | hp
              · exact hDC
              · exact (off3 p hp).2.1
        refine wpAny_mono (R i v I oI H2.objs.size oC s₂.heap.objs.size _ _ h₃ _ _ hlt hPv hoC (by simp) F₃ N₃ off₀ ⟨hCI, hDI, Ne.symm hDC⟩) (fun y s₄ h₄ => ?_) fun _ _ e => e
        obtain ⟨rfl, h₄, tk₄, rfl, F₄, N₄⟩ := h₄
        have zI := (N₄ (I, oI) List.mem_cons_self).1
        have zC := (N₄ (H2.objs.size, oC) (List.mem_cons_of_mem _ List.mem_cons_self)).1
        have zD := (N₄ (s₂.heap.objs.size, setAt b i) (List.mem_cons_of_mem _ (List.mem_cons_of_mem _ List.mem_cons_self))).1
        have N₄' : News h₀ L h₄ news := fun p hp => N₄ p (List.mem_cons_of_mem _ (List.mem_cons_of_mem _ (List.mem_cons_of_mem _ hp)))
        have hst₄ : St (i + 1) h₄ := hSt _ _ _ _ hst₃ heI zI N₄'
        refine add_at zD fun h₅ hs₅ hD₅ => ?_
        refine ⟨n + 1 - (i + 1), by omega, h₅, _, i + 1, _, rfl, hlt, rfl, W.frame _ _ _ hst₄ fun b hb o e => hs₅.extBut b o (fun q => hDf (q ▸ hb)) e, F₄.change hs₅ hDL hD₀,
          (hoC.ns zC).sameBut hs₅ (Ne.symm hDC), fun p hp => ?_⟩
        rcases List.mem_cons.mp hp with rfl | hp
        · exact ⟨hD₅, hDL, hD₀⟩
        · exact ⟨hs₅.extBut _ _ (off3 p hp).2.2 (N₄' p hp).1, (N₄' p hp).2⟩
      · obtain rfl : i = n := Nat.le_antisymm hi (Nat.not_lt.mp hlt)
        refine W.done _ _ _ hst' fun h₂ tk₂ hk₂ => ?_
        have e1 : setAt b i = setO1 b := if_neg (by omega)
        rw [e1] at N'
        exact hRR _ _ h₂ tk₂ _ (fr_but F' hk₂ hIL hI₀) (news_but N' hk₂ fun p hp => by
          rcases List.mem_cons.mp hp with rfl | hp
          · exact Ne.symm hDI
          · exact (off3 p hp).1) off₀.one (hn'.at' fun o e => hk₂ _ o (by simpa using Ne.symm hCI) e) hC₀ hD₀ hCL hDL (Ne.symm hDC) (fun p hp => (off3 p hp).2.1)
    · rcases List.mem_cons.mp hp with rfl | hp
      · exact ⟨hacc, hDL, hD₀⟩
      · exact ⟨old _ _ (N p hp).1, (N p hp).2⟩
  exact compStart_set (loop _ rfl) (W.self 0 _ _ _ hst₁ (loop _ rfl))
end
end Mine
namespace Mine
open PyProof.Rows.LCg
section
variable {prog : Program} {w : World} {A : Around} {E : Value → Shared → Prop} {s : Shared} {h₀ : Heap} {L : Addr} {m : Str → Option Value} {env : Env}
/-- a set comprehension over a made tuple, all of whose elements are True: where it starts -/
noncomputable def SetSrc (prog : Program) (w : World) (A : Around) (h₀ : Heap) (L : Addr) (m : Str → Option Value) (env : Env) (elt : PySem.Expr) (x : Str) (scope : Scope) (cl : List (Str × Addr)) (Q : Value → Shared → Prop) (xv : Value) (s₁ : Shared) : Prop :=
  ∃ (ax : Addr) (its : List Value) (news : List (Addr × Obj)), xv = .ref ax ∧ A.handled = none ∧ Fr h₀ L s₁.heap m ∧ News h₀ L s₁.heap news ∧ (ax, tupV its) ∈ news ∧ 1 ≤ its.length ∧
    (∀ g (i : Nat) v I oI C oC D oD m₂ h tk (E' : Value → Shared → Prop), its[i]? = some v → NsObj oC m₂ → m₂ x = some v → Fr h₀ L h m → News h₀ L h ((I, oI) :: (C, oC) :: (D, oD) :: news) → Off3 I C D news → ((@Ne Nat I C) ∧ (@Ne Nat I D) ∧ (@Ne Nat C D)) →
      wpAny (model prog w) A (eval elt (compEnvC scope cl C env)) (ElTrue h₀ L m { ({ s₁ with heap := g } : Shared) with heap := h, toks := tk } ((I, oI) :: (C, oC) :: (D, oD) :: news)) E' { ({ s₁ with heap := g } : Shared) with heap := h, toks := tk }) ∧
    ∀ D h tk, Fr h₀ L h m → News h₀ L h ((D, setO1 (!w.params.followText "set-order")) :: news) → Off1 D news → Q (.ref D) { s₁ with heap := h, toks := tk }
theorem eval_SetComp_V {elt iter : PySem.Expr} {x : Str} {px : Pos} {scope : Scope} {cl : List (Str × Addr)} {pos : Pos} {Q : Value → Shared → Prop} (F₀ : Fr h₀ L s.heap m)
    (hclos : closureFor scope env = pure cl) (hcell : ∀ y ∈ scope.names, y.2 ≠ .cell) (hkind : scope.kind = .function)
    (hnames : ∀ y ∈ scope.names, y.2 = .local → scope.names.lookup y.1 = some .local) (hx : scope.names.lookup x = some .local)
    (h : wpAny (model prog w) A (eval iter env) (SetSrc prog w A h₀ L m env elt x scope cl Q) E s)
    (hs : ∀ x, foldedSetIterable iter env x = pure x := by intro _; rfl) :
    wpAny (model prog w) A (eval (.SetComp elt [⟨.Name x px, iter, [], 0⟩] scope pos) env) Q E s := by
  show wpAny _ A (comprehension (.SetComp elt [⟨.Name x px, iter, [], 0⟩] scope pos) scope env _ (newSet (.type "set")) false (eval iter env)) Q E s
  refine wpAny_comprehension_free (use := none) rfl hs hclos hkind hnames (wpAny_mono h (fun xv s₁ h₁ => ?_) fun _ _ e => e)
  obtain ⟨ax, its, news, rfl, hh, F, N, S, h1, R, fin⟩ := h₁
  have hl : s₁.heap.IsTuple ax its.toArray := ⟨_, (N _ S).1, rfl, _, rfl⟩
  have hlt : ax < s₁.heap.objs.size := Heap.lt_size (N _ S).1
  refine wpAny_pyIter_tuple hl ?_
  have up : ∀ b o, s₁.heap.get? b = some o → (s₁.heap.push { cls := .type "tuple_iterator", data := .fields #[.ref ax, .int 0 0] }).get? b = some o := fun b o e => Heap.get?_push_of_some _ e
  have hsize : its.toArray.size = its.length := by simp
  have W := Walks.tuple (prog := prog) (w := w) hh s₁.heap.objs.size ax (Nat.ne_of_lt hlt) its.toArray
  rw [hsize] at W
  have W' : Walks prog w A s₁.heap.objs.size [s₁.heap.objs.size, ax] [s₁.heap.objs.size] its.length (fun i v => its[i]? = some v) (fun i h => h.IsTupleIter s₁.heap.objs.size ax i ∧ h.IsTuple ax its.toArray) :=
    ⟨W.sub, W.frame, fun i s Q E hi st hQ => W.item i s Q E hi st fun v h' tk hP => hQ v h' tk (by simpa using hP), W.done, W.self⟩
  refine block_S (news := news) h1 W' (fun i h st => by obtain ⟨o, e, _⟩ := st.1; exact ⟨o, e⟩) (fun i h h' o st e e' N => ⟨by obtain ⟨o', q, r⟩ := st.1; rw [e] at q; cases q; exact ⟨o, e', r⟩, ⟨_, (N _ S).1, rfl, _, rfl⟩⟩) hcell hkind hx ⟨⟨_, Heap.get?_push_size _ rfl, rfl, rfl⟩, hl.push _⟩ (fun b hb => ?_)
    (F.keeps up) (N.grown up) (Nat.ne_of_lt F.ns.lt) (next_is_new F) (fun p hp => Nat.ne_of_lt (Heap.lt_size (N p hp).1)) (fun i v I oI C oC D oD m₂ h tk E' hi hv hC hx F' N' off ne => R _ i v I oI C oC D oD m₂ h tk E' hv hC hx F' N' off ne) ?_
  · show b < (s₁.heap.push _).objs.size
    rw [Heap.size_push]
    rcases List.mem_cons.mp hb with rfl | hb
    · exact Nat.lt_succ_self _
    · rw [List.mem_singleton.mp hb]; exact Nat.lt_succ_of_lt hlt
  · intro D C h tk m' F' N' o1 hn hC₀ hD₀ hCL hDL hCD offC
    refine ⟨m', hn, fun h'' hs'' => fin D h'' tk (F'.change hs'' hCL hC₀) (fun p hp => ?_) o1⟩
    refine ⟨hs''.extBut _ _ ?_ (N' p hp).1, (N' p hp).2⟩
    rcases List.mem_cons.mp hp with rfl | hp
    · exact Ne.symm hCD
    · exact offC p hp
end
end Mine
end

-- WCp
section
open PySem PySem.W PyProof.Rows PySem.Calls PySem.Spec
set_option linter.unusedVariables false
set_option maxRecDepth 100000
set_option maxHeartbeats 1000000
namespace Mine
open PyProof.Rows.LCg
theorem jn_wq : ∀ os : List Nat, jn [47] ([] :: os.map nm) = wq os
  | [] => rfl
  | o :: r => by
    show [] ++ [47] ++ jn [47] ((o :: r).map nm) = wq (o :: r)
    have key : ∀ (o : Nat) (r : List Nat), jn [47] ((o :: r).map nm) = nm o ++ wq r := by
      intro o r
      induction r generalizing o with
      | nil => simp [jn, wq]
      | cons b r ih =>
        show nm o ++ [47] ++ jn [47] ((b :: r).map nm) = _
        rw [ih]
        simp [wq, nm]
    rw [key]; simp [wq]
theorem nm_free {o : Nat} (ho : o < 256) : 47 ∉ nm o := fun h => (plain_fact (nm_plain ho 47 h)).2.2.2.1 rfl
theorem split_wS {os : List Nat} (ho : ∀ o ∈ os, o < 256) : Txt.split (wS os) (Str.ofString "/") = tS [] :: os.map fun o => tS (nm o) := by
  have e : Str.ofString "/" = tS [47] := by decide +kernel
  rw [e]
  show Txt.split (tS (wq os)) (tS [47]) = _
  rw [← jn_wq os, split_jn 47 [] ([] :: os.map nm) (by simp) ?_ (by decide +kernel)]
  · rw [List.map_cons, List.map_map]; rfl
  · intro p hp
    rcases List.mem_cons.mp hp with rfl | hp
    · simp
    · obtain ⟨o, h1, rfl⟩ := List.mem_map.mp hp
      exact nm_free (ho o h1)
/-- a way's names as split gives them -/
noncomputable def NmsAre (vs : List Value) (os : List Nat) : Prop := ∃ l : List (Str × Tok), vs = strValues l ∧ l.map (·.1) = os.map fun o => tS (nm o)
theorem NmsAre.nil : NmsAre [] [] := ⟨[], rfl, rfl⟩
theorem NmsAre.len {vs : List Value} {os : List Nat} (h : NmsAre vs os) : vs.length = os.length := by
  obtain ⟨l, rfl, e⟩ := h
  have := congrArg List.length e
  simpa [strValues] using this
theorem NmsAre.at {vs : List Value} {os : List Nat} {i : Nat} {v : Value} (h : NmsAre vs os) (hv : vs[i]? = some v) : ∃ o t, os[i]? = some o ∧ v = .str (tS (nm o)) t := by
  obtain ⟨l, rfl, e⟩ := h
  unfold strValues at hv
  rw [List.getElem?_map] at hv
  rcases h1 : l[i]? with _ | p
  · rw [h1] at hv; cases hv
  · rw [h1] at hv
    have h2 := congrArg (·[i]?) e
    simp only [List.getElem?_map, h1, Option.map_some] at h2
    rcases h3 : os[i]? with _ | o
    · rw [h3] at h2; cases h2
    · rw [h3] at h2
      simp only [Option.map_some, Option.some.injEq] at h2 hv
      exact ⟨o, p.2, rfl, by rw [← hv, h2]⟩
theorem NmsAre.item {vs : List Value} {os : List Nat} {i o : Nat} (h : NmsAre vs os) (hv : os[i]? = some o) : ∃ t, vs[i]? = some (.str (tS (nm o)) t) := by
  have hi := (List.getElem?_eq_some_iff.mp hv).1
  obtain ⟨o', t, e1, e2⟩ := h.at (List.getElem?_eq_getElem (by rw [h.len]; exact hi) : vs[i]? = _)
  rw [hv] at e1; cases e1
  exact ⟨t, by rw [List.getElem?_eq_getElem (by rw [h.len]; exact hi), e2]⟩
theorem NmsAre.snoc {vs : List Value} {os : List Nat} {i o : Nat} {t : Tok} (h : NmsAre vs (os.take i)) (e : os[i]? = some o) : NmsAre (vs ++ [.str (tS (nm o)) t]) (os.take (i + 1)) := by
  obtain ⟨l, rfl, e1⟩ := h
  refine ⟨l ++ [(tS (nm o), t)], by simp [strValues], ?_⟩
  rw [List.take_add_one, e, List.map_append, List.map_append, e1]; rfl
theorem NmsAre.take {vs : List Value} {os : List Nat} (i : Nat) (h : NmsAre vs os) : NmsAre (vs.take i) (os.take i) := by
  obtain ⟨l, rfl, e⟩ := h
  exact ⟨l.take i, by simp [strValues], by rw [List.map_take, e, List.map_take]⟩
theorem NmsAre.full {vs ws : List Value} {os : List Nat} {v0 : Value} (h : NmsAre vs os) (k : NmsAre ws (os.take ((v0 :: vs).toArray.size - 1))) : NmsAre ws os := by
  have e : (v0 :: vs).toArray.size - 1 = os.length := by simp [h.len]
  rw [e, List.take_length] at k; exact k
theorem NmsAre.at1 {vs : List Value} {os : List Nat} {i : Nat} {v v0 : Value} (h : NmsAre vs os) (hv : (v0 :: vs).toArray[i + 1]? = some v) : ∃ o t, os[i]? = some o ∧ v = .str (tS (nm o)) t := h.at (by simpa using hv)
theorem at_zero {vs : List Value} {v v0 : Value} (hv : (v0 :: vs).toArray[0]? = some v) : v = v0 := by simpa using hv.symm
theorem NmsAre.zero {os : List Nat} : NmsAre [] (os.take (0 - 1)) := by rw [show (0 - 1) = 0 from rfl, List.take_zero]; exact NmsAre.nil
theorem NmsAre.step {vs : List Value} {os : List Nat} {i o : Nat} {t : Tok} (h : NmsAre vs (os.take (i + 1 - 1))) (e : os[i]? = some o) : NmsAre (vs ++ [.str (tS (nm o)) t]) (os.take (i + 1 + 1 - 1)) := NmsAre.snoc h e
theorem starts_wS {os : List Nat} (h : os ≠ []) : Txt.startswith (wS os) (Str.ofString "/") = true := by
  cases os with
  | nil => exact absurd rfl h
  | cons o r =>
    have e : wS (o :: r) = tS [47] ++ tS (nm o ++ wq r) := by rw [tS_app]; rfl
    rw [e, show Str.ofString "/" = tS [47] by decide +kernel]
    exact KT.starts_app _ _
section
variable {prog : Program} {w : World} {A : Around} {E : Value → Shared → Prop} {s : Shared} {t u : Tok} {h₀ : Heap} {L : Addr} {m : Str → Option Value} {news : List (Addr × Obj)} {env : Env}
theorem split_wayK {os : List Nat} {Q : Value → Shared → Prop} (h256 : ∀ a ∈ os, a < 256) (hlen : os.length ≤ 9) (F : Fr h₀ L s.heap m) (N : News h₀ L s.heap news)
    (h : ∀ D vs t0 h' k, NmsAre vs os → Fr h₀ L h' m → News h₀ L h' ((D, W.listOf (Value.str (tS []) t0 :: vs).toArray 0) :: news) → (∀ p ∈ news, p.1 < D) → Q (.ref D) { s with heap := h', toks := k }) :
    wpAny (model prog w) A (call (.builtin "str.split") [.str (wS os) t, .str (Str.ofString "/") u]) Q E s := by
  refine KSpl.split1 F N (by decide +kernel) (fun D l h' k e _ F' N' l1 => ?_) ?_
  · rw [split_wS h256] at e
    obtain ⟨t0, l', rfl, e'⟩ := KSpl.cons_of (show l.map (·.1) = tS [] :: os.map (fun o => tS (nm o)) from e)
    exact h D (strValues l') t0 h' k ⟨l', rfl, e'⟩ F' N' l1
  · rw [wS_len, sizeLine_eq]; omega
theorem CompSrcV.intro {elt : PySem.Expr} {x : Str} {scope : Scope} {cl : List (Str × Addr)} {Fin : Shared → List Value → List (Addr × Obj) → Prop} {ax : Addr} {its : List Value} {s₁ : Shared}
    (hh : A.handled = none) (F : Fr h₀ L s₁.heap m) (N : News h₀ L s₁.heap news) (hm : (ax, tupV its) ∈ news) (hsz : its.length ≤ sizeLine)
    (h : ∀ g, CompRest prog w A h₀ L m env elt x scope cl { s₁ with heap := g } (fun nw => (ax, tupV its) ∈ nw) (fun i v => its.toArray[i]? = some v) (Fin { s₁ with heap := g }) its.length 0 [] news) :
    CompSrcV prog w A h₀ L m env elt x scope cl Fin (.ref ax) s₁ := ⟨ax, its, news, rfl, hh, F, N, hm, hsz, fun _ ⟨g, e⟩ => e ▸ (by
    have q : (fun (i : Nat) v => its[i]? = some v) = fun i v => its.toArray[i]? = some v := by funext i v; simp
    rw [q]; exact h g)⟩
theorem SetSrc.intro {elt : PySem.Expr} {x : Str} {scope : Scope} {cl : List (Str × Addr)} {Q : Value → Shared → Prop} {ax : Addr} {its : List Value} {s₁ : Shared}
    (hh : A.handled = none) (F : Fr h₀ L s₁.heap m) (N : News h₀ L s₁.heap news) (hm : (ax, tupV its) ∈ news) (h1 : 1 ≤ its.length)
    (R : ∀ g (i : Nat) v I oI C oC D oD m₂ h tk (E' : Value → Shared → Prop), its[i]? = some v → NsObj oC m₂ → m₂ x = some v → Fr h₀ L h m → News h₀ L h ((I, oI) :: (C, oC) :: (D, oD) :: news) → Off3 I C D news → ((@Ne Nat I C) ∧ (@Ne Nat I D) ∧ (@Ne Nat C D)) →
      wpAny (model prog w) A (eval elt (compEnvC scope cl C env)) (ElTrue h₀ L m { ({ s₁ with heap := g } : Shared) with heap := h, toks := tk } ((I, oI) :: (C, oC) :: (D, oD) :: news)) E' { ({ s₁ with heap := g } : Shared) with heap := h, toks := tk })
    (fin : ∀ D h tk, Fr h₀ L h m → News h₀ L h ((D, setO1 (!w.params.followText "set-order")) :: news) → Off1 D news → Q (.ref D) { s₁ with heap := h, toks := tk }) :
    SetSrc prog w A h₀ L m env elt x scope cl Q (.ref ax) s₁ := ⟨ax, its, news, rfl, hh, F, N, hm, h1, R, fin⟩
theorem ElTrue.intro {s₁ : Shared} {need : List (Addr × Obj)} {h' : Heap} {tk : Nat} (F : Fr h₀ L h' m) (N : News h₀ L h' need) : ElTrue h₀ L m s₁ need (.bool true) { s₁ with heap := h', toks := tk } := ⟨rfl, h', tk, rfl, F, N⟩
theorem unpack_setK {D : Addr} {Q : List Value → Shared → Prop} (hh : A.handled = none) (F : Fr h₀ L s.heap m) (N : News h₀ L s.heap news) (hm : (D, setO1 (!w.params.followText "set-order")) ∈ news)
    (h : ∀ h', Fr h₀ L h' m → News h₀ L h' news → Q [.bool true] { s with heap := h' }) : wpAny (model prog w) A (unpackItems (.ref D) 1 none) Q E s := by
  refine unpack_set hh (N _ hm).1 fun h' he => ?_
  have fresh : ∀ b o, s.heap.get? b = some o → h'.get? b = some o := fun b o e => he b o (Nat.ne_of_lt (Heap.lt_size e)) e
  exact h h' (F.keeps fresh) fun p hp => ⟨fresh _ _ (N p hp).1, (N p hp).2⟩
theorem assign_setK {D : Addr} {y : Str} {py pos : Pos} {k} {Q : Unit → Shared → Prop} (hh : A.handled = none) (F : Fr h₀ L s.heap m) (N : News h₀ L s.heap news) (hm : (D, setO1 (!w.params.followText "set-order")) ∈ news)
    (h : ∀ h', Fr h₀ L h' m → News h₀ L h' news → wpAny (model prog w) A (assign (.Name y py) env (.bool true)) Q E { s with heap := h' }) :
    wpAny (model prog w) A (assign (.Tuple [.Name y py] k pos) env (.ref D)) Q E s := by
  rw [arm_assign_Tuple]
  refine wpAny_bind (wpAny_standAt ?_)
  show wpAny _ _ (unpack (.ref D) [(false, assign (.Name y py) env)]) _ _ _
  unfold unpack
  refine wpAny_bind (wpAny_holding (unpack_setK hh F N hm fun h' F' N' => ?_))
  show wpAny _ _ (assignInOrder [assign (.Name y py) env] [.bool true]) _ _ _
  have := h h' F' N'
  simp only [assignInOrder, bind_pure_comp, bind_pure, id_map']
  first
  | exact this
  | exact wpAny_bind (wpAny_mono this (fun _ _ q => wpAny_pure q) fun _ _ q => q)
theorem startswith_wayK {os : List Nat} {Q : Value → Shared → Prop} (h0 : os ≠ []) (h : Q (.bool true) s) : wpAny (model prog w) A (call (.builtin "str.startswith") [.str (wS os) t, .str (Str.ofString "/") u]) Q E s :=
  SC.startswith (by rw [starts_wS h0]; exact h)
/-- what a test hands on: its answer, and what stood stands -/
noncomputable def TestB (h₀ : Heap) (L : Addr) (m : Str → Option Value) (s₁ : Shared) (need : List (Addr × Obj)) (b ok : Bool) (s₂ : Shared) : Prop :=
  ok = b ∧ ∃ h' tk, s₂ = { s₁ with heap := h', toks := tk } ∧ Fr h₀ L h' m ∧ News h₀ L h' need
theorem TestB.intro {s₁ : Shared} {need : List (Addr × Obj)} {h' : Heap} {tk : Nat} {b ok : Bool} (e : ok = b) (F : Fr h₀ L h' m) (N : News h₀ L h' need) : TestB h₀ L m s₁ need b ok { s₁ with heap := h', toks := tk } := ⟨e, h', tk, rfl, F, N⟩
open LCt
/-- the names of a split way, by a test that leaves out the first, empty one -/
theorem CompSrcT_names {ct : PySem.Expr} {x : Str} {pos : Pos} {scope : Scope} {cl : List (Str × Addr)} {Fin : Shared → List Value → List (Addr × Obj) → Prop} {ax : Addr} {t0 : Tok} {vs : List Value} {os : List Nat} {k : Nat} {s₁ : Shared}
    (hh : A.handled = none) (F : Fr h₀ L s₁.heap m) (N : News h₀ L s₁.heap news) (hm : (ax, ({ cls := .type "list", data := .seq (Value.str (tS []) t0 :: vs).toArray k } : Obj)) ∈ news) (hN : NmsAre vs os) (hlen : os.length ≤ 9)
    (hk : ∀ C, (compEnvC scope cl C env).scope.kind = .function) (hxl : ∀ C, (compEnvC scope cl C env).kindOf x = some .local) (hd : (x == ("__debug__" : Str)) = false)
    (z : ∀ g I oI C oC D oD m₂ h tk (E' : Value → Shared → Prop), NsObj oC m₂ → m₂ x = some (.str (tS []) t0) → Fr h₀ L h m → News h₀ L h ((I, oI) :: (C, oC) :: (D, oD) :: news) → Off3 I C D news → ((@Ne Nat I C) ∧ (@Ne Nat I D) ∧ (@Ne Nat C D)) →
      wpAny (model prog w) A (isTrue ct (compEnvC scope cl C env) (eval ct (compEnvC scope cl C env))) (TestB h₀ L m { ({ s₁ with heap := g } : Shared) with heap := h, toks := tk } ((I, oI) :: (C, oC) :: (D, oD) :: news) false) E' { ({ s₁ with heap := g } : Shared) with heap := h, toks := tk })
    (y : ∀ g o t I oI C oC D oD m₂ h tk (E' : Value → Shared → Prop), o ∈ os → NsObj oC m₂ → m₂ x = some (.str (tS (nm o)) t) → Fr h₀ L h m → News h₀ L h ((I, oI) :: (C, oC) :: (D, oD) :: news) → Off3 I C D news → ((@Ne Nat I C) ∧ (@Ne Nat I D) ∧ (@Ne Nat C D)) →
      wpAny (model prog w) A (isTrue ct (compEnvC scope cl C env) (eval ct (compEnvC scope cl C env))) (TestB h₀ L m { ({ s₁ with heap := g } : Shared) with heap := h, toks := tk } ((I, oI) :: (C, oC) :: (D, oD) :: news) true) E' { ({ s₁ with heap := g } : Shared) with heap := h, toks := tk })
    (fin : ∀ g ws, NmsAre ws os → Fin { s₁ with heap := g } ws news) :
    CompSrcT prog w A h₀ L m env ct (.Name x pos) x scope cl Fin (.ref ax) s₁ := by
  have hS : SrcAt h₀ ax (Value.str (tS []) t0 :: vs).toArray news := Or.inr ⟨_, hm, rfl, _, rfl⟩
  refine CompSrcT.ledger hh F N hm (by rw [sizeLine_eq, List.size_toArray, List.length_cons, hN.len]; omega) fun g => ?_
  refine compT_ind (Rel := fun i ys' nw => NmsAre ys' (os.take (i - 1)) ∧ nw = news) ⟨NmsAre.zero, rfl⟩ ?_ fun ws nw hR => ?_
  · rintro i ys nw hi ⟨hys, rfl⟩ v I oI C oC D m₂ h tk E' hv hC hx F' N' off ne
    rcases i with _ | i
    · obtain rfl := at_zero hv
      refine wpAny_mono (z g I oI C oC D _ m₂ h tk E' hC hx F' N' off ne) ?_ fun _ _ e => e
      rintro ok s' ⟨rfl, h', tk', rfl, F2, N2⟩
      rw [if_neg (by decide)]
      exact ⟨h', tk', _, rfl, F2, N2, off, hS, hys, rfl⟩
    · obtain ⟨o, t, ho, rfl⟩ := hN.at1 hv
      refine wpAny_mono (y g o t I oI C oC D _ m₂ h tk E' (List.mem_of_getElem? ho) hC hx F' N' off ne) ?_ fun _ _ e => e
      rintro ok s' ⟨rfl, h', tk', rfl, F2, N2⟩
      rw [if_pos rfl]
      refine LCgL.ld_own (C := C) (oC := oC) N2 (.tail _ (.head _)) hC hx ?_ (hk C) (hxl C) hd
      exact ⟨h', tk', _, rfl, F2, N2, off, hS, hys.step ho, rfl⟩
  · obtain ⟨hw, rfl⟩ := hR
    exact fin g ws (NmsAre.full hN hw)
theorem truthy_nm {o : Nat} {Q : Bool → Shared → Prop} (h : Q true { s with toks := s.toks + 1 + 1 }) : wpAny (model prog w) A (truthy (.str (tS (nm o)) t)) Q E s := by
  refine P.truthy_str (by rw [tS_len]; show ¬ ((3 : Nat) : Int) ≥ 2 ^ 63; decide) ?_
  exact h
theorem truthy_nil {Q : Bool → Shared → Prop} (h : Q false { s with toks := s.toks + 1 + 1 }) : wpAny (model prog w) A (truthy (.str (tS []) t)) Q E s := by
  refine P.truthy_str (by rw [tS_len]; show ¬ ((0 : Nat) : Int) ≥ 2 ^ 63; decide) ?_
  exact h
theorem ne_other {x y : Str} {Q : Value → Shared → Prop} (e : x ≠ y) (h : Q (.bool true) s) : wpAny (model prog w) A (compareOp .NotEq (.str x t) (.str y u)) Q E s :=
  P.ne_str (by
    have q : (x.cps.toList != y.cps.toList) = true := bne_iff_ne.mpr fun q => e (Str.ext' (Array.toList_inj.mp q))
    rw [q]; exact h)
theorem nm_dot (o : Nat) : tS (nm o) ≠ Str.ofString "." := by
  intro h
  have := congrArg Str.length h
  rw [tS_len] at this
  exact absurd this (by show ¬ 3 = (Str.ofString ".").length; decide +kernel)
end
end Mine
end

-- WMm
section
open PySem PySem.W PyProof.Rows PySem.Calls PySem.Spec
set_option linter.unusedVariables false
set_option maxRecDepth 100000
set_option maxHeartbeats 1000000
namespace Mine
open MeetsSeq
noncomputable def RGives (op : CmpOp) (x y : Value) (b : Bool) : Prop := ∀ (prog : Program) (w : World) (A : Around) (E : Value → Shared → Prop) (s : Shared) (Q : Value → Shared → Prop), Q (.bool b) s → wpAny (model prog w) A (richCompare op x y) Q E s
/-- the first place where two rows differ decides -/
noncomputable def lexB (e r : Nat → Bool) : Nat → Nat → Bool
  | 0, _ => false
  | k + 1, i => if e i = true then lexB e r k (i + 1) else r i
theorem lt_loop (l b : Addr) (items items2 : Array Value) (n n2 : Nat) (hsz : items.size = items2.size) (e r : Nat → Bool)
    (he : ∀ j (h1 : j < items.size) (h2 : j < items2.size), EqGives items[j] items2[j] (e j)) (hr : ∀ j (h1 : j < items.size) (h2 : j < items2.size), RGives .Lt items[j] items2[j] (r j)) (k : Nat) :
    ∀ i : Nat, items.size - i = k → Meets (Builtin.«list.__eq__.loop» ⟨[.ref l, .ref b, rawInt i, rawInt 0], []⟩)
      (fun _ R s => s.heap.get? l = some { cls := .type "list", dict := none, data := .seq items n, slots := #[] } ∧ s.heap.get? b = some { cls := .type "list", dict := none, data := .seq items2 n2, slots := #[] } ∧
        R (.ok (.ret (.bool (lexB e r k i)))) s) := by
  induction k with
  | zero =>
    intro i hk prog w A R s h
    obtain ⟨hp, g, d, tk, os⟩ := s; obtain ⟨hl, hb, h⟩ := h
    wp_walk using AutoSeq1.wpAny_loadPart' hl, AutoSeq1.wpAny_loadPart' hb
    have hi1 : items[((i : Nat) : Int).toNat]? = none := by simp; omega
    have hi2 : items2[((i : Nat) : Int).toNat]? = none := by simp; omega
    rw [hi1, hi2]
    wp_walk using AutoSeq1.wpAny_loadPart' hl, AutoSeq1.wpAny_loadPart' hb
    show R (.ok (.ret (.bool (decide (items.size < items2.size))))) _
    rw [hsz]
    simpa [lexB] using h
  | succ k ih =>
    intro i hk prog w A R s h
    obtain ⟨hp, g, d, tk, os⟩ := s; obtain ⟨hl, hb, h⟩ := h
    wp_walk using AutoSeq1.wpAny_loadPart' hl, AutoSeq1.wpAny_loadPart' hb
    have hlt : i < items.size := by omega
    have hlt2 : i < items2.size := by omega
    have hi1 : items[((i : Nat) : Int).toNat]? = some items[i] := by simp [hlt]
    have hi2 : items2[((i : Nat) : Int).toNat]? = some items2[i] := by simp [hlt2]
    have hc : ((i : Int) + 1) = ((i + 1 : Nat) : Int) := by push_cast; rfl
    rw [hi1, hi2]
    refine wpAny_bind (he i hlt hlt2 prog w _ _ _ _ ?_)
    cases hb' : e i with
    | true =>
      rw [show lexB e r (k + 1) i = lexB e r k (i + 1) by simp [lexB, hb']] at h
      wp_walk
      rw [hc]
      exact ⟨plainId_quiet MeetsSeq3.plain_eq_loop _, codeAny_builtin MeetsSeq3.entry_eq_loop (by
        rw [Around.under_plainId MeetsSeq3.plain_eq_loop _]
        exact ih (i + 1) (by omega) prog w A R _ ⟨hl, hb, h⟩)⟩
    | false =>
      rw [show lexB e r (k + 1) i = r i by simp [lexB, hb']] at h
      wp_walk using AutoSeq1.wpAny_loadPart' hl, AutoSeq1.wpAny_loadPart' hb
      rw [hi1, hi2]
      refine wpAny_bind (hr i hlt hlt2 prog w _ _ _ _ ?_)
      wp_walk
      exact h
theorem gt_loop (l b : Addr) (items items2 : Array Value) (n n2 : Nat) (hsz : items.size = items2.size) (e r : Nat → Bool)
    (he : ∀ j (h1 : j < items.size) (h2 : j < items2.size), EqGives items[j] items2[j] (e j)) (hr : ∀ j (h1 : j < items.size) (h2 : j < items2.size), RGives .Gt items[j] items2[j] (r j)) (k : Nat) :
    ∀ i : Nat, items.size - i = k → Meets (Builtin.«list.__eq__.loop» ⟨[.ref l, .ref b, rawInt i, rawInt 4], []⟩)
      (fun _ R s => s.heap.get? l = some { cls := .type "list", dict := none, data := .seq items n, slots := #[] } ∧ s.heap.get? b = some { cls := .type "list", dict := none, data := .seq items2 n2, slots := #[] } ∧
        R (.ok (.ret (.bool (lexB e r k i)))) s) := by
  induction k with
  | zero =>
    intro i hk prog w A R s h
    obtain ⟨hp, g, d, tk, os⟩ := s; obtain ⟨hl, hb, h⟩ := h
    wp_walk using AutoSeq1.wpAny_loadPart' hl, AutoSeq1.wpAny_loadPart' hb
    have hi1 : items[((i : Nat) : Int).toNat]? = none := by simp; omega
    have hi2 : items2[((i : Nat) : Int).toNat]? = none := by simp; omega
    rw [hi1, hi2]
    wp_walk using AutoSeq1.wpAny_loadPart' hl, AutoSeq1.wpAny_loadPart' hb
    show R (.ok (.ret (.bool (decide (items.size > items2.size))))) _
    rw [hsz]
    simpa [lexB] using h
  | succ k ih =>
    intro i hk prog w A R s h
    obtain ⟨hp, g, d, tk, os⟩ := s; obtain ⟨hl, hb, h⟩ := h
    wp_walk using AutoSeq1.wpAny_loadPart' hl, AutoSeq1.wpAny_loadPart' hb
    have hlt : i < items.size := by omega
    have hlt2 : i < items2.size := by omega
    have hi1 : items[((i : Nat) : Int).toNat]? = some items[i] := by simp [hlt]
    have hi2 : items2[((i : Nat) : Int).toNat]? = some items2[i] := by simp [hlt2]
    have hc : ((i : Int) + 1) = ((i + 1 : Nat) : Int) := by push_cast; rfl
    rw [hi1, hi2]
    refine wpAny_bind (he i hlt hlt2 prog w _ _ _ _ ?_)
    cases hb' : e i with
    | true =>
      rw [show lexB e r (k + 1) i = lexB e r k (i + 1) by simp [lexB, hb']] at h
      wp_walk
      rw [hc]
      exact ⟨plainId_quiet MeetsSeq3.plain_eq_loop _, codeAny_builtin MeetsSeq3.entry_eq_loop (by
        rw [Around.under_plainId MeetsSeq3.plain_eq_loop _]
        exact ih (i + 1) (by omega) prog w A R _ ⟨hl, hb, h⟩)⟩
    | false =>
      rw [show lexB e r (k + 1) i = r i by simp [lexB, hb']] at h
      wp_walk using AutoSeq1.wpAny_loadPart' hl, AutoSeq1.wpAny_loadPart' hb
      rw [hi1, hi2]
      refine wpAny_bind (hr i hlt hlt2 prog w _ _ _ _ ?_)
      wp_walk
      exact h
theorem list_lt (l b : Addr) (items items2 : Array Value) (n n2 : Nat) (hsz : items.size = items2.size) (e r : Nat → Bool)
    (he : ∀ j (h1 : j < items.size) (h2 : j < items2.size), EqGives items[j] items2[j] (e j)) (hr : ∀ j (h1 : j < items.size) (h2 : j < items2.size), RGives .Lt items[j] items2[j] (r j)) :
    Meets (Builtin.«list.__lt__» ⟨[.ref l, .ref b], []⟩)
      (fun _ R s => s.heap.get? l = some { cls := .type "list", dict := none, data := .seq items n, slots := #[] } ∧ s.heap.get? b = some { cls := .type "list", dict := none, data := .seq items2 n2, slots := #[] } ∧
        R (.ok (.ret (.bool (lexB e r items.size 0)))) s) := by
  intro prog w A R s h
  obtain ⟨hp, g, d, tk, os⟩ := s; obtain ⟨hl, hb, h⟩ := h
  have f3 := AutoSeq1.sub_list_list
  wp_walk using AutoSeq1.wpAny_loadPart' hl, AutoSeq1.wpAny_loadPart' hb
  exact ⟨plainId_quiet MeetsSeq3.plain_eq_loop _, codeAny_builtin MeetsSeq3.entry_eq_loop (by
    rw [Around.under_plainId MeetsSeq3.plain_eq_loop _]
    exact lt_loop l b items items2 n n2 hsz e r he hr _ 0 rfl prog w A R _ ⟨hl, hb, by simpa using h⟩)⟩
theorem list_gt (l b : Addr) (items items2 : Array Value) (n n2 : Nat) (hsz : items.size = items2.size) (e r : Nat → Bool)
    (he : ∀ j (h1 : j < items.size) (h2 : j < items2.size), EqGives items[j] items2[j] (e j)) (hr : ∀ j (h1 : j < items.size) (h2 : j < items2.size), RGives .Gt items[j] items2[j] (r j)) :
    Meets (Builtin.«list.__gt__» ⟨[.ref l, .ref b], []⟩)
      (fun _ R s => s.heap.get? l = some { cls := .type "list", dict := none, data := .seq items n, slots := #[] } ∧ s.heap.get? b = some { cls := .type "list", dict := none, data := .seq items2 n2, slots := #[] } ∧
        R (.ok (.ret (.bool (lexB e r items.size 0)))) s) := by
  intro prog w A R s h
  obtain ⟨hp, g, d, tk, os⟩ := s; obtain ⟨hl, hb, h⟩ := h
  have f3 := AutoSeq1.sub_list_list
  wp_walk using AutoSeq1.wpAny_loadPart' hl, AutoSeq1.wpAny_loadPart' hb
  exact ⟨plainId_quiet MeetsSeq3.plain_eq_loop _, codeAny_builtin MeetsSeq3.entry_eq_loop (by
    rw [Around.under_plainId MeetsSeq3.plain_eq_loop _]
    exact gt_loop l b items items2 n n2 hsz e r he hr _ 0 rfl prog w A R _ ⟨hl, hb, by simpa using h⟩)⟩
section
variable {prog : Program} {w : World} {A : Around} {I : Addr} {fp wr : List Addr} {P : Nat → Value → Prop} {St : Nat → Heap → Prop} {R : Result → Shared → Prop}
theorem min_code {h0 : Heap} {va vb : Value} {bt : Bool} (W : Walks prog w A.in1 I fp wr 2 P St) (S : Addr) (hSf : S ∉ fp) (hP0 : ∀ v, P 0 v → v = va) (hP1 : ∀ v, P 1 v → v = vb) (hK : ∀ x o, h0.get? x = some o → x ∉ wr ∧ x ≠ S)
    {s : Shared} {c : Nat} (hst : St 0 s.heap) (hS : s.heap.get? S = some { cls := .type "list", dict := none, data := .seq #[] c, slots := #[] }) (h0s : ∀ x o, h0.get? x = some o → s.heap.get? x = some o)
    (R1 : ∀ (s' : Shared) (Q : Value → Shared → Prop) (E : Value → Shared → Prop), (∀ x o, h0.get? x = some o → s'.heap.get? x = some o) → Q (.bool bt) s' → wpAny (model prog w) A.in1 (richCompare .Lt vb va) Q E s')
    (hR : ∀ h' tk, (∀ x o, h0.get? x = some o → h'.get? x = some o) → R (.ok (.ret (if bt = true then vb else va))) { s with heap := h', toks := tk }) :
    codeAny (model prog w) A (.builtin "min.loop" ⟨[.ref I, .none, .ref S], []⟩) R s := by
  have hSw : S ∉ wr := fun h => hSf (W.sub _ h)
  have hname : (toString "min" ++ toString ".loop" : String) = "min.loop" := by decide
  refine codeAny_builtin PySem.F.entry_min_loop ?_
  rw [Around.under_plainId PySem.F.plain_min_loop _]
  show wpAny _ A.in1 (seqItems? (.ref S) >>= _) _ _ s
  refine wpAny_bind (wpAny_seqItems hS rfl ?_)
  show wpAny _ A.in1 (tryCatch (pyNext (.ref I)) _ >>= _) _ _ s
  refine wpAny_bind (wpAny_tryCatch (W.item 0 s _ _ (by decide) hst fun v h₁ tk₁ hP hst₁ hk₁ => ?_))
  obtain rfl := hP0 v hP
  have hS₁ := hk₁ S _ hSw hS
  show wpAny _ A.in1 (updateSeq S (fun _ => #[v, v]) >>= _) _ _ _
  refine wpAny_bind ?_
  refine wpAny_updateSeq hS₁ rfl ?_
  rw [hname]
  have k₁ : ∀ x o, h0.get? x = some o → h₁.get? x = some o := fun x o e => hk₁ x o (hK x o e).1 (h0s x o e)
  obtain ⟨c₁, hc₁⟩ : ∃ c1, (h₁.update S (Obj.mapSeq fun _ => #[v, v])).get? S = some { cls := .type "list", dict := none, data := .seq #[v, v] c1, slots := #[] } := ⟨_, Heap.get?_update_self _ hS₁ rfl⟩
  have hst₁' : St 1 (h₁.update S (Obj.mapSeq fun _ => #[v, v])) := W.frame _ _ _ hst₁ fun b hbf o e => (Heap.get?_update_other _ _ (fun h : S = b => hSf (by rw [h]; exact hbf))).trans e
  have k₁' : ∀ x o, h0.get? x = some o → (h₁.update S (Obj.mapSeq fun _ => #[v, v])).get? x = some o := fun x o e => (Heap.get?_update_other _ _ (Ne.symm (hK x o e).2)).trans (k₁ x o e)
  refine wpAny_pure ⟨plainId_quiet PySem.F.plain_min_loop _, ?_⟩
  generalize h₁.update S (Obj.mapSeq fun _ => #[v, v]) = g₁ at hc₁ hst₁' k₁' ⊢
  refine codeAny_builtin PySem.F.entry_min_loop ?_
  rw [Around.under_plainId PySem.F.plain_min_loop _]
  show wpAny _ A.in1 (seqItems? (.ref S) >>= _) _ _ _
  refine wpAny_bind (wpAny_seqItems hc₁ rfl ?_)
  show wpAny _ A.in1 (tryCatch (pyNext (.ref I)) _ >>= _) _ _ _
  refine wpAny_bind (wpAny_tryCatch (W.item 1 _ _ _ (by decide) hst₁' fun u h₂ tk₂ hP2 hst₂ hk₂ => ?_))
  obtain rfl := hP1 u hP2
  have hS₂ := hk₂ S _ hSw hc₁
  have k₂ : ∀ x o, h0.get? x = some o → h₂.get? x = some o := fun x o e => hk₂ x o (hK x o e).1 (k₁' x o e)
  have last : ∀ (vr : Value) (h₃ : Heap) (tk₃ c₃ : Nat), vr = (if bt = true then u else v) → h₃.get? S = some { cls := .type "list", dict := none, data := .seq #[vr, vr] c₃, slots := #[] } → St 2 h₃ → (∀ x o, h0.get? x = some o → h₃.get? x = some o) →
      codeAny (model prog w) A (.builtin "min.loop" ⟨[.ref I, .none, .ref S], []⟩) R { s with heap := h₃, toks := tk₃ } := by
    intro vr h₃ tk₃ c₃ hvr hS₃ hst₃ k₃
    refine codeAny_builtin PySem.F.entry_min_loop ?_
    rw [Around.under_plainId PySem.F.plain_min_loop _]
    show wpAny _ A.in1 (seqItems? (.ref S) >>= _) _ _ _
    refine wpAny_bind (wpAny_seqItems hS₃ rfl ?_)
    show wpAny _ A.in1 (tryCatch (pyNext (.ref I)) _ >>= _) _ _ _
    refine wpAny_bind (wpAny_tryCatch (W.done _ _ _ hst₃ fun h₄ tk₄ hk₄ => ?_))
    have hS₄ := hk₄ S _ hSw hS₃
    show wpAny _ A.in1 (updateSeq S (fun _ => #[]) >>= _) _ _ _
    refine wpAny_bind ?_
    refine wpAny_updateSeq hS₄ rfl (wpAny_bind (wpAny_letGo (wpAny_pure ?_)))
    rw [hvr]
    exact hR _ tk₄ fun x o e => (Heap.get?_update_other _ _ (Ne.symm (hK x o e).2)).trans (hk₄ x o (hK x o e).1 (k₃ x o e))
  show wpAny _ A.in1 (tryCatch (holding [u, u] (richCompare .Lt u v >>= _)) _ >>= _) _ _ _
  refine wpAny_bind (wpAny_tryCatch (wpAny_holding (wpAny_bind (R1 _ _ _ k₂ ?_))))
  refine wpAny_bind (wpAny_holding (wpAny_truthy_bool ?_))
  refine wpAny_bind (wpAny_letGo (wpAny_pure ?_))
  cases hb : bt with
  | true =>
    simp only [if_true]
    refine wpAny_bind ?_
    refine wpAny_updateSeq hS₂ rfl (wpAny_bind (wpAny_letGo ?_))
    rw [hname]
    refine wpAny_pure ⟨plainId_quiet PySem.F.plain_min_loop _, last u _ _ _ (by rw [hb]; rfl) (Heap.get?_update_self _ hS₂ rfl) (W.frame _ _ _ hst₂ fun b hbf o e => (Heap.get?_update_other _ _ (fun h : S = b => hSf (by rw [h]; exact hbf))).trans e) fun x o e => (Heap.get?_update_other _ _ (Ne.symm (hK x o e).2)).trans (k₂ x o e)⟩
  | false =>
    simp only [Bool.false_eq_true, if_false]
    refine wpAny_bind (wpAny_letGo ?_)
    rw [hname]
    exact wpAny_pure ⟨plainId_quiet PySem.F.plain_min_loop _, last v _ _ _ (by rw [hb]; rfl) hS₂ hst₂ k₂⟩
end
section
variable {prog : Program} {w : World} {A : Around} {E : Value → Shared → Prop} {s : Shared}
theorem call_min2 {l : Addr} {va vb : Value} {bt : Bool} {Q : Value → Shared → Prop} (hh : A.handled = none) (hl : s.heap.IsList l #[va, vb])
    (R1 : ∀ (s' : Shared) (Q : Value → Shared → Prop) (E : Value → Shared → Prop), (∀ x o, s.heap.get? x = some o → s'.heap.get? x = some o) → Q (.bool bt) s' → wpAny (model prog w) A.in1 (richCompare .Lt vb va) Q E s')
    (h : ∀ h' tk, (∀ x o, s.heap.get? x = some o → h'.get? x = some o) → Q (if bt = true then vb else va) { s with heap := h', toks := tk }) :
    wpAny (model prog w) A (call (.builtin "min") [.ref l]) Q E s := by
  have hname : (toString "min" ++ toString ".loop" : String) = "min.loop" := by decide
  refine call_function_tree PySem.F.kind_min PySem.F.plain_min PySem.F.entry_min (PySem.F.args_min1 _) ?_
  show wpAny _ A.in1 (Builtin.Builtins.bindParams "min" ["key", "default"] 0 ⟨[], []⟩ >>= _) _ _ s
  refine wpAny_bind (wpAny_of_eq (show Builtin.Builtins.bindParams "min" ["key", "default"] 0 ⟨[], []⟩ = pure [none, none] from rfl) ?_)
  refine wpAny_bind (wpAny_pure ?_)
  refine wpAny_bind (wpAny_pyIter_list hl ?_)
  obtain ⟨ol, hol, _⟩ := id hl
  have hlt : l < s.heap.objs.size := Heap.lt_size hol
  have hne : l ≠ s.heap.objs.size := Nat.ne_of_lt hlt
  have W := Walks.list (prog := prog) (w := w) (A := A.in1) hh s.heap.objs.size l hne #[va, vb]
  refine wpAny_bind (wpAny_newObj_type ?_)
  rw [hname]
  refine wpAny_pure ⟨plainId_quiet PySem.F.plain_min_loop _, min_code (h0 := s.heap) W _ ?_ (fun v hv => ?_) (fun v hv => ?_) (fun x o e => ⟨?_, ?_⟩) ?_ (Heap.get?_push_size _ rfl) (fun x o e => Heap.get?_push_of_some _ (Heap.get?_push_of_some _ e)) R1 (fun h' tk k => ?_)⟩
  · intro hm
    rw [Heap.size_push] at hm
    rcases List.mem_cons.mp hm with e | hm
    · have e : s.heap.objs.size + 1 = s.heap.objs.size := e
      omega
    · have e : s.heap.objs.size + 1 = l := List.mem_singleton.mp hm
      have h9 : s.heap.objs.size + 1 < s.heap.objs.size := by have h8 := hlt; rw [← e] at h8; exact h8
      exact absurd h9 (Nat.not_lt.mpr (Nat.le_succ _))
  · exact Option.some.inj (show some v = some va from hv.symm)
  · exact Option.some.inj (show some v = some vb from hv.symm)
  · intro hm
    have := Heap.lt_size e
    rw [List.mem_singleton.mp hm] at this
    exact absurd this (Nat.lt_irrefl _)
  · intro q
    have := Heap.lt_size e
    rw [q, Heap.size_push] at this
    exact absurd this (Nat.not_lt.mpr (Nat.le_succ _))
  · exact ⟨⟨_, Heap.get?_push_of_some _ (Heap.get?_push_size _ rfl), rfl, rfl⟩, (hl.push _).push _⟩
  · exact h h' tk k
end
section
variable {prog : Program} {w : World} {A : Around} {I : Addr} {fp wr : List Addr} {P : Nat → Value → Prop} {St : Nat → Heap → Prop} {R : Result → Shared → Prop}
theorem max_code {h0 : Heap} {va vb : Value} {bt : Bool} (W : Walks prog w A.in1 I fp wr 2 P St) (S : Addr) (hSf : S ∉ fp) (hP0 : ∀ v, P 0 v → v = va) (hP1 : ∀ v, P 1 v → v = vb) (hK : ∀ x o, h0.get? x = some o → x ∉ wr ∧ x ≠ S)
    {s : Shared} {c : Nat} (hst : St 0 s.heap) (hS : s.heap.get? S = some { cls := .type "list", dict := none, data := .seq #[] c, slots := #[] }) (h0s : ∀ x o, h0.get? x = some o → s.heap.get? x = some o)
    (R1 : ∀ (s' : Shared) (Q : Value → Shared → Prop) (E : Value → Shared → Prop), (∀ x o, h0.get? x = some o → s'.heap.get? x = some o) → Q (.bool bt) s' → wpAny (model prog w) A.in1 (richCompare .Gt vb va) Q E s')
    (hR : ∀ h' tk, (∀ x o, h0.get? x = some o → h'.get? x = some o) → R (.ok (.ret (if bt = true then vb else va))) { s with heap := h', toks := tk }) :
    codeAny (model prog w) A (.builtin "max.loop" ⟨[.ref I, .none, .ref S], []⟩) R s := by
  have hSw : S ∉ wr := fun h => hSf (W.sub _ h)
  have hname : (toString "max" ++ toString ".loop" : String) = "max.loop" := by decide
  refine codeAny_builtin PySem.F.entry_max_loop ?_
  rw [Around.under_plainId PySem.F.plain_max_loop _]
  show wpAny _ A.in1 (seqItems? (.ref S) >>= _) _ _ s
  refine wpAny_bind (wpAny_seqItems hS rfl ?_)
  show wpAny _ A.in1 (tryCatch (pyNext (.ref I)) _ >>= _) _ _ s
  refine wpAny_bind (wpAny_tryCatch (W.item 0 s _ _ (by decide) hst fun v h₁ tk₁ hP hst₁ hk₁ => ?_))
  obtain rfl := hP0 v hP
  have hS₁ := hk₁ S _ hSw hS
  show wpAny _ A.in1 (updateSeq S (fun _ => #[v, v]) >>= _) _ _ _
  refine wpAny_bind ?_
  refine wpAny_updateSeq hS₁ rfl ?_
  rw [hname]
  have k₁ : ∀ x o, h0.get? x = some o → h₁.get? x = some o := fun x o e => hk₁ x o (hK x o e).1 (h0s x o e)
  obtain ⟨c₁, hc₁⟩ : ∃ c1, (h₁.update S (Obj.mapSeq fun _ => #[v, v])).get? S = some { cls := .type "list", dict := none, data := .seq #[v, v] c1, slots := #[] } := ⟨_, Heap.get?_update_self _ hS₁ rfl⟩
  have hst₁' : St 1 (h₁.update S (Obj.mapSeq fun _ => #[v, v])) := W.frame _ _ _ hst₁ fun b hbf o e => (Heap.get?_update_other _ _ (fun h : S = b => hSf (by rw [h]; exact hbf))).trans e
  have k₁' : ∀ x o, h0.get? x = some o → (h₁.update S (Obj.mapSeq fun _ => #[v, v])).get? x = some o := fun x o e => (Heap.get?_update_other _ _ (Ne.symm (hK x o e).2)).trans (k₁ x o e)
  refine wpAny_pure ⟨plainId_quiet PySem.F.plain_max_loop _, ?_⟩
  generalize h₁.update S (Obj.mapSeq fun _ => #[v, v]) = g₁ at hc₁ hst₁' k₁' ⊢
  refine codeAny_builtin PySem.F.entry_max_loop ?_
  rw [Around.under_plainId PySem.F.plain_max_loop _]
  show wpAny _ A.in1 (seqItems? (.ref S) >>= _) _ _ _
  refine wpAny_bind (wpAny_seqItems hc₁ rfl ?_)
  show wpAny _ A.in1 (tryCatch (pyNext (.ref I)) _ >>= _) _ _ _
  refine wpAny_bind (wpAny_tryCatch (W.item 1 _ _ _ (by decide) hst₁' fun u h₂ tk₂ hP2 hst₂ hk₂ => ?_))
  obtain rfl := hP1 u hP2
  have hS₂ := hk₂ S _ hSw hc₁
  have k₂ : ∀ x o, h0.get? x = some o → h₂.get? x = some o := fun x o e => hk₂ x o (hK x o e).1 (k₁' x o e)
  have last : ∀ (vr : Value) (h₃ : Heap) (tk₃ c₃ : Nat), vr = (if bt = true then u else v) → h₃.get? S = some { cls := .type "list", dict := none, data := .seq #[vr, vr] c₃, slots := #[] } → St 2 h₃ → (∀ x o, h0.get? x = some o → h₃.get? x = some o) →
      codeAny (model prog w) A (.builtin "max.loop" ⟨[.ref I, .none, .ref S], []⟩) R { s with heap := h₃, toks := tk₃ } := by
    intro vr h₃ tk₃ c₃ hvr hS₃ hst₃ k₃
    refine codeAny_builtin PySem.F.entry_max_loop ?_
    rw [Around.under_plainId PySem.F.plain_max_loop _]
    show wpAny _ A.in1 (seqItems? (.ref S) >>= _) _ _ _
    refine wpAny_bind (wpAny_seqItems hS₃ rfl ?_)
    show wpAny _ A.in1 (tryCatch (pyNext (.ref I)) _ >>= _) _ _ _
    refine wpAny_bind (wpAny_tryCatch (W.done _ _ _ hst₃ fun h₄ tk₄ hk₄ => ?_))
    have hS₄ := hk₄ S _ hSw hS₃
    show wpAny _ A.in1 (updateSeq S (fun _ => #[]) >>= _) _ _ _
    refine wpAny_bind ?_
    refine wpAny_updateSeq hS₄ rfl (wpAny_bind (wpAny_letGo (wpAny_pure ?_)))
    rw [hvr]
    exact hR _ tk₄ fun x o e => (Heap.get?_update_other _ _ (Ne.symm (hK x o e).2)).trans (hk₄ x o (hK x o e).1 (k₃ x o e))
  show wpAny _ A.in1 (tryCatch (holding [u, u] (richCompare .Gt u v >>= _)) _ >>= _) _ _ _
  refine wpAny_bind (wpAny_tryCatch (wpAny_holding (wpAny_bind (R1 _ _ _ k₂ ?_))))
  refine wpAny_bind (wpAny_holding (wpAny_truthy_bool ?_))
  refine wpAny_bind (wpAny_letGo (wpAny_pure ?_))
  cases hb : bt with
  | true =>
    simp only [if_true]
    refine wpAny_bind ?_
    refine wpAny_updateSeq hS₂ rfl (wpAny_bind (wpAny_letGo ?_))
    rw [hname]
    refine wpAny_pure ⟨plainId_quiet PySem.F.plain_max_loop _, last u _ _ _ (by rw [hb]; rfl) (Heap.get?_update_self _ hS₂ rfl) (W.frame _ _ _ hst₂ fun b hbf o e => (Heap.get?_update_other _ _ (fun h : S = b => hSf (by rw [h]; exact hbf))).trans e) fun x o e => (Heap.get?_update_other _ _ (Ne.symm (hK x o e).2)).trans (k₂ x o e)⟩
  | false =>
    simp only [Bool.false_eq_true, if_false]
    refine wpAny_bind (wpAny_letGo ?_)
    rw [hname]
    exact wpAny_pure ⟨plainId_quiet PySem.F.plain_max_loop _, last v _ _ _ (by rw [hb]; rfl) hS₂ hst₂ k₂⟩
end
section
variable {prog : Program} {w : World} {A : Around} {E : Value → Shared → Prop} {s : Shared}
theorem call_max2 {l : Addr} {va vb : Value} {bt : Bool} {Q : Value → Shared → Prop} (hh : A.handled = none) (hl : s.heap.IsList l #[va, vb])
    (R1 : ∀ (s' : Shared) (Q : Value → Shared → Prop) (E : Value → Shared → Prop), (∀ x o, s.heap.get? x = some o → s'.heap.get? x = some o) → Q (.bool bt) s' → wpAny (model prog w) A.in1 (richCompare .Gt vb va) Q E s')
    (h : ∀ h' tk, (∀ x o, s.heap.get? x = some o → h'.get? x = some o) → Q (if bt = true then vb else va) { s with heap := h', toks := tk }) :
    wpAny (model prog w) A (call (.builtin "max") [.ref l]) Q E s := by
  have hname : (toString "max" ++ toString ".loop" : String) = "max.loop" := by decide
  refine call_function_tree PySem.F.kind_max PySem.F.plain_max PySem.F.entry_max (PySem.F.args_max1 _) ?_
  show wpAny _ A.in1 (Builtin.Builtins.bindParams "max" ["key", "default"] 0 ⟨[], []⟩ >>= _) _ _ s
  refine wpAny_bind (wpAny_of_eq (show Builtin.Builtins.bindParams "max" ["key", "default"] 0 ⟨[], []⟩ = pure [none, none] from rfl) ?_)
  refine wpAny_bind (wpAny_pure ?_)
  refine wpAny_bind (wpAny_pyIter_list hl ?_)
  obtain ⟨ol, hol, _⟩ := id hl
  have hlt : l < s.heap.objs.size := Heap.lt_size hol
  have hne : l ≠ s.heap.objs.size := Nat.ne_of_lt hlt
  have W := Walks.list (prog := prog) (w := w) (A := A.in1) hh s.heap.objs.size l hne #[va, vb]
  refine wpAny_bind (wpAny_newObj_type ?_)
  rw [hname]
  refine wpAny_pure ⟨plainId_quiet PySem.F.plain_max_loop _, max_code (h0 := s.heap) W _ ?_ (fun v hv => ?_) (fun v hv => ?_) (fun x o e => ⟨?_, ?_⟩) ?_ (Heap.get?_push_size _ rfl) (fun x o e => Heap.get?_push_of_some _ (Heap.get?_push_of_some _ e)) R1 (fun h' tk k => ?_)⟩
  · intro hm
    rw [Heap.size_push] at hm
    rcases List.mem_cons.mp hm with e | hm
    · have e : s.heap.objs.size + 1 = s.heap.objs.size := e
      omega
    · have e : s.heap.objs.size + 1 = l := List.mem_singleton.mp hm
      have h9 : s.heap.objs.size + 1 < s.heap.objs.size := by have h8 := hlt; rw [← e] at h8; exact h8
      exact absurd h9 (Nat.not_lt.mpr (Nat.le_succ _))
  · exact Option.some.inj (show some v = some va from hv.symm)
  · exact Option.some.inj (show some v = some vb from hv.symm)
  · intro hm
    have := Heap.lt_size e
    rw [List.mem_singleton.mp hm] at this
    exact absurd this (Nat.lt_irrefl _)
  · intro q
    have := Heap.lt_size e
    rw [q, Heap.size_push] at this
    exact absurd this (Nat.not_lt.mpr (Nat.le_succ _))
  · exact ⟨⟨_, Heap.get?_push_of_some _ (Heap.get?_push_size _ rfl), rfl, rfl⟩, (hl.push _).push _⟩
  · exact h h' tk k
end
end Mine
end

-- WRc
section
open PySem PySem.W PyProof.Rows PySem.Calls PySem.Spec
set_option linter.unusedVariables false
set_option maxRecDepth 100000
set_option maxHeartbeats 1000000
namespace Mine
open MeetsSeq
/-- do two rows' names agree at a place -/
noncomputable def eN (xs ys : List Nat) (j : Nat) : Bool := tS (nm (xs.getD j 0)) == tS (nm (ys.getD j 0))
noncomputable def ltN (xs ys : List Nat) (j : Nat) : Bool := decide ((tS (nm (xs.getD j 0))).cps.toList < (tS (nm (ys.getD j 0))).cps.toList)
noncomputable def gtN (xs ys : List Nat) (j : Nat) : Bool := decide ((tS (nm (ys.getD j 0))).cps.toList < (tS (nm (xs.getD j 0))).cps.toList)
theorem NmsAre.get {vs : List Value} {os : List Nat} (h : NmsAre vs os) (j : Nat) (hj : j < vs.toArray.size) : ∃ t, vs.toArray[j] = .str (tS (nm (os.getD j 0))) t := by
  have hj' : j < vs.length := by simpa using hj
  obtain ⟨o, t, e1, e2⟩ := h.at (List.getElem?_eq_getElem hj')
  refine ⟨t, ?_⟩
  rw [List.getElem_toArray, e2, List.getD_eq_getElem?_getD, e1]; rfl
theorem lexB_ne {e r1 r2 : Nat → Bool} : ∀ (k i : Nat), (∃ j, i ≤ j ∧ j < i + k ∧ e j = false) → (∀ j, i ≤ j → j < i + k → e j = false → r1 j ≠ r2 j) → lexB e r1 k i ≠ lexB e r2 k i
  | 0, i, ⟨j, h1, h2, _⟩, _ => absurd h2 (by omega)
  | k + 1, i, ⟨j, h1, h2, h3⟩, hr => by
    unfold lexB
    by_cases he : e i = true
    · rw [if_pos he, if_pos he]
      refine lexB_ne k (i + 1) ⟨j, ?_, by omega, h3⟩ fun j' a b c => hr j' (by omega) (by omega) c
      rcases Nat.lt_or_ge i j with h | h
      · exact h
      · obtain rfl : i = j := by omega
        rw [he] at h3; cases h3
    · rw [if_neg he, if_neg he]
      exact hr i (Nat.le_refl _) (by omega) (by simpa using he)
theorem lexB_all {e r : Nat → Bool} : ∀ (k i : Nat), (∀ j, i ≤ j → j < i + k → e j = true) → lexB e r k i = false
  | 0, i, _ => rfl
  | k + 1, i, h => by
    unfold lexB
    rw [if_pos (h i (Nat.le_refl _) (by omega))]
    exact lexB_all k (i + 1) fun j a b => h j (by omega) (by omega)
section
variable {prog : Program} {w : World} {A : Around} {E : Value → Shared → Prop} {s : Shared} {Q : Value → Shared → Prop} {a b : Addr} {va vb : List Value} {xs ys : List Nat}
theorem rg_lt (x y : Str) (t u : Tok) : RGives .Lt (.str x t) (.str y u) (decide (x.cps.toList < y.cps.toList)) := fun prog w A E s Q h => by
  show wpAny _ _ (compareOp .Lt (.str x t) (.str y u)) Q E s
  exact P.lt_str h
theorem rg_gt (x y : Str) (t u : Tok) : RGives .Gt (.str x t) (.str y u) (decide (y.cps.toList < x.cps.toList)) := fun prog w A E s Q h => by
  show wpAny _ _ (compareOp .Gt (.str x t) (.str y u)) Q E s
  exact P.gt_str h
theorem rc_lt (ha : s.heap.get? a = some (LCg.lst va)) (hb : s.heap.get? b = some (LCg.lst vb)) (na : NmsAre va xs) (nb : NmsAre vb ys) (hn : xs.length = ys.length) (hu : A.units < cLine)
    (h : Q (.bool (lexB (eN xs ys) (ltN xs ys) xs.length 0)) s) : wpAny (model prog w) A (richCompare .Lt (.ref a) (.ref b)) Q E s := by
  have l1 := na.len
  have l2 := nb.len
  refine richCompare_meets_room (op := .Lt) ⟨_, ha, rfl⟩ ⟨_, hb, rfl⟩ F.slot_list_lt F.entry_list_lt (F.args_list_lt_2 _ _)
    (list_lt a b va.toArray vb.toArray va.length vb.length (by simp [l1, l2, hn]) (eN xs ys) (ltN xs ys) (fun j h1 h2 => ?_) fun j h1 h2 => ?_) ⟨ha, hb, ?_⟩ hu
  · obtain ⟨t, e1⟩ := na.get j h1
    obtain ⟨u, e2⟩ := nb.get j h2
    rw [e1, e2]; exact eqGives_str _ _ _ _
  · obtain ⟨t, e1⟩ := na.get j h1
    obtain ⟨u, e2⟩ := nb.get j h2
    rw [e1, e2]; exact rg_lt _ _ _ _
  · show Value.bool _ ≠ Value.notImplemented ∧ Q (.bool _) s
    refine ⟨(fun x => nomatch x), ?_⟩
    have e3 : va.toArray.size = xs.length := by simp [l1]
    rw [e3]; exact h
theorem rc_gt (ha : s.heap.get? a = some (LCg.lst va)) (hb : s.heap.get? b = some (LCg.lst vb)) (na : NmsAre va xs) (nb : NmsAre vb ys) (hn : xs.length = ys.length) (hu : A.units < cLine)
    (h : Q (.bool (lexB (eN xs ys) (gtN xs ys) xs.length 0)) s) : wpAny (model prog w) A (richCompare .Gt (.ref a) (.ref b)) Q E s := by
  have l1 := na.len
  have l2 := nb.len
  refine richCompare_meets_room (op := .Gt) ⟨_, ha, rfl⟩ ⟨_, hb, rfl⟩ F.slot_list_gt F.entry_list_gt (F.args_list_gt_2 _ _)
    (list_gt a b va.toArray vb.toArray va.length vb.length (by simp [l1, l2, hn]) (eN xs ys) (gtN xs ys) (fun j h1 h2 => ?_) fun j h1 h2 => ?_) ⟨ha, hb, ?_⟩ hu
  · obtain ⟨t, e1⟩ := na.get j h1
    obtain ⟨u, e2⟩ := nb.get j h2
    rw [e1, e2]; exact eqGives_str _ _ _ _
  · obtain ⟨t, e1⟩ := na.get j h1
    obtain ⟨u, e2⟩ := nb.get j h2
    rw [e1, e2]; exact rg_gt _ _ _ _
  · show Value.bool _ ≠ Value.notImplemented ∧ Q (.bool _) s
    refine ⟨(fun x => nomatch x), ?_⟩
    have e3 : va.toArray.size = xs.length := by simp [l1]
    rw [e3]; exact h
theorem min_K {h₀ : Heap} {L D : Addr} {m : Str → Option Value} {news : List (Addr × Obj)} (hh : A.handled = none) (F : Fr h₀ L s.heap m) (N : News h₀ L s.heap news) (hl : (D, LCg.lst [.ref a, .ref b]) ∈ news) (ha : (a, LCg.lst va) ∈ news) (hb : (b, LCg.lst vb) ∈ news)
    (na : NmsAre va xs) (nb : NmsAre vb ys) (hn : xs.length = ys.length) (hu : A.in1.units < cLine)
    (h : ∀ h' tk, Fr h₀ L h' m → News h₀ L h' news → Q (if lexB (eN ys xs) (ltN ys xs) ys.length 0 = true then .ref b else .ref a) { s with heap := h', toks := tk }) :
    wpAny (model prog w) A (call (.builtin "min") [.ref D]) Q E s := by
  refine call_min2 hh ⟨_, (N _ hl).1, rfl, _, rfl⟩ (fun s' Q' E' k hq => ?_) fun h' tk k => h h' tk (F.keeps k) fun p hp => ⟨k _ _ (N p hp).1, (N p hp).2⟩
  exact rc_lt (k _ _ (N _ hb).1) (k _ _ (N _ ha).1) nb na hn.symm hu hq
theorem max_K {h₀ : Heap} {L D : Addr} {m : Str → Option Value} {news : List (Addr × Obj)} (hh : A.handled = none) (F : Fr h₀ L s.heap m) (N : News h₀ L s.heap news) (hl : (D, LCg.lst [.ref a, .ref b]) ∈ news) (ha : (a, LCg.lst va) ∈ news) (hb : (b, LCg.lst vb) ∈ news)
    (na : NmsAre va xs) (nb : NmsAre vb ys) (hn : xs.length = ys.length) (hu : A.in1.units < cLine)
    (h : ∀ h' tk, Fr h₀ L h' m → News h₀ L h' news → Q (if lexB (eN ys xs) (gtN ys xs) ys.length 0 = true then .ref b else .ref a) { s with heap := h', toks := tk }) :
    wpAny (model prog w) A (call (.builtin "max") [.ref D]) Q E s := by
  refine call_max2 hh ⟨_, (N _ hl).1, rfl, _, rfl⟩ (fun s' Q' E' k hq => ?_) fun h' tk k => h h' tk (F.keeps k) fun p hp => ⟨k _ _ (N p hp).1, (N p hp).2⟩
  exact rc_gt (k _ _ (N _ hb).1) (k _ _ (N _ ha).1) nb na hn.symm hu hq
theorem min_KL {h₀ : Heap} {L D : Addr} {m : Str → Option Value} {news : List (Addr × Obj)} (hh : A.handled = none) (F : Fr h₀ L s.heap m) (N : News h₀ L s.heap news) (hl : (D, LCg.lst [.ref a, .ref b]) ∈ news) (ha : (a, LCg.lst va) ∈ news) (hb : (b, LCg.lst vb) ∈ news)
    (na : NmsAre va xs) (nb : NmsAre vb ys) (hn : xs.length = ys.length) (hu : A.in1.units < cLine)
    (h : ∀ c vc h' tk, NmsAre vc (if lexB (eN ys xs) (ltN ys xs) ys.length 0 = true then ys else xs) → Fr h₀ L h' m → News h₀ L h' ((c, LCg.lst vc) :: news) → Q (.ref c) { s with heap := h', toks := tk }) :
    wpAny (model prog w) A (call (.builtin "min") [.ref D]) Q E s := by
  refine min_K hh F N hl ha hb na nb hn hu fun h' tk F' N' => ?_
  by_cases e : lexB (eN ys xs) (ltN ys xs) ys.length 0 = true
  · rw [if_pos e]
    exact h b vb h' tk (by rw [if_pos e]; exact nb) F' fun p hp => by
      rcases List.mem_cons.mp hp with rfl | hp
      · exact N' _ hb
      · exact N' p hp
  · rw [if_neg e]
    exact h a va h' tk (by rw [if_neg e]; exact na) F' fun p hp => by
      rcases List.mem_cons.mp hp with rfl | hp
      · exact N' _ ha
      · exact N' p hp
theorem max_KL {h₀ : Heap} {L D : Addr} {m : Str → Option Value} {news : List (Addr × Obj)} (hh : A.handled = none) (F : Fr h₀ L s.heap m) (N : News h₀ L s.heap news) (hl : (D, LCg.lst [.ref a, .ref b]) ∈ news) (ha : (a, LCg.lst va) ∈ news) (hb : (b, LCg.lst vb) ∈ news)
    (na : NmsAre va xs) (nb : NmsAre vb ys) (hn : xs.length = ys.length) (hu : A.in1.units < cLine)
    (h : ∀ c vc h' tk, NmsAre vc (if lexB (eN ys xs) (gtN ys xs) ys.length 0 = true then ys else xs) → Fr h₀ L h' m → News h₀ L h' ((c, LCg.lst vc) :: news) → Q (.ref c) { s with heap := h', toks := tk }) :
    wpAny (model prog w) A (call (.builtin "max") [.ref D]) Q E s := by
  refine max_K hh F N hl ha hb na nb hn hu fun h' tk F' N' => ?_
  by_cases e : lexB (eN ys xs) (gtN ys xs) ys.length 0 = true
  · rw [if_pos e]
    exact h b vb h' tk (by rw [if_pos e]; exact nb) F' fun p hp => by
      rcases List.mem_cons.mp hp with rfl | hp
      · exact N' _ hb
      · exact N' p hp
  · rw [if_neg e]
    exact h a va h' tk (by rw [if_neg e]; exact na) F' fun p hp => by
      rcases List.mem_cons.mp hp with rfl | hp
      · exact N' _ ha
      · exact N' p hp
end
theorem hxT_inj : ∀ a < 16, ∀ b < 16, hx a = hx b → a = b := by decide +kernel
theorem nmT_inj {x y : Nat} (hx1 : x < 256) (hy : y < 256) (h : tS (nm x) = tS (nm y)) : x = y := by
  have e : nm x = nm y := by
    have := congrArg (fun s : Str => s.cps.toList) h
    simpa using this
  unfold nm at e
  simp only [List.cons.injEq, and_true, true_and] at e
  have a := hxT_inj (x / 16) (by omega) (y / 16) (by omega) e.1
  have b := hxT_inj (x % 16) (by omega) (y % 16) (by omega) e.2
  omega
/-- the longest row of names that both begin with -/
noncomputable def lcp : List Nat → List Nat → List Nat
  | x :: r, y :: q => if x = y then x :: lcp r q else []
  | _, _ => []
theorem lcp_comm : ∀ a b : List Nat, lcp a b = lcp b a
  | [], [] => rfl
  | [], _ :: _ => rfl
  | _ :: _, [] => rfl
  | x :: r, y :: q => by
    unfold lcp
    by_cases h : x = y
    · rw [if_pos h, if_pos h.symm, lcp_comm r q, h]
    · rw [if_neg h, if_neg (Ne.symm h)]
theorem lcp_self : ∀ a : List Nat, lcp a a = a
  | [] => rfl
  | x :: r => by unfold lcp; rw [if_pos rfl, lcp_self r]
theorem str_total {a b : List Nat} (h : a ≠ b) : decide (a < b) ≠ decide (b < a) := by
  intro q
  have q' : (a < b) ↔ (b < a) := by simpa using q
  by_cases h1 : a < b
  · exact List.lt_irrefl a (List.lt_trans h1 (q'.mp h1))
  · have h2 : ¬ b < a := fun x => h1 (q'.mpr x)
    exact h (List.le_antisymm h2 h1)
theorem getD_at {l : List Nat} {j : Nat} (h : j < l.length) : l.getD j 0 = l[j] := by rw [List.getD_eq_getElem?_getD, List.getElem?_eq_getElem h]; rfl
/-- the least and the greatest of two rows of names are the two, or the rows are the same -/
theorem mm_lcp {xs ys : List Nat} (hn : xs.length = ys.length) (hxo : ∀ o ∈ xs, o < 256) (hyo : ∀ o ∈ ys, o < 256) :
    lcp (if lexB (eN ys xs) (ltN ys xs) ys.length 0 = true then ys else xs) (if lexB (eN ys xs) (gtN ys xs) ys.length 0 = true then ys else xs) = lcp xs ys := by
  by_cases h : xs = ys
  · subst h
    simp only [ite_self]
  · have d : ∃ j, 0 ≤ j ∧ j < 0 + ys.length ∧ eN ys xs j = false := by
      by_cases q : ∃ j, 0 ≤ j ∧ j < 0 + ys.length ∧ eN ys xs j = false
      · exact q
      · exfalso
        apply h
        refine List.ext_getElem hn fun j h1 h2 => ?_
        have e : eN ys xs j = true := by
          rcases e : eN ys xs j with _ | _
          · exact absurd ⟨j, Nat.zero_le _, by omega, e⟩ q
          · rfl
        unfold eN at e
        have := nmT_inj (by rw [getD_at h2]; exact hyo _ (List.getElem_mem h2)) (by rw [getD_at h1]; exact hxo _ (List.getElem_mem h1)) (eq_of_beq e)
        rw [getD_at h1, getD_at h2] at this
        exact this.symm
    have k := lexB_ne (e := eN ys xs) (r1 := ltN ys xs) (r2 := gtN ys xs) ys.length 0 d fun j _ _ e => by
      unfold eN at e
      exact str_total fun q => by
        have : tS (nm (ys.getD j 0)) = tS (nm (xs.getD j 0)) := Str.ext' (Array.toList_inj.mp q)
        rw [this] at e; simp at e
    rcases e1 : lexB (eN ys xs) (ltN ys xs) ys.length 0 with _ | _ <;> rcases e2 : lexB (eN ys xs) (gtN ys xs) ys.length 0 with _ | _
    · exact absurd (e1.trans e2.symm) k
    · simp
    · simp only [if_true, Bool.false_eq_true, if_false]; exact lcp_comm _ _
    · exact absurd (e1.trans e2.symm) k
end Mine
end

-- WEn
section
open PySem PySem.W PyProof.Rows PySem.Calls PySem.Spec
set_option linter.unusedVariables false
set_option maxRecDepth 100000
set_option maxHeartbeats 1000000
namespace Mine
section
variable {prog : Program} {w : World} {A : Around} {E : Value → Shared → Prop} {s : Shared} {env : Env} {h₀ : Heap} {target : PySem.Expr} {body : List Stmt} {Q : Flow → Shared → Prop}
theorem allObj_mono : ∀ {ws : List (Addr × String)} {k k' : List (Addr × Obj) → Prop}, AllObj ws k → (∀ its, k its → k' its) → AllObj ws k'
  | [], _, _, h, g => g _ h
  | w :: r, k, k', h, g => fun o ho => allObj_mono (ws := r) (h o ho) fun its q => g _ q
theorem unrPostW_mono {L : Addr} {s₁ : Shared} {its : List (Addr × Obj)} {R R' : (Str → Option Value) → List (Addr × Obj) → Prop} (k : ∀ m n, R m n → R' m n) {f : Flow} {s₂ : Shared} (h : UnrPostW h₀ L s₁ its R Q f s₂) : UnrPostW h₀ L s₁ its R' Q f s₂ := by
  cases f with
  | ret v => exact h
  | brk => exact h
  | next => obtain ⟨h', tk, m', n', e, F, N, o, r⟩ := h; exact ⟨h', tk, m', n', e, F, N, o, k _ _ r⟩
  | cont => obtain ⟨h', tk, m', n', e, F, N, o, r⟩ := h; exact ⟨h', tk, m', n', e, F, N, o, k _ _ r⟩
/-- the turns of a walk over any number of items, by what holds of the turn's number -/
theorem items_ind {ws : List (Addr × String)} {keep : List (Addr × Obj)} {xs : List Itm} {m₀ : Str → Option Value} {news : List (Addr × Obj)} (Rel : Nat → (Str → Option Value) → List (Addr × Obj) → Prop) (h0 : Rel 0 m₀ news)
    (step : ∀ i a m n, xs[i]? = some a → Rel i m n → ∀ v h tk, a.Is v h → Fr h₀ env.locals h m → AllObj ws (fun its => News h₀ env.locals h (its ++ n) →
      wpAny (model prog w) A (assign target env v) (fun _ s₂ => wpAny (model prog w) A (execs body env) (UnrPostW h₀ env.locals { s with heap := h, toks := tk } its (fun m' n' => SubL keep n' ∧ Rel (i + 1) m' n') Q) E s₂) E { s with heap := h, toks := tk }))
    (fin : ∀ m n, Rel xs.length m n → ∀ h tk, Fr h₀ env.locals h m → News h₀ env.locals h n → Q .next { s with heap := h, toks := tk }) :
    ItemsRest prog w A E h₀ env target body Q s ws keep xs m₀ news := by
  have key : ∀ (r : List Itm) (i : Nat) (m : Str → Option Value) (n : List (Addr × Obj)), xs.drop i = r → i ≤ xs.length → Rel i m n → ItemsRest prog w A E h₀ env target body Q s ws keep r m n := by
    intro r
    induction r with
    | nil =>
      intro i m n e hi hR h tk F N
      have : i = xs.length := by
        have := congrArg List.length e
        rw [List.length_drop] at this
        simp at this; omega
      exact fin m n (this ▸ hR) h tk F N
    | cons a r ih =>
      intro i m n e hi hR v h tk hv F
      have hx : xs[i]? = some a := by
        have := congrArg List.head? e
        rwa [List.head?_drop, List.head?_cons] at this
      have hlt : i < xs.length := (List.getElem?_eq_some_iff.mp hx).1
      have hd : xs.drop (i + 1) = r := by
        have := congrArg List.tail e
        rwa [List.tail_drop, List.tail_cons] at this
      refine allObj_mono (step i a m n hx hR v h tk hv F) fun its q N => ?_
      refine wpAny_mono (q N) (fun _ s₂ z => wpAny_mono z (fun f s₃ y => unrPostW_mono (fun m' n' x => ⟨x.1, ih (i + 1) m' n' hd hlt x.2⟩) y) fun _ _ x => x) fun _ _ x => x
  exact key xs 0 m₀ news rfl (Nat.zero_le _) h0
/-- what a turn hands on: the ledger as it was, two names turned -/
noncomputable def TurnNm (m₀ : Str → Option Value) (news : List (Addr × Obj)) (xi xc : Str) (P : Prop) (m' : Str → Option Value) (n' : List (Addr × Obj)) : Prop := n' = news ∧ (∀ z, z ≠ xi → z ≠ xc → m' z = m₀ z) ∧ P
theorem enum_names {pi pc : Pos} {k : Nat} {pos : Pos} {xi xc : Str} {l : Addr} {vs : List Value} {zs : List Nat} {m₀ : Str → Option Value} {news : List (Addr × Obj)} (P : Nat → Prop)
    (hh : A.handled = none) (F : Fr h₀ env.locals s.heap m₀) (N : News h₀ env.locals s.heap news) (hm : (l, LCg.lst vs) ∈ news) (hz : NmsAre vs zs) (hP : P 0)
    (turn : ∀ I i o t u T h tk (ui uc : Option Value) oe oi, (∀ p ∈ news, p.1 < I) → zs[i]? = some o → P i → IsTup h T #[.int ((i : Nat) : Int) t, .str (tS (nm o)) u] → Fr h₀ env.locals h (fun z => if z = xc then uc else if z = xi then ui else m₀ z) →
      oe.cls = .type "enumerate" → oi.cls = .type "list_iterator" → News h₀ env.locals h ((I + 1, oe) :: (I, oi) :: news) →
      wpAny (model prog w) A (assign (.Tuple [.Name xi pi, .Name xc pc] k pos) env (.ref T)) (fun _ s₂ => wpAny (model prog w) A (execs body env) (UnrPostW h₀ env.locals { s with heap := h, toks := tk } [(I + 1, oe), (I, oi)] (fun m' n' => SubL [(l, LCg.lst vs)] n' ∧ TurnNm m₀ news xi xc (P (i + 1)) m' n') Q) E s₂) E { s with heap := h, toks := tk })
    (fin : ∀ (ui uc : Option Value) h tk, P zs.length → Fr h₀ env.locals h (fun z => if z = xc then uc else if z = xi then ui else m₀ z) → News h₀ env.locals h news → Q .next { s with heap := h, toks := tk }) :
    wpAny (model prog w) A (call (.type "enumerate") [.ref l]) (fun xv s₁ => wpAny (model prog w) A (pyIter xv) (fun it s₂ => PySem.W.TurnsAt prog w A h₀ env (.Tuple [.Name xi pi, .Name xc pc] k pos) body Q E it s₂) E s₁) E s := by
  have mk : ∀ m : Str → Option Value, (∀ z, z ≠ xi → z ≠ xc → m z = m₀ z) → m = fun z => if z = xc then m xc else if z = xi then m xi else m₀ z := by
    intro m hm'
    funext z
    by_cases e1 : z = xc
    · simp [e1]
    · by_cases e2 : z = xi
      · subst e2; simp [e1]
      · simp only [if_neg e1, if_neg e2]; exact hm' z e2 e1
  refine ktu_enum (vs := vs) hh F N hm rfl rfl rfl fun I hI => ?_
  refine items_ind (Rel := fun i => TurnNm m₀ news xi xc (P i)) ⟨rfl, fun _ _ _ => rfl, hP⟩ ?_ ?_
  · rintro i a m n hx ⟨rfl, hm', hPi⟩ v h tk hv F'
    have hi : i < (enumItems 0 vs).length := (List.getElem?_eq_some_iff.mp hx).1
    rw [enumItems_length] at hi
    obtain ⟨o, u, ho, hvo⟩ := hz.at (List.getElem?_eq_getElem hi)
    have e := enumItems_get vs 0 i (v := vs[i]) (List.getElem?_eq_getElem hi)
    rw [hx] at e
    obtain rfl := Option.some.inj e
    obtain ⟨T, t, rfl, hT⟩ := hv
    rw [hvo] at hT
    rw [mk m hm'] at F'
    refine AllObj.cons fun oe he => AllObj.cons fun oi hi' => AllObj.nil fun N' => ?_
    exact turn I i o t u T h tk _ _ oe oi hI ho hPi (by simpa using hT) F' he hi' N'
  · rintro m n ⟨rfl, hm', hPi⟩ h tk F' N'
    rw [enumItems_length, hz.len] at hPi
    rw [mk m hm'] at F'
    exact fin _ _ h tk hPi F' N'
end
theorem lcp_at : ∀ {X Y : List Nat} {i o p : Nat}, (∀ j, j < i → X[j]? = Y[j]?) → X[i]? = some o → Y[i]? = some p → o ≠ p → lcp X Y = X.take i
  | [], _, _, _, _, _, h, _, _ => by simp at h
  | _ :: _, [], _, _, _, _, _, h, _ => by simp at h
  | x :: r, y :: q, 0, o, p, _, h1, h2, h3 => by
    simp at h1 h2
    subst h1 h2
    simp [lcp, h3]
  | x :: r, y :: q, i + 1, o, p, h, h1, h2, h3 => by
    have e : x = y := by simpa using h 0 (Nat.zero_lt_succ _)
    subst e
    have ih := lcp_at (X := r) (Y := q) (i := i) (o := o) (p := p) (fun j hj => by simpa using h (j + 1) (by omega)) (by simpa using h1) (by simpa using h2) h3
    simp [lcp, ih]
theorem lcp_all : ∀ {X Y : List Nat}, (∀ j, j < X.length → X[j]? = Y[j]?) → lcp X Y = X
  | [], Y, _ => by simp [lcp]
  | x :: r, [], h => by have := h 0 (by simp); simp at this
  | x :: r, y :: q, h => by
    have e : x = y := by simpa using h 0 (by simp)
    subst e
    have ih := lcp_all (X := r) (Y := q) fun j hj => by simpa using h (j + 1) (by simp; omega)
    simp [lcp, ih]
theorem lcp_len : ∀ a b : List Nat, (lcp a b).length ≤ a.length
  | [], _ => by simp [lcp]
  | _ :: _, [] => by simp [lcp]
  | x :: r, y :: q => by
    unfold lcp
    split
    · simp [lcp_len r q]
    · simp
/-- what commonpath gives -/
noncomputable def cpS (xs ys : List Nat) : Str := tS ([47] ++ jn [47] ((lcp xs ys).map nm))
theorem jn_names_len : ∀ zs : List Nat, (jn [47] (zs.map nm)).length ≤ 4 * zs.length
  | [] => by simp [jn]
  | [a] => by simp [jn, nm]
  | a :: b :: r => by
    have ih := jn_names_len (b :: r)
    have e : jn [47] ((a :: b :: r).map nm) = nm a ++ [47] ++ jn [47] ((b :: r).map nm) := rfl
    rw [e]
    simp only [List.length_append, List.length_cons, List.length_nil, nm] at ih ⊢
    omega
section
variable {prog : Program} {w : World} {A : Around} {E : Value → Shared → Prop} {s : Shared} {t u : Tok} {h₀ : Heap} {L : Addr} {m : Str → Option Value} {news : List (Addr × Obj)}
theorem join_names {D : Addr} {vs : List Value} {n : Nat} {zs : List Nat} {Q : Value → Shared → Prop} (N : News h₀ L s.heap news) (hm : (D, W.listOf vs.toArray n) ∈ news) (hz : NmsAre vs zs) (hl : zs.length ≤ 9)
    (hq : ∀ t' k, Q (.str (tS (jn [47] (zs.map nm))) t') { s with toks := k }) : wpAny (model prog w) A (call (.builtin "str.join") [.str (Str.ofString "/") t, .ref D]) Q E s := by
  obtain ⟨l, rfl, e⟩ := hz
  refine join_sep [47] (zs.map nm) (by decide +kernel) ⟨_, (N _ hm).1, rfl, n, rfl⟩ (by rw [e, List.map_map]; rfl) (fun a ha => ?_) (by decide) (by rw [List.length_map]; omega) hq
  obtain ⟨o, _, rfl⟩ := List.mem_map.mp ha
  simp [nm]
theorem ne_names {o p : Nat} {Q : Value → Shared → Prop} (ho : o < 256) (hp : p < 256) (e : o ≠ p) (h : Q (.bool true) s) : wpAny (model prog w) A (compareOp .NotEq (.str (tS (nm o)) t) (.str (tS (nm p)) u)) Q E s :=
  ne_other (fun q => e (nmT_inj ho hp q)) h
theorem ne_names_f {o p : Nat} {Q : Value → Shared → Prop} (e : o = p) (h : Q (.bool false) s) : wpAny (model prog w) A (compareOp .NotEq (.str (tS (nm o)) t) (.str (tS (nm p)) u)) Q E s := by
  subst e
  exact P.ne_str (by simpa using h)
end
theorem cp_ret (xs ys : List Nat) : Str.ofString "/" ++ tS (jn [47] ((lcp xs ys).map nm)) = cpS xs ys := by
  rw [show Str.ofString "/" = tS [47] by decide +kernel, tS_app]; rfl
end Mine
end

-- WPt
section
open PySem PySem.W PyProof.Rows PySem.Calls
set_option linter.unusedVariables false
set_option maxRecDepth 100000
set_option maxHeartbeats 1000000
namespace Mine
/-- the pattern of some names: a star ahead, behind and between -/
noncomputable def patOf (ns : List (List Nat)) : List Nat := 42 :: ns.flatMap fun n => n ++ [42]
theorem pat_len {ns : List (List Nat)} (h : ∀ n ∈ ns, n.length = 3) : (patOf ns).length = 4 * ns.length + 1 := by
  unfold patOf
  rw [List.length_cons]
  congr 1
  induction ns with
  | nil => rfl
  | cons n r ih =>
    rw [List.flatMap_cons, List.length_append, ih fun a ha => h a (.tail _ ha), List.length_append, h n (.head _)]
    simp only [List.length_cons, List.length_nil]; omega
theorem pat_at {ns : List (List Nat)} (h : ∀ n ∈ ns, n.length = 3) : ∀ (k j : Nat) {n : List Nat}, ns[k]? = some n → j < 4 → (patOf ns)[4 * k + 1 + j]? = (n ++ [42])[j]? := by
  unfold patOf
  induction ns with
  | nil => intro k j n e; simp at e
  | cons a r ih =>
    intro k j n e hj
    have ha : (a ++ [42]).length = 4 := by simp [h a (.head _)]
    rw [List.flatMap_cons, show 4 * k + 1 + j = (4 * k + j) + 1 by omega, List.getElem?_cons_succ]
    cases k with
    | zero =>
      cases e
      rw [List.getElem?_append_left (by omega)]
      congr 1; omega
    | succ k =>
      have e' : r[k]? = some n := by simpa using e
      rw [List.getElem?_append_right (by omega), ha]
      have := ih (fun b hb => h b (.tail _ hb)) k j e' hj
      rw [show 4 * k + 1 + j = (4 * k + j) + 1 by omega, List.getElem?_cons_succ] at this
      rw [← this]
      congr 1; omega
theorem pat_star {ns : List (List Nat)} (h : ∀ n ∈ ns, n.length = 3) {k : Nat} (hk : k ≤ ns.length) : (patOf ns)[4 * k]? = some 42 := by
  cases k with
  | zero => rfl
  | succ k =>
    have e : ns[k]? = some ns[k] := List.getElem?_eq_getElem (by omega)
    have := pat_at h k 3 e (by omega)
    rw [show 4 * k + 1 + 3 = 4 * (k + 1) by omega] at this
    rw [this]
    have hl := h _ (List.getElem_mem (by omega : k < ns.length))
    rw [List.getElem?_append_right (by omega), hl]; rfl
theorem three {l : List Nat} (h : l.length = 3) : ∃ a b c, l = [a, b, c] := by
  match l, h with
  | [a, b, c], _ => exact ⟨a, b, c, rfl⟩
theorem turn_cases {st : Addr} {vs : List Value} {ns : List (List Nat)} (h : ∀ n ∈ ns, n.length = 3) (hc : ∀ n ∈ ns, ∀ c ∈ n, plainC c = true) (hp : PartsAre st vs (patOf ns)) {k : Nat} (hk : k ≤ ns.length) :
    (k = ns.length ∧ vs[4 * k]? = some (.ref st)) ∨ (k < ns.length ∧ vs[4 * k]? = some (.ref st) ∧ vs[4 * k + 4]? = some (.ref st) ∧ ∃ a b c ta tb tc, ns[k]? = some [a, b, c] ∧ vs[4 * k + 1]? = some (.str (tS [a]) ta) ∧ vs[4 * k + 2]? = some (.str (tS [b]) tb) ∧ vs[4 * k + 3]? = some (.str (tS [c]) tc)) := by
  have h0 := (hp.2 _ _ (pat_star h hk)).1 rfl
  rcases Nat.lt_or_eq_of_le hk with h1 | h1
  · refine .inr ⟨h1, h0, ?_, ?_⟩
    · have := (hp.2 _ _ (pat_star h (by omega : k + 1 ≤ ns.length))).1 rfl
      rwa [show 4 * (k + 1) = 4 * k + 4 by omega] at this
    · have e : ns[k]? = some ns[k] := List.getElem?_eq_getElem h1
      obtain ⟨a, b, c, e1⟩ := three (h _ (List.getElem_mem h1))
      have hc' := hc _ (List.getElem_mem h1)
      rw [e1] at e hc'
      obtain ⟨ta, ha⟩ := (hp.2 _ _ (pat_at h k 0 e (by omega))).2 (plain_fact (hc' a (by simp))).2.2.1
      obtain ⟨tb, hb⟩ := (hp.2 _ _ (pat_at h k 1 e (by omega))).2 (plain_fact (hc' b (by simp))).2.2.1
      obtain ⟨tc, hc⟩ := (hp.2 _ _ (pat_at h k 2 e (by omega))).2 (plain_fact (hc' c (by simp))).2.2.1
      exact ⟨a, b, c, ta, tb, tc, e, ha, hb, hc⟩
  · exact .inl ⟨h1, h0⟩
theorem pat_pat {ns : List (List Nat)} (h : ∀ n ∈ ns, n.length = 3) (hc : ∀ n ∈ ns, ∀ c ∈ n, plainC c = true) : Pat (patOf ns) where
  sign := by
    intro c hm
    unfold patOf at hm
    rcases List.mem_cons.mp hm with rfl | hm
    · exact .inl rfl
    · obtain ⟨n, h1, h2⟩ := List.mem_flatMap.mp hm
      rcases List.mem_append.mp h2 with h2 | h2
      · exact .inr (hc n h1 c h2)
      · exact .inl (List.mem_singleton.mp h2)
  apart := by
    intro i hi hj
    have hl := pat_len h
    have h1 := (List.getElem?_eq_some_iff.mp hi).1
    have h2 := (List.getElem?_eq_some_iff.mp hj).1
    have hk : i / 4 < ns.length := by omega
    have e : ns[i / 4]? = some ns[i / 4] := List.getElem?_eq_getElem hk
    have hn := h _ (List.getElem_mem hk)
    have hp := hc _ (List.getElem_mem hk)
    have no : ∀ j, j < 3 → (patOf ns)[4 * (i / 4) + 1 + j]? ≠ some 42 := by
      intro j hj q
      rw [pat_at h _ j e (by omega), List.getElem?_append_left (by omega)] at q
      exact (plain_fact (hp _ (List.mem_of_getElem? q))).2.2.1 rfl
    by_cases h3 : i % 4 = 0
    · have := no 0 (by omega)
      rw [show 4 * (i / 4) + 1 + 0 = i + 1 by omega] at this
      exact this hj
    · have := no (i % 4 - 1) (by omega)
      rw [show 4 * (i / 4) + 1 + (i % 4 - 1) = i by omega] at this
      exact this hi
/-- what translate gives for a name -/
noncomputable def grp (n : List Nat) : List Nat := [40, 63, 62, 46, 42, 63] ++ n ++ [41]
noncomputable def textOf (ns : List (List Nat)) : List Nat := [40, 63, 115, 58] ++ ns.flatMap grp ++ [46, 42, 41, 92, 90]
end Mine
namespace Mine
theorem take_grp {ns : List (List Nat)} {k : Nat} {n : List Nat} (h : ns[k]? = some n) : (ns.take (k + 1)).map (fun n => tS (grp n)) = (ns.take k).map (fun n => tS (grp n)) ++ [tS (grp n)] := by
  rw [List.take_add_one, h]; simp
theorem grp_len {ns : List (List Nat)} (h3 : ∀ n ∈ ns, n.length = 3) : ∀ a ∈ ns.map grp ++ [[46, 42]], a.length ≤ 100 := by
  intro a ha
  rcases List.mem_append.mp ha with ha | ha
  · obtain ⟨n, hn, rfl⟩ := List.mem_map.mp ha
    unfold grp; simp [h3 n hn]
  · rw [List.mem_singleton.mp ha]; decide
theorem grp_flat (ns : List (List Nat)) : (ns.map grp ++ [[46, 42]]).flatten = ns.flatMap grp ++ [46, 42] := by
  rw [List.flatten_append, List.flatMap_def]; simp
end Mine
namespace Mine
theorem push_str (l : List (Str × Tok)) (y : Str) (t : Tok) : (strValues l).toArray.push (.str y t) = (strValues (l ++ [(y, t)])).toArray := by simp [strValues]
theorem grp_str (n : List Nat) : Str.empty ++ Str.ofString "(?>.*?" ++ tS n ++ Str.ofString ")" = tS (grp n) := by
  rw [show Str.empty ++ Str.ofString "(?>.*?" = tS [40, 63, 62, 46, 42, 63] by decide +kernel, show Str.ofString ")" = tS [41] by decide +kernel, tS_app, tS_app]; rfl
theorem text_str (ns : List (List Nat)) : Str.empty ++ Str.ofString "(?s:" ++ tS (ns.flatMap grp ++ [46, 42]) ++ Str.ofString ")\\Z" = tS (textOf ns) := by
  rw [show Str.empty ++ Str.ofString "(?s:" = tS [40, 63, 115, 58] by decide +kernel, show Str.ofString ")\\Z" = tS [41, 92, 90] by decide +kernel, tS_app, tS_app]
  unfold textOf; simp
theorem grps_len {ns : List (List Nat)} (h3 : ∀ n ∈ ns, n.length = 3) : (ns.flatMap grp).length = 10 * ns.length := by
  induction ns with
  | nil => rfl
  | cons n r ih =>
    rw [List.flatMap_cons, List.length_append, ih fun a ha => h3 a (.tail _ ha)]
    unfold grp; simp [h3 n (.head _)]; omega
theorem grps_short {ns : List (List Nat)} (h3 : ∀ n ∈ ns, n.length = 3) (h : ns.length ≤ 9) : (tS (ns.flatMap grp ++ [46, 42])).length ≤ 1000 := by
  rw [tS_len, List.length_append, grps_len h3]; simp; omega
theorem text_short {ns : List (List Nat)} (h3 : ∀ n ∈ ns, n.length = 3) (h : ns.length ≤ 9) : (textOf ns).length = 10 * ns.length + 9 := by
  unfold textOf; rw [List.length_append, List.length_append, grps_len h3]; simp; omega
end Mine
end

-- WTw
section
open PySem PySem.W PyProof.Rows PySem.Calls
set_option linter.unusedVariables false
set_option maxRecDepth 100000
set_option maxHeartbeats 1000000
namespace Mine
theorem contains_hex : ∀ a < 16, Txt.contains (Str.ofString "0123456789abcdefABCDEF") (tS [hx a]) = true := by decide +kernel
section
variable {prog : Program} {w : World} {A : Around} {E : Value → Shared → Prop} {s : Shared} {t u : Tok} {h₀ : Heap} {L : Addr} {m : Str → Option Value} {news : List (Addr × Obj)} {Q : Value → Shared → Prop} {value slice : PySem.Expr}
theorem in_hex {a : Nat} (ha : a < 16) (h : Q (.bool true) s) : wpAny (model prog w) A (compareOp .In (.str (tS [hx a]) t) (.str (Str.ofString "0123456789abcdefABCDEF") u)) Q E s :=
  in_str (by show Q (.bool (Txt.contains _ _)) s; rw [contains_hex a ha]; exact h)
theorem item_sign {l : List Nat} {k : Int} {c : Nat} (n : Nat) (hk : k = (n : Nat)) (hl : l[n]? = some c) (hs : l.length ≤ 1000) (h : Q (.str (tS [c]) s.toks) { s with toks := s.toks + 1 })
    (he : subscripted slice false (.str (tS l) t) (.int k u) = operate [.str (tS l) t, .int k u] (getItem (.str (tS l) t) (.int k u)) := by with_unfolding_all rfl)
    (ht : ∀ r, letTemporaryGo value (.str (tS l) t) r = pure () := by intro _; with_unfolding_all rfl) :
    wpAny (model prog w) A (subscriptTail value slice (.str (tS l) t) (.int k u)) Q E s := by
  subst hk
  have hn : n < l.length := (List.getElem?_eq_some_iff.mp hl).1
  refine item_str (fitsSsize_of (N := 9223372036854775808) (by omega) (by omega) (Int.le_refl _)) (by omega) (by rw [tS_len]; omega) (fun _ => ?_) he ht
  rw [item_tS hl]
  exact h
theorem item_way {os : List Nat} {k : Int} {k9 o : Nat} (j : Nat) (hl : os[k9]? = some o) (hj : j < 4) (hk : k = ((4 * k9 + j : Nat) : Int)) (hs : os.length ≤ 9) (h : Q (.str (tS [([47, 61, hx (o / 16), hx (o % 16)] : List Nat)[j]'(by simpa using hj)]) s.toks) { s with toks := s.toks + 1 })
    (he : subscripted slice false (.str (wS os) t) (.int k u) = operate [.str (wS os) t, .int k u] (getItem (.str (wS os) t) (.int k u)) := by with_unfolding_all rfl)
    (ht : ∀ r, letTemporaryGo value (.str (wS os) t) r = pure () := by intro _; with_unfolding_all rfl) :
    wpAny (model prog w) A (subscriptTail value slice (.str (wS os) t) (.int k u)) Q E s :=
  item_sign (4 * k9 + j) hk (by rw [wq_at hl j hj]; exact List.getElem?_eq_getElem _) (by rw [wq_len]; omega) h he ht
theorem item_way0 {os : List Nat} {k : Int} {k9 o : Nat} (hl : os[k9]? = some o) (hk : k = ((4 * k9 + 0 : Nat) : Int)) (hs : os.length ≤ 9) (h : Q (.str (tS [47]) s.toks) { s with toks := s.toks + 1 })
    (he : subscripted slice false (.str (wS os) t) (.int k u) = operate [.str (wS os) t, .int k u] (getItem (.str (wS os) t) (.int k u)) := by with_unfolding_all rfl)
    (ht : ∀ r, letTemporaryGo value (.str (wS os) t) r = pure () := by intro _; with_unfolding_all rfl) :
    wpAny (model prog w) A (subscriptTail value slice (.str (wS os) t) (.int k u)) Q E s := item_way 0 hl (by decide) hk hs h he ht
theorem item_way1 {os : List Nat} {k : Int} {k9 o : Nat} (hl : os[k9]? = some o) (hk : k = ((4 * k9 + 1 : Nat) : Int)) (hs : os.length ≤ 9) (h : Q (.str (tS [61]) s.toks) { s with toks := s.toks + 1 })
    (he : subscripted slice false (.str (wS os) t) (.int k u) = operate [.str (wS os) t, .int k u] (getItem (.str (wS os) t) (.int k u)) := by with_unfolding_all rfl)
    (ht : ∀ r, letTemporaryGo value (.str (wS os) t) r = pure () := by intro _; with_unfolding_all rfl) :
    wpAny (model prog w) A (subscriptTail value slice (.str (wS os) t) (.int k u)) Q E s := item_way 1 hl (by decide) hk hs h he ht
theorem item_way2 {os : List Nat} {k : Int} {k9 o : Nat} (hl : os[k9]? = some o) (hk : k = ((4 * k9 + 2 : Nat) : Int)) (hs : os.length ≤ 9) (h : Q (.str (tS [hx (o / 16)]) s.toks) { s with toks := s.toks + 1 })
    (he : subscripted slice false (.str (wS os) t) (.int k u) = operate [.str (wS os) t, .int k u] (getItem (.str (wS os) t) (.int k u)) := by with_unfolding_all rfl)
    (ht : ∀ r, letTemporaryGo value (.str (wS os) t) r = pure () := by intro _; with_unfolding_all rfl) :
    wpAny (model prog w) A (subscriptTail value slice (.str (wS os) t) (.int k u)) Q E s := item_way 2 hl (by decide) hk hs h he ht
theorem item_way3 {os : List Nat} {k : Int} {k9 o : Nat} (hl : os[k9]? = some o) (hk : k = ((4 * k9 + 3 : Nat) : Int)) (hs : os.length ≤ 9) (h : Q (.str (tS [hx (o % 16)]) s.toks) { s with toks := s.toks + 1 })
    (he : subscripted slice false (.str (wS os) t) (.int k u) = operate [.str (wS os) t, .int k u] (getItem (.str (wS os) t) (.int k u)) := by with_unfolding_all rfl)
    (ht : ∀ r, letTemporaryGo value (.str (wS os) t) r = pure () := by intro _; with_unfolding_all rfl) :
    wpAny (model prog w) A (subscriptTail value slice (.str (wS os) t) (.int k u)) Q E s := item_way 3 hl (by decide) hk hs h he ht
theorem item_last {os : List Nat} (h0 : os ≠ []) (ho : ∀ o ∈ os, o < 256) (hs : os.length ≤ 9) (h : ∀ c, plainC c = true → Q (.str (tS [c]) s.toks) { s with toks := s.toks + 1 })
    (he : subscripted slice false (.str (wS os) t) (.int (-1) u) = operate [.str (wS os) t, .int (-1) u] (getItem (.str (wS os) t) (.int (-1) u)) := by with_unfolding_all rfl)
    (ht : ∀ r, letTemporaryGo value (.str (wS os) t) r = pure () := by intro _; with_unfolding_all rfl) :
    wpAny (model prog w) A (subscriptTail value slice (.str (wS os) t) (.int (-1) u)) Q E s := by
  have hl : 1 ≤ os.length := List.length_pos_iff.mpr h0
  have e := wS_len os
  refine item_str (fitsSsize_of (N := 9223372036854775808) (by omega) (by omega) (Int.le_refl _)) (by omega) (by omega) (fun _ => ?_) he ht
  obtain ⟨o, ho1⟩ : ∃ o, os[os.length - 1]? = some o := ⟨_, List.getElem?_eq_getElem (by omega)⟩
  have h1 := wq_at ho1 3 (by omega)
  have hb := ho o (List.mem_of_getElem? ho1)
  have e2 : Txt.item (wS os) (-1) = tS [hx (o % 16)] := by
    unfold Txt.item Txt.charAt
    have h3 := wq_len os
    rw [StrLaws.seqIndex_neg (by omega) (by omega), Option.bind_some]
    have h4 : (-1 + ((wS os).length : Int)).toNat = 4 * (os.length - 1) + 3 := by omega
    rw [h4]
    have h5 : (wS os).cps[4 * (os.length - 1) + 3]? = some (hx (o % 16)) := by
      rw [← Array.getElem?_toList]; exact h1
    rw [h5]; rfl
  rw [e2]
  exact h _ (hx_plain _ (by omega))
theorem plain_notin : ∀ c < 128, plainC c = true → Txt.contains (Str.ofString "\r\n") (tS [c]) = false := by decide +kernel
theorem notin_crlf {c : Nat} (hc : plainC c = true) (h : Q (.bool true) s) : wpAny (model prog w) A (compareOp .NotIn (.str (tS [c]) t) (.str (Str.ofString "\r\n") u)) Q E s :=
  SB.notContains (by rw [plain_notin c (plain_small hc) hc]; exact h)
theorem ends_nl (l : List Nat) : Txt.endswith (tS (l ++ [10])) (Str.ofString "\n") = true := by
  have e : tS (l ++ [10]) = tS l ++ tS [10] := (tS_app _ _).symm
  rw [e, KAf.ends_right (by decide)]
  decide +kernel
theorem cut_ix (n : Nat) : Builtin.Str.strSliceIndices none (some (-1)) 1 (n + 1) = Builtin.Str.strSliceIndices none (some ((n : Nat) : Int)) 1 (n + 1) := by
  unfold Builtin.Str.strSliceIndices
  dsimp only
  congr 1
  simp only [show (1 : Int) > 0 by decide, if_true]
  rw [if_pos (by decide), if_neg (by omega)]
  omega
theorem cut_nl (l : List Nat) : Txt.slice (tS (l ++ [10])) none (some (-1)) = tS l := by
  have e2 : Txt.slice (tS (l ++ [10])) none (some (-1)) = Txt.slice (tS (l ++ [10])) none (some ((l.length : Nat) : Int)) := by
    unfold Txt.slice
    have h1 : (tS (l ++ [10])).length = l.length + 1 := by rw [tS_len]; simp
    rw [h1, cut_ix]
  rw [e2]
  refine (StrLaws.sliceText_to (x := tS (l ++ [10])) (j := (l.length : Nat)) ⟨by omega, by simp; omega⟩).trans ?_
  simp
theorem ends_with {x y : Str} {b : Bool} (e : Txt.endswith x y = b) (h : Q (.bool b) s) : wpAny (model prog w) A (call (.builtin "str.endswith") [.str x t, .str y u]) Q E s := SC.endswith (by rw [e]; exact h)
theorem slice_way {os : List Nat} {i j : Int} {k9 o : Nat} (hl : os[k9]? = some o) (hi : i = ((4 * k9 + 1 : Nat) : Int)) (hj : j = ((4 * k9 + 4 : Nat) : Int)) : Txt.slice (wS os) (some i) (some j) = qs o := by
  subst hi hj
  have hn : k9 < os.length := (List.getElem?_eq_some_iff.mp hl).1
  have e := wq_len os
  have := StrLaws.sliceText_plain (x := wS os) (i := ((4 * k9 + 1 : Nat) : Int)) (j := ((4 * k9 + 4 : Nat) : Int)) ⟨by omega, by omega, by simp; omega⟩
  refine this.trans ?_
  have e2 : ((4 * k9 + 4 : Nat) - (4 * k9 + 1 : Nat) : Int).toNat = 3 := by omega
  rw [e2, show ((4 * k9 + 1 : Nat) : Int).toNat = 4 * k9 + 1 by omega]
  show tS (((wq os).drop (4 * k9 + 1)).take 3) = _
  rw [wq_sub hl]
  rfl
end
end Mine
namespace Mine
section
variable {σ : Type} {h₀ : Heap} {L : Addr} {s : Shared} {Led : σ → List (Addr × Obj)} {ps : σ → List (Str × Value)} {Facts : σ → Prop} {stored : List Str} {m₀ m' : Str → Option Value} {P : σ → Prop} {μ : σ → Nat} {c : σ} {h' : Heap} {tk : Nat} {news' : List (Addr × Obj)}
/-- a turn's end, two names turned: an int and a text -/
theorem kend_is (c' : σ) (F : Fr h₀ L h' m') (N : News h₀ L h' news') {n1 n2 : Str} {a b : Int} {x y : Str} {ti td : Tok} (hps : ps c' = [(n1, Value.int b ti), (n2, Value.str y td)]) (h1 : m' n1 = some (.int a ti)) (h2 : m' n2 = some (.str x td)) (e1 : a = b) (e2 : x = y)
    (hn : ∀ p ∈ Led c', p ∈ news') (hf : Facts c') (hr : ∀ z, (∀ p ∈ ps c', z ≠ p.1) → stored.contains z = false → m' z = m₀ z) (hp : P c') (hm : μ c' < μ c) : KswEnd h₀ L s Led ps Facts stored m₀ P μ c { s with heap := h', toks := tk } := by
  subst e1 e2
  refine ksw_end c' F N hn hf ?_ hr hp hm
  rw [hps]
  exact List.forall_mem_cons.mpr ⟨h1, List.forall_mem_cons.mpr ⟨h2, List.forall_mem_nil _⟩⟩
/-- a turn's end, one name turned: an int -/
theorem kend_i (c' : σ) (F : Fr h₀ L h' m') (N : News h₀ L h' news') {n1 : Str} {a b : Int} {ti : Tok} (hps : ps c' = [(n1, Value.int b ti)]) (h1 : m' n1 = some (.int a ti)) (e1 : a = b)
    (hn : ∀ p ∈ Led c', p ∈ news') (hf : Facts c') (hr : ∀ z, (∀ p ∈ ps c', z ≠ p.1) → stored.contains z = false → m' z = m₀ z) (hp : P c') (hm : μ c' < μ c) : KswEnd h₀ L s Led ps Facts stored m₀ P μ c { s with heap := h', toks := tk } := by
  subst e1
  refine ksw_end c' F N hn hf ?_ hr hp hm
  rw [hps]
  exact List.forall_mem_cons.mpr ⟨h1, List.forall_mem_nil _⟩
end
end Mine
end

-- WTk
section
open PySem PySem.W PyProof.Rows PySem.Calls PySem.StrLaws
set_option linter.unusedVariables false
set_option maxRecDepth 100000
set_option maxHeartbeats 1000000
namespace Mine
noncomputable def skipTo (a : Nat) : List Nat → Option (List Nat)
  | [] => none
  | o :: t => if o = a then some t else skipTo a t
/-- what _law_takes says: the asked octets stand in the way, one behind the other -/
noncomputable def takesB : List Nat → List Nat → Bool
  | [], _ => true
  | a :: r, os => match skipTo a os with
    | none => false
    | some t => takesB r t
theorem skip_spec (a : Nat) : ∀ l : List Nat, (skipTo a l = none ∧ ∀ i : Nat, l[i]? ≠ some a) ∨ ∃ i : Nat, l[i]? = some a ∧ (∀ k : Nat, k < i → l[k]? ≠ some a) ∧ skipTo a l = some (l.drop (i + 1))
  | [] => .inl ⟨rfl, fun i => by simp⟩
  | o :: t => by
    by_cases h : o = a
    · subst h
      exact .inr ⟨0, rfl, fun k hk => absurd hk (Nat.not_lt_zero _), by simp [skipTo]⟩
    · have e : skipTo a (o :: t) = skipTo a t := by simp [skipTo, h]
      rw [e]
      rcases skip_spec a t with ⟨h1, h2⟩ | ⟨i, h1, h2, h3⟩
      · refine .inl ⟨h1, fun i => ?_⟩
        cases i with
        | zero => simpa using h
        | succ i => simpa using h2 i
      · refine .inr ⟨i + 1, by simpa using h1, fun k hk => ?_, by simpa using h3⟩
        cases k with
        | zero => simpa using h
        | succ k => simpa using h2 k (by omega)
theorem hx_inj : ∀ a < 16, ∀ b < 16, hx a = hx b → a = b := by decide +kernel
theorem nm_inj {a b : Nat} (ha : a < 256) (hb : b < 256) (h : nm a = nm b) : a = b := by
  unfold nm at h
  simp only [List.cons.injEq, and_true, true_and] at h
  have h1 := hx_inj _ (by omega) _ (by omega) h.1
  have h2 := hx_inj _ (by omega) _ (by omega) h.2
  omega
theorem way_at {os : List Nat} (ho : ∀ o ∈ os, o < 256) {a p : Nat} (ha : a < 256) : At (tS (wq os)) (tS (nm a)) (tS (wq os)).length p ↔ ∃ k, p = 4 * k + 1 ∧ os[k]? = some a := by
  constructor
  · intro h
    have h1 := at_head (x := wq os) (y' := [hx (a / 16), hx (a % 16)]) (c := 61) h
    have hp : p < (wq os).length := (List.getElem?_eq_some_iff.mp h1).1
    rw [wq_len] at hp
    have hk : p / 4 < os.length := by omega
    have e : os[p / 4]? = some os[p / 4] := List.getElem?_eq_getElem hk
    have hb := ho _ (List.getElem_mem hk)
    have h2 := wq_at e (p % 4) (by omega)
    rw [show 4 * (p / 4) + p % 4 = p by omega, h1] at h2
    have hx1 := hx_ne (a := os[p / 4] / 16) (by omega)
    have hx2 := hx_ne (a := os[p / 4] % 16) (by omega)
    have h4 : p % 4 = 1 := by
      have : p % 4 = 0 ∨ p % 4 = 1 ∨ p % 4 = 2 ∨ p % 4 = 3 := by omega
      rcases this with q | q | q | q
      · rw [q] at h2; simp at h2
      · exact q
      · rw [q] at h2; simp at h2; exact absurd h2.symm hx1.1
      · rw [q] at h2; simp at h2; exact absurd h2.symm hx2.1
    refine ⟨p / 4, by omega, ?_⟩
    have h5 := (at_take h).2
    rw [show p = 4 * (p / 4) + 1 by omega] at h5
    have h6 : ((wq os).drop (4 * (p / 4) + 1)).take (nm a).length = nm os[p / 4] := wq_sub e
    rw [h6] at h5
    rw [e, nm_inj hb ha h5]
  · rintro ⟨k, rfl, h⟩
    exact at_of (by simp [nm]) (wq_sub h)
theorem find_way {os : List Nat} (ho : ∀ o ∈ os, o < 256) {a : Nat} (ha : a < 256) (j : Nat) :
    (skipTo a (os.drop j) = none ∧ Txt.find3 (wS os) (tS (nm a)) ((4 * j : Nat) : Int) = -1) ∨ ∃ k, j ≤ k ∧ k < os.length ∧ skipTo a (os.drop j) = some (os.drop (k + 1)) ∧ Txt.find3 (wS os) (tS (nm a)) ((4 * j : Nat) : Int) = ((4 * k + 1 : Nat) : Int) := by
  rcases skip_spec a (os.drop j) with ⟨h1, h2⟩ | ⟨i, h1, h2, h3⟩
  · refine .inl ⟨h1, find3_none fun p hp hA => ?_⟩
    obtain ⟨k, rfl, hk⟩ := (way_at ho ha).mp hA
    have := h2 (k - j)
    rw [List.getElem?_drop, show j + (k - j) = k by omega] at this
    exact this hk
  · rw [List.getElem?_drop] at h1
    refine .inr ⟨j + i, by omega, (List.getElem?_eq_some_iff.mp h1).1, by rw [h3, List.drop_drop]; rfl, find3_at (by omega) ((way_at ho ha).mpr ⟨_, rfl, h1⟩) fun p hp hq hA => ?_⟩
    obtain ⟨k, rfl, hk⟩ := (way_at ho ha).mp hA
    have := h2 (k - j) (by omega)
    rw [List.getElem?_drop, show j + (k - j) = k by omega] at this
    exact this hk
/-- the names of the asked octets -/
noncomputable def nms (as : List Nat) : List (List Nat) := as.map nm
theorem nms_len {as : List Nat} : ∀ n ∈ nms as, n.length = 3 := by
  intro n hn
  obtain ⟨a, _, rfl⟩ := List.mem_map.mp hn
  rfl
theorem nms_plain {as : List Nat} (h : ∀ a ∈ as, a < 256) : ∀ n ∈ nms as, ∀ c ∈ n, plainC c = true := by
  intro n hn
  obtain ⟨a, ha, rfl⟩ := List.mem_map.mp hn
  exact nm_plain (h a ha)
noncomputable def seps : List Nat := [40, 63, 62, 46, 42, 63]
noncomputable def prts (as : List Nat) : List (List Nat) := [] :: as.map fun a => nm a ++ [41]
theorem jn_prts : ∀ as : List Nat, jn seps (prts as) = (nms as).flatMap grp
  | [] => rfl
  | [a] => by simp [prts, jn, nms, grp, seps]
  | a :: b :: r => by
    have ih := jn_prts (b :: r)
    have e : jn seps (prts (a :: b :: r)) = [] ++ seps ++ ((nm a ++ [41]) ++ seps ++ jn seps ((b :: r).map fun a => nm a ++ [41])) := rfl
    have e2 : jn seps (prts (b :: r)) = [] ++ seps ++ jn seps ((b :: r).map fun a => nm a ++ [41]) := rfl
    rw [e]
    rw [e2] at ih
    show _ = grp (nm a) ++ (nms (b :: r)).flatMap grp
    rw [← ih]
    unfold grp seps
    simp
theorem split_text {as : List Nat} (h : ∀ a ∈ as, a < 256) : Txt.split (tS ((nms as).flatMap grp)) (Str.ofString "(?>.*?") = (prts as).map tS := by
  rw [← jn_prts, show Str.ofString "(?>.*?" = tS seps by decide +kernel]
  refine split_jn 40 [63, 62, 46, 42, 63] (prts as) (by simp [prts]) (fun p hp hm => ?_) (by decide +kernel)
  rcases List.mem_cons.mp hp with rfl | hp
  · simp at hm
  · obtain ⟨a, ha, rfl⟩ := List.mem_map.mp hp
    rcases List.mem_append.mp hm with hm | hm
    · exact (plain_fact (nm_plain (h a ha) 40 hm)).2.2.2.2.1 rfl
    · simp at hm
theorem slice_text {ns : List (List Nat)} (h3 : ∀ n ∈ ns, n.length = 3) {j : Int} (hj : j = ((textOf ns).length : Int) - 5) : Txt.slice (tS (textOf ns)) (some 4) (some j) = tS (ns.flatMap grp) := by
  have hl : (textOf ns).length = 4 + (ns.flatMap grp).length + 5 := by unfold textOf; rw [List.length_append, List.length_append]; rfl
  subst hj
  have := StrLaws.sliceText_plain (x := tS (textOf ns)) (i := 4) (j := ((textOf ns).length : Int) - 5) ⟨by omega, by omega, by simp; omega⟩
  refine this.trans ?_
  rw [show (((textOf ns).length : Int) - 5 - 4).toNat = (ns.flatMap grp).length by omega]
  show tS (((textOf ns).drop 4).take _) = _
  unfold textOf
  rw [List.append_assoc]
  show tS (((ns.flatMap grp) ++ _).take _) = _
  rw [List.take_left]
theorem whole_text (as : List Nat) : Str.ofString "(?s:" ++ tS (jn seps (prts as)) ++ Str.ofString ".*)\\Z" = tS (textOf (nms as)) := by
  rw [jn_prts, show Str.ofString "(?s:" = tS [40, 63, 115, 58] by decide +kernel, show Str.ofString ".*)\\Z" = tS [46, 42, 41, 92, 90] by decide +kernel, tS_app, tS_app]
  rfl
theorem prts_short (as : List Nat) : ∀ p ∈ prts as, p.length ≤ 100 := by
  intro p hp
  rcases List.mem_cons.mp hp with rfl | hp
  · simp
  · obtain ⟨a, ha, rfl⟩ := List.mem_map.mp hp
    simp [nm]
theorem grp_item (a : Nat) : (nm a ++ [41])[3]? = some 41 := rfl
theorem grp_name {a : Nat} : Txt.slice (tS (nm a ++ [41])) none (some 3) = tS (nm a) := by
  refine (StrLaws.sliceText_to (x := tS (nm a ++ [41])) (j := 3) ⟨by omega, by simp [nm]⟩).trans ?_
  rfl
theorem takes_step {as os : List Nat} {i j : Nat} {a : Nat} (h : as[i]? = some a) : takesB (as.drop i) (os.drop j) = match skipTo a (os.drop j) with | none => false | some t => takesB (as.drop (i + 1)) t := by
  obtain ⟨hi, e⟩ := List.getElem?_eq_some_iff.mp h
  rw [← List.getElem_cons_drop hi, e]
  rfl
end Mine
namespace Mine
theorem strs_at {l : List (Str × Tok)} {as : List Nat} {f : Nat → Str} (h : l.map (·.1) = as.map f) {i : Nat} {v : Value} (hv : (strValues l)[i]? = some v) : ∃ a t, as[i]? = some a ∧ v = .str (f a) t := by
  unfold strValues at hv
  rw [List.getElem?_map] at hv
  obtain ⟨p, hp, rfl⟩ := Option.map_eq_some_iff.mp hv
  have e : (l.map (·.1))[i]? = some p.1 := by rw [List.getElem?_map, hp]; rfl
  rw [h, List.getElem?_map] at e
  obtain ⟨a, ha, hf⟩ := Option.map_eq_some_iff.mp e
  exact ⟨a, p.2, ha, by rw [hf]⟩
theorem takes_no {as os : List Nat} {i j : Nat} {a : Nat} (h : as[i]? = some a) (e : takesB as os = takesB (as.drop i) (os.drop j)) (h1 : skipTo a (os.drop j) = none) : takesB as os = false := by
  rw [e, takes_step h, h1]
theorem takes_yes {as os : List Nat} {i j k : Nat} {a : Nat} (h : as[i]? = some a) (e : takesB as os = takesB (as.drop i) (os.drop j)) (h1 : skipTo a (os.drop j) = some (os.drop (k + 1))) : takesB as os = takesB (as.drop (i + 1)) (os.drop (k + 1)) := by
  rw [e, takes_step h, h1]
theorem takes_end {as os : List Nat} {n j : Nat} (hn : n = as.length) (e : takesB as os = takesB (as.drop n) (os.drop j)) : takesB as os = true := by
  rw [e, hn, List.drop_length]; rfl
end Mine
namespace Mine
theorem grp_short (a : Nat) : (nm a ++ [41]).length ≤ 1000 := by simp [nm]
end Mine
end

-- WIs
section
open PySem PySem.W PyProof.Rows PySem.Calls
set_option linter.unusedVariables false
set_option maxRecDepth 100000
set_option maxHeartbeats 1000000
namespace Mine
section
variable {prog : Program} {w : World} {A : Around} {E : Value → Shared → Prop} {s : Shared} {Q : Value → Shared → Prop}
theorem kind_nested : builtinKind "issubclass.nested" = none := by decide +kernel
theorem plain_nested : plainId "issubclass.nested" = true := by decide +kernel
theorem args_nested (a b c : Value) : argsOk "issubclass.nested" ⟨[a, b, c], []⟩ := by unfold argsOk; kernel_rfl
theorem ty_str : typeOf (.type "str") = pure (.type "type") := by kernel_rfl
theorem sub_nested (tk : Tok) : Meets (Builtin.«issubclass.nested» ⟨[.type "str", .type "str", .int 1 tk], []⟩) (fun _ R s => R (.ok (.ret (.bool true))) s) := by
  intro prog w A R s hs
  have hm := ty_str
  have hself : isSubtype (.type "str") (.type "str") = pure true := by rw [isSubtype_type]; kernel_rfl
  unfold Builtin.«issubclass.nested»
  repeat (any_goals (first | assumption | (rw [hself]) | wp_step))
theorem issub_str {D : Addr} {dd : Option Addr} {n : Nat} {sl : Array (Option Value)} (hD : s.heap.get? D = some ⟨.type "tuple", dd, .seq #[.type "str", .type "bytes"] n, sl⟩) (h : ∀ tk, Q (.bool true) { s with toks := tk }) :
    wpAny (model prog w) A (call (.builtin "issubclass") [.type "str", .ref D]) Q E s := by
  refine call_issubclass (S := fun _ R s => (s.heap.get? D = some ⟨.type "tuple", dd, .seq #[.type "str", .type "bytes"] n, sl⟩) ∧ ∀ tk, R (.ok (.ret (.bool true))) { s with toks := tk }) (fun prog w A R s hs => issubclass_outer ?_) ⟨hD, h⟩
  obtain ⟨h, g, d, tt, os⟩ := s
  obtain ⟨htp, hq⟩ := hs
  have hT2 : (⟨h, g, d, tt, os⟩ : Shared).TypeIs (.ref D) "tuple" := ⟨_, htp, rfl⟩
  have f1 := F.isi_sub_tuple
  unfold Builtin.«issubclass.nested»
  repeat (first | assumption | ((fail_if_success (refine wpAny_arrayLoop ?_)); wp_step))
  refine wpAny_arrayLoop ?_
  simp only [Option.getD_some]
  rw [List.forIn_cons]
  refine wpAny_bind (wpAny_bind (call_function_meets kind_nested plain_nested F.entry_issubclass_nested (args_nested _ _ _) (sub_nested 0) ?_))
  show wpAny _ _ (truthy (.bool true) >>= _) _ _ _
  refine wpAny_bind (m := truthy (.bool true)) (wpAny_pure ?_)
  repeat (any_goals (first | assumption | wp_step))
  exact hq tt
end
end Mine
end

-- W2
section
open PySem PySem.W PyProof.Rows PySem.Calls
set_option linter.unusedVariables false
set_option maxRecDepth 100000
set_option maxHeartbeats 40000000
namespace Mine
theorem fillK_W2 : (fun (_ : Params → Frag) (_ : OpenLaw) => True) hd.heap_39 PySem.Challenge.rw_rt0089_01 := by k_fill; trivial
section
variable {w : World} {p : Program} {loose : List Str} {mean : ExcName → Option Value} {mg mb : Str → Option Value} {d dp un : Nat} {gd : Option (List Code)} {cn : Str} {cs : Scope} {a : Addr} {ccd : Value} {cl : List (Str × Addr)} {outer : List Env} {A₀ : Around} {base h₀ : Heap} {L : Addr} {m : Str → Option Value} {s : Shared} {Q E : Value → Shared → Prop}
theorem c_get_sep {x : Str} {t : Tok} (C : Cx (hd.heap_39 w.params) p loose mean mg mb (1) dp un cs outer A₀ base h₀ L m s.heap) (hret : ∀ t, Gives s Q (.str (Str.ofString "/") t)) : wpAny (model PySem.Challenge.pw_rt0089_01 w) (ktrTop dp un gd cn cs L a ccd cl outer) (call (.ref 206) [.str x t]) Q E s := by
  k_with_none
  k_with "call builtin:issubclass" => (k_dflt ((k_here; (refine issub_str (News.get (by k_asm) (by k_mem)) ?_); intro _)))
  refine' enter (binds := [(Str.ofString "path", .str x t)]) C ?k6 ?k7 ?k9 ?kB ?_ ?c5 ?c2 ?c3 ?c4
  (case k6 => k_is); (case k7 => k_is); (case k9 => exact BindsTo.of_eq rfl); (case c5 => decide); (case kB => exact locs rfl); (case c2 => exact rfl); (case c3 => exact rfl); (case c4 => exact rfl)
  intro g L' h₁ tk hg hg' F' N' C'
  have X' := C'.X; have T' := C'.T; have B' := C'.B
  (try dsimp only at F'); (try k_fold)
  k_steps
  (try dsimp only); (try k_unfold); (try dsimp only); (rename Fr _ _ _ _ => kF9); exact hret _ _ _ (fun b o e => kF9.keep b o (hg b o e))
theorem c_fspath {x : Str} {t : Tok} (C : Cx (hd.heap_39 w.params) p loose mean mg mb (1) dp un cs outer A₀ base h₀ L m s.heap) (hret : Gives s Q (.str x t)) : wpAny (model PySem.Challenge.pw_rt0089_01 w) (ktrTop dp un gd cn cs L a ccd cl outer) (call (.ref 192) [.str x t]) Q E s := by
  k_with_none
  k_with "call builtin:issubclass" => (k_dflt ((k_here; (refine issub_str (News.get (by k_asm) (by k_mem)) ?_); intro _)))
  refine' enter (binds := [(Str.ofString "path", .str x t)]) C ?k6 ?k7 ?k9 ?kB ?_ ?c5 ?c2 ?c3 ?c4
  (case k6 => k_is); (case k7 => k_is); (case k9 => exact BindsTo.of_eq rfl); (case c5 => decide); (case kB => exact locs rfl); (case c2 => exact rfl); (case c3 => exact rfl); (case c4 => exact rfl)
  intro g L' h₁ tk hg hg' F' N' C'
  have X' := C'.X; have T' := C'.T; have B' := C'.B
  (try dsimp only at F'); (try k_fold)
  k_steps
  (try dsimp only); (try k_unfold); (try dsimp only); (rename Fr _ _ _ _ => kF9); exact hret _ _ (fun b o e => kF9.keep b o (hg b o e))
end
end Mine
end

-- W4
section
open PySem PySem.W PyProof.Rows PySem.Calls
set_option linter.unusedVariables false
set_option maxRecDepth 100000
set_option maxHeartbeats 40000000
namespace Mine
theorem fillK_W4 : (fun (_ : Params → Frag) (_ : OpenLaw) => True) hd.heap_39 PySem.Challenge.rw_rt0089_01 := by k_fill; trivial
noncomputable def joinS (x y : Str) : Str := if Txt.endswith x (Str.ofString "/") = true then x ++ y else x ++ (Str.ofString "/" ++ y)
section
variable {w : World} {p : Program} {loose : List Str} {mean : ExcName → Option Value} {mg mb : Str → Option Value} {d dp un : Nat} {gd : Option (List Code)} {cn : Str} {cs : Scope} {a : Addr} {ccd : Value} {cl : List (Str × Addr)} {outer : List Env} {A₀ : Around} {base h₀ : Heap} {L : Addr} {m : Str → Option Value} {s : Shared} {Q E : Value → Shared → Prop}
theorem c_join {x y : Str} {t u : Tok} (hx1 : 1 ≤ x.length) (hx2 : x.length ≤ 1000) (hy : y.length ≤ 100) (hs : Txt.startswith y (Str.ofString "/") = false) (C : Cx (hd.heap_39 w.params) p loose mean mg mb (2) dp un cs outer A₀ base h₀ L m s.heap) (hret : ∀ t, Gives s Q (.str (joinS x y) t)) : wpAny (model PySem.Challenge.pw_rt0089_01 w) (ktrTop dp un gd cn cs L a ccd cl outer) (call (.ref 213) [.str x t, .str y u]) Q E s := by
  k_with_none
  k_with "call ref" => ((k_here; (with_reducible show wpAny _ _ (call (Value.ref 206) _) _ _ _); (refine c_get_sep (Cx.at (by assumption) (by k_asm) (by omega)) ?_); (intro t2 h2 tk2 st2); (have F2 := fr_stays (by k_asm) st2); (have N2 := news_stays (by k_asm) st2); (try clear st2); (try k_sweep); (try dsimp only)))
  k_with "call ref" => ((k_here; (with_reducible show wpAny _ _ (call (Value.ref 192) _) _ _ _); (refine c_fspath (Cx.at (by assumption) (by k_asm) (by omega)) ?_); (intro  h2 tk2 st2); (have F2 := fr_stays (by k_asm) st2); (have N2 := news_stays (by k_asm) st2); (try clear st2); (try k_sweep); (try dsimp only)))
  k_with "truthy str" => ((k_here; (with_reducible show wpAny _ _ (truthy (Value.str _ _)) _ _ _); (refine KXt.truthy_pos (by assumption) (by assumption) (by decide) ?_); intro _))
  refine' enterRest (rb := fun D => [(Str.ofString "a", .str x t), (Str.ofString "p", .ref D)]) (vs := [.str y u]) C ?k6 ?k7 ?kP ?kG ?kB ?_ ?c5 ?c2 ?c3 ?c4
  (case k6 => k_is); (case k7 => k_is); (case kP => exact rfl); (case kG => exact fun _ => rfl); (case c5 => decide); (case kB => exact fun _ => locs rfl); (case c2 => exact rfl); (case c3 => exact rfl); (case c4 => exact rfl)
  intro D' g L' h₁ tk hg F' N' C'
  have X' := C'.X; have T' := C'.T; have B' := C'.B
  (try dsimp only at F'); (try k_fold)
  k_steps
  · have e9 : joinS x y = x ++ y := if_pos (by assumption)
    rw [e9] at hret
    (try dsimp only); (try k_unfold); (try dsimp only); (rename Fr _ _ _ _ => kF9); exact hret _ _ _ (fun b o e => kF9.keep b o (hg b o e))
  · have e9 : joinS x y = x ++ (Str.ofString "/" ++ y) := if_neg (by rw [Bool.not_eq_true]; assumption)
    rw [e9] at hret
    (try dsimp only); (try k_unfold); (try dsimp only); (rename Fr _ _ _ _ => kF9); exact hret _ _ _ (fun b o e => kF9.keep b o (hg b o e))
end
end Mine
end

-- W5
section
open PySem PySem.W PyProof.Rows PySem.Calls
set_option linter.unusedVariables false
set_option maxRecDepth 100000
set_option maxHeartbeats 40000000
namespace Mine
theorem fillK_W5 : (fun (_ : Params → Frag) (_ : OpenLaw) => True) hd.heap_39 PySem.Challenge.rw_rt0089_01 := by k_fill; trivial
/-- an item of a list of two texts -/
theorem item2 {prog : Program} {w : World} {A : Around} {E : Value → Shared → Prop} {s : Shared} {value slice : PySem.Expr} {l : Addr} {x y : Str} {tx ty : Tok} {k : Int} {u : Tok} {Q : Value → Shared → Prop}
    (hl : s.heap.IsList l #[.str x tx, .str y ty]) (hk : k = 0 ∨ k = 1) (h : Q (.str (if k = 0 then x else y) (if k = 0 then tx else ty)) s)
    (hs : subscripted slice false (.ref l) (.int k u) = operate [.ref l, .int k u] (getItem (.ref l) (.int k u)) := by with_unfolding_all rfl) :
    wpAny (model prog w) A (subscriptTail value slice (.ref l) (.int k u)) Q E s := by
  rcases hk with rfl | rfl
  · exact tail_any hl.typeIs slot_list_getitem.lookup (wpAny_getItem_list hl (by decide) (by decide) rfl h) hs
  · exact tail_any hl.typeIs slot_list_getitem.lookup (wpAny_getItem_list hl (by decide) (by decide) rfl h) hs
noncomputable def nameS (x y : Str) (k : Int) : Str := if k = 0 then x else y
/-- the way of a row -/
noncomputable def wayS (x y : Str) (ks : List Int) : Str := ks.foldl (fun a k => joinS a (nameS x y k)) (Str.ofString "/")
theorem wayS_snoc (x y : Str) (ks : List Int) {i : Nat} {k : Int} (h : ks[i]? = some k) : wayS x y (ks.take (i + 1)) = joinS (wayS x y (ks.take i)) (nameS x y k) := by
  unfold wayS
  rw [List.take_add_one, h]
  simp
theorem joinS_len (a b : Str) : (joinS a b).length = a.length + b.length ∨ (joinS a b).length = a.length + b.length + 1 := by
  unfold joinS
  split
  · left; exact Str.length_append _ _
  · right
    rw [Str.length_append, Str.length_append]
    show a.length + (1 + b.length) = _
    omega
theorem wayS_len {x y : Str} (hx : x.length ≤ 100) (hy : y.length ≤ 100) (ks : List Int) : 1 ≤ (wayS x y ks).length ∧ (wayS x y ks).length ≤ 1 + 101 * ks.length := by
  have key : ∀ (ks : List Int) (a : Str), 1 ≤ a.length → 1 ≤ (ks.foldl (fun a k => joinS a (nameS x y k)) a).length ∧ (ks.foldl (fun a k => joinS a (nameS x y k)) a).length ≤ a.length + 101 * ks.length := by
    intro ks
    induction ks with
    | nil => intro a h; exact ⟨h, by simp⟩
    | cons k r ih =>
      intro a h
      have hl := joinS_len a (nameS x y k)
      have hn : (nameS x y k).length ≤ 100 := by unfold nameS; split <;> assumption
      have := ih (joinS a (nameS x y k)) (by omega)
      simp only [List.foldl_cons, List.length_cons]
      omega
  have := key ks (Str.ofString "/") (by decide)
  exact ⟨this.1, this.2⟩
/-- a name that was not there is set first: the map is the same -/
theorem map_in {x y : Str} {u v : Option Value} {m : Str → Option Value} (hxy : x ≠ y) (hu : m x = u) : (fun z => if z = x then u else if z = y then v else m z) = fun z => if z = y then v else m z := by
  funext z
  by_cases h1 : z = x
  · subst h1; simp [hxy, hu]
  · simp [h1]
theorem map_swap {x y : Str} {u v u' v' : Option Value} {m : Str → Option Value} (hxy : x ≠ y) : (fun z => if z = y then v else if z = x then u else if z = x then u' else if z = y then v' else m z) = fun z => if z = x then u else if z = y then v else m z := by
  funext z
  by_cases h1 : z = x
  · subst h1; simp [hxy]
  · by_cases h2 : z = y
    · subst h2; simp [h1]
    · simp [h1, h2]
section
variable {w : World} {p : Program} {loose : List Str} {mean : ExcName → Option Value} {mg mb : Str → Option Value} {d dp un : Nat} {gd : Option (List Code)} {cn : Str} {cs : Scope} {a : Addr} {ccd : Value} {cl : List (Str × Addr)} {outer : List Env} {A₀ : Around} {base h₀ : Heap} {L : Addr} {m : Str → Option Value} {s : Shared} {Q E : Value → Shared → Prop}
theorem c_law_way {x y : Str} {tx ty : Tok} {nA rA : Addr} {vs : List Value} {ks : List Int} (hx : x.length ≤ 100) (hy : y.length ≤ 100) (hxs : Txt.startswith x (Str.ofString "/") = false) (hys : Txt.startswith y (Str.ofString "/") = false) (hlen : ks.length ≤ 9)
    (C : Cx (hd.heap_39 w.params) p loose mean mg mb (3) dp un cs outer A₀ base h₀ L m s.heap) (hn : s.heap.IsList nA #[.str x tx, .str y ty]) (hr : s.heap.IsList rA vs.toArray) (hi : IntsAre vs ks) (hks : ∀ k ∈ ks, k = 0 ∨ k = 1) (hret : ∀ t, Gives s Q (.str (wayS x y ks) t)) : wpAny (model PySem.Challenge.pw_rt0089_01 w) (ktrTop dp un gd cn cs L a ccd cl outer) (call (.ref 225) [.ref nA, .ref rA]) Q E s := by
  k_with_none
  k_with "call ref" => (k_dflt ((k_here; (with_reducible show wpAny _ _ (call (Value.ref 213) _) _ _ _); (refine c_join (by assumption) (by assumption) (by assumption) (by assumption) (Cx.at (by assumption) (by k_asm) (by omega)) ?_); (intro t2 h2 tk2 st2); (have F2 := fr_stays (by k_asm) st2); (have N2 := news_stays (by k_asm) st2); (try clear st2); (try k_sweep); (try dsimp only))))
  k_with "subscriptTail" => ((k_here; (with_reducible show wpAny _ _ (subscriptTail _ _ (Value.ref _) (Value.int _ _)) _ _ _); (refine item2 (Heap.IsList.at (by assumption) (by intro o e; exact Fr.keep (by k_asm) _ o e)) (by assumption) ?_)))
  refine' enter (binds := [(Str.ofString "names", .ref nA), (Str.ofString "row", .ref rA)]) C ?k6 ?k7 ?k9 ?kB ?_ ?c5 ?c2 ?c3 ?c4
  (case k6 => k_is); (case k7 => k_is); (case k9 => exact BindsTo.of_eq rfl); (case c5 => decide); (case kB => exact locs rfl); (case c2 => exact rfl); (case c3 => exact rfl); (case c4 => exact rfl)
  intro g L' h₁ tk hg hg' F' N' C'
  have X' := C'.X; have T' := C'.T; have B' := C'.B
  (try dsimp only at F'); (try k_fold)
  have hn' := stays_list hg hn
  have hr' := stays_list hg hr
  k_with "pyIter ref" => (
    (rename Fr _ _ _ _ => lF8)
    (rename News _ _ _ _ => lN8)
    with_unfolding_all refine' iter_invN (fun i m₁ nw => nw = [] ∧ ∃ u t, m₁ = fun z => if z = Str.ofString "kind" then u else if z = Str.ofString "way" then some (.str (wayS x y (ks.take i)) t) else List.lookup z [(Str.ofString "names", Value.ref nA), (Str.ofString "row", .ref rA)].reverse) (by rfl) hr' (by assumption) lF8 lN8 ?m0 (fun i n t m₁ nw h9 tk9 own hn9 hmap hoff hJ F9 N9 => ?turn) (fun m₁ nw h9 tk9 hJ F9 N9 => ?done)
    (case m0 => exact ⟨rfl, none, _, (map_in (x := Str.ofString "kind") (y := Str.ofString "way") (u := none) (by decide) rfl).symm⟩)
    (case' turn => (
      clear lF8 lN8
      obtain ⟨rfl, u9, t9, rfl⟩ := hJ
      (simp only [List.nil_append] at N9); (try dsimp only at F9)
      have hl9 := wayS_len hx hy (ks.take i)
      have hl8 : (ks.take i).length ≤ ks.length := by rw [List.length_take]; exact Nat.min_le_right _ _
      have e1 : 1 ≤ (wayS x y (ks.take i)).length := hl9.1
      have e2 : (wayS x y (ks.take i)).length ≤ 1000 := by omega
      have e3 : (if n = 0 then x else y).length ≤ 100 := by split <;> assumption
      have e4 : Txt.startswith (if n = 0 then x else y) (Str.ofString "/") = false := by split <;> assumption
      have e5 := hks n (List.mem_of_getElem? hn9)
      try k_fold))
    (case' done => (
      clear lF8 lN8
      obtain ⟨rfl, u9, t9, rfl⟩ := hJ
      (rw [List.take_length] at F9)
      (try dsimp only at F9)
      try k_fold)))
  k_steps
  · (try dsimp only); (try k_unfold); (try dsimp only); (rename Fr _ _ _ _ => kF9); exact hret _ _ _ (fun b o e => kF9.keep b o (hg b o e))
  · (rename Fr _ _ _ _ => lF8); (rename News _ _ _ _ => lN8)
    rw [wayS_snoc x y ks hn9]
    exact ⟨_, _, _, _, [], rfl, lF8, lN8, (fun _ h9 => nomatch h9), (fun p hp => hp), rfl, rfl, some (.int n t), _, map_swap (by decide)⟩
end
end Mine
end

-- W6
section
open PySem PySem.W PyProof.Rows PySem.Calls
set_option linter.unusedVariables false
set_option maxRecDepth 100000
set_option maxHeartbeats 40000000
namespace Mine
theorem fillK_W6 : (fun (_ : Params → Frag) (_ : OpenLaw) => True) hd.heap_39 PySem.Challenge.rw_rt0089_01 := by k_fill; trivial
/-- the places of a kind in a row, among the first i -/
noncomputable def plc (ks : List Int) (kind : Int) (i : Nat) : List Int := ((List.range i).filter fun j => decide (ks[j]? = some kind)).map Int.ofNat
theorem plc_succ (ks : List Int) (kind : Int) {i : Nat} (hi : i < ks.length) : plc ks kind (i + 1) = plc ks kind i ++ if ks.getD ((0 : Int) + (i : Int)).toNat 0 = kind then [(i : Int)] else [] := by
  unfold plc
  rw [List.range_succ, List.filter_append, List.map_append]
  congr 1
  have e : ks.getD ((0 : Int) + (i : Int)).toNat 0 = ks[i] := by
    rw [show ((0 : Int) + (i : Int)).toNat = i by omega, List.getD_eq_getElem?_getD, List.getElem?_eq_getElem hi]; rfl
  rw [e]
  by_cases h : ks[i] = kind
  · simp [h, List.getElem?_eq_getElem hi]
  · simp [h, List.getElem?_eq_getElem hi]
theorem plc_yes {ks : List Int} {kind : Int} {i : Nat} {ys : List Value} {t : Tok} (hi : i < ks.length) (h : IntsAre ys (plc ks kind i)) (e : ks.getD ((0 : Int) + (i : Int)).toNat 0 = kind) : IntsAre (ys ++ [.int ((0 : Int) + (i : Int)) t]) (plc ks kind (i + 1)) := by
  rw [plc_succ ks kind hi, if_pos e]
  rw [show ((0 : Int) + (i : Int)) = (i : Int) by omega]
  exact IntsAre.append h (IntsAre.cons _ _ IntsAre.nil)
theorem plc_no {ks : List Int} {kind : Int} {i : Nat} {ys : List Value} (hi : i < ks.length) (h : IntsAre ys (plc ks kind i)) (e : ¬ ks.getD ((0 : Int) + (i : Int)).toNat 0 = kind) : IntsAre ys (plc ks kind (i + 1)) := by
  rw [plc_succ ks kind hi, if_neg e, List.append_nil]
  exact h
theorem plc_nn (ks : List Int) (kind : Int) (i j : Nat) : 0 ≤ (plc ks kind i).getD j 0 := by
  rw [List.getD_eq_getElem?_getD]
  rcases h : (plc ks kind i)[j]? with _ | x
  · simp
  · have := List.mem_of_getElem? h
    unfold plc at this
    obtain ⟨k, _, rfl⟩ := List.mem_map.mp this
    simp
/-- what _law_met says of a row -/
noncomputable def metB (ks : List Int) (kind some more : Int) : Bool :=
  decide (some ≤ (plc ks kind ks.length).length) && decide (more ≤ (List.count (1 - kind) (ks.drop ((plc ks kind ks.length).getD (some - 1).toNat 0 + 1).toNat) : Nat))
theorem met_1 {ks : List Int} {kind some more : Int} (h : some ≤ (plc ks kind ks.length).length) : metB ks kind some more = decide (more ≤ (List.count (1 - kind) (ks.drop ((plc ks kind ks.length).getD (some - 1).toNat 0 + 1).toNat) : Nat)) := by
  unfold metB; rw [decide_eq_true h, Bool.true_and]
theorem met_2 {ks : List Int} {kind some more : Int} (h : ¬ some ≤ (plc ks kind ks.length).length) : metB ks kind some more = decide (some ≤ (plc ks kind ks.length).length) := by
  unfold metB; rw [decide_eq_false h, Bool.false_and]
theorem plc_zero (ks : List Int) (kind : Int) : plc ks kind 0 = [] := rfl
theorem plc_len (ks : List Int) (kind : Int) : (plc ks kind ks.length).length ≤ ks.length := by
  unfold plc; rw [List.length_map]; exact Nat.le_trans (List.length_filter_le _ _) (by simp)
section
variable {w : World} {p : Program} {loose : List Str} {mean : ExcName → Option Value} {mg mb : Str → Option Value} {d dp un : Nat} {gd : Option (List Code)} {cn : Str} {cs : Scope} {a : Addr} {ccd : Value} {cl : List (Str × Addr)} {outer : List Env} {A₀ : Around} {base h₀ : Heap} {L : Addr} {m : Str → Option Value} {s : Shared} {Q E : Value → Shared → Prop}
theorem c_law_met {rA : Addr} {vs : List Value} {ks : List Int} {kind some_ more : Int} {t1 t2 t3 : Tok} (hlen : ks.length ≤ 9) (h1 : 1 ≤ some_) (h2 : some_ ≤ 9)
    (C : Cx (hd.heap_39 w.params) p loose mean mg mb (1) dp un cs outer A₀ base h₀ L m s.heap) (hr : s.heap.IsList rA vs.toArray) (hi : IntsAre vs ks) (hret : Gives s Q (.bool (metB ks kind some_ more))) : wpAny (model PySem.Challenge.pw_rt0089_01 w) (ktrTop dp un gd cn cs L a ccd cl outer) (call (.ref 237) [.ref rA, .int kind t1, .int some_ t2, .int more t3]) Q E s := by
  k_with_none
  k_with "subscriptTail Name Slice ref ref" => ((k_here; (with_reducible show wpAny _ _ (subscriptTail _ (PySem.Expr.Slice (some _) none none _) (Value.ref _) (Value.ref _)) _ _ _); k_dflt (refine' kmk_slice_ints ?FW6 ?NW6 ?lW6 ?pW6 ?qW6 ?iW6 ?mW6 ?cW6 ?_ ?sW6 ?tW6 ?zW6; (case FW6 => k_asm); (case NW6 => k_asm); (case lW6 => kmk_list); (case pW6 => exact IsPart.int _ _); (case qW6 => exact IsPart.none); (case iW6 => with_reducible assumption); (case mW6 => exact kmk_from (by with_reducible assumption) (by omega)); (case cW6 => exact List.length_drop ..); (case sW6 => with_unfolding_all rfl); (case tW6 => kmk_pure); (case zW6 => kmk_size)); intro D' ws' h' F' N' l1 hI' hC' hL'; (try k_lt l1); (try k_sweep)))
  refine' enterC (binds := [(Str.ofString "row", .ref rA), (Str.ofString "kind", .int kind t1), (Str.ofString "some", .int some_ t2), (Str.ofString "more", .int more t3)]) (mL := (fun z => if z = Str.ofString "more" then some (.int more t3) else if z = Str.ofString "some" then some (.int some_ t2) else none)) (mC := (fun z => if z = Str.ofString "kind" then some (.int kind t1) else if z = Str.ofString "row" then some (.ref rA) else none)) C ?k6 ?k7 ?k9 ?kB ?kL ?kM ?kD ?_ ?c2 ?c3 ?c4
  (case k6 => k_is); (case k7 => k_is); (case k9 => exact BindsTo.of_eq rfl); (case kB => exact rfl); (case kL => exact rfl); (case kM => exact rfl); (case kD => decide +kernel); (case c2 => exact rfl); (case c3 => exact rfl); (case c4 => exact rfl)
  intro g L' h₁ tk cells' hg hg' F' N' Y' C'
  have X' := C'.X; have T' := C'.T; have B' := C'.B
  k_cells Y'; (try simp only [List.cons_append, List.nil_append] at N')
  (try dsimp only at F'); (try k_fold)
  have hr' := stays_list hg hr
  k_with "exec Assign cons ListComp" => (k_dflt (refine LCt.Assign_ListComp_T (F₀ := by k_asm) (by rfl) (by with_unfolding_all rfl) (by with_unfolding_all rfl) (by decide) (by rfl) (by decide) (by rfl) (by rfl) (by rfl) ?_); k_dflt lct_toSrc)
  k_with "CompSrcT" => (
    refine' LCt.CompSrcT.range (n := ks.length) (by rfl) (by k_asm) (by k_asm) (by assumption) ?sm ?rs ?sz ?main
    (case' main => (
      intro g'
      refine' compT_ind (Rel := fun i ys nw => IntsAre ys (plc ks kind i) ∧ nw = _) ⟨plc_zero ks kind ▸ IntsAre.nil, rfl⟩ ?step ?fin
      (case' step => (intro i9 ys9 nw9 hi9 hR9 v' I' oI' C' oC' D' m' h' tk' E' hv' hC' hx' F' N' off' ne'; obtain ⟨hys9, rfl⟩ := hR9; obtain ⟨t9', hv9'⟩ := hv'; subst hv9'))
      (case' fin => (intro ys9 nw9 hR9; (try unfold LCg.FinA); intro D9 h9 tk9 F9 N9 o9; obtain ⟨hys9, rfl⟩ := hR9; have hP := plc_len ks kind; have hN := plc_nn ks kind ks.length (some_ - 1).toNat))))
    (case sm => exact small_one (by omega) (by omega) (by omega) (by omega))
    (case rs => rw [rangeSize_nat]; omega)
    (case sz => size_fits))
  k_with "CompEnd" => (
    ((rename Fr _ _ _ _ => eF); (rename News _ _ _ _ => eN))
    first
    | exact LCg.CompEnd.intro eF eN _ (fun p hp => hp) (by with_reducible assumption) trivial (And.intro (plc_no (by with_reducible assumption) (by with_reducible assumption) (by with_reducible assumption)) rfl)
    | exact LCg.CompEnd.intro eF eN _ (fun p hp => hp) (by with_reducible assumption) trivial (And.intro (plc_yes (by with_reducible assumption) (by with_reducible assumption) (by with_reducible assumption)) rfl))
  k_steps
  · rw [met_1 (by with_reducible assumption)] at hret
    (try dsimp only); (try k_unfold); (try dsimp only); (rename Fr _ _ _ _ => kF9); exact hret _ _ (fun b o e => kF9.keep b o (hg b o e))
  · rw [met_2 (by with_reducible assumption)] at hret
    (try dsimp only); (try k_unfold); (try dsimp only); (rename Fr _ _ _ _ => kF9); exact hret _ _ (fun b o e => kF9.keep b o (hg b o e))
end
end Mine
end

-- WLaw
section
open PySem PySem.W PyProof.Rows PySem.Calls
set_option linter.unusedVariables false
set_option maxRecDepth 100000
set_option maxHeartbeats 1000000
namespace Mine
/-- all rows of n kinds -/
noncomputable def bitsZ : Nat → List (List Int)
  | 0 => [[]]
  | n + 1 => (bitsZ n).flatMap fun l => [0 :: l, 1 :: l]
theorem mem_bitsZ : ∀ (l : List Int), (∀ b ∈ l, b = 0 ∨ b = 1) → l ∈ bitsZ l.length
  | [], _ => List.mem_singleton.mpr rfl
  | b :: l, h => by
    have ih := mem_bitsZ l fun x hx => h x (.tail _ hx)
    refine List.mem_flatMap.mpr ⟨l, ih, ?_⟩
    rcases h b (.head _) with rfl | rfl
    · exact .head _
    · exact .tail _ (.head _)
theorem skip_map {f : Nat → Nat} {a : Nat} : ∀ {os : List Nat}, (∀ o ∈ os, f o = f a → o = a) → skipTo (f a) (os.map f) = (skipTo a os).map (List.map f)
  | [], _ => rfl
  | o :: r, h => by
    by_cases e : o = a
    · subst e; simp [skipTo]
    · have e' : f o ≠ f a := fun q => e (h o (.head _) q)
      have ih := skip_map (f := f) (a := a) (os := r) fun x hx => h x (.tail _ hx)
      simp [skipTo, e, e', ih]
theorem skip_mem {a : Nat} : ∀ {os t : List Nat}, skipTo a os = some t → ∀ o ∈ t, o ∈ os
  | [], t, h => by cases h
  | x :: r, t, h => by
    by_cases e : x = a
    · rw [skipTo, if_pos e] at h; cases h
      exact fun o ho => .tail _ ho
    · rw [skipTo, if_neg e] at h
      exact fun o ho => .tail _ (skip_mem h o ho)
theorem takes_map {f : Nat → Nat} : ∀ {as os : List Nat}, (∀ a ∈ as, ∀ o ∈ os, f o = f a → o = a) → takesB (as.map f) (os.map f) = takesB as os
  | [], _, _ => rfl
  | a :: r, os, h => by
    show (match skipTo (f a) (os.map f) with | none => false | some t => takesB (r.map f) t) = match skipTo a os with | none => false | some t => takesB r t
    rw [skip_map fun o ho => h a (.head _) o ho]
    rcases e : skipTo a os with _ | t
    · rfl
    · exact takes_map fun b hb o ho => h b (.tail _ hb) o (skip_mem e o ho)
/-- the octet of a kind -/
noncomputable def ocOf (a b : Nat) (k : Nat) : Nat := if k = 0 then a else b
/-- the kinds that a question names -/
noncomputable def askN (kind some_ more : Nat) : List Nat := List.replicate some_ kind ++ List.replicate more (1 - kind)
theorem met_table : ∀ n ∈ [5, 6, 7], ∀ ks ∈ bitsZ n, ∀ kind ∈ [0, 1], ∀ some_ ∈ [1, 2, 3, 4], ∀ more ∈ [0, 1, 2, 3], takesB (askN kind some_ more) (ks.map Int.toNat) = metB ks (kind : Nat) (some_ : Nat) (more : Nat) := by decide +kernel
/-- the row's kinds as octets -/
noncomputable def osOf (a b : Nat) (ks : List Int) : List Nat := (ks.map Int.toNat).map (ocOf a b)
noncomputable def asOf (a b kind some_ more : Nat) : List Nat := (askN kind some_ more).map (ocOf a b)
theorem ask_kind {kind some_ more : Nat} (hk : kind = 0 ∨ kind = 1) : ∀ x ∈ askN kind some_ more, x = 0 ∨ x = 1 := by
  intro x hx
  unfold askN at hx
  rcases List.mem_append.mp hx with h | h
  · rw [(List.mem_replicate.mp h).2]; exact hk
  · have := (List.mem_replicate.mp h).2; omega
theorem row_kind {ks : List Int} (h : ∀ k ∈ ks, k = 0 ∨ k = 1) : ∀ x ∈ ks.map Int.toNat, x = 0 ∨ x = 1 := by
  intro x hx
  obtain ⟨k, hk, rfl⟩ := List.mem_map.mp hx
  rcases h k hk with rfl | rfl
  · exact .inl rfl
  · exact .inr rfl
theorem oc_inj {a b x y : Nat} (hab : a ≠ b) (hx : x = 0 ∨ x = 1) (hy : y = 0 ∨ y = 1) (h : ocOf a b x = ocOf a b y) : x = y := by
  rcases hx with rfl | rfl <;> rcases hy with rfl | rfl <;> simp [ocOf] at h ⊢
  · exact hab h
  · exact hab h.symm
theorem takes_met {a b : Nat} (hab : a ≠ b) {ks : List Int} (h5 : 5 ≤ ks.length) (h7 : ks.length ≤ 7) (hk : ∀ k ∈ ks, k = 0 ∨ k = 1) {kind some_ more : Nat} (h1 : kind < 2) (h2 : 1 ≤ some_) (h3 : some_ ≤ 4) (h4 : more ≤ 3) :
    takesB (asOf a b kind some_ more) (osOf a b ks) = metB ks (kind : Nat) (some_ : Nat) (more : Nat) := by
  unfold asOf osOf
  rw [takes_map fun x hx o ho e => oc_inj hab (row_kind hk o ho) (ask_kind (by omega) x hx) e]
  refine met_table ks.length ?_ ks (mem_bitsZ ks hk) kind ?_ some_ ?_ more ?_
  · simp; omega
  · simp; omega
  · simp; omega
  · simp; omega
/-- all the answers of a row -/
noncomputable def ansB (ks : List Int) (most : Int) : List Bool :=
  (rangeKs 0 2).flatMap fun kind => (rangeKs 1 most.toNat).flatMap fun some_ => (rangeKs 0 (most + 1 - some_).toNat).map fun more => metB ks kind some_ more
noncomputable def codeB (l : List Bool) : Nat := l.foldl (fun c b => 2 * c + b.toNat) 1
theorem nodup5 : ((bitsZ 5).map fun ks => codeB (ansB ks 3)).Nodup := by decide +kernel
theorem nodup6 : ((bitsZ 6).map fun ks => codeB (ansB ks 4)).Nodup := by decide +kernel
theorem nodup7 : ((bitsZ 7).map fun ks => codeB (ansB ks 4)).Nodup := by decide +kernel
theorem inj_of_nodup {α β : Type} {f : α → β} : ∀ {l : List α}, (l.map f).Nodup → ∀ x ∈ l, ∀ y ∈ l, f x = f y → x = y
  | [], _, x, hx, _, _, _ => nomatch hx
  | a :: r, h, x, hx, y, hy, e => by
    have h' : (f a :: r.map f).Nodup := h
    rw [List.nodup_cons] at h'
    rcases List.mem_cons.mp hx with hx1 | hx1 <;> rcases List.mem_cons.mp hy with hy1 | hy1
    · rw [hx1, hy1]
    · exact absurd (by rw [← hx1, e]; exact List.mem_map_of_mem hy1) h'.1
    · exact absurd (by rw [← hy1, ← e]; exact List.mem_map_of_mem hx1) h'.1
    · exact inj_of_nodup h'.2 x hx1 y hy1 e
/-- rows that answer alike are the same -/
theorem ans_inj {ks qs : List Int} (h5 : 5 ≤ ks.length) (h7 : ks.length ≤ 7) (hn : qs.length = ks.length) (hk : ∀ k ∈ ks, k = 0 ∨ k = 1) (hq : ∀ k ∈ qs, k = 0 ∨ k = 1)
    (e : ansB ks ((ks.length / 2 + 1 : Nat) : Int) = ansB qs ((ks.length / 2 + 1 : Nat) : Int)) : ks = qs := by
  have m1 := mem_bitsZ ks hk
  have m2 := mem_bitsZ qs hq
  rw [hn] at m2
  have : ks.length = 5 ∨ ks.length = 6 ∨ ks.length = 7 := by omega
  rcases this with h | h | h <;> rw [h] at m1 m2 e
  · exact inj_of_nodup nodup5 _ m1 _ m2 (congrArg codeB e)
  · exact inj_of_nodup nodup6 _ m1 _ m2 (congrArg codeB e)
  · exact inj_of_nodup nodup7 _ m1 _ m2 (congrArg codeB e)
theorem lcp_full : ∀ {a b : List Nat}, (lcp a b).length = a.length → a.length = b.length → a = b
  | [], [], _, _ => rfl
  | [], _ :: _, _, h => by simp at h
  | _ :: _, [], _, h => by simp at h
  | x :: r, y :: q, h, e => by
    unfold lcp at h
    by_cases hx : x = y
    · rw [if_pos hx] at h
      rw [hx, lcp_full (a := r) (b := q) (by simpa using h) (by simpa using e)]
    · rw [if_neg hx] at h; simp at h
theorem cp_eq {xs ys : List Nat} (h0 : xs ≠ []) (hn : xs.length = ys.length) : cpS xs ys = wS xs ↔ xs = ys := by
  have key : ∀ l : List Nat, l ≠ [] → tS ([47] ++ jn [47] (l.map nm)) = wS l := by
    intro l hl
    have e := jn_wq l
    cases l with
    | nil => exact absurd rfl hl
    | cons o r =>
      have e2 : [] ++ [47] ++ jn [47] ((o :: r).map nm) = wq (o :: r) := e
      show _ = tS (wq (o :: r))
      rw [← e2]; rfl
  constructor
  · intro h
    unfold cpS at h
    by_cases hl : lcp xs ys = []
    · rw [hl] at h
      have h1 : (1 : Nat) = (wS xs).length := congrArg Str.length h
      rw [wS_len] at h1
      omega
    · rw [key _ hl] at h
      have h1 := congrArg Str.length h
      rw [wS_len, wS_len] at h1
      exact lcp_full (by omega) hn
  · rintro rfl
    unfold cpS
    rw [lcp_self, key xs h0]
theorem os_inj {a b : Nat} (hab : a ≠ b) : ∀ {ks qs : List Int}, (∀ k ∈ ks, k = 0 ∨ k = 1) → (∀ k ∈ qs, k = 0 ∨ k = 1) → osOf a b ks = osOf a b qs → ks = qs
  | [], [], _, _, _ => rfl
  | [], _ :: _, _, _, h => by simp [osOf] at h
  | _ :: _, [], _, _, h => by simp [osOf] at h
  | x :: r, y :: q, h1, h2, h => by
    have h' : ocOf a b x.toNat :: osOf a b r = ocOf a b y.toNat :: osOf a b q := h
    rw [List.cons.injEq] at h'
    have e := os_inj hab (fun k hk => h1 k (.tail _ hk)) (fun k hk => h2 k (.tail _ hk)) h'.2
    have hx := h1 x (.head _)
    have hy := h2 y (.head _)
    have e2 := oc_inj hab (by omega) (by omega) h'.1
    have e3 : x = y := by omega
    rw [e, e3]
/-- the law: the first way is the common one if and only if all answers are alike -/
theorem law_plain {a b : Nat} (hab : a ≠ b) {ks qs : List Int} (h5 : 5 ≤ ks.length) (h7 : ks.length ≤ 7) (hn : qs.length = ks.length) (hk : ∀ k ∈ ks, k = 0 ∨ k = 1) (hq : ∀ k ∈ qs, k = 0 ∨ k = 1) :
    (cpS (osOf a b ks) (osOf a b qs) = wS (osOf a b ks)) ↔ (ansB ks ((ks.length / 2 + 1 : Nat) : Int) = ansB qs ((ks.length / 2 + 1 : Nat) : Int)) := by
  have l1 : (osOf a b ks).length = ks.length := by simp [osOf]
  have l2 : (osOf a b qs).length = qs.length := by simp [osOf]
  rw [cp_eq (by intro q; rw [q] at l1; simp at l1; omega) (by omega)]
  constructor
  · intro h; rw [os_inj hab hk hq h]
  · intro h; rw [ans_inj h5 h7 hn hk hq h]
theorem plain_ends : ∀ c < 128, plainC c = true → Txt.endswith (tS [c]) (Str.ofString "/") = false := by decide +kernel
theorem wq_last {os : List Nat} (h0 : os ≠ []) (ho : ∀ o ∈ os, o < 256) : Txt.endswith (wS os) (Str.ofString "/") = false := by
  obtain ⟨o, h1⟩ : ∃ o, os = os.dropLast ++ [o] := ⟨_, (List.dropLast_concat_getLast h0).symm⟩
  have e : wq os = (wq os.dropLast ++ [47, 61, hx (o / 16)]) ++ [hx (o % 16)] := by
    conv => lhs; rw [h1, wq_app]
    simp [wq, nm]
  have hx1 : o < 256 := ho o (by rw [h1]; simp)
  have hp := hx_plain (o % 16) (by omega)
  show Txt.endswith (tS (wq os)) _ = false
  rw [e, ← tS_app, KAf.ends_right (by rw [tS_len]; exact Nat.le_of_ble_eq_true rfl)]
  exact plain_ends _ (plain_small hp) hp
theorem nameS_oc {a b : Nat} {k : Int} (hk : k = 0 ∨ k = 1) : nameS (qs a) (qs b) k = tS (nm (ocOf a b k.toNat)) := by
  rcases hk with rfl | rfl <;> rfl
theorem os_snoc (a b : Nat) (ks : List Int) (k : Int) : osOf a b (ks ++ [k]) = osOf a b ks ++ [ocOf a b k.toNat] := by simp [osOf]
theorem os_small {a b : Nat} (ha : a < 256) (hb : b < 256) (ks : List Int) : ∀ o ∈ osOf a b ks, o < 256 := by
  intro o ho
  unfold osOf at ho
  obtain ⟨k, _, rfl⟩ := List.mem_map.mp ho
  unfold ocOf; split <;> assumption
theorem as_small {a b : Nat} (ha : a < 256) (hb : b < 256) (kind some_ more : Nat) : ∀ o ∈ asOf a b kind some_ more, o < 256 := by
  intro o ho
  unfold asOf at ho
  obtain ⟨k, _, rfl⟩ := List.mem_map.mp ho
  unfold ocOf; split <;> assumption
theorem wayS_os {a b : Nat} (ha : a < 256) (hb : b < 256) : ∀ (n : Nat) (ks : List Int), ks.length = n + 1 → (∀ k ∈ ks, k = 0 ∨ k = 1) → wayS (qs a) (qs b) ks = wS (osOf a b ks)
  | n, ks, hl, hk => by
    have h0 : ks ≠ [] := by intro e; rw [e] at hl; simp at hl
    obtain ⟨k, h1⟩ : ∃ k, ks = ks.dropLast ++ [k] := ⟨_, (List.dropLast_concat_getLast h0).symm⟩
    have hk1 := hk k (by rw [h1]; simp)
    have hd : ∀ x ∈ ks.dropLast, x = 0 ∨ x = 1 := fun x hx => hk x (List.dropLast_subset _ hx)
    have hl2 : ks.dropLast.length = n := by rw [List.length_dropLast]; omega
    rw [h1]
    generalize ks.dropLast = r at *
    have e : wayS (qs a) (qs b) (r ++ [k]) = joinS (wayS (qs a) (qs b) r) (nameS (qs a) (qs b) k) := by unfold wayS; simp
    rw [e, nameS_oc hk1, os_snoc]
    cases n with
    | zero =>
      have hr : r = [] := List.eq_nil_of_length_eq_zero hl2
      subst hr
      have e2 : wayS (qs a) (qs b) [] = tS [47] := by show Str.ofString "/" = _; decide +kernel
      rw [e2]
      unfold joinS
      rw [if_pos (by decide +kernel), tS_app]; rfl
    | succ n =>
      rw [wayS_os ha hb n r hl2 hd]
      have hne : osOf a b r ≠ [] := by
        intro q
        have := congrArg List.length q
        simp [osOf] at this
        rw [this] at hl2; simp at hl2
      unfold joinS
      rw [if_neg (by rw [wq_last hne (os_small ha hb r)]; decide), show Str.ofString "/" = tS [47] by decide +kernel, tS_app, tS_app]
      unfold wS
      rw [wq_app]; rfl
end Mine
end

-- WObj
section
open PySem PySem.W PyProof.Rows PySem.Calls
set_option linter.unusedVariables false
set_option maxRecDepth 100000
set_option maxHeartbeats 1000000
namespace Mine
theorem mro_object : mroOf (.type "object") = pure [.type "object"] := by rw [mroOf_type]; kernel_rfl
theorem lookup_object_new : typeLookup (.type "object") "__new__" = pure (some (.builtin "object.__new__")) := by rw [typeLookup_type, builtinLookup_eq_fast]; kernel_rfl
theorem called_object : TypeCalled "object" "object.__new__" "object.__init__" :=
  ⟨by decide +kernel, by decide +kernel, ⟨_, _, mro_object⟩, madeBy_type mro_object lookup_object_new (by decide +kernel), by decide +kernel, by rw [isSubtype_type]; kernel_rfl, F.slot_object_init⟩
theorem typeCall_object_0 : checkTypeCall "object" ⟨[], []⟩ = pure () := by kernel_rfl
theorem newCall_object_0 : checkBuiltinCall "object.__new__" ⟨[.type "object"], []⟩ = pure () := by kernel_rfl
theorem entry_object_new : entryFor table "object.__new__" = some Builtin.«object.__new__» := entryFor_of_tree (by kernel_rfl)
theorem init_args_1 (o : Value) : argsOk "object.__init__" ⟨[o], []⟩ := by unfold argsOk; kernel_rfl
theorem madeHere_object : Bind.madeHere "object.__new__" (.type "object") = pure () := by
  unfold Bind.madeHere
  have e : Bind.staticBase (.type "object") = pure (.type "object") := by first | rfl | kernel_rfl
  rw [e]
  simp only [pure_bind, called_object.made]
  first | rfl | kernel_rfl | (simp; rfl)
noncomputable def objO : Obj := { cls := .type "object", data := .plain }
theorem meets_object_new : Meets (Builtin.«object.__new__» ⟨[.type "object"], []⟩) (fun _ R s => R (.ok (.ret (.ref s.heap.objs.size))) { s with heap := s.heap.push objO }) :=
  .of_wp fun prog w A R s h => by
    obtain ⟨hp, g, d, tk, os⟩ := s
    have hmh := madeHere_object
    have h1 : (Manifest.find? "object").elim false (·.mro.any fun t => (Manifest.find? t).elim false (·.noNew)) = false := by decide +kernel
    have h2 : typeHasDict (.type "object") = false := by decide +kernel
    have h3 : diesByItsTypesDel "object" = false := by decide +kernel
    repeat (any_goals (first | assumption | wp_step))
    all_goals exact ⟨_, rfl, h⟩
theorem meets_object_init (o : Value) : Meets (Builtin.«object.__init__» ⟨[o], []⟩) (fun _ R s => R (.ok (.ret .none)) s) :=
  .of_wp fun prog w A R s h => wpAny_pure ⟨_, rfl, h⟩
section
variable {prog : Program} {w : World} {A : Around} {E : Value → Shared → Prop} {s : Shared} {h₀ : Heap} {L : Addr} {m : Str → Option Value} {news : List (Addr × Obj)}
theorem call_object {Q : Value → Shared → Prop} (h : Q (.ref s.heap.objs.size) { s with heap := s.heap.push objO }) : wpAny (model prog w) A (call (.type "object") []) Q E s :=
  callType_meets called_object typeCall_object_0 newCall_object_0 entry_object_new F.entry_object_init meets_object_new
    (show wants (fun obj s₁ => s₁.TypeIs obj "object" ∧ Q obj s₁) E _ _ from ⟨⟨_, Heap.get?_push_size _ rfl, rfl⟩, h⟩)
    fun obj s₁ hq => ⟨hq.1, init_args_1 obj, _, meets_object_init obj, rfl, hq.2⟩
theorem call_object_K {Q : Value → Shared → Prop} (F : Fr h₀ L s.heap m) (N : News h₀ L s.heap news) (h : ∀ D h', Fr h₀ L h' m → News h₀ L h' ((D, objO) :: news) → (∀ p ∈ news, p.1 < D) → Q (.ref D) { s with heap := h' }) : wpAny (model prog w) A (call (.type "object") []) Q E s :=
  call_object (h _ _ (F.push _) (News.push F N _) fun p hp => Heap.lt_size (N p hp).1)
end
end Mine
end

-- WAn
section
open PySem PySem.W PyProof.Rows PySem.Calls
set_option linter.unusedVariables false
set_option maxRecDepth 100000
set_option maxHeartbeats 1000000
namespace Mine
theorem NmsAre.app {vs ws : List Value} {xs ys : List Nat} (h : NmsAre vs xs) (k : NmsAre ws ys) : NmsAre (vs ++ ws) (xs ++ ys) := by
  obtain ⟨l, rfl, e⟩ := h
  obtain ⟨r, rfl, e'⟩ := k
  exact ⟨l ++ r, by simp [strValues], by rw [List.map_append, e, e', List.map_append]⟩
theorem NmsAre.rep {o : Nat} {t : Tok} : ∀ n : Nat, NmsAre (List.replicate n (Value.str (tS (nm o)) t)) (List.replicate n o)
  | 0 => NmsAre.nil
  | n + 1 => by
    have ih := NmsAre.rep (o := o) (t := t) n
    obtain ⟨l, e1, e2⟩ := ih
    refine ⟨(tS (nm o), t) :: l, ?_, ?_⟩
    · rw [List.replicate_succ, e1]; rfl
    · rw [List.map_cons, e2]; rfl
theorem flat_one {α : Type} (x : α) : ∀ n : Nat, (List.replicate n [x]).flatten = List.replicate n x
  | 0 => rfl
  | n + 1 => by rw [List.replicate_succ, List.flatten_cons, flat_one x n]; rfl
theorem jn_pat : ∀ ns : List (List Nat), ns ≠ [] → [42] ++ jn [42] ns ++ [42] = patOf ns
  | [], h => absurd rfl h
  | [p], _ => by simp [jn, patOf]
  | p :: q :: r, _ => by
    have ih := jn_pat (q :: r) (by simp)
    have e : jn [42] (p :: q :: r) = p ++ [42] ++ jn [42] (q :: r) := rfl
    have e2 : patOf (p :: q :: r) = 42 :: (p ++ patOf (q :: r)) := by simp [patOf]
    rw [e, e2, ← ih]
    simp
theorem pat_text {as : List Nat} (h : as ≠ []) : Str.ofString "*" ++ tS (jn [42] (nms as)) ++ Str.ofString "*" = tS (patOf (nms as)) := by
  rw [show Str.ofString "*" = tS [42] by decide +kernel, tS_app, tS_app, jn_pat _ (by intro q; exact h (List.map_eq_nil_iff.mp q))]
theorem jn_len42 : ∀ as : List Nat, (jn [42] (nms as)).length ≤ 4 * as.length
  | [] => by simp [jn, nms]
  | [a] => by simp [jn, nms, nm]
  | a :: b :: r => by
    have ih := jn_len42 (b :: r)
    have e : jn [42] (nms (a :: b :: r)) = nm a ++ [42] ++ jn [42] (nms (b :: r)) := rfl
    rw [e]
    simp only [List.length_append, List.length_cons, List.length_nil, nm] at ih ⊢
    omega
theorem as_len (a b kind some_ more : Nat) : (asOf a b kind some_ more).length = some_ + more := by simp [asOf, askN]
theorem as_eq (a b kind some_ more : Nat) : asOf a b kind some_ more = List.replicate some_ (ocOf a b kind) ++ List.replicate more (ocOf a b (1 - kind)) := by
  simp [asOf, askN]
section
variable {prog : Program} {w : World} {A : Around} {E : Value → Shared → Prop} {s : Shared} {t u : Tok} {h₀ : Heap} {L : Addr} {m : Str → Option Value} {news : List (Addr × Obj)} {value slice : PySem.Expr}
/-- a list of one name, so many times -/
theorem mul_names {l : Addr} {o n : Nat} {k : Int} {Q : Value → Shared → Prop} (F : Fr h₀ L s.heap m) (N : News h₀ L s.heap news) (hl : s.heap.IsList l [Value.str (tS (nm o)) t].toArray) (hk : k = (n : Nat)) (hn : n ≤ 9)
    (h : ∀ D vs h', NmsAre vs (List.replicate n o) → Fr h₀ L h' m → News h₀ L h' ((D, W.listOf vs.toArray 0) :: news) → (∀ p ∈ news, p.1 < D) → Q (.ref D) { s with heap := h' }) :
    wpAny (model prog w) A (binaryOp .Mult (.ref l) (.int k u)) Q E s := by
  subst hk
  refine KMa.mul F N hl (by omega) (by omega) (by simp; omega) (flat_one _ _) fun D h' F' N' l1 => h D _ h' (NmsAre.rep n) F' N' l1
theorem add_names {l b : Addr} {vs ws : List Value} {xs ys : List Nat} {Q : Value → Shared → Prop} (F : Fr h₀ L s.heap m) (N : News h₀ L s.heap news) (hl : s.heap.IsList l vs.toArray) (hb : s.heap.IsList b ws.toArray) (hx : NmsAre vs xs) (hy : NmsAre ws ys) (hn : xs.length + ys.length ≤ 100)
    (h : ∀ D us h', NmsAre us (xs ++ ys) → Fr h₀ L h' m → News h₀ L h' ((D, W.listOf us.toArray 0) :: news) → (∀ p ∈ news, p.1 < D) → Q (.ref D) { s with heap := h' }) :
    wpAny (model prog w) A (binaryOp .Add (.ref l) (.ref b)) Q E s := by
  have l1 := hx.len
  have l2 := hy.len
  exact add_lists (hsz := by rw [sizeLine_eq]; omega) F N hl hb fun h' F' N' => h _ _ h' (hx.app hy) F' N' fun p hp => Heap.lt_size (N p hp).1
theorem join_star {D : Addr} {vs : List Value} {n : Nat} {zs : List Nat} {Q : Value → Shared → Prop} (N : News h₀ L s.heap news) (hm : (D, W.listOf vs.toArray n) ∈ news) (hz : NmsAre vs zs) (hl : zs.length ≤ 9)
    (hq : ∀ t' k, Q (.str (tS (jn [42] (nms zs))) t') { s with toks := k }) : wpAny (model prog w) A (call (.builtin "str.join") [.str (Str.ofString "*") t, .ref D]) Q E s := by
  obtain ⟨l, rfl, e⟩ := hz
  refine join_sep [42] (nms zs) (by decide +kernel) ⟨_, (N _ hm).1, rfl, n, rfl⟩ (by rw [e]; unfold nms; rw [List.map_map]; rfl) (fun a ha => ?_) (by decide) (by unfold nms; rw [List.length_map]; omega) hq
  unfold nms at ha
  obtain ⟨o, _, rfl⟩ := List.mem_map.mp ha
  simp [nm]
/-- the name of a kind -/
theorem item_name {l : Addr} {a b kn : Nat} {ta tb : Tok} {k : Int} {Q : Value → Shared → Prop} (hl : s.heap.IsList l #[.str (qs a) ta, .str (qs b) tb]) (hk : k = (kn : Nat)) (h2 : kn < 2) (h : ∀ t, Q (.str (tS (nm (ocOf a b kn))) t) s)
    (he : subscripted slice false (.ref l) (.int k u) = operate [.ref l, .int k u] (getItem (.ref l) (.int k u)) := by with_unfolding_all rfl) (hg : ∀ r, letTemporaryGo value (.ref l) r = pure () := by intro _; with_unfolding_all rfl) :
    wpAny (model prog w) A (subscriptTail value slice (.ref l) (.int k u)) Q E s := by
  have : kn = 0 ∨ kn = 1 := by omega
  rcases this with rfl | rfl
  · exact item_any 0 (vs := [.str (qs a) ta, .str (qs b) tb]) hl hk rfl (by decide) (h ta) he hg
  · exact item_any 1 (vs := [.str (qs a) ta, .str (qs b) tb]) hl hk rfl (by decide) (h tb) he hg
theorem ne_bool_same {x y : Bool} {Q : Value → Shared → Prop} (e : x = y) (h : Q (.bool false) s) : wpAny (model prog w) A (compareOp .NotEq (.bool x) (.bool y)) Q E s := by
  subst e
  exact ne_bool (by simpa using h)
end
section
variable {prog : Program} {w : World} {A : Around} {E : Value → Shared → Prop} {s : Shared} {env : Env} {h₀ : Heap} {x : Str} {body : List Stmt} {Q : Flow → Shared → Prop}
/-- a loop over a range, by what holds at the i-th turn -/
theorem iter_rangeJ {r : Addr} {a₀ b₀ : Int} {t₀ u₀ v₀ : Tok} {n : Nat} {m₀ : Str → Option Value} {news : List (Addr × Obj)} (J : Nat → (Str → Option Value) → List (Addr × Obj) → Prop)
    (hh : A.handled = none) (hr : IsRange s.heap r a₀ b₀ 1 t₀ u₀ v₀) (hsmall : Builtin.Range.small a₀ b₀ 1 = true) (hn : Builtin.Range.rangeSize a₀ b₀ 1 = (n : Int)) (F : Fr h₀ env.locals s.heap m₀) (N : News h₀ env.locals s.heap news) (hj : J 0 m₀ news)
    (turn : ∀ i t m₁ nx h tk own, i < n → OwnOff own (news.map (·.1)) → J i m₁ nx → Fr h₀ env.locals h (fun y => if y = x then some (.int (a₀ + (i : Int)) t) else m₁ y) → News h₀ env.locals h (nx ++ own) →
      wpAny (model prog w) A (execs body env) (InvPostN h₀ env.locals (J (i + 1)) own (news.map (·.1)) { s with heap := h, toks := tk } Q) E { s with heap := h, toks := tk })
    (done : ∀ m₁ nx h tk, J n m₁ nx → Fr h₀ env.locals h m₁ → News h₀ env.locals h nx → Q .next { s with heap := h, toks := tk }) :
    wpAny (model prog w) A (pyIter (.ref r)) (fun it s₂ => LoopAtV prog w A h₀ env x body Q E it s₂) E s := by
  refine wpAny_pyIter_range hr hsmall ?_
  have W : Walks prog w A s.heap.objs.size [s.heap.objs.size] [s.heap.objs.size] n (fun i v => i < n ∧ ∃ t, v = .int (a₀ + i * 1) t)
      (fun i h => IsRangeIter h s.heap.objs.size (a₀ + (i : Nat) * 1) ((n : Int) - (i : Nat)) 1) := (Walks.range hh _ a₀ 1 n).bound
  refine loop_invN J W ?_ ?_ ?_ ?_ (by show IsRangeIter _ _ _ _ _; rw [hn]; simpa using Heap.get?_push_size _ rfl) (F.push _) (fun p hp => ⟨Heap.get?_push_of_some _ (N p hp).1, (N p hp).2⟩) hj ?_ ?_
  · intro hm
    exact absurd F.ns.lt ((List.mem_singleton.mp hm) ▸ Nat.lt_irrefl _)
  · intro b hb
    rw [List.mem_singleton.mp hb]
    exact next_is_new F
  · intro p hp hI
    exact absurd (Heap.lt_size (N p hp).1) ((List.mem_singleton.mp hI) ▸ Nat.lt_irrefl _)
  · intro p hp hI
    exact absurd (Heap.lt_size (N p hp).1) ((List.mem_singleton.mp hI) ▸ Nat.lt_irrefl _)
  · rintro i v m₁ nx h tk own hi ⟨_, t, rfl⟩ _ hoff hJ F₁ N₁
    have e1 : a₀ + (i : Int) * 1 = a₀ + (i : Int) := by omega
    rw [e1] at F₁
    exact turn i t m₁ nx h tk own hi hoff hJ F₁ N₁
  · exact done
end
theorem fr_put {h₀ : Heap} {L : Addr} {h : Heap} {m : Str → Option Value} {x : Str} {v : Value} (F : Fr h₀ L h m) (e : m x = some v) : Fr h₀ L h (fun y => if y = x then some v else m y) := by
  have : (fun y => if y = x then some v else m y) = m := by
    funext y
    by_cases h1 : y = x
    · rw [if_pos h1, h1, e]
    · rw [if_neg h1]
  rw [this]; exact F
theorem rangeKs_succ (a : Int) (n : Nat) : rangeKs a (n + 1) = rangeKs a n ++ [a + (n : Int)] := by
  unfold rangeKs
  rw [List.range_succ, List.map_append]; rfl
end Mine
end

-- W15a
section
open PySem PySem.W PyProof.Rows PySem.Calls
set_option linter.unusedVariables false
set_option maxRecDepth 100000
set_option maxHeartbeats 40000000
namespace Mine
theorem fillK_W15a : (fun (_ : Params → Frag) (_ : OpenLaw) => True) hd.heap_39 PySem.Challenge.rw_rt0089_01 := by k_fill; trivial
theorem slice_lit {prog : Program} {w : World} {A : Around} {E : Value → Shared → Prop} {s : Shared} {u t0 t1 t2 t3 t4 : Tok} {h₀ : Heap} {L l : Addr} {m : Str → Option Value} {news : List (Addr × Obj)} {value slice : PySem.Expr} {Q : Value → Shared → Prop} (n : Nat) (F : Fr h₀ L s.heap m) (N : News h₀ L s.heap news) (hl : s.heap.IsList l [Value.int 0 t0, Value.int 7 t1, Value.int 2 t2, Value.int 1 t3, Value.int 6 t4].toArray)
    (h : ∀ D ws h', IntsAre ws (List.drop n [0, 7, 2, 1, 6]) → Fr h₀ L h' m → News h₀ L h' ((D, W.listOf ws.toArray 0) :: news) → (∀ p ∈ news, p.1 < D) → Q (.ref D) { s with heap := h' })
    (hs : subscripted slice false (.ref l) (.ref s.heap.objs.size) = operate [.ref s.heap.objs.size, .ref l] (getItem (.ref l) (.ref s.heap.objs.size)) := by with_unfolding_all rfl) (ht : ∀ r, letTemporaryGo value (.ref l) r = pure () := by intro _; with_unfolding_all rfl) :
    wpAny (model prog w) A (subscriptTail value slice (.ref l) (.ref s.heap.objs.size)) Q E { s with heap := s.heap.push { cls := .type "slice", data := .fields #[.int (n : Int) u, .none, .none] } } :=
  slice_fromL n F N hl (Nat.le_of_ble_eq_true rfl) (fun D h' F' N' l1 => h D _ h' (IntsAre.drop (IntsAre.cons 0 _ (IntsAre.cons 7 _ (IntsAre.cons 2 _ (IntsAre.cons 1 _ (IntsAre.cons 6 _ IntsAre.nil))))) n) F' N' l1) hs ht
section
variable {w : World} {p : Program} {loose : List Str} {mean : ExcName → Option Value} {mg mb : Str → Option Value} {d dp un : Nat} {gd : Option (List Code)} {cn : Str} {cs : Scope} {a : Addr} {ccd : Value} {cl : List (Str × Addr)} {outer : List Env} {A₀ : Around} {base h₀ : Heap} {L : Addr} {m : Str → Option Value} {s : Shared} {Q E : Value → Shared → Prop}
set_option maxHeartbeats 40000000 in
theorem law_a {ns : List Int} {vs : List Value} {S fa : Addr} {cdv : Value} {oN oO : Obj} {Qf : Flow → Shared → Prop} (hns : ns.length ≤ 63) (hS : h₀.IsList S vs.toArray) (hi : IntsAre vs ns)
    (hE : PassesOwn (model PySem.Challenge.pw_rt0089_01 w) (ktrTop dp un gd (Str.ofString "law") lwScope L fa cdv (cellsFrom (L + 1) lwScope.names []) outer) (envOfC (Str.ofString "law") lwScope L fa cdv) E)
    (C : Cx (hd.heap_39 w.params) p loose mean mg mb (d + 6) dp un lwScope outer A₀ base h₀ L (fun y => if y = Str.ofString "script" then some (.ref S) else none) s.heap)
    (N : News h₀ L s.heap [(L + 1 + 1, oN), (L + 1, oO)]) (dN : oN.data = Data.cell none) (dO : oO.data = Data.cell none)
    (hq : ∀ h tk m' St ws O oO' ta tb, Fr h₀ L h m' → m' (Str.ofString "steps") = some (.ref St) →
      News h₀ L h [(O, W.listOf #[.int (octA ns : Nat) ta, .int (octB ns : Nat) tb] 0), (St, W.listOf ws.toArray 0), (L + 1 + 1, oN), (L + 1, oO')] → IntsAre ws (stp ns) → oO'.data = Data.cell (some (.ref O)) → L + 1 + 1 < St → St < O → Qf .next { s with heap := h, toks := tk }) :
    wpAny (model PySem.Challenge.pw_rt0089_01 w) (ktrTop dp un gd (Str.ofString "law") lwScope L fa cdv (cellsFrom (L + 1) lwScope.names []) outer) (execs [lwS 0, lwS 1, lwS 2, lwS 3] (envOfC (Str.ofString "law") lwScope L fa cdv)) Qf E s := by
  k_with_none
  k_with "call builtin:len" => (k_extra "len")
  k_with "subscriptTail Name Slice ref ref" => (k_extra "cut")
  conv at C in (occs := *) lwScope => all_goals whnf
  conv at hE in (occs := *) lwScope => all_goals whnf
  conv in (occs := *) lwScope => all_goals whnf
  conv in (occs := *) lwS _ => all_goals whnf
  have X' := C.X; have T' := C.T; have B' := C.B; have F' := C.F
  have hl := hi.length
  have hl7 : (vs.take 7).length ≤ 7 := by rw [List.length_take]; omega
  k_with "len" => first | (
    k_here
    (with_reducible show wpAny _ _ (call (Value.builtin "len") [Value.ref _]) _ _ _)
    with_unfolding_all refine len_any (vs := vs.take 7) (News.isList (by k_asm) (by k_mem)) (by omega) ?_) | fail "stop"
  k_with "cut" => first | (
    k_here
    (with_reducible show wpAny _ _ (subscriptTail _ _ (Value.ref _) (Value.ref _)) _ _ _)
    (with_reducible (rename Fr _ _ _ _ => cF)); (with_reducible (rename News _ _ _ _ => cN))
    first
    | (with_unfolding_all refine slice_toL 7 cF cN (Heap.IsList.at hS (by intro o e; exact Fr.keep cF _ o e)) (by omega) ?_
       intro D1 h1 F1 N1 l1
       have hI1 := hi.take 7
       (try k_lt l1); (try k_sweep))
    | (with_unfolding_all refine slice_lit (vs.take 7).length cF cN (News.isList cN (.head _)) ?_
       intro D2 ws2 h2 hI2 F2 N2 l1
       (try k_lt l1); (try k_sweep))) | fail "stop"
  k_steps
  (with_reducible (rename Fr _ _ _ _ => eF)); (with_reducible (rename News _ _ _ _ => eN))
  rw [octA_eq, octB_eq] at eN
  rename IntsAre _ (List.take 7 ns ++ _) => hI'
  have e7 : (vs.take 7).length = (ns.take 7).length := by rw [List.length_take, List.length_take, hl]
  rw [e7] at hI'
  rename (_ = Data.cell (some _)) => d'
  refine hq _ _ _ _ _ _ _ _ _ eF (by rfl) (news_pick4 eN (by k_mem) (by k_mem) (by k_mem) (by k_mem)) hI' d' ?_ ?_ <;> (refine PySem.W.ltN ?_; omega)
end
end Mine
end

-- W3
section
open PySem PySem.W PyProof.Rows PySem.Calls
set_option linter.unusedVariables false
set_option maxRecDepth 100000
set_option maxHeartbeats 40000000
namespace Mine
theorem fillK_W3 : (fun (_ : Params → Frag) (_ : OpenLaw) => True) hd.heap_39 PySem.Challenge.rw_rt0089_01 := by k_fill; trivial
theorem quo_get {o : Nat} (ho : o < 256) (X : List Str) (e : (X == (List.range 256).map qs) = true) : X.getD (o : Int).toNat Str.empty = qs o := by
  rw [beq_iff_eq] at e
  subst e
  simp [List.getD_eq_getElem?_getD, ho]
section
variable {w : World} {p : Program} {loose : List Str} {mean : ExcName → Option Value} {mg mb : Str → Option Value} {d dp un : Nat} {gd : Option (List Code)} {cn : Str} {cs : Scope} {a : Addr} {ccd : Value} {cl : List (Str × Addr)} {outer : List Env} {A₀ : Around} {base h₀ : Heap} {L : Addr} {m : Str → Option Value} {s : Shared} {Q E : Value → Shared → Prop}
theorem c_quote {o : Nat} {t : Tok} (ho : o < 256) (C : Cx (hd.heap_39 w.params) p loose mean mg mb (1) dp un cs outer A₀ base h₀ L m s.heap) (hret : ∀ t, Gives s Q (.str (qs o) t)) : wpAny (model PySem.Challenge.pw_rt0089_01 w) (ktrTop dp un gd cn cs L a ccd cl outer) (call (.ref 106) [.str ⟨#[o]⟩ t]) Q E s := by
  k_with_none
  k_with "call type:int" => ((k_here; (with_reducible show wpAny _ _ (call (Value.type "int") [_, _]) _ _ _); (refine call_hex (by assumption) ?_)))
  refine' enter (binds := [(Str.ofString "c", .str ⟨#[o]⟩ t)]) C ?k6 ?k7 ?k9 ?kB ?_ ?c5 ?c2 ?c3 ?c4
  (case k6 => k_is); (case k7 => k_is); (case k9 => exact BindsTo.of_eq rfl); (case c5 => decide); (case kB => exact locs rfl); (case c2 => exact rfl); (case c3 => exact rfl); (case c4 => exact rfl)
  intro g L' h₁ tk hg hg' F' N' C'
  have X' := C'.X; have T' := C'.T; have B' := C'.B
  (try dsimp only at F'); (try k_fold)
  k_steps
  rw [quo_get ho _ (by kernel_rfl)]
  (try dsimp only); (try k_unfold); (try dsimp only); (rename Fr _ _ _ _ => kF9); exact hret _ _ _ (fun b o e => kF9.keep b o (hg b o e))
/-- a text of three signs that stand for an octet -/
theorem c_unquote {o : Nat} {t : Tok} (ho : o < 256) (C : Cx (hd.heap_39 w.params) p loose mean mg mb (1) dp un cs outer A₀ base h₀ L m s.heap) (hret : ∀ t, Gives s Q (.str ⟨#[o]⟩ t)) : wpAny (model PySem.Challenge.pw_rt0089_01 w) (ktrTop dp un gd cn cs L a ccd cl outer) (call (.ref 99) [.str (qs o) t]) Q E s := by
  k_with_none
  k_with "call type:int" => ((k_here; (with_reducible show wpAny _ _ (call (Value.type "int") [_, _]) _ _ _); (refine call_hex (by assumption) ?_)))
  refine' enter (binds := [(Str.ofString "s", .str (qs o) t)]) C ?k6 ?k7 ?k9 ?kB ?_ ?c5 ?c2 ?c3 ?c4
  (case k6 => k_is); (case k7 => k_is); (case k9 => exact BindsTo.of_eq rfl); (case c5 => decide); (case kB => exact locs rfl); (case c2 => exact rfl); (case c3 => exact rfl); (case c4 => exact rfl)
  intro g L' h₁ tk hg hg' F' N' C'
  have X' := C'.X; have T' := C'.T; have B' := C'.B
  (try dsimp only at F'); (try k_fold)
  k_steps
  (try dsimp only); (try k_unfold); (try dsimp only); (rename Fr _ _ _ _ => kF9); exact hret _ _ _ (fun b o e => kF9.keep b o (hg b o e))
end
end Mine
end

-- W15b
section
open PySem PySem.W PyProof.Rows PySem.Calls
set_option linter.unusedVariables false
set_option maxRecDepth 100000
set_option maxHeartbeats 40000000
namespace Mine
theorem fillK_W15b : (fun (_ : Params → Frag) (_ : OpenLaw) => True) hd.heap_39 PySem.Challenge.rw_rt0089_01 := by k_fill; trivial
section
variable {w : World} {p : Program} {loose : List Str} {mean : ExcName → Option Value} {mg mb : Str → Option Value} {d dp un : Nat} {gd : Option (List Code)} {cn : Str} {cs : Scope} {a : Addr} {ccd : Value} {cl : List (Str × Addr)} {outer : List Env} {A₀ : Around} {base h₀ : Heap} {L : Addr} {m : Str → Option Value} {s : Shared} {Q E : Value → Shared → Prop}
set_option maxHeartbeats 40000000 in
theorem law_b {oa ob : Nat} {ta tb : Tok} {ws : List Value} {St O fa : Addr} {cdv : Value} {oN oO : Obj} {Qf : Flow → Shared → Prop} (ha : oa < 256) (hb : ob < 256)
    (hE : PassesOwn (model PySem.Challenge.pw_rt0089_01 w) (ktrTop dp un gd (Str.ofString "law") lwScope L fa cdv (cellsFrom (L + 1) lwScope.names []) outer) (envOfC (Str.ofString "law") lwScope L fa cdv) E)
    (C : Cx (hd.heap_39 w.params) p loose mean mg mb (d + 6) dp un lwScope outer A₀ base h₀ L m s.heap)
    (N : News h₀ L s.heap [(O, W.listOf #[.int (oa : Nat) ta, .int (ob : Nat) tb] 0), (St, W.listOf ws.toArray 0), (L + 1 + 1, oN), (L + 1, oO)]) (dN : oN.data = Data.cell none) (dO : oO.data = Data.cell (some (.ref O)))
    (l1 : L + 1 + 1 < St) (l2 : St < O)
    (hq : ∀ h tk Nm n oN' t1 t2, Fr h₀ L h m →
      News h₀ L h [(Nm, { cls := .type "list", data := .seq #[.str (qs oa) t1, .str (qs ob) t2] n }), (O, W.listOf #[.int (oa : Nat) ta, .int (ob : Nat) tb] 0), (St, W.listOf ws.toArray 0), (L + 1 + 1, oN'), (L + 1, oO)] → oN'.data = Data.cell (some (.ref Nm)) → O ≠ Nm → St ≠ Nm → L + 1 + 1 ≠ Nm → L + 1 ≠ Nm → Qf .next { s with heap := h, toks := tk }) :
    wpAny (model PySem.Challenge.pw_rt0089_01 w) (ktrTop dp un gd (Str.ofString "law") lwScope L fa cdv (cellsFrom (L + 1) lwScope.names []) outer) (exec (lwS 4) (envOfC (Str.ofString "law") lwScope L fa cdv)) Qf E s := by
  k_with_none
  k_with "call ref" => (k_dflt ((k_here; (with_reducible show wpAny _ _ (call (Value.ref 106) _) _ _ _); (refine c_quote (by assumption) (Cx.at (by assumption) (by k_asm) (by omega)) ?_); (intro t2 h2 tk2 st2); (have F2 := fr_stays (by k_asm) st2); (have N2 := news_stays (by k_asm) st2); (try clear st2); (try k_sweep); (try dsimp only))))
  k_with "CompEnd" => (k_dflt (((with_reducible (rename Fr _ _ _ _ => eF)); (with_reducible (rename News _ _ _ _ => eN)); refine LCg.CompEnd.intro eF eN _ (fun p hp => hp) ?offW15b ?srcW15b ?_; (case offW15b => (rename (((_ ≠ _) ∧ _ ∧ _) ∧ _) => of8; simpa only [LCg.Off3, and_true] using of8)); (case srcW15b => exact Or.inr ⟨_, by k_mem, rfl, _, rfl⟩))))
  conv at C in (occs := *) lwScope => all_goals whnf
  conv at hE in (occs := *) lwScope => all_goals whnf
  conv in (occs := *) lwScope => all_goals whnf
  conv in (occs := *) lwS _ => all_goals whnf
  have X' := C.X; have T' := C.T; have B' := C.B; have F' := C.F
  k_steps
  (with_reducible (rename Fr _ _ _ _ => eF)); (with_reducible (rename News _ _ _ _ => eN))
  rename (_ = Data.cell (some _)) => d'
  rename (_ ∧ _ ∧ _ ∧ _) => o9
  obtain ⟨o1, o2, o3, o4⟩ := o9
  refine hq _ _ _ _ _ _ _ eF (news_pick5 eN (by k_mem) (by k_mem) (by k_mem) (by k_mem) (by k_mem)) d' o1 o2 o3 o4
end
end Mine
end

-- W15c
section
open PySem PySem.W PyProof.Rows PySem.Calls
set_option linter.unusedVariables false
set_option maxRecDepth 100000
set_option maxHeartbeats 40000000
namespace Mine
theorem fillK_W15c : (fun (_ : Params → Frag) (_ : OpenLaw) => True) hd.heap_39 PySem.Challenge.rw_rt0089_01 := by k_fill; trivial
/-- the second row's kind of a step -/
noncomputable def kindB (x : Int) : Int := (x + if x / 2 % 4 = 3 then 1 else 0) % 2
noncomputable def rowE (ns : List Int) : List Int := (stp ns).map fun x => x % 2
noncomputable def rowF (ns : List Int) : List Int := (stp ns).map kindB
theorem ints_cast {vs : List Value} {xs : List Int} {f g : Int → Int} (h : IntsAre vs (xs.map f)) (e : ∀ x, f x = g x) : IntsAre vs (xs.map g) := by
  rw [show g = f from funext fun x => (e x).symm]; exact h
theorem kindB_eq (x : Int) : (if (x.fdiv 2).fmod 4 = 3 then (x + 1).fmod 2 else (x + 0).fmod 2) = kindB x := by
  unfold kindB
  rw [Int.fmod_eq_emod_of_nonneg _ (by decide), Int.fmod_eq_emod_of_nonneg _ (by decide), Int.fmod_eq_emod_of_nonneg _ (by decide), Int.fdiv_eq_ediv_of_nonneg _ (by decide)]
  split <;> rfl
theorem kindA_eq (x : Int) : x.fmod 2 = x % 2 := Int.fmod_eq_emod_of_nonneg _ (by decide)
section
variable {w : World} {p : Program} {loose : List Str} {mean : ExcName → Option Value} {mg mb : Str → Option Value} {d dp un : Nat} {gd : Option (List Code)} {cn : Str} {cs : Scope} {a : Addr} {ccd : Value} {cl : List (Str × Addr)} {outer : List Env} {A₀ : Around} {base h₀ : Heap} {L : Addr} {m : Str → Option Value} {s : Shared} {Q E : Value → Shared → Prop}
set_option maxHeartbeats 40000000 in
theorem law_c {ns : List Int} {ws : List Value} {St O Nm fa : Addr} {cdv : Value} {oNm oO oN oC : Obj} {Qf : Flow → Shared → Prop}
    (hE : PassesOwn (model PySem.Challenge.pw_rt0089_01 w) (ktrTop dp un gd (Str.ofString "law") lwScope L fa cdv (cellsFrom (L + 1) lwScope.names []) outer) (envOfC (Str.ofString "law") lwScope L fa cdv) E)
    (C : Cx (hd.heap_39 w.params) p loose mean mg mb (d + 6) dp un lwScope outer A₀ base h₀ L (fun y => if y = Str.ofString "steps" then some (.ref St) else m y) s.heap)
    (N : News h₀ L s.heap [(Nm, oNm), (O, oO), (St, W.listOf ws.toArray 0), (L + 1 + 1, oN), (L + 1, oC)]) (hws : IntsAre ws (stp ns))
    (l1 : L + 1 + 1 < St) (l2 : St < O) (n1 : O ≠ Nm) (n2 : St ≠ Nm) (n3 : L + 1 + 1 ≠ Nm) (n4 : L + 1 ≠ Nm)
    (hq : ∀ h tk Rw r0 r1 n0 n1 n2 vs0 vs1, Fr h₀ L h (fun y => if y = Str.ofString "rows" then some (.ref Rw) else if y = Str.ofString "steps" then some (.ref St) else m y) → IntsAre vs0 (rowE ns) → IntsAre vs1 (rowF ns) →
      News h₀ L h [(Rw, { cls := .type "list", data := .seq #[.ref r0, .ref r1] n0 }), (r1, { cls := .type "list", data := .seq vs1.toArray n2 }), (r0, { cls := .type "list", data := .seq vs0.toArray n1 }), (Nm, oNm), (O, oO), (St, W.listOf ws.toArray 0), (L + 1 + 1, oN), (L + 1, oC)] → Qf .next { s with heap := h, toks := tk }) :
    wpAny (model PySem.Challenge.pw_rt0089_01 w) (ktrTop dp un gd (Str.ofString "law") lwScope L fa cdv (cellsFrom (L + 1) lwScope.names []) outer) (exec (lwS 5) (envOfC (Str.ofString "law") lwScope L fa cdv)) Qf E s := by
  k_with_none
  conv at C in (occs := *) lwScope => all_goals whnf
  conv at hE in (occs := *) lwScope => all_goals whnf
  conv in (occs := *) lwScope => all_goals whnf
  conv in (occs := *) lwS _ => all_goals whnf
  have X' := C.X; have T' := C.T; have B' := C.B; have F' := C.F
  have hl := stp_len ns
  have hl2 := hws.length
  k_steps
  (with_reducible (rename Fr _ _ _ _ => eF)); (with_reducible (rename News _ _ _ _ => eN))
  exact hq _ _ _ _ _ _ _ _ _ _ eF (ints_cast (f := fun x => x.fmod 2) (by with_reducible assumption) kindA_eq) (ints_cast (f := fun x => if (x.fdiv 2).fmod 4 = 3 then (x + 1).fmod 2 else (x + 0).fmod 2) (by with_reducible assumption) kindB_eq) eN
end
end Mine
end

-- W15d
section
open PySem PySem.W PyProof.Rows PySem.Calls
set_option linter.unusedVariables false
set_option maxRecDepth 100000
set_option maxHeartbeats 40000000
namespace Mine
theorem fillK_W15d : (fun (_ : Params → Frag) (_ : OpenLaw) => True) hd.heap_39 PySem.Challenge.rw_rt0089_01 := by k_fill; trivial
theorem qs_start {o : Nat} (ho : o < 256) : Txt.startswith (qs o) (Str.ofString "/") = false := (show ∀ o < 256, Txt.startswith (qs o) (Str.ofString "/") = false by decide +kernel) o ho
theorem wayS_os5 {a b : Nat} (ha : a < 256) (hb : b < 256) {ks : List Int} (h5 : 5 ≤ ks.length) (hk : ∀ k ∈ ks, k = 0 ∨ k = 1) : wayS (qs a) (qs b) ks = wS (osOf a b ks) := wayS_os ha hb (ks.length - 1) ks (by omega) hk
section
variable {w : World} {p : Program} {loose : List Str} {mean : ExcName → Option Value} {mg mb : Str → Option Value} {d dp un : Nat} {gd : Option (List Code)} {cn : Str} {cs : Scope} {a : Addr} {ccd : Value} {cl : List (Str × Addr)} {outer : List Env} {A₀ : Around} {base h₀ : Heap} {L : Addr} {m : Str → Option Value} {s : Shared} {Q E : Value → Shared → Prop}
set_option maxHeartbeats 40000000 in
theorem law_d {oa ob n0 n1 n2 n3 : Nat} {ta tb : Tok} {ks0 ks1 : List Int} {vs0 vs1 : List Value} {St O Nm Rw r0 r1 fa : Addr} {cdv : Value} {oO oN oC oS : Obj} {Qf : Flow → Shared → Prop}
    (ha : oa < 256) (hb : ob < 256) (h50 : 5 ≤ ks0.length) (h70 : ks0.length ≤ 7) (h51 : 5 ≤ ks1.length) (h71 : ks1.length ≤ 7) (hk0 : ∀ k ∈ ks0, k = 0 ∨ k = 1) (hk1 : ∀ k ∈ ks1, k = 0 ∨ k = 1)
    (hE : PassesOwn (model PySem.Challenge.pw_rt0089_01 w) (ktrTop dp un gd (Str.ofString "law") lwScope L fa cdv (cellsFrom (L + 1) lwScope.names []) outer) (envOfC (Str.ofString "law") lwScope L fa cdv) E)
    (C : Cx (hd.heap_39 w.params) p loose mean mg mb (d + 6) dp un lwScope outer A₀ base h₀ L (fun y => if y = Str.ofString "rows" then some (.ref Rw) else m y) s.heap)
    (hi0 : IntsAre vs0 ks0) (hi1 : IntsAre vs1 ks1)
    (N : News h₀ L s.heap [(Rw, { cls := .type "list", data := .seq #[.ref r0, .ref r1] n0 }), (r1, { cls := .type "list", data := .seq vs1.toArray n2 }), (r0, { cls := .type "list", data := .seq vs0.toArray n1 }), (Nm, { cls := .type "list", data := .seq #[.str (qs oa) ta, .str (qs ob) tb] n3 }), (O, oO), (St, oS), (L + 1 + 1, oN), (L + 1, oC)]) (dN : oN.data = Data.cell (some (.ref Nm)))
    (hq : ∀ h tk Wy k0 t0 t1, Fr h₀ L h (fun y => if y = Str.ofString "ways" then some (.ref Wy) else if y = Str.ofString "rows" then some (.ref Rw) else m y) →
      News h₀ L h [(Wy, { cls := .type "list", data := .seq #[.str (wS (osOf oa ob ks0)) t0, .str (wS (osOf oa ob ks1)) t1] k0 }), (Rw, { cls := .type "list", data := .seq #[.ref r0, .ref r1] n0 }), (r1, { cls := .type "list", data := .seq vs1.toArray n2 }), (r0, { cls := .type "list", data := .seq vs0.toArray n1 }), (Nm, { cls := .type "list", data := .seq #[.str (qs oa) ta, .str (qs ob) tb] n3 }), (O, oO), (St, oS), (L + 1 + 1, oN), (L + 1, oC)] → Qf .next { s with heap := h, toks := tk }) :
    wpAny (model PySem.Challenge.pw_rt0089_01 w) (ktrTop dp un gd (Str.ofString "law") lwScope L fa cdv (cellsFrom (L + 1) lwScope.names []) outer) (exec (lwS 6) (envOfC (Str.ofString "law") lwScope L fa cdv)) Qf E s := by
  k_with_none
  k_with "call ref" => (k_dflt (k_extra "call"))
  k_with "exec Assign cons ListComp" => ((k_here; k_dflt (refine LCg.Assign_ListComp_U (F₀ := by k_asm) (by rfl) (by with_unfolding_all rfl) (by with_unfolding_all rfl) (by decide) (by rfl) (by decide) (by rfl) (by rfl) (by rfl) ?_); k_dflt lcg_toSrc))
  k_with "CompSrc" => ((k_here; k_dflt (refine LCg.CompSrc.ledger (by rfl) (by k_asm) (by k_asm) (by k_mem) (Nat.le_of_ble_eq_true rfl) ?_; intro g'; lcg_lit)))
  k_with "CompEnd" => (k_dflt (((with_reducible (rename Fr _ _ _ _ => eF)); (with_reducible (rename News _ _ _ _ => eN)); refine LCg.CompEnd.intro eF eN _ (fun p hp => hp) ?offW15d ?srcW15d ?_; (case offW15d => (rename (((_ ≠ _) ∧ _ ∧ _) ∧ _) => of8; simpa only [LCg.Off3, and_true] using of8)); (case srcW15d => exact Or.inr ⟨_, by k_mem, rfl, _, rfl⟩))))
  conv at C in (occs := *) lwScope => all_goals whnf
  conv at hE in (occs := *) lwScope => all_goals whnf
  conv in (occs := *) lwScope => all_goals whnf
  conv in (occs := *) lwS _ => all_goals whnf
  have X' := C.X; have T' := C.T; have B' := C.B; have F' := C.F
  have e0 := wayS_os5 ha hb h50 hk0
  have e1 := wayS_os5 ha hb h51 hk1
  k_with "call" => (
    k_here
    (with_reducible show wpAny _ _ (call (Value.ref 225) _) _ _ _)
    (with_reducible (rename Fr _ _ _ _ => cF)); (with_reducible (rename News _ _ _ _ => cN))
    first
    | (refine c_law_way (x := qs oa) (y := qs ob) (ks := ks0) (Nat.le_of_ble_eq_true rfl) (Nat.le_of_ble_eq_true rfl) (qs_start ha) (qs_start hb) (by omega) (Cx.at C cF (by omega)) (News.isList cN (by k_mem)) (News.isList cN (by k_mem)) hi0 hk0 ?_
       rw [e0])
    | (refine c_law_way (x := qs oa) (y := qs ob) (ks := ks1) (Nat.le_of_ble_eq_true rfl) (Nat.le_of_ble_eq_true rfl) (qs_start ha) (qs_start hb) (by omega) (Cx.at C cF (by omega)) (News.isList cN (by k_mem)) (News.isList cN (by k_mem)) hi1 hk1 ?_
       rw [e1])
    intro t2 h2 tk2 st2
    (have F2 := fr_stays cF st2); (have N2 := news_stays cN st2); (clear st2); (try k_sweep); (try dsimp only))
  k_steps

  (with_reducible (rename Fr _ _ _ _ => eF)); (with_reducible (rename News _ _ _ _ => eN))
  exact hq _ _ _ _ _ _ eF eN
end
end Mine
end

-- W9
section
open PySem PySem.W PyProof.Rows PySem.Calls
set_option linter.unusedVariables false
set_option maxRecDepth 100000
set_option maxHeartbeats 40000000
namespace Mine
theorem fillK_W9 : (fun (_ : Params → Frag) (_ : OpenLaw) => True) hd.heap_39 PySem.Challenge.rw_rt0089_01 := by k_fill; trivial
section
variable {prog : Program} {w : World} {A : Around} {E : Value → Shared → Prop} {s : Shared} {x y : Str} {t u : Tok} {h₀ : Heap} {L : Addr} {m : Str → Option Value} {news : List (Addr × Obj)} {Q : Value → Shared → Prop}
theorem splitlines1 (hF : Fr h₀ L s.heap m) (hN : News h₀ L s.heap news) (hw : (lineCuts x == [(0, x.length)]) = true) (hsz : x.length ≤ sizeLine)
    (h : ∀ D h', Fr h₀ L h' m → News h₀ L h' ((D, W.listOf #[.str x t] 0) :: news) → (∀ p ∈ news, p.1 < D) → Q (.ref D) { s with heap := h' }) :
    wpAny (model prog w) A (call (.builtin "str.splitlines") [.str x t]) Q E s := by
  refine call_meets F.slot_str_splitlines (typeIs_str _ _ _) F.entry_str_splitlines (F.args_str_splitlines_1 _) (meets_str_splitlines x t hsz (by rw [eq_of_beq hw]; show 1 ≤ sizeLine; decide)) ?_
  simp only [hw, if_true]
  exact h _ _ (Fr.pushS hF _) (News.push hF hN _) fun p hp => Heap.lt_size (hN p hp).1
theorem rstrip1 (hw : PySem.stripSame Unicode.isSpace false true x = true) (h : Q (.str x t) s) : wpAny (model prog w) A (call (.builtin "str.rstrip") [.str x t]) Q E s := by
  refine call_gives F.slot_str_rstrip (typeIs_str _ _ _) F.entry_str_rstrip (F.args_str_rstrip_1 _) (PySem.gives_strip_space "rstrip" false true x t) ?_
  rw [if_pos hw]
  exact h
end
noncomputable def dkl (os : List Nat) (k ph : Nat) : List Nat := (os.take k).flatMap (fun o => [47, o]) ++ (if ph = 1 then [47] else []) ++ (if k = os.length then [10] else [])
theorem dkl_zero {os : List Nat} (h : 1 ≤ os.length) : dkl os 0 0 = [] := by
  unfold dkl; rw [if_neg (by omega), if_neg (by omega)]; rfl
noncomputable def fl (os : List Nat) : List Nat := os.flatMap fun o => [47, o]
theorem dkl_end (os : List Nat) : dkl os os.length 0 = fl os ++ [10] := by
  unfold dkl fl; rw [List.take_length, if_pos rfl, if_neg (by omega), List.append_nil]
theorem fl_len (os : List Nat) : (fl os).length = 2 * os.length := by
  induction os with
  | nil => rfl
  | cons o r ih => show (47 :: o :: fl r).length = _; simp only [List.length_cons, ih]; omega
theorem fl_short {os : List Nat} (h : os.length ≤ 9) : (tS (fl os ++ [10])).length ≤ 1000 := by rw [tS_len, List.length_append, fl_len, List.length_singleton]; omega
theorem dkl_short {os : List Nat} (h : os.length ≤ 9) (k p : Nat) : (tS (dkl os k p)).length ≤ 1000 := by
  have h1 : ((os.take k).flatMap fun o => [47, o]).length = 2 * (os.take k).length := fl_len _
  have h2 : (os.take k).length ≤ os.length := by rw [List.length_take]; exact Nat.min_le_right _ _
  rw [tS_len]
  unfold dkl
  rw [List.length_append, List.length_append, h1]
  have h3 : (if p = 1 then [47] else [] : List Nat).length ≤ 1 := by split <;> decide
  have h4 : (if k = os.length then [10] else [] : List Nat).length ≤ 1 := by split <;> decide
  omega
theorem dk_a {os : List Nat} {k : Nat} (h : k < os.length) : tS (dkl os k 0) ++ tS [47] = tS (dkl os k 1) := by
  rw [tS_app]; unfold dkl
  rw [if_neg (by omega), if_neg (by omega), if_pos rfl]; simp
theorem dk_take {os : List Nat} {k o : Nat} (h : os[k]? = some o) : (os.take (k + 1)).flatMap (fun o => [47, o]) = (os.take k).flatMap (fun o => [47, o]) ++ [47, o] := by
  rw [List.take_add_one, h]; simp
theorem dk_b {os : List Nat} {k o : Nat} (h : os[k]? = some o) (hn : ¬ k + 1 = os.length) : tS (dkl os k 1) ++ tS [o] = tS (dkl os (k + 1) 0) := by
  have hk := (List.getElem?_eq_some_iff.mp h).1
  rw [tS_app]; unfold dkl
  rw [dk_take h, if_neg (by omega : ¬ k = os.length), if_pos rfl, if_neg (by omega), if_neg hn]; simp
theorem dk_c {os : List Nat} {k o : Nat} (h : os[k]? = some o) (hn : k + 1 = os.length) : (tS (dkl os k 1) ++ tS [o]) ++ Str.ofString "\n" = tS (dkl os (k + 1) 0) := by
  rw [show Str.ofString "\n" = tS [10] by decide +kernel]
  have hk := (List.getElem?_eq_some_iff.mp h).1
  rw [tS_app, tS_app]; unfold dkl
  rw [dk_take h, if_neg (by omega : ¬ k = os.length), if_pos rfl, if_neg (by omega), if_pos hn]; simp
theorem dk_cases {os : List Nat} {k p : Nat} (ho : ∀ o ∈ os, o < 256) (h : p = 0 ∧ k ≤ os.length ∨ p = 1 ∧ k < os.length) :
    (p = 0 ∧ k < os.length ∧ ∃ o, os[k]? = some o ∧ o < 256) ∨ (p = 0 ∧ k = os.length) ∨ (p = 1 ∧ k < os.length ∧ ∃ o, os[k]? = some o ∧ o < 256) := by
  have key : k < os.length → ∃ o, os[k]? = some o ∧ o < 256 := fun h => ⟨_, List.getElem?_eq_getElem h, ho _ (List.getElem_mem h)⟩
  rcases h with ⟨h1, h2⟩ | ⟨h1, h2⟩
  · rcases Nat.lt_or_ge k os.length with h3 | h3
    · exact .inl ⟨h1, h3, key h3⟩
    · exact .inr (.inl ⟨h1, by omega⟩)
  · exact .inr (.inr ⟨h1, h2, key h2⟩)
section
variable {w : World} {p : Program} {loose : List Str} {mean : ExcName → Option Value} {mg mb : Str → Option Value} {d dp un : Nat} {gd : Option (List Code)} {cn : Str} {cs : Scope} {a : Addr} {ccd : Value} {cl : List (Str × Addr)} {outer : List Env} {A₀ : Around} {base h₀ : Heap} {L : Addr} {m : Str → Option Value} {s : Shared} {Q E : Value → Shared → Prop}
set_option maxHeartbeats 3000000 in
theorem c_decode {os : List Nat} {t : Tok} (h1 : os ≠ []) (h2 : os.length ≤ 9) (ho : ∀ o ∈ os, o < 256) (C : Cx (hd.heap_39 w.params) p loose mean mg mb (2) dp un cs outer A₀ base h₀ L m s.heap) (hret : ∀ t, Gives s Q (.str (tS (fl os)) t)) : wpAny (model PySem.Challenge.pw_rt0089_01 w) (ktrTop dp un gd cn cs L a ccd cl outer) (call (.ref 119) [.str (wS os) t]) Q E s := by
  k_with_none
  k_with "exec While" => (k_extra "while")
  k_with "truthy str" => ((k_here; (with_reducible show wpAny _ _ (truthy (Value.str _ _)) _ _ _); (refine KXt.truthy_pos (by assumption) (by assumption) (by decide) ?_); intro _))
  k_with "call builtin:str.splitlines" => (k_extra "spl")
  k_with "call builtin:str.rstrip" => (k_extra "rs")
  k_with "subscriptTail Name Name str int" => ((k_here; (with_reducible show wpAny _ _ (subscriptTail _ _ (Value.str _ _) (Value.int _ _)) _ _ _); first
  | (refine item_way0 (by with_reducible assumption) (by omega) (by assumption) ?_)
  | (refine item_way1 (by with_reducible assumption) (by omega) (by assumption) ?_)
  | (refine item_way2 (by with_reducible assumption) (by omega) (by assumption) ?_)
  | (refine item_way3 (by with_reducible assumption) (by omega) (by assumption) ?_)))
  k_with "subscriptTail Name BinOp str int" => ((k_here; (with_reducible show wpAny _ _ (subscriptTail _ _ (Value.str _ _) (Value.int _ _)) _ _ _); first
  | (refine item_way0 (by with_reducible assumption) (by omega) (by assumption) ?_)
  | (refine item_way1 (by with_reducible assumption) (by omega) (by assumption) ?_)
  | (refine item_way2 (by with_reducible assumption) (by omega) (by assumption) ?_)
  | (refine item_way3 (by with_reducible assumption) (by omega) (by assumption) ?_)))
  k_with "compareOp In str str" => ((k_here; refine in_hex (by omega) ?_))
  k_with "call ref" => ((k_here; (with_reducible show wpAny _ _ (call (Value.ref 99) _) _ _ _); rw [slice_way (by with_reducible assumption) (by omega) (by omega)]; (refine c_unquote (by assumption) (Cx.at (by assumption) (by k_asm) (by omega)) ?_); (intro t2 h2 tk2 st2); (have F2 := fr_stays (by k_asm) st2); (have N2 := news_stays (by k_asm) st2); (try clear st2); (try k_sweep); (try dsimp only)))
  k_with "subscriptTail Name UnaryOp str int" => ((k_here; (with_reducible show wpAny _ _ (subscriptTail _ _ (Value.str _ _) (Value.int _ _)) _ _ _); refine item_last (by assumption) (by assumption) (by assumption) ?_; intro c' hc'))
  k_with "compareOp NotIn str str" => ((k_here; refine notin_crlf (by assumption) ?_))
  k_with "call builtin:str.endswith" => ((k_here; (with_reducible show wpAny _ _ (call (Value.builtin "str.endswith") _) _ _ _); refine ends_with (ends_nl _) ?_))
  k_with "KswEnd" => (k_extra "kswend")
  have hl0 : 1 ≤ os.length := List.length_pos_iff.mpr h1
  have hl1 : 1 ≤ (wS os).length := by rw [wS_len]; omega
  have hl2 : (wS os).length ≤ 1000 := by rw [wS_len]; omega
  have hl3 := wS_lines h1 ho
  have hl4 := wS_rstrip h1 ho
  have hl5 : (wS os).length ≤ sizeLine := by rw [sizeLine_eq]; omega
  refine' enter (binds := [(Str.ofString "encoded", .str (wS os) t), (Str.ofString "eol", .str (Str.ofString "\n") 527)]) C ?k6 ?k7 ?k9 ?kB ?_ ?c5 ?c2 ?c3 ?c4
  (case k6 => k_is); (case k7 => k_is); (case k9 => exact kp_binds (C.X.keeps C.F.keep) (fun _ => rfl)); (case c5 => decide); (case kB => exact locs rfl); (case c2 => exact rfl); (case c3 => exact rfl); (case c4 => exact rfl)
  intro g L' h₁ tk hg hg' F' N' C'
  have X' := C'.X; have T' := C'.T; have B' := C'.B
  (try dsimp only at F'); (try k_fold)
  k_with "spl" => (k_here; (with_reducible show wpAny _ _ (call (Value.builtin "str.splitlines") _) _ _ _); (refine splitlines1 (by k_asm) (by k_asm) (by assumption) (by assumption) ?_); intro D' h' F' N' l1; (try k_lt l1); (try k_sweep))
  have hl6 := wS_len os
  have hl7 : Txt.rstrip (wS os) = wS os := if_pos hl4
  k_with "rs" => (k_here; (with_reducible show wpAny _ _ (call (Value.builtin "str.rstrip") _) _ _ _); (refine rstrip1 (by assumption) ?_))
  k_with "while" => (first | (
    (rename Fr _ _ _ _ => lF8); (rename News _ _ _ _ => lN8)
    refine' W.ksw_while (σ := Nat × Nat × Tok × Tok) (fun _ => _) (fun c => [(Str.ofString "i", .int ((4 * c.1 + c.2.1 : Nat) : Int) c.2.2.1), (Str.ofString "decoded", .str (tS (dkl os c.1 c.2.1)) c.2.2.2)]) (fun _ => True) [Str.ofString "c"] (fun c => c.2.1 = 0 ∧ c.1 ≤ os.length ∨ c.2.1 = 1 ∧ c.1 < os.length) (fun c => 2 * (os.length - c.1) - c.2.1) (0, 0, _, _) lF8 lN8 trivial ?kk ?kp ?turn
    (case kk => rw [dkl_zero hl0]; kst_all)
    (case kp => exact .inl ⟨rfl, by omega⟩)
    (case' turn => (
      clear lF8 lN8
      intro c9 u9 h9 tk9 _ hP9 F9 N9
      obtain ⟨k9, p9, ti9, td9⟩ := c9
      dsimp only [kstB] at F9
      dsimp only at hP9 F9 N9
      try k_fold
      rcases dk_cases ho hP9 with ⟨rfl, hk8, o9, ho9, hb9⟩ | ⟨rfl, hk7⟩ | ⟨rfl, hk8, o9, ho9, hb9⟩
      all_goals have hd9 := dkl_short h2 k9 0
      all_goals have hd8 := dkl_short h2 k9 1
      all_goals have hd7 := fl_short h2
      all_goals have hd6 : (tS [47]).length ≤ 1000 := by decide
      all_goals (try (rw [hk7, dkl_end] at F9)))))                         | fail "stop")
  k_with "kswend" => (
    (rename Fr _ _ _ _ => eF); (rename News _ _ _ _ => eN)
    first
    | (exfalso; omega)
    | (have hk6 : k9 + 1 = os.length := by omega
       (with_unfolding_all refine' kend_is (k9 + 1, 0, _, _) eF eN (by rfl) (by rfl) (by rfl) ?e1 ?e2 (fun p hp => hp) trivial (by ksw_same) (.inl ⟨rfl, by dsimp only; omega⟩) ?mu; (case e1 => (try dsimp only); omega); (case e2 => exact dk_c ho9 hk6); (case mu => (dsimp only; omega))))
    | (have hk6 : ¬ k9 + 1 = os.length := by omega
       (with_unfolding_all refine' kend_is (k9 + 1, 0, _, _) eF eN (by rfl) (by rfl) (by rfl) ?e1 ?e2 (fun p hp => hp) trivial (by ksw_same) (.inl ⟨rfl, by dsimp only; omega⟩) ?mu; (case e1 => (try dsimp only); omega); (case e2 => exact dk_b ho9 hk6); (case mu => (dsimp only; omega))))
    | ((with_unfolding_all refine' kend_is (k9, 1, _, _) eF eN (by rfl) (by rfl) (by rfl) ?e1 ?e2 (fun p hp => hp) trivial (by ksw_same) (.inr ⟨rfl, hk8⟩) ?mu; (case e1 => (try dsimp only); omega); (case e2 => exact dk_a hk8); (case mu => (dsimp only; omega))))
    )
  k_steps
  rw [show Txt.slice (tS (fl os ++ [10])) none (some (-((1 : Nat) : Int))) = tS (fl os) from cut_nl _]
  (try dsimp only); (try k_unfold); (try dsimp only); (rename Fr _ _ _ _ => kF9); exact hret _ _ _ (fun b o e => kF9.keep b o (hg b o e))
end
end Mine
end

-- W15e
section
open PySem PySem.W PyProof.Rows PySem.Calls
set_option linter.unusedVariables false
set_option maxRecDepth 100000
set_option maxHeartbeats 40000000
namespace Mine
theorem fillK_W15e : (fun (_ : Params → Frag) (_ : OpenLaw) => True) hd.heap_39 PySem.Challenge.rw_rt0089_01 := by k_fill; trivial
theorem castN {h₀ : Heap} {L K : Addr} {h : Heap} {news : List (Addr × Obj)} (e : L = K) (N : News h₀ L h news) : News h₀ K h news := e ▸ N
theorem castE {h₀ : Heap} {L K : Addr} {h : Heap} {m : Str → Option Value} (e : L = K) (F : Fr h₀ L h m) : Fr h₀ K h m := e ▸ F
noncomputable def OctAre (vs : List Value) (zs : List Nat) : Prop := ∃ l : List (Str × Tok), vs = strValues l ∧ l.map (·.1) = zs.map fun o => tS [47, o]
theorem OctAre.nil : OctAre [] [] := ⟨[], rfl, rfl⟩
theorem OctAre.zero {a b : Nat} {ks : List Int} : OctAre [] (osOf a b (ks.take 0)) := by rw [List.take_zero]; exact OctAre.nil
theorem os_step {a b : Nat} {ks : List Int} {i : Nat} {k : Int} (hk : ks[i]? = some k) : osOf a b (ks.take (i + 1)) = osOf a b (ks.take i) ++ [ocOf a b k.toNat] := by
  rw [List.take_add_one, hk]; exact os_snoc ..
theorem OctAre.step {a b : Nat} {ks : List Int} {i : Nat} {k : Int} {ys : List Value} {x : Str} {t : Tok} (h : OctAre ys (osOf a b (ks.take i))) (hk : ks[i]? = some k) (e : x = tS [47, ocOf a b k.toNat]) : OctAre (ys ++ [.str x t]) (osOf a b (ks.take (i + 1))) := by
  obtain ⟨l, rfl, e1⟩ := h
  refine ⟨l ++ [(x, t)], by simp [strValues], ?_⟩
  rw [os_step hk, List.map_append, List.map_append, e1, e]; rfl
theorem ocOf_lt {a b k : Nat} (ha : a < 256) (hb : b < 256) : ocOf a b k < 256 := by unfold ocOf; split <;> assumption
section
variable {prog : Program} {w : World} {A : Around} {E : Value → Shared → Prop} {s : Shared} {t u : Tok} {h₀ : Heap} {L D : Addr} {m : Str → Option Value} {news : List (Addr × Obj)} {value slice : PySem.Expr}
theorem item_oct {l : Addr} {a b : Nat} {ta tb : Tok} {k : Int} {Q : Value → Shared → Prop} (hl : s.heap.IsList l #[.int (a : Nat) ta, .int (b : Nat) tb]) (hk : k = 0 ∨ k = 1) (h : ∀ t, Q (.int ((ocOf a b k.toNat : Nat) : Int) t) s)
    (he : subscripted slice false (.ref l) (.int k u) = operate [.ref l, .int k u] (getItem (.ref l) (.int k u)) := by with_unfolding_all rfl) (hg : ∀ r, letTemporaryGo value (.ref l) r = pure () := by intro _; with_unfolding_all rfl) :
    wpAny (model prog w) A (subscriptTail value slice (.ref l) (.int k u)) Q E s := by
  rcases hk with rfl | rfl
  · exact item_any 0 (vs := [.int (a : Nat) ta, .int (b : Nat) tb]) hl rfl rfl (by decide) (h ta) he hg
  · exact item_any 1 (vs := [.int (a : Nat) ta, .int (b : Nat) tb]) hl rfl rfl (by decide) (h tb) he hg
theorem join_oct {D : Addr} {vs : List Value} {n : Nat} {zs : List Nat} {Q : Value → Shared → Prop} (N : News h₀ L s.heap news) (hm : (D, ({ cls := .type "list", data := .seq vs.toArray n } : Obj)) ∈ news) (hz : OctAre vs zs) (hl : zs.length ≤ 9)
    (hq : ∀ t' k, Q (.str (tS (fl zs)) t') { s with toks := k }) : wpAny (model prog w) A (call (.builtin "str.join") [.str (Str.ofString "") t, .ref D]) Q E s := by
  obtain ⟨l, rfl, e⟩ := hz
  refine join_tS (zs.map fun o => [47, o]) (News.isList N hm) (by rw [e, List.map_map]; rfl) (fun a ha => ?_) (by rw [List.length_map]; omega) fun t' k => ?_
  · obtain ⟨o, _, rfl⟩ := List.mem_map.mp ha
    exact Nat.le_of_ble_eq_true rfl
  · exact hq t' k
theorem add_oct {o : Nat} {Q : Value → Shared → Prop} (h : ∀ t' k, Q (.str (tS [47, o]) t') { s with toks := k }) : wpAny (model prog w) A (binaryOp .Add (.str (Str.ofString "/") t) (.str ⟨#[o]⟩ u)) Q E s := by
  refine KXadd.add (K := 1) (L := 1) (Nat.le_of_ble_eq_true rfl) (Nat.le_of_ble_eq_true rfl) (Nat.le_of_ble_eq_true rfl) fun t' k _ => ?_
  have e : Str.ofString "/" ++ (⟨#[o]⟩ : Str) = tS [47, o] := by
    rw [show Str.ofString "/" = tS [47] by decide +kernel]
    exact tS_app [47] [o]
  rw [e]
  exact h t' k
theorem ne_same_str {x : Str} {Q : Value → Shared → Prop} (h : Q (.bool false) s) : wpAny (model prog w) A (compareOp .NotEq (.str x t) (.str x u)) Q E s :=
  P.ne_str (by
    have q : (x.cps.toList != x.cps.toList) = false := by simp
    rw [q]; exact h)
end
section
variable {w : World} {p : Program} {loose : List Str} {mean : ExcName → Option Value} {mg mb : Str → Option Value} {d dp un : Nat} {gd : Option (List Code)} {cn : Str} {cs : Scope} {a : Addr} {ccd : Value} {cl : List (Str × Addr)} {outer : List Env} {A₀ : Around} {base h₀ : Heap} {L : Addr} {m : Str → Option Value} {s : Shared} {Q E : Value → Shared → Prop}
set_option maxHeartbeats 40000000 in
theorem law_e {oa ob n0 n1 n2 n3 n4 k0 : Nat} {ta tb tc td t0 t1 : Tok} {ks0 ks1 : List Int} {vs0 vs1 : List Value} {St O Nm Rw Wy r0 r1 fa : Addr} {cdv : Value} {oN oC oS : Obj} {Qf : Flow → Shared → Prop}
    (ha : oa < 256) (hb : ob < 256) (h50 : 5 ≤ ks0.length) (h70 : ks0.length ≤ 7) (h51 : 5 ≤ ks1.length) (h71 : ks1.length ≤ 7) (hk0 : ∀ k ∈ ks0, k = 0 ∨ k = 1) (hk1 : ∀ k ∈ ks1, k = 0 ∨ k = 1)
    (hE : PassesOwn (model PySem.Challenge.pw_rt0089_01 w) (ktrTop dp un gd (Str.ofString "law") lwScope L fa cdv (cellsFrom (L + 1) lwScope.names []) outer) (envOfC (Str.ofString "law") lwScope L fa cdv) E)
    (C : Cx (hd.heap_39 w.params) p loose mean mg mb (d + 6) dp un lwScope outer A₀ base h₀ L (fun y => if y = Str.ofString "ways" then some (.ref Wy) else if y = Str.ofString "rows" then some (.ref Rw) else m y) s.heap)
    (hi0 : IntsAre vs0 ks0) (hi1 : IntsAre vs1 ks1)
    (N : News h₀ L s.heap [(Wy, { cls := .type "list", data := .seq #[.str (wS (osOf oa ob ks0)) t0, .str (wS (osOf oa ob ks1)) t1] k0 }), (Rw, { cls := .type "list", data := .seq #[.ref r0, .ref r1] n0 }), (r1, { cls := .type "list", data := .seq vs1.toArray n2 }), (r0, { cls := .type "list", data := .seq vs0.toArray n1 }), (Nm, { cls := .type "list", data := .seq #[.str (qs oa) ta, .str (qs ob) tb] n3 }), (O, { cls := .type "list", data := .seq #[.int (oa : Nat) tc, .int (ob : Nat) td] n4 }), (St, oS), (L + 1 + 1, oN), (L + 1, oC)])
    (dC : oC.data = Data.cell (some (.ref O))) (dN : oN.data = Data.cell (some (.ref Nm)))
    (hq : ∀ h tk m', Fr h₀ L h m' → m' (Str.ofString "ways") = some (.ref Wy) → m' (Str.ofString "rows") = some (.ref Rw) →
      News h₀ L h [(Wy, { cls := .type "list", data := .seq #[.str (wS (osOf oa ob ks0)) t0, .str (wS (osOf oa ob ks1)) t1] k0 }), (Rw, { cls := .type "list", data := .seq #[.ref r0, .ref r1] n0 }), (r1, { cls := .type "list", data := .seq vs1.toArray n2 }), (r0, { cls := .type "list", data := .seq vs0.toArray n1 }), (Nm, { cls := .type "list", data := .seq #[.str (qs oa) ta, .str (qs ob) tb] n3 }), (O, { cls := .type "list", data := .seq #[.int (oa : Nat) tc, .int (ob : Nat) td] n4 }), (St, oS), (L + 1 + 1, oN), (L + 1, oC)] → Qf .next { s with heap := h, toks := tk }) :
    wpAny (model PySem.Challenge.pw_rt0089_01 w) (ktrTop dp un gd (Str.ofString "law") lwScope L fa cdv (cellsFrom (L + 1) lwScope.names []) outer) (exec (lwS 7) (envOfC (Str.ofString "law") lwScope L fa cdv)) Qf E s := by
  k_with_none
  k_with "call ref" => (k_extra "call")
  k_with "eval ListComp" => ((k_here; k_dflt (refine LCg.ListComp_U (F₀ := by k_asm) (by with_unfolding_all rfl) (by decide) (by rfl) (by decide) (by rfl) ?_); k_dflt lcg_toSrc))
  k_with "CompSrc" => (k_extra "src")
  k_with "CompEnd" => (k_extra "cend")
  k_with "call builtin:str.join" => (k_extra "join")
  k_with "subscriptTail Name Name ref int" => (k_extra "item")
  k_with "binaryOp Add str str" => ((k_here; refine add_oct ?_; intro t9' k9'))
  k_with "compareOp NotEq str str" => ((k_here; refine ne_same_str ?_))
  conv at C in (occs := *) lwScope => all_goals whnf
  conv at hE in (occs := *) lwScope => all_goals whnf
  conv in (occs := *) lwScope => all_goals whnf
  conv in (occs := *) lwS _ => all_goals whnf
  have X' := C.X; have T' := C.T; have B' := C.B; have F' := C.F
  have z0 : (osOf oa ob ks0).length = ks0.length := by simp [osOf]
  have z1 : (osOf oa ob ks1).length = ks1.length := by simp [osOf]
  have y0 : osOf oa ob ks0 ≠ [] := by intro q; rw [q] at z0; simp at z0; omega
  have y1 : osOf oa ob ks1 ≠ [] := by intro q; rw [q] at z1; simp at z1; omega
  have x0 := hi0.length
  have x1 := hi1.length
  have v0 := os_small ha hb ks0
  have v1 := os_small ha hb ks1
  k_with "call" => (
    k_here
    (with_reducible show wpAny _ _ (call (Value.ref 119) _) _ _ _)
    (with_reducible (rename Fr _ _ _ _ => cF)); (with_reducible (rename News _ _ _ _ => cN))
    first
    | (refine c_decode (os := osOf oa ob ks0) y0 (by omega) v0 (Cx.at C (castE (K := L) (by with_unfolding_all rfl) cF) (by omega)) ?_)
    | (refine c_decode (os := osOf oa ob ks1) y1 (by omega) v1 (Cx.at C (castE (K := L) (by with_unfolding_all rfl) cF) (by omega)) ?_)
    intro t2 h2 tk2 st2
    (have F2 := fr_stays cF st2); (have N2 := news_stays cN st2); (clear st2); (try k_sweep); (try dsimp only))
  k_with "src" => (first
    | ((with_reducible show LCg.CompSrc _ _ _ _ _ _ _ _ _ _ _ _ (Value.ref r0) _); (
       k_dflt (refine LCg.CompSrc.ledger (its := vs0.toArray) (by rfl) (by k_asm) (by k_asm) (by k_mem) (by rw [sizeLine_eq]; simp; omega) ?_)
       intro g'
       refine' compU_ind (Rel := fun i ys nw => OctAre ys (osOf oa ob (ks0.take i)) ∧ nw = _) ⟨OctAre.zero, rfl⟩ ?step0 ?fin0
       (case' step0 => (intro i9 ys9 nw9 hi9 hR9 v' I' oI' C' oC' D' m' h' tk' E' hv' hC' hx' F' N' off' ne'; obtain ⟨hys9, rfl⟩ := hR9; obtain ⟨n9, t9, rfl, hn9⟩ := hi0.at _ _ (by simpa using hv'); have hk9 := hk0 _ (List.mem_of_getElem? hn9); have hb9 : ocOf oa ob n9.toNat < 256 := ocOf_lt ha hb))
       (case' fin0 => (intro ys9 nw9 hR9; (try unfold LCg.FinE); intro D9 h9 tk9 F9 N9 o9; obtain ⟨hys9, rfl⟩ := hR9; rw [List.size_toArray, x0, List.take_length] at hys9; (try dsimp only)))))
    | ((with_reducible show LCg.CompSrc _ _ _ _ _ _ _ _ _ _ _ _ (Value.ref r1) _); (
       k_dflt (refine LCg.CompSrc.ledger (its := vs1.toArray) (by rfl) (by k_asm) (by k_asm) (by k_mem) (by rw [sizeLine_eq]; simp; omega) ?_)
       intro g'
       refine' compU_ind (Rel := fun i ys nw => OctAre ys (osOf oa ob (ks1.take i)) ∧ nw = _) ⟨OctAre.zero, rfl⟩ ?step1 ?fin1
       (case' step1 => (intro i9 ys9 nw9 hi9 hR9 v' I' oI' C' oC' D' m' h' tk' E' hv' hC' hx' F' N' off' ne'; obtain ⟨hys9, rfl⟩ := hR9; obtain ⟨n9, t9, rfl, hn9⟩ := hi1.at _ _ (by simpa using hv'); have hk9 := hk1 _ (List.mem_of_getElem? hn9); have hb9 : ocOf oa ob n9.toNat < 256 := ocOf_lt ha hb))
       (case' fin1 => (intro ys9 nw9 hR9; (try unfold LCg.FinE); intro D9 h9 tk9 F9 N9 o9; obtain ⟨hys9, rfl⟩ := hR9; rw [List.size_toArray, x1, List.take_length] at hys9; (try dsimp only))))))
  k_with "cend" => (
    (with_reducible (rename Fr _ _ _ _ => eF)); (with_reducible (rename News _ _ _ _ => eN))
    k_dflt (refine LCg.CompEnd.intro eF eN _ (fun p hp => hp) (by with_reducible assumption) (Or.inr ⟨_, by k_mem, rfl, _, rfl⟩) (And.intro (OctAre.step (by with_reducible assumption) (by with_reducible assumption) (by rfl)) rfl)))
  k_with "item" => (
    k_here
    (with_reducible show wpAny _ _ (subscriptTail _ _ (Value.ref _) (Value.int _ _)) _ _ _)
    (with_reducible (rename News _ _ _ _ => cN))
    k_dflt (first
    | (refine item_any 0 (vs := [.str (wS (osOf oa ob ks0)) t0, .str (wS (osOf oa ob ks1)) t1]) (News.isList cN (by k_mem)) (by rfl) (by rfl) (by decide) ?_)
    | (refine item_any 1 (vs := [.str (wS (osOf oa ob ks0)) t0, .str (wS (osOf oa ob ks1)) t1]) (News.isList cN (by k_mem)) (by rfl) (by rfl) (by decide) ?_)
    | (refine item_any 0 (vs := [.ref r0, .ref r1]) (News.isList cN (by k_mem)) (by rfl) (by rfl) (by decide) ?_)
    | (refine item_any 1 (vs := [.ref r0, .ref r1]) (News.isList cN (by k_mem)) (by rfl) (by rfl) (by decide) ?_)
    | (refine item_oct (l := O) (a := oa) (b := ob) (News.isList cN (by k_mem)) (by with_reducible assumption) ?_; intro t8')))
  k_with "join" => (
    k_here
    (with_reducible show wpAny _ _ (call (Value.builtin "str.join") _) _ _ _)
    k_dflt (refine join_oct (by k_asm) (by k_mem) hys9 (by omega) ?_)
    intro t' tk')
  k_steps
  (with_reducible (rename Fr _ _ _ _ => eF)); (with_reducible (rename News _ _ _ _ => eN))
  refine hq _ _ _ (castE (by with_unfolding_all rfl) eF) (by rfl) (by rfl) (cb_drop (castN (by with_unfolding_all rfl) eN) (by lcg_sub))
end
end Mine
end

-- WTr
section
open PySem PySem.W PyProof.Rows PySem.Calls
set_option linter.unusedVariables false
set_option maxRecDepth 100000
set_option maxHeartbeats 1000000
namespace Mine
section
variable {prog : Program} {w : World} {A : Around} {E : Value → Shared → Prop} {s : Shared}
theorem sub_KeyError : isSubtype (.type "KeyError") (.type "LookupError") = pure true := by rw [isSubtype_type]; kernel_rfl
theorem look_keep {d : Addr} {f : Int → Option Value} {c : Nat} {Q : Builtin.Str.Mapped → Shared → Prop} (hh : A.handled = none) (hm : s.heap.MapOf (intKind prog w) d f) (hv : f c = none) (hd : (d == sysModules) = false)
    (h : ∀ h' tk, s.heap.StaysIn h' → Q .keep { s with heap := h', toks := tk }) : wpAny (model prog w) A (Builtin.Str.tableLookup (.ref d) c) Q E s := by
  unfold Builtin.Str.tableLookup
  refine wpAny_bind (wpAny_attempt ?_)
  refine wpAny_bind (wpAny_mkInt ?_)
  refine wpAny_getItem_missing_of (k := (c : Int)) (f := f) (by simp [intKind, Value.isInt]) hd hh hm hv fun h' e x => ?_
  obtain ⟨ob, t, he, hc, _⟩ := x.there
  refine wpAny_bind (wpAny_isInstance (T := "KeyError") (b := true) ⟨ob, he, hc⟩ sub_KeyError ?_)
  refine wpAny_ite_true rfl ?_
  exact wpAny_bind (wpAny_rule (wpAny_pure (h _ _ x.keeps)))
theorem meets_translate1 {d : Addr} {f : Int → Option Value} {c : Nat} {t : Tok} (hc : c < 128) (hv : f c = none) (hd : (d == sysModules) = false) :
    MeetsIn prog w (Builtin.«str.translate» ⟨[.str ⟨#[c]⟩ t, .ref d], []⟩) fun A R s => A.in1.handled = none ∧ s.heap.MapOf (intKind prog w) d f ∧ ∀ t h' tk, s.heap.StaysIn h' → R (.ok (.ret (.str ⟨#[c]⟩ t))) { s with heap := h', toks := tk } := by
  refine MeetsIn.of_wp fun A R s hs => ?_
  obtain ⟨hh, hm, h⟩ := hs
  obtain ⟨hp, g, dd, tk, os⟩ := s
  unfold Builtin.«str.translate»
  repeat ((fail_if_success (with_reducible show wpAny _ _ (Builtin.Str.tableLookup _ _) _ _ _)); wp_step)
  show wpAny _ _ (Builtin.Str.tableLookup (.ref d) c) _ _ _
  refine look_keep hh hm hv hd fun h' tk' st => ?_
  repeat wp_step
  all_goals first | exact ⟨_, rfl, h _ _ _ st⟩ | skip
theorem call_translate1 {d : Addr} {f : Int → Option Value} {c : Nat} {t : Tok} {Q : Value → Shared → Prop} (hh : A.handled = none) (hc : c < 128) (hm : s.heap.MapOf (intKind prog w) d f) (hv : f c = none) (hd : (d == sysModules) = false)
    (h : ∀ t h' tk, s.heap.StaysIn h' → Q (.str ⟨#[c]⟩ t) { s with heap := h', toks := tk }) : wpAny (model prog w) A (call (.builtin "str.translate") [.str ⟨#[c]⟩ t, .ref d]) Q E s :=
  call_meetsIn F.slot_str_translate (typeIs_str _ _ _) F.entry_str_translate (F.args_str_translate_2 _ _) (meets_translate1 hc hv hd) ⟨hh, hm, h⟩
theorem method_translate {x : Str} {t : Tok} {pl : Sem Bool} {Q : Value × List Value → Shared → Prop} {M : Model} (h : Q (.builtin "str.translate", [.str x t]) s) : wpAny M A (getMethod (.str x t) "translate" pl) Q E s := by
  with_reducible exact GM.of (.str x t) (typeIs_str _ _ _) F.slot_str_translate F.type_str_translate GM.noRef h
end
end Mine
end

-- W7
section
open PySem PySem.W PyProof.Rows PySem.Calls
set_option linter.unusedVariables false
set_option maxRecDepth 100000
set_option maxHeartbeats 40000000
namespace Mine
theorem fillK_W7 : (fun (_ : Params → Frag) (_ : OpenLaw) => True) hd.heap_39 PySem.Challenge.rw_rt0089_01 := by k_fill; trivial
noncomputable def keysGood (es : Array DictEntry) : Bool := es.all fun e => match e.key with | .int i _ => e.hash == hashInt i | _ => false
noncomputable def noKeys (es : Array DictEntry) : Bool := (List.range 128).all fun c => !plainC c || (findBy Value.isInt es (c : Int)).isNone
theorem special_map {P : Params} : ∃ es ep, (hd.heap_39 P).lookup 52 = some ⟨.type "dict", none, .dict es ep, #[]⟩ ∧ keysGood es = true ∧ noKeys es = true :=
  ⟨_, _, by k_is, by kernel_rfl, by kernel_rfl⟩
theorem keysGood_of {prog : Program} {w : World} {es : Array DictEntry} (h : keysGood es = true) : KeysOf (intKind prog w) es := by
  intro e he
  have := Array.all_eq_true'.mp h e he
  split at this
  · rename_i i t e1
    exact ⟨i, by show Value.isInt i e.key = true; rw [e1]; simp [Value.isInt], by show e.hash = hashInt i; simpa using this⟩
  · cases this
theorem map_of {prog : Program} {w : World} {h : Heap} {es : Array DictEntry} {ep : Nat} (e : h.get? 52 = some ⟨.type "dict", none, .dict es ep, #[]⟩) (k : keysGood es = true) : h.MapOf (intKind prog w) 52 (findBy Value.isInt es) :=
  ⟨_, es, ep, e, ⟨rfl, rfl, rfl⟩, rfl, keysGood_of k, fun _ => rfl⟩
theorem plainC_lt {c : Nat} (h : plainC c = true) : c < 128 := by
  unfold plainC at h; simp at h; omega
theorem noKeys_of {es : Array DictEntry} (h : noKeys es = true) {c : Nat} (hc : plainC c = true) : findBy Value.isInt es (c : Int) = none := by
  have := List.all_eq_true.mp h c (List.mem_range.mpr (plainC_lt hc))
  rw [hc] at this
  simpa using this
section
variable {w : World} {p : Program} {loose : List Str} {mean : ExcName → Option Value} {mg mb : Str → Option Value} {d dp un : Nat} {gd : Option (List Code)} {cn : Str} {cs : Scope} {a : Addr} {ccd : Value} {cl : List (Str × Addr)} {outer : List Env} {A₀ : Around} {base h₀ : Heap} {L : Addr} {m : Str → Option Value} {s : Shared} {Q E : Value → Shared → Prop}
theorem c_escape {c : Nat} {t : Tok} (hc : plainC c = true) (C : Cx (hd.heap_39 w.params) p loose mean mg mb (1) dp un cs outer A₀ base h₀ L m s.heap) (hret : ∀ t, Gives s Q (.str ⟨#[c]⟩ t)) : wpAny (model PySem.Challenge.pw_rt0089_01 w) (ktrTop dp un gd cn cs L a ccd cl outer) (call (.ref 62) [.str ⟨#[c]⟩ t]) Q E s := by
  k_with_none
  k_with "getMethod str" => ((k_here; with_reducible refine method_translate ?_))
  k_with "call builtin:str.translate" => (k_dflt (k_extra "tr"))
  refine' enter (binds := [(Str.ofString "pattern", .str ⟨#[c]⟩ t)]) C ?k6 ?k7 ?k9 ?kB ?_ ?c5 ?c2 ?c3 ?c4
  (case k6 => k_is); (case k7 => k_is); (case k9 => exact BindsTo.of_eq rfl); (case c5 => decide); (case kB => exact locs rfl); (case c2 => exact rfl); (case c3 => exact rfl); (case c4 => exact rfl)
  intro g L' h₁ tk hg hg' F' N' C'
  have X' := C'.X; have T' := C'.T; have B' := C'.B
  (try dsimp only at F'); (try k_fold)
  k_with "tr" => (
    k_here
    (rename Fr _ _ _ _ => eF); (rename News _ _ _ _ => eN)
    obtain ⟨es, ep, e1, e2, e3⟩ := special_map (P := w.params)
    refine call_translate1 (by rfl) (plainC_lt hc) (map_of (eF.keep _ _ (X' _ _ e1)) e2) (noKeys_of e3 hc) (by decide) ?_
    intro t9 h2 tk2 st2
    (have F2 := fr_stays (by k_asm) st2); (have N2 := news_stays (by k_asm) st2); (try clear st2); (try dsimp only))
  k_steps
  (try dsimp only); (try k_unfold); (try dsimp only); (rename Fr _ _ _ _ => kF9); exact hret _ _ _ (fun b o e => kF9.keep b o (hg b o e))
end
end Mine
end

-- WBm
section
open PySem PySem.W PyProof.Rows PySem.Calls
set_option linter.unusedVariables false
set_option maxRecDepth 100000
set_option maxHeartbeats 1000000
namespace Mine
noncomputable def boundApp (a : Addr) : Obj := { cls := .type "builtin_function_or_method", data := .fields #[.builtin "list.append", .ref a] }
theorem slot_md_get : Slot "method_descriptor" "__get__" "method_descriptor.__get__" :=
  .of (owner := "method_descriptor") (n := "__get__") (by rw [typeLookup_type, builtinLookup_eq_fast]; kernel_rfl) (by decide +kernel) (by decide +kernel) (by decide +kernel)
    (by first | exact .inl (by decide +kernel) | exact .inr (by decide +kernel)) (by rw [isSubtype_type]; kernel_rfl)
theorem entry_md_get : entryFor table "method_descriptor.__get__" = some Builtin.«method_descriptor.__get__» := entryFor_of_tree (by kernel_rfl)
theorem args_md_get (a b c : Value) : argsOk "method_descriptor.__get__" ⟨[a, b, c], []⟩ := by unfold argsOk; kernel_rfl
theorem md_set : typeLookup (.type "method_descriptor") "__set__" = pure none := by rw [typeLookup_type, builtinLookup_eq_fast]; kernel_rfl
theorem md_delete : typeLookup (.type "method_descriptor") "__delete__" = pure none := by rw [typeLookup_type, builtinLookup_eq_fast]; kernel_rfl
theorem owner_append : (".".intercalate ("list.append".cutAt '.').dropLast) = "list" := by
  have e0 : "list.append".cutAt '.' = ["list", "append"] := by first | rfl | decide +kernel
  rw [e0]; decide +kernel
theorem sub_list : isSubtype (.type "list") (.type "list") = pure true := by rw [isSubtype_type]; kernel_rfl
section
variable {prog : Program} {w : World} {A : Around} {E : Value → Shared → Prop} {hp : Heap} {g : Array GenState} {d : Drawn} {t : Nat} {os : OsState} {a : Addr} {o : Obj}
theorem md_get_call {R : Result → Shared → Prop} (hx : hp.get? a = some o) (hc : o.cls = .type "list") (hq : R (.ok (.ret (.ref hp.objs.size))) ⟨hp.push (boundApp a), g, d, t, os⟩) :
    codeAny (model prog w) A (.call (.builtin "method_descriptor.__get__") ⟨[.builtin "list.append", .ref a, .type "list"], []⟩) R ⟨hp, g, d, t, os⟩ := by
  have hT : (⟨hp, g, d, t, os⟩ : Shared).TypeIs (.ref a) "list" := ⟨_, hx, hc⟩
  have hT5 : (⟨hp, g, d, t, os⟩ : Shared).TypeIs (.builtin "list.append") "method_descriptor" := F.type_list_append
  have f8 : isSubtype (.type "list") (.type (".".intercalate ("list.append".cutAt '.').dropLast)) = pure true := by rw [owner_append]; exact sub_list
  refine codeAny_call_builtin slot_md_get.plain entry_md_get (slot_md_get.check _ _ _ _ _ _ _ _ hT5 (args_md_get _ _ _) ?_)
  unfold Builtin.«method_descriptor.__get__»
  refine wpAny_bind (wpAny_of_eq (a := (.builtin "list.append", some (.ref a), some (.type "list"))) (by first | rfl | kernel_rfl) ?_)
  repeat (any_goals (first | assumption | wp_step))
theorem lga_entry {tk : Tok} {Q : Fin → Shared → Prop} (hx : hp.get? a = some o) (hc : o.cls = .type "list") (hd : o.dict = none) (hdat : ∃ xs k, o.data = .seq xs k) (hq : Q (.done (.ret (.ref hp.objs.size))) ⟨hp.push (boundApp a), g, d, t, os⟩) :
    wpAny (model prog w) A (Builtin.«object.__getattribute__» ⟨[.ref a, .str "append" tk], []⟩) Q E ⟨hp, g, d, t, os⟩ := by
  obtain ⟨c, dct, dat, sl⟩ := o
  obtain ⟨xs, k, hdat⟩ := hdat
  simp only at hc hd hdat
  subst hc hd hdat
  have hT : (⟨hp, g, d, t, os⟩ : Shared).TypeIs (.ref a) "list" := ⟨_, hx, rfl⟩
  have hT5 : (⟨hp, g, d, t, os⟩ : Shared).TypeIs (.builtin "list.append") "method_descriptor" := F.type_list_append
  have f4 := F.slot_list_append.lookup
  have f5 := F.type_list_append
  have f6 := slot_md_get.lookup
  have f7 := md_set
  have f8 := md_delete
  repeat (any_goals (first | assumption | wp_step))
  refine md_get_call hx rfl ?_
  repeat (any_goals (first | assumption | wp_step))
theorem lga_call {tk : Tok} {R : Result → Shared → Prop} (hx : hp.get? a = some o) (hc : o.cls = .type "list") (hd : o.dict = none) (hdat : ∃ xs k, o.data = .seq xs k) (hq : R (.ok (.ret (.ref hp.objs.size))) ⟨hp.push (boundApp a), g, d, t, os⟩) :
    codeAny (model prog w) A (.call (.builtin "list.__getattribute__") ⟨[.ref a, .str "append" tk], []⟩) R ⟨hp, g, d, t, os⟩ :=
  codeAny_call_builtin F.slot_list_getattribute.plain F.entry_list_ga (F.slot_list_getattribute.check _ _ _ _ _ _ _ _ (show (⟨hp, g, d, t, os⟩ : Shared).TypeIs (.ref a) "list" from ⟨_, hx, hc⟩) (F.args_list_getattribute_2 _ _) (lga_entry hx hc hd hdat hq))
theorem append_attr {s : Shared} {ex : Bool} {Q : Value → Shared → Prop} (hx : s.heap.get? a = some o) (hc : o.cls = .type "list") (hd : o.dict = none) (hdat : ∃ xs k, o.data = .seq xs k) (hq : Q (.ref s.heap.objs.size) { s with heap := s.heap.push (boundApp a), toks := s.toks + 1 }) :
    wpAny (model prog w) A (getAttr (.ref a) "append" ex) Q E s := by
  obtain ⟨hp, g, d, t, os⟩ := s
  obtain ⟨c, dct, dat, sl⟩ := o
  obtain ⟨xs, k, hdat⟩ := hdat
  simp only at hc hd hdat
  subst hc hd hdat
  have hT : ∀ tk', (⟨hp, g, d, tk', os⟩ : Shared).TypeIs (.ref a) "list" := fun _ => ⟨_, hx, rfl⟩
  have f2 := F.slot_list_getattribute.lookup
  have f3 := F.slot_list_getattribute.bind (.ref a)
  cases ex <;> (
    unfold getAttr getAttrBy
    repeat (any_goals (first | assumption | exact hT _ | wp_step))
    refine lga_call hx rfl rfl ⟨_, _, rfl⟩ ?_
    repeat (any_goals (first | assumption | wp_step)))
theorem sub_list_module : isSubtype (.type "list") (.type "module") = pure false := by rw [isSubtype_type]; kernel_rfl
theorem sub_list_type : isSubtype (.type "list") (.type "type") = pure false := by rw [isSubtype_type]; kernel_rfl
theorem check_app {s : Shared} {l : Addr} {v : Value} {xs : Array Value} {k : Nat} {sl : Array (Option Value)} {Q : Unit → Shared → Prop} (hx : s.heap.get? l = some ⟨.type "list", none, .seq xs k, sl⟩) (h : Q () s) : wpAny (model prog w) A (checkBoundCall "list.append" ⟨[.ref l, v], []⟩) Q E s := by
  have hT : s.TypeIs (.ref l) "list" := ⟨_, hx, rfl⟩
  have f1 := sub_list_module
  have f2 := sub_list_type
  unfold checkBoundCall
  obtain ⟨hp, g, d, t, os⟩ := s
  repeat (any_goals (first | assumption | wp_step))
theorem quiet_la {as : Args} : (Code.builtin "list.append" as).quiet = true := Code.quiet_builtin _ (by decide +kernel)
theorem call_bound {s : Shared} {x l : Addr} {v : Value} {xs : Array Value} {n : Nat} {Q : Value → Shared → Prop} (ho : s.heap.get? x = some (boundApp l)) (hx : s.heap.get? l = some (W.listOf xs n))
    (h : ∀ h', Heap.SameBut l s.heap h' → h'.get? l = some (W.listOf (xs.push v) (n + 1)) → Q .none { s with heap := h' }) (hsz : xs.size ≤ sizeLine := by size_fits) : wpAny (model prog w) A (call (.ref x) [v]) Q E s := by
  refine wpAny_call (codeAny_of_tree ?_)
  show wpAny _ A.in1 (callAny (.ref x) ⟨[v], []⟩) _ _ s
  simp only [callAny]
  refine wpAny_bind (wpAny_load ho ?_)
  simp only [boundApp, show (Value.type "builtin_function_or_method" == Value.type "method" || Value.type "builtin_function_or_method" == Value.type "builtin_function_or_method" || Value.type "builtin_function_or_method" == Value.type "method-wrapper") = true by decide, if_true]
  refine W.KFB.if_so (by decide) ?_
  refine wpAny_bind (check_app hx ?_)
  refine wpAny_bind (wpAny_pure (wpAny_pure ?_))
  refine ⟨quiet_la, codeAny_builtin F.entry_list_append ?_⟩
  show wpAny _ _ (updateSeq l (·.push v) >>= fun _ => ret .none) _ _ s
  refine wpAny_bind ?_
  refine wpAny_updateSeq hx rfl (wpAny_pure (h _ (Heap.SameBut.update ..) ?_))
  rw [Heap.get?_update_self _ hx (by rw [mapSeq_push]; rfl), mapSeq_push]
noncomputable def StandsApp (x l : Addr) (h : Heap) : Prop := h.get? x = some (boundApp l)
theorem callWith_app0 {pos : Pos} {u l : Addr} {args : List (Bool × Sem Value)} {Q : Value → Shared → Prop} {M : Model} {s : Shared} (hplain : args.any (·.1) = false)
    (h : wpAny M A (evalArgs (.ref u) true args []) (fun x s₁ => StandsApp u l s₁.heap ∧ wpAny M A (call (.ref u) ([] ++ x.pos) x.kw) Q E s₁) E s) : wpAny M A (callWith pos (.ref u) [] args []) Q E s := by
  unfold callWith
  refine wpAny_bind (wpAny_holding (wpAny_mono h (fun x s₁ h₁ => wpAny_bind (wpAny_standAt ?_)) fun _ _ x => x))
  obtain ⟨ho, hcall⟩ := h₁
  simp only [hplain, List.any_nil, Bool.or_false]
  refine wpAny_bind (m := keeperOf (.ref u)) ?_
  unfold keeperOf
  refine wpAny_bind (wpAny_load ho ?_)
  simp only [boundApp, show (Value.type "builtin_function_or_method" != Value.type "method") = true by decide, show (Value.type "builtin_function_or_method" == Value.type "builtin_function_or_method" || Value.type "builtin_function_or_method" == Value.type "method-wrapper") = true by decide, if_true]
  refine wpAny_pure ?_
  exact wpAny_bind (wpAny_mono hcall (fun r s₂ hr => wpAny_bind (wpAny_holding (wpAny_point (wpAny_pure hr)))) fun _ _ x => x)
theorem callWith_app {pos : Pos} {u l : Addr} {env : Env} {e : PySem.Expr} {rest : List PySem.Expr} {Q : Value → Shared → Prop} {M : Model} {s : Shared} {h₀ : Heap} {L : Addr} {news : List (Addr × Obj)} (_N : News h₀ L s.heap news) (_hm : (u, boundApp l) ∈ news)
    (h : wpAny M A (spliced (backTo pos (starEach (e :: rest) env))) (fun vs s₁ => StandsApp u l s₁.heap ∧ wpAny M A (call (.ref u) vs) Q E s₁) E s)
    (he : starEach (e :: rest) env = (false, eval e env) :: starEach rest env := by rfl) (hplain : (backTo pos (starEach rest env)).any (·.1) = false := by rfl) :
    wpAny M A (callWith pos (.ref u) [] (backTo pos (starEach (e :: rest) env)) []) Q E s := by
  rw [he] at h ⊢
  refine callWith_app0 (l := l) (by show (false || (backTo pos (starEach rest env)).any (·.1)) = false; rw [hplain]; rfl) ?_
  exact Calls.evalArgs_plain h
theorem call_app {s : Shared} {h₀ : Heap} {L x D : Addr} {m : Str → Option Value} {news news' : List (Addr × Obj)} {xs : Array Value} {n : Nat} {v : Value} {Q : Value → Shared → Prop} (F : Fr h₀ L s.heap m) (N : News h₀ L s.heap news) (hm : (x, boundApp D) ∈ news) (U : Upd D (W.listOf xs n) (W.listOf (xs.push v) (n + 1)) news news')
    (h : ∀ h', Fr h₀ L h' m → News h₀ L h' news' → Q .none { s with heap := h' }) (hsz : xs.size ≤ sizeLine := by size_fits) : wpAny (model prog w) A (call (.ref x) [v]) Q E s := by
  obtain ⟨pre, post, rfl, rfl, a, b⟩ := U.split
  have z := N (D, W.listOf xs n) (List.mem_append.mpr (.inr (.head _)))
  exact call_bound (hsz := hsz) (N.get hm) z.1 fun h' hs ho' => h h' (F.change hs z.2.1 z.2.2) (news_set N a b hs ho')
theorem append_attr_K {s : Shared} {h₀ : Heap} {L D : Addr} {m : Str → Option Value} {news : List (Addr × Obj)} {xs : Array Value} {n : Nat} {ex : Bool} {Q : Value → Shared → Prop} (F : Fr h₀ L s.heap m) (N : News h₀ L s.heap news) (hm : (D, W.listOf xs n) ∈ news)
    (h : ∀ q h', Fr h₀ L h' m → News h₀ L h' ((q, boundApp D) :: news) → (∀ p ∈ news, p.1 < q) → Q (.ref q) { s with heap := h', toks := s.toks + 1 }) : wpAny (model prog w) A (getAttr (.ref D) (Str.ofString "append") ex) Q E s :=
  append_attr (N.get hm) rfl rfl ⟨_, _, rfl⟩ (h _ _ (F.push _) (News.push F N _) fun p hp => Heap.lt_size (N p hp).1)
end
end Mine
end

-- W8
section
open PySem PySem.W PyProof.Rows PySem.Calls
set_option linter.unusedVariables false
set_option maxRecDepth 100000
set_option maxHeartbeats 40000000
namespace Mine
theorem fillK_W8 : (fun (_ : Params → Frag) (_ : OpenLaw) => True) hd.heap_39 PySem.Challenge.rw_rt0089_01 := by k_fill; trivial
section
variable {prog : Program} {w : World} {A : Around} {E : Value → Shared → Prop} {s : Shared} {t u : Tok}
theorem truthy_end {l : Addr} {vs : List Value} {x : Value} {Q : Bool → Shared → Prop} (hl : s.heap.IsList l (vs ++ [x]).toArray) (hs : (vs ++ [x]).length ≤ 40) (h : Q true { s with toks := s.toks + 1 + 1 }) : wpAny (model prog w) A (truthy (.ref l)) Q E s :=
  truthy_any hl (by omega) (by
    have e : (!(vs ++ [x]).isEmpty) = true := by cases vs <;> rfl
    rw [e]; exact h)
noncomputable def notPlain1 (y : Str) : Bool := match y.cps.toList with | [d] => !plainC d | _ => true
theorem eq_lit {c : Nat} {y : Str} {Q : Value → Shared → Prop} (hc : plainC c = true) (hd : notPlain1 y = true) (h : Q (.bool false) s) : wpAny (model prog w) A (compareOp .Eq (.str (tS [c]) t) (.str y u)) Q E s := by
  have e : ((tS [c]).cps.toList == y.cps.toList) = false := by
    rw [beq_eq_false_iff_ne]
    intro q
    have q' : y.cps.toList = [c] := q.symm
    unfold notPlain1 at hd
    rw [q'] at hd
    simp [hc] at hd
  exact P.eq_str (by rw [e]; exact h)
end
section
variable {w : World} {p : Program} {loose : List Str} {mean : ExcName → Option Value} {mg mb : Str → Option Value} {d dp un : Nat} {gd : Option (List Code)} {cn : Str} {cs : Scope} {a : Addr} {ccd : Value} {cl : List (Str × Addr)} {outer : List Env} {A₀ : Around} {base h₀ : Heap} {L : Addr} {m : Str → Option Value} {s : Shared} {Q E : Value → Shared → Prop}
set_option maxHeartbeats 1000000 in
theorem c_translate0 {pl : List Nat} {t tq : Tok} {st : Addr} (hp : Pat pl) (hlen : pl.length ≤ 40) (C : Cx (hd.heap_39 w.params) p loose mean mg mb (2) dp un cs outer A₀ base h₀ L m s.heap)
    (hret : ∀ D vs n h' tk', s.heap.StaysIn h' → h'.get? D = some (W.listOf vs.toArray n) → s.heap.get? D = none → PartsAre st vs pl → Q (.ref D) { s with heap := h', toks := tk' }) : wpAny (model PySem.Challenge.pw_rt0089_01 w) (ktrTop dp un gd cn cs L a ccd cl outer) (call (.ref 69) [.str (tS pl) t, .ref st, .str (Str.ofString ".") tq]) Q E s := by
  k_with_none
  k_with "call ref" => (k_dflt ((k_here; (with_reducible show wpAny _ _ (call (Value.ref 62) _) _ _ _); (refine c_escape (by assumption) (Cx.at (by assumption) (by k_asm) (by omega)) ?_); (intro t2 h2 tk2 st2); (have F2 := fr_stays (by k_asm) st2); (have N2 := news_stays (by k_asm) st2); (try clear st2); (try k_sweep); (try dsimp only))))
  k_with "exec While" => (k_extra "while")
  k_with "KswEnd" => (k_extra "kswend")
  k_with "getAttr ref" => ((k_here; (with_reducible show wpAny _ _ (getAttr (Value.ref _) (Str.ofString "append") _) _ _ _); k_dflt (refine' append_attr_K ?k1W8 ?k2W8 ?k3W8 ?_; (case k1W8 => k_asm); (case k2W8 => k_asm); (case k3W8 => k_mem); k_whole); intro q' h' F' N' l1; (try k_lt l1); (try k_sweep)))
  k_with "subscriptTail Name Name str int" => ((k_here; (with_reducible show wpAny _ _ (subscriptTail _ _ (Value.str _ _) (Value.int _ _)) _ _ _); refine item_sign _ rfl (by with_reducible assumption) (by assumption) ?_))
  k_with "subscriptTail Name UnaryOp ref int" => (k_dflt ((k_here; (with_reducible show wpAny _ _ (subscriptTail _ _ (Value.ref _) (Value.int _ _)) _ _ _); refine item_end (News.isList (by k_asm) (by k_mem)) ?_)))
  k_with "truthy ref" => (k_dflt ((k_here; (with_reducible show wpAny _ _ (truthy (Value.ref _)) _ _ _); first | (refine truthy_end (News.isList (by k_asm) (by k_mem)) (by assumption) ?_) | (refine truthy_any (vs := []) (News.isList (by k_asm) (by k_mem)) (by decide) ?_))))
  k_with "compareOp IsNot str ref" => ((k_here; refine isnot_str ?_))
  k_with "compareOp Eq str str" => ((k_here; (refine eq_lit (by with_reducible assumption) (by decide) ?_)))
  k_with "callWith" => (k_dflt ((k_here; (refine callWith_app (by k_asm) (by k_mem) ?_))))
  k_with "And" => ((k_here; (refine' And.intro ?aW8 ?_; (case aW8 => (unfold StandsApp; exact News.get (by k_asm) (by k_mem))))))
  k_with "call ref" => (k_dflt ((k_here; (with_reducible show wpAny _ _ (call (Value.ref _) [_]) _ _ _); (refine call_app (by k_asm) (by k_asm) (by k_mem) (by k_upd) ?_ (by size_fits)); intro h' F' N'; (try k_sweep))))
  refine' enter (binds := [(Str.ofString "pat", .str (tS pl) t), (Str.ofString "STAR", .ref st), (Str.ofString "QUESTION_MARK", .str (Str.ofString ".") tq)]) C ?k6 ?k7 ?k9 ?kB ?_ ?c5 ?c2 ?c3 ?c4
  (case k6 => k_is); (case k7 => k_is); (case k9 => exact BindsTo.of_eq rfl); (case c5 => decide); (case kB => exact locs rfl); (case c2 => exact rfl); (case c3 => exact rfl); (case c4 => exact rfl)
  intro g L' h₁ tk hg hg' F' N' C'
  have X' := C'.X; have T' := C'.T; have B' := C'.B
  (try dsimp only at F'); (try k_fold)
  have hl1 : (tS pl).length = pl.length := tS_len pl
  have hl2 : (tS pl).length ≤ 1000 := by omega
  have hl3 : pl.length ≤ 1000 := by omega
  k_with "while" => (first | (
    (rename Fr _ _ _ _ => lF8); (rename News _ _ _ _ => lN8)
    have lN7 := news_tail lN8
    refine' while_ol (σ := Nat × Tok × List Value × Nat) (fun c => c.2.2.1) (fun c => c.2.2.2) (fun c => [(Str.ofString "i", .int (c.1 : Nat) c.2.1)]) [Str.ofString "c"] (fun c => c.1 ≤ pl.length ∧ PartsAre st c.2.2.1 (pl.take c.1)) (fun c => pl.length - c.1) (0, _, [], _) lF8 lN7 ?kk ?kp ?turn
    (case kk => kst_all)
    (case kp => exact ⟨Nat.zero_le _, PartsAre.nil⟩)
    (case' turn => (
      clear lF8 lN8 lN7
      intro c9 u9 h9 tk9 hP9 F9 N9
      obtain ⟨k9, ti9, vs9, n9⟩ := c9
      dsimp only [kstB] at F9
      dsimp only at hP9 F9 N9
      try k_fold
      have hv9 : vs9.length ≤ 40 := by rw [hP9.2.len, List.length_take]; omega
      rcases pat_cases hp hP9.1 hP9.2 with hk8 | ⟨hk8, ho9, rfl⟩ | ⟨hk8, ho9, vs8, c8, t8, rfl⟩ | ⟨hk8, c8, ho9, hc8⟩)))
                            | fail "stop")
  k_with "kswend" => (
    (rename Fr _ _ _ _ => eF); (rename News _ _ _ _ => eN); (try simp only [List.push_toArray] at eN)
    first
    | ((with_unfolding_all refine' kendL_i (k9 + 1, _, [Value.ref st], n9 + 1) eF eN (by rfl) (by rfl) ?hL ?e1 trivial (by ksw_same) ⟨?le, hP9.2.star ho9⟩ ?mu; (case hL => with_unfolding_all rfl); (case e1 => (try dsimp only); omega); (case le => (dsimp only; omega)); (case mu => (dsimp only; omega))))
    | ((with_unfolding_all refine' kendL_i (k9 + 1, _, (vs8 ++ [Value.str (tS [c8]) t8]) ++ [Value.ref st], n9 + 1) eF eN (by rfl) (by rfl) ?hL ?e1 trivial (by ksw_same) ⟨?le, hP9.2.star ho9⟩ ?mu; (case hL => with_unfolding_all rfl); (case e1 => (try dsimp only); omega); (case le => (dsimp only; omega)); (case mu => (dsimp only; omega))))
    | ((with_unfolding_all refine' kendL_i (k9 + 1, _, vs9 ++ [Value.str (tS [c8]) _], n9 + 1) eF eN (by rfl) (by rfl) ?hL ?e1 trivial (by ksw_same) ⟨?le, hP9.2.sign ho9 (plain_fact hc8).2.2.1⟩ ?mu; (case hL => with_unfolding_all rfl); (case e1 => (try dsimp only); omega); (case le => (dsimp only; omega)); (case mu => (dsimp only; omega))))
    )
  k_steps
  all_goals first
  | (unfold StandsApp; exact News.get (by k_asm) (by k_mem))
  | ((try dsimp only); (try k_unfold); (try dsimp only)
     (rename Fr _ _ _ _ => kF9); (rename News _ _ _ _ => kN9)
     have kP9 := hP9.2
     rw [hk8, List.take_length] at kP9
     have kM9 := kN9 _ (.tail _ (.head _))
     exact hret _ _ _ _ _ (fun b o e => kF9.keep b o (hg b o e)) kM9.1 (fresh_of hg kM9.2.2) kP9)
end
end Mine
end

-- W12
section
open PySem PySem.W PyProof.Rows PySem.Calls
set_option linter.unusedVariables false
set_option maxRecDepth 100000
set_option maxHeartbeats 40000000
namespace Mine
theorem fillK_W12 : (fun (_ : Params → Frag) (_ : OpenLaw) => True) hd.heap_39 PySem.Challenge.rw_rt0089_01 := by k_fill; trivial
theorem push_list {h : Heap} {D : Addr} {l : List (Str × Tok)} {x : Str} {t : Tok} (hl : h.IsList D ((strValues l).toArray.push (.str x t))) : h.IsList D (strValues (l ++ [(x, t)])).toArray := by
  have e : (strValues (l ++ [(x, t)])).toArray = (strValues l).toArray.push (.str x t) := by simp [strValues]
  rw [e]; exact hl
section
variable {prog : Program} {w : World} {A : Around} {E : Value → Shared → Prop} {s : Shared} {D : Addr} {n : Nat} {u : Tok}
theorem join_3 {a b c : Nat} {ta tb tc : Tok} {Q : Value → Shared → Prop} (h : s.heap.get? D = some (W.listOf ((((#[] : Array Value).push (.str (tS [a]) ta)).push (.str (tS [b]) tb)).push (.str (tS [c]) tc)) n))
    (hq : ∀ t' k, Q (.str (tS [a, b, c]) t') { s with toks := k }) : wpAny (model prog w) A (call (.builtin "str.join") [.str (Str.ofString "") u, .ref D]) Q E s :=
  join_tS (l := [(tS [a], ta), (tS [b], tb), (tS [c], tc)]) [[a], [b], [c]] ⟨_, h, rfl, n, rfl⟩ rfl (fun x hx => by
    rcases List.mem_cons.mp hx with rfl | hx
    · simp
    · rcases List.mem_cons.mp hx with rfl | hx
      · simp
      · rw [List.mem_singleton.mp hx]; simp) (by simp) hq
theorem join_r {ns : List (List Nat)} {l : List (Str × Tok)} {t : Tok} {Q : Value → Shared → Prop} (h : s.heap.get? D = some (W.listOf ((strValues l).toArray.push (.str (Str.ofString ".*") t)) n)) (h3 : ∀ a ∈ ns, a.length = 3) (hl : l.map (·.1) = ns.map fun n => tS (grp n)) (hn : ns.length ≤ 9)
    (hq : ∀ t' k, Q (.str (tS (ns.flatMap grp ++ [46, 42])) t') { s with toks := k }) : wpAny (model prog w) A (call (.builtin "str.join") [.str (Str.ofString "") u, .ref D]) Q E s :=
  join_tS (l := l ++ [(Str.ofString ".*", t)]) (ns.map grp ++ [[46, 42]]) (push_list ⟨_, h, rfl, n, rfl⟩) (by
    rw [List.map_append, hl, List.map_append, List.map_map, show Str.ofString ".*" = tS [46, 42] by decide +kernel]; rfl) (grp_len h3) (by rw [List.length_append, List.length_map, List.length_singleton]; omega) (by rw [grp_flat]; exact hq)
end
theorem while_olS {prog : Program} {w : World} {A : Around} {E : Value → Shared → Prop} {Q : Flow → Shared → Prop} {s : Shared} {env : Env} {h₀ : Heap} {L : Addr} {test : PySem.Expr} {body : List Stmt} {pos : Pos} {m₀ : Str → Option Value} {q l : Addr} {o : Obj} (ps : Nat × Tok × List (Str × Tok) × Nat → List (Str × Value)) (stored : List Str) (P : Nat × Tok × List (Str × Tok) × Nat → Prop) (μ : Nat × Tok × List (Str × Tok) × Nat → Nat) (c₀ : Nat × Tok × List (Str × Tok) × Nat)
    (F : Fr h₀ L s.heap m₀) (N : News h₀ L s.heap [(q, o), (l, W.listOf (strValues c₀.2.2.1).toArray c₀.2.2.2)]) (hk : ∀ p ∈ ps c₀, m₀ p.1 = some p.2) (hp : P c₀)
    (turn : ∀ (c : Nat × Tok × List (Str × Tok) × Nat) (u : Str → Option Value) h tk, P c → Fr h₀ L h (kstB (fun z => if stored.contains z then u z else m₀ z) (ps c)) → News h₀ L h [(q, o), (l, W.listOf (strValues c.2.2.1).toArray c.2.2.2)] →
      wpAny (model prog w) A (isTrue test env (eval test env)) (fun b s₂ =>
        if b = true then wpAny (model prog w) A (execs body env) (KswPost h₀ L s (fun c => [(q, o), (l, W.listOf (strValues c.2.2.1).toArray c.2.2.2)]) ps (fun _ => True) stored m₀ P μ Q c) E s₂ else Q .next s₂) E { s with heap := h, toks := tk })
    (hE : PassesOwn (model prog w) A env E := by passes_own) :
    wpAny (model prog w) A (exec (.While test body [] pos) env) Q E s :=
  while_ol (fun c => strValues c.2.2.1) (fun c => c.2.2.2) ps stored P μ c₀ F N hk hp turn hE
section
variable {w : World} {p : Program} {loose : List Str} {mean : ExcName → Option Value} {mg mb : Str → Option Value} {d dp un : Nat} {gd : Option (List Code)} {cn : Str} {cs : Scope} {a : Addr} {ccd : Value} {cl : List (Str × Addr)} {outer : List Env} {A₀ : Around} {base h₀ : Heap} {L : Addr} {m : Str → Option Value} {s : Shared} {Q E : Value → Shared → Prop}
set_option maxHeartbeats 1000000 in
theorem c_joinparts {ns : List (List Nat)} {vs : List Value} {D st : Addr} (h3 : ∀ n ∈ ns, n.length = 3) (hc : ∀ n ∈ ns, ∀ c ∈ n, plainC c = true) (hlen : ns.length ≤ 9) (hp : PartsAre st vs (patOf ns)) (C : Cx (hd.heap_39 w.params) p loose mean mg mb (2) dp un cs outer A₀ base h₀ L m s.heap) (hl : s.heap.IsList D vs.toArray)
    (hret : ∀ t, Gives s Q (.str (tS (textOf ns)) t)) : wpAny (model PySem.Challenge.pw_rt0089_01 w) (ktrTop dp un gd cn cs L a ccd cl outer) (call (.ref 76) [.ref D, .ref st]) Q E s := by
  k_with_none
  k_with "ite" => ((k_here; first | with_reducible refine ite_ieq_t (by omega) ?_ | with_reducible refine ite_ieq_f (by omega) ?_))
  k_with "call builtin:str.join" => (k_dflt (k_extra "join"))
  k_with "exec While Compare cons nil" => (k_extra "while")
  k_with "exec While BoolOp cons nil" => ((k_here; refine whl_start 8 ?_))
  k_with "exec While BoolOp" => ((k_here; refine whl_start 8 ?_))
  k_with "KswEnd" => (k_dflt (k_extra "kswend"))
  k_with "getAttr ref" => ((k_here; (with_reducible show wpAny _ _ (getAttr (Value.ref _) (Str.ofString "append") _) _ _ _); k_dflt (refine' append_attr_K ?k1W12 ?k2W12 ?k3W12 ?_; (case k1W12 => k_asm); (case k2W12 => k_asm); (case k3W12 => k_mem); k_whole); intro q' h' F' N' l1; (try k_lt l1); (try k_sweep)))
  k_with "compareOp IsNot str ref" => ((k_here; refine isnot_str ?_))
  k_with "compareOp IsNot ref ref" => ((k_here; refine isnot_ref_same ?_))
  k_with "callWith" => (k_dflt ((k_here; (refine callWith_app (by k_asm) (by k_mem) ?_))))
  k_with "And" => ((k_here; (refine' And.intro ?aW12 ?_; (case aW12 => (unfold StandsApp; exact News.get (by k_asm) (by k_mem))))))
  k_with "call ref" => (k_dflt ((k_here; (with_reducible show wpAny _ _ (call (Value.ref _) [_]) _ _ _); (refine call_app (by k_asm) (by k_asm) (by k_mem) (by k_upd) ?_ (by first | size_fits | (rw [sizeLine_eq, List.size_toArray]; omega))); intro h' F' N'; (try k_sweep))))
  k_with "call builtin:len" => ((k_here; (with_reducible show wpAny _ _ (call (Value.builtin "len") [Value.ref _]) _ _ _); refine len_any (Heap.IsList.at (by assumption) (by intro o e; exact Fr.keep (by k_asm) _ o e)) (by assumption) ?_))
  k_with "subscriptTail Name Name ref int" => (k_extra "item")
  refine' enter (binds := [(Str.ofString "inp", .ref D), (Str.ofString "STAR", .ref st)]) C ?k6 ?k7 ?k9 ?kB ?_ ?c5 ?c2 ?c3 ?c4
  (case k6 => k_is); (case k7 => k_is); (case k9 => exact BindsTo.of_eq rfl); (case c5 => decide); (case kB => exact locs rfl); (case c2 => exact rfl); (case c3 => exact rfl); (case c4 => exact rfl)
  intro g L' h₁ tk hg hg' F' N' C'
  have X' := C'.X; have T' := C'.T; have B' := C'.B
  (try dsimp only at F'); (try k_fold)
  have hl' := stays_list hg hl
  have hz1 : vs.length = 4 * ns.length + 1 := hp.len.trans (pat_len h3)
  have hz2 : vs.length ≤ 1000 := by omega
  have hz4 := grps_short h3 hlen
  have hz3 : vs[0]? = some (.ref st) := (hp.2 0 42 rfl).1 rfl
  k_with "while" => (first | (
    (rename Fr _ _ _ _ => lF8); (rename News _ _ _ _ => lN8)
    have lN7 := news_tail lN8
    refine' while_olS (fun c => [(Str.ofString "i", .int ((4 * c.1 : Nat) : Int) c.2.1)]) [Str.ofString "fixed"] (fun c => c.1 ≤ ns.length ∧ c.2.2.1.map (·.1) = (ns.take c.1).map (fun n => tS (grp n))) (fun c => ns.length - c.1) (0, _, [], _) lF8 lN7 ?kk ?kp ?turn
    (case kk => kst_all)
    (case kp => exact ⟨Nat.zero_le _, rfl⟩)
    (case' turn => (
      clear lF8 lN8 lN7
      intro c9 u9 h9 tk9 hP9 F9 N9
      obtain ⟨k9, ti9, l9, n9⟩ := c9
      dsimp only [kstB] at F9
      dsimp only at hP9 F9 N9
      try k_fold
      obtain ⟨hk9, hl9⟩ := hP9
      have hz9 : (strValues l9).length ≤ 9 := by
        have e1 := congrArg List.length hl9
        rw [List.length_map, List.length_map, List.length_take] at e1
        unfold strValues; rw [List.length_map]; omega
      rcases turn_cases h3 hc hp hk9 with ⟨hk8, hv0⟩ | ⟨hk8, hv0, hv4, a9, b9, c9, ta9, tb9, tc9, hn9, hv1, hv2, hv3⟩)))
                            | fail "stop")
  k_with "item" => (k_here; (with_reducible show wpAny _ _ (subscriptTail _ _ (Value.ref _) (Value.int _ _)) _ _ _); first
    | (refine item_any (0) (Heap.IsList.at (by assumption) (by intro o e; exact Fr.keep (by k_asm) _ o e)) (by omega) (by assumption) (by omega) ?_)
    | (refine item_any (4 * k9) (Heap.IsList.at (by assumption) (by intro o e; exact Fr.keep (by k_asm) _ o e)) (by omega) (by assumption) (by omega) ?_)
    | (refine item_any (4 * k9 + 1) (Heap.IsList.at (by assumption) (by intro o e; exact Fr.keep (by k_asm) _ o e)) (by omega) (by assumption) (by omega) ?_)
    | (refine item_any (4 * k9 + 2) (Heap.IsList.at (by assumption) (by intro o e; exact Fr.keep (by k_asm) _ o e)) (by omega) (by assumption) (by omega) ?_)
    | (refine item_any (4 * k9 + 3) (Heap.IsList.at (by assumption) (by intro o e; exact Fr.keep (by k_asm) _ o e)) (by omega) (by assumption) (by omega) ?_)
    | (refine item_any (4 * k9 + 4) (Heap.IsList.at (by assumption) (by intro o e; exact Fr.keep (by k_asm) _ o e)) (by omega) (by assumption) (by omega) ?_))
  k_with "join" => (
    k_here
    (with_reducible show wpAny _ _ (call (Value.builtin "str.join") _) _ _ _)
    (rename News _ _ _ _ => jN)
    first
    | (refine join_3 (n := 0 + 1 + 1 + 1) (jN _ (.head _)).1 ?_
       intro t' tk')
    | (refine join_r (n := n9 + 1) (jN _ (.tail _ (.head _))).1 h3 (by rw [hl9, hk8, List.take_length]) (by omega) ?_
       intro t' tk'))
  k_with "kswend" => (
    (rename Fr _ _ _ _ => eF); (rename News _ _ _ _ => eN)
    have eM := news_tail eN
    rw [push_str, grp_str] at eM
    with_unfolding_all refine' kendL_i (k9 + 1, _, l9 ++ [(tS (grp [a9, b9, c9]), _)], n9 + 1) eF eM (by rfl) (by rfl) (by rfl) ?e1 trivial (by ksw_same) ⟨?le, ?me⟩ ?mu
    (case e1 => (try dsimp only); omega)
    (case le => (dsimp only; omega))
    (case me => (dsimp only; rw [take_grp hn9, List.map_append, hl9]; rfl))
    (case mu => (dsimp only; omega)))
  k_steps
  all_goals first
  | (unfold StandsApp; exact News.get (by k_asm) (by k_mem))
  | (rw [text_str]; (try dsimp only); (try k_unfold); (try dsimp only); (rename Fr _ _ _ _ => kF9); exact hret _ _ _ (fun b o e => kF9.keep b o (hg b o e)))
end
end Mine
end

-- W10
section
open PySem PySem.W PyProof.Rows PySem.Calls
set_option linter.unusedVariables false
set_option maxRecDepth 100000
set_option maxHeartbeats 40000000
namespace Mine
theorem fillK_W10 : (fun (_ : Params → Frag) (_ : OpenLaw) => True) hd.heap_39 PySem.Challenge.rw_rt0089_01 := by k_fill; trivial
section
variable {prog : Program} {w : World} {A : Around} {E : Value → Shared → Prop} {s : Shared} {t u : Tok} {h₀ : Heap} {L : Addr} {m : Str → Option Value} {news : List (Addr × Obj)}
theorem split_textK {as : List Nat} {Q : Value → Shared → Prop} (h256 : ∀ a ∈ as, a < 256) (hlen : as.length ≤ 9) (F : Fr h₀ L s.heap m) (N : News h₀ L s.heap news)
    (h : ∀ D l t0 h' k, l.map (·.1) = as.map (fun a => tS (nm a ++ [41])) → Fr h₀ L h' m → News h₀ L h' ((D, W.listOf (Value.str (tS []) t0 :: strValues l).toArray 0) :: news) → (∀ p ∈ news, p.1 < D) → Q (.ref D) { s with heap := h', toks := k }) :
    wpAny (model prog w) A (call (.builtin "str.split") [.str (tS ((nms as).flatMap grp)) t, .str (Str.ofString "(?>.*?") u]) Q E s := by
  refine KSpl.split1 F N (by decide +kernel) (fun D l h' k e _ F' N' l1 => ?_) ?_
  · rw [split_text h256] at e
    obtain ⟨t0, l', rfl, e'⟩ := KSpl.cons_of (show l.map (·.1) = tS [] :: (as.map fun a => nm a ++ [41]).map tS from e)
    exact h D l' t0 h' k (by rw [e', List.map_map]; rfl) F' N' l1
  · have := grps_len (ns := nms as) nms_len
    rw [tS_len, this, sizeLine_eq]; unfold nms; rw [List.length_map]; omega
theorem ne_same {x y : Str} {Q : Value → Shared → Prop} (e : x = y) (h : Q (.bool false) s) : wpAny (model prog w) A (compareOp .NotEq (.str x t) (.str y u)) Q E s := by
  subst e
  exact P.ne_str (by simpa using h)
end
section
variable {w : World} {p : Program} {loose : List Str} {mean : ExcName → Option Value} {mg mb : Str → Option Value} {d dp un : Nat} {gd : Option (List Code)} {cn : Str} {cs : Scope} {a : Addr} {ccd : Value} {cl : List (Str × Addr)} {outer : List Env} {A₀ : Around} {base h₀ : Heap} {L : Addr} {m : Str → Option Value} {s : Shared} {Q E : Value → Shared → Prop}
set_option maxHeartbeats 1000000 in
theorem c_takes {as os : List Nat} {t u : Tok} (ha : ∀ a ∈ as, a < 256) (ho : ∀ a ∈ os, a < 256) (hal : as.length ≤ 9) (hol : os.length ≤ 9) (C : Cx (hd.heap_39 w.params) p loose mean mg mb (2) dp un cs outer A₀ base h₀ L m s.heap) (hret : Gives s Q (.bool (takesB as os))) : wpAny (model PySem.Challenge.pw_rt0089_01 w) (ktrTop dp un gd cn cs L a ccd cl outer) (call (.ref 232) [.str (tS (textOf (nms as))) t, .str (wS os) u]) Q E s := by
  k_with_none
  k_with "exec For Name Subscript cons nil" => ((k_here; (rename Fr _ _ _ _ => lF'); (with_unfolding_all refine' For_invVF lF' ?k1W10 ?k2W10 ?_; (case k1W10 => exact rfl); (case k2W10 => exact rfl); k_whole)))
  k_with "subscriptTail Name Constant str int" => ((k_here; (with_reducible show wpAny _ _ (subscriptTail _ _ (Value.str _ _) (Value.int _ _)) _ _ _); refine item_sign 3 (by omega) (grp_item _) (grp_short _) ?_))
  k_with "call builtin:str.find" => (k_extra "find")
  k_with "ite" => ((k_here; first | with_reducible refine ite_ine_f (by omega) ?_ | with_reducible refine ite_ine_t (by omega) ?_))
  k_with "call builtin:str.join" => (k_dflt (k_extra "join"))
  k_with "compareOp NotEq str str" => ((k_here; refine ne_same (whole_text _).symm ?_))
  k_with "compareOp NotEq str str" => ((k_here; refine ne_same (by decide +kernel) ?_))
  k_with "subscriptTail Name Constant ref int" => (k_dflt (k_extra "item0"))
  k_with "subscriptTail Name Slice ref ref" => (k_dflt (k_extra "slice"))
  k_with "pyIter ref" => (k_extra "loop")
  k_with "InvEndN" => (k_extra "turnend")
  k_with "call builtin:str.split" => (k_extra "split")
  refine' enter (binds := [(Str.ofString "text", .str (tS (textOf (nms as))) t), (Str.ofString "way", .str (wS os) u)]) C ?k6 ?k7 ?k9 ?kB ?_ ?c5 ?c2 ?c3 ?c4
  (case k6 => k_is); (case k7 => k_is); (case k9 => exact BindsTo.of_eq rfl); (case c5 => decide); (case kB => exact locs rfl); (case c2 => exact rfl); (case c3 => exact rfl); (case c4 => exact rfl)
  intro g L' h₁ tk hg hg' F' N' C'
  have X' := C'.X; have T' := C'.T; have B' := C'.B
  (try dsimp only at F'); (try k_fold)
  have hz0 : (nms as).length ≤ 9 := by unfold nms; rw [List.length_map]; exact hal
  have hz1 : (tS (textOf (nms as))).length = (textOf (nms as)).length := tS_len _
  have hz2 : (textOf (nms as)).length = 10 * (nms as).length + 9 := text_short nms_len hz0
  have hz3 : (tS (textOf (nms as))).length ≤ 1000 := by omega
  k_with "split" => (
    k_here
    (with_reducible show wpAny _ _ (call (Value.builtin "str.split") _) _ _ _)
    rw [slice_text nms_len (by omega)]
    refine split_textK ha hal (by k_asm) (by k_asm) ?_
    intro D' l9 t9 h' k' hl9 F' N' l1; (try k_lt l1)
    have hl8 : (strValues l9).length = as.length := by have := congrArg List.length hl9; rw [List.length_map, List.length_map] at this; unfold strValues; rw [List.length_map]; exact this)
  have hz4 : (tS (jn seps (prts as))).length ≤ 1000 := by rw [tS_len, jn_prts, grps_len nms_len]; omega
  k_with "join" => (
    k_here
    (with_reducible show wpAny _ _ (call (Value.builtin "str.join") _) _ _ _)
    (rename News _ _ _ _ => jN)
    refine join_sep (l := (tS [], t9) :: l9) seps (prts as) (by decide +kernel) (News.isList jN (.head _)) (by rw [List.map_cons, hl9]; unfold prts; rw [List.map_cons, List.map_map]; rfl) (prts_short as) (by decide) (by unfold prts; rw [List.length_cons, List.length_map]; omega) ?_
    intro t' tk')
  k_with "item0" => (
    k_here
    (with_reducible show wpAny _ _ (subscriptTail _ _ (Value.ref _) (Value.int _ _)) _ _ _)
    (rename News _ _ _ _ => jN)
    refine item_any 0 (News.isList jN (.head _)) (by rfl) (by rfl) (by omega) ?_)
  k_with "slice" => (
    k_here
    (with_reducible show wpAny _ _ (subscriptTail _ _ (Value.ref _) (Value.ref _)) _ _ _)
    refine slice_fromL 1 (by k_asm) (by k_asm) (News.isList (by k_asm) (by k_mem)) (by rw [List.length_cons]; omega) ?_
    intro D' h' F' N' l1; (have kl0 := l1); (try k_lt l1); (try k_sweep))
  k_with "loop" => (first | ((
    (rename Fr _ _ _ _ => lF8); (rename News _ _ _ _ => lN8)
    have lN7 := news_tail lN8
    with_unfolding_all refine' iter_made_i (y := Str.ofString "place") (fun i a => ∃ j : Nat, a = ((4 * j : Nat) : Int) ∧ j ≤ os.length ∧ takesB as os = takesB (as.drop i) (os.drop j)) (by rfl) (News.isList lN8 (List.mem_cons_self ..)) (lN8 _ (List.mem_cons_self ..)).2.1 (fun p hp => Nat.ne_of_lt (kl0 p hp)) lF8 lN7 (by rfl) (by decide) ⟨0, by rfl, Nat.zero_le _, by rfl⟩ ?turn ?done
    (case' turn => (
      clear lF8 lN8 lN7
      intro i9 v9 p9 tp9 h9 tk9 own hv9 hP9 hoff9 F9 N9
      obtain ⟨j9, rfl, hj9, he9⟩ := hP9
      obtain ⟨a9, ta9, ha9, rfl⟩ := strs_at hl9 hv9
      have hb9 := ha a9 (List.mem_of_getElem? ha9)
      have hg9 : (tS (nm a9 ++ [41])).length = 4 := rfl
      (simp only [List.cons_append, List.nil_append] at N9)
      try k_fold))
    (case' done => (
      clear lF8 lN8 lN7
      intro u9 p9 tp9 h9 tk9 hP9 F9 N9
      obtain ⟨j9, rfl, hj9, he9⟩ := hP9
      have hT9 := takes_end (show _ = as.length from hl8) he9
      try k_fold))))                              | fail "stop")
  k_with "find" => (
    k_here
    (with_reducible show wpAny _ _ (call (Value.builtin "str.find") _) _ _ _)
    rw [grp_name]
    refine SC.find3 ?_
    rcases find_way ho hb9 j9 with ⟨e1, e2⟩ | ⟨k9, e0, e1, e2, e3⟩ <;> (first | rw [e3] | rw [e2]))
  k_with "turnend" => (
    (rename Fr _ _ _ _ => eF); (rename News _ _ _ _ => eN)
    with_unfolding_all refine' turn_end (b := ((4 * (k9 + 1) : Nat) : Int)) eF eN (by rfl) (by rfl) (by rfl) ?e1 ⟨k9 + 1, rfl, e1, takes_yes ha9 he9 e2⟩ ?e3
    (case e1 => omega)
    (case e3 => intro z h1 h2; simp [h1, h2]))
  k_steps
  · (try dsimp only); (try k_unfold); (try dsimp only); (rename Fr _ _ _ _ => kF9); exact hT9 ▸ hret _ _ (fun b o e => kF9.keep b o (hg b o e))
  · (try dsimp only); (try k_unfold); (try dsimp only); (rename Fr _ _ _ _ => kF9); exact takes_no ha9 he9 e1 ▸ hret _ _ (fun b o e => kF9.keep b o (hg b o e))
end
end Mine
end

-- W13
section
open PySem PySem.W PyProof.Rows PySem.Calls
set_option linter.unusedVariables false
set_option maxRecDepth 100000
set_option maxHeartbeats 40000000
namespace Mine
theorem fillK_W13 : (fun (_ : Params → Frag) (_ : OpenLaw) => True) hd.heap_39 PySem.Challenge.rw_rt0089_01 := by k_fill; trivial
section
variable {w : World} {p : Program} {loose : List Str} {mean : ExcName → Option Value} {mg mb : Str → Option Value} {d dp un : Nat} {gd : Option (List Code)} {cn : Str} {cs : Scope} {a : Addr} {ccd : Value} {cl : List (Str × Addr)} {outer : List Env} {A₀ : Around} {base h₀ : Heap} {L : Addr} {m : Str → Option Value} {s : Shared} {Q E : Value → Shared → Prop}
theorem c_translate {ns : List (List Nat)} {t : Tok} (h3 : ∀ n ∈ ns, n.length = 3) (hc : ∀ n ∈ ns, ∀ c ∈ n, plainC c = true) (hlen : ns.length ≤ 9) (C : Cx (hd.heap_39 w.params) p loose mean mg mb (3) dp un cs outer A₀ base h₀ L m s.heap) (hret : ∀ t, Gives s Q (.str (tS (textOf ns)) t)) : wpAny (model PySem.Challenge.pw_rt0089_01 w) (ktrTop dp un gd cn cs L a ccd cl outer) (call (.ref 50) [.str (tS (patOf ns)) t]) Q E s := by
  k_with_none
  k_with "call type:object" => ((k_here; (with_reducible show wpAny _ _ (call (Value.type "object") []) _ _ _); refine call_object_K (by k_asm) (by k_asm) ?_; intro D' h' F' N' l1; (try k_lt l1); (try k_sweep)))
  k_with "call ref" => (k_dflt ((k_here; (with_reducible show wpAny _ _ (call (Value.ref 69) _) _ _ _); k_extra "c69")))
  k_with "call ref" => (k_dflt ((k_here; (with_reducible show wpAny _ _ (call (Value.ref 76) _) _ _ _); k_extra "c76")))
  refine' enter (binds := [(Str.ofString "pat", .str (tS (patOf ns)) t)]) C ?k6 ?k7 ?k9 ?kB ?_ ?c5 ?c2 ?c3 ?c4
  (case k6 => k_is); (case k7 => k_is); (case k9 => exact BindsTo.of_eq rfl); (case c5 => decide); (case kB => exact locs rfl); (case c2 => exact rfl); (case c3 => exact rfl); (case c4 => exact rfl)
  intro g L' h₁ tk hg hg' F' N' C'
  have X' := C'.X; have T' := C'.T; have B' := C'.B
  (try dsimp only at F'); (try k_fold)
  have hz1 := pat_len h3
  have hz2 : (patOf ns).length ≤ 40 := by omega
  have hz3 := pat_pat h3 hc
  k_with "c69" => (
    (rename Fr _ _ _ _ => cF); (rename News _ _ _ _ => cN)
    refine c_translate0 hz3 hz2 (Cx.at C' cF (by omega)) ?_
    intro D9 vs9 n9 h2 tk2 st2 hD9 hD8 hP9
    have F2 := fr_stays cF st2
    have N2 := news_of_fresh cF F2 (news_stays cN st2) hD9 hD8
    clear st2 hD8 hD9)
  k_with "c76" => (
    (rename Fr _ _ _ _ => cF); (rename News _ _ _ _ => cN)
    refine c_joinparts h3 hc hlen (by assumption) (Cx.at C' cF (by omega)) ⟨_, News.get cN (by k_mem), rfl, _, rfl⟩ ?_
    intro t2 h2 tk2 st2
    have F2 := fr_stays cF st2
    have N2 := news_stays cN st2)
  k_steps
  (try dsimp only); (try k_unfold); (try dsimp only); (rename Fr _ _ _ _ => kF9); exact hret _ _ _ (fun b o e => kF9.keep b o (hg b o e))
end
end Mine
end

-- W14a
section
open PySem PySem.W PyProof.Rows PySem.Calls
set_option linter.unusedVariables false
set_option maxRecDepth 100000
set_option maxHeartbeats 40000000
namespace Mine
theorem fillK_W14a : (fun (_ : Params → Frag) (_ : OpenLaw) => True) hd.heap_39 PySem.Challenge.rw_rt0089_01 := by k_fill; trivial
noncomputable def laBody : List Stmt := match stA 49 with
  | .FunctionDef n a b _ _ _ sc _ _ pos => b
  | _ => []
noncomputable def laScope : Scope := match stA 49 with
  | .FunctionDef n a b _ _ _ sc _ _ pos => sc
  | _ => default
noncomputable def forBody : Stmt → List Stmt
  | .For _ _ b _ _ => b
  | _ => []
noncomputable def laForK : Stmt := laBody.getD 2 (stA 0)
noncomputable def laForS : Stmt := (forBody laForK).getD 0 (stA 0)
noncomputable def laForM : Stmt := (forBody laForS).getD 0 (stA 0)
noncomputable def laTurn : List Stmt := forBody laForM
noncomputable abbrev boolsL (bs : List Bool) (n : Nat) : Obj := W.listOf (bs.map Value.bool).toArray n
noncomputable abbrev pairL (x y : Addr) (k : Nat) : Obj := { cls := .type "list", data := .seq #[.ref x, .ref y] k }
section
variable {prog : Program} {w : World} {A : Around} {E : Value → Shared → Prop} {s : Shared} {u : Tok} {h₀ : Heap} {L D : Addr} {m : Str → Option Value} {news news' : List (Addr × Obj)} {bs : List Bool} {b : Bool} {n : Nat} {value slice : PySem.Expr}
theorem push_bools (bs : List Bool) (b : Bool) : ((bs.map Value.bool).toArray.push (.bool b)) = ((bs ++ [b]).map Value.bool).toArray := by simp
theorem append_bools {Q : Value → Shared → Prop} (F : Fr h₀ L s.heap m) (N : News h₀ L s.heap news) (U : Upd D (boolsL bs n) (boolsL (bs ++ [b]) (n + 1)) news news') (hs : bs.length ≤ 100)
    (h : ∀ h', Fr h₀ L h' m → News h₀ L h' news' → Q .none { s with heap := h' }) : wpAny (model prog w) A (call (.builtin "list.append") [.ref D, .bool b]) Q E s := by
  unfold boolsL at U
  rw [← push_bools] at U
  exact append_K F N U h (by rw [sizeLine_eq]; simp; omega)
theorem item_last_bool {Q : Value → Shared → Prop} (hl : s.heap.IsList D ((bs ++ [b]).map Value.bool).toArray) (h : Q (.bool b) s)
    (he : subscripted slice false (.ref D) (.int (-1) u) = operate [.ref D, .int (-1) u] (getItem (.ref D) (.int (-1) u)) := by with_unfolding_all rfl) (hg : ∀ r, letTemporaryGo value (.ref D) r = pure () := by intro _; with_unfolding_all rfl) :
    wpAny (model prog w) A (subscriptTail value slice (.ref D) (.int (-1) u)) Q E s := by
  rw [List.map_append] at hl
  exact item_end hl h he hg
end
theorem allLt_at {d : Nat} : ∀ {l : List (Addr × Obj)}, AllLt d l → ∀ p ∈ l, @LT.lt Nat _ p.1 d
  | [], _, _, h => nomatch h
  | q :: r, h, p, hp => by
    rcases List.mem_cons.mp hp with rfl | hp
    · exact h.1
    · exact allLt_at h.2 p hp
theorem off_tail {x1 x2 x3 x4 x5 I D D0 D1 : Nat} {rest : List (Addr × Obj)} {o o0 o1 : Obj} (h : x1 < I ∧ x2 < I ∧ x3 < I ∧ x4 < I ∧ x5 < I ∧ D < I ∧ D0 < I ∧ D1 < I ∧ AllLt I rest) :
    ∀ p ∈ ((D, o) :: (D0, o0) :: (D1, o1) :: rest : List (Addr × Obj)), p.1 ≠ I := by
  intro p hp
  obtain ⟨_, _, _, _, _, a, b, c, e⟩ := h
  rcases List.mem_cons.mp hp with rfl | hp
  · exact Nat.ne_of_lt a
  rcases List.mem_cons.mp hp with rfl | hp
  · exact Nat.ne_of_lt b
  rcases List.mem_cons.mp hp with rfl | hp
  · exact Nat.ne_of_lt c
  · exact Nat.ne_of_lt (allLt_at e p hp)
theorem sub4 {a b c e : Addr × Obj} {rest all : List (Addr × Obj)} (ha : a ∈ all) (hb : b ∈ all) (hc : c ∈ all) (he : e ∈ all) (hr : ∀ p ∈ rest, p ∈ all) : ∀ p ∈ a :: b :: c :: e :: rest, p ∈ all := by
  intro p hp
  rcases List.mem_cons.mp hp with rfl | hp
  · exact ha
  rcases List.mem_cons.mp hp with rfl | hp
  · exact hb
  rcases List.mem_cons.mp hp with rfl | hp
  · exact hc
  rcases List.mem_cons.mp hp with rfl | hp
  · exact he
  · exact hr p hp
local macro_rules | `(tactic| k_ne) => `(tactic| (refine neN ?_; (try dsimp only); first | assumption | exact Ne.symm (by assumption)))
local macro_rules | `(tactic| k_all) => `(tactic| assumption)
section
variable {w : World} {p : Program} {loose : List Str} {mean : ExcName → Option Value} {mg mb : Str → Option Value} {d dp un : Nat} {gd : Option (List Code)} {cn : Str} {cs : Scope} {a : Addr} {ccd : Value} {cl : List (Str × Addr)} {outer : List Env} {A₀ : Around} {base h₀ : Heap} {L : Addr} {m : Str → Option Value} {s : Shared} {Q E : Value → Shared → Prop}
set_option maxHeartbeats 40000000 in
theorem la_turn {oa ob : Nat} {c0 c1 : List Bool} {n0 n1 nD : Nat} {ks0 ks1 : List Int} {vs0 vs1 : List Value} {kind some_ more : Nat} {tk1 tk2 tk3 ta tb u0 u1 : Tok} {nA wA rA r0 r1 D D0 D1 : Addr} {rest : List (Addr × Obj)} {Qf : Flow → Shared → Prop}
    (ha : oa < 256) (hb : ob < 256) (hab : oa ≠ ob) (h50 : 5 ≤ ks0.length) (h70 : ks0.length ≤ 7) (h51 : 5 ≤ ks1.length) (h71 : ks1.length ≤ 7) (hk0 : ∀ k ∈ ks0, k = 0 ∨ k = 1) (hk1 : ∀ k ∈ ks1, k = 0 ∨ k = 1)
    (hc0 : c0.length ≤ 90) (hc1 : c1.length ≤ 90) (h1 : kind < 2) (h2 : 1 ≤ some_) (h3 : some_ ≤ 4) (h4 : more ≤ 3)
    (hE : PassesOwn (model PySem.Challenge.pw_rt0089_01 w) (ktrTop dp un gd (Str.ofString "_law_answers") laScope L 244 (.ref 243) [] outer) (envOf (Str.ofString "_law_answers") laScope L 244 (.ref 243)) E)
    (C : Cx (hd.heap_39 w.params) p loose mean mg mb (d + 3) dp un laScope outer A₀ base h₀ L (fun y => if y = Str.ofString "more" then some (.int (more : Nat) tk3) else if y = Str.ofString "some" then some (.int (some_ : Nat) tk2) else if y = Str.ofString "kind" then some (.int (kind : Nat) tk1) else if y = Str.ofString "answers" then some (.ref D) else if y = Str.ofString "rows" then some (.ref rA) else if y = Str.ofString "ways" then some (.ref wA) else if y = Str.ofString "names" then some (.ref nA) else m y) s.heap)
    (hnA : h₀.IsList nA #[.str (qs oa) ta, .str (qs ob) tb]) (hwA : h₀.IsList wA #[.str (wS (osOf oa ob ks0)) u0, .str (wS (osOf oa ob ks1)) u1]) (hrA : h₀.IsList rA #[.ref r0, .ref r1])
    (hr0 : h₀.IsList r0 vs0.toArray) (hi0 : IntsAre vs0 ks0) (hr1 : h₀.IsList r1 vs1.toArray) (hi1 : IntsAre vs1 ks1)
    (N : News h₀ L s.heap ((D, pairL D0 D1 nD) :: (D0, boolsL c0 n0) :: (D1, boolsL c1 n1) :: rest)) (d0 : D ≠ D0) (d1 : D ≠ D1) (d2 : D0 ≠ D1) (e0 : ∀ p ∈ rest, p.1 ≠ D0) (e1 : ∀ p ∈ rest, p.1 ≠ D1)
    (hq : ∀ h tk m' k0 k1, Fr h₀ L h m' → (m' (Str.ofString "some") = some (.int (some_ : Nat) tk2) ∧ m' (Str.ofString "kind") = some (.int (kind : Nat) tk1) ∧ m' (Str.ofString "answers") = some (.ref D) ∧ m' (Str.ofString "rows") = some (.ref rA) ∧ m' (Str.ofString "ways") = some (.ref wA) ∧ m' (Str.ofString "names") = some (.ref nA) ∧ m' (Str.ofString "most") = m (Str.ofString "most")) →
      News h₀ L h ((D, pairL D0 D1 nD) :: (D0, boolsL (c0 ++ [metB ks0 (kind : Nat) (some_ : Nat) (more : Nat)]) k0) :: (D1, boolsL (c1 ++ [metB ks1 (kind : Nat) (some_ : Nat) (more : Nat)]) k1) :: rest) → Qf .next { s with heap := h, toks := tk }) :
    wpAny (model PySem.Challenge.pw_rt0089_01 w) (ktrTop dp un gd (Str.ofString "_law_answers") laScope L 244 (.ref 243) [] outer) (execs laTurn (envOf (Str.ofString "_law_answers") laScope L 244 (.ref 243))) Qf E s := by
  k_with_none
  k_with "UnrEnd" => (k_dflt (k_extra "uend"))
  k_with "call builtin:list.append" => (k_extra "app")
  k_with "subscriptTail Name Name ref int" => (k_dflt (k_extra "item"))
  k_with "subscriptTail Name BinOp ref int" => (k_extra "item")
  k_with "subscriptTail Name UnaryOp ref int" => (k_dflt (k_extra "last"))
  k_with "binaryOp Mult ref int" => (k_dflt (k_extra "mul"))
  k_with "binaryOp Add ref ref" => (k_dflt (k_extra "add"))
  k_with "call builtin:str.join" => (k_dflt (k_extra "join"))
  k_with "call ref" => (k_dflt (k_extra "call"))
  k_with "compareOp NotEq bool bool" => ((k_here; refine ne_bool_same (by rfl) ?_))
  conv at C in (occs := *) laScope => all_goals whnf
  conv at hE in (occs := *) laScope => all_goals whnf
  conv in (occs := *) laScope => all_goals whnf
  conv in (occs := *) laTurn => all_goals whnf
  have X' := C.X; have T' := C.T; have B' := C.B; have F' := C.F
  have hm0 := takes_met hab h50 h70 hk0 h1 h2 h3 h4
  have hm1 := takes_met hab h51 h71 hk1 h1 h2 h3 h4
  have hz1 : (asOf oa ob kind some_ more).length = some_ + more := as_len ..
  have hz0 : asOf oa ob kind some_ more ≠ [] := by intro q; rw [q] at hz1; have hz2 : (0 : Nat) = some_ + more := hz1; omega
  have hz3 : (tS (jn [42] (nms (asOf oa ob kind some_ more)))).length ≤ 100 := by rw [tS_len]; have := jn_len42 (asOf oa ob kind some_ more); omega
  have hz4 : (nms (asOf oa ob kind some_ more)).length ≤ 9 := by unfold nms; rw [List.length_map]; omega
  have hz5 := as_small ha hb kind some_ more
  have hz6 : (osOf oa ob ks0).length ≤ 9 := by simp [osOf]; omega
  have hz7 : (osOf oa ob ks1).length ≤ 9 := by simp [osOf]; omega
  k_with "mul" => (
    k_here
    (with_reducible show wpAny _ _ (binaryOp Operator.Mult (Value.ref _) (Value.int _ _)) _ _ _)
    (with_reducible (rename Fr _ _ _ _ => cF)); (with_reducible (rename News _ _ _ _ => cN))
    first
    | (refine mul_names (n := some_) cF cN (News.isList cN (.head _)) (by rfl) (by omega) ?_; intro D8 vs8 h8 hv8 F8 N8 l1; (try k_lt l1); (try k_sweep))
    | (refine mul_names (n := more) cF cN (News.isList cN (.head _)) (by rfl) (by omega) ?_; intro D7 vs7 h7 hv7 F7 N7 l1; (try k_lt l1); (try k_sweep)))
  k_with "add" => (
    k_here
    (with_reducible show wpAny _ _ (binaryOp Operator.Add (Value.ref _) (Value.ref _)) _ _ _)
    (with_reducible (rename Fr _ _ _ _ => cF)); (with_reducible (rename News _ _ _ _ => cN))
    refine add_names cF cN (News.isList cN (by k_mem)) (News.isList cN (by k_mem)) hv8 hv7 (by rw [List.length_replicate, List.length_replicate]; omega) ?_
    intro D6 us6 h6 hu6 F6 N6 l1
    rw [← as_eq] at hu6
    (try k_lt l1); (try k_sweep))
  k_with "join" => (
    k_here
    (with_reducible show wpAny _ _ (call (Value.builtin "str.join") _) _ _ _)
    refine join_star (by k_asm) (by k_mem) hu6 (by omega) ?_
    intro t' tk')
  k_with "call" => (
    k_here
    (with_reducible (rename Fr _ _ _ _ => cF)); (with_reducible (rename News _ _ _ _ => cN))
    first
    | ((with_reducible show wpAny _ _ (call (Value.ref 50) _) _ _ _)
       rw [pat_text hz0]
       refine c_translate nms_len (nms_plain hz5) hz4 (Cx.at C cF (by omega)) ?_
       intro t2 h2 tk2 st2)
    | ((with_reducible show wpAny _ _ (call (Value.ref 232) _) _ _ _)
       refine c_takes (os := osOf oa ob ks0) hz5 (os_small ha hb ks0) (by omega) hz6 (Cx.at C cF (by omega)) ?_
       intro h2 tk2 st2
       rw [hm0])
    | ((with_reducible show wpAny _ _ (call (Value.ref 232) _) _ _ _)
       refine c_takes (os := osOf oa ob ks1) hz5 (os_small ha hb ks1) (by omega) hz7 (Cx.at C cF (by omega)) ?_
       intro h2 tk2 st2
       rw [hm1])
    | ((with_reducible show wpAny _ _ (call (Value.ref 237) _) _ _ _)
       refine c_law_met (ks := ks0) (by omega) (by omega) (by omega) (Cx.at C cF (by omega)) (Heap.IsList.at hr0 (by intro o e; exact Fr.keep cF _ o e)) hi0 ?_
       intro h2 tk2 st2)
    | ((with_reducible show wpAny _ _ (call (Value.ref 237) _) _ _ _)
       refine c_law_met (ks := ks1) (by omega) (by omega) (by omega) (Cx.at C cF (by omega)) (Heap.IsList.at hr1 (by intro o e; exact Fr.keep cF _ o e)) hi1 ?_
       intro h2 tk2 st2)
    (have F2 := fr_stays cF st2); (have N2 := news_stays cN st2); (clear st2); (try k_sweep); (try dsimp only))
  k_with "app" => (
    k_here
    (with_reducible show wpAny _ _ (call (Value.builtin "list.append") [Value.ref _, _]) _ _ _)
    (with_reducible (rename Fr _ _ _ _ => cF)); (with_reducible (rename News _ _ _ _ => cN))
    first
    | (refine append_bools (bs := c0) (D := D0) cF cN (by k_upd) (by omega) ?_)
    | (refine append_bools (bs := c1) (D := D1) cF cN (by k_upd) (by omega) ?_)
    intro h' F' N'
    (try k_sweep))
  k_with "uend" => (
    (with_reducible (rename Fr _ _ _ _ => eF)); (with_reducible (rename News _ _ _ _ => eN))
    first
    | (refine UnrEnd.intro eF eN ((D, pairL D0 D1 nD) :: (D0, boolsL (c0 ++ [metB ks0 (kind : Nat) (some_ : Nat) (more : Nat)]) (n0 + 1)) :: (D1, boolsL c1 n1) :: rest) (sub4 (by k_mem) (by k_mem) (by k_mem) (by k_mem) ?sr) (off_tail (by assumption)) ?_
       (case sr => (intro p hp; (repeat (first | exact hp | apply List.mem_cons_of_mem)))))
    | (refine UnrEnd.intro eF eN ((D, pairL D0 D1 nD) :: (D0, boolsL (c0 ++ [metB ks0 (kind : Nat) (some_ : Nat) (more : Nat)]) (n0 + 1)) :: (D1, boolsL (c1 ++ [metB ks1 (kind : Nat) (some_ : Nat) (more : Nat)]) (n1 + 1)) :: rest) (sub4 (by k_mem) (by k_mem) (by k_mem) (by k_mem) ?sr) (off_tail (by assumption)) ?_
       (case sr => (intro p hp; (repeat (first | exact hp | apply List.mem_cons_of_mem))))))
  k_with "last" => (
    k_here
    (with_reducible show wpAny _ _ (subscriptTail _ _ (Value.ref _) (Value.int _ _)) _ _ _)
    (with_reducible (rename News _ _ _ _ => cN))
    first
    | (refine item_last_bool (D := D0) (bs := c0) (b := metB ks0 (kind : Nat) (some_ : Nat) (more : Nat)) (News.isList cN (by k_mem)) ?_)
    | (refine item_last_bool (D := D1) (bs := c1) (b := metB ks1 (kind : Nat) (some_ : Nat) (more : Nat)) (News.isList cN (by k_mem)) ?_))
  k_with "item" => (
    k_here
    (with_reducible show wpAny _ _ (subscriptTail _ _ (Value.ref _) (Value.int _ _)) _ _ _)
    first
    | (refine item_name (l := nA) kind ?_ (by omega) h1 ?_; fail "x")
    | (refine item_name (l := nA) (kn := kind) (Heap.IsList.at hnA (by intro o e; exact Fr.keep (by k_asm) _ o e)) (by omega) h1 ?_; intro t9)
    | (refine item_name (l := nA) (kn := 1 - kind) (Heap.IsList.at hnA (by intro o e; exact Fr.keep (by k_asm) _ o e)) (by omega) (by omega) ?_; intro t9)
    | (refine item_any (l := wA) 0 (vs := [.str (wS (osOf oa ob ks0)) u0, .str (wS (osOf oa ob ks1)) u1]) (Heap.IsList.at hwA (by intro o e; exact Fr.keep (by k_asm) _ o e)) (by rfl) (by rfl) (by decide) ?_)
    | (refine item_any (l := wA) 1 (vs := [.str (wS (osOf oa ob ks0)) u0, .str (wS (osOf oa ob ks1)) u1]) (Heap.IsList.at hwA (by intro o e; exact Fr.keep (by k_asm) _ o e)) (by rfl) (by rfl) (by decide) ?_)
    | (refine item_any (l := rA) 0 (vs := [.ref r0, .ref r1]) (Heap.IsList.at hrA (by intro o e; exact Fr.keep (by k_asm) _ o e)) (by rfl) (by rfl) (by decide) ?_)
    | (refine item_any (l := rA) 1 (vs := [.ref r0, .ref r1]) (Heap.IsList.at hrA (by intro o e; exact Fr.keep (by k_asm) _ o e)) (by rfl) (by rfl) (by decide) ?_))
  k_steps
  (with_reducible (rename Fr _ _ _ _ => eF)); (with_reducible (rename News _ _ _ _ => eN))
  refine hq _ _ _ _ _ eF ⟨by rfl, by rfl, by rfl, by rfl, by rfl, by rfl, by rfl⟩ eN
end
end Mine
end

-- WMap
section
open PySem PySem.W PyProof.Rows PySem.Calls
set_option linter.unusedVariables false
set_option maxRecDepth 100000
set_option maxHeartbeats 1000000
namespace Mine
theorem mro_map : mroOf (.type "map") = pure [.type "map", .type "object"] := by rw [mroOf_type]; kernel_rfl
theorem lookup_map_new : typeLookup (.type "map") "__new__" = pure (some (.builtin "map.__new__")) := by rw [typeLookup_type, builtinLookup_eq_fast]; kernel_rfl
theorem slot_map_init : Slot "map" "__init__" "object.__init__" :=
  .of (owner := "object") (n := "__init__") (by rw [typeLookup_type, builtinLookup_eq_fast]; kernel_rfl) (by decide +kernel) (by decide +kernel) (by decide +kernel)
    (by first | exact .inl (by decide +kernel) | exact .inr (by decide +kernel)) (by rw [isSubtype_type]; kernel_rfl)
theorem slot_map_next : Slot "map" "__next__" "map.__next__" :=
  .of (owner := "map") (n := "__next__") (by rw [typeLookup_type, builtinLookup_eq_fast]; kernel_rfl) (by decide +kernel) (by decide +kernel) (by decide +kernel)
    (by first | exact .inl (by decide +kernel) | exact .inr (by decide +kernel)) (by rw [isSubtype_type]; kernel_rfl)
theorem slot_map_iter : Slot "map" "__iter__" "map.__iter__" :=
  .of (owner := "map") (n := "__iter__") (by rw [typeLookup_type, builtinLookup_eq_fast]; kernel_rfl) (by decide +kernel) (by decide +kernel) (by decide +kernel)
    (by first | exact .inl (by decide +kernel) | exact .inr (by decide +kernel)) (by rw [isSubtype_type]; kernel_rfl)
theorem called_map : TypeCalled "map" "map.__new__" "object.__init__" :=
  ⟨by decide +kernel, by decide +kernel, ⟨_, _, mro_map⟩, madeBy_type mro_map lookup_map_new (by decide +kernel), by decide +kernel, by rw [isSubtype_type]; kernel_rfl, slot_map_init⟩
theorem typeCall_map_2 (a b : Value) : checkTypeCall "map" ⟨[a, b], []⟩ = pure () := by kernel_rfl
theorem newCall_map_2 (a b : Value) : checkBuiltinCall "map.__new__" ⟨[.type "map", a, b], []⟩ = pure () := by kernel_rfl
theorem entry_map_new : entryFor table "map.__new__" = some Builtin.«map.__new__» := entryFor_of_tree (by kernel_rfl)
theorem entry_map_next : entryFor table "map.__next__" = some Builtin.«map.__next__» := entryFor_of_tree (by kernel_rfl)
theorem args_map_next (a : Value) : argsOk "map.__next__" ⟨[a], []⟩ := by unfold argsOk; kernel_rfl
theorem args_map_iter (a : Value) : argsOk "map.__iter__" ⟨[a], []⟩ := by unfold argsOk; kernel_rfl
theorem sub_map : isSubtype (.type "map") (.type "map") = pure true := by rw [isSubtype_type]; kernel_rfl
theorem args_init_3m (o a b : Value) : argsOk "object.__init__" ⟨[o, a, b], []⟩ := by unfold argsOk; kernel_rfl
noncomputable abbrev itO (l : Addr) : Obj := { cls := .type "list_iterator", data := .fields #[.ref l, .int 0 0] }
noncomputable abbrev tupO (I : Addr) : Obj := { cls := .type "tuple", data := .seq #[.ref I] }
noncomputable abbrev mapO (T : Addr) (f : Value) : Obj := { cls := .type "map", data := .fields #[.ref T, f] }
noncomputable abbrev mH1 (h : Heap) (l : Addr) : Heap := h.push (itO l)
noncomputable abbrev mH2 (h : Heap) (l : Addr) : Heap := (mH1 h l).push (tupO h.objs.size)
noncomputable abbrev mH3 (h : Heap) (l : Addr) (f : Value) : Heap := (mH2 h l).push (mapO (mH1 h l).objs.size f)
theorem meets_map_new (f : Value) (l : Addr) (xs : Array Value) :
    Meets (Builtin.«map.__new__» ⟨[.type "map", f, .ref l], []⟩) (fun _ R s => s.heap.IsList l xs ∧ R (.ok (.ret (.ref (mH2 s.heap l).objs.size))) { s with heap := mH3 s.heap l f }) :=
  .of_wp fun prog w A R s h => by
    obtain ⟨hp, g, d, tk, os⟩ := s; obtain ⟨hl, h⟩ := h
    have hsub := sub_map
    have hL : Heap.IsList (Shared.heap ⟨hp, g, d, tk, os⟩) l xs := hl
    wp_walk using wpAny_pyIter_list hL
    exact ⟨_, rfl, h⟩
section
variable {prog : Program} {w : World} {A : Around} {E : Value → Shared → Prop} {s : Shared}
theorem call_map {f : Value} {l : Addr} {xs : Array Value} {Q : Value → Shared → Prop} (hl : s.heap.IsList l xs) (h : Q (.ref (mH2 s.heap l).objs.size) { s with heap := mH3 s.heap l f }) :
    wpAny (model prog w) A (call (.type "map") [f, .ref l]) Q E s :=
  callType_new called_map (by decide) (typeCall_map_2 _ _) (newCall_map_2 _ _) (fun obj => args_init_3m obj _ _) entry_map_new (meets_map_new f l xs) ⟨hl, ⟨_, Heap.get?_push_size _ rfl, rfl⟩, h⟩
theorem map_next_item {M T I l : Addr} {f : Value} {k : Nat} {xs : Array Value} {x : Value} {Q : Value → Shared → Prop} (hM : s.heap.get? M = some (mapO T f)) (hT : s.heap.get? T = some (tupO I)) (hMI : M ≠ I)
    (hI : s.heap.IsListIter I l k) (hl : s.heap.IsList l xs) (hx : xs[k]? = some x)
    (h : ∀ h', h'.IsListIter I l (k + 1) → Heap.SameBut I s.heap h' → wpAny (model prog w) A (call f [x]) Q E { s with heap := h' }) :
    wpAny (model prog w) A (Builtin.«map.__next__» ⟨[.ref M], []⟩) (fun fin s' => ∃ v, fin = .done (.ret v) ∧ Q v s') E s := by
  show wpAny _ _ (field (.ref M) 0 >>= _) _ _ _
  refine wpAny_bind (wpAny_field hM rfl (x := .ref T) rfl ?_)
  refine wpAny_bind (wpAny_seqItems hT rfl ?_)
  refine wpAny_bind ?_
  simp only [List.forIn_cons, List.forIn_nil]
  refine wpAny_bind (wpAny_bind (wpAny_holding ?_))
  refine wpAny_nextOf_list_item hI hl hx fun h' hI' hs => ?_
  refine wpAny_pure (wpAny_pure ?_)
  show wpAny _ _ (field (.ref M) 1 >>= _) _ _ _
  refine wpAny_bind (wpAny_field (hs.extBut _ _ hMI hM) rfl (x := f) rfl ?_)
  refine wpAny_bind (wpAny_holding (wpAny_mono (h h' hI' hs) (fun v s' q => ?_) fun _ _ e => e))
  exact wpAny_bind (wpAny_letGo (wpAny_pure ⟨v, rfl, q⟩))
theorem map_next_end {M T I l : Addr} {f : Value} {k : Nat} {xs : Array Value} {Q : Fin → Shared → Prop} (hh : A.handled = none) (hM : s.heap.get? M = some (mapO T f)) (hT : s.heap.get? T = some (tupO I))
    (hI : s.heap.IsListIter I l k) (hl : s.heap.IsList l xs) (hx : xs[k]? = none)
    (hE : ∀ h' e, Heap.ExtBut I s.heap h' → (∃ o, h'.get? e = some o ∧ o.cls = .type "StopIteration") → E (.ref e) { s with heap := h' }) :
    wpAny (model prog w) A (Builtin.«map.__next__» ⟨[.ref M], []⟩) Q E s := by
  show wpAny _ _ (field (.ref M) 0 >>= _) _ _ _
  refine wpAny_bind (wpAny_field hM rfl (x := .ref T) rfl ?_)
  refine wpAny_bind (wpAny_seqItems hT rfl ?_)
  refine wpAny_bind ?_
  simp only [List.forIn_cons, List.forIn_nil]
  refine wpAny_bind (wpAny_bind (wpAny_holding ?_))
  exact wpAny_nextOf_list_end hh hI hl hx hE
end
end Mine
namespace Mine
theorem entry_map_iter : entryFor table "map.__iter__" = some Builtin.«dict_keyiterator.__iter__» :=
  entryFor_alias (id' := "dict_keyiterator.__iter__") (by kernel_rfl) (by first | rfl | decide +kernel | (unfold String.splitOn; simp +decide [String.splitOnAux])) (by decide +kernel) (by kernel_rfl)
theorem map_no_len : typeLookup (.type "map") "__len__" = pure none := by rw [typeLookup_type, builtinLookup_eq_fast]; kernel_rfl
theorem map_no_hint : typeLookup (.type "map") "__length_hint__" = pure none := by rw [typeLookup_type, builtinLookup_eq_fast]; kernel_rfl
section
variable {prog : Program} {w : World} {A : Around} {E : Value → Shared → Prop} {s : Shared}
theorem pyNext_map_item {M T I l : Addr} {f : Value} {k : Nat} {xs : Array Value} {x : Value} {Q : Option Value → Shared → Prop} (hM : s.heap.get? M = some (mapO T f)) (hT : s.heap.get? T = some (tupO I)) (hMI : M ≠ I)
    (hI : s.heap.IsListIter I l k) (hl : s.heap.IsList l xs) (hx : xs[k]? = some x)
    (h : ∀ h' E', h'.IsListIter I l (k + 1) → Heap.SameBut I s.heap h' → wpAny (model prog w) A.in1 (call f [x]) (fun v s' => Q (some v) s') E' { s with heap := h' }) :
    wpAny (model prog w) A (pyNext (.ref M)) Q E s := by
  have hTy : s.TypeIs (.ref M) "map" := ⟨_, hM, rfl⟩
  unfold pyNext
  exact wpAny_bind (wpAny_attempt (wpAny_callSpecial?_slot (name := Str.ofString "__next__") hTy slot_map_next
    (wpAny_call_entry slot_map_next hTy entry_map_next
      (map_next_item hM hT hMI hI hl hx fun h' a b => wpAny_mono (h h' _ a b) (fun v s' q => wpAny_pure q) fun _ _ e => e) (args_map_next _))))
theorem pyNext_map_end {M T I l : Addr} {f : Value} {k : Nat} {xs : Array Value} {Q : Option Value → Shared → Prop} (hh : A.handled = none) (hM : s.heap.get? M = some (mapO T f)) (hT : s.heap.get? T = some (tupO I))
    (hI : s.heap.IsListIter I l k) (hl : s.heap.IsList l xs) (hx : xs[k]? = none) (hQ : ∀ h', Heap.ExtBut I s.heap h' → Q none { s with heap := h' }) : wpAny (model prog w) A (pyNext (.ref M)) Q E s := by
  have hTy : s.TypeIs (.ref M) "map" := ⟨_, hM, rfl⟩
  unfold pyNext
  refine wpAny_bind (wpAny_attempt (wpAny_callSpecial?_slot (name := Str.ofString "__next__") hTy slot_map_next
    (wpAny_call_entry slot_map_next hTy entry_map_next (map_next_end hh hM hT hI hl hx fun h' e hk he => ?_) (args_map_next _))))
  obtain ⟨o, ho, hc⟩ := he
  refine wpAny_bind (wpAny_isInstance (T := "StopIteration") (b := true) ⟨o, ho, hc⟩ isSubtype_stop ?_)
  exact wpAny_pure (hQ _ hk)
theorem pyIter_map {M T : Addr} {f : Value} {Q : Value → Shared → Prop} (hM : s.heap.get? M = some (mapO T f)) (h : Q (.ref M) s) : wpAny (model prog w) A (pyIter (.ref M)) Q E s := by
  have hT : s.TypeIs (.ref M) "map" := ⟨_, hM, rfl⟩
  refine wpAny_pyIter_slot hT slot_map_iter (wpAny_call_entry slot_map_iter hT entry_map_iter ?_ (args_map_iter _))
  show wpAny _ _ (ret (.ref M)) _ _ s
  exact wpAny_pure ⟨_, rfl, "map", _, hT, slot_map_next.lookup, h⟩
section
variable {I : Addr} {fp wr : List Addr} {G : Array GenState → Array GenState → Prop} {n : Nat} {P : Nat → Value → Prop} {St : Nat → Shared → Prop}
theorem collect_map {Q : List Value → Shared → Prop} (W : WalksS prog w A.in1 I fp wr G n P St) (hT : ∀ i s, St i s → s.TypeIs (.ref I) "map") (hst : St 0 s) (hfp : ∀ b ∈ fp, b < s.heap.objs.size) (hI : I ∈ fp)
    (hQ : ∀ s' acc, Moved wr G s s' → ItemsOf P acc n → Q acc.toList s') (hn : n ≤ sizeLine := by size_fits) : wpAny (model prog w) A (collect (.ref I)) Q E s := by
  have hSf : s.heap.objs.size ∉ fp := fun hm => Nat.lt_irrefl _ (hfp _ hm)
  have hSI : s.heap.objs.size ≠ I := fun e => hSf (e ▸ hI)
  unfold collect
  refine wpAny_bind (wpAny_runValue (codeAny_builtin F.entry_proto_collect ?_))
  rw [Around.under_plainId F.plain_proto_collect _]
  show wpAny _ A.in1 (newList [] >>= fun l => again (.builtin "list.__iadd__" ⟨[l, .ref I], []⟩)) _ _ s
  refine wpAny_bind (wpAny_newObj_type ?_)
  refine wpAny_pure ⟨plainId_quiet F.plain_list_iadd _, codeAny_builtin F.entry_list_iadd ?_⟩
  rw [Around.under_plainId F.plain_list_iadd _]
  have hst₁ := W.frame 0 s (s.heap.push { cls := .type "list", data := .seq ([] : List Value).toArray }) s.toks hst (Nat.le_refl _) fun b _ o e => Heap.get?_push_of_some _ e
  show wpAny _ A.in1 (Builtin.List.listExtendWith (.ref s.heap.objs.size) (.ref I) (.ref s.heap.objs.size)) _ _ _
  unfold Builtin.List.listExtendWith
  refine wpAny_bind (wpAny_typeOf (hT 0 _ hst₁) ?_)
  have h1 : Builtin.List.listSameRef (.ref s.heap.objs.size) (.ref I) = false := by simp [Builtin.List.listSameRef, hSI]
  have h2 : (Value.type "map" == Value.type "list") = false := by decide
  have h3 : (Value.type "map" == Value.type "tuple") = false := by decide
  simp only [h1, h2, h3, Bool.or_false, Bool.false_eq_true, if_false]
  refine wpAny_bind (W.self 0 _ _ _ hst₁ ?_)
  refine wpAny_bind (wpAny_holding ?_)
  unfold Builtin.List.listLengthHint
  refine wpAny_bind (wpAny_specialOf (hT 0 _ hst₁) map_no_len ?_)
  show wpAny _ A.in1 (specialOf (Value.ref I) (Str.ofString "__length_hint__") >>= _) _ _ _
  refine wpAny_bind (wpAny_specialOf (hT 0 _ hst₁) map_no_hint ?_)
  refine wpAny_pure ?_
  show wpAny _ A.in1 (rule "list.extend.makes-room" >>= fun _ => Builtin.List.listTouch (.ref s.heap.objs.size) >>= fun _ =>
    again (.builtin "list.extend.loop" ⟨[.ref s.heap.objs.size, .ref I, .ref s.heap.objs.size], []⟩)) _ _ _
  refine wpAny_bind (wpAny_rule ?_)
  have hS₁ : (s.heap.push { cls := .type "list", data := .seq ([] : List Value).toArray }).get? s.heap.objs.size = some { cls := .type "list", data := .seq ([] : List Value).toArray } := Heap.get?_push_size _ rfl
  refine wpAny_bind ?_
  show wpAny _ A.in1 (updateSeq s.heap.objs.size (·.push .none) >>= fun _ => updateSeq s.heap.objs.size (·.pop)) _ _ _
  refine wpAny_bind (wpAny_updateSeq hS₁ rfl ?_)
  have hS₂ := Heap.get?_update_self (Obj.mapSeq (·.push Value.none)) hS₁ rfl
  refine wpAny_updateSeq hS₂ rfl ?_
  have hS₃ := Heap.get?_update_self (Obj.mapSeq (·.pop)) hS₂ rfl
  have oth : ∀ b o, b ≠ s.heap.objs.size → (s.heap.push { cls := .type "list", data := .seq ([] : List Value).toArray }).get? b = some o →
      (((s.heap.push { cls := .type "list", data := .seq ([] : List Value).toArray }).update s.heap.objs.size (Obj.mapSeq (·.push Value.none))).update s.heap.objs.size (Obj.mapSeq (·.pop))).get? b = some o :=
    fun b o hb e => (Heap.get?_update_other _ _ (Ne.symm hb)).trans ((Heap.get?_update_other _ _ (Ne.symm hb)).trans e)
  refine wpAny_pure ⟨plainId_quiet F.plain_extend_loop _, codeAny_extend_loopS W hn _ hSf _ n 0 _ _ _ rfl (Nat.zero_le _)
    (W.frame 0 ({ s with heap := s.heap.push { cls := .type "list", data := .seq ([] : List Value).toArray } } : Shared) _ s.toks hst₁ (Nat.le_refl _) fun b hb o e => oth b o (fun h => hSf (h ▸ hb)) e) hS₃ (ItemsOf.nil P) fun s' acc' c' hm hS' hacc => ?_⟩
  show wpAny _ A (load s.heap.objs.size >>= _) _ _ s'
  refine wpAny_bind (wpAny_load hS' ?_)
  refine wpAny_pure (hQ s' acc' (Moved.drop_new (o := { cls := .type "list", data := .seq ([] : List Value).toArray }) (tk := s.toks) (Moved.trans W.gtrans ((Moved.refl W.grefl).then_heap (by first | exact Nat.le_refl _ | exact Nat.le_succ _ | omega) fun b o hb e => ?_) hm) (Nat.le_refl _)) hacc)
  exact oth b o (fun h => hb (by rw [h]; exact List.mem_cons_self)) e
theorem call_tuple_map {Q : Value → Shared → Prop} (W : WalksS prog w A.in1.in1.in1 I fp wr G n P St) (hT : ∀ i s, St i s → s.TypeIs (.ref I) "map") (hst : St 0 s) (hfp : ∀ b ∈ fp, b < s.heap.objs.size) (hI : I ∈ fp)
    (hQ : ∀ s' acc, Moved wr G s s' → ItemsOf P acc n → Q (.ref s'.heap.objs.size) { s' with heap := s'.heap.push { cls := .type "tuple", data := .seq acc } }) (hsz : n ≤ sizeLine := by size_fits) :
    wpAny (model prog w) A (call (.type "tuple") [.ref I]) Q E s := by
  have hcode : codeAny (model prog w) A.in1 (.call (.builtin "tuple.__new__") ⟨[.type "tuple", .ref I], []⟩) (wants (fun obj s₁ => s₁.TypeIs obj "tuple" ∧ Q obj s₁) E) s := by
    refine codeAny_of_tree ?_
    show wpAny _ A.in1.in1 (do checkBuiltinCall "tuple.__new__" ⟨[.type "tuple", .ref I], []⟩; again (.builtin "tuple.__new__" ⟨[.type "tuple", .ref I], []⟩)) _ _ s
    refine wpAny_bind (wpAny_of_eq (F.newCall_tuple_1 _) (wpAny_pure ⟨plainId_quiet F.plain_tuple_new _, codeAny_builtin F.entry_tuple_new ?_⟩))
    rw [Around.under_plainId F.plain_tuple_new _]
    have hsub := sub_tuple_self
    have hinit := init_tuple_lookup
    have hmh := madeHere_tuple
    have hTI := hT 0 s hst
    wp_walk using wpAny_typeOf hTI, collect_map (hn := hsz) W hT hst hfp hI
    intro s' acc hm hacc
    show wpAny _ _ (Builtin.Tuple.tupleExact acc.toList.toArray >>= fun v => ret v) _ _ _
    unfold Builtin.Tuple.tupleExact
    refine wpAny_bind (wpAny_newObj_type ?_ (by show acc.toList.toArray.size ≤ sizeLine; simp only [Array.toArray_toList]; rw [hacc.1]; exact hsz))
    refine wpAny_pure ?_
    have e : acc.toList.toArray = acc := by simp
    rw [e]
    exact ⟨⟨_, Heap.get?_push_size _ rfl, rfl⟩, hQ s' acc hm hacc⟩
  refine callType_codes (Q₁ := fun obj s₁ => s₁.TypeIs obj "tuple" ∧ Q obj s₁) F.called_tuple (F.typeCall_tuple_1 _) F.entry_object_init hcode fun obj s₁ h₁ => ?_
  exact ⟨h₁.1, F.args_object_init_2 obj _, object_init_meets F.called_tuple.init.lookup F.called_tuple.made (by decide) prog w A.in1 _ s₁ ⟨h₁.1, rfl, h₁.2⟩⟩
end
end
end Mine
namespace Mine
section
variable {prog : Program} {w : World} {A : Around} {E : Value → Shared → Prop} {s : Shared} {h₀ : Heap} {L : Addr} {m : Str → Option Value} {news : List (Addr × Obj)}
theorem fr_move {h h' : Heap} {I : Addr} (F : Fr h₀ L h m) (hk : ∀ b o, b ≠ I → h.get? b = some o → h'.get? b = some o) (hIL : I ≠ L) (hI0 : h₀.get? I = none) : Fr h₀ L h' m :=
  let ⟨o, a1, a2, hL, r⟩ := F.ns
  ⟨⟨o, a1, a2, hk _ _ (Ne.symm hIL) hL, r⟩, fun b o e => hk b o (fun q => by rw [q, hI0] at e; cases e) (F.keep b o e), F.above⟩
theorem news_move {h h' : Heap} {I : Addr} (N : News h₀ L h news) (hk : ∀ b o, b ≠ I → h.get? b = some o → h'.get? b = some o) (hn : ∀ p ∈ news, p.1 ≠ I) : News h₀ L h' news :=
  fun p hp => ⟨hk _ _ (hn p hp) (N p hp).1, (N p hp).2⟩
theorem call_map_K {f : Value} {l : Addr} {xs : Array Value} {Q : Value → Shared → Prop} (F : Fr h₀ L s.heap m) (N : News h₀ L s.heap news) (hl : s.heap.IsList l xs)
    (h : ∀ M T I h', Fr h₀ L h' m → News h₀ L h' ((M, mapO T f) :: (T, tupO I) :: (I, itO l) :: news) → (∀ p ∈ news, p.1 < I) → Q (.ref M) { s with heap := h' }) :
    wpAny (model prog w) A (call (.type "map") [f, .ref l]) Q E s := by
  refine call_map hl ?_
  have F1 : Fr h₀ L (mH1 s.heap l) m := F.push _
  have N1 : News h₀ L (mH1 s.heap l) ((s.heap.objs.size, itO l) :: news) := News.push F N _
  have F2 : Fr h₀ L (mH2 s.heap l) m := F1.push _
  have N2 : News h₀ L (mH2 s.heap l) (((mH1 s.heap l).objs.size, tupO s.heap.objs.size) :: (s.heap.objs.size, itO l) :: news) := News.push F1 N1 _
  exact h _ _ _ _ (F2.push _) (News.push F2 N2 _) fun p hp => Heap.lt_size (N p hp).1
theorem tuple_map_K {f : Value} {l M T I : Addr} {xs : Array Value} {Q : Value → Shared → Prop} (F : Fr h₀ L s.heap m) (N : News h₀ L s.heap ((M, mapO T f) :: (T, tupO I) :: (I, itO l) :: news)) (hh : A.handled = none) (hnI : ∀ p ∈ news, p.1 ≠ I) (hl : h₀.IsList l xs)
    (hf : ∀ (s' : Shared) x (Q' E' : Value → Shared → Prop), x ∈ xs → Fr h₀ L s'.heap m → (∀ h' tk', s'.heap.StaysIn h' → Q' x { s' with heap := h', toks := tk' }) → wpAny (model prog w) A.in1.in1.in1.in1 (call f [x]) Q' E' s')
    (h : ∀ D h' tk, Fr h₀ L h' m → News h₀ L h' ((D, { cls := .type "tuple", data := .seq xs }) :: news) → (∀ p ∈ news, p.1 < D) → Q (.ref D) { s with heap := h', toks := tk }) (hsz : xs.size ≤ sizeLine) :
    wpAny (model prog w) A (call (.type "tuple") [.ref M]) Q E s := by
  have gM := (N _ (.head _)).1
  have gT := (N _ (.tail _ (.head _))).1
  have gI := (N _ (.tail _ (.tail _ (.head _)))).1
  have nI := (N _ (.tail _ (.tail _ (.head _)))).2
  have hMI : M ≠ I := fun e => by rw [e] at gM; have := gM.symm.trans gI; simp at this
  have hTI : T ≠ I := fun e => by rw [e] at gT; have := gT.symm.trans gI; simp at this
  have hls : s.heap.IsList l xs := hl.at fun o e => F.keep l o e
  obtain ⟨ol, hol, _⟩ := id hl
  have hlI : l ≠ I := fun e => by rw [e, nI.2] at hol; cases hol
  let St : Nat → Shared → Prop := fun i s' => (∀ b o, b ≠ I → s.heap.get? b = some o → s'.heap.get? b = some o) ∧ s'.heap.IsListIter I l i
  have W : WalksS prog w A.in1.in1.in1 M (List.range s.heap.objs.size) [I] (fun a b => b = a) xs.size (fun i v => xs[i]? = some v) St := {
    sub := fun b hb => by rw [List.mem_singleton.mp hb]; exact List.mem_range.mpr (Heap.lt_size gI)
    grefl := fun _ => rfl
    gtrans := fun _ _ _ h1 h2 => h2.trans h1
    frame := fun i s' h' tk hst _ hk => ⟨fun b o hb e => hk b (List.mem_range.mpr (Heap.lt_size e)) o (hst.1 b o hb e), hst.2.at fun o e => hk I (List.mem_range.mpr (Heap.lt_size gI)) o e⟩
    item := fun i s' Q' E' hi hst hQ => by
      obtain ⟨hk, hI⟩ := hst
      have hx : xs[i]? = some xs[i] := Array.getElem?_eq_getElem hi
      refine wpAny_with_toks (Nat.le_refl s'.toks) (pyNext_map_item (hk _ _ hMI gM) (hk _ _ hTI gT) hMI hI (hls.at fun o e => hk l o hlI e) hx fun h' E'' hI' hs => ?_)
      refine hf { s' with heap := h' } xs[i] _ E'' (Array.getElem_mem hi) (fr_move F (fun b o hb e => hs.extBut _ _ hb (hk b o hb e)) nI.1 nI.2) fun h'' tk' st htk => ?_
      exact hQ _ _ hx ⟨fun b o hb e => st _ _ (hs.extBut _ _ hb (hk b o hb e)), hI'.at fun o e => st _ o e⟩ ⟨fun b o hb e => st _ _ (hs.extBut _ _ (fun q => hb (List.mem_singleton.mpr q)) e), rfl, rfl, rfl, htk⟩
    done := fun s' Q' E' hst hQ => by
      obtain ⟨hk, hI⟩ := hst
      refine wpAny_with_toks (Nat.le_refl s'.toks) (pyNext_map_end hh (hk _ _ hMI gM) (hk _ _ hTI gT) hI (hls.at fun o e => hk l o hlI e) (Array.getElem?_eq_none (Nat.le_refl _)) fun h' hb htk => ?_)
      exact hQ _ ⟨fun b o hb' e => hb _ _ (fun q => hb' (List.mem_singleton.mpr q)) e, rfl, rfl, rfl, htk⟩
    self := fun i s' Q' E' hst hQ => pyIter_map (hst.1 _ _ hMI gM) hQ }
  refine call_tuple_map W (fun i s' hst => ⟨_, hst.1 _ _ hMI gM, rfl⟩) ⟨fun b o _ e => e, ⟨_, gI, rfl, rfl⟩⟩ (fun b hb => List.mem_range.mp hb) (List.mem_range.mpr (Heap.lt_size gM)) (fun s' acc hm hacc => ?_) hsz
  have e : acc = xs := by
    apply Array.ext
    · exact hacc.1
    · intro i h1 h2
      have : xs[i]? = some acc[i] := hacc.2 i acc[i] (Array.getElem?_eq_getElem h1)
      rw [Array.getElem?_eq_getElem h2] at this
      exact (Option.some.inj this).symm
  subst e
  have hk : ∀ b o, b ≠ I → s.heap.get? b = some o → s'.heap.get? b = some o := fun b o hb e => hm.heap b o (fun q => hb (List.mem_singleton.mp q)) e
  have F' : Fr h₀ L s'.heap m := fr_move F hk nI.1 nI.2
  have N' : News h₀ L s'.heap news := news_move (fun p hp => N p (.tail _ (.tail _ (.tail _ hp)))) hk hnI
  have hs' : s' = { s with heap := s'.heap, toks := s'.toks } := by
    obtain ⟨h1, g1, d1, t1, o1⟩ := s'
    have e1 := hm.gens; have e2 := hm.drawn; have e3 := hm.os
    dsimp only at e1 e2 e3
    subst e1 e2 e3
    rfl
  have key := h s'.heap.objs.size (s'.heap.push { cls := .type "tuple", data := .seq acc }) s'.toks (F'.push _) (News.push F' N' _) fun p hp => Heap.lt_size (N' p hp).1
  rw [hs']
  exact key
end
end Mine
end

-- W11a
section
open PySem PySem.W PyProof.Rows PySem.Calls
set_option linter.unusedVariables false
set_option maxRecDepth 100000
set_option maxHeartbeats 40000000
namespace Mine
theorem fillK_W11a : (fun (_ : Params → Frag) (_ : OpenLaw) => True) hd.heap_39 PySem.Challenge.rw_rt0089_01 := by k_fill; trivial
noncomputable def cpBody : List Stmt := match stA 44 with
  | .FunctionDef n a b _ _ _ sc _ _ pos => b
  | _ => []
noncomputable def cpScope : Scope := match stA 44 with
  | .FunctionDef n a b _ _ _ sc _ _ pos => sc
  | _ => default
noncomputable def cpFor : Stmt := match (cpBody.getD 3 (stA 0)) with
  | .Try b _ _ _ _ => b.getD 6 (stA 0)
  | _ => stA 0
theorem fr_eq {h₀ : Heap} {L : Addr} {h : Heap} {m m' : Str → Option Value} (F : Fr h₀ L h m) (e : ∀ z, m z = m' z) : Fr h₀ L h m' := (funext e : m = m') ▸ F
theorem news_dup {h₀ : Heap} {L : Addr} {h : Heap} {news : List (Addr × Obj)} {p : Addr × Obj} (N : News h₀ L h news) (hp : p ∈ news) : News h₀ L h (p :: news) := fun q hq => by
  rcases List.mem_cons.mp hq with rfl | hq
  · exact N _ hp
  · exact N q hq
theorem news_skip2 {h₀ : Heap} {L : Addr} {h : Heap} {news : List (Addr × Obj)} {p a b : Addr × Obj} (N : News h₀ L h (p :: a :: b :: news)) : News h₀ L h (p :: news) := fun q hq => by
  rcases List.mem_cons.mp hq with rfl | hq
  · exact N _ (.head _)
  · exact N q (.tail _ (.tail _ (.tail _ hq)))
theorem cn1 : Str.ofString "common" ≠ Str.ofString "c" := by decide
theorem cn2 : Str.ofString "common" ≠ Str.ofString "i" := by decide
theorem cn3 : Str.ofString "c" ≠ Str.ofString "i" := by decide
section
variable {w : World} {p : Program} {loose : List Str} {mean : ExcName → Option Value} {mg mb : Str → Option Value} {d dp un : Nat} {gd : Option (List Code)} {cn : Str} {cs : Scope} {a : Addr} {ccd : Value} {cl : List (Str × Addr)} {outer : List Env} {A₀ : Around} {base h₀ : Heap} {L : Addr} {m : Str → Option Value} {s : Shared} {Q E : Value → Shared → Prop}
set_option maxHeartbeats 40000000 in
theorem for_lcp {Qf : Flow → Shared → Prop} {X Y : List Nat} {c9 c8 : Addr} {vc9 vc8 : List Value} {m₀ : Str → Option Value} {news : List (Addr × Obj)}
    (hE : PassesOwn (model PySem.Challenge.pw_rt0089_01 w) (ktrTop dp un gd (Str.ofString "commonpath") cpScope L 218 (.ref 217) (cellsFrom (L + 1) cpScope.names []) outer) (envOfC (Str.ofString "commonpath") cpScope L 218 (.ref 217)) E)
    (C : Cx (hd.heap_39 w.params) p loose mean mg mb d dp un cpScope outer A₀ base h₀ L (fun y => if y = Str.ofString "common" then some (.ref c9) else if y = Str.ofString "s2" then some (.ref c8) else if y = Str.ofString "s1" then some (.ref c9) else m₀ y) s.heap)
    (N : News h₀ L s.heap news) (m9 : (c9, LCg.lst vc9) ∈ news) (m8 : (c8, LCg.lst vc8) ∈ news)
    (nmin : NmsAre vc9 X) (nmax : NmsAre vc8 Y) (hn : Y.length = X.length) (hl : X.length ≤ 9) (hXo : ∀ o ∈ X, o < 256) (hYo : ∀ o ∈ Y, o < 256)
    (h : ∀ D vs n ui uc h tk, NmsAre vs (lcp X Y) → Fr h₀ L h (fun y => if y = Str.ofString "common" then some (.ref D) else if y = Str.ofString "c" then uc else if y = Str.ofString "i" then ui else if y = Str.ofString "s2" then some (.ref c8) else if y = Str.ofString "s1" then some (.ref c9) else m₀ y) →
      News h₀ L h ((D, W.listOf vs.toArray n) :: news) → Qf .next { s with heap := h, toks := tk }) :
    wpAny (model PySem.Challenge.pw_rt0089_01 w) (ktrTop dp un gd (Str.ofString "commonpath") cpScope L 218 (.ref 217) (cellsFrom (L + 1) cpScope.names []) outer) (exec cpFor (envOfC (Str.ofString "commonpath") cpScope L 218 (.ref 217))) Qf E s := by
  k_with_none
  k_with "exec For Tuple Call cons nil" => ((k_here; (rename Fr _ _ _ _ => lF'); (with_unfolding_all refine' For_turns lF' ?_ ?_ ?_; (case refine'_2 => (intro _; rfl)); (case refine'_3 => assumption); k_whole)))
  k_with "call type:enumerate" => (k_extra "enum")
  k_with "subscriptTail Name Name ref int" => (k_extra "item")
  k_with "subscriptTail Name Slice ref ref" => (k_extra "cut")
  k_with "compareOp NotEq str str" => ((k_here; first | refine ne_names_f (by assumption) ?_ | refine ne_names (by assumption) (by assumption) (by assumption) ?_))
  conv at C in (occs := *) cpScope => all_goals whnf
  conv at hE in (occs := *) cpScope => all_goals whnf
  conv in (occs := *) cpScope => all_goals whnf
  conv in (occs := *) cpFor => all_goals whnf
  have X' := C.X; have T' := C.T; have B' := C.B; have F' := C.F
  k_with "enum" => (
    k_here
    (with_reducible (rename Fr _ _ _ _ => lF8))
    (with_reducible (rename News _ _ _ _ => lN8))
    have hh9 : (ktrTop dp un gd (Str.ofString "commonpath") cpScope L 218 (.ref 217) (cellsFrom (L + 1) cpScope.names []) outer).handled = none := rfl
    have hP0 : ∀ j : Nat, j < 0 → X[j]? = Y[j]? := fun j hj => absurd hj (Nat.not_lt_zero _)
    (with_unfolding_all (refine enum_names (fun i => ∀ j : Nat, j < i → X[j]? = Y[j]?) hh9 lF8 lN8 m9 nmin ?_ ?_ ?_))
    (case refine_1 => (intro j hj; exact absurd hj (Nat.not_lt_zero _)))
    (case' refine_2 => (
      intro I' i9 o9 t9 u9 T9 h9 tk9 ui9 uc9 oe9 oi9 hI9 ho9 hP9 hT9 F9 he9 hi9 N9
      have hi8 : i9 < X.length := (List.getElem?_eq_some_iff.mp ho9).1
      obtain ⟨p9, hp9⟩ : ∃ p, Y[i9]? = some p := ⟨_, List.getElem?_eq_getElem (by omega)⟩
      obtain ⟨t8, ht8⟩ := nmax.item hp9
      have ho8 := hXo o9 (List.mem_of_getElem? ho9)
      have hp8 := hYo p9 (List.mem_of_getElem? hp9)
      have hv8 : vc9.length ≤ 1000 := by rw [nmin.len]; omega
      try k_fold))
    (case' refine_3 => (intro ui9 uc9 h9 tk9 hP9 F9 N9; (try dsimp only))))
  k_with "item" => (
    k_here
    (with_reducible show wpAny _ _ (subscriptTail _ _ (Value.ref _) (Value.int _ _)) _ _ _)
    refine item_any i9 (News.isList (by k_asm) (List.mem_cons_of_mem _ (List.mem_cons_of_mem _ m8))) (by rfl) ht8 (by omega) ?_
    by_cases e9 : o9 = p9)
  k_with "cut" => (
    k_here
    (with_reducible show wpAny _ _ (subscriptTail _ _ (Value.ref _) (Value.ref _)) _ _ _)
    refine slice_toL i9 (by k_asm) (by k_asm) (News.isList (by k_asm) (List.mem_cons_of_mem _ (List.mem_cons_of_mem _ m9))) hv8 ?_
    intro D' h' F' N' l1
    (have hm9 : NmsAre (vc9.take i9) (lcp X Y) := by rw [lcp_at hP9 ho9 hp9 e9]; exact nmin.take i9)
    (try k_lt l1); (try k_sweep))
  k_steps
  · refine h c9 vc9 vc9.length ui9 uc9 h9 tk9 (by rw [lcp_all hP9]; exact nmin) (fr_eq F9 fun z => ?_) (news_dup N9 m9)
    by_cases z1 : z = Str.ofString "common"
    · subst z1; simp [cn1, cn2]
    · by_cases z2 : z = Str.ofString "c"
      · subst z2; simp [cn1.symm]
      · by_cases z3 : z = Str.ofString "i"
        · subst z3; simp [cn2.symm, cn3.symm]
        · simp [z1, z2, z3]
  · (with_reducible (rename Fr _ _ _ _ => eF)); (with_reducible (rename News _ _ _ _ => eN))
    refine ⟨_, _, _, news, rfl, eF, eN, fun p hp q hq => ?_, ⟨m9, trivial⟩, rfl, fun z h1 h2 => ?_, fun j hj => ?_⟩
    · have := hI9 p hp
      rcases List.mem_cons.mp hq with rfl | hq
      · exact Nat.ne_of_lt (Nat.lt_succ_of_lt this)
      · rw [List.mem_singleton.mp hq]; exact Nat.ne_of_lt this
    · simp only [if_neg h1, if_neg h2]
    · rcases Nat.lt_or_ge j i9 with h1 | h1
      · exact hP9 j h1
      · obtain rfl : j = i9 := by omega
        rw [ho9, hp9, e9]
  · (with_reducible (rename Fr _ _ _ _ => eF)); (with_reducible (rename News _ _ _ _ => eN))
    refine h _ _ _ (some (.int (i9 : Int) t9)) (some (.str (tS (nm o9)) u9)) _ _ hm9 (fr_eq eF fun z => ?_) (news_skip2 eN)
    by_cases z1 : z = Str.ofString "common"
    · subst z1; simp [cn1, cn2]
    · by_cases z2 : z = Str.ofString "c"
      · subst z2; simp [cn1.symm]
      · by_cases z3 : z = Str.ofString "i"
        · subst z3; simp [cn2.symm, cn3.symm]
        · simp [z1, z2, z3]
end
end Mine
end

-- W14b
section
open PySem PySem.W PyProof.Rows PySem.Calls
set_option linter.unusedVariables false
set_option maxRecDepth 100000
set_option maxHeartbeats 40000000
namespace Mine
theorem fillK_W14b : (fun (_ : Params → Frag) (_ : OpenLaw) => True) hd.heap_39 PySem.Challenge.rw_rt0089_01 := by k_fill; trivial
theorem turn_end3 {h₀ : Heap} {L : Addr} {J : (Str → Option Value) → List (Addr × Obj) → Prop} {own : List (Addr × Obj)} {adr : List Addr} {s₁ : Shared} {h : Heap} {tk : Nat} {m' : Str → Option Value} {a b c : Addr × Obj} {rest : List (Addr × Obj)} (F : Fr h₀ L h m') (N : News h₀ L h (a :: b :: c :: (rest ++ own)))
    (hj : J m' (a :: b :: c :: rest)) (ha : (a :: b :: c :: rest).map (·.1) = adr) : InvEndN h₀ L J own adr s₁ { s₁ with heap := h, toks := tk } :=
  InvEndN.intro F N hj ha (fun p hp => by
    rcases List.mem_cons.mp hp with rfl | hp
    · exact .head _
    rcases List.mem_cons.mp hp with rfl | hp
    · exact .tail _ (.head _)
    rcases List.mem_cons.mp hp with rfl | hp
    · exact .tail _ (.tail _ (.head _))
    · exact .tail _ (.tail _ (.tail _ (List.mem_append_left _ hp)))) fun p hp => .tail _ (.tail _ (.tail _ (List.mem_append_right _ hp)))
theorem off_rest {own rest : List (Addr × Obj)} {x : Addr} {adr : List Addr} (h : ∀ p ∈ rest, p.1 ≠ x) (o : OwnOff own adr) (hx : x ∈ adr) : ∀ p ∈ rest ++ own, p.1 ≠ x := fun p hp => (List.mem_append.mp hp).elim (h p) (o.ne hx p)
theorem la_chain {m : Str → Option Value} {v v1 v2 v3 v4 v5 v6 : Value} (z1 : m (Str.ofString "some") = some v1) (z2 : m (Str.ofString "kind") = some v2) (z3 : m (Str.ofString "answers") = some v3) (z4 : m (Str.ofString "rows") = some v4) (z5 : m (Str.ofString "ways") = some v5) (z6 : m (Str.ofString "names") = some v6) :
    (fun y => if y = Str.ofString "more" then some v else if y = Str.ofString "some" then some v1 else if y = Str.ofString "kind" then some v2 else if y = Str.ofString "answers" then some v3 else if y = Str.ofString "rows" then some v4 else if y = Str.ofString "ways" then some v5 else if y = Str.ofString "names" then some v6 else m y) = fun y => if y = Str.ofString "more" then some v else m y := by
  funext y
  by_cases h0 : y = Str.ofString "more"
  · rw [if_pos h0, if_pos h0]
  rw [if_neg h0, if_neg h0]
  by_cases h1 : y = Str.ofString "some"
  · rw [if_pos h1, h1, z1]
  rw [if_neg h1]
  by_cases h2 : y = Str.ofString "kind"
  · rw [if_pos h2, h2, z2]
  rw [if_neg h2]
  by_cases h3 : y = Str.ofString "answers"
  · rw [if_pos h3, h3, z3]
  rw [if_neg h3]
  by_cases h4 : y = Str.ofString "rows"
  · rw [if_pos h4, h4, z4]
  rw [if_neg h4]
  by_cases h5 : y = Str.ofString "ways"
  · rw [if_pos h5, h5, z5]
  rw [if_neg h5]
  by_cases h6 : y = Str.ofString "names"
  · rw [if_pos h6, h6, z6]
  rw [if_neg h6]
theorem flat_succ (a : Int) (c : List Bool) (f : Int → List Bool) (i : Nat) : (c ++ (rangeKs a i).flatMap f) ++ f (a + (i : Int)) = c ++ (rangeKs a (i + 1)).flatMap f := by
  rw [rangeKs_succ]; simp
noncomputable def JM (nD : Nat) (D D0 D1 : Addr) (rest : List (Addr × Obj)) (f0 f1 : Int → List Bool) (c0 c1 : List Bool) (a₀ : Int) (Z : (Str → Option Value) → Prop) (i : Nat) (m₁ : Str → Option Value) (nx : List (Addr × Obj)) : Prop :=
  ∃ k0 k1, nx = (D, pairL D0 D1 nD) :: (D0, boolsL (c0 ++ (rangeKs a₀ i).flatMap f0) k0) :: (D1, boolsL (c1 ++ (rangeKs a₀ i).flatMap f1) k1) :: rest ∧ Z m₁
section
variable {prog : Program} {w : World} {A : Around} {E : Value → Shared → Prop} {s : Shared} {env : Env} {h₀ : Heap} {x : Str} {body : List Stmt} {Q : Flow → Shared → Prop}
/-- a loop over a range whose turns make the two rows of answers longer -/
theorem la_loop {r : Addr} {a₀ b₀ : Int} {t₀ u₀ v₀ : Tok} {n n0 n1 nD : Nat} {m₀ : Str → Option Value} {D D0 D1 : Addr} {rest : List (Addr × Obj)} {c0 c1 : List Bool} (f0 f1 : Int → List Bool) (Z : (Str → Option Value) → Prop)
    (hh : A.handled = none) (hr : IsRange s.heap r a₀ b₀ 1 t₀ u₀ v₀) (hsmall : Builtin.Range.small a₀ b₀ 1 = true) (hn : Builtin.Range.rangeSize a₀ b₀ 1 = (n : Int)) (F : Fr h₀ env.locals s.heap m₀)
    (N : News h₀ env.locals s.heap ((D, pairL D0 D1 nD) :: (D0, boolsL c0 n0) :: (D1, boolsL c1 n1) :: rest)) (hZ : Z m₀) (e0 : ∀ p ∈ rest, p.1 ≠ D0) (e1 : ∀ p ∈ rest, p.1 ≠ D1)
    (turn : ∀ (i : Nat) t m₁ k0 k1 rest' h tk (K : Flow → Shared → Prop), i < n → Z m₁ → Fr h₀ env.locals h (fun y => if y = x then some (.int (a₀ + (i : Int)) t) else m₁ y) →
      News h₀ env.locals h ((D, pairL D0 D1 nD) :: (D0, boolsL (c0 ++ (rangeKs a₀ i).flatMap f0) k0) :: (D1, boolsL (c1 ++ (rangeKs a₀ i).flatMap f1) k1) :: rest') → (∀ p ∈ rest', p.1 ≠ D0) → (∀ p ∈ rest', p.1 ≠ D1) →
      (∀ h' tk' m' j0 j1, Fr h₀ env.locals h' m' → Z m' → News h₀ env.locals h' ((D, pairL D0 D1 nD) :: (D0, boolsL ((c0 ++ (rangeKs a₀ i).flatMap f0) ++ f0 (a₀ + (i : Int))) j0) :: (D1, boolsL ((c1 ++ (rangeKs a₀ i).flatMap f1) ++ f1 (a₀ + (i : Int))) j1) :: rest') → K .next { s with heap := h', toks := tk' }) →
      wpAny (model prog w) A (execs body env) K E { s with heap := h, toks := tk })
    (done : ∀ m₁ k0 k1 h tk, Z m₁ → Fr h₀ env.locals h m₁ → News h₀ env.locals h ((D, pairL D0 D1 nD) :: (D0, boolsL (c0 ++ (rangeKs a₀ n).flatMap f0) k0) :: (D1, boolsL (c1 ++ (rangeKs a₀ n).flatMap f1) k1) :: rest) → Q .next { s with heap := h, toks := tk }) :
    wpAny (model prog w) A (pyIter (.ref r)) (fun it s₂ => LoopAtV prog w A h₀ env x body Q E it s₂) E s := by
  refine iter_rangeJ (n := n) (JM nD D D0 D1 rest f0 f1 c0 c1 a₀ Z) hh hr hsmall hn F N ⟨n0, n1, by simp [rangeKs], hZ⟩ ?_ ?_
  · rintro i t m₁ nx h tk own hi hoff ⟨k0, k1, rfl, hZ1⟩ F1 N1
    refine turn i t m₁ k0 k1 (rest ++ own) h tk _ hi hZ1 F1 N1 (off_rest e0 hoff (by simp)) (off_rest e1 hoff (by simp)) ?_
    intro h' tk' m' j0 j1 F2 Z2 N2
    rw [flat_succ, flat_succ] at N2
    exact turn_end3 F2 N2 ⟨j0, j1, rfl, Z2⟩ rfl
  · rintro m₁ nx h tk ⟨k0, k1, rfl, hZ1⟩ F1 N1
    exact done m₁ k0 k1 h tk hZ1 F1 N1
end
theorem fr_cast {h₀ : Heap} {L K : Addr} {h : Heap} {m : Str → Option Value} (e : L = K) (F : Fr h₀ L h m) : Fr h₀ K h m := e ▸ F
theorem flat_len1 (c : List Bool) (f : Int → Bool) (i : Nat) : (c ++ (rangeKs 0 i).flatMap fun x => [f x]).length = c.length + i := by
  rw [List.length_append]
  congr 1
  induction i with
  | zero => simp [rangeKs]
  | succ i ih => rw [rangeKs_succ, List.flatMap_append, List.length_append, ih]; rfl
section
variable {w : World} {p : Program} {loose : List Str} {mean : ExcName → Option Value} {mg mb : Str → Option Value} {d dp un : Nat} {gd : Option (List Code)} {cn : Str} {cs : Scope} {a : Addr} {ccd : Value} {cl : List (Str × Addr)} {outer : List Env} {A₀ : Around} {base h₀ : Heap} {L : Addr} {m : Str → Option Value} {s : Shared} {Q E : Value → Shared → Prop}
set_option maxHeartbeats 40000000 in
theorem la_more {oa ob : Nat} {c0 c1 : List Bool} {n0 n1 nD : Nat} {ks0 ks1 : List Int} {vs0 vs1 : List Value} {kind some_ most n : Nat} {tk1 tk2 tm ta tb u0 u1 : Tok} {nA wA rA r0 r1 D D0 D1 : Addr} {rest : List (Addr × Obj)} {Qf : Flow → Shared → Prop}
    (ha : oa < 256) (hb : ob < 256) (hab : oa ≠ ob) (h50 : 5 ≤ ks0.length) (h70 : ks0.length ≤ 7) (h51 : 5 ≤ ks1.length) (h71 : ks1.length ≤ 7) (hk0 : ∀ k ∈ ks0, k = 0 ∨ k = 1) (hk1 : ∀ k ∈ ks1, k = 0 ∨ k = 1)
    (hc0 : c0.length ≤ 80) (hc1 : c1.length ≤ 80) (h1 : kind < 2) (h2 : 1 ≤ some_) (hm4 : most ≤ 4) (hn : n + some_ = most + 1) (hn1 : 1 ≤ n)
    (hE : PassesOwn (model PySem.Challenge.pw_rt0089_01 w) (ktrTop dp un gd (Str.ofString "_law_answers") laScope L 244 (.ref 243) [] outer) (envOf (Str.ofString "_law_answers") laScope L 244 (.ref 243)) E)
    (C : Cx (hd.heap_39 w.params) p loose mean mg mb (d + 3) dp un laScope outer A₀ base h₀ L m s.heap)
    (z1 : m (Str.ofString "some") = some (.int (some_ : Nat) tk2)) (z2 : m (Str.ofString "kind") = some (.int (kind : Nat) tk1)) (z3 : m (Str.ofString "answers") = some (.ref D)) (z4 : m (Str.ofString "rows") = some (.ref rA)) (z5 : m (Str.ofString "ways") = some (.ref wA)) (z6 : m (Str.ofString "names") = some (.ref nA)) (z7 : m (Str.ofString "most") = some (.int (most : Nat) tm))
    (hnA : h₀.IsList nA #[.str (qs oa) ta, .str (qs ob) tb]) (hwA : h₀.IsList wA #[.str (wS (osOf oa ob ks0)) u0, .str (wS (osOf oa ob ks1)) u1]) (hrA : h₀.IsList rA #[.ref r0, .ref r1])
    (hr0 : h₀.IsList r0 vs0.toArray) (hi0 : IntsAre vs0 ks0) (hr1 : h₀.IsList r1 vs1.toArray) (hi1 : IntsAre vs1 ks1)
    (N : News h₀ L s.heap ((D, pairL D0 D1 nD) :: (D0, boolsL c0 n0) :: (D1, boolsL c1 n1) :: rest)) (d0 : D ≠ D0) (d1 : D ≠ D1) (d2 : D0 ≠ D1) (e0 : ∀ p ∈ rest, p.1 ≠ D0) (e1 : ∀ p ∈ rest, p.1 ≠ D1)
    (hq : ∀ h tk m' k0 k1, Fr h₀ L h m' → (m' (Str.ofString "kind") = some (.int (kind : Nat) tk1) ∧ m' (Str.ofString "answers") = some (.ref D) ∧ m' (Str.ofString "rows") = some (.ref rA) ∧ m' (Str.ofString "ways") = some (.ref wA) ∧ m' (Str.ofString "names") = some (.ref nA) ∧ m' (Str.ofString "most") = some (.int (most : Nat) tm)) →
      News h₀ L h ((D, pairL D0 D1 nD) :: (D0, boolsL (c0 ++ (rangeKs 0 n).flatMap fun x => [metB ks0 (kind : Nat) (some_ : Nat) x]) k0) :: (D1, boolsL (c1 ++ (rangeKs 0 n).flatMap fun x => [metB ks1 (kind : Nat) (some_ : Nat) x]) k1) :: rest) → Qf .next { s with heap := h, toks := tk }) :
    wpAny (model PySem.Challenge.pw_rt0089_01 w) (ktrTop dp un gd (Str.ofString "_law_answers") laScope L 244 (.ref 243) [] outer) (exec laForM (envOf (Str.ofString "_law_answers") laScope L 244 (.ref 243))) Qf E s := by
  k_with_none
  k_with "pyIter ref" => (k_extra "loop")
  k_with "call type:range" => (k_extra "range")
  have C1 := Cx.at C (fr_put (fr_put C.F z1) ((if_neg (by decide)).trans z7)) (Nat.le_refl _)
  have hE0 := hE
  have hC0 := C
  conv at C1 in (occs := *) laScope => all_goals whnf
  conv at hE in (occs := *) laScope => all_goals whnf
  conv in (occs := *) laScope => all_goals whnf
  conv in (occs := *) laForM => all_goals whnf
  have X' := C1.X; have T' := C1.T; have B' := C1.B; have F' := C1.F
  (try dsimp only at F')
  k_with "range" => (
    k_here
    (with_reducible (rename Fr _ _ _ _ => lF8)); (with_reducible (rename News _ _ _ _ => lN8))
    first | (with_unfolding_all refine range1_rows lF8 lN8 ?_) | (with_unfolding_all refine range2_rows lF8 lN8 ?_)
    intro h8 tk8 t8 u8 v8 hr8 F8 N8 _)
  k_with "loop" => (
    k_here
    with_unfolding_all refine la_loop (n := n) (fun x => [metB ks0 (kind : Nat) (some_ : Nat) x]) (fun x => [metB ks1 (kind : Nat) (some_ : Nat) x]) (fun m₁ => m₁ (Str.ofString "some") = some (.int (some_ : Nat) tk2) ∧ m₁ (Str.ofString "kind") = some (.int (kind : Nat) tk1) ∧ m₁ (Str.ofString "answers") = some (.ref D) ∧ m₁ (Str.ofString "rows") = some (.ref rA) ∧ m₁ (Str.ofString "ways") = some (.ref wA) ∧ m₁ (Str.ofString "names") = some (.ref nA) ∧ m₁ (Str.ofString "most") = some (.int (most : Nat) tm)) (by rfl) hr8 ?sm ?rs F8 N8 ?h0 e0 e1 ?turn ?done
    (case sm => exact small_one (by omega) (by omega) (by omega) (by omega))
    (case rs => rw [rangeSize_nat]; omega)
    (case h0 => exact ⟨(if_neg (by decide)).trans (if_pos rfl), (if_neg (by decide)).trans ((if_neg (by decide)).trans z2), (if_neg (by decide)).trans ((if_neg (by decide)).trans z3), (if_neg (by decide)).trans ((if_neg (by decide)).trans z4), (if_neg (by decide)).trans ((if_neg (by decide)).trans z5), (if_neg (by decide)).trans ((if_neg (by decide)).trans z6), if_pos rfl⟩)
    (case turn => (
      rintro i9 t9 m9 k0 k1 rest9 h9 tk9 K9 hi9 ⟨y1, y2, y3, y4, y5, y6, y7⟩ F9 N9 e09 e19 hK9
      have e9 : ((0 : Int) + (i9 : Int)) = ((i9 : Nat) : Int) := by omega
      rw [e9] at F9 hK9
      have F7 := fr_eq F9 fun z => (congrFun (la_chain (v := .int (i9 : Nat) t9) y1 y2 y3 y4 y5 y6) z).symm
      have hl0 := flat_len1 c0 (fun x => metB ks0 (kind : Nat) (some_ : Nat) x) i9
      have hl1 := flat_len1 c1 (fun x => metB ks1 (kind : Nat) (some_ : Nat) x) i9
      have F5 := fr_cast (K := L) (by with_unfolding_all rfl) F7
      have C5 := Cx.at hC0 F5 (Nat.le_refl _)
      with_unfolding_all refine' la_turn (s := { s with heap := h9, toks := tk9 }) (m := m9) (more := i9) (tk3 := t9) (tk2 := tk2) (tk1 := tk1) (D := D) (rA := rA) (wA := wA) (nA := nA) (rest := rest9) ha hb hab h50 h70 h51 h71 hk0 hk1 (by omega) (by omega) h1 h2 (by omega) (by omega) hE0 C5 hnA hwA hrA hr0 hi0 hr1 hi1 N9 d0 d1 d2 e09 e19 ?_
      intro h6 tk6 m6 k6 k7 F6 Z6 N6
      with_unfolding_all exact hK9 _ _ _ _ _ F6 ⟨Z6.1, Z6.2.1, Z6.2.2.1, Z6.2.2.2.1, Z6.2.2.2.2.1, Z6.2.2.2.2.2.1, Z6.2.2.2.2.2.2.trans y7⟩ N6))
    (case done => (
      rintro m9 k0 k1 h9 tk9 ⟨y1, y2, y3, y4, y5, y6, y7⟩ F9 N9
      with_unfolding_all exact hq _ _ _ _ _ F9 ⟨y2, y3, y4, y5, y6, y7⟩ N9)))
  k_steps
theorem flat_le {a : Int} {B : Nat} {c : List Bool} {f : Int → List Bool} (h : ∀ x, a ≤ x → (f x).length ≤ B) : ∀ i : Nat, (c ++ (rangeKs a i).flatMap f).length ≤ c.length + B * i
  | 0 => by simp [rangeKs]
  | i + 1 => by
    have ih := flat_le (c := c) h i
    have := h (a + (i : Int)) (by omega)
    rw [rangeKs_succ, List.flatMap_append, ← List.append_assoc, List.length_append]
    simp only [List.flatMap_cons, List.flatMap_nil, List.append_nil]
    rw [Nat.mul_succ]
    omega
theorem flat_one_len {n : Nat} {f : Int → Bool} : ((rangeKs 0 n).flatMap fun y => [f y]).length = n := by
  have := flat_len1 [] f n
  simpa using this
set_option maxHeartbeats 40000000 in
theorem la_some {oa ob : Nat} {c0 c1 : List Bool} {n0 n1 nD : Nat} {ks0 ks1 : List Int} {vs0 vs1 : List Value} {kind most : Nat} {tk1 tm ta tb u0 u1 : Tok} {nA wA rA r0 r1 D D0 D1 : Addr} {rest : List (Addr × Obj)} {Qf : Flow → Shared → Prop}
    (ha : oa < 256) (hb : ob < 256) (hab : oa ≠ ob) (h50 : 5 ≤ ks0.length) (h70 : ks0.length ≤ 7) (h51 : 5 ≤ ks1.length) (h71 : ks1.length ≤ 7) (hk0 : ∀ k ∈ ks0, k = 0 ∨ k = 1) (hk1 : ∀ k ∈ ks1, k = 0 ∨ k = 1)
    (hc0 : c0.length ≤ 60) (hc1 : c1.length ≤ 60) (h1 : kind < 2) (hm4 : most ≤ 4)
    (hE : PassesOwn (model PySem.Challenge.pw_rt0089_01 w) (ktrTop dp un gd (Str.ofString "_law_answers") laScope L 244 (.ref 243) [] outer) (envOf (Str.ofString "_law_answers") laScope L 244 (.ref 243)) E)
    (C : Cx (hd.heap_39 w.params) p loose mean mg mb (d + 3) dp un laScope outer A₀ base h₀ L m s.heap)
    (z2 : m (Str.ofString "kind") = some (.int (kind : Nat) tk1)) (z3 : m (Str.ofString "answers") = some (.ref D)) (z4 : m (Str.ofString "rows") = some (.ref rA)) (z5 : m (Str.ofString "ways") = some (.ref wA)) (z6 : m (Str.ofString "names") = some (.ref nA)) (z7 : m (Str.ofString "most") = some (.int (most : Nat) tm))
    (hnA : h₀.IsList nA #[.str (qs oa) ta, .str (qs ob) tb]) (hwA : h₀.IsList wA #[.str (wS (osOf oa ob ks0)) u0, .str (wS (osOf oa ob ks1)) u1]) (hrA : h₀.IsList rA #[.ref r0, .ref r1])
    (hr0 : h₀.IsList r0 vs0.toArray) (hi0 : IntsAre vs0 ks0) (hr1 : h₀.IsList r1 vs1.toArray) (hi1 : IntsAre vs1 ks1)
    (N : News h₀ L s.heap ((D, pairL D0 D1 nD) :: (D0, boolsL c0 n0) :: (D1, boolsL c1 n1) :: rest)) (d0 : D ≠ D0) (d1 : D ≠ D1) (d2 : D0 ≠ D1) (e0 : ∀ p ∈ rest, p.1 ≠ D0) (e1 : ∀ p ∈ rest, p.1 ≠ D1)
    (hq : ∀ h tk m' k0 k1, Fr h₀ L h m' → (m' (Str.ofString "answers") = some (.ref D) ∧ m' (Str.ofString "rows") = some (.ref rA) ∧ m' (Str.ofString "ways") = some (.ref wA) ∧ m' (Str.ofString "names") = some (.ref nA) ∧ m' (Str.ofString "most") = some (.int (most : Nat) tm)) →
      News h₀ L h ((D, pairL D0 D1 nD) :: (D0, boolsL (c0 ++ (rangeKs 1 most).flatMap fun y => (rangeKs 0 ((most : Int) + 1 - y).toNat).flatMap fun x => [metB ks0 (kind : Nat) y x]) k0) :: (D1, boolsL (c1 ++ (rangeKs 1 most).flatMap fun y => (rangeKs 0 ((most : Int) + 1 - y).toNat).flatMap fun x => [metB ks1 (kind : Nat) y x]) k1) :: rest) → Qf .next { s with heap := h, toks := tk }) :
    wpAny (model PySem.Challenge.pw_rt0089_01 w) (ktrTop dp un gd (Str.ofString "_law_answers") laScope L 244 (.ref 243) [] outer) (exec laForS (envOf (Str.ofString "_law_answers") laScope L 244 (.ref 243))) Qf E s := by
  k_with_none
  k_with "pyIter ref" => (k_extra "loop")
  k_with "call type:range" => (k_extra "range")
  have C1 := Cx.at C (fr_put C.F z7) (Nat.le_refl _)
  have hE0 := hE
  have hC0 := C
  conv at C1 in (occs := *) laScope => all_goals whnf
  conv at hE in (occs := *) laScope => all_goals whnf
  conv in (occs := *) laScope => all_goals whnf
  conv in (occs := *) laForS => all_goals whnf
  have X' := C1.X; have T' := C1.T; have B' := C1.B; have F' := C1.F
  (try dsimp only at F')
  k_with "range" => (
    k_here
    (with_reducible (rename Fr _ _ _ _ => lF8)); (with_reducible (rename News _ _ _ _ => lN8))
    first | (with_unfolding_all refine range1_rows lF8 lN8 ?_) | (with_unfolding_all refine range2_rows lF8 lN8 ?_)
    intro h8 tk8 t8 u8 v8 hr8 F8 N8 _)
  k_with "loop" => (
    k_here
    with_unfolding_all refine la_loop (n := most) (fun y => (rangeKs 0 ((most : Int) + 1 - y).toNat).flatMap fun x => [metB ks0 (kind : Nat) y x]) (fun y => (rangeKs 0 ((most : Int) + 1 - y).toNat).flatMap fun x => [metB ks1 (kind : Nat) y x]) (fun m₁ => m₁ (Str.ofString "kind") = some (.int (kind : Nat) tk1) ∧ m₁ (Str.ofString "answers") = some (.ref D) ∧ m₁ (Str.ofString "rows") = some (.ref rA) ∧ m₁ (Str.ofString "ways") = some (.ref wA) ∧ m₁ (Str.ofString "names") = some (.ref nA) ∧ m₁ (Str.ofString "most") = some (.int (most : Nat) tm)) (by rfl) hr8 ?sm ?rs F8 N8 ?h0 e0 e1 ?turn ?done
    (case sm => exact small_one (by omega) (by omega) (by omega) (by omega))
    (case rs => rw [rangeSize_nat]; omega)
    (case h0 => exact ⟨(if_neg (by decide)).trans z2, (if_neg (by decide)).trans z3, (if_neg (by decide)).trans z4, (if_neg (by decide)).trans z5, (if_neg (by decide)).trans z6, if_pos rfl⟩)
    (case turn => (
      rintro i9 t9 m9 k0 k1 rest9 h9 tk9 K9 hi9 ⟨y2, y3, y4, y5, y6, y7⟩ F9 N9 e09 e19 hK9
      have e9 : ((1 : Int) + (i9 : Int)) = ((1 + i9 : Nat) : Int) := by omega
      have e8 : ((most : Int) + 1 - ((1 + i9 : Nat) : Int)).toNat = most - i9 := by omega
      have hbb : ∀ (ks : List Int) (x : Int), 1 ≤ x → ((rangeKs 0 ((most : Int) + 1 - x).toNat).flatMap fun y => [metB ks (kind : Nat) x y]).length ≤ 4 := by
        intro ks x hx
        rw [flat_one_len]
        omega
      have hl0 := flat_le (c := c0) (hbb ks0) i9
      have hl1 := flat_le (c := c1) (hbb ks1) i9
      rw [e9, e8] at hK9
      rw [e9] at F9
      have F5 := fr_cast (K := L) (by with_unfolding_all rfl) F9
      have C5 := Cx.at hC0 F5 (Nat.le_refl _)
      with_unfolding_all refine' wpAny_execs_cons (la_more (s := { s with heap := h9, toks := tk9 }) (m := fun y => if y = Str.ofString "some" then some (.int ((1 + i9 : Nat) : Int) t9) else m9 y) (n := most - i9) (some_ := 1 + i9) (tk2 := t9) (rest := rest9) ha hb hab h50 h70 h51 h71 hk0 hk1 (by omega) (by omega) h1 (by omega) hm4 (by omega) (by omega) hE0 C5 (if_pos rfl) ((if_neg (by decide)).trans y2) ((if_neg (by decide)).trans y3) ((if_neg (by decide)).trans y4) ((if_neg (by decide)).trans y5) ((if_neg (by decide)).trans y6) ((if_neg (by decide)).trans y7) hnA hwA hrA hr0 hi0 hr1 hi1 N9 d0 d1 d2 e09 e19 ?_)
      intro h6 tk6 m6 k6 k7 F6 Z6 N6
      refine wpAny_execs_nil ?_
      with_unfolding_all exact hK9 _ _ _ _ _ F6 Z6 N6))
    (case done => (
      rintro m9 k0 k1 h9 tk9 ⟨y2, y3, y4, y5, y6, y7⟩ F9 N9
      with_unfolding_all exact hq _ _ _ _ _ F9 ⟨y3, y4, y5, y6, y7⟩ N9)))
  k_steps
end
end Mine
end

-- W14c
section
open PySem PySem.W PyProof.Rows PySem.Calls
set_option linter.unusedVariables false
set_option maxRecDepth 100000
set_option maxHeartbeats 40000000
namespace Mine
theorem fillK_W14c : (fun (_ : Params → Frag) (_ : OpenLaw) => True) hd.heap_39 PySem.Challenge.rw_rt0089_01 := by k_fill; trivial
theorem flat_map1 {f : Int → Bool} : ∀ l : List Int, (l.flatMap fun y => [f y]) = l.map f
  | [] => rfl
  | x :: l => by rw [List.flatMap_cons, flat_map1 l]; rfl
theorem ansB_flat (ks : List Int) (most : Nat) : ((rangeKs 0 2).flatMap fun k => (rangeKs 1 most).flatMap fun y => (rangeKs 0 ((most : Int) + 1 - y).toNat).flatMap fun x => [metB ks k y x]) = ansB ks (most : Int) := by
  unfold ansB
  simp only [flat_map1, Int.toNat_natCast]
section
variable {w : World} {p : Program} {loose : List Str} {mean : ExcName → Option Value} {mg mb : Str → Option Value} {d dp un : Nat} {gd : Option (List Code)} {cn : Str} {cs : Scope} {a : Addr} {ccd : Value} {cl : List (Str × Addr)} {outer : List Env} {A₀ : Around} {base h₀ : Heap} {L : Addr} {m : Str → Option Value} {s : Shared} {Q E : Value → Shared → Prop}
set_option maxHeartbeats 40000000 in
theorem la_kind {oa ob : Nat} {n0 n1 nD : Nat} {ks0 ks1 : List Int} {vs0 vs1 : List Value} {most : Nat} {tm ta tb u0 u1 : Tok} {nA wA rA r0 r1 D D0 D1 : Addr} {rest : List (Addr × Obj)} {Qf : Flow → Shared → Prop}
    (ha : oa < 256) (hb : ob < 256) (hab : oa ≠ ob) (h50 : 5 ≤ ks0.length) (h70 : ks0.length ≤ 7) (h51 : 5 ≤ ks1.length) (h71 : ks1.length ≤ 7) (hk0 : ∀ k ∈ ks0, k = 0 ∨ k = 1) (hk1 : ∀ k ∈ ks1, k = 0 ∨ k = 1)
    (hm4 : most ≤ 4)
    (hE : PassesOwn (model PySem.Challenge.pw_rt0089_01 w) (ktrTop dp un gd (Str.ofString "_law_answers") laScope L 244 (.ref 243) [] outer) (envOf (Str.ofString "_law_answers") laScope L 244 (.ref 243)) E)
    (C : Cx (hd.heap_39 w.params) p loose mean mg mb (d + 3) dp un laScope outer A₀ base h₀ L m s.heap)
    (z3 : m (Str.ofString "answers") = some (.ref D)) (z4 : m (Str.ofString "rows") = some (.ref rA)) (z5 : m (Str.ofString "ways") = some (.ref wA)) (z6 : m (Str.ofString "names") = some (.ref nA)) (z7 : m (Str.ofString "most") = some (.int (most : Nat) tm))
    (hnA : h₀.IsList nA #[.str (qs oa) ta, .str (qs ob) tb]) (hwA : h₀.IsList wA #[.str (wS (osOf oa ob ks0)) u0, .str (wS (osOf oa ob ks1)) u1]) (hrA : h₀.IsList rA #[.ref r0, .ref r1])
    (hr0 : h₀.IsList r0 vs0.toArray) (hi0 : IntsAre vs0 ks0) (hr1 : h₀.IsList r1 vs1.toArray) (hi1 : IntsAre vs1 ks1)
    (N : News h₀ L s.heap ((D, pairL D0 D1 nD) :: (D0, boolsL [] n0) :: (D1, boolsL [] n1) :: rest)) (d0 : D ≠ D0) (d1 : D ≠ D1) (d2 : D0 ≠ D1) (e0 : ∀ p ∈ rest, p.1 ≠ D0) (e1 : ∀ p ∈ rest, p.1 ≠ D1)
    (hq : ∀ h tk m' k0 k1, Fr h₀ L h m' → m' (Str.ofString "answers") = some (.ref D) →
      News h₀ L h ((D, pairL D0 D1 nD) :: (D0, boolsL (ansB ks0 (most : Int)) k0) :: (D1, boolsL (ansB ks1 (most : Int)) k1) :: rest) → Qf .next { s with heap := h, toks := tk }) :
    wpAny (model PySem.Challenge.pw_rt0089_01 w) (ktrTop dp un gd (Str.ofString "_law_answers") laScope L 244 (.ref 243) [] outer) (exec laForK (envOf (Str.ofString "_law_answers") laScope L 244 (.ref 243))) Qf E s := by
  k_with_none
  k_with "pyIter ref" => (k_extra "loop")
  k_with "call type:range" => (k_extra "range")
  have C1 := C
  have hE0 := hE
  have hC0 := C
  conv at C1 in (occs := *) laScope => all_goals whnf
  conv at hE in (occs := *) laScope => all_goals whnf
  conv in (occs := *) laScope => all_goals whnf
  conv in (occs := *) laForK => all_goals whnf
  have X' := C1.X; have T' := C1.T; have B' := C1.B; have F' := C1.F
  (try dsimp only at F')
  k_with "range" => (
    k_here
    (with_reducible (rename Fr _ _ _ _ => lF8)); (with_reducible (rename News _ _ _ _ => lN8))
    first | (with_unfolding_all refine range1_rows lF8 lN8 ?_) | (with_unfolding_all refine range2_rows lF8 lN8 ?_)
    intro h8 tk8 t8 u8 v8 hr8 F8 N8 _)
  k_with "loop" => (
    k_here
    with_unfolding_all refine la_loop (n := 2) (c0 := []) (c1 := []) (fun k => (rangeKs 1 most).flatMap fun y => (rangeKs 0 ((most : Int) + 1 - y).toNat).flatMap fun x => [metB ks0 k y x]) (fun k => (rangeKs 1 most).flatMap fun y => (rangeKs 0 ((most : Int) + 1 - y).toNat).flatMap fun x => [metB ks1 k y x]) (fun m₁ => m₁ (Str.ofString "answers") = some (.ref D) ∧ m₁ (Str.ofString "rows") = some (.ref rA) ∧ m₁ (Str.ofString "ways") = some (.ref wA) ∧ m₁ (Str.ofString "names") = some (.ref nA) ∧ m₁ (Str.ofString "most") = some (.int (most : Nat) tm)) (by rfl) hr8 ?sm ?rs F8 N8 ?h0 e0 e1 ?turn ?done
    (case sm => exact small_one (by omega) (by omega) (by omega) (by omega))
    (case rs => rw [rangeSize_nat]; omega)
    (case h0 => exact ⟨z3, z4, z5, z6, z7⟩)
    (case turn => (
      rintro i9 t9 m9 k0 k1 rest9 h9 tk9 K9 hi9 ⟨y3, y4, y5, y6, y7⟩ F9 N9 e09 e19 hK9
      have e9 : ((0 : Int) + (i9 : Int)) = (i9 : Int) := by omega
      have hb1 : ∀ (ks : List Int) (k x : Int), 1 ≤ x → ((rangeKs 0 ((most : Int) + 1 - x).toNat).flatMap fun y => [metB ks k x y]).length ≤ 4 := by
        intro ks k x hx
        rw [flat_one_len]
        omega
      have hbb : ∀ (ks : List Int) (k : Int), 0 ≤ k → ((rangeKs 1 most).flatMap fun y => (rangeKs 0 ((most : Int) + 1 - y).toNat).flatMap fun x => [metB ks k y x]).length ≤ 16 := by
        intro ks k _
        have := flat_le (c := []) (hb1 ks k) most
        simp only [List.nil_append, List.length_nil] at this
        omega
      have hl0 := flat_le (c := []) (hbb ks0) i9
      have hl1 := flat_le (c := []) (hbb ks1) i9
      simp only [List.length_nil] at hl0 hl1
      rw [e9] at hK9 F9
      have F5 := fr_cast (K := L) (by with_unfolding_all rfl) F9
      have C5 := Cx.at hC0 F5 (Nat.le_refl _)
      with_unfolding_all refine' wpAny_execs_cons (la_some (s := { s with heap := h9, toks := tk9 }) (m := fun y => if y = Str.ofString "kind" then some (.int (i9 : Nat) t9) else m9 y) (kind := i9) (tk1 := t9) (rest := rest9) ha hb hab h50 h70 h51 h71 hk0 hk1 (by omega) (by omega) hi9 hm4 hE0 C5 (if_pos rfl) ((if_neg (by decide)).trans y3) ((if_neg (by decide)).trans y4) ((if_neg (by decide)).trans y5) ((if_neg (by decide)).trans y6) ((if_neg (by decide)).trans y7) hnA hwA hrA hr0 hi0 hr1 hi1 N9 d0 d1 d2 e09 e19 ?_)
      intro h6 tk6 m6 k6 k7 F6 Z6 N6
      refine wpAny_execs_nil ?_
      with_unfolding_all exact hK9 _ _ _ _ _ F6 Z6 N6))
    (case done => (
      rintro m9 k0 k1 h9 tk9 ⟨y3, y4, y5, y6, y7⟩ F9 N9
      rw [List.nil_append, List.nil_append, ansB_flat, ansB_flat] at N9
      with_unfolding_all exact hq _ _ _ _ _ F9 y3 N9)))
  k_steps
end
end Mine
end

-- W14
section
open PySem PySem.W PyProof.Rows PySem.Calls
set_option linter.unusedVariables false
set_option maxRecDepth 100000
set_option maxHeartbeats 40000000
namespace Mine
theorem fillK_W14 : (fun (_ : Params → Frag) (_ : OpenLaw) => True) hd.heap_39 PySem.Challenge.rw_rt0089_01 := by k_fill; trivial
theorem news_swap {h₀ : Heap} {L : Addr} {h : Heap} {a b c : Addr × Obj} (N : News h₀ L h [a, b, c]) : News h₀ L h [a, c, b] := fun p hp => by
  rcases List.mem_cons.mp hp with rfl | hp
  · exact N _ (.head _)
  rcases List.mem_cons.mp hp with rfl | hp
  · exact N _ (.tail _ (.tail _ (.head _)))
  · rw [List.mem_singleton.mp hp]; exact N _ (.tail _ (.head _))
section
variable {w : World} {p : Program} {loose : List Str} {mean : ExcName → Option Value} {mg mb : Str → Option Value} {d dp un : Nat} {gd : Option (List Code)} {cn : Str} {cs : Scope} {a : Addr} {ccd : Value} {cl : List (Str × Addr)} {outer : List Env} {A₀ : Around} {base h₀ : Heap} {L : Addr} {m : Str → Option Value} {s : Shared} {Q E : Value → Shared → Prop}
set_option maxHeartbeats 40000000 in
theorem c_answers {oa ob : Nat} {ks0 ks1 : List Int} {vs0 vs1 : List Value} {ta tb u0 u1 : Tok} {nA wA rA r0 r1 : Addr}
    (ha : oa < 256) (hb : ob < 256) (hab : oa ≠ ob) (h50 : 5 ≤ ks0.length) (h70 : ks0.length ≤ 7) (h51 : 5 ≤ ks1.length) (h71 : ks1.length ≤ 7) (hk0 : ∀ k ∈ ks0, k = 0 ∨ k = 1) (hk1 : ∀ k ∈ ks1, k = 0 ∨ k = 1)
    (C : Cx (hd.heap_39 w.params) p loose mean mg mb (4) dp un cs outer A₀ base h₀ L m s.heap) (hnA : s.heap.IsList nA #[.str (qs oa) ta, .str (qs ob) tb]) (hwA : s.heap.IsList wA #[.str (wS (osOf oa ob ks0)) u0, .str (wS (osOf oa ob ks1)) u1]) (hrA : s.heap.IsList rA #[.ref r0, .ref r1])
    (hr0 : s.heap.IsList r0 vs0.toArray) (hi0 : IntsAre vs0 ks0) (hr1 : s.heap.IsList r1 vs1.toArray) (hi1 : IntsAre vs1 ks1)
    (hret : ∀ D D0 D1 nD k0 k1 h' tk', s.heap.StaysIn h' → h'.get? D = some (pairL D0 D1 nD) → h'.get? D0 = some (boolsL (ansB ks0 ((ks0.length / 2 + 1 : Nat) : Int)) k0) → h'.get? D1 = some (boolsL (ansB ks1 ((ks0.length / 2 + 1 : Nat) : Int)) k1) → s.heap.get? D = none → s.heap.get? D0 = none → s.heap.get? D1 = none → D0 ≠ D1 → Q (.ref D) { s with heap := h', toks := tk' }) :
    wpAny (model PySem.Challenge.pw_rt0089_01 w) (ktrTop dp un gd cn cs L a ccd cl outer) (call (.ref 244) [.ref nA, .ref wA, .ref rA]) Q E s := by
  k_with_none
  k_with "subscriptTail Name Constant ref int" => (k_extra "item")
  k_with "call builtin:len" => (k_extra "len")
  k_with "exec For Name Call cons nil" => (k_extra "for")
  refine' enter (binds := [(Str.ofString "names", .ref nA), (Str.ofString "ways", .ref wA), (Str.ofString "rows", .ref rA)]) C ?k6 ?k7 ?k9 ?kB ?_ ?c5 ?c2 ?c3 ?c4
  (case k6 => k_is); (case k7 => k_is); (case k9 => exact BindsTo.of_eq rfl); (case c5 => decide); (case kB => exact locs rfl); (case c2 => exact rfl); (case c3 => exact rfl); (case c4 => exact rfl)
  intro g L' h₁ tk hg hg' F' N' C'
  have X' := C'.X; have T' := C'.T; have B' := C'.B
  (try dsimp only at F'); (try k_fold)
  have hnA' := stays_list hg hnA
  have hwA' := stays_list hg hwA
  have hrA' := stays_list hg hrA
  have hr0' := stays_list hg hr0
  have hr1' := stays_list hg hr1
  have hl0 := hi0.length
  k_with "item" => (
    k_here
    (with_reducible show wpAny _ _ (subscriptTail _ _ (Value.ref _) (Value.int _ _)) _ _ _)
    refine item_any 0 (vs := [.ref r0, .ref r1]) (Heap.IsList.at hrA' (by intro o e; exact Fr.keep (by k_asm) _ o e)) (by decide) (by with_unfolding_all rfl) (by decide) ?_)
  k_with "len" => (
    k_here
    (with_reducible show wpAny _ _ (call (Value.builtin "len") [Value.ref _]) _ _ _)
    refine len_any (Heap.IsList.at hr0' (by intro o e; exact Fr.keep (by k_asm) _ o e)) (by omega) ?_)
  have hz8 : (Int.fdiv (vs0.length : Int) 2 + 1) = ((ks0.length / 2 + 1 : Nat) : Int) := by
    rw [hl0, Int.fdiv_eq_ediv_of_nonneg _ (by decide)]; omega
  k_with "for" => first | (
    k_here
    (with_reducible (rename Fr _ _ _ _ => lF8)); (with_reducible (rename News _ _ _ _ => lN8))
    rw [hz8] at lF8
    have N7 := news_swap lN8
    with_unfolding_all refine' la_kind (d := 0) (rest := []) (most := ks0.length / 2 + 1) ha hb hab h50 h70 h51 h71 hk0 hk1 (by omega) ?hE (Cx.at C' lF8 (by omega)) (if_pos rfl) (if_neg (by decide)) (if_neg (by decide)) (if_neg (by decide)) (if_neg (by decide)) hnA' hwA' hrA' hr0' hi0 hr1' hi1 N7 ?d0 ?d1 ?d2 (fun p hp => nomatch hp) (fun p hp => nomatch hp) ?rest
    (case hE => first | passes_own | with_unfolding_all passes_own)
    (case d0 => (refine neN ?_; omega))
    (case d1 => (refine neN ?_; omega))
    (case d2 => (refine neN ?_; omega))
    (case' rest => (
      intro h6 tk6 m6 k6 k7 F6 Z6 N6
      have F7 := fr_put F6 Z6
      clear F6
      (try dsimp only)))) | fail "for"
  k_steps
  refine hret _ _ _ _ _ _ _ _ (fun b o e => F7.keep b o (hg b o e)) (N6 _ (.head _)).1 (N6 _ (.tail _ (.head _))).1 (N6 _ (.tail _ (.tail _ (.head _)))).1 (fresh_of hg (N6 _ (.head _)).2.2) (fresh_of hg (N6 _ (.tail _ (.head _))).2.2) (fresh_of hg (N6 _ (.tail _ (.tail _ (.head _)))).2.2) ?_
  refine neN ?_
  omega
end
end Mine
end

-- W11
section
open PySem PySem.W PyProof.Rows PySem.Calls
set_option linter.unusedVariables false
set_option maxRecDepth 100000
set_option maxHeartbeats 40000000
namespace Mine
theorem fillK_W11 : (fun (_ : Params → Frag) (_ : OpenLaw) => True) hd.heap_39 PySem.Challenge.rw_rt0089_01 := by k_fill; trivial
theorem units_in1 {dp un d : Nat} {gd : Option (List Code)} {cn : Str} {cs : Scope} {L a : Addr} {ccd : Value} {cl : List (Str × Addr)} {outer : List Env} (h : un + 8 * (d + 1) < cLine) : (ktrTop dp un gd cn cs L a ccd cl outer).in1.units < cLine := by
  simp only [Around.in1_units]
  show un + _ < _
  omega
theorem two_ok (a b : Value) : (#[a, b] : Array Value).size ≤ sizeLine := by
  rw [sizeLine_eq]
  exact Nat.le_of_ble_eq_true rfl
theorem Cx.more {K : Frag} {p : Program} {loose : List Str} {mean : ExcName → Option Value} {mg mb : Str → Option Value} {d dp un un' : Nat} {cs : Scope} {outer : List Env} {A₀ : Around} {base h₀ h' : Heap} {L : Addr} {m m' : Str → Option Value} {h : Heap} (C : Cx K p loose mean mg mb (d + 1) dp un cs outer A₀ base h₀ L m h) (F : Fr h₀ L h' m') (hu : un' ≤ un + 8) : Cx K p loose mean mg mb d dp un' cs outer A₀ base h₀ L m' h' :=
  ⟨C.B, F, C.X, C.T, C.kind, by have := C.room; omega, by have := C.units; omega⟩
local macro_rules | `(tactic| lcg_src) => `(tactic| ((with_reducible show (_, _) ∈ _); k_mem))
local macro_rules | `(tactic| k_ne) => `(tactic| (refine neN ?_; (try dsimp only); first | assumption | exact Ne.symm (by assumption)))
theorem two_cases {a b v : Value} : ∀ {i : Nat}, [a, b][i]? = some v → v = a ∨ v = b
  | 0, h => .inl (Option.some.inj h).symm
  | 1, h => .inr (Option.some.inj h).symm
  | _ + 2, h => by cases h
section
variable {w : World} {p : Program} {loose : List Str} {mean : ExcName → Option Value} {mg mb : Str → Option Value} {d dp un : Nat} {gd : Option (List Code)} {cn : Str} {cs : Scope} {a : Addr} {ccd : Value} {cl : List (Str × Addr)} {outer : List Env} {A₀ : Around} {base h₀ : Heap} {L : Addr} {m : Str → Option Value} {s : Shared} {Q E : Value → Shared → Prop}
set_option maxHeartbeats 40000000 in
theorem c_cpath {xs ys : List Nat} {tx ty : Tok} {pA : Addr} (hx : xs ≠ []) (hn : xs.length = ys.length) (hl : xs.length ≤ 9) (hxo : ∀ o ∈ xs, o < 256) (hyo : ∀ o ∈ ys, o < 256) (C : Cx (hd.heap_39 w.params) p loose mean mg mb (3) dp un cs outer A₀ base h₀ L m s.heap) (hp : s.heap.IsList pA #[.str (wS xs) tx, .str (wS ys) ty]) (hret : ∀ t, Gives s Q (.str (cpS xs ys) t)) : wpAny (model PySem.Challenge.pw_rt0089_01 w) (ktrTop dp un gd cn cs L a ccd cl outer) (call (.ref 218) [.ref pA]) Q E s := by
  k_with_none
  k_with "exec Try" => ((k_here; refine wpAny_Try_except ?_))
  k_with "call type:map" => (k_extra "map")
  k_with "call type:tuple" => (k_extra "tup")
  k_with "call builtin:str.split" => (k_extra "split")
  k_with "exec Assign cons ListComp" => (k_extra "lcomp")
  k_with "eval SetComp" => (k_extra "scomp")
  k_with "CompSrcV" => (k_extra "csrc")
  k_with "SetSrc" => (k_extra "ssrc")
  k_with "ElTrue" => ((exact ElTrue.intro (by k_asm) (by k_asm)))
  k_with "assign Tuple" => (k_extra "unp")
  k_with "CompSrcT" => (k_extra "csrcT")
  k_with "truthy str" => ((k_here; first | refine truthy_nm ?_ | refine truthy_nil ?_))
  k_with "compareOp NotEq str str" => ((k_here; refine ne_other (nm_dot _) ?_))
  k_with "TestB" => ((exact TestB.intro (by rfl) (by k_asm) (by k_asm)))
  k_with "call builtin:min" => (k_extra "min")
  k_with "call builtin:str.join" => (k_dflt (k_extra "join"))
  k_with "exec For Tuple Call cons nil" => (k_dflt (k_extra "for"))
  k_with "call builtin:max" => (k_extra "max")
  k_with "call builtin:str.startswith" => ((k_here; refine startswith_wayK (by with_reducible assumption) ?_))
  refine' enterC (binds := [(Str.ofString "paths", .ref pA)]) (mL := (fun z => if z = Str.ofString "paths" then some (.ref pA) else none)) (mC := (fun z => none)) C ?k6 ?k7 ?k9 ?kB ?kL ?kM ?kD ?_ ?c2 ?c3 ?c4
  (case k6 => k_is); (case k7 => k_is); (case k9 => exact BindsTo.of_eq rfl); (case kB => exact rfl); (case kL => exact rfl); (case kM => exact rfl); (case kD => decide +kernel); (case c2 => exact rfl); (case c3 => exact rfl); (case c4 => exact rfl)
  intro g L' h₁ tk cells' hg hg' F' N' Y' C'
  have X' := C'.X; have T' := C'.T; have B' := C'.B
  k_cells Y'; (try simp only [List.cons_append, List.nil_append] at N')
  (try dsimp only at F'); (try k_fold)
  have hp' := stays_list hg hp
  k_with "map" => (
    k_here
    (with_reducible show wpAny _ _ (call (Value.type "map") [_, _]) _ _ _)
    refine call_map_K (by k_asm) (by k_asm) (Heap.IsList.at (by assumption) (by intro o e; exact Fr.keep (by k_asm) _ o e)) ?_
    intro M T I h' F' N' l1; (have kl0 := l1); (try k_lt l1); (try k_sweep))
  k_with "tup" => (
    k_here
    (with_reducible show wpAny _ _ (call (Value.type "tuple") [_]) _ _ _)
    (rename Fr _ _ _ _ => eF); (rename News _ _ _ _ => eN)
    refine tuple_map_K eF eN (by rfl) (fun p hp => Nat.ne_of_lt (kl0 p hp)) hp' ?hf ?_ (two_ok _ _)
    (case hf => (
      intro s' x Q' E' hx' F' hq
      rcases List.mem_cons.mp (show x ∈ [Value.str (wS xs) tx, Value.str (wS ys) ty] from by simpa using hx') with rfl | hx'
      · exact c_fspath (Cx.more (un' := un + 3 + 4) C' F' (by omega)) hq
      · obtain rfl := List.mem_singleton.mp hx'
        exact c_fspath (Cx.more (un' := un + 3 + 4) C' F' (by omega)) hq))
    intro D' h' tk' F' N' l1; (have kl1 := l1); (try k_lt l1); (try k_sweep))
  k_with "lcomp" => (
    k_here
    (with_reducible show wpAny _ _ (exec (Stmt.Assign _ (Expr.ListComp _ [⟨_, Expr.Name (Str.ofString "paths") _, _, _⟩] _ _) _) _) _ _ _)
    k_dflt (refine Assign_ListComp_V (F₀ := by k_asm) (by rfl) (by with_unfolding_all rfl) (by with_unfolding_all rfl) (by decide) (by rfl) (by decide) (by rfl) (by rfl) (by rfl) ?_))
  k_with "csrc" => (
    k_here
    k_dflt (refine CompSrcV.intro (by rfl) (by k_asm) (by k_asm) (by k_mem) (by first | size_fits | exact Nat.le_of_ble_eq_true rfl) ?_); (intro g'); lcg_lit)
  k_with "split" => (
    k_here
    (with_reducible show wpAny _ _ (call (Value.builtin "str.split") _) _ _ _)
    (first | refine split_wayK hxo (by omega) (by k_asm) (by k_asm) ?_ | refine split_wayK hyo (by omega) (by k_asm) (by k_asm) ?_)
    intro D' vs9 t9 h' k' hn9 F' N' l1; (have hl9 := hn9.len); (try k_lt l1); (try k_sweep))
  k_with "scomp" => (
    k_here
    k_dflt (refine eval_SetComp_V (F₀ := by k_asm) (by with_unfolding_all rfl) (by decide) (by rfl) (by decide) (by rfl) ?_))
  k_with "unp" => (
    k_here
    (with_reducible show wpAny _ _ (assign (Expr.Tuple [Expr.Name _ _] _ _) _ (Value.ref _)) _ _ _)
    k_dflt (refine assign_setK (by rfl) (by k_asm) (by k_asm) (by k_mem) ?_); (intro h' F' N'); (try k_sweep))
  have hy : ys ≠ [] := by intro e; rw [e] at hn; exact hx (List.eq_nil_of_length_eq_zero hn)
  k_with "ssrc" => (
    k_here
    (k_dflt (refine' SetSrc.intro (by rfl) (by k_asm) (by k_asm) (by k_mem) (Nat.le_of_ble_eq_true rfl) ?R ?fin))
    (case' R => (
      intro g' i9 v9 I' oI' C' oC' D' oD' m' h' tk' E' hv' hC' hx' F' N' off' ne'; (try simp only [LCg.Off3, and_true] at off')
      rcases two_cases hv' with rfl | rfl))
    (case' fin => (intro D' h' tk' F' N' o1'; (try simp only [LCg.Off1, and_true] at o1'); (try dsimp only))))
  k_with "csrcT" => (
    k_here
    (rename ((_ ≠ _) ∧ _ ∧ _) ∧ _ => of8)
    (repeat (obtain ⟨⟨_, _, _⟩, of8⟩ := of8))
    (try obtain ⟨_, _, _⟩ := of8)
    (k_dflt (refine CompSrcT_names (by rfl) (by k_asm) (by k_asm) (by k_mem) (by assumption) (by omega) (by intro C; rfl) (by intro C; rfl) (by decide) ?_ ?_ ?_))
    (case' refine_1 => (intro g' I' oI' C' oC' D' oD' m' h' tk' E' hC' hx' F' N' off' ne'; (try simp only [LCg.Off3, and_true] at off')))
    (case' refine_2 => (intro g' o9 t9 I' oI' C' oC' D' oD' m' h' tk' E' ho9 hC' hx' F' N' off' ne'; (try simp only [LCg.Off3, and_true] at off')))
    (case' refine_3 => (intro g' ws9 hw9; (try unfold LCg.FinE); intro D9 h9 tk9 F9 N9 o9; (try simp only [LCg.Off1, and_true] at o9); (repeat (obtain ⟨_, o9⟩ := o9)); (try dsimp only))))
  k_with "min" => (
    k_here
    (with_reducible show wpAny _ _ (call (Value.builtin "min") [Value.ref _]) _ _ _)
    (rename NmsAre _ xs => nA)
    (rename NmsAre _ ys => nB)
    (k_dflt (refine min_KL (by rfl) (by k_asm) (by k_asm) (by k_mem) (by k_mem) (by k_mem) nA nB hn ?_ ?_))
    (case refine_1 => (exact units_in1 C'.units))
    (case' refine_2 => (intro c9 vc9 h' tk' nmin F' N'; (generalize hX9 : (if lexB (eN ys xs) (ltN ys xs) ys.length 0 = true then ys else xs) = X9 at nmin); (try k_sweep); (try dsimp only))))
  k_with "max" => (
    k_here
    (with_reducible show wpAny _ _ (call (Value.builtin "max") [Value.ref _]) _ _ _)
    (rename NmsAre _ xs => nA)
    (rename NmsAre _ ys => nB)
    (k_dflt (refine max_KL (by rfl) (by k_asm) (by k_asm) (by k_mem) (by k_mem) (by k_mem) nA nB hn ?_ ?_))
    (case refine_1 => (exact units_in1 C'.units))
    (case' refine_2 => (
      intro c8 vc8 h' tk' nmax F' N'
      generalize hY9 : (if lexB (eN ys xs) (gtN ys xs) ys.length 0 = true then ys else xs) = Y9 at nmax
      have hL9 : lcp X9 Y9 = lcp xs ys := by rw [← hX9, ← hY9]; exact mm_lcp hn hxo hyo
      have hXn : X9.length = xs.length := by rw [← hX9]; split <;> omega
      have hYn : Y9.length = xs.length := by rw [← hY9]; split <;> omega
      have hXo : ∀ o ∈ X9, o < 256 := by rw [← hX9]; split <;> assumption
      have hYo : ∀ o ∈ Y9, o < 256 := by rw [← hY9]; split <;> assumption
      clear hX9 hY9
      (try k_sweep); (try dsimp only))))
  k_with "for" => (
    k_here
    (with_reducible (rename Fr _ _ _ _ => lF8)); (with_reducible (rename News _ _ _ _ => lN8))
    refine for_lcp ?hE (Cx.at C' lF8 (Nat.le_refl _)) lN8 ?m9 ?m8 nmin nmax (by omega) (by omega) hXo hYo ?rest
    (case hE => passes_own)
    (case m9 => k_mem)
    (case m8 => k_mem)
    (case' rest => (
      intro D9 vs9 n9 ui9 uc9 h9 tk9 hm9 F9 N9
      rw [hL9] at hm9
      (try dsimp only))))
  have hz8 : (lcp xs ys).length ≤ 9 := Nat.le_trans (lcp_len xs ys) hl
  have hz7 := jn_names_len (lcp xs ys)
  have hz6 : (tS (jn [47] ((lcp xs ys).map nm))).length ≤ 100 := by rw [tS_len]; omega
  k_with "join" => (
    k_here
    (with_reducible show wpAny _ _ (call (Value.builtin "str.join") _) _ _ _)
    refine join_names (by k_asm) (by k_mem) hm9 hz8 ?_
    intro t' tk')
  k_steps
  rw [cp_ret]
  (try dsimp only); (try k_unfold); (try dsimp only); (rename Fr _ _ _ _ => kF9); exact hret _ _ _ (fun b o e => kF9.keep b o (hg b o e))
end
end Mine
end

-- W15f
section
open PySem PySem.W PyProof.Rows PySem.Calls
set_option linter.unusedVariables false
set_option maxRecDepth 100000
set_option maxHeartbeats 40000000
namespace Mine
theorem fillK_W15f : (fun (_ : Params → Frag) (_ : OpenLaw) => True) hd.heap_39 PySem.Challenge.rw_rt0089_01 := by k_fill; trivial
open PyProof.V PySem.Spec
theorem bools_canLay : ∀ ns : List Bool, PyData.canLayAll0 (ns.map PyData.bool) = true
  | [] => rfl
  | _ :: r => by simp [PyData.canLayAll0, PyData.canLay0, bools_canLay r]
theorem bools_depth : ∀ ns : List Bool, PyData.depthAll (ns.map PyData.bool) = 0
  | [] => rfl
  | _ :: r => by simp [PyData.depthAll, PyData.depth, bools_depth r]
theorem bools_shaped (ns : List Bool) : SeqAt.shaped (.list (ns.map PyData.bool)) = true := by
  simp [SeqAt.shaped, PyData.canLay0, PyData.depth, bools_canLay, bools_depth]
theorem bools_eqv : ∀ ns ms : List Bool, PyData.eqvAll (ns.map PyData.bool) (ms.map PyData.bool) = decide (ns = ms)
  | [], [] => by simp [PyData.eqvAll]
  | [], _ :: _ => by simp [PyData.eqvAll]
  | _ :: _, [] => by simp [PyData.eqvAll]
  | a :: r, b :: t => by
    simp only [List.map_cons, PyData.eqvAll, PyData.eqv, bools_eqv r t]
    by_cases h : a = b <;> by_cases h' : r = t <;> simp [h, h']
theorem bools_carried : ∀ ns : List Bool, CarriedAll (ns.map Value.bool) (ns.map PyData.bool)
  | [] => .nil
  | b :: r => .cons (.bool b) (bools_carried r)
section
variable {prog : Program} {w : World} {A : Around} {E : Value → Shared → Prop} {s : Shared} {t u : Tok} {a b : Addr} {Q : Value → Shared → Prop}
theorem eq_boolsL {xs ys : List Bool} (ha : s.heap.IsList a (xs.map Value.bool).toArray) (hb : s.heap.IsList b (ys.map Value.bool).toArray) (hu : A.units + 64 < cLine) (h : Q (.bool (decide (xs = ys))) s) :
    wpAny (model prog w) A (compareOp .Eq (.ref a) (.ref b)) Q E s := by
  refine eq_dataH (reads_newData ha (bools_carried xs)) (reads_newData hb (bools_carried ys)) (bools_shaped _) (bools_shaped _) hu ?_
  have e : PyData.eqv (.list (xs.map PyData.bool)) (.list (ys.map PyData.bool)) = decide (xs = ys) := by rw [PyData.eqv]; exact bools_eqv xs ys
  rw [e]; exact h
theorem eq_str_dec {x y : Str} (h : Q (.bool (decide (x = y))) s) : wpAny (model prog w) A (compareOp .Eq (.str x t) (.str y u)) Q E s :=
  P.eq_str (by
    have q : (x.cps.toList == y.cps.toList) = decide (x = y) := by
      by_cases e : x = y
      · subst e; simp
      · rw [decide_eq_false e]
        exact beq_eq_false_iff_ne.mpr fun q => e (Str.ext' (Array.toList_inj.mp q))
    rw [q]; exact h)
theorem eq_bool_true {x y : Bool} (e : x = y) (h : Q (.bool true) s) : wpAny (model prog w) A (compareOp .Eq (.bool x) (.bool y)) Q E s := by
  subst e
  exact eq_bool (by simpa using h)
end
end Mine
end

-- W15g
section
open PySem PySem.W PyProof.Rows PySem.Calls
set_option linter.unusedVariables false
set_option maxRecDepth 100000
set_option maxHeartbeats 40000000
namespace Mine
theorem fillK_W15g : (fun (_ : Params → Frag) (_ : OpenLaw) => True) hd.heap_39 PySem.Challenge.rw_rt0089_01 := by k_fill; trivial
section
variable {w : World} {p : Program} {loose : List Str} {mean : ExcName → Option Value} {mg mb : Str → Option Value} {d dp un : Nat} {gd : Option (List Code)} {cn : Str} {cs : Scope} {a : Addr} {ccd : Value} {cl : List (Str × Addr)} {outer : List Env} {A₀ : Around} {base h₀ : Heap} {L : Addr} {m : Str → Option Value} {s : Shared} {Q E : Value → Shared → Prop}
set_option maxHeartbeats 40000000 in
theorem law_f {oa ob n0 n1 n2 n3 k0 : Nat} {ta tb t0 t1 : Tok} {ks0 ks1 : List Int} {vs0 vs1 : List Value} {St O Nm Rw Wy r0 r1 fa : Addr} {cdv : Value} {oN oC oS oO : Obj} {Qf : Flow → Shared → Prop}
    (ha : oa < 256) (hb : ob < 256) (hab : oa ≠ ob) (h50 : 5 ≤ ks0.length) (h70 : ks0.length ≤ 7) (h51 : 5 ≤ ks1.length) (h71 : ks1.length ≤ 7) (hk0 : ∀ k ∈ ks0, k = 0 ∨ k = 1) (hk1 : ∀ k ∈ ks1, k = 0 ∨ k = 1) (hn : ks1.length = ks0.length)
    (hu : un + 64 < cLine)
    (hE : PassesOwn (model PySem.Challenge.pw_rt0089_01 w) (ktrTop dp un gd (Str.ofString "law") lwScope L fa cdv (cellsFrom (L + 1) lwScope.names []) outer) (envOfC (Str.ofString "law") lwScope L fa cdv) E)
    (C : Cx (hd.heap_39 w.params) p loose mean mg mb (d + 6) dp un lwScope outer A₀ base h₀ L (fun y => if y = Str.ofString "ways" then some (.ref Wy) else if y = Str.ofString "rows" then some (.ref Rw) else m y) s.heap)
    (hi0 : IntsAre vs0 ks0) (hi1 : IntsAre vs1 ks1)
    (N : News h₀ L s.heap [(Wy, { cls := .type "list", data := .seq #[.str (wS (osOf oa ob ks0)) t0, .str (wS (osOf oa ob ks1)) t1] k0 }), (Rw, { cls := .type "list", data := .seq #[.ref r0, .ref r1] n0 }), (r1, { cls := .type "list", data := .seq vs1.toArray n2 }), (r0, { cls := .type "list", data := .seq vs0.toArray n1 }), (Nm, { cls := .type "list", data := .seq #[.str (qs oa) ta, .str (qs ob) tb] n3 }), (O, oO), (St, oS), (L + 1 + 1, oN), (L + 1, oC)])
    (dN : oN.data = Data.cell (some (.ref Nm)))
    (hq : ∀ h tk m', Fr h₀ L h m' → Qf (.ret (.bool true)) { s with heap := h, toks := tk }) :
    wpAny (model PySem.Challenge.pw_rt0089_01 w) (ktrTop dp un gd (Str.ofString "law") lwScope L fa cdv (cellsFrom (L + 1) lwScope.names []) outer) (execs [lwS 8, lwS 9, lwS 10] (envOfC (Str.ofString "law") lwScope L fa cdv)) Qf E s := by
  k_with_none
  k_with "call ref" => (k_extra "call")
  k_with "subscriptTail Name Constant ref int" => (k_extra "item")
  k_with "compareOp Eq str str" => ((k_here; refine eq_str_dec ?_))
  k_with "compareOp Eq ref ref" => (k_extra "eqr")
  k_with "compareOp Eq bool bool" => (k_extra "eqb")
  conv at C in (occs := *) lwScope => all_goals whnf
  conv at hE in (occs := *) lwScope => all_goals whnf
  conv in (occs := *) lwScope => all_goals whnf
  conv in (occs := *) lwS _ => all_goals whnf
  have X' := C.X; have T' := C.T; have B' := C.B; have F' := C.F
  have z0 : (osOf oa ob ks0).length = ks0.length := by simp [osOf]
  have z1 : (osOf oa ob ks1).length = ks1.length := by simp [osOf]
  have y0 : osOf oa ob ks0 ≠ [] := by intro q; rw [q] at z0; simp at z0; omega
  have v0 := os_small ha hb ks0
  have v1 := os_small ha hb ks1
  have hlw := law_plain hab h50 h70 hn hk0 hk1
  k_with "call" => (first
  | (
    k_here
    (with_reducible show wpAny _ _ (call (Value.ref 244) _) _ _ _)
    (with_reducible (rename Fr _ _ _ _ => cF)); (with_reducible (rename News _ _ _ _ => cN))
    k_dflt (refine c_answers (ks0 := ks0) (ks1 := ks1) (oa := oa) (ob := ob) ha hb hab h50 h70 h51 h71 hk0 hk1 (Cx.at C cF (by omega)) (News.isList cN (by k_mem)) (News.isList cN (by k_mem)) (News.isList cN (by k_mem)) (News.isList cN (by k_mem)) hi0 (News.isList cN (by k_mem)) hi1 ?_)
    intro D D0 D1 nD j0 j1 h2 tk2 st2 g0 g1 g2 f0 f1 f2 d12
    (have F2 := fr_stays cF st2)
    (have N2 := news_stays cN st2)
    (have N3 := news_of_fresh cF F2 N2 g2 f2)
    (have N4 := news_of_fresh cF F2 N3 g1 f1)
    (have N5 := news_of_fresh cF F2 N4 g0 f0)
    (clear N2 N3 N4 st2 g0 g1 g2 f0 f1 f2); (try k_sweep); (try dsimp only))
  | (
    k_here
    (with_reducible show wpAny _ _ (call (Value.ref 218) _) _ _ _)
    (with_reducible (rename Fr _ _ _ _ => cF)); (with_reducible (rename News _ _ _ _ => cN))
    k_dflt (refine c_cpath (xs := osOf oa ob ks0) (ys := osOf oa ob ks1) y0 (by omega) (by omega) v0 v1 (Cx.at C cF (by omega)) (News.isList cN (by k_mem)) ?_)
    intro t2 h2 tk2 st2
    (have F2 := fr_stays cF st2); (have N2 := news_stays cN st2); (clear st2); (try k_sweep); (try dsimp only)))
  k_with "item" => (
    k_here
    (with_reducible show wpAny _ _ (subscriptTail _ _ (Value.ref _) (Value.int _ _)) _ _ _)
    (with_reducible (rename News _ _ _ _ => cN))
    k_dflt (first
    | (refine item_any 0 (vs := [.str (wS (osOf oa ob ks0)) t0, .str (wS (osOf oa ob ks1)) t1]) (News.isList cN (by k_mem)) (by rfl) (by rfl) (by decide) ?_)
    | (refine item_any 0 (l := D) (vs := [.ref D0, .ref D1]) (News.isList cN (by k_mem)) (by rfl) (by rfl) (by decide) ?_)
    | (refine item_any 1 (l := D) (vs := [.ref D0, .ref D1]) (News.isList cN (by k_mem)) (by rfl) (by rfl) (by decide) ?_)))
  k_with "eqr" => (
    k_here
    (with_reducible show wpAny _ _ (compareOp _ (Value.ref _) (Value.ref _)) _ _ _)
    (with_reducible (rename News _ _ _ _ => cN))
    k_dflt (refine eq_boolsL (xs := ansB ks0 ((ks0.length / 2 + 1 : Nat) : Int)) (ys := ansB ks1 ((ks0.length / 2 + 1 : Nat) : Int)) (News.isList cN (by k_mem)) (News.isList cN (by k_mem)) (by exact hu) ?_))
  k_with "eqb" => (
    k_here
    k_dflt (refine eq_bool_true (by exact decide_eq_decide.mpr hlw) ?_))
  k_steps
  (with_reducible (rename Fr _ _ _ _ => eF))
  exact hq _ _ _ eF
end
end Mine
end

-- W16
section
open PySem PySem.W PyProof.Rows PySem.Calls
set_option linter.unusedVariables false
set_option maxRecDepth 100000
set_option maxHeartbeats 40000000
namespace Mine
theorem execs_app {prog : Program} {w : World} {A : Around} {env : Env} {E : Value → Shared → Prop} (l2 : List Stmt) : ∀ (l1 : List Stmt) {s : Shared} {Q : Flow → Shared → Prop},
    wpAny (model prog w) A (execs l1 env) (fun f s' => match f with | .next => wpAny (model prog w) A (execs l2 env) Q E s' | f => Q f s') E s → wpAny (model prog w) A (execs (l1 ++ l2) env) Q E s := by
  have key : ∀ l1 : List Stmt, execs (l1 ++ l2) env = execs l1 env >>= fun f => match f with | .next => execs l2 env | f => pure f := by
    intro l1
    induction l1 with
    | nil => rfl
    | cons x r ih =>
      rw [List.cons_append, execs_cons, execs_cons, bind_assoc]
      congr 1
      funext f
      cases f <;> first | exact ih | rfl
  intro l1 s Q h
  rw [key]
  refine wpAny_bind (wpAny_mono h (fun f s' q => ?_) fun _ _ e => e)
  cases f <;> first | exact q | exact wpAny_pure q
theorem rowE_len (ns : List Int) : (rowE ns).length = (stp ns).length := List.length_map _
theorem rowF_len (ns : List Int) : (rowF ns).length = (stp ns).length := List.length_map _
theorem rowE_01 (ns : List Int) : ∀ k ∈ rowE ns, k = 0 ∨ k = 1 := by
  intro k hk
  obtain ⟨x, _, rfl⟩ := List.mem_map.mp hk
  omega
theorem rowF_01 (ns : List Int) : ∀ k ∈ rowF ns, k = 0 ∨ k = 1 := by
  intro k hk
  obtain ⟨x, _, rfl⟩ := List.mem_map.mp hk
  unfold kindB
  omega
section
variable {w : World} {p : Program} {loose : List Str} {mean : ExcName → Option Value} {mg mb : Str → Option Value} {d dp un : Nat} {gd : Option (List Code)} {cn : Str} {cs : Scope} {a : Addr} {ccd : Value} {cl : List (Str × Addr)} {outer : List Env} {A₀ : Around} {base h₀ : Heap} {L : Addr} {m : Str → Option Value} {s : Shared} {Q E : Value → Shared → Prop}
theorem law_all {ns : List Int} {vs : List Value} {S fa : Addr} {cdv : Value} {oN oO : Obj} {Qf : Flow → Shared → Prop} (hns : ns.length ≤ 63) (hS : h₀.IsList S vs.toArray) (hi : IntsAre vs ns) (hu : un + 64 < cLine)
    (hE : PassesOwn (model PySem.Challenge.pw_rt0089_01 w) (ktrTop dp un gd (Str.ofString "law") lwScope L fa cdv (cellsFrom (L + 1) lwScope.names []) outer) (envOfC (Str.ofString "law") lwScope L fa cdv) E)
    (C : Cx (hd.heap_39 w.params) p loose mean mg mb (d + 6) dp un lwScope outer A₀ base h₀ L (fun y => if y = Str.ofString "script" then some (.ref S) else none) s.heap)
    (N : News h₀ L s.heap [(L + 1 + 1, oN), (L + 1, oO)]) (dN : oN.data = Data.cell none) (dO : oO.data = Data.cell none)
    (hq : ∀ h tk m', Fr h₀ L h m' → Qf (.ret (.bool true)) { s with heap := h, toks := tk }) :
    wpAny (model PySem.Challenge.pw_rt0089_01 w) (ktrTop dp un gd (Str.ofString "law") lwScope L fa cdv (cellsFrom (L + 1) lwScope.names []) outer) (execs [lwS 0, lwS 1, lwS 2, lwS 3, lwS 4, lwS 5, lwS 6, lwS 7, lwS 8, lwS 9, lwS 10] (envOfC (Str.ofString "law") lwScope L fa cdv)) Qf E s := by
  have e5 := stp_len ns
  have eE := rowE_len ns
  have eF := rowF_len ns
  refine execs_app [lwS 4, lwS 5, lwS 6, lwS 7, lwS 8, lwS 9, lwS 10] [lwS 0, lwS 1, lwS 2, lwS 3] (law_a hns hS hi hE C N dN dO ?_)
  intro h1 tk1 m1 St ws O oO' ta tb F1 hst N1 hws dO' l1 l2
  refine wpAny_execs_cons (law_b (s := { s with heap := h1, toks := tk1 }) (octA_lt ns) (octB_lt ns) hE (C.at F1 (Nat.le_refl _)) N1 dN dO' l1 l2 ?_)
  intro h2 tk2 Nm n oN' t1 t2 F2 N2 dN' n1 n2 n3 n4
  refine wpAny_execs_cons (law_c (ns := ns) (s := { s with heap := h2, toks := tk2 }) hE (C.at (fr_put F2 hst) (Nat.le_refl _)) N2 hws l1 l2 n1 n2 n3 n4 ?_)
  intro h3 tk3 Rw r0 r1 a0 a1 a2 vs0 vs1 F3 i0 i1 N3
  refine wpAny_execs_cons (law_d (s := { s with heap := h3, toks := tk3 }) (ks0 := rowE ns) (ks1 := rowF ns) (octA_lt ns) (octB_lt ns) (by omega) (by omega) (by omega) (by omega) (rowE_01 ns) (rowF_01 ns) hE (C.at F3 (Nat.le_refl _)) i0 i1 N3 dN' ?_)
  intro h4 tk4 Wy k4 t3 t4 F4 N4
  refine wpAny_execs_cons (law_e (s := { s with heap := h4, toks := tk4 }) (octA_lt ns) (octB_lt ns) (by omega) (by omega) (by omega) (by omega) (rowE_01 ns) (rowF_01 ns) hE (C.at F4 (Nat.le_refl _)) i0 i1 N4 dO' dN' ?_)
  intro h5 tk5 m5 F5 z1 z2 N5
  refine law_f (s := { s with heap := h5, toks := tk5 }) (octA_lt ns) (octB_lt ns) (oct_ne ns) (by omega) (by omega) (by omega) (by omega) (rowE_01 ns) (rowF_01 ns) (by omega) hu hE (C.at (fr_put (fr_put F5 z2) ((if_neg (by decide)).trans z1)) (Nat.le_refl _)) i0 i1 N5 dN' ?_
  exact fun h tk m6 k => hq h tk m6 k
end
end Mine
end

-- W17
section
open PySem PySem.W PyProof.Rows PySem.Calls
set_option linter.unusedVariables false
set_option maxRecDepth 100000
set_option maxHeartbeats 40000000
namespace Mine
theorem law_body : lawD.body = [lwS 0, lwS 1, lwS 2, lwS 3, lwS 4, lwS 5, lwS 6, lwS 7, lwS 8, lwS 9, lwS 10] := by kernel_rfl
theorem law_name : lawD.name = Str.ofString "law" := by kernel_rfl
theorem law_scope : lawD.scope = lwScope := by kernel_rfl
theorem law_prog : row.prog = PySem.Challenge.pw_rt0089_01 := by kernel_rfl
theorem law_frame (L fa : Addr) (cd : Value) : callerA.deeper (envOfC (Str.ofString "law") lwScope L fa cd) = ktrTop 302 7 (some []) (Str.ofString "law") lwScope L fa cd (cellsFrom (L + 1) lwScope.names []) [] := by rfl
theorem fin : PySem.Challenge.rw_rt0089_01.Holds := hd (by
  k_with_none
  k_fill
  intro w s₀ s₁ mg mb G Y fa o pm cd doc dV kV ho hd hcd hD hmg hg args vals as hpre hlay hrd hwl hlo
  have KX : (Mine.hd.heap_39 w.params).In s₁.heap := Y
  k_behind G ho hd hcd hD hmg hpre hlay hrd hwl hlo cd
  rename Top _ _ _ _ _ _ => T1
  rename Fr _ _ _ _ => F1
  rename News _ _ _ _ => N1
  rename Below _ _ _ _ => K1
  rename IntsAre _ _ => i1
  rename (_ = Data.cell _) => d1
  rename Heap.IsList _ _ _ => l1
  rename ¬ ((63 : Nat) : Int) < _ => c1
  revert d1
  rename (_ = Data.cell _) => d2
  intro d1
  have F2 : Fr s₁.heap s₁.heap.objs.size _ (fun y => if y = Str.ofString "script" then some (.ref _) else none) := F1
  have C : Cx (Mine.hd.heap_39 w.params) view (looseW view loose) (ExcName.means s₀.heap) mg mb (0 + 6) 302 7 lwScope [] callerA _ s₁.heap s₁.heap.objs.size _ _ := ⟨K1, F2, KX, T1, rfl, by decide, by decide⟩
  rw [law_body]
  simp only [law_name, law_scope, law_prog, law_frame] at N1 d1 d2 ⊢
  refine law_all (by omega) l1 i1 (by decide) ?hE C N1 d2 d1 ?hq
  case hE => first | passes_own | with_unfolding_all passes_own
  case hq =>
    intro h tk m' F3
    refine goodW_bool F3 hg (raisesW_false ?_) ?_
    · wrow_none_raised
    · wrow_post)
end Mine
end
set_option maxRecDepth 100000 in
set_option maxHeartbeats 40000000 in
theorem PySem.Challenge.cw_rt0089_01_holds : PySem.Challenge.rw_rt0089_01.Holds :=
  Mine.fin
