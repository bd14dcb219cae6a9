import PyProof.Rows.All
import Wide.All
import OpenK.AllK
import Wide.FinOn
import Lean
import PySem.Challenge.RW_vn0025_01
set_option Elab.async false
section -- HeadB
open PySem PySem.W PySem.Calls PyProof.Rows
set_option maxRecDepth 100000
namespace Mine

/-- the top's run over a tree of objects -/
def topRunT (tb : String → Option Builtin) (p : Program) (w : World) (n₀ : Nat) (ann : Option Value) : Nat → SharedT → Thread → Option SharedT
  | 0, _, _ => none
  | n + 1, s, t => match through t with
    | true => some s
    | false => match stepOk n₀ ann t with
      | false => none
      | true => match stepT (denote tb) p w s t with
        | some (s', t') => topRunT tb p w n₀ ann n s' t'
        | none => none
theorem topRunT_of {tb : String → Option Builtin} {p : Program} {w : World} {n₀ : Nat} {ann : Option Value} : ∀ {n : Nat} {s s' : SharedT} {t : Thread},
    topRunT tb p w n₀ ann n s t = some s' → topRun tb p w n₀ ann n s.abs t = some s'.abs
  | 0, _, _, _, h => by cases h
  | n + 1, s, s', t, h => by
    unfold topRunT at h
    unfold topRun
    cases he : through t with
    | true => rw [he] at h; cases h; rfl
    | false =>
      rw [he] at h
      cases hk : stepOk n₀ ann t with
      | false => rw [hk] at h; cases h
      | true =>
        rw [hk] at h
        cases hs : stepT (denote tb) p w s t with
        | none => rw [hs] at h; cases h
        | some r => obtain ⟨s₂, t₂⟩ := r; rw [hs] at h; dsimp only; rw [stepT_spec hs]; exact topRunT_of h

def impRunT (tb : String → Option Builtin) (p : Program) (w : World) : Nat → SharedT → Thread → Option SharedT
  | 0, _, _ => none
  | n + 1, s, t => match t.atExitBegin with
    | some [] => some s
    | some (_ :: _) => none
    | none => match stepT (denote tb) p w s t with
      | some (s', t') => impRunT tb p w n s' t'
      | none => none
theorem impRunT_of {tb : String → Option Builtin} {p : Program} {w : World} : ∀ {n : Nat} {s s' : SharedT} {t : Thread},
    impRunT tb p w n s t = some s' → importEnds tb p w n s.abs t = some s'.abs
  | 0, _, _, _, h => by cases h
  | n + 1, s, s', t, h => by
    unfold impRunT at h
    unfold importEnds
    cases he : t.atExitBegin with
    | some l => cases l with
      | nil => rw [he] at h; cases h; rfl
      | cons => rw [he] at h; cases h
    | none =>
      rw [he] at h
      cases hs : stepT (denote tb) p w s t with
      | none => rw [hs] at h; cases h
      | some r => obtain ⟨s₂, t₂⟩ := r; rw [hs] at h; dsimp only; rw [stepT_spec hs]; exact impRunT_of h

/-- a heap laid out as a tree, each place looked at -/
def layT : List Obj → Nat → BT → Option (BT × Nat)
  | [], n, T => some (T, n)
  | o :: r, n, T => match ((T.ins n o).get n).isSome with
    | true => layT r (n + 1) (T.ins n o)
    | false => none
theorem layT_of {life : Life} : ∀ {l : List Obj} {n m : Nat} {T T' : BT}, layT l n T = some (T', m) → (absHeap T' m life).objs = (absHeap T n life).objs ++ l.toArray
  | [], n, m, T, T', h => by cases h; simp
  | o :: r, n, m, T, T', h => by
    unfold layT at h
    cases e : ((T.ins n o).get n).isSome with
    | false => rw [e] at h; cases h
    | true =>
      rw [e] at h
      rw [layT_of (life := life) h, absHeap_ins e]
      show (absHeap T n life).objs.push o ++ r.toArray = _
      simp
def toT (s : Shared) : Option SharedT := (layT s.heap.objs.toList 0 .nil).map fun x => ⟨x.1, x.2, s.heap.life, s.gens, s.drawn, s.toks, s.os⟩
theorem toT_of {s : Shared} {t : SharedT} (h : toT s = some t) : t.abs = s := by
  unfold toT at h
  obtain ⟨⟨T, m⟩, h1, h2⟩ := Option.map_eq_some_iff.mp h
  subst h2
  have e := layT_of (life := s.heap.life) h1
  have z : (absHeap .nil 0 s.heap.life).objs = #[] := rfl
  rw [z] at e
  obtain ⟨⟨objs, life⟩, g, d, k, os⟩ := s
  show Shared.mk (absHeap T m life) g d k os = _
  have : absHeap T m life = ⟨objs, life⟩ := by
    show Heap.mk (absHeap T m life).objs life = _
    rw [e]
    simp
  rw [this]

def startT (p : Program) : SharedT := ⟨.nil, 0, {}, #[], {}, 1, { stdin := p.given.stdin.toArray }⟩
theorem startT_abs (p : Program) : (startT p).abs = (start p).1 := rfl

/-- the state behind the opening, and behind the top -/
def fenceT (p : Program) (w : World) (N : Nat) : Option Shared := (impRunT treeTable (opening p) w N (startT (opening p)) (start (opening p)).2).bind fun s => fenceModules? p s.abs
def behindT (p : Program) (w : World) (N : Nat) (s₀ : Shared) : Option SharedT :=
  match s₀.heap.isNs mainGlobals && s₀.gens.size == 0 with
  | true => (toT s₀).bind fun t₀ => (topRunT treeTable p w s₀.heap.objs.size (s₀.heap.nsMap mainGlobals "__annotations__") N t₀ (topStub p)).bind fun s₁ =>
      match staticsOk (importedModules p.main.body) s₀.heap s₁.abs.heap && namesBound p s₁.abs.heap && gensDone s₁.abs && laidKept s₀.heap s₁.abs.heap with
      | true => some s₁
      | false => none
  | false => none
def headT (p : Program) (w : World) (N : Nat) : Option SharedT := (fenceT p w N).bind (behindT p w N)
theorem headT_of {p : Program} {w : World} {N : Nat} {s : SharedT} (h : headT p w N = some s) : openEnds treeTable p w N = some s.abs := by
  unfold headT at h
  obtain ⟨s₀, h1, h2⟩ := Option.bind_eq_some_iff.mp h
  unfold fenceT at h1
  obtain ⟨sE, h3, h4⟩ := Option.bind_eq_some_iff.mp h1
  unfold openEnds
  have e : fencedOpening treeTable p w N = some s₀ := by
    unfold fencedOpening
    rw [← startT_abs, impRunT_of h3]; exact h4
  rw [e]
  show topFrom treeTable p w N s₀ = some s.abs
  unfold behindT at h2
  unfold topFrom
  cases c : (s₀.heap.isNs mainGlobals && s₀.gens.size == 0) with
  | false => rw [c] at h2; cases h2
  | true =>
    rw [c] at h2
    dsimp only at h2 ⊢
    obtain ⟨t₀, h5, h6⟩ := Option.bind_eq_some_iff.mp h2
    obtain ⟨s₁, h7, h8⟩ := Option.bind_eq_some_iff.mp h6
    have := topRunT_of h7
    rw [toT_of h5] at this
    rw [this]
    show (match staticsOk (importedModules p.main.body) s₀.heap s₁.abs.heap && namesBound p s₁.abs.heap && gensDone s₁.abs && laidKept s₀.heap s₁.abs.heap with | true => some s₁.abs | false => none) = some s.abs
    cases c2 : (staticsOk (importedModules p.main.body) s₀.heap s₁.abs.heap && namesBound p s₁.abs.heap && gensDone s₁.abs && laidKept s₀.heap s₁.abs.heap) with
    | false => rw [c2] at h8; cases h8
    | true => rw [c2] at h8; cases h8; rfl
end Mine
end
section -- HeadS
open PySem PySem.W PySem.Calls PyProof.Rows
set_option maxRecDepth 100000
set_option maxHeartbeats 0
namespace Mine
abbrev PG := PySem.Challenge.pw_vn0025_01
def nthS : List Stmt → Nat → Stmt
  | [], _ => .Pass ⟨0, 0, 0, 0⟩
  | s :: _, 0 => s
  | _ :: r, n + 1 => nthS r n
def bodyS : Stmt → List Stmt
  | .ClassDef _ _ _ b _ _ _ _ _ _ _ => b
  | .FunctionDef _ _ b _ _ _ _ _ _ _ => b
  | _ => []
def stA : List Nat → Stmt
  | [i] => nthS PG.main.body i
  | [i, j] => nthS (bodyS (nthS PG.main.body i)) j
  | _ => .Pass ⟨0, 0, 0, 0⟩
def pA : Stmt → Arguments
  | .FunctionDef _ a _ _ _ _ _ _ _ _ => a
  | _ => ⟨[], [], none, [], [], none, []⟩
def bA : Stmt → List Stmt
  | .FunctionDef _ _ b _ _ _ _ _ _ _ => b
  | _ => []
def sA : Stmt → Scope
  | .FunctionDef _ _ _ _ _ _ s _ _ _ => s
  | _ => ⟨.function, [], false, false, []⟩
def life0 : Life := {}
def drawn0 : Drawn := {}
def annV : Option Value := some (.ref 6)
def envV : Env := { scope := PG.main.scope, locals := mainNs, globals := mainNs, cells := [], code := .ref 41, frame := some 42 }
def cdV : Code := .body (behindTheImports PG) envV
def qV : Pos := ⟨0, 0, 0, 0⟩
abbrev BV : List Frame := [topFrame qV]

def o0_s0 (P : Params) : Obj := ⟨(.type "dict"), none, (.dict #[⟨PyData.keyHash P (.ofString "__name__"), (.str (.ofString "__name__") 1), (.str (.ofString "builtins") 160)⟩, ⟨PyData.keyHash P (.ofString "__doc__"), (.str (.ofString "__doc__") 2), (.builtin "builtins.__doc__:str#opaque")⟩, ⟨PyData.keyHash P (.ofString "__package__"), (.str (.ofString "__package__") 3), (.builtin "builtins.__package__:str#opaque")⟩, ⟨PyData.keyHash P (.ofString "__loader__"), (.str (.ofString "__loader__") 4), (.builtin "builtins.__loader__:shared#opaque")⟩, ⟨PyData.keyHash P (.ofString "__spec__"), (.str (.ofString "__spec__") 5), (.builtin "builtins.__spec__#opaque")⟩, ⟨PyData.keyHash P (.ofString "__build_class__"), (.str (.ofString "__build_class__") 6), (.builtin "__build_class__")⟩, ⟨PyData.keyHash P (.ofString "__import__"), (.str (.ofString "__import__") 7), (.builtin "__import__")⟩, ⟨PyData.keyHash P (.ofString "abs"), (.str (.ofString "abs") 8), (.builtin "abs")⟩, ⟨PyData.keyHash P (.ofString "all"), (.str (.ofString "all") 9), (.builtin "all")⟩, ⟨PyData.keyHash P (.ofString "any"), (.str (.ofString "any") 10), (.builtin "any")⟩, ⟨PyData.keyHash P (.ofString "ascii"), (.str (.ofString "ascii") 11), (.builtin "ascii")⟩, ⟨PyData.keyHash P (.ofString "bin"), (.str (.ofString "bin") 12), (.builtin "bin")⟩, ⟨PyData.keyHash P (.ofString "breakpoint"), (.str (.ofString "breakpoint") 13), (.builtin "breakpoint")⟩, ⟨PyData.keyHash P (.ofString "callable"), (.str (.ofString "callable") 14), (.builtin "callable")⟩, ⟨PyData.keyHash P (.ofString "chr"), (.str (.ofString "chr") 15), (.builtin "chr")⟩, ⟨PyData.keyHash P (.ofString "compile"), (.str (.ofString "compile") 16), (.builtin "compile")⟩, ⟨PyData.keyHash P (.ofString "delattr"), (.str (.ofString "delattr") 17), (.builtin "delattr")⟩, ⟨PyData.keyHash P (.ofString "dir"), (.str (.ofString "dir") 18), (.builtin "dir")⟩, ⟨PyData.keyHash P (.ofString "divmod"), (.str (.ofString "divmod") 19), (.builtin "divmod")⟩, ⟨PyData.keyHash P (.ofString "eval"), (.str (.ofString "eval") 20), (.builtin "eval")⟩, ⟨PyData.keyHash P (.ofString "exec"), (.str (.ofString "exec") 21), (.builtin "exec")⟩, ⟨PyData.keyHash P (.ofString "format"), (.str (.ofString "format") 22), (.builtin "format")⟩, ⟨PyData.keyHash P (.ofString "getattr"), (.str (.ofString "getattr") 23), (.builtin "getattr")⟩, ⟨PyData.keyHash P (.ofString "globals"), (.str (.ofString "globals") 24), (.builtin "globals")⟩, ⟨PyData.keyHash P (.ofString "hasattr"), (.str (.ofString "hasattr") 25), (.builtin "hasattr")⟩, ⟨PyData.keyHash P (.ofString "hash"), (.str (.ofString "hash") 26), (.builtin "hash")⟩, ⟨PyData.keyHash P (.ofString "hex"), (.str (.ofString "hex") 27), (.builtin "hex")⟩, ⟨PyData.keyHash P (.ofString "id"), (.str (.ofString "id") 28), (.builtin "id")⟩, ⟨PyData.keyHash P (.ofString "input"), (.str (.ofString "input") 29), (.builtin "input")⟩, ⟨PyData.keyHash P (.ofString "isinstance"), (.str (.ofString "isinstance") 30), (.builtin "isinstance")⟩, ⟨PyData.keyHash P (.ofString "issubclass"), (.str (.ofString "issubclass") 31), (.builtin "issubclass")⟩, ⟨PyData.keyHash P (.ofString "iter"), (.str (.ofString "iter") 32), (.builtin "iter")⟩, ⟨PyData.keyHash P (.ofString "aiter"), (.str (.ofString "aiter") 33), (.builtin "aiter")⟩, ⟨PyData.keyHash P (.ofString "len"), (.str (.ofString "len") 34), (.builtin "len")⟩, ⟨PyData.keyHash P (.ofString "locals"), (.str (.ofString "locals") 35), (.builtin "locals")⟩, ⟨PyData.keyHash P (.ofString "max"), (.str (.ofString "max") 36), (.builtin "max")⟩, ⟨PyData.keyHash P (.ofString "min"), (.str (.ofString "min") 37), (.builtin "min")⟩, ⟨PyData.keyHash P (.ofString "next"), (.str (.ofString "next") 38), (.builtin "next")⟩, ⟨PyData.keyHash P (.ofString "anext"), (.str (.ofString "anext") 39), (.builtin "anext")⟩, ⟨PyData.keyHash P (.ofString "oct"), (.str (.ofString "oct") 40), (.builtin "oct")⟩, ⟨PyData.keyHash P (.ofString "ord"), (.str (.ofString "ord") 41), (.builtin "ord")⟩, ⟨PyData.keyHash P (.ofString "pow"), (.str (.ofString "pow") 42), (.builtin "pow")⟩, ⟨PyData.keyHash P (.ofString "print"), (.str (.ofString "print") 43), (.builtin "print")⟩, ⟨PyData.keyHash P (.ofString "repr"), (.str (.ofString "repr") 44), (.builtin "repr")⟩, ⟨PyData.keyHash P (.ofString "round"), (.str (.ofString "round") 45), (.builtin "round")⟩, ⟨PyData.keyHash P (.ofString "setattr"), (.str (.ofString "setattr") 46), (.builtin "setattr")⟩, ⟨PyData.keyHash P (.ofString "sorted"), (.str (.ofString "sorted") 47), (.builtin "sorted")⟩, ⟨PyData.keyHash P (.ofString "sum"), (.str (.ofString "sum") 48), (.builtin "sum")⟩, ⟨PyData.keyHash P (.ofString "vars"), (.str (.ofString "vars") 49), (.builtin "vars")⟩, ⟨PyData.keyHash P (.ofString "None"), (.str (.ofString "None") 50), .none⟩, ⟨PyData.keyHash P (.ofString "Ellipsis"), (.str (.ofString "Ellipsis") 51), .ellipsis⟩, ⟨PyData.keyHash P (.ofString "NotImplemented"), (.str (.ofString "NotImplemented") 52), .notImplemented⟩, ⟨PyData.keyHash P (.ofString "False"), (.str (.ofString "False") 53), (.bool false)⟩, ⟨PyData.keyHash P (.ofString "True"), (.str (.ofString "True") 54), (.bool true)⟩, ⟨PyData.keyHash P (.ofString "bool"), (.str (.ofString "bool") 55), (.type "bool")⟩, ⟨PyData.keyHash P (.ofString "memoryview"), (.str (.ofString "memoryview") 56), (.type "memoryview")⟩, ⟨PyData.keyHash P (.ofString "bytearray"), (.str (.ofString "bytearray") 57), (.type "bytearray")⟩, ⟨PyData.keyHash P (.ofString "bytes"), (.str (.ofString "bytes") 58), (.type "bytes")⟩, ⟨PyData.keyHash P (.ofString "classmethod"), (.str (.ofString "classmethod") 59), (.type "classmethod")⟩, ⟨PyData.keyHash P (.ofString "complex"), (.str (.ofString "complex") 60), (.type "complex")⟩, ⟨PyData.keyHash P (.ofString "dict"), (.str (.ofString "dict") 61), (.type "dict")⟩, ⟨PyData.keyHash P (.ofString "enumerate"), (.str (.ofString "enumerate") 62), (.type "enumerate")⟩, ⟨PyData.keyHash P (.ofString "filter"), (.str (.ofString "filter") 63), (.type "filter")⟩, ⟨PyData.keyHash P (.ofString "float"), (.str (.ofString "float") 64), (.type "float")⟩, ⟨PyData.keyHash P (.ofString "frozenset"), (.str (.ofString "frozenset") 65), (.type "frozenset")⟩, ⟨PyData.keyHash P (.ofString "property"), (.str (.ofString "property") 66), (.type "property")⟩, ⟨PyData.keyHash P (.ofString "int"), (.str (.ofString "int") 67), (.type "int")⟩, ⟨PyData.keyHash P (.ofString "list"), (.str (.ofString "list") 68), (.type "list")⟩, ⟨PyData.keyHash P (.ofString "map"), (.str (.ofString "map") 69), (.type "map")⟩, ⟨PyData.keyHash P (.ofString "object"), (.str (.ofString "object") 70), (.type "object")⟩, ⟨PyData.keyHash P (.ofString "range"), (.str (.ofString "range") 71), (.type "range")⟩, ⟨PyData.keyHash P (.ofString "reversed"), (.str (.ofString "reversed") 72), (.type "reversed")⟩, ⟨PyData.keyHash P (.ofString "set"), (.str (.ofString "set") 73), (.type "set")⟩, ⟨PyData.keyHash P (.ofString "slice"), (.str (.ofString "slice") 74), (.type "slice")⟩, ⟨PyData.keyHash P (.ofString "staticmethod"), (.str (.ofString "staticmethod") 75), (.type "staticmethod")⟩, ⟨PyData.keyHash P (.ofString "str"), (.str (.ofString "str") 76), (.type "str")⟩, ⟨PyData.keyHash P (.ofString "super"), (.str (.ofString "super") 77), (.type "super")⟩, ⟨PyData.keyHash P (.ofString "tuple"), (.str (.ofString "tuple") 78), (.type "tuple")⟩, ⟨PyData.keyHash P (.ofString "type"), (.str (.ofString "type") 79), (.type "type")⟩, ⟨PyData.keyHash P (.ofString "zip"), (.str (.ofString "zip") 80), (.type "zip")⟩, ⟨PyData.keyHash P (.ofString "__debug__"), (.str (.ofString "__debug__") 81), (.bool true)⟩, ⟨PyData.keyHash P (.ofString "BaseException"), (.str (.ofString "BaseException") 82), (.type "BaseException")⟩, ⟨PyData.keyHash P (.ofString "BaseExceptionGroup"), (.str (.ofString "BaseExceptionGroup") 83), (.type "BaseExceptionGroup")⟩, ⟨PyData.keyHash P (.ofString "Exception"), (.str (.ofString "Exception") 84), (.type "Exception")⟩, ⟨PyData.keyHash P (.ofString "GeneratorExit"), (.str (.ofString "GeneratorExit") 85), (.type "GeneratorExit")⟩, ⟨PyData.keyHash P (.ofString "KeyboardInterrupt"), (.str (.ofString "KeyboardInterrupt") 86), (.type "KeyboardInterrupt")⟩, ⟨PyData.keyHash P (.ofString "SystemExit"), (.str (.ofString "SystemExit") 87), (.type "SystemExit")⟩, ⟨PyData.keyHash P (.ofString "ArithmeticError"), (.str (.ofString "ArithmeticError") 88), (.type "ArithmeticError")⟩, ⟨PyData.keyHash P (.ofString "AssertionError"), (.str (.ofString "AssertionError") 89), (.type "AssertionError")⟩, ⟨PyData.keyHash P (.ofString "AttributeError"), (.str (.ofString "AttributeError") 90), (.type "AttributeError")⟩, ⟨PyData.keyHash P (.ofString "BufferError"), (.str (.ofString "BufferError") 91), (.type "BufferError")⟩, ⟨PyData.keyHash P (.ofString "EOFError"), (.str (.ofString "EOFError") 92), (.type "EOFError")⟩, ⟨PyData.keyHash P (.ofString "ImportError"), (.str (.ofString "ImportError") 93), (.type "ImportError")⟩, ⟨PyData.keyHash P (.ofString "LookupError"), (.str (.ofString "LookupError") 94), (.type "LookupError")⟩, ⟨PyData.keyHash P (.ofString "MemoryError"), (.str (.ofString "MemoryError") 95), (.type "MemoryError")⟩, ⟨PyData.keyHash P (.ofString "NameError"), (.str (.ofString "NameError") 96), (.type "NameError")⟩, ⟨PyData.keyHash P (.ofString "OSError"), (.str (.ofString "OSError") 97), (.type "OSError")⟩, ⟨PyData.keyHash P (.ofString "ReferenceError"), (.str (.ofString "ReferenceError") 98), (.type "ReferenceError")⟩, ⟨PyData.keyHash P (.ofString "RuntimeError"), (.str (.ofString "RuntimeError") 99), (.type "RuntimeError")⟩, ⟨PyData.keyHash P (.ofString "StopAsyncIteration"), (.str (.ofString "StopAsyncIteration") 100), (.type "StopAsyncIteration")⟩, ⟨PyData.keyHash P (.ofString "StopIteration"), (.str (.ofString "StopIteration") 101), (.type "StopIteration")⟩, ⟨PyData.keyHash P (.ofString "SyntaxError"), (.str (.ofString "SyntaxError") 102), (.type "SyntaxError")⟩, ⟨PyData.keyHash P (.ofString "SystemError"), (.str (.ofString "SystemError") 103), (.type "SystemError")⟩, ⟨PyData.keyHash P (.ofString "TypeError"), (.str (.ofString "TypeError") 104), (.type "TypeError")⟩, ⟨PyData.keyHash P (.ofString "ValueError"), (.str (.ofString "ValueError") 105), (.type "ValueError")⟩, ⟨PyData.keyHash P (.ofString "Warning"), (.str (.ofString "Warning") 106), (.type "Warning")⟩, ⟨PyData.keyHash P (.ofString "FloatingPointError"), (.str (.ofString "FloatingPointError") 107), (.type "FloatingPointError")⟩, ⟨PyData.keyHash P (.ofString "OverflowError"), (.str (.ofString "OverflowError") 108), (.type "OverflowError")⟩, ⟨PyData.keyHash P (.ofString "ZeroDivisionError"), (.str (.ofString "ZeroDivisionError") 109), (.type "ZeroDivisionError")⟩, ⟨PyData.keyHash P (.ofString "BytesWarning"), (.str (.ofString "BytesWarning") 110), (.type "BytesWarning")⟩, ⟨PyData.keyHash P (.ofString "DeprecationWarning"), (.str (.ofString "DeprecationWarning") 111), (.type "DeprecationWarning")⟩, ⟨PyData.keyHash P (.ofString "EncodingWarning"), (.str (.ofString "EncodingWarning") 112), (.type "EncodingWarning")⟩, ⟨PyData.keyHash P (.ofString "FutureWarning"), (.str (.ofString "FutureWarning") 113), (.type "FutureWarning")⟩, ⟨PyData.keyHash P (.ofString "ImportWarning"), (.str (.ofString "ImportWarning") 114), (.type "ImportWarning")⟩, ⟨PyData.keyHash P (.ofString "PendingDeprecationWarning"), (.str (.ofString "PendingDeprecationWarning") 115), (.type "PendingDeprecationWarning")⟩, ⟨PyData.keyHash P (.ofString "ResourceWarning"), (.str (.ofString "ResourceWarning") 116), (.type "ResourceWarning")⟩, ⟨PyData.keyHash P (.ofString "RuntimeWarning"), (.str (.ofString "RuntimeWarning") 117), (.type "RuntimeWarning")⟩, ⟨PyData.keyHash P (.ofString "SyntaxWarning"), (.str (.ofString "SyntaxWarning") 118), (.type "SyntaxWarning")⟩, ⟨PyData.keyHash P (.ofString "UnicodeWarning"), (.str (.ofString "UnicodeWarning") 119), (.type "UnicodeWarning")⟩, ⟨PyData.keyHash P (.ofString "UserWarning"), (.str (.ofString "UserWarning") 120), (.type "UserWarning")⟩, ⟨PyData.keyHash P (.ofString "BlockingIOError"), (.str (.ofString "BlockingIOError") 121), (.type "BlockingIOError")⟩, ⟨PyData.keyHash P (.ofString "ChildProcessError"), (.str (.ofString "ChildProcessError") 122), (.type "ChildProcessError")⟩, ⟨PyData.keyHash P (.ofString "ConnectionError"), (.str (.ofString "ConnectionError") 123), (.type "ConnectionError")⟩, ⟨PyData.keyHash P (.ofString "FileExistsError"), (.str (.ofString "FileExistsError") 124), (.type "FileExistsError")⟩, ⟨PyData.keyHash P (.ofString "FileNotFoundError"), (.str (.ofString "FileNotFoundError") 125), (.type "FileNotFoundError")⟩, ⟨PyData.keyHash P (.ofString "InterruptedError"), (.str (.ofString "InterruptedError") 126), (.type "InterruptedError")⟩, ⟨PyData.keyHash P (.ofString "IsADirectoryError"), (.str (.ofString "IsADirectoryError") 127), (.type "IsADirectoryError")⟩, ⟨PyData.keyHash P (.ofString "NotADirectoryError"), (.str (.ofString "NotADirectoryError") 128), (.type "NotADirectoryError")⟩, ⟨PyData.keyHash P (.ofString "PermissionError"), (.str (.ofString "PermissionError") 129), (.type "PermissionError")⟩, ⟨PyData.keyHash P (.ofString "ProcessLookupError"), (.str (.ofString "ProcessLookupError") 130), (.type "ProcessLookupError")⟩, ⟨PyData.keyHash P (.ofString "TimeoutError"), (.str (.ofString "TimeoutError") 131), (.type "TimeoutError")⟩, ⟨PyData.keyHash P (.ofString "IndentationError"), (.str (.ofString "IndentationError") 132), (.type "IndentationError")⟩, ⟨PyData.keyHash P (.ofString "_IncompleteInputError"), (.str (.ofString "_IncompleteInputError") 133), (.type "_IncompleteInputError")⟩, ⟨PyData.keyHash P (.ofString "IndexError"), (.str (.ofString "IndexError") 134), (.type "IndexError")⟩, ⟨PyData.keyHash P (.ofString "KeyError"), (.str (.ofString "KeyError") 135), (.type "KeyError")⟩, ⟨PyData.keyHash P (.ofString "ModuleNotFoundError"), (.str (.ofString "ModuleNotFoundError") 136), (.type "ModuleNotFoundError")⟩, ⟨PyData.keyHash P (.ofString "NotImplementedError"), (.str (.ofString "NotImplementedError") 137), (.type "NotImplementedError")⟩, ⟨PyData.keyHash P (.ofString "PythonFinalizationError"), (.str (.ofString "PythonFinalizationError") 138), (.type "PythonFinalizationError")⟩, ⟨PyData.keyHash P (.ofString "RecursionError"), (.str (.ofString "RecursionError") 139), (.type "RecursionError")⟩, ⟨PyData.keyHash P (.ofString "UnboundLocalError"), (.str (.ofString "UnboundLocalError") 140), (.type "UnboundLocalError")⟩, ⟨PyData.keyHash P (.ofString "UnicodeError"), (.str (.ofString "UnicodeError") 141), (.type "UnicodeError")⟩, ⟨PyData.keyHash P (.ofString "BrokenPipeError"), (.str (.ofString "BrokenPipeError") 142), (.type "BrokenPipeError")⟩, ⟨PyData.keyHash P (.ofString "ConnectionAbortedError"), (.str (.ofString "ConnectionAbortedError") 143), (.type "ConnectionAbortedError")⟩, ⟨PyData.keyHash P (.ofString "ConnectionRefusedError"), (.str (.ofString "ConnectionRefusedError") 144), (.type "ConnectionRefusedError")⟩, ⟨PyData.keyHash P (.ofString "ConnectionResetError"), (.str (.ofString "ConnectionResetError") 145), (.type "ConnectionResetError")⟩, ⟨PyData.keyHash P (.ofString "TabError"), (.str (.ofString "TabError") 146), (.type "TabError")⟩, ⟨PyData.keyHash P (.ofString "UnicodeDecodeError"), (.str (.ofString "UnicodeDecodeError") 147), (.type "UnicodeDecodeError")⟩, ⟨PyData.keyHash P (.ofString "UnicodeEncodeError"), (.str (.ofString "UnicodeEncodeError") 148), (.type "UnicodeEncodeError")⟩, ⟨PyData.keyHash P (.ofString "UnicodeTranslateError"), (.str (.ofString "UnicodeTranslateError") 149), (.type "UnicodeTranslateError")⟩, ⟨PyData.keyHash P (.ofString "ExceptionGroup"), (.str (.ofString "ExceptionGroup") 150), (.type "ExceptionGroup")⟩, ⟨PyData.keyHash P (.ofString "EnvironmentError"), (.str (.ofString "EnvironmentError") 151), (.type "OSError")⟩, ⟨PyData.keyHash P (.ofString "IOError"), (.str (.ofString "IOError") 152), (.type "OSError")⟩, ⟨PyData.keyHash P (.ofString "open"), (.str (.ofString "open") 153), (.builtin "open")⟩, ⟨PyData.keyHash P (.ofString "quit"), (.str (.ofString "quit") 154), (.builtin "builtins.quit#opaque")⟩, ⟨PyData.keyHash P (.ofString "exit"), (.str (.ofString "exit") 155), (.builtin "builtins.exit#opaque")⟩, ⟨PyData.keyHash P (.ofString "copyright"), (.str (.ofString "copyright") 156), (.builtin "builtins.copyright#opaque")⟩, ⟨PyData.keyHash P (.ofString "credits"), (.str (.ofString "credits") 157), (.builtin "builtins.credits#opaque")⟩, ⟨PyData.keyHash P (.ofString "license"), (.str (.ofString "license") 158), (.builtin "builtins.license#opaque")⟩, ⟨PyData.keyHash P (.ofString "help"), (.str (.ofString "help") 159), (.builtin "builtins.help#opaque")⟩] 159), #[]⟩
def o1_s0 (P : Params) : Obj := ⟨(.type "dict"), none, (.dict #[⟨PyData.keyHash P (.ofString "builtins"), (.str (.ofString "builtins") 162), (.ref 4)⟩, ⟨PyData.keyHash P (.ofString "__main__"), (.str (.ofString "__main__") 163), (.ref 5)⟩, ⟨PyData.keyHash P (.ofString "_struct"), (.str (.ofString "_struct") 284), (.ref 13)⟩] 3), #[]⟩
def o2_s0 (P : Params) : Obj := ⟨.none, none, (.dict #[⟨PyData.keyHash P (.ofString "\x69mport.loaded._struct"), (.str (.ofString "\x69mport.loaded._struct") 185), (.bool true)⟩, ⟨PyData.keyHash P (.ofString "class._frozen_importlib_external._LoaderBasics"), (.str (.ofString "class._frozen_importlib_external._LoaderBasics") 190), (.ref 16)⟩, ⟨PyData.keyHash P (.ofString "watched.\x69mport"), (.str (.ofString "watched.\x69mport") 206), (.ref 20)⟩, ⟨PyData.keyHash P (.ofString "class._frozen_importlib_external.FileLoader"), (.str (.ofString "class._frozen_importlib_external.FileLoader") 207), (.ref 22)⟩, ⟨PyData.keyHash P (.ofString "class._frozen_importlib_external.ExtensionFileLoader"), (.str (.ofString "class._frozen_importlib_external.ExtensionFileLoader") 228), (.ref 27)⟩, ⟨PyData.keyHash P (.ofString "class._frozen_importlib.ModuleSpec"), (.str (.ofString "class._frozen_importlib.ModuleSpec") 256), (.ref 33)⟩, ⟨PyData.keyHash P (.ofString "sys.modules.booked-epoch"), (.str (.ofString "sys.modules.booked-epoch") 285), (.int 3 0)⟩, ⟨PyData.keyHash P (.ofString "class.struct.error"), (.str (.ofString "class.struct.error") 302), (.type "struct.error")⟩, ⟨PyData.keyHash P (.ofString "\x69mport.later-laid._struct"), (.str (.ofString "\x69mport.later-laid._struct") 304), (.bool true)⟩, ⟨PyData.keyHash P (.ofString "watched.library"), (.str (.ofString "watched.library") 306), (.ref 38)⟩, ⟨PyData.keyHash P (.ofString "watched.library-objects"), (.str (.ofString "watched.library-objects") 0), (.str (.ofString "\x0d") 0)⟩] 11), #[]⟩
def o3_s0 (P : Params) : Obj := ⟨(.type "dict"), none, (.dict #[⟨PyData.keyHash P (.ofString "__name__"), (.str (.ofString "__name__") 165), (.str (.ofString "__main__") 164)⟩, ⟨PyData.keyHash P (.ofString "__doc__"), (.str (.ofString "__doc__") 166), .none⟩, ⟨PyData.keyHash P (.ofString "__package__"), (.str (.ofString "__package__") 167), .none⟩, ⟨PyData.keyHash P (.ofString "__loader__"), (.str (.ofString "__loader__") 168), (.builtin "__main__.__loader__#opaque")⟩, ⟨PyData.keyHash P (.ofString "__spec__"), (.str (.ofString "__spec__") 169), .none⟩, ⟨PyData.keyHash P (.ofString "__annotations__"), (.str (.ofString "__annotations__") 170), (.ref 6)⟩, ⟨PyData.keyHash P (.ofString "__builtins__"), (.str (.ofString "__builtins__") 171), (.ref 4)⟩, ⟨PyData.keyHash P (.ofString "__file__"), (.str (.ofString "__file__") 173), (.str (.ofString "/claim/cut.py") 172)⟩, ⟨PyData.keyHash P (.ofString "__cached__"), (.str (.ofString "__cached__") 174), .none⟩, ⟨PyData.keyHash P (.ofString "pack"), (.str (.ofString "pack") 312), (.builtin "_struct.pack")⟩] 10), #[]⟩
def o4_s0 (P : Params) : Obj := ⟨(.type "module"), (some 0), .plain, #[]⟩
def o5_s0 (P : Params) : Obj := ⟨(.type "module"), (some 3), .plain, #[]⟩
def o6_s0 (P : Params) : Obj := ⟨(.type "dict"), none, (.dict #[] 0), #[]⟩
def o7_s0 (P : Params) : Obj := ⟨(.type "tuple"), none, (.seq #[] 0), #[]⟩
def o8_s0 (P : Params) : Obj := ⟨.none, none, (.fields #[]), #[]⟩
def o9_s0 (P : Params) : Obj := ⟨(.type "code"), none, (.fields #[(.str (.ofString "<module>") 176), (.str (.ofString "<module>") 177), (.str (.ofString "/claim/cut.py") 178), (.int 1 0), (.int 0 0), (.int 0 0), (.int 0 0), (.int 0 0), (.ref 7), (.bool false), (.int 175 0), (.ref 8), .none, .none, .none, .none, (.int 179 0), (.int 1 0), (.str (.ofString "/claim/cut.py") 180)]), #[]⟩
def o10_s0 (P : Params) : Obj := ⟨(.type "frame"), none, .plain, #[(some (.ref 9)), (some (.ref 3)), (some (.ref 3)), none, (some (.str (.ofString "__main__") 164)), none, (some (.ref 0))]⟩
def o11_s0 (P : Params) : Obj := ⟨(.type "tuple"), none, (.seq #[(.str (.ofString "pack") 182)] 0), #[]⟩
def o12_s0 (P : Params) : Obj := ⟨(.type "dict"), none, (.dict #[⟨PyData.keyHash P (.ofString "__name__"), (.str (.ofString "__name__") 287), (.str (.ofString "_struct") 286)⟩, ⟨PyData.keyHash P (.ofString "__doc__"), (.str (.ofString "__doc__") 288), (.builtin "off-the-table:_struct.__doc__:shared#opaque")⟩, ⟨PyData.keyHash P (.ofString "__package__"), (.str (.ofString "__package__") 290), (.str (.ofString "") 289)⟩, ⟨PyData.keyHash P (.ofString "__loader__"), (.str (.ofString "__loader__") 291), (.builtin "off-the-table:_struct.__loader__:shared#opaque")⟩, ⟨PyData.keyHash P (.ofString "__spec__"), (.str (.ofString "__spec__") 292), (.builtin "off-the-table:_struct.__spec__:shared#opaque")⟩, ⟨PyData.keyHash P (.ofString "_clearcache"), (.str (.ofString "_clearcache") 293), (.builtin "off-the-table:_struct._clearcache:shared#opaque")⟩, ⟨PyData.keyHash P (.ofString "calcsize"), (.str (.ofString "calcsize") 294), (.builtin "_struct.calcsize")⟩, ⟨PyData.keyHash P (.ofString "iter_unpack"), (.str (.ofString "iter_unpack") 295), (.builtin "_struct.iter_unpack")⟩, ⟨PyData.keyHash P (.ofString "pack"), (.str (.ofString "pack") 296), (.builtin "_struct.pack")⟩, ⟨PyData.keyHash P (.ofString "pack_into"), (.str (.ofString "pack_into") 297), (.builtin "_struct.pack_into")⟩, ⟨PyData.keyHash P (.ofString "unpack"), (.str (.ofString "unpack") 298), (.builtin "_struct.unpack")⟩, ⟨PyData.keyHash P (.ofString "unpack_from"), (.str (.ofString "unpack_from") 299), (.builtin "_struct.unpack_from")⟩, ⟨PyData.keyHash P (.ofString "__file__"), (.str (.ofString "__file__") 300), (.str (.ofString "/nix/store/wj1f56qky4pmjc7l0r6b6l7whnnw7hp6-python3-3.13.15/lib/python3.13/lib-dynload/_struct.cpython-313-x86_64-linux-gnu.so") 186)⟩, ⟨PyData.keyHash P (.ofString "Struct"), (.str (.ofString "Struct") 301), (.type "_struct.Struct")⟩, ⟨PyData.keyHash P (.ofString "error"), (.str (.ofString "error") 303), (.type "struct.error")⟩] 15), #[]⟩
def o13_s0 (P : Params) : Obj := ⟨(.type "module"), (some 12), .plain, #[]⟩
def o14_s0 (P : Params) : Obj := ⟨(.type "dict"), none, (.dict #[⟨PyData.keyHash P (.ofString "name"), (.str (.ofString "name") 188), (.str (.ofString "_struct") 187)⟩, ⟨PyData.keyHash P (.ofString "path"), (.str (.ofString "path") 189), (.str (.ofString "/nix/store/wj1f56qky4pmjc7l0r6b6l7whnnw7hp6-python3-3.13.15/lib/python3.13/lib-dynload/_struct.cpython-313-x86_64-linux-gnu.so") 186)⟩] 2), #[]⟩
def o15_s0 (P : Params) : Obj := ⟨(.type "dict"), none, (.dict #[⟨PyData.keyHash P (.ofString "__module__"), (.str (.ofString "__module__") 193), (.str (.ofString "_frozen_importlib_external") 191)⟩, ⟨PyData.keyHash P (.ofString "__firstlineno__"), (.str (.ofString "__firstlineno__") 194), (.int 1001 192)⟩, ⟨PyData.keyHash P (.ofString "__doc__"), (.str (.ofString "__doc__") 195), (.builtin "_frozen_importlib_external._LoaderBasics.__doc__:str#opaque")⟩, ⟨PyData.keyHash P (.ofString "is_package"), (.str (.ofString "is_package") 196), (.builtin "_frozen_importlib_external._LoaderBasics.is_package#opaque")⟩, ⟨PyData.keyHash P (.ofString "create_module"), (.str (.ofString "create_module") 197), (.builtin "_frozen_importlib_external._LoaderBasics.create_module#opaque")⟩, ⟨PyData.keyHash P (.ofString "exec_module"), (.str (.ofString "exec_module") 198), (.builtin "_frozen_importlib_external._LoaderBasics.exec_module#opaque")⟩, ⟨PyData.keyHash P (.ofString "load_module"), (.str (.ofString "load_module") 199), (.builtin "_frozen_importlib_external._LoaderBasics.load_module#opaque")⟩, ⟨PyData.keyHash P (.ofString "__static_attributes__"), (.str (.ofString "__static_attributes__") 200), (.ref 17)⟩, ⟨PyData.keyHash P (.ofString "__dict__"), (.str (.ofString "__dict__") 202), (.ref 18)⟩, ⟨PyData.keyHash P (.ofString "__weakref__"), (.str (.ofString "__weakref__") 204), (.ref 19)⟩] 10), #[]⟩
def o16_s0 (P : Params) : Obj := ⟨(.type "type"), none, (.cls ⟨(.ofString "_LoaderBasics"), [(.type "object")], [(.ref 16), (.type "object")], 15, (.ofString "_LoaderBasics"), true, [], [(.ref 27)], false, none, false⟩), #[]⟩
def o17_s0 (P : Params) : Obj := ⟨(.type "tuple"), none, (.seq #[] 0), #[]⟩
def o18_s0 (P : Params) : Obj := ⟨(.type "getset_descriptor"), none, (.fields #[(.str (.ofString "__dict__") 201), (.ref 16), (.builtin "function.__dict__"), (.builtin "function.__dict__#set")]), #[]⟩
def o19_s0 (P : Params) : Obj := ⟨(.type "getset_descriptor"), none, (.fields #[(.str (.ofString "__weakref__") 203), (.ref 16), (.builtin "ExceptionGroup.__weakref__"), .none]), #[]⟩
def o20_s0 (P : Params) : Obj := ⟨.none, none, (.seq #[(.int 15 0), (.str (.ofString "\x06\xc1\x0a__module__\x06\xbf\x1a_frozen_importlib_external\x06\xc2\x0f__firstlineno__\x04\xc0\x00\u03e9\x06\xc3\x07__doc__\x09;_frozen_importlib_external._LoaderBasics.__doc__:str#opaque\x06\xc4\x0ais_package\x09:_frozen_importlib_external._LoaderBasics.is_package#opaque\x06\xc5\x0dcreate_module\x09=_frozen_importlib_external._LoaderBasics.create_module#opaque\x06\xc6\x0bexec_module\x09;_frozen_importlib_external._LoaderBasics.exec_module#opaque\x06\xc7\x0bload_module\x09;_frozen_importlib_external._LoaderBasics.load_module#opaque\x06\xc8\x15__static_attributes__\x04\x00\x00\x11\x06\xca\x08__dict__\x04\x00\x00\x12\x06\xcc\x0b__weakref__\x04\x00\x00\x13") 0), (.bool true), (.bool true), (.str (.ofString "") 205), (.int 21 0), (.str (.ofString "\x06\xd4\x0a__module__\x06\xd0\x1a_frozen_importlib_external\x06\xd5\x0f__firstlineno__\x04\xd1\x00\u0498\x06\xd6\x07__doc__\x098_frozen_importlib_external.FileLoader.__doc__:str#opaque\x06\xd7\x08__init__\x095_frozen_importlib_external.FileLoader.__init__#opaque\x06\xd8\x06__eq__\x093_frozen_importlib_external.FileLoader.__eq__#opaque\x06\xd9\x08__hash__\x095_frozen_importlib_external.FileLoader.__hash__#opaque\x06\xda\x0bload_module\x098_frozen_importlib_external.FileLoader.load_module#opaque\x06\xdb\x0cget_filename\x099_frozen_importlib_external.FileLoader.get_filename#opaque\x06\xdc\x08get_data\x095_frozen_importlib_external.FileLoader.get_data#opaque\x06\xdd\x13get_resource_reader\x09@_frozen_importlib_external.FileLoader.get_resource_reader#opaque\x06\xde\x15__static_attributes__\x04\x00\x00\x17\x06\xe0\x08__dict__\x04\x00\x00\x18\x06\xe2\x0b__weakref__\x04\x00\x00\x19") 0), (.bool true), (.bool true), (.str (.ofString "") 227), (.int 26 0), (.str (.ofString "\x06\xe9\x0a__module__\x06\xe5\x1a_frozen_importlib_external\x06\xea\x0f__firstlineno__\x04\xe6\x00\u0510\x06\xeb\x07__doc__\x09A_frozen_importlib_external.ExtensionFileLoader.__doc__:str#opaque\x06\xec\x08__init__\x09>_frozen_importlib_external.ExtensionFileLoader.__init__#opaque\x06\xed\x06__eq__\x09<_frozen_importlib_external.ExtensionFileLoader.__eq__#opaque\x06\xee\x08__hash__\x09>_frozen_importlib_external.ExtensionFileLoader.__hash__#opaque\x06\xef\x0dcreate_module\x09C_frozen_importlib_external.ExtensionFileLoader.create_module#opaque\x06\xf0\x0bexec_module\x09A_frozen_importlib_external.ExtensionFileLoader.exec_module#opaque\x06\xf1\x0ais_package\x09@_frozen_importlib_external.ExtensionFileLoader.is_package#opaque\x06\xf2\x08get_code\x09>_frozen_importlib_external.ExtensionFileLoader.get_code#opaque\x06\xf3\x0aget_source\x09@_frozen_importlib_external.ExtensionFileLoader.get_source#opaque\x06\xf4\x0cget_filename\x09B_frozen_importlib_external.ExtensionFileLoader.get_filename#opaque\x06\xf5\x15__static_attributes__\x04\x00\x00\x1c") 0), (.bool true), (.bool true), (.str (.ofString "") 246), (.int 32 0), (.str (.ofString "\x06\u010b\x0a__module__\x06\u0101\x11_frozen_importlib\x06\u010c\x0f__firstlineno__\x04\u0102\x00\u0232\x06\u010d\x07__doc__\x09/_frozen_importlib.ModuleSpec.__doc__:str#opaque\x06\u010e\x08__init__\x09,_frozen_importlib.ModuleSpec.__init__#opaque\x06\u010f\x08__repr__\x09,_frozen_importlib.ModuleSpec.__repr__#opaque\x06\u0110\x06__eq__\x09*_frozen_importlib.ModuleSpec.__eq__#opaque\x06\u0111\x06cached\x09*_frozen_importlib.ModuleSpec.cached#opaque\x06\u0112\x06parent\x09*_frozen_importlib.ModuleSpec.parent#opaque\x06\u0113\x0chas_location\x090_frozen_importlib.ModuleSpec.has_location#opaque\x06\u0114\x15__static_attributes__\x04\x00\x00\"\x06\u0116\x08__dict__\x04\x00\x00#\x06\u0118\x0b__weakref__\x04\x00\x00$\x06\u0119\x08__hash__\x00") 0), (.bool true), (.bool true), (.str (.ofString "") 282)] 3), #[]⟩
def o21_s0 (P : Params) : Obj := ⟨(.type "dict"), none, (.dict #[⟨PyData.keyHash P (.ofString "__module__"), (.str (.ofString "__module__") 212), (.str (.ofString "_frozen_importlib_external") 208)⟩, ⟨PyData.keyHash P (.ofString "__firstlineno__"), (.str (.ofString "__firstlineno__") 213), (.int 1176 209)⟩, ⟨PyData.keyHash P (.ofString "__doc__"), (.str (.ofString "__doc__") 214), (.builtin "_frozen_importlib_external.FileLoader.__doc__:str#opaque")⟩, ⟨PyData.keyHash P (.ofString "__init__"), (.str (.ofString "__init__") 215), (.builtin "_frozen_importlib_external.FileLoader.__init__#opaque")⟩, ⟨PyData.keyHash P (.ofString "__eq__"), (.str (.ofString "__eq__") 216), (.builtin "_frozen_importlib_external.FileLoader.__eq__#opaque")⟩, ⟨PyData.keyHash P (.ofString "__hash__"), (.str (.ofString "__hash__") 217), (.builtin "_frozen_importlib_external.FileLoader.__hash__#opaque")⟩, ⟨PyData.keyHash P (.ofString "load_module"), (.str (.ofString "load_module") 218), (.builtin "_frozen_importlib_external.FileLoader.load_module#opaque")⟩, ⟨PyData.keyHash P (.ofString "get_filename"), (.str (.ofString "get_filename") 219), (.builtin "_frozen_importlib_external.FileLoader.get_filename#opaque")⟩, ⟨PyData.keyHash P (.ofString "get_data"), (.str (.ofString "get_data") 220), (.builtin "_frozen_importlib_external.FileLoader.get_data#opaque")⟩, ⟨PyData.keyHash P (.ofString "get_resource_reader"), (.str (.ofString "get_resource_reader") 221), (.builtin "_frozen_importlib_external.FileLoader.get_resource_reader#opaque")⟩, ⟨PyData.keyHash P (.ofString "__static_attributes__"), (.str (.ofString "__static_attributes__") 222), (.ref 23)⟩, ⟨PyData.keyHash P (.ofString "__dict__"), (.str (.ofString "__dict__") 224), (.ref 24)⟩, ⟨PyData.keyHash P (.ofString "__weakref__"), (.str (.ofString "__weakref__") 226), (.ref 25)⟩] 13), #[]⟩
def o22_s0 (P : Params) : Obj := ⟨(.type "type"), none, (.cls ⟨(.ofString "FileLoader"), [(.type "object")], [(.ref 22), (.type "object")], 21, (.ofString "FileLoader"), true, [], [(.ref 27)], false, none, false⟩), #[]⟩
def o23_s0 (P : Params) : Obj := ⟨(.type "tuple"), none, (.seq #[(.str (.ofString "name") 210), (.str (.ofString "path") 211)] 0), #[]⟩
def o24_s0 (P : Params) : Obj := ⟨(.type "getset_descriptor"), none, (.fields #[(.str (.ofString "__dict__") 223), (.ref 22), (.builtin "function.__dict__"), (.builtin "function.__dict__#set")]), #[]⟩
def o25_s0 (P : Params) : Obj := ⟨(.type "getset_descriptor"), none, (.fields #[(.str (.ofString "__weakref__") 225), (.ref 22), (.builtin "ExceptionGroup.__weakref__"), .none]), #[]⟩
def o26_s0 (P : Params) : Obj := ⟨(.type "dict"), none, (.dict #[⟨PyData.keyHash P (.ofString "__module__"), (.str (.ofString "__module__") 233), (.str (.ofString "_frozen_importlib_external") 229)⟩, ⟨PyData.keyHash P (.ofString "__firstlineno__"), (.str (.ofString "__firstlineno__") 234), (.int 1296 230)⟩, ⟨PyData.keyHash P (.ofString "__doc__"), (.str (.ofString "__doc__") 235), (.builtin "_frozen_importlib_external.ExtensionFileLoader.__doc__:str#opaque")⟩, ⟨PyData.keyHash P (.ofString "__init__"), (.str (.ofString "__init__") 236), (.builtin "_frozen_importlib_external.ExtensionFileLoader.__init__#opaque")⟩, ⟨PyData.keyHash P (.ofString "__eq__"), (.str (.ofString "__eq__") 237), (.builtin "_frozen_importlib_external.ExtensionFileLoader.__eq__#opaque")⟩, ⟨PyData.keyHash P (.ofString "__hash__"), (.str (.ofString "__hash__") 238), (.builtin "_frozen_importlib_external.ExtensionFileLoader.__hash__#opaque")⟩, ⟨PyData.keyHash P (.ofString "create_module"), (.str (.ofString "create_module") 239), (.builtin "_frozen_importlib_external.ExtensionFileLoader.create_module#opaque")⟩, ⟨PyData.keyHash P (.ofString "exec_module"), (.str (.ofString "exec_module") 240), (.builtin "_frozen_importlib_external.ExtensionFileLoader.exec_module#opaque")⟩, ⟨PyData.keyHash P (.ofString "is_package"), (.str (.ofString "is_package") 241), (.builtin "_frozen_importlib_external.ExtensionFileLoader.is_package#opaque")⟩, ⟨PyData.keyHash P (.ofString "get_code"), (.str (.ofString "get_code") 242), (.builtin "_frozen_importlib_external.ExtensionFileLoader.get_code#opaque")⟩, ⟨PyData.keyHash P (.ofString "get_source"), (.str (.ofString "get_source") 243), (.builtin "_frozen_importlib_external.ExtensionFileLoader.get_source#opaque")⟩, ⟨PyData.keyHash P (.ofString "get_filename"), (.str (.ofString "get_filename") 244), (.builtin "_frozen_importlib_external.ExtensionFileLoader.get_filename#opaque")⟩, ⟨PyData.keyHash P (.ofString "__static_attributes__"), (.str (.ofString "__static_attributes__") 245), (.ref 28)⟩] 13), #[]⟩
def o27_s0 (P : Params) : Obj := ⟨(.type "type"), none, (.cls ⟨(.ofString "ExtensionFileLoader"), [(.ref 22), (.ref 16)], [(.ref 27), (.ref 22), (.ref 16), (.type "object")], 26, (.ofString "ExtensionFileLoader"), true, [], [], false, none, false⟩), #[]⟩
def o28_s0 (P : Params) : Obj := ⟨(.type "tuple"), none, (.seq #[(.str (.ofString "name") 231), (.str (.ofString "path") 232)] 0), #[]⟩
def o29_s0 (P : Params) : Obj := ⟨(.ref 27), (some 14), .plain, #[]⟩
def o30_s0 (P : Params) : Obj := ⟨(.type "list"), none, (.seq #[] 0), #[]⟩
def o31_s0 (P : Params) : Obj := ⟨(.type "dict"), none, (.dict #[⟨PyData.keyHash P (.ofString "name"), (.str (.ofString "name") 248), (.str (.ofString "_struct") 247)⟩, ⟨PyData.keyHash P (.ofString "loader"), (.str (.ofString "loader") 249), (.ref 29)⟩, ⟨PyData.keyHash P (.ofString "origin"), (.str (.ofString "origin") 250), (.str (.ofString "/nix/store/wj1f56qky4pmjc7l0r6b6l7whnnw7hp6-python3-3.13.15/lib/python3.13/lib-dynload/_struct.cpython-313-x86_64-linux-gnu.so") 186)⟩, ⟨PyData.keyHash P (.ofString "loader_state"), (.str (.ofString "loader_state") 251), .none⟩, ⟨PyData.keyHash P (.ofString "submodule_search_locations"), (.str (.ofString "submodule_search_locations") 252), .none⟩, ⟨PyData.keyHash P (.ofString "_uninitialized_submodules"), (.str (.ofString "_uninitialized_submodules") 253), (.ref 30)⟩, ⟨PyData.keyHash P (.ofString "_set_fileattr"), (.str (.ofString "_set_fileattr") 254), (.bool true)⟩, ⟨PyData.keyHash P (.ofString "_cached"), (.str (.ofString "_cached") 255), .none⟩, ⟨PyData.keyHash P (.ofString "_initializing"), (.str (.ofString "_initializing") 283), (.bool false)⟩] 9), #[]⟩
def o32_s0 (P : Params) : Obj := ⟨(.type "dict"), none, (.dict #[⟨PyData.keyHash P (.ofString "__module__"), (.str (.ofString "__module__") 267), (.str (.ofString "_frozen_importlib") 257)⟩, ⟨PyData.keyHash P (.ofString "__firstlineno__"), (.str (.ofString "__firstlineno__") 268), (.int 562 258)⟩, ⟨PyData.keyHash P (.ofString "__doc__"), (.str (.ofString "__doc__") 269), (.builtin "_frozen_importlib.ModuleSpec.__doc__:str#opaque")⟩, ⟨PyData.keyHash P (.ofString "__init__"), (.str (.ofString "__init__") 270), (.builtin "_frozen_importlib.ModuleSpec.__init__#opaque")⟩, ⟨PyData.keyHash P (.ofString "__repr__"), (.str (.ofString "__repr__") 271), (.builtin "_frozen_importlib.ModuleSpec.__repr__#opaque")⟩, ⟨PyData.keyHash P (.ofString "__eq__"), (.str (.ofString "__eq__") 272), (.builtin "_frozen_importlib.ModuleSpec.__eq__#opaque")⟩, ⟨PyData.keyHash P (.ofString "cached"), (.str (.ofString "cached") 273), (.builtin "_frozen_importlib.ModuleSpec.cached#opaque")⟩, ⟨PyData.keyHash P (.ofString "parent"), (.str (.ofString "parent") 274), (.builtin "_frozen_importlib.ModuleSpec.parent#opaque")⟩, ⟨PyData.keyHash P (.ofString "has_location"), (.str (.ofString "has_location") 275), (.builtin "_frozen_importlib.ModuleSpec.has_location#opaque")⟩, ⟨PyData.keyHash P (.ofString "__static_attributes__"), (.str (.ofString "__static_attributes__") 276), (.ref 34)⟩, ⟨PyData.keyHash P (.ofString "__dict__"), (.str (.ofString "__dict__") 278), (.ref 35)⟩, ⟨PyData.keyHash P (.ofString "__weakref__"), (.str (.ofString "__weakref__") 280), (.ref 36)⟩, ⟨PyData.keyHash P (.ofString "__hash__"), (.str (.ofString "__hash__") 281), .none⟩] 13), #[]⟩
def o33_s0 (P : Params) : Obj := ⟨(.type "type"), none, (.cls ⟨(.ofString "ModuleSpec"), [(.type "object")], [(.ref 33), (.type "object")], 32, (.ofString "ModuleSpec"), true, [], [], false, none, false⟩), #[]⟩
def o34_s0 (P : Params) : Obj := ⟨(.type "tuple"), none, (.seq #[(.str (.ofString "_cached") 259), (.str (.ofString "_set_fileattr") 260), (.str (.ofString "_uninitialized_submodules") 261), (.str (.ofString "loader") 262), (.str (.ofString "loader_state") 263), (.str (.ofString "name") 264), (.str (.ofString "origin") 265), (.str (.ofString "submodule_search_locations") 266)] 0), #[]⟩
def o35_s0 (P : Params) : Obj := ⟨(.type "getset_descriptor"), none, (.fields #[(.str (.ofString "__dict__") 277), (.ref 33), (.builtin "function.__dict__"), (.builtin "function.__dict__#set")]), #[]⟩
def o36_s0 (P : Params) : Obj := ⟨(.type "getset_descriptor"), none, (.fields #[(.str (.ofString "__weakref__") 279), (.ref 33), (.builtin "ExceptionGroup.__weakref__"), .none]), #[]⟩
def o37_s0 (P : Params) : Obj := ⟨(.ref 33), (some 31), .plain, #[]⟩
def o38_s0 (P : Params) : Obj := ⟨.none, none, (.seq #[(.int 12 0), (.str (.ofString "\x06\u011f\x08__name__\x06\u011e\x07_struct\x06\u0120\x07__doc__\x09\x1a_struct.__doc__:str#opaque\x06\u0122\x0b__package__\x06\u0121\x00\x06\u0123\x0a__loader__\x04\x00\x00\x1d\x06\u0124\x08__spec__\x04\x00\x00%\x06\u0125\x0b_clearcache\x09\x13_struct._clearcache\x06\u0126\x08calcsize\x09\x10_struct.calcsize\x06\u0127\x0biter_unpack\x09\x13_struct.iter_unpack\x06\u0128\x04pack\x09\x0c_struct.pack\x06\u0129\x09pack_into\x09\x11_struct.pack_into\x06\u012a\x06unpack\x09\x0e_struct.unpack\x06\u012b\x0bunpack_from\x09\x13_struct.unpack_from\x06\u012c\x08__file__\x06\xba~/nix/store/wj1f56qky4pmjc7l0r6b6l7whnnw7hp6-python3-3.13.15/lib/python3.13/lib-dynload/_struct.cpython-313-x86_64-linux-gnu.so\x06\u012d\x06Struct\x08\x0e_struct.Struct\x06\u012f\x05error\x08\x0cstruct.error") 0), (.bool true), (.bool false), (.str (.ofString "_struct") 305)] 0), #[]⟩
def T_s0 (P : Params) : BT := (.node (o0_s0 P) (.node (o1_s0 P) (.node (o3_s0 P) (.node (o7_s0 P) (.node (o15_s0 P) (.node (o31_s0 P) .nil .nil) .nil) (.node (o23_s0 P) .nil .nil)) (.node (o11_s0 P) (.node (o19_s0 P) (.node (o35_s0 P) .nil .nil) .nil) (.node (o27_s0 P) .nil .nil))) (.node (o5_s0 P) (.node (o9_s0 P) (.node (o17_s0 P) (.node (o33_s0 P) .nil .nil) .nil) (.node (o25_s0 P) .nil .nil)) (.node (o13_s0 P) (.node (o21_s0 P) (.node (o37_s0 P) .nil .nil) .nil) (.node (o29_s0 P) .nil .nil)))) (.node (o2_s0 P) (.node (o4_s0 P) (.node (o8_s0 P) (.node (o16_s0 P) (.node (o32_s0 P) .nil .nil) .nil) (.node (o24_s0 P) .nil .nil)) (.node (o12_s0 P) (.node (o20_s0 P) (.node (o36_s0 P) .nil .nil) .nil) (.node (o28_s0 P) .nil .nil))) (.node (o6_s0 P) (.node (o10_s0 P) (.node (o18_s0 P) (.node (o34_s0 P) .nil .nil) .nil) (.node (o26_s0 P) .nil .nil)) (.node (o14_s0 P) (.node (o22_s0 P) (.node (o38_s0 P) .nil .nil) .nil) (.node (o30_s0 P) .nil .nil)))))
def S_s0 (w : World) (os : OsState) : SharedT := ⟨T_s0 w.params, 39, life0, #[], drawn0, 313, os⟩
def o39_sb (P : Params) : Obj := ⟨(.type "tuple"), none, (.seq #[] 0), #[]⟩
def o40_sb (P : Params) : Obj := ⟨.none, none, (.fields #[]), #[]⟩
def o41_sb (P : Params) : Obj := ⟨(.type "code"), none, (.fields #[(.str (.ofString "<module>") 314), (.str (.ofString "<module>") 315), (.str (.ofString "/claim/cut.py") 316), (.int 1 0), (.int 0 0), (.int 0 0), (.int 0 0), (.int 0 0), (.ref 39), (.bool false), (.int 313 0), (.ref 40), .none, .none, .none, .none, (.int 317 0), (.int 1 0), (.str (.ofString "/claim/cut.py") 318)]), #[]⟩
def o42_sb (P : Params) : Obj := ⟨(.type "frame"), none, .plain, #[(some (.ref 41)), (some (.ref 3)), (some (.ref 3)), none, (some (.str (.ofString "__main__") 164)), none, (some (.ref 0))]⟩
def T_sb (P : Params) : BT := (.node (o0_s0 P) (.node (o1_s0 P) (.node (o3_s0 P) (.node (o7_s0 P) (.node (o15_s0 P) (.node (o31_s0 P) .nil .nil) .nil) (.node (o23_s0 P) (.node (o39_sb P) .nil .nil) .nil)) (.node (o11_s0 P) (.node (o19_s0 P) (.node (o35_s0 P) .nil .nil) .nil) (.node (o27_s0 P) .nil .nil))) (.node (o5_s0 P) (.node (o9_s0 P) (.node (o17_s0 P) (.node (o33_s0 P) .nil .nil) .nil) (.node (o25_s0 P) (.node (o41_sb P) .nil .nil) .nil)) (.node (o13_s0 P) (.node (o21_s0 P) (.node (o37_s0 P) .nil .nil) .nil) (.node (o29_s0 P) .nil .nil)))) (.node (o2_s0 P) (.node (o4_s0 P) (.node (o8_s0 P) (.node (o16_s0 P) (.node (o32_s0 P) .nil .nil) .nil) (.node (o24_s0 P) (.node (o40_sb P) .nil .nil) .nil)) (.node (o12_s0 P) (.node (o20_s0 P) (.node (o36_s0 P) .nil .nil) .nil) (.node (o28_s0 P) .nil .nil))) (.node (o6_s0 P) (.node (o10_s0 P) (.node (o18_s0 P) (.node (o34_s0 P) .nil .nil) .nil) (.node (o26_s0 P) (.node (o42_sb P) .nil .nil) .nil)) (.node (o14_s0 P) (.node (o22_s0 P) (.node (o38_s0 P) .nil .nil) .nil) (.node (o30_s0 P) .nil .nil)))))
def S_sb (w : World) (os : OsState) : SharedT := ⟨T_sb w.params, 43, life0, #[], drawn0, 319, os⟩
def o3_s3 (P : Params) : Obj := ⟨(.type "dict"), none, (.dict #[⟨PyData.keyHash P (.ofString "__name__"), (.str (.ofString "__name__") 165), (.str (.ofString "bech32") 326)⟩, ⟨PyData.keyHash P (.ofString "__doc__"), (.str (.ofString "__doc__") 166), .none⟩, ⟨PyData.keyHash P (.ofString "__package__"), (.str (.ofString "__package__") 167), .none⟩, ⟨PyData.keyHash P (.ofString "__loader__"), (.str (.ofString "__loader__") 168), (.builtin "__main__.__loader__#opaque")⟩, ⟨PyData.keyHash P (.ofString "__spec__"), (.str (.ofString "__spec__") 169), .none⟩, ⟨PyData.keyHash P (.ofString "__annotations__"), (.str (.ofString "__annotations__") 170), (.ref 6)⟩, ⟨PyData.keyHash P (.ofString "__builtins__"), (.str (.ofString "__builtins__") 171), (.ref 4)⟩, ⟨PyData.keyHash P (.ofString "__file__"), (.str (.ofString "__file__") 173), (.str (.ofString "/claim/cut.py") 172)⟩, ⟨PyData.keyHash P (.ofString "__cached__"), (.str (.ofString "__cached__") 174), .none⟩, ⟨PyData.keyHash P (.ofString "pack"), (.str (.ofString "pack") 312), (.builtin "_struct.pack")⟩, ⟨PyData.keyHash P (.ofString "_wall"), (.str (.ofString "_wall") 325), (.ref 49)⟩, ⟨PyData.keyHash P (.ofString "CHARSET"), (.str (.ofString "CHARSET") 329), (.str (.ofString "qpzry9x8gf2tvdw0s3jn54khce6mua7l") 328)⟩, ⟨PyData.keyHash P (.ofString "bech32_polymod"), (.str (.ofString "bech32_polymod") 341), (.ref 56)⟩] 13), #[]⟩
def o40_s3 (P : Params) : Obj := ⟨.none, none, (.fields #[(.int 2 0), (.int 0 0), (.ref 48), (.int 7 0), (.int 0 0), (.ref 55)]), #[]⟩
def o43_s3 (P : Params) : Obj := ⟨(.type "tuple"), none, (.seq #[] 0), #[]⟩
def o44_s3 (P : Params) : Obj := ⟨.none, none, (.fields #[]), #[]⟩
def o45_s3 (P : Params) : Obj := ⟨(.type "tuple"), none, (.seq #[(.str (.ofString "k") 322)] 0), #[]⟩
def o46_s3 (P : Params) : Obj := ⟨(.type "tuple"), none, (.seq #[] 0), #[]⟩
def o47_s3 (P : Params) : Obj := ⟨.none, none, (.func ⟨(.ofString "_wall"), (.ofString "_wall"), pA (stA [1]), .stmts (bA (stA [1])), sA (stA [1]), 0, [], .none, .none, .none, .none, none, .none, .none, 0⟩), #[]⟩
def o48_s3 (P : Params) : Obj := ⟨(.type "code"), none, (.fields #[(.str (.ofString "_wall") 319), (.str (.ofString "_wall") 320), (.str (.ofString "/claim/cut.py") 321), (.int 2 0), (.int 1 0), (.int 0 0), (.int 0 0), (.int 3 0), (.ref 43), (.bool true), (.int 313 0), (.ref 44), .none, (.ref 45), (.ref 46), (.ref 47), (.int 323 0), (.int 2 0), (.str (.ofString "/claim/cut.py") 324)]), #[]⟩
def o49_s3 (P : Params) : Obj := ⟨(.type "function"), none, (.func ⟨(.ofString "_wall"), (.ofString "_wall"), pA (stA [1]), .stmts (bA (stA [1])), sA (stA [1]), 3, [], .none, .none, .none, (.str (.ofString "__main__") 164), none, (.ref 48), .none, 0⟩), #[]⟩
def o50_s3 (P : Params) : Obj := ⟨(.type "tuple"), none, (.seq #[] 0), #[]⟩
def o51_s3 (P : Params) : Obj := ⟨.none, none, (.fields #[]), #[]⟩
def o52_s3 (P : Params) : Obj := ⟨(.type "tuple"), none, (.seq #[(.str (.ofString "values") 333), (.str (.ofString "generator") 334), (.str (.ofString "chk") 335), (.str (.ofString "value") 336), (.str (.ofString "top") 337), (.str (.ofString "i") 338)] 0), #[]⟩
def o53_s3 (P : Params) : Obj := ⟨(.type "tuple"), none, (.seq #[] 0), #[]⟩
def o54_s3 (P : Params) : Obj := ⟨.none, none, (.func ⟨(.ofString "bech32_polymod"), (.ofString "bech32_polymod"), pA (stA [4]), .stmts (bA (stA [4])), sA (stA [4]), 0, [], .none, .none, .none, .none, none, .none, .none, 0⟩), #[]⟩
def o55_s3 (P : Params) : Obj := ⟨(.type "code"), none, (.fields #[(.str (.ofString "bech32_polymod") 330), (.str (.ofString "bech32_polymod") 331), (.str (.ofString "/claim/cut.py") 332), (.int 7 0), (.int 1 0), (.int 0 0), (.int 0 0), (.int 3 0), (.ref 50), (.bool true), (.int 313 0), (.ref 51), .none, (.ref 52), (.ref 53), (.ref 54), (.int 339 0), (.int 7 0), (.str (.ofString "/claim/cut.py") 340)]), #[]⟩
def o56_s3 (P : Params) : Obj := ⟨(.type "function"), none, (.func ⟨(.ofString "bech32_polymod"), (.ofString "bech32_polymod"), pA (stA [4]), .stmts (bA (stA [4])), sA (stA [4]), 3, [], .none, .none, .none, (.str (.ofString "bech32") 326), none, (.ref 55), .none, 0⟩), #[]⟩
def T_s3 (P : Params) : BT := (.node (o0_s0 P) (.node (o1_s0 P) (.node (o3_s3 P) (.node (o7_s0 P) (.node (o15_s0 P) (.node (o31_s0 P) .nil .nil) (.node (o47_s3 P) .nil .nil)) (.node (o23_s0 P) (.node (o39_sb P) .nil .nil) (.node (o55_s3 P) .nil .nil))) (.node (o11_s0 P) (.node (o19_s0 P) (.node (o35_s0 P) .nil .nil) (.node (o51_s3 P) .nil .nil)) (.node (o27_s0 P) (.node (o43_s3 P) .nil .nil) .nil))) (.node (o5_s0 P) (.node (o9_s0 P) (.node (o17_s0 P) (.node (o33_s0 P) .nil .nil) (.node (o49_s3 P) .nil .nil)) (.node (o25_s0 P) (.node (o41_sb P) .nil .nil) .nil)) (.node (o13_s0 P) (.node (o21_s0 P) (.node (o37_s0 P) .nil .nil) (.node (o53_s3 P) .nil .nil)) (.node (o29_s0 P) (.node (o45_s3 P) .nil .nil) .nil)))) (.node (o2_s0 P) (.node (o4_s0 P) (.node (o8_s0 P) (.node (o16_s0 P) (.node (o32_s0 P) .nil .nil) (.node (o48_s3 P) .nil .nil)) (.node (o24_s0 P) (.node (o40_s3 P) .nil .nil) (.node (o56_s3 P) .nil .nil))) (.node (o12_s0 P) (.node (o20_s0 P) (.node (o36_s0 P) .nil .nil) (.node (o52_s3 P) .nil .nil)) (.node (o28_s0 P) (.node (o44_s3 P) .nil .nil) .nil))) (.node (o6_s0 P) (.node (o10_s0 P) (.node (o18_s0 P) (.node (o34_s0 P) .nil .nil) (.node (o50_s3 P) .nil .nil)) (.node (o26_s0 P) (.node (o42_sb P) .nil .nil) .nil)) (.node (o14_s0 P) (.node (o22_s0 P) (.node (o38_s0 P) .nil .nil) (.node (o54_s3 P) .nil .nil)) (.node (o30_s0 P) (.node (o46_s3 P) .nil .nil) .nil)))))
def S_s3 (w : World) (os : OsState) : SharedT := ⟨T_s3 w.params, 57, life0, #[], drawn0, 342, os⟩
def o3_s8 (P : Params) : Obj := ⟨(.type "dict"), none, (.dict #[⟨PyData.keyHash P (.ofString "__name__"), (.str (.ofString "__name__") 165), (.str (.ofString "bech32") 326)⟩, ⟨PyData.keyHash P (.ofString "__doc__"), (.str (.ofString "__doc__") 166), .none⟩, ⟨PyData.keyHash P (.ofString "__package__"), (.str (.ofString "__package__") 167), .none⟩, ⟨PyData.keyHash P (.ofString "__loader__"), (.str (.ofString "__loader__") 168), (.builtin "__main__.__loader__#opaque")⟩, ⟨PyData.keyHash P (.ofString "__spec__"), (.str (.ofString "__spec__") 169), .none⟩, ⟨PyData.keyHash P (.ofString "__annotations__"), (.str (.ofString "__annotations__") 170), (.ref 6)⟩, ⟨PyData.keyHash P (.ofString "__builtins__"), (.str (.ofString "__builtins__") 171), (.ref 4)⟩, ⟨PyData.keyHash P (.ofString "__file__"), (.str (.ofString "__file__") 173), (.str (.ofString "/claim/cut.py") 172)⟩, ⟨PyData.keyHash P (.ofString "__cached__"), (.str (.ofString "__cached__") 174), .none⟩, ⟨PyData.keyHash P (.ofString "pack"), (.str (.ofString "pack") 312), (.builtin "_struct.pack")⟩, ⟨PyData.keyHash P (.ofString "_wall"), (.str (.ofString "_wall") 325), (.ref 49)⟩, ⟨PyData.keyHash P (.ofString "CHARSET"), (.str (.ofString "CHARSET") 329), (.str (.ofString "qpzry9x8gf2tvdw0s3jn54khce6mua7l") 328)⟩, ⟨PyData.keyHash P (.ofString "bech32_polymod"), (.str (.ofString "bech32_polymod") 341), (.ref 56)⟩, ⟨PyData.keyHash P (.ofString "bech32_hrp_expand"), (.str (.ofString "bech32_hrp_expand") 347), (.ref 61)⟩, ⟨PyData.keyHash P (.ofString "bech32_verify_checksum"), (.str (.ofString "bech32_verify_checksum") 355), (.ref 68)⟩, ⟨PyData.keyHash P (.ofString "bech32_create_checksum"), (.str (.ofString "bech32_create_checksum") 361), (.ref 73)⟩, ⟨PyData.keyHash P (.ofString "bech32_encode"), (.str (.ofString "bech32_encode") 367), (.ref 78)⟩, ⟨PyData.keyHash P (.ofString "bech32_decode"), (.str (.ofString "bech32_decode") 373), (.ref 83)⟩] 18), #[]⟩
def o40_s8 (P : Params) : Obj := ⟨.none, none, (.fields #[(.int 2 0), (.int 0 0), (.ref 48), (.int 7 0), (.int 0 0), (.ref 55), (.int 16 0), (.int 0 0), (.ref 60), (.int 18 0), (.int 0 0), (.ref 67), (.int 20 0), (.int 0 0), (.ref 72), (.int 24 0), (.int 0 0), (.ref 77), (.int 27 0), (.int 0 0), (.ref 82)]), #[]⟩
def o57_s8 (P : Params) : Obj := ⟨(.type "tuple"), none, (.seq #[] 0), #[]⟩
def o58_s8 (P : Params) : Obj := ⟨.none, none, (.fields #[]), #[]⟩
def o59_s8 (P : Params) : Obj := ⟨.none, none, (.func ⟨(.ofString "bech32_hrp_expand"), (.ofString "bech32_hrp_expand"), pA (stA [5]), .stmts (bA (stA [5])), sA (stA [5]), 0, [], .none, .none, .none, .none, none, .none, .none, 0⟩), #[]⟩
def o60_s8 (P : Params) : Obj := ⟨(.type "code"), none, (.fields #[(.str (.ofString "bech32_hrp_expand") 342), (.str (.ofString "bech32_hrp_expand") 343), (.str (.ofString "/claim/cut.py") 344), (.int 16 0), (.int 1 0), (.int 0 0), (.int 0 0), (.int 3 0), (.ref 57), (.bool true), (.int 313 0), (.ref 58), .none, .none, .none, (.ref 59), (.int 345 0), (.int 16 0), (.str (.ofString "/claim/cut.py") 346)]), #[]⟩
def o61_s8 (P : Params) : Obj := ⟨(.type "function"), none, (.func ⟨(.ofString "bech32_hrp_expand"), (.ofString "bech32_hrp_expand"), pA (stA [5]), .stmts (bA (stA [5])), sA (stA [5]), 3, [], .none, .none, .none, (.str (.ofString "bech32") 326), none, (.ref 60), .none, 0⟩), #[]⟩
def o62_s8 (P : Params) : Obj := ⟨(.type "tuple"), none, (.seq #[] 0), #[]⟩
def o63_s8 (P : Params) : Obj := ⟨.none, none, (.fields #[]), #[]⟩
def o64_s8 (P : Params) : Obj := ⟨(.type "tuple"), none, (.seq #[(.str (.ofString "hrp") 351), (.str (.ofString "data") 352)] 0), #[]⟩
def o65_s8 (P : Params) : Obj := ⟨(.type "tuple"), none, (.seq #[] 0), #[]⟩
def o66_s8 (P : Params) : Obj := ⟨.none, none, (.func ⟨(.ofString "bech32_verify_checksum"), (.ofString "bech32_verify_checksum"), pA (stA [6]), .stmts (bA (stA [6])), sA (stA [6]), 0, [], .none, .none, .none, .none, none, .none, .none, 0⟩), #[]⟩
def o67_s8 (P : Params) : Obj := ⟨(.type "code"), none, (.fields #[(.str (.ofString "bech32_verify_checksum") 348), (.str (.ofString "bech32_verify_checksum") 349), (.str (.ofString "/claim/cut.py") 350), (.int 18 0), (.int 2 0), (.int 0 0), (.int 0 0), (.int 3 0), (.ref 62), (.bool true), (.int 313 0), (.ref 63), .none, (.ref 64), (.ref 65), (.ref 66), (.int 353 0), (.int 18 0), (.str (.ofString "/claim/cut.py") 354)]), #[]⟩
def o68_s8 (P : Params) : Obj := ⟨(.type "function"), none, (.func ⟨(.ofString "bech32_verify_checksum"), (.ofString "bech32_verify_checksum"), pA (stA [6]), .stmts (bA (stA [6])), sA (stA [6]), 3, [], .none, .none, .none, (.str (.ofString "bech32") 326), none, (.ref 67), .none, 0⟩), #[]⟩
def o69_s8 (P : Params) : Obj := ⟨(.type "tuple"), none, (.seq #[] 0), #[]⟩
def o70_s8 (P : Params) : Obj := ⟨.none, none, (.fields #[]), #[]⟩
def o71_s8 (P : Params) : Obj := ⟨.none, none, (.func ⟨(.ofString "bech32_create_checksum"), (.ofString "bech32_create_checksum"), pA (stA [7]), .stmts (bA (stA [7])), sA (stA [7]), 0, [], .none, .none, .none, .none, none, .none, .none, 0⟩), #[]⟩
def o72_s8 (P : Params) : Obj := ⟨(.type "code"), none, (.fields #[(.str (.ofString "bech32_create_checksum") 356), (.str (.ofString "bech32_create_checksum") 357), (.str (.ofString "/claim/cut.py") 358), (.int 20 0), (.int 2 0), (.int 0 0), (.int 0 0), (.int 3 0), (.ref 69), (.bool true), (.int 313 0), (.ref 70), .none, .none, .none, (.ref 71), (.int 359 0), (.int 20 0), (.str (.ofString "/claim/cut.py") 360)]), #[]⟩
def o73_s8 (P : Params) : Obj := ⟨(.type "function"), none, (.func ⟨(.ofString "bech32_create_checksum"), (.ofString "bech32_create_checksum"), pA (stA [7]), .stmts (bA (stA [7])), sA (stA [7]), 3, [], .none, .none, .none, (.str (.ofString "bech32") 326), none, (.ref 72), .none, 0⟩), #[]⟩
def o74_s8 (P : Params) : Obj := ⟨(.type "tuple"), none, (.seq #[] 0), #[]⟩
def o75_s8 (P : Params) : Obj := ⟨.none, none, (.fields #[]), #[]⟩
def o76_s8 (P : Params) : Obj := ⟨.none, none, (.func ⟨(.ofString "bech32_encode"), (.ofString "bech32_encode"), pA (stA [8]), .stmts (bA (stA [8])), sA (stA [8]), 0, [], .none, .none, .none, .none, none, .none, .none, 0⟩), #[]⟩
def o77_s8 (P : Params) : Obj := ⟨(.type "code"), none, (.fields #[(.str (.ofString "bech32_encode") 362), (.str (.ofString "bech32_encode") 363), (.str (.ofString "/claim/cut.py") 364), (.int 24 0), (.int 2 0), (.int 0 0), (.int 0 0), (.int 3 0), (.ref 74), (.bool true), (.int 313 0), (.ref 75), .none, .none, .none, (.ref 76), (.int 365 0), (.int 24 0), (.str (.ofString "/claim/cut.py") 366)]), #[]⟩
def o78_s8 (P : Params) : Obj := ⟨(.type "function"), none, (.func ⟨(.ofString "bech32_encode"), (.ofString "bech32_encode"), pA (stA [8]), .stmts (bA (stA [8])), sA (stA [8]), 3, [], .none, .none, .none, (.str (.ofString "bech32") 326), none, (.ref 77), .none, 0⟩), #[]⟩
def o79_s8 (P : Params) : Obj := ⟨(.type "tuple"), none, (.seq #[] 0), #[]⟩
def o80_s8 (P : Params) : Obj := ⟨.none, none, (.fields #[]), #[]⟩
def o81_s8 (P : Params) : Obj := ⟨.none, none, (.func ⟨(.ofString "bech32_decode"), (.ofString "bech32_decode"), pA (stA [9]), .stmts (bA (stA [9])), sA (stA [9]), 0, [], .none, .none, .none, .none, none, .none, .none, 0⟩), #[]⟩
def o82_s8 (P : Params) : Obj := ⟨(.type "code"), none, (.fields #[(.str (.ofString "bech32_decode") 368), (.str (.ofString "bech32_decode") 369), (.str (.ofString "/claim/cut.py") 370), (.int 27 0), (.int 1 0), (.int 0 0), (.int 0 0), (.int 3 0), (.ref 79), (.bool true), (.int 313 0), (.ref 80), .none, .none, .none, (.ref 81), (.int 371 0), (.int 27 0), (.str (.ofString "/claim/cut.py") 372)]), #[]⟩
def o83_s8 (P : Params) : Obj := ⟨(.type "function"), none, (.func ⟨(.ofString "bech32_decode"), (.ofString "bech32_decode"), pA (stA [9]), .stmts (bA (stA [9])), sA (stA [9]), 3, [], .none, .none, .none, (.str (.ofString "bech32") 326), none, (.ref 82), .none, 0⟩), #[]⟩
def T_s8 (P : Params) : BT := (.node (o0_s0 P) (.node (o1_s0 P) (.node (o3_s8 P) (.node (o7_s0 P) (.node (o15_s0 P) (.node (o31_s0 P) (.node (o63_s8 P) .nil .nil) .nil) (.node (o47_s3 P) (.node (o79_s8 P) .nil .nil) .nil)) (.node (o23_s0 P) (.node (o39_sb P) (.node (o71_s8 P) .nil .nil) .nil) (.node (o55_s3 P) .nil .nil))) (.node (o11_s0 P) (.node (o19_s0 P) (.node (o35_s0 P) (.node (o67_s8 P) .nil .nil) .nil) (.node (o51_s3 P) (.node (o83_s8 P) .nil .nil) .nil)) (.node (o27_s0 P) (.node (o43_s3 P) (.node (o75_s8 P) .nil .nil) .nil) (.node (o59_s8 P) .nil .nil)))) (.node (o5_s0 P) (.node (o9_s0 P) (.node (o17_s0 P) (.node (o33_s0 P) (.node (o65_s8 P) .nil .nil) .nil) (.node (o49_s3 P) (.node (o81_s8 P) .nil .nil) .nil)) (.node (o25_s0 P) (.node (o41_sb P) (.node (o73_s8 P) .nil .nil) .nil) (.node (o57_s8 P) .nil .nil))) (.node (o13_s0 P) (.node (o21_s0 P) (.node (o37_s0 P) (.node (o69_s8 P) .nil .nil) .nil) (.node (o53_s3 P) .nil .nil)) (.node (o29_s0 P) (.node (o45_s3 P) (.node (o77_s8 P) .nil .nil) .nil) (.node (o61_s8 P) .nil .nil))))) (.node (o2_s0 P) (.node (o4_s0 P) (.node (o8_s0 P) (.node (o16_s0 P) (.node (o32_s0 P) (.node (o64_s8 P) .nil .nil) .nil) (.node (o48_s3 P) (.node (o80_s8 P) .nil .nil) .nil)) (.node (o24_s0 P) (.node (o40_s8 P) (.node (o72_s8 P) .nil .nil) .nil) (.node (o56_s3 P) .nil .nil))) (.node (o12_s0 P) (.node (o20_s0 P) (.node (o36_s0 P) (.node (o68_s8 P) .nil .nil) .nil) (.node (o52_s3 P) .nil .nil)) (.node (o28_s0 P) (.node (o44_s3 P) (.node (o76_s8 P) .nil .nil) .nil) (.node (o60_s8 P) .nil .nil)))) (.node (o6_s0 P) (.node (o10_s0 P) (.node (o18_s0 P) (.node (o34_s0 P) (.node (o66_s8 P) .nil .nil) .nil) (.node (o50_s3 P) (.node (o82_s8 P) .nil .nil) .nil)) (.node (o26_s0 P) (.node (o42_sb P) (.node (o74_s8 P) .nil .nil) .nil) (.node (o58_s8 P) .nil .nil))) (.node (o14_s0 P) (.node (o22_s0 P) (.node (o38_s0 P) (.node (o70_s8 P) .nil .nil) .nil) (.node (o54_s3 P) .nil .nil)) (.node (o30_s0 P) (.node (o46_s3 P) (.node (o78_s8 P) .nil .nil) .nil) (.node (o62_s8 P) .nil .nil))))))
def S_s8 (w : World) (os : OsState) : SharedT := ⟨T_s8 w.params, 84, life0, #[], drawn0, 374, os⟩
def o2_s11 (P : Params) : Obj := ⟨.none, none, (.dict #[⟨PyData.keyHash P (.ofString "\x69mport.loaded._struct"), (.str (.ofString "\x69mport.loaded._struct") 185), (.bool true)⟩, ⟨PyData.keyHash P (.ofString "class._frozen_importlib_external._LoaderBasics"), (.str (.ofString "class._frozen_importlib_external._LoaderBasics") 190), (.ref 16)⟩, ⟨PyData.keyHash P (.ofString "watched.\x69mport"), (.str (.ofString "watched.\x69mport") 206), (.ref 20)⟩, ⟨PyData.keyHash P (.ofString "class._frozen_importlib_external.FileLoader"), (.str (.ofString "class._frozen_importlib_external.FileLoader") 207), (.ref 22)⟩, ⟨PyData.keyHash P (.ofString "class._frozen_importlib_external.ExtensionFileLoader"), (.str (.ofString "class._frozen_importlib_external.ExtensionFileLoader") 228), (.ref 27)⟩, ⟨PyData.keyHash P (.ofString "class._frozen_importlib.ModuleSpec"), (.str (.ofString "class._frozen_importlib.ModuleSpec") 256), (.ref 33)⟩, ⟨PyData.keyHash P (.ofString "sys.modules.booked-epoch"), (.str (.ofString "sys.modules.booked-epoch") 285), (.int 3 0)⟩, ⟨PyData.keyHash P (.ofString "class.struct.error"), (.str (.ofString "class.struct.error") 302), (.type "struct.error")⟩, ⟨PyData.keyHash P (.ofString "\x69mport.later-laid._struct"), (.str (.ofString "\x69mport.later-laid._struct") 304), (.bool true)⟩, ⟨PyData.keyHash P (.ofString "watched.library"), (.str (.ofString "watched.library") 306), (.ref 38)⟩, ⟨PyData.keyHash P (.ofString "watched.library-objects"), (.str (.ofString "watched.library-objects") 0), (.str (.ofString "\x0d") 0)⟩, ⟨PyData.keyHash P (.ofString "type.__subclasses__.Exception.0"), (.str (.ofString "type.__subclasses__.Exception.0") 408), (.int 101 0)⟩, ⟨PyData.keyHash P (.ofString "type.__subclasses__.Exception.n"), (.str (.ofString "type.__subclasses__.Exception.n") 409), (.int 1 0)⟩] 13), #[]⟩
def o3_s11 (P : Params) : Obj := ⟨(.type "dict"), none, (.dict #[⟨PyData.keyHash P (.ofString "__name__"), (.str (.ofString "__name__") 165), (.str (.ofString "rlp.exceptions") 390)⟩, ⟨PyData.keyHash P (.ofString "__doc__"), (.str (.ofString "__doc__") 166), .none⟩, ⟨PyData.keyHash P (.ofString "__package__"), (.str (.ofString "__package__") 167), .none⟩, ⟨PyData.keyHash P (.ofString "__loader__"), (.str (.ofString "__loader__") 168), (.builtin "__main__.__loader__#opaque")⟩, ⟨PyData.keyHash P (.ofString "__spec__"), (.str (.ofString "__spec__") 169), .none⟩, ⟨PyData.keyHash P (.ofString "__annotations__"), (.str (.ofString "__annotations__") 170), (.ref 6)⟩, ⟨PyData.keyHash P (.ofString "__builtins__"), (.str (.ofString "__builtins__") 171), (.ref 4)⟩, ⟨PyData.keyHash P (.ofString "__file__"), (.str (.ofString "__file__") 173), (.str (.ofString "/claim/cut.py") 172)⟩, ⟨PyData.keyHash P (.ofString "__cached__"), (.str (.ofString "__cached__") 174), .none⟩, ⟨PyData.keyHash P (.ofString "pack"), (.str (.ofString "pack") 312), (.builtin "_struct.pack")⟩, ⟨PyData.keyHash P (.ofString "_wall"), (.str (.ofString "_wall") 325), (.ref 49)⟩, ⟨PyData.keyHash P (.ofString "CHARSET"), (.str (.ofString "CHARSET") 329), (.str (.ofString "qpzry9x8gf2tvdw0s3jn54khce6mua7l") 328)⟩, ⟨PyData.keyHash P (.ofString "bech32_polymod"), (.str (.ofString "bech32_polymod") 341), (.ref 56)⟩, ⟨PyData.keyHash P (.ofString "bech32_hrp_expand"), (.str (.ofString "bech32_hrp_expand") 347), (.ref 61)⟩, ⟨PyData.keyHash P (.ofString "bech32_verify_checksum"), (.str (.ofString "bech32_verify_checksum") 355), (.ref 68)⟩, ⟨PyData.keyHash P (.ofString "bech32_create_checksum"), (.str (.ofString "bech32_create_checksum") 361), (.ref 73)⟩, ⟨PyData.keyHash P (.ofString "bech32_encode"), (.str (.ofString "bech32_encode") 367), (.ref 78)⟩, ⟨PyData.keyHash P (.ofString "bech32_decode"), (.str (.ofString "bech32_decode") 373), (.ref 83)⟩, ⟨PyData.keyHash P (.ofString "convertbits"), (.str (.ofString "convertbits") 389), (.ref 91)⟩, ⟨PyData.keyHash P (.ofString "RLPException"), (.str (.ofString "RLPException") 411), (.ref 101)⟩] 20), #[]⟩
def o40_s11 (P : Params) : Obj := ⟨.none, none, (.fields #[(.int 2 0), (.int 0 0), (.ref 48), (.int 7 0), (.int 0 0), (.ref 55), (.int 16 0), (.int 0 0), (.ref 60), (.int 18 0), (.int 0 0), (.ref 67), (.int 20 0), (.int 0 0), (.ref 72), (.int 24 0), (.int 0 0), (.ref 77), (.int 27 0), (.int 0 0), (.ref 82), (.int 41 0), (.int 0 0), (.ref 90), (.int 62 0), (.int 0 0), (.ref 97)]), #[]⟩
def o84_s11 (P : Params) : Obj := ⟨(.type "tuple"), none, (.seq #[(.bool true)] 0), #[]⟩
def o85_s11 (P : Params) : Obj := ⟨(.type "tuple"), none, (.seq #[] 0), #[]⟩
def o86_s11 (P : Params) : Obj := ⟨.none, none, (.fields #[]), #[]⟩
def o87_s11 (P : Params) : Obj := ⟨(.type "tuple"), none, (.seq #[(.str (.ofString "data") 377), (.str (.ofString "frombits") 378), (.str (.ofString "tobits") 379), (.str (.ofString "pad") 380), (.str (.ofString "acc") 381), (.str (.ofString "bits") 382), (.str (.ofString "ret") 383), (.str (.ofString "maxv") 384), (.str (.ofString "max_acc") 385), (.str (.ofString "value") 386)] 0), #[]⟩
def o88_s11 (P : Params) : Obj := ⟨(.type "tuple"), none, (.seq #[] 0), #[]⟩
def o89_s11 (P : Params) : Obj := ⟨.none, none, (.func ⟨(.ofString "convertbits"), (.ofString "convertbits"), pA (stA [10]), .stmts (bA (stA [10])), sA (stA [10]), 0, [], .none, .none, .none, .none, none, .none, .none, 0⟩), #[]⟩
def o90_s11 (P : Params) : Obj := ⟨(.type "code"), none, (.fields #[(.str (.ofString "convertbits") 374), (.str (.ofString "convertbits") 375), (.str (.ofString "/claim/cut.py") 376), (.int 41 0), (.int 4 0), (.int 0 0), (.int 0 0), (.int 3 0), (.ref 85), (.bool true), (.int 313 0), (.ref 86), .none, (.ref 87), (.ref 88), (.ref 89), (.int 387 0), (.int 41 0), (.str (.ofString "/claim/cut.py") 388)]), #[]⟩
def o91_s11 (P : Params) : Obj := ⟨(.type "function"), none, (.func ⟨(.ofString "convertbits"), (.ofString "convertbits"), pA (stA [10]), .stmts (bA (stA [10])), sA (stA [10]), 3, [], (.ref 84), .none, .none, (.str (.ofString "bech32") 326), none, (.ref 90), .none, 0⟩), #[]⟩
def o92_s11 (P : Params) : Obj := ⟨(.type "tuple"), none, (.seq #[(.type "Exception")] 0), #[]⟩
def o93_s11 (P : Params) : Obj := ⟨(.type "builtin_function_or_method"), none, (.fields #[(.builtin "type.__prepare__"), (.type "type")]), #[]⟩
def o94_s11 (P : Params) : Obj := ⟨(.type "dict"), none, (.dict #[⟨PyData.keyHash P (.ofString "__module__"), (.str (.ofString "__module__") 399), (.str (.ofString "rlp.exceptions") 390)⟩, ⟨PyData.keyHash P (.ofString "__qualname__"), (.str (.ofString "__qualname__") 401), (.str (.ofString "RLPException") 400)⟩, ⟨PyData.keyHash P (.ofString "__firstlineno__"), (.str (.ofString "__firstlineno__") 403), (.int 62 402)⟩, ⟨PyData.keyHash P (.ofString "__static_attributes__"), (.str (.ofString "__static_attributes__") 404), (.ref 99)⟩] 4), #[]⟩
def o95_s11 (P : Params) : Obj := ⟨(.type "tuple"), none, (.seq #[] 0), #[]⟩
def o96_s11 (P : Params) : Obj := ⟨.none, none, (.fields #[]), #[]⟩
def o97_s11 (P : Params) : Obj := ⟨(.type "code"), none, (.fields #[(.str (.ofString "RLPException") 394), (.str (.ofString "RLPException") 395), (.str (.ofString "/claim/cut.py") 396), (.int 62 0), (.int 0 0), (.int 0 0), (.int 0 0), (.int 0 0), (.ref 95), (.bool false), (.int 313 0), (.ref 96), .none, .none, .none, .none, (.int 397 0), (.int 62 0), (.str (.ofString "/claim/cut.py") 398)]), #[]⟩
def o98_s11 (P : Params) : Obj := ⟨(.type "frame"), none, .plain, #[(some (.ref 97)), (some (.ref 3)), (some (.ref 94)), none, (some (.str (.ofString "rlp.exceptions") 390)), none, (some (.ref 0))]⟩
def o99_s11 (P : Params) : Obj := ⟨(.type "tuple"), none, (.seq #[] 0), #[]⟩
def o100_s11 (P : Params) : Obj := ⟨(.type "dict"), none, (.dict #[⟨PyData.keyHash P (.ofString "__module__"), (.str (.ofString "__module__") 399), (.str (.ofString "rlp.exceptions") 390)⟩, ⟨PyData.keyHash P (.ofString "__firstlineno__"), (.str (.ofString "__firstlineno__") 403), (.int 62 402)⟩, ⟨PyData.keyHash P (.ofString "__static_attributes__"), (.str (.ofString "__static_attributes__") 404), (.ref 99)⟩, ⟨PyData.keyHash P (.ofString "__weakref__"), (.str (.ofString "__weakref__") 406), (.ref 102)⟩, ⟨PyData.keyHash P (.ofString "__doc__"), (.str (.ofString "__doc__") 407), .none⟩] 3), #[]⟩
def o101_s11 (P : Params) : Obj := ⟨(.type "type"), none, (.cls ⟨(.ofString "RLPException"), [(.type "Exception")], [(.ref 101), (.type "Exception"), (.type "BaseException"), (.type "object")], 100, (.ofString "RLPException"), true, [], [], false, none, false⟩), #[(some (.ref 92)), none, (some (.str (.ofString "RLPException") 392)), (some (.str (.ofString "RLPException") 400)), (some (.builtin "Exception.__new__")), (some (.bool true))]⟩
def o102_s11 (P : Params) : Obj := ⟨(.type "getset_descriptor"), none, (.fields #[(.str (.ofString "__weakref__") 405), (.ref 101), (.builtin "ExceptionGroup.__weakref__"), .none]), #[]⟩
def o103_s11 (P : Params) : Obj := ⟨(.type "super"), none, (.fields #[(.ref 101), (.ref 101), (.ref 101)]), #[]⟩
def o104_s11 (P : Params) : Obj := ⟨(.type "builtin_function_or_method"), none, (.fields #[(.builtin "object.__init_subclass__"), (.ref 101)]), #[]⟩
def T_s11 (P : Params) : BT := (.node (o0_s0 P) (.node (o1_s0 P) (.node (o3_s11 P) (.node (o7_s0 P) (.node (o15_s0 P) (.node (o31_s0 P) (.node (o63_s8 P) .nil .nil) (.node (o95_s11 P) .nil .nil)) (.node (o47_s3 P) (.node (o79_s8 P) .nil .nil) .nil)) (.node (o23_s0 P) (.node (o39_sb P) (.node (o71_s8 P) .nil .nil) (.node (o103_s11 P) .nil .nil)) (.node (o55_s3 P) (.node (o87_s11 P) .nil .nil) .nil))) (.node (o11_s0 P) (.node (o19_s0 P) (.node (o35_s0 P) (.node (o67_s8 P) .nil .nil) (.node (o99_s11 P) .nil .nil)) (.node (o51_s3 P) (.node (o83_s8 P) .nil .nil) .nil)) (.node (o27_s0 P) (.node (o43_s3 P) (.node (o75_s8 P) .nil .nil) .nil) (.node (o59_s8 P) (.node (o91_s11 P) .nil .nil) .nil)))) (.node (o5_s0 P) (.node (o9_s0 P) (.node (o17_s0 P) (.node (o33_s0 P) (.node (o65_s8 P) .nil .nil) (.node (o97_s11 P) .nil .nil)) (.node (o49_s3 P) (.node (o81_s8 P) .nil .nil) .nil)) (.node (o25_s0 P) (.node (o41_sb P) (.node (o73_s8 P) .nil .nil) .nil) (.node (o57_s8 P) (.node (o89_s11 P) .nil .nil) .nil))) (.node (o13_s0 P) (.node (o21_s0 P) (.node (o37_s0 P) (.node (o69_s8 P) .nil .nil) (.node (o101_s11 P) .nil .nil)) (.node (o53_s3 P) (.node (o85_s11 P) .nil .nil) .nil)) (.node (o29_s0 P) (.node (o45_s3 P) (.node (o77_s8 P) .nil .nil) .nil) (.node (o61_s8 P) (.node (o93_s11 P) .nil .nil) .nil))))) (.node (o2_s11 P) (.node (o4_s0 P) (.node (o8_s0 P) (.node (o16_s0 P) (.node (o32_s0 P) (.node (o64_s8 P) .nil .nil) (.node (o96_s11 P) .nil .nil)) (.node (o48_s3 P) (.node (o80_s8 P) .nil .nil) .nil)) (.node (o24_s0 P) (.node (o40_s11 P) (.node (o72_s8 P) .nil .nil) (.node (o104_s11 P) .nil .nil)) (.node (o56_s3 P) (.node (o88_s11 P) .nil .nil) .nil))) (.node (o12_s0 P) (.node (o20_s0 P) (.node (o36_s0 P) (.node (o68_s8 P) .nil .nil) (.node (o100_s11 P) .nil .nil)) (.node (o52_s3 P) (.node (o84_s11 P) .nil .nil) .nil)) (.node (o28_s0 P) (.node (o44_s3 P) (.node (o76_s8 P) .nil .nil) .nil) (.node (o60_s8 P) (.node (o92_s11 P) .nil .nil) .nil)))) (.node (o6_s0 P) (.node (o10_s0 P) (.node (o18_s0 P) (.node (o34_s0 P) (.node (o66_s8 P) .nil .nil) (.node (o98_s11 P) .nil .nil)) (.node (o50_s3 P) (.node (o82_s8 P) .nil .nil) .nil)) (.node (o26_s0 P) (.node (o42_sb P) (.node (o74_s8 P) .nil .nil) .nil) (.node (o58_s8 P) (.node (o90_s11 P) .nil .nil) .nil))) (.node (o14_s0 P) (.node (o22_s0 P) (.node (o38_s0 P) (.node (o70_s8 P) .nil .nil) (.node (o102_s11 P) .nil .nil)) (.node (o54_s3 P) (.node (o86_s11 P) .nil .nil) .nil)) (.node (o30_s0 P) (.node (o46_s3 P) (.node (o78_s8 P) .nil .nil) .nil) (.node (o62_s8 P) (.node (o94_s11 P) .nil .nil) .nil))))))
def S_s11 (w : World) (os : OsState) : SharedT := ⟨T_s11 w.params, 105, life0, #[], drawn0, 412, os⟩
def o3_s12 (P : Params) : Obj := ⟨(.type "dict"), none, (.dict #[⟨PyData.keyHash P (.ofString "__name__"), (.str (.ofString "__name__") 165), (.str (.ofString "rlp.exceptions") 390)⟩, ⟨PyData.keyHash P (.ofString "__doc__"), (.str (.ofString "__doc__") 166), .none⟩, ⟨PyData.keyHash P (.ofString "__package__"), (.str (.ofString "__package__") 167), .none⟩, ⟨PyData.keyHash P (.ofString "__loader__"), (.str (.ofString "__loader__") 168), (.builtin "__main__.__loader__#opaque")⟩, ⟨PyData.keyHash P (.ofString "__spec__"), (.str (.ofString "__spec__") 169), .none⟩, ⟨PyData.keyHash P (.ofString "__annotations__"), (.str (.ofString "__annotations__") 170), (.ref 6)⟩, ⟨PyData.keyHash P (.ofString "__builtins__"), (.str (.ofString "__builtins__") 171), (.ref 4)⟩, ⟨PyData.keyHash P (.ofString "__file__"), (.str (.ofString "__file__") 173), (.str (.ofString "/claim/cut.py") 172)⟩, ⟨PyData.keyHash P (.ofString "__cached__"), (.str (.ofString "__cached__") 174), .none⟩, ⟨PyData.keyHash P (.ofString "pack"), (.str (.ofString "pack") 312), (.builtin "_struct.pack")⟩, ⟨PyData.keyHash P (.ofString "_wall"), (.str (.ofString "_wall") 325), (.ref 49)⟩, ⟨PyData.keyHash P (.ofString "CHARSET"), (.str (.ofString "CHARSET") 329), (.str (.ofString "qpzry9x8gf2tvdw0s3jn54khce6mua7l") 328)⟩, ⟨PyData.keyHash P (.ofString "bech32_polymod"), (.str (.ofString "bech32_polymod") 341), (.ref 56)⟩, ⟨PyData.keyHash P (.ofString "bech32_hrp_expand"), (.str (.ofString "bech32_hrp_expand") 347), (.ref 61)⟩, ⟨PyData.keyHash P (.ofString "bech32_verify_checksum"), (.str (.ofString "bech32_verify_checksum") 355), (.ref 68)⟩, ⟨PyData.keyHash P (.ofString "bech32_create_checksum"), (.str (.ofString "bech32_create_checksum") 361), (.ref 73)⟩, ⟨PyData.keyHash P (.ofString "bech32_encode"), (.str (.ofString "bech32_encode") 367), (.ref 78)⟩, ⟨PyData.keyHash P (.ofString "bech32_decode"), (.str (.ofString "bech32_decode") 373), (.ref 83)⟩, ⟨PyData.keyHash P (.ofString "convertbits"), (.str (.ofString "convertbits") 389), (.ref 91)⟩, ⟨PyData.keyHash P (.ofString "RLPException"), (.str (.ofString "RLPException") 411), (.ref 101)⟩, ⟨PyData.keyHash P (.ofString "EncodingError"), (.str (.ofString "EncodingError") 439), (.ref 123)⟩] 21), #[]⟩
def o40_s12 (P : Params) : Obj := ⟨.none, none, (.fields #[(.int 2 0), (.int 0 0), (.ref 48), (.int 7 0), (.int 0 0), (.ref 55), (.int 16 0), (.int 0 0), (.ref 60), (.int 18 0), (.int 0 0), (.ref 67), (.int 20 0), (.int 0 0), (.ref 72), (.int 24 0), (.int 0 0), (.ref 77), (.int 27 0), (.int 0 0), (.ref 82), (.int 41 0), (.int 0 0), (.ref 90), (.int 62 0), (.int 0 0), (.ref 97), (.int 64 0), (.int 0 0), (.ref 111)]), #[]⟩
def o101_s12 (P : Params) : Obj := ⟨(.type "type"), none, (.cls ⟨(.ofString "RLPException"), [(.type "Exception")], [(.ref 101), (.type "Exception"), (.type "BaseException"), (.type "object")], 100, (.ofString "RLPException"), true, [], [(.ref 123)], false, none, false⟩), #[(some (.ref 92)), none, (some (.str (.ofString "RLPException") 392)), (some (.str (.ofString "RLPException") 400)), (some (.builtin "Exception.__new__")), (some (.bool true))]⟩
def o105_s12 (P : Params) : Obj := ⟨(.type "tuple"), none, (.seq #[(.ref 101)] 0), #[]⟩
def o106_s12 (P : Params) : Obj := ⟨(.type "builtin_function_or_method"), none, (.fields #[(.builtin "type.__prepare__"), (.type "type")]), #[]⟩
def o107_s12 (P : Params) : Obj := ⟨(.type "dict"), none, (.dict #[⟨PyData.keyHash P (.ofString "__module__"), (.str (.ofString "__module__") 419), (.str (.ofString "rlp.exceptions") 390)⟩, ⟨PyData.keyHash P (.ofString "__qualname__"), (.str (.ofString "__qualname__") 421), (.str (.ofString "EncodingError") 420)⟩, ⟨PyData.keyHash P (.ofString "__firstlineno__"), (.str (.ofString "__firstlineno__") 423), (.int 64 422)⟩, ⟨PyData.keyHash P (.ofString "__init__"), (.str (.ofString "__init__") 433), (.ref 120)⟩, ⟨PyData.keyHash P (.ofString "__static_attributes__"), (.str (.ofString "__static_attributes__") 435), (.ref 121)⟩, ⟨PyData.keyHash P (.ofString "__classcell__"), (.str (.ofString "__classcell__") 436), (.ref 108)⟩] 6), #[]⟩
def o108_s12 (P : Params) : Obj := ⟨(.type "cell"), none, (.cell (some (.ref 123))), #[]⟩
def o109_s12 (P : Params) : Obj := ⟨(.type "tuple"), none, (.seq #[] 0), #[]⟩
def o110_s12 (P : Params) : Obj := ⟨.none, none, (.fields #[(.int 66 0), (.int 4 0), (.ref 119)]), #[]⟩
def o111_s12 (P : Params) : Obj := ⟨(.type "code"), none, (.fields #[(.str (.ofString "EncodingError") 414), (.str (.ofString "EncodingError") 415), (.str (.ofString "/claim/cut.py") 416), (.int 64 0), (.int 0 0), (.int 0 0), (.int 0 0), (.int 0 0), (.ref 109), (.bool false), (.int 313 0), (.ref 110), .none, .none, .none, .none, (.int 417 0), (.int 64 0), (.str (.ofString "/claim/cut.py") 418)]), #[]⟩
def o112_s12 (P : Params) : Obj := ⟨(.type "frame"), none, .plain, #[(some (.ref 111)), (some (.ref 3)), (some (.ref 107)), none, (some (.str (.ofString "rlp.exceptions") 390)), none, (some (.ref 0))]⟩
def o113_s12 (P : Params) : Obj := ⟨(.type "tuple"), none, (.seq #[(.ref 108)] 0), #[]⟩
def o114_s12 (P : Params) : Obj := ⟨(.type "tuple"), none, (.seq #[(.str (.ofString "__class__") 427)] 0), #[]⟩
def o115_s12 (P : Params) : Obj := ⟨.none, none, (.fields #[]), #[]⟩
def o116_s12 (P : Params) : Obj := ⟨(.type "tuple"), none, (.seq #[(.str (.ofString "self") 428), (.str (.ofString "message") 429), (.str (.ofString "obj") 430)] 0), #[]⟩
def o117_s12 (P : Params) : Obj := ⟨(.type "tuple"), none, (.seq #[] 0), #[]⟩
def o118_s12 (P : Params) : Obj := ⟨.none, none, (.func ⟨(.ofString "__init__"), (.ofString "EncodingError.__init__"), pA (stA [13, 0]), .stmts (bA (stA [13, 0])), sA (stA [13, 0]), 0, [], .none, .none, .none, .none, none, .none, .none, 0⟩), #[]⟩
def o119_s12 (P : Params) : Obj := ⟨(.type "code"), none, (.fields #[(.str (.ofString "__init__") 424), (.str (.ofString "EncodingError.__init__") 425), (.str (.ofString "/claim/cut.py") 426), (.int 66 0), (.int 3 0), (.int 0 0), (.int 0 0), (.int 3 0), (.ref 114), (.bool true), (.int 313 0), (.ref 115), .none, (.ref 116), (.ref 117), (.ref 118), (.int 431 0), (.int 66 0), (.str (.ofString "/claim/cut.py") 432)]), #[]⟩
def o120_s12 (P : Params) : Obj := ⟨(.type "function"), none, (.func ⟨(.ofString "__init__"), (.ofString "EncodingError.__init__"), pA (stA [13, 0]), .stmts (bA (stA [13, 0])), sA (stA [13, 0]), 3, [((.ofString "__class__"), 108)], .none, .none, .none, (.str (.ofString "rlp.exceptions") 390), none, (.ref 119), (.ref 113), 0⟩), #[]⟩
def o121_s12 (P : Params) : Obj := ⟨(.type "tuple"), none, (.seq #[(.str (.ofString "obj") 434)] 0), #[]⟩
def o122_s12 (P : Params) : Obj := ⟨(.type "dict"), none, (.dict #[⟨PyData.keyHash P (.ofString "__module__"), (.str (.ofString "__module__") 419), (.str (.ofString "rlp.exceptions") 390)⟩, ⟨PyData.keyHash P (.ofString "__firstlineno__"), (.str (.ofString "__firstlineno__") 423), (.int 64 422)⟩, ⟨PyData.keyHash P (.ofString "__init__"), (.str (.ofString "__init__") 433), (.ref 120)⟩, ⟨PyData.keyHash P (.ofString "__static_attributes__"), (.str (.ofString "__static_attributes__") 435), (.ref 121)⟩, ⟨PyData.keyHash P (.ofString "__doc__"), (.str (.ofString "__doc__") 437), .none⟩] 3), #[]⟩
def o123_s12 (P : Params) : Obj := ⟨(.type "type"), none, (.cls ⟨(.ofString "EncodingError"), [(.ref 101)], [(.ref 123), (.ref 101), (.type "Exception"), (.type "BaseException"), (.type "object")], 122, (.ofString "EncodingError"), true, [], [], false, none, false⟩), #[(some (.ref 105)), none, (some (.str (.ofString "EncodingError") 412)), (some (.str (.ofString "EncodingError") 420)), (some (.builtin "Exception.__new__")), (some (.bool true))]⟩
def o124_s12 (P : Params) : Obj := ⟨(.type "super"), none, (.fields #[(.ref 123), (.ref 123), (.ref 123)]), #[]⟩
def o125_s12 (P : Params) : Obj := ⟨(.type "builtin_function_or_method"), none, (.fields #[(.builtin "object.__init_subclass__"), (.ref 123)]), #[]⟩
def T_s12 (P : Params) : BT := (.node (o0_s0 P) (.node (o1_s0 P) (.node (o3_s12 P) (.node (o7_s0 P) (.node (o15_s0 P) (.node (o31_s0 P) (.node (o63_s8 P) .nil .nil) (.node (o95_s11 P) .nil .nil)) (.node (o47_s3 P) (.node (o79_s8 P) .nil .nil) (.node (o111_s12 P) .nil .nil))) (.node (o23_s0 P) (.node (o39_sb P) (.node (o71_s8 P) .nil .nil) (.node (o103_s11 P) .nil .nil)) (.node (o55_s3 P) (.node (o87_s11 P) .nil .nil) (.node (o119_s12 P) .nil .nil)))) (.node (o11_s0 P) (.node (o19_s0 P) (.node (o35_s0 P) (.node (o67_s8 P) .nil .nil) (.node (o99_s11 P) .nil .nil)) (.node (o51_s3 P) (.node (o83_s8 P) .nil .nil) (.node (o115_s12 P) .nil .nil))) (.node (o27_s0 P) (.node (o43_s3 P) (.node (o75_s8 P) .nil .nil) (.node (o107_s12 P) .nil .nil)) (.node (o59_s8 P) (.node (o91_s11 P) .nil .nil) (.node (o123_s12 P) .nil .nil))))) (.node (o5_s0 P) (.node (o9_s0 P) (.node (o17_s0 P) (.node (o33_s0 P) (.node (o65_s8 P) .nil .nil) (.node (o97_s11 P) .nil .nil)) (.node (o49_s3 P) (.node (o81_s8 P) .nil .nil) (.node (o113_s12 P) .nil .nil))) (.node (o25_s0 P) (.node (o41_sb P) (.node (o73_s8 P) .nil .nil) (.node (o105_s12 P) .nil .nil)) (.node (o57_s8 P) (.node (o89_s11 P) .nil .nil) (.node (o121_s12 P) .nil .nil)))) (.node (o13_s0 P) (.node (o21_s0 P) (.node (o37_s0 P) (.node (o69_s8 P) .nil .nil) (.node (o101_s12 P) .nil .nil)) (.node (o53_s3 P) (.node (o85_s11 P) .nil .nil) (.node (o117_s12 P) .nil .nil))) (.node (o29_s0 P) (.node (o45_s3 P) (.node (o77_s8 P) .nil .nil) (.node (o109_s12 P) .nil .nil)) (.node (o61_s8 P) (.node (o93_s11 P) .nil .nil) (.node (o125_s12 P) .nil .nil)))))) (.node (o2_s11 P) (.node (o4_s0 P) (.node (o8_s0 P) (.node (o16_s0 P) (.node (o32_s0 P) (.node (o64_s8 P) .nil .nil) (.node (o96_s11 P) .nil .nil)) (.node (o48_s3 P) (.node (o80_s8 P) .nil .nil) (.node (o112_s12 P) .nil .nil))) (.node (o24_s0 P) (.node (o40_s12 P) (.node (o72_s8 P) .nil .nil) (.node (o104_s11 P) .nil .nil)) (.node (o56_s3 P) (.node (o88_s11 P) .nil .nil) (.node (o120_s12 P) .nil .nil)))) (.node (o12_s0 P) (.node (o20_s0 P) (.node (o36_s0 P) (.node (o68_s8 P) .nil .nil) (.node (o100_s11 P) .nil .nil)) (.node (o52_s3 P) (.node (o84_s11 P) .nil .nil) (.node (o116_s12 P) .nil .nil))) (.node (o28_s0 P) (.node (o44_s3 P) (.node (o76_s8 P) .nil .nil) (.node (o108_s12 P) .nil .nil)) (.node (o60_s8 P) (.node (o92_s11 P) .nil .nil) (.node (o124_s12 P) .nil .nil))))) (.node (o6_s0 P) (.node (o10_s0 P) (.node (o18_s0 P) (.node (o34_s0 P) (.node (o66_s8 P) .nil .nil) (.node (o98_s11 P) .nil .nil)) (.node (o50_s3 P) (.node (o82_s8 P) .nil .nil) (.node (o114_s12 P) .nil .nil))) (.node (o26_s0 P) (.node (o42_sb P) (.node (o74_s8 P) .nil .nil) (.node (o106_s12 P) .nil .nil)) (.node (o58_s8 P) (.node (o90_s11 P) .nil .nil) (.node (o122_s12 P) .nil .nil)))) (.node (o14_s0 P) (.node (o22_s0 P) (.node (o38_s0 P) (.node (o70_s8 P) .nil .nil) (.node (o102_s11 P) .nil .nil)) (.node (o54_s3 P) (.node (o86_s11 P) .nil .nil) (.node (o118_s12 P) .nil .nil))) (.node (o30_s0 P) (.node (o46_s3 P) (.node (o78_s8 P) .nil .nil) (.node (o110_s12 P) .nil .nil)) (.node (o62_s8 P) (.node (o94_s11 P) .nil .nil) .nil))))))
def S_s12 (w : World) (os : OsState) : SharedT := ⟨T_s12 w.params, 126, life0, #[], drawn0, 440, os⟩
def o3_s13 (P : Params) : Obj := ⟨(.type "dict"), none, (.dict #[⟨PyData.keyHash P (.ofString "__name__"), (.str (.ofString "__name__") 165), (.str (.ofString "rlp.exceptions") 390)⟩, ⟨PyData.keyHash P (.ofString "__doc__"), (.str (.ofString "__doc__") 166), .none⟩, ⟨PyData.keyHash P (.ofString "__package__"), (.str (.ofString "__package__") 167), .none⟩, ⟨PyData.keyHash P (.ofString "__loader__"), (.str (.ofString "__loader__") 168), (.builtin "__main__.__loader__#opaque")⟩, ⟨PyData.keyHash P (.ofString "__spec__"), (.str (.ofString "__spec__") 169), .none⟩, ⟨PyData.keyHash P (.ofString "__annotations__"), (.str (.ofString "__annotations__") 170), (.ref 6)⟩, ⟨PyData.keyHash P (.ofString "__builtins__"), (.str (.ofString "__builtins__") 171), (.ref 4)⟩, ⟨PyData.keyHash P (.ofString "__file__"), (.str (.ofString "__file__") 173), (.str (.ofString "/claim/cut.py") 172)⟩, ⟨PyData.keyHash P (.ofString "__cached__"), (.str (.ofString "__cached__") 174), .none⟩, ⟨PyData.keyHash P (.ofString "pack"), (.str (.ofString "pack") 312), (.builtin "_struct.pack")⟩, ⟨PyData.keyHash P (.ofString "_wall"), (.str (.ofString "_wall") 325), (.ref 49)⟩, ⟨PyData.keyHash P (.ofString "CHARSET"), (.str (.ofString "CHARSET") 329), (.str (.ofString "qpzry9x8gf2tvdw0s3jn54khce6mua7l") 328)⟩, ⟨PyData.keyHash P (.ofString "bech32_polymod"), (.str (.ofString "bech32_polymod") 341), (.ref 56)⟩, ⟨PyData.keyHash P (.ofString "bech32_hrp_expand"), (.str (.ofString "bech32_hrp_expand") 347), (.ref 61)⟩, ⟨PyData.keyHash P (.ofString "bech32_verify_checksum"), (.str (.ofString "bech32_verify_checksum") 355), (.ref 68)⟩, ⟨PyData.keyHash P (.ofString "bech32_create_checksum"), (.str (.ofString "bech32_create_checksum") 361), (.ref 73)⟩, ⟨PyData.keyHash P (.ofString "bech32_encode"), (.str (.ofString "bech32_encode") 367), (.ref 78)⟩, ⟨PyData.keyHash P (.ofString "bech32_decode"), (.str (.ofString "bech32_decode") 373), (.ref 83)⟩, ⟨PyData.keyHash P (.ofString "convertbits"), (.str (.ofString "convertbits") 389), (.ref 91)⟩, ⟨PyData.keyHash P (.ofString "RLPException"), (.str (.ofString "RLPException") 411), (.ref 101)⟩, ⟨PyData.keyHash P (.ofString "EncodingError"), (.str (.ofString "EncodingError") 439), (.ref 123)⟩, ⟨PyData.keyHash P (.ofString "DecodingError"), (.str (.ofString "DecodingError") 467), (.ref 144)⟩] 22), #[]⟩
def o40_s13 (P : Params) : Obj := ⟨.none, none, (.fields #[(.int 2 0), (.int 0 0), (.ref 48), (.int 7 0), (.int 0 0), (.ref 55), (.int 16 0), (.int 0 0), (.ref 60), (.int 18 0), (.int 0 0), (.ref 67), (.int 20 0), (.int 0 0), (.ref 72), (.int 24 0), (.int 0 0), (.ref 77), (.int 27 0), (.int 0 0), (.ref 82), (.int 41 0), (.int 0 0), (.ref 90), (.int 62 0), (.int 0 0), (.ref 97), (.int 64 0), (.int 0 0), (.ref 111), (.int 69 0), (.int 0 0), (.ref 132)]), #[]⟩
def o101_s13 (P : Params) : Obj := ⟨(.type "type"), none, (.cls ⟨(.ofString "RLPException"), [(.type "Exception")], [(.ref 101), (.type "Exception"), (.type "BaseException"), (.type "object")], 100, (.ofString "RLPException"), true, [], [(.ref 123), (.ref 144)], false, none, false⟩), #[(some (.ref 92)), none, (some (.str (.ofString "RLPException") 392)), (some (.str (.ofString "RLPException") 400)), (some (.builtin "Exception.__new__")), (some (.bool true))]⟩
def o126_s13 (P : Params) : Obj := ⟨(.type "tuple"), none, (.seq #[(.ref 101)] 0), #[]⟩
def o127_s13 (P : Params) : Obj := ⟨(.type "builtin_function_or_method"), none, (.fields #[(.builtin "type.__prepare__"), (.type "type")]), #[]⟩
def o128_s13 (P : Params) : Obj := ⟨(.type "dict"), none, (.dict #[⟨PyData.keyHash P (.ofString "__module__"), (.str (.ofString "__module__") 447), (.str (.ofString "rlp.exceptions") 390)⟩, ⟨PyData.keyHash P (.ofString "__qualname__"), (.str (.ofString "__qualname__") 449), (.str (.ofString "DecodingError") 448)⟩, ⟨PyData.keyHash P (.ofString "__firstlineno__"), (.str (.ofString "__firstlineno__") 451), (.int 69 450)⟩, ⟨PyData.keyHash P (.ofString "__init__"), (.str (.ofString "__init__") 461), (.ref 141)⟩, ⟨PyData.keyHash P (.ofString "__static_attributes__"), (.str (.ofString "__static_attributes__") 463), (.ref 142)⟩, ⟨PyData.keyHash P (.ofString "__classcell__"), (.str (.ofString "__classcell__") 464), (.ref 129)⟩] 6), #[]⟩
def o129_s13 (P : Params) : Obj := ⟨(.type "cell"), none, (.cell (some (.ref 144))), #[]⟩
def o130_s13 (P : Params) : Obj := ⟨(.type "tuple"), none, (.seq #[] 0), #[]⟩
def o131_s13 (P : Params) : Obj := ⟨.none, none, (.fields #[(.int 71 0), (.int 4 0), (.ref 140)]), #[]⟩
def o132_s13 (P : Params) : Obj := ⟨(.type "code"), none, (.fields #[(.str (.ofString "DecodingError") 442), (.str (.ofString "DecodingError") 443), (.str (.ofString "/claim/cut.py") 444), (.int 69 0), (.int 0 0), (.int 0 0), (.int 0 0), (.int 0 0), (.ref 130), (.bool false), (.int 313 0), (.ref 131), .none, .none, .none, .none, (.int 445 0), (.int 69 0), (.str (.ofString "/claim/cut.py") 446)]), #[]⟩
def o133_s13 (P : Params) : Obj := ⟨(.type "frame"), none, .plain, #[(some (.ref 132)), (some (.ref 3)), (some (.ref 128)), none, (some (.str (.ofString "rlp.exceptions") 390)), none, (some (.ref 0))]⟩
def o134_s13 (P : Params) : Obj := ⟨(.type "tuple"), none, (.seq #[(.ref 129)] 0), #[]⟩
def o135_s13 (P : Params) : Obj := ⟨(.type "tuple"), none, (.seq #[(.str (.ofString "__class__") 455)] 0), #[]⟩
def o136_s13 (P : Params) : Obj := ⟨.none, none, (.fields #[]), #[]⟩
def o137_s13 (P : Params) : Obj := ⟨(.type "tuple"), none, (.seq #[(.str (.ofString "self") 456), (.str (.ofString "message") 457), (.str (.ofString "rlp") 458)] 0), #[]⟩
def o138_s13 (P : Params) : Obj := ⟨(.type "tuple"), none, (.seq #[] 0), #[]⟩
def o139_s13 (P : Params) : Obj := ⟨.none, none, (.func ⟨(.ofString "__init__"), (.ofString "DecodingError.__init__"), pA (stA [14, 0]), .stmts (bA (stA [14, 0])), sA (stA [14, 0]), 0, [], .none, .none, .none, .none, none, .none, .none, 0⟩), #[]⟩
def o140_s13 (P : Params) : Obj := ⟨(.type "code"), none, (.fields #[(.str (.ofString "__init__") 452), (.str (.ofString "DecodingError.__init__") 453), (.str (.ofString "/claim/cut.py") 454), (.int 71 0), (.int 3 0), (.int 0 0), (.int 0 0), (.int 3 0), (.ref 135), (.bool true), (.int 313 0), (.ref 136), .none, (.ref 137), (.ref 138), (.ref 139), (.int 459 0), (.int 71 0), (.str (.ofString "/claim/cut.py") 460)]), #[]⟩
def o141_s13 (P : Params) : Obj := ⟨(.type "function"), none, (.func ⟨(.ofString "__init__"), (.ofString "DecodingError.__init__"), pA (stA [14, 0]), .stmts (bA (stA [14, 0])), sA (stA [14, 0]), 3, [((.ofString "__class__"), 129)], .none, .none, .none, (.str (.ofString "rlp.exceptions") 390), none, (.ref 140), (.ref 134), 0⟩), #[]⟩
def o142_s13 (P : Params) : Obj := ⟨(.type "tuple"), none, (.seq #[(.str (.ofString "rlp") 462)] 0), #[]⟩
def o143_s13 (P : Params) : Obj := ⟨(.type "dict"), none, (.dict #[⟨PyData.keyHash P (.ofString "__module__"), (.str (.ofString "__module__") 447), (.str (.ofString "rlp.exceptions") 390)⟩, ⟨PyData.keyHash P (.ofString "__firstlineno__"), (.str (.ofString "__firstlineno__") 451), (.int 69 450)⟩, ⟨PyData.keyHash P (.ofString "__init__"), (.str (.ofString "__init__") 461), (.ref 141)⟩, ⟨PyData.keyHash P (.ofString "__static_attributes__"), (.str (.ofString "__static_attributes__") 463), (.ref 142)⟩, ⟨PyData.keyHash P (.ofString "__doc__"), (.str (.ofString "__doc__") 465), .none⟩] 3), #[]⟩
def o144_s13 (P : Params) : Obj := ⟨(.type "type"), none, (.cls ⟨(.ofString "DecodingError"), [(.ref 101)], [(.ref 144), (.ref 101), (.type "Exception"), (.type "BaseException"), (.type "object")], 143, (.ofString "DecodingError"), true, [], [], false, none, false⟩), #[(some (.ref 126)), none, (some (.str (.ofString "DecodingError") 440)), (some (.str (.ofString "DecodingError") 448)), (some (.builtin "Exception.__new__")), (some (.bool true))]⟩
def o145_s13 (P : Params) : Obj := ⟨(.type "super"), none, (.fields #[(.ref 144), (.ref 144), (.ref 144)]), #[]⟩
def o146_s13 (P : Params) : Obj := ⟨(.type "builtin_function_or_method"), none, (.fields #[(.builtin "object.__init_subclass__"), (.ref 144)]), #[]⟩
def T_s13 (P : Params) : BT := (.node (o0_s0 P) (.node (o1_s0 P) (.node (o3_s13 P) (.node (o7_s0 P) (.node (o15_s0 P) (.node (o31_s0 P) (.node (o63_s8 P) (.node (o127_s13 P) .nil .nil) .nil) (.node (o95_s11 P) .nil .nil)) (.node (o47_s3 P) (.node (o79_s8 P) (.node (o143_s13 P) .nil .nil) .nil) (.node (o111_s12 P) .nil .nil))) (.node (o23_s0 P) (.node (o39_sb P) (.node (o71_s8 P) (.node (o135_s13 P) .nil .nil) .nil) (.node (o103_s11 P) .nil .nil)) (.node (o55_s3 P) (.node (o87_s11 P) .nil .nil) (.node (o119_s12 P) .nil .nil)))) (.node (o11_s0 P) (.node (o19_s0 P) (.node (o35_s0 P) (.node (o67_s8 P) (.node (o131_s13 P) .nil .nil) .nil) (.node (o99_s11 P) .nil .nil)) (.node (o51_s3 P) (.node (o83_s8 P) .nil .nil) (.node (o115_s12 P) .nil .nil))) (.node (o27_s0 P) (.node (o43_s3 P) (.node (o75_s8 P) (.node (o139_s13 P) .nil .nil) .nil) (.node (o107_s12 P) .nil .nil)) (.node (o59_s8 P) (.node (o91_s11 P) .nil .nil) (.node (o123_s12 P) .nil .nil))))) (.node (o5_s0 P) (.node (o9_s0 P) (.node (o17_s0 P) (.node (o33_s0 P) (.node (o65_s8 P) (.node (o129_s13 P) .nil .nil) .nil) (.node (o97_s11 P) .nil .nil)) (.node (o49_s3 P) (.node (o81_s8 P) (.node (o145_s13 P) .nil .nil) .nil) (.node (o113_s12 P) .nil .nil))) (.node (o25_s0 P) (.node (o41_sb P) (.node (o73_s8 P) (.node (o137_s13 P) .nil .nil) .nil) (.node (o105_s12 P) .nil .nil)) (.node (o57_s8 P) (.node (o89_s11 P) .nil .nil) (.node (o121_s12 P) .nil .nil)))) (.node (o13_s0 P) (.node (o21_s0 P) (.node (o37_s0 P) (.node (o69_s8 P) (.node (o133_s13 P) .nil .nil) .nil) (.node (o101_s13 P) .nil .nil)) (.node (o53_s3 P) (.node (o85_s11 P) .nil .nil) (.node (o117_s12 P) .nil .nil))) (.node (o29_s0 P) (.node (o45_s3 P) (.node (o77_s8 P) (.node (o141_s13 P) .nil .nil) .nil) (.node (o109_s12 P) .nil .nil)) (.node (o61_s8 P) (.node (o93_s11 P) .nil .nil) (.node (o125_s12 P) .nil .nil)))))) (.node (o2_s11 P) (.node (o4_s0 P) (.node (o8_s0 P) (.node (o16_s0 P) (.node (o32_s0 P) (.node (o64_s8 P) (.node (o128_s13 P) .nil .nil) .nil) (.node (o96_s11 P) .nil .nil)) (.node (o48_s3 P) (.node (o80_s8 P) (.node (o144_s13 P) .nil .nil) .nil) (.node (o112_s12 P) .nil .nil))) (.node (o24_s0 P) (.node (o40_s13 P) (.node (o72_s8 P) (.node (o136_s13 P) .nil .nil) .nil) (.node (o104_s11 P) .nil .nil)) (.node (o56_s3 P) (.node (o88_s11 P) .nil .nil) (.node (o120_s12 P) .nil .nil)))) (.node (o12_s0 P) (.node (o20_s0 P) (.node (o36_s0 P) (.node (o68_s8 P) (.node (o132_s13 P) .nil .nil) .nil) (.node (o100_s11 P) .nil .nil)) (.node (o52_s3 P) (.node (o84_s11 P) .nil .nil) (.node (o116_s12 P) .nil .nil))) (.node (o28_s0 P) (.node (o44_s3 P) (.node (o76_s8 P) (.node (o140_s13 P) .nil .nil) .nil) (.node (o108_s12 P) .nil .nil)) (.node (o60_s8 P) (.node (o92_s11 P) .nil .nil) (.node (o124_s12 P) .nil .nil))))) (.node (o6_s0 P) (.node (o10_s0 P) (.node (o18_s0 P) (.node (o34_s0 P) (.node (o66_s8 P) (.node (o130_s13 P) .nil .nil) .nil) (.node (o98_s11 P) .nil .nil)) (.node (o50_s3 P) (.node (o82_s8 P) (.node (o146_s13 P) .nil .nil) .nil) (.node (o114_s12 P) .nil .nil))) (.node (o26_s0 P) (.node (o42_sb P) (.node (o74_s8 P) (.node (o138_s13 P) .nil .nil) .nil) (.node (o106_s12 P) .nil .nil)) (.node (o58_s8 P) (.node (o90_s11 P) .nil .nil) (.node (o122_s12 P) .nil .nil)))) (.node (o14_s0 P) (.node (o22_s0 P) (.node (o38_s0 P) (.node (o70_s8 P) (.node (o134_s13 P) .nil .nil) .nil) (.node (o102_s11 P) .nil .nil)) (.node (o54_s3 P) (.node (o86_s11 P) .nil .nil) (.node (o118_s12 P) .nil .nil))) (.node (o30_s0 P) (.node (o46_s3 P) (.node (o78_s8 P) (.node (o142_s13 P) .nil .nil) .nil) (.node (o110_s12 P) .nil .nil)) (.node (o62_s8 P) (.node (o94_s11 P) .nil .nil) (.node (o126_s13 P) .nil .nil)))))))
def S_s13 (w : World) (os : OsState) : SharedT := ⟨T_s13 w.params, 147, life0, #[], drawn0, 468, os⟩
def o3_s14 (P : Params) : Obj := ⟨(.type "dict"), none, (.dict #[⟨PyData.keyHash P (.ofString "__name__"), (.str (.ofString "__name__") 165), (.str (.ofString "rlp.exceptions") 390)⟩, ⟨PyData.keyHash P (.ofString "__doc__"), (.str (.ofString "__doc__") 166), .none⟩, ⟨PyData.keyHash P (.ofString "__package__"), (.str (.ofString "__package__") 167), .none⟩, ⟨PyData.keyHash P (.ofString "__loader__"), (.str (.ofString "__loader__") 168), (.builtin "__main__.__loader__#opaque")⟩, ⟨PyData.keyHash P (.ofString "__spec__"), (.str (.ofString "__spec__") 169), .none⟩, ⟨PyData.keyHash P (.ofString "__annotations__"), (.str (.ofString "__annotations__") 170), (.ref 6)⟩, ⟨PyData.keyHash P (.ofString "__builtins__"), (.str (.ofString "__builtins__") 171), (.ref 4)⟩, ⟨PyData.keyHash P (.ofString "__file__"), (.str (.ofString "__file__") 173), (.str (.ofString "/claim/cut.py") 172)⟩, ⟨PyData.keyHash P (.ofString "__cached__"), (.str (.ofString "__cached__") 174), .none⟩, ⟨PyData.keyHash P (.ofString "pack"), (.str (.ofString "pack") 312), (.builtin "_struct.pack")⟩, ⟨PyData.keyHash P (.ofString "_wall"), (.str (.ofString "_wall") 325), (.ref 49)⟩, ⟨PyData.keyHash P (.ofString "CHARSET"), (.str (.ofString "CHARSET") 329), (.str (.ofString "qpzry9x8gf2tvdw0s3jn54khce6mua7l") 328)⟩, ⟨PyData.keyHash P (.ofString "bech32_polymod"), (.str (.ofString "bech32_polymod") 341), (.ref 56)⟩, ⟨PyData.keyHash P (.ofString "bech32_hrp_expand"), (.str (.ofString "bech32_hrp_expand") 347), (.ref 61)⟩, ⟨PyData.keyHash P (.ofString "bech32_verify_checksum"), (.str (.ofString "bech32_verify_checksum") 355), (.ref 68)⟩, ⟨PyData.keyHash P (.ofString "bech32_create_checksum"), (.str (.ofString "bech32_create_checksum") 361), (.ref 73)⟩, ⟨PyData.keyHash P (.ofString "bech32_encode"), (.str (.ofString "bech32_encode") 367), (.ref 78)⟩, ⟨PyData.keyHash P (.ofString "bech32_decode"), (.str (.ofString "bech32_decode") 373), (.ref 83)⟩, ⟨PyData.keyHash P (.ofString "convertbits"), (.str (.ofString "convertbits") 389), (.ref 91)⟩, ⟨PyData.keyHash P (.ofString "RLPException"), (.str (.ofString "RLPException") 411), (.ref 101)⟩, ⟨PyData.keyHash P (.ofString "EncodingError"), (.str (.ofString "EncodingError") 439), (.ref 123)⟩, ⟨PyData.keyHash P (.ofString "DecodingError"), (.str (.ofString "DecodingError") 467), (.ref 144)⟩, ⟨PyData.keyHash P (.ofString "SerializationError"), (.str (.ofString "SerializationError") 495), (.ref 165)⟩] 23), #[]⟩
def o40_s14 (P : Params) : Obj := ⟨.none, none, (.fields #[(.int 2 0), (.int 0 0), (.ref 48), (.int 7 0), (.int 0 0), (.ref 55), (.int 16 0), (.int 0 0), (.ref 60), (.int 18 0), (.int 0 0), (.ref 67), (.int 20 0), (.int 0 0), (.ref 72), (.int 24 0), (.int 0 0), (.ref 77), (.int 27 0), (.int 0 0), (.ref 82), (.int 41 0), (.int 0 0), (.ref 90), (.int 62 0), (.int 0 0), (.ref 97), (.int 64 0), (.int 0 0), (.ref 111), (.int 69 0), (.int 0 0), (.ref 132), (.int 74 0), (.int 0 0), (.ref 153)]), #[]⟩
def o101_s14 (P : Params) : Obj := ⟨(.type "type"), none, (.cls ⟨(.ofString "RLPException"), [(.type "Exception")], [(.ref 101), (.type "Exception"), (.type "BaseException"), (.type "object")], 100, (.ofString "RLPException"), true, [], [(.ref 123), (.ref 144), (.ref 165)], false, none, false⟩), #[(some (.ref 92)), none, (some (.str (.ofString "RLPException") 392)), (some (.str (.ofString "RLPException") 400)), (some (.builtin "Exception.__new__")), (some (.bool true))]⟩
def o147_s14 (P : Params) : Obj := ⟨(.type "tuple"), none, (.seq #[(.ref 101)] 0), #[]⟩
def o148_s14 (P : Params) : Obj := ⟨(.type "builtin_function_or_method"), none, (.fields #[(.builtin "type.__prepare__"), (.type "type")]), #[]⟩
def o149_s14 (P : Params) : Obj := ⟨(.type "dict"), none, (.dict #[⟨PyData.keyHash P (.ofString "__module__"), (.str (.ofString "__module__") 475), (.str (.ofString "rlp.exceptions") 390)⟩, ⟨PyData.keyHash P (.ofString "__qualname__"), (.str (.ofString "__qualname__") 477), (.str (.ofString "SerializationError") 476)⟩, ⟨PyData.keyHash P (.ofString "__firstlineno__"), (.str (.ofString "__firstlineno__") 479), (.int 74 478)⟩, ⟨PyData.keyHash P (.ofString "__init__"), (.str (.ofString "__init__") 489), (.ref 162)⟩, ⟨PyData.keyHash P (.ofString "__static_attributes__"), (.str (.ofString "__static_attributes__") 491), (.ref 163)⟩, ⟨PyData.keyHash P (.ofString "__classcell__"), (.str (.ofString "__classcell__") 492), (.ref 150)⟩] 6), #[]⟩
def o150_s14 (P : Params) : Obj := ⟨(.type "cell"), none, (.cell (some (.ref 165))), #[]⟩
def o151_s14 (P : Params) : Obj := ⟨(.type "tuple"), none, (.seq #[] 0), #[]⟩
def o152_s14 (P : Params) : Obj := ⟨.none, none, (.fields #[(.int 76 0), (.int 4 0), (.ref 161)]), #[]⟩
def o153_s14 (P : Params) : Obj := ⟨(.type "code"), none, (.fields #[(.str (.ofString "SerializationError") 470), (.str (.ofString "SerializationError") 471), (.str (.ofString "/claim/cut.py") 472), (.int 74 0), (.int 0 0), (.int 0 0), (.int 0 0), (.int 0 0), (.ref 151), (.bool false), (.int 313 0), (.ref 152), .none, .none, .none, .none, (.int 473 0), (.int 74 0), (.str (.ofString "/claim/cut.py") 474)]), #[]⟩
def o154_s14 (P : Params) : Obj := ⟨(.type "frame"), none, .plain, #[(some (.ref 153)), (some (.ref 3)), (some (.ref 149)), none, (some (.str (.ofString "rlp.exceptions") 390)), none, (some (.ref 0))]⟩
def o155_s14 (P : Params) : Obj := ⟨(.type "tuple"), none, (.seq #[(.ref 150)] 0), #[]⟩
def o156_s14 (P : Params) : Obj := ⟨(.type "tuple"), none, (.seq #[(.str (.ofString "__class__") 483)] 0), #[]⟩
def o157_s14 (P : Params) : Obj := ⟨.none, none, (.fields #[]), #[]⟩
def o158_s14 (P : Params) : Obj := ⟨(.type "tuple"), none, (.seq #[(.str (.ofString "self") 484), (.str (.ofString "message") 485), (.str (.ofString "obj") 486)] 0), #[]⟩
def o159_s14 (P : Params) : Obj := ⟨(.type "tuple"), none, (.seq #[] 0), #[]⟩
def o160_s14 (P : Params) : Obj := ⟨.none, none, (.func ⟨(.ofString "__init__"), (.ofString "SerializationError.__init__"), pA (stA [15, 0]), .stmts (bA (stA [15, 0])), sA (stA [15, 0]), 0, [], .none, .none, .none, .none, none, .none, .none, 0⟩), #[]⟩
def o161_s14 (P : Params) : Obj := ⟨(.type "code"), none, (.fields #[(.str (.ofString "__init__") 480), (.str (.ofString "SerializationError.__init__") 481), (.str (.ofString "/claim/cut.py") 482), (.int 76 0), (.int 3 0), (.int 0 0), (.int 0 0), (.int 3 0), (.ref 156), (.bool true), (.int 313 0), (.ref 157), .none, (.ref 158), (.ref 159), (.ref 160), (.int 487 0), (.int 76 0), (.str (.ofString "/claim/cut.py") 488)]), #[]⟩
def o162_s14 (P : Params) : Obj := ⟨(.type "function"), none, (.func ⟨(.ofString "__init__"), (.ofString "SerializationError.__init__"), pA (stA [15, 0]), .stmts (bA (stA [15, 0])), sA (stA [15, 0]), 3, [((.ofString "__class__"), 150)], .none, .none, .none, (.str (.ofString "rlp.exceptions") 390), none, (.ref 161), (.ref 155), 0⟩), #[]⟩
def o163_s14 (P : Params) : Obj := ⟨(.type "tuple"), none, (.seq #[(.str (.ofString "obj") 490)] 0), #[]⟩
def o164_s14 (P : Params) : Obj := ⟨(.type "dict"), none, (.dict #[⟨PyData.keyHash P (.ofString "__module__"), (.str (.ofString "__module__") 475), (.str (.ofString "rlp.exceptions") 390)⟩, ⟨PyData.keyHash P (.ofString "__firstlineno__"), (.str (.ofString "__firstlineno__") 479), (.int 74 478)⟩, ⟨PyData.keyHash P (.ofString "__init__"), (.str (.ofString "__init__") 489), (.ref 162)⟩, ⟨PyData.keyHash P (.ofString "__static_attributes__"), (.str (.ofString "__static_attributes__") 491), (.ref 163)⟩, ⟨PyData.keyHash P (.ofString "__doc__"), (.str (.ofString "__doc__") 493), .none⟩] 3), #[]⟩
def o165_s14 (P : Params) : Obj := ⟨(.type "type"), none, (.cls ⟨(.ofString "SerializationError"), [(.ref 101)], [(.ref 165), (.ref 101), (.type "Exception"), (.type "BaseException"), (.type "object")], 164, (.ofString "SerializationError"), true, [], [], false, none, false⟩), #[(some (.ref 147)), none, (some (.str (.ofString "SerializationError") 468)), (some (.str (.ofString "SerializationError") 476)), (some (.builtin "Exception.__new__")), (some (.bool true))]⟩
def o166_s14 (P : Params) : Obj := ⟨(.type "super"), none, (.fields #[(.ref 165), (.ref 165), (.ref 165)]), #[]⟩
def o167_s14 (P : Params) : Obj := ⟨(.type "builtin_function_or_method"), none, (.fields #[(.builtin "object.__init_subclass__"), (.ref 165)]), #[]⟩
def T_s14 (P : Params) : BT := (.node (o0_s0 P) (.node (o1_s0 P) (.node (o3_s14 P) (.node (o7_s0 P) (.node (o15_s0 P) (.node (o31_s0 P) (.node (o63_s8 P) (.node (o127_s13 P) .nil .nil) .nil) (.node (o95_s11 P) (.node (o159_s14 P) .nil .nil) .nil)) (.node (o47_s3 P) (.node (o79_s8 P) (.node (o143_s13 P) .nil .nil) .nil) (.node (o111_s12 P) .nil .nil))) (.node (o23_s0 P) (.node (o39_sb P) (.node (o71_s8 P) (.node (o135_s13 P) .nil .nil) .nil) (.node (o103_s11 P) (.node (o167_s14 P) .nil .nil) .nil)) (.node (o55_s3 P) (.node (o87_s11 P) (.node (o151_s14 P) .nil .nil) .nil) (.node (o119_s12 P) .nil .nil)))) (.node (o11_s0 P) (.node (o19_s0 P) (.node (o35_s0 P) (.node (o67_s8 P) (.node (o131_s13 P) .nil .nil) .nil) (.node (o99_s11 P) (.node (o163_s14 P) .nil .nil) .nil)) (.node (o51_s3 P) (.node (o83_s8 P) (.node (o147_s14 P) .nil .nil) .nil) (.node (o115_s12 P) .nil .nil))) (.node (o27_s0 P) (.node (o43_s3 P) (.node (o75_s8 P) (.node (o139_s13 P) .nil .nil) .nil) (.node (o107_s12 P) .nil .nil)) (.node (o59_s8 P) (.node (o91_s11 P) (.node (o155_s14 P) .nil .nil) .nil) (.node (o123_s12 P) .nil .nil))))) (.node (o5_s0 P) (.node (o9_s0 P) (.node (o17_s0 P) (.node (o33_s0 P) (.node (o65_s8 P) (.node (o129_s13 P) .nil .nil) .nil) (.node (o97_s11 P) (.node (o161_s14 P) .nil .nil) .nil)) (.node (o49_s3 P) (.node (o81_s8 P) (.node (o145_s13 P) .nil .nil) .nil) (.node (o113_s12 P) .nil .nil))) (.node (o25_s0 P) (.node (o41_sb P) (.node (o73_s8 P) (.node (o137_s13 P) .nil .nil) .nil) (.node (o105_s12 P) .nil .nil)) (.node (o57_s8 P) (.node (o89_s11 P) (.node (o153_s14 P) .nil .nil) .nil) (.node (o121_s12 P) .nil .nil)))) (.node (o13_s0 P) (.node (o21_s0 P) (.node (o37_s0 P) (.node (o69_s8 P) (.node (o133_s13 P) .nil .nil) .nil) (.node (o101_s14 P) (.node (o165_s14 P) .nil .nil) .nil)) (.node (o53_s3 P) (.node (o85_s11 P) (.node (o149_s14 P) .nil .nil) .nil) (.node (o117_s12 P) .nil .nil))) (.node (o29_s0 P) (.node (o45_s3 P) (.node (o77_s8 P) (.node (o141_s13 P) .nil .nil) .nil) (.node (o109_s12 P) .nil .nil)) (.node (o61_s8 P) (.node (o93_s11 P) (.node (o157_s14 P) .nil .nil) .nil) (.node (o125_s12 P) .nil .nil)))))) (.node (o2_s11 P) (.node (o4_s0 P) (.node (o8_s0 P) (.node (o16_s0 P) (.node (o32_s0 P) (.node (o64_s8 P) (.node (o128_s13 P) .nil .nil) .nil) (.node (o96_s11 P) (.node (o160_s14 P) .nil .nil) .nil)) (.node (o48_s3 P) (.node (o80_s8 P) (.node (o144_s13 P) .nil .nil) .nil) (.node (o112_s12 P) .nil .nil))) (.node (o24_s0 P) (.node (o40_s14 P) (.node (o72_s8 P) (.node (o136_s13 P) .nil .nil) .nil) (.node (o104_s11 P) .nil .nil)) (.node (o56_s3 P) (.node (o88_s11 P) (.node (o152_s14 P) .nil .nil) .nil) (.node (o120_s12 P) .nil .nil)))) (.node (o12_s0 P) (.node (o20_s0 P) (.node (o36_s0 P) (.node (o68_s8 P) (.node (o132_s13 P) .nil .nil) .nil) (.node (o100_s11 P) (.node (o164_s14 P) .nil .nil) .nil)) (.node (o52_s3 P) (.node (o84_s11 P) (.node (o148_s14 P) .nil .nil) .nil) (.node (o116_s12 P) .nil .nil))) (.node (o28_s0 P) (.node (o44_s3 P) (.node (o76_s8 P) (.node (o140_s13 P) .nil .nil) .nil) (.node (o108_s12 P) .nil .nil)) (.node (o60_s8 P) (.node (o92_s11 P) (.node (o156_s14 P) .nil .nil) .nil) (.node (o124_s12 P) .nil .nil))))) (.node (o6_s0 P) (.node (o10_s0 P) (.node (o18_s0 P) (.node (o34_s0 P) (.node (o66_s8 P) (.node (o130_s13 P) .nil .nil) .nil) (.node (o98_s11 P) (.node (o162_s14 P) .nil .nil) .nil)) (.node (o50_s3 P) (.node (o82_s8 P) (.node (o146_s13 P) .nil .nil) .nil) (.node (o114_s12 P) .nil .nil))) (.node (o26_s0 P) (.node (o42_sb P) (.node (o74_s8 P) (.node (o138_s13 P) .nil .nil) .nil) (.node (o106_s12 P) .nil .nil)) (.node (o58_s8 P) (.node (o90_s11 P) (.node (o154_s14 P) .nil .nil) .nil) (.node (o122_s12 P) .nil .nil)))) (.node (o14_s0 P) (.node (o22_s0 P) (.node (o38_s0 P) (.node (o70_s8 P) (.node (o134_s13 P) .nil .nil) .nil) (.node (o102_s11 P) (.node (o166_s14 P) .nil .nil) .nil)) (.node (o54_s3 P) (.node (o86_s11 P) (.node (o150_s14 P) .nil .nil) .nil) (.node (o118_s12 P) .nil .nil))) (.node (o30_s0 P) (.node (o46_s3 P) (.node (o78_s8 P) (.node (o142_s13 P) .nil .nil) .nil) (.node (o110_s12 P) .nil .nil)) (.node (o62_s8 P) (.node (o94_s11 P) (.node (o158_s14 P) .nil .nil) .nil) (.node (o126_s13 P) .nil .nil)))))))
def S_s14 (w : World) (os : OsState) : SharedT := ⟨T_s14 w.params, 168, life0, #[], drawn0, 496, os⟩
def o3_s16 (P : Params) : Obj := ⟨(.type "dict"), none, (.dict #[⟨PyData.keyHash P (.ofString "__name__"), (.str (.ofString "__name__") 165), (.str (.ofString "rlp.exceptions") 390)⟩, ⟨PyData.keyHash P (.ofString "__doc__"), (.str (.ofString "__doc__") 166), .none⟩, ⟨PyData.keyHash P (.ofString "__package__"), (.str (.ofString "__package__") 167), .none⟩, ⟨PyData.keyHash P (.ofString "__loader__"), (.str (.ofString "__loader__") 168), (.builtin "__main__.__loader__#opaque")⟩, ⟨PyData.keyHash P (.ofString "__spec__"), (.str (.ofString "__spec__") 169), .none⟩, ⟨PyData.keyHash P (.ofString "__annotations__"), (.str (.ofString "__annotations__") 170), (.ref 6)⟩, ⟨PyData.keyHash P (.ofString "__builtins__"), (.str (.ofString "__builtins__") 171), (.ref 4)⟩, ⟨PyData.keyHash P (.ofString "__file__"), (.str (.ofString "__file__") 173), (.str (.ofString "/claim/cut.py") 172)⟩, ⟨PyData.keyHash P (.ofString "__cached__"), (.str (.ofString "__cached__") 174), .none⟩, ⟨PyData.keyHash P (.ofString "pack"), (.str (.ofString "pack") 312), (.builtin "_struct.pack")⟩, ⟨PyData.keyHash P (.ofString "_wall"), (.str (.ofString "_wall") 325), (.ref 49)⟩, ⟨PyData.keyHash P (.ofString "CHARSET"), (.str (.ofString "CHARSET") 329), (.str (.ofString "qpzry9x8gf2tvdw0s3jn54khce6mua7l") 328)⟩, ⟨PyData.keyHash P (.ofString "bech32_polymod"), (.str (.ofString "bech32_polymod") 341), (.ref 56)⟩, ⟨PyData.keyHash P (.ofString "bech32_hrp_expand"), (.str (.ofString "bech32_hrp_expand") 347), (.ref 61)⟩, ⟨PyData.keyHash P (.ofString "bech32_verify_checksum"), (.str (.ofString "bech32_verify_checksum") 355), (.ref 68)⟩, ⟨PyData.keyHash P (.ofString "bech32_create_checksum"), (.str (.ofString "bech32_create_checksum") 361), (.ref 73)⟩, ⟨PyData.keyHash P (.ofString "bech32_encode"), (.str (.ofString "bech32_encode") 367), (.ref 78)⟩, ⟨PyData.keyHash P (.ofString "bech32_decode"), (.str (.ofString "bech32_decode") 373), (.ref 83)⟩, ⟨PyData.keyHash P (.ofString "convertbits"), (.str (.ofString "convertbits") 389), (.ref 91)⟩, ⟨PyData.keyHash P (.ofString "RLPException"), (.str (.ofString "RLPException") 411), (.ref 101)⟩, ⟨PyData.keyHash P (.ofString "EncodingError"), (.str (.ofString "EncodingError") 439), (.ref 123)⟩, ⟨PyData.keyHash P (.ofString "DecodingError"), (.str (.ofString "DecodingError") 467), (.ref 144)⟩, ⟨PyData.keyHash P (.ofString "SerializationError"), (.str (.ofString "SerializationError") 495), (.ref 165)⟩, ⟨PyData.keyHash P (.ofString "ListSerializationError"), (.str (.ofString "ListSerializationError") 526), (.ref 187)⟩, ⟨PyData.keyHash P (.ofString "DeserializationError"), (.str (.ofString "DeserializationError") 554), (.ref 208)⟩] 25), #[]⟩
def o40_s16 (P : Params) : Obj := ⟨.none, none, (.fields #[(.int 2 0), (.int 0 0), (.ref 48), (.int 7 0), (.int 0 0), (.ref 55), (.int 16 0), (.int 0 0), (.ref 60), (.int 18 0), (.int 0 0), (.ref 67), (.int 20 0), (.int 0 0), (.ref 72), (.int 24 0), (.int 0 0), (.ref 77), (.int 27 0), (.int 0 0), (.ref 82), (.int 41 0), (.int 0 0), (.ref 90), (.int 62 0), (.int 0 0), (.ref 97), (.int 64 0), (.int 0 0), (.ref 111), (.int 69 0), (.int 0 0), (.ref 132), (.int 74 0), (.int 0 0), (.ref 153), (.int 79 0), (.int 0 0), (.ref 174), (.int 89 0), (.int 0 0), (.ref 196)]), #[]⟩
def o101_s16 (P : Params) : Obj := ⟨(.type "type"), none, (.cls ⟨(.ofString "RLPException"), [(.type "Exception")], [(.ref 101), (.type "Exception"), (.type "BaseException"), (.type "object")], 100, (.ofString "RLPException"), true, [], [(.ref 123), (.ref 144), (.ref 165), (.ref 208)], false, none, false⟩), #[(some (.ref 92)), none, (some (.str (.ofString "RLPException") 392)), (some (.str (.ofString "RLPException") 400)), (some (.builtin "Exception.__new__")), (some (.bool true))]⟩
def o165_s16 (P : Params) : Obj := ⟨(.type "type"), none, (.cls ⟨(.ofString "SerializationError"), [(.ref 101)], [(.ref 165), (.ref 101), (.type "Exception"), (.type "BaseException"), (.type "object")], 164, (.ofString "SerializationError"), true, [], [(.ref 187)], false, none, false⟩), #[(some (.ref 147)), none, (some (.str (.ofString "SerializationError") 468)), (some (.str (.ofString "SerializationError") 476)), (some (.builtin "Exception.__new__")), (some (.bool true))]⟩
def o168_s16 (P : Params) : Obj := ⟨(.type "tuple"), none, (.seq #[(.ref 165)] 0), #[]⟩
def o169_s16 (P : Params) : Obj := ⟨(.type "builtin_function_or_method"), none, (.fields #[(.builtin "type.__prepare__"), (.type "type")]), #[]⟩
def o170_s16 (P : Params) : Obj := ⟨(.type "dict"), none, (.dict #[⟨PyData.keyHash P (.ofString "__module__"), (.str (.ofString "__module__") 503), (.str (.ofString "rlp.exceptions") 390)⟩, ⟨PyData.keyHash P (.ofString "__qualname__"), (.str (.ofString "__qualname__") 505), (.str (.ofString "ListSerializationError") 504)⟩, ⟨PyData.keyHash P (.ofString "__firstlineno__"), (.str (.ofString "__firstlineno__") 507), (.int 79 506)⟩, ⟨PyData.keyHash P (.ofString "__init__"), (.str (.ofString "__init__") 519), (.ref 184)⟩, ⟨PyData.keyHash P (.ofString "__static_attributes__"), (.str (.ofString "__static_attributes__") 522), (.ref 185)⟩, ⟨PyData.keyHash P (.ofString "__classcell__"), (.str (.ofString "__classcell__") 523), (.ref 171)⟩] 6), #[]⟩
def o171_s16 (P : Params) : Obj := ⟨(.type "cell"), none, (.cell (some (.ref 187))), #[]⟩
def o172_s16 (P : Params) : Obj := ⟨(.type "tuple"), none, (.seq #[] 0), #[]⟩
def o173_s16 (P : Params) : Obj := ⟨.none, none, (.fields #[(.int 81 0), (.int 4 0), (.ref 183)]), #[]⟩
def o174_s16 (P : Params) : Obj := ⟨(.type "code"), none, (.fields #[(.str (.ofString "ListSerializationError") 498), (.str (.ofString "ListSerializationError") 499), (.str (.ofString "/claim/cut.py") 500), (.int 79 0), (.int 0 0), (.int 0 0), (.int 0 0), (.int 0 0), (.ref 172), (.bool false), (.int 313 0), (.ref 173), .none, .none, .none, .none, (.int 501 0), (.int 79 0), (.str (.ofString "/claim/cut.py") 502)]), #[]⟩
def o175_s16 (P : Params) : Obj := ⟨(.type "frame"), none, .plain, #[(some (.ref 174)), (some (.ref 3)), (some (.ref 170)), none, (some (.str (.ofString "rlp.exceptions") 390)), none, (some (.ref 0))]⟩
def o176_s16 (P : Params) : Obj := ⟨(.type "tuple"), none, (.seq #[.none, .none, .none, .none] 0), #[]⟩
def o177_s16 (P : Params) : Obj := ⟨(.type "tuple"), none, (.seq #[(.ref 171)] 0), #[]⟩
def o178_s16 (P : Params) : Obj := ⟨(.type "tuple"), none, (.seq #[(.str (.ofString "__class__") 511)] 0), #[]⟩
def o179_s16 (P : Params) : Obj := ⟨.none, none, (.fields #[]), #[]⟩
def o180_s16 (P : Params) : Obj := ⟨(.type "tuple"), none, (.seq #[(.str (.ofString "self") 512), (.str (.ofString "message") 513), (.str (.ofString "obj") 514), (.str (.ofString "element_exception") 515), (.str (.ofString "index") 516)] 0), #[]⟩
def o181_s16 (P : Params) : Obj := ⟨(.type "tuple"), none, (.seq #[] 0), #[]⟩
def o182_s16 (P : Params) : Obj := ⟨.none, none, (.func ⟨(.ofString "__init__"), (.ofString "ListSerializationError.__init__"), pA (stA [16, 0]), .stmts (bA (stA [16, 0])), sA (stA [16, 0]), 0, [], .none, .none, .none, .none, none, .none, .none, 0⟩), #[]⟩
def o183_s16 (P : Params) : Obj := ⟨(.type "code"), none, (.fields #[(.str (.ofString "__init__") 508), (.str (.ofString "ListSerializationError.__init__") 509), (.str (.ofString "/claim/cut.py") 510), (.int 81 0), (.int 5 0), (.int 0 0), (.int 0 0), (.int 3 0), (.ref 178), (.bool true), (.int 313 0), (.ref 179), .none, (.ref 180), (.ref 181), (.ref 182), (.int 517 0), (.int 81 0), (.str (.ofString "/claim/cut.py") 518)]), #[]⟩
def o184_s16 (P : Params) : Obj := ⟨(.type "function"), none, (.func ⟨(.ofString "__init__"), (.ofString "ListSerializationError.__init__"), pA (stA [16, 0]), .stmts (bA (stA [16, 0])), sA (stA [16, 0]), 3, [((.ofString "__class__"), 171)], (.ref 176), .none, .none, (.str (.ofString "rlp.exceptions") 390), none, (.ref 183), (.ref 177), 0⟩), #[]⟩
def o185_s16 (P : Params) : Obj := ⟨(.type "tuple"), none, (.seq #[(.str (.ofString "element_exception") 520), (.str (.ofString "index") 521)] 0), #[]⟩
def o186_s16 (P : Params) : Obj := ⟨(.type "dict"), none, (.dict #[⟨PyData.keyHash P (.ofString "__module__"), (.str (.ofString "__module__") 503), (.str (.ofString "rlp.exceptions") 390)⟩, ⟨PyData.keyHash P (.ofString "__firstlineno__"), (.str (.ofString "__firstlineno__") 507), (.int 79 506)⟩, ⟨PyData.keyHash P (.ofString "__init__"), (.str (.ofString "__init__") 519), (.ref 184)⟩, ⟨PyData.keyHash P (.ofString "__static_attributes__"), (.str (.ofString "__static_attributes__") 522), (.ref 185)⟩, ⟨PyData.keyHash P (.ofString "__doc__"), (.str (.ofString "__doc__") 524), .none⟩] 3), #[]⟩
def o187_s16 (P : Params) : Obj := ⟨(.type "type"), none, (.cls ⟨(.ofString "ListSerializationError"), [(.ref 165)], [(.ref 187), (.ref 165), (.ref 101), (.type "Exception"), (.type "BaseException"), (.type "object")], 186, (.ofString "ListSerializationError"), true, [], [], false, none, false⟩), #[(some (.ref 168)), none, (some (.str (.ofString "ListSerializationError") 496)), (some (.str (.ofString "ListSerializationError") 504)), (some (.builtin "Exception.__new__")), (some (.bool true))]⟩
def o188_s16 (P : Params) : Obj := ⟨(.type "super"), none, (.fields #[(.ref 187), (.ref 187), (.ref 187)]), #[]⟩
def o189_s16 (P : Params) : Obj := ⟨(.type "builtin_function_or_method"), none, (.fields #[(.builtin "object.__init_subclass__"), (.ref 187)]), #[]⟩
def o190_s16 (P : Params) : Obj := ⟨(.type "tuple"), none, (.seq #[(.ref 101)] 0), #[]⟩
def o191_s16 (P : Params) : Obj := ⟨(.type "builtin_function_or_method"), none, (.fields #[(.builtin "type.__prepare__"), (.type "type")]), #[]⟩
def o192_s16 (P : Params) : Obj := ⟨(.type "dict"), none, (.dict #[⟨PyData.keyHash P (.ofString "__module__"), (.str (.ofString "__module__") 534), (.str (.ofString "rlp.exceptions") 390)⟩, ⟨PyData.keyHash P (.ofString "__qualname__"), (.str (.ofString "__qualname__") 536), (.str (.ofString "DeserializationError") 535)⟩, ⟨PyData.keyHash P (.ofString "__firstlineno__"), (.str (.ofString "__firstlineno__") 538), (.int 89 537)⟩, ⟨PyData.keyHash P (.ofString "__init__"), (.str (.ofString "__init__") 548), (.ref 205)⟩, ⟨PyData.keyHash P (.ofString "__static_attributes__"), (.str (.ofString "__static_attributes__") 550), (.ref 206)⟩, ⟨PyData.keyHash P (.ofString "__classcell__"), (.str (.ofString "__classcell__") 551), (.ref 193)⟩] 6), #[]⟩
def o193_s16 (P : Params) : Obj := ⟨(.type "cell"), none, (.cell (some (.ref 208))), #[]⟩
def o194_s16 (P : Params) : Obj := ⟨(.type "tuple"), none, (.seq #[] 0), #[]⟩
def o195_s16 (P : Params) : Obj := ⟨.none, none, (.fields #[(.int 91 0), (.int 4 0), (.ref 204)]), #[]⟩
def o196_s16 (P : Params) : Obj := ⟨(.type "code"), none, (.fields #[(.str (.ofString "DeserializationError") 529), (.str (.ofString "DeserializationError") 530), (.str (.ofString "/claim/cut.py") 531), (.int 89 0), (.int 0 0), (.int 0 0), (.int 0 0), (.int 0 0), (.ref 194), (.bool false), (.int 313 0), (.ref 195), .none, .none, .none, .none, (.int 532 0), (.int 89 0), (.str (.ofString "/claim/cut.py") 533)]), #[]⟩
def o197_s16 (P : Params) : Obj := ⟨(.type "frame"), none, .plain, #[(some (.ref 196)), (some (.ref 3)), (some (.ref 192)), none, (some (.str (.ofString "rlp.exceptions") 390)), none, (some (.ref 0))]⟩
def o198_s16 (P : Params) : Obj := ⟨(.type "tuple"), none, (.seq #[(.ref 193)] 0), #[]⟩
def o199_s16 (P : Params) : Obj := ⟨(.type "tuple"), none, (.seq #[(.str (.ofString "__class__") 542)] 0), #[]⟩
def o200_s16 (P : Params) : Obj := ⟨.none, none, (.fields #[]), #[]⟩
def o201_s16 (P : Params) : Obj := ⟨(.type "tuple"), none, (.seq #[(.str (.ofString "self") 543), (.str (.ofString "message") 544), (.str (.ofString "serial") 545)] 0), #[]⟩
def o202_s16 (P : Params) : Obj := ⟨(.type "tuple"), none, (.seq #[] 0), #[]⟩
def o203_s16 (P : Params) : Obj := ⟨.none, none, (.func ⟨(.ofString "__init__"), (.ofString "DeserializationError.__init__"), pA (stA [17, 0]), .stmts (bA (stA [17, 0])), sA (stA [17, 0]), 0, [], .none, .none, .none, .none, none, .none, .none, 0⟩), #[]⟩
def o204_s16 (P : Params) : Obj := ⟨(.type "code"), none, (.fields #[(.str (.ofString "__init__") 539), (.str (.ofString "DeserializationError.__init__") 540), (.str (.ofString "/claim/cut.py") 541), (.int 91 0), (.int 3 0), (.int 0 0), (.int 0 0), (.int 3 0), (.ref 199), (.bool true), (.int 313 0), (.ref 200), .none, (.ref 201), (.ref 202), (.ref 203), (.int 546 0), (.int 91 0), (.str (.ofString "/claim/cut.py") 547)]), #[]⟩
def o205_s16 (P : Params) : Obj := ⟨(.type "function"), none, (.func ⟨(.ofString "__init__"), (.ofString "DeserializationError.__init__"), pA (stA [17, 0]), .stmts (bA (stA [17, 0])), sA (stA [17, 0]), 3, [((.ofString "__class__"), 193)], .none, .none, .none, (.str (.ofString "rlp.exceptions") 390), none, (.ref 204), (.ref 198), 0⟩), #[]⟩
def o206_s16 (P : Params) : Obj := ⟨(.type "tuple"), none, (.seq #[(.str (.ofString "serial") 549)] 0), #[]⟩
def o207_s16 (P : Params) : Obj := ⟨(.type "dict"), none, (.dict #[⟨PyData.keyHash P (.ofString "__module__"), (.str (.ofString "__module__") 534), (.str (.ofString "rlp.exceptions") 390)⟩, ⟨PyData.keyHash P (.ofString "__firstlineno__"), (.str (.ofString "__firstlineno__") 538), (.int 89 537)⟩, ⟨PyData.keyHash P (.ofString "__init__"), (.str (.ofString "__init__") 548), (.ref 205)⟩, ⟨PyData.keyHash P (.ofString "__static_attributes__"), (.str (.ofString "__static_attributes__") 550), (.ref 206)⟩, ⟨PyData.keyHash P (.ofString "__doc__"), (.str (.ofString "__doc__") 552), .none⟩] 3), #[]⟩
def o208_s16 (P : Params) : Obj := ⟨(.type "type"), none, (.cls ⟨(.ofString "DeserializationError"), [(.ref 101)], [(.ref 208), (.ref 101), (.type "Exception"), (.type "BaseException"), (.type "object")], 207, (.ofString "DeserializationError"), true, [], [], false, none, false⟩), #[(some (.ref 190)), none, (some (.str (.ofString "DeserializationError") 527)), (some (.str (.ofString "DeserializationError") 535)), (some (.builtin "Exception.__new__")), (some (.bool true))]⟩
def o209_s16 (P : Params) : Obj := ⟨(.type "super"), none, (.fields #[(.ref 208), (.ref 208), (.ref 208)]), #[]⟩
def o210_s16 (P : Params) : Obj := ⟨(.type "builtin_function_or_method"), none, (.fields #[(.builtin "object.__init_subclass__"), (.ref 208)]), #[]⟩
def T_s16 (P : Params) : BT := (.node (o0_s0 P) (.node (o1_s0 P) (.node (o3_s16 P) (.node (o7_s0 P) (.node (o15_s0 P) (.node (o31_s0 P) (.node (o63_s8 P) (.node (o127_s13 P) .nil .nil) (.node (o191_s16 P) .nil .nil)) (.node (o95_s11 P) (.node (o159_s14 P) .nil .nil) .nil)) (.node (o47_s3 P) (.node (o79_s8 P) (.node (o143_s13 P) .nil .nil) (.node (o207_s16 P) .nil .nil)) (.node (o111_s12 P) (.node (o175_s16 P) .nil .nil) .nil))) (.node (o23_s0 P) (.node (o39_sb P) (.node (o71_s8 P) (.node (o135_s13 P) .nil .nil) (.node (o199_s16 P) .nil .nil)) (.node (o103_s11 P) (.node (o167_s14 P) .nil .nil) .nil)) (.node (o55_s3 P) (.node (o87_s11 P) (.node (o151_s14 P) .nil .nil) .nil) (.node (o119_s12 P) (.node (o183_s16 P) .nil .nil) .nil)))) (.node (o11_s0 P) (.node (o19_s0 P) (.node (o35_s0 P) (.node (o67_s8 P) (.node (o131_s13 P) .nil .nil) (.node (o195_s16 P) .nil .nil)) (.node (o99_s11 P) (.node (o163_s14 P) .nil .nil) .nil)) (.node (o51_s3 P) (.node (o83_s8 P) (.node (o147_s14 P) .nil .nil) .nil) (.node (o115_s12 P) (.node (o179_s16 P) .nil .nil) .nil))) (.node (o27_s0 P) (.node (o43_s3 P) (.node (o75_s8 P) (.node (o139_s13 P) .nil .nil) (.node (o203_s16 P) .nil .nil)) (.node (o107_s12 P) (.node (o171_s16 P) .nil .nil) .nil)) (.node (o59_s8 P) (.node (o91_s11 P) (.node (o155_s14 P) .nil .nil) .nil) (.node (o123_s12 P) (.node (o187_s16 P) .nil .nil) .nil))))) (.node (o5_s0 P) (.node (o9_s0 P) (.node (o17_s0 P) (.node (o33_s0 P) (.node (o65_s8 P) (.node (o129_s13 P) .nil .nil) (.node (o193_s16 P) .nil .nil)) (.node (o97_s11 P) (.node (o161_s14 P) .nil .nil) .nil)) (.node (o49_s3 P) (.node (o81_s8 P) (.node (o145_s13 P) .nil .nil) (.node (o209_s16 P) .nil .nil)) (.node (o113_s12 P) (.node (o177_s16 P) .nil .nil) .nil))) (.node (o25_s0 P) (.node (o41_sb P) (.node (o73_s8 P) (.node (o137_s13 P) .nil .nil) (.node (o201_s16 P) .nil .nil)) (.node (o105_s12 P) (.node (o169_s16 P) .nil .nil) .nil)) (.node (o57_s8 P) (.node (o89_s11 P) (.node (o153_s14 P) .nil .nil) .nil) (.node (o121_s12 P) (.node (o185_s16 P) .nil .nil) .nil)))) (.node (o13_s0 P) (.node (o21_s0 P) (.node (o37_s0 P) (.node (o69_s8 P) (.node (o133_s13 P) .nil .nil) (.node (o197_s16 P) .nil .nil)) (.node (o101_s16 P) (.node (o165_s16 P) .nil .nil) .nil)) (.node (o53_s3 P) (.node (o85_s11 P) (.node (o149_s14 P) .nil .nil) .nil) (.node (o117_s12 P) (.node (o181_s16 P) .nil .nil) .nil))) (.node (o29_s0 P) (.node (o45_s3 P) (.node (o77_s8 P) (.node (o141_s13 P) .nil .nil) (.node (o205_s16 P) .nil .nil)) (.node (o109_s12 P) (.node (o173_s16 P) .nil .nil) .nil)) (.node (o61_s8 P) (.node (o93_s11 P) (.node (o157_s14 P) .nil .nil) .nil) (.node (o125_s12 P) (.node (o189_s16 P) .nil .nil) .nil)))))) (.node (o2_s11 P) (.node (o4_s0 P) (.node (o8_s0 P) (.node (o16_s0 P) (.node (o32_s0 P) (.node (o64_s8 P) (.node (o128_s13 P) .nil .nil) (.node (o192_s16 P) .nil .nil)) (.node (o96_s11 P) (.node (o160_s14 P) .nil .nil) .nil)) (.node (o48_s3 P) (.node (o80_s8 P) (.node (o144_s13 P) .nil .nil) (.node (o208_s16 P) .nil .nil)) (.node (o112_s12 P) (.node (o176_s16 P) .nil .nil) .nil))) (.node (o24_s0 P) (.node (o40_s16 P) (.node (o72_s8 P) (.node (o136_s13 P) .nil .nil) (.node (o200_s16 P) .nil .nil)) (.node (o104_s11 P) (.node (o168_s16 P) .nil .nil) .nil)) (.node (o56_s3 P) (.node (o88_s11 P) (.node (o152_s14 P) .nil .nil) .nil) (.node (o120_s12 P) (.node (o184_s16 P) .nil .nil) .nil)))) (.node (o12_s0 P) (.node (o20_s0 P) (.node (o36_s0 P) (.node (o68_s8 P) (.node (o132_s13 P) .nil .nil) (.node (o196_s16 P) .nil .nil)) (.node (o100_s11 P) (.node (o164_s14 P) .nil .nil) .nil)) (.node (o52_s3 P) (.node (o84_s11 P) (.node (o148_s14 P) .nil .nil) .nil) (.node (o116_s12 P) (.node (o180_s16 P) .nil .nil) .nil))) (.node (o28_s0 P) (.node (o44_s3 P) (.node (o76_s8 P) (.node (o140_s13 P) .nil .nil) (.node (o204_s16 P) .nil .nil)) (.node (o108_s12 P) (.node (o172_s16 P) .nil .nil) .nil)) (.node (o60_s8 P) (.node (o92_s11 P) (.node (o156_s14 P) .nil .nil) .nil) (.node (o124_s12 P) (.node (o188_s16 P) .nil .nil) .nil))))) (.node (o6_s0 P) (.node (o10_s0 P) (.node (o18_s0 P) (.node (o34_s0 P) (.node (o66_s8 P) (.node (o130_s13 P) .nil .nil) (.node (o194_s16 P) .nil .nil)) (.node (o98_s11 P) (.node (o162_s14 P) .nil .nil) .nil)) (.node (o50_s3 P) (.node (o82_s8 P) (.node (o146_s13 P) .nil .nil) (.node (o210_s16 P) .nil .nil)) (.node (o114_s12 P) (.node (o178_s16 P) .nil .nil) .nil))) (.node (o26_s0 P) (.node (o42_sb P) (.node (o74_s8 P) (.node (o138_s13 P) .nil .nil) (.node (o202_s16 P) .nil .nil)) (.node (o106_s12 P) (.node (o170_s16 P) .nil .nil) .nil)) (.node (o58_s8 P) (.node (o90_s11 P) (.node (o154_s14 P) .nil .nil) .nil) (.node (o122_s12 P) (.node (o186_s16 P) .nil .nil) .nil)))) (.node (o14_s0 P) (.node (o22_s0 P) (.node (o38_s0 P) (.node (o70_s8 P) (.node (o134_s13 P) .nil .nil) (.node (o198_s16 P) .nil .nil)) (.node (o102_s11 P) (.node (o166_s14 P) .nil .nil) .nil)) (.node (o54_s3 P) (.node (o86_s11 P) (.node (o150_s14 P) .nil .nil) .nil) (.node (o118_s12 P) (.node (o182_s16 P) .nil .nil) .nil))) (.node (o30_s0 P) (.node (o46_s3 P) (.node (o78_s8 P) (.node (o142_s13 P) .nil .nil) (.node (o206_s16 P) .nil .nil)) (.node (o110_s12 P) (.node (o174_s16 P) .nil .nil) .nil)) (.node (o62_s8 P) (.node (o94_s11 P) (.node (o158_s14 P) .nil .nil) .nil) (.node (o126_s13 P) (.node (o190_s16 P) .nil .nil) .nil)))))))
def S_s16 (w : World) (os : OsState) : SharedT := ⟨T_s16 w.params, 211, life0, #[], drawn0, 555, os⟩
def o3_s17 (P : Params) : Obj := ⟨(.type "dict"), none, (.dict #[⟨PyData.keyHash P (.ofString "__name__"), (.str (.ofString "__name__") 165), (.str (.ofString "rlp.exceptions") 390)⟩, ⟨PyData.keyHash P (.ofString "__doc__"), (.str (.ofString "__doc__") 166), .none⟩, ⟨PyData.keyHash P (.ofString "__package__"), (.str (.ofString "__package__") 167), .none⟩, ⟨PyData.keyHash P (.ofString "__loader__"), (.str (.ofString "__loader__") 168), (.builtin "__main__.__loader__#opaque")⟩, ⟨PyData.keyHash P (.ofString "__spec__"), (.str (.ofString "__spec__") 169), .none⟩, ⟨PyData.keyHash P (.ofString "__annotations__"), (.str (.ofString "__annotations__") 170), (.ref 6)⟩, ⟨PyData.keyHash P (.ofString "__builtins__"), (.str (.ofString "__builtins__") 171), (.ref 4)⟩, ⟨PyData.keyHash P (.ofString "__file__"), (.str (.ofString "__file__") 173), (.str (.ofString "/claim/cut.py") 172)⟩, ⟨PyData.keyHash P (.ofString "__cached__"), (.str (.ofString "__cached__") 174), .none⟩, ⟨PyData.keyHash P (.ofString "pack"), (.str (.ofString "pack") 312), (.builtin "_struct.pack")⟩, ⟨PyData.keyHash P (.ofString "_wall"), (.str (.ofString "_wall") 325), (.ref 49)⟩, ⟨PyData.keyHash P (.ofString "CHARSET"), (.str (.ofString "CHARSET") 329), (.str (.ofString "qpzry9x8gf2tvdw0s3jn54khce6mua7l") 328)⟩, ⟨PyData.keyHash P (.ofString "bech32_polymod"), (.str (.ofString "bech32_polymod") 341), (.ref 56)⟩, ⟨PyData.keyHash P (.ofString "bech32_hrp_expand"), (.str (.ofString "bech32_hrp_expand") 347), (.ref 61)⟩, ⟨PyData.keyHash P (.ofString "bech32_verify_checksum"), (.str (.ofString "bech32_verify_checksum") 355), (.ref 68)⟩, ⟨PyData.keyHash P (.ofString "bech32_create_checksum"), (.str (.ofString "bech32_create_checksum") 361), (.ref 73)⟩, ⟨PyData.keyHash P (.ofString "bech32_encode"), (.str (.ofString "bech32_encode") 367), (.ref 78)⟩, ⟨PyData.keyHash P (.ofString "bech32_decode"), (.str (.ofString "bech32_decode") 373), (.ref 83)⟩, ⟨PyData.keyHash P (.ofString "convertbits"), (.str (.ofString "convertbits") 389), (.ref 91)⟩, ⟨PyData.keyHash P (.ofString "RLPException"), (.str (.ofString "RLPException") 411), (.ref 101)⟩, ⟨PyData.keyHash P (.ofString "EncodingError"), (.str (.ofString "EncodingError") 439), (.ref 123)⟩, ⟨PyData.keyHash P (.ofString "DecodingError"), (.str (.ofString "DecodingError") 467), (.ref 144)⟩, ⟨PyData.keyHash P (.ofString "SerializationError"), (.str (.ofString "SerializationError") 495), (.ref 165)⟩, ⟨PyData.keyHash P (.ofString "ListSerializationError"), (.str (.ofString "ListSerializationError") 526), (.ref 187)⟩, ⟨PyData.keyHash P (.ofString "DeserializationError"), (.str (.ofString "DeserializationError") 554), (.ref 208)⟩, ⟨PyData.keyHash P (.ofString "ListDeserializationError"), (.str (.ofString "ListDeserializationError") 585), (.ref 230)⟩] 26), #[]⟩
def o40_s17 (P : Params) : Obj := ⟨.none, none, (.fields #[(.int 2 0), (.int 0 0), (.ref 48), (.int 7 0), (.int 0 0), (.ref 55), (.int 16 0), (.int 0 0), (.ref 60), (.int 18 0), (.int 0 0), (.ref 67), (.int 20 0), (.int 0 0), (.ref 72), (.int 24 0), (.int 0 0), (.ref 77), (.int 27 0), (.int 0 0), (.ref 82), (.int 41 0), (.int 0 0), (.ref 90), (.int 62 0), (.int 0 0), (.ref 97), (.int 64 0), (.int 0 0), (.ref 111), (.int 69 0), (.int 0 0), (.ref 132), (.int 74 0), (.int 0 0), (.ref 153), (.int 79 0), (.int 0 0), (.ref 174), (.int 89 0), (.int 0 0), (.ref 196), (.int 94 0), (.int 0 0), (.ref 217)]), #[]⟩
def o208_s17 (P : Params) : Obj := ⟨(.type "type"), none, (.cls ⟨(.ofString "DeserializationError"), [(.ref 101)], [(.ref 208), (.ref 101), (.type "Exception"), (.type "BaseException"), (.type "object")], 207, (.ofString "DeserializationError"), true, [], [(.ref 230)], false, none, false⟩), #[(some (.ref 190)), none, (some (.str (.ofString "DeserializationError") 527)), (some (.str (.ofString "DeserializationError") 535)), (some (.builtin "Exception.__new__")), (some (.bool true))]⟩
def o211_s17 (P : Params) : Obj := ⟨(.type "tuple"), none, (.seq #[(.ref 208)] 0), #[]⟩
def o212_s17 (P : Params) : Obj := ⟨(.type "builtin_function_or_method"), none, (.fields #[(.builtin "type.__prepare__"), (.type "type")]), #[]⟩
def o213_s17 (P : Params) : Obj := ⟨(.type "dict"), none, (.dict #[⟨PyData.keyHash P (.ofString "__module__"), (.str (.ofString "__module__") 562), (.str (.ofString "rlp.exceptions") 390)⟩, ⟨PyData.keyHash P (.ofString "__qualname__"), (.str (.ofString "__qualname__") 564), (.str (.ofString "ListDeserializationError") 563)⟩, ⟨PyData.keyHash P (.ofString "__firstlineno__"), (.str (.ofString "__firstlineno__") 566), (.int 94 565)⟩, ⟨PyData.keyHash P (.ofString "__init__"), (.str (.ofString "__init__") 578), (.ref 227)⟩, ⟨PyData.keyHash P (.ofString "__static_attributes__"), (.str (.ofString "__static_attributes__") 581), (.ref 228)⟩, ⟨PyData.keyHash P (.ofString "__classcell__"), (.str (.ofString "__classcell__") 582), (.ref 214)⟩] 6), #[]⟩
def o214_s17 (P : Params) : Obj := ⟨(.type "cell"), none, (.cell (some (.ref 230))), #[]⟩
def o215_s17 (P : Params) : Obj := ⟨(.type "tuple"), none, (.seq #[] 0), #[]⟩
def o216_s17 (P : Params) : Obj := ⟨.none, none, (.fields #[(.int 96 0), (.int 4 0), (.ref 226)]), #[]⟩
def o217_s17 (P : Params) : Obj := ⟨(.type "code"), none, (.fields #[(.str (.ofString "ListDeserializationError") 557), (.str (.ofString "ListDeserializationError") 558), (.str (.ofString "/claim/cut.py") 559), (.int 94 0), (.int 0 0), (.int 0 0), (.int 0 0), (.int 0 0), (.ref 215), (.bool false), (.int 313 0), (.ref 216), .none, .none, .none, .none, (.int 560 0), (.int 94 0), (.str (.ofString "/claim/cut.py") 561)]), #[]⟩
def o218_s17 (P : Params) : Obj := ⟨(.type "frame"), none, .plain, #[(some (.ref 217)), (some (.ref 3)), (some (.ref 213)), none, (some (.str (.ofString "rlp.exceptions") 390)), none, (some (.ref 0))]⟩
def o219_s17 (P : Params) : Obj := ⟨(.type "tuple"), none, (.seq #[.none, .none, .none, .none] 0), #[]⟩
def o220_s17 (P : Params) : Obj := ⟨(.type "tuple"), none, (.seq #[(.ref 214)] 0), #[]⟩
def o221_s17 (P : Params) : Obj := ⟨(.type "tuple"), none, (.seq #[(.str (.ofString "__class__") 570)] 0), #[]⟩
def o222_s17 (P : Params) : Obj := ⟨.none, none, (.fields #[]), #[]⟩
def o223_s17 (P : Params) : Obj := ⟨(.type "tuple"), none, (.seq #[(.str (.ofString "self") 571), (.str (.ofString "message") 572), (.str (.ofString "serial") 573), (.str (.ofString "element_exception") 574), (.str (.ofString "index") 575)] 0), #[]⟩
def o224_s17 (P : Params) : Obj := ⟨(.type "tuple"), none, (.seq #[] 0), #[]⟩
def o225_s17 (P : Params) : Obj := ⟨.none, none, (.func ⟨(.ofString "__init__"), (.ofString "ListDeserializationError.__init__"), pA (stA [18, 0]), .stmts (bA (stA [18, 0])), sA (stA [18, 0]), 0, [], .none, .none, .none, .none, none, .none, .none, 0⟩), #[]⟩
def o226_s17 (P : Params) : Obj := ⟨(.type "code"), none, (.fields #[(.str (.ofString "__init__") 567), (.str (.ofString "ListDeserializationError.__init__") 568), (.str (.ofString "/claim/cut.py") 569), (.int 96 0), (.int 5 0), (.int 0 0), (.int 0 0), (.int 3 0), (.ref 221), (.bool true), (.int 313 0), (.ref 222), .none, (.ref 223), (.ref 224), (.ref 225), (.int 576 0), (.int 96 0), (.str (.ofString "/claim/cut.py") 577)]), #[]⟩
def o227_s17 (P : Params) : Obj := ⟨(.type "function"), none, (.func ⟨(.ofString "__init__"), (.ofString "ListDeserializationError.__init__"), pA (stA [18, 0]), .stmts (bA (stA [18, 0])), sA (stA [18, 0]), 3, [((.ofString "__class__"), 214)], (.ref 219), .none, .none, (.str (.ofString "rlp.exceptions") 390), none, (.ref 226), (.ref 220), 0⟩), #[]⟩
def o228_s17 (P : Params) : Obj := ⟨(.type "tuple"), none, (.seq #[(.str (.ofString "element_exception") 579), (.str (.ofString "index") 580)] 0), #[]⟩
def o229_s17 (P : Params) : Obj := ⟨(.type "dict"), none, (.dict #[⟨PyData.keyHash P (.ofString "__module__"), (.str (.ofString "__module__") 562), (.str (.ofString "rlp.exceptions") 390)⟩, ⟨PyData.keyHash P (.ofString "__firstlineno__"), (.str (.ofString "__firstlineno__") 566), (.int 94 565)⟩, ⟨PyData.keyHash P (.ofString "__init__"), (.str (.ofString "__init__") 578), (.ref 227)⟩, ⟨PyData.keyHash P (.ofString "__static_attributes__"), (.str (.ofString "__static_attributes__") 581), (.ref 228)⟩, ⟨PyData.keyHash P (.ofString "__doc__"), (.str (.ofString "__doc__") 583), .none⟩] 3), #[]⟩
def o230_s17 (P : Params) : Obj := ⟨(.type "type"), none, (.cls ⟨(.ofString "ListDeserializationError"), [(.ref 208)], [(.ref 230), (.ref 208), (.ref 101), (.type "Exception"), (.type "BaseException"), (.type "object")], 229, (.ofString "ListDeserializationError"), true, [], [], false, none, false⟩), #[(some (.ref 211)), none, (some (.str (.ofString "ListDeserializationError") 555)), (some (.str (.ofString "ListDeserializationError") 563)), (some (.builtin "Exception.__new__")), (some (.bool true))]⟩
def o231_s17 (P : Params) : Obj := ⟨(.type "super"), none, (.fields #[(.ref 230), (.ref 230), (.ref 230)]), #[]⟩
def o232_s17 (P : Params) : Obj := ⟨(.type "builtin_function_or_method"), none, (.fields #[(.builtin "object.__init_subclass__"), (.ref 230)]), #[]⟩
def T_s17 (P : Params) : BT := (.node (o0_s0 P) (.node (o1_s0 P) (.node (o3_s17 P) (.node (o7_s0 P) (.node (o15_s0 P) (.node (o31_s0 P) (.node (o63_s8 P) (.node (o127_s13 P) .nil .nil) (.node (o191_s16 P) .nil .nil)) (.node (o95_s11 P) (.node (o159_s14 P) .nil .nil) (.node (o223_s17 P) .nil .nil))) (.node (o47_s3 P) (.node (o79_s8 P) (.node (o143_s13 P) .nil .nil) (.node (o207_s16 P) .nil .nil)) (.node (o111_s12 P) (.node (o175_s16 P) .nil .nil) .nil))) (.node (o23_s0 P) (.node (o39_sb P) (.node (o71_s8 P) (.node (o135_s13 P) .nil .nil) (.node (o199_s16 P) .nil .nil)) (.node (o103_s11 P) (.node (o167_s14 P) .nil .nil) (.node (o231_s17 P) .nil .nil))) (.node (o55_s3 P) (.node (o87_s11 P) (.node (o151_s14 P) .nil .nil) (.node (o215_s17 P) .nil .nil)) (.node (o119_s12 P) (.node (o183_s16 P) .nil .nil) .nil)))) (.node (o11_s0 P) (.node (o19_s0 P) (.node (o35_s0 P) (.node (o67_s8 P) (.node (o131_s13 P) .nil .nil) (.node (o195_s16 P) .nil .nil)) (.node (o99_s11 P) (.node (o163_s14 P) .nil .nil) (.node (o227_s17 P) .nil .nil))) (.node (o51_s3 P) (.node (o83_s8 P) (.node (o147_s14 P) .nil .nil) (.node (o211_s17 P) .nil .nil)) (.node (o115_s12 P) (.node (o179_s16 P) .nil .nil) .nil))) (.node (o27_s0 P) (.node (o43_s3 P) (.node (o75_s8 P) (.node (o139_s13 P) .nil .nil) (.node (o203_s16 P) .nil .nil)) (.node (o107_s12 P) (.node (o171_s16 P) .nil .nil) .nil)) (.node (o59_s8 P) (.node (o91_s11 P) (.node (o155_s14 P) .nil .nil) (.node (o219_s17 P) .nil .nil)) (.node (o123_s12 P) (.node (o187_s16 P) .nil .nil) .nil))))) (.node (o5_s0 P) (.node (o9_s0 P) (.node (o17_s0 P) (.node (o33_s0 P) (.node (o65_s8 P) (.node (o129_s13 P) .nil .nil) (.node (o193_s16 P) .nil .nil)) (.node (o97_s11 P) (.node (o161_s14 P) .nil .nil) (.node (o225_s17 P) .nil .nil))) (.node (o49_s3 P) (.node (o81_s8 P) (.node (o145_s13 P) .nil .nil) (.node (o209_s16 P) .nil .nil)) (.node (o113_s12 P) (.node (o177_s16 P) .nil .nil) .nil))) (.node (o25_s0 P) (.node (o41_sb P) (.node (o73_s8 P) (.node (o137_s13 P) .nil .nil) (.node (o201_s16 P) .nil .nil)) (.node (o105_s12 P) (.node (o169_s16 P) .nil .nil) .nil)) (.node (o57_s8 P) (.node (o89_s11 P) (.node (o153_s14 P) .nil .nil) (.node (o217_s17 P) .nil .nil)) (.node (o121_s12 P) (.node (o185_s16 P) .nil .nil) .nil)))) (.node (o13_s0 P) (.node (o21_s0 P) (.node (o37_s0 P) (.node (o69_s8 P) (.node (o133_s13 P) .nil .nil) (.node (o197_s16 P) .nil .nil)) (.node (o101_s16 P) (.node (o165_s16 P) .nil .nil) (.node (o229_s17 P) .nil .nil))) (.node (o53_s3 P) (.node (o85_s11 P) (.node (o149_s14 P) .nil .nil) (.node (o213_s17 P) .nil .nil)) (.node (o117_s12 P) (.node (o181_s16 P) .nil .nil) .nil))) (.node (o29_s0 P) (.node (o45_s3 P) (.node (o77_s8 P) (.node (o141_s13 P) .nil .nil) (.node (o205_s16 P) .nil .nil)) (.node (o109_s12 P) (.node (o173_s16 P) .nil .nil) .nil)) (.node (o61_s8 P) (.node (o93_s11 P) (.node (o157_s14 P) .nil .nil) (.node (o221_s17 P) .nil .nil)) (.node (o125_s12 P) (.node (o189_s16 P) .nil .nil) .nil)))))) (.node (o2_s11 P) (.node (o4_s0 P) (.node (o8_s0 P) (.node (o16_s0 P) (.node (o32_s0 P) (.node (o64_s8 P) (.node (o128_s13 P) .nil .nil) (.node (o192_s16 P) .nil .nil)) (.node (o96_s11 P) (.node (o160_s14 P) .nil .nil) (.node (o224_s17 P) .nil .nil))) (.node (o48_s3 P) (.node (o80_s8 P) (.node (o144_s13 P) .nil .nil) (.node (o208_s17 P) .nil .nil)) (.node (o112_s12 P) (.node (o176_s16 P) .nil .nil) .nil))) (.node (o24_s0 P) (.node (o40_s17 P) (.node (o72_s8 P) (.node (o136_s13 P) .nil .nil) (.node (o200_s16 P) .nil .nil)) (.node (o104_s11 P) (.node (o168_s16 P) .nil .nil) (.node (o232_s17 P) .nil .nil))) (.node (o56_s3 P) (.node (o88_s11 P) (.node (o152_s14 P) .nil .nil) (.node (o216_s17 P) .nil .nil)) (.node (o120_s12 P) (.node (o184_s16 P) .nil .nil) .nil)))) (.node (o12_s0 P) (.node (o20_s0 P) (.node (o36_s0 P) (.node (o68_s8 P) (.node (o132_s13 P) .nil .nil) (.node (o196_s16 P) .nil .nil)) (.node (o100_s11 P) (.node (o164_s14 P) .nil .nil) (.node (o228_s17 P) .nil .nil))) (.node (o52_s3 P) (.node (o84_s11 P) (.node (o148_s14 P) .nil .nil) (.node (o212_s17 P) .nil .nil)) (.node (o116_s12 P) (.node (o180_s16 P) .nil .nil) .nil))) (.node (o28_s0 P) (.node (o44_s3 P) (.node (o76_s8 P) (.node (o140_s13 P) .nil .nil) (.node (o204_s16 P) .nil .nil)) (.node (o108_s12 P) (.node (o172_s16 P) .nil .nil) .nil)) (.node (o60_s8 P) (.node (o92_s11 P) (.node (o156_s14 P) .nil .nil) (.node (o220_s17 P) .nil .nil)) (.node (o124_s12 P) (.node (o188_s16 P) .nil .nil) .nil))))) (.node (o6_s0 P) (.node (o10_s0 P) (.node (o18_s0 P) (.node (o34_s0 P) (.node (o66_s8 P) (.node (o130_s13 P) .nil .nil) (.node (o194_s16 P) .nil .nil)) (.node (o98_s11 P) (.node (o162_s14 P) .nil .nil) (.node (o226_s17 P) .nil .nil))) (.node (o50_s3 P) (.node (o82_s8 P) (.node (o146_s13 P) .nil .nil) (.node (o210_s16 P) .nil .nil)) (.node (o114_s12 P) (.node (o178_s16 P) .nil .nil) .nil))) (.node (o26_s0 P) (.node (o42_sb P) (.node (o74_s8 P) (.node (o138_s13 P) .nil .nil) (.node (o202_s16 P) .nil .nil)) (.node (o106_s12 P) (.node (o170_s16 P) .nil .nil) .nil)) (.node (o58_s8 P) (.node (o90_s11 P) (.node (o154_s14 P) .nil .nil) (.node (o218_s17 P) .nil .nil)) (.node (o122_s12 P) (.node (o186_s16 P) .nil .nil) .nil)))) (.node (o14_s0 P) (.node (o22_s0 P) (.node (o38_s0 P) (.node (o70_s8 P) (.node (o134_s13 P) .nil .nil) (.node (o198_s16 P) .nil .nil)) (.node (o102_s11 P) (.node (o166_s14 P) .nil .nil) (.node (o230_s17 P) .nil .nil))) (.node (o54_s3 P) (.node (o86_s11 P) (.node (o150_s14 P) .nil .nil) (.node (o214_s17 P) .nil .nil)) (.node (o118_s12 P) (.node (o182_s16 P) .nil .nil) .nil))) (.node (o30_s0 P) (.node (o46_s3 P) (.node (o78_s8 P) (.node (o142_s13 P) .nil .nil) (.node (o206_s16 P) .nil .nil)) (.node (o110_s12 P) (.node (o174_s16 P) .nil .nil) .nil)) (.node (o62_s8 P) (.node (o94_s11 P) (.node (o158_s14 P) .nil .nil) (.node (o222_s17 P) .nil .nil)) (.node (o126_s13 P) (.node (o190_s16 P) .nil .nil) .nil)))))))
def S_s17 (w : World) (os : OsState) : SharedT := ⟨T_s17 w.params, 233, life0, #[], drawn0, 586, os⟩
def o3_s18 (P : Params) : Obj := ⟨(.type "dict"), none, (.dict #[⟨PyData.keyHash P (.ofString "__name__"), (.str (.ofString "__name__") 165), (.str (.ofString "rlp.utils") 586)⟩, ⟨PyData.keyHash P (.ofString "__doc__"), (.str (.ofString "__doc__") 166), .none⟩, ⟨PyData.keyHash P (.ofString "__package__"), (.str (.ofString "__package__") 167), .none⟩, ⟨PyData.keyHash P (.ofString "__loader__"), (.str (.ofString "__loader__") 168), (.builtin "__main__.__loader__#opaque")⟩, ⟨PyData.keyHash P (.ofString "__spec__"), (.str (.ofString "__spec__") 169), .none⟩, ⟨PyData.keyHash P (.ofString "__annotations__"), (.str (.ofString "__annotations__") 170), (.ref 6)⟩, ⟨PyData.keyHash P (.ofString "__builtins__"), (.str (.ofString "__builtins__") 171), (.ref 4)⟩, ⟨PyData.keyHash P (.ofString "__file__"), (.str (.ofString "__file__") 173), (.str (.ofString "/claim/cut.py") 172)⟩, ⟨PyData.keyHash P (.ofString "__cached__"), (.str (.ofString "__cached__") 174), .none⟩, ⟨PyData.keyHash P (.ofString "pack"), (.str (.ofString "pack") 312), (.builtin "_struct.pack")⟩, ⟨PyData.keyHash P (.ofString "_wall"), (.str (.ofString "_wall") 325), (.ref 49)⟩, ⟨PyData.keyHash P (.ofString "CHARSET"), (.str (.ofString "CHARSET") 329), (.str (.ofString "qpzry9x8gf2tvdw0s3jn54khce6mua7l") 328)⟩, ⟨PyData.keyHash P (.ofString "bech32_polymod"), (.str (.ofString "bech32_polymod") 341), (.ref 56)⟩, ⟨PyData.keyHash P (.ofString "bech32_hrp_expand"), (.str (.ofString "bech32_hrp_expand") 347), (.ref 61)⟩, ⟨PyData.keyHash P (.ofString "bech32_verify_checksum"), (.str (.ofString "bech32_verify_checksum") 355), (.ref 68)⟩, ⟨PyData.keyHash P (.ofString "bech32_create_checksum"), (.str (.ofString "bech32_create_checksum") 361), (.ref 73)⟩, ⟨PyData.keyHash P (.ofString "bech32_encode"), (.str (.ofString "bech32_encode") 367), (.ref 78)⟩, ⟨PyData.keyHash P (.ofString "bech32_decode"), (.str (.ofString "bech32_decode") 373), (.ref 83)⟩, ⟨PyData.keyHash P (.ofString "convertbits"), (.str (.ofString "convertbits") 389), (.ref 91)⟩, ⟨PyData.keyHash P (.ofString "RLPException"), (.str (.ofString "RLPException") 411), (.ref 101)⟩, ⟨PyData.keyHash P (.ofString "EncodingError"), (.str (.ofString "EncodingError") 439), (.ref 123)⟩, ⟨PyData.keyHash P (.ofString "DecodingError"), (.str (.ofString "DecodingError") 467), (.ref 144)⟩, ⟨PyData.keyHash P (.ofString "SerializationError"), (.str (.ofString "SerializationError") 495), (.ref 165)⟩, ⟨PyData.keyHash P (.ofString "ListSerializationError"), (.str (.ofString "ListSerializationError") 526), (.ref 187)⟩, ⟨PyData.keyHash P (.ofString "DeserializationError"), (.str (.ofString "DeserializationError") 554), (.ref 208)⟩, ⟨PyData.keyHash P (.ofString "ListDeserializationError"), (.str (.ofString "ListDeserializationError") 585), (.ref 230)⟩] 26), #[]⟩
def T_s18 (P : Params) : BT := (.node (o0_s0 P) (.node (o1_s0 P) (.node (o3_s18 P) (.node (o7_s0 P) (.node (o15_s0 P) (.node (o31_s0 P) (.node (o63_s8 P) (.node (o127_s13 P) .nil .nil) (.node (o191_s16 P) .nil .nil)) (.node (o95_s11 P) (.node (o159_s14 P) .nil .nil) (.node (o223_s17 P) .nil .nil))) (.node (o47_s3 P) (.node (o79_s8 P) (.node (o143_s13 P) .nil .nil) (.node (o207_s16 P) .nil .nil)) (.node (o111_s12 P) (.node (o175_s16 P) .nil .nil) .nil))) (.node (o23_s0 P) (.node (o39_sb P) (.node (o71_s8 P) (.node (o135_s13 P) .nil .nil) (.node (o199_s16 P) .nil .nil)) (.node (o103_s11 P) (.node (o167_s14 P) .nil .nil) (.node (o231_s17 P) .nil .nil))) (.node (o55_s3 P) (.node (o87_s11 P) (.node (o151_s14 P) .nil .nil) (.node (o215_s17 P) .nil .nil)) (.node (o119_s12 P) (.node (o183_s16 P) .nil .nil) .nil)))) (.node (o11_s0 P) (.node (o19_s0 P) (.node (o35_s0 P) (.node (o67_s8 P) (.node (o131_s13 P) .nil .nil) (.node (o195_s16 P) .nil .nil)) (.node (o99_s11 P) (.node (o163_s14 P) .nil .nil) (.node (o227_s17 P) .nil .nil))) (.node (o51_s3 P) (.node (o83_s8 P) (.node (o147_s14 P) .nil .nil) (.node (o211_s17 P) .nil .nil)) (.node (o115_s12 P) (.node (o179_s16 P) .nil .nil) .nil))) (.node (o27_s0 P) (.node (o43_s3 P) (.node (o75_s8 P) (.node (o139_s13 P) .nil .nil) (.node (o203_s16 P) .nil .nil)) (.node (o107_s12 P) (.node (o171_s16 P) .nil .nil) .nil)) (.node (o59_s8 P) (.node (o91_s11 P) (.node (o155_s14 P) .nil .nil) (.node (o219_s17 P) .nil .nil)) (.node (o123_s12 P) (.node (o187_s16 P) .nil .nil) .nil))))) (.node (o5_s0 P) (.node (o9_s0 P) (.node (o17_s0 P) (.node (o33_s0 P) (.node (o65_s8 P) (.node (o129_s13 P) .nil .nil) (.node (o193_s16 P) .nil .nil)) (.node (o97_s11 P) (.node (o161_s14 P) .nil .nil) (.node (o225_s17 P) .nil .nil))) (.node (o49_s3 P) (.node (o81_s8 P) (.node (o145_s13 P) .nil .nil) (.node (o209_s16 P) .nil .nil)) (.node (o113_s12 P) (.node (o177_s16 P) .nil .nil) .nil))) (.node (o25_s0 P) (.node (o41_sb P) (.node (o73_s8 P) (.node (o137_s13 P) .nil .nil) (.node (o201_s16 P) .nil .nil)) (.node (o105_s12 P) (.node (o169_s16 P) .nil .nil) .nil)) (.node (o57_s8 P) (.node (o89_s11 P) (.node (o153_s14 P) .nil .nil) (.node (o217_s17 P) .nil .nil)) (.node (o121_s12 P) (.node (o185_s16 P) .nil .nil) .nil)))) (.node (o13_s0 P) (.node (o21_s0 P) (.node (o37_s0 P) (.node (o69_s8 P) (.node (o133_s13 P) .nil .nil) (.node (o197_s16 P) .nil .nil)) (.node (o101_s16 P) (.node (o165_s16 P) .nil .nil) (.node (o229_s17 P) .nil .nil))) (.node (o53_s3 P) (.node (o85_s11 P) (.node (o149_s14 P) .nil .nil) (.node (o213_s17 P) .nil .nil)) (.node (o117_s12 P) (.node (o181_s16 P) .nil .nil) .nil))) (.node (o29_s0 P) (.node (o45_s3 P) (.node (o77_s8 P) (.node (o141_s13 P) .nil .nil) (.node (o205_s16 P) .nil .nil)) (.node (o109_s12 P) (.node (o173_s16 P) .nil .nil) .nil)) (.node (o61_s8 P) (.node (o93_s11 P) (.node (o157_s14 P) .nil .nil) (.node (o221_s17 P) .nil .nil)) (.node (o125_s12 P) (.node (o189_s16 P) .nil .nil) .nil)))))) (.node (o2_s11 P) (.node (o4_s0 P) (.node (o8_s0 P) (.node (o16_s0 P) (.node (o32_s0 P) (.node (o64_s8 P) (.node (o128_s13 P) .nil .nil) (.node (o192_s16 P) .nil .nil)) (.node (o96_s11 P) (.node (o160_s14 P) .nil .nil) (.node (o224_s17 P) .nil .nil))) (.node (o48_s3 P) (.node (o80_s8 P) (.node (o144_s13 P) .nil .nil) (.node (o208_s17 P) .nil .nil)) (.node (o112_s12 P) (.node (o176_s16 P) .nil .nil) .nil))) (.node (o24_s0 P) (.node (o40_s17 P) (.node (o72_s8 P) (.node (o136_s13 P) .nil .nil) (.node (o200_s16 P) .nil .nil)) (.node (o104_s11 P) (.node (o168_s16 P) .nil .nil) (.node (o232_s17 P) .nil .nil))) (.node (o56_s3 P) (.node (o88_s11 P) (.node (o152_s14 P) .nil .nil) (.node (o216_s17 P) .nil .nil)) (.node (o120_s12 P) (.node (o184_s16 P) .nil .nil) .nil)))) (.node (o12_s0 P) (.node (o20_s0 P) (.node (o36_s0 P) (.node (o68_s8 P) (.node (o132_s13 P) .nil .nil) (.node (o196_s16 P) .nil .nil)) (.node (o100_s11 P) (.node (o164_s14 P) .nil .nil) (.node (o228_s17 P) .nil .nil))) (.node (o52_s3 P) (.node (o84_s11 P) (.node (o148_s14 P) .nil .nil) (.node (o212_s17 P) .nil .nil)) (.node (o116_s12 P) (.node (o180_s16 P) .nil .nil) .nil))) (.node (o28_s0 P) (.node (o44_s3 P) (.node (o76_s8 P) (.node (o140_s13 P) .nil .nil) (.node (o204_s16 P) .nil .nil)) (.node (o108_s12 P) (.node (o172_s16 P) .nil .nil) .nil)) (.node (o60_s8 P) (.node (o92_s11 P) (.node (o156_s14 P) .nil .nil) (.node (o220_s17 P) .nil .nil)) (.node (o124_s12 P) (.node (o188_s16 P) .nil .nil) .nil))))) (.node (o6_s0 P) (.node (o10_s0 P) (.node (o18_s0 P) (.node (o34_s0 P) (.node (o66_s8 P) (.node (o130_s13 P) .nil .nil) (.node (o194_s16 P) .nil .nil)) (.node (o98_s11 P) (.node (o162_s14 P) .nil .nil) (.node (o226_s17 P) .nil .nil))) (.node (o50_s3 P) (.node (o82_s8 P) (.node (o146_s13 P) .nil .nil) (.node (o210_s16 P) .nil .nil)) (.node (o114_s12 P) (.node (o178_s16 P) .nil .nil) .nil))) (.node (o26_s0 P) (.node (o42_sb P) (.node (o74_s8 P) (.node (o138_s13 P) .nil .nil) (.node (o202_s16 P) .nil .nil)) (.node (o106_s12 P) (.node (o170_s16 P) .nil .nil) .nil)) (.node (o58_s8 P) (.node (o90_s11 P) (.node (o154_s14 P) .nil .nil) (.node (o218_s17 P) .nil .nil)) (.node (o122_s12 P) (.node (o186_s16 P) .nil .nil) .nil)))) (.node (o14_s0 P) (.node (o22_s0 P) (.node (o38_s0 P) (.node (o70_s8 P) (.node (o134_s13 P) .nil .nil) (.node (o198_s16 P) .nil .nil)) (.node (o102_s11 P) (.node (o166_s14 P) .nil .nil) (.node (o230_s17 P) .nil .nil))) (.node (o54_s3 P) (.node (o86_s11 P) (.node (o150_s14 P) .nil .nil) (.node (o214_s17 P) .nil .nil)) (.node (o118_s12 P) (.node (o182_s16 P) .nil .nil) .nil))) (.node (o30_s0 P) (.node (o46_s3 P) (.node (o78_s8 P) (.node (o142_s13 P) .nil .nil) (.node (o206_s16 P) .nil .nil)) (.node (o110_s12 P) (.node (o174_s16 P) .nil .nil) .nil)) (.node (o62_s8 P) (.node (o94_s11 P) (.node (o158_s14 P) .nil .nil) (.node (o222_s17 P) .nil .nil)) (.node (o126_s13 P) (.node (o190_s16 P) .nil .nil) .nil)))))))
def S_s18 (w : World) (os : OsState) : SharedT := ⟨T_s18 w.params, 233, life0, #[], drawn0, 588, os⟩
def o3_s19 (P : Params) : Obj := ⟨(.type "dict"), none, (.dict #[⟨PyData.keyHash P (.ofString "__name__"), (.str (.ofString "__name__") 165), (.str (.ofString "rlp.utils") 586)⟩, ⟨PyData.keyHash P (.ofString "__doc__"), (.str (.ofString "__doc__") 166), .none⟩, ⟨PyData.keyHash P (.ofString "__package__"), (.str (.ofString "__package__") 167), .none⟩, ⟨PyData.keyHash P (.ofString "__loader__"), (.str (.ofString "__loader__") 168), (.builtin "__main__.__loader__#opaque")⟩, ⟨PyData.keyHash P (.ofString "__spec__"), (.str (.ofString "__spec__") 169), .none⟩, ⟨PyData.keyHash P (.ofString "__annotations__"), (.str (.ofString "__annotations__") 170), (.ref 6)⟩, ⟨PyData.keyHash P (.ofString "__builtins__"), (.str (.ofString "__builtins__") 171), (.ref 4)⟩, ⟨PyData.keyHash P (.ofString "__file__"), (.str (.ofString "__file__") 173), (.str (.ofString "/claim/cut.py") 172)⟩, ⟨PyData.keyHash P (.ofString "__cached__"), (.str (.ofString "__cached__") 174), .none⟩, ⟨PyData.keyHash P (.ofString "pack"), (.str (.ofString "pack") 312), (.builtin "_struct.pack")⟩, ⟨PyData.keyHash P (.ofString "_wall"), (.str (.ofString "_wall") 325), (.ref 49)⟩, ⟨PyData.keyHash P (.ofString "CHARSET"), (.str (.ofString "CHARSET") 329), (.str (.ofString "qpzry9x8gf2tvdw0s3jn54khce6mua7l") 328)⟩, ⟨PyData.keyHash P (.ofString "bech32_polymod"), (.str (.ofString "bech32_polymod") 341), (.ref 56)⟩, ⟨PyData.keyHash P (.ofString "bech32_hrp_expand"), (.str (.ofString "bech32_hrp_expand") 347), (.ref 61)⟩, ⟨PyData.keyHash P (.ofString "bech32_verify_checksum"), (.str (.ofString "bech32_verify_checksum") 355), (.ref 68)⟩, ⟨PyData.keyHash P (.ofString "bech32_create_checksum"), (.str (.ofString "bech32_create_checksum") 361), (.ref 73)⟩, ⟨PyData.keyHash P (.ofString "bech32_encode"), (.str (.ofString "bech32_encode") 367), (.ref 78)⟩, ⟨PyData.keyHash P (.ofString "bech32_decode"), (.str (.ofString "bech32_decode") 373), (.ref 83)⟩, ⟨PyData.keyHash P (.ofString "convertbits"), (.str (.ofString "convertbits") 389), (.ref 91)⟩, ⟨PyData.keyHash P (.ofString "RLPException"), (.str (.ofString "RLPException") 411), (.ref 101)⟩, ⟨PyData.keyHash P (.ofString "EncodingError"), (.str (.ofString "EncodingError") 439), (.ref 123)⟩, ⟨PyData.keyHash P (.ofString "DecodingError"), (.str (.ofString "DecodingError") 467), (.ref 144)⟩, ⟨PyData.keyHash P (.ofString "SerializationError"), (.str (.ofString "SerializationError") 495), (.ref 165)⟩, ⟨PyData.keyHash P (.ofString "ListSerializationError"), (.str (.ofString "ListSerializationError") 526), (.ref 187)⟩, ⟨PyData.keyHash P (.ofString "DeserializationError"), (.str (.ofString "DeserializationError") 554), (.ref 208)⟩, ⟨PyData.keyHash P (.ofString "ListDeserializationError"), (.str (.ofString "ListDeserializationError") 585), (.ref 230)⟩, ⟨PyData.keyHash P (.ofString "ALL_BYTES"), (.str (.ofString "ALL_BYTES") 1623), (.ref 245)⟩] 27), #[]⟩
def o40_s19 (P : Params) : Obj := ⟨.none, none, (.fields #[(.int 2 0), (.int 0 0), (.ref 48), (.int 7 0), (.int 0 0), (.ref 55), (.int 16 0), (.int 0 0), (.ref 60), (.int 18 0), (.int 0 0), (.ref 67), (.int 20 0), (.int 0 0), (.ref 72), (.int 24 0), (.int 0 0), (.ref 77), (.int 27 0), (.int 0 0), (.ref 82), (.int 41 0), (.int 0 0), (.ref 90), (.int 62 0), (.int 0 0), (.ref 97), (.int 64 0), (.int 0 0), (.ref 111), (.int 69 0), (.int 0 0), (.ref 132), (.int 74 0), (.int 0 0), (.ref 153), (.int 79 0), (.int 0 0), (.ref 174), (.int 89 0), (.int 0 0), (.ref 196), (.int 94 0), (.int 0 0), (.ref 217), (.int 105 0), (.int 18 0), (.ref 237)]), #[]⟩
def o233_s19 (P : Params) : Obj := ⟨(.type "range"), none, (.fields #[(.int 0 589), (.int 256 588), (.int 1 590)]), #[]⟩
def o234_s19 (P : Params) : Obj := ⟨(.type "range_iterator"), none, (.fields #[(.int 256 0), (.int 0 0), (.int 1 0)]), #[]⟩
def o235_s19 (P : Params) : Obj := ⟨(.type "tuple"), none, (.seq #[] 0), #[]⟩
def o236_s19 (P : Params) : Obj := ⟨.none, none, (.fields #[]), #[]⟩
def o237_s19 (P : Params) : Obj := ⟨(.type "code"), none, (.fields #[(.str (.ofString "<genexpr>") 591), (.str (.ofString "<genexpr>") 592), (.str (.ofString "/claim/cut.py") 593), (.int 105 0), (.int 1 0), (.int 0 0), (.int 0 0), (.int 35 0), (.ref 235), (.bool true), (.int 313 0), (.ref 236), .none, .none, .none, .none, (.int 594 0), (.int 105 0), (.str (.ofString "/claim/cut.py") 595)]), #[]⟩
def o238_s19 (P : Params) : Obj := ⟨(.type "frame"), none, (.dict #[⟨PyData.keyHash P (.ofString ".0"), (.str (.ofString ".0") 596), (.ref 234)⟩, ⟨PyData.keyHash P (.ofString "i"), (.str (.ofString "i") 600), (.int 255 1619)⟩] 2), #[]⟩
def o239_s19 (P : Params) : Obj := ⟨(.type "generator"), none, (.fields #[(.int 0 0), (.str (.ofString "<genexpr>") 597), (.str (.ofString "<genexpr>") 598)]), #[]⟩
def o240_s19 (P : Params) : Obj := ⟨(.type "list"), none, (.seq #[(.bytes #[0] 602), (.bytes #[1] 606), (.bytes #[2] 610), (.bytes #[3] 614), (.bytes #[4] 618), (.bytes #[5] 622), (.bytes #[6] 626), (.bytes #[7] 630), (.bytes #[8] 634), (.bytes #[9] 638), (.bytes #[10] 642), (.bytes #[11] 646), (.bytes #[12] 650), (.bytes #[13] 654), (.bytes #[14] 658), (.bytes #[15] 662), (.bytes #[16] 666), (.bytes #[17] 670), (.bytes #[18] 674), (.bytes #[19] 678), (.bytes #[20] 682), (.bytes #[21] 686), (.bytes #[22] 690), (.bytes #[23] 694), (.bytes #[24] 698), (.bytes #[25] 702), (.bytes #[26] 706), (.bytes #[27] 710), (.bytes #[28] 714), (.bytes #[29] 718), (.bytes #[30] 722), (.bytes #[31] 726), (.bytes #[32] 730), (.bytes #[33] 734), (.bytes #[34] 738), (.bytes #[35] 742), (.bytes #[36] 746), (.bytes #[37] 750), (.bytes #[38] 754), (.bytes #[39] 758), (.bytes #[40] 762), (.bytes #[41] 766), (.bytes #[42] 770), (.bytes #[43] 774), (.bytes #[44] 778), (.bytes #[45] 782), (.bytes #[46] 786), (.bytes #[47] 790), (.bytes #[48] 794), (.bytes #[49] 798), (.bytes #[50] 802), (.bytes #[51] 806), (.bytes #[52] 810), (.bytes #[53] 814), (.bytes #[54] 818), (.bytes #[55] 822), (.bytes #[56] 826), (.bytes #[57] 830), (.bytes #[58] 834), (.bytes #[59] 838), (.bytes #[60] 842), (.bytes #[61] 846), (.bytes #[62] 850), (.bytes #[63] 854), (.bytes #[64] 858), (.bytes #[65] 862), (.bytes #[66] 866), (.bytes #[67] 870), (.bytes #[68] 874), (.bytes #[69] 878), (.bytes #[70] 882), (.bytes #[71] 886), (.bytes #[72] 890), (.bytes #[73] 894), (.bytes #[74] 898), (.bytes #[75] 902), (.bytes #[76] 906), (.bytes #[77] 910), (.bytes #[78] 914), (.bytes #[79] 918), (.bytes #[80] 922), (.bytes #[81] 926), (.bytes #[82] 930), (.bytes #[83] 934), (.bytes #[84] 938), (.bytes #[85] 942), (.bytes #[86] 946), (.bytes #[87] 950), (.bytes #[88] 954), (.bytes #[89] 958), (.bytes #[90] 962), (.bytes #[91] 966), (.bytes #[92] 970), (.bytes #[93] 974), (.bytes #[94] 978), (.bytes #[95] 982), (.bytes #[96] 986), (.bytes #[97] 990), (.bytes #[98] 994), (.bytes #[99] 998), (.bytes #[100] 1002), (.bytes #[101] 1006), (.bytes #[102] 1010), (.bytes #[103] 1014), (.bytes #[104] 1018), (.bytes #[105] 1022), (.bytes #[106] 1026), (.bytes #[107] 1030), (.bytes #[108] 1034), (.bytes #[109] 1038), (.bytes #[110] 1042), (.bytes #[111] 1046), (.bytes #[112] 1050), (.bytes #[113] 1054), (.bytes #[114] 1058), (.bytes #[115] 1062), (.bytes #[116] 1066), (.bytes #[117] 1070), (.bytes #[118] 1074), (.bytes #[119] 1078), (.bytes #[120] 1082), (.bytes #[121] 1086), (.bytes #[122] 1090), (.bytes #[123] 1094), (.bytes #[124] 1098), (.bytes #[125] 1102), (.bytes #[126] 1106), (.bytes #[127] 1110), (.bytes #[128] 1114), (.bytes #[129] 1118), (.bytes #[130] 1122), (.bytes #[131] 1126), (.bytes #[132] 1130), (.bytes #[133] 1134), (.bytes #[134] 1138), (.bytes #[135] 1142), (.bytes #[136] 1146), (.bytes #[137] 1150), (.bytes #[138] 1154), (.bytes #[139] 1158), (.bytes #[140] 1162), (.bytes #[141] 1166), (.bytes #[142] 1170), (.bytes #[143] 1174), (.bytes #[144] 1178), (.bytes #[145] 1182), (.bytes #[146] 1186), (.bytes #[147] 1190), (.bytes #[148] 1194), (.bytes #[149] 1198), (.bytes #[150] 1202), (.bytes #[151] 1206), (.bytes #[152] 1210), (.bytes #[153] 1214), (.bytes #[154] 1218), (.bytes #[155] 1222), (.bytes #[156] 1226), (.bytes #[157] 1230), (.bytes #[158] 1234), (.bytes #[159] 1238), (.bytes #[160] 1242), (.bytes #[161] 1246), (.bytes #[162] 1250), (.bytes #[163] 1254), (.bytes #[164] 1258), (.bytes #[165] 1262), (.bytes #[166] 1266), (.bytes #[167] 1270), (.bytes #[168] 1274), (.bytes #[169] 1278), (.bytes #[170] 1282), (.bytes #[171] 1286), (.bytes #[172] 1290), (.bytes #[173] 1294), (.bytes #[174] 1298), (.bytes #[175] 1302), (.bytes #[176] 1306), (.bytes #[177] 1310), (.bytes #[178] 1314), (.bytes #[179] 1318), (.bytes #[180] 1322), (.bytes #[181] 1326), (.bytes #[182] 1330), (.bytes #[183] 1334), (.bytes #[184] 1338), (.bytes #[185] 1342), (.bytes #[186] 1346), (.bytes #[187] 1350), (.bytes #[188] 1354), (.bytes #[189] 1358), (.bytes #[190] 1362), (.bytes #[191] 1366), (.bytes #[192] 1370), (.bytes #[193] 1374), (.bytes #[194] 1378), (.bytes #[195] 1382), (.bytes #[196] 1386), (.bytes #[197] 1390), (.bytes #[198] 1394), (.bytes #[199] 1398), (.bytes #[200] 1402), (.bytes #[201] 1406), (.bytes #[202] 1410), (.bytes #[203] 1414), (.bytes #[204] 1418), (.bytes #[205] 1422), (.bytes #[206] 1426), (.bytes #[207] 1430), (.bytes #[208] 1434), (.bytes #[209] 1438), (.bytes #[210] 1442), (.bytes #[211] 1446), (.bytes #[212] 1450), (.bytes #[213] 1454), (.bytes #[214] 1458), (.bytes #[215] 1462), (.bytes #[216] 1466), (.bytes #[217] 1470), (.bytes #[218] 1474), (.bytes #[219] 1478), (.bytes #[220] 1482), (.bytes #[221] 1486), (.bytes #[222] 1490), (.bytes #[223] 1494), (.bytes #[224] 1498), (.bytes #[225] 1502), (.bytes #[226] 1506), (.bytes #[227] 1510), (.bytes #[228] 1514), (.bytes #[229] 1518), (.bytes #[230] 1522), (.bytes #[231] 1526), (.bytes #[232] 1530), (.bytes #[233] 1534), (.bytes #[234] 1538), (.bytes #[235] 1542), (.bytes #[236] 1546), (.bytes #[237] 1550), (.bytes #[238] 1554), (.bytes #[239] 1558), (.bytes #[240] 1562), (.bytes #[241] 1566), (.bytes #[242] 1570), (.bytes #[243] 1574), (.bytes #[244] 1578), (.bytes #[245] 1582), (.bytes #[246] 1586), (.bytes #[247] 1590), (.bytes #[248] 1594), (.bytes #[249] 1598), (.bytes #[250] 1602), (.bytes #[251] 1606), (.bytes #[252] 1610), (.bytes #[253] 1614), (.bytes #[254] 1618), (.bytes #[255] 1622)] 258), #[]⟩
def o241_s19 (P : Params) : Obj := ⟨(.type "tuple"), none, (.seq #[] 0), #[]⟩
def o242_s19 (P : Params) : Obj := ⟨(.type "StopIteration"), none, (.fields #[(.ref 241), .none, .none, .none, (.bool false), .none]), #[]⟩
def o243_s19 (P : Params) : Obj := ⟨(.type "tuple"), none, (.seq #[] 0), #[]⟩
def o244_s19 (P : Params) : Obj := ⟨(.type "StopIteration"), none, (.fields #[(.ref 243), .none, .none, .none, (.bool false), .none]), #[]⟩
def o245_s19 (P : Params) : Obj := ⟨(.type "tuple"), none, (.seq #[(.bytes #[0] 602), (.bytes #[1] 606), (.bytes #[2] 610), (.bytes #[3] 614), (.bytes #[4] 618), (.bytes #[5] 622), (.bytes #[6] 626), (.bytes #[7] 630), (.bytes #[8] 634), (.bytes #[9] 638), (.bytes #[10] 642), (.bytes #[11] 646), (.bytes #[12] 650), (.bytes #[13] 654), (.bytes #[14] 658), (.bytes #[15] 662), (.bytes #[16] 666), (.bytes #[17] 670), (.bytes #[18] 674), (.bytes #[19] 678), (.bytes #[20] 682), (.bytes #[21] 686), (.bytes #[22] 690), (.bytes #[23] 694), (.bytes #[24] 698), (.bytes #[25] 702), (.bytes #[26] 706), (.bytes #[27] 710), (.bytes #[28] 714), (.bytes #[29] 718), (.bytes #[30] 722), (.bytes #[31] 726), (.bytes #[32] 730), (.bytes #[33] 734), (.bytes #[34] 738), (.bytes #[35] 742), (.bytes #[36] 746), (.bytes #[37] 750), (.bytes #[38] 754), (.bytes #[39] 758), (.bytes #[40] 762), (.bytes #[41] 766), (.bytes #[42] 770), (.bytes #[43] 774), (.bytes #[44] 778), (.bytes #[45] 782), (.bytes #[46] 786), (.bytes #[47] 790), (.bytes #[48] 794), (.bytes #[49] 798), (.bytes #[50] 802), (.bytes #[51] 806), (.bytes #[52] 810), (.bytes #[53] 814), (.bytes #[54] 818), (.bytes #[55] 822), (.bytes #[56] 826), (.bytes #[57] 830), (.bytes #[58] 834), (.bytes #[59] 838), (.bytes #[60] 842), (.bytes #[61] 846), (.bytes #[62] 850), (.bytes #[63] 854), (.bytes #[64] 858), (.bytes #[65] 862), (.bytes #[66] 866), (.bytes #[67] 870), (.bytes #[68] 874), (.bytes #[69] 878), (.bytes #[70] 882), (.bytes #[71] 886), (.bytes #[72] 890), (.bytes #[73] 894), (.bytes #[74] 898), (.bytes #[75] 902), (.bytes #[76] 906), (.bytes #[77] 910), (.bytes #[78] 914), (.bytes #[79] 918), (.bytes #[80] 922), (.bytes #[81] 926), (.bytes #[82] 930), (.bytes #[83] 934), (.bytes #[84] 938), (.bytes #[85] 942), (.bytes #[86] 946), (.bytes #[87] 950), (.bytes #[88] 954), (.bytes #[89] 958), (.bytes #[90] 962), (.bytes #[91] 966), (.bytes #[92] 970), (.bytes #[93] 974), (.bytes #[94] 978), (.bytes #[95] 982), (.bytes #[96] 986), (.bytes #[97] 990), (.bytes #[98] 994), (.bytes #[99] 998), (.bytes #[100] 1002), (.bytes #[101] 1006), (.bytes #[102] 1010), (.bytes #[103] 1014), (.bytes #[104] 1018), (.bytes #[105] 1022), (.bytes #[106] 1026), (.bytes #[107] 1030), (.bytes #[108] 1034), (.bytes #[109] 1038), (.bytes #[110] 1042), (.bytes #[111] 1046), (.bytes #[112] 1050), (.bytes #[113] 1054), (.bytes #[114] 1058), (.bytes #[115] 1062), (.bytes #[116] 1066), (.bytes #[117] 1070), (.bytes #[118] 1074), (.bytes #[119] 1078), (.bytes #[120] 1082), (.bytes #[121] 1086), (.bytes #[122] 1090), (.bytes #[123] 1094), (.bytes #[124] 1098), (.bytes #[125] 1102), (.bytes #[126] 1106), (.bytes #[127] 1110), (.bytes #[128] 1114), (.bytes #[129] 1118), (.bytes #[130] 1122), (.bytes #[131] 1126), (.bytes #[132] 1130), (.bytes #[133] 1134), (.bytes #[134] 1138), (.bytes #[135] 1142), (.bytes #[136] 1146), (.bytes #[137] 1150), (.bytes #[138] 1154), (.bytes #[139] 1158), (.bytes #[140] 1162), (.bytes #[141] 1166), (.bytes #[142] 1170), (.bytes #[143] 1174), (.bytes #[144] 1178), (.bytes #[145] 1182), (.bytes #[146] 1186), (.bytes #[147] 1190), (.bytes #[148] 1194), (.bytes #[149] 1198), (.bytes #[150] 1202), (.bytes #[151] 1206), (.bytes #[152] 1210), (.bytes #[153] 1214), (.bytes #[154] 1218), (.bytes #[155] 1222), (.bytes #[156] 1226), (.bytes #[157] 1230), (.bytes #[158] 1234), (.bytes #[159] 1238), (.bytes #[160] 1242), (.bytes #[161] 1246), (.bytes #[162] 1250), (.bytes #[163] 1254), (.bytes #[164] 1258), (.bytes #[165] 1262), (.bytes #[166] 1266), (.bytes #[167] 1270), (.bytes #[168] 1274), (.bytes #[169] 1278), (.bytes #[170] 1282), (.bytes #[171] 1286), (.bytes #[172] 1290), (.bytes #[173] 1294), (.bytes #[174] 1298), (.bytes #[175] 1302), (.bytes #[176] 1306), (.bytes #[177] 1310), (.bytes #[178] 1314), (.bytes #[179] 1318), (.bytes #[180] 1322), (.bytes #[181] 1326), (.bytes #[182] 1330), (.bytes #[183] 1334), (.bytes #[184] 1338), (.bytes #[185] 1342), (.bytes #[186] 1346), (.bytes #[187] 1350), (.bytes #[188] 1354), (.bytes #[189] 1358), (.bytes #[190] 1362), (.bytes #[191] 1366), (.bytes #[192] 1370), (.bytes #[193] 1374), (.bytes #[194] 1378), (.bytes #[195] 1382), (.bytes #[196] 1386), (.bytes #[197] 1390), (.bytes #[198] 1394), (.bytes #[199] 1398), (.bytes #[200] 1402), (.bytes #[201] 1406), (.bytes #[202] 1410), (.bytes #[203] 1414), (.bytes #[204] 1418), (.bytes #[205] 1422), (.bytes #[206] 1426), (.bytes #[207] 1430), (.bytes #[208] 1434), (.bytes #[209] 1438), (.bytes #[210] 1442), (.bytes #[211] 1446), (.bytes #[212] 1450), (.bytes #[213] 1454), (.bytes #[214] 1458), (.bytes #[215] 1462), (.bytes #[216] 1466), (.bytes #[217] 1470), (.bytes #[218] 1474), (.bytes #[219] 1478), (.bytes #[220] 1482), (.bytes #[221] 1486), (.bytes #[222] 1490), (.bytes #[223] 1494), (.bytes #[224] 1498), (.bytes #[225] 1502), (.bytes #[226] 1506), (.bytes #[227] 1510), (.bytes #[228] 1514), (.bytes #[229] 1518), (.bytes #[230] 1522), (.bytes #[231] 1526), (.bytes #[232] 1530), (.bytes #[233] 1534), (.bytes #[234] 1538), (.bytes #[235] 1542), (.bytes #[236] 1546), (.bytes #[237] 1550), (.bytes #[238] 1554), (.bytes #[239] 1558), (.bytes #[240] 1562), (.bytes #[241] 1566), (.bytes #[242] 1570), (.bytes #[243] 1574), (.bytes #[244] 1578), (.bytes #[245] 1582), (.bytes #[246] 1586), (.bytes #[247] 1590), (.bytes #[248] 1594), (.bytes #[249] 1598), (.bytes #[250] 1602), (.bytes #[251] 1606), (.bytes #[252] 1610), (.bytes #[253] 1614), (.bytes #[254] 1618), (.bytes #[255] 1622)] 0), #[]⟩
def T_s19 (P : Params) : BT := (.node (o0_s0 P) (.node (o1_s0 P) (.node (o3_s19 P) (.node (o7_s0 P) (.node (o15_s0 P) (.node (o31_s0 P) (.node (o63_s8 P) (.node (o127_s13 P) .nil .nil) (.node (o191_s16 P) .nil .nil)) (.node (o95_s11 P) (.node (o159_s14 P) .nil .nil) (.node (o223_s17 P) .nil .nil))) (.node (o47_s3 P) (.node (o79_s8 P) (.node (o143_s13 P) .nil .nil) (.node (o207_s16 P) .nil .nil)) (.node (o111_s12 P) (.node (o175_s16 P) .nil .nil) (.node (o239_s19 P) .nil .nil)))) (.node (o23_s0 P) (.node (o39_sb P) (.node (o71_s8 P) (.node (o135_s13 P) .nil .nil) (.node (o199_s16 P) .nil .nil)) (.node (o103_s11 P) (.node (o167_s14 P) .nil .nil) (.node (o231_s17 P) .nil .nil))) (.node (o55_s3 P) (.node (o87_s11 P) (.node (o151_s14 P) .nil .nil) (.node (o215_s17 P) .nil .nil)) (.node (o119_s12 P) (.node (o183_s16 P) .nil .nil) .nil)))) (.node (o11_s0 P) (.node (o19_s0 P) (.node (o35_s0 P) (.node (o67_s8 P) (.node (o131_s13 P) .nil .nil) (.node (o195_s16 P) .nil .nil)) (.node (o99_s11 P) (.node (o163_s14 P) .nil .nil) (.node (o227_s17 P) .nil .nil))) (.node (o51_s3 P) (.node (o83_s8 P) (.node (o147_s14 P) .nil .nil) (.node (o211_s17 P) .nil .nil)) (.node (o115_s12 P) (.node (o179_s16 P) .nil .nil) (.node (o243_s19 P) .nil .nil)))) (.node (o27_s0 P) (.node (o43_s3 P) (.node (o75_s8 P) (.node (o139_s13 P) .nil .nil) (.node (o203_s16 P) .nil .nil)) (.node (o107_s12 P) (.node (o171_s16 P) .nil .nil) (.node (o235_s19 P) .nil .nil))) (.node (o59_s8 P) (.node (o91_s11 P) (.node (o155_s14 P) .nil .nil) (.node (o219_s17 P) .nil .nil)) (.node (o123_s12 P) (.node (o187_s16 P) .nil .nil) .nil))))) (.node (o5_s0 P) (.node (o9_s0 P) (.node (o17_s0 P) (.node (o33_s0 P) (.node (o65_s8 P) (.node (o129_s13 P) .nil .nil) (.node (o193_s16 P) .nil .nil)) (.node (o97_s11 P) (.node (o161_s14 P) .nil .nil) (.node (o225_s17 P) .nil .nil))) (.node (o49_s3 P) (.node (o81_s8 P) (.node (o145_s13 P) .nil .nil) (.node (o209_s16 P) .nil .nil)) (.node (o113_s12 P) (.node (o177_s16 P) .nil .nil) (.node (o241_s19 P) .nil .nil)))) (.node (o25_s0 P) (.node (o41_sb P) (.node (o73_s8 P) (.node (o137_s13 P) .nil .nil) (.node (o201_s16 P) .nil .nil)) (.node (o105_s12 P) (.node (o169_s16 P) .nil .nil) (.node (o233_s19 P) .nil .nil))) (.node (o57_s8 P) (.node (o89_s11 P) (.node (o153_s14 P) .nil .nil) (.node (o217_s17 P) .nil .nil)) (.node (o121_s12 P) (.node (o185_s16 P) .nil .nil) .nil)))) (.node (o13_s0 P) (.node (o21_s0 P) (.node (o37_s0 P) (.node (o69_s8 P) (.node (o133_s13 P) .nil .nil) (.node (o197_s16 P) .nil .nil)) (.node (o101_s16 P) (.node (o165_s16 P) .nil .nil) (.node (o229_s17 P) .nil .nil))) (.node (o53_s3 P) (.node (o85_s11 P) (.node (o149_s14 P) .nil .nil) (.node (o213_s17 P) .nil .nil)) (.node (o117_s12 P) (.node (o181_s16 P) .nil .nil) (.node (o245_s19 P) .nil .nil)))) (.node (o29_s0 P) (.node (o45_s3 P) (.node (o77_s8 P) (.node (o141_s13 P) .nil .nil) (.node (o205_s16 P) .nil .nil)) (.node (o109_s12 P) (.node (o173_s16 P) .nil .nil) (.node (o237_s19 P) .nil .nil))) (.node (o61_s8 P) (.node (o93_s11 P) (.node (o157_s14 P) .nil .nil) (.node (o221_s17 P) .nil .nil)) (.node (o125_s12 P) (.node (o189_s16 P) .nil .nil) .nil)))))) (.node (o2_s11 P) (.node (o4_s0 P) (.node (o8_s0 P) (.node (o16_s0 P) (.node (o32_s0 P) (.node (o64_s8 P) (.node (o128_s13 P) .nil .nil) (.node (o192_s16 P) .nil .nil)) (.node (o96_s11 P) (.node (o160_s14 P) .nil .nil) (.node (o224_s17 P) .nil .nil))) (.node (o48_s3 P) (.node (o80_s8 P) (.node (o144_s13 P) .nil .nil) (.node (o208_s17 P) .nil .nil)) (.node (o112_s12 P) (.node (o176_s16 P) .nil .nil) (.node (o240_s19 P) .nil .nil)))) (.node (o24_s0 P) (.node (o40_s19 P) (.node (o72_s8 P) (.node (o136_s13 P) .nil .nil) (.node (o200_s16 P) .nil .nil)) (.node (o104_s11 P) (.node (o168_s16 P) .nil .nil) (.node (o232_s17 P) .nil .nil))) (.node (o56_s3 P) (.node (o88_s11 P) (.node (o152_s14 P) .nil .nil) (.node (o216_s17 P) .nil .nil)) (.node (o120_s12 P) (.node (o184_s16 P) .nil .nil) .nil)))) (.node (o12_s0 P) (.node (o20_s0 P) (.node (o36_s0 P) (.node (o68_s8 P) (.node (o132_s13 P) .nil .nil) (.node (o196_s16 P) .nil .nil)) (.node (o100_s11 P) (.node (o164_s14 P) .nil .nil) (.node (o228_s17 P) .nil .nil))) (.node (o52_s3 P) (.node (o84_s11 P) (.node (o148_s14 P) .nil .nil) (.node (o212_s17 P) .nil .nil)) (.node (o116_s12 P) (.node (o180_s16 P) .nil .nil) (.node (o244_s19 P) .nil .nil)))) (.node (o28_s0 P) (.node (o44_s3 P) (.node (o76_s8 P) (.node (o140_s13 P) .nil .nil) (.node (o204_s16 P) .nil .nil)) (.node (o108_s12 P) (.node (o172_s16 P) .nil .nil) (.node (o236_s19 P) .nil .nil))) (.node (o60_s8 P) (.node (o92_s11 P) (.node (o156_s14 P) .nil .nil) (.node (o220_s17 P) .nil .nil)) (.node (o124_s12 P) (.node (o188_s16 P) .nil .nil) .nil))))) (.node (o6_s0 P) (.node (o10_s0 P) (.node (o18_s0 P) (.node (o34_s0 P) (.node (o66_s8 P) (.node (o130_s13 P) .nil .nil) (.node (o194_s16 P) .nil .nil)) (.node (o98_s11 P) (.node (o162_s14 P) .nil .nil) (.node (o226_s17 P) .nil .nil))) (.node (o50_s3 P) (.node (o82_s8 P) (.node (o146_s13 P) .nil .nil) (.node (o210_s16 P) .nil .nil)) (.node (o114_s12 P) (.node (o178_s16 P) .nil .nil) (.node (o242_s19 P) .nil .nil)))) (.node (o26_s0 P) (.node (o42_sb P) (.node (o74_s8 P) (.node (o138_s13 P) .nil .nil) (.node (o202_s16 P) .nil .nil)) (.node (o106_s12 P) (.node (o170_s16 P) .nil .nil) (.node (o234_s19 P) .nil .nil))) (.node (o58_s8 P) (.node (o90_s11 P) (.node (o154_s14 P) .nil .nil) (.node (o218_s17 P) .nil .nil)) (.node (o122_s12 P) (.node (o186_s16 P) .nil .nil) .nil)))) (.node (o14_s0 P) (.node (o22_s0 P) (.node (o38_s0 P) (.node (o70_s8 P) (.node (o134_s13 P) .nil .nil) (.node (o198_s16 P) .nil .nil)) (.node (o102_s11 P) (.node (o166_s14 P) .nil .nil) (.node (o230_s17 P) .nil .nil))) (.node (o54_s3 P) (.node (o86_s11 P) (.node (o150_s14 P) .nil .nil) (.node (o214_s17 P) .nil .nil)) (.node (o118_s12 P) (.node (o182_s16 P) .nil .nil) .nil))) (.node (o30_s0 P) (.node (o46_s3 P) (.node (o78_s8 P) (.node (o142_s13 P) .nil .nil) (.node (o206_s16 P) .nil .nil)) (.node (o110_s12 P) (.node (o174_s16 P) .nil .nil) (.node (o238_s19 P) .nil .nil))) (.node (o62_s8 P) (.node (o94_s11 P) (.node (o158_s14 P) .nil .nil) (.node (o222_s17 P) .nil .nil)) (.node (o126_s13 P) (.node (o190_s16 P) .nil .nil) .nil)))))))
def S_s19 (w : World) (os : OsState) : SharedT := ⟨T_s19 w.params, 246, life0, #[.finished], drawn0, 1624, os⟩
def o3_s28 (P : Params) : Obj := ⟨(.type "dict"), none, (.dict #[⟨PyData.keyHash P (.ofString "__name__"), (.str (.ofString "__name__") 165), (.str (.ofString "rlp.sedes.binary") 1700)⟩, ⟨PyData.keyHash P (.ofString "__doc__"), (.str (.ofString "__doc__") 166), .none⟩, ⟨PyData.keyHash P (.ofString "__package__"), (.str (.ofString "__package__") 167), .none⟩, ⟨PyData.keyHash P (.ofString "__loader__"), (.str (.ofString "__loader__") 168), (.builtin "__main__.__loader__#opaque")⟩, ⟨PyData.keyHash P (.ofString "__spec__"), (.str (.ofString "__spec__") 169), .none⟩, ⟨PyData.keyHash P (.ofString "__annotations__"), (.str (.ofString "__annotations__") 170), (.ref 6)⟩, ⟨PyData.keyHash P (.ofString "__builtins__"), (.str (.ofString "__builtins__") 171), (.ref 4)⟩, ⟨PyData.keyHash P (.ofString "__file__"), (.str (.ofString "__file__") 173), (.str (.ofString "/claim/cut.py") 172)⟩, ⟨PyData.keyHash P (.ofString "__cached__"), (.str (.ofString "__cached__") 174), .none⟩, ⟨PyData.keyHash P (.ofString "pack"), (.str (.ofString "pack") 312), (.builtin "_struct.pack")⟩, ⟨PyData.keyHash P (.ofString "_wall"), (.str (.ofString "_wall") 325), (.ref 49)⟩, ⟨PyData.keyHash P (.ofString "CHARSET"), (.str (.ofString "CHARSET") 329), (.str (.ofString "qpzry9x8gf2tvdw0s3jn54khce6mua7l") 328)⟩, ⟨PyData.keyHash P (.ofString "bech32_polymod"), (.str (.ofString "bech32_polymod") 341), (.ref 56)⟩, ⟨PyData.keyHash P (.ofString "bech32_hrp_expand"), (.str (.ofString "bech32_hrp_expand") 347), (.ref 61)⟩, ⟨PyData.keyHash P (.ofString "bech32_verify_checksum"), (.str (.ofString "bech32_verify_checksum") 355), (.ref 68)⟩, ⟨PyData.keyHash P (.ofString "bech32_create_checksum"), (.str (.ofString "bech32_create_checksum") 361), (.ref 73)⟩, ⟨PyData.keyHash P (.ofString "bech32_encode"), (.str (.ofString "bech32_encode") 367), (.ref 78)⟩, ⟨PyData.keyHash P (.ofString "bech32_decode"), (.str (.ofString "bech32_decode") 373), (.ref 83)⟩, ⟨PyData.keyHash P (.ofString "convertbits"), (.str (.ofString "convertbits") 389), (.ref 91)⟩, ⟨PyData.keyHash P (.ofString "RLPException"), (.str (.ofString "RLPException") 411), (.ref 101)⟩, ⟨PyData.keyHash P (.ofString "EncodingError"), (.str (.ofString "EncodingError") 439), (.ref 123)⟩, ⟨PyData.keyHash P (.ofString "DecodingError"), (.str (.ofString "DecodingError") 467), (.ref 144)⟩, ⟨PyData.keyHash P (.ofString "SerializationError"), (.str (.ofString "SerializationError") 495), (.ref 165)⟩, ⟨PyData.keyHash P (.ofString "ListSerializationError"), (.str (.ofString "ListSerializationError") 526), (.ref 187)⟩, ⟨PyData.keyHash P (.ofString "DeserializationError"), (.str (.ofString "DeserializationError") 554), (.ref 208)⟩, ⟨PyData.keyHash P (.ofString "ListDeserializationError"), (.str (.ofString "ListDeserializationError") 585), (.ref 230)⟩, ⟨PyData.keyHash P (.ofString "ALL_BYTES"), (.str (.ofString "ALL_BYTES") 1623), (.ref 245)⟩, ⟨PyData.keyHash P (.ofString "Atomic"), (.str (.ofString "Atomic") 1624), (.ref 246)⟩, ⟨PyData.keyHash P (.ofString "Sequence"), (.str (.ofString "Sequence") 1625), (.ref 247)⟩, ⟨PyData.keyHash P (.ofString "is_bytes"), (.str (.ofString "is_bytes") 1632), (.ref 254)⟩, ⟨PyData.keyHash P (.ofString "big_endian_to_int"), (.str (.ofString "big_endian_to_int") 1639), (.ref 261)⟩, ⟨PyData.keyHash P (.ofString "int_to_big_endian"), (.str (.ofString "int_to_big_endian") 1646), (.ref 268)⟩, ⟨PyData.keyHash P (.ofString "BigEndianInt"), (.str (.ofString "BigEndianInt") 1694), (.ref 300)⟩, ⟨PyData.keyHash P (.ofString "big_endian_int"), (.str (.ofString "big_endian_int") 1699), (.ref 306)⟩] 34), #[]⟩
def o40_s28 (P : Params) : Obj := ⟨.none, none, (.fields #[(.int 2 0), (.int 0 0), (.ref 48), (.int 7 0), (.int 0 0), (.ref 55), (.int 16 0), (.int 0 0), (.ref 60), (.int 18 0), (.int 0 0), (.ref 67), (.int 20 0), (.int 0 0), (.ref 72), (.int 24 0), (.int 0 0), (.ref 77), (.int 27 0), (.int 0 0), (.ref 82), (.int 41 0), (.int 0 0), (.ref 90), (.int 62 0), (.int 0 0), (.ref 97), (.int 64 0), (.int 0 0), (.ref 111), (.int 69 0), (.int 0 0), (.ref 132), (.int 74 0), (.int 0 0), (.ref 153), (.int 79 0), (.int 0 0), (.ref 174), (.int 89 0), (.int 0 0), (.ref 196), (.int 94 0), (.int 0 0), (.ref 217), (.int 105 0), (.int 18 0), (.ref 237), (.int 108 0), (.int 0 0), (.ref 253), (.int 110 0), (.int 0 0), (.ref 260), (.int 112 0), (.int 0 0), (.ref 267), (.int 115 0), (.int 0 0), (.ref 274)]), #[]⟩
def o246_s28 (P : Params) : Obj := ⟨(.type "tuple"), none, (.seq #[(.type "bytes"), (.type "bytearray")] 0), #[]⟩
def o247_s28 (P : Params) : Obj := ⟨(.type "tuple"), none, (.seq #[(.type "list"), (.type "tuple")] 0), #[]⟩
def o248_s28 (P : Params) : Obj := ⟨(.type "tuple"), none, (.seq #[] 0), #[]⟩
def o249_s28 (P : Params) : Obj := ⟨.none, none, (.fields #[]), #[]⟩
def o250_s28 (P : Params) : Obj := ⟨(.type "tuple"), none, (.seq #[(.str (.ofString "value") 1629)] 0), #[]⟩
def o251_s28 (P : Params) : Obj := ⟨(.type "tuple"), none, (.seq #[] 0), #[]⟩
def o252_s28 (P : Params) : Obj := ⟨.none, none, (.func ⟨(.ofString "is_bytes"), (.ofString "is_bytes"), pA (stA [23]), .stmts (bA (stA [23])), sA (stA [23]), 0, [], .none, .none, .none, .none, none, .none, .none, 0⟩), #[]⟩
def o253_s28 (P : Params) : Obj := ⟨(.type "code"), none, (.fields #[(.str (.ofString "is_bytes") 1626), (.str (.ofString "is_bytes") 1627), (.str (.ofString "/claim/cut.py") 1628), (.int 108 0), (.int 1 0), (.int 0 0), (.int 0 0), (.int 3 0), (.ref 248), (.bool true), (.int 313 0), (.ref 249), .none, (.ref 250), (.ref 251), (.ref 252), (.int 1630 0), (.int 108 0), (.str (.ofString "/claim/cut.py") 1631)]), #[]⟩
def o254_s28 (P : Params) : Obj := ⟨(.type "function"), none, (.func ⟨(.ofString "is_bytes"), (.ofString "is_bytes"), pA (stA [23]), .stmts (bA (stA [23])), sA (stA [23]), 3, [], .none, .none, .none, (.str (.ofString "rlp.utils") 586), none, (.ref 253), .none, 0⟩), #[]⟩
def o255_s28 (P : Params) : Obj := ⟨(.type "tuple"), none, (.seq #[] 0), #[]⟩
def o256_s28 (P : Params) : Obj := ⟨.none, none, (.fields #[]), #[]⟩
def o257_s28 (P : Params) : Obj := ⟨(.type "tuple"), none, (.seq #[(.str (.ofString "value") 1636)] 0), #[]⟩
def o258_s28 (P : Params) : Obj := ⟨(.type "tuple"), none, (.seq #[] 0), #[]⟩
def o259_s28 (P : Params) : Obj := ⟨.none, none, (.func ⟨(.ofString "big_endian_to_int"), (.ofString "big_endian_to_int"), pA (stA [24]), .stmts (bA (stA [24])), sA (stA [24]), 0, [], .none, .none, .none, .none, none, .none, .none, 0⟩), #[]⟩
def o260_s28 (P : Params) : Obj := ⟨(.type "code"), none, (.fields #[(.str (.ofString "big_endian_to_int") 1633), (.str (.ofString "big_endian_to_int") 1634), (.str (.ofString "/claim/cut.py") 1635), (.int 110 0), (.int 1 0), (.int 0 0), (.int 0 0), (.int 3 0), (.ref 255), (.bool true), (.int 313 0), (.ref 256), .none, (.ref 257), (.ref 258), (.ref 259), (.int 1637 0), (.int 110 0), (.str (.ofString "/claim/cut.py") 1638)]), #[]⟩
def o261_s28 (P : Params) : Obj := ⟨(.type "function"), none, (.func ⟨(.ofString "big_endian_to_int"), (.ofString "big_endian_to_int"), pA (stA [24]), .stmts (bA (stA [24])), sA (stA [24]), 3, [], .none, .none, .none, (.str (.ofString "rlp.utils") 586), none, (.ref 260), .none, 0⟩), #[]⟩
def o262_s28 (P : Params) : Obj := ⟨(.type "tuple"), none, (.seq #[] 0), #[]⟩
def o263_s28 (P : Params) : Obj := ⟨.none, none, (.fields #[]), #[]⟩
def o264_s28 (P : Params) : Obj := ⟨(.type "tuple"), none, (.seq #[(.str (.ofString "value") 1643)] 0), #[]⟩
def o265_s28 (P : Params) : Obj := ⟨(.type "tuple"), none, (.seq #[] 0), #[]⟩
def o266_s28 (P : Params) : Obj := ⟨.none, none, (.func ⟨(.ofString "int_to_big_endian"), (.ofString "int_to_big_endian"), pA (stA [25]), .stmts (bA (stA [25])), sA (stA [25]), 0, [], .none, .none, .none, .none, none, .none, .none, 0⟩), #[]⟩
def o267_s28 (P : Params) : Obj := ⟨(.type "code"), none, (.fields #[(.str (.ofString "int_to_big_endian") 1640), (.str (.ofString "int_to_big_endian") 1641), (.str (.ofString "/claim/cut.py") 1642), (.int 112 0), (.int 1 0), (.int 0 0), (.int 0 0), (.int 3 0), (.ref 262), (.bool true), (.int 313 0), (.ref 263), .none, (.ref 264), (.ref 265), (.ref 266), (.int 1644 0), (.int 112 0), (.str (.ofString "/claim/cut.py") 1645)]), #[]⟩
def o268_s28 (P : Params) : Obj := ⟨(.type "function"), none, (.func ⟨(.ofString "int_to_big_endian"), (.ofString "int_to_big_endian"), pA (stA [25]), .stmts (bA (stA [25])), sA (stA [25]), 3, [], .none, .none, .none, (.str (.ofString "rlp.utils") 586), none, (.ref 267), .none, 0⟩), #[]⟩
def o269_s28 (P : Params) : Obj := ⟨(.type "tuple"), none, (.seq #[] 0), #[]⟩
def o270_s28 (P : Params) : Obj := ⟨(.type "builtin_function_or_method"), none, (.fields #[(.builtin "type.__prepare__"), (.type "type")]), #[]⟩
def o271_s28 (P : Params) : Obj := ⟨(.type "dict"), none, (.dict #[⟨PyData.keyHash P (.ofString "__module__"), (.str (.ofString "__module__") 1656), (.str (.ofString "rlp.sedes.big_endian_int") 1647)⟩, ⟨PyData.keyHash P (.ofString "__qualname__"), (.str (.ofString "__qualname__") 1658), (.str (.ofString "BigEndianInt") 1657)⟩, ⟨PyData.keyHash P (.ofString "__firstlineno__"), (.str (.ofString "__firstlineno__") 1660), (.int 115 1659)⟩, ⟨PyData.keyHash P (.ofString "__init__"), (.str (.ofString "__init__") 1668), (.ref 283)⟩, ⟨PyData.keyHash P (.ofString "serialize"), (.str (.ofString "serialize") 1677), (.ref 290)⟩, ⟨PyData.keyHash P (.ofString "deserialize"), (.str (.ofString "deserialize") 1685), (.ref 297)⟩, ⟨PyData.keyHash P (.ofString "__static_attributes__"), (.str (.ofString "__static_attributes__") 1687), (.ref 298)⟩] 7), #[]⟩
def o272_s28 (P : Params) : Obj := ⟨(.type "tuple"), none, (.seq #[] 0), #[]⟩
def o273_s28 (P : Params) : Obj := ⟨.none, none, (.fields #[(.int 117 0), (.int 4 0), (.ref 282), (.int 120 0), (.int 4 0), (.ref 289), (.int 136 0), (.int 4 0), (.ref 296)]), #[]⟩
def o274_s28 (P : Params) : Obj := ⟨(.type "code"), none, (.fields #[(.str (.ofString "BigEndianInt") 1651), (.str (.ofString "BigEndianInt") 1652), (.str (.ofString "/claim/cut.py") 1653), (.int 115 0), (.int 0 0), (.int 0 0), (.int 0 0), (.int 0 0), (.ref 272), (.bool false), (.int 313 0), (.ref 273), .none, .none, .none, .none, (.int 1654 0), (.int 115 0), (.str (.ofString "/claim/cut.py") 1655)]), #[]⟩
def o275_s28 (P : Params) : Obj := ⟨(.type "frame"), none, .plain, #[(some (.ref 274)), (some (.ref 3)), (some (.ref 271)), none, (some (.str (.ofString "rlp.sedes.big_endian_int") 1647)), none, (some (.ref 0))]⟩
def o276_s28 (P : Params) : Obj := ⟨(.type "tuple"), none, (.seq #[.none] 0), #[]⟩
def o277_s28 (P : Params) : Obj := ⟨(.type "tuple"), none, (.seq #[] 0), #[]⟩
def o278_s28 (P : Params) : Obj := ⟨.none, none, (.fields #[]), #[]⟩
def o279_s28 (P : Params) : Obj := ⟨(.type "tuple"), none, (.seq #[(.str (.ofString "self") 1664), (.str (.ofString "length") 1665)] 0), #[]⟩
def o280_s28 (P : Params) : Obj := ⟨(.type "tuple"), none, (.seq #[] 0), #[]⟩
def o281_s28 (P : Params) : Obj := ⟨.none, none, (.func ⟨(.ofString "__init__"), (.ofString "BigEndianInt.__init__"), pA (stA [27, 0]), .stmts (bA (stA [27, 0])), sA (stA [27, 0]), 0, [], .none, .none, .none, .none, none, .none, .none, 0⟩), #[]⟩
def o282_s28 (P : Params) : Obj := ⟨(.type "code"), none, (.fields #[(.str (.ofString "__init__") 1661), (.str (.ofString "BigEndianInt.__init__") 1662), (.str (.ofString "/claim/cut.py") 1663), (.int 117 0), (.int 2 0), (.int 0 0), (.int 0 0), (.int 3 0), (.ref 277), (.bool true), (.int 313 0), (.ref 278), .none, (.ref 279), (.ref 280), (.ref 281), (.int 1666 0), (.int 117 0), (.str (.ofString "/claim/cut.py") 1667)]), #[]⟩
def o283_s28 (P : Params) : Obj := ⟨(.type "function"), none, (.func ⟨(.ofString "__init__"), (.ofString "BigEndianInt.__init__"), pA (stA [27, 0]), .stmts (bA (stA [27, 0])), sA (stA [27, 0]), 3, [], (.ref 276), .none, .none, (.str (.ofString "rlp.sedes.big_endian_int") 1647), none, (.ref 282), .none, 0⟩), #[]⟩
def o284_s28 (P : Params) : Obj := ⟨(.type "tuple"), none, (.seq #[] 0), #[]⟩
def o285_s28 (P : Params) : Obj := ⟨.none, none, (.fields #[]), #[]⟩
def o286_s28 (P : Params) : Obj := ⟨(.type "tuple"), none, (.seq #[(.str (.ofString "self") 1672), (.str (.ofString "obj") 1673), (.str (.ofString "s") 1674)] 0), #[]⟩
def o287_s28 (P : Params) : Obj := ⟨(.type "tuple"), none, (.seq #[] 0), #[]⟩
def o288_s28 (P : Params) : Obj := ⟨.none, none, (.func ⟨(.ofString "serialize"), (.ofString "BigEndianInt.serialize"), pA (stA [27, 1]), .stmts (bA (stA [27, 1])), sA (stA [27, 1]), 0, [], .none, .none, .none, .none, none, .none, .none, 0⟩), #[]⟩
def o289_s28 (P : Params) : Obj := ⟨(.type "code"), none, (.fields #[(.str (.ofString "serialize") 1669), (.str (.ofString "BigEndianInt.serialize") 1670), (.str (.ofString "/claim/cut.py") 1671), (.int 120 0), (.int 2 0), (.int 0 0), (.int 0 0), (.int 3 0), (.ref 284), (.bool true), (.int 313 0), (.ref 285), .none, (.ref 286), (.ref 287), (.ref 288), (.int 1675 0), (.int 120 0), (.str (.ofString "/claim/cut.py") 1676)]), #[]⟩
def o290_s28 (P : Params) : Obj := ⟨(.type "function"), none, (.func ⟨(.ofString "serialize"), (.ofString "BigEndianInt.serialize"), pA (stA [27, 1]), .stmts (bA (stA [27, 1])), sA (stA [27, 1]), 3, [], .none, .none, .none, (.str (.ofString "rlp.sedes.big_endian_int") 1647), none, (.ref 289), .none, 0⟩), #[]⟩
def o291_s28 (P : Params) : Obj := ⟨(.type "tuple"), none, (.seq #[] 0), #[]⟩
def o292_s28 (P : Params) : Obj := ⟨.none, none, (.fields #[]), #[]⟩
def o293_s28 (P : Params) : Obj := ⟨(.type "tuple"), none, (.seq #[(.str (.ofString "self") 1681), (.str (.ofString "serial") 1682)] 0), #[]⟩
def o294_s28 (P : Params) : Obj := ⟨(.type "tuple"), none, (.seq #[] 0), #[]⟩
def o295_s28 (P : Params) : Obj := ⟨.none, none, (.func ⟨(.ofString "deserialize"), (.ofString "BigEndianInt.deserialize"), pA (stA [27, 2]), .stmts (bA (stA [27, 2])), sA (stA [27, 2]), 0, [], .none, .none, .none, .none, none, .none, .none, 0⟩), #[]⟩
def o296_s28 (P : Params) : Obj := ⟨(.type "code"), none, (.fields #[(.str (.ofString "deserialize") 1678), (.str (.ofString "BigEndianInt.deserialize") 1679), (.str (.ofString "/claim/cut.py") 1680), (.int 136 0), (.int 2 0), (.int 0 0), (.int 0 0), (.int 3 0), (.ref 291), (.bool true), (.int 313 0), (.ref 292), .none, (.ref 293), (.ref 294), (.ref 295), (.int 1683 0), (.int 136 0), (.str (.ofString "/claim/cut.py") 1684)]), #[]⟩
def o297_s28 (P : Params) : Obj := ⟨(.type "function"), none, (.func ⟨(.ofString "deserialize"), (.ofString "BigEndianInt.deserialize"), pA (stA [27, 2]), .stmts (bA (stA [27, 2])), sA (stA [27, 2]), 3, [], .none, .none, .none, (.str (.ofString "rlp.sedes.big_endian_int") 1647), none, (.ref 296), .none, 0⟩), #[]⟩
def o298_s28 (P : Params) : Obj := ⟨(.type "tuple"), none, (.seq #[(.str (.ofString "length") 1686)] 0), #[]⟩
def o299_s28 (P : Params) : Obj := ⟨(.type "dict"), none, (.dict #[⟨PyData.keyHash P (.ofString "__module__"), (.str (.ofString "__module__") 1656), (.str (.ofString "rlp.sedes.big_endian_int") 1647)⟩, ⟨PyData.keyHash P (.ofString "__firstlineno__"), (.str (.ofString "__firstlineno__") 1660), (.int 115 1659)⟩, ⟨PyData.keyHash P (.ofString "__init__"), (.str (.ofString "__init__") 1668), (.ref 283)⟩, ⟨PyData.keyHash P (.ofString "serialize"), (.str (.ofString "serialize") 1677), (.ref 290)⟩, ⟨PyData.keyHash P (.ofString "deserialize"), (.str (.ofString "deserialize") 1685), (.ref 297)⟩, ⟨PyData.keyHash P (.ofString "__static_attributes__"), (.str (.ofString "__static_attributes__") 1687), (.ref 298)⟩, ⟨PyData.keyHash P (.ofString "__dict__"), (.str (.ofString "__dict__") 1689), (.ref 301)⟩, ⟨PyData.keyHash P (.ofString "__weakref__"), (.str (.ofString "__weakref__") 1691), (.ref 302)⟩, ⟨PyData.keyHash P (.ofString "__doc__"), (.str (.ofString "__doc__") 1692), .none⟩] 4), #[]⟩
def o300_s28 (P : Params) : Obj := ⟨(.type "type"), none, (.cls ⟨(.ofString "BigEndianInt"), [(.type "object")], [(.ref 300), (.type "object")], 299, (.ofString "BigEndianInt"), true, [], [], false, none, false⟩), #[none, none, (some (.str (.ofString "BigEndianInt") 1649)), (some (.str (.ofString "BigEndianInt") 1657)), (some (.builtin "object.__new__")), (some (.bool true))]⟩
def o301_s28 (P : Params) : Obj := ⟨(.type "getset_descriptor"), none, (.fields #[(.str (.ofString "__dict__") 1688), (.ref 300), (.builtin "function.__dict__"), (.builtin "function.__dict__#set")]), #[]⟩
def o302_s28 (P : Params) : Obj := ⟨(.type "getset_descriptor"), none, (.fields #[(.str (.ofString "__weakref__") 1690), (.ref 300), (.builtin "ExceptionGroup.__weakref__"), .none]), #[]⟩
def o303_s28 (P : Params) : Obj := ⟨(.type "super"), none, (.fields #[(.ref 300), (.ref 300), (.ref 300)]), #[]⟩
def o304_s28 (P : Params) : Obj := ⟨(.type "builtin_function_or_method"), none, (.fields #[(.builtin "object.__init_subclass__"), (.ref 300)]), #[]⟩
def o305_s28 (P : Params) : Obj := ⟨(.type "dict"), none, (.dict #[⟨PyData.keyHash P (.ofString "length"), (.str (.ofString "length") 1698), .none⟩] 1), #[]⟩
def o306_s28 (P : Params) : Obj := ⟨(.ref 300), (some 305), .plain, #[]⟩
def o307_s28 (P : Params) : Obj := ⟨(.type "frame"), none, (.dict #[⟨PyData.keyHash P (.ofString "self"), (.str (.ofString "self") 1695), (.ref 306)⟩, ⟨PyData.keyHash P (.ofString "length"), (.str (.ofString "length") 1696), .none⟩] 2), #[]⟩
def T_s28 (P : Params) : BT := (.node (o0_s0 P) (.node (o1_s0 P) (.node (o3_s28 P) (.node (o7_s0 P) (.node (o15_s0 P) (.node (o31_s0 P) (.node (o63_s8 P) (.node (o127_s13 P) (.node (o255_s28 P) .nil .nil) .nil) (.node (o191_s16 P) .nil .nil)) (.node (o95_s11 P) (.node (o159_s14 P) (.node (o287_s28 P) .nil .nil) .nil) (.node (o223_s17 P) .nil .nil))) (.node (o47_s3 P) (.node (o79_s8 P) (.node (o143_s13 P) (.node (o271_s28 P) .nil .nil) .nil) (.node (o207_s16 P) .nil .nil)) (.node (o111_s12 P) (.node (o175_s16 P) (.node (o303_s28 P) .nil .nil) .nil) (.node (o239_s19 P) .nil .nil)))) (.node (o23_s0 P) (.node (o39_sb P) (.node (o71_s8 P) (.node (o135_s13 P) (.node (o263_s28 P) .nil .nil) .nil) (.node (o199_s16 P) .nil .nil)) (.node (o103_s11 P) (.node (o167_s14 P) (.node (o295_s28 P) .nil .nil) .nil) (.node (o231_s17 P) .nil .nil))) (.node (o55_s3 P) (.node (o87_s11 P) (.node (o151_s14 P) (.node (o279_s28 P) .nil .nil) .nil) (.node (o215_s17 P) .nil .nil)) (.node (o119_s12 P) (.node (o183_s16 P) .nil .nil) (.node (o247_s28 P) .nil .nil))))) (.node (o11_s0 P) (.node (o19_s0 P) (.node (o35_s0 P) (.node (o67_s8 P) (.node (o131_s13 P) (.node (o259_s28 P) .nil .nil) .nil) (.node (o195_s16 P) .nil .nil)) (.node (o99_s11 P) (.node (o163_s14 P) (.node (o291_s28 P) .nil .nil) .nil) (.node (o227_s17 P) .nil .nil))) (.node (o51_s3 P) (.node (o83_s8 P) (.node (o147_s14 P) (.node (o275_s28 P) .nil .nil) .nil) (.node (o211_s17 P) .nil .nil)) (.node (o115_s12 P) (.node (o179_s16 P) (.node (o307_s28 P) .nil .nil) .nil) (.node (o243_s19 P) .nil .nil)))) (.node (o27_s0 P) (.node (o43_s3 P) (.node (o75_s8 P) (.node (o139_s13 P) (.node (o267_s28 P) .nil .nil) .nil) (.node (o203_s16 P) .nil .nil)) (.node (o107_s12 P) (.node (o171_s16 P) (.node (o299_s28 P) .nil .nil) .nil) (.node (o235_s19 P) .nil .nil))) (.node (o59_s8 P) (.node (o91_s11 P) (.node (o155_s14 P) (.node (o283_s28 P) .nil .nil) .nil) (.node (o219_s17 P) .nil .nil)) (.node (o123_s12 P) (.node (o187_s16 P) .nil .nil) (.node (o251_s28 P) .nil .nil)))))) (.node (o5_s0 P) (.node (o9_s0 P) (.node (o17_s0 P) (.node (o33_s0 P) (.node (o65_s8 P) (.node (o129_s13 P) (.node (o257_s28 P) .nil .nil) .nil) (.node (o193_s16 P) .nil .nil)) (.node (o97_s11 P) (.node (o161_s14 P) (.node (o289_s28 P) .nil .nil) .nil) (.node (o225_s17 P) .nil .nil))) (.node (o49_s3 P) (.node (o81_s8 P) (.node (o145_s13 P) (.node (o273_s28 P) .nil .nil) .nil) (.node (o209_s16 P) .nil .nil)) (.node (o113_s12 P) (.node (o177_s16 P) (.node (o305_s28 P) .nil .nil) .nil) (.node (o241_s19 P) .nil .nil)))) (.node (o25_s0 P) (.node (o41_sb P) (.node (o73_s8 P) (.node (o137_s13 P) (.node (o265_s28 P) .nil .nil) .nil) (.node (o201_s16 P) .nil .nil)) (.node (o105_s12 P) (.node (o169_s16 P) (.node (o297_s28 P) .nil .nil) .nil) (.node (o233_s19 P) .nil .nil))) (.node (o57_s8 P) (.node (o89_s11 P) (.node (o153_s14 P) (.node (o281_s28 P) .nil .nil) .nil) (.node (o217_s17 P) .nil .nil)) (.node (o121_s12 P) (.node (o185_s16 P) .nil .nil) (.node (o249_s28 P) .nil .nil))))) (.node (o13_s0 P) (.node (o21_s0 P) (.node (o37_s0 P) (.node (o69_s8 P) (.node (o133_s13 P) (.node (o261_s28 P) .nil .nil) .nil) (.node (o197_s16 P) .nil .nil)) (.node (o101_s16 P) (.node (o165_s16 P) (.node (o293_s28 P) .nil .nil) .nil) (.node (o229_s17 P) .nil .nil))) (.node (o53_s3 P) (.node (o85_s11 P) (.node (o149_s14 P) (.node (o277_s28 P) .nil .nil) .nil) (.node (o213_s17 P) .nil .nil)) (.node (o117_s12 P) (.node (o181_s16 P) .nil .nil) (.node (o245_s19 P) .nil .nil)))) (.node (o29_s0 P) (.node (o45_s3 P) (.node (o77_s8 P) (.node (o141_s13 P) (.node (o269_s28 P) .nil .nil) .nil) (.node (o205_s16 P) .nil .nil)) (.node (o109_s12 P) (.node (o173_s16 P) (.node (o301_s28 P) .nil .nil) .nil) (.node (o237_s19 P) .nil .nil))) (.node (o61_s8 P) (.node (o93_s11 P) (.node (o157_s14 P) (.node (o285_s28 P) .nil .nil) .nil) (.node (o221_s17 P) .nil .nil)) (.node (o125_s12 P) (.node (o189_s16 P) .nil .nil) (.node (o253_s28 P) .nil .nil))))))) (.node (o2_s11 P) (.node (o4_s0 P) (.node (o8_s0 P) (.node (o16_s0 P) (.node (o32_s0 P) (.node (o64_s8 P) (.node (o128_s13 P) (.node (o256_s28 P) .nil .nil) .nil) (.node (o192_s16 P) .nil .nil)) (.node (o96_s11 P) (.node (o160_s14 P) (.node (o288_s28 P) .nil .nil) .nil) (.node (o224_s17 P) .nil .nil))) (.node (o48_s3 P) (.node (o80_s8 P) (.node (o144_s13 P) (.node (o272_s28 P) .nil .nil) .nil) (.node (o208_s17 P) .nil .nil)) (.node (o112_s12 P) (.node (o176_s16 P) (.node (o304_s28 P) .nil .nil) .nil) (.node (o240_s19 P) .nil .nil)))) (.node (o24_s0 P) (.node (o40_s28 P) (.node (o72_s8 P) (.node (o136_s13 P) (.node (o264_s28 P) .nil .nil) .nil) (.node (o200_s16 P) .nil .nil)) (.node (o104_s11 P) (.node (o168_s16 P) (.node (o296_s28 P) .nil .nil) .nil) (.node (o232_s17 P) .nil .nil))) (.node (o56_s3 P) (.node (o88_s11 P) (.node (o152_s14 P) (.node (o280_s28 P) .nil .nil) .nil) (.node (o216_s17 P) .nil .nil)) (.node (o120_s12 P) (.node (o184_s16 P) .nil .nil) (.node (o248_s28 P) .nil .nil))))) (.node (o12_s0 P) (.node (o20_s0 P) (.node (o36_s0 P) (.node (o68_s8 P) (.node (o132_s13 P) (.node (o260_s28 P) .nil .nil) .nil) (.node (o196_s16 P) .nil .nil)) (.node (o100_s11 P) (.node (o164_s14 P) (.node (o292_s28 P) .nil .nil) .nil) (.node (o228_s17 P) .nil .nil))) (.node (o52_s3 P) (.node (o84_s11 P) (.node (o148_s14 P) (.node (o276_s28 P) .nil .nil) .nil) (.node (o212_s17 P) .nil .nil)) (.node (o116_s12 P) (.node (o180_s16 P) .nil .nil) (.node (o244_s19 P) .nil .nil)))) (.node (o28_s0 P) (.node (o44_s3 P) (.node (o76_s8 P) (.node (o140_s13 P) (.node (o268_s28 P) .nil .nil) .nil) (.node (o204_s16 P) .nil .nil)) (.node (o108_s12 P) (.node (o172_s16 P) (.node (o300_s28 P) .nil .nil) .nil) (.node (o236_s19 P) .nil .nil))) (.node (o60_s8 P) (.node (o92_s11 P) (.node (o156_s14 P) (.node (o284_s28 P) .nil .nil) .nil) (.node (o220_s17 P) .nil .nil)) (.node (o124_s12 P) (.node (o188_s16 P) .nil .nil) (.node (o252_s28 P) .nil .nil)))))) (.node (o6_s0 P) (.node (o10_s0 P) (.node (o18_s0 P) (.node (o34_s0 P) (.node (o66_s8 P) (.node (o130_s13 P) (.node (o258_s28 P) .nil .nil) .nil) (.node (o194_s16 P) .nil .nil)) (.node (o98_s11 P) (.node (o162_s14 P) (.node (o290_s28 P) .nil .nil) .nil) (.node (o226_s17 P) .nil .nil))) (.node (o50_s3 P) (.node (o82_s8 P) (.node (o146_s13 P) (.node (o274_s28 P) .nil .nil) .nil) (.node (o210_s16 P) .nil .nil)) (.node (o114_s12 P) (.node (o178_s16 P) (.node (o306_s28 P) .nil .nil) .nil) (.node (o242_s19 P) .nil .nil)))) (.node (o26_s0 P) (.node (o42_sb P) (.node (o74_s8 P) (.node (o138_s13 P) (.node (o266_s28 P) .nil .nil) .nil) (.node (o202_s16 P) .nil .nil)) (.node (o106_s12 P) (.node (o170_s16 P) (.node (o298_s28 P) .nil .nil) .nil) (.node (o234_s19 P) .nil .nil))) (.node (o58_s8 P) (.node (o90_s11 P) (.node (o154_s14 P) (.node (o282_s28 P) .nil .nil) .nil) (.node (o218_s17 P) .nil .nil)) (.node (o122_s12 P) (.node (o186_s16 P) .nil .nil) (.node (o250_s28 P) .nil .nil))))) (.node (o14_s0 P) (.node (o22_s0 P) (.node (o38_s0 P) (.node (o70_s8 P) (.node (o134_s13 P) (.node (o262_s28 P) .nil .nil) .nil) (.node (o198_s16 P) .nil .nil)) (.node (o102_s11 P) (.node (o166_s14 P) (.node (o294_s28 P) .nil .nil) .nil) (.node (o230_s17 P) .nil .nil))) (.node (o54_s3 P) (.node (o86_s11 P) (.node (o150_s14 P) (.node (o278_s28 P) .nil .nil) .nil) (.node (o214_s17 P) .nil .nil)) (.node (o118_s12 P) (.node (o182_s16 P) .nil .nil) (.node (o246_s28 P) .nil .nil)))) (.node (o30_s0 P) (.node (o46_s3 P) (.node (o78_s8 P) (.node (o142_s13 P) (.node (o270_s28 P) .nil .nil) .nil) (.node (o206_s16 P) .nil .nil)) (.node (o110_s12 P) (.node (o174_s16 P) (.node (o302_s28 P) .nil .nil) .nil) (.node (o238_s19 P) .nil .nil))) (.node (o62_s8 P) (.node (o94_s11 P) (.node (o158_s14 P) (.node (o286_s28 P) .nil .nil) .nil) (.node (o222_s17 P) .nil .nil)) (.node (o126_s13 P) (.node (o190_s16 P) .nil .nil) (.node (o254_s28 P) .nil .nil))))))))
def S_s28 (w : World) (os : OsState) : SharedT := ⟨T_s28 w.params, 308, life0, #[.finished], drawn0, 1702, os⟩
def o3_s29 (P : Params) : Obj := ⟨(.type "dict"), none, (.dict #[⟨PyData.keyHash P (.ofString "__name__"), (.str (.ofString "__name__") 165), (.str (.ofString "rlp.sedes.binary") 1700)⟩, ⟨PyData.keyHash P (.ofString "__doc__"), (.str (.ofString "__doc__") 166), .none⟩, ⟨PyData.keyHash P (.ofString "__package__"), (.str (.ofString "__package__") 167), .none⟩, ⟨PyData.keyHash P (.ofString "__loader__"), (.str (.ofString "__loader__") 168), (.builtin "__main__.__loader__#opaque")⟩, ⟨PyData.keyHash P (.ofString "__spec__"), (.str (.ofString "__spec__") 169), .none⟩, ⟨PyData.keyHash P (.ofString "__annotations__"), (.str (.ofString "__annotations__") 170), (.ref 6)⟩, ⟨PyData.keyHash P (.ofString "__builtins__"), (.str (.ofString "__builtins__") 171), (.ref 4)⟩, ⟨PyData.keyHash P (.ofString "__file__"), (.str (.ofString "__file__") 173), (.str (.ofString "/claim/cut.py") 172)⟩, ⟨PyData.keyHash P (.ofString "__cached__"), (.str (.ofString "__cached__") 174), .none⟩, ⟨PyData.keyHash P (.ofString "pack"), (.str (.ofString "pack") 312), (.builtin "_struct.pack")⟩, ⟨PyData.keyHash P (.ofString "_wall"), (.str (.ofString "_wall") 325), (.ref 49)⟩, ⟨PyData.keyHash P (.ofString "CHARSET"), (.str (.ofString "CHARSET") 329), (.str (.ofString "qpzry9x8gf2tvdw0s3jn54khce6mua7l") 328)⟩, ⟨PyData.keyHash P (.ofString "bech32_polymod"), (.str (.ofString "bech32_polymod") 341), (.ref 56)⟩, ⟨PyData.keyHash P (.ofString "bech32_hrp_expand"), (.str (.ofString "bech32_hrp_expand") 347), (.ref 61)⟩, ⟨PyData.keyHash P (.ofString "bech32_verify_checksum"), (.str (.ofString "bech32_verify_checksum") 355), (.ref 68)⟩, ⟨PyData.keyHash P (.ofString "bech32_create_checksum"), (.str (.ofString "bech32_create_checksum") 361), (.ref 73)⟩, ⟨PyData.keyHash P (.ofString "bech32_encode"), (.str (.ofString "bech32_encode") 367), (.ref 78)⟩, ⟨PyData.keyHash P (.ofString "bech32_decode"), (.str (.ofString "bech32_decode") 373), (.ref 83)⟩, ⟨PyData.keyHash P (.ofString "convertbits"), (.str (.ofString "convertbits") 389), (.ref 91)⟩, ⟨PyData.keyHash P (.ofString "RLPException"), (.str (.ofString "RLPException") 411), (.ref 101)⟩, ⟨PyData.keyHash P (.ofString "EncodingError"), (.str (.ofString "EncodingError") 439), (.ref 123)⟩, ⟨PyData.keyHash P (.ofString "DecodingError"), (.str (.ofString "DecodingError") 467), (.ref 144)⟩, ⟨PyData.keyHash P (.ofString "SerializationError"), (.str (.ofString "SerializationError") 495), (.ref 165)⟩, ⟨PyData.keyHash P (.ofString "ListSerializationError"), (.str (.ofString "ListSerializationError") 526), (.ref 187)⟩, ⟨PyData.keyHash P (.ofString "DeserializationError"), (.str (.ofString "DeserializationError") 554), (.ref 208)⟩, ⟨PyData.keyHash P (.ofString "ListDeserializationError"), (.str (.ofString "ListDeserializationError") 585), (.ref 230)⟩, ⟨PyData.keyHash P (.ofString "ALL_BYTES"), (.str (.ofString "ALL_BYTES") 1623), (.ref 245)⟩, ⟨PyData.keyHash P (.ofString "Atomic"), (.str (.ofString "Atomic") 1624), (.ref 246)⟩, ⟨PyData.keyHash P (.ofString "Sequence"), (.str (.ofString "Sequence") 1625), (.ref 247)⟩, ⟨PyData.keyHash P (.ofString "is_bytes"), (.str (.ofString "is_bytes") 1632), (.ref 254)⟩, ⟨PyData.keyHash P (.ofString "big_endian_to_int"), (.str (.ofString "big_endian_to_int") 1639), (.ref 261)⟩, ⟨PyData.keyHash P (.ofString "int_to_big_endian"), (.str (.ofString "int_to_big_endian") 1646), (.ref 268)⟩, ⟨PyData.keyHash P (.ofString "BigEndianInt"), (.str (.ofString "BigEndianInt") 1694), (.ref 300)⟩, ⟨PyData.keyHash P (.ofString "big_endian_int"), (.str (.ofString "big_endian_int") 1699), (.ref 306)⟩, ⟨PyData.keyHash P (.ofString "Binary"), (.str (.ofString "Binary") 1799), (.ref 367)⟩] 35), #[]⟩
def o40_s29 (P : Params) : Obj := ⟨.none, none, (.fields #[(.int 2 0), (.int 0 0), (.ref 48), (.int 7 0), (.int 0 0), (.ref 55), (.int 16 0), (.int 0 0), (.ref 60), (.int 18 0), (.int 0 0), (.ref 67), (.int 20 0), (.int 0 0), (.ref 72), (.int 24 0), (.int 0 0), (.ref 77), (.int 27 0), (.int 0 0), (.ref 82), (.int 41 0), (.int 0 0), (.ref 90), (.int 62 0), (.int 0 0), (.ref 97), (.int 64 0), (.int 0 0), (.ref 111), (.int 69 0), (.int 0 0), (.ref 132), (.int 74 0), (.int 0 0), (.ref 153), (.int 79 0), (.int 0 0), (.ref 174), (.int 89 0), (.int 0 0), (.ref 196), (.int 94 0), (.int 0 0), (.ref 217), (.int 105 0), (.int 18 0), (.ref 237), (.int 108 0), (.int 0 0), (.ref 253), (.int 110 0), (.int 0 0), (.ref 260), (.int 112 0), (.int 0 0), (.ref 267), (.int 115 0), (.int 0 0), (.ref 274), (.int 145 0), (.int 0 0), (.ref 313)]), #[]⟩
def o308_s29 (P : Params) : Obj := ⟨(.type "tuple"), none, (.seq #[] 0), #[]⟩
def o309_s29 (P : Params) : Obj := ⟨(.type "builtin_function_or_method"), none, (.fields #[(.builtin "type.__prepare__"), (.type "type")]), #[]⟩
def o310_s29 (P : Params) : Obj := ⟨(.type "dict"), none, (.dict #[⟨PyData.keyHash P (.ofString "__module__"), (.str (.ofString "__module__") 1709), (.str (.ofString "rlp.sedes.binary") 1700)⟩, ⟨PyData.keyHash P (.ofString "__qualname__"), (.str (.ofString "__qualname__") 1711), (.str (.ofString "Binary") 1710)⟩, ⟨PyData.keyHash P (.ofString "__firstlineno__"), (.str (.ofString "__firstlineno__") 1713), (.int 145 1712)⟩, ⟨PyData.keyHash P (.ofString "__init__"), (.str (.ofString "__init__") 1723), (.ref 322)⟩, ⟨PyData.keyHash P (.ofString "fixed_length"), (.str (.ofString "fixed_length") 1744), (.ref 332)⟩, ⟨PyData.keyHash P (.ofString "is_valid_type"), (.str (.ofString "is_valid_type") 1764), (.ref 342)⟩, ⟨PyData.keyHash P (.ofString "is_valid_length"), (.str (.ofString "is_valid_length") 1772), (.ref 350)⟩, ⟨PyData.keyHash P (.ofString "serialize"), (.str (.ofString "serialize") 1780), (.ref 357)⟩, ⟨PyData.keyHash P (.ofString "deserialize"), (.str (.ofString "deserialize") 1788), (.ref 364)⟩, ⟨PyData.keyHash P (.ofString "__static_attributes__"), (.str (.ofString "__static_attributes__") 1792), (.ref 365)⟩] 10), #[]⟩
def o311_s29 (P : Params) : Obj := ⟨(.type "tuple"), none, (.seq #[] 0), #[]⟩
def o312_s29 (P : Params) : Obj := ⟨.none, none, (.fields #[(.int 147 0), (.int 4 0), (.ref 321), (.int 156 0), (.int 4 0), (.ref 329), (.int 160 0), (.int 4 0), (.ref 339), (.int 163 0), (.int 4 0), (.ref 349), (.int 166 0), (.int 4 0), (.ref 356), (.int 173 0), (.int 4 0), (.ref 363)]), #[]⟩
def o313_s29 (P : Params) : Obj := ⟨(.type "code"), none, (.fields #[(.str (.ofString "Binary") 1704), (.str (.ofString "Binary") 1705), (.str (.ofString "/claim/cut.py") 1706), (.int 145 0), (.int 0 0), (.int 0 0), (.int 0 0), (.int 0 0), (.ref 311), (.bool false), (.int 313 0), (.ref 312), .none, .none, .none, .none, (.int 1707 0), (.int 145 0), (.str (.ofString "/claim/cut.py") 1708)]), #[]⟩
def o314_s29 (P : Params) : Obj := ⟨(.type "frame"), none, .plain, #[(some (.ref 313)), (some (.ref 3)), (some (.ref 310)), none, (some (.str (.ofString "rlp.sedes.binary") 1700)), none, (some (.ref 0))]⟩
def o315_s29 (P : Params) : Obj := ⟨(.type "tuple"), none, (.seq #[.none, .none, (.bool false)] 0), #[]⟩
def o316_s29 (P : Params) : Obj := ⟨(.type "tuple"), none, (.seq #[] 0), #[]⟩
def o317_s29 (P : Params) : Obj := ⟨.none, none, (.fields #[]), #[]⟩
def o318_s29 (P : Params) : Obj := ⟨(.type "tuple"), none, (.seq #[(.str (.ofString "self") 1717), (.str (.ofString "min_length") 1718), (.str (.ofString "max_length") 1719), (.str (.ofString "allow_empty") 1720)] 0), #[]⟩
def o319_s29 (P : Params) : Obj := ⟨(.type "tuple"), none, (.seq #[] 0), #[]⟩
def o320_s29 (P : Params) : Obj := ⟨.none, none, (.func ⟨(.ofString "__init__"), (.ofString "Binary.__init__"), pA (stA [30, 0]), .stmts (bA (stA [30, 0])), sA (stA [30, 0]), 0, [], .none, .none, .none, .none, none, .none, .none, 0⟩), #[]⟩
def o321_s29 (P : Params) : Obj := ⟨(.type "code"), none, (.fields #[(.str (.ofString "__init__") 1714), (.str (.ofString "Binary.__init__") 1715), (.str (.ofString "/claim/cut.py") 1716), (.int 147 0), (.int 4 0), (.int 0 0), (.int 0 0), (.int 3 0), (.ref 316), (.bool true), (.int 313 0), (.ref 317), .none, (.ref 318), (.ref 319), (.ref 320), (.int 1721 0), (.int 147 0), (.str (.ofString "/claim/cut.py") 1722)]), #[]⟩
def o322_s29 (P : Params) : Obj := ⟨(.type "function"), none, (.func ⟨(.ofString "__init__"), (.ofString "Binary.__init__"), pA (stA [30, 0]), .stmts (bA (stA [30, 0])), sA (stA [30, 0]), 3, [], (.ref 315), .none, .none, (.str (.ofString "rlp.sedes.binary") 1700), none, (.ref 321), .none, 0⟩), #[]⟩
def o323_s29 (P : Params) : Obj := ⟨(.type "tuple"), none, (.seq #[(.bool false)] 0), #[]⟩
def o324_s29 (P : Params) : Obj := ⟨(.type "tuple"), none, (.seq #[] 0), #[]⟩
def o325_s29 (P : Params) : Obj := ⟨.none, none, (.fields #[]), #[]⟩
def o326_s29 (P : Params) : Obj := ⟨(.type "tuple"), none, (.seq #[(.str (.ofString "cls") 1727), (.str (.ofString "length") 1728), (.str (.ofString "allow_empty") 1729)] 0), #[]⟩
def o327_s29 (P : Params) : Obj := ⟨(.type "tuple"), none, (.seq #[] 0), #[]⟩
def o328_s29 (P : Params) : Obj := ⟨.none, none, (.func ⟨(.ofString "fixed_length"), (.ofString "Binary.fixed_length"), pA (stA [30, 1]), .stmts (bA (stA [30, 1])), sA (stA [30, 1]), 0, [], .none, .none, .none, .none, none, .none, .none, 0⟩), #[]⟩
def o329_s29 (P : Params) : Obj := ⟨(.type "code"), none, (.fields #[(.str (.ofString "fixed_length") 1724), (.str (.ofString "Binary.fixed_length") 1725), (.str (.ofString "/claim/cut.py") 1726), (.int 155 0), (.int 3 0), (.int 0 0), (.int 0 0), (.int 3 0), (.ref 324), (.bool true), (.int 313 0), (.ref 325), .none, (.ref 326), (.ref 327), (.ref 328), (.int 1730 0), (.int 155 0), (.str (.ofString "/claim/cut.py") 1731)]), #[]⟩
def o330_s29 (P : Params) : Obj := ⟨(.type "function"), none, (.func ⟨(.ofString "fixed_length"), (.ofString "Binary.fixed_length"), pA (stA [30, 1]), .stmts (bA (stA [30, 1])), sA (stA [30, 1]), 3, [], (.ref 323), .none, .none, (.str (.ofString "rlp.sedes.binary") 1700), (some 333), (.ref 329), .none, 0⟩), #[]⟩
def o331_s29 (P : Params) : Obj := ⟨(.type "dict"), none, (.dict #[⟨PyData.keyHash P (.ofString "__module__"), (.str (.ofString "__module__") 1733), (.str (.ofString "rlp.sedes.binary") 1700)⟩, ⟨PyData.keyHash P (.ofString "__name__"), (.str (.ofString "__name__") 1736), (.str (.ofString "fixed_length") 1735)⟩, ⟨PyData.keyHash P (.ofString "__qualname__"), (.str (.ofString "__qualname__") 1739), (.str (.ofString "Binary.fixed_length") 1738)⟩, ⟨PyData.keyHash P (.ofString "__doc__"), (.str (.ofString "__doc__") 1741), .none⟩, ⟨PyData.keyHash P (.ofString "__annotations__"), (.str (.ofString "__annotations__") 1743), (.ref 333)⟩] 5), #[]⟩
def o332_s29 (P : Params) : Obj := ⟨(.type "classmethod"), (some 331), (.fields #[(.ref 330), (.bool false)]), #[]⟩
def o333_s29 (P : Params) : Obj := ⟨(.type "dict"), none, (.dict #[] 0), #[]⟩
def o334_s29 (P : Params) : Obj := ⟨(.type "tuple"), none, (.seq #[] 0), #[]⟩
def o335_s29 (P : Params) : Obj := ⟨.none, none, (.fields #[]), #[]⟩
def o336_s29 (P : Params) : Obj := ⟨(.type "tuple"), none, (.seq #[(.str (.ofString "cls") 1748), (.str (.ofString "obj") 1749)] 0), #[]⟩
def o337_s29 (P : Params) : Obj := ⟨(.type "tuple"), none, (.seq #[] 0), #[]⟩
def o338_s29 (P : Params) : Obj := ⟨.none, none, (.func ⟨(.ofString "is_valid_type"), (.ofString "Binary.is_valid_type"), pA (stA [30, 2]), .stmts (bA (stA [30, 2])), sA (stA [30, 2]), 0, [], .none, .none, .none, .none, none, .none, .none, 0⟩), #[]⟩
def o339_s29 (P : Params) : Obj := ⟨(.type "code"), none, (.fields #[(.str (.ofString "is_valid_type") 1745), (.str (.ofString "Binary.is_valid_type") 1746), (.str (.ofString "/claim/cut.py") 1747), (.int 159 0), (.int 2 0), (.int 0 0), (.int 0 0), (.int 3 0), (.ref 334), (.bool true), (.int 313 0), (.ref 335), .none, (.ref 336), (.ref 337), (.ref 338), (.int 1750 0), (.int 159 0), (.str (.ofString "/claim/cut.py") 1751)]), #[]⟩
def o340_s29 (P : Params) : Obj := ⟨(.type "function"), none, (.func ⟨(.ofString "is_valid_type"), (.ofString "Binary.is_valid_type"), pA (stA [30, 2]), .stmts (bA (stA [30, 2])), sA (stA [30, 2]), 3, [], .none, .none, .none, (.str (.ofString "rlp.sedes.binary") 1700), (some 343), (.ref 339), .none, 0⟩), #[]⟩
def o341_s29 (P : Params) : Obj := ⟨(.type "dict"), none, (.dict #[⟨PyData.keyHash P (.ofString "__module__"), (.str (.ofString "__module__") 1753), (.str (.ofString "rlp.sedes.binary") 1700)⟩, ⟨PyData.keyHash P (.ofString "__name__"), (.str (.ofString "__name__") 1756), (.str (.ofString "is_valid_type") 1755)⟩, ⟨PyData.keyHash P (.ofString "__qualname__"), (.str (.ofString "__qualname__") 1759), (.str (.ofString "Binary.is_valid_type") 1758)⟩, ⟨PyData.keyHash P (.ofString "__doc__"), (.str (.ofString "__doc__") 1761), .none⟩, ⟨PyData.keyHash P (.ofString "__annotations__"), (.str (.ofString "__annotations__") 1763), (.ref 343)⟩] 5), #[]⟩
def o342_s29 (P : Params) : Obj := ⟨(.type "classmethod"), (some 341), (.fields #[(.ref 340), (.bool false)]), #[]⟩
def o343_s29 (P : Params) : Obj := ⟨(.type "dict"), none, (.dict #[] 0), #[]⟩
def o344_s29 (P : Params) : Obj := ⟨(.type "tuple"), none, (.seq #[] 0), #[]⟩
def o345_s29 (P : Params) : Obj := ⟨.none, none, (.fields #[]), #[]⟩
def o346_s29 (P : Params) : Obj := ⟨(.type "tuple"), none, (.seq #[(.str (.ofString "self") 1768), (.str (.ofString "length") 1769)] 0), #[]⟩
def o347_s29 (P : Params) : Obj := ⟨(.type "tuple"), none, (.seq #[] 0), #[]⟩
def o348_s29 (P : Params) : Obj := ⟨.none, none, (.func ⟨(.ofString "is_valid_length"), (.ofString "Binary.is_valid_length"), pA (stA [30, 3]), .stmts (bA (stA [30, 3])), sA (stA [30, 3]), 0, [], .none, .none, .none, .none, none, .none, .none, 0⟩), #[]⟩
def o349_s29 (P : Params) : Obj := ⟨(.type "code"), none, (.fields #[(.str (.ofString "is_valid_length") 1765), (.str (.ofString "Binary.is_valid_length") 1766), (.str (.ofString "/claim/cut.py") 1767), (.int 163 0), (.int 2 0), (.int 0 0), (.int 0 0), (.int 3 0), (.ref 344), (.bool true), (.int 313 0), (.ref 345), .none, (.ref 346), (.ref 347), (.ref 348), (.int 1770 0), (.int 163 0), (.str (.ofString "/claim/cut.py") 1771)]), #[]⟩
def o350_s29 (P : Params) : Obj := ⟨(.type "function"), none, (.func ⟨(.ofString "is_valid_length"), (.ofString "Binary.is_valid_length"), pA (stA [30, 3]), .stmts (bA (stA [30, 3])), sA (stA [30, 3]), 3, [], .none, .none, .none, (.str (.ofString "rlp.sedes.binary") 1700), none, (.ref 349), .none, 0⟩), #[]⟩
def o351_s29 (P : Params) : Obj := ⟨(.type "tuple"), none, (.seq #[] 0), #[]⟩
def o352_s29 (P : Params) : Obj := ⟨.none, none, (.fields #[]), #[]⟩
def o353_s29 (P : Params) : Obj := ⟨(.type "tuple"), none, (.seq #[(.str (.ofString "self") 1776), (.str (.ofString "obj") 1777)] 0), #[]⟩
def o354_s29 (P : Params) : Obj := ⟨(.type "tuple"), none, (.seq #[] 0), #[]⟩
def o355_s29 (P : Params) : Obj := ⟨.none, none, (.func ⟨(.ofString "serialize"), (.ofString "Binary.serialize"), pA (stA [30, 4]), .stmts (bA (stA [30, 4])), sA (stA [30, 4]), 0, [], .none, .none, .none, .none, none, .none, .none, 0⟩), #[]⟩
def o356_s29 (P : Params) : Obj := ⟨(.type "code"), none, (.fields #[(.str (.ofString "serialize") 1773), (.str (.ofString "Binary.serialize") 1774), (.str (.ofString "/claim/cut.py") 1775), (.int 166 0), (.int 2 0), (.int 0 0), (.int 0 0), (.int 3 0), (.ref 351), (.bool true), (.int 313 0), (.ref 352), .none, (.ref 353), (.ref 354), (.ref 355), (.int 1778 0), (.int 166 0), (.str (.ofString "/claim/cut.py") 1779)]), #[]⟩
def o357_s29 (P : Params) : Obj := ⟨(.type "function"), none, (.func ⟨(.ofString "serialize"), (.ofString "Binary.serialize"), pA (stA [30, 4]), .stmts (bA (stA [30, 4])), sA (stA [30, 4]), 3, [], .none, .none, .none, (.str (.ofString "rlp.sedes.binary") 1700), none, (.ref 356), .none, 0⟩), #[]⟩
def o358_s29 (P : Params) : Obj := ⟨(.type "tuple"), none, (.seq #[] 0), #[]⟩
def o359_s29 (P : Params) : Obj := ⟨.none, none, (.fields #[]), #[]⟩
def o360_s29 (P : Params) : Obj := ⟨(.type "tuple"), none, (.seq #[(.str (.ofString "self") 1784), (.str (.ofString "serial") 1785)] 0), #[]⟩
def o361_s29 (P : Params) : Obj := ⟨(.type "tuple"), none, (.seq #[] 0), #[]⟩
def o362_s29 (P : Params) : Obj := ⟨.none, none, (.func ⟨(.ofString "deserialize"), (.ofString "Binary.deserialize"), pA (stA [30, 5]), .stmts (bA (stA [30, 5])), sA (stA [30, 5]), 0, [], .none, .none, .none, .none, none, .none, .none, 0⟩), #[]⟩
def o363_s29 (P : Params) : Obj := ⟨(.type "code"), none, (.fields #[(.str (.ofString "deserialize") 1781), (.str (.ofString "Binary.deserialize") 1782), (.str (.ofString "/claim/cut.py") 1783), (.int 173 0), (.int 2 0), (.int 0 0), (.int 0 0), (.int 3 0), (.ref 358), (.bool true), (.int 313 0), (.ref 359), .none, (.ref 360), (.ref 361), (.ref 362), (.int 1786 0), (.int 173 0), (.str (.ofString "/claim/cut.py") 1787)]), #[]⟩
def o364_s29 (P : Params) : Obj := ⟨(.type "function"), none, (.func ⟨(.ofString "deserialize"), (.ofString "Binary.deserialize"), pA (stA [30, 5]), .stmts (bA (stA [30, 5])), sA (stA [30, 5]), 3, [], .none, .none, .none, (.str (.ofString "rlp.sedes.binary") 1700), none, (.ref 363), .none, 0⟩), #[]⟩
def o365_s29 (P : Params) : Obj := ⟨(.type "tuple"), none, (.seq #[(.str (.ofString "allow_empty") 1789), (.str (.ofString "max_length") 1790), (.str (.ofString "min_length") 1791)] 0), #[]⟩
def o366_s29 (P : Params) : Obj := ⟨(.type "dict"), none, (.dict #[⟨PyData.keyHash P (.ofString "__module__"), (.str (.ofString "__module__") 1709), (.str (.ofString "rlp.sedes.binary") 1700)⟩, ⟨PyData.keyHash P (.ofString "__firstlineno__"), (.str (.ofString "__firstlineno__") 1713), (.int 145 1712)⟩, ⟨PyData.keyHash P (.ofString "__init__"), (.str (.ofString "__init__") 1723), (.ref 322)⟩, ⟨PyData.keyHash P (.ofString "fixed_length"), (.str (.ofString "fixed_length") 1744), (.ref 332)⟩, ⟨PyData.keyHash P (.ofString "is_valid_type"), (.str (.ofString "is_valid_type") 1764), (.ref 342)⟩, ⟨PyData.keyHash P (.ofString "is_valid_length"), (.str (.ofString "is_valid_length") 1772), (.ref 350)⟩, ⟨PyData.keyHash P (.ofString "serialize"), (.str (.ofString "serialize") 1780), (.ref 357)⟩, ⟨PyData.keyHash P (.ofString "deserialize"), (.str (.ofString "deserialize") 1788), (.ref 364)⟩, ⟨PyData.keyHash P (.ofString "__static_attributes__"), (.str (.ofString "__static_attributes__") 1792), (.ref 365)⟩, ⟨PyData.keyHash P (.ofString "__dict__"), (.str (.ofString "__dict__") 1794), (.ref 368)⟩, ⟨PyData.keyHash P (.ofString "__weakref__"), (.str (.ofString "__weakref__") 1796), (.ref 369)⟩, ⟨PyData.keyHash P (.ofString "__doc__"), (.str (.ofString "__doc__") 1797), .none⟩] 4), #[]⟩
def o367_s29 (P : Params) : Obj := ⟨(.type "type"), none, (.cls ⟨(.ofString "Binary"), [(.type "object")], [(.ref 367), (.type "object")], 366, (.ofString "Binary"), true, [], [], false, none, false⟩), #[none, none, (some (.str (.ofString "Binary") 1702)), (some (.str (.ofString "Binary") 1710)), (some (.builtin "object.__new__")), (some (.bool true))]⟩
def o368_s29 (P : Params) : Obj := ⟨(.type "getset_descriptor"), none, (.fields #[(.str (.ofString "__dict__") 1793), (.ref 367), (.builtin "function.__dict__"), (.builtin "function.__dict__#set")]), #[]⟩
def o369_s29 (P : Params) : Obj := ⟨(.type "getset_descriptor"), none, (.fields #[(.str (.ofString "__weakref__") 1795), (.ref 367), (.builtin "ExceptionGroup.__weakref__"), .none]), #[]⟩
def o370_s29 (P : Params) : Obj := ⟨(.type "super"), none, (.fields #[(.ref 367), (.ref 367), (.ref 367)]), #[]⟩
def o371_s29 (P : Params) : Obj := ⟨(.type "builtin_function_or_method"), none, (.fields #[(.builtin "object.__init_subclass__"), (.ref 367)]), #[]⟩
def T_s29 (P : Params) : BT := (.node (o0_s0 P) (.node (o1_s0 P) (.node (o3_s29 P) (.node (o7_s0 P) (.node (o15_s0 P) (.node (o31_s0 P) (.node (o63_s8 P) (.node (o127_s13 P) (.node (o255_s28 P) .nil .nil) .nil) (.node (o191_s16 P) (.node (o319_s29 P) .nil .nil) .nil)) (.node (o95_s11 P) (.node (o159_s14 P) (.node (o287_s28 P) .nil .nil) .nil) (.node (o223_s17 P) (.node (o351_s29 P) .nil .nil) .nil))) (.node (o47_s3 P) (.node (o79_s8 P) (.node (o143_s13 P) (.node (o271_s28 P) .nil .nil) .nil) (.node (o207_s16 P) (.node (o335_s29 P) .nil .nil) .nil)) (.node (o111_s12 P) (.node (o175_s16 P) (.node (o303_s28 P) .nil .nil) .nil) (.node (o239_s19 P) (.node (o367_s29 P) .nil .nil) .nil)))) (.node (o23_s0 P) (.node (o39_sb P) (.node (o71_s8 P) (.node (o135_s13 P) (.node (o263_s28 P) .nil .nil) .nil) (.node (o199_s16 P) (.node (o327_s29 P) .nil .nil) .nil)) (.node (o103_s11 P) (.node (o167_s14 P) (.node (o295_s28 P) .nil .nil) .nil) (.node (o231_s17 P) (.node (o359_s29 P) .nil .nil) .nil))) (.node (o55_s3 P) (.node (o87_s11 P) (.node (o151_s14 P) (.node (o279_s28 P) .nil .nil) .nil) (.node (o215_s17 P) (.node (o343_s29 P) .nil .nil) .nil)) (.node (o119_s12 P) (.node (o183_s16 P) (.node (o311_s29 P) .nil .nil) .nil) (.node (o247_s28 P) .nil .nil))))) (.node (o11_s0 P) (.node (o19_s0 P) (.node (o35_s0 P) (.node (o67_s8 P) (.node (o131_s13 P) (.node (o259_s28 P) .nil .nil) .nil) (.node (o195_s16 P) (.node (o323_s29 P) .nil .nil) .nil)) (.node (o99_s11 P) (.node (o163_s14 P) (.node (o291_s28 P) .nil .nil) .nil) (.node (o227_s17 P) (.node (o355_s29 P) .nil .nil) .nil))) (.node (o51_s3 P) (.node (o83_s8 P) (.node (o147_s14 P) (.node (o275_s28 P) .nil .nil) .nil) (.node (o211_s17 P) (.node (o339_s29 P) .nil .nil) .nil)) (.node (o115_s12 P) (.node (o179_s16 P) (.node (o307_s28 P) .nil .nil) .nil) (.node (o243_s19 P) (.node (o371_s29 P) .nil .nil) .nil)))) (.node (o27_s0 P) (.node (o43_s3 P) (.node (o75_s8 P) (.node (o139_s13 P) (.node (o267_s28 P) .nil .nil) .nil) (.node (o203_s16 P) (.node (o331_s29 P) .nil .nil) .nil)) (.node (o107_s12 P) (.node (o171_s16 P) (.node (o299_s28 P) .nil .nil) .nil) (.node (o235_s19 P) (.node (o363_s29 P) .nil .nil) .nil))) (.node (o59_s8 P) (.node (o91_s11 P) (.node (o155_s14 P) (.node (o283_s28 P) .nil .nil) .nil) (.node (o219_s17 P) (.node (o347_s29 P) .nil .nil) .nil)) (.node (o123_s12 P) (.node (o187_s16 P) (.node (o315_s29 P) .nil .nil) .nil) (.node (o251_s28 P) .nil .nil)))))) (.node (o5_s0 P) (.node (o9_s0 P) (.node (o17_s0 P) (.node (o33_s0 P) (.node (o65_s8 P) (.node (o129_s13 P) (.node (o257_s28 P) .nil .nil) .nil) (.node (o193_s16 P) (.node (o321_s29 P) .nil .nil) .nil)) (.node (o97_s11 P) (.node (o161_s14 P) (.node (o289_s28 P) .nil .nil) .nil) (.node (o225_s17 P) (.node (o353_s29 P) .nil .nil) .nil))) (.node (o49_s3 P) (.node (o81_s8 P) (.node (o145_s13 P) (.node (o273_s28 P) .nil .nil) .nil) (.node (o209_s16 P) (.node (o337_s29 P) .nil .nil) .nil)) (.node (o113_s12 P) (.node (o177_s16 P) (.node (o305_s28 P) .nil .nil) .nil) (.node (o241_s19 P) (.node (o369_s29 P) .nil .nil) .nil)))) (.node (o25_s0 P) (.node (o41_sb P) (.node (o73_s8 P) (.node (o137_s13 P) (.node (o265_s28 P) .nil .nil) .nil) (.node (o201_s16 P) (.node (o329_s29 P) .nil .nil) .nil)) (.node (o105_s12 P) (.node (o169_s16 P) (.node (o297_s28 P) .nil .nil) .nil) (.node (o233_s19 P) (.node (o361_s29 P) .nil .nil) .nil))) (.node (o57_s8 P) (.node (o89_s11 P) (.node (o153_s14 P) (.node (o281_s28 P) .nil .nil) .nil) (.node (o217_s17 P) (.node (o345_s29 P) .nil .nil) .nil)) (.node (o121_s12 P) (.node (o185_s16 P) (.node (o313_s29 P) .nil .nil) .nil) (.node (o249_s28 P) .nil .nil))))) (.node (o13_s0 P) (.node (o21_s0 P) (.node (o37_s0 P) (.node (o69_s8 P) (.node (o133_s13 P) (.node (o261_s28 P) .nil .nil) .nil) (.node (o197_s16 P) (.node (o325_s29 P) .nil .nil) .nil)) (.node (o101_s16 P) (.node (o165_s16 P) (.node (o293_s28 P) .nil .nil) .nil) (.node (o229_s17 P) (.node (o357_s29 P) .nil .nil) .nil))) (.node (o53_s3 P) (.node (o85_s11 P) (.node (o149_s14 P) (.node (o277_s28 P) .nil .nil) .nil) (.node (o213_s17 P) (.node (o341_s29 P) .nil .nil) .nil)) (.node (o117_s12 P) (.node (o181_s16 P) (.node (o309_s29 P) .nil .nil) .nil) (.node (o245_s19 P) .nil .nil)))) (.node (o29_s0 P) (.node (o45_s3 P) (.node (o77_s8 P) (.node (o141_s13 P) (.node (o269_s28 P) .nil .nil) .nil) (.node (o205_s16 P) (.node (o333_s29 P) .nil .nil) .nil)) (.node (o109_s12 P) (.node (o173_s16 P) (.node (o301_s28 P) .nil .nil) .nil) (.node (o237_s19 P) (.node (o365_s29 P) .nil .nil) .nil))) (.node (o61_s8 P) (.node (o93_s11 P) (.node (o157_s14 P) (.node (o285_s28 P) .nil .nil) .nil) (.node (o221_s17 P) (.node (o349_s29 P) .nil .nil) .nil)) (.node (o125_s12 P) (.node (o189_s16 P) (.node (o317_s29 P) .nil .nil) .nil) (.node (o253_s28 P) .nil .nil))))))) (.node (o2_s11 P) (.node (o4_s0 P) (.node (o8_s0 P) (.node (o16_s0 P) (.node (o32_s0 P) (.node (o64_s8 P) (.node (o128_s13 P) (.node (o256_s28 P) .nil .nil) .nil) (.node (o192_s16 P) (.node (o320_s29 P) .nil .nil) .nil)) (.node (o96_s11 P) (.node (o160_s14 P) (.node (o288_s28 P) .nil .nil) .nil) (.node (o224_s17 P) (.node (o352_s29 P) .nil .nil) .nil))) (.node (o48_s3 P) (.node (o80_s8 P) (.node (o144_s13 P) (.node (o272_s28 P) .nil .nil) .nil) (.node (o208_s17 P) (.node (o336_s29 P) .nil .nil) .nil)) (.node (o112_s12 P) (.node (o176_s16 P) (.node (o304_s28 P) .nil .nil) .nil) (.node (o240_s19 P) (.node (o368_s29 P) .nil .nil) .nil)))) (.node (o24_s0 P) (.node (o40_s29 P) (.node (o72_s8 P) (.node (o136_s13 P) (.node (o264_s28 P) .nil .nil) .nil) (.node (o200_s16 P) (.node (o328_s29 P) .nil .nil) .nil)) (.node (o104_s11 P) (.node (o168_s16 P) (.node (o296_s28 P) .nil .nil) .nil) (.node (o232_s17 P) (.node (o360_s29 P) .nil .nil) .nil))) (.node (o56_s3 P) (.node (o88_s11 P) (.node (o152_s14 P) (.node (o280_s28 P) .nil .nil) .nil) (.node (o216_s17 P) (.node (o344_s29 P) .nil .nil) .nil)) (.node (o120_s12 P) (.node (o184_s16 P) (.node (o312_s29 P) .nil .nil) .nil) (.node (o248_s28 P) .nil .nil))))) (.node (o12_s0 P) (.node (o20_s0 P) (.node (o36_s0 P) (.node (o68_s8 P) (.node (o132_s13 P) (.node (o260_s28 P) .nil .nil) .nil) (.node (o196_s16 P) (.node (o324_s29 P) .nil .nil) .nil)) (.node (o100_s11 P) (.node (o164_s14 P) (.node (o292_s28 P) .nil .nil) .nil) (.node (o228_s17 P) (.node (o356_s29 P) .nil .nil) .nil))) (.node (o52_s3 P) (.node (o84_s11 P) (.node (o148_s14 P) (.node (o276_s28 P) .nil .nil) .nil) (.node (o212_s17 P) (.node (o340_s29 P) .nil .nil) .nil)) (.node (o116_s12 P) (.node (o180_s16 P) (.node (o308_s29 P) .nil .nil) .nil) (.node (o244_s19 P) .nil .nil)))) (.node (o28_s0 P) (.node (o44_s3 P) (.node (o76_s8 P) (.node (o140_s13 P) (.node (o268_s28 P) .nil .nil) .nil) (.node (o204_s16 P) (.node (o332_s29 P) .nil .nil) .nil)) (.node (o108_s12 P) (.node (o172_s16 P) (.node (o300_s28 P) .nil .nil) .nil) (.node (o236_s19 P) (.node (o364_s29 P) .nil .nil) .nil))) (.node (o60_s8 P) (.node (o92_s11 P) (.node (o156_s14 P) (.node (o284_s28 P) .nil .nil) .nil) (.node (o220_s17 P) (.node (o348_s29 P) .nil .nil) .nil)) (.node (o124_s12 P) (.node (o188_s16 P) (.node (o316_s29 P) .nil .nil) .nil) (.node (o252_s28 P) .nil .nil)))))) (.node (o6_s0 P) (.node (o10_s0 P) (.node (o18_s0 P) (.node (o34_s0 P) (.node (o66_s8 P) (.node (o130_s13 P) (.node (o258_s28 P) .nil .nil) .nil) (.node (o194_s16 P) (.node (o322_s29 P) .nil .nil) .nil)) (.node (o98_s11 P) (.node (o162_s14 P) (.node (o290_s28 P) .nil .nil) .nil) (.node (o226_s17 P) (.node (o354_s29 P) .nil .nil) .nil))) (.node (o50_s3 P) (.node (o82_s8 P) (.node (o146_s13 P) (.node (o274_s28 P) .nil .nil) .nil) (.node (o210_s16 P) (.node (o338_s29 P) .nil .nil) .nil)) (.node (o114_s12 P) (.node (o178_s16 P) (.node (o306_s28 P) .nil .nil) .nil) (.node (o242_s19 P) (.node (o370_s29 P) .nil .nil) .nil)))) (.node (o26_s0 P) (.node (o42_sb P) (.node (o74_s8 P) (.node (o138_s13 P) (.node (o266_s28 P) .nil .nil) .nil) (.node (o202_s16 P) (.node (o330_s29 P) .nil .nil) .nil)) (.node (o106_s12 P) (.node (o170_s16 P) (.node (o298_s28 P) .nil .nil) .nil) (.node (o234_s19 P) (.node (o362_s29 P) .nil .nil) .nil))) (.node (o58_s8 P) (.node (o90_s11 P) (.node (o154_s14 P) (.node (o282_s28 P) .nil .nil) .nil) (.node (o218_s17 P) (.node (o346_s29 P) .nil .nil) .nil)) (.node (o122_s12 P) (.node (o186_s16 P) (.node (o314_s29 P) .nil .nil) .nil) (.node (o250_s28 P) .nil .nil))))) (.node (o14_s0 P) (.node (o22_s0 P) (.node (o38_s0 P) (.node (o70_s8 P) (.node (o134_s13 P) (.node (o262_s28 P) .nil .nil) .nil) (.node (o198_s16 P) (.node (o326_s29 P) .nil .nil) .nil)) (.node (o102_s11 P) (.node (o166_s14 P) (.node (o294_s28 P) .nil .nil) .nil) (.node (o230_s17 P) (.node (o358_s29 P) .nil .nil) .nil))) (.node (o54_s3 P) (.node (o86_s11 P) (.node (o150_s14 P) (.node (o278_s28 P) .nil .nil) .nil) (.node (o214_s17 P) (.node (o342_s29 P) .nil .nil) .nil)) (.node (o118_s12 P) (.node (o182_s16 P) (.node (o310_s29 P) .nil .nil) .nil) (.node (o246_s28 P) .nil .nil)))) (.node (o30_s0 P) (.node (o46_s3 P) (.node (o78_s8 P) (.node (o142_s13 P) (.node (o270_s28 P) .nil .nil) .nil) (.node (o206_s16 P) (.node (o334_s29 P) .nil .nil) .nil)) (.node (o110_s12 P) (.node (o174_s16 P) (.node (o302_s28 P) .nil .nil) .nil) (.node (o238_s19 P) (.node (o366_s29 P) .nil .nil) .nil))) (.node (o62_s8 P) (.node (o94_s11 P) (.node (o158_s14 P) (.node (o286_s28 P) .nil .nil) .nil) (.node (o222_s17 P) (.node (o350_s29 P) .nil .nil) .nil)) (.node (o126_s13 P) (.node (o190_s16 P) (.node (o318_s29 P) .nil .nil) .nil) (.node (o254_s28 P) .nil .nil))))))))
def S_s29 (w : World) (os : OsState) : SharedT := ⟨T_s29 w.params, 372, life0, #[.finished], drawn0, 1800, os⟩
def o3_s32 (P : Params) : Obj := ⟨(.type "dict"), none, (.dict #[⟨PyData.keyHash P (.ofString "__name__"), (.str (.ofString "__name__") 165), (.str (.ofString "rlp.sedes.boolean") 1814)⟩, ⟨PyData.keyHash P (.ofString "__doc__"), (.str (.ofString "__doc__") 166), .none⟩, ⟨PyData.keyHash P (.ofString "__package__"), (.str (.ofString "__package__") 167), .none⟩, ⟨PyData.keyHash P (.ofString "__loader__"), (.str (.ofString "__loader__") 168), (.builtin "__main__.__loader__#opaque")⟩, ⟨PyData.keyHash P (.ofString "__spec__"), (.str (.ofString "__spec__") 169), .none⟩, ⟨PyData.keyHash P (.ofString "__annotations__"), (.str (.ofString "__annotations__") 170), (.ref 6)⟩, ⟨PyData.keyHash P (.ofString "__builtins__"), (.str (.ofString "__builtins__") 171), (.ref 4)⟩, ⟨PyData.keyHash P (.ofString "__file__"), (.str (.ofString "__file__") 173), (.str (.ofString "/claim/cut.py") 172)⟩, ⟨PyData.keyHash P (.ofString "__cached__"), (.str (.ofString "__cached__") 174), .none⟩, ⟨PyData.keyHash P (.ofString "pack"), (.str (.ofString "pack") 312), (.builtin "_struct.pack")⟩, ⟨PyData.keyHash P (.ofString "_wall"), (.str (.ofString "_wall") 325), (.ref 49)⟩, ⟨PyData.keyHash P (.ofString "CHARSET"), (.str (.ofString "CHARSET") 329), (.str (.ofString "qpzry9x8gf2tvdw0s3jn54khce6mua7l") 328)⟩, ⟨PyData.keyHash P (.ofString "bech32_polymod"), (.str (.ofString "bech32_polymod") 341), (.ref 56)⟩, ⟨PyData.keyHash P (.ofString "bech32_hrp_expand"), (.str (.ofString "bech32_hrp_expand") 347), (.ref 61)⟩, ⟨PyData.keyHash P (.ofString "bech32_verify_checksum"), (.str (.ofString "bech32_verify_checksum") 355), (.ref 68)⟩, ⟨PyData.keyHash P (.ofString "bech32_create_checksum"), (.str (.ofString "bech32_create_checksum") 361), (.ref 73)⟩, ⟨PyData.keyHash P (.ofString "bech32_encode"), (.str (.ofString "bech32_encode") 367), (.ref 78)⟩, ⟨PyData.keyHash P (.ofString "bech32_decode"), (.str (.ofString "bech32_decode") 373), (.ref 83)⟩, ⟨PyData.keyHash P (.ofString "convertbits"), (.str (.ofString "convertbits") 389), (.ref 91)⟩, ⟨PyData.keyHash P (.ofString "RLPException"), (.str (.ofString "RLPException") 411), (.ref 101)⟩, ⟨PyData.keyHash P (.ofString "EncodingError"), (.str (.ofString "EncodingError") 439), (.ref 123)⟩, ⟨PyData.keyHash P (.ofString "DecodingError"), (.str (.ofString "DecodingError") 467), (.ref 144)⟩, ⟨PyData.keyHash P (.ofString "SerializationError"), (.str (.ofString "SerializationError") 495), (.ref 165)⟩, ⟨PyData.keyHash P (.ofString "ListSerializationError"), (.str (.ofString "ListSerializationError") 526), (.ref 187)⟩, ⟨PyData.keyHash P (.ofString "DeserializationError"), (.str (.ofString "DeserializationError") 554), (.ref 208)⟩, ⟨PyData.keyHash P (.ofString "ListDeserializationError"), (.str (.ofString "ListDeserializationError") 585), (.ref 230)⟩, ⟨PyData.keyHash P (.ofString "ALL_BYTES"), (.str (.ofString "ALL_BYTES") 1623), (.ref 245)⟩, ⟨PyData.keyHash P (.ofString "Atomic"), (.str (.ofString "Atomic") 1624), (.ref 246)⟩, ⟨PyData.keyHash P (.ofString "Sequence"), (.str (.ofString "Sequence") 1625), (.ref 247)⟩, ⟨PyData.keyHash P (.ofString "is_bytes"), (.str (.ofString "is_bytes") 1632), (.ref 254)⟩, ⟨PyData.keyHash P (.ofString "big_endian_to_int"), (.str (.ofString "big_endian_to_int") 1639), (.ref 261)⟩, ⟨PyData.keyHash P (.ofString "int_to_big_endian"), (.str (.ofString "int_to_big_endian") 1646), (.ref 268)⟩, ⟨PyData.keyHash P (.ofString "BigEndianInt"), (.str (.ofString "BigEndianInt") 1694), (.ref 300)⟩, ⟨PyData.keyHash P (.ofString "big_endian_int"), (.str (.ofString "big_endian_int") 1699), (.ref 306)⟩, ⟨PyData.keyHash P (.ofString "Binary"), (.str (.ofString "Binary") 1799), (.ref 367)⟩, ⟨PyData.keyHash P (.ofString "binary"), (.str (.ofString "binary") 1813), (.ref 373)⟩, ⟨PyData.keyHash P (.ofString "Boolean"), (.str (.ofString "Boolean") 1851), (.ref 398)⟩] 37), #[]⟩
def o40_s32 (P : Params) : Obj := ⟨.none, none, (.fields #[(.int 2 0), (.int 0 0), (.ref 48), (.int 7 0), (.int 0 0), (.ref 55), (.int 16 0), (.int 0 0), (.ref 60), (.int 18 0), (.int 0 0), (.ref 67), (.int 20 0), (.int 0 0), (.ref 72), (.int 24 0), (.int 0 0), (.ref 77), (.int 27 0), (.int 0 0), (.ref 82), (.int 41 0), (.int 0 0), (.ref 90), (.int 62 0), (.int 0 0), (.ref 97), (.int 64 0), (.int 0 0), (.ref 111), (.int 69 0), (.int 0 0), (.ref 132), (.int 74 0), (.int 0 0), (.ref 153), (.int 79 0), (.int 0 0), (.ref 174), (.int 89 0), (.int 0 0), (.ref 196), (.int 94 0), (.int 0 0), (.ref 217), (.int 105 0), (.int 18 0), (.ref 237), (.int 108 0), (.int 0 0), (.ref 253), (.int 110 0), (.int 0 0), (.ref 260), (.int 112 0), (.int 0 0), (.ref 267), (.int 115 0), (.int 0 0), (.ref 274), (.int 145 0), (.int 0 0), (.ref 313), (.int 182 0), (.int 0 0), (.ref 380)]), #[]⟩
def o372_s32 (P : Params) : Obj := ⟨(.type "dict"), none, (.dict #[⟨PyData.keyHash P (.ofString "min_length"), (.str (.ofString "min_length") 1806), (.int 0 1804)⟩, ⟨PyData.keyHash P (.ofString "max_length"), (.str (.ofString "max_length") 1810), (.float 9218868437227405312 1808)⟩, ⟨PyData.keyHash P (.ofString "allow_empty"), (.str (.ofString "allow_empty") 1812), (.bool false)⟩] 3), #[]⟩
def o373_s32 (P : Params) : Obj := ⟨(.ref 367), (some 372), .plain, #[]⟩
def o374_s32 (P : Params) : Obj := ⟨(.type "frame"), none, (.dict #[⟨PyData.keyHash P (.ofString "self"), (.str (.ofString "self") 1800), (.ref 373)⟩, ⟨PyData.keyHash P (.ofString "min_length"), (.str (.ofString "min_length") 1801), .none⟩, ⟨PyData.keyHash P (.ofString "max_length"), (.str (.ofString "max_length") 1802), .none⟩, ⟨PyData.keyHash P (.ofString "allow_empty"), (.str (.ofString "allow_empty") 1803), (.bool false)⟩] 4), #[]⟩
def o375_s32 (P : Params) : Obj := ⟨(.type "tuple"), none, (.seq #[] 0), #[]⟩
def o376_s32 (P : Params) : Obj := ⟨(.type "builtin_function_or_method"), none, (.fields #[(.builtin "type.__prepare__"), (.type "type")]), #[]⟩
def o377_s32 (P : Params) : Obj := ⟨(.type "dict"), none, (.dict #[⟨PyData.keyHash P (.ofString "__module__"), (.str (.ofString "__module__") 1823), (.str (.ofString "rlp.sedes.boolean") 1814)⟩, ⟨PyData.keyHash P (.ofString "__qualname__"), (.str (.ofString "__qualname__") 1825), (.str (.ofString "Boolean") 1824)⟩, ⟨PyData.keyHash P (.ofString "__firstlineno__"), (.str (.ofString "__firstlineno__") 1827), (.int 182 1826)⟩, ⟨PyData.keyHash P (.ofString "serialize"), (.str (.ofString "serialize") 1835), (.ref 388)⟩, ⟨PyData.keyHash P (.ofString "deserialize"), (.str (.ofString "deserialize") 1843), (.ref 395)⟩, ⟨PyData.keyHash P (.ofString "__static_attributes__"), (.str (.ofString "__static_attributes__") 1844), (.ref 396)⟩] 6), #[]⟩
def o378_s32 (P : Params) : Obj := ⟨(.type "tuple"), none, (.seq #[] 0), #[]⟩
def o379_s32 (P : Params) : Obj := ⟨.none, none, (.fields #[(.int 184 0), (.int 4 0), (.ref 387), (.int 194 0), (.int 4 0), (.ref 394)]), #[]⟩
def o380_s32 (P : Params) : Obj := ⟨(.type "code"), none, (.fields #[(.str (.ofString "Boolean") 1818), (.str (.ofString "Boolean") 1819), (.str (.ofString "/claim/cut.py") 1820), (.int 182 0), (.int 0 0), (.int 0 0), (.int 0 0), (.int 0 0), (.ref 378), (.bool false), (.int 313 0), (.ref 379), .none, .none, .none, .none, (.int 1821 0), (.int 182 0), (.str (.ofString "/claim/cut.py") 1822)]), #[]⟩
def o381_s32 (P : Params) : Obj := ⟨(.type "frame"), none, .plain, #[(some (.ref 380)), (some (.ref 3)), (some (.ref 377)), none, (some (.str (.ofString "rlp.sedes.boolean") 1814)), none, (some (.ref 0))]⟩
def o382_s32 (P : Params) : Obj := ⟨(.type "tuple"), none, (.seq #[] 0), #[]⟩
def o383_s32 (P : Params) : Obj := ⟨.none, none, (.fields #[]), #[]⟩
def o384_s32 (P : Params) : Obj := ⟨(.type "tuple"), none, (.seq #[(.str (.ofString "self") 1831), (.str (.ofString "obj") 1832)] 0), #[]⟩
def o385_s32 (P : Params) : Obj := ⟨(.type "tuple"), none, (.seq #[] 0), #[]⟩
def o386_s32 (P : Params) : Obj := ⟨.none, none, (.func ⟨(.ofString "serialize"), (.ofString "Boolean.serialize"), pA (stA [33, 0]), .stmts (bA (stA [33, 0])), sA (stA [33, 0]), 0, [], .none, .none, .none, .none, none, .none, .none, 0⟩), #[]⟩
def o387_s32 (P : Params) : Obj := ⟨(.type "code"), none, (.fields #[(.str (.ofString "serialize") 1828), (.str (.ofString "Boolean.serialize") 1829), (.str (.ofString "/claim/cut.py") 1830), (.int 184 0), (.int 2 0), (.int 0 0), (.int 0 0), (.int 3 0), (.ref 382), (.bool true), (.int 313 0), (.ref 383), .none, (.ref 384), (.ref 385), (.ref 386), (.int 1833 0), (.int 184 0), (.str (.ofString "/claim/cut.py") 1834)]), #[]⟩
def o388_s32 (P : Params) : Obj := ⟨(.type "function"), none, (.func ⟨(.ofString "serialize"), (.ofString "Boolean.serialize"), pA (stA [33, 0]), .stmts (bA (stA [33, 0])), sA (stA [33, 0]), 3, [], .none, .none, .none, (.str (.ofString "rlp.sedes.boolean") 1814), none, (.ref 387), .none, 0⟩), #[]⟩
def o389_s32 (P : Params) : Obj := ⟨(.type "tuple"), none, (.seq #[] 0), #[]⟩
def o390_s32 (P : Params) : Obj := ⟨.none, none, (.fields #[]), #[]⟩
def o391_s32 (P : Params) : Obj := ⟨(.type "tuple"), none, (.seq #[(.str (.ofString "self") 1839), (.str (.ofString "serial") 1840)] 0), #[]⟩
def o392_s32 (P : Params) : Obj := ⟨(.type "tuple"), none, (.seq #[] 0), #[]⟩
def o393_s32 (P : Params) : Obj := ⟨.none, none, (.func ⟨(.ofString "deserialize"), (.ofString "Boolean.deserialize"), pA (stA [33, 1]), .stmts (bA (stA [33, 1])), sA (stA [33, 1]), 0, [], .none, .none, .none, .none, none, .none, .none, 0⟩), #[]⟩
def o394_s32 (P : Params) : Obj := ⟨(.type "code"), none, (.fields #[(.str (.ofString "deserialize") 1836), (.str (.ofString "Boolean.deserialize") 1837), (.str (.ofString "/claim/cut.py") 1838), (.int 194 0), (.int 2 0), (.int 0 0), (.int 0 0), (.int 3 0), (.ref 389), (.bool true), (.int 313 0), (.ref 390), .none, (.ref 391), (.ref 392), (.ref 393), (.int 1841 0), (.int 194 0), (.str (.ofString "/claim/cut.py") 1842)]), #[]⟩
def o395_s32 (P : Params) : Obj := ⟨(.type "function"), none, (.func ⟨(.ofString "deserialize"), (.ofString "Boolean.deserialize"), pA (stA [33, 1]), .stmts (bA (stA [33, 1])), sA (stA [33, 1]), 3, [], .none, .none, .none, (.str (.ofString "rlp.sedes.boolean") 1814), none, (.ref 394), .none, 0⟩), #[]⟩
def o396_s32 (P : Params) : Obj := ⟨(.type "tuple"), none, (.seq #[] 0), #[]⟩
def o397_s32 (P : Params) : Obj := ⟨(.type "dict"), none, (.dict #[⟨PyData.keyHash P (.ofString "__module__"), (.str (.ofString "__module__") 1823), (.str (.ofString "rlp.sedes.boolean") 1814)⟩, ⟨PyData.keyHash P (.ofString "__firstlineno__"), (.str (.ofString "__firstlineno__") 1827), (.int 182 1826)⟩, ⟨PyData.keyHash P (.ofString "serialize"), (.str (.ofString "serialize") 1835), (.ref 388)⟩, ⟨PyData.keyHash P (.ofString "deserialize"), (.str (.ofString "deserialize") 1843), (.ref 395)⟩, ⟨PyData.keyHash P (.ofString "__static_attributes__"), (.str (.ofString "__static_attributes__") 1844), (.ref 396)⟩, ⟨PyData.keyHash P (.ofString "__dict__"), (.str (.ofString "__dict__") 1846), (.ref 399)⟩, ⟨PyData.keyHash P (.ofString "__weakref__"), (.str (.ofString "__weakref__") 1848), (.ref 400)⟩, ⟨PyData.keyHash P (.ofString "__doc__"), (.str (.ofString "__doc__") 1849), .none⟩] 4), #[]⟩
def o398_s32 (P : Params) : Obj := ⟨(.type "type"), none, (.cls ⟨(.ofString "Boolean"), [(.type "object")], [(.ref 398), (.type "object")], 397, (.ofString "Boolean"), true, [], [], false, none, false⟩), #[none, none, (some (.str (.ofString "Boolean") 1816)), (some (.str (.ofString "Boolean") 1824)), (some (.builtin "object.__new__")), (some (.bool true))]⟩
def o399_s32 (P : Params) : Obj := ⟨(.type "getset_descriptor"), none, (.fields #[(.str (.ofString "__dict__") 1845), (.ref 398), (.builtin "function.__dict__"), (.builtin "function.__dict__#set")]), #[]⟩
def o400_s32 (P : Params) : Obj := ⟨(.type "getset_descriptor"), none, (.fields #[(.str (.ofString "__weakref__") 1847), (.ref 398), (.builtin "ExceptionGroup.__weakref__"), .none]), #[]⟩
def o401_s32 (P : Params) : Obj := ⟨(.type "super"), none, (.fields #[(.ref 398), (.ref 398), (.ref 398)]), #[]⟩
def o402_s32 (P : Params) : Obj := ⟨(.type "builtin_function_or_method"), none, (.fields #[(.builtin "object.__init_subclass__"), (.ref 398)]), #[]⟩
def T_s32 (P : Params) : BT := (.node (o0_s0 P) (.node (o1_s0 P) (.node (o3_s32 P) (.node (o7_s0 P) (.node (o15_s0 P) (.node (o31_s0 P) (.node (o63_s8 P) (.node (o127_s13 P) (.node (o255_s28 P) .nil .nil) (.node (o383_s32 P) .nil .nil)) (.node (o191_s16 P) (.node (o319_s29 P) .nil .nil) .nil)) (.node (o95_s11 P) (.node (o159_s14 P) (.node (o287_s28 P) .nil .nil) .nil) (.node (o223_s17 P) (.node (o351_s29 P) .nil .nil) .nil))) (.node (o47_s3 P) (.node (o79_s8 P) (.node (o143_s13 P) (.node (o271_s28 P) .nil .nil) (.node (o399_s32 P) .nil .nil)) (.node (o207_s16 P) (.node (o335_s29 P) .nil .nil) .nil)) (.node (o111_s12 P) (.node (o175_s16 P) (.node (o303_s28 P) .nil .nil) .nil) (.node (o239_s19 P) (.node (o367_s29 P) .nil .nil) .nil)))) (.node (o23_s0 P) (.node (o39_sb P) (.node (o71_s8 P) (.node (o135_s13 P) (.node (o263_s28 P) .nil .nil) (.node (o391_s32 P) .nil .nil)) (.node (o199_s16 P) (.node (o327_s29 P) .nil .nil) .nil)) (.node (o103_s11 P) (.node (o167_s14 P) (.node (o295_s28 P) .nil .nil) .nil) (.node (o231_s17 P) (.node (o359_s29 P) .nil .nil) .nil))) (.node (o55_s3 P) (.node (o87_s11 P) (.node (o151_s14 P) (.node (o279_s28 P) .nil .nil) .nil) (.node (o215_s17 P) (.node (o343_s29 P) .nil .nil) .nil)) (.node (o119_s12 P) (.node (o183_s16 P) (.node (o311_s29 P) .nil .nil) .nil) (.node (o247_s28 P) (.node (o375_s32 P) .nil .nil) .nil))))) (.node (o11_s0 P) (.node (o19_s0 P) (.node (o35_s0 P) (.node (o67_s8 P) (.node (o131_s13 P) (.node (o259_s28 P) .nil .nil) (.node (o387_s32 P) .nil .nil)) (.node (o195_s16 P) (.node (o323_s29 P) .nil .nil) .nil)) (.node (o99_s11 P) (.node (o163_s14 P) (.node (o291_s28 P) .nil .nil) .nil) (.node (o227_s17 P) (.node (o355_s29 P) .nil .nil) .nil))) (.node (o51_s3 P) (.node (o83_s8 P) (.node (o147_s14 P) (.node (o275_s28 P) .nil .nil) .nil) (.node (o211_s17 P) (.node (o339_s29 P) .nil .nil) .nil)) (.node (o115_s12 P) (.node (o179_s16 P) (.node (o307_s28 P) .nil .nil) .nil) (.node (o243_s19 P) (.node (o371_s29 P) .nil .nil) .nil)))) (.node (o27_s0 P) (.node (o43_s3 P) (.node (o75_s8 P) (.node (o139_s13 P) (.node (o267_s28 P) .nil .nil) (.node (o395_s32 P) .nil .nil)) (.node (o203_s16 P) (.node (o331_s29 P) .nil .nil) .nil)) (.node (o107_s12 P) (.node (o171_s16 P) (.node (o299_s28 P) .nil .nil) .nil) (.node (o235_s19 P) (.node (o363_s29 P) .nil .nil) .nil))) (.node (o59_s8 P) (.node (o91_s11 P) (.node (o155_s14 P) (.node (o283_s28 P) .nil .nil) .nil) (.node (o219_s17 P) (.node (o347_s29 P) .nil .nil) .nil)) (.node (o123_s12 P) (.node (o187_s16 P) (.node (o315_s29 P) .nil .nil) .nil) (.node (o251_s28 P) (.node (o379_s32 P) .nil .nil) .nil)))))) (.node (o5_s0 P) (.node (o9_s0 P) (.node (o17_s0 P) (.node (o33_s0 P) (.node (o65_s8 P) (.node (o129_s13 P) (.node (o257_s28 P) .nil .nil) (.node (o385_s32 P) .nil .nil)) (.node (o193_s16 P) (.node (o321_s29 P) .nil .nil) .nil)) (.node (o97_s11 P) (.node (o161_s14 P) (.node (o289_s28 P) .nil .nil) .nil) (.node (o225_s17 P) (.node (o353_s29 P) .nil .nil) .nil))) (.node (o49_s3 P) (.node (o81_s8 P) (.node (o145_s13 P) (.node (o273_s28 P) .nil .nil) (.node (o401_s32 P) .nil .nil)) (.node (o209_s16 P) (.node (o337_s29 P) .nil .nil) .nil)) (.node (o113_s12 P) (.node (o177_s16 P) (.node (o305_s28 P) .nil .nil) .nil) (.node (o241_s19 P) (.node (o369_s29 P) .nil .nil) .nil)))) (.node (o25_s0 P) (.node (o41_sb P) (.node (o73_s8 P) (.node (o137_s13 P) (.node (o265_s28 P) .nil .nil) (.node (o393_s32 P) .nil .nil)) (.node (o201_s16 P) (.node (o329_s29 P) .nil .nil) .nil)) (.node (o105_s12 P) (.node (o169_s16 P) (.node (o297_s28 P) .nil .nil) .nil) (.node (o233_s19 P) (.node (o361_s29 P) .nil .nil) .nil))) (.node (o57_s8 P) (.node (o89_s11 P) (.node (o153_s14 P) (.node (o281_s28 P) .nil .nil) .nil) (.node (o217_s17 P) (.node (o345_s29 P) .nil .nil) .nil)) (.node (o121_s12 P) (.node (o185_s16 P) (.node (o313_s29 P) .nil .nil) .nil) (.node (o249_s28 P) (.node (o377_s32 P) .nil .nil) .nil))))) (.node (o13_s0 P) (.node (o21_s0 P) (.node (o37_s0 P) (.node (o69_s8 P) (.node (o133_s13 P) (.node (o261_s28 P) .nil .nil) (.node (o389_s32 P) .nil .nil)) (.node (o197_s16 P) (.node (o325_s29 P) .nil .nil) .nil)) (.node (o101_s16 P) (.node (o165_s16 P) (.node (o293_s28 P) .nil .nil) .nil) (.node (o229_s17 P) (.node (o357_s29 P) .nil .nil) .nil))) (.node (o53_s3 P) (.node (o85_s11 P) (.node (o149_s14 P) (.node (o277_s28 P) .nil .nil) .nil) (.node (o213_s17 P) (.node (o341_s29 P) .nil .nil) .nil)) (.node (o117_s12 P) (.node (o181_s16 P) (.node (o309_s29 P) .nil .nil) .nil) (.node (o245_s19 P) (.node (o373_s32 P) .nil .nil) .nil)))) (.node (o29_s0 P) (.node (o45_s3 P) (.node (o77_s8 P) (.node (o141_s13 P) (.node (o269_s28 P) .nil .nil) (.node (o397_s32 P) .nil .nil)) (.node (o205_s16 P) (.node (o333_s29 P) .nil .nil) .nil)) (.node (o109_s12 P) (.node (o173_s16 P) (.node (o301_s28 P) .nil .nil) .nil) (.node (o237_s19 P) (.node (o365_s29 P) .nil .nil) .nil))) (.node (o61_s8 P) (.node (o93_s11 P) (.node (o157_s14 P) (.node (o285_s28 P) .nil .nil) .nil) (.node (o221_s17 P) (.node (o349_s29 P) .nil .nil) .nil)) (.node (o125_s12 P) (.node (o189_s16 P) (.node (o317_s29 P) .nil .nil) .nil) (.node (o253_s28 P) (.node (o381_s32 P) .nil .nil) .nil))))))) (.node (o2_s11 P) (.node (o4_s0 P) (.node (o8_s0 P) (.node (o16_s0 P) (.node (o32_s0 P) (.node (o64_s8 P) (.node (o128_s13 P) (.node (o256_s28 P) .nil .nil) (.node (o384_s32 P) .nil .nil)) (.node (o192_s16 P) (.node (o320_s29 P) .nil .nil) .nil)) (.node (o96_s11 P) (.node (o160_s14 P) (.node (o288_s28 P) .nil .nil) .nil) (.node (o224_s17 P) (.node (o352_s29 P) .nil .nil) .nil))) (.node (o48_s3 P) (.node (o80_s8 P) (.node (o144_s13 P) (.node (o272_s28 P) .nil .nil) (.node (o400_s32 P) .nil .nil)) (.node (o208_s17 P) (.node (o336_s29 P) .nil .nil) .nil)) (.node (o112_s12 P) (.node (o176_s16 P) (.node (o304_s28 P) .nil .nil) .nil) (.node (o240_s19 P) (.node (o368_s29 P) .nil .nil) .nil)))) (.node (o24_s0 P) (.node (o40_s32 P) (.node (o72_s8 P) (.node (o136_s13 P) (.node (o264_s28 P) .nil .nil) (.node (o392_s32 P) .nil .nil)) (.node (o200_s16 P) (.node (o328_s29 P) .nil .nil) .nil)) (.node (o104_s11 P) (.node (o168_s16 P) (.node (o296_s28 P) .nil .nil) .nil) (.node (o232_s17 P) (.node (o360_s29 P) .nil .nil) .nil))) (.node (o56_s3 P) (.node (o88_s11 P) (.node (o152_s14 P) (.node (o280_s28 P) .nil .nil) .nil) (.node (o216_s17 P) (.node (o344_s29 P) .nil .nil) .nil)) (.node (o120_s12 P) (.node (o184_s16 P) (.node (o312_s29 P) .nil .nil) .nil) (.node (o248_s28 P) (.node (o376_s32 P) .nil .nil) .nil))))) (.node (o12_s0 P) (.node (o20_s0 P) (.node (o36_s0 P) (.node (o68_s8 P) (.node (o132_s13 P) (.node (o260_s28 P) .nil .nil) (.node (o388_s32 P) .nil .nil)) (.node (o196_s16 P) (.node (o324_s29 P) .nil .nil) .nil)) (.node (o100_s11 P) (.node (o164_s14 P) (.node (o292_s28 P) .nil .nil) .nil) (.node (o228_s17 P) (.node (o356_s29 P) .nil .nil) .nil))) (.node (o52_s3 P) (.node (o84_s11 P) (.node (o148_s14 P) (.node (o276_s28 P) .nil .nil) .nil) (.node (o212_s17 P) (.node (o340_s29 P) .nil .nil) .nil)) (.node (o116_s12 P) (.node (o180_s16 P) (.node (o308_s29 P) .nil .nil) .nil) (.node (o244_s19 P) (.node (o372_s32 P) .nil .nil) .nil)))) (.node (o28_s0 P) (.node (o44_s3 P) (.node (o76_s8 P) (.node (o140_s13 P) (.node (o268_s28 P) .nil .nil) (.node (o396_s32 P) .nil .nil)) (.node (o204_s16 P) (.node (o332_s29 P) .nil .nil) .nil)) (.node (o108_s12 P) (.node (o172_s16 P) (.node (o300_s28 P) .nil .nil) .nil) (.node (o236_s19 P) (.node (o364_s29 P) .nil .nil) .nil))) (.node (o60_s8 P) (.node (o92_s11 P) (.node (o156_s14 P) (.node (o284_s28 P) .nil .nil) .nil) (.node (o220_s17 P) (.node (o348_s29 P) .nil .nil) .nil)) (.node (o124_s12 P) (.node (o188_s16 P) (.node (o316_s29 P) .nil .nil) .nil) (.node (o252_s28 P) (.node (o380_s32 P) .nil .nil) .nil)))))) (.node (o6_s0 P) (.node (o10_s0 P) (.node (o18_s0 P) (.node (o34_s0 P) (.node (o66_s8 P) (.node (o130_s13 P) (.node (o258_s28 P) .nil .nil) (.node (o386_s32 P) .nil .nil)) (.node (o194_s16 P) (.node (o322_s29 P) .nil .nil) .nil)) (.node (o98_s11 P) (.node (o162_s14 P) (.node (o290_s28 P) .nil .nil) .nil) (.node (o226_s17 P) (.node (o354_s29 P) .nil .nil) .nil))) (.node (o50_s3 P) (.node (o82_s8 P) (.node (o146_s13 P) (.node (o274_s28 P) .nil .nil) (.node (o402_s32 P) .nil .nil)) (.node (o210_s16 P) (.node (o338_s29 P) .nil .nil) .nil)) (.node (o114_s12 P) (.node (o178_s16 P) (.node (o306_s28 P) .nil .nil) .nil) (.node (o242_s19 P) (.node (o370_s29 P) .nil .nil) .nil)))) (.node (o26_s0 P) (.node (o42_sb P) (.node (o74_s8 P) (.node (o138_s13 P) (.node (o266_s28 P) .nil .nil) (.node (o394_s32 P) .nil .nil)) (.node (o202_s16 P) (.node (o330_s29 P) .nil .nil) .nil)) (.node (o106_s12 P) (.node (o170_s16 P) (.node (o298_s28 P) .nil .nil) .nil) (.node (o234_s19 P) (.node (o362_s29 P) .nil .nil) .nil))) (.node (o58_s8 P) (.node (o90_s11 P) (.node (o154_s14 P) (.node (o282_s28 P) .nil .nil) .nil) (.node (o218_s17 P) (.node (o346_s29 P) .nil .nil) .nil)) (.node (o122_s12 P) (.node (o186_s16 P) (.node (o314_s29 P) .nil .nil) .nil) (.node (o250_s28 P) (.node (o378_s32 P) .nil .nil) .nil))))) (.node (o14_s0 P) (.node (o22_s0 P) (.node (o38_s0 P) (.node (o70_s8 P) (.node (o134_s13 P) (.node (o262_s28 P) .nil .nil) (.node (o390_s32 P) .nil .nil)) (.node (o198_s16 P) (.node (o326_s29 P) .nil .nil) .nil)) (.node (o102_s11 P) (.node (o166_s14 P) (.node (o294_s28 P) .nil .nil) .nil) (.node (o230_s17 P) (.node (o358_s29 P) .nil .nil) .nil))) (.node (o54_s3 P) (.node (o86_s11 P) (.node (o150_s14 P) (.node (o278_s28 P) .nil .nil) .nil) (.node (o214_s17 P) (.node (o342_s29 P) .nil .nil) .nil)) (.node (o118_s12 P) (.node (o182_s16 P) (.node (o310_s29 P) .nil .nil) .nil) (.node (o246_s28 P) (.node (o374_s32 P) .nil .nil) .nil)))) (.node (o30_s0 P) (.node (o46_s3 P) (.node (o78_s8 P) (.node (o142_s13 P) (.node (o270_s28 P) .nil .nil) (.node (o398_s32 P) .nil .nil)) (.node (o206_s16 P) (.node (o334_s29 P) .nil .nil) .nil)) (.node (o110_s12 P) (.node (o174_s16 P) (.node (o302_s28 P) .nil .nil) .nil) (.node (o238_s19 P) (.node (o366_s29 P) .nil .nil) .nil))) (.node (o62_s8 P) (.node (o94_s11 P) (.node (o158_s14 P) (.node (o286_s28 P) .nil .nil) .nil) (.node (o222_s17 P) (.node (o350_s29 P) .nil .nil) .nil)) (.node (o126_s13 P) (.node (o190_s16 P) (.node (o318_s29 P) .nil .nil) .nil) (.node (o254_s28 P) (.node (o382_s32 P) .nil .nil) .nil))))))))
def S_s32 (w : World) (os : OsState) : SharedT := ⟨T_s32 w.params, 403, life0, #[.finished], drawn0, 1852, os⟩
def o3_s37 (P : Params) : Obj := ⟨(.type "dict"), none, (.dict #[⟨PyData.keyHash P (.ofString "__name__"), (.str (.ofString "__name__") 165), (.str (.ofString "rlp.sedes.lists") 1853)⟩, ⟨PyData.keyHash P (.ofString "__doc__"), (.str (.ofString "__doc__") 166), .none⟩, ⟨PyData.keyHash P (.ofString "__package__"), (.str (.ofString "__package__") 167), .none⟩, ⟨PyData.keyHash P (.ofString "__loader__"), (.str (.ofString "__loader__") 168), (.builtin "__main__.__loader__#opaque")⟩, ⟨PyData.keyHash P (.ofString "__spec__"), (.str (.ofString "__spec__") 169), .none⟩, ⟨PyData.keyHash P (.ofString "__annotations__"), (.str (.ofString "__annotations__") 170), (.ref 6)⟩, ⟨PyData.keyHash P (.ofString "__builtins__"), (.str (.ofString "__builtins__") 171), (.ref 4)⟩, ⟨PyData.keyHash P (.ofString "__file__"), (.str (.ofString "__file__") 173), (.str (.ofString "/claim/cut.py") 172)⟩, ⟨PyData.keyHash P (.ofString "__cached__"), (.str (.ofString "__cached__") 174), .none⟩, ⟨PyData.keyHash P (.ofString "pack"), (.str (.ofString "pack") 312), (.builtin "_struct.pack")⟩, ⟨PyData.keyHash P (.ofString "_wall"), (.str (.ofString "_wall") 325), (.ref 49)⟩, ⟨PyData.keyHash P (.ofString "CHARSET"), (.str (.ofString "CHARSET") 329), (.str (.ofString "qpzry9x8gf2tvdw0s3jn54khce6mua7l") 328)⟩, ⟨PyData.keyHash P (.ofString "bech32_polymod"), (.str (.ofString "bech32_polymod") 341), (.ref 56)⟩, ⟨PyData.keyHash P (.ofString "bech32_hrp_expand"), (.str (.ofString "bech32_hrp_expand") 347), (.ref 61)⟩, ⟨PyData.keyHash P (.ofString "bech32_verify_checksum"), (.str (.ofString "bech32_verify_checksum") 355), (.ref 68)⟩, ⟨PyData.keyHash P (.ofString "bech32_create_checksum"), (.str (.ofString "bech32_create_checksum") 361), (.ref 73)⟩, ⟨PyData.keyHash P (.ofString "bech32_encode"), (.str (.ofString "bech32_encode") 367), (.ref 78)⟩, ⟨PyData.keyHash P (.ofString "bech32_decode"), (.str (.ofString "bech32_decode") 373), (.ref 83)⟩, ⟨PyData.keyHash P (.ofString "convertbits"), (.str (.ofString "convertbits") 389), (.ref 91)⟩, ⟨PyData.keyHash P (.ofString "RLPException"), (.str (.ofString "RLPException") 411), (.ref 101)⟩, ⟨PyData.keyHash P (.ofString "EncodingError"), (.str (.ofString "EncodingError") 439), (.ref 123)⟩, ⟨PyData.keyHash P (.ofString "DecodingError"), (.str (.ofString "DecodingError") 467), (.ref 144)⟩, ⟨PyData.keyHash P (.ofString "SerializationError"), (.str (.ofString "SerializationError") 495), (.ref 165)⟩, ⟨PyData.keyHash P (.ofString "ListSerializationError"), (.str (.ofString "ListSerializationError") 526), (.ref 187)⟩, ⟨PyData.keyHash P (.ofString "DeserializationError"), (.str (.ofString "DeserializationError") 554), (.ref 208)⟩, ⟨PyData.keyHash P (.ofString "ListDeserializationError"), (.str (.ofString "ListDeserializationError") 585), (.ref 230)⟩, ⟨PyData.keyHash P (.ofString "ALL_BYTES"), (.str (.ofString "ALL_BYTES") 1623), (.ref 245)⟩, ⟨PyData.keyHash P (.ofString "Atomic"), (.str (.ofString "Atomic") 1624), (.ref 246)⟩, ⟨PyData.keyHash P (.ofString "Sequence"), (.str (.ofString "Sequence") 1625), (.ref 247)⟩, ⟨PyData.keyHash P (.ofString "is_bytes"), (.str (.ofString "is_bytes") 1632), (.ref 254)⟩, ⟨PyData.keyHash P (.ofString "big_endian_to_int"), (.str (.ofString "big_endian_to_int") 1639), (.ref 261)⟩, ⟨PyData.keyHash P (.ofString "int_to_big_endian"), (.str (.ofString "int_to_big_endian") 1646), (.ref 268)⟩, ⟨PyData.keyHash P (.ofString "BigEndianInt"), (.str (.ofString "BigEndianInt") 1694), (.ref 300)⟩, ⟨PyData.keyHash P (.ofString "big_endian_int"), (.str (.ofString "big_endian_int") 1699), (.ref 306)⟩, ⟨PyData.keyHash P (.ofString "Binary"), (.str (.ofString "Binary") 1799), (.ref 367)⟩, ⟨PyData.keyHash P (.ofString "binary"), (.str (.ofString "binary") 1813), (.ref 373)⟩, ⟨PyData.keyHash P (.ofString "Boolean"), (.str (.ofString "Boolean") 1851), (.ref 398)⟩, ⟨PyData.keyHash P (.ofString "boolean"), (.str (.ofString "boolean") 1852), (.ref 404)⟩, ⟨PyData.keyHash P (.ofString "is_sedes"), (.str (.ofString "is_sedes") 1861), (.ref 411)⟩, ⟨PyData.keyHash P (.ofString "is_sequence"), (.str (.ofString "is_sequence") 1868), (.ref 418)⟩, ⟨PyData.keyHash P (.ofString "List"), (.str (.ofString "List") 1927), (.ref 452)⟩] 41), #[]⟩
def o40_s37 (P : Params) : Obj := ⟨.none, none, (.fields #[(.int 2 0), (.int 0 0), (.ref 48), (.int 7 0), (.int 0 0), (.ref 55), (.int 16 0), (.int 0 0), (.ref 60), (.int 18 0), (.int 0 0), (.ref 67), (.int 20 0), (.int 0 0), (.ref 72), (.int 24 0), (.int 0 0), (.ref 77), (.int 27 0), (.int 0 0), (.ref 82), (.int 41 0), (.int 0 0), (.ref 90), (.int 62 0), (.int 0 0), (.ref 97), (.int 64 0), (.int 0 0), (.ref 111), (.int 69 0), (.int 0 0), (.ref 132), (.int 74 0), (.int 0 0), (.ref 153), (.int 79 0), (.int 0 0), (.ref 174), (.int 89 0), (.int 0 0), (.ref 196), (.int 94 0), (.int 0 0), (.ref 217), (.int 105 0), (.int 18 0), (.ref 237), (.int 108 0), (.int 0 0), (.ref 253), (.int 110 0), (.int 0 0), (.ref 260), (.int 112 0), (.int 0 0), (.ref 267), (.int 115 0), (.int 0 0), (.ref 274), (.int 145 0), (.int 0 0), (.ref 313), (.int 182 0), (.int 0 0), (.ref 380), (.int 203 0), (.int 0 0), (.ref 410), (.int 205 0), (.int 0 0), (.ref 417), (.int 207 0), (.int 0 0), (.ref 425)]), #[]⟩
def o403_s37 (P : Params) : Obj := ⟨(.type "dict"), none, (.dict #[] 0), #[]⟩
def o404_s37 (P : Params) : Obj := ⟨(.ref 398), (some 403), .plain, #[]⟩
def o405_s37 (P : Params) : Obj := ⟨(.type "tuple"), none, (.seq #[] 0), #[]⟩
def o406_s37 (P : Params) : Obj := ⟨.none, none, (.fields #[]), #[]⟩
def o407_s37 (P : Params) : Obj := ⟨(.type "tuple"), none, (.seq #[(.str (.ofString "obj") 1858)] 0), #[]⟩
def o408_s37 (P : Params) : Obj := ⟨(.type "tuple"), none, (.seq #[] 0), #[]⟩
def o409_s37 (P : Params) : Obj := ⟨.none, none, (.func ⟨(.ofString "is_sedes"), (.ofString "is_sedes"), pA (stA [36]), .stmts (bA (stA [36])), sA (stA [36]), 0, [], .none, .none, .none, .none, none, .none, .none, 0⟩), #[]⟩
def o410_s37 (P : Params) : Obj := ⟨(.type "code"), none, (.fields #[(.str (.ofString "is_sedes") 1855), (.str (.ofString "is_sedes") 1856), (.str (.ofString "/claim/cut.py") 1857), (.int 203 0), (.int 1 0), (.int 0 0), (.int 0 0), (.int 3 0), (.ref 405), (.bool true), (.int 313 0), (.ref 406), .none, (.ref 407), (.ref 408), (.ref 409), (.int 1859 0), (.int 203 0), (.str (.ofString "/claim/cut.py") 1860)]), #[]⟩
def o411_s37 (P : Params) : Obj := ⟨(.type "function"), none, (.func ⟨(.ofString "is_sedes"), (.ofString "is_sedes"), pA (stA [36]), .stmts (bA (stA [36])), sA (stA [36]), 3, [], .none, .none, .none, (.str (.ofString "rlp.sedes.lists") 1853), none, (.ref 410), .none, 0⟩), #[]⟩
def o412_s37 (P : Params) : Obj := ⟨(.type "tuple"), none, (.seq #[] 0), #[]⟩
def o413_s37 (P : Params) : Obj := ⟨.none, none, (.fields #[]), #[]⟩
def o414_s37 (P : Params) : Obj := ⟨(.type "tuple"), none, (.seq #[(.str (.ofString "obj") 1865)] 0), #[]⟩
def o415_s37 (P : Params) : Obj := ⟨(.type "tuple"), none, (.seq #[] 0), #[]⟩
def o416_s37 (P : Params) : Obj := ⟨.none, none, (.func ⟨(.ofString "is_sequence"), (.ofString "is_sequence"), pA (stA [37]), .stmts (bA (stA [37])), sA (stA [37]), 0, [], .none, .none, .none, .none, none, .none, .none, 0⟩), #[]⟩
def o417_s37 (P : Params) : Obj := ⟨(.type "code"), none, (.fields #[(.str (.ofString "is_sequence") 1862), (.str (.ofString "is_sequence") 1863), (.str (.ofString "/claim/cut.py") 1864), (.int 205 0), (.int 1 0), (.int 0 0), (.int 0 0), (.int 3 0), (.ref 412), (.bool true), (.int 313 0), (.ref 413), .none, (.ref 414), (.ref 415), (.ref 416), (.int 1866 0), (.int 205 0), (.str (.ofString "/claim/cut.py") 1867)]), #[]⟩
def o418_s37 (P : Params) : Obj := ⟨(.type "function"), none, (.func ⟨(.ofString "is_sequence"), (.ofString "is_sequence"), pA (stA [37]), .stmts (bA (stA [37])), sA (stA [37]), 3, [], .none, .none, .none, (.str (.ofString "rlp.sedes.lists") 1853), none, (.ref 417), .none, 0⟩), #[]⟩
def o419_s37 (P : Params) : Obj := ⟨(.type "tuple"), none, (.seq #[(.type "list")] 0), #[]⟩
def o420_s37 (P : Params) : Obj := ⟨(.type "builtin_function_or_method"), none, (.fields #[(.builtin "type.__prepare__"), (.type "type")]), #[]⟩
def o421_s37 (P : Params) : Obj := ⟨(.type "dict"), none, (.dict #[⟨PyData.keyHash P (.ofString "__module__"), (.str (.ofString "__module__") 1876), (.str (.ofString "rlp.sedes.lists") 1853)⟩, ⟨PyData.keyHash P (.ofString "__qualname__"), (.str (.ofString "__qualname__") 1878), (.str (.ofString "List") 1877)⟩, ⟨PyData.keyHash P (.ofString "__firstlineno__"), (.str (.ofString "__firstlineno__") 1880), (.int 207 1879)⟩, ⟨PyData.keyHash P (.ofString "__init__"), (.str (.ofString "__init__") 1891), (.ref 435)⟩, ⟨PyData.keyHash P (.ofString "serialize"), (.str (.ofString "serialize") 1904), (.ref 442)⟩, ⟨PyData.keyHash P (.ofString "deserialize"), (.str (.ofString "deserialize") 1917), (.ref 449)⟩, ⟨PyData.keyHash P (.ofString "__static_attributes__"), (.str (.ofString "__static_attributes__") 1919), (.ref 450)⟩, ⟨PyData.keyHash P (.ofString "__classcell__"), (.str (.ofString "__classcell__") 1920), (.ref 422)⟩] 8), #[]⟩
def o422_s37 (P : Params) : Obj := ⟨(.type "cell"), none, (.cell (some (.ref 452))), #[]⟩
def o423_s37 (P : Params) : Obj := ⟨(.type "tuple"), none, (.seq #[] 0), #[]⟩
def o424_s37 (P : Params) : Obj := ⟨.none, none, (.fields #[(.int 209 0), (.int 4 0), (.ref 434), (.int 221 0), (.int 4 0), (.ref 441), (.int 234 0), (.int 4 0), (.ref 448)]), #[]⟩
def o425_s37 (P : Params) : Obj := ⟨(.type "code"), none, (.fields #[(.str (.ofString "List") 1871), (.str (.ofString "List") 1872), (.str (.ofString "/claim/cut.py") 1873), (.int 207 0), (.int 0 0), (.int 0 0), (.int 0 0), (.int 0 0), (.ref 423), (.bool false), (.int 313 0), (.ref 424), .none, .none, .none, .none, (.int 1874 0), (.int 207 0), (.str (.ofString "/claim/cut.py") 1875)]), #[]⟩
def o426_s37 (P : Params) : Obj := ⟨(.type "frame"), none, .plain, #[(some (.ref 425)), (some (.ref 3)), (some (.ref 421)), none, (some (.str (.ofString "rlp.sedes.lists") 1853)), none, (some (.ref 0))]⟩
def o427_s37 (P : Params) : Obj := ⟨(.type "tuple"), none, (.seq #[.none, (.bool true)] 0), #[]⟩
def o428_s37 (P : Params) : Obj := ⟨(.type "tuple"), none, (.seq #[(.ref 422)] 0), #[]⟩
def o429_s37 (P : Params) : Obj := ⟨(.type "tuple"), none, (.seq #[(.str (.ofString "__class__") 1884)] 0), #[]⟩
def o430_s37 (P : Params) : Obj := ⟨.none, none, (.fields #[]), #[]⟩
def o431_s37 (P : Params) : Obj := ⟨(.type "tuple"), none, (.seq #[(.str (.ofString "self") 1885), (.str (.ofString "elements") 1886), (.str (.ofString "strict") 1887), (.str (.ofString "e") 1888)] 0), #[]⟩
def o432_s37 (P : Params) : Obj := ⟨(.type "tuple"), none, (.seq #[] 0), #[]⟩
def o433_s37 (P : Params) : Obj := ⟨.none, none, (.func ⟨(.ofString "__init__"), (.ofString "List.__init__"), pA (stA [38, 0]), .stmts (bA (stA [38, 0])), sA (stA [38, 0]), 0, [], .none, .none, .none, .none, none, .none, .none, 0⟩), #[]⟩
def o434_s37 (P : Params) : Obj := ⟨(.type "code"), none, (.fields #[(.str (.ofString "__init__") 1881), (.str (.ofString "List.__init__") 1882), (.str (.ofString "/claim/cut.py") 1883), (.int 209 0), (.int 3 0), (.int 0 0), (.int 0 0), (.int 3 0), (.ref 429), (.bool true), (.int 313 0), (.ref 430), .none, (.ref 431), (.ref 432), (.ref 433), (.int 1889 0), (.int 209 0), (.str (.ofString "/claim/cut.py") 1890)]), #[]⟩
def o435_s37 (P : Params) : Obj := ⟨(.type "function"), none, (.func ⟨(.ofString "__init__"), (.ofString "List.__init__"), pA (stA [38, 0]), .stmts (bA (stA [38, 0])), sA (stA [38, 0]), 3, [((.ofString "__class__"), 422)], (.ref 427), .none, .none, (.str (.ofString "rlp.sedes.lists") 1853), none, (.ref 434), (.ref 428), 0⟩), #[]⟩
def o436_s37 (P : Params) : Obj := ⟨(.type "tuple"), none, (.seq #[] 0), #[]⟩
def o437_s37 (P : Params) : Obj := ⟨.none, none, (.fields #[]), #[]⟩
def o438_s37 (P : Params) : Obj := ⟨(.type "tuple"), none, (.seq #[(.str (.ofString "self") 1895), (.str (.ofString "obj") 1896), (.str (.ofString "found") 1897), (.str (.ofString "index") 1898), (.str (.ofString "element") 1899), (.str (.ofString "sedes") 1900), (.str (.ofString "e") 1901)] 0), #[]⟩
def o439_s37 (P : Params) : Obj := ⟨(.type "tuple"), none, (.seq #[] 0), #[]⟩
def o440_s37 (P : Params) : Obj := ⟨.none, none, (.func ⟨(.ofString "serialize"), (.ofString "List.serialize"), pA (stA [38, 1]), .stmts (bA (stA [38, 1])), sA (stA [38, 1]), 0, [], .none, .none, .none, .none, none, .none, .none, 0⟩), #[]⟩
def o441_s37 (P : Params) : Obj := ⟨(.type "code"), none, (.fields #[(.str (.ofString "serialize") 1892), (.str (.ofString "List.serialize") 1893), (.str (.ofString "/claim/cut.py") 1894), (.int 221 0), (.int 2 0), (.int 0 0), (.int 0 0), (.int 3 0), (.ref 436), (.bool true), (.int 313 0), (.ref 437), .none, (.ref 438), (.ref 439), (.ref 440), (.int 1902 0), (.int 221 0), (.str (.ofString "/claim/cut.py") 1903)]), #[]⟩
def o442_s37 (P : Params) : Obj := ⟨(.type "function"), none, (.func ⟨(.ofString "serialize"), (.ofString "List.serialize"), pA (stA [38, 1]), .stmts (bA (stA [38, 1])), sA (stA [38, 1]), 3, [], .none, .none, .none, (.str (.ofString "rlp.sedes.lists") 1853), none, (.ref 441), .none, 0⟩), #[]⟩
def o443_s37 (P : Params) : Obj := ⟨(.type "tuple"), none, (.seq #[] 0), #[]⟩
def o444_s37 (P : Params) : Obj := ⟨.none, none, (.fields #[]), #[]⟩
def o445_s37 (P : Params) : Obj := ⟨(.type "tuple"), none, (.seq #[(.str (.ofString "self") 1908), (.str (.ofString "serial") 1909), (.str (.ofString "found") 1910), (.str (.ofString "idx") 1911), (.str (.ofString "sedes") 1912), (.str (.ofString "element") 1913), (.str (.ofString "e") 1914)] 0), #[]⟩
def o446_s37 (P : Params) : Obj := ⟨(.type "tuple"), none, (.seq #[] 0), #[]⟩
def o447_s37 (P : Params) : Obj := ⟨.none, none, (.func ⟨(.ofString "deserialize"), (.ofString "List.deserialize"), pA (stA [38, 2]), .stmts (bA (stA [38, 2])), sA (stA [38, 2]), 0, [], .none, .none, .none, .none, none, .none, .none, 0⟩), #[]⟩
def o448_s37 (P : Params) : Obj := ⟨(.type "code"), none, (.fields #[(.str (.ofString "deserialize") 1905), (.str (.ofString "List.deserialize") 1906), (.str (.ofString "/claim/cut.py") 1907), (.int 234 0), (.int 2 0), (.int 0 0), (.int 0 0), (.int 3 0), (.ref 443), (.bool true), (.int 313 0), (.ref 444), .none, (.ref 445), (.ref 446), (.ref 447), (.int 1915 0), (.int 234 0), (.str (.ofString "/claim/cut.py") 1916)]), #[]⟩
def o449_s37 (P : Params) : Obj := ⟨(.type "function"), none, (.func ⟨(.ofString "deserialize"), (.ofString "List.deserialize"), pA (stA [38, 2]), .stmts (bA (stA [38, 2])), sA (stA [38, 2]), 3, [], .none, .none, .none, (.str (.ofString "rlp.sedes.lists") 1853), none, (.ref 448), .none, 0⟩), #[]⟩
def o450_s37 (P : Params) : Obj := ⟨(.type "tuple"), none, (.seq #[(.str (.ofString "strict") 1918)] 0), #[]⟩
def o451_s37 (P : Params) : Obj := ⟨(.type "dict"), none, (.dict #[⟨PyData.keyHash P (.ofString "__module__"), (.str (.ofString "__module__") 1876), (.str (.ofString "rlp.sedes.lists") 1853)⟩, ⟨PyData.keyHash P (.ofString "__firstlineno__"), (.str (.ofString "__firstlineno__") 1880), (.int 207 1879)⟩, ⟨PyData.keyHash P (.ofString "__init__"), (.str (.ofString "__init__") 1891), (.ref 435)⟩, ⟨PyData.keyHash P (.ofString "serialize"), (.str (.ofString "serialize") 1904), (.ref 442)⟩, ⟨PyData.keyHash P (.ofString "deserialize"), (.str (.ofString "deserialize") 1917), (.ref 449)⟩, ⟨PyData.keyHash P (.ofString "__static_attributes__"), (.str (.ofString "__static_attributes__") 1919), (.ref 450)⟩, ⟨PyData.keyHash P (.ofString "__dict__"), (.str (.ofString "__dict__") 1922), (.ref 453)⟩, ⟨PyData.keyHash P (.ofString "__weakref__"), (.str (.ofString "__weakref__") 1924), (.ref 454)⟩, ⟨PyData.keyHash P (.ofString "__doc__"), (.str (.ofString "__doc__") 1925), .none⟩] 5), #[]⟩
def o452_s37 (P : Params) : Obj := ⟨(.type "type"), none, (.cls ⟨(.ofString "List"), [(.type "list")], [(.ref 452), (.type "list"), (.type "object")], 451, (.ofString "List"), true, [], [], false, none, false⟩), #[(some (.ref 419)), none, (some (.str (.ofString "List") 1869)), (some (.str (.ofString "List") 1877)), (some (.builtin "list.__new__")), (some (.bool true))]⟩
def o453_s37 (P : Params) : Obj := ⟨(.type "getset_descriptor"), none, (.fields #[(.str (.ofString "__dict__") 1921), (.ref 452), (.builtin "function.__dict__"), (.builtin "function.__dict__#set")]), #[]⟩
def o454_s37 (P : Params) : Obj := ⟨(.type "getset_descriptor"), none, (.fields #[(.str (.ofString "__weakref__") 1923), (.ref 452), (.builtin "ExceptionGroup.__weakref__"), .none]), #[]⟩
def o455_s37 (P : Params) : Obj := ⟨(.type "super"), none, (.fields #[(.ref 452), (.ref 452), (.ref 452)]), #[]⟩
def o456_s37 (P : Params) : Obj := ⟨(.type "builtin_function_or_method"), none, (.fields #[(.builtin "object.__init_subclass__"), (.ref 452)]), #[]⟩
def T_s37 (P : Params) : BT := (.node (o0_s0 P) (.node (o1_s0 P) (.node (o3_s37 P) (.node (o7_s0 P) (.node (o15_s0 P) (.node (o31_s0 P) (.node (o63_s8 P) (.node (o127_s13 P) (.node (o255_s28 P) .nil .nil) (.node (o383_s32 P) .nil .nil)) (.node (o191_s16 P) (.node (o319_s29 P) .nil .nil) (.node (o447_s37 P) .nil .nil))) (.node (o95_s11 P) (.node (o159_s14 P) (.node (o287_s28 P) .nil .nil) (.node (o415_s37 P) .nil .nil)) (.node (o223_s17 P) (.node (o351_s29 P) .nil .nil) .nil))) (.node (o47_s3 P) (.node (o79_s8 P) (.node (o143_s13 P) (.node (o271_s28 P) .nil .nil) (.node (o399_s32 P) .nil .nil)) (.node (o207_s16 P) (.node (o335_s29 P) .nil .nil) .nil)) (.node (o111_s12 P) (.node (o175_s16 P) (.node (o303_s28 P) .nil .nil) (.node (o431_s37 P) .nil .nil)) (.node (o239_s19 P) (.node (o367_s29 P) .nil .nil) .nil)))) (.node (o23_s0 P) (.node (o39_sb P) (.node (o71_s8 P) (.node (o135_s13 P) (.node (o263_s28 P) .nil .nil) (.node (o391_s32 P) .nil .nil)) (.node (o199_s16 P) (.node (o327_s29 P) .nil .nil) (.node (o455_s37 P) .nil .nil))) (.node (o103_s11 P) (.node (o167_s14 P) (.node (o295_s28 P) .nil .nil) (.node (o423_s37 P) .nil .nil)) (.node (o231_s17 P) (.node (o359_s29 P) .nil .nil) .nil))) (.node (o55_s3 P) (.node (o87_s11 P) (.node (o151_s14 P) (.node (o279_s28 P) .nil .nil) (.node (o407_s37 P) .nil .nil)) (.node (o215_s17 P) (.node (o343_s29 P) .nil .nil) .nil)) (.node (o119_s12 P) (.node (o183_s16 P) (.node (o311_s29 P) .nil .nil) (.node (o439_s37 P) .nil .nil)) (.node (o247_s28 P) (.node (o375_s32 P) .nil .nil) .nil))))) (.node (o11_s0 P) (.node (o19_s0 P) (.node (o35_s0 P) (.node (o67_s8 P) (.node (o131_s13 P) (.node (o259_s28 P) .nil .nil) (.node (o387_s32 P) .nil .nil)) (.node (o195_s16 P) (.node (o323_s29 P) .nil .nil) (.node (o451_s37 P) .nil .nil))) (.node (o99_s11 P) (.node (o163_s14 P) (.node (o291_s28 P) .nil .nil) (.node (o419_s37 P) .nil .nil)) (.node (o227_s17 P) (.node (o355_s29 P) .nil .nil) .nil))) (.node (o51_s3 P) (.node (o83_s8 P) (.node (o147_s14 P) (.node (o275_s28 P) .nil .nil) (.node (o403_s37 P) .nil .nil)) (.node (o211_s17 P) (.node (o339_s29 P) .nil .nil) .nil)) (.node (o115_s12 P) (.node (o179_s16 P) (.node (o307_s28 P) .nil .nil) (.node (o435_s37 P) .nil .nil)) (.node (o243_s19 P) (.node (o371_s29 P) .nil .nil) .nil)))) (.node (o27_s0 P) (.node (o43_s3 P) (.node (o75_s8 P) (.node (o139_s13 P) (.node (o267_s28 P) .nil .nil) (.node (o395_s32 P) .nil .nil)) (.node (o203_s16 P) (.node (o331_s29 P) .nil .nil) .nil)) (.node (o107_s12 P) (.node (o171_s16 P) (.node (o299_s28 P) .nil .nil) (.node (o427_s37 P) .nil .nil)) (.node (o235_s19 P) (.node (o363_s29 P) .nil .nil) .nil))) (.node (o59_s8 P) (.node (o91_s11 P) (.node (o155_s14 P) (.node (o283_s28 P) .nil .nil) (.node (o411_s37 P) .nil .nil)) (.node (o219_s17 P) (.node (o347_s29 P) .nil .nil) .nil)) (.node (o123_s12 P) (.node (o187_s16 P) (.node (o315_s29 P) .nil .nil) (.node (o443_s37 P) .nil .nil)) (.node (o251_s28 P) (.node (o379_s32 P) .nil .nil) .nil)))))) (.node (o5_s0 P) (.node (o9_s0 P) (.node (o17_s0 P) (.node (o33_s0 P) (.node (o65_s8 P) (.node (o129_s13 P) (.node (o257_s28 P) .nil .nil) (.node (o385_s32 P) .nil .nil)) (.node (o193_s16 P) (.node (o321_s29 P) .nil .nil) (.node (o449_s37 P) .nil .nil))) (.node (o97_s11 P) (.node (o161_s14 P) (.node (o289_s28 P) .nil .nil) (.node (o417_s37 P) .nil .nil)) (.node (o225_s17 P) (.node (o353_s29 P) .nil .nil) .nil))) (.node (o49_s3 P) (.node (o81_s8 P) (.node (o145_s13 P) (.node (o273_s28 P) .nil .nil) (.node (o401_s32 P) .nil .nil)) (.node (o209_s16 P) (.node (o337_s29 P) .nil .nil) .nil)) (.node (o113_s12 P) (.node (o177_s16 P) (.node (o305_s28 P) .nil .nil) (.node (o433_s37 P) .nil .nil)) (.node (o241_s19 P) (.node (o369_s29 P) .nil .nil) .nil)))) (.node (o25_s0 P) (.node (o41_sb P) (.node (o73_s8 P) (.node (o137_s13 P) (.node (o265_s28 P) .nil .nil) (.node (o393_s32 P) .nil .nil)) (.node (o201_s16 P) (.node (o329_s29 P) .nil .nil) .nil)) (.node (o105_s12 P) (.node (o169_s16 P) (.node (o297_s28 P) .nil .nil) (.node (o425_s37 P) .nil .nil)) (.node (o233_s19 P) (.node (o361_s29 P) .nil .nil) .nil))) (.node (o57_s8 P) (.node (o89_s11 P) (.node (o153_s14 P) (.node (o281_s28 P) .nil .nil) (.node (o409_s37 P) .nil .nil)) (.node (o217_s17 P) (.node (o345_s29 P) .nil .nil) .nil)) (.node (o121_s12 P) (.node (o185_s16 P) (.node (o313_s29 P) .nil .nil) (.node (o441_s37 P) .nil .nil)) (.node (o249_s28 P) (.node (o377_s32 P) .nil .nil) .nil))))) (.node (o13_s0 P) (.node (o21_s0 P) (.node (o37_s0 P) (.node (o69_s8 P) (.node (o133_s13 P) (.node (o261_s28 P) .nil .nil) (.node (o389_s32 P) .nil .nil)) (.node (o197_s16 P) (.node (o325_s29 P) .nil .nil) (.node (o453_s37 P) .nil .nil))) (.node (o101_s16 P) (.node (o165_s16 P) (.node (o293_s28 P) .nil .nil) (.node (o421_s37 P) .nil .nil)) (.node (o229_s17 P) (.node (o357_s29 P) .nil .nil) .nil))) (.node (o53_s3 P) (.node (o85_s11 P) (.node (o149_s14 P) (.node (o277_s28 P) .nil .nil) (.node (o405_s37 P) .nil .nil)) (.node (o213_s17 P) (.node (o341_s29 P) .nil .nil) .nil)) (.node (o117_s12 P) (.node (o181_s16 P) (.node (o309_s29 P) .nil .nil) (.node (o437_s37 P) .nil .nil)) (.node (o245_s19 P) (.node (o373_s32 P) .nil .nil) .nil)))) (.node (o29_s0 P) (.node (o45_s3 P) (.node (o77_s8 P) (.node (o141_s13 P) (.node (o269_s28 P) .nil .nil) (.node (o397_s32 P) .nil .nil)) (.node (o205_s16 P) (.node (o333_s29 P) .nil .nil) .nil)) (.node (o109_s12 P) (.node (o173_s16 P) (.node (o301_s28 P) .nil .nil) (.node (o429_s37 P) .nil .nil)) (.node (o237_s19 P) (.node (o365_s29 P) .nil .nil) .nil))) (.node (o61_s8 P) (.node (o93_s11 P) (.node (o157_s14 P) (.node (o285_s28 P) .nil .nil) (.node (o413_s37 P) .nil .nil)) (.node (o221_s17 P) (.node (o349_s29 P) .nil .nil) .nil)) (.node (o125_s12 P) (.node (o189_s16 P) (.node (o317_s29 P) .nil .nil) (.node (o445_s37 P) .nil .nil)) (.node (o253_s28 P) (.node (o381_s32 P) .nil .nil) .nil))))))) (.node (o2_s11 P) (.node (o4_s0 P) (.node (o8_s0 P) (.node (o16_s0 P) (.node (o32_s0 P) (.node (o64_s8 P) (.node (o128_s13 P) (.node (o256_s28 P) .nil .nil) (.node (o384_s32 P) .nil .nil)) (.node (o192_s16 P) (.node (o320_s29 P) .nil .nil) (.node (o448_s37 P) .nil .nil))) (.node (o96_s11 P) (.node (o160_s14 P) (.node (o288_s28 P) .nil .nil) (.node (o416_s37 P) .nil .nil)) (.node (o224_s17 P) (.node (o352_s29 P) .nil .nil) .nil))) (.node (o48_s3 P) (.node (o80_s8 P) (.node (o144_s13 P) (.node (o272_s28 P) .nil .nil) (.node (o400_s32 P) .nil .nil)) (.node (o208_s17 P) (.node (o336_s29 P) .nil .nil) .nil)) (.node (o112_s12 P) (.node (o176_s16 P) (.node (o304_s28 P) .nil .nil) (.node (o432_s37 P) .nil .nil)) (.node (o240_s19 P) (.node (o368_s29 P) .nil .nil) .nil)))) (.node (o24_s0 P) (.node (o40_s37 P) (.node (o72_s8 P) (.node (o136_s13 P) (.node (o264_s28 P) .nil .nil) (.node (o392_s32 P) .nil .nil)) (.node (o200_s16 P) (.node (o328_s29 P) .nil .nil) (.node (o456_s37 P) .nil .nil))) (.node (o104_s11 P) (.node (o168_s16 P) (.node (o296_s28 P) .nil .nil) (.node (o424_s37 P) .nil .nil)) (.node (o232_s17 P) (.node (o360_s29 P) .nil .nil) .nil))) (.node (o56_s3 P) (.node (o88_s11 P) (.node (o152_s14 P) (.node (o280_s28 P) .nil .nil) (.node (o408_s37 P) .nil .nil)) (.node (o216_s17 P) (.node (o344_s29 P) .nil .nil) .nil)) (.node (o120_s12 P) (.node (o184_s16 P) (.node (o312_s29 P) .nil .nil) (.node (o440_s37 P) .nil .nil)) (.node (o248_s28 P) (.node (o376_s32 P) .nil .nil) .nil))))) (.node (o12_s0 P) (.node (o20_s0 P) (.node (o36_s0 P) (.node (o68_s8 P) (.node (o132_s13 P) (.node (o260_s28 P) .nil .nil) (.node (o388_s32 P) .nil .nil)) (.node (o196_s16 P) (.node (o324_s29 P) .nil .nil) (.node (o452_s37 P) .nil .nil))) (.node (o100_s11 P) (.node (o164_s14 P) (.node (o292_s28 P) .nil .nil) (.node (o420_s37 P) .nil .nil)) (.node (o228_s17 P) (.node (o356_s29 P) .nil .nil) .nil))) (.node (o52_s3 P) (.node (o84_s11 P) (.node (o148_s14 P) (.node (o276_s28 P) .nil .nil) (.node (o404_s37 P) .nil .nil)) (.node (o212_s17 P) (.node (o340_s29 P) .nil .nil) .nil)) (.node (o116_s12 P) (.node (o180_s16 P) (.node (o308_s29 P) .nil .nil) (.node (o436_s37 P) .nil .nil)) (.node (o244_s19 P) (.node (o372_s32 P) .nil .nil) .nil)))) (.node (o28_s0 P) (.node (o44_s3 P) (.node (o76_s8 P) (.node (o140_s13 P) (.node (o268_s28 P) .nil .nil) (.node (o396_s32 P) .nil .nil)) (.node (o204_s16 P) (.node (o332_s29 P) .nil .nil) .nil)) (.node (o108_s12 P) (.node (o172_s16 P) (.node (o300_s28 P) .nil .nil) (.node (o428_s37 P) .nil .nil)) (.node (o236_s19 P) (.node (o364_s29 P) .nil .nil) .nil))) (.node (o60_s8 P) (.node (o92_s11 P) (.node (o156_s14 P) (.node (o284_s28 P) .nil .nil) (.node (o412_s37 P) .nil .nil)) (.node (o220_s17 P) (.node (o348_s29 P) .nil .nil) .nil)) (.node (o124_s12 P) (.node (o188_s16 P) (.node (o316_s29 P) .nil .nil) (.node (o444_s37 P) .nil .nil)) (.node (o252_s28 P) (.node (o380_s32 P) .nil .nil) .nil)))))) (.node (o6_s0 P) (.node (o10_s0 P) (.node (o18_s0 P) (.node (o34_s0 P) (.node (o66_s8 P) (.node (o130_s13 P) (.node (o258_s28 P) .nil .nil) (.node (o386_s32 P) .nil .nil)) (.node (o194_s16 P) (.node (o322_s29 P) .nil .nil) (.node (o450_s37 P) .nil .nil))) (.node (o98_s11 P) (.node (o162_s14 P) (.node (o290_s28 P) .nil .nil) (.node (o418_s37 P) .nil .nil)) (.node (o226_s17 P) (.node (o354_s29 P) .nil .nil) .nil))) (.node (o50_s3 P) (.node (o82_s8 P) (.node (o146_s13 P) (.node (o274_s28 P) .nil .nil) (.node (o402_s32 P) .nil .nil)) (.node (o210_s16 P) (.node (o338_s29 P) .nil .nil) .nil)) (.node (o114_s12 P) (.node (o178_s16 P) (.node (o306_s28 P) .nil .nil) (.node (o434_s37 P) .nil .nil)) (.node (o242_s19 P) (.node (o370_s29 P) .nil .nil) .nil)))) (.node (o26_s0 P) (.node (o42_sb P) (.node (o74_s8 P) (.node (o138_s13 P) (.node (o266_s28 P) .nil .nil) (.node (o394_s32 P) .nil .nil)) (.node (o202_s16 P) (.node (o330_s29 P) .nil .nil) .nil)) (.node (o106_s12 P) (.node (o170_s16 P) (.node (o298_s28 P) .nil .nil) (.node (o426_s37 P) .nil .nil)) (.node (o234_s19 P) (.node (o362_s29 P) .nil .nil) .nil))) (.node (o58_s8 P) (.node (o90_s11 P) (.node (o154_s14 P) (.node (o282_s28 P) .nil .nil) (.node (o410_s37 P) .nil .nil)) (.node (o218_s17 P) (.node (o346_s29 P) .nil .nil) .nil)) (.node (o122_s12 P) (.node (o186_s16 P) (.node (o314_s29 P) .nil .nil) (.node (o442_s37 P) .nil .nil)) (.node (o250_s28 P) (.node (o378_s32 P) .nil .nil) .nil))))) (.node (o14_s0 P) (.node (o22_s0 P) (.node (o38_s0 P) (.node (o70_s8 P) (.node (o134_s13 P) (.node (o262_s28 P) .nil .nil) (.node (o390_s32 P) .nil .nil)) (.node (o198_s16 P) (.node (o326_s29 P) .nil .nil) (.node (o454_s37 P) .nil .nil))) (.node (o102_s11 P) (.node (o166_s14 P) (.node (o294_s28 P) .nil .nil) (.node (o422_s37 P) .nil .nil)) (.node (o230_s17 P) (.node (o358_s29 P) .nil .nil) .nil))) (.node (o54_s3 P) (.node (o86_s11 P) (.node (o150_s14 P) (.node (o278_s28 P) .nil .nil) (.node (o406_s37 P) .nil .nil)) (.node (o214_s17 P) (.node (o342_s29 P) .nil .nil) .nil)) (.node (o118_s12 P) (.node (o182_s16 P) (.node (o310_s29 P) .nil .nil) (.node (o438_s37 P) .nil .nil)) (.node (o246_s28 P) (.node (o374_s32 P) .nil .nil) .nil)))) (.node (o30_s0 P) (.node (o46_s3 P) (.node (o78_s8 P) (.node (o142_s13 P) (.node (o270_s28 P) .nil .nil) (.node (o398_s32 P) .nil .nil)) (.node (o206_s16 P) (.node (o334_s29 P) .nil .nil) .nil)) (.node (o110_s12 P) (.node (o174_s16 P) (.node (o302_s28 P) .nil .nil) (.node (o430_s37 P) .nil .nil)) (.node (o238_s19 P) (.node (o366_s29 P) .nil .nil) .nil))) (.node (o62_s8 P) (.node (o94_s11 P) (.node (o158_s14 P) (.node (o286_s28 P) .nil .nil) (.node (o414_s37 P) .nil .nil)) (.node (o222_s17 P) (.node (o350_s29 P) .nil .nil) .nil)) (.node (o126_s13 P) (.node (o190_s16 P) (.node (o318_s29 P) .nil .nil) (.node (o446_s37 P) .nil .nil)) (.node (o254_s28 P) (.node (o382_s32 P) .nil .nil) .nil))))))))
def S_s37 (w : World) (os : OsState) : SharedT := ⟨T_s37 w.params, 457, life0, #[.finished], drawn0, 1928, os⟩
def o3_s44 (P : Params) : Obj := ⟨(.type "dict"), none, (.dict #[⟨PyData.keyHash P (.ofString "__name__"), (.str (.ofString "__name__") 165), (.str (.ofString "rlp.codec") 1928)⟩, ⟨PyData.keyHash P (.ofString "__doc__"), (.str (.ofString "__doc__") 166), .none⟩, ⟨PyData.keyHash P (.ofString "__package__"), (.str (.ofString "__package__") 167), .none⟩, ⟨PyData.keyHash P (.ofString "__loader__"), (.str (.ofString "__loader__") 168), (.builtin "__main__.__loader__#opaque")⟩, ⟨PyData.keyHash P (.ofString "__spec__"), (.str (.ofString "__spec__") 169), .none⟩, ⟨PyData.keyHash P (.ofString "__annotations__"), (.str (.ofString "__annotations__") 170), (.ref 6)⟩, ⟨PyData.keyHash P (.ofString "__builtins__"), (.str (.ofString "__builtins__") 171), (.ref 4)⟩, ⟨PyData.keyHash P (.ofString "__file__"), (.str (.ofString "__file__") 173), (.str (.ofString "/claim/cut.py") 172)⟩, ⟨PyData.keyHash P (.ofString "__cached__"), (.str (.ofString "__cached__") 174), .none⟩, ⟨PyData.keyHash P (.ofString "pack"), (.str (.ofString "pack") 312), (.builtin "_struct.pack")⟩, ⟨PyData.keyHash P (.ofString "_wall"), (.str (.ofString "_wall") 325), (.ref 49)⟩, ⟨PyData.keyHash P (.ofString "CHARSET"), (.str (.ofString "CHARSET") 329), (.str (.ofString "qpzry9x8gf2tvdw0s3jn54khce6mua7l") 328)⟩, ⟨PyData.keyHash P (.ofString "bech32_polymod"), (.str (.ofString "bech32_polymod") 341), (.ref 56)⟩, ⟨PyData.keyHash P (.ofString "bech32_hrp_expand"), (.str (.ofString "bech32_hrp_expand") 347), (.ref 61)⟩, ⟨PyData.keyHash P (.ofString "bech32_verify_checksum"), (.str (.ofString "bech32_verify_checksum") 355), (.ref 68)⟩, ⟨PyData.keyHash P (.ofString "bech32_create_checksum"), (.str (.ofString "bech32_create_checksum") 361), (.ref 73)⟩, ⟨PyData.keyHash P (.ofString "bech32_encode"), (.str (.ofString "bech32_encode") 367), (.ref 78)⟩, ⟨PyData.keyHash P (.ofString "bech32_decode"), (.str (.ofString "bech32_decode") 373), (.ref 83)⟩, ⟨PyData.keyHash P (.ofString "convertbits"), (.str (.ofString "convertbits") 389), (.ref 91)⟩, ⟨PyData.keyHash P (.ofString "RLPException"), (.str (.ofString "RLPException") 411), (.ref 101)⟩, ⟨PyData.keyHash P (.ofString "EncodingError"), (.str (.ofString "EncodingError") 439), (.ref 123)⟩, ⟨PyData.keyHash P (.ofString "DecodingError"), (.str (.ofString "DecodingError") 467), (.ref 144)⟩, ⟨PyData.keyHash P (.ofString "SerializationError"), (.str (.ofString "SerializationError") 495), (.ref 165)⟩, ⟨PyData.keyHash P (.ofString "ListSerializationError"), (.str (.ofString "ListSerializationError") 526), (.ref 187)⟩, ⟨PyData.keyHash P (.ofString "DeserializationError"), (.str (.ofString "DeserializationError") 554), (.ref 208)⟩, ⟨PyData.keyHash P (.ofString "ListDeserializationError"), (.str (.ofString "ListDeserializationError") 585), (.ref 230)⟩, ⟨PyData.keyHash P (.ofString "ALL_BYTES"), (.str (.ofString "ALL_BYTES") 1623), (.ref 245)⟩, ⟨PyData.keyHash P (.ofString "Atomic"), (.str (.ofString "Atomic") 1624), (.ref 246)⟩, ⟨PyData.keyHash P (.ofString "Sequence"), (.str (.ofString "Sequence") 1625), (.ref 247)⟩, ⟨PyData.keyHash P (.ofString "is_bytes"), (.str (.ofString "is_bytes") 1632), (.ref 254)⟩, ⟨PyData.keyHash P (.ofString "big_endian_to_int"), (.str (.ofString "big_endian_to_int") 1639), (.ref 261)⟩, ⟨PyData.keyHash P (.ofString "int_to_big_endian"), (.str (.ofString "int_to_big_endian") 1646), (.ref 268)⟩, ⟨PyData.keyHash P (.ofString "BigEndianInt"), (.str (.ofString "BigEndianInt") 1694), (.ref 300)⟩, ⟨PyData.keyHash P (.ofString "big_endian_int"), (.str (.ofString "big_endian_int") 1699), (.ref 306)⟩, ⟨PyData.keyHash P (.ofString "Binary"), (.str (.ofString "Binary") 1799), (.ref 367)⟩, ⟨PyData.keyHash P (.ofString "binary"), (.str (.ofString "binary") 1813), (.ref 373)⟩, ⟨PyData.keyHash P (.ofString "Boolean"), (.str (.ofString "Boolean") 1851), (.ref 398)⟩, ⟨PyData.keyHash P (.ofString "boolean"), (.str (.ofString "boolean") 1852), (.ref 404)⟩, ⟨PyData.keyHash P (.ofString "is_sedes"), (.str (.ofString "is_sedes") 1861), (.ref 411)⟩, ⟨PyData.keyHash P (.ofString "is_sequence"), (.str (.ofString "is_sequence") 1868), (.ref 418)⟩, ⟨PyData.keyHash P (.ofString "List"), (.str (.ofString "List") 1927), (.ref 452)⟩, ⟨PyData.keyHash P (.ofString "encode_raw"), (.str (.ofString "encode_raw") 1940), (.ref 463)⟩, ⟨PyData.keyHash P (.ofString "decode_raw"), (.str (.ofString "decode_raw") 1953), (.ref 470)⟩, ⟨PyData.keyHash P (.ofString "encode"), (.str (.ofString "encode") 1965), (.ref 478)⟩, ⟨PyData.keyHash P (.ofString "LONG_LENGTH"), (.str (.ofString "LONG_LENGTH") 1969), (.int 18446744073709551616 1968)⟩, ⟨PyData.keyHash P (.ofString "length_prefix"), (.str (.ofString "length_prefix") 1978), (.ref 485)⟩, ⟨PyData.keyHash P (.ofString "SHORT_STRING"), (.str (.ofString "SHORT_STRING") 1982), (.int 184 1981)⟩] 47), #[]⟩
def o40_s44 (P : Params) : Obj := ⟨.none, none, (.fields #[(.int 2 0), (.int 0 0), (.ref 48), (.int 7 0), (.int 0 0), (.ref 55), (.int 16 0), (.int 0 0), (.ref 60), (.int 18 0), (.int 0 0), (.ref 67), (.int 20 0), (.int 0 0), (.ref 72), (.int 24 0), (.int 0 0), (.ref 77), (.int 27 0), (.int 0 0), (.ref 82), (.int 41 0), (.int 0 0), (.ref 90), (.int 62 0), (.int 0 0), (.ref 97), (.int 64 0), (.int 0 0), (.ref 111), (.int 69 0), (.int 0 0), (.ref 132), (.int 74 0), (.int 0 0), (.ref 153), (.int 79 0), (.int 0 0), (.ref 174), (.int 89 0), (.int 0 0), (.ref 196), (.int 94 0), (.int 0 0), (.ref 217), (.int 105 0), (.int 18 0), (.ref 237), (.int 108 0), (.int 0 0), (.ref 253), (.int 110 0), (.int 0 0), (.ref 260), (.int 112 0), (.int 0 0), (.ref 267), (.int 115 0), (.int 0 0), (.ref 274), (.int 145 0), (.int 0 0), (.ref 313), (.int 182 0), (.int 0 0), (.ref 380), (.int 203 0), (.int 0 0), (.ref 410), (.int 205 0), (.int 0 0), (.ref 417), (.int 207 0), (.int 0 0), (.ref 425), (.int 247 0), (.int 0 0), (.ref 462), (.int 264 0), (.int 0 0), (.ref 469), (.int 273 0), (.int 0 0), (.ref 477), (.int 283 0), (.int 0 0), (.ref 484)]), #[]⟩
def o457_s44 (P : Params) : Obj := ⟨(.type "tuple"), none, (.seq #[] 0), #[]⟩
def o458_s44 (P : Params) : Obj := ⟨.none, none, (.fields #[]), #[]⟩
def o459_s44 (P : Params) : Obj := ⟨(.type "tuple"), none, (.seq #[(.str (.ofString "item") 1933), (.str (.ofString "payload") 1934), (.str (.ofString "prefix_offset") 1935), (.str (.ofString "msg") 1936), (.str (.ofString "prefix") 1937)] 0), #[]⟩
def o460_s44 (P : Params) : Obj := ⟨(.type "tuple"), none, (.seq #[] 0), #[]⟩
def o461_s44 (P : Params) : Obj := ⟨.none, none, (.func ⟨(.ofString "encode_raw"), (.ofString "encode_raw"), pA (stA [40]), .stmts (bA (stA [40])), sA (stA [40]), 0, [], .none, .none, .none, .none, none, .none, .none, 0⟩), #[]⟩
def o462_s44 (P : Params) : Obj := ⟨(.type "code"), none, (.fields #[(.str (.ofString "encode_raw") 1930), (.str (.ofString "encode_raw") 1931), (.str (.ofString "/claim/cut.py") 1932), (.int 247 0), (.int 1 0), (.int 0 0), (.int 0 0), (.int 3 0), (.ref 457), (.bool true), (.int 313 0), (.ref 458), .none, (.ref 459), (.ref 460), (.ref 461), (.int 1938 0), (.int 247 0), (.str (.ofString "/claim/cut.py") 1939)]), #[]⟩
def o463_s44 (P : Params) : Obj := ⟨(.type "function"), none, (.func ⟨(.ofString "encode_raw"), (.ofString "encode_raw"), pA (stA [40]), .stmts (bA (stA [40])), sA (stA [40]), 3, [], .none, .none, .none, (.str (.ofString "rlp.codec") 1928), none, (.ref 462), .none, 0⟩), #[]⟩
def o464_s44 (P : Params) : Obj := ⟨(.type "tuple"), none, (.seq #[] 0), #[]⟩
def o465_s44 (P : Params) : Obj := ⟨.none, none, (.fields #[]), #[]⟩
def o466_s44 (P : Params) : Obj := ⟨(.type "tuple"), none, (.seq #[(.str (.ofString "item") 1944), (.str (.ofString "strict") 1945), (.str (.ofString "_") 1946), (.str (.ofString "result") 1947), (.str (.ofString "per_item_rlp") 1948), (.str (.ofString "end") 1949), (.str (.ofString "msg") 1950)] 0), #[]⟩
def o467_s44 (P : Params) : Obj := ⟨(.type "tuple"), none, (.seq #[] 0), #[]⟩
def o468_s44 (P : Params) : Obj := ⟨.none, none, (.func ⟨(.ofString "decode_raw"), (.ofString "decode_raw"), pA (stA [41]), .stmts (bA (stA [41])), sA (stA [41]), 0, [], .none, .none, .none, .none, none, .none, .none, 0⟩), #[]⟩
def o469_s44 (P : Params) : Obj := ⟨(.type "code"), none, (.fields #[(.str (.ofString "decode_raw") 1941), (.str (.ofString "decode_raw") 1942), (.str (.ofString "/claim/cut.py") 1943), (.int 264 0), (.int 3 0), (.int 0 0), (.int 0 0), (.int 3 0), (.ref 464), (.bool true), (.int 313 0), (.ref 465), .none, (.ref 466), (.ref 467), (.ref 468), (.int 1951 0), (.int 264 0), (.str (.ofString "/claim/cut.py") 1952)]), #[]⟩
def o470_s44 (P : Params) : Obj := ⟨(.type "function"), none, (.func ⟨(.ofString "decode_raw"), (.ofString "decode_raw"), pA (stA [41]), .stmts (bA (stA [41])), sA (stA [41]), 3, [], .none, .none, .none, (.str (.ofString "rlp.codec") 1928), none, (.ref 469), .none, 0⟩), #[]⟩
def o471_s44 (P : Params) : Obj := ⟨(.type "tuple"), none, (.seq #[.none, (.bool true), (.bool true)] 0), #[]⟩
def o472_s44 (P : Params) : Obj := ⟨(.type "tuple"), none, (.seq #[] 0), #[]⟩
def o473_s44 (P : Params) : Obj := ⟨.none, none, (.fields #[]), #[]⟩
def o474_s44 (P : Params) : Obj := ⟨(.type "tuple"), none, (.seq #[(.str (.ofString "obj") 1957), (.str (.ofString "sedes") 1958), (.str (.ofString "infer_serializer") 1959), (.str (.ofString "cache") 1960), (.str (.ofString "item") 1961), (.str (.ofString "result") 1962)] 0), #[]⟩
def o475_s44 (P : Params) : Obj := ⟨(.type "tuple"), none, (.seq #[] 0), #[]⟩
def o476_s44 (P : Params) : Obj := ⟨.none, none, (.func ⟨(.ofString "encode"), (.ofString "encode"), pA (stA [42]), .stmts (bA (stA [42])), sA (stA [42]), 0, [], .none, .none, .none, .none, none, .none, .none, 0⟩), #[]⟩
def o477_s44 (P : Params) : Obj := ⟨(.type "code"), none, (.fields #[(.str (.ofString "encode") 1954), (.str (.ofString "encode") 1955), (.str (.ofString "/claim/cut.py") 1956), (.int 273 0), (.int 4 0), (.int 0 0), (.int 0 0), (.int 3 0), (.ref 472), (.bool true), (.int 313 0), (.ref 473), .none, (.ref 474), (.ref 475), (.ref 476), (.int 1963 0), (.int 273 0), (.str (.ofString "/claim/cut.py") 1964)]), #[]⟩
def o478_s44 (P : Params) : Obj := ⟨(.type "function"), none, (.func ⟨(.ofString "encode"), (.ofString "encode"), pA (stA [42]), .stmts (bA (stA [42])), sA (stA [42]), 3, [], (.ref 471), .none, .none, (.str (.ofString "rlp.codec") 1928), none, (.ref 477), .none, 0⟩), #[]⟩
def o479_s44 (P : Params) : Obj := ⟨(.type "tuple"), none, (.seq #[] 0), #[]⟩
def o480_s44 (P : Params) : Obj := ⟨.none, none, (.fields #[]), #[]⟩
def o481_s44 (P : Params) : Obj := ⟨(.type "tuple"), none, (.seq #[(.str (.ofString "length") 1973), (.str (.ofString "offset") 1974), (.str (.ofString "length_string") 1975)] 0), #[]⟩
def o482_s44 (P : Params) : Obj := ⟨(.type "tuple"), none, (.seq #[] 0), #[]⟩
def o483_s44 (P : Params) : Obj := ⟨.none, none, (.func ⟨(.ofString "length_prefix"), (.ofString "length_prefix"), pA (stA [44]), .stmts (bA (stA [44])), sA (stA [44]), 0, [], .none, .none, .none, .none, none, .none, .none, 0⟩), #[]⟩
def o484_s44 (P : Params) : Obj := ⟨(.type "code"), none, (.fields #[(.str (.ofString "length_prefix") 1970), (.str (.ofString "length_prefix") 1971), (.str (.ofString "/claim/cut.py") 1972), (.int 283 0), (.int 2 0), (.int 0 0), (.int 0 0), (.int 3 0), (.ref 479), (.bool true), (.int 313 0), (.ref 480), .none, (.ref 481), (.ref 482), (.ref 483), (.int 1976 0), (.int 283 0), (.str (.ofString "/claim/cut.py") 1977)]), #[]⟩
def o485_s44 (P : Params) : Obj := ⟨(.type "function"), none, (.func ⟨(.ofString "length_prefix"), (.ofString "length_prefix"), pA (stA [44]), .stmts (bA (stA [44])), sA (stA [44]), 3, [], .none, .none, .none, (.str (.ofString "rlp.codec") 1928), none, (.ref 484), .none, 0⟩), #[]⟩
def T_s44 (P : Params) : BT := (.node (o0_s0 P) (.node (o1_s0 P) (.node (o3_s44 P) (.node (o7_s0 P) (.node (o15_s0 P) (.node (o31_s0 P) (.node (o63_s8 P) (.node (o127_s13 P) (.node (o255_s28 P) .nil .nil) (.node (o383_s32 P) .nil .nil)) (.node (o191_s16 P) (.node (o319_s29 P) .nil .nil) (.node (o447_s37 P) .nil .nil))) (.node (o95_s11 P) (.node (o159_s14 P) (.node (o287_s28 P) .nil .nil) (.node (o415_s37 P) .nil .nil)) (.node (o223_s17 P) (.node (o351_s29 P) .nil .nil) (.node (o479_s44 P) .nil .nil)))) (.node (o47_s3 P) (.node (o79_s8 P) (.node (o143_s13 P) (.node (o271_s28 P) .nil .nil) (.node (o399_s32 P) .nil .nil)) (.node (o207_s16 P) (.node (o335_s29 P) .nil .nil) (.node (o463_s44 P) .nil .nil))) (.node (o111_s12 P) (.node (o175_s16 P) (.node (o303_s28 P) .nil .nil) (.node (o431_s37 P) .nil .nil)) (.node (o239_s19 P) (.node (o367_s29 P) .nil .nil) .nil)))) (.node (o23_s0 P) (.node (o39_sb P) (.node (o71_s8 P) (.node (o135_s13 P) (.node (o263_s28 P) .nil .nil) (.node (o391_s32 P) .nil .nil)) (.node (o199_s16 P) (.node (o327_s29 P) .nil .nil) (.node (o455_s37 P) .nil .nil))) (.node (o103_s11 P) (.node (o167_s14 P) (.node (o295_s28 P) .nil .nil) (.node (o423_s37 P) .nil .nil)) (.node (o231_s17 P) (.node (o359_s29 P) .nil .nil) .nil))) (.node (o55_s3 P) (.node (o87_s11 P) (.node (o151_s14 P) (.node (o279_s28 P) .nil .nil) (.node (o407_s37 P) .nil .nil)) (.node (o215_s17 P) (.node (o343_s29 P) .nil .nil) (.node (o471_s44 P) .nil .nil))) (.node (o119_s12 P) (.node (o183_s16 P) (.node (o311_s29 P) .nil .nil) (.node (o439_s37 P) .nil .nil)) (.node (o247_s28 P) (.node (o375_s32 P) .nil .nil) .nil))))) (.node (o11_s0 P) (.node (o19_s0 P) (.node (o35_s0 P) (.node (o67_s8 P) (.node (o131_s13 P) (.node (o259_s28 P) .nil .nil) (.node (o387_s32 P) .nil .nil)) (.node (o195_s16 P) (.node (o323_s29 P) .nil .nil) (.node (o451_s37 P) .nil .nil))) (.node (o99_s11 P) (.node (o163_s14 P) (.node (o291_s28 P) .nil .nil) (.node (o419_s37 P) .nil .nil)) (.node (o227_s17 P) (.node (o355_s29 P) .nil .nil) (.node (o483_s44 P) .nil .nil)))) (.node (o51_s3 P) (.node (o83_s8 P) (.node (o147_s14 P) (.node (o275_s28 P) .nil .nil) (.node (o403_s37 P) .nil .nil)) (.node (o211_s17 P) (.node (o339_s29 P) .nil .nil) (.node (o467_s44 P) .nil .nil))) (.node (o115_s12 P) (.node (o179_s16 P) (.node (o307_s28 P) .nil .nil) (.node (o435_s37 P) .nil .nil)) (.node (o243_s19 P) (.node (o371_s29 P) .nil .nil) .nil)))) (.node (o27_s0 P) (.node (o43_s3 P) (.node (o75_s8 P) (.node (o139_s13 P) (.node (o267_s28 P) .nil .nil) (.node (o395_s32 P) .nil .nil)) (.node (o203_s16 P) (.node (o331_s29 P) .nil .nil) (.node (o459_s44 P) .nil .nil))) (.node (o107_s12 P) (.node (o171_s16 P) (.node (o299_s28 P) .nil .nil) (.node (o427_s37 P) .nil .nil)) (.node (o235_s19 P) (.node (o363_s29 P) .nil .nil) .nil))) (.node (o59_s8 P) (.node (o91_s11 P) (.node (o155_s14 P) (.node (o283_s28 P) .nil .nil) (.node (o411_s37 P) .nil .nil)) (.node (o219_s17 P) (.node (o347_s29 P) .nil .nil) (.node (o475_s44 P) .nil .nil))) (.node (o123_s12 P) (.node (o187_s16 P) (.node (o315_s29 P) .nil .nil) (.node (o443_s37 P) .nil .nil)) (.node (o251_s28 P) (.node (o379_s32 P) .nil .nil) .nil)))))) (.node (o5_s0 P) (.node (o9_s0 P) (.node (o17_s0 P) (.node (o33_s0 P) (.node (o65_s8 P) (.node (o129_s13 P) (.node (o257_s28 P) .nil .nil) (.node (o385_s32 P) .nil .nil)) (.node (o193_s16 P) (.node (o321_s29 P) .nil .nil) (.node (o449_s37 P) .nil .nil))) (.node (o97_s11 P) (.node (o161_s14 P) (.node (o289_s28 P) .nil .nil) (.node (o417_s37 P) .nil .nil)) (.node (o225_s17 P) (.node (o353_s29 P) .nil .nil) (.node (o481_s44 P) .nil .nil)))) (.node (o49_s3 P) (.node (o81_s8 P) (.node (o145_s13 P) (.node (o273_s28 P) .nil .nil) (.node (o401_s32 P) .nil .nil)) (.node (o209_s16 P) (.node (o337_s29 P) .nil .nil) (.node (o465_s44 P) .nil .nil))) (.node (o113_s12 P) (.node (o177_s16 P) (.node (o305_s28 P) .nil .nil) (.node (o433_s37 P) .nil .nil)) (.node (o241_s19 P) (.node (o369_s29 P) .nil .nil) .nil)))) (.node (o25_s0 P) (.node (o41_sb P) (.node (o73_s8 P) (.node (o137_s13 P) (.node (o265_s28 P) .nil .nil) (.node (o393_s32 P) .nil .nil)) (.node (o201_s16 P) (.node (o329_s29 P) .nil .nil) (.node (o457_s44 P) .nil .nil))) (.node (o105_s12 P) (.node (o169_s16 P) (.node (o297_s28 P) .nil .nil) (.node (o425_s37 P) .nil .nil)) (.node (o233_s19 P) (.node (o361_s29 P) .nil .nil) .nil))) (.node (o57_s8 P) (.node (o89_s11 P) (.node (o153_s14 P) (.node (o281_s28 P) .nil .nil) (.node (o409_s37 P) .nil .nil)) (.node (o217_s17 P) (.node (o345_s29 P) .nil .nil) (.node (o473_s44 P) .nil .nil))) (.node (o121_s12 P) (.node (o185_s16 P) (.node (o313_s29 P) .nil .nil) (.node (o441_s37 P) .nil .nil)) (.node (o249_s28 P) (.node (o377_s32 P) .nil .nil) .nil))))) (.node (o13_s0 P) (.node (o21_s0 P) (.node (o37_s0 P) (.node (o69_s8 P) (.node (o133_s13 P) (.node (o261_s28 P) .nil .nil) (.node (o389_s32 P) .nil .nil)) (.node (o197_s16 P) (.node (o325_s29 P) .nil .nil) (.node (o453_s37 P) .nil .nil))) (.node (o101_s16 P) (.node (o165_s16 P) (.node (o293_s28 P) .nil .nil) (.node (o421_s37 P) .nil .nil)) (.node (o229_s17 P) (.node (o357_s29 P) .nil .nil) (.node (o485_s44 P) .nil .nil)))) (.node (o53_s3 P) (.node (o85_s11 P) (.node (o149_s14 P) (.node (o277_s28 P) .nil .nil) (.node (o405_s37 P) .nil .nil)) (.node (o213_s17 P) (.node (o341_s29 P) .nil .nil) (.node (o469_s44 P) .nil .nil))) (.node (o117_s12 P) (.node (o181_s16 P) (.node (o309_s29 P) .nil .nil) (.node (o437_s37 P) .nil .nil)) (.node (o245_s19 P) (.node (o373_s32 P) .nil .nil) .nil)))) (.node (o29_s0 P) (.node (o45_s3 P) (.node (o77_s8 P) (.node (o141_s13 P) (.node (o269_s28 P) .nil .nil) (.node (o397_s32 P) .nil .nil)) (.node (o205_s16 P) (.node (o333_s29 P) .nil .nil) (.node (o461_s44 P) .nil .nil))) (.node (o109_s12 P) (.node (o173_s16 P) (.node (o301_s28 P) .nil .nil) (.node (o429_s37 P) .nil .nil)) (.node (o237_s19 P) (.node (o365_s29 P) .nil .nil) .nil))) (.node (o61_s8 P) (.node (o93_s11 P) (.node (o157_s14 P) (.node (o285_s28 P) .nil .nil) (.node (o413_s37 P) .nil .nil)) (.node (o221_s17 P) (.node (o349_s29 P) .nil .nil) (.node (o477_s44 P) .nil .nil))) (.node (o125_s12 P) (.node (o189_s16 P) (.node (o317_s29 P) .nil .nil) (.node (o445_s37 P) .nil .nil)) (.node (o253_s28 P) (.node (o381_s32 P) .nil .nil) .nil))))))) (.node (o2_s11 P) (.node (o4_s0 P) (.node (o8_s0 P) (.node (o16_s0 P) (.node (o32_s0 P) (.node (o64_s8 P) (.node (o128_s13 P) (.node (o256_s28 P) .nil .nil) (.node (o384_s32 P) .nil .nil)) (.node (o192_s16 P) (.node (o320_s29 P) .nil .nil) (.node (o448_s37 P) .nil .nil))) (.node (o96_s11 P) (.node (o160_s14 P) (.node (o288_s28 P) .nil .nil) (.node (o416_s37 P) .nil .nil)) (.node (o224_s17 P) (.node (o352_s29 P) .nil .nil) (.node (o480_s44 P) .nil .nil)))) (.node (o48_s3 P) (.node (o80_s8 P) (.node (o144_s13 P) (.node (o272_s28 P) .nil .nil) (.node (o400_s32 P) .nil .nil)) (.node (o208_s17 P) (.node (o336_s29 P) .nil .nil) (.node (o464_s44 P) .nil .nil))) (.node (o112_s12 P) (.node (o176_s16 P) (.node (o304_s28 P) .nil .nil) (.node (o432_s37 P) .nil .nil)) (.node (o240_s19 P) (.node (o368_s29 P) .nil .nil) .nil)))) (.node (o24_s0 P) (.node (o40_s44 P) (.node (o72_s8 P) (.node (o136_s13 P) (.node (o264_s28 P) .nil .nil) (.node (o392_s32 P) .nil .nil)) (.node (o200_s16 P) (.node (o328_s29 P) .nil .nil) (.node (o456_s37 P) .nil .nil))) (.node (o104_s11 P) (.node (o168_s16 P) (.node (o296_s28 P) .nil .nil) (.node (o424_s37 P) .nil .nil)) (.node (o232_s17 P) (.node (o360_s29 P) .nil .nil) .nil))) (.node (o56_s3 P) (.node (o88_s11 P) (.node (o152_s14 P) (.node (o280_s28 P) .nil .nil) (.node (o408_s37 P) .nil .nil)) (.node (o216_s17 P) (.node (o344_s29 P) .nil .nil) (.node (o472_s44 P) .nil .nil))) (.node (o120_s12 P) (.node (o184_s16 P) (.node (o312_s29 P) .nil .nil) (.node (o440_s37 P) .nil .nil)) (.node (o248_s28 P) (.node (o376_s32 P) .nil .nil) .nil))))) (.node (o12_s0 P) (.node (o20_s0 P) (.node (o36_s0 P) (.node (o68_s8 P) (.node (o132_s13 P) (.node (o260_s28 P) .nil .nil) (.node (o388_s32 P) .nil .nil)) (.node (o196_s16 P) (.node (o324_s29 P) .nil .nil) (.node (o452_s37 P) .nil .nil))) (.node (o100_s11 P) (.node (o164_s14 P) (.node (o292_s28 P) .nil .nil) (.node (o420_s37 P) .nil .nil)) (.node (o228_s17 P) (.node (o356_s29 P) .nil .nil) (.node (o484_s44 P) .nil .nil)))) (.node (o52_s3 P) (.node (o84_s11 P) (.node (o148_s14 P) (.node (o276_s28 P) .nil .nil) (.node (o404_s37 P) .nil .nil)) (.node (o212_s17 P) (.node (o340_s29 P) .nil .nil) (.node (o468_s44 P) .nil .nil))) (.node (o116_s12 P) (.node (o180_s16 P) (.node (o308_s29 P) .nil .nil) (.node (o436_s37 P) .nil .nil)) (.node (o244_s19 P) (.node (o372_s32 P) .nil .nil) .nil)))) (.node (o28_s0 P) (.node (o44_s3 P) (.node (o76_s8 P) (.node (o140_s13 P) (.node (o268_s28 P) .nil .nil) (.node (o396_s32 P) .nil .nil)) (.node (o204_s16 P) (.node (o332_s29 P) .nil .nil) (.node (o460_s44 P) .nil .nil))) (.node (o108_s12 P) (.node (o172_s16 P) (.node (o300_s28 P) .nil .nil) (.node (o428_s37 P) .nil .nil)) (.node (o236_s19 P) (.node (o364_s29 P) .nil .nil) .nil))) (.node (o60_s8 P) (.node (o92_s11 P) (.node (o156_s14 P) (.node (o284_s28 P) .nil .nil) (.node (o412_s37 P) .nil .nil)) (.node (o220_s17 P) (.node (o348_s29 P) .nil .nil) (.node (o476_s44 P) .nil .nil))) (.node (o124_s12 P) (.node (o188_s16 P) (.node (o316_s29 P) .nil .nil) (.node (o444_s37 P) .nil .nil)) (.node (o252_s28 P) (.node (o380_s32 P) .nil .nil) .nil)))))) (.node (o6_s0 P) (.node (o10_s0 P) (.node (o18_s0 P) (.node (o34_s0 P) (.node (o66_s8 P) (.node (o130_s13 P) (.node (o258_s28 P) .nil .nil) (.node (o386_s32 P) .nil .nil)) (.node (o194_s16 P) (.node (o322_s29 P) .nil .nil) (.node (o450_s37 P) .nil .nil))) (.node (o98_s11 P) (.node (o162_s14 P) (.node (o290_s28 P) .nil .nil) (.node (o418_s37 P) .nil .nil)) (.node (o226_s17 P) (.node (o354_s29 P) .nil .nil) (.node (o482_s44 P) .nil .nil)))) (.node (o50_s3 P) (.node (o82_s8 P) (.node (o146_s13 P) (.node (o274_s28 P) .nil .nil) (.node (o402_s32 P) .nil .nil)) (.node (o210_s16 P) (.node (o338_s29 P) .nil .nil) (.node (o466_s44 P) .nil .nil))) (.node (o114_s12 P) (.node (o178_s16 P) (.node (o306_s28 P) .nil .nil) (.node (o434_s37 P) .nil .nil)) (.node (o242_s19 P) (.node (o370_s29 P) .nil .nil) .nil)))) (.node (o26_s0 P) (.node (o42_sb P) (.node (o74_s8 P) (.node (o138_s13 P) (.node (o266_s28 P) .nil .nil) (.node (o394_s32 P) .nil .nil)) (.node (o202_s16 P) (.node (o330_s29 P) .nil .nil) (.node (o458_s44 P) .nil .nil))) (.node (o106_s12 P) (.node (o170_s16 P) (.node (o298_s28 P) .nil .nil) (.node (o426_s37 P) .nil .nil)) (.node (o234_s19 P) (.node (o362_s29 P) .nil .nil) .nil))) (.node (o58_s8 P) (.node (o90_s11 P) (.node (o154_s14 P) (.node (o282_s28 P) .nil .nil) (.node (o410_s37 P) .nil .nil)) (.node (o218_s17 P) (.node (o346_s29 P) .nil .nil) (.node (o474_s44 P) .nil .nil))) (.node (o122_s12 P) (.node (o186_s16 P) (.node (o314_s29 P) .nil .nil) (.node (o442_s37 P) .nil .nil)) (.node (o250_s28 P) (.node (o378_s32 P) .nil .nil) .nil))))) (.node (o14_s0 P) (.node (o22_s0 P) (.node (o38_s0 P) (.node (o70_s8 P) (.node (o134_s13 P) (.node (o262_s28 P) .nil .nil) (.node (o390_s32 P) .nil .nil)) (.node (o198_s16 P) (.node (o326_s29 P) .nil .nil) (.node (o454_s37 P) .nil .nil))) (.node (o102_s11 P) (.node (o166_s14 P) (.node (o294_s28 P) .nil .nil) (.node (o422_s37 P) .nil .nil)) (.node (o230_s17 P) (.node (o358_s29 P) .nil .nil) .nil))) (.node (o54_s3 P) (.node (o86_s11 P) (.node (o150_s14 P) (.node (o278_s28 P) .nil .nil) (.node (o406_s37 P) .nil .nil)) (.node (o214_s17 P) (.node (o342_s29 P) .nil .nil) (.node (o470_s44 P) .nil .nil))) (.node (o118_s12 P) (.node (o182_s16 P) (.node (o310_s29 P) .nil .nil) (.node (o438_s37 P) .nil .nil)) (.node (o246_s28 P) (.node (o374_s32 P) .nil .nil) .nil)))) (.node (o30_s0 P) (.node (o46_s3 P) (.node (o78_s8 P) (.node (o142_s13 P) (.node (o270_s28 P) .nil .nil) (.node (o398_s32 P) .nil .nil)) (.node (o206_s16 P) (.node (o334_s29 P) .nil .nil) (.node (o462_s44 P) .nil .nil))) (.node (o110_s12 P) (.node (o174_s16 P) (.node (o302_s28 P) .nil .nil) (.node (o430_s37 P) .nil .nil)) (.node (o238_s19 P) (.node (o366_s29 P) .nil .nil) .nil))) (.node (o62_s8 P) (.node (o94_s11 P) (.node (o158_s14 P) (.node (o286_s28 P) .nil .nil) (.node (o414_s37 P) .nil .nil)) (.node (o222_s17 P) (.node (o350_s29 P) .nil .nil) (.node (o478_s44 P) .nil .nil))) (.node (o126_s13 P) (.node (o190_s16 P) (.node (o318_s29 P) .nil .nil) (.node (o446_s37 P) .nil .nil)) (.node (o254_s28 P) (.node (o382_s32 P) .nil .nil) .nil))))))))
def S_s44 (w : World) (os : OsState) : SharedT := ⟨T_s44 w.params, 486, life0, #[.finished], drawn0, 1983, os⟩
def o3_s52 (P : Params) : Obj := ⟨(.type "dict"), none, (.dict #[⟨PyData.keyHash P (.ofString "__name__"), (.str (.ofString "__name__") 165), (.str (.ofString "law_vn0025_01") 2051)⟩, ⟨PyData.keyHash P (.ofString "__doc__"), (.str (.ofString "__doc__") 166), .none⟩, ⟨PyData.keyHash P (.ofString "__package__"), (.str (.ofString "__package__") 167), .none⟩, ⟨PyData.keyHash P (.ofString "__loader__"), (.str (.ofString "__loader__") 168), (.builtin "__main__.__loader__#opaque")⟩, ⟨PyData.keyHash P (.ofString "__spec__"), (.str (.ofString "__spec__") 169), .none⟩, ⟨PyData.keyHash P (.ofString "__annotations__"), (.str (.ofString "__annotations__") 170), (.ref 6)⟩, ⟨PyData.keyHash P (.ofString "__builtins__"), (.str (.ofString "__builtins__") 171), (.ref 4)⟩, ⟨PyData.keyHash P (.ofString "__file__"), (.str (.ofString "__file__") 173), (.str (.ofString "/claim/cut.py") 172)⟩, ⟨PyData.keyHash P (.ofString "__cached__"), (.str (.ofString "__cached__") 174), .none⟩, ⟨PyData.keyHash P (.ofString "pack"), (.str (.ofString "pack") 312), (.builtin "_struct.pack")⟩, ⟨PyData.keyHash P (.ofString "_wall"), (.str (.ofString "_wall") 325), (.ref 49)⟩, ⟨PyData.keyHash P (.ofString "CHARSET"), (.str (.ofString "CHARSET") 329), (.str (.ofString "qpzry9x8gf2tvdw0s3jn54khce6mua7l") 328)⟩, ⟨PyData.keyHash P (.ofString "bech32_polymod"), (.str (.ofString "bech32_polymod") 341), (.ref 56)⟩, ⟨PyData.keyHash P (.ofString "bech32_hrp_expand"), (.str (.ofString "bech32_hrp_expand") 347), (.ref 61)⟩, ⟨PyData.keyHash P (.ofString "bech32_verify_checksum"), (.str (.ofString "bech32_verify_checksum") 355), (.ref 68)⟩, ⟨PyData.keyHash P (.ofString "bech32_create_checksum"), (.str (.ofString "bech32_create_checksum") 361), (.ref 73)⟩, ⟨PyData.keyHash P (.ofString "bech32_encode"), (.str (.ofString "bech32_encode") 367), (.ref 78)⟩, ⟨PyData.keyHash P (.ofString "bech32_decode"), (.str (.ofString "bech32_decode") 373), (.ref 83)⟩, ⟨PyData.keyHash P (.ofString "convertbits"), (.str (.ofString "convertbits") 389), (.ref 91)⟩, ⟨PyData.keyHash P (.ofString "RLPException"), (.str (.ofString "RLPException") 411), (.ref 101)⟩, ⟨PyData.keyHash P (.ofString "EncodingError"), (.str (.ofString "EncodingError") 439), (.ref 123)⟩, ⟨PyData.keyHash P (.ofString "DecodingError"), (.str (.ofString "DecodingError") 467), (.ref 144)⟩, ⟨PyData.keyHash P (.ofString "SerializationError"), (.str (.ofString "SerializationError") 495), (.ref 165)⟩, ⟨PyData.keyHash P (.ofString "ListSerializationError"), (.str (.ofString "ListSerializationError") 526), (.ref 187)⟩, ⟨PyData.keyHash P (.ofString "DeserializationError"), (.str (.ofString "DeserializationError") 554), (.ref 208)⟩, ⟨PyData.keyHash P (.ofString "ListDeserializationError"), (.str (.ofString "ListDeserializationError") 585), (.ref 230)⟩, ⟨PyData.keyHash P (.ofString "ALL_BYTES"), (.str (.ofString "ALL_BYTES") 1623), (.ref 245)⟩, ⟨PyData.keyHash P (.ofString "Atomic"), (.str (.ofString "Atomic") 1624), (.ref 246)⟩, ⟨PyData.keyHash P (.ofString "Sequence"), (.str (.ofString "Sequence") 1625), (.ref 247)⟩, ⟨PyData.keyHash P (.ofString "is_bytes"), (.str (.ofString "is_bytes") 1632), (.ref 254)⟩, ⟨PyData.keyHash P (.ofString "big_endian_to_int"), (.str (.ofString "big_endian_to_int") 1639), (.ref 261)⟩, ⟨PyData.keyHash P (.ofString "int_to_big_endian"), (.str (.ofString "int_to_big_endian") 1646), (.ref 268)⟩, ⟨PyData.keyHash P (.ofString "BigEndianInt"), (.str (.ofString "BigEndianInt") 1694), (.ref 300)⟩, ⟨PyData.keyHash P (.ofString "big_endian_int"), (.str (.ofString "big_endian_int") 1699), (.ref 306)⟩, ⟨PyData.keyHash P (.ofString "Binary"), (.str (.ofString "Binary") 1799), (.ref 367)⟩, ⟨PyData.keyHash P (.ofString "binary"), (.str (.ofString "binary") 1813), (.ref 373)⟩, ⟨PyData.keyHash P (.ofString "Boolean"), (.str (.ofString "Boolean") 1851), (.ref 398)⟩, ⟨PyData.keyHash P (.ofString "boolean"), (.str (.ofString "boolean") 1852), (.ref 404)⟩, ⟨PyData.keyHash P (.ofString "is_sedes"), (.str (.ofString "is_sedes") 1861), (.ref 411)⟩, ⟨PyData.keyHash P (.ofString "is_sequence"), (.str (.ofString "is_sequence") 1868), (.ref 418)⟩, ⟨PyData.keyHash P (.ofString "List"), (.str (.ofString "List") 1927), (.ref 452)⟩, ⟨PyData.keyHash P (.ofString "encode_raw"), (.str (.ofString "encode_raw") 1940), (.ref 463)⟩, ⟨PyData.keyHash P (.ofString "decode_raw"), (.str (.ofString "decode_raw") 1953), (.ref 470)⟩, ⟨PyData.keyHash P (.ofString "encode"), (.str (.ofString "encode") 1965), (.ref 478)⟩, ⟨PyData.keyHash P (.ofString "LONG_LENGTH"), (.str (.ofString "LONG_LENGTH") 1969), (.int 18446744073709551616 1968)⟩, ⟨PyData.keyHash P (.ofString "length_prefix"), (.str (.ofString "length_prefix") 1978), (.ref 485)⟩, ⟨PyData.keyHash P (.ofString "SHORT_STRING"), (.str (.ofString "SHORT_STRING") 1982), (.int 184 1981)⟩, ⟨PyData.keyHash P (.ofString "consume_length_prefix"), (.str (.ofString "consume_length_prefix") 1994), (.ref 492)⟩, ⟨PyData.keyHash P (.ofString "consume_payload"), (.str (.ofString "consume_payload") 2016), (.ref 499)⟩, ⟨PyData.keyHash P (.ofString "consume_item"), (.str (.ofString "consume_item") 2028), (.ref 506)⟩, ⟨PyData.keyHash P (.ofString "decode"), (.str (.ofString "decode") 2042), (.ref 514)⟩, ⟨PyData.keyHash P (.ofString "infer_sedes"), (.str (.ofString "infer_sedes") 2050), (.ref 521)⟩, ⟨PyData.keyHash P (.ofString "_law_tree"), (.str (.ofString "_law_tree") 2058), (.ref 526)⟩, ⟨PyData.keyHash P (.ofString "law"), (.str (.ofString "law") 2064), (.ref 531)⟩] 54), #[]⟩
def o40_s52 (P : Params) : Obj := ⟨.none, none, (.fields #[(.int 2 0), (.int 0 0), (.ref 48), (.int 7 0), (.int 0 0), (.ref 55), (.int 16 0), (.int 0 0), (.ref 60), (.int 18 0), (.int 0 0), (.ref 67), (.int 20 0), (.int 0 0), (.ref 72), (.int 24 0), (.int 0 0), (.ref 77), (.int 27 0), (.int 0 0), (.ref 82), (.int 41 0), (.int 0 0), (.ref 90), (.int 62 0), (.int 0 0), (.ref 97), (.int 64 0), (.int 0 0), (.ref 111), (.int 69 0), (.int 0 0), (.ref 132), (.int 74 0), (.int 0 0), (.ref 153), (.int 79 0), (.int 0 0), (.ref 174), (.int 89 0), (.int 0 0), (.ref 196), (.int 94 0), (.int 0 0), (.ref 217), (.int 105 0), (.int 18 0), (.ref 237), (.int 108 0), (.int 0 0), (.ref 253), (.int 110 0), (.int 0 0), (.ref 260), (.int 112 0), (.int 0 0), (.ref 267), (.int 115 0), (.int 0 0), (.ref 274), (.int 145 0), (.int 0 0), (.ref 313), (.int 182 0), (.int 0 0), (.ref 380), (.int 203 0), (.int 0 0), (.ref 410), (.int 205 0), (.int 0 0), (.ref 417), (.int 207 0), (.int 0 0), (.ref 425), (.int 247 0), (.int 0 0), (.ref 462), (.int 264 0), (.int 0 0), (.ref 469), (.int 273 0), (.int 0 0), (.ref 477), (.int 283 0), (.int 0 0), (.ref 484), (.int 292 0), (.int 0 0), (.ref 491), (.int 320 0), (.int 0 0), (.ref 498), (.int 342 0), (.int 0 0), (.ref 505), (.int 345 0), (.int 0 0), (.ref 513), (.int 354 0), (.int 0 0), (.ref 520), (.int 368 0), (.int 0 0), (.ref 525), (.int 373 0), (.int 0 0), (.ref 530)]), #[]⟩
def o486_s52 (P : Params) : Obj := ⟨(.type "tuple"), none, (.seq #[] 0), #[]⟩
def o487_s52 (P : Params) : Obj := ⟨.none, none, (.fields #[]), #[]⟩
def o488_s52 (P : Params) : Obj := ⟨(.type "tuple"), none, (.seq #[(.str (.ofString "rlp") 1986), (.str (.ofString "start") 1987), (.str (.ofString "b0") 1988), (.str (.ofString "ll") 1989), (.str (.ofString "len_prefix") 1990), (.str (.ofString "l") 1991)] 0), #[]⟩
def o489_s52 (P : Params) : Obj := ⟨(.type "tuple"), none, (.seq #[] 0), #[]⟩
def o490_s52 (P : Params) : Obj := ⟨.none, none, (.func ⟨(.ofString "consume_length_prefix"), (.ofString "consume_length_prefix"), pA (stA [46]), .stmts (bA (stA [46])), sA (stA [46]), 0, [], .none, .none, .none, .none, none, .none, .none, 0⟩), #[]⟩
def o491_s52 (P : Params) : Obj := ⟨(.type "code"), none, (.fields #[(.str (.ofString "consume_length_prefix") 1983), (.str (.ofString "consume_length_prefix") 1984), (.str (.ofString "/claim/cut.py") 1985), (.int 292 0), (.int 2 0), (.int 0 0), (.int 0 0), (.int 3 0), (.ref 486), (.bool true), (.int 313 0), (.ref 487), .none, (.ref 488), (.ref 489), (.ref 490), (.int 1992 0), (.int 292 0), (.str (.ofString "/claim/cut.py") 1993)]), #[]⟩
def o492_s52 (P : Params) : Obj := ⟨(.type "function"), none, (.func ⟨(.ofString "consume_length_prefix"), (.ofString "consume_length_prefix"), pA (stA [46]), .stmts (bA (stA [46])), sA (stA [46]), 3, [], .none, .none, .none, (.str (.ofString "rlp.codec") 1928), none, (.ref 491), .none, 0⟩), #[]⟩
def o493_s52 (P : Params) : Obj := ⟨(.type "tuple"), none, (.seq #[] 0), #[]⟩
def o494_s52 (P : Params) : Obj := ⟨.none, none, (.fields #[]), #[]⟩
def o495_s52 (P : Params) : Obj := ⟨(.type "tuple"), none, (.seq #[(.str (.ofString "rlp") 1998), (.str (.ofString "prefix") 1999), (.str (.ofString "start") 2000), (.str (.ofString "type_") 2001), (.str (.ofString "length") 2002), (.str (.ofString "item") 2003), (.str (.ofString "items") 2004), (.str (.ofString "per_item_rlp") 2005), (.str (.ofString "list_rlp") 2006), (.str (.ofString "next_item_start") 2007), (.str (.ofString "end") 2008), (.str (.ofString "p") 2009), (.str (.ofString "t") 2010), (.str (.ofString "l") 2011), (.str (.ofString "s") 2012), (.str (.ofString "item_rlp") 2013)] 0), #[]⟩
def o496_s52 (P : Params) : Obj := ⟨(.type "tuple"), none, (.seq #[] 0), #[]⟩
def o497_s52 (P : Params) : Obj := ⟨.none, none, (.func ⟨(.ofString "consume_payload"), (.ofString "consume_payload"), pA (stA [47]), .stmts (bA (stA [47])), sA (stA [47]), 0, [], .none, .none, .none, .none, none, .none, .none, 0⟩), #[]⟩
def o498_s52 (P : Params) : Obj := ⟨(.type "code"), none, (.fields #[(.str (.ofString "consume_payload") 1995), (.str (.ofString "consume_payload") 1996), (.str (.ofString "/claim/cut.py") 1997), (.int 320 0), (.int 5 0), (.int 0 0), (.int 0 0), (.int 3 0), (.ref 493), (.bool true), (.int 313 0), (.ref 494), .none, (.ref 495), (.ref 496), (.ref 497), (.int 2014 0), (.int 320 0), (.str (.ofString "/claim/cut.py") 2015)]), #[]⟩
def o499_s52 (P : Params) : Obj := ⟨(.type "function"), none, (.func ⟨(.ofString "consume_payload"), (.ofString "consume_payload"), pA (stA [47]), .stmts (bA (stA [47])), sA (stA [47]), 3, [], .none, .none, .none, (.str (.ofString "rlp.codec") 1928), none, (.ref 498), .none, 0⟩), #[]⟩
def o500_s52 (P : Params) : Obj := ⟨(.type "tuple"), none, (.seq #[] 0), #[]⟩
def o501_s52 (P : Params) : Obj := ⟨.none, none, (.fields #[]), #[]⟩
def o502_s52 (P : Params) : Obj := ⟨(.type "tuple"), none, (.seq #[(.str (.ofString "rlp") 2020), (.str (.ofString "start") 2021), (.str (.ofString "p") 2022), (.str (.ofString "t") 2023), (.str (.ofString "l") 2024), (.str (.ofString "s") 2025)] 0), #[]⟩
def o503_s52 (P : Params) : Obj := ⟨(.type "tuple"), none, (.seq #[] 0), #[]⟩
def o504_s52 (P : Params) : Obj := ⟨.none, none, (.func ⟨(.ofString "consume_item"), (.ofString "consume_item"), pA (stA [48]), .stmts (bA (stA [48])), sA (stA [48]), 0, [], .none, .none, .none, .none, none, .none, .none, 0⟩), #[]⟩
def o505_s52 (P : Params) : Obj := ⟨(.type "code"), none, (.fields #[(.str (.ofString "consume_item") 2017), (.str (.ofString "consume_item") 2018), (.str (.ofString "/claim/cut.py") 2019), (.int 342 0), (.int 2 0), (.int 0 0), (.int 0 0), (.int 3 0), (.ref 500), (.bool true), (.int 313 0), (.ref 501), .none, (.ref 502), (.ref 503), (.ref 504), (.int 2026 0), (.int 342 0), (.str (.ofString "/claim/cut.py") 2027)]), #[]⟩
def o506_s52 (P : Params) : Obj := ⟨(.type "function"), none, (.func ⟨(.ofString "consume_item"), (.ofString "consume_item"), pA (stA [48]), .stmts (bA (stA [48])), sA (stA [48]), 3, [], .none, .none, .none, (.str (.ofString "rlp.codec") 1928), none, (.ref 505), .none, 0⟩), #[]⟩
def o507_s52 (P : Params) : Obj := ⟨(.type "tuple"), none, (.seq #[.none, (.bool true), (.bool false)] 0), #[]⟩
def o508_s52 (P : Params) : Obj := ⟨(.type "tuple"), none, (.seq #[] 0), #[]⟩
def o509_s52 (P : Params) : Obj := ⟨.none, none, (.fields #[]), #[]⟩
def o510_s52 (P : Params) : Obj := ⟨(.type "tuple"), none, (.seq #[(.str (.ofString "rlp") 2032), (.str (.ofString "sedes") 2033), (.str (.ofString "strict") 2034), (.str (.ofString "recursive_cache") 2035), (.str (.ofString "kwargs") 2036), (.str (.ofString "item") 2037), (.str (.ofString "per_item_rlp") 2038), (.str (.ofString "obj") 2039)] 0), #[]⟩
def o511_s52 (P : Params) : Obj := ⟨(.type "tuple"), none, (.seq #[] 0), #[]⟩
def o512_s52 (P : Params) : Obj := ⟨.none, none, (.func ⟨(.ofString "decode"), (.ofString "decode"), pA (stA [49]), .stmts (bA (stA [49])), sA (stA [49]), 0, [], .none, .none, .none, .none, none, .none, .none, 0⟩), #[]⟩
def o513_s52 (P : Params) : Obj := ⟨(.type "code"), none, (.fields #[(.str (.ofString "decode") 2029), (.str (.ofString "decode") 2030), (.str (.ofString "/claim/cut.py") 2031), (.int 345 0), (.int 4 0), (.int 0 0), (.int 0 0), (.int 11 0), (.ref 508), (.bool true), (.int 313 0), (.ref 509), .none, (.ref 510), (.ref 511), (.ref 512), (.int 2040 0), (.int 345 0), (.str (.ofString "/claim/cut.py") 2041)]), #[]⟩
def o514_s52 (P : Params) : Obj := ⟨(.type "function"), none, (.func ⟨(.ofString "decode"), (.ofString "decode"), pA (stA [49]), .stmts (bA (stA [49])), sA (stA [49]), 3, [], (.ref 507), .none, .none, (.str (.ofString "rlp.codec") 1928), none, (.ref 513), .none, 0⟩), #[]⟩
def o515_s52 (P : Params) : Obj := ⟨(.type "tuple"), none, (.seq #[] 0), #[]⟩
def o516_s52 (P : Params) : Obj := ⟨.none, none, (.fields #[]), #[]⟩
def o517_s52 (P : Params) : Obj := ⟨(.type "tuple"), none, (.seq #[(.str (.ofString "obj") 2046), (.str (.ofString "msg") 2047)] 0), #[]⟩
def o518_s52 (P : Params) : Obj := ⟨(.type "tuple"), none, (.seq #[] 0), #[]⟩
def o519_s52 (P : Params) : Obj := ⟨.none, none, (.func ⟨(.ofString "infer_sedes"), (.ofString "infer_sedes"), pA (stA [50]), .stmts (bA (stA [50])), sA (stA [50]), 0, [], .none, .none, .none, .none, none, .none, .none, 0⟩), #[]⟩
def o520_s52 (P : Params) : Obj := ⟨(.type "code"), none, (.fields #[(.str (.ofString "infer_sedes") 2043), (.str (.ofString "infer_sedes") 2044), (.str (.ofString "/claim/cut.py") 2045), (.int 354 0), (.int 1 0), (.int 0 0), (.int 0 0), (.int 3 0), (.ref 515), (.bool true), (.int 313 0), (.ref 516), .none, (.ref 517), (.ref 518), (.ref 519), (.int 2048 0), (.int 354 0), (.str (.ofString "/claim/cut.py") 2049)]), #[]⟩
def o521_s52 (P : Params) : Obj := ⟨(.type "function"), none, (.func ⟨(.ofString "infer_sedes"), (.ofString "infer_sedes"), pA (stA [50]), .stmts (bA (stA [50])), sA (stA [50]), 3, [], .none, .none, .none, (.str (.ofString "rlp.codec") 1928), none, (.ref 520), .none, 0⟩), #[]⟩
def o522_s52 (P : Params) : Obj := ⟨(.type "tuple"), none, (.seq #[] 0), #[]⟩
def o523_s52 (P : Params) : Obj := ⟨.none, none, (.fields #[]), #[]⟩
def o524_s52 (P : Params) : Obj := ⟨.none, none, (.func ⟨(.ofString "_law_tree"), (.ofString "_law_tree"), pA (stA [52]), .stmts (bA (stA [52])), sA (stA [52]), 0, [], .none, .none, .none, .none, none, .none, .none, 0⟩), #[]⟩
def o525_s52 (P : Params) : Obj := ⟨(.type "code"), none, (.fields #[(.str (.ofString "_law_tree") 2053), (.str (.ofString "_law_tree") 2054), (.str (.ofString "/claim/cut.py") 2055), (.int 368 0), (.int 2 0), (.int 0 0), (.int 0 0), (.int 3 0), (.ref 522), (.bool true), (.int 313 0), (.ref 523), .none, .none, .none, (.ref 524), (.int 2056 0), (.int 368 0), (.str (.ofString "/claim/cut.py") 2057)]), #[]⟩
def o526_s52 (P : Params) : Obj := ⟨(.type "function"), none, (.func ⟨(.ofString "_law_tree"), (.ofString "_law_tree"), pA (stA [52]), .stmts (bA (stA [52])), sA (stA [52]), 3, [], .none, .none, .none, (.str (.ofString "law_vn0025_01") 2051), none, (.ref 525), .none, 0⟩), #[]⟩
def o527_s52 (P : Params) : Obj := ⟨(.type "tuple"), none, (.seq #[] 0), #[]⟩
def o528_s52 (P : Params) : Obj := ⟨.none, none, (.fields #[]), #[]⟩
def o529_s52 (P : Params) : Obj := ⟨.none, none, (.func ⟨(.ofString "law"), (.ofString "law"), pA (stA [53]), .stmts (bA (stA [53])), sA (stA [53]), 0, [], .none, .none, .none, .none, none, .none, .none, 0⟩), #[]⟩
def o530_s52 (P : Params) : Obj := ⟨(.type "code"), none, (.fields #[(.str (.ofString "law") 2059), (.str (.ofString "law") 2060), (.str (.ofString "/claim/cut.py") 2061), (.int 373 0), (.int 1 0), (.int 0 0), (.int 0 0), (.int 3 0), (.ref 527), (.bool true), (.int 313 0), (.ref 528), .none, .none, .none, (.ref 529), (.int 2062 0), (.int 373 0), (.str (.ofString "/claim/cut.py") 2063)]), #[]⟩
def o531_s52 (P : Params) : Obj := ⟨(.type "function"), none, (.func ⟨(.ofString "law"), (.ofString "law"), pA (stA [53]), .stmts (bA (stA [53])), sA (stA [53]), 3, [], .none, .none, .none, (.str (.ofString "law_vn0025_01") 2051), none, (.ref 530), .none, 0⟩), #[]⟩
def T_s52 (P : Params) : BT := (.node (o0_s0 P) (.node (o1_s0 P) (.node (o3_s52 P) (.node (o7_s0 P) (.node (o15_s0 P) (.node (o31_s0 P) (.node (o63_s8 P) (.node (o127_s13 P) (.node (o255_s28 P) (.node (o511_s52 P) .nil .nil) .nil) (.node (o383_s32 P) .nil .nil)) (.node (o191_s16 P) (.node (o319_s29 P) .nil .nil) (.node (o447_s37 P) .nil .nil))) (.node (o95_s11 P) (.node (o159_s14 P) (.node (o287_s28 P) .nil .nil) (.node (o415_s37 P) .nil .nil)) (.node (o223_s17 P) (.node (o351_s29 P) .nil .nil) (.node (o479_s44 P) .nil .nil)))) (.node (o47_s3 P) (.node (o79_s8 P) (.node (o143_s13 P) (.node (o271_s28 P) (.node (o527_s52 P) .nil .nil) .nil) (.node (o399_s32 P) .nil .nil)) (.node (o207_s16 P) (.node (o335_s29 P) .nil .nil) (.node (o463_s44 P) .nil .nil))) (.node (o111_s12 P) (.node (o175_s16 P) (.node (o303_s28 P) .nil .nil) (.node (o431_s37 P) .nil .nil)) (.node (o239_s19 P) (.node (o367_s29 P) .nil .nil) (.node (o495_s52 P) .nil .nil))))) (.node (o23_s0 P) (.node (o39_sb P) (.node (o71_s8 P) (.node (o135_s13 P) (.node (o263_s28 P) (.node (o519_s52 P) .nil .nil) .nil) (.node (o391_s32 P) .nil .nil)) (.node (o199_s16 P) (.node (o327_s29 P) .nil .nil) (.node (o455_s37 P) .nil .nil))) (.node (o103_s11 P) (.node (o167_s14 P) (.node (o295_s28 P) .nil .nil) (.node (o423_s37 P) .nil .nil)) (.node (o231_s17 P) (.node (o359_s29 P) .nil .nil) (.node (o487_s52 P) .nil .nil)))) (.node (o55_s3 P) (.node (o87_s11 P) (.node (o151_s14 P) (.node (o279_s28 P) .nil .nil) (.node (o407_s37 P) .nil .nil)) (.node (o215_s17 P) (.node (o343_s29 P) .nil .nil) (.node (o471_s44 P) .nil .nil))) (.node (o119_s12 P) (.node (o183_s16 P) (.node (o311_s29 P) .nil .nil) (.node (o439_s37 P) .nil .nil)) (.node (o247_s28 P) (.node (o375_s32 P) .nil .nil) (.node (o503_s52 P) .nil .nil)))))) (.node (o11_s0 P) (.node (o19_s0 P) (.node (o35_s0 P) (.node (o67_s8 P) (.node (o131_s13 P) (.node (o259_s28 P) (.node (o515_s52 P) .nil .nil) .nil) (.node (o387_s32 P) .nil .nil)) (.node (o195_s16 P) (.node (o323_s29 P) .nil .nil) (.node (o451_s37 P) .nil .nil))) (.node (o99_s11 P) (.node (o163_s14 P) (.node (o291_s28 P) .nil .nil) (.node (o419_s37 P) .nil .nil)) (.node (o227_s17 P) (.node (o355_s29 P) .nil .nil) (.node (o483_s44 P) .nil .nil)))) (.node (o51_s3 P) (.node (o83_s8 P) (.node (o147_s14 P) (.node (o275_s28 P) (.node (o531_s52 P) .nil .nil) .nil) (.node (o403_s37 P) .nil .nil)) (.node (o211_s17 P) (.node (o339_s29 P) .nil .nil) (.node (o467_s44 P) .nil .nil))) (.node (o115_s12 P) (.node (o179_s16 P) (.node (o307_s28 P) .nil .nil) (.node (o435_s37 P) .nil .nil)) (.node (o243_s19 P) (.node (o371_s29 P) .nil .nil) (.node (o499_s52 P) .nil .nil))))) (.node (o27_s0 P) (.node (o43_s3 P) (.node (o75_s8 P) (.node (o139_s13 P) (.node (o267_s28 P) (.node (o523_s52 P) .nil .nil) .nil) (.node (o395_s32 P) .nil .nil)) (.node (o203_s16 P) (.node (o331_s29 P) .nil .nil) (.node (o459_s44 P) .nil .nil))) (.node (o107_s12 P) (.node (o171_s16 P) (.node (o299_s28 P) .nil .nil) (.node (o427_s37 P) .nil .nil)) (.node (o235_s19 P) (.node (o363_s29 P) .nil .nil) (.node (o491_s52 P) .nil .nil)))) (.node (o59_s8 P) (.node (o91_s11 P) (.node (o155_s14 P) (.node (o283_s28 P) .nil .nil) (.node (o411_s37 P) .nil .nil)) (.node (o219_s17 P) (.node (o347_s29 P) .nil .nil) (.node (o475_s44 P) .nil .nil))) (.node (o123_s12 P) (.node (o187_s16 P) (.node (o315_s29 P) .nil .nil) (.node (o443_s37 P) .nil .nil)) (.node (o251_s28 P) (.node (o379_s32 P) .nil .nil) (.node (o507_s52 P) .nil .nil))))))) (.node (o5_s0 P) (.node (o9_s0 P) (.node (o17_s0 P) (.node (o33_s0 P) (.node (o65_s8 P) (.node (o129_s13 P) (.node (o257_s28 P) (.node (o513_s52 P) .nil .nil) .nil) (.node (o385_s32 P) .nil .nil)) (.node (o193_s16 P) (.node (o321_s29 P) .nil .nil) (.node (o449_s37 P) .nil .nil))) (.node (o97_s11 P) (.node (o161_s14 P) (.node (o289_s28 P) .nil .nil) (.node (o417_s37 P) .nil .nil)) (.node (o225_s17 P) (.node (o353_s29 P) .nil .nil) (.node (o481_s44 P) .nil .nil)))) (.node (o49_s3 P) (.node (o81_s8 P) (.node (o145_s13 P) (.node (o273_s28 P) (.node (o529_s52 P) .nil .nil) .nil) (.node (o401_s32 P) .nil .nil)) (.node (o209_s16 P) (.node (o337_s29 P) .nil .nil) (.node (o465_s44 P) .nil .nil))) (.node (o113_s12 P) (.node (o177_s16 P) (.node (o305_s28 P) .nil .nil) (.node (o433_s37 P) .nil .nil)) (.node (o241_s19 P) (.node (o369_s29 P) .nil .nil) (.node (o497_s52 P) .nil .nil))))) (.node (o25_s0 P) (.node (o41_sb P) (.node (o73_s8 P) (.node (o137_s13 P) (.node (o265_s28 P) (.node (o521_s52 P) .nil .nil) .nil) (.node (o393_s32 P) .nil .nil)) (.node (o201_s16 P) (.node (o329_s29 P) .nil .nil) (.node (o457_s44 P) .nil .nil))) (.node (o105_s12 P) (.node (o169_s16 P) (.node (o297_s28 P) .nil .nil) (.node (o425_s37 P) .nil .nil)) (.node (o233_s19 P) (.node (o361_s29 P) .nil .nil) (.node (o489_s52 P) .nil .nil)))) (.node (o57_s8 P) (.node (o89_s11 P) (.node (o153_s14 P) (.node (o281_s28 P) .nil .nil) (.node (o409_s37 P) .nil .nil)) (.node (o217_s17 P) (.node (o345_s29 P) .nil .nil) (.node (o473_s44 P) .nil .nil))) (.node (o121_s12 P) (.node (o185_s16 P) (.node (o313_s29 P) .nil .nil) (.node (o441_s37 P) .nil .nil)) (.node (o249_s28 P) (.node (o377_s32 P) .nil .nil) (.node (o505_s52 P) .nil .nil)))))) (.node (o13_s0 P) (.node (o21_s0 P) (.node (o37_s0 P) (.node (o69_s8 P) (.node (o133_s13 P) (.node (o261_s28 P) (.node (o517_s52 P) .nil .nil) .nil) (.node (o389_s32 P) .nil .nil)) (.node (o197_s16 P) (.node (o325_s29 P) .nil .nil) (.node (o453_s37 P) .nil .nil))) (.node (o101_s16 P) (.node (o165_s16 P) (.node (o293_s28 P) .nil .nil) (.node (o421_s37 P) .nil .nil)) (.node (o229_s17 P) (.node (o357_s29 P) .nil .nil) (.node (o485_s44 P) .nil .nil)))) (.node (o53_s3 P) (.node (o85_s11 P) (.node (o149_s14 P) (.node (o277_s28 P) .nil .nil) (.node (o405_s37 P) .nil .nil)) (.node (o213_s17 P) (.node (o341_s29 P) .nil .nil) (.node (o469_s44 P) .nil .nil))) (.node (o117_s12 P) (.node (o181_s16 P) (.node (o309_s29 P) .nil .nil) (.node (o437_s37 P) .nil .nil)) (.node (o245_s19 P) (.node (o373_s32 P) .nil .nil) (.node (o501_s52 P) .nil .nil))))) (.node (o29_s0 P) (.node (o45_s3 P) (.node (o77_s8 P) (.node (o141_s13 P) (.node (o269_s28 P) (.node (o525_s52 P) .nil .nil) .nil) (.node (o397_s32 P) .nil .nil)) (.node (o205_s16 P) (.node (o333_s29 P) .nil .nil) (.node (o461_s44 P) .nil .nil))) (.node (o109_s12 P) (.node (o173_s16 P) (.node (o301_s28 P) .nil .nil) (.node (o429_s37 P) .nil .nil)) (.node (o237_s19 P) (.node (o365_s29 P) .nil .nil) (.node (o493_s52 P) .nil .nil)))) (.node (o61_s8 P) (.node (o93_s11 P) (.node (o157_s14 P) (.node (o285_s28 P) .nil .nil) (.node (o413_s37 P) .nil .nil)) (.node (o221_s17 P) (.node (o349_s29 P) .nil .nil) (.node (o477_s44 P) .nil .nil))) (.node (o125_s12 P) (.node (o189_s16 P) (.node (o317_s29 P) .nil .nil) (.node (o445_s37 P) .nil .nil)) (.node (o253_s28 P) (.node (o381_s32 P) .nil .nil) (.node (o509_s52 P) .nil .nil)))))))) (.node (o2_s11 P) (.node (o4_s0 P) (.node (o8_s0 P) (.node (o16_s0 P) (.node (o32_s0 P) (.node (o64_s8 P) (.node (o128_s13 P) (.node (o256_s28 P) (.node (o512_s52 P) .nil .nil) .nil) (.node (o384_s32 P) .nil .nil)) (.node (o192_s16 P) (.node (o320_s29 P) .nil .nil) (.node (o448_s37 P) .nil .nil))) (.node (o96_s11 P) (.node (o160_s14 P) (.node (o288_s28 P) .nil .nil) (.node (o416_s37 P) .nil .nil)) (.node (o224_s17 P) (.node (o352_s29 P) .nil .nil) (.node (o480_s44 P) .nil .nil)))) (.node (o48_s3 P) (.node (o80_s8 P) (.node (o144_s13 P) (.node (o272_s28 P) (.node (o528_s52 P) .nil .nil) .nil) (.node (o400_s32 P) .nil .nil)) (.node (o208_s17 P) (.node (o336_s29 P) .nil .nil) (.node (o464_s44 P) .nil .nil))) (.node (o112_s12 P) (.node (o176_s16 P) (.node (o304_s28 P) .nil .nil) (.node (o432_s37 P) .nil .nil)) (.node (o240_s19 P) (.node (o368_s29 P) .nil .nil) (.node (o496_s52 P) .nil .nil))))) (.node (o24_s0 P) (.node (o40_s52 P) (.node (o72_s8 P) (.node (o136_s13 P) (.node (o264_s28 P) (.node (o520_s52 P) .nil .nil) .nil) (.node (o392_s32 P) .nil .nil)) (.node (o200_s16 P) (.node (o328_s29 P) .nil .nil) (.node (o456_s37 P) .nil .nil))) (.node (o104_s11 P) (.node (o168_s16 P) (.node (o296_s28 P) .nil .nil) (.node (o424_s37 P) .nil .nil)) (.node (o232_s17 P) (.node (o360_s29 P) .nil .nil) (.node (o488_s52 P) .nil .nil)))) (.node (o56_s3 P) (.node (o88_s11 P) (.node (o152_s14 P) (.node (o280_s28 P) .nil .nil) (.node (o408_s37 P) .nil .nil)) (.node (o216_s17 P) (.node (o344_s29 P) .nil .nil) (.node (o472_s44 P) .nil .nil))) (.node (o120_s12 P) (.node (o184_s16 P) (.node (o312_s29 P) .nil .nil) (.node (o440_s37 P) .nil .nil)) (.node (o248_s28 P) (.node (o376_s32 P) .nil .nil) (.node (o504_s52 P) .nil .nil)))))) (.node (o12_s0 P) (.node (o20_s0 P) (.node (o36_s0 P) (.node (o68_s8 P) (.node (o132_s13 P) (.node (o260_s28 P) (.node (o516_s52 P) .nil .nil) .nil) (.node (o388_s32 P) .nil .nil)) (.node (o196_s16 P) (.node (o324_s29 P) .nil .nil) (.node (o452_s37 P) .nil .nil))) (.node (o100_s11 P) (.node (o164_s14 P) (.node (o292_s28 P) .nil .nil) (.node (o420_s37 P) .nil .nil)) (.node (o228_s17 P) (.node (o356_s29 P) .nil .nil) (.node (o484_s44 P) .nil .nil)))) (.node (o52_s3 P) (.node (o84_s11 P) (.node (o148_s14 P) (.node (o276_s28 P) .nil .nil) (.node (o404_s37 P) .nil .nil)) (.node (o212_s17 P) (.node (o340_s29 P) .nil .nil) (.node (o468_s44 P) .nil .nil))) (.node (o116_s12 P) (.node (o180_s16 P) (.node (o308_s29 P) .nil .nil) (.node (o436_s37 P) .nil .nil)) (.node (o244_s19 P) (.node (o372_s32 P) .nil .nil) (.node (o500_s52 P) .nil .nil))))) (.node (o28_s0 P) (.node (o44_s3 P) (.node (o76_s8 P) (.node (o140_s13 P) (.node (o268_s28 P) (.node (o524_s52 P) .nil .nil) .nil) (.node (o396_s32 P) .nil .nil)) (.node (o204_s16 P) (.node (o332_s29 P) .nil .nil) (.node (o460_s44 P) .nil .nil))) (.node (o108_s12 P) (.node (o172_s16 P) (.node (o300_s28 P) .nil .nil) (.node (o428_s37 P) .nil .nil)) (.node (o236_s19 P) (.node (o364_s29 P) .nil .nil) (.node (o492_s52 P) .nil .nil)))) (.node (o60_s8 P) (.node (o92_s11 P) (.node (o156_s14 P) (.node (o284_s28 P) .nil .nil) (.node (o412_s37 P) .nil .nil)) (.node (o220_s17 P) (.node (o348_s29 P) .nil .nil) (.node (o476_s44 P) .nil .nil))) (.node (o124_s12 P) (.node (o188_s16 P) (.node (o316_s29 P) .nil .nil) (.node (o444_s37 P) .nil .nil)) (.node (o252_s28 P) (.node (o380_s32 P) .nil .nil) (.node (o508_s52 P) .nil .nil))))))) (.node (o6_s0 P) (.node (o10_s0 P) (.node (o18_s0 P) (.node (o34_s0 P) (.node (o66_s8 P) (.node (o130_s13 P) (.node (o258_s28 P) (.node (o514_s52 P) .nil .nil) .nil) (.node (o386_s32 P) .nil .nil)) (.node (o194_s16 P) (.node (o322_s29 P) .nil .nil) (.node (o450_s37 P) .nil .nil))) (.node (o98_s11 P) (.node (o162_s14 P) (.node (o290_s28 P) .nil .nil) (.node (o418_s37 P) .nil .nil)) (.node (o226_s17 P) (.node (o354_s29 P) .nil .nil) (.node (o482_s44 P) .nil .nil)))) (.node (o50_s3 P) (.node (o82_s8 P) (.node (o146_s13 P) (.node (o274_s28 P) (.node (o530_s52 P) .nil .nil) .nil) (.node (o402_s32 P) .nil .nil)) (.node (o210_s16 P) (.node (o338_s29 P) .nil .nil) (.node (o466_s44 P) .nil .nil))) (.node (o114_s12 P) (.node (o178_s16 P) (.node (o306_s28 P) .nil .nil) (.node (o434_s37 P) .nil .nil)) (.node (o242_s19 P) (.node (o370_s29 P) .nil .nil) (.node (o498_s52 P) .nil .nil))))) (.node (o26_s0 P) (.node (o42_sb P) (.node (o74_s8 P) (.node (o138_s13 P) (.node (o266_s28 P) (.node (o522_s52 P) .nil .nil) .nil) (.node (o394_s32 P) .nil .nil)) (.node (o202_s16 P) (.node (o330_s29 P) .nil .nil) (.node (o458_s44 P) .nil .nil))) (.node (o106_s12 P) (.node (o170_s16 P) (.node (o298_s28 P) .nil .nil) (.node (o426_s37 P) .nil .nil)) (.node (o234_s19 P) (.node (o362_s29 P) .nil .nil) (.node (o490_s52 P) .nil .nil)))) (.node (o58_s8 P) (.node (o90_s11 P) (.node (o154_s14 P) (.node (o282_s28 P) .nil .nil) (.node (o410_s37 P) .nil .nil)) (.node (o218_s17 P) (.node (o346_s29 P) .nil .nil) (.node (o474_s44 P) .nil .nil))) (.node (o122_s12 P) (.node (o186_s16 P) (.node (o314_s29 P) .nil .nil) (.node (o442_s37 P) .nil .nil)) (.node (o250_s28 P) (.node (o378_s32 P) .nil .nil) (.node (o506_s52 P) .nil .nil)))))) (.node (o14_s0 P) (.node (o22_s0 P) (.node (o38_s0 P) (.node (o70_s8 P) (.node (o134_s13 P) (.node (o262_s28 P) (.node (o518_s52 P) .nil .nil) .nil) (.node (o390_s32 P) .nil .nil)) (.node (o198_s16 P) (.node (o326_s29 P) .nil .nil) (.node (o454_s37 P) .nil .nil))) (.node (o102_s11 P) (.node (o166_s14 P) (.node (o294_s28 P) .nil .nil) (.node (o422_s37 P) .nil .nil)) (.node (o230_s17 P) (.node (o358_s29 P) .nil .nil) (.node (o486_s52 P) .nil .nil)))) (.node (o54_s3 P) (.node (o86_s11 P) (.node (o150_s14 P) (.node (o278_s28 P) .nil .nil) (.node (o406_s37 P) .nil .nil)) (.node (o214_s17 P) (.node (o342_s29 P) .nil .nil) (.node (o470_s44 P) .nil .nil))) (.node (o118_s12 P) (.node (o182_s16 P) (.node (o310_s29 P) .nil .nil) (.node (o438_s37 P) .nil .nil)) (.node (o246_s28 P) (.node (o374_s32 P) .nil .nil) (.node (o502_s52 P) .nil .nil))))) (.node (o30_s0 P) (.node (o46_s3 P) (.node (o78_s8 P) (.node (o142_s13 P) (.node (o270_s28 P) (.node (o526_s52 P) .nil .nil) .nil) (.node (o398_s32 P) .nil .nil)) (.node (o206_s16 P) (.node (o334_s29 P) .nil .nil) (.node (o462_s44 P) .nil .nil))) (.node (o110_s12 P) (.node (o174_s16 P) (.node (o302_s28 P) .nil .nil) (.node (o430_s37 P) .nil .nil)) (.node (o238_s19 P) (.node (o366_s29 P) .nil .nil) (.node (o494_s52 P) .nil .nil)))) (.node (o62_s8 P) (.node (o94_s11 P) (.node (o158_s14 P) (.node (o286_s28 P) .nil .nil) (.node (o414_s37 P) .nil .nil)) (.node (o222_s17 P) (.node (o350_s29 P) .nil .nil) (.node (o478_s44 P) .nil .nil))) (.node (o126_s13 P) (.node (o190_s16 P) (.node (o318_s29 P) .nil .nil) (.node (o446_s37 P) .nil .nil)) (.node (o254_s28 P) (.node (o382_s32 P) .nil .nil) (.node (o510_s52 P) .nil .nil)))))))))
def S_s52 (w : World) (os : OsState) : SharedT := ⟨T_s52 w.params, 532, life0, #[.finished], drawn0, 2065, os⟩
def sts3 : List Stmt := [stA [1], stA [2], stA [3], stA [4]]
def sts8 : List Stmt := [stA [5], stA [6], stA [7], stA [8], stA [9]]
def sts11 : List Stmt := [stA [10], stA [11], stA [12]]
def sts12 : List Stmt := [stA [13]]
def sts13 : List Stmt := [stA [14]]
def sts14 : List Stmt := [stA [15]]
def sts16 : List Stmt := [stA [16], stA [17]]
def sts17 : List Stmt := [stA [18]]
def sts18 : List Stmt := [stA [19]]
def sts19 : List Stmt := [stA [20]]
def sts28 : List Stmt := [stA [21], stA [22], stA [23], stA [24], stA [25], stA [26], stA [27], stA [28], stA [29]]
def sts29 : List Stmt := [stA [30]]
def sts32 : List Stmt := [stA [31], stA [32], stA [33]]
def sts37 : List Stmt := [stA [34], stA [35], stA [36], stA [37], stA [38]]
def sts44 : List Stmt := [stA [39], stA [40], stA [41], stA [42], stA [43], stA [44], stA [45]]
def sts52 : List Stmt := [stA [46], stA [47], stA [48], stA [49], stA [50], stA [51], stA [52], stA [53]]
def H0 (P : Params) : Heap := ⟨#[o0_s0 P, o1_s0 P, o2_s0 P, o3_s0 P, o4_s0 P, o5_s0 P, o6_s0 P, o7_s0 P, o8_s0 P, o9_s0 P, o10_s0 P, o11_s0 P, o12_s0 P, o13_s0 P, o14_s0 P, o15_s0 P, o16_s0 P, o17_s0 P, o18_s0 P, o19_s0 P, o20_s0 P, o21_s0 P, o22_s0 P, o23_s0 P, o24_s0 P, o25_s0 P, o26_s0 P, o27_s0 P, o28_s0 P, o29_s0 P, o30_s0 P, o31_s0 P, o32_s0 P, o33_s0 P, o34_s0 P, o35_s0 P, o36_s0 P, o37_s0 P, o38_s0 P], life0⟩
def H1 (P : Params) : Heap := ⟨#[o0_s0 P, o1_s0 P, o2_s11 P, o3_s52 P, o4_s0 P, o5_s0 P, o6_s0 P, o7_s0 P, o8_s0 P, o9_s0 P, o10_s0 P, o11_s0 P, o12_s0 P, o13_s0 P, o14_s0 P, o15_s0 P, o16_s0 P, o17_s0 P, o18_s0 P, o19_s0 P, o20_s0 P, o21_s0 P, o22_s0 P, o23_s0 P, o24_s0 P, o25_s0 P, o26_s0 P, o27_s0 P, o28_s0 P, o29_s0 P, o30_s0 P, o31_s0 P, o32_s0 P, o33_s0 P, o34_s0 P, o35_s0 P, o36_s0 P, o37_s0 P, o38_s0 P, o39_sb P, o40_s52 P, o41_sb P, o42_sb P, o43_s3 P, o44_s3 P, o45_s3 P, o46_s3 P, o47_s3 P, o48_s3 P, o49_s3 P, o50_s3 P, o51_s3 P, o52_s3 P, o53_s3 P, o54_s3 P, o55_s3 P, o56_s3 P, o57_s8 P, o58_s8 P, o59_s8 P, o60_s8 P, o61_s8 P, o62_s8 P, o63_s8 P, o64_s8 P, o65_s8 P, o66_s8 P, o67_s8 P, o68_s8 P, o69_s8 P, o70_s8 P, o71_s8 P, o72_s8 P, o73_s8 P, o74_s8 P, o75_s8 P, o76_s8 P, o77_s8 P, o78_s8 P, o79_s8 P, o80_s8 P, o81_s8 P, o82_s8 P, o83_s8 P, o84_s11 P, o85_s11 P, o86_s11 P, o87_s11 P, o88_s11 P, o89_s11 P, o90_s11 P, o91_s11 P, o92_s11 P, o93_s11 P, o94_s11 P, o95_s11 P, o96_s11 P, o97_s11 P, o98_s11 P, o99_s11 P, o100_s11 P, o101_s16 P, o102_s11 P, o103_s11 P, o104_s11 P, o105_s12 P, o106_s12 P, o107_s12 P, o108_s12 P, o109_s12 P, o110_s12 P, o111_s12 P, o112_s12 P, o113_s12 P, o114_s12 P, o115_s12 P, o116_s12 P, o117_s12 P, o118_s12 P, o119_s12 P, o120_s12 P, o121_s12 P, o122_s12 P, o123_s12 P, o124_s12 P, o125_s12 P, o126_s13 P, o127_s13 P, o128_s13 P, o129_s13 P, o130_s13 P, o131_s13 P, o132_s13 P, o133_s13 P, o134_s13 P, o135_s13 P, o136_s13 P, o137_s13 P, o138_s13 P, o139_s13 P, o140_s13 P, o141_s13 P, o142_s13 P, o143_s13 P, o144_s13 P, o145_s13 P, o146_s13 P, o147_s14 P, o148_s14 P, o149_s14 P, o150_s14 P, o151_s14 P, o152_s14 P, o153_s14 P, o154_s14 P, o155_s14 P, o156_s14 P, o157_s14 P, o158_s14 P, o159_s14 P, o160_s14 P, o161_s14 P, o162_s14 P, o163_s14 P, o164_s14 P, o165_s16 P, o166_s14 P, o167_s14 P, o168_s16 P, o169_s16 P, o170_s16 P, o171_s16 P, o172_s16 P, o173_s16 P, o174_s16 P, o175_s16 P, o176_s16 P, o177_s16 P, o178_s16 P, o179_s16 P, o180_s16 P, o181_s16 P, o182_s16 P, o183_s16 P, o184_s16 P, o185_s16 P, o186_s16 P, o187_s16 P, o188_s16 P, o189_s16 P, o190_s16 P, o191_s16 P, o192_s16 P, o193_s16 P, o194_s16 P, o195_s16 P, o196_s16 P, o197_s16 P, o198_s16 P, o199_s16 P, o200_s16 P, o201_s16 P, o202_s16 P, o203_s16 P, o204_s16 P, o205_s16 P, o206_s16 P, o207_s16 P, o208_s17 P, o209_s16 P, o210_s16 P, o211_s17 P, o212_s17 P, o213_s17 P, o214_s17 P, o215_s17 P, o216_s17 P, o217_s17 P, o218_s17 P, o219_s17 P, o220_s17 P, o221_s17 P, o222_s17 P, o223_s17 P, o224_s17 P, o225_s17 P, o226_s17 P, o227_s17 P, o228_s17 P, o229_s17 P, o230_s17 P, o231_s17 P, o232_s17 P, o233_s19 P, o234_s19 P, o235_s19 P, o236_s19 P, o237_s19 P, o238_s19 P, o239_s19 P, o240_s19 P, o241_s19 P, o242_s19 P, o243_s19 P, o244_s19 P, o245_s19 P, o246_s28 P, o247_s28 P, o248_s28 P, o249_s28 P, o250_s28 P, o251_s28 P, o252_s28 P, o253_s28 P, o254_s28 P, o255_s28 P, o256_s28 P, o257_s28 P, o258_s28 P, o259_s28 P, o260_s28 P, o261_s28 P, o262_s28 P, o263_s28 P, o264_s28 P, o265_s28 P, o266_s28 P, o267_s28 P, o268_s28 P, o269_s28 P, o270_s28 P, o271_s28 P, o272_s28 P, o273_s28 P, o274_s28 P, o275_s28 P, o276_s28 P, o277_s28 P, o278_s28 P, o279_s28 P, o280_s28 P, o281_s28 P, o282_s28 P, o283_s28 P, o284_s28 P, o285_s28 P, o286_s28 P, o287_s28 P, o288_s28 P, o289_s28 P, o290_s28 P, o291_s28 P, o292_s28 P, o293_s28 P, o294_s28 P, o295_s28 P, o296_s28 P, o297_s28 P, o298_s28 P, o299_s28 P, o300_s28 P, o301_s28 P, o302_s28 P, o303_s28 P, o304_s28 P, o305_s28 P, o306_s28 P, o307_s28 P, o308_s29 P, o309_s29 P, o310_s29 P, o311_s29 P, o312_s29 P, o313_s29 P, o314_s29 P, o315_s29 P, o316_s29 P, o317_s29 P, o318_s29 P, o319_s29 P, o320_s29 P, o321_s29 P, o322_s29 P, o323_s29 P, o324_s29 P, o325_s29 P, o326_s29 P, o327_s29 P, o328_s29 P, o329_s29 P, o330_s29 P, o331_s29 P, o332_s29 P, o333_s29 P, o334_s29 P, o335_s29 P, o336_s29 P, o337_s29 P, o338_s29 P, o339_s29 P, o340_s29 P, o341_s29 P, o342_s29 P, o343_s29 P, o344_s29 P, o345_s29 P, o346_s29 P, o347_s29 P, o348_s29 P, o349_s29 P, o350_s29 P, o351_s29 P, o352_s29 P, o353_s29 P, o354_s29 P, o355_s29 P, o356_s29 P, o357_s29 P, o358_s29 P, o359_s29 P, o360_s29 P, o361_s29 P, o362_s29 P, o363_s29 P, o364_s29 P, o365_s29 P, o366_s29 P, o367_s29 P, o368_s29 P, o369_s29 P, o370_s29 P, o371_s29 P, o372_s32 P, o373_s32 P, o374_s32 P, o375_s32 P, o376_s32 P, o377_s32 P, o378_s32 P, o379_s32 P, o380_s32 P, o381_s32 P, o382_s32 P, o383_s32 P, o384_s32 P, o385_s32 P, o386_s32 P, o387_s32 P, o388_s32 P, o389_s32 P, o390_s32 P, o391_s32 P, o392_s32 P, o393_s32 P, o394_s32 P, o395_s32 P, o396_s32 P, o397_s32 P, o398_s32 P, o399_s32 P, o400_s32 P, o401_s32 P, o402_s32 P, o403_s37 P, o404_s37 P, o405_s37 P, o406_s37 P, o407_s37 P, o408_s37 P, o409_s37 P, o410_s37 P, o411_s37 P, o412_s37 P, o413_s37 P, o414_s37 P, o415_s37 P, o416_s37 P, o417_s37 P, o418_s37 P, o419_s37 P, o420_s37 P, o421_s37 P, o422_s37 P, o423_s37 P, o424_s37 P, o425_s37 P, o426_s37 P, o427_s37 P, o428_s37 P, o429_s37 P, o430_s37 P, o431_s37 P, o432_s37 P, o433_s37 P, o434_s37 P, o435_s37 P, o436_s37 P, o437_s37 P, o438_s37 P, o439_s37 P, o440_s37 P, o441_s37 P, o442_s37 P, o443_s37 P, o444_s37 P, o445_s37 P, o446_s37 P, o447_s37 P, o448_s37 P, o449_s37 P, o450_s37 P, o451_s37 P, o452_s37 P, o453_s37 P, o454_s37 P, o455_s37 P, o456_s37 P, o457_s44 P, o458_s44 P, o459_s44 P, o460_s44 P, o461_s44 P, o462_s44 P, o463_s44 P, o464_s44 P, o465_s44 P, o466_s44 P, o467_s44 P, o468_s44 P, o469_s44 P, o470_s44 P, o471_s44 P, o472_s44 P, o473_s44 P, o474_s44 P, o475_s44 P, o476_s44 P, o477_s44 P, o478_s44 P, o479_s44 P, o480_s44 P, o481_s44 P, o482_s44 P, o483_s44 P, o484_s44 P, o485_s44 P, o486_s52 P, o487_s52 P, o488_s52 P, o489_s52 P, o490_s52 P, o491_s52 P, o492_s52 P, o493_s52 P, o494_s52 P, o495_s52 P, o496_s52 P, o497_s52 P, o498_s52 P, o499_s52 P, o500_s52 P, o501_s52 P, o502_s52 P, o503_s52 P, o504_s52 P, o505_s52 P, o506_s52 P, o507_s52 P, o508_s52 P, o509_s52 P, o510_s52 P, o511_s52 P, o512_s52 P, o513_s52 P, o514_s52 P, o515_s52 P, o516_s52 P, o517_s52 P, o518_s52 P, o519_s52 P, o520_s52 P, o521_s52 P, o522_s52 P, o523_s52 P, o524_s52 P, o525_s52 P, o526_s52 P, o527_s52 P, o528_s52 P, o529_s52 P, o530_s52 P, o531_s52 P], life0⟩
def fragK (P : Params) : Frag := (nat_lit 3, o3_s52 P) :: (nat_lit 56, o56_s3 P) :: (nat_lit 61, o61_s8 P) :: (nat_lit 68, o68_s8 P) :: (nat_lit 73, o73_s8 P) :: (nat_lit 78, o78_s8 P) :: (nat_lit 83, o83_s8 P) :: (nat_lit 91, o91_s11 P) :: (nat_lit 254, o254_s28 P) :: (nat_lit 261, o261_s28 P) :: (nat_lit 268, o268_s28 P) :: (nat_lit 463, o463_s44 P) :: (nat_lit 470, o470_s44 P) :: (nat_lit 478, o478_s44 P) :: (nat_lit 485, o485_s44 P) :: (nat_lit 492, o492_s52 P) :: (nat_lit 499, o499_s52 P) :: (nat_lit 506, o506_s52 P) :: (nat_lit 514, o514_s52 P) :: (nat_lit 526, o526_s52 P) :: (nat_lit 531, o531_s52 P) :: (nat_lit 55, o55_s3 P) :: (nat_lit 60, o60_s8 P) :: (nat_lit 67, o67_s8 P) :: (nat_lit 72, o72_s8 P) :: (nat_lit 77, o77_s8 P) :: (nat_lit 82, o82_s8 P) :: (nat_lit 90, o90_s11 P) :: (nat_lit 253, o253_s28 P) :: (nat_lit 260, o260_s28 P) :: (nat_lit 267, o267_s28 P) :: (nat_lit 462, o462_s44 P) :: (nat_lit 469, o469_s44 P) :: (nat_lit 477, o477_s44 P) :: (nat_lit 484, o484_s44 P) :: (nat_lit 491, o491_s52 P) :: (nat_lit 498, o498_s52 P) :: (nat_lit 505, o505_s52 P) :: (nat_lit 513, o513_s52 P) :: (nat_lit 525, o525_s52 P) :: (nat_lit 530, o530_s52 P) :: (nat_lit 84, o84_s11 P) :: (nat_lit 471, o471_s44 P) :: (nat_lit 507, o507_s52 P) :: (nat_lit 245, o245_s19 P) :: (nat_lit 246, o246_s28 P) :: (nat_lit 247, o247_s28 P) :: (nat_lit 4, o4_s0 P) :: []
def fragV (P : Params) : Frag := (nat_lit 3, o3_s52 P) :: (nat_lit 56, o56_s3 P) :: (nat_lit 61, o61_s8 P) :: (nat_lit 68, o68_s8 P) :: (nat_lit 73, o73_s8 P) :: (nat_lit 78, o78_s8 P) :: (nat_lit 83, o83_s8 P) :: (nat_lit 91, o91_s11 P) :: (nat_lit 254, o254_s28 P) :: (nat_lit 261, o261_s28 P) :: (nat_lit 268, o268_s28 P) :: (nat_lit 463, o463_s44 P) :: (nat_lit 470, o470_s44 P) :: (nat_lit 478, o478_s44 P) :: (nat_lit 485, o485_s44 P) :: (nat_lit 492, o492_s52 P) :: (nat_lit 499, o499_s52 P) :: (nat_lit 506, o506_s52 P) :: (nat_lit 514, o514_s52 P) :: (nat_lit 526, o526_s52 P) :: (nat_lit 531, o531_s52 P) :: (nat_lit 55, o55_s3 P) :: (nat_lit 60, o60_s8 P) :: (nat_lit 67, o67_s8 P) :: (nat_lit 72, o72_s8 P) :: (nat_lit 77, o77_s8 P) :: (nat_lit 82, o82_s8 P) :: (nat_lit 90, o90_s11 P) :: (nat_lit 253, o253_s28 P) :: (nat_lit 260, o260_s28 P) :: (nat_lit 267, o267_s28 P) :: (nat_lit 462, o462_s44 P) :: (nat_lit 469, o469_s44 P) :: (nat_lit 477, o477_s44 P) :: (nat_lit 484, o484_s44 P) :: (nat_lit 491, o491_s52 P) :: (nat_lit 498, o498_s52 P) :: (nat_lit 505, o505_s52 P) :: (nat_lit 513, o513_s52 P) :: (nat_lit 525, o525_s52 P) :: (nat_lit 530, o530_s52 P) :: (nat_lit 84, o84_s11 P) :: (nat_lit 471, o471_s44 P) :: (nat_lit 507, o507_s52 P) :: (nat_lit 245, o245_s19 P) :: (nat_lit 246, o246_s28 P) :: (nat_lit 247, o247_s28 P) :: (nat_lit 4, o4_s0 P) :: (nat_lit 458, o458_s44 P) :: (nat_lit 80, o80_s8 P) :: []
def asV : List Addr := [3, 56, 61, 68, 73, 78, 83, 91, 254, 261, 268, 463, 470, 478, 485, 492, 499, 506, 514, 526, 531, 55, 60, 67, 72, 77, 82, 90, 253, 260, 267, 462, 469, 477, 484, 491, 498, 505, 513, 525, 530, 84, 471, 507, 245, 246, 247, 4, 458, 80]
theorem zS_s0_self : S_s0 = S_s0 := rfl
name_quick zS_s0 for Mine.S_s0 by Mine.zS_s0_self
theorem zS_sb_self : S_sb = S_sb := rfl
name_quick zS_sb for Mine.S_sb by Mine.zS_sb_self
theorem zS_s3_self : S_s3 = S_s3 := rfl
name_quick zS_s3 for Mine.S_s3 by Mine.zS_s3_self
theorem zS_s8_self : S_s8 = S_s8 := rfl
name_quick zS_s8 for Mine.S_s8 by Mine.zS_s8_self
theorem zS_s11_self : S_s11 = S_s11 := rfl
name_quick zS_s11 for Mine.S_s11 by Mine.zS_s11_self
theorem zS_s12_self : S_s12 = S_s12 := rfl
name_quick zS_s12 for Mine.S_s12 by Mine.zS_s12_self
theorem zS_s13_self : S_s13 = S_s13 := rfl
name_quick zS_s13 for Mine.S_s13 by Mine.zS_s13_self
theorem zS_s14_self : S_s14 = S_s14 := rfl
name_quick zS_s14 for Mine.S_s14 by Mine.zS_s14_self
theorem zS_s16_self : S_s16 = S_s16 := rfl
name_quick zS_s16 for Mine.S_s16 by Mine.zS_s16_self
theorem zS_s17_self : S_s17 = S_s17 := rfl
name_quick zS_s17 for Mine.S_s17 by Mine.zS_s17_self
theorem zS_s18_self : S_s18 = S_s18 := rfl
name_quick zS_s18 for Mine.S_s18 by Mine.zS_s18_self
theorem zS_s19_self : S_s19 = S_s19 := rfl
name_quick zS_s19 for Mine.S_s19 by Mine.zS_s19_self
theorem zS_s28_self : S_s28 = S_s28 := rfl
name_quick zS_s28 for Mine.S_s28 by Mine.zS_s28_self
theorem zS_s29_self : S_s29 = S_s29 := rfl
name_quick zS_s29 for Mine.S_s29 by Mine.zS_s29_self
theorem zS_s32_self : S_s32 = S_s32 := rfl
name_quick zS_s32 for Mine.S_s32 by Mine.zS_s32_self
theorem zS_s37_self : S_s37 = S_s37 := rfl
name_quick zS_s37 for Mine.S_s37 by Mine.zS_s37_self
theorem zS_s44_self : S_s44 = S_s44 := rfl
name_quick zS_s44 for Mine.S_s44 by Mine.zS_s44_self
theorem zS_s52_self : S_s52 = S_s52 := rfl
name_quick zS_s52 for Mine.S_s52 by Mine.zS_s52_self
theorem zsts3_self : sts3 = sts3 := rfl
name_quick zsts3 for Mine.sts3 by Mine.zsts3_self
theorem zsts8_self : sts8 = sts8 := rfl
name_quick zsts8 for Mine.sts8 by Mine.zsts8_self
theorem zsts11_self : sts11 = sts11 := rfl
name_quick zsts11 for Mine.sts11 by Mine.zsts11_self
theorem zsts12_self : sts12 = sts12 := rfl
name_quick zsts12 for Mine.sts12 by Mine.zsts12_self
theorem zsts13_self : sts13 = sts13 := rfl
name_quick zsts13 for Mine.sts13 by Mine.zsts13_self
theorem zsts14_self : sts14 = sts14 := rfl
name_quick zsts14 for Mine.sts14 by Mine.zsts14_self
theorem zsts16_self : sts16 = sts16 := rfl
name_quick zsts16 for Mine.sts16 by Mine.zsts16_self
theorem zsts17_self : sts17 = sts17 := rfl
name_quick zsts17 for Mine.sts17 by Mine.zsts17_self
theorem zsts18_self : sts18 = sts18 := rfl
name_quick zsts18 for Mine.sts18 by Mine.zsts18_self
theorem zsts19_self : sts19 = sts19 := rfl
name_quick zsts19 for Mine.sts19 by Mine.zsts19_self
theorem zsts28_self : sts28 = sts28 := rfl
name_quick zsts28 for Mine.sts28 by Mine.zsts28_self
theorem zsts29_self : sts29 = sts29 := rfl
name_quick zsts29 for Mine.sts29 by Mine.zsts29_self
theorem zsts32_self : sts32 = sts32 := rfl
name_quick zsts32 for Mine.sts32 by Mine.zsts32_self
theorem zsts37_self : sts37 = sts37 := rfl
name_quick zsts37 for Mine.sts37 by Mine.zsts37_self
theorem zsts44_self : sts44 = sts44 := rfl
name_quick zsts44 for Mine.sts44 by Mine.zsts44_self
theorem zsts52_self : sts52 = sts52 := rfl
name_quick zsts52 for Mine.sts52 by Mine.zsts52_self
theorem zH0_self : H0 = H0 := rfl
name_quick zH0 for Mine.H0 by Mine.zH0_self
theorem zH1_self : H1 = H1 := rfl
name_quick zH1 for Mine.H1 by Mine.zH1_self
theorem zcdV_self : cdV = cdV := rfl
name_quick zcdV for Mine.cdV by Mine.zcdV_self
end Mine
end
section -- Base
open PySem PySem.W PySem.Calls PyProof.Rows
set_option maxRecDepth 100000
namespace Mine
def viewP : Program := { PG with main := { PG.main with body := [stA [0], stA [53]] } }
def looseV : List Str := [.ofString "_wall", .ofString "CHARSET", .ofString "bech32_polymod", .ofString "bech32_hrp_expand", .ofString "bech32_verify_checksum", .ofString "bech32_create_checksum", .ofString "bech32_encode", .ofString "bech32_decode", .ofString "convertbits", .ofString "RLPException", .ofString "EncodingError", .ofString "DecodingError", .ofString "SerializationError", .ofString "ListSerializationError", .ofString "DeserializationError", .ofString "ListDeserializationError", .ofString "ALL_BYTES", .ofString "Atomic", .ofString "Sequence", .ofString "is_bytes", .ofString "big_endian_to_int", .ofString "int_to_big_endian", .ofString "BigEndianInt", .ofString "big_endian_int", .ofString "Binary", .ofString "binary", .ofString "Boolean", .ofString "boolean", .ofString "is_sedes", .ofString "is_sequence", .ofString "List", .ofString "encode_raw", .ofString "decode_raw", .ofString "encode", .ofString "LONG_LENGTH", .ofString "length_prefix", .ofString "SHORT_STRING", .ofString "consume_length_prefix", .ofString "consume_payload", .ofString "consume_item", .ofString "decode", .ofString "infer_sedes", .ofString "_law_tree"]

theorem zviewP_self : viewP = viewP := rfl
name_quick zviewP for Mine.viewP by Mine.zviewP_self
theorem zlooseV_self : looseV = looseV := rfl
name_quick zlooseV for Mine.looseV by Mine.zlooseV_self

/-- a goal the steps shall leave alone -/
def Hold (p : Prop) : Prop := p
theorem unhold {p : Prop} (h : Hold p) : p := h
/-- the two tables of nested codes that the calls may fill -/
abbrev T1 : Addr := 458
abbrev T2 : Addr := 80
abbrev tabO (ps : Array Value) : Obj := { cls := .none, data := .fields ps }
def lowH (h : Heap) : Heap := (h.hide T1).hide T2
theorem low_get {h : Heap} {b : Addr} {o : Obj} (h1 : b ≠ T1) (h2 : b ≠ T2) (e : h.get? b = some o) : (lowH h).get? b = some o := by
  unfold lowH; rw [Heap.hide_ne _ h2, Heap.hide_ne _ h1]; exact e
theorem of_low {h : Heap} {b : Addr} {o : Obj} (e : (lowH h).get? b = some o) : h.get? b = some o ∧ b ≠ T1 ∧ b ≠ T2 := by
  refine ⟨Heap.of_hide (Heap.of_hide e), ?_, ?_⟩
  · rintro rfl; have := Heap.of_hide e; rw [Heap.hide_self] at this; cases this
  · rintro rfl; unfold lowH at e; rw [Heap.hide_self] at e; cases e
theorem low_list {h : Heap} {l : Addr} {vs : Array Value} (k : (∃ ps, h.get? T1 = some (tabO ps)) ∧ ∃ ps, h.get? T2 = some (tabO ps)) (x : h.IsList l vs) : (lowH h).IsList l vs := by
  obtain ⟨o, e, c, r⟩ := x
  obtain ⟨⟨p1, e1⟩, p2, e2⟩ := k
  refine ⟨o, low_get (fun q => ?_) (fun q => ?_) e, c, r⟩
  · subst q; rw [e1] at e; cases e; cases c
  · subst q; rw [e2] at e; cases e; cases c
theorem low_size (h : Heap) : (lowH h).objs.size = h.objs.size := by unfold lowH; rw [Heap.hide_size, Heap.hide_size]

/-- kept but for the two tables -/
def Kept (h h' : Heap) : Prop := ∀ b o, b ≠ T1 → b ≠ T2 → h.get? b = some o → h'.get? b = some o
theorem Kept.refl (h : Heap) : Kept h h := fun _ _ _ _ e => e
theorem Kept.trans {h h' h'' : Heap} (a : Kept h h') (b : Kept h' h'') : Kept h h'' := fun c o h1 h2 e => b c o h1 h2 (a c o h1 h2 e)
theorem Kept.of_stays {h h' : Heap} (k : h.StaysIn h') : Kept h h' := fun b o _ _ e => k b o e
theorem Kept.low {h h' : Heap} (k : Kept h h') {b : Addr} {o : Obj} (e : (lowH h).get? b = some o) : h'.get? b = some o := let ⟨a, b, c⟩ := of_low e; k _ _ b c a

def TabsOk (h : Heap) : Prop := (∃ ps, h.get? T1 = some (tabO ps) ∧ TriplesOk ps.toList) ∧ ∃ ps, h.get? T2 = some (tabO ps) ∧ TriplesOk ps.toList

/-- the state behind a call that only makes new things -/
structure Grown (s s' : Shared) : Prop where
  heap : Kept s.heap s'.heap
  tabs : TabsOk s.heap → TabsOk s'.heap
  size : s.heap.objs.size ≤ s'.heap.objs.size
  gens : ∀ i : Nat, s.gens[i]? = some GenState.finished → s'.gens[i]? = some GenState.finished
  bare : AllBare s.gens → AllBare s'.gens
  os : s'.os = s.os
theorem Grown.refl (s : Shared) : Grown s s := ⟨Kept.refl _, id, Nat.le_refl _, fun _ e => e, id, rfl⟩
theorem Grown.trans {s s' s'' : Shared} (a : Grown s s') (b : Grown s' s'') : Grown s s'' := ⟨a.heap.trans b.heap, fun x => b.tabs (a.tabs x), Nat.le_trans a.size b.size, fun i e => b.gens i (a.gens i e), fun x => b.bare (a.bare x), b.os.trans a.os⟩

/-- the text's own part of the heap, and what the start-up laid -/
structure Ok (w : World) (h : Heap) : Prop where
  X : (fragK w.params).In (lowH h)
  T : ∃ mg mb, TopRead viewP (looseW viewP looseV) mg mb (lowH h)
  tabs : TabsOk h
theorem Ok.list {w : World} {h : Heap} (x : Ok w h) {l : Addr} {vs : Array Value} (y : h.IsList l vs) : (lowH h).IsList l vs := low_list (let ⟨⟨a, b, _⟩, c, d, _⟩ := x.tabs; ⟨⟨a, b⟩, c, d⟩) y
theorem low_kept {h h' : Heap} (k : Kept h h') : ∀ b o, (lowH h).get? b = some o → (lowH h').get? b = some o := fun _ _ e => let ⟨a, b, c⟩ := of_low e; low_get b c (k _ _ b c a)
theorem Ok.grown {w : World} {s s' : Shared} (x : Ok w s.heap) (k : Grown s s') : Ok w s'.heap := ⟨x.X.keeps (low_kept k.heap), let ⟨a, b, t⟩ := x.T; ⟨a, b, t.keeps (low_kept k.heap)⟩, k.tabs x.tabs⟩
structure Room (A : Around) (d u : Nat) : Prop where
  hd : A.depth + d < recursionLimit
  hu : A.units + u < cLine
  hh : A.handled = none
theorem Room.less {A : Around} {d u d' u' : Nat} (r : Room A d u) (hd : d' ≤ d) (hu : u' ≤ u) : Room A d' u' := ⟨by have := r.hd; omega, by have := r.hu; omega, r.hh⟩
theorem Room.deeper {A : Around} {d u : Nat} {env : Env} (r : Room A (d + 1) (u + 3)) : Room (A.deeper env) d u := ⟨by have := r.hd; show A.depth + 1 + d < _; omega, by have := r.hu; show A.units + 3 + u < _; omega, r.hh⟩

/-- the ledger at a def's start -/
abbrev tabsN (p1 p2 : Array Value) : List (Addr × Obj) := [(T1, tabO p1), (T2, tabO p2)]

theorem enter_def {w : World} {A : Around} {Q E : Value → Shared → Prop} {s : Shared} {name qual : Str} {params : Arguments} {body body' : List Stmt} {scope scope' : Scope}
    {dV kV doc pm cdv ct oc : Value} {an od : Option Addr} {osl : Array (Option Value)} {f : Addr} {pos : List Value} {kw : List (Str × Value)} (binds : List (Str × Value))
    (ok : Ok w s.heap)
    (ho : (fragK w.params).lookup f = some ⟨oc, od, .func (fnOf name qual params body scope dV kV doc pm an cdv ct), osl⟩) (hcd : codeIn (fragK w.params) cdv qual = true) (hroom : A.depth < recursionLimit)
    (hb : body = body') (hs : scope = scope')
    (hbind : BindsTo s (fnOf name qual params body scope dV kV doc pm an cdv ct) ⟨pos, kw⟩ binds) (hloc : ∀ y ∈ binds, scope.names.lookup y.1 = some .local)
    (hco : scope.isCoroutine = false) (hgen : scope.isGenerator = false) (hk : scope.kind = .function)
    (hcell : ∀ x ∈ scope.names, x.2 ≠ .cell)
    (h : ∀ h₁ mg mb p1 p2, (fragK w.params).In (lowH s.heap) → TopRead viewP (looseW viewP looseV) mg mb (lowH s.heap) → TriplesOk p1.toList → TriplesOk p2.toList →
      Fr (lowH s.heap) s.heap.objs.size h₁ (fun y => binds.reverse.lookup y) → News (lowH s.heap) s.heap.objs.size h₁ (tabsN p1 p2) →
      wpAny (model PG w) (A.deeper (envOf qual scope' s.heap.objs.size f cdv)) (execs body' (envOf qual scope' s.heap.objs.size f cdv))
        (fun fl s' => Q (match fl with | .ret v => v | _ => .none) s') (fun _ _ => False) { s with heap := h₁, toks := s.toks + binds.length }) :
    wpAny (model PG w) A (call (.ref f) pos kw) Q E s := by
  subst hb hs
  obtain ⟨X, ⟨mg, mb, T⟩, ⟨p1, t1, k1⟩, ⟨p2, t2, k2⟩⟩ := ok
  have X' : (fragK w.params).In s.heap := fun a o e => (of_low (X a o e)).1
  have hlim : s.heap.NoLimit := T.nolimit.keeps fun b o e => (of_low e).1
  refine wpAny_call (codeAny_call_def (fd := fnOf name qual params body scope dV kV doc pm an cdv ct) (body := body) (binds := binds) hroom (X' _ _ ho) rfl hlim (codeRec_of X' hcd) rfl hbind hcell hloc (fun h₁ hns hk₁ => ?_) hco hgen hk)
  have l1 : T1 < s.heap.objs.size := Heap.lt_size t1
  have l2 : T2 < s.heap.objs.size := Heap.lt_size t2
  refine wpAny_mono (h h₁ mg mb p1 p2 X T k1 k2 ⟨hns, fun b o e => hk₁ _ _ (of_low e).1, Nat.le_of_eq (low_size _)⟩ ?_) (fun _ _ x => x) (fun _ _ x => x.elim)
  intro p hp
  rcases List.mem_cons.mp hp with rfl | hp
  · exact ⟨hk₁ _ _ t1, Nat.ne_of_lt l1, by show (lowH s.heap).get? T1 = none; unfold lowH; rw [Heap.hide_ne _ (by decide), Heap.hide_self]⟩
  · rcases List.mem_singleton.mp hp with rfl
    exact ⟨hk₁ _ _ t2, Nat.ne_of_lt l2, by show (lowH s.heap).get? T2 = none; unfold lowH; rw [Heap.hide_self]⟩

/-- the end of a def: what its frame and ledger say of the caller's state -/
theorem grown_of {s : Shared} {h' : Heap} {gs : Array GenState} {dr : Drawn} {tk : Nat} {os : OsState} {m : Str → Option Value} {news : List (Addr × Obj)} {p1 p2 : Array Value} (F : Fr (lowH s.heap) s.heap.objs.size h' m)
    (N : News (lowH s.heap) s.heap.objs.size h' news) (m1 : (T1, tabO p1) ∈ news) (m2 : (T2, tabO p2) ∈ news) (k1 : TriplesOk p1.toList) (k2 : TriplesOk p2.toList)
    (g : ∀ i : Nat, s.gens[i]? = some GenState.finished → gs[i]? = some GenState.finished) (b : AllBare s.gens → AllBare gs) (o : os = s.os) : Grown s ⟨h', gs, dr, tk, os⟩ :=
  ⟨fun c x h1 h2 e => F.keep c x (low_get h1 h2 e), fun _ => ⟨⟨p1, (N _ m1).1, k1⟩, ⟨p2, (N _ m2).1, k2⟩⟩, Nat.le_of_lt F.ns.lt, g, b, o⟩
theorem grown_plain {s : Shared} {h' : Heap} {dr : Drawn} {tk : Nat} {m : Str → Option Value} {news : List (Addr × Obj)} {p1 p2 : Array Value} (F : Fr (lowH s.heap) s.heap.objs.size h' m)
    (N : News (lowH s.heap) s.heap.objs.size h' news) (m1 : (T1, tabO p1) ∈ news) (m2 : (T2, tabO p2) ∈ news) (k1 : TriplesOk p1.toList) (k2 : TriplesOk p2.toList) : Grown s ⟨h', s.gens, dr, tk, s.os⟩ :=
  grown_of F N m1 m2 k1 k2 (fun _ e => e) id rfl

/-- at a call of a def with a contract: the caller's heap is as the def wants it -/
theorem ok_here {w : World} {h₀ h : Heap} {L : Addr} {m mg mb : Str → Option Value} {news : List (Addr × Obj)} {p1 p2 : Array Value} (X : (fragK w.params).In h₀) (T : TopRead viewP (looseW viewP looseV) mg mb h₀) (F : Fr h₀ L h m) (N : News h₀ L h news)
    (m1 : (T1, tabO p1) ∈ news) (m2 : (T2, tabO p2) ∈ news) (k1 : TriplesOk p1.toList) (k2 : TriplesOk p2.toList) : Ok w h := by
  have n1 := (N _ m1).2.2
  have n2 := (N _ m2).2.2
  have k : ∀ b o, h₀.get? b = some o → (lowH h).get? b = some o := fun b o e => low_get (fun q => by subst q; rw [n1] at e; cases e) (fun q => by subst q; rw [n2] at e; cases e) (F.keep b o e)
  exact ⟨X.keeps k, ⟨mg, mb, T.keeps k⟩, ⟨p1, (N _ m1).1, k1⟩, ⟨p2, (N _ m2).1, k2⟩⟩
/-- behind it -/
theorem fr_grown {h₀ : Heap} {s s' : Shared} {L : Addr} {m : Str → Option Value} {news : List (Addr × Obj)} {p1 p2 : Array Value} (F : Fr h₀ L s.heap m) (N : News h₀ L s.heap news) (m1 : (T1, tabO p1) ∈ news) (m2 : (T2, tabO p2) ∈ news) (g : Grown s s') : Fr h₀ L s'.heap m := by
  have n1 := (N _ m1).2
  have n2 := (N _ m2).2
  obtain ⟨o, es, ep, ho, r⟩ := F.ns
  exact ⟨⟨o, es, ep, g.heap _ _ (fun q => n1.1 q.symm) (fun q => n2.1 q.symm) ho, r⟩, fun b o e => g.heap b o (fun q => by subst q; rw [n1.2] at e; cases e) (fun q => by subst q; rw [n2.2] at e; cases e) (F.keep b o e), F.above⟩
theorem news_grown {h₀ : Heap} {s s' : Shared} {L : Addr} {news : List (Addr × Obj)} {p1 p2 : Array Value} (N : News h₀ L s.heap (news ++ tabsN p1 p2)) (hc : (news.all fun p => p.2.cls != .none) = true) (g : Grown s s') (x : TabsOk s'.heap) :
    ∃ q1 q2, TriplesOk q1.toList ∧ TriplesOk q2.toList ∧ News h₀ L s'.heap (news ++ tabsN q1 q2) := by
  obtain ⟨⟨q1, e1, k1⟩, ⟨q2, e2, k2⟩⟩ := x
  have a1 := N (T1, tabO p1) (List.mem_append_right _ (.head _))
  have a2 := N (T2, tabO p2) (List.mem_append_right _ (.tail _ (.head _)))
  refine ⟨q1, q2, k1, k2, fun p hp => ?_⟩
  rcases List.mem_append.mp hp with hp | hp
  · have c := List.all_eq_true.mp hc p hp
    have z := N p (List.mem_append_left _ hp)
    have f1 : p.1 ≠ T1 := fun q => by have := z.1; rw [q, a1.1] at this; rw [← Option.some.inj this] at c; exact absurd c (show ¬ ((Value.none != Value.none) = true) by decide)
    have f2 : p.1 ≠ T2 := fun q => by have := z.1; rw [q, a2.1] at this; rw [← Option.some.inj this] at c; exact absurd c (show ¬ ((Value.none != Value.none) = true) by decide)
    exact ⟨g.heap _ _ f1 f2 z.1, z.2⟩
  · rcases List.mem_cons.mp hp with rfl | hp
    · exact ⟨e1, a1.2⟩
    · rcases List.mem_singleton.mp hp with rfl
      exact ⟨e2, a2.2⟩
end Mine
end
section -- HeadP1
open PySem PySem.W PySem.Calls PyProof.Rows
set_option maxRecDepth 100000
set_option maxHeartbeats 0
namespace Mine

def pl3 (w : World) (os : OsState) : Option (Flow × SharedT × Code × Pos) := segRunT treeTable PG w 39 annV 1 82 (S_sb w os) (piecesOf sts3 envV cdV ⟨0, 0, 0, 0⟩ BV)
theorem pl3_self : pl3 = pl3 := rfl
name_quick ql3 for Mine.pl3 by Mine.pl3_self
def pr3 (w : World) (os : OsState) : Option (Flow × SharedT × Code × Pos) := some (.next, S_s3 w os, cdV, ⟨7, 0, 15, 14⟩)
theorem pr3_self : pr3 = pr3 := rfl
name_quick qr3 for Mine.pr3 by Mine.pr3_self
theorem pq3 (w : World) (os : OsState) : PySem.W.Fast.ql3 w os = PySem.W.Fast.qr3 w os := by kernel_rfl
theorem pe3 (w : World) (os : OsState) : segRun treeTable PG w 39 annV 1 82 (S_sb w os).abs (piecesOf sts3 envV cdV ⟨0, 0, 0, 0⟩ BV) = some (.next, (S_s3 w os).abs, cdV, ⟨7, 0, 15, 14⟩) :=
  segRun_of ((congrFun (congrFun PySem.W.Fast.ql3_eq w) os).trans ((pq3 w os).trans (congrFun (congrFun PySem.W.Fast.qr3_eq w) os).symm))

def pl8 (w : World) (os : OsState) : Option (Flow × SharedT × Code × Pos) := segRunT treeTable PG w 39 annV 1 135 (S_s3 w os) (piecesOf sts8 envV cdV ⟨7, 0, 15, 14⟩ BV)
theorem pl8_self : pl8 = pl8 := rfl
name_quick ql8 for Mine.pl8 by Mine.pl8_self
def pr8 (w : World) (os : OsState) : Option (Flow × SharedT × Code × Pos) := some (.next, S_s8 w os, cdV, ⟨27, 0, 40, 27⟩)
theorem pr8_self : pr8 = pr8 := rfl
name_quick qr8 for Mine.pr8 by Mine.pr8_self
theorem pq8 (w : World) (os : OsState) : PySem.W.Fast.ql8 w os = PySem.W.Fast.qr8 w os := by kernel_rfl
theorem pe8 (w : World) (os : OsState) : segRun treeTable PG w 39 annV 1 135 (S_s3 w os).abs (piecesOf sts8 envV cdV ⟨7, 0, 15, 14⟩ BV) = some (.next, (S_s8 w os).abs, cdV, ⟨27, 0, 40, 27⟩) :=
  segRun_of ((congrFun (congrFun PySem.W.Fast.ql8_eq w) os).trans ((pq8 w os).trans (congrFun (congrFun PySem.W.Fast.qr8_eq w) os).symm))

end Mine
end
section -- HeadP2
open PySem PySem.W PySem.Calls PyProof.Rows
set_option maxRecDepth 100000
set_option maxHeartbeats 0
namespace Mine

def pl11 (w : World) (os : OsState) : Option (Flow × SharedT × Code × Pos) := segRunT treeTable PG w 39 annV 1 245 (S_s8 w os) (piecesOf sts11 envV cdV ⟨27, 0, 40, 27⟩ BV)
theorem pl11_self : pl11 = pl11 := rfl
name_quick ql11 for Mine.pl11 by Mine.pl11_self
def pr11 (w : World) (os : OsState) : Option (Flow × SharedT × Code × Pos) := some (.next, S_s11 w os, cdV, ⟨62, 0, 63, 8⟩)
theorem pr11_self : pr11 = pr11 := rfl
name_quick qr11 for Mine.pr11 by Mine.pr11_self
theorem pq11 (w : World) (os : OsState) : PySem.W.Fast.ql11 w os = PySem.W.Fast.qr11 w os := by kernel_rfl
theorem pe11 (w : World) (os : OsState) : segRun treeTable PG w 39 annV 1 245 (S_s8 w os).abs (piecesOf sts11 envV cdV ⟨27, 0, 40, 27⟩ BV) = some (.next, (S_s11 w os).abs, cdV, ⟨62, 0, 63, 8⟩) :=
  segRun_of ((congrFun (congrFun PySem.W.Fast.ql11_eq w) os).trans ((pq11 w os).trans (congrFun (congrFun PySem.W.Fast.qr11_eq w) os).symm))

def pl12 (w : World) (os : OsState) : Option (Flow × SharedT × Code × Pos) := segRunT treeTable PG w 39 annV 1 301 (S_s11 w os) (piecesOf sts12 envV cdV ⟨62, 0, 63, 8⟩ BV)
theorem pl12_self : pl12 = pl12 := rfl
name_quick ql12 for Mine.pl12 by Mine.pl12_self
def pr12 (w : World) (os : OsState) : Option (Flow × SharedT × Code × Pos) := some (.next, S_s12 w os, cdV, ⟨64, 0, 68, 22⟩)
theorem pr12_self : pr12 = pr12 := rfl
name_quick qr12 for Mine.pr12 by Mine.pr12_self
theorem pq12 (w : World) (os : OsState) : PySem.W.Fast.ql12 w os = PySem.W.Fast.qr12 w os := by kernel_rfl
theorem pe12 (w : World) (os : OsState) : segRun treeTable PG w 39 annV 1 301 (S_s11 w os).abs (piecesOf sts12 envV cdV ⟨62, 0, 63, 8⟩ BV) = some (.next, (S_s12 w os).abs, cdV, ⟨64, 0, 68, 22⟩) :=
  segRun_of ((congrFun (congrFun PySem.W.Fast.ql12_eq w) os).trans ((pq12 w os).trans (congrFun (congrFun PySem.W.Fast.qr12_eq w) os).symm))

def pl13 (w : World) (os : OsState) : Option (Flow × SharedT × Code × Pos) := segRunT treeTable PG w 39 annV 1 301 (S_s12 w os) (piecesOf sts13 envV cdV ⟨64, 0, 68, 22⟩ BV)
theorem pl13_self : pl13 = pl13 := rfl
name_quick ql13 for Mine.pl13 by Mine.pl13_self
def pr13 (w : World) (os : OsState) : Option (Flow × SharedT × Code × Pos) := some (.next, S_s13 w os, cdV, ⟨69, 0, 73, 22⟩)
theorem pr13_self : pr13 = pr13 := rfl
name_quick qr13 for Mine.pr13 by Mine.pr13_self
theorem pq13 (w : World) (os : OsState) : PySem.W.Fast.ql13 w os = PySem.W.Fast.qr13 w os := by kernel_rfl
theorem pe13 (w : World) (os : OsState) : segRun treeTable PG w 39 annV 1 301 (S_s12 w os).abs (piecesOf sts13 envV cdV ⟨64, 0, 68, 22⟩ BV) = some (.next, (S_s13 w os).abs, cdV, ⟨69, 0, 73, 22⟩) :=
  segRun_of ((congrFun (congrFun PySem.W.Fast.ql13_eq w) os).trans ((pq13 w os).trans (congrFun (congrFun PySem.W.Fast.qr13_eq w) os).symm))

def pl14 (w : World) (os : OsState) : Option (Flow × SharedT × Code × Pos) := segRunT treeTable PG w 39 annV 1 301 (S_s13 w os) (piecesOf sts14 envV cdV ⟨69, 0, 73, 22⟩ BV)
theorem pl14_self : pl14 = pl14 := rfl
name_quick ql14 for Mine.pl14 by Mine.pl14_self
def pr14 (w : World) (os : OsState) : Option (Flow × SharedT × Code × Pos) := some (.next, S_s14 w os, cdV, ⟨74, 0, 78, 22⟩)
theorem pr14_self : pr14 = pr14 := rfl
name_quick qr14 for Mine.pr14 by Mine.pr14_self
theorem pq14 (w : World) (os : OsState) : PySem.W.Fast.ql14 w os = PySem.W.Fast.qr14 w os := by kernel_rfl
theorem pe14 (w : World) (os : OsState) : segRun treeTable PG w 39 annV 1 301 (S_s13 w os).abs (piecesOf sts14 envV cdV ⟨69, 0, 73, 22⟩ BV) = some (.next, (S_s14 w os).abs, cdV, ⟨74, 0, 78, 22⟩) :=
  segRun_of ((congrFun (congrFun PySem.W.Fast.ql14_eq w) os).trans ((pq14 w os).trans (congrFun (congrFun PySem.W.Fast.qr14_eq w) os).symm))

def pl16 (w : World) (os : OsState) : Option (Flow × SharedT × Code × Pos) := segRunT treeTable PG w 39 annV 1 543 (S_s14 w os) (piecesOf sts16 envV cdV ⟨74, 0, 78, 22⟩ BV)
theorem pl16_self : pl16 = pl16 := rfl
name_quick ql16 for Mine.pl16 by Mine.pl16_self
def pr16 (w : World) (os : OsState) : Option (Flow × SharedT × Code × Pos) := some (.next, S_s16 w os, cdV, ⟨89, 0, 93, 28⟩)
theorem pr16_self : pr16 = pr16 := rfl
name_quick qr16 for Mine.pr16 by Mine.pr16_self
theorem pq16 (w : World) (os : OsState) : PySem.W.Fast.ql16 w os = PySem.W.Fast.qr16 w os := by kernel_rfl
theorem pe16 (w : World) (os : OsState) : segRun treeTable PG w 39 annV 1 543 (S_s14 w os).abs (piecesOf sts16 envV cdV ⟨74, 0, 78, 22⟩ BV) = some (.next, (S_s16 w os).abs, cdV, ⟨89, 0, 93, 28⟩) :=
  segRun_of ((congrFun (congrFun PySem.W.Fast.ql16_eq w) os).trans ((pq16 w os).trans (congrFun (congrFun PySem.W.Fast.qr16_eq w) os).symm))

def pl17 (w : World) (os : OsState) : Option (Flow × SharedT × Code × Pos) := segRunT treeTable PG w 39 annV 1 281 (S_s16 w os) (piecesOf sts17 envV cdV ⟨89, 0, 93, 28⟩ BV)
theorem pl17_self : pl17 = pl17 := rfl
name_quick ql17 for Mine.pl17 by Mine.pl17_self
def pr17 (w : World) (os : OsState) : Option (Flow × SharedT × Code × Pos) := some (.next, S_s17 w os, cdV, ⟨94, 0, 103, 50⟩)
theorem pr17_self : pr17 = pr17 := rfl
name_quick qr17 for Mine.pr17 by Mine.pr17_self
theorem pq17 (w : World) (os : OsState) : PySem.W.Fast.ql17 w os = PySem.W.Fast.qr17 w os := by kernel_rfl
theorem pe17 (w : World) (os : OsState) : segRun treeTable PG w 39 annV 1 281 (S_s16 w os).abs (piecesOf sts17 envV cdV ⟨89, 0, 93, 28⟩ BV) = some (.next, (S_s17 w os).abs, cdV, ⟨94, 0, 103, 50⟩) :=
  segRun_of ((congrFun (congrFun PySem.W.Fast.ql17_eq w) os).trans ((pq17 w os).trans (congrFun (congrFun PySem.W.Fast.qr17_eq w) os).symm))

def pl18 (w : World) (os : OsState) : Option (Flow × SharedT × Code × Pos) := segRunT treeTable PG w 39 annV 1 10 (S_s17 w os) (piecesOf sts18 envV cdV ⟨94, 0, 103, 50⟩ BV)
theorem pl18_self : pl18 = pl18 := rfl
name_quick ql18 for Mine.pl18 by Mine.pl18_self
def pr18 (w : World) (os : OsState) : Option (Flow × SharedT × Code × Pos) := some (.next, S_s18 w os, cdV, ⟨104, 0, 104, 8⟩)
theorem pr18_self : pr18 = pr18 := rfl
name_quick qr18 for Mine.pr18 by Mine.pr18_self
theorem pq18 (w : World) (os : OsState) : PySem.W.Fast.ql18 w os = PySem.W.Fast.qr18 w os := by kernel_rfl
theorem pe18 (w : World) (os : OsState) : segRun treeTable PG w 39 annV 1 10 (S_s17 w os).abs (piecesOf sts18 envV cdV ⟨94, 0, 103, 50⟩ BV) = some (.next, (S_s18 w os).abs, cdV, ⟨104, 0, 104, 8⟩) :=
  segRun_of ((congrFun (congrFun PySem.W.Fast.ql18_eq w) os).trans ((pq18 w os).trans (congrFun (congrFun PySem.W.Fast.qr18_eq w) os).symm))

def pl28 (w : World) (os : OsState) : Option (Flow × SharedT × Code × Pos) := segRunT treeTable PG w 39 annV 1 524 (S_s19 w os) (piecesOf sts28 envV cdV ⟨105, 0, 105, 9⟩ BV)
theorem pl28_self : pl28 = pl28 := rfl
name_quick ql28 for Mine.pl28 by Mine.pl28_self
def pr28 (w : World) (os : OsState) : Option (Flow × SharedT × Code × Pos) := some (.next, S_s28 w os, cdV, ⟨144, 0, 144, 8⟩)
theorem pr28_self : pr28 = pr28 := rfl
name_quick qr28 for Mine.pr28 by Mine.pr28_self
theorem pq28 (w : World) (os : OsState) : PySem.W.Fast.ql28 w os = PySem.W.Fast.qr28 w os := by kernel_rfl
theorem pe28 (w : World) (os : OsState) : segRun treeTable PG w 39 annV 1 524 (S_s19 w os).abs (piecesOf sts28 envV cdV ⟨105, 0, 105, 9⟩ BV) = some (.next, (S_s28 w os).abs, cdV, ⟨144, 0, 144, 8⟩) :=
  segRun_of ((congrFun (congrFun PySem.W.Fast.ql28_eq w) os).trans ((pq28 w os).trans (congrFun (congrFun PySem.W.Fast.qr28_eq w) os).symm))

def pl29 (w : World) (os : OsState) : Option (Flow × SharedT × Code × Pos) := segRunT treeTable PG w 39 annV 1 654 (S_s28 w os) (piecesOf sts29 envV cdV ⟨144, 0, 144, 8⟩ BV)
theorem pl29_self : pl29 = pl29 := rfl
name_quick ql29 for Mine.pl29 by Mine.pl29_self
def pr29 (w : World) (os : OsState) : Option (Flow × SharedT × Code × Pos) := some (.next, S_s29 w os, cdV, ⟨145, 0, 179, 84⟩)
theorem pr29_self : pr29 = pr29 := rfl
name_quick qr29 for Mine.pr29 by Mine.pr29_self
theorem pq29 (w : World) (os : OsState) : PySem.W.Fast.ql29 w os = PySem.W.Fast.qr29 w os := by kernel_rfl
theorem pe29 (w : World) (os : OsState) : segRun treeTable PG w 39 annV 1 654 (S_s28 w os).abs (piecesOf sts29 envV cdV ⟨144, 0, 144, 8⟩ BV) = some (.next, (S_s29 w os).abs, cdV, ⟨145, 0, 179, 84⟩) :=
  segRun_of ((congrFun (congrFun PySem.W.Fast.ql29_eq w) os).trans ((pq29 w os).trans (congrFun (congrFun PySem.W.Fast.qr29_eq w) os).symm))

def pl32 (w : World) (os : OsState) : Option (Flow × SharedT × Code × Pos) := segRunT treeTable PG w 39 annV 1 447 (S_s29 w os) (piecesOf sts32 envV cdV ⟨145, 0, 179, 84⟩ BV)
theorem pl32_self : pl32 = pl32 := rfl
name_quick ql32 for Mine.pl32 by Mine.pl32_self
def pr32 (w : World) (os : OsState) : Option (Flow × SharedT × Code × Pos) := some (.next, S_s32 w os, cdV, ⟨182, 0, 200, 106⟩)
theorem pr32_self : pr32 = pr32 := rfl
name_quick qr32 for Mine.pr32 by Mine.pr32_self
theorem pq32 (w : World) (os : OsState) : PySem.W.Fast.ql32 w os = PySem.W.Fast.qr32 w os := by kernel_rfl
theorem pe32 (w : World) (os : OsState) : segRun treeTable PG w 39 annV 1 447 (S_s29 w os).abs (piecesOf sts32 envV cdV ⟨145, 0, 179, 84⟩ BV) = some (.next, (S_s32 w os).abs, cdV, ⟨182, 0, 200, 106⟩) :=
  segRun_of ((congrFun (congrFun PySem.W.Fast.ql32_eq w) os).trans ((pq32 w os).trans (congrFun (congrFun PySem.W.Fast.qr32_eq w) os).symm))

def pl37 (w : World) (os : OsState) : Option (Flow × SharedT × Code × Pos) := segRunT treeTable PG w 39 annV 1 442 (S_s32 w os) (piecesOf sts37 envV cdV ⟨182, 0, 200, 106⟩ BV)
theorem pl37_self : pl37 = pl37 := rfl
name_quick ql37 for Mine.pl37 by Mine.pl37_self
def pr37 (w : World) (os : OsState) : Option (Flow × SharedT × Code × Pos) := some (.next, S_s37 w os, cdV, ⟨207, 0, 245, 27⟩)
theorem pr37_self : pr37 = pr37 := rfl
name_quick qr37 for Mine.pr37 by Mine.pr37_self
theorem pq37 (w : World) (os : OsState) : PySem.W.Fast.ql37 w os = PySem.W.Fast.qr37 w os := by kernel_rfl
theorem pe37 (w : World) (os : OsState) : segRun treeTable PG w 39 annV 1 442 (S_s32 w os).abs (piecesOf sts37 envV cdV ⟨182, 0, 200, 106⟩ BV) = some (.next, (S_s37 w os).abs, cdV, ⟨207, 0, 245, 27⟩) :=
  segRun_of ((congrFun (congrFun PySem.W.Fast.ql37_eq w) os).trans ((pq37 w os).trans (congrFun (congrFun PySem.W.Fast.qr37_eq w) os).symm))

def pl44 (w : World) (os : OsState) : Option (Flow × SharedT × Code × Pos) := segRunT treeTable PG w 39 annV 1 174 (S_s37 w os) (piecesOf sts44 envV cdV ⟨207, 0, 245, 27⟩ BV)
theorem pl44_self : pl44 = pl44 := rfl
name_quick ql44 for Mine.pl44 by Mine.pl44_self
def pr44 (w : World) (os : OsState) : Option (Flow × SharedT × Code × Pos) := some (.next, S_s44 w os, cdV, ⟨291, 0, 291, 12⟩)
theorem pr44_self : pr44 = pr44 := rfl
name_quick qr44 for Mine.pr44 by Mine.pr44_self
theorem pq44 (w : World) (os : OsState) : PySem.W.Fast.ql44 w os = PySem.W.Fast.qr44 w os := by kernel_rfl
theorem pe44 (w : World) (os : OsState) : segRun treeTable PG w 39 annV 1 174 (S_s37 w os).abs (piecesOf sts44 envV cdV ⟨207, 0, 245, 27⟩ BV) = some (.next, (S_s44 w os).abs, cdV, ⟨291, 0, 291, 12⟩) :=
  segRun_of ((congrFun (congrFun PySem.W.Fast.ql44_eq w) os).trans ((pq44 w os).trans (congrFun (congrFun PySem.W.Fast.qr44_eq w) os).symm))

def pl52 (w : World) (os : OsState) : Option (Flow × SharedT × Code × Pos) := segRunT treeTable PG w 39 annV 1 241 (S_s44 w os) (piecesOf sts52 envV cdV ⟨291, 0, 291, 12⟩ BV)
theorem pl52_self : pl52 = pl52 := rfl
name_quick ql52 for Mine.pl52 by Mine.pl52_self
def pr52 (w : World) (os : OsState) : Option (Flow × SharedT × Code × Pos) := some (.next, S_s52 w os, cdV, ⟨373, 0, 399, 73⟩)
theorem pr52_self : pr52 = pr52 := rfl
name_quick qr52 for Mine.pr52 by Mine.pr52_self
theorem pq52 (w : World) (os : OsState) : PySem.W.Fast.ql52 w os = PySem.W.Fast.qr52 w os := by kernel_rfl
theorem pe52 (w : World) (os : OsState) : segRun treeTable PG w 39 annV 1 241 (S_s44 w os).abs (piecesOf sts52 envV cdV ⟨291, 0, 291, 12⟩ BV) = some (.next, (S_s52 w os).abs, cdV, ⟨373, 0, 399, 73⟩) :=
  segRun_of ((congrFun (congrFun PySem.W.Fast.ql52_eq w) os).trans ((pq52 w os).trans (congrFun (congrFun PySem.W.Fast.qr52_eq w) os).symm))

end Mine
end
section -- HeadP19
open PySem PySem.W PySem.Calls PyProof.Rows
set_option maxRecDepth 100000
set_option maxHeartbeats 0
namespace Mine

/-- a longer run ends as the shorter does -/
theorem segRun_le {tb : String → Option Builtin} {p : Program} {w : World} {n₀ : Nat} {ann : Option Value} {b : Nat} (d : Nat) : ∀ {n : Nat} {s : Shared} {t : Thread} {r : Flow × Shared × Code × Pos},
    segRun tb p w n₀ ann b n s t = some r → segRun tb p w n₀ ann b (n + d) s t = some r
  | 0, _, _, _, h => by cases h
  | n + 1, s, t, r, h => by
    rw [show n + 1 + d = (n + d) + 1 by omega]
    unfold segRun at h ⊢
    cases he : endAt b t with
    | some x => rw [he] at h; exact h
    | none =>
      rw [he] at h
      cases hk : stepOk n₀ ann t with
      | false => rw [hk] at h; cases h
      | true =>
        rw [hk] at h
        cases hs : step (denote tb) p w s t with
        | halt _ _ => rw [hs] at h; cases h
        | go s' t' => rw [hs] at h; exact segRun_le d h
def contT (f : SharedT → Thread → Option (Flow × SharedT × Code × Pos)) (x : Option (SharedT × Thread)) : Option (Flow × SharedT × Code × Pos) :=
  match x with
  | some (s, t) => f s t
  | none => none
theorem glueT {tb : String → Option Builtin} {p : Program} {w : World} {n₀ : Nat} {ann : Option Value} {b k n m : Nat} {s s' : SharedT} {t : Thread} {f : Flow} {c : Code} {q : Pos} {x : Option (SharedT × Thread)} (hm : Nat.ble (k + n) m = true)
    (h : segGoT tb p w n₀ ann b k s t = x) (h2 : contT (segRunT tb p w n₀ ann b n) x = some (f, s', c, q)) : segRun tb p w n₀ ann b m s.abs t = some (f, s'.abs, c, q) := by
  cases x with
  | none => cases h2
  | some y =>
    obtain ⟨s1, t1⟩ := y
    have e := segRun_le (m - (k + n)) (seg_go (segGo_of h) (segRun_of h2))
    rw [show k + n + (m - (k + n)) = m by have := Nat.le_of_ble_eq_true hm; omega] at e
    exact e
/-- the first steps of statement 19: both rows of the world are read here -/
def pg19A (w : World) (os : OsState) : Option (SharedT × Thread) := segGoT treeTable PG w 39 annV 1 120 (S_s18 w os) (piecesOf sts19 envV cdV ⟨104, 0, 104, 8⟩ BV)
theorem pg19A_self : pg19A = pg19A := rfl
name_quick qg19A for Mine.pg19A by Mine.pg19A_self
def pg19B (w : World) (os : OsState) : Option (SharedT × Thread) := segGoT treeTable PG w 39 annV 1 110 (S_s18 w os) (piecesOf sts19 envV cdV ⟨104, 0, 104, 8⟩ BV)
theorem pg19B_self : pg19B = pg19B := rfl
name_quick qg19B for Mine.pg19B by Mine.pg19B_self
def w19 (w : World) : World := (w.withFollow "special-get-raises" false).withFollow "comprehension-iter-twice" false
theorem pa19_ff (w : World) : (fun os => PySem.W.Fast.qg19A ((w.withFollow "special-get-raises" false).withFollow "comprehension-iter-twice" false) os) = (fun os => PySem.W.Fast.qg19A (w19 ((w.withFollow "special-get-raises" false).withFollow "comprehension-iter-twice" false)) os) := by kernel_rfl
theorem pa19_ft (w : World) : (fun os => PySem.W.Fast.qg19A ((w.withFollow "special-get-raises" true).withFollow "comprehension-iter-twice" false) os) = (fun os => PySem.W.Fast.qg19A (w19 ((w.withFollow "special-get-raises" true).withFollow "comprehension-iter-twice" false)) os) := by kernel_rfl
theorem pa19_tf (w : World) : (fun os => PySem.W.Fast.qg19B ((w.withFollow "special-get-raises" false).withFollow "comprehension-iter-twice" true) os) = (fun os => PySem.W.Fast.qg19A (w19 ((w.withFollow "special-get-raises" false).withFollow "comprehension-iter-twice" true)) os) := by kernel_rfl
theorem pa19_tt (w : World) : (fun os => PySem.W.Fast.qg19B ((w.withFollow "special-get-raises" true).withFollow "comprehension-iter-twice" true) os) = (fun os => PySem.W.Fast.qg19A (w19 ((w.withFollow "special-get-raises" true).withFollow "comprehension-iter-twice" true)) os) := by kernel_rfl
/-- the rest, from the state behind them -/
def pl19 (w : World) (os : OsState) : Option (Flow × SharedT × Code × Pos) := contT (segRunT treeTable PG w 39 annV 1 12580) (pg19A (w19 w) os)
theorem pl19_self : pl19 = pl19 := rfl
name_quick ql19 for Mine.pl19 by Mine.pl19_self
def pr19 (w : World) (os : OsState) : Option (Flow × SharedT × Code × Pos) := some (.next, S_s19 w os, cdV, ⟨105, 0, 105, 9⟩)
theorem pr19_self : pr19 = pr19 := rfl
name_quick qr19 for Mine.pr19 by Mine.pr19_self
theorem pq19 (w : World) (os : OsState) : PySem.W.Fast.ql19 w os = PySem.W.Fast.qr19 w os := by kernel_rfl
theorem pb19 (w : World) (os : OsState) : contT (segRunT treeTable PG w 39 annV 1 12580) (pg19A (w19 w) os) = some (.next, S_s19 w os, cdV, ⟨105, 0, 105, 9⟩) :=
  ((congrFun (congrFun PySem.W.Fast.ql19_eq w) os).trans ((pq19 w os).trans (congrFun (congrFun PySem.W.Fast.qr19_eq w) os).symm) : pl19 w os = pr19 w os)
def P19 (w : World) : Prop := (fun os => pg19A w os) = (fun os => pg19A (w19 w) os) ∨ (fun os => pg19B w os) = (fun os => pg19A (w19 w) os)
theorem pcA (w : World) (h : (fun os => PySem.W.Fast.qg19A w os) = (fun os => PySem.W.Fast.qg19A (w19 w) os)) : P19 w :=
  .inl (funext fun os => (congrFun (congrFun PySem.W.Fast.qg19A_eq w) os).trans ((congrFun h os).trans (congrFun (congrFun PySem.W.Fast.qg19A_eq (w19 w)) os).symm))
theorem pcB (w : World) (h : (fun os => PySem.W.Fast.qg19B w os) = (fun os => PySem.W.Fast.qg19A (w19 w) os)) : P19 w :=
  .inr (funext fun os => (congrFun (congrFun PySem.W.Fast.qg19B_eq w) os).trans ((congrFun h os).trans (congrFun (congrFun PySem.W.Fast.qg19A_eq (w19 w)) os).symm))
theorem pc19 (w : World) : P19 w :=
  byRow2 (P := P19) "comprehension-iter-twice"
    (byRow2 (P := fun w => P19 (w.withFollow "comprehension-iter-twice" false)) "special-get-raises" (fun w => pcA _ (pa19_ff w)) (fun w => pcA _ (pa19_ft w)))
    (byRow2 (P := fun w => P19 (w.withFollow "comprehension-iter-twice" true)) "special-get-raises" (fun w => pcB _ (pa19_tf w)) (fun w => pcB _ (pa19_tt w))) w
theorem pe19 (w : World) (os : OsState) : segRun treeTable PG w 39 annV 1 12700 (S_s18 w os).abs (piecesOf sts19 envV cdV ⟨104, 0, 104, 8⟩ BV) = some (.next, (S_s19 w os).abs, cdV, ⟨105, 0, 105, 9⟩) :=
  (pc19 w).elim (fun h => glueT (by decide) (congrFun h os) (pb19 w os)) (fun h => glueT (by decide) (congrFun h os) (pb19 w os))

end Mine
end
section -- HeadL
open PySem PySem.W PySem.Calls PyProof.Rows
set_option maxRecDepth 100000
set_option maxHeartbeats 0
namespace Mine
/- the opening -/
def opl (w : World) : Option (Heap × Array GenState × Drawn × Nat) := (fenceT PG w 20000).map fun s => (s.heap, s.gens, s.drawn, s.toks)
theorem opl_self : opl = opl := rfl
name_quick opql for Mine.opl by Mine.opl_self
def opr (w : World) : Option (Heap × Array GenState × Drawn × Nat) := some (H0 w.params, #[], drawn0, 313)
theorem opr_self : opr = opr := rfl
name_quick opqr for Mine.opr by Mine.opr_self
theorem opq (w : World) : PySem.W.Fast.opql w = PySem.W.Fast.opqr w := by kernel_rfl
theorem op_ok (w : World) : (fencedOpening treeTable PG w 20000).map (fun s => (s.heap, s.gens, s.drawn, s.toks)) = some (H0 w.params, #[], drawn0, 313) := by
  have h : opl w = opr w := (congrFun PySem.W.Fast.opql_eq w).trans ((opq w).trans (congrFun PySem.W.Fast.opqr_eq w).symm)
  unfold opl opr at h
  obtain ⟨s, h1, h2⟩ := Option.map_eq_some_iff.mp h
  have e : fencedOpening treeTable PG w 20000 = some s := by
    unfold fenceT at h1
    obtain ⟨sE, h3, h4⟩ := Option.bind_eq_some_iff.mp h1
    unfold fencedOpening
    rw [← startT_abs, impRunT_of h3]; exact h4
  rw [e]
  exact congrArg some h2
end Mine
end
section -- HeadM
open PySem PySem.W PySem.Calls PyProof.Rows
set_option maxRecDepth 100000
set_option maxHeartbeats 0
namespace Mine
theorem H0_abs (P : Params) : absHeap (T_s0 P) 39 life0 = H0 P := by kernel_rfl
theorem H1_abs (P : Params) : absHeap (T_s52 P) 532 life0 = H1 P := by kernel_rfl
theorem size_ok (w : World) : ((H0 w.params).isNs mainGlobals && (#[] : Array GenState).size == 0, (H0 w.params).objs.size, (H0 w.params).nsMap mainGlobals "__annotations__") = (true, 39, annV) := by kernel_rfl
theorem pre_ok (w : World) (os : OsState) : topGo treeTable PG w 39 annV 12 (S_s0 w os).abs (topStub PG) = some ((S_sb w os).abs, ⟨denote treeTable cdV, cdV, qV, BV⟩) := by kernel_rfl
theorem block_ok (w : World) (os : OsState) : segRun treeTable PG w 39 annV 1 1 (S_sb w os).abs (blockOf (behindTheImports PG) envV cdV qV BV) = some (.next, (S_sb w os).abs, cdV, qV) := by kernel_rfl
theorem fin_ok (w : World) (os : OsState) : topRun treeTable PG w 39 annV 2 (S_s52 w os).abs ⟨doneF .next, cdV, ⟨373, 0, 399, 73⟩, BV⟩ = some (S_s52 w os).abs := by kernel_rfl
theorem body_is : behindTheImports PG = sts3 ++ (sts8 ++ (sts11 ++ (sts12 ++ (sts13 ++ (sts14 ++ (sts16 ++ (sts17 ++ (sts18 ++ (sts19 ++ (sts28 ++ (sts29 ++ (sts32 ++ (sts37 ++ (sts44 ++ (sts52 ++ []))))))))))))))) := by kernel_rfl
end Mine
end
section -- HeadN
open PySem PySem.W PySem.Calls PyProof.Rows
set_option maxRecDepth 100000
set_option maxHeartbeats 0
namespace Mine
def endS (w : World) (os : OsState) : Shared := ⟨H1 w.params, #[.finished], drawn0, 2065, os⟩
def XtV : Shared → Bool := fun _ => true
def lk1 (w : World) (os : OsState) : Bool := staticsOk (importedModules PG.main.body) (H0 w.params) (H1 w.params) && namesBound PG (H1 w.params) && gensDone (endS w os) && laidKept (H0 w.params) (H1 w.params)
theorem lk1_self : lk1 = lk1 := rfl
name_quick lq1 for Mine.lk1 by Mine.lk1_self
theorem lk1_q (w : World) (os : OsState) : PySem.W.Fast.lq1 w os = true := by kernel_rfl
theorem lk1_ok (w : World) (os : OsState) : lk1 w os = true := (congrFun (congrFun PySem.W.Fast.lq1_eq w) os).trans (lk1_q w os)
def lk2 (w : World) (os : OsState) := openSeen viewP looseV (importedModules PG.main.body) XtV false (endS w os)
theorem lk2_self : lk2 = lk2 := rfl
name_quick lq2 for Mine.lk2 by Mine.lk2_self
def lr2 (_ : World) (_ : OsState) := openGood viewP looseV
theorem lr2_self : lr2 = lr2 := rfl
name_quick lqr2 for Mine.lr2 by Mine.lr2_self
theorem lk2_q (w : World) (os : OsState) : PySem.W.Fast.lq2 w os = PySem.W.Fast.lqr2 w os := by kernel_rfl
theorem lk2_ok (w : World) (os : OsState) : lk2 w os = lr2 w os := (congrFun (congrFun PySem.W.Fast.lq2_eq w) os).trans ((lk2_q w os).trans (congrFun (congrFun PySem.W.Fast.lqr2_eq w) os).symm)
theorem lk3_ok (w : World) (os : OsState) : asV.map (endS w os).heap.get? = (fragV w.params).map fun p => some p.2 := by kernel_rfl
end Mine
end
section -- HeadR
open PySem PySem.W PySem.Calls PyProof.Rows
set_option maxRecDepth 100000
set_option maxHeartbeats 400000
namespace Mine
theorem run_abs (w : World) (os : OsState) : ∃ M, Nat.ble M 20000 = true ∧ topRun treeTable PG w 39 annV M (S_s0 w os).abs (topStub PG) = some (S_s52 w os).abs := by
  have k := piece_app (pe3 w os) (piece_app (pe8 w os) (piece_app (pe11 w os) (piece_app (pe12 w os) (piece_app (pe13 w os) (piece_app (pe14 w os) (piece_app (pe16 w os) (piece_app (pe17 w os)
      (piece_app (pe18 w os) (piece_app (pe19 w os) (piece_app (pe28 w os) (piece_app (pe29 w os) (piece_app (pe32 w os) (piece_app (pe37 w os) (piece_app (pe44 w os) (piece_app (pe52 w os) (piece_nil (fin_ok w os)))))))))))))))))
  rw [← body_is] at k
  exact ⟨_, by decide, go_top (pre_ok w os) (piece_block (block_ok w os) k)⟩
theorem run_ok : ∃ M, Nat.ble M 20000 = true ∧ ∀ (w : World) (os : OsState), topRun treeTable PG w 39 annV M ⟨H0 w.params, #[], drawn0, 313, os⟩ (topStub PG) = some ⟨H1 w.params, #[.finished], drawn0, 2065, os⟩ := by
  refine ⟨20000, by decide, fun w os => ?_⟩
  obtain ⟨M, hM, h⟩ := run_abs w os
  have r := topRun_mono (20000 - M) _ _ _ _ h
  rw [show M + (20000 - M) = 20000 by have := Nat.le_of_ble_eq_true hM; omega] at r
  have e0 : (S_s0 w os).abs = ⟨H0 w.params, #[], drawn0, 313, os⟩ := by
    show Shared.mk (absHeap (T_s0 w.params) 39 life0) _ _ _ _ = _
    rw [H0_abs]; rfl
  have e1 : (S_s52 w os).abs = ⟨H1 w.params, #[.finished], drawn0, 2065, os⟩ := by
    show Shared.mk (absHeap (T_s52 w.params) 532 life0) _ _ _ _ = _
    rw [H1_abs]; rfl
  rw [e0, e1] at r
  exact r
theorem frag_as (P : Params) : asV = (fragV P).map (·.1) := by kernel_rfl
theorem leftV : LeftO PG viewP looseV XtV (kHook fragV asV frag_as).obs (kHook fragV asV frag_as).val 20000 false := by
  obtain ⟨M, hM, run⟩ := run_ok
  refine LeftO.of_pieces (H₀ := H0) (H₁ := H1) (gs₀ := #[]) (gs₁ := #[.finished]) (d₀ := drawn0) (d₁ := drawn0) (k₀ := 313) (k₁ := 2065) (m₀ := 39) (ann := annV) (M := M) op_ok size_ok run hM ?_
  intro w
  funext os
  refine Prod.ext (lk1_ok w os) (Prod.ext (lk2_ok w os) (lk3_ok w os))
end Mine
end
section -- HeadT
open PySem PySem.W PySem.Calls PyProof.Rows
set_option maxRecDepth 100000
namespace Mine
/-- the generators that stood finished stand so still -/
def GensKept (s s' : Shared) : Prop := ∀ i : Nat, s.gens[i]? = some GenState.finished → s'.gens[i]? = some GenState.finished
theorem gensKept_forget {s s' s'' : Shared} (hf : s'.gens.map GenState.forget = s''.gens.map GenState.forget) (k : GensKept s s'') : GensKept s s' := by
  intro i hi
  have h1 := k i hi
  have h2 : (s'.gens.map GenState.forget)[i]? = (s''.gens.map GenState.forget)[i]? := by rw [hf]
  rw [Array.getElem?_map, Array.getElem?_map, h1] at h2
  cases h3 : s'.gens[i]? with
  | none => rw [h3] at h2; cases h2
  | some y =>
    rw [h3] at h2
    cases y with
    | finished => rfl
    | _ => cases h2

theorem callFrom_kept {c : ClaimW} {tree : List Value → Sem Fin} {w : World} {s : Shared} {free : Addr → Prop} {gens : Prop} {kept : Heap → Prop} (hz : s.asleep) (hfin : ∀ g ∈ s.gens, g = GenState.finished)
    (hspec : ∀ args, c.pre args = true → WData.layableAll args = true →
      ∀ ord : List DictEntry → List DictEntry, (∀ l, (ord l).Perm l) →
      ∃ vs s₁, layAllW c.records (classAt s.heap) w.params ord args s = some (vs, s₁) ∧
        wpAny (model c.prog w) callerA (tree vs) (fun fin s' => ∃ f, fin = .done f ∧ ((c.Ends s args vs s₁ (.ok f) s' ∧ s'.os = s.os ∧ kept s'.heap ∧ GensKept s s') ∧ AllBare s'.gens))
          (fun e s' => (c.Ends s args vs s₁ (.error e) s' ∧ s'.os = s.os ∧ kept s'.heap ∧ GensKept s s') ∧ AllBare s'.gens) s₁) :
    c.CallFrom (fun vs => ⟨tree vs, .builtin "claim.caller" {}, default, []⟩) w free gens kept s := by
  intro args hpre hlay ord hord
  obtain ⟨vs, s₁, hlaid, hcode⟩ := hspec args hpre hlay ord hord
  have hal := layAllW_rest _ _ _ hlaid
  obtain ⟨k, r, s', s'', hrun, hsched, hfo, hcase, hos, hkp, hgk⟩ := thread_ends_bothG (prog := c.prog) (w := w) (t := tree vs) (s := s₁)
    (R := fun r s' => c.Ends s args vs s₁ r s' ∧ s'.os = s.os ∧ kept s'.heap ∧ GensKept s s')
    (Shared.asleep_of_life hal.2.2.2 hz)
    (wpAny_mono hcode (by
      rintro fin s' ⟨f, e, h1, h2⟩
      exact ⟨f, e, h1, leftWithCleanup_false_of_bare h2⟩) (by
      rintro e s' ⟨h1, h2⟩
      exact ⟨h1, leftWithCleanup_false_of_bare h2⟩))
  obtain ⟨eh, _, _, eo, eg⟩ := Shared.forget_eq hfo
  have hcase := hcase.congr eh
  have hkp : kept s'.heap := by first | exact eh ▸ hkp | (rw [eh] at hkp; exact hkp) | (rw [← eh] at hkp; exact hkp)
  have hgk : GensKept s s' := gensKept_forget eg hgk
  rw [← eo] at hos
  have hlife : s'.heap.life = s.heap.life := (runN_life _ _ _ hrun).trans hal.2.2.2
  refine ⟨vs, s₁, hlaid, k, _, s', hsched, ?_, (fun _ i x hx => ?_), hkp, by rw [hlife], Shared.rest_eq hos⟩
  · rcases hcase with ⟨v, rfl, d1, d2, d3, d4, d5⟩ | ⟨e, ob, cls, rfl, d1, d2, d3, d4, d5⟩
    · exact .inl ⟨v, rfl, d1, d2, d3, fun b o y _ => d4 b o y, d5⟩
    · exact .inr ⟨e, ob, cls, rfl, d1, d2, d3, d4, fun b o y _ => d5 b o y⟩
  · obtain rfl : x = GenState.finished := hfin x (Array.mem_of_getElem? hx)
    exact hgk i hx

/-- GoodWG's parts, without the gens of s₁ -/
theorem good_laid {c : ClaimW} {s₀ s₁ s' : Shared} {args : List WData} {vs : List Value} {as : List Addr} {r : Result} (hsame : c.same = none) (hwi : c.within = []) (hi : ∀ a b, c.ident a b = true)
    (hrd : ReadsAllW c.records (classAt s₀.heap) s₁.heap vs args as) (hold : ∀ a ∈ as, ∃ o, s₁.heap.get? a = some o) (hos₁ : s₁.os = s₀.os)
    (g : GoodWG c (classAt s₀.heap) (ExcName.means s₀.heap) args s₁ r s') : c.Ends s₀ args vs s₁ r s' ∧ s'.os = s₀.os ∧ AllBare s'.gens := by
  obtain ⟨hcase, hK, hos, hg'⟩ := g
  refine ⟨?_, hos.trans hos₁, hg'⟩
  rcases hcase with ⟨v, d, bs, rfl, hnr, hrd', hpost, hun⟩ | ⟨e, ob, cls, rfl, he, hcls, hpr, hnew⟩
  · exact .inl ⟨v, rfl, hnr, ⟨d, args, bs, as, hrd', hrd.keepsK fun b o e hc => hK.get_of_cls e hc, hpost, fun hu => ⟨(hun hu).1, (hun hu).2, fun a ha hb' => by
      obtain ⟨o, ho⟩ := hold a hb'
      rw [(hun hu).2 a ha] at ho; cases ho⟩, fun _ _ => hi _ _⟩, (fun i hi' => by rw [hsame] at hi'; cases hi'), (fun b o hb' _ _ => hK.old b o hb'), fun i hi' => by rw [hwi] at hi'; cases hi'⟩
  · exact .inr ⟨e, ob, cls, rfl, he, hcls, hpr, hnew, fun b o hb' => hK.old b o hb'⟩

theorem open_anyY {r : RowW} {run : Value → List Value → Sem Value} {tree : List Value → Sem Fin} {q : Program} {loose defs kps : List Str} {writes : Bool} {Xt : Shared → Bool} {XP : (Str → Option Value) → Heap → Prop} {α : Type} {Yf : Shared → α} {Ya : World → α} {YP : World → Heap → Prop} {N : Nat}
    (left : LeftO r.prog q loose Xt Yf Ya N false) (hY : ∀ w s, Yf s = Ya w → YP w s.heap) (hYk : ∀ w h h', YP w h → (∀ b o, h.get? b = some o → h'.get? b = some o) → YP w h') (hX : ∀ s, Xt s = true → XP (s.heap.nsMap mainGlobals) s.heap) (hXk : ∀ mg h h', XP mg h → (∀ b o, h.get? b = some o → h'.get? b = some o) → XP mg h')
    (hRf : ∀ s, Xt s = true → RecFacts r.records s.heap) (hwr : (!writes || r.records.isEmpty) = true) (ok : (chainsOk q && opensWell r.prog && (frees r && r.within.isEmpty)) = true) (hb : r.prog.bare) (hw : r.promised)
    (ht : ∀ vs (w : World) (s : Shared) mg f (Q : Fin → Shared → Prop) (E : Value → Shared → Prop), s.heap.Ns mainGlobals mg → mg r.name = some f → wpAny (model r.prog w) callerA (run f vs) (fun v s' => Q (.done (.ret v)) s') E s → wpAny (model r.prog w) callerA (tree vs) Q E s)
    (pin : ∀ w s, s.heap.isNs mainGlobals = true → Ground q loose [] XP w s (s.heap.nsMap mainGlobals) (s.heap.nsMap builtinsNs) s.heap → ∀ n ∈ defs, isTheDefsW r.prog s.heap n)
    (call : ∀ (w : World) (s₀ s₁ : Shared) (mg mb : Str → Option Value), Ground q loose r.records XP w s₀ mg mb s₁.heap → YP w s₁.heap → ∀ (args : List WData) (vs : List Value) (as : List Addr),
      r.claim.pre args = true → WData.layableAll args = true → (∀ g ∈ s₁.gens, g = GenState.finished) → ReadsAllW r.records (classAt s₀.heap) s₁.heap vs args as → WellAll w.params s₁.heap vs args → (∀ a ∈ as, (a == sysModules) = false) → ∃ f, mg r.name = some f ∧
        wpAny (model r.prog w) callerA (run f vs) (fun v s' => GoodWG r.claim (classAt s₀.heap) (ExcName.means s₀.heap) args s₁ (.ok (.ret v)) s' ∧ GensKept s₁ s')
          (fun _ _ => False) s₁) : r.claim.HoldsOpenBy (fun vs => ⟨tree vs, .builtin "claim.caller" {}, default, []⟩) defs kps writes := by
  obtain ⟨ok, k5⟩ := Bool.and_eq_true_iff.mp ok
  obtain ⟨hch, o1⟩ := Bool.and_eq_true_iff.mp ok
  obtain ⟨k5, k6⟩ := Bool.and_eq_true_iff.mp k5
  obtain ⟨hsame, hu, ha, hap, hm⟩ := frees_parts k5
  refine ⟨⟨hb, o1, by show r.makers.map _ = []; rw [hm]; rfl⟩, hw.witness, fun w => ⟨(left.behind hX hch w).1, fun s' hs' => ?_⟩⟩
  obtain ⟨s₀, hf, hg0, s, hT, hz, hgens, hg, G00, y⟩ := (left.behind (XP := fun mg h => XP mg h ∧ RecFacts r.records h) (fun s hs => ⟨hX s hs, hRf s hs⟩) hch w).2 s' hs'
  have G0 : Ground q loose [] XP w s (s.heap.nsMap mainGlobals) (s.heap.nsMap builtinsNs) s.heap := ⟨G00.T, G00.B, G00.D, G00.TE, G00.TD, G00.W, G00.X.1, G00.cls, G00.has, G00.apart, G00.once, G00.K⟩
  have RF := G00.X.2
  have hT' := hT
  have hfin : ∀ g ∈ s.gens, g = GenState.finished := fun g hg => by
    have := hT.2.2.2.2.2.2.2.2.2.1 g hg
    cases g with
    | finished => rfl
    | _ => exact this.elim
  refine ⟨s₀, hf, hg0, s, hT, pin w s hg G0, RF.1, RF.2.1, ?_⟩
  have G : Ground q loose r.records XP w s _ _ s.heap := RF.ground G0
  refine callFrom_kept (c := r.claim) hz hfin fun args hpre hlay ord hord => ?_
  obtain ⟨⟨vs, s₁⟩, hlaid⟩ := Option.isSome_iff_exists.mp (layAllW_isSome (P := w.params) (ord := ord) G.has args r.args s (pre_splitW hpre).1)
  have keeps := layAllW_keeps _ _ _ hlaid
  have hal := layAllW_rest _ _ _ hlaid
  obtain ⟨as, hrd, hin, hold⟩ := reads_layAllW hord _ _ _ hlaid hlay s₁.heap (fun _ _ e => e)
  have hwl : WellAll w.params s₁.heap vs args := well_layAllW hord args s _ hlaid _ fun _ _ e => e
  have G₁ := G.keeps hXk keeps
  have hlo : ∀ a ∈ as, (a == sysModules) = false := fun a ha => beq_eq_false_iff_ne.mpr fun e => by have := (hin.2.2 a ha).1; subst e; exact absurd G.low (Nat.not_lt.mpr this)
  obtain ⟨f, hf, h⟩ := call w s s₁ _ _ G₁ (hYk _ _ _ (hY w s y) keeps) args vs as hpre hlay (by rw [hal.1]; exact hfin) hrd hwl hlo
  have hi := ident_freeW hu ha hap
  have hwi : r.claim.within = [] := List.isEmpty_iff.mp k6
  exact ⟨vs, s₁, hlaid, ht vs w s₁ _ f _ _ G₁.T.g hf (wpAny_mono h (fun v s' g => by
    have z := good_laid (c := r.claim) hsame hwi hi hrd hold hal.2.2.1 g.1
    exact ⟨_, rfl, ⟨z.1, z.2.1, fun q => ⟨namesKept_of hT' hg kps keeps g.1.2.1.old, noTable hwr q⟩, fun i hi' => g.2 i (by rw [hal.1]; exact hi')⟩, z.2.2⟩) fun e s' g => g.elim)⟩
end Mine
end
section -- HeadU
open PySem PySem.W PySem.Calls PyProof.Rows
set_option maxRecDepth 100000
set_option maxHeartbeats 4000000
namespace Mine
abbrev rV : OpenLaw := PySem.Challenge.rw_vn0025_01
/-- what the walk has to show -/
def WalkY : Prop := ∀ (w : World) (s₁ : Shared) (mean : ExcName → Option Value) (mg mb : Str → Option Value), (fragV w.params).In s₁.heap → Top viewP (looseW viewP looseV) mean mg mb s₁.heap → (∀ g ∈ s₁.gens, g = GenState.finished) →
  ∀ (l : Addr) (vs : List Value) (ns : List Int), s₁.heap.IsList l vs.toArray → IntsAre vs ns → ns.length ≤ 63 →
    wpAny (model PG w) callerA (call (.ref 531) [.ref l]) (fun v s' => v = .bool true ∧ OldK s₁.heap s'.heap ∧ s'.os = s₁.os ∧ AllBare s'.gens ∧ GensKept s₁ s') (fun _ _ => False) s₁
theorem head_ok (walk : WalkY) : PySem.Challenge.rw_vn0025_01.Holds := by
  w_on
  o_law
  have hw : rV.row.promised := by w_witness2
  refine ⟨by assumption, hw, ?_⟩
  have hdef : ∃ d kwd, defOf viewP rV.row.name = some (d, kwd) ∧ rV.row.prog.theDef rV.row.name = some (d.params, d.body, d.scope) ∧ kwWritten? d.params.kwonlyargs d.params.kw_defaults = some kwd := ⟨_, _, rfl, rfl, rfl⟩
  obtain ⟨d, kwd, hdef, hp, hk⟩ := hdef
  refine open_anyY (r := rV.row.toRowW) (run := fun f vs => PySem.call f vs) (tree := fun vs => do match ← nsGet mainNs rV.row.name with
      | some f => do ret (← PySem.call f vs)
      | none => unsupported "claim.caller:no-such-global") (XP := fun _ _ => True) leftV (kHook fragV asV frag_as).of (kHook fragV asV frag_as).keeps (fun _ _ => trivial) (fun _ _ _ _ _ => trivial) (fun _ _ => recFacts_nil rfl) rfl (by decide +kernel) ⟨rfl, rfl, rfl, rfl, rfl, by decide +kernel⟩ hw
    (fun vs w s mg f Q E hg hf h => wpAny_bind (wpAny_nsGet hg (by rw [hf]; exact wpAny_bind (wpAny_mono h (fun _ _ x => wpAny_pure x) fun _ _ x => x))))
    (fun w s hg G n hn => ?_) fun w s₀ s₁ mg mb G Y args vs as hpre hlay hg hrd hwl hlo => ?_
  · obtain rfl : n = rV.row.name := by split at hn <;> simp_all
    exact pinned_of_view hg G hdef hp hk
  · clear hdef hp hk hw
    have KX := kIn_of Y
    have hla : mg rV.row.name = some (.ref 531) := mg_of KX G.T.g (by with_unfolding_all rfl)
    refine ⟨_, hla, ?_⟩
    have T := G.T
    wrow_args hpre hlay hrd hwl hlo
    rename_i ns _ _ _ _ _ _ _ l vs _ hL _ _ _ hI _ hc _
    refine wpAny_mono (walk w s₁ _ mg mb KX T hg l vs ns hL hI (by omega)) (fun v s' h => ?_) fun _ _ x => x
    obtain ⟨rfl, hold, hos, hb, hgk⟩ := h
    exact ⟨⟨.inl ⟨_, .bool true, [], rfl, fun _ => rfl, ReadsW.bool true, (by wrow_post), fun _ => ⟨List.nodup_nil, fun _ hm => nomatch hm⟩⟩, hold, hos, hb⟩, hgk⟩
end Mine
end
section -- WB
open PySem PySem.W PySem.Calls PyProof.Rows
set_option maxRecDepth 100000
set_option maxHeartbeats 4000000
namespace Mine
-- --plain
theorem Ok.stays {w : World} {h h' : Heap} (x : Ok w h) (k : ∀ b o, h.get? b = some o → h'.get? b = some o) : Ok w h' :=
  ⟨x.X.keeps (low_kept fun b o _ _ e => k b o e), let ⟨a, b, t⟩ := x.T; ⟨a, b, t.keeps (low_kept fun b o _ _ e => k b o e)⟩, let ⟨⟨p, e, i⟩, q, f, j⟩ := x.tabs; ⟨⟨p, k _ _ e, i⟩, q, k _ _ f, j⟩⟩
theorem News.stays {h₀ h h' : Heap} {L : Addr} {news : List (Addr × Obj)} (N : News h₀ L h news) (k : ∀ b o, h.get? b = some o → h'.get? b = some o) : News h₀ L h' news := fun p hp => ⟨k _ _ (N p hp).1, (N p hp).2⟩
theorem News.add {h₀ h h' : Heap} {L : Addr} {m : Str → Option Value} {news : List (Addr × Obj)} {a : Addr} {o : Obj} (F : Fr h₀ L h m) (N : News h₀ L h' news) (n : h.get? a = none) (e : h'.get? a = some o) : News h₀ L h' ((a, o) :: news) := by
  intro p hp
  rcases List.mem_cons.mp hp with rfl | hp
  · obtain ⟨ol, es, ep, hl, _⟩ := F.ns
    refine ⟨e, fun q => ?_, ?_⟩
    · have q' : a = L := q
      rw [q', hl] at n; cases n
    · cases hx : h₀.get? a with
      | none => rfl
      | some y => have := F.keep _ _ hx; rw [n] at this; cases this
  · exact N p hp
theorem ne_fresh {h : Heap} {a b : Addr} {o : Obj} (e : h.get? a = some o) (f : h.get? b = none) : @Ne Nat a b := fun q => by have q' : a = b := q; rw [q', f] at e; cases e
theorem Fr.up {h₀ h h' : Heap} {L : Addr} {m : Str → Option Value} (F : Fr h₀ L h m) (k : ∀ b o, h.get? b = some o → h'.get? b = some o) : Fr h₀ L h' m := F.after k

/-- entry of a def that makes no generators -/
theorem enter_q {w : World} {A : Around} {Q E : Value → Shared → Prop} {s : Shared} {name qual : Str} {params : Arguments} {body body' : List Stmt} {scope scope' : Scope}
    {dV kV doc pm cdv ct oc : Value} {an od : Option Addr} {osl : Array (Option Value)} {f : Addr} {pos : List Value} {kw : List (Str × Value)} (binds : List (Str × Value))
    (ok : Ok w s.heap)
    (ho : (fragK w.params).lookup f = some ⟨oc, od, .func (fnOf name qual params body scope dV kV doc pm an cdv ct), osl⟩) (hcd : codeIn (fragK w.params) cdv qual = true) (hroom : A.depth < recursionLimit)
    (hb : body = body') (hs : scope = scope')
    (hbind : BindsTo s (fnOf name qual params body scope dV kV doc pm an cdv ct) ⟨pos, kw⟩ binds) (hloc : ∀ y ∈ binds, scope.names.lookup y.1 = some .local)
    (hco : scope.isCoroutine = false) (hgen : scope.isGenerator = false) (hk : scope.kind = .function)
    (hcell : ∀ x ∈ scope.names, x.2 ≠ .cell)
    (h : ∀ h₁ mg mb tk, (fragK w.params).In s.heap → TopRead viewP (looseW viewP looseV) mg mb s.heap →
      Fr s.heap s.heap.objs.size h₁ (fun y => binds.reverse.lookup y) → News s.heap s.heap.objs.size h₁ [] →
      wpAny (model PG w) (A.deeper (envOf qual scope' s.heap.objs.size f cdv)) (execs body' (envOf qual scope' s.heap.objs.size f cdv))
        (fun fl s' => Q (match fl with | .ret v => v | _ => .none) s') (fun _ _ => False) { s with heap := h₁, toks := tk }) :
    wpAny (model PG w) A (call (.ref f) pos kw) Q E s := by
  subst hb hs
  have X' : (fragK w.params).In s.heap := fun a o e => (of_low (ok.X a o e)).1
  obtain ⟨mg, mb, T⟩ := ok.T
  have T' : TopRead viewP (looseW viewP looseV) mg mb s.heap := T.keeps fun b o e => (of_low e).1
  have hlim : s.heap.NoLimit := T'.nolimit
  refine wpAny_call (codeAny_call_def (fd := fnOf name qual params body scope dV kV doc pm an cdv ct) (body := body) (binds := binds) hroom (X' _ _ ho) rfl hlim (codeRec_of X' hcd) rfl hbind hcell hloc (fun h₁ hns hk₁ => ?_) hco hgen hk)
  exact wpAny_mono (h h₁ mg mb _ X' T' ⟨hns, fun b o e => hk₁ _ _ e, Nat.le_refl _⟩ News.nil) (fun _ _ x => x) (fun _ _ x => x.elim)

theorem kstB_self {m₁ : Str → Option Value} {ps : List (Str × Value)} (h : ∀ p ∈ ps, m₁ p.1 = some p.2) : kstB m₁ ps = m₁ := funext fun _ => kstB_eq h fun _ => rfl
theorem fr_kst {h₀ : Heap} {L : Addr} {h : Heap} {m₁ : Str → Option Value} {ps : List (Str × Value)} (hp : ∀ p ∈ ps, m₁ p.1 = some p.2) (F : Fr h₀ L h m₁) : Fr h₀ L h (kstB m₁ ps) := by rw [kstB_self hp]; exact F
theorem fr_kstX {h₀ : Heap} {L : Addr} {h : Heap} {m₁ : Str → Option Value} {ps : List (Str × Value)} {x : Str} {v : Value} (hp : ∀ p ∈ ps, m₁ p.1 = some p.2) (F : Fr h₀ L h (fun y => if y = x then some v else m₁ y)) : Fr h₀ L h (fun y => if y = x then some v else kstB m₁ ps y) := by rw [kstB_self hp]; exact F

/-- a loop's state: the ledger, the names and a word of both -/
def MyS {σ : Type} (Led : σ → List (Addr × Obj)) (ps : σ → List (Str × Value)) (P : Nat → σ → Prop) (i : Nat) (m : Str → Option Value) (nx : List (Addr × Obj)) : Prop := ∃ c, nx = Led c ∧ (∀ p ∈ ps c, m p.1 = some p.2) ∧ P i c
theorem my_end {σ : Type} {Led : σ → List (Addr × Obj)} {ps : σ → List (Str × Value)} {P : Nat → σ → Prop} {i : Nat} (c : σ) {h₀ : Heap} {L : Addr} {m' : Str → Option Value} {own news' : List (Addr × Obj)} {adr : List Addr} {s₁ : Shared} {h' : Heap} {tk : Nat}
    (F : Fr h₀ L h' m') (N : News h₀ L h' news') (hn : ∀ p ∈ Led c, p ∈ news') (ho : ∀ p ∈ own, p ∈ news') (ha : (Led c).map (·.1) = adr) (hk : ∀ p ∈ ps c, m' p.1 = some p.2) (hp : P i c) :
    InvEndN h₀ L (MyS Led ps P i) own adr s₁ { s₁ with heap := h', toks := tk } := InvEndN.intro F N ⟨c, rfl, hk, hp⟩ ha hn ho

section
variable {prog : Program} {w : World} {A : Around} {E : Value → Shared → Prop} {s : Shared} {env : Env} {h₀ : Heap} {x : Str} {body : List Stmt} {Q : Flow → Shared → Prop}
theorem my_loop {σ : Type} {I : Addr} {fp wr : List Addr} {n : Nat} {Pv : Nat → Value → Prop} {St : Nat → Heap → Prop} {m₀ : Str → Option Value} (Led : σ → List (Addr × Obj)) (ps : σ → List (Str × Value)) (P : Nat → σ → Prop) (c₀ : σ)
    (W : Walks prog w A I fp wr n Pv St) (hLf : env.locals ∉ fp) (hwr : ∀ b ∈ wr, h₀.get? b = none) (hnw : ∀ p ∈ Led c₀, p.1 ∉ wr) (hfp : ∀ q ∈ Led c₀, q.1 ∉ fp) (hst : St 0 s.heap)
    (F : Fr h₀ env.locals s.heap m₀) (N : News h₀ env.locals s.heap (Led c₀)) (hk : ∀ p ∈ ps c₀, m₀ p.1 = some p.2) (hp : P 0 c₀)
    (turn : ∀ c i v (u : Str → Option Value) h tk own, i < n → Pv i v → (Led c).map (·.1) = (Led c₀).map (·.1) → OwnOff own ((Led c₀).map (·.1)) → P i c → Fr h₀ env.locals h (fun y => if y = x then some v else kstB u (ps c) y) → News h₀ env.locals h (Led c ++ own) →
      wpAny (model prog w) A (execs body env) (InvPostN h₀ env.locals (MyS Led ps P (i + 1)) own ((Led c₀).map (·.1)) { s with heap := h, toks := tk } Q) E { s with heap := h, toks := tk })
    (done : ∀ c (u : Str → Option Value) h tk, P n c → Fr h₀ env.locals h (kstB u (ps c)) → News h₀ env.locals h (Led c) → Q .next { s with heap := h, toks := tk }) :
    LoopAtV prog w A h₀ env x body Q E (.ref I) s := by
  refine loop_invN (MyS Led ps P) W hLf hwr hnw hfp hst F N ⟨c₀, rfl, hk, hp⟩ ?_ ?_
  · rintro i v m₁ nx h tk own hi hv hadr hoff ⟨c, rfl, hk', hp'⟩ F₁ N₁
    exact turn c i v m₁ h tk own hi hv hadr hoff hp' (fr_kstX hk' F₁) N₁
  · rintro m₁ nx h tk ⟨c, rfl, hk', hp'⟩ F₁ N₁
    exact done c m₁ h tk hp' (fr_kst hk' F₁) N₁

theorem my_ints {σ : Type} {l : Addr} {vs : List Value} {ns : List Int} {m₀ : Str → Option Value} (Led : σ → List (Addr × Obj)) (ps : σ → List (Str × Value)) (P : Nat → σ → Prop) (c₀ : σ)
    (hh : A.handled = none) (hl : h₀.IsList l vs.toArray) (hi : IntsAre vs ns) (F : Fr h₀ env.locals s.heap m₀) (N : News h₀ env.locals s.heap (Led c₀)) (hk : ∀ p ∈ ps c₀, m₀ p.1 = some p.2) (hp : P 0 c₀)
    (turn : ∀ c i n t (u : Str → Option Value) h tk own, ns[i]? = some n → (Led c).map (·.1) = (Led c₀).map (·.1) → OwnOff own ((Led c₀).map (·.1)) → P i c → Fr h₀ env.locals h (fun y => if y = x then some (.int n t) else kstB u (ps c) y) → News h₀ env.locals h (Led c ++ own) →
      wpAny (model prog w) A (execs body env) (InvPostN h₀ env.locals (MyS Led ps P (i + 1)) own ((Led c₀).map (·.1)) { s with heap := h, toks := tk } Q) E { s with heap := h, toks := tk })
    (done : ∀ c (u : Str → Option Value) h tk, P ns.length c → Fr h₀ env.locals h (kstB u (ps c)) → News h₀ env.locals h (Led c) → Q .next { s with heap := h, toks := tk }) :
    wpAny (model prog w) A (pyIter (.ref l)) (fun it s₂ => LoopAtV prog w A h₀ env x body Q E it s₂) E s := by
  refine iter_invN (MyS Led ps P) hh hl hi F N ⟨c₀, rfl, hk, hp⟩ ?_ ?_
  · rintro i n t m₁ nx h tk own hn hadr hoff ⟨c, rfl, hk', hp'⟩ F₁ N₁
    exact turn c i n t m₁ h tk own hn hadr hoff hp' (fr_kstX hk' F₁) N₁
  · rintro m₁ nx h tk ⟨c, rfl, hk', hp'⟩ F₁ N₁
    exact done c m₁ h tk hp' (fr_kst hk' F₁) N₁

theorem my_range {σ : Type} {r : Addr} {a₀ b₀ : Int} {t₀ u₀ v₀ : Tok} (n : Nat) {m₀ : Str → Option Value} (Led : σ → List (Addr × Obj)) (ps : σ → List (Str × Value)) (P : Nat → σ → Prop) (c₀ : σ)
    (hh : A.handled = none) (hr : IsRange s.heap r a₀ b₀ 1 t₀ u₀ v₀) (hsmall : Builtin.Range.small a₀ b₀ 1 = true) (hn : Builtin.Range.rangeSize a₀ b₀ 1 = (n : Int)) (F : Fr h₀ env.locals s.heap m₀) (N : News h₀ env.locals s.heap (Led c₀)) (hk : ∀ p ∈ ps c₀, m₀ p.1 = some p.2) (hp : P 0 c₀)
    (turn : ∀ c (i : Nat) (k : Int) t (u : Str → Option Value) h tk own, k = a₀ + (i : Int) → i < n → (Led c).map (·.1) = (Led c₀).map (·.1) → OwnOff own ((Led c₀).map (·.1)) → P i c →
      Fr h₀ env.locals h (fun y => if y = x then some (.int k t) else kstB u (ps c) y) → News h₀ env.locals h (Led c ++ own) →
      wpAny (model prog w) A (execs body env) (InvPostN h₀ env.locals (MyS Led ps P (i + 1)) own ((Led c₀).map (·.1)) { s with heap := h, toks := tk } Q) E { s with heap := h, toks := tk })
    (done : ∀ c (u : Str → Option Value) h tk, P n c → Fr h₀ env.locals h (kstB u (ps c)) → News h₀ env.locals h (Led c) → Q .next { s with heap := h, toks := tk }) :
    wpAny (model prog w) A (pyIter (.ref r)) (fun it s₂ => LoopAtV prog w A h₀ env x body Q E it s₂) E s := by
  refine wpAny_pyIter_range hr hsmall ?_
  have W : Walks prog w A s.heap.objs.size [s.heap.objs.size] [s.heap.objs.size] n (fun i v => i < n ∧ ∃ t, v = .int (a₀ + i * 1) t)
      (fun i h => IsRangeIter h s.heap.objs.size (a₀ + (i : Nat) * 1) ((n : Int) - (i : Nat)) 1) := (Walks.range hh _ a₀ 1 n).bound
  refine my_loop Led ps P c₀ W ?_ ?_ ?_ ?_ (by show IsRangeIter _ _ _ _ _; rw [hn]; simpa using Heap.get?_push_size _ rfl) (F.push _) (fun p hp => ⟨Heap.get?_push_of_some _ (N p hp).1, (N p hp).2⟩) hk hp ?_ done
  · intro hm
    exact absurd F.ns.lt ((List.mem_singleton.mp hm) ▸ Nat.lt_irrefl _)
  · intro b hb
    rw [List.mem_singleton.mp hb]
    exact next_is_new F
  · intro p hp hI
    exact absurd (Heap.lt_size (N p hp).1) ((List.mem_singleton.mp hI) ▸ Nat.lt_irrefl _)
  · intro p hp hI
    exact absurd (Heap.lt_size (N p hp).1) ((List.mem_singleton.mp hI) ▸ Nat.lt_irrefl _)
  · rintro c i v u h tk own hi ⟨_, t, rfl⟩ hadr hoff hp' F₁ N₁
    exact turn c i _ t u h tk own (by omega) hi hadr hoff hp' F₁ N₁

theorem my_bytes {σ : Type} {b : Array UInt8} {tb : Tok} {m₀ : Str → Option Value} (Led : σ → List (Addr × Obj)) (ps : σ → List (Str × Value)) (P : Nat → σ → Prop) (c₀ : σ)
    (hh : A.handled = none) (F : Fr h₀ env.locals s.heap m₀) (N : News h₀ env.locals s.heap (Led c₀)) (hk : ∀ p ∈ ps c₀, m₀ p.1 = some p.2) (hp : P 0 c₀)
    (turn : ∀ c (i : Nat) (k : UInt8) t (u : Str → Option Value) h tk own, b[i]? = some k → (Led c).map (·.1) = (Led c₀).map (·.1) → OwnOff own ((Led c₀).map (·.1)) → P i c →
      Fr h₀ env.locals h (fun y => if y = x then some (.int (k.toNat : Int) t) else kstB u (ps c) y) → News h₀ env.locals h (Led c ++ own) →
      wpAny (model prog w) A (execs body env) (InvPostN h₀ env.locals (MyS Led ps P (i + 1)) own ((Led c₀).map (·.1)) { s with heap := h, toks := tk } Q) E { s with heap := h, toks := tk })
    (done : ∀ c (u : Str → Option Value) h tk, P b.size c → Fr h₀ env.locals h (kstB u (ps c)) → News h₀ env.locals h (Led c) → Q .next { s with heap := h, toks := tk }) :
    wpAny (model prog w) A (pyIter (.bytes b tb)) (fun it s₂ => LoopAtV prog w A h₀ env x body Q E it s₂) E s := by
  refine KBw.pyIter_bytes ?_
  have W := KBw.walks (prog := prog) (w := w) hh s.heap.objs.size b tb
  refine my_loop Led ps P c₀ W ?_ ?_ ?_ ?_ ⟨_, Heap.get?_push_size _ rfl, rfl, rfl⟩ (F.push _) (fun p hp => ⟨Heap.get?_push_of_some _ (N p hp).1, (N p hp).2⟩) hk hp ?_ done
  · intro hm
    exact absurd F.ns.lt ((List.mem_singleton.mp hm) ▸ Nat.lt_irrefl _)
  · intro b' hb
    rw [List.mem_singleton.mp hb]
    exact next_is_new F
  · intro p hp hI
    exact absurd (Heap.lt_size (N p hp).1) ((List.mem_singleton.mp hI) ▸ Nat.lt_irrefl _)
  · intro p hp hI
    exact absurd (Heap.lt_size (N p hp).1) ((List.mem_singleton.mp hI) ▸ Nat.lt_irrefl _)
  · rintro c i v u h tk own hi ⟨k, t, hc, rfl⟩ hadr hoff hp' F₁ N₁
    exact turn c i k t u h tk own hc hadr hoff hp' F₁ N₁
end

end Mine
end
section -- WC
open PySem PySem.W PySem.Calls PyProof.Rows
set_option maxRecDepth 100000
set_option maxHeartbeats 4000000
namespace Mine
-- --plain
open LCg in
section
variable {prog : Program} {w : World} {A : Around} {E : Value → Shared → Prop} {s : Shared} {h₀ : Heap} {L : Addr} {m : Str → Option Value} {env : Env}
/-- what a comprehension's item leaves -/
def MyC (h₀ : Heap) (L : Addr) (m : Str → Option Value) (s₁ : Shared) (led : List (Addr × Obj)) (R : Value → Prop) (y : Value) (s₂ : Shared) : Prop :=
  ∃ h' tk, s₂ = { s₁ with heap := h', toks := tk } ∧ Fr h₀ L h' m ∧ News h₀ L h' led ∧ R y
theorem myC {s₁ : Shared} {led led' : List (Addr × Obj)} {R : Value → Prop} {y : Value} {h' : Heap} {tk : Nat} (F : Fr h₀ L h' m) (N : News h₀ L h' led') (sub : ∀ p ∈ led, p ∈ led') (r : R y) : MyC h₀ L m s₁ led R y { s₁ with heap := h', toks := tk } :=
  ⟨h', tk, rfl, F, fun p hp => N p (sub p hp), r⟩
theorem my_compRest {elt : Expr} {x : Str} {scope : Scope} {cl : List (Str × Addr)} {S : List (Addr × Obj) → Prop} {P : Nat → Value → Prop} {Fin : List Value → List (Addr × Obj) → Prop} {news : List (Addr × Obj)} (J : Nat → List Value → Prop) (hS : S news) (N0 : Nat)
    (turn : ∀ i v I oI C oC D ys m₂ h tk (E' : Value → Shared → Prop), i < N0 → P i v → NsObj oC m₂ → m₂ x = some v → Fr h₀ L h m → News h₀ L h ((I, oI) :: (C, oC) :: (D, lst ys) :: news) → J i ys →
      wpAny (model prog w) A (eval elt (compEnvC scope cl C env)) (MyC h₀ L m { s with heap := h, toks := tk } ((I, oI) :: (C, oC) :: (D, lst ys) :: news) (fun y => J (i + 1) (ys ++ [y]))) E' { s with heap := h, toks := tk })
    (done : ∀ ys, J N0 ys → Fin ys news) : ∀ k i ys, i + k = N0 → J i ys → CompRest prog w A h₀ L m env elt x scope cl s S P Fin k i ys news := by
  intro k
  induction k with
  | zero => intro i ys e hj; obtain rfl : i = N0 := by omega
            exact CompRest.zero (done ys hj)
  | succ k ih =>
    intro i ys e hj
    refine CompRest.succ fun v I oI C oC D m₂ h tk E' hP hC hx F N off ne => ?_
    refine wpAny_mono (turn i v I oI C oC D ys m₂ h tk E' (by omega) hP hC hx F N hj) (fun y s₂ hy => ?_) fun _ _ e => e
    obtain ⟨h', tk', rfl, F', N', r⟩ := hy
    exact ⟨h', tk', news, rfl, F', N', off, hS, ih (i + 1) (ys ++ [y]) (by omega) r⟩

/-- the post of a comprehension's source: what it walks over -/
structure SrcW (prog : Program) (w : World) (A : Around) (h₀ : Heap) (L : Addr) (news : List (Addr × Obj)) (n : Nat) (P : Nat → Value → Prop) (xv : Value) (s₁ : Shared) : Prop where
  go : ∀ (Q : Value → Shared → Prop) (E : Value → Shared → Prop),
    (∀ (I : Addr) (fp : List Addr) (St : Nat → Heap → Prop) (s₂ : Shared), (∃ h, s₂ = { s₁ with heap := h }) → Walks prog w A I fp [I] n P St → (∀ i h, St i h → ∃ o, h.get? I = some o) → I = s₁.heap.objs.size → (∀ b o, s₁.heap.get? b = some o → s₂.heap.get? b = some o) →
      St 0 s₂.heap → (∀ b ∈ fp, b < s₂.heap.objs.size) →
      (∀ i h h' o nw, St i h → h.get? I = some o → h'.get? I = some o → (∀ b o, h₀.get? b = some o → h'.get? b = some o) → News h₀ L h' nw → (∀ p ∈ news, p ∈ nw) → St i h') → Q (.ref I) s₂) →
    wpAny (model prog w) A (pyIter xv) Q E s₁

/-- what is to be shown where a comprehension's iterable has been read -/
def CompGo (prog : Program) (w : World) (A : Around) (h₀ : Heap) (L : Addr) (m : Str → Option Value) (env : Env) (elt : Expr) (x : Str) (scope : Scope) (cl : List (Str × Addr)) (Q : Value → Shared → Prop) (xv : Value) (s₁ : Shared) : Prop :=
  ∃ (n : Nat) (P : Nat → Value → Prop) (news : List (Addr × Obj)) (J : Nat → List Value → Prop), SrcW prog w A h₀ L news n P xv s₁ ∧ n ≤ sizeLine ∧ Fr h₀ L s₁.heap m ∧ News h₀ L s₁.heap news ∧ J 0 [] ∧
      (∀ i v I oI C oC D ys m₂ h tk (E' : Value → Shared → Prop), i < n → P i v → NsObj oC m₂ → m₂ x = some v → Fr h₀ L h m → News h₀ L h ((I, oI) :: (C, oC) :: (D, lst ys) :: news) → J i ys →
        wpAny (model prog w) A (eval elt (compEnvC scope cl C env)) (MyC h₀ L m { s₁ with heap := h, toks := tk } ((I, oI) :: (C, oC) :: (D, lst ys) :: news) (fun y => J (i + 1) (ys ++ [y]))) E' { s₁ with heap := h, toks := tk }) ∧
      (∀ ys, J n ys → ∀ D h tk, Fr h₀ L h m → News h₀ L h ((D, lst ys) :: news) → Off1 D news → Q (.ref D) { s₁ with heap := h, toks := tk })
theorem my_comp {elt iter : Expr} {x : Str} {px : Pos} {scope : Scope} {cl : List (Str × Addr)} {pos : Pos} {Q : Value → Shared → Prop} (_F₀ : Fr h₀ L s.heap m)
    (hclos : closureFor scope env = pure cl) (hcell : ∀ y ∈ scope.names, y.2 ≠ .cell) (hkind : scope.kind = .function)
    (hnames : ∀ y ∈ scope.names, y.2 = .local → scope.names.lookup y.1 = some .local) (hx : scope.names.lookup x = some .local)
    (h : wpAny (model prog w) A (eval iter env) (CompGo prog w A h₀ L m env elt x scope cl Q) E s)
    (hs : ∀ x, foldedSetIterable iter env x = pure x := by intro _; rfl) :
    wpAny (model prog w) A (eval (.ListComp elt [⟨.Name x px, iter, [], 0⟩] scope pos) env) Q E s := by
  rw [eval_ListComp]
  refine wpAny_comprehension_free (use := none) rfl hs hclos hkind hnames (wpAny_mono h (fun xv s₁ h₁ => ?_) fun _ _ e => e)
  obtain ⟨n, P, news, J, src, hsz, F, N, j0, turn, fin⟩ := h₁
  refine src.go _ _ fun I fp St s₂ ⟨g, hg⟩ W hIo hI up st0 hfp hSt => ?_
  subst hg
  have F₂ : Fr h₀ L g m := F.after up
  have N₂ : News h₀ L g news := Mine.News.stays N up
  have hIL : L ≠ I := by rw [hI]; exact Nat.ne_of_lt F.ns.lt
  have hI₀ : h₀.get? I = none := by rw [hI]; exact next_is_new F
  have off : ∀ p ∈ news, p.1 ≠ I := fun p hp => by rw [hI]; exact Nat.ne_of_lt (Heap.lt_size (N p hp).1)
  refine block_U (s₂ := { s₁ with heap := g }) (S := fun nw => ∀ p ∈ news, p ∈ nw) (news := news) (Fin := FinE h₀ L m { s₁ with heap := g } Q) W hsz hIo hSt hcell hkind hx st0 hfp F₂ N₂ hIL hI₀ off (fun _ h => h)
    (my_compRest (s := { s₁ with heap := g }) J (fun _ h => h) n (fun i v I oI C oC D ys m₂ h tk E' => turn i v I oI C oC D ys m₂ h tk E') (fun ys hj => ?_) n 0 [] (by omega) j0) ?_
  · exact fun D h tk F' N' o1 => fin ys hj D h tk F' N' o1
  · intro D C h tk m' ys news' F' N' o1 hn hC₀ hD₀ hCL hDL hCD offC fin'
    refine ⟨m', hn, fun h'' hs'' => fin' D h'' tk (F'.change hs'' hCL hC₀) (fun p hp => ?_) o1⟩
    refine ⟨hs''.extBut _ _ ?_ (N' p hp).1, (N' p hp).2⟩
    rcases List.mem_cons.mp hp with rfl | hp
    · exact Ne.symm hCD
    · exact offC p hp

theorem src_list {ax : Addr} {its : Array Value} {news : List (Addr × Obj)} (hh : A.handled = none) (hl : h₀.IsList ax its) (k : ∀ b o, h₀.get? b = some o → s.heap.get? b = some o) : SrcW prog w A h₀ L news its.size (fun i v => its[i]? = some v) (.ref ax) s := by
  refine ⟨fun Q E h => ?_⟩
  have hl' : s.heap.IsList ax its := hl.at fun o e => k _ _ e
  have hlt : ax < s.heap.objs.size := by obtain ⟨_, e, _⟩ := hl'; exact Heap.lt_size e
  refine wpAny_pyIter_list hl' ?_
  have up : ∀ b o, s.heap.get? b = some o → (s.heap.push { cls := .type "list_iterator", data := .fields #[.ref ax, .int 0 0] }).get? b = some o := fun b o e => Heap.get?_push_of_some _ e
  refine h _ _ _ { s with heap := s.heap.push { cls := .type "list_iterator", data := .fields #[.ref ax, .int 0 0] } } ⟨_, rfl⟩ (Walks.list hh s.heap.objs.size ax (Nat.ne_of_lt hlt) its) (fun i h st => by obtain ⟨o, e, _⟩ := st.1; exact ⟨o, e⟩) rfl up ⟨⟨_, Heap.get?_push_size _ rfl, rfl, rfl⟩, hl'.push _⟩ (fun b hb => ?_) ?_
  · show b < (s.heap.push _).objs.size
    rw [Heap.size_push]
    rcases List.mem_cons.mp hb with rfl | hb
    · exact Nat.lt_succ_self _
    · rw [List.mem_singleton.mp hb]; exact Nat.lt_succ_of_lt hlt
  · intro i h h' o nw st e e' k' _ _
    exact ⟨by obtain ⟨o', q, r⟩ := st.1; rw [e] at q; cases q; exact ⟨o, e', r⟩, hl.at fun o e => k' _ _ e⟩
theorem src_listN {ax : Addr} {its : Array Value} {n : Nat} {news : List (Addr × Obj)} (hh : A.handled = none) (hm : (ax, ({ cls := .type "list", data := .seq its n } : Obj)) ∈ news) (N : News h₀ L s.heap news) : SrcW prog w A h₀ L news its.size (fun i v => its[i]? = some v) (.ref ax) s := by
  refine ⟨fun Q E h => ?_⟩
  have hl' : s.heap.IsList ax its := ⟨_, (N _ hm).1, rfl, n, rfl⟩
  have hlt : ax < s.heap.objs.size := by obtain ⟨_, e, _⟩ := hl'; exact Heap.lt_size e
  refine wpAny_pyIter_list hl' ?_
  have up : ∀ b o, s.heap.get? b = some o → (s.heap.push { cls := .type "list_iterator", data := .fields #[.ref ax, .int 0 0] }).get? b = some o := fun b o e => Heap.get?_push_of_some _ e
  refine h _ _ _ { s with heap := s.heap.push { cls := .type "list_iterator", data := .fields #[.ref ax, .int 0 0] } } ⟨_, rfl⟩ (Walks.list hh s.heap.objs.size ax (Nat.ne_of_lt hlt) its) (fun i h st => by obtain ⟨o, e, _⟩ := st.1; exact ⟨o, e⟩) rfl up ⟨⟨_, Heap.get?_push_size _ rfl, rfl, rfl⟩, hl'.push _⟩ (fun b hb => ?_) ?_
  · show b < (s.heap.push _).objs.size
    rw [Heap.size_push]
    rcases List.mem_cons.mp hb with rfl | hb
    · exact Nat.lt_succ_self _
    · rw [List.mem_singleton.mp hb]; exact Nat.lt_succ_of_lt hlt
  · intro i h h' o nw st e e' k' N' sub
    exact ⟨by obtain ⟨o', q, r⟩ := st.1; rw [e] at q; cases q; exact ⟨o, e', r⟩, ⟨_, (N' _ (sub _ hm)).1, rfl, n, rfl⟩⟩
theorem src_range {r : Addr} {a b : Int} {t u v : Tok} {n : Nat} {news : List (Addr × Obj)} (hh : A.handled = none) (hr : IsRange s.heap r a b 1 t u v) (hsm : Builtin.Range.small a b 1 = true) (hn : Builtin.Range.rangeSize a b 1 = ((n : Nat) : Int)) :
    SrcW prog w A h₀ L news n (fun i v => ∃ t, v = .int (a + (i : Int)) t) (.ref r) s := by
  refine ⟨fun Q E h => ?_⟩
  refine wpAny_pyIter_range hr hsm ?_
  refine h _ _ _ { s with heap := s.heap.push _ } ⟨_, rfl⟩ (range_walks hh a n) (fun i h st => ⟨_, st⟩) rfl (fun _ _ e => Heap.get?_push_of_some _ e) (by show IsRangeIter _ _ _ _ _; rw [hn]; simpa using Heap.get?_push_size _ rfl) (fun b hb => ?_) ?_
  · rw [List.mem_singleton.mp hb]
    show s.heap.objs.size < (s.heap.push _).objs.size
    rw [Heap.size_push]; exact Nat.lt_succ_self _
  · exact fun i h h' o nw st e e' k N' _ => range_st i h h' o nw st e e' k N' trivial
theorem src_one {xv : Value} {P : Nat → Value → Prop} {n : Nat} {news : List (Addr × Obj)} {St : Nat → Heap → Prop} {ob : Obj} (W : Walks prog w A s.heap.objs.size [s.heap.objs.size] [s.heap.objs.size] n P St) (hIo : ∀ i h, St i h → ∃ o, h.get? s.heap.objs.size = some o)
    (h1 : ∀ i h h' o, St i h → h.get? s.heap.objs.size = some o → h'.get? s.heap.objs.size = some o → St i h') (h0 : St 0 (s.heap.push ob))
    (hp : ∀ (Q : Value → Shared → Prop) (E : Value → Shared → Prop), Q (.ref s.heap.objs.size) { s with heap := s.heap.push ob } → wpAny (model prog w) A (pyIter xv) Q E s) : SrcW prog w A h₀ L news n P xv s := by
  refine ⟨fun Q E h => hp Q E ?_⟩
  refine h _ _ _ { s with heap := s.heap.push ob } ⟨_, rfl⟩ W hIo rfl (fun _ _ e => Heap.get?_push_of_some _ e) h0 (fun b hb => ?_) (fun i h h' o nw st e e' _ _ _ => h1 i h h' o st e e')
  rw [List.mem_singleton.mp hb]
  show s.heap.objs.size < (s.heap.push _).objs.size
  rw [Heap.size_push]; exact Nat.lt_succ_self _
theorem src_ascii {x : Str} {t : Tok} {news : List (Addr × Obj)} (hh : A.handled = none) (ha : x.cps.all (· < 128) = true) : SrcW prog w A h₀ L news x.cps.size (SignAt x) (.str x t) s := by
  refine src_one (Walks.strAscii hh _ x t) (fun i h st => by obtain ⟨o, e, _⟩ := st; exact ⟨o, e⟩) (fun i h h' o st e e' => by obtain ⟨o', q, r⟩ := st; rw [e] at q; cases q; exact ⟨o, e', r⟩) ⟨_, Heap.get?_push_size _ rfl, rfl, rfl⟩ fun Q E h => wpAny_pyIter_ascii ha h
theorem src_bytes {b : Array UInt8} {t : Tok} {news : List (Addr × Obj)} (hh : A.handled = none) : SrcW prog w A h₀ L news b.size (fun i v => ∃ c u, b[i]? = some c ∧ v = .int (c.toNat : Int) u) (.bytes b t) s := by
  refine src_one (KBw.walks hh _ b t) (fun i h st => by obtain ⟨o, e, _⟩ := st; exact ⟨o, e⟩) (fun i h h' o st e e' => by obtain ⟨o', q, r⟩ := st; rw [e] at q; cases q; exact ⟨o, e', r⟩) ⟨_, Heap.get?_push_size _ rfl, rfl, rfl⟩ fun Q E h => KBw.pyIter_bytes h
end

section
variable {M : Model} {A : Around} {E : Value → Shared → Prop} {s : Shared} {K : Frag} {h₀ : Heap} {L C : Addr} {m mg mb : Str → Option Value} {news : List (Addr × Obj)} {scope : Scope} {cl : List (Str × Addr)} {env : Env} {p : Program} {loose : List Str} {x : Str} {pos : Pos} {v : Value} {oC : Obj} {Q : Value → Shared → Prop}
theorem my_global (F : Fr h₀ L s.heap m) (X : K.In h₀) (T : TopRead p loose mg mb h₀) (e : nsIn K mainGlobals x = some (some v)) (h : Q v s) (hg : env.globals = mainGlobals := by rfl)
    (hk : (compEnvC scope cl C env).scope.kind = .function := by rfl) (hx : (compEnvC scope cl C env).kindOf x = some .globalImplicit := by rfl) (hd : (x == ("__debug__" : Str)) = false := by decide) :
    wpAny M A (eval (.Name x pos) (compEnvC scope cl C env)) Q E s :=
  Name_function_global hk hx (loadGlobal_global (env := compEnvC scope cl C env) (show s.heap.Ns env.globals mg from hg ▸ (T.keeps F.keep).g) (mg_of X T.g e) h) hd
theorem my_built (F : Fr h₀ L s.heap m) (X : K.In h₀) (T : TopRead p loose mg mb h₀) (e : nsIn K mainGlobals x = some none) (hv : bootBuiltins x = some v) (hn : x ≠ "__name__") (h : Q v s) (hg : env.globals = mainGlobals := by rfl) (hb : env.builtins = builtinsNs := by rfl)
    (hk : (compEnvC scope cl C env).scope.kind = .function := by rfl) (hx : (compEnvC scope cl C env).kindOf x = some .globalImplicit := by rfl) (hd : (x == ("__debug__" : Str)) = false := by decide) :
    wpAny M A (eval (.Name x pos) (compEnvC scope cl C env)) Q E s :=
  Name_function_global hk hx (loadGlobal_builtin (env := compEnvC scope cl C env) (show s.heap.Ns env.globals mg from hg ▸ (T.keeps F.keep).g) (mg_none_of X T.g e) (show s.heap.Ns env.builtins mb from hb ▸ (T.keeps F.keep).b) ((T.builtins x hn).trans hv) h) hd
end

/-- entry of a def that keeps names in cells and makes no generators -/
theorem enter_qc {w : World} {A : Around} {Q E : Value → Shared → Prop} {s : Shared} {name qual : Str} {params : Arguments} {body body' : List Stmt} {scope scope' : Scope}
    {dV kV doc pm cdv ct oc : Value} {an od : Option Addr} {osl : Array (Option Value)} {f : Addr} {pos : List Value} {kw : List (Str × Value)} (binds : List (Str × Value))
    (ok : Ok w s.heap)
    (ho : (fragK w.params).lookup f = some ⟨oc, od, .func (fnOf name qual params body scope dV kV doc pm an cdv ct), osl⟩) (hcd : codeIn (fragK w.params) cdv qual = true) (hroom : A.depth < recursionLimit)
    (hb : body = body') (hs : scope = scope')
    (hbind : BindsTo s (fnOf name qual params body scope dV kV doc pm an cdv ct) ⟨pos, kw⟩ binds)
    (hloc : ∀ n, ∀ x ∈ binds, scope.names.lookup x.1 = some .local ∨ (scope.names.lookup x.1 = some .cell ∧ ((cellsFrom n scope.names []).lookup x.1).isSome = true))
    (hco : scope.isCoroutine = false) (hgen : scope.isGenerator = false) (hk : scope.kind = .function)
    (hcell : ((cellsFrom 0 scope.names []).map (·.1)).Nodup)
    (h : ∀ h₁ mg mb tk cells, (fragK w.params).In s.heap → TopRead viewP (looseW viewP looseV) mg mb s.heap →
      Fr s.heap s.heap.objs.size h₁ (bindL (envOfC qual scope' s.heap.objs.size f cdv).kindOf binds fun _ => none) → News s.heap s.heap.objs.size h₁ cells →
      CellsAre (bindC (envOfC qual scope' s.heap.objs.size f cdv).kindOf binds fun _ => none) (cellsFrom (s.heap.objs.size + 1) scope'.names []) cells →
      wpAny (model PG w) (A.deeper (envOfC qual scope' s.heap.objs.size f cdv)) (execs body' (envOfC qual scope' s.heap.objs.size f cdv))
        (fun fl s' => Q (match fl with | .ret v => v | _ => .none) s') (fun _ _ => False) { s with heap := h₁, toks := tk }) :
    wpAny (model PG w) A (call (.ref f) pos kw) Q E s := by
  subst hb hs
  have X' : (fragK w.params).In s.heap := fun a o e => (of_low (ok.X a o e)).1
  obtain ⟨mg, mb, T⟩ := ok.T
  have T' : TopRead viewP (looseW viewP looseV) mg mb s.heap := T.keeps fun b o e => (of_low e).1
  have hlim : s.heap.NoLimit := T'.nolimit
  refine wpAny_call (codeAny_call_function hroom (X' _ _ ho) rfl hco hgen rfl (codeRec_of X' hcd) (hbind _ _ _ _ ?_))
  refine wpAny_newFunctionEnv_cells hk (hloc _) fun env' he s' x => ?_
  subst he
  refine ⟨hlim.keeps x.toInCall.keep, codeAny_func ?_⟩
  obtain ⟨h₁, tk, rfl, _⟩ := x.done
  obtain ⟨cells, NC, Y⟩ := Cl.news (h₀ := s.heap) (Nat.le_refl _) fun n c hm => ⟨x.cell n c (lookup_of_mem_nodup (cellsFrom_names scope.names 0 (s.heap.objs.size + 1) [] [] rfl ▸ hcell) hm), x.above n c hm⟩
  exact wpAny_mono (h h₁ mg mb tk cells X' T' ⟨x.toInCall.ns, x.toInCall.keep, Nat.le_refl _⟩ NC Y) (fun _ _ x => x) (fun _ _ x => x.elim)

theorem my_len1 : (PySem.Str.ofString "1").length = 1 := by decide
theorem my_add_str {prog : Program} {w : World} {A : Around} {E : Value → Shared → Prop} {s : Shared} {x y : Str} {t u : Tok} {Q : Value → Shared → Prop} (h : ∀ t' tk, Q (.str (x ++ y) t') { s with toks := tk }) (hsz : x.length + y.length ≤ 100000) : wpAny (model prog w) A (binaryOp .Add (.str x t) (.str y u)) Q E s :=
  PyProof.Rows.add_str h (by rw [sizeLine_eq]; omega)
theorem glue_ones : ∀ l : List Nat, PySem.Str.join (PySem.Str.ofString "") (l.map fun c => (⟨#[c]⟩ : Str)) = ⟨l.toArray⟩
  | [] => rfl
  | [c] => rfl
  | c :: d :: r => by
    have ih := glue_ones (d :: r)
    show PySem.Str.append (PySem.Str.append ⟨#[c]⟩ (PySem.Str.ofString "")) (PySem.Str.join (PySem.Str.ofString "") ((d :: r).map fun c => (⟨#[c]⟩ : Str))) = _
    rw [ih]
    show PySem.Str.append (PySem.Str.append _ _) _ = _
    simp only [PySem.Str.append]
    congr 1
    show (#[c] ++ (PySem.Str.ofString "").cps) ++ _ = _
    have e : (PySem.Str.ofString "").cps = #[] := by decide
    rw [e]
    simp
theorem join_ones' (l : List Nat) : PySem.Txt.join (PySem.Str.ofString "") (l.map fun c => (⟨#[c]⟩ : Str)) = ⟨l.toArray⟩ := by
  show (Builtin.Str.glued (PySem.Str.ofString "") _) = _
  rw [StrLaws.glued_eq_join, glue_ones]
theorem ones_sum : ∀ l : List Nat, ((l.map fun c => (⟨#[c]⟩ : Str)).map (·.length)).sum = l.length
  | [] => rfl
  | c :: r => by
    rw [List.map_cons, List.map_cons, List.sum_cons, ones_sum r, List.length_cons]
    show 1 + _ = _
    omega
theorem my_join {prog : Program} {w : World} {A : Around} {E : Value → Shared → Prop} {s : Shared} {D : Addr} {vs : List Value} {l : List Nat} {t : Tok} {Q : Value → Shared → Prop} (hl : s.heap.IsList D vs.toArray) (hi : StrsAre vs (l.map fun c => (⟨#[c]⟩ : Str))) (hn : l.length ≤ 10000)
    (h : ∀ t' k, Q (.str ⟨l.toArray⟩ t') { s with toks := k }) : wpAny (model prog w) A (call (.builtin "str.join") [.str (PySem.Str.ofString "") t, .ref D]) Q E s := by
  refine join_listW hl (by simpa using hi) (by decide) ?_ fun t' k => ?_
  · rw [ones_sum, List.length_map]; omega
  · rw [join_ones']; exact h t' k
theorem strs_snoc {ys : List Value} {α : Type} {f : α → Nat} {l : List α} {i : Nat} {c : α} {t : Tok} (h : StrsAre ys ((l.take i).map fun a => (⟨#[f a]⟩ : Str))) (e : l[i]? = some c) : StrsAre (ys ++ [.str ⟨#[f c]⟩ t]) ((l.take (i + 1)).map fun a => (⟨#[f a]⟩ : Str)) := by
  rw [List.take_add_one, e, List.map_append]
  exact StrsAre.append' h (.cons _ _ .nil)
theorem ints_get' {vs : List Value} {ns : List Int} (h : IntsAre vs ns) {i : Nat} {v : Value} (e : vs.toArray[i]? = some v) : ∃ n t, ns[i]? = some n ∧ v = .int n t := by
  have hlt : i < ns.length := by
    rw [← h.length]
    have := Array.getElem?_eq_some_iff.mp e
    simpa using this.1
  obtain ⟨t, hx⟩ := h.get i ns[i] (by simp [hlt])
  exact ⟨ns[i], t, by simp [hlt], by
    have e' : vs[i]? = some v := by simpa using e
    rw [hx] at e'; exact (Option.some.inj e').symm⟩

theorem Ok.frag {w : World} {h : Heap} (x : Ok w h) : (fragK w.params).In h := fun a o e => (of_low (x.X a o e)).1
def MyW {σ : Type} (h₀ : Heap) (L : Addr) (s : Shared) (Led : σ → List (Addr × Obj)) (ps : σ → List (Str × Value)) (P : σ → Prop) (μ : σ → Nat) (c : σ) (s₂ : Shared) : Prop :=
  ∃ (c' : σ) (h' : Heap) (tk : Nat) (m' : Str → Option Value) (news' : List (Addr × Obj)), s₂ = { s with heap := h', toks := tk } ∧ Fr h₀ L h' m' ∧ News h₀ L h' news' ∧ (∀ p ∈ Led c', p ∈ news') ∧ (∀ p ∈ ps c', m' p.1 = some p.2) ∧ P c' ∧ μ c' < μ c
def MyWPost {σ : Type} (h₀ : Heap) (L : Addr) (s : Shared) (Led : σ → List (Addr × Obj)) (ps : σ → List (Str × Value)) (P : σ → Prop) (μ : σ → Nat) (Q : Flow → Shared → Prop) (c : σ) (f : Flow) (s₂ : Shared) : Prop :=
  match f with
  | .ret v => Q (.ret v) s₂
  | .brk => Q .next s₂
  | _ => MyW h₀ L s Led ps P μ c s₂
theorem myw_end {σ : Type} {h₀ : Heap} {L : Addr} {s : Shared} {Led : σ → List (Addr × Obj)} {ps : σ → List (Str × Value)} {m' : Str → Option Value} {P : σ → Prop} {μ : σ → Nat} {Q : Flow → Shared → Prop} {c : σ} {h' : Heap} {tk : Nat} {news' : List (Addr × Obj)} (c' : σ)
    (F : Fr h₀ L h' m') (N : News h₀ L h' news') (hn : ∀ p ∈ Led c', p ∈ news') (hk : ∀ p ∈ ps c', m' p.1 = some p.2) (hp : P c') (hm : μ c' < μ c) :
    MyWPost h₀ L s Led ps P μ Q c .next { s with heap := h', toks := tk } := ⟨c', h', tk, m', news', rfl, F, N, hn, hk, hp, hm⟩
theorem my_while {prog : Program} {w : World} {A : Around} {E : Value → Shared → Prop} {Q : Flow → Shared → Prop} {s : Shared} {env : Env} {h₀ : Heap} {L : Addr} {σ : Type} {test : Expr} {body : List Stmt} {pos : Pos} {m₀ : Str → Option Value} (Led : σ → List (Addr × Obj)) (ps : σ → List (Str × Value)) (P : σ → Prop) (μ : σ → Nat) (c₀ : σ)
    (F : Fr h₀ L s.heap m₀) (N : News h₀ L s.heap (Led c₀)) (hk : ∀ p ∈ ps c₀, m₀ p.1 = some p.2) (hp : P c₀)
    (turn : ∀ (c : σ) (u : Str → Option Value) h tk, P c → Fr h₀ L h (kstB u (ps c)) → News h₀ L h (Led c) →
      wpAny (model prog w) A (isTrue test env (eval test env)) (fun b s₂ =>
        if b = true then wpAny (model prog w) A (execs body env) (MyWPost h₀ L s Led ps P μ Q c) E s₂ else Q .next s₂) E { s with heap := h, toks := tk })
    (hE : PassesOwn (model prog w) A env E := by passes_own) :
    wpAny (model prog w) A (exec (.While test body [] pos) env) Q E s := by
  refine While_inv2 (fun n m nx => ∃ c : σ, nx = Led c ∧ μ c = n ∧ (∀ p ∈ ps c, m p.1 = some p.2) ∧ P c) F N ⟨c₀, rfl, rfl, hk, hp⟩ ?_ hE
  rintro n m₁ nx h tk F₁ N₁ ⟨c, hnx, hsz, h1, hp'⟩
  rw [hnx] at N₁
  rw [← hsz]
  refine wpAny_mono (turn c m₁ h tk hp' (fr_kst h1 F₁) N₁) (fun b s₂ p => ?_) fun _ _ x => x
  cases b with
  | false => simpa using p
  | true =>
    simp only [if_true] at p ⊢
    refine wpAny_mono p (fun f s₃ q => ?_) fun _ _ x => x
    cases f with
    | ret v => exact q
    | brk => exact q
    | next =>
      obtain ⟨c', h', tk', m', news', rfl, F', N', hn, hk9, hp9, hm9⟩ := q
      exact ⟨h', tk', m', Led c', μ c', rfl, F', fun p hp => N' p (hn p hp), hm9, c', rfl, rfl, hk9, hp9⟩
    | cont =>
      obtain ⟨c', h', tk', m', news', rfl, F', N', hn, hk9, hp9, hm9⟩ := q
      exact ⟨h', tk', m', Led c', μ c', rfl, F', fun p hp => N' p (hn p hp), hm9, c', rfl, rfl, hk9, hp9⟩

end Mine
end
section -- WD
open PySem PySem.W PySem.Calls PyProof.Rows
set_option maxRecDepth 100000
set_option maxHeartbeats 4000000
namespace Mine
-- --plain
section
variable {prog : Program} {w : World} {A : Around} {E : Value → Shared → Prop} {s : Shared} {value slice : PySem.Expr} {b : Array UInt8} {t : Tok} {h₀ : Heap} {L : Addr} {m : PySem.Str → Option Value} {news : List (Addr × Obj)} {Q : Value → Shared → Prop}
theorem bytes_at {i : Int} (n : Nat) {ui : Tok} (e : i = n) (hbs : b.size ≤ 1000) (hn : n < b.size) (h : Q (.int (b.toList.getD n 0).toNat s.toks) { s with toks := s.toks + 1 })
    (hs : subscripted slice false (.bytes b t) (.int i ui) = operate [.bytes b t, .int i ui] (getItem (.bytes b t) (.int i ui)) := by with_unfolding_all rfl)
    (ht : ∀ r, letTemporaryGo value (.bytes b t) r = pure () := by intro _; with_unfolding_all rfl) :
    wpAny (model prog w) A (subscriptTail value slice (.bytes b t) (.int i ui)) Q E s := by
  subst e
  refine tail_of_ItemOn ⟨"bytes", _, FB.slot_bytes_getitem.lookup, typeIs_bytes _ _ _, getItem_bytes (l := b.toList) (by simpa using (by omega : b.size ≤ 1099511627776)) (by omega) (by simpa using hn) ?_⟩ hs ht
  simpa using h
theorem bytes_slice {lo' hi' : Int} (lo hi : Nat) {tl th : Tok} (el : lo' = lo) (eh : hi' = hi) (hbs : b.size ≤ 1000) (hh : hi ≤ b.size) (hlh : lo ≤ hi) (hF : Fr h₀ L s.heap m) (hN : News h₀ L s.heap news)
    (h : ∀ h' t' k, Fr h₀ L h' m → News h₀ L h' news → Q (.bytes ((b.toList.drop lo).take (hi - lo)).toArray t') { s with heap := h', toks := k })
    (hs : subscripted slice false (.bytes b t) (.ref s.heap.objs.size) = operate [.ref s.heap.objs.size, .bytes b t] (getItem (.bytes b t) (.ref s.heap.objs.size)) := by with_unfolding_all rfl)
    (ht : ∀ r, letTemporaryGo value (.bytes b t) r = pure () := by intro _; with_unfolding_all rfl) :
    wpAny (model prog w) A (subscriptTail value slice (.bytes b t) (.ref s.heap.objs.size)) Q E { s with heap := s.heap.push { cls := .type "slice", data := .fields #[.int lo' tl, .int hi' th, .none] } } := by
  subst el eh
  refine KBc.slice_K hF hN rfl (.int _ _) (.int _ _) (by rw [KBw.ints_length]; omega) (fun h' t' k F N _ => ?_) hs ht
  have e : KBy.picked b (some (lo : Int)) (some (hi : Int)) = ((b.toList.drop lo).take (hi - lo)).toArray := by
    rw [KBc.picked_eq]
    show ((b.toList.drop (clipAt b.size lo)).take (clipAt b.size hi - clipAt b.size lo)).toArray = _
    rw [clipAt_nat, clipAt_nat, Nat.min_eq_left hh, Nat.min_eq_left (Nat.le_trans hlh hh)]
  rw [e]
  exact h h' t' k F N
end

end Mine
end
section -- RT
open PySem PySem.W PySem.Calls PyProof.Rows
set_option maxRecDepth 100000
set_option maxHeartbeats 4000000
namespace Mine
-- --plain
mutual
inductive RT where
  | leaf (b : List UInt8)
  | node (ts : RTs)
inductive RTs where
  | nil
  | cons (t : RT) (ts : RTs)
end
/-- the head of a string or a list of n bytes -/
def rHead (n off : Nat) : List UInt8 := if n < 56 then [(off + n).toUInt8] else [(off + 56).toUInt8, n.toUInt8]
mutual
def RT.enc : RT → List UInt8
  | .leaf b => (match b with | [c] => if c.toNat < 128 then [] else rHead 1 128 | b => rHead b.length 128) ++ b
  | .node ts => rHead ts.enc.length 192 ++ ts.enc
def RTs.enc : RTs → List UInt8
  | .nil => []
  | .cons t ts => t.enc ++ ts.enc
end
mutual
/-- the value that stands for a tree -/
def RAt (h : Heap) : RT → Value → Prop
  | .leaf b, v => ∃ t, v = .bytes b.toArray t
  | .node ts, v => ∃ a vs, v = .ref a ∧ h.IsList a vs.toArray ∧ RAts h ts vs
def RAts (h : Heap) : RTs → List Value → Prop
  | .nil, vs => vs = []
  | .cons t ts, vs => ∃ v r, vs = v :: r ∧ RAt h t v ∧ RAts h ts r
end
def RTs.len : RTs → Nat
  | .nil => 0
  | .cons _ ts => ts.len + 1
mutual
def RT.deep : RT → Nat
  | .leaf _ => 0
  | .node ts => ts.deep + 1
def RTs.deep : RTs → Nat
  | .nil => 0
  | .cons t ts => max t.deep ts.deep
end
mutual
theorem RAt.keeps {h h' : Heap} (k : ∀ b o, h.get? b = some o → h'.get? b = some o) : ∀ (t : RT) (v : Value), RAt h t v → RAt h' t v
  | .leaf b, v, x => x
  | .node ts, v, ⟨a, vs, e, l, r⟩ => ⟨a, vs, e, l.at fun _ e => k _ _ e, RAts.keeps k ts vs r⟩
theorem RAts.keeps {h h' : Heap} (k : ∀ b o, h.get? b = some o → h'.get? b = some o) : ∀ (ts : RTs) (vs : List Value), RAts h ts vs → RAts h' ts vs
  | .nil, vs, x => x
  | .cons t ts, vs, ⟨v, r, e, x, y⟩ => ⟨v, r, e, RAt.keeps k t v x, RAts.keeps k ts r y⟩
end

end Mine
end
section -- W1
open PySem PySem.W PySem.Calls PyProof.Rows
set_option maxRecDepth 100000
set_option maxHeartbeats 4000000
namespace Mine
theorem fillOk_W1 : (PySem.Challenge.rw_vn0025_01 = PySem.Challenge.rw_vn0025_01 ∧ fragK = fragK) := by k_fill; exact ⟨rfl, rfl⟩
local macro_rules | `(tactic| walk_at "MINE enter") => `(tactic| (
  k_dflt ((case' ok => assumption); (case' ho => k_is); (case' hcd => k_is); (case' hroom => ((try dsimp only); omega)); (case' hb => conv => lhs; whnf); (case' hs => conv => lhs; whnf); (case' hbind => first | exact BindsTo.of_eq rfl | exact binds_K (Ok.frag (by assumption)) rfl (by k_is) rfl rfl rfl); (case' hloc => exact locs rfl); (case' hco => exact rfl); (case' hgen => exact rfl); (case' hk => exact rfl); (case' hcell => decide))))
local macro_rules | `(tactic| walk_at "MINE centerC") => `(tactic| (
  k_dflt ((case' ok => assumption); (case' ho => k_is); (case' hcd => k_is); (case' hroom => ((try dsimp only); omega)); (case' hb => conv => lhs; whnf); (case' hs => conv => lhs; whnf); (case' hbind => first | exact BindsTo.of_eq rfl | exact binds_K (Ok.frag (by assumption)) rfl (by k_is) rfl rfl rfl); (case' hloc => exact kindsX rfl); (case' hco => exact rfl); (case' hgen => exact rfl); (case' hk => exact rfl); (case' hcell => decide))))
local macro_rules | `(tactic| walk_at "exec For Name Name cons nil") => `(tactic| refine unhold ?_)
local macro_rules | `(tactic| walk_at "exec For Name Call cons nil") => `(tactic| refine unhold ?_)
local macro_rules | `(tactic| walk_at "pyIter ref") => `(tactic| ((with_reducible show wpAny _ _ (pyIter (Value.ref _)) (fun it s₂ => LoopAtV _ _ _ _ _ _ _ _ _ it s₂) _ _); refine unhold ?_))
local macro_rules | `(tactic| walk_at "eval ListComp") => `(tactic| refine unhold ?_)
local macro_rules | `(tactic| walk_at "exec Assign cons ListComp") => `(tactic| refine unhold ?_)
local macro_rules | `(tactic| walk_at "exec While Compare cons nil") => `(tactic| refine unhold ?_)
local macro_rules | `(tactic| walk_at "eval Name") => `(tactic| (k_here; (with_reducible show wpAny _ _ (eval (Expr.Name _ _) (compEnvC _ _ _ _)) _ _ _); k_dflt (first
  | refine LCgL.ld_own (by k_asm) (by k_mem) (by assumption) (by assumption) ?_
  | refine my_global (by k_asm) (by k_asm) (by k_asm) (by k_is) ?_
  | refine my_built (by k_asm) (by k_asm) (by k_asm) (by k_is) (by boot_by_name) (by decide) ?_)))
local macro_rules | `(tactic| walk_at "binaryOp Add ref ref") => `(tactic| (k_here; (with_reducible show wpAny _ _ (binaryOp _ (Value.ref _) (Value.ref _)) _ _ _); k_dflt (refine' kmk_add_ints ?F ?N ?a ?b ?i ?j ?_ ?z; (case F => k_asm); (case N => k_asm); (case a => kmk_list); (case b => kmk_list); (case i => l_ints); (case j => l_ints); (case z => ((simp only [sizeLine_eq, List.length_append, List.length_map, List.length_cons, List.length_nil, Array.length_toList, KBw.ints_length]); omega))); intro D' ws' h' F' N' l1 hI'; (try k_lt l1); (try k_sweep)))
local macro_rules | `(tactic| walk_at "binaryOp Add str str") => `(tactic| (k_here; (refine my_add_str ?_ ?kz; (case kz => ((simp only [PySem.Str.length_append]; (try simp only [my_len1]); omega)))); intro _ _))
local macro_rules | `(tactic| walk_at "call builtin:list.append") => `(tactic| (k_here; (with_reducible show wpAny _ _ (call (Value.builtin _) [Value.ref _, _]) _ _ _); k_dflt (refine' append_K ?k1 ?k2 ?k3 ?_ ?z; (case k1 => k_asm); (case k2 => k_asm); (case k3 => k_upd); (case z => (simp only [List.size_toArray, sizeLine_eq]; omega)); k_whole); intro h' F' N'; (try k_sweep)))
variable {w : World} {A : Around} {s : Shared} {Q E : Value → Shared → Prop}
theorem is_bytes_spec (b : Array UInt8) (tb : Tok) (ok : Ok w s.heap) (r : Room A 1 6)
   (hQ : ∀ h' tk, (∀ b o, s.heap.get? b = some o → h'.get? b = some o) → Q (.bool true) { s with heap := h', toks := tk }) :
   wpAny (model PG w) A (call (.ref 254) [.bytes b tb]) Q E s := by
  have := fillOk_W1; clear this
  w_on
  obtain ⟨hdl, dep, frs, gds, un⟩ := A
  obtain ⟨hd, hu, hh⟩ := r
  dsimp only at hd hu hh; subst hh
  refine' enter_q [(.ofString "value", .bytes b tb)] ?ok ?ho ?hcd ?hroom ?hb ?hs ?hbind ?hloc ?hco ?hgen ?hk ?hcell ?_
  walk_at "MINE enter"
  intro h₁ mg mb tk0 X T F N
  k_steps
  rename_i F' _ _ _
  exact hQ _ _ F'.keep
theorem bInts_inj {a b : Array UInt8} (h : KBw.bInts a = KBw.bInts b) : a = b := by
  have h' : a.toList.map (fun c : UInt8 => ((c.toNat : Nat) : Int)) = b.toList.map fun c : UInt8 => ((c.toNat : Nat) : Int) := h
  refine Array.toList_inj.mp (List.map_inj_right (fun x y e => ?_) |>.mp h')
  exact UInt8.toNat_inj.mp (Int.ofNat.inj e)
theorem be_to_int_spec (b : Array UInt8) (c : UInt8) (hb : b = #[c]) (tb : Tok) (ok : Ok w s.heap) (r : Room A 1 6)
   (hQ : ∀ h' tk t, (∀ b o, s.heap.get? b = some o → h'.get? b = some o) → Q (.int c.toNat t) { s with heap := h', toks := tk }) :
   wpAny (model PG w) A (call (.ref 261) [.bytes b tb]) Q E s := by
  have hbi : KBw.bInts b = [(c.toNat : Int)] := by subst hb; rfl
  have := fillOk_W1; clear this
  w_on
  obtain ⟨hdl, dep, frs, gds, un⟩ := A
  obtain ⟨hd, hu, hh⟩ := r
  dsimp only at hd hu hh; subst hh
  refine' enter_q [(.ofString "value", .bytes b tb)] ?ok ?ho ?hcd ?hroom ?hb ?hs ?hbind ?hloc ?hco ?hgen ?hk ?hcell ?_
  walk_at "MINE enter"
  intro h₁ mg mb tk0 X T F N
  k_steps
  rename_i F' _ _ _ _
  rw [Int.zero_mul, Int.zero_add]
  exact hQ _ _ _ F'.keep
open PyProof PyProof.Rows PySem.Builtin.Int Builtin.Int in
theorem bits8 {n : Nat} (h0 : 0 < n) (h1 : n < 256) : ((Builtin.Int.intBits (n : Int) : Int) + 7).fdiv 8 = 1 := by
  have a : Builtin.Int.intBits (n : Int) ≤ 8 := intBits_le_iff.mpr (by omega)
  have b : ¬ Builtin.Int.intBits (n : Int) ≤ 0 := fun h => by have := intBits_le_iff.mp h; omega
  rw [Int.fdiv_eq_ediv_of_nonneg _ (by decide)]; omega
theorem to_be_spec (n : Nat) (tb : Tok) (h0 : 0 < n) (h1 : n < 256) (ok : Ok w s.heap) (r : Room A 1 6)
   (hQ : ∀ h' tk t, (∀ b o, s.heap.get? b = some o → h'.get? b = some o) → Q (.bytes #[n.toUInt8] t) { s with heap := h', toks := tk }) :
   wpAny (model PG w) A (call (.ref 268) [.int n tb]) Q E s := by
  have := fillOk_W1; clear this
  w_on
  obtain ⟨hdl, dep, frs, gds, un⟩ := A
  obtain ⟨hd, hu, hh⟩ := r
  dsimp only at hd hu hh; subst hh
  refine' enter_q [(.ofString "value", .int n tb)] ?ok ?ho ?hcd ?hroom ?hb ?hs ?hbind ?hloc ?hco ?hgen ?hk ?hcell ?_
  walk_at "MINE enter"
  intro h₁ mg mb tk0 X T F N
  k_steps
  · rw [bits8 h0 h1]
    refine KTBy.to_big (k := 1) (B := 256) (by decide) (by decide) (by omega) (by omega) fun b t' k' hb hl => ?_
    have : b = #[n.toUInt8] := bInts_inj (hb.trans (by
      show [((n : Int) % 256)] = [((n.toUInt8.toNat : Nat) : Int)]
      simp))
    subst this
    exact hQ _ _ _ F.keep
  · rename_i hx _ _ _
    rw [bits8 h0 h1] at hx
    exact absurd hx (by decide)
def allB (items : Array Value) : Bool := (List.range 256).all fun i => match items[i]? with | some (.bytes b _) => b == #[i.toUInt8] | _ => false
theorem allB_get {items : Array Value} (h : allB items = true) {i : Nat} (hi : i < 256) : ∃ t, items[i]? = some (.bytes #[i.toUInt8] t) := by
  have := List.all_eq_true.mp h i (List.mem_range.mpr hi)
  split at this
  · rename_i b t e
    exact ⟨t, by rw [e, eq_of_beq this]⟩
  · cases this
theorem all_bytes (P : Params) : ∃ o items n, (fragK P).lookup 245 = some o ∧ o.cls = .type "tuple" ∧ o.data = .seq items n ∧ items.size = 256 ∧ allB items = true := ⟨_, _, _, rfl, rfl, rfl, by decide +kernel, by decide +kernel⟩
theorem sub_all_bytes {prog : Program} {value slice : Expr} {k : Int} {u : Tok} (j : Nat) {Q : Value → Shared → Prop} (X : ∀ b o, (fragK w.params).lookup b = some o → s.heap.get? b = some o) (hk : k = j) (hj : j < 256)
    (hs : subscripted slice false (.ref 245) (.int k u) = operate [.ref 245, .int k u] (getItem (.ref 245) (.int k u))) (h : ∀ t, Q (.bytes #[j.toUInt8] t) s) :
    wpAny (model prog w) A (subscriptTail value slice (.ref 245) (.int k u)) Q E s := by
  subst hk
  obtain ⟨o, items, m, hlo, hc, hdat, hsz, hal⟩ := all_bytes w.params
  obtain ⟨t, ht⟩ := allB_get hal hj
  refine item_tupleT (l := items.toList) (j := j) (x := .bytes #[j.toUInt8] t) ⟨o, X _ _ hlo, hc, m, by rw [hdat]⟩ (by omega) (by omega) ?_ (by simpa using ht) (h t) hs
  rw [Array.length_toList, hsz]
  unfold seqIndex?
  simp
  omega
theorem length_prefix_spec (n off : Nat) (tb tc : Tok) (h1 : n < 200) (ho : off = 128 ∨ off = 192) (ok : Ok w s.heap) (r : Room A 2 9)
   (hQ : ∀ h' tk t, (∀ b o, s.heap.get? b = some o → h'.get? b = some o) → Q (.bytes (if n < 56 then #[(off + n).toUInt8] else #[(off + 56).toUInt8, n.toUInt8]) t) { s with heap := h', toks := tk }) :
   wpAny (model PG w) A (call (.ref 485) [.int n tb, .int off tc]) Q E s := by
  have := fillOk_W1; clear this
  w_on
  obtain ⟨hdl, dep, frs, gds, un⟩ := A
  obtain ⟨hd, hu, hh⟩ := r
  dsimp only at hd hu hh; subst hh
  refine' enter_q [(.ofString "length", .int n tb), (.ofString "offset", .int off tc)] ?ok ?ho ?hcd ?hroom ?hb ?hs ?hbind ?hloc ?hco ?hgen ?hk ?hcell ?_
  walk_at "MINE enter"
  intro h₁ mg mb tk0 X T F N
  k_steps
  · rename_i hlt
    refine sub_all_bytes (off + n) (fun b o e => F.keep _ _ (X _ _ e)) (by omega) (by omega) (by with_unfolding_all rfl) fun t => ?_
    have := fun k => hQ h₁ k t F.keep
    rw [if_pos (by omega)] at this
    exact this _
  · rename_i hge
    refine to_be_spec n _ (by omega) (by omega) (ok.stays F.keep) (Room.deeper ⟨hd, hu, rfl⟩) fun h2 tk2 t2 k2 => ?_
    have F2 := F.after k2
    have N2 := News.stays N k2
    k_steps
    refine sub_all_bytes (off + 56) (fun b o e => Fr.keep (h₀ := s.heap) (L := s.heap.objs.size) (by assumption) _ _ (X _ _ e)) (by simp) (by omega) (by with_unfolding_all rfl) fun t => ?_
    k_steps
    rw [if_neg (by omega)] at hQ
    exact hQ _ _ _ (Fr.keep (by assumption))

end Mine
end
section -- W2
open PySem PySem.W PySem.Calls PyProof.Rows
set_option maxRecDepth 100000
set_option maxHeartbeats 4000000
namespace Mine
theorem fillOk_W2 : (PySem.Challenge.rw_vn0025_01 = PySem.Challenge.rw_vn0025_01 ∧ fragK = fragK) := fillOk_W1
local macro_rules | `(tactic| walk_at "MINE enter") => `(tactic| (
  k_dflt ((case' ok => assumption); (case' ho => k_is); (case' hcd => k_is); (case' hroom => ((try dsimp only); omega)); (case' hb => conv => lhs; whnf); (case' hs => conv => lhs; whnf); (case' hbind => first | exact BindsTo.of_eq rfl | exact binds_K (Ok.frag (by assumption)) rfl (by k_is) rfl rfl rfl); (case' hloc => exact locs rfl); (case' hco => exact rfl); (case' hgen => exact rfl); (case' hk => exact rfl); (case' hcell => decide))))
local macro_rules | `(tactic| walk_at "MINE centerC") => `(tactic| (
  k_dflt ((case' ok => assumption); (case' ho => k_is); (case' hcd => k_is); (case' hroom => ((try dsimp only); omega)); (case' hb => conv => lhs; whnf); (case' hs => conv => lhs; whnf); (case' hbind => first | exact BindsTo.of_eq rfl | exact binds_K (Ok.frag (by assumption)) rfl (by k_is) rfl rfl rfl); (case' hloc => exact kindsX rfl); (case' hco => exact rfl); (case' hgen => exact rfl); (case' hk => exact rfl); (case' hcell => decide))))
local macro_rules | `(tactic| walk_at "exec For Name Name cons nil") => `(tactic| refine unhold ?_)
local macro_rules | `(tactic| walk_at "exec For Name Call cons nil") => `(tactic| refine unhold ?_)
local macro_rules | `(tactic| walk_at "pyIter ref") => `(tactic| ((with_reducible show wpAny _ _ (pyIter (Value.ref _)) (fun it s₂ => LoopAtV _ _ _ _ _ _ _ _ _ it s₂) _ _); refine unhold ?_))
local macro_rules | `(tactic| walk_at "eval ListComp") => `(tactic| refine unhold ?_)
local macro_rules | `(tactic| walk_at "exec Assign cons ListComp") => `(tactic| refine unhold ?_)
local macro_rules | `(tactic| walk_at "exec While Compare cons nil") => `(tactic| refine unhold ?_)
local macro_rules | `(tactic| walk_at "eval Name") => `(tactic| (k_here; (with_reducible show wpAny _ _ (eval (Expr.Name _ _) (compEnvC _ _ _ _)) _ _ _); k_dflt (first
  | refine LCgL.ld_own (by k_asm) (by k_mem) (by assumption) (by assumption) ?_
  | refine my_global (by k_asm) (by k_asm) (by k_asm) (by k_is) ?_
  | refine my_built (by k_asm) (by k_asm) (by k_asm) (by k_is) (by boot_by_name) (by decide) ?_)))
local macro_rules | `(tactic| walk_at "binaryOp Add ref ref") => `(tactic| (k_here; (with_reducible show wpAny _ _ (binaryOp _ (Value.ref _) (Value.ref _)) _ _ _); k_dflt (refine' kmk_add_ints ?F ?N ?a ?b ?i ?j ?_ ?z; (case F => k_asm); (case N => k_asm); (case a => kmk_list); (case b => kmk_list); (case i => l_ints); (case j => l_ints); (case z => ((simp only [sizeLine_eq, List.length_append, List.length_map, List.length_cons, List.length_nil, Array.length_toList, KBw.ints_length]); omega))); intro D' ws' h' F' N' l1 hI'; (try k_lt l1); (try k_sweep)))
local macro_rules | `(tactic| walk_at "binaryOp Add str str") => `(tactic| (k_here; (refine my_add_str ?_ ?kz; (case kz => ((simp only [PySem.Str.length_append]; (try simp only [my_len1]); omega)))); intro _ _))
local macro_rules | `(tactic| walk_at "call builtin:list.append") => `(tactic| (k_here; (with_reducible show wpAny _ _ (call (Value.builtin _) [Value.ref _, _]) _ _ _); k_dflt (refine' append_K ?k1 ?k2 ?k3 ?_ ?z; (case k1 => k_asm); (case k2 => k_asm); (case k3 => k_upd); (case z => (simp only [List.size_toArray, sizeLine_eq]; omega)); k_whole); intro h' F' N'; (try k_sweep)))
variable {w : World} {A : Around} {s : Shared} {Q E : Value → Shared → Prop}
open PyProof PyProof.Rows Builtin.Int in
theorem shl_and (c : Int) : (Builtin.Int.intBits (Builtin.bitAnd c 33554431) : Int) + 5 ≤ 2 ^ 27 := by
  have h := bitAnd_range c (y := 33554431) (by decide)
  have h2 : Builtin.Int.intBits (Builtin.bitAnd c 33554431) ≤ 25 := intBits_le_iff.mpr (by omega)
  omega
def pmGen (k : Int) : Int := ([996825010, 642813549, 513874426, 1027748829, 705979059] : List Int).getD k.toNat 0
def pmIn (top : Int) (chk : Int) (k : Nat) : Int := Builtin.bitXor chk (if Builtin.bitAnd (top.fdiv (2 ^ (k : Int).toNat)) 1 ≠ 0 then pmGen k else 0)
def pmStep (chk : Int) (v : Int) : Int := (List.range 5).foldl (pmIn (chk.fdiv (2 ^ 25))) (Builtin.bitXor (Builtin.bitAnd chk 33554431 * 32) v)
local macro_rules | `(tactic| walk_at "binaryOp LShift int int") => `(tactic| (k_here; (with_reducible refine lshift_int (by decide) (shl_and _) ?_)))
theorem polymod_spec (l : Addr) (vs : List Value) (ns : List Int) (hl : s.heap.IsList l vs.toArray) (hi : IntsAre vs ns) (ok : Ok w s.heap) (r : Room A 1 6)
   (hQ : ∀ h' tk t, (∀ b o, s.heap.get? b = some o → h'.get? b = some o) → Q (.int (ns.foldl pmStep 1) t) { s with heap := h', toks := tk }) :
   wpAny (model PG w) A (call (.ref 56) [.ref l]) Q E s := by
  have := fillOk_W2; clear this
  w_on
  obtain ⟨hdl, dep, frs, gds, un⟩ := A
  obtain ⟨hd, hu, hh⟩ := r
  dsimp only at hd hu hh; subst hh
  refine' enter_q [(.ofString "values", .ref l)] ?ok ?ho ?hcd ?hroom ?hb ?hs ?hbind ?hloc ?hco ?hgen ?hk ?hcell ?_
  walk_at "MINE enter"
  intro h₁ mg mb tk0 X T F N
  k_steps
  rename_i tk _ _ h2 F2 N2
  show wpAny _ _ _ _ _ _
  refine' For_invVF F2 ?_ ?_ ?_
  · exact rfl
  · exact rfl
  k_steps
  show wpAny _ _ _ _ _ _
  rename_i ag _ _ _
  refine my_ints (σ := Int × Tok) (fun _ => _) (fun c => [(.ofString "chk", .int c.1 c.2), (.ofString "generator", .ref ag)]) (fun i c => c.1 = (ns.take i).foldl pmStep 1) (1, _) rfl hl hi F2 N2 (by kst_all) rfl ?_ ?_
  · rintro ⟨c, ct⟩ i n t u h tk own hn - hoff hp F' N'
    dsimp only [kstB] at F' N' hp ⊢
    k_steps
    rename_i F3 N3
    show wpAny _ _ _ _ _ _
    refine' For_invVF F3 ?_ ?_ ?_
    · exact rfl
    · exact rfl
    k_steps
    rename_i F4 N4 _
    show wpAny _ _ _ _ _ _
    refine my_range 5 (σ := Int × Tok × Tok) (fun _ => _) (fun d => [(.ofString "chk", .int d.1 d.2.1), (.ofString "top", .int (c.fdiv (2 ^ 25)) d.2.2), (.ofString "generator", .ref ag)]) (fun i d => d.1 = (List.range i).foldl (pmIn (c.fdiv (2 ^ 25))) (Builtin.bitXor (Builtin.bitAnd c 33554431 * 32) n)) (_, _, _) rfl (by assumption) (by decide) (by decide) F4 N4 (by kst_all) ?_ ?_ ?_
    · exact rfl
    · rintro ⟨d, dt, du⟩ i t' u' h' tk' _ own' rfl hlt - hoff' hp' F' N'
      dsimp only [kstB] at F' N' hp' hlt ⊢
      k_steps
      · rename_i hc _ _ F5 N5
        refine my_end (_, _, _) F5 N5 (fun p hp => List.mem_append_left _ hp) (fun p hp => List.mem_append_right _ hp) rfl (by kst_all) ?_
        dsimp only
        rw [List.range_succ, List.foldl_append, ← hp']
        rw [Int.zero_add] at hc ⊢
        simp only [List.foldl_cons, List.foldl_nil, pmIn]
        rw [if_pos hc]; rfl
      · rename_i hc _ F5 N5
        refine my_end (_, _, _) F5 N5 (fun p hp => List.mem_append_left _ hp) (fun p hp => List.mem_append_right _ hp) rfl (by kst_all) ?_
        dsimp only
        rw [List.range_succ, List.foldl_append, ← hp']
        rw [Int.zero_add] at hc
        simp only [List.foldl_cons, List.foldl_nil, pmIn]
        rw [if_neg (fun z => z hc)]
    · rintro ⟨d, dt, du⟩ u' h' tk' hp' F' N'
      dsimp only [kstB] at F' N' hp' ⊢
      k_steps
      refine my_end (_, _) F' N' (fun p hp => List.mem_append_left _ hp) (fun p hp => List.mem_append_right _ hp) rfl (by kst_all) ?_
      dsimp only
      rw [List.take_add_one, hn]
      simp only [Option.toList, List.foldl_append, ← hp, List.foldl_cons, List.foldl_nil]
      exact hp'
  · rintro ⟨c, ct⟩ u h tk hp F' N'
    dsimp only [kstB] at F' N' hp ⊢
    k_steps
    rw [List.take_length] at hp
    subst hp
    exact hQ _ _ _ F'.keep

end Mine
end
section -- W3
open PySem PySem.W PySem.Calls PyProof.Rows
set_option maxRecDepth 100000
set_option maxHeartbeats 4000000
namespace Mine
theorem fillOk_W3 : (PySem.Challenge.rw_vn0025_01 = PySem.Challenge.rw_vn0025_01 ∧ fragK = fragK) := fillOk_W1
local macro_rules | `(tactic| walk_at "MINE enter") => `(tactic| (
  k_dflt ((case' ok => assumption); (case' ho => k_is); (case' hcd => k_is); (case' hroom => ((try dsimp only); omega)); (case' hb => conv => lhs; whnf); (case' hs => conv => lhs; whnf); (case' hbind => first | exact BindsTo.of_eq rfl | exact binds_K (Ok.frag (by assumption)) rfl (by k_is) rfl rfl rfl); (case' hloc => exact locs rfl); (case' hco => exact rfl); (case' hgen => exact rfl); (case' hk => exact rfl); (case' hcell => decide))))
local macro_rules | `(tactic| walk_at "MINE centerC") => `(tactic| (
  k_dflt ((case' ok => assumption); (case' ho => k_is); (case' hcd => k_is); (case' hroom => ((try dsimp only); omega)); (case' hb => conv => lhs; whnf); (case' hs => conv => lhs; whnf); (case' hbind => first | exact BindsTo.of_eq rfl | exact binds_K (Ok.frag (by assumption)) rfl (by k_is) rfl rfl rfl); (case' hloc => exact kindsX rfl); (case' hco => exact rfl); (case' hgen => exact rfl); (case' hk => exact rfl); (case' hcell => decide))))
local macro_rules | `(tactic| walk_at "exec For Name Name cons nil") => `(tactic| refine unhold ?_)
local macro_rules | `(tactic| walk_at "exec For Name Call cons nil") => `(tactic| refine unhold ?_)
local macro_rules | `(tactic| walk_at "pyIter ref") => `(tactic| ((with_reducible show wpAny _ _ (pyIter (Value.ref _)) (fun it s₂ => LoopAtV _ _ _ _ _ _ _ _ _ it s₂) _ _); refine unhold ?_))
local macro_rules | `(tactic| walk_at "eval ListComp") => `(tactic| refine unhold ?_)
local macro_rules | `(tactic| walk_at "exec Assign cons ListComp") => `(tactic| refine unhold ?_)
local macro_rules | `(tactic| walk_at "exec While Compare cons nil") => `(tactic| refine unhold ?_)
local macro_rules | `(tactic| walk_at "eval Name") => `(tactic| (k_here; (with_reducible show wpAny _ _ (eval (Expr.Name _ _) (compEnvC _ _ _ _)) _ _ _); k_dflt (first
  | refine LCgL.ld_own (by k_asm) (by k_mem) (by assumption) (by assumption) ?_
  | refine my_global (by k_asm) (by k_asm) (by k_asm) (by k_is) ?_
  | refine my_built (by k_asm) (by k_asm) (by k_asm) (by k_is) (by boot_by_name) (by decide) ?_)))
local macro_rules | `(tactic| walk_at "binaryOp Add ref ref") => `(tactic| (k_here; (with_reducible show wpAny _ _ (binaryOp _ (Value.ref _) (Value.ref _)) _ _ _); k_dflt (refine' kmk_add_ints ?F ?N ?a ?b ?i ?j ?_ ?z; (case F => k_asm); (case N => k_asm); (case a => kmk_list); (case b => kmk_list); (case i => l_ints); (case j => l_ints); (case z => ((simp only [sizeLine_eq, List.length_append, List.length_map, List.length_cons, List.length_nil, Array.length_toList, KBw.ints_length]); omega))); intro D' ws' h' F' N' l1 hI'; (try k_lt l1); (try k_sweep)))
local macro_rules | `(tactic| walk_at "binaryOp Add str str") => `(tactic| (k_here; (refine my_add_str ?_ ?kz; (case kz => ((simp only [PySem.Str.length_append]; (try simp only [my_len1]); omega)))); intro _ _))
local macro_rules | `(tactic| walk_at "call builtin:list.append") => `(tactic| (k_here; (with_reducible show wpAny _ _ (call (Value.builtin _) [Value.ref _, _]) _ _ _); k_dflt (refine' append_K ?k1 ?k2 ?k3 ?_ ?z; (case k1 => k_asm); (case k2 => k_asm); (case k3 => k_upd); (case z => (simp only [List.size_toArray, sizeLine_eq]; omega)); k_whole); intro h' F' N'; (try k_sweep)))
variable {w : World} {A : Around} {s : Shared} {Q E : Value → Shared → Prop}
theorem ints_snoc {ys : List Value} {f : Nat → Int} {l : List Nat} {i c : Nat} {t : Tok} (h : IntsAre ys ((l.take i).map f)) (e : l[i]? = some c) : IntsAre (ys ++ [.int (f c) t]) ((l.take (i + 1)).map f) := by
  rw [List.take_add_one, e, List.map_append]
  exact h.append (.cons _ _ .nil)
theorem hrp_expand_spec (h : Str) (th : Tok) (ok : Ok w s.heap) (r : Room A 1 6) (ha : h.cps.all (· < 128) = true) (hsz : h.cps.size ≤ 100)
   (hQ : ∀ h' tk l vs n, (∀ b o, s.heap.get? b = some o → h'.get? b = some o) → s.heap.get? l = none → h'.get? l = some (W.listOf vs.toArray n) →
      IntsAre vs (h.cps.toList.map (fun c => ((c : Nat) : Int).fdiv (2 ^ 5)) ++ [0] ++ h.cps.toList.map (fun c => Builtin.bitAnd ((c : Nat) : Int) 31)) → Q (.ref l) { s with heap := h', toks := tk }) :
   wpAny (model PG w) A (call (.ref 61) [.str h th]) Q E s := by
  have := fillOk_W3; clear this
  w_on
  obtain ⟨hdl, dep, frs, gds, un⟩ := A
  obtain ⟨hd, hu, hh⟩ := r
  dsimp only at hd hu hh; subst hh
  refine' enter_q [(.ofString "hrp", .str h th)] ?ok ?ho ?hcd ?hroom ?hb ?hs ?hbind ?hloc ?hco ?hgen ?hk ?hcell ?_
  walk_at "MINE enter"
  intro h₁ mg mb tk0 X T F N
  have hs1 : h.cps.size ≤ sizeLine := Nat.le_trans hsz (by rw [sizeLine_eq]; decide)
  k_steps
  show wpAny _ _ _ _ _ _
  refine my_comp (cl := []) F rfl (by decide) rfl (by decide) rfl ?_
  k_steps
  refine ⟨_, _, _, fun i ys => IntsAre ys ((h.cps.toList.take i).map fun c => ((c : Nat) : Int).fdiv (2 ^ 5)), src_ascii rfl ha, hs1, F, N, .nil, ?_, ?_⟩
  · rintro i v I oI C oC D ys m₂ h' tk' E' hi ⟨c, u, hc, rfl⟩ hC hx F' N' hJ
    have cE := InElt.start h'
    k_steps
    exact myC F' N' (fun _ h => h) (ints_snoc (t := _) hJ (by simpa using hc))
  · intro ys hJ D h' tk' F' N' o1
    try dsimp only at hJ
    k_steps
    show wpAny _ _ _ _ _ _
    rename_i F2 N2 hI2 _
    refine my_comp (cl := []) F2 rfl (by decide) rfl (by decide) rfl ?_
    k_steps
    refine ⟨_, _, _, fun i ys => IntsAre ys ((h.cps.toList.take i).map fun c => Builtin.bitAnd ((c : Nat) : Int) 31), src_ascii rfl ha, hs1, F2, N2, .nil, ?_, ?_⟩
    · rintro i v I oI C oC D ys m₂ h' tk' E' hi ⟨c, u, hc, rfl⟩ hC hx F' N' hJ
      have cE := InElt.start h'
      k_steps
      exact myC F' N' (fun _ h => h) (ints_snoc (t := _) hJ (by simpa using hc))
    · intro ys hJ D h' tk' F' N' o1
      try dsimp only at hJ
      k_steps
      rename_i ws _ F2 N2 hI _
      have e : h.cps.toList.take h.cps.size = h.cps.toList := by rw [← Array.length_toList, List.take_length]
      rw [e] at hI
      exact hQ _ _ _ ws 0 F2.keep (N2 _ (.head _)).2.2 (N2 _ (.head _)).1 hI

end Mine
end
section -- W8
open PySem PySem.W PySem.Calls PyProof.Rows
set_option maxRecDepth 100000
set_option maxHeartbeats 4000000
namespace Mine
theorem fillOk_W8 : (PySem.Challenge.rw_vn0025_01 = PySem.Challenge.rw_vn0025_01 ∧ fragK = fragK) := fillOk_W1
local macro_rules | `(tactic| walk_at "MINE enter") => `(tactic| (
  k_dflt ((case' ok => assumption); (case' ho => k_is); (case' hcd => k_is); (case' hroom => ((try dsimp only); omega)); (case' hb => conv => lhs; whnf); (case' hs => conv => lhs; whnf); (case' hbind => first | exact BindsTo.of_eq rfl | exact binds_K (Ok.frag (by assumption)) rfl (by k_is) rfl rfl rfl); (case' hloc => exact locs rfl); (case' hco => exact rfl); (case' hgen => exact rfl); (case' hk => exact rfl); (case' hcell => decide))))
local macro_rules | `(tactic| walk_at "MINE centerC") => `(tactic| (
  k_dflt ((case' ok => assumption); (case' ho => k_is); (case' hcd => k_is); (case' hroom => ((try dsimp only); omega)); (case' hb => conv => lhs; whnf); (case' hs => conv => lhs; whnf); (case' hbind => first | exact BindsTo.of_eq rfl | exact binds_K (Ok.frag (by assumption)) rfl (by k_is) rfl rfl rfl); (case' hloc => exact kindsX rfl); (case' hco => exact rfl); (case' hgen => exact rfl); (case' hk => exact rfl); (case' hcell => decide))))
local macro_rules | `(tactic| walk_at "exec For Name Name cons nil") => `(tactic| refine unhold ?_)
local macro_rules | `(tactic| walk_at "exec For Name Call cons nil") => `(tactic| refine unhold ?_)
local macro_rules | `(tactic| walk_at "pyIter ref") => `(tactic| ((with_reducible show wpAny _ _ (pyIter (Value.ref _)) (fun it s₂ => LoopAtV _ _ _ _ _ _ _ _ _ it s₂) _ _); refine unhold ?_))
local macro_rules | `(tactic| walk_at "eval ListComp") => `(tactic| refine unhold ?_)
local macro_rules | `(tactic| walk_at "exec Assign cons ListComp") => `(tactic| refine unhold ?_)
local macro_rules | `(tactic| walk_at "exec While Compare cons nil") => `(tactic| refine unhold ?_)
local macro_rules | `(tactic| walk_at "eval Name") => `(tactic| (k_here; (with_reducible show wpAny _ _ (eval (Expr.Name _ _) (compEnvC _ _ _ _)) _ _ _); k_dflt (first
  | refine LCgL.ld_own (by k_asm) (by k_mem) (by assumption) (by assumption) ?_
  | refine my_global (by k_asm) (by k_asm) (by k_asm) (by k_is) ?_
  | refine my_built (by k_asm) (by k_asm) (by k_asm) (by k_is) (by boot_by_name) (by decide) ?_)))
local macro_rules | `(tactic| walk_at "binaryOp Add ref ref") => `(tactic| (k_here; (with_reducible show wpAny _ _ (binaryOp _ (Value.ref _) (Value.ref _)) _ _ _); k_dflt (refine' kmk_add_ints ?F ?N ?a ?b ?i ?j ?_ ?z; (case F => k_asm); (case N => k_asm); (case a => kmk_list); (case b => kmk_list); (case i => l_ints); (case j => l_ints); (case z => ((simp only [sizeLine_eq, List.length_append, List.length_map, List.length_cons, List.length_nil, Array.length_toList, KBw.ints_length]); omega))); intro D' ws' h' F' N' l1 hI'; (try k_lt l1); (try k_sweep)))
local macro_rules | `(tactic| walk_at "binaryOp Add str str") => `(tactic| (k_here; (refine my_add_str ?_ ?kz; (case kz => ((simp only [PySem.Str.length_append]; (try simp only [my_len1]); omega)))); intro _ _))
local macro_rules | `(tactic| walk_at "call builtin:list.append") => `(tactic| (k_here; (with_reducible show wpAny _ _ (call (Value.builtin _) [Value.ref _, _]) _ _ _); k_dflt (refine' append_K ?k1 ?k2 ?k3 ?_ ?z; (case k1 => k_asm); (case k2 => k_asm); (case k3 => k_upd); (case z => (simp only [List.size_toArray, sizeLine_eq]; omega)); k_whole); intro h' F' N'; (try k_sweep)))
variable {w : World} {A : Around} {s : Shared} {Q E : Value → Shared → Prop}
def hx (h : Str) : List Int := h.cps.toList.map (fun c => ((c : Nat) : Int).fdiv (2 ^ 5)) ++ [0] ++ h.cps.toList.map (fun c => Builtin.bitAnd ((c : Nat) : Int) 31)
def pmI (ns : List Int) : Int := ns.foldl pmStep 1
theorem isList_of {h : Heap} {l : Addr} {vs : List Value} {n : Nat} (e : h.get? l = some (W.listOf vs.toArray n)) : h.IsList l vs.toArray := ⟨_, e, rfl, n, rfl⟩
theorem verify_spec (h : Str) (th : Tok) (l : Addr) (vs : List Value) (ns : List Int) (hl : s.heap.IsList l vs.toArray) (hi : IntsAre vs ns) (ha : h.cps.all (· < 128) = true) (hsz : h.cps.size ≤ 100) (hn : ns.length ≤ 1000) (ok : Ok w s.heap) (r : Room A 2 9)
   (hQ : ∀ h' tk, (∀ b o, s.heap.get? b = some o → h'.get? b = some o) → Q (.bool (pmI (hx h ++ ns) == 1)) { s with heap := h', toks := tk }) :
   wpAny (model PG w) A (call (.ref 68) [.str h th, .ref l]) Q E s := by
  have := fillOk_W8; clear this
  w_on
  obtain ⟨hdl, dep, frs, gds, un⟩ := A
  obtain ⟨hd, hu, hh⟩ := r
  dsimp only at hd hu hh; subst hh
  refine' enter_q [(.ofString "hrp", .str h th), (.ofString "data", .ref l)] ?ok ?ho ?hcd ?hroom ?hb ?hs ?hbind ?hloc ?hco ?hgen ?hk ?hcell ?_
  walk_at "MINE enter"
  intro h₁ mg mb tk0 X T F N
  have hlen : vs.length ≤ 1000 := by rw [hi.length]; exact hn
  k_steps
  refine hrp_expand_spec h _ (ok.stays F.keep) (Room.deeper ⟨hd, hu, rfl⟩) ha hsz fun h2 tk2 l2 vs2 n2 k2 f2 e2 i2 => ?_
  have F2 := F.after k2
  have N2 := News.add F (News.stays N k2) f2 e2
  k_steps
  rename_i F3 N3 hI3 _
  refine polymod_spec _ _ _ (isList_of (N3 _ (.head _)).1) hI3 (ok.stays F3.keep) (Room.deeper ⟨by omega, by omega, rfl⟩) fun h4 tk4 t4 k4 => ?_
  have F4 := F3.after k4
  have N4 := News.stays N3 k4
  k_steps
  exact hQ _ _ F4.keep
def ckI (h : Str) (ns : List Int) (i : Nat) : Int := Builtin.bitAnd ((Builtin.bitXor (pmI (hx h ++ ns ++ [0, 0, 0, 0, 0, 0])) 1).fdiv (2 ^ (5 * (5 - (0 + (i : Int)))).toNat)) 31
theorem create_spec (h : Str) (th : Tok) (l : Addr) (vs : List Value) (ns : List Int) (hl : s.heap.IsList l vs.toArray) (hi : IntsAre vs ns) (ha : h.cps.all (· < 128) = true) (hsz : h.cps.size ≤ 100) (hn : ns.length ≤ 1000) (ok : Ok w s.heap) (r : Room A 2 9)
   (hQ : ∀ h' tk l vs n, (∀ b o, s.heap.get? b = some o → h'.get? b = some o) → s.heap.get? l = none → h'.get? l = some (W.listOf vs.toArray n) → IntsAre vs ((List.range 6).map (ckI h ns)) → Q (.ref l) { s with heap := h', toks := tk }) :
   wpAny (model PG w) A (call (.ref 73) [.str h th, .ref l]) Q E s := by
  have := fillOk_W8; clear this
  w_on
  obtain ⟨hdl, dep, frs, gds, un⟩ := A
  obtain ⟨hd, hu, hh⟩ := r
  dsimp only at hd hu hh; subst hh
  refine' enter_qc [(.ofString "hrp", .str h th), (.ofString "data", .ref l)] ?ok ?ho ?hcd ?hroom ?hb ?hs ?hbind ?hloc ?hco ?hgen ?hk ?hcell ?_
  walk_at "MINE centerC"
  intro h₁ mg mb tk0 cells X T F N Y
  have hlen : vs.length ≤ 1000 := by rw [hi.length]; exact hn
  k_cells Y
  rename_i d1
  replace d1 : _ = Data.cell none := d1
  k_steps
  refine hrp_expand_spec h _ (ok.stays F.keep) (Room.deeper ⟨hd, hu, rfl⟩) ha hsz fun h2 tk2 l2 vs2 n2 k2 f2 e2 i2 => ?_
  have F2 := F.after k2
  have N2 := News.add F (News.stays N k2) f2 e2
  have hne := ne_fresh (N _ (.head _)).1 f2
  k_steps
  rename_i F3 N3 hI3 _
  refine polymod_spec _ _ _ (isList_of (N3 _ (.head _)).1) hI3 (ok.stays F3.keep) (Room.deeper ⟨by omega, by omega, rfl⟩) fun h4 tk4 t4 k4 => ?_
  have F4 := F3.after k4
  have N4 := News.stays N3 k4
  k_steps
  show wpAny _ _ _ _ _ _
  refine my_comp (cl := _) (by assumption) (by with_unfolding_all rfl) (by decide) rfl (by decide) rfl ?_
  k_steps
  rename_i hr F5 N5 _
  refine ⟨6, _, _, fun i ys => IntsAre ys ((List.range i).map (ckI h ns)), src_range rfl hr (by decide) (by decide), by rw [sizeLine_eq]; decide, F5, N5, .nil, ?_, ?_⟩
  · rintro i v I oI C oC D ys m₂ h' tk' E' hi ⟨t, rfl⟩ hC hx F' N' hJ
    have cE := InElt.start h'
    k_steps
    refine myC F' N' (fun _ h => h) ?_
    show IntsAre _ _
    rw [List.range_succ, List.map_append]
    exact hJ.append (.cons _ _ .nil)
  · intro ys hJ D h' tk' F' N' o1
    exact hQ _ _ _ ys _ F'.keep (N' _ (.head _)).2.2 (N' _ (.head _)).1 hJ
def csS : Str := PySem.Str.ofString "qpzry9x8gf2tvdw0s3jn54khce6mua7l"
def csAt (n : Int) : Nat := (PySem.Txt.charAt (PySem.Str.ofString "qpzry9x8gf2tvdw0s3jn54khce6mua7l") n).getD 0
theorem ckI_range (h : Str) (ns : List Int) (i : Nat) : 0 ≤ ckI h ns i ∧ ckI h ns i < 32 := by
  have := bitAnd_range ((Builtin.bitXor (pmI (hx h ++ ns ++ [0, 0, 0, 0, 0, 0])) 1).fdiv (2 ^ (5 * (5 - (0 + (i : Int)))).toNat)) (y := 31) (by decide)
  unfold ckI; omega
/-- the signs behind the 1 -/
def tailOf (h : Str) (ns : List Int) : List Int := ns ++ (List.range 6).map (ckI h ns)
theorem tailOf_range {h : Str} {ns : List Int} (hns : ∀ n ∈ ns, 0 ≤ n ∧ n < 32) : ∀ n ∈ tailOf h ns, 0 ≤ n ∧ n < 32 := fun n hn => by
  rcases List.mem_append.mp hn with hn | hn
  · exact hns n hn
  · obtain ⟨i, _, rfl⟩ := List.mem_map.mp hn
    exact ckI_range h ns i
def addrOf (h : Str) (ns : List Int) : Str := h ++ PySem.Str.ofString "1" ++ ⟨((tailOf h ns).map csAt).toArray⟩
theorem cs_item {prog : Program} {value slice : Expr} {n : Int} {t u : Tok} (hb : 0 ≤ n ∧ n < 32) {Q : Value → Shared → Prop} (h : ∀ t', Q (.str ⟨#[csAt n]⟩ t') { s with toks := s.toks + 1 })
    (hs : subscripted slice false (.str (PySem.Str.ofString "qpzry9x8gf2tvdw0s3jn54khce6mua7l") t) (.int n u) = operate [.str (PySem.Str.ofString "qpzry9x8gf2tvdw0s3jn54khce6mua7l") t, .int n u] (getItem (.str (PySem.Str.ofString "qpzry9x8gf2tvdw0s3jn54khce6mua7l") t) (.int n u)) := by with_unfolding_all rfl)
    (ht : ∀ r, letTemporaryGo value (.str (PySem.Str.ofString "qpzry9x8gf2tvdw0s3jn54khce6mua7l") t) r = pure () := by intro _; with_unfolding_all rfl) :
    wpAny (model prog w) A (subscriptTail value slice (.str (PySem.Str.ofString "qpzry9x8gf2tvdw0s3jn54khce6mua7l") t) (.int n u)) Q E s := by
  have e : (PySem.Str.ofString "qpzry9x8gf2tvdw0s3jn54khce6mua7l").length = 32 := by decide
  exact item_str (fitsSsize_of (N := 9223372036854775808) (by omega) (by omega) (Int.le_refl _)) (by rw [e]; omega) (by rw [e]; omega) (fun _ => h _) hs ht
local macro_rules | `(tactic| walk_at "subscriptTail Name Name str int") => `(tactic| (k_here; (refine cs_item (by assumption) ?_); intro _))
theorem encode32_spec (h : Str) (th : Tok) (l : Addr) (vs : List Value) (ns : List Int) (hl : s.heap.IsList l vs.toArray) (hi : IntsAre vs ns) (hns : ∀ n ∈ ns, 0 ≤ n ∧ n < 32) (ha : h.cps.all (· < 128) = true) (hsz : h.cps.size ≤ 100) (hn : ns.length ≤ 1000) (ok : Ok w s.heap) (r : Room A 3 12)
   (hQ : ∀ h' tk t, (∀ b o, s.heap.get? b = some o → h'.get? b = some o) → Q (.str (addrOf h ns) t) { s with heap := h', toks := tk }) :
   wpAny (model PG w) A (call (.ref 78) [.str h th, .ref l]) Q E s := by
  have := fillOk_W8; clear this
  w_on
  obtain ⟨hdl, dep, frs, gds, un⟩ := A
  obtain ⟨hd, hu, hh⟩ := r
  dsimp only at hd hu hh; subst hh
  refine' enter_q [(.ofString "hrp", .str h th), (.ofString "data", .ref l)] ?ok ?ho ?hcd ?hroom ?hb ?hs ?hbind ?hloc ?hco ?hgen ?hk ?hcell ?_
  walk_at "MINE enter"
  intro h₁ mg mb tk0 X T F N
  have hlen : vs.length ≤ 1000 := by rw [hi.length]; exact hn
  k_steps
  rename_i F1 N1 _
  refine create_spec h _ _ vs ns (F1.lst hl) hi ha hsz hn (ok.stays F1.keep) (Room.deeper ⟨hd, hu, rfl⟩) fun h2 tk2 l2 vs2 n2 k2 f2 e2 i2 => ?_
  have F2 := F1.after k2
  have N2 := News.add F1 (News.stays N1 k2) f2 e2
  have hne := ne_fresh (N1 _ (.head _)).1 f2
  have hl2 : ((List.range 6).map (ckI h ns)).length ≤ 6 := by simp
  have hsz' : h.length ≤ 100 := hsz
  k_steps
  show wpAny _ _ _ _ _ _
  have hI3 := ‹IntsAre _ (ns ++ (List.range 6).map (ckI h ns))›
  have hl3 : (tailOf h ns).length ≤ 1006 := by unfold tailOf; simp; omega
  refine my_comp (cl := []) (by assumption) rfl (by decide) rfl (by decide) rfl ?_
  k_steps
  have F3 := ‹Fr s.heap _ _ _›
  have N3 := ‹News s.heap _ _ _›
  have hl4 := hI3.length
  refine ⟨_, _, _, fun i ys => StrsAre ys (((tailOf h ns).take i).map fun a => (⟨#[csAt a]⟩ : Str)), src_listN rfl (.head _) N3, ?_, F3, N3, .nil, ?_, ?_⟩
  · rw [List.size_toArray, hl4, sizeLine_eq]; show (tailOf h ns).length ≤ _; omega
  · rintro i v I oI C oC D ys m₂ h' tk' E' hi hP hC hx F' N' hJ
    obtain ⟨n, t, hn, rfl⟩ := ints_get' hI3 hP
    have hb : 0 ≤ n ∧ n < 32 := tailOf_range hns n (List.mem_of_getElem? hn)
    have cE := InElt.start h'
    k_steps
    refine myC F' N' (fun _ h => h) ?_
    exact strs_snoc (f := csAt) (t := _) hJ hn
  · intro ys hJ D h' tk' F' N' o1
    k_steps
    have hD : h'.IsList D ys.toArray := ⟨_, (N' (D, LCg.lst ys) (.head _)).1, rfl, _, rfl⟩
    refine my_join (vs := ys) (l := (tailOf h ns).map csAt) ?_ ?_ ?_ fun t5 k5 => ?_
    · exact hD
    · have e : (tailOf h ns).take ((_ : List Value).toArray.size) = tailOf h ns := List.take_of_length_le (by rw [List.size_toArray, hl4]; exact Nat.le_refl _)
      rw [e] at hJ
      rw [List.map_map]; exact hJ
    · rw [List.length_map]; omega
    have hl5 : (⟨((tailOf h ns).map csAt).toArray⟩ : Str).length ≤ 1006 := by show ((tailOf h ns).map csAt).toArray.size ≤ _; simpa using hl3
    k_steps
    exact hQ _ _ _ F'.keep

end Mine
end
section -- W4
open PySem PySem.W PySem.Calls PyProof.Rows
set_option maxRecDepth 100000
set_option maxHeartbeats 4000000
namespace Mine
theorem fillOk_W4 : (PySem.Challenge.rw_vn0025_01 = PySem.Challenge.rw_vn0025_01 ∧ fragK = fragK) := fillOk_W1
local macro_rules | `(tactic| walk_at "MINE enter") => `(tactic| (
  k_dflt ((case' ok => assumption); (case' ho => k_is); (case' hcd => k_is); (case' hroom => ((try dsimp only); omega)); (case' hb => conv => lhs; whnf); (case' hs => conv => lhs; whnf); (case' hbind => first | exact BindsTo.of_eq rfl | exact binds_K (Ok.frag (by assumption)) rfl (by k_is) rfl rfl rfl); (case' hloc => exact locs rfl); (case' hco => exact rfl); (case' hgen => exact rfl); (case' hk => exact rfl); (case' hcell => decide))))
local macro_rules | `(tactic| walk_at "MINE centerC") => `(tactic| (
  k_dflt ((case' ok => assumption); (case' ho => k_is); (case' hcd => k_is); (case' hroom => ((try dsimp only); omega)); (case' hb => conv => lhs; whnf); (case' hs => conv => lhs; whnf); (case' hbind => first | exact BindsTo.of_eq rfl | exact binds_K (Ok.frag (by assumption)) rfl (by k_is) rfl rfl rfl); (case' hloc => exact kindsX rfl); (case' hco => exact rfl); (case' hgen => exact rfl); (case' hk => exact rfl); (case' hcell => decide))))
local macro_rules | `(tactic| walk_at "exec For Name Name cons nil") => `(tactic| refine unhold ?_)
local macro_rules | `(tactic| walk_at "exec For Name Call cons nil") => `(tactic| refine unhold ?_)
local macro_rules | `(tactic| walk_at "pyIter ref") => `(tactic| ((with_reducible show wpAny _ _ (pyIter (Value.ref _)) (fun it s₂ => LoopAtV _ _ _ _ _ _ _ _ _ it s₂) _ _); refine unhold ?_))
local macro_rules | `(tactic| walk_at "eval ListComp") => `(tactic| refine unhold ?_)
local macro_rules | `(tactic| walk_at "exec Assign cons ListComp") => `(tactic| refine unhold ?_)
local macro_rules | `(tactic| walk_at "exec While Compare cons nil") => `(tactic| refine unhold ?_)
local macro_rules | `(tactic| walk_at "eval Name") => `(tactic| (k_here; (with_reducible show wpAny _ _ (eval (Expr.Name _ _) (compEnvC _ _ _ _)) _ _ _); k_dflt (first
  | refine LCgL.ld_own (by k_asm) (by k_mem) (by assumption) (by assumption) ?_
  | refine my_global (by k_asm) (by k_asm) (by k_asm) (by k_is) ?_
  | refine my_built (by k_asm) (by k_asm) (by k_asm) (by k_is) (by boot_by_name) (by decide) ?_)))
local macro_rules | `(tactic| walk_at "binaryOp Add ref ref") => `(tactic| (k_here; (with_reducible show wpAny _ _ (binaryOp _ (Value.ref _) (Value.ref _)) _ _ _); k_dflt (refine' kmk_add_ints ?F ?N ?a ?b ?i ?j ?_ ?z; (case F => k_asm); (case N => k_asm); (case a => kmk_list); (case b => kmk_list); (case i => l_ints); (case j => l_ints); (case z => ((simp only [sizeLine_eq, List.length_append, List.length_map, List.length_cons, List.length_nil, Array.length_toList, KBw.ints_length]); omega))); intro D' ws' h' F' N' l1 hI'; (try k_lt l1); (try k_sweep)))
local macro_rules | `(tactic| walk_at "binaryOp Add str str") => `(tactic| (k_here; (refine my_add_str ?_ ?kz; (case kz => ((simp only [PySem.Str.length_append]; (try simp only [my_len1]); omega)))); intro _ _))
local macro_rules | `(tactic| walk_at "call builtin:list.append") => `(tactic| (k_here; (with_reducible show wpAny _ _ (call (Value.builtin _) [Value.ref _, _]) _ _ _); k_dflt (refine' append_K ?k1 ?k2 ?k3 ?_ ?z; (case k1 => k_asm); (case k2 => k_asm); (case k3 => k_upd); (case z => (simp only [List.size_toArray, sizeLine_eq]; omega)); k_whole); intro h' F' N'; (try k_sweep)))
variable {w : World} {A : Around} {s : Shared} {Q E : Value → Shared → Prop}
/-- one turn of convertbits: the numbers it keeps and what it has put out -/
structure Cv where
  acc : Int
  bits : Int
  out : List Int
def cvOut (to maxv : Int) (acc b1 : Int) (k : Nat) : List Int := (List.range k).map fun j : Nat => Builtin.bitAnd (acc.fdiv (2 ^ (b1 - to * ((j : Int) + 1)).toNat)) maxv
def cvStep (fr to maxv maxacc : Int) (c : Cv) (v : Int) : Cv :=
  let acc := Builtin.bitAnd (Builtin.bitOr (c.acc * 2 ^ fr.toNat) v) maxacc
  let b1 := c.bits + fr
  ⟨acc, b1 % to, c.out ++ cvOut to maxv acc b1 (b1 / to).toNat⟩
def cvUp (vs : List Int) : Cv := vs.foldl (cvStep 8 5 31 4095) ⟨0, 0, []⟩
open PyProof PyProof.Rows in
theorem shl_lt {a n : Int} (h0 : 0 ≤ a) (h1 : a < 65536) (hn : n ≤ 100) : (Builtin.Int.intBits a : Int) + n ≤ 2 ^ 27 := by
  have h2 : Builtin.Int.intBits a ≤ 16 := intBits_le_iff.mpr (by omega)
  omega
local macro_rules | `(tactic| walk_at "binaryOp LShift int int") => `(tactic| (k_here; (with_reducible refine lshift_int ?z1 ?z2 ?_); (case z1 => omega); (case z2 => exact shl_lt (by omega) (by omega) (by omega))))
structure CvS where
  acc : Int
  bits : Int
  ta : Tok
  tb : Tok
  tm : Tok
  tx : Tok
  vs : List Value
  ns : List Int
  cap : Nat
structure CvW where
  bits : Int
  k : Nat
  ta : Tok
  tb : Tok
  vs : List Value
  cap : Nat
def signsOf (vs : List Int) : List Int :=
  let c := cvUp vs
  c.out ++ (if c.bits = 0 then [] else [Builtin.bitAnd (c.acc * 2 ^ (5 - c.bits).toNat) 31])
def cvDown (vs : List Int) : Cv := vs.foldl (cvStep 5 8 255 4095) ⟨0, 0, []⟩
theorem convert_up_spec (b : Array UInt8) (tb t8 t5 : Tok) (hbs : b.size ≤ 1000) (ok : Ok w s.heap) (r : Room A 1 6)
   (hQ : ∀ h' tk l vs n, (∀ b o, s.heap.get? b = some o → h'.get? b = some o) → s.heap.get? l = none → h'.get? l = some (W.listOf vs.toArray n) → IntsAre vs (signsOf (b.toList.map fun x => (x.toNat : Int))) → Q (.ref l) { s with heap := h', toks := tk }) :
   wpAny (model PG w) A (call (.ref 91) [.bytes b tb, .int 8 t8, .int 5 t5]) Q E s := by
  have := fillOk_W4; clear this
  w_on
  obtain ⟨hdl, dep, frs, gds, un⟩ := A
  obtain ⟨hd, hu, hh⟩ := r
  dsimp only at hd hu hh; subst hh
  refine' enter_q [(.ofString "data", .bytes b tb), (.ofString "frombits", .int 8 t8), (.ofString "tobits", .int 5 t5), (.ofString "pad", .bool true)] ?ok ?ho ?hcd ?hroom ?hb ?hs ?hbind ?hloc ?hco ?hgen ?hk ?hcell ?_
  walk_at "MINE enter"
  intro h₁ mg mb tk0 X T F N
  k_steps
  rename_i ar _ _ _ _ _ F2 N2
  show wpAny _ _ _ _ _ _
  refine' For_invVF F2 ?_ ?_ ?_
  · exact rfl
  · exact rfl
  k_steps
  refine my_bytes (σ := CvS) (fun c => [(ar, W.listOf c.vs.toArray c.cap)]) (fun c => [(.ofString "acc", .int c.acc c.ta), (.ofString "bits", .int c.bits c.tb), (.ofString "ret", .ref ar), (.ofString "maxv", .int 31 c.tm), (.ofString "max_acc", .int 4095 c.tx), (.ofString "frombits", .int 8 t8), (.ofString "tobits", .int 5 t5), (.ofString "pad", .bool true)])
    (fun i c => IntsAre c.vs c.ns ∧ (⟨c.acc, c.bits, c.ns⟩ : Cv) = cvUp ((b.toList.take i).map fun x => (x.toNat : Int)) ∧ (0 ≤ c.acc ∧ c.acc < 4096) ∧ (0 ≤ c.bits ∧ c.bits < 5) ∧ c.ns.length ≤ 2 * i) ⟨0, 0, _, _, _, _, [], [], 0⟩ rfl F2 N2 (by kst_all) ⟨.nil, rfl, (by decide : (0 : Int) ≤ 0 ∧ (0 : Int) < 4096), (by decide : (0 : Int) ≤ 0 ∧ (0 : Int) < 5), Nat.zero_le _⟩ ?_ ?_
  · rintro ⟨acc, bits, ta, tb', tm, tx, vs, ns, cap⟩ i v t u h tk own hv hadr hoff ⟨hI, hst, ha, hbi, hln⟩ F' N'
    dsimp only [kstB] at F' N' hst ha hbi hI hln ⊢
    simp only [List.cons_append, List.nil_append, List.map_cons, List.map_nil] at N' hoff
    have hv0 : (0 : Int) ≤ (v.toNat : Int) ∧ (v.toNat : Int) < 256 := ⟨by omega, by have := v.toNat_lt; omega⟩
    have hv1 : (v.toNat : Int).fdiv (2 ^ Int.toNat 8) = 0 := by
      rw [Int.fdiv_eq_ediv_of_nonneg _ (by decide)]; exact Int.ediv_eq_zero_of_lt hv0.1 hv0.2
    have hvl := hI.length
    have hib : i < b.size := by
      have := Array.getElem?_eq_some_iff.mp hv
      exact this.1
    k_steps
    · exact absurd hv1 ‹_›
    rename_i F3 N3
    show wpAny _ _ _ _ _ _
    generalize hA : Builtin.bitAnd (Builtin.bitOr (acc * 2 ^ Int.toNat 8) (v.toNat : Int)) 4095 = A1 at F3
    have hA1 : 0 ≤ A1 ∧ A1 < 4096 := by
      have := bitAnd_range (Builtin.bitOr (acc * 2 ^ Int.toNat 8) (v.toNat : Int)) (y := 4095) (by decide)
      omega
    refine my_while (σ := CvW) (fun c => (ar, W.listOf c.vs.toArray c.cap) :: own) (fun c => [(.ofString "acc", .int A1 c.ta), (.ofString "bits", .int c.bits c.tb), (.ofString "ret", .ref ar), (.ofString "maxv", .int 31 tm), (.ofString "max_acc", .int 4095 tx), (.ofString "frombits", .int 8 t8), (.ofString "tobits", .int 5 t5), (.ofString "pad", .bool true)])
      (fun c => IntsAre c.vs (ns ++ cvOut 5 31 A1 (bits + 8) c.k) ∧ c.bits = bits + 8 - 5 * c.k ∧ 0 ≤ c.bits) (fun c => c.bits.toNat) ⟨bits + 8, 0, _, _, vs, cap⟩ F3 N3 (by kst_all) ⟨by simpa [cvOut] using hI, by simp, by dsimp only; omega⟩ ?_
    rintro ⟨b1, k, ta1, tb1, vs1, cap1⟩ u1 h1' tk1 ⟨hI1, hk1, hb1⟩ F4 N4
    dsimp only [kstB] at F4 N4 hI1 hk1 hb1 ⊢
    have hvl1 : vs1.length = ns.length + k := by rw [hI1.length, List.length_append]; simp [cvOut]
    k_steps
    · rename_i hge _ _ _ _ F5 N5
      refine myw_end ⟨b1 - 5, k + 1, _, _, _, _⟩ F5 N5 (fun _ h => h) (by kst_all) ?_ ?_
      · refine ⟨?_, by dsimp only; omega, by dsimp only; omega⟩
        dsimp only
        have e : cvOut 5 31 A1 (bits + 8) (k + 1) = cvOut 5 31 A1 (bits + 8) k ++ [Builtin.bitAnd (A1.fdiv (2 ^ (b1 - 5).toNat)) 31] := by
          unfold cvOut
          rw [List.range_succ, List.map_append, hk1]
          simp only [List.map_cons, List.map_nil]
          rw [show bits + 8 - 5 * ((k : Int) + 1) = bits + 8 - 5 * (k : Int) - 5 by omega]
        rw [e, ← List.append_assoc]
        try rw [List.concat_eq_append]
        exact hI1.append (.cons _ _ .nil)
      · dsimp only; omega
    · have hge : b1 < 5 := by omega
      refine my_end ⟨A1, b1, ta1, tb1, tm, tx, vs1, _, cap1⟩ F4 N4 ?_ ?_ rfl (by kst_all) ⟨hI1, ?_, hA1, ⟨hb1, by dsimp only; omega⟩, ?_⟩
      · intro p hp
        rw [List.mem_singleton.mp hp]; exact .head _
      · intro p hp; exact .tail _ hp
      · dsimp only
        have hk9 : k = ((bits + 8) / 5).toNat := by omega
        have hb9 : b1 = (bits + 8) % 5 := by omega
        have hvl' : b.toList[i]? = some v := by simpa using hv
        rw [List.take_add_one, hvl']
        simp only [Option.toList, List.map_append, List.map_cons, List.map_nil, cvUp, List.foldl_append, List.foldl_cons, List.foldl_nil]
        rw [show List.foldl (cvStep 8 5 31 4095) ⟨0, 0, []⟩ (List.map (fun x : UInt8 => (x.toNat : Int)) (List.take i b.toList)) = ⟨acc, bits, ns⟩ from hst.symm]
        simp only [cvStep]
        rw [← hk9, ← hb9, ← hA]
      · dsimp only
        rw [List.length_append]; simp [cvOut]; omega
  · rintro ⟨acc, bits, ta, tb', tm, tx, vs, ns, cap⟩ u h tk ⟨hI, hst, ha, hbi, hln⟩ F' N'
    dsimp only [kstB] at F' N' hst ha hbi hI hln ⊢
    have hvl := hI.length
    have hall : b.toList.take b.size = b.toList := by rw [← Array.length_toList, List.take_length]
    rw [hall] at hst
    k_steps
    · rename_i hz _ F5 N5
      refine hQ _ _ ar _ _ F5.keep (N5 _ (.head _)).2.2 (N5 _ (.head _)).1 ?_
      unfold signsOf
      rw [← hst]
      dsimp only
      rw [if_neg hz]
      try rw [List.concat_eq_append]
      exact hI.append (.cons _ _ .nil)
    · rename_i hz
      refine hQ _ _ ar _ _ F'.keep (N' _ (.head _)).2.2 (N' _ (.head _)).1 ?_
      unfold signsOf
      rw [← hst]
      dsimp only
      rw [if_pos hz, List.append_nil]
      exact hI

end Mine
end
section -- W4d
open PySem PySem.W PySem.Calls PyProof.Rows
set_option maxRecDepth 100000
set_option maxHeartbeats 4000000
namespace Mine
theorem fillOk_W4d : (PySem.Challenge.rw_vn0025_01 = PySem.Challenge.rw_vn0025_01 ∧ fragK = fragK) := fillOk_W1
local macro_rules | `(tactic| walk_at "MINE enter") => `(tactic| (
  k_dflt ((case' ok => assumption); (case' ho => k_is); (case' hcd => k_is); (case' hroom => ((try dsimp only); omega)); (case' hb => conv => lhs; whnf); (case' hs => conv => lhs; whnf); (case' hbind => first | exact BindsTo.of_eq rfl | exact binds_K (Ok.frag (by assumption)) rfl (by k_is) rfl rfl rfl); (case' hloc => exact locs rfl); (case' hco => exact rfl); (case' hgen => exact rfl); (case' hk => exact rfl); (case' hcell => decide))))
local macro_rules | `(tactic| walk_at "MINE centerC") => `(tactic| (
  k_dflt ((case' ok => assumption); (case' ho => k_is); (case' hcd => k_is); (case' hroom => ((try dsimp only); omega)); (case' hb => conv => lhs; whnf); (case' hs => conv => lhs; whnf); (case' hbind => first | exact BindsTo.of_eq rfl | exact binds_K (Ok.frag (by assumption)) rfl (by k_is) rfl rfl rfl); (case' hloc => exact kindsX rfl); (case' hco => exact rfl); (case' hgen => exact rfl); (case' hk => exact rfl); (case' hcell => decide))))
local macro_rules | `(tactic| walk_at "exec For Name Name cons nil") => `(tactic| refine unhold ?_)
local macro_rules | `(tactic| walk_at "exec For Name Call cons nil") => `(tactic| refine unhold ?_)
local macro_rules | `(tactic| walk_at "pyIter ref") => `(tactic| ((with_reducible show wpAny _ _ (pyIter (Value.ref _)) (fun it s₂ => LoopAtV _ _ _ _ _ _ _ _ _ it s₂) _ _); refine unhold ?_))
local macro_rules | `(tactic| walk_at "eval ListComp") => `(tactic| refine unhold ?_)
local macro_rules | `(tactic| walk_at "exec Assign cons ListComp") => `(tactic| refine unhold ?_)
local macro_rules | `(tactic| walk_at "exec While Compare cons nil") => `(tactic| refine unhold ?_)
local macro_rules | `(tactic| walk_at "eval Name") => `(tactic| (k_here; (with_reducible show wpAny _ _ (eval (Expr.Name _ _) (compEnvC _ _ _ _)) _ _ _); k_dflt (first
  | refine LCgL.ld_own (by k_asm) (by k_mem) (by assumption) (by assumption) ?_
  | refine my_global (by k_asm) (by k_asm) (by k_asm) (by k_is) ?_
  | refine my_built (by k_asm) (by k_asm) (by k_asm) (by k_is) (by boot_by_name) (by decide) ?_)))
local macro_rules | `(tactic| walk_at "binaryOp Add ref ref") => `(tactic| (k_here; (with_reducible show wpAny _ _ (binaryOp _ (Value.ref _) (Value.ref _)) _ _ _); k_dflt (refine' kmk_add_ints ?F ?N ?a ?b ?i ?j ?_ ?z; (case F => k_asm); (case N => k_asm); (case a => kmk_list); (case b => kmk_list); (case i => l_ints); (case j => l_ints); (case z => ((simp only [sizeLine_eq, List.length_append, List.length_map, List.length_cons, List.length_nil, Array.length_toList, KBw.ints_length]); omega))); intro D' ws' h' F' N' l1 hI'; (try k_lt l1); (try k_sweep)))
local macro_rules | `(tactic| walk_at "binaryOp Add str str") => `(tactic| (k_here; (refine my_add_str ?_ ?kz; (case kz => ((simp only [PySem.Str.length_append]; (try simp only [my_len1]); omega)))); intro _ _))
local macro_rules | `(tactic| walk_at "call builtin:list.append") => `(tactic| (k_here; (with_reducible show wpAny _ _ (call (Value.builtin _) [Value.ref _, _]) _ _ _); k_dflt (refine' append_K ?k1 ?k2 ?k3 ?_ ?z; (case k1 => k_asm); (case k2 => k_asm); (case k3 => k_upd); (case z => (simp only [List.size_toArray, sizeLine_eq]; omega)); k_whole); intro h' F' N'; (try k_sweep)))
variable {w : World} {A : Around} {s : Shared} {Q E : Value → Shared → Prop}
local macro_rules | `(tactic| walk_at "binaryOp LShift int int") => `(tactic| (k_here; (with_reducible refine lshift_int ?z1 ?z2 ?_); (case z1 => omega); (case z2 => exact shl_lt (by omega) (by omega) (by omega))))
theorem convert_down_spec (l : Addr) (lvs : List Value) (lns : List Int) (t8 t5 : Tok) (hl : s.heap.IsList l lvs.toArray) (hi : IntsAre lvs lns) (hln0 : ∀ n ∈ lns, 0 ≤ n ∧ n < 32) (hbs : lns.length ≤ 1000)
   (hfin : (cvDown lns).bits < 5 ∧ Builtin.bitAnd ((cvDown lns).acc * 2 ^ (8 - (cvDown lns).bits).toNat) 255 = 0) (ok : Ok w s.heap) (r : Room A 1 6)
   (hQ : ∀ h' tk l vs n, (∀ b o, s.heap.get? b = some o → h'.get? b = some o) → s.heap.get? l = none → h'.get? l = some (W.listOf vs.toArray n) → IntsAre vs (cvDown lns).out → Q (.ref l) { s with heap := h', toks := tk }) :
   wpAny (model PG w) A (call (.ref 91) [.ref l, .int 5 t5, .int 8 t8, .bool false]) Q E s := by
  have := fillOk_W4d; clear this
  w_on
  obtain ⟨hdl, dep, frs, gds, un⟩ := A
  obtain ⟨hd, hu, hh⟩ := r
  dsimp only at hd hu hh; subst hh
  refine' enter_q [(.ofString "data", .ref l), (.ofString "frombits", .int 5 t5), (.ofString "tobits", .int 8 t8), (.ofString "pad", .bool false)] ?ok ?ho ?hcd ?hroom ?hb ?hs ?hbind ?hloc ?hco ?hgen ?hk ?hcell ?_
  walk_at "MINE enter"
  intro h₁ mg mb tk0 X T F N
  k_steps
  rename_i ar _ _ _ _ _ F2 N2
  show wpAny _ _ _ _ _ _
  refine' For_invVF F2 ?_ ?_ ?_
  · exact rfl
  · exact rfl
  k_steps
  refine my_ints (σ := CvS) (fun c => [(ar, W.listOf c.vs.toArray c.cap)]) (fun c => [(.ofString "acc", .int c.acc c.ta), (.ofString "bits", .int c.bits c.tb), (.ofString "ret", .ref ar), (.ofString "maxv", .int 255 c.tm), (.ofString "max_acc", .int 4095 c.tx), (.ofString "frombits", .int 5 t5), (.ofString "tobits", .int 8 t8), (.ofString "pad", .bool false)])
    (fun i c => IntsAre c.vs c.ns ∧ (⟨c.acc, c.bits, c.ns⟩ : Cv) = cvDown (lns.take i) ∧ (0 ≤ c.acc ∧ c.acc < 4096) ∧ (0 ≤ c.bits ∧ c.bits < 8) ∧ c.ns.length ≤ i) ⟨0, 0, _, _, _, _, [], [], 0⟩ rfl hl hi F2 N2 (by kst_all) ⟨.nil, rfl, (by decide : (0 : Int) ≤ 0 ∧ (0 : Int) < 4096), (by decide : (0 : Int) ≤ 0 ∧ (0 : Int) < 8), Nat.zero_le _⟩ ?_ ?_
  · rintro ⟨acc, bits, ta, tb', tm, tx, vs, ns, cap⟩ i v t u h tk own hv hadr hoff ⟨hI, hst, ha, hbi, hln⟩ F' N'
    dsimp only [kstB] at F' N' hst ha hbi hI hln ⊢
    simp only [List.cons_append, List.nil_append, List.map_cons, List.map_nil] at N' hoff
    have hv0 : (0 : Int) ≤ v ∧ v < 32 := hln0 v (List.mem_of_getElem? hv)
    have hv1 : v.fdiv (2 ^ Int.toNat 5) = 0 := by
      rw [Int.fdiv_eq_ediv_of_nonneg _ (by decide)]; exact Int.ediv_eq_zero_of_lt hv0.1 hv0.2
    have hvl := hI.length
    have hib : i < lns.length := (List.getElem?_eq_some_iff.mp hv).1
    k_steps
    · exact absurd hv1 ‹_›
    rename_i F3 N3
    show wpAny _ _ _ _ _ _
    generalize hA : Builtin.bitAnd (Builtin.bitOr (acc * 2 ^ Int.toNat 5) v) 4095 = A1 at F3
    have hA1 : 0 ≤ A1 ∧ A1 < 4096 := by
      have := bitAnd_range (Builtin.bitOr (acc * 2 ^ Int.toNat 5) v) (y := 4095) (by decide)
      omega
    refine my_while (σ := CvW) (fun c => (ar, W.listOf c.vs.toArray c.cap) :: own) (fun c => [(.ofString "acc", .int A1 c.ta), (.ofString "bits", .int c.bits c.tb), (.ofString "ret", .ref ar), (.ofString "maxv", .int 255 tm), (.ofString "max_acc", .int 4095 tx), (.ofString "frombits", .int 5 t5), (.ofString "tobits", .int 8 t8), (.ofString "pad", .bool false)])
      (fun c => IntsAre c.vs (ns ++ cvOut 8 255 A1 (bits + 5) c.k) ∧ c.bits = bits + 5 - 8 * c.k ∧ 0 ≤ c.bits) (fun c => c.bits.toNat) ⟨bits + 5, 0, _, _, vs, cap⟩ F3 N3 (by kst_all) ⟨by simpa [cvOut] using hI, by simp, by dsimp only; omega⟩ ?_
    rintro ⟨b1, k, ta1, tb1, vs1, cap1⟩ u1 h1' tk1 ⟨hI1, hk1, hb1⟩ F4 N4
    dsimp only [kstB] at F4 N4 hI1 hk1 hb1 ⊢
    have hvl1 : vs1.length = ns.length + k := by rw [hI1.length, List.length_append]; simp [cvOut]
    k_steps
    · rename_i hge _ _ _ _ F5 N5
      refine myw_end ⟨b1 - 8, k + 1, _, _, _, _⟩ F5 N5 (fun _ h => h) (by kst_all) ?_ ?_
      · refine ⟨?_, by dsimp only; omega, by dsimp only; omega⟩
        dsimp only
        have e : cvOut 8 255 A1 (bits + 5) (k + 1) = cvOut 8 255 A1 (bits + 5) k ++ [Builtin.bitAnd (A1.fdiv (2 ^ (b1 - 8).toNat)) 255] := by
          unfold cvOut
          rw [List.range_succ, List.map_append, hk1]
          simp only [List.map_cons, List.map_nil]
          rw [show bits + 5 - 8 * ((k : Int) + 1) = bits + 5 - 8 * (k : Int) - 8 by omega]
        rw [e, ← List.append_assoc]
        try rw [List.concat_eq_append]
        exact hI1.append (.cons _ _ .nil)
      · dsimp only; omega
    · have hge : b1 < 8 := by omega
      refine my_end ⟨A1, b1, ta1, tb1, tm, tx, vs1, _, cap1⟩ F4 N4 ?_ ?_ rfl (by kst_all) ⟨hI1, ?_, hA1, ⟨hb1, by dsimp only; omega⟩, ?_⟩
      · intro p hp
        rw [List.mem_singleton.mp hp]; exact .head _
      · intro p hp; exact .tail _ hp
      · dsimp only
        have hk9 : k = ((bits + 5) / 8).toNat := by omega
        have hb9 : b1 = (bits + 5) % 8 := by omega
        rw [List.take_add_one, hv]
        simp only [Option.toList, cvDown, List.foldl_append, List.foldl_cons, List.foldl_nil]
        rw [show List.foldl (cvStep 5 8 255 4095) ⟨0, 0, []⟩ (List.take i lns) = ⟨acc, bits, ns⟩ from hst.symm]
        simp only [cvStep]
        rw [← hk9, ← hb9, ← hA]
      · dsimp only
        rw [List.length_append]; simp [cvOut]; omega
  · rintro ⟨acc, bits, ta, tb', tm, tx, vs, ns, cap⟩ u h tk ⟨hI, hst, ha, hbi, hln⟩ F' N'
    dsimp only [kstB] at F' N' hst ha hbi hI hln ⊢
    have hvl := hI.length
    rw [List.take_length] at hst
    rw [← hst] at hfin
    dsimp only at hfin
    obtain ⟨hf1, hf2⟩ := hfin
    k_steps
    · exact absurd hf2 (by assumption)
    · refine hQ _ _ ar _ _ F'.keep (N' _ (.head _)).2.2 (N' _ (.head _)).1 ?_
      rw [← hst]
      exact hI

end Mine
end
section -- W5
open PySem PySem.W PySem.Calls PyProof.Rows
set_option maxRecDepth 100000
set_option maxHeartbeats 4000000
namespace Mine
theorem fillOk_W5 : (PySem.Challenge.rw_vn0025_01 = PySem.Challenge.rw_vn0025_01 ∧ fragK = fragK) := fillOk_W1
local macro_rules | `(tactic| walk_at "MINE enter") => `(tactic| (
  k_dflt ((case' ok => assumption); (case' ho => k_is); (case' hcd => k_is); (case' hroom => ((try dsimp only); omega)); (case' hb => conv => lhs; whnf); (case' hs => conv => lhs; whnf); (case' hbind => first | exact BindsTo.of_eq rfl | exact binds_K (Ok.frag (by assumption)) rfl (by k_is) rfl rfl rfl); (case' hloc => exact locs rfl); (case' hco => exact rfl); (case' hgen => exact rfl); (case' hk => exact rfl); (case' hcell => decide))))
local macro_rules | `(tactic| walk_at "MINE centerC") => `(tactic| (
  k_dflt ((case' ok => assumption); (case' ho => k_is); (case' hcd => k_is); (case' hroom => ((try dsimp only); omega)); (case' hb => conv => lhs; whnf); (case' hs => conv => lhs; whnf); (case' hbind => first | exact BindsTo.of_eq rfl | exact binds_K (Ok.frag (by assumption)) rfl (by k_is) rfl rfl rfl); (case' hloc => exact kindsX rfl); (case' hco => exact rfl); (case' hgen => exact rfl); (case' hk => exact rfl); (case' hcell => decide))))
local macro_rules | `(tactic| walk_at "exec For Name Name cons nil") => `(tactic| refine unhold ?_)
local macro_rules | `(tactic| walk_at "exec For Name Call cons nil") => `(tactic| refine unhold ?_)
local macro_rules | `(tactic| walk_at "pyIter ref") => `(tactic| ((with_reducible show wpAny _ _ (pyIter (Value.ref _)) (fun it s₂ => LoopAtV _ _ _ _ _ _ _ _ _ it s₂) _ _); refine unhold ?_))
local macro_rules | `(tactic| walk_at "eval ListComp") => `(tactic| refine unhold ?_)
local macro_rules | `(tactic| walk_at "exec Assign cons ListComp") => `(tactic| refine unhold ?_)
local macro_rules | `(tactic| walk_at "exec While Compare cons nil") => `(tactic| refine unhold ?_)
local macro_rules | `(tactic| walk_at "eval Name") => `(tactic| (k_here; (with_reducible show wpAny _ _ (eval (Expr.Name _ _) (compEnvC _ _ _ _)) _ _ _); k_dflt (first
  | refine LCgL.ld_own (by k_asm) (by k_mem) (by assumption) (by assumption) ?_
  | refine my_global (by k_asm) (by k_asm) (by k_asm) (by k_is) ?_
  | refine my_built (by k_asm) (by k_asm) (by k_asm) (by k_is) (by boot_by_name) (by decide) ?_)))
local macro_rules | `(tactic| walk_at "binaryOp Add ref ref") => `(tactic| (k_here; (with_reducible show wpAny _ _ (binaryOp _ (Value.ref _) (Value.ref _)) _ _ _); k_dflt (refine' kmk_add_ints ?F ?N ?a ?b ?i ?j ?_ ?z; (case F => k_asm); (case N => k_asm); (case a => kmk_list); (case b => kmk_list); (case i => l_ints); (case j => l_ints); (case z => ((simp only [sizeLine_eq, List.length_append, List.length_map, List.length_cons, List.length_nil, Array.length_toList, KBw.ints_length]); omega))); intro D' ws' h' F' N' l1 hI'; (try k_lt l1); (try k_sweep)))
local macro_rules | `(tactic| walk_at "binaryOp Add str str") => `(tactic| (k_here; (refine my_add_str ?_ ?kz; (case kz => ((simp only [PySem.Str.length_append]; (try simp only [my_len1]); omega)))); intro _ _))
local macro_rules | `(tactic| walk_at "call builtin:list.append") => `(tactic| (k_here; (with_reducible show wpAny _ _ (call (Value.builtin _) [Value.ref _, _]) _ _ _); k_dflt (refine' append_K ?k1 ?k2 ?k3 ?_ ?z; (case k1 => k_asm); (case k2 => k_asm); (case k3 => k_upd); (case z => (simp only [List.size_toArray, sizeLine_eq]; omega)); k_whole); intro h' F' N'; (try k_sweep)))
variable {w : World} {A : Around} {s : Shared} {Q E : Value → Shared → Prop}
structure GoB : Prop where
local macro_rules | `(tactic| walk_at "subscriptTail Name Name bytes int") => `(tactic| ((with_reducible rename GoB => gb9); refine unhold ?_))
local macro_rules | `(tactic| walk_at "subscriptTail Name BinOp bytes int") => `(tactic| ((with_reducible rename GoB => gb9); refine unhold ?_))
local macro_rules | `(tactic| walk_at "subscriptTail Name Slice bytes ref") => `(tactic| ((with_reducible rename GoB => gb9); refine unhold ?_))
/-- (a) a single small byte -/
theorem clp_a (b : Array UInt8) (tb ts : Tok) (n c : Nat) (hbs : b.size ≤ 1000) (hn : n < b.size) (hc : (b.toList.getD n 0).toNat = c) (hc1 : c < 128) (ok : Ok w s.heap) (r : Room A 2 9)
   (hQ : ∀ h' tk l tp tl td, (∀ b o, s.heap.get? b = some o → h'.get? b = some o) → s.heap.get? l = none → h'.get? l = some { cls := .type "tuple", data := .seq #[.bytes #[] tp, .type "bytes", .int 1 tl, .int n td] } → Q (.ref l) { s with heap := h', toks := tk }) :
   wpAny (model PG w) A (call (.ref 492) [.bytes b tb, .int n ts]) Q E s := by
  have := fillOk_W5; clear this
  w_on
  obtain ⟨hdl, dep, frs, gds, un⟩ := A
  obtain ⟨hd, hu, hh⟩ := r
  dsimp only at hd hu hh; subst hh
  refine' enter_q [(.ofString "rlp", .bytes b tb), (.ofString "start", .int n ts)] ?ok ?ho ?hcd ?hroom ?hb ?hs ?hbind ?hloc ?hco ?hgen ?hk ?hcell ?_
  walk_at "MINE enter"
  intro h₁ mg mb tk0 X T F N
  have gb9 : GoB := ⟨⟩
  k_steps
  refine bytes_at n rfl hbs hn ?_
  rw [hc]
  k_steps
  rename_i F2 N2 _
  exact hQ _ _ _ _ _ _ F2.keep (N2 _ (.head _)).2.2 (N2 _ (.head _)).1
/-- (b) a short string -/
theorem clp_b (b : Array UInt8) (tb ts : Tok) (n len : Nat) (hbs : b.size ≤ 1000) (hn : n < b.size) (hc : (b.toList.getD n 0).toNat = 128 + len) (hc1 : len < 56) (hc2 : len = 1 → n + 1 < b.size ∧ 128 ≤ (b.toList.getD (n + 1) 0).toNat) (ok : Ok w s.heap) (r : Room A 2 9)
   (hQ : ∀ h' tk l tp tl td, (∀ b o, s.heap.get? b = some o → h'.get? b = some o) → s.heap.get? l = none → h'.get? l = some { cls := .type "tuple", data := .seq #[.bytes ((b.toList.drop n).take 1).toArray tp, .type "bytes", .int len tl, .int (n + 1 : Nat) td] } → Q (.ref l) { s with heap := h', toks := tk }) :
   wpAny (model PG w) A (call (.ref 492) [.bytes b tb, .int n ts]) Q E s := by
  have := fillOk_W5; clear this
  w_on
  obtain ⟨hdl, dep, frs, gds, un⟩ := A
  obtain ⟨hd, hu, hh⟩ := r
  dsimp only at hd hu hh; subst hh
  refine' enter_q [(.ofString "rlp", .bytes b tb), (.ofString "start", .int n ts)] ?ok ?ho ?hcd ?hroom ?hb ?hs ?hbind ?hloc ?hco ?hgen ?hk ?hcell ?_
  walk_at "MINE enter"
  intro h₁ mg mb tk0 X T F N
  have gb9 : GoB := ⟨⟩
  k_steps
  refine bytes_at n rfl hbs hn ?_
  rw [hc]
  by_cases h1 : len = 1
  · obtain ⟨ha, hb⟩ := hc2 h1
    subst h1
    clear hc2
    k_steps
    refine bytes_at (n + 1) (by omega) hbs ha ?_
    generalize (b.toList.getD (n + 1) 0).toNat = d at hb
    k_steps
    refine bytes_slice (s := ⟨_, _, _, _, _⟩) n (n + 1) rfl (by omega) hbs (by omega) (by omega) (by assumption) (by assumption) fun h3 t3 k3 F3 N3 => ?_
    rw [show n + 1 - n = 1 by omega]
    k_steps
    rename_i F4 N4 _
    have e : ((128 + 1 : Nat) : Int) - 128 = ((1 : Nat) : Int) := rfl
    exact hQ _ _ _ _ _ _ F4.keep (N4 _ (.head _)).2.2 (N4 _ (.head _)).1
  · clear hc2
    k_steps
    · omega
    refine bytes_slice (s := ⟨_, _, _, _, _⟩) n (n + 1) rfl (by omega) hbs (by omega) (by omega) (by assumption) (by assumption) fun h3 t3 k3 F3 N3 => ?_
    rw [show n + 1 - n = 1 by omega]
    have e : ((128 + len : Nat) : Int) - 128 = (len : Int) := by omega
    k_steps
    rename_i F4 N4 _
    exact hQ _ _ _ _ _ _ F4.keep (N4 _ (.head _)).2.2 (by have := (N4 _ (.head _)).1; dsimp only at this; rw [e] at this; exact this)
/-- (c) a short list -/
theorem clp_c (b : Array UInt8) (tb ts : Tok) (n len : Nat) (hbs : b.size ≤ 1000) (hn : n < b.size) (hc : (b.toList.getD n 0).toNat = 192 + len) (hc1 : len < 56) (ok : Ok w s.heap) (r : Room A 2 9)
   (hQ : ∀ h' tk l tp tl td, (∀ b o, s.heap.get? b = some o → h'.get? b = some o) → s.heap.get? l = none → h'.get? l = some { cls := .type "tuple", data := .seq #[.bytes ((b.toList.drop n).take 1).toArray tp, .type "list", .int len tl, .int (n + 1 : Nat) td] } → Q (.ref l) { s with heap := h', toks := tk }) :
   wpAny (model PG w) A (call (.ref 492) [.bytes b tb, .int n ts]) Q E s := by
  have := fillOk_W5; clear this
  w_on
  obtain ⟨hdl, dep, frs, gds, un⟩ := A
  obtain ⟨hd, hu, hh⟩ := r
  dsimp only at hd hu hh; subst hh
  refine' enter_q [(.ofString "rlp", .bytes b tb), (.ofString "start", .int n ts)] ?ok ?ho ?hcd ?hroom ?hb ?hs ?hbind ?hloc ?hco ?hgen ?hk ?hcell ?_
  walk_at "MINE enter"
  intro h₁ mg mb tk0 X T F N
  have gb9 : GoB := ⟨⟩
  k_steps
  refine bytes_at n rfl hbs hn ?_
  rw [hc]
  k_steps
  refine bytes_slice (s := ⟨_, _, _, _, _⟩) n (n + 1) rfl (by omega) hbs (by omega) (by omega) (by assumption) (by assumption) fun h3 t3 k3 F3 N3 => ?_
  rw [show n + 1 - n = 1 by omega]
  have e : ((192 + len : Nat) : Int) - 192 = (len : Int) := by omega
  k_steps
  rename_i F4 N4 _
  exact hQ _ _ _ _ _ _ F4.keep (N4 _ (.head _)).2.2 (by have := (N4 _ (.head _)).1; dsimp only at this; rw [e] at this; exact this)
/-- (d) a long list, its length in one byte -/
theorem clp_d (b : Array UInt8) (tb ts : Tok) (n : Nat) (c : UInt8) (hbs : b.size ≤ 1000) (hn : n + 1 < b.size) (hc : (b.toList.getD n 0).toNat = 248) (hd1 : (b.toList.drop (n + 1)).take 1 = [c]) (hc2 : 56 ≤ c.toNat) (ok : Ok w s.heap) (r : Room A 2 9)
   (hQ : ∀ h' tk l tp tl td, (∀ b o, s.heap.get? b = some o → h'.get? b = some o) → s.heap.get? l = none → h'.get? l = some { cls := .type "tuple", data := .seq #[.bytes ((b.toList.drop n).take 1 ++ [c]).toArray tp, .type "list", .int c.toNat tl, .int (n + 2 : Nat) td] } → Q (.ref l) { s with heap := h', toks := tk }) :
   wpAny (model PG w) A (call (.ref 492) [.bytes b tb, .int n ts]) Q E s := by
  have := fillOk_W5; clear this
  w_on
  obtain ⟨hdl, dep, frs, gds, un⟩ := A
  obtain ⟨hd, hu, hh⟩ := r
  dsimp only at hd hu hh; subst hh
  refine' enter_q [(.ofString "rlp", .bytes b tb), (.ofString "start", .int n ts)] ?ok ?ho ?hcd ?hroom ?hb ?hs ?hbind ?hloc ?hco ?hgen ?hk ?hcell ?_
  walk_at "MINE enter"
  intro h₁ mg mb tk0 X T F N
  have gb9 : GoB := ⟨⟩
  k_steps
  refine bytes_at n rfl hbs (by omega) ?_
  rw [hc]
  k_steps
  refine bytes_slice (s := ⟨_, _, _, _, _⟩) (n + 1) (n + 2) (by omega) (by omega) hbs (by omega) (by omega) (by assumption) (by assumption) fun h3 t3 k3 F3 N3 => ?_
  rw [show n + 2 - (n + 1) = 1 by omega, hd1]
  have hc0 : ((#[c] : Array UInt8).toList == (#[0] : Array UInt8).toList) = false := by
    have : c ≠ 0 := fun h => by rw [h] at hc2; exact absurd hc2 (by decide)
    simpa using this
  k_steps
  refine bytes_slice (s := ⟨_, _, _, _, _⟩) (n + 1) (n + 2) (by omega) (by omega) hbs (by omega) (by omega) (by assumption) (by assumption) fun h4 t4 k4 F4 N4 => ?_
  rw [show n + 2 - (n + 1) = 1 by omega, hd1]
  k_steps
  have F5 := (show Fr s.heap s.heap.objs.size _ _ by assumption)
  have N5 := (show News s.heap s.heap.objs.size _ _ by assumption)
  refine be_to_int_spec _ c rfl _ (ok.stays F5.keep) (Room.deeper ⟨hd, hu, rfl⟩) fun h5 tk5 t5 k5 => ?_
  have F6 := Fr.after F5 k5
  have N6 := News.stays N5 k5
  k_steps
  refine bytes_slice (s := ⟨_, _, _, _, _⟩) n (n + 1) (by omega) (by omega) hbs (by omega) (by omega) (by assumption) (by assumption) fun h7 t7 k7 F7 N7 => ?_
  rw [show n + 1 - n = 1 by omega]
  have hl1 : ((b.toList.drop n).take 1).length ≤ 1 := List.length_take_le _ _
  k_steps
  refine KBy.add_bytes (by simp only [List.size_toArray, List.size_toArray, List.length_cons, List.length_nil]; omega) fun t8 k8 => ?_
  rw [show ((b.toList.drop n).take 1).toArray ++ #[c] = ((b.toList.drop n).take 1 ++ [c]).toArray by simp]
  have e1 : (n : Int) + 1 + (((248 : Nat) : Int) - 192 - 56 + 1) = ((n + 2 : Nat) : Int) := by omega
  k_steps
  rename_i F9 N9 _
  exact hQ _ _ _ _ _ _ F9.keep (N9 _ (.head _)).2.2 (by have := (N9 _ (.head _)).1; dsimp only at this; rw [e1] at this; exact this)

end Mine
end
section -- W9
open PySem PySem.W PySem.Calls PyProof.Rows
set_option maxRecDepth 100000
set_option maxHeartbeats 4000000
namespace Mine
theorem fillOk_W9 : (PySem.Challenge.rw_vn0025_01 = PySem.Challenge.rw_vn0025_01 ∧ fragK = fragK) := fillOk_W1
local macro_rules | `(tactic| walk_at "MINE enter") => `(tactic| (
  k_dflt ((case' ok => assumption); (case' ho => k_is); (case' hcd => k_is); (case' hroom => ((try dsimp only); omega)); (case' hb => conv => lhs; whnf); (case' hs => conv => lhs; whnf); (case' hbind => first | exact BindsTo.of_eq rfl | exact binds_K (Ok.frag (by assumption)) rfl (by k_is) rfl rfl rfl); (case' hloc => exact locs rfl); (case' hco => exact rfl); (case' hgen => exact rfl); (case' hk => exact rfl); (case' hcell => decide))))
local macro_rules | `(tactic| walk_at "MINE centerC") => `(tactic| (
  k_dflt ((case' ok => assumption); (case' ho => k_is); (case' hcd => k_is); (case' hroom => ((try dsimp only); omega)); (case' hb => conv => lhs; whnf); (case' hs => conv => lhs; whnf); (case' hbind => first | exact BindsTo.of_eq rfl | exact binds_K (Ok.frag (by assumption)) rfl (by k_is) rfl rfl rfl); (case' hloc => exact kindsX rfl); (case' hco => exact rfl); (case' hgen => exact rfl); (case' hk => exact rfl); (case' hcell => decide))))
local macro_rules | `(tactic| walk_at "exec For Name Name cons nil") => `(tactic| refine unhold ?_)
local macro_rules | `(tactic| walk_at "exec For Name Call cons nil") => `(tactic| refine unhold ?_)
local macro_rules | `(tactic| walk_at "pyIter ref") => `(tactic| ((with_reducible show wpAny _ _ (pyIter (Value.ref _)) (fun it s₂ => LoopAtV _ _ _ _ _ _ _ _ _ it s₂) _ _); refine unhold ?_))
local macro_rules | `(tactic| walk_at "eval ListComp") => `(tactic| refine unhold ?_)
local macro_rules | `(tactic| walk_at "exec Assign cons ListComp") => `(tactic| refine unhold ?_)
local macro_rules | `(tactic| walk_at "exec While Compare cons nil") => `(tactic| refine unhold ?_)
local macro_rules | `(tactic| walk_at "eval Name") => `(tactic| (k_here; (with_reducible show wpAny _ _ (eval (Expr.Name _ _) (compEnvC _ _ _ _)) _ _ _); k_dflt (first
  | refine LCgL.ld_own (by k_asm) (by k_mem) (by assumption) (by assumption) ?_
  | refine my_global (by k_asm) (by k_asm) (by k_asm) (by k_is) ?_
  | refine my_built (by k_asm) (by k_asm) (by k_asm) (by k_is) (by boot_by_name) (by decide) ?_)))
local macro_rules | `(tactic| walk_at "binaryOp Add ref ref") => `(tactic| (k_here; (with_reducible show wpAny _ _ (binaryOp _ (Value.ref _) (Value.ref _)) _ _ _); k_dflt (refine' kmk_add_ints ?F ?N ?a ?b ?i ?j ?_ ?z; (case F => k_asm); (case N => k_asm); (case a => kmk_list); (case b => kmk_list); (case i => l_ints); (case j => l_ints); (case z => ((simp only [sizeLine_eq, List.length_append, List.length_map, List.length_cons, List.length_nil, Array.length_toList, KBw.ints_length]); omega))); intro D' ws' h' F' N' l1 hI'; (try k_lt l1); (try k_sweep)))
local macro_rules | `(tactic| walk_at "binaryOp Add str str") => `(tactic| (k_here; (refine my_add_str ?_ ?kz; (case kz => ((simp only [PySem.Str.length_append]; (try simp only [my_len1]); omega)))); intro _ _))
local macro_rules | `(tactic| walk_at "call builtin:list.append") => `(tactic| (k_here; (with_reducible show wpAny _ _ (call (Value.builtin _) [Value.ref _, _]) _ _ _); k_dflt (refine' append_K ?k1 ?k2 ?k3 ?_ ?z; (case k1 => k_asm); (case k2 => k_asm); (case k3 => k_upd); (case z => (simp only [List.size_toArray, sizeLine_eq]; omega)); k_whole); intro h' F' N'; (try k_sweep)))
variable {w : World} {A : Around} {s : Shared} {Q E : Value → Shared → Prop}
def RT.pfx : RT → List UInt8
  | .leaf b => match b with | [c] => if c.toNat < 128 then [] else rHead 1 128 | b => rHead b.length 128
  | .node ts => rHead ts.enc.length 192
def RT.pay : RT → List UInt8
  | .leaf b => b
  | .node ts => ts.enc
def RT.ty : RT → String
  | .leaf _ => "bytes"
  | .node _ => "list"
theorem RT.enc_eq : ∀ t : RT, t.enc = t.pfx ++ t.pay
  | .leaf b => by unfold RT.enc RT.pfx RT.pay; rfl
  | .node ts => by unfold RT.enc RT.pfx RT.pay; rfl
mutual
def RT.ok : RT → Prop
  | .leaf b => b.length < 56
  | .node ts => ts.ok ∧ ts.enc.length < 200
def RTs.ok : RTs → Prop
  | .nil => True
  | .cons t ts => t.ok ∧ ts.ok
end
theorem drop_head {l : List UInt8} {n : Nat} {c : UInt8} {r : List UInt8} (h : l.drop n = c :: r) : n < l.length ∧ l.getD n 0 = c ∧ (l.drop n).take 1 = [c] ∧ l.drop (n + 1) = r := by
  have h1 : n < l.length := by
    apply Nat.lt_of_not_le; intro hle; rw [List.drop_of_length_le hle] at h; cases h
  refine ⟨h1, ?_, by rw [h]; rfl, ?_⟩
  · have := List.drop_eq_getElem_cons h1
    rw [h] at this
    have e := (List.cons.inj this).1
    rw [List.getD_eq_getElem?_getD, List.getElem?_eq_getElem h1, e]; rfl
  · have := List.drop_eq_getElem_cons h1
    rw [h] at this
    exact (List.cons.inj this).2.symm
theorem clp_all (t : RT) (hok : t.ok) (b : Array UInt8) (tb ts : Tok) (n : Nat) (post : List UInt8) (hB : b.toList.drop n = t.enc ++ post) (hbs : b.size ≤ 1000) (ok : Ok w s.heap) (r : Room A 2 9)
   (hQ : ∀ h' tk l tp tl td, (∀ b o, s.heap.get? b = some o → h'.get? b = some o) → s.heap.get? l = none → h'.get? l = some { cls := .type "tuple", data := .seq #[.bytes t.pfx.toArray tp, .type t.ty, .int t.pay.length tl, .int (n + t.pfx.length : Nat) td] } → Q (.ref l) { s with heap := h', toks := tk }) :
   wpAny (model PG w) A (call (.ref 492) [.bytes b tb, .int n ts]) Q E s := by
  have hsz : b.size = b.toList.length := rfl
  cases t with
  | leaf bs =>
    unfold RT.ok at hok
    by_cases h1 : ∃ c, bs = [c] ∧ c.toNat < 128
    · obtain ⟨c, rfl, hc⟩ := h1
      have e : RT.enc (.leaf [c]) = [c] := by unfold RT.enc; simp [hc]
      have ep : RT.pfx (.leaf [c]) = [] := by unfold RT.pfx; simp [hc]
      rw [e] at hB
      obtain ⟨a1, a2, _, _⟩ := drop_head hB
      refine clp_a b tb ts n c.toNat hbs (by omega) (by rw [a2]) hc ok r fun h' tk l tp tl td k f i => hQ h' tk l tp tl td k f ?_
      rw [ep]; exact i
    · have ep : RT.pfx (.leaf bs) = [(128 + bs.length).toUInt8] := by
        match bs, h1, hok with
        | [], _, _ => rfl
        | [c], h1, _ =>
          show (if c.toNat < 128 then [] else rHead 1 128) = _
          rw [if_neg (fun h => h1 ⟨c, rfl, h⟩)]; rfl
        | c :: d :: r, _, hok =>
          show rHead (c :: d :: r).length 128 = _
          unfold rHead; rw [if_pos hok]
      have e : RT.enc (.leaf bs) = (128 + bs.length).toUInt8 :: bs := by rw [RT.enc_eq, ep]; unfold RT.pay; rfl
      rw [e] at hB
      obtain ⟨a1, a2, a3, a4⟩ := drop_head hB
      have hv : ((128 + bs.length).toUInt8).toNat = 128 + bs.length := by simp; omega
      refine clp_b b tb ts n bs.length hbs (by omega) (by rw [a2, hv]) hok (fun hl => ?_) ok r fun h' tk l tp tl td k f i => hQ h' tk l tp tl td k f ?_
      · obtain ⟨c, rfl⟩ := List.length_eq_one_iff.mp hl
        obtain ⟨c1, c2, _, _⟩ := drop_head a4
        exact ⟨by omega, by rw [c2]; exact Nat.le_of_not_lt fun h => h1 ⟨c, rfl, h⟩⟩
      · rw [a3] at i; rw [ep]; exact i
  | node us =>
    unfold RT.ok at hok
    by_cases h1 : us.enc.length < 56
    · have ep : RT.pfx (.node us) = [(192 + us.enc.length).toUInt8] := by show rHead us.enc.length 192 = _; unfold rHead; rw [if_pos h1]
      have e : RT.enc (.node us) = (192 + us.enc.length).toUInt8 :: us.enc := by rw [RT.enc_eq, ep]; unfold RT.pay; rfl
      rw [e] at hB
      obtain ⟨a1, a2, a3, a4⟩ := drop_head hB
      have hv : ((192 + us.enc.length).toUInt8).toNat = 192 + us.enc.length := by simp; omega
      refine clp_c b tb ts n us.enc.length hbs (by omega) (by rw [a2, hv]) h1 ok r fun h' tk l tp tl td k f i => hQ h' tk l tp tl td k f ?_
      rw [a3] at i; rw [ep]; exact i
    · have ep : RT.pfx (.node us) = [248, us.enc.length.toUInt8] := by show rHead us.enc.length 192 = _; unfold rHead; rw [if_neg h1]; rfl
      have e : RT.enc (.node us) = 248 :: us.enc.length.toUInt8 :: us.enc := by rw [RT.enc_eq, ep]; unfold RT.pay; rfl
      rw [e] at hB
      obtain ⟨a1, a2, a3, a4⟩ := drop_head hB
      obtain ⟨c1, c2, c3, c4⟩ := drop_head a4
      have hv : (us.enc.length.toUInt8).toNat = us.enc.length := by simp; omega
      refine clp_d b tb ts n us.enc.length.toUInt8 hbs (by omega) (by rw [a2]; rfl) c3 (by rw [hv]; omega) ok r fun h' tk l tp tl td k f i => hQ h' tk l tp tl td k f ?_
      rw [a3, hv] at i; rw [ep]; exact i

end Mine
end
section -- W10
open PySem PySem.W PySem.Calls PyProof.Rows
set_option maxRecDepth 100000
set_option maxHeartbeats 4000000
namespace Mine
theorem fillOk_W10 : (PySem.Challenge.rw_vn0025_01 = PySem.Challenge.rw_vn0025_01 ∧ fragK = fragK) := fillOk_W1
local macro_rules | `(tactic| walk_at "MINE enter") => `(tactic| (
  k_dflt ((case' ok => assumption); (case' ho => k_is); (case' hcd => k_is); (case' hroom => ((try dsimp only); omega)); (case' hb => conv => lhs; whnf); (case' hs => conv => lhs; whnf); (case' hbind => first | exact BindsTo.of_eq rfl | exact binds_K (Ok.frag (by assumption)) rfl (by k_is) rfl rfl rfl); (case' hloc => exact locs rfl); (case' hco => exact rfl); (case' hgen => exact rfl); (case' hk => exact rfl); (case' hcell => decide))))
local macro_rules | `(tactic| walk_at "MINE centerC") => `(tactic| (
  k_dflt ((case' ok => assumption); (case' ho => k_is); (case' hcd => k_is); (case' hroom => ((try dsimp only); omega)); (case' hb => conv => lhs; whnf); (case' hs => conv => lhs; whnf); (case' hbind => first | exact BindsTo.of_eq rfl | exact binds_K (Ok.frag (by assumption)) rfl (by k_is) rfl rfl rfl); (case' hloc => exact kindsX rfl); (case' hco => exact rfl); (case' hgen => exact rfl); (case' hk => exact rfl); (case' hcell => decide))))
local macro_rules | `(tactic| walk_at "exec For Name Name cons nil") => `(tactic| refine unhold ?_)
local macro_rules | `(tactic| walk_at "exec For Name Call cons nil") => `(tactic| refine unhold ?_)
local macro_rules | `(tactic| walk_at "pyIter ref") => `(tactic| ((with_reducible show wpAny _ _ (pyIter (Value.ref _)) (fun it s₂ => LoopAtV _ _ _ _ _ _ _ _ _ it s₂) _ _); refine unhold ?_))
local macro_rules | `(tactic| walk_at "eval ListComp") => `(tactic| refine unhold ?_)
local macro_rules | `(tactic| walk_at "exec Assign cons ListComp") => `(tactic| refine unhold ?_)
local macro_rules | `(tactic| walk_at "exec While Compare cons nil") => `(tactic| refine unhold ?_)
local macro_rules | `(tactic| walk_at "eval Name") => `(tactic| (k_here; (with_reducible show wpAny _ _ (eval (Expr.Name _ _) (compEnvC _ _ _ _)) _ _ _); k_dflt (first
  | refine LCgL.ld_own (by k_asm) (by k_mem) (by assumption) (by assumption) ?_
  | refine my_global (by k_asm) (by k_asm) (by k_asm) (by k_is) ?_
  | refine my_built (by k_asm) (by k_asm) (by k_asm) (by k_is) (by boot_by_name) (by decide) ?_)))
local macro_rules | `(tactic| walk_at "binaryOp Add ref ref") => `(tactic| (k_here; (with_reducible show wpAny _ _ (binaryOp _ (Value.ref _) (Value.ref _)) _ _ _); k_dflt (refine' kmk_add_ints ?F ?N ?a ?b ?i ?j ?_ ?z; (case F => k_asm); (case N => k_asm); (case a => kmk_list); (case b => kmk_list); (case i => l_ints); (case j => l_ints); (case z => ((simp only [sizeLine_eq, List.length_append, List.length_map, List.length_cons, List.length_nil, Array.length_toList, KBw.ints_length]); omega))); intro D' ws' h' F' N' l1 hI'; (try k_lt l1); (try k_sweep)))
local macro_rules | `(tactic| walk_at "binaryOp Add str str") => `(tactic| (k_here; (refine my_add_str ?_ ?kz; (case kz => ((simp only [PySem.Str.length_append]; (try simp only [my_len1]); omega)))); intro _ _))
local macro_rules | `(tactic| walk_at "call builtin:list.append") => `(tactic| (k_here; (with_reducible show wpAny _ _ (call (Value.builtin _) [Value.ref _, _]) _ _ _); k_dflt (refine' append_K ?k1 ?k2 ?k3 ?_ ?z; (case k1 => k_asm); (case k2 => k_asm); (case k3 => k_upd); (case z => (simp only [List.size_toArray, sizeLine_eq]; omega)); k_whole); intro h' F' N'; (try k_sweep)))
variable {w : World} {A : Around} {s : Shared} {Q E : Value → Shared → Prop}
theorem cpl_leaf (b : Array UInt8) (p : List UInt8) (tb tp ts tl : Tok) (n len : Nat) (hbs : b.size ≤ 1000) (hn : n + len ≤ b.size) (hp : p.length ≤ 10) (ok : Ok w s.heap) (r : Room A 2 9)
   (hQ : ∀ h' tk l ap ti tq te, (∀ b o, s.heap.get? b = some o → h'.get? b = some o) → s.heap.get? l = none → s.heap.get? ap = none → h'.get? l = some { cls := .type "tuple", data := .seq #[.bytes ((b.toList.drop n).take len).toArray ti, .ref ap, .int (n + len : Nat) te] } →
     h'.get? ap = some (W.listOf #[.bytes (p ++ (b.toList.drop n).take len).toArray tq] 0) → Q (.ref l) { s with heap := h', toks := tk }) :
   wpAny (model PG w) A (call (.ref 499) [.bytes b tb, .bytes p.toArray tp, .int n ts, .type "bytes", .int len tl]) Q E s := by
  have := fillOk_W10; clear this
  w_on
  obtain ⟨hdl, dep, frs, gds, un⟩ := A
  obtain ⟨hd, hu, hh⟩ := r
  dsimp only at hd hu hh; subst hh
  refine' enter_q [(.ofString "rlp", .bytes b tb), (.ofString "prefix", .bytes p.toArray tp), (.ofString "start", .int n ts), (.ofString "type_", .type "bytes"), (.ofString "length", .int len tl)] ?ok ?ho ?hcd ?hroom ?hb ?hs ?hbind ?hloc ?hco ?hgen ?hk ?hcell ?_
  walk_at "MINE enter"
  intro h₁ mg mb tk0 X T F N
  k_steps
  refine bytes_slice (s := ⟨_, _, _, _, _⟩) n (n + len) rfl (by omega) hbs (by omega) (by omega) (by assumption) (by assumption) fun h3 t3 k3 F3 N3 => ?_
  rw [show n + len - n = len by omega]
  have hl1 : ((b.toList.drop n).take len).length ≤ 1000 := by
    have := List.length_take_le len (b.toList.drop n)
    have : b.toList.length = b.size := rfl
    rw [List.length_take, List.length_drop]; omega
  k_steps
  refine KBy.add_bytes (by simp only [List.size_toArray]; omega) fun t8 k8 => ?_
  rw [List.append_toArray]
  have e : (n : Int) + (len : Int) = ((n + len : Nat) : Int) := by omega
  k_steps
  rename_i F9 N9 _
  exact hQ _ _ _ _ _ _ _ F9.keep (N9 _ (.head _)).2.2 (N9 _ (.tail _ (.head _))).2.2 (by have := (N9 _ (.head _)).1; dsimp only at this; rw [e] at this; exact this) (N9 _ (.tail _ (.head _))).1

end Mine
end
section -- W11
open PySem PySem.W PySem.Calls PyProof.Rows
set_option maxRecDepth 100000
set_option maxHeartbeats 4000000
namespace Mine
theorem fillOk_W11 : (PySem.Challenge.rw_vn0025_01 = PySem.Challenge.rw_vn0025_01 ∧ fragK = fragK) := fillOk_W1
local macro_rules | `(tactic| walk_at "MINE enter") => `(tactic| (
  k_dflt ((case' ok => assumption); (case' ho => k_is); (case' hcd => k_is); (case' hroom => ((try dsimp only); omega)); (case' hb => conv => lhs; whnf); (case' hs => conv => lhs; whnf); (case' hbind => first | exact BindsTo.of_eq rfl | exact binds_K (Ok.frag (by assumption)) rfl (by k_is) rfl rfl rfl); (case' hloc => exact locs rfl); (case' hco => exact rfl); (case' hgen => exact rfl); (case' hk => exact rfl); (case' hcell => decide))))
local macro_rules | `(tactic| walk_at "MINE centerC") => `(tactic| (
  k_dflt ((case' ok => assumption); (case' ho => k_is); (case' hcd => k_is); (case' hroom => ((try dsimp only); omega)); (case' hb => conv => lhs; whnf); (case' hs => conv => lhs; whnf); (case' hbind => first | exact BindsTo.of_eq rfl | exact binds_K (Ok.frag (by assumption)) rfl (by k_is) rfl rfl rfl); (case' hloc => exact kindsX rfl); (case' hco => exact rfl); (case' hgen => exact rfl); (case' hk => exact rfl); (case' hcell => decide))))
local macro_rules | `(tactic| walk_at "exec For Name Name cons nil") => `(tactic| refine unhold ?_)
local macro_rules | `(tactic| walk_at "exec For Name Call cons nil") => `(tactic| refine unhold ?_)
local macro_rules | `(tactic| walk_at "pyIter ref") => `(tactic| ((with_reducible show wpAny _ _ (pyIter (Value.ref _)) (fun it s₂ => LoopAtV _ _ _ _ _ _ _ _ _ it s₂) _ _); refine unhold ?_))
local macro_rules | `(tactic| walk_at "eval ListComp") => `(tactic| refine unhold ?_)
local macro_rules | `(tactic| walk_at "exec Assign cons ListComp") => `(tactic| refine unhold ?_)
local macro_rules | `(tactic| walk_at "exec While Compare cons nil") => `(tactic| refine unhold ?_)
local macro_rules | `(tactic| walk_at "eval Name") => `(tactic| (k_here; (with_reducible show wpAny _ _ (eval (Expr.Name _ _) (compEnvC _ _ _ _)) _ _ _); k_dflt (first
  | refine LCgL.ld_own (by k_asm) (by k_mem) (by assumption) (by assumption) ?_
  | refine my_global (by k_asm) (by k_asm) (by k_asm) (by k_is) ?_
  | refine my_built (by k_asm) (by k_asm) (by k_asm) (by k_is) (by boot_by_name) (by decide) ?_)))
local macro_rules | `(tactic| walk_at "binaryOp Add ref ref") => `(tactic| (k_here; (with_reducible show wpAny _ _ (binaryOp _ (Value.ref _) (Value.ref _)) _ _ _); k_dflt (refine' kmk_add_ints ?F ?N ?a ?b ?i ?j ?_ ?z; (case F => k_asm); (case N => k_asm); (case a => kmk_list); (case b => kmk_list); (case i => l_ints); (case j => l_ints); (case z => ((simp only [sizeLine_eq, List.length_append, List.length_map, List.length_cons, List.length_nil, Array.length_toList, KBw.ints_length]); omega))); intro D' ws' h' F' N' l1 hI'; (try k_lt l1); (try k_sweep)))
local macro_rules | `(tactic| walk_at "binaryOp Add str str") => `(tactic| (k_here; (refine my_add_str ?_ ?kz; (case kz => ((simp only [PySem.Str.length_append]; (try simp only [my_len1]); omega)))); intro _ _))
local macro_rules | `(tactic| walk_at "call builtin:list.append") => `(tactic| (k_here; (with_reducible show wpAny _ _ (call (Value.builtin _) [Value.ref _, _]) _ _ _); k_dflt (refine' append_K ?k1 ?k2 ?k3 ?_ ?z; (case k1 => k_asm); (case k2 => k_asm); (case k3 => k_upd); (case z => (simp only [List.size_toArray, sizeLine_eq]; omega)); k_whole); intro h' F' N'; (try k_sweep)))
variable {w : World} {A : Around} {s : Shared} {Q E : Value → Shared → Prop}
theorem noI_bytes_add : typeLookup (.type "bytes") (dunderI "add") = pure none := by rw [typeLookup_type, builtinLookup_eq_fast]; kernel_rfl
theorem iadd_bytes {prog : Program} {b c : Array UInt8} {t u : Tok} {Q : Value → Shared → Prop} (hsz : b.size + c.size ≤ 16777216) (h : ∀ t' k, Q (.bytes (b ++ c) t') { s with toks := k }) : wpAny (model prog w) A (inplaceOp .Add (.bytes b t) (.bytes c u)) Q E s := by
  refine iconcat_gives (typeIs_bytes s b t) (typeIs_bytes s c u) noI_bytes_add KBy.noFill_bytes_add KBy.seq_bytes_add FB.slot_bytes_add FB.entry_bytes_add (FB.args_bytes_add_2 _ _) (KBy.gives_bytes_add (KBy.tooLong_not hsz)) ?_
  by_cases hb : b.isEmpty = true
  · rw [if_pos hb]
    have e : b = #[] := Array.isEmpty_iff.1 hb
    have h' := h u s.toks
    rw [e, Array.empty_append] at h'
    exact h'
  · rw [if_neg hb]
    by_cases hc : c.isEmpty = true
    · rw [if_pos hc]
      have e : c = #[] := Array.isEmpty_iff.1 hc
      have h' := h t s.toks
      rw [e, Array.append_empty] at h'
      exact h'
    · rw [if_neg hc]
      exact ⟨by rw [Array.size_append, sizeLine_eq]; exact hsz, h s.toks (s.toks + 1)⟩
inductive All2 {α β : Type} (R : α → β → Prop) : List α → List β → Prop
  | nil : All2 R [] []
  | cons {a b l m} : R a b → All2 R l m → All2 R (a :: l) (b :: m)
theorem All2.snoc {α β : Type} {R : α → β → Prop} : ∀ {l : List α} {m : List β} {a : α} {b : β}, All2 R l m → R a b → All2 R (l ++ [a]) (m ++ [b])
  | _, _, _, _, .nil, h => .cons h .nil
  | _, _, _, _, .cons x y, h => .cons x (All2.snoc y h)
theorem All2.imp {α β : Type} {R S : α → β → Prop} (f : ∀ a b, R a b → S a b) : ∀ {l : List α} {m : List β}, All2 R l m → All2 S l m
  | _, _, .nil => .nil
  | _, _, .cons x y => .cons (f _ _ x) (All2.imp f y)
theorem All2.length {α β : Type} {R : α → β → Prop} : ∀ {l : List α} {m : List β}, All2 R l m → m.length = l.length
  | _, _, .nil => rfl
  | _, _, .cons _ y => congrArg (· + 1) (All2.length y)
def RTs.toList : RTs → List RT
  | .nil => []
  | .cons t ts => t :: ts.toList
def encL (l : List RT) : List UInt8 := l.flatMap RT.enc
theorem RTs.enc_eq : ∀ ts : RTs, ts.enc = encL ts.toList
  | .nil => by unfold RTs.enc; rfl
  | .cons t ts => by
    unfold RTs.enc
    rw [RTs.enc_eq ts]; rfl
mutual
/-- a value that stands for a tree, its lists told by a ledger -/
def RL (led : List (Addr × Obj)) : RT → Value → Prop
  | .leaf b, v => ∃ t, v = .bytes b.toArray t
  | .node ts, v => ∃ (a : Addr) (vs : List Value) (n : Nat), v = .ref a ∧ (a, W.listOf vs.toArray n) ∈ led ∧ RLs led ts vs
def RLs (led : List (Addr × Obj)) : RTs → List Value → Prop
  | .nil, vs => vs = []
  | .cons t ts, vs => ∃ v r, vs = v :: r ∧ RL led t v ∧ RLs led ts r
end
mutual
theorem RL.mono {l l' : List (Addr × Obj)} (k : ∀ p ∈ l, p ∈ l') : ∀ (t : RT) (v : Value), RL l t v → RL l' t v
  | .leaf _, _, x => x
  | .node ts, _, ⟨a, vs, n, e, m, r⟩ => ⟨a, vs, n, e, k _ m, RLs.mono k ts vs r⟩
theorem RLs.mono {l l' : List (Addr × Obj)} (k : ∀ p ∈ l, p ∈ l') : ∀ (ts : RTs) (vs : List Value), RLs l ts vs → RLs l' ts vs
  | .nil, _, x => x
  | .cons t ts, _, ⟨v, r, e, x, y⟩ => ⟨v, r, e, RL.mono k t v x, RLs.mono k ts r y⟩
end
theorem RLs.of_all {l : List (Addr × Obj)} : ∀ {ts : RTs} {vs : List Value}, All2 (RL l) ts.toList vs → RLs l ts vs
  | .nil, _, .nil => rfl
  | .cons _ _, _, .cons x y => ⟨_, _, rfl, x, RLs.of_all y⟩
theorem rHead_pos (n off : Nat) : 0 < (rHead n off).length := by unfold rHead; split <;> simp
theorem encL_len' : ∀ l : List RT, (∀ t ∈ l, 0 < t.enc.length) → l.length ≤ (encL l).length
  | [], _ => Nat.zero_le _
  | t :: r, h => by
    have h1 := h t (.head _)
    have h2 := encL_len' r fun t ht => h t (.tail _ ht)
    unfold encL at h2 ⊢
    rw [List.flatMap_cons, List.length_append, List.length_cons]; omega
theorem rHead_le (n off : Nat) : (rHead n off).length ≤ 2 := by unfold rHead; split <;> simp
theorem RT.pfx_le : ∀ t : RT, t.pfx.length ≤ 10
  | .leaf [] => Nat.le_trans (rHead_le 0 128) (by decide)
  | .leaf [c] => by
    show (if c.toNat < 128 then [] else rHead 1 128).length ≤ 10
    split
    · exact Nat.zero_le _
    · exact Nat.le_trans (rHead_le 1 128) (by decide)
  | .leaf (c :: d :: r) => Nat.le_trans (rHead_le (c :: d :: r).length 128) (by decide)
  | .node ts => Nat.le_trans (rHead_le ts.enc.length 192) (by decide)
theorem RT.enc_pos : ∀ t : RT, 0 < t.enc.length
  | .leaf [] => by rw [RT.enc_eq, List.length_append]; have := rHead_pos 0 128; exact Nat.lt_of_lt_of_le this (Nat.le_add_right _ _)
  | .leaf [c] => by rw [RT.enc_eq, List.length_append]; exact Nat.lt_of_lt_of_le Nat.one_pos (Nat.le_add_left _ _)
  | .leaf (c :: d :: r) => by rw [RT.enc_eq, List.length_append]; have := rHead_pos (c :: d :: r).length 128; exact Nat.lt_of_lt_of_le this (Nat.le_add_right _ _)
  | .node ts => by rw [RT.enc_eq, List.length_append]; have := rHead_pos ts.enc.length 192; exact Nat.lt_of_lt_of_le this (Nat.le_add_right _ _)
theorem encL_len (l : List RT) : l.length ≤ (encL l).length := encL_len' l fun t _ => t.enc_pos
/-- what consume_payload does with a tree's payload -/
def CplSpec (t : RT) : Prop := ∀ {w : World} {A : Around} {s : Shared} {Q E : Value → Shared → Prop} (b : Array UInt8) (p post : List UInt8) (tb tp ts tl : Tok) (n : Nat), b.toList.drop n = t.pay ++ post → n ≤ b.size → b.size ≤ 1000 → p.length ≤ 10 → Ok w s.heap → Room A (2 * t.deep + 3) (6 * t.deep + 12) →
   (∀ h' tk l ap v nn te tq r led, (∀ b o, s.heap.get? b = some o → h'.get? b = some o) → s.heap.get? l = none → s.heap.get? ap = none → h'.get? l = some { cls := .type "tuple", data := .seq #[v, .ref ap, .int (n + t.pay.length : Nat) te] } →
     h'.get? ap = some (W.listOf (.bytes (p ++ t.pay).toArray tq :: r).toArray nn) → RL led t v → (∀ q ∈ led, h'.get? q.1 = some q.2 ∧ s.heap.get? q.1 = none) → Q (.ref l) { s with heap := h', toks := tk }) →
   wpAny (model PG w) A (call (.ref 499) [.bytes b tb, .bytes p.toArray tp, .int n ts, .type t.ty, .int t.pay.length tl]) Q E s
theorem cpl_of_leaf (bs : List UInt8) : CplSpec (.leaf bs) := by
  intro w A s Q E b p post tb tp ts tl n hB hnb hbs hp ok r hQ
  have hB' : b.toList.drop n = bs ++ post := hB
  have hl : b.toList.length = b.size := rfl
  have hd := congrArg List.length hB'
  rw [List.length_drop, List.length_append] at hd
  have ht : (b.toList.drop n).take bs.length = bs := by rw [hB', List.take_left]
  have hn : n + bs.length ≤ b.size := by omega
  · refine cpl_leaf b p tb tp ts tl n bs.length hbs hn hp ok (r.less (by omega) (by omega)) fun h' tk l ap ti tq te k f1 f2 i1 i2 => ?_
    rw [ht] at i1 i2
    exact hQ h' tk l ap _ _ te tq [] [] k f1 f2 i1 i2 ⟨ti, rfl⟩ (fun _ h => nomatch h)
theorem roomOf {dep un d u : Nat} {frs : Option (List Env)} {gds : Option (List Code)} {env : Env} (h1 : dep + (d + 1) < recursionLimit) (h2 : un + (u + 3) < cLine) : Room (({ depth := dep, frames := frs, guards := gds, units := un } : Around).deeper env) d u :=
  Room.deeper ⟨h1, h2, rfl⟩
structure CpS where
  k : Nat
  pos : Nat
  lr : List UInt8
  vs : List Value
  ws : List Value
  c1 : Nat
  c2 : Nat
  ext : List (Addr × Obj)
  t1 : Tok
  t2 : Tok
  t3 : Tok
theorem cpl_of_node (us : RTs) (hok : RT.ok (.node us)) (ih : ∀ t ∈ us.toList, t.ok ∧ t.deep ≤ us.deep ∧ CplSpec t) : CplSpec (.node us) := by
  intro w A s Q E b p post tb tp ts tl n hB hnb hbs hp ok r hQ
  have hB' : b.toList.drop n = encL us.toList ++ post := by rw [← RTs.enc_eq]; exact hB
  have hpay : RT.pay (.node us) = encL us.toList := RTs.enc_eq us
  rw [hpay] at hQ ⊢
  generalize hlen : (encL us.toList).length = len at hQ ⊢
  show wpAny _ _ (call (.ref 499) [.bytes b tb, .bytes p.toArray tp, .int n ts, .type "list", .int len tl]) _ _ _
  rw [show (RT.node us).deep = us.deep + 1 from rfl] at r
  have hlen2 : len < 200 := by rw [← hlen, ← RTs.enc_eq]; exact hok.2
  have := fillOk_W11; clear this
  w_on
  obtain ⟨hdl, dep, frs, gds, un⟩ := A
  obtain ⟨hd, hu, hh⟩ := r
  dsimp only at hd hu hh; subst hh
  refine' enter_q [(.ofString "rlp", .bytes b tb), (.ofString "prefix", .bytes p.toArray tp), (.ofString "start", .int n ts), (.ofString "type_", .type "list"), (.ofString "length", .int len tl)] ?ok ?ho ?hcd ?hroom ?hb ?hs ?hbind ?hloc ?hco ?hgen ?hk ?hcell ?_
  walk_at "MINE enter"
  intro h₁ mg mb tk0 X T F N
  k_steps
  show wpAny _ _ _ _ _ _
  rename_i ai _ _ _ _ aper _ l1 _ _ _ _ F2 N2
  generalize hL : us.toList = lst at *
  refine my_while (σ := CpS) (fun c => (aper, W.listOf c.ws.toArray c.c2) :: (ai, W.listOf c.vs.toArray c.c1) :: c.ext)
    (fun c => [(.ofString "rlp", .bytes b tb), (.ofString "next_item_start", .int c.pos c.t1), (.ofString "end", .int (n + len : Nat) c.t2), (.ofString "list_rlp", .bytes c.lr.toArray c.t3), (.ofString "items", .ref ai), (.ofString "per_item_rlp", .ref aper)])
    (fun c => c.k ≤ lst.length ∧ c.pos = n + (encL (lst.take c.k)).length ∧ c.lr = p ++ encL (lst.take c.k) ∧ All2 (RL c.ext) (lst.take c.k) c.vs ∧ c.ws.length = c.k ∧ OwnOff c.ext [aper, ai]) (fun c => lst.length - c.k) ⟨0, n, p, [], [], 0, 0, [], _, _, _⟩ F2 N2 (by kst_all) ⟨Nat.zero_le _, rfl, (List.append_nil _).symm, .nil, rfl, fun _ h => nomatch h⟩ ?_
  · rintro ⟨k, pos, lr, vs, ws, c1, c2, ext, t1, t2, t3⟩ u h tk ⟨hk, hpos, hlr, hall, hwl, hoff⟩ F3 N3
    dsimp only [kstB] at F3 N3 hk hpos hlr hall hwl hoff ⊢
    have hvl := hall.length
    have hll : lst.length ≤ len := hlen ▸ encL_len lst
    rw [List.length_take, Nat.min_eq_left hk] at hvl
    by_cases hlt : k < lst.length
    · obtain ⟨t, htk⟩ : ∃ t, lst[k]? = some t := ⟨lst[k], List.getElem?_eq_getElem hlt⟩
      have htm : t ∈ lst := List.mem_of_getElem? htk
      obtain ⟨tok, tdp, tcp⟩ := ih t htm
      have hsplit : lst = lst.take k ++ t :: lst.drop (k + 1) := by
        have h1 := List.take_append_drop k lst
        have h2 := List.drop_eq_getElem_cons hlt
        rw [List.getElem?_eq_getElem hlt] at htk
        rw [Option.some.inj htk] at h2
        rw [h2] at h1; exact h1.symm
      have hE : encL lst = encL (lst.take k) ++ (t.enc ++ encL (lst.drop (k + 1))) := by
        conv => lhs; rw [hsplit]
        unfold encL; rw [List.flatMap_append, List.flatMap_cons]
      have hEl := congrArg List.length hE
      rw [List.length_append, List.length_append, hlen] at hEl
      have hep := RT.enc_pos t
      have hposlt : (pos : Int) < ((n + len : Nat) : Int) := by omega
      have hdrop : b.toList.drop pos = t.enc ++ (encL (lst.drop (k + 1)) ++ post) := by
        rw [hpos, ← List.drop_drop, hB', hE, List.append_assoc, List.drop_left, List.append_assoc]
      k_steps
      refine clp_all t tok b _ _ pos _ hdrop hbs (ok.stays F3.keep) (roomOf (by omega) (by omega)) fun h4 tk4 l4 tp4 tl4 td4 k4 f4 i4 => ?_
      have F4 := F3.after k4
      have N4 := News.add F3 (News.stays N3 k4) f4 i4
      have n1 := ne_fresh (N3 _ (.head _)).1 f4
      have n2 := ne_fresh (N3 _ (.tail _ (.head _))).1 f4
      have hdrop2 : b.toList.drop (pos + t.pfx.length) = t.pay ++ (encL (lst.drop (k + 1)) ++ post) := by
        rw [← List.drop_drop, hdrop, RT.enc_eq, List.append_assoc, List.drop_left]
      have hel : t.enc.length = t.pfx.length + t.pay.length := by rw [RT.enc_eq, List.length_append]
      have hbl : b.toList.length = b.size := rfl
      have hdl := congrArg List.length hdrop
      rw [List.length_drop, List.length_append] at hdl
      have hpl : t.pfx.length ≤ 10 := RT.pfx_le t
      k_steps
      have F5 := (show Fr s.heap s.heap.objs.size _ _ by assumption)
      have N5 := (show News s.heap s.heap.objs.size _ _ by assumption)
      refine tcp b t.pfx _ _ _ _ _ (pos + t.pfx.length) hdrop2 (by omega) hbs hpl (ok.stays F5.keep) (roomOf (by omega) (by omega)) fun h6 tk6 l6 ap6 v6 nn6 te6 tq6 r6 led6 k6 f6 g6 i6 j6 rl6 ld6 => ?_
      have F6 := F5.after k6
      obtain ⟨ext2, hext2⟩ : ∃ e, e = ext ++ led6 := ⟨_, rfl⟩
      have N5' := News.stays N5 k6
      have Nl : News s.heap s.heap.objs.size h6 led6 := fun q hq => News.add F5 (news := []) (fun _ h => nomatch h) (ld6 q hq).2 (ld6 q hq).1 _ (.head _)
      have Nx := News.append N5' Nl
      simp only [List.cons_append] at Nx
      rw [← hext2] at Nx
      have N6 := News.add F5 (News.add F5 Nx g6 j6) f6 i6
      have n3 := ne_fresh (N5 _ (.tail _ (.head _))).1 f6
      have n4 := ne_fresh (N5 _ (.tail _ (.head _))).1 g6
      have n5 := ne_fresh (N5 _ (.tail _ (.tail _ (.head _)))).1 f6
      have n6 := ne_fresh (N5 _ (.tail _ (.tail _ (.head _)))).1 g6
      have hoff2 : OwnOff ext2 [aper, ai] := by
        intro q hq a ha
        rw [hext2] at hq
        rcases List.mem_append.mp hq with hq | hq
        · exact hoff q hq a ha
        · rcases List.mem_cons.mp ha with rfl | ha
          · exact fun e => ne_fresh (N5 _ (.tail _ (.head _))).1 (ld6 q hq).2 e.symm
          · rw [List.mem_singleton.mp ha]
            exact fun e => ne_fresh (N5 _ (.tail _ (.tail _ (.head _)))).1 (ld6 q hq).2 e.symm
      clear hoff
      dsimp only at n1 n2 n3 n4 n5 n6
      have hlrl : lr.length = p.length + (encL (lst.take k)).length := by rw [hlr, List.length_append]
      have hpp : t.pfx ++ t.pay = t.enc := (RT.enc_eq t).symm
      k_steps
      refine iadd_bytes (by rw [List.size_toArray, List.size_toArray, hpp]; omega) fun t8 k8 => ?_
      rw [List.append_toArray, hpp]
      k_steps
      have F7 := (show Fr s.heap s.heap.objs.size _ _ by assumption)
      have N7 := (show News s.heap s.heap.objs.size _ _ by assumption)
      rw [List.push_toArray] at N7
      have htake : lst.take (k + 1) = lst.take k ++ [t] := by rw [List.take_add_one, htk]; rfl
      have henc : encL (lst.take (k + 1)) = encL (lst.take k) ++ t.enc := by rw [htake]; unfold encL; simp
      refine myw_end ⟨k + 1, pos + t.pfx.length + t.pay.length, lr ++ t.enc, vs ++ [v6], ws ++ [.ref ap6], c1 + 1, c2 + 1, ext2, _, _, _⟩ F7 N7 (fun q hq => .tail _ (.tail _ (.tail _ hq))) (by kst_all) ⟨hlt, ?_, ?_, ?_, ?_, hoff2⟩ ?_
      · dsimp only; rw [henc, List.length_append]; omega
      · dsimp only; rw [henc, hlr, List.append_assoc]
      · dsimp only; rw [htake]
        exact (hall.imp fun a b h => RL.mono (fun q hq => by rw [hext2]; exact List.mem_append_left _ hq) a b h).snoc (RL.mono (fun q hq => by rw [hext2]; exact List.mem_append_right _ hq) t v6 rl6)
      · dsimp only; rw [List.length_append, hwl]; rfl
      · dsimp only; omega
    · have hkl : k = lst.length := by omega
      have hpe : pos = n + len := by rw [hpos, hkl, List.take_length, hlen]
      have hnl : ¬ ((pos : Int) < ((n + len : Nat) : Int)) := by omega
      have hng : ¬ (((n + len : Nat) : Int) < (pos : Int)) := by omega
      k_steps
      refine kl_insert (l := .bytes lr.toArray t3 :: ws) (its := ws.toArray) (n := c2) F3 N3 rfl (by simp [kl_ins]) (.head fun q hq => ?_) ?_ fun h9 F9 N9 => ?_
      · rcases List.mem_cons.mp hq with rfl | hq
        · exact Nat.ne_of_lt l1
        · exact hoff q hq aper (.head _)
      · rw [sizeLine_eq]; show ws.length ≤ _; omega
      · k_steps
        have F7 := (show Fr s.heap s.heap.objs.size _ _ by assumption)
        have N7 := (show News s.heap s.heap.objs.size _ _ by assumption)
        have htk : lst.take k = lst := by rw [hkl, List.take_length]
        rw [htk] at hall hlr
        refine hQ _ _ _ aper (.ref ai) (c2 + 1) t1 t3 ws ((ai, W.listOf vs.toArray c1) :: ext) F7.keep (N7 _ (.head _)).2.2 (N7 _ (.tail _ (.head _))).2.2 ?_ ?_ ?_ ?_
        · have := (N7 _ (.head _)).1
          dsimp only at this
          rw [hpe] at this; exact this
        · rw [← hlr]; exact (N7 _ (.tail _ (.head _))).1
        · refine ⟨ai, vs, c1, rfl, .head _, RLs.of_all ?_⟩
          rw [hL]
          exact hall.imp fun a b h => RL.mono (fun q hq => .tail _ hq) a b h
        · exact fun q hq => ⟨(N7 _ (.tail _ (.tail _ hq))).1, (N7 _ (.tail _ (.tail _ hq))).2.2⟩

mutual
theorem cpl_all : ∀ t : RT, t.ok → CplSpec t
  | .leaf bs, _ => cpl_of_leaf bs
  | .node us, h => cpl_of_node us h (cpl_list us h.1)
theorem cpl_list : ∀ us : RTs, us.ok → ∀ t ∈ us.toList, t.ok ∧ t.deep ≤ us.deep ∧ CplSpec t
  | .nil, _, _, h => nomatch h
  | .cons t us, h, t', hm => by
    have ht : CplSpec t := @cpl_all t h.1
    have hs := cpl_list us h.2
    rcases List.mem_cons.mp hm with e | hm
    · rw [e]; exact ⟨h.1, Nat.le_max_left _ _, ht⟩
    · obtain ⟨a, b, c⟩ := hs t' hm
      exact ⟨a, Nat.le_trans b (Nat.le_max_right _ _), c⟩
end

end Mine
end
section -- W12
open PySem PySem.W PySem.Calls PyProof.Rows
set_option maxRecDepth 100000
set_option maxHeartbeats 4000000
namespace Mine
theorem fillOk_W12 : (PySem.Challenge.rw_vn0025_01 = PySem.Challenge.rw_vn0025_01 ∧ fragK = fragK) := fillOk_W1
local macro_rules | `(tactic| walk_at "MINE enter") => `(tactic| (
  k_dflt ((case' ok => assumption); (case' ho => k_is); (case' hcd => k_is); (case' hroom => ((try dsimp only); omega)); (case' hb => conv => lhs; whnf); (case' hs => conv => lhs; whnf); (case' hbind => first | exact BindsTo.of_eq rfl | exact binds_K (Ok.frag (by assumption)) rfl (by k_is) rfl rfl rfl); (case' hloc => exact locs rfl); (case' hco => exact rfl); (case' hgen => exact rfl); (case' hk => exact rfl); (case' hcell => decide))))
local macro_rules | `(tactic| walk_at "MINE centerC") => `(tactic| (
  k_dflt ((case' ok => assumption); (case' ho => k_is); (case' hcd => k_is); (case' hroom => ((try dsimp only); omega)); (case' hb => conv => lhs; whnf); (case' hs => conv => lhs; whnf); (case' hbind => first | exact BindsTo.of_eq rfl | exact binds_K (Ok.frag (by assumption)) rfl (by k_is) rfl rfl rfl); (case' hloc => exact kindsX rfl); (case' hco => exact rfl); (case' hgen => exact rfl); (case' hk => exact rfl); (case' hcell => decide))))
local macro_rules | `(tactic| walk_at "exec For Name Name cons nil") => `(tactic| refine unhold ?_)
local macro_rules | `(tactic| walk_at "exec For Name Call cons nil") => `(tactic| refine unhold ?_)
local macro_rules | `(tactic| walk_at "pyIter ref") => `(tactic| ((with_reducible show wpAny _ _ (pyIter (Value.ref _)) (fun it s₂ => LoopAtV _ _ _ _ _ _ _ _ _ it s₂) _ _); refine unhold ?_))
local macro_rules | `(tactic| walk_at "eval ListComp") => `(tactic| refine unhold ?_)
local macro_rules | `(tactic| walk_at "exec Assign cons ListComp") => `(tactic| refine unhold ?_)
local macro_rules | `(tactic| walk_at "exec While Compare cons nil") => `(tactic| refine unhold ?_)
local macro_rules | `(tactic| walk_at "eval Name") => `(tactic| (k_here; (with_reducible show wpAny _ _ (eval (Expr.Name _ _) (compEnvC _ _ _ _)) _ _ _); k_dflt (first
  | refine LCgL.ld_own (by k_asm) (by k_mem) (by assumption) (by assumption) ?_
  | refine my_global (by k_asm) (by k_asm) (by k_asm) (by k_is) ?_
  | refine my_built (by k_asm) (by k_asm) (by k_asm) (by k_is) (by boot_by_name) (by decide) ?_)))
local macro_rules | `(tactic| walk_at "binaryOp Add ref ref") => `(tactic| (k_here; (with_reducible show wpAny _ _ (binaryOp _ (Value.ref _) (Value.ref _)) _ _ _); k_dflt (refine' kmk_add_ints ?F ?N ?a ?b ?i ?j ?_ ?z; (case F => k_asm); (case N => k_asm); (case a => kmk_list); (case b => kmk_list); (case i => l_ints); (case j => l_ints); (case z => ((simp only [sizeLine_eq, List.length_append, List.length_map, List.length_cons, List.length_nil, Array.length_toList, KBw.ints_length]); omega))); intro D' ws' h' F' N' l1 hI'; (try k_lt l1); (try k_sweep)))
local macro_rules | `(tactic| walk_at "binaryOp Add str str") => `(tactic| (k_here; (refine my_add_str ?_ ?kz; (case kz => ((simp only [PySem.Str.length_append]; (try simp only [my_len1]); omega)))); intro _ _))
local macro_rules | `(tactic| walk_at "call builtin:list.append") => `(tactic| (k_here; (with_reducible show wpAny _ _ (call (Value.builtin _) [Value.ref _, _]) _ _ _); k_dflt (refine' append_K ?k1 ?k2 ?k3 ?_ ?z; (case k1 => k_asm); (case k2 => k_asm); (case k3 => k_upd); (case z => (simp only [List.size_toArray, sizeLine_eq]; omega)); k_whole); intro h' F' N'; (try k_sweep)))
variable {w : World} {A : Around} {s : Shared} {Q E : Value → Shared → Prop}
theorem none_of {h h' : Heap} {a : Addr} (k : ∀ b o, h.get? b = some o → h'.get? b = some o) (e : h'.get? a = none) : h.get? a = none := by
  cases q : h.get? a with
  | none => rfl
  | some o => rw [k _ _ q] at e; cases e
theorem consume_item_spec (t : RT) (hok : t.ok) (b : Array UInt8) (tb ts : Tok) (hB : b.toList = t.enc) (hbs : b.size ≤ 1000) (ok : Ok w s.heap) (r : Room A (2 * t.deep + 4) (6 * t.deep + 15))
   (hQ : ∀ h' tk l ap v nn te tq r led, (∀ b o, s.heap.get? b = some o → h'.get? b = some o) → s.heap.get? l = none → s.heap.get? ap = none → h'.get? l = some { cls := .type "tuple", data := .seq #[v, .ref ap, .int (b.size : Nat) te] } →
     h'.get? ap = some (W.listOf (.bytes t.enc.toArray tq :: r).toArray nn) → RL led t v → (∀ q ∈ led, h'.get? q.1 = some q.2 ∧ s.heap.get? q.1 = none) → Q (.ref l) { s with heap := h', toks := tk }) :
   wpAny (model PG w) A (call (.ref 506) [.bytes b tb, .int (0 : Nat) ts]) Q E s := by
  have hsz : b.size = t.pfx.length + t.pay.length := by
    have := congrArg List.length hB
    rw [RT.enc_eq, List.length_append] at this
    exact this
  have := fillOk_W12; clear this
  w_on
  obtain ⟨hdl, dep, frs, gds, un⟩ := A
  obtain ⟨hd, hu, hh⟩ := r
  dsimp only at hd hu hh; subst hh
  refine' enter_q [(.ofString "rlp", .bytes b tb), (.ofString "start", .int (0 : Nat) ts)] ?ok ?ho ?hcd ?hroom ?hb ?hs ?hbind ?hloc ?hco ?hgen ?hk ?hcell ?_
  walk_at "MINE enter"
  intro h₁ mg mb tk0 X T F N
  k_steps
  have hdrop : b.toList.drop 0 = t.enc ++ [] := by rw [List.append_nil]; exact hB
  refine clp_all t hok b _ _ 0 _ hdrop hbs (ok.stays F.keep) (roomOf (by omega) (by omega)) fun h4 tk4 l4 tp4 tl4 td4 k4 f4 i4 => ?_
  have F4 := F.after k4
  have N4 := News.add F (News.stays N k4) f4 i4
  have hdrop2 : b.toList.drop (0 + t.pfx.length) = t.pay ++ [] := by rw [hB, RT.enc_eq, Nat.zero_add, List.drop_left, List.append_nil]
  k_steps
  have F5 := (show Fr s.heap s.heap.objs.size _ _ by assumption)
  refine @cpl_all t hok _ _ _ _ _ b t.pfx _ _ _ _ _ (0 + t.pfx.length) hdrop2 (by omega) hbs (RT.pfx_le t) (ok.stays F5.keep) (roomOf (by omega) (by omega)) fun h6 tk6 l6 ap6 v6 nn6 te6 tq6 r6 led6 k6 f6 g6 i6 j6 rl6 ld6 => ?_
  have F6 := F5.after k6
  have F5k := F5.keep
  k_steps
  rw [show t.pfx ++ t.pay = t.enc from (RT.enc_eq t).symm] at j6
  rw [show 0 + t.pfx.length + t.pay.length = b.size by omega] at i6
  exact hQ _ _ _ _ _ _ _ _ _ _ F6.keep (none_of F5k f6) (none_of F5k g6) i6 j6 rl6 fun q hq => ⟨(ld6 q hq).1, none_of F5k (ld6 q hq).2⟩

end Mine
end
section -- TE
open PySem PySem.W PySem.Calls PyProof.Rows
set_option maxRecDepth 100000
set_option maxHeartbeats 4000000
namespace Mine
-- --plain
open SeqAt MeetsSeq in
section
variable {A : Around} {s : Shared}
theorem bytes_beq (x : Array UInt8) : (x.toList == x.toList) = true := beq_self_eq_true _
theorem eq_bytes_same (x : Array UInt8) (t u : Tok) : EqAt A s (.bytes x t) (.bytes x u) true := fun prog w E Q h => by
  unfold eqBool
  refine wpAny_holding ?_
  refine wpAny_ite_split (fun hab => ?_) (fun hab => ?_)
  · exact wpAny_bind (wpAny_rule (wpAny_pure h))
  · exact wpAny_bind (richCompare_gives (typeIs_bytes s x t) (typeIs_bytes s x u) FB.slot_bytes_eq FB.entry_bytes_eq (FB.args_bytes_eq_2 _ _) (gives_bytes_eq x x t u) (by simp [Made.takes]) (wpAny_truthy_bool (by rw [bytes_beq]; exact h)))
theorem ne_bytes_same (x : Array UInt8) (t u : Tok) : RcNeAt A s (.bytes x t) (.bytes x u) false := fun prog w E Q h =>
  richCompare_gives (typeIs_bytes s x t) (typeIs_bytes s x u) FB.slot_bytes_ne FB.entry_bytes_ne (FB.args_bytes_ne_2 _ _) (gives_bytes_ne x x t u) (by simp [Made.takes]) (by
    have e : (!(x.toList == x.toList)) = false := by rw [bytes_beq]; rfl
    show Q (.bool _) s
    first | (rw [e]; exact h) | (simpa using h))
theorem all_true {n : Nat} {e : Nat → Bool} (h : ∀ i, i < n → e i = true) : (List.range n).all e = true := List.all_eq_true.mpr fun i hi => h i (List.mem_range.mp hi)
mutual
theorem tree_eqAt : ∀ (t : RT) (A : Around) (v v' : Value), RAt s.heap t v → RAt s.heap t v' → A.units + t.deep + 1 < cLine → EqAt A s v v' true
  | .leaf b, A, _, _, ⟨t, e⟩, ⟨u, e'⟩, _ => by subst e; subst e'; exact eq_bytes_same _ _ _
  | .node ts, A, _, _, ⟨a, vs, e, l, r⟩, ⟨a', vs', e', l', r'⟩, hu => by
    subst e; subst e'
    by_cases ha : a = a'
    · subst ha; exact EqAt.same _
    · refine EqAt.of_refs ha ?_
      have hd : (RT.node ts).deep = ts.deep + 1 := rfl
      rw [hd] at hu
      have n1 := trees_len ts vs r
      have n2 := trees_len ts vs' r'
      have := RcAt.lists (e := fun _ => true) l l' (by simp; omega) (by omega) fun j j1 j2 => trees_eqAt ts A.in1 vs vs' r r' (by show A.units + 1 + ts.deep + 1 < cLine; omega) j (by simpa using j1) (by simpa using j2)
      rw [all_true fun _ _ => rfl] at this
      exact this
theorem trees_eqAt : ∀ (ts : RTs) (A : Around) (vs vs' : List Value), RAts s.heap ts vs → RAts s.heap ts vs' → A.units + ts.deep + 1 < cLine → ∀ (j : Nat) (h1 : j < vs.length) (h2 : j < vs'.length), EqAt A s vs[j] vs'[j] true
  | .nil, _, _, _, x, _, _, j, h1, _ => by subst x; cases h1
  | .cons t ts, A, _, _, ⟨v, r, e, x, y⟩, ⟨v', r', e', x', y'⟩, hu, 0, _, _ => by
    subst e; subst e'
    have hd : (RTs.cons t ts).deep = max t.deep ts.deep := rfl
    exact tree_eqAt t A v v' x x' (by omega)
  | .cons t ts, A, _, _, ⟨v, r, e, x, y⟩, ⟨v', r', e', x', y'⟩, hu, j + 1, h1, h2 => by
    subst e; subst e'
    have hd : (RTs.cons t ts).deep = max t.deep ts.deep := rfl
    exact trees_eqAt ts A r r' y y' (by omega) j (Nat.lt_of_succ_lt_succ h1) (Nat.lt_of_succ_lt_succ h2)
theorem trees_len : ∀ (ts : RTs) (vs : List Value), RAts s.heap ts vs → vs.length = ts.len
  | .nil, _, x => by subst x; rfl
  | .cons t ts, _, ⟨v, r, e, x, y⟩ => by subst e; exact congrArg (· + 1) (trees_len ts r y)
end
theorem tree_neAt (t : RT) (A : Around) (v v' : Value) (h : RAt s.heap t v) (h' : RAt s.heap t v') (hu : A.units + t.deep + 1 < cLine) : RcNeAt A s v v' false := by
  cases t with
  | leaf b =>
    obtain ⟨t, e⟩ := h; obtain ⟨u, e'⟩ := h'
    subst e; subst e'; exact ne_bytes_same _ _ _
  | node ts =>
    obtain ⟨a, vs, e, l, r⟩ := h; obtain ⟨a', vs', e', l', r'⟩ := h'
    subst e; subst e'
    have hd : (RT.node ts).deep = ts.deep + 1 := rfl
    rw [hd] at hu
    have n1 := trees_len ts vs r
    have n2 := trees_len ts vs' r'
    have := RcNeAt.lists (e := fun _ => true) l l' (by simp; omega) (by omega) fun j j1 j2 => trees_eqAt ts A.in1 vs vs' r r' (by show A.units + 1 + ts.deep + 1 < cLine; omega) j (by simpa using j1) (by simpa using j2)
    rw [all_true fun _ _ => rfl] at this
    exact this
theorem tree_ne {prog : Program} {w : World} {E Q : Value → Shared → Prop} (t : RT) (v v' : Value) (h : RAt s.heap t v) (h' : RAt s.heap t v') (hu : A.units + t.deep + 1 < cLine) (q : Q (.bool false) s) : wpAny (model prog w) A (compareOp .NotEq v v') Q E s :=
  tree_neAt t A v v' h h' hu prog w E Q q
end

end Mine
end
section -- WE
open PySem PySem.W PySem.Calls PyProof.Rows
set_option maxRecDepth 100000
set_option maxHeartbeats 4000000
namespace Mine
-- --plain
open LCg in
section
variable {prog : Program} {w : World} {A : Around} {E : Value → Shared → Prop} {s : Shared} {h₀ : Heap} {L : Addr} {m : Str → Option Value} {env : Env}
/-- as CompGo, for a comprehension that is stored under a name -/
def CompGoA (prog : Program) (w : World) (A : Around) (h₀ : Heap) (L : Addr) (m : Str → Option Value) (env : Env) (elt : Expr) (x y : Str) (scope : Scope) (cl : List (Str × Addr)) (Q : Flow → Shared → Prop) (xv : Value) (s₁ : Shared) : Prop :=
  ∃ (n : Nat) (P : Nat → Value → Prop) (news : List (Addr × Obj)) (J : Nat → List Value → Prop), SrcW prog w A h₀ L news n P xv s₁ ∧ n ≤ sizeLine ∧ Fr h₀ L s₁.heap m ∧ News h₀ L s₁.heap news ∧ J 0 [] ∧
      (∀ i v I oI C oC D ys m₂ h tk (E' : Value → Shared → Prop), i < n → P i v → NsObj oC m₂ → m₂ x = some v → Fr h₀ L h m → News h₀ L h ((I, oI) :: (C, oC) :: (D, lst ys) :: news) → J i ys →
        wpAny (model prog w) A (eval elt (compEnvC scope cl C env)) (MyC h₀ L m { s₁ with heap := h, toks := tk } ((I, oI) :: (C, oC) :: (D, lst ys) :: news) (fun y => J (i + 1) (ys ++ [y]))) E' { s₁ with heap := h, toks := tk }) ∧
      (∀ ys, J n ys → ∀ D h tk, Fr h₀ L h (fun z => if z = y then some (.ref D) else m z) → News h₀ L h ((D, lst ys) :: news) → Off1 D news → Q .next { s₁ with heap := h, toks := tk })
theorem my_compA {elt iter : Expr} {x y : Str} {px py : Pos} {scope : Scope} {cl : List (Str × Addr)} {pos spos : Pos} {Q : Flow → Shared → Prop} (_F₀ : Fr h₀ L s.heap m) (hLe : env.locals = L)
    (hsw : swapsWith (.ListComp elt [⟨.Name x px, iter, [], 0⟩] scope pos) (some (.Name y py)) spos.line env = pure true)
    (hclos : closureFor scope env = pure cl) (hcell : ∀ z ∈ scope.names, z.2 ≠ .cell) (hkind : scope.kind = .function)
    (hnames : ∀ z ∈ scope.names, z.2 = .local → scope.names.lookup z.1 = some .local) (hx : scope.names.lookup x = some .local)
    (hy : env.kindOf y = some .local) (hp : (env.scope.kind == .class || (env.scope.kind == .module && env.locals != env.globals)) = false)
    (h : wpAny (model prog w) A (eval iter env) (CompGoA prog w A h₀ L m env elt x y scope cl Q) E s)
    (hs : ∀ x, foldedSetIterable iter env x = pure x := by intro _; rfl) :
    wpAny (model prog w) A (exec (.Assign [.Name y py] (.ListComp elt [⟨.Name x px, iter, [], 0⟩] scope pos) spos) env) Q E s := by
  subst hLe
  rw [exec_Assign_Name_used _ _ _ _ hsw]
  refine wpAny_bind (wpAny_standAt (wpAny_bind ?_))
  show wpAny _ A (do let _ ← comprehension (.ListComp elt [⟨.Name x px, iter, [], 0⟩] scope pos) scope env _ (newList []) false (eval iter env) (some (assign (.Name y py) env))) _ _ s
  refine wpAny_bind (wpAny_mono (wpAny_comprehension_free (use := some (assign (.Name y py) env)) (Q := fun _ s' => Q .next s') rfl hs hclos hkind hnames
    (wpAny_mono h (fun xv s₁ h₁ => ?_) fun _ _ e => e)) (fun _ s' hq => wpAny_pure (wpAny_pure hq)) fun _ _ e => e)
  obtain ⟨n, P, news, J, src, hsz, F, N, j0, turn, fin⟩ := h₁
  refine src.go _ _ fun I fp St s₂ ⟨g, hg⟩ W hIo hI up st0 hfp hSt => ?_
  subst hg
  have F₂ : Fr h₀ env.locals g m := F.after up
  have N₂ : News h₀ env.locals g news := Mine.News.stays N up
  have hIL : env.locals ≠ I := by rw [hI]; exact Nat.ne_of_lt F.ns.lt
  have hI₀ : h₀.get? I = none := by rw [hI]; exact next_is_new F
  have off : ∀ p ∈ news, p.1 ≠ I := fun p hp => by rw [hI]; exact Nat.ne_of_lt (Heap.lt_size (N p hp).1)
  refine block_U (s₂ := { s₁ with heap := g }) (S := fun nw => ∀ p ∈ news, p ∈ nw) (news := news) (Fin := FinA h₀ env.locals m { s₁ with heap := g } y Q) W hsz hIo hSt hcell hkind hx st0 hfp F₂ N₂ hIL hI₀ off (fun _ h => h)
    (my_compRest (s := { s₁ with heap := g }) J (fun _ h => h) n (fun i v I oI C oC D ys m₂ h tk E' => turn i v I oI C oC D ys m₂ h tk E') (fun ys hj => ?_) n 0 [] (by omega) j0) ?_
  · exact fun D h tk F' N' o1 => fin ys hj D h tk F' N' o1
  · intro D C h tk m' ys news' F' N' o1 hn hC₀ hD₀ hCL hDL hCD offC fin'
    show wpAny _ A (assign (.Name y py) env (.ref D)) _ _ _
    refine wpAny_assign_Name (wpAny_storeName_local hy F'.ns (fun h₂ hn₂ hs₂ => ?_) hp)
    have hL₀ : h₀.get? env.locals = none := Heap.get?_none_of_le F'.above
    have F₃ : Fr h₀ env.locals h₂ (fun z => if z = y then some (.ref D) else m z) := ⟨hn₂, fun b o e => hs₂.extBut b o (fun q => by rw [q, hL₀] at e; cases e) (F'.keep b o e), F'.above⟩
    refine ⟨m', hn.sameBut hs₂ hCL, fun h'' hs'' => fin' D h'' _ (F₃.change hs'' hCL hC₀) (fun p hp => ?_) o1⟩
    have z : h₂.get? p.1 = some p.2 := hs₂.extBut _ _ (N' p hp).2.1 (N' p hp).1
    refine ⟨hs''.extBut _ _ ?_ z, (N' p hp).2⟩
    rcases List.mem_cons.mp hp with rfl | hp
    · exact Ne.symm hCD
    · exact offC p hp
end

end Mine
end
section -- WF
open PySem PySem.W PySem.Calls PyProof.Rows
set_option maxRecDepth 100000
set_option maxHeartbeats 4000000
namespace Mine
-- --plain
open LCg in
section
variable {prog : Program} {w : World} {A : Around} {E : Value → Shared → Prop} {s : Shared} {h₀ : Heap} {L : Addr} {m : Str → Option Value} {env : Env}
theorem my_restN {elt : Expr} {x : Str} {scope : Scope} {cl : List (Str × Addr)} {S : List (Addr × Obj) → Prop} {P : Nat → Value → Prop} {Fin : List Value → List (Addr × Obj) → Prop} (J : Nat → List Value → List (Addr × Obj) → Prop) (hS : ∀ nw, S nw) (N0 : Nat)
    (turn : ∀ i v I oI C oC D ys nw m₂ h tk (E' : Value → Shared → Prop), i < N0 → P i v → NsObj oC m₂ → m₂ x = some v → Fr h₀ L h m → News h₀ L h ((I, oI) :: (C, oC) :: (D, lst ys) :: nw) → Off3 I C D nw → ((@Ne Nat I C) ∧ (@Ne Nat I D) ∧ (@Ne Nat C D)) → J i ys nw →
      wpAny (model prog w) A (eval elt (compEnvC scope cl C env)) (CompEnd h₀ L m { s with heap := h, toks := tk } I oI C oC D (lst ys) (fun _ => True) (fun y nw' => J (i + 1) (ys ++ [y]) nw')) E' { s with heap := h, toks := tk })
    (done : ∀ ys nw, J N0 ys nw → Fin ys nw) : ∀ k i ys nw, i + k = N0 → J i ys nw → CompRest prog w A h₀ L m env elt x scope cl s S P Fin k i ys nw := by
  intro k
  induction k with
  | zero => intro i ys nw e hj; obtain rfl : i = N0 := by omega
            exact CompRest.zero (done ys nw hj)
  | succ k ih =>
    intro i ys nw e hj
    refine CompRest.succ fun v I oI C oC D m₂ h tk E' hP hC hx F N off ne => ?_
    refine wpAny_mono (turn i v I oI C oC D ys nw m₂ h tk E' (by omega) hP hC hx F N off ne hj) (fun y s₂ hy => ?_) fun _ _ e => e
    obtain ⟨h', tk', nw', rfl, F', N', off', _, r⟩ := hy
    exact ⟨h', tk', nw', rfl, F', N', off', hS _, ih (i + 1) (ys ++ [y]) nw' (by omega) r⟩
/-- as CompGo, where a turn may change the ledger -/
def CompGoN (prog : Program) (w : World) (A : Around) (h₀ : Heap) (L : Addr) (m : Str → Option Value) (env : Env) (elt : Expr) (x : Str) (scope : Scope) (cl : List (Str × Addr)) (Q : Value → Shared → Prop) (xv : Value) (s₁ : Shared) : Prop :=
  ∃ (n : Nat) (P : Nat → Value → Prop) (news : List (Addr × Obj)) (J : Nat → List Value → List (Addr × Obj) → Prop), SrcW prog w A h₀ L [] n P xv s₁ ∧ n ≤ sizeLine ∧ Fr h₀ L s₁.heap m ∧ News h₀ L s₁.heap news ∧ J 0 [] news ∧
      (∀ i v I oI C oC D ys nw m₂ h tk (E' : Value → Shared → Prop), i < n → P i v → NsObj oC m₂ → m₂ x = some v → Fr h₀ L h m → News h₀ L h ((I, oI) :: (C, oC) :: (D, lst ys) :: nw) → Off3 I C D nw → ((@Ne Nat I C) ∧ (@Ne Nat I D) ∧ (@Ne Nat C D)) → J i ys nw →
        wpAny (model prog w) A (eval elt (compEnvC scope cl C env)) (CompEnd h₀ L m { s₁ with heap := h, toks := tk } I oI C oC D (lst ys) (fun _ => True) (fun y nw' => J (i + 1) (ys ++ [y]) nw')) E' { s₁ with heap := h, toks := tk }) ∧
      (∀ ys nw, J n ys nw → ∀ D h tk, Fr h₀ L h m → News h₀ L h ((D, lst ys) :: nw) → Off1 D nw → Q (.ref D) { s₁ with heap := h, toks := tk })
theorem my_compN {elt iter : Expr} {x : Str} {px : Pos} {scope : Scope} {cl : List (Str × Addr)} {pos : Pos} {Q : Value → Shared → Prop} (_F₀ : Fr h₀ L s.heap m)
    (hclos : closureFor scope env = pure cl) (hcell : ∀ y ∈ scope.names, y.2 ≠ .cell) (hkind : scope.kind = .function)
    (hnames : ∀ y ∈ scope.names, y.2 = .local → scope.names.lookup y.1 = some .local) (hx : scope.names.lookup x = some .local)
    (h : wpAny (model prog w) A (eval iter env) (CompGoN prog w A h₀ L m env elt x scope cl Q) E s)
    (hs : ∀ x, foldedSetIterable iter env x = pure x := by intro _; rfl) :
    wpAny (model prog w) A (eval (.ListComp elt [⟨.Name x px, iter, [], 0⟩] scope pos) env) Q E s := by
  rw [eval_ListComp]
  refine wpAny_comprehension_free (use := none) rfl hs hclos hkind hnames (wpAny_mono h (fun xv s₁ h₁ => ?_) fun _ _ e => e)
  obtain ⟨n, P, news, J, src, hsz, F, N, j0, turn, fin⟩ := h₁
  refine src.go _ _ fun I fp St s₂ ⟨g, hg⟩ W hIo hI up st0 hfp hSt => ?_
  subst hg
  have F₂ : Fr h₀ L g m := F.after up
  have N₂ : News h₀ L g news := Mine.News.stays N up
  have hIL : L ≠ I := by rw [hI]; exact Nat.ne_of_lt F.ns.lt
  have hI₀ : h₀.get? I = none := by rw [hI]; exact next_is_new F
  have off : ∀ p ∈ news, p.1 ≠ I := fun p hp => by rw [hI]; exact Nat.ne_of_lt (Heap.lt_size (N p hp).1)
  refine block_U (s₂ := { s₁ with heap := g }) (S := fun nw => ∀ p ∈ ([] : List (Addr × Obj)), p ∈ nw) (news := news) (Fin := FinE h₀ L m { s₁ with heap := g } Q) W hsz hIo hSt hcell hkind hx st0 hfp F₂ N₂ hIL hI₀ off (fun _ h => nomatch h)
    (my_restN (s := { s₁ with heap := g }) J (fun _ _ h => nomatch h) n (fun i v I oI C oC D ys nw m₂ h tk E' => turn i v I oI C oC D ys nw m₂ h tk E') (fun ys nw hj => ?_) n 0 [] news (by omega) j0) ?_
  · exact fun D h tk F' N' o1 => fin ys nw hj D h tk F' N' o1
  · intro D C h tk m' ys news' F' N' o1 hn hC₀ hD₀ hCL hDL hCD offC fin'
    refine ⟨m', hn, fun h'' hs'' => fin' D h'' tk (F'.change hs'' hCL hC₀) (fun p hp => ?_) o1⟩
    refine ⟨hs''.extBut _ _ ?_ (N' p hp).1, (N' p hp).2⟩
    rcases List.mem_cons.mp hp with rfl | hp
    · exact Ne.symm hCD
    · exact offC p hp
end
section
variable {w : World} {h h' : Heap} {L l : Addr} {m : Str → Option Value} {o : Obj} {news : List (Addr × Obj)}
theorem fr_hide (F : Fr h L h' m) : Fr (h.hide l) L h' m := ⟨F.ns, fun b o e => F.keep b o (Heap.of_hide e), by rw [Heap.hide_size]; exact F.above⟩
theorem news_hide (N : News h L h' news) : News (h.hide l) L h' news := fun p hp => ⟨(N p hp).1, (N p hp).2.1, by
  cases e : (h.hide l).get? p.1 with
  | none => rfl
  | some o => have := Heap.of_hide e; rw [(N p hp).2.2] at this; cases this⟩
theorem frag_nolist (P : Params) : ((fragK P).all fun p => p.2.cls != .type "list") = true := by rfl
theorem frag_lookup {P : Params} {a : Addr} {o : Obj} (e : (fragK P).lookup a = some o) : o.cls ≠ .type "list" := by
  have : ∀ (l : Frag), (l.all fun p => p.2.cls != .type "list") = true → l.lookup a = some o → o.cls ≠ .type "list" := by
    intro l
    induction l with
    | nil => intro _ h; cases h
    | cons p r ih =>
      intro h e
      obtain ⟨k, v⟩ := p
      rw [List.all_cons, Bool.and_eq_true] at h
      rw [List.lookup_cons] at e
      split at e
      · cases e; simpa using h.1
      · exact ih h.2 e
  exact this _ (frag_nolist P) e
theorem in_hide (X : (fragK w.params).In h) (hl : h.get? l = some o) (hc : o.cls = .type "list") : (fragK w.params).In (h.hide l) := by
  intro a o' e
  have h1 := X _ _ e
  have hne : a ≠ l := fun q => by subst q; rw [hl] at h1; cases h1; exact frag_lookup e hc
  rw [Heap.hide_ne _ hne]; exact h1
theorem ns_hide {a : Addr} {n : Str → Option Value} (x : h.Ns a n) (hl : h.get? l = some o) {vs : Array Value} {k : Nat} (hd : o.data = .seq vs k) : (h.hide l).Ns a n := by
  have hne : a ≠ l := fun q => by
    subst q
    obtain ⟨o', es, ep, e, d, _⟩ := x
    rw [hl] at e; cases e; rw [hd] at d; cases d
  exact x.at' fun o e => by rw [Heap.hide_ne _ hne]; exact e
theorem top_hide {p : Program} {loose : List Str} {mg mb : Str → Option Value} (T : TopRead p loose mg mb h) (hl : h.get? l = some o) {vs : Array Value} {k : Nat} (hd : o.data = .seq vs k) : TopRead p loose mg mb (h.hide l) :=
  ⟨ns_hide T.g hl hd, ns_hide T.b hl hd, let ⟨mc, a, b⟩ := T.nolimit; ⟨mc, ns_hide a hl hd, b⟩, T.builtins, T.free⟩
end

end Mine
end
section -- W13
open PySem PySem.W PySem.Calls PyProof.Rows
set_option maxRecDepth 100000
set_option maxHeartbeats 4000000
namespace Mine
theorem fillOk_W13 : (PySem.Challenge.rw_vn0025_01 = PySem.Challenge.rw_vn0025_01 ∧ fragK = fragK) := fillOk_W1
local macro_rules | `(tactic| walk_at "MINE enter") => `(tactic| (
  k_dflt ((case' ok => assumption); (case' ho => k_is); (case' hcd => k_is); (case' hroom => ((try dsimp only); omega)); (case' hb => conv => lhs; whnf); (case' hs => conv => lhs; whnf); (case' hbind => first | exact BindsTo.of_eq rfl | exact binds_K (Ok.frag (by assumption)) rfl (by k_is) rfl rfl rfl); (case' hloc => exact locs rfl); (case' hco => exact rfl); (case' hgen => exact rfl); (case' hk => exact rfl); (case' hcell => decide))))
local macro_rules | `(tactic| walk_at "MINE centerC") => `(tactic| (
  k_dflt ((case' ok => assumption); (case' ho => k_is); (case' hcd => k_is); (case' hroom => ((try dsimp only); omega)); (case' hb => conv => lhs; whnf); (case' hs => conv => lhs; whnf); (case' hbind => first | exact BindsTo.of_eq rfl | exact binds_K (Ok.frag (by assumption)) rfl (by k_is) rfl rfl rfl); (case' hloc => exact kindsX rfl); (case' hco => exact rfl); (case' hgen => exact rfl); (case' hk => exact rfl); (case' hcell => decide))))
local macro_rules | `(tactic| walk_at "exec For Name Name cons nil") => `(tactic| refine unhold ?_)
local macro_rules | `(tactic| walk_at "exec For Name Call cons nil") => `(tactic| refine unhold ?_)
local macro_rules | `(tactic| walk_at "pyIter ref") => `(tactic| ((with_reducible show wpAny _ _ (pyIter (Value.ref _)) (fun it s₂ => LoopAtV _ _ _ _ _ _ _ _ _ it s₂) _ _); refine unhold ?_))
local macro_rules | `(tactic| walk_at "eval ListComp") => `(tactic| refine unhold ?_)
local macro_rules | `(tactic| walk_at "exec Assign cons ListComp") => `(tactic| refine unhold ?_)
local macro_rules | `(tactic| walk_at "exec While Compare cons nil") => `(tactic| refine unhold ?_)
local macro_rules | `(tactic| walk_at "eval Name") => `(tactic| (k_here; (with_reducible show wpAny _ _ (eval (Expr.Name _ _) (compEnvC _ _ _ _)) _ _ _); k_dflt (first
  | refine LCgL.ld_own (by k_asm) (by k_mem) (by assumption) (by assumption) ?_
  | refine my_global (by k_asm) (by k_asm) (by k_asm) (by k_is) ?_
  | refine my_built (by k_asm) (by k_asm) (by k_asm) (by k_is) (by boot_by_name) (by decide) ?_)))
local macro_rules | `(tactic| walk_at "binaryOp Add ref ref") => `(tactic| (k_here; (with_reducible show wpAny _ _ (binaryOp _ (Value.ref _) (Value.ref _)) _ _ _); k_dflt (refine' kmk_add_ints ?F ?N ?a ?b ?i ?j ?_ ?z; (case F => k_asm); (case N => k_asm); (case a => kmk_list); (case b => kmk_list); (case i => l_ints); (case j => l_ints); (case z => ((simp only [sizeLine_eq, List.length_append, List.length_map, List.length_cons, List.length_nil, Array.length_toList, KBw.ints_length]); omega))); intro D' ws' h' F' N' l1 hI'; (try k_lt l1); (try k_sweep)))
local macro_rules | `(tactic| walk_at "binaryOp Add str str") => `(tactic| (k_here; (refine my_add_str ?_ ?kz; (case kz => ((simp only [PySem.Str.length_append]; (try simp only [my_len1]); omega)))); intro _ _))
local macro_rules | `(tactic| walk_at "call builtin:list.append") => `(tactic| (k_here; (with_reducible show wpAny _ _ (call (Value.builtin _) [Value.ref _, _]) _ _ _); k_dflt (refine' append_K ?k1 ?k2 ?k3 ?_ ?z; (case k1 => k_asm); (case k2 => k_asm); (case k3 => k_upd); (case z => (simp only [List.size_toArray, sizeLine_eq]; omega)); k_whole); intro h' F' N'; (try k_sweep)))
variable {w : World} {A : Around} {s : Shared} {Q E : Value → Shared → Prop}
theorem ne_int_same {prog : Program} {a : Int} {t u : Tok} (h : Q (.bool false) s) : wpAny (model prog w) A (compareOp .NotEq (.int a t) (.int a u)) Q E s := ne_int (by simpa using h)
local macro_rules | `(tactic| walk_at "compareOp NotEq int int") => `(tactic| (k_here; with_reducible refine ne_int_same ?_))
theorem decode_raw_spec (t : RT) (hok : t.ok) (b : Array UInt8) (tb : Tok) (hB : b.toList = t.enc) (hbs : b.size ≤ 1000) (ok : Ok w s.heap) (r : Room A (2 * t.deep + 5) (6 * t.deep + 18))
   (hQ : ∀ h' tk l ap v led, (∀ b o, s.heap.get? b = some o → h'.get? b = some o) → s.heap.get? l = none → h'.get? l = some { cls := .type "tuple", data := .seq #[v, .ref ap] } →
     RL led t v → (∀ q ∈ led, h'.get? q.1 = some q.2 ∧ s.heap.get? q.1 = none) → Q (.ref l) { s with heap := h', toks := tk }) :
   wpAny (model PG w) A (call (.ref 470) [.bytes b tb, .bool true, .bool false]) Q E s := by
  have := fillOk_W13; clear this
  w_on
  obtain ⟨hdl, dep, frs, gds, un⟩ := A
  obtain ⟨hd, hu, hh⟩ := r
  dsimp only at hd hu hh; subst hh
  refine' enter_q [(.ofString "item", .bytes b tb), (.ofString "strict", .bool true), (.ofString "_", .bool false)] ?ok ?ho ?hcd ?hroom ?hb ?hs ?hbind ?hloc ?hco ?hgen ?hk ?hcell ?_
  walk_at "MINE enter"
  intro h₁ mg mb tk0 X T F N
  k_steps
  refine consume_item_spec t hok b _ _ hB hbs (ok.stays F.keep) (roomOf (by omega) (by omega)) fun h6 tk6 l6 ap6 v6 nn6 te6 tq6 r6 led6 k6 f6 g6 i6 j6 rl6 ld6 => ?_
  have Fk := F.keep
  have F6 := F.after k6
  have Nl : News s.heap s.heap.objs.size h6 led6 := fun q hq => News.add F (news := []) (fun _ h => nomatch h) (ld6 q hq).2 (ld6 q hq).1 _ (.head _)
  have N6 := News.add F (News.add F Nl g6 j6) f6 i6
  clear F N Nl
  k_steps
  rename_i F9 N9 _
  exact hQ _ _ _ _ _ led6 F9.keep (N9 _ (.head _)).2.2 (N9 _ (.head _)).1 rl6 fun q hq => ⟨(N9 _ (.tail _ (.tail _ (.tail _ hq)))).1, (N9 _ (.tail _ (.tail _ (.tail _ hq)))).2.2⟩

end Mine
end
section -- W14
open PySem PySem.W PySem.Calls PyProof.Rows
set_option maxRecDepth 100000
set_option maxHeartbeats 4000000
namespace Mine
theorem fillOk_W14 : (PySem.Challenge.rw_vn0025_01 = PySem.Challenge.rw_vn0025_01 ∧ fragK = fragK) := fillOk_W1
local macro_rules | `(tactic| walk_at "MINE enter") => `(tactic| (
  k_dflt ((case' ok => assumption); (case' ho => k_is); (case' hcd => k_is); (case' hroom => ((try dsimp only); omega)); (case' hb => conv => lhs; whnf); (case' hs => conv => lhs; whnf); (case' hbind => first | exact BindsTo.of_eq rfl | exact binds_K (Ok.frag (by assumption)) rfl (by k_is) rfl rfl rfl); (case' hloc => exact locs rfl); (case' hco => exact rfl); (case' hgen => exact rfl); (case' hk => exact rfl); (case' hcell => decide))))
local macro_rules | `(tactic| walk_at "MINE centerC") => `(tactic| (
  k_dflt ((case' ok => assumption); (case' ho => k_is); (case' hcd => k_is); (case' hroom => ((try dsimp only); omega)); (case' hb => conv => lhs; whnf); (case' hs => conv => lhs; whnf); (case' hbind => first | exact BindsTo.of_eq rfl | exact binds_K (Ok.frag (by assumption)) rfl (by k_is) rfl rfl rfl); (case' hloc => exact kindsX rfl); (case' hco => exact rfl); (case' hgen => exact rfl); (case' hk => exact rfl); (case' hcell => decide))))
local macro_rules | `(tactic| walk_at "exec For Name Name cons nil") => `(tactic| refine unhold ?_)
local macro_rules | `(tactic| walk_at "exec For Name Call cons nil") => `(tactic| refine unhold ?_)
local macro_rules | `(tactic| walk_at "pyIter ref") => `(tactic| ((with_reducible show wpAny _ _ (pyIter (Value.ref _)) (fun it s₂ => LoopAtV _ _ _ _ _ _ _ _ _ it s₂) _ _); refine unhold ?_))
local macro_rules | `(tactic| walk_at "eval ListComp") => `(tactic| refine unhold ?_)
local macro_rules | `(tactic| walk_at "exec Assign cons ListComp") => `(tactic| refine unhold ?_)
local macro_rules | `(tactic| walk_at "exec While Compare cons nil") => `(tactic| refine unhold ?_)
local macro_rules | `(tactic| walk_at "eval Name") => `(tactic| (k_here; (with_reducible show wpAny _ _ (eval (Expr.Name _ _) (compEnvC _ _ _ _)) _ _ _); k_dflt (first
  | refine LCgL.ld_own (by k_asm) (by k_mem) (by assumption) (by assumption) ?_
  | refine my_global (by k_asm) (by k_asm) (by k_asm) (by k_is) ?_
  | refine my_built (by k_asm) (by k_asm) (by k_asm) (by k_is) (by boot_by_name) (by decide) ?_)))
local macro_rules | `(tactic| walk_at "binaryOp Add ref ref") => `(tactic| (k_here; (with_reducible show wpAny _ _ (binaryOp _ (Value.ref _) (Value.ref _)) _ _ _); k_dflt (refine' kmk_add_ints ?F ?N ?a ?b ?i ?j ?_ ?z; (case F => k_asm); (case N => k_asm); (case a => kmk_list); (case b => kmk_list); (case i => l_ints); (case j => l_ints); (case z => ((simp only [sizeLine_eq, List.length_append, List.length_map, List.length_cons, List.length_nil, Array.length_toList, KBw.ints_length]); omega))); intro D' ws' h' F' N' l1 hI'; (try k_lt l1); (try k_sweep)))
local macro_rules | `(tactic| walk_at "binaryOp Add str str") => `(tactic| (k_here; (refine my_add_str ?_ ?kz; (case kz => ((simp only [PySem.Str.length_append]; (try simp only [my_len1]); omega)))); intro _ _))
local macro_rules | `(tactic| walk_at "call builtin:list.append") => `(tactic| (k_here; (with_reducible show wpAny _ _ (call (Value.builtin _) [Value.ref _, _]) _ _ _); k_dflt (refine' append_K ?k1 ?k2 ?k3 ?_ ?z; (case k1 => k_asm); (case k2 => k_asm); (case k3 => k_upd); (case z => (simp only [List.size_toArray, sizeLine_eq]; omega)); k_whole); intro h' F' N'; (try k_sweep)))
variable {w : World} {A : Around} {s : Shared} {Q E : Value → Shared → Prop}
abbrev kwO : Obj := { cls := .type "dict", data := .dict #[] }
def BindsKw (s : Shared) (fd : FuncData) (args : Args) (binds : Addr → List (Str × Value)) : Prop :=
  ∀ (M : Model) (A : Around) (E : Value → Shared → Prop) (Q : List (Str × Value) → Shared → Prop), Q (binds s.heap.objs.size) { s with heap := s.heap.push kwO } → wpAny M A (bindArgs fd args) Q E s
theorem bindsKw_K {K : Frag} {s : Shared} {fd : FuncData} {args : Args} {binds : Addr → List (Str × Value)} {T : Addr} {o : Obj} {items : Array Value} {n : Nat} {k : Option (Array Value) → Sem (List (Str × Value))} (X : K.In s.heap) (hd : fd.defaults = .ref T) (ho : K.lookup T = some o) (hs : o.data = .seq items n)
    (h₁ : bindArgs fd args = seqItems? fd.defaults >>= k) (h₂ : k (some items) = (alloc kwO >>= fun D => pure (binds D))) : BindsKw s fd args binds := fun M A E Q q => by
  rw [h₁, hd]
  refine wpAny_bind (wpAny_seqItems (X _ _ ho) hs ?_)
  rw [h₂]
  exact wpAny_bind (wpAny_alloc (wpAny_pure q))
/-- entry of a def with a dict of further keywords -/
theorem enter_kw {w : World} {A : Around} {Q E : Value → Shared → Prop} {s : Shared} {name qual : Str} {params : Arguments} {body body' : List Stmt} {scope scope' : Scope}
    {dV kV doc pm cdv ct oc : Value} {an od : Option Addr} {osl : Array (Option Value)} {f : Addr} {pos : List Value} {kw : List (Str × Value)} (binds : Addr → List (Str × Value))
    (ok : Ok w s.heap)
    (ho : (fragK w.params).lookup f = some ⟨oc, od, .func (fnOf name qual params body scope dV kV doc pm an cdv ct), osl⟩) (hcd : codeIn (fragK w.params) cdv qual = true) (hroom : A.depth < recursionLimit)
    (hb : body = body') (hs : scope = scope')
    (hbind : BindsKw s (fnOf name qual params body scope dV kV doc pm an cdv ct) ⟨pos, kw⟩ binds) (hloc : ∀ D, ∀ y ∈ binds D, scope.names.lookup y.1 = some .local)
    (hco : scope.isCoroutine = false) (hgen : scope.isGenerator = false) (hk : scope.kind = .function)
    (hcell : ∀ x ∈ scope.names, x.2 ≠ .cell)
    (h : ∀ h₁ mg mb tk, (fragK w.params).In s.heap → TopRead viewP (looseW viewP looseV) mg mb s.heap →
      Fr s.heap (s.heap.objs.size + 1) h₁ (fun y => (binds s.heap.objs.size).reverse.lookup y) → News s.heap (s.heap.objs.size + 1) h₁ [(s.heap.objs.size, kwO)] →
      wpAny (model PG w) (A.deeper (envOf qual scope' (s.heap.objs.size + 1) f cdv)) (execs body' (envOf qual scope' (s.heap.objs.size + 1) f cdv))
        (fun fl s' => Q (match fl with | .ret v => v | _ => .none) s') (fun _ _ => False) { s with heap := h₁, toks := tk }) :
    wpAny (model PG w) A (call (.ref f) pos kw) Q E s := by
  subst hb hs
  have X' : (fragK w.params).In s.heap := fun a o e => (of_low (ok.X a o e)).1
  obtain ⟨mg, mb, T⟩ := ok.T
  have T' : TopRead viewP (looseW viewP looseV) mg mb s.heap := T.keeps fun b o e => (of_low e).1
  have hlim : s.heap.NoLimit := T'.nolimit
  refine wpAny_call (codeAny_call_function (fd := fnOf name qual params body scope dV kV doc pm an cdv ct) (body := body) hroom (X' _ _ ho) rfl hco hgen rfl (codeRec_of X' hcd) ?_)
  refine hbind _ _ _ _ ?_
  have hlim' : (s.heap.push kwO).NoLimit := hlim.keeps fun b x hb => Heap.get?_push_of_some _ hb
  have hsz : (s.heap.push kwO).objs.size = s.heap.objs.size + 1 := by rw [Heap.size_push]
  refine wpAny_newFunctionEnv hcell (hloc _) (fun h₁ hns hsb => ⟨hlim'.fresh _ hsb, codeAny_func ?_⟩) hk
  have hk₁ : ∀ b o', (s.heap.push kwO).get? b = some o' → h₁.get? b = some o' := fun b o' e => hsb.extBut b o' (Nat.ne_of_lt (Heap.lt_size e)) (Heap.get?_push_of_some _ e)
  have hk₀ : ∀ b o', s.heap.get? b = some o' → h₁.get? b = some o' := fun b o' e => hk₁ b o' (Heap.get?_push_of_some _ e)
  rw [show ({ s with heap := s.heap.push kwO } : Shared).heap.objs.size = s.heap.objs.size + 1 from hsz] at hns ⊢
  refine wpAny_mono (h h₁ mg mb _ X' T' ⟨hns, hk₀, Nat.le_succ _⟩ ?_) (fun _ _ x => x) (fun _ _ x => x.elim)
  intro p hp
  rw [List.mem_singleton.mp hp]
  exact ⟨hk₁ _ _ (Heap.get?_push_size _ rfl), Nat.ne_of_lt (Nat.lt_succ_self _), Heap.get?_none_of_le (Nat.le_refl _)⟩
theorem decode_spec (t : RT) (hok : t.ok) (b : Array UInt8) (tb : Tok) (hB : b.toList = t.enc) (hbs : b.size ≤ 1000) (ok : Ok w s.heap) (r : Room A (2 * t.deep + 6) (6 * t.deep + 21))
   (hQ : ∀ h' tk v led, (∀ b o, s.heap.get? b = some o → h'.get? b = some o) → RL led t v → (∀ q ∈ led, h'.get? q.1 = some q.2 ∧ s.heap.get? q.1 = none) → Q v { s with heap := h', toks := tk }) :
   wpAny (model PG w) A (call (.ref 514) [.bytes b tb]) Q E s := by
  have := fillOk_W14; clear this
  w_on
  obtain ⟨hdl, dep, frs, gds, un⟩ := A
  obtain ⟨hd, hu, hh⟩ := r
  dsimp only at hd hu hh; subst hh
  refine' enter_kw (fun D => [(.ofString "rlp", .bytes b tb), (.ofString "sedes", .none), (.ofString "strict", .bool true), (.ofString "recursive_cache", .bool false), (.ofString "kwargs", .ref D)]) ?ok ?ho ?hcd ?hroom ?hb ?hs ?hbind ?hloc ?hco ?hgen ?hk ?hcell ?_
  k_dflt ((case' ok => assumption); (case' ho => k_is); (case' hcd => k_is); (case' hroom => ((try dsimp only); omega)); (case' hb => conv => lhs; whnf); (case' hs => conv => lhs; whnf); (case' hbind => exact bindsKw_K (Ok.frag (by assumption)) rfl (by k_is) rfl rfl rfl); (case' hloc => intro D; exact locs rfl); (case' hco => exact rfl); (case' hgen => exact rfl); (case' hk => exact rfl); (case' hcell => decide))
  intro h₁ mg mb tk0 X T F N
  clear N
  have N : News s.heap (s.heap.objs.size + 1) h₁ [] := News.nil
  k_steps
  refine is_bytes_spec b _ (ok.stays F.keep) (roomOf (by omega) (by omega)) fun h2 tk2 k2 => ?_
  have F2 := F.after k2
  have N2 := News.stays N k2
  clear F N
  k_steps
  refine decode_raw_spec t hok b _ hB hbs (ok.stays F2.keep) (roomOf (by omega) (by omega)) fun h6 tk6 l6 ap6 v6 led6 k6 f6 i6 rl6 ld6 => ?_
  have F6 := F2.after k6
  have Nl : News s.heap (s.heap.objs.size + 1) h6 led6 := fun q hq => News.add F2 (news := []) (fun _ h => nomatch h) (ld6 q hq).2 (ld6 q hq).1 _ (.head _)
  have N6 := News.add F2 Nl f6 i6
  clear F2 N2 Nl
  k_steps
  rename_i F9 N9
  exact hQ _ _ _ led6 F9.keep rl6 fun q hq => ⟨(N9 _ (.tail _ hq)).1, (N9 _ (.tail _ hq)).2.2⟩

end Mine
end
section -- GG
open PySem PySem.W PySem.Calls PyProof.Rows
set_option maxRecDepth 100000
set_option maxHeartbeats 4000000
namespace Mine
-- --plain
/-- a call that makes new things only, generators too -/
structure GrewS (s s' : Shared) : Prop where
  heap : ∀ b o, s.heap.get? b = some o → s'.heap.get? b = some o
  gens : ∀ (i : Nat) x, s.gens[i]? = some x → s'.gens[i]? = some x
  bare : AllBare s.gens → AllBare s'.gens
  drawn : s'.drawn = s.drawn
  os : s'.os = s.os
theorem GrewS.refl (s : Shared) : GrewS s s := ⟨fun _ _ e => e, fun _ _ e => e, id, rfl, rfl⟩
theorem GrewS.trans {s s' s'' : Shared} (a : GrewS s s') (b : GrewS s' s'') : GrewS s s'' := ⟨fun c o e => b.heap c o (a.heap c o e), fun i x e => b.gens i x (a.gens i x e), fun x => b.bare (a.bare x), b.drawn.trans a.drawn, b.os.trans a.os⟩
theorem GrewS.quiet {s : Shared} {h' : Heap} {tk : Nat} (k : ∀ b o, s.heap.get? b = some o → h'.get? b = some o) : GrewS s { s with heap := h', toks := tk } := ⟨k, fun _ _ e => e, id, rfl, rfl⟩
theorem GrewS.ofKeeps {s s' : Shared} (k : Keeps s s') : GrewS s s' := by obtain ⟨h, tk, rfl, hk⟩ := k; exact .quiet hk

structure SinceG (C : Addr) (wr : List Addr) (s s' : Shared) : Prop where
  heap : ∀ b o, b ≠ C → b ∉ wr → s.heap.get? b = some o → s'.heap.get? b = some o
  gens : ∀ (i : Nat) x, s.gens[i]? = some x → s'.gens[i]? = some x
  bare : AllBare s.gens → AllBare s'.gens
  drawn : s'.drawn = s.drawn
  os : s'.os = s.os
theorem SinceG.refl (C : Addr) (wr : List Addr) (s : Shared) : SinceG C wr s s := ⟨fun _ _ _ _ e => e, fun _ _ e => e, id, rfl, rfl⟩
theorem SinceG.step {C : Addr} {wr : List Addr} {s₀ s : Shared} (x : SinceG C wr s₀ s) {h' : Heap} {tk : Nat} (hk : ∀ b o, b ≠ C → b ∉ wr → s.heap.get? b = some o → h'.get? b = some o) : SinceG C wr s₀ { s with heap := h', toks := tk } :=
  ⟨fun b o h1 h2 e => hk b o h1 h2 (x.heap b o h1 h2 e), x.gens, x.bare, x.drawn, x.os⟩
theorem SinceG.grew {C : Addr} {wr : List Addr} {s₀ s s' : Shared} (x : SinceG C wr s₀ s) (g : GrewS s s') : SinceG C wr s₀ s' :=
  ⟨fun b o h1 h2 e => g.heap b o (x.heap b o h1 h2 e), fun i y e => g.gens i y (x.gens i y e), fun y => g.bare (x.bare y), g.drawn.trans x.drawn, g.os.trans x.os⟩

def protoG (C : Addr) (fp wr : List Addr) (n₀ : Nat) (F : Nat → Value → Prop) : Protocol := fun m s₀ v s kap =>
  F (n₀ - 1 - m) v ∧ SinceG C wr s₀ s ∧ ∀ s'' : Shared, (∀ b ∈ C :: fp, ∀ o, s.heap.get? b = some o → s''.heap.get? b = some o) → kap (.send .none) s''

section
variable {prog : Program} {w : World} {A : Around}
/-- what the item of a generator expression does -/
def ElemG (prog : Program) (w : World) (cenv : Env) (x : Str) (elt : Expr) (fp wr : List Addr) (P : Nat → Value → Prop) (F : Nat → Value → Prop) (href : Heap) (D U : Nat) : Prop :=
  ∀ (A' : Around) E' i v (s₂ : Shared) m₂, A'.handled = none → A'.depth ≤ D → A'.units ≤ U → P i v → s₂.heap.Ns cenv.locals m₂ → m₂ x = some v → (∀ b ∈ fp, b ∉ wr → ∀ o, href.get? b = some o → s₂.heap.get? b = some o) →
    wpAny (model prog w) A' (eval elt cenv) (fun y s₃ => F i y ∧ GrewS s₂ s₃) E' s₂

theorem seg_loopG {elt iter : Expr} {x : Str} {px : Pos} {scope : Scope} {pos : Pos} {I : Addr} {fp wr : List Addr} {n₀ : Nat} {P : Nat → Value → Prop} {St₀ : Nat → Heap → Prop} {cenv : Env}
    (hh : A.handled = none) (W₀ : ∀ A' : Around, A'.handled = none → Walks prog w A' I fp wr n₀ P St₀) (F : Nat → Value → Prop) (href : Heap)
    (hx : cenv.kindOf x = some .local) (hp : (cenv.scope.kind == .class || (cenv.scope.kind == .module && cenv.locals != cenv.globals)) = false)
    (hco : cenv.scope.isCoroutine = false) (hCf : cenv.locals ∉ fp) (hq : ElemG prog w cenv x elt fp wr P F href (A.depth + 1) (A.units + 3)) :
    ∀ (k i : Nat) (s₀ s : Shared) (m : Str → Option Value), n₀ - i = k → i ≤ n₀ → St₀ i s.heap → s.heap.Ns cenv.locals m → SinceG cenv.locals wr s₀ s →
      (∀ b ∈ fp, b ∉ wr → ∀ o, href.get? b = some o → s.heap.get? b = some o) →
      Seg (model prog w) A (fun n s₀ r s₁ => r = .ok .next ∧ (n = 0 ∧ SinceG cenv.locals wr s₀ s₁)) (protoG cenv.locals fp wr n₀ F) (n₀ - i) s₀
        (.compLoop (.GeneratorExp elt [⟨.Name x px, iter, [], 0⟩] scope pos) 0 (.ref I) .none cenv)
        ((model prog w).den (.compLoop (.GeneratorExp elt [⟨.Name x px, iter, [], 0⟩] scope pos) 0 (.ref I) .none cenv)) [] s := by
  have hh' : (A.over (.compLoop (.GeneratorExp elt [⟨.Name x px, iter, [], 0⟩] scope pos) 0 (.ref I) .none cenv) []).handled = none := hh
  have hdep' : (A.over (.compLoop (.GeneratorExp elt [⟨.Name x px, iter, [], 0⟩] scope pos) 0 (.ref I) .none cenv) []).depth ≤ A.depth + 1 := Nat.le_of_eq rfl
  have huni' : (A.over (.compLoop (.GeneratorExp elt [⟨.Name x px, iter, [], 0⟩] scope pos) 0 (.ref I) .none cenv) []).units ≤ A.units + 3 := Nat.le_of_eq rfl
  have hCw : cenv.locals ∉ wr := fun h => hCf ((W₀ A hh).sub _ h)
  intro k
  induction k with
  | zero =>
    intro i s₀ s m hk hi hst hn hsince hkp
    have hin : i = n₀ := by omega
    subst hin
    show Seg _ A _ _ _ s₀ _ ((compTurn (.GeneratorExp elt [⟨.Name x px, iter, [], 0⟩] scope pos) 0 (.ref I) .none cenv).onRaise (leaving cenv)) [] s
    rw [compTurn_gen, Sem.onRaise_eq_wrap]
    refine seg_bind_wrap (wpAny_standAt ?_)
    refine seg_bind_wrap ((W₀ _ hh').done s _ _ hst fun h' tk hk' => ?_)
    exact seg_end (.ok .next) ⟨rfl, Nat.sub_self _, hsince.step fun b o _ hw e => hk' b o hw e⟩
  | succ k ih =>
    intro i s₀ s m hk hi hst hn hsince hkp
    have hlt : i < n₀ := by omega
    show Seg _ A _ _ _ s₀ _ ((compTurn (.GeneratorExp elt [⟨.Name x px, iter, [], 0⟩] scope pos) 0 (.ref I) .none cenv).onRaise (leaving cenv)) [] s
    rw [compTurn_gen, Sem.onRaise_eq_wrap]
    refine seg_bind_wrap (wpAny_standAt ?_)
    refine seg_bind_wrap ((W₀ _ hh').item i s _ _ hlt hst fun v h₁ tk₁ hPv hst₁ hk₁ => ?_)
    refine seg_bind_wrap (wpAny_of_eq (rfl : letOwnedTupleGo (.Name x px) (.ref I) v = pure ()) ?_)
    refine seg_bind_wrap (wpAny_assign_Name (wpAny_storeName_local hx (hn.at' fun o e => hk₁ _ o hCw e) (fun h₂ hn₂ hs₂ => ?_) hp))
    have up₂ : ∀ b o, b ≠ cenv.locals → b ∉ wr → s.heap.get? b = some o → h₂.get? b = some o := fun b o hbC hbw e => hs₂.extBut b o hbC (hk₁ b o hbw e)
    have hst₂ : St₀ (i + 1) h₂ := (W₀ A hh).frame _ _ _ hst₁ fun b hb o e => hs₂.extBut b o (fun h => hCf (h ▸ hb)) e
    have hkp₂ : ∀ b ∈ fp, b ∉ wr → ∀ o, href.get? b = some o → h₂.get? b = some o := fun b hb hbw o e => up₂ b o (fun h => hCf (h ▸ hb)) hbw (hkp b hb hbw o e)
    refine seg_bind_wrap (wpAny_of_eq (a := true) rfl ?_)
    obtain ⟨m1, hm1⟩ : ∃ m1, n₀ - i = m1 + 1 := ⟨n₀ - i - 1, by omega⟩
    rw [hm1]
    simp only [if_true]
    have hy : ∀ v, yieldOut cenv v = yieldValue v := fun v => by simp only [yieldOut, hco, Bool.false_eq_true, if_false]
    simp only [hy]
    rw [Sem.bind_eq_wrap', Sem.bind_eq_wrap', Sem.wrap_wrap, Sem.wrap_wrap]
    have since₂ : SinceG cenv.locals wr s₀ { s with heap := h₂, toks := _ } := hsince.step (tk := tk₁ + 1) fun b o hbC hbw e => up₂ b o hbC hbw e
    refine seg_wrap (wpAny_mono (hq _ _ i v _ _ hh' hdep' huni' hPv hn₂ (by simp) hkp₂) (fun y s₄ h₄ => ?_) fun _ _ e => e)
    obtain ⟨hFy, g₄⟩ := h₄
    have e1 : n₀ - 1 - m1 = i := by omega
    have e2 : n₀ - (i + 1) = m1 := by omega
    refine seg_at (seg_yield rfl rfl rfl ⟨by rw [e1]; exact hFy, since₂.grew g₄, fun s'' hal => ?_⟩)
    have := ih (i + 1) s'' s'' _ (by omega) hlt ((W₀ A hh).frame _ _ _ hst₂ fun b hb o e => hal b (List.mem_cons_of_mem _ hb) o (g₄.heap b o e))
        ((hn₂.keeps g₄.heap).at' fun o e => hal _ (List.mem_cons_self ..) o e) (SinceG.refl _ _ _) fun b hb hbw o e => hal b (List.mem_cons_of_mem _ hb) o (g₄.heap b o (hkp₂ b hb hbw o e))
    rw [e2] at this
    exact seg_again rfl this

theorem seg_startG {elt iter : Expr} {x : Str} {px : Pos} {scope : Scope} {pos : Pos} {I : Addr} {fp wr : List Addr} {n₀ : Nat} {P : Nat → Value → Prop} {St₀ : Nat → Heap → Prop} {cenv : Env}
    (hh : A.handled = none) (W₀ : ∀ A' : Around, A'.handled = none → Walks prog w A' I fp wr n₀ P St₀) (F : Nat → Value → Prop) (href : Heap)
    (hx : cenv.kindOf x = some .local) (hp : (cenv.scope.kind == .class || (cenv.scope.kind == .module && cenv.locals != cenv.globals)) = false)
    (hco : cenv.scope.isCoroutine = false) (hCf : cenv.locals ∉ fp) (hq : ElemG prog w cenv x elt fp wr P F href (A.depth + 1) (A.units + 3))
    (s₀ s : Shared) (m : Str → Option Value) (hst : St₀ 0 s.heap) (hn : s.heap.Ns cenv.locals m) (hsince : SinceG cenv.locals wr s₀ s)
    (hkp : ∀ b ∈ fp, b ∉ wr → ∀ o, href.get? b = some o → s.heap.get? b = some o) :
    Seg (model prog w) A (fun n s₀ r s₁ => r = .ok .next ∧ (n = 0 ∧ SinceG cenv.locals wr s₀ s₁)) (protoG cenv.locals fp wr n₀ F) n₀ s₀
      (.compStart (.GeneratorExp elt [⟨.Name x px, iter, [], 0⟩] scope pos) 0 (.ref I) .none cenv)
      ((model prog w).den (.compStart (.GeneratorExp elt [⟨.Name x px, iter, [], 0⟩] scope pos) 0 (.ref I) .none cenv)) [] s := by
  have hh' : (A.over (.compStart (.GeneratorExp elt [⟨.Name x px, iter, [], 0⟩] scope pos) 0 (.ref I) .none cenv) []).handled = none := hh
  have loop := seg_loopG (iter := iter) (px := px) (scope := scope) (pos := pos) hh W₀ F href hx hp hco hCf hq n₀ 0 s₀ s m (Nat.sub_zero _) (Nat.zero_le _) hst hn hsince hkp
  rw [Nat.sub_zero] at loop
  show Seg _ A _ _ _ s₀ _ ((compStart (.GeneratorExp elt [⟨.Name x px, iter, [], 0⟩] scope pos) 0 (.ref I) .none cenv).onRaise (leaving cenv)) [] s
  unfold compStart
  rw [Sem.onRaise_eq_wrap]
  show Seg _ A _ _ _ s₀ _ ((ask >>= _).wrap _ _ _ _) [] s
  refine seg_bind_wrap (wpAny_askSetting ?_)
  split
  · exact seg_again rfl loop
  · exact seg_bind_wrap (wpAny_rule (seg_bind_wrap (wpAny_standAt (seg_bind_wrap ((W₀ _ hh').self 0 s _ _ hst (seg_again rfl loop))))))

def GrowOnly (g : Nat) (a b : Array GenState) : Prop := (∀ k, k ≠ g → ∀ x, a[k]? = some x → b[k]? = some x) ∧ (AllBare a → AllBare b)
theorem GrowOnly.trans {g : Nat} {a b c : Array GenState} (x : GrowOnly g a b) (y : GrowOnly g b c) : GrowOnly g a c := ⟨fun k hk z e => y.1 k hk z (x.1 k hk z e), fun h => y.2 (x.2 h)⟩
theorem bare_set {s : Shared} {g : Nat} {gs : GenState} (hb : gs.bare = true) (h : AllBare s.gens) : AllBare (s.setGen g gs).gens := by
  intro y hy
  obtain ⟨i, hi, rfl⟩ := Array.mem_iff_getElem.mp hy
  have e : (s.setGen g gs).gens[i]? = some ((s.setGen g gs).gens[i]) := Array.getElem?_eq_getElem hi
  by_cases hig : i = g
  · subst hig
    have hs : (s.setGen i gs).gens.size = s.gens.size := by simp [Shared.setGen]
    have := setGen_self (s := s) (g := i) (x := gs) (gs := s.gens[i]'(hs ▸ hi)) (Array.getElem?_eq_getElem _)
    rw [e] at this
    rw [Option.some.inj this]; exact hb
  · have h2 := (GenOnly.setGen s g gs).2 i hig
    rw [e] at h2
    exact h _ (Array.mem_of_getElem? h2.symm)
theorem set_other {s : Shared} {g k : Nat} {gs x : GenState} (hk : k ≠ g) (e : s.gens[k]? = some x) : (s.setGen g gs).gens[k]? = some x := ((GenOnly.setGen s g gs).2 k hk).trans e
theorem set_heap (s : Shared) (g : Nat) (gs : GenState) : (s.setGen g gs).heap = s.heap := rfl

def GenAtG (prog : Program) (w : World) (A : Around) (a : Addr) (g : Nat) (C : Addr) (fp wr : List Addr) (n₀ : Nat) (F : Nat → Value → Prop) (j : Nat) (s : Shared) : Prop :=
  s.heap.IsGen a g ∧ s.heap.NoLimit ∧ ∃ gs, s.gens[g]? = some gs ∧ ∀ s'' : Shared, (∀ b ∈ C :: fp, ∀ o, s.heap.get? b = some o → s''.heap.get? b = some o) →
    gs.Goes (model prog w) A.in1 (fun n s₀ r s₁ => r = .ok .next ∧ (n = 0 ∧ SinceG C wr s₀ s₁)) (protoG C fp wr n₀ F) (n₀ - j) (.send .none) s''

theorem walks_genexpG (hh : A.handled = none) (a : Addr) (g : Nat) (C : Addr) (fp wr : List Addr) (n₀ : Nat) (F : Nat → Value → Prop) (haC : a ≠ C) (haf : a ∉ fp) (hsub : ∀ b ∈ wr, b ∈ fp)
    (hroom : A.depth < recursionLimit) (hcs : cStatics ∈ fp) (hcC : cStatics ≠ C) (hcw : cStatics ∉ wr) :
    WalksS prog w A a (a :: C :: fp) (C :: wr) (GrowOnly g) n₀ F (GenAtG prog w A a g C fp wr n₀ F) where
  sub := fun b hb => by
    rcases List.mem_cons.mp hb with rfl | hb
    · simp
    · exact List.mem_cons_of_mem _ (List.mem_cons_of_mem _ (hsub b hb))
  grefl := fun _ => ⟨fun _ _ _ e => e, id⟩
  gtrans := fun _ _ _ x y => x.trans y
  frame := fun j s h' tk st _ hk =>
    ⟨let ⟨o, nm, qn, ho, r⟩ := st.1; ⟨o, nm, qn, hk a (List.mem_cons_self ..) o ho, r⟩,
     (let ⟨mc, hns, hnn⟩ := st.2.1; ⟨mc, hns.at' fun o e => hk cStatics (List.mem_cons_of_mem _ (List.mem_cons_of_mem _ hcs)) o e, hnn⟩),
     let ⟨gs, hgs, hgo⟩ := st.2.2; ⟨gs, hgs, fun s'' hal => hgo s'' fun b hb o e => hal b hb o (hk b (List.mem_cons_of_mem _ hb) o e)⟩⟩
  item := fun j s Q E hj st hQ => by
    obtain ⟨hg, hl, gs, hgs, hgo⟩ := st
    obtain ⟨m, hm⟩ : ∃ m, n₀ - j = m + 1 := ⟨n₀ - j - 1, by omega⟩
    rw [hm] at hgo
    refine wpAny_with_toks (Nat.le_refl s.toks) ?_
    refine wpAny_pyNext_genexpQ (P := fun n s₀ s₁ => n = 0 ∧ SinceG C wr s₀ s₁) hh hl hroom hg hgs (hgo _ fun _ _ _ e => e) (fun v s₁ gs' hb hv => ?_) (fun s₁ hp h' hk => ?_)
    · obtain ⟨hF, hsi, hkap⟩ := hv
      have hidx : n₀ - 1 - (m + 1 - 1) = j := by omega
      rw [hidx] at hF
      have haw : a ∉ wr := fun h => haf (hsub a h)
      have hrun := hsi.gens g .running (setGen_self hgs)
      intro htk
      refine hQ v _ hF ⟨let ⟨o, nm, qn, ho, r⟩ := hg; ⟨o, nm, qn, hsi.heap a o haC haw ho, r⟩, (let ⟨mc, hns, hnn⟩ := hl; ⟨mc, hns.at' fun o e => hsi.heap cStatics o hcC hcw e, hnn⟩), gs', setGen_self hrun, fun s'' hal => ?_⟩
        ⟨fun b o hb e => hsi.heap b o (fun h => hb (h ▸ List.mem_cons_self ..)) (fun h => hb (List.mem_cons_of_mem _ h)) e, ⟨fun k hk x e => set_other hk (hsi.gens k x (set_other hk e)), fun hab => bare_set hb (hsi.bare (bare_set rfl hab))⟩, hsi.drawn, hsi.os, htk⟩
      have e : n₀ - (j + 1) = m := by omega
      rw [e]
      exact hkap s'' hal
    · exact absurd hp.1 (Nat.succ_ne_zero m)
  done := fun s Q E st hQ => by
    obtain ⟨hg, hl, gs, hgs, hgo⟩ := st
    rw [Nat.sub_self] at hgo
    refine wpAny_with_toks (Nat.le_refl s.toks) ?_
    refine wpAny_pyNext_genexpQ (P := fun n s₀ s₁ => n = 0 ∧ SinceG C wr s₀ s₁) hh hl hroom hg hgs (hgo _ fun _ _ _ e => e) (fun v s₁ gs' hb hv => ?_) (fun s₁ hp h' hk => ?_)
    · obtain ⟨_, _, hkap⟩ := hv
      exact False.elim (hkap s₁ fun _ _ _ e => e)
    · obtain ⟨_, hsi⟩ := hp
      intro htk
      exact hQ _ ⟨fun b o hb e => hk b o (hsi.heap b o (fun h => hb (h ▸ List.mem_cons_self ..)) (fun h => hb (List.mem_cons_of_mem _ h)) e), ⟨fun k hk x e => set_other hk (hsi.gens k x (set_other hk e)), fun hab => bare_set rfl (hsi.bare (bare_set rfl hab))⟩, hsi.drawn, hsi.os, htk⟩
  self := fun _ _ _ _ st hQ => wpAny_pyIter_gen st.1 hQ

theorem genAtG_fresh {elt iter : Expr} {x : Str} {px : Pos} {scope : Scope} {pos : Pos} {I a : Addr} {g : Nat} {fp wr : List Addr} {n₀ : Nat} {P : Nat → Value → Prop} {St₀ : Nat → Heap → Prop} {cenv : Env}
    (hh : A.handled = none) (W₀ : ∀ A' : Around, A'.handled = none → Walks prog w A' I fp wr n₀ P St₀) (F : Nat → Value → Prop)
    (hx : cenv.kindOf x = some .local) (hp : (cenv.scope.kind == .class || (cenv.scope.kind == .module && cenv.locals != cenv.globals)) = false)
    (hco : cenv.scope.isCoroutine = false) (hCf : cenv.locals ∉ fp) {s : Shared} {m : Str → Option Value} (hq : ElemG prog w cenv x elt fp wr P F s.heap (A.depth + 1) (A.units + 4))
    (hg : s.heap.IsGen a g) (hgs : s.gens[g]? = some (.fresh (.compStart (.GeneratorExp elt [⟨.Name x px, iter, [], 0⟩] scope pos) 0 (.ref I) .none cenv)))
    (hst : St₀ 0 s.heap) (hn : s.heap.Ns cenv.locals m) (hl : s.heap.NoLimit) : GenAtG prog w A a g cenv.locals fp wr n₀ F 0 s :=
  ⟨hg, hl, _, hgs, fun s'' hal => ⟨rfl, seg_startG (A := A.in1) hh W₀ F s.heap hx hp hco hCf hq s'' s'' m ((W₀ A hh).frame _ _ _ hst fun b hb o e => hal b (List.mem_cons_of_mem _ hb) o e)
    (hn.at' fun o e => hal _ (List.mem_cons_self ..) o e) (SinceG.refl _ _ _) fun b hb _ o e => hal b (List.mem_cons_of_mem _ hb) o e⟩⟩
end

end Mine
end
section -- GH
open PySem PySem.W PySem.Calls PyProof.Rows
set_option maxRecDepth 100000
set_option maxHeartbeats 4000000
namespace Mine
-- --plain
section
variable {M : Model} {A : Around} {E : Value → Shared → Prop} {s : Shared} {b : Array UInt8} {t : Tok}
open Builtin in
theorem take_eq {id : String} : Bytes.takeBufferQuiet? id (.bytes b t) 0 = pure (some (b, none)) := by
  unfold Bytes.takeBufferQuiet? Bytes.takeBuffer?
  rw [KBy.special_eq KBy.look_buffer, KBy.own_buffer]
  show (Sem.attempt (do let y ← Bytes.buffer? id (Value.bytes b t) false; pure (y.map (·, none))) >>= _) = _
  rw [KBy.buffer_eq]
  rfl
theorem slot_bytes_join : Slot "bytes" "join" "bytes.join" :=
  .of (owner := "bytes") (n := "join") (by rw [typeLookup_type, builtinLookup_eq_fast]; kernel_rfl) (by decide +kernel) (by decide +kernel) (by decide +kernel)
    (by first | exact .inl (by decide +kernel) | exact .inr (by decide +kernel)) (by rw [isSubtype_type]; kernel_rfl)
theorem entry_bytes_join : entryFor table "bytes.join" = some Builtin.«bytes.join» := entryFor_of_tree (by kernel_rfl)
theorem args_bytes_join_2 (a b : Value) : argsOk "bytes.join" ⟨[a, b], []⟩ := by
  unfold argsOk; rw [signature?_of (id := "bytes.join") (n := ['n', 'i', 'o', 'j']) (o := ['s', 'e', 't', 'y', 'b']) (by kernel_rfl) FB.owner_bytes]; kernel_rfl
theorem wpAny_forList {σ : Type} {f : Nat → σ → Sem (ForInStep σ)} (I : Nat → σ → Prop) {Q : σ → Shared → Prop} (N : Nat) (step : ∀ i st, i < N → I i st → wpAny M A (f i st) (fun r s' => s' = s ∧ ∃ st', r = .yield st' ∧ I (i + 1) st') E s) (done : ∀ st, I N st → Q st s) :
    ∀ (k i : Nat) (st : σ), i + k = N → I i st → wpAny M A (forIn (List.range' i k 1) st f) Q E s := by
  intro k
  induction k with
  | zero => intro i st e h; rw [List.range'_zero, List.forIn_nil]; obtain rfl : i = N := by omega
            exact wpAny_pure (done st h)
  | succ k ih =>
    intro i st e h
    rw [List.range'_succ, List.forIn_cons]
    refine wpAny_bind (wpAny_mono (step i st (by omega) h) (fun r s' hr => ?_) fun _ _ e => e)
    obtain ⟨rfl, st', rfl, h'⟩ := hr
    exact ih (i + 1) st' (by omega) h'
theorem wpAny_forRange {σ : Type} {n : Nat} {init : σ} {f : Nat → σ → Sem (ForInStep σ)} (I : Nat → σ → Prop) {Q : σ → Shared → Prop} (h0 : I 0 init) (step : ∀ i st, i < n → I i st → wpAny M A (f i st) (fun r s' => s' = s ∧ ∃ st', r = .yield st' ∧ I (i + 1) st') E s) (done : ∀ st, I n st → Q st s) :
    wpAny M A (forIn [0:n] init f) Q E s := by
  rw [Std.Legacy.Range.forIn_eq_forIn_range']
  have e : Std.Legacy.Range.size [0:n] = n := by simp [Std.Legacy.Range.size]
  rw [e]
  exact wpAny_forList I n step done n 0 init (Nat.zero_add n) h0
inductive BsAre : List Value → List (List UInt8) → Prop
  | nil : BsAre [] []
  | cons {b t vs bs} : BsAre vs bs → BsAre (.bytes b.toArray t :: vs) (b :: bs)
theorem BsAre.length : ∀ {vs : List Value} {bs : List (List UInt8)}, BsAre vs bs → vs.length = bs.length
  | _, _, .nil => rfl
  | _, _, .cons h => congrArg (· + 1) h.length
theorem BsAre.get : ∀ {vs : List Value} {bs : List (List UInt8)}, BsAre vs bs → ∀ i, i < vs.length → ∃ b t, bs[i]? = some b ∧ vs[i]? = some (.bytes b.toArray t)
  | _, _, .nil, _, h => nomatch h
  | _, _, .cons (b := b) (t := t) h, 0, _ => ⟨b, t, rfl, rfl⟩
  | _, _, .cons h, i + 1, hi => h.get i (Nat.lt_of_succ_lt_succ hi)
theorem joined_nil (ps : List (List UInt8)) : Builtin.Bytes.joined #[] (ps.map List.toArray) = ps.flatten.toArray := by
  unfold Builtin.Bytes.joined
  have : ∀ (l : List (List UInt8)) (k : Nat) (acc : Array UInt8), ((l.map List.toArray).zipIdx k).foldl (fun out (p, i) => (if i > 0 then out ++ #[] else out) ++ p) acc = acc ++ l.flatten.toArray := by
    intro l
    induction l with
    | nil => intro k acc; simp
    | cons a r ih =>
      intro k acc
      rw [List.map_cons, List.zipIdx_cons, List.foldl_cons, ih]
      simp
  rw [this]; simp
theorem letGo_taken {Q : Unit → Shared → Prop} {keep : List Value} : ∀ (l : List (Value × Option Value)), (∀ p ∈ l, p.2 = none) → Q () s → wpAny M A (Builtin.Bytes.joinLetGo l keep) Q E s
  | [], _, h => wpAny_pure h
  | (x, some y) :: _, hn, _ => nomatch hn _ (.head _)
  | (x, none) :: rest, hn, h => by
    unfold Builtin.Bytes.joinLetGo
    exact wpAny_bind (wpAny_letGo (letGo_taken rest (fun p hp => hn p (.tail _ hp)) h))
theorem foldl_size (l : List (List UInt8)) (k : Nat) : (l.map List.toArray).toArray.foldl (· + ·.size) k = k + l.flatten.length := by
  rw [← Array.foldl_toList]
  show (l.map List.toArray).foldl (· + ·.size) k = _
  induction l generalizing k with
  | nil => simp
  | cons a r ih => rw [List.map_cons, List.foldl_cons, ih, List.flatten_cons, List.length_append, List.size_toArray]; omega
theorem match_one {α : Type} (items : Array Value) (f : Value → α) (g : α) : (¬ ∃ x, items = #[x]) → (match items with | #[x] => f x | _ => g) = g := by
  intro h
  rcases items with ⟨_ | ⟨x, _ | ⟨y, r⟩⟩⟩
  · rfl
  · exact absurd ⟨x, rfl⟩ h
  · rfl
theorem wp_eq {α : Type} {m m' : Sem α} {Q : α → Shared → Prop} (e : m = m') (h : wpAny M A m' Q E s) : wpAny M A m Q E s := e ▸ h
/-- a generator expression that has been made: K bounds the old objects, Gn is its number -/
def GenG (prog : Program) (w : World) (A : Around) (K : Addr) (Gn : Nat) (a : Addr) (n : Nat) (F : Nat → Value → Prop) (s : Shared) : Prop :=
  ∃ fp wr St, WalksS prog w A.in4 a fp wr (GrowOnly Gn) n F St ∧ St 0 s ∧ (∀ i s', St i s' → s'.TypeIs (.ref a) "generator") ∧ a ∈ fp ∧ (∀ b ∈ fp, b < s.heap.objs.size) ∧ ∀ b ∈ wr, K ≤ b
/-- what stands still while it is used up -/
structure UsedG (K : Addr) (Gn : Nat) (s s' : Shared) : Prop where
  heap : ∀ b o, b < K → s.heap.get? b = some o → s'.heap.get? b = some o
  gens : GrowOnly Gn s.gens s'.gens
  drawn : s'.drawn = s.drawn
  os : s'.os = s.os
theorem UsedG.of_moved {K : Addr} {Gn : Nat} {wr : List Addr} {s s' : Shared} (m : Moved wr (GrowOnly Gn) s s') (h : ∀ b ∈ wr, K ≤ b) : UsedG K Gn s s' :=
  ⟨fun b o hb e => m.heap b o (fun hm => Nat.lt_irrefl _ (Nat.lt_of_lt_of_le hb (h b hm))) e, m.gens, m.drawn, m.os⟩
theorem UsedG.then {K : Addr} {Gn : Nat} {s s' : Shared} (u : UsedG K Gn s s') {tk : Nat} : UsedG K Gn s { s' with toks := tk } := ⟨u.heap, u.gens, u.drawn, u.os⟩
end
section
variable {prog : Program} {w : World} {A : Around} {E : Value → Shared → Prop} {s : Shared} {K a : Addr} {Gn n : Nat} {F : Nat → Value → Prop}
open Builtin in
theorem call_bytes_join {bs : List (List UInt8)} {t0 : Tok} {Q : Value → Shared → Prop} (X : GenG prog w A K Gn a bs.length F s) (hK : K ≤ s.heap.objs.size) (hF : ∀ i v, F i v → ∃ b t, bs[i]? = some b ∧ v = .bytes b.toArray t) (hsz : bs.flatten.length ≤ 100000) (hn : bs.length ≤ 100000)
    (hQ : ∀ s' t, UsedG K Gn s s' → Q (.bytes bs.flatten.toArray t) s') : wpAny (model prog w) A (call (.builtin "bytes.join") [.bytes #[] t0, .ref a]) Q E s := by
  obtain ⟨fp, wr, St, W, hst, hT, hI, hfp, hwr⟩ := X
  have W3 : WalksS prog w A.in1.in1.in1 a fp wr (GrowOnly Gn) bs.length F St := W.of_in1
  refine wpAny_call (codeAny_call_builtin slot_bytes_join.plain entry_bytes_join (slot_bytes_join.check _ _ _ _ _ _ _ _ (typeIs_bytes _ _ _) (args_bytes_join_2 _ _) ?_))
  show wpAny _ A.in1 (Bytes.joinItems (.ref a) >>= fun r => _) _ _ s
  refine wpAny_bind ?_
  unfold Bytes.joinItems
  refine wpAny_bind (wpAny_typeOf (hT 0 s hst) ?_)
  rw [if_neg (show ¬ ((Value.type "generator" == Value.type "list" || Value.type "generator" == Value.type "tuple") = true) by decide)]
  show wpAny _ A.in1 ((pyIter (.ref a)).tryCatch _ >>= fun it => call (.type "list") [it]) _ _ s
  refine wpAny_bind (wpAny_tryCatch (W3.of_in1.of_in1.self 0 s _ _ hst ?_))
  refine call_list_gen (hn := by rw [sizeLine_eq]; omega) W3 hT hst hfp hI fun s' acc' c' hm hS' hacc => ?_
  have hu : UsedG K Gn s s' := by
    have u := UsedG.of_moved hm (K := K) (fun b hb => by
      rcases List.mem_cons.mp hb with rfl | hb
      · exact hK
      · exact hwr b hb)
    exact ⟨fun b o hb e => u.heap b o hb (Heap.get?_push_of_some _ e), u.gens, u.drawn, u.os⟩
  have hget : ∀ i (hi : i < acc'.size), ∃ b t, bs[i]? = some b ∧ acc'[i] = .bytes b.toArray t := fun i hi => hF i _ (hacc.2 i _ (Array.getElem?_eq_getElem hi))
  have hsize : acc'.size = bs.length := hacc.1
  generalize s.heap.objs.size = S at hS'
  dsimp only
  refine wpAny_bind (wpAny_seqItems hS' rfl ?_)
  dsimp only
  rw [if_pos (show (Bytes.Kind.bytes == Bytes.Kind.bytes) = true from rfl)]
  have body : bs.length = bs.length → (∀ t k, Q (.bytes bs.flatten.toArray t) { s' with toks := k }) := fun _ t k => hQ _ t hu.then
  by_cases hone : ∃ x, acc' = #[x]
  · obtain ⟨x, rfl⟩ := hone
    show wpAny _ A.in1 (typeOf x >>= fun r => _) _ _ _
    obtain ⟨b, t, h1, h2⟩ := hget 0 (Nat.succ_pos _)
    have hx : x = .bytes b.toArray t := h2
    have hbs : bs = [b] := by
      cases bs with
      | nil => cases h1
      | cons c r =>
        have : r = [] := List.length_eq_zero_iff.mp (by simpa using hsize.symm)
        rw [this] at h1 ⊢
        rw [Option.some.inj h1]
    rw [hx]
    refine wpAny_bind (wpAny_typeOf (typeIs_bytes _ _ _) ?_)
    rw [if_pos (show (Value.type "bytes" == Value.type "bytes") = true by decide)]
    refine wpAny_bind (wpAny_rule ?_)
    refine wpAny_pure ?_
    have := hQ s' t hu
    rw [hbs, List.flatten_cons, List.flatten_nil, List.append_nil] at this
    exact this
  · refine wp_eq (match_one acc' _ _ hone) ?_
    refine wpAny_bind (wpAny_forRange (fun i st => st.1 = ((bs.take i).map List.toArray).toArray ∧ ∀ p ∈ st.2, (∃ b t, p.1 = Value.bytes b t) ∧ p.2 = none) ⟨rfl, fun _ h => nomatch h⟩ ?_ ?_)
    · rintro i ⟨ps, tk⟩ hi ⟨h1, h2⟩
      dsimp only at h1 h2 ⊢
      obtain ⟨b, t, e1, e2⟩ := hget i hi
      refine wpAny_bind (wpAny_seqItems hS' rfl ?_)
      dsimp only
      have hx : acc'.getD i Value.none = .bytes b.toArray t := by rw [Array.getD, dif_pos hi]; exact e2
      rw [hx]
      have hno : (tk.any fun x => x.1.onHeap) = false := List.any_eq_false.mpr fun p hp => by
        obtain ⟨⟨b, t, e⟩, _⟩ := h2 p hp
        rw [e]; exact Bool.false_ne_true
      rw [hno, if_neg (by decide)]
      refine wpAny_bind (wpAny_holding (wpAny_of_eq take_eq ?_))
      dsimp only
      refine wpAny_bind (wpAny_seqItems hS' rfl ?_)
      dsimp only
      rw [if_neg (by simp)]
      refine wpAny_pure ⟨rfl, _, rfl, ?_, ?_⟩
      · dsimp only
        rw [h1, List.take_add_one, e1]
        simp
      · intro p hp
        rcases List.mem_append.mp hp with hp | hp
        · exact h2 p hp
        · rw [List.mem_singleton.mp hp]; exact ⟨⟨_, _, rfl⟩, rfl⟩
    · rintro ⟨ps, tk⟩ ⟨h1, h2⟩
      dsimp only at h1 h2 ⊢
      rw [hsize, List.take_length] at h1
      subst h1
      refine wpAny_bind (wpAny_of_eq (a := (#[] : Array UInt8)) rfl ?_)
      have hlong : Bytes.tooLong (Array.foldl (fun x1 x2 => x1 + x2.size) ((#[] : Array UInt8).size * ((bs.map List.toArray).toArray.size - 1)) (bs.map List.toArray).toArray) = false := by
        have := foldl_size bs ((#[] : Array UInt8).size * ((bs.map List.toArray).toArray.size - 1))
        rw [this]
        unfold Bytes.tooLong
        have hz : (#[] : Array UInt8).size * ((bs.map List.toArray).toArray.size - 1) = 0 := by simp
        rw [hz, sizeLine_eq]
        exact decide_eq_false (by omega)
      rw [hlong, if_neg (by decide), joined_nil]
      refine wpAny_bind (wpAny_mkBytes ?_ (by rw [sizeLine_eq, List.size_toArray]; omega))
      refine wpAny_bind (wpAny_holding (wpAny_point ?_))
      refine wpAny_bind (letGo_taken tk (fun p hp => (h2 p hp).2) ?_)
      exact wpAny_pure (body rfl _ _)
end

end Mine
end
section -- GI
open PySem PySem.W PySem.Calls PyProof.Rows
set_option maxRecDepth 100000
set_option maxHeartbeats 4000000
namespace Mine
-- --plain
/-- the table of nested codes at P holds the code that stands at pos -/
def Filled (P : Addr) (pos : Pos) (h : Heap) : Prop := ∃ ps : Array Value, h.get? P = some (tabO ps) ∧ TriplesOk ps.toList ∧ (codeAmong pos ps.toList).isSome = true
/-- behind the making of a generator expression -/
structure MadeG (P : Addr) (pos : Pos) (s s' : Shared) : Prop where
  heap : ∀ b o, b ≠ P → s.heap.get? b = some o → s'.heap.get? b = some o
  full : Filled P pos s.heap → ∀ b o, s.heap.get? b = some o → s'.heap.get? b = some o
  filled : Filled P pos s'.heap
  gens : ∀ (i : Nat) x, s.gens[i]? = some x → s'.gens[i]? = some x
  bare : AllBare s.gens → AllBare s'.gens
  drawn : s'.drawn = s.drawn
  os : s'.os = s.os
section
variable {M : Model} {A : Around} {E : Value → Shared → Prop} {s : Shared}
theorem genexpr_code {env : Env} {c P : Addr} {ps : Array Value} {pos : Pos} {qualname : Str} {scope : Scope} {Q : Value → Shared → Prop} (hc : env.code = .ref c) (hok : s.heap.IsCode c P ps) (htab : s.heap.TableAt c P ps)
    (hQ : ∀ code h' tk ps', Heap.ExtBut P s.heap h' → ((codeAmong pos ps.toList).isSome = true → ∀ b o, s.heap.get? b = some o → h'.get? b = some o) → s.heap.objs.size ≤ h'.objs.size → h'.TableAt c P ps' → TriplesOk ps'.toList → (codeAmong pos ps'.toList).isSome = true →
      Q code { s with heap := h', toks := tk }) : wpAny M A (genexprCode env pos qualname scope) Q E s := by
  cases hnf : codeAmong pos ps.toList with
  | none =>
    refine wpAny_genexprCodeX hc hok htab hnf fun c' h' tk hx hge hlt hcode' _ htab' _ => ?_
    obtain ⟨_, _, _, _, _, _, _, _, _, _, _, _, _, _, _, _, _, _, _, htr, _⟩ := id hok
    obtain ⟨_, _, _, _, _, _, _, _, _, _, _, _, _, _, _, _, _, hg', hd', htr', _⟩ := id hcode'
    refine hQ _ _ _ _ hx (fun hs => by rw [hnf] at hs; cases hs) (Nat.le_trans hge (Nat.le_of_lt hlt)) htab' htr' ?_
    have e := codeAmong_snoc (pos := pos) (c := .ref c') ps.toList htr hnf
    rw [show (ps ++ #[rawInt pos.line, rawInt pos.col, Value.ref c']).toList = ps.toList ++ [rawInt pos.line, rawInt pos.col, Value.ref c'] by simp, e]
    rfl
  | some cv =>
    obtain ⟨o, vs, file, tf, flags, tg, inF, text, tt, op, ho, hd, h11, h2, h7, h9, h10, hop, hpd, htr, hne⟩ := id hok
    have hs : (codeAmong pos ps.toList).isSome = true := by rw [hnf]; rfl
    unfold genexprCode codeAt
    rw [hc, if_neg (show ¬ ((Value.ref c == Value.none) = true) from Bool.false_ne_true)]
    refine wpAny_bind (wpAny_fieldsOf ho hd ?_)
    rw [h11]
    refine wpAny_bind (wpAny_fieldsOf hop hpd ?_)
    rw [hnf]
    exact wpAny_pure (hQ cv s.heap s.toks ps (Heap.ExtBut.refl _ _) (fun _ _ _ e => e) (Nat.le_refl _) htab htr hs)
end
section
variable {prog : Program} {w : World} {A : Around} {E : Value → Shared → Prop} {s : Shared}
/-- what is to be shown where a generator expression's source has been asked for its iterator -/
def GxPost (prog : Program) (w : World) (A : Around) (env : Env) (elt : Expr) (x : Str) (scope : Scope) (cl : List (Str × Addr)) (pos : Pos) (c P : Addr) (Q : Value → Shared → Prop) (it : Value) (s₂ : Shared) : Prop :=
  s₂.heap.NoLimit ∧ (∃ ps, s₂.heap.IsCode c P ps ∧ s₂.heap.TableAt c P ps) ∧ (∃ mg bm ob, BMod s₂.heap env.globals mg bm ob) ∧
      ∃ K I fp wr n₀ P₀ St₀ F, it = .ref I ∧ (∀ A' : Around, A'.handled = none → Walks prog w A' I fp wr n₀ P₀ St₀) ∧ St₀ 0 s₂.heap ∧ (∀ b ∈ fp, b < s₂.heap.objs.size) ∧ P ∉ fp ∧ (∀ b ∈ wr, K ≤ b) ∧ cStatics < K ∧ K ≤ s₂.heap.objs.size ∧
        (∀ (code : Value) (C : Addr) (A' : Around) E' i v (t : Shared) m₂, A'.handled = none → A'.depth ≤ A.depth + 1 → A'.units ≤ A.units + 8 → P₀ i v → t.heap.Ns C m₂ → m₂ x = some v → s₂.heap.objs.size ≤ C → Filled P pos t.heap →
          (∀ b o, b ≠ P → b ∉ wr → s₂.heap.get? b = some o → t.heap.get? b = some o) → wpAny (model prog w) A' (eval elt (genEnv scope cl C code builtinsNs env)) (fun y t' => F i y ∧ GrewS t t') E' t) ∧
        (∀ a s₅, GenG prog w A K s₂.gens.size a n₀ F s₅ → MadeG P pos s₂ s₅ → K ≤ s₅.heap.objs.size → Q (.ref a) s₅)
theorem genexp_G {env : Env} {elt iter : Expr} {x : Str} {px : Pos} {scope : Scope} {cl : List (Str × Addr)} {pos : Pos} {Q : Value → Shared → Prop} {c P : Addr} (hcode : env.code = .ref c) (hcP : cStatics ≠ P)
    (hh : A.handled = none) (hco : scope.isCoroutine = false) (hclos : closureFor scope env = pure cl) (hcell : ∀ y ∈ scope.names, y.2 ≠ .cell) (h0 : scope.names.lookup (".0" : Str) = some NameKind.local)
    (hx : scope.names.lookup x = some .local) (hkind : scope.kind = .function) (hroom : A.depth < recursionLimit)
    (h : wpAny (model prog w) A (eval iter env) (fun xv s₁ => wpAny (model prog w) A (pyIter xv) (GxPost prog w A env elt x scope cl pos c P Q) E s₁) E s)
    (hs : ∀ x, genFold iter env x = pure x) :
    wpAny (model prog w) A (eval (.GeneratorExp elt [⟨.Name x px, iter, [], 0⟩] scope pos) env) Q E s := by
  refine wpAny_GeneratorExp_make hco hclos hcell h0 hkind hroom (wpAny_mono h (fun xv s₁ h₁ => wpAny_mono h₁ (fun it s₂ h₂ => ?_) fun _ _ e => e) fun _ _ e => e) hs
  obtain ⟨hlim, ⟨ps, hok, htab⟩, ⟨mg, bm, ob, hbm⟩, K, I, fp, wr, n₀, P₀, St₀, F, rfl, W₀, hst, hfp, hPf, hwr, hcK, hK, hel, hQ⟩ := h₂
  refine ⟨hlim, genexpr_code hcode hok htab fun code h₃ tk₃ ps' hx₃ hfull hsz htab₃ htr₃ hfill => ?_⟩
  have M₃ : BMod h₃ env.globals mg bm ob := hbm.extBut htab hx₃
  have hl₃ : h₃.NoLimit := hlim.extBut hx₃ hcP
  refine wpAny_builtinsFor M₃.ns M₃.name M₃.ne M₃.obj M₃.cls M₃.dict M₃.data ?_
  have hclt : cStatics < h₃.objs.size := let ⟨_, hn, _⟩ := hl₃; hn.lt
  have hsub0 : ∀ b ∈ wr, b ∈ fp := (W₀ A hh).sub
  have hPw : P ∉ wr := fun h => hPf (hsub0 _ h)
  have hcw : cStatics ∉ wr := fun h => Nat.lt_irrefl _ (Nat.lt_of_lt_of_le hcK (hwr _ h))
  have hst₃ : St₀ 0 h₃ := (W₀ A hh).frame _ _ _ hst fun b hb o e => hx₃ b o (fun e' => hPf (e' ▸ hb)) e
  have hfill₃ : Filled P pos h₃ := ⟨ps', htab₃.2, htr₃, hfill⟩
  have hfp₃ : ∀ b ∈ fp, b < h₃.objs.size := fun b hb => Nat.lt_of_lt_of_le (hfp b hb) hsz
  intro h' hn' hs'
  have hn' : h'.Ns h₃.objs.size _ := hn'
  have hs' : Heap.SameBut h₃.objs.size (h₃.push { cls := .type "frame", data := .dict #[] }) h' := hs'
  have hsz' : h'.objs.size = h₃.objs.size + 1 := by rw [hs'.1, Heap.size_push]
  have keep' : ∀ b o, h₃.get? b = some o → h'.get? b = some o := fun b o e => hs'.extBut b o (Nat.ne_of_lt (Heap.lt_size e)) (Heap.get?_push_of_some _ e)
  have hsub : ∀ b ∈ wr, b ∈ List.range h₃.objs.size := fun b hb => List.mem_range.mpr (hfp₃ b (hsub0 b hb))
  have haC : h'.objs.size ≠ h₃.objs.size := by rw [hsz']; exact Nat.succ_ne_self _
  have haf : h'.objs.size ∉ List.range h₃.objs.size := fun hm => by have := List.mem_range.mp hm; omega
  dsimp only
  generalize hgo : ({ cls := Value.type "generator", data := .fields #[.int (s₂.gens.size : Nat) 0, .str "<genexpr>" (tk₃ + 1), .str (env.qual ++ "<genexpr>") (tk₃ + 1 + 1)] } : Obj) = go
  have hgob : (h'.push go).IsGen h'.objs.size s₂.gens.size := by
    subst hgo
    exact ⟨_, _, _, Heap.get?_push_size _ rfl, rfl, rfl, rfl⟩
  have keep₅ : ∀ b o, h₃.get? b = some o → (h'.push go).get? b = some o := fun b o e => Heap.get?_push_of_some _ (keep' b o e)
  have hfill₅ : Filled P pos (h'.push go) := let ⟨p, a, b, c⟩ := hfill₃; ⟨p, keep₅ _ _ a, b, c⟩
  refine hQ h'.objs.size _ ⟨h'.objs.size :: h₃.objs.size :: List.range h₃.objs.size, h₃.objs.size :: wr, GenAtG prog w A.in4 h'.objs.size s₂.gens.size h₃.objs.size (List.range h₃.objs.size) wr n₀ F,
      walks_genexpG (A := A.in4) hh _ _ _ _ wr n₀ F haC haf hsub hroom (List.mem_range.mpr hclt) (Nat.ne_of_lt hclt) hcw, ?_, fun i s' st => st.1.typeIs, List.mem_cons_self, ?_, ?_⟩ ?_ ?_
  · refine genAtG_fresh (A := A.in4) (cenv := genEnv scope cl h₃.objs.size code builtinsNs env) (m := fun y => if y = ".0" then some (.ref I) else none) hh
      (fun A' hA => (W₀ A' hA).mono_fp fun b hb => List.mem_range.mpr (hfp₃ b hb)) F hx (by simp [genEnv, hkind]) hco
      (fun hm => Nat.lt_irrefl _ (List.mem_range.mp hm)) ?_ hgob (Array.getElem?_push_size ..) ((W₀ A hh).frame _ _ _ hst₃ fun b _ o e => keep₅ b o e) (hn'.push _) (hl₃.keeps keep₅)
    intro A' E' i v t m₂ hA hD hU hP hn hm hkp
    have back : ∀ b o, b ∉ wr → h₃.get? b = some o → t.heap.get? b = some o := fun b o hbw e => hkp b (List.mem_range.mpr (Heap.lt_size e)) hbw o (keep₅ b o e)
    refine hel code h₃.objs.size A' E' i v t m₂ hA hD hU hP hn hm hsz ?_ fun b o hbP hbw e => back b o hbw (hx₃ b o hbP e)
    obtain ⟨p, a, b, c⟩ := hfill₃
    exact ⟨p, back _ _ hPw a, b, c⟩
  · intro b hb
    show b < (h'.push go).objs.size
    rw [Heap.size_push]
    rcases List.mem_cons.mp hb with rfl | hb
    · exact Nat.lt_succ_self _
    · rcases List.mem_cons.mp hb with rfl | hb
      · rw [hsz']; exact Nat.lt_succ_of_lt (Nat.lt_succ_self _)
      · rw [hsz']; exact Nat.lt_succ_of_lt (Nat.lt_succ_of_lt (List.mem_range.mp hb))
  · intro b hb
    rcases List.mem_cons.mp hb with rfl | hb
    · exact Nat.le_trans hK hsz
    · exact hwr b hb
  · refine ⟨fun b o hb e => keep₅ b o (hx₃ b o hb e), fun hf b o e => keep₅ b o (hfull ?_ b o e), hfill₅, fun i x e => ?_, fun hb => hb.push rfl, rfl, rfl⟩
    · obtain ⟨p, a, _, hc⟩ := hf
      have : some (tabO p) = some (tabO ps) := a.symm.trans htab.2
      have e2 : p = ps := by
        have := Option.some.inj this
        injection this with _ _ h3
        injection h3
      rw [← e2]; exact hc
    · show (s₂.gens.push _)[i]? = some x
      have hi : i < s₂.gens.size := (Array.getElem?_eq_some_iff.mp e).1
      rw [Array.getElem?_push_lt hi]
      rw [Array.getElem?_eq_getElem hi] at e
      exact e
  · show K ≤ (h'.push go).objs.size
    rw [Heap.size_push, hsz']; exact Nat.le_trans hK (Nat.le_trans hsz (Nat.le_add_right _ 2))
end
section
variable {prog : Program} {w : World} {A : Around} {E : Value → Shared → Prop} {s : Shared} {K a : Addr} {Gn n : Nat} {F : Nat → Value → Prop}
theorem all_G {tr : Nat → Bool} {Q : Value → Shared → Prop} (X : GenG prog w A K Gn a n F s) (htr : TruthOf prog w A.in1 F tr)
    (hQ : ∀ s', UsedG K Gn s s' → Q (.bool ((List.range n).all tr)) s') : wpAny (model prog w) A (call (.builtin "all") [.ref a]) Q E s := by
  obtain ⟨fp, wr, St, W, hst, hT, hI, hfp, hwr⟩ := X
  have W := W.in4_1
  exact call_all_walkS (W.self 0 _ _ _ hst ⟨a, _, _, _, _, _, _, tr, rfl, W, hst, htr, fun s' hm => hQ s' (.of_moved hm hwr)⟩)
theorem any_G {tr : Nat → Bool} {Q : Value → Shared → Prop} (X : GenG prog w A K Gn a n F s) (htr : TruthOf prog w A.in1 F tr)
    (hQ : ∀ s', UsedG K Gn s s' → Q (.bool ((List.range n).any tr)) s') : wpAny (model prog w) A (call (.builtin "any") [.ref a]) Q E s := by
  obtain ⟨fp, wr, St, W, hst, hT, hI, hfp, hwr⟩ := X
  have W := W.in4_1
  exact call_any_walkS (W.self 0 _ _ _ hst ⟨a, _, _, _, _, _, _, tr, rfl, W, hst, htr, fun s' hm => hQ s' (.of_moved hm hwr)⟩)
end

end Mine
end
section -- W16
open PySem PySem.W PySem.Calls PyProof.Rows
set_option maxRecDepth 100000
set_option maxHeartbeats 4000000
namespace Mine
theorem fillOk_W16 : (PySem.Challenge.rw_vn0025_01 = PySem.Challenge.rw_vn0025_01 ∧ fragK = fragK) := fillOk_W1
local macro_rules | `(tactic| walk_at "MINE enter") => `(tactic| (
  k_dflt ((case' ok => assumption); (case' ho => k_is); (case' hcd => k_is); (case' hroom => ((try dsimp only); omega)); (case' hb => conv => lhs; whnf); (case' hs => conv => lhs; whnf); (case' hbind => first | exact BindsTo.of_eq rfl | exact binds_K (Ok.frag (by assumption)) rfl (by k_is) rfl rfl rfl); (case' hloc => exact locs rfl); (case' hco => exact rfl); (case' hgen => exact rfl); (case' hk => exact rfl); (case' hcell => decide))))
local macro_rules | `(tactic| walk_at "MINE centerC") => `(tactic| (
  k_dflt ((case' ok => assumption); (case' ho => k_is); (case' hcd => k_is); (case' hroom => ((try dsimp only); omega)); (case' hb => conv => lhs; whnf); (case' hs => conv => lhs; whnf); (case' hbind => first | exact BindsTo.of_eq rfl | exact binds_K (Ok.frag (by assumption)) rfl (by k_is) rfl rfl rfl); (case' hloc => exact kindsX rfl); (case' hco => exact rfl); (case' hgen => exact rfl); (case' hk => exact rfl); (case' hcell => decide))))
local macro_rules | `(tactic| walk_at "exec For Name Name cons nil") => `(tactic| refine unhold ?_)
local macro_rules | `(tactic| walk_at "exec For Name Call cons nil") => `(tactic| refine unhold ?_)
local macro_rules | `(tactic| walk_at "pyIter ref") => `(tactic| ((with_reducible show wpAny _ _ (pyIter (Value.ref _)) (fun it s₂ => LoopAtV _ _ _ _ _ _ _ _ _ it s₂) _ _); refine unhold ?_))
local macro_rules | `(tactic| walk_at "eval ListComp") => `(tactic| refine unhold ?_)
local macro_rules | `(tactic| walk_at "exec Assign cons ListComp") => `(tactic| refine unhold ?_)
local macro_rules | `(tactic| walk_at "exec While Compare cons nil") => `(tactic| refine unhold ?_)
local macro_rules | `(tactic| walk_at "eval Name") => `(tactic| (k_here; (with_reducible show wpAny _ _ (eval (Expr.Name _ _) (compEnvC _ _ _ _)) _ _ _); k_dflt (first
  | refine LCgL.ld_own (by k_asm) (by k_mem) (by assumption) (by assumption) ?_
  | refine my_global (by k_asm) (by k_asm) (by k_asm) (by k_is) ?_
  | refine my_built (by k_asm) (by k_asm) (by k_asm) (by k_is) (by boot_by_name) (by decide) ?_)))
local macro_rules | `(tactic| walk_at "binaryOp Add ref ref") => `(tactic| (k_here; (with_reducible show wpAny _ _ (binaryOp _ (Value.ref _) (Value.ref _)) _ _ _); k_dflt (refine' kmk_add_ints ?F ?N ?a ?b ?i ?j ?_ ?z; (case F => k_asm); (case N => k_asm); (case a => kmk_list); (case b => kmk_list); (case i => l_ints); (case j => l_ints); (case z => ((simp only [sizeLine_eq, List.length_append, List.length_map, List.length_cons, List.length_nil, Array.length_toList, KBw.ints_length]); omega))); intro D' ws' h' F' N' l1 hI'; (try k_lt l1); (try k_sweep)))
local macro_rules | `(tactic| walk_at "binaryOp Add str str") => `(tactic| (k_here; (refine my_add_str ?_ ?kz; (case kz => ((simp only [PySem.Str.length_append]; (try simp only [my_len1]); omega)))); intro _ _))
local macro_rules | `(tactic| walk_at "call builtin:list.append") => `(tactic| (k_here; (with_reducible show wpAny _ _ (call (Value.builtin _) [Value.ref _, _]) _ _ _); k_dflt (refine' append_K ?k1 ?k2 ?k3 ?_ ?z; (case k1 => k_asm); (case k2 => k_asm); (case k3 => k_upd); (case z => (simp only [List.size_toArray, sizeLine_eq]; omega)); k_whole); intro h' F' N'; (try k_sweep)))
theorem itez_pos {a b : Int} {P Q : Prop} (h : a = b) (p : P) : if (a == b) = true then P else Q := by rw [if_pos (by simpa using h)]; exact p
theorem itez_neg {a b : Int} {P Q : Prop} (h : ¬ a = b) (q : Q) : if (a == b) = true then P else Q := by rw [if_neg (by simpa using h)]; exact q
theorem itez_pos' {a b : Int} {P Q : Prop} (h : ¬ a = b) (p : P) : if (a != b) = true then P else Q := by rw [if_pos (by simpa using h)]; exact p
theorem itez_neg' {a b : Int} {P Q : Prop} (h : a = b) (q : Q) : if (a != b) = true then P else Q := by rw [if_neg (by simpa using h)]; exact q
theorem itez_dpos {c : Prop} [Decidable c] {P Q : Prop} (h : c) (p : P) : if decide c = true then P else Q := by rw [if_pos (by simpa using h)]; exact p
theorem itez_dneg {c : Prop} [Decidable c] {P Q : Prop} (h : ¬ c) (q : Q) : if decide c = true then P else Q := by rw [if_neg (by simpa using h)]; exact q
local macro_rules | `(tactic| walk_at "ite") => `(tactic| (k_here; with_reducible (first | refine itez_pos (by assumption) ?_ | refine itez_neg (by assumption) ?_ | refine itez_pos' (by assumption) ?_ | refine itez_neg' (by assumption) ?_ | refine itez_dpos (by assumption) ?_ | refine itez_dneg (by assumption) ?_); walk_say "PRUNED mine"))
-- @HEAD2
variable {w : World} {A : Around} {s : Shared} {Q E : Value → Shared → Prop}
theorem enc_a (c : UInt8) (b : Array UInt8) (hBl : b.toList = [c]) (hc : c.toNat < 128) (tb : Tok) (ok : Ok w s.heap) (r : Room A 3 12)
   (hQ : ∀ h' tk t, (∀ b o, s.heap.get? b = some o → h'.get? b = some o) → Q (.bytes b t) { s with heap := h', toks := tk }) :
   wpAny (model PG w) A (call (.ref 463) [.bytes b tb]) Q E s := by
  have hsz : b.size = 1 := by have := congrArg List.length hBl; simpa using this
  have hs : (b.size : Int) = 1 := by omega
  have := fillOk_W16; clear this
  w_on
  obtain ⟨hdl, dep, frs, gds, un⟩ := A
  obtain ⟨hd, hu, hh⟩ := r
  dsimp only at hd hu hh; subst hh
  refine' enter_q [(.ofString "item", .bytes b tb)] ?ok ?ho ?hcd ?hroom ?hb ?hs ?hbind ?hloc ?hco ?hgen ?hk ?hcell ?_
  walk_at "MINE enter"
  intro h₁ mg mb tk0 X T F N
  k_steps
  refine bytes_at 0 rfl (by omega) (by omega) ?_
  rw [hBl]
  have hci : ((([c].getD 0 0).toNat : Nat) : Int) < 128 := by show ((c.toNat : Nat) : Int) < 128; omega
  k_steps
  exact hQ _ _ _ F.keep
theorem enc_b (c : UInt8) (b : Array UInt8) (hBl : b.toList = [c]) (hc : ¬ c.toNat < 128) (tb : Tok) (ok : Ok w s.heap) (r : Room A 3 12)
   (hQ : ∀ h' tk t, (∀ b o, s.heap.get? b = some o → h'.get? b = some o) → Q (.bytes (#[(128 + b.size).toUInt8] ++ b) t) { s with heap := h', toks := tk }) :
   wpAny (model PG w) A (call (.ref 463) [.bytes b tb]) Q E s := by
  have hsz : b.size = 1 := by have := congrArg List.length hBl; simpa using this
  have hs : (b.size : Int) = 1 := by omega
  have := fillOk_W16; clear this
  w_on
  obtain ⟨hdl, dep, frs, gds, un⟩ := A
  obtain ⟨hd, hu, hh⟩ := r
  dsimp only at hd hu hh; subst hh
  refine' enter_q [(.ofString "item", .bytes b tb)] ?ok ?ho ?hcd ?hroom ?hb ?hs ?hbind ?hloc ?hco ?hgen ?hk ?hcell ?_
  walk_at "MINE enter"
  intro h₁ mg mb tk0 X T F N
  k_steps
  refine bytes_at 0 rfl (by omega) (by omega) ?_
  rw [hBl]
  have hci : ¬ ((([c].getD 0 0).toNat : Nat) : Int) < 128 := by show ¬ ((c.toNat : Nat) : Int) < 128; omega
  k_steps
  have F5 := (show Fr s.heap s.heap.objs.size _ _ by assumption)
  have N5 := (show News s.heap s.heap.objs.size _ _ by assumption)
  refine length_prefix_spec b.size 128 _ _ (by omega) (.inl rfl) (ok.stays F5.keep) (roomOf (by omega) (by omega)) fun h6 tk6 t6 k6 => ?_
  have F6 := F5.after k6
  have N6 := News.stays N5 k6
  rw [if_pos (by omega)]
  clear F5 N5
  k_steps
  refine KBy.add_bytes (by simp; omega) fun t8 k8 => ?_
  k_steps
  exact hQ _ _ _ (show Fr s.heap s.heap.objs.size _ _ by assumption).keep
theorem enc_c (b : Array UInt8) (hb : b.size < 56) (h1 : b.size ≠ 1) (tb : Tok) (ok : Ok w s.heap) (r : Room A 3 12)
   (hQ : ∀ h' tk t, (∀ b o, s.heap.get? b = some o → h'.get? b = some o) → Q (.bytes (#[(128 + b.size).toUInt8] ++ b) t) { s with heap := h', toks := tk }) :
   wpAny (model PG w) A (call (.ref 463) [.bytes b tb]) Q E s := by
  have hs : ¬ (b.size : Int) = 1 := by omega
  have := fillOk_W16; clear this
  w_on
  obtain ⟨hdl, dep, frs, gds, un⟩ := A
  obtain ⟨hd, hu, hh⟩ := r
  dsimp only at hd hu hh; subst hh
  refine' enter_q [(.ofString "item", .bytes b tb)] ?ok ?ho ?hcd ?hroom ?hb ?hs ?hbind ?hloc ?hco ?hgen ?hk ?hcell ?_
  walk_at "MINE enter"
  intro h₁ mg mb tk0 X T F N
  k_steps
  have F5 := (show Fr s.heap s.heap.objs.size _ _ by assumption)
  have N5 := (show News s.heap s.heap.objs.size _ _ by assumption)
  refine length_prefix_spec b.size 128 _ _ (by omega) (.inl rfl) (ok.stays F5.keep) (roomOf (by omega) (by omega)) fun h6 tk6 t6 k6 => ?_
  have F6 := F5.after k6
  have N6 := News.stays N5 k6
  rw [if_pos (by omega)]
  clear F5 N5
  k_steps
  refine KBy.add_bytes (by simp; omega) fun t8 k8 => ?_
  k_steps
  exact hQ _ _ _ (show Fr s.heap s.heap.objs.size _ _ by assumption).keep
theorem enc_leaf (bs : List UInt8) (hb : bs.length < 56) (tb : Tok) (ok : Ok w s.heap) (r : Room A 3 12)
   (hQ : ∀ h' tk t, (∀ b o, s.heap.get? b = some o → h'.get? b = some o) → Q (.bytes (RT.leaf bs).enc.toArray t) { s with heap := h', toks := tk }) :
   wpAny (model PG w) A (call (.ref 463) [.bytes bs.toArray tb]) Q E s := by
  by_cases h1 : bs.length = 1
  · obtain ⟨c, rfl⟩ := List.length_eq_one_iff.mp h1
    by_cases hc : c.toNat < 128
    · have he : RT.enc (.leaf [c]) = [c] := by unfold RT.enc; simp [hc]
      rw [he] at hQ
      exact enc_a c _ rfl hc tb ok r hQ
    · have he : RT.enc (.leaf [c]) = (128 + 1).toUInt8 :: [c] := by unfold RT.enc rHead; simp [hc]
      rw [he] at hQ
      exact enc_b c _ rfl hc tb ok r hQ
  · have he : RT.enc (.leaf bs) = (128 + bs.length).toUInt8 :: bs := by
      match bs, h1 with
      | [], _ => rfl
      | c :: d :: r, _ =>
        unfold RT.enc rHead
        dsimp only
        rw [if_pos hb]; rfl
    refine enc_c _ (by simpa using hb) (by simpa using h1) tb ok r fun h' tk t k => ?_
    have := hQ h' tk t k
    rw [he] at this
    rw [show #[(128 + bs.toArray.size).toUInt8] ++ bs.toArray = ((128 + bs.length).toUInt8 :: bs).toArray by simp]
    exact this

end Mine
end
section -- W17
open PySem PySem.W PySem.Calls PyProof.Rows
set_option maxRecDepth 100000
set_option maxHeartbeats 4000000
namespace Mine
theorem fillOk_W17 : (PySem.Challenge.rw_vn0025_01 = PySem.Challenge.rw_vn0025_01 ∧ fragK = fragK) := fillOk_W1
local macro_rules | `(tactic| walk_at "MINE enter") => `(tactic| (
  k_dflt ((case' ok => assumption); (case' ho => k_is); (case' hcd => k_is); (case' hroom => ((try dsimp only); omega)); (case' hb => conv => lhs; whnf); (case' hs => conv => lhs; whnf); (case' hbind => first | exact BindsTo.of_eq rfl | exact binds_K (Ok.frag (by assumption)) rfl (by k_is) rfl rfl rfl); (case' hloc => exact locs rfl); (case' hco => exact rfl); (case' hgen => exact rfl); (case' hk => exact rfl); (case' hcell => decide))))
local macro_rules | `(tactic| walk_at "MINE centerC") => `(tactic| (
  k_dflt ((case' ok => assumption); (case' ho => k_is); (case' hcd => k_is); (case' hroom => ((try dsimp only); omega)); (case' hb => conv => lhs; whnf); (case' hs => conv => lhs; whnf); (case' hbind => first | exact BindsTo.of_eq rfl | exact binds_K (Ok.frag (by assumption)) rfl (by k_is) rfl rfl rfl); (case' hloc => exact kindsX rfl); (case' hco => exact rfl); (case' hgen => exact rfl); (case' hk => exact rfl); (case' hcell => decide))))
local macro_rules | `(tactic| walk_at "exec For Name Name cons nil") => `(tactic| refine unhold ?_)
local macro_rules | `(tactic| walk_at "exec For Name Call cons nil") => `(tactic| refine unhold ?_)
local macro_rules | `(tactic| walk_at "pyIter ref") => `(tactic| ((with_reducible show wpAny _ _ (pyIter (Value.ref _)) (fun it s₂ => LoopAtV _ _ _ _ _ _ _ _ _ it s₂) _ _); refine unhold ?_))
local macro_rules | `(tactic| walk_at "eval ListComp") => `(tactic| refine unhold ?_)
local macro_rules | `(tactic| walk_at "exec Assign cons ListComp") => `(tactic| refine unhold ?_)
local macro_rules | `(tactic| walk_at "exec While Compare cons nil") => `(tactic| refine unhold ?_)
local macro_rules | `(tactic| walk_at "eval Name") => `(tactic| (k_here; (with_reducible show wpAny _ _ (eval (Expr.Name _ _) (compEnvC _ _ _ _)) _ _ _); k_dflt (first
  | refine LCgL.ld_own (by k_asm) (by k_mem) (by assumption) (by assumption) ?_
  | refine my_global (by k_asm) (by k_asm) (by k_asm) (by k_is) ?_
  | refine my_built (by k_asm) (by k_asm) (by k_asm) (by k_is) (by boot_by_name) (by decide) ?_)))
local macro_rules | `(tactic| walk_at "binaryOp Add ref ref") => `(tactic| (k_here; (with_reducible show wpAny _ _ (binaryOp _ (Value.ref _) (Value.ref _)) _ _ _); k_dflt (refine' kmk_add_ints ?F ?N ?a ?b ?i ?j ?_ ?z; (case F => k_asm); (case N => k_asm); (case a => kmk_list); (case b => kmk_list); (case i => l_ints); (case j => l_ints); (case z => ((simp only [sizeLine_eq, List.length_append, List.length_map, List.length_cons, List.length_nil, Array.length_toList, KBw.ints_length]); omega))); intro D' ws' h' F' N' l1 hI'; (try k_lt l1); (try k_sweep)))
local macro_rules | `(tactic| walk_at "binaryOp Add str str") => `(tactic| (k_here; (refine my_add_str ?_ ?kz; (case kz => ((simp only [PySem.Str.length_append]; (try simp only [my_len1]); omega)))); intro _ _))
local macro_rules | `(tactic| walk_at "call builtin:list.append") => `(tactic| (k_here; (with_reducible show wpAny _ _ (call (Value.builtin _) [Value.ref _, _]) _ _ _); k_dflt (refine' append_K ?k1 ?k2 ?k3 ?_ ?z; (case k1 => k_asm); (case k2 => k_asm); (case k3 => k_upd); (case z => (simp only [List.size_toArray, sizeLine_eq]; omega)); k_whole); intro h' F' N'; (try k_sweep)))
-- @HEAD2
variable {w : World} {A : Around} {s : Shared} {Q E : Value → Shared → Prop}
theorem kitAt_base {h₀ h : Heap} {L l : Addr} {m : Str → Option Value} {vs : Array Value} (hl : h₀.IsList l vs) (F : Fr h₀ L h m) : KitAt l "list" h := let ⟨o, e, c, _⟩ := hl; ⟨o, F.keep _ _ e, c⟩
local macro_rules | `(tactic| walk_at "call builtin:isinstance") => `(tactic| (k_here; (with_reducible show wpAny _ _ (call _ [Value.ref _, _]) _ _ _); k_dflt (first
  | (refine' kia_tup kitx_list ?X ?c ?p ?ee ?nb ?_; (case c => exact kitAt_base (by assumption) (by assumption)); (case X => k_in); (case p => kit_tp); (case ee => kit_is); (case nb => kit_nb); k_whole; intro _)
  | (refine' kia_one kitx_list ?X ?c ?ee ?nb ?_; (case c => exact kitAt_base (by assumption) (by assumption)); (case X => k_in); (case ee => kit_is); (case nb => kit_nb); k_whole; intro _))))
theorem type_bytes_join : typeOf (.builtin "bytes.join") = pure (.type "method_descriptor") := by
  kernel_rfl
theorem method_join {M : Model} {b : Array UInt8} {t : Tok} {pl : Sem Bool} {Q : Value × List Value → Shared → Prop} (h : Q (.builtin "bytes.join", [.bytes b t]) s) : wpAny M A (getMethod (.bytes b t) "join" pl) Q E s := by
  with_reducible exact KBd.method_of (.bytes b t) (typeIs_bytes _ _ _) slot_bytes_join type_bytes_join KBd.noRef h
local macro_rules | `(tactic| walk_at "getMethod bytes") => `(tactic| (refine method_join ?_))
/-- entry of a def that may fill the tables -/
theorem enter_g {w : World} {A : Around} {Q E : Value → Shared → Prop} {s : Shared} {name qual : Str} {params : Arguments} {body body' : List Stmt} {scope scope' : Scope}
    {dV kV doc pm cdv ct oc : Value} {an od : Option Addr} {osl : Array (Option Value)} {f : Addr} {pos : List Value} {kw : List (Str × Value)} (binds : List (Str × Value))
    (ok : Ok w s.heap)
    (ho : (fragK w.params).lookup f = some ⟨oc, od, .func (fnOf name qual params body scope dV kV doc pm an cdv ct), osl⟩) (hcd : codeIn (fragK w.params) cdv qual = true) (hroom : A.depth < recursionLimit)
    (hb : body = body') (hs : scope = scope')
    (hbind : BindsTo s (fnOf name qual params body scope dV kV doc pm an cdv ct) ⟨pos, kw⟩ binds) (hloc : ∀ y ∈ binds, scope.names.lookup y.1 = some .local)
    (hco : scope.isCoroutine = false) (hgen : scope.isGenerator = false) (hk : scope.kind = .function)
    (hcell : ∀ x ∈ scope.names, x.2 ≠ .cell)
    (h : ∀ h₁ mg mb p1 p2, s.heap.get? T1 = some (tabO p1) → s.heap.get? T2 = some (tabO p2) → (fragK w.params).In (lowH s.heap) → TopRead viewP (looseW viewP looseV) mg mb (lowH s.heap) → TriplesOk p1.toList → TriplesOk p2.toList →
      Fr (lowH s.heap) s.heap.objs.size h₁ (fun y => binds.reverse.lookup y) → News (lowH s.heap) s.heap.objs.size h₁ (tabsN p1 p2) →
      wpAny (model PG w) (A.deeper (envOf qual scope' s.heap.objs.size f cdv)) (execs body' (envOf qual scope' s.heap.objs.size f cdv))
        (fun fl s' => Q (match fl with | .ret v => v | _ => .none) s') (fun _ _ => False) { s with heap := h₁, toks := s.toks + binds.length }) :
    wpAny (model PG w) A (call (.ref f) pos kw) Q E s := by
  subst hb hs
  obtain ⟨X, ⟨mg, mb, T⟩, ⟨p1, t1, k1⟩, ⟨p2, t2, k2⟩⟩ := ok
  have X' : (fragK w.params).In s.heap := fun a o e => (of_low (X a o e)).1
  have hlim : s.heap.NoLimit := T.nolimit.keeps fun b o e => (of_low e).1
  refine wpAny_call (codeAny_call_def (fd := fnOf name qual params body scope dV kV doc pm an cdv ct) (body := body) (binds := binds) hroom (X' _ _ ho) rfl hlim (codeRec_of X' hcd) rfl hbind hcell hloc (fun h₁ hns hk₁ => ?_) hco hgen hk)
  have l1 : T1 < s.heap.objs.size := Heap.lt_size t1
  have l2 : T2 < s.heap.objs.size := Heap.lt_size t2
  refine wpAny_mono (h h₁ mg mb p1 p2 t1 t2 X T k1 k2 ⟨hns, fun b o e => hk₁ _ _ (of_low e).1, Nat.le_of_eq (low_size _)⟩ ?_) (fun _ _ x => x) (fun _ _ x => x.elim)
  intro p hp
  rcases List.mem_cons.mp hp with rfl | hp
  · exact ⟨hk₁ _ _ t1, Nat.ne_of_lt l1, by show (lowH s.heap).get? T1 = none; unfold lowH; rw [Heap.hide_ne _ (by decide), Heap.hide_self]⟩
  · rcases List.mem_singleton.mp hp with rfl
    exact ⟨hk₁ _ _ t2, Nat.ne_of_lt l2, by show (lowH s.heap).get? T2 = none; unfold lowH; rw [Heap.hide_self]⟩
def posE : Pos := ⟨254, 27, 254, 56⟩
/-- behind encode_raw -/
structure GrewE (P : Addr) (pos : Pos) (s s' : Shared) : Prop where
  heap : ∀ b o, b ≠ P → s.heap.get? b = some o → s'.heap.get? b = some o
  full : Filled P pos s.heap → ∀ b o, s.heap.get? b = some o → s'.heap.get? b = some o
  tabs : TabsOk s.heap → TabsOk s'.heap
  gens : ∀ (i : Nat) x, s.gens[i]? = some x → s'.gens[i]? = some x
  bare : AllBare s.gens → AllBare s'.gens
  drawn : s'.drawn = s.drawn
  os : s'.os = s.os
theorem GrewE.quiet {P : Addr} {pos : Pos} {s : Shared} {h' : Heap} {tk : Nat} (k : ∀ b o, s.heap.get? b = some o → h'.get? b = some o) : GrewE P pos s { s with heap := h', toks := tk } :=
  ⟨fun b o _ e => k b o e, fun _ b o e => k b o e, fun ⟨⟨p, e, i⟩, q, f, j⟩ => ⟨⟨p, k _ _ e, i⟩, q, k _ _ f, j⟩, fun _ _ e => e, id, rfl, rfl⟩
def EncSpec (t : RT) : Prop := ∀ {w : World} {A : Around} {s : Shared} {Q E : Value → Shared → Prop} (v : Value), RAt (lowH s.heap) t v → Ok w s.heap → Room A (2 * t.deep + 3) (11 * t.deep + 12) →
  (∀ s' tok, GrewE T1 posE s s' → Q (.bytes t.enc.toArray tok) s') → wpAny (model PG w) A (call (.ref 463) [v]) Q E s
theorem GrewS.ofE {P : Addr} {pos : Pos} {s s' : Shared} (g : GrewE P pos s s') (f : Filled P pos s.heap) : GrewS s s' := ⟨g.full f, g.gens, g.bare, g.drawn, g.os⟩
theorem code_E {h : Heap} {ps : Array Value} (X : ∀ b o, (fragK w.params).lookup b = some o → h.get? b = some o) (e : h.get? T1 = some (tabO ps)) (k : TriplesOk ps.toList) : h.IsCode 462 T1 ps ∧ h.TableAt 462 T1 ps :=
  ⟨⟨_, _, _, _, _, _, _, _, _, _, X 462 _ rfl, rfl, rfl, rfl, rfl, rfl, rfl, e, rfl, k, by decide⟩, ⟨_, _, X 462 _ rfl, rfl, rfl, rfl⟩, e⟩
theorem bmod_E {h : Heap} {mg mb : Str → Option Value} (X : (fragK w.params).In h) (T : TopRead viewP (looseW viewP looseV) mg mb h) : BMod h mainGlobals mg 4 ⟨.type "module", some 0, .plain, #[]⟩ :=
  ⟨T.g, mg_of X T.g (by with_unfolding_all rfl), by decide, X 4 _ rfl, rfl, rfl, rfl⟩

section
variable {M : Model} {K : Frag} {h₀ : Heap} {L C : Addr} {m mg mb : Str → Option Value} {scope : Scope} {cl : List (Str × Addr)} {code : Value} {env : Env} {p : Program} {loose : List Str} {x : Str} {pos : Pos} {v : Value} {bi : Addr}
theorem gen_global (F : Fr h₀ L s.heap m) (X : K.In h₀) (T : TopRead p loose mg mb h₀) (e : nsIn K mainGlobals x = some (some v)) (h : Q v s) (hg : env.globals = mainGlobals := by rfl)
    (hk : (genEnv scope cl C code bi env).scope.kind = .function := by rfl) (hx : (genEnv scope cl C code bi env).kindOf x = some .globalImplicit := by rfl) (hd : (x == ("__debug__" : Str)) = false := by decide) :
    wpAny M A (eval (.Name x pos) (genEnv scope cl C code bi env)) Q E s :=
  Name_function_global hk hx (loadGlobal_global (env := genEnv scope cl C code bi env) (show s.heap.Ns env.globals mg from hg ▸ (T.keeps F.keep).g) (mg_of X T.g e) h) hd
theorem gen_built (F : Fr h₀ L s.heap m) (X : K.In h₀) (T : TopRead p loose mg mb h₀) (e : nsIn K mainGlobals x = some none) (hv : bootBuiltins x = some v) (hn : x ≠ "__name__") (h : Q v s) (hg : env.globals = mainGlobals := by rfl) (hb : bi = builtinsNs := by rfl)
    (hk : (genEnv scope cl C code bi env).scope.kind = .function := by rfl) (hx : (genEnv scope cl C code bi env).kindOf x = some .globalImplicit := by rfl) (hd : (x == ("__debug__" : Str)) = false := by decide) :
    wpAny M A (eval (.Name x pos) (genEnv scope cl C code bi env)) Q E s :=
  Name_function_global hk hx (loadGlobal_builtin (env := genEnv scope cl C code bi env) (show s.heap.Ns env.globals mg from hg ▸ (T.keeps F.keep).g) (mg_none_of X T.g e) (show s.heap.Ns bi mb from hb ▸ (T.keeps F.keep).b) ((T.builtins x hn).trans hv) h) hd
end
local macro_rules | `(tactic| walk_at "eval Name") => `(tactic| (k_here; (with_reducible show wpAny _ _ (eval (Expr.Name _ _) (genEnv _ _ _ _ _ _)) _ _ _); k_dflt (first
  | refine ldG (Fr.ns (by assumption)) (by assumption) ?_
  | refine gen_global (by k_asm) (by k_asm) (by k_asm) (by k_is) ?_
  | refine gen_built (by k_asm) (by k_asm) (by k_asm) (by k_is) (by boot_by_name) (by decide) ?_)))
theorem RAts.get {h : Heap} : ∀ (ts : RTs) (vs : List Value), RAts h ts vs → ∀ (i : Nat) (v : Value), vs[i]? = some v → ∃ t, ts.toList[i]? = some t ∧ RAt h t v
  | .nil, _, x, i, v, e => by subst x; cases e
  | .cons t ts, _, ⟨v, r, rfl, x, y⟩, 0, v', e => ⟨t, rfl, by cases e; exact x⟩
  | .cons t ts, _, ⟨v, r, rfl, x, y⟩, i + 1, v', e => RAts.get ts r y i v' e
theorem RAts.len {h : Heap} : ∀ (ts : RTs) (vs : List Value), RAts h ts vs → vs.length = ts.toList.length
  | .nil, _, x => by subst x; rfl
  | .cons t ts, _, ⟨v, r, rfl, x, y⟩ => congrArg (· + 1) (RAts.len ts r y)
theorem enc_of_node (ts : RTs) (hok : RT.ok (.node ts)) (ih : ∀ t ∈ ts.toList, t.deep ≤ ts.deep ∧ EncSpec t) : EncSpec (.node ts) := by
  intro w A s Q E v hv ok r hQ
  obtain ⟨l, vs, rfl, hl', hr⟩ := hv
  have := fillOk_W17; clear this
  w_on
  obtain ⟨hdl, dep, frs, gds, un⟩ := A
  obtain ⟨hd, hu, hh⟩ := r
  dsimp only at hd hu hh; subst hh
  refine' enter_g [(.ofString "item", .ref l)] ?ok ?ho ?hcd ?hroom ?hb ?hs ?hbind ?hloc ?hco ?hgen ?hk ?hcell ?_
  walk_at "MINE enter"
  intro h₁ mg mb p1 p2 t1 t2 X T k1 k2 F N
  rw [show (RT.node ts).deep = ts.deep + 1 from rfl] at hd hu
  k_steps
  have F5 := (show Fr (lowH s.heap) s.heap.objs.size _ _ by assumption)
  have N5 := (show News (lowH s.heap) s.heap.objs.size _ _ by assumption)
  rename_i D5 h5 _ _ l5 tk5
  have hT1 := (N5 _ (.tail _ (.head _)))
  have hT2 := (N5 _ (.tail _ (.tail _ (.head _))))
  have hlT : l ≠ T1 ∧ l ≠ T2 := let ⟨o, e, _⟩ := hl'; (of_low e).2
  have hl5 : h5.IsList l vs.toArray := hl'.at fun o e => F5.keep _ _ e
  have hlen : vs.toArray.size = (ts.toList.map RT.enc).length := by rw [List.size_toArray, List.length_map]; exact RAts.len ts vs hr
  have hflat : (ts.toList.map RT.enc).flatten = ts.enc := by rw [RTs.enc_eq]; rfl
  have hsmall : ts.enc.length < 200 := hok.2
  have hnum : (ts.toList.map RT.enc).length ≤ 200 := by rw [List.length_map]; have := encL_len ts.toList; rw [← RTs.enc_eq] at this; omega
  have hL1 : T1 < s.heap.objs.size := Heap.lt_size t1
  have hL2 : T2 < s.heap.objs.size := Heap.lt_size t2
  have hLs : s.heap.objs.size < h5.objs.size := F5.ns.lt
  refine genexp_G (c := 462) (P := T1) rfl (by decide) rfl rfl rfl (by decide) rfl rfl rfl (by show dep + 1 < recursionLimit; omega) ?_ (fun _ => rfl)
  k_steps
  refine wpAny_pyIter_list hl5 ?_
  unfold GxPost
  have up : ∀ {o' : Obj} b o, h5.get? b = some o → (h5.push o').get? b = some o := fun b o e => Heap.get?_push_of_some _ e
  obtain ⟨c1, c2⟩ := code_E (fun b o e => up (o' := { cls := .type "list_iterator", data := .fields #[.ref l, .int 0 0] }) _ _ (F5.keep _ _ (X _ _ e))) (up _ _ hT1.1) k1
  have hlne : l ≠ h5.objs.size := Nat.ne_of_lt (let ⟨_, e, _⟩ := hl5; Heap.lt_size e)
  refine ⟨T.nolimit.keeps (fun b o e => up _ _ (F5.keep _ _ e)), ⟨p1, c1, c2⟩, ⟨mg, 4, _, bmod_E (X.keeps fun b o e => up _ _ (F5.keep _ _ e)) (T.keeps fun b o e => up _ _ (F5.keep _ _ e))⟩, h5.objs.size, h5.objs.size, [h5.objs.size, l], [h5.objs.size], (ts.toList.map RT.enc).length,
    (fun i v => vs.toArray[i]? = some v), (fun i h => h.IsListIter h5.objs.size l i ∧ h.IsList l vs.toArray), (fun i y => ∃ b t, (ts.toList.map RT.enc)[i]? = some b ∧ y = .bytes b.toArray t), rfl, fun A' hA => hlen ▸ Walks.list hA _ l hlne _, ⟨⟨_, Heap.get?_push_size _ rfl, rfl, rfl⟩, hl5.push _⟩, ?_, ?_, ?_, ?_, ?_, ?_, ?_⟩
  · intro b hb
    show b < (h5.push _).objs.size
    rw [Heap.size_push]
    rcases List.mem_cons.mp hb with rfl | hb
    · exact Nat.lt_succ_self _
    · rw [List.mem_singleton.mp hb]; exact Nat.lt_succ_of_lt (let ⟨_, e, _⟩ := hl5; Heap.lt_size e)
  · intro hm
    rcases List.mem_cons.mp hm with hm | hm
    · exact absurd hm (Nat.ne_of_lt (Nat.lt_trans hL1 hLs))
    · exact hlT.1 (List.mem_singleton.mp hm).symm
  · intro b hb; rw [List.mem_singleton.mp hb]; exact Nat.le_refl _
  · exact Nat.lt_trans (show cStatics < T1 by decide) (Nat.lt_trans hL1 hLs)
  · show h5.objs.size ≤ (h5.push _).objs.size
    rw [Heap.size_push]; exact Nat.le_succ _
  · intro code C A' E' i v t m₂ hA hD hU hP hn hm hC hfill hkeep
    obtain ⟨u, hu, hru⟩ := RAts.get ts vs hr i v (by simpa using hP)
    obtain ⟨hdu, ihu⟩ := ih u (List.mem_of_getElem? hu)
    obtain ⟨hdl', dep', frs', gds', un'⟩ := A'
    obtain ⟨th, tg, td, tt, tos⟩ := t
    dsimp only at hA hD hU hn hfill hkeep
    subst hA
    have notI : ∀ b o, h5.get? b = some o → b ∉ [h5.objs.size] := fun b o e hm => Nat.ne_of_lt (Heap.lt_size e) (List.mem_singleton.mp hm)
    have kp : ∀ b o, b ≠ T1 → h5.get? b = some o → th.get? b = some o := fun b o hb e => hkeep b o hb (notI b o e) (up _ _ e)
    have F9 : Fr (lowH s.heap) C th m₂ := ⟨hn, fun b o e => kp b o (of_low e).2.1 (F5.keep b o e), Nat.le_trans F5.above (Nat.le_trans (Nat.le_of_lt hLs) (Nat.le_trans (by show h5.objs.size ≤ (h5.push _).objs.size; rw [Heap.size_push]; exact Nat.le_succ _) hC))⟩
    have lk : ∀ b o, (lowH s.heap).get? b = some o → (lowH th).get? b = some o := fun b o e => low_get (of_low e).2.1 (of_low e).2.2 (F9.keep b o e)
    have okt : Ok w th := ⟨X.keeps lk, ⟨mg, mb, T.keeps lk⟩, let ⟨ps, a, b, _⟩ := hfill; ⟨ps, a, b⟩, p2, kp T2 _ (by decide) hT2.1, k2⟩
    clear F5 N5
    k_steps
    have hD' : dep' ≤ dep + 1 + 1 := hD
    have hU' : un' ≤ un + 3 + 8 := hU
    exact ihu v (RAt.keeps lk u v hru) okt ⟨by show dep' + _ < _; omega, by show un' + _ < _; omega, rfl⟩ fun s' tok g => ⟨⟨u.enc, tok, by simp [hu], rfl⟩, GrewS.ofE g hfill⟩
  · intro a s₅ hG hM hK5
    obtain ⟨h6, g6, d6, tk6, os6⟩ := s₅
    obtain ⟨q1, e1, j1, j2⟩ := hM.filled
    dsimp only at e1 hK5
    have kp : ∀ b o, b ≠ T1 → h5.get? b = some o → h6.get? b = some o := fun b o hb e => hM.heap b o hb (up _ _ e)
    have F6 : Fr (lowH s.heap) s.heap.objs.size h6 _ := ⟨F5.ns.at' fun o e => kp _ _ (Nat.ne_of_gt hL1) e, fun b o e => kp b o (of_low e).2.1 (F5.keep b o e), F5.above⟩
    have N6 : News (lowH s.heap) s.heap.objs.size h6 (tabsN q1 p2) := by
      intro p hp
      rcases List.mem_cons.mp hp with rfl | hp
      · exact ⟨e1, hT1.2⟩
      · rw [List.mem_singleton.mp hp]; exact ⟨kp T2 _ (by decide) hT2.1, hT2.2⟩
    clear F5 N5
    k_steps
    refine call_bytes_join (bs := ts.toList.map RT.enc) hG hK5 (fun i v h => h) (by rw [hflat]; omega) (by omega) fun s' t7 hU => ?_
    obtain ⟨h7, g7, d7, tk7, os7⟩ := s'
    have kp7 : ∀ b o, b < h5.objs.size → h6.get? b = some o → h7.get? b = some o := hU.heap
    have F7 : Fr (lowH s.heap) s.heap.objs.size h7 _ := ⟨F6.ns.at' fun o e => kp7 _ _ hLs e, fun b o e => kp7 b o (Nat.lt_trans (Heap.lt_size (of_low e).1) hLs) (F6.keep b o e), F6.above⟩
    have N7 : News (lowH s.heap) s.heap.objs.size h7 (tabsN q1 p2) := by
      intro p hp
      refine ⟨kp7 _ _ ?_ (N6 p hp).1, (N6 p hp).2⟩
      rcases List.mem_cons.mp hp with rfl | hp
      · exact Nat.lt_trans hL1 hLs
      · rw [List.mem_singleton.mp hp]; exact Nat.lt_trans hL2 hLs
    rw [hflat]
    clear F6 N6
    k_steps
    have F8 := (show Fr (lowH s.heap) s.heap.objs.size _ _ by assumption)
    have N8 := (show News (lowH s.heap) s.heap.objs.size _ _ by assumption)
    refine length_prefix_spec ts.enc.toArray.size 192 _ _ (by simpa using hsmall) (.inr rfl) (ok_here X T F8 N8 (.head _) (.tail _ (.head _)) j1 k2) (roomOf (by omega) (by omega)) fun h9 tk9 t9 k9 => ?_
    have F9 := F8.after k9
    have N9 := News.stays N8 k9
    clear F8 N8
    k_steps
    refine KBy.add_bytes ?_ fun t8 k8 => ?_
    · split <;> simp <;> omega
    k_steps
    have Fz := (show Fr (lowH s.heap) s.heap.objs.size _ _ by assumption)
    have Nz := (show News (lowH s.heap) s.heap.objs.size _ _ by assumption)
    have hv : (if ts.enc.toArray.size < 56 then #[(192 + ts.enc.toArray.size).toUInt8] else #[(192 + 56).toUInt8, ts.enc.toArray.size.toUInt8]) ++ ts.enc.toArray = (RT.node ts).enc.toArray := by
      rw [List.size_toArray]
      show _ = (rHead ts.enc.length 192 ++ ts.enc).toArray
      unfold rHead
      split <;> simp
    rw [hv]
    have hfull : Filled T1 posE s.heap → q1 = p1 := fun ⟨p, a, b, c⟩ => by
      rw [t1] at a
      have e : p1 = p := by injection (Option.some.inj a) with _ _ h3; injection h3
      subst e
      have := hM.full ⟨p1, up _ _ hT1.1, b, c⟩ T1 _ (up _ _ hT1.1)
      have e1' : h6.get? T1 = some (tabO p1) := this
      rw [e1] at e1'
      injection (Option.some.inj e1') with _ _ h3; injection h3
    have kz : ∀ b o, b ≠ T1 → s.heap.get? b = some o → ‹Heap›.get? b = some o := fun b o hb e => by
      by_cases hb2 : b = T2
      · subst hb2; rw [t2] at e; cases e; exact (Nz _ (.tail _ (.head _))).1
      · exact Fz.keep b o (low_get hb hb2 e)
    refine hQ _ _ ⟨kz, fun hf b o e => ?_, fun _ => ⟨⟨q1, (Nz _ (.head _)).1, j1⟩, p2, (Nz _ (.tail _ (.head _))).1, k2⟩, fun i x e => ?_, fun hb => hU.gens.2 (hM.bare hb), hU.drawn.trans hM.drawn, hU.os.trans hM.os⟩
    · by_cases hb : b = T1
      · subst hb; rw [t1] at e; cases e; have := (Nz _ (.head _)).1; rw [hfull hf] at this; exact this
      · exact kz b o hb e
    · exact hU.gens.1 i (Nat.ne_of_lt (Array.getElem?_eq_some_iff.mp e).1) x (hM.gens i x e)
theorem enc_of_leaf (bs : List UInt8) (h : RT.ok (.leaf bs)) : EncSpec (.leaf bs) := by
  intro w A s Q E v hv ok r hQ
  obtain ⟨t, rfl⟩ := hv
  exact enc_leaf bs h t ok (r.less (by omega) (by omega)) fun h' tk t k => hQ _ _ (.quiet k)
mutual
theorem enc_all : ∀ t : RT, t.ok → EncSpec t
  | .leaf bs, h => enc_of_leaf bs h
  | .node us, h => enc_of_node us h (enc_list us h.1)
theorem enc_list : ∀ us : RTs, us.ok → ∀ t ∈ us.toList, t.deep ≤ us.deep ∧ EncSpec t
  | .nil, _, _, h => nomatch h
  | .cons t us, h, t', hm => by
    have ht : EncSpec t := @enc_all t h.1
    have hs := enc_list us h.2
    rcases List.mem_cons.mp hm with e | hm
    · rw [e]; exact ⟨Nat.le_max_left _ _, ht⟩
    · obtain ⟨b, c⟩ := hs t' hm
      exact ⟨Nat.le_trans b (Nat.le_max_right _ _), c⟩
end

end Mine
end
section -- W18
open PySem PySem.W PySem.Calls PyProof.Rows
set_option maxRecDepth 100000
set_option maxHeartbeats 4000000
namespace Mine
theorem fillOk_W18 : (PySem.Challenge.rw_vn0025_01 = PySem.Challenge.rw_vn0025_01 ∧ fragK = fragK) := fillOk_W1
local macro_rules | `(tactic| walk_at "MINE enter") => `(tactic| (
  k_dflt ((case' ok => assumption); (case' ho => k_is); (case' hcd => k_is); (case' hroom => ((try dsimp only); omega)); (case' hb => conv => lhs; whnf); (case' hs => conv => lhs; whnf); (case' hbind => first | exact BindsTo.of_eq rfl | exact binds_K (Ok.frag (by assumption)) rfl (by k_is) rfl rfl rfl); (case' hloc => exact locs rfl); (case' hco => exact rfl); (case' hgen => exact rfl); (case' hk => exact rfl); (case' hcell => decide))))
local macro_rules | `(tactic| walk_at "MINE centerC") => `(tactic| (
  k_dflt ((case' ok => assumption); (case' ho => k_is); (case' hcd => k_is); (case' hroom => ((try dsimp only); omega)); (case' hb => conv => lhs; whnf); (case' hs => conv => lhs; whnf); (case' hbind => first | exact BindsTo.of_eq rfl | exact binds_K (Ok.frag (by assumption)) rfl (by k_is) rfl rfl rfl); (case' hloc => exact kindsX rfl); (case' hco => exact rfl); (case' hgen => exact rfl); (case' hk => exact rfl); (case' hcell => decide))))
local macro_rules | `(tactic| walk_at "exec For Name Name cons nil") => `(tactic| refine unhold ?_)
local macro_rules | `(tactic| walk_at "exec For Name Call cons nil") => `(tactic| refine unhold ?_)
local macro_rules | `(tactic| walk_at "pyIter ref") => `(tactic| ((with_reducible show wpAny _ _ (pyIter (Value.ref _)) (fun it s₂ => LoopAtV _ _ _ _ _ _ _ _ _ it s₂) _ _); refine unhold ?_))
local macro_rules | `(tactic| walk_at "eval ListComp") => `(tactic| refine unhold ?_)
local macro_rules | `(tactic| walk_at "exec Assign cons ListComp") => `(tactic| refine unhold ?_)
local macro_rules | `(tactic| walk_at "exec While Compare cons nil") => `(tactic| refine unhold ?_)
local macro_rules | `(tactic| walk_at "eval Name") => `(tactic| (k_here; (with_reducible show wpAny _ _ (eval (Expr.Name _ _) (compEnvC _ _ _ _)) _ _ _); k_dflt (first
  | refine LCgL.ld_own (by k_asm) (by k_mem) (by assumption) (by assumption) ?_
  | refine my_global (by k_asm) (by k_asm) (by k_asm) (by k_is) ?_
  | refine my_built (by k_asm) (by k_asm) (by k_asm) (by k_is) (by boot_by_name) (by decide) ?_)))
local macro_rules | `(tactic| walk_at "binaryOp Add ref ref") => `(tactic| (k_here; (with_reducible show wpAny _ _ (binaryOp _ (Value.ref _) (Value.ref _)) _ _ _); k_dflt (refine' kmk_add_ints ?F ?N ?a ?b ?i ?j ?_ ?z; (case F => k_asm); (case N => k_asm); (case a => kmk_list); (case b => kmk_list); (case i => l_ints); (case j => l_ints); (case z => ((simp only [sizeLine_eq, List.length_append, List.length_map, List.length_cons, List.length_nil, Array.length_toList, KBw.ints_length]); omega))); intro D' ws' h' F' N' l1 hI'; (try k_lt l1); (try k_sweep)))
local macro_rules | `(tactic| walk_at "binaryOp Add str str") => `(tactic| (k_here; (refine my_add_str ?_ ?kz; (case kz => ((simp only [PySem.Str.length_append]; (try simp only [my_len1]); omega)))); intro _ _))
local macro_rules | `(tactic| walk_at "call builtin:list.append") => `(tactic| (k_here; (with_reducible show wpAny _ _ (call (Value.builtin _) [Value.ref _, _]) _ _ _); k_dflt (refine' append_K ?k1 ?k2 ?k3 ?_ ?z; (case k1 => k_asm); (case k2 => k_asm); (case k3 => k_upd); (case z => (simp only [List.size_toArray, sizeLine_eq]; omega)); k_whole); intro h' F' N'; (try k_sweep)))
-- @HEAD2
variable {w : World} {A : Around} {s : Shared} {Q E : Value → Shared → Prop}
/-- behind a call that makes new things and may fill the two tables -/
structure Gr (s s' : Shared) : Prop where
  heap : Kept s.heap s'.heap
  tabs : TabsOk s.heap → TabsOk s'.heap
  gens : ∀ (i : Nat) x, s.gens[i]? = some x → s'.gens[i]? = some x
  bare : AllBare s.gens → AllBare s'.gens
  os : s'.os = s.os
theorem Gr.ofE {pos : Pos} {s s' : Shared} (g : GrewE T1 pos s s') : Gr s s' := ⟨fun b o h1 _ e => g.heap b o h1 e, g.tabs, g.gens, g.bare, g.os⟩
theorem Gr.ofE2 {pos : Pos} {s s' : Shared} (g : GrewE T2 pos s s') : Gr s s' := ⟨fun b o _ h2 e => g.heap b o h2 e, g.tabs, g.gens, g.bare, g.os⟩
theorem Gr.refl (s : Shared) : Gr s s := ⟨Kept.refl _, id, fun _ _ e => e, id, rfl⟩
theorem Gr.trans {s s' s'' : Shared} (a : Gr s s') (b : Gr s' s'') : Gr s s'' := ⟨a.heap.trans b.heap, fun x => b.tabs (a.tabs x), fun i x e => b.gens i x (a.gens i x e), fun x => b.bare (a.bare x), b.os.trans a.os⟩
theorem Gr.quiet {s : Shared} {h' : Heap} {tk : Nat} (k : ∀ b o, s.heap.get? b = some o → h'.get? b = some o) : Gr s { s with heap := h', toks := tk } := Gr.ofE (pos := posE) (.quiet k)
theorem fr_gr {h₀ : Heap} {s s' : Shared} {L : Addr} {m : Str → Option Value} {news : List (Addr × Obj)} {p1 p2 : Array Value} (F : Fr h₀ L s.heap m) (N : News h₀ L s.heap news) (m1 : (T1, tabO p1) ∈ news) (m2 : (T2, tabO p2) ∈ news) (g : Gr s s') : Fr h₀ L s'.heap m := by
  have n1 := (N _ m1).2
  have n2 := (N _ m2).2
  obtain ⟨o, es, ep, ho, r⟩ := F.ns
  exact ⟨⟨o, es, ep, g.heap _ _ (fun q => n1.1 q.symm) (fun q => n2.1 q.symm) ho, r⟩, fun b o e => g.heap b o (fun q => by subst q; rw [n1.2] at e; cases e) (fun q => by subst q; rw [n2.2] at e; cases e) (F.keep b o e), F.above⟩
/-- the ledger behind it: the two tables anew, all else as it stood -/
theorem news_gr {h₀ : Heap} {s s' : Shared} {L : Addr} {news : List (Addr × Obj)} {p1 p2 : Array Value} (N : News h₀ L s.heap (tabsN p1 p2 ++ news)) (hc : ∀ p ∈ news, p.1 ≠ T1 ∧ p.1 ≠ T2) (k1 : TriplesOk p1.toList) (k2 : TriplesOk p2.toList) (g : Gr s s') :
    ∃ q1 q2, TriplesOk q1.toList ∧ TriplesOk q2.toList ∧ News h₀ L s'.heap (tabsN q1 q2 ++ news) := by
  have a1 := N (T1, tabO p1) (.head _)
  have a2 := N (T2, tabO p2) (.tail _ (.head _))
  obtain ⟨⟨q1, e1, j1⟩, ⟨q2, e2, j2⟩⟩ := g.tabs ⟨⟨p1, a1.1, k1⟩, p2, a2.1, k2⟩
  refine ⟨q1, q2, j1, j2, fun p hp => ?_⟩
  rcases List.mem_cons.mp hp with rfl | hp
  · exact ⟨e1, a1.2⟩
  · rcases List.mem_cons.mp hp with rfl | hp
    · exact ⟨e2, a2.2⟩
    · have z := N p (.tail _ (.tail _ hp))
      exact ⟨g.heap _ _ (hc p hp).1 (hc p hp).2 z.1, z.2⟩
/-- what a def's end says of its caller's state -/
theorem gr_end {s : Shared} {h' : Heap} {gs : Array GenState} {dr : Drawn} {tk : Nat} {os : OsState} {L : Addr} {m : Str → Option Value} {news : List (Addr × Obj)} {p1 p2 : Array Value} (F : Fr (lowH s.heap) L h' m) (N : News (lowH s.heap) L h' news)
    (m1 : (T1, tabO p1) ∈ news) (m2 : (T2, tabO p2) ∈ news) (k1 : TriplesOk p1.toList) (k2 : TriplesOk p2.toList) (g : ∀ (i : Nat) x, s.gens[i]? = some x → gs[i]? = some x) (b : AllBare s.gens → AllBare gs) (o : os = s.os) : Gr s ⟨h', gs, dr, tk, os⟩ :=
  ⟨fun c x h1 h2 e => F.keep c x (low_get h1 h2 e), fun _ => ⟨⟨p1, (N _ m1).1, k1⟩, p2, (N _ m2).1, k2⟩, g, b, o⟩
theorem encode_spec (t : RT) (hok : t.ok) (v : Value) (hv : RAt (lowH s.heap) t v) (ok : Ok w s.heap) (r : Room A (2 * t.deep + 4) (11 * t.deep + 15))
   (hQ : ∀ s' tok, Gr s s' → Q (.bytes t.enc.toArray tok) s') : wpAny (model PG w) A (call (.ref 478) [v] [(.ofString "infer_serializer", .bool false)]) Q E s := by
  have := fillOk_W18; clear this
  w_on
  obtain ⟨hdl, dep, frs, gds, un⟩ := A
  obtain ⟨hd, hu, hh⟩ := r
  dsimp only at hd hu hh; subst hh
  refine' enter_g [(.ofString "obj", v), (.ofString "sedes", .none), (.ofString "infer_serializer", .bool false), (.ofString "cache", .bool true)] ?ok ?ho ?hcd ?hroom ?hb ?hs ?hbind ?hloc ?hco ?hgen ?hk ?hcell ?_
  walk_at "MINE enter"
  intro h₁ mg mb p1 p2 t1 t2 X T k1 k2 F N
  k_steps
  have F5 := (show Fr (lowH s.heap) s.heap.objs.size _ _ by assumption)
  have N5 := (show News (lowH s.heap) s.heap.objs.size _ _ by assumption)
  have ok5 := ok_here X T F5 N5 (.head _) (.tail _ (.head _)) k1 k2
  have lk : ∀ b o, (lowH s.heap).get? b = some o → (lowH _).get? b = some o := fun b o e => low_get (of_low e).2.1 (of_low e).2.2 (F5.keep b o e)
  refine enc_all t hok v (RAt.keeps lk t v hv) ok5 (roomOf (by omega) (by omega)) fun s' tok g => ?_
  obtain ⟨h6, g6, d6, tk6, os6⟩ := s'
  have G := Gr.ofE g
  have F6 := fr_gr F5 N5 (.head _) (.tail _ (.head _)) G
  obtain ⟨q1, q2, j1, j2, N6⟩ := news_gr (news := []) N5 (fun _ h => nomatch h) k1 k2 G
  dsimp only [List.append_nil] at F6 N6
  clear F5 N5
  k_steps
  exact hQ _ _ (gr_end (show Fr (lowH s.heap) s.heap.objs.size _ _ by assumption) (show News (lowH s.heap) s.heap.objs.size _ _ by assumption) (.head _) (.tail _ (.head _)) j1 j2 G.gens G.bare G.os)

end Mine
end
section -- W19
open PySem PySem.W PySem.Calls PyProof.Rows
set_option maxRecDepth 100000
set_option maxHeartbeats 4000000
namespace Mine
theorem fillOk_W19 : (PySem.Challenge.rw_vn0025_01 = PySem.Challenge.rw_vn0025_01 ∧ fragK = fragK) := fillOk_W1
local macro_rules | `(tactic| walk_at "MINE enter") => `(tactic| (
  k_dflt ((case' ok => assumption); (case' ho => k_is); (case' hcd => k_is); (case' hroom => ((try dsimp only); omega)); (case' hb => conv => lhs; whnf); (case' hs => conv => lhs; whnf); (case' hbind => first | exact BindsTo.of_eq rfl | exact binds_K (Ok.frag (by assumption)) rfl (by k_is) rfl rfl rfl); (case' hloc => exact locs rfl); (case' hco => exact rfl); (case' hgen => exact rfl); (case' hk => exact rfl); (case' hcell => decide))))
local macro_rules | `(tactic| walk_at "MINE centerC") => `(tactic| (
  k_dflt ((case' ok => assumption); (case' ho => k_is); (case' hcd => k_is); (case' hroom => ((try dsimp only); omega)); (case' hb => conv => lhs; whnf); (case' hs => conv => lhs; whnf); (case' hbind => first | exact BindsTo.of_eq rfl | exact binds_K (Ok.frag (by assumption)) rfl (by k_is) rfl rfl rfl); (case' hloc => exact kindsX rfl); (case' hco => exact rfl); (case' hgen => exact rfl); (case' hk => exact rfl); (case' hcell => decide))))
local macro_rules | `(tactic| walk_at "exec For Name Name cons nil") => `(tactic| refine unhold ?_)
local macro_rules | `(tactic| walk_at "exec For Name Call cons nil") => `(tactic| refine unhold ?_)
local macro_rules | `(tactic| walk_at "pyIter ref") => `(tactic| ((with_reducible show wpAny _ _ (pyIter (Value.ref _)) (fun it s₂ => LoopAtV _ _ _ _ _ _ _ _ _ it s₂) _ _); refine unhold ?_))
local macro_rules | `(tactic| walk_at "eval ListComp") => `(tactic| refine unhold ?_)
local macro_rules | `(tactic| walk_at "exec Assign cons ListComp") => `(tactic| refine unhold ?_)
local macro_rules | `(tactic| walk_at "exec While Compare cons nil") => `(tactic| refine unhold ?_)
local macro_rules | `(tactic| walk_at "eval Name") => `(tactic| (k_here; (with_reducible show wpAny _ _ (eval (Expr.Name _ _) (compEnvC _ _ _ _)) _ _ _); k_dflt (first
  | refine LCgL.ld_own (by k_asm) (by k_mem) (by assumption) (by assumption) ?_
  | refine my_global (by k_asm) (by k_asm) (by k_asm) (by k_is) ?_
  | refine my_built (by k_asm) (by k_asm) (by k_asm) (by k_is) (by boot_by_name) (by decide) ?_)))
local macro_rules | `(tactic| walk_at "binaryOp Add ref ref") => `(tactic| (k_here; (with_reducible show wpAny _ _ (binaryOp _ (Value.ref _) (Value.ref _)) _ _ _); k_dflt (refine' kmk_add_ints ?F ?N ?a ?b ?i ?j ?_ ?z; (case F => k_asm); (case N => k_asm); (case a => kmk_list); (case b => kmk_list); (case i => l_ints); (case j => l_ints); (case z => ((simp only [sizeLine_eq, List.length_append, List.length_map, List.length_cons, List.length_nil, Array.length_toList, KBw.ints_length]); omega))); intro D' ws' h' F' N' l1 hI'; (try k_lt l1); (try k_sweep)))
local macro_rules | `(tactic| walk_at "binaryOp Add str str") => `(tactic| (k_here; (refine my_add_str ?_ ?kz; (case kz => ((simp only [PySem.Str.length_append]; (try simp only [my_len1]); omega)))); intro _ _))
local macro_rules | `(tactic| walk_at "call builtin:list.append") => `(tactic| (k_here; (with_reducible show wpAny _ _ (call (Value.builtin _) [Value.ref _, _]) _ _ _); k_dflt (refine' append_K ?k1 ?k2 ?k3 ?_ ?z; (case k1 => k_asm); (case k2 => k_asm); (case k3 => k_upd); (case z => (simp only [List.size_toArray, sizeLine_eq]; omega)); k_whole); intro h' F' N'; (try k_sweep)))
-- @HEAD2
variable {w : World} {A : Around} {s : Shared} {Q E : Value → Shared → Prop}
theorem code_D {h : Heap} {ps : Array Value} (X : ∀ b o, (fragK w.params).lookup b = some o → h.get? b = some o) (e : h.get? T2 = some (tabO ps)) (k : TriplesOk ps.toList) : h.IsCode 82 T2 ps ∧ h.TableAt 82 T2 ps :=
  ⟨⟨_, _, _, _, _, _, _, _, _, _, X 82 _ rfl, rfl, rfl, rfl, rfl, rfl, rfl, e, rfl, k, by decide⟩, ⟨_, _, X 82 _ rfl, rfl, rfl, rfl⟩, e⟩
theorem gr_used {pos : Pos} {o : Obj} {s₁ s₅ s' : Shared} {tk : Nat} (hM : MadeG T2 pos { s₁ with heap := s₁.heap.push o, toks := tk } s₅) (hU : UsedG s₁.heap.objs.size s₁.gens.size s₅ s') : Gr s₁ s' := by
  have up : ∀ b o', s₁.heap.get? b = some o' → (s₁.heap.push o).get? b = some o' := fun b o' e => Heap.get?_push_of_some _ e
  refine ⟨fun b o' h1 h2 e => hU.heap b o' (Heap.lt_size e) (hM.heap b o' h2 (up b o' e)), fun ⟨⟨p1, e1, k1⟩, p2, e2, k2⟩ => ?_, fun i x e => hU.gens.1 i (Nat.ne_of_lt (Array.getElem?_eq_some_iff.mp e).1) x (hM.gens i x e), fun b => hU.gens.2 (hM.bare b), hU.os.trans hM.os⟩
  obtain ⟨q, a, b, _⟩ := hM.filled
  exact ⟨⟨p1, hU.heap _ _ (Heap.lt_size e1) (hM.heap _ _ (by decide) (up _ _ e1)), k1⟩, q, hU.heap _ _ (Heap.lt_size e2) a, b⟩
theorem gen_str {env : Env} {el : Expr} {xn : Str} {scope : Scope} {cl : List (Str × Addr)} {pos : Pos} {Q : Value → Shared → Prop} {x : Str} {t : Tok} {h₀ : Heap} {L : Addr} {m mg mb : Str → Option Value} {news : List (Addr × Obj)} {p1 p2 : Array Value} (Fi : Nat → Value → Prop)
    (ha : x.cps.all (· < 128) = true) (hg : env.globals = mainGlobals) (X : (fragK w.params).In h₀) (T : TopRead viewP (looseW viewP looseV) mg mb h₀) (F : Fr h₀ L s.heap m) (N : News h₀ L s.heap (tabsN p1 p2 ++ news)) (hc : ∀ p ∈ news, p.1 ≠ T1 ∧ p.1 ≠ T2) (k2 : TriplesOk p2.toList)
    (elt : ∀ (code : Value) (C : Addr) (A' : Around) E' i c u (t : Shared) m₂, A'.handled = none → A'.depth ≤ A.depth + 1 → A'.units ≤ A.units + 8 → x.cps[i]? = some c → m₂ xn = some (.str ⟨#[c]⟩ u) → Fr h₀ C t.heap m₂ →
       wpAny (model PG w) A' (eval el (genEnv scope cl C code builtinsNs env)) (fun y t' => Fi i y ∧ GrewS t t') E' t)
    (done : ∀ a s₅ q2, GenG PG w A s.heap.objs.size s.gens.size a x.cps.size Fi s₅ → (∀ s', UsedG s.heap.objs.size s.gens.size s₅ s' → Gr s s') → Fr h₀ L s₅.heap m → TriplesOk q2.toList → News h₀ L s₅.heap (tabsN p1 q2 ++ news) → Q (.ref a) s₅) :
    wpAny (model PG w) A (pyIter (.str x t)) (GxPost PG w A env el xn scope cl pos 82 T2 Q) E s := by
  have hT1 := N (T1, tabO p1) (.head _)
  have hT2 := N (T2, tabO p2) (.tail _ (.head _))
  have hLs : L < s.heap.objs.size := F.ns.lt
  have hl2 : T2 < s.heap.objs.size := Heap.lt_size hT2.1
  refine wpAny_pyIter_ascii ha ?_
  unfold GxPost
  have up : ∀ {o' : Obj} b o, s.heap.get? b = some o → (s.heap.push o').get? b = some o := fun b o e => Heap.get?_push_of_some _ e
  obtain ⟨c1, c2⟩ := code_D (fun b o e => up _ _ (F.keep _ _ (X _ _ e))) (up _ _ hT2.1) k2
  refine ⟨T.nolimit.keeps (fun b o e => up _ _ (F.keep _ _ e)), ⟨p2, c1, c2⟩, ⟨mg, 4, _, hg ▸ bmod_E (X.keeps fun b o e => up _ _ (F.keep _ _ e)) (T.keeps fun b o e => up _ _ (F.keep _ _ e))⟩, s.heap.objs.size, s.heap.objs.size, [s.heap.objs.size], [s.heap.objs.size], x.cps.size,
    SignAt x, _, Fi, rfl, fun A' hA => Walks.strAscii hA _ x t, ⟨_, Heap.get?_push_size _ rfl, rfl, rfl⟩, ?_, ?_, ?_, ?_, ?_, ?_, ?_⟩
  · intro b hb
    rw [List.mem_singleton.mp hb]
    show _ < (s.heap.push _).objs.size
    rw [Heap.size_push]; exact Nat.lt_succ_self _
  · intro hm; exact Nat.ne_of_lt hl2 (List.mem_singleton.mp hm)
  · intro b hb; rw [List.mem_singleton.mp hb]; exact Nat.le_refl _
  · exact Nat.lt_trans (show cStatics < T2 by decide) hl2
  · show s.heap.objs.size ≤ (s.heap.push _).objs.size
    rw [Heap.size_push]; exact Nat.le_succ _
  · intro code C A' E' i v t m₂ hA hD hU hP hn hm hC hfill hkeep
    obtain ⟨c, u, hc, rfl⟩ := hP
    have notI : ∀ b o, s.heap.get? b = some o → b ∉ [s.heap.objs.size] := fun b o e hm => Nat.ne_of_lt (Heap.lt_size e) (List.mem_singleton.mp hm)
    refine elt code C A' E' i c u t m₂ hA hD hU hc hm ⟨hn, fun b o e => hkeep b o (fun q => by subst q; rw [hT2.2.2] at e; cases e) (notI b o (F.keep b o e)) (up _ _ (F.keep b o e)), Nat.le_trans F.above (Nat.le_trans (Nat.le_of_lt hLs) (Nat.le_trans (by show s.heap.objs.size ≤ (s.heap.push _).objs.size; rw [Heap.size_push]; exact Nat.le_succ _) hC))⟩
  · intro a s₅ hG hM hK5
    have kp : ∀ b o, b ≠ T2 → s.heap.get? b = some o → s₅.heap.get? b = some o := fun b o hb e => hM.heap b o hb (up _ _ e)
    obtain ⟨q2, e2, j2, _⟩ := hM.filled
    refine done a s₅ q2 hG (fun s' hU => gr_used hM hU) ⟨F.ns.at' fun o e => kp _ _ (fun q => hT2.2.1 q.symm) e, fun b o e => kp b o (fun q => by subst q; rw [hT2.2.2] at e; cases e) (F.keep b o e), F.above⟩ j2 ?_
    intro p hp
    rcases List.mem_cons.mp hp with rfl | hp
    · exact ⟨kp T1 _ (by decide) hT1.1, hT1.2⟩
    · rcases List.mem_cons.mp hp with rfl | hp
      · exact ⟨e2, hT2.2⟩
      · exact ⟨kp _ _ (hc p hp).2 (N p (.tail _ (.tail _ hp))).1, (N p (.tail _ (.tail _ hp))).2⟩

end Mine
end
section -- W20
open PySem PySem.W PySem.Calls PyProof.Rows
set_option maxRecDepth 100000
set_option maxHeartbeats 4000000
namespace Mine
theorem fillOk_W20 : (PySem.Challenge.rw_vn0025_01 = PySem.Challenge.rw_vn0025_01 ∧ fragK = fragK) := fillOk_W1
local macro_rules | `(tactic| walk_at "MINE enter") => `(tactic| (
  k_dflt ((case' ok => assumption); (case' ho => k_is); (case' hcd => k_is); (case' hroom => ((try dsimp only); omega)); (case' hb => conv => lhs; whnf); (case' hs => conv => lhs; whnf); (case' hbind => first | exact BindsTo.of_eq rfl | exact binds_K (Ok.frag (by assumption)) rfl (by k_is) rfl rfl rfl); (case' hloc => exact locs rfl); (case' hco => exact rfl); (case' hgen => exact rfl); (case' hk => exact rfl); (case' hcell => decide))))
local macro_rules | `(tactic| walk_at "MINE centerC") => `(tactic| (
  k_dflt ((case' ok => assumption); (case' ho => k_is); (case' hcd => k_is); (case' hroom => ((try dsimp only); omega)); (case' hb => conv => lhs; whnf); (case' hs => conv => lhs; whnf); (case' hbind => first | exact BindsTo.of_eq rfl | exact binds_K (Ok.frag (by assumption)) rfl (by k_is) rfl rfl rfl); (case' hloc => exact kindsX rfl); (case' hco => exact rfl); (case' hgen => exact rfl); (case' hk => exact rfl); (case' hcell => decide))))
local macro_rules | `(tactic| walk_at "exec For Name Name cons nil") => `(tactic| refine unhold ?_)
local macro_rules | `(tactic| walk_at "exec For Name Call cons nil") => `(tactic| refine unhold ?_)
local macro_rules | `(tactic| walk_at "pyIter ref") => `(tactic| ((with_reducible show wpAny _ _ (pyIter (Value.ref _)) (fun it s₂ => LoopAtV _ _ _ _ _ _ _ _ _ it s₂) _ _); refine unhold ?_))
local macro_rules | `(tactic| walk_at "eval ListComp") => `(tactic| refine unhold ?_)
local macro_rules | `(tactic| walk_at "exec Assign cons ListComp") => `(tactic| refine unhold ?_)
local macro_rules | `(tactic| walk_at "exec While Compare cons nil") => `(tactic| refine unhold ?_)
local macro_rules | `(tactic| walk_at "eval Name") => `(tactic| (k_here; (with_reducible show wpAny _ _ (eval (Expr.Name _ _) (compEnvC _ _ _ _)) _ _ _); k_dflt (first
  | refine LCgL.ld_own (by k_asm) (by k_mem) (by assumption) (by assumption) ?_
  | refine my_global (by k_asm) (by k_asm) (by k_asm) (by k_is) ?_
  | refine my_built (by k_asm) (by k_asm) (by k_asm) (by k_is) (by boot_by_name) (by decide) ?_)))
local macro_rules | `(tactic| walk_at "binaryOp Add ref ref") => `(tactic| (k_here; (with_reducible show wpAny _ _ (binaryOp _ (Value.ref _) (Value.ref _)) _ _ _); k_dflt (refine' kmk_add_ints ?F ?N ?a ?b ?i ?j ?_ ?z; (case F => k_asm); (case N => k_asm); (case a => kmk_list); (case b => kmk_list); (case i => l_ints); (case j => l_ints); (case z => ((simp only [sizeLine_eq, List.length_append, List.length_map, List.length_cons, List.length_nil, Array.length_toList, KBw.ints_length]); omega))); intro D' ws' h' F' N' l1 hI'; (try k_lt l1); (try k_sweep)))
local macro_rules | `(tactic| walk_at "binaryOp Add str str") => `(tactic| (k_here; (refine my_add_str ?_ ?kz; (case kz => ((simp only [PySem.Str.length_append]; (try simp only [my_len1]); omega)))); intro _ _))
local macro_rules | `(tactic| walk_at "call builtin:list.append") => `(tactic| (k_here; (with_reducible show wpAny _ _ (call (Value.builtin _) [Value.ref _, _]) _ _ _); k_dflt (refine' append_K ?k1 ?k2 ?k3 ?_ ?z; (case k1 => k_asm); (case k2 => k_asm); (case k3 => k_upd); (case z => (simp only [List.size_toArray, sizeLine_eq]; omega)); k_whole); intro h' F' N'; (try k_sweep)))
local macro_rules | `(tactic| walk_at "eval Name") => `(tactic| (k_here; (with_reducible show wpAny _ _ (eval (Expr.Name _ _) (genEnv _ _ _ _ _ _)) _ _ _); k_dflt (first
  | refine ldG (Fr.ns (by assumption)) (by assumption) ?_
  | refine gen_global (by k_asm) (by k_asm) (by k_asm) (by k_is) ?_
  | refine gen_built (by k_asm) (by k_asm) (by k_asm) (by k_is) (by boot_by_name) (by decide) ?_)))
theorem ites_ne {a b : PySem.Str} {P Q : Prop} (h : ¬ a = b) (p : P) : if (a != b) = true then P else Q := by rw [if_pos (by simpa using h)]; exact p
theorem ites_eq {a b : PySem.Str} {P Q : Prop} (h : a = b) (q : Q) : if (a != b) = true then P else Q := by rw [if_neg (by simpa using h)]; exact q
local macro_rules | `(tactic| walk_at "ite") => `(tactic| (k_here; with_reducible (first | refine ites_ne (by assumption) ?_ | refine ites_eq (by assumption) ?_ | refine ites_eq rfl ?_); walk_say "PRUNED mine"))
-- @HEAD2
-- @HEAD3
variable {w : World} {A : Around} {s : Shared} {Q E : Value → Shared → Prop}
theorem ascii_of {x : Str} (hx : ∀ c ∈ x.cps.toList, 33 ≤ c ∧ c ≤ 126) : x.cps.all (· < 128) = true := by
  rw [Array.all_eq_true']
  intro c hc
  have := hx c (by simpa using hc)
  simp; omega
theorem csAt_all : ∀ n : Fin 32, csAt (n.val : Int) < 128 ∧ 33 ≤ csAt (n.val : Int) ∧ csAt (n.val : Int) ≠ 49 ∧ ¬ (65 ≤ csAt (n.val : Int) ∧ csAt (n.val : Int) ≤ 90) ∧ csAt (n.val : Int) ≤ 126 ∧ Txt.find csS ⟨#[csAt (n.val : Int)]⟩ = (n.val : Int) ∧ Txt.contains csS ⟨#[csAt (n.val : Int)]⟩ = true := by decide +kernel
theorem csAt_facts {n : Int} (h0 : 0 ≤ n) (h1 : n < 32) : csAt n < 128 ∧ 33 ≤ csAt n ∧ csAt n ≠ 49 ∧ ¬ (65 ≤ csAt n ∧ csAt n ≤ 90) ∧ csAt n ≤ 126 ∧ Txt.find csS ⟨#[csAt n]⟩ = n ∧ Txt.contains csS ⟨#[csAt n]⟩ = true := by
  have := csAt_all ⟨n.toNat, by omega⟩
  have e : ((n.toNat : Nat) : Int) = n := by omega
  simp only [e] at this
  exact this
theorem csAt_lt {n : Int} (h0 : 0 ≤ n) (h1 : n < 32) : csAt n < 128 := (csAt_facts h0 h1).1
theorem none_low {s : Heap} {L : Addr} {h : Heap} {news : List (Addr × Obj)} {l : Addr} {o : Obj} {p1 p2 : Array Value} (N : News (lowH s) L h news) (ml : (l, o) ∈ news) (m1 : (T1, tabO p1) ∈ news) (m2 : (T2, tabO p2) ∈ news) (hc : o.cls ≠ .none) : s.get? l = none := by
  have a := N _ ml
  have b := N _ m1
  have c := N _ m2
  have n1 : l ≠ T1 := fun q => by
    have := a.1; dsimp only at this; rw [q, b.1] at this; exact hc (by rw [← Option.some.inj this])
  have n2 : l ≠ T2 := fun q => by
    have := a.1; dsimp only at this; rw [q, c.1] at this; exact hc (by rw [← Option.some.inj this])
  cases e : s.get? l with
  | none => rfl
  | some o' => have := low_get n1 n2 e; rw [a.2.2] at this; cases this
structure Go : Prop where
local macro_rules | `(tactic| walk_at "isTrue BoolOp") => `(tactic| ((fail_if_success (with_reducible rename Go => gg9)); (with_reducible show wpAny _ _ (isTrue (Expr.BoolOp BoolOp.And _ _) _ _) _ _ _); refine unhold ?_))
theorem my_lower {prog : Program} {x y : Str} {t : Tok} (e : Txt.lower x = y) (hl : x.length ≤ 1000) (h : ∀ t' k, Q (.str y t') { s with toks := k }) : wpAny (model prog w) A (call (.builtin "str.lower") [.str x t]) Q E s :=
  SCL.lower (by omega) fun _ => by rw [e]; exact h _ _
theorem my_rfind {prog : Program} {x z : Str} {t u : Tok} {i : Int} (e : Txt.rfind x z = i) (h : ∀ t' k, Q (.int i t') { s with toks := k }) : wpAny (model prog w) A (call (.builtin "str.rfind") [.str x t, .str z u]) Q E s := SC.rfind (by rw [e]; exact h _ _)
local macro_rules | `(tactic| walk_at "call builtin:str.lower") => `(tactic| (k_here; refine my_lower (by assumption) (by omega) ?_; intro _ _))
local macro_rules | `(tactic| walk_at "call builtin:str.rfind") => `(tactic| (k_here; refine my_rfind (by assumption) ?_; intro _ _))
local macro_rules | `(tactic| walk_at "call builtin:str.upper") => `(tactic| (k_here; refine SCL.upper (by omega) ?_; intro _))
def mixB (x y : Str) : Bool := (y != x) && (Txt.upper x != x)
theorem dec_spec (x y h tl : Str) (ns : List Int) (tx : Tok) (hx : ∀ c ∈ x.cps.toList, 33 ≤ c ∧ c ≤ 126) (hsz : x.length ≤ 200) (hlow : Txt.lower x = y) (hpos : Txt.rfind y (PySem.Str.ofString "1") = (h.length : Int))
   (hs1 : Txt.slice y (some ((h.length : Int) + 1)) none = tl) (hs2 : Txt.slice y none (some (h.length : Int)) = h) (htl : tl.cps = (ns.map csAt).toArray) (hns : ∀ n ∈ ns, 0 ≤ n ∧ n < 32)
   (hha : h.cps.all (· < 128) = true) (hh1 : 1 ≤ h.length) (hh2 : h.length ≤ 80) (hyl : y.length = h.length + 1 + ns.length) (hn6 : 6 ≤ ns.length) (hn7 : ns.length ≤ 150) (ok : Ok w s.heap) (r : Room A 3 15)
   (hQ1 : mixB x y = false → pmI (Mine.hx h ++ ns) = 1 → ∀ s' l th d vs n, Gr s s' → s.heap.get? l = none → s'.heap.get? l = some { cls := .type "tuple", data := .seq #[.str h th, .ref d] } → s.heap.get? d = none → s'.heap.get? d = some (W.listOf vs.toArray n) → IntsAre vs (ns.take (ns.length - 6)) → Q (.ref l) s')
   (hQ2 : ¬ (mixB x y = false ∧ pmI (Mine.hx h ++ ns) = 1) → ∀ s' l, Gr s s' → s.heap.get? l = none → s'.heap.get? l = some { cls := .type "tuple", data := .seq #[.none, .none] } → Q (.ref l) s') : wpAny (model PG w) A (call (.ref 83) [.str x tx]) Q E s := by
  have hp1 : ¬ ((h.length : Int) < 1) := by omega
  have hy9 : y.length ≤ 300 := by omega
  have hp2 : ¬ ((83 : Int) < (h.length : Int)) := by omega
  have hp3 : ¬ ((y.length : Int) < (h.length : Int) + 7) := by omega
  have := fillOk_W20; clear this
  w_on
  obtain ⟨hdl, dep, frs, gds, un⟩ := A
  obtain ⟨hd, hu, hh⟩ := r
  dsimp only at hd hu hh; subst hh
  refine' enter_g [(.ofString "bech", .str x tx)] ?ok ?ho ?hcd ?hroom ?hb ?hs ?hbind ?hloc ?hco ?hgen ?hk ?hcell ?_
  walk_at "MINE enter"
  intro h₁ mg mb p1 p2 t1 t2 X T k1 k2 F N
  k_steps
  refine genexp_G (c := 82) (P := T2) rfl (by decide) rfl rfl rfl (by decide) rfl rfl rfl (by show dep + 1 < recursionLimit; omega) ?_ (fun _ => rfl)
  k_steps
  refine gen_str (news := []) (fun _ v => v = .bool false) (ascii_of hx) rfl X T (by exact F) (by exact N) (fun _ h => nomatch h) k2 ?_ ?_
  · intro code C A' E' i c u t m₂ hA hD hU hc hm F2
    have hcx := hx c (by rw [← Array.getElem?_toList] at hc; exact List.mem_of_getElem? hc)
    obtain ⟨hdl', dep', frs', gds', un'⟩ := A'
    obtain ⟨th, tg, td, tt, tos⟩ := t
    dsimp only at hA hD hU F2
    subst hA
    have hb1 : ¬ ((c : Nat) : Int) < 33 := by omega
    clear F N
    k_steps
    · exact congrArg _ (decide_eq_false (by omega))
    · exact .quiet fun _ _ e => e
  · intro a s₅ q2 hG hU F5 j2 N5
    obtain ⟨h5, g5, d5, tk5, os5⟩ := s₅
    dsimp only at F5 N5
    rw [List.append_nil] at N5
    have hFN := And.intro trivial (And.intro F N)
    clear F N
    k_steps
    refine any_G (tr := fun _ => false) hG ?_ fun s' hu => ?_
    · rintro i v s Q E rfl hq; exact wpAny_truthy_bool hq
    have G := hU s' hu
    have F6 := fr_gr hFN.2.1 hFN.2.2 (.head _) (.tail _ (.head _)) G
    obtain ⟨q1, q2, j1, j2, N6⟩ := news_gr (news := []) hFN.2.2 (fun _ h => nomatch h) k1 k2 G
    clear hFN F5 N5 hG hU hu
    obtain ⟨h6, g6, d6, tk6, os6⟩ := s'
    dsimp only at F6 N6
    rw [List.append_nil] at N6
    have hany : ((List.range x.cps.size).any fun _ => false) = false := by simp
    rw [hany]
    k_steps
    unfold Hold
    refine wpAny_mono (Q := fun b s' => b = mixB x y ∧ ∃ h' tk', s' = ⟨h', g6, d6, tk', os6⟩ ∧ Fr (lowH s.heap) s.heap.objs.size h' (fun y => List.lookup y [(Str.ofString "bech", Value.str x tx)].reverse) ∧ News (lowH s.heap) s.heap.objs.size h' (tabsN q1 q2)) ?_ ?_ (fun _ _ e => e)
    · have go : Go := ⟨⟩
      by_cases h1 : y = x
      · k_steps
        · unfold mixB; rw [h1]; simp
        · exact F6
        · exact N6
      · by_cases h2 : Txt.upper x = x
        · k_steps
          · unfold mixB; rw [h2]; simp
          · exact F6
          · exact N6
        · k_steps
          · unfold mixB; simp [h1, h2]
          · exact F6
          · exact N6
    · rintro b s' ⟨rfl, h7, tk7, rfl, F7, N7⟩
      clear F6 N6
      cases hm : mixB x y with
      | true =>
        k_steps
        have Fz := (show Fr (lowH s.heap) s.heap.objs.size _ _ by assumption)
        have Nz := (show News (lowH s.heap) s.heap.objs.size _ _ by assumption)
        exact hQ2 (fun q => by rw [hm] at q; cases q.1) _ _ (gr_end Fz Nz (.tail _ (.head _)) (.tail _ (.tail _ (.head _))) j1 j2 G.gens G.bare G.os) (none_low Nz (.head _) (.tail _ (.head _)) (.tail _ (.tail _ (.head _))) (by simp)) (Nz _ (.head _)).1
      | false =>
        k_steps
        refine genexp_G (c := 82) (P := T2) rfl (by decide) rfl rfl rfl (by decide) rfl rfl rfl (by show dep + 1 < recursionLimit; omega) ?_ (fun _ => rfl)
        k_steps
        rw [hs1]
        have hcs : ∀ c ∈ tl.cps.toList, ∃ n, 0 ≤ n ∧ n < 32 ∧ c = csAt n := fun c hc => by
          rw [htl] at hc
          obtain ⟨n, hn, rfl⟩ := List.mem_map.mp (by simpa using hc)
          exact ⟨n, (hns n hn).1, (hns n hn).2, rfl⟩
        have hta : tl.cps.all (· < 128) = true := by
          rw [Array.all_eq_true']
          intro c hc
          obtain ⟨n, h0, h1, rfl⟩ := hcs c (by simpa using hc)
          exact decide_eq_true (csAt_lt h0 h1)
        have F8 := (show Fr (lowH s.heap) s.heap.objs.size _ _ by assumption)
        have N8 := (show News (lowH s.heap) s.heap.objs.size _ _ by assumption)
        refine gen_str (news := []) (fun _ v => v = .bool true) hta rfl X T (by exact F8) (by exact N8) (fun _ h => nomatch h) j2 ?_ ?_
        · intro code C A' E' i c u t m₂ hA hD hU hc hm F2
          obtain ⟨n, h0, h1, rfl⟩ := hcs c (by rw [← Array.getElem?_toList] at hc; exact List.mem_of_getElem? hc)
          obtain ⟨hdl', dep', frs', gds', un'⟩ := A'
          obtain ⟨th, tg, td, tt, tos⟩ := t
          dsimp only at hA hD hU F2
          subst hA
          clear F8 N8
          k_steps
          · exact congrArg _ (csAt_facts h0 h1).2.2.2.2.2.2
          · exact .refl _
        · intro a s₅ q3 hG hU F5 j3 N5
          obtain ⟨h8, g8, d8, tk8, os8⟩ := s₅
          dsimp only at F5 N5
          rw [List.append_nil] at N5
          have hFN := And.intro trivial (And.intro F8 N8)
          clear F8 N8
          k_steps
          refine all_G (tr := fun _ => true) hG ?_ fun s' hu => ?_
          · rintro i v s Q E rfl hq; exact wpAny_truthy_bool hq
          have G2 := hU s' hu
          have F9 := fr_gr hFN.2.1 hFN.2.2 (.head _) (.tail _ (.head _)) G2
          obtain ⟨r1, r2, j4, j5, N9⟩ := news_gr (news := []) hFN.2.2 (fun _ h => nomatch h) j1 j2 G2
          clear hFN F5 N5 hG hU hu
          obtain ⟨h9, g9, d9, tk9, os9⟩ := s'
          dsimp only at F9 N9
          rw [List.append_nil] at N9
          have hall : ((List.range tl.cps.size).all fun _ => true) = true := by simp
          rw [hall]
          k_steps
          unfold Hold
          refine my_compA (cl := []) (by assumption) rfl (by with_unfolding_all rfl) rfl (by decide) rfl (by decide) rfl rfl rfl ?_
          k_steps
          rw [hs1]
          have Fa := (show Fr (lowH s.heap) s.heap.objs.size _ _ by assumption)
          have Na := (show News (lowH s.heap) s.heap.objs.size _ _ by assumption)
          have htn : tl.cps.size = ns.length := by rw [htl]; simp
          refine ⟨_, _, _, fun i ys => IntsAre ys (ns.take i), src_ascii rfl hta, by rw [htn, sizeLine_eq]; omega, Fa, Na, .nil, ?_, ?_⟩
          · rintro i v I oI C oC D ys m₂ h' tk' E' hi ⟨c, u, hc, rfl⟩ hC hx F' N' hJ
            rw [htl] at hc
            obtain ⟨n, hn, rfl⟩ : ∃ n, ns[i]? = some n ∧ csAt n = c := by simpa using hc
            obtain ⟨h0, h1⟩ := hns n (List.mem_of_getElem? hn)
            have cE := InElt.start h'
            clear Fa Na
            k_steps
            refine myC F' N' (fun _ h => h) ?_
            rw [show Txt.find (Str.ofString "qpzry9x8gf2tvdw0s3jn54khce6mua7l") ⟨#[csAt n]⟩ = n from (csAt_facts h0 h1).2.2.2.2.2.1, List.take_add_one, hn]
            exact hJ.append (.cons _ _ .nil)
          · intro ys hJ D h' tk' F' N' o1
            rw [htn, List.take_length] at hJ
            clear Fa Na
            k_steps
            rw [hs2]
            have Fb := (show Fr (lowH s.heap) s.heap.objs.size _ _ by assumption)
            have Nb := (show News (lowH s.heap) s.heap.objs.size _ _ by assumption)
            refine verify_spec h _ D ys ns ⟨_, (Nb _ (.head _)).1, rfl, _, rfl⟩ hJ hha (by show h.length ≤ 100; omega) (by omega) (ok_here X T Fb Nb (.tail _ (.head _)) (.tail _ (.tail _ (.head _))) j4 j5) (roomOf (by omega) (by omega)) fun hc tkc kc => ?_
            have Fc := Fb.after kc
            have Nc := News.stays Nb kc
            clear Fb Nb
            k_steps
            · have hp : pmI (Mine.hx h ++ ns) = 1 := ‹_›
              have hI := ‹IntsAre _ (ns.take (ns.length - 6))›
              have Fz := (show Fr (lowH s.heap) s.heap.objs.size _ _ by assumption)
              have Nz := (show News (lowH s.heap) s.heap.objs.size _ _ by assumption)
              rw [hs2] at Nz
              exact hQ1 hm hp _ _ _ _ _ _ (gr_end Fz Nz (.tail _ (.tail _ (.tail _ (.head _)))) (.tail _ (.tail _ (.tail _ (.tail _ (.head _))))) j4 j5 (fun i x e => G2.gens i x (G.gens i x e)) (fun b => G2.bare (G.bare b)) (G2.os.trans G.os)) (none_low Nz (.head _) (.tail _ (.tail _ (.tail _ (.head _)))) (.tail _ (.tail _ (.tail _ (.tail _ (.head _))))) (by simp)) (Nz _ (.head _)).1
                (none_low Nz (.tail _ (.head _)) (.tail _ (.tail _ (.tail _ (.head _)))) (.tail _ (.tail _ (.tail _ (.tail _ (.head _))))) (by simp [W.listOf])) (Nz _ (.tail _ (.head _))).1 hI
            · have hp : pmI (Mine.hx h ++ ns) ≠ 1 := ‹_›
              have Fz := (show Fr (lowH s.heap) s.heap.objs.size _ _ by assumption)
              have Nz := (show News (lowH s.heap) s.heap.objs.size _ _ by assumption)
              exact hQ2 (fun q => hp q.2) _ _ (gr_end Fz Nz (.tail _ (.tail _ (.head _))) (.tail _ (.tail _ (.tail _ (.head _)))) j4 j5 (fun i x e => G2.gens i x (G.gens i x e)) (fun b => G2.bare (G.bare b)) (G2.os.trans G.os)) (none_low Nz (.head _) (.tail _ (.tail _ (.head _))) (.tail _ (.tail _ (.tail _ (.head _)))) (by simp)) (Nz _ (.head _)).1

end Mine
end
section -- W21
open PySem PySem.W PySem.Calls PyProof.Rows
set_option maxRecDepth 100000
set_option maxHeartbeats 4000000
namespace Mine
theorem fillOk_W21 : (PySem.Challenge.rw_vn0025_01 = PySem.Challenge.rw_vn0025_01 ∧ fragK = fragK) := fillOk_W1
local macro_rules | `(tactic| walk_at "MINE enter") => `(tactic| (
  k_dflt ((case' ok => assumption); (case' ho => k_is); (case' hcd => k_is); (case' hroom => ((try dsimp only); omega)); (case' hb => conv => lhs; whnf); (case' hs => conv => lhs; whnf); (case' hbind => first | exact BindsTo.of_eq rfl | exact binds_K (Ok.frag (by assumption)) rfl (by k_is) rfl rfl rfl); (case' hloc => exact locs rfl); (case' hco => exact rfl); (case' hgen => exact rfl); (case' hk => exact rfl); (case' hcell => decide))))
local macro_rules | `(tactic| walk_at "MINE centerC") => `(tactic| (
  k_dflt ((case' ok => assumption); (case' ho => k_is); (case' hcd => k_is); (case' hroom => ((try dsimp only); omega)); (case' hb => conv => lhs; whnf); (case' hs => conv => lhs; whnf); (case' hbind => first | exact BindsTo.of_eq rfl | exact binds_K (Ok.frag (by assumption)) rfl (by k_is) rfl rfl rfl); (case' hloc => exact kindsX rfl); (case' hco => exact rfl); (case' hgen => exact rfl); (case' hk => exact rfl); (case' hcell => decide))))
local macro_rules | `(tactic| walk_at "exec For Name Name cons nil") => `(tactic| refine unhold ?_)
local macro_rules | `(tactic| walk_at "exec For Name Call cons nil") => `(tactic| refine unhold ?_)
local macro_rules | `(tactic| walk_at "pyIter ref") => `(tactic| ((with_reducible show wpAny _ _ (pyIter (Value.ref _)) (fun it s₂ => LoopAtV _ _ _ _ _ _ _ _ _ it s₂) _ _); refine unhold ?_))
local macro_rules | `(tactic| walk_at "eval ListComp") => `(tactic| refine unhold ?_)
local macro_rules | `(tactic| walk_at "exec Assign cons ListComp") => `(tactic| refine unhold ?_)
local macro_rules | `(tactic| walk_at "exec While Compare cons nil") => `(tactic| refine unhold ?_)
local macro_rules | `(tactic| walk_at "eval Name") => `(tactic| (k_here; (with_reducible show wpAny _ _ (eval (Expr.Name _ _) (compEnvC _ _ _ _)) _ _ _); k_dflt (first
  | refine LCgL.ld_own (by k_asm) (by k_mem) (by assumption) (by assumption) ?_
  | refine my_global (by k_asm) (by k_asm) (by k_asm) (by k_is) ?_
  | refine my_built (by k_asm) (by k_asm) (by k_asm) (by k_is) (by boot_by_name) (by decide) ?_)))
local macro_rules | `(tactic| walk_at "binaryOp Add ref ref") => `(tactic| (k_here; (with_reducible show wpAny _ _ (binaryOp _ (Value.ref _) (Value.ref _)) _ _ _); k_dflt (refine' kmk_add_ints ?F ?N ?a ?b ?i ?j ?_ ?z; (case F => k_asm); (case N => k_asm); (case a => kmk_list); (case b => kmk_list); (case i => l_ints); (case j => l_ints); (case z => ((simp only [sizeLine_eq, List.length_append, List.length_map, List.length_cons, List.length_nil, Array.length_toList, KBw.ints_length]); omega))); intro D' ws' h' F' N' l1 hI'; (try k_lt l1); (try k_sweep)))
local macro_rules | `(tactic| walk_at "binaryOp Add str str") => `(tactic| (k_here; (refine my_add_str ?_ ?kz; (case kz => ((simp only [PySem.Str.length_append]; (try simp only [my_len1]); omega)))); intro _ _))
local macro_rules | `(tactic| walk_at "call builtin:list.append") => `(tactic| (k_here; (with_reducible show wpAny _ _ (call (Value.builtin _) [Value.ref _, _]) _ _ _); k_dflt (refine' append_K ?k1 ?k2 ?k3 ?_ ?z; (case k1 => k_asm); (case k2 => k_asm); (case k3 => k_upd); (case z => (simp only [List.size_toArray, sizeLine_eq]; omega)); k_whole); intro h' F' N'; (try k_sweep)))
-- @HEAD2
variable {w : World} {A : Around} {s : Shared} {Q E : Value → Shared → Prop}
structure GoT : Prop where
local macro_rules | `(tactic| walk_at "eval IfExp") => `(tactic| ((fail_if_success (with_reducible rename GoT => gg9)); refine unhold ?_))
local macro_rules | `(tactic| walk_at "isTrue BoolOp") => `(tactic| ((fail_if_success (with_reducible rename GoT => gg9)); refine unhold ?_))
theorem ints_head {vs : List Value} {ns : List Int} (h : IntsAre vs ns) : IntsAre vs.tail ns.tail := by
  cases h with
  | nil => exact .nil
  | cons _ _ h => exact h
def cntOf (n : Int) : Nat := ([0, 1, 2, 3, 5, 6] : List Nat).getD ((n.fdiv 3).fmod 6).toNat 0
def octI (n : Int) (k : Nat) : Int := (n.fdiv 18 + 37 * (0 + (k : Int))).fmod 256
/-- the octets of a leaf -/
def octs (n : Int) : List UInt8 := (List.range (cntOf n)).map ((fun m : Int => m.toNat.toUInt8) ∘ octI n)
theorem cntOf_le (n : Int) : cntOf n ≤ 6 := by
  have : ∀ k : Nat, ([0, 1, 2, 3, 5, 6] : List Nat).getD k 0 ≤ 6 := fun k => by
    match k with
    | 0 | 1 | 2 | 3 | 4 | 5 => decide
    | k + 6 => simp
  exact this _
theorem fitsL {i : Int} (h0 : 0 ≤ i) (h1 : i ≤ 200000) : Builtin.Range.rangeFitsLong i = true := by
  have a : (-(2 ^ 63) : Int) ≤ 0 := by decide
  have b : (200000 : Int) < 2 ^ 63 := by decide
  unfold Builtin.Range.rangeFitsLong
  rw [Bool.and_eq_true]
  exact ⟨decide_eq_true (Int.le_trans a h0), decide_eq_true (Int.lt_of_le_of_lt h1 b)⟩
theorem rng_small {c : Nat} (h : c ≤ 100000) : Builtin.Range.small 0 (c : Int) 1 = true := by
  have e : Builtin.Range.rangeSize 0 (c : Int) 1 = (c : Int) := by rw [rangeSize_nat, Int.sub_zero, Int.toNat_natCast]
  unfold Builtin.Range.small
  rw [e, fitsL (i := 0) (by decide) (by decide), fitsL (i := (c : Int)) (by omega) (by omega), fitsL (i := 1) (by decide) (by decide), if_pos (by decide), fitsL (i := (c : Int) + (1 - 1)) (by omega) (by omega), Bool.or_true]
  rfl
theorem rng_size (c : Nat) : Builtin.Range.rangeSize 0 (c : Int) 1 = (c : Int) := by
  rw [rangeSize_nat]; simp
theorem fmod_range {a m : Int} (hm : 0 < m) : 0 ≤ a.fmod m ∧ a.fmod m < m := ⟨Int.fmod_nonneg_of_pos a hm, Int.fmod_lt_of_pos a hm⟩
/-- what a range's call leaves -/
def RngP (h₀ : Heap) (L : Addr) (m : Str → Option Value) (nw : List (Addr × Obj)) (cnt : Nat) (g : Array GenState) (d : Drawn) (os : OsState) (xv : Value) (s₁ : Shared) : Prop :=
  ∃ rr h' tk' t1 u1 v1, xv = .ref rr ∧ s₁ = ⟨h', g, d, tk', os⟩ ∧ IsRange h' rr 0 (cnt : Int) 1 t1 u1 v1 ∧ Fr h₀ L h' m ∧ News h₀ L h' nw
theorem RngP.intro {h₀ : Heap} {L : Addr} {m : Str → Option Value} {nw big : List (Addr × Obj)} {cnt : Nat} {g : Array GenState} {d : Drawn} {os : OsState} {rr : Addr} {h' : Heap} {tk : Nat} {k : Int} {t1 u1 v1 : Tok} (hr : IsRange h' rr 0 k 1 t1 u1 v1) (hk : k = (cnt : Int)) (F : Fr h₀ L h' m) (N : News h₀ L h' big) (sub : ∀ p ∈ nw, p ∈ big) :
   RngP h₀ L m nw cnt g d os (.ref rr) ⟨h', g, d, tk, os⟩ := ⟨rr, h', tk, t1, u1, v1, rfl, rfl, hk ▸ hr, F, fun p hp => N p (sub p hp)⟩
theorem tree_leaf (d : Nat) (l : Addr) (vs : List Value) (ns : List Int) (cap : Nat) (hl : s.heap.get? l = some (W.listOf vs.toArray cap)) (hi : IntsAre vs ns) (td : Tok) (hlen : ns.length ≤ 10) (hleaf : d = 0 ∨ 0 < (ns.headD 31).fmod 3) (ok : Ok w s.heap) (r : Room A 2 12)
   (hQ : ∀ h' tk t cap', (∀ b o, b ≠ l → s.heap.get? b = some o → h'.get? b = some o) → h'.get? l = some (W.listOf vs.tail.toArray cap') → Q (.bytes (octs (ns.headD 31)).toArray t) { s with heap := h', toks := tk }) :
   wpAny (model PG w) A (call (.ref 526) [.ref l, .int d td]) Q E s := by
  have := fillOk_W21; clear this
  w_on
  obtain ⟨hdl, dep, frs, gds, un⟩ := A
  obtain ⟨hd, hu, hh⟩ := r
  dsimp only at hd hu hh; subst hh
  refine' enter_qc [(.ofString "draws", .ref l), (.ofString "deep", .int d td)] ?ok ?ho ?hcd ?hroom ?hb ?hs ?hbind ?hloc ?hco ?hgen ?hk ?hcell ?_
  walk_at "MINE centerC"
  intro h₁ mg mb tk0 cells X T F N Y
  k_cells Y
  rename_i o1 o2 o3 d1 d2 d3
  replace d1 : _ = Data.cell none := d1
  replace d2 : _ = Data.cell (some (.int d td)) := d2
  replace d3 : _ = Data.cell (some (.ref l)) := d3
  have Fh : Fr (s.heap.hide l) s.heap.objs.size h₁ (fun _ => none) := fr_hide F
  have Nh : News (s.heap.hide l) _ _ ((l, W.listOf vs.toArray cap) :: _) := fun p hp => by
    rcases List.mem_cons.mp hp with rfl | hp
    · exact ⟨F.keep _ _ hl, Nat.ne_of_lt (Heap.lt_size hl), Heap.hide_self _ _⟩
    · exact news_hide N p hp
  have Xh := in_hide X hl rfl
  have Th := top_hide T hl rfl
  have hlL : l < s.heap.objs.size := Heap.lt_size hl
  clear F N X T
  k_steps
  unfold Hold
  refine wpAny_mono (Q := fun v s' => ∃ t h' tk' cap', v = .int (ns.headD 31) t ∧ s' = ⟨h', s.gens, s.drawn, tk', s.os⟩ ∧ Fr (s.heap.hide l) s.heap.objs.size h' (fun _ => none) ∧
     News (s.heap.hide l) s.heap.objs.size h' [(l, W.listOf vs.tail.toArray cap'), (s.heap.objs.size + 1 + 1 + 1, o1), (s.heap.objs.size + 1 + 1, o2), (s.heap.objs.size + 1, o3)]) ?_ ?_ (fun _ _ e => e)
  · have go : GoT := ⟨⟩
    by_cases hne : 0 < ns.length
    · k_steps
      cases hi with
      | nil => exact absurd hne (Nat.lt_irrefl 0)
      | @cons n t vs ns hi =>
        refine kl_popAt (its := (Value.int n t :: vs).toArray) (p := []) (q := vs) (y := Value.int n t) (k := 0) Fh Nh rfl (by simp [seqIndex?]) rfl (.head fun q hq => ?_) ?_ fun h9 F9 N9 => ?_
        · have hb : s.heap.objs.size ≤ q.1 := by
            rcases List.mem_cons.mp hq with rfl | hq
            · exact Nat.le_add_right _ 3
            · rcases List.mem_cons.mp hq with rfl | hq
              · exact Nat.le_add_right _ 2
              · rw [List.mem_singleton.mp hq]; exact Nat.le_succ _
          exact fun e => Nat.lt_irrefl _ (Nat.lt_of_lt_of_le hlL (e ▸ hb))
        · have := hi.length
          rw [sizeLine_eq]; simp at hlen ⊢; omega
        · exact ⟨_, _, _, _, rfl, rfl, F9, N9⟩
    · have hnil : ns = [] := List.length_eq_zero_iff.mp (by omega)
      subst hnil
      cases hi with
      | nil =>
        k_steps
        · exact Fh
        · exact Nh
  · rintro v s' ⟨t, h5, tk5, cap', rfl, rfl, F5, N5⟩
    generalize hn : ns.headD 31 = n at hleaf ⊢
    clear Fh Nh
    k_steps
    rename_i h6 o4 F6 N6 d4
    simp only [List.cons_append, List.nil_append] at N6
    unfold Hold
    refine wpAny_mono (Q := fun b s' => b = true ∧ ∃ tk', s' = ⟨‹Heap›, s.gens, s.drawn, tk', s.os⟩) ?_ ?_ (fun _ _ e => e)
    · have go : GoT := ⟨⟩
      by_cases hd0 : ((d : Nat) : Int) = 0
      · k_steps
      · have hl3 : 0 < n.fmod 3 := hleaf.resolve_left (by omega)
        k_steps
    · rintro b s' ⟨rfl, tk', rfl⟩
      k_steps
      unfold Hold
      refine my_comp (cl := _) F6 (by with_unfolding_all rfl) (by decide) rfl (by decide) rfl ?_
      obtain ⟨cnt, hcnt⟩ : ∃ c : Nat, c = cntOf n := ⟨_, rfl⟩
      refine wpAny_mono (Q := RngP (s.heap.hide l) s.heap.objs.size (fun _ => none) [(l, W.listOf vs.tail.toArray cap'), (s.heap.objs.size + 1 + 1 + 1, o4), (s.heap.objs.size + 1 + 1, o2), (s.heap.objs.size + 1, o3)] cnt s.gens s.drawn s.os) ?_ ?_ (fun _ _ e => e)
      · k_steps
        all_goals (have hk := ‹(n.fdiv 3).fmod 6 = _›; exact RngP.intro (by assumption) (by rw [hcnt]; unfold cntOf; rw [hk]; rfl) (by assumption) (by assumption) (fun p hp => .tail _ hp))
      · rintro xv s₁ ⟨rr, h7, tk7, t1, u1, v1, rfl, rfl, hr7, F7, N7⟩
        clear F6 N6
        have hc6 : cnt ≤ 6 := by rw [hcnt]; exact cntOf_le n
        refine ⟨cnt, _, _, fun i ys => IntsAre ys ((List.range i).map (octI n)), src_range rfl hr7 ?_ ?_, by rw [sizeLine_eq]; omega, F7, N7, .nil, ?_, ?_⟩
        · exact rng_small (by omega)
        · exact rng_size cnt
        · rintro i v I oI C oC D ys m₂ h' tk' E' hi ⟨t, rfl⟩ hC hx F' N' hJ
          have cE := InElt.start h'
          clear F7 N7
          k_steps
          refine myC (by assumption) (by assumption) (fun _ h => h) ?_
          show IntsAre _ _
          rw [List.range_succ, List.map_append]
          exact hJ.append (.cons _ _ .nil)
        · intro ys hJ D h' tk' F' N' o1
          clear F7 N7
          k_steps
          refine bytes_K F' N' (ns := (List.range cnt).map (octI n)) ⟨_, (N' _ (.head _)).1, rfl, _, rfl⟩ hJ (fun k hk => ?_) (by rw [hJ.length, sizeLine_eq]; simp; omega) rfl fun h8 t8 k8 F8 N8 _ => ?_
          · obtain ⟨j, _, rfl⟩ := List.mem_map.mp hk
            exact fmod_range (by decide)
          have e : (ns.headD 31 = n) := hn
          have := hQ h8 k8 t8 cap' (fun b o hb e => F8.keep b o (by rw [Heap.hide_ne _ hb]; exact e)) (N8 _ (.tail _ (.head _))).1
          rw [e] at this
          rw [List.map_map, hcnt]
          exact this

end Mine
end
section -- W22
open PySem PySem.W PySem.Calls PyProof.Rows
set_option maxRecDepth 100000
set_option maxHeartbeats 4000000
namespace Mine
theorem fillOk_W22 : (PySem.Challenge.rw_vn0025_01 = PySem.Challenge.rw_vn0025_01 ∧ fragK = fragK) := fillOk_W1
local macro_rules | `(tactic| walk_at "MINE enter") => `(tactic| (
  k_dflt ((case' ok => assumption); (case' ho => k_is); (case' hcd => k_is); (case' hroom => ((try dsimp only); omega)); (case' hb => conv => lhs; whnf); (case' hs => conv => lhs; whnf); (case' hbind => first | exact BindsTo.of_eq rfl | exact binds_K (Ok.frag (by assumption)) rfl (by k_is) rfl rfl rfl); (case' hloc => exact locs rfl); (case' hco => exact rfl); (case' hgen => exact rfl); (case' hk => exact rfl); (case' hcell => decide))))
local macro_rules | `(tactic| walk_at "MINE centerC") => `(tactic| (
  k_dflt ((case' ok => assumption); (case' ho => k_is); (case' hcd => k_is); (case' hroom => ((try dsimp only); omega)); (case' hb => conv => lhs; whnf); (case' hs => conv => lhs; whnf); (case' hbind => first | exact BindsTo.of_eq rfl | exact binds_K (Ok.frag (by assumption)) rfl (by k_is) rfl rfl rfl); (case' hloc => exact kindsX rfl); (case' hco => exact rfl); (case' hgen => exact rfl); (case' hk => exact rfl); (case' hcell => decide))))
local macro_rules | `(tactic| walk_at "exec For Name Name cons nil") => `(tactic| refine unhold ?_)
local macro_rules | `(tactic| walk_at "exec For Name Call cons nil") => `(tactic| refine unhold ?_)
local macro_rules | `(tactic| walk_at "pyIter ref") => `(tactic| ((with_reducible show wpAny _ _ (pyIter (Value.ref _)) (fun it s₂ => LoopAtV _ _ _ _ _ _ _ _ _ it s₂) _ _); refine unhold ?_))
local macro_rules | `(tactic| walk_at "eval ListComp") => `(tactic| refine unhold ?_)
local macro_rules | `(tactic| walk_at "exec Assign cons ListComp") => `(tactic| refine unhold ?_)
local macro_rules | `(tactic| walk_at "exec While Compare cons nil") => `(tactic| refine unhold ?_)
local macro_rules | `(tactic| walk_at "eval Name") => `(tactic| (k_here; (with_reducible show wpAny _ _ (eval (Expr.Name _ _) (compEnvC _ _ _ _)) _ _ _); k_dflt (first
  | refine LCgL.ld_own (by k_asm) (by k_mem) (by assumption) (by assumption) ?_
  | refine my_global (by k_asm) (by k_asm) (by k_asm) (by k_is) ?_
  | refine my_built (by k_asm) (by k_asm) (by k_asm) (by k_is) (by boot_by_name) (by decide) ?_)))
local macro_rules | `(tactic| walk_at "binaryOp Add ref ref") => `(tactic| (k_here; (with_reducible show wpAny _ _ (binaryOp _ (Value.ref _) (Value.ref _)) _ _ _); k_dflt (refine' kmk_add_ints ?F ?N ?a ?b ?i ?j ?_ ?z; (case F => k_asm); (case N => k_asm); (case a => kmk_list); (case b => kmk_list); (case i => l_ints); (case j => l_ints); (case z => ((simp only [sizeLine_eq, List.length_append, List.length_map, List.length_cons, List.length_nil, Array.length_toList, KBw.ints_length]); omega))); intro D' ws' h' F' N' l1 hI'; (try k_lt l1); (try k_sweep)))
local macro_rules | `(tactic| walk_at "binaryOp Add str str") => `(tactic| (k_here; (refine my_add_str ?_ ?kz; (case kz => ((simp only [PySem.Str.length_append]; (try simp only [my_len1]); omega)))); intro _ _))
local macro_rules | `(tactic| walk_at "call builtin:list.append") => `(tactic| (k_here; (with_reducible show wpAny _ _ (call (Value.builtin _) [Value.ref _, _]) _ _ _); k_dflt (refine' append_K ?k1 ?k2 ?k3 ?_ ?z; (case k1 => k_asm); (case k2 => k_asm); (case k3 => k_upd); (case z => (simp only [List.size_toArray, sizeLine_eq]; omega)); k_whole); intro h' F' N'; (try k_sweep)))
-- @HEAD2
variable {w : World} {A : Around} {s : Shared} {Q E : Value → Shared → Prop}
local macro_rules | `(tactic| walk_at "eval IfExp") => `(tactic| ((fail_if_success (with_reducible rename GoT => gg9)); refine unhold ?_))
local macro_rules | `(tactic| walk_at "isTrue BoolOp") => `(tactic| ((fail_if_success (with_reducible rename GoT => gg9)); refine unhold ?_))
def RTs.ofList : List RT → RTs
  | [] => .nil
  | t :: r => .cons t (RTs.ofList r)
theorem RTs.toList_ofList : ∀ l : List RT, (RTs.ofList l).toList = l
  | [] => rfl
  | t :: r => congrArg (t :: ·) (RTs.toList_ofList r)
def growN (f : List Int → RT × List Int) : Nat → List Int → List RT × List Int
  | 0, ns => ([], ns)
  | i + 1, ns => ((growN f i ns).1 ++ [(f (growN f i ns).2).1], (f (growN f i ns).2).2)
/-- the tree that the draws tell, and the draws that are left -/
def growT : Nat → List Int → RT × List Int
  | 0, ns => (.leaf (octs (ns.headD 31)), ns.tail)
  | d + 1, ns => if 0 < (ns.headD 31).fmod 3 then (.leaf (octs (ns.headD 31)), ns.tail)
    else (.node (RTs.ofList (growN (growT d) (((ns.headD 31).fdiv 3).fmod 4).toNat ns.tail).1), (growN (growT d) (((ns.headD 31).fdiv 3).fmod 4).toNat ns.tail).2)
theorem growN_len {f : List Int → RT × List Int} (h : ∀ ns, (f ns).2.length ≤ ns.length) : ∀ i ns, (growN f i ns).2.length ≤ ns.length
  | 0, _ => Nat.le_refl _
  | i + 1, ns => Nat.le_trans (h _) (growN_len h i ns)
theorem growT_len : ∀ d ns, (growT d ns).2.length ≤ ns.length
  | 0, ns => by show ns.tail.length ≤ _; rw [List.length_tail]; omega
  | d + 1, ns => by
    unfold growT
    split
    · show ns.tail.length ≤ _; rw [List.length_tail]; omega
    · exact Nat.le_trans (growN_len (growT_len d) _ _) (by rw [List.length_tail]; omega)
def TreeSpec (d : Nat) : Prop := ∀ {w : World} {A : Around} {s : Shared} {Q E : Value → Shared → Prop} (l : Addr) (vs : List Value) (ns : List Int) (cap : Nat) (td : Tok), s.heap.get? l = some (W.listOf vs.toArray cap) → IntsAre vs ns → ns.length ≤ 10 → Ok w s.heap → Room A (2 * d + 2) (6 * d + 12) →
  (∀ h' tk v vs' cap' led, (∀ b o, b ≠ l → s.heap.get? b = some o → h'.get? b = some o) → h'.get? l = some (W.listOf vs'.toArray cap') → IntsAre vs' (growT d ns).2 → RL led (growT d ns).1 v → (∀ q ∈ led, h'.get? q.1 = some q.2 ∧ s.heap.get? q.1 = none) → Q v { s with heap := h', toks := tk }) →
  wpAny (model PG w) A (call (.ref 526) [.ref l, .int d td]) Q E s
theorem tree_zero : TreeSpec 0 := by
  intro w A s Q E l vs ns cap td hl hi hlen ok r hQ
  exact tree_leaf 0 l vs ns cap hl hi td hlen (.inl rfl) ok (r.less (by omega) (by omega)) fun h' tk t cap' k e => hQ h' tk _ vs.tail cap' [] k e (ints_head hi) ⟨t, rfl⟩ fun _ h => nomatch h
theorem ok_hide {h h' : Heap} {l : Addr} {vs : List Value} {cap : Nat} (ok : Ok w h) (hl : h.get? l = some (W.listOf vs.toArray cap)) (k : ∀ b o, b ≠ l → h.get? b = some o → h'.get? b = some o) : Ok w h' := by
  obtain ⟨X, ⟨mg, mb, T⟩, ⟨p1, t1, k1⟩, ⟨p2, t2, k2⟩⟩ := ok
  have n1 : T1 ≠ l := fun q => by subst q; rw [t1] at hl; cases hl
  have n2 : T2 ≠ l := fun q => by subst q; rw [t2] at hl; cases hl
  have hll : (lowH h).get? l = some (W.listOf vs.toArray cap) := low_get n1.symm n2.symm hl
  have kk : ∀ b o, ((lowH h).hide l).get? b = some o → (lowH h').get? b = some o := fun b o e => by
    have hb : b ≠ l := fun q => by subst q; rw [Heap.hide_self] at e; cases e
    have e1 := Heap.of_hide e
    exact low_get (of_low e1).2.1 (of_low e1).2.2 (k b o hb (of_low e1).1)
  exact ⟨(in_hide X hll rfl).keeps kk, ⟨mg, mb, (top_hide T hll rfl).keeps kk⟩, ⟨p1, k _ _ n1 t1, k1⟩, p2, k _ _ n2 t2, k2⟩
theorem tree_node (d : Nat) (ih : TreeSpec d) (l : Addr) (vs : List Value) (ns : List Int) (cap : Nat) (hl : s.heap.get? l = some (W.listOf vs.toArray cap)) (hi : IntsAre vs ns) (td : Tok) (hlen : ns.length ≤ 10) (hnode : ¬ 0 < (ns.headD 31).fmod 3) (ok : Ok w s.heap) (r : Room A (2 * d + 4) (6 * d + 18))
   (hQ : ∀ h' tk v vs' cap' led, (∀ b o, b ≠ l → s.heap.get? b = some o → h'.get? b = some o) → h'.get? l = some (W.listOf vs'.toArray cap') → IntsAre vs' (growN (growT d) (((ns.headD 31).fdiv 3).fmod 4).toNat ns.tail).2 →
      RL led (.node (RTs.ofList (growN (growT d) (((ns.headD 31).fdiv 3).fmod 4).toNat ns.tail).1)) v → (∀ q ∈ led, h'.get? q.1 = some q.2 ∧ s.heap.get? q.1 = none) → Q v { s with heap := h', toks := tk }) :
   wpAny (model PG w) A (call (.ref 526) [.ref l, .int (d + 1 : Nat) td]) Q E s := by
  have := fillOk_W22; clear this
  w_on
  obtain ⟨hdl, dep, frs, gds, un⟩ := A
  obtain ⟨hd, hu, hh⟩ := r
  dsimp only at hd hu hh; subst hh
  refine' enter_qc [(.ofString "draws", .ref l), (.ofString "deep", .int (d + 1 : Nat) td)] ?ok ?ho ?hcd ?hroom ?hb ?hs ?hbind ?hloc ?hco ?hgen ?hk ?hcell ?_
  walk_at "MINE centerC"
  intro h₁ mg mb tk0 cells X T F N Y
  k_cells Y
  rename_i o1 o2 o3 d1 d2 d3
  replace d1 : _ = Data.cell none := d1
  replace d2 : _ = Data.cell (some (.int (d + 1 : Nat) td)) := d2
  replace d3 : _ = Data.cell (some (.ref l)) := d3
  have Fh : Fr (s.heap.hide l) s.heap.objs.size h₁ (fun _ => none) := fr_hide F
  have Nh : News (s.heap.hide l) _ _ ((l, W.listOf vs.toArray cap) :: _) := fun p hp => by
    rcases List.mem_cons.mp hp with rfl | hp
    · exact ⟨F.keep _ _ hl, Nat.ne_of_lt (Heap.lt_size hl), Heap.hide_self _ _⟩
    · exact news_hide N p hp
  have Xh := in_hide X hl rfl
  have Th := top_hide T hl rfl
  have hlL : l < s.heap.objs.size := Heap.lt_size hl
  clear F N X T
  k_steps
  unfold Hold
  refine wpAny_mono (Q := fun v s' => ∃ t h' tk' cap', v = .int (ns.headD 31) t ∧ s' = ⟨h', s.gens, s.drawn, tk', s.os⟩ ∧ Fr (s.heap.hide l) s.heap.objs.size h' (fun _ => none) ∧
     News (s.heap.hide l) s.heap.objs.size h' [(l, W.listOf vs.tail.toArray cap'), (s.heap.objs.size + 1 + 1 + 1, o1), (s.heap.objs.size + 1 + 1, o2), (s.heap.objs.size + 1, o3)]) ?_ ?_ (fun _ _ e => e)
  · have go : GoT := ⟨⟩
    by_cases hne : 0 < ns.length
    · k_steps
      cases hi with
      | nil => exact absurd hne (Nat.lt_irrefl 0)
      | @cons n t vs ns hi =>
        refine kl_popAt (its := (Value.int n t :: vs).toArray) (p := []) (q := vs) (y := Value.int n t) (k := 0) Fh Nh rfl (by simp [seqIndex?]) rfl (.head fun q hq => ?_) ?_ fun h9 F9 N9 => ?_
        · have hb : s.heap.objs.size ≤ q.1 := by
            rcases List.mem_cons.mp hq with rfl | hq
            · exact Nat.le_add_right _ 3
            · rcases List.mem_cons.mp hq with rfl | hq
              · exact Nat.le_add_right _ 2
              · rw [List.mem_singleton.mp hq]; exact Nat.le_succ _
          exact fun e => Nat.lt_irrefl _ (Nat.lt_of_lt_of_le hlL (e ▸ hb))
        · have := hi.length
          rw [sizeLine_eq]; simp at hlen ⊢; omega
        · exact ⟨_, _, _, _, rfl, rfl, F9, N9⟩
    · have hnil : ns = [] := List.length_eq_zero_iff.mp (by omega)
      subst hnil
      cases hi with
      | nil =>
        k_steps
        · exact Fh
        · exact Nh
  · rintro v s' ⟨t, h5, tk5, cap', rfl, rfl, F5, N5⟩
    generalize hn : ns.headD 31 = n at hnode hQ ⊢
    clear Fh Nh
    k_steps
    rename_i h6 o4 F6 N6 d4
    simp only [List.cons_append, List.nil_append] at N6
    unfold Hold
    refine wpAny_mono (Q := fun b s' => b = false ∧ ∃ tk', s' = ⟨‹Heap›, s.gens, s.drawn, tk', s.os⟩) ?_ ?_ (fun _ _ e => e)
    · have go : GoT := ⟨⟩
      have hd0 : ¬ (((d + 1 : Nat) : Nat) : Int) = 0 := by omega
      k_steps
    · rintro b s' ⟨rfl, tk', rfl⟩
      k_steps
      unfold Hold
      refine my_compN (cl := _) F6 (by with_unfolding_all rfl) (by decide) rfl (by decide) rfl ?_
      obtain ⟨cnt, hcnt⟩ : ∃ c : Nat, c = ((n.fdiv 3).fmod 4).toNat := ⟨_, rfl⟩
      have hf4 := fmod_range (a := n.fdiv 3) (m := 4) (by decide)
      have hc4 : cnt < 4 := by omega
      rw [← hcnt] at hQ
      refine wpAny_mono (Q := RngP (s.heap.hide l) s.heap.objs.size (fun _ => none) [(l, W.listOf vs.tail.toArray cap'), (s.heap.objs.size + 1 + 1 + 1, o4), (s.heap.objs.size + 1 + 1, o2), (s.heap.objs.size + 1, o3)] cnt s.gens s.drawn s.os) ?_ ?_ (fun _ _ e => e)
      · k_steps
        all_goals exact RngP.intro (by assumption) (by omega) (by assumption) (by assumption) (fun p hp => hp)
      · rintro xv s₁ ⟨rr, h7, tk7, t1, u1, v1, rfl, rfl, hr7, F7, N7⟩
        clear F6 N6
        refine ⟨cnt, _, _, fun i ys nw => ∃ vs' cap' led, nw = (l, W.listOf vs'.toArray cap') :: (s.heap.objs.size + 1 + 1 + 1, o4) :: (s.heap.objs.size + 1 + 1, o2) :: (s.heap.objs.size + 1, o3) :: led ∧
          IntsAre vs' (growN (growT d) i ns.tail).2 ∧ All2 (RL led) (growN (growT d) i ns.tail).1 ys ∧ ys.length = i ∧ ∀ q ∈ led, q.1 ≠ l, src_range rfl hr7 (rng_small (by omega)) (rng_size cnt), by rw [sizeLine_eq]; omega, F7, N7, ⟨_, _, [], rfl, ints_head hi, .nil, rfl, fun _ h => nomatch h⟩, ?_, ?_⟩
        · rintro i v I oI C oC D ys nw m₂ h' tk' E' hlt ⟨t, rfl⟩ hC hx F' N' off ne ⟨vs', cap', led, rfl, hI, hA, hyl, hoff⟩
          have cE := InElt.start h'
          clear F7 N7
          k_steps
          rw [show (((d + 1 : Nat) : Nat) : Int) - 1 = ((d : Nat) : Int) by omega]
          have hlh : h'.get? l = some (W.listOf vs'.toArray cap') := (N' _ (.tail _ (.tail _ (.tail _ (.head _))))).1
          have kp : ∀ b o, b ≠ l → s.heap.get? b = some o → h'.get? b = some o := fun b o hb e => F'.keep b o (by rw [Heap.hide_ne _ hb]; exact e)
          have hlen' : (growN (growT d) i ns.tail).2.length ≤ 10 := Nat.le_trans (growN_len (growT_len d) _ _) (by rw [List.length_tail]; omega)
          refine ih l vs' _ cap' _ hlh hI hlen' (ok_hide ok hl kp) (roomOf (by omega) (by omega)) fun h9 tk9 v9 vs9 cap9 led9 k9 e9 i9 r9 l9 => ?_
          have hL : s.heap.objs.size ≠ l := Nat.ne_of_gt hlL
          have F9 : Fr (s.heap.hide l) s.heap.objs.size h9 (fun _ => none) := ⟨F'.ns.at' fun o e => k9 _ _ hL e, fun b o e => k9 b o (fun q => by subst q; rw [Heap.hide_self] at e; cases e) (F'.keep b o e), F'.above⟩
          have cell : ∀ p ∈ [(s.heap.objs.size + 1 + 1 + 1, o4), (s.heap.objs.size + 1 + 1, o2), (s.heap.objs.size + 1, o3)], p.1 ≠ l := fun p hp => by
            have hb : s.heap.objs.size ≤ p.1 := by
              rcases List.mem_cons.mp hp with rfl | hp
              · exact Nat.le_add_right _ 3
              · rcases List.mem_cons.mp hp with rfl | hp
                · exact Nat.le_add_right _ 2
                · rw [List.mem_singleton.mp hp]; exact Nat.le_succ _
            exact fun e => Nat.lt_irrefl _ (Nat.lt_of_lt_of_le hlL (e ▸ hb))
          have old : ∀ p, p.1 ≠ l → p ∈ ((I, oI) :: (C, oC) :: (D, LCg.lst ys) :: (l, W.listOf vs'.toArray cap') :: (s.heap.objs.size + 1 + 1 + 1, o4) :: (s.heap.objs.size + 1 + 1, o2) :: (s.heap.objs.size + 1, o3) :: led) → h9.get? p.1 = some p.2 ∧ p.1 ≠ s.heap.objs.size ∧ (s.heap.hide l).get? p.1 = none := fun p hp hm => ⟨k9 _ _ hp (N' p hm).1, (N' p hm).2⟩
          have new : ∀ q ∈ led9, q.1 ≠ l ∧ q.1 ≠ I ∧ q.1 ≠ C ∧ q.1 ≠ D ∧ q.1 ≠ s.heap.objs.size ∧ (s.heap.hide l).get? q.1 = none := fun q hq => by
            have hz := (l9 q hq).2
            refine ⟨fun e => ?_, fun e => ?_, fun e => ?_, fun e => ?_, fun e => ?_, ?_⟩
            · have hz : h'.get? q.1 = none := hz; rw [e, hlh] at hz; cases hz
            · have hz : h'.get? q.1 = none := hz; rw [e, (N' _ (.head _)).1] at hz; cases hz
            · have hz : h'.get? q.1 = none := hz; rw [e, (N' _ (.tail _ (.head _))).1] at hz; cases hz
            · have hz : h'.get? q.1 = none := hz; rw [e, (N' _ (.tail _ (.tail _ (.head _)))).1] at hz; cases hz
            · obtain ⟨o, _, _, ho, _⟩ := F'.ns
              have hz : h'.get? q.1 = none := hz; rw [e, ho] at hz; cases hz
            · cases e : (s.heap.hide l).get? q.1 with
              | none => rfl
              | some o => have hz : h'.get? q.1 = none := hz; rw [F'.keep _ _ e] at hz; cases hz
          refine ⟨h9, tk9, (l, W.listOf vs9.toArray cap9) :: (s.heap.objs.size + 1 + 1 + 1, o4) :: (s.heap.objs.size + 1 + 1, o2) :: (s.heap.objs.size + 1, o3) :: (led ++ led9), rfl, F9, ?_, ?_, trivial, vs9, cap9, led ++ led9, rfl, i9, ?_, ?_, ?_⟩
          · intro p hp
            rcases List.mem_cons.mp hp with rfl | hp
            · exact old _ (fun e => off.1.1 e.symm) (.head _)
            · rcases List.mem_cons.mp hp with rfl | hp
              · exact old _ (fun e => off.1.2.1 e.symm) (.tail _ (.head _))
              · rcases List.mem_cons.mp hp with rfl | hp
                · exact old _ (fun e => off.1.2.2 e.symm) (.tail _ (.tail _ (.head _)))
                · rcases List.mem_cons.mp hp with rfl | hp
                  · exact ⟨e9, (N' (l, W.listOf vs'.toArray cap') (.tail _ (.tail _ (.tail _ (.head _))))).2⟩
                  · have hp' : p ∈ [(s.heap.objs.size + 1 + 1 + 1, o4), (s.heap.objs.size + 1 + 1, o2), (s.heap.objs.size + 1, o3)] ++ (led ++ led9) := hp
                    rcases List.mem_append.mp hp' with hp | hp
                    · exact old p (cell p hp) (.tail _ (.tail _ (.tail _ (.tail _ (List.mem_append_left led hp)))))
                    · rcases List.mem_append.mp hp with hp | hp
                      · exact old p (hoff p hp) (.tail _ (.tail _ (.tail _ (.tail _ (List.mem_append_right [(s.heap.objs.size + 1 + 1 + 1, o4), (s.heap.objs.size + 1 + 1, o2), (s.heap.objs.size + 1, o3)] hp)))))
                      · exact ⟨(l9 p hp).1, (new p hp).2.2.2.2⟩
          · refine LCg.Off3.of fun p hp => ?_
            rcases List.mem_cons.mp hp with rfl | hp
            · exact off.1
            · have hp' : p ∈ ((s.heap.objs.size + 1 + 1 + 1, o4) :: (s.heap.objs.size + 1 + 1, o2) :: (s.heap.objs.size + 1, o3) :: led) ++ led9 := hp
              rcases List.mem_append.mp hp' with hp | hp
              · exact LCg.Off3.mem off.2 p hp
              · exact ⟨(new p hp).2.1, (new p hp).2.2.1, (new p hp).2.2.2.1⟩
          · exact (hA.imp fun a b h => RL.mono (fun q hq => List.mem_append_left _ hq) a b h).snoc (RL.mono (fun q hq => List.mem_append_right _ hq) _ v9 r9)
          · rw [List.length_append, hyl]; rfl
          · intro q hq
            rcases List.mem_append.mp hq with hq | hq
            · exact hoff q hq
            · exact (new q hq).1
        · rintro ys nw ⟨vs', cap', led, rfl, hI, hA, hyl, hoff⟩ D h' tk' F' N' o1
          clear F7 N7
          k_steps
          have hDl : D ≠ l := fun e => o1.1 e.symm
          have nn : ∀ a, a ≠ l → (s.heap.hide l).get? a = none → s.heap.get? a = none := fun a ha e => by rw [Heap.hide_ne _ ha] at e; exact e
          exact hQ h' tk' (.ref D) vs' cap' ((D, LCg.lst ys) :: led) (fun b o hb e => F'.keep b o (by rw [Heap.hide_ne _ hb]; exact e)) (N' _ (.tail _ (.head _))).1 hI
            ⟨D, ys, ys.length, rfl, .head _, RLs.of_all (by rw [RTs.toList_ofList]; exact hA.imp fun a b h => RL.mono (fun q hq => .tail _ hq) a b h)⟩ fun q hq => by
              rcases List.mem_cons.mp hq with rfl | hq
              · exact ⟨(N' _ (.head _)).1, nn _ hDl (N' _ (.head _)).2.2⟩
              · have hm : q ∈ ((D, LCg.lst ys) :: (l, W.listOf vs'.toArray cap') :: [(s.heap.objs.size + 1 + 1 + 1, o4), (s.heap.objs.size + 1 + 1, o2), (s.heap.objs.size + 1, o3)] ++ led) := List.mem_append_right _ hq
                exact ⟨(N' q hm).1, nn _ (hoff q hq) (N' q hm).2.2⟩
theorem tree_succ (d : Nat) (ih : TreeSpec d) : TreeSpec (d + 1) := by
  intro w A s Q E l vs ns cap td hl hi hlen ok r hQ
  by_cases h : 0 < (ns.headD 31).fmod 3
  · have e : growT (d + 1) ns = (.leaf (octs (ns.headD 31)), ns.tail) := by unfold growT; rw [if_pos h]
    rw [e] at hQ
    exact tree_leaf (d + 1) l vs ns cap hl hi td hlen (.inr h) ok (r.less (by omega) (by omega)) fun h' tk t cap' k e => hQ h' tk _ vs.tail cap' [] k e (ints_head hi) ⟨t, rfl⟩ fun _ h => nomatch h
  · have e : growT (d + 1) ns = (.node (RTs.ofList (growN (growT d) (((ns.headD 31).fdiv 3).fmod 4).toNat ns.tail).1), (growN (growT d) (((ns.headD 31).fdiv 3).fmod 4).toNat ns.tail).2) := by
      conv => lhs; unfold growT
      rw [if_neg h]
    rw [e] at hQ
    exact tree_node d ih l vs ns cap hl hi td hlen h ok (r.less (by omega) (by omega)) hQ
theorem tree_spec : TreeSpec 2 := tree_succ 1 (tree_succ 0 tree_zero)

end Mine
end
section -- WL
open PySem PySem.W PySem.Calls PyProof.Rows
set_option maxRecDepth 100000
set_option maxHeartbeats 4000000
namespace Mine
-- --plain
section
variable {M : Model} {A : Around} {Q : Flow → Shared → Prop} {E : Value → Shared → Prop} {s : Shared}
def lawB (k : Nat) : Stmt := nthS (bA (stA [53])) k
theorem st_enter {x x' : Stmt} {sc sc' : Scope} {q : Str} {L f : Addr} {cd : Value} (hx : x = x') (hs : sc = sc') (h : wpAny M A (exec x' (envOfC q sc' L f cd)) Q E s) : wpAny M A (exec x (envOfC q sc L f cd)) Q E s := by subst hx hs; exact h
theorem execs_one {x : Stmt} {rest : List Stmt} {env : Env} (h : wpAny M A (exec x env) (fun f s' => f = .next ∧ wpAny M A (execs rest env) Q E s') E s) : wpAny M A (execs (x :: rest) env) Q E s :=
  wpAny_execs_cons (wpAny_mono h (fun f s' ⟨e, h⟩ => by subst e; exact h) fun _ _ e => e)
abbrev lawV (L : Addr) : Env := envOfC (.ofString "law") (sA (stA [53])) L 531 (.ref 530)
end
def picksOf (ns : List Int) : List Int := ns.take 7 ++ ([0, 1, 2, 3, 4, 5, 6] : List Int).drop ns.length
def drawsOf (ns : List Int) : List Int := if 7 < ns.length then (ns.drop 7).take 7 else [9, 16, 30]
theorem picksOf_len (ns : List Int) : (picksOf ns).length = 7 := by
  unfold picksOf
  rw [List.length_append, List.length_take, List.length_drop]
  simp; omega
theorem drawsOf_len (ns : List Int) : (drawsOf ns).length ≤ 7 := by
  unfold drawsOf
  split
  · rw [List.length_take]; omega
  · decide
mutual
theorem RL.at {led : List (Addr × Obj)} {h : Heap} (k : ∀ p ∈ led, h.get? p.1 = some p.2) : ∀ (t : RT) (v : Value), RL led t v → RAt h t v
  | .leaf _, _, x => x
  | .node ts, _, ⟨a, vs, n, e, m, r⟩ => ⟨a, vs, e, ⟨_, k _ m, rfl, _, rfl⟩, RLs.at k ts vs r⟩
theorem RLs.at {led : List (Addr × Obj)} {h : Heap} (k : ∀ p ∈ led, h.get? p.1 = some p.2) : ∀ (ts : RTs) (vs : List Value), RLs led ts vs → RAts h ts vs
  | .nil, _, x => x
  | .cons t ts, _, ⟨v, r, e, x, y⟩ => ⟨v, r, e, RL.at k t v x, RLs.at k ts r y⟩
end
/-- what stands between two statements of the law -/
structure LawS (h0 : Heap) (L : Addr) (g0 : Array GenState) (o0 : OsState) (ps : List (Str × Value)) (x1 x2 : Option Value) (led : List (Addr × Obj)) (s : Shared) : Prop where
  go : ∃ u p1 p2 o1 o2, Fr (lowH h0) L s.heap (kstB u ps) ∧ News (lowH h0) L s.heap (tabsN p1 p2 ++ (L + 1 + 1, o1) :: (L + 1, o2) :: led) ∧ TriplesOk p1.toList ∧ TriplesOk p2.toList ∧ o1.data = .cell x1 ∧ o2.data = .cell x2
  off : ∀ p ∈ led, p.1 ≠ T1 ∧ p.1 ≠ T2 ∧ p.1 ≠ L + 1 + 1 ∧ p.1 ≠ L + 1
  gens : ∀ (i : Nat) x, g0[i]? = some x → s.gens[i]? = some x
  bare : AllBare g0 → AllBare s.gens
  os : s.os = o0
section
variable {h0 : Heap} {L : Addr} {g0 : Array GenState} {o0 : OsState} {ps ps' : List (Str × Value)} {led led' big : List (Addr × Obj)} {s s' : Shared} {m : Str → Option Value} {p1 p2 : Array Value} {w : World} {mg mb : Str → Option Value} {x1 x2 : Option Value} {o1 o2 : Obj}
theorem news_apart {h₀ h : Heap} {a b : Addr} {o o' : Obj} (N : News h₀ L h big) (ma : (a, o) ∈ big) (mb : (b, o') ∈ big) (hc : o ≠ o') : a ≠ b := fun e => by
  subst e
  exact hc (Option.some.inj ((N _ ma).1.symm.trans (N _ mb).1))
/-- a list among the new things is none of the tables and cells -/
theorem law_off {a : Addr} {vs : List Value} {n : Nat} {h : Heap} (N : News (lowH h0) L h big) (sub : ∀ p ∈ tabsN p1 p2 ++ [(L + 1 + 1, o1), (L + 1, o2)], p ∈ big) (d1 : o1.data = .cell x1) (d2 : o2.data = .cell x2) (ma : (a, W.listOf vs.toArray n) ∈ big) : a ≠ T1 ∧ a ≠ T2 ∧ a ≠ L + 1 + 1 ∧ a ≠ L + 1 :=
  ⟨news_apart N ma (sub _ (.head _)) (fun e => nomatch congrArg Obj.data e), news_apart N ma (sub _ (.tail _ (.head _))) (fun e => nomatch congrArg Obj.data e),
    news_apart N ma (sub _ (.tail _ (.tail _ (.head _)))) (fun e => by have e := congrArg Obj.data e; rw [d1] at e; cases e), news_apart N ma (sub _ (.tail _ (.tail _ (.tail _ (.head _))))) (fun e => by have e := congrArg Obj.data e; rw [d2] at e; cases e)⟩
theorem law_offO {a : Addr} {o : Obj} {h : Heap} (N : News (lowH h0) L h big) (sub : ∀ p ∈ tabsN p1 p2 ++ [(L + 1 + 1, o1), (L + 1, o2)], p ∈ big) (d1 : o1.data = .cell x1) (d2 : o2.data = .cell x2) (ma : (a, o) ∈ big) (hc : o.cls ≠ .none) (hd : ∀ c, o.data ≠ .cell c) : a ≠ T1 ∧ a ≠ T2 ∧ a ≠ L + 1 + 1 ∧ a ≠ L + 1 :=
  ⟨news_apart N ma (sub _ (.head _)) (fun e => by subst e; exact hc rfl), news_apart N ma (sub _ (.tail _ (.head _))) (fun e => by subst e; exact hc rfl),
    news_apart N ma (sub _ (.tail _ (.tail _ (.head _)))) (fun e => by subst e; exact hd _ d1), news_apart N ma (sub _ (.tail _ (.tail _ (.tail _ (.head _))))) (fun e => by subst e; exact hd _ d2)⟩
/-- the cells are none of the tables -/
theorem law_offc {h : Heap} (N : News (lowH h0) L h big) (sub : ∀ p ∈ tabsN p1 p2 ++ [(L + 1 + 1, o1), (L + 1, o2)], p ∈ big) (d1 : o1.data = .cell x1) (d2 : o2.data = .cell x2) : (L + 1 + 1 ≠ T1 ∧ L + 1 + 1 ≠ T2) ∧ (L + 1 ≠ T1 ∧ L + 1 ≠ T2) :=
  ⟨⟨news_apart N (sub _ (.tail _ (.tail _ (.head _)))) (sub _ (.head _)) (fun e => by have e := congrArg Obj.data e; rw [d1] at e; cases e), news_apart N (sub _ (.tail _ (.tail _ (.head _)))) (sub _ (.tail _ (.head _))) (fun e => by have e := congrArg Obj.data e; rw [d1] at e; cases e)⟩,
    ⟨news_apart N (sub _ (.tail _ (.tail _ (.tail _ (.head _))))) (sub _ (.head _)) (fun e => by have e := congrArg Obj.data e; rw [d2] at e; cases e), news_apart N (sub _ (.tail _ (.tail _ (.tail _ (.head _))))) (sub _ (.tail _ (.head _))) (fun e => by have e := congrArg Obj.data e; rw [d2] at e; cases e)⟩⟩
theorem fr_but {h₀ h h' : Heap} {b : Addr} (F : Fr h₀ L h m) (hb : b ≠ L) (h0b : h₀.get? b = none) (k : ∀ c o, c ≠ b → h.get? c = some o → h'.get? c = some o) : Fr h₀ L h' m :=
  ⟨F.ns.at' fun o e => k _ _ (fun q => hb q.symm) e, fun c o e => k c o (fun q => by subst q; rw [h0b] at e; cases e) (F.keep c o e), F.above⟩
theorem news_but {h₀ h h' : Heap} {b : Addr} (N : News h₀ L h led) (hb : ∀ p ∈ led, p.1 ≠ b) (k : ∀ c o, c ≠ b → h.get? c = some o → h'.get? c = some o) : News h₀ L h' led :=
  fun p hp => ⟨k _ _ (hb p hp) (N p hp).1, (N p hp).2⟩
/-- new things of a call -/
theorem news_new {h₀ h h' : Heap} (F : Fr h₀ L h m) (hl : ∀ q ∈ led, h'.get? q.1 = some q.2 ∧ h.get? q.1 = none) : News h₀ L h' led := fun q hq => by
  have z := (hl q hq).2
  refine ⟨(hl q hq).1, fun e => ?_, ?_⟩
  · obtain ⟨o, _, _, ho, _⟩ := F.ns
    rw [e, ho] at z; cases z
  · cases e : h₀.get? q.1 with
    | none => rfl
    | some o => rw [F.keep _ _ e] at z; cases z
theorem news_cons {h₀ h h' : Heap} {a : Addr} {o : Obj} (F : Fr h₀ L h m) (N : News h₀ L h big) (k : ∀ b o, h.get? b = some o → h'.get? b = some o) (e : h'.get? a = some o) (z : h.get? a = none) : News h₀ L h' ((a, o) :: big) :=
  List.forall_mem_cons.mpr ⟨news_new (led := [(a, o)]) F (fun q hq => by rw [List.mem_singleton.mp hq]; exact ⟨e, z⟩) _ (.head _), fun p hp => ⟨k _ _ (N p hp).1, (N p hp).2⟩⟩
theorem news_app {h₀ h h' : Heap} (F : Fr h₀ L h m) (N : News h₀ L h big) (k : ∀ b o, h.get? b = some o → h'.get? b = some o) (hl : ∀ q ∈ led, h'.get? q.1 = some q.2 ∧ h.get? q.1 = none) : News h₀ L h' (big ++ led) := fun p hp =>
  (List.mem_append.mp hp).elim (fun hp => ⟨k _ _ (N p hp).1, (N p hp).2⟩) fun hp => news_new F hl p hp
theorem off_lt {d : Addr} (l : ∀ p ∈ big, p.1 < d) (sub : ∀ p ∈ tabsN p1 p2 ++ [(L + 1 + 1, o1), (L + 1, o2)], p ∈ big) : d ≠ T1 ∧ d ≠ T2 ∧ d ≠ L + 1 + 1 ∧ d ≠ L + 1 :=
  have z := fun p hp => Nat.ne_of_gt (l p (sub p hp))
  ⟨z _ (.head _), z _ (.tail _ (.head _)), z _ (.tail _ (.tail _ (.head _))), z _ (.tail _ (.tail _ (.tail _ (.head _))))⟩
theorem off_new1 {h : Heap} {b : Addr} (N : News (lowH h0) L h big) (z : h.get? b = none) : ∀ p ∈ big, b ≠ p.1 := fun p hp e => by
  rw [e, (N p hp).1] at z; cases z
theorem off_new {h h' : Heap} (N : News (lowH h0) L h big) (sub : ∀ p ∈ tabsN p1 p2 ++ [(L + 1 + 1, o1), (L + 1, o2)], p ∈ big) (hl : ∀ q ∈ led, h'.get? q.1 = some q.2 ∧ h.get? q.1 = none) : ∀ p ∈ led, p.1 ≠ T1 ∧ p.1 ≠ T2 ∧ p.1 ≠ L + 1 + 1 ∧ p.1 ≠ L + 1 := fun p hp =>
  have z := off_new1 N (hl p hp).2
  ⟨z _ (sub _ (.head _)), z _ (sub _ (.tail _ (.head _))), z _ (sub _ (.tail _ (.tail _ (.head _)))), z _ (sub _ (.tail _ (.tail _ (.tail _ (.head _)))))⟩
/-- the end of a statement that changed the heap alone -/
theorem LawS.quiet (F : Fr (lowH h0) L s'.heap m) (N : News (lowH h0) L s'.heap big) (hk : ∀ p ∈ ps', m p.1 = some p.2) (sub : ∀ p ∈ tabsN p1 p2 ++ (L + 1 + 1, o1) :: (L + 1, o2) :: led', p ∈ big) (off : ∀ p ∈ led', p.1 ≠ T1 ∧ p.1 ≠ T2 ∧ p.1 ≠ L + 1 + 1 ∧ p.1 ≠ L + 1) (k1 : TriplesOk p1.toList) (k2 : TriplesOk p2.toList)
    (d1 : o1.data = .cell x1) (d2 : o2.data = .cell x2) (g : ∀ (i : Nat) x, g0[i]? = some x → s'.gens[i]? = some x) (b : AllBare g0 → AllBare s'.gens) (o : s'.os = o0) : LawS h0 L g0 o0 ps' x1 x2 led' s' := by
  refine ⟨⟨m, p1, p2, o1, o2, ?_, fun p hp => N p (sub p hp), k1, k2, d1, d2⟩, off, g, b, o⟩
  have e : kstB m ps' = m := funext fun z => kstB_eq hk fun _ => rfl
  rw [e]; exact F
theorem law_news {h : Heap} (N : News (lowH h0) L h (tabsN p1 p2 ++ (L + 1 + 1, o1) :: (L + 1, o2) :: led)) (d1 : o1.data = .cell x1) (d2 : o2.data = .cell x2) (off : ∀ p ∈ led, p.1 ≠ T1 ∧ p.1 ≠ T2 ∧ p.1 ≠ L + 1 + 1 ∧ p.1 ≠ L + 1) : ∀ p ∈ (L + 1 + 1, o1) :: (L + 1, o2) :: led, p.1 ≠ T1 ∧ p.1 ≠ T2 := fun p hp => by
  have sub : ∀ q ∈ tabsN p1 p2 ++ [(L + 1 + 1, o1), (L + 1, o2)], q ∈ tabsN p1 p2 ++ (L + 1 + 1, o1) :: (L + 1, o2) :: led := fun q hq => by
    rcases List.mem_append.mp hq with hq | hq
    · exact List.mem_append_left _ hq
    · refine List.mem_append_right _ ?_
      rcases List.mem_cons.mp hq with rfl | hq
      · exact .head _
      · rw [List.mem_singleton.mp hq]; exact .tail _ (.head _)
  have c := law_offc N sub d1 d2
  rcases List.mem_cons.mp hp with rfl | hp
  · exact c.1
  · rcases List.mem_cons.mp hp with rfl | hp
    · exact c.2
    · exact ⟨(off p hp).1, (off p hp).2.1⟩
theorem LawS.gr (S : LawS h0 L g0 o0 ps x1 x2 led s) (g : Gr s s') : LawS h0 L g0 o0 ps x1 x2 led s' := by
  obtain ⟨⟨u, p1, p2, o1, o2, F, N, k1, k2, d1, d2⟩, off, gk, gb, go⟩ := S
  have F' := fr_gr F N (.head _) (.tail _ (.head _)) g
  obtain ⟨q1, q2, j1, j2, N'⟩ := news_gr N (law_news N d1 d2 off) k1 k2 g
  exact ⟨⟨u, q1, q2, o1, o2, F', N', j1, j2, d1, d2⟩, off, fun i x e => g.gens i x (gk i x e), fun x => g.bare (gb x), g.os.trans go⟩
theorem LawS.ok (S : LawS h0 L g0 o0 ps x1 x2 led s) (X : (fragK w.params).In (lowH h0)) (T : TopRead viewP (looseW viewP looseV) mg mb (lowH h0)) : Ok w s.heap := by
  obtain ⟨⟨u, p1, p2, o1, o2, F, N, k1, k2, d1, d2⟩, _⟩ := S
  exact ok_here X T F N (.head _) (.tail _ (.head _)) k1 k2
end

end Mine
end
section -- W31
open PySem PySem.W PySem.Calls PyProof.Rows
set_option maxRecDepth 100000
set_option maxHeartbeats 4000000
namespace Mine
theorem fillOk_W31 : (PySem.Challenge.rw_vn0025_01 = PySem.Challenge.rw_vn0025_01 ∧ fragK = fragK) := fillOk_W1
local macro_rules | `(tactic| walk_at "MINE enter") => `(tactic| (
  k_dflt ((case' ok => assumption); (case' ho => k_is); (case' hcd => k_is); (case' hroom => ((try dsimp only); omega)); (case' hb => conv => lhs; whnf); (case' hs => conv => lhs; whnf); (case' hbind => first | exact BindsTo.of_eq rfl | exact binds_K (Ok.frag (by assumption)) rfl (by k_is) rfl rfl rfl); (case' hloc => exact locs rfl); (case' hco => exact rfl); (case' hgen => exact rfl); (case' hk => exact rfl); (case' hcell => decide))))
local macro_rules | `(tactic| walk_at "MINE centerC") => `(tactic| (
  k_dflt ((case' ok => assumption); (case' ho => k_is); (case' hcd => k_is); (case' hroom => ((try dsimp only); omega)); (case' hb => conv => lhs; whnf); (case' hs => conv => lhs; whnf); (case' hbind => first | exact BindsTo.of_eq rfl | exact binds_K (Ok.frag (by assumption)) rfl (by k_is) rfl rfl rfl); (case' hloc => exact kindsX rfl); (case' hco => exact rfl); (case' hgen => exact rfl); (case' hk => exact rfl); (case' hcell => decide))))
local macro_rules | `(tactic| walk_at "exec For Name Name cons nil") => `(tactic| refine unhold ?_)
local macro_rules | `(tactic| walk_at "exec For Name Call cons nil") => `(tactic| refine unhold ?_)
local macro_rules | `(tactic| walk_at "pyIter ref") => `(tactic| ((with_reducible show wpAny _ _ (pyIter (Value.ref _)) (fun it s₂ => LoopAtV _ _ _ _ _ _ _ _ _ it s₂) _ _); refine unhold ?_))
local macro_rules | `(tactic| walk_at "eval ListComp") => `(tactic| refine unhold ?_)
local macro_rules | `(tactic| walk_at "exec Assign cons ListComp") => `(tactic| refine unhold ?_)
local macro_rules | `(tactic| walk_at "exec While Compare cons nil") => `(tactic| refine unhold ?_)
local macro_rules | `(tactic| walk_at "eval Name") => `(tactic| (k_here; (with_reducible show wpAny _ _ (eval (Expr.Name _ _) (compEnvC _ _ _ _)) _ _ _); k_dflt (first
  | refine LCgL.ld_own (by k_asm) (by k_mem) (by assumption) (by assumption) ?_
  | refine my_global (by k_asm) (by k_asm) (by k_asm) (by k_is) ?_
  | refine my_built (by k_asm) (by k_asm) (by k_asm) (by k_is) (by boot_by_name) (by decide) ?_)))
local macro_rules | `(tactic| walk_at "binaryOp Add ref ref") => `(tactic| (k_here; (with_reducible show wpAny _ _ (binaryOp _ (Value.ref _) (Value.ref _)) _ _ _); k_dflt (refine' kmk_add_ints ?F ?N ?a ?b ?i ?j ?_ ?z; (case F => k_asm); (case N => k_asm); (case a => kmk_list); (case b => kmk_list); (case i => l_ints); (case j => l_ints); (case z => ((simp only [sizeLine_eq, List.length_append, List.length_map, List.length_cons, List.length_nil, Array.length_toList, KBw.ints_length]); omega))); intro D' ws' h' F' N' l1 hI'; (try k_lt l1); (try k_sweep)))
local macro_rules | `(tactic| walk_at "binaryOp Add str str") => `(tactic| (k_here; (refine my_add_str ?_ ?kz; (case kz => ((simp only [PySem.Str.length_append]; (try simp only [my_len1]); omega)))); intro _ _))
local macro_rules | `(tactic| walk_at "call builtin:list.append") => `(tactic| (k_here; (with_reducible show wpAny _ _ (call (Value.builtin _) [Value.ref _, _]) _ _ _); k_dflt (refine' append_K ?k1 ?k2 ?k3 ?_ ?z; (case k1 => k_asm); (case k2 => k_asm); (case k3 => k_upd); (case z => (simp only [List.size_toArray, sizeLine_eq]; omega)); k_whole); intro h' F' N'; (try k_sweep)))
local macro_rules | `(tactic| walk_at "MINE sub") => `(tactic| (intro p hp; (try simp only [tabsN, List.cons_append, List.nil_append, List.append_assoc, List.mem_cons, List.mem_append, List.not_mem_nil, or_false, false_or] at hp ⊢); (repeat' (refine Or.elim hp (fun hp => ?_) (fun hp => ?_))); all_goals walk_at "MINE or"))
local macro_rules | `(tactic| walk_at "MINE or") => `(tactic| first | assumption | (refine Or.inl ?_; assumption) | (refine Or.inr ?_; walk_at "MINE or"))
local macro_rules | `(tactic| kmk_nums) => `(tactic| first
  | ((with_reducible refine' kmk_from ?gi ?gx); (case gi => l_ints); (case gx => first | kssn_s | exact Int.natCast_nonneg _))
  | ((with_reducible refine' kmk_upto ?gi ?gx); (case gi => l_ints); (case gx => first | kssn_s | exact Int.natCast_nonneg _))
  | ((with_reducible refine' kmk_run ?gi ?gx ?gy); (case gi => l_ints); (case gx => kssn_s); (case gy => kssn_s)))
variable {w : World} {A : Around} {Q : Flow → Shared → Prop} {E : Value → Shared → Prop} {h0 : Heap} {L : Addr} {mg mb : Str → Option Value} {g0 : Array GenState} {o0 : OsState} {s : Shared}
-- @HEAD2
-- @HEADL
theorem st_0 {l : Addr} {vs : List Value} {ns : List Int} (X : (fragK w.params).In (lowH h0)) (T : TopRead viewP (looseW viewP looseV) mg mb (lowH h0)) (r : Room A 15 80) (hl : (lowH h0).IsList l vs.toArray) (hi : IntsAre vs ns) (hlen : ns.length ≤ 63)
   (S : LawS h0 L g0 o0 [(.ofString "script", .ref l)] none none [] s)
   (hQ : ∀ s' a pvs cap, LawS h0 L g0 o0 [(.ofString "script", .ref l), (.ofString "picks", .ref a)] none none [(a, W.listOf pvs.toArray cap)] s' → IntsAre pvs (picksOf ns) → Q .next s') :
   wpAny (model PG w) A (exec (lawB 0) (lawV L)) Q E s := by
  obtain ⟨⟨u, p1, p2, o1, o2, F, N, k1, k2, d1, d2⟩, off, gk, gb, go⟩ := S
  obtain ⟨h, gs, dr, tk, os⟩ := s
  obtain ⟨hd, hu, hh⟩ := r
  have := fillOk_W31; clear this
  w_on
  obtain ⟨hdl, dep, frs, gds, un⟩ := A
  dsimp only at *
  subst hh
  refine st_enter (x' := ?xx) (sc' := ?ss) ?hx ?hs ?_
  case' hx => conv => lhs; whnf
  case' hs => conv => lhs; whnf
  dsimp only [kstB] at F go gk gb N hd hu
  k_steps
  rename_i D ws h9 hI l1 h10 F5 N5
  refine hQ _ D ws 0 (LawS.quiet (p1 := p1) (p2 := p2) F5 N5 (by kst_all) (by walk_at "MINE sub") (List.forall_mem_cons.mpr ⟨?_, off⟩) k1 k2 d1 d2 gk gb go) hI
  exact law_off N5 (p1 := p1) (p2 := p2) (by walk_at "MINE sub") d1 d2 (.head _)

theorem st_1 {a : Addr} {pvs : List Value} {cap : Nat} {l : Addr} {vs : List Value} {ns : List Int} (X : (fragK w.params).In (lowH h0)) (T : TopRead viewP (looseW viewP looseV) mg mb (lowH h0)) (r : Room A 15 80) (hl : (lowH h0).IsList l vs.toArray) (hi : IntsAre vs ns) (hlen : ns.length ≤ 63)
   (S : LawS h0 L g0 o0 [(.ofString "script", .ref l), (.ofString "picks", .ref a)] none none [(a, W.listOf pvs.toArray cap)] s)
   (hQ : ∀ s' b dvs cap', LawS h0 L g0 o0 [(.ofString "picks", .ref a), (.ofString "draws", .ref b)] none none [(b, W.listOf dvs.toArray cap'), (a, W.listOf pvs.toArray cap)] s' → IntsAre dvs (drawsOf ns) → b ≠ a → Q .next s') :
   wpAny (model PG w) A (exec (lawB 1) (lawV L)) Q E s := by
  obtain ⟨⟨u, p1, p2, o1, o2, F, N, k1, k2, d1, d2⟩, off, gk, gb, go⟩ := S
  obtain ⟨h, gs, dr, tk, os⟩ := s
  obtain ⟨hd, hu, hh⟩ := r
  have := fillOk_W31; clear this
  w_on
  obtain ⟨hdl, dep, frs, gds, un⟩ := A
  dsimp only at *
  subst hh
  refine st_enter (x' := ?xx) (sc' := ?ss) ?hx ?hs ?_
  case' hx => conv => lhs; whnf
  case' hs => conv => lhs; whnf
  dsimp only [kstB] at F go gk gb N hd hu
  have gt : GoT := ⟨⟩
  by_cases h7 : 7 < ns.length
  · have h7' : ((7 : Nat) : Int) < ns.length := by omega
    k_steps
    rename_i D ws h9 l1 hI hC hL h10 F5 N5
    refine hQ _ D ws 0 (LawS.quiet (p1 := p1) (p2 := p2) F5 N5 (by kst_all) (by walk_at "MINE sub") (List.forall_mem_cons.mpr ⟨?_, off⟩) k1 k2 d1 d2 gk gb go) ?_ ?_
    · exact law_off N5 (p1 := p1) (p2 := p2) (by walk_at "MINE sub") d1 d2 (.head _)
    · unfold drawsOf
      rw [if_pos h7]
      have e : (ns.drop 7).take 7 = (ns.drop 7).take (min 14 ns.length - 7) := by
        by_cases h : 14 ≤ ns.length
        · rw [Nat.min_eq_left h]
        · rw [Nat.min_eq_right (by omega), List.take_of_length_le (by rw [List.length_drop]; omega), List.take_of_length_le (by rw [List.length_drop]; first | done | omega)]
      rw [e]; exact hI
    · exact fun e => by have := l1 (a, W.listOf pvs.toArray cap) (by k_mem); subst e; exact Nat.lt_irrefl _ this
  · have h7' : ¬ ((7 : Nat) : Int) < ns.length := by omega
    k_steps
    rename_i D h9 l1 h10 F5 N5
    refine hQ _ D [Value.int 9 (tk + 1 + 1 + 1), Value.int 16 (tk + 1 + 1 + 1 + 1), Value.int 30 (tk + 1 + 1 + 1 + 1 + 1)] 0 (LawS.quiet (p1 := p1) (p2 := p2) F5 N5 (by kst_all) (by walk_at "MINE sub") (List.forall_mem_cons.mpr ⟨?_, off⟩) k1 k2 d1 d2 gk gb go) ?_ ?_
    · exact law_off (vs := [Value.int 9 (tk + 1 + 1 + 1), Value.int 16 (tk + 1 + 1 + 1 + 1), Value.int 30 (tk + 1 + 1 + 1 + 1 + 1)]) N5 (p1 := p1) (p2 := p2) (by walk_at "MINE sub") d1 d2 (.head _)
    · unfold drawsOf
      rw [if_neg h7]
      exact .cons _ _ (.cons _ _ (.cons _ _ .nil))
    · exact fun e => by have := l1 (a, W.listOf pvs.toArray cap) (by k_mem); subst e; exact Nat.lt_irrefl _ this

end Mine
end
section -- W32
open PySem PySem.W PySem.Calls PyProof.Rows
set_option maxRecDepth 100000
set_option maxHeartbeats 4000000
namespace Mine
theorem fillOk_W32 : (PySem.Challenge.rw_vn0025_01 = PySem.Challenge.rw_vn0025_01 ∧ fragK = fragK) := fillOk_W1
local macro_rules | `(tactic| walk_at "MINE enter") => `(tactic| (
  k_dflt ((case' ok => assumption); (case' ho => k_is); (case' hcd => k_is); (case' hroom => ((try dsimp only); omega)); (case' hb => conv => lhs; whnf); (case' hs => conv => lhs; whnf); (case' hbind => first | exact BindsTo.of_eq rfl | exact binds_K (Ok.frag (by assumption)) rfl (by k_is) rfl rfl rfl); (case' hloc => exact locs rfl); (case' hco => exact rfl); (case' hgen => exact rfl); (case' hk => exact rfl); (case' hcell => decide))))
local macro_rules | `(tactic| walk_at "MINE centerC") => `(tactic| (
  k_dflt ((case' ok => assumption); (case' ho => k_is); (case' hcd => k_is); (case' hroom => ((try dsimp only); omega)); (case' hb => conv => lhs; whnf); (case' hs => conv => lhs; whnf); (case' hbind => first | exact BindsTo.of_eq rfl | exact binds_K (Ok.frag (by assumption)) rfl (by k_is) rfl rfl rfl); (case' hloc => exact kindsX rfl); (case' hco => exact rfl); (case' hgen => exact rfl); (case' hk => exact rfl); (case' hcell => decide))))
local macro_rules | `(tactic| walk_at "exec For Name Name cons nil") => `(tactic| refine unhold ?_)
local macro_rules | `(tactic| walk_at "exec For Name Call cons nil") => `(tactic| refine unhold ?_)
local macro_rules | `(tactic| walk_at "pyIter ref") => `(tactic| ((with_reducible show wpAny _ _ (pyIter (Value.ref _)) (fun it s₂ => LoopAtV _ _ _ _ _ _ _ _ _ it s₂) _ _); refine unhold ?_))
local macro_rules | `(tactic| walk_at "eval ListComp") => `(tactic| refine unhold ?_)
local macro_rules | `(tactic| walk_at "exec Assign cons ListComp") => `(tactic| refine unhold ?_)
local macro_rules | `(tactic| walk_at "exec While Compare cons nil") => `(tactic| refine unhold ?_)
local macro_rules | `(tactic| walk_at "eval Name") => `(tactic| (k_here; (with_reducible show wpAny _ _ (eval (Expr.Name _ _) (compEnvC _ _ _ _)) _ _ _); k_dflt (first
  | refine LCgL.ld_own (by k_asm) (by k_mem) (by assumption) (by assumption) ?_
  | refine my_global (by k_asm) (by k_asm) (by k_asm) (by k_is) ?_
  | refine my_built (by k_asm) (by k_asm) (by k_asm) (by k_is) (by boot_by_name) (by decide) ?_)))
local macro_rules | `(tactic| walk_at "binaryOp Add ref ref") => `(tactic| (k_here; (with_reducible show wpAny _ _ (binaryOp _ (Value.ref _) (Value.ref _)) _ _ _); k_dflt (refine' kmk_add_ints ?F ?N ?a ?b ?i ?j ?_ ?z; (case F => k_asm); (case N => k_asm); (case a => kmk_list); (case b => kmk_list); (case i => l_ints); (case j => l_ints); (case z => ((simp only [sizeLine_eq, List.length_append, List.length_map, List.length_cons, List.length_nil, Array.length_toList, KBw.ints_length]); omega))); intro D' ws' h' F' N' l1 hI'; (try k_lt l1); (try k_sweep)))
local macro_rules | `(tactic| walk_at "binaryOp Add str str") => `(tactic| (k_here; (refine my_add_str ?_ ?kz; (case kz => ((simp only [PySem.Str.length_append]; (try simp only [my_len1]); omega)))); intro _ _))
local macro_rules | `(tactic| walk_at "call builtin:list.append") => `(tactic| (k_here; (with_reducible show wpAny _ _ (call (Value.builtin _) [Value.ref _, _]) _ _ _); k_dflt (refine' append_K ?k1 ?k2 ?k3 ?_ ?z; (case k1 => k_asm); (case k2 => k_asm); (case k3 => k_upd); (case z => (simp only [List.size_toArray, sizeLine_eq]; omega)); k_whole); intro h' F' N'; (try k_sweep)))
local macro_rules | `(tactic| walk_at "MINE sub") => `(tactic| (intro p hp; (try simp only [tabsN, List.cons_append, List.nil_append, List.append_assoc, List.mem_cons, List.mem_append, List.not_mem_nil, or_false, false_or] at hp ⊢); (repeat' (refine Or.elim hp (fun hp => ?_) (fun hp => ?_))); all_goals walk_at "MINE or"))
local macro_rules | `(tactic| walk_at "MINE or") => `(tactic| first | assumption | (refine Or.inl ?_; assumption) | (refine Or.inr ?_; walk_at "MINE or"))
local macro_rules | `(tactic| kmk_nums) => `(tactic| first
  | ((with_reducible refine' kmk_from ?gi ?gx); (case gi => l_ints); (case gx => first | kssn_s | exact Int.natCast_nonneg _))
  | ((with_reducible refine' kmk_upto ?gi ?gx); (case gi => l_ints); (case gx => first | kssn_s | exact Int.natCast_nonneg _))
  | ((with_reducible refine' kmk_run ?gi ?gx ?gy); (case gi => l_ints); (case gx => kssn_s); (case gy => kssn_s)))
variable {w : World} {A : Around} {Q : Flow → Shared → Prop} {E : Value → Shared → Prop} {h0 : Heap} {L : Addr} {mg mb : Str → Option Value} {g0 : Array GenState} {o0 : OsState} {s : Shared}
-- @HEAD2
-- @HEADL
theorem st_2 {a : Addr} {pvs : List Value} {cap : Nat} {b : Addr} {dvs : List Value} {cap' : Nat} {dns : List Int} (X : (fragK w.params).In (lowH h0)) (T : TopRead viewP (looseW viewP looseV) mg mb (lowH h0)) (r : Room A 15 80) (hi : IntsAre dvs dns) (hlen : dns.length ≤ 7)
   (hb1 : b ≠ a)
   (S : LawS h0 L g0 o0 [(.ofString "picks", .ref a), (.ofString "draws", .ref b)] none none [(b, W.listOf dvs.toArray cap'), (a, W.listOf pvs.toArray cap)] s)
   (hQ : ∀ s' v led, LawS h0 L g0 o0 [(.ofString "picks", .ref a), (.ofString "tree", v)] none none ((a, W.listOf pvs.toArray cap) :: led) s' → RL led (growT 2 dns).1 v → Q .next s') :
   wpAny (model PG w) A (exec (lawB 2) (lawV L)) Q E s := by
  obtain ⟨⟨u, p1, p2, o1, o2, F, N, k1, k2, d1, d2⟩, off, gk, gb, go⟩ := S
  obtain ⟨h, gs, dr, tk, os⟩ := s
  obtain ⟨hd, hu, hh⟩ := r
  have := fillOk_W32; clear this
  w_on
  obtain ⟨hdl, dep, frs, gds, un⟩ := A
  dsimp only at *
  subst hh
  refine st_enter (x' := ?xx) (sc' := ?ss) ?hx ?hs ?_
  case' hx => conv => lhs; whnf
  case' hs => conv => lhs; whnf
  dsimp only [kstB] at F go gk gb N hd hu
  k_steps
  have F5 := (show Fr (lowH h0) L _ _ by assumption)
  have N5 := (show News (lowH h0) L _ _ by assumption)
  have ok5 := ok_here X T F5 N5 (p1 := p1) (p2 := p2) (by k_mem) (by k_mem) k1 k2
  refine tree_spec b dvs dns cap' _ (N5 (b, W.listOf dvs.toArray cap') (by k_mem)).1 hi (by omega) ok5 ⟨(by show dep + _ < _; omega), (by show un + _ < _; omega), rfl⟩ fun h9 tk9 v9 vs9 cap9 led9 k9 e9 i9 r9 l9 => ?_
  have nb := N5 (b, W.listOf dvs.toArray cap') (by k_mem)
  have F9 := fr_but F5 nb.2.1 nb.2.2 k9
  have hsub : ∀ p ∈ tabsN p1 p2 ++ [(L + 1 + 1, o1), (L + 1, o2)], p ∈ tabsN p1 p2 ++ (L + 1 + 1, o1) :: (L + 1, o2) :: (b, W.listOf dvs.toArray cap') :: (a, W.listOf pvs.toArray cap) :: [] := by walk_at "MINE sub"
  have offb := off _ (.head _)
  have N9 : News (lowH h0) L h9 (tabsN p1 p2 ++ (L + 1 + 1, o1) :: (L + 1, o2) :: (a, W.listOf pvs.toArray cap) :: led9) := by
    intro p hp
    have hp : p ∈ (tabsN p1 p2 ++ [(L + 1 + 1, o1), (L + 1, o2), (a, W.listOf pvs.toArray cap)]) ++ led9 := by rw [List.append_assoc]; exact hp
    rcases List.mem_append.mp hp with hp | hp
    · refine news_but (led := tabsN p1 p2 ++ [(L + 1 + 1, o1), (L + 1, o2), (a, W.listOf pvs.toArray cap)]) (fun q hq => N5 q (by revert q; walk_at "MINE sub")) (fun q hq => ?_) k9 p hp
      rcases List.mem_append.mp hq with hq | hq
      · rcases List.mem_cons.mp hq with rfl | hq
        · exact offb.1.symm
        · rw [List.mem_singleton.mp hq]; exact offb.2.1.symm
      · rcases List.mem_cons.mp hq with rfl | hq
        · exact offb.2.2.1.symm
        · rcases List.mem_cons.mp hq with rfl | hq
          · exact offb.2.2.2.symm
          · rw [List.mem_singleton.mp hq]; exact hb1.symm
    · exact news_new F5 l9 p hp
  have o9 := off_new N5 (p1 := p1) (p2 := p2) hsub l9
  clear F N F5 N5
  k_steps
  have F6 := (show Fr (lowH h0) L _ (fun y => if y = Str.ofString "tree" then _ else _) by assumption)
  have N6 := (show News (lowH h0) L _ _ by assumption)
  refine hQ _ v9 led9 (LawS.quiet (p1 := p1) (p2 := p2) F6 N6 (by kst_all) (fun p hp => hp) ?_ k1 k2 d1 d2 gk gb go) r9
  exact List.forall_mem_cons.mpr ⟨off _ (.tail _ (.head _)), o9⟩
theorem st_3 {a : Addr} {pvs : List Value} {cap : Nat} {t : RT} {v : Value} {led : List (Addr × Obj)} (X : (fragK w.params).In (lowH h0)) (T : TopRead viewP (looseW viewP looseV) mg mb (lowH h0)) (r : Room A 15 80) (hok : t.ok) (hdp : t.deep ≤ 3) (hr : RL led t v)
   (S : LawS h0 L g0 o0 [(.ofString "picks", .ref a), (.ofString "tree", v)] none none ((a, W.listOf pvs.toArray cap) :: led) s)
   (hQ : ∀ s' tk, LawS h0 L g0 o0 [(.ofString "picks", .ref a), (.ofString "tree", v), (.ofString "octets", .bytes t.enc.toArray tk)] none none ((a, W.listOf pvs.toArray cap) :: led) s' → Q .next s') :
   wpAny (model PG w) A (exec (lawB 3) (lawV L)) Q E s := by
  obtain ⟨⟨u, p1, p2, o1, o2, F, N, k1, k2, d1, d2⟩, off, gk, gb, go⟩ := S
  obtain ⟨h, gs, dr, tk, os⟩ := s
  obtain ⟨hd, hu, hh⟩ := r
  have := fillOk_W32; clear this
  w_on
  obtain ⟨hdl, dep, frs, gds, un⟩ := A
  dsimp only at *
  subst hh
  refine st_enter (x' := ?xx) (sc' := ?ss) ?hx ?hs ?_
  case' hx => conv => lhs; whnf
  case' hs => conv => lhs; whnf
  dsimp only [kstB] at F go gk gb N hd hu
  k_steps
  have F5 := (show Fr (lowH h0) L _ _ by assumption)
  have N5 := (show News (lowH h0) L _ _ by assumption)
  have ok5 := ok_here X T F5 N5 (p1 := p1) (p2 := p2) (by k_mem) (by k_mem) k1 k2
  have lr : RAt (lowH h) t v := RL.at (fun q hq => low_get (off q (.tail _ hq)).1 (off q (.tail _ hq)).2.1 (N5 q (List.mem_append_right _ (.tail _ (.tail _ (.tail _ hq))))).1) _ _ hr
  with_unfolding_all show wpAny _ _ (call (.ref 478) [v] [(.ofString "infer_serializer", .bool false)]) _ _ _
  refine encode_spec t hok v lr ok5 ⟨(by show dep + _ < _; omega), (by show un + _ < _; omega), rfl⟩ fun s' tok g => ?_
  obtain ⟨h6, g6, d6, tk6, os6⟩ := s'
  have F6 := fr_gr F5 N5 (.head _) (.tail _ (.head _)) g
  obtain ⟨q1, q2, j1, j2, N6⟩ := news_gr N5 (law_news N5 d1 d2 off) k1 k2 g
  clear F N F5 N5
  dsimp only at F6 N6
  k_steps
  have F7 := (show Fr (lowH h0) L _ (fun y => if y = Str.ofString "octets" then _ else _) by assumption)
  have N7 := (show News (lowH h0) L _ _ by assumption)
  exact hQ _ tok (LawS.quiet (p1 := q1) (p2 := q2) F7 N7 (by kst_all) (fun p hp => hp) off j1 j2 d1 d2 (fun i x e => g.gens i x (gk i x e)) (fun x => g.bare (gb x)) (g.os.trans go))

end Mine
end
section -- W33
open PySem PySem.W PySem.Calls PyProof.Rows
set_option maxRecDepth 100000
set_option maxHeartbeats 4000000
namespace Mine
theorem fillOk_W33 : (PySem.Challenge.rw_vn0025_01 = PySem.Challenge.rw_vn0025_01 ∧ fragK = fragK) := fillOk_W1
local macro_rules | `(tactic| walk_at "MINE enter") => `(tactic| (
  k_dflt ((case' ok => assumption); (case' ho => k_is); (case' hcd => k_is); (case' hroom => ((try dsimp only); omega)); (case' hb => conv => lhs; whnf); (case' hs => conv => lhs; whnf); (case' hbind => first | exact BindsTo.of_eq rfl | exact binds_K (Ok.frag (by assumption)) rfl (by k_is) rfl rfl rfl); (case' hloc => exact locs rfl); (case' hco => exact rfl); (case' hgen => exact rfl); (case' hk => exact rfl); (case' hcell => decide))))
local macro_rules | `(tactic| walk_at "MINE centerC") => `(tactic| (
  k_dflt ((case' ok => assumption); (case' ho => k_is); (case' hcd => k_is); (case' hroom => ((try dsimp only); omega)); (case' hb => conv => lhs; whnf); (case' hs => conv => lhs; whnf); (case' hbind => first | exact BindsTo.of_eq rfl | exact binds_K (Ok.frag (by assumption)) rfl (by k_is) rfl rfl rfl); (case' hloc => exact kindsX rfl); (case' hco => exact rfl); (case' hgen => exact rfl); (case' hk => exact rfl); (case' hcell => decide))))
local macro_rules | `(tactic| walk_at "exec For Name Name cons nil") => `(tactic| refine unhold ?_)
local macro_rules | `(tactic| walk_at "exec For Name Call cons nil") => `(tactic| refine unhold ?_)
local macro_rules | `(tactic| walk_at "pyIter ref") => `(tactic| ((with_reducible show wpAny _ _ (pyIter (Value.ref _)) (fun it s₂ => LoopAtV _ _ _ _ _ _ _ _ _ it s₂) _ _); refine unhold ?_))
local macro_rules | `(tactic| walk_at "eval ListComp") => `(tactic| refine unhold ?_)
local macro_rules | `(tactic| walk_at "exec Assign cons ListComp") => `(tactic| refine unhold ?_)
local macro_rules | `(tactic| walk_at "exec While Compare cons nil") => `(tactic| refine unhold ?_)
local macro_rules | `(tactic| walk_at "eval Name") => `(tactic| (k_here; (with_reducible show wpAny _ _ (eval (Expr.Name _ _) (compEnvC _ _ _ _)) _ _ _); k_dflt (first
  | refine LCgL.ld_own (by k_asm) (by k_mem) (by assumption) (by assumption) ?_
  | refine my_global (by k_asm) (by k_asm) (by k_asm) (by k_is) ?_
  | refine my_built (by k_asm) (by k_asm) (by k_asm) (by k_is) (by boot_by_name) (by decide) ?_)))
local macro_rules | `(tactic| walk_at "binaryOp Add ref ref") => `(tactic| (k_here; (with_reducible show wpAny _ _ (binaryOp _ (Value.ref _) (Value.ref _)) _ _ _); k_dflt (refine' kmk_add_ints ?F ?N ?a ?b ?i ?j ?_ ?z; (case F => k_asm); (case N => k_asm); (case a => kmk_list); (case b => kmk_list); (case i => l_ints); (case j => l_ints); (case z => ((simp only [sizeLine_eq, List.length_append, List.length_map, List.length_cons, List.length_nil, Array.length_toList, KBw.ints_length]); omega))); intro D' ws' h' F' N' l1 hI'; (try k_lt l1); (try k_sweep)))
local macro_rules | `(tactic| walk_at "binaryOp Add str str") => `(tactic| (k_here; (refine my_add_str ?_ ?kz; (case kz => ((simp only [PySem.Str.length_append]; (try simp only [my_len1]); omega)))); intro _ _))
local macro_rules | `(tactic| walk_at "call builtin:list.append") => `(tactic| (k_here; (with_reducible show wpAny _ _ (call (Value.builtin _) [Value.ref _, _]) _ _ _); k_dflt (refine' append_K ?k1 ?k2 ?k3 ?_ ?z; (case k1 => k_asm); (case k2 => k_asm); (case k3 => k_upd); (case z => (simp only [List.size_toArray, sizeLine_eq]; omega)); k_whole); intro h' F' N'; (try k_sweep)))
local macro_rules | `(tactic| walk_at "MINE sub") => `(tactic| (intro p hp; (try simp only [tabsN, List.cons_append, List.nil_append, List.append_assoc, List.mem_cons, List.mem_append, List.not_mem_nil, or_false, false_or] at hp ⊢); (repeat' (refine Or.elim hp (fun hp => ?_) (fun hp => ?_))); all_goals walk_at "MINE or"))
local macro_rules | `(tactic| walk_at "MINE or") => `(tactic| first | assumption | (refine Or.inl ?_; assumption) | (refine Or.inr ?_; walk_at "MINE or"))
local macro_rules | `(tactic| kmk_nums) => `(tactic| first
  | ((with_reducible refine' kmk_from ?gi ?gx); (case gi => l_ints); (case gx => first | kssn_s | exact Int.natCast_nonneg _))
  | ((with_reducible refine' kmk_upto ?gi ?gx); (case gi => l_ints); (case gx => first | kssn_s | exact Int.natCast_nonneg _))
  | ((with_reducible refine' kmk_run ?gi ?gx ?gy); (case gi => l_ints); (case gx => kssn_s); (case gy => kssn_s)))
variable {w : World} {A : Around} {Q : Flow → Shared → Prop} {E : Value → Shared → Prop} {h0 : Heap} {L : Addr} {mg mb : Str → Option Value} {g0 : Array GenState} {o0 : OsState} {s : Shared}
-- @HEAD2
-- @HEADL
local macro_rules | `(tactic| walk_at "subscriptTail Name Constant ref int") => `(tactic| (k_here; (with_reducible show wpAny _ _ (subscriptTail _ _ (Value.ref _) (Value.int _ _)) _ _ _); (refine' item_list_ints ?k1 ?k2 ?k3 ?k4 ?k5 ?_; (case k1 => kmk_list); (case k2 => l_ints); (case k3 => decide); (case k4 => omega); (case k5 => omega)); intro _))
def humOf (n : Int) : String := if n.fmod 3 = 0 then "rlp" else if n.fmod 3 = 1 then "tree" else "a1b"
theorem humOf_at {n k : Int} (e : n.fmod 3 = k) : humOf n = if k = 0 then "rlp" else if k = 1 then "tree" else "a1b" := by subst e; rfl
theorem st_4 {a : Addr} {pvs : List Value} {cap : Nat} {v : Value} {b : Array UInt8} {tb : Tok} {led : List (Addr × Obj)} (X : (fragK w.params).In (lowH h0)) (T : TopRead viewP (looseW viewP looseV) mg mb (lowH h0)) {pns : List Int} (r : Room A 15 80) (hi : IntsAre pvs pns) (hlen : pns.length = 7)
   (S : LawS h0 L g0 o0 [(.ofString "picks", .ref a), (.ofString "tree", v), (.ofString "octets", .bytes b tb)] none none ((a, W.listOf pvs.toArray cap) :: led) s)
   (hQ : ∀ s' th, LawS h0 L g0 o0 [(.ofString "picks", .ref a), (.ofString "tree", v), (.ofString "octets", .bytes b tb), (.ofString "human", .str (.ofString (humOf (pns.getD 0 0))) th)] none none ((a, W.listOf pvs.toArray cap) :: led) s' → Q .next s') :
   wpAny (model PG w) A (exec (lawB 4) (lawV L)) Q E s := by
  obtain ⟨⟨u, p1, p2, o1, o2, F, N, k1, k2, d1, d2⟩, off, gk, gb, go⟩ := S
  obtain ⟨h, gs, dr, tk, os⟩ := s
  obtain ⟨hd, hu, hh⟩ := r
  have := fillOk_W33; clear this
  w_on
  obtain ⟨hdl, dep, frs, gds, un⟩ := A
  dsimp only at *
  subst hh
  refine st_enter (x' := ?xx) (sc' := ?ss) ?hx ?hs ?_
  case' hx => conv => lhs; whnf
  case' hs => conv => lhs; whnf
  dsimp only [kstB] at F go gk gb N hd hu
  k_steps
  have hm := fmod_range (a := pns.getD 0 0) (m := 3) (by decide)
  obtain e | e | e : (pns.getD (Int.toNat 0) 0).fmod 3 = 0 ∨ (pns.getD (Int.toNat 0) 0).fmod 3 = 1 ∨ (pns.getD (Int.toNat 0) 0).fmod 3 = 2 := by
    rw [show Int.toNat 0 = 0 from rfl]; omega
  all_goals have hum := humOf_at e
  all_goals rw [show Int.toNat 0 = 0 from rfl] at hum
  all_goals rw [e]
  all_goals rw [hum] at hQ
  all_goals k_steps
  all_goals rename_i h9 F5 N5
  all_goals exact hQ _ _ (LawS.quiet (p1 := p1) (p2 := p2) F5 N5 (by kst_all) (fun p hp => .tail _ hp) off k1 k2 d1 d2 gk gb go)

end Mine
end
section -- W34
open PySem PySem.W PySem.Calls PyProof.Rows
set_option maxRecDepth 100000
set_option maxHeartbeats 4000000
namespace Mine
theorem fillOk_W34 : (PySem.Challenge.rw_vn0025_01 = PySem.Challenge.rw_vn0025_01 ∧ fragK = fragK) := fillOk_W1
local macro_rules | `(tactic| walk_at "MINE enter") => `(tactic| (
  k_dflt ((case' ok => assumption); (case' ho => k_is); (case' hcd => k_is); (case' hroom => ((try dsimp only); omega)); (case' hb => conv => lhs; whnf); (case' hs => conv => lhs; whnf); (case' hbind => first | exact BindsTo.of_eq rfl | exact binds_K (Ok.frag (by assumption)) rfl (by k_is) rfl rfl rfl); (case' hloc => exact locs rfl); (case' hco => exact rfl); (case' hgen => exact rfl); (case' hk => exact rfl); (case' hcell => decide))))
local macro_rules | `(tactic| walk_at "MINE centerC") => `(tactic| (
  k_dflt ((case' ok => assumption); (case' ho => k_is); (case' hcd => k_is); (case' hroom => ((try dsimp only); omega)); (case' hb => conv => lhs; whnf); (case' hs => conv => lhs; whnf); (case' hbind => first | exact BindsTo.of_eq rfl | exact binds_K (Ok.frag (by assumption)) rfl (by k_is) rfl rfl rfl); (case' hloc => exact kindsX rfl); (case' hco => exact rfl); (case' hgen => exact rfl); (case' hk => exact rfl); (case' hcell => decide))))
local macro_rules | `(tactic| walk_at "exec For Name Name cons nil") => `(tactic| refine unhold ?_)
local macro_rules | `(tactic| walk_at "exec For Name Call cons nil") => `(tactic| refine unhold ?_)
local macro_rules | `(tactic| walk_at "pyIter ref") => `(tactic| ((with_reducible show wpAny _ _ (pyIter (Value.ref _)) (fun it s₂ => LoopAtV _ _ _ _ _ _ _ _ _ it s₂) _ _); refine unhold ?_))
local macro_rules | `(tactic| walk_at "eval ListComp") => `(tactic| refine unhold ?_)
local macro_rules | `(tactic| walk_at "exec Assign cons ListComp") => `(tactic| refine unhold ?_)
local macro_rules | `(tactic| walk_at "exec While Compare cons nil") => `(tactic| refine unhold ?_)
local macro_rules | `(tactic| walk_at "eval Name") => `(tactic| (k_here; (with_reducible show wpAny _ _ (eval (Expr.Name _ _) (compEnvC _ _ _ _)) _ _ _); k_dflt (first
  | refine LCgL.ld_own (by k_asm) (by k_mem) (by assumption) (by assumption) ?_
  | refine my_global (by k_asm) (by k_asm) (by k_asm) (by k_is) ?_
  | refine my_built (by k_asm) (by k_asm) (by k_asm) (by k_is) (by boot_by_name) (by decide) ?_)))
local macro_rules | `(tactic| walk_at "binaryOp Add ref ref") => `(tactic| (k_here; (with_reducible show wpAny _ _ (binaryOp _ (Value.ref _) (Value.ref _)) _ _ _); k_dflt (refine' kmk_add_ints ?F ?N ?a ?b ?i ?j ?_ ?z; (case F => k_asm); (case N => k_asm); (case a => kmk_list); (case b => kmk_list); (case i => l_ints); (case j => l_ints); (case z => ((simp only [sizeLine_eq, List.length_append, List.length_map, List.length_cons, List.length_nil, Array.length_toList, KBw.ints_length]); omega))); intro D' ws' h' F' N' l1 hI'; (try k_lt l1); (try k_sweep)))
local macro_rules | `(tactic| walk_at "binaryOp Add str str") => `(tactic| (k_here; (refine my_add_str ?_ ?kz; (case kz => ((simp only [PySem.Str.length_append]; (try simp only [my_len1]); omega)))); intro _ _))
local macro_rules | `(tactic| walk_at "call builtin:list.append") => `(tactic| (k_here; (with_reducible show wpAny _ _ (call (Value.builtin _) [Value.ref _, _]) _ _ _); k_dflt (refine' append_K ?k1 ?k2 ?k3 ?_ ?z; (case k1 => k_asm); (case k2 => k_asm); (case k3 => k_upd); (case z => (simp only [List.size_toArray, sizeLine_eq]; omega)); k_whole); intro h' F' N'; (try k_sweep)))
local macro_rules | `(tactic| walk_at "MINE sub") => `(tactic| (intro p hp; (try simp only [tabsN, List.cons_append, List.nil_append, List.append_assoc, List.mem_cons, List.mem_append, List.not_mem_nil, or_false, false_or] at hp ⊢); (repeat' (refine Or.elim hp (fun hp => ?_) (fun hp => ?_))); all_goals walk_at "MINE or"))
local macro_rules | `(tactic| walk_at "MINE or") => `(tactic| first | assumption | (refine Or.inl ?_; assumption) | (refine Or.inr ?_; walk_at "MINE or"))
local macro_rules | `(tactic| kmk_nums) => `(tactic| first
  | ((with_reducible refine' kmk_from ?gi ?gx); (case gi => l_ints); (case gx => first | kssn_s | exact Int.natCast_nonneg _))
  | ((with_reducible refine' kmk_upto ?gi ?gx); (case gi => l_ints); (case gx => first | kssn_s | exact Int.natCast_nonneg _))
  | ((with_reducible refine' kmk_run ?gi ?gx ?gy); (case gi => l_ints); (case gx => kssn_s); (case gy => kssn_s)))
variable {w : World} {A : Around} {Q : Flow → Shared → Prop} {E : Value → Shared → Prop} {h0 : Heap} {L : Addr} {mg mb : Str → Option Value} {g0 : Array GenState} {o0 : OsState} {s : Shared}
-- @HEAD2
-- @HEADL
theorem st_5 {a : Addr} {pvs : List Value} {cap : Nat} {v : Value} {b : Array UInt8} {tb th : Tok} {hm : Str} {led : List (Addr × Obj)} (X : (fragK w.params).In (lowH h0)) (T : TopRead viewP (looseW viewP looseV) mg mb (lowH h0)) (r : Room A 15 80) (hb : b.size ≤ 100)
   (S : LawS h0 L g0 o0 [(.ofString "picks", .ref a), (.ofString "tree", v), (.ofString "octets", .bytes b tb), (.ofString "human", .str hm th)] none none ((a, W.listOf pvs.toArray cap) :: led) s)
   (hQ : ∀ s' g gvs gcap, LawS h0 L g0 o0 [(.ofString "picks", .ref a), (.ofString "tree", v), (.ofString "human", .str hm th), (.ofString "signs", .ref g)] none none ((g, W.listOf gvs.toArray gcap) :: (a, W.listOf pvs.toArray cap) :: led) s' → IntsAre gvs (signsOf (b.toList.map fun x => (x.toNat : Int))) → Q .next s') :
   wpAny (model PG w) A (exec (lawB 5) (lawV L)) Q E s := by
  obtain ⟨⟨u, p1, p2, o1, o2, F, N, k1, k2, d1, d2⟩, off, gk, gb, go⟩ := S
  obtain ⟨h, gs, dr, tk, os⟩ := s
  obtain ⟨hd, hu, hh⟩ := r
  have := fillOk_W34; clear this
  w_on
  obtain ⟨hdl, dep, frs, gds, un⟩ := A
  dsimp only at *
  subst hh
  refine st_enter (x' := ?xx) (sc' := ?ss) ?hx ?hs ?_
  case' hx => conv => lhs; whnf
  case' hs => conv => lhs; whnf
  dsimp only [kstB] at F go gk gb N hd hu
  k_steps
  have F5 := (show Fr (lowH h0) L _ _ by assumption)
  have N5 := (show News (lowH h0) L _ _ by assumption)
  have ok5 := ok_here X T F5 N5 (p1 := p1) (p2 := p2) (by k_mem) (by k_mem) k1 k2
  refine convert_up_spec b tb _ _ (by omega) ok5 ⟨(by show dep + _ < _; omega), (by show un + _ < _; omega), rfl⟩ fun h9 tk9 g gvs gcap k9 n9 e9 i9 => ?_
  have F9 := F5.after k9
  have N9 : News (lowH h0) L h9 ((g, W.listOf gvs.toArray gcap) :: (tabsN p1 p2 ++ (L + 1 + 1, o1) :: (L + 1, o2) :: (a, W.listOf pvs.toArray cap) :: led)) := fun p hp => by
    rcases List.mem_cons.mp hp with rfl | hp
    · exact news_new (led := [(g, W.listOf gvs.toArray gcap)]) F5 (fun q hq => by rw [List.mem_singleton.mp hq]; exact ⟨e9, n9⟩) _ (.head _)
    · exact Mine.News.stays N5 k9 p hp
  clear F N F5 N5
  k_steps
  have F6 := (show Fr (lowH h0) L _ (fun y => if y = Str.ofString "signs" then _ else _) by assumption)
  have N6 := (show News (lowH h0) L _ _ by assumption)
  refine hQ _ g gvs gcap (LawS.quiet (p1 := p1) (p2 := p2) F6 N6 (by kst_all) (by walk_at "MINE sub") (List.forall_mem_cons.mpr ⟨?_, off⟩) k1 k2 d1 d2 gk gb go) i9
  exact law_off N6 (p1 := p1) (p2 := p2) (by walk_at "MINE sub") d1 d2 (.head _)
theorem st_6 {a : Addr} {pvs : List Value} {cap : Nat} {v : Value} {th : Tok} {hm : Str} {led : List (Addr × Obj)} {g : Addr} {gvs : List Value} {gns : List Int} {gcap : Nat} (X : (fragK w.params).In (lowH h0)) (T : TopRead viewP (looseW viewP looseV) mg mb (lowH h0)) (r : Room A 15 80) (hi : IntsAre gvs gns) (hns : ∀ n ∈ gns, 0 ≤ n ∧ n < 32) (ha : hm.cps.all (· < 128) = true) (hsz : hm.cps.size ≤ 80) (hn : gns.length ≤ 200)
   (S : LawS h0 L g0 o0 [(.ofString "picks", .ref a), (.ofString "tree", v), (.ofString "human", .str hm th), (.ofString "signs", .ref g)] none none ((g, W.listOf gvs.toArray gcap) :: (a, W.listOf pvs.toArray cap) :: led) s)
   (hQ : ∀ s' ta, LawS h0 L g0 o0 [(.ofString "picks", .ref a), (.ofString "tree", v), (.ofString "human", .str hm th), (.ofString "signs", .ref g)] none (some (.str (addrOf hm gns) ta)) ((g, W.listOf gvs.toArray gcap) :: (a, W.listOf pvs.toArray cap) :: led) s' → Q .next s') :
   wpAny (model PG w) A (exec (lawB 6) (lawV L)) Q E s := by
  obtain ⟨⟨u, p1, p2, o1, o2, F, N, k1, k2, d1, d2⟩, off, gk, gb, go⟩ := S
  obtain ⟨h, gs, dr, tk, os⟩ := s
  obtain ⟨hd, hu, hh⟩ := r
  have := fillOk_W34; clear this
  w_on
  obtain ⟨hdl, dep, frs, gds, un⟩ := A
  dsimp only at *
  subst hh
  refine st_enter (x' := ?xx) (sc' := ?ss) ?hx ?hs ?_
  case' hx => conv => lhs; whnf
  case' hs => conv => lhs; whnf
  dsimp only [kstB] at F go gk gb N hd hu
  k_steps
  have F5 := (show Fr (lowH h0) L _ _ by assumption)
  have N5 := (show News (lowH h0) L _ _ by assumption)
  have ok5 := ok_here X T F5 N5 (p1 := p1) (p2 := p2) (by k_mem) (by k_mem) k1 k2
  refine encode32_spec hm th g gvs gns (News.isList N5 (by k_mem)) hi hns ha (by omega) (by omega) ok5 ⟨(by show dep + _ < _; omega), (by show un + _ < _; omega), rfl⟩ fun h9 tk9 ta k9 => ?_
  have F9 := F5.after k9
  have N9 := Mine.News.stays N5 k9
  clear F N F5 N5
  k_steps
  have oc := law_offc N9 (by walk_at "MINE sub") d1 d2
  refine stCN (own := tabsN p1 p2 ++ [(L + 1 + 1, o1)]) (c := L + 1) (o := o2) F9 N9 (by with_unfolding_all rfl) d2 (fun p hp => ?_) (fun p hp => ?_) fun h10 o2' F10 N10 d2' => ?_
  · rcases List.mem_append.mp hp with hp | hp
    · rcases List.mem_cons.mp hp with rfl | hp
      · exact oc.2.1.symm
      · rw [List.mem_singleton.mp hp]; exact oc.2.2.symm
    · rw [List.mem_singleton.mp hp]; exact Nat.succ_ne_self _
  · exact (off p hp).2.2.2
  · k_steps
    exact hQ _ ta (LawS.quiet (p1 := p1) (p2 := p2) F10 N10 (by kst_all) (by walk_at "MINE sub") off k1 k2 d1 d2' gk gb go)

end Mine
end
section -- WM
open PySem PySem.W PySem.Calls PyProof.Rows
set_option maxRecDepth 100000
set_option maxHeartbeats 4000000
namespace Mine
-- --plain
section
variable {h0 : Heap} {g0 : Array GenState} {o0 : OsState} {ps : List (Str × Value)} {led : List (Addr × Obj)} {w : World} {x1 x2 : Option Value} {A : Around} {s : Shared} {env : Env}
/-- a loop over a tuple, in a def whose turns may make generators -/
theorem For_law {x : Str} {px pos : Pos} {iter : Expr} {body : List Stmt} {Q : Flow → Shared → Prop} {E : Value → Shared → Prop} (hh : A.handled = none) (hx : env.kindOf x = some .local)
    (hp : (env.scope.kind == .class || (env.scope.kind == .module && env.locals != env.globals)) = false)
    (h : wpAny (model PG w) A (eval iter env) (fun xv s₁ => ∃ (T : Addr) (oT : Obj) (vs : Array Value) (n : Nat), xv = .ref T ∧ oT.cls = .type "tuple" ∧ oT.data = .seq vs n ∧ LawS h0 env.locals g0 o0 ps x1 x2 ((T, oT) :: led) s₁ ∧
      (∀ (i : Nat) (v : Value) (s' : Shared) (I : Addr) (oI : Obj) (E' : Value → Shared → Prop), vs[i]? = some v → oI.cls = .type "tuple_iterator" → LawS h0 env.locals g0 o0 ((x, v) :: ps) x1 x2 ((I, oI) :: (T, oT) :: led) s' →
        wpAny (model PG w) A (execs body env) (fun f s'' => f = .next ∧ LawS h0 env.locals g0 o0 ps x1 x2 ((I, oI) :: (T, oT) :: led) s'') E' s') ∧
      (∀ s', LawS h0 env.locals g0 o0 ps x1 x2 led s' → Q .next s')) E s)
    (hs : ∀ x, foldedSetIterable iter env x = pure x := by intro _; rfl) :
    wpAny (model PG w) A (exec (.For (.Name x px) iter body [] pos) env) Q E s := by
  refine wpAny_For (wpAny_mono h (fun xv s₁ h₁ => ?_) fun _ _ e => e) hs
  obtain ⟨T, oT, vs, n, rfl, cT, dT, S, turn, done⟩ := h₁
  obtain ⟨⟨u, p1, p2, o1, o2, F, N, k1, k2, d1, d2⟩, off, gk, gb, go⟩ := S
  have hT := N (T, oT) (List.mem_append_right _ (.tail _ (.tail _ (.head _))))
  refine wpAny_pyIter_tuple ⟨oT, hT.1, cT, n, dT⟩ ?_
  have hI : ∀ p ∈ tabsN p1 p2 ++ (env.locals + 1 + 1, o1) :: (env.locals + 1, o2) :: (T, oT) :: led, p.1 ≠ s₁.heap.objs.size := fun p hq => Nat.ne_of_lt (Heap.lt_size (N p hq).1)
  have up : ∀ b o, s₁.heap.get? b = some o → (s₁.heap.push { cls := .type "tuple_iterator", data := .fields #[.ref T, .int 0 0] }).get? b = some o := fun b o e => Heap.get?_push_of_some _ e
  have offI : s₁.heap.objs.size ≠ T1 ∧ s₁.heap.objs.size ≠ T2 ∧ s₁.heap.objs.size ≠ env.locals + 1 + 1 ∧ s₁.heap.objs.size ≠ env.locals + 1 :=
    ⟨fun e => hI _ (.head _) e.symm, fun e => hI _ (.tail _ (.head _)) e.symm, fun e => hI _ (.tail _ (.tail _ (.head _))) e.symm, fun e => hI _ (.tail _ (.tail _ (.tail _ (.head _)))) e.symm⟩
  have hIL : s₁.heap.objs.size ≠ env.locals := by
    obtain ⟨o, _, _, ho, _⟩ := F.ns
    exact fun e => absurd (Heap.lt_size ho) (by rw [← e]; exact Nat.lt_irrefl _)
  have hI0 : (lowH h0).get? s₁.heap.objs.size = none := by
    cases e : (lowH h0).get? s₁.heap.objs.size with
    | none => rfl
    | some o => exact absurd (Heap.lt_size (F.keep _ _ e)) (Nat.lt_irrefl _)
  have hIl : ∀ p ∈ (T, oT) :: led, p.1 ≠ s₁.heap.objs.size := fun p hq => hI p (List.mem_append_right _ (.tail _ (.tail _ hq)))
  have W := Walks.tuple (prog := PG) (w := w) (A := A) hh s₁.heap.objs.size T (hIl (T, oT) (.head _)) vs
  have S0 : LawS h0 env.locals g0 o0 ps x1 x2 ((s₁.heap.objs.size, { cls := .type "tuple_iterator", data := .fields #[.ref T, .int 0 0] }) :: (T, oT) :: led) { s₁ with heap := s₁.heap.push { cls := .type "tuple_iterator", data := .fields #[.ref T, .int 0 0] } } := by
    refine ⟨⟨u, p1, p2, o1, o2, F.after up, ?_, k1, k2, d1, d2⟩, List.forall_mem_cons.mpr ⟨offI, off⟩, gk, gb, go⟩
    intro p hq
    have hq : p ∈ (tabsN p1 p2 ++ [(env.locals + 1 + 1, o1), (env.locals + 1, o2)]) ++ (s₁.heap.objs.size, ({ cls := .type "tuple_iterator", data := .fields #[.ref T, .int 0 0] } : Obj)) :: (T, oT) :: led := by rw [List.append_assoc]; exact hq
    rcases List.mem_append.mp hq with hq | hq
    · exact Mine.News.stays N up p (by
        rcases List.mem_append.mp hq with hq | hq
        · exact List.mem_append_left _ hq
        · rcases List.mem_cons.mp hq with rfl | hq
          · exact List.mem_append_right _ (.head _)
          · rw [List.mem_singleton.mp hq]; exact List.mem_append_right _ (.tail _ (.head _)))
    · rcases List.mem_cons.mp hq with rfl | hq
      · exact ⟨Heap.get?_push_size _ rfl, hIL, hI0⟩
      · exact Mine.News.stays N up p (List.mem_append_right _ (.tail _ (.tail _ hq)))
  generalize s₁.heap.objs.size = I at *
  clear hI up hT N F
  -- the iterator moved on
  have move : ∀ i (oI : Obj) (s' : Shared) (h₁ : Heap) (tk₁ : Nat), LawS h0 env.locals g0 o0 ps x1 x2 ((I, oI) :: (T, oT) :: led) s' → h₁.IsTupleIter I T i → (∀ b o, b ∉ [I] → s'.heap.get? b = some o → h₁.get? b = some o) →
      ∃ oI', oI'.cls = .type "tuple_iterator" ∧ oI'.data = .fields #[.ref T, .int i 0] ∧ LawS h0 env.locals g0 o0 ps x1 x2 ((I, oI') :: (T, oT) :: led) { s' with heap := h₁, toks := tk₁ } := by
    rintro i oI s' h₁ tk₁ S' ⟨oI', e', c', d'⟩ k
    refine ⟨oI', c', d', ?_⟩
    obtain ⟨⟨u, q1, q2, o1, o2, F, N, j1, j2, d1, d2⟩, off', gk', gb', go'⟩ := S'
    have k' : ∀ b o, b ≠ I → s'.heap.get? b = some o → h₁.get? b = some o := fun b o hb e => k b o (by simpa using hb) e
    refine ⟨⟨u, q1, q2, o1, o2, fr_but F hIL hI0 k', ?_, j1, j2, d1, d2⟩, List.forall_mem_cons.mpr ⟨offI, off⟩, gk', gb', go'⟩
    intro p hq
    have hq : p ∈ (tabsN q1 q2 ++ [(env.locals + 1 + 1, o1), (env.locals + 1, o2)]) ++ (I, oI') :: (T, oT) :: led := by rw [List.append_assoc]; exact hq
    rcases List.mem_append.mp hq with hq | hq
    · refine news_but (led := tabsN q1 q2 ++ [(env.locals + 1 + 1, o1), (env.locals + 1, o2)]) (fun q hq => N q ?_) (fun q hq => ?_) k' p hq
      · rcases List.mem_append.mp hq with hq | hq
        · exact List.mem_append_left _ hq
        · rcases List.mem_cons.mp hq with rfl | hq
          · exact List.mem_append_right _ (.head _)
          · rw [List.mem_singleton.mp hq]; exact List.mem_append_right _ (.tail _ (.head _))
      · rcases List.mem_append.mp hq with hq | hq
        · rcases List.mem_cons.mp hq with rfl | hq
          · exact offI.1.symm
          · rw [List.mem_singleton.mp hq]; exact offI.2.1.symm
        · rcases List.mem_cons.mp hq with rfl | hq
          · exact offI.2.2.1.symm
          · rw [List.mem_singleton.mp hq]; exact offI.2.2.2.symm
    · rcases List.mem_cons.mp hq with rfl | hq
      · exact ⟨e', hIL, hI0⟩
      · exact news_but (led := (T, oT) :: led) (fun q hq => N q (List.mem_append_right _ (.tail _ (.tail _ (.tail _ hq))))) hIl k' p hq
  have st : ∀ i oI s', LawS h0 env.locals g0 o0 ps x1 x2 ((I, oI) :: (T, oT) :: led) s' → oI.cls = .type "tuple_iterator" → oI.data = .fields #[.ref T, .int ((i : Nat) : Int) 0] → s'.heap.IsTupleIter I T i ∧ s'.heap.IsTuple T vs := by
    intro i oI s' S' c d
    obtain ⟨⟨u, q1, q2, o1, o2, F, N, j1, j2, d1, d2⟩, _⟩ := S'
    exact ⟨⟨oI, (N (I, oI) (List.mem_append_right _ (.tail _ (.tail _ (.head _))))).1, c, d⟩, ⟨oT, (N (T, oT) (List.mem_append_right _ (.tail _ (.tail _ (.tail _ (.head _)))))).1, cT, n, dT⟩⟩
  refine codeAny_forLoop (fun k s' => ∃ i oI, i ≤ vs.size ∧ k = vs.size + 1 - i ∧ oI.cls = .type "tuple_iterator" ∧ oI.data = .fields #[.ref T, .int ((i : Nat) : Int) 0] ∧ LawS h0 env.locals g0 o0 ps x1 x2 ((I, oI) :: (T, oT) :: led) s') ?_ (vs.size + 1)
    ⟨0, _, Nat.zero_le _, rfl, rfl, rfl, S0⟩
  rintro k s' ⟨i, oI, hi, rfl, c, d, S'⟩
  by_cases hlt : i < vs.size
  · refine W.item i _ _ _ hlt (st i oI s' S' c d) fun v h₁ tk₁ hv hst hk => ?_
    obtain ⟨oI', c', d', S₁⟩ := move (i + 1) oI s' h₁ tk₁ S' hst.1 hk
    obtain ⟨⟨u, q1, q2, o1, o2, F, N, j1, j2, e1, e2⟩, off', gk', gb', go'⟩ := S₁
    refine wpAny_assign_Name (wpAny_storeName_local hx F.ns (fun h₂ hn₂ hs₂ => ?_) hp)
    have S₂ : LawS h0 env.locals g0 o0 ((x, v) :: ps) x1 x2 ((I, oI') :: (T, oT) :: led) { s' with heap := h₂, toks := tk₁ + 1 } := ⟨⟨u, q1, q2, o1, o2, F.set hn₂ hs₂, N.set hs₂, j1, j2, e1, e2⟩, off', gk', gb', go'⟩
    refine wpAny_mono (turn i v _ I oI' _ hv c' S₂) (fun f s₃ h₃ => ?_) fun _ _ e => e
    obtain ⟨rfl, S₃⟩ := h₃
    exact ⟨vs.size + 1 - (i + 1), by omega, i + 1, oI', hlt, rfl, c', d', S₃⟩
  · obtain rfl : i = vs.size := by omega
    refine W.done _ _ _ (st _ oI s' S' c d) fun h₁ tk₁ hk => wpAny_execs_nil ?_
    obtain ⟨⟨u, q1, q2, o1, o2, F, N, j1, j2, e1, e2⟩, off', gk', gb', go'⟩ := S'
    refine done _ ⟨⟨u, q1, q2, o1, o2, fr_but F hIL hI0 fun b o hb e => hk b o (by simpa using hb) e, ?_, j1, j2, e1, e2⟩, fun p hq => off p (.tail _ hq), gk', gb', go'⟩
    have k' : ∀ b o, b ≠ I → s'.heap.get? b = some o → h₁.get? b = some o := fun b o hb e => hk b o (by simpa using hb) e
    intro p hq
    refine news_but (led := tabsN q1 q2 ++ (env.locals + 1 + 1, o1) :: (env.locals + 1, o2) :: led) (fun q hq => N q ?_) (fun q hq => ?_) k' p hq
    · rcases List.mem_append.mp hq with hq | hq
      · exact List.mem_append_left _ hq
      · rcases List.mem_cons.mp hq with rfl | hq
        · exact List.mem_append_right _ (.head _)
        · rcases List.mem_cons.mp hq with rfl | hq
          · exact List.mem_append_right _ (.tail _ (.head _))
          · exact List.mem_append_right _ (.tail _ (.tail _ (.tail _ (.tail _ hq))))
    · rcases List.mem_append.mp hq with hq | hq
      · rcases List.mem_cons.mp hq with rfl | hq
        · exact offI.1.symm
        · rw [List.mem_singleton.mp hq]; exact offI.2.1.symm
      · rcases List.mem_cons.mp hq with rfl | hq
        · exact offI.2.2.1.symm
        · rcases List.mem_cons.mp hq with rfl | hq
          · exact offI.2.2.2.symm
          · exact hIl q (.tail _ hq)
end

end Mine
end
section -- WP
open PySem PySem.W PySem.Calls PyProof.Rows
set_option maxRecDepth 100000
set_option maxHeartbeats 4000000
namespace Mine
-- --plain
open LCg in
section
variable {prog : Program} {w : World} {A : Around} {E : Value → Shared → Prop} {s : Shared} {h₀ : Heap} {L : Addr} {m : Str → Option Value} {env : Env}
theorem fr_wr {wr : List Addr} {h h' : Heap} (F : Fr h₀ L h m) (hwr : ∀ b ∈ wr, h₀.get? b = none ∧ b ≠ L) (k : ∀ b o, b ∉ wr → h.get? b = some o → h'.get? b = some o) : Fr h₀ L h' m :=
  ⟨F.ns.at' fun o e => k _ o (fun q => (hwr _ q).2 rfl) e, fun b o e => k b o (fun q => by rw [(hwr _ q).1] at e; cases e) (F.keep b o e), F.above⟩
theorem news_wr {wr : List Addr} {h h' : Heap} {l : List (Addr × Obj)} (N : News h₀ L h l) (hl : ∀ p ∈ l, p.1 ∉ wr) (k : ∀ b o, b ∉ wr → h.get? b = some o → h'.get? b = some o) : News h₀ L h' l :=
  fun p hp => ⟨k _ _ (hl p hp) (N p hp).1, (N p hp).2⟩
/-- a comprehension over pairs, its iterator walking by WalksT -/
theorem block_T {elt iter : Expr} {x x₂ : Str} {px px₂ tp : Pos} {tkn : Nat} {scope : Scope} {cl : List (Str × Addr)} {pos : Pos} {s₂ : Shared} {I : Addr} {fp wr : List Addr} {n : Nat} {Pt : Nat → Array Value → Prop} {St : Nat → Heap → Prop} {Mid : Nat → Addr → Heap → Prop} {news : List (Addr × Obj)}
    {J : Nat → List Value → Prop} {RR : Value → Addr → Result → Shared → Prop}
    (W : WalksT prog w A I fp wr n Pt St Mid) (hPt : ∀ i vals, Pt i vals → ∃ v₁ v₂, vals = #[v₁, v₂]) (hsz : n ≤ sizeLine)
    (hcell : ∀ y ∈ scope.names, y.2 ≠ .cell) (hkind : scope.kind = .function) (hx : scope.names.lookup x = some .local) (hx₂ : scope.names.lookup x₂ = some .local) (hxx : x ≠ x₂) (hh : A.handled = none) (hst : St 0 s₂.heap)
    (hfp : ∀ b ∈ fp, b < s₂.heap.objs.size) (hfp0 : ∀ b ∈ fp, h₀.get? b = none ∧ b ≠ L) (F : Fr h₀ L s₂.heap m) (N : News h₀ L s₂.heap news) (off : ∀ p ∈ news, p.1 ∉ fp) (j0 : J 0 [])
    (turn : ∀ i v₁ v₂ own oC C D ys m₂ h tk (E' : Value → Shared → Prop), i < n → Pt i #[v₁, v₂] → NsObj oC m₂ → m₂ x = some v₁ → m₂ x₂ = some v₂ → Fr h₀ L h m → News h₀ L h ((C, oC) :: (D, lst ys) :: (news ++ own)) → J i ys →
      wpAny (model prog w) A (eval elt (compEnvC scope cl C env)) (MyC h₀ L m { s₂ with heap := h, toks := tk } ((C, oC) :: (D, lst ys) :: (news ++ own)) (fun y => J (i + 1) (ys ++ [y]))) E' { s₂ with heap := h, toks := tk })
    (hRR : ∀ D C h tk m' ys, Fr h₀ L h m → News h₀ L h ((D, lst ys) :: news) → Off1 D news → h.Ns C m' → h₀.get? C = none → C ≠ L → C ≠ D → (∀ p ∈ news, p.1 ≠ C) → J n ys → RR (.ref D) C (.ok .next) { s₂ with heap := h, toks := tk }) :
    wpAny (model prog w) A (newList []) (fun acc s₃ => wpAny (model prog w) A (newFunctionEnv scope env.globals cl [] env.qual none .none (some env)) (fun cenv s₄ =>
      codeAny (model prog w) A (.compStart (.ListComp elt [⟨.Tuple [.Name x px, .Name x₂ px₂] tkn tp, iter, [], 0⟩] scope pos) 0 (.ref I) acc { cenv with scope := relabel scope env }) (RR acc cenv.locals) s₄) E s₃) E s₂ := by
  refine wpAny_newObj_type (wpAny_newFunctionEnv hcell (by intro y hy; simp at hy) (fun h₁ hns₁ hsb₁ => ?_) hkind)
  dsimp only at hns₁ hsb₁ ⊢
  generalize hH2 : s₂.heap.push { cls := .type "list", dict := none, data := .seq ([] : List Value).toArray } = H2 at hns₁ hsb₁ ⊢
  have hC : H2.objs.size = s₂.heap.objs.size + 1 := by rw [← hH2, Heap.size_push]
  have hDC : s₂.heap.objs.size ≠ H2.objs.size := by rw [hC]; exact Nat.ne_of_lt (Nat.lt_succ_self _)
  have below : ∀ b, b < s₂.heap.objs.size → b ≠ H2.objs.size ∧ b ≠ s₂.heap.objs.size := fun b hb => ⟨by rw [hC]; exact Nat.ne_of_lt (Nat.lt_succ_of_lt hb), Nat.ne_of_lt hb⟩
  have old : ∀ b o, s₂.heap.get? b = some o → h₁.get? b = some o := fun b o e => hsb₁.extBut b o (below b (Heap.lt_size e)).1 (Heap.get?_push_of_some _ (hH2 ▸ Heap.get?_push_of_some _ e))
  have hacc : h₁.get? s₂.heap.objs.size = some (lst []) := hsb₁.extBut _ _ hDC (Heap.get?_push_of_some _ (hH2 ▸ Heap.get?_push_size _ rfl))
  have hst₁ : St 0 h₁ := W.frame _ _ _ hst fun b _ o e => old b o e
  have fresh₀ : ∀ a, s₂.heap.objs.size ≤ a → h₀.get? a = none := fun a ha => by
    cases e : h₀.get? a with
    | none => rfl
    | some o' => exact absurd (Heap.lt_size (F.keep a o' e)) (Nat.not_lt.mpr ha)
  have hD₀ := fresh₀ _ (Nat.le_refl _)
  have hC₀ : h₀.get? H2.objs.size = none := fresh₀ _ (by rw [hC]; exact Nat.le_succ _)
  have hLlt : L < s₂.heap.objs.size := F.ns.lt
  have hDL : s₂.heap.objs.size ≠ L := Ne.symm (below L hLlt).2
  have hCL : H2.objs.size ≠ L := Ne.symm (below L hLlt).1
  have hDf : s₂.heap.objs.size ∉ fp := fun hm => Nat.lt_irrefl _ (hfp _ hm)
  have hCf : H2.objs.size ∉ fp := fun hm => (below _ (hfp _ hm)).1 rfl
  have hnC : ∀ p ∈ news, p.1 ≠ H2.objs.size := fun p hp => (below _ (Heap.lt_size (N p hp).1)).1
  have hnD : ∀ p ∈ news, p.1 ≠ s₂.heap.objs.size := fun p hp => (below _ (Heap.lt_size (N p hp).1)).2
  have hDw : s₂.heap.objs.size ∉ wr := fun q => hDf (W.sub _ q)
  have hCw : H2.objs.size ∉ wr := fun q => hCf (W.sub _ q)
  have hwr : ∀ b ∈ wr, h₀.get? b = none ∧ b ≠ L := fun b hb => hfp0 b (W.sub b hb)
  have hLf : L ∉ fp := fun q => (hfp0 _ q).2 rfl
  have hnw : ∀ p ∈ news, p.1 ∉ wr := fun p hp q => off p hp (W.sub _ q)
  have hnD1 : Off1 s₂.heap.objs.size news := by
    have : ∀ l : List (Addr × Obj), (∀ p ∈ l, p.1 ≠ s₂.heap.objs.size) → Off1 s₂.heap.objs.size l := fun l => by
      induction l with
      | nil => exact fun _ => trivial
      | cons q l ih => exact fun h => ⟨h q (.head _), ih fun p hp => h p (.tail _ hp)⟩
    exact this news hnD
  have loop : ∀ s₃ : Shared, s₃ = { s₂ with heap := h₁, toks := s₂.toks + ([] : List (Str × Value)).length } →
      codeAny (model prog w) A (.compLoop (.ListComp elt [⟨.Tuple [.Name x px, .Name x₂ px₂] tkn tp, iter, [], 0⟩] scope pos) 0 (.ref I) (.ref s₂.heap.objs.size) (compEnvC scope cl H2.objs.size env))
        (RR (.ref s₂.heap.objs.size) H2.objs.size) s₃ := by
    rintro s₃ rfl
    refine LCp.codeAny_compLoop_pair
      (fun k s' => ∃ h' tk i ys m', s' = { s₂ with heap := h', toks := tk } ∧ i ≤ n ∧ k = n + 1 - i ∧ ys.length = i ∧ St i h' ∧ Fr h₀ L h' m ∧ h'.Ns H2.objs.size m' ∧ News h₀ L h' ((s₂.heap.objs.size, lst ys) :: news) ∧ J i ys) ?_ (n + 1)
      ⟨h₁, _, 0, [], _, rfl, Nat.zero_le _, rfl, rfl, hst₁, F.keeps old, hns₁, fun p hp => ?_, j0⟩
    · rintro k s' ⟨h', tk, i, ys, m', rfl, hi, rfl, hyl, hst', F', hn', N', hj⟩
      by_cases hlt : i < n
      · refine W.item i _ _ _ hlt hst' fun t vals h₂ tk₂ hP hle ht hmid hk₂ => ?_
        obtain ⟨v₁, v₂, rfl⟩ := hPt i vals hP
        have F₂ := fr_wr F' hwr hk₂
        have N₂ : News h₀ L h₂ ((s₂.heap.objs.size, lst ys) :: news) := news_wr N' (List.forall_mem_cons.mpr ⟨hDw, hnw⟩) hk₂
        have hn₂ := hn'.at' fun o e => hk₂ _ o hCw e
        refine W.go _ _ _ i t _ _ _ hmid fun h₃ hst₃ hk₃ => ?_
        have F₃ := fr_wr F₂ hwr hk₃
        have N₃ := news_wr N₂ (List.forall_mem_cons.mpr ⟨hDw, hnw⟩) hk₃
        have hn₃ := hn₂.at' fun o e => hk₃ _ o hCw e
        have ht₃ : IsTup h₃ t #[v₁, v₂] := by
          obtain ⟨o, e, r⟩ := ht
          exact ⟨o, hk₃ _ _ (W.apart _ _ _ hmid) e, r⟩
        refine assign_Tuple_tuple hh ht₃ rfl rfl fun h₅ he => ?_
        have he' : ∀ b o, h₃.get? b = some o → h₅.get? b = some o := fun b o e => he b o (Nat.ne_of_lt (Heap.lt_size e)) e
        refine assignInOrder_cons (wpAny_assign_Name (wpAny_storeName_local (lookup_relabel_local hx) (hn₃.at' fun o e => he' _ o e) (fun h₆ hn₆ hs₆ => ?_) (by simp [compEnvC, relabel, hkind])))
        refine assignInOrder_cons (wpAny_assign_Name (wpAny_storeName_local (lookup_relabel_local hx₂) hn₆ (fun h₇ hn₇ hs₇ => ?_) (by simp [compEnvC, relabel, hkind])))
        refine assignInOrder_nil ?_
        have old7 : ∀ b o, b ≠ H2.objs.size → h₃.get? b = some o → h₇.get? b = some o := fun b o hb e => hs₇.extBut b o hb (hs₆.extBut b o hb (he' b o e))
        have hst₇ : St (i + 1) h₇ := W.frame _ _ _ hst₃ fun b hb o e => old7 b o (fun q => hCf (by rw [← q]; exact hb)) e
        obtain ⟨oC, heC, hoC⟩ := ns_obj hn₇
        have F₇ : Fr h₀ L h₇ m := ((F₃.keeps he').change hs₆ hCL hC₀).change hs₇ hCL hC₀
        have Nown : News h₀ L h₇ (ownOf h₀ fp h₇) := news_ownOf hLf
        have N₇ : News h₀ L h₇ ((H2.objs.size, oC) :: (s₂.heap.objs.size, lst ys) :: (news ++ ownOf h₀ fp h₇)) := fun p hp => by
          rcases List.mem_cons.mp hp with rfl | hp
          · exact ⟨heC, hCL, hC₀⟩
          · rcases List.mem_cons.mp hp with rfl | hp
            · have z := N₃ _ (.head _)
              exact ⟨old7 _ _ hDC z.1, z.2⟩
            · rcases List.mem_append.mp hp with hp | hp
              · have z := N₃ p (.tail _ hp)
                exact ⟨old7 _ _ (hnC p hp) z.1, z.2⟩
              · exact Nown p hp
        refine wpAny_mono (turn i v₁ v₂ _ oC H2.objs.size s₂.heap.objs.size ys _ h₇ _ _ hlt hP hoC (by simp [hxx]) (by simp) F₇ N₇ hj) (fun y s₄ h₄ => ?_) fun _ _ e => e
        obtain ⟨h₄, tk₄, rfl, F₄, N₄, hj₄⟩ := h₄
        have zC := (N₄ (H2.objs.size, oC) (.head _)).1
        have zD := (N₄ (s₂.heap.objs.size, lst ys) (.tail _ (.head _))).1
        have hst₄ : St (i + 1) h₄ := W.frame _ _ _ hst₇ fun b hb o e => (N₄ (b, o) (.tail _ (.tail _ (List.mem_append_right _ (mem_ownOf hb (hfp0 b hb).1 e))))).1
        refine append_at (hsz := by show ys.toArray.size ≤ sizeLine; rw [List.size_toArray, hyl]; exact Nat.le_trans hi hsz) zD fun h₈ hs₈ hD₈ => ?_
        refine ⟨n + 1 - (i + 1), by omega, h₈, tk₄, i + 1, ys ++ [y], _, rfl, hlt, rfl, by rw [List.length_append, List.length_singleton, hyl], W.frame _ _ _ hst₄ fun b hb o e => hs₈.extBut b o (fun q => hDf (q ▸ hb)) e, F₄.change hs₈ hDL hD₀,
          (hoC.ns zC).sameBut hs₈ (Ne.symm hDC), fun p hp => ?_, hj₄⟩
        rcases List.mem_cons.mp hp with rfl | hp
        · exact ⟨hD₈.trans (congrArg some (lst_snoc ys y)), hDL, hD₀⟩
        · have z := N₄ p (.tail _ (.tail _ (List.mem_append_left _ hp)))
          exact ⟨hs₈.extBut _ _ (hnD p hp) z.1, z.2⟩
      · obtain rfl : i = n := Nat.le_antisymm hi (Nat.not_lt.mp hlt)
        refine W.done _ _ _ hst' fun h₂ tk₂ hk₂ => ?_
        exact hRR _ _ h₂ tk₂ _ ys (fr_wr F' hwr hk₂) (news_wr N' (List.forall_mem_cons.mpr ⟨hDw, hnw⟩) hk₂) hnD1 (hn'.at' fun o e => hk₂ _ o hCw e) hC₀ hCL (Ne.symm hDC) hnC hj
    · rcases List.mem_cons.mp hp with rfl | hp
      · exact ⟨hacc, hDL, hD₀⟩
      · exact ⟨old _ _ (N p hp).1, (N p hp).2⟩
  exact codeAny_compStart_list (loop _ rfl) (W.self 0 _ _ _ hst₁ (loop _ rfl))
def CompGoT (prog : Program) (w : World) (A : Around) (h₀ : Heap) (L : Addr) (m : Str → Option Value) (env : Env) (elt : Expr) (x x₂ : Str) (scope : Scope) (cl : List (Str × Addr)) (Q : Value → Shared → Prop) (xv : Value) (s₁ : Shared) : Prop :=
  ∃ (I : Addr) (fp wr : List Addr) (n : Nat) (Pt : Nat → Array Value → Prop) (St : Nat → Heap → Prop) (Mid : Nat → Addr → Heap → Prop) (news : List (Addr × Obj)) (J : Nat → List Value → Prop), xv = .ref I ∧ WalksT prog w A I fp wr n Pt St Mid ∧ (∀ i vals, Pt i vals → ∃ v₁ v₂, vals = #[v₁, v₂]) ∧ n ≤ sizeLine ∧ St 0 s₁.heap ∧
    (∀ b ∈ fp, b < s₁.heap.objs.size) ∧ (∀ b ∈ fp, h₀.get? b = none ∧ b ≠ L) ∧ Fr h₀ L s₁.heap m ∧ News h₀ L s₁.heap news ∧ (∀ p ∈ news, p.1 ∉ fp) ∧ J 0 [] ∧
    (∀ i v₁ v₂ own oC C D ys m₂ h tk (E' : Value → Shared → Prop), i < n → Pt i #[v₁, v₂] → NsObj oC m₂ → m₂ x = some v₁ → m₂ x₂ = some v₂ → Fr h₀ L h m → News h₀ L h ((C, oC) :: (D, lst ys) :: (news ++ own)) → J i ys →
      wpAny (model prog w) A (eval elt (compEnvC scope cl C env)) (MyC h₀ L m { s₁ with heap := h, toks := tk } ((C, oC) :: (D, lst ys) :: (news ++ own)) (fun y => J (i + 1) (ys ++ [y]))) E' { s₁ with heap := h, toks := tk }) ∧
    (∀ ys, J n ys → ∀ D h tk, Fr h₀ L h m → News h₀ L h ((D, lst ys) :: news) → Off1 D news → Q (.ref D) { s₁ with heap := h, toks := tk })
theorem my_compT {elt iter : Expr} {x x₂ : Str} {px px₂ tp : Pos} {tkn : Nat} {scope : Scope} {cl : List (Str × Addr)} {pos : Pos} {Q : Value → Shared → Prop} (_F₀ : Fr h₀ L s.heap m) (hh : A.handled = none)
    (hclos : closureFor scope env = pure cl) (hcell : ∀ y ∈ scope.names, y.2 ≠ .cell) (hkind : scope.kind = .function)
    (hnames : ∀ y ∈ scope.names, y.2 = .local → scope.names.lookup y.1 = some .local) (hx : scope.names.lookup x = some .local) (hx₂ : scope.names.lookup x₂ = some .local) (hxx : x ≠ x₂)
    (h : wpAny (model prog w) A (eval iter env) (CompGoT prog w A h₀ L m env elt x x₂ scope cl Q) E s)
    (hs : ∀ x, foldedSetIterable iter env x = pure x := by intro _; rfl) :
    wpAny (model prog w) A (eval (.ListComp elt [⟨.Tuple [.Name x px, .Name x₂ px₂] tkn tp, iter, [], 0⟩] scope pos) env) Q E s := by
  rw [eval_ListComp]
  refine wpAny_comprehension_free (use := none) rfl hs hclos hkind hnames (wpAny_mono h (fun xv s₁ h₁ => ?_) fun _ _ e => e)
  obtain ⟨I, fp, wr, n, Pt, St, Mid, news, J, rfl, W, hPt, hsz, st0, hfp, hfp0, F, N, off, j0, turn, fin⟩ := h₁
  refine W.self 0 _ _ _ st0 ?_
  refine block_T W hPt hsz hcell hkind hx hx₂ hxx hh st0 hfp hfp0 F N off j0 turn ?_
  intro D C h tk m' ys F' N' o1 hn hC₀ hCL hCD offC hj
  refine ⟨m', hn, fun h'' hs'' => fin ys hj D h'' tk (F'.change hs'' hCL hC₀) (fun p hp => ?_) o1⟩
  refine ⟨hs''.extBut _ _ ?_ (N' p hp).1, (N' p hp).2⟩
  rcases List.mem_cons.mp hp with rfl | hp
  · exact Ne.symm hCD
  · exact offC p hp
end

end Mine
end
section -- TF
open PySem PySem.W PySem.Calls PyProof.Rows
set_option maxRecDepth 100000
set_option maxHeartbeats 4000000
namespace Mine
-- --plain
open SeqAt MeetsSeq in
section
variable {A : Around} {s : Shared}
theorem ints_eqAt {d g : Addr} {vs ws : List Value} {ns : List Int} (hd : s.heap.IsList d vs.toArray) (hg : s.heap.IsList g ws.toArray) (hi : IntsAre vs ns) (hj : IntsAre ws ns) (hu : A.units < cLine) : EqAt A s (.ref d) (.ref g) true := by
  by_cases h : d = g
  · subst h; exact EqAt.same _
  · refine EqAt.of_refs h ?_
    have := RcAt.lists (A := A) (e := fun _ => true) hd hg (by simp [hi.length, hj.length]) hu fun j j1 j2 => by
      have j1' : j < vs.length := by simpa using j1
      have hn : ns[j]? = some (ns[j]'(by rw [← hi.length]; exact j1')) := List.getElem?_eq_getElem _
      obtain ⟨t, e⟩ := hi.get j _ hn
      obtain ⟨u, e'⟩ := hj.get j _ hn
      have q := EqAt.int_int (A := A.in1) (s := s) (ns[j]'(by rw [← hi.length]; exact j1')) t (ns[j]'(by rw [← hi.length]; exact j1')) u
      rw [beq_self_eq_true] at q
      rw [List.getElem?_eq_getElem j1'] at e
      rw [List.getElem?_eq_getElem (show j < ws.length by simpa using j2)] at e'
      have e1 : vs.toArray[j] = _ := (List.getElem_toArray ..).trans (Option.some.inj e)
      have e2 : ws.toArray[j] = _ := (List.getElem_toArray ..).trans (Option.some.inj e')
      rw [e1, e2]; exact q
    rw [all_true fun _ _ => rfl] at this
    exact this
theorem pair_neAt {l t d g : Addr} {h : Str} {t1 t2 : Tok} {vs ws : List Value} {ns : List Int} (hl : s.heap.IsTuple l #[.str h t1, .ref d]) (ht : s.heap.IsTuple t #[.str h t2, .ref g]) (hd : s.heap.IsList d vs.toArray) (hg : s.heap.IsList g ws.toArray) (hi : IntsAre vs ns) (hj : IntsAre ws ns) (hu : A.units + 1 < cLine) :
    RcNeAt A s (.ref l) (.ref t) false := by
  have := RcNeAt.tuples (A := A) (e := fun _ => true) hl ht (by omega) fun j j1 j2 => by
    match j, j1, j2 with
    | 0, _, _ => have q := EqAt.str_str (A := A.in1) (s := s) h t1 h t2; rw [beq_self_eq_true] at q; exact q
    | 1, _, _ => exact ints_eqAt (A := A.in1) hd hg hi hj hu
  rw [all_true fun _ _ => rfl] at this
  exact this
theorem nones_neAt {l t : Addr} (hl : s.heap.IsTuple l #[.none, .none]) (ht : s.heap.IsTuple t #[.none, .none]) (hu : A.units + 1 < cLine) : RcNeAt A s (.ref l) (.ref t) false := by
  have := RcNeAt.tuples (A := A) (e := fun _ => true) hl ht (by omega) fun j j1 j2 => by
    match j, j1, j2 with
    | 0, _, _ => exact EqAt.same _
    | 1, _, _ => exact EqAt.same _
  rw [all_true fun _ _ => rfl] at this
  exact this
theorem nones_eqAt {l t : Addr} (hl : s.heap.IsTuple l #[.none, .none]) (ht : s.heap.IsTuple t #[.none, .none]) (hu : A.units + 1 < cLine) : RcAt A s (.ref l) (.ref t) true := by
  have := RcAt.tuples (A := A) (e := fun _ => true) hl ht (by omega) fun j j1 j2 => by
    match j, j1, j2 with
    | 0, _, _ => exact EqAt.same _
    | 1, _, _ => exact EqAt.same _
  rw [all_true fun _ _ => rfl] at this
  exact this
theorem pair_ne {prog : Program} {w : World} {E Q : Value → Shared → Prop} {l t d g : Addr} {h : Str} {t1 t2 : Tok} {vs ws : List Value} {ns : List Int} (hl : s.heap.IsTuple l #[.str h t1, .ref d]) (ht : s.heap.IsTuple t #[.str h t2, .ref g]) (hd : s.heap.IsList d vs.toArray) (hg : s.heap.IsList g ws.toArray) (hi : IntsAre vs ns) (hj : IntsAre ws ns) (hu : A.units + 1 < cLine)
    (q : Q (.bool false) s) : wpAny (model prog w) A (compareOp .NotEq (.ref l) (.ref t)) Q E s := pair_neAt hl ht hd hg hi hj hu prog w E Q q
theorem nones_ne {prog : Program} {w : World} {E Q : Value → Shared → Prop} {l t : Addr} (hl : s.heap.IsTuple l #[.none, .none]) (ht : s.heap.IsTuple t #[.none, .none]) (hu : A.units + 1 < cLine) (q : Q (.bool false) s) : wpAny (model prog w) A (compareOp .NotEq (.ref l) (.ref t)) Q E s := nones_neAt hl ht hu prog w E Q q
theorem nones_eq {prog : Program} {w : World} {E Q : Value → Shared → Prop} {l t : Addr} (hl : s.heap.IsTuple l #[.none, .none]) (ht : s.heap.IsTuple t #[.none, .none]) (hu : A.units + 1 < cLine) (q : Q (.bool true) s) : wpAny (model prog w) A (compareOp .Eq (.ref l) (.ref t)) Q E s := nones_eqAt hl ht hu prog w E Q q
end

end Mine
end
section -- WQ
open PySem PySem.W PySem.Calls PyProof.Rows
set_option maxRecDepth 100000
set_option maxHeartbeats 4000000
namespace Mine
-- --plain
open LCg in
section
variable {prog : Program} {w : World} {A : Around} {E : Value → Shared → Prop} {s : Shared} {h₀ : Heap} {L : Addr} {m : Str → Option Value} {env : Env}
theorem my_restT {ct elt : Expr} {x : Str} {scope : Scope} {cl : List (Str × Addr)} {a : Int} {Fin : List Value → List (Addr × Obj) → Prop} {news : List (Addr × Obj)} (J : Nat → List Value → Prop) (N0 : Nat)
    (turn : ∀ i t I oI C oC D ys m₂ h tk (E' : Value → Shared → Prop), i < N0 → NsObj oC m₂ → m₂ x = some (.int (a + (i : Int)) t) → Fr h₀ L h m → News h₀ L h ((I, oI) :: (C, oC) :: (D, lst ys) :: news) → J i ys →
      wpAny (model prog w) A (isTrue ct (compEnvC scope cl C env) (eval ct (compEnvC scope cl C env))) (fun ok s' => if ok = true then
        wpAny (model prog w) A (eval elt (compEnvC scope cl C env)) (MyC h₀ L m { s with heap := h, toks := tk } ((I, oI) :: (C, oC) :: (D, lst ys) :: news) (fun y => J (i + 1) (ys ++ [y]))) E' s'
        else MyC h₀ L m { s with heap := h, toks := tk } ((I, oI) :: (C, oC) :: (D, lst ys) :: news) (fun _ => J (i + 1) ys) Value.none s') E' { s with heap := h, toks := tk })
    (done : ∀ ys, J N0 ys → Fin ys news) : ∀ k i ys, i + k = N0 → J i ys → LCt.CompRestT prog w A h₀ L m env ct elt x scope cl s (fun _ => True) (fun i v => ∃ t, v = .int (a + (i : Int)) t) Fin k i ys news := by
  intro k
  induction k with
  | zero => intro i ys e hj; obtain rfl : i = N0 := by omega
            exact LCt.CompRestT.zero (done ys hj)
  | succ k ih =>
    intro i ys e hj
    refine LCt.CompRestT.succ fun v I oI C oC D m₂ h tk E' hP hC hx F N off ne => ?_
    obtain ⟨t, rfl⟩ := hP
    refine wpAny_mono (turn i t I oI C oC D ys m₂ h tk E' (by omega) hC hx F N hj) (fun ok s₂ hy => ?_) fun _ _ e => e
    cases ok with
    | true =>
      rw [if_pos rfl] at hy ⊢
      refine wpAny_mono hy (fun y s₃ h₃ => ?_) fun _ _ e => e
      obtain ⟨h', tk', rfl, F', N', r⟩ := h₃
      exact ⟨h', tk', news, rfl, F', N', off, trivial, ih (i + 1) (ys ++ [y]) (by omega) r⟩
    | false =>
      rw [if_neg Bool.false_ne_true] at hy ⊢
      obtain ⟨h', tk', rfl, F', N', r⟩ := hy
      exact ⟨h', tk', news, rfl, F', N', off, trivial, ih (i + 1) ys (by omega) r⟩
end

end Mine
end
section -- WN
open PySem PySem.W PySem.Calls PyProof.Rows
set_option maxRecDepth 100000
set_option maxHeartbeats 4000000
namespace Mine
theorem fillOk_WN : (PySem.Challenge.rw_vn0025_01 = PySem.Challenge.rw_vn0025_01 ∧ fragK = fragK) := fillOk_W1
local macro_rules | `(tactic| walk_at "MINE enter") => `(tactic| (
  k_dflt ((case' ok => assumption); (case' ho => k_is); (case' hcd => k_is); (case' hroom => ((try dsimp only); omega)); (case' hb => conv => lhs; whnf); (case' hs => conv => lhs; whnf); (case' hbind => first | exact BindsTo.of_eq rfl | exact binds_K (Ok.frag (by assumption)) rfl (by k_is) rfl rfl rfl); (case' hloc => exact locs rfl); (case' hco => exact rfl); (case' hgen => exact rfl); (case' hk => exact rfl); (case' hcell => decide))))
local macro_rules | `(tactic| walk_at "MINE centerC") => `(tactic| (
  k_dflt ((case' ok => assumption); (case' ho => k_is); (case' hcd => k_is); (case' hroom => ((try dsimp only); omega)); (case' hb => conv => lhs; whnf); (case' hs => conv => lhs; whnf); (case' hbind => first | exact BindsTo.of_eq rfl | exact binds_K (Ok.frag (by assumption)) rfl (by k_is) rfl rfl rfl); (case' hloc => exact kindsX rfl); (case' hco => exact rfl); (case' hgen => exact rfl); (case' hk => exact rfl); (case' hcell => decide))))
local macro_rules | `(tactic| walk_at "exec For Name Name cons nil") => `(tactic| refine unhold ?_)
local macro_rules | `(tactic| walk_at "exec For Name Call cons nil") => `(tactic| refine unhold ?_)
local macro_rules | `(tactic| walk_at "pyIter ref") => `(tactic| ((with_reducible show wpAny _ _ (pyIter (Value.ref _)) (fun it s₂ => LoopAtV _ _ _ _ _ _ _ _ _ it s₂) _ _); refine unhold ?_))
local macro_rules | `(tactic| walk_at "eval ListComp") => `(tactic| refine unhold ?_)
local macro_rules | `(tactic| walk_at "exec Assign cons ListComp") => `(tactic| refine unhold ?_)
local macro_rules | `(tactic| walk_at "exec While Compare cons nil") => `(tactic| refine unhold ?_)
local macro_rules | `(tactic| walk_at "eval Name") => `(tactic| (k_here; (with_reducible show wpAny _ _ (eval (Expr.Name _ _) (compEnvC _ _ _ _)) _ _ _); k_dflt (first
  | refine LCgL.ld_own (by k_asm) (by k_mem) (by assumption) (by assumption) ?_
  | refine my_global (by k_asm) (by k_asm) (by k_asm) (by k_is) ?_
  | refine my_built (by k_asm) (by k_asm) (by k_asm) (by k_is) (by boot_by_name) (by decide) ?_)))
local macro_rules | `(tactic| walk_at "binaryOp Add ref ref") => `(tactic| (k_here; (with_reducible show wpAny _ _ (binaryOp _ (Value.ref _) (Value.ref _)) _ _ _); k_dflt (refine' kmk_add_ints ?F ?N ?a ?b ?i ?j ?_ ?z; (case F => k_asm); (case N => k_asm); (case a => kmk_list); (case b => kmk_list); (case i => l_ints); (case j => l_ints); (case z => ((simp only [sizeLine_eq, List.length_append, List.length_map, List.length_cons, List.length_nil, Array.length_toList, KBw.ints_length]); omega))); intro D' ws' h' F' N' l1 hI'; (try k_lt l1); (try k_sweep)))
local macro_rules | `(tactic| walk_at "binaryOp Add str str") => `(tactic| (k_here; (refine my_add_str ?_ ?kz; (case kz => ((simp only [PySem.Str.length_append]; (try simp only [my_len1]); omega)))); intro _ _))
local macro_rules | `(tactic| walk_at "call builtin:list.append") => `(tactic| (k_here; (with_reducible show wpAny _ _ (call (Value.builtin _) [Value.ref _, _]) _ _ _); k_dflt (refine' append_K ?k1 ?k2 ?k3 ?_ ?z; (case k1 => k_asm); (case k2 => k_asm); (case k3 => k_upd); (case z => (simp only [List.size_toArray, sizeLine_eq]; omega)); k_whole); intro h' F' N'; (try k_sweep)))
local macro_rules | `(tactic| walk_at "MINE sub") => `(tactic| (intro p hp; (try simp only [tabsN, List.cons_append, List.nil_append, List.append_assoc, List.mem_cons, List.mem_append, List.not_mem_nil, or_false, false_or] at hp ⊢); (repeat' (refine Or.elim hp (fun hp => ?_) (fun hp => ?_))); all_goals walk_at "MINE or"))
local macro_rules | `(tactic| walk_at "MINE or") => `(tactic| first | assumption | (refine Or.inl ?_; assumption) | (refine Or.inr ?_; walk_at "MINE or"))
local macro_rules | `(tactic| kmk_nums) => `(tactic| first
  | ((with_reducible refine' kmk_from ?gi ?gx); (case gi => l_ints); (case gx => first | kssn_s | exact Int.natCast_nonneg _))
  | ((with_reducible refine' kmk_upto ?gi ?gx); (case gi => l_ints); (case gx => first | kssn_s | exact Int.natCast_nonneg _))
  | ((with_reducible refine' kmk_run ?gi ?gx ?gy); (case gi => l_ints); (case gx => kssn_s); (case gy => kssn_s)))
variable {w : World} {A : Around} {Q : Flow → Shared → Prop} {E : Value → Shared → Prop} {h0 : Heap} {L : Addr} {mg mb : Str → Option Value} {g0 : Array GenState} {o0 : OsState} {s : Shared}
-- @HEAD2
-- @HEADL
/-- what bech32_decode reads off a text behind its small letters -/
structure AddrOk (y h tl : Str) (ns : List Int) : Prop where
  pos : Txt.rfind y (PySem.Str.ofString "1") = (h.length : Int)
  s1 : Txt.slice y (some ((h.length : Int) + 1)) none = tl
  s2 : Txt.slice y none (some (h.length : Int)) = h
  tl_eq : tl.cps = (ns.map csAt).toArray
  rng : ∀ n ∈ ns, 0 ≤ n ∧ n < 32
  ha : h.cps.all (· < 128) = true
  h1 : 1 ≤ h.length
  h2 : h.length ≤ 80
  yl : y.length = h.length + 1 + ns.length
  n6 : 6 ≤ ns.length
  n7 : ns.length ≤ 150
structure TxtOk (x y : Str) : Prop where
  hx : ∀ c ∈ x.cps.toList, 33 ≤ c ∧ c ≤ 126
  sz : x.length ≤ 200
  low : Txt.lower x = y
theorem dec_ok {x y h tl : Str} {ns : List Int} {Q E : Value → Shared → Prop} (a : AddrOk y h tl ns) (t : TxtOk x y) (tx : Tok) (ok : Ok w s.heap) (r : Room A 3 15) (h1 : mixB x y = false) (h2 : pmI (Mine.hx h ++ ns) = 1)
   (hQ1 : ∀ s' l th d vs n, Gr s s' → s.heap.get? l = none → s'.heap.get? l = some { cls := .type "tuple", data := .seq #[.str h th, .ref d] } → s.heap.get? d = none → s'.heap.get? d = some (W.listOf vs.toArray n) → IntsAre vs (ns.take (ns.length - 6)) → Q (.ref l) s') :
   wpAny (model PG w) A (call (.ref 83) [.str x tx]) Q E s :=
  dec_spec x y h tl ns tx t.hx t.sz t.low a.pos a.s1 a.s2 a.tl_eq a.rng a.ha a.h1 a.h2 a.yl a.n6 a.n7 ok r (fun _ _ => hQ1) fun h => absurd ⟨h1, h2⟩ h
theorem dec_no {x y h tl : Str} {ns : List Int} {Q E : Value → Shared → Prop} (a : AddrOk y h tl ns) (t : TxtOk x y) (tx : Tok) (ok : Ok w s.heap) (r : Room A 3 15) (h1 : ¬ (mixB x y = false ∧ pmI (Mine.hx h ++ ns) = 1))
   (hQ2 : ∀ s' l, Gr s s' → s.heap.get? l = none → s'.heap.get? l = some { cls := .type "tuple", data := .seq #[.none, .none] } → Q (.ref l) s') : wpAny (model PG w) A (call (.ref 83) [.str x tx]) Q E s :=
  dec_spec x y h tl ns tx t.hx t.sz t.low a.pos a.s1 a.s2 a.tl_eq a.rng a.ha a.h1 a.h2 a.yl a.n6 a.n7 ok r (fun e e' => absurd ⟨e, e'⟩ h1) fun _ => hQ2
theorem octs_back (l : List UInt8) : ((l.map fun x => (x.toNat : Int)).map fun n => n.toNat.toUInt8) = l := by
  rw [List.map_map]
  conv => rhs; rw [← List.map_id l]
  exact List.map_congr_left fun x _ => by simp
theorem news_addN {h₀ h h' : Heap} {L : Addr} {m : Str → Option Value} {a : Addr} {o : Obj} {big : List (Addr × Obj)} (F : Fr h₀ L h m) (N : News h₀ L h' big) (z : h.get? a = none) (e : h'.get? a = some o) : News h₀ L h' ((a, o) :: big) :=
  List.forall_mem_cons.mpr ⟨news_new (led := [(a, o)]) F (fun q hq => by rw [List.mem_singleton.mp hq]; exact ⟨e, z⟩) _ (.head _), N⟩

end Mine
end
section -- W37
open PySem PySem.W PySem.Calls PyProof.Rows
set_option maxRecDepth 100000
set_option maxHeartbeats 4000000
namespace Mine
theorem fillOk_W37 : (PySem.Challenge.rw_vn0025_01 = PySem.Challenge.rw_vn0025_01 ∧ fragK = fragK) := fillOk_W1
local macro_rules | `(tactic| walk_at "MINE enter") => `(tactic| (
  k_dflt ((case' ok => assumption); (case' ho => k_is); (case' hcd => k_is); (case' hroom => ((try dsimp only); omega)); (case' hb => conv => lhs; whnf); (case' hs => conv => lhs; whnf); (case' hbind => first | exact BindsTo.of_eq rfl | exact binds_K (Ok.frag (by assumption)) rfl (by k_is) rfl rfl rfl); (case' hloc => exact locs rfl); (case' hco => exact rfl); (case' hgen => exact rfl); (case' hk => exact rfl); (case' hcell => decide))))
local macro_rules | `(tactic| walk_at "MINE centerC") => `(tactic| (
  k_dflt ((case' ok => assumption); (case' ho => k_is); (case' hcd => k_is); (case' hroom => ((try dsimp only); omega)); (case' hb => conv => lhs; whnf); (case' hs => conv => lhs; whnf); (case' hbind => first | exact BindsTo.of_eq rfl | exact binds_K (Ok.frag (by assumption)) rfl (by k_is) rfl rfl rfl); (case' hloc => exact kindsX rfl); (case' hco => exact rfl); (case' hgen => exact rfl); (case' hk => exact rfl); (case' hcell => decide))))
local macro_rules | `(tactic| walk_at "exec For Name Name cons nil") => `(tactic| refine unhold ?_)
local macro_rules | `(tactic| walk_at "exec For Name Call cons nil") => `(tactic| refine unhold ?_)
local macro_rules | `(tactic| walk_at "pyIter ref") => `(tactic| ((with_reducible show wpAny _ _ (pyIter (Value.ref _)) (fun it s₂ => LoopAtV _ _ _ _ _ _ _ _ _ it s₂) _ _); refine unhold ?_))
local macro_rules | `(tactic| walk_at "eval ListComp") => `(tactic| refine unhold ?_)
local macro_rules | `(tactic| walk_at "exec Assign cons ListComp") => `(tactic| refine unhold ?_)
local macro_rules | `(tactic| walk_at "exec While Compare cons nil") => `(tactic| refine unhold ?_)
local macro_rules | `(tactic| walk_at "eval Name") => `(tactic| (k_here; (with_reducible show wpAny _ _ (eval (Expr.Name _ _) (compEnvC _ _ _ _)) _ _ _); k_dflt (first
  | refine LCgL.ld_own (by k_asm) (by k_mem) (by assumption) (by assumption) ?_
  | refine my_global (by k_asm) (by k_asm) (by k_asm) (by k_is) ?_
  | refine my_built (by k_asm) (by k_asm) (by k_asm) (by k_is) (by boot_by_name) (by decide) ?_)))
local macro_rules | `(tactic| walk_at "binaryOp Add ref ref") => `(tactic| (k_here; (with_reducible show wpAny _ _ (binaryOp _ (Value.ref _) (Value.ref _)) _ _ _); k_dflt (refine' kmk_add_ints ?F ?N ?a ?b ?i ?j ?_ ?z; (case F => k_asm); (case N => k_asm); (case a => kmk_list); (case b => kmk_list); (case i => l_ints); (case j => l_ints); (case z => ((simp only [sizeLine_eq, List.length_append, List.length_map, List.length_cons, List.length_nil, Array.length_toList, KBw.ints_length]); omega))); intro D' ws' h' F' N' l1 hI'; (try k_lt l1); (try k_sweep)))
local macro_rules | `(tactic| walk_at "binaryOp Add str str") => `(tactic| (k_here; (refine my_add_str ?_ ?kz; (case kz => ((simp only [PySem.Str.length_append]; (try simp only [my_len1]); omega)))); intro _ _))
local macro_rules | `(tactic| walk_at "call builtin:list.append") => `(tactic| (k_here; (with_reducible show wpAny _ _ (call (Value.builtin _) [Value.ref _, _]) _ _ _); k_dflt (refine' append_K ?k1 ?k2 ?k3 ?_ ?z; (case k1 => k_asm); (case k2 => k_asm); (case k3 => k_upd); (case z => (simp only [List.size_toArray, sizeLine_eq]; omega)); k_whole); intro h' F' N'; (try k_sweep)))
local macro_rules | `(tactic| walk_at "MINE sub") => `(tactic| (intro p hp; (try simp only [tabsN, List.cons_append, List.nil_append, List.append_assoc, List.mem_cons, List.mem_append, List.not_mem_nil, or_false, false_or] at hp ⊢); (repeat' (refine Or.elim hp (fun hp => ?_) (fun hp => ?_))); all_goals walk_at "MINE or"))
local macro_rules | `(tactic| walk_at "MINE or") => `(tactic| first | assumption | (refine Or.inl ?_; assumption) | (refine Or.inr ?_; walk_at "MINE or"))
local macro_rules | `(tactic| kmk_nums) => `(tactic| first
  | ((with_reducible refine' kmk_from ?gi ?gx); (case gi => l_ints); (case gx => first | kssn_s | exact Int.natCast_nonneg _))
  | ((with_reducible refine' kmk_upto ?gi ?gx); (case gi => l_ints); (case gx => first | kssn_s | exact Int.natCast_nonneg _))
  | ((with_reducible refine' kmk_run ?gi ?gx ?gy); (case gi => l_ints); (case gx => kssn_s); (case gy => kssn_s)))
variable {w : World} {A : Around} {Q : Flow → Shared → Prop} {E : Value → Shared → Prop} {h0 : Heap} {L : Addr} {mg mb : Str → Option Value} {g0 : Array GenState} {o0 : OsState} {s : Shared}
-- @HEAD2
-- @HEADL
local macro_rules | `(tactic| walk_at "exec For Name Tuple cons nil") => `(tactic| refine unhold ?_)
def TupP (h₀ : Heap) (L : Addr) (m : Str → Option Value) (nw : List (Addr × Obj)) (ad up : Str) (ta : Tok) (g : Array GenState) (d : Drawn) (os : OsState) (xv : Value) (s₁ : Shared) : Prop :=
  ∃ T h' tk' tu, xv = .ref T ∧ s₁ = ⟨h', g, d, tk', os⟩ ∧ Fr h₀ L h' m ∧ News h₀ L h' ((T, { cls := .type "tuple", data := .seq #[.str ad ta, .str up tu] }) :: nw)
local macro_rules | `(tactic| walk_at "compareOp NotEq ref ref") => `(tactic| refine unhold ?_)
local macro_rules | `(tactic| walk_at "compareOp NotEq bytes bytes") => `(tactic| refine unhold ?_)
local macro_rules | `(tactic| walk_at "call builtin:str.upper") => `(tactic| (k_here; refine SCL.upper (by omega) ?_; intro _))
theorem st_7 {a : Addr} {pvs : List Value} {cap : Nat} {v : Value} {th ta : Tok} {hm ad tl : Str} {t : RT} {led : List (Addr × Obj)} {g : Addr} {gvs : List Value} {gns : List Int} {gcap : Nat} (X : (fragK w.params).In (lowH h0)) (T : TopRead viewP (looseW viewP looseV) mg mb (lowH h0)) (r : Room A 15 80) (hi : IntsAre gvs gns) (hal : ad.length ≤ 200)
   {ns : List Int} (hy : AddrOk ad hm tl ns) (hx1 : TxtOk ad ad) (hx2 : TxtOk (Txt.upper ad) ad) (hm1 : mixB ad ad = false) (hm2 : mixB (Txt.upper ad) ad = false) (hck : pmI (Mine.hx hm ++ ns) = 1) (hns : ns.take (ns.length - 6) = gns)
   (hgr : ∀ n ∈ gns, 0 ≤ n ∧ n < 32) (hgl : gns.length ≤ 150) (hfin : (cvDown gns).bits < 5 ∧ Builtin.bitAnd ((cvDown gns).acc * 2 ^ (8 - (cvDown gns).bits).toNat) 255 = 0) (hout : (cvDown gns).out = t.enc.map fun x => (x.toNat : Int)) (hok : t.ok) (htd : t.deep ≤ 3) (htl : t.enc.length ≤ 100) (hrl : RL led t v)
   (S : LawS h0 L g0 o0 [(.ofString "picks", .ref a), (.ofString "tree", v), (.ofString "human", .str hm th), (.ofString "signs", .ref g)] none (some (.str ad ta)) ((g, W.listOf gvs.toArray gcap) :: (a, W.listOf pvs.toArray cap) :: led) s)
   (hQ : ∀ s', LawS h0 L g0 o0 [(.ofString "picks", .ref a), (.ofString "tree", v), (.ofString "human", .str hm th)] none (some (.str ad ta)) ((a, W.listOf pvs.toArray cap) :: led) s' → Q .next s') :
   wpAny (model PG w) A (exec (lawB 7) (lawV L)) Q E s := by
  obtain ⟨⟨u, p1, p2, o1, o2, F, N, k1, k2, d1, d2⟩, off, gk, gb, go⟩ := S
  obtain ⟨h, gs, dr, tk, os⟩ := s
  obtain ⟨hd, hu, hh⟩ := r
  have := fillOk_W37; clear this
  w_on
  obtain ⟨hdl, dep, frs, gds, un⟩ := A
  dsimp only at *
  subst hh
  refine st_enter (x' := ?xx) (sc' := ?ss) ?hx ?hs ?_
  case' hx => conv => lhs; whnf
  case' hs => conv => lhs; whnf
  dsimp only [kstB] at F go gk gb N hd hu
  k_steps
  unfold Hold
  refine For_law (h0 := h0) (g0 := g0) (o0 := o0) (x1 := none) (x2 := some (.str ad ta)) (led := (g, W.listOf gvs.toArray gcap) :: (a, W.listOf pvs.toArray cap) :: led) (ps := [(.ofString "picks", .ref a), (.ofString "tree", v), (.ofString "human", .str hm th), (.ofString "signs", .ref g)]) rfl (by with_unfolding_all rfl) (by with_unfolding_all rfl) ?_ (by intro _; with_unfolding_all rfl)
  refine wpAny_mono (Q := TupP (lowH h0) L (kstB u [(.ofString "picks", .ref a), (.ofString "tree", v), (.ofString "human", .str hm th), (.ofString "signs", .ref g)]) (tabsN p1 p2 ++ (L + 1 + 1, o1) :: (L + 1, o2) :: (g, W.listOf gvs.toArray gcap) :: (a, W.listOf pvs.toArray cap) :: led) ad (Txt.upper ad) ta gs dr os) ?_ ?_ (fun _ _ e => e)
  · k_steps
    exact ⟨_, _, _, _, rfl, rfl, by assumption, by assumption⟩
  · rintro xv s₁ ⟨TT, h7, tk7, tu, rfl, rfl, F7, N7⟩
    refine ⟨TT, _, _, _, rfl, rfl, rfl, LawS.quiet (p1 := p1) (p2 := p2) F7 N7 (by kst_all) (by walk_at "MINE sub") (List.forall_mem_cons.mpr ⟨?_, off⟩) k1 k2 d1 d2 gk gb go, ?_, ?_⟩
    · exact law_offO N7 (p1 := p1) (p2 := p2) (by walk_at "MINE sub") d1 d2 (.head _) (fun e => nomatch e) (fun _ e => nomatch e)
    · intro i vv s' I oI E' hv cI S
      obtain ⟨x, tx, rfl, hx, hmx⟩ : ∃ x tx, vv = .str x tx ∧ TxtOk x ad ∧ mixB x ad = false := by
        match i, hv with
        | 0, hv => exact ⟨ad, ta, (Option.some.inj hv).symm, hx1, hm1⟩
        | 1, hv => exact ⟨_, tu, (Option.some.inj hv).symm, hx2, hm2⟩
      clear F N F7 N7 hv
      obtain ⟨⟨u, p1, p2, o1, o2, F, N, k1, k2, d1, d2⟩, off, gk, gb, go⟩ := S
      obtain ⟨h, gs, dr, tk, os⟩ := s'
      replace F : Fr (lowH h0) L h _ := F
      replace N : News (lowH h0) L h (tabsN p1 p2 ++ (L + 1 + 1, o1) :: (L + 1, o2) :: (I, oI) :: (TT, _) :: (g, W.listOf gvs.toArray gcap) :: (a, W.listOf pvs.toArray cap) :: led) := N
      dsimp only [kstB] at F go gk gb N
      k_steps
      have F5 := (show Fr (lowH h0) L _ _ by assumption)
      have N5 := (show News (lowH h0) L _ _ by assumption)
      have ok5 := ok_here X T F5 N5 (p1 := p1) (p2 := p2) (by k_mem) (by k_mem) k1 k2
      refine dec_ok hy hx tx ok5 ⟨(by show dep + _ < _; omega), (by show un + _ < _; omega), rfl⟩ hmx hck ?_
      intro s' l tl d dvs dn G hl0 hl1 hd0 hd1 hdi
      obtain ⟨h6, g6, dr6, tk6, os6⟩ := s'
      dsimp only at hl0 hl1 hd0 hd1
      have F6 := fr_gr F5 N5 (.head _) (.tail _ (.head _)) G
      obtain ⟨q1, q2, j1, j2, N6⟩ := news_gr N5 (law_news N5 d1 d2 off) k1 k2 G
      dsimp only at F6 N6
      have N7 : News (lowH h0) L h6 ((l, { cls := .type "tuple", data := .seq #[.str hm tl, .ref d] }) :: (d, W.listOf dvs.toArray dn) :: (tabsN q1 q2 ++ (L + 1 + 1, o1) :: (L + 1, o2) :: (I, oI) :: (TT, _) :: (g, W.listOf gvs.toArray gcap) :: (a, W.listOf pvs.toArray cap) :: led)) := fun p hp => by
        rcases List.mem_cons.mp hp with rfl | hp
        · exact news_new (led := [_]) F5 (fun q hq => by rw [List.mem_singleton.mp hq]; exact ⟨hl1, hl0⟩) _ (.head _)
        · rcases List.mem_cons.mp hp with rfl | hp
          · exact news_new (led := [_]) F5 (fun q hq => by rw [List.mem_singleton.mp hq]; exact ⟨hd1, hd0⟩) _ (.head _)
          · exact N6 p hp
      clear F N F5 N5 N6
      k_steps
      rename_i DT h8 F8 N8 l8
      unfold Hold
      refine pair_ne (t := DT) (News.isTup N8 (by k_mem)) (News.isTup N8 (by k_mem)) (News.isList N8 (by k_mem)) (News.isList N8 (by k_mem)) (hns ▸ hdi) hi (by show un + 1 < _; omega) ?_
      k_steps
      have F9 := (show Fr (lowH h0) L _ (fun y => if y = Str.ofString "told" then _ else _) by assumption)
      have N9 := (show News (lowH h0) L _ _ by assumption)
      have ok9 := ok_here X T F9 N9 (p1 := q1) (p2 := q2) (by k_mem) (by k_mem) j1 j2
      refine convert_down_spec d dvs gns _ _ (News.isList N9 (by k_mem)) (hns ▸ hdi) hgr (by omega) hfin ok9 ⟨(by show dep + _ < _; omega), (by show un + _ < _; omega), rfl⟩ fun h10 tk10 e evs en k10 n10 e10 i10 => ?_
      have F10 := F9.after k10
      have N10 := news_cons F9 N9 k10 e10 n10
      clear F8 N8 F9 N9 ok9
      rw [hout] at i10
      k_steps
      refine bytes_K F10 N10 (News.isList N10 (by k_mem)) i10 (fun k hk => ?_) (by rw [i10.length, sizeLine_eq]; simp; omega) rfl fun h11 t11 k11 F11 N11 _ => ?_
      · obtain ⟨c, _, rfl⟩ := List.mem_map.mp hk
        exact ⟨Int.natCast_nonneg _, by have := c.toNat_lt; omega⟩
      rw [octs_back]
      clear F10 N10
      k_steps
      have F12 := (show Fr (lowH h0) L _ (fun y => if y = Str.ofString "told" then _ else _) by assumption)
      have N12 := (show News (lowH h0) L _ _ by assumption)
      have ok12 := ok_here X T F12 N12 (p1 := q1) (p2 := q2) (by k_mem) (by k_mem) j1 j2
      refine decode_spec t hok _ _ rfl (by simp; omega) ok12 ⟨(by show dep + _ < _; omega), (by show un + _ < _; omega), rfl⟩ fun h13 tk13 v13 led13 k13 r13 l13 => ?_
      have F13 := F12.after k13
      have N13 := news_app F12 N12 k13 l13
      clear F11 N11 F12 N12 ok12
      k_steps
      refine tree_ne t v13 v (RL.at (fun q hq => (N13 q (List.mem_append_right _ hq)).1) _ _ r13) (RL.at (fun q hq => (N13 q ?_).1) _ _ hrl) (by show un + _ + 1 < _; omega) ?_
      · revert q; walk_at "MINE sub"
      k_steps
      exact LawS.quiet (p1 := q1) (p2 := q2) F13 N13 (by kst_all) (by walk_at "MINE sub") off j1 j2 d1 d2 (fun i x e => G.gens i x (gk i x e)) (fun x => G.bare (gb x)) (G.os.trans go)
    · rintro s' ⟨⟨u, p1, p2, o1, o2, F, N, k1, k2, d1, d2⟩, off, gk, gb, go⟩
      exact hQ s' (LawS.quiet (p1 := p1) (p2 := p2) F N (by kst_all) (by walk_at "MINE sub") (fun p hp => off p (.tail _ hp)) k1 k2 d1 d2 gk gb go)

end Mine
end
section -- W38
open PySem PySem.W PySem.Calls PyProof.Rows
set_option maxRecDepth 100000
set_option maxHeartbeats 4000000
namespace Mine
theorem fillOk_W38 : (PySem.Challenge.rw_vn0025_01 = PySem.Challenge.rw_vn0025_01 ∧ fragK = fragK) := fillOk_W1
local macro_rules | `(tactic| walk_at "MINE enter") => `(tactic| (
  k_dflt ((case' ok => assumption); (case' ho => k_is); (case' hcd => k_is); (case' hroom => ((try dsimp only); omega)); (case' hb => conv => lhs; whnf); (case' hs => conv => lhs; whnf); (case' hbind => first | exact BindsTo.of_eq rfl | exact binds_K (Ok.frag (by assumption)) rfl (by k_is) rfl rfl rfl); (case' hloc => exact locs rfl); (case' hco => exact rfl); (case' hgen => exact rfl); (case' hk => exact rfl); (case' hcell => decide))))
local macro_rules | `(tactic| walk_at "MINE centerC") => `(tactic| (
  k_dflt ((case' ok => assumption); (case' ho => k_is); (case' hcd => k_is); (case' hroom => ((try dsimp only); omega)); (case' hb => conv => lhs; whnf); (case' hs => conv => lhs; whnf); (case' hbind => first | exact BindsTo.of_eq rfl | exact binds_K (Ok.frag (by assumption)) rfl (by k_is) rfl rfl rfl); (case' hloc => exact kindsX rfl); (case' hco => exact rfl); (case' hgen => exact rfl); (case' hk => exact rfl); (case' hcell => decide))))
local macro_rules | `(tactic| walk_at "exec For Name Name cons nil") => `(tactic| refine unhold ?_)
local macro_rules | `(tactic| walk_at "exec For Name Call cons nil") => `(tactic| refine unhold ?_)
local macro_rules | `(tactic| walk_at "pyIter ref") => `(tactic| ((with_reducible show wpAny _ _ (pyIter (Value.ref _)) (fun it s₂ => LoopAtV _ _ _ _ _ _ _ _ _ it s₂) _ _); refine unhold ?_))
local macro_rules | `(tactic| walk_at "eval ListComp") => `(tactic| refine unhold ?_)
local macro_rules | `(tactic| walk_at "exec Assign cons ListComp") => `(tactic| refine unhold ?_)
local macro_rules | `(tactic| walk_at "exec While Compare cons nil") => `(tactic| refine unhold ?_)
local macro_rules | `(tactic| walk_at "eval Name") => `(tactic| (k_here; (with_reducible show wpAny _ _ (eval (Expr.Name _ _) (compEnvC _ _ _ _)) _ _ _); k_dflt (first
  | refine LCgL.ld_own (by k_asm) (by k_mem) (by assumption) (by assumption) ?_
  | refine my_global (by k_asm) (by k_asm) (by k_asm) (by k_is) ?_
  | refine my_built (by k_asm) (by k_asm) (by k_asm) (by k_is) (by boot_by_name) (by decide) ?_)))
local macro_rules | `(tactic| walk_at "binaryOp Add ref ref") => `(tactic| (k_here; (with_reducible show wpAny _ _ (binaryOp _ (Value.ref _) (Value.ref _)) _ _ _); k_dflt (refine' kmk_add_ints ?F ?N ?a ?b ?i ?j ?_ ?z; (case F => k_asm); (case N => k_asm); (case a => kmk_list); (case b => kmk_list); (case i => l_ints); (case j => l_ints); (case z => ((simp only [sizeLine_eq, List.length_append, List.length_map, List.length_cons, List.length_nil, Array.length_toList, KBw.ints_length]); omega))); intro D' ws' h' F' N' l1 hI'; (try k_lt l1); (try k_sweep)))
local macro_rules | `(tactic| walk_at "binaryOp Add str str") => `(tactic| (k_here; (refine my_add_str ?_ ?kz; (case kz => ((simp only [PySem.Str.length_append]; (try simp only [my_len1]); omega)))); intro _ _))
local macro_rules | `(tactic| walk_at "call builtin:list.append") => `(tactic| (k_here; (with_reducible show wpAny _ _ (call (Value.builtin _) [Value.ref _, _]) _ _ _); k_dflt (refine' append_K ?k1 ?k2 ?k3 ?_ ?z; (case k1 => k_asm); (case k2 => k_asm); (case k3 => k_upd); (case z => (simp only [List.size_toArray, sizeLine_eq]; omega)); k_whole); intro h' F' N'; (try k_sweep)))
local macro_rules | `(tactic| walk_at "MINE sub") => `(tactic| (intro p hp; (try simp only [tabsN, List.cons_append, List.nil_append, List.append_assoc, List.mem_cons, List.mem_append, List.not_mem_nil, or_false, false_or] at hp ⊢); (repeat' (refine Or.elim hp (fun hp => ?_) (fun hp => ?_))); all_goals walk_at "MINE or"))
local macro_rules | `(tactic| walk_at "MINE or") => `(tactic| first | assumption | (refine Or.inl ?_; assumption) | (refine Or.inr ?_; walk_at "MINE or"))
local macro_rules | `(tactic| kmk_nums) => `(tactic| first
  | ((with_reducible refine' kmk_from ?gi ?gx); (case gi => l_ints); (case gx => first | kssn_s | exact Int.natCast_nonneg _))
  | ((with_reducible refine' kmk_upto ?gi ?gx); (case gi => l_ints); (case gx => first | kssn_s | exact Int.natCast_nonneg _))
  | ((with_reducible refine' kmk_run ?gi ?gx ?gy); (case gi => l_ints); (case gx => kssn_s); (case gy => kssn_s)))
variable {w : World} {A : Around} {Q : Flow → Shared → Prop} {E : Value → Shared → Prop} {h0 : Heap} {L : Addr} {mg mb : Str → Option Value} {g0 : Array GenState} {o0 : OsState} {s : Shared}
-- @HEAD2
-- @HEADL
theorem st_8 {a : Addr} {pvs : List Value} {cap : Nat} {v : Value} {th ta : Tok} {hm ad : Str} {t : RT} {led : List (Addr × Obj)} (X : (fragK w.params).In (lowH h0)) (T : TopRead viewP (looseW viewP looseV) mg mb (lowH h0)) (r : Room A 15 80)
   (ha : hm.cps.all (· < 128) = true) (hsz : hm.cps.size ≤ 80) (hok : (RT.node (.cons t .nil)).ok) (htd : t.deep ≤ 2) (htl : (RT.node (.cons t .nil)).enc.length ≤ 100) (hrl : RL led t v)
   {ons : List Int} (ho : ons = signsOf ((RT.node (.cons t .nil)).enc.map fun x => (x.toNat : Int))) (hor : ∀ n ∈ ons, 0 ≤ n ∧ n < 32) (hol : ons.length ≤ 200)
   (S : LawS h0 L g0 o0 [(.ofString "picks", .ref a), (.ofString "tree", v), (.ofString "human", .str hm th)] none (some (.str ad ta)) ((a, W.listOf pvs.toArray cap) :: led) s)
   (hQ : ∀ s' to, LawS h0 L g0 o0 [(.ofString "picks", .ref a), (.ofString "tree", v), (.ofString "human", .str hm th), (.ofString "other", .str (addrOf hm ons) to)] none (some (.str ad ta)) ((a, W.listOf pvs.toArray cap) :: led) s' → Q .next s') :
   wpAny (model PG w) A (exec (lawB 8) (lawV L)) Q E s := by
  obtain ⟨⟨u, p1, p2, o1, o2, F, N, k1, k2, d1, d2⟩, off, gk, gb, go⟩ := S
  obtain ⟨h, gs, dr, tk, os⟩ := s
  obtain ⟨hd, hu, hh⟩ := r
  have := fillOk_W38; clear this
  w_on
  obtain ⟨hdl, dep, frs, gds, un⟩ := A
  dsimp only at *
  subst hh
  refine st_enter (x' := ?xx) (sc' := ?ss) ?hx ?hs ?_
  case' hx => conv => lhs; whnf
  case' hs => conv => lhs; whnf
  dsimp only [kstB] at F go gk gb N hd hu
  k_steps
  rename_i ll h5 F5 N5 l5
  have ok5 := ok_here X T F5 N5 (p1 := p1) (p2 := p2) (by k_mem) (by k_mem) k1 k2
  have lr : RAt (lowH h5) (.node (.cons t .nil)) (.ref ll) := by
    have hll := law_off (vs := [v]) N5 (p1 := p1) (p2 := p2) (by walk_at "MINE sub") d1 d2 (.head _)
    refine ⟨ll, [v], rfl, ⟨_, low_get hll.1 hll.2.1 (N5 _ (.head _)).1, rfl, _, rfl⟩, v, [], rfl, ?_, rfl⟩
    exact RL.at (fun q hq => low_get (off q (.tail _ hq)).1 (off q (.tail _ hq)).2.1 (N5 q (by revert q; walk_at "MINE sub")).1) _ _ hrl
  with_unfolding_all show wpAny _ _ (call (.ref 478) [.ref ll] [(.ofString "infer_serializer", .bool false)]) _ _ _
  have hdn : (RT.node (.cons t .nil)).deep = max t.deep 0 + 1 := rfl
  refine encode_spec _ hok _ lr ok5 ⟨(by show dep + _ < _; omega), (by show un + _ < _; omega), rfl⟩ fun s' tok G => ?_
  obtain ⟨h6, g6, dr6, tk6, os6⟩ := s'
  have F6 := fr_gr F5 N5 (p1 := p1) (p2 := p2) (by k_mem) (by k_mem) G
  obtain ⟨q1, q2, j1, j2, N6⟩ := news_gr (news := (L + 1 + 1, o1) :: (L + 1, o2) :: (a, W.listOf pvs.toArray cap) :: led) (fun p hp => N5 p (.tail _ hp)) (law_news (fun p hp => N5 p (.tail _ hp)) d1 d2 off) k1 k2 G
  dsimp only at F6 N6
  clear F5 N5 ok5
  k_steps
  have F7 := (show Fr (lowH h0) L _ _ by assumption)
  have N7 := (show News (lowH h0) L _ _ by assumption)
  have ok7 := ok_here X T F7 N7 (p1 := q1) (p2 := q2) (by k_mem) (by k_mem) j1 j2
  refine convert_up_spec _ _ _ _ (by simp; omega) ok7 ⟨(by show dep + _ < _; omega), (by show un + _ < _; omega), rfl⟩ fun h9 tk9 g gvs gcap k9 n9 e9 i9 => ?_
  have F9 := F7.after k9
  have N9 := news_cons F7 N7 k9 e9 n9
  clear F6 N6 F7 N7 ok7
  rw [← ho] at i9
  k_steps
  have F10 := (show Fr (lowH h0) L _ _ by assumption)
  have N10 := (show News (lowH h0) L _ _ by assumption)
  have ok10 := ok_here X T F10 N10 (p1 := q1) (p2 := q2) (by k_mem) (by k_mem) j1 j2
  refine encode32_spec hm th g gvs ons (News.isList N10 (by k_mem)) i9 hor ha (by omega) (by omega) ok10 ⟨(by show dep + _ < _; omega), (by show un + _ < _; omega), rfl⟩ fun h11 tk11 to k11 => ?_
  have F11 := F10.after k11
  have N11 := Mine.News.stays N10 k11
  clear F9 N9 F10 N10 ok10
  k_steps
  have F12 := (show Fr (lowH h0) L _ (fun y => if y = Str.ofString "other" then _ else _) by assumption)
  have N12 := (show News (lowH h0) L _ _ by assumption)
  exact hQ _ to (LawS.quiet (p1 := q1) (p2 := q2) F12 N12 (by kst_all) (by walk_at "MINE sub") off j1 j2 d1 d2 (fun i x e => G.gens i x (gk i x e)) (fun x => G.bare (gb x)) (G.os.trans go))

end Mine
end
section -- W39
open PySem PySem.W PySem.Calls PyProof.Rows
set_option maxRecDepth 100000
set_option maxHeartbeats 4000000
namespace Mine
theorem fillOk_W39 : (PySem.Challenge.rw_vn0025_01 = PySem.Challenge.rw_vn0025_01 ∧ fragK = fragK) := fillOk_W1
local macro_rules | `(tactic| walk_at "MINE enter") => `(tactic| (
  k_dflt ((case' ok => assumption); (case' ho => k_is); (case' hcd => k_is); (case' hroom => ((try dsimp only); omega)); (case' hb => conv => lhs; whnf); (case' hs => conv => lhs; whnf); (case' hbind => first | exact BindsTo.of_eq rfl | exact binds_K (Ok.frag (by assumption)) rfl (by k_is) rfl rfl rfl); (case' hloc => exact locs rfl); (case' hco => exact rfl); (case' hgen => exact rfl); (case' hk => exact rfl); (case' hcell => decide))))
local macro_rules | `(tactic| walk_at "MINE centerC") => `(tactic| (
  k_dflt ((case' ok => assumption); (case' ho => k_is); (case' hcd => k_is); (case' hroom => ((try dsimp only); omega)); (case' hb => conv => lhs; whnf); (case' hs => conv => lhs; whnf); (case' hbind => first | exact BindsTo.of_eq rfl | exact binds_K (Ok.frag (by assumption)) rfl (by k_is) rfl rfl rfl); (case' hloc => exact kindsX rfl); (case' hco => exact rfl); (case' hgen => exact rfl); (case' hk => exact rfl); (case' hcell => decide))))
local macro_rules | `(tactic| walk_at "exec For Name Name cons nil") => `(tactic| refine unhold ?_)
local macro_rules | `(tactic| walk_at "exec For Name Call cons nil") => `(tactic| refine unhold ?_)
local macro_rules | `(tactic| walk_at "pyIter ref") => `(tactic| ((with_reducible show wpAny _ _ (pyIter (Value.ref _)) (fun it s₂ => LoopAtV _ _ _ _ _ _ _ _ _ it s₂) _ _); refine unhold ?_))
local macro_rules | `(tactic| walk_at "eval ListComp") => `(tactic| refine unhold ?_)
local macro_rules | `(tactic| walk_at "exec Assign cons ListComp") => `(tactic| refine unhold ?_)
local macro_rules | `(tactic| walk_at "exec While Compare cons nil") => `(tactic| refine unhold ?_)
local macro_rules | `(tactic| walk_at "eval Name") => `(tactic| (k_here; (with_reducible show wpAny _ _ (eval (Expr.Name _ _) (compEnvC _ _ _ _)) _ _ _); k_dflt (first
  | refine LCgL.ld_own (by k_asm) (by k_mem) (by assumption) (by assumption) ?_
  | refine my_global (by k_asm) (by k_asm) (by k_asm) (by k_is) ?_
  | refine my_built (by k_asm) (by k_asm) (by k_asm) (by k_is) (by boot_by_name) (by decide) ?_)))
local macro_rules | `(tactic| walk_at "binaryOp Add ref ref") => `(tactic| (k_here; (with_reducible show wpAny _ _ (binaryOp _ (Value.ref _) (Value.ref _)) _ _ _); k_dflt (refine' kmk_add_ints ?F ?N ?a ?b ?i ?j ?_ ?z; (case F => k_asm); (case N => k_asm); (case a => kmk_list); (case b => kmk_list); (case i => l_ints); (case j => l_ints); (case z => ((simp only [sizeLine_eq, List.length_append, List.length_map, List.length_cons, List.length_nil, Array.length_toList, KBw.ints_length]); omega))); intro D' ws' h' F' N' l1 hI'; (try k_lt l1); (try k_sweep)))
local macro_rules | `(tactic| walk_at "binaryOp Add str str") => `(tactic| (k_here; (refine my_add_str ?_ ?kz; (case kz => ((simp only [PySem.Str.length_append]; (try simp only [my_len1]); omega)))); intro _ _))
local macro_rules | `(tactic| walk_at "call builtin:list.append") => `(tactic| (k_here; (with_reducible show wpAny _ _ (call (Value.builtin _) [Value.ref _, _]) _ _ _); k_dflt (refine' append_K ?k1 ?k2 ?k3 ?_ ?z; (case k1 => k_asm); (case k2 => k_asm); (case k3 => k_upd); (case z => (simp only [List.size_toArray, sizeLine_eq]; omega)); k_whole); intro h' F' N'; (try k_sweep)))
local macro_rules | `(tactic| walk_at "MINE sub") => `(tactic| (intro p hp; (try simp only [tabsN, List.cons_append, List.nil_append, List.append_assoc, List.mem_cons, List.mem_append, List.not_mem_nil, or_false, false_or] at hp ⊢); (repeat' (refine Or.elim hp (fun hp => ?_) (fun hp => ?_))); all_goals walk_at "MINE or"))
local macro_rules | `(tactic| walk_at "MINE or") => `(tactic| first | assumption | (refine Or.inl ?_; assumption) | (refine Or.inr ?_; walk_at "MINE or"))
local macro_rules | `(tactic| kmk_nums) => `(tactic| first
  | ((with_reducible refine' kmk_from ?gi ?gx); (case gi => l_ints); (case gx => first | kssn_s | exact Int.natCast_nonneg _))
  | ((with_reducible refine' kmk_upto ?gi ?gx); (case gi => l_ints); (case gx => first | kssn_s | exact Int.natCast_nonneg _))
  | ((with_reducible refine' kmk_run ?gi ?gx ?gy); (case gi => l_ints); (case gx => kssn_s); (case gy => kssn_s)))
variable {w : World} {A : Around} {Q : Flow → Shared → Prop} {E : Value → Shared → Prop} {h0 : Heap} {L : Addr} {mg mb : Str → Option Value} {g0 : Array GenState} {o0 : OsState} {s : Shared}
-- @HEAD2
-- @HEADL
local macro_rules | `(tactic| walk_at "compareOp NotEq ref ref") => `(tactic| refine unhold ?_)
theorem st_9 {a : Addr} {pvs : List Value} {cap : Nat} {v : Value} {th ta to : Tok} {hm ad ot tl : Str} {t : RT} {led : List (Addr × Obj)} (X : (fragK w.params).In (lowH h0)) (T : TopRead viewP (looseW viewP looseV) mg mb (lowH h0)) (r : Room A 15 80)
   {ns gns : List Int} (hne : (ot == ad) = false) (hy : AddrOk ot hm tl ns) (hx1 : TxtOk ot ot) (hm1 : mixB ot ot = false) (hck : pmI (Mine.hx hm ++ ns) = 1) (hns : ns.take (ns.length - 6) = gns)
   (hgr : ∀ n ∈ gns, 0 ≤ n ∧ n < 32) (hgl : gns.length ≤ 150) (hfin : (cvDown gns).bits < 5 ∧ Builtin.bitAnd ((cvDown gns).acc * 2 ^ (8 - (cvDown gns).bits).toNat) 255 = 0) (hout : (cvDown gns).out = (RT.node (.cons t .nil)).enc.map fun x => (x.toNat : Int)) (hok : (RT.node (.cons t .nil)).ok) (htd : t.deep ≤ 2) (htl : (RT.node (.cons t .nil)).enc.length ≤ 100) (hrl : RL led t v)
   (S : LawS h0 L g0 o0 [(.ofString "picks", .ref a), (.ofString "tree", v), (.ofString "human", .str hm th), (.ofString "other", .str ot to)] none (some (.str ad ta)) ((a, W.listOf pvs.toArray cap) :: led) s)
   (hQ : ∀ s', LawS h0 L g0 o0 [(.ofString "picks", .ref a), (.ofString "human", .str hm th)] none (some (.str ad ta)) [(a, W.listOf pvs.toArray cap)] s' → Q .next s') :
   wpAny (model PG w) A (exec (lawB 9) (lawV L)) Q E s := by
  obtain ⟨⟨u, p1, p2, o1, o2, F, N, k1, k2, d1, d2⟩, off, gk, gb, go⟩ := S
  obtain ⟨h, gs, dr, tk, os⟩ := s
  obtain ⟨hd, hu, hh⟩ := r
  have := fillOk_W39; clear this
  w_on
  obtain ⟨hdl, dep, frs, gds, un⟩ := A
  dsimp only at *
  subst hh
  refine st_enter (x' := ?xx) (sc' := ?ss) ?hx ?hs ?_
  case' hx => conv => lhs; whnf
  case' hs => conv => lhs; whnf
  dsimp only [kstB] at F go gk gb N hd hu
  k_steps
  have F5 := (show Fr (lowH h0) L _ _ by assumption)
  have N5 := (show News (lowH h0) L _ _ by assumption)
  have ok5 := ok_here X T F5 N5 (p1 := p1) (p2 := p2) (by k_mem) (by k_mem) k1 k2
  refine dec_ok hy hx1 to ok5 ⟨(by show dep + _ < _; omega), (by show un + _ < _; omega), rfl⟩ hm1 hck ?_
  intro s' l tl d dvs dn G hl0 hl1 hd0 hd1 hdi
  obtain ⟨h6, g6, dr6, tk6, os6⟩ := s'
  dsimp only at hl0 hl1 hd0 hd1
  have F6 := fr_gr F5 N5 (.head _) (.tail _ (.head _)) G
  obtain ⟨q1, q2, j1, j2, N6⟩ := news_gr N5 (law_news N5 d1 d2 off) k1 k2 G
  dsimp only at F6 N6
  have N7 : News (lowH h0) L h6 ((l, { cls := .type "tuple", data := .seq #[.str hm tl, .ref d] }) :: (d, W.listOf dvs.toArray dn) :: (tabsN q1 q2 ++ (L + 1 + 1, o1) :: (L + 1, o2) :: (a, W.listOf pvs.toArray cap) :: led)) := fun p hp => by
    rcases List.mem_cons.mp hp with rfl | hp
    · exact news_new (led := [_]) F5 (fun q hq => by rw [List.mem_singleton.mp hq]; exact ⟨hl1, hl0⟩) _ (.head _)
    · rcases List.mem_cons.mp hp with rfl | hp
      · exact news_new (led := [_]) F5 (fun q hq => by rw [List.mem_singleton.mp hq]; exact ⟨hd1, hd0⟩) _ (.head _)
      · exact N6 p hp
  clear F N F5 N5 N6
  k_steps
  have F9 := (show Fr (lowH h0) L _ _ by assumption)
  have N9 := (show News (lowH h0) L _ _ by assumption)
  have ok9 := ok_here X T F9 N9 (p1 := q1) (p2 := q2) (by k_mem) (by k_mem) j1 j2
  refine convert_down_spec d dvs gns _ _ (News.isList N9 (by k_mem)) (hns ▸ hdi) hgr (by omega) hfin ok9 ⟨(by show dep + _ < _; omega), (by show un + _ < _; omega), rfl⟩ fun h10 tk10 e evs en k10 n10 e10 i10 => ?_
  have F10 := F9.after k10
  have N10 := news_cons F9 N9 k10 e10 n10
  clear F6 N7 F9 N9 ok9
  rw [hout] at i10
  k_steps
  refine bytes_K F10 N10 (News.isList N10 (by k_mem)) i10 (fun k hk => ?_) (by rw [i10.length, sizeLine_eq]; simp; omega) rfl fun h11 t11 k11 F11 N11 _ => ?_
  · obtain ⟨c, _, rfl⟩ := List.mem_map.mp hk
    exact ⟨Int.natCast_nonneg _, by have := c.toNat_lt; omega⟩
  rw [octs_back]
  clear F10 N10
  k_steps
  have F12 := (show Fr (lowH h0) L _ _ by assumption)
  have N12 := (show News (lowH h0) L _ _ by assumption)
  have ok12 := ok_here X T F12 N12 (p1 := q1) (p2 := q2) (by k_mem) (by k_mem) j1 j2
  have hdn : (RT.node (.cons t .nil)).deep = max t.deep 0 + 1 := rfl
  refine decode_spec _ hok _ _ rfl (by simp; omega) ok12 ⟨(by show dep + _ < _; omega), (by show un + _ < _; omega), rfl⟩ fun h13 tk13 v13 led13 k13 r13 l13 => ?_
  have F13 := F12.after k13
  have N13 := news_app F12 N12 k13 l13
  clear F11 N11 F12 N12 ok12
  k_steps
  rename_i LL h14 F14 N14 l14
  have x13 : RAt h14 (.node (.cons t .nil)) v13 := RL.at (fun q hq => (N14 q (.tail _ (List.mem_append_right _ hq))).1) _ _ r13
  have xLL : RAt h14 (.node (.cons t .nil)) (.ref LL) :=
    ⟨LL, [v], rfl, ⟨_, (N14 _ (.head _)).1, rfl, _, rfl⟩, v, [], rfl, RL.at (fun q hq => (N14 q (by revert q; walk_at "MINE sub")).1) _ _ hrl, rfl⟩
  refine tree_ne _ v13 _ x13 xLL (by show un + _ + 1 < _; omega) ?_
  k_steps
  exact hQ _ (LawS.quiet (p1 := q1) (p2 := q2) F14 N14 (by kst_all) (by walk_at "MINE sub") (fun p hp => off p (by rw [List.mem_singleton.mp hp]; exact .head _)) j1 j2 d1 d2 (fun i x e => G.gens i x (gk i x e)) (fun x => G.bare (gb x)) (G.os.trans go))

end Mine
end
section -- W40
open PySem PySem.W PySem.Calls PyProof.Rows
set_option maxRecDepth 100000
set_option maxHeartbeats 4000000
namespace Mine
theorem fillOk_W40 : (PySem.Challenge.rw_vn0025_01 = PySem.Challenge.rw_vn0025_01 ∧ fragK = fragK) := fillOk_W1
local macro_rules | `(tactic| walk_at "MINE enter") => `(tactic| (
  k_dflt ((case' ok => assumption); (case' ho => k_is); (case' hcd => k_is); (case' hroom => ((try dsimp only); omega)); (case' hb => conv => lhs; whnf); (case' hs => conv => lhs; whnf); (case' hbind => first | exact BindsTo.of_eq rfl | exact binds_K (Ok.frag (by assumption)) rfl (by k_is) rfl rfl rfl); (case' hloc => exact locs rfl); (case' hco => exact rfl); (case' hgen => exact rfl); (case' hk => exact rfl); (case' hcell => decide))))
local macro_rules | `(tactic| walk_at "MINE centerC") => `(tactic| (
  k_dflt ((case' ok => assumption); (case' ho => k_is); (case' hcd => k_is); (case' hroom => ((try dsimp only); omega)); (case' hb => conv => lhs; whnf); (case' hs => conv => lhs; whnf); (case' hbind => first | exact BindsTo.of_eq rfl | exact binds_K (Ok.frag (by assumption)) rfl (by k_is) rfl rfl rfl); (case' hloc => exact kindsX rfl); (case' hco => exact rfl); (case' hgen => exact rfl); (case' hk => exact rfl); (case' hcell => decide))))
local macro_rules | `(tactic| walk_at "exec For Name Name cons nil") => `(tactic| refine unhold ?_)
local macro_rules | `(tactic| walk_at "exec For Name Call cons nil") => `(tactic| refine unhold ?_)
local macro_rules | `(tactic| walk_at "pyIter ref") => `(tactic| ((with_reducible show wpAny _ _ (pyIter (Value.ref _)) (fun it s₂ => LoopAtV _ _ _ _ _ _ _ _ _ it s₂) _ _); refine unhold ?_))
local macro_rules | `(tactic| walk_at "eval ListComp") => `(tactic| refine unhold ?_)
local macro_rules | `(tactic| walk_at "exec Assign cons ListComp") => `(tactic| refine unhold ?_)
local macro_rules | `(tactic| walk_at "exec While Compare cons nil") => `(tactic| refine unhold ?_)
local macro_rules | `(tactic| walk_at "eval Name") => `(tactic| (k_here; (with_reducible show wpAny _ _ (eval (Expr.Name _ _) (compEnvC _ _ _ _)) _ _ _); k_dflt (first
  | refine LCgL.ld_own (by k_asm) (by k_mem) (by assumption) (by assumption) ?_
  | refine my_global (by k_asm) (by k_asm) (by k_asm) (by k_is) ?_
  | refine my_built (by k_asm) (by k_asm) (by k_asm) (by k_is) (by boot_by_name) (by decide) ?_)))
local macro_rules | `(tactic| walk_at "binaryOp Add ref ref") => `(tactic| (k_here; (with_reducible show wpAny _ _ (binaryOp _ (Value.ref _) (Value.ref _)) _ _ _); k_dflt (refine' kmk_add_ints ?F ?N ?a ?b ?i ?j ?_ ?z; (case F => k_asm); (case N => k_asm); (case a => kmk_list); (case b => kmk_list); (case i => l_ints); (case j => l_ints); (case z => ((simp only [sizeLine_eq, List.length_append, List.length_map, List.length_cons, List.length_nil, Array.length_toList, KBw.ints_length]); omega))); intro D' ws' h' F' N' l1 hI'; (try k_lt l1); (try k_sweep)))
local macro_rules | `(tactic| walk_at "binaryOp Add str str") => `(tactic| (k_here; (refine my_add_str ?_ ?kz; (case kz => ((simp only [PySem.Str.length_append]; (try simp only [my_len1]); omega)))); intro _ _))
local macro_rules | `(tactic| walk_at "call builtin:list.append") => `(tactic| (k_here; (with_reducible show wpAny _ _ (call (Value.builtin _) [Value.ref _, _]) _ _ _); k_dflt (refine' append_K ?k1 ?k2 ?k3 ?_ ?z; (case k1 => k_asm); (case k2 => k_asm); (case k3 => k_upd); (case z => (simp only [List.size_toArray, sizeLine_eq]; omega)); k_whole); intro h' F' N'; (try k_sweep)))
local macro_rules | `(tactic| walk_at "MINE sub") => `(tactic| (intro p hp; (try simp only [tabsN, List.cons_append, List.nil_append, List.append_assoc, List.mem_cons, List.mem_append, List.not_mem_nil, or_false, false_or] at hp ⊢); (repeat' (refine Or.elim hp (fun hp => ?_) (fun hp => ?_))); all_goals walk_at "MINE or"))
local macro_rules | `(tactic| walk_at "MINE or") => `(tactic| first | assumption | (refine Or.inl ?_; assumption) | (refine Or.inr ?_; walk_at "MINE or"))
local macro_rules | `(tactic| kmk_nums) => `(tactic| first
  | ((with_reducible refine' kmk_from ?gi ?gx); (case gi => l_ints); (case gx => first | kssn_s | exact Int.natCast_nonneg _))
  | ((with_reducible refine' kmk_upto ?gi ?gx); (case gi => l_ints); (case gx => first | kssn_s | exact Int.natCast_nonneg _))
  | ((with_reducible refine' kmk_run ?gi ?gx ?gy); (case gi => l_ints); (case gx => kssn_s); (case gy => kssn_s)))
variable {w : World} {A : Around} {Q : Flow → Shared → Prop} {E : Value → Shared → Prop} {h0 : Heap} {L : Addr} {mg mb : Str → Option Value} {g0 : Array GenState} {o0 : OsState} {s : Shared}
-- @HEAD2
-- @HEADL
theorem st_10 {a : Addr} {pvs : List Value} {cap : Nat} {th ta : Tok} {hm ad : Str} (X : (fragK w.params).In (lowH h0)) (T : TopRead viewP (looseW viewP looseV) mg mb (lowH h0)) (r : Room A 15 80)
   (hml : hm.length ≤ 80)
   (S : LawS h0 L g0 o0 [(.ofString "picks", .ref a), (.ofString "human", .str hm th)] none (some (.str ad ta)) [(a, W.listOf pvs.toArray cap)] s)
   (hQ : ∀ s' ts D oD, (D == sysModules) = false → oD.IsDictOf (PySem.intKind PG w) ([] : List (Int × Value)) → D ≠ a → LawS h0 L g0 o0 [(.ofString "picks", .ref a), (.ofString "human", .str hm th), (.ofString "start", .int (hm.length + 1) ts)] (some (.ref D)) (some (.str ad ta)) [(D, oD), (a, W.listOf pvs.toArray cap)] s' → Q .next s') :
   wpAny (model PG w) A (exec (lawB 10) (lawV L)) Q E s := by
  obtain ⟨⟨u, p1, p2, o1, o2, F, N, k1, k2, d1, d2⟩, off, gk, gb, go⟩ := S
  obtain ⟨h, gs, dr, tk, os⟩ := s
  obtain ⟨hd, hu, hh⟩ := r
  have := fillOk_W40; clear this
  w_on
  obtain ⟨hdl, dep, frs, gds, un⟩ := A
  dsimp only at *
  subst hh
  refine st_enter (x' := ?xx) (sc' := ?ss) ?hx ?hs ?_
  case' hx => conv => lhs; whnf
  case' hs => conv => lhs; whnf
  dsimp only [kstB] at F go gk gb N hd hu
  k_steps
  rename_i d h7 od l0 lo hs fs hi fi D h8 l8 h9 h10 F5 N5
  have oc := law_offc N5 (p1 := p1) (p2 := p2) (by walk_at "MINE sub") d1 d2
  have od' := off_lt l0 (p1 := p1) (p2 := p2) (o1 := o1) (o2 := o2) (L := L) (by walk_at "MINE sub")
  have oD := law_offO N5 (p1 := p1) (p2 := p2) (by walk_at "MINE sub") d1 d2 (.head _) (fun e => nomatch e) (fun _ e => nomatch e)
  refine stCN (own := (D, _) :: (d, od) :: tabsN p1 p2) (c := L + 1 + 1) (o := o1) (rest := [(L + 1, o2), (a, W.listOf pvs.toArray cap)]) F5 N5 (by with_unfolding_all rfl) d1 (fun p hp => ?_) (fun p hp => ?_) fun h11 o1' F11 N11 d1' => ?_
  · rcases List.mem_cons.mp hp with rfl | hp
    · exact oD.2.2.1
    · rcases List.mem_cons.mp hp with rfl | hp
      · exact od'.2.2.1
      · rcases List.mem_cons.mp hp with rfl | hp
        · exact oc.1.1.symm
        · rw [List.mem_singleton.mp hp]; exact oc.1.2.symm
  · rcases List.mem_cons.mp hp with rfl | hp
    · exact (Nat.succ_ne_self _).symm
    · rw [List.mem_singleton.mp hp]; exact (off _ (.head _)).2.2.1
  · k_steps
    exact hQ _ _ d od lo hi (fun e => Nat.lt_irrefl _ (e ▸ l0 (a, W.listOf pvs.toArray cap) (by k_mem))) (LawS.quiet (p1 := p1) (p2 := p2) F11 N11 (by kst_all) (by walk_at "MINE sub") (List.forall_mem_cons.mpr ⟨od', off⟩) k1 k2 d1' d2 gk gb go)

end Mine
end
section -- W41
open PySem PySem.W PySem.Calls PyProof.Rows
set_option maxRecDepth 100000
set_option maxHeartbeats 4000000
namespace Mine
theorem fillOk_W41 : (PySem.Challenge.rw_vn0025_01 = PySem.Challenge.rw_vn0025_01 ∧ fragK = fragK) := fillOk_W1
local macro_rules | `(tactic| walk_at "MINE enter") => `(tactic| (
  k_dflt ((case' ok => assumption); (case' ho => k_is); (case' hcd => k_is); (case' hroom => ((try dsimp only); omega)); (case' hb => conv => lhs; whnf); (case' hs => conv => lhs; whnf); (case' hbind => first | exact BindsTo.of_eq rfl | exact binds_K (Ok.frag (by assumption)) rfl (by k_is) rfl rfl rfl); (case' hloc => exact locs rfl); (case' hco => exact rfl); (case' hgen => exact rfl); (case' hk => exact rfl); (case' hcell => decide))))
local macro_rules | `(tactic| walk_at "MINE centerC") => `(tactic| (
  k_dflt ((case' ok => assumption); (case' ho => k_is); (case' hcd => k_is); (case' hroom => ((try dsimp only); omega)); (case' hb => conv => lhs; whnf); (case' hs => conv => lhs; whnf); (case' hbind => first | exact BindsTo.of_eq rfl | exact binds_K (Ok.frag (by assumption)) rfl (by k_is) rfl rfl rfl); (case' hloc => exact kindsX rfl); (case' hco => exact rfl); (case' hgen => exact rfl); (case' hk => exact rfl); (case' hcell => decide))))
local macro_rules | `(tactic| walk_at "exec For Name Name cons nil") => `(tactic| refine unhold ?_)
local macro_rules | `(tactic| walk_at "exec For Name Call cons nil") => `(tactic| refine unhold ?_)
local macro_rules | `(tactic| walk_at "pyIter ref") => `(tactic| ((with_reducible show wpAny _ _ (pyIter (Value.ref _)) (fun it s₂ => LoopAtV _ _ _ _ _ _ _ _ _ it s₂) _ _); refine unhold ?_))
local macro_rules | `(tactic| walk_at "eval ListComp") => `(tactic| refine unhold ?_)
local macro_rules | `(tactic| walk_at "exec Assign cons ListComp") => `(tactic| refine unhold ?_)
local macro_rules | `(tactic| walk_at "exec While Compare cons nil") => `(tactic| refine unhold ?_)
local macro_rules | `(tactic| walk_at "eval Name") => `(tactic| (k_here; (with_reducible show wpAny _ _ (eval (Expr.Name _ _) (compEnvC _ _ _ _)) _ _ _); k_dflt (first
  | refine LCgL.ld_own (by k_asm) (by k_mem) (by assumption) (by assumption) ?_
  | refine my_global (by k_asm) (by k_asm) (by k_asm) (by k_is) ?_
  | refine my_built (by k_asm) (by k_asm) (by k_asm) (by k_is) (by boot_by_name) (by decide) ?_)))
local macro_rules | `(tactic| walk_at "binaryOp Add ref ref") => `(tactic| (k_here; (with_reducible show wpAny _ _ (binaryOp _ (Value.ref _) (Value.ref _)) _ _ _); k_dflt (refine' kmk_add_ints ?F ?N ?a ?b ?i ?j ?_ ?z; (case F => k_asm); (case N => k_asm); (case a => kmk_list); (case b => kmk_list); (case i => l_ints); (case j => l_ints); (case z => ((simp only [sizeLine_eq, List.length_append, List.length_map, List.length_cons, List.length_nil, Array.length_toList, KBw.ints_length]); omega))); intro D' ws' h' F' N' l1 hI'; (try k_lt l1); (try k_sweep)))
local macro_rules | `(tactic| walk_at "binaryOp Add str str") => `(tactic| (k_here; (refine my_add_str ?_ ?kz; (case kz => ((simp only [PySem.Str.length_append]; (try simp only [my_len1]); omega)))); intro _ _))
local macro_rules | `(tactic| walk_at "call builtin:list.append") => `(tactic| (k_here; (with_reducible show wpAny _ _ (call (Value.builtin _) [Value.ref _, _]) _ _ _); k_dflt (refine' append_K ?k1 ?k2 ?k3 ?_ ?z; (case k1 => k_asm); (case k2 => k_asm); (case k3 => k_upd); (case z => (simp only [List.size_toArray, sizeLine_eq]; omega)); k_whole); intro h' F' N'; (try k_sweep)))
local macro_rules | `(tactic| walk_at "MINE sub") => `(tactic| (intro p hp; (try simp only [tabsN, List.cons_append, List.nil_append, List.append_assoc, List.mem_cons, List.mem_append, List.not_mem_nil, or_false, false_or] at hp ⊢); (repeat' (refine Or.elim hp (fun hp => ?_) (fun hp => ?_))); all_goals walk_at "MINE or"))
local macro_rules | `(tactic| walk_at "MINE or") => `(tactic| first | assumption | (refine Or.inl ?_; assumption) | (refine Or.inr ?_; walk_at "MINE or"))
local macro_rules | `(tactic| kmk_nums) => `(tactic| first
  | ((with_reducible refine' kmk_from ?gi ?gx); (case gi => l_ints); (case gx => first | kssn_s | exact Int.natCast_nonneg _))
  | ((with_reducible refine' kmk_upto ?gi ?gx); (case gi => l_ints); (case gx => first | kssn_s | exact Int.natCast_nonneg _))
  | ((with_reducible refine' kmk_run ?gi ?gx ?gy); (case gi => l_ints); (case gx => kssn_s); (case gy => kssn_s)))
variable {w : World} {A : Around} {Q : Flow → Shared → Prop} {E : Value → Shared → Prop} {h0 : Heap} {L : Addr} {mg mb : Str → Option Value} {g0 : Array GenState} {o0 : OsState} {s : Shared}
-- @HEAD2
-- @HEADL
local macro_rules | `(tactic| walk_at "subscriptTail Name Constant ref int") => `(tactic| (k_here; (with_reducible show wpAny _ _ (subscriptTail _ _ (Value.ref _) (Value.int _ _)) _ _ _); (refine' item_list_ints ?k1 ?k2 ?k3 ?k4 ?k5 ?_; (case k1 => kmk_list); (case k2 => l_ints); (case k3 => decide); (case k4 => omega); (case k5 => omega)); intro _))
local macro_rules | `(tactic| walk_at "subscriptTail Name BinOp ref int") => `(tactic| (k_here; (with_reducible show wpAny _ _ (subscriptTail _ _ (Value.ref _) (Value.int _ _)) _ _ _); (refine' item_list_ints ?k1 ?k2 ?k3 ?k4 ?k5 ?_; (case k1 => kmk_list); (case k2 => l_ints); (case k3 => omega); (case k4 => omega); (case k5 => omega)); intro _))
/-- the turns so far -/
def TurnsOk (st len : Int) (i : Nat) (kvs : List (Int × Value)) : Prop :=
  kvs.length ≤ i ∧ (0 < i → 0 < kvs.length) ∧ ∀ p ∈ kvs, ∃ e t, p.2 = .int e t ∧ 1 ≤ e ∧ e ≤ 31 ∧ st ≤ p.1 ∧ p.1 < len
theorem TurnsOk.step {st len : Int} {i : Nat} {kvs : List (Int × Value)} (h : TurnsOk st len i kvs) {k e : Int} (t : Tok) (h1 : 1 ≤ e) (h2 : e ≤ 31) (h3 : st ≤ k) (h4 : k < len) : TurnsOk st len (i + 1) (PySem.stored kvs k (.int e t)) := by
  obtain ⟨a, b, c⟩ := h
  unfold PySem.stored
  split
  · rename_i hk
    refine ⟨by rw [List.length_map]; omega, fun _ => ?_, fun p hp => ?_⟩
    · rw [List.length_map]
      obtain ⟨x, hx, _⟩ := List.any_eq_true.mp hk
      exact List.length_pos_of_mem hx
    · obtain ⟨q, hq, rfl⟩ := List.mem_map.mp hp
      by_cases e' : q.1 = k
      · rw [if_pos e']
        exact ⟨e, t, rfl, h1, h2, e' ▸ h3, e' ▸ h4⟩
      · rw [if_neg e']
        exact c q hq
  · refine ⟨by rw [List.length_append]; simp; omega, fun _ => by rw [List.length_append]; simp, fun p hp => ?_⟩
    rcases List.mem_append.mp hp with hp | hp
    · exact c p hp
    · rw [List.mem_singleton.mp hp]
      exact ⟨e, t, rfl, h1, h2, h3, h4⟩
theorem st_11 {a : Addr} {pvs : List Value} {pns : List Int} {cap : Nat} {th ta ts : Tok} {hm ad : Str} {D : Addr} {oD : Obj} (X : (fragK w.params).In (lowH h0)) (T : TopRead viewP (looseW viewP looseV) mg mb (lowH h0)) (r : Room A 15 80)
   (hi : IntsAre pvs pns) (hlen : pns.length = 7) (hml : hm.length + 1 < ad.length) (hal : ad.length ≤ 200) (lo : (D == sysModules) = false) (hd0 : oD.IsDictOf (PySem.intKind PG w) ([] : List (Int × Value))) (hDa : D ≠ a)
   (S : LawS h0 L g0 o0 [(.ofString "picks", .ref a), (.ofString "human", .str hm th), (.ofString "start", .int (hm.length + 1) ts)] (some (.ref D)) (some (.str ad ta)) [(D, oD), (a, W.listOf pvs.toArray cap)] s)
   (hQ : ∀ s' oD' kvs n, oD'.IsDictOf (PySem.intKind PG w) kvs → 1 ≤ n → n ≤ 3 → TurnsOk (hm.length + 1) ad.length n kvs → LawS h0 L g0 o0 [(.ofString "picks", .ref a), (.ofString "human", .str hm th)] (some (.ref D)) (some (.str ad ta)) [(D, oD'), (a, W.listOf pvs.toArray cap)] s' → Q .next s') :
   wpAny (model PG w) A (exec (lawB 11) (lawV L)) Q E s := by
  obtain ⟨⟨u, p1, p2, o1, o2, F, N, k1, k2, d1, d2⟩, off, gk, gb, go⟩ := S
  obtain ⟨h, gs, dr, tk, os⟩ := s
  obtain ⟨hd, hu, hh⟩ := r
  have := fillOk_W41; clear this
  w_on
  obtain ⟨hdl, dep, frs, gds, un⟩ := A
  dsimp only at *
  subst hh
  refine st_enter (x' := ?xx) (sc' := ?ss) ?hx ?hs ?_
  case' hx => conv => lhs; whnf
  case' hs => conv => lhs; whnf
  dsimp only [kstB] at F go gk gb N hd hu
  refine wpAny_mono (E := fun _ _ => False) (Q := Q) ?_ (fun _ _ h => h) (fun _ _ h => h.elim)
  k_steps
  unfold Hold
  refine' For_invVF F ?_ ?_ ?_
  · exact rfl
  · exact rfl
  k_steps
  rename_i t7 h7 tk7 u7 v7 w7 hr7 F7 N7 k7
  unfold Hold
  have hf3 := fmod_range (a := (pns.getD (Int.toNat 0) 0).fdiv 3) (m := 3) (by decide)
  obtain ⟨cnt, hcnt⟩ : ∃ c : Nat, ((c : Nat) : Int) = 1 + ((pns.getD (Int.toNat 0) 0).fdiv 3).fmod 3 := ⟨(1 + ((pns.getD (Int.toNat 0) 0).fdiv 3).fmod 3).toNat, by omega⟩
  rw [← hcnt] at hr7
  have offD := off _ (.head _)
  refine my_range cnt (σ := Obj × List (Int × Value)) (fun c => (D, c.1) :: (tabsN p1 p2 ++ [(L + 1 + 1, o1), (L + 1, o2), (a, W.listOf pvs.toArray cap)])) (fun _ => [(.ofString "picks", .ref a), (.ofString "human", .str hm th), (.ofString "start", .int (hm.length + 1) ts)])
    (fun i c => c.1.IsDictOf (PySem.intKind PG w) c.2 ∧ TurnsOk (hm.length + 1) ad.length i c.2) (oD, []) rfl hr7 (rng_small (by omega)) (rng_size cnt) F7 (fun p hp => N7 p (by revert p; walk_at "MINE sub")) (by kst_all) ⟨hd0, Nat.le_refl _, fun h => absurd h (Nat.lt_irrefl _), fun _ h => nomatch h⟩ ?_ ?_
  · rintro ⟨oD', kvs⟩ i k t u' h' tk' own rfl hlt - hoff ⟨hd, hok⟩ F' N'
    dsimp only [kstB] at F' N' hd hok ⊢
    clear F7 N7
    simp only [List.cons_append, List.nil_append, tabsN] at N'
    k_steps
    have hkk : kvs.length ≤ 3 := Nat.le_trans hok.1 (by omega)
    refine kda_set (knd := PySem.intKind _ _) F' N' (.head fun q hq => ?_) hd (intKind_is _ _ _ _) (by rw [sizeLine_eq]; omega) fun h8 o8 F8 N8 hd8 => ?_
    · rcases List.mem_cons.mp hq with rfl | hq
      · exact offD.1.symm
      · rcases List.mem_cons.mp hq with rfl | hq
        · exact offD.2.1.symm
        · rcases List.mem_cons.mp hq with rfl | hq
          · exact offD.2.2.1.symm
          · rcases List.mem_cons.mp hq with rfl | hq
            · exact offD.2.2.2.symm
            · rcases List.mem_cons.mp hq with rfl | hq
              · exact hDa.symm
              · exact hoff.ne (.head _) q hq
    clear F' N'
    have g1 := fmod_range (a := pns.getD (1 + 2 * (0 + (i : Int))).toNat 0) (m := (ad.length : Int) - (hm.length + 1)) (by omega)
    have g2 := fmod_range (a := pns.getD (2 + 2 * (0 + (i : Int))).toNat 0) (m := 31) (by decide)
    k_steps
    exact my_end (⟨o8, _⟩ : Obj × List (Int × Value)) F8 N8 (fun p hp => List.mem_append_left own hp) (fun p hp => .tail _ (.tail _ (.tail _ (.tail _ (.tail _ (.tail _ hp)))))) rfl (by kst_all) ⟨hd8, hok.step _ (by omega) (by omega) (by omega) (by omega)⟩
  · rintro ⟨oD', kvs⟩ u' h' tk' ⟨hd, hok⟩ F' N'
    dsimp only at hd hok N'
    k_steps
    exact hQ _ oD' kvs cnt hd (by omega) (by omega) hok (LawS.quiet (p1 := p1) (p2 := p2) F' N' (by kst_all) (by walk_at "MINE sub") (List.forall_mem_cons.mpr ⟨offD, fun p hp => off p (.tail _ hp)⟩) k1 k2 d1 d2 gk gb go)

end Mine
end
section -- W42
open PySem PySem.W PySem.Calls PyProof.Rows
set_option maxRecDepth 100000
set_option maxHeartbeats 4000000
namespace Mine
theorem fillOk_W42 : (PySem.Challenge.rw_vn0025_01 = PySem.Challenge.rw_vn0025_01 ∧ fragK = fragK) := fillOk_W1
local macro_rules | `(tactic| walk_at "MINE enter") => `(tactic| (
  k_dflt ((case' ok => assumption); (case' ho => k_is); (case' hcd => k_is); (case' hroom => ((try dsimp only); omega)); (case' hb => conv => lhs; whnf); (case' hs => conv => lhs; whnf); (case' hbind => first | exact BindsTo.of_eq rfl | exact binds_K (Ok.frag (by assumption)) rfl (by k_is) rfl rfl rfl); (case' hloc => exact locs rfl); (case' hco => exact rfl); (case' hgen => exact rfl); (case' hk => exact rfl); (case' hcell => decide))))
local macro_rules | `(tactic| walk_at "MINE centerC") => `(tactic| (
  k_dflt ((case' ok => assumption); (case' ho => k_is); (case' hcd => k_is); (case' hroom => ((try dsimp only); omega)); (case' hb => conv => lhs; whnf); (case' hs => conv => lhs; whnf); (case' hbind => first | exact BindsTo.of_eq rfl | exact binds_K (Ok.frag (by assumption)) rfl (by k_is) rfl rfl rfl); (case' hloc => exact kindsX rfl); (case' hco => exact rfl); (case' hgen => exact rfl); (case' hk => exact rfl); (case' hcell => decide))))
local macro_rules | `(tactic| walk_at "exec For Name Name cons nil") => `(tactic| refine unhold ?_)
local macro_rules | `(tactic| walk_at "exec For Name Call cons nil") => `(tactic| refine unhold ?_)
local macro_rules | `(tactic| walk_at "pyIter ref") => `(tactic| ((with_reducible show wpAny _ _ (pyIter (Value.ref _)) (fun it s₂ => LoopAtV _ _ _ _ _ _ _ _ _ it s₂) _ _); refine unhold ?_))
local macro_rules | `(tactic| walk_at "eval ListComp") => `(tactic| refine unhold ?_)
local macro_rules | `(tactic| walk_at "exec Assign cons ListComp") => `(tactic| refine unhold ?_)
local macro_rules | `(tactic| walk_at "exec While Compare cons nil") => `(tactic| refine unhold ?_)
local macro_rules | `(tactic| walk_at "eval Name") => `(tactic| (k_here; (with_reducible show wpAny _ _ (eval (Expr.Name _ _) (compEnvC _ _ _ _)) _ _ _); k_dflt (first
  | refine LCgL.ld_own (by k_asm) (by k_mem) (by assumption) (by assumption) ?_
  | refine my_global (by k_asm) (by k_asm) (by k_asm) (by k_is) ?_
  | refine my_built (by k_asm) (by k_asm) (by k_asm) (by k_is) (by boot_by_name) (by decide) ?_)))
local macro_rules | `(tactic| walk_at "binaryOp Add ref ref") => `(tactic| (k_here; (with_reducible show wpAny _ _ (binaryOp _ (Value.ref _) (Value.ref _)) _ _ _); k_dflt (refine' kmk_add_ints ?F ?N ?a ?b ?i ?j ?_ ?z; (case F => k_asm); (case N => k_asm); (case a => kmk_list); (case b => kmk_list); (case i => l_ints); (case j => l_ints); (case z => ((simp only [sizeLine_eq, List.length_append, List.length_map, List.length_cons, List.length_nil, Array.length_toList, KBw.ints_length]); omega))); intro D' ws' h' F' N' l1 hI'; (try k_lt l1); (try k_sweep)))
local macro_rules | `(tactic| walk_at "binaryOp Add str str") => `(tactic| (k_here; (refine my_add_str ?_ ?kz; (case kz => ((simp only [PySem.Str.length_append]; (try simp only [my_len1]); omega)))); intro _ _))
local macro_rules | `(tactic| walk_at "call builtin:list.append") => `(tactic| (k_here; (with_reducible show wpAny _ _ (call (Value.builtin _) [Value.ref _, _]) _ _ _); k_dflt (refine' append_K ?k1 ?k2 ?k3 ?_ ?z; (case k1 => k_asm); (case k2 => k_asm); (case k3 => k_upd); (case z => (simp only [List.size_toArray, sizeLine_eq]; omega)); k_whole); intro h' F' N'; (try k_sweep)))
local macro_rules | `(tactic| walk_at "MINE sub") => `(tactic| (intro p hp; (try simp only [tabsN, List.cons_append, List.nil_append, List.append_assoc, List.mem_cons, List.mem_append, List.not_mem_nil, or_false, false_or] at hp ⊢); (repeat' (refine Or.elim hp (fun hp => ?_) (fun hp => ?_))); all_goals walk_at "MINE or"))
local macro_rules | `(tactic| walk_at "MINE or") => `(tactic| first | assumption | (refine Or.inl ?_; assumption) | (refine Or.inr ?_; walk_at "MINE or"))
local macro_rules | `(tactic| kmk_nums) => `(tactic| first
  | ((with_reducible refine' kmk_from ?gi ?gx); (case gi => l_ints); (case gx => first | kssn_s | exact Int.natCast_nonneg _))
  | ((with_reducible refine' kmk_upto ?gi ?gx); (case gi => l_ints); (case gx => first | kssn_s | exact Int.natCast_nonneg _))
  | ((with_reducible refine' kmk_run ?gi ?gx ?gy); (case gi => l_ints); (case gx => kssn_s); (case gy => kssn_s)))
variable {w : World} {A : Around} {Q : Flow → Shared → Prop} {E : Value → Shared → Prop} {h0 : Heap} {L : Addr} {mg mb : Str → Option Value} {g0 : Array GenState} {o0 : OsState} {s : Shared}
-- @HEAD2
-- @HEADL
local macro_rules | `(tactic| walk_at "compareOp NotEq ref ref") => `(tactic| refine unhold ?_)
local macro_rules | `(tactic| walk_at "call type:enumerate") => `(tactic| refine unhold ?_)
local macro_rules | `(tactic| walk_at "compareOp In int ref") => `(tactic| (k_here; first
  | refine kda_in (knd := PySem.intKind _ _) (by k_asm) (by k_mem) (by assumption) (by assumption) (intKind_is _ _ _ _) true (by simp only [*]; rfl) ?_
  | refine kda_in (knd := PySem.intKind _ _) (by k_asm) (by k_mem) (by assumption) (by assumption) (intKind_is _ _ _ _) false (by simp only [*]; rfl) ?_))
local macro_rules | `(tactic| walk_at "subscriptTail Name Name ref int") => `(tactic| (k_here; (refine kda_item (knd := PySem.intKind _ _) (by k_asm) (by k_mem) (by assumption) (intKind_is _ _ _ _) (by assumption) ?_)))
theorem my_index {prog : Program} {x y : Str} {t u : Tok} {n : Int} {Q E : Value → Shared → Prop} (e : Txt.find x y = n) (h0 : 0 ≤ n) (h : ∀ t' k, Q (.int n t') { s with toks := k }) : wpAny (model prog w) A (call (.builtin "str.index") [.str x t, .str y u]) Q E s := by
  cases ho : PySem.Builtin.Str.occurrences x y 0 x.length 1 with
  | nil =>
    have e' : Txt.find x y = -1 := by simp [Txt.find, ho]
    omega
  | cons i rest =>
    have e' : Txt.find x y = (i : Int) := by simp [Txt.find, ho]
    refine SC.index ho ?_
    have h := h s.toks (s.toks + 1)
    rw [← e, e'] at h
    exact h
local macro_rules | `(tactic| walk_at "call builtin:str.index") => `(tactic| (k_here; refine my_index (by assumption) (by omega) ?_; intro _ _))
local macro_rules | `(tactic| walk_at "subscriptTail Name BinOp str int") => `(tactic| (k_here; (refine cs_item (fmod_range (by decide)) ?_); intro _))
/-- the code of the k-th letter of the turned text -/
def turnC (kvs : List (Int × Value)) (ad : Str) (k : Nat) : Nat :=
  match PySem.valueAt kvs (k : Int) with
  | some (.int e _) => csAt ((Txt.find csS ⟨#[ad.cps[k]!]⟩ + e).fmod 32)
  | _ => ad.cps[k]!
def turnT (kvs : List (Int × Value)) (ad : Str) : Str := ⟨((List.range ad.cps.size).map (turnC kvs ad)).toArray⟩
theorem valueAt_mem {kvs : List (Int × Value)} {k : Int} {v : Value} (h : PySem.valueAt kvs k = some v) : (k, v) ∈ kvs := by
  unfold PySem.valueAt at h
  cases e : kvs.find? fun kv => kv.1 = k with
  | none => rw [e] at h; cases h
  | some p =>
    rw [e] at h
    have hp := List.mem_of_find?_eq_some e
    have hk : p.1 = k := by simpa using List.find?_some e
    obtain ⟨a, b⟩ := p
    have h : b = v := Option.some.inj h
    dsimp only at hk
    rw [← hk, ← h]; exact hp
theorem st_12 {a : Addr} {pvs : List Value} {cap : Nat} {th ta : Tok} {hm ad tl : Str} {D : Addr} {oD : Obj} {kvs : List (Int × Value)} {n : Nat} {ns : List Int} (X : (fragK w.params).In (lowH h0)) (T : TopRead viewP (looseW viewP looseV) mg mb (lowH h0)) (r : Room A 15 80)
   (hal : ad.length ≤ 200) (hac : ad.cps.all (· < 128) = true) (hlet : ∀ k : Nat, hm.length + 1 ≤ k → k < ad.length → 0 ≤ Txt.find csS ⟨#[ad.cps[k]!]⟩) (lo : (D == sysModules) = false) (hd : oD.IsDictOf (PySem.intKind PG w) kvs) (hok : TurnsOk (hm.length + 1) ad.length n kvs)
   (hy : AddrOk (turnT kvs ad) hm tl ns) (hx : TxtOk (turnT kvs ad) (turnT kvs ad)) (hck : pmI (Mine.hx hm ++ ns) ≠ 1)
   (S : LawS h0 L g0 o0 [(.ofString "picks", .ref a), (.ofString "human", .str hm th)] (some (.ref D)) (some (.str ad ta)) [(D, oD), (a, W.listOf pvs.toArray cap)] s)
   (hQ : ∀ s', LawS h0 L g0 o0 [(.ofString "picks", .ref a), (.ofString "human", .str hm th)] (some (.ref D)) (some (.str ad ta)) [(a, W.listOf pvs.toArray cap)] s' → Q .next s') :
   wpAny (model PG w) A (exec (lawB 12) (lawV L)) Q E s := by
  obtain ⟨⟨u, p1, p2, o1, o2, F, N, k1, k2, d1, d2⟩, off, gk, gb, go⟩ := S
  obtain ⟨h, gs, dr, tk, os⟩ := s
  obtain ⟨hd, hu, hh⟩ := r
  have := fillOk_W42; clear this
  w_on
  obtain ⟨hdl, dep, frs, gds, un⟩ := A
  dsimp only at *
  subst hh
  refine st_enter (x' := ?xx) (sc' := ?ss) ?hx ?hs ?_
  case' hx => conv => lhs; whnf
  case' hs => conv => lhs; whnf
  dsimp only [kstB] at F go gk gb N hd hu
  have offD := off _ (.head _)
  k_steps
  unfold Hold
  refine my_compT (cl := _) F rfl (by with_unfolding_all rfl) (by decide) rfl (by decide) rfl rfl (by decide) ?_
  k_steps
  unfold Hold
  refine call_enumerate_str fun h6 hE hIt hz hk => ?_
  dsimp only at hE hIt hz hk
  have hIt' : h6.IsStrIter h.objs.size "str_ascii_iterator" ad ta 0 := by simpa [strIterType, hac] using hIt
  have F6 := F.after hk
  have N6 := Mine.News.stays N hk
  have hLs : L < h.objs.size := F.ns.lt
  have fresh₀ : ∀ b, h.objs.size ≤ b → (lowH h0).get? b = none := fun b hb => by
    cases e : (lowH h0).get? b with
    | none => rfl
    | some o' => exact absurd (Heap.lt_size (F.keep b o' e)) (Nat.not_lt.mpr hb)
  have hfp : ∀ b ∈ [h.objs.size + 1, h.objs.size], h.objs.size ≤ b ∧ b < h.objs.size + 2 := fun b hb => by
    rcases List.mem_cons.mp hb with rfl | hb
    · omega
    · rw [List.mem_singleton.mp hb]; omega
  clear F
  refine ⟨h.objs.size + 1, _, _, _, _, _, _, _, fun i ys => StrsAre ys (((List.range ad.cps.size).take i).map fun a => (⟨#[turnC kvs ad a]⟩ : Str)), rfl,
    WalksT.enumerateD (Draws.strAscii rfl h.objs.size ad ta) (h.objs.size + 1) (Nat.succ_ne_self _) (fun hm => Nat.succ_ne_self _ (List.mem_singleton.mp hm)) (.head _), (fun i vals ⟨t, x, _, e⟩ => ⟨_, _, e⟩), (by rw [sizeLine_eq]; show ad.length ≤ _; omega),
    ⟨⟨_, hE⟩, hIt'⟩, (fun b hb => Nat.lt_of_lt_of_eq (hfp b hb).2 hz.symm), (fun b hb => ⟨fresh₀ b (hfp b hb).1, fun e => Nat.lt_irrefl _ (Nat.lt_of_lt_of_le hLs (e ▸ (hfp b hb).1))⟩), F6, N6, (fun p hp hm => absurd (Heap.lt_size (N p hp).1) (Nat.not_lt.mpr (hfp _ hm).1)), .nil, ?_, ?_⟩
  · rintro i v₁ v₂ own oC C DD ys m₂ h' tk' E' hlt ⟨t', xx, ⟨c, u', hc, rfl⟩, e⟩ hC hx1 hx2 F' N' hJ
    obtain ⟨rfl, rfl⟩ : v₁ = .int (i : Int) t' ∧ v₂ = .str ⟨#[c]⟩ u' := by
      have e := congrArg Array.toList e
      simp at e
      exact e
    have hcc : ad.cps[i]! = c := by rw [getElem!_def, hc]
    clear F6 N6 N
    cases hv : PySem.valueAt kvs (i : Int) with
    | none =>
      k_steps
      refine myC F' N' (fun _ h => h) ?_
      have htc : turnC kvs ad i = c := by unfold turnC; rw [hv, hcc]
      rw [← htc]
      exact strs_snoc (f := turnC kvs ad) hJ (List.getElem?_range hlt)
    | some v =>
      obtain ⟨e, te, rfl, he1, he2, hk1, hk2⟩ := hok.2.2 _ (valueAt_mem hv)
      have hf0 := hlet i (by omega) (by omega)
      rw [hcc] at hf0
      obtain ⟨f, hfd⟩ : ∃ f, Txt.find (Str.ofString "qpzry9x8gf2tvdw0s3jn54khce6mua7l") ⟨#[c]⟩ = f := ⟨_, rfl⟩
      have hf0' : 0 ≤ f := hfd ▸ hf0
      k_steps
      refine myC F' N' (fun _ h => h) ?_
      have htc : turnC kvs ad i = csAt ((f + e).fmod 32) := by
        unfold turnC; rw [hv, hcc]; show csAt ((Txt.find (Str.ofString "qpzry9x8gf2tvdw0s3jn54khce6mua7l") ⟨#[c]⟩ + e).fmod 32) = _; rw [hfd]
      rw [← htc]
      exact strs_snoc (f := turnC kvs ad) hJ (List.getElem?_range hlt)
  · intro ys hJ DD h' tk' F' N' o1'
    k_steps
    refine my_join (vs := ys) (l := (List.range ad.cps.size).map (turnC kvs ad)) (News.isList N' (by k_mem)) ?_ ?_ fun t5 k5 => ?_
    · rw [List.take_of_length_le (by rw [List.length_range]; exact Nat.le_refl _)] at hJ
      rw [List.map_map]; exact hJ
    · rw [List.length_map, List.length_range]; exact Nat.le_trans hal (by decide)
    show wpAny _ _ _ _ _ _
    k_steps
    clear F6 N6 N
    have F5 := (show Fr (lowH h0) L _ _ by assumption)
    have N5 := (show News (lowH h0) L _ _ by assumption)
    have ok5 := ok_here X T F5 N5 (p1 := p1) (p2 := p2) (by k_mem) (by k_mem) k1 k2
    refine dec_no (x := turnT kvs ad) hy hx t5 ok5 ⟨(by show dep + _ < _; omega), (by show un + _ < _; omega), rfl⟩ (fun e => hck e.2) ?_
    intro s' l G hl0 hl1
    obtain ⟨h6, g6, dr6, tk6, os6⟩ := s'
    dsimp only at hl0 hl1
    have F6 := fr_gr F5 N5 (p1 := p1) (p2 := p2) (by k_mem) (by k_mem) G
    obtain ⟨q1, q2, j1, j2, N6⟩ := news_gr (news := (L + 1 + 1, o1) :: (L + 1, o2) :: (D, oD) :: [(a, W.listOf pvs.toArray cap)]) (fun p hp => N5 p (.tail _ hp)) (law_news (fun p hp => N5 p (.tail _ hp)) d1 d2 off) k1 k2 G
    dsimp only at F6 N6
    have N7 := news_addN F5 N6 hl0 hl1
    clear F' N' F5 N5 N6
    k_steps
    rename_i DT h8 F8 N8 l8
    unfold Hold
    refine nones_ne (t := DT) (News.isTup N8 (by k_mem)) (News.isTup N8 (by k_mem)) (by show un + 1 < _; omega) ?_
    k_steps
    exact hQ _ (LawS.quiet (p1 := q1) (p2 := q2) F8 N8 (by kst_all) (by walk_at "MINE sub") (fun p hp => off p (.tail _ hp)) j1 j2 d1 d2 (fun i x e => G.gens i x (gk i x e)) (fun x => G.bare (gb x)) (G.os.trans go))

end Mine
end
section -- W43
open PySem PySem.W PySem.Calls PyProof.Rows
set_option maxRecDepth 100000
set_option maxHeartbeats 4000000
namespace Mine
theorem fillOk_W43 : (PySem.Challenge.rw_vn0025_01 = PySem.Challenge.rw_vn0025_01 ∧ fragK = fragK) := fillOk_W1
local macro_rules | `(tactic| walk_at "MINE enter") => `(tactic| (
  k_dflt ((case' ok => assumption); (case' ho => k_is); (case' hcd => k_is); (case' hroom => ((try dsimp only); omega)); (case' hb => conv => lhs; whnf); (case' hs => conv => lhs; whnf); (case' hbind => first | exact BindsTo.of_eq rfl | exact binds_K (Ok.frag (by assumption)) rfl (by k_is) rfl rfl rfl); (case' hloc => exact locs rfl); (case' hco => exact rfl); (case' hgen => exact rfl); (case' hk => exact rfl); (case' hcell => decide))))
local macro_rules | `(tactic| walk_at "MINE centerC") => `(tactic| (
  k_dflt ((case' ok => assumption); (case' ho => k_is); (case' hcd => k_is); (case' hroom => ((try dsimp only); omega)); (case' hb => conv => lhs; whnf); (case' hs => conv => lhs; whnf); (case' hbind => first | exact BindsTo.of_eq rfl | exact binds_K (Ok.frag (by assumption)) rfl (by k_is) rfl rfl rfl); (case' hloc => exact kindsX rfl); (case' hco => exact rfl); (case' hgen => exact rfl); (case' hk => exact rfl); (case' hcell => decide))))
local macro_rules | `(tactic| walk_at "exec For Name Name cons nil") => `(tactic| refine unhold ?_)
local macro_rules | `(tactic| walk_at "exec For Name Call cons nil") => `(tactic| refine unhold ?_)
local macro_rules | `(tactic| walk_at "pyIter ref") => `(tactic| ((with_reducible show wpAny _ _ (pyIter (Value.ref _)) (fun it s₂ => LoopAtV _ _ _ _ _ _ _ _ _ it s₂) _ _); refine unhold ?_))
local macro_rules | `(tactic| walk_at "eval ListComp") => `(tactic| refine unhold ?_)
local macro_rules | `(tactic| walk_at "exec Assign cons ListComp") => `(tactic| refine unhold ?_)
local macro_rules | `(tactic| walk_at "exec While Compare cons nil") => `(tactic| refine unhold ?_)
local macro_rules | `(tactic| walk_at "eval Name") => `(tactic| (k_here; (with_reducible show wpAny _ _ (eval (Expr.Name _ _) (compEnvC _ _ _ _)) _ _ _); k_dflt (first
  | refine LCgL.ld_own (by k_asm) (by k_mem) (by assumption) (by assumption) ?_
  | refine my_global (by k_asm) (by k_asm) (by k_asm) (by k_is) ?_
  | refine my_built (by k_asm) (by k_asm) (by k_asm) (by k_is) (by boot_by_name) (by decide) ?_)))
local macro_rules | `(tactic| walk_at "binaryOp Add ref ref") => `(tactic| (k_here; (with_reducible show wpAny _ _ (binaryOp _ (Value.ref _) (Value.ref _)) _ _ _); k_dflt (refine' kmk_add_ints ?F ?N ?a ?b ?i ?j ?_ ?z; (case F => k_asm); (case N => k_asm); (case a => kmk_list); (case b => kmk_list); (case i => l_ints); (case j => l_ints); (case z => ((simp only [sizeLine_eq, List.length_append, List.length_map, List.length_cons, List.length_nil, Array.length_toList, KBw.ints_length]); omega))); intro D' ws' h' F' N' l1 hI'; (try k_lt l1); (try k_sweep)))
local macro_rules | `(tactic| walk_at "binaryOp Add str str") => `(tactic| (k_here; (refine my_add_str ?_ ?kz; (case kz => ((simp only [PySem.Str.length_append]; (try simp only [my_len1]); omega)))); intro _ _))
local macro_rules | `(tactic| walk_at "call builtin:list.append") => `(tactic| (k_here; (with_reducible show wpAny _ _ (call (Value.builtin _) [Value.ref _, _]) _ _ _); k_dflt (refine' append_K ?k1 ?k2 ?k3 ?_ ?z; (case k1 => k_asm); (case k2 => k_asm); (case k3 => k_upd); (case z => (simp only [List.size_toArray, sizeLine_eq]; omega)); k_whole); intro h' F' N'; (try k_sweep)))
local macro_rules | `(tactic| walk_at "MINE sub") => `(tactic| (intro p hp; (try simp only [tabsN, List.cons_append, List.nil_append, List.append_assoc, List.mem_cons, List.mem_append, List.not_mem_nil, or_false, false_or] at hp ⊢); (repeat' (refine Or.elim hp (fun hp => ?_) (fun hp => ?_))); all_goals walk_at "MINE or"))
local macro_rules | `(tactic| walk_at "MINE or") => `(tactic| first | assumption | (refine Or.inl ?_; assumption) | (refine Or.inr ?_; walk_at "MINE or"))
local macro_rules | `(tactic| kmk_nums) => `(tactic| first
  | ((with_reducible refine' kmk_from ?gi ?gx); (case gi => l_ints); (case gx => first | kssn_s | exact Int.natCast_nonneg _))
  | ((with_reducible refine' kmk_upto ?gi ?gx); (case gi => l_ints); (case gx => first | kssn_s | exact Int.natCast_nonneg _))
  | ((with_reducible refine' kmk_run ?gi ?gx ?gy); (case gi => l_ints); (case gx => kssn_s); (case gy => kssn_s)))
variable {w : World} {A : Around} {Q : Flow → Shared → Prop} {E : Value → Shared → Prop} {h0 : Heap} {L : Addr} {mg mb : Str → Option Value} {g0 : Array GenState} {o0 : OsState} {s : Shared}
-- @HEAD2
-- @HEADL
/-- the k-th letter is a small one -/
def lowAt (ad : Str) (k : Nat) : Bool := Txt.islower (Txt.item ad (k : Int))
def lowL (ad : Str) : List Int := ((List.range ad.length).filter (lowAt ad)).map fun k : Nat => (k : Int)
theorem st_13 {a : Addr} {pvs : List Value} {cap : Nat} {th ta : Tok} {hm ad : Str} {D : Addr} (X : (fragK w.params).In (lowH h0)) (T : TopRead viewP (looseW viewP looseV) mg mb (lowH h0)) (r : Room A 15 80)
   (hal : ad.length ≤ 200) (hac : ad.cps.all (· < 128) = true)
   (S : LawS h0 L g0 o0 [(.ofString "picks", .ref a), (.ofString "human", .str hm th)] (some (.ref D)) (some (.str ad ta)) [(a, W.listOf pvs.toArray cap)] s)
   (hQ : ∀ (s' : Shared) (b : Addr) (lvs : List Value) (lcap : Nat), IntsAre lvs (lowL ad) → LawS h0 L g0 o0 [(.ofString "picks", .ref a), (.ofString "human", .str hm th), (.ofString "letters", .ref b)] (some (.ref D)) (some (.str ad ta)) [(b, W.listOf lvs.toArray lcap), (a, W.listOf pvs.toArray cap)] s' → Q .next s') :
   wpAny (model PG w) A (exec (lawB 13) (lawV L)) Q E s := by
  obtain ⟨⟨u, p1, p2, o1, o2, F, N, k1, k2, d1, d2⟩, off, gk, gb, go⟩ := S
  obtain ⟨h, gs, dr, tk, os⟩ := s
  obtain ⟨hd, hu, hh⟩ := r
  have := fillOk_W43; clear this
  w_on
  obtain ⟨hdl, dep, frs, gds, un⟩ := A
  dsimp only at *
  subst hh
  refine st_enter (x' := ?xx) (sc' := ?ss) ?hx ?hs ?_
  case' hx => conv => lhs; whnf
  case' hs => conv => lhs; whnf
  dsimp only [kstB] at F go gk gb N hd hu
  k_steps
  unfold Hold
  refine LCt.Assign_ListComp_T (cl := _) F rfl (by with_unfolding_all rfl) (by with_unfolding_all rfl) (by decide) rfl (by decide) rfl rfl rfl ?_
  refine wpAny_mono (Q := RngP (lowH h0) L (kstB u [(.ofString "picks", .ref a), (.ofString "human", .str hm th)]) (tabsN p1 p2 ++ [(L + 1 + 1, o1), (L + 1, o2), (a, W.listOf pvs.toArray cap)]) ad.length gs dr os) ?_ ?_ (fun _ _ e => e)
  · k_steps
    all_goals exact RngP.intro (by assumption) (by omega) (by assumption) (by assumption) (fun p hp => hp)
  · rintro xv s₁ ⟨rr, h7, tk7, t1, u1, v1, rfl, rfl, hr7, F7, N7⟩
    refine LCt.CompSrcT.range rfl F7 N7 hr7 (rng_small (by omega)) (rng_size ad.length) (by rw [sizeLine_eq]; omega) fun g => my_restT (fun i ys => IntsAre ys (((List.range i).filter (lowAt ad)).map fun k : Nat => (k : Int))) ad.length ?_ ?_ _ 0 [] (Nat.zero_add _) .nil
    · rintro i t I oI C oC DD ys m₂ h' tk' E' hlt hC hx F' N' hJ
      clear F N F7 N7
      simp only [Int.zero_add] at hx
      k_steps
      all_goals rename_i hlow
      · refine myC F' N' (fun _ h => h) ?_
        rw [List.range_succ, List.filter_append, List.map_append, List.filter_cons, if_pos (show lowAt ad i = true from hlow)]
        exact hJ.append (.cons _ _ .nil)
      · refine myC F' N' (fun _ h => h) ?_
        rw [List.range_succ, List.filter_append, List.map_append, List.filter_cons, if_neg (by unfold lowAt; rw [hlow]; exact Bool.false_ne_true)]
        simpa using hJ
    · intro ys hJ DD h' tk' F' N' o1'
      exact hQ _ DD ys _ hJ (LawS.quiet (p1 := p1) (p2 := p2) F' N' (by kst_all) (by walk_at "MINE sub") (List.forall_mem_cons.mpr ⟨law_off N' (p1 := p1) (p2 := p2) (by walk_at "MINE sub") d1 d2 (.head _), off⟩) k1 k2 d1 d2 gk gb go)
theorem len_ints_my {prog : Program} {w : World} {A : Around} {E : Value → Shared → Prop} {s : Shared} {l : Addr} {vs : List Value} {ns : List Int} {Q : Value → Shared → Prop} (hl : s.heap.IsList l vs.toArray) (hi : IntsAre vs ns) (hn : ns.length ≤ 100000)
    (h : ∀ t k, Q (.int ns.length t) { s with toks := k }) : wpAny (model prog w) A (call (.builtin "len") [.ref l]) Q E s := by
  have e : vs.toArray.size = ns.length := by simp [hi.length]
  refine call_len_list hl (by rw [e]; omega) ?_
  rw [e]; exact h _ _

end Mine
end
section -- W44
open PySem PySem.W PySem.Calls PyProof.Rows
set_option maxRecDepth 100000
set_option maxHeartbeats 4000000
namespace Mine
theorem fillOk_W44 : (PySem.Challenge.rw_vn0025_01 = PySem.Challenge.rw_vn0025_01 ∧ fragK = fragK) := fillOk_W1
local macro_rules | `(tactic| walk_at "MINE enter") => `(tactic| (
  k_dflt ((case' ok => assumption); (case' ho => k_is); (case' hcd => k_is); (case' hroom => ((try dsimp only); omega)); (case' hb => conv => lhs; whnf); (case' hs => conv => lhs; whnf); (case' hbind => first | exact BindsTo.of_eq rfl | exact binds_K (Ok.frag (by assumption)) rfl (by k_is) rfl rfl rfl); (case' hloc => exact locs rfl); (case' hco => exact rfl); (case' hgen => exact rfl); (case' hk => exact rfl); (case' hcell => decide))))
local macro_rules | `(tactic| walk_at "MINE centerC") => `(tactic| (
  k_dflt ((case' ok => assumption); (case' ho => k_is); (case' hcd => k_is); (case' hroom => ((try dsimp only); omega)); (case' hb => conv => lhs; whnf); (case' hs => conv => lhs; whnf); (case' hbind => first | exact BindsTo.of_eq rfl | exact binds_K (Ok.frag (by assumption)) rfl (by k_is) rfl rfl rfl); (case' hloc => exact kindsX rfl); (case' hco => exact rfl); (case' hgen => exact rfl); (case' hk => exact rfl); (case' hcell => decide))))
local macro_rules | `(tactic| walk_at "exec For Name Name cons nil") => `(tactic| refine unhold ?_)
local macro_rules | `(tactic| walk_at "exec For Name Call cons nil") => `(tactic| refine unhold ?_)
local macro_rules | `(tactic| walk_at "pyIter ref") => `(tactic| ((with_reducible show wpAny _ _ (pyIter (Value.ref _)) (fun it s₂ => LoopAtV _ _ _ _ _ _ _ _ _ it s₂) _ _); refine unhold ?_))
local macro_rules | `(tactic| walk_at "eval ListComp") => `(tactic| refine unhold ?_)
local macro_rules | `(tactic| walk_at "exec Assign cons ListComp") => `(tactic| refine unhold ?_)
local macro_rules | `(tactic| walk_at "exec While Compare cons nil") => `(tactic| refine unhold ?_)
local macro_rules | `(tactic| walk_at "eval Name") => `(tactic| (k_here; (with_reducible show wpAny _ _ (eval (Expr.Name _ _) (compEnvC _ _ _ _)) _ _ _); k_dflt (first
  | refine LCgL.ld_own (by k_asm) (by k_mem) (by assumption) (by assumption) ?_
  | refine my_global (by k_asm) (by k_asm) (by k_asm) (by k_is) ?_
  | refine my_built (by k_asm) (by k_asm) (by k_asm) (by k_is) (by boot_by_name) (by decide) ?_)))
local macro_rules | `(tactic| walk_at "binaryOp Add ref ref") => `(tactic| (k_here; (with_reducible show wpAny _ _ (binaryOp _ (Value.ref _) (Value.ref _)) _ _ _); k_dflt (refine' kmk_add_ints ?F ?N ?a ?b ?i ?j ?_ ?z; (case F => k_asm); (case N => k_asm); (case a => kmk_list); (case b => kmk_list); (case i => l_ints); (case j => l_ints); (case z => ((simp only [sizeLine_eq, List.length_append, List.length_map, List.length_cons, List.length_nil, Array.length_toList, KBw.ints_length]); omega))); intro D' ws' h' F' N' l1 hI'; (try k_lt l1); (try k_sweep)))
local macro_rules | `(tactic| walk_at "binaryOp Add str str") => `(tactic| (k_here; (refine my_add_str ?_ ?kz; (case kz => ((simp only [PySem.Str.length_append]; (try simp only [my_len1]); omega)))); intro _ _))
local macro_rules | `(tactic| walk_at "call builtin:list.append") => `(tactic| (k_here; (with_reducible show wpAny _ _ (call (Value.builtin _) [Value.ref _, _]) _ _ _); k_dflt (refine' append_K ?k1 ?k2 ?k3 ?_ ?z; (case k1 => k_asm); (case k2 => k_asm); (case k3 => k_upd); (case z => (simp only [List.size_toArray, sizeLine_eq]; omega)); k_whole); intro h' F' N'; (try k_sweep)))
local macro_rules | `(tactic| walk_at "MINE sub") => `(tactic| (intro p hp; (try simp only [tabsN, List.cons_append, List.nil_append, List.append_assoc, List.mem_cons, List.mem_append, List.not_mem_nil, or_false, false_or] at hp ⊢); (repeat' (refine Or.elim hp (fun hp => ?_) (fun hp => ?_))); all_goals walk_at "MINE or"))
local macro_rules | `(tactic| walk_at "MINE or") => `(tactic| first | assumption | (refine Or.inl ?_; assumption) | (refine Or.inr ?_; walk_at "MINE or"))
local macro_rules | `(tactic| kmk_nums) => `(tactic| first
  | ((with_reducible refine' kmk_from ?gi ?gx); (case gi => l_ints); (case gx => first | kssn_s | exact Int.natCast_nonneg _))
  | ((with_reducible refine' kmk_upto ?gi ?gx); (case gi => l_ints); (case gx => first | kssn_s | exact Int.natCast_nonneg _))
  | ((with_reducible refine' kmk_run ?gi ?gx ?gy); (case gi => l_ints); (case gx => kssn_s); (case gy => kssn_s)))
variable {w : World} {A : Around} {Q : Flow → Shared → Prop} {E : Value → Shared → Prop} {h0 : Heap} {L : Addr} {mg mb : Str → Option Value} {g0 : Array GenState} {o0 : OsState} {s : Shared}
-- @HEAD2
-- @HEADL
local macro_rules | `(tactic| walk_at "call builtin:len") => `(tactic| (k_here; (with_reducible show wpAny _ _ (call (Value.builtin "len") [Value.ref _]) _ _ _); refine len_ints_my (by kmk_list) (by with_reducible assumption) (by omega) ?_; intro _ _))
local macro_rules | `(tactic| walk_at "subscriptTail Name Constant ref int") => `(tactic| (k_here; (with_reducible show wpAny _ _ (subscriptTail _ _ (Value.ref _) (Value.int _ _)) _ _ _); (refine' item_list_ints ?k1 ?k2 ?k3 ?k4 ?k5 ?_; (case k1 => kmk_list); (case k2 => l_ints); (case k3 => decide); (case k4 => omega); (case k5 => omega)); intro _))
local macro_rules | `(tactic| walk_at "subscriptTail Name BinOp ref int") => `(tactic| (k_here; (with_reducible show wpAny _ _ (subscriptTail _ _ (Value.ref _) (Value.int _ _)) _ _ _); (refine' item_list_ints ?k1 ?k2 ?k3 ?k4 ?k5 ?_; (case k1 => kmk_list); (case k2 => with_reducible assumption); (case k3 => omega); (case k4 => omega); (case k5 => omega)); intro _))
local macro_rules | `(tactic| walk_at "call builtin:str.upper") => `(tactic| (k_here; refine SCL.upper (by omega) ?_; intro _))
theorem st_14 {a b : Addr} {pvs lvs : List Value} {pns lns : List Int} {cap lcap : Nat} {th ta : Tok} {hm ad : Str} {D : Addr} (X : (fragK w.params).In (lowH h0)) (T : TopRead viewP (looseW viewP looseV) mg mb (lowH h0)) (r : Room A 15 80)
   (hi : IntsAre pvs pns) (hlen : pns.length = 7) (hli : IntsAre lvs lns) (hl0 : 0 < lns.length) (hl9 : lns.length ≤ 200)
   (S : LawS h0 L g0 o0 [(.ofString "picks", .ref a), (.ofString "human", .str hm th), (.ofString "letters", .ref b)] (some (.ref D)) (some (.str ad ta)) [(b, W.listOf lvs.toArray lcap), (a, W.listOf pvs.toArray cap)] s)
   (hQ : ∀ (s' : Shared) (tp : Tok) (k : Nat), k < lns.length → LawS h0 L g0 o0 [(.ofString "human", .str hm th), (.ofString "letters", .ref b), (.ofString "place", .int (lns.getD k 0) tp)] (some (.ref D)) (some (.str ad ta)) [(b, W.listOf lvs.toArray lcap)] s' → Q .next s') :
   wpAny (model PG w) A (exec (lawB 14) (lawV L)) Q E s := by
  obtain ⟨⟨u, p1, p2, o1, o2, F, N, k1, k2, d1, d2⟩, off, gk, gb, go⟩ := S
  obtain ⟨h, gs, dr, tk, os⟩ := s
  obtain ⟨hd, hu, hh⟩ := r
  have := fillOk_W44; clear this
  w_on
  obtain ⟨hdl, dep, frs, gds, un⟩ := A
  dsimp only at *
  subst hh
  refine st_enter (x' := ?xx) (sc' := ?ss) ?hx ?hs ?_
  case' hx => conv => lhs; whnf
  case' hs => conv => lhs; whnf
  dsimp only [kstB] at F go gk gb N hd hu
  have hl0' : (0 : Int) < lns.length := by omega
  have g1 := fmod_range (a := pns.getD 6 0) hl0'
  have hne0 : ¬ (lns.length : Int) = 0 := by omega
  k_steps
  have F5 := (show Fr (lowH h0) L _ (fun y => if y = Str.ofString "place" then _ else _) by assumption)
  have N5 := (show News (lowH h0) L _ _ by assumption)
  exact hQ _ _ ((pns.getD 6 0).fmod lns.length).toNat (by omega) (LawS.quiet (p1 := p1) (p2 := p2) F5 N5 (by kst_all) (by walk_at "MINE sub") (fun p hp => off p (by rw [List.mem_singleton.mp hp]; exact .head _)) k1 k2 d1 d2 gk gb go)

end Mine
end
section -- W45
open PySem PySem.W PySem.Calls PyProof.Rows
set_option maxRecDepth 100000
set_option maxHeartbeats 4000000
namespace Mine
theorem fillOk_W45 : (PySem.Challenge.rw_vn0025_01 = PySem.Challenge.rw_vn0025_01 ∧ fragK = fragK) := fillOk_W1
local macro_rules | `(tactic| walk_at "MINE enter") => `(tactic| (
  k_dflt ((case' ok => assumption); (case' ho => k_is); (case' hcd => k_is); (case' hroom => ((try dsimp only); omega)); (case' hb => conv => lhs; whnf); (case' hs => conv => lhs; whnf); (case' hbind => first | exact BindsTo.of_eq rfl | exact binds_K (Ok.frag (by assumption)) rfl (by k_is) rfl rfl rfl); (case' hloc => exact locs rfl); (case' hco => exact rfl); (case' hgen => exact rfl); (case' hk => exact rfl); (case' hcell => decide))))
local macro_rules | `(tactic| walk_at "MINE centerC") => `(tactic| (
  k_dflt ((case' ok => assumption); (case' ho => k_is); (case' hcd => k_is); (case' hroom => ((try dsimp only); omega)); (case' hb => conv => lhs; whnf); (case' hs => conv => lhs; whnf); (case' hbind => first | exact BindsTo.of_eq rfl | exact binds_K (Ok.frag (by assumption)) rfl (by k_is) rfl rfl rfl); (case' hloc => exact kindsX rfl); (case' hco => exact rfl); (case' hgen => exact rfl); (case' hk => exact rfl); (case' hcell => decide))))
local macro_rules | `(tactic| walk_at "exec For Name Name cons nil") => `(tactic| refine unhold ?_)
local macro_rules | `(tactic| walk_at "exec For Name Call cons nil") => `(tactic| refine unhold ?_)
local macro_rules | `(tactic| walk_at "pyIter ref") => `(tactic| ((with_reducible show wpAny _ _ (pyIter (Value.ref _)) (fun it s₂ => LoopAtV _ _ _ _ _ _ _ _ _ it s₂) _ _); refine unhold ?_))
local macro_rules | `(tactic| walk_at "eval ListComp") => `(tactic| refine unhold ?_)
local macro_rules | `(tactic| walk_at "exec Assign cons ListComp") => `(tactic| refine unhold ?_)
local macro_rules | `(tactic| walk_at "exec While Compare cons nil") => `(tactic| refine unhold ?_)
local macro_rules | `(tactic| walk_at "eval Name") => `(tactic| (k_here; (with_reducible show wpAny _ _ (eval (Expr.Name _ _) (compEnvC _ _ _ _)) _ _ _); k_dflt (first
  | refine LCgL.ld_own (by k_asm) (by k_mem) (by assumption) (by assumption) ?_
  | refine my_global (by k_asm) (by k_asm) (by k_asm) (by k_is) ?_
  | refine my_built (by k_asm) (by k_asm) (by k_asm) (by k_is) (by boot_by_name) (by decide) ?_)))
local macro_rules | `(tactic| walk_at "binaryOp Add ref ref") => `(tactic| (k_here; (with_reducible show wpAny _ _ (binaryOp _ (Value.ref _) (Value.ref _)) _ _ _); k_dflt (refine' kmk_add_ints ?F ?N ?a ?b ?i ?j ?_ ?z; (case F => k_asm); (case N => k_asm); (case a => kmk_list); (case b => kmk_list); (case i => l_ints); (case j => l_ints); (case z => ((simp only [sizeLine_eq, List.length_append, List.length_map, List.length_cons, List.length_nil, Array.length_toList, KBw.ints_length]); omega))); intro D' ws' h' F' N' l1 hI'; (try k_lt l1); (try k_sweep)))
local macro_rules | `(tactic| walk_at "binaryOp Add str str") => `(tactic| (k_here; (refine my_add_str ?_ ?kz; (case kz => ((simp only [PySem.Str.length_append]; (try simp only [my_len1]); omega)))); intro _ _))
local macro_rules | `(tactic| walk_at "call builtin:list.append") => `(tactic| (k_here; (with_reducible show wpAny _ _ (call (Value.builtin _) [Value.ref _, _]) _ _ _); k_dflt (refine' append_K ?k1 ?k2 ?k3 ?_ ?z; (case k1 => k_asm); (case k2 => k_asm); (case k3 => k_upd); (case z => (simp only [List.size_toArray, sizeLine_eq]; omega)); k_whole); intro h' F' N'; (try k_sweep)))
local macro_rules | `(tactic| walk_at "MINE sub") => `(tactic| (intro p hp; (try simp only [tabsN, List.cons_append, List.nil_append, List.append_assoc, List.mem_cons, List.mem_append, List.not_mem_nil, or_false, false_or] at hp ⊢); (repeat' (refine Or.elim hp (fun hp => ?_) (fun hp => ?_))); all_goals walk_at "MINE or"))
local macro_rules | `(tactic| walk_at "MINE or") => `(tactic| first | assumption | (refine Or.inl ?_; assumption) | (refine Or.inr ?_; walk_at "MINE or"))
local macro_rules | `(tactic| kmk_nums) => `(tactic| first
  | ((with_reducible refine' kmk_from ?gi ?gx); (case gi => l_ints); (case gx => first | kssn_s | exact Int.natCast_nonneg _))
  | ((with_reducible refine' kmk_upto ?gi ?gx); (case gi => l_ints); (case gx => first | kssn_s | exact Int.natCast_nonneg _))
  | ((with_reducible refine' kmk_run ?gi ?gx ?gy); (case gi => l_ints); (case gx => kssn_s); (case gy => kssn_s)))
variable {w : World} {A : Around} {Q : Flow → Shared → Prop} {E : Value → Shared → Prop} {h0 : Heap} {L : Addr} {mg mb : Str → Option Value} {g0 : Array GenState} {o0 : OsState} {s : Shared}
-- @HEAD2
-- @HEADL
local macro_rules | `(tactic| walk_at "call builtin:len") => `(tactic| (k_here; (with_reducible show wpAny _ _ (call (Value.builtin "len") [Value.ref _]) _ _ _); refine len_ints_my (by kmk_list) (by with_reducible assumption) (by omega) ?_; intro _ _))
local macro_rules | `(tactic| walk_at "subscriptTail Name Constant ref int") => `(tactic| (k_here; (with_reducible show wpAny _ _ (subscriptTail _ _ (Value.ref _) (Value.int _ _)) _ _ _); (refine' item_list_ints ?k1 ?k2 ?k3 ?k4 ?k5 ?_; (case k1 => kmk_list); (case k2 => l_ints); (case k3 => decide); (case k4 => omega); (case k5 => omega)); intro _))
local macro_rules | `(tactic| walk_at "subscriptTail Name BinOp ref int") => `(tactic| (k_here; (with_reducible show wpAny _ _ (subscriptTail _ _ (Value.ref _) (Value.int _ _)) _ _ _); (refine' item_list_ints ?k1 ?k2 ?k3 ?k4 ?k5 ?_; (case k1 => kmk_list); (case k2 => with_reducible assumption); (case k3 => omega); (case k4 => omega); (case k5 => omega)); intro _))
local macro_rules | `(tactic| walk_at "call builtin:str.upper") => `(tactic| (k_here; refine SCL.upper (by omega) ?_; intro _))
theorem st_15 {b : Addr} {lvs : List Value} {lcap : Nat} {th ta tp : Tok} {hm ad : Str} {D : Addr} {k : Nat} (X : (fragK w.params).In (lowH h0)) (T : TopRead viewP (looseW viewP looseV) mg mb (lowH h0)) (r : Room A 15 80)
   (hal : ad.length ≤ 200) (hk : k < ad.length)
   (S : LawS h0 L g0 o0 [(.ofString "human", .str hm th), (.ofString "letters", .ref b), (.ofString "place", .int (k : Int) tp)] (some (.ref D)) (some (.str ad ta)) [(b, W.listOf lvs.toArray lcap)] s)
   (hQ : ∀ (s' : Shared) (tm : Tok), LawS h0 L g0 o0 [(.ofString "human", .str hm th), (.ofString "letters", .ref b), (.ofString "mixed", .str (Txt.slice ad none (some (k : Int)) ++ Txt.upper (Txt.item ad (k : Int)) ++ Txt.slice ad (some ((k : Int) + 1)) none) tm)] (some (.ref D)) (some (.str ad ta)) [(b, W.listOf lvs.toArray lcap)] s' → Q .next s') :
   wpAny (model PG w) A (exec (lawB 15) (lawV L)) Q E s := by
  obtain ⟨⟨u, p1, p2, o1, o2, F, N, k1, k2, d1, d2⟩, off, gk, gb, go⟩ := S
  obtain ⟨h, gs, dr, tk, os⟩ := s
  obtain ⟨hd, hu, hh⟩ := r
  have := fillOk_W45; clear this
  w_on
  obtain ⟨hdl, dep, frs, gds, un⟩ := A
  dsimp only at *
  subst hh
  refine st_enter (x' := ?xx) (sc' := ?ss) ?hx ?hs ?_
  case' hx => conv => lhs; whnf
  case' hs => conv => lhs; whnf
  dsimp only [kstB] at F go gk gb N hd hu
  k_steps
  have F5 := (show Fr (lowH h0) L _ (fun y => if y = Str.ofString "mixed" then _ else _) by assumption)
  have N5 := (show News (lowH h0) L _ _ by assumption)
  exact hQ _ _ (LawS.quiet (p1 := p1) (p2 := p2) F5 N5 (by kst_all) (by walk_at "MINE sub") off k1 k2 d1 d2 gk gb go)
local macro_rules | `(tactic| walk_at "compareOp NotEq ref ref") => `(tactic| refine unhold ?_)
theorem st_16 {b : Addr} {lvs : List Value} {lns ns : List Int} {lcap : Nat} {th ta tm : Tok} {hm ad mx tl : Str} {D : Addr} (X : (fragK w.params).In (lowH h0)) (T : TopRead viewP (looseW viewP looseV) mg mb (lowH h0)) (r : Room A 15 80)
   (hli : IntsAre lvs lns) (hl9 : lns.length ≤ 200) (hy : AddrOk ad hm tl ns) (hx : TxtOk mx ad) (hmix : mixB mx ad = true)
   (S : LawS h0 L g0 o0 [(.ofString "human", .str hm th), (.ofString "letters", .ref b), (.ofString "mixed", .str mx tm)] (some (.ref D)) (some (.str ad ta)) [(b, W.listOf lvs.toArray lcap)] s)
   (hQ : ∀ (s' : Shared), LawS h0 L g0 o0 [(.ofString "human", .str hm th)] (some (.ref D)) (some (.str ad ta)) [] s' → Q .next s') :
   wpAny (model PG w) A (exec (lawB 16) (lawV L)) Q E s := by
  obtain ⟨⟨u, p1, p2, o1, o2, F, N, k1, k2, d1, d2⟩, off, gk, gb, go⟩ := S
  obtain ⟨h, gs, dr, tk, os⟩ := s
  obtain ⟨hd, hu, hh⟩ := r
  have := fillOk_W45; clear this
  w_on
  obtain ⟨hdl, dep, frs, gds, un⟩ := A
  dsimp only at *
  subst hh
  refine st_enter (x' := ?xx) (sc' := ?ss) ?hx ?hs ?_
  case' hx => conv => lhs; whnf
  case' hs => conv => lhs; whnf
  dsimp only [kstB] at F go gk gb N hd hu
  k_steps
  · have F5 := (show Fr (lowH h0) L _ _ by assumption)
    have N5 := (show News (lowH h0) L _ _ by assumption)
    have ok5 := ok_here X T F5 N5 (p1 := p1) (p2 := p2) (by k_mem) (by k_mem) k1 k2
    refine dec_no (x := mx) hy hx _ ok5 ⟨(by show dep + _ < _; omega), (by show un + _ < _; omega), rfl⟩ (fun e => by rw [hmix] at e; exact Bool.noConfusion e.1) ?_
    intro s' l G hl0 hl1
    obtain ⟨h6, g6, dr6, tk6, os6⟩ := s'
    dsimp only at hl0 hl1
    have F6 := fr_gr F5 N5 (p1 := p1) (p2 := p2) (by k_mem) (by k_mem) G
    obtain ⟨q1, q2, j1, j2, N6⟩ := news_gr N5 (law_news N5 d1 d2 off) k1 k2 G
    dsimp only at F6 N6
    have N7 := news_addN F5 N6 hl0 hl1
    clear F5 N5 N6
    try clear F N
    k_steps
    rename_i DT h8 F8 N8 l8
    unfold Hold
    refine nones_ne (t := DT) (News.isTup N8 (by k_mem)) (News.isTup N8 (by k_mem)) (by show un + 1 < _; omega) ?_
    k_steps
    exact hQ _ (LawS.quiet (p1 := q1) (p2 := q2) F8 N8 (by kst_all) (by walk_at "MINE sub") (fun _ h => nomatch h) j1 j2 d1 d2 (fun i x e => G.gens i x (gk i x e)) (fun x => G.bare (gb x)) (G.os.trans go))
  · have F5 := (show Fr (lowH h0) L _ _ by assumption)
    have N5 := (show News (lowH h0) L _ _ by assumption)
    exact hQ _ (LawS.quiet (p1 := p1) (p2 := p2) F5 N5 (by kst_all) (by walk_at "MINE sub") (fun _ h => nomatch h) k1 k2 d1 d2 gk gb go)

end Mine
end
section -- W46
open PySem PySem.W PySem.Calls PyProof.Rows
set_option maxRecDepth 100000
set_option maxHeartbeats 4000000
namespace Mine
theorem fillOk_W46 : (PySem.Challenge.rw_vn0025_01 = PySem.Challenge.rw_vn0025_01 ∧ fragK = fragK) := fillOk_W1
local macro_rules | `(tactic| walk_at "MINE enter") => `(tactic| (
  k_dflt ((case' ok => assumption); (case' ho => k_is); (case' hcd => k_is); (case' hroom => ((try dsimp only); omega)); (case' hb => conv => lhs; whnf); (case' hs => conv => lhs; whnf); (case' hbind => first | exact BindsTo.of_eq rfl | exact binds_K (Ok.frag (by assumption)) rfl (by k_is) rfl rfl rfl); (case' hloc => exact locs rfl); (case' hco => exact rfl); (case' hgen => exact rfl); (case' hk => exact rfl); (case' hcell => decide))))
local macro_rules | `(tactic| walk_at "MINE centerC") => `(tactic| (
  k_dflt ((case' ok => assumption); (case' ho => k_is); (case' hcd => k_is); (case' hroom => ((try dsimp only); omega)); (case' hb => conv => lhs; whnf); (case' hs => conv => lhs; whnf); (case' hbind => first | exact BindsTo.of_eq rfl | exact binds_K (Ok.frag (by assumption)) rfl (by k_is) rfl rfl rfl); (case' hloc => exact kindsX rfl); (case' hco => exact rfl); (case' hgen => exact rfl); (case' hk => exact rfl); (case' hcell => decide))))
local macro_rules | `(tactic| walk_at "exec For Name Name cons nil") => `(tactic| refine unhold ?_)
local macro_rules | `(tactic| walk_at "exec For Name Call cons nil") => `(tactic| refine unhold ?_)
local macro_rules | `(tactic| walk_at "pyIter ref") => `(tactic| ((with_reducible show wpAny _ _ (pyIter (Value.ref _)) (fun it s₂ => LoopAtV _ _ _ _ _ _ _ _ _ it s₂) _ _); refine unhold ?_))
local macro_rules | `(tactic| walk_at "eval ListComp") => `(tactic| refine unhold ?_)
local macro_rules | `(tactic| walk_at "exec Assign cons ListComp") => `(tactic| refine unhold ?_)
local macro_rules | `(tactic| walk_at "exec While Compare cons nil") => `(tactic| refine unhold ?_)
local macro_rules | `(tactic| walk_at "eval Name") => `(tactic| (k_here; (with_reducible show wpAny _ _ (eval (Expr.Name _ _) (compEnvC _ _ _ _)) _ _ _); k_dflt (first
  | refine LCgL.ld_own (by k_asm) (by k_mem) (by assumption) (by assumption) ?_
  | refine my_global (by k_asm) (by k_asm) (by k_asm) (by k_is) ?_
  | refine my_built (by k_asm) (by k_asm) (by k_asm) (by k_is) (by boot_by_name) (by decide) ?_)))
local macro_rules | `(tactic| walk_at "binaryOp Add ref ref") => `(tactic| (k_here; (with_reducible show wpAny _ _ (binaryOp _ (Value.ref _) (Value.ref _)) _ _ _); k_dflt (refine' kmk_add_ints ?F ?N ?a ?b ?i ?j ?_ ?z; (case F => k_asm); (case N => k_asm); (case a => kmk_list); (case b => kmk_list); (case i => l_ints); (case j => l_ints); (case z => ((simp only [sizeLine_eq, List.length_append, List.length_map, List.length_cons, List.length_nil, Array.length_toList, KBw.ints_length]); omega))); intro D' ws' h' F' N' l1 hI'; (try k_lt l1); (try k_sweep)))
local macro_rules | `(tactic| walk_at "binaryOp Add str str") => `(tactic| (k_here; (refine my_add_str ?_ ?kz; (case kz => ((simp only [PySem.Str.length_append]; (try simp only [my_len1]); omega)))); intro _ _))
local macro_rules | `(tactic| walk_at "call builtin:list.append") => `(tactic| (k_here; (with_reducible show wpAny _ _ (call (Value.builtin _) [Value.ref _, _]) _ _ _); k_dflt (refine' append_K ?k1 ?k2 ?k3 ?_ ?z; (case k1 => k_asm); (case k2 => k_asm); (case k3 => k_upd); (case z => (simp only [List.size_toArray, sizeLine_eq]; omega)); k_whole); intro h' F' N'; (try k_sweep)))
local macro_rules | `(tactic| walk_at "MINE sub") => `(tactic| (intro p hp; (try simp only [tabsN, List.cons_append, List.nil_append, List.append_assoc, List.mem_cons, List.mem_append, List.not_mem_nil, or_false, false_or] at hp ⊢); (repeat' (refine Or.elim hp (fun hp => ?_) (fun hp => ?_))); all_goals walk_at "MINE or"))
local macro_rules | `(tactic| walk_at "MINE or") => `(tactic| first | assumption | (refine Or.inl ?_; assumption) | (refine Or.inr ?_; walk_at "MINE or"))
local macro_rules | `(tactic| kmk_nums) => `(tactic| first
  | ((with_reducible refine' kmk_from ?gi ?gx); (case gi => l_ints); (case gx => first | kssn_s | exact Int.natCast_nonneg _))
  | ((with_reducible refine' kmk_upto ?gi ?gx); (case gi => l_ints); (case gx => first | kssn_s | exact Int.natCast_nonneg _))
  | ((with_reducible refine' kmk_run ?gi ?gx ?gy); (case gi => l_ints); (case gx => kssn_s); (case gy => kssn_s)))
variable {w : World} {A : Around} {Q : Flow → Shared → Prop} {E : Value → Shared → Prop} {h0 : Heap} {L : Addr} {mg mb : Str → Option Value} {g0 : Array GenState} {o0 : OsState} {s : Shared}
-- @HEAD2
-- @HEADL
local macro_rules | `(tactic| walk_at "subscriptTail Name Constant ref int") => `(tactic| (k_here; (with_reducible show wpAny _ _ (subscriptTail _ _ (Value.ref _) (Value.int _ _)) _ _ _); (refine' item_list_ints ?k1 ?k2 ?k3 ?k4 ?k5 ?_; (case k1 => kmk_list); (case k2 => l_ints); (case k3 => decide); (case k4 => omega); (case k5 => omega)); intro _))
local macro_rules | `(tactic| walk_at "subscriptTail Name BinOp ref int") => `(tactic| (k_here; (with_reducible show wpAny _ _ (subscriptTail _ _ (Value.ref _) (Value.int _ _)) _ _ _); (refine' item_list_ints ?k1 ?k2 ?k3 ?k4 ?k5 ?_; (case k1 => kmk_list); (case k2 => with_reducible assumption); (case k3 => omega); (case k4 => omega); (case k5 => omega)); intro _))
local macro_rules | `(tactic| walk_at "call builtin:str.upper") => `(tactic| (k_here; refine SCL.upper (by omega) ?_; intro _))
def strOf (hm : Str) : Str := Txt.slice hm none (some (-1)) ++ ⟨#[(97 + (((Txt.item hm (-1)).cps.getD 0 0 : Nat) - 96 : Int).fmod 26).toNat]⟩
local macro_rules | `(tactic| walk_at "compareOp Eq ref ref") => `(tactic| refine unhold ?_)
theorem st_17 {th ta : Tok} {hm ad : Str} {D : Addr} (X : (fragK w.params).In (lowH h0)) (T : TopRead viewP (looseW viewP looseV) mg mb (lowH h0)) (r : Room A 15 80)
   (hml : hm.length ≤ 80) (hm1 : 1 ≤ hm.length)
   (S : LawS h0 L g0 o0 [(.ofString "human", .str hm th)] (some (.ref D)) (some (.str ad ta)) [] s)
   (hQ : ∀ (s' : Shared) (tq : Tok), LawS h0 L g0 o0 [(.ofString "human", .str hm th), (.ofString "stranger", .str (strOf hm) tq)] (some (.ref D)) (some (.str ad ta)) [] s' → Q .next s') :
   wpAny (model PG w) A (exec (lawB 17) (lawV L)) Q E s := by
  obtain ⟨⟨u, p1, p2, o1, o2, F, N, k1, k2, d1, d2⟩, off, gk, gb, go⟩ := S
  obtain ⟨h, gs, dr, tk, os⟩ := s
  obtain ⟨hd, hu, hh⟩ := r
  have := fillOk_W46; clear this
  w_on
  obtain ⟨hdl, dep, frs, gds, un⟩ := A
  dsimp only at *
  subst hh
  refine st_enter (x' := ?xx) (sc' := ?ss) ?hx ?hs ?_
  case' hx => conv => lhs; whnf
  case' hs => conv => lhs; whnf
  dsimp only [kstB] at F go gk gb N hd hu
  k_steps
  have F5 := (show Fr (lowH h0) L _ (fun y => if y = Str.ofString "stranger" then _ else _) by assumption)
  have N5 := (show News (lowH h0) L _ _ by assumption)
  exact hQ _ _ (LawS.quiet (p1 := p1) (p2 := p2) F5 N5 (by kst_all) (by walk_at "MINE sub") off k1 k2 d1 d2 gk gb go)
theorem st_18 {th ta tq : Tok} {hm ad st mx tl : Str} {ns : List Int} {D : Addr} (X : (fragK w.params).In (lowH h0)) (T : TopRead viewP (looseW viewP looseV) mg mb (lowH h0)) (r : Room A 15 80)
   (hml : hm.length ≤ 80) (hsl : st.length ≤ 80) (hal : ad.length ≤ 200) (hmx : st ++ Txt.slice ad (some (hm.length : Int)) none = mx) (hy : AddrOk mx st tl ns) (hx : TxtOk mx mx) (hck : pmI (Mine.hx st ++ ns) ≠ 1)
   (S : LawS h0 L g0 o0 [(.ofString "human", .str hm th), (.ofString "stranger", .str st tq)] (some (.ref D)) (some (.str ad ta)) [] s)
   (hQ : ∀ (s' : Shared), LawS h0 L g0 o0 [] (some (.ref D)) (some (.str ad ta)) [] s' → Q (.ret (.bool true)) s') :
   wpAny (model PG w) A (exec (lawB 18) (lawV L)) Q E s := by
  obtain ⟨⟨u, p1, p2, o1, o2, F, N, k1, k2, d1, d2⟩, off, gk, gb, go⟩ := S
  obtain ⟨h, gs, dr, tk, os⟩ := s
  obtain ⟨hd, hu, hh⟩ := r
  have := fillOk_W46; clear this
  w_on
  obtain ⟨hdl, dep, frs, gds, un⟩ := A
  dsimp only at *
  subst hh
  refine st_enter (x' := ?xx) (sc' := ?ss) ?hx ?hs ?_
  case' hx => conv => lhs; whnf
  case' hs => conv => lhs; whnf
  dsimp only [kstB] at F go gk gb N hd hu
  k_steps
  rw [hmx]
  have F5 := (show Fr (lowH h0) L _ _ by assumption)
  have N5 := (show News (lowH h0) L _ _ by assumption)
  have ok5 := ok_here X T F5 N5 (p1 := p1) (p2 := p2) (by k_mem) (by k_mem) k1 k2
  refine dec_no (x := mx) hy hx _ ok5 ⟨(by show dep + _ < _; omega), (by show un + _ < _; omega), rfl⟩ (fun e => hck e.2) ?_
  intro s' l G hl0 hl1
  obtain ⟨h6, g6, dr6, tk6, os6⟩ := s'
  dsimp only at hl0 hl1
  have F6 := fr_gr F5 N5 (p1 := p1) (p2 := p2) (by k_mem) (by k_mem) G
  obtain ⟨q1, q2, j1, j2, N6⟩ := news_gr N5 (law_news N5 d1 d2 off) k1 k2 G
  dsimp only at F6 N6
  have N7 := news_addN F5 N6 hl0 hl1
  clear F5 N5 N6
  k_steps
  rename_i DT h8 F8 N8 l8
  unfold Hold
  refine nones_eq (t := DT) (News.isTup N8 (by k_mem)) (News.isTup N8 (by k_mem)) (by show un + 1 < _; omega) ?_
  exact hQ _ (LawS.quiet (p1 := q1) (p2 := q2) F8 N8 (fun _ h => nomatch h) (by walk_at "MINE sub") off j1 j2 d1 d2 (fun i x e => G.gens i x (gk i x e)) (fun x => G.bare (gb x)) (G.os.trans go))

end Mine
end
section -- WX
open PySem PySem.W PySem.Calls PyProof.Rows
set_option maxRecDepth 100000
set_option maxHeartbeats 4000000
namespace Mine
-- --plain
def encI (t : RT) : List Int := t.enc.map fun x => (x.toNat : Int)
/-- an address and the way back from it -/
structure BothP (h : Str) (t : RT) (g : List Int) : Prop where
  g_eq : g = signsOf (encI t)
  ok : t.ok
  len : t.enc.length ≤ 100
  rng : ∀ n ∈ g, 0 ≤ n ∧ n < 32
  gl : g.length ≤ 140
  fin : (cvDown g).bits < 5 ∧ Builtin.bitAnd ((cvDown g).acc * 2 ^ (8 - (cvDown g).bits).toNat) 255 = 0
  out : (cvDown g).out = encI t
  addr : AddrOk (addrOf h g) h ⟨((tailOf h g).map csAt).toArray⟩ (tailOf h g)
  txt : TxtOk (addrOf h g) (addrOf h g)
  mix : mixB (addrOf h g) (addrOf h g) = false
  ck : pmI (hx h ++ tailOf h g) = 1
  tk : (tailOf h g).take ((tailOf h g).length - 6) = g
/-- what the law asks of one address -/
structure AskP (h ad : Str) : Prop where
  big : TxtOk (Txt.upper ad) ad
  mbig : mixB (Txt.upper ad) ad = false
  asc : ad.cps.all (· < 128) = true
  find : ∀ k : Nat, h.length + 1 ≤ k → k < ad.length → 0 ≤ Txt.find csS ⟨#[ad.cps[k]!]⟩
  turned : ∀ kvs n, 1 ≤ n → n ≤ 3 → TurnsOk (h.length + 1) ad.length n kvs → ∃ tl ns, AddrOk (turnT kvs ad) h tl ns ∧ TxtOk (turnT kvs ad) (turnT kvs ad) ∧ pmI (hx h ++ ns) ≠ 1
  low0 : 0 < (lowL ad).length
  low9 : (lowL ad).length ≤ 200
  mixed : ∀ k, k < (lowL ad).length → ∃ j : Nat, (lowL ad).getD k 0 = (j : Int) ∧ j < ad.length ∧ TxtOk (Txt.slice ad none (some (j : Int)) ++ Txt.upper (Txt.item ad (j : Int)) ++ Txt.slice ad (some ((j : Int) + 1)) none) ad ∧
    mixB (Txt.slice ad none (some (j : Int)) ++ Txt.upper (Txt.item ad (j : Int)) ++ Txt.slice ad (some ((j : Int) + 1)) none) ad = true
  strange : (strOf h).length ≤ 80 ∧ ∃ tl ns, AddrOk (strOf h ++ Txt.slice ad (some (h.length : Int)) none) (strOf h) tl ns ∧ TxtOk (strOf h ++ Txt.slice ad (some (h.length : Int)) none) (strOf h ++ Txt.slice ad (some (h.length : Int)) none) ∧ pmI (hx (strOf h) ++ ns) ≠ 1
structure LawP (ns : List Int) : Prop where
  both : BothP (.ofString (humOf ((picksOf ns).getD 0 0))) (growT 2 (drawsOf ns)).1 (signsOf (encI (growT 2 (drawsOf ns)).1))
  node : BothP (.ofString (humOf ((picksOf ns).getD 0 0))) (.node (.cons (growT 2 (drawsOf ns)).1 .nil)) (signsOf (encI (.node (.cons (growT 2 (drawsOf ns)).1 .nil))))
  deep : (growT 2 (drawsOf ns)).1.deep ≤ 2
  ask : AskP (.ofString (humOf ((picksOf ns).getD 0 0))) (addrOf (.ofString (humOf ((picksOf ns).getD 0 0))) (signsOf (encI (growT 2 (drawsOf ns)).1)))
  ne : (addrOf (.ofString (humOf ((picksOf ns).getD 0 0))) (signsOf (encI (.node (.cons (growT 2 (drawsOf ns)).1 .nil)))) == addrOf (.ofString (humOf ((picksOf ns).getD 0 0))) (signsOf (encI (growT 2 (drawsOf ns)).1))) = false

end Mine
end
section -- W50
open PySem PySem.W PySem.Calls PyProof.Rows
set_option maxRecDepth 100000
set_option maxHeartbeats 4000000
namespace Mine
theorem fillOk_W50 : (PySem.Challenge.rw_vn0025_01 = PySem.Challenge.rw_vn0025_01 ∧ fragK = fragK) := fillOk_W1
local macro_rules | `(tactic| walk_at "MINE enter") => `(tactic| (
  k_dflt ((case' ok => assumption); (case' ho => k_is); (case' hcd => k_is); (case' hroom => ((try dsimp only); omega)); (case' hb => conv => lhs; whnf); (case' hs => conv => lhs; whnf); (case' hbind => first | exact BindsTo.of_eq rfl | exact binds_K (Ok.frag (by assumption)) rfl (by k_is) rfl rfl rfl); (case' hloc => exact locs rfl); (case' hco => exact rfl); (case' hgen => exact rfl); (case' hk => exact rfl); (case' hcell => decide))))
local macro_rules | `(tactic| walk_at "MINE centerC") => `(tactic| (
  k_dflt ((case' ok => assumption); (case' ho => k_is); (case' hcd => k_is); (case' hroom => ((try dsimp only); omega)); (case' hb => conv => lhs; whnf); (case' hs => conv => lhs; whnf); (case' hbind => first | exact BindsTo.of_eq rfl | exact binds_K (Ok.frag (by assumption)) rfl (by k_is) rfl rfl rfl); (case' hloc => exact kindsX rfl); (case' hco => exact rfl); (case' hgen => exact rfl); (case' hk => exact rfl); (case' hcell => decide))))
local macro_rules | `(tactic| walk_at "exec For Name Name cons nil") => `(tactic| refine unhold ?_)
local macro_rules | `(tactic| walk_at "exec For Name Call cons nil") => `(tactic| refine unhold ?_)
local macro_rules | `(tactic| walk_at "pyIter ref") => `(tactic| ((with_reducible show wpAny _ _ (pyIter (Value.ref _)) (fun it s₂ => LoopAtV _ _ _ _ _ _ _ _ _ it s₂) _ _); refine unhold ?_))
local macro_rules | `(tactic| walk_at "eval ListComp") => `(tactic| refine unhold ?_)
local macro_rules | `(tactic| walk_at "exec Assign cons ListComp") => `(tactic| refine unhold ?_)
local macro_rules | `(tactic| walk_at "exec While Compare cons nil") => `(tactic| refine unhold ?_)
local macro_rules | `(tactic| walk_at "eval Name") => `(tactic| (k_here; (with_reducible show wpAny _ _ (eval (Expr.Name _ _) (compEnvC _ _ _ _)) _ _ _); k_dflt (first
  | refine LCgL.ld_own (by k_asm) (by k_mem) (by assumption) (by assumption) ?_
  | refine my_global (by k_asm) (by k_asm) (by k_asm) (by k_is) ?_
  | refine my_built (by k_asm) (by k_asm) (by k_asm) (by k_is) (by boot_by_name) (by decide) ?_)))
local macro_rules | `(tactic| walk_at "binaryOp Add ref ref") => `(tactic| (k_here; (with_reducible show wpAny _ _ (binaryOp _ (Value.ref _) (Value.ref _)) _ _ _); k_dflt (refine' kmk_add_ints ?F ?N ?a ?b ?i ?j ?_ ?z; (case F => k_asm); (case N => k_asm); (case a => kmk_list); (case b => kmk_list); (case i => l_ints); (case j => l_ints); (case z => ((simp only [sizeLine_eq, List.length_append, List.length_map, List.length_cons, List.length_nil, Array.length_toList, KBw.ints_length]); omega))); intro D' ws' h' F' N' l1 hI'; (try k_lt l1); (try k_sweep)))
local macro_rules | `(tactic| walk_at "binaryOp Add str str") => `(tactic| (k_here; (refine my_add_str ?_ ?kz; (case kz => ((simp only [PySem.Str.length_append]; (try simp only [my_len1]); omega)))); intro _ _))
local macro_rules | `(tactic| walk_at "call builtin:list.append") => `(tactic| (k_here; (with_reducible show wpAny _ _ (call (Value.builtin _) [Value.ref _, _]) _ _ _); k_dflt (refine' append_K ?k1 ?k2 ?k3 ?_ ?z; (case k1 => k_asm); (case k2 => k_asm); (case k3 => k_upd); (case z => (simp only [List.size_toArray, sizeLine_eq]; omega)); k_whole); intro h' F' N'; (try k_sweep)))
local macro_rules | `(tactic| walk_at "MINE sub") => `(tactic| (intro p hp; (try simp only [tabsN, List.cons_append, List.nil_append, List.append_assoc, List.mem_cons, List.mem_append, List.not_mem_nil, or_false, false_or] at hp ⊢); (repeat' (refine Or.elim hp (fun hp => ?_) (fun hp => ?_))); all_goals walk_at "MINE or"))
local macro_rules | `(tactic| walk_at "MINE or") => `(tactic| first | assumption | (refine Or.inl ?_; assumption) | (refine Or.inr ?_; walk_at "MINE or"))
local macro_rules | `(tactic| kmk_nums) => `(tactic| first
  | ((with_reducible refine' kmk_from ?gi ?gx); (case gi => l_ints); (case gx => first | kssn_s | exact Int.natCast_nonneg _))
  | ((with_reducible refine' kmk_upto ?gi ?gx); (case gi => l_ints); (case gx => first | kssn_s | exact Int.natCast_nonneg _))
  | ((with_reducible refine' kmk_run ?gi ?gx ?gy); (case gi => l_ints); (case gx => kssn_s); (case gy => kssn_s)))
variable {w : World} {A : Around} {Q : Flow → Shared → Prop} {E : Value → Shared → Prop} {h0 : Heap} {L : Addr} {mg mb : Str → Option Value} {g0 : Array GenState} {o0 : OsState} {s : Shared}
-- @HEAD2
-- @HEADL
theorem lawBody : bA (stA [53]) = [lawB 0, lawB 1, lawB 2, lawB 3, lawB 4, lawB 5, lawB 6, lawB 7, lawB 8, lawB 9, lawB 10, lawB 11, lawB 12, lawB 13, lawB 14, lawB 15, lawB 16, lawB 17, lawB 18] := by with_unfolding_all rfl
theorem law_body {l : Addr} {vs : List Value} {ns : List Int} {QV : Value → Shared → Prop} (X : (fragK w.params).In (lowH h0)) (T : TopRead viewP (looseW viewP looseV) mg mb (lowH h0)) (r : Room A 15 80) (P : LawP ns) (hl : (lowH h0).IsList l vs.toArray) (hi : IntsAre vs ns) (hlen : ns.length ≤ 63)
   (S : LawS h0 L g0 o0 [(.ofString "script", .ref l)] none none [] s)
   (hQ : ∀ s' x1 x2, LawS h0 L g0 o0 [] x1 x2 [] s' → QV (.bool true) s') :
   wpAny (model PG w) A (execs [lawB 0, lawB 1, lawB 2, lawB 3, lawB 4, lawB 5, lawB 6, lawB 7, lawB 8, lawB 9, lawB 10, lawB 11, lawB 12, lawB 13, lawB 14, lawB 15, lawB 16, lawB 17, lawB 18] (lawV L)) (fun fl s' => QV (match fl with | .ret v => v | _ => .none) s') E s := by
  obtain ⟨B, N, hdeep, K, hne⟩ := P
  have hpl := picksOf_len ns
  have hdl := drawsOf_len ns
  have hhs : (Str.ofString (humOf ((picksOf ns).getD 0 0))).length ≤ 80 := B.addr.h2
  have hh1 : 1 ≤ (Str.ofString (humOf ((picksOf ns).getD 0 0))).length := B.addr.h1
  have hal := B.txt.sz
  have hyl := B.addr.yl
  have hn6 := B.addr.n6
  refine execs_one (st_0 X T r hl hi hlen S fun s1 a pvs cap S1 hp => ⟨rfl, ?_⟩)
  refine execs_one (st_1 X T r hl hi hlen S1 fun s2 b dvs cap' S2 hd hba => ⟨rfl, ?_⟩)
  refine execs_one (st_2 X T r hd hdl hba S2 fun s3 v led S3 hrl => ⟨rfl, ?_⟩)
  refine execs_one (st_3 X T r B.ok (by omega) hrl S3 fun s4 tb S4 => ⟨rfl, ?_⟩)
  refine execs_one (st_4 X T r hp hpl S4 fun s5 th S5 => ⟨rfl, ?_⟩)
  refine execs_one (st_5 X T r (by have := B.len; simpa using this) S5 fun s6 g gvs gcap S6 hg => ⟨rfl, ?_⟩)
  replace hg : IntsAre gvs (signsOf (encI (growT 2 (drawsOf ns)).1)) := hg
  refine execs_one (st_6 X T r hg B.rng B.addr.ha hhs (by have := B.gl; omega) S6 fun s7 ta S7 => ⟨rfl, ?_⟩)
  refine execs_one (st_7 X T r hg hal B.addr B.txt K.big B.mix K.mbig B.ck B.tk B.rng (by have := B.gl; omega) B.fin B.out B.ok (by omega) B.len hrl S7 fun s8 S8 => ⟨rfl, ?_⟩)
  refine execs_one (st_8 X T r B.addr.ha hhs N.ok hdeep N.len hrl rfl N.rng (by have := N.gl; show (signsOf (encI _)).length ≤ _; omega) S8 fun s9 to S9 => ⟨rfl, ?_⟩)
  refine execs_one (st_9 X T r hne N.addr N.txt N.mix N.ck N.tk N.rng (by have := N.gl; omega) N.fin N.out N.ok hdeep N.len hrl S9 fun s10 S10 => ⟨rfl, ?_⟩)
  refine execs_one (st_10 X T r hhs S10 fun s11 ts D oD lo hd0 hDa S11 => ⟨rfl, ?_⟩)
  refine execs_one (st_11 X T r hp hpl (by omega) hal lo hd0 hDa S11 fun s12 oD' kvs n hd' h1 h3 hok S12 => ⟨rfl, ?_⟩)
  obtain ⟨tl, ns', hy, hx, hck⟩ := K.turned kvs n h1 h3 hok
  refine execs_one (st_12 X T r hal K.asc K.find lo hd' hok hy hx hck S12 fun s13 S13 => ⟨rfl, ?_⟩)
  refine execs_one (st_13 X T r hal K.asc S13 fun s14 bl lvs lcap hli S14 => ⟨rfl, ?_⟩)
  refine execs_one (st_14 X T r hp hpl hli K.low0 K.low9 S14 fun s15 tp k hk S15 => ⟨rfl, ?_⟩)
  obtain ⟨j, ej, hj, hxm, hmm⟩ := K.mixed k hk
  rw [ej] at S15
  refine execs_one (st_15 X T r hal hj S15 fun s16 tm S16 => ⟨rfl, ?_⟩)
  refine execs_one (st_16 X T r hli K.low9 B.addr hxm hmm S16 fun s17 S17 => ⟨rfl, ?_⟩)
  refine execs_one (st_17 X T r hhs hh1 S17 fun s18 tq S18 => ⟨rfl, ?_⟩)
  obtain ⟨hsl, tl2, ns2, hy2, hx2, hck2⟩ := K.strange
  refine wpAny_execs_cons (wpAny_mono (st_18 (Q := fun fl s' => fl = .ret (.bool true) ∧ QV (.bool true) s') X T r hhs hsl hal rfl hy2 hx2 hck2 S18 fun s19 S19 => ⟨rfl, hQ _ _ _ S19⟩) (fun f s' hf => ?_) fun _ _ e => e)
  obtain ⟨rfl, hf⟩ := hf
  exact hf

end Mine
end
section -- W51
open PySem PySem.W PySem.Calls PyProof.Rows
set_option maxRecDepth 100000
set_option maxHeartbeats 4000000
namespace Mine
theorem fillOk_W51 : (PySem.Challenge.rw_vn0025_01 = PySem.Challenge.rw_vn0025_01 ∧ fragK = fragK) := fillOk_W1
local macro_rules | `(tactic| walk_at "MINE enter") => `(tactic| (
  k_dflt ((case' ok => assumption); (case' ho => k_is); (case' hcd => k_is); (case' hroom => ((try dsimp only); omega)); (case' hb => conv => lhs; whnf); (case' hs => conv => lhs; whnf); (case' hbind => first | exact BindsTo.of_eq rfl | exact binds_K (Ok.frag (by assumption)) rfl (by k_is) rfl rfl rfl); (case' hloc => exact locs rfl); (case' hco => exact rfl); (case' hgen => exact rfl); (case' hk => exact rfl); (case' hcell => decide))))
local macro_rules | `(tactic| walk_at "MINE centerC") => `(tactic| (
  k_dflt ((case' ok => assumption); (case' ho => k_is); (case' hcd => k_is); (case' hroom => ((try dsimp only); omega)); (case' hb => conv => lhs; whnf); (case' hs => conv => lhs; whnf); (case' hbind => first | exact BindsTo.of_eq rfl | exact binds_K (Ok.frag (by assumption)) rfl (by k_is) rfl rfl rfl); (case' hloc => exact kindsX rfl); (case' hco => exact rfl); (case' hgen => exact rfl); (case' hk => exact rfl); (case' hcell => decide))))
local macro_rules | `(tactic| walk_at "exec For Name Name cons nil") => `(tactic| refine unhold ?_)
local macro_rules | `(tactic| walk_at "exec For Name Call cons nil") => `(tactic| refine unhold ?_)
local macro_rules | `(tactic| walk_at "pyIter ref") => `(tactic| ((with_reducible show wpAny _ _ (pyIter (Value.ref _)) (fun it s₂ => LoopAtV _ _ _ _ _ _ _ _ _ it s₂) _ _); refine unhold ?_))
local macro_rules | `(tactic| walk_at "eval ListComp") => `(tactic| refine unhold ?_)
local macro_rules | `(tactic| walk_at "exec Assign cons ListComp") => `(tactic| refine unhold ?_)
local macro_rules | `(tactic| walk_at "exec While Compare cons nil") => `(tactic| refine unhold ?_)
local macro_rules | `(tactic| walk_at "eval Name") => `(tactic| (k_here; (with_reducible show wpAny _ _ (eval (Expr.Name _ _) (compEnvC _ _ _ _)) _ _ _); k_dflt (first
  | refine LCgL.ld_own (by k_asm) (by k_mem) (by assumption) (by assumption) ?_
  | refine my_global (by k_asm) (by k_asm) (by k_asm) (by k_is) ?_
  | refine my_built (by k_asm) (by k_asm) (by k_asm) (by k_is) (by boot_by_name) (by decide) ?_)))
local macro_rules | `(tactic| walk_at "binaryOp Add ref ref") => `(tactic| (k_here; (with_reducible show wpAny _ _ (binaryOp _ (Value.ref _) (Value.ref _)) _ _ _); k_dflt (refine' kmk_add_ints ?F ?N ?a ?b ?i ?j ?_ ?z; (case F => k_asm); (case N => k_asm); (case a => kmk_list); (case b => kmk_list); (case i => l_ints); (case j => l_ints); (case z => ((simp only [sizeLine_eq, List.length_append, List.length_map, List.length_cons, List.length_nil, Array.length_toList, KBw.ints_length]); omega))); intro D' ws' h' F' N' l1 hI'; (try k_lt l1); (try k_sweep)))
local macro_rules | `(tactic| walk_at "binaryOp Add str str") => `(tactic| (k_here; (refine my_add_str ?_ ?kz; (case kz => ((simp only [PySem.Str.length_append]; (try simp only [my_len1]); omega)))); intro _ _))
local macro_rules | `(tactic| walk_at "call builtin:list.append") => `(tactic| (k_here; (with_reducible show wpAny _ _ (call (Value.builtin _) [Value.ref _, _]) _ _ _); k_dflt (refine' append_K ?k1 ?k2 ?k3 ?_ ?z; (case k1 => k_asm); (case k2 => k_asm); (case k3 => k_upd); (case z => (simp only [List.size_toArray, sizeLine_eq]; omega)); k_whole); intro h' F' N'; (try k_sweep)))
local macro_rules | `(tactic| walk_at "MINE sub") => `(tactic| (intro p hp; (try simp only [tabsN, List.cons_append, List.nil_append, List.append_assoc, List.mem_cons, List.mem_append, List.not_mem_nil, or_false, false_or] at hp ⊢); (repeat' (refine Or.elim hp (fun hp => ?_) (fun hp => ?_))); all_goals walk_at "MINE or"))
local macro_rules | `(tactic| walk_at "MINE or") => `(tactic| first | assumption | (refine Or.inl ?_; assumption) | (refine Or.inr ?_; walk_at "MINE or"))
local macro_rules | `(tactic| kmk_nums) => `(tactic| first
  | ((with_reducible refine' kmk_from ?gi ?gx); (case gi => l_ints); (case gx => first | kssn_s | exact Int.natCast_nonneg _))
  | ((with_reducible refine' kmk_upto ?gi ?gx); (case gi => l_ints); (case gx => first | kssn_s | exact Int.natCast_nonneg _))
  | ((with_reducible refine' kmk_run ?gi ?gx ?gy); (case gi => l_ints); (case gx => kssn_s); (case gy => kssn_s)))
variable {w : World} {A : Around} {Q : Flow → Shared → Prop} {E : Value → Shared → Prop} {h0 : Heap} {L : Addr} {mg mb : Str → Option Value} {g0 : Array GenState} {o0 : OsState} {s : Shared}
-- @HEAD2
-- @HEADL
theorem law_spec {QV EV : Value → Shared → Prop} (l : Addr) (vs : List Value) (ns : List Int) (hl : s.heap.IsList l vs.toArray) (hi : IntsAre vs ns) (hlen : ns.length ≤ 63) (P : LawP ns) (ok : Ok w s.heap) (r : Room A 17 90)
   (hQ : ∀ s', Gr s s' → QV (.bool true) s') : wpAny (model PG w) A (call (.ref 531) [.ref l]) QV EV s := by
  have hl' := ok.list hl
  obtain ⟨⟨p1, t1, k1⟩, ⟨p2, t2, k2⟩⟩ := ok.tabs
  have X' := ok.X
  obtain ⟨mg', mb', T'⟩ := ok.T
  have := fillOk_W51; clear this
  w_on
  obtain ⟨hdl, dep, frs, gds, un⟩ := A
  obtain ⟨hd, hu, hh⟩ := r
  dsimp only at hd hu hh; subst hh
  refine' enter_qc (body' := [lawB 0, lawB 1, lawB 2, lawB 3, lawB 4, lawB 5, lawB 6, lawB 7, lawB 8, lawB 9, lawB 10, lawB 11, lawB 12, lawB 13, lawB 14, lawB 15, lawB 16, lawB 17, lawB 18]) (scope' := sA (stA [53])) [(.ofString "script", .ref l)] ?ok ?ho ?hcd ?hroom ?hb ?hs ?hbind ?hloc ?hco ?hgen ?hk ?hcell ?_
  case' ok => assumption
  case' ho => k_is
  case' hcd => k_is
  case' hroom => ((try dsimp only); omega)
  case' hb => with_unfolding_all rfl
  case' hs => with_unfolding_all rfl
  case' hbind => first | exact BindsTo.of_eq rfl | exact binds_K (Ok.frag (by assumption)) rfl (by k_is) rfl rfl rfl
  case' hloc => exact kindsX rfl
  case' hco => exact rfl
  case' hgen => exact rfl
  case' hk => exact rfl
  case' hcell => decide
  intro h₁ mg mb tk0 cells X T F N Y
  k_cells Y
  rename_i o1 o2 d1 d2
  replace d1 : _ = Data.cell none := d1
  replace d2 : _ = Data.cell none := d2
  have Fh : Fr (lowH s.heap) s.heap.objs.size h₁ _ := fr_hide (fr_hide F)
  have Nh : News (lowH s.heap) s.heap.objs.size h₁ (tabsN p1 p2 ++ _) := fun p hp => by
    rcases List.mem_cons.mp hp with rfl | hp
    · exact ⟨F.keep _ _ t1, Nat.ne_of_lt (Heap.lt_size t1), by show (lowH s.heap).get? T1 = none; unfold lowH; rw [Heap.hide_ne _ (by decide), Heap.hide_self]⟩
    · rcases List.mem_cons.mp hp with rfl | hp
      · exact ⟨F.keep _ _ t2, Nat.ne_of_lt (Heap.lt_size t2), by show (lowH s.heap).get? T2 = none; unfold lowH; rw [Heap.hide_self]⟩
      · exact news_hide (news_hide N) p hp
  refine law_body (h0 := s.heap) (L := s.heap.objs.size) (g0 := s.gens) (o0 := s.os) X' T' (roomOf (by omega) (by omega)) P hl' hi hlen ?_ ?_
  · exact LawS.quiet (p1 := p1) (p2 := p2) (o1 := o1) (o2 := o2) Fh Nh (by kst_all) (fun p hp => hp) (fun _ h => nomatch h) k1 k2 d1 d2 (fun _ _ e => e) id rfl
  · intro s' x1 x2 S
    obtain ⟨⟨u, q1, q2, o1, o2, F', N', j1, j2, _, _⟩, _, gk, gb, go⟩ := S
    obtain ⟨h', gs', dr', tk', os'⟩ := s'
    exact hQ _ (gr_end F' N' (.head _) (.tail _ (.head _)) j1 j2 gk gb go)
theorem ns_low {h : Heap} {a : Addr} {n : Str → Option Value} (x : h.Ns a n) {p1 p2 : Array Value} (t1 : h.get? T1 = some (tabO p1)) (t2 : h.get? T2 = some (tabO p2)) : (lowH h).Ns a n := by
  refine x.at' fun o e => ?_
  obtain ⟨o', es, ep, e', d, _⟩ := x
  obtain rfl := Option.some.inj (e.symm.trans e')
  refine low_get (fun q => ?_) (fun q => ?_) e
  · subst q; rw [t1] at e; cases e; cases d
  · subst q; rw [t2] at e; cases e; cases d
theorem top_low {h : Heap} {mg mb : Str → Option Value} (T : TopRead viewP (looseW viewP looseV) mg mb h) {p1 p2 : Array Value} (t1 : h.get? T1 = some (tabO p1)) (t2 : h.get? T2 = some (tabO p2)) : TopRead viewP (looseW viewP looseV) mg mb (lowH h) :=
  ⟨ns_low T.g t1 t2, ns_low T.b t1 t2, let ⟨mc, a, b⟩ := T.nolimit; ⟨mc, ns_low a t1 t2, b⟩, T.builtins, T.free⟩
theorem frag_app (P : Params) : fragV P = fragK P ++ [(458, o458_s44 P), (80, o80_s8 P)] := rfl
theorem frag_v {P : Params} {h : Heap} (X : (fragV P).In h) : (fragK P).In h ∧ h.get? T1 = some (tabO #[]) ∧ h.get? T2 = some (tabO #[]) := by
  refine ⟨fun a o e => X a o ?_, X 458 _ (by rfl), X 80 _ (by rfl)⟩
  rw [frag_app, List.lookup_append, e]; rfl
theorem law_ok {h : Heap} {mean : ExcName → Option Value} {mg mb : Str → Option Value} (X : (fragV w.params).In h) (T : Top viewP (looseW viewP looseV) mean mg mb h) : Ok w h := by
  obtain ⟨XK, t1, t2⟩ := frag_v X
  refine ⟨fun a o e => low_get (fun q => ?_) (fun q => ?_) (XK a o e), ⟨mg, mb, top_low (topRead_of T) t1 t2⟩, ⟨#[], t1, ?_⟩, #[], t2, ?_⟩
  · subst q; have : (fragK w.params).lookup 458 = none := by rfl
    rw [this] at e; cases e
  · subst q; have : (fragK w.params).lookup 80 = none := by rfl
    rw [this] at e; cases e
  · exact trivial
  · exact trivial
theorem law_old {s s' : Shared} (X : (fragV w.params).In s.heap) (g : Gr s s') : OldK s.heap s'.heap := by
  obtain ⟨XK, t1, t2⟩ := frag_v X
  obtain ⟨⟨q1, e1, _⟩, ⟨q2, e2, _⟩⟩ := g.tabs ⟨⟨#[], t1, trivial⟩, #[], t2, trivial⟩
  refine ⟨fun b o e => ?_, fun b o e => ?_⟩
  · by_cases h1 : b = T1
    · subst h1
      obtain rfl := Option.some.inj (e.symm.trans t1)
      exact .inr (.inl ⟨⟨462, _, _, XK 462 _ rfl, rfl, rfl, rfl⟩, rfl, #[], q1, rfl, by rw [e1]; simp⟩)
    · by_cases h2 : b = T2
      · subst h2
        obtain rfl := Option.some.inj (e.symm.trans t2)
        exact .inr (.inl ⟨⟨82, _, _, XK 82 _ rfl, rfl, rfl, rfl⟩, rfl, #[], q2, rfl, by rw [e2]; simp⟩)
      · exact .inl (g.heap b o h1 h2 e)
  · by_cases h1 : b = T1
    · subst h1; exact ⟨_, e1⟩
    · by_cases h2 : b = T2
      · subst h2; exact ⟨_, e2⟩
      · exact ⟨o, g.heap b o h1 h2 e⟩
theorem walk_ok (P : ∀ ns : List Int, ns.length ≤ 63 → LawP ns) : WalkY := by
  intro w s₁ mean mg mb X T hg l vs ns hl hi hlen
  refine law_spec l vs ns hl hi hlen (P ns hlen) (law_ok X T) ⟨by decide, by decide, rfl⟩ fun s' g => ⟨rfl, law_old X g, g.os, g.bare fun y hy => by rw [hg y hy]; rfl, fun i e => g.gens i _ e⟩

end Mine
end
section -- Q2
open PySem PySem.W PySem.Calls PyProof.Rows
set_option maxRecDepth 100000
set_option maxHeartbeats 4000000
namespace Mine
-- --plain
theorem bitAnd_nat (a b : Nat) : Builtin.bitAnd (a : Int) (b : Int) = ((a &&& b : Nat) : Int) := rfl
theorem xor_add_and : ∀ a b : Nat, (a ^^^ b) + 2 * (a &&& b) = a + b := by
  intro a
  induction a using Nat.strongRecOn with
  | _ a ih =>
    intro b
    by_cases ha : a = 0
    · subst ha; simp
    · have h := ih (a / 2) (by omega) (b / 2)
      have x1 : (a ^^^ b) / 2 = a / 2 ^^^ b / 2 := Nat.xor_div_two
      have x2 : (a &&& b) / 2 = a / 2 &&& b / 2 := Nat.and_div_two
      have y1 : (a ^^^ b) % 2 = (a % 2) ^^^ (b % 2) := Nat.xor_mod_two_pow (n := 1)
      have y2 : (a &&& b) % 2 = (a % 2) &&& (b % 2) := Nat.and_mod_two_pow (n := 1)
      rcases Nat.mod_two_eq_zero_or_one a with p | p <;> rcases Nat.mod_two_eq_zero_or_one b with q | q <;> rw [p, q] at y1 y2 <;> simp only [Nat.xor_self, Nat.zero_xor, Nat.xor_zero, Nat.and_self, Nat.and_zero, Nat.zero_and] at y1 y2 <;> omega
theorem bitXor_nat (a b : Nat) : Builtin.bitXor (a : Int) (b : Int) = ((a ^^^ b : Nat) : Int) := by
  rw [bitXor_and, bitAnd_nat]
  have := xor_add_and a b
  omega
theorem and_low (a v k : Nat) (h : v < 2 ^ k) : (a * 2 ^ k) &&& v = 0 := by
  apply Nat.eq_of_testBit_eq
  intro i
  rw [Nat.testBit_and, Nat.zero_testBit, Nat.testBit_mul_two_pow]
  by_cases hi : k ≤ i
  · have : v.testBit i = false := Nat.testBit_lt_two_pow (Nat.lt_of_lt_of_le h (Nat.pow_le_pow_right (by decide) hi))
    rw [this, Bool.and_false]
  · simp [hi]
theorem or_add (a v : Int) (k : Nat) (ha : 0 ≤ a) (hv : 0 ≤ v) (h : v < 2 ^ k) : Builtin.bitOr (a * 2 ^ k) v = a * 2 ^ k + v := by
  obtain ⟨a, rfl⟩ := Int.eq_ofNat_of_zero_le ha
  obtain ⟨v, rfl⟩ := Int.eq_ofNat_of_zero_le hv
  have h' : v < 2 ^ k := by exact_mod_cast h
  have e : (a : Int) * 2 ^ k = ((a * 2 ^ k : Nat) : Int) := by push_cast; rfl
  rw [bitOr_and, e, bitAnd_nat, and_low a v k h']
  simp
/-- the number that digits tell -/
def numB (base : Int) (l : List Int) : Int := l.foldl (fun n d => n * base + d) 0
theorem numB_snoc (base : Int) (l : List Int) (d : Int) : numB base (l ++ [d]) = numB base l * base + d := by unfold numB; rw [List.foldl_append]; rfl
theorem acc_up (a v : Int) (ha : 0 ≤ a) (hv : 0 ≤ v) (h : v < 256) : Builtin.bitAnd (Builtin.bitOr (a * 2 ^ (8 : Int).toNat) v) 4095 = (a * 256 + v) % 4096 := by
  rw [show (8 : Int).toNat = 8 from rfl, or_add a v 8 ha hv (by simpa using h)]
  exact kbt_mask _ 12
theorem acc_dn (a v : Int) (ha : 0 ≤ a) (hv : 0 ≤ v) (h : v < 32) : Builtin.bitAnd (Builtin.bitOr (a * 2 ^ (5 : Int).toNat) v) 4095 = (a * 32 + v) % 4096 := by
  rw [show (5 : Int).toNat = 5 from rfl, or_add a v 5 ha hv (by simpa using h)]
  exact kbt_mask _ 12
/-- what has been put out and what is left over -/
structure CvP (fr to : Int) (n : Int) (i : Nat) (c : Cv) : Prop where
  a0 : 0 ≤ c.acc
  b0 : 0 ≤ c.bits
  b1 : c.bits < to
  len : fr * i = to * c.out.length + c.bits
  rng : ∀ d ∈ c.out, 0 ≤ d ∧ d < 2 ^ to.toNat
  num : n = numB (2 ^ to.toNat) c.out * 2 ^ c.bits.toNat + c.acc % 2 ^ c.bits.toNat
theorem step_up {n : Int} {i : Nat} {c : Cv} (h : CvP 8 5 n i c) {v : Int} (hv : 0 ≤ v) (h2 : v < 256) : CvP 8 5 (n * 256 + v) (i + 1) (cvStep 8 5 31 4095 c v) := by
  obtain ⟨a0, b0, b1, len, rng, num⟩ := h
  obtain ⟨acc, bits, out⟩ := c
  dsimp only at *
  unfold cvStep
  dsimp only
  rw [acc_up acc v a0 hv h2]
  generalize hA : (acc * 256 + v) % 4096 = A
  have hb : bits = 0 ∨ bits = 1 ∨ bits = 2 ∨ bits = 3 ∨ bits = 4 := by omega
  have hA0 : 0 ≤ A := by omega
  have dg : ∀ k : Nat, Builtin.bitAnd (A.fdiv (2 ^ k)) 31 = A / 2 ^ k % 32 := fun k => by
    rw [bitAnd_m5, Int.fdiv_eq_ediv_of_nonneg _ (Int.le_of_lt (kbt_pos k))]
  have e1 : ∀ (x : Int) (k : Nat), (x - 5 * ((0 : Nat) + 1)).toNat = k → cvOut 5 31 A x 1 = [A / 2 ^ k % 32] := fun x k e => by
    subst e; rw [← dg]; rfl
  have e2 : ∀ (x : Int) (k j : Nat), (x - 5 * ((0 : Nat) + 1)).toNat = k → (x - 5 * ((1 : Nat) + 1)).toNat = j → cvOut 5 31 A x 2 = [A / 2 ^ k % 32, A / 2 ^ j % 32] := fun x k j e e' => by
    subst e; subst e'; rw [← dg, ← dg]; rfl
  rcases hb with rfl | rfl | rfl | rfl | rfl
  all_goals simp only [Int.reduceAdd, Int.reduceMod, Int.reduceDiv, Int.reduceToNat, Int.reducePow] at num rng ⊢
  · rw [e1 8 3 (by decide)]
    refine ⟨hA0, by dsimp only; decide, by dsimp only; decide, by simp; omega, fun d hd => ?_, ?_⟩
    · rcases List.mem_append.mp hd with hd | hd
      · exact rng d hd
      · rw [List.mem_singleton.mp hd]; simp only [Int.reduceToNat, Int.reducePow]; omega
    · rw [numB_snoc]; simp only [Int.reduceToNat, Int.reducePow]; omega
  · rw [e1 9 4 (by decide)]
    refine ⟨hA0, by dsimp only; decide, by dsimp only; decide, by simp; omega, fun d hd => ?_, ?_⟩
    · rcases List.mem_append.mp hd with hd | hd
      · exact rng d hd
      · rw [List.mem_singleton.mp hd]; simp only [Int.reduceToNat, Int.reducePow]; omega
    · rw [numB_snoc]; simp only [Int.reduceToNat, Int.reducePow]; omega
  · rw [e2 10 5 0 (by decide) (by decide)]
    refine ⟨hA0, by dsimp only; decide, by dsimp only; decide, by simp; omega, fun d hd => ?_, ?_⟩
    · rcases List.mem_append.mp hd with hd | hd
      · exact rng d hd
      · simp only [List.mem_cons, List.not_mem_nil, or_false] at hd; simp only [Int.reduceToNat, Int.reducePow] at hd ⊢; omega
    · rw [show ∀ (l : List Int) (a b : Int), l ++ [a, b] = (l ++ [a]) ++ [b] from fun l a b => by simp, numB_snoc, numB_snoc]; simp only [Int.reduceToNat, Int.reducePow]; omega
  · rw [e2 11 6 1 (by decide) (by decide)]
    refine ⟨hA0, by dsimp only; decide, by dsimp only; decide, by simp; omega, fun d hd => ?_, ?_⟩
    · rcases List.mem_append.mp hd with hd | hd
      · exact rng d hd
      · simp only [List.mem_cons, List.not_mem_nil, or_false] at hd; simp only [Int.reduceToNat, Int.reducePow] at hd ⊢; omega
    · rw [show ∀ (l : List Int) (a b : Int), l ++ [a, b] = (l ++ [a]) ++ [b] from fun l a b => by simp, numB_snoc, numB_snoc]; simp only [Int.reduceToNat, Int.reducePow]; omega
  · rw [e2 12 7 2 (by decide) (by decide)]
    refine ⟨hA0, by dsimp only; decide, by dsimp only; decide, by simp; omega, fun d hd => ?_, ?_⟩
    · rcases List.mem_append.mp hd with hd | hd
      · exact rng d hd
      · simp only [List.mem_cons, List.not_mem_nil, or_false] at hd; simp only [Int.reduceToNat, Int.reducePow] at hd ⊢; omega
    · rw [show ∀ (l : List Int) (a b : Int), l ++ [a, b] = (l ++ [a]) ++ [b] from fun l a b => by simp, numB_snoc, numB_snoc]; simp only [Int.reduceToNat, Int.reducePow]; omega
theorem step_dn {n : Int} {i : Nat} {c : Cv} (h : CvP 5 8 n i c) {v : Int} (hv : 0 ≤ v) (h2 : v < 32) : CvP 5 8 (n * 32 + v) (i + 1) (cvStep 5 8 255 4095 c v) := by
  obtain ⟨a0, b0, b1, len, rng, num⟩ := h
  obtain ⟨acc, bits, out⟩ := c
  dsimp only at *
  unfold cvStep
  dsimp only
  rw [acc_dn acc v a0 hv h2]
  generalize hA : (acc * 32 + v) % 4096 = A
  have hb : bits = 0 ∨ bits = 1 ∨ bits = 2 ∨ bits = 3 ∨ bits = 4 ∨ bits = 5 ∨ bits = 6 ∨ bits = 7 := by omega
  have hA0 : 0 ≤ A := by omega
  have dg : ∀ k : Nat, Builtin.bitAnd (A.fdiv (2 ^ k)) 255 = A / 2 ^ k % 256 := fun k => by
    rw [bitAnd_m8, Int.fdiv_eq_ediv_of_nonneg _ (Int.le_of_lt (kbt_pos k))]
  have e0 : ∀ x : Int, cvOut 8 255 A x 0 = [] := fun x => rfl
  have e1 : ∀ (x : Int) (k : Nat), (x - 8 * ((0 : Nat) + 1)).toNat = k → cvOut 8 255 A x 1 = [A / 2 ^ k % 256] := fun x k e => by
    subst e; rw [← dg]; rfl
  rcases hb with rfl | rfl | rfl | rfl | rfl | rfl | rfl | rfl
  all_goals simp only [Int.reduceAdd, Int.reduceMod, Int.reduceDiv, Int.reduceToNat, Int.reducePow] at num rng ⊢
  iterate 3
    · rw [e0, List.append_nil]
      refine ⟨hA0, by dsimp only; decide, by dsimp only; decide, by simp; omega, rng, ?_⟩
      simp only [Int.reduceToNat, Int.reducePow]; omega
  · rw [e1 8 0 (by decide)]
    refine ⟨hA0, by dsimp only; decide, by dsimp only; decide, by simp; omega, fun d hd => ?_, ?_⟩
    · rcases List.mem_append.mp hd with hd | hd
      · exact rng d hd
      · rw [List.mem_singleton.mp hd]; simp only [Int.reduceToNat, Int.reducePow]; omega
    · rw [numB_snoc]; simp only [Int.reduceToNat, Int.reducePow]; omega
  · rw [e1 9 1 (by decide)]
    refine ⟨hA0, by dsimp only; decide, by dsimp only; decide, by simp; omega, fun d hd => ?_, ?_⟩
    · rcases List.mem_append.mp hd with hd | hd
      · exact rng d hd
      · rw [List.mem_singleton.mp hd]; simp only [Int.reduceToNat, Int.reducePow]; omega
    · rw [numB_snoc]; simp only [Int.reduceToNat, Int.reducePow]; omega
  · rw [e1 10 2 (by decide)]
    refine ⟨hA0, by dsimp only; decide, by dsimp only; decide, by simp; omega, fun d hd => ?_, ?_⟩
    · rcases List.mem_append.mp hd with hd | hd
      · exact rng d hd
      · rw [List.mem_singleton.mp hd]; simp only [Int.reduceToNat, Int.reducePow]; omega
    · rw [numB_snoc]; simp only [Int.reduceToNat, Int.reducePow]; omega
  · rw [e1 11 3 (by decide)]
    refine ⟨hA0, by dsimp only; decide, by dsimp only; decide, by simp; omega, fun d hd => ?_, ?_⟩
    · rcases List.mem_append.mp hd with hd | hd
      · exact rng d hd
      · rw [List.mem_singleton.mp hd]; simp only [Int.reduceToNat, Int.reducePow]; omega
    · rw [numB_snoc]; simp only [Int.reduceToNat, Int.reducePow]; omega
  · rw [e1 12 4 (by decide)]
    refine ⟨hA0, by dsimp only; decide, by dsimp only; decide, by simp; omega, fun d hd => ?_, ?_⟩
    · rcases List.mem_append.mp hd with hd | hd
      · exact rng d hd
      · rw [List.mem_singleton.mp hd]; simp only [Int.reduceToNat, Int.reducePow]; omega
    · rw [numB_snoc]; simp only [Int.reduceToNat, Int.reducePow]; omega
theorem up_all : ∀ (vs : List Int) (n : Int) (i : Nat) (c : Cv), CvP 8 5 n i c → (∀ v ∈ vs, 0 ≤ v ∧ v < 256) → CvP 8 5 (vs.foldl (fun n d => n * 256 + d) n) (i + vs.length) (vs.foldl (cvStep 8 5 31 4095) c)
  | [], _, _, _, h, _ => h
  | v :: vs, n, i, c, h, hv => by
    have := up_all vs _ _ _ (step_up h (hv v (.head _)).1 (hv v (.head _)).2) fun x hx => hv x (.tail _ hx)
    rw [Nat.add_right_comm, Nat.add_assoc] at this
    exact this
theorem dn_all : ∀ (vs : List Int) (n : Int) (i : Nat) (c : Cv), CvP 5 8 n i c → (∀ v ∈ vs, 0 ≤ v ∧ v < 32) → CvP 5 8 (vs.foldl (fun n d => n * 32 + d) n) (i + vs.length) (vs.foldl (cvStep 5 8 255 4095) c)
  | [], _, _, _, h, _ => h
  | v :: vs, n, i, c, h, hv => by
    have := dn_all vs _ _ _ (step_dn h (hv v (.head _)).1 (hv v (.head _)).2) fun x hx => hv x (.tail _ hx)
    rw [Nat.add_right_comm, Nat.add_assoc] at this
    exact this
theorem cvUp_ok (vs : List Int) (hv : ∀ v ∈ vs, 0 ≤ v ∧ v < 256) : CvP 8 5 (numB 256 vs) vs.length (cvUp vs) := by
  have := up_all vs 0 0 ⟨0, 0, []⟩ ⟨Int.le_refl _, Int.le_refl _, by decide, rfl, (fun _ h => nomatch h), by decide⟩ hv
  rw [Nat.zero_add] at this
  exact this
theorem cvDown_ok (vs : List Int) (hv : ∀ v ∈ vs, 0 ≤ v ∧ v < 32) : CvP 5 8 (numB 32 vs) vs.length (cvDown vs) := by
  have := dn_all vs 0 0 ⟨0, 0, []⟩ ⟨Int.le_refl _, Int.le_refl _, by decide, rfl, (fun _ h => nomatch h), by decide⟩ hv
  rw [Nat.zero_add] at this
  exact this
theorem signs_ok (vs : List Int) (hv : ∀ v ∈ vs, 0 ≤ v ∧ v < 256) : (∀ d ∈ signsOf vs, 0 ≤ d ∧ d < 32) ∧ ∃ pad : Int, 0 ≤ pad ∧ pad < 5 ∧ 5 * ((signsOf vs).length : Int) = 8 * vs.length + pad ∧ numB 32 (signsOf vs) = numB 256 vs * 2 ^ pad.toNat := by
  have h := cvUp_ok vs hv
  unfold signsOf
  generalize cvUp vs = c at h
  obtain ⟨a0, b0, b1, len, rng, num⟩ := h
  obtain ⟨acc, bits, out⟩ := c
  dsimp only at *
  have hb : bits = 0 ∨ bits = 1 ∨ bits = 2 ∨ bits = 3 ∨ bits = 4 := by omega
  rcases hb with rfl | rfl | rfl | rfl | rfl
  all_goals simp only [Int.reduceAdd, Int.reduceMod, Int.reduceDiv, Int.reduceToNat, Int.reducePow] at num rng ⊢
  · simp only [if_true, List.append_nil]
    exact ⟨rng, 0, by decide, by decide, by omega, by simp; omega⟩
  · rw [if_neg (by decide), bitAnd_m5]
    refine ⟨fun d hd => ?_, 4, by decide, by decide, by simp; omega, ?_⟩
    · rcases List.mem_append.mp hd with hd | hd
      · exact rng d hd
      · rw [List.mem_singleton.mp hd]; simp only [Int.reduceSub, Int.reduceToNat, Int.reducePow]; omega
    · rw [numB_snoc]; simp only [Int.reduceSub, Int.reduceToNat, Int.reducePow]; omega
  · rw [if_neg (by decide), bitAnd_m5]
    refine ⟨fun d hd => ?_, 3, by decide, by decide, by simp; omega, ?_⟩
    · rcases List.mem_append.mp hd with hd | hd
      · exact rng d hd
      · rw [List.mem_singleton.mp hd]; simp only [Int.reduceSub, Int.reduceToNat, Int.reducePow]; omega
    · rw [numB_snoc]; simp only [Int.reduceSub, Int.reduceToNat, Int.reducePow]; omega
  · rw [if_neg (by decide), bitAnd_m5]
    refine ⟨fun d hd => ?_, 2, by decide, by decide, by simp; omega, ?_⟩
    · rcases List.mem_append.mp hd with hd | hd
      · exact rng d hd
      · rw [List.mem_singleton.mp hd]; simp only [Int.reduceSub, Int.reduceToNat, Int.reducePow]; omega
    · rw [numB_snoc]; simp only [Int.reduceSub, Int.reduceToNat, Int.reducePow]; omega
  · rw [if_neg (by decide), bitAnd_m5]
    refine ⟨fun d hd => ?_, 1, by decide, by decide, by simp; omega, ?_⟩
    · rcases List.mem_append.mp hd with hd | hd
      · exact rng d hd
      · rw [List.mem_singleton.mp hd]; simp only [Int.reduceSub, Int.reduceToNat, Int.reducePow]; omega
    · rw [numB_snoc]; simp only [Int.reduceSub, Int.reduceToNat, Int.reducePow]; omega
theorem num_inj : ∀ (l l' : List Int) (a a' : Int), l.length = l'.length → (∀ d ∈ l, 0 ≤ d ∧ d < 256) → (∀ d ∈ l', 0 ≤ d ∧ d < 256) → l.foldl (fun n d => n * 256 + d) a = l'.foldl (fun n d => n * 256 + d) a' → a = a' ∧ l = l'
  | [], [], _, _, _, _, _, h => ⟨h, rfl⟩
  | [], _ :: _, _, _, h, _, _, _ => by cases h
  | _ :: _, [], _, _, h, _, _, _ => by cases h
  | d :: l, d' :: l', a, a', hl, h1, h2, h => by
    obtain ⟨e, rfl⟩ := num_inj l l' _ _ (Nat.succ.inj hl) (fun x hx => h1 x (.tail _ hx)) (fun x hx => h2 x (.tail _ hx)) h
    have e : a * 256 + d = a' * 256 + d' := e
    have := h1 d (.head _)
    have := h2 d' (.head _)
    have e1 : a = a' := by omega
    have e2 : d = d' := by omega
    subst e1; subst e2; exact ⟨rfl, rfl⟩
/-- the octets come back -/
theorem bits_back (vs : List Int) (hv : ∀ v ∈ vs, 0 ≤ v ∧ v < 256) : (cvDown (signsOf vs)).bits < 5 ∧ Builtin.bitAnd ((cvDown (signsOf vs)).acc * 2 ^ (8 - (cvDown (signsOf vs)).bits).toNat) 255 = 0 ∧ (cvDown (signsOf vs)).out = vs := by
  obtain ⟨hr, pad, p0, p1, hlen, hnum⟩ := signs_ok vs hv
  have h := cvDown_ok _ hr
  generalize cvDown (signsOf vs) = c at h ⊢
  obtain ⟨a0, b0, b1, len, rng, num⟩ := h
  obtain ⟨acc, bits, out⟩ := c
  dsimp only at *
  have hL : out.length = vs.length ∧ bits = pad := by omega
  obtain ⟨hL, rfl⟩ := hL
  rw [hnum] at num
  have inj : numB 256 vs = numB 256 out → out = vs := fun e => ((num_inj vs out 0 0 hL.symm hv (fun d hd => rng d hd) e).2).symm
  rw [bitAnd_m8]
  have hb : bits = 0 ∨ bits = 1 ∨ bits = 2 ∨ bits = 3 ∨ bits = 4 := by omega
  rcases hb with rfl | rfl | rfl | rfl | rfl
  all_goals simp only [Int.reduceAdd, Int.reduceSub, Int.reduceMod, Int.reduceDiv, Int.reduceToNat, Int.reducePow] at num ⊢
  all_goals exact ⟨by decide, by omega, inj (by omega)⟩

end Mine
end
section -- Q3
open PySem PySem.W PySem.Calls PyProof.Rows
set_option maxRecDepth 100000
set_option maxHeartbeats 4000000
namespace Mine
-- --plain
/-- the generator's words, by five bits -/
def gN (t : Nat) : Nat := (t % 2) * 996825010 ^^^ (t / 2 % 2) * 642813549 ^^^ (t / 4 % 2) * 513874426 ^^^ (t / 8 % 2) * 1027748829 ^^^ (t / 16 % 2) * 705979059
def fN (c : Nat) : Nat := (c % 33554432) * 32 ^^^ gN (c / 33554432)
def rN (c : Nat) (vs : List Nat) : Nat := vs.foldl (fun c v => fN c ^^^ v) c
def itN : Nat → Nat → Nat
  | 0, x => x
  | j + 1, x => itN j (fN x)
inductive Tr
  | e
  | n (l r : Tr)
def Tr.mem : Nat → Tr → Nat → Bool
  | _, .e, _ => false
  | 0, .n _ _, _ => true
  | k + 1, .n l r, x => match x % 2 with
    | 0 => l.mem k (x / 2)
    | _ => r.mem k (x / 2)
def Tr.ins : Nat → Tr → Nat → Option Tr
  | 0, .e, _ => some (.n .e .e)
  | 0, .n _ _, _ => none
  | k + 1, .e, x => match x % 2 with
    | 0 => (Tr.ins k .e (x / 2)).map (Tr.n · .e)
    | _ => (Tr.ins k .e (x / 2)).map (Tr.n .e ·)
  | k + 1, .n l r, x => match x % 2 with
    | 0 => (Tr.ins k l (x / 2)).map (Tr.n · r)
    | _ => (Tr.ins k r (x / 2)).map (Tr.n l ·)
def insAll : List Nat → Tr → Option Tr
  | [], t => some t
  | x :: r, t => match Tr.ins 25 t x with
    | none => none
    | some t' => insAll r t'
def rowsN : Nat → List Nat → List Nat
  | 0, _ => []
  | n + 1, row => (row.map fun x => fN x / 32) ++ rowsN n (row.map fN)
def row0 : List Nat := [1, 2, 3, 4, 5, 6, 7, 8, 9, 10, 11, 12, 13, 14, 15, 16, 17, 18, 19, 20, 21, 22, 23, 24, 25, 26, 27, 28, 29, 30, 31]
theorem xor_left (a b c : Nat) : a ^^^ (b ^^^ c) = b ^^^ (a ^^^ c) := by rw [← Nat.xor_assoc, Nat.xor_comm a b, Nat.xor_assoc]
theorem pmIn_nat (t c k g : Nat) (hg : pmGen (k : Int) = (g : Int)) (p : Nat) (hp : 2 ^ k = p) : pmIn ((t : Nat) : Int) ((c : Nat) : Int) k = ((c ^^^ (t / p % 2) * g : Nat) : Int) := by
  subst hp
  unfold pmIn
  rw [bitAnd_m1, hg]
  have e : ((t : Nat) : Int).fdiv (2 ^ ((k : Nat) : Int).toNat) = ((t / 2 ^ k : Nat) : Int) := by
    rw [Int.toNat_natCast, Int.fdiv_eq_ediv_of_nonneg _ (Int.le_of_lt (kbt_pos k))]
    push_cast; rfl
  rw [e]
  rcases Nat.mod_two_eq_zero_or_one (t / 2 ^ k) with h | h
  · have : ((t / 2 ^ k : Nat) : Int) % 2 = 0 := by omega
    rw [if_neg (by rw [this]; exact fun q => q rfl), h, Nat.zero_mul, Nat.xor_zero]
    exact bitXor_zero _
  · have : ((t / 2 ^ k : Nat) : Int) % 2 = 1 := by omega
    rw [if_pos (by rw [this]; decide), h, Nat.one_mul]
    exact bitXor_nat _ _
theorem pmStep_nat (c v : Nat) : pmStep (c : Int) (v : Int) = ((fN c ^^^ v : Nat) : Int) := by
  unfold pmStep
  have e1 : Builtin.bitAnd (c : Int) 33554431 = ((c % 33554432 : Nat) : Int) := by
    rw [show (33554431 : Int) = 2 ^ 25 - 1 by decide, kbt_mask]; show (c : Int) % 33554432 = _; omega
  have e2 : ((c : Nat) : Int).fdiv (2 ^ 25) = ((c / 33554432 : Nat) : Int) := by
    rw [Int.fdiv_eq_ediv_of_nonneg _ (by decide)]; show (c : Int) / 33554432 = _; omega
  have e3 : Builtin.bitXor (((c % 33554432 : Nat) : Int) * 32) (v : Int) = (((c % 33554432) * 32 ^^^ v : Nat) : Int) := by
    rw [← bitXor_nat]; congr 1
  rw [e1, e2, e3, show List.range 5 = [0, 1, 2, 3, 4] from rfl]
  simp only [List.foldl_cons, List.foldl_nil]
  rw [pmIn_nat _ _ 0 996825010 rfl 1 rfl, pmIn_nat _ _ 1 642813549 rfl 2 rfl, pmIn_nat _ _ 2 513874426 rfl 4 rfl, pmIn_nat _ _ 3 1027748829 rfl 8 rfl, pmIn_nat _ _ 4 705979059 rfl 16 rfl]
  unfold fN gN
  rw [Nat.div_one]
  congr 1
  simp only [Nat.xor_assoc, Nat.xor_comm, xor_left]
theorem pm_nat : ∀ (vs : List Nat) (c : Nat), (vs.map fun n : Nat => (n : Int)).foldl pmStep (c : Int) = ((rN c vs : Nat) : Int)
  | [], _ => rfl
  | v :: vs, c => by
    show (vs.map _).foldl pmStep (pmStep c v) = _
    rw [pmStep_nat, pm_nat vs]; rfl
theorem mod_xor (a b : Nat) : (a ^^^ b) % 33554432 = (a % 33554432) ^^^ (b % 33554432) := Nat.xor_mod_two_pow (n := 25)
theorem div_xor (a b : Nat) : (a ^^^ b) / 33554432 = (a / 33554432) ^^^ (b / 33554432) := Nat.xor_div_two_pow (n := 25)
theorem mul_xor (a b : Nat) : (a ^^^ b) * 32 = (a * 32) ^^^ (b * 32) := by
  have := Nat.shiftLeft_xor_distrib (a := a) (b := b) (i := 5)
  simpa [Nat.shiftLeft_eq] using this
theorem gN_xor : ∀ a b : Fin 32, gN (a.val ^^^ b.val) = gN a.val ^^^ gN b.val := by decide +kernel
theorem gN_lt : ∀ a : Fin 32, gN a.val < 1073741824 ∧ (gN a.val % 32 = 0 → a.val = 0) := by decide +kernel
theorem fN_xor {a b : Nat} (ha : a < 1073741824) (hb : b < 1073741824) : fN (a ^^^ b) = fN a ^^^ fN b := by
  unfold fN
  have h1 : a / 33554432 < 32 := by omega
  have h2 : b / 33554432 < 32 := by omega
  have g := gN_xor ⟨_, h1⟩ ⟨_, h2⟩
  dsimp only at g
  rw [mod_xor, div_xor, mul_xor, g]
  simp only [Nat.xor_assoc, Nat.xor_comm, xor_left]
theorem xor_lt30 {a b : Nat} (ha : a < 1073741824) (hb : b < 1073741824) : a ^^^ b < 1073741824 := Nat.xor_lt_two_pow (n := 30) ha hb
theorem fN_lt {a : Nat} (ha : a < 1073741824) : fN a < 1073741824 := by
  unfold fN
  refine xor_lt30 (by omega) ?_
  exact (gN_lt ⟨_, (by omega : a / 33554432 < 32)⟩).1
theorem fN_zero : fN 0 = 0 := by decide
theorem low_xor (a b : Nat) : (a ^^^ b) % 32 = (a % 32) ^^^ (b % 32) := Nat.xor_mod_two_pow (n := 5)
theorem hi_xor (a b : Nat) : (a ^^^ b) / 32 = (a / 32) ^^^ (b / 32) := Nat.xor_div_two_pow (n := 5)
theorem fN_inj {a : Nat} (ha : a < 1073741824) (h : fN a = 0) : a = 0 := by
  unfold fN at h
  have g := (gN_lt ⟨_, (by omega : a / 33554432 < 32)⟩).2
  have hl := congrArg (· % 32) h
  rw [low_xor, show a % 33554432 * 32 % 32 = 0 by omega, Nat.zero_xor] at hl
  have ht : a / 33554432 = 0 := g (by simpa using hl)
  rw [ht, show gN 0 = 0 by decide, Nat.xor_zero] at h
  omega
theorem xor_eq_zero' {a b : Nat} (h : a ^^^ b = 0) : a = b := by
  have e : a ^^^ (a ^^^ b) = a ^^^ 0 := congrArg _ h
  rw [← Nat.xor_assoc, Nat.xor_self, Nat.zero_xor, Nat.xor_zero] at e
  exact e.symm
theorem rN_lt : ∀ (vs : List Nat) {c : Nat}, c < 1073741824 → (∀ v ∈ vs, v < 32) → rN c vs < 1073741824
  | [], _, h, _ => h
  | v :: vs, c, h, hv => rN_lt vs (c := fN c ^^^ v) (xor_lt30 (fN_lt h) (by have := hv v (.head _); omega)) fun x hx => hv x (.tail _ hx)
theorem rN_xor : ∀ (vs us : List Nat) {a b : Nat}, vs.length = us.length → a < 1073741824 → b < 1073741824 → (∀ v ∈ vs, v < 32) → (∀ v ∈ us, v < 32) → rN (a ^^^ b) (List.zipWith (· ^^^ ·) vs us) = rN a vs ^^^ rN b us
  | [], [], _, _, _, _, _, _, _ => rfl
  | [], _ :: _, _, _, h, _, _, _, _ => by cases h
  | _ :: _, [], _, _, h, _, _, _, _ => by cases h
  | v :: vs, u :: us, a, b, h, ha, hb, hv, hu => by
    show rN (fN (a ^^^ b) ^^^ (v ^^^ u)) (List.zipWith (· ^^^ ·) vs us) = rN (fN a ^^^ v) vs ^^^ rN (fN b ^^^ u) us
    have e : fN (a ^^^ b) ^^^ (v ^^^ u) = (fN a ^^^ v) ^^^ (fN b ^^^ u) := by
      rw [fN_xor ha hb]; simp only [Nat.xor_assoc, Nat.xor_comm, xor_left]
    rw [e]
    exact rN_xor vs us (Nat.succ.inj h) (xor_lt30 (fN_lt ha) (by have := hv v (.head _); omega)) (xor_lt30 (fN_lt hb) (by have := hu u (.head _); omega)) (fun x hx => hv x (.tail _ hx)) fun x hx => hu x (.tail _ hx)

end Mine
end
section -- Q4
open PySem PySem.W PySem.Calls PyProof.Rows
set_option maxRecDepth 100000
set_option maxHeartbeats 4000000
namespace Mine
-- --plain
theorem Tr.mem_e (k x : Nat) : Tr.mem k .e x = false := by cases k <;> rfl
theorem pow_mod (k x y : Nat) : x % 2 ^ (k + 1) = y % 2 ^ (k + 1) ↔ x % 2 = y % 2 ∧ (x / 2) % 2 ^ k = (y / 2) % 2 ^ k := by
  have h1 := Nat.mod_mul (a := 2) (b := 2 ^ k) (x := x)
  have h2 := Nat.mod_mul (a := 2) (b := 2 ^ k) (x := y)
  rw [Nat.pow_succ, Nat.mul_comm, h1, h2]
  have := Nat.mod_lt x (show 0 < 2 by decide)
  have := Nat.mod_lt y (show 0 < 2 by decide)
  constructor
  · intro h; constructor <;> omega
  · rintro ⟨h, h'⟩; rw [h, h']
theorem Tr.mem_n (k : Nat) (l r : Tr) (x : Nat) : Tr.mem (k + 1) (.n l r) x = if x % 2 = 0 then l.mem k (x / 2) else r.mem k (x / 2) := by
  show (match x % 2 with | 0 => _ | _ => _) = _
  rcases Nat.mod_two_eq_zero_or_one x with h | h <;> rw [h] <;> rfl
theorem Tr.ins_ok : ∀ (k : Nat) (t : Tr) (x : Nat) (t' : Tr), Tr.ins k t x = some t' → t.mem k x = false ∧ ∀ y, t'.mem k y = true ↔ (t.mem k y = true ∨ y % 2 ^ k = x % 2 ^ k)
  | 0, .e, x, t', h => by
    cases h
    exact ⟨rfl, fun y => ⟨fun _ => .inr (by simp [Nat.mod_one]), fun _ => rfl⟩⟩
  | 0, .n _ _, _, _, h => by cases h
  | k + 1, .e, x, t', h => by
    refine ⟨rfl, fun y => ?_⟩
    rw [pow_mod]
    have h : (match x % 2 with | 0 => (Tr.ins k .e (x / 2)).map (Tr.n · .e) | _ => (Tr.ins k .e (x / 2)).map (Tr.n .e ·)) = some t' := h
    rcases Nat.mod_two_eq_zero_or_one x with hx | hx
    · rw [hx] at h
      obtain ⟨u, hu, rfl⟩ := Option.map_eq_some_iff.mp h
      have ih := (Tr.ins_ok k .e (x / 2) u hu).2 (y / 2)
      simp only [Tr.mem_n, Tr.mem_e, Bool.false_eq_true, false_or] at ih ⊢
      by_cases hy : y % 2 = 0
      · rw [if_pos hy, ih]
        exact ⟨fun h => ⟨by omega, h⟩, fun h => h.2⟩
      · rw [if_neg hy]
        exact ⟨(fun h => by cases h), (fun h => by omega)⟩
    · rw [hx] at h
      obtain ⟨u, hu, rfl⟩ := Option.map_eq_some_iff.mp h
      have ih := (Tr.ins_ok k .e (x / 2) u hu).2 (y / 2)
      simp only [Tr.mem_n, Tr.mem_e, Bool.false_eq_true, false_or] at ih ⊢
      by_cases hy : y % 2 = 0
      · rw [if_pos hy]
        exact ⟨(fun h => by cases h), (fun h => by omega)⟩
      · rw [if_neg hy, ih]
        exact ⟨fun h => ⟨by omega, h⟩, fun h => h.2⟩
  | k + 1, .n l r, x, t', h => by
    have h : (match x % 2 with | 0 => (Tr.ins k l (x / 2)).map (Tr.n · r) | _ => (Tr.ins k r (x / 2)).map (Tr.n l ·)) = some t' := h
    rcases Nat.mod_two_eq_zero_or_one x with hx | hx
    · rw [hx] at h
      obtain ⟨u, hu, rfl⟩ := Option.map_eq_some_iff.mp h
      have ih := Tr.ins_ok k l (x / 2) u hu
      refine ⟨by rw [Tr.mem_n, if_pos hx]; exact ih.1, fun y => ?_⟩
      have ih := ih.2 (y / 2)
      rw [pow_mod, Tr.mem_n, Tr.mem_n]
      by_cases hy : y % 2 = 0
      · rw [if_pos hy, if_pos hy, ih]; simp [hy, hx]
      · rw [if_neg hy, if_neg hy]
        constructor
        · exact .inl
        · rintro (h | ⟨h, _⟩)
          · exact h
          · omega
    · rw [hx] at h
      obtain ⟨u, hu, rfl⟩ := Option.map_eq_some_iff.mp h
      have ih := Tr.ins_ok k r (x / 2) u hu
      refine ⟨by rw [Tr.mem_n, if_neg (by omega)]; exact ih.1, fun y => ?_⟩
      have ih := ih.2 (y / 2)
      rw [pow_mod, Tr.mem_n, Tr.mem_n]
      by_cases hy : y % 2 = 0
      · rw [if_pos hy, if_pos hy]
        constructor
        · exact .inl
        · rintro (h | ⟨h, _⟩)
          · exact h
          · omega
      · rw [if_neg hy, if_neg hy, ih]
        constructor
        · rintro (h | h)
          · exact .inl h
          · exact .inr ⟨by omega, h⟩
        · rintro (h | ⟨_, h⟩)
          · exact .inl h
          · exact .inr h
theorem insAll_ok : ∀ (l : List Nat) (t : Tr), (insAll l t).isSome = true → l.Pairwise (· ≠ ·) ∧ ∀ x ∈ l, t.mem 25 x = false
  | [], _, _ => ⟨.nil, fun _ h => nomatch h⟩
  | x :: r, t, h => by
    unfold insAll at h
    cases e : Tr.ins 25 t x with
    | none => rw [e] at h; cases h
    | some t' =>
      rw [e] at h
      obtain ⟨h1, h2⟩ := Tr.ins_ok 25 t x t' e
      obtain ⟨p, q⟩ := insAll_ok r t' h
      refine ⟨.cons (fun y hy e => ?_) p, fun y hy => ?_⟩
      · subst e
        have := q x hy
        rw [(h2 x).mpr (.inr rfl)] at this; cases this
      · rcases List.mem_cons.mp hy with rfl | hy
        · exact h1
        · have := q y hy
          cases hm : t.mem 25 y with
          | false => rfl
          | true => rw [(h2 y).mpr (.inl hm)] at this; cases this
theorem rows_mem : ∀ (n : Nat) (row : List Nat) (j e : Nat) (he : e < row.length), j < n → itN (j + 1) row[e] / 32 ∈ rowsN n row
  | 0, _, _, _, _, h => absurd h (Nat.not_lt_zero _)
  | n + 1, row, 0, e, he, _ => List.mem_append_left _ (List.mem_map.mpr ⟨row[e], List.getElem_mem he, rfl⟩)
  | n + 1, row, j + 1, e, he, h => by
    refine List.mem_append_right _ ?_
    have := rows_mem n (row.map fN) j e (by rw [List.length_map]; exact he) (by omega)
    rw [List.getElem_map] at this
    exact this
theorem rows_apart : ∀ (n : Nat) (row : List Nat), (rowsN n row).Pairwise (· ≠ ·) → ∀ (j e k g : Nat) (he : e < row.length) (hg : g < row.length), j < n → k < n → itN (j + 1) row[e] / 32 = itN (k + 1) row[g] / 32 → j = k ∧ e = g
  | 0, _, _, _, _, _, _, _, _, h, _, _ => absurd h (Nat.not_lt_zero _)
  | n + 1, row, hp, j, e, k, g, he, hg, hj, hk, h => by
    obtain ⟨p1, p2, p3⟩ := List.pairwise_append.mp hp
    match j, k with
    | 0, 0 =>
      refine ⟨rfl, ?_⟩
      have p1 := List.pairwise_iff_getElem.mp p1
      have h : fN row[e] / 32 = fN row[g] / 32 := h
      rcases Nat.lt_trichotomy e g with q | q | q
      · exact absurd (by rw [List.getElem_map, List.getElem_map]; exact h) (p1 e g (by simpa using he) (by simpa using hg) q)
      · exact q
      · exact absurd (by rw [List.getElem_map, List.getElem_map]; exact h.symm) (p1 g e (by simpa using hg) (by simpa using he) q)
    | 0, k + 1 =>
      have m := rows_mem n (row.map fN) k g (by rw [List.length_map]; exact hg) (by omega)
      rw [List.getElem_map] at m
      exact absurd h (p3 _ (List.mem_map.mpr ⟨row[e], List.getElem_mem he, rfl⟩) _ m)
    | j + 1, 0 =>
      have m := rows_mem n (row.map fN) j e (by rw [List.length_map]; exact he) (by omega)
      rw [List.getElem_map] at m
      exact absurd h.symm (p3 _ (List.mem_map.mpr ⟨row[g], List.getElem_mem hg, rfl⟩) _ m)
    | j + 1, k + 1 =>
      have := rows_apart n (row.map fN) p2 j e k g (by rw [List.length_map]; exact he) (by rw [List.length_map]; exact hg) (by omega) (by omega) (by rw [List.getElem_map, List.getElem_map]; exact h)
      exact ⟨by omega, this.2⟩
theorem rows_ok : (insAll (0 :: rowsN 120 row0) .e).isSome = true := by decide +kernel
theorem row0_get {e : Nat} (h : e < 31) : row0[e]'h = e + 1 := by
  have : ∀ e : Fin 31, row0[e.val]'e.isLt = e.val + 1 := by decide
  exact this ⟨e, h⟩
/-- no two of the words meet but in their low five bits -/
theorem it_apart {j k e g : Nat} (hj : j < 120) (hk : k < 120) (e1 : 1 ≤ e) (e2 : e < 32) (g1 : 1 ≤ g) (g2 : g < 32) (h : itN (j + 1) e / 32 = itN (k + 1) g / 32) : j = k ∧ e = g := by
  have hp := (List.pairwise_cons.mp (insAll_ok _ _ rows_ok).1).2
  have := rows_apart 120 row0 hp j (e - 1) k (g - 1) (show e - 1 < 31 by omega) (show g - 1 < 31 by omega) hj hk (by
    rw [row0_get (by omega), row0_get (by omega), Nat.sub_add_cancel e1, Nat.sub_add_cancel g1]; exact h)
  omega
theorem it_high {j e : Nat} (hj : j < 120) (e1 : 1 ≤ e) (e2 : e < 32) : itN (j + 1) e / 32 ≠ 0 := by
  have hp := (List.pairwise_cons.mp (insAll_ok _ _ rows_ok).1).1
  have m := rows_mem 120 row0 j (e - 1) (show e - 1 < 31 by omega) hj
  rw [row0_get (by omega), Nat.sub_add_cancel e1] at m
  exact fun q => hp _ m q.symm

end Mine
end
section -- Q5
open PySem PySem.W PySem.Calls PyProof.Rows
set_option maxRecDepth 100000
set_option maxHeartbeats 4000000
namespace Mine
-- --plain
def nzN (D : List Nat) : Nat := (D.filter (· ≠ 0)).length
theorem nz_zero (D : List Nat) : nzN (0 :: D) = nzN D := rfl
theorem nz_pos {d : Nat} (D : List Nat) (h : d ≠ 0) : nzN (d :: D) = nzN D + 1 := by
  unfold nzN; rw [List.filter_cons, if_pos (by simpa using h)]; rfl
theorem it_succ : ∀ (j x : Nat), itN (j + 1) x = fN (itN j x)
  | 0, _ => rfl
  | j + 1, x => it_succ j (fN x)
theorem it_lt : ∀ (j : Nat) {x : Nat}, x < 1073741824 → itN j x < 1073741824
  | 0, _, h => h
  | j + 1, x, h => it_lt j (x := fN x) (fN_lt h)
theorem small {d : Nat} (h : d < 32) : d < 1073741824 := by omega
theorem rN_cons (c v : Nat) (vs : List Nat) : rN c (v :: vs) = rN (fN c ^^^ v) vs := rfl
theorem d1 : ∀ (D : List Nat) {c : Nat}, c ≠ 0 → c < 1073741824 → nzN D = 0 → rN c D ≠ 0
  | [], _, h, _, _ => h
  | d :: D, c, h, hc, hz => by
    by_cases hd : d = 0
    · subst hd
      rw [rN_cons, Nat.xor_zero]
      exact d1 D (fun e => h (fN_inj hc e)) (fN_lt hc) hz
    · rw [nz_pos _ hd] at hz; omega
theorem hi_ne {a d : Nat} (h : a / 32 ≠ 0) (hd : d < 32) : a ^^^ d ≠ 0 := fun e => h (by
  have : (a ^^^ d) / 32 = 0 / 32 := congrArg (· / 32) e
  rw [hi_xor, show d / 32 = 0 by omega, Nat.xor_zero] at this
  omega)
theorem d2 : ∀ (D : List Nat) {j e : Nat}, 1 ≤ e → e < 32 → nzN D ≤ 1 → (∀ d ∈ D, d < 32) → j + D.length ≤ 120 → rN (itN j e) D ≠ 0
  | [], j, e, e1, e2, _, _, hl => by
    show itN j e ≠ 0
    match j with
    | 0 => show e ≠ 0; omega
    | j + 1 => exact fun q => it_high (j := j) (by simp at hl; omega) e1 e2 (by rw [q])
  | d :: D, j, e, e1, e2, hz, hd, hl => by
    rw [rN_cons, ← it_succ]
    have hl' : j + 1 + D.length ≤ 120 := by simp at hl; omega
    by_cases h0 : d = 0
    · subst h0
      rw [Nat.xor_zero]
      exact d2 D e1 e2 hz (fun x hx => hd x (.tail _ hx)) hl'
    · rw [nz_pos _ h0] at hz
      have hd' := hd d (.head _)
      exact d1 D (hi_ne (it_high (by omega) e1 e2) hd') (xor_lt30 (it_lt _ (small e2)) (small hd')) (by omega)
theorem ap {j k e g : Nat} (hjk : k < j) (hj : j ≤ 120) (e1 : 1 ≤ e) (e2 : e < 32) (g1 : 1 ≤ g) (g2 : g < 32) : (itN j e ^^^ itN k g) / 32 ≠ 0 := by
  intro q
  rw [hi_xor] at q
  have q := xor_eq_zero' q
  match j, k with
  | j + 1, 0 => exact it_high (j := j) (by omega) e1 e2 (by rw [q]; show g / 32 = 0; omega)
  | j + 1, k + 1 => have := (it_apart (by omega) (by omega) e1 e2 g1 g2 q).1; omega
theorem d3 : ∀ (D : List Nat) {j k e g : Nat}, k < j → 1 ≤ e → e < 32 → 1 ≤ g → g < 32 → nzN D ≤ 1 → (∀ d ∈ D, d < 32) → j + D.length ≤ 120 → rN (itN j e ^^^ itN k g) D ≠ 0
  | [], j, k, e, g, hk, e1, e2, g1, g2, _, _, hl => by
    show itN j e ^^^ itN k g ≠ 0
    exact fun q => ap hk (by simp at hl; omega) e1 e2 g1 g2 (by rw [q])
  | d :: D, j, k, e, g, hk, e1, e2, g1, g2, hz, hd, hl => by
    rw [rN_cons, fN_xor (it_lt _ (small e2)) (it_lt _ (small g2)), ← it_succ, ← it_succ]
    have hl' : j + 1 + D.length ≤ 120 := by simp at hl; omega
    by_cases h0 : d = 0
    · subst h0
      rw [Nat.xor_zero]
      exact d3 D (by omega) e1 e2 g1 g2 hz (fun x hx => hd x (.tail _ hx)) hl'
    · rw [nz_pos _ h0] at hz
      have hd' := hd d (.head _)
      exact d1 D (hi_ne (ap (by omega) (by omega) e1 e2 g1 g2) hd') (xor_lt30 (xor_lt30 (it_lt _ (small e2)) (it_lt _ (small g2))) (small hd')) (by omega)
theorem d4 : ∀ (D : List Nat) {j e : Nat}, 1 ≤ e → e < 32 → nzN D ≤ 2 → (∀ d ∈ D, d < 32) → j + D.length ≤ 120 → rN (itN j e) D ≠ 0
  | [], j, e, e1, e2, _, _, hl => d2 [] e1 e2 (Nat.zero_le _) (fun _ h => nomatch h) hl
  | d :: D, j, e, e1, e2, hz, hd, hl => by
    rw [rN_cons, ← it_succ]
    have hl' : j + 1 + D.length ≤ 120 := by simp at hl; omega
    by_cases h0 : d = 0
    · subst h0
      rw [Nat.xor_zero]
      exact d4 D e1 e2 hz (fun x hx => hd x (.tail _ hx)) hl'
    · rw [nz_pos _ h0] at hz
      exact d3 D (k := 0) (by omega) e1 e2 (by omega) (hd d (.head _)) (by omega) (fun x hx => hd x (.tail _ hx)) hl'
/-- one to three signs turned are told -/
theorem det : ∀ (D : List Nat), 1 ≤ nzN D → nzN D ≤ 3 → (∀ d ∈ D, d < 32) → D.length ≤ 120 → rN 0 D ≠ 0
  | [], h, _, _, _ => by cases h
  | d :: D, h1, h3, hd, hl => by
    rw [rN_cons, fN_zero, Nat.zero_xor]
    by_cases h0 : d = 0
    · subst h0
      exact det D h1 h3 (fun x hx => hd x (.tail _ hx)) (by simp at hl; omega)
    · rw [nz_pos _ h0] at h3
      exact d4 D (j := 0) (by omega) (hd d (.head _)) (by omega) (fun x hx => hd x (.tail _ hx)) (by simp at hl; omega)

end Mine
end
section -- Q6
open PySem PySem.W PySem.Calls PyProof.Rows
set_option maxRecDepth 100000
set_option maxHeartbeats 4000000
namespace Mine
-- --plain
def toN (l : List Int) : List Nat := l.map Int.toNat
theorem toN_cast : ∀ {l : List Int}, (∀ n ∈ l, 0 ≤ n) → (toN l).map (fun n : Nat => (n : Int)) = l
  | [], _ => rfl
  | n :: l, h => by
    show ((n.toNat : Nat) : Int) :: (toN l).map _ = _
    rw [toN_cast fun x hx => h x (.tail _ hx), Int.toNat_of_nonneg (h n (.head _))]
theorem pmI_nat {l : List Int} (h : ∀ n ∈ l, 0 ≤ n) : pmI l = ((rN 1 (toN l) : Nat) : Int) := by
  unfold pmI
  conv => lhs; rw [← toN_cast h]
  exact pm_nat _ 1
theorem rN_app (c : Nat) (a b : List Nat) : rN c (a ++ b) = rN (rN c a) b := by unfold rN; rw [List.foldl_append]
theorem toN_app (a b : List Int) : toN (a ++ b) = toN a ++ toN b := List.map_append
theorem toN_lt {l : List Int} (h : ∀ n ∈ l, 0 ≤ n ∧ n < 32) : ∀ v ∈ toN l, v < 32 := fun v hv => by
  obtain ⟨n, hn, rfl⟩ := List.mem_map.mp hv
  have := h n hn; omega
theorem hx_rng {h : Str} (ha : h.cps.all (· < 128) = true) : ∀ n ∈ hx h, 0 ≤ n ∧ n < 32 := fun n hn => by
  have hc : ∀ c ∈ h.cps.toList, c < 128 := fun c hc => by
    have := Array.all_eq_true_iff_forall_mem.mp ha c (by simpa using hc)
    simpa using this
  unfold hx at hn
  rcases List.mem_append.mp hn with hn | hn
  · rcases List.mem_append.mp hn with hn | hn
    · obtain ⟨c, hm, rfl⟩ := List.mem_map.mp hn
      have := hc c hm
      rw [Int.fdiv_eq_ediv_of_nonneg _ (by decide)]
      simp only [Int.reducePow]; omega
    · rw [List.mem_singleton.mp hn]; decide
  · obtain ⟨c, hm, rfl⟩ := List.mem_map.mp hn
    rw [bitAnd_m5]; omega
theorem f_small {x k : Nat} (hx : x < 33554432) (hk : k < 32) : fN x ^^^ k = x * 32 + k := by
  have e : fN x = x * 32 := by
    unfold fN
    rw [show x / 33554432 = 0 by omega, show gN 0 = 0 by decide, Nat.xor_zero, show x % 33554432 = x by omega]
  rw [e]
  have h1 := xor_add_and (x * 32) k
  have h2 := and_low x k 5 (by simpa using hk)
  rw [show (2 : Nat) ^ 5 = 32 by decide] at h2
  omega
/-- six signs put together -/
theorem six {q : Nat} (hq : q < 1073741824) : rN 0 [q / 33554432 % 32, q / 1048576 % 32, q / 32768 % 32, q / 1024 % 32, q / 32 % 32, q % 32] = q := by
  simp only [rN, List.foldl_cons, List.foldl_nil]
  rw [fN_zero, Nat.zero_xor]
  rw [show fN (q / 33554432 % 32) ^^^ q / 1048576 % 32 = q / 1048576 % 1024 by rw [f_small (by omega) (by omega)]; omega,
    show fN (q / 1048576 % 1024) ^^^ q / 32768 % 32 = q / 32768 % 32768 by rw [f_small (by omega) (by omega)]; omega,
    show fN (q / 32768 % 32768) ^^^ q / 1024 % 32 = q / 1024 % 1048576 by rw [f_small (by omega) (by omega)]; omega,
    show fN (q / 1024 % 1048576) ^^^ q / 32 % 32 = q / 32 % 33554432 by rw [f_small (by omega) (by omega)]; omega,
    show fN (q / 32 % 33554432) ^^^ q % 32 = q % 1073741824 by rw [f_small (by omega) (by omega)]; omega]
  omega
theorem ck_nat {P : Nat} (i j : Nat) (hj : (5 * (5 - (0 + (i : Int)))).toNat = j) : Builtin.bitAnd ((Builtin.bitXor (P : Int) 1).fdiv (2 ^ (5 * (5 - (0 + (i : Int)))).toNat)) 31 = (((P ^^^ 1) / 2 ^ j % 32 : Nat) : Int) := by
  subst hj
  have e : Builtin.bitXor (P : Int) 1 = ((P ^^^ 1 : Nat) : Int) := bitXor_nat P 1
  rw [e, bitAnd_m5, Int.fdiv_eq_ediv_of_nonneg _ (Int.le_of_lt (kbt_pos _))]
  rw [← kbt_cast]
  omega
/-- what is made is taken -/
theorem ck_one {h : Str} {g : List Int} (ha : h.cps.all (· < 128) = true) (hg : ∀ n ∈ g, 0 ≤ n ∧ n < 32) : pmI (hx h ++ tailOf h g) = 1 := by
  have hh := hx_rng ha
  have hpre : ∀ n ∈ hx h ++ g, 0 ≤ n ∧ n < 32 := fun n hn => (List.mem_append.mp hn).elim (hh n) (hg n)
  have hz : ∀ n ∈ hx h ++ g ++ [0, 0, 0, 0, 0, 0], 0 ≤ n := fun n hn => by
    rcases List.mem_append.mp hn with hn | hn
    · exact (hpre n hn).1
    · simp at hn; omega
  have hP : pmI (hx h ++ g ++ [0, 0, 0, 0, 0, 0]) = _ := pmI_nat hz
  have htl : ∀ n ∈ hx h ++ tailOf h g, 0 ≤ n := fun n hn => by
    rcases List.mem_append.mp hn with hn | hn
    · exact (hh n hn).1
    · exact (tailOf_range hg n hn).1
  rw [pmI_nat htl]
  unfold tailOf
  rw [← List.append_assoc, toN_app, rN_app]
  rw [toN_app, rN_app] at hP
  generalize hc : rN 1 (toN (hx h ++ g)) = c at hP ⊢
  have hc30 : c < 1073741824 := by rw [← hc]; exact rN_lt _ (by decide) (toN_lt hpre)
  generalize hPP : rN c (toN [0, 0, 0, 0, 0, 0]) = P at hP
  have hP30 : P < 1073741824 := by rw [← hPP]; exact rN_lt _ hc30 (by decide)
  have ck : ∀ i j : Nat, (5 * (5 - (0 + (i : Int)))).toNat = j → (ckI h g i).toNat = (P ^^^ 1) / 2 ^ j % 32 := fun i j e => by
    unfold ckI
    rw [hP, ck_nat i j e]; exact Int.toNat_natCast _
  have e6 : toN ((List.range 6).map (ckI h g)) = [(P ^^^ 1) / 33554432 % 32, (P ^^^ 1) / 1048576 % 32, (P ^^^ 1) / 32768 % 32, (P ^^^ 1) / 1024 % 32, (P ^^^ 1) / 32 % 32, (P ^^^ 1) % 32] := by
    show [(ckI h g 0).toNat, (ckI h g 1).toNat, (ckI h g 2).toNat, (ckI h g 3).toNat, (ckI h g 4).toNat, (ckI h g 5).toNat] = _
    rw [ck 0 25 (by decide), ck 1 20 (by decide), ck 2 15 (by decide), ck 3 10 (by decide), ck 4 5 (by decide), ck 5 0 (by decide)]
    simp
  have hq : P ^^^ 1 < 1073741824 := xor_lt30 hP30 (by decide)
  rw [e6]
  have s := six hq
  have x := rN_xor (toN [0, 0, 0, 0, 0, 0]) [(P ^^^ 1) / 33554432 % 32, (P ^^^ 1) / 1048576 % 32, (P ^^^ 1) / 32768 % 32, (P ^^^ 1) / 1024 % 32, (P ^^^ 1) / 32 % 32, (P ^^^ 1) % 32] (a := c) (b := 0) rfl hc30 (by decide) (by decide) (by
    intro v hv
    simp only [List.mem_cons, List.not_mem_nil, or_false] at hv
    omega)
  rw [hPP, s, Nat.xor_zero] at x
  have z : List.zipWith (· ^^^ ·) (toN [0, 0, 0, 0, 0, 0]) [(P ^^^ 1) / 33554432 % 32, (P ^^^ 1) / 1048576 % 32, (P ^^^ 1) / 32768 % 32, (P ^^^ 1) / 1024 % 32, (P ^^^ 1) / 32 % 32, (P ^^^ 1) % 32] = [(P ^^^ 1) / 33554432 % 32, (P ^^^ 1) / 1048576 % 32, (P ^^^ 1) / 32768 % 32, (P ^^^ 1) / 1024 % 32, (P ^^^ 1) / 32 % 32, (P ^^^ 1) % 32] := by
    show [0 ^^^ _, 0 ^^^ _, 0 ^^^ _, 0 ^^^ _, 0 ^^^ _, 0 ^^^ _] = _
    simp only [Nat.zero_xor]
  rw [z] at x
  rw [x, ← Nat.xor_assoc, Nat.xor_self, Nat.zero_xor]; rfl
theorem nz_le : ∀ (D : List Nat) (o : Nat) (K : List Nat), (∀ j (hj : j < D.length), D[j] ≠ 0 → o + j ∈ K) → nzN D ≤ K.length
  | [], _, _, _ => Nat.zero_le _
  | d :: D, o, K, h => by
    by_cases h0 : d = 0
    · subst h0
      rw [nz_zero]
      exact nz_le D (o + 1) K fun j hj hd => by
        have := h (j + 1) (by simp; omega) (by simpa using hd)
        rw [show o + 1 + j = o + (j + 1) by omega]; exact this
    · rw [nz_pos _ h0]
      have hm : o ∈ K := h 0 (by simp) h0
      have := nz_le D (o + 1) (K.erase o) fun j hj hd => by
        have := h (j + 1) (by simp; omega) (by simpa using hd)
        rw [show o + 1 + j = o + (j + 1) by omega]
        exact (List.mem_erase_of_ne (by omega)).mpr this
      rw [List.length_erase_of_mem hm] at this
      have := List.length_pos_of_mem hm
      omega
theorem nz_ge {D : List Nat} {d : Nat} (hd : d ∈ D) (h : d ≠ 0) : 1 ≤ nzN D := List.length_pos_of_mem (List.mem_filter.mpr ⟨hd, by simpa using h⟩)
theorem zip_lt : ∀ (a b : List Nat), (∀ v ∈ a, v < 32) → (∀ v ∈ b, v < 32) → ∀ v ∈ List.zipWith (· ^^^ ·) a b, v < 32
  | [], _, _, _, _, h => nomatch h
  | _ :: _, [], _, _, _, h => nomatch h
  | x :: a, y :: b, h1, h2, v, hv => by
    rcases List.mem_cons.mp hv with rfl | hv
    · exact Nat.xor_lt_two_pow (n := 5) (h1 x (.head _)) (h2 y (.head _))
    · exact zip_lt a b (fun z hz => h1 z (.tail _ hz)) (fun z hz => h2 z (.tail _ hz)) v hv
/-- signs turned at one to three places are told -/
theorem ck_turned {h : Str} {ns ns' : List Int} (ha : h.cps.all (· < 128) = true) (hn : ∀ n ∈ ns, 0 ≤ n ∧ n < 32) (hn' : ∀ n ∈ ns', 0 ≤ n ∧ n < 32) (hl : ns.length = ns'.length) (hl9 : ns.length ≤ 120) (h1 : pmI (hx h ++ ns) = 1)
    (K : List Nat) (hK : K.length ≤ 3) (hin : ∀ j (hj : j < ns.length) (hj' : j < ns'.length), ns[j] ≠ ns'[j] → j ∈ K) (hex : ∃ j, ∃ (hj : j < ns.length) (hj' : j < ns'.length), ns[j] ≠ ns'[j]) : pmI (hx h ++ ns') ≠ 1 := by
  intro h2
  have hh := hx_rng ha
  rw [pmI_nat fun n hm => (List.mem_append.mp hm).elim (fun q => (hh n q).1) fun q => (hn n q).1, toN_app, rN_app] at h1
  rw [pmI_nat fun n hm => (List.mem_append.mp hm).elim (fun q => (hh n q).1) fun q => (hn' n q).1, toN_app, rN_app] at h2
  have hc : rN 1 (toN (hx h)) < 1073741824 := rN_lt _ (by decide) (toN_lt hh)
  generalize rN 1 (toN (hx h)) = c at h1 h2 hc
  have x := rN_xor (toN ns) (toN ns') (a := c) (b := c) (by unfold toN; rw [List.length_map, List.length_map, hl]) hc hc (toN_lt hn) (toN_lt hn')
  rw [Nat.xor_self, show rN c (toN ns) = 1 by exact_mod_cast h1, show rN c (toN ns') = 1 by exact_mod_cast h2] at x
  have hlen : (List.zipWith (· ^^^ ·) (toN ns) (toN ns')).length = ns.length := by
    rw [List.length_zipWith]; unfold toN; rw [List.length_map, List.length_map, hl, Nat.min_self]
  have get : ∀ j (hj : j < ns.length) (hj' : j < ns'.length), (List.zipWith (· ^^^ ·) (toN ns) (toN ns'))[j]'(by rw [hlen]; exact hj) = ns[j].toNat ^^^ ns'[j].toNat := fun j hj hj' => by
    rw [List.getElem_zipWith]; unfold toN; rw [List.getElem_map, List.getElem_map]
  refine det (List.zipWith (· ^^^ ·) (toN ns) (toN ns')) ?_ ?_ (zip_lt _ _ (toN_lt hn) (toN_lt hn')) (by rw [hlen]; exact hl9) x
  · obtain ⟨j, hj, hj', hne⟩ := hex
    refine nz_ge (List.getElem_mem (n := j) (by rw [hlen]; exact hj)) ?_
    rw [get j hj hj']
    intro q
    have := xor_eq_zero' q
    have a1 := hn _ (List.getElem_mem hj)
    have a2 := hn' _ (List.getElem_mem hj')
    exact hne (by omega)
  · refine Nat.le_trans (nz_le _ 0 K fun j hj hd => ?_) hK
    rw [hlen] at hj
    have hj' : j < ns'.length := by omega
    rw [get j hj hj'] at hd
    rw [Nat.zero_add]
    exact hin j hj hj' fun q => hd (by rw [q, Nat.xor_self])
/-- another human part is told -/
theorem ck_strange {h h' : Str} {ns : List Int} (ha : h.cps.all (· < 128) = true) (ha' : h'.cps.all (· < 128) = true) (hn : ∀ n ∈ ns, 0 ≤ n ∧ n < 32) (h1 : pmI (hx h ++ ns) = 1) (hne : rN 1 (toN (hx h)) ≠ rN 1 (toN (hx h'))) : pmI (hx h' ++ ns) ≠ 1 := by
  intro h2
  have hh := hx_rng ha
  have hh' := hx_rng ha'
  rw [pmI_nat fun n hm => (List.mem_append.mp hm).elim (fun q => (hh n q).1) fun q => (hn n q).1, toN_app, rN_app] at h1
  rw [pmI_nat fun n hm => (List.mem_append.mp hm).elim (fun q => (hh' n q).1) fun q => (hn n q).1, toN_app, rN_app] at h2
  have hc : rN 1 (toN (hx h)) < 1073741824 := rN_lt _ (by decide) (toN_lt hh)
  have hc' : rN 1 (toN (hx h')) < 1073741824 := rN_lt _ (by decide) (toN_lt hh')
  generalize rN 1 (toN (hx h)) = c at h1 hc hne
  generalize rN 1 (toN (hx h')) = c' at h2 hc' hne
  have x := rN_xor (toN ns) (toN ns) (a := c) (b := c') rfl hc hc' (toN_lt hn) (toN_lt hn)
  rw [show rN c (toN ns) = 1 by exact_mod_cast h1, show rN c' (toN ns) = 1 by exact_mod_cast h2] at x
  refine d1 _ (fun q => hne (xor_eq_zero' q)) (xor_lt30 hc hc') ?_ x
  have : ∀ l : List Nat, nzN (List.zipWith (· ^^^ ·) l l) = 0 := fun l => by
    induction l with
    | nil => rfl
    | cons a l ih => rw [List.zipWith_cons_cons, Nat.xor_self, nz_zero]; exact ih
  exact this _

end Mine
end
section -- Q7
open PySem PySem.W PySem.Calls PyProof.Rows
set_option maxRecDepth 100000
set_option maxHeartbeats 4000000
namespace Mine
-- --plain
def capB : Nat → Nat
  | 0 => 7
  | d + 1 => 2 + 3 * capB d
structure SmallT (d : Nat) (t : RT) : Prop where
  ok : t.ok
  deep : t.deep ≤ d
  len : t.enc.length ≤ capB d
theorem capB_ge : ∀ d, 7 ≤ capB d
  | 0 => Nat.le_refl _
  | d + 1 => by have := capB_ge d; show 7 ≤ 2 + 3 * capB d; omega
theorem rHead_one {n : Nat} (h : n < 56) (off : Nat) : (rHead n off).length = 1 := by unfold rHead; rw [if_pos h]; rfl
theorem leaf_small (d : Nat) {b : List UInt8} (h : b.length ≤ 6) : SmallT d (.leaf b) := by
  refine ⟨?_, Nat.zero_le _, ?_⟩
  · show b.length < 56; omega
  · have := capB_ge d
    rw [RT.enc_eq, List.length_append]
    have hp : (RT.pfx (.leaf b)).length ≤ 1 := by
      match b, h with
      | [], _ => exact Nat.le_of_eq (rHead_one (by decide) 128)
      | [c], _ =>
        show (if c.toNat < 128 then [] else rHead 1 128).length ≤ 1
        split
        · exact Nat.zero_le _
        · exact Nat.le_of_eq (rHead_one (by decide) 128)
      | c :: e :: r, h => exact Nat.le_of_eq (rHead_one (by simp at h ⊢; omega) 128)
    have hb : (RT.pay (.leaf b)).length = b.length := rfl
    omega
theorem list_small {d : Nat} : ∀ {l : List RT}, (∀ t ∈ l, SmallT d t) → (RTs.ofList l).ok ∧ (RTs.ofList l).deep ≤ d ∧ (RTs.ofList l).enc.length ≤ l.length * capB d
  | [], _ => ⟨trivial, Nat.zero_le _, Nat.zero_le _⟩
  | t :: l, h => by
    obtain ⟨a, b, c⟩ := list_small fun x hx => h x (.tail _ hx)
    have ht := h t (.head _)
    refine ⟨⟨ht.ok, a⟩, ?_, ?_⟩
    · show max t.deep (RTs.ofList l).deep ≤ d
      have := ht.deep; omega
    · show (t.enc ++ (RTs.ofList l).enc).length ≤ (l.length + 1) * capB d
      rw [List.length_append, Nat.succ_mul]
      have := ht.len; omega
theorem node_small {d : Nat} {l : List RT} (h : ∀ t ∈ l, SmallT d t) (hl : l.length ≤ 3) (hc : capB d ≤ 60) : SmallT (d + 1) (.node (RTs.ofList l)) := by
  obtain ⟨a, b, c⟩ := list_small h
  have : l.length * capB d ≤ 3 * capB d := Nat.mul_le_mul_right _ hl
  refine ⟨⟨a, by omega⟩, by show (RTs.ofList l).deep + 1 ≤ d + 1; omega, ?_⟩
  rw [RT.enc_eq, List.length_append]
  have hp : (RT.pfx (.node (RTs.ofList l))).length ≤ 2 := rHead_le _ _
  have hb : (RT.pay (.node (RTs.ofList l))).length = (RTs.ofList l).enc.length := rfl
  show _ ≤ 2 + 3 * capB d
  omega
theorem growN_all {P : RT → Prop} {f : List Int → RT × List Int} (h : ∀ ns, P (f ns).1) : ∀ i ns, (growN f i ns).1.length = i ∧ ∀ t ∈ (growN f i ns).1, P t
  | 0, _ => ⟨rfl, fun _ h => nomatch h⟩
  | i + 1, ns => by
    obtain ⟨a, b⟩ := growN_all h i ns
    refine ⟨by show ((growN f i ns).1 ++ [_]).length = _; rw [List.length_append, a]; rfl, fun t ht => ?_⟩
    rcases List.mem_append.mp ht with ht | ht
    · exact b t ht
    · rw [List.mem_singleton.mp ht]; exact h _
theorem octs_len (n : Int) : (octs n).length ≤ 6 := by
  unfold octs
  rw [List.length_map, List.length_range]; exact cntOf_le n
theorem grow_small : ∀ d, d ≤ 2 → ∀ ns, SmallT d (growT d ns).1
  | 0, _, ns => leaf_small 0 (octs_len _)
  | d + 1, hd, ns => by
    unfold growT
    split
    · exact leaf_small _ (octs_len _)
    · obtain ⟨a, b⟩ := growN_all (grow_small d (by omega)) (((ns.headD 31).fdiv 3).fmod 4).toNat ns.tail
      refine node_small b ?_ ?_
      · have := fmod_range (a := (ns.headD 31).fdiv 3) (m := 4) (by decide)
        omega
      · match d, hd with
        | 0, _ => decide
        | 1, _ => decide
theorem tree_small (ns : List Int) : SmallT 2 (growT 2 ns).1 := grow_small 2 (Nat.le_refl _) ns
theorem tree_node_ok {t : RT} (h : SmallT 2 t) : (RT.node (.cons t .nil)).ok ∧ (RT.node (.cons t .nil)).enc.length ≤ 73 := by
  have hl : (RTs.cons t .nil).enc.length ≤ 71 := by
    show (t.enc ++ []).length ≤ 71
    rw [List.append_nil]; exact h.len
  refine ⟨⟨⟨h.ok, trivial⟩, by omega⟩, ?_⟩
  rw [RT.enc_eq, List.length_append]
  have hp : (RT.pfx (.node (.cons t .nil))).length ≤ 2 := rHead_le _ _
  have hb : (RT.pay (.node (.cons t .nil))).length = (RTs.cons t .nil).enc.length := rfl
  omega
theorem node_len {t : RT} : t.enc.length < (RT.node (.cons t .nil)).enc.length := by
  rw [RT.enc_eq (.node _), List.length_append]
  have hb : (RT.pay (.node (.cons t .nil))).length = t.enc.length := by
    show (t.enc ++ []).length = _; rw [List.append_nil]
  have hp : 0 < (RT.pfx (.node (.cons t .nil))).length := rHead_pos _ _
  omega

end Mine
end
section -- Q8
open PySem PySem.W PySem.Calls PyProof.Rows
set_option maxRecDepth 100000
set_option maxHeartbeats 4000000
namespace Mine
-- --plain
abbrev mkS (l : List Nat) : Str := ⟨l.toArray⟩
/-- a sign that may stand in an address -/
def lowC (c : Nat) : Prop := 33 ≤ c ∧ c ≤ 126 ∧ ¬ (65 ≤ c ∧ c ≤ 90)
theorem mk_len (l : List Nat) : (mkS l).length = l.length := by show l.toArray.size = _; simp
theorem mk_inj {a b : List Nat} (h : mkS a = mkS b) : a = b := by
  have := congrArg (fun x : Str => x.cps.toList) h
  simpa using this
theorem slice_from {l : List Nat} {i : Nat} (h : i ≤ l.length) : Txt.slice (mkS l) (some (i : Int)) none = mkS (l.drop i) := by
  show StrLaws.sliceText (mkS l) (some (i : Int)) none = _
  rw [StrLaws.sliceText_from ⟨Int.natCast_nonneg _, by simpa using h⟩]
  simp only [Int.toNat_natCast]
  rw [List.take_of_length_le (by simp)]
theorem slice_to {l : List Nat} {i : Nat} (h : i ≤ l.length) : Txt.slice (mkS l) none (some (i : Int)) = mkS (l.take i) := by
  show StrLaws.sliceText (mkS l) none (some (i : Int)) = _
  rw [StrLaws.sliceText_to ⟨Int.natCast_nonneg _, by simpa using h⟩]
  simp
theorem upper_mk {l : List Nat} (h : ∀ c ∈ l, c < 128) : Txt.upper (mkS l) = mkS (l.map up1) := by
  rw [upper_ascii (by simpa using h)]; simp [mkS]
theorem lower_mk {l : List Nat} (h : ∀ c ∈ l, c < 128) : Txt.lower (mkS l) = mkS (l.map lo1) := by
  rw [lower_ascii (by simpa using h)]; simp [mkS]
theorem up1_lt {c : Nat} (h : c < 128) : up1 c < 128 := by unfold up1; split <;> omega
theorem lo_low {c : Nat} (h : lowC c) : lo1 c = c := by unfold lo1; rw [if_neg h.2.2]
theorem lo_up {c : Nat} (h : lowC c) : lo1 (up1 c) = c := by
  have := h.2.2
  unfold up1 lo1; split
  · rw [if_pos (by omega)]; omega
  · first | rfl | rw [if_neg this]
theorem up_up {c : Nat} (h : lowC c) : up1 (up1 c) = up1 c := by
  unfold up1; split
  · rw [if_neg (by omega)]
  · rfl
theorem up_rng {c : Nat} (h : lowC c) : 33 ≤ up1 c ∧ up1 c ≤ 126 := by
  have := h.1; have := h.2.1
  unfold up1; split <;> omega
theorem map_self {f : Nat → Nat} {l : List Nat} (h : ∀ c ∈ l, f c = c) : l.map f = l := by
  conv => rhs; rw [← List.map_id l]
  exact List.map_congr_left h
theorem txt_small {l : List Nat} (h : ∀ c ∈ l, lowC c) (hn : l.length ≤ 200) : TxtOk (mkS l) (mkS l) := by
  refine ⟨fun c hc => ?_, by rw [mk_len]; exact hn, ?_⟩
  · have := h c (by simpa using hc); exact ⟨this.1, this.2.1⟩
  · rw [lower_mk fun c hc => by have := (h c hc).2.1; omega, map_self fun c hc => lo_low (h c hc)]
theorem txt_great {l : List Nat} (h : ∀ c ∈ l, lowC c) (hn : l.length ≤ 200) : TxtOk (Txt.upper (mkS l)) (mkS l) ∧ mixB (mkS l) (mkS l) = false ∧ mixB (Txt.upper (mkS l)) (mkS l) = false := by
  have h128 : ∀ c ∈ l, c < 128 := fun c hc => by have := (h c hc).2.1; omega
  have hu128 : ∀ c ∈ l.map up1, c < 128 := fun c hc => by
    obtain ⟨d, hd, rfl⟩ := List.mem_map.mp hc
    exact up1_lt (h128 d hd)
  rw [upper_mk h128]
  refine ⟨⟨fun c hc => ?_, by rw [mk_len, List.length_map]; exact hn, ?_⟩, ?_, ?_⟩
  · obtain ⟨d, hd, rfl⟩ := List.mem_map.mp (show c ∈ l.map up1 by simpa using hc)
    exact up_rng (h d hd)
  · rw [lower_mk hu128, List.map_map]
    exact congrArg mkS (map_self fun c hc => lo_up (h c hc))
  · unfold mixB
    rw [show (mkS l != mkS l) = false by simp]; rfl
  · unfold mixB
    rw [upper_mk hu128, List.map_map, show l.map (up1 ∘ up1) = l.map up1 from List.map_congr_left fun c hc => up_up (h c hc)]
    rw [show (mkS (l.map up1) != mkS (l.map up1)) = false by simp, Bool.and_false]
/-- one letter made great -/
theorem txt_mixed {l : List Nat} (h : ∀ c ∈ l, lowC c) (hn : l.length ≤ 200) {j i : Nat} (hj : j < l.length) (hi : i < l.length) (hij : i ≠ j) (lj : 97 ≤ l[j] ∧ l[j] ≤ 122) (li : 97 ≤ l[i] ∧ l[i] ≤ 122) :
    TxtOk (Txt.slice (mkS l) none (some (j : Int)) ++ Txt.upper (Txt.item (mkS l) (j : Int)) ++ Txt.slice (mkS l) (some ((j : Int) + 1)) none) (mkS l) ∧
    mixB (Txt.slice (mkS l) none (some (j : Int)) ++ Txt.upper (Txt.item (mkS l) (j : Int)) ++ Txt.slice (mkS l) (some ((j : Int) + 1)) none) (mkS l) = true := by
  have h128 : ∀ c ∈ l, c < 128 := fun c hc => by have := (h c hc).2.1; omega
  have e : Txt.slice (mkS l) none (some (j : Int)) ++ Txt.upper (Txt.item (mkS l) (j : Int)) ++ Txt.slice (mkS l) (some ((j : Int) + 1)) none = mkS (l.set j (up1 l[j])) := by
    rw [slice_to (Nat.le_of_lt hj), show ((j : Int) + 1) = ((j + 1 : Nat) : Int) by omega, slice_from (by omega)]
    rw [item_meets (n := l[j]) (Int.natCast_nonneg _) (by simp [hj])]
    rw [show (⟨#[l[j]]⟩ : Str) = mkS [l[j]] from rfl, upper_mk (by intro c hc; rw [List.mem_singleton.mp hc]; exact h128 _ (List.getElem_mem hj))]
    rw [List.set_eq_take_append_cons_drop, if_pos hj]
    show (⟨(l.take j).toArray ++ [up1 l[j]].toArray ++ (l.drop (j + 1)).toArray⟩ : Str) = _
    simp [mkS]
  rw [e]
  have lo : (l.set j (up1 l[j])).map lo1 = l := by
    rw [List.map_set, map_self fun c hc => lo_low (h c hc), lo_up (h _ (List.getElem_mem hj))]
    exact List.set_getElem_self hj
  have s128 : ∀ c ∈ l.set j (up1 l[j]), c < 128 := fun c hc => by
    rcases List.mem_or_eq_of_mem_set hc with hc | rfl
    · exact h128 c hc
    · exact up1_lt (h128 _ (List.getElem_mem hj))
  have uj : up1 l[j] = l[j] - 32 := by unfold up1; rw [if_pos lj]
  have ui : up1 l[i] = l[i] - 32 := by unfold up1; rw [if_pos li]
  refine ⟨⟨fun c hc => ?_, by rw [mk_len, List.length_set]; exact hn, by rw [lower_mk s128, lo]⟩, ?_⟩
  · rcases List.mem_or_eq_of_mem_set (show c ∈ l.set j (up1 l[j]) by simpa using hc) with hc | rfl
    · exact ⟨(h c hc).1, (h c hc).2.1⟩
    · exact up_rng (h _ (List.getElem_mem hj))
  · unfold mixB
    rw [Bool.and_eq_true]
    refine ⟨bne_iff_ne.mpr fun q => ?_, bne_iff_ne.mpr fun q => ?_⟩
    · have q := mk_inj q
      have : l[j] = (l.set j (up1 l[j]))[j]'(by rw [List.length_set]; exact hj) := by
        have := congrArg (fun x : List Nat => x[j]?) q
        simpa [hj] using this
      rw [List.getElem_set_self] at this
      omega
    · rw [upper_mk s128] at q
      have q := mk_inj q
      have : up1 l[i] = l[i] := by
        have := congrArg (fun x : List Nat => x[i]?) q
        simpa [hi, List.getElem?_map, List.getElem?_set, hij.symm] using this
      omega
theorem rfind_one {a t : List Nat} (ht : ∀ c ∈ t, c ≠ 49) : Txt.rfind (mkS (a ++ [49] ++ t)) (PySem.Str.ofString "1") = (a.length : Int) := by
  have e1 : PySem.Str.ofString "1" = ⟨#[49]⟩ := by decide
  rw [e1]
  have key := StrLaws.last_spec (mkS (a ++ [49] ++ t)) ⟨#[49]⟩
  have one : ∀ i, StrLaws.At (mkS (a ++ [49] ++ t)) ⟨#[49]⟩ (mkS (a ++ [49] ++ t)).length i ↔ (a ++ [49] ++ t)[i]? = some 49 := fun i => by
    have := StrLaws.subAt_one (mkS (a ++ [49] ++ t)) 49 i
    exact this
  have hat : (a ++ [49] ++ t)[a.length]? = some 49 := by
    rw [List.append_assoc, List.getElem?_append_right (Nat.le_refl _)]; simp
  rcases key with ⟨_, no⟩ | ⟨i, e, ha, hi⟩
  · exact absurd ((one _).mpr hat) (no a.length)
  · unfold Txt.rfind
    rw [e]
    have h1 := (one i).mp ha
    have h2 : ¬ i < a.length := fun q => hi a.length q ((one _).mpr hat)
    have h3 : ¬ a.length < i := fun q => by
      rw [List.append_assoc, List.getElem?_append_right (by omega)] at h1
      obtain ⟨m, hm⟩ : ∃ m, i - a.length = m + 1 := ⟨i - a.length - 1, by omega⟩
      rw [hm] at h1
      have : t[m]? = some 49 := by simpa using h1
      exact ht 49 (List.mem_of_getElem? this) rfl
    have : i = a.length := by omega
    rw [this]
/-- human part, mark, signs -/
def adL (h : List Nat) (ns : List Int) : List Nat := h ++ [49] ++ ns.map csAt
structure HumOk (h : List Nat) : Prop where
  low : ∀ c ∈ h, lowC c
  l1 : 1 ≤ h.length
  l2 : h.length ≤ 10
theorem adL_len (h : List Nat) (ns : List Int) : (adL h ns).length = h.length + 1 + ns.length := by unfold adL; simp; omega
theorem adL_low {h : List Nat} {ns : List Int} (hh : HumOk h) (hn : ∀ n ∈ ns, 0 ≤ n ∧ n < 32) : ∀ c ∈ adL h ns, lowC c := fun c hc => by
  unfold adL at hc
  rcases List.mem_append.mp hc with hc | hc
  · rcases List.mem_append.mp hc with hc | hc
    · exact hh.low c hc
    · rw [List.mem_singleton.mp hc]; exact ⟨by decide, by decide, by decide⟩
  · obtain ⟨n, hm, rfl⟩ := List.mem_map.mp hc
    have f := csAt_facts (hn n hm).1 (hn n hm).2
    exact ⟨f.2.1, f.2.2.2.2.1, f.2.2.2.1⟩
theorem adL_ok {h : List Nat} {ns : List Int} (hh : HumOk h) (hn : ∀ n ∈ ns, 0 ≤ n ∧ n < 32) (n6 : 6 ≤ ns.length) (n7 : ns.length ≤ 150) : AddrOk (mkS (adL h ns)) (mkS h) ⟨(ns.map csAt).toArray⟩ ns := by
  have hl := adL_len h ns
  refine ⟨?_, ?_, ?_, rfl, hn, ?_, by rw [mk_len]; exact hh.l1, by rw [mk_len]; have := hh.l2; omega, by rw [mk_len, mk_len, hl], n6, n7⟩
  · rw [mk_len]
    exact rfind_one fun c hc => by
      obtain ⟨n, hm, rfl⟩ := List.mem_map.mp hc
      exact (csAt_facts (hn n hm).1 (hn n hm).2).2.2.1
  · rw [mk_len, show ((h.length : Int) + 1) = ((h.length + 1 : Nat) : Int) by omega, slice_from (by omega)]
    unfold adL
    rw [List.drop_left' (by simp)]
  · rw [mk_len, slice_to (by omega)]
    unfold adL
    rw [List.append_assoc, List.take_left' rfl]
  · rw [Array.all_eq_true_iff_forall_mem]
    intro c hc
    have := hh.low c (by simpa using hc)
    exact decide_eq_true (by have := this.2.1; omega)

end Mine
end
section -- Q9
open PySem PySem.W PySem.Calls PyProof.Rows
set_option maxRecDepth 100000
set_option maxHeartbeats 4000000
namespace Mine
-- --plain
theorem islow : ∀ c : Fin 128, Txt.islower ⟨#[c.val]⟩ = decide (97 ≤ c.val ∧ c.val ≤ 122) := by decide +kernel
structure HumP (h st : List Nat) : Prop where
  ok : HumOk h
  sok : HumOk st
  slen : st.length = h.length
  strange : strOf (mkS h) = mkS st
  ne : rN 1 (toN (hx (mkS h))) ≠ rN 1 (toN (hx (mkS st)))
  two : ∃ i j, ∃ (hi : i < h.length) (hj : j < h.length), i ≠ j ∧ (97 ≤ h[i] ∧ h[i] ≤ 122) ∧ (97 ≤ h[j] ∧ h[j] ≤ 122)
theorem hum_all (n : Int) : ∃ h st, Str.ofString (humOf n) = mkS h ∧ HumP h st := by
  unfold humOf
  split
  · refine ⟨[114, 108, 112], [114, 108, 113], by decide, ⟨?_, by decide, by decide⟩, ⟨?_, by decide, by decide⟩, rfl, by decide +kernel, by decide +kernel, 0, 1, by decide, by decide, by decide, by decide, by decide⟩
    all_goals (unfold lowC; decide)
  · split
    · refine ⟨[116, 114, 101, 101], [116, 114, 101, 102], by decide, ⟨?_, by decide, by decide⟩, ⟨?_, by decide, by decide⟩, rfl, by decide +kernel, by decide +kernel, 0, 1, by decide, by decide, by decide, by decide, by decide⟩
      all_goals (unfold lowC; decide)
    · refine ⟨[97, 49, 98], [97, 49, 99], by decide, ⟨?_, by decide, by decide⟩, ⟨?_, by decide, by decide⟩, rfl, by decide +kernel, by decide +kernel, 0, 2, by decide, by decide, by decide, by decide, by decide⟩
      all_goals (unfold lowC; decide)
theorem addr_mk (h : List Nat) (g : List Int) : addrOf (mkS h) g = mkS (adL h (tailOf (mkS h) g)) := by
  unfold addrOf adL
  rw [show PySem.Str.ofString "1" = mkS [49] by decide]
  show (⟨h.toArray ++ [49].toArray ++ ((tailOf (mkS h) g).map csAt).toArray⟩ : Str) = _
  simp [mkS]
theorem encI_rng (t : RT) : ∀ v ∈ encI t, 0 ≤ v ∧ v < 256 := fun v hv => by
  obtain ⟨c, _, rfl⟩ := List.mem_map.mp hv
  exact ⟨Int.natCast_nonneg _, by have := c.toNat_lt; omega⟩
theorem encI_len (t : RT) : (encI t).length = t.enc.length := List.length_map ..
theorem tail_len (h : Str) (g : List Int) : (tailOf h g).length = g.length + 6 := by unfold tailOf; simp
theorem hum_asc {h : List Nat} (hh : HumOk h) : (mkS h).cps.all (· < 128) = true := by
  rw [Array.all_eq_true_iff_forall_mem]
  intro c hc
  have := hh.low c (by simpa using hc)
  exact decide_eq_true (by have := this.2.1; omega)
theorem both_ok {h st : List Nat} (H : HumP h st) {t : RT} (hok : t.ok) (hlen : t.enc.length ≤ 73) : BothP (mkS h) t (signsOf (encI t)) := by
  obtain ⟨hr, pad, p0, p1, hl, _⟩ := signs_ok (encI t) (encI_rng t)
  rw [encI_len] at hl
  obtain ⟨b1, b2, b3⟩ := bits_back (encI t) (encI_rng t)
  have ht : ∀ n ∈ tailOf (mkS h) (signsOf (encI t)), 0 ≤ n ∧ n < 32 := tailOf_range hr
  have htl := tail_len (mkS h) (signsOf (encI t))
  have hs : ∀ c ∈ adL h (tailOf (mkS h) (signsOf (encI t))), lowC c := adL_low H.ok ht
  have hsl : (adL h (tailOf (mkS h) (signsOf (encI t)))).length ≤ 200 := by rw [adL_len, htl]; have := H.ok.l2; omega
  refine ⟨rfl, hok, by omega, hr, by omega, ⟨b1, b2⟩, b3, ?_, ?_, ?_, ck_one (hum_asc H.ok) hr, ?_⟩
  · rw [addr_mk]; exact adL_ok H.ok ht (by omega) (by omega)
  · rw [addr_mk]; exact txt_small hs hsl
  · rw [addr_mk]; exact (txt_great hs hsl).2.1
  · rw [htl]; unfold tailOf; rw [List.take_left' (by omega)]
/-- a sign behind the turns -/
def tvI (kvs : List (Int × Value)) (k : Nat) (x : Int) : Int := match PySem.valueAt kvs (k : Int) with
  | some (.int e _) => (x + e).fmod 32
  | _ => x
theorem bang {l : List Nat} {k : Nat} (h : k < l.length) : (mkS l).cps[k]! = l[k] := by
  show l.toArray[k]! = _
  rw [getElem!_pos l.toArray k (by simpa using h)]; simp
theorem adL_pre {h : List Nat} {ns : List Int} {k : Nat} (hk : k < (adL h ns).length) (hp : k < h.length + 1) : (adL h ns)[k] = (h ++ [49])[k]'(by simp; omega) :=
  List.getElem_append_left (as := h ++ [49]) (bs := ns.map csAt) (by simp; omega)
theorem adL_suf {h : List Nat} {ns : List Int} {j : Nat} (hj : j < ns.length) (hk : h.length + 1 + j < (adL h ns).length) : (adL h ns)[h.length + 1 + j] = csAt ns[j] := by
  have e := List.getElem_append_right (as := h ++ [49]) (bs := ns.map csAt) (i := h.length + 1 + j) (h₁ := by simp) (h₂ := hk)
  refine e.trans ?_
  simp
theorem turn_eq {h : List Nat} {ns : List Int} {kvs : List (Int × Value)} {n : Nat} (hn : ∀ n ∈ ns, 0 ≤ n ∧ n < 32) (hok : TurnsOk (h.length + 1) (adL h ns).length n kvs) :
    turnT kvs (mkS (adL h ns)) = mkS (adL h (ns.mapIdx fun j x => tvI kvs (h.length + 1 + j) x)) := by
  have hl := adL_len h ns
  unfold turnT
  refine congrArg mkS (List.ext_getElem ?_ fun k h1 h2 => ?_)
  · rw [List.length_map, List.length_range, adL_len, List.length_mapIdx, ← hl]; simp
  · have hk : k < (adL h ns).length := by simpa using h1
    rw [List.getElem_map, List.getElem_range]
    unfold turnC
    rw [bang hk]
    by_cases hp : k < h.length + 1
    · have hv : PySem.valueAt kvs (k : Int) = none := by
        cases e : PySem.valueAt kvs (k : Int) with
        | none => rfl
        | some v =>
          obtain ⟨_, _, _, _, _, q, _⟩ := hok.2.2 _ (valueAt_mem e)
          dsimp only at q; omega
      rw [hv]
      dsimp only
      rw [adL_pre hk hp, adL_pre h2 hp]
    · obtain ⟨j, rfl⟩ : ∃ j, k = h.length + 1 + j := ⟨k - (h.length + 1), by omega⟩
      have hj : j < ns.length := by omega
      rw [adL_suf hj hk, adL_suf (by rw [List.length_mapIdx]; exact hj) h2, List.getElem_mapIdx]
      have f := (csAt_facts (hn _ (List.getElem_mem hj)).1 (hn _ (List.getElem_mem hj)).2).2.2.2.2.2.1
      rw [f]
      unfold tvI
      generalize PySem.valueAt kvs ((h.length + 1 + j : Nat) : Int) = o
      cases o with
      | none => rfl
      | some v => cases v <;> rfl
theorem ask_ok {h st : List Nat} (H : HumP h st) {ns : List Int} (hn : ∀ n ∈ ns, 0 ≤ n ∧ n < 32) (n6 : 6 ≤ ns.length) (n7 : ns.length ≤ 120) (hck : pmI (hx (mkS h) ++ ns) = 1) : AskP (mkS h) (mkS (adL h ns)) := by
  have hl := adL_len h ns
  have hhl := H.ok.l2
  have hs : ∀ c ∈ adL h ns, lowC c := adL_low H.ok hn
  have hsl : (adL h ns).length ≤ 200 := by omega
  have g := txt_great hs hsl
  have asc : (mkS (adL h ns)).cps.all (· < 128) = true := by
    rw [Array.all_eq_true_iff_forall_mem]
    intro c hc
    have := hs c (by simpa using hc)
    exact decide_eq_true (by have := this.2.1; omega)
  have low_iff : ∀ j (hj : j < (adL h ns).length), lowAt (mkS (adL h ns)) j = decide (97 ≤ (adL h ns)[j] ∧ (adL h ns)[j] ≤ 122) := fun j hj => by
    unfold lowAt
    rw [item_meets (n := (adL h ns)[j]) (Int.natCast_nonneg _) (by simp [hj])]
    exact islow ⟨(adL h ns)[j], by have := (hs _ (List.getElem_mem hj)).2.1; omega⟩
  obtain ⟨i1, i2, hi1, hi2, hne, l1, l2⟩ := H.two
  have g1 : ∀ i (hi : i < h.length), (adL h ns)[i]'(by omega) = h[i] := fun i hi => by
    rw [adL_pre _ (by omega), List.getElem_append_left hi]
  refine ⟨g.1, g.2.2, asc, ?_, ?_, ?_, ?_, ?_, ?_⟩
  · intro k hk1 hk2
    rw [mk_len] at hk1 hk2
    rw [bang hk2]
    obtain ⟨j, rfl⟩ : ∃ j, k = h.length + 1 + j := ⟨k - (h.length + 1), by omega⟩
    have hj : j < ns.length := by omega
    rw [adL_suf hj hk2, (csAt_facts (hn _ (List.getElem_mem hj)).1 (hn _ (List.getElem_mem hj)).2).2.2.2.2.2.1]
    exact (hn _ (List.getElem_mem hj)).1
  · intro kvs n h1 h3 hok
    rw [mk_len, mk_len] at hok
    have hr : ∀ x ∈ (ns.mapIdx fun j x => tvI kvs (h.length + 1 + j) x), 0 ≤ x ∧ x < 32 := fun x hx => by
      obtain ⟨j, hj, rfl⟩ := List.mem_mapIdx.mp hx
      unfold tvI
      split
      · exact fmod_range (by decide)
      · exact hn _ (List.getElem_mem hj)
    rw [turn_eq hn hok]
    have hll := adL_len h (ns.mapIdx fun j x => tvI kvs (h.length + 1 + j) x)
    rw [List.length_mapIdx] at hll
    refine ⟨_, _, adL_ok H.ok hr (by rw [List.length_mapIdx]; exact n6) (by rw [List.length_mapIdx]; omega), txt_small (adL_low H.ok hr) (by omega), ?_⟩
    refine ck_turned (hum_asc H.ok) hn hr (List.length_mapIdx ..).symm n7 hck (kvs.map fun p : Int × Value => (p.1 - ((h.length : Int) + 1)).toNat) (by rw [List.length_map]; exact Nat.le_trans hok.1 h3) (fun j hj hj' hd => ?_) ?_
    · rw [List.getElem_mapIdx] at hd
      cases e : PySem.valueAt kvs ((h.length + 1 + j : Nat) : Int) with
      | none => exact absurd (by unfold tvI; rw [e]) hd
      | some v =>
        refine List.mem_map.mpr ⟨_, valueAt_mem e, ?_⟩
        show (((h.length + 1 + j : Nat) : Int) - (h.length + 1)).toNat = j
        omega
    · have hpos := hok.2.1 (by omega)
      obtain ⟨p, r, rfl⟩ := List.exists_cons_of_length_pos hpos
      obtain ⟨e0, t0, _, _, _, k1, k2⟩ := hok.2.2 p (.head _)
      rw [hl] at k2
      obtain ⟨j, hj⟩ : ∃ j : Nat, p.1 = ((h.length + 1 + j : Nat) : Int) := ⟨(p.1 - (h.length + 1)).toNat, by omega⟩
      have hjl : j < ns.length := by omega
      refine ⟨j, hjl, by rw [List.length_mapIdx]; exact hjl, ?_⟩
      rw [List.getElem_mapIdx]
      have hv : PySem.valueAt (p :: r) ((h.length + 1 + j : Nat) : Int) = some p.2 := by
        unfold PySem.valueAt
        rw [List.find?_cons_of_pos (by simpa using hj)]; rfl
      obtain ⟨e, t, ev, ee1, ee2, _, _⟩ := hok.2.2 p (.head _)
      have hb := hn _ (List.getElem_mem hjl)
      unfold tvI
      rw [hv, ev]
      dsimp only
      rw [Int.fmod_eq_emod_of_nonneg _ (by decide)]
      omega
  · refine List.length_pos_of_mem (a := (i1 : Int)) ?_
    unfold lowL
    refine List.mem_map.mpr ⟨i1, List.mem_filter.mpr ⟨List.mem_range.mpr (by rw [mk_len]; omega), ?_⟩, rfl⟩
    rw [low_iff i1 (by omega)]
    exact decide_eq_true (by rw [g1 i1 hi1]; exact l1)
  · unfold lowL
    rw [List.length_map]
    refine Nat.le_trans (List.length_filter_le _ _) ?_
    rw [List.length_range, mk_len]; exact hsl
  · intro k hk
    unfold lowL at hk ⊢
    rw [List.length_map] at hk
    have hm := List.getElem_mem hk
    obtain ⟨m1, m2⟩ := List.mem_filter.mp hm
    have hj : ((List.range (mkS (adL h ns)).length).filter (lowAt (mkS (adL h ns))))[k] < (adL h ns).length := Nat.lt_of_lt_of_eq (List.mem_range.mp m1) (mk_len _)
    refine ⟨((List.range (mkS (adL h ns)).length).filter (lowAt (mkS (adL h ns))))[k], ?_, List.mem_range.mp m1, ?_⟩
    · rw [List.getD_eq_getElem?_getD, List.getElem?_eq_getElem (by rw [List.length_map]; exact hk), List.getElem_map]; rfl
    · generalize ((List.range (mkS (adL h ns)).length).filter (lowAt (mkS (adL h ns))))[k] = j at m2 hj
      rw [low_iff j hj] at m2
      have lj := of_decide_eq_true m2
      by_cases hji : i1 = j
      · exact txt_mixed hs hsl hj (i := i2) (by omega) (by omega) lj (by rw [g1 i2 hi2]; exact l2)
      · exact txt_mixed hs hsl hj (i := i1) (by omega) hji lj (by rw [g1 i1 hi1]; exact l1)
  · have e : strOf (mkS h) ++ Txt.slice (mkS (adL h ns)) (some ((mkS h).length : Int)) none = mkS (adL st ns) := by
      rw [H.strange, mk_len, slice_from (by omega)]
      unfold adL
      rw [List.append_assoc, List.drop_left' rfl]
      show (⟨st.toArray ++ ([49] ++ ns.map csAt).toArray⟩ : Str) = _
      simp [mkS]
    have hstl := adL_len st ns
    have := H.slen
    rw [e, H.strange]
    exact ⟨by rw [mk_len]; omega, _, ns, adL_ok H.sok hn n6 (by omega), txt_small (adL_low H.sok hn) (by omega), ck_strange (hum_asc H.ok) (hum_asc H.sok) hn hck H.ne⟩
theorem lawP_all (ns : List Int) : LawP ns := by
  obtain ⟨h, st, e, H⟩ := hum_all ((picksOf ns).getD 0 0)
  have S := tree_small (drawsOf ns)
  generalize ht : (growT 2 (drawsOf ns)).1 = t at S
  have N := tree_node_ok S
  have B := both_ok H S.ok (Nat.le_trans S.len (by decide))
  have M := both_ok H N.1 N.2
  have hlen := S.len
  have h71 : capB 2 = 71 := by decide
  obtain ⟨hr, pad, p0, p1, hl, _⟩ := signs_ok (encI t) (encI_rng t)
  rw [encI_len] at hl
  have htl := tail_len (mkS h) (signsOf (encI t))
  refine ⟨?_, ?_, ?_, ?_, ?_⟩
  · rw [e, ht]; exact B
  · rw [e, ht]; exact M
  · rw [ht]; exact S.deep
  · rw [e, ht, addr_mk]
    exact ask_ok H (tailOf_range hr) (by omega) (by omega) B.ck
  · rw [e, ht]
    rw [addr_mk, addr_mk]
    refine beq_eq_false_iff_ne.mpr fun q => ?_
    have q := congrArg List.length (mk_inj q)
    rw [adL_len, adL_len, tail_len, tail_len] at q
    obtain ⟨_, pad2, q0, q1, hl2, _⟩ := signs_ok (encI (.node (.cons t .nil))) (encI_rng _)
    rw [encI_len] at hl2
    have := node_len (t := t)
    omega

end Mine
end
section -- W52
open PySem PySem.W PySem.Calls PyProof.Rows
set_option maxRecDepth 100000
set_option maxHeartbeats 4000000
namespace Mine
-- --plain
theorem law_holds : PySem.Challenge.rw_vn0025_01.Holds := head_ok (walk_ok fun ns _ => lawP_all ns)

end Mine
end
theorem PySem.Challenge.cw_vn0025_01_holds : PySem.Challenge.rw_vn0025_01.Holds := by
  exact Mine.law_holds
