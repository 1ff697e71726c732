import PyProof.Rows.All
import Wide.All
import OpenK.AllK
import Wide.FinOn
import PySem.Challenge.RW_op0302_01
open PySem PySem.W PySem.W.X PySem.Calls PyProof.Rows
set_option Elab.async false
set_option maxRecDepth 100000
set_option maxHeartbeats 4000000
set_option linter.unusedVariables false
namespace Mine
/-! ## The top, run once over a tree of objects -/
noncomputable def q : Program := view PySem.Challenge.pw_op0302_01 [0, 1, 2, 3, 5, 6, 7, 8, 9, 10, 11, 12, 14, 15, 16, 17, 19, 20, 22, 23, 24, 25, 26, 28, 29, 30]
noncomputable def loose : List Str := [Str.ofString "_twin_re_1", Str.ofString "UnsupportedOperation", Str.ofString "IOBase", Str.ofString "BufferedIOBase", Str.ofString "TextIOBase", Str.ofString "BytesIO", Str.ofString "StringIO", Str.ofString "join_path", Str.ofString "shlex", Str.ofString "join_shlex", Str.ofString "_find_unsafe"]
noncomputable def topBody (p : Program) : List Stmt := behindTheImports p
noncomputable def topEnv (p : Program) : Env := { scope := p.main.scope, locals := mainNs, globals := mainNs, cells := [], code := .ref 36, frame := some 37 }
noncomputable def topCode (p : Program) : Code := .body (topBody p) (topEnv p)
noncomputable def pos0 : Pos := ⟨0, 0, 0, 0⟩
noncomputable def pos1 : Pos := ⟨750, 0, 761, 80⟩
noncomputable def ann : Option Value := some (.ref 6)
/-- every second item: those at 0, 2, 4 .. and those at 1, 3, 5 .. -/
noncomputable def alt {α : Type} : List α → List α × List α
  | [] => ([], [])
  | x :: xs => (x :: (alt xs).2, (alt xs).1)
noncomputable def ofL : Nat → List Obj → BT
  | 0, _ => .nil
  | _ + 1, [] => .nil
  | n + 1, x :: xs => .node x (ofL n (alt xs).1) (ofL n (alt xs).2)
theorem alt_get {α : Type} : ∀ (xs : List α) (k : Nat), (alt xs).1[k]? = xs[2 * k]? ∧ (alt xs).2[k]? = xs[2 * k + 1]?
  | [], k => by simp [alt]
  | x :: xs, 0 => ⟨by simp [alt], by simpa [alt] using (alt_get xs 0).1⟩
  | x :: xs, k + 1 => by
    refine ⟨?_, ?_⟩
    · have := (alt_get xs k).2
      simp only [alt, List.getElem?_cons_succ]
      rw [this, show 2 * (k + 1) = (2 * k + 1) + 1 by omega, List.getElem?_cons_succ]
    · have := (alt_get xs (k + 1)).1
      simp only [alt]
      rw [this, List.getElem?_cons_succ]
theorem alt_len {α : Type} : ∀ xs : List α, (alt xs).1.length ≤ xs.length ∧ (alt xs).2.length ≤ xs.length
  | [] => ⟨Nat.le_refl _, Nat.le_refl _⟩
  | x :: xs => by have := alt_len xs; simp only [alt, List.length_cons]; omega
theorem ofL_get : ∀ (n : Nat) (l : List Obj), l.length ≤ n → ∀ i, (ofL n l).get i = l[i]?
  | 0, l, h, i => by
    obtain rfl : l = [] := List.length_eq_zero_iff.mp (Nat.le_zero.mp h)
    simp [ofL, BT.get]
  | n + 1, [], _, i => by simp [ofL, BT.get]
  | n + 1, x :: xs, h, i => by
    have hl : xs.length ≤ n := by simpa using h
    have h1 := Nat.le_trans (alt_len xs).1 hl
    have h2 := Nat.le_trans (alt_len xs).2 hl
    rw [ofL, BT.get_node]
    by_cases h0 : i = 0
    · simp [h0]
    · rw [if_neg h0]
      obtain ⟨j, rfl⟩ : ∃ j, i = j + 1 := ⟨i - 1, by omega⟩
      rw [List.getElem?_cons_succ]
      by_cases p : (j + 1) % 2 = 1
      · rw [if_pos p, ofL_get n _ h1, (alt_get xs _).1]; congr 1; omega
      · rw [if_neg p, ofL_get n _ h2, (alt_get xs _).2]; congr 1; omega
noncomputable def toT (s : Shared) : SharedT := ⟨ofL s.heap.objs.toList.length s.heap.objs.toList, s.heap.objs.toList.length, s.heap.life, s.gens, s.drawn, s.toks, s.os⟩
theorem toT_abs (s : Shared) : (toT s).abs = s := by
  obtain ⟨⟨⟨l⟩, life⟩, g, d, t, os⟩ := s
  show Shared.mk (absHeap (ofL l.length l) l.length life) g d t os = _
  have : (ofL l.length l).list l.length = l := by
    unfold BT.list
    apply List.ext_getElem?
    intro i
    by_cases h : i < l.length
    · rw [List.getElem?_map, List.getElem?_range h, List.getElem?_eq_getElem h]
      simp only [Option.map_some, ofL_get _ _ (Nat.le_refl _), List.getElem?_eq_getElem h, Option.getD_some]
    · rw [List.getElem?_eq_none (by simp; omega), List.getElem?_eq_none (by omega)]
  unfold absHeap
  rw [this]
/-! ## The objects of the top that the call reads -/
noncomputable def hs (P : Params) (s : Str) : Int := if s.cps.isEmpty then 0 else reduceHash (P.strHash s.cps)
noncomputable def en (P : Params) (k : Str) (t : Nat) (v : Value) : DictEntry := ⟨hs P k, .str k t, v⟩
noncomputable def st (i : Nat) : Stmt := PySem.Challenge.pw_op0302_01.main.body.getD i (.Pass pos0)
noncomputable def me (i k : Nat) : Stmt := match st i with
  | .ClassDef _ _ _ b _ _ _ _ _ _ _ => b.getD k (.Pass pos0)
  | _ => .Pass pos0
/-! ## The defs' texts, each by itself -/
structure Sx (i k : Nat) where
  s : Stmt
  h : me i k = s
structure Sy (i : Nat) where
  s : Stmt
  h : st i = s
noncomputable def x6 : Sy 6 := by with_unfolding_all exact Sy.mk (.FunctionDef _ _ _ _ _ _ _ _ _ _) (Eq.refl (Stmt.FunctionDef _ _ _ _ _ _ _ _ _ _))
noncomputable def x8_1 : Sx 8 1 := by with_unfolding_all exact Sx.mk (.FunctionDef _ _ _ _ _ _ _ _ _ _) (Eq.refl (Stmt.FunctionDef _ _ _ _ _ _ _ _ _ _))
noncomputable def x12_1 : Sx 12 1 := by with_unfolding_all exact Sx.mk (.FunctionDef _ _ _ _ _ _ _ _ _ _) (Eq.refl (Stmt.FunctionDef _ _ _ _ _ _ _ _ _ _))
noncomputable def x12_2 : Sx 12 2 := by with_unfolding_all exact Sx.mk (.FunctionDef _ _ _ _ _ _ _ _ _ _) (Eq.refl (Stmt.FunctionDef _ _ _ _ _ _ _ _ _ _))
noncomputable def x12_3 : Sx 12 3 := by with_unfolding_all exact Sx.mk (.FunctionDef _ _ _ _ _ _ _ _ _ _) (Eq.refl (Stmt.FunctionDef _ _ _ _ _ _ _ _ _ _))
noncomputable def x12_25 : Sx 12 25 := by with_unfolding_all exact Sx.mk (.FunctionDef _ _ _ _ _ _ _ _ _ _) (Eq.refl (Stmt.FunctionDef _ _ _ _ _ _ _ _ _ _))
noncomputable def x22_0 : Sx 22 0 := by with_unfolding_all exact Sx.mk (.FunctionDef _ _ _ _ _ _ _ _ _ _) (Eq.refl (Stmt.FunctionDef _ _ _ _ _ _ _ _ _ _))
noncomputable def x22_1 : Sx 22 1 := by with_unfolding_all exact Sx.mk (.FunctionDef _ _ _ _ _ _ _ _ _ _) (Eq.refl (Stmt.FunctionDef _ _ _ _ _ _ _ _ _ _))
noncomputable def x22_2 : Sx 22 2 := by with_unfolding_all exact Sx.mk (.FunctionDef _ _ _ _ _ _ _ _ _ _) (Eq.refl (Stmt.FunctionDef _ _ _ _ _ _ _ _ _ _))
noncomputable def x22_5 : Sx 22 5 := by with_unfolding_all exact Sx.mk (.FunctionDef _ _ _ _ _ _ _ _ _ _) (Eq.refl (Stmt.FunctionDef _ _ _ _ _ _ _ _ _ _))
noncomputable def x22_6 : Sx 22 6 := by with_unfolding_all exact Sx.mk (.FunctionDef _ _ _ _ _ _ _ _ _ _) (Eq.refl (Stmt.FunctionDef _ _ _ _ _ _ _ _ _ _))
noncomputable def x22_9 : Sx 22 9 := by with_unfolding_all exact Sx.mk (.FunctionDef _ _ _ _ _ _ _ _ _ _) (Eq.refl (Stmt.FunctionDef _ _ _ _ _ _ _ _ _ _))
noncomputable def x22_10 : Sx 22 10 := by with_unfolding_all exact Sx.mk (.FunctionDef _ _ _ _ _ _ _ _ _ _) (Eq.refl (Stmt.FunctionDef _ _ _ _ _ _ _ _ _ _))
noncomputable def x23 : Sy 23 := by with_unfolding_all exact Sy.mk (.FunctionDef _ _ _ _ _ _ _ _ _ _) (Eq.refl (Stmt.FunctionDef _ _ _ _ _ _ _ _ _ _))
noncomputable def x26 : Sy 26 := by with_unfolding_all exact Sy.mk (.FunctionDef _ _ _ _ _ _ _ _ _ _) (Eq.refl (Stmt.FunctionDef _ _ _ _ _ _ _ _ _ _))
noncomputable def x28 : Sy 28 := by with_unfolding_all exact Sy.mk (.FunctionDef _ _ _ _ _ _ _ _ _ _) (Eq.refl (Stmt.FunctionDef _ _ _ _ _ _ _ _ _ _))
noncomputable def x29 : Sy 29 := by with_unfolding_all exact Sy.mk (.FunctionDef _ _ _ _ _ _ _ _ _ _) (Eq.refl (Stmt.FunctionDef _ _ _ _ _ _ _ _ _ _))
noncomputable def x30 : Sy 30 := by with_unfolding_all exact Sy.mk (.FunctionDef _ _ _ _ _ _ _ _ _ _) (Eq.refl (Stmt.FunctionDef _ _ _ _ _ _ _ _ _ _))
noncomputable def fnObj (s : Stmt) (name qual : Str) (dflt code mod : Value) : Obj := match s with
  | .FunctionDef _ a b _ _ _ sc _ _ _ => { cls := .type "function", data := .func { name := name, qualname := qual, params := a, body := .stmts b, scope := sc, globals := 3, closure := [], defaults := dflt, kwdefaults := .none, pyModule := mod, code := code, builtins := 0 } }
  | _ => default
noncomputable def k0l0 (P : Params) (tl : List DictEntry) : List DictEntry := en P (Str.ofString "__name__") 1 (.str (Str.ofString "builtins") 160) :: en P (Str.ofString "__doc__") 2 (.builtin "builtins.__doc__:str#opaque") :: en P (Str.ofString "__package__") 3 (.builtin "builtins.__package__:str#opaque") :: en P (Str.ofString "__loader__") 4 (.builtin "builtins.__loader__:shared#opaque") :: en P (Str.ofString "__spec__") 5 (.builtin "builtins.__spec__#opaque") :: en P (Str.ofString "__build_class__") 6 (.builtin "__build_class__") :: en P (Str.ofString "__import__") 7 (.builtin "__import__") :: en P (Str.ofString "abs") 8 (.builtin "abs") :: en P (Str.ofString "all") 9 (.builtin "all") :: en P (Str.ofString "any") 10 (.builtin "any") :: en P (Str.ofString "ascii") 11 (.builtin "ascii") :: en P (Str.ofString "bin") 12 (.builtin "bin") :: en P (Str.ofString "breakpoint") 13 (.builtin "breakpoint") :: en P (Str.ofString "callable") 14 (.builtin "callable") :: en P (Str.ofString "chr") 15 (.builtin "chr") :: en P (Str.ofString "compile") 16 (.builtin "compile") :: tl
noncomputable def k0l1 (P : Params) (tl : List DictEntry) : List DictEntry := en P (Str.ofString "delattr") 17 (.builtin "delattr") :: en P (Str.ofString "dir") 18 (.builtin "dir") :: en P (Str.ofString "divmod") 19 (.builtin "divmod") :: en P (Str.ofString "eval") 20 (.builtin "eval") :: en P (Str.ofString "exec") 21 (.builtin "exec") :: en P (Str.ofString "format") 22 (.builtin "format") :: en P (Str.ofString "getattr") 23 (.builtin "getattr") :: en P (Str.ofString "globals") 24 (.builtin "globals") :: en P (Str.ofString "hasattr") 25 (.builtin "hasattr") :: en P (Str.ofString "hash") 26 (.builtin "hash") :: en P (Str.ofString "hex") 27 (.builtin "hex") :: en P (Str.ofString "id") 28 (.builtin "id") :: en P (Str.ofString "input") 29 (.builtin "input") :: en P (Str.ofString "isinstance") 30 (.builtin "isinstance") :: en P (Str.ofString "issubclass") 31 (.builtin "issubclass") :: en P (Str.ofString "iter") 32 (.builtin "iter") :: tl
noncomputable def k0l2 (P : Params) (tl : List DictEntry) : List DictEntry := en P (Str.ofString "aiter") 33 (.builtin "aiter") :: en P (Str.ofString "len") 34 (.builtin "len") :: en P (Str.ofString "locals") 35 (.builtin "locals") :: en P (Str.ofString "max") 36 (.builtin "max") :: en P (Str.ofString "min") 37 (.builtin "min") :: en P (Str.ofString "next") 38 (.builtin "next") :: en P (Str.ofString "anext") 39 (.builtin "anext") :: en P (Str.ofString "oct") 40 (.builtin "oct") :: en P (Str.ofString "ord") 41 (.builtin "ord") :: en P (Str.ofString "pow") 42 (.builtin "pow") :: en P (Str.ofString "print") 43 (.builtin "print") :: en P (Str.ofString "repr") 44 (.builtin "repr") :: en P (Str.ofString "round") 45 (.builtin "round") :: en P (Str.ofString "setattr") 46 (.builtin "setattr") :: en P (Str.ofString "sorted") 47 (.builtin "sorted") :: en P (Str.ofString "sum") 48 (.builtin "sum") :: tl
noncomputable def k0l3 (P : Params) (tl : List DictEntry) : List DictEntry := en P (Str.ofString "vars") 49 (.builtin "vars") :: en P (Str.ofString "None") 50 .none :: en P (Str.ofString "Ellipsis") 51 .ellipsis :: en P (Str.ofString "NotImplemented") 52 .notImplemented :: en P (Str.ofString "False") 53 (.bool false) :: en P (Str.ofString "True") 54 (.bool true) :: en P (Str.ofString "bool") 55 (.type "bool") :: en P (Str.ofString "memoryview") 56 (.type "memoryview") :: en P (Str.ofString "bytearray") 57 (.type "bytearray") :: en P (Str.ofString "bytes") 58 (.type "bytes") :: en P (Str.ofString "classmethod") 59 (.type "classmethod") :: en P (Str.ofString "complex") 60 (.type "complex") :: en P (Str.ofString "dict") 61 (.type "dict") :: en P (Str.ofString "enumerate") 62 (.type "enumerate") :: en P (Str.ofString "filter") 63 (.type "filter") :: en P (Str.ofString "float") 64 (.type "float") :: tl
noncomputable def k0l4 (P : Params) (tl : List DictEntry) : List DictEntry := en P (Str.ofString "frozenset") 65 (.type "frozenset") :: en P (Str.ofString "property") 66 (.type "property") :: en P (Str.ofString "int") 67 (.type "int") :: en P (Str.ofString "list") 68 (.type "list") :: en P (Str.ofString "map") 69 (.type "map") :: en P (Str.ofString "object") 70 (.type "object") :: en P (Str.ofString "range") 71 (.type "range") :: en P (Str.ofString "reversed") 72 (.type "reversed") :: en P (Str.ofString "set") 73 (.type "set") :: en P (Str.ofString "slice") 74 (.type "slice") :: en P (Str.ofString "staticmethod") 75 (.type "staticmethod") :: en P (Str.ofString "str") 76 (.type "str") :: en P (Str.ofString "super") 77 (.type "super") :: en P (Str.ofString "tuple") 78 (.type "tuple") :: en P (Str.ofString "type") 79 (.type "type") :: en P (Str.ofString "zip") 80 (.type "zip") :: tl
noncomputable def k0l5 (P : Params) (tl : List DictEntry) : List DictEntry := en P (Str.ofString "__debug__") 81 (.bool true) :: en P (Str.ofString "BaseException") 82 (.type "BaseException") :: en P (Str.ofString "BaseExceptionGroup") 83 (.type "BaseExceptionGroup") :: en P (Str.ofString "Exception") 84 (.type "Exception") :: en P (Str.ofString "GeneratorExit") 85 (.type "GeneratorExit") :: en P (Str.ofString "KeyboardInterrupt") 86 (.type "KeyboardInterrupt") :: en P (Str.ofString "SystemExit") 87 (.type "SystemExit") :: en P (Str.ofString "ArithmeticError") 88 (.type "ArithmeticError") :: en P (Str.ofString "AssertionError") 89 (.type "AssertionError") :: en P (Str.ofString "AttributeError") 90 (.type "AttributeError") :: en P (Str.ofString "BufferError") 91 (.type "BufferError") :: en P (Str.ofString "EOFError") 92 (.type "EOFError") :: en P (Str.ofString "ImportError") 93 (.type "ImportError") :: en P (Str.ofString "LookupError") 94 (.type "LookupError") :: en P (Str.ofString "MemoryError") 95 (.type "MemoryError") :: en P (Str.ofString "NameError") 96 (.type "NameError") :: tl
noncomputable def k0l6 (P : Params) (tl : List DictEntry) : List DictEntry := en P (Str.ofString "OSError") 97 (.type "OSError") :: en P (Str.ofString "ReferenceError") 98 (.type "ReferenceError") :: en P (Str.ofString "RuntimeError") 99 (.type "RuntimeError") :: en P (Str.ofString "StopAsyncIteration") 100 (.type "StopAsyncIteration") :: en P (Str.ofString "StopIteration") 101 (.type "StopIteration") :: en P (Str.ofString "SyntaxError") 102 (.type "SyntaxError") :: en P (Str.ofString "SystemError") 103 (.type "SystemError") :: en P (Str.ofString "TypeError") 104 (.type "TypeError") :: en P (Str.ofString "ValueError") 105 (.type "ValueError") :: en P (Str.ofString "Warning") 106 (.type "Warning") :: en P (Str.ofString "FloatingPointError") 107 (.type "FloatingPointError") :: en P (Str.ofString "OverflowError") 108 (.type "OverflowError") :: en P (Str.ofString "ZeroDivisionError") 109 (.type "ZeroDivisionError") :: en P (Str.ofString "BytesWarning") 110 (.type "BytesWarning") :: en P (Str.ofString "DeprecationWarning") 111 (.type "DeprecationWarning") :: en P (Str.ofString "EncodingWarning") 112 (.type "EncodingWarning") :: tl
noncomputable def k0l7 (P : Params) (tl : List DictEntry) : List DictEntry := en P (Str.ofString "FutureWarning") 113 (.type "FutureWarning") :: en P (Str.ofString "ImportWarning") 114 (.type "ImportWarning") :: en P (Str.ofString "PendingDeprecationWarning") 115 (.type "PendingDeprecationWarning") :: en P (Str.ofString "ResourceWarning") 116 (.type "ResourceWarning") :: en P (Str.ofString "RuntimeWarning") 117 (.type "RuntimeWarning") :: en P (Str.ofString "SyntaxWarning") 118 (.type "SyntaxWarning") :: en P (Str.ofString "UnicodeWarning") 119 (.type "UnicodeWarning") :: en P (Str.ofString "UserWarning") 120 (.type "UserWarning") :: en P (Str.ofString "BlockingIOError") 121 (.type "BlockingIOError") :: en P (Str.ofString "ChildProcessError") 122 (.type "ChildProcessError") :: en P (Str.ofString "ConnectionError") 123 (.type "ConnectionError") :: en P (Str.ofString "FileExistsError") 124 (.type "FileExistsError") :: en P (Str.ofString "FileNotFoundError") 125 (.type "FileNotFoundError") :: en P (Str.ofString "InterruptedError") 126 (.type "InterruptedError") :: en P (Str.ofString "IsADirectoryError") 127 (.type "IsADirectoryError") :: en P (Str.ofString "NotADirectoryError") 128 (.type "NotADirectoryError") :: tl
noncomputable def k0l8 (P : Params) (tl : List DictEntry) : List DictEntry := en P (Str.ofString "PermissionError") 129 (.type "PermissionError") :: en P (Str.ofString "ProcessLookupError") 130 (.type "ProcessLookupError") :: en P (Str.ofString "TimeoutError") 131 (.type "TimeoutError") :: en P (Str.ofString "IndentationError") 132 (.type "IndentationError") :: en P (Str.ofString "_IncompleteInputError") 133 (.type "_IncompleteInputError") :: en P (Str.ofString "IndexError") 134 (.type "IndexError") :: en P (Str.ofString "KeyError") 135 (.type "KeyError") :: en P (Str.ofString "ModuleNotFoundError") 136 (.type "ModuleNotFoundError") :: en P (Str.ofString "NotImplementedError") 137 (.type "NotImplementedError") :: en P (Str.ofString "PythonFinalizationError") 138 (.type "PythonFinalizationError") :: en P (Str.ofString "RecursionError") 139 (.type "RecursionError") :: en P (Str.ofString "UnboundLocalError") 140 (.type "UnboundLocalError") :: en P (Str.ofString "UnicodeError") 141 (.type "UnicodeError") :: en P (Str.ofString "BrokenPipeError") 142 (.type "BrokenPipeError") :: en P (Str.ofString "ConnectionAbortedError") 143 (.type "ConnectionAbortedError") :: en P (Str.ofString "ConnectionRefusedError") 144 (.type "ConnectionRefusedError") :: tl
noncomputable def k0l9 (P : Params) (tl : List DictEntry) : List DictEntry := en P (Str.ofString "ConnectionResetError") 145 (.type "ConnectionResetError") :: en P (Str.ofString "TabError") 146 (.type "TabError") :: en P (Str.ofString "UnicodeDecodeError") 147 (.type "UnicodeDecodeError") :: en P (Str.ofString "UnicodeEncodeError") 148 (.type "UnicodeEncodeError") :: en P (Str.ofString "UnicodeTranslateError") 149 (.type "UnicodeTranslateError") :: en P (Str.ofString "ExceptionGroup") 150 (.type "ExceptionGroup") :: en P (Str.ofString "EnvironmentError") 151 (.type "OSError") :: en P (Str.ofString "IOError") 152 (.type "OSError") :: en P (Str.ofString "open") 153 (.builtin "open") :: en P (Str.ofString "quit") 154 (.builtin "builtins.quit#opaque") :: en P (Str.ofString "exit") 155 (.builtin "builtins.exit#opaque") :: en P (Str.ofString "copyright") 156 (.builtin "builtins.copyright#opaque") :: en P (Str.ofString "credits") 157 (.builtin "builtins.credits#opaque") :: en P (Str.ofString "license") 158 (.builtin "builtins.license#opaque") :: en P (Str.ofString "help") 159 (.builtin "builtins.help#opaque") :: tl
noncomputable def k0 (P : Params) : Obj := ⟨(.type "dict"), none, (.dict ⟨(k0l0 P (k0l1 P (k0l2 P (k0l3 P (k0l4 P (k0l5 P (k0l6 P (k0l7 P (k0l8 P (k0l9 P []))))))))))⟩ 159), #[]⟩
noncomputable def k2 (P : Params) : Obj := ⟨.none, none, (.dict #[en P (Str.ofString "\x69mport.loaded._sre") 183 (.bool true), en P (Str.ofString "class._frozen_importlib.BuiltinImporter") 185 (.ref 14), en P (Str.ofString "watched.\x69mport") 206 (.ref 18), en P (Str.ofString "class._frozen_importlib.ModuleSpec") 216 (.ref 22), en P (Str.ofString "sys.modules.booked-epoch") 245 (.int (4) 0), en P (Str.ofString "\x69mport.later-laid._sre") 270 (.bool true), en P (Str.ofString "watched.library") 272 (.ref 27), en P (Str.ofString "watched.library-objects") 0 (.str ⟨#[12, 30]⟩ 0), en P (Str.ofString "watched.library-deep._sre") 273 (.str ⟨#[4, 0, 0, 11, 4, 0, 0, 11, 4, 0, 0, 3, 4, 0, 0, 11, 8, 4, 100, 105, 99, 116, 2]⟩ 0), en P (Str.ofString "\x69mport.loaded._collections") 280 (.bool true), en P (Str.ofString "sys.modules.landed._collections") 294 (.bool true), en P (Str.ofString "\x69mport.later-laid._collections") 309 (.bool true), en P (Str.ofString "watched.library-deep._collections") 311 (.str ⟨#[4, 0, 0, 29, 4, 0, 0, 29, 4, 0, 0, 3, 4, 0, 0, 29, 8, 4, 100, 105, 99, 116, 2]⟩ 0), en P (Str.ofString "type.__subclasses__.OSError.0") 407 (.int (73) 0), en P (Str.ofString "type.__subclasses__.OSError.n") 408 (.int (1) 0)] 15), #[]⟩
noncomputable def k3 (P : Params) : Obj := ⟨(.type "dict"), none, (.dict #[en P (Str.ofString "__name__") 165 (.str (Str.ofString "law_op0302_01") 1245), en P (Str.ofString "__doc__") 166 .none, en P (Str.ofString "__package__") 167 .none, en P (Str.ofString "__loader__") 168 (.builtin "__main__.__loader__#opaque"), en P (Str.ofString "__spec__") 169 .none, en P (Str.ofString "__annotations__") 170 (.ref 6), en P (Str.ofString "__builtins__") 171 (.ref 4), en P (Str.ofString "__file__") 173 (.str (Str.ofString "/claim/cut.py") 172), en P (Str.ofString "__cached__") 174 .none, en P (Str.ofString "_sre") 275 (.ref 12), en P (Str.ofString "deque") 317 (.type "collections.deque"), en P (Str.ofString "_wall") 330 (.ref 44), en P (Str.ofString "_twin_re_1") 370 (.ref 49), en P (Str.ofString "_whence") 380 (.ref 56), en P (Str.ofString "_index") 388 (.ref 63), en P (Str.ofString "UnsupportedOperation") 410 (.ref 73), en P (Str.ofString "IOBase") 442 (.ref 93), en P (Str.ofString "BufferedIOBase") 460 (.ref 108), en P (Str.ofString "TextIOBase") 478 (.ref 120), en P (Str.ofString "BytesIO") 740 (.ref 350), en P (Str.ofString "StringIO") 1027 (.ref 597), en P (Str.ofString "_kind") 1038 (.ref 606), en P (Str.ofString "_fspath") 1047 (.ref 613), en P (Str.ofString "_check_arg_types") 1057 (.ref 620), en P (Str.ofString "isabs") 1064 (.ref 627), en P (Str.ofString "join") 1075 (.ref 743), en P (Str.ofString "join_path") 1076 (.ref 634), en P (Str.ofString "dirname") 1086 (.ref 641), en P (Str.ofString "shlex") 1227 (.ref 732), en P (Str.ofString "join_shlex") 1235 (.ref 743), en P (Str.ofString "_find_unsafe") 1237 (.ref 744), en P (Str.ofString "quote") 1244 (.ref 751), en P (Str.ofString "_law_comes") 1255 (.ref 758), en P (Str.ofString "_law_due") 1261 (.ref 763), en P (Str.ofString "law") 1267 (.ref 768)] 35), #[]⟩
noncomputable def k4 (_ : Params) : Obj := ⟨(.type "module"), (some 0), .plain, #[]⟩
noncomputable def k48 (_ : Params) : Obj := ⟨(.type "tuple"), none, (.seq #[(.int (14) 0), (.int (17) 0), (.int (4) 0), (.int (1) 0), (.int (1) 0), (.int (21) 0), (.int (9) 0), (.int (0) 0), (.int (604043296) 0), (.int (1) 0), (.int (0) 0), (.int (0) 0), (.int (0) 0), (.int (0) 0), (.int (0) 0), (.int (8) 0), (.int (4) 0), (.int (0) 0), (.int (13) 0), (.int (14) 0), (.int (21) 0), (.int (9) 0), (.int (0) 0), (.int (604043296) 0), (.int (1) 0), (.int (0) 0), (.int (0) 0), (.int (0) 0), (.int (0) 0), (.int (0) 0), (.int (8) 0), (.int (4) 0), (.int (0) 0), (.int (1) 0)] 0), #[]⟩
noncomputable def k49 (_ : Params) : Obj := ⟨(.type "re.Pattern"), none, (.fields #[(.str ⟨#[91, 94, 92, 119, 64, 37, 43, 61, 58, 44, 46, 47, 45, 93]⟩ 332), (.int (256) 369), (.int (0) 0), .none, .none, (.ref 48), (.int (0) 0)]), #[]⟩
noncomputable def k62 (_ : Params) : Obj := ⟨(.type "code"), none, (.fields #[(.str (Str.ofString "_index") 381), (.str (Str.ofString "_index") 382), (.str (Str.ofString "/claim/cut.py") 383), (.int (13) 0), (.int (2) 0), (.int (0) 0), (.int (0) 0), (.int (3) 0), (.ref 57), (.bool true), (.int (318) 0), (.ref 58), .none, (.ref 59), (.ref 60), (.ref 61), (.int (386) 0), (.int (13) 0), (.str (Str.ofString "/claim/cut.py") 387)]), #[]⟩
noncomputable def k63 (_ : Params) : Obj := fnObj x6.s (Str.ofString "_index") (Str.ofString "_index") .none (.ref 62) (.str (Str.ofString "io") 371)
noncomputable def k89 (_ : Params) : Obj := ⟨(.type "code"), none, (.fields #[(.str (Str.ofString "__new__") 425), (.str (Str.ofString "IOBase.__new__") 426), (.str (Str.ofString "/claim/cut.py") 427), (.int (25) 0), (.int (1) 0), (.int (1) 0), (.int (0) 0), (.int (15) 0), (.ref 84), (.bool true), (.int (318) 0), (.ref 85), .none, (.ref 86), (.ref 87), (.ref 88), (.int (431) 0), (.int (25) 0), (.str (Str.ofString "/claim/cut.py") 432)]), #[]⟩
noncomputable def k90 (_ : Params) : Obj := fnObj x8_1.s (Str.ofString "__new__") (Str.ofString "IOBase.__new__") .none (.ref 89) (.str (Str.ofString "io") 371)
noncomputable def k92 (P : Params) : Obj := ⟨(.type "dict"), none, (.dict #[en P (Str.ofString "__module__") 418 (.str (Str.ofString "io") 423), en P (Str.ofString "__firstlineno__") 422 (.int (22) 421), en P (Str.ofString "__new__") 433 (.ref 94), en P (Str.ofString "__static_attributes__") 434 (.ref 91), en P (Str.ofString "__dict__") 437 (.ref 95), en P (Str.ofString "__weakref__") 439 (.ref 96), en P (Str.ofString "__doc__") 440 .none] 4), #[]⟩
noncomputable def k93 (_ : Params) : Obj := ⟨(.type "type"), none, (.cls { name := (Str.ofString "IOBase"), bases := [(.type "object")], mro := [(.ref 93), (.type "object")], ns := 92, qualname := (Str.ofString "IOBase"), hasDict := true, slotNames := [], subclasses := [(.ref 108), (.ref 120)], abstract := false, collection := none, hasDel := false }), #[none, none, (some (.str (Str.ofString "IOBase") 411)), (some (.str (Str.ofString "IOBase") 419)), (some .none), (some (.bool true))]⟩
noncomputable def k94 (_ : Params) : Obj := ⟨(.type "staticmethod"), none, (.fields #[(.ref 90)]), #[]⟩
noncomputable def k119 (P : Params) : Obj := ⟨(.type "dict"), none, (.dict #[en P (Str.ofString "__module__") 468 (.str (Str.ofString "io") 473), en P (Str.ofString "__firstlineno__") 472 (.int (31) 471), en P (Str.ofString "__static_attributes__") 475 (.ref 118), en P (Str.ofString "__doc__") 476 .none] 2), #[]⟩
noncomputable def k120 (_ : Params) : Obj := ⟨(.type "type"), none, (.cls { name := (Str.ofString "TextIOBase"), bases := [(.ref 93)], mro := [(.ref 120), (.ref 93), (.type "object")], ns := 119, qualname := (Str.ofString "TextIOBase"), hasDict := true, slotNames := [], subclasses := [(.ref 597)], abstract := false, collection := none, hasDel := false }), #[(some (.ref 111)), none, (some (.str (Str.ofString "TextIOBase") 461)), (some (.str (Str.ofString "TextIOBase") 469)), (some .none), (some (.bool true))]⟩
noncomputable def k350 (_ : Params) : Obj := ⟨(.type "type"), none, (.cls { name := (Str.ofString "BytesIO"), bases := [(.ref 108)], mro := [(.ref 350), (.ref 108), (.ref 93), (.type "object")], ns := 349, qualname := (Str.ofString "BytesIO"), hasDict := true, slotNames := [], subclasses := [], abstract := false, collection := none, hasDel := false }), #[(some (.ref 123)), none, (some (.str (Str.ofString "BytesIO") 479)), (some (.str (Str.ofString "BytesIO") 487)), (some .none), (some (.bool true))]⟩
noncomputable def k360 (_ : Params) : Obj := ⟨(.type "tuple"), none, (.seq #[(.str (Str.ofString "") 755), (.str ⟨#[10]⟩ 756)] 0), #[]⟩
noncomputable def k366 (_ : Params) : Obj := ⟨(.type "code"), none, (.fields #[(.str (Str.ofString "__init__") 757), (.str (Str.ofString "StringIO.__init__") 758), (.str (Str.ofString "/claim/cut.py") 759), (.int (206) 0), (.int (3) 0), (.int (0) 0), (.int (0) 0), (.int (3) 0), (.ref 361), (.bool true), (.int (318) 0), (.ref 362), .none, (.ref 363), (.ref 364), (.ref 365), (.int (763) 0), (.int (206) 0), (.str (Str.ofString "/claim/cut.py") 764)]), #[]⟩
noncomputable def k367 (_ : Params) : Obj := fnObj x12_1.s (Str.ofString "__init__") (Str.ofString "StringIO.__init__") (.ref 360) (.ref 366) (.str (Str.ofString "io") 371)
noncomputable def k373 (_ : Params) : Obj := ⟨(.type "code"), none, (.fields #[(.str (Str.ofString "__translated") 766), (.str (Str.ofString "StringIO.__translated") 767), (.str (Str.ofString "/claim/cut.py") 768), (.int (219) 0), (.int (2) 0), (.int (0) 0), (.int (0) 0), (.int (3) 0), (.ref 368), (.bool true), (.int (318) 0), (.ref 369), .none, (.ref 370), (.ref 371), (.ref 372), (.int (772) 0), (.int (219) 0), (.str (Str.ofString "/claim/cut.py") 773)]), #[]⟩
noncomputable def k374 (_ : Params) : Obj := fnObj x12_2.s (Str.ofString "__translated") (Str.ofString "StringIO.__translated") .none (.ref 373) (.str (Str.ofString "io") 371)
noncomputable def k380 (_ : Params) : Obj := ⟨(.type "code"), none, (.fields #[(.str (Str.ofString "__check") 775), (.str (Str.ofString "StringIO.__check") 776), (.str (Str.ofString "/claim/cut.py") 777), (.int (227) 0), (.int (1) 0), (.int (0) 0), (.int (0) 0), (.int (3) 0), (.ref 375), (.bool true), (.int (318) 0), (.ref 376), .none, (.ref 377), (.ref 378), (.ref 379), (.int (779) 0), (.int (227) 0), (.str (Str.ofString "/claim/cut.py") 780)]), #[]⟩
noncomputable def k381 (_ : Params) : Obj := fnObj x12_3.s (Str.ofString "__check") (Str.ofString "StringIO.__check") .none (.ref 380) (.str (Str.ofString "io") 371)
noncomputable def k536 (_ : Params) : Obj := ⟨(.type "tuple"), none, (.seq #[(.int (-1) 948)] 0), #[]⟩
noncomputable def k542 (_ : Params) : Obj := ⟨(.type "code"), none, (.fields #[(.str (Str.ofString "read") 949), (.str (Str.ofString "StringIO.read") 950), (.str (Str.ofString "/claim/cut.py") 951), (.int (349) 0), (.int (2) 0), (.int (2) 0), (.int (0) 0), (.int (3) 0), (.ref 537), (.bool true), (.int (318) 0), (.ref 538), .none, (.ref 539), (.ref 540), (.ref 541), (.int (956) 0), (.int (349) 0), (.str (Str.ofString "/claim/cut.py") 957)]), #[]⟩
noncomputable def k543 (_ : Params) : Obj := fnObj x12_25.s (Str.ofString "read") (Str.ofString "StringIO.read") (.ref 536) (.ref 542) (.str (Str.ofString "io") 371)
noncomputable def k596 (P : Params) : Obj := ⟨(.type "dict"), none, (.dict #[en P (Str.ofString "__module__") 748 (.str (Str.ofString "_io") 753), en P (Str.ofString "__firstlineno__") 752 (.int (203) 751), en P (Str.ofString "__init__") 765 (.ref 367), en P (Str.ofString "_StringIO__translated") 774 (.ref 374), en P (Str.ofString "_StringIO__check") 781 (.ref 381), en P (Str.ofString "_StringIO__check_dot") 788 (.ref 388), en P (Str.ofString "_StringIO__line") 803 (.ref 395), en P (Str.ofString "closed") 811 (.ref 403), en P (Str.ofString "line_buffering") 819 (.ref 411), en P (Str.ofString "newlines") 827 (.ref 419), en P (Str.ofString "encoding") 835 (.ref 427), en P (Str.ofString "errors") 843 (.ref 435), en P (Str.ofString "close") 850 (.ref 442), en P (Str.ofString "__enter__") 857 (.ref 449), en P (Str.ofString "__exit__") 865 (.ref 456), en P (Str.ofString "readable") 872 (.ref 463), en P (Str.ofString "writable") 879 (.ref 470), en P (Str.ofString "seekable") 886 (.ref 477), en P (Str.ofString "isatty") 893 (.ref 484), en P (Str.ofString "flush") 900 (.ref 491), en P (Str.ofString "fileno") 907 (.ref 498), en P (Str.ofString "detach") 914 (.ref 505), en P (Str.ofString "getvalue") 921 (.ref 512), en P (Str.ofString "tell") 928 (.ref 519), en P (Str.ofString "seek") 938 (.ref 527), en P (Str.ofString "truncate") 946 (.ref 535), en P (Str.ofString "read") 958 (.ref 543), en P (Str.ofString "readline") 968 (.ref 551), en P (Str.ofString "readlines") 978 (.ref 559), en P (Str.ofString "__iter__") 985 (.ref 566), en P (Str.ofString "__next__") 993 (.ref 573), en P (Str.ofString "write") 1005 (.ref 580), en P (Str.ofString "writelines") 1013 (.ref 587), en P (Str.ofString "__repr__") 1020 (.ref 594), en P (Str.ofString "__static_attributes__") 1024 (.ref 595), en P (Str.ofString "__doc__") 1025 .none] 2), #[]⟩
noncomputable def k597 (_ : Params) : Obj := ⟨(.type "type"), none, (.cls { name := (Str.ofString "StringIO"), bases := [(.ref 120)], mro := [(.ref 597), (.ref 120), (.ref 93), (.type "object")], ns := 596, qualname := (Str.ofString "StringIO"), hasDict := true, slotNames := [], subclasses := [], abstract := false, collection := none, hasDel := false }), #[(some (.ref 353)), none, (some (.str (Str.ofString "StringIO") 741)), (some (.str (Str.ofString "StringIO") 749)), (some .none), (some (.bool true))]⟩
noncomputable def k649 (_ : Params) : Obj := ⟨(.type "tuple"), none, (.seq #[.none, .none, (.bool false), (.bool false)] 0), #[]⟩
noncomputable def k655 (_ : Params) : Obj := ⟨(.type "code"), none, (.fields #[(.str (Str.ofString "__init__") 1101), (.str (Str.ofString "shlex.__init__") 1102), (.str (Str.ofString "/claim/cut.py") 1103), (.int (475) 0), (.int (5) 0), (.int (0) 0), (.int (0) 0), (.int (3) 0), (.ref 650), (.bool true), (.int (318) 0), (.ref 651), .none, (.ref 652), (.ref 653), (.ref 654), (.int (1110) 0), (.int (475) 0), (.str (Str.ofString "/claim/cut.py") 1111)]), #[]⟩
noncomputable def k656 (_ : Params) : Obj := fnObj x22_0.s (Str.ofString "__init__") (Str.ofString "shlex.__init__") (.ref 649) (.ref 655) (.str (Str.ofString "cpy313.shlex") 1087)
noncomputable def k662 (_ : Params) : Obj := ⟨(.type "code"), none, (.fields #[(.str (Str.ofString "punctuation_chars") 1113), (.str (Str.ofString "shlex.punctuation_chars") 1114), (.str (Str.ofString "/claim/cut.py") 1115), (.int (516) 0), (.int (1) 0), (.int (0) 0), (.int (0) 0), (.int (3) 0), (.ref 657), (.bool true), (.int (318) 0), (.ref 658), .none, (.ref 659), (.ref 660), (.ref 661), (.int (1117) 0), (.int (516) 0), (.str (Str.ofString "/claim/cut.py") 1118)]), #[]⟩
noncomputable def k663 (_ : Params) : Obj := fnObj x22_1.s (Str.ofString "punctuation_chars") (Str.ofString "shlex.punctuation_chars") .none (.ref 662) (.str (Str.ofString "cpy313.shlex") 1087)
noncomputable def k664 (_ : Params) : Obj := ⟨(.type "property"), none, (.fields #[(.ref 663), .none, .none, .none, (.str (Str.ofString "punctuation_chars") 1120), (.bool false)]), #[]⟩
noncomputable def k670 (_ : Params) : Obj := ⟨(.type "code"), none, (.fields #[(.str (Str.ofString "push_token") 1121), (.str (Str.ofString "shlex.push_token") 1122), (.str (Str.ofString "/claim/cut.py") 1123), (.int (520) 0), (.int (2) 0), (.int (0) 0), (.int (0) 0), (.int (3) 0), (.ref 665), (.bool true), (.int (318) 0), (.ref 666), .none, (.ref 667), (.ref 668), (.ref 669), (.int (1126) 0), (.int (520) 0), (.str (Str.ofString "/claim/cut.py") 1127)]), #[]⟩
noncomputable def k671 (_ : Params) : Obj := fnObj x22_2.s (Str.ofString "push_token") (Str.ofString "shlex.push_token") .none (.ref 670) (.str (Str.ofString "cpy313.shlex") 1087)
noncomputable def k692 (_ : Params) : Obj := ⟨(.type "code"), none, (.fields #[(.str (Str.ofString "get_token") 1145), (.str (Str.ofString "shlex.get_token") 1146), (.str (Str.ofString "/claim/cut.py") 1147), (.int (545) 0), (.int (1) 0), (.int (0) 0), (.int (0) 0), (.int (3) 0), (.ref 687), (.bool true), (.int (318) 0), (.ref 688), .none, (.ref 689), (.ref 690), (.ref 691), (.int (1154) 0), (.int (545) 0), (.str (Str.ofString "/claim/cut.py") 1155)]), #[]⟩
noncomputable def k693 (_ : Params) : Obj := fnObj x22_5.s (Str.ofString "get_token") (Str.ofString "shlex.get_token") .none (.ref 692) (.str (Str.ofString "cpy313.shlex") 1087)
noncomputable def k699 (_ : Params) : Obj := ⟨(.type "code"), none, (.fields #[(.str (Str.ofString "read_token") 1157), (.str (Str.ofString "shlex.read_token") 1158), (.str (Str.ofString "/claim/cut.py") 1159), (.int (572) 0), (.int (1) 0), (.int (0) 0), (.int (0) 0), (.int (3) 0), (.ref 694), (.bool true), (.int (318) 0), (.ref 695), .none, (.ref 696), (.ref 697), (.ref 698), (.int (1165) 0), (.int (572) 0), (.str (Str.ofString "/claim/cut.py") 1166)]), #[]⟩
noncomputable def k700 (_ : Params) : Obj := fnObj x22_6.s (Str.ofString "read_token") (Str.ofString "shlex.read_token") .none (.ref 699) (.str (Str.ofString "cpy313.shlex") 1087)
noncomputable def k721 (_ : Params) : Obj := ⟨(.type "code"), none, (.fields #[(.str (Str.ofString "__iter__") 1185), (.str (Str.ofString "shlex.__iter__") 1186), (.str (Str.ofString "/claim/cut.py") 1187), (.int (719) 0), (.int (1) 0), (.int (0) 0), (.int (0) 0), (.int (3) 0), (.ref 716), (.bool true), (.int (318) 0), (.ref 717), .none, (.ref 718), (.ref 719), (.ref 720), (.int (1189) 0), (.int (719) 0), (.str (Str.ofString "/claim/cut.py") 1190)]), #[]⟩
noncomputable def k722 (_ : Params) : Obj := fnObj x22_9.s (Str.ofString "__iter__") (Str.ofString "shlex.__iter__") .none (.ref 721) (.str (Str.ofString "cpy313.shlex") 1087)
noncomputable def k728 (_ : Params) : Obj := ⟨(.type "code"), none, (.fields #[(.str (Str.ofString "__next__") 1192), (.str (Str.ofString "shlex.__next__") 1193), (.str (Str.ofString "/claim/cut.py") 1194), (.int (722) 0), (.int (1) 0), (.int (0) 0), (.int (0) 0), (.int (3) 0), (.ref 723), (.bool true), (.int (318) 0), (.ref 724), .none, (.ref 725), (.ref 726), (.ref 727), (.int (1197) 0), (.int (722) 0), (.str (Str.ofString "/claim/cut.py") 1198)]), #[]⟩
noncomputable def k729 (_ : Params) : Obj := fnObj x22_10.s (Str.ofString "__next__") (Str.ofString "shlex.__next__") .none (.ref 728) (.str (Str.ofString "cpy313.shlex") 1087)
noncomputable def k731 (P : Params) : Obj := ⟨(.type "dict"), none, (.dict #[en P (Str.ofString "__module__") 1096 (.str (Str.ofString "cpy313.shlex") 1087), en P (Str.ofString "__firstlineno__") 1100 (.int (473) 1099), en P (Str.ofString "__init__") 1112 (.ref 656), en P (Str.ofString "punctuation_chars") 1120 (.ref 664), en P (Str.ofString "push_token") 1128 (.ref 671), en P (Str.ofString "push_source") 1137 (.ref 679), en P (Str.ofString "pop_source") 1144 (.ref 686), en P (Str.ofString "get_token") 1156 (.ref 693), en P (Str.ofString "read_token") 1167 (.ref 700), en P (Str.ofString "sourcehook") 1175 (.ref 707), en P (Str.ofString "error_leader") 1184 (.ref 715), en P (Str.ofString "__iter__") 1191 (.ref 722), en P (Str.ofString "__next__") 1199 (.ref 729), en P (Str.ofString "__static_attributes__") 1220 (.ref 730), en P (Str.ofString "__dict__") 1222 (.ref 733), en P (Str.ofString "__weakref__") 1224 (.ref 734), en P (Str.ofString "__doc__") 1225 .none] 4), #[]⟩
noncomputable def k732 (_ : Params) : Obj := ⟨(.type "type"), none, (.cls { name := (Str.ofString "shlex"), bases := [(.type "object")], mro := [(.ref 732), (.type "object")], ns := 731, qualname := (Str.ofString "shlex"), hasDict := true, slotNames := [], subclasses := [], abstract := false, collection := none, hasDel := false }), #[none, none, (some (.str (Str.ofString "shlex") 1089)), (some (.str (Str.ofString "shlex") 1097)), (some (.builtin "object.__new__")), (some (.bool true))]⟩
noncomputable def k738 (_ : Params) : Obj := ⟨.none, none, (.fields #[]), #[]⟩
noncomputable def k742 (_ : Params) : Obj := ⟨(.type "code"), none, (.fields #[(.str (Str.ofString "join") 1228), (.str (Str.ofString "join") 1229), (.str (Str.ofString "/claim/cut.py") 1230), (.int (727) 0), (.int (1) 0), (.int (0) 0), (.int (0) 0), (.int (3) 0), (.ref 737), (.bool true), (.int (318) 0), (.ref 738), .none, (.ref 739), (.ref 740), (.ref 741), (.int (1232) 0), (.int (727) 0), (.str (Str.ofString "/claim/cut.py") 1233)]), #[]⟩
noncomputable def k743 (_ : Params) : Obj := fnObj x23.s (Str.ofString "join") (Str.ofString "join") .none (.ref 742) (.str (Str.ofString "cpy313.shlex") 1087)
noncomputable def k744 (_ : Params) : Obj := ⟨(.type "builtin_function_or_method"), none, (.fields #[(.builtin "re.Pattern.search"), (.ref 49)]), #[]⟩
noncomputable def k750 (_ : Params) : Obj := ⟨(.type "code"), none, (.fields #[(.str (Str.ofString "quote") 1238), (.str (Str.ofString "quote") 1239), (.str (Str.ofString "/claim/cut.py") 1240), (.int (731) 0), (.int (1) 0), (.int (0) 0), (.int (0) 0), (.int (3) 0), (.ref 745), (.bool true), (.int (318) 0), (.ref 746), .none, (.ref 747), (.ref 748), (.ref 749), (.int (1242) 0), (.int (731) 0), (.str (Str.ofString "/claim/cut.py") 1243)]), #[]⟩
noncomputable def k751 (_ : Params) : Obj := fnObj x26.s (Str.ofString "quote") (Str.ofString "quote") .none (.ref 750) (.str (Str.ofString "cpy313.shlex") 1087)
noncomputable def k757 (_ : Params) : Obj := ⟨(.type "code"), none, (.fields #[(.str (Str.ofString "_law_comes") 1247), (.str (Str.ofString "_law_comes") 1248), (.str (Str.ofString "/claim/cut.py") 1249), (.int (738) 0), (.int (2) 0), (.int (0) 0), (.int (0) 0), (.int (3) 0), (.ref 752), (.bool true), (.int (318) 0), (.ref 753), .none, (.ref 754), (.ref 755), (.ref 756), (.int (1253) 0), (.int (738) 0), (.str (Str.ofString "/claim/cut.py") 1254)]), #[]⟩
noncomputable def k758 (_ : Params) : Obj := fnObj x28.s (Str.ofString "_law_comes") (Str.ofString "_law_comes") .none (.ref 757) (.str (Str.ofString "law_op0302_01") 1245)
noncomputable def k762 (_ : Params) : Obj := ⟨(.type "code"), none, (.fields #[(.str (Str.ofString "_law_due") 1256), (.str (Str.ofString "_law_due") 1257), (.str (Str.ofString "/claim/cut.py") 1258), (.int (744) 0), (.int (1) 0), (.int (0) 0), (.int (0) 0), (.int (3) 0), (.ref 759), (.bool true), (.int (318) 0), (.ref 760), .none, .none, .none, (.ref 761), (.int (1259) 0), (.int (744) 0), (.str (Str.ofString "/claim/cut.py") 1260)]), #[]⟩
noncomputable def k763 (_ : Params) : Obj := fnObj x29.s (Str.ofString "_law_due") (Str.ofString "_law_due") .none (.ref 762) (.str (Str.ofString "law_op0302_01") 1245)
noncomputable def k767 (_ : Params) : Obj := ⟨(.type "code"), none, (.fields #[(.str (Str.ofString "law") 1262), (.str (Str.ofString "law") 1263), (.str (Str.ofString "/claim/cut.py") 1264), (.int (750) 0), (.int (1) 0), (.int (0) 0), (.int (0) 0), (.int (3) 0), (.ref 764), (.bool true), (.int (318) 0), (.ref 765), .none, .none, .none, (.ref 766), (.int (1265) 0), (.int (750) 0), (.str (Str.ofString "/claim/cut.py") 1266)]), #[]⟩
noncomputable def k768 (_ : Params) : Obj := fnObj x30.s (Str.ofString "law") (Str.ofString "law") .none (.ref 767) (.str (Str.ofString "law_op0302_01") 1245)
noncomputable def K (P : Params) : Frag := [(0, k0 P), (2, k2 P), (3, k3 P), (4, k4 P), (48, k48 P), (49, k49 P), (62, k62 P), (63, k63 P), (89, k89 P), (90, k90 P), (92, k92 P), (93, k93 P), (94, k94 P), (119, k119 P), (120, k120 P), (350, k350 P), (360, k360 P), (366, k366 P), (367, k367 P), (373, k373 P), (374, k374 P), (380, k380 P), (381, k381 P), (536, k536 P), (542, k542 P), (543, k543 P), (596, k596 P), (597, k597 P), (649, k649 P), (655, k655 P), (656, k656 P), (662, k662 P), (663, k663 P), (664, k664 P), (670, k670 P), (671, k671 P), (692, k692 P), (693, k693 P), (699, k699 P), (700, k700 P), (721, k721 P), (722, k722 P), (728, k728 P), (729, k729 P), (731, k731 P), (732, k732 P), (742, k742 P), (743, k743 P), (744, k744 P), (750, k750 P), (751, k751 P), (757, k757 P), (758, k758 P), (762, k762 P), (763, k763 P), (767, k767 P), (768, k768 P)]
noncomputable def need : List Addr := [0, 2, 3, 4, 48, 49, 62, 63, 89, 90, 92, 93, 94, 119, 120, 350, 360, 366, 367, 373, 374, 380, 381, 536, 542, 543, 596, 597, 649, 655, 656, 662, 663, 664, 670, 671, 692, 693, 699, 700, 721, 722, 728, 729, 731, 732, 742, 743, 744, 750, 751, 757, 758, 762, 763, 767, 768]
/-- 738: the codes that the text of «join» has made so far: the call adds one -/
noncomputable def KA (P : Params) : Frag := (738, k738 P) :: K P
noncomputable def needA : List Addr := 738 :: need
noncomputable def obs (s : Shared) : List (Option Obj) × Nat × Nat := obsZ needA s
noncomputable def val (w : World) : List (Option Obj) × Nat × Nat := valZ KA 769 1268 w
/-! ## The state that the opening leaves: it is run once -/
noncomputable def z1 (P : Params) : Obj := ⟨(.type "dict"), none, (.dict #[en P (Str.ofString "builtins") 162 (.ref 4), en P (Str.ofString "__main__") 163 (.ref 5), en P (Str.ofString "_sre") 244 (.ref 12), en P (Str.ofString "_collections") 292 (.ref 30)] 4), #[]⟩
noncomputable def z2 (P : Params) : Obj := ⟨.none, none, (.dict #[en P (Str.ofString "\x69mport.loaded._sre") 183 (.bool true), en P (Str.ofString "class._frozen_importlib.BuiltinImporter") 185 (.ref 14), en P (Str.ofString "watched.\x69mport") 206 (.ref 18), en P (Str.ofString "class._frozen_importlib.ModuleSpec") 216 (.ref 22), en P (Str.ofString "sys.modules.booked-epoch") 245 (.int (4) 0), en P (Str.ofString "\x69mport.later-laid._sre") 270 (.bool true), en P (Str.ofString "watched.library") 272 (.ref 27), en P (Str.ofString "watched.library-objects") 0 (.str ⟨#[12, 30]⟩ 0), en P (Str.ofString "watched.library-deep._sre") 273 (.str ⟨#[4, 0, 0, 11, 4, 0, 0, 11, 4, 0, 0, 3, 4, 0, 0, 11, 8, 4, 100, 105, 99, 116, 2]⟩ 0), en P (Str.ofString "\x69mport.loaded._collections") 280 (.bool true), en P (Str.ofString "sys.modules.landed._collections") 294 (.bool true), en P (Str.ofString "\x69mport.later-laid._collections") 309 (.bool true), en P (Str.ofString "watched.library-deep._collections") 311 (.str ⟨#[4, 0, 0, 29, 4, 0, 0, 29, 4, 0, 0, 3, 4, 0, 0, 29, 8, 4, 100, 105, 99, 116, 2]⟩ 0)] 13), #[]⟩
noncomputable def z3 (P : Params) : Obj := ⟨(.type "dict"), none, (.dict #[en P (Str.ofString "__name__") 165 (.str (Str.ofString "__main__") 164), en P (Str.ofString "__doc__") 166 .none, en P (Str.ofString "__package__") 167 .none, en P (Str.ofString "__loader__") 168 (.builtin "__main__.__loader__#opaque"), en P (Str.ofString "__spec__") 169 .none, en P (Str.ofString "__annotations__") 170 (.ref 6), en P (Str.ofString "__builtins__") 171 (.ref 4), en P (Str.ofString "__file__") 173 (.str (Str.ofString "/claim/cut.py") 172), en P (Str.ofString "__cached__") 174 .none, en P (Str.ofString "_sre") 275 (.ref 12), en P (Str.ofString "deque") 317 (.type "collections.deque")] 11), #[]⟩
noncomputable def z4 (_ : Params) : Obj := ⟨(.type "module"), (some 0), .plain, #[]⟩
noncomputable def z5 (_ : Params) : Obj := ⟨(.type "module"), (some 3), .plain, #[]⟩
noncomputable def z6 (_ : Params) : Obj := ⟨(.type "dict"), none, (.dict #[] 0), #[]⟩
noncomputable def z7 (_ : Params) : Obj := ⟨(.type "tuple"), none, (.seq #[] 0), #[]⟩
noncomputable def z8 (_ : Params) : Obj := ⟨.none, none, (.fields #[]), #[]⟩
noncomputable def z9 (_ : Params) : Obj := ⟨(.type "code"), none, (.fields #[(.str (Str.ofString "<module>") 176), (.str (Str.ofString "<module>") 177), (.str (Str.ofString "/claim/cut.py") 178), (.int (1) 0), (.int (0) 0), (.int (0) 0), (.int (0) 0), (.int (0) 0), (.ref 7), (.bool false), (.int (175) 0), (.ref 8), .none, .none, .none, .none, (.int (179) 0), (.int (1) 0), (.str (Str.ofString "/claim/cut.py") 180)]), #[]⟩
noncomputable def z10 (_ : Params) : Obj := ⟨(.type "frame"), none, .plain, #[(some (.ref 9)), (some (.ref 3)), (some (.ref 3)), none, (some (.str (Str.ofString "__main__") 164)), none, (some (.ref 0))]⟩
noncomputable def z11 (P : Params) : Obj := ⟨(.type "dict"), none, (.dict #[en P (Str.ofString "__name__") 247 (.str (Str.ofString "_sre") 246), en P (Str.ofString "__doc__") 248 .none, en P (Str.ofString "__package__") 250 (.str (Str.ofString "") 249), en P (Str.ofString "__loader__") 251 (.builtin "off-the-table:_sre.__loader__:shared#opaque"), en P (Str.ofString "__spec__") 252 (.builtin "off-the-table:_sre.__spec__:shared#opaque"), en P (Str.ofString "compile") 253 (.builtin "_sre.compile"), en P (Str.ofString "template") 254 (.builtin "off-the-table:_sre.template:shared#opaque"), en P (Str.ofString "getcodesize") 255 (.builtin "off-the-table:_sre.getcodesize:shared#opaque"), en P (Str.ofString "ascii_iscased") 256 (.builtin "off-the-table:_sre.ascii_iscased:shared#opaque"), en P (Str.ofString "unicode_iscased") 257 (.builtin "off-the-table:_sre.unicode_iscased:shared#opaque"), en P (Str.ofString "ascii_tolower") 258 (.builtin "off-the-table:_sre.ascii_tolower:shared#opaque"), en P (Str.ofString "unicode_tolower") 259 (.builtin "off-the-table:_sre.unicode_tolower:shared#opaque"), en P (Str.ofString "MAGIC") 261 (.int (20230612) 260), en P (Str.ofString "CODESIZE") 263 (.int (4) 262), en P (Str.ofString "MAXREPEAT") 265 (.int (4294967295) 264), en P (Str.ofString "MAXGROUPS") 267 (.int (1073741823) 266), en P (Str.ofString "copyright") 269 (.str (Str.ofString " SRE 2.2.2 Copyright (c) 1997-2002 by Secret Labs AB ") 268)] 17), #[]⟩
noncomputable def z12 (_ : Params) : Obj := ⟨(.type "module"), (some 11), .plain, #[]⟩
noncomputable def z13 (P : Params) : Obj := ⟨(.type "dict"), none, (.dict #[en P (Str.ofString "__module__") 189 (.str (Str.ofString "_frozen_importlib") 186), en P (Str.ofString "__firstlineno__") 190 (.int (971) 187), en P (Str.ofString "__doc__") 191 (.builtin "_frozen_importlib.BuiltinImporter.__doc__:str#opaque"), en P (Str.ofString "_ORIGIN") 192 (.str (Str.ofString "built-in") 188), en P (Str.ofString "find_spec") 193 (.builtin "_frozen_importlib.BuiltinImporter.find_spec#opaque"), en P (Str.ofString "create_module") 194 (.builtin "_frozen_importlib.BuiltinImporter.create_module#opaque"), en P (Str.ofString "exec_module") 195 (.builtin "_frozen_importlib.BuiltinImporter.exec_module#opaque"), en P (Str.ofString "get_code") 196 (.builtin "_frozen_importlib.BuiltinImporter.get_code#opaque"), en P (Str.ofString "get_source") 197 (.builtin "_frozen_importlib.BuiltinImporter.get_source#opaque"), en P (Str.ofString "is_package") 198 (.builtin "_frozen_importlib.BuiltinImporter.is_package#opaque"), en P (Str.ofString "load_module") 199 (.builtin "_frozen_importlib.BuiltinImporter.load_module#opaque"), en P (Str.ofString "__static_attributes__") 200 (.ref 15), en P (Str.ofString "__dict__") 202 (.ref 16), en P (Str.ofString "__weakref__") 204 (.ref 17)] 14), #[]⟩
noncomputable def z14 (_ : Params) : Obj := ⟨(.type "type"), none, (.cls { name := (Str.ofString "BuiltinImporter"), bases := [(.type "object")], mro := [(.ref 14), (.type "object")], ns := 13, qualname := (Str.ofString "BuiltinImporter"), hasDict := true, slotNames := [], subclasses := [], abstract := false, collection := none, hasDel := false }), #[]⟩
noncomputable def z15 (_ : Params) : Obj := ⟨(.type "tuple"), none, (.seq #[] 0), #[]⟩
noncomputable def z16 (_ : Params) : Obj := ⟨(.type "getset_descriptor"), none, (.fields #[(.str (Str.ofString "__dict__") 201), (.ref 14), (.builtin "function.__dict__"), (.builtin "function.__dict__#set")]), #[]⟩
noncomputable def z17 (_ : Params) : Obj := ⟨(.type "getset_descriptor"), none, (.fields #[(.str (Str.ofString "__weakref__") 203), (.ref 14), (.builtin "ExceptionGroup.__weakref__"), .none]), #[]⟩
noncomputable def z18 (_ : Params) : Obj := ⟨.none, none, (.seq #[(.int (13) 0), (.str ⟨#[6, 189, 10, 95, 95, 109, 111, 100, 117, 108, 101, 95, 95, 6, 186, 17, 95, 102, 114, 111, 122, 101, 110, 95, 105, 109, 112, 111, 114, 116, 108, 105, 98, 6, 190, 15, 95, 95, 102, 105, 114, 115, 116, 108, 105, 110, 101, 110, 111, 95, 95, 4, 187, 0, 971, 6, 191, 7, 95, 95, 100, 111, 99, 95, 95, 9, 52, 95, 102, 114, 111, 122, 101, 110, 95, 105, 109, 112, 111, 114, 116, 108, 105, 98, 46, 66, 117, 105, 108, 116, 105, 110, 73, 109, 112, 111, 114, 116, 101, 114, 46, 95, 95, 100, 111, 99, 95, 95, 58, 115, 116, 114, 35, 111, 112, 97, 113, 117, 101, 6, 192, 7, 95, 79, 82, 73, 71, 73, 78, 6, 188, 8, 98, 117, 105, 108, 116, 45, 105, 110, 6, 193, 9, 102, 105, 110, 100, 95, 115, 112, 101, 99, 9, 50, 95, 102, 114, 111, 122, 101, 110, 95, 105, 109, 112, 111, 114, 116, 108, 105, 98, 46, 66, 117, 105, 108, 116, 105, 110, 73, 109, 112, 111, 114, 116, 101, 114, 46, 102, 105, 110, 100, 95, 115, 112, 101, 99, 35, 111, 112, 97, 113, 117, 101, 6, 194, 13, 99, 114, 101, 97, 116, 101, 95, 109, 111, 100, 117, 108, 101, 9, 54, 95, 102, 114, 111, 122, 101, 110, 95, 105, 109, 112, 111, 114, 116, 108, 105, 98, 46, 66, 117, 105, 108, 116, 105, 110, 73, 109, 112, 111, 114, 116, 101, 114, 46, 99, 114, 101, 97, 116, 101, 95, 109, 111, 100, 117, 108, 101, 35, 111, 112, 97, 113, 117, 101, 6, 195, 11, 101, 120, 101, 99, 95, 109, 111, 100, 117, 108, 101, 9, 52, 95, 102, 114, 111, 122, 101, 110, 95, 105, 109, 112, 111, 114, 116, 108, 105, 98, 46, 66, 117, 105, 108, 116, 105, 110, 73, 109, 112, 111, 114, 116, 101, 114, 46, 101, 120, 101, 99, 95, 109, 111, 100, 117, 108, 101, 35, 111, 112, 97, 113, 117, 101, 6, 196, 8, 103, 101, 116, 95, 99, 111, 100, 101, 9, 49, 95, 102, 114, 111, 122, 101, 110, 95, 105, 109, 112, 111, 114, 116, 108, 105, 98, 46, 66, 117, 105, 108, 116, 105, 110, 73, 109, 112, 111, 114, 116, 101, 114, 46, 103, 101, 116, 95, 99, 111, 100, 101, 35, 111, 112, 97, 113, 117, 101, 6, 197, 10, 103, 101, 116, 95, 115, 111, 117, 114, 99, 101, 9, 51, 95, 102, 114, 111, 122, 101, 110, 95, 105, 109, 112, 111, 114, 116, 108, 105, 98, 46, 66, 117, 105, 108, 116, 105, 110, 73, 109, 112, 111, 114, 116, 101, 114, 46, 103, 101, 116, 95, 115, 111, 117, 114, 99, 101, 35, 111, 112, 97, 113, 117, 101, 6, 198, 10, 105, 115, 95, 112, 97, 99, 107, 97, 103, 101, 9, 51, 95, 102, 114, 111, 122, 101, 110, 95, 105, 109, 112, 111, 114, 116, 108, 105, 98, 46, 66, 117, 105, 108, 116, 105, 110, 73, 109, 112, 111, 114, 116, 101, 114, 46, 105, 115, 95, 112, 97, 99, 107, 97, 103, 101, 35, 111, 112, 97, 113, 117, 101, 6, 199, 11, 108, 111, 97, 100, 95, 109, 111, 100, 117, 108, 101, 9, 52, 95, 102, 114, 111, 122, 101, 110, 95, 105, 109, 112, 111, 114, 116, 108, 105, 98, 46, 66, 117, 105, 108, 116, 105, 110, 73, 109, 112, 111, 114, 116, 101, 114, 46, 108, 111, 97, 100, 95, 109, 111, 100, 117, 108, 101, 35, 111, 112, 97, 113, 117, 101, 6, 200, 21, 95, 95, 115, 116, 97, 116, 105, 99, 95, 97, 116, 116, 114, 105, 98, 117, 116, 101, 115, 95, 95, 4, 0, 0, 15, 6, 202, 8, 95, 95, 100, 105, 99, 116, 95, 95, 4, 0, 0, 16, 6, 204, 11, 95, 95, 119, 101, 97, 107, 114, 101, 102, 95, 95, 4, 0, 0, 17]⟩ 0), (.bool true), (.bool true), (.str (Str.ofString "") 205), (.int (21) 0), (.str ⟨#[6, 227, 10, 95, 95, 109, 111, 100, 117, 108, 101, 95, 95, 6, 217, 17, 95, 102, 114, 111, 122, 101, 110, 95, 105, 109, 112, 111, 114, 116, 108, 105, 98, 6, 228, 15, 95, 95, 102, 105, 114, 115, 116, 108, 105, 110, 101, 110, 111, 95, 95, 4, 218, 0, 562, 6, 229, 7, 95, 95, 100, 111, 99, 95, 95, 9, 47, 95, 102, 114, 111, 122, 101, 110, 95, 105, 109, 112, 111, 114, 116, 108, 105, 98, 46, 77, 111, 100, 117, 108, 101, 83, 112, 101, 99, 46, 95, 95, 100, 111, 99, 95, 95, 58, 115, 116, 114, 35, 111, 112, 97, 113, 117, 101, 6, 230, 8, 95, 95, 105, 110, 105, 116, 95, 95, 9, 44, 95, 102, 114, 111, 122, 101, 110, 95, 105, 109, 112, 111, 114, 116, 108, 105, 98, 46, 77, 111, 100, 117, 108, 101, 83, 112, 101, 99, 46, 95, 95, 105, 110, 105, 116, 95, 95, 35, 111, 112, 97, 113, 117, 101, 6, 231, 8, 95, 95, 114, 101, 112, 114, 95, 95, 9, 44, 95, 102, 114, 111, 122, 101, 110, 95, 105, 109, 112, 111, 114, 116, 108, 105, 98, 46, 77, 111, 100, 117, 108, 101, 83, 112, 101, 99, 46, 95, 95, 114, 101, 112, 114, 95, 95, 35, 111, 112, 97, 113, 117, 101, 6, 232, 6, 95, 95, 101, 113, 95, 95, 9, 42, 95, 102, 114, 111, 122, 101, 110, 95, 105, 109, 112, 111, 114, 116, 108, 105, 98, 46, 77, 111, 100, 117, 108, 101, 83, 112, 101, 99, 46, 95, 95, 101, 113, 95, 95, 35, 111, 112, 97, 113, 117, 101, 6, 233, 6, 99, 97, 99, 104, 101, 100, 9, 42, 95, 102, 114, 111, 122, 101, 110, 95, 105, 109, 112, 111, 114, 116, 108, 105, 98, 46, 77, 111, 100, 117, 108, 101, 83, 112, 101, 99, 46, 99, 97, 99, 104, 101, 100, 35, 111, 112, 97, 113, 117, 101, 6, 234, 6, 112, 97, 114, 101, 110, 116, 9, 42, 95, 102, 114, 111, 122, 101, 110, 95, 105, 109, 112, 111, 114, 116, 108, 105, 98, 46, 77, 111, 100, 117, 108, 101, 83, 112, 101, 99, 46, 112, 97, 114, 101, 110, 116, 35, 111, 112, 97, 113, 117, 101, 6, 235, 12, 104, 97, 115, 95, 108, 111, 99, 97, 116, 105, 111, 110, 9, 48, 95, 102, 114, 111, 122, 101, 110, 95, 105, 109, 112, 111, 114, 116, 108, 105, 98, 46, 77, 111, 100, 117, 108, 101, 83, 112, 101, 99, 46, 104, 97, 115, 95, 108, 111, 99, 97, 116, 105, 111, 110, 35, 111, 112, 97, 113, 117, 101, 6, 236, 21, 95, 95, 115, 116, 97, 116, 105, 99, 95, 97, 116, 116, 114, 105, 98, 117, 116, 101, 115, 95, 95, 4, 0, 0, 23, 6, 238, 8, 95, 95, 100, 105, 99, 116, 95, 95, 4, 0, 0, 24, 6, 240, 11, 95, 95, 119, 101, 97, 107, 114, 101, 102, 95, 95, 4, 0, 0, 25, 6, 241, 8, 95, 95, 104, 97, 115, 104, 95, 95, 0]⟩ 0), (.bool true), (.bool true), (.str (Str.ofString "") 242)] 1), #[]⟩
noncomputable def z19 (_ : Params) : Obj := ⟨(.type "list"), none, (.seq #[] 0), #[]⟩
noncomputable def z20 (P : Params) : Obj := ⟨(.type "dict"), none, (.dict #[en P (Str.ofString "name") 208 (.str (Str.ofString "_sre") 207), en P (Str.ofString "loader") 209 (.ref 14), en P (Str.ofString "origin") 210 (.str (Str.ofString "built-in") 184), en P (Str.ofString "loader_state") 211 .none, en P (Str.ofString "submodule_search_locations") 212 .none, en P (Str.ofString "_uninitialized_submodules") 213 (.ref 19), en P (Str.ofString "_set_fileattr") 214 (.bool false), en P (Str.ofString "_cached") 215 .none, en P (Str.ofString "_initializing") 243 (.bool false)] 9), #[]⟩
noncomputable def z21 (P : Params) : Obj := ⟨(.type "dict"), none, (.dict #[en P (Str.ofString "__module__") 227 (.str (Str.ofString "_frozen_importlib") 217), en P (Str.ofString "__firstlineno__") 228 (.int (562) 218), en P (Str.ofString "__doc__") 229 (.builtin "_frozen_importlib.ModuleSpec.__doc__:str#opaque"), en P (Str.ofString "__init__") 230 (.builtin "_frozen_importlib.ModuleSpec.__init__#opaque"), en P (Str.ofString "__repr__") 231 (.builtin "_frozen_importlib.ModuleSpec.__repr__#opaque"), en P (Str.ofString "__eq__") 232 (.builtin "_frozen_importlib.ModuleSpec.__eq__#opaque"), en P (Str.ofString "cached") 233 (.builtin "_frozen_importlib.ModuleSpec.cached#opaque"), en P (Str.ofString "parent") 234 (.builtin "_frozen_importlib.ModuleSpec.parent#opaque"), en P (Str.ofString "has_location") 235 (.builtin "_frozen_importlib.ModuleSpec.has_location#opaque"), en P (Str.ofString "__static_attributes__") 236 (.ref 23), en P (Str.ofString "__dict__") 238 (.ref 24), en P (Str.ofString "__weakref__") 240 (.ref 25), en P (Str.ofString "__hash__") 241 .none] 13), #[]⟩
noncomputable def z22 (_ : Params) : Obj := ⟨(.type "type"), none, (.cls { name := (Str.ofString "ModuleSpec"), bases := [(.type "object")], mro := [(.ref 22), (.type "object")], ns := 21, qualname := (Str.ofString "ModuleSpec"), hasDict := true, slotNames := [], subclasses := [], abstract := false, collection := none, hasDel := false }), #[]⟩
noncomputable def z23 (_ : Params) : Obj := ⟨(.type "tuple"), none, (.seq #[(.str (Str.ofString "_cached") 219), (.str (Str.ofString "_set_fileattr") 220), (.str (Str.ofString "_uninitialized_submodules") 221), (.str (Str.ofString "loader") 222), (.str (Str.ofString "loader_state") 223), (.str (Str.ofString "name") 224), (.str (Str.ofString "origin") 225), (.str (Str.ofString "submodule_search_locations") 226)] 0), #[]⟩
noncomputable def z24 (_ : Params) : Obj := ⟨(.type "getset_descriptor"), none, (.fields #[(.str (Str.ofString "__dict__") 237), (.ref 22), (.builtin "function.__dict__"), (.builtin "function.__dict__#set")]), #[]⟩
noncomputable def z25 (_ : Params) : Obj := ⟨(.type "getset_descriptor"), none, (.fields #[(.str (Str.ofString "__weakref__") 239), (.ref 22), (.builtin "ExceptionGroup.__weakref__"), .none]), #[]⟩
noncomputable def z26 (_ : Params) : Obj := ⟨(.ref 22), (some 20), .plain, #[]⟩
noncomputable def z27 (_ : Params) : Obj := ⟨.none, none, (.seq #[(.int (11) 0), (.str ⟨#[6, 247, 8, 95, 95, 110, 97, 109, 101, 95, 95, 6, 246, 4, 95, 115, 114, 101, 6, 248, 7, 95, 95, 100, 111, 99, 95, 95, 0, 6, 250, 11, 95, 95, 112, 97, 99, 107, 97, 103, 101, 95, 95, 6, 249, 0, 6, 251, 10, 95, 95, 108, 111, 97, 100, 101, 114, 95, 95, 4, 0, 0, 14, 6, 252, 8, 95, 95, 115, 112, 101, 99, 95, 95, 4, 0, 0, 26, 6, 253, 7, 99, 111, 109, 112, 105, 108, 101, 9, 12, 95, 115, 114, 101, 46, 99, 111, 109, 112, 105, 108, 101, 6, 254, 8, 116, 101, 109, 112, 108, 97, 116, 101, 9, 13, 95, 115, 114, 101, 46, 116, 101, 109, 112, 108, 97, 116, 101, 6, 255, 11, 103, 101, 116, 99, 111, 100, 101, 115, 105, 122, 101, 9, 16, 95, 115, 114, 101, 46, 103, 101, 116, 99, 111, 100, 101, 115, 105, 122, 101, 6, 256, 13, 97, 115, 99, 105, 105, 95, 105, 115, 99, 97, 115, 101, 100, 9, 18, 95, 115, 114, 101, 46, 97, 115, 99, 105, 105, 95, 105, 115, 99, 97, 115, 101, 100, 6, 257, 15, 117, 110, 105, 99, 111, 100, 101, 95, 105, 115, 99, 97, 115, 101, 100, 9, 20, 95, 115, 114, 101, 46, 117, 110, 105, 99, 111, 100, 101, 95, 105, 115, 99, 97, 115, 101, 100, 6, 258, 13, 97, 115, 99, 105, 105, 95, 116, 111, 108, 111, 119, 101, 114, 9, 18, 95, 115, 114, 101, 46, 97, 115, 99, 105, 105, 95, 116, 111, 108, 111, 119, 101, 114, 6, 259, 15, 117, 110, 105, 99, 111, 100, 101, 95, 116, 111, 108, 111, 119, 101, 114, 9, 20, 95, 115, 114, 101, 46, 117, 110, 105, 99, 111, 100, 101, 95, 116, 111, 108, 111, 119, 101, 114, 6, 261, 5, 77, 65, 71, 73, 67, 4, 260, 0, 20230612, 6, 263, 8, 67, 79, 68, 69, 83, 73, 90, 69, 4, 262, 0, 4, 6, 265, 9, 77, 65, 88, 82, 69, 80, 69, 65, 84, 4, 264, 0, 4294967295, 6, 267, 9, 77, 65, 88, 71, 82, 79, 85, 80, 83, 4, 266, 0, 1073741823, 6, 269, 9, 99, 111, 112, 121, 114, 105, 103, 104, 116, 6, 268, 53, 32, 83, 82, 69, 32, 50, 46, 50, 46, 50, 32, 67, 111, 112, 121, 114, 105, 103, 104, 116, 32, 40, 99, 41, 32, 49, 57, 57, 55, 45, 50, 48, 48, 50, 32, 98, 121, 32, 83, 101, 99, 114, 101, 116, 32, 76, 97, 98, 115, 32, 65, 66, 32]⟩ 0), (.bool true), (.bool false), (.str (Str.ofString "_sre") 271), (.int (29) 0), (.str ⟨#[6, 296, 8, 95, 95, 110, 97, 109, 101, 95, 95, 6, 295, 12, 95, 99, 111, 108, 108, 101, 99, 116, 105, 111, 110, 115, 6, 297, 7, 95, 95, 100, 111, 99, 95, 95, 9, 31, 95, 99, 111, 108, 108, 101, 99, 116, 105, 111, 110, 115, 46, 95, 95, 100, 111, 99, 95, 95, 58, 115, 116, 114, 35, 111, 112, 97, 113, 117, 101, 6, 299, 11, 95, 95, 112, 97, 99, 107, 97, 103, 101, 95, 95, 6, 298, 0, 6, 300, 10, 95, 95, 108, 111, 97, 100, 101, 114, 95, 95, 4, 0, 0, 14, 6, 301, 8, 95, 95, 115, 112, 101, 99, 95, 95, 4, 0, 0, 33, 6, 302, 15, 95, 99, 111, 117, 110, 116, 95, 101, 108, 101, 109, 101, 110, 116, 115, 9, 28, 95, 99, 111, 108, 108, 101, 99, 116, 105, 111, 110, 115, 46, 95, 99, 111, 117, 110, 116, 95, 101, 108, 101, 109, 101, 110, 116, 115, 6, 303, 5, 100, 101, 113, 117, 101, 8, 17, 99, 111, 108, 108, 101, 99, 116, 105, 111, 110, 115, 46, 100, 101, 113, 117, 101, 6, 304, 11, 100, 101, 102, 97, 117, 108, 116, 100, 105, 99, 116, 8, 23, 99, 111, 108, 108, 101, 99, 116, 105, 111, 110, 115, 46, 100, 101, 102, 97, 117, 108, 116, 100, 105, 99, 116, 6, 305, 15, 95, 100, 101, 113, 117, 101, 95, 105, 116, 101, 114, 97, 116, 111, 114, 8, 27, 99, 111, 108, 108, 101, 99, 116, 105, 111, 110, 115, 46, 95, 100, 101, 113, 117, 101, 95, 105, 116, 101, 114, 97, 116, 111, 114, 6, 306, 23, 95, 100, 101, 113, 117, 101, 95, 114, 101, 118, 101, 114, 115, 101, 95, 105, 116, 101, 114, 97, 116, 111, 114, 8, 35, 99, 111, 108, 108, 101, 99, 116, 105, 111, 110, 115, 46, 95, 100, 101, 113, 117, 101, 95, 114, 101, 118, 101, 114, 115, 101, 95, 105, 116, 101, 114, 97, 116, 111, 114, 6, 307, 12, 95, 116, 117, 112, 108, 101, 103, 101, 116, 116, 101, 114, 8, 24, 99, 111, 108, 108, 101, 99, 116, 105, 111, 110, 115, 46, 95, 116, 117, 112, 108, 101, 103, 101, 116, 116, 101, 114, 6, 308, 11, 79, 114, 100, 101, 114, 101, 100, 68, 105, 99, 116, 8, 23, 99, 111, 108, 108, 101, 99, 116, 105, 111, 110, 115, 46, 79, 114, 100, 101, 114, 101, 100, 68, 105, 99, 116]⟩ 0), (.bool true), (.bool false), (.str (Str.ofString "_collections") 310)] 1), #[]⟩
noncomputable def z28 (_ : Params) : Obj := ⟨(.type "tuple"), none, (.seq #[(.str (Str.ofString "deque") 277)] 0), #[]⟩
noncomputable def z29 (P : Params) : Obj := ⟨(.type "dict"), none, (.dict #[en P (Str.ofString "__name__") 296 (.str (Str.ofString "_collections") 295), en P (Str.ofString "__doc__") 297 (.builtin "off-the-table:_collections.__doc__:shared#opaque"), en P (Str.ofString "__package__") 299 (.str (Str.ofString "") 298), en P (Str.ofString "__loader__") 300 (.builtin "off-the-table:_collections.__loader__:shared#opaque"), en P (Str.ofString "__spec__") 301 (.builtin "off-the-table:_collections.__spec__:shared#opaque"), en P (Str.ofString "_count_elements") 302 (.builtin "_collections._count_elements"), en P (Str.ofString "deque") 303 (.type "collections.deque"), en P (Str.ofString "defaultdict") 304 (.type "collections.defaultdict"), en P (Str.ofString "_deque_iterator") 305 (.builtin "off-the-table:_collections._deque_iterator:shared#opaque"), en P (Str.ofString "_deque_reverse_iterator") 306 (.builtin "off-the-table:_collections._deque_reverse_iterator:shared#opaque"), en P (Str.ofString "_tuplegetter") 307 (.type "collections._tuplegetter"), en P (Str.ofString "OrderedDict") 308 (.type "collections.OrderedDict")] 12), #[]⟩
noncomputable def z30 (_ : Params) : Obj := ⟨(.type "module"), (some 29), .plain, #[]⟩
noncomputable def z31 (_ : Params) : Obj := ⟨(.type "list"), none, (.seq #[] 0), #[]⟩
noncomputable def z32 (P : Params) : Obj := ⟨(.type "dict"), none, (.dict #[en P (Str.ofString "name") 283 (.str (Str.ofString "_collections") 282), en P (Str.ofString "loader") 284 (.ref 14), en P (Str.ofString "origin") 285 (.str (Str.ofString "built-in") 281), en P (Str.ofString "loader_state") 286 .none, en P (Str.ofString "submodule_search_locations") 287 .none, en P (Str.ofString "_uninitialized_submodules") 288 (.ref 31), en P (Str.ofString "_set_fileattr") 289 (.bool false), en P (Str.ofString "_cached") 290 .none, en P (Str.ofString "_initializing") 291 (.bool false)] 9), #[]⟩
noncomputable def z33 (_ : Params) : Obj := ⟨(.ref 22), (some 32), .plain, #[]⟩
noncomputable def S0 (p : Program) (P : Params) : Shared := ⟨⟨#[k0 P, z1 P, z2 P, z3 P, z4 P, z5 P, z6 P, z7 P, z8 P, z9 P, z10 P, z11 P, z12 P, z13 P, z14 P, z15 P, z16 P, z17 P, z18 P, z19 P, z20 P, z21 P, z22 P, z23 P, z24 P, z25 P, z26 P, z27 P, z28 P, z29 P, z30 P, z31 P, z32 P, z33 P], (start (opening p)).1.heap.life⟩, #[], (start (opening p)).1.drawn, 318, (start (opening p)).1.os⟩
noncomputable def lhs0 (p : Program) (w : World) : Option Shared := fencedOpening treeTable p w 10052
noncomputable def rhs0 (p : Program) (w : World) : Option Shared := some (S0 p w.params)
noncomputable def startedL (p : Program) (w : World) : Option (Shared × Shared × Thread) := (topGo treeTable p w 34 ann 12 (S0 p w.params) (topStub p)).map fun r => (S0 p w.params, r.1, r.2)
noncomputable def started (p : Program) (w : World) : Option (Shared × Shared × Thread) :=
  (fencedOpening treeTable p w 10052).bind fun s => (topGo treeTable p w 34 ann 12 s (topStub p)).map fun r => (s, r.1, r.2)
noncomputable def lhsA (p : Program) (w : World) : Option (Bool × Nat × Option Value × Thread) :=
  (startedL p w).map fun r => (r.1.heap.isNs mainGlobals && r.1.gens.size == 0, r.1.heap.objs.size, r.1.heap.nsMap mainGlobals (Str.ofString "__annotations__"), r.2.2)
noncomputable def rhsA (p : Program) : Option (Bool × Nat × Option Value × Thread) := some (true, 34, ann, ⟨denote treeTable (topCode p), topCode p, pos0, [topFrame pos0]⟩)
noncomputable def XtP (q' : Program) (s : Shared) : Bool := xlAt q' [] s && recOk [] s
noncomputable def Xt (s : Shared) : Bool := XtP q s
noncomputable def looks (p : Program) (s₀ s₁ : Shared) : Bool :=
  staticsOk (importedModules p.main.body) s₀.heap s₁.heap && namesBound p s₁.heap && gensDone s₁ && laidKept s₀.heap s₁.heap
noncomputable def lhsC (p : Program) (w : World) :=
  (startedL p w).bind fun r => (segRunT treeTable p w 34 ann 1 4990 (toT r.2.1) (piecesOf (topBody p) (topEnv p) (topCode p) pos0 [topFrame pos0])).map fun x =>
    (x.1, x.2.2.1, x.2.2.2, looks p r.1 x.2.1.abs, obs x.2.1.abs)
noncomputable def rhsC (p : Program) (w : World) := some (Flow.next, topCode p, pos1, true, val w)
noncomputable def lhsD (p q' : Program) (w : World) :=
  (startedL p w).bind fun r => (segRunT treeTable p w 34 ann 1 4990 (toT r.2.1) (piecesOf (topBody p) (topEnv p) (topCode p) pos0 [topFrame pos0])).map fun x =>
    openSeen q' loose (importedModules p.main.body) (XtP q') true x.2.1.abs
noncomputable def rhsD (q' : Program) := some (openGood q' loose)
theorem trig0 : (fun (_ _ : Program → World → Option Shared) => true) lhs0 rhs0 = true := by k_qdec
theorem trig : (fun (_ : Program → World → Option (Bool × Nat × Option Value × Thread)) (_ : Program → Option (Bool × Nat × Option Value × Thread)) => true) lhsA rhsA = true := by k_qdec
theorem trig2 : (fun _ _ _ _ => true) lhsC rhsC lhsD rhsD = true := by k_qdec
theorem chk0 (w : World) : lhs0 PySem.Challenge.pw_op0302_01 w = rhs0 PySem.Challenge.pw_op0302_01 w := by
  rw [PySem.W.Fast.te11604694543938122397, PySem.W.Fast.te1337306543613403277]
  kernel_rfl
theorem started_eq (w : World) : started PySem.Challenge.pw_op0302_01 w = startedL PySem.Challenge.pw_op0302_01 w := by
  unfold started startedL
  rw [show fencedOpening treeTable PySem.Challenge.pw_op0302_01 w 10052 = some (S0 PySem.Challenge.pw_op0302_01 w.params) from chk0 w]
  rfl
theorem chkA (w : World) : lhsA PySem.Challenge.pw_op0302_01 w = rhsA PySem.Challenge.pw_op0302_01 := by
  rw [PySem.W.Fast.te14822474811161255729, PySem.W.Fast.te16204300842635648133]
  kernel_rfl
theorem chkC (w : World) : lhsC PySem.Challenge.pw_op0302_01 w = rhsC PySem.Challenge.pw_op0302_01 w := by
  rw [PySem.W.Fast.te1488876730418417872, PySem.W.Fast.te12026190510637176586]
  kernel_rfl
theorem chkD (w : World) : lhsD PySem.Challenge.pw_op0302_01 q w = rhsD q := by
  rw [PySem.W.Fast.te12915208641352844365, PySem.W.Fast.te3086400351555853107]
  kernel_rfl
noncomputable def lhsB (p : Program) (w : World) (s : Shared) := segRun treeTable p w 34 ann 1 1 s (blockOf (topBody p) (topEnv p) (topCode p) pos0 [topFrame pos0])
noncomputable def rhsB (p : Program) (s : Shared) := some (Flow.next, s, topCode p, pos0)
noncomputable def lhsF (p : Program) (w : World) (s : Shared) := topRun treeTable p w 34 ann 2 s ⟨doneF .next, topCode p, pos1, [topFrame pos0]⟩
theorem trig3 : (fun _ _ _ => true) lhsB rhsB lhsF = true := by k_qdec
theorem chkB (w : World) (s : Shared) : lhsB PySem.Challenge.pw_op0302_01 w s = rhsB PySem.Challenge.pw_op0302_01 s := by
  rw [PySem.W.Fast.te7856491800760545589]
  kernel_rfl
theorem chkF (w : World) (s : Shared) : lhsF PySem.Challenge.pw_op0302_01 w s = some s := by
  rw [PySem.W.Fast.te9246333973048606402]
  kernel_rfl
theorem left : LeftO PySem.Challenge.pw_op0302_01 q loose Xt obs val 10052 := by
  intro w
  have hA := chkA w
  unfold lhsA rhsA at hA
  obtain ⟨⟨s₀, sa, ta⟩, hs, eA⟩ := Option.map_eq_some_iff.mp hA
  have hC := chkC w
  unfold lhsC rhsC at hC
  rw [hs] at hC
  obtain ⟨⟨f, sT, c, ps⟩, hseg, eC⟩ := Option.map_eq_some_iff.mp hC
  have hD := chkD w
  unfold lhsD rhsD at hD
  rw [hs] at hD
  obtain ⟨y, hseg', eD⟩ := Option.map_eq_some_iff.mp hD
  obtain rfl : (f, sT, c, ps) = y := Option.some.inj (hseg.symm.trans hseg')
  obtain ⟨a1, a2, a3, a4⟩ : _ ∧ _ ∧ _ ∧ _ := by simpa only [Prod.mk.injEq] using eA
  obtain ⟨c1, c2, c3, c4, c6⟩ : _ ∧ _ ∧ _ ∧ _ ∧ _ := by simpa only [Prod.mk.injEq] using eC
  dsimp only at a1 a2 a3 a4 c1 c2 c3 c4 c6 hseg eD
  subst a4 c1 c2 c3
  rw [← started_eq] at hs
  unfold started at hs
  obtain ⟨s₀', h0, hr⟩ := Option.bind_eq_some_iff.mp hs
  obtain ⟨⟨sa', ta'⟩, hgo, e⟩ := Option.map_eq_some_iff.mp hr
  obtain ⟨rfl, rfl, rfl⟩ : s₀' = s₀ ∧ sa' = sa ∧ ta' = _ := by simpa only [Prod.mk.injEq] using e
  have seg := segRun_of hseg
  rw [toT_abs] at seg
  have run1 := piece_app (rest := []) seg (piece_nil (chkF w sT.abs))
  rw [List.append_nil] at run1
  have run2 := go_top hgo (piece_block (chkB w sa') run1)
  have run := topRun_mono (10052 - (12 + (1 + (4990 + 2)))) _ _ _ _ run2
  unfold openEnds
  rw [h0]
  show (topFrom _ _ _ _ _).map _ = _
  have t : topFrom treeTable PySem.Challenge.pw_op0302_01 w 10052 s₀' = some sT.abs := by
    unfold topFrom
    rw [a1, a2, a3]
    show (topRun treeTable PySem.Challenge.pw_op0302_01 w 34 ann 10052 s₀' (topStub PySem.Challenge.pw_op0302_01)).bind _ = _
    rw [show topRun treeTable PySem.Challenge.pw_op0302_01 w 34 ann 10052 s₀' (topStub PySem.Challenge.pw_op0302_01) = some sT.abs from run]
    show (match staticsOk (importedModules PySem.Challenge.pw_op0302_01.main.body) s₀'.heap sT.abs.heap && namesBound PySem.Challenge.pw_op0302_01 sT.abs.heap && gensDone sT.abs && laidKept s₀'.heap sT.abs.heap with | true => _ | false => _) = _
    rw [show (staticsOk (importedModules PySem.Challenge.pw_op0302_01.main.body) s₀'.heap sT.abs.heap && namesBound PySem.Challenge.pw_op0302_01 sT.abs.heap && gensDone sT.abs && laidKept s₀'.heap sT.abs.heap) = true from c4]
  rw [t]
  show some (_, _) = some (_, _)
  have c5' : openSeen q loose (importedModules PySem.Challenge.pw_op0302_01.main.body) Xt true sT.abs = openGood q loose := eD
  rw [c5', c6]
/-! ## The row is well said: in parts -/
noncomputable def loA : Program → Bool := by
  refine (?k : (a n b : Program → Bool) → (∀ p, looksOpen p = ((a p && n p) && b p)) → Program → Bool) _ _ _ (by delta looksOpen; exact fun p => rfl)
  exact fun a n b _ => fun p => a p && b p
noncomputable def loN : Program → Bool := by
  refine (?k : (a n b : Program → Bool) → (∀ p, looksOpen p = ((a p && n p) && b p)) → Program → Bool) _ _ _ (by delta looksOpen; exact fun p => rfl)
  exact fun a n b _ => n
theorem and3 (a n b : Bool) (h : (a && b) = true) (h' : n = true) : ((a && n) && b) = true := by
  revert h h'; cases a <;> cases n <;> cases b <;> decide
theorem lo_eq (p : Program) (h : loA p = true) (h' : loN p = true) : looksOpen p = true := and3 _ _ _ h h'
noncomputable def woF : (Program → Bool) → OpenLaw → Bool := by
  refine (?k : (x : (Program → Bool) → OpenLaw → Bool) → OpenLaw.wellSaid = x looksOpen → (Program → Bool) → OpenLaw → Bool) _ (by
    delta OpenLaw.wellSaid OpenRow.wellSaid OpenRow.partSaid
    generalize looksOpen = e
    exact rfl)
  exact fun x _ => x
theorem woF_eq (r : OpenLaw) : r.wellSaid = woF (fun _ => looksOpen r.row.prog) r := by with_unfolding_all rfl
noncomputable def woR (r : OpenLaw) : Bool := woF (fun _ => true) r
noncomputable def okB (q' : Program) (r : OpenLaw) : Bool := chainsOk q' && opensWell r.row.prog && (frees r.row.toRowW && r.row.within.isEmpty)
theorem trig4 : (fun (_ _ : Program → Bool) (_ : OpenLaw → Bool) (_ : Program → OpenLaw → Bool) => true) loN loA woR okB = true := by k_qdec
theorem wN : loN PySem.Challenge.pw_op0302_01 = true := by
  rw [PySem.W.Fast.te16443356729627193852]
  kernel_rfl
theorem wA : loA PySem.Challenge.pw_op0302_01 = true := by
  rw [PySem.W.Fast.te4119320688833498986]
  kernel_rfl
theorem wR : woR PySem.Challenge.rw_op0302_01 = true := by
  rw [PySem.W.Fast.te1468551355484940673]
  kernel_rfl
theorem well : PySem.Challenge.rw_op0302_01.wellSaid = true := by
  have h : looksOpen PySem.Challenge.rw_op0302_01.row.prog = true := lo_eq PySem.Challenge.pw_op0302_01 wA wN
  have e := woF_eq PySem.Challenge.rw_op0302_01
  rw [h] at e
  exact e.trans wR
theorem promised : PySem.Challenge.rw_op0302_01.row.toRowW.promised := by w_witness2
theorem okB_true : okB q PySem.Challenge.rw_op0302_01 = true := by
  rw [PySem.W.Fast.te8380126150868384742]
  kernel_rfl
theorem hd (walk : ∀ d kwd, defOf q PySem.Challenge.rw_op0302_01.row.name = some (d, kwd) → WalkX q loose (XL q []) obs val PySem.Challenge.rw_op0302_01.row.toRowW d kwd fun f vs => PySem.call f vs) : PySem.Challenge.rw_op0302_01.Holds := by
  refine holds_law well fun said => ?_
  exact holds_openX (q := q) (loose := loose) (Xt := Xt) (XP := XL q []) (Yf := obs) (Ya := val) (N := 10052) left
    (fun s e => xl_of s (Bool.and_eq_true_iff.mp e).1) XL.keeps (by rfl) (by rfl) (by rfl) (fun s e => recFacts_of (Bool.and_eq_true_iff.mp e).2) (by rfl) said okB_true ⟨rfl, rfl, rfl, rfl, rfl, by decide +kernel⟩ promised (walk _ _ (by rfl))
noncomputable abbrev K' : Params → Frag := K
theorem K'_eq (P : Params) : K' P = K P := rfl
/-! ## An evaluator for trees over a heap of which some objects are known -/
inductive Rf where
  | s
  | d (j : Nat)
  | b (r : Bool)
  | n
  | g (j : Nat) (v : Str)
  | t (j : Nat) (r : Bool)
  | k (u : Nat)
  /-- a code is entered, though a contract comes next -/
  | e
inductive Kn where
  | base
  | ret (py : Bool) (c : Code) (k : Result → Sem Fin) (κ : Kn)
abbrev Dy := List (Addr × Obj)
inductive Ob where
  | fe (x y : Option (List Env))
  | cd (x y : Code)
  | dy (x y : Dy)
  | a (x y : Nat)
  | cmp (op : Nat) (x y : Int) (r : Bool)
  | len (x : Str)
  | sl (x : Str) (p q : Int) (v : Str)
  | tin (ys : List Str) (x : Str) (r : Bool)
structure Out where
  r : Except Value Fin
  D : Dy
  m : Nat
  i : Nat
  os : List Ob
/-- a contract: a code, which known objects it speaks of, these ahead and behind, new ones, counts (so far; its own), its end -/
structure KC where
  c : Code
  js : List Bool
  D₀ : Dy
  D₁ : Dy
  Dn : Dy
  m₀ : Nat
  i₀ : Nat
  m₁ : Nat
  i₁ : Nat
  r : Result
  dep : Nat := 20
  un : Nat := 200
  /-- it holds at a bare code too, not at a call alone -/
  st : Bool := true
  /-- the frames' environments that it needs below it; those below the run -/
  fr : Option (List Env) := none
  fr0 : Option (List Env) := none
  /-- what may change in its slots (frames) -/
  Z : List Addr := []
noncomputable def kcAt : List KC → Nat → Option KC
  | [], _ => none
  | y :: l, u => match u with
    | 0 => some y
    | u + 1 => kcAt l u
abbrev Go := List Rf → Bool → Code → Kn → Sem Fin → Dy → Nat → Nat → List Ob → Option Out
noncomputable def kGet : Frag → Nat → Option Obj
  | [], _ => none
  | p :: l, a => match Nat.beq p.1 a with
    | true => some p.2
    | false => kGet l a
noncomputable def nth : Dy → Nat → Option (Addr × Obj)
  | [], _ => none
  | p :: l, j => match j with
    | 0 => some p
    | j + 1 => nth l j
noncomputable def setN : Dy → Nat → Obj → Dy
  | [], _, _ => []
  | p :: l, j, o => match j with
    | 0 => (p.1, o) :: l
    | j + 1 => p :: setN l j o
noncomputable def snoc : Dy → Addr × Obj → Dy
  | [], x => [x]
  | p :: l, x => p :: snoc l x
noncomputable def setK {R : Sort _} : Dy → Nat → Obj → (Dy → R) → R
  | [], _, _, k => k []
  | p :: l, j, o, k => match j with
    | 0 => k ((p.1, o) :: l)
    | j + 1 => setK l j o fun l' => k (p :: l')
noncomputable def snocK {R : Sort _} : Dy → Addr × Obj → (Dy → R) → R
  | [], x, k => k [x]
  | p :: l, x, k => snocK l x fun l' => k (p :: l')
theorem setK_eq {R : Sort _} (o : Obj) : ∀ (D : Dy) (j : Nat) (k : Dy → R), setK D j o k = k (setN D j o)
  | [], _, _ => rfl
  | _ :: _, 0, _ => rfl
  | p :: l, j + 1, k => by simp only [setK, setN, setK_eq o l j]
theorem snocK_eq {R : Sort _} (x : Addr × Obj) : ∀ (D : Dy) (k : Dy → R), snocK D x k = k (snoc D x)
  | [], _ => rfl
  | p :: l, k => by simp only [snocK, snoc, snocK_eq x l]
/-- the objects that a mask names; others in their stead -/
noncomputable def pickB : List Bool → Dy → Dy
  | [], _ => []
  | _ :: _, [] => []
  | m :: ms, p :: D => match m with
    | true => p :: pickB ms D
    | false => pickB ms D
noncomputable def putB : List Bool → Dy → Dy → Dy
  | [], _, D => D
  | _ :: _, _, [] => []
  | m :: ms, D₁, p :: D => match m with
    | true => match D₁ with
      | q :: D₁ => (p.1, q.2) :: putB ms D₁ D
      | [] => p :: D
    | false => p :: putB ms D₁ D
noncomputable def putK {R : Sort _} : List Bool → Dy → Dy → (Dy → R) → R
  | [], _, D, k => k D
  | _ :: _, _, [], k => k []
  | m :: ms, D₁, p :: D, k => match m with
    | true => match D₁ with
      | q :: D₁ => putK ms D₁ D fun D' => k ((p.1, q.2) :: D')
      | [] => k (p :: D)
    | false => putK ms D₁ D fun D' => k (p :: D')
noncomputable def appK {R : Sort _} : Dy → Dy → (Dy → R) → R
  | [], E, k => k E
  | p :: D, E, k => appK D E fun D' => k (p :: D')
theorem putK_eq {R : Sort _} : ∀ (ms : List Bool) (D₁ D : Dy) (k : Dy → R), putK ms D₁ D k = k (putB ms D₁ D)
  | [], _, _, _ => rfl
  | _ :: _, _, [], _ => rfl
  | true :: ms, q :: D₁, p :: D, k => by simp only [putK, putB, putK_eq ms D₁ D]
  | true :: ms, [], p :: D, k => rfl
  | false :: ms, D₁, p :: D, k => by simp only [putK, putB, putK_eq ms D₁ D]
theorem appK_eq {R : Sort _} (E : Dy) : ∀ (D : Dy) (k : Dy → R), appK D E k = k (D ++ E)
  | [], _ => rfl
  | p :: D, k => by simp only [appK, List.cons_append, appK_eq E D]
/-- a def's call but for the look at the depth: its parts are read off the library's own term -/
noncomputable def callG : { F : Sem Unit → Addr → FuncData → Args → Sem Fin // callFunction = F (enterFrame 0) } := by
  delta callFunction
  apply Subtype.mk
  generalize enterFrame 0 = e
  exact rfl
noncomputable def callP (self : Addr) (fd : FuncData) (args : Args) : Sem Fin := callG.1 (pure ()) self fd args
theorem callP_eq (self : Addr) (fd : FuncData) (args : Args) (hg : fd.scope.isGenerator = false) (hc : fd.scope.isCoroutine = false) :
    callFunction self fd args = callP self fd args >>= fun fin => enterFrame 0 >>= fun _ => pure fin := by
  delta callP callG callFunction
  dsimp only [id]
  simp only [hg, hc]
  cases fd.code <;> simp only [bind_assoc, pure_bind, again]
  all_goals (congr 1; funext v; cases v <;> simp only [bind_assoc, pure_bind])
noncomputable def ent (P : Params) (c : Code) : Bool × Sem Fin := match c with
  | .call (.ref f) args => match kGet (K' P) f with
    | some o => match o.data with
      | .func fd => match fd.scope.isGenerator, fd.scope.isCoroutine with
        | false, false => (true, callP f fd args)
        | _, _ => (false, denote treeTable c)
      | _ => (false, denote treeTable c)
    | none => (false, denote treeTable c)
  | c => (false, denote treeTable c)
noncomputable def depK : Kn → Nat
  | .base => 0
  | .ret _ c _ κ => match κ with
    | .base => 0
    | .ret .. => c.weight + depK κ
noncomputable def unK : Kn → Nat
  | .base => 0
  | .ret _ c _ κ => match κ with
    | .base => 0
    | .ret .. => c.cUnits + unK κ
noncomputable def envK : Kn → Code → List Env → List Env
  | .base, _, l => l
  | .ret _ c' _ κ', c, l => c.envs ++ envK κ' c' l
noncomputable def frK : Option (List Env) → Kn → Code → Option (List Env)
  | none, _, _ => none
  | some l, κ, c => some (envK κ c l)
noncomputable def intOp (id : String) : Nat := if id == "int.__lt__" then 1 else if id == "int.__le__" then 2 else if id == "int.__gt__" then 3 else if id == "int.__ge__" then 4 else if id == "int.__eq__" then 5 else if id == "int.__ne__" then 6 else 0
noncomputable def strsOf : List Value → Option (List Str)
  | [] => some []
  | .str y _ :: l => (strsOf l).map (y :: ·)
  | _ :: _ => none
/-- a slice's ends, a tuple's texts -/
noncomputable def sliceOf (o : Obj) : Option ((Int × Nat) × (Int × Nat)) := match o with
  | ⟨.type c, _, .fields vs, _⟩ => match c == "slice", vs.toList with
    | true, [.int p tp, .int q tq, .none] => some ((p, tp), (q, tq))
    | _, _ => none
  | _ => none
noncomputable def tupOf (o : Obj) : Option (List Str) := match o with
  | ⟨.type c, _, .seq vs _, _⟩ => match c == "tuple" with
    | true => strsOf vs.toList
    | false => none
  | _ => none
noncomputable def enter (P : Params) (ih : Go) (ors : List Rf) (c : Code) (κ : Kn) : Dy → Nat → Nat → List Ob → Option Out := match (ent P c).1 with
  | false => ih ors false c κ (ent P c).2
  | true => match Nat.ble (depK κ) 100 with
    | true => ih ors true c κ (ent P c).2
    | false => fun _ _ _ _ => none
noncomputable def step (pg : Program) (P : Params) (b t₀ : Nat) (sp : Bool) (ct : List KC) (ih : Go) : Go := fun ors py c κ t => match t with
  | .pure (.done f) => match κ with
    | .base => fun D m i os => some ⟨.ok (.done f), D, m, i, os⟩
    | .ret py' c' k κ' => ih ors py' c' κ' (k (.ok f))
  | .pure (.again c') => match κ with
    | .base => fun D m i os => some ⟨.ok (.again c'), D, m, i, os⟩
    | .ret py' c₁ k κ' => match c'.quiet with
      | true => match ors with
        | .k u :: ors' => match kcAt ct u with
          | some y => match y.st, Nat.ble (depK κ) y.dep, Nat.ble (unK κ) y.un with
            | true, true, true => fun D m i os => putK y.js y.D₁ D fun D₂ => appK D₂ y.Dn fun D' => ih ors' py' c₁ κ' (k y.r) D' (m + y.m₁) (i + y.i₁) (.cd c' y.c :: .dy (pickB y.js D) y.D₀ :: .a m y.m₀ :: .a i y.i₀ :: .fe (frK y.fr0 κ' c₁) y.fr :: os)
            | _, _, _ => fun _ _ _ _ => none
          | none => fun _ _ _ _ => none
        | .e :: ors' => enter P ih ors' c' κ
        | ors => enter P ih ors c' κ
      | false => fun _ _ _ _ => none
  | .raise e => match κ with
    | .base => fun D m i os => some ⟨.error e, D, m, i, os⟩
    | .ret py' c' k κ' => ih ors py' c' κ' (k (.error e))
  | .rule _ k => ih ors py c κ (k ())
  | .at _ k => ih ors py c κ (k ())
  | .point _ k => ih ors py c κ (k ())
  | .ask k => ih ors py c κ (k ⟨pg, P⟩)
  | .load a _ k => match ors with
    | .s :: ors => match kGet (K' P) a with
      | some o => ih ors py c κ (k o)
      | none => fun _ _ _ _ => none
    | .d j :: ors => fun D m i os => match nth D j with
      | some p => ih ors py c κ (k p.2) D m i (.a a p.1 :: os)
      | none => none
    | _ => fun _ _ _ _ => none
  | .loadIfAlive a k => match ors with
    | .s :: ors => match kGet (K' P) a with
      | some o => ih ors py c κ (k (some o))
      | none => fun _ _ _ _ => none
    | .d j :: ors => fun D m i os => match nth D j with
      | some p => ih ors py c κ (k (some p.2)) D m i (.a a p.1 :: os)
      | none => none
    | _ => fun _ _ _ _ => none
  | .update a _ f k => match ors with
    | .d j :: ors => fun D m i os => match nth D j with
      | some p => match (f p.2).isFreed with
        | true => none
        | false => setK D j (f p.2) fun D' => ih ors py c κ (k ()) D' m i (.a a p.1 :: os)
      | none => none
    | _ => fun _ _ _ _ => none
  | .alloc o k => fun D m i os => match o.isFreed with
    | true => none
    | false => snocK D (b + m, o) fun D' => ih ors py c κ (k (b + m)) D' (m + 1) i os
  | .fresh k => fun D m i os => ih ors py c κ (k (t₀ + i)) D m (i + 1) os
  | .handled own k => match own with
    | false => ih ors py c κ (k none)
    | true => fun _ _ _ _ => none
  | .call c' hd _ _ k => match hd with
    | none => match ors with
      | .b r :: ors' => match sp with
        | true => match c' with
          | .call (.builtin id) ⟨[.int x _, .int y _], []⟩ => match intOp id with
            | 0 => enter P ih ors c' (.ret py c k κ)
            | op + 1 => fun D m i os => ih ors' py c κ (k (.ok (.ret (.bool r)))) D m i (.cmp (op + 1) x y r :: os)
          | _ => enter P ih ors c' (.ret py c k κ)
        | false => fun _ _ _ _ => none
      | .n :: ors' => match sp with
        | true => match c' with
          | .call (.builtin id) ⟨[.str x _], []⟩ => match id == "len" with
            | true => fun D m i os => ih ors' py c κ (k (.ok (.ret (.int x.length (t₀ + (i + 1)))))) D m (i + 2) (.len x :: os)
            | false => enter P ih ors c' (.ret py c k κ)
          | _ => enter P ih ors c' (.ret py c k κ)
        | false => fun _ _ _ _ => none
      | .g j v :: ors' => match sp with
        | true => match c' with
          | .call (.builtin id) ⟨[.str x _, .ref a], []⟩ => match id == "str.__getitem__" with
            | true => fun D m i os => match nth D j with
              | some p => match sliceOf p.2 with
                | some e => ih ors' py c κ (k (.ok (.ret (.str v (t₀ + i))))) D m (i + 1) (.sl x e.1.1 e.2.1 v :: .a a p.1 :: os)
                | none => none
              | none => none
            | false => enter P ih ors c' (.ret py c k κ)
          | _ => enter P ih ors c' (.ret py c k κ)
        | false => fun _ _ _ _ => none
      | .t j r :: ors' => match sp with
        | true => match c' with
          | .call (.builtin id) ⟨[.ref a, .str x _], []⟩ => match id == "tuple.__contains__" with
            | true => fun D m i os => match nth D j with
              | some p => match tupOf p.2 with
                | some ys => ih ors' py c κ (k (.ok (.ret (.bool r)))) D m i (.tin ys x r :: .a a p.1 :: os)
                | none => none
              | none => none
            | false => enter P ih ors c' (.ret py c k κ)
          | _ => enter P ih ors c' (.ret py c k κ)
        | false => fun _ _ _ _ => none
      | .k u :: ors' => match kcAt ct u with
        | some y => match Nat.ble (depK (.ret py c k κ)) y.dep, Nat.ble (unK (.ret py c k κ)) y.un with
          | true, true => fun D m i os => putK y.js y.D₁ D fun D₂ => appK D₂ y.Dn fun D' => ih ors' py c κ (k y.r) D' (m + y.m₁) (i + y.i₁) (.cd c' y.c :: .dy (pickB y.js D) y.D₀ :: .a m y.m₀ :: .a i y.i₀ :: .fe (frK y.fr0 κ c) y.fr :: os)
          | _, _ => fun _ _ _ _ => none
        | none => fun _ _ _ _ => none
      | .e :: ors' => enter P ih ors' c' (.ret py c k κ)
      | ors => enter P ih ors c' (.ret py c k κ)
    | some _ => fun _ _ _ _ => none
  | _ => fun _ _ _ _ => none
noncomputable def go (pg : Program) (P : Params) (b t₀ : Nat) (sp : Bool) (ct : List KC) : Nat → Go
  | 0 => fun _ _ _ _ _ _ _ _ _ => none
  | n + 1 => step pg P b t₀ sp ct (go pg P b t₀ sp ct n)
/-! ## What the evaluator says is so -/
noncomputable def limLook (P : Params) : Option Value := match (k2 P).data with
  | .dict es _ => nsFind es (Str.ofString "sys.recursionlimit")
  | _ => none
end Mine
open PySem.W.ZFast in
lay_z Mine.limLook
namespace Mine
/-- where a run began: the heap, and the objects that it may change -/
structure Bs where
  h : Heap
  S : List Addr
  Z : List Addr
structure Rp (P : Params) (h₀ : Bs) (h : Heap) (D : Dy) (b m : Nat) : Prop where
  size : h.objs.size = b + m
  low : 769 ≤ b
  stat : ∀ p ∈ K P, h.get? p.1 = some p.2
  own : ∀ p ∈ D, h.get? p.1 = some p.2
  nodup : (D.map (·.1)).Nodup
  high : ∀ p ∈ D, 769 ≤ p.1 ∨ p.1 = 738
  old : ∀ p ∈ D, p.1 ∈ h₀.S ∨ b ≤ p.1
  base : h₀.h.objs.size ≤ b
  keep : ∀ a o, h₀.h.get? a = some o → a ∉ h₀.S → a ∉ h₀.Z → h.get? a = some o
  semi : ∀ a ∈ h₀.Z, ∀ o, h₀.h.get? a = some o → ∃ sl, h.get? a = some { o with slots := sl }
  far : ∀ p ∈ D, p.1 ∉ h₀.Z
  zlow : ∀ a ∈ h₀.Z, a < b
  zob : ∀ a ∈ h₀.Z, ∃ o, h₀.h.get? a = some o ∧ ∀ vs, o.data ≠ .fields vs
theorem K_low (P : Params) : ∀ p ∈ K P, p.1 < 769 ∧ p.1 ≠ 738 := by
  have h : (K P).map (·.1) = need := rfl
  have h2 : ∀ a ∈ need, a < 769 ∧ a ≠ 738 := by decide
  exact fun p hp => h2 p.1 (h ▸ List.mem_map_of_mem hp)
theorem kGet_mem : ∀ {l : Frag} {a : Nat} {o : Obj}, kGet l a = some o → (a, o) ∈ l
  | [], _, _, h => by cases h
  | p :: l, a, o, h => by
    unfold kGet at h
    cases e : Nat.beq p.1 a with
    | true =>
      rw [e] at h
      have := Nat.eq_of_beq_eq_true e
      subst this
      obtain rfl : p.2 = o := Option.some.inj h
      exact List.mem_cons_self
    | false => rw [e] at h; exact List.mem_cons_of_mem _ (kGet_mem h)
theorem nth_mem : ∀ {D : Dy} {j : Nat} {p : Addr × Obj}, nth D j = some p → p ∈ D
  | [], _, _, h => by simp [nth] at h
  | q :: D, 0, p, h => by simp [nth] at h; subst h; exact List.mem_cons_self
  | q :: D, j + 1, p, h => by simp only [nth] at h; exact List.mem_cons_of_mem _ (nth_mem h)
theorem setN_addrs (o : Obj) : ∀ (D : Dy) (j : Nat), (setN D j o).map (·.1) = D.map (·.1)
  | [], _ => rfl
  | _ :: _, 0 => rfl
  | q :: D, j + 1 => by simp only [setN, List.map_cons, setN_addrs o D j]
theorem setN_mem {o : Obj} : ∀ {D : Dy} {j : Nat} {p x : Addr × Obj}, nth D j = some p → (D.map (·.1)).Nodup → x ∈ setN D j o → x = (p.1, o) ∨ (x ∈ D ∧ x.1 ≠ p.1)
  | [], _, _, _, h, _, _ => by simp [nth] at h
  | q :: D, 0, p, x, h, nd, hx => by
    simp [nth] at h; subst h
    simp only [setN] at hx
    rcases List.mem_cons.mp hx with rfl | hx
    · exact .inl rfl
    · refine .inr ⟨List.mem_cons_of_mem _ hx, fun e => ?_⟩
      have := (List.nodup_cons.mp nd).1
      exact this (List.mem_map.mpr ⟨x, hx, e⟩)
  | q :: D, j + 1, p, x, h, nd, hx => by
    simp only [nth] at h
    simp only [setN] at hx
    have nd' := List.nodup_cons.mp nd
    rcases List.mem_cons.mp hx with rfl | hx
    · refine .inr ⟨List.mem_cons_self, fun e => nd'.1 (List.mem_map.mpr ⟨p, nth_mem h, e.symm⟩)⟩
    · rcases setN_mem h nd'.2 hx with r | r
      · exact .inl r
      · exact .inr ⟨List.mem_cons_of_mem _ r.1, r.2⟩
theorem snoc_eq (x : Addr × Obj) : ∀ D : Dy, snoc D x = D ++ [x]
  | [] => rfl
  | p :: D => by simp [snoc, snoc_eq x D]
section
variable {P : Params} {h₀ : Bs} {h : Heap} {D : Dy} {b m : Nat}
theorem Rp.alloc (r : Rp P h₀ h D b m) {o : Obj} (hf : o.isFreed = false) : Rp P h₀ (h.push o) (snoc D (b + m, o)) b (m + 1) := by
  have hs : h.objs.size = b + m := r.size
  have below : ∀ p ∈ D, p.1 < b + m := fun p hp => hs ▸ Heap.lt_size (r.own p hp)
  refine ⟨by rw [Heap.size_push, hs, Nat.add_assoc], r.low, fun p hp => Heap.get?_push_of_some _ (r.stat p hp), ?_, ?_, ?_, ?_, r.base, fun a o' e q z => Heap.get?_push_of_some _ (r.keep a o' e q z), fun a ha o' e => let ⟨sl, x⟩ := r.semi a ha o' e; ⟨sl, Heap.get?_push_of_some _ x⟩, ?_, r.zlow, r.zob⟩
  · intro p hp
    rw [snoc_eq] at hp
    rcases List.mem_append.mp hp with hp | hp
    · exact Heap.get?_push_of_some _ (r.own p hp)
    · obtain rfl := List.mem_singleton.mp hp
      show (h.push o).get? (b + m) = some o
      rw [← hs]; exact Heap.get?_push_size _ hf
  · rw [snoc_eq, List.map_append]
    refine List.nodup_append.mpr ⟨r.nodup, by simp, ?_⟩
    intro a ha c hc e
    obtain ⟨p, hp, rfl⟩ := List.mem_map.mp ha
    have h1 : c = b + m := by simpa using hc
    have h2 := below p hp
    have h3 : p.1 = c := e
    exact absurd (h3.trans h1) (Nat.ne_of_lt h2)
  · intro p hp
    rw [snoc_eq] at hp
    rcases List.mem_append.mp hp with hp | hp
    · exact r.high p hp
    · obtain rfl := List.mem_singleton.mp hp
      have := r.low
      show 769 ≤ b + m ∨ b + m = 738
      omega
  · intro p hp
    rw [snoc_eq] at hp
    rcases List.mem_append.mp hp with hp | hp
    · exact r.old p hp
    · obtain rfl := List.mem_singleton.mp hp
      exact .inr (Nat.le_add_right b m)
  · intro p hp
    rw [snoc_eq] at hp
    rcases List.mem_append.mp hp with hp | hp
    · exact r.far p hp
    · obtain rfl := List.mem_singleton.mp hp
      intro hz
      have := r.zlow _ hz
      exact absurd this (Nat.not_lt.mpr (Nat.le_add_right b m))
theorem Rp.update (r : Rp P h₀ h D b m) {j : Nat} {p : Addr × Obj} {f : Obj → Obj} (hp : nth D j = some p) (hf : (f p.2).isFreed = false) : Rp P h₀ (h.update p.1 f) (setN D j (f p.2)) b m := by
  have ho := r.own p (nth_mem hp)
  have hs : Heap.SameBut p.1 h (h.update p.1 f) := Heap.SameBut.update ..
  have hi := r.high p (nth_mem hp)
  have ge : (h.update p.1 f).get? p.1 = some (f p.2) := by first | exact Heap.get?_update_self f ho hf | exact Heap.get?_update_self _ ho hf
  refine ⟨by rw [hs.1, r.size], r.low, fun x hx => ?_, fun x hx => ?_, by rw [setN_addrs]; exact r.nodup, fun x hx => ?_, fun x hx => ?_, r.base, fun a o e q z => ?_, fun a ha o e => ?_, fun x hx => ?_, r.zlow, r.zob⟩
  · have k := K_low P x hx
    have ne : x.1 ≠ p.1 := by
      intro e
      rcases hi with hi | hi
      · rw [← e] at hi; exact absurd k.1 (Nat.not_lt.mpr hi)
      · exact k.2 (e.trans hi)
    exact (hs.2 _ ne).trans (r.stat x hx)
  · rcases setN_mem hp r.nodup hx with rfl | ⟨hx, ne⟩
    · exact ge
    · exact (hs.2 _ ne).trans (r.own x hx)
  · rcases setN_mem hp r.nodup hx with rfl | ⟨hx, _⟩
    · exact hi
    · exact r.high x hx
  · rcases setN_mem hp r.nodup hx with rfl | ⟨hx, _⟩
    · exact r.old p (nth_mem hp)
    · exact r.old x hx
  · have ne : a ≠ p.1 := by
      rintro rfl
      rcases r.old p (nth_mem hp) with hS | hb
      · exact q hS
      · exact absurd (Heap.lt_size e) (Nat.not_lt.mpr (Nat.le_trans r.base hb))
    exact (hs.2 _ ne).trans (r.keep a o e q z)
  · obtain ⟨sl, y⟩ := r.semi a ha o e
    exact ⟨sl, (hs.2 _ (fun q => r.far p (nth_mem hp) (q ▸ ha))).trans y⟩
  · rcases setN_mem hp r.nodup hx with rfl | ⟨hx, _⟩
    · exact r.far p (nth_mem hp)
    · exact r.far x hx
theorem Rp.noLimit (r : Rp P h₀ h D b m) : h.NoLimit := by
  have h2 : h.get? 2 = some (k2 P) := r.stat (2, k2 P) (kGet_mem (by kernel_rfl))
  refine ⟨nsFind _, ⟨k2 P, _, _, h2, rfl, ?_, fun _ => rfl⟩, ?_⟩
  · intro e he
    simp only [List.mem_toArray, List.mem_cons, List.not_mem_nil, or_false] at he
    rcases he with rfl | rfl | rfl | rfl | rfl | rfl | rfl | rfl | rfl | rfl | rfl | rfl | rfl | rfl | rfl <;> exact ⟨_, _, rfl⟩
  · show limLook P = none
    rw [PySem.W.ZFast.ze9058261926255602310]
    kernel_rfl
end
theorem pickB_sub : ∀ (ms : List Bool) (D : Dy), (pickB ms D).Sublist D
  | [], D => List.nil_sublist D
  | _ :: _, [] => List.Sublist.slnil
  | true :: ms, p :: D => (pickB_sub ms D).cons_cons p
  | false :: ms, p :: D => (pickB_sub ms D).cons p
theorem putB_addrs : ∀ (ms : List Bool) (D₁ D : Dy), (putB ms D₁ D).map (·.1) = D.map (·.1)
  | [], _, _ => rfl
  | _ :: _, _, [] => rfl
  | true :: ms, q :: D₁, p :: D => by simp only [putB, List.map_cons, putB_addrs ms D₁ D]
  | true :: ms, [], p :: D => rfl
  | false :: ms, D₁, p :: D => by simp only [putB, List.map_cons, putB_addrs ms D₁ D]
theorem putB_mem : ∀ (ms : List Bool) (D₁ D : Dy), (D.map (·.1)).Nodup → D₁.map (·.1) = (pickB ms D).map (·.1) → ∀ x ∈ putB ms D₁ D, x ∈ D₁ ∨ (x ∈ D ∧ x.1 ∉ (pickB ms D).map (·.1))
  | [], _, D, _, _, x, hx => .inr ⟨hx, by simp [pickB]⟩
  | _ :: _, _, [], _, _, x, hx => by simp [putB] at hx
  | true :: ms, q :: D₁, p :: D, nd, e, x, hx => by
    have nd' := List.nodup_cons.mp nd
    simp only [pickB, List.map_cons, List.cons.injEq] at e
    simp only [putB] at hx
    rcases List.mem_cons.mp hx with rfl | hx
    · left; rw [← e.1]; exact List.mem_cons_self
    · rcases putB_mem ms D₁ D nd'.2 e.2 x hx with h | ⟨h1, h2⟩
      · exact .inl (List.mem_cons_of_mem _ h)
      · refine .inr ⟨List.mem_cons_of_mem _ h1, ?_⟩
        simp only [pickB, List.map_cons]
        intro hm
        rcases List.mem_cons.mp hm with h3 | h3
        · exact nd'.1 (List.mem_map.mpr ⟨x, h1, h3⟩)
        · exact h2 h3
  | true :: ms, [], p :: D, _, e, x, hx => by simp [pickB] at e
  | false :: ms, D₁, p :: D, nd, e, x, hx => by
    have nd' := List.nodup_cons.mp nd
    simp only [pickB] at e ⊢
    simp only [putB] at hx
    rcases List.mem_cons.mp hx with rfl | hx
    · refine .inr ⟨List.mem_cons_self, fun hm => ?_⟩
      obtain ⟨y, hy, ey⟩ := List.mem_map.mp hm
      exact nd'.1 (List.mem_map.mpr ⟨y, (pickB_sub ms D).subset hy, ey⟩)
    · rcases putB_mem ms D₁ D nd'.2 e x hx with h | ⟨h1, h2⟩
      · exact .inl h
      · exact .inr ⟨List.mem_cons_of_mem _ h1, h2⟩
section
variable {P : Params} {h₀ : Bs} {h h' : Heap} {D D₀ D₁ Dn : Dy} {b m m₁ : Nat}
theorem Rp.thin (r : Rp P h₀ h D b m) (hs : D₀.Sublist D) : Rp P h₀ h D₀ b m :=
  ⟨r.size, r.low, r.stat, fun p hp => r.own p (hs.subset hp), (hs.map _).nodup r.nodup, fun p hp => r.high p (hs.subset hp), fun p hp => r.old p (hs.subset hp), r.base, r.keep, r.semi, fun p hp => r.far p (hs.subset hp), r.zlow, r.zob⟩
theorem Rp.sub {Z : List Addr} (r : Rp P h₀ h D b m) (hs : D₀.Sublist D) (hZ : ∀ a ∈ Z, a ∈ h₀.Z) : Rp P ⟨h, D₀.map (·.1), Z⟩ h D₀ (b + m) 0 :=
  ⟨r.size, Nat.le_trans r.low (Nat.le_add_right b m), r.stat, fun p hp => r.own p (hs.subset hp), (hs.map _).nodup r.nodup, fun p hp => r.high p (hs.subset hp),
    fun p hp => .inl (List.mem_map_of_mem hp), Nat.le_of_eq r.size, fun _ _ e _ _ => e, fun _ _ o e => ⟨o.slots, e⟩, fun p hp hz => r.far p (hs.subset hp) (hZ _ hz), fun a ha => Nat.lt_of_lt_of_le (r.zlow a (hZ a ha)) (Nat.le_add_right b m),
    fun a ha => let ⟨o, e, hd⟩ := r.zob a (hZ a ha); let ⟨sl, y⟩ := r.semi a (hZ a ha) o e; ⟨_, y, hd⟩⟩
theorem Rp.back {Z : List Addr} {ms : List Bool} (r : Rp P h₀ h D b m) (e : pickB ms D = D₀) (hZ : ∀ a ∈ Z, a ∈ h₀.Z) (r' : Rp P ⟨h, D₀.map (·.1), Z⟩ h' (D₁ ++ Dn) (b + m) m₁) (hk : D₁.map (·.1) = D₀.map (·.1)) : Rp P h₀ h' (putB ms D₁ D ++ Dn) b (m + m₁) := by
  subst e
  have nd := r.nodup
  have nd' := r'.nodup
  rw [List.map_append] at nd'
  have nd3 := List.nodup_append.mp nd'
  have sub := pickB_sub ms D
  have adr : ∀ p ∈ D₁, ∃ q ∈ pickB ms D, q.1 = p.1 := fun p hp => by
    have : p.1 ∈ (pickB ms D).map (·.1) := hk ▸ List.mem_map_of_mem hp
    exact List.mem_map.mp this
  have new : ∀ p ∈ Dn, b + m ≤ p.1 := fun p hp => by
    rcases r'.old p (List.mem_append_right _ hp) with h1 | h1
    · exfalso
      refine nd3.2.2 p.1 ?_ p.1 (List.mem_map_of_mem hp) rfl
      rw [hk]; exact h1
    · exact h1
  have below : ∀ p ∈ D, p.1 < b + m := fun p hp => r.size ▸ Heap.lt_size (r.own p hp)
  have pm := putB_mem ms D₁ D nd hk
  refine ⟨by rw [r'.size, Nat.add_assoc], r.low, r'.stat, ?_, ?_, ?_, ?_, r.base, ?_, ?_, ?_, r.zlow, r.zob⟩
  · intro p hp
    rcases List.mem_append.mp hp with hp | hp
    · rcases pm p hp with h1 | ⟨h1, h2⟩
      · exact r'.own p (List.mem_append_left _ h1)
      · exact r'.keep _ _ (r.own p h1) h2 (fun hz => r.far p h1 (hZ _ hz))
    · exact r'.own p (List.mem_append_right _ hp)
  · rw [List.map_append, putB_addrs]
    refine List.nodup_append.mpr ⟨nd, nd3.2.1, ?_⟩
    intro a ha c hc e
    obtain ⟨p, hp, rfl⟩ := List.mem_map.mp ha
    obtain ⟨p', hp', rfl⟩ := List.mem_map.mp hc
    have h1 := below p hp
    have h2 := new p' hp'
    have h3 : p.1 = p'.1 := e
    rw [h3] at h1
    exact absurd h1 (Nat.not_lt.mpr h2)
  · intro p hp
    rcases List.mem_append.mp hp with hp | hp
    · rcases pm p hp with h1 | ⟨h1, h2⟩
      · obtain ⟨q, hq, eq⟩ := adr p h1
        exact eq ▸ r.high q (sub.subset hq)
      · exact r.high p h1
    · exact r'.high p (List.mem_append_right _ hp)
  · intro p hp
    rcases List.mem_append.mp hp with hp | hp
    · rcases pm p hp with h1 | ⟨h1, h2⟩
      · obtain ⟨q, hq, eq⟩ := adr p h1
        exact eq ▸ r.old q (sub.subset hq)
      · exact r.old p h1
    · exact .inr (Nat.le_trans (Nat.le_add_right b m) (new p hp))
  · intro a o ea ha hz
    refine r'.keep _ _ (r.keep a o ea ha hz) (fun hS => ?_) (fun hz' => hz (hZ _ hz'))
    obtain ⟨q, hq, rfl⟩ := List.mem_map.mp hS
    rcases r.old q (sub.subset hq) with h1 | h1
    · exact ha h1
    · exact absurd (Heap.lt_size ea) (Nat.not_lt.mpr (Nat.le_trans r.base h1))
  · intro a ha o ea
    obtain ⟨sl, y⟩ := r.semi a ha o ea
    by_cases hz : a ∈ Z
    · obtain ⟨sl', y'⟩ := r'.semi a hz _ y
      exact ⟨sl', y'⟩
    · refine ⟨sl, r'.keep _ _ y (fun hS => ?_) hz⟩
      obtain ⟨q, hq, rfl⟩ := List.mem_map.mp hS
      exact r.far q (sub.subset hq) ha
  · intro p hp
    rcases List.mem_append.mp hp with hp | hp
    · rcases pm p hp with h1 | ⟨h1, h2⟩
      · obtain ⟨q, hq, eq⟩ := adr p h1
        exact eq ▸ r.far q (sub.subset hq)
      · exact r.far p h1
    · intro hz
      have h1 := r.zlow _ hz
      have h2 := new p hp
      exact absurd h1 (Nat.not_lt.mpr (Nat.le_trans (Nat.le_add_right b m) h2))
end
abbrev pw : Program := PySem.Challenge.pw_op0302_01
noncomputable def tl (py : Bool) (t : Sem Fin) : Sem Fin := match py with
  | true => t >>= fun fin => enterFrame 0 >>= fun _ => pure fin
  | false => t
noncomputable def ins (A : Around) : Kn → Code → Around
  | .base, _ => A
  | .ret _ c' _ κ', c => (ins A κ' c').under c
section
variable (w : World) (A : Around) (Q : Fin → Shared → Prop) (E : Value → Shared → Prop)
abbrev Md : Model := model PySem.Challenge.pw_op0302_01 w
noncomputable def PP : Kn → (Fin → Shared → Prop) × (Value → Shared → Prop)
  | .base => (Q, E)
  | .ret py' c' k κ' =>
    (fun fin s' => match fin with
      | .done f => wpAny (Md w) (ins A κ' c') (tl py' (k (.ok f))) (PP κ').1 (PP κ').2 s'
      | .again c'' => c''.quiet = true ∧ codeAny (Md w) (ins A κ' c') c'' (fun r s'' => wpAny (Md w) (ins A κ' c') (tl py' (k r)) (PP κ').1 (PP κ').2 s'') s',
     fun e s' => wpAny (Md w) (ins A κ' c') (tl py' (k (.error e))) (PP κ').1 (PP κ').2 s')
noncomputable def Mean (κ : Kn) (py : Bool) (c : Code) (t : Sem Fin) (s : Shared) : Prop := wpAny (Md w) (ins A κ c) (tl py t) (PP w A Q E κ).1 (PP w A Q E κ).2 s
noncomputable def GoodK : Kn → Prop
  | .base => True
  | .ret py' c' _ κ' => (py' = true → (ins A κ' c').depth < recursionLimit) ∧ GoodK κ'
end
theorem ins_handled (A : Around) : ∀ (κ : Kn) (c : Code), (ins A κ c).handled = A.handled
  | .base, _ => rfl
  | .ret _ c' _ κ', c => ins_handled A κ' c'
theorem ins_depth (A : Around) : ∀ (κ' : Kn) (py' : Bool) (c' : Code) (k : Result → Sem Fin), (ins A κ' c').depth = A.depth + depK (.ret py' c' k κ')
  | .base, _, _, _ => rfl
  | .ret py'' c'' k'' κ'', py', c', k => by
    show (ins A κ'' c'').depth + c'.weight = A.depth + (c'.weight + depK (.ret py'' c'' k'' κ''))
    rw [ins_depth A κ'' py'' c'' k'']; omega
theorem ins_units (A : Around) : ∀ (κ' : Kn) (py' : Bool) (c' : Code) (k : Result → Sem Fin), (ins A κ' c').units = A.units + unK (.ret py' c' k κ')
  | .base, _, _, _ => rfl
  | .ret py'' c'' k'' κ'', py', c', k => by
    show (ins A κ'' c'').units + c'.cUnits = A.units + (c'.cUnits + unK (.ret py'' c'' k'' κ''))
    rw [ins_units A κ'' py'' c'' k'']; omega
theorem ins_frames {A : Around} {l : List Env} (h : A.frames = some l) : ∀ (κ : Kn) (c : Code), (ins A κ c).frames = some (envK κ c l)
  | .base, _ => h
  | .ret _ c' _ κ', c => by
    show pushEnvs c.envs (ins A κ' c').frames = some (c.envs ++ envK κ' c' l)
    rw [ins_frames h κ' c']
    cases c.envs <;> rfl
theorem call_weight (f : Value) (args : Args) : (Code.call f args).weight = 0 := by
  unfold Code.weight Code.frames Code.isCreation Code.isGuard Code.isCaller Code.isFrame
  rfl
variable {w : World} {A : Around} {Q : Fin → Shared → Prop} {E : Value → Shared → Prop}
theorem denote_tree (c : Code) : denote table c = denote treeTable c := by rw [table_eq_tree]
/-- a code's tree is entered -/
theorem ent_sound {P : Params} {h₀ : Bs} {D : Dy} {b m : Nat} {B : Around} {c : Code} {Q' : Fin → Shared → Prop} {E' : Value → Shared → Prop} {s : Shared}
    (r : Rp P h₀ s.heap D b m) (h : wpAny (Md w) B (tl (ent P c).1 (ent P c).2) Q' E' s) : wpAny (Md w) B (denote table c) Q' E' s := by
  have plain : (ent P c) = (false, denote treeTable c) → wpAny (Md w) B (denote table c) Q' E' s := by
    intro e
    rw [e] at h
    rw [denote_tree]; exact h
  cases c with
  | call f args =>
    cases f with
    | ref a =>
      unfold ent at h plain
      dsimp only at h plain
      cases e : kGet (K' P) a with
      | none => exact plain (by rw [e])
      | some o =>
        cases d : o.data with
        | func fd =>
          cases g1 : fd.scope.isGenerator with
          | true => exact plain (by rw [e]; dsimp only; rw [d]; dsimp only; rw [g1])
          | false =>
            cases g2 : fd.scope.isCoroutine with
            | true => exact plain (by rw [e]; dsimp only; rw [d]; dsimp only; rw [g1, g2])
            | false =>
              rw [e] at h
              dsimp only at h
              rw [d] at h
              dsimp only at h
              rw [g1, g2] at h
              dsimp only [tl] at h
              rw [← callP_eq a fd args g1 g2] at h
              have ho := r.stat _ (K'_eq P ▸ kGet_mem e)
              show wpAny (Md w) B (callAny (.ref a) args) Q' E' s
              unfold callAny
              refine wpAny_bind (wpAny_load ho ?_)
              rw [d]
              exact h
        | _ => exact plain (by rw [e]; dsimp only; rw [d])
    | _ => exact plain rfl
  | _ => exact plain rfl
noncomputable def cmpB (op : Nat) (x y : Int) : Bool := match op with
  | 1 => decide (x < y)
  | 2 => decide (x ≤ y)
  | 3 => decide (y < x)
  | 4 => decide (y ≤ x)
  | 5 => decide (x = y)
  | _ => !decide (x = y)
/-- the piece of a text between two places, as the library's rule has it -/
noncomputable def pieceOf (x : Str) (p q : Int) : Option Str :=
  let l := slicePicked x (some (p, 0)) (some (q, 0)) none
  match l.length == x.length with
  | true => none
  | false => match Nat.blt sizeLine (l.filterMap (x.cps[·]?)).toArray.size with
    | true => none
    | false => some ⟨(l.filterMap (x.cps[·]?)).toArray⟩
noncomputable def Ob.ok : Ob → Prop
  | .fe x y => x = y
  | .cd x y => x = y
  | .dy x y => x = y
  | .a x y => x = y
  | .cmp op x y r => cmpB op x y = r
  | .len x => (x.length : Int) < 9223372036854775808
  | .sl x p q v => pieceOf x p q = some v
  | .tin ys x r => ys.any (· == x) = r
noncomputable def CmpOk (w : World) : Prop := ∀ (id : String) (op : Nat) (x y : Int) (tx ty : Nat) (B : Around) (s : Shared), intOp id = op + 1 →
  codeAny (Md w) B (.call (.builtin id) ⟨[.int x tx, .int y ty], []⟩) (fun r s' => r = .ok (.ret (.bool (cmpB (op + 1) x y))) ∧ s' = s) s
/-- a call node by what is known of the call -/
theorem call_via {B : Around} {f : Value} {pos : List Value} {g : Bool} {l : List Value} {k : Result → Sem Fin} {Q' : Fin → Shared → Prop} {E' : Value → Shared → Prop} {s s₁ : Shared} {v : Value}
    (h : wpAny (Md w) B (call f pos) (fun v' s' => v' = v ∧ s' = s₁) (fun _ _ => False) s) (hk : wpAny (Md w) B (k (.ok (.ret v))) Q' E' s₁) : wpAny (Md w) B (.call (.call f ⟨pos, []⟩) none g l k) Q' E' s := by
  intro Γ p hΓ
  have z := h Γ p hΓ
  unfold call at z
  rw [Sem.wp_runValue] at z
  rw [Sem.wp_call]
  refine wpCode_mono (fun r s' hr => ?_) z
  cases r with
  | error e => exact hr.elim
  | ok f => cases f with
    | ret v' => obtain ⟨rfl, rfl⟩ := hr; exact hk Γ p hΓ
    | next => exact hr.elim
    | brk => exact hr.elim
    | cont => exact hr.elim
structure Sp (w : World) : Prop where
  cmp : CmpOk w
  len : ∀ (x : Str) (t : Nat) (B : Around) (s : Shared), (x.length : Int) < 9223372036854775808 →
    wpAny (Md w) B (call (.builtin "len") [.str x t]) (fun v s' => v = .int x.length (s.toks + 1) ∧ s' = { s with toks := s.toks + 1 + 1 }) (fun _ _ => False) s
  sl : ∀ (x v : Str) (t : Nat) (a : Addr) (p q : Int) (tp tq : Nat) (B : Around) (s : Shared), s.heap.IsSlice a (some (p, tp)) (some (q, tq)) none → pieceOf x p q = some v →
    wpAny (Md w) B (call (.builtin "str.__getitem__") [.str x t, .ref a]) (fun v' s' => v' = .str v s.toks ∧ s' = { s with toks := s.toks + 1 }) (fun _ _ => False) s
  tin : ∀ (ys : List Str) (x : Str) (t : Nat) (a : Addr) (items : Array Value) (B : Around) (s : Shared), IsTup s.heap a items → StrsAre items.toList ys →
    wpAny (Md w) B (call (.builtin "tuple.__contains__") [.ref a, .str x t]) (fun v' s' => v' = .bool (ys.any (· == x)) ∧ s' = s) (fun _ _ => False) s
noncomputable def Ends (Q : Fin → Shared → Prop) (E : Value → Shared → Prop) (r : Except Value Fin) (s : Shared) : Prop := match r with
  | .ok fin => Q fin s
  | .error e => E e s
theorem mean_pure {κ : Kn} {py : Bool} {c : Code} {fin : Fin} {s : Shared} (hd : py = true → (ins A κ c).depth < recursionLimit) (hl : s.heap.NoLimit) (h : (PP w A Q E κ).1 fin s) : Mean w A Q E κ py c (.pure fin) s := by
  cases py with
  | false => exact wpAny_pure h
  | true => exact wpAny_bind (m := (pure fin : Sem Fin)) (wpAny_pure (wpAny_bind (wpAny_enterFrame hl (hd rfl) (wpAny_pure h))))
theorem mean_raise {κ : Kn} {py : Bool} {c : Code} {e : Value} {s : Shared} (h : (PP w A Q E κ).2 e s) : Mean w A Q E κ py c (.raise e) s := by
  cases py with
  | false => exact wpAny_throw h
  | true => exact wpAny_bind (m := (throw e : Sem Fin)) (wpAny_throw h)
theorem mean_rule {κ : Kn} {py : Bool} {c : Code} {tag : String} {k : Unit → Sem Fin} {s : Shared} (h : Mean w A Q E κ py c (k ()) s) : Mean w A Q E κ py c (.rule tag k) s := by
  cases py with
  | false => exact x_rule h
  | true => exact x_rule h
theorem mean_at {κ : Kn} {py : Bool} {c : Code} {p : Pos} {k : Unit → Sem Fin} {s : Shared} (h : Mean w A Q E κ py c (k ()) s) : Mean w A Q E κ py c (.at p k) s := by
  cases py with
  | false => exact x_at h
  | true => exact x_at h
theorem mean_point {κ : Kn} {py : Bool} {c : Code} {l : List Value} {k : Unit → Sem Fin} {s : Shared} (h : Mean w A Q E κ py c (k ()) s) : Mean w A Q E κ py c (.point l k) s := by
  cases py with
  | false => exact x_point h
  | true => exact x_point h
theorem mean_ask {κ : Kn} {py : Bool} {c : Code} {k : Setting → Sem Fin} {s : Shared} (h : Mean w A Q E κ py c (k ⟨PySem.Challenge.pw_op0302_01, w.params⟩) s) : Mean w A Q E κ py c (.ask k) s := by
  cases py with
  | false => exact x_ask h
  | true => exact x_ask h
theorem mean_load {κ : Kn} {py : Bool} {c : Code} {a : Addr} {q : Option Value} {k : Obj → Sem Fin} {o : Obj} {s : Shared} (ho : s.heap.get? a = some o) (h : Mean w A Q E κ py c (k o) s) : Mean w A Q E κ py c (.load a q k) s := by
  cases py with
  | false => exact x_load ho h
  | true => exact x_load (k := fun o => (k o).bind fun fin => enterFrame 0 >>= fun _ => pure fin) ho h
theorem mean_alive {κ : Kn} {py : Bool} {c : Code} {a : Addr} {k : Option Obj → Sem Fin} {o : Obj} {s : Shared} (ho : s.heap.get? a = some o) (h : Mean w A Q E κ py c (k (some o)) s) : Mean w A Q E κ py c (.loadIfAlive a k) s := by
  cases py with
  | false =>
    intro Γ p hΓ
    show Sem.wp _ Γ (.loadIfAlive a k) _ _ p s
    rw [Sem.wp_loadIfAlive, ho]; exact h Γ p hΓ
  | true =>
    intro Γ p hΓ
    show Sem.wp _ Γ (.loadIfAlive a fun x => (k x).bind fun fin => enterFrame 0 >>= fun _ => pure fin) _ _ p s
    rw [Sem.wp_loadIfAlive, ho]; exact h Γ p hΓ
theorem mean_update {κ : Kn} {py : Bool} {c : Code} {a : Addr} {q : Option Value} {f : Obj → Obj} {k : Unit → Sem Fin} {o : Obj} {s : Shared} (ho : s.heap.get? a = some o)
    (h : Mean w A Q E κ py c (k ()) { s with heap := s.heap.update a f }) : Mean w A Q E κ py c (.update a q f k) s := by
  cases py with
  | false => exact wpAny_bind (m := updatePart a q f) (f := k) (wpAny_updatePart ho h)
  | true => exact wpAny_bind (m := updatePart a q f) (f := fun x => (k x).bind fun fin => enterFrame 0 >>= fun _ => pure fin) (wpAny_updatePart ho h)
theorem mean_alloc {κ : Kn} {py : Bool} {c : Code} {o : Obj} {k : Addr → Sem Fin} {s : Shared} (h : Mean w A Q E κ py c (k s.heap.objs.size) { s with heap := s.heap.push o }) : Mean w A Q E κ py c (.alloc o k) s := by
  cases py with
  | false => exact wpAny_bind (m := alloc o) (f := k) (wpAny_alloc h)
  | true => exact wpAny_bind (m := alloc o) (f := fun x => (k x).bind fun fin => enterFrame 0 >>= fun _ => pure fin) (wpAny_alloc h)
theorem mean_fresh {κ : Kn} {py : Bool} {c : Code} {k : Tok → Sem Fin} {s : Shared} (h : Mean w A Q E κ py c (k s.toks) { s with toks := s.toks + 1 }) : Mean w A Q E κ py c (.fresh k) s := by
  cases py with
  | false => exact x_fresh h
  | true => exact x_fresh (k := fun x => (k x).bind fun fin => enterFrame 0 >>= fun _ => pure fin) h
theorem mean_handled {κ : Kn} {py : Bool} {c : Code} {k : Option Value → Sem Fin} {s : Shared} (hh : A.handled = none) (h : Mean w A Q E κ py c (k none) s) : Mean w A Q E κ py c (.handled false k) s := by
  have e : (ins A κ c).handled = none := (ins_handled A κ c).trans hh
  cases py with
  | false => exact x_handled (by rw [e]; exact h)
  | true => exact x_handled (k := fun x => (k x).bind fun fin => enterFrame 0 >>= fun _ => pure fin) (by rw [e]; exact h)
theorem mean_call {κ : Kn} {py : Bool} {c c' : Code} {g : Bool} {l : List Value} {k : Result → Sem Fin} {s : Shared} (h : codeAny (Md w) (ins A κ c) c' (fun r s' => Mean w A Q E κ py c (k r) s') s) : Mean w A Q E κ py c (.call c' none g l k) s := by
  cases py with
  | false => exact x_call h (by intro e; cases e)
  | true => exact x_call (k := fun x => (k x).bind fun fin => enterFrame 0 >>= fun _ => pure fin) h (by intro e; cases e)
/-- a code within a call of it -/
noncomputable def codeIn (M : Model) (B : Around) (c : Code) (R : Result → Shared → Prop) (s : Shared) : Prop := ∀ (Γ : Ctx) (p : Pos), Γ.In B → wpCode M (Γ.enter c none p) R p s
theorem codeIn_of {M : Model} {B : Around} {c : Code} {R : Result → Shared → Prop} {s : Shared} (h : codeAny M B c R s) : codeIn M B c R s := fun Γ p hΓ =>
  h _ p rfl (hΓ.enter c none p (by intro x; cases x))
theorem codeIn_call {B : Around} {f : Value} {pos : List Value} {kw : List (Str × Value)} {R : Result → Shared → Prop} {s : Shared}
    (h : wpAny (Md w) B (call f pos kw) (fun v s' => R (.ok (.ret v)) s') (fun e s' => R (.error e) s') s) : codeIn (Md w) B (.call f ⟨pos, kw⟩) R s := by
  intro Γ p hΓ
  have z := h Γ p hΓ
  unfold call at z
  rw [Sem.wp_runValue] at z
  refine wpCode_mono (fun r s' hr => ?_) z
  cases r with
  | error e => exact hr
  | ok f => cases f with
    | ret v' => exact hr
    | next => exact hr.elim
    | brk => exact hr.elim
    | cont => exact hr.elim
theorem mean_callIn {κ : Kn} {py : Bool} {c c' : Code} {g : Bool} {l : List Value} {k : Result → Sem Fin} {s : Shared} (h : codeIn (Md w) (ins A κ c) c' (fun r s' => Mean w A Q E κ py c (k r) s') s) : Mean w A Q E κ py c (.call c' none g l k) s := by
  cases py with
  | false =>
    intro Γ p hΓ
    show Sem.wp _ Γ (.call c' none g l k) _ _ p s
    rw [Sem.wp_call]
    exact wpCode_mono (fun r s' hr => hr Γ p hΓ) (h Γ p hΓ)
  | true =>
    intro Γ p hΓ
    show Sem.wp _ Γ (.call c' none g l fun x => (k x).bind fun fin => enterFrame 0 >>= fun _ => pure fin) _ _ p s
    rw [Sem.wp_call]
    exact wpCode_mono (fun r s' hr => hr Γ p hΓ) (h Γ p hΓ)
theorem mean_via {κ : Kn} {py : Bool} {c : Code} {f : Value} {pos : List Value} {g : Bool} {l : List Value} {k : Result → Sem Fin} {s s₁ : Shared} {v : Value}
    (h : wpAny (Md w) (ins A κ c) (call f pos) (fun v' s' => v' = v ∧ s' = s₁) (fun _ _ => False) s) (hk : Mean w A Q E κ py c (k (.ok (.ret v))) s₁) : Mean w A Q E κ py c (.call (.call f ⟨pos, []⟩) none g l k) s := by
  cases py with
  | false => exact call_via h hk
  | true => exact call_via (k := fun x => (k x).bind fun fin => enterFrame 0 >>= fun _ => pure fin) h hk
theorem sliceOf_is {h : Heap} {a : Addr} {o : Obj} {q : (Int × Nat) × (Int × Nat)} (e : sliceOf o = some q) (ho : h.get? a = some o) : h.IsSlice a (some q.1) (some q.2) none := by
  unfold sliceOf at e
  split at e
  · rename_i c d vs sl
    split at e
    · rename_i p tp q' tq ec ev
      cases e
      obtain rfl := eq_of_beq ec
      have : vs = #[.int p tp, .int q' tq, .none] := Array.ext' ev
      subst this
      exact ⟨_, ho, rfl, rfl⟩
    · cases e
  · cases e
theorem strsOf_are : ∀ {l : List Value} {ys : List Str}, strsOf l = some ys → StrsAre l ys
  | [], ys, e => by cases e; exact .nil
  | .str y t :: l, ys, e => by
    simp only [strsOf] at e
    obtain ⟨zs, e', rfl⟩ := Option.map_eq_some_iff.mp e
    exact .cons y t (strsOf_are e')
  | .none :: _, _, e | .ellipsis :: _, _, e | .notImplemented :: _, _, e | .bool _ :: _, _, e | .int _ _ :: _, _, e | .float _ _ :: _, _, e | .bytes _ _ :: _, _, e | .type _ :: _, _, e | .builtin _ :: _, _, e | .ref _ :: _, _, e => by simp [strsOf] at e
theorem tupOf_is {h : Heap} {a : Addr} {o : Obj} {ys : List Str} (e : tupOf o = some ys) (ho : h.get? a = some o) : ∃ items, IsTup h a items ∧ StrsAre items.toList ys := by
  unfold tupOf at e
  split at e
  · rename_i c d vs n sl
    split at e
    · rename_i ec
      obtain rfl := eq_of_beq ec
      exact ⟨vs, ⟨_, ho, rfl, n, rfl⟩, strsOf_are e⟩
    · cases e
  · cases e
/-- a code is entered from a frame -/
theorem mean_enter {P : Params} {h₀ : Bs} {D : Dy} {b m : Nat} {κ' : Kn} {py' : Bool} {c' c : Code} {k : Result → Sem Fin} {s : Shared} (r : Rp P h₀ s.heap D b m)
    (h : Mean w A Q E (.ret py' c' k κ') (ent P c).1 c (ent P c).2 s) : codeAny (Md w) (ins A κ' c') c (fun r s' => Mean w A Q E κ' py' c' (k r) s') s :=
  x_code (ent_sound r h)
/-- what is known of a call that begins with the objects D₀ known -/
noncomputable def ConF (fr : Option (List Env)) (Z : List Addr) (w : World) (P : Params) (N U : Nat) (c : Code) (D₀ D₁ : Dy) (b t m₁ i₁ : Nat) (r : Result) : Prop :=
  ∀ (h : Heap) (g : Array GenState) (d : Drawn) (o : OsState) (B : Around) (J : Array GenState → Prop), J g → B.depth ≤ N → B.units ≤ U → B.handled = none → (∀ l, fr = some l → B.frames = some l) → Rp P ⟨h, D₀.map (·.1), Z⟩ h D₀ b 0 → ∀ R : Result → Shared → Prop,
    (∀ h' g', J g' → Rp P ⟨h, D₀.map (·.1), Z⟩ h' D₁ b m₁ → R r ⟨h', g', d, t + i₁, o⟩) → codeAny (Md w) B c R ⟨h, g, d, t, o⟩
abbrev Con (w : World) (P : Params) (N U : Nat) (c : Code) (D₀ D₁ : Dy) (b t m₁ i₁ : Nat) (r : Result) : Prop := ConF none [] w P N U c D₀ D₁ b t m₁ i₁ r
/-- the same, of a call of it alone -/
noncomputable def ConI (fr : Option (List Env)) (Z : List Addr) (w : World) (P : Params) (N U : Nat) (c : Code) (D₀ D₁ : Dy) (b t m₁ i₁ : Nat) (r : Result) : Prop :=
  ∀ (h : Heap) (g : Array GenState) (d : Drawn) (o : OsState) (B : Around) (J : Array GenState → Prop), J g → B.depth ≤ N → B.units ≤ U → B.handled = none → (∀ l, fr = some l → B.frames = some l) → Rp P ⟨h, D₀.map (·.1), Z⟩ h D₀ b 0 → ∀ R : Result → Shared → Prop,
    (∀ h' g', J g' → Rp P ⟨h, D₀.map (·.1), Z⟩ h' D₁ b m₁ → R r ⟨h', g', d, t + i₁, o⟩) → codeIn (Md w) B c R ⟨h, g, d, t, o⟩
section
variable {st : Bool} {fr : Option (List Env)} {Z : List Addr} {w : World} {P : Params} {N U b t m₁ i₁ : Nat} {c : Code} {D₀ D₁ : Dy} {r : Result}
theorem ConF.toI (h : ConF fr Z w P N U c D₀ D₁ b t m₁ i₁ r) : ConI fr Z w P N U c D₀ D₁ b t m₁ i₁ r :=
  fun hp g d o B J G hB hu hh hf rp R hR => codeIn_of (h hp g d o B J G hB hu hh hf rp R hR)
/-- what holds anywhere holds there -/
theorem ConF.at (h : Con w P N U c D₀ D₁ b t m₁ i₁ r) : ConF fr [] w P N U c D₀ D₁ b t m₁ i₁ r :=
  fun hp g d o B J G hB hu hh hf rp R hR => h hp g d o B J G hB hu hh (fun _ e => by cases e) rp R hR
noncomputable def ConS (st : Bool) (fr : Option (List Env)) (Z : List Addr) (w : World) (P : Params) (N U : Nat) (c : Code) (D₀ D₁ : Dy) (b t m₁ i₁ : Nat) (r : Result) : Prop := match st with
  | true => ConF fr Z w P N U c D₀ D₁ b t m₁ i₁ r
  | false => ConI fr Z w P N U c D₀ D₁ b t m₁ i₁ r
theorem ConS.toI (h : ConS st fr Z w P N U c D₀ D₁ b t m₁ i₁ r) : ConI fr Z w P N U c D₀ D₁ b t m₁ i₁ r := by
  cases st with
  | true => exact ConF.toI h
  | false => exact h
end
structure KOk (w : World) (P : Params) (N U b t₀ : Nat) (y : KC) : Prop where
  adr : y.D₁.map (·.1) = y.D₀.map (·.1)
  con : ConS y.st y.fr y.Z w P N U y.c y.D₀ (y.D₁ ++ y.Dn) (b + y.m₀) (t₀ + y.i₀) y.m₁ y.i₁ y.r
noncomputable def CtOk (w : World) (P : Params) (N U b t₀ : Nat) (ct : List KC) : Prop := ∀ y ∈ ct, KOk w P (N + y.dep) (U + y.un) b t₀ y
theorem ctOk_nil {w : World} {P : Params} {N U b t₀ : Nat} : CtOk w P N U b t₀ [] := fun _ h => by cases h
theorem ctOk_cons {w : World} {P : Params} {N U b t₀ : Nat} {y : KC} {l : List KC} (h : KOk w P (N + y.dep) (U + y.un) b t₀ y) (t : CtOk w P N U b t₀ l) : CtOk w P N U b t₀ (y :: l) :=
  fun x hx => (List.mem_cons.mp hx).elim (fun e => e ▸ h) (t x)
theorem fr_none {ct : List KC} {fr : Option (List Env)} (h : (ct.all fun y => y.fr0.isNone) = true) : ∀ y ∈ ct, ∀ l, y.fr0 = some l → fr = some l := fun y hy l e => by
  have := List.all_eq_true.mp h y hy
  rw [e] at this
  cases this
theorem z_nil {ct : List KC} {Z : List Addr} (h : (ct.all fun y => y.Z.isEmpty) = true) : ∀ y ∈ ct, ∀ a ∈ y.Z, a ∈ Z := fun y hy a ha => by
  have := List.all_eq_true.mp h y hy
  rw [List.isEmpty_iff.mp this] at ha
  cases ha
theorem kcAt_mem : ∀ {ct : List KC} {u : Nat} {y : KC}, kcAt ct u = some y → y ∈ ct
  | [], _, _, h => by simp [kcAt] at h
  | q :: D, 0, p, h => by simp [kcAt] at h; subst h; exact List.mem_cons_self
  | q :: D, j + 1, p, h => by simp only [kcAt] at h; exact List.mem_cons_of_mem _ (kcAt_mem h)
abbrev noCt : List KC := []
theorem noCt_ok {w : World} {P : Params} {N U b t₀ : Nat} : CtOk w P N U b t₀ noCt := fun _ h => by cases h
/-- a contract at work -/
theorem KOk.use {w : World} {P : Params} {N U b t₀ m i : Nat} {y : KC} (k : KOk w P N U b t₀ y) (hst : y.st = true) {c : Code} {D : Dy} {h₀ : Bs} (hc : c = y.c) (hD : pickB y.js D = y.D₀) (hm : m = y.m₀) (hi : i = y.i₀)
    {h : Heap} {g : Array GenState} {d : Drawn} {o : OsState} {B : Around} {J : Array GenState → Prop} (G : J g) (hB : B.depth ≤ N) (hU : B.units ≤ U) (hh : B.handled = none) (hf : ∀ l, y.fr = some l → B.frames = some l) (hZ : ∀ a ∈ y.Z, a ∈ h₀.Z) (r : Rp P h₀ h D b m) {R : Result → Shared → Prop}
    (H : ∀ h' g', J g' → Rp P h₀ h' (putB y.js y.D₁ D ++ y.Dn) b (m + y.m₁) → R y.r ⟨h', g', d, t₀ + (i + y.i₁), o⟩) : codeAny (Md w) B c R ⟨h, g, d, t₀ + i, o⟩ := by
  subst hc hm hi
  have kc := k.con
  rw [hst] at kc
  refine kc h g d o B J G hB hU hh hf ?_ R fun h' g' G' r' => ?_
  · have := r.sub (pickB_sub y.js D) hZ
    rw [hD] at this; exact this
  · have := H h' g' G' (r.back hD hZ r' k.adr)
    rw [← Nat.add_assoc] at this
    exact this
theorem KOk.useI {w : World} {P : Params} {N U b t₀ m i : Nat} {y : KC} (k : KOk w P N U b t₀ y) {c : Code} {D : Dy} {h₀ : Bs} (hc : c = y.c) (hD : pickB y.js D = y.D₀) (hm : m = y.m₀) (hi : i = y.i₀)
    {h : Heap} {g : Array GenState} {d : Drawn} {o : OsState} {B : Around} {J : Array GenState → Prop} (G : J g) (hB : B.depth ≤ N) (hU : B.units ≤ U) (hh : B.handled = none) (hf : ∀ l, y.fr = some l → B.frames = some l) (hZ : ∀ a ∈ y.Z, a ∈ h₀.Z) (r : Rp P h₀ h D b m) {R : Result → Shared → Prop}
    (H : ∀ h' g', J g' → Rp P h₀ h' (putB y.js y.D₁ D ++ y.Dn) b (m + y.m₁) → R y.r ⟨h', g', d, t₀ + (i + y.i₁), o⟩) : codeIn (Md w) B c R ⟨h, g, d, t₀ + i, o⟩ := by
  subst hc hm hi
  refine k.con.toI h g d o B J G hB hU hh hf ?_ R fun h' g' G' r' => ?_
  · have := r.sub (pickB_sub y.js D) hZ
    rw [hD] at this; exact this
  · have := H h' g' G' (r.back hD hZ r' k.adr)
    rw [← Nat.add_assoc] at this
    exact this
section
variable {P : Params} {b t₀ : Nat} {sp : Bool} {h₀ : Bs} {d : Drawn} {o : OsState} {ct : List KC} {N U : Nat} {J : Array GenState → Prop}
/-- what one run of the evaluator shows -/
noncomputable def Shows (w : World) (A : Around) (Q : Fin → Shared → Prop) (E : Value → Shared → Prop) (P : Params) (b t₀ : Nat) (h₀ : Bs) (d : Drawn) (o : OsState) (J : Array GenState → Prop)
    (py : Bool) (c : Code) (κ : Kn) (t : Sem Fin) (D : Dy) (m i : Nat) (os : List Ob) (out : Out) : Prop :=
  (∀ x ∈ os, x ∈ out.os) ∧ ∀ h g, J g → (∀ x ∈ out.os, x.ok) → (py = true → (ins A κ c).depth < recursionLimit) → GoodK A κ → Rp P h₀ h D b m →
    (∀ h' g', J g' → Rp P h₀ h' out.D b out.m → Ends Q E out.r ⟨h', g', d, t₀ + out.i, o⟩) → Mean w A Q E κ py c t ⟨h, g, d, t₀ + i, o⟩
abbrev AllShow (w : World) (A : Around) (Q : Fin → Shared → Prop) (E : Value → Shared → Prop) (P : Params) (b t₀ : Nat) (h₀ : Bs) (d : Drawn) (o : OsState) (J : Array GenState → Prop) (ih : Go) : Prop :=
  ∀ ors py c κ t D m i os out, ih ors py c κ t D m i os = some out → Shows w A Q E P b t₀ h₀ d o J py c κ t D m i os out
theorem enter_sound (hA : A.depth ≤ 800) {ih : Go} (IH : AllShow w A Q E P b t₀ h₀ d o J ih) {ors : List Rf} {c : Code} {py' : Bool} {c' : Code} {k : Result → Sem Fin} {κ' : Kn} {D : Dy} {m i : Nat} {os : List Ob} {out : Out}
    (H : enter P ih ors c (.ret py' c' k κ') D m i os = some out) :
    (∀ x ∈ os, x ∈ out.os) ∧ ∀ h g, J g → (∀ x ∈ out.os, x.ok) → GoodK A (.ret py' c' k κ') → Rp P h₀ h D b m →
      (∀ h' g', J g' → Rp P h₀ h' out.D b out.m → Ends Q E out.r ⟨h', g', d, t₀ + out.i, o⟩) → codeAny (Md w) (ins A κ' c') c (fun r s' => Mean w A Q E κ' py' c' (k r) s') ⟨h, g, d, t₀ + i, o⟩ := by
  unfold enter at H
  cases e : (ent P c).1 with
  | false =>
    rw [e] at H
    have z := IH _ _ _ _ _ _ _ _ _ _ H
    refine ⟨z.1, fun h g G ok gk r fin => mean_enter r ?_⟩
    have y := z.2 h g G ok (by intro q; cases q) gk r fin
    rw [e]; exact y
  | true =>
    rw [e] at H
    dsimp only at H
    cases q : Nat.ble (depK (.ret py' c' k κ')) 100 with
    | false => rw [q] at H; cases H
    | true =>
      rw [q] at H
      have z := IH _ _ _ _ _ _ _ _ _ _ H
      refine ⟨z.1, fun h g G ok gk r fin => mean_enter r ?_⟩
      have hdep : (ins A (.ret py' c' k κ') c).depth < recursionLimit := by
        have h1 : (ins A (.ret py' c' k κ') c).depth = (ins A κ' c').depth + c.weight := rfl
        have h2 := ins_depth A κ' py' c' k
        have h3 := Nat.le_of_ble_eq_true q
        have h4 : c.weight = 0 := by
          unfold ent at e
          cases c with
          | call f args => exact call_weight f args
          | _ => cases e
        have h5 : recursionLimit = 1000 := rfl
        omega
      have y := z.2 h g G ok (fun _ => hdep) gk r fin
      rw [e]; exact y
theorem step_sound (hP : w.params = P) (hA : A.depth ≤ 800) (hh : A.handled = none) (hsp : sp = true → Sp w) (hct : CtOk w P N U b t₀ ct) (hfr : ∀ y ∈ ct, ∀ l, y.fr0 = some l → A.frames = some l) (hZ : ∀ y ∈ ct, ∀ a ∈ y.Z, a ∈ h₀.Z) (hN : A.depth ≤ N) (hU : A.units ≤ U) {ih : Go} (IH : AllShow w A Q E P b t₀ h₀ d o J ih) : AllShow w A Q E P b t₀ h₀ d o J (step pw P b t₀ sp ct ih) := by
  intro ors py c κ t D m i os out H
  cases t with
  | pure fin =>
    cases fin with
    | done f =>
      cases κ with
      | base =>
        obtain rfl : _ = out := Option.some.inj H
        exact ⟨fun _ h => h, fun h g G _ hd _ r fin => mean_pure hd r.noLimit (fin h g G r)⟩
      | ret py' c' k κ' =>
        have z := IH _ _ _ _ _ _ _ _ _ _ H
        exact ⟨z.1, fun h g G ok hd gk r fin => mean_pure hd r.noLimit (z.2 h g G ok gk.1 gk.2 r fin)⟩
    | again c'' =>
      cases κ with
      | base =>
        obtain rfl : _ = out := Option.some.inj H
        exact ⟨fun _ h => h, fun h g G _ hd _ r fin => mean_pure hd r.noLimit (fin h g G r)⟩
      | ret py' c' k κ' =>
        cases q : c''.quiet with
        | false => simp only [step, q] at H; cases H
        | true =>
          have plain : ∀ ors, enter P ih ors c'' (.ret py' c' k κ') D m i os = some out → Shows w A Q E P b t₀ h₀ d o J py c (.ret py' c' k κ') (.pure (.again c'')) D m i os out := by
            intro ors H
            have z := enter_sound hA IH H
            exact ⟨z.1, fun h g G ok hd gk r fin => mean_pure hd r.noLimit ⟨q, z.2 h g G ok gk r fin⟩⟩
          simp only [step, q] at H
          split at H
          · rename_i ors0 u ors'
            cases e : kcAt ct u with
            | none => simp only [e] at H; cases H
            | some y =>
              cases q0 : y.st with
              | false => simp only [e, q0] at H; cases H
              | true =>
              cases q1 : Nat.ble (depK (.ret py' c' k κ')) y.dep with
              | false => simp only [e, q0, q1] at H; cases H
              | true =>
              cases q2 : Nat.ble (unK (.ret py' c' k κ')) y.un with
              | false => simp only [e, q0, q1, q2] at H; cases H
              | true =>
                simp only [e, q0, q1, q2, putK_eq, appK_eq] at H
                have z := IH _ _ _ _ _ _ _ _ _ _ H
                have mem := fun x hx => z.1 x (List.mem_cons_of_mem _ (List.mem_cons_of_mem _ (List.mem_cons_of_mem _ (List.mem_cons_of_mem _ (List.mem_cons_of_mem _ hx)))))
                refine ⟨mem, fun h g G ok hd gk r fin => mean_pure hd r.noLimit ⟨q, ?_⟩⟩
                have h1 := Nat.le_of_ble_eq_true q1
                have h1' := Nat.le_of_ble_eq_true q2
                have h2 := ins_depth A κ' py' c' k
                have h2' := ins_units A κ' py' c' k
                have o1 : c'' = y.c := ok _ (z.1 _ List.mem_cons_self)
                have o2 : pickB y.js D = y.D₀ := ok _ (z.1 _ (List.mem_cons_of_mem _ List.mem_cons_self))
                have o3 : m = y.m₀ := ok _ (z.1 _ (List.mem_cons_of_mem _ (List.mem_cons_of_mem _ List.mem_cons_self)))
                have o4 : i = y.i₀ := ok _ (z.1 _ (List.mem_cons_of_mem _ (List.mem_cons_of_mem _ (List.mem_cons_of_mem _ List.mem_cons_self))))
                have o5 : frK y.fr0 κ' c' = y.fr := ok _ (z.1 _ (List.mem_cons_of_mem _ (List.mem_cons_of_mem _ (List.mem_cons_of_mem _ (List.mem_cons_of_mem _ List.mem_cons_self)))))
                have hff : ∀ l, y.fr = some l → (ins A κ' c').frames = some l := by
                  intro l el
                  rw [← o5] at el
                  cases e0 : y.fr0 with
                  | none => rw [e0] at el; cases el
                  | some l0 =>
                    rw [e0] at el
                    cases el
                    exact ins_frames (hfr y (kcAt_mem e) l0 e0) κ' c'
                exact (hct y (kcAt_mem e)).use q0 o1 o2 o3 o4 G (by omega) (by omega) ((ins_handled A κ' c').trans hh) hff (hZ y (kcAt_mem e)) r fun h' g' G' r' => z.2 h' g' G' ok gk.1 gk.2 r' fin
          · exact plain _ H
          · exact plain _ H
  | raise e =>
    cases κ with
    | base =>
      obtain rfl : _ = out := Option.some.inj H
      exact ⟨fun _ h => h, fun h g G _ _ _ r fin => mean_raise (fin h g G r)⟩
    | ret py' c' k κ' =>
      have z := IH _ _ _ _ _ _ _ _ _ _ H
      exact ⟨z.1, fun h g G ok _ gk r fin => mean_raise (z.2 h g G ok gk.1 gk.2 r fin)⟩
  | rule tag k => have z := IH _ _ _ _ _ _ _ _ _ _ H; exact ⟨z.1, fun h g G ok hd gk r fin => mean_rule (z.2 h g G ok hd gk r fin)⟩
  | «at» p k => have z := IH _ _ _ _ _ _ _ _ _ _ H; exact ⟨z.1, fun h g G ok hd gk r fin => mean_at (z.2 h g G ok hd gk r fin)⟩
  | point l k => have z := IH _ _ _ _ _ _ _ _ _ _ H; exact ⟨z.1, fun h g G ok hd gk r fin => mean_point (z.2 h g G ok hd gk r fin)⟩
  | ask k =>
    have z := IH _ _ _ _ _ _ _ _ _ _ H
    exact ⟨z.1, fun h g G ok hd gk r fin => mean_ask (by rw [hP]; exact z.2 h g G ok hd gk r fin)⟩
  | load a q k =>
    cases ors with
    | nil => cases H
    | cons x ors =>
      cases x with
      | s =>
        cases e : kGet (K' P) a with
        | none => simp only [step, e] at H; cases H
        | some ob =>
          simp only [step, e] at H
          have z := IH _ _ _ _ _ _ _ _ _ _ H
          exact ⟨z.1, fun h g G ok hd gk r fin => mean_load (r.stat _ (K'_eq P ▸ kGet_mem e)) (z.2 h g G ok hd gk r fin)⟩
      | d j =>
        cases e : nth D j with
        | none => simp only [step, e] at H; cases H
        | some p =>
          simp only [step, e] at H
          have z := IH _ _ _ _ _ _ _ _ _ _ H
          refine ⟨fun x hx => z.1 x (List.mem_cons_of_mem _ hx), fun h g G ok hd gk r fin => ?_⟩
          have ea : a = p.1 := ok _ (z.1 _ List.mem_cons_self)
          subst ea
          exact mean_load (r.own _ (nth_mem e)) (z.2 h g G ok hd gk r fin)
      | b _ => cases H
      | n => cases H
      | g _ _ => cases H
      | t _ _ => cases H
      | k _ => cases H
      | e => cases H
  | loadIfAlive a k =>
    cases ors with
    | nil => cases H
    | cons x ors =>
      cases x with
      | s =>
        cases e : kGet (K' P) a with
        | none => simp only [step, e] at H; cases H
        | some ob =>
          simp only [step, e] at H
          have z := IH _ _ _ _ _ _ _ _ _ _ H
          exact ⟨z.1, fun h g G ok hd gk r fin => mean_alive (r.stat _ (K'_eq P ▸ kGet_mem e)) (z.2 h g G ok hd gk r fin)⟩
      | d j =>
        cases e : nth D j with
        | none => simp only [step, e] at H; cases H
        | some p =>
          simp only [step, e] at H
          have z := IH _ _ _ _ _ _ _ _ _ _ H
          refine ⟨fun x hx => z.1 x (List.mem_cons_of_mem _ hx), fun h g G ok hd gk r fin => ?_⟩
          have ea : a = p.1 := ok _ (z.1 _ List.mem_cons_self)
          subst ea
          exact mean_alive (r.own _ (nth_mem e)) (z.2 h g G ok hd gk r fin)
      | b _ => cases H
      | n => cases H
      | g _ _ => cases H
      | t _ _ => cases H
      | k _ => cases H
      | e => cases H
  | update a q f k =>
    cases ors with
    | nil => cases H
    | cons x ors =>
      cases x with
      | s => cases H
      | d j =>
        cases e : nth D j with
        | none => simp only [step, e] at H; cases H
        | some p =>
          cases ef : (f p.2).isFreed with
          | true => simp only [step, e, ef] at H; cases H
          | false =>
            simp only [step, e, ef, setK_eq] at H
            have z := IH _ _ _ _ _ _ _ _ _ _ H
            refine ⟨fun x hx => z.1 x (List.mem_cons_of_mem _ hx), fun h g G ok hd gk r fin => ?_⟩
            have ea : a = p.1 := ok _ (z.1 _ List.mem_cons_self)
            subst ea
            exact mean_update (r.own _ (nth_mem e)) (z.2 _ g G ok hd gk (r.update e ef) fin)
      | b _ => cases H
      | n => cases H
      | g _ _ => cases H
      | t _ _ => cases H
      | k _ => cases H
      | e => cases H
  | alloc ob k =>
    cases ef : ob.isFreed with
    | true => simp only [step, ef] at H; cases H
    | false =>
      simp only [step, ef, snocK_eq] at H
      have z := IH _ _ _ _ _ _ _ _ _ _ H
      refine ⟨z.1, fun h g G ok hd gk r fin => mean_alloc ?_⟩
      have := z.2 _ g G ok hd gk (r.alloc ef) fin
      have es : h.objs.size = b + m := r.size
      show Mean w A Q E κ py c (k h.objs.size) _
      rw [es]; exact this
  | fresh k =>
    have z := IH _ _ _ _ _ _ _ _ _ _ H
    exact ⟨z.1, fun h g G ok hd gk r fin => mean_fresh (z.2 h g G ok hd gk r fin)⟩
  | handled own k =>
    cases own with
    | true => cases H
    | false =>
      have z := IH _ _ _ _ _ _ _ _ _ _ H
      exact ⟨z.1, fun h g G ok hd gk r fin => mean_handled hh (z.2 h g G ok hd gk r fin)⟩
  | call c' hd' g' l k =>
    cases hd' with
    | some v => cases H
    | none =>
      have plain : ∀ ors, enter P ih ors c' (.ret py c k κ) D m i os = some out → Shows w A Q E P b t₀ h₀ d o J py c κ (.call c' none g' l k) D m i os out := by
        intro ors H
        have z := enter_sound hA IH H
        exact ⟨z.1, fun h g G ok hd gk r fin => mean_call (z.2 h g G ok ⟨hd, gk⟩ r fin)⟩
      cases ors with
      | nil => exact plain _ H
      | cons x ors =>
        cases x with
        | s => exact plain _ H
        | e => exact plain _ H
        | d j => exact plain _ H
        | b rr =>
          cases sp with
          | false => cases H
          | true =>
            simp only [step] at H
            split at H
            · rename_i id x tx y ty
              cases eop : intOp id with
              | zero => simp only [eop] at H; exact plain _ H
              | succ op =>
                simp only [eop] at H
                have z := IH _ _ _ _ _ _ _ _ _ _ H
                refine ⟨fun x hx => z.1 x (List.mem_cons_of_mem _ hx), fun h g G ok hd gk r fin => mean_call ?_⟩
                have eb : cmpB (op + 1) x y = rr := ok _ (z.1 _ List.mem_cons_self)
                refine codeAny_mono ((hsp rfl).cmp id op x y tx ty _ _ eop) ?_
                rintro r' s' ⟨rfl, rfl⟩
                rw [eb]
                exact z.2 h g G ok hd gk r fin
            · exact plain _ H
        | n =>
          cases sp with
          | false => cases H
          | true =>
            simp only [step] at H
            split at H
            · rename_i id x tx
              cases eid : (id == "len") with
              | false => simp only [eid] at H; exact plain _ H
              | true =>
                simp only [eid] at H
                obtain rfl : id = "len" := eq_of_beq eid
                have z := IH _ _ _ _ _ _ _ _ _ _ H
                refine ⟨fun x hx => z.1 x (List.mem_cons_of_mem _ hx), fun h g G ok hd gk r fin => ?_⟩
                have ob : (x.length : Int) < 9223372036854775808 := ok _ (z.1 _ List.mem_cons_self)
                exact mean_via ((hsp rfl).len x tx _ _ ob) (z.2 h g G ok hd gk r fin)
            · exact plain _ H
        | g j v =>
          cases sp with
          | false => cases H
          | true =>
            simp only [step] at H
            split at H
            · rename_i id x tx a
              cases eid : (id == "str.__getitem__") with
              | false => simp only [eid] at H; exact plain _ H
              | true =>
                simp only [eid] at H
                obtain rfl : id = "str.__getitem__" := eq_of_beq eid
                cases e : nth D j with
                | none => simp only [e] at H; cases H
                | some p =>
                  cases e2 : sliceOf p.2 with
                  | none => simp only [e, e2] at H; cases H
                  | some q =>
                    simp only [e, e2] at H
                    have z := IH _ _ _ _ _ _ _ _ _ _ H
                    refine ⟨fun x hx => z.1 x (List.mem_cons_of_mem _ (List.mem_cons_of_mem _ hx)), fun h g G ok hd gk r fin => ?_⟩
                    have ob : pieceOf x q.1.1 q.2.1 = some v := ok _ (z.1 _ List.mem_cons_self)
                    have ea : a = p.1 := ok _ (z.1 _ (List.mem_cons_of_mem _ List.mem_cons_self))
                    subst ea
                    exact mean_via ((hsp rfl).sl x v tx p.1 q.1.1 q.2.1 q.1.2 q.2.2 _ _ (sliceOf_is e2 (r.own _ (nth_mem e))) ob) (z.2 h g G ok hd gk r fin)
            · exact plain _ H
        | t j rr =>
          cases sp with
          | false => cases H
          | true =>
            simp only [step] at H
            split at H
            · rename_i id a x tx
              cases eid : (id == "tuple.__contains__") with
              | false => simp only [eid] at H; exact plain _ H
              | true =>
                simp only [eid] at H
                obtain rfl : id = "tuple.__contains__" := eq_of_beq eid
                cases e : nth D j with
                | none => simp only [e] at H; cases H
                | some p =>
                  cases e2 : tupOf p.2 with
                  | none => simp only [e, e2] at H; cases H
                  | some ys =>
                    simp only [e, e2] at H
                    have z := IH _ _ _ _ _ _ _ _ _ _ H
                    refine ⟨fun x hx => z.1 x (List.mem_cons_of_mem _ (List.mem_cons_of_mem _ hx)), fun h g G ok hd gk r fin => ?_⟩
                    have ob : ys.any (· == x) = rr := ok _ (z.1 _ List.mem_cons_self)
                    have ea : a = p.1 := ok _ (z.1 _ (List.mem_cons_of_mem _ List.mem_cons_self))
                    subst ea
                    obtain ⟨items, it, sa⟩ := tupOf_is e2 (r.own _ (nth_mem e))
                    refine mean_via ((hsp rfl).tin ys x tx p.1 items _ _ it sa) ?_
                    rw [ob]
                    exact z.2 h g G ok hd gk r fin
            · exact plain _ H
        | k u =>
          simp only [step] at H
          cases e : kcAt ct u with
          | none => simp only [e] at H; cases H
          | some y =>
            cases q1 : Nat.ble (depK (.ret py c k κ)) y.dep with
            | false => simp only [e, q1] at H; cases H
            | true =>
            cases q2 : Nat.ble (unK (.ret py c k κ)) y.un with
            | false => simp only [e, q1, q2] at H; cases H
            | true =>
              simp only [e, q1, q2, putK_eq, appK_eq] at H
              have z := IH _ _ _ _ _ _ _ _ _ _ H
              have mem := fun x hx => z.1 x (List.mem_cons_of_mem _ (List.mem_cons_of_mem _ (List.mem_cons_of_mem _ (List.mem_cons_of_mem _ (List.mem_cons_of_mem _ hx)))))
              refine ⟨mem, fun h g G ok hd gk r fin => mean_callIn ?_⟩
              have h1 := Nat.le_of_ble_eq_true q1
              have h1' := Nat.le_of_ble_eq_true q2
              have h2 := ins_depth A κ py c k
              have h2' := ins_units A κ py c k
              have o1 : c' = y.c := ok _ (z.1 _ List.mem_cons_self)
              have o2 : pickB y.js D = y.D₀ := ok _ (z.1 _ (List.mem_cons_of_mem _ List.mem_cons_self))
              have o3 : m = y.m₀ := ok _ (z.1 _ (List.mem_cons_of_mem _ (List.mem_cons_of_mem _ List.mem_cons_self)))
              have o4 : i = y.i₀ := ok _ (z.1 _ (List.mem_cons_of_mem _ (List.mem_cons_of_mem _ (List.mem_cons_of_mem _ List.mem_cons_self))))
              have o5 : frK y.fr0 κ c = y.fr := ok _ (z.1 _ (List.mem_cons_of_mem _ (List.mem_cons_of_mem _ (List.mem_cons_of_mem _ (List.mem_cons_of_mem _ List.mem_cons_self)))))
              have hff : ∀ l, y.fr = some l → (ins A κ c).frames = some l := by
                intro l el
                rw [← o5] at el
                cases e0 : y.fr0 with
                | none => rw [e0] at el; cases el
                | some l0 =>
                  rw [e0] at el
                  cases el
                  exact ins_frames (hfr y (kcAt_mem e) l0 e0) κ c
              exact (hct y (kcAt_mem e)).useI o1 o2 o3 o4 G (by omega) (by omega) ((ins_handled A κ c).trans hh) hff (hZ y (kcAt_mem e)) r fun h' g' G' r' => z.2 h' g' G' ok hd gk r' fin
  | stack k => cases H
  | unsupported => cases H
  | finish => cases H
  | register => cases H
  | choose => cases H
  | os => cases H
  | newGen => cases H
  | genState => cases H
  | resume => cases H
  | yield => cases H
  | fork => cases H
  | thread => cases H
  | await => cases H
theorem go_sound (hP : w.params = P) (hA : A.depth ≤ 800) (hh : A.handled = none) (hsp : sp = true → Sp w) (hct : CtOk w P N U b t₀ ct) (hfr : ∀ y ∈ ct, ∀ l, y.fr0 = some l → A.frames = some l) (hZ : ∀ y ∈ ct, ∀ a ∈ y.Z, a ∈ h₀.Z) (hN : A.depth ≤ N) (hU : A.units ≤ U) : ∀ n, AllShow w A Q E P b t₀ h₀ d o J (go pw P b t₀ sp ct n)
  | 0 => fun _ _ _ _ _ _ _ _ _ _ H => by cases H
  | n + 1 => step_sound hP hA hh hsp hct hfr hZ hN hU (go_sound hP hA hh hsp hct hfr hZ hN hU n)
end
/-! ## How a run is used -/
noncomputable def kT : Result → Sem Fin := fun r => match r with | .ok f => .pure (.done f) | .error e => .raise e
noncomputable def cx : Code := .builtin "x" {}
noncomputable def kx : Kn := .ret false cx kT .base
noncomputable def EndsC (R : Result → Shared → Prop) (r : Except Value Fin) (s : Shared) : Prop := match r with
  | .ok (.done f) => R (.ok f) s
  | .ok (.again _) => False
  | .error e => R (.error e) s
/-- a tree that may stand for another where there is room on the stack -/
noncomputable def Thn {α : Type} (t t' : Sem α) : Prop := ∀ (M : Model) (Γ : Ctx) (Q : α → Pos → Shared → Prop) (E : Value → Pos → Shared → Prop) (p : Pos) (s : Shared), Γ.units < cLine → Sem.wp M Γ t' Q E p s → Sem.wp M Γ t Q E p s
namespace Thn
variable {α β : Type}
theorem rfl {t : Sem α} : Thn t t := fun _ _ _ _ _ _ _ h => h
theorem of_eq {t t' : Sem α} (h : t = t') : Thn t t' := h ▸ Thn.rfl
theorem trans {t t' t'' : Sem α} (h : Thn t t') (h' : Thn t' t'') : Thn t t'' := fun M Γ Q E p s u x => h M Γ Q E p s u (h' M Γ Q E p s u x)
theorem bind {m m' : Sem α} {f f' : α → Sem β} (h : Thn m m') (hf : ∀ a, Thn (f a) (f' a)) : Thn (m >>= f) (m' >>= f') := fun M Γ Q E p s u x => by
  rw [Sem.wp_bind'] at x ⊢
  exact h _ _ _ _ _ _ u (Sem.wp_mono _ _ _ (fun a p' s' y => hf a _ _ _ _ _ _ u y) (fun _ _ _ y => y) _ _ x)
theorem onRaise {m m' : Sem α} {f : Value → Sem Unit} (h : Thn m m') : Thn (m.onRaise f) (m'.onRaise f) := fun M Γ Q E p s u x => by
  rw [Sem.wp_onRaise] at x ⊢
  exact h _ _ _ _ _ _ u x
theorem keep {vs : List Value} {m m' : Sem α} (h : Thn m m') : Thn (m.keep vs) (m'.keep vs) := fun M Γ Q E p s u x => by
  rw [Sem.wp_keep] at x ⊢
  exact h _ _ _ _ _ _ u x
theorem holding {vs : List Value} {m m' : Sem α} (h : Thn m m') : Thn (PySem.holding vs m) (PySem.holding vs m') := fun M Γ Q E p s u x => by
  rw [Sem.wp_holding] at x ⊢
  exact h _ _ _ _ _ _ u x
theorem room {what : String} {vs : List Value} : Thn (cRoomFor what vs) (pure ()) := fun M Γ Q E p s u x => Sem.wp_cRoomFor what vs u x
end Thn
noncomputable def resM (ms : List Bool) (o : Option Out) : Option (Except Value Fin × Dy × Nat × Nat × List Ob) := o.map fun x => (x.r, pickB ms x.D, x.m, x.i, x.os)
noncomputable def finOf : Except Value Fin → Option Result
  | .ok (.done f) => some (.ok f)
  | .ok (.again _) => none
  | .error e => some (.error e)
section
variable {w : World} {P : Params} {N U b t n m₁ i₁ : Nat} {sp : Bool} {ct : List KC} {ors : List Rf} {ms : List Bool} {c : Code} {D₀ D₁ : Dy} {os : List Ob} {er : Except Value Fin} {r : Result} {fr : Option (List Env)} {Z : List Addr}
theorem con_of {t' : Bool × Sem Fin} (hP : w.params = P) (hsp : Sp w) (hct : CtOk w P N U b t ct) (hfr : ∀ y ∈ ct, ∀ l, y.fr0 = some l → fr = some l) (hZ : ∀ y ∈ ct, ∀ a ∈ y.Z, a ∈ Z) (hN : N ≤ 800)
    (hent : ∀ {B : Around} {h₀ : Bs} {Q' : Fin → Shared → Prop} {E' : Value → Shared → Prop} {s : Shared}, B.units ≤ U → Rp P h₀ s.heap D₀ b 0 → wpAny (Md w) (B.under c) (tl t'.1 t'.2) Q' E' s → PySem.wpAt (Md w) (B.under c) c (denote table c) Q' E' s)
    (hw : t'.1 = true → c.weight = 0)
    (H : resM ms (go pw P b t sp ct n ors t'.1 c kx t'.2 D₀ 0 0 []) = some (er, D₁, m₁, i₁, os)) (hr : finOf er = some r) (ok : ∀ x ∈ os, x.ok) : ConF fr Z w P N U c D₀ D₁ b t m₁ i₁ r := by
  intro h g d o B J G hB hU hh hf rp R hR
  obtain ⟨out, ho, he⟩ := Option.map_eq_some_iff.mp H
  obtain ⟨rfl, h2⟩ := Prod.mk.inj he
  obtain ⟨rfl, h3⟩ := Prod.mk.inj h2
  obtain ⟨rfl, h4⟩ := Prod.mk.inj h3
  obtain ⟨rfl, rfl⟩ := Prod.mk.inj h4
  have z := (go_sound (w := w) (A := B) (Q := fun fin s => EndsC R (.ok fin) s) (E := fun e s => R (.error e) s) (h₀ := ⟨h, D₀.map (·.1), Z⟩) (d := d) (o := o) hP (Nat.le_trans hB hN) hh (fun _ => hsp) hct (fun y hy l e => hf l (hfr y hy l e)) hZ hB hU n _ _ _ _ _ _ _ _ _ _ ho).2 h g G ok
    (fun e => by
      show B.depth + c.weight < recursionLimit
      rw [hw e]
      have h5 : recursionLimit = 1000 := rfl
      omega) ⟨fun e => absurd e Bool.false_ne_true, trivial⟩ rp (fun h' g' G' r' => by
      have y := hR h' g' G' (r'.thin (pickB_sub ms _))
      revert hr
      cases out.r with
      | error e => intro q; cases q; exact y
      | ok f => cases f with
        | done f => intro q; cases q; exact y
        | again _ => intro q; cases q)
  have z2 : codeAny (Md w) B c (fun r s' => Mean w B (fun fin s => EndsC R (.ok fin) s) (fun e s => R (.error e) s) .base false cx (kT r) s') ⟨h, g, d, t, o⟩ := PySem.codeAny_of_treeAt (hent hU rp z)
  intro Γ p hc hΓ
  refine wpCode_mono (fun r s hr => ?_) (z2 Γ p hc hΓ)
  have hin : (⟨.block [] default, Γ.handled, Γ.own, Γ.below, Γ.past⟩ : Ctx).In B :=
    ⟨hΓ.1, hΓ.2.1, fun l hl => hΓ.2.2.1 l hl, fun g hg => hΓ.2.2.2.1 g hg, by
      show (Code.block [] default).cUnits + unitsOf Γ.below ≤ B.units
      have := hΓ.2.2.2.2
      have e : (Code.block [] default).cUnits = 0 := rfl
      omega⟩
  have := hr _ p hin
  cases r with
  | ok f => exact this
  | error e => exact this
theorem conF_of_run (hP : w.params = P) (hsp : Sp w) (hct : CtOk w P N U b t ct) (hfr : ∀ y ∈ ct, ∀ l, y.fr0 = some l → fr = some l) (hZ : ∀ y ∈ ct, ∀ a ∈ y.Z, a ∈ Z) (hN : N ≤ 800)
    (H : resM ms (enter P (go pw P b t sp ct n) ors c kx D₀ 0 0 []) = some (er, D₁, m₁, i₁, os)) (hr : finOf er = some r) (ok : ∀ x ∈ os, x.ok) : ConF fr Z w P N U c D₀ D₁ b t m₁ i₁ r := by
  refine con_of (t' := ent P c) (ms := ms) (ors := ors) (sp := sp) (n := n) hP hsp hct hfr hZ hN (fun _ rp h => PySem.wpAt_of_wpAny (ent_sound rp h)) (fun e => ?_) ?_ hr ok
  · unfold ent at e
    cases c with
    | call f args => exact call_weight f args
    | _ => cases e
  · unfold enter at H
    cases e : (ent P c).1 with
    | false => rw [e] at H; exact H
    | true =>
      rw [e] at H
      exact H
/-- a tree that may stand for a code's own, where there is room on the stack -/
noncomputable def ThnC (c : Code) (t t' : Sem Fin) : Prop := ∀ (M : Model) (Γ : Ctx) (Q : Fin → Pos → Shared → Prop) (E : Value → Pos → Shared → Prop) (p : Pos) (s : Shared), Γ.code = c → Γ.units < cLine → Sem.wp M Γ t' Q E p s → Sem.wp M Γ t Q E p s
theorem Thn.toC {c : Code} {t t' : Sem Fin} (h : Thn t t') : ThnC c t t' := fun M Γ Q E p s _ u x => h M Γ Q E p s u x
theorem ThnC.stack {c : Code} {k : List (Code × Pos) → Sem Fin} {t' : Sem Fin} (h : ∀ p l, k ((c, p) :: l) = t') : ThnC c (.stack k) t' := fun M Γ Q E p s e _ x => by
  rw [Sem.wp_stack, e, h]; exact x
theorem conF_of_tree {t' : Sem Fin} (hP : w.params = P) (hsp : Sp w) (hct : CtOk w P N U b t ct) (hfr : ∀ y ∈ ct, ∀ l, y.fr0 = some l → fr = some l) (hZ : ∀ y ∈ ct, ∀ a ∈ y.Z, a ∈ Z) (hN : N ≤ 800) (hU : U + c.cUnits < cLine) (ht : ThnC c (denote treeTable c) t')
    (H : resM ms (go pw P b t sp ct n ors false c kx t' D₀ 0 0 []) = some (er, D₁, m₁, i₁, os)) (hr : finOf er = some r) (ok : ∀ x ∈ os, x.ok) : ConF fr Z w P N U c D₀ D₁ b t m₁ i₁ r := by
  refine con_of (t' := (false, t')) hP hsp hct hfr hZ hN (fun hB rp h => ?_) (fun e => by cases e) H hr ok
  rw [denote_tree]
  intro Γ p hc hΓ
  refine ht _ _ _ _ _ _ hc ?_ (h Γ p hΓ)
  refine Nat.lt_of_le_of_lt hΓ.2.2.2.2 (Nat.lt_of_le_of_lt ?_ hU)
  exact Nat.add_le_add_right hB _
end
/-- what is known of a tree that is run from a frame -/
noncomputable def TreeF (fr : Option (List Env)) (Z : List Addr) (w : World) (P : Params) (N U : Nat) (t' : Sem Fin) (D₀ D₁ : Dy) (b t m₁ i₁ : Nat) (er : Except Value Fin) : Prop :=
  ∀ (h : Heap) (g : Array GenState) (d : Drawn) (o : OsState) (A : Around) (J : Array GenState → Prop), J g → A.depth ≤ N → A.units ≤ U → A.handled = none → (∀ l, fr = some l → A.frames = some l) → Rp P ⟨h, D₀.map (·.1), Z⟩ h D₀ b 0 →
    ∀ (Q : Fin → Shared → Prop) (E : Value → Shared → Prop), (∀ h' g', J g' → Rp P ⟨h, D₀.map (·.1), Z⟩ h' D₁ b m₁ → Ends Q E er ⟨h', g', d, t + i₁, o⟩) → wpAny (Md w) A t' Q E ⟨h, g, d, t, o⟩
theorem tree_of {w : World} {P : Params} {N U b t n m₁ i₁ : Nat} {sp : Bool} {ct : List KC} {ors : List Rf} {ms : List Bool} {c : Code} {D₀ D₁ : Dy} {os : List Ob} {er : Except Value Fin} {fr : Option (List Env)} {Z : List Addr} {t' : Sem Fin}
    (hP : w.params = P) (hsp : Sp w) (hct : CtOk w P N U b t ct) (hfr : ∀ y ∈ ct, ∀ l, y.fr0 = some l → fr = some l) (hZ : ∀ y ∈ ct, ∀ a ∈ y.Z, a ∈ Z) (hN : N ≤ 800)
    (H : resM ms (go pw P b t sp ct n ors false c .base t' D₀ 0 0 []) = some (er, D₁, m₁, i₁, os)) (ok : ∀ x ∈ os, x.ok) : TreeF fr Z w P N U t' D₀ D₁ b t m₁ i₁ er := by
  intro h g d o A J G hB hU hh hf rp Q E hQ
  obtain ⟨out, ho, he⟩ := Option.map_eq_some_iff.mp H
  obtain ⟨rfl, h2⟩ := Prod.mk.inj he
  obtain ⟨rfl, h3⟩ := Prod.mk.inj h2
  obtain ⟨rfl, h4⟩ := Prod.mk.inj h3
  obtain ⟨rfl, rfl⟩ := Prod.mk.inj h4
  exact (go_sound (w := w) (A := A) (Q := Q) (E := E) (h₀ := ⟨h, D₀.map (·.1), Z⟩) (d := d) (o := o) hP (Nat.le_trans hB hN) hh (fun _ => hsp) hct (fun y hy l e => hf l (hfr y hy l e)) hZ hB hU n _ _ _ _ _ _ _ _ _ _ ho).2 h g G ok
    (fun e => absurd e Bool.false_ne_true) trivial rp (fun h' g' G' r' => hQ h' g' G' (r'.thin (pickB_sub ms _)))
/-- a code by the code that its tree ends in -/
theorem code_again {w : World} {P : Params} {N U b t n m₁ i₁ : Nat} {sp : Bool} {ct : List KC} {ors : List Rf} {ms : List Bool} {c c' : Code} {D₀ D₁ : Dy} {os : List Ob} {fr : Option (List Env)} {Z : List Addr}
    (hP : w.params = P) (hsp : Sp w) (hct : CtOk w P N U b t ct) (hfr : ∀ y ∈ ct, ∀ l, y.fr0 = some l → fr = some l) (hZ : ∀ y ∈ ct, ∀ a ∈ y.Z, a ∈ Z) (hN : N ≤ 800)
    (H : resM ms (enter P (go pw P b t sp ct n) ors c .base D₀ 0 0 []) = some (.ok (.again c'), D₁, m₁, i₁, os)) (hq : c'.quiet = true) (ok : ∀ x ∈ os, x.ok)
    {h : Heap} {g : Array GenState} {d : Drawn} {o : OsState} {B : Around} {J : Array GenState → Prop} (G : J g) (hB : B.depth ≤ N) (hU : B.units ≤ U) (hh : B.handled = none) (hf : ∀ l, fr = some l → B.frames = some l)
    (hw : c.weight = 0) (hu : (B.under c).units ≤ U) (hcf : (B.under c).frames = B.frames) (rp : Rp P ⟨h, D₀.map (·.1), Z⟩ h D₀ b 0) {R : Result → Shared → Prop}
    (hR : ∀ h' g', J g' → Rp P ⟨h, D₀.map (·.1), Z⟩ h' D₁ b m₁ → codeAny (Md w) B c' R ⟨h', g', d, t + i₁, o⟩) : codeAny (Md w) B c R ⟨h, g, d, t, o⟩ := by
  obtain ⟨out, ho, he⟩ := Option.map_eq_some_iff.mp H
  obtain ⟨er, h2⟩ := Prod.mk.inj he
  obtain ⟨rfl, h3⟩ := Prod.mk.inj h2
  obtain ⟨rfl, h4⟩ := Prod.mk.inj h3
  obtain ⟨rfl, rfl⟩ := Prod.mk.inj h4
  have hd : (B.under c).depth = B.depth := by
    show B.depth + c.weight = B.depth
    rw [hw]; rfl
  have hE : go pw P b t sp ct n ors (ent P c).1 c .base (ent P c).2 D₀ 0 0 [] = some out := by
    unfold enter at ho
    cases e : (ent P c).1 with
    | false => rw [e] at ho; exact ho
    | true => rw [e] at ho; exact ho
  have z := (go_sound (w := w) (A := B.under c) (Q := fun fin s => match fin with | .done f => R (.ok f) s | .again c' => c'.quiet = true ∧ codeAny (Md w) B c' R s) (E := fun e s => R (.error e) s) (h₀ := ⟨h, D₀.map (·.1), Z⟩) (d := d) (o := o)
    hP (hd ▸ Nat.le_trans hB hN) hh (fun _ => hsp) hct (fun y hy l e => hcf ▸ hf l (hfr y hy l e)) hZ (hd ▸ hB) hu n _ _ _ _ _ _ _ _ _ _ hE).2 h g G ok
    (fun _ => by
      show (B.under c).depth < recursionLimit
      rw [hd]
      have h5 : recursionLimit = 1000 := rfl
      omega) trivial rp (fun h' g' G' r' => by
      rw [er]
      exact ⟨hq, hR h' g' G' (r'.thin (pickB_sub ms _))⟩)
  exact x_code (ent_sound rp z)
theorem ConF.mono {fr : Option (List Env)} {Z : List Addr} {w : World} {P : Params} {N N' U U' b t m₁ i₁ : Nat} {c : Code} {D₀ D₁ : Dy} {r : Result} (h : ConF fr Z w P N U c D₀ D₁ b t m₁ i₁ r) (hN : N' ≤ N) (hU : U' ≤ U) : ConF fr Z w P N' U' c D₀ D₁ b t m₁ i₁ r :=
  fun hp g d o B J G hB hu hh hf rp R hR => h hp g d o B J G (Nat.le_trans hB hN) (Nat.le_trans hu hU) hh hf rp R hR
/-! ## Comparisons of ints -/
noncomputable def cmpId (op : Nat) : String := match op with | 1 => "int.__lt__" | 2 => "int.__le__" | 3 => "int.__gt__" | 4 => "int.__ge__" | 5 => "int.__eq__" | _ => "int.__ne__"
noncomputable def cmpL1 (op : Nat) (x y : Int) (tx ty : Nat) : Sem Fin := denote treeTable (.call (.builtin (cmpId op)) ⟨[.int x tx, .int y ty], []⟩)
noncomputable def cmpR1 (op : Nat) (x y : Int) (tx ty : Nat) : Sem Fin := .pure (.again (.builtin (cmpId op) ⟨[.int x tx, .int y ty], []⟩))
noncomputable def cmpL2 (op : Nat) (x y : Int) (tx ty : Nat) : Sem Fin := denote treeTable (.builtin (cmpId op) ⟨[.int x tx, .int y ty], []⟩)
noncomputable def cmpR2 (op : Nat) (x y : Int) : Sem Fin := .pure (.done (.ret (.bool (cmpB op x y))))
theorem trigC : (fun _ _ _ _ => true) cmpL1 cmpR1 cmpL2 cmpR2 = true := by k_qdec
theorem chkCmp1 (op : Nat) (h0 : 0 < op) (h : op < 7) (x y : Int) (tx ty : Nat) : cmpL1 op x y tx ty = cmpR1 op x y tx ty := by
  rw [PySem.W.Fast.te10518238466325244360, PySem.W.Fast.te11128582035690128664]
  match op, h0, h with
  | 1, _, _ => kernel_rfl
  | 2, _, _ => kernel_rfl
  | 3, _, _ => kernel_rfl
  | 4, _, _ => kernel_rfl
  | 5, _, _ => kernel_rfl
  | 6, _, _ => kernel_rfl
theorem chkCmp2 (op : Nat) (h0 : 0 < op) (h : op < 7) (x y : Int) (tx ty : Nat) : cmpL2 op x y tx ty = cmpR2 op x y := by
  rw [PySem.W.Fast.te10266379575016904873]
  match op, h0, h with
  | 1, _, _ => kernel_rfl
  | 2, _, _ => kernel_rfl
  | 3, _, _ => kernel_rfl
  | 4, _, _ => kernel_rfl
  | 5, _, _ => kernel_rfl
  | 6, _, _ => kernel_rfl
theorem intOp_id {id : String} {op : Nat} (h : intOp id = op + 1) : id = cmpId (op + 1) ∧ op + 1 < 7 := by
  unfold intOp at h
  split at h
  · rename_i e
    obtain rfl : op = 0 := by omega
    exact ⟨eq_of_beq e, by omega⟩
  split at h
  · rename_i e
    obtain rfl : op = 1 := by omega
    exact ⟨eq_of_beq e, by omega⟩
  split at h
  · rename_i e
    obtain rfl : op = 2 := by omega
    exact ⟨eq_of_beq e, by omega⟩
  split at h
  · rename_i e
    obtain rfl : op = 3 := by omega
    exact ⟨eq_of_beq e, by omega⟩
  split at h
  · rename_i e
    obtain rfl : op = 4 := by omega
    exact ⟨eq_of_beq e, by omega⟩
  split at h
  · rename_i e
    obtain rfl : op = 5 := by omega
    exact ⟨eq_of_beq e, by omega⟩
  omega
theorem cmp_quiet (op : Nat) (h0 : 0 < op) (h : op < 7) (args : Args) : (Code.builtin (cmpId op) args).quiet = true := by
  refine Code.quiet_builtin args ?_
  match op, h0, h with
  | 1, _, _ => decide +kernel
  | 2, _, _ => decide +kernel
  | 3, _, _ => decide +kernel
  | 4, _, _ => decide +kernel
  | 5, _, _ => decide +kernel
  | 6, _, _ => decide +kernel
theorem cmpOk (w : World) : CmpOk w := by
  intro id op x y tx ty B s h
  obtain ⟨rfl, h7⟩ := intOp_id h
  refine x_code ?_
  rw [denote_tree, show denote treeTable (.call (.builtin (cmpId (op + 1))) ⟨[.int x tx, .int y ty], []⟩) = _ from chkCmp1 (op + 1) (Nat.succ_pos _) h7 x y tx ty]
  refine wpAny_pure ⟨cmp_quiet _ (Nat.succ_pos _) h7 _, x_code ?_⟩
  rw [denote_tree, show denote treeTable (.builtin (cmpId (op + 1)) ⟨[.int x tx, .int y ty], []⟩) = _ from chkCmp2 (op + 1) (Nat.succ_pos _) h7 x y tx ty]
  exact wpAny_pure ⟨rfl, rfl⟩
theorem spOk (w : World) : Sp w where
  cmp := cmpOk w
  len := fun x t B s h => PySem.P.len_str (by omega) ⟨rfl, rfl⟩
  sl := fun x v t a p q tp tq B s hs h => by
    refine call_meets F.slot_str_getitem (typeIs_str s x t) F.entry_str_getitem (F.args_str_getitem_2 _ _) (meets_str_getitem_slice x t a (some (p, tp)) (some (q, tq)) none rfl) ⟨hs, ?_⟩
    unfold pieceOf at h
    have e : slicePicked x (some (p, tp)) (some (q, tq)) none = slicePicked x (some (p, 0)) (some (q, 0)) none := rfl
    unfold sliceMade
    rw [e]
    generalize slicePicked x (some (p, 0)) (some (q, 0)) none = l at h
    dsimp only at h
    cases el : l.length == x.length with
    | true => rw [el] at h; cases h
    | false =>
      rw [el] at h
      dsimp only at h
      cases eb : Nat.blt sizeLine (l.filterMap (x.cps[·]?)).toArray.size with
      | true => rw [eb] at h; cases h
      | false =>
        rw [eb] at h
        cases h
        refine ⟨?_, rfl, rfl⟩
        have : ¬ sizeLine < (l.filterMap (x.cps[·]?)).toArray.size := fun hh => by
          have h1 : Nat.blt sizeLine (l.filterMap (x.cps[·]?)).toArray.size = true := Nat.ble_eq.mpr hh
          rw [eb] at h1; cases h1
        exact Nat.not_lt.mp this
  tin := fun ys x t a items B s it sa => by
    have hT : s.TypeIs (.ref a) "tuple" := let ⟨o, ho, hc, _⟩ := it; ⟨o, ho, hc⟩
    exact wpAny_call_entry slot_tuple_contains hT entry_tuple_contains (tuple_contains_strs it sa ⟨_, rfl, rfl, rfl⟩) (args_tuple_contains _ _)
noncomputable def wordchars : Str := ⟨(Str.ofString "abcdfeghijklmnopqrstuvwxyzABCDEFGHIJKLMNOPQRSTUVWXYZ0123456789_").cps ++ #[223, 224, 225, 226, 227, 228, 229, 230, 231, 232, 233, 234, 235, 236, 237, 238, 239, 240, 241, 242, 243, 244, 245, 246, 248, 249, 250, 251, 252, 253, 254, 255, 192, 193, 194, 195, 196, 197, 198, 199, 200, 201, 202, 203, 204, 205, 206, 207, 208, 209, 210, 211, 212, 213, 214, 216, 217, 218, 219, 220, 221, 222]⟩
structure Lx where
  L : Addr
  d : Addr
  q : Addr
  io : Addr
  iod : Addr
  fs : Addr
  kt : Nat → Nat
  vt : Nat → Nat
noncomputable def lexDict (P : Params) (x : Lx) (state token : Value) : Obj := { cls := .type "dict", data := .dict #[
  en P (Str.ofString "instream") (x.kt 0) (.ref x.io), en P (Str.ofString "infile") (x.kt 1) .none, en P (Str.ofString "posix") (x.kt 2) (.bool true), en P (Str.ofString "eof") (x.kt 3) .none,
  en P (Str.ofString "commenters") (x.kt 4) (.str (Str.ofString "#") (x.vt 4)), en P (Str.ofString "wordchars") (x.kt 5) (.str wordchars (x.vt 5)), en P (Str.ofString "whitespace") (x.kt 6) (.str ⟨#[32, 9, 13, 10]⟩ (x.vt 6)),
  en P (Str.ofString "whitespace_split") (x.kt 7) (.bool false), en P (Str.ofString "quotes") (x.kt 8) (.str ⟨#[39, 34]⟩ (x.vt 8)), en P (Str.ofString "escape") (x.kt 9) (.str ⟨#[92]⟩ (x.vt 9)), en P (Str.ofString "escapedquotes") (x.kt 10) (.str ⟨#[34]⟩ (x.vt 10)),
  en P (Str.ofString "state") (x.kt 11) state, en P (Str.ofString "pushback") (x.kt 12) (.ref x.q), en P (Str.ofString "lineno") (x.kt 13) (.int 1 (x.vt 13)), en P (Str.ofString "debug") (x.kt 14) (.int 0 (x.vt 14)),
  en P (Str.ofString "token") (x.kt 15) token, en P (Str.ofString "filestack") (x.kt 16) (.ref x.fs), en P (Str.ofString "source") (x.kt 17) .none, en P (Str.ofString "_punctuation_chars") (x.kt 18) (.str ⟨#[]⟩ (x.vt 18))] 19 }
noncomputable def lexObj (x : Lx) : Obj := { cls := .ref 732, dict := some x.d }
noncomputable def deqObj (e : Int) (its : List Value) : Obj := { cls := .type "collections.deque", data := .fields ⟨.none :: .int e 0 :: its⟩ }
noncomputable def ioObj (x : Lx) : Obj := { cls := .ref 597, dict := some x.iod }
noncomputable def ioDict (P : Params) (x : Lx) (text : Str) (pos : Value) : Obj := { cls := .type "dict", data := .dict #[
  en P (Str.ofString "_StringIO__newline") (x.kt 20) (.str ⟨#[10]⟩ 756), en P (Str.ofString "_StringIO__buf") (x.kt 21) (.str text (x.vt 21)), en P (Str.ofString "_StringIO__pos") (x.kt 22) pos] 3 }
noncomputable def lexD (P : Params) (x : Lx) (state token : Value) (e : Int) (its : List Value) (text : Str) (pos : Value) : Dy :=
  [(x.L, lexObj x), (x.d, lexDict P x state token), (x.q, deqObj e its), (x.io, ioObj x), (x.iod, ioDict P x text pos)]
/-- the obligations of a run, in their order: addresses, contracts, and the others (sd) -/
noncomputable def toldC (ct : List KC) (al : List Nat) : List Rf → List Ob → List Ob → List Ob
  | [], _, acc => acc
  | .d j :: l, sd, acc => toldC ct al l sd (.a (al.getD j 0) (al.getD j 0) :: acc)
  | .s :: l, sd, acc => toldC ct al l sd acc
  | .e :: l, sd, acc => toldC ct al l sd acc
  | .b _ :: l, sd, acc => match sd with
    | s :: sd => toldC ct al l sd (s :: acc)
    | [] => acc
  | .n :: l, sd, acc => match sd with
    | s :: sd => toldC ct al l sd (s :: acc)
    | [] => acc
  | .g j _ :: l, sd, acc => match sd with
    | s :: sd => toldC ct al l sd (s :: .a (al.getD j 0) (al.getD j 0) :: acc)
    | [] => acc
  | .t j _ :: l, sd, acc => match sd with
    | s :: sd => toldC ct al l sd (s :: .a (al.getD j 0) (al.getD j 0) :: acc)
    | [] => acc
  | .k u :: l, sd, acc => match kcAt ct u with
    | some y => toldC ct al l sd (.cd y.c y.c :: .dy y.D₀ y.D₀ :: .a y.m₀ y.m₀ :: .a y.i₀ y.i₀ :: .fe y.fr y.fr :: acc)
    | none => acc
theorem toldC_ok {ct : List KC} {al : List Nat} : ∀ (l : List Rf) (sd acc : List Ob), (∀ x ∈ sd, x.ok) → (∀ x ∈ acc, x.ok) → ∀ x ∈ toldC ct al l sd acc, x.ok
  | [], _, acc, _, h => h
  | .s :: l, sd, acc, hs, h => toldC_ok l sd acc hs h
  | .e :: l, sd, acc, hs, h => toldC_ok l sd acc hs h
  | .d j :: l, sd, acc, hs, h => by
    refine toldC_ok l sd _ hs fun x hx => ?_
    rcases List.mem_cons.mp hx with rfl | hx
    · rfl
    · exact h x hx
  | .b _ :: l, [], acc, hs, h => h
  | .b _ :: l, s :: sd, acc, hs, h => by
    refine toldC_ok l sd _ (fun x hx => hs x (List.mem_cons_of_mem _ hx)) fun x hx => ?_
    rcases List.mem_cons.mp hx with rfl | hx
    · exact hs _ List.mem_cons_self
    · exact h x hx
  | .n :: l, [], acc, hs, h => h
  | .n :: l, s :: sd, acc, hs, h => by
    refine toldC_ok l sd _ (fun x hx => hs x (List.mem_cons_of_mem _ hx)) fun x hx => ?_
    rcases List.mem_cons.mp hx with rfl | hx
    · exact hs _ List.mem_cons_self
    · exact h x hx
  | .g j v :: l, [], acc, hs, h => h
  | .g j v :: l, s :: sd, acc, hs, h => by
    refine toldC_ok l sd _ (fun x hx => hs x (List.mem_cons_of_mem _ hx)) fun x hx => ?_
    rcases List.mem_cons.mp hx with rfl | hx
    · exact hs _ List.mem_cons_self
    rcases List.mem_cons.mp hx with rfl | hx
    · rfl
    · exact h x hx
  | .t j v :: l, [], acc, hs, h => h
  | .t j v :: l, s :: sd, acc, hs, h => by
    refine toldC_ok l sd _ (fun x hx => hs x (List.mem_cons_of_mem _ hx)) fun x hx => ?_
    rcases List.mem_cons.mp hx with rfl | hx
    · exact hs _ List.mem_cons_self
    rcases List.mem_cons.mp hx with rfl | hx
    · rfl
    · exact h x hx
  | .k u :: l, sd, acc, hs, h => by
    simp only [toldC]
    cases kcAt ct u with
    | none => exact h
    | some y =>
      refine toldC_ok l sd _ hs fun x hx => ?_
      rcases List.mem_cons.mp hx with rfl | hx
      · rfl
      rcases List.mem_cons.mp hx with rfl | hx
      · rfl
      rcases List.mem_cons.mp hx with rfl | hx
      · rfl
      rcases List.mem_cons.mp hx with rfl | hx
      · rfl
      rcases List.mem_cons.mp hx with rfl | hx
      · rfl
      · exact h x hx
noncomputable def told2 (al : List Nat) (l : List Rf) (sd : List Ob) : List Ob := toldC [] al l sd []
noncomputable def row1 : String := "special-get-raises"
noncomputable def wf (P : Params) (r : Bool) : Params := { P with followText := fun x => match x == "special-get-raises" with | true => r | false => P.followText x }
noncomputable def adrs (x : Lx) (b m : Nat) : List Nat := [x.L, x.d, x.q, x.io, x.iod] ++ (List.range m).map (b + ·)
abbrev m5 : List Bool := [true, true, true, true, true]
theorem wf_self (P : Params) : wf P (P.followText row1) = P := by
  unfold wf
  have : (fun x => match x == "special-get-raises" with | true => P.followText row1 | false => P.followText x) = P.followText := by
    funext x
    cases e : x == "special-get-raises" with
    | true => rw [eq_of_beq e]; rfl
    | false => rfl
  rw [this]
end Mine
open PySem.W.ZFast in
lay_z Mine.go
namespace Mine
/-! ## Contracts: wider ones, and some out of the library's rules -/
section
variable {w : World} {P : Params} {N U b t m₁ i₁ : Nat}
/-- a contract among more objects -/
theorem ConF.wide {fr : Option (List Env)} {Z : List Addr} {c : Code} {D D₀ D₁ Dn : Dy} {r : Result} (ms : List Bool) (h : ConF fr Z w P N U c D₀ (D₁ ++ Dn) b t m₁ i₁ r) (e : pickB ms D = D₀) (hk : D₁.map (·.1) = D₀.map (·.1)) :
    ConF fr Z w P N U c D (putB ms D₁ D ++ Dn) b t m₁ i₁ r := by
  intro hp g d o B J G hB hu hh hf rp R hR
  have r0 := rp.sub (Z := Z) (pickB_sub ms D) (fun _ h => h)
  rw [e] at r0
  exact h hp g d o B J G hB hu hh hf r0 R fun h' g' G' r' => hR h' g' G' (by have := rp.back e (fun _ h => h) r' hk; rwa [Nat.zero_add] at this)
/-- what a contract leaves may be thinned -/
theorem ConF.thin {fr : Option (List Env)} {Z : List Addr} {c : Code} {D₀ D₁ D₂ : Dy} {r : Result} (h : ConF fr Z w P N U c D₀ D₁ b t m₁ i₁ r) (hs : D₂.Sublist D₁) : ConF fr Z w P N U c D₀ D₂ b t m₁ i₁ r :=
  fun hp g d o B J G hB hu hh hf rp R hR => h hp g d o B J G hB hu hh hf rp R fun h' g' G' r' => hR h' g' G' (r'.thin hs)
theorem code_slot {B : Around} {R : Result → Shared → Prop} {s : Shared} {T : String} {name : Str} {id : String} {f : Builtin} {self : Value} {rest : List Value}
    (slot : Slot T name id) (hT : s.TypeIs self T) (entry : entryFor table id = some f) (args : argsOk id ⟨self :: rest, []⟩)
    (h : wpAny (Md w) B.in1 (f ⟨self :: rest, []⟩) (fun fin s' => match fin with | .done f => R (.ok f) s' | .again c' => c'.quiet = true ∧ codeAny (Md w) B c' R s') (fun e s' => R (.error e) s') s) :
    codeAny (Md w) B (.call (.builtin id) ⟨self :: rest, []⟩) R s :=
  codeAny_call_builtin slot.plain entry (slot.check _ _ _ _ _ _ _ _ hT args h)
theorem con_slot_keep {D : Dy} {T : String} {name : Str} {id : String} {f : Builtin} {self v : Value} {rest : List Value}
    (slot : Slot T name id) (entry : entryFor table id = some f) (args : argsOk id ⟨self :: rest, []⟩)
    (hT : ∀ s : Shared, (∀ p ∈ D, s.heap.get? p.1 = some p.2) → s.TypeIs self T)
    (h : ∀ (B : Around) (s : Shared), (∀ p ∈ D, s.heap.get? p.1 = some p.2) → wpAny (Md w) B (f ⟨self :: rest, []⟩) (fun fin s' => fin = .done (.ret v) ∧ s' = s) (fun _ _ => False) s) :
    Con w P N U (.call (.builtin id) ⟨self :: rest, []⟩) D D b t 0 0 (.ok (.ret v)) := by
  intro hp g d o B J G hB hu hh hf rp R hR
  refine code_slot slot (hT _ rp.own) entry args (wpAny_mono (h _ _ rp.own) (fun fin s' e => ?_) fun _ _ e => e.elim)
  obtain ⟨rfl, rfl⟩ := e
  exact hR hp g G rp
theorem con_gives {D : Dy} {T : String} {name : Str} {id : String} {f : Builtin} {self v : Value} {rest : List Value}
    (slot : Slot T name id) (entry : entryFor table id = some f) (args : argsOk id ⟨self :: rest, []⟩)
    (hT : ∀ s : Shared, (∀ p ∈ D, s.heap.get? p.1 = some p.2) → s.TypeIs self T) (gv : Gives (f ⟨self :: rest, []⟩) (.val v)) :
    Con w P N U (.call (.builtin id) ⟨self :: rest, []⟩) D D b t 0 0 (.ok (.ret v)) := by
  intro hp g d o B J G hB hu hh hf rp R hR
  exact code_slot slot (hT _ rp.own) entry args (gv _ w B R _ (hR hp g G rp))
theorem con_str_ne (D : Dy) (x y : Str) (tx ty : Nat) : Con w P N U (.call (.builtin "str.__ne__") ⟨[.str x tx, .str y ty], []⟩) D D b t 0 0 (.ok (.ret (.bool (!(x == y))))) := by
  have g := gives_str_ne x y tx ty
  have e : (x.cps.toList != y.cps.toList) = !(x == y) := by rw [← PySem.SeqAt.str_beq]; rfl
  rw [e] at g
  exact con_gives F.slot_str_ne F.entry_str_ne (F.args_str_ne_2 _ _) (fun s _ => typeIs_str s x tx) g
/-- a list -/
noncomputable def liObj (vs : List Value) (c : Nat) : Obj := { cls := .type "list", data := .seq vs.toArray c }
theorem li_is {h : Heap} {a : Addr} {vs : List Value} {c : Nat} (e : h.get? a = some (liObj vs c)) : h.IsList a vs.toArray := ⟨_, e, rfl, c, rfl⟩
theorem con_item (a : Addr) (vs : List Value) (c : Nat) (k : Int) (tk : Nat) (v : Value) (h0 : 0 ≤ k) (hk : k < 2 ^ 63) (hv : vs[k.toNat]? = some v) :
    Con w P N U (.call (.builtin "list.__getitem__") ⟨[.ref a, .int k tk], []⟩) [(a, liObj vs c)] [(a, liObj vs c)] b t 0 0 (.ok (.ret v)) := by
  refine con_slot_keep (T := "list") slot_list_getitem entry_list_getitem (args_list_getitem _ _) (fun s hs => (li_is (hs _ List.mem_cons_self)).typeIs) fun B s hs => ?_
  have ho := hs _ List.mem_cons_self
  have e : vs.toArray[k.toNat]? = some v := by simpa using hv
  have hd : (liObj vs c).data = .seq vs.toArray c := rfl
  clear hs hv
  generalize liObj vs c = o at ho hd
  show wpAny _ B (Builtin.List.listSubscript? (.int k tk) >>= _) _ _ s
  refine wpAny_bind (wpAny_listSubscript_int (fitsIndex_of h0 hk) ?_)
  clear hk
  obtain ⟨j, rfl⟩ := Int.eq_ofNat_of_zero_le h0
  have e' : vs.toArray[j]? = some v := e
  show wpAny _ _ ((seqItemAt a j >>= fun r => pure (r.map (j, ·))) >>= _) _ _ s
  refine wpAny_bind (wpAny_bind (wpAny_seqItemAt ho hd (wpAny_pure ?_)))
  rw [e']
  first
    | exact wpAny_bind (wpAny_pure (wpAny_pure ⟨rfl, rfl⟩))
    | exact wpAny_pure ⟨rfl, rfl⟩
    | exact wpAny_pure (wpAny_pure ⟨rfl, rfl⟩)
end
/-- letters -/
structure Zs where
  x : Lx
  n : Nat → Nat
  v : Nat → Value
  s : Nat → Str
  i : Nat → Int
  l : Nat → List Value
  fr : List Env := []
noncomputable abbrev mkZ (x : Lx) (n : List Nat) (v : List Value) (s : List Str) (i : List Int) (l : List (List Value)) (fr : List Env := []) : Zs :=
  ⟨x, fun k => n.getD k 0, fun k => v.getD k .none, fun k => s.getD k ⟨#[]⟩, fun k => i.getD k 0, fun k => l.getD k [], fr⟩
noncomputable abbrev lx0 : Lx := ⟨0, 0, 0, 0, 0, 0, fun _ => 0, fun _ => 0⟩
/-! ## Words for the defs' codes and frames -/
noncomputable def fnBody : Stmt → List Stmt
  | .FunctionDef _ _ b _ _ _ _ _ _ _ => b
  | _ => []
noncomputable def fnScope : Stmt → Scope
  | .FunctionDef _ _ _ _ _ _ sc _ _ _ => sc
  | _ => default
noncomputable def nthS : List Stmt → Nat → Stmt
  | [], _ => .Pass pos0
  | s :: l, n => match n with
    | 0 => s
    | n + 1 => nthS l n
noncomputable def whOf : Stmt → Env → Code
  | .While t b o _, e => .whileLoop t b o e
  | _, _ => .block [] default
noncomputable def fnEnv (s : Stmt) (cells : List (Str × Addr)) (A : Addr) (qual : Str) (f : Addr) (co : Addr) : Env :=
  { scope := fnScope s, locals := A, globals := 3, cells := cells, qual := qual, func := some f, code := .ref co, frame := some A, builtins := 0 }
noncomputable def wlC (A : Addr) : Code := whOf (nthS (fnBody x28.s) 1) (fnEnv x28.s [] A (Str.ofString "_law_comes.<locals>.") 758 757)
/-- an entry whose hash is left as the library's own text has it (no quick twin is laid of it) -/
noncomputable def hsS : { f : Params → Str → Int // f = hs } := ⟨hs, rfl⟩
noncomputable def enR (P : Params) (k : Str) (t : Nat) (v : Value) : DictEntry := ⟨hsS.1 P k, .str k t, v⟩
theorem enR_eq (P : Params) (k : Str) (t : Nat) (v : Value) : enR P k t v = en P k t v := by unfold enR en; rw [hsS.2]
noncomputable def bodyT (c : Code) : Sem PySem.Fin := match c with
  | .func body env => execs body env >>= fun f => pure (.done f)
  | _ => .raise .none
/-- the body of __next__ -/
noncomputable def nxC (A : Addr) : Code := .func (fnBody x22_10.s) (fnEnv x22_10.s [] A (Str.ofString "shlex.__next__.<locals>.") 729 728)
noncomputable def lex6 (P : Params) (x : Lx) (state token : Value) (e : Int) (its : List Value) (text : Str) (pos : Value) : Dy :=
  [(x.L, lexObj x), (x.d, lexDict P x state token), (x.q, deqObj e its), (x.io, ioObj x), (x.iod, ioDict P x text pos), (x.fs, deqObj 0 [])]
abbrev m6 : List Bool := [true, true, true, true, true, true]
noncomputable def frObj (es : List DictEntry) (n : Nat) : Obj := { cls := .type "frame", data := .dict es.toArray n }
noncomputable def lex6s (P : Params) (x : Lx) (state token : Value) (e : Int) (its : List Value) (text : Str) (pos : Value) (l : Dy) : Dy :=
  (x.L, lexObj x) :: (x.d, lexDict P x state token) :: (x.q, deqObj e its) :: (x.io, ioObj x) :: (x.iod, ioDict P x text pos) :: (x.fs, deqObj 0 []) :: l
/-- a StopIteration -/
noncomputable def siObj (a : Addr) (tb : Value) : Obj := { cls := .type "StopIteration", data := .fields #[.ref a, tb, .none, .none, .bool false, .none] }
noncomputable def frSR (P : Params) (x : Lx) (k0 : Nat) : Obj := frObj [enR P (Str.ofString "self") k0 (.ref x.L)] 1
noncomputable def frS (P : Params) (x : Lx) (k0 : Nat) : Obj := frObj [en P (Str.ofString "self") k0 (.ref x.L)] 1
theorem frSR_eq (P : Params) (x : Lx) (k0 : Nat) : frSR P x k0 = frS P x k0 := by unfold frSR frS; rw [enR_eq]
noncomputable def frS2 (P : Params) (x : Lx) (k0 k1 : Nat) (v : Value) : Obj := frObj [en P (Str.ofString "self") k0 (.ref x.L), en P (Str.ofString "token") k1 v] 2
/-- the frame of _law_comes -/
noncomputable def frC (P : Params) (x : Lx) (k0 k1 k2 : Nat) (wd : Str) (wt : Nat) (v : Value) : Obj :=
  frObj [en P (Str.ofString "lexer") k0 (.ref x.L), en P (Str.ofString "word") k1 (.str wd wt), en P (Str.ofString "token") k2 v] 3
noncomputable def frCR (P : Params) (x : Lx) (k0 k1 k2 : Nat) (wd : Str) (wt : Nat) (v : Value) : Obj :=
  frObj [enR P (Str.ofString "lexer") k0 (.ref x.L), enR P (Str.ofString "word") k1 (.str wd wt), en P (Str.ofString "token") k2 v] 3
theorem frCR_eq (P : Params) (x : Lx) (k0 k1 k2 : Nat) (wd : Str) (wt : Nat) (v : Value) : frCR P x k0 k1 k2 wd wt v = frC P x k0 k1 k2 wd wt v := by unfold frCR frC; rw [enR_eq, enR_eq]
noncomputable def cwDR (P : Params) (x : Lx) (state token : Value) (e : Int) (its : List Value) (text : Str) (pos : Value) (A : Addr) (k0 k1 k2 : Nat) (wd : Str) (wt : Nat) (v : Value) : Dy :=
  [(x.L, lexObj x), (x.d, lexDict P x state token), (x.q, deqObj e its), (x.io, ioObj x), (x.iod, ioDict P x text pos), (x.fs, deqObj 0 []), (A, frCR P x k0 k1 k2 wd wt v)]
noncomputable def cwD (P : Params) (x : Lx) (state token : Value) (e : Int) (its : List Value) (text : Str) (pos : Value) (A : Addr) (k0 k1 k2 : Nat) (wd : Str) (wt : Nat) (v : Value) : Dy :=
  [(x.L, lexObj x), (x.d, lexDict P x state token), (x.q, deqObj e its), (x.io, ioObj x), (x.iod, ioDict P x text pos), (x.fs, deqObj 0 []), (A, frC P x k0 k1 k2 wd wt v)]
theorem cwDR_eq (P : Params) (x : Lx) (state token : Value) (e : Int) (its : List Value) (text : Str) (pos : Value) (A : Addr) (k0 k1 k2 : Nat) (wd : Str) (wt : Nat) (v : Value) :
    cwDR P x state token e its text pos A k0 k1 k2 wd wt v = cwD P x state token e its text pos A k0 k1 k2 wd wt v := by unfold cwDR cwD; rw [frCR_eq]
/-- the quick twins of the words that many texts use -/
noncomputable def allZ : Nat := (fun _ _ _ _ _ _ _ _ _ _ _ _ _ _ _ _ _ _ _ _ _ _ _ _ _ _ _ _ _ _ _ _ _ _ _ => 0) @lexD @lex6 @lex6s @cwD @cwDR @liObj @siObj @frS @frSR @frS2 @frC @frCR @frObj @wlC @nxC @bodyT @toldC @wf @resM @kx @adrs @deqObj @ioObj @ioDict @lexObj @lexDict @en @enR @go @enter @fnEnv @fnBody @fnScope @nthS @whOf
end Mine
lay_z Mine.allZ
namespace Mine
/-! ## Words for the law's own frame -/
noncomputable def cellO (v : Value) : Obj := { cls := .type "cell", data := .cell (some v) }
noncomputable def cellE : Obj := { cls := .type "cell", data := .cell none }
noncomputable def lawE (F cr cn cw : Addr) : Env := fnEnv x30.s [(Str.ofString "words", cw), (Str.ofString "n", cn), (Str.ofString "row", cr)] F (Str.ofString "law.<locals>.") 768 767
noncomputable def lwC (F cr cn cw : Addr) : Code := whOf (nthS (fnBody x30.s) 6) (lawE F cr cn cw)
/-- the law's frame: script, order, lexer, come -/
noncomputable def frL (P : Params) (x : Lx) (k0 k1 k2 k3 sa ao : Nat) (come : Value) : Obj :=
  frObj [en P (Str.ofString "script") k0 (.ref sa), en P (Str.ofString "order") k1 (.ref ao), en P (Str.ofString "lexer") k2 (.ref x.L), en P (Str.ofString "come") k3 come] 4
noncomputable def lwR (P : Params) (x : Lx) (F cn cw ao aw : Addr) (k0 k1 k2 k3 sa : Nat) (come : Value) (nn : Int) (tn : Nat) (ov : List Value) (oc : Nat) (wv : List Value) (wc : Nat) : Dy :=
  [(F, frL P x k0 k1 k2 k3 sa ao come), (cn, cellO (.int nn tn)), (cw, cellO (.ref aw)), (ao, liObj ov oc), (aw, liObj wv wc)]
noncomputable def allX : Nat := (fun _ _ _ _ _ _ => 0) @cellO @cellE @lawE @lwC @frL @lwR
end Mine
lay_z Mine.allX
namespace Mine
/-! ## Comparisons: the room on the stack is there -/
noncomputable def stackV : Sem Value → List (Code × Pos) → Sem Value
  | .stack k => k
  | _ => fun _ => .raise .none
noncomputable def rcT (op : CmpOp) (a b : Value) : Sem Value := match [a, b].any Value.onHeap with
  | true => stackV (richCompare op a b) []
  | false => richCompare op a b
theorem keep_stack (vs : List Value) (k : List (Code × Pos) → Sem Value) : (Sem.stack k).keep vs = .stack fun x => (k x).keep vs := rfl
theorem rc_form (op : CmpOp) (a b : Value) : ∃ R : Sem Value, richCompare op a b = holding [a, b] (cRoomFor "comparison" [a, b] >>= fun _ => R) := ⟨_, rfl⟩
theorem rc_thn (op : CmpOp) (a b : Value) : Thn (richCompare op a b) (rcT op a b) := by
  unfold rcT
  cases h : [a, b].any Value.onHeap with
  | false => exact Thn.rfl
  | true =>
    obtain ⟨R, e⟩ := rc_form op a b
    have e2 : cRoomFor "comparison" [a, b] = cRoom "comparison" := by unfold cRoomFor; rw [h]; rfl
    rw [e2] at e
    dsimp only
    have key : ∃ K : List (Code × Pos) → Sem Value, richCompare op a b = .stack K ∧ ∀ l : List (Code × Pos), (l.map (·.1.cUnits)).sum < cLine → K l = K [] := by
      have hk : ∀ l : List (Code × Pos), (l.map (·.1.cUnits)).sum < cLine → ¬ ((l.map (·.1.cUnits)).sum ≥ cLine) := fun l hl => Nat.not_le.mpr hl
      have h0 : ¬ ((([] : List (Code × Pos)).map (·.1.cUnits)).sum ≥ cLine) := by decide
      rw [e, holding_eq_keep]
      refine ⟨fun l => (((if (l.map (·.1.cUnits)).sum ≥ cLine then unsupported s!"recursion.c-limit:near:{"comparison"}" else pure () : Sem Unit) >>= fun _ => R).keep ([a, b].filter Value.isRef)), rfl, fun l hl => ?_⟩
      dsimp only
      rw [if_neg (hk l hl), if_neg h0]
    obtain ⟨K, eK, hK⟩ := key
    rw [eK]
    intro M Γ Q E p s u x
    rw [Sem.wp_stack, hK _ (by
      show unitsOf ((Γ.code, p) :: Γ.below) < cLine
      rw [unitsOf_cons]; exact u)]
    exact x
/-- a comparison as a test -/
noncomputable def tsT (l r : PySem.Expr) (op : CmpOp) (pos : Pos) (env : Env) : Sem Bool := do
  let a ← eval l env
  let b ← holding [a] (eval r env)
  standAt pos
  let c ← operate [a, b] (rcT op a b)
  holding [c] (truthy c)
theorem Thn.operate {vs : List Value} {m m' : Sem Value} (h : Thn m m') : Thn (PySem.operate vs m) (PySem.operate vs m') := by
  unfold PySem.operate
  exact Thn.bind (Thn.holding h) fun _ => Thn.rfl
theorem ts_thn {l r : PySem.Expr} {op : CmpOp} {pos : Pos} {env : Env} {whole : Sem Value} (hop : ∀ a b, compareOp op a b = richCompare op a b) (hm : behindInMarks op r = false) :
    Thn (PySem.isTrue (.Compare l [op] [r] pos) env whole) (tsT l r op pos env) := by
  rw [isTrue_Compare1, markedBehindIn_of_false hm]
  unfold tsT
  refine Thn.bind Thn.rfl fun a => Thn.bind Thn.rfl fun b => Thn.bind Thn.rfl fun _ => Thn.bind (Thn.operate ?_) fun c => Thn.rfl
  rw [hop]; exact rc_thn op a b
/-- a turn of a list's comprehension with one test -/
noncomputable def cTurn (T : Sem Bool) (elt target : PySem.Expr) (ps : Pos) (it acc : Value) (env : Env) (code : Code) : Sem PySem.Fin := do
  standAt ps
  match ← pyNext it with
  | none => pure (.done .next)
  | some v => do
    letOwnedTupleGo target it v
    assign target env v
    if ← T then do
      let y ← eval elt env
      let _ ← call (.builtin "list.append") [acc, y]
      again code
    else again code
theorem cTurn_eq (elt target iter c : PySem.Expr) (scope : Scope) (pos : Pos) (it acc : Value) (env : Env) :
    compTurn (.ListComp elt [⟨target, iter, [c], 0⟩] scope pos) 0 it acc env = cTurn (PySem.isTrue c env (eval c env)) elt target iter.pos it acc env (.compLoop (.ListComp elt [⟨target, iter, [c], 0⟩] scope pos) 0 it acc env) := by
  unfold compTurn cTurn
  simp only [List.getElem?_cons_zero, List.forIn_cons, List.forIn_nil, bne_self_eq_false, Bool.false_eq_true, if_false, if_true, bind_assoc, pure_bind, List.getElem?_cons_succ, List.getElem?_nil, Nat.zero_add]
  rfl
noncomputable def thinC (e : PySem.Expr) (it acc : Value) (env : Env) : Sem PySem.Fin := match e with
  | .ListComp elt [⟨target, iter, [.Compare l [op] [r] p], _⟩] _ _ => (cTurn (tsT l r op p env) elt target iter.pos it acc env (.compLoop e 0 it acc env)).onRaise fun x => do noteFrame x env; theTreesLotGoes x
  | _ => .raise .none
theorem cTurn_thn {T T' : Sem Bool} (h : Thn T T') (elt target : PySem.Expr) (ps : Pos) (it acc : Value) (env : Env) (code : Code) : Thn (cTurn T elt target ps it acc env code) (cTurn T' elt target ps it acc env code) := by
  unfold cTurn
  refine Thn.bind Thn.rfl fun _ => Thn.bind Thn.rfl fun r => ?_
  cases r with
  | none => exact Thn.rfl
  | some v => exact Thn.bind Thn.rfl fun _ => Thn.bind Thn.rfl fun _ => Thn.bind h fun _ => Thn.rfl
theorem thn_comp {e elt target iter l r : PySem.Expr} {op : CmpOp} {p pos : Pos} {scope : Scope} (it acc : Value) (env : Env) (he : e = .ListComp elt [⟨target, iter, [.Compare l [op] [r] p], 0⟩] scope pos) (hop : ∀ a b, compareOp op a b = richCompare op a b)
    (hm : behindInMarks op r = false) : Thn (denote treeTable (.compLoop e 0 it acc env)) (thinC e it acc env) := by
  subst he
  show Thn ((compTurn (.ListComp elt [⟨target, iter, [.Compare l [op] [r] p], 0⟩] scope pos) 0 it acc env).onRaise _) ((cTurn _ _ _ _ _ _ _ _).onRaise _)
  rw [cTurn_eq]
  exact Thn.onRaise (cTurn_thn (ts_thn hop hm) _ _ _ _ _ _ _)
noncomputable def stVal : Stmt → PySem.Expr
  | .Assign _ v _ => v
  | _ => .Constant .none 0 pos0
noncomputable def lcElt : PySem.Expr → PySem.Expr
  | .ListComp e _ _ _ => e
  | _ => .Constant .none 0 pos0
noncomputable def arg0 : PySem.Expr → PySem.Expr
  | .Call _ (a :: _) _ _ => a
  | _ => .Constant .none 0 pos0
/-- the comprehensions of «order» -/
noncomputable def oE : PySem.Expr := stVal (nthS (fnBody x30.s) 2)
noncomputable def iE : PySem.Expr := arg0 (lcElt oE)
theorem iThn (it acc : Value) (env : Env) : Thn (denote treeTable (.compLoop iE 0 it acc env)) (thinC iE it acc env) := by
  refine thn_comp it acc env (by with_unfolding_all exact rfl) (fun a b => rfl) (by with_unfolding_all rfl)
/-! ## More contracts out of the library's rules -/
noncomputable def tuObj (vs : List Value) (c : Nat) : Obj := { cls := .type "tuple", data := .seq vs.toArray c }
noncomputable def rIt (c r : Int) : Obj := { cls := .type "range_iterator", data := .fields #[.int c 0, .int r 0, .int 1 0] }
section
variable {w : World} {P : Params} {N U b t : Nat}
theorem con_tupLt (p q : Addr) (x i y j : Int) (t1 t2 t3 t4 c1 c2 : Nat) :
    Con w P N U (.call (.builtin "tuple.__lt__") ⟨[.ref p, .ref q], []⟩) [(p, tuObj [.int x t1, .int i t2] c1), (q, tuObj [.int y t3, .int j t4] c2)] [(p, tuObj [.int x t1, .int i t2] c1), (q, tuObj [.int y t3, .int j t4] c2)] b t 0 0
      (.ok (.ret (.bool (if x = y then decide (i < j) else decide (x < y))))) := by
  refine con_slot_keep (T := "tuple") F.slot_tuple_lt F.entry_tuple_lt (F.args_tuple_lt_2 _ _) (fun s hs => ⟨_, hs _ List.mem_cons_self, rfl⟩) fun B s hs => ?_
  have hp := hs _ List.mem_cons_self
  have hq := hs _ (List.mem_cons_of_mem _ List.mem_cons_self)
  show wpAny _ B (isInstance (.ref q) (.type "tuple") >>= fun r => _) _ _ s
  refine wpAny_bind (wpAny_isInstance ⟨_, hq, rfl⟩ sub_tuple_tuple ?_)
  show wpAny _ B (Builtin.Tuple.tupleItemsOf (.ref p) >>= fun xs => _) _ _ s
  unfold Builtin.Tuple.tupleItemsOf
  refine wpAny_bind (wpAny_bind (wpAny_seqItems hp rfl (wpAny_pure ?_)))
  refine wpAny_bind (wpAny_bind (wpAny_seqItems hq rfl (wpAny_pure ?_)))
  rw [show (#[Value.int x t1, Value.int i t2].toList.zip #[Value.int y t3, Value.int j t4].toList) = [(Value.int x t1, Value.int y t3), (Value.int i t2, Value.int j t4)] from rfl, List.forIn_cons]
  refine wpAny_bind (wpAny_bind (wpAny_bind (wpAny_eqBool_int ?_)))
  by_cases hxy : x = y
  · have e1 : (x == y) = true := by simpa using hxy
    rw [e1]
    refine wpAny_pure ?_
    dsimp only
    rw [List.forIn_cons]
    refine wpAny_bind (wpAny_bind (wpAny_eqBool_int ?_))
    by_cases hij : i = j
    · have e2 : (i == j) = true := by simpa using hij
      rw [e2]
      refine wpAny_pure ?_
      dsimp only
      rw [List.forIn_nil]
      refine wpAny_pure ?_
      refine wpAny_pure ⟨?_, rfl⟩
      rw [if_pos hxy, decide_eq_false (by omega)]; rfl
    · have e2 : (i == j) = false := by simpa using hij
      rw [e2]
      refine wpAny_bind (wpAny_rule ?_)
      refine wpAny_bind (wpAny_mono (wpAny_lt_int (a := i) (b := j) (t := t2) (u := t4) (Q := fun v s' => v = .bool (decide (i < j)) ∧ s' = s) ⟨rfl, rfl⟩) (fun v s' hv => ?_) fun _ _ h => h)
      obtain ⟨rfl, rfl⟩ := hv
      refine wpAny_bind (wpAny_pure (wpAny_pure ?_))
      dsimp only
      refine wpAny_pure ?_
      refine wpAny_pure ⟨?_, rfl⟩
      rw [if_pos hxy]
  · have e1 : (x == y) = false := by simpa using hxy
    rw [e1]
    refine wpAny_bind (wpAny_rule ?_)
    refine wpAny_bind (wpAny_mono (wpAny_lt_int (a := x) (b := y) (t := t1) (u := t3) (Q := fun v s' => v = .bool (decide (x < y)) ∧ s' = s) ⟨rfl, rfl⟩) (fun v s' hv => ?_) fun _ _ h => h)
    obtain ⟨rfl, rfl⟩ := hv
    refine wpAny_bind (wpAny_pure (wpAny_pure ?_))
    dsimp only
    refine wpAny_pure ?_
    refine wpAny_pure ⟨?_, rfl⟩
    rw [if_neg hxy]
/-- an iterator over a range, while there is something left -/
theorem con_rangeNext (p : Addr) (c r : Int) (hr : 0 < r) :
    Con w P N U (.call (.builtin "range_iterator.__next__") ⟨[.ref p], []⟩) [(p, rIt c r)] [(p, rIt (c + 1) (r - 1))] b t 0 1 (.ok (.ret (.int c t))) := by
  intro h g d o B J G hB hu hh hf rp R hR
  have hp := rp.own _ List.mem_cons_self
  refine code_slot (T := "range_iterator") F.slot_range_iterator_next ⟨_, hp, rfl⟩ F.entry_range_iterator_next (F.args_range_iterator_next_1 _) ?_
  have m := AutoRange.range_iterator___next___range_iterator_1 p c r 1 (by omega)
  refine m _ w B R _ ⟨hp, ?_⟩
  refine hR _ g G ?_
  have r1 := rp.update (j := 0) (p := (p, rIt c r)) (f := Obj.mapFields (·.setIfInBounds 0 (rawInt (c + 1)))) rfl rfl
  have r2 := r1.update (j := 0) (p := (p, Obj.mapFields (·.setIfInBounds 0 (rawInt (c + 1))) (rIt c r))) (f := Obj.mapFields (·.setIfInBounds 1 (rawInt (r - 1)))) rfl rfl
  exact r2
theorem con_append (a : Addr) (vs : List Value) (c : Nat) (v : Value) (hl : vs.length < 1000) :
    Con w P N U (.call (.builtin "list.append") ⟨[.ref a, v], []⟩) [(a, liObj vs c)] [(a, liObj (vs ++ [v]) (c + 1))] b t 0 0 (.ok (.ret .none)) := by
  intro h g d o B J G hB hu hh hf rp R hR
  have hp := rp.own _ List.mem_cons_self
  refine code_slot (T := "list") slot_list_append ⟨_, hp, rfl⟩ entry_list_append (args_list_append _ _) ?_
  show wpAny _ _ (updateSeq a (·.push v) >>= fun _ => ret .none) _ _ _
  have hz : sizeLine = 16777216 := by decide
  refine wpAny_bind (wpAny_updateSeq hp rfl ?_ (by show vs.toArray.size ≤ sizeLine; rw [hz]; simp; omega) (by rw [hz]; simp; omega))
  refine wpAny_pure ?_
  refine hR _ g G ?_
  have e : Obj.mapSeq (·.push v) (liObj vs c) = liObj (vs ++ [v]) (c + 1) := by
    unfold liObj Obj.mapSeq
    simp
  have r1 := rp.update (j := 0) (p := (a, liObj vs c)) (f := Obj.mapSeq (·.push v)) rfl (by rw [e]; rfl)
  rw [e] at r1
  exact r1
/-- a call by a library rule: nothing is changed but the tokens -/
theorem conI_of {f r : Value} {pos : List Value} {kw : List (Str × Value)} {D : Dy} (i₁ : Nat)
    (h : ∀ (B : Around) (s : Shared), B.handled = none → s.toks = t → (∀ p ∈ D, s.heap.get? p.1 = some p.2) → wpAny (Md w) B (call f pos kw) (fun v s' => v = r ∧ s' = { s with toks := s.toks + i₁ }) (fun _ _ => False) s) :
    ConI none [] w P N U (.call f ⟨pos, kw⟩) D D b t 0 i₁ (.ok (.ret r)) := by
  intro h0 g d o B J G hB hu hh hf rp R hR
  refine codeIn_call (wpAny_mono (h B _ hh rfl rp.own) (fun v s' e => ?_) fun _ _ e => e.elim)
  obtain ⟨rfl, rfl⟩ := e
  exact hR h0 g G rp
theorem conI_len (a : Addr) (vs : List Value) (c : Nat) (hl : vs.length < 1000) :
    ConI none [] w P N U (.call (.builtin "len") ⟨[.ref a], []⟩) [(a, liObj vs c)] [(a, liObj vs c)] b t 0 2 (.ok (.ret (.int vs.length (t + 1)))) := by
  refine conI_of 2 fun B s hh ht hs => ?_
  refine PyProof.Rows.len_list (li_is (hs _ List.mem_cons_self)) (by simp; omega) ?_
  subst ht
  exact ⟨by simp, rfl⟩
noncomputable def rgObj (a n c : Int) (t1 t2 t3 : Nat) : Obj := { cls := .type "range", data := .fields #[.int a t1, .int n t2, .int c t3] }
theorem range_small : ∀ a : Nat, a < 3 → ∀ n : Nat, n < 20 → Builtin.Range.small a n 1 = true ∧ (a ≤ n → Builtin.Range.rangeSize a n 1 = n - a) := by decide +kernel
theorem con_rangeIter (p : Addr) (a n : Nat) (t1 t2 t3 : Nat) (ha : a < 3) (han : a ≤ n) (hn : n < 20) :
    Con w P N U (.call (.builtin "range.__iter__") ⟨[.ref p], []⟩) [(p, rgObj a n 1 t1 t2 t3)] ([(p, rgObj a n 1 t1 t2 t3)] ++ [(b, rIt a ((n : Int) - a))]) b t 1 0 (.ok (.ret (.ref b))) := by
  intro h g d o B J G hB hu hh hf rp R hR
  have hp := rp.own _ List.mem_cons_self
  obtain ⟨h1, h2⟩ := range_small a ha n hn
  refine code_slot (T := "range") F.slot_range_iter ⟨_, hp, rfl⟩ F.entry_range_iter (F.args_range_iter_1 _) ?_
  refine AutoRange.range___iter___range_1 p a n 1 t1 t2 t3 (by unfold Builtin.Range.small at h1; rw [h1]; decide) _ w B R _ ⟨hp, ?_⟩
  unfold Builtin.Range.small at h1
  simp only [h1, if_true]
  rw [h2 han]
  have hs : h.objs.size = b := rp.size
  rw [show (⟨h, g, d, t, o⟩ : Shared).heap.objs.size = b from hs]
  refine hR _ g G ?_
  exact rp.alloc (o := rIt a ((n : Int) - a)) rfl
end
/-! ## Words for «order» -/
noncomputable def lcScope : PySem.Expr → Scope
  | .ListComp _ _ sc _ => sc
  | _ => default
noncomputable def oEnvC (F C ci cr cn cw : Addr) : Env :=
  { scope := relabel (lcScope oE) (lawE F cr cn cw), locals := C, globals := 3, cells := [(Str.ofString "i", ci), (Str.ofString "row", cr), (Str.ofString "n", cn)], qual := Str.ofString "law.<locals>.", func := none, code := .ref 767, frame := some F, builtins := 0 }
noncomputable def iEnvC (F C2 ci cr cn cw : Addr) : Env :=
  { scope := relabel (lcScope iE) (oEnvC F 0 ci cr cn cw), locals := C2, globals := 3, cells := [(Str.ofString "row", cr), (Str.ofString "i", ci)], qual := Str.ofString "law.<locals>.", func := none, code := .ref 767, frame := some F, builtins := 0 }
noncomputable def ilC (it acc F C2 ci cr cn cw : Addr) : Code := .compLoop iE 0 (.ref it) (.ref acc) (iEnvC F C2 ci cr cn cw)
noncomputable def isC (it acc F C2 ci cr cn cw : Addr) : Code := .compStart iE 0 (.ref it) (.ref acc) (iEnvC F C2 ci cr cn cw)
noncomputable def olC (it acc F C ci cr cn cw : Addr) : Code := .compLoop oE 0 (.ref it) (.ref acc) (oEnvC F C ci cr cn cw)
noncomputable def osC (it acc F C ci cr cn cw : Addr) : Code := .compStart oE 0 (.ref it) (.ref acc) (oEnvC F C ci cr cn cw)
noncomputable def dO (es : List DictEntry) (n : Nat) : Obj := { cls := .type "dict", data := .dict es.toArray n }
noncomputable def iD (ci cr ar it acc C2 : Addr) (vi : Value) (rv : List Value) (rc : Nat) (cc rr : Int) (av : List Value) (ac : Nat) (d : Obj) : Dy :=
  [(ci, cellO vi), (cr, cellO (.ref ar)), (ar, liObj rv rc), (it, rIt cc rr), (acc, liObj av ac), (C2, d)]
noncomputable def oD (it ci cn acc C cr ar : Addr) (cc rr : Int) (vi : Obj) (nn : Int) (tn : Nat) (ov : List Value) (oc : Nat) (rv : List Value) (rc : Nat) : Dy :=
  [(it, rIt cc rr), (ci, vi), (cn, cellO (.int nn tn)), (acc, liObj ov oc), (C, dO [] 0), (cr, cellO (.ref ar)), (ar, liObj rv rc)]
noncomputable def dJ (P : Params) (kj : Nat) (j0 : Int) (tj : Nat) : Obj := dO [en P (Str.ofString "j") kj (.int j0 tj)] 1
noncomputable def row2 : String := "comprehension-iter-twice"
noncomputable def wq (P : Params) (r : Bool) : Params := { P with followText := fun x => match x == "comprehension-iter-twice" with | true => r | false => P.followText x }
theorem wq_self (P : Params) : wq P (P.followText row2) = P := by
  unfold wq
  have : (fun x => match x == "comprehension-iter-twice" with | true => P.followText row2 | false => P.followText x) = P.followText := by
    funext x
    cases e : x == "comprehension-iter-twice" with
    | true => rw [eq_of_beq e]; rfl
    | false => rfl
  rw [this]
noncomputable def allR : Nat := (fun _ _ _ _ _ _ _ _ _ _ _ _ _ _ => 0) @oD @tuObj @rIt @rgObj @oEnvC @iEnvC @ilC @isC @olC @osC @dO @iD @dJ @wq
end Mine
lay_z Mine.allR
namespace Mine
noncomputable def orsIT0T : List Rf := [.d 3, .k 0, .d 5, .d 5, .d 1, .d 5, .d 2, .d 2, .d 2, .k 1, .d 5, .d 1, .d 0, .d 2, .d 2, .d 2, .k 2, .d 0, .d 6, .d 7, .d 6, .k 3, .d 5, .k 4, .k 5]
noncomputable def ctIT0T (P : Params) (b t : Nat) (z : Zs) : List KC := [⟨.call (.builtin "range_iterator.__next__") ⟨[.ref (z.n 7)], []⟩, [false, false, false, true, false, false], [((z.n 7), rIt (z.i 1) (z.i 2))], [((z.n 7), rIt ((z.i 1) + 1) ((z.i 2) - 1))], [], 0, 0, 0, 1, .ok (.ret (.int (z.i 1) (t + 0))), 20, 200, true, none, none, []⟩, ⟨.call (.builtin "list.__getitem__") ⟨[.ref (z.n 6), .int (z.i 1) (t + 0)], []⟩, [false, false, true, false, false, false], [((z.n 6), liObj (z.l 0) (z.n 9))], [((z.n 6), liObj (z.l 0) (z.n 9))], [], 0, 2, 0, 0, .ok (.ret (.int (z.i 7) (z.n 13))), 20, 200, true, none, none, []⟩, ⟨.call (.builtin "list.__getitem__") ⟨[.ref (z.n 6), .int (z.i 0) (z.n 12)], []⟩, [false, false, true, false, false, false], [((z.n 6), liObj (z.l 0) (z.n 9))], [((z.n 6), liObj (z.l 0) (z.n 9))], [], 1, 2, 0, 0, .ok (.ret (.int (z.i 8) (z.n 14))), 20, 200, true, none, none, []⟩, ⟨.call (.builtin "tuple.__lt__") ⟨[.ref (b + 0), .ref (b + 1)], []⟩, [false, false, false, false, false, false, true, true], [(b + 0, tuObj [.int (z.i 7) (z.n 13), .int (z.i 1) (t + 0)] 0), (b + 1, tuObj [.int (z.i 8) (z.n 14), .int (z.i 0) (z.n 12)] 0)], [(b + 0, tuObj [.int (z.i 7) (z.n 13), .int (z.i 1) (t + 0)] 0), (b + 1, tuObj [.int (z.i 8) (z.n 14), .int (z.i 0) (z.n 12)] 0)], [], 2, 2, 0, 0, .ok (.ret (.bool true)), 20, 200, true, none, none, []⟩, ⟨.call (.builtin "list.append") ⟨[.ref (z.n 8), .int (z.i 1) (t + 0)], []⟩, [false, false, false, false, true, false], [((z.n 8), liObj (z.l 1) (z.n 10))], [((z.n 8), liObj ((z.l 1) ++ [.int (z.i 1) (t + 0)]) ((z.n 10) + 1))], [], 2, 2, 0, 0, .ok (.ret .none), 20, 200, true, none, none, []⟩, ⟨ilC (z.n 7) (z.n 8) (z.n 0) (z.n 1) (z.n 2) (z.n 3) (z.n 4) (z.n 5), [true, true, true, true, true, true], iD (z.n 2) (z.n 3) (z.n 6) (z.n 7) (z.n 8) (z.n 1) (.int (z.i 0) (z.n 12)) (z.l 0) (z.n 9) ((z.i 1) + 1) ((z.i 2) - 1) ((z.l 1) ++ [.int (z.i 1) (t + 0)]) ((z.n 10) + 1) (dJ P (t + 1) (z.i 1) (t + 0)), iD (z.n 2) (z.n 3) (z.n 6) (z.n 7) (z.n 8) (z.n 1) (.int (z.i 0) (z.n 12)) (z.l 0) (z.n 9) (z.i 3) (z.i 4) (z.l 2) (z.n 11) (dJ P (t + 1) (z.i 5) (z.n 17)), [], 2, 2, (z.n 18), (z.n 19), .ok .next, 0, 0, true, none, none, []⟩]
noncomputable def lhsIT0T (pg : Program) (W : Params) (b t : Nat) (z : Zs) := resM [true, true, true, true, true, true] (go pg W b t true (ctIT0T W b t z) 88 orsIT0T false (ilC (z.n 7) (z.n 8) (z.n 0) (z.n 1) (z.n 2) (z.n 3) (z.n 4) (z.n 5)) kx (thinC iE (.ref (z.n 7)) (.ref (z.n 8)) (iEnvC (z.n 0) (z.n 1) (z.n 2) (z.n 3) (z.n 4) (z.n 5))) (iD (z.n 2) (z.n 3) (z.n 6) (z.n 7) (z.n 8) (z.n 1) (.int (z.i 0) (z.n 12)) (z.l 0) (z.n 9) (z.i 1) (z.i 2) (z.l 1) (z.n 10) (dO [] 0)) 0 0 [])
noncomputable def rhsIT0T (pg : Program) (W : Params) (b t : Nat) (z : Zs) : Option (Except Value PySem.Fin × Dy × Nat × Nat × List Ob) := some (.ok (.done .next), iD (z.n 2) (z.n 3) (z.n 6) (z.n 7) (z.n 8) (z.n 1) (.int (z.i 0) (z.n 12)) (z.l 0) (z.n 9) (z.i 3) (z.i 4) (z.l 2) (z.n 11) (dJ W (t + 1) (z.i 5) (z.n 17)), (2 + (z.n 18)), (2 + (z.n 19)), toldC (ctIT0T W b t z) [(z.n 2), (z.n 3), (z.n 6), (z.n 7), (z.n 8), (z.n 1), (b + 0), (b + 1)] orsIT0T [] [])
theorem trigIT0T : (fun _ _ => true) lhsIT0T rhsIT0T = true := by k_qdec
theorem chkIT0T (pg : Program) (P : Params) (r : Bool) (b t : Nat) (z : Zs) : lhsIT0T pg (wf P r) b t z = rhsIT0T pg (wf P r) b t z := by
  rw [PySem.W.Fast.te6407252250356283968, PySem.W.Fast.te9233208517627006378]
  cases r <;> kernel_rfl
theorem conIT0T {w : World} {N U : Nat} (hN : N ≤ 800) (b t : Nat) (z : Zs) (hct : CtOk w w.params N U b t (ctIT0T w.params b t z)) (hU : U + (ilC (z.n 7) (z.n 8) (z.n 0) (z.n 1) (z.n 2) (z.n 3) (z.n 4) (z.n 5) : Code).cUnits < cLine) : ConF none [] w w.params N U (ilC (z.n 7) (z.n 8) (z.n 0) (z.n 1) (z.n 2) (z.n 3) (z.n 4) (z.n 5)) (iD (z.n 2) (z.n 3) (z.n 6) (z.n 7) (z.n 8) (z.n 1) (.int (z.i 0) (z.n 12)) (z.l 0) (z.n 9) (z.i 1) (z.i 2) (z.l 1) (z.n 10) (dO [] 0)) (iD (z.n 2) (z.n 3) (z.n 6) (z.n 7) (z.n 8) (z.n 1) (.int (z.i 0) (z.n 12)) (z.l 0) (z.n 9) (z.i 3) (z.i 4) (z.l 2) (z.n 11) (dJ w.params (t + 1) (z.i 5) (z.n 17))) b t ((2 + (z.n 18))) ((2 + (z.n 19))) (.ok .next) := by
  have h := chkIT0T pw w.params (w.params.followText row1) b t z
  rw [wf_self] at h
  exact conF_of_tree rfl (spOk w) hct (fr_none rfl) (z_nil rfl) hN hU ((iThn (.ref (z.n 7)) (.ref (z.n 8)) (iEnvC (z.n 0) (z.n 1) (z.n 2) (z.n 3) (z.n 4) (z.n 5))).toC) h rfl (toldC_ok _ _ _ (fun _ h => by cases h) (fun _ h => by cases h))
noncomputable def orsIT0F : List Rf := [.d 3, .k 0, .d 5, .d 5, .d 1, .d 5, .d 2, .d 2, .d 2, .k 1, .d 5, .d 1, .d 0, .d 2, .d 2, .d 2, .k 2, .d 0, .d 6, .d 7, .d 6, .k 3, .k 4]
noncomputable def ctIT0F (P : Params) (b t : Nat) (z : Zs) : List KC := [⟨.call (.builtin "range_iterator.__next__") ⟨[.ref (z.n 7)], []⟩, [false, false, false, true, false, false], [((z.n 7), rIt (z.i 1) (z.i 2))], [((z.n 7), rIt ((z.i 1) + 1) ((z.i 2) - 1))], [], 0, 0, 0, 1, .ok (.ret (.int (z.i 1) (t + 0))), 20, 200, true, none, none, []⟩, ⟨.call (.builtin "list.__getitem__") ⟨[.ref (z.n 6), .int (z.i 1) (t + 0)], []⟩, [false, false, true, false, false, false], [((z.n 6), liObj (z.l 0) (z.n 9))], [((z.n 6), liObj (z.l 0) (z.n 9))], [], 0, 2, 0, 0, .ok (.ret (.int (z.i 7) (z.n 13))), 20, 200, true, none, none, []⟩, ⟨.call (.builtin "list.__getitem__") ⟨[.ref (z.n 6), .int (z.i 0) (z.n 12)], []⟩, [false, false, true, false, false, false], [((z.n 6), liObj (z.l 0) (z.n 9))], [((z.n 6), liObj (z.l 0) (z.n 9))], [], 1, 2, 0, 0, .ok (.ret (.int (z.i 8) (z.n 14))), 20, 200, true, none, none, []⟩, ⟨.call (.builtin "tuple.__lt__") ⟨[.ref (b + 0), .ref (b + 1)], []⟩, [false, false, false, false, false, false, true, true], [(b + 0, tuObj [.int (z.i 7) (z.n 13), .int (z.i 1) (t + 0)] 0), (b + 1, tuObj [.int (z.i 8) (z.n 14), .int (z.i 0) (z.n 12)] 0)], [(b + 0, tuObj [.int (z.i 7) (z.n 13), .int (z.i 1) (t + 0)] 0), (b + 1, tuObj [.int (z.i 8) (z.n 14), .int (z.i 0) (z.n 12)] 0)], [], 2, 2, 0, 0, .ok (.ret (.bool false)), 20, 200, true, none, none, []⟩, ⟨ilC (z.n 7) (z.n 8) (z.n 0) (z.n 1) (z.n 2) (z.n 3) (z.n 4) (z.n 5), [true, true, true, true, true, true], iD (z.n 2) (z.n 3) (z.n 6) (z.n 7) (z.n 8) (z.n 1) (.int (z.i 0) (z.n 12)) (z.l 0) (z.n 9) ((z.i 1) + 1) ((z.i 2) - 1) (z.l 1) (z.n 10) (dJ P (t + 1) (z.i 1) (t + 0)), iD (z.n 2) (z.n 3) (z.n 6) (z.n 7) (z.n 8) (z.n 1) (.int (z.i 0) (z.n 12)) (z.l 0) (z.n 9) (z.i 3) (z.i 4) (z.l 2) (z.n 11) (dJ P (t + 1) (z.i 5) (z.n 17)), [], 2, 2, (z.n 18), (z.n 19), .ok .next, 0, 0, true, none, none, []⟩]
noncomputable def lhsIT0F (pg : Program) (W : Params) (b t : Nat) (z : Zs) := resM [true, true, true, true, true, true] (go pg W b t true (ctIT0F W b t z) 85 orsIT0F false (ilC (z.n 7) (z.n 8) (z.n 0) (z.n 1) (z.n 2) (z.n 3) (z.n 4) (z.n 5)) kx (thinC iE (.ref (z.n 7)) (.ref (z.n 8)) (iEnvC (z.n 0) (z.n 1) (z.n 2) (z.n 3) (z.n 4) (z.n 5))) (iD (z.n 2) (z.n 3) (z.n 6) (z.n 7) (z.n 8) (z.n 1) (.int (z.i 0) (z.n 12)) (z.l 0) (z.n 9) (z.i 1) (z.i 2) (z.l 1) (z.n 10) (dO [] 0)) 0 0 [])
noncomputable def rhsIT0F (pg : Program) (W : Params) (b t : Nat) (z : Zs) : Option (Except Value PySem.Fin × Dy × Nat × Nat × List Ob) := some (.ok (.done .next), iD (z.n 2) (z.n 3) (z.n 6) (z.n 7) (z.n 8) (z.n 1) (.int (z.i 0) (z.n 12)) (z.l 0) (z.n 9) (z.i 3) (z.i 4) (z.l 2) (z.n 11) (dJ W (t + 1) (z.i 5) (z.n 17)), (2 + (z.n 18)), (2 + (z.n 19)), toldC (ctIT0F W b t z) [(z.n 2), (z.n 3), (z.n 6), (z.n 7), (z.n 8), (z.n 1), (b + 0), (b + 1)] orsIT0F [] [])
theorem trigIT0F : (fun _ _ => true) lhsIT0F rhsIT0F = true := by k_qdec
theorem chkIT0F (pg : Program) (P : Params) (r : Bool) (b t : Nat) (z : Zs) : lhsIT0F pg (wf P r) b t z = rhsIT0F pg (wf P r) b t z := by
  rw [PySem.W.Fast.te356828358957991519, PySem.W.Fast.te14774428408883721055]
  cases r <;> kernel_rfl
theorem conIT0F {w : World} {N U : Nat} (hN : N ≤ 800) (b t : Nat) (z : Zs) (hct : CtOk w w.params N U b t (ctIT0F w.params b t z)) (hU : U + (ilC (z.n 7) (z.n 8) (z.n 0) (z.n 1) (z.n 2) (z.n 3) (z.n 4) (z.n 5) : Code).cUnits < cLine) : ConF none [] w w.params N U (ilC (z.n 7) (z.n 8) (z.n 0) (z.n 1) (z.n 2) (z.n 3) (z.n 4) (z.n 5)) (iD (z.n 2) (z.n 3) (z.n 6) (z.n 7) (z.n 8) (z.n 1) (.int (z.i 0) (z.n 12)) (z.l 0) (z.n 9) (z.i 1) (z.i 2) (z.l 1) (z.n 10) (dO [] 0)) (iD (z.n 2) (z.n 3) (z.n 6) (z.n 7) (z.n 8) (z.n 1) (.int (z.i 0) (z.n 12)) (z.l 0) (z.n 9) (z.i 3) (z.i 4) (z.l 2) (z.n 11) (dJ w.params (t + 1) (z.i 5) (z.n 17))) b t ((2 + (z.n 18))) ((2 + (z.n 19))) (.ok .next) := by
  have h := chkIT0F pw w.params (w.params.followText row1) b t z
  rw [wf_self] at h
  exact conF_of_tree rfl (spOk w) hct (fr_none rfl) (z_nil rfl) hN hU ((iThn (.ref (z.n 7)) (.ref (z.n 8)) (iEnvC (z.n 0) (z.n 1) (z.n 2) (z.n 3) (z.n 4) (z.n 5))).toC) h rfl (toldC_ok _ _ _ (fun _ h => by cases h) (fun _ h => by cases h))
noncomputable def orsIT1T : List Rf := [.d 3, .k 0, .d 5, .d 5, .d 1, .d 5, .d 2, .d 2, .d 2, .k 1, .d 5, .d 1, .d 0, .d 2, .d 2, .d 2, .k 2, .d 0, .d 6, .d 7, .d 6, .k 3, .d 5, .k 4, .k 5]
noncomputable def ctIT1T (P : Params) (b t : Nat) (z : Zs) : List KC := [⟨.call (.builtin "range_iterator.__next__") ⟨[.ref (z.n 7)], []⟩, [false, false, false, true, false, false], [((z.n 7), rIt (z.i 1) (z.i 2))], [((z.n 7), rIt ((z.i 1) + 1) ((z.i 2) - 1))], [], 0, 0, 0, 1, .ok (.ret (.int (z.i 1) (t + 0))), 20, 200, true, none, none, []⟩, ⟨.call (.builtin "list.__getitem__") ⟨[.ref (z.n 6), .int (z.i 1) (t + 0)], []⟩, [false, false, true, false, false, false], [((z.n 6), liObj (z.l 0) (z.n 9))], [((z.n 6), liObj (z.l 0) (z.n 9))], [], 0, 2, 0, 0, .ok (.ret (.int (z.i 7) (z.n 13))), 20, 200, true, none, none, []⟩, ⟨.call (.builtin "list.__getitem__") ⟨[.ref (z.n 6), .int (z.i 0) (z.n 12)], []⟩, [false, false, true, false, false, false], [((z.n 6), liObj (z.l 0) (z.n 9))], [((z.n 6), liObj (z.l 0) (z.n 9))], [], 1, 2, 0, 0, .ok (.ret (.int (z.i 8) (z.n 14))), 20, 200, true, none, none, []⟩, ⟨.call (.builtin "tuple.__lt__") ⟨[.ref (b + 0), .ref (b + 1)], []⟩, [false, false, false, false, false, false, true, true], [(b + 0, tuObj [.int (z.i 7) (z.n 13), .int (z.i 1) (t + 0)] 0), (b + 1, tuObj [.int (z.i 8) (z.n 14), .int (z.i 0) (z.n 12)] 0)], [(b + 0, tuObj [.int (z.i 7) (z.n 13), .int (z.i 1) (t + 0)] 0), (b + 1, tuObj [.int (z.i 8) (z.n 14), .int (z.i 0) (z.n 12)] 0)], [], 2, 2, 0, 0, .ok (.ret (.bool true)), 20, 200, true, none, none, []⟩, ⟨.call (.builtin "list.append") ⟨[.ref (z.n 8), .int (z.i 1) (t + 0)], []⟩, [false, false, false, false, true, false], [((z.n 8), liObj (z.l 1) (z.n 10))], [((z.n 8), liObj ((z.l 1) ++ [.int (z.i 1) (t + 0)]) ((z.n 10) + 1))], [], 2, 2, 0, 0, .ok (.ret .none), 20, 200, true, none, none, []⟩, ⟨ilC (z.n 7) (z.n 8) (z.n 0) (z.n 1) (z.n 2) (z.n 3) (z.n 4) (z.n 5), [true, true, true, true, true, true], iD (z.n 2) (z.n 3) (z.n 6) (z.n 7) (z.n 8) (z.n 1) (.int (z.i 0) (z.n 12)) (z.l 0) (z.n 9) ((z.i 1) + 1) ((z.i 2) - 1) ((z.l 1) ++ [.int (z.i 1) (t + 0)]) ((z.n 10) + 1) (dJ P (z.n 15) (z.i 1) (t + 0)), iD (z.n 2) (z.n 3) (z.n 6) (z.n 7) (z.n 8) (z.n 1) (.int (z.i 0) (z.n 12)) (z.l 0) (z.n 9) (z.i 3) (z.i 4) (z.l 2) (z.n 11) (dJ P (z.n 15) (z.i 5) (z.n 17)), [], 2, 2, (z.n 18), (z.n 19), .ok .next, 0, 0, true, none, none, []⟩]
noncomputable def lhsIT1T (pg : Program) (W : Params) (b t : Nat) (z : Zs) := resM [true, true, true, true, true, true] (go pg W b t true (ctIT1T W b t z) 88 orsIT1T false (ilC (z.n 7) (z.n 8) (z.n 0) (z.n 1) (z.n 2) (z.n 3) (z.n 4) (z.n 5)) kx (thinC iE (.ref (z.n 7)) (.ref (z.n 8)) (iEnvC (z.n 0) (z.n 1) (z.n 2) (z.n 3) (z.n 4) (z.n 5))) (iD (z.n 2) (z.n 3) (z.n 6) (z.n 7) (z.n 8) (z.n 1) (.int (z.i 0) (z.n 12)) (z.l 0) (z.n 9) (z.i 1) (z.i 2) (z.l 1) (z.n 10) (dJ W (z.n 15) (z.i 6) (z.n 16))) 0 0 [])
noncomputable def rhsIT1T (pg : Program) (W : Params) (b t : Nat) (z : Zs) : Option (Except Value PySem.Fin × Dy × Nat × Nat × List Ob) := some (.ok (.done .next), iD (z.n 2) (z.n 3) (z.n 6) (z.n 7) (z.n 8) (z.n 1) (.int (z.i 0) (z.n 12)) (z.l 0) (z.n 9) (z.i 3) (z.i 4) (z.l 2) (z.n 11) (dJ W (z.n 15) (z.i 5) (z.n 17)), (2 + (z.n 18)), (2 + (z.n 19)), toldC (ctIT1T W b t z) [(z.n 2), (z.n 3), (z.n 6), (z.n 7), (z.n 8), (z.n 1), (b + 0), (b + 1)] orsIT1T [] [])
theorem trigIT1T : (fun _ _ => true) lhsIT1T rhsIT1T = true := by k_qdec
theorem chkIT1T (pg : Program) (P : Params) (r : Bool) (b t : Nat) (z : Zs) : lhsIT1T pg (wf P r) b t z = rhsIT1T pg (wf P r) b t z := by
  rw [PySem.W.Fast.te7506483757264646797, PySem.W.Fast.te687776706913816190]
  cases r <;> kernel_rfl
theorem conIT1T {w : World} {N U : Nat} (hN : N ≤ 800) (b t : Nat) (z : Zs) (hct : CtOk w w.params N U b t (ctIT1T w.params b t z)) (hU : U + (ilC (z.n 7) (z.n 8) (z.n 0) (z.n 1) (z.n 2) (z.n 3) (z.n 4) (z.n 5) : Code).cUnits < cLine) : ConF none [] w w.params N U (ilC (z.n 7) (z.n 8) (z.n 0) (z.n 1) (z.n 2) (z.n 3) (z.n 4) (z.n 5)) (iD (z.n 2) (z.n 3) (z.n 6) (z.n 7) (z.n 8) (z.n 1) (.int (z.i 0) (z.n 12)) (z.l 0) (z.n 9) (z.i 1) (z.i 2) (z.l 1) (z.n 10) (dJ w.params (z.n 15) (z.i 6) (z.n 16))) (iD (z.n 2) (z.n 3) (z.n 6) (z.n 7) (z.n 8) (z.n 1) (.int (z.i 0) (z.n 12)) (z.l 0) (z.n 9) (z.i 3) (z.i 4) (z.l 2) (z.n 11) (dJ w.params (z.n 15) (z.i 5) (z.n 17))) b t ((2 + (z.n 18))) ((2 + (z.n 19))) (.ok .next) := by
  have h := chkIT1T pw w.params (w.params.followText row1) b t z
  rw [wf_self] at h
  exact conF_of_tree rfl (spOk w) hct (fr_none rfl) (z_nil rfl) hN hU ((iThn (.ref (z.n 7)) (.ref (z.n 8)) (iEnvC (z.n 0) (z.n 1) (z.n 2) (z.n 3) (z.n 4) (z.n 5))).toC) h rfl (toldC_ok _ _ _ (fun _ h => by cases h) (fun _ h => by cases h))
noncomputable def orsIT1F : List Rf := [.d 3, .k 0, .d 5, .d 5, .d 1, .d 5, .d 2, .d 2, .d 2, .k 1, .d 5, .d 1, .d 0, .d 2, .d 2, .d 2, .k 2, .d 0, .d 6, .d 7, .d 6, .k 3, .k 4]
noncomputable def ctIT1F (P : Params) (b t : Nat) (z : Zs) : List KC := [⟨.call (.builtin "range_iterator.__next__") ⟨[.ref (z.n 7)], []⟩, [false, false, false, true, false, false], [((z.n 7), rIt (z.i 1) (z.i 2))], [((z.n 7), rIt ((z.i 1) + 1) ((z.i 2) - 1))], [], 0, 0, 0, 1, .ok (.ret (.int (z.i 1) (t + 0))), 20, 200, true, none, none, []⟩, ⟨.call (.builtin "list.__getitem__") ⟨[.ref (z.n 6), .int (z.i 1) (t + 0)], []⟩, [false, false, true, false, false, false], [((z.n 6), liObj (z.l 0) (z.n 9))], [((z.n 6), liObj (z.l 0) (z.n 9))], [], 0, 2, 0, 0, .ok (.ret (.int (z.i 7) (z.n 13))), 20, 200, true, none, none, []⟩, ⟨.call (.builtin "list.__getitem__") ⟨[.ref (z.n 6), .int (z.i 0) (z.n 12)], []⟩, [false, false, true, false, false, false], [((z.n 6), liObj (z.l 0) (z.n 9))], [((z.n 6), liObj (z.l 0) (z.n 9))], [], 1, 2, 0, 0, .ok (.ret (.int (z.i 8) (z.n 14))), 20, 200, true, none, none, []⟩, ⟨.call (.builtin "tuple.__lt__") ⟨[.ref (b + 0), .ref (b + 1)], []⟩, [false, false, false, false, false, false, true, true], [(b + 0, tuObj [.int (z.i 7) (z.n 13), .int (z.i 1) (t + 0)] 0), (b + 1, tuObj [.int (z.i 8) (z.n 14), .int (z.i 0) (z.n 12)] 0)], [(b + 0, tuObj [.int (z.i 7) (z.n 13), .int (z.i 1) (t + 0)] 0), (b + 1, tuObj [.int (z.i 8) (z.n 14), .int (z.i 0) (z.n 12)] 0)], [], 2, 2, 0, 0, .ok (.ret (.bool false)), 20, 200, true, none, none, []⟩, ⟨ilC (z.n 7) (z.n 8) (z.n 0) (z.n 1) (z.n 2) (z.n 3) (z.n 4) (z.n 5), [true, true, true, true, true, true], iD (z.n 2) (z.n 3) (z.n 6) (z.n 7) (z.n 8) (z.n 1) (.int (z.i 0) (z.n 12)) (z.l 0) (z.n 9) ((z.i 1) + 1) ((z.i 2) - 1) (z.l 1) (z.n 10) (dJ P (z.n 15) (z.i 1) (t + 0)), iD (z.n 2) (z.n 3) (z.n 6) (z.n 7) (z.n 8) (z.n 1) (.int (z.i 0) (z.n 12)) (z.l 0) (z.n 9) (z.i 3) (z.i 4) (z.l 2) (z.n 11) (dJ P (z.n 15) (z.i 5) (z.n 17)), [], 2, 2, (z.n 18), (z.n 19), .ok .next, 0, 0, true, none, none, []⟩]
noncomputable def lhsIT1F (pg : Program) (W : Params) (b t : Nat) (z : Zs) := resM [true, true, true, true, true, true] (go pg W b t true (ctIT1F W b t z) 85 orsIT1F false (ilC (z.n 7) (z.n 8) (z.n 0) (z.n 1) (z.n 2) (z.n 3) (z.n 4) (z.n 5)) kx (thinC iE (.ref (z.n 7)) (.ref (z.n 8)) (iEnvC (z.n 0) (z.n 1) (z.n 2) (z.n 3) (z.n 4) (z.n 5))) (iD (z.n 2) (z.n 3) (z.n 6) (z.n 7) (z.n 8) (z.n 1) (.int (z.i 0) (z.n 12)) (z.l 0) (z.n 9) (z.i 1) (z.i 2) (z.l 1) (z.n 10) (dJ W (z.n 15) (z.i 6) (z.n 16))) 0 0 [])
noncomputable def rhsIT1F (pg : Program) (W : Params) (b t : Nat) (z : Zs) : Option (Except Value PySem.Fin × Dy × Nat × Nat × List Ob) := some (.ok (.done .next), iD (z.n 2) (z.n 3) (z.n 6) (z.n 7) (z.n 8) (z.n 1) (.int (z.i 0) (z.n 12)) (z.l 0) (z.n 9) (z.i 3) (z.i 4) (z.l 2) (z.n 11) (dJ W (z.n 15) (z.i 5) (z.n 17)), (2 + (z.n 18)), (2 + (z.n 19)), toldC (ctIT1F W b t z) [(z.n 2), (z.n 3), (z.n 6), (z.n 7), (z.n 8), (z.n 1), (b + 0), (b + 1)] orsIT1F [] [])
theorem trigIT1F : (fun _ _ => true) lhsIT1F rhsIT1F = true := by k_qdec
theorem chkIT1F (pg : Program) (P : Params) (r : Bool) (b t : Nat) (z : Zs) : lhsIT1F pg (wf P r) b t z = rhsIT1F pg (wf P r) b t z := by
  rw [PySem.W.Fast.te14006097451047942747, PySem.W.Fast.te15517619657790373025]
  cases r <;> kernel_rfl
theorem conIT1F {w : World} {N U : Nat} (hN : N ≤ 800) (b t : Nat) (z : Zs) (hct : CtOk w w.params N U b t (ctIT1F w.params b t z)) (hU : U + (ilC (z.n 7) (z.n 8) (z.n 0) (z.n 1) (z.n 2) (z.n 3) (z.n 4) (z.n 5) : Code).cUnits < cLine) : ConF none [] w w.params N U (ilC (z.n 7) (z.n 8) (z.n 0) (z.n 1) (z.n 2) (z.n 3) (z.n 4) (z.n 5)) (iD (z.n 2) (z.n 3) (z.n 6) (z.n 7) (z.n 8) (z.n 1) (.int (z.i 0) (z.n 12)) (z.l 0) (z.n 9) (z.i 1) (z.i 2) (z.l 1) (z.n 10) (dJ w.params (z.n 15) (z.i 6) (z.n 16))) (iD (z.n 2) (z.n 3) (z.n 6) (z.n 7) (z.n 8) (z.n 1) (.int (z.i 0) (z.n 12)) (z.l 0) (z.n 9) (z.i 3) (z.i 4) (z.l 2) (z.n 11) (dJ w.params (z.n 15) (z.i 5) (z.n 17))) b t ((2 + (z.n 18))) ((2 + (z.n 19))) (.ok .next) := by
  have h := chkIT1F pw w.params (w.params.followText row1) b t z
  rw [wf_self] at h
  exact conF_of_tree rfl (spOk w) hct (fr_none rfl) (z_nil rfl) hN hU ((iThn (.ref (z.n 7)) (.ref (z.n 8)) (iEnvC (z.n 0) (z.n 1) (z.n 2) (z.n 3) (z.n 4) (z.n 5))).toC) h rfl (toldC_ok _ _ _ (fun _ h => by cases h) (fun _ h => by cases h))
noncomputable def orsIEnd : List Rf := [.d 0, .d 0, .d 0, .d 0, .d 0, .d 2]
noncomputable def lhsIEnd (pg : Program) (W : Params) (b t : Nat) (z : Zs) := resM [true] (enter W (go pg W b t true noCt 55) orsIEnd (ilC (z.n 7) (z.n 8) (z.n 0) (z.n 1) (z.n 2) (z.n 3) (z.n 4) (z.n 5)) kx ([((z.n 7), rIt (z.i 1) 0)]) 0 0 [])
noncomputable def rhsIEnd (pg : Program) (W : Params) (b t : Nat) (z : Zs) : Option (Except Value PySem.Fin × Dy × Nat × Nat × List Ob) := some (.ok (.done .next), [((z.n 7), rIt (z.i 1) 0)], 2, 0, toldC noCt [(z.n 7), (b + 0), (b + 1)] orsIEnd [] [])
end Mine
lay_z Mine.lhsIEnd Mine.rhsIEnd
namespace Mine
theorem chkIEnd (pg : Program) (P : Params) (r : Bool) (b t : Nat) (z : Zs) : lhsIEnd pg (wf P r) b t z = rhsIEnd pg (wf P r) b t z := by
  rw [PySem.W.ZFast.ze8590662862255790455, PySem.W.ZFast.ze5931883543483277212]
  cases r <;> kernel_rfl
theorem conIEnd {w : World} {N U : Nat} (hN : N ≤ 800) (b t : Nat) (z : Zs) : ConF none [] w w.params N U (ilC (z.n 7) (z.n 8) (z.n 0) (z.n 1) (z.n 2) (z.n 3) (z.n 4) (z.n 5)) ([((z.n 7), rIt (z.i 1) 0)]) ([((z.n 7), rIt (z.i 1) 0)]) b t (2) (0) (.ok .next) := by
  have h := chkIEnd pw w.params (w.params.followText row1) b t z
  rw [wf_self] at h
  exact conF_of_run rfl (spOk w) noCt_ok (fun _ h => by cases h) (fun _ h => by cases h) hN h rfl (toldC_ok _ _ _ (fun _ h => by cases h) (fun _ h => by cases h))
noncomputable def orsIS0 : List Rf := [.d 3, .d 3, .d 3, .d 3, .k 0]
noncomputable def ctIS0 (P : Params) (b t : Nat) (z : Zs) : List KC := [⟨ilC (z.n 7) (z.n 8) (z.n 0) (z.n 1) (z.n 2) (z.n 3) (z.n 4) (z.n 5), [true, true, true, true, true, true], iD (z.n 2) (z.n 3) (z.n 6) (z.n 7) (z.n 8) (z.n 1) (.int (z.i 0) (z.n 12)) (z.l 0) (z.n 9) (z.i 1) (z.i 2) (z.l 1) (z.n 10) (dO [] 0), iD (z.n 2) (z.n 3) (z.n 6) (z.n 7) (z.n 8) (z.n 1) (.int (z.i 0) (z.n 12)) (z.l 0) (z.n 9) (z.i 3) (z.i 4) (z.l 2) (z.n 11) (dJ P (z.n 15) (z.i 5) (z.n 17)), [], 0, 0, (z.n 18), (z.n 19), .ok .next, 0, 0, true, none, none, []⟩]
noncomputable def lhsIS0 (pg : Program) (W : Params) (b t : Nat) (z : Zs) := resM [true, true, true, true, true, true] (enter W (go pg W b t true (ctIS0 W b t z) 52) orsIS0 (isC (z.n 7) (z.n 8) (z.n 0) (z.n 1) (z.n 2) (z.n 3) (z.n 4) (z.n 5)) kx (iD (z.n 2) (z.n 3) (z.n 6) (z.n 7) (z.n 8) (z.n 1) (.int (z.i 0) (z.n 12)) (z.l 0) (z.n 9) (z.i 1) (z.i 2) (z.l 1) (z.n 10) (dO [] 0)) 0 0 [])
noncomputable def rhsIS0 (pg : Program) (W : Params) (b t : Nat) (z : Zs) : Option (Except Value PySem.Fin × Dy × Nat × Nat × List Ob) := some (.ok (.done .next), iD (z.n 2) (z.n 3) (z.n 6) (z.n 7) (z.n 8) (z.n 1) (.int (z.i 0) (z.n 12)) (z.l 0) (z.n 9) (z.i 3) (z.i 4) (z.l 2) (z.n 11) (dJ W (z.n 15) (z.i 5) (z.n 17)), (0 + (z.n 18)), (0 + (z.n 19)), toldC (ctIS0 W b t z) [(z.n 2), (z.n 3), (z.n 6), (z.n 7), (z.n 8), (z.n 1)] orsIS0 [] [])
end Mine
lay_z Mine.lhsIS0 Mine.rhsIS0
namespace Mine
theorem chkIS0 (pg : Program) (P : Params) (r : Bool) (b t : Nat) (z : Zs) : lhsIS0 pg (wf (wq P false) r) b t z = rhsIS0 pg (wf (wq P false) r) b t z := by
  rw [PySem.W.ZFast.ze14110607523778525531, PySem.W.ZFast.ze8462183383271702467]
  cases r <;> kernel_rfl
theorem conIS0 {w : World} {N U : Nat} (hN : N ≤ 800) (b t : Nat) (z : Zs) (hrow : w.params.followText row2 = false) (hct : CtOk w w.params N U b t (ctIS0 w.params b t z)) : ConF none [] w w.params N U (isC (z.n 7) (z.n 8) (z.n 0) (z.n 1) (z.n 2) (z.n 3) (z.n 4) (z.n 5)) (iD (z.n 2) (z.n 3) (z.n 6) (z.n 7) (z.n 8) (z.n 1) (.int (z.i 0) (z.n 12)) (z.l 0) (z.n 9) (z.i 1) (z.i 2) (z.l 1) (z.n 10) (dO [] 0)) (iD (z.n 2) (z.n 3) (z.n 6) (z.n 7) (z.n 8) (z.n 1) (.int (z.i 0) (z.n 12)) (z.l 0) (z.n 9) (z.i 3) (z.i 4) (z.l 2) (z.n 11) (dJ w.params (z.n 15) (z.i 5) (z.n 17))) b t ((0 + (z.n 18))) ((0 + (z.n 19))) (.ok .next) := by
  have h := chkIS0 pw w.params (w.params.followText row1) b t z
  rw [show wq w.params false = w.params from by rw [← hrow]; exact wq_self _, wf_self] at h
  exact conF_of_run rfl (spOk w) hct (fr_none rfl) (z_nil rfl) hN h rfl (toldC_ok _ _ _ (fun _ h => by cases h) (fun _ h => by cases h))
noncomputable def orsIS1 : List Rf := [.k 0]
noncomputable def ctIS1 (P : Params) (b t : Nat) (z : Zs) : List KC := [⟨ilC (z.n 7) (z.n 8) (z.n 0) (z.n 1) (z.n 2) (z.n 3) (z.n 4) (z.n 5), [true, true, true, true, true, true], iD (z.n 2) (z.n 3) (z.n 6) (z.n 7) (z.n 8) (z.n 1) (.int (z.i 0) (z.n 12)) (z.l 0) (z.n 9) (z.i 1) (z.i 2) (z.l 1) (z.n 10) (dO [] 0), iD (z.n 2) (z.n 3) (z.n 6) (z.n 7) (z.n 8) (z.n 1) (.int (z.i 0) (z.n 12)) (z.l 0) (z.n 9) (z.i 3) (z.i 4) (z.l 2) (z.n 11) (dJ P (z.n 15) (z.i 5) (z.n 17)), [], 0, 0, (z.n 18), (z.n 19), .ok .next, 0, 0, true, none, none, []⟩]
noncomputable def lhsIS1 (pg : Program) (W : Params) (b t : Nat) (z : Zs) := resM [true, true, true, true, true, true] (enter W (go pg W b t true (ctIS1 W b t z) 52) orsIS1 (isC (z.n 7) (z.n 8) (z.n 0) (z.n 1) (z.n 2) (z.n 3) (z.n 4) (z.n 5)) kx (iD (z.n 2) (z.n 3) (z.n 6) (z.n 7) (z.n 8) (z.n 1) (.int (z.i 0) (z.n 12)) (z.l 0) (z.n 9) (z.i 1) (z.i 2) (z.l 1) (z.n 10) (dO [] 0)) 0 0 [])
noncomputable def rhsIS1 (pg : Program) (W : Params) (b t : Nat) (z : Zs) : Option (Except Value PySem.Fin × Dy × Nat × Nat × List Ob) := some (.ok (.done .next), iD (z.n 2) (z.n 3) (z.n 6) (z.n 7) (z.n 8) (z.n 1) (.int (z.i 0) (z.n 12)) (z.l 0) (z.n 9) (z.i 3) (z.i 4) (z.l 2) (z.n 11) (dJ W (z.n 15) (z.i 5) (z.n 17)), (0 + (z.n 18)), (0 + (z.n 19)), toldC (ctIS1 W b t z) [(z.n 2), (z.n 3), (z.n 6), (z.n 7), (z.n 8), (z.n 1)] orsIS1 [] [])
end Mine
lay_z Mine.lhsIS1 Mine.rhsIS1
namespace Mine
theorem chkIS1 (pg : Program) (P : Params) (r : Bool) (b t : Nat) (z : Zs) : lhsIS1 pg (wf (wq P true) r) b t z = rhsIS1 pg (wf (wq P true) r) b t z := by
  rw [PySem.W.ZFast.ze12333448803833248325, PySem.W.ZFast.ze18024484028503204311]
  cases r <;> kernel_rfl
theorem conIS1 {w : World} {N U : Nat} (hN : N ≤ 800) (b t : Nat) (z : Zs) (hrow : w.params.followText row2 = true) (hct : CtOk w w.params N U b t (ctIS1 w.params b t z)) : ConF none [] w w.params N U (isC (z.n 7) (z.n 8) (z.n 0) (z.n 1) (z.n 2) (z.n 3) (z.n 4) (z.n 5)) (iD (z.n 2) (z.n 3) (z.n 6) (z.n 7) (z.n 8) (z.n 1) (.int (z.i 0) (z.n 12)) (z.l 0) (z.n 9) (z.i 1) (z.i 2) (z.l 1) (z.n 10) (dO [] 0)) (iD (z.n 2) (z.n 3) (z.n 6) (z.n 7) (z.n 8) (z.n 1) (.int (z.i 0) (z.n 12)) (z.l 0) (z.n 9) (z.i 3) (z.i 4) (z.l 2) (z.n 11) (dJ w.params (z.n 15) (z.i 5) (z.n 17))) b t ((0 + (z.n 18))) ((0 + (z.n 19))) (.ok .next) := by
  have h := chkIS1 pw w.params (w.params.followText row1) b t z
  rw [show wq w.params true = w.params from by rw [← hrow]; exact wq_self _, wf_self] at h
  exact conF_of_run rfl (spOk w) hct (fr_none rfl) (z_nil rfl) hN h rfl (toldC_ok _ _ _ (fun _ h => by cases h) (fun _ h => by cases h))
noncomputable def orsOT0 : List Rf := [.d 0, .k 0, .d 1, .d 1, .s, .s, .s, .s, .d 2, .d 7, .d 7, .d 7, .d 7, .d 7, .d 7, .k 1, .d 8, .k 2, .d 10, .d 10, .d 10, .k 3, .k 4, .k 5]
noncomputable def ctOT0 (P : Params) (b t : Nat) (z : Zs) : List KC := [⟨.call (.builtin "range_iterator.__next__") ⟨[.ref (z.n 7)], []⟩, [true], [((z.n 7), rIt (z.i 0) (z.i 1))], [((z.n 7), rIt ((z.i 0) + 1) ((z.i 1) - 1))], [], 0, 0, 0, 1, .ok (.ret (.int (z.i 0) (t + 0))), 20, 200, true, none, none, []⟩, ⟨.call (.builtin "range.__iter__") ⟨[.ref (b + 0)], []⟩, [false, false, false, false, false, false, false, true], [(b + 0, rgObj 0 (z.i 2) 1 (t + 1) (z.n 15) (t + 2))], [(b + 0, rgObj 0 (z.i 2) 1 (t + 1) (z.n 15) (t + 2))], [(b + 1, rIt 0 (z.i 2))], 1, 3, 1, 0, .ok (.ret (.ref (b + 1))), 20, 200, true, none, none, []⟩, ⟨isC (b + 1) (b + 2) (z.n 0) (b + 3) (z.n 5) (z.n 2) (z.n 3) (z.n 4), [false, true, false, false, false, true, true, false, true, true, true], iD (z.n 5) (z.n 2) (z.n 6) (b + 1) (b + 2) (b + 3) (.int (z.i 0) (t + 0)) (z.l 0) (z.n 9) 0 (z.i 2) [] 0 (dO [] 0), iD (z.n 5) (z.n 2) (z.n 6) (b + 1) (b + 2) (b + 3) (.int (z.i 0) (t + 0)) (z.l 0) (z.n 9) (z.i 3) (z.i 4) (z.l 1) (z.n 10) (dJ P (z.n 11) (z.i 5) (z.n 12)), [], 4, 3, (z.n 13), (z.n 14), .ok .next, 20, 200, true, none, none, []⟩, ⟨.call (.builtin "len") ⟨[.ref (b + 2)], []⟩, [false, false, false, false, false, false, false, false, false, true], [(b + 2, liObj (z.l 1) (z.n 10))], [(b + 2, liObj (z.l 1) (z.n 10))], [], (4 + (z.n 13)), (3 + (z.n 14)), 0, 2, .ok (.ret (.int (z.i 6) (t + (3 + (z.n 14)) + 1))), 20, 200, false, none, none, []⟩, ⟨.call (.builtin "list.append") ⟨[.ref (z.n 8), .int (z.i 6) (t + (3 + (z.n 14)) + 1)], []⟩, [false, false, false, true], [((z.n 8), liObj (z.l 2) (z.n 16))], [((z.n 8), liObj ((z.l 2) ++ [.int (z.i 6) (t + (3 + (z.n 14)) + 1)]) ((z.n 16) + 1))], [], (4 + (z.n 13)), (3 + (z.n 14) + 2), 0, 0, .ok (.ret .none), 20, 200, true, none, none, []⟩, ⟨olC (z.n 7) (z.n 8) (z.n 0) (z.n 1) (z.n 5) (z.n 2) (z.n 3) (z.n 4), [true, true, true, true, true, true, true], oD (z.n 7) (z.n 5) (z.n 3) (z.n 8) (z.n 1) (z.n 2) (z.n 6) ((z.i 0) + 1) ((z.i 1) - 1) (cellO (.int (z.i 0) (t + 0))) (z.i 2) (z.n 15) ((z.l 2) ++ [.int (z.i 6) (t + (3 + (z.n 14)) + 1)]) ((z.n 16) + 1) (z.l 0) (z.n 9), oD (z.n 7) (z.n 5) (z.n 3) (z.n 8) (z.n 1) (z.n 2) (z.n 6) (z.i 7) (z.i 8) (cellO (.int (z.i 10) (z.n 21))) (z.i 2) (z.n 15) (z.l 3) (z.n 17) (z.l 0) (z.n 9), [], (4 + (z.n 13)), (3 + (z.n 14) + 2), (z.n 18), (z.n 19), .ok .next, 0, 0, true, none, none, []⟩]
noncomputable def lhsOT0 (pg : Program) (W : Params) (b t : Nat) (z : Zs) := resM [true, true, true, true, true, true, true] (enter W (go pg W b t true (ctOT0 W b t z) 94) orsOT0 (olC (z.n 7) (z.n 8) (z.n 0) (z.n 1) (z.n 5) (z.n 2) (z.n 3) (z.n 4)) kx (oD (z.n 7) (z.n 5) (z.n 3) (z.n 8) (z.n 1) (z.n 2) (z.n 6) (z.i 0) (z.i 1) cellE (z.i 2) (z.n 15) (z.l 2) (z.n 16) (z.l 0) (z.n 9)) 0 0 [])
noncomputable def rhsOT0 (pg : Program) (W : Params) (b t : Nat) (z : Zs) : Option (Except Value PySem.Fin × Dy × Nat × Nat × List Ob) := some (.ok (.done .next), oD (z.n 7) (z.n 5) (z.n 3) (z.n 8) (z.n 1) (z.n 2) (z.n 6) (z.i 7) (z.i 8) (cellO (.int (z.i 10) (z.n 21))) (z.i 2) (z.n 15) (z.l 3) (z.n 17) (z.l 0) (z.n 9), (4 + (z.n 13) + (z.n 18)), (3 + (z.n 14) + 2 + (z.n 19)), toldC (ctOT0 W b t z) [(z.n 7), (z.n 5), (z.n 3), (z.n 8), (z.n 1), (z.n 2), (z.n 6), (b + 0), (b + 1), (b + 2), (b + 3)] orsOT0 [] [])
end Mine
lay_z Mine.lhsOT0 Mine.rhsOT0
namespace Mine
theorem chkOT0 (pg : Program) (P : Params) (r : Bool) (b t : Nat) (z : Zs) : lhsOT0 pg (wf P r) b t z = rhsOT0 pg (wf P r) b t z := by
  rw [PySem.W.ZFast.ze4929057372112718308, PySem.W.ZFast.ze9569748831804794171]
  cases r <;> kernel_rfl
theorem conOT0 {w : World} {N U : Nat} (hN : N ≤ 800) (b t : Nat) (z : Zs) (hct : CtOk w w.params N U b t (ctOT0 w.params b t z)) : ConF none [] w w.params N U (olC (z.n 7) (z.n 8) (z.n 0) (z.n 1) (z.n 5) (z.n 2) (z.n 3) (z.n 4)) (oD (z.n 7) (z.n 5) (z.n 3) (z.n 8) (z.n 1) (z.n 2) (z.n 6) (z.i 0) (z.i 1) cellE (z.i 2) (z.n 15) (z.l 2) (z.n 16) (z.l 0) (z.n 9)) (oD (z.n 7) (z.n 5) (z.n 3) (z.n 8) (z.n 1) (z.n 2) (z.n 6) (z.i 7) (z.i 8) (cellO (.int (z.i 10) (z.n 21))) (z.i 2) (z.n 15) (z.l 3) (z.n 17) (z.l 0) (z.n 9)) b t ((4 + (z.n 13) + (z.n 18))) ((3 + (z.n 14) + 2 + (z.n 19))) (.ok .next) := by
  have h := chkOT0 pw w.params (w.params.followText row1) b t z
  rw [wf_self] at h
  exact conF_of_run rfl (spOk w) hct (fr_none rfl) (z_nil rfl) hN h rfl (toldC_ok _ _ _ (fun _ h => by cases h) (fun _ h => by cases h))
noncomputable def orsOT1 : List Rf := [.d 0, .k 0, .d 1, .d 1, .s, .s, .s, .s, .d 2, .d 7, .d 7, .d 7, .d 7, .d 7, .d 7, .k 1, .d 8, .k 2, .d 10, .d 10, .d 10, .k 3, .k 4, .k 5]
noncomputable def ctOT1 (P : Params) (b t : Nat) (z : Zs) : List KC := [⟨.call (.builtin "range_iterator.__next__") ⟨[.ref (z.n 7)], []⟩, [true], [((z.n 7), rIt (z.i 0) (z.i 1))], [((z.n 7), rIt ((z.i 0) + 1) ((z.i 1) - 1))], [], 0, 0, 0, 1, .ok (.ret (.int (z.i 0) (t + 0))), 20, 200, true, none, none, []⟩, ⟨.call (.builtin "range.__iter__") ⟨[.ref (b + 0)], []⟩, [false, false, false, false, false, false, false, true], [(b + 0, rgObj 0 (z.i 2) 1 (t + 1) (z.n 15) (t + 2))], [(b + 0, rgObj 0 (z.i 2) 1 (t + 1) (z.n 15) (t + 2))], [(b + 1, rIt 0 (z.i 2))], 1, 3, 1, 0, .ok (.ret (.ref (b + 1))), 20, 200, true, none, none, []⟩, ⟨isC (b + 1) (b + 2) (z.n 0) (b + 3) (z.n 5) (z.n 2) (z.n 3) (z.n 4), [false, true, false, false, false, true, true, false, true, true, true], iD (z.n 5) (z.n 2) (z.n 6) (b + 1) (b + 2) (b + 3) (.int (z.i 0) (t + 0)) (z.l 0) (z.n 9) 0 (z.i 2) [] 0 (dO [] 0), iD (z.n 5) (z.n 2) (z.n 6) (b + 1) (b + 2) (b + 3) (.int (z.i 0) (t + 0)) (z.l 0) (z.n 9) (z.i 3) (z.i 4) (z.l 1) (z.n 10) (dJ P (z.n 11) (z.i 5) (z.n 12)), [], 4, 3, (z.n 13), (z.n 14), .ok .next, 20, 200, true, none, none, []⟩, ⟨.call (.builtin "len") ⟨[.ref (b + 2)], []⟩, [false, false, false, false, false, false, false, false, false, true], [(b + 2, liObj (z.l 1) (z.n 10))], [(b + 2, liObj (z.l 1) (z.n 10))], [], (4 + (z.n 13)), (3 + (z.n 14)), 0, 2, .ok (.ret (.int (z.i 6) (t + (3 + (z.n 14)) + 1))), 20, 200, false, none, none, []⟩, ⟨.call (.builtin "list.append") ⟨[.ref (z.n 8), .int (z.i 6) (t + (3 + (z.n 14)) + 1)], []⟩, [false, false, false, true], [((z.n 8), liObj (z.l 2) (z.n 16))], [((z.n 8), liObj ((z.l 2) ++ [.int (z.i 6) (t + (3 + (z.n 14)) + 1)]) ((z.n 16) + 1))], [], (4 + (z.n 13)), (3 + (z.n 14) + 2), 0, 0, .ok (.ret .none), 20, 200, true, none, none, []⟩, ⟨olC (z.n 7) (z.n 8) (z.n 0) (z.n 1) (z.n 5) (z.n 2) (z.n 3) (z.n 4), [true, true, true, true, true, true, true], oD (z.n 7) (z.n 5) (z.n 3) (z.n 8) (z.n 1) (z.n 2) (z.n 6) ((z.i 0) + 1) ((z.i 1) - 1) (cellO (.int (z.i 0) (t + 0))) (z.i 2) (z.n 15) ((z.l 2) ++ [.int (z.i 6) (t + (3 + (z.n 14)) + 1)]) ((z.n 16) + 1) (z.l 0) (z.n 9), oD (z.n 7) (z.n 5) (z.n 3) (z.n 8) (z.n 1) (z.n 2) (z.n 6) (z.i 7) (z.i 8) (cellO (.int (z.i 10) (z.n 21))) (z.i 2) (z.n 15) (z.l 3) (z.n 17) (z.l 0) (z.n 9), [], (4 + (z.n 13)), (3 + (z.n 14) + 2), (z.n 18), (z.n 19), .ok .next, 0, 0, true, none, none, []⟩]
noncomputable def lhsOT1 (pg : Program) (W : Params) (b t : Nat) (z : Zs) := resM [true, true, true, true, true, true, true] (enter W (go pg W b t true (ctOT1 W b t z) 94) orsOT1 (olC (z.n 7) (z.n 8) (z.n 0) (z.n 1) (z.n 5) (z.n 2) (z.n 3) (z.n 4)) kx (oD (z.n 7) (z.n 5) (z.n 3) (z.n 8) (z.n 1) (z.n 2) (z.n 6) (z.i 0) (z.i 1) (cellO (.int (z.i 9) (z.n 20))) (z.i 2) (z.n 15) (z.l 2) (z.n 16) (z.l 0) (z.n 9)) 0 0 [])
noncomputable def rhsOT1 (pg : Program) (W : Params) (b t : Nat) (z : Zs) : Option (Except Value PySem.Fin × Dy × Nat × Nat × List Ob) := some (.ok (.done .next), oD (z.n 7) (z.n 5) (z.n 3) (z.n 8) (z.n 1) (z.n 2) (z.n 6) (z.i 7) (z.i 8) (cellO (.int (z.i 10) (z.n 21))) (z.i 2) (z.n 15) (z.l 3) (z.n 17) (z.l 0) (z.n 9), (4 + (z.n 13) + (z.n 18)), (3 + (z.n 14) + 2 + (z.n 19)), toldC (ctOT1 W b t z) [(z.n 7), (z.n 5), (z.n 3), (z.n 8), (z.n 1), (z.n 2), (z.n 6), (b + 0), (b + 1), (b + 2), (b + 3)] orsOT1 [] [])
end Mine
lay_z Mine.lhsOT1 Mine.rhsOT1
namespace Mine
theorem chkOT1 (pg : Program) (P : Params) (r : Bool) (b t : Nat) (z : Zs) : lhsOT1 pg (wf P r) b t z = rhsOT1 pg (wf P r) b t z := by
  rw [PySem.W.ZFast.ze697538527607983471, PySem.W.ZFast.ze14219968191272516139]
  cases r <;> kernel_rfl
theorem conOT1 {w : World} {N U : Nat} (hN : N ≤ 800) (b t : Nat) (z : Zs) (hct : CtOk w w.params N U b t (ctOT1 w.params b t z)) : ConF none [] w w.params N U (olC (z.n 7) (z.n 8) (z.n 0) (z.n 1) (z.n 5) (z.n 2) (z.n 3) (z.n 4)) (oD (z.n 7) (z.n 5) (z.n 3) (z.n 8) (z.n 1) (z.n 2) (z.n 6) (z.i 0) (z.i 1) (cellO (.int (z.i 9) (z.n 20))) (z.i 2) (z.n 15) (z.l 2) (z.n 16) (z.l 0) (z.n 9)) (oD (z.n 7) (z.n 5) (z.n 3) (z.n 8) (z.n 1) (z.n 2) (z.n 6) (z.i 7) (z.i 8) (cellO (.int (z.i 10) (z.n 21))) (z.i 2) (z.n 15) (z.l 3) (z.n 17) (z.l 0) (z.n 9)) b t ((4 + (z.n 13) + (z.n 18))) ((3 + (z.n 14) + 2 + (z.n 19))) (.ok .next) := by
  have h := chkOT1 pw w.params (w.params.followText row1) b t z
  rw [wf_self] at h
  exact conF_of_run rfl (spOk w) hct (fr_none rfl) (z_nil rfl) hN h rfl (toldC_ok _ _ _ (fun _ h => by cases h) (fun _ h => by cases h))
noncomputable def orsOEnd : List Rf := [.d 0, .d 0, .d 0, .d 0, .d 0, .d 2]
noncomputable def lhsOEnd (pg : Program) (W : Params) (b t : Nat) (z : Zs) := resM [true] (enter W (go pg W b t true noCt 55) orsOEnd (olC (z.n 7) (z.n 8) (z.n 0) (z.n 1) (z.n 5) (z.n 2) (z.n 3) (z.n 4)) kx ([((z.n 7), rIt (z.i 0) 0)]) 0 0 [])
noncomputable def rhsOEnd (pg : Program) (W : Params) (b t : Nat) (z : Zs) : Option (Except Value PySem.Fin × Dy × Nat × Nat × List Ob) := some (.ok (.done .next), [((z.n 7), rIt (z.i 0) 0)], 2, 0, toldC noCt [(z.n 7), (b + 0), (b + 1)] orsOEnd [] [])
end Mine
lay_z Mine.lhsOEnd Mine.rhsOEnd
namespace Mine
theorem chkOEnd (pg : Program) (P : Params) (r : Bool) (b t : Nat) (z : Zs) : lhsOEnd pg (wf P r) b t z = rhsOEnd pg (wf P r) b t z := by
  rw [PySem.W.ZFast.ze18052848942718011653, PySem.W.ZFast.ze15687916752329712780]
  cases r <;> kernel_rfl
theorem conOEnd {w : World} {N U : Nat} (hN : N ≤ 800) (b t : Nat) (z : Zs) : ConF none [] w w.params N U (olC (z.n 7) (z.n 8) (z.n 0) (z.n 1) (z.n 5) (z.n 2) (z.n 3) (z.n 4)) ([((z.n 7), rIt (z.i 0) 0)]) ([((z.n 7), rIt (z.i 0) 0)]) b t (2) (0) (.ok .next) := by
  have h := chkOEnd pw w.params (w.params.followText row1) b t z
  rw [wf_self] at h
  exact conF_of_run rfl (spOk w) noCt_ok (fun _ h => by cases h) (fun _ h => by cases h) hN h rfl (toldC_ok _ _ _ (fun _ h => by cases h) (fun _ h => by cases h))
noncomputable def orsOS0 : List Rf := [.d 0, .d 0, .d 0, .d 0, .k 0]
noncomputable def ctOS0 (P : Params) (b t : Nat) (z : Zs) : List KC := [⟨olC (z.n 7) (z.n 8) (z.n 0) (z.n 1) (z.n 5) (z.n 2) (z.n 3) (z.n 4), [true, true, true, true, true, true, true], oD (z.n 7) (z.n 5) (z.n 3) (z.n 8) (z.n 1) (z.n 2) (z.n 6) (z.i 0) (z.i 1) cellE (z.i 2) (z.n 15) (z.l 2) (z.n 16) (z.l 0) (z.n 9), oD (z.n 7) (z.n 5) (z.n 3) (z.n 8) (z.n 1) (z.n 2) (z.n 6) (z.i 7) (z.i 8) (cellO (.int (z.i 10) (z.n 21))) (z.i 2) (z.n 15) (z.l 3) (z.n 17) (z.l 0) (z.n 9), [], 0, 0, (z.n 13), (z.n 14), .ok .next, 0, 0, true, none, none, []⟩]
noncomputable def lhsOS0 (pg : Program) (W : Params) (b t : Nat) (z : Zs) := resM [true, true, true, true, true, true, true] (enter W (go pg W b t true (ctOS0 W b t z) 52) orsOS0 (osC (z.n 7) (z.n 8) (z.n 0) (z.n 1) (z.n 5) (z.n 2) (z.n 3) (z.n 4)) kx (oD (z.n 7) (z.n 5) (z.n 3) (z.n 8) (z.n 1) (z.n 2) (z.n 6) (z.i 0) (z.i 1) cellE (z.i 2) (z.n 15) (z.l 2) (z.n 16) (z.l 0) (z.n 9)) 0 0 [])
noncomputable def rhsOS0 (pg : Program) (W : Params) (b t : Nat) (z : Zs) : Option (Except Value PySem.Fin × Dy × Nat × Nat × List Ob) := some (.ok (.done .next), oD (z.n 7) (z.n 5) (z.n 3) (z.n 8) (z.n 1) (z.n 2) (z.n 6) (z.i 7) (z.i 8) (cellO (.int (z.i 10) (z.n 21))) (z.i 2) (z.n 15) (z.l 3) (z.n 17) (z.l 0) (z.n 9), (0 + (z.n 13)), (0 + (z.n 14)), toldC (ctOS0 W b t z) [(z.n 7), (z.n 5), (z.n 3), (z.n 8), (z.n 1), (z.n 2), (z.n 6)] orsOS0 [] [])
end Mine
lay_z Mine.lhsOS0 Mine.rhsOS0
namespace Mine
theorem chkOS0 (pg : Program) (P : Params) (r : Bool) (b t : Nat) (z : Zs) : lhsOS0 pg (wf (wq P false) r) b t z = rhsOS0 pg (wf (wq P false) r) b t z := by
  rw [PySem.W.ZFast.ze11117713349377147691, PySem.W.ZFast.ze9765585609324829309]
  cases r <;> kernel_rfl
theorem conOS0 {w : World} {N U : Nat} (hN : N ≤ 800) (b t : Nat) (z : Zs) (hrow : w.params.followText row2 = false) (hct : CtOk w w.params N U b t (ctOS0 w.params b t z)) : ConF none [] w w.params N U (osC (z.n 7) (z.n 8) (z.n 0) (z.n 1) (z.n 5) (z.n 2) (z.n 3) (z.n 4)) (oD (z.n 7) (z.n 5) (z.n 3) (z.n 8) (z.n 1) (z.n 2) (z.n 6) (z.i 0) (z.i 1) cellE (z.i 2) (z.n 15) (z.l 2) (z.n 16) (z.l 0) (z.n 9)) (oD (z.n 7) (z.n 5) (z.n 3) (z.n 8) (z.n 1) (z.n 2) (z.n 6) (z.i 7) (z.i 8) (cellO (.int (z.i 10) (z.n 21))) (z.i 2) (z.n 15) (z.l 3) (z.n 17) (z.l 0) (z.n 9)) b t ((0 + (z.n 13))) ((0 + (z.n 14))) (.ok .next) := by
  have h := chkOS0 pw w.params (w.params.followText row1) b t z
  rw [show wq w.params false = w.params from by rw [← hrow]; exact wq_self _, wf_self] at h
  exact conF_of_run rfl (spOk w) hct (fr_none rfl) (z_nil rfl) hN h rfl (toldC_ok _ _ _ (fun _ h => by cases h) (fun _ h => by cases h))
noncomputable def orsOS1 : List Rf := [.k 0]
noncomputable def ctOS1 (P : Params) (b t : Nat) (z : Zs) : List KC := [⟨olC (z.n 7) (z.n 8) (z.n 0) (z.n 1) (z.n 5) (z.n 2) (z.n 3) (z.n 4), [true, true, true, true, true, true, true], oD (z.n 7) (z.n 5) (z.n 3) (z.n 8) (z.n 1) (z.n 2) (z.n 6) (z.i 0) (z.i 1) cellE (z.i 2) (z.n 15) (z.l 2) (z.n 16) (z.l 0) (z.n 9), oD (z.n 7) (z.n 5) (z.n 3) (z.n 8) (z.n 1) (z.n 2) (z.n 6) (z.i 7) (z.i 8) (cellO (.int (z.i 10) (z.n 21))) (z.i 2) (z.n 15) (z.l 3) (z.n 17) (z.l 0) (z.n 9), [], 0, 0, (z.n 13), (z.n 14), .ok .next, 0, 0, true, none, none, []⟩]
noncomputable def lhsOS1 (pg : Program) (W : Params) (b t : Nat) (z : Zs) := resM [true, true, true, true, true, true, true] (enter W (go pg W b t true (ctOS1 W b t z) 52) orsOS1 (osC (z.n 7) (z.n 8) (z.n 0) (z.n 1) (z.n 5) (z.n 2) (z.n 3) (z.n 4)) kx (oD (z.n 7) (z.n 5) (z.n 3) (z.n 8) (z.n 1) (z.n 2) (z.n 6) (z.i 0) (z.i 1) cellE (z.i 2) (z.n 15) (z.l 2) (z.n 16) (z.l 0) (z.n 9)) 0 0 [])
noncomputable def rhsOS1 (pg : Program) (W : Params) (b t : Nat) (z : Zs) : Option (Except Value PySem.Fin × Dy × Nat × Nat × List Ob) := some (.ok (.done .next), oD (z.n 7) (z.n 5) (z.n 3) (z.n 8) (z.n 1) (z.n 2) (z.n 6) (z.i 7) (z.i 8) (cellO (.int (z.i 10) (z.n 21))) (z.i 2) (z.n 15) (z.l 3) (z.n 17) (z.l 0) (z.n 9), (0 + (z.n 13)), (0 + (z.n 14)), toldC (ctOS1 W b t z) [(z.n 7), (z.n 5), (z.n 3), (z.n 8), (z.n 1), (z.n 2), (z.n 6)] orsOS1 [] [])
end Mine
lay_z Mine.lhsOS1 Mine.rhsOS1
namespace Mine
theorem chkOS1 (pg : Program) (P : Params) (r : Bool) (b t : Nat) (z : Zs) : lhsOS1 pg (wf (wq P true) r) b t z = rhsOS1 pg (wf (wq P true) r) b t z := by
  rw [PySem.W.ZFast.ze13852223557841009022, PySem.W.ZFast.ze11935944639796554061]
  cases r <;> kernel_rfl
theorem conOS1 {w : World} {N U : Nat} (hN : N ≤ 800) (b t : Nat) (z : Zs) (hrow : w.params.followText row2 = true) (hct : CtOk w w.params N U b t (ctOS1 w.params b t z)) : ConF none [] w w.params N U (osC (z.n 7) (z.n 8) (z.n 0) (z.n 1) (z.n 5) (z.n 2) (z.n 3) (z.n 4)) (oD (z.n 7) (z.n 5) (z.n 3) (z.n 8) (z.n 1) (z.n 2) (z.n 6) (z.i 0) (z.i 1) cellE (z.i 2) (z.n 15) (z.l 2) (z.n 16) (z.l 0) (z.n 9)) (oD (z.n 7) (z.n 5) (z.n 3) (z.n 8) (z.n 1) (z.n 2) (z.n 6) (z.i 7) (z.i 8) (cellO (.int (z.i 10) (z.n 21))) (z.i 2) (z.n 15) (z.l 3) (z.n 17) (z.l 0) (z.n 9)) b t ((0 + (z.n 13))) ((0 + (z.n 14))) (.ok .next) := by
  have h := chkOS1 pw w.params (w.params.followText row1) b t z
  rw [show wq w.params true = w.params from by rw [← hrow]; exact wq_self _, wf_self] at h
  exact conF_of_run rfl (spOk w) hct (fr_none rfl) (z_nil rfl) hN h rfl (toldC_ok _ _ _ (fun _ h => by cases h) (fun _ h => by cases h))
/-! ## Contracts of lists: a slice, an iterator, a comparison -/
noncomputable def liIt (l : Addr) (i : Int) : Obj := { cls := .type "list_iterator", data := .fields #[.ref l, .int i 0] }
noncomputable def liItE (i : Int) : Obj := { cls := .type "list_iterator", data := .fields #[.none, .int i 0] }
noncomputable def slObj (l u : Value) : Obj := { cls := .type "slice", data := .fields #[l, u, .none] }
section
variable {w : World} {P : Params} {N U b t : Nat}
theorem con_slice (a p : Addr) (vs : List Value) (c : Nat) (vl vu : Value) {lo hi : Option Int} (pl : IsPart vl lo) (pu : IsPart vu hi) (hl : vs.length < 1000) (out : List Value) (ho : slicePick vs.toArray lo hi none = out.toArray) :
    Con w P N U (.call (.builtin "list.__getitem__") ⟨[.ref a, .ref p], []⟩) [(a, liObj vs c), (p, slObj vl vu)] ([(a, liObj vs c), (p, slObj vl vu)] ++ [(b, liObj out 0)]) b t 1 0 (.ok (.ret (.ref b))) := by
  intro h g d o B J G hB hu hh hf rp R hR
  have ha := rp.own _ List.mem_cons_self
  have hp := rp.own _ (List.mem_cons_of_mem _ List.mem_cons_self)
  refine code_slot (T := "list") slot_list_getitem (s := ⟨h, g, d, t, o⟩) ⟨_, ha, rfl⟩ entry_list_getitem (args_list_getitem _ _) ?_
  have hTs : Shared.TypeIs ⟨h, g, d, t, o⟩ (.ref p) "slice" := ⟨_, hp, rfl⟩
  have hz : sizeLine = 16777216 := by decide
  show wpAny _ _ (Builtin.List.listSubscript? (.ref p) >>= _) _ _ _
  refine wpAny_bind ?_
  unfold Builtin.List.listSubscript?
  refine wpAny_bind (wpAny_specialOf hTs slice_no_index ?_)
  simp only [Option.isNone_none, if_true]
  refine wpAny_pure ?_
  show wpAny _ _ (typeOf (.ref p) >>= _) _ _ _
  refine wpAny_bind (wpAny_typeOf hTs ?_)
  rw [if_neg (by decide)]
  rw [listSliceParts_eq]
  refine wpAny_bind (wpAny_bind (wpAny_field hp rfl (x := .none) rfl (wpAny_bind (wpAny_listPart .none ?_))))
  rw [if_neg (show ¬ ((rawPart none == rawInt 0) = true) from Bool.false_ne_true)]
  refine wpAny_bind (wpAny_field hp rfl (x := vl) rfl (wpAny_bind (wpAny_listPart pl ?_)))
  refine wpAny_bind (wpAny_field hp rfl (x := vu) rfl (wpAny_bind (wpAny_listPart pu (wpAny_pure ?_))))
  refine wpAny_bind (m := Builtin.List.listItems (.ref a)) ?_
  unfold Builtin.List.listItems
  refine wpAny_bind (wpAny_seqItems ha rfl (wpAny_pure ?_))
  refine wpAny_bind (wpAny_of_eq (sliceIndices_raw lo hi none vs.toArray.size (by simp)) ?_)
  refine wpAny_bind (wpAny_newObj_type (wpAny_pure ?_) (Nat.le_trans (slicePick_size_le vs.toArray lo hi none) (by rw [hz]; simp; omega)))
  have hs : h.objs.size = b := rp.size
  have e : ({ cls := .type "list", data := .seq (slicePick vs.toArray lo hi none) } : Obj) = liObj out 0 := by rw [ho]; rfl
  show R (.ok (.ret (.ref h.objs.size))) ⟨h.push { cls := .type "list", data := .seq (slicePick vs.toArray lo hi none) }, g, d, t, o⟩
  rw [hs, e]
  exact hR _ g G (rp.alloc (o := liObj out 0) rfl)
theorem con_liNext (it kl : Addr) (kv : List Value) (kc : Nat) (i : Nat) (v : Value) (hv : kv[i]? = some v) :
    Con w P N U (.call (.builtin "list_iterator.__next__") ⟨[.ref it], []⟩) [(kl, liObj kv kc), (it, liIt kl i)] [(kl, liObj kv kc), (it, liIt kl ((i : Int) + 1))] b t 0 0 (.ok (.ret v)) := by
  intro h g d o B J G hB hu hh hf rp R hR
  have hol := rp.own _ List.mem_cons_self
  have ho := rp.own _ (List.mem_cons_of_mem _ List.mem_cons_self)
  refine code_slot (T := "list_iterator") slot_listiter_next (s := ⟨h, g, d, t, o⟩) ⟨_, ho, rfl⟩ entry_listiter_next (args_listiter_next _) ?_
  show wpAny _ _ (field (.ref it) 0 >>= _) _ _ _
  refine wpAny_bind (wpAny_field ho rfl (x := .ref kl) rfl ?_)
  show wpAny _ _ (if (Value.ref kl == Value.none) = true then _ else _) _ _ _
  rw [if_neg (show ¬ ((Value.ref kl == Value.none) = true) from Bool.false_ne_true)]
  show wpAny _ _ (field (.ref it) 1 >>= _) _ _ _
  refine wpAny_bind (wpAny_field ho rfl (x := .int i 0) rfl ?_)
  show wpAny _ _ (seqItems? (.ref kl) >>= _) _ _ _
  refine wpAny_bind (wpAny_seqItems hol rfl ?_)
  have hx : kv.toArray[i]? = some v := by simpa using hv
  simp only [Int.toNat_natCast, hx]
  refine wpAny_bind (wpAny_setField ho rfl (by simp) (wpAny_pure ?_))
  refine hR _ g G ?_
  exact rp.update (j := 1) (p := (it, liIt kl i)) (f := Obj.mapFields (·.setIfInBounds 1 (rawInt ((i : Int) + 1)))) rfl rfl
theorem con_liEnd (it kl : Addr) (kv : List Value) (kc : Nat) (i : Nat) (hi : kv.length = i) :
    Con w P N U (.call (.builtin "list_iterator.__next__") ⟨[.ref it], []⟩) [(kl, liObj kv kc), (it, liIt kl i)] ([(kl, liObj kv kc), (it, liItE i)] ++ [(b + 1, siObj b .none)]) b t 2 0 (.error (.ref (b + 1))) := by
  intro h g d o B J G hB hu hh hf rp R hR
  have hol := rp.own _ List.mem_cons_self
  have ho := rp.own _ (List.mem_cons_of_mem _ List.mem_cons_self)
  refine code_slot (T := "list_iterator") slot_listiter_next (s := ⟨h, g, d, t, o⟩) ⟨_, ho, rfl⟩ entry_listiter_next (args_listiter_next _) ?_
  show wpAny _ _ (field (.ref it) 0 >>= _) _ _ _
  refine wpAny_bind (wpAny_field ho rfl (x := .ref kl) rfl ?_)
  show wpAny _ _ (if (Value.ref kl == Value.none) = true then _ else _) _ _ _
  rw [if_neg (show ¬ ((Value.ref kl == Value.none) = true) from Bool.false_ne_true)]
  show wpAny _ _ (field (.ref it) 1 >>= _) _ _ _
  refine wpAny_bind (wpAny_field ho rfl (x := .int i 0) rfl ?_)
  show wpAny _ _ (seqItems? (.ref kl) >>= _) _ _ _
  refine wpAny_bind (wpAny_seqItems hol rfl ?_)
  have hx : kv.toArray[i]? = none := by simp; omega
  simp only [Int.toNat_natCast, hx]
  refine wpAny_bind (wpAny_rule (wpAny_bind (wpAny_setField ho rfl (by simp) ?_)))
  have r1 := rp.update (j := 1) (p := (it, liIt kl i)) (f := Obj.mapFields (·.setIfInBounds 0 .none)) rfl rfl
  have hs1 : (h.update it (Obj.mapFields (·.setIfInBounds 0 .none))).objs.size = b := r1.size
  have r2 := r1.alloc (o := { cls := .type "tuple", data := .seq #[] }) rfl
  have r3 := r2.alloc (o := siObj b .none) rfl
  show wpAny _ _ (newExc (.type "StopIteration") [] >>= _) _ _ _
  refine wpAny_bind ?_
  simp only [newExc, newTuple]
  refine wpAny_bind (wpAny_newObj_type ?_ (by size_fits))
  refine wpAny_bind (m := firstArgMember _ _) (wpAny_of_eq (a := Value.none) (by first | rfl | (simp only [firstArgMember]; rfl)) ?_)
  refine wpAny_newObj_type ?_ (by size_fits)
  simp only [raiseNew]
  refine wpAny_bind (wpAny_handled ?_)
  rw [show B.in1.handled = none from hh]
  refine wpAny_bind (wpAny_pure (wpAny_throw ?_))
  have hs2 : ((h.update it (Obj.mapFields (·.setIfInBounds 0 .none))).push { cls := .type "tuple", data := .seq #[] }).objs.size = b + 1 := r2.size
  have key : ∀ (a1 a2 : Nat), a1 = b → a2 = b + 1 → R (.error (.ref a2)) ⟨((h.update it (Obj.mapFields (·.setIfInBounds 0 .none))).push { cls := .type "tuple", data := .seq #[] }).push (siObj a1 .none), g, d, t, o⟩ := by
    intro a1 a2 e1 e2
    subst e1 e2
    refine hR _ g G (r3.thin ?_)
    exact .cons₂ _ (.cons₂ _ (.cons _ (.cons₂ _ .slnil)))
  exact key _ _ hs1 hs2
theorem con_listNe (p q : Addr) (av : List Value) (ac qc : Nat) (hl : av.length ≠ 0) :
    Con w P N U (.call (.builtin "list.__ne__") ⟨[.ref p, .ref q], []⟩) [(p, liObj av ac), (q, liObj [] qc)] [(p, liObj av ac), (q, liObj [] qc)] b t 0 0 (.ok (.ret (.bool true))) := by
  refine con_slot_keep (T := "list") F.slot_list_ne F.entry_list_ne (F.args_list_ne_2 _ _) (fun s hs => ⟨_, hs _ List.mem_cons_self, rfl⟩) fun B s hs => ?_
  have hp := hs _ List.mem_cons_self
  have hq := hs _ (List.mem_cons_of_mem _ List.mem_cons_self)
  show wpAny _ B (isInstance (.ref q) (.type "list") >>= fun r => _) _ _ s
  refine wpAny_bind (wpAny_isInstance ⟨_, hq, rfl⟩ sub_list_list ?_)
  show wpAny _ B (Builtin.List.listItems (.ref p) >>= fun xs => _) _ _ s
  unfold Builtin.List.listItems
  refine wpAny_bind (wpAny_bind (wpAny_seqItems hp rfl (wpAny_pure ?_)))
  refine wpAny_bind (wpAny_bind (wpAny_seqItems hq rfl (wpAny_pure ?_)))
  have e : (av.toArray.size != ([] : List Value).toArray.size) = true := by simpa using hl
  rw [e]
  exact wpAny_bind (wpAny_rule (wpAny_pure ⟨rfl, rfl⟩))
end
/-! ## Words for «_law_due» -/
noncomputable def dueE (F cm cj co : Addr) : Env := fnEnv x29.s [(Str.ofString "most", cm), (Str.ofString "j", cj), (Str.ofString "order", co)] F (Str.ofString "_law_due.<locals>.") 763 762
noncomputable def forOf : Stmt → Env → Addr → Code
  | .For t _ b o _, e, it => .forLoop t (.ref it) b o e
  | _, e, _ => .block [] e
noncomputable def forBody : Stmt → List Stmt
  | .For _ _ b _ _ => b
  | _ => []
noncomputable def ifTest : Stmt → PySem.Expr
  | .If t _ _ _ => t
  | _ => .Constant .none 0 pos0
noncomputable def cmpL : PySem.Expr → PySem.Expr
  | .Compare l _ _ _ => l
  | _ => .Constant .none 0 pos0
noncomputable def dfS : Stmt := nthS (fnBody x29.s) 0
noncomputable def dfC (it F cm cj co : Addr) : Code := forOf dfS (dueE F cm cj co) it
noncomputable def dE : PySem.Expr := cmpL (ifTest (nthS (forBody dfS) 1))
noncomputable def dEnvC (F C cm cj co : Addr) : Env :=
  { scope := relabel (lcScope dE) (dueE F cm cj co), locals := C, globals := 3, cells := [(Str.ofString "order", co), (Str.ofString "most", cm), (Str.ofString "j", cj)], qual := Str.ofString "_law_due.<locals>.", func := none, code := .ref 762, frame := some F, builtins := 0 }
noncomputable def dlC (it acc F C cm cj co : Addr) : Code := .compLoop dE 0 (.ref it) (.ref acc) (dEnvC F C cm cj co)
noncomputable def dsC (it acc F C cm cj co : Addr) : Code := .compStart dE 0 (.ref it) (.ref acc) (dEnvC F C cm cj co)
noncomputable def dK (P : Params) (kk : Nat) (k0 : Int) (tk : Nat) : Obj := dO [en P (Str.ofString "k") kk (.int k0 tk)] 1
noncomputable def mlC (it s : Addr) : Code := .builtin "max.loop" ⟨[.ref it, .none, .ref s], []⟩
noncomputable def mD (it kl s : Addr) (i : Int) (kv : List Value) (kc : Nat) (sv : List Value) (sc : Nat) : Dy := [(kl, liObj kv kc), (it, liIt kl i), (s, liObj sv sc)]
noncomputable def mDE (it kl s : Addr) (i : Int) (kv : List Value) (kc : Nat) (sv : List Value) (sc : Nat) : Dy := [(kl, liObj kv kc), (it, liItE i), (s, liObj sv sc)]
/-- the comprehension's: iterator, list, cells and order, the new list, its names -/
noncomputable def kD (it kl cj co ao cm acc C : Addr) (i : Obj) (kv : List Value) (kc : Nat) (j : Int) (tj : Nat) (ov : List Value) (oc : Nat) (mo : Int) (tm : Nat) (av : List Value) (ac : Nat) (d : Obj) : Dy :=
  [(ao, liObj ov oc), (co, cellO (.ref ao)), (cj, cellO (.int j tj)), (cm, cellO (.int mo tm)), (kl, liObj kv kc), (it, i), (acc, liObj av ac), (C, d)]
/-- the loop's -/
noncomputable def fD (it cj co ao cm : Addr) (c r : Int) (oj : Obj) (ov : List Value) (oc : Nat) (om : Obj) : Dy :=
  [(ao, liObj ov oc), (co, cellO (.ref ao)), (cj, oj), (cm, om), (it, rIt c r)]
/-- a turn of the loop, its test in the thin -/
noncomputable def fTurn (T : Sem Bool) (s1 : Stmt) (yes no : List Stmt) (ip : Pos) (target : PySem.Expr) (it : Value) (orelse : List Stmt) (env : Env) (code : Code) : Sem PySem.Fin := do
  standAt target.pos
  match ← (pyNext it).onRaise (fun _ => standAt { target.pos with line := 0 }) with
  | none => again (.block orelse env)
  | some v => do
    letOwnedTupleGo target it v
    assign target env v
    match ← (do match ← exec s1 env with
      | .next => do
        match ← (do standAt ip; if ← T then execs yes env else execs no env) with
        | .next => pure .next
        | f => pure f
      | f => pure f : Sem Flow) with
    | .next | .cont => again code
    | .brk => pure (.done .next)
    | .ret v => pure (.done (.ret v))
noncomputable def thinF : Stmt → Env → Addr → Sem PySem.Fin
  | .For t _ [s1, .If (.Compare l [op] [r] p) yes no ip] o _, e, it => (fTurn (tsT l r op p e) s1 yes no ip t (.ref it) o e (forOf dfS e it)).onRaise fun x => do noteFrame x e; theTreesLotGoes x
  | _, _, _ => .raise .none
theorem fTurn_thn {T T' : Sem Bool} (h : Thn T T') (s1 : Stmt) (yes no : List Stmt) (ip : Pos) (target : PySem.Expr) (it : Value) (orelse : List Stmt) (env : Env) (code : Code) : Thn (fTurn T s1 yes no ip target it orelse env code) (fTurn T' s1 yes no ip target it orelse env code) := by
  unfold fTurn
  refine Thn.bind Thn.rfl fun _ => Thn.bind Thn.rfl fun r => ?_
  cases r with
  | none => exact Thn.rfl
  | some v =>
    refine Thn.bind Thn.rfl fun _ => Thn.bind Thn.rfl fun _ => Thn.bind (Thn.bind Thn.rfl fun f => ?_) fun _ => Thn.rfl
    cases f with
    | next => exact Thn.bind (Thn.bind Thn.rfl fun _ => Thn.bind h fun _ => Thn.rfl) fun _ => Thn.rfl
    | cont => exact Thn.rfl
    | brk => exact Thn.rfl
    | ret v => exact Thn.rfl
theorem thn_for {t iter l r : PySem.Expr} {s1 : Stmt} {yes no o : List Stmt} {op : CmpOp} {p ip pos : Pos} (it : Addr) (env : Env) (he : dfS = .For t iter [s1, .If (.Compare l [op] [r] p) yes no ip] o pos) (hop : ∀ a b, compareOp op a b = richCompare op a b)
    (hm : behindInMarks op r = false) : Thn (denote treeTable (forOf dfS env it)) (thinF dfS env it) := by
  have e2 : forOf dfS env it = .forLoop t (.ref it) [s1, .If (.Compare l [op] [r] p) yes no ip] o env := by rw [he]; rfl
  have e3 : thinF dfS env it = (fTurn (tsT l r op p env) s1 yes no ip t (.ref it) o env (forOf dfS env it)).onRaise (fun x => do
      noteFrame x env
      theTreesLotGoes x) := by
    conv => lhs; rw [he]
    rfl
  rw [e3, e2]
  show Thn ((forTurn t (.ref it) [s1, .If (.Compare l [op] [r] p) yes no ip] o env).onRaise _) _
  have e4 : forTurn t (.ref it) [s1, .If (.Compare l [op] [r] p) yes no ip] o env = fTurn (PySem.isTrue (.Compare l [op] [r] p) env (eval (.Compare l [op] [r] p) env)) s1 yes no ip t (.ref it) o env (.forLoop t (.ref it) [s1, .If (.Compare l [op] [r] p) yes no ip] o env) := rfl
  rw [e4]
  exact Thn.onRaise (fTurn_thn (ts_thn hop hm) _ _ _ _ _ _ _ _ _)
theorem dThn (it : Addr) (env : Env) : Thn (denote treeTable (forOf dfS env it)) (thinF dfS env it) :=
  thn_for it env (by with_unfolding_all exact rfl) (fun a b => rfl) (by with_unfolding_all rfl)
noncomputable def allQ : Nat := (fun _ _ _ _ _ _ _ _ _ _ _ _ _ _ _ _ _ => 0) @liIt @liItE @slObj @dueE @forOf @dfC @dE @dEnvC @dlC @dsC @dK @mlC @mD @mDE @kD @fD @thinF
end Mine
lay_z Mine.allQ
namespace Mine
noncomputable def orsML0 : List Rf := [.d 2, .d 1, .k 0, .d 2, .d 2, .d 2, .k 1]
noncomputable def ctML0 (P : Params) (b t : Nat) (z : Zs) : List KC := [⟨.call (.builtin "list_iterator.__next__") ⟨[.ref (z.n 0)], []⟩, [true, true, false], [((z.n 1), liObj (z.l 0) (z.n 2)), ((z.n 0), liIt (z.n 1) (z.i 0))], [((z.n 1), liObj (z.l 0) (z.n 2)), ((z.n 0), liIt (z.n 1) ((z.i 0) + 1))], [], 0, 0, 0, 0, .ok (.ret (.int (z.i 3) (z.n 6))), 20, 200, true, none, none, []⟩, ⟨mlC (z.n 0) (z.n 3), [true, true, true], mD (z.n 0) (z.n 1) (z.n 3) ((z.i 0) + 1) (z.l 0) (z.n 2) [.int (z.i 3) (z.n 6), .int (z.i 3) (z.n 6)] ((z.n 4) + 1), mDE (z.n 0) (z.n 1) (z.n 3) (z.i 1) (z.l 0) (z.n 2) [] (z.n 8), [], 0, 0, (z.n 9), (z.n 10), .ok (.ret (.int (z.i 2) (z.n 5))), 0, 0, true, none, none, []⟩]
noncomputable def lhsML0 (pg : Program) (W : Params) (b t : Nat) (z : Zs) := resM [true, true, true] (enter W (go pg W b t true (ctML0 W b t z) 47) orsML0 (mlC (z.n 0) (z.n 3)) kx (mD (z.n 0) (z.n 1) (z.n 3) (z.i 0) (z.l 0) (z.n 2) [] (z.n 4)) 0 0 [])
noncomputable def rhsML0 (pg : Program) (W : Params) (b t : Nat) (z : Zs) : Option (Except Value PySem.Fin × Dy × Nat × Nat × List Ob) := some (.ok (.done (.ret (.int (z.i 2) (z.n 5)))), mDE (z.n 0) (z.n 1) (z.n 3) (z.i 1) (z.l 0) (z.n 2) [] (z.n 8), (0 + (z.n 9)), (0 + (z.n 10)), toldC (ctML0 W b t z) [(z.n 1), (z.n 0), (z.n 3)] orsML0 [] [])
end Mine
lay_z Mine.lhsML0 Mine.rhsML0
namespace Mine
theorem chkML0 (pg : Program) (P : Params) (r : Bool) (b t : Nat) (z : Zs) : lhsML0 pg (wf P r) b t z = rhsML0 pg (wf P r) b t z := by
  rw [PySem.W.ZFast.ze3644510588576409797, PySem.W.ZFast.ze5510562927927648620]
  cases r <;> kernel_rfl
theorem conML0 {w : World} {N U : Nat} (hN : N ≤ 800) (b t : Nat) (z : Zs) (hct : CtOk w w.params N U b t (ctML0 w.params b t z)) : ConF none [] w w.params N U (mlC (z.n 0) (z.n 3)) (mD (z.n 0) (z.n 1) (z.n 3) (z.i 0) (z.l 0) (z.n 2) [] (z.n 4)) (mDE (z.n 0) (z.n 1) (z.n 3) (z.i 1) (z.l 0) (z.n 2) [] (z.n 8)) b t ((0 + (z.n 9))) ((0 + (z.n 10))) (.ok (.ret (.int (z.i 2) (z.n 5)))) := by
  have h := chkML0 pw w.params (w.params.followText row1) b t z
  rw [wf_self] at h
  exact conF_of_run rfl (spOk w) hct (fr_none rfl) (z_nil rfl) hN h rfl (toldC_ok _ _ _ (fun _ h => by cases h) (fun _ h => by cases h))
noncomputable def orsMLT : List Rf := [.d 2, .d 1, .k 0, .b true, .d 2, .d 2, .d 2, .k 1]
noncomputable def ctMLT (P : Params) (b t : Nat) (z : Zs) : List KC := [⟨.call (.builtin "list_iterator.__next__") ⟨[.ref (z.n 0)], []⟩, [true, true, false], [((z.n 1), liObj (z.l 0) (z.n 2)), ((z.n 0), liIt (z.n 1) (z.i 0))], [((z.n 1), liObj (z.l 0) (z.n 2)), ((z.n 0), liIt (z.n 1) ((z.i 0) + 1))], [], 0, 0, 0, 0, .ok (.ret (.int (z.i 3) (z.n 6))), 20, 200, true, none, none, []⟩, ⟨mlC (z.n 0) (z.n 3), [true, true, true], mD (z.n 0) (z.n 1) (z.n 3) ((z.i 0) + 1) (z.l 0) (z.n 2) [.int (z.i 3) (z.n 6), .int (z.i 3) (z.n 6)] (z.n 4), mDE (z.n 0) (z.n 1) (z.n 3) (z.i 1) (z.l 0) (z.n 2) [] (z.n 8), [], 0, 0, (z.n 9), (z.n 10), .ok (.ret (.int (z.i 2) (z.n 5))), 0, 0, true, none, none, []⟩]
noncomputable def lhsMLT (pg : Program) (W : Params) (b t : Nat) (z : Zs) := resM [true, true, true] (enter W (go pg W b t true (ctMLT W b t z) 52) orsMLT (mlC (z.n 0) (z.n 3)) kx (mD (z.n 0) (z.n 1) (z.n 3) (z.i 0) (z.l 0) (z.n 2) [.int (z.i 4) (z.n 7), .int (z.i 4) (z.n 7)] (z.n 4)) 0 0 [])
noncomputable def rhsMLT (pg : Program) (W : Params) (b t : Nat) (z : Zs) : Option (Except Value PySem.Fin × Dy × Nat × Nat × List Ob) := some (.ok (.done (.ret (.int (z.i 2) (z.n 5)))), mDE (z.n 0) (z.n 1) (z.n 3) (z.i 1) (z.l 0) (z.n 2) [] (z.n 8), (0 + (z.n 9)), (0 + (z.n 10)), toldC (ctMLT W b t z) [(z.n 1), (z.n 0), (z.n 3)] orsMLT [.cmp 3 (z.i 3) (z.i 4) true] [])
end Mine
lay_z Mine.lhsMLT Mine.rhsMLT
namespace Mine
theorem chkMLT (pg : Program) (P : Params) (r : Bool) (b t : Nat) (z : Zs) : lhsMLT pg (wf P r) b t z = rhsMLT pg (wf P r) b t z := by
  rw [PySem.W.ZFast.ze11096832760289345944, PySem.W.ZFast.ze8249273448117818200]
  cases r <;> kernel_rfl
theorem conMLT {w : World} {N U : Nat} (hN : N ≤ 800) (b t : Nat) (z : Zs) (hct : CtOk w w.params N U b t (ctMLT w.params b t z)) (hsd : ∀ y ∈ ([.cmp 3 (z.i 3) (z.i 4) true] : List Ob), y.ok) : ConF none [] w w.params N U (mlC (z.n 0) (z.n 3)) (mD (z.n 0) (z.n 1) (z.n 3) (z.i 0) (z.l 0) (z.n 2) [.int (z.i 4) (z.n 7), .int (z.i 4) (z.n 7)] (z.n 4)) (mDE (z.n 0) (z.n 1) (z.n 3) (z.i 1) (z.l 0) (z.n 2) [] (z.n 8)) b t ((0 + (z.n 9))) ((0 + (z.n 10))) (.ok (.ret (.int (z.i 2) (z.n 5)))) := by
  have h := chkMLT pw w.params (w.params.followText row1) b t z
  rw [wf_self] at h
  exact conF_of_run rfl (spOk w) hct (fr_none rfl) (z_nil rfl) hN h rfl (toldC_ok _ _ _ hsd (fun _ h => by cases h))
noncomputable def orsMLF : List Rf := [.d 2, .d 1, .k 0, .b false, .k 1]
noncomputable def ctMLF (P : Params) (b t : Nat) (z : Zs) : List KC := [⟨.call (.builtin "list_iterator.__next__") ⟨[.ref (z.n 0)], []⟩, [true, true, false], [((z.n 1), liObj (z.l 0) (z.n 2)), ((z.n 0), liIt (z.n 1) (z.i 0))], [((z.n 1), liObj (z.l 0) (z.n 2)), ((z.n 0), liIt (z.n 1) ((z.i 0) + 1))], [], 0, 0, 0, 0, .ok (.ret (.int (z.i 3) (z.n 6))), 20, 200, true, none, none, []⟩, ⟨mlC (z.n 0) (z.n 3), [true, true, true], mD (z.n 0) (z.n 1) (z.n 3) ((z.i 0) + 1) (z.l 0) (z.n 2) [.int (z.i 4) (z.n 7), .int (z.i 4) (z.n 7)] (z.n 4), mDE (z.n 0) (z.n 1) (z.n 3) (z.i 1) (z.l 0) (z.n 2) [] (z.n 8), [], 0, 0, (z.n 9), (z.n 10), .ok (.ret (.int (z.i 2) (z.n 5))), 0, 0, true, none, none, []⟩]
noncomputable def lhsMLF (pg : Program) (W : Params) (b t : Nat) (z : Zs) := resM [true, true, true] (enter W (go pg W b t true (ctMLF W b t z) 49) orsMLF (mlC (z.n 0) (z.n 3)) kx (mD (z.n 0) (z.n 1) (z.n 3) (z.i 0) (z.l 0) (z.n 2) [.int (z.i 4) (z.n 7), .int (z.i 4) (z.n 7)] (z.n 4)) 0 0 [])
noncomputable def rhsMLF (pg : Program) (W : Params) (b t : Nat) (z : Zs) : Option (Except Value PySem.Fin × Dy × Nat × Nat × List Ob) := some (.ok (.done (.ret (.int (z.i 2) (z.n 5)))), mDE (z.n 0) (z.n 1) (z.n 3) (z.i 1) (z.l 0) (z.n 2) [] (z.n 8), (0 + (z.n 9)), (0 + (z.n 10)), toldC (ctMLF W b t z) [(z.n 1), (z.n 0), (z.n 3)] orsMLF [.cmp 3 (z.i 3) (z.i 4) false] [])
end Mine
lay_z Mine.lhsMLF Mine.rhsMLF
namespace Mine
theorem chkMLF (pg : Program) (P : Params) (r : Bool) (b t : Nat) (z : Zs) : lhsMLF pg (wf P r) b t z = rhsMLF pg (wf P r) b t z := by
  rw [PySem.W.ZFast.ze1568224694670479194, PySem.W.ZFast.ze6949447651801650387]
  cases r <;> kernel_rfl
theorem conMLF {w : World} {N U : Nat} (hN : N ≤ 800) (b t : Nat) (z : Zs) (hct : CtOk w w.params N U b t (ctMLF w.params b t z)) (hsd : ∀ y ∈ ([.cmp 3 (z.i 3) (z.i 4) false] : List Ob), y.ok) : ConF none [] w w.params N U (mlC (z.n 0) (z.n 3)) (mD (z.n 0) (z.n 1) (z.n 3) (z.i 0) (z.l 0) (z.n 2) [.int (z.i 4) (z.n 7), .int (z.i 4) (z.n 7)] (z.n 4)) (mDE (z.n 0) (z.n 1) (z.n 3) (z.i 1) (z.l 0) (z.n 2) [] (z.n 8)) b t ((0 + (z.n 9))) ((0 + (z.n 10))) (.ok (.ret (.int (z.i 2) (z.n 5)))) := by
  have h := chkMLF pw w.params (w.params.followText row1) b t z
  rw [wf_self] at h
  exact conF_of_run rfl (spOk w) hct (fr_none rfl) (z_nil rfl) hN h rfl (toldC_ok _ _ _ hsd (fun _ h => by cases h))
noncomputable def orsMLE : List Rf := [.d 2, .d 1, .k 0, .d 3, .d 2, .d 2, .d 2]
noncomputable def ctMLE (P : Params) (b t : Nat) (z : Zs) : List KC := [⟨.call (.builtin "list_iterator.__next__") ⟨[.ref (z.n 0)], []⟩, [true, true, false], [((z.n 1), liObj (z.l 0) (z.n 2)), ((z.n 0), liIt (z.n 1) (z.i 0))], [((z.n 1), liObj (z.l 0) (z.n 2)), ((z.n 0), liItE (z.i 0))], [(b + 1, siObj (b + 0) .none)], 0, 0, 2, 0, .error (.ref (b + 1)), 20, 200, true, none, none, []⟩]
noncomputable def lhsMLE (pg : Program) (W : Params) (b t : Nat) (z : Zs) := resM [true, true, true] (enter W (go pg W b t true (ctMLE W b t z) 49) orsMLE (mlC (z.n 0) (z.n 3)) kx (mD (z.n 0) (z.n 1) (z.n 3) (z.i 0) (z.l 0) (z.n 2) [.int (z.i 4) (z.n 7), .int (z.i 4) (z.n 7)] (z.n 4)) 0 0 [])
noncomputable def rhsMLE (pg : Program) (W : Params) (b t : Nat) (z : Zs) : Option (Except Value PySem.Fin × Dy × Nat × Nat × List Ob) := some (.ok (.done (.ret (.int (z.i 4) (z.n 7)))), mDE (z.n 0) (z.n 1) (z.n 3) (z.i 0) (z.l 0) (z.n 2) [] ((z.n 4) + 1), 2, 0, toldC (ctMLE W b t z) [(z.n 1), (z.n 0), (z.n 3), (b + 1)] orsMLE [] [])
end Mine
lay_z Mine.lhsMLE Mine.rhsMLE
namespace Mine
theorem chkMLE (pg : Program) (P : Params) (r : Bool) (b t : Nat) (z : Zs) : lhsMLE pg (wf P r) b t z = rhsMLE pg (wf P r) b t z := by
  rw [PySem.W.ZFast.ze18259473232232056492, PySem.W.ZFast.ze822139272154545580]
  cases r <;> kernel_rfl
theorem conMLE {w : World} {N U : Nat} (hN : N ≤ 800) (b t : Nat) (z : Zs) (hct : CtOk w w.params N U b t (ctMLE w.params b t z)) : ConF none [] w w.params N U (mlC (z.n 0) (z.n 3)) (mD (z.n 0) (z.n 1) (z.n 3) (z.i 0) (z.l 0) (z.n 2) [.int (z.i 4) (z.n 7), .int (z.i 4) (z.n 7)] (z.n 4)) (mDE (z.n 0) (z.n 1) (z.n 3) (z.i 0) (z.l 0) (z.n 2) [] ((z.n 4) + 1)) b t (2) (0) (.ok (.ret (.int (z.i 4) (z.n 7)))) := by
  have h := chkMLE pw w.params (w.params.followText row1) b t z
  rw [wf_self] at h
  exact conF_of_run rfl (spOk w) hct (fr_none rfl) (z_nil rfl) hN h rfl (toldC_ok _ _ _ (fun _ h => by cases h) (fun _ h => by cases h))
noncomputable def orsMAX : List Rf := [.d 0, .d 0, .d 0, .d 1, .k 0]
noncomputable def ctMAX (P : Params) (b t : Nat) (z : Zs) : List KC := [⟨mlC (b + 0) (b + 1), [true, true, true], mD (b + 0) (z.n 1) (b + 1) 0 (z.l 0) (z.n 2) [] 0, mDE (b + 0) (z.n 1) (b + 1) (z.i 1) (z.l 0) (z.n 2) [] (z.n 8), [], 2, 0, (z.n 9), (z.n 10), .ok (.ret (.int (z.i 2) (z.n 5))), 20, 200, true, none, none, []⟩]
noncomputable def lhsMAX (pg : Program) (W : Params) (b t : Nat) (z : Zs) := resM [true] (enter W (go pg W b t true (ctMAX W b t z) 52) orsMAX (.call (.builtin "max") ⟨[.ref (z.n 1)], []⟩) kx ([((z.n 1), liObj (z.l 0) (z.n 2))]) 0 0 [])
noncomputable def rhsMAX (pg : Program) (W : Params) (b t : Nat) (z : Zs) : Option (Except Value PySem.Fin × Dy × Nat × Nat × List Ob) := some (.ok (.done (.ret (.int (z.i 2) (z.n 5)))), [((z.n 1), liObj (z.l 0) (z.n 2))], (2 + (z.n 9)), (0 + (z.n 10)), toldC (ctMAX W b t z) [(z.n 1), (b + 0), (b + 1)] orsMAX [] [])
end Mine
lay_z Mine.lhsMAX Mine.rhsMAX
namespace Mine
theorem chkMAX (pg : Program) (P : Params) (r : Bool) (b t : Nat) (z : Zs) : lhsMAX pg (wf P r) b t z = rhsMAX pg (wf P r) b t z := by
  rw [PySem.W.ZFast.ze13279976727422662351, PySem.W.ZFast.ze7743358826229568039]
  cases r <;> kernel_rfl
theorem conMAX {w : World} {N U : Nat} (hN : N ≤ 800) (b t : Nat) (z : Zs) (hct : CtOk w w.params N U b t (ctMAX w.params b t z)) : ConF none [] w w.params N U (.call (.builtin "max") ⟨[.ref (z.n 1)], []⟩) ([((z.n 1), liObj (z.l 0) (z.n 2))]) ([((z.n 1), liObj (z.l 0) (z.n 2))]) b t ((2 + (z.n 9))) ((0 + (z.n 10))) (.ok (.ret (.int (z.i 2) (z.n 5)))) := by
  have h := chkMAX pw w.params (w.params.followText row1) b t z
  rw [wf_self] at h
  exact conF_of_run rfl (spOk w) hct (fr_none rfl) (z_nil rfl) hN h rfl (toldC_ok _ _ _ (fun _ h => by cases h) (fun _ h => by cases h))
noncomputable def orsDC0F : List Rf := [.d 5, .k 0, .d 7, .d 7, .d 7, .d 1, .d 2, .d 0, .d 0, .d 0, .k 1, .b false, .k 2]
noncomputable def ctDC0F (P : Params) (b t : Nat) (z : Zs) : List KC := [⟨.call (.builtin "list_iterator.__next__") ⟨[.ref (z.n 7)], []⟩, [false, false, false, false, true, true, false, false], [((z.n 8), liObj (z.l 1) (z.n 9)), ((z.n 7), liIt (z.n 8) (z.i 6))], [((z.n 8), liObj (z.l 1) (z.n 9)), ((z.n 7), liIt (z.n 8) ((z.i 6) + 1))], [], 0, 0, 0, 0, .ok (.ret (.int (z.i 3) (z.n 16))), 20, 200, true, none, none, []⟩, ⟨.call (.builtin "list.__getitem__") ⟨[.ref (z.n 5), .int (z.i 0) (z.n 13)], []⟩, [true, false, false, false, false, false, false, false], [((z.n 5), liObj (z.l 0) (z.n 6))], [((z.n 5), liObj (z.l 0) (z.n 6))], [], 0, 1, 0, 0, .ok (.ret (.int (z.i 2) (z.n 15))), 20, 200, true, none, none, []⟩, ⟨dlC (z.n 7) (z.n 10) (z.n 0) (z.n 1) (z.n 2) (z.n 3) (z.n 4), [true, true, true, true, true, true, true, true], kD (z.n 7) (z.n 8) (z.n 3) (z.n 4) (z.n 5) (z.n 2) (z.n 10) (z.n 1) (liIt (z.n 8) ((z.i 6) + 1)) (z.l 1) (z.n 9) (z.i 0) (z.n 13) (z.l 0) (z.n 6) (z.i 1) (z.n 14) (z.l 2) (z.n 11) (dK P (t + 0) (z.i 3) (z.n 16)), kD (z.n 7) (z.n 8) (z.n 3) (z.n 4) (z.n 5) (z.n 2) (z.n 10) (z.n 1) (liItE (z.i 7)) (z.l 1) (z.n 9) (z.i 0) (z.n 13) (z.l 0) (z.n 6) (z.i 1) (z.n 14) (z.l 3) (z.n 12) (dK P (t + 0) (z.i 5) (z.n 19)), [], 0, 1, (z.n 20), (z.n 21), .ok .next, 0, 0, true, none, none, []⟩]
noncomputable def lhsDC0F (pg : Program) (W : Params) (b t : Nat) (z : Zs) := resM [true, true, true, true, true, true, true, true] (enter W (go pg W b t true (ctDC0F W b t z) 65) orsDC0F (dlC (z.n 7) (z.n 10) (z.n 0) (z.n 1) (z.n 2) (z.n 3) (z.n 4)) kx (kD (z.n 7) (z.n 8) (z.n 3) (z.n 4) (z.n 5) (z.n 2) (z.n 10) (z.n 1) (liIt (z.n 8) (z.i 6)) (z.l 1) (z.n 9) (z.i 0) (z.n 13) (z.l 0) (z.n 6) (z.i 1) (z.n 14) (z.l 2) (z.n 11) (dO [] 0)) 0 0 [])
noncomputable def rhsDC0F (pg : Program) (W : Params) (b t : Nat) (z : Zs) : Option (Except Value PySem.Fin × Dy × Nat × Nat × List Ob) := some (.ok (.done .next), kD (z.n 7) (z.n 8) (z.n 3) (z.n 4) (z.n 5) (z.n 2) (z.n 10) (z.n 1) (liItE (z.i 7)) (z.l 1) (z.n 9) (z.i 0) (z.n 13) (z.l 0) (z.n 6) (z.i 1) (z.n 14) (z.l 3) (z.n 12) (dK W (t + 0) (z.i 5) (z.n 19)), (0 + (z.n 20)), (1 + (z.n 21)), toldC (ctDC0F W b t z) [(z.n 5), (z.n 4), (z.n 3), (z.n 2), (z.n 8), (z.n 7), (z.n 10), (z.n 1)] orsDC0F [.cmp 3 (z.i 3) (z.i 2) false] [])
end Mine
lay_z Mine.lhsDC0F Mine.rhsDC0F
namespace Mine
theorem chkDC0F (pg : Program) (P : Params) (r : Bool) (b t : Nat) (z : Zs) : lhsDC0F pg (wf P r) b t z = rhsDC0F pg (wf P r) b t z := by
  rw [PySem.W.ZFast.ze4357424135148208325, PySem.W.ZFast.ze5411810377691564590]
  cases r <;> kernel_rfl
theorem conDC0F {w : World} {N U : Nat} (hN : N ≤ 800) (b t : Nat) (z : Zs) (hct : CtOk w w.params N U b t (ctDC0F w.params b t z)) (hsd : ∀ y ∈ ([.cmp 3 (z.i 3) (z.i 2) false] : List Ob), y.ok) : ConF none [] w w.params N U (dlC (z.n 7) (z.n 10) (z.n 0) (z.n 1) (z.n 2) (z.n 3) (z.n 4)) (kD (z.n 7) (z.n 8) (z.n 3) (z.n 4) (z.n 5) (z.n 2) (z.n 10) (z.n 1) (liIt (z.n 8) (z.i 6)) (z.l 1) (z.n 9) (z.i 0) (z.n 13) (z.l 0) (z.n 6) (z.i 1) (z.n 14) (z.l 2) (z.n 11) (dO [] 0)) (kD (z.n 7) (z.n 8) (z.n 3) (z.n 4) (z.n 5) (z.n 2) (z.n 10) (z.n 1) (liItE (z.i 7)) (z.l 1) (z.n 9) (z.i 0) (z.n 13) (z.l 0) (z.n 6) (z.i 1) (z.n 14) (z.l 3) (z.n 12) (dK w.params (t + 0) (z.i 5) (z.n 19))) b t ((0 + (z.n 20))) ((1 + (z.n 21))) (.ok .next) := by
  have h := chkDC0F pw w.params (w.params.followText row1) b t z
  rw [wf_self] at h
  exact conF_of_run rfl (spOk w) hct (fr_none rfl) (z_nil rfl) hN h rfl (toldC_ok _ _ _ hsd (fun _ h => by cases h))
noncomputable def orsDC0TF : List Rf := [.d 5, .k 0, .d 7, .d 7, .d 7, .d 1, .d 2, .d 0, .d 0, .d 0, .k 1, .b true, .d 3, .d 7, .b false, .k 2]
noncomputable def ctDC0TF (P : Params) (b t : Nat) (z : Zs) : List KC := [⟨.call (.builtin "list_iterator.__next__") ⟨[.ref (z.n 7)], []⟩, [false, false, false, false, true, true, false, false], [((z.n 8), liObj (z.l 1) (z.n 9)), ((z.n 7), liIt (z.n 8) (z.i 6))], [((z.n 8), liObj (z.l 1) (z.n 9)), ((z.n 7), liIt (z.n 8) ((z.i 6) + 1))], [], 0, 0, 0, 0, .ok (.ret (.int (z.i 3) (z.n 16))), 20, 200, true, none, none, []⟩, ⟨.call (.builtin "list.__getitem__") ⟨[.ref (z.n 5), .int (z.i 0) (z.n 13)], []⟩, [true, false, false, false, false, false, false, false], [((z.n 5), liObj (z.l 0) (z.n 6))], [((z.n 5), liObj (z.l 0) (z.n 6))], [], 0, 1, 0, 0, .ok (.ret (.int (z.i 2) (z.n 15))), 20, 200, true, none, none, []⟩, ⟨dlC (z.n 7) (z.n 10) (z.n 0) (z.n 1) (z.n 2) (z.n 3) (z.n 4), [true, true, true, true, true, true, true, true], kD (z.n 7) (z.n 8) (z.n 3) (z.n 4) (z.n 5) (z.n 2) (z.n 10) (z.n 1) (liIt (z.n 8) ((z.i 6) + 1)) (z.l 1) (z.n 9) (z.i 0) (z.n 13) (z.l 0) (z.n 6) (z.i 1) (z.n 14) (z.l 2) (z.n 11) (dK P (t + 0) (z.i 3) (z.n 16)), kD (z.n 7) (z.n 8) (z.n 3) (z.n 4) (z.n 5) (z.n 2) (z.n 10) (z.n 1) (liItE (z.i 7)) (z.l 1) (z.n 9) (z.i 0) (z.n 13) (z.l 0) (z.n 6) (z.i 1) (z.n 14) (z.l 3) (z.n 12) (dK P (t + 0) (z.i 5) (z.n 19)), [], 0, 1, (z.n 20), (z.n 21), .ok .next, 0, 0, true, none, none, []⟩]
noncomputable def lhsDC0TF (pg : Program) (W : Params) (b t : Nat) (z : Zs) := resM [true, true, true, true, true, true, true, true] (enter W (go pg W b t true (ctDC0TF W b t z) 72) orsDC0TF (dlC (z.n 7) (z.n 10) (z.n 0) (z.n 1) (z.n 2) (z.n 3) (z.n 4)) kx (kD (z.n 7) (z.n 8) (z.n 3) (z.n 4) (z.n 5) (z.n 2) (z.n 10) (z.n 1) (liIt (z.n 8) (z.i 6)) (z.l 1) (z.n 9) (z.i 0) (z.n 13) (z.l 0) (z.n 6) (z.i 1) (z.n 14) (z.l 2) (z.n 11) (dO [] 0)) 0 0 [])
noncomputable def rhsDC0TF (pg : Program) (W : Params) (b t : Nat) (z : Zs) : Option (Except Value PySem.Fin × Dy × Nat × Nat × List Ob) := some (.ok (.done .next), kD (z.n 7) (z.n 8) (z.n 3) (z.n 4) (z.n 5) (z.n 2) (z.n 10) (z.n 1) (liItE (z.i 7)) (z.l 1) (z.n 9) (z.i 0) (z.n 13) (z.l 0) (z.n 6) (z.i 1) (z.n 14) (z.l 3) (z.n 12) (dK W (t + 0) (z.i 5) (z.n 19)), (0 + (z.n 20)), (1 + (z.n 21)), toldC (ctDC0TF W b t z) [(z.n 5), (z.n 4), (z.n 3), (z.n 2), (z.n 8), (z.n 7), (z.n 10), (z.n 1)] orsDC0TF [.cmp 3 (z.i 3) (z.i 2) true, .cmp 3 (z.i 1) (z.i 3) false] [])
end Mine
lay_z Mine.lhsDC0TF Mine.rhsDC0TF
namespace Mine
theorem chkDC0TF (pg : Program) (P : Params) (r : Bool) (b t : Nat) (z : Zs) : lhsDC0TF pg (wf P r) b t z = rhsDC0TF pg (wf P r) b t z := by
  rw [PySem.W.ZFast.ze4248027055374837145, PySem.W.ZFast.ze10078082668476323247]
  cases r <;> kernel_rfl
theorem conDC0TF {w : World} {N U : Nat} (hN : N ≤ 800) (b t : Nat) (z : Zs) (hct : CtOk w w.params N U b t (ctDC0TF w.params b t z)) (hsd : ∀ y ∈ ([.cmp 3 (z.i 3) (z.i 2) true, .cmp 3 (z.i 1) (z.i 3) false] : List Ob), y.ok) : ConF none [] w w.params N U (dlC (z.n 7) (z.n 10) (z.n 0) (z.n 1) (z.n 2) (z.n 3) (z.n 4)) (kD (z.n 7) (z.n 8) (z.n 3) (z.n 4) (z.n 5) (z.n 2) (z.n 10) (z.n 1) (liIt (z.n 8) (z.i 6)) (z.l 1) (z.n 9) (z.i 0) (z.n 13) (z.l 0) (z.n 6) (z.i 1) (z.n 14) (z.l 2) (z.n 11) (dO [] 0)) (kD (z.n 7) (z.n 8) (z.n 3) (z.n 4) (z.n 5) (z.n 2) (z.n 10) (z.n 1) (liItE (z.i 7)) (z.l 1) (z.n 9) (z.i 0) (z.n 13) (z.l 0) (z.n 6) (z.i 1) (z.n 14) (z.l 3) (z.n 12) (dK w.params (t + 0) (z.i 5) (z.n 19))) b t ((0 + (z.n 20))) ((1 + (z.n 21))) (.ok .next) := by
  have h := chkDC0TF pw w.params (w.params.followText row1) b t z
  rw [wf_self] at h
  exact conF_of_run rfl (spOk w) hct (fr_none rfl) (z_nil rfl) hN h rfl (toldC_ok _ _ _ hsd (fun _ h => by cases h))
noncomputable def orsDC0TT : List Rf := [.d 5, .k 0, .d 7, .d 7, .d 7, .d 1, .d 2, .d 0, .d 0, .d 0, .k 1, .b true, .d 3, .d 7, .b true, .d 7, .k 2, .k 3]
noncomputable def ctDC0TT (P : Params) (b t : Nat) (z : Zs) : List KC := [⟨.call (.builtin "list_iterator.__next__") ⟨[.ref (z.n 7)], []⟩, [false, false, false, false, true, true, false, false], [((z.n 8), liObj (z.l 1) (z.n 9)), ((z.n 7), liIt (z.n 8) (z.i 6))], [((z.n 8), liObj (z.l 1) (z.n 9)), ((z.n 7), liIt (z.n 8) ((z.i 6) + 1))], [], 0, 0, 0, 0, .ok (.ret (.int (z.i 3) (z.n 16))), 20, 200, true, none, none, []⟩, ⟨.call (.builtin "list.__getitem__") ⟨[.ref (z.n 5), .int (z.i 0) (z.n 13)], []⟩, [true, false, false, false, false, false, false, false], [((z.n 5), liObj (z.l 0) (z.n 6))], [((z.n 5), liObj (z.l 0) (z.n 6))], [], 0, 1, 0, 0, .ok (.ret (.int (z.i 2) (z.n 15))), 20, 200, true, none, none, []⟩, ⟨.call (.builtin "list.append") ⟨[.ref (z.n 10), .int (z.i 3) (z.n 16)], []⟩, [false, false, false, false, false, false, true, false], [((z.n 10), liObj (z.l 2) (z.n 11))], [((z.n 10), liObj ((z.l 2) ++ [.int (z.i 3) (z.n 16)]) ((z.n 11) + 1))], [], 0, 1, 0, 0, .ok (.ret .none), 20, 200, true, none, none, []⟩, ⟨dlC (z.n 7) (z.n 10) (z.n 0) (z.n 1) (z.n 2) (z.n 3) (z.n 4), [true, true, true, true, true, true, true, true], kD (z.n 7) (z.n 8) (z.n 3) (z.n 4) (z.n 5) (z.n 2) (z.n 10) (z.n 1) (liIt (z.n 8) ((z.i 6) + 1)) (z.l 1) (z.n 9) (z.i 0) (z.n 13) (z.l 0) (z.n 6) (z.i 1) (z.n 14) ((z.l 2) ++ [.int (z.i 3) (z.n 16)]) ((z.n 11) + 1) (dK P (t + 0) (z.i 3) (z.n 16)), kD (z.n 7) (z.n 8) (z.n 3) (z.n 4) (z.n 5) (z.n 2) (z.n 10) (z.n 1) (liItE (z.i 7)) (z.l 1) (z.n 9) (z.i 0) (z.n 13) (z.l 0) (z.n 6) (z.i 1) (z.n 14) (z.l 3) (z.n 12) (dK P (t + 0) (z.i 5) (z.n 19)), [], 0, 1, (z.n 20), (z.n 21), .ok .next, 0, 0, true, none, none, []⟩]
noncomputable def lhsDC0TT (pg : Program) (W : Params) (b t : Nat) (z : Zs) := resM [true, true, true, true, true, true, true, true] (enter W (go pg W b t true (ctDC0TT W b t z) 75) orsDC0TT (dlC (z.n 7) (z.n 10) (z.n 0) (z.n 1) (z.n 2) (z.n 3) (z.n 4)) kx (kD (z.n 7) (z.n 8) (z.n 3) (z.n 4) (z.n 5) (z.n 2) (z.n 10) (z.n 1) (liIt (z.n 8) (z.i 6)) (z.l 1) (z.n 9) (z.i 0) (z.n 13) (z.l 0) (z.n 6) (z.i 1) (z.n 14) (z.l 2) (z.n 11) (dO [] 0)) 0 0 [])
noncomputable def rhsDC0TT (pg : Program) (W : Params) (b t : Nat) (z : Zs) : Option (Except Value PySem.Fin × Dy × Nat × Nat × List Ob) := some (.ok (.done .next), kD (z.n 7) (z.n 8) (z.n 3) (z.n 4) (z.n 5) (z.n 2) (z.n 10) (z.n 1) (liItE (z.i 7)) (z.l 1) (z.n 9) (z.i 0) (z.n 13) (z.l 0) (z.n 6) (z.i 1) (z.n 14) (z.l 3) (z.n 12) (dK W (t + 0) (z.i 5) (z.n 19)), (0 + (z.n 20)), (1 + (z.n 21)), toldC (ctDC0TT W b t z) [(z.n 5), (z.n 4), (z.n 3), (z.n 2), (z.n 8), (z.n 7), (z.n 10), (z.n 1)] orsDC0TT [.cmp 3 (z.i 3) (z.i 2) true, .cmp 3 (z.i 1) (z.i 3) true] [])
end Mine
lay_z Mine.lhsDC0TT Mine.rhsDC0TT
namespace Mine
theorem chkDC0TT (pg : Program) (P : Params) (r : Bool) (b t : Nat) (z : Zs) : lhsDC0TT pg (wf P r) b t z = rhsDC0TT pg (wf P r) b t z := by
  rw [PySem.W.ZFast.ze3051463960650523279, PySem.W.ZFast.ze10895110392499901020]
  cases r <;> kernel_rfl
theorem conDC0TT {w : World} {N U : Nat} (hN : N ≤ 800) (b t : Nat) (z : Zs) (hct : CtOk w w.params N U b t (ctDC0TT w.params b t z)) (hsd : ∀ y ∈ ([.cmp 3 (z.i 3) (z.i 2) true, .cmp 3 (z.i 1) (z.i 3) true] : List Ob), y.ok) : ConF none [] w w.params N U (dlC (z.n 7) (z.n 10) (z.n 0) (z.n 1) (z.n 2) (z.n 3) (z.n 4)) (kD (z.n 7) (z.n 8) (z.n 3) (z.n 4) (z.n 5) (z.n 2) (z.n 10) (z.n 1) (liIt (z.n 8) (z.i 6)) (z.l 1) (z.n 9) (z.i 0) (z.n 13) (z.l 0) (z.n 6) (z.i 1) (z.n 14) (z.l 2) (z.n 11) (dO [] 0)) (kD (z.n 7) (z.n 8) (z.n 3) (z.n 4) (z.n 5) (z.n 2) (z.n 10) (z.n 1) (liItE (z.i 7)) (z.l 1) (z.n 9) (z.i 0) (z.n 13) (z.l 0) (z.n 6) (z.i 1) (z.n 14) (z.l 3) (z.n 12) (dK w.params (t + 0) (z.i 5) (z.n 19))) b t ((0 + (z.n 20))) ((1 + (z.n 21))) (.ok .next) := by
  have h := chkDC0TT pw w.params (w.params.followText row1) b t z
  rw [wf_self] at h
  exact conF_of_run rfl (spOk w) hct (fr_none rfl) (z_nil rfl) hN h rfl (toldC_ok _ _ _ hsd (fun _ h => by cases h))
noncomputable def orsDC1F : List Rf := [.d 5, .k 0, .d 7, .d 7, .d 7, .d 1, .d 2, .d 0, .d 0, .d 0, .k 1, .b false, .k 2]
noncomputable def ctDC1F (P : Params) (b t : Nat) (z : Zs) : List KC := [⟨.call (.builtin "list_iterator.__next__") ⟨[.ref (z.n 7)], []⟩, [false, false, false, false, true, true, false, false], [((z.n 8), liObj (z.l 1) (z.n 9)), ((z.n 7), liIt (z.n 8) (z.i 6))], [((z.n 8), liObj (z.l 1) (z.n 9)), ((z.n 7), liIt (z.n 8) ((z.i 6) + 1))], [], 0, 0, 0, 0, .ok (.ret (.int (z.i 3) (z.n 16))), 20, 200, true, none, none, []⟩, ⟨.call (.builtin "list.__getitem__") ⟨[.ref (z.n 5), .int (z.i 0) (z.n 13)], []⟩, [true, false, false, false, false, false, false, false], [((z.n 5), liObj (z.l 0) (z.n 6))], [((z.n 5), liObj (z.l 0) (z.n 6))], [], 0, 1, 0, 0, .ok (.ret (.int (z.i 2) (z.n 15))), 20, 200, true, none, none, []⟩, ⟨dlC (z.n 7) (z.n 10) (z.n 0) (z.n 1) (z.n 2) (z.n 3) (z.n 4), [true, true, true, true, true, true, true, true], kD (z.n 7) (z.n 8) (z.n 3) (z.n 4) (z.n 5) (z.n 2) (z.n 10) (z.n 1) (liIt (z.n 8) ((z.i 6) + 1)) (z.l 1) (z.n 9) (z.i 0) (z.n 13) (z.l 0) (z.n 6) (z.i 1) (z.n 14) (z.l 2) (z.n 11) (dK P (z.n 17) (z.i 3) (z.n 16)), kD (z.n 7) (z.n 8) (z.n 3) (z.n 4) (z.n 5) (z.n 2) (z.n 10) (z.n 1) (liItE (z.i 7)) (z.l 1) (z.n 9) (z.i 0) (z.n 13) (z.l 0) (z.n 6) (z.i 1) (z.n 14) (z.l 3) (z.n 12) (dK P (z.n 17) (z.i 5) (z.n 19)), [], 0, 1, (z.n 20), (z.n 21), .ok .next, 0, 0, true, none, none, []⟩]
noncomputable def lhsDC1F (pg : Program) (W : Params) (b t : Nat) (z : Zs) := resM [true, true, true, true, true, true, true, true] (enter W (go pg W b t true (ctDC1F W b t z) 65) orsDC1F (dlC (z.n 7) (z.n 10) (z.n 0) (z.n 1) (z.n 2) (z.n 3) (z.n 4)) kx (kD (z.n 7) (z.n 8) (z.n 3) (z.n 4) (z.n 5) (z.n 2) (z.n 10) (z.n 1) (liIt (z.n 8) (z.i 6)) (z.l 1) (z.n 9) (z.i 0) (z.n 13) (z.l 0) (z.n 6) (z.i 1) (z.n 14) (z.l 2) (z.n 11) (dK W (z.n 17) (z.i 4) (z.n 18))) 0 0 [])
noncomputable def rhsDC1F (pg : Program) (W : Params) (b t : Nat) (z : Zs) : Option (Except Value PySem.Fin × Dy × Nat × Nat × List Ob) := some (.ok (.done .next), kD (z.n 7) (z.n 8) (z.n 3) (z.n 4) (z.n 5) (z.n 2) (z.n 10) (z.n 1) (liItE (z.i 7)) (z.l 1) (z.n 9) (z.i 0) (z.n 13) (z.l 0) (z.n 6) (z.i 1) (z.n 14) (z.l 3) (z.n 12) (dK W (z.n 17) (z.i 5) (z.n 19)), (0 + (z.n 20)), (1 + (z.n 21)), toldC (ctDC1F W b t z) [(z.n 5), (z.n 4), (z.n 3), (z.n 2), (z.n 8), (z.n 7), (z.n 10), (z.n 1)] orsDC1F [.cmp 3 (z.i 3) (z.i 2) false] [])
end Mine
lay_z Mine.lhsDC1F Mine.rhsDC1F
namespace Mine
theorem chkDC1F (pg : Program) (P : Params) (r : Bool) (b t : Nat) (z : Zs) : lhsDC1F pg (wf P r) b t z = rhsDC1F pg (wf P r) b t z := by
  rw [PySem.W.ZFast.ze1732984062210065456, PySem.W.ZFast.ze7115923422013459603]
  cases r <;> kernel_rfl
theorem conDC1F {w : World} {N U : Nat} (hN : N ≤ 800) (b t : Nat) (z : Zs) (hct : CtOk w w.params N U b t (ctDC1F w.params b t z)) (hsd : ∀ y ∈ ([.cmp 3 (z.i 3) (z.i 2) false] : List Ob), y.ok) : ConF none [] w w.params N U (dlC (z.n 7) (z.n 10) (z.n 0) (z.n 1) (z.n 2) (z.n 3) (z.n 4)) (kD (z.n 7) (z.n 8) (z.n 3) (z.n 4) (z.n 5) (z.n 2) (z.n 10) (z.n 1) (liIt (z.n 8) (z.i 6)) (z.l 1) (z.n 9) (z.i 0) (z.n 13) (z.l 0) (z.n 6) (z.i 1) (z.n 14) (z.l 2) (z.n 11) (dK w.params (z.n 17) (z.i 4) (z.n 18))) (kD (z.n 7) (z.n 8) (z.n 3) (z.n 4) (z.n 5) (z.n 2) (z.n 10) (z.n 1) (liItE (z.i 7)) (z.l 1) (z.n 9) (z.i 0) (z.n 13) (z.l 0) (z.n 6) (z.i 1) (z.n 14) (z.l 3) (z.n 12) (dK w.params (z.n 17) (z.i 5) (z.n 19))) b t ((0 + (z.n 20))) ((1 + (z.n 21))) (.ok .next) := by
  have h := chkDC1F pw w.params (w.params.followText row1) b t z
  rw [wf_self] at h
  exact conF_of_run rfl (spOk w) hct (fr_none rfl) (z_nil rfl) hN h rfl (toldC_ok _ _ _ hsd (fun _ h => by cases h))
noncomputable def orsDC1TF : List Rf := [.d 5, .k 0, .d 7, .d 7, .d 7, .d 1, .d 2, .d 0, .d 0, .d 0, .k 1, .b true, .d 3, .d 7, .b false, .k 2]
noncomputable def ctDC1TF (P : Params) (b t : Nat) (z : Zs) : List KC := [⟨.call (.builtin "list_iterator.__next__") ⟨[.ref (z.n 7)], []⟩, [false, false, false, false, true, true, false, false], [((z.n 8), liObj (z.l 1) (z.n 9)), ((z.n 7), liIt (z.n 8) (z.i 6))], [((z.n 8), liObj (z.l 1) (z.n 9)), ((z.n 7), liIt (z.n 8) ((z.i 6) + 1))], [], 0, 0, 0, 0, .ok (.ret (.int (z.i 3) (z.n 16))), 20, 200, true, none, none, []⟩, ⟨.call (.builtin "list.__getitem__") ⟨[.ref (z.n 5), .int (z.i 0) (z.n 13)], []⟩, [true, false, false, false, false, false, false, false], [((z.n 5), liObj (z.l 0) (z.n 6))], [((z.n 5), liObj (z.l 0) (z.n 6))], [], 0, 1, 0, 0, .ok (.ret (.int (z.i 2) (z.n 15))), 20, 200, true, none, none, []⟩, ⟨dlC (z.n 7) (z.n 10) (z.n 0) (z.n 1) (z.n 2) (z.n 3) (z.n 4), [true, true, true, true, true, true, true, true], kD (z.n 7) (z.n 8) (z.n 3) (z.n 4) (z.n 5) (z.n 2) (z.n 10) (z.n 1) (liIt (z.n 8) ((z.i 6) + 1)) (z.l 1) (z.n 9) (z.i 0) (z.n 13) (z.l 0) (z.n 6) (z.i 1) (z.n 14) (z.l 2) (z.n 11) (dK P (z.n 17) (z.i 3) (z.n 16)), kD (z.n 7) (z.n 8) (z.n 3) (z.n 4) (z.n 5) (z.n 2) (z.n 10) (z.n 1) (liItE (z.i 7)) (z.l 1) (z.n 9) (z.i 0) (z.n 13) (z.l 0) (z.n 6) (z.i 1) (z.n 14) (z.l 3) (z.n 12) (dK P (z.n 17) (z.i 5) (z.n 19)), [], 0, 1, (z.n 20), (z.n 21), .ok .next, 0, 0, true, none, none, []⟩]
noncomputable def lhsDC1TF (pg : Program) (W : Params) (b t : Nat) (z : Zs) := resM [true, true, true, true, true, true, true, true] (enter W (go pg W b t true (ctDC1TF W b t z) 72) orsDC1TF (dlC (z.n 7) (z.n 10) (z.n 0) (z.n 1) (z.n 2) (z.n 3) (z.n 4)) kx (kD (z.n 7) (z.n 8) (z.n 3) (z.n 4) (z.n 5) (z.n 2) (z.n 10) (z.n 1) (liIt (z.n 8) (z.i 6)) (z.l 1) (z.n 9) (z.i 0) (z.n 13) (z.l 0) (z.n 6) (z.i 1) (z.n 14) (z.l 2) (z.n 11) (dK W (z.n 17) (z.i 4) (z.n 18))) 0 0 [])
noncomputable def rhsDC1TF (pg : Program) (W : Params) (b t : Nat) (z : Zs) : Option (Except Value PySem.Fin × Dy × Nat × Nat × List Ob) := some (.ok (.done .next), kD (z.n 7) (z.n 8) (z.n 3) (z.n 4) (z.n 5) (z.n 2) (z.n 10) (z.n 1) (liItE (z.i 7)) (z.l 1) (z.n 9) (z.i 0) (z.n 13) (z.l 0) (z.n 6) (z.i 1) (z.n 14) (z.l 3) (z.n 12) (dK W (z.n 17) (z.i 5) (z.n 19)), (0 + (z.n 20)), (1 + (z.n 21)), toldC (ctDC1TF W b t z) [(z.n 5), (z.n 4), (z.n 3), (z.n 2), (z.n 8), (z.n 7), (z.n 10), (z.n 1)] orsDC1TF [.cmp 3 (z.i 3) (z.i 2) true, .cmp 3 (z.i 1) (z.i 3) false] [])
end Mine
lay_z Mine.lhsDC1TF Mine.rhsDC1TF
namespace Mine
theorem chkDC1TF (pg : Program) (P : Params) (r : Bool) (b t : Nat) (z : Zs) : lhsDC1TF pg (wf P r) b t z = rhsDC1TF pg (wf P r) b t z := by
  rw [PySem.W.ZFast.ze14296406774162647968, PySem.W.ZFast.ze11840878674971529789]
  cases r <;> kernel_rfl
theorem conDC1TF {w : World} {N U : Nat} (hN : N ≤ 800) (b t : Nat) (z : Zs) (hct : CtOk w w.params N U b t (ctDC1TF w.params b t z)) (hsd : ∀ y ∈ ([.cmp 3 (z.i 3) (z.i 2) true, .cmp 3 (z.i 1) (z.i 3) false] : List Ob), y.ok) : ConF none [] w w.params N U (dlC (z.n 7) (z.n 10) (z.n 0) (z.n 1) (z.n 2) (z.n 3) (z.n 4)) (kD (z.n 7) (z.n 8) (z.n 3) (z.n 4) (z.n 5) (z.n 2) (z.n 10) (z.n 1) (liIt (z.n 8) (z.i 6)) (z.l 1) (z.n 9) (z.i 0) (z.n 13) (z.l 0) (z.n 6) (z.i 1) (z.n 14) (z.l 2) (z.n 11) (dK w.params (z.n 17) (z.i 4) (z.n 18))) (kD (z.n 7) (z.n 8) (z.n 3) (z.n 4) (z.n 5) (z.n 2) (z.n 10) (z.n 1) (liItE (z.i 7)) (z.l 1) (z.n 9) (z.i 0) (z.n 13) (z.l 0) (z.n 6) (z.i 1) (z.n 14) (z.l 3) (z.n 12) (dK w.params (z.n 17) (z.i 5) (z.n 19))) b t ((0 + (z.n 20))) ((1 + (z.n 21))) (.ok .next) := by
  have h := chkDC1TF pw w.params (w.params.followText row1) b t z
  rw [wf_self] at h
  exact conF_of_run rfl (spOk w) hct (fr_none rfl) (z_nil rfl) hN h rfl (toldC_ok _ _ _ hsd (fun _ h => by cases h))
noncomputable def orsDC1TT : List Rf := [.d 5, .k 0, .d 7, .d 7, .d 7, .d 1, .d 2, .d 0, .d 0, .d 0, .k 1, .b true, .d 3, .d 7, .b true, .d 7, .k 2, .k 3]
noncomputable def ctDC1TT (P : Params) (b t : Nat) (z : Zs) : List KC := [⟨.call (.builtin "list_iterator.__next__") ⟨[.ref (z.n 7)], []⟩, [false, false, false, false, true, true, false, false], [((z.n 8), liObj (z.l 1) (z.n 9)), ((z.n 7), liIt (z.n 8) (z.i 6))], [((z.n 8), liObj (z.l 1) (z.n 9)), ((z.n 7), liIt (z.n 8) ((z.i 6) + 1))], [], 0, 0, 0, 0, .ok (.ret (.int (z.i 3) (z.n 16))), 20, 200, true, none, none, []⟩, ⟨.call (.builtin "list.__getitem__") ⟨[.ref (z.n 5), .int (z.i 0) (z.n 13)], []⟩, [true, false, false, false, false, false, false, false], [((z.n 5), liObj (z.l 0) (z.n 6))], [((z.n 5), liObj (z.l 0) (z.n 6))], [], 0, 1, 0, 0, .ok (.ret (.int (z.i 2) (z.n 15))), 20, 200, true, none, none, []⟩, ⟨.call (.builtin "list.append") ⟨[.ref (z.n 10), .int (z.i 3) (z.n 16)], []⟩, [false, false, false, false, false, false, true, false], [((z.n 10), liObj (z.l 2) (z.n 11))], [((z.n 10), liObj ((z.l 2) ++ [.int (z.i 3) (z.n 16)]) ((z.n 11) + 1))], [], 0, 1, 0, 0, .ok (.ret .none), 20, 200, true, none, none, []⟩, ⟨dlC (z.n 7) (z.n 10) (z.n 0) (z.n 1) (z.n 2) (z.n 3) (z.n 4), [true, true, true, true, true, true, true, true], kD (z.n 7) (z.n 8) (z.n 3) (z.n 4) (z.n 5) (z.n 2) (z.n 10) (z.n 1) (liIt (z.n 8) ((z.i 6) + 1)) (z.l 1) (z.n 9) (z.i 0) (z.n 13) (z.l 0) (z.n 6) (z.i 1) (z.n 14) ((z.l 2) ++ [.int (z.i 3) (z.n 16)]) ((z.n 11) + 1) (dK P (z.n 17) (z.i 3) (z.n 16)), kD (z.n 7) (z.n 8) (z.n 3) (z.n 4) (z.n 5) (z.n 2) (z.n 10) (z.n 1) (liItE (z.i 7)) (z.l 1) (z.n 9) (z.i 0) (z.n 13) (z.l 0) (z.n 6) (z.i 1) (z.n 14) (z.l 3) (z.n 12) (dK P (z.n 17) (z.i 5) (z.n 19)), [], 0, 1, (z.n 20), (z.n 21), .ok .next, 0, 0, true, none, none, []⟩]
noncomputable def lhsDC1TT (pg : Program) (W : Params) (b t : Nat) (z : Zs) := resM [true, true, true, true, true, true, true, true] (enter W (go pg W b t true (ctDC1TT W b t z) 75) orsDC1TT (dlC (z.n 7) (z.n 10) (z.n 0) (z.n 1) (z.n 2) (z.n 3) (z.n 4)) kx (kD (z.n 7) (z.n 8) (z.n 3) (z.n 4) (z.n 5) (z.n 2) (z.n 10) (z.n 1) (liIt (z.n 8) (z.i 6)) (z.l 1) (z.n 9) (z.i 0) (z.n 13) (z.l 0) (z.n 6) (z.i 1) (z.n 14) (z.l 2) (z.n 11) (dK W (z.n 17) (z.i 4) (z.n 18))) 0 0 [])
noncomputable def rhsDC1TT (pg : Program) (W : Params) (b t : Nat) (z : Zs) : Option (Except Value PySem.Fin × Dy × Nat × Nat × List Ob) := some (.ok (.done .next), kD (z.n 7) (z.n 8) (z.n 3) (z.n 4) (z.n 5) (z.n 2) (z.n 10) (z.n 1) (liItE (z.i 7)) (z.l 1) (z.n 9) (z.i 0) (z.n 13) (z.l 0) (z.n 6) (z.i 1) (z.n 14) (z.l 3) (z.n 12) (dK W (z.n 17) (z.i 5) (z.n 19)), (0 + (z.n 20)), (1 + (z.n 21)), toldC (ctDC1TT W b t z) [(z.n 5), (z.n 4), (z.n 3), (z.n 2), (z.n 8), (z.n 7), (z.n 10), (z.n 1)] orsDC1TT [.cmp 3 (z.i 3) (z.i 2) true, .cmp 3 (z.i 1) (z.i 3) true] [])
end Mine
lay_z Mine.lhsDC1TT Mine.rhsDC1TT
namespace Mine
theorem chkDC1TT (pg : Program) (P : Params) (r : Bool) (b t : Nat) (z : Zs) : lhsDC1TT pg (wf P r) b t z = rhsDC1TT pg (wf P r) b t z := by
  rw [PySem.W.ZFast.ze7102242902865157861, PySem.W.ZFast.ze6173022175897608372]
  cases r <;> kernel_rfl
theorem conDC1TT {w : World} {N U : Nat} (hN : N ≤ 800) (b t : Nat) (z : Zs) (hct : CtOk w w.params N U b t (ctDC1TT w.params b t z)) (hsd : ∀ y ∈ ([.cmp 3 (z.i 3) (z.i 2) true, .cmp 3 (z.i 1) (z.i 3) true] : List Ob), y.ok) : ConF none [] w w.params N U (dlC (z.n 7) (z.n 10) (z.n 0) (z.n 1) (z.n 2) (z.n 3) (z.n 4)) (kD (z.n 7) (z.n 8) (z.n 3) (z.n 4) (z.n 5) (z.n 2) (z.n 10) (z.n 1) (liIt (z.n 8) (z.i 6)) (z.l 1) (z.n 9) (z.i 0) (z.n 13) (z.l 0) (z.n 6) (z.i 1) (z.n 14) (z.l 2) (z.n 11) (dK w.params (z.n 17) (z.i 4) (z.n 18))) (kD (z.n 7) (z.n 8) (z.n 3) (z.n 4) (z.n 5) (z.n 2) (z.n 10) (z.n 1) (liItE (z.i 7)) (z.l 1) (z.n 9) (z.i 0) (z.n 13) (z.l 0) (z.n 6) (z.i 1) (z.n 14) (z.l 3) (z.n 12) (dK w.params (z.n 17) (z.i 5) (z.n 19))) b t ((0 + (z.n 20))) ((1 + (z.n 21))) (.ok .next) := by
  have h := chkDC1TT pw w.params (w.params.followText row1) b t z
  rw [wf_self] at h
  exact conF_of_run rfl (spOk w) hct (fr_none rfl) (z_nil rfl) hN h rfl (toldC_ok _ _ _ hsd (fun _ h => by cases h))
noncomputable def orsDCE : List Rf := [.d 1, .k 0, .d 2]
noncomputable def ctDCE (P : Params) (b t : Nat) (z : Zs) : List KC := [⟨.call (.builtin "list_iterator.__next__") ⟨[.ref (z.n 7)], []⟩, [true, true], [((z.n 8), liObj (z.l 1) (z.n 9)), ((z.n 7), liIt (z.n 8) (z.i 6))], [((z.n 8), liObj (z.l 1) (z.n 9)), ((z.n 7), liItE (z.i 6))], [(b + 1, siObj (b + 0) .none)], 0, 0, 2, 0, .error (.ref (b + 1)), 20, 200, true, none, none, []⟩]
noncomputable def lhsDCE (pg : Program) (W : Params) (b t : Nat) (z : Zs) := resM [true, true] (enter W (go pg W b t true (ctDCE W b t z) 45) orsDCE (dlC (z.n 7) (z.n 10) (z.n 0) (z.n 1) (z.n 2) (z.n 3) (z.n 4)) kx ([((z.n 8), liObj (z.l 1) (z.n 9)), ((z.n 7), liIt (z.n 8) (z.i 6))]) 0 0 [])
noncomputable def rhsDCE (pg : Program) (W : Params) (b t : Nat) (z : Zs) : Option (Except Value PySem.Fin × Dy × Nat × Nat × List Ob) := some (.ok (.done .next), [((z.n 8), liObj (z.l 1) (z.n 9)), ((z.n 7), liItE (z.i 6))], 2, 0, toldC (ctDCE W b t z) [(z.n 8), (z.n 7), (b + 1)] orsDCE [] [])
end Mine
lay_z Mine.lhsDCE Mine.rhsDCE
namespace Mine
theorem chkDCE (pg : Program) (P : Params) (r : Bool) (b t : Nat) (z : Zs) : lhsDCE pg (wf P r) b t z = rhsDCE pg (wf P r) b t z := by
  rw [PySem.W.ZFast.ze7934796390284739809, PySem.W.ZFast.ze9573897856720970656]
  cases r <;> kernel_rfl
theorem conDCE {w : World} {N U : Nat} (hN : N ≤ 800) (b t : Nat) (z : Zs) (hct : CtOk w w.params N U b t (ctDCE w.params b t z)) : ConF none [] w w.params N U (dlC (z.n 7) (z.n 10) (z.n 0) (z.n 1) (z.n 2) (z.n 3) (z.n 4)) ([((z.n 8), liObj (z.l 1) (z.n 9)), ((z.n 7), liIt (z.n 8) (z.i 6))]) ([((z.n 8), liObj (z.l 1) (z.n 9)), ((z.n 7), liItE (z.i 6))]) b t (2) (0) (.ok .next) := by
  have h := chkDCE pw w.params (w.params.followText row1) b t z
  rw [wf_self] at h
  exact conF_of_run rfl (spOk w) hct (fr_none rfl) (z_nil rfl) hN h rfl (toldC_ok _ _ _ (fun _ h => by cases h) (fun _ h => by cases h))
noncomputable def orsDS0 : List Rf := [.d 5, .d 5, .d 5, .d 5, .k 0]
noncomputable def ctDS0 (P : Params) (b t : Nat) (z : Zs) : List KC := [⟨dlC (z.n 7) (z.n 10) (z.n 0) (z.n 1) (z.n 2) (z.n 3) (z.n 4), [true, true, true, true, true, true, true, true], kD (z.n 7) (z.n 8) (z.n 3) (z.n 4) (z.n 5) (z.n 2) (z.n 10) (z.n 1) (liIt (z.n 8) (z.i 6)) (z.l 1) (z.n 9) (z.i 0) (z.n 13) (z.l 0) (z.n 6) (z.i 1) (z.n 14) (z.l 2) (z.n 11) (dO [] 0), kD (z.n 7) (z.n 8) (z.n 3) (z.n 4) (z.n 5) (z.n 2) (z.n 10) (z.n 1) (liItE (z.i 7)) (z.l 1) (z.n 9) (z.i 0) (z.n 13) (z.l 0) (z.n 6) (z.i 1) (z.n 14) (z.l 3) (z.n 12) (dK P (z.n 17) (z.i 5) (z.n 19)), [], 0, 0, (z.n 20), (z.n 21), .ok .next, 0, 0, true, none, none, []⟩]
noncomputable def lhsDS0 (pg : Program) (W : Params) (b t : Nat) (z : Zs) := resM [true, true, true, true, true, true, true, true] (enter W (go pg W b t true (ctDS0 W b t z) 52) orsDS0 (dsC (z.n 7) (z.n 10) (z.n 0) (z.n 1) (z.n 2) (z.n 3) (z.n 4)) kx (kD (z.n 7) (z.n 8) (z.n 3) (z.n 4) (z.n 5) (z.n 2) (z.n 10) (z.n 1) (liIt (z.n 8) (z.i 6)) (z.l 1) (z.n 9) (z.i 0) (z.n 13) (z.l 0) (z.n 6) (z.i 1) (z.n 14) (z.l 2) (z.n 11) (dO [] 0)) 0 0 [])
noncomputable def rhsDS0 (pg : Program) (W : Params) (b t : Nat) (z : Zs) : Option (Except Value PySem.Fin × Dy × Nat × Nat × List Ob) := some (.ok (.done .next), kD (z.n 7) (z.n 8) (z.n 3) (z.n 4) (z.n 5) (z.n 2) (z.n 10) (z.n 1) (liItE (z.i 7)) (z.l 1) (z.n 9) (z.i 0) (z.n 13) (z.l 0) (z.n 6) (z.i 1) (z.n 14) (z.l 3) (z.n 12) (dK W (z.n 17) (z.i 5) (z.n 19)), (0 + (z.n 20)), (0 + (z.n 21)), toldC (ctDS0 W b t z) [(z.n 5), (z.n 4), (z.n 3), (z.n 2), (z.n 8), (z.n 7), (z.n 10), (z.n 1)] orsDS0 [] [])
end Mine
lay_z Mine.lhsDS0 Mine.rhsDS0
namespace Mine
theorem chkDS0 (pg : Program) (P : Params) (r : Bool) (b t : Nat) (z : Zs) : lhsDS0 pg (wf (wq P false) r) b t z = rhsDS0 pg (wf (wq P false) r) b t z := by
  rw [PySem.W.ZFast.ze18359405690942253938, PySem.W.ZFast.ze8828973436088055791]
  cases r <;> kernel_rfl
theorem conDS0 {w : World} {N U : Nat} (hN : N ≤ 800) (b t : Nat) (z : Zs) (hrow : w.params.followText row2 = false) (hct : CtOk w w.params N U b t (ctDS0 w.params b t z)) : ConF none [] w w.params N U (dsC (z.n 7) (z.n 10) (z.n 0) (z.n 1) (z.n 2) (z.n 3) (z.n 4)) (kD (z.n 7) (z.n 8) (z.n 3) (z.n 4) (z.n 5) (z.n 2) (z.n 10) (z.n 1) (liIt (z.n 8) (z.i 6)) (z.l 1) (z.n 9) (z.i 0) (z.n 13) (z.l 0) (z.n 6) (z.i 1) (z.n 14) (z.l 2) (z.n 11) (dO [] 0)) (kD (z.n 7) (z.n 8) (z.n 3) (z.n 4) (z.n 5) (z.n 2) (z.n 10) (z.n 1) (liItE (z.i 7)) (z.l 1) (z.n 9) (z.i 0) (z.n 13) (z.l 0) (z.n 6) (z.i 1) (z.n 14) (z.l 3) (z.n 12) (dK w.params (z.n 17) (z.i 5) (z.n 19))) b t ((0 + (z.n 20))) ((0 + (z.n 21))) (.ok .next) := by
  have h := chkDS0 pw w.params (w.params.followText row1) b t z
  rw [show wq w.params false = w.params from by rw [← hrow]; exact wq_self _, wf_self] at h
  exact conF_of_run rfl (spOk w) hct (fr_none rfl) (z_nil rfl) hN h rfl (toldC_ok _ _ _ (fun _ h => by cases h) (fun _ h => by cases h))
noncomputable def orsDS1 : List Rf := [.k 0]
noncomputable def ctDS1 (P : Params) (b t : Nat) (z : Zs) : List KC := [⟨dlC (z.n 7) (z.n 10) (z.n 0) (z.n 1) (z.n 2) (z.n 3) (z.n 4), [true, true, true, true, true, true, true, true], kD (z.n 7) (z.n 8) (z.n 3) (z.n 4) (z.n 5) (z.n 2) (z.n 10) (z.n 1) (liIt (z.n 8) (z.i 6)) (z.l 1) (z.n 9) (z.i 0) (z.n 13) (z.l 0) (z.n 6) (z.i 1) (z.n 14) (z.l 2) (z.n 11) (dO [] 0), kD (z.n 7) (z.n 8) (z.n 3) (z.n 4) (z.n 5) (z.n 2) (z.n 10) (z.n 1) (liItE (z.i 7)) (z.l 1) (z.n 9) (z.i 0) (z.n 13) (z.l 0) (z.n 6) (z.i 1) (z.n 14) (z.l 3) (z.n 12) (dK P (z.n 17) (z.i 5) (z.n 19)), [], 0, 0, (z.n 20), (z.n 21), .ok .next, 0, 0, true, none, none, []⟩]
noncomputable def lhsDS1 (pg : Program) (W : Params) (b t : Nat) (z : Zs) := resM [true, true, true, true, true, true, true, true] (enter W (go pg W b t true (ctDS1 W b t z) 52) orsDS1 (dsC (z.n 7) (z.n 10) (z.n 0) (z.n 1) (z.n 2) (z.n 3) (z.n 4)) kx (kD (z.n 7) (z.n 8) (z.n 3) (z.n 4) (z.n 5) (z.n 2) (z.n 10) (z.n 1) (liIt (z.n 8) (z.i 6)) (z.l 1) (z.n 9) (z.i 0) (z.n 13) (z.l 0) (z.n 6) (z.i 1) (z.n 14) (z.l 2) (z.n 11) (dO [] 0)) 0 0 [])
noncomputable def rhsDS1 (pg : Program) (W : Params) (b t : Nat) (z : Zs) : Option (Except Value PySem.Fin × Dy × Nat × Nat × List Ob) := some (.ok (.done .next), kD (z.n 7) (z.n 8) (z.n 3) (z.n 4) (z.n 5) (z.n 2) (z.n 10) (z.n 1) (liItE (z.i 7)) (z.l 1) (z.n 9) (z.i 0) (z.n 13) (z.l 0) (z.n 6) (z.i 1) (z.n 14) (z.l 3) (z.n 12) (dK W (z.n 17) (z.i 5) (z.n 19)), (0 + (z.n 20)), (0 + (z.n 21)), toldC (ctDS1 W b t z) [(z.n 5), (z.n 4), (z.n 3), (z.n 2), (z.n 8), (z.n 7), (z.n 10), (z.n 1)] orsDS1 [] [])
end Mine
lay_z Mine.lhsDS1 Mine.rhsDS1
namespace Mine
theorem chkDS1 (pg : Program) (P : Params) (r : Bool) (b t : Nat) (z : Zs) : lhsDS1 pg (wf (wq P true) r) b t z = rhsDS1 pg (wf (wq P true) r) b t z := by
  rw [PySem.W.ZFast.ze17484328318220028273, PySem.W.ZFast.ze10753793887232176080]
  cases r <;> kernel_rfl
theorem conDS1 {w : World} {N U : Nat} (hN : N ≤ 800) (b t : Nat) (z : Zs) (hrow : w.params.followText row2 = true) (hct : CtOk w w.params N U b t (ctDS1 w.params b t z)) : ConF none [] w w.params N U (dsC (z.n 7) (z.n 10) (z.n 0) (z.n 1) (z.n 2) (z.n 3) (z.n 4)) (kD (z.n 7) (z.n 8) (z.n 3) (z.n 4) (z.n 5) (z.n 2) (z.n 10) (z.n 1) (liIt (z.n 8) (z.i 6)) (z.l 1) (z.n 9) (z.i 0) (z.n 13) (z.l 0) (z.n 6) (z.i 1) (z.n 14) (z.l 2) (z.n 11) (dO [] 0)) (kD (z.n 7) (z.n 8) (z.n 3) (z.n 4) (z.n 5) (z.n 2) (z.n 10) (z.n 1) (liItE (z.i 7)) (z.l 1) (z.n 9) (z.i 0) (z.n 13) (z.l 0) (z.n 6) (z.i 1) (z.n 14) (z.l 3) (z.n 12) (dK w.params (z.n 17) (z.i 5) (z.n 19))) b t ((0 + (z.n 20))) ((0 + (z.n 21))) (.ok .next) := by
  have h := chkDS1 pw w.params (w.params.followText row1) b t z
  rw [show wq w.params true = w.params from by rw [← hrow]; exact wq_self _, wf_self] at h
  exact conF_of_run rfl (spOk w) hct (fr_none rfl) (z_nil rfl) hN h rfl (toldC_ok _ _ _ (fun _ h => by cases h) (fun _ h => by cases h))
noncomputable def orsDSE0 : List Rf := [.d 5, .d 5, .d 5, .d 5, .k 0]
noncomputable def ctDSE0 (P : Params) (b t : Nat) (z : Zs) : List KC := [⟨dlC (z.n 7) (z.n 10) (z.n 0) (z.n 1) (z.n 2) (z.n 3) (z.n 4), [true, true, true, true, true, true, true, true], kD (z.n 7) (z.n 8) (z.n 3) (z.n 4) (z.n 5) (z.n 2) (z.n 10) (z.n 1) (liIt (z.n 8) (z.i 6)) (z.l 1) (z.n 9) (z.i 0) (z.n 13) (z.l 0) (z.n 6) (z.i 1) (z.n 14) (z.l 2) (z.n 11) (dO [] 0), kD (z.n 7) (z.n 8) (z.n 3) (z.n 4) (z.n 5) (z.n 2) (z.n 10) (z.n 1) (liItE (z.i 7)) (z.l 1) (z.n 9) (z.i 0) (z.n 13) (z.l 0) (z.n 6) (z.i 1) (z.n 14) (z.l 3) (z.n 12) (dO [] 0), [], 0, 0, (z.n 20), (z.n 21), .ok .next, 0, 0, true, none, none, []⟩]
noncomputable def lhsDSE0 (pg : Program) (W : Params) (b t : Nat) (z : Zs) := resM [true, true, true, true, true, true, true, true] (enter W (go pg W b t true (ctDSE0 W b t z) 52) orsDSE0 (dsC (z.n 7) (z.n 10) (z.n 0) (z.n 1) (z.n 2) (z.n 3) (z.n 4)) kx (kD (z.n 7) (z.n 8) (z.n 3) (z.n 4) (z.n 5) (z.n 2) (z.n 10) (z.n 1) (liIt (z.n 8) (z.i 6)) (z.l 1) (z.n 9) (z.i 0) (z.n 13) (z.l 0) (z.n 6) (z.i 1) (z.n 14) (z.l 2) (z.n 11) (dO [] 0)) 0 0 [])
noncomputable def rhsDSE0 (pg : Program) (W : Params) (b t : Nat) (z : Zs) : Option (Except Value PySem.Fin × Dy × Nat × Nat × List Ob) := some (.ok (.done .next), kD (z.n 7) (z.n 8) (z.n 3) (z.n 4) (z.n 5) (z.n 2) (z.n 10) (z.n 1) (liItE (z.i 7)) (z.l 1) (z.n 9) (z.i 0) (z.n 13) (z.l 0) (z.n 6) (z.i 1) (z.n 14) (z.l 3) (z.n 12) (dO [] 0), (0 + (z.n 20)), (0 + (z.n 21)), toldC (ctDSE0 W b t z) [(z.n 5), (z.n 4), (z.n 3), (z.n 2), (z.n 8), (z.n 7), (z.n 10), (z.n 1)] orsDSE0 [] [])
end Mine
lay_z Mine.lhsDSE0 Mine.rhsDSE0
namespace Mine
theorem chkDSE0 (pg : Program) (P : Params) (r : Bool) (b t : Nat) (z : Zs) : lhsDSE0 pg (wf (wq P false) r) b t z = rhsDSE0 pg (wf (wq P false) r) b t z := by
  rw [PySem.W.ZFast.ze8145711666926777042, PySem.W.ZFast.ze17438801916493883714]
  cases r <;> kernel_rfl
theorem conDSE0 {w : World} {N U : Nat} (hN : N ≤ 800) (b t : Nat) (z : Zs) (hrow : w.params.followText row2 = false) (hct : CtOk w w.params N U b t (ctDSE0 w.params b t z)) : ConF none [] w w.params N U (dsC (z.n 7) (z.n 10) (z.n 0) (z.n 1) (z.n 2) (z.n 3) (z.n 4)) (kD (z.n 7) (z.n 8) (z.n 3) (z.n 4) (z.n 5) (z.n 2) (z.n 10) (z.n 1) (liIt (z.n 8) (z.i 6)) (z.l 1) (z.n 9) (z.i 0) (z.n 13) (z.l 0) (z.n 6) (z.i 1) (z.n 14) (z.l 2) (z.n 11) (dO [] 0)) (kD (z.n 7) (z.n 8) (z.n 3) (z.n 4) (z.n 5) (z.n 2) (z.n 10) (z.n 1) (liItE (z.i 7)) (z.l 1) (z.n 9) (z.i 0) (z.n 13) (z.l 0) (z.n 6) (z.i 1) (z.n 14) (z.l 3) (z.n 12) (dO [] 0)) b t ((0 + (z.n 20))) ((0 + (z.n 21))) (.ok .next) := by
  have h := chkDSE0 pw w.params (w.params.followText row1) b t z
  rw [show wq w.params false = w.params from by rw [← hrow]; exact wq_self _, wf_self] at h
  exact conF_of_run rfl (spOk w) hct (fr_none rfl) (z_nil rfl) hN h rfl (toldC_ok _ _ _ (fun _ h => by cases h) (fun _ h => by cases h))
noncomputable def orsDSE1 : List Rf := [.k 0]
noncomputable def ctDSE1 (P : Params) (b t : Nat) (z : Zs) : List KC := [⟨dlC (z.n 7) (z.n 10) (z.n 0) (z.n 1) (z.n 2) (z.n 3) (z.n 4), [true, true, true, true, true, true, true, true], kD (z.n 7) (z.n 8) (z.n 3) (z.n 4) (z.n 5) (z.n 2) (z.n 10) (z.n 1) (liIt (z.n 8) (z.i 6)) (z.l 1) (z.n 9) (z.i 0) (z.n 13) (z.l 0) (z.n 6) (z.i 1) (z.n 14) (z.l 2) (z.n 11) (dO [] 0), kD (z.n 7) (z.n 8) (z.n 3) (z.n 4) (z.n 5) (z.n 2) (z.n 10) (z.n 1) (liItE (z.i 7)) (z.l 1) (z.n 9) (z.i 0) (z.n 13) (z.l 0) (z.n 6) (z.i 1) (z.n 14) (z.l 3) (z.n 12) (dO [] 0), [], 0, 0, (z.n 20), (z.n 21), .ok .next, 0, 0, true, none, none, []⟩]
noncomputable def lhsDSE1 (pg : Program) (W : Params) (b t : Nat) (z : Zs) := resM [true, true, true, true, true, true, true, true] (enter W (go pg W b t true (ctDSE1 W b t z) 52) orsDSE1 (dsC (z.n 7) (z.n 10) (z.n 0) (z.n 1) (z.n 2) (z.n 3) (z.n 4)) kx (kD (z.n 7) (z.n 8) (z.n 3) (z.n 4) (z.n 5) (z.n 2) (z.n 10) (z.n 1) (liIt (z.n 8) (z.i 6)) (z.l 1) (z.n 9) (z.i 0) (z.n 13) (z.l 0) (z.n 6) (z.i 1) (z.n 14) (z.l 2) (z.n 11) (dO [] 0)) 0 0 [])
noncomputable def rhsDSE1 (pg : Program) (W : Params) (b t : Nat) (z : Zs) : Option (Except Value PySem.Fin × Dy × Nat × Nat × List Ob) := some (.ok (.done .next), kD (z.n 7) (z.n 8) (z.n 3) (z.n 4) (z.n 5) (z.n 2) (z.n 10) (z.n 1) (liItE (z.i 7)) (z.l 1) (z.n 9) (z.i 0) (z.n 13) (z.l 0) (z.n 6) (z.i 1) (z.n 14) (z.l 3) (z.n 12) (dO [] 0), (0 + (z.n 20)), (0 + (z.n 21)), toldC (ctDSE1 W b t z) [(z.n 5), (z.n 4), (z.n 3), (z.n 2), (z.n 8), (z.n 7), (z.n 10), (z.n 1)] orsDSE1 [] [])
end Mine
lay_z Mine.lhsDSE1 Mine.rhsDSE1
namespace Mine
theorem chkDSE1 (pg : Program) (P : Params) (r : Bool) (b t : Nat) (z : Zs) : lhsDSE1 pg (wf (wq P true) r) b t z = rhsDSE1 pg (wf (wq P true) r) b t z := by
  rw [PySem.W.ZFast.ze2838687939512378177, PySem.W.ZFast.ze14265888439293706275]
  cases r <;> kernel_rfl
theorem conDSE1 {w : World} {N U : Nat} (hN : N ≤ 800) (b t : Nat) (z : Zs) (hrow : w.params.followText row2 = true) (hct : CtOk w w.params N U b t (ctDSE1 w.params b t z)) : ConF none [] w w.params N U (dsC (z.n 7) (z.n 10) (z.n 0) (z.n 1) (z.n 2) (z.n 3) (z.n 4)) (kD (z.n 7) (z.n 8) (z.n 3) (z.n 4) (z.n 5) (z.n 2) (z.n 10) (z.n 1) (liIt (z.n 8) (z.i 6)) (z.l 1) (z.n 9) (z.i 0) (z.n 13) (z.l 0) (z.n 6) (z.i 1) (z.n 14) (z.l 2) (z.n 11) (dO [] 0)) (kD (z.n 7) (z.n 8) (z.n 3) (z.n 4) (z.n 5) (z.n 2) (z.n 10) (z.n 1) (liItE (z.i 7)) (z.l 1) (z.n 9) (z.i 0) (z.n 13) (z.l 0) (z.n 6) (z.i 1) (z.n 14) (z.l 3) (z.n 12) (dO [] 0)) b t ((0 + (z.n 20))) ((0 + (z.n 21))) (.ok .next) := by
  have h := chkDSE1 pw w.params (w.params.followText row1) b t z
  rw [show wq w.params true = w.params from by rw [← hrow]; exact wq_self _, wf_self] at h
  exact conF_of_run rfl (spOk w) hct (fr_none rfl) (z_nil rfl) hN h rfl (toldC_ok _ _ _ (fun _ h => by cases h) (fun _ h => by cases h))
noncomputable def orsDF0FN : List Rf := [.d 4, .k 0, .d 2, .d 2, .s, .s, .d 1, .d 2, .d 0, .d 0, .d 0, .k 1, .k 2, .d 3, .d 3, .d 1, .d 2, .d 0, .d 0, .d 0, .k 3, .d 8, .d 8, .d 8, .d 9, .k 4, .d 11, .d 11, .d 11, .d 10, .d 12, .d 10, .k 5, .k 6]
noncomputable def ctDF0FN (P : Params) (b t : Nat) (z : Zs) : List KC := [⟨.call (.builtin "range_iterator.__next__") ⟨[.ref (z.n 6)], []⟩, [false, false, false, false, true], [((z.n 6), rIt (z.i 0) (z.i 1))], [((z.n 6), rIt ((z.i 0) + 1) ((z.i 1) - 1))], [], 0, 0, 0, 1, .ok (.ret (.int (z.i 0) (t + 0))), 20, 200, true, none, none, []⟩, ⟨.call (.builtin "list.__getitem__") ⟨[.ref (z.n 4), .ref (b + 0)], []⟩, [true, false, false, false, false, true, false, false, false, false, false, false, false], [((z.n 4), liObj (z.l 0) (z.n 5)), (b + 0, slObj .none (.int (z.i 0) (t + 0)))], [((z.n 4), liObj (z.l 0) (z.n 5)), (b + 0, slObj .none (.int (z.i 0) (t + 0)))], [(b + 1, liObj (z.l 1) 0)], 1, 1, 1, 0, .ok (.ret (.ref (b + 1))), 20, 200, true, none, none, []⟩, ⟨.call (.builtin "max") ⟨[.ref (b + 1)], []⟩, [false, false, false, false, false, false, true, false, false, false, false, false, false], [(b + 1, liObj (z.l 1) 0)], [(b + 1, liObj (z.l 1) 0)], [], 2, 1, 4, 0, .ok (.ret (.int (z.i 4) (z.n 8))), 20, 200, true, none, none, []⟩, ⟨.call (.builtin "list.__getitem__") ⟨[.ref (z.n 4), .ref (b + 6)], []⟩, [true, false, false, false, false, false, false, true, false, false, false, false, false], [((z.n 4), liObj (z.l 0) (z.n 5)), (b + 6, slObj (.int ((z.i 0) + 1) (t + 2)) .none)], [((z.n 4), liObj (z.l 0) (z.n 5)), (b + 6, slObj (.int ((z.i 0) + 1) (t + 2)) .none)], [(b + 7, liObj (z.l 2) 0)], (2 + 4 + 1), (1 + 0 + 2), 1, 0, .ok (.ret (.ref (b + 7))), 20, 200, true, none, none, []⟩, ⟨dsC (b + 8) (b + 9) (z.n 0) (b + 10) (z.n 1) (z.n 2) (z.n 3), [true, true, true, true, false, false, false, false, true, true, true, true, false], kD (b + 8) (b + 7) (z.n 2) (z.n 3) (z.n 4) (z.n 1) (b + 9) (b + 10) (liIt (b + 7) 0) (z.l 2) 0 (z.i 0) (t + 0) (z.l 0) (z.n 5) (z.i 4) (z.n 8) [] 0 (dO [] 0), kD (b + 8) (b + 7) (z.n 2) (z.n 3) (z.n 4) (z.n 1) (b + 9) (b + 10) (liItE (z.i 10)) (z.l 2) 0 (z.i 0) (t + 0) (z.l 0) (z.n 5) (z.i 4) (z.n 8) (z.l 3) (z.n 7) (dK P (z.n 9) (z.i 9) (z.n 10)), [], (2 + 4 + 5), (1 + 0 + 2), (z.n 11), (z.n 12), .ok .next, 20, 200, true, none, none, []⟩, ⟨.call (.builtin "list.__ne__") ⟨[.ref (b + 9), .ref (b + (2 + 4 + 5 + (z.n 11)))], []⟩, [false, false, false, false, false, false, false, false, false, false, true, false, true], [(b + 9, liObj (z.l 3) (z.n 7)), ((b + (2 + 4 + 5 + (z.n 11))), liObj [] 0)], [(b + 9, liObj (z.l 3) (z.n 7)), ((b + (2 + 4 + 5 + (z.n 11))), liObj [] 0)], [], (2 + 4 + 5 + (z.n 11) + 1), (1 + 0 + 2 + (z.n 12)), 0, 0, .ok (.ret (.bool false)), 20, 200, true, none, none, []⟩, ⟨dfC (z.n 6) (z.n 0) (z.n 1) (z.n 2) (z.n 3), [true, true, true, true, true], fD (z.n 6) (z.n 2) (z.n 3) (z.n 4) (z.n 1) ((z.i 0) + 1) ((z.i 1) - 1) (cellO (.int (z.i 0) (t + 0))) (z.l 0) (z.n 5) (cellO (.int (z.i 4) (z.n 8))), fD (z.n 6) (z.n 2) (z.n 3) (z.n 4) (z.n 1) (z.i 2) (z.i 3) (cellO (.int (z.i 5) (z.n 17))) (z.l 0) (z.n 5) (cellO (.int (z.i 7) (z.n 18))), [], (2 + 4 + 5 + (z.n 11) + 1), (1 + 0 + 2 + (z.n 12)), (z.n 13), (z.n 14), .ok .next, 0, 0, true, none, none, []⟩]
noncomputable def lhsDF0FN (pg : Program) (W : Params) (b t : Nat) (z : Zs) := resM [true, true, true, true, true] (go pg W b t true (ctDF0FN W b t z) 118 orsDF0FN false (dfC (z.n 6) (z.n 0) (z.n 1) (z.n 2) (z.n 3)) kx (thinF dfS (dueE (z.n 0) (z.n 1) (z.n 2) (z.n 3)) (z.n 6)) (fD (z.n 6) (z.n 2) (z.n 3) (z.n 4) (z.n 1) (z.i 0) (z.i 1) cellE (z.l 0) (z.n 5) cellE) 0 0 [])
noncomputable def rhsDF0FN (pg : Program) (W : Params) (b t : Nat) (z : Zs) : Option (Except Value PySem.Fin × Dy × Nat × Nat × List Ob) := some (.ok (.done .next), fD (z.n 6) (z.n 2) (z.n 3) (z.n 4) (z.n 1) (z.i 2) (z.i 3) (cellO (.int (z.i 5) (z.n 17))) (z.l 0) (z.n 5) (cellO (.int (z.i 7) (z.n 18))), (2 + 4 + 5 + (z.n 11) + 1 + (z.n 13)), (1 + 0 + 2 + (z.n 12) + (z.n 14)), toldC (ctDF0FN W b t z) [(z.n 4), (z.n 3), (z.n 2), (z.n 1), (z.n 6), (b + 0), (b + 1), (b + (2 + 4)), (b + (2 + 4 + 1)), (b + (2 + 4 + 2)), (b + (2 + 4 + 3)), (b + (2 + 4 + 4)), (b + (2 + 4 + 5 + (z.n 11)))] orsDF0FN [] [])
theorem trigDF0FN : (fun _ _ => true) lhsDF0FN rhsDF0FN = true := by k_qdec
theorem chkDF0FN (pg : Program) (P : Params) (r : Bool) (b t : Nat) (z : Zs) : lhsDF0FN pg (wf P r) b t z = rhsDF0FN pg (wf P r) b t z := by
  rw [PySem.W.Fast.te15170328435190743451, PySem.W.Fast.te9125393644125511838]
  cases r <;> kernel_rfl
theorem conDF0FN {w : World} {N U : Nat} (hN : N ≤ 800) (b t : Nat) (z : Zs) (hct : CtOk w w.params N U b t (ctDF0FN w.params b t z)) (hU : U + (dfC (z.n 6) (z.n 0) (z.n 1) (z.n 2) (z.n 3) : Code).cUnits < cLine) : ConF none [] w w.params N U (dfC (z.n 6) (z.n 0) (z.n 1) (z.n 2) (z.n 3)) (fD (z.n 6) (z.n 2) (z.n 3) (z.n 4) (z.n 1) (z.i 0) (z.i 1) cellE (z.l 0) (z.n 5) cellE) (fD (z.n 6) (z.n 2) (z.n 3) (z.n 4) (z.n 1) (z.i 2) (z.i 3) (cellO (.int (z.i 5) (z.n 17))) (z.l 0) (z.n 5) (cellO (.int (z.i 7) (z.n 18)))) b t ((2 + 4 + 5 + (z.n 11) + 1 + (z.n 13))) ((1 + 0 + 2 + (z.n 12) + (z.n 14))) (.ok .next) := by
  have h := chkDF0FN pw w.params (w.params.followText row1) b t z
  rw [wf_self] at h
  exact conF_of_tree rfl (spOk w) hct (fr_none rfl) (z_nil rfl) hN hU ((dThn (z.n 6) (dueE (z.n 0) (z.n 1) (z.n 2) (z.n 3))).toC) h rfl (toldC_ok _ _ _ (fun _ h => by cases h) (fun _ h => by cases h))
noncomputable def orsDF0FR : List Rf := [.d 4, .k 0, .d 2, .d 2, .s, .s, .d 1, .d 2, .d 0, .d 0, .d 0, .k 1, .k 2, .d 3, .d 3, .d 1, .d 2, .d 0, .d 0, .d 0, .k 3, .d 8, .d 8, .d 8, .d 9, .k 4, .d 11, .d 11, .d 11, .d 10, .d 12, .d 10, .k 5, .k 6]
noncomputable def ctDF0FR (P : Params) (b t : Nat) (z : Zs) : List KC := [⟨.call (.builtin "range_iterator.__next__") ⟨[.ref (z.n 6)], []⟩, [false, false, false, false, true], [((z.n 6), rIt (z.i 0) (z.i 1))], [((z.n 6), rIt ((z.i 0) + 1) ((z.i 1) - 1))], [], 0, 0, 0, 1, .ok (.ret (.int (z.i 0) (t + 0))), 20, 200, true, none, none, []⟩, ⟨.call (.builtin "list.__getitem__") ⟨[.ref (z.n 4), .ref (b + 0)], []⟩, [true, false, false, false, false, true, false, false, false, false, false, false, false], [((z.n 4), liObj (z.l 0) (z.n 5)), (b + 0, slObj .none (.int (z.i 0) (t + 0)))], [((z.n 4), liObj (z.l 0) (z.n 5)), (b + 0, slObj .none (.int (z.i 0) (t + 0)))], [(b + 1, liObj (z.l 1) 0)], 1, 1, 1, 0, .ok (.ret (.ref (b + 1))), 20, 200, true, none, none, []⟩, ⟨.call (.builtin "max") ⟨[.ref (b + 1)], []⟩, [false, false, false, false, false, false, true, false, false, false, false, false, false], [(b + 1, liObj (z.l 1) 0)], [(b + 1, liObj (z.l 1) 0)], [], 2, 1, 4, 0, .ok (.ret (.int (z.i 4) (z.n 8))), 20, 200, true, none, none, []⟩, ⟨.call (.builtin "list.__getitem__") ⟨[.ref (z.n 4), .ref (b + 6)], []⟩, [true, false, false, false, false, false, false, true, false, false, false, false, false], [((z.n 4), liObj (z.l 0) (z.n 5)), (b + 6, slObj (.int ((z.i 0) + 1) (t + 2)) .none)], [((z.n 4), liObj (z.l 0) (z.n 5)), (b + 6, slObj (.int ((z.i 0) + 1) (t + 2)) .none)], [(b + 7, liObj (z.l 2) 0)], (2 + 4 + 1), (1 + 0 + 2), 1, 0, .ok (.ret (.ref (b + 7))), 20, 200, true, none, none, []⟩, ⟨dsC (b + 8) (b + 9) (z.n 0) (b + 10) (z.n 1) (z.n 2) (z.n 3), [true, true, true, true, false, false, false, false, true, true, true, true, false], kD (b + 8) (b + 7) (z.n 2) (z.n 3) (z.n 4) (z.n 1) (b + 9) (b + 10) (liIt (b + 7) 0) (z.l 2) 0 (z.i 0) (t + 0) (z.l 0) (z.n 5) (z.i 4) (z.n 8) [] 0 (dO [] 0), kD (b + 8) (b + 7) (z.n 2) (z.n 3) (z.n 4) (z.n 1) (b + 9) (b + 10) (liItE (z.i 10)) (z.l 2) 0 (z.i 0) (t + 0) (z.l 0) (z.n 5) (z.i 4) (z.n 8) (z.l 3) (z.n 7) (dK P (z.n 9) (z.i 9) (z.n 10)), [], (2 + 4 + 5), (1 + 0 + 2), (z.n 11), (z.n 12), .ok .next, 20, 200, true, none, none, []⟩, ⟨.call (.builtin "list.__ne__") ⟨[.ref (b + 9), .ref (b + (2 + 4 + 5 + (z.n 11)))], []⟩, [false, false, false, false, false, false, false, false, false, false, true, false, true], [(b + 9, liObj (z.l 3) (z.n 7)), ((b + (2 + 4 + 5 + (z.n 11))), liObj [] 0)], [(b + 9, liObj (z.l 3) (z.n 7)), ((b + (2 + 4 + 5 + (z.n 11))), liObj [] 0)], [], (2 + 4 + 5 + (z.n 11) + 1), (1 + 0 + 2 + (z.n 12)), 0, 0, .ok (.ret (.bool false)), 20, 200, true, none, none, []⟩, ⟨dfC (z.n 6) (z.n 0) (z.n 1) (z.n 2) (z.n 3), [true, true, true, true, true], fD (z.n 6) (z.n 2) (z.n 3) (z.n 4) (z.n 1) ((z.i 0) + 1) ((z.i 1) - 1) (cellO (.int (z.i 0) (t + 0))) (z.l 0) (z.n 5) (cellO (.int (z.i 4) (z.n 8))), fD (z.n 6) (z.n 2) (z.n 3) (z.n 4) (z.n 1) (z.i 2) (z.i 3) (cellO (.int (z.i 5) (z.n 17))) (z.l 0) (z.n 5) (cellO (.int (z.i 7) (z.n 18))), [], (2 + 4 + 5 + (z.n 11) + 1), (1 + 0 + 2 + (z.n 12)), (z.n 13), (z.n 14), .ok (.ret (.int (z.i 5) (z.n 17))), 0, 0, true, none, none, []⟩]
noncomputable def lhsDF0FR (pg : Program) (W : Params) (b t : Nat) (z : Zs) := resM [true, true, true, true, true] (go pg W b t true (ctDF0FR W b t z) 118 orsDF0FR false (dfC (z.n 6) (z.n 0) (z.n 1) (z.n 2) (z.n 3)) kx (thinF dfS (dueE (z.n 0) (z.n 1) (z.n 2) (z.n 3)) (z.n 6)) (fD (z.n 6) (z.n 2) (z.n 3) (z.n 4) (z.n 1) (z.i 0) (z.i 1) cellE (z.l 0) (z.n 5) cellE) 0 0 [])
noncomputable def rhsDF0FR (pg : Program) (W : Params) (b t : Nat) (z : Zs) : Option (Except Value PySem.Fin × Dy × Nat × Nat × List Ob) := some (.ok (.done (.ret (.int (z.i 5) (z.n 17)))), fD (z.n 6) (z.n 2) (z.n 3) (z.n 4) (z.n 1) (z.i 2) (z.i 3) (cellO (.int (z.i 5) (z.n 17))) (z.l 0) (z.n 5) (cellO (.int (z.i 7) (z.n 18))), (2 + 4 + 5 + (z.n 11) + 1 + (z.n 13)), (1 + 0 + 2 + (z.n 12) + (z.n 14)), toldC (ctDF0FR W b t z) [(z.n 4), (z.n 3), (z.n 2), (z.n 1), (z.n 6), (b + 0), (b + 1), (b + (2 + 4)), (b + (2 + 4 + 1)), (b + (2 + 4 + 2)), (b + (2 + 4 + 3)), (b + (2 + 4 + 4)), (b + (2 + 4 + 5 + (z.n 11)))] orsDF0FR [] [])
theorem trigDF0FR : (fun _ _ => true) lhsDF0FR rhsDF0FR = true := by k_qdec
theorem chkDF0FR (pg : Program) (P : Params) (r : Bool) (b t : Nat) (z : Zs) : lhsDF0FR pg (wf P r) b t z = rhsDF0FR pg (wf P r) b t z := by
  rw [PySem.W.Fast.te14685279033909795573, PySem.W.Fast.te10487585173649538595]
  cases r <;> kernel_rfl
theorem conDF0FR {w : World} {N U : Nat} (hN : N ≤ 800) (b t : Nat) (z : Zs) (hct : CtOk w w.params N U b t (ctDF0FR w.params b t z)) (hU : U + (dfC (z.n 6) (z.n 0) (z.n 1) (z.n 2) (z.n 3) : Code).cUnits < cLine) : ConF none [] w w.params N U (dfC (z.n 6) (z.n 0) (z.n 1) (z.n 2) (z.n 3)) (fD (z.n 6) (z.n 2) (z.n 3) (z.n 4) (z.n 1) (z.i 0) (z.i 1) cellE (z.l 0) (z.n 5) cellE) (fD (z.n 6) (z.n 2) (z.n 3) (z.n 4) (z.n 1) (z.i 2) (z.i 3) (cellO (.int (z.i 5) (z.n 17))) (z.l 0) (z.n 5) (cellO (.int (z.i 7) (z.n 18)))) b t ((2 + 4 + 5 + (z.n 11) + 1 + (z.n 13))) ((1 + 0 + 2 + (z.n 12) + (z.n 14))) (.ok (.ret (.int (z.i 5) (z.n 17)))) := by
  have h := chkDF0FR pw w.params (w.params.followText row1) b t z
  rw [wf_self] at h
  exact conF_of_tree rfl (spOk w) hct (fr_none rfl) (z_nil rfl) hN hU ((dThn (z.n 6) (dueE (z.n 0) (z.n 1) (z.n 2) (z.n 3))).toC) h rfl (toldC_ok _ _ _ (fun _ h => by cases h) (fun _ h => by cases h))
noncomputable def orsDF1FN : List Rf := [.d 4, .k 0, .d 2, .d 2, .s, .s, .d 1, .d 2, .d 0, .d 0, .d 0, .k 1, .k 2, .d 3, .d 3, .d 1, .d 2, .d 0, .d 0, .d 0, .k 3, .d 8, .d 8, .d 8, .d 9, .k 4, .d 11, .d 11, .d 11, .d 10, .d 12, .d 10, .k 5, .k 6]
noncomputable def ctDF1FN (P : Params) (b t : Nat) (z : Zs) : List KC := [⟨.call (.builtin "range_iterator.__next__") ⟨[.ref (z.n 6)], []⟩, [false, false, false, false, true], [((z.n 6), rIt (z.i 0) (z.i 1))], [((z.n 6), rIt ((z.i 0) + 1) ((z.i 1) - 1))], [], 0, 0, 0, 1, .ok (.ret (.int (z.i 0) (t + 0))), 20, 200, true, none, none, []⟩, ⟨.call (.builtin "list.__getitem__") ⟨[.ref (z.n 4), .ref (b + 0)], []⟩, [true, false, false, false, false, true, false, false, false, false, false, false, false], [((z.n 4), liObj (z.l 0) (z.n 5)), (b + 0, slObj .none (.int (z.i 0) (t + 0)))], [((z.n 4), liObj (z.l 0) (z.n 5)), (b + 0, slObj .none (.int (z.i 0) (t + 0)))], [(b + 1, liObj (z.l 1) 0)], 1, 1, 1, 0, .ok (.ret (.ref (b + 1))), 20, 200, true, none, none, []⟩, ⟨.call (.builtin "max") ⟨[.ref (b + 1)], []⟩, [false, false, false, false, false, false, true, false, false, false, false, false, false], [(b + 1, liObj (z.l 1) 0)], [(b + 1, liObj (z.l 1) 0)], [], 2, 1, 4, 0, .ok (.ret (.int (z.i 4) (z.n 8))), 20, 200, true, none, none, []⟩, ⟨.call (.builtin "list.__getitem__") ⟨[.ref (z.n 4), .ref (b + 6)], []⟩, [true, false, false, false, false, false, false, true, false, false, false, false, false], [((z.n 4), liObj (z.l 0) (z.n 5)), (b + 6, slObj (.int ((z.i 0) + 1) (t + 2)) .none)], [((z.n 4), liObj (z.l 0) (z.n 5)), (b + 6, slObj (.int ((z.i 0) + 1) (t + 2)) .none)], [(b + 7, liObj (z.l 2) 0)], (2 + 4 + 1), (1 + 0 + 2), 1, 0, .ok (.ret (.ref (b + 7))), 20, 200, true, none, none, []⟩, ⟨dsC (b + 8) (b + 9) (z.n 0) (b + 10) (z.n 1) (z.n 2) (z.n 3), [true, true, true, true, false, false, false, false, true, true, true, true, false], kD (b + 8) (b + 7) (z.n 2) (z.n 3) (z.n 4) (z.n 1) (b + 9) (b + 10) (liIt (b + 7) 0) (z.l 2) 0 (z.i 0) (t + 0) (z.l 0) (z.n 5) (z.i 4) (z.n 8) [] 0 (dO [] 0), kD (b + 8) (b + 7) (z.n 2) (z.n 3) (z.n 4) (z.n 1) (b + 9) (b + 10) (liItE (z.i 10)) (z.l 2) 0 (z.i 0) (t + 0) (z.l 0) (z.n 5) (z.i 4) (z.n 8) (z.l 3) (z.n 7) (dK P (z.n 9) (z.i 9) (z.n 10)), [], (2 + 4 + 5), (1 + 0 + 2), (z.n 11), (z.n 12), .ok .next, 20, 200, true, none, none, []⟩, ⟨.call (.builtin "list.__ne__") ⟨[.ref (b + 9), .ref (b + (2 + 4 + 5 + (z.n 11)))], []⟩, [false, false, false, false, false, false, false, false, false, false, true, false, true], [(b + 9, liObj (z.l 3) (z.n 7)), ((b + (2 + 4 + 5 + (z.n 11))), liObj [] 0)], [(b + 9, liObj (z.l 3) (z.n 7)), ((b + (2 + 4 + 5 + (z.n 11))), liObj [] 0)], [], (2 + 4 + 5 + (z.n 11) + 1), (1 + 0 + 2 + (z.n 12)), 0, 0, .ok (.ret (.bool false)), 20, 200, true, none, none, []⟩, ⟨dfC (z.n 6) (z.n 0) (z.n 1) (z.n 2) (z.n 3), [true, true, true, true, true], fD (z.n 6) (z.n 2) (z.n 3) (z.n 4) (z.n 1) ((z.i 0) + 1) ((z.i 1) - 1) (cellO (.int (z.i 0) (t + 0))) (z.l 0) (z.n 5) (cellO (.int (z.i 4) (z.n 8))), fD (z.n 6) (z.n 2) (z.n 3) (z.n 4) (z.n 1) (z.i 2) (z.i 3) (cellO (.int (z.i 5) (z.n 17))) (z.l 0) (z.n 5) (cellO (.int (z.i 7) (z.n 18))), [], (2 + 4 + 5 + (z.n 11) + 1), (1 + 0 + 2 + (z.n 12)), (z.n 13), (z.n 14), .ok .next, 0, 0, true, none, none, []⟩]
noncomputable def lhsDF1FN (pg : Program) (W : Params) (b t : Nat) (z : Zs) := resM [true, true, true, true, true] (go pg W b t true (ctDF1FN W b t z) 118 orsDF1FN false (dfC (z.n 6) (z.n 0) (z.n 1) (z.n 2) (z.n 3)) kx (thinF dfS (dueE (z.n 0) (z.n 1) (z.n 2) (z.n 3)) (z.n 6)) (fD (z.n 6) (z.n 2) (z.n 3) (z.n 4) (z.n 1) (z.i 0) (z.i 1) (cellO (.int (z.i 8) (z.n 15))) (z.l 0) (z.n 5) (cellO (.int (z.i 6) (z.n 16)))) 0 0 [])
noncomputable def rhsDF1FN (pg : Program) (W : Params) (b t : Nat) (z : Zs) : Option (Except Value PySem.Fin × Dy × Nat × Nat × List Ob) := some (.ok (.done .next), fD (z.n 6) (z.n 2) (z.n 3) (z.n 4) (z.n 1) (z.i 2) (z.i 3) (cellO (.int (z.i 5) (z.n 17))) (z.l 0) (z.n 5) (cellO (.int (z.i 7) (z.n 18))), (2 + 4 + 5 + (z.n 11) + 1 + (z.n 13)), (1 + 0 + 2 + (z.n 12) + (z.n 14)), toldC (ctDF1FN W b t z) [(z.n 4), (z.n 3), (z.n 2), (z.n 1), (z.n 6), (b + 0), (b + 1), (b + (2 + 4)), (b + (2 + 4 + 1)), (b + (2 + 4 + 2)), (b + (2 + 4 + 3)), (b + (2 + 4 + 4)), (b + (2 + 4 + 5 + (z.n 11)))] orsDF1FN [] [])
theorem trigDF1FN : (fun _ _ => true) lhsDF1FN rhsDF1FN = true := by k_qdec
theorem chkDF1FN (pg : Program) (P : Params) (r : Bool) (b t : Nat) (z : Zs) : lhsDF1FN pg (wf P r) b t z = rhsDF1FN pg (wf P r) b t z := by
  rw [PySem.W.Fast.te9151085828702718937, PySem.W.Fast.te1727151616542307899]
  cases r <;> kernel_rfl
theorem conDF1FN {w : World} {N U : Nat} (hN : N ≤ 800) (b t : Nat) (z : Zs) (hct : CtOk w w.params N U b t (ctDF1FN w.params b t z)) (hU : U + (dfC (z.n 6) (z.n 0) (z.n 1) (z.n 2) (z.n 3) : Code).cUnits < cLine) : ConF none [] w w.params N U (dfC (z.n 6) (z.n 0) (z.n 1) (z.n 2) (z.n 3)) (fD (z.n 6) (z.n 2) (z.n 3) (z.n 4) (z.n 1) (z.i 0) (z.i 1) (cellO (.int (z.i 8) (z.n 15))) (z.l 0) (z.n 5) (cellO (.int (z.i 6) (z.n 16)))) (fD (z.n 6) (z.n 2) (z.n 3) (z.n 4) (z.n 1) (z.i 2) (z.i 3) (cellO (.int (z.i 5) (z.n 17))) (z.l 0) (z.n 5) (cellO (.int (z.i 7) (z.n 18)))) b t ((2 + 4 + 5 + (z.n 11) + 1 + (z.n 13))) ((1 + 0 + 2 + (z.n 12) + (z.n 14))) (.ok .next) := by
  have h := chkDF1FN pw w.params (w.params.followText row1) b t z
  rw [wf_self] at h
  exact conF_of_tree rfl (spOk w) hct (fr_none rfl) (z_nil rfl) hN hU ((dThn (z.n 6) (dueE (z.n 0) (z.n 1) (z.n 2) (z.n 3))).toC) h rfl (toldC_ok _ _ _ (fun _ h => by cases h) (fun _ h => by cases h))
noncomputable def orsDF1FR : List Rf := [.d 4, .k 0, .d 2, .d 2, .s, .s, .d 1, .d 2, .d 0, .d 0, .d 0, .k 1, .k 2, .d 3, .d 3, .d 1, .d 2, .d 0, .d 0, .d 0, .k 3, .d 8, .d 8, .d 8, .d 9, .k 4, .d 11, .d 11, .d 11, .d 10, .d 12, .d 10, .k 5, .k 6]
noncomputable def ctDF1FR (P : Params) (b t : Nat) (z : Zs) : List KC := [⟨.call (.builtin "range_iterator.__next__") ⟨[.ref (z.n 6)], []⟩, [false, false, false, false, true], [((z.n 6), rIt (z.i 0) (z.i 1))], [((z.n 6), rIt ((z.i 0) + 1) ((z.i 1) - 1))], [], 0, 0, 0, 1, .ok (.ret (.int (z.i 0) (t + 0))), 20, 200, true, none, none, []⟩, ⟨.call (.builtin "list.__getitem__") ⟨[.ref (z.n 4), .ref (b + 0)], []⟩, [true, false, false, false, false, true, false, false, false, false, false, false, false], [((z.n 4), liObj (z.l 0) (z.n 5)), (b + 0, slObj .none (.int (z.i 0) (t + 0)))], [((z.n 4), liObj (z.l 0) (z.n 5)), (b + 0, slObj .none (.int (z.i 0) (t + 0)))], [(b + 1, liObj (z.l 1) 0)], 1, 1, 1, 0, .ok (.ret (.ref (b + 1))), 20, 200, true, none, none, []⟩, ⟨.call (.builtin "max") ⟨[.ref (b + 1)], []⟩, [false, false, false, false, false, false, true, false, false, false, false, false, false], [(b + 1, liObj (z.l 1) 0)], [(b + 1, liObj (z.l 1) 0)], [], 2, 1, 4, 0, .ok (.ret (.int (z.i 4) (z.n 8))), 20, 200, true, none, none, []⟩, ⟨.call (.builtin "list.__getitem__") ⟨[.ref (z.n 4), .ref (b + 6)], []⟩, [true, false, false, false, false, false, false, true, false, false, false, false, false], [((z.n 4), liObj (z.l 0) (z.n 5)), (b + 6, slObj (.int ((z.i 0) + 1) (t + 2)) .none)], [((z.n 4), liObj (z.l 0) (z.n 5)), (b + 6, slObj (.int ((z.i 0) + 1) (t + 2)) .none)], [(b + 7, liObj (z.l 2) 0)], (2 + 4 + 1), (1 + 0 + 2), 1, 0, .ok (.ret (.ref (b + 7))), 20, 200, true, none, none, []⟩, ⟨dsC (b + 8) (b + 9) (z.n 0) (b + 10) (z.n 1) (z.n 2) (z.n 3), [true, true, true, true, false, false, false, false, true, true, true, true, false], kD (b + 8) (b + 7) (z.n 2) (z.n 3) (z.n 4) (z.n 1) (b + 9) (b + 10) (liIt (b + 7) 0) (z.l 2) 0 (z.i 0) (t + 0) (z.l 0) (z.n 5) (z.i 4) (z.n 8) [] 0 (dO [] 0), kD (b + 8) (b + 7) (z.n 2) (z.n 3) (z.n 4) (z.n 1) (b + 9) (b + 10) (liItE (z.i 10)) (z.l 2) 0 (z.i 0) (t + 0) (z.l 0) (z.n 5) (z.i 4) (z.n 8) (z.l 3) (z.n 7) (dK P (z.n 9) (z.i 9) (z.n 10)), [], (2 + 4 + 5), (1 + 0 + 2), (z.n 11), (z.n 12), .ok .next, 20, 200, true, none, none, []⟩, ⟨.call (.builtin "list.__ne__") ⟨[.ref (b + 9), .ref (b + (2 + 4 + 5 + (z.n 11)))], []⟩, [false, false, false, false, false, false, false, false, false, false, true, false, true], [(b + 9, liObj (z.l 3) (z.n 7)), ((b + (2 + 4 + 5 + (z.n 11))), liObj [] 0)], [(b + 9, liObj (z.l 3) (z.n 7)), ((b + (2 + 4 + 5 + (z.n 11))), liObj [] 0)], [], (2 + 4 + 5 + (z.n 11) + 1), (1 + 0 + 2 + (z.n 12)), 0, 0, .ok (.ret (.bool false)), 20, 200, true, none, none, []⟩, ⟨dfC (z.n 6) (z.n 0) (z.n 1) (z.n 2) (z.n 3), [true, true, true, true, true], fD (z.n 6) (z.n 2) (z.n 3) (z.n 4) (z.n 1) ((z.i 0) + 1) ((z.i 1) - 1) (cellO (.int (z.i 0) (t + 0))) (z.l 0) (z.n 5) (cellO (.int (z.i 4) (z.n 8))), fD (z.n 6) (z.n 2) (z.n 3) (z.n 4) (z.n 1) (z.i 2) (z.i 3) (cellO (.int (z.i 5) (z.n 17))) (z.l 0) (z.n 5) (cellO (.int (z.i 7) (z.n 18))), [], (2 + 4 + 5 + (z.n 11) + 1), (1 + 0 + 2 + (z.n 12)), (z.n 13), (z.n 14), .ok (.ret (.int (z.i 5) (z.n 17))), 0, 0, true, none, none, []⟩]
noncomputable def lhsDF1FR (pg : Program) (W : Params) (b t : Nat) (z : Zs) := resM [true, true, true, true, true] (go pg W b t true (ctDF1FR W b t z) 118 orsDF1FR false (dfC (z.n 6) (z.n 0) (z.n 1) (z.n 2) (z.n 3)) kx (thinF dfS (dueE (z.n 0) (z.n 1) (z.n 2) (z.n 3)) (z.n 6)) (fD (z.n 6) (z.n 2) (z.n 3) (z.n 4) (z.n 1) (z.i 0) (z.i 1) (cellO (.int (z.i 8) (z.n 15))) (z.l 0) (z.n 5) (cellO (.int (z.i 6) (z.n 16)))) 0 0 [])
noncomputable def rhsDF1FR (pg : Program) (W : Params) (b t : Nat) (z : Zs) : Option (Except Value PySem.Fin × Dy × Nat × Nat × List Ob) := some (.ok (.done (.ret (.int (z.i 5) (z.n 17)))), fD (z.n 6) (z.n 2) (z.n 3) (z.n 4) (z.n 1) (z.i 2) (z.i 3) (cellO (.int (z.i 5) (z.n 17))) (z.l 0) (z.n 5) (cellO (.int (z.i 7) (z.n 18))), (2 + 4 + 5 + (z.n 11) + 1 + (z.n 13)), (1 + 0 + 2 + (z.n 12) + (z.n 14)), toldC (ctDF1FR W b t z) [(z.n 4), (z.n 3), (z.n 2), (z.n 1), (z.n 6), (b + 0), (b + 1), (b + (2 + 4)), (b + (2 + 4 + 1)), (b + (2 + 4 + 2)), (b + (2 + 4 + 3)), (b + (2 + 4 + 4)), (b + (2 + 4 + 5 + (z.n 11)))] orsDF1FR [] [])
theorem trigDF1FR : (fun _ _ => true) lhsDF1FR rhsDF1FR = true := by k_qdec
theorem chkDF1FR (pg : Program) (P : Params) (r : Bool) (b t : Nat) (z : Zs) : lhsDF1FR pg (wf P r) b t z = rhsDF1FR pg (wf P r) b t z := by
  rw [PySem.W.Fast.te1971431028331145612, PySem.W.Fast.te7882015006857228595]
  cases r <;> kernel_rfl
theorem conDF1FR {w : World} {N U : Nat} (hN : N ≤ 800) (b t : Nat) (z : Zs) (hct : CtOk w w.params N U b t (ctDF1FR w.params b t z)) (hU : U + (dfC (z.n 6) (z.n 0) (z.n 1) (z.n 2) (z.n 3) : Code).cUnits < cLine) : ConF none [] w w.params N U (dfC (z.n 6) (z.n 0) (z.n 1) (z.n 2) (z.n 3)) (fD (z.n 6) (z.n 2) (z.n 3) (z.n 4) (z.n 1) (z.i 0) (z.i 1) (cellO (.int (z.i 8) (z.n 15))) (z.l 0) (z.n 5) (cellO (.int (z.i 6) (z.n 16)))) (fD (z.n 6) (z.n 2) (z.n 3) (z.n 4) (z.n 1) (z.i 2) (z.i 3) (cellO (.int (z.i 5) (z.n 17))) (z.l 0) (z.n 5) (cellO (.int (z.i 7) (z.n 18)))) b t ((2 + 4 + 5 + (z.n 11) + 1 + (z.n 13))) ((1 + 0 + 2 + (z.n 12) + (z.n 14))) (.ok (.ret (.int (z.i 5) (z.n 17)))) := by
  have h := chkDF1FR pw w.params (w.params.followText row1) b t z
  rw [wf_self] at h
  exact conF_of_tree rfl (spOk w) hct (fr_none rfl) (z_nil rfl) hN hU ((dThn (z.n 6) (dueE (z.n 0) (z.n 1) (z.n 2) (z.n 3))).toC) h rfl (toldC_ok _ _ _ (fun _ h => by cases h) (fun _ h => by cases h))
noncomputable def orsDF1T : List Rf := [.d 4, .k 0, .d 2, .d 2, .s, .s, .d 1, .d 2, .d 0, .d 0, .d 0, .k 1, .k 2, .d 3, .d 3, .d 1, .d 2, .d 0, .d 0, .d 0, .k 3, .d 8, .d 8, .d 8, .d 9, .k 4, .d 11, .d 11, .d 11, .d 10, .d 12, .d 10, .k 5, .d 2]
noncomputable def ctDF1T (P : Params) (b t : Nat) (z : Zs) : List KC := [⟨.call (.builtin "range_iterator.__next__") ⟨[.ref (z.n 6)], []⟩, [false, false, false, false, true], [((z.n 6), rIt (z.i 0) (z.i 1))], [((z.n 6), rIt ((z.i 0) + 1) ((z.i 1) - 1))], [], 0, 0, 0, 1, .ok (.ret (.int (z.i 0) (t + 0))), 20, 200, true, none, none, []⟩, ⟨.call (.builtin "list.__getitem__") ⟨[.ref (z.n 4), .ref (b + 0)], []⟩, [true, false, false, false, false, true, false, false, false, false, false, false, false], [((z.n 4), liObj (z.l 0) (z.n 5)), (b + 0, slObj .none (.int (z.i 0) (t + 0)))], [((z.n 4), liObj (z.l 0) (z.n 5)), (b + 0, slObj .none (.int (z.i 0) (t + 0)))], [(b + 1, liObj (z.l 1) 0)], 1, 1, 1, 0, .ok (.ret (.ref (b + 1))), 20, 200, true, none, none, []⟩, ⟨.call (.builtin "max") ⟨[.ref (b + 1)], []⟩, [false, false, false, false, false, false, true, false, false, false, false, false, false], [(b + 1, liObj (z.l 1) 0)], [(b + 1, liObj (z.l 1) 0)], [], 2, 1, 4, 0, .ok (.ret (.int (z.i 4) (z.n 8))), 20, 200, true, none, none, []⟩, ⟨.call (.builtin "list.__getitem__") ⟨[.ref (z.n 4), .ref (b + 6)], []⟩, [true, false, false, false, false, false, false, true, false, false, false, false, false], [((z.n 4), liObj (z.l 0) (z.n 5)), (b + 6, slObj (.int ((z.i 0) + 1) (t + 2)) .none)], [((z.n 4), liObj (z.l 0) (z.n 5)), (b + 6, slObj (.int ((z.i 0) + 1) (t + 2)) .none)], [(b + 7, liObj (z.l 2) 0)], (2 + 4 + 1), (1 + 0 + 2), 1, 0, .ok (.ret (.ref (b + 7))), 20, 200, true, none, none, []⟩, ⟨dsC (b + 8) (b + 9) (z.n 0) (b + 10) (z.n 1) (z.n 2) (z.n 3), [true, true, true, true, false, false, false, false, true, true, true, true, false], kD (b + 8) (b + 7) (z.n 2) (z.n 3) (z.n 4) (z.n 1) (b + 9) (b + 10) (liIt (b + 7) 0) (z.l 2) 0 (z.i 0) (t + 0) (z.l 0) (z.n 5) (z.i 4) (z.n 8) [] 0 (dO [] 0), kD (b + 8) (b + 7) (z.n 2) (z.n 3) (z.n 4) (z.n 1) (b + 9) (b + 10) (liItE (z.i 10)) (z.l 2) 0 (z.i 0) (t + 0) (z.l 0) (z.n 5) (z.i 4) (z.n 8) (z.l 3) (z.n 7) (dK P (z.n 9) (z.i 9) (z.n 10)), [], (2 + 4 + 5), (1 + 0 + 2), (z.n 11), (z.n 12), .ok .next, 20, 200, true, none, none, []⟩, ⟨.call (.builtin "list.__ne__") ⟨[.ref (b + 9), .ref (b + (2 + 4 + 5 + (z.n 11)))], []⟩, [false, false, false, false, false, false, false, false, false, false, true, false, true], [(b + 9, liObj (z.l 3) (z.n 7)), ((b + (2 + 4 + 5 + (z.n 11))), liObj [] 0)], [(b + 9, liObj (z.l 3) (z.n 7)), ((b + (2 + 4 + 5 + (z.n 11))), liObj [] 0)], [], (2 + 4 + 5 + (z.n 11) + 1), (1 + 0 + 2 + (z.n 12)), 0, 0, .ok (.ret (.bool true)), 20, 200, true, none, none, []⟩]
noncomputable def lhsDF1T (pg : Program) (W : Params) (b t : Nat) (z : Zs) := resM [true, true, true, true, true] (go pg W b t true (ctDF1T W b t z) 121 orsDF1T false (dfC (z.n 6) (z.n 0) (z.n 1) (z.n 2) (z.n 3)) kx (thinF dfS (dueE (z.n 0) (z.n 1) (z.n 2) (z.n 3)) (z.n 6)) (fD (z.n 6) (z.n 2) (z.n 3) (z.n 4) (z.n 1) (z.i 0) (z.i 1) (cellO (.int (z.i 8) (z.n 15))) (z.l 0) (z.n 5) (cellO (.int (z.i 6) (z.n 16)))) 0 0 [])
noncomputable def rhsDF1T (pg : Program) (W : Params) (b t : Nat) (z : Zs) : Option (Except Value PySem.Fin × Dy × Nat × Nat × List Ob) := some (.ok (.done (.ret (.int (z.i 0) (t + 0)))), fD (z.n 6) (z.n 2) (z.n 3) (z.n 4) (z.n 1) ((z.i 0) + 1) ((z.i 1) - 1) (cellO (.int (z.i 0) (t + 0))) (z.l 0) (z.n 5) (cellO (.int (z.i 4) (z.n 8))), (2 + 4 + 5 + (z.n 11) + 1), (1 + 0 + 2 + (z.n 12)), toldC (ctDF1T W b t z) [(z.n 4), (z.n 3), (z.n 2), (z.n 1), (z.n 6), (b + 0), (b + 1), (b + (2 + 4)), (b + (2 + 4 + 1)), (b + (2 + 4 + 2)), (b + (2 + 4 + 3)), (b + (2 + 4 + 4)), (b + (2 + 4 + 5 + (z.n 11)))] orsDF1T [] [])
theorem trigDF1T : (fun _ _ => true) lhsDF1T rhsDF1T = true := by k_qdec
theorem chkDF1T (pg : Program) (P : Params) (r : Bool) (b t : Nat) (z : Zs) : lhsDF1T pg (wf P r) b t z = rhsDF1T pg (wf P r) b t z := by
  rw [PySem.W.Fast.te1372107024979456533, PySem.W.Fast.te7327534234988882311]
  cases r <;> kernel_rfl
theorem conDF1T {w : World} {N U : Nat} (hN : N ≤ 800) (b t : Nat) (z : Zs) (hct : CtOk w w.params N U b t (ctDF1T w.params b t z)) (hU : U + (dfC (z.n 6) (z.n 0) (z.n 1) (z.n 2) (z.n 3) : Code).cUnits < cLine) : ConF none [] w w.params N U (dfC (z.n 6) (z.n 0) (z.n 1) (z.n 2) (z.n 3)) (fD (z.n 6) (z.n 2) (z.n 3) (z.n 4) (z.n 1) (z.i 0) (z.i 1) (cellO (.int (z.i 8) (z.n 15))) (z.l 0) (z.n 5) (cellO (.int (z.i 6) (z.n 16)))) (fD (z.n 6) (z.n 2) (z.n 3) (z.n 4) (z.n 1) ((z.i 0) + 1) ((z.i 1) - 1) (cellO (.int (z.i 0) (t + 0))) (z.l 0) (z.n 5) (cellO (.int (z.i 4) (z.n 8)))) b t ((2 + 4 + 5 + (z.n 11) + 1)) ((1 + 0 + 2 + (z.n 12))) (.ok (.ret (.int (z.i 0) (t + 0)))) := by
  have h := chkDF1T pw w.params (w.params.followText row1) b t z
  rw [wf_self] at h
  exact conF_of_tree rfl (spOk w) hct (fr_none rfl) (z_nil rfl) hN hU ((dThn (z.n 6) (dueE (z.n 0) (z.n 1) (z.n 2) (z.n 3))).toC) h rfl (toldC_ok _ _ _ (fun _ h => by cases h) (fun _ h => by cases h))
noncomputable def orsDF1EN : List Rf := [.d 4, .k 0, .d 2, .d 2, .s, .s, .d 1, .d 2, .d 0, .d 0, .d 0, .k 1, .k 2, .d 3, .d 3, .d 1, .d 2, .d 0, .d 0, .d 0, .k 3, .d 8, .d 8, .d 8, .d 9, .k 4, .d 11, .d 10, .d 12, .d 10, .k 5, .k 6]
noncomputable def ctDF1EN (P : Params) (b t : Nat) (z : Zs) : List KC := [⟨.call (.builtin "range_iterator.__next__") ⟨[.ref (z.n 6)], []⟩, [false, false, false, false, true], [((z.n 6), rIt (z.i 0) (z.i 1))], [((z.n 6), rIt ((z.i 0) + 1) ((z.i 1) - 1))], [], 0, 0, 0, 1, .ok (.ret (.int (z.i 0) (t + 0))), 20, 200, true, none, none, []⟩, ⟨.call (.builtin "list.__getitem__") ⟨[.ref (z.n 4), .ref (b + 0)], []⟩, [true, false, false, false, false, true, false, false, false, false, false, false, false], [((z.n 4), liObj (z.l 0) (z.n 5)), (b + 0, slObj .none (.int (z.i 0) (t + 0)))], [((z.n 4), liObj (z.l 0) (z.n 5)), (b + 0, slObj .none (.int (z.i 0) (t + 0)))], [(b + 1, liObj (z.l 1) 0)], 1, 1, 1, 0, .ok (.ret (.ref (b + 1))), 20, 200, true, none, none, []⟩, ⟨.call (.builtin "max") ⟨[.ref (b + 1)], []⟩, [false, false, false, false, false, false, true, false, false, false, false, false, false], [(b + 1, liObj (z.l 1) 0)], [(b + 1, liObj (z.l 1) 0)], [], 2, 1, 4, 0, .ok (.ret (.int (z.i 4) (z.n 8))), 20, 200, true, none, none, []⟩, ⟨.call (.builtin "list.__getitem__") ⟨[.ref (z.n 4), .ref (b + 6)], []⟩, [true, false, false, false, false, false, false, true, false, false, false, false, false], [((z.n 4), liObj (z.l 0) (z.n 5)), (b + 6, slObj (.int ((z.i 0) + 1) (t + 2)) .none)], [((z.n 4), liObj (z.l 0) (z.n 5)), (b + 6, slObj (.int ((z.i 0) + 1) (t + 2)) .none)], [(b + 7, liObj (z.l 2) 0)], (2 + 4 + 1), (1 + 0 + 2), 1, 0, .ok (.ret (.ref (b + 7))), 20, 200, true, none, none, []⟩, ⟨dsC (b + 8) (b + 9) (z.n 0) (b + 10) (z.n 1) (z.n 2) (z.n 3), [true, true, true, true, false, false, false, false, true, true, true, true, false], kD (b + 8) (b + 7) (z.n 2) (z.n 3) (z.n 4) (z.n 1) (b + 9) (b + 10) (liIt (b + 7) 0) (z.l 2) 0 (z.i 0) (t + 0) (z.l 0) (z.n 5) (z.i 4) (z.n 8) [] 0 (dO [] 0), kD (b + 8) (b + 7) (z.n 2) (z.n 3) (z.n 4) (z.n 1) (b + 9) (b + 10) (liItE (z.i 10)) (z.l 2) 0 (z.i 0) (t + 0) (z.l 0) (z.n 5) (z.i 4) (z.n 8) (z.l 3) (z.n 7) (dO [] 0), [], (2 + 4 + 5), (1 + 0 + 2), (z.n 11), (z.n 12), .ok .next, 20, 200, true, none, none, []⟩, ⟨.call (.builtin "list.__ne__") ⟨[.ref (b + 9), .ref (b + (2 + 4 + 5 + (z.n 11)))], []⟩, [false, false, false, false, false, false, false, false, false, false, true, false, true], [(b + 9, liObj (z.l 3) (z.n 7)), ((b + (2 + 4 + 5 + (z.n 11))), liObj [] 0)], [(b + 9, liObj (z.l 3) (z.n 7)), ((b + (2 + 4 + 5 + (z.n 11))), liObj [] 0)], [], (2 + 4 + 5 + (z.n 11) + 1), (1 + 0 + 2 + (z.n 12)), 0, 0, .ok (.ret (.bool false)), 20, 200, true, none, none, []⟩, ⟨dfC (z.n 6) (z.n 0) (z.n 1) (z.n 2) (z.n 3), [true, true, true, true, true], fD (z.n 6) (z.n 2) (z.n 3) (z.n 4) (z.n 1) ((z.i 0) + 1) ((z.i 1) - 1) (cellO (.int (z.i 0) (t + 0))) (z.l 0) (z.n 5) (cellO (.int (z.i 4) (z.n 8))), fD (z.n 6) (z.n 2) (z.n 3) (z.n 4) (z.n 1) (z.i 2) (z.i 3) (cellO (.int (z.i 5) (z.n 17))) (z.l 0) (z.n 5) (cellO (.int (z.i 7) (z.n 18))), [], (2 + 4 + 5 + (z.n 11) + 1), (1 + 0 + 2 + (z.n 12)), (z.n 13), (z.n 14), .ok .next, 0, 0, true, none, none, []⟩]
noncomputable def lhsDF1EN (pg : Program) (W : Params) (b t : Nat) (z : Zs) := resM [true, true, true, true, true] (go pg W b t true (ctDF1EN W b t z) 114 orsDF1EN false (dfC (z.n 6) (z.n 0) (z.n 1) (z.n 2) (z.n 3)) kx (thinF dfS (dueE (z.n 0) (z.n 1) (z.n 2) (z.n 3)) (z.n 6)) (fD (z.n 6) (z.n 2) (z.n 3) (z.n 4) (z.n 1) (z.i 0) (z.i 1) (cellO (.int (z.i 8) (z.n 15))) (z.l 0) (z.n 5) (cellO (.int (z.i 6) (z.n 16)))) 0 0 [])
noncomputable def rhsDF1EN (pg : Program) (W : Params) (b t : Nat) (z : Zs) : Option (Except Value PySem.Fin × Dy × Nat × Nat × List Ob) := some (.ok (.done .next), fD (z.n 6) (z.n 2) (z.n 3) (z.n 4) (z.n 1) (z.i 2) (z.i 3) (cellO (.int (z.i 5) (z.n 17))) (z.l 0) (z.n 5) (cellO (.int (z.i 7) (z.n 18))), (2 + 4 + 5 + (z.n 11) + 1 + (z.n 13)), (1 + 0 + 2 + (z.n 12) + (z.n 14)), toldC (ctDF1EN W b t z) [(z.n 4), (z.n 3), (z.n 2), (z.n 1), (z.n 6), (b + 0), (b + 1), (b + (2 + 4)), (b + (2 + 4 + 1)), (b + (2 + 4 + 2)), (b + (2 + 4 + 3)), (b + (2 + 4 + 4)), (b + (2 + 4 + 5 + (z.n 11)))] orsDF1EN [] [])
theorem trigDF1EN : (fun _ _ => true) lhsDF1EN rhsDF1EN = true := by k_qdec
theorem chkDF1EN (pg : Program) (P : Params) (r : Bool) (b t : Nat) (z : Zs) : lhsDF1EN pg (wf P r) b t z = rhsDF1EN pg (wf P r) b t z := by
  rw [PySem.W.Fast.te9104024612474283683, PySem.W.Fast.te5879615212630885765]
  cases r <;> kernel_rfl
theorem conDF1EN {w : World} {N U : Nat} (hN : N ≤ 800) (b t : Nat) (z : Zs) (hct : CtOk w w.params N U b t (ctDF1EN w.params b t z)) (hU : U + (dfC (z.n 6) (z.n 0) (z.n 1) (z.n 2) (z.n 3) : Code).cUnits < cLine) : ConF none [] w w.params N U (dfC (z.n 6) (z.n 0) (z.n 1) (z.n 2) (z.n 3)) (fD (z.n 6) (z.n 2) (z.n 3) (z.n 4) (z.n 1) (z.i 0) (z.i 1) (cellO (.int (z.i 8) (z.n 15))) (z.l 0) (z.n 5) (cellO (.int (z.i 6) (z.n 16)))) (fD (z.n 6) (z.n 2) (z.n 3) (z.n 4) (z.n 1) (z.i 2) (z.i 3) (cellO (.int (z.i 5) (z.n 17))) (z.l 0) (z.n 5) (cellO (.int (z.i 7) (z.n 18)))) b t ((2 + 4 + 5 + (z.n 11) + 1 + (z.n 13))) ((1 + 0 + 2 + (z.n 12) + (z.n 14))) (.ok .next) := by
  have h := chkDF1EN pw w.params (w.params.followText row1) b t z
  rw [wf_self] at h
  exact conF_of_tree rfl (spOk w) hct (fr_none rfl) (z_nil rfl) hN hU ((dThn (z.n 6) (dueE (z.n 0) (z.n 1) (z.n 2) (z.n 3))).toC) h rfl (toldC_ok _ _ _ (fun _ h => by cases h) (fun _ h => by cases h))
noncomputable def orsDF1ER : List Rf := [.d 4, .k 0, .d 2, .d 2, .s, .s, .d 1, .d 2, .d 0, .d 0, .d 0, .k 1, .k 2, .d 3, .d 3, .d 1, .d 2, .d 0, .d 0, .d 0, .k 3, .d 8, .d 8, .d 8, .d 9, .k 4, .d 11, .d 10, .d 12, .d 10, .k 5, .k 6]
noncomputable def ctDF1ER (P : Params) (b t : Nat) (z : Zs) : List KC := [⟨.call (.builtin "range_iterator.__next__") ⟨[.ref (z.n 6)], []⟩, [false, false, false, false, true], [((z.n 6), rIt (z.i 0) (z.i 1))], [((z.n 6), rIt ((z.i 0) + 1) ((z.i 1) - 1))], [], 0, 0, 0, 1, .ok (.ret (.int (z.i 0) (t + 0))), 20, 200, true, none, none, []⟩, ⟨.call (.builtin "list.__getitem__") ⟨[.ref (z.n 4), .ref (b + 0)], []⟩, [true, false, false, false, false, true, false, false, false, false, false, false, false], [((z.n 4), liObj (z.l 0) (z.n 5)), (b + 0, slObj .none (.int (z.i 0) (t + 0)))], [((z.n 4), liObj (z.l 0) (z.n 5)), (b + 0, slObj .none (.int (z.i 0) (t + 0)))], [(b + 1, liObj (z.l 1) 0)], 1, 1, 1, 0, .ok (.ret (.ref (b + 1))), 20, 200, true, none, none, []⟩, ⟨.call (.builtin "max") ⟨[.ref (b + 1)], []⟩, [false, false, false, false, false, false, true, false, false, false, false, false, false], [(b + 1, liObj (z.l 1) 0)], [(b + 1, liObj (z.l 1) 0)], [], 2, 1, 4, 0, .ok (.ret (.int (z.i 4) (z.n 8))), 20, 200, true, none, none, []⟩, ⟨.call (.builtin "list.__getitem__") ⟨[.ref (z.n 4), .ref (b + 6)], []⟩, [true, false, false, false, false, false, false, true, false, false, false, false, false], [((z.n 4), liObj (z.l 0) (z.n 5)), (b + 6, slObj (.int ((z.i 0) + 1) (t + 2)) .none)], [((z.n 4), liObj (z.l 0) (z.n 5)), (b + 6, slObj (.int ((z.i 0) + 1) (t + 2)) .none)], [(b + 7, liObj (z.l 2) 0)], (2 + 4 + 1), (1 + 0 + 2), 1, 0, .ok (.ret (.ref (b + 7))), 20, 200, true, none, none, []⟩, ⟨dsC (b + 8) (b + 9) (z.n 0) (b + 10) (z.n 1) (z.n 2) (z.n 3), [true, true, true, true, false, false, false, false, true, true, true, true, false], kD (b + 8) (b + 7) (z.n 2) (z.n 3) (z.n 4) (z.n 1) (b + 9) (b + 10) (liIt (b + 7) 0) (z.l 2) 0 (z.i 0) (t + 0) (z.l 0) (z.n 5) (z.i 4) (z.n 8) [] 0 (dO [] 0), kD (b + 8) (b + 7) (z.n 2) (z.n 3) (z.n 4) (z.n 1) (b + 9) (b + 10) (liItE (z.i 10)) (z.l 2) 0 (z.i 0) (t + 0) (z.l 0) (z.n 5) (z.i 4) (z.n 8) (z.l 3) (z.n 7) (dO [] 0), [], (2 + 4 + 5), (1 + 0 + 2), (z.n 11), (z.n 12), .ok .next, 20, 200, true, none, none, []⟩, ⟨.call (.builtin "list.__ne__") ⟨[.ref (b + 9), .ref (b + (2 + 4 + 5 + (z.n 11)))], []⟩, [false, false, false, false, false, false, false, false, false, false, true, false, true], [(b + 9, liObj (z.l 3) (z.n 7)), ((b + (2 + 4 + 5 + (z.n 11))), liObj [] 0)], [(b + 9, liObj (z.l 3) (z.n 7)), ((b + (2 + 4 + 5 + (z.n 11))), liObj [] 0)], [], (2 + 4 + 5 + (z.n 11) + 1), (1 + 0 + 2 + (z.n 12)), 0, 0, .ok (.ret (.bool false)), 20, 200, true, none, none, []⟩, ⟨dfC (z.n 6) (z.n 0) (z.n 1) (z.n 2) (z.n 3), [true, true, true, true, true], fD (z.n 6) (z.n 2) (z.n 3) (z.n 4) (z.n 1) ((z.i 0) + 1) ((z.i 1) - 1) (cellO (.int (z.i 0) (t + 0))) (z.l 0) (z.n 5) (cellO (.int (z.i 4) (z.n 8))), fD (z.n 6) (z.n 2) (z.n 3) (z.n 4) (z.n 1) (z.i 2) (z.i 3) (cellO (.int (z.i 5) (z.n 17))) (z.l 0) (z.n 5) (cellO (.int (z.i 7) (z.n 18))), [], (2 + 4 + 5 + (z.n 11) + 1), (1 + 0 + 2 + (z.n 12)), (z.n 13), (z.n 14), .ok (.ret (.int (z.i 5) (z.n 17))), 0, 0, true, none, none, []⟩]
noncomputable def lhsDF1ER (pg : Program) (W : Params) (b t : Nat) (z : Zs) := resM [true, true, true, true, true] (go pg W b t true (ctDF1ER W b t z) 114 orsDF1ER false (dfC (z.n 6) (z.n 0) (z.n 1) (z.n 2) (z.n 3)) kx (thinF dfS (dueE (z.n 0) (z.n 1) (z.n 2) (z.n 3)) (z.n 6)) (fD (z.n 6) (z.n 2) (z.n 3) (z.n 4) (z.n 1) (z.i 0) (z.i 1) (cellO (.int (z.i 8) (z.n 15))) (z.l 0) (z.n 5) (cellO (.int (z.i 6) (z.n 16)))) 0 0 [])
noncomputable def rhsDF1ER (pg : Program) (W : Params) (b t : Nat) (z : Zs) : Option (Except Value PySem.Fin × Dy × Nat × Nat × List Ob) := some (.ok (.done (.ret (.int (z.i 5) (z.n 17)))), fD (z.n 6) (z.n 2) (z.n 3) (z.n 4) (z.n 1) (z.i 2) (z.i 3) (cellO (.int (z.i 5) (z.n 17))) (z.l 0) (z.n 5) (cellO (.int (z.i 7) (z.n 18))), (2 + 4 + 5 + (z.n 11) + 1 + (z.n 13)), (1 + 0 + 2 + (z.n 12) + (z.n 14)), toldC (ctDF1ER W b t z) [(z.n 4), (z.n 3), (z.n 2), (z.n 1), (z.n 6), (b + 0), (b + 1), (b + (2 + 4)), (b + (2 + 4 + 1)), (b + (2 + 4 + 2)), (b + (2 + 4 + 3)), (b + (2 + 4 + 4)), (b + (2 + 4 + 5 + (z.n 11)))] orsDF1ER [] [])
theorem trigDF1ER : (fun _ _ => true) lhsDF1ER rhsDF1ER = true := by k_qdec
theorem chkDF1ER (pg : Program) (P : Params) (r : Bool) (b t : Nat) (z : Zs) : lhsDF1ER pg (wf P r) b t z = rhsDF1ER pg (wf P r) b t z := by
  rw [PySem.W.Fast.te15861075512599035991, PySem.W.Fast.te11188267372453453551]
  cases r <;> kernel_rfl
theorem conDF1ER {w : World} {N U : Nat} (hN : N ≤ 800) (b t : Nat) (z : Zs) (hct : CtOk w w.params N U b t (ctDF1ER w.params b t z)) (hU : U + (dfC (z.n 6) (z.n 0) (z.n 1) (z.n 2) (z.n 3) : Code).cUnits < cLine) : ConF none [] w w.params N U (dfC (z.n 6) (z.n 0) (z.n 1) (z.n 2) (z.n 3)) (fD (z.n 6) (z.n 2) (z.n 3) (z.n 4) (z.n 1) (z.i 0) (z.i 1) (cellO (.int (z.i 8) (z.n 15))) (z.l 0) (z.n 5) (cellO (.int (z.i 6) (z.n 16)))) (fD (z.n 6) (z.n 2) (z.n 3) (z.n 4) (z.n 1) (z.i 2) (z.i 3) (cellO (.int (z.i 5) (z.n 17))) (z.l 0) (z.n 5) (cellO (.int (z.i 7) (z.n 18)))) b t ((2 + 4 + 5 + (z.n 11) + 1 + (z.n 13))) ((1 + 0 + 2 + (z.n 12) + (z.n 14))) (.ok (.ret (.int (z.i 5) (z.n 17)))) := by
  have h := chkDF1ER pw w.params (w.params.followText row1) b t z
  rw [wf_self] at h
  exact conF_of_tree rfl (spOk w) hct (fr_none rfl) (z_nil rfl) hN hU ((dThn (z.n 6) (dueE (z.n 0) (z.n 1) (z.n 2) (z.n 3))).toC) h rfl (toldC_ok _ _ _ (fun _ h => by cases h) (fun _ h => by cases h))
noncomputable def orsDFE : List Rf := [.d 0, .d 0, .d 0, .d 0, .d 0, .d 2]
noncomputable def lhsDFE (pg : Program) (W : Params) (b t : Nat) (z : Zs) := resM [true] (enter W (go pg W b t true noCt 56) orsDFE (dfC (z.n 6) (z.n 0) (z.n 1) (z.n 2) (z.n 3)) kx ([((z.n 6), rIt (z.i 0) 0)]) 0 0 [])
noncomputable def rhsDFE (pg : Program) (W : Params) (b t : Nat) (z : Zs) : Option (Except Value PySem.Fin × Dy × Nat × Nat × List Ob) := some (.ok (.done .next), [((z.n 6), rIt (z.i 0) 0)], 2, 0, toldC noCt [(z.n 6), (b + 0), (b + 1)] orsDFE [] [])
end Mine
lay_z Mine.lhsDFE Mine.rhsDFE
namespace Mine
theorem chkDFE (pg : Program) (P : Params) (r : Bool) (b t : Nat) (z : Zs) : lhsDFE pg (wf P r) b t z = rhsDFE pg (wf P r) b t z := by
  rw [PySem.W.ZFast.ze9581056037280666257, PySem.W.ZFast.ze17296431493010822729]
  cases r <;> kernel_rfl
theorem conDFE {w : World} {N U : Nat} (hN : N ≤ 800) (b t : Nat) (z : Zs) : ConF none [] w w.params N U (dfC (z.n 6) (z.n 0) (z.n 1) (z.n 2) (z.n 3)) ([((z.n 6), rIt (z.i 0) 0)]) ([((z.n 6), rIt (z.i 0) 0)]) b t (2) (0) (.ok .next) := by
  have h := chkDFE pw w.params (w.params.followText row1) b t z
  rw [wf_self] at h
  exact conF_of_run rfl (spOk w) noCt_ok (fun _ h => by cases h) (fun _ h => by cases h) hN h rfl (toldC_ok _ _ _ (fun _ h => by cases h) (fun _ h => by cases h))
noncomputable def orsDUE : List Rf := [.s, .d 2, .d 2, .s, .s, .s, .s, .d 2, .k 0, .d 5, .d 5, .d 5, .d 5, .d 5, .d 5, .k 1, .d 6, .k 2]
noncomputable def ctDUE (P : Params) (b t : Nat) (z : Zs) : List KC := [⟨.call (.builtin "len") ⟨[.ref (z.n 0)], []⟩, [true], [((z.n 0), liObj (z.l 0) (z.n 1))], [((z.n 0), liObj (z.l 0) (z.n 1))], [], 4, 1, 0, 2, .ok (.ret (.int (z.i 0) (t + (1 + 1)))), 20, 200, false, none, none, []⟩, ⟨.call (.builtin "range.__iter__") ⟨[.ref (b + 4)], []⟩, [false, false, false, false, false, true], [(b + 4, rgObj 1 (z.i 0) 1 (t + 0) (t + (1 + 1)) (t + 3))], [(b + 4, rgObj 1 (z.i 0) 1 (t + 0) (t + (1 + 1)) (t + 3))], [(b + 5, rIt 1 ((z.i 0) - 1))], 5, 4, 1, 0, .ok (.ret (.ref (b + 5))), 20, 200, true, none, none, []⟩, ⟨dfC (b + 5) (b + 0) (b + 3) (b + 2) (b + 1), [true, false, true, true, true, false, true], fD (b + 5) (b + 2) (b + 1) (z.n 0) (b + 3) 1 ((z.i 0) - 1) cellE (z.l 0) (z.n 1) cellE, fD (b + 5) (b + 2) (b + 1) (z.n 0) (b + 3) (z.i 3) (z.i 4) (cellO (.int (z.i 1) (z.n 2))) (z.l 0) (z.n 1) (cellO (.int (z.i 2) (z.n 3))), [], 6, 4, (z.n 4), (z.n 5), .ok (.ret (.int (z.i 1) (z.n 2))), 20, 200, true, none, none, []⟩]
noncomputable def lhsDUE (pg : Program) (W : Params) (b t : Nat) (z : Zs) := resM [true] (enter W (go pg W b t true (ctDUE W b t z) 87) orsDUE (.call (.ref 763) ⟨[.ref (z.n 0)], []⟩) kx ([((z.n 0), liObj (z.l 0) (z.n 1))]) 0 0 [])
noncomputable def rhsDUE (pg : Program) (W : Params) (b t : Nat) (z : Zs) : Option (Except Value PySem.Fin × Dy × Nat × Nat × List Ob) := some (.ok (.done (.ret (.int (z.i 1) (z.n 2)))), [((z.n 0), liObj (z.l 0) (z.n 1))], (6 + (z.n 4)), (4 + (z.n 5)), toldC (ctDUE W b t z) [(z.n 0), (b + 0), (b + 1), (b + 2), (b + 3), (b + 4), (b + 5)] orsDUE [] [])
end Mine
lay_z Mine.lhsDUE Mine.rhsDUE
namespace Mine
theorem chkDUE (pg : Program) (P : Params) (r : Bool) (b t : Nat) (z : Zs) : lhsDUE pg (wf P r) b t z = rhsDUE pg (wf P r) b t z := by
  rw [PySem.W.ZFast.ze3800998676936971999, PySem.W.ZFast.ze13872209423499884491]
  cases r <;> kernel_rfl
theorem conDUE {w : World} {N U : Nat} (hN : N ≤ 800) (b t : Nat) (z : Zs) (hct : CtOk w w.params N U b t (ctDUE w.params b t z)) : ConF none [] w w.params N U (.call (.ref 763) ⟨[.ref (z.n 0)], []⟩) ([((z.n 0), liObj (z.l 0) (z.n 1))]) ([((z.n 0), liObj (z.l 0) (z.n 1))]) b t ((6 + (z.n 4))) ((4 + (z.n 5))) (.ok (.ret (.int (z.i 1) (z.n 2)))) := by
  have h := chkDUE pw w.params (w.params.followText row1) b t z
  rw [wf_self] at h
  exact conF_of_run rfl (spOk w) hct (fr_none rfl) (z_nil rfl) hN h rfl (toldC_ok _ _ _ (fun _ h => by cases h) (fun _ h => by cases h))
noncomputable def orsDUN : List Rf := [.s, .d 2, .d 2, .s, .s, .s, .s, .d 2, .k 0, .d 5, .d 5, .d 5, .d 5, .d 5, .d 5, .k 1, .d 6, .k 2, .s, .s, .d 2, .k 3]
noncomputable def ctDUN (P : Params) (b t : Nat) (z : Zs) : List KC := [⟨.call (.builtin "len") ⟨[.ref (z.n 0)], []⟩, [true], [((z.n 0), liObj (z.l 0) (z.n 1))], [((z.n 0), liObj (z.l 0) (z.n 1))], [], 4, 1, 0, 2, .ok (.ret (.int (z.i 0) (t + (1 + 1)))), 20, 200, false, none, none, []⟩, ⟨.call (.builtin "range.__iter__") ⟨[.ref (b + 4)], []⟩, [false, false, false, false, false, true], [(b + 4, rgObj 1 (z.i 0) 1 (t + 0) (t + (1 + 1)) (t + 3))], [(b + 4, rgObj 1 (z.i 0) 1 (t + 0) (t + (1 + 1)) (t + 3))], [(b + 5, rIt 1 ((z.i 0) - 1))], 5, 4, 1, 0, .ok (.ret (.ref (b + 5))), 20, 200, true, none, none, []⟩, ⟨dfC (b + 5) (b + 0) (b + 3) (b + 2) (b + 1), [true, false, true, true, true, false, true], fD (b + 5) (b + 2) (b + 1) (z.n 0) (b + 3) 1 ((z.i 0) - 1) cellE (z.l 0) (z.n 1) cellE, fD (b + 5) (b + 2) (b + 1) (z.n 0) (b + 3) (z.i 3) (z.i 4) (cellO (.int (z.i 1) (z.n 2))) (z.l 0) (z.n 1) (cellO (.int (z.i 2) (z.n 3))), [], 6, 4, (z.n 4), (z.n 5), .ok .next, 20, 200, true, none, none, []⟩, ⟨.call (.builtin "len") ⟨[.ref (z.n 0)], []⟩, [true], [((z.n 0), liObj (z.l 0) (z.n 1))], [((z.n 0), liObj (z.l 0) (z.n 1))], [], (6 + (z.n 4)), (4 + (z.n 5)), 0, 2, .ok (.ret (.int (z.i 0) (t + (4 + (z.n 5)) + 1))), 20, 200, false, none, none, []⟩]
noncomputable def lhsDUN (pg : Program) (W : Params) (b t : Nat) (z : Zs) := resM [true] (enter W (go pg W b t true (ctDUN W b t z) 96) orsDUN (.call (.ref 763) ⟨[.ref (z.n 0)], []⟩) kx ([((z.n 0), liObj (z.l 0) (z.n 1))]) 0 0 [])
noncomputable def rhsDUN (pg : Program) (W : Params) (b t : Nat) (z : Zs) : Option (Except Value PySem.Fin × Dy × Nat × Nat × List Ob) := some (.ok (.done (.ret (.int (z.i 0) (t + (4 + (z.n 5)) + 1)))), [((z.n 0), liObj (z.l 0) (z.n 1))], (6 + (z.n 4)), (4 + (z.n 5) + 2), toldC (ctDUN W b t z) [(z.n 0), (b + 0), (b + 1), (b + 2), (b + 3), (b + 4), (b + 5)] orsDUN [] [])
end Mine
lay_z Mine.lhsDUN Mine.rhsDUN
namespace Mine
theorem chkDUN (pg : Program) (P : Params) (r : Bool) (b t : Nat) (z : Zs) : lhsDUN pg (wf P r) b t z = rhsDUN pg (wf P r) b t z := by
  rw [PySem.W.ZFast.ze8225516362807494236, PySem.W.ZFast.ze5179229032205966891]
  cases r <;> kernel_rfl
theorem conDUN {w : World} {N U : Nat} (hN : N ≤ 800) (b t : Nat) (z : Zs) (hct : CtOk w w.params N U b t (ctDUN w.params b t z)) : ConF none [] w w.params N U (.call (.ref 763) ⟨[.ref (z.n 0)], []⟩) ([((z.n 0), liObj (z.l 0) (z.n 1))]) ([((z.n 0), liObj (z.l 0) (z.n 1))]) b t ((6 + (z.n 4))) ((4 + (z.n 5) + 2)) (.ok (.ret (.int (z.i 0) (t + (4 + (z.n 5)) + 1)))) := by
  have h := chkDUN pw w.params (w.params.followText row1) b t z
  rw [wf_self] at h
  exact conF_of_run rfl (spOk w) hct (fr_none rfl) (z_nil rfl) hN h rfl (toldC_ok _ _ _ (fun _ h => by cases h) (fun _ h => by cases h))
noncomputable def orsNEE : List Rf := [.d 0, .d 1, .d 0, .d 1, .d 0, .d 1, .d 0, .d 1]
noncomputable def lhsNEE (pg : Program) (W : Params) (b t : Nat) (z : Zs) := resM [true, true] (enter W (go pg W b t true noCt 51) orsNEE (.call (.builtin "list.__ne__") ⟨[.ref (z.n 2), .ref (z.n 3)], []⟩) kx ([((z.n 2), liObj [] (z.n 4)), ((z.n 3), liObj [] (z.n 5))]) 0 0 [])
noncomputable def rhsNEE (pg : Program) (W : Params) (b t : Nat) (z : Zs) : Option (Except Value PySem.Fin × Dy × Nat × Nat × List Ob) := some (.ok (.done (.ret (.bool false))), [((z.n 2), liObj [] (z.n 4)), ((z.n 3), liObj [] (z.n 5))], 0, 0, toldC noCt [(z.n 2), (z.n 3)] orsNEE [] [])
end Mine
lay_z Mine.lhsNEE Mine.rhsNEE
namespace Mine
theorem chkNEE (pg : Program) (P : Params) (r : Bool) (b t : Nat) (z : Zs) : lhsNEE pg (wf P r) b t z = rhsNEE pg (wf P r) b t z := by
  rw [PySem.W.ZFast.ze5327037690838429845, PySem.W.ZFast.ze4286972672240532586]
  cases r <;> kernel_rfl
theorem conNEE {w : World} {N U : Nat} (hN : N ≤ 800) (b t : Nat) (z : Zs) : ConF none [] w w.params N U (.call (.builtin "list.__ne__") ⟨[.ref (z.n 2), .ref (z.n 3)], []⟩) ([((z.n 2), liObj [] (z.n 4)), ((z.n 3), liObj [] (z.n 5))]) ([((z.n 2), liObj [] (z.n 4)), ((z.n 3), liObj [] (z.n 5))]) b t (0) (0) (.ok (.ret (.bool false))) := by
  have h := chkNEE pw w.params (w.params.followText row1) b t z
  rw [wf_self] at h
  exact conF_of_run rfl (spOk w) noCt_ok (fun _ h => by cases h) (fun _ h => by cases h) hN h rfl (toldC_ok _ _ _ (fun _ h => by cases h) (fun _ h => by cases h))
section
variable {w : World} {P : Params} {N U b t : Nat}
theorem con_replaceQ (tw u v : Nat) (hu : u ≠ 0) (hv : v ≠ 0) (huv : u ≠ v) :
    Con w P N U (.call (.builtin "str.replace") ⟨[.str ⟨#[105, 116, 39, 115]⟩ tw, .str ⟨#[39]⟩ u, .str ⟨#[39, 34, 39, 34, 39]⟩ v], []⟩) [] [] b t 0 1 (.ok (.ret (.str ⟨#[105, 116, 39, 34, 39, 34, 39, 115]⟩ t))) := by
  intro h g d o B J G hB hu' hh hf rp R hR
  have gv := gives_str_replace ⟨#[105, 116, 39, 115]⟩ ⟨#[39]⟩ ⟨#[39, 34, 39, 34, 39]⟩ tw u v (fun _ => ⟨by simp [hu, hv], by simp [huv], by decide +kernel, by decide +kernel⟩)
  rw [if_neg (by decide +kernel), show Builtin.Str.glued (⟨#[39, 34, 39, 34, 39]⟩ : Str) (Builtin.Str.partsBetween ⟨#[105, 116, 39, 115]⟩ (Builtin.Str.occurrences ⟨#[105, 116, 39, 115]⟩ ⟨#[39]⟩ 0 (Str.length ⟨#[105, 116, 39, 115]⟩) (Str.length ⟨#[105, 116, 39, 115]⟩ + 1)) (Str.length ⟨#[39]⟩)) = ⟨#[105, 116, 39, 34, 39, 34, 39, 115]⟩ from by decide +kernel] at gv
  exact code_slot F.slot_str_replace (typeIs_str _ _ _) F.entry_str_replace (F.args_str_replace_3 _ _ _) (gv _ w B R _ ⟨by decide +kernel, hR _ g G rp⟩)
end
noncomputable def orsQ0 : List Rf := [.s, .d 0, .d 0, .d 0, .s, .d 0, .s, .s, .s, .s, .s, .s, .s, .d 0, .k 0]
noncomputable def ctQ0 (P : Params) (b t : Nat) (z : Zs) : List KC := [⟨.call (.builtin "str.replace") ⟨[.str ⟨#[105, 116, 39, 115]⟩ (z.n 0), .str ⟨#[39]⟩ (t + 4), .str ⟨#[39, 34, 39, 34, 39]⟩ (t + 5)], []⟩, [], [], [], [], 3, 6, 0, 1, .ok (.ret (.str ⟨#[105, 116, 39, 34, 39, 34, 39, 115]⟩ (t + 6))), 20, 200, true, none, none, []⟩]
noncomputable def lhsQ0 (pg : Program) (W : Params) (b t : Nat) (z : Zs) := resM [] (enter W (go pg W b t true (ctQ0 W b t z) 113) orsQ0 (.call (.ref 751) ⟨[.str ⟨#[105, 116, 39, 115]⟩ (z.n 0)], []⟩) kx ([]) 0 0 [])
noncomputable def rhsQ0 (pg : Program) (W : Params) (b t : Nat) (z : Zs) : Option (Except Value PySem.Fin × Dy × Nat × Nat × List Ob) := some (.ok (.done (.ret (.str ⟨#[39, 105, 116, 39, 34, 39, 34, 39, 115, 39]⟩ (t + 9)))), [], 3, 10, toldC (ctQ0 W b t z) [(b + 0), (b + 1), (b + 2)] orsQ0 [] [])
end Mine
lay_z Mine.lhsQ0 Mine.rhsQ0
namespace Mine
theorem chkQ0 (pg : Program) (P : Params) (r : Bool) (b t : Nat) (z : Zs) : lhsQ0 pg (wf P r) b t z = rhsQ0 pg (wf P r) b t z := by
  rw [PySem.W.ZFast.ze10623487372043955621, PySem.W.ZFast.ze16552228169779618616]
  cases r <;> kernel_rfl
theorem conQ0 {w : World} {N U : Nat} (hN : N ≤ 800) (b t : Nat) (z : Zs) (hct : CtOk w w.params N U b t (ctQ0 w.params b t z)) : ConF none [] w w.params N U (.call (.ref 751) ⟨[.str ⟨#[105, 116, 39, 115]⟩ (z.n 0)], []⟩) ([]) ([]) b t (3) (10) (.ok (.ret (.str ⟨#[39, 105, 116, 39, 34, 39, 34, 39, 115, 39]⟩ (t + 9)))) := by
  have h := chkQ0 pw w.params (w.params.followText row1) b t z
  rw [wf_self] at h
  exact conF_of_run rfl (spOk w) hct (fr_none rfl) (z_nil rfl) hN h rfl (toldC_ok _ _ _ (fun _ h => by cases h) (fun _ h => by cases h))
noncomputable def orsQ1 : List Rf := [.s, .d 0, .d 0, .d 0, .s, .d 0, .s, .s, .s, .s, .s, .s, .s, .d 0]
noncomputable def lhsQ1 (pg : Program) (W : Params) (b t : Nat) (z : Zs) := resM [] (enter W (go pg W b t true noCt 116) orsQ1 (.call (.ref 751) ⟨[.str ⟨#[97, 32, 98]⟩ (z.n 0)], []⟩) kx ([]) 0 0 [])
noncomputable def rhsQ1 (pg : Program) (W : Params) (b t : Nat) (z : Zs) : Option (Except Value PySem.Fin × Dy × Nat × Nat × List Ob) := some (.ok (.done (.ret (.str ⟨#[39, 97, 32, 98, 39]⟩ (t + 8)))), [], 3, 9, toldC noCt [(b + 0), (b + 1), (b + 2)] orsQ1 [] [])
end Mine
lay_z Mine.lhsQ1 Mine.rhsQ1
namespace Mine
theorem chkQ1 (pg : Program) (P : Params) (r : Bool) (b t : Nat) (z : Zs) : lhsQ1 pg (wf P r) b t z = rhsQ1 pg (wf P r) b t z := by
  rw [PySem.W.ZFast.ze707732181238993069, PySem.W.ZFast.ze9724237039621148715]
  cases r <;> kernel_rfl
theorem conQ1 {w : World} {N U : Nat} (hN : N ≤ 800) (b t : Nat) (z : Zs) : ConF none [] w w.params N U (.call (.ref 751) ⟨[.str ⟨#[97, 32, 98]⟩ (z.n 0)], []⟩) ([]) ([]) b t (3) (9) (.ok (.ret (.str ⟨#[39, 97, 32, 98, 39]⟩ (t + 8)))) := by
  have h := chkQ1 pw w.params (w.params.followText row1) b t z
  rw [wf_self] at h
  exact conF_of_run rfl (spOk w) noCt_ok (fun _ h => by cases h) (fun _ h => by cases h) hN h rfl (toldC_ok _ _ _ (fun _ h => by cases h) (fun _ h => by cases h))
noncomputable def orsQ2 : List Rf := [.s, .d 0, .d 0, .d 0, .s, .d 0, .s, .s, .s, .s, .s, .s, .s, .d 0]
noncomputable def lhsQ2 (pg : Program) (W : Params) (b t : Nat) (z : Zs) := resM [] (enter W (go pg W b t true noCt 116) orsQ2 (.call (.ref 751) ⟨[.str ⟨#[35]⟩ (z.n 0)], []⟩) kx ([]) 0 0 [])
noncomputable def rhsQ2 (pg : Program) (W : Params) (b t : Nat) (z : Zs) : Option (Except Value PySem.Fin × Dy × Nat × Nat × List Ob) := some (.ok (.done (.ret (.str ⟨#[39, 35, 39]⟩ (t + 8)))), [], 3, 9, toldC noCt [(b + 0), (b + 1), (b + 2)] orsQ2 [] [])
end Mine
lay_z Mine.lhsQ2 Mine.rhsQ2
namespace Mine
theorem chkQ2 (pg : Program) (P : Params) (r : Bool) (b t : Nat) (z : Zs) : lhsQ2 pg (wf P r) b t z = rhsQ2 pg (wf P r) b t z := by
  rw [PySem.W.ZFast.ze3952057579109773686, PySem.W.ZFast.ze15187749132469629307]
  cases r <;> kernel_rfl
theorem conQ2 {w : World} {N U : Nat} (hN : N ≤ 800) (b t : Nat) (z : Zs) : ConF none [] w w.params N U (.call (.ref 751) ⟨[.str ⟨#[35]⟩ (z.n 0)], []⟩) ([]) ([]) b t (3) (9) (.ok (.ret (.str ⟨#[39, 35, 39]⟩ (t + 8)))) := by
  have h := chkQ2 pw w.params (w.params.followText row1) b t z
  rw [wf_self] at h
  exact conF_of_run rfl (spOk w) noCt_ok (fun _ h => by cases h) (fun _ h => by cases h) hN h rfl (toldC_ok _ _ _ (fun _ h => by cases h) (fun _ h => by cases h))
noncomputable def orsQ3 : List Rf := [.s, .d 0, .d 0, .d 0]
noncomputable def lhsQ3 (pg : Program) (W : Params) (b t : Nat) (z : Zs) := resM [] (enter W (go pg W b t true noCt 63) orsQ3 (.call (.ref 751) ⟨[.str ⟨#[]⟩ (z.n 0)], []⟩) kx ([]) 0 0 [])
noncomputable def rhsQ3 (pg : Program) (W : Params) (b t : Nat) (z : Zs) : Option (Except Value PySem.Fin × Dy × Nat × Nat × List Ob) := some (.ok (.done (.ret (.str ⟨#[39, 39]⟩ (t + 3)))), [], 1, 4, toldC noCt [(b + 0)] orsQ3 [] [])
end Mine
lay_z Mine.lhsQ3 Mine.rhsQ3
namespace Mine
theorem chkQ3 (pg : Program) (P : Params) (r : Bool) (b t : Nat) (z : Zs) : lhsQ3 pg (wf P r) b t z = rhsQ3 pg (wf P r) b t z := by
  rw [PySem.W.ZFast.ze13458821062799701718, PySem.W.ZFast.ze7831083444000224679]
  cases r <;> kernel_rfl
theorem conQ3 {w : World} {N U : Nat} (hN : N ≤ 800) (b t : Nat) (z : Zs) : ConF none [] w w.params N U (.call (.ref 751) ⟨[.str ⟨#[]⟩ (z.n 0)], []⟩) ([]) ([]) b t (1) (4) (.ok (.ret (.str ⟨#[39, 39]⟩ (t + 3)))) := by
  have h := chkQ3 pw w.params (w.params.followText row1) b t z
  rw [wf_self] at h
  exact conF_of_run rfl (spOk w) noCt_ok (fun _ h => by cases h) (fun _ h => by cases h) hN h rfl (toldC_ok _ _ _ (fun _ h => by cases h) (fun _ h => by cases h))
noncomputable def orsQ4 : List Rf := [.s, .d 0, .d 0, .d 0, .s, .d 0, .s, .s, .s, .s, .s, .s, .s, .d 0]
noncomputable def lhsQ4 (pg : Program) (W : Params) (b t : Nat) (z : Zs) := resM [] (enter W (go pg W b t true noCt 116) orsQ4 (.call (.ref 751) ⟨[.str ⟨#[120, 34]⟩ (z.n 0)], []⟩) kx ([]) 0 0 [])
noncomputable def rhsQ4 (pg : Program) (W : Params) (b t : Nat) (z : Zs) : Option (Except Value PySem.Fin × Dy × Nat × Nat × List Ob) := some (.ok (.done (.ret (.str ⟨#[39, 120, 34, 39]⟩ (t + 8)))), [], 3, 9, toldC noCt [(b + 0), (b + 1), (b + 2)] orsQ4 [] [])
end Mine
lay_z Mine.lhsQ4 Mine.rhsQ4
namespace Mine
theorem chkQ4 (pg : Program) (P : Params) (r : Bool) (b t : Nat) (z : Zs) : lhsQ4 pg (wf P r) b t z = rhsQ4 pg (wf P r) b t z := by
  rw [PySem.W.ZFast.ze16929748383586389370, PySem.W.ZFast.ze1879601103733287405]
  cases r <;> kernel_rfl
theorem conQ4 {w : World} {N U : Nat} (hN : N ≤ 800) (b t : Nat) (z : Zs) : ConF none [] w w.params N U (.call (.ref 751) ⟨[.str ⟨#[120, 34]⟩ (z.n 0)], []⟩) ([]) ([]) b t (3) (9) (.ok (.ret (.str ⟨#[39, 120, 34, 39]⟩ (t + 8)))) := by
  have h := chkQ4 pw w.params (w.params.followText row1) b t z
  rw [wf_self] at h
  exact conF_of_run rfl (spOk w) noCt_ok (fun _ h => by cases h) (fun _ h => by cases h) hN h rfl (toldC_ok _ _ _ (fun _ h => by cases h) (fun _ h => by cases h))
noncomputable def orsQ5 : List Rf := [.s, .d 0, .d 0, .d 0, .s, .d 0, .s, .s, .s, .s, .s, .s, .s, .d 0]
noncomputable def lhsQ5 (pg : Program) (W : Params) (b t : Nat) (z : Zs) := resM [] (enter W (go pg W b t true noCt 116) orsQ5 (.call (.ref 751) ⟨[.str ⟨#[92]⟩ (z.n 0)], []⟩) kx ([]) 0 0 [])
noncomputable def rhsQ5 (pg : Program) (W : Params) (b t : Nat) (z : Zs) : Option (Except Value PySem.Fin × Dy × Nat × Nat × List Ob) := some (.ok (.done (.ret (.str ⟨#[39, 92, 39]⟩ (t + 8)))), [], 3, 9, toldC noCt [(b + 0), (b + 1), (b + 2)] orsQ5 [] [])
end Mine
lay_z Mine.lhsQ5 Mine.rhsQ5
namespace Mine
theorem chkQ5 (pg : Program) (P : Params) (r : Bool) (b t : Nat) (z : Zs) : lhsQ5 pg (wf P r) b t z = rhsQ5 pg (wf P r) b t z := by
  rw [PySem.W.ZFast.ze15865508894273443746, PySem.W.ZFast.ze12705894485953539019]
  cases r <;> kernel_rfl
theorem conQ5 {w : World} {N U : Nat} (hN : N ≤ 800) (b t : Nat) (z : Zs) : ConF none [] w w.params N U (.call (.ref 751) ⟨[.str ⟨#[92]⟩ (z.n 0)], []⟩) ([]) ([]) b t (3) (9) (.ok (.ret (.str ⟨#[39, 92, 39]⟩ (t + 8)))) := by
  have h := chkQ5 pw w.params (w.params.followText row1) b t z
  rw [wf_self] at h
  exact conF_of_run rfl (spOk w) noCt_ok (fun _ h => by cases h) (fun _ h => by cases h) hN h rfl (toldC_ok _ _ _ (fun _ h => by cases h) (fun _ h => by cases h))
noncomputable def orsQ6 : List Rf := [.s, .d 0, .d 0, .d 0, .s, .d 0, .s, .s, .s, .s, .s, .s, .s, .d 0]
noncomputable def lhsQ6 (pg : Program) (W : Params) (b t : Nat) (z : Zs) := resM [] (enter W (go pg W b t true noCt 116) orsQ6 (.call (.ref 751) ⟨[.str ⟨#[36]⟩ (z.n 0)], []⟩) kx ([]) 0 0 [])
noncomputable def rhsQ6 (pg : Program) (W : Params) (b t : Nat) (z : Zs) : Option (Except Value PySem.Fin × Dy × Nat × Nat × List Ob) := some (.ok (.done (.ret (.str ⟨#[39, 36, 39]⟩ (t + 8)))), [], 3, 9, toldC noCt [(b + 0), (b + 1), (b + 2)] orsQ6 [] [])
end Mine
lay_z Mine.lhsQ6 Mine.rhsQ6
namespace Mine
theorem chkQ6 (pg : Program) (P : Params) (r : Bool) (b t : Nat) (z : Zs) : lhsQ6 pg (wf P r) b t z = rhsQ6 pg (wf P r) b t z := by
  rw [PySem.W.ZFast.ze16205625884733166157, PySem.W.ZFast.ze10990634270796615715]
  cases r <;> kernel_rfl
theorem conQ6 {w : World} {N U : Nat} (hN : N ≤ 800) (b t : Nat) (z : Zs) : ConF none [] w w.params N U (.call (.ref 751) ⟨[.str ⟨#[36]⟩ (z.n 0)], []⟩) ([]) ([]) b t (3) (9) (.ok (.ret (.str ⟨#[39, 36, 39]⟩ (t + 8)))) := by
  have h := chkQ6 pw w.params (w.params.followText row1) b t z
  rw [wf_self] at h
  exact conF_of_run rfl (spOk w) noCt_ok (fun _ h => by cases h) (fun _ h => by cases h) hN h rfl (toldC_ok _ _ _ (fun _ h => by cases h) (fun _ h => by cases h))
noncomputable def orsQ7 : List Rf := [.s, .d 0, .d 0, .d 0, .s, .d 0, .s, .s, .s, .s, .s, .s, .s, .d 0]
noncomputable def lhsQ7 (pg : Program) (W : Params) (b t : Nat) (z : Zs) := resM [] (enter W (go pg W b t true noCt 85) orsQ7 (.call (.ref 751) ⟨[.str ⟨#[61]⟩ (z.n 0)], []⟩) kx ([]) 0 0 [])
noncomputable def rhsQ7 (pg : Program) (W : Params) (b t : Nat) (z : Zs) : Option (Except Value PySem.Fin × Dy × Nat × Nat × List Ob) := some (.ok (.done (.ret (.str ⟨#[61]⟩ (z.n 0)))), [], 1, 3, toldC noCt [(b + 0)] orsQ7 [] [])
end Mine
lay_z Mine.lhsQ7 Mine.rhsQ7
namespace Mine
theorem chkQ7 (pg : Program) (P : Params) (r : Bool) (b t : Nat) (z : Zs) : lhsQ7 pg (wf P r) b t z = rhsQ7 pg (wf P r) b t z := by
  rw [PySem.W.ZFast.ze7155872900358391759, PySem.W.ZFast.ze5667838557331759868]
  cases r <;> kernel_rfl
theorem conQ7 {w : World} {N U : Nat} (hN : N ≤ 800) (b t : Nat) (z : Zs) : ConF none [] w w.params N U (.call (.ref 751) ⟨[.str ⟨#[61]⟩ (z.n 0)], []⟩) ([]) ([]) b t (1) (3) (.ok (.ret (.str ⟨#[61]⟩ (z.n 0)))) := by
  have h := chkQ7 pw w.params (w.params.followText row1) b t z
  rw [wf_self] at h
  exact conF_of_run rfl (spOk w) noCt_ok (fun _ h => by cases h) (fun _ h => by cases h) hN h rfl (toldC_ok _ _ _ (fun _ h => by cases h) (fun _ h => by cases h))
noncomputable def xS (b t tw : Nat) : Lx := ⟨b + 1, b + 0, b + 10, b + 7, b + 6, b + 11, fun k => t + [33, 35, 37, 39, 42, 45, 54, 56, 59, 62, 65, 68, 70, 73, 76, 79, 81, 83, 87, 0, 16, 19, 22].getD k 0, fun k => match k with | 21 => tw | _ => t + [0, 0, 0, 0, 40, 49, 52, 0, 57, 60, 63, 66, 0, 71, 74, 77, 0, 0, 84, 0, 0, 0, 20].getD k 0⟩
end Mine
lay_z Mine.xS
namespace Mine
noncomputable def orsSHL : List Rf := [.s, .s, .s, .s, .s, .s, .s, .s, .s, .s, .s, .s, .s, .s, .s, .s, .s, .s, .s, .s, .s, .s, .s, .s, .s, .s, .d 1, .s, .d 1, .s, .s, .s, .s, .s, .s, .d 2, .d 2, .d 2, .d 2, .d 2, .d 2, .d 2, .d 2, .d 2, .d 2, .s, .s, .d 2, .s, .s, .s, .d 2, .s, .s, .s, .s, .s, .s, .s, .s, .s, .s, .s, .s, .s, .s, .s, .s, .s, .s, .s, .s, .s, .s, .s, .s, .d 5, .d 5, .d 5, .d 5, .d 5, .d 5, .d 5, .s, .s, .s, .d 5, .s, .s, .s, .d 5, .s, .s, .s, .s, .s, .s, .s, .s, .s, .s, .s, .s, .s, .s, .s, .s, .s, .s, .s, .s, .s, .s, .s, .s, .s, .s, .s, .s, .s, .s, .s, .s, .s, .s, .s, .s, .s, .d 7, .s, .d 7, .s, .s, .s, .s, .s, .s, .d 8, .d 8, .d 8, .d 8, .d 8, .d 8, .d 8, .s, .s, .d 8, .s, .s, .d 8, .d 8, .d 8, .d 8, .s, .s, .d 8, .s, .s, .d 8, .d 8, .d 7, .s, .s, .s, .s, .s, .s, .s, .d 7, .s, .d 7, .s, .d 7, .s, .s, .s, .s, .s, .s, .s, .d 7, .s, .d 6, .d 6, .d 6, .d 8, .d 7, .s, .s, .s, .s, .s, .s, .s, .d 7, .s, .d 7, .s, .d 7, .s, .s, .s, .s, .s, .s, .s, .d 7, .s, .d 6, .d 6, .d 6, .d 8, .d 7, .s, .s, .s, .s, .s, .s, .s, .d 7, .s, .d 7, .s, .d 7, .s, .s, .s, .s, .s, .s, .s, .d 7, .s, .d 6, .d 6, .d 6, .d 8, .d 8, .d 7, .s, .s, .s, .s, .s, .s, .s, .d 7, .s, .s, .s, .s, .s, .s, .s, .d 7, .s, .s, .s, .s, .d 7, .d 6, .d 8, .s, .s, .d 9, .d 9, .d 9, .d 9, .d 9, .d 7, .s, .s, .s, .s, .s, .s, .s, .d 7, .s, .s, .s, .s, .s, .s, .s, .d 7, .d 7, .s, .d 6, .d 9, .d 9, .d 9, .d 9, .d 9, .d 9, .d 8, .d 7, .s, .s, .s, .s, .s, .s, .s, .d 7, .s, .d 7, .s, .d 7, .s, .s, .s, .s, .s, .s, .s, .d 7, .s, .d 6, .d 6, .d 6, .d 2, .d 2, .d 2, .d 2, .d 2, .d 1, .s, .s, .s, .d 1, .s, .d 1, .s, .d 1, .s, .s, .s, .d 1, .s, .d 0, .d 0, .d 0, .d 2, .d 2, .d 1, .s, .s, .s, .d 1, .s, .d 1, .s, .d 1, .s, .s, .s, .d 1, .s, .d 0, .d 0, .d 0, .d 2, .d 2, .d 1, .s, .s, .s, .d 1, .s, .d 1, .s, .d 1, .s, .s, .s, .d 1, .s, .d 0, .d 0, .d 0, .d 2, .d 2, .d 1, .s, .s, .s, .d 1, .s, .d 1, .s, .d 1, .s, .s, .s, .d 1, .s, .d 0, .d 0, .d 0, .d 2, .d 1, .s, .s, .s, .d 1, .s, .d 1, .s, .d 1, .s, .s, .s, .d 1, .s, .d 0, .d 0, .d 0, .d 2, .d 1, .s, .s, .s, .d 1, .s, .d 1, .s, .d 1, .s, .s, .s, .d 1, .s, .d 0, .d 0, .d 0, .d 2, .d 1, .s, .s, .s, .d 1, .s, .s, .s, .d 1, .d 1, .s, .d 0, .d 2, .d 1, .s, .s, .s, .d 1, .s, .s, .s, .d 1, .d 1, .s, .d 0, .d 1, .s, .s, .s, .d 1, .s, .d 1, .s, .d 1, .s, .s, .s, .d 1, .s, .d 0, .d 0, .d 0, .d 2, .d 1, .s, .s, .s, .d 1, .s, .d 1, .s, .d 1, .s, .s, .s, .d 1, .s, .d 0, .d 0, .d 0, .d 2, .d 1, .s, .s, .s, .d 1, .s, .d 1, .s, .d 1, .s, .s, .s, .d 1, .s, .d 0, .d 0, .d 0, .d 2, .d 1, .s, .s, .s, .d 1, .s, .d 1, .s, .d 1, .s, .s, .s, .d 1, .s, .d 0, .d 0, .d 0, .d 2, .d 1, .s, .s, .s, .d 1, .s, .d 1, .s, .d 1, .s, .s, .s, .d 1, .s, .d 0, .d 0, .d 0, .d 2, .d 1, .s, .s, .s, .d 1, .s, .d 1, .s, .d 1, .s, .s, .s, .d 1, .s, .d 0, .d 0, .d 0, .d 2, .d 1, .s, .s, .s, .d 1, .s, .d 1, .s, .d 1, .s, .s, .s, .d 1, .s, .d 0, .d 0, .d 0, .s, .d 10, .d 10, .d 10, .d 10, .d 10, .d 10, .d 2, .d 1, .s, .s, .s, .d 1, .s, .d 1, .s, .d 1, .s, .s, .s, .d 1, .s, .d 0, .d 0, .d 0, .d 2, .d 1, .s, .s, .s, .d 1, .s, .d 1, .s, .d 1, .s, .s, .s, .d 1, .s, .d 0, .d 0, .d 0, .d 2, .d 1, .s, .s, .s, .d 1, .s, .d 1, .s, .d 1, .s, .s, .s, .d 1, .s, .d 0, .d 0, .d 0, .d 2, .d 1, .s, .s, .s, .d 1, .s, .d 1, .s, .d 1, .s, .s, .s, .d 1, .s, .d 0, .d 0, .d 0, .s, .d 11, .d 11, .d 11, .d 11, .d 11, .d 11, .d 2, .d 1, .s, .s, .s, .d 1, .s, .d 1, .s, .d 1, .s, .s, .s, .d 1, .s, .d 0, .d 0, .d 0, .d 2, .d 1, .s, .s, .s, .d 1, .s, .d 1, .s, .d 1, .s, .s, .s, .d 1, .s, .d 0, .d 0, .d 0, .d 2, .d 2, .d 2, .d 2, .d 2, .d 1, .s, .s, .s, .d 1, .s, .d 1, .s, .d 1, .s, .s, .s, .d 1, .s, .d 0, .d 0, .d 0, .d 2]
noncomputable def lhsSHL (pg : Program) (W : Params) (b t : Nat) (z : Zs) := resM [true, true, false, false, false, false, true, true, false, false, true, true] (enter W (go pg W b t true noCt 1277) orsSHL (.call (.ref 732) ⟨[.str (z.s 0) (z.n 0)], [(Str.ofString "posix", .bool true)]⟩) kx ([]) 0 0 [])
noncomputable def rhsSHL (pg : Program) (W : Params) (b t : Nat) (z : Zs) : Option (Except Value PySem.Fin × Dy × Nat × Nat × List Ob) := some (.ok (.done (.ret (.ref (b + 1)))), [(b + 0, lexDict W (xS b t (z.n 0)) (.str ⟨#[32]⟩ (t + 66)) (.str ⟨#[]⟩ (t + 77))), (b + 1, lexObj (xS b t (z.n 0))), (b + 6, ioDict W (xS b t (z.n 0)) (z.s 0) (.int 0 (t + 20))), (b + 7, ioObj (xS b t (z.n 0))), (b + 10, deqObj 0 []), (b + 11, deqObj 0 [])], 12, 90, toldC noCt [(b + 0), (b + 1), (b + 2), (b + 3), (b + 4), (b + 5), (b + 6), (b + 7), (b + 8), (b + 9), (b + 10), (b + 11)] orsSHL [] [])
end Mine
lay_z Mine.lhsSHL Mine.rhsSHL
namespace Mine
theorem chkSHL (pg : Program) (P : Params) (r : Bool) (b t : Nat) (z : Zs) : lhsSHL pg (wf P r) b t z = rhsSHL pg (wf P r) b t z := by
  rw [PySem.W.ZFast.ze13862262725716187308, PySem.W.ZFast.ze17453592788752368040]
  cases r <;> kernel_rfl
theorem conSHL {w : World} {N U : Nat} (hN : N ≤ 800) (b t : Nat) (z : Zs) : ConF none [] w w.params N U (.call (.ref 732) ⟨[.str (z.s 0) (z.n 0)], [(Str.ofString "posix", .bool true)]⟩) ([]) ([(b + 0, lexDict w.params (xS b t (z.n 0)) (.str ⟨#[32]⟩ (t + 66)) (.str ⟨#[]⟩ (t + 77))), (b + 1, lexObj (xS b t (z.n 0))), (b + 6, ioDict w.params (xS b t (z.n 0)) (z.s 0) (.int 0 (t + 20))), (b + 7, ioObj (xS b t (z.n 0))), (b + 10, deqObj 0 []), (b + 11, deqObj 0 [])]) b t (12) (90) (.ok (.ret (.ref (b + 1)))) := by
  have h := chkSHL pw w.params (w.params.followText row1) b t z
  rw [wf_self] at h
  exact conF_of_run rfl (spOk w) noCt_ok (fun _ h => by cases h) (fun _ h => by cases h) hN h rfl (toldC_ok _ _ _ (fun _ h => by cases h) (fun _ h => by cases h))
noncomputable def orsLawC : List Rf := [.s, .d 1, .d 1]
noncomputable def lhsLawC (pg : Program) (W : Params) (b t : Nat) (z : Zs) := resM [true, true, true, true, true] (enter W (go pg W b t true noCt 49) orsLawC (.call (.ref 768) ⟨[.ref (z.n 0)], []⟩) .base ([((z.n 0), liObj (z.l 0) (z.n 1))]) 0 0 [])
noncomputable def rhsLawC (pg : Program) (W : Params) (b t : Nat) (z : Zs) : Option (Except Value PySem.Fin × Dy × Nat × Nat × List Ob) := some (.ok (.again (.func (fnBody x30.s) (lawE (b + 0) (b + 1) (b + 2) (b + 3)))), [((z.n 0), liObj (z.l 0) (z.n 1)), (b + 0, frObj [enR W (Str.ofString "script") (t + 0) (.ref (z.n 0))] 1), (b + 1, cellE), (b + 2, cellE), (b + 3, cellE)], 4, 1, toldC noCt [(z.n 0), (b + 0), (b + 1), (b + 2), (b + 3)] orsLawC [] [])
end Mine
lay_z Mine.lhsLawC Mine.rhsLawC
namespace Mine
theorem chkLawC (pg : Program) (P : Params) (r : Bool) (b t : Nat) (z : Zs) : lhsLawC pg (wf P r) b t z = rhsLawC pg (wf P r) b t z := by
  rw [PySem.W.ZFast.ze15286590742230916455, PySem.W.ZFast.ze2471277728324243739]
  cases r <;> kernel_rfl
theorem rnLawC {w : World} (b t : Nat) (z : Zs) : ∃ os : List Ob, (∀ y ∈ os, y.ok) ∧ resM [true, true, true, true, true] (enter w.params (go pw w.params b t true noCt 49) orsLawC (.call (.ref 768) ⟨[.ref (z.n 0)], []⟩) .base ([((z.n 0), liObj (z.l 0) (z.n 1))]) 0 0 []) = some (.ok (.again (.func (fnBody x30.s) (lawE (b + 0) (b + 1) (b + 2) (b + 3)))), [((z.n 0), liObj (z.l 0) (z.n 1)), (b + 0, frObj [enR w.params (Str.ofString "script") (t + 0) (.ref (z.n 0))] 1), (b + 1, cellE), (b + 2, cellE), (b + 3, cellE)], 4, 1, os) := by
  have h := chkLawC pw w.params (w.params.followText row1) b t z
  rw [wf_self] at h
  exact ⟨_, toldC_ok _ _ _ (fun _ h => by cases h) (fun _ h => by cases h), h⟩
noncomputable def oDl (cr cn ar it acc C ci : Addr) (cc rr : Int) (vi : Obj) (nn : Int) (tn : Nat) (ov : List Value) (oc : Nat) (rv : List Value) (rc : Nat) : Dy :=
  [(cr, cellO (.ref ar)), (cn, cellO (.int nn tn)), (ar, liObj rv rc), (it, rIt cc rr), (acc, liObj ov oc), (C, dO [] 0), (ci, vi)]
noncomputable def lawP (a k : Nat) (env : Env) : Sem PySem.Fin := execs (((fnBody x30.s).drop a).take k) env >>= fun f => pure (.done f)
end Mine
lay_z Mine.oDl
namespace Mine
noncomputable def orsLawA : List Rf := [.d 0, .d 4, .d 4, .d 4, .k 0, .d 5, .d 7, .d 5, .k 1, .d 1, .d 1, .s, .s, .d 1, .k 2, .d 2, .d 2, .s, .s, .d 2, .d 9, .d 9, .d 9, .d 9, .d 9, .d 9, .k 3, .d 10, .k 4, .d 0, .d 0, .d 2, .d 14, .d 14, .d 14, .k 5, .d 3, .d 3]
noncomputable def ctLawA (P : Params) (b t : Nat) (z : Zs) : List KC := [⟨.call (.builtin "list.__getitem__") ⟨[.ref (z.n 0), .ref (b + 1)], []⟩, [false, false, false, false, true, false, true, false, false, false, false, false, false, false, false, false, false], [((z.n 0), liObj (z.l 0) (z.n 1)), (b + 1, slObj .none (.int 5 (t + 3)))], [((z.n 0), liObj (z.l 0) (z.n 1)), (b + 1, slObj .none (.int 5 (t + 3)))], [(b + 2, liObj (z.l 1) 0)], 2, 4, 1, 0, .ok (.ret (.ref (b + 2))), 20, 200, true, none, none, []⟩, ⟨.call (.builtin "list.__add__") ⟨[.ref (b + 0), .ref (b + 2)], []⟩, [false, false, false, false, false, true, false, true, false, false, false, false, false, false, false, false, false], [(b + 0, liObj [.int 2 (t + 0), .int 4 (t + 1), .int 1 (t + 2)] 0), (b + 2, liObj (z.l 1) 0)], [(b + 0, liObj [.int 2 (t + 0), .int 4 (t + 1), .int 1 (t + 2)] 0), (b + 2, liObj (z.l 1) 0)], [(b + 3, liObj (z.l 2) 0)], 3, 4, 1, 0, .ok (.ret (.ref (b + 3))), 20, 200, true, none, none, []⟩, ⟨.call (.builtin "len") ⟨[.ref (b + 3)], []⟩, [false, false, false, false, false, false, false, false, true, false, false, false, false, false, false, false, false], [(b + 3, liObj (z.l 2) 0)], [(b + 3, liObj (z.l 2) 0)], [], 4, 4, 0, 2, .ok (.ret (.int (z.i 0) (t + (4 + 1)))), 20, 200, false, none, none, []⟩, ⟨.call (.builtin "range.__iter__") ⟨[.ref (b + 4)], []⟩, [false, false, false, false, false, false, false, false, false, true, false, false, false, false, false, false, false], [(b + 4, rgObj 0 (z.i 0) 1 (t + 6) (t + (4 + 1)) (t + 7))], [(b + 4, rgObj 0 (z.i 0) 1 (t + 6) (t + (4 + 1)) (t + 7))], [(b + 5, rIt 0 (z.i 0))], 5, 8, 1, 0, .ok (.ret (.ref (b + 5))), 20, 200, true, none, none, []⟩, ⟨osC (b + 5) (b + 6) (z.n 3) (b + 7) (b + 8) (z.n 4) (z.n 5) (z.n 6), [false, true, true, false, false, false, false, false, true, false, true, true, true, true, false, false, false], oDl (z.n 4) (z.n 5) (b + 3) (b + 5) (b + 6) (b + 7) (b + 8) 0 (z.i 0) cellE (z.i 0) (t + (4 + 1)) [] 0 (z.l 2) 0, oDl (z.n 4) (z.n 5) (b + 3) (b + 5) (b + 6) (b + 7) (b + 8) (z.i 2) (z.i 3) (cellO (.int (z.i 1) (z.n 10))) (z.i 0) (t + (4 + 1)) (z.l 3) (z.n 9) (z.l 2) 0, [], 9, 8, (z.n 7), (z.n 8), .ok .next, 20, 200, true, none, none, []⟩, ⟨.call (.builtin "list.__getitem__") ⟨[.ref (b + (9 + (z.n 7))), .ref (b + (9 + (z.n 7) + 1))], []⟩, [false, false, false, false, false, false, false, false, false, false, false, false, false, false, true, true, false], [((b + (9 + (z.n 7))), liObj [.str ⟨#[105, 116, 39, 115]⟩ (t + (8 + (z.n 8) + 1)), .str ⟨#[97, 32, 98]⟩ (t + (8 + (z.n 8) + 2)), .str ⟨#[35]⟩ (t + (8 + (z.n 8) + 3)), .str ⟨#[]⟩ (t + (8 + (z.n 8) + 4)), .str ⟨#[120, 34]⟩ (t + (8 + (z.n 8) + 5)), .str ⟨#[92]⟩ (t + (8 + (z.n 8) + 6)), .str ⟨#[36]⟩ (t + (8 + (z.n 8) + 7)), .str ⟨#[61]⟩ (t + (8 + (z.n 8) + 8))] 0), ((b + (9 + (z.n 7) + 1)), slObj .none (.int (z.i 0) (t + (4 + 1))))], [((b + (9 + (z.n 7))), liObj [.str ⟨#[105, 116, 39, 115]⟩ (t + (8 + (z.n 8) + 1)), .str ⟨#[97, 32, 98]⟩ (t + (8 + (z.n 8) + 2)), .str ⟨#[35]⟩ (t + (8 + (z.n 8) + 3)), .str ⟨#[]⟩ (t + (8 + (z.n 8) + 4)), .str ⟨#[120, 34]⟩ (t + (8 + (z.n 8) + 5)), .str ⟨#[92]⟩ (t + (8 + (z.n 8) + 6)), .str ⟨#[36]⟩ (t + (8 + (z.n 8) + 7)), .str ⟨#[61]⟩ (t + (8 + (z.n 8) + 8))] 0), ((b + (9 + (z.n 7) + 1)), slObj .none (.int (z.i 0) (t + (4 + 1))))], [((b + (9 + (z.n 7) + 2)), liObj (z.l 4) 0)], (9 + (z.n 7) + 2), (8 + (z.n 8) + 9), 1, 0, .ok (.ret (.ref (b + (9 + (z.n 7) + 2)))), 20, 200, true, none, none, []⟩]
noncomputable def lhsLawA (pg : Program) (W : Params) (b t : Nat) (z : Zs) := resM [true, true, true, true, true, false, false, false, false, false, false, true, false, false, false, false, true] (go pg W b t true (ctLawA W b t z) 154 orsLawA false (.func (fnBody x30.s) (lawE (z.n 3) (z.n 4) (z.n 5) (z.n 6))) .base (lawP 0 4 (lawE (z.n 3) (z.n 4) (z.n 5) (z.n 6))) ([((z.n 3), frObj [en W (Str.ofString "script") (z.n 11) (.ref (z.n 0))] 1), ((z.n 4), cellE), ((z.n 5), cellE), ((z.n 6), cellE), ((z.n 0), liObj (z.l 0) (z.n 1))]) 0 0 [])
noncomputable def rhsLawA (pg : Program) (W : Params) (b t : Nat) (z : Zs) : Option (Except Value PySem.Fin × Dy × Nat × Nat × List Ob) := some (.ok (.done .next), [((z.n 3), frObj [en W (Str.ofString "script") (z.n 11) (.ref (z.n 0)), en W (Str.ofString "order") (t + (8 + (z.n 8))) (.ref (b + 6))] 2), ((z.n 4), cellO (.ref (b + 3))), ((z.n 5), cellO (.int (z.i 0) (t + (4 + 1)))), ((z.n 6), cellO (.ref (b + (9 + (z.n 7) + 2)))), ((z.n 0), liObj (z.l 0) (z.n 1)), (b + 6, liObj (z.l 3) (z.n 9)), ((b + (9 + (z.n 7) + 2)), liObj (z.l 4) 0)], (9 + (z.n 7) + 3), (8 + (z.n 8) + 9), toldC (ctLawA W b t z) [(z.n 3), (z.n 4), (z.n 5), (z.n 6), (z.n 0), (b + 0), (b + 1), (b + 2), (b + 3), (b + 4), (b + 5), (b + 6), (b + 7), (b + 8), (b + (9 + (z.n 7))), (b + (9 + (z.n 7) + 1)), (b + (9 + (z.n 7) + 2))] orsLawA [] [])
end Mine
lay_z Mine.lhsLawA Mine.rhsLawA
namespace Mine
theorem chkLawA (pg : Program) (P : Params) (r : Bool) (b t : Nat) (z : Zs) : lhsLawA pg (wf P r) b t z = rhsLawA pg (wf P r) b t z := by
  rw [PySem.W.ZFast.ze8312496915225018626, PySem.W.ZFast.ze4738539249420307583]
  cases r <;> kernel_rfl
theorem trLawA {w : World} {N U : Nat} (hN : N ≤ 800) (b t : Nat) (z : Zs) (hct : CtOk w w.params N U b t (ctLawA w.params b t z)) : TreeF none [] w w.params N U (lawP 0 4 (lawE (z.n 3) (z.n 4) (z.n 5) (z.n 6))) ([((z.n 3), frObj [en w.params (Str.ofString "script") (z.n 11) (.ref (z.n 0))] 1), ((z.n 4), cellE), ((z.n 5), cellE), ((z.n 6), cellE), ((z.n 0), liObj (z.l 0) (z.n 1))]) ([((z.n 3), frObj [en w.params (Str.ofString "script") (z.n 11) (.ref (z.n 0)), en w.params (Str.ofString "order") (t + (8 + (z.n 8))) (.ref (b + 6))] 2), ((z.n 4), cellO (.ref (b + 3))), ((z.n 5), cellO (.int (z.i 0) (t + (4 + 1)))), ((z.n 6), cellO (.ref (b + (9 + (z.n 7) + 2)))), ((z.n 0), liObj (z.l 0) (z.n 1)), (b + 6, liObj (z.l 3) (z.n 9)), ((b + (9 + (z.n 7) + 2)), liObj (z.l 4) 0)]) b t ((9 + (z.n 7) + 3)) ((8 + (z.n 8) + 9)) (.ok (.done .next)) := by
  have h := chkLawA pw w.params (w.params.followText row1) b t z
  rw [wf_self] at h
  exact tree_of rfl (spOk w) hct (fr_none rfl) (z_nil rfl) hN h (toldC_ok _ _ _ (fun _ h => by cases h) (fun _ h => by cases h))
noncomputable def asgName : Stmt → Str
  | .Assign [.Name x _] _ _ => x
  | _ => ⟨#[]⟩
noncomputable def asgPos : Stmt → Pos
  | .Assign [.Name _ p] _ _ => p
  | _ => pos0
noncomputable def lawBt (env : Env) (v : Value) : Sem PySem.Fin := bindName env (asgName (nthS (fnBody x30.s) 4)) v >>= fun _ => lawP 5 3 env
noncomputable def shD (P : Params) (x : Lx) (st tk : Value) (e : Int) (its : List Value) (tx : Str) (pos : Value) : Dy := [(x.d, lexDict P x st tk), (x.L, lexObj x), (x.iod, ioDict P x tx pos), (x.io, ioObj x), (x.q, deqObj e its), (x.fs, deqObj 0 [])]
end Mine
lay_z Mine.shD Mine.lawBt
namespace Mine
noncomputable def orsLawB : List Rf := [.d 0, .d 0, .d 0, .d 0, .k 0, .d 0, .s, .d 0, .s, .k 1, .b false]
noncomputable def ctLawB (P : Params) (b t : Nat) (z : Zs) : List KC := [⟨lwC (z.n 0) (z.n 1) (z.n 2) (z.n 3), [true, false, true, true, true, true, true, true, true, true, true, true], ([((z.n 0), frL P z.x (z.n 11) (z.n 12) (t + 0) (t + 2) (z.n 7) (z.n 5) (.int 0 (t + 1))), ((z.n 2), cellO (.int (z.i 0) (z.n 8))), ((z.n 3), cellO (.ref (z.n 6))), ((z.n 5), liObj (z.l 0) (z.n 9)), ((z.n 6), liObj (z.l 1) (z.n 10))] ++ shD P z.x (z.v 0) (z.v 1) (z.i 2) (z.l 2) (z.s 0) (z.v 2)), ([((z.n 0), frL P z.x (z.n 11) (z.n 12) (t + 0) (t + 2) (z.n 7) (z.n 5) (.int (z.i 1) (z.n 17))), ((z.n 2), cellO (.int (z.i 0) (z.n 8))), ((z.n 3), cellO (.ref (z.n 6))), ((z.n 5), liObj (z.l 0) (z.n 9)), ((z.n 6), liObj (z.l 1) (z.n 10))] ++ shD P z.x (z.v 3) (z.v 4) (z.i 3) (z.l 3) (z.s 0) (z.v 5)), [], 0, 3, (z.n 13), (z.n 14), .ok .next, 20, 200, true, none, none, []⟩, ⟨.call (.ref 763) ⟨[.ref (z.n 5)], []⟩, [false, false, false, false, true, false, false, false, false, false, false, false], [((z.n 5), liObj (z.l 0) (z.n 9))], [((z.n 5), liObj (z.l 0) (z.n 9))], [], (0 + (z.n 13)), (3 + (z.n 14)), (z.n 15), (z.n 16), .ok (.ret (.int (z.i 1) (z.n 18))), 20, 200, true, none, none, []⟩]
noncomputable def lhsLawB (pg : Program) (W : Params) (b t : Nat) (z : Zs) := resM [true, true, true, true, true, true, true, true, true, true, true, true] (go pg W b t true (ctLawB W b t z) 73 orsLawB false (.func (fnBody x30.s) (lawE (z.n 0) (z.n 1) (z.n 2) (z.n 3))) .base (lawBt (lawE (z.n 0) (z.n 1) (z.n 2) (z.n 3)) (.ref z.x.L)) ([((z.n 0), frObj [en W (Str.ofString "script") (z.n 11) (.ref (z.n 7)), en W (Str.ofString "order") (z.n 12) (.ref (z.n 5))] 2), ((z.n 1), cellO (.ref (z.n 4))), ((z.n 2), cellO (.int (z.i 0) (z.n 8))), ((z.n 3), cellO (.ref (z.n 6))), ((z.n 5), liObj (z.l 0) (z.n 9)), ((z.n 6), liObj (z.l 1) (z.n 10))] ++ shD W z.x (z.v 0) (z.v 1) (z.i 2) (z.l 2) (z.s 0) (z.v 2)) 0 0 [])
noncomputable def rhsLawB (pg : Program) (W : Params) (b t : Nat) (z : Zs) : Option (Except Value PySem.Fin × Dy × Nat × Nat × List Ob) := some (.ok (.done .next), ([((z.n 0), frL W z.x (z.n 11) (z.n 12) (t + 0) (t + 2) (z.n 7) (z.n 5) (.int (z.i 1) (z.n 17))), ((z.n 1), cellO (.ref (z.n 4))), ((z.n 2), cellO (.int (z.i 0) (z.n 8))), ((z.n 3), cellO (.ref (z.n 6))), ((z.n 5), liObj (z.l 0) (z.n 9)), ((z.n 6), liObj (z.l 1) (z.n 10))] ++ shD W z.x (z.v 3) (z.v 4) (z.i 3) (z.l 3) (z.s 0) (z.v 5)), (0 + (z.n 13) + (z.n 15)), (3 + (z.n 14) + (z.n 16)), toldC (ctLawB W b t z) [(z.n 0), (z.n 1), (z.n 2), (z.n 3), (z.n 5), (z.n 6), z.x.d, z.x.L, z.x.iod, z.x.io, z.x.q, z.x.fs] orsLawB [.cmp 6 (z.i 1) (z.i 1) false] [])
end Mine
lay_z Mine.lhsLawB Mine.rhsLawB
namespace Mine
theorem chkLawB (pg : Program) (P : Params) (r : Bool) (b t : Nat) (z : Zs) : lhsLawB pg (wf P r) b t z = rhsLawB pg (wf P r) b t z := by
  rw [PySem.W.ZFast.ze12199706392798140915, PySem.W.ZFast.ze10432796478875551267]
  cases r <;> kernel_rfl
theorem trLawB {w : World} {N U : Nat} (hN : N ≤ 800) (b t : Nat) (z : Zs) (hct : CtOk w w.params N U b t (ctLawB w.params b t z)) (hsd : ∀ y ∈ ([.cmp 6 (z.i 1) (z.i 1) false] : List Ob), y.ok) : TreeF none [] w w.params N U (lawBt (lawE (z.n 0) (z.n 1) (z.n 2) (z.n 3)) (.ref z.x.L)) ([((z.n 0), frObj [en w.params (Str.ofString "script") (z.n 11) (.ref (z.n 7)), en w.params (Str.ofString "order") (z.n 12) (.ref (z.n 5))] 2), ((z.n 1), cellO (.ref (z.n 4))), ((z.n 2), cellO (.int (z.i 0) (z.n 8))), ((z.n 3), cellO (.ref (z.n 6))), ((z.n 5), liObj (z.l 0) (z.n 9)), ((z.n 6), liObj (z.l 1) (z.n 10))] ++ shD w.params z.x (z.v 0) (z.v 1) (z.i 2) (z.l 2) (z.s 0) (z.v 2)) (([((z.n 0), frL w.params z.x (z.n 11) (z.n 12) (t + 0) (t + 2) (z.n 7) (z.n 5) (.int (z.i 1) (z.n 17))), ((z.n 1), cellO (.ref (z.n 4))), ((z.n 2), cellO (.int (z.i 0) (z.n 8))), ((z.n 3), cellO (.ref (z.n 6))), ((z.n 5), liObj (z.l 0) (z.n 9)), ((z.n 6), liObj (z.l 1) (z.n 10))] ++ shD w.params z.x (z.v 3) (z.v 4) (z.i 3) (z.l 3) (z.s 0) (z.v 5))) b t ((0 + (z.n 13) + (z.n 15))) ((3 + (z.n 14) + (z.n 16))) (.ok (.done .next)) := by
  have h := chkLawB pw w.params (w.params.followText row1) b t z
  rw [wf_self] at h
  exact tree_of rfl (spOk w) hct (fr_none rfl) (z_nil rfl) hN h (toldC_ok _ _ _ hsd (fun _ h => by cases h))
/-! ## Built-ins that look at the head of the stack -/
noncomputable def stackOf : Sem PySem.Fin → List (Code × Pos) → Sem PySem.Fin
  | .stack k => k
  | _ => fun _ => .raise .none
noncomputable def headT (c : Code) : Sem PySem.Fin := stackOf (denote treeTable c) [(c, pos0)]
theorem thn_head {c : Code} (h1 : denote treeTable c = .stack (stackOf (denote treeTable c))) (h2 : ∀ p l, stackOf (denote treeTable c) ((c, p) :: l) = headT c) : ThnC c (denote treeTable c) (headT c) := by
  rw [h1]; exact ThnC.stack h2
noncomputable def xnC : Code := .builtin "Exception.__new__" ⟨[.type "StopIteration"], []⟩
noncomputable def lnC (a : Addr) : Code := .builtin "list.__new__" ⟨[.type "list", .ref a], []⟩
noncomputable def xnA : Sem PySem.Fin := denote treeTable xnC
noncomputable def xnB : Sem PySem.Fin := .stack (stackOf (denote treeTable xnC))
noncomputable def xnE (p : Pos) (l : List (Code × Pos)) : Sem PySem.Fin := stackOf (denote treeTable xnC) ((xnC, p) :: l)
noncomputable def xnT : Sem PySem.Fin := headT xnC
noncomputable def lnA (a : Addr) : Sem PySem.Fin := denote treeTable (lnC a)
noncomputable def lnB (a : Addr) : Sem PySem.Fin := .stack (stackOf (denote treeTable (lnC a)))
noncomputable def lnE (a : Addr) (p : Pos) (l : List (Code × Pos)) : Sem PySem.Fin := stackOf (denote treeTable (lnC a)) ((lnC a, p) :: l)
noncomputable def lnT (a : Addr) : Sem PySem.Fin := headT (lnC a)
end Mine
lay_z Mine.xnA Mine.xnB Mine.xnE Mine.xnT Mine.lnA Mine.lnB Mine.lnE Mine.lnT
namespace Mine
theorem xnThn : ThnC xnC (denote treeTable xnC) xnT := thn_head
  (by show xnA = xnB; rw [PySem.W.ZFast.ze5555012188797085217, PySem.W.ZFast.ze2769040299065590720]; kernel_rfl)
  (fun p l => by show xnE p l = xnT; rw [PySem.W.ZFast.ze10168573409256121527, PySem.W.ZFast.ze10376718603917321507]; kernel_rfl)
theorem lnThn (a : Addr) : ThnC (lnC a) (denote treeTable (lnC a)) (lnT a) := thn_head
  (by show lnA a = lnB a; rw [PySem.W.ZFast.ze2888175682667263370, PySem.W.ZFast.ze14030068556170151844]; kernel_rfl)
  (fun p l => by show lnE a p l = lnT a; rw [PySem.W.ZFast.ze11966661847477948282, PySem.W.ZFast.ze1131962762915603480]; kernel_rfl)
noncomputable def orsXNew : List Rf := []
noncomputable def lhsXNew (pg : Program) (W : Params) (b t : Nat) (z : Zs) := resM [false, true] (go pg W b t true noCt 44 orsXNew false (xnC) kx (xnT) ([]) 0 0 [])
noncomputable def rhsXNew (pg : Program) (W : Params) (b t : Nat) (z : Zs) : Option (Except Value PySem.Fin × Dy × Nat × Nat × List Ob) := some (.ok (.done (.ret (.ref (b + 1)))), [(b + 1, siObj b .none)], 2, 0, toldC noCt [(b + 0), (b + 1)] orsXNew [] [])
end Mine
lay_z Mine.lhsXNew Mine.rhsXNew
namespace Mine
theorem chkXNew (pg : Program) (P : Params) (b t : Nat) (z : Zs) : lhsXNew pg P b t z = rhsXNew pg P b t z := by
  rw [PySem.W.ZFast.ze14627601229506611436, PySem.W.ZFast.ze226520242220686866]
  kernel_rfl
theorem conXNew {w : World} {N U : Nat} (hN : N ≤ 800) (b t : Nat) (z : Zs) (hU : U + (xnC : Code).cUnits < cLine) : ConF none [] w w.params N U (xnC) ([]) ([(b + 1, siObj b .none)]) b t (2) (0) (.ok (.ret (.ref (b + 1)))) := by
  have h := chkXNew pw w.params b t z
  exact conF_of_tree rfl (spOk w) noCt_ok (fun _ h => by cases h) (fun _ h => by cases h) hN hU (xnThn) h rfl (toldC_ok _ _ _ (fun _ h => by cases h) (fun _ h => by cases h))
noncomputable def orsLNew : List Rf := []
noncomputable def lhsLNew (pg : Program) (W : Params) (b t : Nat) (z : Zs) := resM [true] (go pg W b t true noCt 43 orsLNew false (lnC (z.n 0)) kx (lnT (z.n 0)) ([]) 0 0 [])
noncomputable def rhsLNew (pg : Program) (W : Params) (b t : Nat) (z : Zs) : Option (Except Value PySem.Fin × Dy × Nat × Nat × List Ob) := some (.ok (.done (.ret (.ref b))), [(b, liObj [] 0)], 1, 0, toldC noCt [(b + 0)] orsLNew [] [])
end Mine
lay_z Mine.lhsLNew Mine.rhsLNew
namespace Mine
theorem chkLNew (pg : Program) (P : Params) (b t : Nat) (z : Zs) : lhsLNew pg P b t z = rhsLNew pg P b t z := by
  rw [PySem.W.ZFast.ze7638793191835920014, PySem.W.ZFast.ze4714232723532052504]
  kernel_rfl
theorem conLNew {w : World} {N U : Nat} (hN : N ≤ 800) (b t : Nat) (z : Zs) (hU : U + (lnC (z.n 0) : Code).cUnits < cLine) : ConF none [] w w.params N U (lnC (z.n 0)) ([]) ([(b, liObj [] 0)]) b t (1) (0) (.ok (.ret (.ref b))) := by
  have h := chkLNew pw w.params b t z
  exact conF_of_tree rfl (spOk w) noCt_ok (fun _ h => by cases h) (fun _ h => by cases h) hN hU (lnThn (z.n 0)) h rfl (toldC_ok _ _ _ (fun _ h => by cases h) (fun _ h => by cases h))
noncomputable def orsSI : List Rf := [.e, .e, .k 0, .d 0, .d 0, .d 0, .d 0, .d 0, .d 0, .d 0, .d 0, .d 0, .d 0, .d 0, .d 0]
noncomputable def ctSI (P : Params) (b t : Nat) (z : Zs) : List KC := [⟨xnC, [], [], [], [(b + 1, siObj b .none)], 0, 0, 2, 0, .ok (.ret (.ref (b + 1))), 20, 200, true, none, none, []⟩]
noncomputable def lhsSI (pg : Program) (W : Params) (b t : Nat) (z : Zs) := resM [true] (enter W (go pg W b t true (ctSI W b t z) 63) orsSI (.call (.type "StopIteration") ⟨[], []⟩) kx ([]) 0 0 [])
noncomputable def rhsSI (pg : Program) (W : Params) (b t : Nat) (z : Zs) : Option (Except Value PySem.Fin × Dy × Nat × Nat × List Ob) := some (.ok (.done (.ret (.ref (b + 1)))), [(b + 1, siObj (b + 2) .none)], 3, 0, toldC (ctSI W b t z) [(b + 1), (b + 2)] orsSI [] [])
end Mine
lay_z Mine.lhsSI Mine.rhsSI
namespace Mine
theorem chkSI (pg : Program) (P : Params) (r : Bool) (b t : Nat) (z : Zs) : lhsSI pg (wf P r) b t z = rhsSI pg (wf P r) b t z := by
  rw [PySem.W.ZFast.ze1880209619869906086, PySem.W.ZFast.ze15215616190427270801]
  cases r <;> kernel_rfl
theorem conSI {w : World} {N U : Nat} (hN : N ≤ 800) (b t : Nat) (z : Zs) (hct : CtOk w w.params N U b t (ctSI w.params b t z)) : ConF none [] w w.params N U (.call (.type "StopIteration") ⟨[], []⟩) ([]) ([(b + 1, siObj (b + 2) .none)]) b t (3) (0) (.ok (.ret (.ref (b + 1)))) := by
  have h := chkSI pw w.params (w.params.followText row1) b t z
  rw [wf_self] at h
  exact conF_of_run rfl (spOk w) hct (fr_none rfl) (z_nil rfl) hN h rfl (toldC_ok _ _ _ (fun _ h => by cases h) (fun _ h => by cases h))
noncomputable def orsNextF : List Rf := [.d 6, .d 0, .s, .s, .s, .d 0, .s, .s, .s, .d 0, .s, .s, .s, .s, .d 0, .d 1, .s, .k 0, .d 6, .d 6, .d 6, .d 6, .d 0, .s, .s, .s, .d 0, .s, .s, .s, .d 0, .d 0, .s, .d 1, .s, .s, .k 1, .d 7, .d 7, .d 7]
noncomputable def ctNextF (P : Params) (b t : Nat) (z : Zs) : List KC := [⟨.call (.ref 693) ⟨[.ref z.x.L], []⟩, [true, true, true, true, true, true], lex6 P z.x (z.v 0) (z.v 1) (z.i 0) (z.l 0) (z.s 0) (z.v 2), lex6 P z.x (z.v 3) (z.v 4) (z.i 1) (z.l 1) (z.s 0) (z.v 5), [], 0, 0, (z.n 0), (z.n 1), .ok (.ret .none), 20, 200, true, none, none, []⟩, ⟨.call (.type "StopIteration") ⟨[], []⟩, [], [], [], [(b + (0 + (z.n 0) + 1), siObj (b + (0 + (z.n 0) + 2)) .none)], (0 + (z.n 0)), (0 + (z.n 1) + 2), 3, 0, .ok (.ret (.ref (b + (0 + (z.n 0) + 1)))), 20, 200, true, none, none, []⟩]
noncomputable def lhsNextF (pg : Program) (W : Params) (b t : Nat) (z : Zs) := resM [true, true, true, true, true, true, true, true] (go pg W b t true (ctNextF W b t z) 112 orsNextF false (nxC (z.n 3)) .base (bodyT (nxC (z.n 3))) (lex6s W z.x (z.v 0) (z.v 1) (z.i 0) (z.l 0) (z.s 0) (z.v 2) [((z.n 3), frS W z.x (z.n 4))]) 0 0 [])
noncomputable def rhsNextF (pg : Program) (W : Params) (b t : Nat) (z : Zs) : Option (Except Value PySem.Fin × Dy × Nat × Nat × List Ob) := some (.error (.ref (b + (0 + (z.n 0) + 1))), lex6s W z.x (z.v 3) (z.v 4) (z.i 1) (z.l 1) (z.s 0) (z.v 5) [((z.n 3), frS2 W z.x (z.n 4) (t + (0 + (z.n 1))) .none), (b + (0 + (z.n 0) + 1), siObj (b + (0 + (z.n 0) + 2)) .none)], (0 + (z.n 0) + 3), (0 + (z.n 1) + 2), toldC (ctNextF W b t z) [z.x.L, z.x.d, z.x.q, z.x.io, z.x.iod, z.x.fs, (z.n 3), (b + (0 + (z.n 0) + 1))] orsNextF [] [])
end Mine
lay_z Mine.lhsNextF Mine.rhsNextF
namespace Mine
theorem chkNextF (pg : Program) (P : Params) (r : Bool) (b t : Nat) (z : Zs) : lhsNextF pg (wf P r) b t z = rhsNextF pg (wf P r) b t z := by
  rw [PySem.W.ZFast.ze417012976845715074, PySem.W.ZFast.ze10571350305498334700]
  cases r <;> kernel_rfl
theorem trNextF {w : World} {N U : Nat} (hN : N ≤ 800) (b t : Nat) (z : Zs) (hct : CtOk w w.params N U b t (ctNextF w.params b t z)) : TreeF none [] w w.params N U (bodyT (nxC (z.n 3))) (lex6s w.params z.x (z.v 0) (z.v 1) (z.i 0) (z.l 0) (z.s 0) (z.v 2) [((z.n 3), frS w.params z.x (z.n 4))]) (lex6s w.params z.x (z.v 3) (z.v 4) (z.i 1) (z.l 1) (z.s 0) (z.v 5) [((z.n 3), frS2 w.params z.x (z.n 4) (t + (0 + (z.n 1))) .none), (b + (0 + (z.n 0) + 1), siObj (b + (0 + (z.n 0) + 2)) .none)]) b t ((0 + (z.n 0) + 3)) ((0 + (z.n 1) + 2)) (.error (.ref (b + (0 + (z.n 0) + 1)))) := by
  have h := chkNextF pw w.params (w.params.followText row1) b t z
  rw [wf_self] at h
  exact tree_of rfl (spOk w) hct (fr_none rfl) (z_nil rfl) hN h (toldC_ok _ _ _ (fun _ h => by cases h) (fun _ h => by cases h))
noncomputable def orsNextS : List Rf := [.s, .d 6, .d 6, .d 6, .d 0, .s, .s, .s, .d 0, .s, .s, .s, .d 0, .s, .s, .s, .s, .d 0, .d 1, .s, .k 0, .d 6, .d 6, .d 6, .d 6, .d 0, .s, .s, .s, .d 0, .s, .s, .s, .d 0, .d 0, .s, .d 1, .d 6]
noncomputable def ctNextS (P : Params) (b t : Nat) (z : Zs) : List KC := [⟨.call (.ref 693) ⟨[.ref z.x.L], []⟩, [true, true, true, true, true, true], lex6 P z.x (z.v 0) (z.v 1) (z.i 0) (z.l 0) (z.s 0) (z.v 2), lex6 P z.x (z.v 3) (z.v 4) (z.i 1) (z.l 1) (z.s 0) (z.v 5), [], 1, 1, (z.n 0), (z.n 1), .ok (.ret (.str (z.s 1) (z.n 2))), 20, 200, true, none, none, []⟩]
noncomputable def lhsNextS (pg : Program) (W : Params) (b t : Nat) (z : Zs) := resM m6 (enter W (go pg W b t true (ctNextS W b t z) 116) orsNextS (.call (.ref 729) ⟨[.ref z.x.L], []⟩) kx (lex6 W z.x (z.v 0) (z.v 1) (z.i 0) (z.l 0) (z.s 0) (z.v 2)) 0 0 [])
noncomputable def rhsNextS (pg : Program) (W : Params) (b t : Nat) (z : Zs) : Option (Except Value PySem.Fin × Dy × Nat × Nat × List Ob) := some (.ok (.done (.ret (.str (z.s 1) (z.n 2)))), lex6 W z.x (z.v 3) (z.v 4) (z.i 1) (z.l 1) (z.s 0) (z.v 5), (1 + (z.n 0)), (1 + (z.n 1) + 2), toldC (ctNextS W b t z) [z.x.L, z.x.d, z.x.q, z.x.io, z.x.iod, z.x.fs, (b + 0)] orsNextS [] [])
end Mine
lay_z Mine.lhsNextS Mine.rhsNextS
namespace Mine
theorem chkNextS (pg : Program) (P : Params) (r : Bool) (b t : Nat) (z : Zs) : lhsNextS pg (wf P r) b t z = rhsNextS pg (wf P r) b t z := by
  rw [PySem.W.ZFast.ze5460096104240366819, PySem.W.ZFast.ze17579115269543328194]
  cases r <;> kernel_rfl
theorem conNextS {w : World} {N U : Nat} (hN : N ≤ 800) (b t : Nat) (z : Zs) (hct : CtOk w w.params N U b t (ctNextS w.params b t z)) : ConF none [] w w.params N U (.call (.ref 729) ⟨[.ref z.x.L], []⟩) (lex6 w.params z.x (z.v 0) (z.v 1) (z.i 0) (z.l 0) (z.s 0) (z.v 2)) (lex6 w.params z.x (z.v 3) (z.v 4) (z.i 1) (z.l 1) (z.s 0) (z.v 5)) b t ((1 + (z.n 0))) ((1 + (z.n 1) + 2)) (.ok (.ret (.str (z.s 1) (z.n 2)))) := by
  have h := chkNextS pw w.params (w.params.followText row1) b t z
  rw [wf_self] at h
  exact conF_of_run rfl (spOk w) hct (fr_none rfl) (z_nil rfl) hN h rfl (toldC_ok _ _ _ (fun _ h => by cases h) (fun _ h => by cases h))
noncomputable def orsNextA : List Rf := [.s, .d 6, .d 6]
noncomputable def lhsNextA (pg : Program) (W : Params) (b t : Nat) (z : Zs) := resM [true, true, true, true, true, true, true] (enter W (go pg W b t true noCt 46) orsNextA (.call (.ref 729) ⟨[.ref z.x.L], []⟩) .base (lex6 W z.x (z.v 0) (z.v 1) (z.i 0) (z.l 0) (z.s 0) (z.v 2)) 0 0 [])
noncomputable def rhsNextA (pg : Program) (W : Params) (b t : Nat) (z : Zs) : Option (Except Value PySem.Fin × Dy × Nat × Nat × List Ob) := some (.ok (.again (nxC b)), lex6s W z.x (z.v 0) (z.v 1) (z.i 0) (z.l 0) (z.s 0) (z.v 2) [(b, frSR W z.x t)], 1, 1, toldC noCt [z.x.L, z.x.d, z.x.q, z.x.io, z.x.iod, z.x.fs, (b + 0)] orsNextA [] [])
end Mine
lay_z Mine.lhsNextA Mine.rhsNextA
namespace Mine
theorem chkNextA (pg : Program) (P : Params) (r : Bool) (b t : Nat) (z : Zs) : lhsNextA pg (wf P r) b t z = rhsNextA pg (wf P r) b t z := by
  rw [PySem.W.ZFast.ze9142539015773265816, PySem.W.ZFast.ze9125853007126886589]
  cases r <;> kernel_rfl
theorem rnNextA {w : World} (b t : Nat) (z : Zs) : ∃ os : List Ob, (∀ y ∈ os, y.ok) ∧ resM [true, true, true, true, true, true, true] (enter w.params (go pw w.params b t true noCt 46) orsNextA (.call (.ref 729) ⟨[.ref z.x.L], []⟩) .base (lex6 w.params z.x (z.v 0) (z.v 1) (z.i 0) (z.l 0) (z.s 0) (z.v 2)) 0 0 []) = some (.ok (.again (nxC b)), lex6s w.params z.x (z.v 0) (z.v 1) (z.i 0) (z.l 0) (z.s 0) (z.v 2) [(b, frSR w.params z.x t)], 1, 1, os) := by
  have h := chkNextA pw w.params (w.params.followText row1) b t z
  rw [wf_self] at h
  exact ⟨_, toldC_ok _ _ _ (fun _ h => by cases h) (fun _ h => by cases h), h⟩
noncomputable def orsLsCall : List Rf := [.e, .e, .k 0, .d 6, .d 6, .k 1]
noncomputable def ctLsCall (P : Params) (b t : Nat) (z : Zs) : List KC := [⟨lnC z.x.L, [], [], [], [(b, liObj [] 0)], 0, 0, 1, 0, .ok (.ret (.ref b)), 20, 200, true, none, none, []⟩, ⟨.call (.builtin "list.__init__") ⟨[.ref b, .ref z.x.L], []⟩, [true, true, true, true, true, true, true], lex6s P z.x (z.v 0) (z.v 1) (z.i 0) (z.l 0) (z.s 0) (z.v 2) [(b, liObj [] 0)], lex6s P z.x (z.v 3) (z.v 4) (z.i 1) (z.l 1) (z.s 0) (z.v 5) [(b, liObj (z.l 3) (z.n 7))], [], 1, 0, (z.n 0), (z.n 1), .ok (.ret .none), 20, 200, true, (some (z.fr)), (some (z.fr)), [(z.n 6)]⟩]
noncomputable def lhsLsCall (pg : Program) (W : Params) (b t : Nat) (z : Zs) := resM [true, true, true, true, true, true, true] (enter W (go pg W b t true (ctLsCall W b t z) 47) orsLsCall (.call (.type "list") ⟨[.ref z.x.L], []⟩) kx (lex6 W z.x (z.v 0) (z.v 1) (z.i 0) (z.l 0) (z.s 0) (z.v 2)) 0 0 [])
noncomputable def rhsLsCall (pg : Program) (W : Params) (b t : Nat) (z : Zs) : Option (Except Value PySem.Fin × Dy × Nat × Nat × List Ob) := some (.ok (.done (.ret (.ref b))), lex6s W z.x (z.v 3) (z.v 4) (z.i 1) (z.l 1) (z.s 0) (z.v 5) [(b, liObj (z.l 3) (z.n 7))], (1 + (z.n 0)), (0 + (z.n 1)), toldC (ctLsCall W b t z) [z.x.L, z.x.d, z.x.q, z.x.io, z.x.iod, z.x.fs, (b + 0)] orsLsCall [] [])
end Mine
lay_z Mine.lhsLsCall Mine.rhsLsCall
namespace Mine
theorem chkLsCall (pg : Program) (P : Params) (r : Bool) (b t : Nat) (z : Zs) : lhsLsCall pg (wf P r) b t z = rhsLsCall pg (wf P r) b t z := by
  rw [PySem.W.ZFast.ze2413569845998389215, PySem.W.ZFast.ze13666853267363345560]
  cases r <;> kernel_rfl
theorem conLsCall {w : World} {N U : Nat} (hN : N ≤ 800) (b t : Nat) (z : Zs) (hct : CtOk w w.params N U b t (ctLsCall w.params b t z)) : ConF ((some (z.fr))) ([(z.n 6)]) w w.params N U (.call (.type "list") ⟨[.ref z.x.L], []⟩) (lex6 w.params z.x (z.v 0) (z.v 1) (z.i 0) (z.l 0) (z.s 0) (z.v 2)) (lex6s w.params z.x (z.v 3) (z.v 4) (z.i 1) (z.l 1) (z.s 0) (z.v 5) [(b, liObj (z.l 3) (z.n 7))]) b t ((1 + (z.n 0))) ((0 + (z.n 1))) (.ok (.ret (.ref b))) := by
  have h := chkLsCall pw w.params (w.params.followText row1) b t z
  rw [wf_self] at h
  exact conF_of_run rfl (spOk w) hct (fun y hy l e => by simp only [ctLsCall, List.mem_cons, List.not_mem_nil, or_false] at hy; rcases hy with rfl | rfl <;> first | exact e | cases e) (fun y hy a ha => by simp only [ctLsCall, List.mem_cons, List.not_mem_nil, or_false] at hy; rcases hy with rfl | rfl <;> first | exact ha | cases ha) hN h rfl (toldC_ok _ _ _ (fun _ h => by cases h) (fun _ h => by cases h))
noncomputable def orsItT : List Rf := [.d 0, .s, .s, .s, .d 0, .s, .s, .s, .s, .s, .d 6, .d 6, .d 6, .d 0, .s, .s, .s]
noncomputable def lhsItT (pg : Program) (W : Params) (b t : Nat) (z : Zs) := resM m6 (go pg W b t true noCt 67 orsItT false (.call (.builtin "list.__init__") ⟨[.ref (z.n 5), .ref z.x.L], []⟩) .base (PySem.pyIter (.ref z.x.L) >>= fun y => pure (.done (.ret y))) (lex6 W z.x (z.v 0) (z.v 1) (z.i 0) (z.l 0) (z.s 0) (z.v 2)) 0 0 [])
noncomputable def rhsItT (pg : Program) (W : Params) (b t : Nat) (z : Zs) : Option (Except Value PySem.Fin × Dy × Nat × Nat × List Ob) := some (.ok (.done (.ret (.ref z.x.L))), lex6 W z.x (z.v 0) (z.v 1) (z.i 0) (z.l 0) (z.s 0) (z.v 2), 1, 1, toldC noCt [z.x.L, z.x.d, z.x.q, z.x.io, z.x.iod, z.x.fs, (b + 0)] orsItT [] [])
end Mine
lay_z Mine.lhsItT Mine.rhsItT
namespace Mine
theorem chkItT (pg : Program) (P : Params) (r : Bool) (b t : Nat) (z : Zs) : lhsItT pg (wf P r) b t z = rhsItT pg (wf P r) b t z := by
  rw [PySem.W.ZFast.ze8101103396511770428, PySem.W.ZFast.ze10941317911073419266]
  cases r <;> kernel_rfl
theorem trItT {w : World} {N U : Nat} (hN : N ≤ 800) (b t : Nat) (z : Zs) : TreeF none [] w w.params N U (PySem.pyIter (.ref z.x.L) >>= fun y => pure (.done (.ret y))) (lex6 w.params z.x (z.v 0) (z.v 1) (z.i 0) (z.l 0) (z.s 0) (z.v 2)) (lex6 w.params z.x (z.v 0) (z.v 1) (z.i 0) (z.l 0) (z.s 0) (z.v 2)) b t (1) (1) (.ok (.done (.ret (.ref z.x.L)))) := by
  have h := chkItT pw w.params (w.params.followText row1) b t z
  rw [wf_self] at h
  exact tree_of rfl (spOk w) noCt_ok (fun _ h => by cases h) (fun _ h => by cases h) hN h (toldC_ok _ _ _ (fun _ h => by cases h) (fun _ h => by cases h))
noncomputable def orsLhT : List Rf := [.d 0, .s, .s, .s, .d 0, .s, .s, .s]
noncomputable def lhsLhT (pg : Program) (W : Params) (b t : Nat) (z : Zs) := resM m6 (go pg W b t true noCt 48 orsLhT false (.call (.builtin "list.__init__") ⟨[.ref (z.n 5), .ref z.x.L], []⟩) .base (Builtin.List.listLengthHint (.ref z.x.L) >>= fun y => pure (.done (.ret (.bool y)))) (lex6 W z.x (z.v 0) (z.v 1) (z.i 0) (z.l 0) (z.s 0) (z.v 2)) 0 0 [])
noncomputable def rhsLhT (pg : Program) (W : Params) (b t : Nat) (z : Zs) : Option (Except Value PySem.Fin × Dy × Nat × Nat × List Ob) := some (.ok (.done (.ret (.bool true))), lex6 W z.x (z.v 0) (z.v 1) (z.i 0) (z.l 0) (z.s 0) (z.v 2), 0, 0, toldC noCt [z.x.L, z.x.d, z.x.q, z.x.io, z.x.iod, z.x.fs] orsLhT [] [])
end Mine
lay_z Mine.lhsLhT Mine.rhsLhT
namespace Mine
theorem chkLhT (pg : Program) (P : Params) (r : Bool) (b t : Nat) (z : Zs) : lhsLhT pg (wf P r) b t z = rhsLhT pg (wf P r) b t z := by
  rw [PySem.W.ZFast.ze16169367005238941854, PySem.W.ZFast.ze5877744624705569336]
  cases r <;> kernel_rfl
theorem trLhT {w : World} {N U : Nat} (hN : N ≤ 800) (b t : Nat) (z : Zs) : TreeF none [] w w.params N U (Builtin.List.listLengthHint (.ref z.x.L) >>= fun y => pure (.done (.ret (.bool y)))) (lex6 w.params z.x (z.v 0) (z.v 1) (z.i 0) (z.l 0) (z.s 0) (z.v 2)) (lex6 w.params z.x (z.v 0) (z.v 1) (z.i 0) (z.l 0) (z.s 0) (z.v 2)) b t (0) (0) (.ok (.done (.ret (.bool true)))) := by
  have h := chkLhT pw w.params (w.params.followText row1) b t z
  rw [wf_self] at h
  exact tree_of rfl (spOk w) noCt_ok (fun _ h => by cases h) (fun _ h => by cases h) hN h (toldC_ok _ _ _ (fun _ h => by cases h) (fun _ h => by cases h))
noncomputable def orsLsS0 : List Rf := [.d 0, .s, .s, .s, .s, .k 0, .d 6, .d 6, .d 6, .k 1]
noncomputable def ctLsS0 (P : Params) (b t : Nat) (z : Zs) : List KC := [⟨.call (.ref 729) ⟨[.ref z.x.L], []⟩, [true, true, true, true, true, true], lex6 P z.x (z.v 0) (z.v 1) (z.i 0) (z.l 0) (z.s 0) (z.v 2), lex6 P z.x (z.v 3) (z.v 4) (z.i 1) (z.l 1) (z.s 0) (z.v 5), [], 0, 0, (z.n 0), (z.n 1), .ok (.ret (.str (z.s 1) (z.n 4))), 20, 200, true, none, none, []⟩, ⟨.builtin "list.extend.loop" ⟨[.ref (z.n 5), .ref z.x.L, .none], []⟩, [true, true, true, true, true, true, true], lex6s P z.x (z.v 3) (z.v 4) (z.i 1) (z.l 1) (z.s 0) (z.v 5) [((z.n 5), liObj [.str (z.s 1) (z.n 4)] ((z.n 7) + 1))], lex6s P z.x (z.v 6) (z.v 7) (z.i 2) (z.l 2) (z.s 0) (z.v 8) [((z.n 5), liObj (z.l 4) (z.n 8))], [], (0 + (z.n 0)), (0 + (z.n 1)), (z.n 2), (z.n 3), .ok (.ret .none), 0, 0, true, (some (z.fr)), (some (z.fr)), [(z.n 6)]⟩]
noncomputable def lhsLsS0 (pg : Program) (W : Params) (b t : Nat) (z : Zs) := resM [true, true, true, true, true, true, true] (enter W (go pg W b t true (ctLsS0 W b t z) 50) orsLsS0 (.builtin "list.extend.loop" ⟨[.ref (z.n 5), .ref z.x.L, .none], []⟩) kx (lex6s W z.x (z.v 0) (z.v 1) (z.i 0) (z.l 0) (z.s 0) (z.v 2) [((z.n 5), liObj [] (z.n 7))]) 0 0 [])
noncomputable def rhsLsS0 (pg : Program) (W : Params) (b t : Nat) (z : Zs) : Option (Except Value PySem.Fin × Dy × Nat × Nat × List Ob) := some (.ok (.done (.ret .none)), lex6s W z.x (z.v 6) (z.v 7) (z.i 2) (z.l 2) (z.s 0) (z.v 8) [((z.n 5), liObj (z.l 4) (z.n 8))], (0 + (z.n 0) + (z.n 2)), (0 + (z.n 1) + (z.n 3)), toldC (ctLsS0 W b t z) [z.x.L, z.x.d, z.x.q, z.x.io, z.x.iod, z.x.fs, (z.n 5)] orsLsS0 [] [])
end Mine
lay_z Mine.lhsLsS0 Mine.rhsLsS0
namespace Mine
theorem chkLsS0 (pg : Program) (P : Params) (r : Bool) (b t : Nat) (z : Zs) : lhsLsS0 pg (wf P r) b t z = rhsLsS0 pg (wf P r) b t z := by
  rw [PySem.W.ZFast.ze13052570482672940660, PySem.W.ZFast.ze3976364044943422326]
  cases r <;> kernel_rfl
theorem conLsS0 {w : World} {N U : Nat} (hN : N ≤ 800) (b t : Nat) (z : Zs) (hct : CtOk w w.params N U b t (ctLsS0 w.params b t z)) : ConF ((some (z.fr))) ([(z.n 6)]) w w.params N U (.builtin "list.extend.loop" ⟨[.ref (z.n 5), .ref z.x.L, .none], []⟩) (lex6s w.params z.x (z.v 0) (z.v 1) (z.i 0) (z.l 0) (z.s 0) (z.v 2) [((z.n 5), liObj [] (z.n 7))]) (lex6s w.params z.x (z.v 6) (z.v 7) (z.i 2) (z.l 2) (z.s 0) (z.v 8) [((z.n 5), liObj (z.l 4) (z.n 8))]) b t ((0 + (z.n 0) + (z.n 2))) ((0 + (z.n 1) + (z.n 3))) (.ok (.ret .none)) := by
  have h := chkLsS0 pw w.params (w.params.followText row1) b t z
  rw [wf_self] at h
  exact conF_of_run rfl (spOk w) hct (fun y hy l e => by simp only [ctLsS0, List.mem_cons, List.not_mem_nil, or_false] at hy; rcases hy with rfl | rfl <;> first | exact e | cases e) (fun y hy a ha => by simp only [ctLsS0, List.mem_cons, List.not_mem_nil, or_false] at hy; rcases hy with rfl | rfl <;> first | exact ha | cases ha) hN h rfl (toldC_ok _ _ _ (fun _ h => by cases h) (fun _ h => by cases h))
noncomputable def orsLsS1 : List Rf := [.d 0, .s, .s, .s, .s, .k 0, .d 6, .d 6, .d 6, .k 1]
noncomputable def ctLsS1 (P : Params) (b t : Nat) (z : Zs) : List KC := [⟨.call (.ref 729) ⟨[.ref z.x.L], []⟩, [true, true, true, true, true, true], lex6 P z.x (z.v 0) (z.v 1) (z.i 0) (z.l 0) (z.s 0) (z.v 2), lex6 P z.x (z.v 3) (z.v 4) (z.i 1) (z.l 1) (z.s 0) (z.v 5), [], 0, 0, (z.n 0), (z.n 1), .ok (.ret (.str (z.s 1) (z.n 4))), 20, 200, true, none, none, []⟩, ⟨.builtin "list.extend.loop" ⟨[.ref (z.n 5), .ref z.x.L, .none], []⟩, [true, true, true, true, true, true, true], lex6s P z.x (z.v 3) (z.v 4) (z.i 1) (z.l 1) (z.s 0) (z.v 5) [((z.n 5), liObj [(z.v 10), .str (z.s 1) (z.n 4)] ((z.n 7) + 1))], lex6s P z.x (z.v 6) (z.v 7) (z.i 2) (z.l 2) (z.s 0) (z.v 8) [((z.n 5), liObj (z.l 4) (z.n 8))], [], (0 + (z.n 0)), (0 + (z.n 1)), (z.n 2), (z.n 3), .ok (.ret .none), 0, 0, true, (some (z.fr)), (some (z.fr)), [(z.n 6)]⟩]
noncomputable def lhsLsS1 (pg : Program) (W : Params) (b t : Nat) (z : Zs) := resM [true, true, true, true, true, true, true] (enter W (go pg W b t true (ctLsS1 W b t z) 50) orsLsS1 (.builtin "list.extend.loop" ⟨[.ref (z.n 5), .ref z.x.L, .none], []⟩) kx (lex6s W z.x (z.v 0) (z.v 1) (z.i 0) (z.l 0) (z.s 0) (z.v 2) [((z.n 5), liObj [(z.v 10)] (z.n 7))]) 0 0 [])
noncomputable def rhsLsS1 (pg : Program) (W : Params) (b t : Nat) (z : Zs) : Option (Except Value PySem.Fin × Dy × Nat × Nat × List Ob) := some (.ok (.done (.ret .none)), lex6s W z.x (z.v 6) (z.v 7) (z.i 2) (z.l 2) (z.s 0) (z.v 8) [((z.n 5), liObj (z.l 4) (z.n 8))], (0 + (z.n 0) + (z.n 2)), (0 + (z.n 1) + (z.n 3)), toldC (ctLsS1 W b t z) [z.x.L, z.x.d, z.x.q, z.x.io, z.x.iod, z.x.fs, (z.n 5)] orsLsS1 [] [])
end Mine
lay_z Mine.lhsLsS1 Mine.rhsLsS1
namespace Mine
theorem chkLsS1 (pg : Program) (P : Params) (r : Bool) (b t : Nat) (z : Zs) : lhsLsS1 pg (wf P r) b t z = rhsLsS1 pg (wf P r) b t z := by
  rw [PySem.W.ZFast.ze1953554737658899306, PySem.W.ZFast.ze15548795658137652505]
  cases r <;> kernel_rfl
theorem conLsS1 {w : World} {N U : Nat} (hN : N ≤ 800) (b t : Nat) (z : Zs) (hct : CtOk w w.params N U b t (ctLsS1 w.params b t z)) : ConF ((some (z.fr))) ([(z.n 6)]) w w.params N U (.builtin "list.extend.loop" ⟨[.ref (z.n 5), .ref z.x.L, .none], []⟩) (lex6s w.params z.x (z.v 0) (z.v 1) (z.i 0) (z.l 0) (z.s 0) (z.v 2) [((z.n 5), liObj [(z.v 10)] (z.n 7))]) (lex6s w.params z.x (z.v 6) (z.v 7) (z.i 2) (z.l 2) (z.s 0) (z.v 8) [((z.n 5), liObj (z.l 4) (z.n 8))]) b t ((0 + (z.n 0) + (z.n 2))) ((0 + (z.n 1) + (z.n 3))) (.ok (.ret .none)) := by
  have h := chkLsS1 pw w.params (w.params.followText row1) b t z
  rw [wf_self] at h
  exact conF_of_run rfl (spOk w) hct (fun y hy l e => by simp only [ctLsS1, List.mem_cons, List.not_mem_nil, or_false] at hy; rcases hy with rfl | rfl <;> first | exact e | cases e) (fun y hy a ha => by simp only [ctLsS1, List.mem_cons, List.not_mem_nil, or_false] at hy; rcases hy with rfl | rfl <;> first | exact ha | cases ha) hN h rfl (toldC_ok _ _ _ (fun _ h => by cases h) (fun _ h => by cases h))
noncomputable def orsLsS2 : List Rf := [.d 0, .s, .s, .s, .s, .k 0, .d 6, .d 6, .d 6, .k 1]
noncomputable def ctLsS2 (P : Params) (b t : Nat) (z : Zs) : List KC := [⟨.call (.ref 729) ⟨[.ref z.x.L], []⟩, [true, true, true, true, true, true], lex6 P z.x (z.v 0) (z.v 1) (z.i 0) (z.l 0) (z.s 0) (z.v 2), lex6 P z.x (z.v 3) (z.v 4) (z.i 1) (z.l 1) (z.s 0) (z.v 5), [], 0, 0, (z.n 0), (z.n 1), .ok (.ret (.str (z.s 1) (z.n 4))), 20, 200, true, none, none, []⟩, ⟨.builtin "list.extend.loop" ⟨[.ref (z.n 5), .ref z.x.L, .none], []⟩, [true, true, true, true, true, true, true], lex6s P z.x (z.v 3) (z.v 4) (z.i 1) (z.l 1) (z.s 0) (z.v 5) [((z.n 5), liObj [(z.v 10), (z.v 11), .str (z.s 1) (z.n 4)] ((z.n 7) + 1))], lex6s P z.x (z.v 6) (z.v 7) (z.i 2) (z.l 2) (z.s 0) (z.v 8) [((z.n 5), liObj (z.l 4) (z.n 8))], [], (0 + (z.n 0)), (0 + (z.n 1)), (z.n 2), (z.n 3), .ok (.ret .none), 0, 0, true, (some (z.fr)), (some (z.fr)), [(z.n 6)]⟩]
noncomputable def lhsLsS2 (pg : Program) (W : Params) (b t : Nat) (z : Zs) := resM [true, true, true, true, true, true, true] (enter W (go pg W b t true (ctLsS2 W b t z) 50) orsLsS2 (.builtin "list.extend.loop" ⟨[.ref (z.n 5), .ref z.x.L, .none], []⟩) kx (lex6s W z.x (z.v 0) (z.v 1) (z.i 0) (z.l 0) (z.s 0) (z.v 2) [((z.n 5), liObj [(z.v 10), (z.v 11)] (z.n 7))]) 0 0 [])
noncomputable def rhsLsS2 (pg : Program) (W : Params) (b t : Nat) (z : Zs) : Option (Except Value PySem.Fin × Dy × Nat × Nat × List Ob) := some (.ok (.done (.ret .none)), lex6s W z.x (z.v 6) (z.v 7) (z.i 2) (z.l 2) (z.s 0) (z.v 8) [((z.n 5), liObj (z.l 4) (z.n 8))], (0 + (z.n 0) + (z.n 2)), (0 + (z.n 1) + (z.n 3)), toldC (ctLsS2 W b t z) [z.x.L, z.x.d, z.x.q, z.x.io, z.x.iod, z.x.fs, (z.n 5)] orsLsS2 [] [])
end Mine
lay_z Mine.lhsLsS2 Mine.rhsLsS2
namespace Mine
theorem chkLsS2 (pg : Program) (P : Params) (r : Bool) (b t : Nat) (z : Zs) : lhsLsS2 pg (wf P r) b t z = rhsLsS2 pg (wf P r) b t z := by
  rw [PySem.W.ZFast.ze10135222562361373472, PySem.W.ZFast.ze2929753793661162130]
  cases r <;> kernel_rfl
theorem conLsS2 {w : World} {N U : Nat} (hN : N ≤ 800) (b t : Nat) (z : Zs) (hct : CtOk w w.params N U b t (ctLsS2 w.params b t z)) : ConF ((some (z.fr))) ([(z.n 6)]) w w.params N U (.builtin "list.extend.loop" ⟨[.ref (z.n 5), .ref z.x.L, .none], []⟩) (lex6s w.params z.x (z.v 0) (z.v 1) (z.i 0) (z.l 0) (z.s 0) (z.v 2) [((z.n 5), liObj [(z.v 10), (z.v 11)] (z.n 7))]) (lex6s w.params z.x (z.v 6) (z.v 7) (z.i 2) (z.l 2) (z.s 0) (z.v 8) [((z.n 5), liObj (z.l 4) (z.n 8))]) b t ((0 + (z.n 0) + (z.n 2))) ((0 + (z.n 1) + (z.n 3))) (.ok (.ret .none)) := by
  have h := chkLsS2 pw w.params (w.params.followText row1) b t z
  rw [wf_self] at h
  exact conF_of_run rfl (spOk w) hct (fun y hy l e => by simp only [ctLsS2, List.mem_cons, List.not_mem_nil, or_false] at hy; rcases hy with rfl | rfl <;> first | exact e | cases e) (fun y hy a ha => by simp only [ctLsS2, List.mem_cons, List.not_mem_nil, or_false] at hy; rcases hy with rfl | rfl <;> first | exact ha | cases ha) hN h rfl (toldC_ok _ _ _ (fun _ h => by cases h) (fun _ h => by cases h))
noncomputable def orsLsS3 : List Rf := [.d 0, .s, .s, .s, .s, .k 0, .d 6, .d 6, .d 6, .k 1]
noncomputable def ctLsS3 (P : Params) (b t : Nat) (z : Zs) : List KC := [⟨.call (.ref 729) ⟨[.ref z.x.L], []⟩, [true, true, true, true, true, true], lex6 P z.x (z.v 0) (z.v 1) (z.i 0) (z.l 0) (z.s 0) (z.v 2), lex6 P z.x (z.v 3) (z.v 4) (z.i 1) (z.l 1) (z.s 0) (z.v 5), [], 0, 0, (z.n 0), (z.n 1), .ok (.ret (.str (z.s 1) (z.n 4))), 20, 200, true, none, none, []⟩, ⟨.builtin "list.extend.loop" ⟨[.ref (z.n 5), .ref z.x.L, .none], []⟩, [true, true, true, true, true, true, true], lex6s P z.x (z.v 3) (z.v 4) (z.i 1) (z.l 1) (z.s 0) (z.v 5) [((z.n 5), liObj [(z.v 10), (z.v 11), (z.v 12), .str (z.s 1) (z.n 4)] ((z.n 7) + 1))], lex6s P z.x (z.v 6) (z.v 7) (z.i 2) (z.l 2) (z.s 0) (z.v 8) [((z.n 5), liObj (z.l 4) (z.n 8))], [], (0 + (z.n 0)), (0 + (z.n 1)), (z.n 2), (z.n 3), .ok (.ret .none), 0, 0, true, (some (z.fr)), (some (z.fr)), [(z.n 6)]⟩]
noncomputable def lhsLsS3 (pg : Program) (W : Params) (b t : Nat) (z : Zs) := resM [true, true, true, true, true, true, true] (enter W (go pg W b t true (ctLsS3 W b t z) 50) orsLsS3 (.builtin "list.extend.loop" ⟨[.ref (z.n 5), .ref z.x.L, .none], []⟩) kx (lex6s W z.x (z.v 0) (z.v 1) (z.i 0) (z.l 0) (z.s 0) (z.v 2) [((z.n 5), liObj [(z.v 10), (z.v 11), (z.v 12)] (z.n 7))]) 0 0 [])
noncomputable def rhsLsS3 (pg : Program) (W : Params) (b t : Nat) (z : Zs) : Option (Except Value PySem.Fin × Dy × Nat × Nat × List Ob) := some (.ok (.done (.ret .none)), lex6s W z.x (z.v 6) (z.v 7) (z.i 2) (z.l 2) (z.s 0) (z.v 8) [((z.n 5), liObj (z.l 4) (z.n 8))], (0 + (z.n 0) + (z.n 2)), (0 + (z.n 1) + (z.n 3)), toldC (ctLsS3 W b t z) [z.x.L, z.x.d, z.x.q, z.x.io, z.x.iod, z.x.fs, (z.n 5)] orsLsS3 [] [])
end Mine
lay_z Mine.lhsLsS3 Mine.rhsLsS3
namespace Mine
theorem chkLsS3 (pg : Program) (P : Params) (r : Bool) (b t : Nat) (z : Zs) : lhsLsS3 pg (wf P r) b t z = rhsLsS3 pg (wf P r) b t z := by
  rw [PySem.W.ZFast.ze10591896686204963824, PySem.W.ZFast.ze18047176358470064723]
  cases r <;> kernel_rfl
theorem conLsS3 {w : World} {N U : Nat} (hN : N ≤ 800) (b t : Nat) (z : Zs) (hct : CtOk w w.params N U b t (ctLsS3 w.params b t z)) : ConF ((some (z.fr))) ([(z.n 6)]) w w.params N U (.builtin "list.extend.loop" ⟨[.ref (z.n 5), .ref z.x.L, .none], []⟩) (lex6s w.params z.x (z.v 0) (z.v 1) (z.i 0) (z.l 0) (z.s 0) (z.v 2) [((z.n 5), liObj [(z.v 10), (z.v 11), (z.v 12)] (z.n 7))]) (lex6s w.params z.x (z.v 6) (z.v 7) (z.i 2) (z.l 2) (z.s 0) (z.v 8) [((z.n 5), liObj (z.l 4) (z.n 8))]) b t ((0 + (z.n 0) + (z.n 2))) ((0 + (z.n 1) + (z.n 3))) (.ok (.ret .none)) := by
  have h := chkLsS3 pw w.params (w.params.followText row1) b t z
  rw [wf_self] at h
  exact conF_of_run rfl (spOk w) hct (fun y hy l e => by simp only [ctLsS3, List.mem_cons, List.not_mem_nil, or_false] at hy; rcases hy with rfl | rfl <;> first | exact e | cases e) (fun y hy a ha => by simp only [ctLsS3, List.mem_cons, List.not_mem_nil, or_false] at hy; rcases hy with rfl | rfl <;> first | exact ha | cases ha) hN h rfl (toldC_ok _ _ _ (fun _ h => by cases h) (fun _ h => by cases h))
noncomputable def orsLsS4 : List Rf := [.d 0, .s, .s, .s, .s, .k 0, .d 6, .d 6, .d 6, .k 1]
noncomputable def ctLsS4 (P : Params) (b t : Nat) (z : Zs) : List KC := [⟨.call (.ref 729) ⟨[.ref z.x.L], []⟩, [true, true, true, true, true, true], lex6 P z.x (z.v 0) (z.v 1) (z.i 0) (z.l 0) (z.s 0) (z.v 2), lex6 P z.x (z.v 3) (z.v 4) (z.i 1) (z.l 1) (z.s 0) (z.v 5), [], 0, 0, (z.n 0), (z.n 1), .ok (.ret (.str (z.s 1) (z.n 4))), 20, 200, true, none, none, []⟩, ⟨.builtin "list.extend.loop" ⟨[.ref (z.n 5), .ref z.x.L, .none], []⟩, [true, true, true, true, true, true, true], lex6s P z.x (z.v 3) (z.v 4) (z.i 1) (z.l 1) (z.s 0) (z.v 5) [((z.n 5), liObj [(z.v 10), (z.v 11), (z.v 12), (z.v 13), .str (z.s 1) (z.n 4)] ((z.n 7) + 1))], lex6s P z.x (z.v 6) (z.v 7) (z.i 2) (z.l 2) (z.s 0) (z.v 8) [((z.n 5), liObj (z.l 4) (z.n 8))], [], (0 + (z.n 0)), (0 + (z.n 1)), (z.n 2), (z.n 3), .ok (.ret .none), 0, 0, true, (some (z.fr)), (some (z.fr)), [(z.n 6)]⟩]
noncomputable def lhsLsS4 (pg : Program) (W : Params) (b t : Nat) (z : Zs) := resM [true, true, true, true, true, true, true] (enter W (go pg W b t true (ctLsS4 W b t z) 50) orsLsS4 (.builtin "list.extend.loop" ⟨[.ref (z.n 5), .ref z.x.L, .none], []⟩) kx (lex6s W z.x (z.v 0) (z.v 1) (z.i 0) (z.l 0) (z.s 0) (z.v 2) [((z.n 5), liObj [(z.v 10), (z.v 11), (z.v 12), (z.v 13)] (z.n 7))]) 0 0 [])
noncomputable def rhsLsS4 (pg : Program) (W : Params) (b t : Nat) (z : Zs) : Option (Except Value PySem.Fin × Dy × Nat × Nat × List Ob) := some (.ok (.done (.ret .none)), lex6s W z.x (z.v 6) (z.v 7) (z.i 2) (z.l 2) (z.s 0) (z.v 8) [((z.n 5), liObj (z.l 4) (z.n 8))], (0 + (z.n 0) + (z.n 2)), (0 + (z.n 1) + (z.n 3)), toldC (ctLsS4 W b t z) [z.x.L, z.x.d, z.x.q, z.x.io, z.x.iod, z.x.fs, (z.n 5)] orsLsS4 [] [])
end Mine
lay_z Mine.lhsLsS4 Mine.rhsLsS4
namespace Mine
theorem chkLsS4 (pg : Program) (P : Params) (r : Bool) (b t : Nat) (z : Zs) : lhsLsS4 pg (wf P r) b t z = rhsLsS4 pg (wf P r) b t z := by
  rw [PySem.W.ZFast.ze18052738572464157963, PySem.W.ZFast.ze5340194159306734022]
  cases r <;> kernel_rfl
theorem conLsS4 {w : World} {N U : Nat} (hN : N ≤ 800) (b t : Nat) (z : Zs) (hct : CtOk w w.params N U b t (ctLsS4 w.params b t z)) : ConF ((some (z.fr))) ([(z.n 6)]) w w.params N U (.builtin "list.extend.loop" ⟨[.ref (z.n 5), .ref z.x.L, .none], []⟩) (lex6s w.params z.x (z.v 0) (z.v 1) (z.i 0) (z.l 0) (z.s 0) (z.v 2) [((z.n 5), liObj [(z.v 10), (z.v 11), (z.v 12), (z.v 13)] (z.n 7))]) (lex6s w.params z.x (z.v 6) (z.v 7) (z.i 2) (z.l 2) (z.s 0) (z.v 8) [((z.n 5), liObj (z.l 4) (z.n 8))]) b t ((0 + (z.n 0) + (z.n 2))) ((0 + (z.n 1) + (z.n 3))) (.ok (.ret .none)) := by
  have h := chkLsS4 pw w.params (w.params.followText row1) b t z
  rw [wf_self] at h
  exact conF_of_run rfl (spOk w) hct (fun y hy l e => by simp only [ctLsS4, List.mem_cons, List.not_mem_nil, or_false] at hy; rcases hy with rfl | rfl <;> first | exact e | cases e) (fun y hy a ha => by simp only [ctLsS4, List.mem_cons, List.not_mem_nil, or_false] at hy; rcases hy with rfl | rfl <;> first | exact ha | cases ha) hN h rfl (toldC_ok _ _ _ (fun _ h => by cases h) (fun _ h => by cases h))
noncomputable def orsLsS5 : List Rf := [.d 0, .s, .s, .s, .s, .k 0, .d 6, .d 6, .d 6, .k 1]
noncomputable def ctLsS5 (P : Params) (b t : Nat) (z : Zs) : List KC := [⟨.call (.ref 729) ⟨[.ref z.x.L], []⟩, [true, true, true, true, true, true], lex6 P z.x (z.v 0) (z.v 1) (z.i 0) (z.l 0) (z.s 0) (z.v 2), lex6 P z.x (z.v 3) (z.v 4) (z.i 1) (z.l 1) (z.s 0) (z.v 5), [], 0, 0, (z.n 0), (z.n 1), .ok (.ret (.str (z.s 1) (z.n 4))), 20, 200, true, none, none, []⟩, ⟨.builtin "list.extend.loop" ⟨[.ref (z.n 5), .ref z.x.L, .none], []⟩, [true, true, true, true, true, true, true], lex6s P z.x (z.v 3) (z.v 4) (z.i 1) (z.l 1) (z.s 0) (z.v 5) [((z.n 5), liObj [(z.v 10), (z.v 11), (z.v 12), (z.v 13), (z.v 14), .str (z.s 1) (z.n 4)] ((z.n 7) + 1))], lex6s P z.x (z.v 6) (z.v 7) (z.i 2) (z.l 2) (z.s 0) (z.v 8) [((z.n 5), liObj (z.l 4) (z.n 8))], [], (0 + (z.n 0)), (0 + (z.n 1)), (z.n 2), (z.n 3), .ok (.ret .none), 0, 0, true, (some (z.fr)), (some (z.fr)), [(z.n 6)]⟩]
noncomputable def lhsLsS5 (pg : Program) (W : Params) (b t : Nat) (z : Zs) := resM [true, true, true, true, true, true, true] (enter W (go pg W b t true (ctLsS5 W b t z) 50) orsLsS5 (.builtin "list.extend.loop" ⟨[.ref (z.n 5), .ref z.x.L, .none], []⟩) kx (lex6s W z.x (z.v 0) (z.v 1) (z.i 0) (z.l 0) (z.s 0) (z.v 2) [((z.n 5), liObj [(z.v 10), (z.v 11), (z.v 12), (z.v 13), (z.v 14)] (z.n 7))]) 0 0 [])
noncomputable def rhsLsS5 (pg : Program) (W : Params) (b t : Nat) (z : Zs) : Option (Except Value PySem.Fin × Dy × Nat × Nat × List Ob) := some (.ok (.done (.ret .none)), lex6s W z.x (z.v 6) (z.v 7) (z.i 2) (z.l 2) (z.s 0) (z.v 8) [((z.n 5), liObj (z.l 4) (z.n 8))], (0 + (z.n 0) + (z.n 2)), (0 + (z.n 1) + (z.n 3)), toldC (ctLsS5 W b t z) [z.x.L, z.x.d, z.x.q, z.x.io, z.x.iod, z.x.fs, (z.n 5)] orsLsS5 [] [])
end Mine
lay_z Mine.lhsLsS5 Mine.rhsLsS5
namespace Mine
theorem chkLsS5 (pg : Program) (P : Params) (r : Bool) (b t : Nat) (z : Zs) : lhsLsS5 pg (wf P r) b t z = rhsLsS5 pg (wf P r) b t z := by
  rw [PySem.W.ZFast.ze7114459714320087255, PySem.W.ZFast.ze8101601355430381430]
  cases r <;> kernel_rfl
theorem conLsS5 {w : World} {N U : Nat} (hN : N ≤ 800) (b t : Nat) (z : Zs) (hct : CtOk w w.params N U b t (ctLsS5 w.params b t z)) : ConF ((some (z.fr))) ([(z.n 6)]) w w.params N U (.builtin "list.extend.loop" ⟨[.ref (z.n 5), .ref z.x.L, .none], []⟩) (lex6s w.params z.x (z.v 0) (z.v 1) (z.i 0) (z.l 0) (z.s 0) (z.v 2) [((z.n 5), liObj [(z.v 10), (z.v 11), (z.v 12), (z.v 13), (z.v 14)] (z.n 7))]) (lex6s w.params z.x (z.v 6) (z.v 7) (z.i 2) (z.l 2) (z.s 0) (z.v 8) [((z.n 5), liObj (z.l 4) (z.n 8))]) b t ((0 + (z.n 0) + (z.n 2))) ((0 + (z.n 1) + (z.n 3))) (.ok (.ret .none)) := by
  have h := chkLsS5 pw w.params (w.params.followText row1) b t z
  rw [wf_self] at h
  exact conF_of_run rfl (spOk w) hct (fun y hy l e => by simp only [ctLsS5, List.mem_cons, List.not_mem_nil, or_false] at hy; rcases hy with rfl | rfl <;> first | exact e | cases e) (fun y hy a ha => by simp only [ctLsS5, List.mem_cons, List.not_mem_nil, or_false] at hy; rcases hy with rfl | rfl <;> first | exact ha | cases ha) hN h rfl (toldC_ok _ _ _ (fun _ h => by cases h) (fun _ h => by cases h))
noncomputable def orsLsS6 : List Rf := [.d 0, .s, .s, .s, .s, .k 0, .d 6, .d 6, .d 6, .k 1]
noncomputable def ctLsS6 (P : Params) (b t : Nat) (z : Zs) : List KC := [⟨.call (.ref 729) ⟨[.ref z.x.L], []⟩, [true, true, true, true, true, true], lex6 P z.x (z.v 0) (z.v 1) (z.i 0) (z.l 0) (z.s 0) (z.v 2), lex6 P z.x (z.v 3) (z.v 4) (z.i 1) (z.l 1) (z.s 0) (z.v 5), [], 0, 0, (z.n 0), (z.n 1), .ok (.ret (.str (z.s 1) (z.n 4))), 20, 200, true, none, none, []⟩, ⟨.builtin "list.extend.loop" ⟨[.ref (z.n 5), .ref z.x.L, .none], []⟩, [true, true, true, true, true, true, true], lex6s P z.x (z.v 3) (z.v 4) (z.i 1) (z.l 1) (z.s 0) (z.v 5) [((z.n 5), liObj [(z.v 10), (z.v 11), (z.v 12), (z.v 13), (z.v 14), (z.v 15), .str (z.s 1) (z.n 4)] ((z.n 7) + 1))], lex6s P z.x (z.v 6) (z.v 7) (z.i 2) (z.l 2) (z.s 0) (z.v 8) [((z.n 5), liObj (z.l 4) (z.n 8))], [], (0 + (z.n 0)), (0 + (z.n 1)), (z.n 2), (z.n 3), .ok (.ret .none), 0, 0, true, (some (z.fr)), (some (z.fr)), [(z.n 6)]⟩]
noncomputable def lhsLsS6 (pg : Program) (W : Params) (b t : Nat) (z : Zs) := resM [true, true, true, true, true, true, true] (enter W (go pg W b t true (ctLsS6 W b t z) 50) orsLsS6 (.builtin "list.extend.loop" ⟨[.ref (z.n 5), .ref z.x.L, .none], []⟩) kx (lex6s W z.x (z.v 0) (z.v 1) (z.i 0) (z.l 0) (z.s 0) (z.v 2) [((z.n 5), liObj [(z.v 10), (z.v 11), (z.v 12), (z.v 13), (z.v 14), (z.v 15)] (z.n 7))]) 0 0 [])
noncomputable def rhsLsS6 (pg : Program) (W : Params) (b t : Nat) (z : Zs) : Option (Except Value PySem.Fin × Dy × Nat × Nat × List Ob) := some (.ok (.done (.ret .none)), lex6s W z.x (z.v 6) (z.v 7) (z.i 2) (z.l 2) (z.s 0) (z.v 8) [((z.n 5), liObj (z.l 4) (z.n 8))], (0 + (z.n 0) + (z.n 2)), (0 + (z.n 1) + (z.n 3)), toldC (ctLsS6 W b t z) [z.x.L, z.x.d, z.x.q, z.x.io, z.x.iod, z.x.fs, (z.n 5)] orsLsS6 [] [])
end Mine
lay_z Mine.lhsLsS6 Mine.rhsLsS6
namespace Mine
theorem chkLsS6 (pg : Program) (P : Params) (r : Bool) (b t : Nat) (z : Zs) : lhsLsS6 pg (wf P r) b t z = rhsLsS6 pg (wf P r) b t z := by
  rw [PySem.W.ZFast.ze13093257251509563949, PySem.W.ZFast.ze902904592896612417]
  cases r <;> kernel_rfl
theorem conLsS6 {w : World} {N U : Nat} (hN : N ≤ 800) (b t : Nat) (z : Zs) (hct : CtOk w w.params N U b t (ctLsS6 w.params b t z)) : ConF ((some (z.fr))) ([(z.n 6)]) w w.params N U (.builtin "list.extend.loop" ⟨[.ref (z.n 5), .ref z.x.L, .none], []⟩) (lex6s w.params z.x (z.v 0) (z.v 1) (z.i 0) (z.l 0) (z.s 0) (z.v 2) [((z.n 5), liObj [(z.v 10), (z.v 11), (z.v 12), (z.v 13), (z.v 14), (z.v 15)] (z.n 7))]) (lex6s w.params z.x (z.v 6) (z.v 7) (z.i 2) (z.l 2) (z.s 0) (z.v 8) [((z.n 5), liObj (z.l 4) (z.n 8))]) b t ((0 + (z.n 0) + (z.n 2))) ((0 + (z.n 1) + (z.n 3))) (.ok (.ret .none)) := by
  have h := chkLsS6 pw w.params (w.params.followText row1) b t z
  rw [wf_self] at h
  exact conF_of_run rfl (spOk w) hct (fun y hy l e => by simp only [ctLsS6, List.mem_cons, List.not_mem_nil, or_false] at hy; rcases hy with rfl | rfl <;> first | exact e | cases e) (fun y hy a ha => by simp only [ctLsS6, List.mem_cons, List.not_mem_nil, or_false] at hy; rcases hy with rfl | rfl <;> first | exact ha | cases ha) hN h rfl (toldC_ok _ _ _ (fun _ h => by cases h) (fun _ h => by cases h))
noncomputable def orsLsS7 : List Rf := [.d 0, .s, .s, .s, .s, .k 0, .d 6, .d 6, .d 6, .k 1]
noncomputable def ctLsS7 (P : Params) (b t : Nat) (z : Zs) : List KC := [⟨.call (.ref 729) ⟨[.ref z.x.L], []⟩, [true, true, true, true, true, true], lex6 P z.x (z.v 0) (z.v 1) (z.i 0) (z.l 0) (z.s 0) (z.v 2), lex6 P z.x (z.v 3) (z.v 4) (z.i 1) (z.l 1) (z.s 0) (z.v 5), [], 0, 0, (z.n 0), (z.n 1), .ok (.ret (.str (z.s 1) (z.n 4))), 20, 200, true, none, none, []⟩, ⟨.builtin "list.extend.loop" ⟨[.ref (z.n 5), .ref z.x.L, .none], []⟩, [true, true, true, true, true, true, true], lex6s P z.x (z.v 3) (z.v 4) (z.i 1) (z.l 1) (z.s 0) (z.v 5) [((z.n 5), liObj [(z.v 10), (z.v 11), (z.v 12), (z.v 13), (z.v 14), (z.v 15), (z.v 16), .str (z.s 1) (z.n 4)] ((z.n 7) + 1))], lex6s P z.x (z.v 6) (z.v 7) (z.i 2) (z.l 2) (z.s 0) (z.v 8) [((z.n 5), liObj (z.l 4) (z.n 8))], [], (0 + (z.n 0)), (0 + (z.n 1)), (z.n 2), (z.n 3), .ok (.ret .none), 0, 0, true, (some (z.fr)), (some (z.fr)), [(z.n 6)]⟩]
noncomputable def lhsLsS7 (pg : Program) (W : Params) (b t : Nat) (z : Zs) := resM [true, true, true, true, true, true, true] (enter W (go pg W b t true (ctLsS7 W b t z) 50) orsLsS7 (.builtin "list.extend.loop" ⟨[.ref (z.n 5), .ref z.x.L, .none], []⟩) kx (lex6s W z.x (z.v 0) (z.v 1) (z.i 0) (z.l 0) (z.s 0) (z.v 2) [((z.n 5), liObj [(z.v 10), (z.v 11), (z.v 12), (z.v 13), (z.v 14), (z.v 15), (z.v 16)] (z.n 7))]) 0 0 [])
noncomputable def rhsLsS7 (pg : Program) (W : Params) (b t : Nat) (z : Zs) : Option (Except Value PySem.Fin × Dy × Nat × Nat × List Ob) := some (.ok (.done (.ret .none)), lex6s W z.x (z.v 6) (z.v 7) (z.i 2) (z.l 2) (z.s 0) (z.v 8) [((z.n 5), liObj (z.l 4) (z.n 8))], (0 + (z.n 0) + (z.n 2)), (0 + (z.n 1) + (z.n 3)), toldC (ctLsS7 W b t z) [z.x.L, z.x.d, z.x.q, z.x.io, z.x.iod, z.x.fs, (z.n 5)] orsLsS7 [] [])
end Mine
lay_z Mine.lhsLsS7 Mine.rhsLsS7
namespace Mine
theorem chkLsS7 (pg : Program) (P : Params) (r : Bool) (b t : Nat) (z : Zs) : lhsLsS7 pg (wf P r) b t z = rhsLsS7 pg (wf P r) b t z := by
  rw [PySem.W.ZFast.ze3816387441495594892, PySem.W.ZFast.ze6438893815415261677]
  cases r <;> kernel_rfl
theorem conLsS7 {w : World} {N U : Nat} (hN : N ≤ 800) (b t : Nat) (z : Zs) (hct : CtOk w w.params N U b t (ctLsS7 w.params b t z)) : ConF ((some (z.fr))) ([(z.n 6)]) w w.params N U (.builtin "list.extend.loop" ⟨[.ref (z.n 5), .ref z.x.L, .none], []⟩) (lex6s w.params z.x (z.v 0) (z.v 1) (z.i 0) (z.l 0) (z.s 0) (z.v 2) [((z.n 5), liObj [(z.v 10), (z.v 11), (z.v 12), (z.v 13), (z.v 14), (z.v 15), (z.v 16)] (z.n 7))]) (lex6s w.params z.x (z.v 6) (z.v 7) (z.i 2) (z.l 2) (z.s 0) (z.v 8) [((z.n 5), liObj (z.l 4) (z.n 8))]) b t ((0 + (z.n 0) + (z.n 2))) ((0 + (z.n 1) + (z.n 3))) (.ok (.ret .none)) := by
  have h := chkLsS7 pw w.params (w.params.followText row1) b t z
  rw [wf_self] at h
  exact conF_of_run rfl (spOk w) hct (fun y hy l e => by simp only [ctLsS7, List.mem_cons, List.not_mem_nil, or_false] at hy; rcases hy with rfl | rfl <;> first | exact e | cases e) (fun y hy a ha => by simp only [ctLsS7, List.mem_cons, List.not_mem_nil, or_false] at hy; rcases hy with rfl | rfl <;> first | exact ha | cases ha) hN h rfl (toldC_ok _ _ _ (fun _ h => by cases h) (fun _ h => by cases h))
noncomputable def orsLsN : List Rf := [.d 0, .s, .s, .s, .s, .k 0, .d 7]
noncomputable def ctLsN (P : Params) (b t : Nat) (z : Zs) : List KC := [⟨.call (.ref 729) ⟨[.ref z.x.L], []⟩, [true, true, true, true, true, true], lex6 P z.x (z.v 0) (z.v 1) (z.i 0) (z.l 0) (z.s 0) (z.v 2), lex6 P z.x (z.v 3) (z.v 4) (z.i 1) (z.l 1) (z.s 0) (z.v 5), [((z.n 9), siObj (z.n 10) (z.v 9))], 0, 0, (z.n 0), (z.n 1), .error (.ref (z.n 9)), 20, 200, true, (some (z.fr)), (some (z.fr)), [(z.n 6)]⟩]
noncomputable def lhsLsN (pg : Program) (W : Params) (b t : Nat) (z : Zs) := resM [true, true, true, true, true, true, true] (enter W (go pg W b t true (ctLsN W b t z) 48) orsLsN (.builtin "list.extend.loop" ⟨[.ref (z.n 5), .ref z.x.L, .none], []⟩) kx (lex6s W z.x (z.v 0) (z.v 1) (z.i 0) (z.l 0) (z.s 0) (z.v 2) [((z.n 5), liObj (z.l 3) (z.n 7))]) 0 0 [])
noncomputable def rhsLsN (pg : Program) (W : Params) (b t : Nat) (z : Zs) : Option (Except Value PySem.Fin × Dy × Nat × Nat × List Ob) := some (.ok (.done (.ret .none)), lex6s W z.x (z.v 3) (z.v 4) (z.i 1) (z.l 1) (z.s 0) (z.v 5) [((z.n 5), liObj (z.l 3) (z.n 7))], (0 + (z.n 0)), (0 + (z.n 1)), toldC (ctLsN W b t z) [z.x.L, z.x.d, z.x.q, z.x.io, z.x.iod, z.x.fs, (z.n 5), (z.n 9)] orsLsN [] [])
end Mine
lay_z Mine.lhsLsN Mine.rhsLsN
namespace Mine
theorem chkLsN (pg : Program) (P : Params) (r : Bool) (b t : Nat) (z : Zs) : lhsLsN pg (wf P r) b t z = rhsLsN pg (wf P r) b t z := by
  rw [PySem.W.ZFast.ze4585652459947885047, PySem.W.ZFast.ze17844392720719973207]
  cases r <;> kernel_rfl
theorem conLsN {w : World} {N U : Nat} (hN : N ≤ 800) (b t : Nat) (z : Zs) (hct : CtOk w w.params N U b t (ctLsN w.params b t z)) : ConF ((some (z.fr))) ([(z.n 6)]) w w.params N U (.builtin "list.extend.loop" ⟨[.ref (z.n 5), .ref z.x.L, .none], []⟩) (lex6s w.params z.x (z.v 0) (z.v 1) (z.i 0) (z.l 0) (z.s 0) (z.v 2) [((z.n 5), liObj (z.l 3) (z.n 7))]) (lex6s w.params z.x (z.v 3) (z.v 4) (z.i 1) (z.l 1) (z.s 0) (z.v 5) [((z.n 5), liObj (z.l 3) (z.n 7))]) b t ((0 + (z.n 0))) ((0 + (z.n 1))) (.ok (.ret .none)) := by
  have h := chkLsN pw w.params (w.params.followText row1) b t z
  rw [wf_self] at h
  exact conF_of_run rfl (spOk w) hct (fun y hy l e => by simp only [ctLsN, List.mem_cons, List.not_mem_nil, or_false] at hy; rcases hy with rfl <;> first | exact e | cases e) (fun y hy a ha => by simp only [ctLsN, List.mem_cons, List.not_mem_nil, or_false] at hy; rcases hy with rfl <;> first | exact ha | cases ha) hN h rfl (toldC_ok _ _ _ (fun _ h => by cases h) (fun _ h => by cases h))
/-! ## The end of the lexer: StopIteration leaves __next__ -/
section
variable {w : World} {A : Around} {E : Value → Shared → Prop} {s : Shared}
theorem leave_first {env : Env} {outer : List Env} {L e : Addr} {oe : Obj} {vs : Array Value} {Q : Unit → Shared → Prop}
    (hfr : A.frames = some (env :: outer)) (hl : s.heap.FunFrames {} (env :: outer)) (hf : env.frame = some L)
    (he : s.heap.get? e = some oe) (hd : oe.data = .fields vs) (h1 : vs[1]? = some .none)
    (h : ∀ h', h'.objs.size = s.heap.objs.size + 1 → (∀ b o, b ≠ e → b ∉ (env :: outer).filterMap (·.frame) → s.heap.get? b = some o → h'.get? b = some o) →
      (∀ b o, b ≠ e → s.heap.get? b = some o → ∃ sl, h'.get? b = some { o with slots := sl }) →
      h'.get? e = some (Obj.mapFields (·.setIfInBounds 1 (.ref s.heap.objs.size)) oe) → Q () { s with heap := h' }) :
    wpAny (Md w) A (leaving env (.ref e)) Q E s := by
  have hene : e ∉ (env :: outer).filterMap (·.frame) := fun hm => by
    obtain ⟨_, o, ho, hnf⟩ := hl.mem hm
    rw [he] at ho; injection ho with ho; subst ho; exact hnf vs hd
  have hsz : 1 < vs.size := (Array.getElem?_eq_some_iff.mp h1).1
  unfold leaving noteFrame
  simp only [hf]
  refine wpAny_bind (wpAny_bind (wpAny_field he hd h1 ?_))
  rw [if_neg (by decide)]
  refine wpAny_bind (wpAny_frameOf_fun hfr hl hf fun h₁ hs₁ => ?_)
  refine wpAny_bind (wpAny_entryPlaceOf fun pl hpl => ?_)
  unfold EntryCells.newEntry newFields
  refine wpAny_bind (wpAny_newObj_type ?_ (hpl.sizeOk5 _ _ _ _ _))
  have he₁ : h₁.get? e = some oe := (hs₁.2.1 e hene).trans he
  generalize hT : ({ cls := .type "traceback", dict := none, data := .fields ([Value.none, .ref L, .none, rawInt L, .none] ++ (if pl.isEmpty then List.replicate 6 Value.none else pl)).toArray } : Obj) = oT
  have hTd : oT.data = .fields ([Value.none, .ref L, .none, rawInt L, .none] ++ (if pl.isEmpty then List.replicate 6 Value.none else pl)).toArray := by rw [← hT]
  have hTf : oT.isFreed = false := by rw [← hT]; rfl
  have he₂ := Heap.get?_push_of_some (h := h₁) oT he₁
  refine wpAny_setField he₂ hd hsz ?_
  have hTe : h₁.objs.size ≠ e := Nat.ne_of_gt (Heap.lt_size he₁)
  have hd₃ := Obj.data_mapFields hd (·.setIfInBounds 1 (Value.ref h₁.objs.size))
  have he₃ := Heap.get?_update_self (Obj.mapFields (·.setIfInBounds 1 (Value.ref h₁.objs.size))) he₂ (Obj.isFreed_of_fields hd₃)
  have hT₃ := (Heap.get?_update_other (h₁.push oT) (Obj.mapFields (·.setIfInBounds 1 (Value.ref h₁.objs.size))) (Ne.symm hTe)).trans (Heap.get?_push_size h₁ hTf)
  unfold setFlight
  refine wpAny_bind (wpAny_field he₃ hd₃ (x := .ref h₁.objs.size) (by simp [hsz]) ?_)
  rw [if_pos (show (Value.ref h₁.objs.size != Value.none) = true from by simp)]
  refine wpAny_setField hT₃ hTd (by simp only [List.size_toArray, List.length_append, List.length_cons, List.length_nil] <;> omega) ?_
  have keep : ∀ b o, b ≠ e → h₁.get? b = some o → (((h₁.push oT).update e (Obj.mapFields (·.setIfInBounds 1 (Value.ref h₁.objs.size)))).update h₁.objs.size
        (Obj.mapFields (·.setIfInBounds 3 ((none : Option Addr).elim Value.none fun f => rawInt f)))).get? b = some o := fun b o hbe hb => by
    have hbT : h₁.objs.size ≠ b := Nat.ne_of_gt (Heap.lt_size hb)
    rw [Heap.get?_update_other _ _ hbT, Heap.get?_update_other _ _ (Ne.symm hbe)]
    exact Heap.get?_push_of_some _ hb
  have z1 : ((h₁.push oT).update e (Obj.mapFields (·.setIfInBounds 1 (Value.ref h₁.objs.size)))).objs.size = s.heap.objs.size + 1 := by
    rw [(Heap.SameBut.update (h := h₁.push oT) (a := e) ..).1, Heap.size_push, hs₁.1]
  refine h _ ?_ (fun b o hbe hbf hb => keep b o hbe ((hs₁.2.1 b hbf).trans hb)) (fun b o hbe hb => ?_) ?_
  · rw [(Heap.SameBut.update ..).1]; exact z1
  · obtain ⟨sl, hs⟩ := hs₁.2.2 b o hb
    exact ⟨sl, keep b _ hbe hs⟩
  · rw [Heap.get?_update_other _ _ hTe, he₃, hs₁.1]
/-- a def's body, by the run of its statements -/
theorem func_out {body : List Stmt} {env : Env} {B : Around} {R : Result → Shared → Prop}
    (h : wpAny (Md w) (B.under (.func body env)) (bodyT (.func body env)) (fun fin s' => match fin with | .done (.ret v) => R (.ok (.ret v)) s' | .done _ => R (.ok (.ret .none)) s' | .again _ => False)
      (fun e s' => wpAny (Md w) (B.under (.func body env)) (leaving env e) (fun _ s'' => R (.error e) s'') (fun e' s'' => R (.error e') s'') s') s) : codeAny (Md w) B (.func body env) R s := by
  refine codeAny_of_tree ?_
  intro Γ p hΓ
  show Sem.wp (Md w) Γ (Sem.point [] fun _ => ((execs body env).onRaise (leaving env)) >>= fun f => match f with | .ret v => ret v | _ => ret .none) _ _ p s
  rw [Sem.wp_point, Sem.wp_bind', Sem.wp_onRaise]
  have z := h Γ p hΓ
  unfold bodyT at z
  rw [Sem.wp_bind'] at z
  refine Sem.wp_mono _ _ _ (fun f p' s' y => ?_) (fun e p' s' y => ?_) p s z
  · cases f with
    | ret v => exact y
    | next => exact y
    | brk => exact y
    | cont => exact y
  · exact Sem.wp_mono _ _ _ (fun _ _ _ y => y) (fun _ _ _ y => y) p' s' (y Γ p' hΓ)
end
theorem Rp.leave {P : Params} {h₀ : Bs} {h h' : Heap} {D : Dy} {b m : Nat} {f F ea : Addr} {of oe oe' : Obj} (r : Rp P h₀ h (D ++ [(f, of), (ea, oe)]) b m) (hF : F ∈ h₀.Z) (hF9 : 769 ≤ F)
    (hs : h'.objs.size = h.objs.size + 1) (hk : ∀ b o, b ≠ ea → b ∉ [f, F] → h.get? b = some o → h'.get? b = some o) (hsl : ∀ b o, b ≠ ea → h.get? b = some o → ∃ sl, h'.get? b = some { o with slots := sl })
    (he : h'.get? ea = some oe') : Rp P h₀ h' (D ++ [(ea, oe')]) b (m + 1) := by
  have hf : (f, of) ∈ D ++ [(f, of), (ea, oe)] := List.mem_append_right _ List.mem_cons_self
  have hea : (ea, oe) ∈ D ++ [(f, of), (ea, oe)] := List.mem_append_right _ (List.mem_cons_of_mem _ List.mem_cons_self)
  have nd := r.nodup
  rw [List.map_append] at nd
  have nd3 := List.nodup_append.mp nd
  have hi : ∀ a, (769 ≤ a ∨ a = 738) → ∀ p ∈ K P, p.1 ≠ a := fun a ha p hp e => by
    have k := K_low P p hp
    rcases ha with ha | ha
    · rw [← e] at ha; exact absurd k.1 (Nat.not_lt.mpr ha)
    · exact k.2 (e.trans ha)
  have mid : ∀ a, a ≠ f → a ≠ F → a ∉ [f, F] := fun a h1 h2 hm => by
    rcases List.mem_cons.mp hm with e | hm
    · exact h1 e
    · rcases List.mem_cons.mp hm with e | hm
      · exact h2 e
      · cases hm
  have inD : ∀ p ∈ D, p ∈ D ++ [(f, of), (ea, oe)] := fun p hp => List.mem_append_left _ hp
  have neD : ∀ p ∈ D, p.1 ≠ f ∧ p.1 ≠ ea := fun p hp =>
    ⟨fun e => nd3.2.2 p.1 (List.mem_map_of_mem hp) f (by simp) e, fun e => nd3.2.2 p.1 (List.mem_map_of_mem hp) ea (by simp) e⟩
  have neF : ∀ p ∈ D ++ [(f, of), (ea, oe)], p.1 ≠ F := fun p hp e => r.far p hp (e ▸ hF)
  have oldne : ∀ a o, h₀.h.get? a = some o → a ∉ h₀.S → ∀ p ∈ D ++ [(f, of), (ea, oe)], a ≠ p.1 := fun a o ea' ha p hp e => by
    rcases r.old p hp with h1 | h1
    · exact ha (e ▸ h1)
    · exact absurd (Heap.lt_size ea') (Nat.not_lt.mpr (Nat.le_trans r.base (e ▸ h1)))
  refine ⟨by rw [hs, r.size, Nat.add_assoc], r.low, fun p hp => ?_, fun p hp => ?_, ?_, fun p hp => ?_, fun p hp => ?_, r.base, fun a o e q z => ?_, fun a ha o e => ?_, fun p hp => ?_, r.zlow, r.zob⟩
  · exact hk _ _ (hi _ (r.high _ hea) p hp) (mid _ (hi _ (r.high _ hf) p hp) (hi _ (.inl hF9) p hp)) (r.stat p hp)
  · rcases List.mem_append.mp hp with hp | hp
    · exact hk _ _ (neD p hp).2 (mid _ (neD p hp).1 (neF p (inD p hp))) (r.own p (inD p hp))
    · obtain rfl := List.mem_singleton.mp hp
      exact he
  · rw [List.map_append]
    refine List.nodup_append.mpr ⟨nd3.1, by simp, fun a ha c hc => nd3.2.2 a ha c ?_⟩
    have : c = ea := by simpa using hc
    subst this; simp
  · rcases List.mem_append.mp hp with hp | hp
    · exact r.high p (inD p hp)
    · obtain rfl := List.mem_singleton.mp hp
      exact r.high (ea, oe) hea
  · rcases List.mem_append.mp hp with hp | hp
    · exact r.old p (inD p hp)
    · obtain rfl := List.mem_singleton.mp hp
      exact r.old (ea, oe) hea
  · exact hk _ _ (oldne a o e q _ hea) (mid _ (oldne a o e q _ hf) (fun x => z (x ▸ hF))) (r.keep a o e q z)
  · obtain ⟨sl, y⟩ := r.semi a ha o e
    obtain ⟨sl', y'⟩ := hsl a _ (fun x => r.far _ hea (x ▸ ha)) y
    exact ⟨sl', y'⟩
  · rcases List.mem_append.mp hp with hp | hp
    · exact r.far p (inD p hp)
    · obtain rfl := List.mem_singleton.mp hp
      exact r.far (ea, oe) hea
theorem nx_env (A : Addr) : nxC A = .func (fnBody x22_10.s) (fnEnv x22_10.s [] A (Str.ofString "shlex.__next__.<locals>.") 729 728) := rfl
theorem nx_kind (A : Addr) : (fnEnv x22_10.s [] A (Str.ofString "shlex.__next__.<locals>.") 729 728).scope.kind ≠ .module := by
  show (fnScope x22_10.s).kind ≠ .module
  decide +kernel
theorem si_fields (a : Addr) (v : Value) : (siObj a v).data = .fields #[.ref a, v, .none, .none, .bool false, .none] := rfl
section
variable {w : World}
/-- __next__ at the end: StopIteration -/
theorem con_nextN {N U : Nat} (hN : N ≤ 740) (b t m1 i1 : Nat) (x : Lx) (st tk pos st1 tk1 pos1 : Value) (e e1 : Int) (its its1 : List Value) (tx : Str) (envF : Env) (F : Addr) (hF : envF.frame = some F) (hk : envF.scope.kind ≠ .module) (hF9 : 769 ≤ F)
    (hg : Con w w.params (N + 30) (U + 210) (.call (.ref 693) ⟨[.ref x.L], []⟩) (lex6 w.params x st tk e its tx pos) (lex6 w.params x st1 tk1 e1 its1 tx pos1) (b + 1) (t + 1) m1 i1 (.ok (.ret .none))) (hU : U + 500 < cLine) :
    ConF (some [envF]) [F] w w.params N U (.call (.ref 729) ⟨[.ref x.L], []⟩) (lex6 w.params x st tk e its tx pos) (lex6s w.params x st1 tk1 e1 its1 tx pos1 [(b + 1 + (0 + m1 + 1), siObj (b + 1 + (0 + m1 + 2)) (.ref (b + (1 + (0 + m1 + 3)))))]) b t (1 + (0 + m1 + 3) + 1) (1 + (0 + i1 + 2)) (.error (.ref (b + 1 + (0 + m1 + 1)))) := by
  intro h g d o B J G hB hu hh hf rp R hR
  obtain ⟨os, hos, hrun⟩ := rnNextA (w := w) b t (mkZ x [m1, i1] [st, tk, pos] [tx] [e] [its])
  refine code_again (N := N) (U := U + 1) rfl (spOk w) noCt_ok (fun _ h => by cases h) (fun _ h => by cases h) (by omega) hrun (by rfl) hos G hB (by omega) hh hf (call_weight _ _) ?_ ?_ rp fun h' g' G' r' => ?_
  · show B.units + 1 ≤ U + 1
    omega
  · rfl
  have e0 : lex6s w.params x st tk e its tx pos [(b, frSR w.params x t)] = lex6s w.params x st tk e its tx pos [(b, frS w.params x t)] := by rw [frSR_eq]
  have r0 : Rp w.params ⟨h, (lex6 w.params x st tk e its tx pos).map (·.1), [F]⟩ h' (lex6s w.params x st tk e its tx pos [(b, frS w.params x t)]) b 1 := e0 ▸ r'
  have r1 := r0.sub (Z := []) (List.Sublist.refl _) (fun _ h => by cases h)
  rw [nx_env]
  refine func_out ?_
  refine trNextF (N := N + 10) (U := U + 10) (by omega) (b + 1) (t + 1) (mkZ x [m1, i1, 0, b, t] [st, tk, pos, st1, tk1, pos1] [tx] [e, e1] [its, its1]) ?_ h' g' d o _ J G' ?_ ?_ ?_ (fun _ h => by cases h) r1 _ _ fun h'' g'' G'' r'' => ?_
  · intro y hy
    simp only [ctNextF, List.mem_cons, List.not_mem_nil, or_false] at hy
    rcases hy with rfl | rfl
    · exact ⟨rfl, hg.mono (by show N + 10 + 20 ≤ N + 30; omega) (by show U + 10 + 200 ≤ U + 210; omega)⟩
    · refine ⟨rfl, ?_⟩
      have hx : ∀ b t, ConF none [] w w.params (N + 10 + 20 + 20) (U + 10 + 200 + 200) xnC [] [(b + 1, siObj b .none)] b t 2 0 (.ok (.ret (.ref (b + 1)))) := fun b t =>
        conXNew (by omega) b t (mkZ lx0 [] [] [] [] []) (by
          have e1 : (xnC : Code).cUnits = 1 + 3 * Code.frames xnC := rfl
          have e2 : Code.frames xnC = 0 := rfl
          omega)
      exact conSI (w := w) (N := N + 10 + 20) (U := U + 10 + 200) (by omega) (b + 1 + (0 + m1)) (t + 1 + (0 + i1 + 2)) (mkZ lx0 [] [] [] [] []) (fun y hy => by
        simp only [ctSI, List.mem_cons, List.not_mem_nil, or_false] at hy
        subst hy
        exact ⟨rfl, hx _ _⟩)
  · show B.depth + Code.weight (.func _ _) ≤ N + 10
    have e1 : ∀ body env, Code.weight (.func body env) = 1 := fun _ _ => rfl
    rw [e1]; omega
  · show B.units + Code.cUnits (.func _ _) ≤ U + 10
    have e1 : ∀ body env, Code.cUnits (.func body env) = 3 := fun _ _ => rfl
    rw [e1]; omega
  · exact hh
  · have r2 := r0.back (ms := [true, true, true, true, true, true, true]) (D₀ := lex6s w.params x st tk e its tx pos [(b, frS w.params x t)])
      (D₁ := lex6s w.params x st1 tk1 e1 its1 tx pos1 [(b, frS2 w.params x t (t + 1 + (0 + i1)) .none)]) (Dn := [(b + 1 + (0 + m1 + 1), siObj (b + 1 + (0 + m1 + 2)) .none)]) rfl (Z := []) (fun _ h => by cases h) r'' rfl
    have r3 : Rp w.params ⟨h, (lex6 w.params x st tk e its tx pos).map (·.1), [F]⟩ h'' (lex6 w.params x st1 tk1 e1 its1 tx pos1 ++ [(b, frS2 w.params x t (t + 1 + (0 + i1)) .none), (b + 1 + (0 + m1 + 1), siObj (b + 1 + (0 + m1 + 2)) .none)]) b (1 + (0 + m1 + 3)) := r2
    have hBf := hf _ rfl
    show wpAny (Md w) (B.under (.func _ _)) (leaving _ (.ref _)) _ _ _
    have mem1 : (b, frS2 w.params x t (t + 1 + (0 + i1)) .none) ∈ lex6 w.params x st1 tk1 e1 its1 tx pos1 ++ [(b, frS2 w.params x t (t + 1 + (0 + i1)) .none), (b + 1 + (0 + m1 + 1), siObj (b + 1 + (0 + m1 + 2)) .none)] := List.mem_append_right _ List.mem_cons_self
    have mem2 : (b + 1 + (0 + m1 + 1), siObj (b + 1 + (0 + m1 + 2)) .none) ∈ lex6 w.params x st1 tk1 e1 its1 tx pos1 ++ [(b, frS2 w.params x t (t + 1 + (0 + i1)) .none), (b + 1 + (0 + m1 + 1), siObj (b + 1 + (0 + m1 + 2)) .none)] := List.mem_append_right _ (List.mem_cons_of_mem _ List.mem_cons_self)
    obtain ⟨oF, eF, dF⟩ := r3.zob F List.mem_cons_self
    obtain ⟨slF, yF⟩ := r3.semi F List.mem_cons_self oF eF
    refine leave_first (outer := [envF]) (L := b) (oe := siObj (b + 1 + (0 + m1 + 2)) .none) ?_ ?_ rfl (r3.own _ mem2) (si_fields _ _) rfl fun h3 s1 s2 s3 s4 => ?_
    · have e1 : ∀ c : Code, (B.under c).frames = pushEnvs c.envs B.frames := fun _ => rfl
      rw [e1, hBf]; rfl
    · refine ⟨nx_kind b, ⟨b, _, rfl, rfl, r3.own _ mem1, fun vs q => by cases q⟩, hk, ⟨F, _, hF, rfl, yF, dF⟩, trivial⟩
    · have r4 := r3.leave List.mem_cons_self hF9 s1 (fun b' o' n1 n2 => s2 b' o' n1 (by
        show b' ∉ List.filterMap (fun x : Env => x.frame) [_, envF]
        rw [List.filterMap_cons, List.filterMap_cons, hF]
        exact n2)) s3 s4
      have e4 : h''.objs.size = b + (1 + (0 + m1 + 3)) := r3.size
      have q := hR h3 g'' G'' (by rw [← e4]; exact r4)
      rw [← Nat.add_assoc t] at q
      exact q
end
/-! ## list(lexer) -/
theorem wpAny_unbind {M : Model} {A : Around} {E : Value → Shared → Prop} {s : Shared} {α β : Type} {m : Sem α} {k : α → β} {Q : β → Shared → Prop} (h : wpAny M A (m >>= fun y => pure (k y)) Q E s) : wpAny M A m (fun y s' => Q (k y) s') E s := by
  intro Γ p hΓ
  have z := h Γ p hΓ
  rw [Sem.wp_bind'] at z
  exact z
/-- a value that a tree hands on, within a larger run -/
theorem TreeF.use {w : World} {fr : Option (List Env)} {Z : List Addr} {P : Params} {N U b t m₀ i₀ m₁ i₁ : Nat} {α : Type} {m : Sem α} {k : α → PySem.Fin} {v : α} {D₀ D₁ Dn D : Dy} {h₀ : Bs} {h : Heap} {g : Array GenState} {d : Drawn} {o : OsState} {A : Around}
    (ms : List Bool) (T : TreeF fr Z w P N U (m >>= fun y => pure (k y)) D₀ (D₁ ++ Dn) (b + m₀) (t + i₀) m₁ i₁ (.ok (k v))) (hk : ∀ y, k v = k y → y = v) (r : Rp P h₀ h D b m₀) (e : pickB ms D = D₀) (hZ : ∀ a ∈ Z, a ∈ h₀.Z) (ha : D₁.map (·.1) = D₀.map (·.1))
    {J : Array GenState → Prop} (G : J g) (hN : A.depth ≤ N) (hU : A.units ≤ U) (hh : A.handled = none) (hf : ∀ l, fr = some l → A.frames = some l) {Q : α → Shared → Prop} {E : Value → Shared → Prop}
    (hQ : ∀ h' g', J g' → Rp P h₀ h' (putB ms D₁ D ++ Dn) b (m₀ + m₁) → Q v ⟨h', g', d, t + i₀ + i₁, o⟩) : wpAny (Md w) A m Q E ⟨h, g, d, t + i₀, o⟩ := by
  have r0 := r.sub (pickB_sub ms D) hZ
  rw [e] at r0
  refine wpAny_mono (wpAny_unbind (k := k) (Q := fun fin s' => ∀ y, fin = k y → Q y s') (E := E) (T h g d o A J G hN hU hh hf r0 _ _ fun h' g' G' r' => ?_)) (fun y s' q => q y rfl) (fun _ _ q => q)
  intro y hy
  rw [hk y hy]
  exact hQ h' g' G' (r.back e hZ r' ha)
noncomputable def extC (a : Addr) (x : Lx) : Code := .builtin "list.extend.loop" ⟨[.ref a, .ref x.L, .none], []⟩
section
variable {w : World}
theorem con_listInit {N U : Nat} (hN : N ≤ 790) (b t m1 i1 : Nat) (a : Addr) (x : Lx) (st tk pos st1 tk1 pos1 : Value) (e e1 : Int) (its its1 vs : List Value) (c : Nat) (tx : Str) (fr : Option (List Env)) (Z : List Addr)
    (hl : ConF fr Z w w.params N U (extC a x) (lex6s w.params x st tk e its tx pos [(a, liObj [] 2)]) (lex6s w.params x st1 tk1 e1 its1 tx pos1 [(a, liObj vs c)]) (b + 1) (t + 1) m1 i1 (.ok (.ret .none))) :
    ConF fr Z w w.params N U (.call (.builtin "list.__init__") ⟨[.ref a, .ref x.L], []⟩) (lex6s w.params x st tk e its tx pos [(a, liObj [] 0)]) (lex6s w.params x st1 tk1 e1 its1 tx pos1 [(a, liObj vs c)]) b t (1 + m1) (1 + i1) (.ok (.ret .none)) := by
  intro h g d o B J G hB hu hh hf rp R hR
  have hne : a ≠ x.L := by
    have nd := rp.nodup
    intro q
    subst q
    exact (List.nodup_cons.mp nd).1 (by simp [lex6s])
  have ha : (a, liObj [] 0) ∈ lex6s w.params x st tk e its tx pos [(a, liObj [] 0)] := by simp [lex6s]
  have hS := rp.own _ ha
  refine code_slot (T := "list") F.slot_list_init ⟨_, hS, rfl⟩ F.entry_list_init (F.args_list_init_2 _ _) ?_
  show wpAny _ B.in1 (do let old ← Builtin.List.listItems (.ref a); Builtin.List.listUpdate (.ref a) (fun _ => #[]); letGo old.toList.reverse; Builtin.List.listExtendWith (.ref a) (.ref x.L) .none) _ _ _
  refine wpAny_bind ?_
  unfold Builtin.List.listItems
  refine wpAny_bind (wpAny_seqItems hS rfl (wpAny_pure ?_))
  show wpAny _ B.in1 (updateSeq a (fun _ => #[]) >>= fun _ => letGo (#[] : Array Value).toList.reverse >>= fun _ => Builtin.List.listExtendWith (.ref a) (.ref x.L) .none) _ _ _
  refine wpAny_bind (wpAny_updateSeq hS rfl ?_)
  refine wpAny_bind (wpAny_letGo ?_)
  have r1 : Rp w.params ⟨h, (lex6s w.params x st tk e its tx pos [(a, liObj [] 0)]).map (·.1), Z⟩ (h.update a (Obj.mapSeq fun _ => #[])) (lex6s w.params x st tk e its tx pos [(a, liObj [] 0)]) b 0 := rp.update (j := 6) (p := (a, liObj [] 0)) rfl rfl
  generalize h.update a (Obj.mapSeq fun _ => (#[] : Array Value)) = h1 at r1
  have hL : (x.L, lexObj x) ∈ lex6s w.params x st tk e its tx pos [(a, liObj [] 0)] := by simp [lex6s]
  unfold Builtin.List.listExtendWith
  refine wpAny_bind ?_
  unfold PySem.typeOf
  refine wpAny_bind (wpAny_loadPart (r1.own _ hL) (wpAny_pure ?_))
  have q1 : Builtin.List.listSameRef (.ref a) (.ref x.L) = false := by simp [Builtin.List.listSameRef, hne]
  have q2 : ((lexObj x).cls == Value.type "list") = false := by show (Value.ref 732 == Value.type "list") = false; decide
  have q3 : ((lexObj x).cls == Value.type "tuple") = false := by show (Value.ref 732 == Value.type "tuple") = false; decide
  simp only [q1, q2, q3, Bool.or_false, Bool.false_eq_true, if_false]
  have TI := trItT (w := w) (N := N) (U := U + 10) (by omega) (b + 0) (t + 0) (mkZ x [0, 0, 0, 0, 0, a] [st, tk, pos] [tx] [e] [its])
  refine wpAny_bind (TI.use (m₀ := 0) (i₀ := 0) (m := PySem.pyIter (.ref x.L)) (k := fun y => PySem.Fin.done (.ret y)) (v := .ref x.L) (Dn := []) m6 (fun y hy => by cases hy; rfl) r1 rfl (fun _ h => by cases h) rfl G ?_ ?_ (show B.in1.handled = none from hh) (fun _ h => by cases h) fun h2 g2 G2 r2 => ?_)
  · exact hB
  · show B.units + 1 ≤ U + 10
    omega
  refine wpAny_bind (wpAny_holding ?_)
  have TL := trLhT (w := w) (N := N) (U := U + 10) (by omega) (b + (0 + 1)) (t + (0 + 1)) (mkZ x [0, 0, 0, 0, 0, a] [st, tk, pos] [tx] [e] [its])
  refine TL.use (m₀ := 0 + 1) (i₀ := 0 + 1) (m := Builtin.List.listLengthHint (.ref x.L)) (k := fun y => PySem.Fin.done (.ret (.bool y))) (v := true) (Dn := []) m6 (fun y hy => by cases hy; rfl) r2 rfl (fun _ h => by cases h) rfl G2 ?_ ?_ (show B.in1.handled = none from hh) (fun _ h => by cases h) fun h3 g3 G3 r3 => ?_
  · exact hB
  · show B.units + 1 ≤ U + 10
    omega
  simp only [Bool.true_or, if_true]
  refine wpAny_bind (wpAny_rule ?_)
  refine wpAny_bind ?_
  have r4 : Rp w.params ⟨h, (lex6s w.params x st tk e its tx pos [(a, liObj [] 0)]).map (·.1), Z⟩ h3 (lex6s w.params x st tk e its tx pos [(a, liObj [] 0)]) b (0 + 1 + 0) := r3
  show wpAny _ B.in1 (updateSeq a (·.push .none) >>= fun _ => updateSeq a (·.pop)) _ _ _
  refine wpAny_bind (wpAny_updateSeq (r4.own _ ha) rfl ?_)
  have r5 : Rp w.params ⟨h, (lex6s w.params x st tk e its tx pos [(a, liObj [] 0)]).map (·.1), Z⟩ (h3.update a (Obj.mapSeq (·.push .none))) (lex6s w.params x st tk e its tx pos [(a, liObj [.none] 1)]) b (0 + 1 + 0) :=
    r4.update (j := 6) (p := (a, liObj [] 0)) rfl rfl
  have ha5 : (a, liObj [.none] 1) ∈ lex6s w.params x st tk e its tx pos [(a, liObj [.none] 1)] := by simp [lex6s]
  refine wpAny_updateSeq (hz := by seq_fits) (r5.own _ ha5) rfl ?_
  have r6 : Rp w.params ⟨h, (lex6s w.params x st tk e its tx pos [(a, liObj [] 0)]).map (·.1), Z⟩ ((h3.update a (Obj.mapSeq (·.push .none))).update a (Obj.mapSeq (·.pop))) (lex6s w.params x st tk e its tx pos [(a, liObj [] 2)]) b (0 + 1 + 0) :=
    r5.update (j := 6) (p := (a, liObj [.none] 1)) rfl rfl
  refine wpAny_pure ⟨plainId_quiet F.plain_extend_loop _, ?_⟩
  refine hl _ g3 d o B J G3 hB hu hh hf (r6.sub (List.Sublist.refl _) (fun _ h => h)) _ fun h7 g7 G7 r7 => ?_
  have r8 := r6.back (ms := [true, true, true, true, true, true, true]) (D₀ := lex6s w.params x st tk e its tx pos [(a, liObj [] 2)])
      (D₁ := lex6s w.params x st1 tk1 e1 its1 tx pos1 [(a, liObj vs c)]) (Dn := []) rfl (fun _ h => h) r7 rfl
  have q := hR h7 g7 G7 (by
    rw [show 1 + m1 = 0 + 1 + 0 + m1 from by omega]
    exact r8)
  rw [← Nat.add_assoc t] at q
  exact q
end
noncomputable def orsPush0 : List Rf := [.s, .d 5, .d 5, .d 5, .d 5, .d 5, .d 0, .s, .s, .s, .d 0, .s, .s, .s, .d 0, .d 0, .s, .d 1, .b false, .d 5, .d 0, .s, .s, .s, .d 0, .s, .s, .s, .d 0, .d 0, .s, .d 1, .d 2, .d 2, .d 2, .d 2, .d 5, .d 2, .d 2, .d 2, .d 2, .d 2, .d 2]
noncomputable def lhsPush0 (pg : Program) (W : Params) (b t : Nat) (z : Zs) := resM m5 (enter W (go pg W b t true noCt 116) orsPush0 (.call (.ref 671) ⟨[.ref z.x.L, .str (z.s 1) (z.n 0)], []⟩) kx (lexD W z.x (z.v 0) (z.v 1) (z.i 0) [] (z.s 0) (z.v 2)) 0 0 [])
noncomputable def rhsPush0 (pg : Program) (W : Params) (b t : Nat) (z : Zs) : Option (Except Value PySem.Fin × Dy × Nat × Nat × List Ob) := some (.ok (.done (.ret .none)), lexD W z.x (z.v 0) (z.v 1) ((z.i 0) + 1) [.str (z.s 1) (z.n 0)] (z.s 0) (z.v 2), 1, 5, toldC noCt [z.x.L, z.x.d, z.x.q, z.x.io, z.x.iod, (b + 0)] orsPush0 [.cmp 4 0 1 false] [])
end Mine
lay_z Mine.lhsPush0 Mine.rhsPush0
namespace Mine
theorem chkPush0 (pg : Program) (P : Params) (r : Bool) (b t : Nat) (z : Zs) : lhsPush0 pg (wf P r) b t z = rhsPush0 pg (wf P r) b t z := by
  rw [PySem.W.ZFast.ze15120933104821987014, PySem.W.ZFast.ze17860680779136626980]
  cases r <;> kernel_rfl
theorem conPush0 {w : World} {N U : Nat} (hN : N ≤ 800) (b t : Nat) (z : Zs) (hsd : ∀ y ∈ ([.cmp 4 0 1 false] : List Ob), y.ok) : ConF none [] w w.params N U (.call (.ref 671) ⟨[.ref z.x.L, .str (z.s 1) (z.n 0)], []⟩) (lexD w.params z.x (z.v 0) (z.v 1) (z.i 0) [] (z.s 0) (z.v 2)) (lexD w.params z.x (z.v 0) (z.v 1) ((z.i 0) + 1) [.str (z.s 1) (z.n 0)] (z.s 0) (z.v 2)) b t (1) (5) (.ok (.ret .none)) := by
  have h := chkPush0 pw w.params (w.params.followText row1) b t z
  rw [wf_self] at h
  exact conF_of_run rfl (spOk w) noCt_ok (fun _ h => by cases h) (fun _ h => by cases h) hN h rfl (toldC_ok _ _ _ hsd (fun _ h => by cases h))
noncomputable def orsPush1 : List Rf := [.s, .d 5, .d 5, .d 5, .d 5, .d 5, .d 0, .s, .s, .s, .d 0, .s, .s, .s, .d 0, .d 0, .s, .d 1, .b false, .d 5, .d 0, .s, .s, .s, .d 0, .s, .s, .s, .d 0, .d 0, .s, .d 1, .d 2, .d 2, .d 2, .d 2, .d 5, .d 2, .d 2, .d 2, .d 2, .d 2, .d 2]
noncomputable def lhsPush1 (pg : Program) (W : Params) (b t : Nat) (z : Zs) := resM m5 (enter W (go pg W b t true noCt 116) orsPush1 (.call (.ref 671) ⟨[.ref z.x.L, .str (z.s 1) (z.n 0)], []⟩) kx (lexD W z.x (z.v 0) (z.v 1) (z.i 0) [(z.v 3)] (z.s 0) (z.v 2)) 0 0 [])
noncomputable def rhsPush1 (pg : Program) (W : Params) (b t : Nat) (z : Zs) : Option (Except Value PySem.Fin × Dy × Nat × Nat × List Ob) := some (.ok (.done (.ret .none)), lexD W z.x (z.v 0) (z.v 1) ((z.i 0) + 1) [.str (z.s 1) (z.n 0), (z.v 3)] (z.s 0) (z.v 2), 1, 5, toldC noCt [z.x.L, z.x.d, z.x.q, z.x.io, z.x.iod, (b + 0)] orsPush1 [.cmp 4 0 1 false] [])
end Mine
lay_z Mine.lhsPush1 Mine.rhsPush1
namespace Mine
theorem chkPush1 (pg : Program) (P : Params) (r : Bool) (b t : Nat) (z : Zs) : lhsPush1 pg (wf P r) b t z = rhsPush1 pg (wf P r) b t z := by
  rw [PySem.W.ZFast.ze389721500860871471, PySem.W.ZFast.ze17688594279412740121]
  cases r <;> kernel_rfl
theorem conPush1 {w : World} {N U : Nat} (hN : N ≤ 800) (b t : Nat) (z : Zs) (hsd : ∀ y ∈ ([.cmp 4 0 1 false] : List Ob), y.ok) : ConF none [] w w.params N U (.call (.ref 671) ⟨[.ref z.x.L, .str (z.s 1) (z.n 0)], []⟩) (lexD w.params z.x (z.v 0) (z.v 1) (z.i 0) [(z.v 3)] (z.s 0) (z.v 2)) (lexD w.params z.x (z.v 0) (z.v 1) ((z.i 0) + 1) [.str (z.s 1) (z.n 0), (z.v 3)] (z.s 0) (z.v 2)) b t (1) (5) (.ok (.ret .none)) := by
  have h := chkPush1 pw w.params (w.params.followText row1) b t z
  rw [wf_self] at h
  exact conF_of_run rfl (spOk w) noCt_ok (fun _ h => by cases h) (fun _ h => by cases h) hN h rfl (toldC_ok _ _ _ hsd (fun _ h => by cases h))
noncomputable def orsPush2 : List Rf := [.s, .d 5, .d 5, .d 5, .d 5, .d 5, .d 0, .s, .s, .s, .d 0, .s, .s, .s, .d 0, .d 0, .s, .d 1, .b false, .d 5, .d 0, .s, .s, .s, .d 0, .s, .s, .s, .d 0, .d 0, .s, .d 1, .d 2, .d 2, .d 2, .d 2, .d 5, .d 2, .d 2, .d 2, .d 2, .d 2, .d 2]
noncomputable def lhsPush2 (pg : Program) (W : Params) (b t : Nat) (z : Zs) := resM m5 (enter W (go pg W b t true noCt 116) orsPush2 (.call (.ref 671) ⟨[.ref z.x.L, .str (z.s 1) (z.n 0)], []⟩) kx (lexD W z.x (z.v 0) (z.v 1) (z.i 0) [(z.v 3), (z.v 4)] (z.s 0) (z.v 2)) 0 0 [])
noncomputable def rhsPush2 (pg : Program) (W : Params) (b t : Nat) (z : Zs) : Option (Except Value PySem.Fin × Dy × Nat × Nat × List Ob) := some (.ok (.done (.ret .none)), lexD W z.x (z.v 0) (z.v 1) ((z.i 0) + 1) [.str (z.s 1) (z.n 0), (z.v 3), (z.v 4)] (z.s 0) (z.v 2), 1, 5, toldC noCt [z.x.L, z.x.d, z.x.q, z.x.io, z.x.iod, (b + 0)] orsPush2 [.cmp 4 0 1 false] [])
end Mine
lay_z Mine.lhsPush2 Mine.rhsPush2
namespace Mine
theorem chkPush2 (pg : Program) (P : Params) (r : Bool) (b t : Nat) (z : Zs) : lhsPush2 pg (wf P r) b t z = rhsPush2 pg (wf P r) b t z := by
  rw [PySem.W.ZFast.ze3478255585168881369, PySem.W.ZFast.ze6945962807797980121]
  cases r <;> kernel_rfl
theorem conPush2 {w : World} {N U : Nat} (hN : N ≤ 800) (b t : Nat) (z : Zs) (hsd : ∀ y ∈ ([.cmp 4 0 1 false] : List Ob), y.ok) : ConF none [] w w.params N U (.call (.ref 671) ⟨[.ref z.x.L, .str (z.s 1) (z.n 0)], []⟩) (lexD w.params z.x (z.v 0) (z.v 1) (z.i 0) [(z.v 3), (z.v 4)] (z.s 0) (z.v 2)) (lexD w.params z.x (z.v 0) (z.v 1) ((z.i 0) + 1) [.str (z.s 1) (z.n 0), (z.v 3), (z.v 4)] (z.s 0) (z.v 2)) b t (1) (5) (.ok (.ret .none)) := by
  have h := chkPush2 pw w.params (w.params.followText row1) b t z
  rw [wf_self] at h
  exact conF_of_run rfl (spOk w) noCt_ok (fun _ h => by cases h) (fun _ h => by cases h) hN h rfl (toldC_ok _ _ _ hsd (fun _ h => by cases h))
noncomputable def orsPush3 : List Rf := [.s, .d 5, .d 5, .d 5, .d 5, .d 5, .d 0, .s, .s, .s, .d 0, .s, .s, .s, .d 0, .d 0, .s, .d 1, .b false, .d 5, .d 0, .s, .s, .s, .d 0, .s, .s, .s, .d 0, .d 0, .s, .d 1, .d 2, .d 2, .d 2, .d 2, .d 5, .d 2, .d 2, .d 2, .d 2, .d 2, .d 2]
noncomputable def lhsPush3 (pg : Program) (W : Params) (b t : Nat) (z : Zs) := resM m5 (enter W (go pg W b t true noCt 116) orsPush3 (.call (.ref 671) ⟨[.ref z.x.L, .str (z.s 1) (z.n 0)], []⟩) kx (lexD W z.x (z.v 0) (z.v 1) (z.i 0) [(z.v 3), (z.v 4), (z.v 5)] (z.s 0) (z.v 2)) 0 0 [])
noncomputable def rhsPush3 (pg : Program) (W : Params) (b t : Nat) (z : Zs) : Option (Except Value PySem.Fin × Dy × Nat × Nat × List Ob) := some (.ok (.done (.ret .none)), lexD W z.x (z.v 0) (z.v 1) ((z.i 0) + 1) [.str (z.s 1) (z.n 0), (z.v 3), (z.v 4), (z.v 5)] (z.s 0) (z.v 2), 1, 5, toldC noCt [z.x.L, z.x.d, z.x.q, z.x.io, z.x.iod, (b + 0)] orsPush3 [.cmp 4 0 1 false] [])
end Mine
lay_z Mine.lhsPush3 Mine.rhsPush3
namespace Mine
theorem chkPush3 (pg : Program) (P : Params) (r : Bool) (b t : Nat) (z : Zs) : lhsPush3 pg (wf P r) b t z = rhsPush3 pg (wf P r) b t z := by
  rw [PySem.W.ZFast.ze16632105122122810341, PySem.W.ZFast.ze5127163692896718492]
  cases r <;> kernel_rfl
theorem conPush3 {w : World} {N U : Nat} (hN : N ≤ 800) (b t : Nat) (z : Zs) (hsd : ∀ y ∈ ([.cmp 4 0 1 false] : List Ob), y.ok) : ConF none [] w w.params N U (.call (.ref 671) ⟨[.ref z.x.L, .str (z.s 1) (z.n 0)], []⟩) (lexD w.params z.x (z.v 0) (z.v 1) (z.i 0) [(z.v 3), (z.v 4), (z.v 5)] (z.s 0) (z.v 2)) (lexD w.params z.x (z.v 0) (z.v 1) ((z.i 0) + 1) [.str (z.s 1) (z.n 0), (z.v 3), (z.v 4), (z.v 5)] (z.s 0) (z.v 2)) b t (1) (5) (.ok (.ret .none)) := by
  have h := chkPush3 pw w.params (w.params.followText row1) b t z
  rw [wf_self] at h
  exact conF_of_run rfl (spOk w) noCt_ok (fun _ h => by cases h) (fun _ h => by cases h) hN h rfl (toldC_ok _ _ _ hsd (fun _ h => by cases h))
noncomputable def orsPush4 : List Rf := [.s, .d 5, .d 5, .d 5, .d 5, .d 5, .d 0, .s, .s, .s, .d 0, .s, .s, .s, .d 0, .d 0, .s, .d 1, .b false, .d 5, .d 0, .s, .s, .s, .d 0, .s, .s, .s, .d 0, .d 0, .s, .d 1, .d 2, .d 2, .d 2, .d 2, .d 5, .d 2, .d 2, .d 2, .d 2, .d 2, .d 2]
noncomputable def lhsPush4 (pg : Program) (W : Params) (b t : Nat) (z : Zs) := resM m5 (enter W (go pg W b t true noCt 116) orsPush4 (.call (.ref 671) ⟨[.ref z.x.L, .str (z.s 1) (z.n 0)], []⟩) kx (lexD W z.x (z.v 0) (z.v 1) (z.i 0) [(z.v 3), (z.v 4), (z.v 5), (z.v 6)] (z.s 0) (z.v 2)) 0 0 [])
noncomputable def rhsPush4 (pg : Program) (W : Params) (b t : Nat) (z : Zs) : Option (Except Value PySem.Fin × Dy × Nat × Nat × List Ob) := some (.ok (.done (.ret .none)), lexD W z.x (z.v 0) (z.v 1) ((z.i 0) + 1) [.str (z.s 1) (z.n 0), (z.v 3), (z.v 4), (z.v 5), (z.v 6)] (z.s 0) (z.v 2), 1, 5, toldC noCt [z.x.L, z.x.d, z.x.q, z.x.io, z.x.iod, (b + 0)] orsPush4 [.cmp 4 0 1 false] [])
end Mine
lay_z Mine.lhsPush4 Mine.rhsPush4
namespace Mine
theorem chkPush4 (pg : Program) (P : Params) (r : Bool) (b t : Nat) (z : Zs) : lhsPush4 pg (wf P r) b t z = rhsPush4 pg (wf P r) b t z := by
  rw [PySem.W.ZFast.ze3014471285613008567, PySem.W.ZFast.ze5070396095065034239]
  cases r <;> kernel_rfl
theorem conPush4 {w : World} {N U : Nat} (hN : N ≤ 800) (b t : Nat) (z : Zs) (hsd : ∀ y ∈ ([.cmp 4 0 1 false] : List Ob), y.ok) : ConF none [] w w.params N U (.call (.ref 671) ⟨[.ref z.x.L, .str (z.s 1) (z.n 0)], []⟩) (lexD w.params z.x (z.v 0) (z.v 1) (z.i 0) [(z.v 3), (z.v 4), (z.v 5), (z.v 6)] (z.s 0) (z.v 2)) (lexD w.params z.x (z.v 0) (z.v 1) ((z.i 0) + 1) [.str (z.s 1) (z.n 0), (z.v 3), (z.v 4), (z.v 5), (z.v 6)] (z.s 0) (z.v 2)) b t (1) (5) (.ok (.ret .none)) := by
  have h := chkPush4 pw w.params (w.params.followText row1) b t z
  rw [wf_self] at h
  exact conF_of_run rfl (spOk w) noCt_ok (fun _ h => by cases h) (fun _ h => by cases h) hN h rfl (toldC_ok _ _ _ hsd (fun _ h => by cases h))
noncomputable def orsPush5 : List Rf := [.s, .d 5, .d 5, .d 5, .d 5, .d 5, .d 0, .s, .s, .s, .d 0, .s, .s, .s, .d 0, .d 0, .s, .d 1, .b false, .d 5, .d 0, .s, .s, .s, .d 0, .s, .s, .s, .d 0, .d 0, .s, .d 1, .d 2, .d 2, .d 2, .d 2, .d 5, .d 2, .d 2, .d 2, .d 2, .d 2, .d 2]
noncomputable def lhsPush5 (pg : Program) (W : Params) (b t : Nat) (z : Zs) := resM m5 (enter W (go pg W b t true noCt 116) orsPush5 (.call (.ref 671) ⟨[.ref z.x.L, .str (z.s 1) (z.n 0)], []⟩) kx (lexD W z.x (z.v 0) (z.v 1) (z.i 0) [(z.v 3), (z.v 4), (z.v 5), (z.v 6), (z.v 7)] (z.s 0) (z.v 2)) 0 0 [])
noncomputable def rhsPush5 (pg : Program) (W : Params) (b t : Nat) (z : Zs) : Option (Except Value PySem.Fin × Dy × Nat × Nat × List Ob) := some (.ok (.done (.ret .none)), lexD W z.x (z.v 0) (z.v 1) ((z.i 0) + 1) [.str (z.s 1) (z.n 0), (z.v 3), (z.v 4), (z.v 5), (z.v 6), (z.v 7)] (z.s 0) (z.v 2), 1, 5, toldC noCt [z.x.L, z.x.d, z.x.q, z.x.io, z.x.iod, (b + 0)] orsPush5 [.cmp 4 0 1 false] [])
end Mine
lay_z Mine.lhsPush5 Mine.rhsPush5
namespace Mine
theorem chkPush5 (pg : Program) (P : Params) (r : Bool) (b t : Nat) (z : Zs) : lhsPush5 pg (wf P r) b t z = rhsPush5 pg (wf P r) b t z := by
  rw [PySem.W.ZFast.ze16997286226871375368, PySem.W.ZFast.ze2529793593374358990]
  cases r <;> kernel_rfl
theorem conPush5 {w : World} {N U : Nat} (hN : N ≤ 800) (b t : Nat) (z : Zs) (hsd : ∀ y ∈ ([.cmp 4 0 1 false] : List Ob), y.ok) : ConF none [] w w.params N U (.call (.ref 671) ⟨[.ref z.x.L, .str (z.s 1) (z.n 0)], []⟩) (lexD w.params z.x (z.v 0) (z.v 1) (z.i 0) [(z.v 3), (z.v 4), (z.v 5), (z.v 6), (z.v 7)] (z.s 0) (z.v 2)) (lexD w.params z.x (z.v 0) (z.v 1) ((z.i 0) + 1) [.str (z.s 1) (z.n 0), (z.v 3), (z.v 4), (z.v 5), (z.v 6), (z.v 7)] (z.s 0) (z.v 2)) b t (1) (5) (.ok (.ret .none)) := by
  have h := chkPush5 pw w.params (w.params.followText row1) b t z
  rw [wf_self] at h
  exact conF_of_run rfl (spOk w) noCt_ok (fun _ h => by cases h) (fun _ h => by cases h) hN h rfl (toldC_ok _ _ _ hsd (fun _ h => by cases h))
noncomputable def orsPush6 : List Rf := [.s, .d 5, .d 5, .d 5, .d 5, .d 5, .d 0, .s, .s, .s, .d 0, .s, .s, .s, .d 0, .d 0, .s, .d 1, .b false, .d 5, .d 0, .s, .s, .s, .d 0, .s, .s, .s, .d 0, .d 0, .s, .d 1, .d 2, .d 2, .d 2, .d 2, .d 5, .d 2, .d 2, .d 2, .d 2, .d 2, .d 2]
noncomputable def lhsPush6 (pg : Program) (W : Params) (b t : Nat) (z : Zs) := resM m5 (enter W (go pg W b t true noCt 116) orsPush6 (.call (.ref 671) ⟨[.ref z.x.L, .str (z.s 1) (z.n 0)], []⟩) kx (lexD W z.x (z.v 0) (z.v 1) (z.i 0) [(z.v 3), (z.v 4), (z.v 5), (z.v 6), (z.v 7), (z.v 8)] (z.s 0) (z.v 2)) 0 0 [])
noncomputable def rhsPush6 (pg : Program) (W : Params) (b t : Nat) (z : Zs) : Option (Except Value PySem.Fin × Dy × Nat × Nat × List Ob) := some (.ok (.done (.ret .none)), lexD W z.x (z.v 0) (z.v 1) ((z.i 0) + 1) [.str (z.s 1) (z.n 0), (z.v 3), (z.v 4), (z.v 5), (z.v 6), (z.v 7), (z.v 8)] (z.s 0) (z.v 2), 1, 5, toldC noCt [z.x.L, z.x.d, z.x.q, z.x.io, z.x.iod, (b + 0)] orsPush6 [.cmp 4 0 1 false] [])
end Mine
lay_z Mine.lhsPush6 Mine.rhsPush6
namespace Mine
theorem chkPush6 (pg : Program) (P : Params) (r : Bool) (b t : Nat) (z : Zs) : lhsPush6 pg (wf P r) b t z = rhsPush6 pg (wf P r) b t z := by
  rw [PySem.W.ZFast.ze14335583531786457531, PySem.W.ZFast.ze45106822428751184]
  cases r <;> kernel_rfl
theorem conPush6 {w : World} {N U : Nat} (hN : N ≤ 800) (b t : Nat) (z : Zs) (hsd : ∀ y ∈ ([.cmp 4 0 1 false] : List Ob), y.ok) : ConF none [] w w.params N U (.call (.ref 671) ⟨[.ref z.x.L, .str (z.s 1) (z.n 0)], []⟩) (lexD w.params z.x (z.v 0) (z.v 1) (z.i 0) [(z.v 3), (z.v 4), (z.v 5), (z.v 6), (z.v 7), (z.v 8)] (z.s 0) (z.v 2)) (lexD w.params z.x (z.v 0) (z.v 1) ((z.i 0) + 1) [.str (z.s 1) (z.n 0), (z.v 3), (z.v 4), (z.v 5), (z.v 6), (z.v 7), (z.v 8)] (z.s 0) (z.v 2)) b t (1) (5) (.ok (.ret .none)) := by
  have h := chkPush6 pw w.params (w.params.followText row1) b t z
  rw [wf_self] at h
  exact conF_of_run rfl (spOk w) noCt_ok (fun _ h => by cases h) (fun _ h => by cases h) hN h rfl (toldC_ok _ _ _ hsd (fun _ h => by cases h))
noncomputable def orsPush7 : List Rf := [.s, .d 5, .d 5, .d 5, .d 5, .d 5, .d 0, .s, .s, .s, .d 0, .s, .s, .s, .d 0, .d 0, .s, .d 1, .b false, .d 5, .d 0, .s, .s, .s, .d 0, .s, .s, .s, .d 0, .d 0, .s, .d 1, .d 2, .d 2, .d 2, .d 2, .d 5, .d 2, .d 2, .d 2, .d 2, .d 2, .d 2]
noncomputable def lhsPush7 (pg : Program) (W : Params) (b t : Nat) (z : Zs) := resM m5 (enter W (go pg W b t true noCt 116) orsPush7 (.call (.ref 671) ⟨[.ref z.x.L, .str (z.s 1) (z.n 0)], []⟩) kx (lexD W z.x (z.v 0) (z.v 1) (z.i 0) [(z.v 3), (z.v 4), (z.v 5), (z.v 6), (z.v 7), (z.v 8), (z.v 9)] (z.s 0) (z.v 2)) 0 0 [])
noncomputable def rhsPush7 (pg : Program) (W : Params) (b t : Nat) (z : Zs) : Option (Except Value PySem.Fin × Dy × Nat × Nat × List Ob) := some (.ok (.done (.ret .none)), lexD W z.x (z.v 0) (z.v 1) ((z.i 0) + 1) [.str (z.s 1) (z.n 0), (z.v 3), (z.v 4), (z.v 5), (z.v 6), (z.v 7), (z.v 8), (z.v 9)] (z.s 0) (z.v 2), 1, 5, toldC noCt [z.x.L, z.x.d, z.x.q, z.x.io, z.x.iod, (b + 0)] orsPush7 [.cmp 4 0 1 false] [])
end Mine
lay_z Mine.lhsPush7 Mine.rhsPush7
namespace Mine
theorem chkPush7 (pg : Program) (P : Params) (r : Bool) (b t : Nat) (z : Zs) : lhsPush7 pg (wf P r) b t z = rhsPush7 pg (wf P r) b t z := by
  rw [PySem.W.ZFast.ze15190025202386629798, PySem.W.ZFast.ze11421668897830506500]
  cases r <;> kernel_rfl
theorem conPush7 {w : World} {N U : Nat} (hN : N ≤ 800) (b t : Nat) (z : Zs) (hsd : ∀ y ∈ ([.cmp 4 0 1 false] : List Ob), y.ok) : ConF none [] w w.params N U (.call (.ref 671) ⟨[.ref z.x.L, .str (z.s 1) (z.n 0)], []⟩) (lexD w.params z.x (z.v 0) (z.v 1) (z.i 0) [(z.v 3), (z.v 4), (z.v 5), (z.v 6), (z.v 7), (z.v 8), (z.v 9)] (z.s 0) (z.v 2)) (lexD w.params z.x (z.v 0) (z.v 1) ((z.i 0) + 1) [.str (z.s 1) (z.n 0), (z.v 3), (z.v 4), (z.v 5), (z.v 6), (z.v 7), (z.v 8), (z.v 9)] (z.s 0) (z.v 2)) b t (1) (5) (.ok (.ret .none)) := by
  have h := chkPush7 pw w.params (w.params.followText row1) b t z
  rw [wf_self] at h
  exact conF_of_run rfl (spOk w) noCt_ok (fun _ h => by cases h) (fun _ h => by cases h) hN h rfl (toldC_ok _ _ _ hsd (fun _ h => by cases h))
noncomputable def orsPop0 : List Rf := [.s, .d 5, .d 5, .d 5, .d 0, .s, .s, .s, .d 0, .s, .s, .s, .d 0, .d 0, .s, .d 1, .d 2, .d 2, .d 2, .d 2, .d 2, .d 5, .d 0, .s, .s, .s, .d 0, .s, .s, .s, .d 0, .d 0, .s, .d 1, .d 2, .d 2, .d 2, .d 2, .d 2, .d 2, .d 2, .d 2, .d 2, .d 2, .d 5, .d 5, .d 5, .d 0, .s, .s, .s, .d 0, .s, .s, .s, .d 0, .d 0, .s, .d 1, .b false, .d 5]
noncomputable def lhsPop0 (pg : Program) (W : Params) (b t : Nat) (z : Zs) := resM m5 (enter W (go pg W b t true noCt 154) orsPop0 (.call (.ref 693) ⟨[.ref z.x.L], []⟩) kx (lexD W z.x (z.v 0) (z.v 1) (z.i 0) [.str (z.s 1) (z.n 0)] (z.s 0) (z.v 2)) 0 0 [])
noncomputable def rhsPop0 (pg : Program) (W : Params) (b t : Nat) (z : Zs) : Option (Except Value PySem.Fin × Dy × Nat × Nat × List Ob) := some (.ok (.done (.ret (.str (z.s 1) (z.n 0)))), lexD W z.x (z.v 0) (z.v 1) ((z.i 0) + 1) [] (z.s 0) (z.v 2), 1, 8, toldC noCt [z.x.L, z.x.d, z.x.q, z.x.io, z.x.iod, (b + 0)] orsPop0 [.cmp 4 0 1 false] [])
end Mine
lay_z Mine.lhsPop0 Mine.rhsPop0
namespace Mine
theorem chkPop0 (pg : Program) (P : Params) (r : Bool) (b t : Nat) (z : Zs) : lhsPop0 pg (wf P r) b t z = rhsPop0 pg (wf P r) b t z := by
  rw [PySem.W.ZFast.ze12642751754435086644, PySem.W.ZFast.ze6781761623996494241]
  cases r <;> kernel_rfl
theorem conPop0 {w : World} {N U : Nat} (hN : N ≤ 800) (b t : Nat) (z : Zs) (hsd : ∀ y ∈ ([.cmp 4 0 1 false] : List Ob), y.ok) : ConF none [] w w.params N U (.call (.ref 693) ⟨[.ref z.x.L], []⟩) (lexD w.params z.x (z.v 0) (z.v 1) (z.i 0) [.str (z.s 1) (z.n 0)] (z.s 0) (z.v 2)) (lexD w.params z.x (z.v 0) (z.v 1) ((z.i 0) + 1) [] (z.s 0) (z.v 2)) b t (1) (8) (.ok (.ret (.str (z.s 1) (z.n 0)))) := by
  have h := chkPop0 pw w.params (w.params.followText row1) b t z
  rw [wf_self] at h
  exact conF_of_run rfl (spOk w) noCt_ok (fun _ h => by cases h) (fun _ h => by cases h) hN h rfl (toldC_ok _ _ _ hsd (fun _ h => by cases h))
noncomputable def orsPop1 : List Rf := [.s, .d 5, .d 5, .d 5, .d 0, .s, .s, .s, .d 0, .s, .s, .s, .d 0, .d 0, .s, .d 1, .d 2, .d 2, .d 2, .d 2, .d 2, .d 5, .d 0, .s, .s, .s, .d 0, .s, .s, .s, .d 0, .d 0, .s, .d 1, .d 2, .d 2, .d 2, .d 2, .d 2, .d 2, .d 2, .d 2, .d 2, .d 2, .d 5, .d 5, .d 5, .d 0, .s, .s, .s, .d 0, .s, .s, .s, .d 0, .d 0, .s, .d 1, .b false, .d 5]
noncomputable def lhsPop1 (pg : Program) (W : Params) (b t : Nat) (z : Zs) := resM m5 (enter W (go pg W b t true noCt 154) orsPop1 (.call (.ref 693) ⟨[.ref z.x.L], []⟩) kx (lexD W z.x (z.v 0) (z.v 1) (z.i 0) [.str (z.s 1) (z.n 0), (z.v 3)] (z.s 0) (z.v 2)) 0 0 [])
noncomputable def rhsPop1 (pg : Program) (W : Params) (b t : Nat) (z : Zs) : Option (Except Value PySem.Fin × Dy × Nat × Nat × List Ob) := some (.ok (.done (.ret (.str (z.s 1) (z.n 0)))), lexD W z.x (z.v 0) (z.v 1) ((z.i 0) + 1) [(z.v 3)] (z.s 0) (z.v 2), 1, 8, toldC noCt [z.x.L, z.x.d, z.x.q, z.x.io, z.x.iod, (b + 0)] orsPop1 [.cmp 4 0 1 false] [])
end Mine
lay_z Mine.lhsPop1 Mine.rhsPop1
namespace Mine
theorem chkPop1 (pg : Program) (P : Params) (r : Bool) (b t : Nat) (z : Zs) : lhsPop1 pg (wf P r) b t z = rhsPop1 pg (wf P r) b t z := by
  rw [PySem.W.ZFast.ze14109981328676000229, PySem.W.ZFast.ze3692184833962647012]
  cases r <;> kernel_rfl
theorem conPop1 {w : World} {N U : Nat} (hN : N ≤ 800) (b t : Nat) (z : Zs) (hsd : ∀ y ∈ ([.cmp 4 0 1 false] : List Ob), y.ok) : ConF none [] w w.params N U (.call (.ref 693) ⟨[.ref z.x.L], []⟩) (lexD w.params z.x (z.v 0) (z.v 1) (z.i 0) [.str (z.s 1) (z.n 0), (z.v 3)] (z.s 0) (z.v 2)) (lexD w.params z.x (z.v 0) (z.v 1) ((z.i 0) + 1) [(z.v 3)] (z.s 0) (z.v 2)) b t (1) (8) (.ok (.ret (.str (z.s 1) (z.n 0)))) := by
  have h := chkPop1 pw w.params (w.params.followText row1) b t z
  rw [wf_self] at h
  exact conF_of_run rfl (spOk w) noCt_ok (fun _ h => by cases h) (fun _ h => by cases h) hN h rfl (toldC_ok _ _ _ hsd (fun _ h => by cases h))
noncomputable def orsPop2 : List Rf := [.s, .d 5, .d 5, .d 5, .d 0, .s, .s, .s, .d 0, .s, .s, .s, .d 0, .d 0, .s, .d 1, .d 2, .d 2, .d 2, .d 2, .d 2, .d 5, .d 0, .s, .s, .s, .d 0, .s, .s, .s, .d 0, .d 0, .s, .d 1, .d 2, .d 2, .d 2, .d 2, .d 2, .d 2, .d 2, .d 2, .d 2, .d 2, .d 5, .d 5, .d 5, .d 0, .s, .s, .s, .d 0, .s, .s, .s, .d 0, .d 0, .s, .d 1, .b false, .d 5]
noncomputable def lhsPop2 (pg : Program) (W : Params) (b t : Nat) (z : Zs) := resM m5 (enter W (go pg W b t true noCt 154) orsPop2 (.call (.ref 693) ⟨[.ref z.x.L], []⟩) kx (lexD W z.x (z.v 0) (z.v 1) (z.i 0) [.str (z.s 1) (z.n 0), (z.v 3), (z.v 4)] (z.s 0) (z.v 2)) 0 0 [])
noncomputable def rhsPop2 (pg : Program) (W : Params) (b t : Nat) (z : Zs) : Option (Except Value PySem.Fin × Dy × Nat × Nat × List Ob) := some (.ok (.done (.ret (.str (z.s 1) (z.n 0)))), lexD W z.x (z.v 0) (z.v 1) ((z.i 0) + 1) [(z.v 3), (z.v 4)] (z.s 0) (z.v 2), 1, 8, toldC noCt [z.x.L, z.x.d, z.x.q, z.x.io, z.x.iod, (b + 0)] orsPop2 [.cmp 4 0 1 false] [])
end Mine
lay_z Mine.lhsPop2 Mine.rhsPop2
namespace Mine
theorem chkPop2 (pg : Program) (P : Params) (r : Bool) (b t : Nat) (z : Zs) : lhsPop2 pg (wf P r) b t z = rhsPop2 pg (wf P r) b t z := by
  rw [PySem.W.ZFast.ze12417354863417674844, PySem.W.ZFast.ze18349142612592805629]
  cases r <;> kernel_rfl
theorem conPop2 {w : World} {N U : Nat} (hN : N ≤ 800) (b t : Nat) (z : Zs) (hsd : ∀ y ∈ ([.cmp 4 0 1 false] : List Ob), y.ok) : ConF none [] w w.params N U (.call (.ref 693) ⟨[.ref z.x.L], []⟩) (lexD w.params z.x (z.v 0) (z.v 1) (z.i 0) [.str (z.s 1) (z.n 0), (z.v 3), (z.v 4)] (z.s 0) (z.v 2)) (lexD w.params z.x (z.v 0) (z.v 1) ((z.i 0) + 1) [(z.v 3), (z.v 4)] (z.s 0) (z.v 2)) b t (1) (8) (.ok (.ret (.str (z.s 1) (z.n 0)))) := by
  have h := chkPop2 pw w.params (w.params.followText row1) b t z
  rw [wf_self] at h
  exact conF_of_run rfl (spOk w) noCt_ok (fun _ h => by cases h) (fun _ h => by cases h) hN h rfl (toldC_ok _ _ _ hsd (fun _ h => by cases h))
noncomputable def orsPop3 : List Rf := [.s, .d 5, .d 5, .d 5, .d 0, .s, .s, .s, .d 0, .s, .s, .s, .d 0, .d 0, .s, .d 1, .d 2, .d 2, .d 2, .d 2, .d 2, .d 5, .d 0, .s, .s, .s, .d 0, .s, .s, .s, .d 0, .d 0, .s, .d 1, .d 2, .d 2, .d 2, .d 2, .d 2, .d 2, .d 2, .d 2, .d 2, .d 2, .d 5, .d 5, .d 5, .d 0, .s, .s, .s, .d 0, .s, .s, .s, .d 0, .d 0, .s, .d 1, .b false, .d 5]
noncomputable def lhsPop3 (pg : Program) (W : Params) (b t : Nat) (z : Zs) := resM m5 (enter W (go pg W b t true noCt 154) orsPop3 (.call (.ref 693) ⟨[.ref z.x.L], []⟩) kx (lexD W z.x (z.v 0) (z.v 1) (z.i 0) [.str (z.s 1) (z.n 0), (z.v 3), (z.v 4), (z.v 5)] (z.s 0) (z.v 2)) 0 0 [])
noncomputable def rhsPop3 (pg : Program) (W : Params) (b t : Nat) (z : Zs) : Option (Except Value PySem.Fin × Dy × Nat × Nat × List Ob) := some (.ok (.done (.ret (.str (z.s 1) (z.n 0)))), lexD W z.x (z.v 0) (z.v 1) ((z.i 0) + 1) [(z.v 3), (z.v 4), (z.v 5)] (z.s 0) (z.v 2), 1, 8, toldC noCt [z.x.L, z.x.d, z.x.q, z.x.io, z.x.iod, (b + 0)] orsPop3 [.cmp 4 0 1 false] [])
end Mine
lay_z Mine.lhsPop3 Mine.rhsPop3
namespace Mine
theorem chkPop3 (pg : Program) (P : Params) (r : Bool) (b t : Nat) (z : Zs) : lhsPop3 pg (wf P r) b t z = rhsPop3 pg (wf P r) b t z := by
  rw [PySem.W.ZFast.ze11944084075563624121, PySem.W.ZFast.ze7374117570597505106]
  cases r <;> kernel_rfl
theorem conPop3 {w : World} {N U : Nat} (hN : N ≤ 800) (b t : Nat) (z : Zs) (hsd : ∀ y ∈ ([.cmp 4 0 1 false] : List Ob), y.ok) : ConF none [] w w.params N U (.call (.ref 693) ⟨[.ref z.x.L], []⟩) (lexD w.params z.x (z.v 0) (z.v 1) (z.i 0) [.str (z.s 1) (z.n 0), (z.v 3), (z.v 4), (z.v 5)] (z.s 0) (z.v 2)) (lexD w.params z.x (z.v 0) (z.v 1) ((z.i 0) + 1) [(z.v 3), (z.v 4), (z.v 5)] (z.s 0) (z.v 2)) b t (1) (8) (.ok (.ret (.str (z.s 1) (z.n 0)))) := by
  have h := chkPop3 pw w.params (w.params.followText row1) b t z
  rw [wf_self] at h
  exact conF_of_run rfl (spOk w) noCt_ok (fun _ h => by cases h) (fun _ h => by cases h) hN h rfl (toldC_ok _ _ _ hsd (fun _ h => by cases h))
noncomputable def orsPop4 : List Rf := [.s, .d 5, .d 5, .d 5, .d 0, .s, .s, .s, .d 0, .s, .s, .s, .d 0, .d 0, .s, .d 1, .d 2, .d 2, .d 2, .d 2, .d 2, .d 5, .d 0, .s, .s, .s, .d 0, .s, .s, .s, .d 0, .d 0, .s, .d 1, .d 2, .d 2, .d 2, .d 2, .d 2, .d 2, .d 2, .d 2, .d 2, .d 2, .d 5, .d 5, .d 5, .d 0, .s, .s, .s, .d 0, .s, .s, .s, .d 0, .d 0, .s, .d 1, .b false, .d 5]
noncomputable def lhsPop4 (pg : Program) (W : Params) (b t : Nat) (z : Zs) := resM m5 (enter W (go pg W b t true noCt 154) orsPop4 (.call (.ref 693) ⟨[.ref z.x.L], []⟩) kx (lexD W z.x (z.v 0) (z.v 1) (z.i 0) [.str (z.s 1) (z.n 0), (z.v 3), (z.v 4), (z.v 5), (z.v 6)] (z.s 0) (z.v 2)) 0 0 [])
noncomputable def rhsPop4 (pg : Program) (W : Params) (b t : Nat) (z : Zs) : Option (Except Value PySem.Fin × Dy × Nat × Nat × List Ob) := some (.ok (.done (.ret (.str (z.s 1) (z.n 0)))), lexD W z.x (z.v 0) (z.v 1) ((z.i 0) + 1) [(z.v 3), (z.v 4), (z.v 5), (z.v 6)] (z.s 0) (z.v 2), 1, 8, toldC noCt [z.x.L, z.x.d, z.x.q, z.x.io, z.x.iod, (b + 0)] orsPop4 [.cmp 4 0 1 false] [])
end Mine
lay_z Mine.lhsPop4 Mine.rhsPop4
namespace Mine
theorem chkPop4 (pg : Program) (P : Params) (r : Bool) (b t : Nat) (z : Zs) : lhsPop4 pg (wf P r) b t z = rhsPop4 pg (wf P r) b t z := by
  rw [PySem.W.ZFast.ze15335972709424572570, PySem.W.ZFast.ze9434990480288759772]
  cases r <;> kernel_rfl
theorem conPop4 {w : World} {N U : Nat} (hN : N ≤ 800) (b t : Nat) (z : Zs) (hsd : ∀ y ∈ ([.cmp 4 0 1 false] : List Ob), y.ok) : ConF none [] w w.params N U (.call (.ref 693) ⟨[.ref z.x.L], []⟩) (lexD w.params z.x (z.v 0) (z.v 1) (z.i 0) [.str (z.s 1) (z.n 0), (z.v 3), (z.v 4), (z.v 5), (z.v 6)] (z.s 0) (z.v 2)) (lexD w.params z.x (z.v 0) (z.v 1) ((z.i 0) + 1) [(z.v 3), (z.v 4), (z.v 5), (z.v 6)] (z.s 0) (z.v 2)) b t (1) (8) (.ok (.ret (.str (z.s 1) (z.n 0)))) := by
  have h := chkPop4 pw w.params (w.params.followText row1) b t z
  rw [wf_self] at h
  exact conF_of_run rfl (spOk w) noCt_ok (fun _ h => by cases h) (fun _ h => by cases h) hN h rfl (toldC_ok _ _ _ hsd (fun _ h => by cases h))
noncomputable def orsPop5 : List Rf := [.s, .d 5, .d 5, .d 5, .d 0, .s, .s, .s, .d 0, .s, .s, .s, .d 0, .d 0, .s, .d 1, .d 2, .d 2, .d 2, .d 2, .d 2, .d 5, .d 0, .s, .s, .s, .d 0, .s, .s, .s, .d 0, .d 0, .s, .d 1, .d 2, .d 2, .d 2, .d 2, .d 2, .d 2, .d 2, .d 2, .d 2, .d 2, .d 5, .d 5, .d 5, .d 0, .s, .s, .s, .d 0, .s, .s, .s, .d 0, .d 0, .s, .d 1, .b false, .d 5]
noncomputable def lhsPop5 (pg : Program) (W : Params) (b t : Nat) (z : Zs) := resM m5 (enter W (go pg W b t true noCt 154) orsPop5 (.call (.ref 693) ⟨[.ref z.x.L], []⟩) kx (lexD W z.x (z.v 0) (z.v 1) (z.i 0) [.str (z.s 1) (z.n 0), (z.v 3), (z.v 4), (z.v 5), (z.v 6), (z.v 7)] (z.s 0) (z.v 2)) 0 0 [])
noncomputable def rhsPop5 (pg : Program) (W : Params) (b t : Nat) (z : Zs) : Option (Except Value PySem.Fin × Dy × Nat × Nat × List Ob) := some (.ok (.done (.ret (.str (z.s 1) (z.n 0)))), lexD W z.x (z.v 0) (z.v 1) ((z.i 0) + 1) [(z.v 3), (z.v 4), (z.v 5), (z.v 6), (z.v 7)] (z.s 0) (z.v 2), 1, 8, toldC noCt [z.x.L, z.x.d, z.x.q, z.x.io, z.x.iod, (b + 0)] orsPop5 [.cmp 4 0 1 false] [])
end Mine
lay_z Mine.lhsPop5 Mine.rhsPop5
namespace Mine
theorem chkPop5 (pg : Program) (P : Params) (r : Bool) (b t : Nat) (z : Zs) : lhsPop5 pg (wf P r) b t z = rhsPop5 pg (wf P r) b t z := by
  rw [PySem.W.ZFast.ze8082084245173295250, PySem.W.ZFast.ze1090830270227490458]
  cases r <;> kernel_rfl
theorem conPop5 {w : World} {N U : Nat} (hN : N ≤ 800) (b t : Nat) (z : Zs) (hsd : ∀ y ∈ ([.cmp 4 0 1 false] : List Ob), y.ok) : ConF none [] w w.params N U (.call (.ref 693) ⟨[.ref z.x.L], []⟩) (lexD w.params z.x (z.v 0) (z.v 1) (z.i 0) [.str (z.s 1) (z.n 0), (z.v 3), (z.v 4), (z.v 5), (z.v 6), (z.v 7)] (z.s 0) (z.v 2)) (lexD w.params z.x (z.v 0) (z.v 1) ((z.i 0) + 1) [(z.v 3), (z.v 4), (z.v 5), (z.v 6), (z.v 7)] (z.s 0) (z.v 2)) b t (1) (8) (.ok (.ret (.str (z.s 1) (z.n 0)))) := by
  have h := chkPop5 pw w.params (w.params.followText row1) b t z
  rw [wf_self] at h
  exact conF_of_run rfl (spOk w) noCt_ok (fun _ h => by cases h) (fun _ h => by cases h) hN h rfl (toldC_ok _ _ _ hsd (fun _ h => by cases h))
noncomputable def orsPop6 : List Rf := [.s, .d 5, .d 5, .d 5, .d 0, .s, .s, .s, .d 0, .s, .s, .s, .d 0, .d 0, .s, .d 1, .d 2, .d 2, .d 2, .d 2, .d 2, .d 5, .d 0, .s, .s, .s, .d 0, .s, .s, .s, .d 0, .d 0, .s, .d 1, .d 2, .d 2, .d 2, .d 2, .d 2, .d 2, .d 2, .d 2, .d 2, .d 2, .d 5, .d 5, .d 5, .d 0, .s, .s, .s, .d 0, .s, .s, .s, .d 0, .d 0, .s, .d 1, .b false, .d 5]
noncomputable def lhsPop6 (pg : Program) (W : Params) (b t : Nat) (z : Zs) := resM m5 (enter W (go pg W b t true noCt 154) orsPop6 (.call (.ref 693) ⟨[.ref z.x.L], []⟩) kx (lexD W z.x (z.v 0) (z.v 1) (z.i 0) [.str (z.s 1) (z.n 0), (z.v 3), (z.v 4), (z.v 5), (z.v 6), (z.v 7), (z.v 8)] (z.s 0) (z.v 2)) 0 0 [])
noncomputable def rhsPop6 (pg : Program) (W : Params) (b t : Nat) (z : Zs) : Option (Except Value PySem.Fin × Dy × Nat × Nat × List Ob) := some (.ok (.done (.ret (.str (z.s 1) (z.n 0)))), lexD W z.x (z.v 0) (z.v 1) ((z.i 0) + 1) [(z.v 3), (z.v 4), (z.v 5), (z.v 6), (z.v 7), (z.v 8)] (z.s 0) (z.v 2), 1, 8, toldC noCt [z.x.L, z.x.d, z.x.q, z.x.io, z.x.iod, (b + 0)] orsPop6 [.cmp 4 0 1 false] [])
end Mine
lay_z Mine.lhsPop6 Mine.rhsPop6
namespace Mine
theorem chkPop6 (pg : Program) (P : Params) (r : Bool) (b t : Nat) (z : Zs) : lhsPop6 pg (wf P r) b t z = rhsPop6 pg (wf P r) b t z := by
  rw [PySem.W.ZFast.ze17457480832022938315, PySem.W.ZFast.ze11175729627572074927]
  cases r <;> kernel_rfl
theorem conPop6 {w : World} {N U : Nat} (hN : N ≤ 800) (b t : Nat) (z : Zs) (hsd : ∀ y ∈ ([.cmp 4 0 1 false] : List Ob), y.ok) : ConF none [] w w.params N U (.call (.ref 693) ⟨[.ref z.x.L], []⟩) (lexD w.params z.x (z.v 0) (z.v 1) (z.i 0) [.str (z.s 1) (z.n 0), (z.v 3), (z.v 4), (z.v 5), (z.v 6), (z.v 7), (z.v 8)] (z.s 0) (z.v 2)) (lexD w.params z.x (z.v 0) (z.v 1) ((z.i 0) + 1) [(z.v 3), (z.v 4), (z.v 5), (z.v 6), (z.v 7), (z.v 8)] (z.s 0) (z.v 2)) b t (1) (8) (.ok (.ret (.str (z.s 1) (z.n 0)))) := by
  have h := chkPop6 pw w.params (w.params.followText row1) b t z
  rw [wf_self] at h
  exact conF_of_run rfl (spOk w) noCt_ok (fun _ h => by cases h) (fun _ h => by cases h) hN h rfl (toldC_ok _ _ _ hsd (fun _ h => by cases h))
noncomputable def orsPop7 : List Rf := [.s, .d 5, .d 5, .d 5, .d 0, .s, .s, .s, .d 0, .s, .s, .s, .d 0, .d 0, .s, .d 1, .d 2, .d 2, .d 2, .d 2, .d 2, .d 5, .d 0, .s, .s, .s, .d 0, .s, .s, .s, .d 0, .d 0, .s, .d 1, .d 2, .d 2, .d 2, .d 2, .d 2, .d 2, .d 2, .d 2, .d 2, .d 2, .d 5, .d 5, .d 5, .d 0, .s, .s, .s, .d 0, .s, .s, .s, .d 0, .d 0, .s, .d 1, .b false, .d 5]
noncomputable def lhsPop7 (pg : Program) (W : Params) (b t : Nat) (z : Zs) := resM m5 (enter W (go pg W b t true noCt 154) orsPop7 (.call (.ref 693) ⟨[.ref z.x.L], []⟩) kx (lexD W z.x (z.v 0) (z.v 1) (z.i 0) [.str (z.s 1) (z.n 0), (z.v 3), (z.v 4), (z.v 5), (z.v 6), (z.v 7), (z.v 8), (z.v 9)] (z.s 0) (z.v 2)) 0 0 [])
noncomputable def rhsPop7 (pg : Program) (W : Params) (b t : Nat) (z : Zs) : Option (Except Value PySem.Fin × Dy × Nat × Nat × List Ob) := some (.ok (.done (.ret (.str (z.s 1) (z.n 0)))), lexD W z.x (z.v 0) (z.v 1) ((z.i 0) + 1) [(z.v 3), (z.v 4), (z.v 5), (z.v 6), (z.v 7), (z.v 8), (z.v 9)] (z.s 0) (z.v 2), 1, 8, toldC noCt [z.x.L, z.x.d, z.x.q, z.x.io, z.x.iod, (b + 0)] orsPop7 [.cmp 4 0 1 false] [])
end Mine
lay_z Mine.lhsPop7 Mine.rhsPop7
namespace Mine
theorem chkPop7 (pg : Program) (P : Params) (r : Bool) (b t : Nat) (z : Zs) : lhsPop7 pg (wf P r) b t z = rhsPop7 pg (wf P r) b t z := by
  rw [PySem.W.ZFast.ze18214111385511272623, PySem.W.ZFast.ze4438304211707280081]
  cases r <;> kernel_rfl
theorem conPop7 {w : World} {N U : Nat} (hN : N ≤ 800) (b t : Nat) (z : Zs) (hsd : ∀ y ∈ ([.cmp 4 0 1 false] : List Ob), y.ok) : ConF none [] w w.params N U (.call (.ref 693) ⟨[.ref z.x.L], []⟩) (lexD w.params z.x (z.v 0) (z.v 1) (z.i 0) [.str (z.s 1) (z.n 0), (z.v 3), (z.v 4), (z.v 5), (z.v 6), (z.v 7), (z.v 8), (z.v 9)] (z.s 0) (z.v 2)) (lexD w.params z.x (z.v 0) (z.v 1) ((z.i 0) + 1) [(z.v 3), (z.v 4), (z.v 5), (z.v 6), (z.v 7), (z.v 8), (z.v 9)] (z.s 0) (z.v 2)) b t (1) (8) (.ok (.ret (.str (z.s 1) (z.n 0)))) := by
  have h := chkPop7 pw w.params (w.params.followText row1) b t z
  rw [wf_self] at h
  exact conF_of_run rfl (spOk w) noCt_ok (fun _ h => by cases h) (fun _ h => by cases h) hN h rfl (toldC_ok _ _ _ hsd (fun _ h => by cases h))
noncomputable def orsGetS : List Rf := [.s, .d 6, .d 6, .d 6, .d 0, .s, .s, .s, .d 0, .s, .s, .s, .d 0, .d 0, .s, .d 1, .d 2, .d 2, .d 2, .d 2, .d 2, .d 6, .d 0, .s, .s, .s, .d 0, .s, .s, .s, .d 0, .s, .s, .s, .s, .d 0, .d 1, .s, .k 0, .d 6, .d 6, .d 6, .d 0, .s, .s, .s, .d 0, .s, .s, .s, .d 0, .d 0, .s, .d 1, .d 6, .d 6, .d 0, .s, .s, .s, .d 0, .s, .s, .s, .d 0, .d 0, .s, .d 1, .d 6, .d 0, .s, .s, .s, .d 0, .s, .s, .s, .d 0, .d 0, .s, .d 1, .b false, .d 6]
noncomputable def ctGetS (P : Params) (b t : Nat) (z : Zs) : List KC := [⟨.call (.ref 700) ⟨[.ref z.x.L], []⟩, [true, true, true, true, true], lexD P z.x (z.v 0) (z.v 1) (z.i 0) [] (z.s 0) (z.v 2), lexD P z.x (z.v 3) (z.v 4) (z.i 0) [] (z.s 0) (z.v 5), [], 1, 4, (z.n 0), (z.n 1), .ok (.ret (.str (z.s 1) (z.n 2))), 20, 200, true, none, none, []⟩]
noncomputable def lhsGetS (pg : Program) (W : Params) (b t : Nat) (z : Zs) := resM m6 (enter W (go pg W b t true (ctGetS W b t z) 197) orsGetS (.call (.ref 693) ⟨[.ref z.x.L], []⟩) kx (lex6 W z.x (z.v 0) (z.v 1) (z.i 0) [] (z.s 0) (z.v 2)) 0 0 [])
noncomputable def rhsGetS (pg : Program) (W : Params) (b t : Nat) (z : Zs) : Option (Except Value PySem.Fin × Dy × Nat × Nat × List Ob) := some (.ok (.done (.ret (.str (z.s 1) (z.n 2)))), lex6 W z.x (z.v 3) (z.v 4) (z.i 0) [] (z.s 0) (z.v 5), (1 + (z.n 0)), (4 + (z.n 1) + 5), toldC (ctGetS W b t z) [z.x.L, z.x.d, z.x.q, z.x.io, z.x.iod, z.x.fs, (b + 0)] orsGetS [.cmp 4 0 1 false] [])
end Mine
lay_z Mine.lhsGetS Mine.rhsGetS
namespace Mine
theorem chkGetS (pg : Program) (P : Params) (r : Bool) (b t : Nat) (z : Zs) : lhsGetS pg (wf P r) b t z = rhsGetS pg (wf P r) b t z := by
  rw [PySem.W.ZFast.ze1207097273986932996, PySem.W.ZFast.ze3968045882809152721]
  cases r <;> kernel_rfl
theorem conGetS {w : World} {N U : Nat} (hN : N ≤ 800) (b t : Nat) (z : Zs) (hct : CtOk w w.params N U b t (ctGetS w.params b t z)) (hsd : ∀ y ∈ ([.cmp 4 0 1 false] : List Ob), y.ok) : ConF none [] w w.params N U (.call (.ref 693) ⟨[.ref z.x.L], []⟩) (lex6 w.params z.x (z.v 0) (z.v 1) (z.i 0) [] (z.s 0) (z.v 2)) (lex6 w.params z.x (z.v 3) (z.v 4) (z.i 0) [] (z.s 0) (z.v 5)) b t ((1 + (z.n 0))) ((4 + (z.n 1) + 5)) (.ok (.ret (.str (z.s 1) (z.n 2)))) := by
  have h := chkGetS pw w.params (w.params.followText row1) b t z
  rw [wf_self] at h
  exact conF_of_run rfl (spOk w) hct (fr_none rfl) (z_nil rfl) hN h rfl (toldC_ok _ _ _ hsd (fun _ h => by cases h))
noncomputable def orsGetN : List Rf := [.s, .d 6, .d 6, .d 6, .d 0, .s, .s, .s, .d 0, .s, .s, .s, .d 0, .d 0, .s, .d 1, .d 2, .d 2, .d 2, .d 2, .d 2, .d 6, .d 0, .s, .s, .s, .d 0, .s, .s, .s, .d 0, .s, .s, .s, .s, .d 0, .d 1, .s, .k 0, .d 6, .d 6, .d 6, .d 0, .s, .s, .s, .d 0, .s, .s, .s, .d 0, .d 0, .s, .d 1, .d 6, .d 6, .d 0, .s, .s, .s, .d 0, .s, .s, .s, .d 0, .d 0, .s, .d 1, .d 6, .d 0, .s, .s, .s, .d 0, .s, .s, .s, .d 0, .d 0, .s, .d 1, .d 5, .d 5, .d 5, .d 5, .d 5, .d 6, .d 0, .s, .s, .s, .d 0, .s, .s, .s, .d 0, .d 0, .s, .d 1]
noncomputable def ctGetN (P : Params) (b t : Nat) (z : Zs) : List KC := [⟨.call (.ref 700) ⟨[.ref z.x.L], []⟩, [true, true, true, true, true], lexD P z.x (z.v 0) (z.v 1) (z.i 0) [] (z.s 0) (z.v 2), lexD P z.x (z.v 3) (z.v 4) (z.i 0) [] (z.s 0) (z.v 5), [], 1, 4, (z.n 0), (z.n 1), .ok (.ret (.none)), 20, 200, true, none, none, []⟩]
noncomputable def lhsGetN (pg : Program) (W : Params) (b t : Nat) (z : Zs) := resM m6 (enter W (go pg W b t true (ctGetN W b t z) 218) orsGetN (.call (.ref 693) ⟨[.ref z.x.L], []⟩) kx (lex6 W z.x (z.v 0) (z.v 1) (z.i 0) [] (z.s 0) (z.v 2)) 0 0 [])
noncomputable def rhsGetN (pg : Program) (W : Params) (b t : Nat) (z : Zs) : Option (Except Value PySem.Fin × Dy × Nat × Nat × List Ob) := some (.ok (.done (.ret (.none))), lex6 W z.x (z.v 3) (z.v 4) (z.i 0) [] (z.s 0) (z.v 5), (1 + (z.n 0)), (4 + (z.n 1) + 7), toldC (ctGetN W b t z) [z.x.L, z.x.d, z.x.q, z.x.io, z.x.iod, z.x.fs, (b + 0)] orsGetN [] [])
end Mine
lay_z Mine.lhsGetN Mine.rhsGetN
namespace Mine
theorem chkGetN (pg : Program) (P : Params) (r : Bool) (b t : Nat) (z : Zs) : lhsGetN pg (wf P r) b t z = rhsGetN pg (wf P r) b t z := by
  rw [PySem.W.ZFast.ze4907328159073380045, PySem.W.ZFast.ze16950459948396516092]
  cases r <;> kernel_rfl
theorem conGetN {w : World} {N U : Nat} (hN : N ≤ 800) (b t : Nat) (z : Zs) (hct : CtOk w w.params N U b t (ctGetN w.params b t z)) : ConF none [] w w.params N U (.call (.ref 693) ⟨[.ref z.x.L], []⟩) (lex6 w.params z.x (z.v 0) (z.v 1) (z.i 0) [] (z.s 0) (z.v 2)) (lex6 w.params z.x (z.v 3) (z.v 4) (z.i 0) [] (z.s 0) (z.v 5)) b t ((1 + (z.n 0))) ((4 + (z.n 1) + 7)) (.ok (.ret (.none))) := by
  have h := chkGetN pw w.params (w.params.followText row1) b t z
  rw [wf_self] at h
  exact conF_of_run rfl (spOk w) hct (fr_none rfl) (z_nil rfl) hN h rfl (toldC_ok _ _ _ (fun _ h => by cases h) (fun _ h => by cases h))
noncomputable def orsComesSS : List Rf := [.s, .d 6, .d 6, .d 6, .d 6, .d 6, .d 0, .s, .s, .s, .d 0, .s, .s, .s, .d 0, .s, .s, .s, .s, .d 0, .d 1, .s, .k 0, .d 6, .d 6, .k 1, .d 6]
noncomputable def ctComesSS (P : Params) (b t : Nat) (z : Zs) : List KC := [⟨.call (.ref 693) ⟨[.ref z.x.L], []⟩, [true, true, true, true, true, true], lex6 P z.x (z.v 0) (z.v 1) (z.i 0) (z.l 0) (z.s 0) (z.v 2), lex6 P z.x (z.v 3) (z.v 4) (z.i 1) (z.l 1) (z.s 0) (z.v 5), [], 1, 2, (z.n 1), (z.n 2), .ok (.ret (.str (z.s 2) (z.n 5))), 20, 200, true, none, none, []⟩, ⟨wlC b, [true, true, true, true, true, true, true], cwDR P z.x (z.v 3) (z.v 4) (z.i 1) (z.l 1) (z.s 0) (z.v 5) b t (t + 1) (t + (2 + (z.n 2))) (z.s 1) (z.n 0) (.str (z.s 2) (z.n 5)), cwDR P z.x (z.v 6) (z.v 7) (z.i 2) (z.l 2) (z.s 0) (z.v 8) b t (t + 1) (t + (2 + (z.n 2))) (z.s 1) (z.n 0) (.str (z.s 3) (z.n 6)), [], (1 + (z.n 1)), (2 + (z.n 2) + 1), (z.n 3), (z.n 4), .ok .next, 20, 200, true, none, none, []⟩]
noncomputable def lhsComesSS (pg : Program) (W : Params) (b t : Nat) (z : Zs) := resM m6 (enter W (go pg W b t true (ctComesSS W b t z) 90) orsComesSS (.call (.ref 758) ⟨[.ref z.x.L, .str (z.s 1) (z.n 0)], []⟩) kx (lex6 W z.x (z.v 0) (z.v 1) (z.i 0) (z.l 0) (z.s 0) (z.v 2)) 0 0 [])
noncomputable def rhsComesSS (pg : Program) (W : Params) (b t : Nat) (z : Zs) : Option (Except Value PySem.Fin × Dy × Nat × Nat × List Ob) := some (.ok (.done (.ret (.bool true))), lex6 W z.x (z.v 6) (z.v 7) (z.i 2) (z.l 2) (z.s 0) (z.v 8), (1 + (z.n 1) + (z.n 3)), (2 + (z.n 2) + 1 + (z.n 4)), toldC (ctComesSS W b t z) [z.x.L, z.x.d, z.x.q, z.x.io, z.x.iod, z.x.fs, (b + 0)] orsComesSS [] [])
end Mine
lay_z Mine.lhsComesSS Mine.rhsComesSS
namespace Mine
theorem chkComesSS (pg : Program) (P : Params) (r : Bool) (b t : Nat) (z : Zs) : lhsComesSS pg (wf P r) b t z = rhsComesSS pg (wf P r) b t z := by
  rw [PySem.W.ZFast.ze8456420434687588953, PySem.W.ZFast.ze15670316066062841068]
  cases r <;> kernel_rfl
theorem conComesSS {w : World} {N U : Nat} (hN : N ≤ 800) (b t : Nat) (z : Zs) (hct : CtOk w w.params N U b t (ctComesSS w.params b t z)) : ConF none [] w w.params N U (.call (.ref 758) ⟨[.ref z.x.L, .str (z.s 1) (z.n 0)], []⟩) (lex6 w.params z.x (z.v 0) (z.v 1) (z.i 0) (z.l 0) (z.s 0) (z.v 2)) (lex6 w.params z.x (z.v 6) (z.v 7) (z.i 2) (z.l 2) (z.s 0) (z.v 8)) b t ((1 + (z.n 1) + (z.n 3))) ((2 + (z.n 2) + 1 + (z.n 4))) (.ok (.ret (.bool true))) := by
  have h := chkComesSS pw w.params (w.params.followText row1) b t z
  rw [wf_self] at h
  exact conF_of_run rfl (spOk w) hct (fr_none rfl) (z_nil rfl) hN h rfl (toldC_ok _ _ _ (fun _ h => by cases h) (fun _ h => by cases h))
noncomputable def orsComesSN : List Rf := [.s, .d 6, .d 6, .d 6, .d 6, .d 6, .d 0, .s, .s, .s, .d 0, .s, .s, .s, .d 0, .s, .s, .s, .s, .d 0, .d 1, .s, .k 0, .d 6, .d 6, .k 1, .d 6]
noncomputable def ctComesSN (P : Params) (b t : Nat) (z : Zs) : List KC := [⟨.call (.ref 693) ⟨[.ref z.x.L], []⟩, [true, true, true, true, true, true], lex6 P z.x (z.v 0) (z.v 1) (z.i 0) (z.l 0) (z.s 0) (z.v 2), lex6 P z.x (z.v 3) (z.v 4) (z.i 1) (z.l 1) (z.s 0) (z.v 5), [], 1, 2, (z.n 1), (z.n 2), .ok (.ret (.str (z.s 2) (z.n 5))), 20, 200, true, none, none, []⟩, ⟨wlC b, [true, true, true, true, true, true, true], cwDR P z.x (z.v 3) (z.v 4) (z.i 1) (z.l 1) (z.s 0) (z.v 5) b t (t + 1) (t + (2 + (z.n 2))) (z.s 1) (z.n 0) (.str (z.s 2) (z.n 5)), cwDR P z.x (z.v 6) (z.v 7) (z.i 2) (z.l 2) (z.s 0) (z.v 8) b t (t + 1) (t + (2 + (z.n 2))) (z.s 1) (z.n 0) .none, [], (1 + (z.n 1)), (2 + (z.n 2) + 1), (z.n 3), (z.n 4), .ok .next, 20, 200, true, none, none, []⟩]
noncomputable def lhsComesSN (pg : Program) (W : Params) (b t : Nat) (z : Zs) := resM m6 (enter W (go pg W b t true (ctComesSN W b t z) 90) orsComesSN (.call (.ref 758) ⟨[.ref z.x.L, .str (z.s 1) (z.n 0)], []⟩) kx (lex6 W z.x (z.v 0) (z.v 1) (z.i 0) (z.l 0) (z.s 0) (z.v 2)) 0 0 [])
noncomputable def rhsComesSN (pg : Program) (W : Params) (b t : Nat) (z : Zs) : Option (Except Value PySem.Fin × Dy × Nat × Nat × List Ob) := some (.ok (.done (.ret (.bool false))), lex6 W z.x (z.v 6) (z.v 7) (z.i 2) (z.l 2) (z.s 0) (z.v 8), (1 + (z.n 1) + (z.n 3)), (2 + (z.n 2) + 1 + (z.n 4)), toldC (ctComesSN W b t z) [z.x.L, z.x.d, z.x.q, z.x.io, z.x.iod, z.x.fs, (b + 0)] orsComesSN [] [])
end Mine
lay_z Mine.lhsComesSN Mine.rhsComesSN
namespace Mine
theorem chkComesSN (pg : Program) (P : Params) (r : Bool) (b t : Nat) (z : Zs) : lhsComesSN pg (wf P r) b t z = rhsComesSN pg (wf P r) b t z := by
  rw [PySem.W.ZFast.ze8182459279496330923, PySem.W.ZFast.ze4725179683239302525]
  cases r <;> kernel_rfl
theorem conComesSN {w : World} {N U : Nat} (hN : N ≤ 800) (b t : Nat) (z : Zs) (hct : CtOk w w.params N U b t (ctComesSN w.params b t z)) : ConF none [] w w.params N U (.call (.ref 758) ⟨[.ref z.x.L, .str (z.s 1) (z.n 0)], []⟩) (lex6 w.params z.x (z.v 0) (z.v 1) (z.i 0) (z.l 0) (z.s 0) (z.v 2)) (lex6 w.params z.x (z.v 6) (z.v 7) (z.i 2) (z.l 2) (z.s 0) (z.v 8)) b t ((1 + (z.n 1) + (z.n 3))) ((2 + (z.n 2) + 1 + (z.n 4))) (.ok (.ret (.bool false))) := by
  have h := chkComesSN pw w.params (w.params.followText row1) b t z
  rw [wf_self] at h
  exact conF_of_run rfl (spOk w) hct (fr_none rfl) (z_nil rfl) hN h rfl (toldC_ok _ _ _ (fun _ h => by cases h) (fun _ h => by cases h))
noncomputable def orsComesNN : List Rf := [.s, .d 6, .d 6, .d 6, .d 6, .d 6, .d 0, .s, .s, .s, .d 0, .s, .s, .s, .d 0, .s, .s, .s, .s, .d 0, .d 1, .s, .k 0, .d 6, .d 6, .k 1, .d 6]
noncomputable def ctComesNN (P : Params) (b t : Nat) (z : Zs) : List KC := [⟨.call (.ref 693) ⟨[.ref z.x.L], []⟩, [true, true, true, true, true, true], lex6 P z.x (z.v 0) (z.v 1) (z.i 0) (z.l 0) (z.s 0) (z.v 2), lex6 P z.x (z.v 3) (z.v 4) (z.i 1) (z.l 1) (z.s 0) (z.v 5), [], 1, 2, (z.n 1), (z.n 2), .ok (.ret .none), 20, 200, true, none, none, []⟩, ⟨wlC b, [true, true, true, true, true, true, true], cwDR P z.x (z.v 3) (z.v 4) (z.i 1) (z.l 1) (z.s 0) (z.v 5) b t (t + 1) (t + (2 + (z.n 2))) (z.s 1) (z.n 0) .none, cwDR P z.x (z.v 6) (z.v 7) (z.i 2) (z.l 2) (z.s 0) (z.v 8) b t (t + 1) (t + (2 + (z.n 2))) (z.s 1) (z.n 0) .none, [], (1 + (z.n 1)), (2 + (z.n 2) + 1), (z.n 3), (z.n 4), .ok .next, 20, 200, true, none, none, []⟩]
noncomputable def lhsComesNN (pg : Program) (W : Params) (b t : Nat) (z : Zs) := resM m6 (enter W (go pg W b t true (ctComesNN W b t z) 90) orsComesNN (.call (.ref 758) ⟨[.ref z.x.L, .str (z.s 1) (z.n 0)], []⟩) kx (lex6 W z.x (z.v 0) (z.v 1) (z.i 0) (z.l 0) (z.s 0) (z.v 2)) 0 0 [])
noncomputable def rhsComesNN (pg : Program) (W : Params) (b t : Nat) (z : Zs) : Option (Except Value PySem.Fin × Dy × Nat × Nat × List Ob) := some (.ok (.done (.ret (.bool false))), lex6 W z.x (z.v 6) (z.v 7) (z.i 2) (z.l 2) (z.s 0) (z.v 8), (1 + (z.n 1) + (z.n 3)), (2 + (z.n 2) + 1 + (z.n 4)), toldC (ctComesNN W b t z) [z.x.L, z.x.d, z.x.q, z.x.io, z.x.iod, z.x.fs, (b + 0)] orsComesNN [] [])
end Mine
lay_z Mine.lhsComesNN Mine.rhsComesNN
namespace Mine
theorem chkComesNN (pg : Program) (P : Params) (r : Bool) (b t : Nat) (z : Zs) : lhsComesNN pg (wf P r) b t z = rhsComesNN pg (wf P r) b t z := by
  rw [PySem.W.ZFast.ze777440332613396670, PySem.W.ZFast.ze5666580464848430177]
  cases r <;> kernel_rfl
theorem conComesNN {w : World} {N U : Nat} (hN : N ≤ 800) (b t : Nat) (z : Zs) (hct : CtOk w w.params N U b t (ctComesNN w.params b t z)) : ConF none [] w w.params N U (.call (.ref 758) ⟨[.ref z.x.L, .str (z.s 1) (z.n 0)], []⟩) (lex6 w.params z.x (z.v 0) (z.v 1) (z.i 0) (z.l 0) (z.s 0) (z.v 2)) (lex6 w.params z.x (z.v 6) (z.v 7) (z.i 2) (z.l 2) (z.s 0) (z.v 8)) b t ((1 + (z.n 1) + (z.n 3))) ((2 + (z.n 2) + 1 + (z.n 4))) (.ok (.ret (.bool false))) := by
  have h := chkComesNN pw w.params (w.params.followText row1) b t z
  rw [wf_self] at h
  exact conF_of_run rfl (spOk w) hct (fr_none rfl) (z_nil rfl) hN h rfl (toldC_ok _ _ _ (fun _ h => by cases h) (fun _ h => by cases h))
noncomputable def orsCwEq : List Rf := [.d 6, .d 6, .d 6, .k 0]
noncomputable def ctCwEq (P : Params) (b t : Nat) (z : Zs) : List KC := [⟨.call (.builtin "str.__ne__") ⟨[.str (z.s 2) (z.n 5), .str (z.s 1) (z.n 0)], []⟩, [], [], [], [], 0, 0, 0, 0, .ok (.ret (.bool false)), 20, 200, true, none, none, []⟩]
noncomputable def lhsCwEq (pg : Program) (W : Params) (b t : Nat) (z : Zs) := resM [true, true, true, true, true, true, true] (enter W (go pg W b t true (ctCwEq W b t z) 51) orsCwEq (wlC (z.n 1)) kx (cwD W z.x (z.v 0) (z.v 1) (z.i 0) (z.l 0) (z.s 0) (z.v 2) (z.n 1) (z.n 2) (z.n 3) (z.n 4) (z.s 1) (z.n 0) (.str (z.s 2) (z.n 5))) 0 0 [])
noncomputable def rhsCwEq (pg : Program) (W : Params) (b t : Nat) (z : Zs) : Option (Except Value PySem.Fin × Dy × Nat × Nat × List Ob) := some (.ok (.done .next), cwD W z.x (z.v 0) (z.v 1) (z.i 0) (z.l 0) (z.s 0) (z.v 2) (z.n 1) (z.n 2) (z.n 3) (z.n 4) (z.s 1) (z.n 0) (.str (z.s 2) (z.n 5)), 0, 0, toldC (ctCwEq W b t z) [z.x.L, z.x.d, z.x.q, z.x.io, z.x.iod, z.x.fs, (z.n 1)] orsCwEq [] [])
end Mine
lay_z Mine.lhsCwEq Mine.rhsCwEq
namespace Mine
theorem chkCwEq (pg : Program) (P : Params) (r : Bool) (b t : Nat) (z : Zs) : lhsCwEq pg (wf P r) b t z = rhsCwEq pg (wf P r) b t z := by
  rw [PySem.W.ZFast.ze938010264039048620, PySem.W.ZFast.ze9075823743569523500]
  cases r <;> kernel_rfl
theorem conCwEq {w : World} {N U : Nat} (hN : N ≤ 800) (b t : Nat) (z : Zs) (hct : CtOk w w.params N U b t (ctCwEq w.params b t z)) : ConF none [] w w.params N U (wlC (z.n 1)) (cwD w.params z.x (z.v 0) (z.v 1) (z.i 0) (z.l 0) (z.s 0) (z.v 2) (z.n 1) (z.n 2) (z.n 3) (z.n 4) (z.s 1) (z.n 0) (.str (z.s 2) (z.n 5))) (cwD w.params z.x (z.v 0) (z.v 1) (z.i 0) (z.l 0) (z.s 0) (z.v 2) (z.n 1) (z.n 2) (z.n 3) (z.n 4) (z.s 1) (z.n 0) (.str (z.s 2) (z.n 5))) b t (0) (0) (.ok .next) := by
  have h := chkCwEq pw w.params (w.params.followText row1) b t z
  rw [wf_self] at h
  exact conF_of_run rfl (spOk w) hct (fr_none rfl) (z_nil rfl) hN h rfl (toldC_ok _ _ _ (fun _ h => by cases h) (fun _ h => by cases h))
noncomputable def orsCwNone : List Rf := [.d 6]
noncomputable def lhsCwNone (pg : Program) (W : Params) (b t : Nat) (z : Zs) := resM [true, true, true, true, true, true, true] (enter W (go pg W b t true noCt 44) orsCwNone (wlC (z.n 1)) kx (cwD W z.x (z.v 0) (z.v 1) (z.i 0) (z.l 0) (z.s 0) (z.v 2) (z.n 1) (z.n 2) (z.n 3) (z.n 4) (z.s 1) (z.n 0) .none) 0 0 [])
noncomputable def rhsCwNone (pg : Program) (W : Params) (b t : Nat) (z : Zs) : Option (Except Value PySem.Fin × Dy × Nat × Nat × List Ob) := some (.ok (.done .next), cwD W z.x (z.v 0) (z.v 1) (z.i 0) (z.l 0) (z.s 0) (z.v 2) (z.n 1) (z.n 2) (z.n 3) (z.n 4) (z.s 1) (z.n 0) .none, 0, 0, toldC noCt [z.x.L, z.x.d, z.x.q, z.x.io, z.x.iod, z.x.fs, (z.n 1)] orsCwNone [] [])
end Mine
lay_z Mine.lhsCwNone Mine.rhsCwNone
namespace Mine
theorem chkCwNone (pg : Program) (P : Params) (r : Bool) (b t : Nat) (z : Zs) : lhsCwNone pg (wf P r) b t z = rhsCwNone pg (wf P r) b t z := by
  rw [PySem.W.ZFast.ze222496377423573110, PySem.W.ZFast.ze16947391345754989315]
  cases r <;> kernel_rfl
theorem conCwNone {w : World} {N U : Nat} (hN : N ≤ 800) (b t : Nat) (z : Zs) : ConF none [] w w.params N U (wlC (z.n 1)) (cwD w.params z.x (z.v 0) (z.v 1) (z.i 0) (z.l 0) (z.s 0) (z.v 2) (z.n 1) (z.n 2) (z.n 3) (z.n 4) (z.s 1) (z.n 0) .none) (cwD w.params z.x (z.v 0) (z.v 1) (z.i 0) (z.l 0) (z.s 0) (z.v 2) (z.n 1) (z.n 2) (z.n 3) (z.n 4) (z.s 1) (z.n 0) .none) b t (0) (0) (.ok .next) := by
  have h := chkCwNone pw w.params (w.params.followText row1) b t z
  rw [wf_self] at h
  exact conF_of_run rfl (spOk w) noCt_ok (fun _ h => by cases h) (fun _ h => by cases h) hN h rfl (toldC_ok _ _ _ (fun _ h => by cases h) (fun _ h => by cases h))
noncomputable def orsCwGoSS : List Rf := [.d 6, .d 6, .d 6, .k 0, .d 6, .d 0, .s, .s, .s, .d 0, .s, .s, .s, .d 0, .s, .s, .s, .s, .d 0, .d 1, .d 6, .s, .k 1, .d 6, .d 0, .s, .s, .s, .d 0, .s, .s, .s, .d 0, .s, .s, .s, .s, .d 0, .d 1, .s, .k 2, .d 6, .d 6, .k 3]
noncomputable def ctCwGoSS (P : Params) (b t : Nat) (z : Zs) : List KC := [⟨.call (.builtin "str.__ne__") ⟨[.str (z.s 2) (z.n 5), .str (z.s 1) (z.n 0)], []⟩, [], [], [], [], 0, 0, 0, 0, .ok (.ret (.bool true)), 20, 200, true, none, none, []⟩, ⟨.call (.ref 671) ⟨[.ref z.x.L, .str (z.s 2) (z.n 5)], []⟩, [true, true, true, true, true], lexD P z.x (z.v 0) (z.v 1) (z.i 0) (z.l 0) (z.s 0) (z.v 2), lexD P z.x (z.v 0) (z.v 1) ((z.i 0) + 1) (.str (z.s 2) (z.n 5) :: (z.l 0)) (z.s 0) (z.v 2), [], 0, 0, (z.n 8), (z.n 9), .ok (.ret .none), 20, 200, true, none, none, []⟩, ⟨.call (.ref 700) ⟨[.ref z.x.L], []⟩, [true, true, true, true, true], lexD P z.x (z.v 0) (z.v 1) ((z.i 0) + 1) (.str (z.s 2) (z.n 5) :: (z.l 0)) (z.s 0) (z.v 2), lexD P z.x (z.v 3) (z.v 4) ((z.i 0) + 1) (.str (z.s 2) (z.n 5) :: (z.l 0)) (z.s 0) (z.v 5), [], (0 + (z.n 8)), (0 + (z.n 9)), (z.n 10), (z.n 11), .ok (.ret (.str (z.s 3) (z.n 6))), 20, 200, true, none, none, []⟩, ⟨wlC (z.n 1), [true, true, true, true, true, true, true], cwD P z.x (z.v 3) (z.v 4) ((z.i 0) + 1) (.str (z.s 2) (z.n 5) :: (z.l 0)) (z.s 0) (z.v 5) (z.n 1) (z.n 2) (z.n 3) (z.n 4) (z.s 1) (z.n 0) (.str (z.s 3) (z.n 6)), cwD P z.x (z.v 6) (z.v 7) (z.i 1) (z.l 1) (z.s 0) (z.v 8) (z.n 1) (z.n 2) (z.n 3) (z.n 4) (z.s 1) (z.n 0) (.str (z.s 4) (z.n 7)), [], (0 + (z.n 8) + (z.n 10)), (0 + (z.n 9) + (z.n 11) + 1), (z.n 12), (z.n 13), .ok .next, 0, 0, true, none, none, []⟩]
noncomputable def lhsCwGoSS (pg : Program) (W : Params) (b t : Nat) (z : Zs) := resM [true, true, true, true, true, true, true] (enter W (go pg W b t true (ctCwGoSS W b t z) 108) orsCwGoSS (wlC (z.n 1)) kx (cwD W z.x (z.v 0) (z.v 1) (z.i 0) (z.l 0) (z.s 0) (z.v 2) (z.n 1) (z.n 2) (z.n 3) (z.n 4) (z.s 1) (z.n 0) (.str (z.s 2) (z.n 5))) 0 0 [])
noncomputable def rhsCwGoSS (pg : Program) (W : Params) (b t : Nat) (z : Zs) : Option (Except Value PySem.Fin × Dy × Nat × Nat × List Ob) := some (.ok (.done .next), cwD W z.x (z.v 6) (z.v 7) (z.i 1) (z.l 1) (z.s 0) (z.v 8) (z.n 1) (z.n 2) (z.n 3) (z.n 4) (z.s 1) (z.n 0) (.str (z.s 4) (z.n 7)), (0 + (z.n 8) + (z.n 10) + (z.n 12)), (0 + (z.n 9) + (z.n 11) + 1 + (z.n 13)), toldC (ctCwGoSS W b t z) [z.x.L, z.x.d, z.x.q, z.x.io, z.x.iod, z.x.fs, (z.n 1)] orsCwGoSS [] [])
end Mine
lay_z Mine.lhsCwGoSS Mine.rhsCwGoSS
namespace Mine
theorem chkCwGoSS (pg : Program) (P : Params) (r : Bool) (b t : Nat) (z : Zs) : lhsCwGoSS pg (wf P r) b t z = rhsCwGoSS pg (wf P r) b t z := by
  rw [PySem.W.ZFast.ze17907262121505570511, PySem.W.ZFast.ze11570734477494612606]
  cases r <;> kernel_rfl
theorem conCwGoSS {w : World} {N U : Nat} (hN : N ≤ 800) (b t : Nat) (z : Zs) (hct : CtOk w w.params N U b t (ctCwGoSS w.params b t z)) : ConF none [] w w.params N U (wlC (z.n 1)) (cwD w.params z.x (z.v 0) (z.v 1) (z.i 0) (z.l 0) (z.s 0) (z.v 2) (z.n 1) (z.n 2) (z.n 3) (z.n 4) (z.s 1) (z.n 0) (.str (z.s 2) (z.n 5))) (cwD w.params z.x (z.v 6) (z.v 7) (z.i 1) (z.l 1) (z.s 0) (z.v 8) (z.n 1) (z.n 2) (z.n 3) (z.n 4) (z.s 1) (z.n 0) (.str (z.s 4) (z.n 7))) b t ((0 + (z.n 8) + (z.n 10) + (z.n 12))) ((0 + (z.n 9) + (z.n 11) + 1 + (z.n 13))) (.ok .next) := by
  have h := chkCwGoSS pw w.params (w.params.followText row1) b t z
  rw [wf_self] at h
  exact conF_of_run rfl (spOk w) hct (fr_none rfl) (z_nil rfl) hN h rfl (toldC_ok _ _ _ (fun _ h => by cases h) (fun _ h => by cases h))
noncomputable def orsCwGoSN : List Rf := [.d 6, .d 6, .d 6, .k 0, .d 6, .d 0, .s, .s, .s, .d 0, .s, .s, .s, .d 0, .s, .s, .s, .s, .d 0, .d 1, .d 6, .s, .k 1, .d 6, .d 0, .s, .s, .s, .d 0, .s, .s, .s, .d 0, .s, .s, .s, .s, .d 0, .d 1, .s, .k 2, .d 6, .d 6, .k 3]
noncomputable def ctCwGoSN (P : Params) (b t : Nat) (z : Zs) : List KC := [⟨.call (.builtin "str.__ne__") ⟨[.str (z.s 2) (z.n 5), .str (z.s 1) (z.n 0)], []⟩, [], [], [], [], 0, 0, 0, 0, .ok (.ret (.bool true)), 20, 200, true, none, none, []⟩, ⟨.call (.ref 671) ⟨[.ref z.x.L, .str (z.s 2) (z.n 5)], []⟩, [true, true, true, true, true], lexD P z.x (z.v 0) (z.v 1) (z.i 0) (z.l 0) (z.s 0) (z.v 2), lexD P z.x (z.v 0) (z.v 1) ((z.i 0) + 1) (.str (z.s 2) (z.n 5) :: (z.l 0)) (z.s 0) (z.v 2), [], 0, 0, (z.n 8), (z.n 9), .ok (.ret .none), 20, 200, true, none, none, []⟩, ⟨.call (.ref 700) ⟨[.ref z.x.L], []⟩, [true, true, true, true, true], lexD P z.x (z.v 0) (z.v 1) ((z.i 0) + 1) (.str (z.s 2) (z.n 5) :: (z.l 0)) (z.s 0) (z.v 2), lexD P z.x (z.v 3) (z.v 4) ((z.i 0) + 1) (.str (z.s 2) (z.n 5) :: (z.l 0)) (z.s 0) (z.v 5), [], (0 + (z.n 8)), (0 + (z.n 9)), (z.n 10), (z.n 11), .ok (.ret (.str (z.s 3) (z.n 6))), 20, 200, true, none, none, []⟩, ⟨wlC (z.n 1), [true, true, true, true, true, true, true], cwD P z.x (z.v 3) (z.v 4) ((z.i 0) + 1) (.str (z.s 2) (z.n 5) :: (z.l 0)) (z.s 0) (z.v 5) (z.n 1) (z.n 2) (z.n 3) (z.n 4) (z.s 1) (z.n 0) (.str (z.s 3) (z.n 6)), cwD P z.x (z.v 6) (z.v 7) (z.i 1) (z.l 1) (z.s 0) (z.v 8) (z.n 1) (z.n 2) (z.n 3) (z.n 4) (z.s 1) (z.n 0) .none, [], (0 + (z.n 8) + (z.n 10)), (0 + (z.n 9) + (z.n 11) + 1), (z.n 12), (z.n 13), .ok .next, 0, 0, true, none, none, []⟩]
noncomputable def lhsCwGoSN (pg : Program) (W : Params) (b t : Nat) (z : Zs) := resM [true, true, true, true, true, true, true] (enter W (go pg W b t true (ctCwGoSN W b t z) 108) orsCwGoSN (wlC (z.n 1)) kx (cwD W z.x (z.v 0) (z.v 1) (z.i 0) (z.l 0) (z.s 0) (z.v 2) (z.n 1) (z.n 2) (z.n 3) (z.n 4) (z.s 1) (z.n 0) (.str (z.s 2) (z.n 5))) 0 0 [])
noncomputable def rhsCwGoSN (pg : Program) (W : Params) (b t : Nat) (z : Zs) : Option (Except Value PySem.Fin × Dy × Nat × Nat × List Ob) := some (.ok (.done .next), cwD W z.x (z.v 6) (z.v 7) (z.i 1) (z.l 1) (z.s 0) (z.v 8) (z.n 1) (z.n 2) (z.n 3) (z.n 4) (z.s 1) (z.n 0) .none, (0 + (z.n 8) + (z.n 10) + (z.n 12)), (0 + (z.n 9) + (z.n 11) + 1 + (z.n 13)), toldC (ctCwGoSN W b t z) [z.x.L, z.x.d, z.x.q, z.x.io, z.x.iod, z.x.fs, (z.n 1)] orsCwGoSN [] [])
end Mine
lay_z Mine.lhsCwGoSN Mine.rhsCwGoSN
namespace Mine
theorem chkCwGoSN (pg : Program) (P : Params) (r : Bool) (b t : Nat) (z : Zs) : lhsCwGoSN pg (wf P r) b t z = rhsCwGoSN pg (wf P r) b t z := by
  rw [PySem.W.ZFast.ze1094436264462120054, PySem.W.ZFast.ze9265261653238994714]
  cases r <;> kernel_rfl
theorem conCwGoSN {w : World} {N U : Nat} (hN : N ≤ 800) (b t : Nat) (z : Zs) (hct : CtOk w w.params N U b t (ctCwGoSN w.params b t z)) : ConF none [] w w.params N U (wlC (z.n 1)) (cwD w.params z.x (z.v 0) (z.v 1) (z.i 0) (z.l 0) (z.s 0) (z.v 2) (z.n 1) (z.n 2) (z.n 3) (z.n 4) (z.s 1) (z.n 0) (.str (z.s 2) (z.n 5))) (cwD w.params z.x (z.v 6) (z.v 7) (z.i 1) (z.l 1) (z.s 0) (z.v 8) (z.n 1) (z.n 2) (z.n 3) (z.n 4) (z.s 1) (z.n 0) .none) b t ((0 + (z.n 8) + (z.n 10) + (z.n 12))) ((0 + (z.n 9) + (z.n 11) + 1 + (z.n 13))) (.ok .next) := by
  have h := chkCwGoSN pw w.params (w.params.followText row1) b t z
  rw [wf_self] at h
  exact conF_of_run rfl (spOk w) hct (fr_none rfl) (z_nil rfl) hN h rfl (toldC_ok _ _ _ (fun _ h => by cases h) (fun _ h => by cases h))
noncomputable def orsCwGoNN : List Rf := [.d 6, .d 6, .d 6, .k 0, .d 6, .d 0, .s, .s, .s, .d 0, .s, .s, .s, .d 0, .s, .s, .s, .s, .d 0, .d 1, .d 6, .s, .k 1, .d 6, .d 0, .s, .s, .s, .d 0, .s, .s, .s, .d 0, .s, .s, .s, .s, .d 0, .d 1, .s, .k 2, .d 6, .d 6, .k 3]
noncomputable def ctCwGoNN (P : Params) (b t : Nat) (z : Zs) : List KC := [⟨.call (.builtin "str.__ne__") ⟨[.str (z.s 2) (z.n 5), .str (z.s 1) (z.n 0)], []⟩, [], [], [], [], 0, 0, 0, 0, .ok (.ret (.bool true)), 20, 200, true, none, none, []⟩, ⟨.call (.ref 671) ⟨[.ref z.x.L, .str (z.s 2) (z.n 5)], []⟩, [true, true, true, true, true], lexD P z.x (z.v 0) (z.v 1) (z.i 0) (z.l 0) (z.s 0) (z.v 2), lexD P z.x (z.v 0) (z.v 1) ((z.i 0) + 1) (.str (z.s 2) (z.n 5) :: (z.l 0)) (z.s 0) (z.v 2), [], 0, 0, (z.n 8), (z.n 9), .ok (.ret .none), 20, 200, true, none, none, []⟩, ⟨.call (.ref 700) ⟨[.ref z.x.L], []⟩, [true, true, true, true, true], lexD P z.x (z.v 0) (z.v 1) ((z.i 0) + 1) (.str (z.s 2) (z.n 5) :: (z.l 0)) (z.s 0) (z.v 2), lexD P z.x (z.v 3) (z.v 4) ((z.i 0) + 1) (.str (z.s 2) (z.n 5) :: (z.l 0)) (z.s 0) (z.v 5), [], (0 + (z.n 8)), (0 + (z.n 9)), (z.n 10), (z.n 11), .ok (.ret .none), 20, 200, true, none, none, []⟩, ⟨wlC (z.n 1), [true, true, true, true, true, true, true], cwD P z.x (z.v 3) (z.v 4) ((z.i 0) + 1) (.str (z.s 2) (z.n 5) :: (z.l 0)) (z.s 0) (z.v 5) (z.n 1) (z.n 2) (z.n 3) (z.n 4) (z.s 1) (z.n 0) .none, cwD P z.x (z.v 6) (z.v 7) (z.i 1) (z.l 1) (z.s 0) (z.v 8) (z.n 1) (z.n 2) (z.n 3) (z.n 4) (z.s 1) (z.n 0) .none, [], (0 + (z.n 8) + (z.n 10)), (0 + (z.n 9) + (z.n 11) + 1), (z.n 12), (z.n 13), .ok .next, 0, 0, true, none, none, []⟩]
noncomputable def lhsCwGoNN (pg : Program) (W : Params) (b t : Nat) (z : Zs) := resM [true, true, true, true, true, true, true] (enter W (go pg W b t true (ctCwGoNN W b t z) 108) orsCwGoNN (wlC (z.n 1)) kx (cwD W z.x (z.v 0) (z.v 1) (z.i 0) (z.l 0) (z.s 0) (z.v 2) (z.n 1) (z.n 2) (z.n 3) (z.n 4) (z.s 1) (z.n 0) (.str (z.s 2) (z.n 5))) 0 0 [])
noncomputable def rhsCwGoNN (pg : Program) (W : Params) (b t : Nat) (z : Zs) : Option (Except Value PySem.Fin × Dy × Nat × Nat × List Ob) := some (.ok (.done .next), cwD W z.x (z.v 6) (z.v 7) (z.i 1) (z.l 1) (z.s 0) (z.v 8) (z.n 1) (z.n 2) (z.n 3) (z.n 4) (z.s 1) (z.n 0) .none, (0 + (z.n 8) + (z.n 10) + (z.n 12)), (0 + (z.n 9) + (z.n 11) + 1 + (z.n 13)), toldC (ctCwGoNN W b t z) [z.x.L, z.x.d, z.x.q, z.x.io, z.x.iod, z.x.fs, (z.n 1)] orsCwGoNN [] [])
end Mine
lay_z Mine.lhsCwGoNN Mine.rhsCwGoNN
namespace Mine
theorem chkCwGoNN (pg : Program) (P : Params) (r : Bool) (b t : Nat) (z : Zs) : lhsCwGoNN pg (wf P r) b t z = rhsCwGoNN pg (wf P r) b t z := by
  rw [PySem.W.ZFast.ze11660676579138716176, PySem.W.ZFast.ze9443291456979781828]
  cases r <;> kernel_rfl
theorem conCwGoNN {w : World} {N U : Nat} (hN : N ≤ 800) (b t : Nat) (z : Zs) (hct : CtOk w w.params N U b t (ctCwGoNN w.params b t z)) : ConF none [] w w.params N U (wlC (z.n 1)) (cwD w.params z.x (z.v 0) (z.v 1) (z.i 0) (z.l 0) (z.s 0) (z.v 2) (z.n 1) (z.n 2) (z.n 3) (z.n 4) (z.s 1) (z.n 0) (.str (z.s 2) (z.n 5))) (cwD w.params z.x (z.v 6) (z.v 7) (z.i 1) (z.l 1) (z.s 0) (z.v 8) (z.n 1) (z.n 2) (z.n 3) (z.n 4) (z.s 1) (z.n 0) .none) b t ((0 + (z.n 8) + (z.n 10) + (z.n 12))) ((0 + (z.n 9) + (z.n 11) + 1 + (z.n 13))) (.ok .next) := by
  have h := chkCwGoNN pw w.params (w.params.followText row1) b t z
  rw [wf_self] at h
  exact conF_of_run rfl (spOk w) hct (fr_none rfl) (z_nil rfl) hN h rfl (toldC_ok _ _ _ (fun _ h => by cases h) (fun _ h => by cases h))
noncomputable def sdW0 (tx : Str) : List Ob := [.cmp 3 1 1099511627776 false, .cmp 1 1 (-1099511627776) false, .len tx, .cmp 4 0 tx.length false, .cmp 4 1 0 true, .cmp 1 1 tx.length true, .sl tx 0 1 ⟨#[39]⟩, .cmp 4 0 3 false, .cmp 3 1 1099511627776 false, .cmp 1 1 (-1099511627776) false, .len tx, .cmp 4 1 tx.length false, .cmp 4 1 0 true, .cmp 1 2 tx.length true, .sl tx 1 2 ⟨#[105]⟩, .cmp 4 0 3 false, .cmp 3 1 1099511627776 false, .cmp 1 1 (-1099511627776) false, .len tx, .cmp 4 2 tx.length false, .cmp 4 1 0 true, .cmp 1 3 tx.length true, .sl tx 2 3 ⟨#[116]⟩, .cmp 4 0 3 false, .cmp 3 1 1099511627776 false, .cmp 1 1 (-1099511627776) false, .len tx, .cmp 4 3 tx.length false, .cmp 4 1 0 true, .cmp 1 4 tx.length true, .sl tx 3 4 ⟨#[39]⟩, .cmp 4 0 3 false, .cmp 3 1 1099511627776 false, .cmp 1 1 (-1099511627776) false, .len tx, .cmp 4 4 tx.length false, .cmp 4 1 0 true, .cmp 1 5 tx.length true, .sl tx 4 5 ⟨#[34]⟩, .cmp 4 0 3 false, .tin [⟨#[97]⟩, ⟨#[99]⟩] ⟨#[97]⟩ true, .cmp 3 1 1099511627776 false, .cmp 1 1 (-1099511627776) false, .len tx, .cmp 4 5 tx.length false, .cmp 4 1 0 true, .cmp 1 6 tx.length true, .sl tx 5 6 ⟨#[39]⟩, .cmp 4 0 3 false, .cmp 3 1 1099511627776 false, .cmp 1 1 (-1099511627776) false, .len tx, .cmp 4 6 tx.length false, .cmp 4 1 0 true, .cmp 1 7 tx.length true, .sl tx 6 7 ⟨#[34]⟩, .cmp 4 0 3 false, .cmp 3 1 1099511627776 false, .cmp 1 1 (-1099511627776) false, .len tx, .cmp 4 7 tx.length false, .cmp 4 1 0 true, .cmp 1 8 tx.length true, .sl tx 7 8 ⟨#[39]⟩, .cmp 4 0 3 false, .tin [⟨#[97]⟩, ⟨#[99]⟩] ⟨#[97]⟩ true, .cmp 3 1 1099511627776 false, .cmp 1 1 (-1099511627776) false, .len tx, .cmp 4 8 tx.length false, .cmp 4 1 0 true, .cmp 1 9 tx.length true, .sl tx 8 9 ⟨#[115]⟩, .cmp 4 0 3 false, .cmp 3 1 1099511627776 false, .cmp 1 1 (-1099511627776) false, .len tx, .cmp 4 9 tx.length false, .cmp 4 1 0 true, .cmp 1 10 tx.length true, .sl tx 9 10 ⟨#[39]⟩, .cmp 4 0 3 false, .cmp 3 1 1099511627776 false, .cmp 1 1 (-1099511627776) false, .len tx, .cmp 4 10 tx.length false, .cmp 4 1 0 true, .cmp 1 11 tx.length true, .sl tx 10 11 ⟨#[32]⟩, .cmp 4 0 3 false, .tin [⟨#[97]⟩, ⟨#[99]⟩] ⟨#[97]⟩ true, .cmp 4 0 2 false, .cmp 3 0 1 false]
noncomputable def orsW0 : List Rf := [.s, .d 5, .d 5, .d 5, .d 5, .d 5, .d 5, .d 5, .d 0, .s, .s, .s, .d 0, .s, .s, .s, .s, .s, .s, .s, .s, .s, .s, .s, .d 6, .d 6, .d 6, .d 0, .s, .s, .s, .d 0, .s, .s, .s, .d 0, .d 0, .s, .d 1, .d 5, .d 0, .s, .s, .s, .d 0, .s, .s, .s, .d 0, .d 0, .s, .d 1, .d 3, .s, .s, .s, .s, .s, .s, .s, .d 3, .s, .s, .s, .s, .s, .s, .s, .d 3, .s, .s, .s, .s, .d 3, .d 4, .s, .s, .s, .d 7, .d 7, .d 7, .d 7, .d 7, .s, .d 7, .s, .s, .d 8, .d 8, .d 8, .d 8, .s, .s, .d 8, .s, .s, .s, .s, .d 8, .d 8, .d 8, .d 8, .b false, .d 8, .b false, .d 8, .d 7, .d 7, .d 7, .d 3, .s, .s, .s, .s, .s, .s, .s, .d 3, .s, .s, .s, .s, .s, .s, .s, .d 3, .s, .s, .s, .s, .d 3, .d 4, .s, .s, .d 9, .d 9, .d 9, .d 3, .s, .s, .s, .s, .s, .s, .s, .d 3, .s, .s, .s, .s, .s, .s, .s, .d 3, .d 3, .s, .d 4, .d 7, .d 3, .s, .s, .s, .s, .s, .s, .s, .d 3, .s, .s, .s, .s, .s, .s, .s, .d 3, .d 3, .s, .d 4, .d 7, .d 7, .s, .s, .d 7, .d 3, .s, .s, .s, .s, .s, .s, .s, .d 3, .s, .s, .s, .s, .s, .s, .s, .d 3, .d 3, .s, .d 4, .n, .d 7, .d 7, .d 7, .d 7, .b false, .d 7, .b true, .d 7, .d 7, .d 7, .b true, .d 7, .d 7, .d 7, .d 7, .d 7, .d 7, .d 3, .s, .s, .s, .s, .s, .s, .s, .d 3, .s, .d 3, .s, .d 3, .s, .s, .s, .s, .s, .s, .s, .d 3, .s, .d 4, .d 4, .d 4, .d 7, .d 3, .s, .s, .s, .s, .s, .s, .s, .d 3, .s, .s, .s, .s, .s, .s, .s, .d 3, .d 3, .s, .d 4, .d 7, .d 7, .g 10 ⟨#[39]⟩, .d 5, .d 5, .d 5, .d 5, .d 0, .s, .s, .s, .d 0, .s, .s, .s, .d 0, .d 0, .s, .d 1, .b false, .d 5, .d 0, .s, .s, .s, .d 0, .s, .s, .s, .d 0, .d 0, .s, .d 1, .d 5, .d 0, .s, .s, .s, .d 0, .s, .s, .s, .d 0, .d 0, .s, .d 1, .d 5, .d 5, .d 5, .d 0, .s, .s, .s, .d 0, .s, .s, .s, .d 0, .d 0, .s, .d 1, .d 5, .d 5, .d 0, .s, .s, .s, .d 0, .s, .s, .s, .d 0, .d 0, .s, .d 1, .d 5, .d 0, .s, .s, .s, .d 0, .s, .s, .s, .d 0, .d 0, .s, .d 1, .d 5, .d 5, .d 0, .s, .s, .s, .d 0, .s, .s, .s, .d 0, .d 0, .s, .d 1, .d 5, .d 5, .d 0, .s, .s, .s, .d 0, .s, .s, .s, .d 0, .d 0, .s, .d 1, .d 5, .d 5, .d 0, .s, .s, .s, .d 0, .s, .s, .s, .s, .s, .s, .s, .s, .s, .s, .s, .d 11, .d 11, .d 11, .d 0, .s, .s, .s, .d 0, .s, .s, .s, .d 0, .d 0, .s, .d 1, .d 5, .d 5, .d 0, .s, .s, .s, .d 0, .s, .s, .s, .d 0, .d 0, .s, .d 1, .d 5, .d 0, .s, .s, .s, .d 0, .s, .s, .s, .d 0, .d 0, .s, .d 1, .d 5, .d 5, .d 0, .s, .s, .s, .d 0, .s, .d 0, .s, .d 0, .s, .s, .s, .d 0, .s, .d 1, .d 1, .d 1, .d 5, .d 0, .s, .s, .s, .d 0, .s, .s, .s, .s, .s, .s, .s, .s, .s, .s, .s, .d 12, .d 12, .d 12, .d 0, .s, .s, .s, .d 0, .s, .s, .s, .d 0, .d 0, .s, .d 1, .d 5, .d 0, .s, .s, .s, .d 0, .s, .s, .s, .d 0, .d 0, .s, .d 1, .d 3, .s, .s, .s, .s, .s, .s, .s, .d 3, .s, .s, .s, .s, .s, .s, .s, .d 3, .s, .s, .s, .s, .d 3, .d 4, .s, .s, .s, .d 13, .d 13, .d 13, .d 13, .d 13, .s, .d 13, .s, .s, .d 14, .d 14, .d 14, .d 14, .s, .s, .d 14, .s, .s, .s, .s, .d 14, .d 14, .d 14, .d 14, .b false, .d 14, .b false, .d 14, .d 13, .d 13, .d 13, .d 3, .s, .s, .s, .s, .s, .s, .s, .d 3, .s, .s, .s, .s, .s, .s, .s, .d 3, .s, .s, .s, .s, .d 3, .d 4, .s, .s, .d 15, .d 15, .d 15, .d 3, .s, .s, .s, .s, .s, .s, .s, .d 3, .s, .s, .s, .s, .s, .s, .s, .d 3, .d 3, .s, .d 4, .d 13, .d 3, .s, .s, .s, .s, .s, .s, .s, .d 3, .s, .s, .s, .s, .s, .s, .s, .d 3, .d 3, .s, .d 4, .d 13, .d 13, .s, .s, .d 13, .d 3, .s, .s, .s, .s, .s, .s, .s, .d 3, .s, .s, .s, .s, .s, .s, .s, .d 3, .d 3, .s, .d 4, .n, .d 13, .d 13, .d 13, .d 13, .b false, .d 13, .b true, .d 13, .d 13, .d 13, .b true, .d 13, .d 13, .d 13, .d 13, .d 13, .d 13, .d 3, .s, .s, .s, .s, .s, .s, .s, .d 3, .s, .d 3, .s, .d 3, .s, .s, .s, .s, .s, .s, .s, .d 3, .s, .d 4, .d 4, .d 4, .d 13, .d 3, .s, .s, .s, .s, .s, .s, .s, .d 3, .s, .s, .s, .s, .s, .s, .s, .d 3, .d 3, .s, .d 4, .d 13, .d 13, .g 16 ⟨#[105]⟩, .d 5, .d 5, .d 5, .d 5, .d 0, .s, .s, .s, .d 0, .s, .s, .s, .d 0, .d 0, .s, .d 1, .b false, .d 5, .d 0, .s, .s, .s, .d 0, .s, .s, .s, .d 0, .d 0, .s, .d 1, .d 5, .d 0, .s, .s, .s, .d 0, .s, .s, .s, .d 0, .d 0, .s, .d 1, .d 5, .d 0, .s, .s, .s, .d 0, .s, .s, .s, .d 0, .d 0, .s, .d 1, .d 5, .d 0, .s, .s, .s, .d 0, .s, .s, .s, .d 0, .d 0, .s, .d 1, .d 5, .d 5, .d 5, .d 5, .d 5, .d 0, .s, .s, .s, .d 0, .s, .s, .s, .d 0, .d 0, .s, .d 1, .d 5, .d 0, .s, .s, .s, .d 0, .s, .s, .s, .d 0, .d 0, .s, .d 1, .d 5, .d 5, .d 0, .s, .s, .s, .d 0, .s, .s, .s, .d 0, .d 0, .s, .d 1, .d 5, .d 0, .s, .s, .s, .d 0, .s, .s, .s, .d 0, .d 0, .s, .d 1, .d 5, .d 0, .s, .s, .s, .d 0, .s, .d 0, .s, .d 0, .s, .s, .s, .d 0, .s, .d 1, .d 1, .d 1, .d 5, .d 0, .s, .s, .s, .d 0, .s, .s, .s, .s, .s, .s, .s, .s, .s, .s, .s, .d 17, .d 17, .d 17, .d 0, .s, .s, .s, .d 0, .s, .s, .s, .d 0, .d 0, .s, .d 1, .d 5, .d 0, .s, .s, .s, .d 0, .s, .s, .s, .d 0, .d 0, .s, .d 1, .d 3, .s, .s, .s, .s, .s, .s, .s, .d 3, .s, .s, .s, .s, .s, .s, .s, .d 3, .s, .s, .s, .s, .d 3, .d 4, .s, .s, .s, .d 18, .d 18, .d 18, .d 18, .d 18, .s, .d 18, .s, .s, .d 19, .d 19, .d 19, .d 19, .s, .s, .d 19, .s, .s, .s, .s, .d 19, .d 19, .d 19, .d 19, .b false, .d 19, .b false, .d 19, .d 18, .d 18, .d 18, .d 3, .s, .s, .s, .s, .s, .s, .s, .d 3, .s, .s, .s, .s, .s, .s, .s, .d 3, .s, .s, .s, .s, .d 3, .d 4, .s, .s, .d 20, .d 20, .d 20, .d 3, .s, .s, .s, .s, .s, .s, .s, .d 3, .s, .s, .s, .s, .s, .s, .s, .d 3, .d 3, .s, .d 4, .d 18, .d 3, .s, .s, .s, .s, .s, .s, .s, .d 3, .s, .s, .s, .s, .s, .s, .s, .d 3, .d 3, .s, .d 4, .d 18, .d 18, .s, .s, .d 18, .d 3, .s, .s, .s, .s, .s, .s, .s, .d 3, .s, .s, .s, .s, .s, .s, .s, .d 3, .d 3, .s, .d 4, .n, .d 18, .d 18, .d 18, .d 18, .b false, .d 18, .b true, .d 18, .d 18, .d 18, .b true, .d 18, .d 18, .d 18, .d 18, .d 18, .d 18, .d 3, .s, .s, .s, .s, .s, .s, .s, .d 3, .s, .d 3, .s, .d 3, .s, .s, .s, .s, .s, .s, .s, .d 3, .s, .d 4, .d 4, .d 4, .d 18, .d 3, .s, .s, .s, .s, .s, .s, .s, .d 3, .s, .s, .s, .s, .s, .s, .s, .d 3, .d 3, .s, .d 4, .d 18, .d 18, .g 21 ⟨#[116]⟩, .d 5, .d 5, .d 5, .d 5, .d 0, .s, .s, .s, .d 0, .s, .s, .s, .d 0, .d 0, .s, .d 1, .b false, .d 5, .d 0, .s, .s, .s, .d 0, .s, .s, .s, .d 0, .d 0, .s, .d 1, .d 5, .d 0, .s, .s, .s, .d 0, .s, .s, .s, .d 0, .d 0, .s, .d 1, .d 5, .d 0, .s, .s, .s, .d 0, .s, .s, .s, .d 0, .d 0, .s, .d 1, .d 5, .d 0, .s, .s, .s, .d 0, .s, .s, .s, .d 0, .d 0, .s, .d 1, .d 5, .d 5, .d 5, .d 5, .d 5, .d 0, .s, .s, .s, .d 0, .s, .s, .s, .d 0, .d 0, .s, .d 1, .d 5, .d 0, .s, .s, .s, .d 0, .s, .s, .s, .d 0, .d 0, .s, .d 1, .d 5, .d 5, .d 0, .s, .s, .s, .d 0, .s, .s, .s, .d 0, .d 0, .s, .d 1, .d 5, .d 0, .s, .s, .s, .d 0, .s, .s, .s, .d 0, .d 0, .s, .d 1, .d 5, .d 0, .s, .s, .s, .d 0, .s, .d 0, .s, .d 0, .s, .s, .s, .d 0, .s, .d 1, .d 1, .d 1, .d 5, .d 0, .s, .s, .s, .d 0, .s, .s, .s, .s, .s, .s, .s, .s, .s, .s, .s, .d 22, .d 22, .d 22, .d 0, .s, .s, .s, .d 0, .s, .s, .s, .d 0, .d 0, .s, .d 1, .d 5, .d 0, .s, .s, .s, .d 0, .s, .s, .s, .d 0, .d 0, .s, .d 1, .d 3, .s, .s, .s, .s, .s, .s, .s, .d 3, .s, .s, .s, .s, .s, .s, .s, .d 3, .s, .s, .s, .s, .d 3, .d 4, .s, .s, .s, .d 23, .d 23, .d 23, .d 23, .d 23, .s, .d 23, .s, .s, .d 24, .d 24, .d 24, .d 24, .s, .s, .d 24, .s, .s, .s, .s, .d 24, .d 24, .d 24, .d 24, .b false, .d 24, .b false, .d 24, .d 23, .d 23, .d 23, .d 3, .s, .s, .s, .s, .s, .s, .s, .d 3, .s, .s, .s, .s, .s, .s, .s, .d 3, .s, .s, .s, .s, .d 3, .d 4, .s, .s, .d 25, .d 25, .d 25, .d 3, .s, .s, .s, .s, .s, .s, .s, .d 3, .s, .s, .s, .s, .s, .s, .s, .d 3, .d 3, .s, .d 4, .d 23, .d 3, .s, .s, .s, .s, .s, .s, .s, .d 3, .s, .s, .s, .s, .s, .s, .s, .d 3, .d 3, .s, .d 4, .d 23, .d 23, .s, .s, .d 23, .d 3, .s, .s, .s, .s, .s, .s, .s, .d 3, .s, .s, .s, .s, .s, .s, .s, .d 3, .d 3, .s, .d 4, .n, .d 23, .d 23, .d 23, .d 23, .b false, .d 23, .b true, .d 23, .d 23, .d 23, .b true, .d 23, .d 23, .d 23, .d 23, .d 23, .d 23, .d 3, .s, .s, .s, .s, .s, .s, .s, .d 3, .s, .d 3, .s, .d 3, .s, .s, .s, .s, .s, .s, .s, .d 3, .s, .d 4, .d 4, .d 4, .d 23, .d 3, .s, .s, .s, .s, .s, .s, .s, .d 3, .s, .s, .s, .s, .s, .s, .s, .d 3, .d 3, .s, .d 4, .d 23, .d 23, .g 26 ⟨#[39]⟩, .d 5, .d 5, .d 5, .d 5, .d 0, .s, .s, .s, .d 0, .s, .s, .s, .d 0, .d 0, .s, .d 1, .b false, .d 5, .d 0, .s, .s, .s, .d 0, .s, .s, .s, .d 0, .d 0, .s, .d 1, .d 5, .d 0, .s, .s, .s, .d 0, .s, .s, .s, .d 0, .d 0, .s, .d 1, .d 5, .d 0, .s, .s, .s, .d 0, .s, .s, .s, .d 0, .d 0, .s, .d 1, .d 5, .d 0, .s, .s, .s, .d 0, .s, .s, .s, .d 0, .d 0, .s, .d 1, .d 5, .d 5, .d 5, .d 5, .d 5, .d 0, .s, .s, .s, .d 0, .s, .s, .s, .d 0, .d 0, .s, .d 1, .d 5, .d 0, .s, .s, .s, .d 0, .s, .s, .s, .d 0, .d 0, .s, .d 1, .d 5, .d 0, .s, .s, .s, .d 0, .s, .d 0, .s, .d 0, .s, .s, .s, .d 0, .s, .d 1, .d 1, .d 1, .d 5, .d 0, .s, .s, .s, .d 0, .s, .s, .s, .s, .s, .s, .s, .s, .s, .s, .s, .d 27, .d 27, .d 27, .d 0, .s, .s, .s, .d 0, .s, .s, .s, .d 0, .d 0, .s, .d 1, .d 5, .d 0, .s, .s, .s, .d 0, .s, .s, .s, .d 0, .d 0, .s, .d 1, .d 3, .s, .s, .s, .s, .s, .s, .s, .d 3, .s, .s, .s, .s, .s, .s, .s, .d 3, .s, .s, .s, .s, .d 3, .d 4, .s, .s, .s, .d 28, .d 28, .d 28, .d 28, .d 28, .s, .d 28, .s, .s, .d 29, .d 29, .d 29, .d 29, .s, .s, .d 29, .s, .s, .s, .s, .d 29, .d 29, .d 29, .d 29, .b false, .d 29, .b false, .d 29, .d 28, .d 28, .d 28, .d 3, .s, .s, .s, .s, .s, .s, .s, .d 3, .s, .s, .s, .s, .s, .s, .s, .d 3, .s, .s, .s, .s, .d 3, .d 4, .s, .s, .d 30, .d 30, .d 30, .d 3, .s, .s, .s, .s, .s, .s, .s, .d 3, .s, .s, .s, .s, .s, .s, .s, .d 3, .d 3, .s, .d 4, .d 28, .d 3, .s, .s, .s, .s, .s, .s, .s, .d 3, .s, .s, .s, .s, .s, .s, .s, .d 3, .d 3, .s, .d 4, .d 28, .d 28, .s, .s, .d 28, .d 3, .s, .s, .s, .s, .s, .s, .s, .d 3, .s, .s, .s, .s, .s, .s, .s, .d 3, .d 3, .s, .d 4, .n, .d 28, .d 28, .d 28, .d 28, .b false, .d 28, .b true, .d 28, .d 28, .d 28, .b true, .d 28, .d 28, .d 28, .d 28, .d 28, .d 28, .d 3, .s, .s, .s, .s, .s, .s, .s, .d 3, .s, .d 3, .s, .d 3, .s, .s, .s, .s, .s, .s, .s, .d 3, .s, .d 4, .d 4, .d 4, .d 28, .d 3, .s, .s, .s, .s, .s, .s, .s, .d 3, .s, .s, .s, .s, .s, .s, .s, .d 3, .d 3, .s, .d 4, .d 28, .d 28, .g 31 ⟨#[34]⟩, .d 5, .d 5, .d 5, .d 5, .d 0, .s, .s, .s, .d 0, .s, .s, .s, .d 0, .d 0, .s, .d 1, .b false, .d 5, .d 0, .s, .s, .s, .d 0, .s, .s, .s, .d 0, .d 0, .s, .d 1, .d 5, .d 0, .s, .s, .s, .d 0, .s, .s, .s, .d 0, .d 0, .s, .d 1, .d 5, .d 0, .s, .s, .s, .d 0, .s, .s, .s, .d 0, .d 0, .s, .d 1, .d 5, .d 0, .s, .s, .s, .d 0, .s, .s, .s, .d 0, .d 0, .s, .d 1, .d 5, .d 0, .s, .s, .s, .d 0, .s, .s, .s, .d 0, .d 0, .s, .d 1, .d 5, .d 0, .s, .s, .s, .d 0, .s, .s, .s, .d 0, .d 0, .s, .d 1, .d 5, .d 0, .s, .s, .s, .d 0, .s, .s, .s, .d 0, .d 0, .s, .d 1, .d 32, .d 32, .t 32 true, .d 5, .d 5, .d 5, .d 0, .s, .s, .s, .d 0, .s, .s, .s, .d 0, .d 0, .s, .d 1, .d 5, .d 5, .d 0, .s, .s, .s, .d 0, .s, .s, .s, .d 0, .d 0, .s, .d 1, .d 5, .d 0, .s, .s, .s, .d 0, .s, .s, .s, .d 0, .d 0, .s, .d 1, .d 5, .d 0, .s, .s, .s, .d 0, .s, .s, .s, .d 0, .d 0, .s, .d 1, .d 5, .d 5, .d 0, .s, .s, .s, .d 0, .s, .s, .s, .d 0, .d 0, .s, .d 1, .d 5, .d 5, .d 0, .s, .s, .s, .d 0, .s, .d 0, .s, .d 0, .s, .s, .s, .d 0, .s, .d 1, .d 1, .d 1, .d 5, .d 0, .s, .s, .s, .d 0, .s, .s, .s, .s, .s, .s, .s, .s, .s, .s, .s, .d 33, .d 33, .d 33, .d 0, .s, .s, .s, .d 0, .s, .s, .s, .d 0, .d 0, .s, .d 1, .d 5, .d 0, .s, .s, .s, .d 0, .s, .s, .s, .d 0, .d 0, .s, .d 1, .d 3, .s, .s, .s, .s, .s, .s, .s, .d 3, .s, .s, .s, .s, .s, .s, .s, .d 3, .s, .s, .s, .s, .d 3, .d 4, .s, .s, .s, .d 34, .d 34, .d 34, .d 34, .d 34, .s, .d 34, .s, .s, .d 35, .d 35, .d 35, .d 35, .s, .s, .d 35, .s, .s, .s, .s, .d 35, .d 35, .d 35, .d 35, .b false, .d 35, .b false, .d 35, .d 34, .d 34, .d 34, .d 3, .s, .s, .s, .s, .s, .s, .s, .d 3, .s, .s, .s, .s, .s, .s, .s, .d 3, .s, .s, .s, .s, .d 3, .d 4, .s, .s, .d 36, .d 36, .d 36, .d 3, .s, .s, .s, .s, .s, .s, .s, .d 3, .s, .s, .s, .s, .s, .s, .s, .d 3, .d 3, .s, .d 4, .d 34, .d 3, .s, .s, .s, .s, .s, .s, .s, .d 3, .s, .s, .s, .s, .s, .s, .s, .d 3, .d 3, .s, .d 4, .d 34, .d 34, .s, .s, .d 34, .d 3, .s, .s, .s, .s, .s, .s, .s, .d 3, .s, .s, .s, .s, .s, .s, .s, .d 3, .d 3, .s, .d 4, .n, .d 34, .d 34, .d 34, .d 34, .b false, .d 34, .b true, .d 34, .d 34, .d 34, .b true, .d 34, .d 34, .d 34, .d 34, .d 34, .d 34, .d 3, .s, .s, .s, .s, .s, .s, .s, .d 3, .s, .d 3, .s, .d 3, .s, .s, .s, .s, .s, .s, .s, .d 3, .s, .d 4, .d 4, .d 4, .d 34, .d 3, .s, .s, .s, .s, .s, .s, .s, .d 3, .s, .s, .s, .s, .s, .s, .s, .d 3, .d 3, .s, .d 4, .d 34, .d 34, .g 37 ⟨#[39]⟩, .d 5, .d 5, .d 5, .d 5, .d 0, .s, .s, .s, .d 0, .s, .s, .s, .d 0, .d 0, .s, .d 1, .b false, .d 5, .d 0, .s, .s, .s, .d 0, .s, .s, .s, .d 0, .d 0, .s, .d 1, .d 5, .d 0, .s, .s, .s, .d 0, .s, .s, .s, .d 0, .d 0, .s, .d 1, .d 5, .d 0, .s, .s, .s, .d 0, .s, .s, .s, .d 0, .d 0, .s, .d 1, .d 5, .d 0, .s, .s, .s, .d 0, .s, .s, .s, .d 0, .d 0, .s, .d 1, .d 5, .d 5, .d 5, .d 5, .d 5, .d 0, .s, .s, .s, .d 0, .s, .s, .s, .d 0, .d 0, .s, .d 1, .d 5, .d 0, .s, .s, .s, .d 0, .s, .s, .s, .d 0, .d 0, .s, .d 1, .d 5, .d 5, .d 0, .s, .s, .s, .d 0, .s, .s, .s, .d 0, .d 0, .s, .d 1, .d 5, .d 0, .s, .s, .s, .d 0, .s, .s, .s, .d 0, .d 0, .s, .d 1, .d 5, .d 0, .s, .s, .s, .d 0, .s, .d 0, .s, .d 0, .s, .s, .s, .d 0, .s, .d 1, .d 1, .d 1, .d 5, .d 0, .s, .s, .s, .d 0, .s, .s, .s, .s, .s, .s, .s, .s, .s, .s, .s, .d 38, .d 38, .d 38, .d 0, .s, .s, .s, .d 0, .s, .s, .s, .d 0, .d 0, .s, .d 1, .d 5, .d 0, .s, .s, .s, .d 0, .s, .s, .s, .d 0, .d 0, .s, .d 1, .d 3, .s, .s, .s, .s, .s, .s, .s, .d 3, .s, .s, .s, .s, .s, .s, .s, .d 3, .s, .s, .s, .s, .d 3, .d 4, .s, .s, .s, .d 39, .d 39, .d 39, .d 39, .d 39, .s, .d 39, .s, .s, .d 40, .d 40, .d 40, .d 40, .s, .s, .d 40, .s, .s, .s, .s, .d 40, .d 40, .d 40, .d 40, .b false, .d 40, .b false, .d 40, .d 39, .d 39, .d 39, .d 3, .s, .s, .s, .s, .s, .s, .s, .d 3, .s, .s, .s, .s, .s, .s, .s, .d 3, .s, .s, .s, .s, .d 3, .d 4, .s, .s, .d 41, .d 41, .d 41, .d 3, .s, .s, .s, .s, .s, .s, .s, .d 3, .s, .s, .s, .s, .s, .s, .s, .d 3, .d 3, .s, .d 4, .d 39, .d 3, .s, .s, .s, .s, .s, .s, .s, .d 3, .s, .s, .s, .s, .s, .s, .s, .d 3, .d 3, .s, .d 4, .d 39, .d 39, .s, .s, .d 39, .d 3, .s, .s, .s, .s, .s, .s, .s, .d 3, .s, .s, .s, .s, .s, .s, .s, .d 3, .d 3, .s, .d 4, .n, .d 39, .d 39, .d 39, .d 39, .b false, .d 39, .b true, .d 39, .d 39, .d 39, .b true, .d 39, .d 39, .d 39, .d 39, .d 39, .d 39, .d 3, .s, .s, .s, .s, .s, .s, .s, .d 3, .s, .d 3, .s, .d 3, .s, .s, .s, .s, .s, .s, .s, .d 3, .s, .d 4, .d 4, .d 4, .d 39, .d 3, .s, .s, .s, .s, .s, .s, .s, .d 3, .s, .s, .s, .s, .s, .s, .s, .d 3, .d 3, .s, .d 4, .d 39, .d 39, .g 42 ⟨#[34]⟩, .d 5, .d 5, .d 5, .d 5, .d 0, .s, .s, .s, .d 0, .s, .s, .s, .d 0, .d 0, .s, .d 1, .b false, .d 5, .d 0, .s, .s, .s, .d 0, .s, .s, .s, .d 0, .d 0, .s, .d 1, .d 5, .d 0, .s, .s, .s, .d 0, .s, .s, .s, .d 0, .d 0, .s, .d 1, .d 5, .d 0, .s, .s, .s, .d 0, .s, .s, .s, .d 0, .d 0, .s, .d 1, .d 5, .d 0, .s, .s, .s, .d 0, .s, .s, .s, .d 0, .d 0, .s, .d 1, .d 5, .d 5, .d 5, .d 5, .d 5, .d 0, .s, .s, .s, .d 0, .s, .s, .s, .d 0, .d 0, .s, .d 1, .d 5, .d 0, .s, .s, .s, .d 0, .s, .s, .s, .d 0, .d 0, .s, .d 1, .d 5, .d 0, .s, .s, .s, .d 0, .s, .d 0, .s, .d 0, .s, .s, .s, .d 0, .s, .d 1, .d 1, .d 1, .d 5, .d 0, .s, .s, .s, .d 0, .s, .s, .s, .s, .s, .s, .s, .s, .s, .s, .s, .d 43, .d 43, .d 43, .d 0, .s, .s, .s, .d 0, .s, .s, .s, .d 0, .d 0, .s, .d 1, .d 5, .d 0, .s, .s, .s, .d 0, .s, .s, .s, .d 0, .d 0, .s, .d 1, .d 3, .s, .s, .s, .s, .s, .s, .s, .d 3, .s, .s, .s, .s, .s, .s, .s, .d 3, .s, .s, .s, .s, .d 3, .d 4, .s, .s, .s, .d 44, .d 44, .d 44, .d 44, .d 44, .s, .d 44, .s, .s, .d 45, .d 45, .d 45, .d 45, .s, .s, .d 45, .s, .s, .s, .s, .d 45, .d 45, .d 45, .d 45, .b false, .d 45, .b false, .d 45, .d 44, .d 44, .d 44, .d 3, .s, .s, .s, .s, .s, .s, .s, .d 3, .s, .s, .s, .s, .s, .s, .s, .d 3, .s, .s, .s, .s, .d 3, .d 4, .s, .s, .d 46, .d 46, .d 46, .d 3, .s, .s, .s, .s, .s, .s, .s, .d 3, .s, .s, .s, .s, .s, .s, .s, .d 3, .d 3, .s, .d 4, .d 44, .d 3, .s, .s, .s, .s, .s, .s, .s, .d 3, .s, .s, .s, .s, .s, .s, .s, .d 3, .d 3, .s, .d 4, .d 44, .d 44, .s, .s, .d 44, .d 3, .s, .s, .s, .s, .s, .s, .s, .d 3, .s, .s, .s, .s, .s, .s, .s, .d 3, .d 3, .s, .d 4, .n, .d 44, .d 44, .d 44, .d 44, .b false, .d 44, .b true, .d 44, .d 44, .d 44, .b true, .d 44, .d 44, .d 44, .d 44, .d 44, .d 44, .d 3, .s, .s, .s, .s, .s, .s, .s, .d 3, .s, .d 3, .s, .d 3, .s, .s, .s, .s, .s, .s, .s, .d 3, .s, .d 4, .d 4, .d 4, .d 44, .d 3, .s, .s, .s, .s, .s, .s, .s, .d 3, .s, .s, .s, .s, .s, .s, .s, .d 3, .d 3, .s, .d 4, .d 44, .d 44, .g 47 ⟨#[39]⟩, .d 5, .d 5, .d 5, .d 5, .d 0, .s, .s, .s, .d 0, .s, .s, .s, .d 0, .d 0, .s, .d 1, .b false, .d 5, .d 0, .s, .s, .s, .d 0, .s, .s, .s, .d 0, .d 0, .s, .d 1, .d 5, .d 0, .s, .s, .s, .d 0, .s, .s, .s, .d 0, .d 0, .s, .d 1, .d 5, .d 0, .s, .s, .s, .d 0, .s, .s, .s, .d 0, .d 0, .s, .d 1, .d 5, .d 0, .s, .s, .s, .d 0, .s, .s, .s, .d 0, .d 0, .s, .d 1, .d 5, .d 0, .s, .s, .s, .d 0, .s, .s, .s, .d 0, .d 0, .s, .d 1, .d 5, .d 0, .s, .s, .s, .d 0, .s, .s, .s, .d 0, .d 0, .s, .d 1, .d 5, .d 0, .s, .s, .s, .d 0, .s, .s, .s, .d 0, .d 0, .s, .d 1, .d 48, .d 48, .t 48 true, .d 5, .d 5, .d 5, .d 0, .s, .s, .s, .d 0, .s, .s, .s, .d 0, .d 0, .s, .d 1, .d 5, .d 5, .d 0, .s, .s, .s, .d 0, .s, .s, .s, .d 0, .d 0, .s, .d 1, .d 5, .d 0, .s, .s, .s, .d 0, .s, .s, .s, .d 0, .d 0, .s, .d 1, .d 5, .d 0, .s, .s, .s, .d 0, .s, .s, .s, .d 0, .d 0, .s, .d 1, .d 5, .d 5, .d 0, .s, .s, .s, .d 0, .s, .s, .s, .d 0, .d 0, .s, .d 1, .d 5, .d 5, .d 0, .s, .s, .s, .d 0, .s, .d 0, .s, .d 0, .s, .s, .s, .d 0, .s, .d 1, .d 1, .d 1, .d 5, .d 0, .s, .s, .s, .d 0, .s, .s, .s, .s, .s, .s, .s, .s, .s, .s, .s, .d 49, .d 49, .d 49, .d 0, .s, .s, .s, .d 0, .s, .s, .s, .d 0, .d 0, .s, .d 1, .d 5, .d 0, .s, .s, .s, .d 0, .s, .s, .s, .d 0, .d 0, .s, .d 1, .d 3, .s, .s, .s, .s, .s, .s, .s, .d 3, .s, .s, .s, .s, .s, .s, .s, .d 3, .s, .s, .s, .s, .d 3, .d 4, .s, .s, .s, .d 50, .d 50, .d 50, .d 50, .d 50, .s, .d 50, .s, .s, .d 51, .d 51, .d 51, .d 51, .s, .s, .d 51, .s, .s, .s, .s, .d 51, .d 51, .d 51, .d 51, .b false, .d 51, .b false, .d 51, .d 50, .d 50, .d 50, .d 3, .s, .s, .s, .s, .s, .s, .s, .d 3, .s, .s, .s, .s, .s, .s, .s, .d 3, .s, .s, .s, .s, .d 3, .d 4, .s, .s, .d 52, .d 52, .d 52, .d 3, .s, .s, .s, .s, .s, .s, .s, .d 3, .s, .s, .s, .s, .s, .s, .s, .d 3, .d 3, .s, .d 4, .d 50, .d 3, .s, .s, .s, .s, .s, .s, .s, .d 3, .s, .s, .s, .s, .s, .s, .s, .d 3, .d 3, .s, .d 4, .d 50, .d 50, .s, .s, .d 50, .d 3, .s, .s, .s, .s, .s, .s, .s, .d 3, .s, .s, .s, .s, .s, .s, .s, .d 3, .d 3, .s, .d 4, .n, .d 50, .d 50, .d 50, .d 50, .b false, .d 50, .b true, .d 50, .d 50, .d 50, .b true, .d 50, .d 50, .d 50, .d 50, .d 50, .d 50, .d 3, .s, .s, .s, .s, .s, .s, .s, .d 3, .s, .d 3, .s, .d 3, .s, .s, .s, .s, .s, .s, .s, .d 3, .s, .d 4, .d 4, .d 4, .d 50, .d 3, .s, .s, .s, .s, .s, .s, .s, .d 3, .s, .s, .s, .s, .s, .s, .s, .d 3, .d 3, .s, .d 4, .d 50, .d 50, .g 53 ⟨#[115]⟩, .d 5, .d 5, .d 5, .d 5, .d 0, .s, .s, .s, .d 0, .s, .s, .s, .d 0, .d 0, .s, .d 1, .b false, .d 5, .d 0, .s, .s, .s, .d 0, .s, .s, .s, .d 0, .d 0, .s, .d 1, .d 5, .d 0, .s, .s, .s, .d 0, .s, .s, .s, .d 0, .d 0, .s, .d 1, .d 5, .d 0, .s, .s, .s, .d 0, .s, .s, .s, .d 0, .d 0, .s, .d 1, .d 5, .d 0, .s, .s, .s, .d 0, .s, .s, .s, .d 0, .d 0, .s, .d 1, .d 5, .d 5, .d 5, .d 5, .d 5, .d 0, .s, .s, .s, .d 0, .s, .s, .s, .d 0, .d 0, .s, .d 1, .d 5, .d 0, .s, .s, .s, .d 0, .s, .s, .s, .d 0, .d 0, .s, .d 1, .d 5, .d 5, .d 0, .s, .s, .s, .d 0, .s, .s, .s, .d 0, .d 0, .s, .d 1, .d 5, .d 0, .s, .s, .s, .d 0, .s, .s, .s, .d 0, .d 0, .s, .d 1, .d 5, .d 0, .s, .s, .s, .d 0, .s, .d 0, .s, .d 0, .s, .s, .s, .d 0, .s, .d 1, .d 1, .d 1, .d 5, .d 0, .s, .s, .s, .d 0, .s, .s, .s, .s, .s, .s, .s, .s, .s, .s, .s, .d 54, .d 54, .d 54, .d 0, .s, .s, .s, .d 0, .s, .s, .s, .d 0, .d 0, .s, .d 1, .d 5, .d 0, .s, .s, .s, .d 0, .s, .s, .s, .d 0, .d 0, .s, .d 1, .d 3, .s, .s, .s, .s, .s, .s, .s, .d 3, .s, .s, .s, .s, .s, .s, .s, .d 3, .s, .s, .s, .s, .d 3, .d 4, .s, .s, .s, .d 55, .d 55, .d 55, .d 55, .d 55, .s, .d 55, .s, .s, .d 56, .d 56, .d 56, .d 56, .s, .s, .d 56, .s, .s, .s, .s, .d 56, .d 56, .d 56, .d 56, .b false, .d 56, .b false, .d 56, .d 55, .d 55, .d 55, .d 3, .s, .s, .s, .s, .s, .s, .s, .d 3, .s, .s, .s, .s, .s, .s, .s, .d 3, .s, .s, .s, .s, .d 3, .d 4, .s, .s, .d 57, .d 57, .d 57, .d 3, .s, .s, .s, .s, .s, .s, .s, .d 3, .s, .s, .s, .s, .s, .s, .s, .d 3, .d 3, .s, .d 4, .d 55, .d 3, .s, .s, .s, .s, .s, .s, .s, .d 3, .s, .s, .s, .s, .s, .s, .s, .d 3, .d 3, .s, .d 4, .d 55, .d 55, .s, .s, .d 55, .d 3, .s, .s, .s, .s, .s, .s, .s, .d 3, .s, .s, .s, .s, .s, .s, .s, .d 3, .d 3, .s, .d 4, .n, .d 55, .d 55, .d 55, .d 55, .b false, .d 55, .b true, .d 55, .d 55, .d 55, .b true, .d 55, .d 55, .d 55, .d 55, .d 55, .d 55, .d 3, .s, .s, .s, .s, .s, .s, .s, .d 3, .s, .d 3, .s, .d 3, .s, .s, .s, .s, .s, .s, .s, .d 3, .s, .d 4, .d 4, .d 4, .d 55, .d 3, .s, .s, .s, .s, .s, .s, .s, .d 3, .s, .s, .s, .s, .s, .s, .s, .d 3, .d 3, .s, .d 4, .d 55, .d 55, .g 58 ⟨#[39]⟩, .d 5, .d 5, .d 5, .d 5, .d 0, .s, .s, .s, .d 0, .s, .s, .s, .d 0, .d 0, .s, .d 1, .b false, .d 5, .d 0, .s, .s, .s, .d 0, .s, .s, .s, .d 0, .d 0, .s, .d 1, .d 5, .d 0, .s, .s, .s, .d 0, .s, .s, .s, .d 0, .d 0, .s, .d 1, .d 5, .d 0, .s, .s, .s, .d 0, .s, .s, .s, .d 0, .d 0, .s, .d 1, .d 5, .d 0, .s, .s, .s, .d 0, .s, .s, .s, .d 0, .d 0, .s, .d 1, .d 5, .d 5, .d 5, .d 5, .d 5, .d 0, .s, .s, .s, .d 0, .s, .s, .s, .d 0, .d 0, .s, .d 1, .d 5, .d 0, .s, .s, .s, .d 0, .s, .s, .s, .d 0, .d 0, .s, .d 1, .d 5, .d 0, .s, .s, .s, .d 0, .s, .d 0, .s, .d 0, .s, .s, .s, .d 0, .s, .d 1, .d 1, .d 1, .d 5, .d 0, .s, .s, .s, .d 0, .s, .s, .s, .s, .s, .s, .s, .s, .s, .s, .s, .d 59, .d 59, .d 59, .d 0, .s, .s, .s, .d 0, .s, .s, .s, .d 0, .d 0, .s, .d 1, .d 5, .d 0, .s, .s, .s, .d 0, .s, .s, .s, .d 0, .d 0, .s, .d 1, .d 3, .s, .s, .s, .s, .s, .s, .s, .d 3, .s, .s, .s, .s, .s, .s, .s, .d 3, .s, .s, .s, .s, .d 3, .d 4, .s, .s, .s, .d 60, .d 60, .d 60, .d 60, .d 60, .s, .d 60, .s, .s, .d 61, .d 61, .d 61, .d 61, .s, .s, .d 61, .s, .s, .s, .s, .d 61, .d 61, .d 61, .d 61, .b false, .d 61, .b false, .d 61, .d 60, .d 60, .d 60, .d 3, .s, .s, .s, .s, .s, .s, .s, .d 3, .s, .s, .s, .s, .s, .s, .s, .d 3, .s, .s, .s, .s, .d 3, .d 4, .s, .s, .d 62, .d 62, .d 62, .d 3, .s, .s, .s, .s, .s, .s, .s, .d 3, .s, .s, .s, .s, .s, .s, .s, .d 3, .d 3, .s, .d 4, .d 60, .d 3, .s, .s, .s, .s, .s, .s, .s, .d 3, .s, .s, .s, .s, .s, .s, .s, .d 3, .d 3, .s, .d 4, .d 60, .d 60, .s, .s, .d 60, .d 3, .s, .s, .s, .s, .s, .s, .s, .d 3, .s, .s, .s, .s, .s, .s, .s, .d 3, .d 3, .s, .d 4, .n, .d 60, .d 60, .d 60, .d 60, .b false, .d 60, .b true, .d 60, .d 60, .d 60, .b true, .d 60, .d 60, .d 60, .d 60, .d 60, .d 60, .d 3, .s, .s, .s, .s, .s, .s, .s, .d 3, .s, .d 3, .s, .d 3, .s, .s, .s, .s, .s, .s, .s, .d 3, .s, .d 4, .d 4, .d 4, .d 60, .d 3, .s, .s, .s, .s, .s, .s, .s, .d 3, .s, .s, .s, .s, .s, .s, .s, .d 3, .d 3, .s, .d 4, .d 60, .d 60, .g 63 ⟨#[32]⟩, .d 5, .d 5, .d 5, .d 5, .d 0, .s, .s, .s, .d 0, .s, .s, .s, .d 0, .d 0, .s, .d 1, .b false, .d 5, .d 0, .s, .s, .s, .d 0, .s, .s, .s, .d 0, .d 0, .s, .d 1, .d 5, .d 0, .s, .s, .s, .d 0, .s, .s, .s, .d 0, .d 0, .s, .d 1, .d 5, .d 0, .s, .s, .s, .d 0, .s, .s, .s, .d 0, .d 0, .s, .d 1, .d 5, .d 0, .s, .s, .s, .d 0, .s, .s, .s, .d 0, .d 0, .s, .d 1, .d 5, .d 0, .s, .s, .s, .d 0, .s, .s, .s, .d 0, .d 0, .s, .d 1, .d 5, .d 0, .s, .s, .s, .d 0, .s, .s, .s, .d 0, .d 0, .s, .d 1, .d 5, .d 0, .s, .s, .s, .d 0, .s, .s, .s, .d 0, .d 0, .s, .d 1, .d 64, .d 64, .t 64 true, .d 5, .d 5, .d 5, .d 0, .s, .s, .s, .d 0, .s, .s, .s, .d 0, .d 0, .s, .d 1, .d 5, .d 0, .s, .s, .s, .d 0, .s, .s, .s, .d 0, .d 0, .s, .d 1, .b false, .d 5, .d 0, .s, .s, .s, .d 0, .s, .d 0, .s, .d 0, .s, .s, .s, .d 0, .s, .d 1, .d 1, .d 1, .d 5, .d 0, .s, .s, .s, .d 0, .s, .s, .s, .d 0, .d 0, .s, .d 1, .d 5, .d 0, .s, .s, .s, .d 0, .s, .s, .s, .d 0, .d 0, .s, .d 1, .d 5, .d 5, .d 5, .d 0, .s, .s, .s, .d 0, .s, .d 0, .s, .d 0, .s, .s, .s, .d 0, .s, .d 1, .d 1, .d 1, .d 5, .d 0, .s, .s, .s, .d 0, .s, .s, .s, .d 0, .d 0, .s, .d 1, .d 5, .d 5, .d 0, .s, .s, .s, .d 0, .s, .s, .s, .d 0, .d 0, .s, .d 1, .b false, .d 5]
noncomputable def lhsW0 (pg : Program) (W : Params) (b t : Nat) (z : Zs) := resM m5 (enter W (go pg W b t true noCt 8745) orsW0 (.call (.ref 700) ⟨[.ref z.x.L], []⟩) kx (lexD W z.x (.str ⟨#[32]⟩ (z.n 0)) (.str ⟨#[]⟩ (z.n 1)) (z.i 0) (z.l 0) (z.s 0) (.int 0 (z.n 2))) 0 0 [])
noncomputable def rhsW0 (pg : Program) (W : Params) (b t : Nat) (z : Zs) : Option (Except Value PySem.Fin × Dy × Nat × Nat × List Ob) := some (.ok (.done (.ret (.str ⟨#[105, 116, 39, 115]⟩ (t + 476)))), lexD W z.x (.str ⟨#[32]⟩ (t + 581)) (.str ⟨#[]⟩ (t + 589)) (z.i 0) (z.l 0) (z.s 0) (.int 11 (t + 556)), 60, 595, toldC noCt [z.x.L, z.x.d, z.x.q, z.x.io, z.x.iod, (b + 0), (b + 1), (b + 2), (b + 3), (b + 4), (b + 5), (b + 6), (b + 7), (b + 8), (b + 9), (b + 10), (b + 11), (b + 12), (b + 13), (b + 14), (b + 15), (b + 16), (b + 17), (b + 18), (b + 19), (b + 20), (b + 21), (b + 22), (b + 23), (b + 24), (b + 25), (b + 26), (b + 27), (b + 28), (b + 29), (b + 30), (b + 31), (b + 32), (b + 33), (b + 34), (b + 35), (b + 36), (b + 37), (b + 38), (b + 39), (b + 40), (b + 41), (b + 42), (b + 43), (b + 44), (b + 45), (b + 46), (b + 47), (b + 48), (b + 49), (b + 50), (b + 51), (b + 52), (b + 53), (b + 54), (b + 55), (b + 56), (b + 57), (b + 58), (b + 59)] orsW0 (sdW0 (z.s 0)) [])
end Mine
lay_z Mine.lhsW0 Mine.rhsW0
namespace Mine
theorem chkW0 (pg : Program) (P : Params) (r : Bool) (b t : Nat) (z : Zs) : lhsW0 pg (wf P r) b t z = rhsW0 pg (wf P r) b t z := by
  rw [PySem.W.ZFast.ze17228617589154213003, PySem.W.ZFast.ze4094998253800822115]
  cases r <;> kernel_rfl
theorem conW0 {w : World} {N U : Nat} (hN : N ≤ 800) (b t : Nat) (z : Zs) (hsd : ∀ y ∈ ((sdW0 (z.s 0)) : List Ob), y.ok) : ConF none [] w w.params N U (.call (.ref 700) ⟨[.ref z.x.L], []⟩) (lexD w.params z.x (.str ⟨#[32]⟩ (z.n 0)) (.str ⟨#[]⟩ (z.n 1)) (z.i 0) (z.l 0) (z.s 0) (.int 0 (z.n 2))) (lexD w.params z.x (.str ⟨#[32]⟩ (t + 581)) (.str ⟨#[]⟩ (t + 589)) (z.i 0) (z.l 0) (z.s 0) (.int 11 (t + 556))) b t (60) (595) (.ok (.ret (.str ⟨#[105, 116, 39, 115]⟩ (t + 476)))) := by
  have h := chkW0 pw w.params (w.params.followText row1) b t z
  rw [wf_self] at h
  exact conF_of_run rfl (spOk w) noCt_ok (fun _ h => by cases h) (fun _ h => by cases h) hN h rfl (toldC_ok _ _ _ hsd (fun _ h => by cases h))
noncomputable def sdW1 (tx : Str) : List Ob := [.cmp 3 1 1099511627776 false, .cmp 1 1 (-1099511627776) false, .len tx, .cmp 4 11 tx.length false, .cmp 4 1 0 true, .cmp 1 12 tx.length true, .sl tx 11 12 ⟨#[39]⟩, .cmp 4 0 3 false, .cmp 3 1 1099511627776 false, .cmp 1 1 (-1099511627776) false, .len tx, .cmp 4 12 tx.length false, .cmp 4 1 0 true, .cmp 1 13 tx.length true, .sl tx 12 13 ⟨#[97]⟩, .cmp 4 0 3 false, .cmp 3 1 1099511627776 false, .cmp 1 1 (-1099511627776) false, .len tx, .cmp 4 13 tx.length false, .cmp 4 1 0 true, .cmp 1 14 tx.length true, .sl tx 13 14 ⟨#[32]⟩, .cmp 4 0 3 false, .cmp 3 1 1099511627776 false, .cmp 1 1 (-1099511627776) false, .len tx, .cmp 4 14 tx.length false, .cmp 4 1 0 true, .cmp 1 15 tx.length true, .sl tx 14 15 ⟨#[98]⟩, .cmp 4 0 3 false, .cmp 3 1 1099511627776 false, .cmp 1 1 (-1099511627776) false, .len tx, .cmp 4 15 tx.length false, .cmp 4 1 0 true, .cmp 1 16 tx.length true, .sl tx 15 16 ⟨#[39]⟩, .cmp 4 0 3 false, .cmp 3 1 1099511627776 false, .cmp 1 1 (-1099511627776) false, .len tx, .cmp 4 16 tx.length false, .cmp 4 1 0 true, .cmp 1 17 tx.length true, .sl tx 16 17 ⟨#[32]⟩, .cmp 4 0 3 false, .tin [⟨#[97]⟩, ⟨#[99]⟩] ⟨#[97]⟩ true, .cmp 4 0 2 false, .cmp 3 0 1 false]
noncomputable def orsW1 : List Rf := [.s, .d 5, .d 5, .d 5, .d 5, .d 5, .d 5, .d 5, .d 0, .s, .s, .s, .d 0, .s, .s, .s, .s, .s, .s, .s, .s, .s, .s, .s, .d 6, .d 6, .d 6, .d 0, .s, .s, .s, .d 0, .s, .s, .s, .d 0, .d 0, .s, .d 1, .d 5, .d 0, .s, .s, .s, .d 0, .s, .s, .s, .d 0, .d 0, .s, .d 1, .d 3, .s, .s, .s, .s, .s, .s, .s, .d 3, .s, .s, .s, .s, .s, .s, .s, .d 3, .s, .s, .s, .s, .d 3, .d 4, .s, .s, .s, .d 7, .d 7, .d 7, .d 7, .d 7, .s, .d 7, .s, .s, .d 8, .d 8, .d 8, .d 8, .s, .s, .d 8, .s, .s, .s, .s, .d 8, .d 8, .d 8, .d 8, .b false, .d 8, .b false, .d 8, .d 7, .d 7, .d 7, .d 3, .s, .s, .s, .s, .s, .s, .s, .d 3, .s, .s, .s, .s, .s, .s, .s, .d 3, .s, .s, .s, .s, .d 3, .d 4, .s, .s, .d 9, .d 9, .d 9, .d 3, .s, .s, .s, .s, .s, .s, .s, .d 3, .s, .s, .s, .s, .s, .s, .s, .d 3, .d 3, .s, .d 4, .d 7, .d 3, .s, .s, .s, .s, .s, .s, .s, .d 3, .s, .s, .s, .s, .s, .s, .s, .d 3, .d 3, .s, .d 4, .d 7, .d 7, .s, .s, .d 7, .d 3, .s, .s, .s, .s, .s, .s, .s, .d 3, .s, .s, .s, .s, .s, .s, .s, .d 3, .d 3, .s, .d 4, .n, .d 7, .d 7, .d 7, .d 7, .b false, .d 7, .b true, .d 7, .d 7, .d 7, .b true, .d 7, .d 7, .d 7, .d 7, .d 7, .d 7, .d 3, .s, .s, .s, .s, .s, .s, .s, .d 3, .s, .d 3, .s, .d 3, .s, .s, .s, .s, .s, .s, .s, .d 3, .s, .d 4, .d 4, .d 4, .d 7, .d 3, .s, .s, .s, .s, .s, .s, .s, .d 3, .s, .s, .s, .s, .s, .s, .s, .d 3, .d 3, .s, .d 4, .d 7, .d 7, .g 10 ⟨#[39]⟩, .d 5, .d 5, .d 5, .d 5, .d 0, .s, .s, .s, .d 0, .s, .s, .s, .d 0, .d 0, .s, .d 1, .b false, .d 5, .d 0, .s, .s, .s, .d 0, .s, .s, .s, .d 0, .d 0, .s, .d 1, .d 5, .d 0, .s, .s, .s, .d 0, .s, .s, .s, .d 0, .d 0, .s, .d 1, .d 5, .d 5, .d 5, .d 0, .s, .s, .s, .d 0, .s, .s, .s, .d 0, .d 0, .s, .d 1, .d 5, .d 5, .d 0, .s, .s, .s, .d 0, .s, .s, .s, .d 0, .d 0, .s, .d 1, .d 5, .d 0, .s, .s, .s, .d 0, .s, .s, .s, .d 0, .d 0, .s, .d 1, .d 5, .d 5, .d 0, .s, .s, .s, .d 0, .s, .s, .s, .d 0, .d 0, .s, .d 1, .d 5, .d 5, .d 0, .s, .s, .s, .d 0, .s, .s, .s, .d 0, .d 0, .s, .d 1, .d 5, .d 5, .d 0, .s, .s, .s, .d 0, .s, .s, .s, .s, .s, .s, .s, .s, .s, .s, .s, .d 11, .d 11, .d 11, .d 0, .s, .s, .s, .d 0, .s, .s, .s, .d 0, .d 0, .s, .d 1, .d 5, .d 5, .d 0, .s, .s, .s, .d 0, .s, .s, .s, .d 0, .d 0, .s, .d 1, .d 5, .d 0, .s, .s, .s, .d 0, .s, .s, .s, .d 0, .d 0, .s, .d 1, .d 5, .d 5, .d 0, .s, .s, .s, .d 0, .s, .d 0, .s, .d 0, .s, .s, .s, .d 0, .s, .d 1, .d 1, .d 1, .d 5, .d 0, .s, .s, .s, .d 0, .s, .s, .s, .s, .s, .s, .s, .s, .s, .s, .s, .d 12, .d 12, .d 12, .d 0, .s, .s, .s, .d 0, .s, .s, .s, .d 0, .d 0, .s, .d 1, .d 5, .d 0, .s, .s, .s, .d 0, .s, .s, .s, .d 0, .d 0, .s, .d 1, .d 3, .s, .s, .s, .s, .s, .s, .s, .d 3, .s, .s, .s, .s, .s, .s, .s, .d 3, .s, .s, .s, .s, .d 3, .d 4, .s, .s, .s, .d 13, .d 13, .d 13, .d 13, .d 13, .s, .d 13, .s, .s, .d 14, .d 14, .d 14, .d 14, .s, .s, .d 14, .s, .s, .s, .s, .d 14, .d 14, .d 14, .d 14, .b false, .d 14, .b false, .d 14, .d 13, .d 13, .d 13, .d 3, .s, .s, .s, .s, .s, .s, .s, .d 3, .s, .s, .s, .s, .s, .s, .s, .d 3, .s, .s, .s, .s, .d 3, .d 4, .s, .s, .d 15, .d 15, .d 15, .d 3, .s, .s, .s, .s, .s, .s, .s, .d 3, .s, .s, .s, .s, .s, .s, .s, .d 3, .d 3, .s, .d 4, .d 13, .d 3, .s, .s, .s, .s, .s, .s, .s, .d 3, .s, .s, .s, .s, .s, .s, .s, .d 3, .d 3, .s, .d 4, .d 13, .d 13, .s, .s, .d 13, .d 3, .s, .s, .s, .s, .s, .s, .s, .d 3, .s, .s, .s, .s, .s, .s, .s, .d 3, .d 3, .s, .d 4, .n, .d 13, .d 13, .d 13, .d 13, .b false, .d 13, .b true, .d 13, .d 13, .d 13, .b true, .d 13, .d 13, .d 13, .d 13, .d 13, .d 13, .d 3, .s, .s, .s, .s, .s, .s, .s, .d 3, .s, .d 3, .s, .d 3, .s, .s, .s, .s, .s, .s, .s, .d 3, .s, .d 4, .d 4, .d 4, .d 13, .d 3, .s, .s, .s, .s, .s, .s, .s, .d 3, .s, .s, .s, .s, .s, .s, .s, .d 3, .d 3, .s, .d 4, .d 13, .d 13, .g 16 ⟨#[97]⟩, .d 5, .d 5, .d 5, .d 5, .d 0, .s, .s, .s, .d 0, .s, .s, .s, .d 0, .d 0, .s, .d 1, .b false, .d 5, .d 0, .s, .s, .s, .d 0, .s, .s, .s, .d 0, .d 0, .s, .d 1, .d 5, .d 0, .s, .s, .s, .d 0, .s, .s, .s, .d 0, .d 0, .s, .d 1, .d 5, .d 0, .s, .s, .s, .d 0, .s, .s, .s, .d 0, .d 0, .s, .d 1, .d 5, .d 0, .s, .s, .s, .d 0, .s, .s, .s, .d 0, .d 0, .s, .d 1, .d 5, .d 5, .d 5, .d 5, .d 5, .d 0, .s, .s, .s, .d 0, .s, .s, .s, .d 0, .d 0, .s, .d 1, .d 5, .d 0, .s, .s, .s, .d 0, .s, .s, .s, .d 0, .d 0, .s, .d 1, .d 5, .d 5, .d 0, .s, .s, .s, .d 0, .s, .s, .s, .d 0, .d 0, .s, .d 1, .d 5, .d 0, .s, .s, .s, .d 0, .s, .s, .s, .d 0, .d 0, .s, .d 1, .d 5, .d 0, .s, .s, .s, .d 0, .s, .d 0, .s, .d 0, .s, .s, .s, .d 0, .s, .d 1, .d 1, .d 1, .d 5, .d 0, .s, .s, .s, .d 0, .s, .s, .s, .s, .s, .s, .s, .s, .s, .s, .s, .d 17, .d 17, .d 17, .d 0, .s, .s, .s, .d 0, .s, .s, .s, .d 0, .d 0, .s, .d 1, .d 5, .d 0, .s, .s, .s, .d 0, .s, .s, .s, .d 0, .d 0, .s, .d 1, .d 3, .s, .s, .s, .s, .s, .s, .s, .d 3, .s, .s, .s, .s, .s, .s, .s, .d 3, .s, .s, .s, .s, .d 3, .d 4, .s, .s, .s, .d 18, .d 18, .d 18, .d 18, .d 18, .s, .d 18, .s, .s, .d 19, .d 19, .d 19, .d 19, .s, .s, .d 19, .s, .s, .s, .s, .d 19, .d 19, .d 19, .d 19, .b false, .d 19, .b false, .d 19, .d 18, .d 18, .d 18, .d 3, .s, .s, .s, .s, .s, .s, .s, .d 3, .s, .s, .s, .s, .s, .s, .s, .d 3, .s, .s, .s, .s, .d 3, .d 4, .s, .s, .d 20, .d 20, .d 20, .d 3, .s, .s, .s, .s, .s, .s, .s, .d 3, .s, .s, .s, .s, .s, .s, .s, .d 3, .d 3, .s, .d 4, .d 18, .d 3, .s, .s, .s, .s, .s, .s, .s, .d 3, .s, .s, .s, .s, .s, .s, .s, .d 3, .d 3, .s, .d 4, .d 18, .d 18, .s, .s, .d 18, .d 3, .s, .s, .s, .s, .s, .s, .s, .d 3, .s, .s, .s, .s, .s, .s, .s, .d 3, .d 3, .s, .d 4, .n, .d 18, .d 18, .d 18, .d 18, .b false, .d 18, .b true, .d 18, .d 18, .d 18, .b true, .d 18, .d 18, .d 18, .d 18, .d 18, .d 18, .d 3, .s, .s, .s, .s, .s, .s, .s, .d 3, .s, .d 3, .s, .d 3, .s, .s, .s, .s, .s, .s, .s, .d 3, .s, .d 4, .d 4, .d 4, .d 18, .d 3, .s, .s, .s, .s, .s, .s, .s, .d 3, .s, .s, .s, .s, .s, .s, .s, .d 3, .d 3, .s, .d 4, .d 18, .d 18, .g 21 ⟨#[32]⟩, .d 5, .d 5, .d 5, .d 5, .d 0, .s, .s, .s, .d 0, .s, .s, .s, .d 0, .d 0, .s, .d 1, .b false, .d 5, .d 0, .s, .s, .s, .d 0, .s, .s, .s, .d 0, .d 0, .s, .d 1, .d 5, .d 0, .s, .s, .s, .d 0, .s, .s, .s, .d 0, .d 0, .s, .d 1, .d 5, .d 0, .s, .s, .s, .d 0, .s, .s, .s, .d 0, .d 0, .s, .d 1, .d 5, .d 0, .s, .s, .s, .d 0, .s, .s, .s, .d 0, .d 0, .s, .d 1, .d 5, .d 5, .d 5, .d 5, .d 5, .d 0, .s, .s, .s, .d 0, .s, .s, .s, .d 0, .d 0, .s, .d 1, .d 5, .d 0, .s, .s, .s, .d 0, .s, .s, .s, .d 0, .d 0, .s, .d 1, .d 5, .d 5, .d 0, .s, .s, .s, .d 0, .s, .s, .s, .d 0, .d 0, .s, .d 1, .d 5, .d 0, .s, .s, .s, .d 0, .s, .s, .s, .d 0, .d 0, .s, .d 1, .d 5, .d 0, .s, .s, .s, .d 0, .s, .d 0, .s, .d 0, .s, .s, .s, .d 0, .s, .d 1, .d 1, .d 1, .d 5, .d 0, .s, .s, .s, .d 0, .s, .s, .s, .s, .s, .s, .s, .s, .s, .s, .s, .d 22, .d 22, .d 22, .d 0, .s, .s, .s, .d 0, .s, .s, .s, .d 0, .d 0, .s, .d 1, .d 5, .d 0, .s, .s, .s, .d 0, .s, .s, .s, .d 0, .d 0, .s, .d 1, .d 3, .s, .s, .s, .s, .s, .s, .s, .d 3, .s, .s, .s, .s, .s, .s, .s, .d 3, .s, .s, .s, .s, .d 3, .d 4, .s, .s, .s, .d 23, .d 23, .d 23, .d 23, .d 23, .s, .d 23, .s, .s, .d 24, .d 24, .d 24, .d 24, .s, .s, .d 24, .s, .s, .s, .s, .d 24, .d 24, .d 24, .d 24, .b false, .d 24, .b false, .d 24, .d 23, .d 23, .d 23, .d 3, .s, .s, .s, .s, .s, .s, .s, .d 3, .s, .s, .s, .s, .s, .s, .s, .d 3, .s, .s, .s, .s, .d 3, .d 4, .s, .s, .d 25, .d 25, .d 25, .d 3, .s, .s, .s, .s, .s, .s, .s, .d 3, .s, .s, .s, .s, .s, .s, .s, .d 3, .d 3, .s, .d 4, .d 23, .d 3, .s, .s, .s, .s, .s, .s, .s, .d 3, .s, .s, .s, .s, .s, .s, .s, .d 3, .d 3, .s, .d 4, .d 23, .d 23, .s, .s, .d 23, .d 3, .s, .s, .s, .s, .s, .s, .s, .d 3, .s, .s, .s, .s, .s, .s, .s, .d 3, .d 3, .s, .d 4, .n, .d 23, .d 23, .d 23, .d 23, .b false, .d 23, .b true, .d 23, .d 23, .d 23, .b true, .d 23, .d 23, .d 23, .d 23, .d 23, .d 23, .d 3, .s, .s, .s, .s, .s, .s, .s, .d 3, .s, .d 3, .s, .d 3, .s, .s, .s, .s, .s, .s, .s, .d 3, .s, .d 4, .d 4, .d 4, .d 23, .d 3, .s, .s, .s, .s, .s, .s, .s, .d 3, .s, .s, .s, .s, .s, .s, .s, .d 3, .d 3, .s, .d 4, .d 23, .d 23, .g 26 ⟨#[98]⟩, .d 5, .d 5, .d 5, .d 5, .d 0, .s, .s, .s, .d 0, .s, .s, .s, .d 0, .d 0, .s, .d 1, .b false, .d 5, .d 0, .s, .s, .s, .d 0, .s, .s, .s, .d 0, .d 0, .s, .d 1, .d 5, .d 0, .s, .s, .s, .d 0, .s, .s, .s, .d 0, .d 0, .s, .d 1, .d 5, .d 0, .s, .s, .s, .d 0, .s, .s, .s, .d 0, .d 0, .s, .d 1, .d 5, .d 0, .s, .s, .s, .d 0, .s, .s, .s, .d 0, .d 0, .s, .d 1, .d 5, .d 5, .d 5, .d 5, .d 5, .d 0, .s, .s, .s, .d 0, .s, .s, .s, .d 0, .d 0, .s, .d 1, .d 5, .d 0, .s, .s, .s, .d 0, .s, .s, .s, .d 0, .d 0, .s, .d 1, .d 5, .d 5, .d 0, .s, .s, .s, .d 0, .s, .s, .s, .d 0, .d 0, .s, .d 1, .d 5, .d 0, .s, .s, .s, .d 0, .s, .s, .s, .d 0, .d 0, .s, .d 1, .d 5, .d 0, .s, .s, .s, .d 0, .s, .d 0, .s, .d 0, .s, .s, .s, .d 0, .s, .d 1, .d 1, .d 1, .d 5, .d 0, .s, .s, .s, .d 0, .s, .s, .s, .s, .s, .s, .s, .s, .s, .s, .s, .d 27, .d 27, .d 27, .d 0, .s, .s, .s, .d 0, .s, .s, .s, .d 0, .d 0, .s, .d 1, .d 5, .d 0, .s, .s, .s, .d 0, .s, .s, .s, .d 0, .d 0, .s, .d 1, .d 3, .s, .s, .s, .s, .s, .s, .s, .d 3, .s, .s, .s, .s, .s, .s, .s, .d 3, .s, .s, .s, .s, .d 3, .d 4, .s, .s, .s, .d 28, .d 28, .d 28, .d 28, .d 28, .s, .d 28, .s, .s, .d 29, .d 29, .d 29, .d 29, .s, .s, .d 29, .s, .s, .s, .s, .d 29, .d 29, .d 29, .d 29, .b false, .d 29, .b false, .d 29, .d 28, .d 28, .d 28, .d 3, .s, .s, .s, .s, .s, .s, .s, .d 3, .s, .s, .s, .s, .s, .s, .s, .d 3, .s, .s, .s, .s, .d 3, .d 4, .s, .s, .d 30, .d 30, .d 30, .d 3, .s, .s, .s, .s, .s, .s, .s, .d 3, .s, .s, .s, .s, .s, .s, .s, .d 3, .d 3, .s, .d 4, .d 28, .d 3, .s, .s, .s, .s, .s, .s, .s, .d 3, .s, .s, .s, .s, .s, .s, .s, .d 3, .d 3, .s, .d 4, .d 28, .d 28, .s, .s, .d 28, .d 3, .s, .s, .s, .s, .s, .s, .s, .d 3, .s, .s, .s, .s, .s, .s, .s, .d 3, .d 3, .s, .d 4, .n, .d 28, .d 28, .d 28, .d 28, .b false, .d 28, .b true, .d 28, .d 28, .d 28, .b true, .d 28, .d 28, .d 28, .d 28, .d 28, .d 28, .d 3, .s, .s, .s, .s, .s, .s, .s, .d 3, .s, .d 3, .s, .d 3, .s, .s, .s, .s, .s, .s, .s, .d 3, .s, .d 4, .d 4, .d 4, .d 28, .d 3, .s, .s, .s, .s, .s, .s, .s, .d 3, .s, .s, .s, .s, .s, .s, .s, .d 3, .d 3, .s, .d 4, .d 28, .d 28, .g 31 ⟨#[39]⟩, .d 5, .d 5, .d 5, .d 5, .d 0, .s, .s, .s, .d 0, .s, .s, .s, .d 0, .d 0, .s, .d 1, .b false, .d 5, .d 0, .s, .s, .s, .d 0, .s, .s, .s, .d 0, .d 0, .s, .d 1, .d 5, .d 0, .s, .s, .s, .d 0, .s, .s, .s, .d 0, .d 0, .s, .d 1, .d 5, .d 0, .s, .s, .s, .d 0, .s, .s, .s, .d 0, .d 0, .s, .d 1, .d 5, .d 0, .s, .s, .s, .d 0, .s, .s, .s, .d 0, .d 0, .s, .d 1, .d 5, .d 5, .d 5, .d 5, .d 5, .d 0, .s, .s, .s, .d 0, .s, .s, .s, .d 0, .d 0, .s, .d 1, .d 5, .d 0, .s, .s, .s, .d 0, .s, .s, .s, .d 0, .d 0, .s, .d 1, .d 5, .d 0, .s, .s, .s, .d 0, .s, .d 0, .s, .d 0, .s, .s, .s, .d 0, .s, .d 1, .d 1, .d 1, .d 5, .d 0, .s, .s, .s, .d 0, .s, .s, .s, .s, .s, .s, .s, .s, .s, .s, .s, .d 32, .d 32, .d 32, .d 0, .s, .s, .s, .d 0, .s, .s, .s, .d 0, .d 0, .s, .d 1, .d 5, .d 0, .s, .s, .s, .d 0, .s, .s, .s, .d 0, .d 0, .s, .d 1, .d 3, .s, .s, .s, .s, .s, .s, .s, .d 3, .s, .s, .s, .s, .s, .s, .s, .d 3, .s, .s, .s, .s, .d 3, .d 4, .s, .s, .s, .d 33, .d 33, .d 33, .d 33, .d 33, .s, .d 33, .s, .s, .d 34, .d 34, .d 34, .d 34, .s, .s, .d 34, .s, .s, .s, .s, .d 34, .d 34, .d 34, .d 34, .b false, .d 34, .b false, .d 34, .d 33, .d 33, .d 33, .d 3, .s, .s, .s, .s, .s, .s, .s, .d 3, .s, .s, .s, .s, .s, .s, .s, .d 3, .s, .s, .s, .s, .d 3, .d 4, .s, .s, .d 35, .d 35, .d 35, .d 3, .s, .s, .s, .s, .s, .s, .s, .d 3, .s, .s, .s, .s, .s, .s, .s, .d 3, .d 3, .s, .d 4, .d 33, .d 3, .s, .s, .s, .s, .s, .s, .s, .d 3, .s, .s, .s, .s, .s, .s, .s, .d 3, .d 3, .s, .d 4, .d 33, .d 33, .s, .s, .d 33, .d 3, .s, .s, .s, .s, .s, .s, .s, .d 3, .s, .s, .s, .s, .s, .s, .s, .d 3, .d 3, .s, .d 4, .n, .d 33, .d 33, .d 33, .d 33, .b false, .d 33, .b true, .d 33, .d 33, .d 33, .b true, .d 33, .d 33, .d 33, .d 33, .d 33, .d 33, .d 3, .s, .s, .s, .s, .s, .s, .s, .d 3, .s, .d 3, .s, .d 3, .s, .s, .s, .s, .s, .s, .s, .d 3, .s, .d 4, .d 4, .d 4, .d 33, .d 3, .s, .s, .s, .s, .s, .s, .s, .d 3, .s, .s, .s, .s, .s, .s, .s, .d 3, .d 3, .s, .d 4, .d 33, .d 33, .g 36 ⟨#[32]⟩, .d 5, .d 5, .d 5, .d 5, .d 0, .s, .s, .s, .d 0, .s, .s, .s, .d 0, .d 0, .s, .d 1, .b false, .d 5, .d 0, .s, .s, .s, .d 0, .s, .s, .s, .d 0, .d 0, .s, .d 1, .d 5, .d 0, .s, .s, .s, .d 0, .s, .s, .s, .d 0, .d 0, .s, .d 1, .d 5, .d 0, .s, .s, .s, .d 0, .s, .s, .s, .d 0, .d 0, .s, .d 1, .d 5, .d 0, .s, .s, .s, .d 0, .s, .s, .s, .d 0, .d 0, .s, .d 1, .d 5, .d 0, .s, .s, .s, .d 0, .s, .s, .s, .d 0, .d 0, .s, .d 1, .d 5, .d 0, .s, .s, .s, .d 0, .s, .s, .s, .d 0, .d 0, .s, .d 1, .d 5, .d 0, .s, .s, .s, .d 0, .s, .s, .s, .d 0, .d 0, .s, .d 1, .d 37, .d 37, .t 37 true, .d 5, .d 5, .d 5, .d 0, .s, .s, .s, .d 0, .s, .s, .s, .d 0, .d 0, .s, .d 1, .d 5, .d 0, .s, .s, .s, .d 0, .s, .s, .s, .d 0, .d 0, .s, .d 1, .b false, .d 5, .d 0, .s, .s, .s, .d 0, .s, .d 0, .s, .d 0, .s, .s, .s, .d 0, .s, .d 1, .d 1, .d 1, .d 5, .d 0, .s, .s, .s, .d 0, .s, .s, .s, .d 0, .d 0, .s, .d 1, .d 5, .d 0, .s, .s, .s, .d 0, .s, .s, .s, .d 0, .d 0, .s, .d 1, .d 5, .d 5, .d 5, .d 0, .s, .s, .s, .d 0, .s, .d 0, .s, .d 0, .s, .s, .s, .d 0, .s, .d 1, .d 1, .d 1, .d 5, .d 0, .s, .s, .s, .d 0, .s, .s, .s, .d 0, .d 0, .s, .d 1, .d 5, .d 5, .d 0, .s, .s, .s, .d 0, .s, .s, .s, .d 0, .d 0, .s, .d 1, .b false, .d 5]
noncomputable def lhsW1 (pg : Program) (W : Params) (b t : Nat) (z : Zs) := resM m5 (enter W (go pg W b t true noCt 4841) orsW1 (.call (.ref 700) ⟨[.ref z.x.L], []⟩) kx (lexD W z.x (.str ⟨#[32]⟩ (z.n 0)) (.str ⟨#[]⟩ (z.n 1)) (z.i 0) (z.l 0) (z.s 0) (.int 11 (z.n 2))) 0 0 [])
noncomputable def rhsW1 (pg : Program) (W : Params) (b t : Nat) (z : Zs) : Option (Except Value PySem.Fin × Dy × Nat × Nat × List Ob) := some (.ok (.done (.ret (.str ⟨#[97, 32, 98]⟩ (t + 210)))), lexD W z.x (.str ⟨#[32]⟩ (t + 315)) (.str ⟨#[]⟩ (t + 323)) (z.i 0) (z.l 0) (z.s 0) (.int 17 (t + 290)), 33, 329, toldC noCt [z.x.L, z.x.d, z.x.q, z.x.io, z.x.iod, (b + 0), (b + 1), (b + 2), (b + 3), (b + 4), (b + 5), (b + 6), (b + 7), (b + 8), (b + 9), (b + 10), (b + 11), (b + 12), (b + 13), (b + 14), (b + 15), (b + 16), (b + 17), (b + 18), (b + 19), (b + 20), (b + 21), (b + 22), (b + 23), (b + 24), (b + 25), (b + 26), (b + 27), (b + 28), (b + 29), (b + 30), (b + 31), (b + 32)] orsW1 (sdW1 (z.s 0)) [])
end Mine
lay_z Mine.lhsW1 Mine.rhsW1
namespace Mine
theorem chkW1 (pg : Program) (P : Params) (r : Bool) (b t : Nat) (z : Zs) : lhsW1 pg (wf P r) b t z = rhsW1 pg (wf P r) b t z := by
  rw [PySem.W.ZFast.ze5158395790403272738, PySem.W.ZFast.ze16657799604029859632]
  cases r <;> kernel_rfl
theorem conW1 {w : World} {N U : Nat} (hN : N ≤ 800) (b t : Nat) (z : Zs) (hsd : ∀ y ∈ ((sdW1 (z.s 0)) : List Ob), y.ok) : ConF none [] w w.params N U (.call (.ref 700) ⟨[.ref z.x.L], []⟩) (lexD w.params z.x (.str ⟨#[32]⟩ (z.n 0)) (.str ⟨#[]⟩ (z.n 1)) (z.i 0) (z.l 0) (z.s 0) (.int 11 (z.n 2))) (lexD w.params z.x (.str ⟨#[32]⟩ (t + 315)) (.str ⟨#[]⟩ (t + 323)) (z.i 0) (z.l 0) (z.s 0) (.int 17 (t + 290))) b t (33) (329) (.ok (.ret (.str ⟨#[97, 32, 98]⟩ (t + 210)))) := by
  have h := chkW1 pw w.params (w.params.followText row1) b t z
  rw [wf_self] at h
  exact conF_of_run rfl (spOk w) noCt_ok (fun _ h => by cases h) (fun _ h => by cases h) hN h rfl (toldC_ok _ _ _ hsd (fun _ h => by cases h))
noncomputable def sdW2 (tx : Str) : List Ob := [.cmp 3 1 1099511627776 false, .cmp 1 1 (-1099511627776) false, .len tx, .cmp 4 17 tx.length false, .cmp 4 1 0 true, .cmp 1 18 tx.length true, .sl tx 17 18 ⟨#[39]⟩, .cmp 4 0 3 false, .cmp 3 1 1099511627776 false, .cmp 1 1 (-1099511627776) false, .len tx, .cmp 4 18 tx.length false, .cmp 4 1 0 true, .cmp 1 19 tx.length true, .sl tx 18 19 ⟨#[35]⟩, .cmp 4 0 3 false, .cmp 3 1 1099511627776 false, .cmp 1 1 (-1099511627776) false, .len tx, .cmp 4 19 tx.length false, .cmp 4 1 0 true, .cmp 1 20 tx.length true, .sl tx 19 20 ⟨#[39]⟩, .cmp 4 0 3 false, .cmp 3 1 1099511627776 false, .cmp 1 1 (-1099511627776) false, .len tx, .cmp 4 20 tx.length false, .cmp 4 1 0 true, .cmp 1 21 tx.length true, .sl tx 20 21 ⟨#[32]⟩, .cmp 4 0 3 false, .tin [⟨#[97]⟩, ⟨#[99]⟩] ⟨#[97]⟩ true, .cmp 4 0 2 false, .cmp 3 0 1 false]
noncomputable def orsW2 : List Rf := [.s, .d 5, .d 5, .d 5, .d 5, .d 5, .d 5, .d 5, .d 0, .s, .s, .s, .d 0, .s, .s, .s, .s, .s, .s, .s, .s, .s, .s, .s, .d 6, .d 6, .d 6, .d 0, .s, .s, .s, .d 0, .s, .s, .s, .d 0, .d 0, .s, .d 1, .d 5, .d 0, .s, .s, .s, .d 0, .s, .s, .s, .d 0, .d 0, .s, .d 1, .d 3, .s, .s, .s, .s, .s, .s, .s, .d 3, .s, .s, .s, .s, .s, .s, .s, .d 3, .s, .s, .s, .s, .d 3, .d 4, .s, .s, .s, .d 7, .d 7, .d 7, .d 7, .d 7, .s, .d 7, .s, .s, .d 8, .d 8, .d 8, .d 8, .s, .s, .d 8, .s, .s, .s, .s, .d 8, .d 8, .d 8, .d 8, .b false, .d 8, .b false, .d 8, .d 7, .d 7, .d 7, .d 3, .s, .s, .s, .s, .s, .s, .s, .d 3, .s, .s, .s, .s, .s, .s, .s, .d 3, .s, .s, .s, .s, .d 3, .d 4, .s, .s, .d 9, .d 9, .d 9, .d 3, .s, .s, .s, .s, .s, .s, .s, .d 3, .s, .s, .s, .s, .s, .s, .s, .d 3, .d 3, .s, .d 4, .d 7, .d 3, .s, .s, .s, .s, .s, .s, .s, .d 3, .s, .s, .s, .s, .s, .s, .s, .d 3, .d 3, .s, .d 4, .d 7, .d 7, .s, .s, .d 7, .d 3, .s, .s, .s, .s, .s, .s, .s, .d 3, .s, .s, .s, .s, .s, .s, .s, .d 3, .d 3, .s, .d 4, .n, .d 7, .d 7, .d 7, .d 7, .b false, .d 7, .b true, .d 7, .d 7, .d 7, .b true, .d 7, .d 7, .d 7, .d 7, .d 7, .d 7, .d 3, .s, .s, .s, .s, .s, .s, .s, .d 3, .s, .d 3, .s, .d 3, .s, .s, .s, .s, .s, .s, .s, .d 3, .s, .d 4, .d 4, .d 4, .d 7, .d 3, .s, .s, .s, .s, .s, .s, .s, .d 3, .s, .s, .s, .s, .s, .s, .s, .d 3, .d 3, .s, .d 4, .d 7, .d 7, .g 10 ⟨#[39]⟩, .d 5, .d 5, .d 5, .d 5, .d 0, .s, .s, .s, .d 0, .s, .s, .s, .d 0, .d 0, .s, .d 1, .b false, .d 5, .d 0, .s, .s, .s, .d 0, .s, .s, .s, .d 0, .d 0, .s, .d 1, .d 5, .d 0, .s, .s, .s, .d 0, .s, .s, .s, .d 0, .d 0, .s, .d 1, .d 5, .d 5, .d 5, .d 0, .s, .s, .s, .d 0, .s, .s, .s, .d 0, .d 0, .s, .d 1, .d 5, .d 5, .d 0, .s, .s, .s, .d 0, .s, .s, .s, .d 0, .d 0, .s, .d 1, .d 5, .d 0, .s, .s, .s, .d 0, .s, .s, .s, .d 0, .d 0, .s, .d 1, .d 5, .d 5, .d 0, .s, .s, .s, .d 0, .s, .s, .s, .d 0, .d 0, .s, .d 1, .d 5, .d 5, .d 0, .s, .s, .s, .d 0, .s, .s, .s, .d 0, .d 0, .s, .d 1, .d 5, .d 5, .d 0, .s, .s, .s, .d 0, .s, .s, .s, .s, .s, .s, .s, .s, .s, .s, .s, .d 11, .d 11, .d 11, .d 0, .s, .s, .s, .d 0, .s, .s, .s, .d 0, .d 0, .s, .d 1, .d 5, .d 5, .d 0, .s, .s, .s, .d 0, .s, .s, .s, .d 0, .d 0, .s, .d 1, .d 5, .d 0, .s, .s, .s, .d 0, .s, .s, .s, .d 0, .d 0, .s, .d 1, .d 5, .d 5, .d 0, .s, .s, .s, .d 0, .s, .d 0, .s, .d 0, .s, .s, .s, .d 0, .s, .d 1, .d 1, .d 1, .d 5, .d 0, .s, .s, .s, .d 0, .s, .s, .s, .s, .s, .s, .s, .s, .s, .s, .s, .d 12, .d 12, .d 12, .d 0, .s, .s, .s, .d 0, .s, .s, .s, .d 0, .d 0, .s, .d 1, .d 5, .d 0, .s, .s, .s, .d 0, .s, .s, .s, .d 0, .d 0, .s, .d 1, .d 3, .s, .s, .s, .s, .s, .s, .s, .d 3, .s, .s, .s, .s, .s, .s, .s, .d 3, .s, .s, .s, .s, .d 3, .d 4, .s, .s, .s, .d 13, .d 13, .d 13, .d 13, .d 13, .s, .d 13, .s, .s, .d 14, .d 14, .d 14, .d 14, .s, .s, .d 14, .s, .s, .s, .s, .d 14, .d 14, .d 14, .d 14, .b false, .d 14, .b false, .d 14, .d 13, .d 13, .d 13, .d 3, .s, .s, .s, .s, .s, .s, .s, .d 3, .s, .s, .s, .s, .s, .s, .s, .d 3, .s, .s, .s, .s, .d 3, .d 4, .s, .s, .d 15, .d 15, .d 15, .d 3, .s, .s, .s, .s, .s, .s, .s, .d 3, .s, .s, .s, .s, .s, .s, .s, .d 3, .d 3, .s, .d 4, .d 13, .d 3, .s, .s, .s, .s, .s, .s, .s, .d 3, .s, .s, .s, .s, .s, .s, .s, .d 3, .d 3, .s, .d 4, .d 13, .d 13, .s, .s, .d 13, .d 3, .s, .s, .s, .s, .s, .s, .s, .d 3, .s, .s, .s, .s, .s, .s, .s, .d 3, .d 3, .s, .d 4, .n, .d 13, .d 13, .d 13, .d 13, .b false, .d 13, .b true, .d 13, .d 13, .d 13, .b true, .d 13, .d 13, .d 13, .d 13, .d 13, .d 13, .d 3, .s, .s, .s, .s, .s, .s, .s, .d 3, .s, .d 3, .s, .d 3, .s, .s, .s, .s, .s, .s, .s, .d 3, .s, .d 4, .d 4, .d 4, .d 13, .d 3, .s, .s, .s, .s, .s, .s, .s, .d 3, .s, .s, .s, .s, .s, .s, .s, .d 3, .d 3, .s, .d 4, .d 13, .d 13, .g 16 ⟨#[35]⟩, .d 5, .d 5, .d 5, .d 5, .d 0, .s, .s, .s, .d 0, .s, .s, .s, .d 0, .d 0, .s, .d 1, .b false, .d 5, .d 0, .s, .s, .s, .d 0, .s, .s, .s, .d 0, .d 0, .s, .d 1, .d 5, .d 0, .s, .s, .s, .d 0, .s, .s, .s, .d 0, .d 0, .s, .d 1, .d 5, .d 0, .s, .s, .s, .d 0, .s, .s, .s, .d 0, .d 0, .s, .d 1, .d 5, .d 0, .s, .s, .s, .d 0, .s, .s, .s, .d 0, .d 0, .s, .d 1, .d 5, .d 5, .d 5, .d 5, .d 5, .d 0, .s, .s, .s, .d 0, .s, .s, .s, .d 0, .d 0, .s, .d 1, .d 5, .d 0, .s, .s, .s, .d 0, .s, .s, .s, .d 0, .d 0, .s, .d 1, .d 5, .d 5, .d 0, .s, .s, .s, .d 0, .s, .s, .s, .d 0, .d 0, .s, .d 1, .d 5, .d 0, .s, .s, .s, .d 0, .s, .s, .s, .d 0, .d 0, .s, .d 1, .d 5, .d 0, .s, .s, .s, .d 0, .s, .d 0, .s, .d 0, .s, .s, .s, .d 0, .s, .d 1, .d 1, .d 1, .d 5, .d 0, .s, .s, .s, .d 0, .s, .s, .s, .s, .s, .s, .s, .s, .s, .s, .s, .d 17, .d 17, .d 17, .d 0, .s, .s, .s, .d 0, .s, .s, .s, .d 0, .d 0, .s, .d 1, .d 5, .d 0, .s, .s, .s, .d 0, .s, .s, .s, .d 0, .d 0, .s, .d 1, .d 3, .s, .s, .s, .s, .s, .s, .s, .d 3, .s, .s, .s, .s, .s, .s, .s, .d 3, .s, .s, .s, .s, .d 3, .d 4, .s, .s, .s, .d 18, .d 18, .d 18, .d 18, .d 18, .s, .d 18, .s, .s, .d 19, .d 19, .d 19, .d 19, .s, .s, .d 19, .s, .s, .s, .s, .d 19, .d 19, .d 19, .d 19, .b false, .d 19, .b false, .d 19, .d 18, .d 18, .d 18, .d 3, .s, .s, .s, .s, .s, .s, .s, .d 3, .s, .s, .s, .s, .s, .s, .s, .d 3, .s, .s, .s, .s, .d 3, .d 4, .s, .s, .d 20, .d 20, .d 20, .d 3, .s, .s, .s, .s, .s, .s, .s, .d 3, .s, .s, .s, .s, .s, .s, .s, .d 3, .d 3, .s, .d 4, .d 18, .d 3, .s, .s, .s, .s, .s, .s, .s, .d 3, .s, .s, .s, .s, .s, .s, .s, .d 3, .d 3, .s, .d 4, .d 18, .d 18, .s, .s, .d 18, .d 3, .s, .s, .s, .s, .s, .s, .s, .d 3, .s, .s, .s, .s, .s, .s, .s, .d 3, .d 3, .s, .d 4, .n, .d 18, .d 18, .d 18, .d 18, .b false, .d 18, .b true, .d 18, .d 18, .d 18, .b true, .d 18, .d 18, .d 18, .d 18, .d 18, .d 18, .d 3, .s, .s, .s, .s, .s, .s, .s, .d 3, .s, .d 3, .s, .d 3, .s, .s, .s, .s, .s, .s, .s, .d 3, .s, .d 4, .d 4, .d 4, .d 18, .d 3, .s, .s, .s, .s, .s, .s, .s, .d 3, .s, .s, .s, .s, .s, .s, .s, .d 3, .d 3, .s, .d 4, .d 18, .d 18, .g 21 ⟨#[39]⟩, .d 5, .d 5, .d 5, .d 5, .d 0, .s, .s, .s, .d 0, .s, .s, .s, .d 0, .d 0, .s, .d 1, .b false, .d 5, .d 0, .s, .s, .s, .d 0, .s, .s, .s, .d 0, .d 0, .s, .d 1, .d 5, .d 0, .s, .s, .s, .d 0, .s, .s, .s, .d 0, .d 0, .s, .d 1, .d 5, .d 0, .s, .s, .s, .d 0, .s, .s, .s, .d 0, .d 0, .s, .d 1, .d 5, .d 0, .s, .s, .s, .d 0, .s, .s, .s, .d 0, .d 0, .s, .d 1, .d 5, .d 5, .d 5, .d 5, .d 5, .d 0, .s, .s, .s, .d 0, .s, .s, .s, .d 0, .d 0, .s, .d 1, .d 5, .d 0, .s, .s, .s, .d 0, .s, .s, .s, .d 0, .d 0, .s, .d 1, .d 5, .d 0, .s, .s, .s, .d 0, .s, .d 0, .s, .d 0, .s, .s, .s, .d 0, .s, .d 1, .d 1, .d 1, .d 5, .d 0, .s, .s, .s, .d 0, .s, .s, .s, .s, .s, .s, .s, .s, .s, .s, .s, .d 22, .d 22, .d 22, .d 0, .s, .s, .s, .d 0, .s, .s, .s, .d 0, .d 0, .s, .d 1, .d 5, .d 0, .s, .s, .s, .d 0, .s, .s, .s, .d 0, .d 0, .s, .d 1, .d 3, .s, .s, .s, .s, .s, .s, .s, .d 3, .s, .s, .s, .s, .s, .s, .s, .d 3, .s, .s, .s, .s, .d 3, .d 4, .s, .s, .s, .d 23, .d 23, .d 23, .d 23, .d 23, .s, .d 23, .s, .s, .d 24, .d 24, .d 24, .d 24, .s, .s, .d 24, .s, .s, .s, .s, .d 24, .d 24, .d 24, .d 24, .b false, .d 24, .b false, .d 24, .d 23, .d 23, .d 23, .d 3, .s, .s, .s, .s, .s, .s, .s, .d 3, .s, .s, .s, .s, .s, .s, .s, .d 3, .s, .s, .s, .s, .d 3, .d 4, .s, .s, .d 25, .d 25, .d 25, .d 3, .s, .s, .s, .s, .s, .s, .s, .d 3, .s, .s, .s, .s, .s, .s, .s, .d 3, .d 3, .s, .d 4, .d 23, .d 3, .s, .s, .s, .s, .s, .s, .s, .d 3, .s, .s, .s, .s, .s, .s, .s, .d 3, .d 3, .s, .d 4, .d 23, .d 23, .s, .s, .d 23, .d 3, .s, .s, .s, .s, .s, .s, .s, .d 3, .s, .s, .s, .s, .s, .s, .s, .d 3, .d 3, .s, .d 4, .n, .d 23, .d 23, .d 23, .d 23, .b false, .d 23, .b true, .d 23, .d 23, .d 23, .b true, .d 23, .d 23, .d 23, .d 23, .d 23, .d 23, .d 3, .s, .s, .s, .s, .s, .s, .s, .d 3, .s, .d 3, .s, .d 3, .s, .s, .s, .s, .s, .s, .s, .d 3, .s, .d 4, .d 4, .d 4, .d 23, .d 3, .s, .s, .s, .s, .s, .s, .s, .d 3, .s, .s, .s, .s, .s, .s, .s, .d 3, .d 3, .s, .d 4, .d 23, .d 23, .g 26 ⟨#[32]⟩, .d 5, .d 5, .d 5, .d 5, .d 0, .s, .s, .s, .d 0, .s, .s, .s, .d 0, .d 0, .s, .d 1, .b false, .d 5, .d 0, .s, .s, .s, .d 0, .s, .s, .s, .d 0, .d 0, .s, .d 1, .d 5, .d 0, .s, .s, .s, .d 0, .s, .s, .s, .d 0, .d 0, .s, .d 1, .d 5, .d 0, .s, .s, .s, .d 0, .s, .s, .s, .d 0, .d 0, .s, .d 1, .d 5, .d 0, .s, .s, .s, .d 0, .s, .s, .s, .d 0, .d 0, .s, .d 1, .d 5, .d 0, .s, .s, .s, .d 0, .s, .s, .s, .d 0, .d 0, .s, .d 1, .d 5, .d 0, .s, .s, .s, .d 0, .s, .s, .s, .d 0, .d 0, .s, .d 1, .d 5, .d 0, .s, .s, .s, .d 0, .s, .s, .s, .d 0, .d 0, .s, .d 1, .d 27, .d 27, .t 27 true, .d 5, .d 5, .d 5, .d 0, .s, .s, .s, .d 0, .s, .s, .s, .d 0, .d 0, .s, .d 1, .d 5, .d 0, .s, .s, .s, .d 0, .s, .s, .s, .d 0, .d 0, .s, .d 1, .b false, .d 5, .d 0, .s, .s, .s, .d 0, .s, .d 0, .s, .d 0, .s, .s, .s, .d 0, .s, .d 1, .d 1, .d 1, .d 5, .d 0, .s, .s, .s, .d 0, .s, .s, .s, .d 0, .d 0, .s, .d 1, .d 5, .d 0, .s, .s, .s, .d 0, .s, .s, .s, .d 0, .d 0, .s, .d 1, .d 5, .d 5, .d 5, .d 0, .s, .s, .s, .d 0, .s, .d 0, .s, .d 0, .s, .s, .s, .d 0, .s, .d 1, .d 1, .d 1, .d 5, .d 0, .s, .s, .s, .d 0, .s, .s, .s, .d 0, .d 0, .s, .d 1, .d 5, .d 5, .d 0, .s, .s, .s, .d 0, .s, .s, .s, .d 0, .d 0, .s, .d 1, .b false, .d 5]
noncomputable def lhsW2 (pg : Program) (W : Params) (b t : Nat) (z : Zs) := resM m5 (enter W (go pg W b t true noCt 3313) orsW2 (.call (.ref 700) ⟨[.ref z.x.L], []⟩) kx (lexD W z.x (.str ⟨#[32]⟩ (z.n 0)) (.str ⟨#[]⟩ (z.n 1)) (z.i 0) (z.l 0) (z.s 0) (.int 17 (z.n 2))) 0 0 [])
noncomputable def rhsW2 (pg : Program) (W : Params) (b t : Nat) (z : Zs) : Option (Except Value PySem.Fin × Dy × Nat × Nat × List Ob) := some (.ok (.done (.ret (.str ⟨#[35]⟩ (t + 90)))), lexD W z.x (.str ⟨#[32]⟩ (t + 211)) (.str ⟨#[]⟩ (t + 219)) (z.i 0) (z.l 0) (z.s 0) (.int 21 (t + 186)), 23, 225, toldC noCt [z.x.L, z.x.d, z.x.q, z.x.io, z.x.iod, (b + 0), (b + 1), (b + 2), (b + 3), (b + 4), (b + 5), (b + 6), (b + 7), (b + 8), (b + 9), (b + 10), (b + 11), (b + 12), (b + 13), (b + 14), (b + 15), (b + 16), (b + 17), (b + 18), (b + 19), (b + 20), (b + 21), (b + 22)] orsW2 (sdW2 (z.s 0)) [])
end Mine
lay_z Mine.lhsW2 Mine.rhsW2
namespace Mine
theorem chkW2 (pg : Program) (P : Params) (r : Bool) (b t : Nat) (z : Zs) : lhsW2 pg (wf P r) b t z = rhsW2 pg (wf P r) b t z := by
  rw [PySem.W.ZFast.ze14371558084196450708, PySem.W.ZFast.ze2324695998051636435]
  cases r <;> kernel_rfl
theorem conW2 {w : World} {N U : Nat} (hN : N ≤ 800) (b t : Nat) (z : Zs) (hsd : ∀ y ∈ ((sdW2 (z.s 0)) : List Ob), y.ok) : ConF none [] w w.params N U (.call (.ref 700) ⟨[.ref z.x.L], []⟩) (lexD w.params z.x (.str ⟨#[32]⟩ (z.n 0)) (.str ⟨#[]⟩ (z.n 1)) (z.i 0) (z.l 0) (z.s 0) (.int 17 (z.n 2))) (lexD w.params z.x (.str ⟨#[32]⟩ (t + 211)) (.str ⟨#[]⟩ (t + 219)) (z.i 0) (z.l 0) (z.s 0) (.int 21 (t + 186))) b t (23) (225) (.ok (.ret (.str ⟨#[35]⟩ (t + 90)))) := by
  have h := chkW2 pw w.params (w.params.followText row1) b t z
  rw [wf_self] at h
  exact conF_of_run rfl (spOk w) noCt_ok (fun _ h => by cases h) (fun _ h => by cases h) hN h rfl (toldC_ok _ _ _ hsd (fun _ h => by cases h))
noncomputable def sdW14 (tx : Str) : List Ob := [.cmp 3 1 1099511627776 false, .cmp 1 1 (-1099511627776) false, .len tx, .cmp 4 tx.length tx.length true, .cmp 4 0 3 false, .cmp 3 0 1 false]
noncomputable def orsW14 : List Rf := [.s, .d 5, .d 5, .d 5, .d 5, .d 5, .d 5, .d 5, .d 0, .s, .s, .s, .d 0, .s, .s, .s, .s, .s, .s, .s, .s, .s, .s, .s, .d 6, .d 6, .d 6, .d 0, .s, .s, .s, .d 0, .s, .s, .s, .d 0, .d 0, .s, .d 1, .d 5, .d 0, .s, .s, .s, .d 0, .s, .s, .s, .d 0, .d 0, .s, .d 1, .d 3, .s, .s, .s, .s, .s, .s, .s, .d 3, .s, .s, .s, .s, .s, .s, .s, .d 3, .s, .s, .s, .s, .d 3, .d 4, .s, .s, .s, .d 7, .d 7, .d 7, .d 7, .d 7, .s, .d 7, .s, .s, .d 8, .d 8, .d 8, .d 8, .s, .s, .d 8, .s, .s, .s, .s, .d 8, .d 8, .d 8, .d 8, .b false, .d 8, .b false, .d 8, .d 7, .d 7, .d 7, .d 3, .s, .s, .s, .s, .s, .s, .s, .d 3, .s, .s, .s, .s, .s, .s, .s, .d 3, .s, .s, .s, .s, .d 3, .d 4, .s, .s, .d 9, .d 9, .d 9, .d 3, .s, .s, .s, .s, .s, .s, .s, .d 3, .s, .s, .s, .s, .s, .s, .s, .d 3, .d 3, .s, .d 4, .d 7, .d 3, .s, .s, .s, .s, .s, .s, .s, .d 3, .s, .s, .s, .s, .s, .s, .s, .d 3, .d 3, .s, .d 4, .d 7, .d 7, .s, .s, .d 7, .d 3, .s, .s, .s, .s, .s, .s, .s, .d 3, .s, .s, .s, .s, .s, .s, .s, .d 3, .d 3, .s, .d 4, .n, .d 7, .d 7, .d 7, .d 7, .b true, .d 5, .d 5, .d 5, .d 5, .d 0, .s, .s, .s, .d 0, .s, .s, .s, .d 0, .d 0, .s, .d 1, .b false, .d 5, .d 0, .s, .s, .s, .d 0, .s, .s, .s, .d 0, .d 0, .s, .d 1, .d 5, .d 0, .s, .s, .s, .d 0, .s, .d 0, .s, .d 0, .s, .s, .s, .d 0, .s, .d 1, .d 1, .d 1, .d 5, .d 0, .s, .s, .s, .d 0, .s, .s, .s, .d 0, .d 0, .s, .d 1, .d 5, .d 5, .d 5, .d 0, .s, .s, .s, .d 0, .s, .d 0, .s, .d 0, .s, .s, .s, .d 0, .s, .d 1, .d 1, .d 1, .d 5, .d 0, .s, .s, .s, .d 0, .s, .s, .s, .d 0, .d 0, .s, .d 1, .d 5, .d 5, .d 5, .d 5, .d 5, .d 0, .s, .s, .s, .d 0, .s, .s, .s, .d 0, .d 0, .s, .d 1, .b false, .d 5]
noncomputable def lhsW14 (pg : Program) (W : Params) (b t : Nat) (z : Zs) := resM m5 (enter W (go pg W b t true noCt 661) orsW14 (.call (.ref 700) ⟨[.ref z.x.L], []⟩) kx (lexD W z.x .none (.str ⟨#[]⟩ (z.n 1)) (z.i 0) (z.l 0) (z.s 0) (.int (z.s 0).length (z.n 2))) 0 0 [])
noncomputable def rhsW14 (pg : Program) (W : Params) (b t : Nat) (z : Zs) : Option (Except Value PySem.Fin × Dy × Nat × Nat × List Ob) := some (.ok (.done (.ret .none)), lexD W z.x .none (.str ⟨#[]⟩ (t + 40)) (z.i 0) (z.l 0) (z.s 0) (.int (z.s 0).length (z.n 2)), 5, 48, toldC noCt [z.x.L, z.x.d, z.x.q, z.x.io, z.x.iod, (b + 0), (b + 1), (b + 2), (b + 3), (b + 4)] orsW14 (sdW14 (z.s 0)) [])
end Mine
lay_z Mine.lhsW14 Mine.rhsW14
namespace Mine
theorem chkW14 (pg : Program) (P : Params) (r : Bool) (b t : Nat) (z : Zs) : lhsW14 pg (wf P r) b t z = rhsW14 pg (wf P r) b t z := by
  rw [PySem.W.ZFast.ze16353282570048691567, PySem.W.ZFast.ze16309523728019523856]
  cases r <;> kernel_rfl
theorem conW14 {w : World} {N U : Nat} (hN : N ≤ 800) (b t : Nat) (z : Zs) (hsd : ∀ y ∈ ((sdW14 (z.s 0)) : List Ob), y.ok) : ConF none [] w w.params N U (.call (.ref 700) ⟨[.ref z.x.L], []⟩) (lexD w.params z.x .none (.str ⟨#[]⟩ (z.n 1)) (z.i 0) (z.l 0) (z.s 0) (.int (z.s 0).length (z.n 2))) (lexD w.params z.x .none (.str ⟨#[]⟩ (t + 40)) (z.i 0) (z.l 0) (z.s 0) (.int (z.s 0).length (z.n 2))) b t (5) (48) (.ok (.ret .none)) := by
  have h := chkW14 pw w.params (w.params.followText row1) b t z
  rw [wf_self] at h
  exact conF_of_run rfl (spOk w) noCt_ok (fun _ h => by cases h) (fun _ h => by cases h) hN h rfl (toldC_ok _ _ _ hsd (fun _ h => by cases h))
noncomputable def sdW3 (tx : Str) : List Ob := [.cmp 3 1 1099511627776 false, .cmp 1 1 (-1099511627776) false, .len tx, .cmp 4 21 tx.length false, .cmp 4 1 0 true, .cmp 1 22 tx.length true, .sl tx 21 22 ⟨#[39]⟩, .cmp 4 0 3 false, .cmp 3 1 1099511627776 false, .cmp 1 1 (-1099511627776) false, .len tx, .cmp 4 22 tx.length false, .cmp 4 1 0 true, .cmp 1 23 tx.length true, .sl tx 22 23 ⟨#[39]⟩, .cmp 4 0 3 false, .cmp 3 1 1099511627776 false, .cmp 1 1 (-1099511627776) false, .len tx, .cmp 4 23 tx.length false, .cmp 4 1 0 true, .cmp 1 24 tx.length true, .sl tx 23 24 ⟨#[32]⟩, .cmp 4 0 3 false, .tin [⟨#[97]⟩, ⟨#[99]⟩] ⟨#[97]⟩ true, .cmp 4 0 2 false, .cmp 3 0 1 false]
noncomputable def orsW3 : List Rf := [.s, .d 5, .d 5, .d 5, .d 5, .d 5, .d 5, .d 5, .d 0, .s, .s, .s, .d 0, .s, .s, .s, .s, .s, .s, .s, .s, .s, .s, .s, .d 6, .d 6, .d 6, .d 0, .s, .s, .s, .d 0, .s, .s, .s, .d 0, .d 0, .s, .d 1, .d 5, .d 0, .s, .s, .s, .d 0, .s, .s, .s, .d 0, .d 0, .s, .d 1, .d 3, .s, .s, .s, .s, .s, .s, .s, .d 3, .s, .s, .s, .s, .s, .s, .s, .d 3, .s, .s, .s, .s, .d 3, .d 4, .s, .s, .s, .d 7, .d 7, .d 7, .d 7, .d 7, .s, .d 7, .s, .s, .d 8, .d 8, .d 8, .d 8, .s, .s, .d 8, .s, .s, .s, .s, .d 8, .d 8, .d 8, .d 8, .b false, .d 8, .b false, .d 8, .d 7, .d 7, .d 7, .d 3, .s, .s, .s, .s, .s, .s, .s, .d 3, .s, .s, .s, .s, .s, .s, .s, .d 3, .s, .s, .s, .s, .d 3, .d 4, .s, .s, .d 9, .d 9, .d 9, .d 3, .s, .s, .s, .s, .s, .s, .s, .d 3, .s, .s, .s, .s, .s, .s, .s, .d 3, .d 3, .s, .d 4, .d 7, .d 3, .s, .s, .s, .s, .s, .s, .s, .d 3, .s, .s, .s, .s, .s, .s, .s, .d 3, .d 3, .s, .d 4, .d 7, .d 7, .s, .s, .d 7, .d 3, .s, .s, .s, .s, .s, .s, .s, .d 3, .s, .s, .s, .s, .s, .s, .s, .d 3, .d 3, .s, .d 4, .n, .d 7, .d 7, .d 7, .d 7, .b false, .d 7, .b true, .d 7, .d 7, .d 7, .b true, .d 7, .d 7, .d 7, .d 7, .d 7, .d 7, .d 3, .s, .s, .s, .s, .s, .s, .s, .d 3, .s, .d 3, .s, .d 3, .s, .s, .s, .s, .s, .s, .s, .d 3, .s, .d 4, .d 4, .d 4, .d 7, .d 3, .s, .s, .s, .s, .s, .s, .s, .d 3, .s, .s, .s, .s, .s, .s, .s, .d 3, .d 3, .s, .d 4, .d 7, .d 7, .g 10 ⟨#[39]⟩, .d 5, .d 5, .d 5, .d 5, .d 0, .s, .s, .s, .d 0, .s, .s, .s, .d 0, .d 0, .s, .d 1, .b false, .d 5, .d 0, .s, .s, .s, .d 0, .s, .s, .s, .d 0, .d 0, .s, .d 1, .d 5, .d 0, .s, .s, .s, .d 0, .s, .s, .s, .d 0, .d 0, .s, .d 1, .d 5, .d 5, .d 5, .d 0, .s, .s, .s, .d 0, .s, .s, .s, .d 0, .d 0, .s, .d 1, .d 5, .d 5, .d 0, .s, .s, .s, .d 0, .s, .s, .s, .d 0, .d 0, .s, .d 1, .d 5, .d 0, .s, .s, .s, .d 0, .s, .s, .s, .d 0, .d 0, .s, .d 1, .d 5, .d 5, .d 0, .s, .s, .s, .d 0, .s, .s, .s, .d 0, .d 0, .s, .d 1, .d 5, .d 5, .d 0, .s, .s, .s, .d 0, .s, .s, .s, .d 0, .d 0, .s, .d 1, .d 5, .d 5, .d 0, .s, .s, .s, .d 0, .s, .s, .s, .s, .s, .s, .s, .s, .s, .s, .s, .d 11, .d 11, .d 11, .d 0, .s, .s, .s, .d 0, .s, .s, .s, .d 0, .d 0, .s, .d 1, .d 5, .d 5, .d 0, .s, .s, .s, .d 0, .s, .s, .s, .d 0, .d 0, .s, .d 1, .d 5, .d 0, .s, .s, .s, .d 0, .s, .s, .s, .d 0, .d 0, .s, .d 1, .d 5, .d 5, .d 0, .s, .s, .s, .d 0, .s, .d 0, .s, .d 0, .s, .s, .s, .d 0, .s, .d 1, .d 1, .d 1, .d 5, .d 0, .s, .s, .s, .d 0, .s, .s, .s, .s, .s, .s, .s, .s, .s, .s, .s, .d 12, .d 12, .d 12, .d 0, .s, .s, .s, .d 0, .s, .s, .s, .d 0, .d 0, .s, .d 1, .d 5, .d 0, .s, .s, .s, .d 0, .s, .s, .s, .d 0, .d 0, .s, .d 1, .d 3, .s, .s, .s, .s, .s, .s, .s, .d 3, .s, .s, .s, .s, .s, .s, .s, .d 3, .s, .s, .s, .s, .d 3, .d 4, .s, .s, .s, .d 13, .d 13, .d 13, .d 13, .d 13, .s, .d 13, .s, .s, .d 14, .d 14, .d 14, .d 14, .s, .s, .d 14, .s, .s, .s, .s, .d 14, .d 14, .d 14, .d 14, .b false, .d 14, .b false, .d 14, .d 13, .d 13, .d 13, .d 3, .s, .s, .s, .s, .s, .s, .s, .d 3, .s, .s, .s, .s, .s, .s, .s, .d 3, .s, .s, .s, .s, .d 3, .d 4, .s, .s, .d 15, .d 15, .d 15, .d 3, .s, .s, .s, .s, .s, .s, .s, .d 3, .s, .s, .s, .s, .s, .s, .s, .d 3, .d 3, .s, .d 4, .d 13, .d 3, .s, .s, .s, .s, .s, .s, .s, .d 3, .s, .s, .s, .s, .s, .s, .s, .d 3, .d 3, .s, .d 4, .d 13, .d 13, .s, .s, .d 13, .d 3, .s, .s, .s, .s, .s, .s, .s, .d 3, .s, .s, .s, .s, .s, .s, .s, .d 3, .d 3, .s, .d 4, .n, .d 13, .d 13, .d 13, .d 13, .b false, .d 13, .b true, .d 13, .d 13, .d 13, .b true, .d 13, .d 13, .d 13, .d 13, .d 13, .d 13, .d 3, .s, .s, .s, .s, .s, .s, .s, .d 3, .s, .d 3, .s, .d 3, .s, .s, .s, .s, .s, .s, .s, .d 3, .s, .d 4, .d 4, .d 4, .d 13, .d 3, .s, .s, .s, .s, .s, .s, .s, .d 3, .s, .s, .s, .s, .s, .s, .s, .d 3, .d 3, .s, .d 4, .d 13, .d 13, .g 16 ⟨#[39]⟩, .d 5, .d 5, .d 5, .d 5, .d 0, .s, .s, .s, .d 0, .s, .s, .s, .d 0, .d 0, .s, .d 1, .b false, .d 5, .d 0, .s, .s, .s, .d 0, .s, .s, .s, .d 0, .d 0, .s, .d 1, .d 5, .d 0, .s, .s, .s, .d 0, .s, .s, .s, .d 0, .d 0, .s, .d 1, .d 5, .d 0, .s, .s, .s, .d 0, .s, .s, .s, .d 0, .d 0, .s, .d 1, .d 5, .d 0, .s, .s, .s, .d 0, .s, .s, .s, .d 0, .d 0, .s, .d 1, .d 5, .d 5, .d 5, .d 5, .d 5, .d 0, .s, .s, .s, .d 0, .s, .s, .s, .d 0, .d 0, .s, .d 1, .d 5, .d 0, .s, .s, .s, .d 0, .s, .s, .s, .d 0, .d 0, .s, .d 1, .d 5, .d 0, .s, .s, .s, .d 0, .s, .d 0, .s, .d 0, .s, .s, .s, .d 0, .s, .d 1, .d 1, .d 1, .d 5, .d 0, .s, .s, .s, .d 0, .s, .s, .s, .s, .s, .s, .s, .s, .s, .s, .s, .d 17, .d 17, .d 17, .d 0, .s, .s, .s, .d 0, .s, .s, .s, .d 0, .d 0, .s, .d 1, .d 5, .d 0, .s, .s, .s, .d 0, .s, .s, .s, .d 0, .d 0, .s, .d 1, .d 3, .s, .s, .s, .s, .s, .s, .s, .d 3, .s, .s, .s, .s, .s, .s, .s, .d 3, .s, .s, .s, .s, .d 3, .d 4, .s, .s, .s, .d 18, .d 18, .d 18, .d 18, .d 18, .s, .d 18, .s, .s, .d 19, .d 19, .d 19, .d 19, .s, .s, .d 19, .s, .s, .s, .s, .d 19, .d 19, .d 19, .d 19, .b false, .d 19, .b false, .d 19, .d 18, .d 18, .d 18, .d 3, .s, .s, .s, .s, .s, .s, .s, .d 3, .s, .s, .s, .s, .s, .s, .s, .d 3, .s, .s, .s, .s, .d 3, .d 4, .s, .s, .d 20, .d 20, .d 20, .d 3, .s, .s, .s, .s, .s, .s, .s, .d 3, .s, .s, .s, .s, .s, .s, .s, .d 3, .d 3, .s, .d 4, .d 18, .d 3, .s, .s, .s, .s, .s, .s, .s, .d 3, .s, .s, .s, .s, .s, .s, .s, .d 3, .d 3, .s, .d 4, .d 18, .d 18, .s, .s, .d 18, .d 3, .s, .s, .s, .s, .s, .s, .s, .d 3, .s, .s, .s, .s, .s, .s, .s, .d 3, .d 3, .s, .d 4, .n, .d 18, .d 18, .d 18, .d 18, .b false, .d 18, .b true, .d 18, .d 18, .d 18, .b true, .d 18, .d 18, .d 18, .d 18, .d 18, .d 18, .d 3, .s, .s, .s, .s, .s, .s, .s, .d 3, .s, .d 3, .s, .d 3, .s, .s, .s, .s, .s, .s, .s, .d 3, .s, .d 4, .d 4, .d 4, .d 18, .d 3, .s, .s, .s, .s, .s, .s, .s, .d 3, .s, .s, .s, .s, .s, .s, .s, .d 3, .d 3, .s, .d 4, .d 18, .d 18, .g 21 ⟨#[32]⟩, .d 5, .d 5, .d 5, .d 5, .d 0, .s, .s, .s, .d 0, .s, .s, .s, .d 0, .d 0, .s, .d 1, .b false, .d 5, .d 0, .s, .s, .s, .d 0, .s, .s, .s, .d 0, .d 0, .s, .d 1, .d 5, .d 0, .s, .s, .s, .d 0, .s, .s, .s, .d 0, .d 0, .s, .d 1, .d 5, .d 0, .s, .s, .s, .d 0, .s, .s, .s, .d 0, .d 0, .s, .d 1, .d 5, .d 0, .s, .s, .s, .d 0, .s, .s, .s, .d 0, .d 0, .s, .d 1, .d 5, .d 0, .s, .s, .s, .d 0, .s, .s, .s, .d 0, .d 0, .s, .d 1, .d 5, .d 0, .s, .s, .s, .d 0, .s, .s, .s, .d 0, .d 0, .s, .d 1, .d 5, .d 0, .s, .s, .s, .d 0, .s, .s, .s, .d 0, .d 0, .s, .d 1, .d 22, .d 22, .t 22 true, .d 5, .d 5, .d 5, .d 0, .s, .s, .s, .d 0, .s, .s, .s, .d 0, .d 0, .s, .d 1, .d 5, .d 0, .s, .s, .s, .d 0, .s, .s, .s, .d 0, .d 0, .s, .d 1, .b false, .d 5, .d 0, .s, .s, .s, .d 0, .s, .d 0, .s, .d 0, .s, .s, .s, .d 0, .s, .d 1, .d 1, .d 1, .d 5, .d 0, .s, .s, .s, .d 0, .s, .s, .s, .d 0, .d 0, .s, .d 1, .d 5, .d 0, .s, .s, .s, .d 0, .s, .s, .s, .d 0, .d 0, .s, .d 1, .d 5, .d 5, .d 0, .s, .s, .s, .d 0, .s, .s, .s, .d 0, .d 0, .s, .d 1, .d 5, .d 5, .d 5, .d 0, .s, .s, .s, .d 0, .s, .d 0, .s, .d 0, .s, .s, .s, .d 0, .s, .d 1, .d 1, .d 1, .d 5, .d 0, .s, .s, .s, .d 0, .s, .s, .s, .d 0, .d 0, .s, .d 1, .d 5, .d 5, .d 0, .s, .s, .s, .d 0, .s, .s, .s, .d 0, .d 0, .s, .d 1, .b false, .d 5]
noncomputable def lhsW3 (pg : Program) (W : Params) (b t : Nat) (z : Zs) := resM m5 (enter W (go pg W b t true noCt 2572) orsW3 (.call (.ref 700) ⟨[.ref z.x.L], []⟩) kx (lexD W z.x (.str ⟨#[32]⟩ (z.n 0)) (.str ⟨#[]⟩ (z.n 1)) (z.i 0) (z.l 0) (z.s 0) (.int 21 (z.n 2))) 0 0 [])
noncomputable def rhsW3 (pg : Program) (W : Params) (b t : Nat) (z : Zs) : Option (Except Value PySem.Fin × Dy × Nat × Nat × List Ob) := some (.ok (.done (.ret (.str ⟨#[]⟩ (z.n 1)))), lexD W z.x (.str ⟨#[32]⟩ (t + 160)) (.str ⟨#[]⟩ (t + 169)) (z.i 0) (z.l 0) (z.s 0) (.int 24 (t + 135)), 18, 175, toldC noCt [z.x.L, z.x.d, z.x.q, z.x.io, z.x.iod, (b + 0), (b + 1), (b + 2), (b + 3), (b + 4), (b + 5), (b + 6), (b + 7), (b + 8), (b + 9), (b + 10), (b + 11), (b + 12), (b + 13), (b + 14), (b + 15), (b + 16), (b + 17)] orsW3 (sdW3 (z.s 0)) [])
end Mine
lay_z Mine.lhsW3 Mine.rhsW3
namespace Mine
theorem chkW3 (pg : Program) (P : Params) (r : Bool) (b t : Nat) (z : Zs) : lhsW3 pg (wf P r) b t z = rhsW3 pg (wf P r) b t z := by
  rw [PySem.W.ZFast.ze4422457402042143375, PySem.W.ZFast.ze14215981656862474320]
  cases r <;> kernel_rfl
theorem conW3 {w : World} {N U : Nat} (hN : N ≤ 800) (b t : Nat) (z : Zs) (hsd : ∀ y ∈ ((sdW3 (z.s 0)) : List Ob), y.ok) : ConF none [] w w.params N U (.call (.ref 700) ⟨[.ref z.x.L], []⟩) (lexD w.params z.x (.str ⟨#[32]⟩ (z.n 0)) (.str ⟨#[]⟩ (z.n 1)) (z.i 0) (z.l 0) (z.s 0) (.int 21 (z.n 2))) (lexD w.params z.x (.str ⟨#[32]⟩ (t + 160)) (.str ⟨#[]⟩ (t + 169)) (z.i 0) (z.l 0) (z.s 0) (.int 24 (t + 135))) b t (18) (175) (.ok (.ret (.str ⟨#[]⟩ (z.n 1)))) := by
  have h := chkW3 pw w.params (w.params.followText row1) b t z
  rw [wf_self] at h
  exact conF_of_run rfl (spOk w) noCt_ok (fun _ h => by cases h) (fun _ h => by cases h) hN h rfl (toldC_ok _ _ _ hsd (fun _ h => by cases h))
noncomputable def sdW4 (tx : Str) : List Ob := [.cmp 3 1 1099511627776 false, .cmp 1 1 (-1099511627776) false, .len tx, .cmp 4 24 tx.length false, .cmp 4 1 0 true, .cmp 1 25 tx.length true, .sl tx 24 25 ⟨#[39]⟩, .cmp 4 0 3 false, .cmp 3 1 1099511627776 false, .cmp 1 1 (-1099511627776) false, .len tx, .cmp 4 25 tx.length false, .cmp 4 1 0 true, .cmp 1 26 tx.length true, .sl tx 25 26 ⟨#[120]⟩, .cmp 4 0 3 false, .cmp 3 1 1099511627776 false, .cmp 1 1 (-1099511627776) false, .len tx, .cmp 4 26 tx.length false, .cmp 4 1 0 true, .cmp 1 27 tx.length true, .sl tx 26 27 ⟨#[34]⟩, .cmp 4 0 3 false, .cmp 3 1 1099511627776 false, .cmp 1 1 (-1099511627776) false, .len tx, .cmp 4 27 tx.length false, .cmp 4 1 0 true, .cmp 1 28 tx.length true, .sl tx 27 28 ⟨#[39]⟩, .cmp 4 0 3 false, .cmp 3 1 1099511627776 false, .cmp 1 1 (-1099511627776) false, .len tx, .cmp 4 28 tx.length false, .cmp 4 1 0 true, .cmp 1 29 tx.length true, .sl tx 28 29 ⟨#[32]⟩, .cmp 4 0 3 false, .tin [⟨#[97]⟩, ⟨#[99]⟩] ⟨#[97]⟩ true, .cmp 4 0 2 false, .cmp 3 0 1 false]
noncomputable def orsW4 : List Rf := [.s, .d 5, .d 5, .d 5, .d 5, .d 5, .d 5, .d 5, .d 0, .s, .s, .s, .d 0, .s, .s, .s, .s, .s, .s, .s, .s, .s, .s, .s, .d 6, .d 6, .d 6, .d 0, .s, .s, .s, .d 0, .s, .s, .s, .d 0, .d 0, .s, .d 1, .d 5, .d 0, .s, .s, .s, .d 0, .s, .s, .s, .d 0, .d 0, .s, .d 1, .d 3, .s, .s, .s, .s, .s, .s, .s, .d 3, .s, .s, .s, .s, .s, .s, .s, .d 3, .s, .s, .s, .s, .d 3, .d 4, .s, .s, .s, .d 7, .d 7, .d 7, .d 7, .d 7, .s, .d 7, .s, .s, .d 8, .d 8, .d 8, .d 8, .s, .s, .d 8, .s, .s, .s, .s, .d 8, .d 8, .d 8, .d 8, .b false, .d 8, .b false, .d 8, .d 7, .d 7, .d 7, .d 3, .s, .s, .s, .s, .s, .s, .s, .d 3, .s, .s, .s, .s, .s, .s, .s, .d 3, .s, .s, .s, .s, .d 3, .d 4, .s, .s, .d 9, .d 9, .d 9, .d 3, .s, .s, .s, .s, .s, .s, .s, .d 3, .s, .s, .s, .s, .s, .s, .s, .d 3, .d 3, .s, .d 4, .d 7, .d 3, .s, .s, .s, .s, .s, .s, .s, .d 3, .s, .s, .s, .s, .s, .s, .s, .d 3, .d 3, .s, .d 4, .d 7, .d 7, .s, .s, .d 7, .d 3, .s, .s, .s, .s, .s, .s, .s, .d 3, .s, .s, .s, .s, .s, .s, .s, .d 3, .d 3, .s, .d 4, .n, .d 7, .d 7, .d 7, .d 7, .b false, .d 7, .b true, .d 7, .d 7, .d 7, .b true, .d 7, .d 7, .d 7, .d 7, .d 7, .d 7, .d 3, .s, .s, .s, .s, .s, .s, .s, .d 3, .s, .d 3, .s, .d 3, .s, .s, .s, .s, .s, .s, .s, .d 3, .s, .d 4, .d 4, .d 4, .d 7, .d 3, .s, .s, .s, .s, .s, .s, .s, .d 3, .s, .s, .s, .s, .s, .s, .s, .d 3, .d 3, .s, .d 4, .d 7, .d 7, .g 10 ⟨#[39]⟩, .d 5, .d 5, .d 5, .d 5, .d 0, .s, .s, .s, .d 0, .s, .s, .s, .d 0, .d 0, .s, .d 1, .b false, .d 5, .d 0, .s, .s, .s, .d 0, .s, .s, .s, .d 0, .d 0, .s, .d 1, .d 5, .d 0, .s, .s, .s, .d 0, .s, .s, .s, .d 0, .d 0, .s, .d 1, .d 5, .d 5, .d 5, .d 0, .s, .s, .s, .d 0, .s, .s, .s, .d 0, .d 0, .s, .d 1, .d 5, .d 5, .d 0, .s, .s, .s, .d 0, .s, .s, .s, .d 0, .d 0, .s, .d 1, .d 5, .d 0, .s, .s, .s, .d 0, .s, .s, .s, .d 0, .d 0, .s, .d 1, .d 5, .d 5, .d 0, .s, .s, .s, .d 0, .s, .s, .s, .d 0, .d 0, .s, .d 1, .d 5, .d 5, .d 0, .s, .s, .s, .d 0, .s, .s, .s, .d 0, .d 0, .s, .d 1, .d 5, .d 5, .d 0, .s, .s, .s, .d 0, .s, .s, .s, .s, .s, .s, .s, .s, .s, .s, .s, .d 11, .d 11, .d 11, .d 0, .s, .s, .s, .d 0, .s, .s, .s, .d 0, .d 0, .s, .d 1, .d 5, .d 5, .d 0, .s, .s, .s, .d 0, .s, .s, .s, .d 0, .d 0, .s, .d 1, .d 5, .d 0, .s, .s, .s, .d 0, .s, .s, .s, .d 0, .d 0, .s, .d 1, .d 5, .d 5, .d 0, .s, .s, .s, .d 0, .s, .d 0, .s, .d 0, .s, .s, .s, .d 0, .s, .d 1, .d 1, .d 1, .d 5, .d 0, .s, .s, .s, .d 0, .s, .s, .s, .s, .s, .s, .s, .s, .s, .s, .s, .d 12, .d 12, .d 12, .d 0, .s, .s, .s, .d 0, .s, .s, .s, .d 0, .d 0, .s, .d 1, .d 5, .d 0, .s, .s, .s, .d 0, .s, .s, .s, .d 0, .d 0, .s, .d 1, .d 3, .s, .s, .s, .s, .s, .s, .s, .d 3, .s, .s, .s, .s, .s, .s, .s, .d 3, .s, .s, .s, .s, .d 3, .d 4, .s, .s, .s, .d 13, .d 13, .d 13, .d 13, .d 13, .s, .d 13, .s, .s, .d 14, .d 14, .d 14, .d 14, .s, .s, .d 14, .s, .s, .s, .s, .d 14, .d 14, .d 14, .d 14, .b false, .d 14, .b false, .d 14, .d 13, .d 13, .d 13, .d 3, .s, .s, .s, .s, .s, .s, .s, .d 3, .s, .s, .s, .s, .s, .s, .s, .d 3, .s, .s, .s, .s, .d 3, .d 4, .s, .s, .d 15, .d 15, .d 15, .d 3, .s, .s, .s, .s, .s, .s, .s, .d 3, .s, .s, .s, .s, .s, .s, .s, .d 3, .d 3, .s, .d 4, .d 13, .d 3, .s, .s, .s, .s, .s, .s, .s, .d 3, .s, .s, .s, .s, .s, .s, .s, .d 3, .d 3, .s, .d 4, .d 13, .d 13, .s, .s, .d 13, .d 3, .s, .s, .s, .s, .s, .s, .s, .d 3, .s, .s, .s, .s, .s, .s, .s, .d 3, .d 3, .s, .d 4, .n, .d 13, .d 13, .d 13, .d 13, .b false, .d 13, .b true, .d 13, .d 13, .d 13, .b true, .d 13, .d 13, .d 13, .d 13, .d 13, .d 13, .d 3, .s, .s, .s, .s, .s, .s, .s, .d 3, .s, .d 3, .s, .d 3, .s, .s, .s, .s, .s, .s, .s, .d 3, .s, .d 4, .d 4, .d 4, .d 13, .d 3, .s, .s, .s, .s, .s, .s, .s, .d 3, .s, .s, .s, .s, .s, .s, .s, .d 3, .d 3, .s, .d 4, .d 13, .d 13, .g 16 ⟨#[120]⟩, .d 5, .d 5, .d 5, .d 5, .d 0, .s, .s, .s, .d 0, .s, .s, .s, .d 0, .d 0, .s, .d 1, .b false, .d 5, .d 0, .s, .s, .s, .d 0, .s, .s, .s, .d 0, .d 0, .s, .d 1, .d 5, .d 0, .s, .s, .s, .d 0, .s, .s, .s, .d 0, .d 0, .s, .d 1, .d 5, .d 0, .s, .s, .s, .d 0, .s, .s, .s, .d 0, .d 0, .s, .d 1, .d 5, .d 0, .s, .s, .s, .d 0, .s, .s, .s, .d 0, .d 0, .s, .d 1, .d 5, .d 5, .d 5, .d 5, .d 5, .d 0, .s, .s, .s, .d 0, .s, .s, .s, .d 0, .d 0, .s, .d 1, .d 5, .d 0, .s, .s, .s, .d 0, .s, .s, .s, .d 0, .d 0, .s, .d 1, .d 5, .d 5, .d 0, .s, .s, .s, .d 0, .s, .s, .s, .d 0, .d 0, .s, .d 1, .d 5, .d 0, .s, .s, .s, .d 0, .s, .s, .s, .d 0, .d 0, .s, .d 1, .d 5, .d 0, .s, .s, .s, .d 0, .s, .d 0, .s, .d 0, .s, .s, .s, .d 0, .s, .d 1, .d 1, .d 1, .d 5, .d 0, .s, .s, .s, .d 0, .s, .s, .s, .s, .s, .s, .s, .s, .s, .s, .s, .d 17, .d 17, .d 17, .d 0, .s, .s, .s, .d 0, .s, .s, .s, .d 0, .d 0, .s, .d 1, .d 5, .d 0, .s, .s, .s, .d 0, .s, .s, .s, .d 0, .d 0, .s, .d 1, .d 3, .s, .s, .s, .s, .s, .s, .s, .d 3, .s, .s, .s, .s, .s, .s, .s, .d 3, .s, .s, .s, .s, .d 3, .d 4, .s, .s, .s, .d 18, .d 18, .d 18, .d 18, .d 18, .s, .d 18, .s, .s, .d 19, .d 19, .d 19, .d 19, .s, .s, .d 19, .s, .s, .s, .s, .d 19, .d 19, .d 19, .d 19, .b false, .d 19, .b false, .d 19, .d 18, .d 18, .d 18, .d 3, .s, .s, .s, .s, .s, .s, .s, .d 3, .s, .s, .s, .s, .s, .s, .s, .d 3, .s, .s, .s, .s, .d 3, .d 4, .s, .s, .d 20, .d 20, .d 20, .d 3, .s, .s, .s, .s, .s, .s, .s, .d 3, .s, .s, .s, .s, .s, .s, .s, .d 3, .d 3, .s, .d 4, .d 18, .d 3, .s, .s, .s, .s, .s, .s, .s, .d 3, .s, .s, .s, .s, .s, .s, .s, .d 3, .d 3, .s, .d 4, .d 18, .d 18, .s, .s, .d 18, .d 3, .s, .s, .s, .s, .s, .s, .s, .d 3, .s, .s, .s, .s, .s, .s, .s, .d 3, .d 3, .s, .d 4, .n, .d 18, .d 18, .d 18, .d 18, .b false, .d 18, .b true, .d 18, .d 18, .d 18, .b true, .d 18, .d 18, .d 18, .d 18, .d 18, .d 18, .d 3, .s, .s, .s, .s, .s, .s, .s, .d 3, .s, .d 3, .s, .d 3, .s, .s, .s, .s, .s, .s, .s, .d 3, .s, .d 4, .d 4, .d 4, .d 18, .d 3, .s, .s, .s, .s, .s, .s, .s, .d 3, .s, .s, .s, .s, .s, .s, .s, .d 3, .d 3, .s, .d 4, .d 18, .d 18, .g 21 ⟨#[34]⟩, .d 5, .d 5, .d 5, .d 5, .d 0, .s, .s, .s, .d 0, .s, .s, .s, .d 0, .d 0, .s, .d 1, .b false, .d 5, .d 0, .s, .s, .s, .d 0, .s, .s, .s, .d 0, .d 0, .s, .d 1, .d 5, .d 0, .s, .s, .s, .d 0, .s, .s, .s, .d 0, .d 0, .s, .d 1, .d 5, .d 0, .s, .s, .s, .d 0, .s, .s, .s, .d 0, .d 0, .s, .d 1, .d 5, .d 0, .s, .s, .s, .d 0, .s, .s, .s, .d 0, .d 0, .s, .d 1, .d 5, .d 5, .d 5, .d 5, .d 5, .d 0, .s, .s, .s, .d 0, .s, .s, .s, .d 0, .d 0, .s, .d 1, .d 5, .d 0, .s, .s, .s, .d 0, .s, .s, .s, .d 0, .d 0, .s, .d 1, .d 5, .d 5, .d 0, .s, .s, .s, .d 0, .s, .s, .s, .d 0, .d 0, .s, .d 1, .d 5, .d 0, .s, .s, .s, .d 0, .s, .s, .s, .d 0, .d 0, .s, .d 1, .d 5, .d 0, .s, .s, .s, .d 0, .s, .d 0, .s, .d 0, .s, .s, .s, .d 0, .s, .d 1, .d 1, .d 1, .d 5, .d 0, .s, .s, .s, .d 0, .s, .s, .s, .s, .s, .s, .s, .s, .s, .s, .s, .d 22, .d 22, .d 22, .d 0, .s, .s, .s, .d 0, .s, .s, .s, .d 0, .d 0, .s, .d 1, .d 5, .d 0, .s, .s, .s, .d 0, .s, .s, .s, .d 0, .d 0, .s, .d 1, .d 3, .s, .s, .s, .s, .s, .s, .s, .d 3, .s, .s, .s, .s, .s, .s, .s, .d 3, .s, .s, .s, .s, .d 3, .d 4, .s, .s, .s, .d 23, .d 23, .d 23, .d 23, .d 23, .s, .d 23, .s, .s, .d 24, .d 24, .d 24, .d 24, .s, .s, .d 24, .s, .s, .s, .s, .d 24, .d 24, .d 24, .d 24, .b false, .d 24, .b false, .d 24, .d 23, .d 23, .d 23, .d 3, .s, .s, .s, .s, .s, .s, .s, .d 3, .s, .s, .s, .s, .s, .s, .s, .d 3, .s, .s, .s, .s, .d 3, .d 4, .s, .s, .d 25, .d 25, .d 25, .d 3, .s, .s, .s, .s, .s, .s, .s, .d 3, .s, .s, .s, .s, .s, .s, .s, .d 3, .d 3, .s, .d 4, .d 23, .d 3, .s, .s, .s, .s, .s, .s, .s, .d 3, .s, .s, .s, .s, .s, .s, .s, .d 3, .d 3, .s, .d 4, .d 23, .d 23, .s, .s, .d 23, .d 3, .s, .s, .s, .s, .s, .s, .s, .d 3, .s, .s, .s, .s, .s, .s, .s, .d 3, .d 3, .s, .d 4, .n, .d 23, .d 23, .d 23, .d 23, .b false, .d 23, .b true, .d 23, .d 23, .d 23, .b true, .d 23, .d 23, .d 23, .d 23, .d 23, .d 23, .d 3, .s, .s, .s, .s, .s, .s, .s, .d 3, .s, .d 3, .s, .d 3, .s, .s, .s, .s, .s, .s, .s, .d 3, .s, .d 4, .d 4, .d 4, .d 23, .d 3, .s, .s, .s, .s, .s, .s, .s, .d 3, .s, .s, .s, .s, .s, .s, .s, .d 3, .d 3, .s, .d 4, .d 23, .d 23, .g 26 ⟨#[39]⟩, .d 5, .d 5, .d 5, .d 5, .d 0, .s, .s, .s, .d 0, .s, .s, .s, .d 0, .d 0, .s, .d 1, .b false, .d 5, .d 0, .s, .s, .s, .d 0, .s, .s, .s, .d 0, .d 0, .s, .d 1, .d 5, .d 0, .s, .s, .s, .d 0, .s, .s, .s, .d 0, .d 0, .s, .d 1, .d 5, .d 0, .s, .s, .s, .d 0, .s, .s, .s, .d 0, .d 0, .s, .d 1, .d 5, .d 0, .s, .s, .s, .d 0, .s, .s, .s, .d 0, .d 0, .s, .d 1, .d 5, .d 5, .d 5, .d 5, .d 5, .d 0, .s, .s, .s, .d 0, .s, .s, .s, .d 0, .d 0, .s, .d 1, .d 5, .d 0, .s, .s, .s, .d 0, .s, .s, .s, .d 0, .d 0, .s, .d 1, .d 5, .d 0, .s, .s, .s, .d 0, .s, .d 0, .s, .d 0, .s, .s, .s, .d 0, .s, .d 1, .d 1, .d 1, .d 5, .d 0, .s, .s, .s, .d 0, .s, .s, .s, .s, .s, .s, .s, .s, .s, .s, .s, .d 27, .d 27, .d 27, .d 0, .s, .s, .s, .d 0, .s, .s, .s, .d 0, .d 0, .s, .d 1, .d 5, .d 0, .s, .s, .s, .d 0, .s, .s, .s, .d 0, .d 0, .s, .d 1, .d 3, .s, .s, .s, .s, .s, .s, .s, .d 3, .s, .s, .s, .s, .s, .s, .s, .d 3, .s, .s, .s, .s, .d 3, .d 4, .s, .s, .s, .d 28, .d 28, .d 28, .d 28, .d 28, .s, .d 28, .s, .s, .d 29, .d 29, .d 29, .d 29, .s, .s, .d 29, .s, .s, .s, .s, .d 29, .d 29, .d 29, .d 29, .b false, .d 29, .b false, .d 29, .d 28, .d 28, .d 28, .d 3, .s, .s, .s, .s, .s, .s, .s, .d 3, .s, .s, .s, .s, .s, .s, .s, .d 3, .s, .s, .s, .s, .d 3, .d 4, .s, .s, .d 30, .d 30, .d 30, .d 3, .s, .s, .s, .s, .s, .s, .s, .d 3, .s, .s, .s, .s, .s, .s, .s, .d 3, .d 3, .s, .d 4, .d 28, .d 3, .s, .s, .s, .s, .s, .s, .s, .d 3, .s, .s, .s, .s, .s, .s, .s, .d 3, .d 3, .s, .d 4, .d 28, .d 28, .s, .s, .d 28, .d 3, .s, .s, .s, .s, .s, .s, .s, .d 3, .s, .s, .s, .s, .s, .s, .s, .d 3, .d 3, .s, .d 4, .n, .d 28, .d 28, .d 28, .d 28, .b false, .d 28, .b true, .d 28, .d 28, .d 28, .b true, .d 28, .d 28, .d 28, .d 28, .d 28, .d 28, .d 3, .s, .s, .s, .s, .s, .s, .s, .d 3, .s, .d 3, .s, .d 3, .s, .s, .s, .s, .s, .s, .s, .d 3, .s, .d 4, .d 4, .d 4, .d 28, .d 3, .s, .s, .s, .s, .s, .s, .s, .d 3, .s, .s, .s, .s, .s, .s, .s, .d 3, .d 3, .s, .d 4, .d 28, .d 28, .g 31 ⟨#[32]⟩, .d 5, .d 5, .d 5, .d 5, .d 0, .s, .s, .s, .d 0, .s, .s, .s, .d 0, .d 0, .s, .d 1, .b false, .d 5, .d 0, .s, .s, .s, .d 0, .s, .s, .s, .d 0, .d 0, .s, .d 1, .d 5, .d 0, .s, .s, .s, .d 0, .s, .s, .s, .d 0, .d 0, .s, .d 1, .d 5, .d 0, .s, .s, .s, .d 0, .s, .s, .s, .d 0, .d 0, .s, .d 1, .d 5, .d 0, .s, .s, .s, .d 0, .s, .s, .s, .d 0, .d 0, .s, .d 1, .d 5, .d 0, .s, .s, .s, .d 0, .s, .s, .s, .d 0, .d 0, .s, .d 1, .d 5, .d 0, .s, .s, .s, .d 0, .s, .s, .s, .d 0, .d 0, .s, .d 1, .d 5, .d 0, .s, .s, .s, .d 0, .s, .s, .s, .d 0, .d 0, .s, .d 1, .d 32, .d 32, .t 32 true, .d 5, .d 5, .d 5, .d 0, .s, .s, .s, .d 0, .s, .s, .s, .d 0, .d 0, .s, .d 1, .d 5, .d 0, .s, .s, .s, .d 0, .s, .s, .s, .d 0, .d 0, .s, .d 1, .b false, .d 5, .d 0, .s, .s, .s, .d 0, .s, .d 0, .s, .d 0, .s, .s, .s, .d 0, .s, .d 1, .d 1, .d 1, .d 5, .d 0, .s, .s, .s, .d 0, .s, .s, .s, .d 0, .d 0, .s, .d 1, .d 5, .d 0, .s, .s, .s, .d 0, .s, .s, .s, .d 0, .d 0, .s, .d 1, .d 5, .d 5, .d 5, .d 0, .s, .s, .s, .d 0, .s, .d 0, .s, .d 0, .s, .s, .s, .d 0, .s, .d 1, .d 1, .d 1, .d 5, .d 0, .s, .s, .s, .d 0, .s, .s, .s, .d 0, .d 0, .s, .d 1, .d 5, .d 5, .d 0, .s, .s, .s, .d 0, .s, .s, .s, .d 0, .d 0, .s, .d 1, .b false, .d 5]
noncomputable def lhsW4 (pg : Program) (W : Params) (b t : Nat) (z : Zs) := resM m5 (enter W (go pg W b t true noCt 4077) orsW4 (.call (.ref 700) ⟨[.ref z.x.L], []⟩) kx (lexD W z.x (.str ⟨#[32]⟩ (z.n 0)) (.str ⟨#[]⟩ (z.n 1)) (z.i 0) (z.l 0) (z.s 0) (.int 24 (z.n 2))) 0 0 [])
noncomputable def rhsW4 (pg : Program) (W : Params) (b t : Nat) (z : Zs) : Option (Except Value PySem.Fin × Dy × Nat × Nat × List Ob) := some (.ok (.done (.ret (.str ⟨#[120, 34]⟩ (t + 158)))), lexD W z.x (.str ⟨#[32]⟩ (t + 263)) (.str ⟨#[]⟩ (t + 271)) (z.i 0) (z.l 0) (z.s 0) (.int 29 (t + 238)), 28, 277, toldC noCt [z.x.L, z.x.d, z.x.q, z.x.io, z.x.iod, (b + 0), (b + 1), (b + 2), (b + 3), (b + 4), (b + 5), (b + 6), (b + 7), (b + 8), (b + 9), (b + 10), (b + 11), (b + 12), (b + 13), (b + 14), (b + 15), (b + 16), (b + 17), (b + 18), (b + 19), (b + 20), (b + 21), (b + 22), (b + 23), (b + 24), (b + 25), (b + 26), (b + 27)] orsW4 (sdW4 (z.s 0)) [])
end Mine
lay_z Mine.lhsW4 Mine.rhsW4
namespace Mine
theorem chkW4 (pg : Program) (P : Params) (r : Bool) (b t : Nat) (z : Zs) : lhsW4 pg (wf P r) b t z = rhsW4 pg (wf P r) b t z := by
  rw [PySem.W.ZFast.ze13189859470569025930, PySem.W.ZFast.ze11052123727621579359]
  cases r <;> kernel_rfl
theorem conW4 {w : World} {N U : Nat} (hN : N ≤ 800) (b t : Nat) (z : Zs) (hsd : ∀ y ∈ ((sdW4 (z.s 0)) : List Ob), y.ok) : ConF none [] w w.params N U (.call (.ref 700) ⟨[.ref z.x.L], []⟩) (lexD w.params z.x (.str ⟨#[32]⟩ (z.n 0)) (.str ⟨#[]⟩ (z.n 1)) (z.i 0) (z.l 0) (z.s 0) (.int 24 (z.n 2))) (lexD w.params z.x (.str ⟨#[32]⟩ (t + 263)) (.str ⟨#[]⟩ (t + 271)) (z.i 0) (z.l 0) (z.s 0) (.int 29 (t + 238))) b t (28) (277) (.ok (.ret (.str ⟨#[120, 34]⟩ (t + 158)))) := by
  have h := chkW4 pw w.params (w.params.followText row1) b t z
  rw [wf_self] at h
  exact conF_of_run rfl (spOk w) noCt_ok (fun _ h => by cases h) (fun _ h => by cases h) hN h rfl (toldC_ok _ _ _ hsd (fun _ h => by cases h))
noncomputable def sdW5 (tx : Str) : List Ob := [.cmp 3 1 1099511627776 false, .cmp 1 1 (-1099511627776) false, .len tx, .cmp 4 29 tx.length false, .cmp 4 1 0 true, .cmp 1 30 tx.length true, .sl tx 29 30 ⟨#[39]⟩, .cmp 4 0 3 false, .cmp 3 1 1099511627776 false, .cmp 1 1 (-1099511627776) false, .len tx, .cmp 4 30 tx.length false, .cmp 4 1 0 true, .cmp 1 31 tx.length true, .sl tx 30 31 ⟨#[92]⟩, .cmp 4 0 3 false, .cmp 3 1 1099511627776 false, .cmp 1 1 (-1099511627776) false, .len tx, .cmp 4 31 tx.length false, .cmp 4 1 0 true, .cmp 1 32 tx.length true, .sl tx 31 32 ⟨#[39]⟩, .cmp 4 0 3 false, .cmp 3 1 1099511627776 false, .cmp 1 1 (-1099511627776) false, .len tx, .cmp 4 32 tx.length false, .cmp 4 1 0 true, .cmp 1 33 tx.length true, .sl tx 32 33 ⟨#[32]⟩, .cmp 4 0 3 false, .tin [⟨#[97]⟩, ⟨#[99]⟩] ⟨#[97]⟩ true, .cmp 4 0 2 false, .cmp 3 0 1 false]
noncomputable def orsW5 : List Rf := [.s, .d 5, .d 5, .d 5, .d 5, .d 5, .d 5, .d 5, .d 0, .s, .s, .s, .d 0, .s, .s, .s, .s, .s, .s, .s, .s, .s, .s, .s, .d 6, .d 6, .d 6, .d 0, .s, .s, .s, .d 0, .s, .s, .s, .d 0, .d 0, .s, .d 1, .d 5, .d 0, .s, .s, .s, .d 0, .s, .s, .s, .d 0, .d 0, .s, .d 1, .d 3, .s, .s, .s, .s, .s, .s, .s, .d 3, .s, .s, .s, .s, .s, .s, .s, .d 3, .s, .s, .s, .s, .d 3, .d 4, .s, .s, .s, .d 7, .d 7, .d 7, .d 7, .d 7, .s, .d 7, .s, .s, .d 8, .d 8, .d 8, .d 8, .s, .s, .d 8, .s, .s, .s, .s, .d 8, .d 8, .d 8, .d 8, .b false, .d 8, .b false, .d 8, .d 7, .d 7, .d 7, .d 3, .s, .s, .s, .s, .s, .s, .s, .d 3, .s, .s, .s, .s, .s, .s, .s, .d 3, .s, .s, .s, .s, .d 3, .d 4, .s, .s, .d 9, .d 9, .d 9, .d 3, .s, .s, .s, .s, .s, .s, .s, .d 3, .s, .s, .s, .s, .s, .s, .s, .d 3, .d 3, .s, .d 4, .d 7, .d 3, .s, .s, .s, .s, .s, .s, .s, .d 3, .s, .s, .s, .s, .s, .s, .s, .d 3, .d 3, .s, .d 4, .d 7, .d 7, .s, .s, .d 7, .d 3, .s, .s, .s, .s, .s, .s, .s, .d 3, .s, .s, .s, .s, .s, .s, .s, .d 3, .d 3, .s, .d 4, .n, .d 7, .d 7, .d 7, .d 7, .b false, .d 7, .b true, .d 7, .d 7, .d 7, .b true, .d 7, .d 7, .d 7, .d 7, .d 7, .d 7, .d 3, .s, .s, .s, .s, .s, .s, .s, .d 3, .s, .d 3, .s, .d 3, .s, .s, .s, .s, .s, .s, .s, .d 3, .s, .d 4, .d 4, .d 4, .d 7, .d 3, .s, .s, .s, .s, .s, .s, .s, .d 3, .s, .s, .s, .s, .s, .s, .s, .d 3, .d 3, .s, .d 4, .d 7, .d 7, .g 10 ⟨#[39]⟩, .d 5, .d 5, .d 5, .d 5, .d 0, .s, .s, .s, .d 0, .s, .s, .s, .d 0, .d 0, .s, .d 1, .b false, .d 5, .d 0, .s, .s, .s, .d 0, .s, .s, .s, .d 0, .d 0, .s, .d 1, .d 5, .d 0, .s, .s, .s, .d 0, .s, .s, .s, .d 0, .d 0, .s, .d 1, .d 5, .d 5, .d 5, .d 0, .s, .s, .s, .d 0, .s, .s, .s, .d 0, .d 0, .s, .d 1, .d 5, .d 5, .d 0, .s, .s, .s, .d 0, .s, .s, .s, .d 0, .d 0, .s, .d 1, .d 5, .d 0, .s, .s, .s, .d 0, .s, .s, .s, .d 0, .d 0, .s, .d 1, .d 5, .d 5, .d 0, .s, .s, .s, .d 0, .s, .s, .s, .d 0, .d 0, .s, .d 1, .d 5, .d 5, .d 0, .s, .s, .s, .d 0, .s, .s, .s, .d 0, .d 0, .s, .d 1, .d 5, .d 5, .d 0, .s, .s, .s, .d 0, .s, .s, .s, .s, .s, .s, .s, .s, .s, .s, .s, .d 11, .d 11, .d 11, .d 0, .s, .s, .s, .d 0, .s, .s, .s, .d 0, .d 0, .s, .d 1, .d 5, .d 5, .d 0, .s, .s, .s, .d 0, .s, .s, .s, .d 0, .d 0, .s, .d 1, .d 5, .d 0, .s, .s, .s, .d 0, .s, .s, .s, .d 0, .d 0, .s, .d 1, .d 5, .d 5, .d 0, .s, .s, .s, .d 0, .s, .d 0, .s, .d 0, .s, .s, .s, .d 0, .s, .d 1, .d 1, .d 1, .d 5, .d 0, .s, .s, .s, .d 0, .s, .s, .s, .s, .s, .s, .s, .s, .s, .s, .s, .d 12, .d 12, .d 12, .d 0, .s, .s, .s, .d 0, .s, .s, .s, .d 0, .d 0, .s, .d 1, .d 5, .d 0, .s, .s, .s, .d 0, .s, .s, .s, .d 0, .d 0, .s, .d 1, .d 3, .s, .s, .s, .s, .s, .s, .s, .d 3, .s, .s, .s, .s, .s, .s, .s, .d 3, .s, .s, .s, .s, .d 3, .d 4, .s, .s, .s, .d 13, .d 13, .d 13, .d 13, .d 13, .s, .d 13, .s, .s, .d 14, .d 14, .d 14, .d 14, .s, .s, .d 14, .s, .s, .s, .s, .d 14, .d 14, .d 14, .d 14, .b false, .d 14, .b false, .d 14, .d 13, .d 13, .d 13, .d 3, .s, .s, .s, .s, .s, .s, .s, .d 3, .s, .s, .s, .s, .s, .s, .s, .d 3, .s, .s, .s, .s, .d 3, .d 4, .s, .s, .d 15, .d 15, .d 15, .d 3, .s, .s, .s, .s, .s, .s, .s, .d 3, .s, .s, .s, .s, .s, .s, .s, .d 3, .d 3, .s, .d 4, .d 13, .d 3, .s, .s, .s, .s, .s, .s, .s, .d 3, .s, .s, .s, .s, .s, .s, .s, .d 3, .d 3, .s, .d 4, .d 13, .d 13, .s, .s, .d 13, .d 3, .s, .s, .s, .s, .s, .s, .s, .d 3, .s, .s, .s, .s, .s, .s, .s, .d 3, .d 3, .s, .d 4, .n, .d 13, .d 13, .d 13, .d 13, .b false, .d 13, .b true, .d 13, .d 13, .d 13, .b true, .d 13, .d 13, .d 13, .d 13, .d 13, .d 13, .d 3, .s, .s, .s, .s, .s, .s, .s, .d 3, .s, .d 3, .s, .d 3, .s, .s, .s, .s, .s, .s, .s, .d 3, .s, .d 4, .d 4, .d 4, .d 13, .d 3, .s, .s, .s, .s, .s, .s, .s, .d 3, .s, .s, .s, .s, .s, .s, .s, .d 3, .d 3, .s, .d 4, .d 13, .d 13, .g 16 ⟨#[92]⟩, .d 5, .d 5, .d 5, .d 5, .d 0, .s, .s, .s, .d 0, .s, .s, .s, .d 0, .d 0, .s, .d 1, .b false, .d 5, .d 0, .s, .s, .s, .d 0, .s, .s, .s, .d 0, .d 0, .s, .d 1, .d 5, .d 0, .s, .s, .s, .d 0, .s, .s, .s, .d 0, .d 0, .s, .d 1, .d 5, .d 0, .s, .s, .s, .d 0, .s, .s, .s, .d 0, .d 0, .s, .d 1, .d 5, .d 0, .s, .s, .s, .d 0, .s, .s, .s, .d 0, .d 0, .s, .d 1, .d 5, .d 5, .d 5, .d 5, .d 5, .d 0, .s, .s, .s, .d 0, .s, .s, .s, .d 0, .d 0, .s, .d 1, .d 5, .d 0, .s, .s, .s, .d 0, .s, .s, .s, .d 0, .d 0, .s, .d 1, .d 5, .d 5, .d 0, .s, .s, .s, .d 0, .s, .s, .s, .d 0, .d 0, .s, .d 1, .d 5, .d 0, .s, .s, .s, .d 0, .s, .s, .s, .d 0, .d 0, .s, .d 1, .d 5, .d 0, .s, .s, .s, .d 0, .s, .s, .s, .d 0, .d 0, .s, .d 1, .d 5, .d 0, .s, .s, .s, .d 0, .s, .s, .s, .d 0, .d 0, .s, .d 1, .d 5, .d 0, .s, .s, .s, .d 0, .s, .d 0, .s, .d 0, .s, .s, .s, .d 0, .s, .d 1, .d 1, .d 1, .d 5, .d 0, .s, .s, .s, .d 0, .s, .s, .s, .s, .s, .s, .s, .s, .s, .s, .s, .d 17, .d 17, .d 17, .d 0, .s, .s, .s, .d 0, .s, .s, .s, .d 0, .d 0, .s, .d 1, .d 5, .d 0, .s, .s, .s, .d 0, .s, .s, .s, .d 0, .d 0, .s, .d 1, .d 3, .s, .s, .s, .s, .s, .s, .s, .d 3, .s, .s, .s, .s, .s, .s, .s, .d 3, .s, .s, .s, .s, .d 3, .d 4, .s, .s, .s, .d 18, .d 18, .d 18, .d 18, .d 18, .s, .d 18, .s, .s, .d 19, .d 19, .d 19, .d 19, .s, .s, .d 19, .s, .s, .s, .s, .d 19, .d 19, .d 19, .d 19, .b false, .d 19, .b false, .d 19, .d 18, .d 18, .d 18, .d 3, .s, .s, .s, .s, .s, .s, .s, .d 3, .s, .s, .s, .s, .s, .s, .s, .d 3, .s, .s, .s, .s, .d 3, .d 4, .s, .s, .d 20, .d 20, .d 20, .d 3, .s, .s, .s, .s, .s, .s, .s, .d 3, .s, .s, .s, .s, .s, .s, .s, .d 3, .d 3, .s, .d 4, .d 18, .d 3, .s, .s, .s, .s, .s, .s, .s, .d 3, .s, .s, .s, .s, .s, .s, .s, .d 3, .d 3, .s, .d 4, .d 18, .d 18, .s, .s, .d 18, .d 3, .s, .s, .s, .s, .s, .s, .s, .d 3, .s, .s, .s, .s, .s, .s, .s, .d 3, .d 3, .s, .d 4, .n, .d 18, .d 18, .d 18, .d 18, .b false, .d 18, .b true, .d 18, .d 18, .d 18, .b true, .d 18, .d 18, .d 18, .d 18, .d 18, .d 18, .d 3, .s, .s, .s, .s, .s, .s, .s, .d 3, .s, .d 3, .s, .d 3, .s, .s, .s, .s, .s, .s, .s, .d 3, .s, .d 4, .d 4, .d 4, .d 18, .d 3, .s, .s, .s, .s, .s, .s, .s, .d 3, .s, .s, .s, .s, .s, .s, .s, .d 3, .d 3, .s, .d 4, .d 18, .d 18, .g 21 ⟨#[39]⟩, .d 5, .d 5, .d 5, .d 5, .d 0, .s, .s, .s, .d 0, .s, .s, .s, .d 0, .d 0, .s, .d 1, .b false, .d 5, .d 0, .s, .s, .s, .d 0, .s, .s, .s, .d 0, .d 0, .s, .d 1, .d 5, .d 0, .s, .s, .s, .d 0, .s, .s, .s, .d 0, .d 0, .s, .d 1, .d 5, .d 0, .s, .s, .s, .d 0, .s, .s, .s, .d 0, .d 0, .s, .d 1, .d 5, .d 0, .s, .s, .s, .d 0, .s, .s, .s, .d 0, .d 0, .s, .d 1, .d 5, .d 5, .d 5, .d 5, .d 5, .d 0, .s, .s, .s, .d 0, .s, .s, .s, .d 0, .d 0, .s, .d 1, .d 5, .d 0, .s, .s, .s, .d 0, .s, .s, .s, .d 0, .d 0, .s, .d 1, .d 5, .d 0, .s, .s, .s, .d 0, .s, .d 0, .s, .d 0, .s, .s, .s, .d 0, .s, .d 1, .d 1, .d 1, .d 5, .d 0, .s, .s, .s, .d 0, .s, .s, .s, .s, .s, .s, .s, .s, .s, .s, .s, .d 22, .d 22, .d 22, .d 0, .s, .s, .s, .d 0, .s, .s, .s, .d 0, .d 0, .s, .d 1, .d 5, .d 0, .s, .s, .s, .d 0, .s, .s, .s, .d 0, .d 0, .s, .d 1, .d 3, .s, .s, .s, .s, .s, .s, .s, .d 3, .s, .s, .s, .s, .s, .s, .s, .d 3, .s, .s, .s, .s, .d 3, .d 4, .s, .s, .s, .d 23, .d 23, .d 23, .d 23, .d 23, .s, .d 23, .s, .s, .d 24, .d 24, .d 24, .d 24, .s, .s, .d 24, .s, .s, .s, .s, .d 24, .d 24, .d 24, .d 24, .b false, .d 24, .b false, .d 24, .d 23, .d 23, .d 23, .d 3, .s, .s, .s, .s, .s, .s, .s, .d 3, .s, .s, .s, .s, .s, .s, .s, .d 3, .s, .s, .s, .s, .d 3, .d 4, .s, .s, .d 25, .d 25, .d 25, .d 3, .s, .s, .s, .s, .s, .s, .s, .d 3, .s, .s, .s, .s, .s, .s, .s, .d 3, .d 3, .s, .d 4, .d 23, .d 3, .s, .s, .s, .s, .s, .s, .s, .d 3, .s, .s, .s, .s, .s, .s, .s, .d 3, .d 3, .s, .d 4, .d 23, .d 23, .s, .s, .d 23, .d 3, .s, .s, .s, .s, .s, .s, .s, .d 3, .s, .s, .s, .s, .s, .s, .s, .d 3, .d 3, .s, .d 4, .n, .d 23, .d 23, .d 23, .d 23, .b false, .d 23, .b true, .d 23, .d 23, .d 23, .b true, .d 23, .d 23, .d 23, .d 23, .d 23, .d 23, .d 3, .s, .s, .s, .s, .s, .s, .s, .d 3, .s, .d 3, .s, .d 3, .s, .s, .s, .s, .s, .s, .s, .d 3, .s, .d 4, .d 4, .d 4, .d 23, .d 3, .s, .s, .s, .s, .s, .s, .s, .d 3, .s, .s, .s, .s, .s, .s, .s, .d 3, .d 3, .s, .d 4, .d 23, .d 23, .g 26 ⟨#[32]⟩, .d 5, .d 5, .d 5, .d 5, .d 0, .s, .s, .s, .d 0, .s, .s, .s, .d 0, .d 0, .s, .d 1, .b false, .d 5, .d 0, .s, .s, .s, .d 0, .s, .s, .s, .d 0, .d 0, .s, .d 1, .d 5, .d 0, .s, .s, .s, .d 0, .s, .s, .s, .d 0, .d 0, .s, .d 1, .d 5, .d 0, .s, .s, .s, .d 0, .s, .s, .s, .d 0, .d 0, .s, .d 1, .d 5, .d 0, .s, .s, .s, .d 0, .s, .s, .s, .d 0, .d 0, .s, .d 1, .d 5, .d 0, .s, .s, .s, .d 0, .s, .s, .s, .d 0, .d 0, .s, .d 1, .d 5, .d 0, .s, .s, .s, .d 0, .s, .s, .s, .d 0, .d 0, .s, .d 1, .d 5, .d 0, .s, .s, .s, .d 0, .s, .s, .s, .d 0, .d 0, .s, .d 1, .d 27, .d 27, .t 27 true, .d 5, .d 5, .d 5, .d 0, .s, .s, .s, .d 0, .s, .s, .s, .d 0, .d 0, .s, .d 1, .d 5, .d 0, .s, .s, .s, .d 0, .s, .s, .s, .d 0, .d 0, .s, .d 1, .b false, .d 5, .d 0, .s, .s, .s, .d 0, .s, .d 0, .s, .d 0, .s, .s, .s, .d 0, .s, .d 1, .d 1, .d 1, .d 5, .d 0, .s, .s, .s, .d 0, .s, .s, .s, .d 0, .d 0, .s, .d 1, .d 5, .d 0, .s, .s, .s, .d 0, .s, .s, .s, .d 0, .d 0, .s, .d 1, .d 5, .d 5, .d 5, .d 0, .s, .s, .s, .d 0, .s, .d 0, .s, .d 0, .s, .s, .s, .d 0, .s, .d 1, .d 1, .d 1, .d 5, .d 0, .s, .s, .s, .d 0, .s, .s, .s, .d 0, .d 0, .s, .d 1, .d 5, .d 5, .d 0, .s, .s, .s, .d 0, .s, .s, .s, .d 0, .d 0, .s, .d 1, .b false, .d 5]
noncomputable def lhsW5 (pg : Program) (W : Params) (b t : Nat) (z : Zs) := resM m5 (enter W (go pg W b t true noCt 3355) orsW5 (.call (.ref 700) ⟨[.ref z.x.L], []⟩) kx (lexD W z.x (.str ⟨#[32]⟩ (z.n 0)) (.str ⟨#[]⟩ (z.n 1)) (z.i 0) (z.l 0) (z.s 0) (.int 29 (z.n 2))) 0 0 [])
noncomputable def rhsW5 (pg : Program) (W : Params) (b t : Nat) (z : Zs) : Option (Except Value PySem.Fin × Dy × Nat × Nat × List Ob) := some (.ok (.done (.ret (.str ⟨#[92]⟩ (t + 90)))), lexD W z.x (.str ⟨#[32]⟩ (t + 213)) (.str ⟨#[]⟩ (t + 221)) (z.i 0) (z.l 0) (z.s 0) (.int 33 (t + 188)), 23, 227, toldC noCt [z.x.L, z.x.d, z.x.q, z.x.io, z.x.iod, (b + 0), (b + 1), (b + 2), (b + 3), (b + 4), (b + 5), (b + 6), (b + 7), (b + 8), (b + 9), (b + 10), (b + 11), (b + 12), (b + 13), (b + 14), (b + 15), (b + 16), (b + 17), (b + 18), (b + 19), (b + 20), (b + 21), (b + 22)] orsW5 (sdW5 (z.s 0)) [])
end Mine
lay_z Mine.lhsW5 Mine.rhsW5
namespace Mine
theorem chkW5 (pg : Program) (P : Params) (r : Bool) (b t : Nat) (z : Zs) : lhsW5 pg (wf P r) b t z = rhsW5 pg (wf P r) b t z := by
  rw [PySem.W.ZFast.ze14634863453882116390, PySem.W.ZFast.ze930273712175678233]
  cases r <;> kernel_rfl
theorem conW5 {w : World} {N U : Nat} (hN : N ≤ 800) (b t : Nat) (z : Zs) (hsd : ∀ y ∈ ((sdW5 (z.s 0)) : List Ob), y.ok) : ConF none [] w w.params N U (.call (.ref 700) ⟨[.ref z.x.L], []⟩) (lexD w.params z.x (.str ⟨#[32]⟩ (z.n 0)) (.str ⟨#[]⟩ (z.n 1)) (z.i 0) (z.l 0) (z.s 0) (.int 29 (z.n 2))) (lexD w.params z.x (.str ⟨#[32]⟩ (t + 213)) (.str ⟨#[]⟩ (t + 221)) (z.i 0) (z.l 0) (z.s 0) (.int 33 (t + 188))) b t (23) (227) (.ok (.ret (.str ⟨#[92]⟩ (t + 90)))) := by
  have h := chkW5 pw w.params (w.params.followText row1) b t z
  rw [wf_self] at h
  exact conF_of_run rfl (spOk w) noCt_ok (fun _ h => by cases h) (fun _ h => by cases h) hN h rfl (toldC_ok _ _ _ hsd (fun _ h => by cases h))
noncomputable def sdW6 (tx : Str) : List Ob := [.cmp 3 1 1099511627776 false, .cmp 1 1 (-1099511627776) false, .len tx, .cmp 4 33 tx.length false, .cmp 4 1 0 true, .cmp 1 34 tx.length true, .sl tx 33 34 ⟨#[39]⟩, .cmp 4 0 3 false, .cmp 3 1 1099511627776 false, .cmp 1 1 (-1099511627776) false, .len tx, .cmp 4 34 tx.length false, .cmp 4 1 0 true, .cmp 1 35 tx.length true, .sl tx 34 35 ⟨#[36]⟩, .cmp 4 0 3 false, .cmp 3 1 1099511627776 false, .cmp 1 1 (-1099511627776) false, .len tx, .cmp 4 35 tx.length false, .cmp 4 1 0 true, .cmp 1 36 tx.length true, .sl tx 35 36 ⟨#[39]⟩, .cmp 4 0 3 false, .cmp 3 1 1099511627776 false, .cmp 1 1 (-1099511627776) false, .len tx, .cmp 4 36 tx.length false, .cmp 4 1 0 true, .cmp 1 37 tx.length true, .sl tx 36 37 ⟨#[32]⟩, .cmp 4 0 3 false, .tin [⟨#[97]⟩, ⟨#[99]⟩] ⟨#[97]⟩ true, .cmp 4 0 2 false, .cmp 3 0 1 false]
noncomputable def orsW6 : List Rf := [.s, .d 5, .d 5, .d 5, .d 5, .d 5, .d 5, .d 5, .d 0, .s, .s, .s, .d 0, .s, .s, .s, .s, .s, .s, .s, .s, .s, .s, .s, .d 6, .d 6, .d 6, .d 0, .s, .s, .s, .d 0, .s, .s, .s, .d 0, .d 0, .s, .d 1, .d 5, .d 0, .s, .s, .s, .d 0, .s, .s, .s, .d 0, .d 0, .s, .d 1, .d 3, .s, .s, .s, .s, .s, .s, .s, .d 3, .s, .s, .s, .s, .s, .s, .s, .d 3, .s, .s, .s, .s, .d 3, .d 4, .s, .s, .s, .d 7, .d 7, .d 7, .d 7, .d 7, .s, .d 7, .s, .s, .d 8, .d 8, .d 8, .d 8, .s, .s, .d 8, .s, .s, .s, .s, .d 8, .d 8, .d 8, .d 8, .b false, .d 8, .b false, .d 8, .d 7, .d 7, .d 7, .d 3, .s, .s, .s, .s, .s, .s, .s, .d 3, .s, .s, .s, .s, .s, .s, .s, .d 3, .s, .s, .s, .s, .d 3, .d 4, .s, .s, .d 9, .d 9, .d 9, .d 3, .s, .s, .s, .s, .s, .s, .s, .d 3, .s, .s, .s, .s, .s, .s, .s, .d 3, .d 3, .s, .d 4, .d 7, .d 3, .s, .s, .s, .s, .s, .s, .s, .d 3, .s, .s, .s, .s, .s, .s, .s, .d 3, .d 3, .s, .d 4, .d 7, .d 7, .s, .s, .d 7, .d 3, .s, .s, .s, .s, .s, .s, .s, .d 3, .s, .s, .s, .s, .s, .s, .s, .d 3, .d 3, .s, .d 4, .n, .d 7, .d 7, .d 7, .d 7, .b false, .d 7, .b true, .d 7, .d 7, .d 7, .b true, .d 7, .d 7, .d 7, .d 7, .d 7, .d 7, .d 3, .s, .s, .s, .s, .s, .s, .s, .d 3, .s, .d 3, .s, .d 3, .s, .s, .s, .s, .s, .s, .s, .d 3, .s, .d 4, .d 4, .d 4, .d 7, .d 3, .s, .s, .s, .s, .s, .s, .s, .d 3, .s, .s, .s, .s, .s, .s, .s, .d 3, .d 3, .s, .d 4, .d 7, .d 7, .g 10 ⟨#[39]⟩, .d 5, .d 5, .d 5, .d 5, .d 0, .s, .s, .s, .d 0, .s, .s, .s, .d 0, .d 0, .s, .d 1, .b false, .d 5, .d 0, .s, .s, .s, .d 0, .s, .s, .s, .d 0, .d 0, .s, .d 1, .d 5, .d 0, .s, .s, .s, .d 0, .s, .s, .s, .d 0, .d 0, .s, .d 1, .d 5, .d 5, .d 5, .d 0, .s, .s, .s, .d 0, .s, .s, .s, .d 0, .d 0, .s, .d 1, .d 5, .d 5, .d 0, .s, .s, .s, .d 0, .s, .s, .s, .d 0, .d 0, .s, .d 1, .d 5, .d 0, .s, .s, .s, .d 0, .s, .s, .s, .d 0, .d 0, .s, .d 1, .d 5, .d 5, .d 0, .s, .s, .s, .d 0, .s, .s, .s, .d 0, .d 0, .s, .d 1, .d 5, .d 5, .d 0, .s, .s, .s, .d 0, .s, .s, .s, .d 0, .d 0, .s, .d 1, .d 5, .d 5, .d 0, .s, .s, .s, .d 0, .s, .s, .s, .s, .s, .s, .s, .s, .s, .s, .s, .d 11, .d 11, .d 11, .d 0, .s, .s, .s, .d 0, .s, .s, .s, .d 0, .d 0, .s, .d 1, .d 5, .d 5, .d 0, .s, .s, .s, .d 0, .s, .s, .s, .d 0, .d 0, .s, .d 1, .d 5, .d 0, .s, .s, .s, .d 0, .s, .s, .s, .d 0, .d 0, .s, .d 1, .d 5, .d 5, .d 0, .s, .s, .s, .d 0, .s, .d 0, .s, .d 0, .s, .s, .s, .d 0, .s, .d 1, .d 1, .d 1, .d 5, .d 0, .s, .s, .s, .d 0, .s, .s, .s, .s, .s, .s, .s, .s, .s, .s, .s, .d 12, .d 12, .d 12, .d 0, .s, .s, .s, .d 0, .s, .s, .s, .d 0, .d 0, .s, .d 1, .d 5, .d 0, .s, .s, .s, .d 0, .s, .s, .s, .d 0, .d 0, .s, .d 1, .d 3, .s, .s, .s, .s, .s, .s, .s, .d 3, .s, .s, .s, .s, .s, .s, .s, .d 3, .s, .s, .s, .s, .d 3, .d 4, .s, .s, .s, .d 13, .d 13, .d 13, .d 13, .d 13, .s, .d 13, .s, .s, .d 14, .d 14, .d 14, .d 14, .s, .s, .d 14, .s, .s, .s, .s, .d 14, .d 14, .d 14, .d 14, .b false, .d 14, .b false, .d 14, .d 13, .d 13, .d 13, .d 3, .s, .s, .s, .s, .s, .s, .s, .d 3, .s, .s, .s, .s, .s, .s, .s, .d 3, .s, .s, .s, .s, .d 3, .d 4, .s, .s, .d 15, .d 15, .d 15, .d 3, .s, .s, .s, .s, .s, .s, .s, .d 3, .s, .s, .s, .s, .s, .s, .s, .d 3, .d 3, .s, .d 4, .d 13, .d 3, .s, .s, .s, .s, .s, .s, .s, .d 3, .s, .s, .s, .s, .s, .s, .s, .d 3, .d 3, .s, .d 4, .d 13, .d 13, .s, .s, .d 13, .d 3, .s, .s, .s, .s, .s, .s, .s, .d 3, .s, .s, .s, .s, .s, .s, .s, .d 3, .d 3, .s, .d 4, .n, .d 13, .d 13, .d 13, .d 13, .b false, .d 13, .b true, .d 13, .d 13, .d 13, .b true, .d 13, .d 13, .d 13, .d 13, .d 13, .d 13, .d 3, .s, .s, .s, .s, .s, .s, .s, .d 3, .s, .d 3, .s, .d 3, .s, .s, .s, .s, .s, .s, .s, .d 3, .s, .d 4, .d 4, .d 4, .d 13, .d 3, .s, .s, .s, .s, .s, .s, .s, .d 3, .s, .s, .s, .s, .s, .s, .s, .d 3, .d 3, .s, .d 4, .d 13, .d 13, .g 16 ⟨#[36]⟩, .d 5, .d 5, .d 5, .d 5, .d 0, .s, .s, .s, .d 0, .s, .s, .s, .d 0, .d 0, .s, .d 1, .b false, .d 5, .d 0, .s, .s, .s, .d 0, .s, .s, .s, .d 0, .d 0, .s, .d 1, .d 5, .d 0, .s, .s, .s, .d 0, .s, .s, .s, .d 0, .d 0, .s, .d 1, .d 5, .d 0, .s, .s, .s, .d 0, .s, .s, .s, .d 0, .d 0, .s, .d 1, .d 5, .d 0, .s, .s, .s, .d 0, .s, .s, .s, .d 0, .d 0, .s, .d 1, .d 5, .d 5, .d 5, .d 5, .d 5, .d 0, .s, .s, .s, .d 0, .s, .s, .s, .d 0, .d 0, .s, .d 1, .d 5, .d 0, .s, .s, .s, .d 0, .s, .s, .s, .d 0, .d 0, .s, .d 1, .d 5, .d 5, .d 0, .s, .s, .s, .d 0, .s, .s, .s, .d 0, .d 0, .s, .d 1, .d 5, .d 0, .s, .s, .s, .d 0, .s, .s, .s, .d 0, .d 0, .s, .d 1, .d 5, .d 0, .s, .s, .s, .d 0, .s, .d 0, .s, .d 0, .s, .s, .s, .d 0, .s, .d 1, .d 1, .d 1, .d 5, .d 0, .s, .s, .s, .d 0, .s, .s, .s, .s, .s, .s, .s, .s, .s, .s, .s, .d 17, .d 17, .d 17, .d 0, .s, .s, .s, .d 0, .s, .s, .s, .d 0, .d 0, .s, .d 1, .d 5, .d 0, .s, .s, .s, .d 0, .s, .s, .s, .d 0, .d 0, .s, .d 1, .d 3, .s, .s, .s, .s, .s, .s, .s, .d 3, .s, .s, .s, .s, .s, .s, .s, .d 3, .s, .s, .s, .s, .d 3, .d 4, .s, .s, .s, .d 18, .d 18, .d 18, .d 18, .d 18, .s, .d 18, .s, .s, .d 19, .d 19, .d 19, .d 19, .s, .s, .d 19, .s, .s, .s, .s, .d 19, .d 19, .d 19, .d 19, .b false, .d 19, .b false, .d 19, .d 18, .d 18, .d 18, .d 3, .s, .s, .s, .s, .s, .s, .s, .d 3, .s, .s, .s, .s, .s, .s, .s, .d 3, .s, .s, .s, .s, .d 3, .d 4, .s, .s, .d 20, .d 20, .d 20, .d 3, .s, .s, .s, .s, .s, .s, .s, .d 3, .s, .s, .s, .s, .s, .s, .s, .d 3, .d 3, .s, .d 4, .d 18, .d 3, .s, .s, .s, .s, .s, .s, .s, .d 3, .s, .s, .s, .s, .s, .s, .s, .d 3, .d 3, .s, .d 4, .d 18, .d 18, .s, .s, .d 18, .d 3, .s, .s, .s, .s, .s, .s, .s, .d 3, .s, .s, .s, .s, .s, .s, .s, .d 3, .d 3, .s, .d 4, .n, .d 18, .d 18, .d 18, .d 18, .b false, .d 18, .b true, .d 18, .d 18, .d 18, .b true, .d 18, .d 18, .d 18, .d 18, .d 18, .d 18, .d 3, .s, .s, .s, .s, .s, .s, .s, .d 3, .s, .d 3, .s, .d 3, .s, .s, .s, .s, .s, .s, .s, .d 3, .s, .d 4, .d 4, .d 4, .d 18, .d 3, .s, .s, .s, .s, .s, .s, .s, .d 3, .s, .s, .s, .s, .s, .s, .s, .d 3, .d 3, .s, .d 4, .d 18, .d 18, .g 21 ⟨#[39]⟩, .d 5, .d 5, .d 5, .d 5, .d 0, .s, .s, .s, .d 0, .s, .s, .s, .d 0, .d 0, .s, .d 1, .b false, .d 5, .d 0, .s, .s, .s, .d 0, .s, .s, .s, .d 0, .d 0, .s, .d 1, .d 5, .d 0, .s, .s, .s, .d 0, .s, .s, .s, .d 0, .d 0, .s, .d 1, .d 5, .d 0, .s, .s, .s, .d 0, .s, .s, .s, .d 0, .d 0, .s, .d 1, .d 5, .d 0, .s, .s, .s, .d 0, .s, .s, .s, .d 0, .d 0, .s, .d 1, .d 5, .d 5, .d 5, .d 5, .d 5, .d 0, .s, .s, .s, .d 0, .s, .s, .s, .d 0, .d 0, .s, .d 1, .d 5, .d 0, .s, .s, .s, .d 0, .s, .s, .s, .d 0, .d 0, .s, .d 1, .d 5, .d 0, .s, .s, .s, .d 0, .s, .d 0, .s, .d 0, .s, .s, .s, .d 0, .s, .d 1, .d 1, .d 1, .d 5, .d 0, .s, .s, .s, .d 0, .s, .s, .s, .s, .s, .s, .s, .s, .s, .s, .s, .d 22, .d 22, .d 22, .d 0, .s, .s, .s, .d 0, .s, .s, .s, .d 0, .d 0, .s, .d 1, .d 5, .d 0, .s, .s, .s, .d 0, .s, .s, .s, .d 0, .d 0, .s, .d 1, .d 3, .s, .s, .s, .s, .s, .s, .s, .d 3, .s, .s, .s, .s, .s, .s, .s, .d 3, .s, .s, .s, .s, .d 3, .d 4, .s, .s, .s, .d 23, .d 23, .d 23, .d 23, .d 23, .s, .d 23, .s, .s, .d 24, .d 24, .d 24, .d 24, .s, .s, .d 24, .s, .s, .s, .s, .d 24, .d 24, .d 24, .d 24, .b false, .d 24, .b false, .d 24, .d 23, .d 23, .d 23, .d 3, .s, .s, .s, .s, .s, .s, .s, .d 3, .s, .s, .s, .s, .s, .s, .s, .d 3, .s, .s, .s, .s, .d 3, .d 4, .s, .s, .d 25, .d 25, .d 25, .d 3, .s, .s, .s, .s, .s, .s, .s, .d 3, .s, .s, .s, .s, .s, .s, .s, .d 3, .d 3, .s, .d 4, .d 23, .d 3, .s, .s, .s, .s, .s, .s, .s, .d 3, .s, .s, .s, .s, .s, .s, .s, .d 3, .d 3, .s, .d 4, .d 23, .d 23, .s, .s, .d 23, .d 3, .s, .s, .s, .s, .s, .s, .s, .d 3, .s, .s, .s, .s, .s, .s, .s, .d 3, .d 3, .s, .d 4, .n, .d 23, .d 23, .d 23, .d 23, .b false, .d 23, .b true, .d 23, .d 23, .d 23, .b true, .d 23, .d 23, .d 23, .d 23, .d 23, .d 23, .d 3, .s, .s, .s, .s, .s, .s, .s, .d 3, .s, .d 3, .s, .d 3, .s, .s, .s, .s, .s, .s, .s, .d 3, .s, .d 4, .d 4, .d 4, .d 23, .d 3, .s, .s, .s, .s, .s, .s, .s, .d 3, .s, .s, .s, .s, .s, .s, .s, .d 3, .d 3, .s, .d 4, .d 23, .d 23, .g 26 ⟨#[32]⟩, .d 5, .d 5, .d 5, .d 5, .d 0, .s, .s, .s, .d 0, .s, .s, .s, .d 0, .d 0, .s, .d 1, .b false, .d 5, .d 0, .s, .s, .s, .d 0, .s, .s, .s, .d 0, .d 0, .s, .d 1, .d 5, .d 0, .s, .s, .s, .d 0, .s, .s, .s, .d 0, .d 0, .s, .d 1, .d 5, .d 0, .s, .s, .s, .d 0, .s, .s, .s, .d 0, .d 0, .s, .d 1, .d 5, .d 0, .s, .s, .s, .d 0, .s, .s, .s, .d 0, .d 0, .s, .d 1, .d 5, .d 0, .s, .s, .s, .d 0, .s, .s, .s, .d 0, .d 0, .s, .d 1, .d 5, .d 0, .s, .s, .s, .d 0, .s, .s, .s, .d 0, .d 0, .s, .d 1, .d 5, .d 0, .s, .s, .s, .d 0, .s, .s, .s, .d 0, .d 0, .s, .d 1, .d 27, .d 27, .t 27 true, .d 5, .d 5, .d 5, .d 0, .s, .s, .s, .d 0, .s, .s, .s, .d 0, .d 0, .s, .d 1, .d 5, .d 0, .s, .s, .s, .d 0, .s, .s, .s, .d 0, .d 0, .s, .d 1, .b false, .d 5, .d 0, .s, .s, .s, .d 0, .s, .d 0, .s, .d 0, .s, .s, .s, .d 0, .s, .d 1, .d 1, .d 1, .d 5, .d 0, .s, .s, .s, .d 0, .s, .s, .s, .d 0, .d 0, .s, .d 1, .d 5, .d 0, .s, .s, .s, .d 0, .s, .s, .s, .d 0, .d 0, .s, .d 1, .d 5, .d 5, .d 5, .d 0, .s, .s, .s, .d 0, .s, .d 0, .s, .d 0, .s, .s, .s, .d 0, .s, .d 1, .d 1, .d 1, .d 5, .d 0, .s, .s, .s, .d 0, .s, .s, .s, .d 0, .d 0, .s, .d 1, .d 5, .d 5, .d 0, .s, .s, .s, .d 0, .s, .s, .s, .d 0, .d 0, .s, .d 1, .b false, .d 5]
noncomputable def lhsW6 (pg : Program) (W : Params) (b t : Nat) (z : Zs) := resM m5 (enter W (go pg W b t true noCt 3313) orsW6 (.call (.ref 700) ⟨[.ref z.x.L], []⟩) kx (lexD W z.x (.str ⟨#[32]⟩ (z.n 0)) (.str ⟨#[]⟩ (z.n 1)) (z.i 0) (z.l 0) (z.s 0) (.int 33 (z.n 2))) 0 0 [])
noncomputable def rhsW6 (pg : Program) (W : Params) (b t : Nat) (z : Zs) : Option (Except Value PySem.Fin × Dy × Nat × Nat × List Ob) := some (.ok (.done (.ret (.str ⟨#[36]⟩ (t + 90)))), lexD W z.x (.str ⟨#[32]⟩ (t + 211)) (.str ⟨#[]⟩ (t + 219)) (z.i 0) (z.l 0) (z.s 0) (.int 37 (t + 186)), 23, 225, toldC noCt [z.x.L, z.x.d, z.x.q, z.x.io, z.x.iod, (b + 0), (b + 1), (b + 2), (b + 3), (b + 4), (b + 5), (b + 6), (b + 7), (b + 8), (b + 9), (b + 10), (b + 11), (b + 12), (b + 13), (b + 14), (b + 15), (b + 16), (b + 17), (b + 18), (b + 19), (b + 20), (b + 21), (b + 22)] orsW6 (sdW6 (z.s 0)) [])
end Mine
lay_z Mine.lhsW6 Mine.rhsW6
namespace Mine
theorem chkW6 (pg : Program) (P : Params) (r : Bool) (b t : Nat) (z : Zs) : lhsW6 pg (wf P r) b t z = rhsW6 pg (wf P r) b t z := by
  rw [PySem.W.ZFast.ze5765023674164257030, PySem.W.ZFast.ze3136818696733714941]
  cases r <;> kernel_rfl
theorem conW6 {w : World} {N U : Nat} (hN : N ≤ 800) (b t : Nat) (z : Zs) (hsd : ∀ y ∈ ((sdW6 (z.s 0)) : List Ob), y.ok) : ConF none [] w w.params N U (.call (.ref 700) ⟨[.ref z.x.L], []⟩) (lexD w.params z.x (.str ⟨#[32]⟩ (z.n 0)) (.str ⟨#[]⟩ (z.n 1)) (z.i 0) (z.l 0) (z.s 0) (.int 33 (z.n 2))) (lexD w.params z.x (.str ⟨#[32]⟩ (t + 211)) (.str ⟨#[]⟩ (t + 219)) (z.i 0) (z.l 0) (z.s 0) (.int 37 (t + 186))) b t (23) (225) (.ok (.ret (.str ⟨#[36]⟩ (t + 90)))) := by
  have h := chkW6 pw w.params (w.params.followText row1) b t z
  rw [wf_self] at h
  exact conF_of_run rfl (spOk w) noCt_ok (fun _ h => by cases h) (fun _ h => by cases h) hN h rfl (toldC_ok _ _ _ hsd (fun _ h => by cases h))
noncomputable def sdW7 (tx : Str) : List Ob := [.cmp 3 1 1099511627776 false, .cmp 1 1 (-1099511627776) false, .len tx, .cmp 4 37 tx.length false, .cmp 4 1 0 true, .cmp 1 38 tx.length false, .sl tx 37 tx.length ⟨#[61]⟩, .cmp 4 0 3 false, .cmp 3 0 1 false]
noncomputable def orsW7 : List Rf := [.s, .d 5, .d 5, .d 5, .d 5, .d 5, .d 5, .d 5, .d 0, .s, .s, .s, .d 0, .s, .s, .s, .s, .s, .s, .s, .s, .s, .s, .s, .d 6, .d 6, .d 6, .d 0, .s, .s, .s, .d 0, .s, .s, .s, .d 0, .d 0, .s, .d 1, .d 5, .d 0, .s, .s, .s, .d 0, .s, .s, .s, .d 0, .d 0, .s, .d 1, .d 3, .s, .s, .s, .s, .s, .s, .s, .d 3, .s, .s, .s, .s, .s, .s, .s, .d 3, .s, .s, .s, .s, .d 3, .d 4, .s, .s, .s, .d 7, .d 7, .d 7, .d 7, .d 7, .s, .d 7, .s, .s, .d 8, .d 8, .d 8, .d 8, .s, .s, .d 8, .s, .s, .s, .s, .d 8, .d 8, .d 8, .d 8, .b false, .d 8, .b false, .d 8, .d 7, .d 7, .d 7, .d 3, .s, .s, .s, .s, .s, .s, .s, .d 3, .s, .s, .s, .s, .s, .s, .s, .d 3, .s, .s, .s, .s, .d 3, .d 4, .s, .s, .d 9, .d 9, .d 9, .d 3, .s, .s, .s, .s, .s, .s, .s, .d 3, .s, .s, .s, .s, .s, .s, .s, .d 3, .d 3, .s, .d 4, .d 7, .d 3, .s, .s, .s, .s, .s, .s, .s, .d 3, .s, .s, .s, .s, .s, .s, .s, .d 3, .d 3, .s, .d 4, .d 7, .d 7, .s, .s, .d 7, .d 3, .s, .s, .s, .s, .s, .s, .s, .d 3, .s, .s, .s, .s, .s, .s, .s, .d 3, .d 3, .s, .d 4, .n, .d 7, .d 7, .d 7, .d 7, .b false, .d 7, .b true, .d 7, .d 7, .d 7, .b false, .d 7, .d 7, .d 3, .s, .s, .s, .s, .s, .s, .s, .d 3, .s, .d 3, .s, .d 3, .s, .s, .s, .s, .s, .s, .s, .d 3, .s, .d 4, .d 4, .d 4, .d 7, .d 3, .s, .s, .s, .s, .s, .s, .s, .d 3, .s, .s, .s, .s, .s, .s, .s, .d 3, .d 3, .s, .d 4, .d 7, .d 7, .g 10 ⟨#[61]⟩, .d 5, .d 5, .d 5, .d 5, .d 0, .s, .s, .s, .d 0, .s, .s, .s, .d 0, .d 0, .s, .d 1, .b false, .d 5, .d 0, .s, .s, .s, .d 0, .s, .s, .s, .d 0, .d 0, .s, .d 1, .d 5, .d 0, .s, .s, .s, .d 0, .s, .s, .s, .d 0, .d 0, .s, .d 1, .d 5, .d 5, .d 5, .d 0, .s, .s, .s, .d 0, .s, .s, .s, .d 0, .d 0, .s, .d 1, .d 5, .d 5, .d 0, .s, .s, .s, .d 0, .s, .s, .s, .d 0, .d 0, .s, .d 1, .d 5, .d 0, .s, .s, .s, .d 0, .s, .s, .s, .d 0, .d 0, .s, .d 1, .d 5, .d 5, .d 0, .s, .s, .s, .d 0, .s, .s, .s, .d 0, .d 0, .s, .d 1, .d 5, .d 5, .d 0, .s, .s, .s, .d 0, .s, .s, .s, .d 0, .d 0, .s, .d 1, .d 5, .d 5, .d 0, .s, .s, .s, .d 0, .s, .s, .s, .s, .s, .s, .s, .s, .s, .s, .s, .d 11, .d 11, .d 11, .d 0, .s, .s, .s, .d 0, .s, .s, .s, .d 0, .d 0, .s, .d 1, .d 5, .d 5, .d 0, .s, .s, .s, .d 0, .s, .s, .s, .d 0, .d 0, .s, .d 1, .d 5, .d 0, .s, .s, .s, .d 0, .s, .s, .s, .d 0, .d 0, .s, .d 1, .d 5, .d 5, .d 0, .s, .s, .s, .d 0, .s, .d 0, .s, .d 0, .s, .s, .s, .d 0, .s, .d 1, .d 1, .d 1, .d 5, .d 0, .s, .s, .s, .d 0, .s, .s, .s, .d 0, .d 0, .s, .d 1, .d 5, .d 0, .s, .s, .s, .d 0, .s, .s, .s, .d 0, .d 0, .s, .d 1, .d 5, .d 5, .d 5, .d 0, .s, .s, .s, .d 0, .s, .d 0, .s, .d 0, .s, .s, .s, .d 0, .s, .d 1, .d 1, .d 1, .d 5, .d 0, .s, .s, .s, .d 0, .s, .s, .s, .d 0, .d 0, .s, .d 1, .d 5, .d 5, .d 5, .d 0, .s, .s, .s, .d 0, .s, .s, .s, .d 0, .d 0, .s, .d 1, .b false, .d 5]
noncomputable def lhsW7 (pg : Program) (W : Params) (b t : Nat) (z : Zs) := resM m5 (enter W (go pg W b t true noCt 1045) orsW7 (.call (.ref 700) ⟨[.ref z.x.L], []⟩) kx (lexD W z.x (.str ⟨#[32]⟩ (z.n 0)) (.str ⟨#[]⟩ (z.n 1)) (z.i 0) (z.l 0) (z.s 0) (.int 37 (z.n 2))) 0 0 [])
noncomputable def rhsW7 (pg : Program) (W : Params) (b t : Nat) (z : Zs) : Option (Except Value PySem.Fin × Dy × Nat × Nat × List Ob) := some (.ok (.done (.ret (.str ⟨#[61]⟩ (t + 34)))), lexD W z.x (.str ⟨#[32]⟩ (z.n 0)) (.str ⟨#[]⟩ (t + 61)) (z.i 0) (z.l 0) (z.s 0) (.int (z.s 0).length (t + 27)), 7, 68, toldC noCt [z.x.L, z.x.d, z.x.q, z.x.io, z.x.iod, (b + 0), (b + 1), (b + 2), (b + 3), (b + 4), (b + 5), (b + 6)] orsW7 (sdW7 (z.s 0)) [])
end Mine
lay_z Mine.lhsW7 Mine.rhsW7
namespace Mine
theorem chkW7 (pg : Program) (P : Params) (r : Bool) (b t : Nat) (z : Zs) : lhsW7 pg (wf P r) b t z = rhsW7 pg (wf P r) b t z := by
  rw [PySem.W.ZFast.ze14362351817621857377, PySem.W.ZFast.ze11190827172706914545]
  cases r <;> kernel_rfl
theorem conW7 {w : World} {N U : Nat} (hN : N ≤ 800) (b t : Nat) (z : Zs) (hsd : ∀ y ∈ ((sdW7 (z.s 0)) : List Ob), y.ok) : ConF none [] w w.params N U (.call (.ref 700) ⟨[.ref z.x.L], []⟩) (lexD w.params z.x (.str ⟨#[32]⟩ (z.n 0)) (.str ⟨#[]⟩ (z.n 1)) (z.i 0) (z.l 0) (z.s 0) (.int 37 (z.n 2))) (lexD w.params z.x (.str ⟨#[32]⟩ (z.n 0)) (.str ⟨#[]⟩ (t + 61)) (z.i 0) (z.l 0) (z.s 0) (.int (z.s 0).length (t + 27))) b t (7) (68) (.ok (.ret (.str ⟨#[61]⟩ (t + 34)))) := by
  have h := chkW7 pw w.params (w.params.followText row1) b t z
  rw [wf_self] at h
  exact conF_of_run rfl (spOk w) noCt_ok (fun _ h => by cases h) (fun _ h => by cases h) hN h rfl (toldC_ok _ _ _ hsd (fun _ h => by cases h))
noncomputable def sdW8 (tx : Str) : List Ob := [.cmp 3 1 1099511627776 false, .cmp 1 1 (-1099511627776) false, .len tx, .cmp 4 tx.length tx.length true, .cmp 4 0 3 false, .cmp 3 0 1 false]
noncomputable def orsW8 : List Rf := [.s, .d 5, .d 5, .d 5, .d 5, .d 5, .d 5, .d 5, .d 0, .s, .s, .s, .d 0, .s, .s, .s, .s, .s, .s, .s, .s, .s, .s, .s, .d 6, .d 6, .d 6, .d 0, .s, .s, .s, .d 0, .s, .s, .s, .d 0, .d 0, .s, .d 1, .d 5, .d 0, .s, .s, .s, .d 0, .s, .s, .s, .d 0, .d 0, .s, .d 1, .d 3, .s, .s, .s, .s, .s, .s, .s, .d 3, .s, .s, .s, .s, .s, .s, .s, .d 3, .s, .s, .s, .s, .d 3, .d 4, .s, .s, .s, .d 7, .d 7, .d 7, .d 7, .d 7, .s, .d 7, .s, .s, .d 8, .d 8, .d 8, .d 8, .s, .s, .d 8, .s, .s, .s, .s, .d 8, .d 8, .d 8, .d 8, .b false, .d 8, .b false, .d 8, .d 7, .d 7, .d 7, .d 3, .s, .s, .s, .s, .s, .s, .s, .d 3, .s, .s, .s, .s, .s, .s, .s, .d 3, .s, .s, .s, .s, .d 3, .d 4, .s, .s, .d 9, .d 9, .d 9, .d 3, .s, .s, .s, .s, .s, .s, .s, .d 3, .s, .s, .s, .s, .s, .s, .s, .d 3, .d 3, .s, .d 4, .d 7, .d 3, .s, .s, .s, .s, .s, .s, .s, .d 3, .s, .s, .s, .s, .s, .s, .s, .d 3, .d 3, .s, .d 4, .d 7, .d 7, .s, .s, .d 7, .d 3, .s, .s, .s, .s, .s, .s, .s, .d 3, .s, .s, .s, .s, .s, .s, .s, .d 3, .d 3, .s, .d 4, .n, .d 7, .d 7, .d 7, .d 7, .b true, .d 5, .d 5, .d 5, .d 5, .d 0, .s, .s, .s, .d 0, .s, .s, .s, .d 0, .d 0, .s, .d 1, .b false, .d 5, .d 0, .s, .s, .s, .d 0, .s, .s, .s, .d 0, .d 0, .s, .d 1, .d 5, .d 0, .s, .s, .s, .d 0, .s, .s, .s, .d 0, .d 0, .s, .d 1, .d 5, .d 5, .d 0, .s, .s, .s, .d 0, .s, .d 0, .s, .d 0, .s, .s, .s, .d 0, .s, .d 1, .d 1, .d 1, .d 5, .d 0, .s, .s, .s, .d 0, .s, .s, .s, .d 0, .d 0, .s, .d 1, .d 5, .d 5, .d 5, .d 0, .s, .s, .s, .d 0, .s, .d 0, .s, .d 0, .s, .s, .s, .d 0, .s, .d 1, .d 1, .d 1, .d 5, .d 0, .s, .s, .s, .d 0, .s, .s, .s, .d 0, .d 0, .s, .d 1, .d 5, .d 5, .d 5, .d 5, .d 5, .d 0, .s, .s, .s, .d 0, .s, .s, .s, .d 0, .d 0, .s, .d 1, .b false, .d 5]
noncomputable def lhsW8 (pg : Program) (W : Params) (b t : Nat) (z : Zs) := resM m5 (enter W (go pg W b t true noCt 699) orsW8 (.call (.ref 700) ⟨[.ref z.x.L], []⟩) kx (lexD W z.x (.str ⟨#[32]⟩ (z.n 0)) (.str ⟨#[]⟩ (z.n 1)) (z.i 0) (z.l 0) (z.s 0) (.int (z.s 0).length (z.n 2))) 0 0 [])
noncomputable def rhsW8 (pg : Program) (W : Params) (b t : Nat) (z : Zs) : Option (Except Value PySem.Fin × Dy × Nat × Nat × List Ob) := some (.ok (.done (.ret .none)), lexD W z.x .none (.str ⟨#[]⟩ (t + 43)) (z.i 0) (z.l 0) (z.s 0) (.int (z.s 0).length (z.n 2)), 5, 51, toldC noCt [z.x.L, z.x.d, z.x.q, z.x.io, z.x.iod, (b + 0), (b + 1), (b + 2), (b + 3), (b + 4)] orsW8 (sdW8 (z.s 0)) [])
end Mine
lay_z Mine.lhsW8 Mine.rhsW8
namespace Mine
theorem chkW8 (pg : Program) (P : Params) (r : Bool) (b t : Nat) (z : Zs) : lhsW8 pg (wf P r) b t z = rhsW8 pg (wf P r) b t z := by
  rw [PySem.W.ZFast.ze16544835560172548047, PySem.W.ZFast.ze10990741780651252730]
  cases r <;> kernel_rfl
theorem conW8 {w : World} {N U : Nat} (hN : N ≤ 800) (b t : Nat) (z : Zs) (hsd : ∀ y ∈ ((sdW8 (z.s 0)) : List Ob), y.ok) : ConF none [] w w.params N U (.call (.ref 700) ⟨[.ref z.x.L], []⟩) (lexD w.params z.x (.str ⟨#[32]⟩ (z.n 0)) (.str ⟨#[]⟩ (z.n 1)) (z.i 0) (z.l 0) (z.s 0) (.int (z.s 0).length (z.n 2))) (lexD w.params z.x .none (.str ⟨#[]⟩ (t + 43)) (z.i 0) (z.l 0) (z.s 0) (.int (z.s 0).length (z.n 2))) b t (5) (51) (.ok (.ret .none)) := by
  have h := chkW8 pw w.params (w.params.followText row1) b t z
  rw [wf_self] at h
  exact conF_of_run rfl (spOk w) noCt_ok (fun _ h => by cases h) (fun _ h => by cases h) hN h rfl (toldC_ok _ _ _ hsd (fun _ h => by cases h))
noncomputable def sdW9 (tx : Str) : List Ob := [.cmp 3 1 1099511627776 false, .cmp 1 1 (-1099511627776) false, .len tx, .cmp 4 17 tx.length false, .cmp 4 1 0 true, .cmp 1 18 tx.length true, .sl tx 17 18 ⟨#[39]⟩, .cmp 4 0 3 false, .cmp 3 1 1099511627776 false, .cmp 1 1 (-1099511627776) false, .len tx, .cmp 4 18 tx.length false, .cmp 4 1 0 true, .cmp 1 19 tx.length true, .sl tx 18 19 ⟨#[35]⟩, .cmp 4 0 3 false, .cmp 3 1 1099511627776 false, .cmp 1 1 (-1099511627776) false, .len tx, .cmp 4 19 tx.length false, .cmp 4 1 0 true, .cmp 1 20 tx.length false, .sl tx 19 tx.length ⟨#[39]⟩, .cmp 4 0 3 false, .cmp 3 1 1099511627776 false, .cmp 1 1 (-1099511627776) false, .len tx, .cmp 4 tx.length tx.length true, .cmp 4 0 3 false, .tin [⟨#[97]⟩, ⟨#[99]⟩] ⟨#[97]⟩ true, .cmp 3 0 1 false]
noncomputable def orsW9 : List Rf := [.s, .d 5, .d 5, .d 5, .d 5, .d 5, .d 5, .d 5, .d 0, .s, .s, .s, .d 0, .s, .s, .s, .s, .s, .s, .s, .s, .s, .s, .s, .d 6, .d 6, .d 6, .d 0, .s, .s, .s, .d 0, .s, .s, .s, .d 0, .d 0, .s, .d 1, .d 5, .d 0, .s, .s, .s, .d 0, .s, .s, .s, .d 0, .d 0, .s, .d 1, .d 3, .s, .s, .s, .s, .s, .s, .s, .d 3, .s, .s, .s, .s, .s, .s, .s, .d 3, .s, .s, .s, .s, .d 3, .d 4, .s, .s, .s, .d 7, .d 7, .d 7, .d 7, .d 7, .s, .d 7, .s, .s, .d 8, .d 8, .d 8, .d 8, .s, .s, .d 8, .s, .s, .s, .s, .d 8, .d 8, .d 8, .d 8, .b false, .d 8, .b false, .d 8, .d 7, .d 7, .d 7, .d 3, .s, .s, .s, .s, .s, .s, .s, .d 3, .s, .s, .s, .s, .s, .s, .s, .d 3, .s, .s, .s, .s, .d 3, .d 4, .s, .s, .d 9, .d 9, .d 9, .d 3, .s, .s, .s, .s, .s, .s, .s, .d 3, .s, .s, .s, .s, .s, .s, .s, .d 3, .d 3, .s, .d 4, .d 7, .d 3, .s, .s, .s, .s, .s, .s, .s, .d 3, .s, .s, .s, .s, .s, .s, .s, .d 3, .d 3, .s, .d 4, .d 7, .d 7, .s, .s, .d 7, .d 3, .s, .s, .s, .s, .s, .s, .s, .d 3, .s, .s, .s, .s, .s, .s, .s, .d 3, .d 3, .s, .d 4, .n, .d 7, .d 7, .d 7, .d 7, .b false, .d 7, .b true, .d 7, .d 7, .d 7, .b true, .d 7, .d 7, .d 7, .d 7, .d 7, .d 7, .d 3, .s, .s, .s, .s, .s, .s, .s, .d 3, .s, .d 3, .s, .d 3, .s, .s, .s, .s, .s, .s, .s, .d 3, .s, .d 4, .d 4, .d 4, .d 7, .d 3, .s, .s, .s, .s, .s, .s, .s, .d 3, .s, .s, .s, .s, .s, .s, .s, .d 3, .d 3, .s, .d 4, .d 7, .d 7, .g 10 ⟨#[39]⟩, .d 5, .d 5, .d 5, .d 5, .d 0, .s, .s, .s, .d 0, .s, .s, .s, .d 0, .d 0, .s, .d 1, .b false, .d 5, .d 0, .s, .s, .s, .d 0, .s, .s, .s, .d 0, .d 0, .s, .d 1, .d 5, .d 0, .s, .s, .s, .d 0, .s, .s, .s, .d 0, .d 0, .s, .d 1, .d 5, .d 5, .d 5, .d 0, .s, .s, .s, .d 0, .s, .s, .s, .d 0, .d 0, .s, .d 1, .d 5, .d 5, .d 0, .s, .s, .s, .d 0, .s, .s, .s, .d 0, .d 0, .s, .d 1, .d 5, .d 0, .s, .s, .s, .d 0, .s, .s, .s, .d 0, .d 0, .s, .d 1, .d 5, .d 5, .d 0, .s, .s, .s, .d 0, .s, .s, .s, .d 0, .d 0, .s, .d 1, .d 5, .d 5, .d 0, .s, .s, .s, .d 0, .s, .s, .s, .d 0, .d 0, .s, .d 1, .d 5, .d 5, .d 0, .s, .s, .s, .d 0, .s, .s, .s, .s, .s, .s, .s, .s, .s, .s, .s, .d 11, .d 11, .d 11, .d 0, .s, .s, .s, .d 0, .s, .s, .s, .d 0, .d 0, .s, .d 1, .d 5, .d 5, .d 0, .s, .s, .s, .d 0, .s, .s, .s, .d 0, .d 0, .s, .d 1, .d 5, .d 0, .s, .s, .s, .d 0, .s, .s, .s, .d 0, .d 0, .s, .d 1, .d 5, .d 5, .d 0, .s, .s, .s, .d 0, .s, .d 0, .s, .d 0, .s, .s, .s, .d 0, .s, .d 1, .d 1, .d 1, .d 5, .d 0, .s, .s, .s, .d 0, .s, .s, .s, .s, .s, .s, .s, .s, .s, .s, .s, .d 12, .d 12, .d 12, .d 0, .s, .s, .s, .d 0, .s, .s, .s, .d 0, .d 0, .s, .d 1, .d 5, .d 0, .s, .s, .s, .d 0, .s, .s, .s, .d 0, .d 0, .s, .d 1, .d 3, .s, .s, .s, .s, .s, .s, .s, .d 3, .s, .s, .s, .s, .s, .s, .s, .d 3, .s, .s, .s, .s, .d 3, .d 4, .s, .s, .s, .d 13, .d 13, .d 13, .d 13, .d 13, .s, .d 13, .s, .s, .d 14, .d 14, .d 14, .d 14, .s, .s, .d 14, .s, .s, .s, .s, .d 14, .d 14, .d 14, .d 14, .b false, .d 14, .b false, .d 14, .d 13, .d 13, .d 13, .d 3, .s, .s, .s, .s, .s, .s, .s, .d 3, .s, .s, .s, .s, .s, .s, .s, .d 3, .s, .s, .s, .s, .d 3, .d 4, .s, .s, .d 15, .d 15, .d 15, .d 3, .s, .s, .s, .s, .s, .s, .s, .d 3, .s, .s, .s, .s, .s, .s, .s, .d 3, .d 3, .s, .d 4, .d 13, .d 3, .s, .s, .s, .s, .s, .s, .s, .d 3, .s, .s, .s, .s, .s, .s, .s, .d 3, .d 3, .s, .d 4, .d 13, .d 13, .s, .s, .d 13, .d 3, .s, .s, .s, .s, .s, .s, .s, .d 3, .s, .s, .s, .s, .s, .s, .s, .d 3, .d 3, .s, .d 4, .n, .d 13, .d 13, .d 13, .d 13, .b false, .d 13, .b true, .d 13, .d 13, .d 13, .b true, .d 13, .d 13, .d 13, .d 13, .d 13, .d 13, .d 3, .s, .s, .s, .s, .s, .s, .s, .d 3, .s, .d 3, .s, .d 3, .s, .s, .s, .s, .s, .s, .s, .d 3, .s, .d 4, .d 4, .d 4, .d 13, .d 3, .s, .s, .s, .s, .s, .s, .s, .d 3, .s, .s, .s, .s, .s, .s, .s, .d 3, .d 3, .s, .d 4, .d 13, .d 13, .g 16 ⟨#[35]⟩, .d 5, .d 5, .d 5, .d 5, .d 0, .s, .s, .s, .d 0, .s, .s, .s, .d 0, .d 0, .s, .d 1, .b false, .d 5, .d 0, .s, .s, .s, .d 0, .s, .s, .s, .d 0, .d 0, .s, .d 1, .d 5, .d 0, .s, .s, .s, .d 0, .s, .s, .s, .d 0, .d 0, .s, .d 1, .d 5, .d 0, .s, .s, .s, .d 0, .s, .s, .s, .d 0, .d 0, .s, .d 1, .d 5, .d 0, .s, .s, .s, .d 0, .s, .s, .s, .d 0, .d 0, .s, .d 1, .d 5, .d 5, .d 5, .d 5, .d 5, .d 0, .s, .s, .s, .d 0, .s, .s, .s, .d 0, .d 0, .s, .d 1, .d 5, .d 0, .s, .s, .s, .d 0, .s, .s, .s, .d 0, .d 0, .s, .d 1, .d 5, .d 5, .d 0, .s, .s, .s, .d 0, .s, .s, .s, .d 0, .d 0, .s, .d 1, .d 5, .d 0, .s, .s, .s, .d 0, .s, .s, .s, .d 0, .d 0, .s, .d 1, .d 5, .d 0, .s, .s, .s, .d 0, .s, .d 0, .s, .d 0, .s, .s, .s, .d 0, .s, .d 1, .d 1, .d 1, .d 5, .d 0, .s, .s, .s, .d 0, .s, .s, .s, .s, .s, .s, .s, .s, .s, .s, .s, .d 17, .d 17, .d 17, .d 0, .s, .s, .s, .d 0, .s, .s, .s, .d 0, .d 0, .s, .d 1, .d 5, .d 0, .s, .s, .s, .d 0, .s, .s, .s, .d 0, .d 0, .s, .d 1, .d 3, .s, .s, .s, .s, .s, .s, .s, .d 3, .s, .s, .s, .s, .s, .s, .s, .d 3, .s, .s, .s, .s, .d 3, .d 4, .s, .s, .s, .d 18, .d 18, .d 18, .d 18, .d 18, .s, .d 18, .s, .s, .d 19, .d 19, .d 19, .d 19, .s, .s, .d 19, .s, .s, .s, .s, .d 19, .d 19, .d 19, .d 19, .b false, .d 19, .b false, .d 19, .d 18, .d 18, .d 18, .d 3, .s, .s, .s, .s, .s, .s, .s, .d 3, .s, .s, .s, .s, .s, .s, .s, .d 3, .s, .s, .s, .s, .d 3, .d 4, .s, .s, .d 20, .d 20, .d 20, .d 3, .s, .s, .s, .s, .s, .s, .s, .d 3, .s, .s, .s, .s, .s, .s, .s, .d 3, .d 3, .s, .d 4, .d 18, .d 3, .s, .s, .s, .s, .s, .s, .s, .d 3, .s, .s, .s, .s, .s, .s, .s, .d 3, .d 3, .s, .d 4, .d 18, .d 18, .s, .s, .d 18, .d 3, .s, .s, .s, .s, .s, .s, .s, .d 3, .s, .s, .s, .s, .s, .s, .s, .d 3, .d 3, .s, .d 4, .n, .d 18, .d 18, .d 18, .d 18, .b false, .d 18, .b true, .d 18, .d 18, .d 18, .b false, .d 18, .d 18, .d 3, .s, .s, .s, .s, .s, .s, .s, .d 3, .s, .d 3, .s, .d 3, .s, .s, .s, .s, .s, .s, .s, .d 3, .s, .d 4, .d 4, .d 4, .d 18, .d 3, .s, .s, .s, .s, .s, .s, .s, .d 3, .s, .s, .s, .s, .s, .s, .s, .d 3, .d 3, .s, .d 4, .d 18, .d 18, .g 21 ⟨#[39]⟩, .d 5, .d 5, .d 5, .d 5, .d 0, .s, .s, .s, .d 0, .s, .s, .s, .d 0, .d 0, .s, .d 1, .b false, .d 5, .d 0, .s, .s, .s, .d 0, .s, .s, .s, .d 0, .d 0, .s, .d 1, .d 5, .d 0, .s, .s, .s, .d 0, .s, .s, .s, .d 0, .d 0, .s, .d 1, .d 5, .d 0, .s, .s, .s, .d 0, .s, .s, .s, .d 0, .d 0, .s, .d 1, .d 5, .d 0, .s, .s, .s, .d 0, .s, .s, .s, .d 0, .d 0, .s, .d 1, .d 5, .d 5, .d 5, .d 5, .d 5, .d 0, .s, .s, .s, .d 0, .s, .s, .s, .d 0, .d 0, .s, .d 1, .d 5, .d 0, .s, .s, .s, .d 0, .s, .s, .s, .d 0, .d 0, .s, .d 1, .d 5, .d 0, .s, .s, .s, .d 0, .s, .d 0, .s, .d 0, .s, .s, .s, .d 0, .s, .d 1, .d 1, .d 1, .d 5, .d 0, .s, .s, .s, .d 0, .s, .s, .s, .s, .s, .s, .s, .s, .s, .s, .s, .d 22, .d 22, .d 22, .d 0, .s, .s, .s, .d 0, .s, .s, .s, .d 0, .d 0, .s, .d 1, .d 5, .d 0, .s, .s, .s, .d 0, .s, .s, .s, .d 0, .d 0, .s, .d 1, .d 3, .s, .s, .s, .s, .s, .s, .s, .d 3, .s, .s, .s, .s, .s, .s, .s, .d 3, .s, .s, .s, .s, .d 3, .d 4, .s, .s, .s, .d 23, .d 23, .d 23, .d 23, .d 23, .s, .d 23, .s, .s, .d 24, .d 24, .d 24, .d 24, .s, .s, .d 24, .s, .s, .s, .s, .d 24, .d 24, .d 24, .d 24, .b false, .d 24, .b false, .d 24, .d 23, .d 23, .d 23, .d 3, .s, .s, .s, .s, .s, .s, .s, .d 3, .s, .s, .s, .s, .s, .s, .s, .d 3, .s, .s, .s, .s, .d 3, .d 4, .s, .s, .d 25, .d 25, .d 25, .d 3, .s, .s, .s, .s, .s, .s, .s, .d 3, .s, .s, .s, .s, .s, .s, .s, .d 3, .d 3, .s, .d 4, .d 23, .d 3, .s, .s, .s, .s, .s, .s, .s, .d 3, .s, .s, .s, .s, .s, .s, .s, .d 3, .d 3, .s, .d 4, .d 23, .d 23, .s, .s, .d 23, .d 3, .s, .s, .s, .s, .s, .s, .s, .d 3, .s, .s, .s, .s, .s, .s, .s, .d 3, .d 3, .s, .d 4, .n, .d 23, .d 23, .d 23, .d 23, .b true, .d 5, .d 5, .d 5, .d 5, .d 0, .s, .s, .s, .d 0, .s, .s, .s, .d 0, .d 0, .s, .d 1, .b false, .d 5, .d 0, .s, .s, .s, .d 0, .s, .s, .s, .d 0, .d 0, .s, .d 1, .d 5, .d 0, .s, .s, .s, .d 0, .s, .s, .s, .d 0, .d 0, .s, .d 1, .d 5, .d 0, .s, .s, .s, .d 0, .s, .s, .s, .d 0, .d 0, .s, .d 1, .d 5, .d 0, .s, .s, .s, .d 0, .s, .s, .s, .d 0, .d 0, .s, .d 1, .d 5, .d 0, .s, .s, .s, .d 0, .s, .s, .s, .d 0, .d 0, .s, .d 1, .d 5, .d 0, .s, .s, .s, .d 0, .s, .s, .s, .d 0, .d 0, .s, .d 1, .d 5, .d 0, .s, .s, .s, .d 0, .s, .s, .s, .d 0, .d 0, .s, .d 1, .d 26, .d 26, .t 26 true, .d 5, .d 5, .d 0, .s, .s, .s, .d 0, .s, .d 0, .s, .d 0, .s, .s, .s, .d 0, .s, .d 1, .d 1, .d 1, .d 5, .d 0, .s, .s, .s, .d 0, .s, .s, .s, .d 0, .d 0, .s, .d 1, .d 5, .d 5, .d 5, .d 0, .s, .s, .s, .d 0, .s, .d 0, .s, .d 0, .s, .s, .s, .d 0, .s, .d 1, .d 1, .d 1, .d 5, .d 0, .s, .s, .s, .d 0, .s, .s, .s, .d 0, .d 0, .s, .d 1, .d 5, .d 5, .d 0, .s, .s, .s, .d 0, .s, .s, .s, .d 0, .d 0, .s, .d 1, .b false, .d 5]
noncomputable def lhsW9 (pg : Program) (W : Params) (b t : Nat) (z : Zs) := resM m5 (enter W (go pg W b t true noCt 3108) orsW9 (.call (.ref 700) ⟨[.ref z.x.L], []⟩) kx (lexD W z.x (.str ⟨#[32]⟩ (z.n 0)) (.str ⟨#[]⟩ (z.n 1)) (z.i 0) (z.l 0) (z.s 0) (.int 17 (z.n 2))) 0 0 [])
noncomputable def rhsW9 (pg : Program) (W : Params) (b t : Nat) (z : Zs) : Option (Except Value PySem.Fin × Dy × Nat × Nat × List Ob) := some (.ok (.done (.ret (.str ⟨#[35]⟩ (t + 90)))), lexD W z.x .none (.str ⟨#[]⟩ (t + 203)) (z.i 0) (z.l 0) (z.s 0) (.int (z.s 0).length (t + 132)), 22, 209, toldC noCt [z.x.L, z.x.d, z.x.q, z.x.io, z.x.iod, (b + 0), (b + 1), (b + 2), (b + 3), (b + 4), (b + 5), (b + 6), (b + 7), (b + 8), (b + 9), (b + 10), (b + 11), (b + 12), (b + 13), (b + 14), (b + 15), (b + 16), (b + 17), (b + 18), (b + 19), (b + 20), (b + 21)] orsW9 (sdW9 (z.s 0)) [])
end Mine
lay_z Mine.lhsW9 Mine.rhsW9
namespace Mine
theorem chkW9 (pg : Program) (P : Params) (r : Bool) (b t : Nat) (z : Zs) : lhsW9 pg (wf P r) b t z = rhsW9 pg (wf P r) b t z := by
  rw [PySem.W.ZFast.ze16572262987556690845, PySem.W.ZFast.ze2074161065241102372]
  cases r <;> kernel_rfl
theorem conW9 {w : World} {N U : Nat} (hN : N ≤ 800) (b t : Nat) (z : Zs) (hsd : ∀ y ∈ ((sdW9 (z.s 0)) : List Ob), y.ok) : ConF none [] w w.params N U (.call (.ref 700) ⟨[.ref z.x.L], []⟩) (lexD w.params z.x (.str ⟨#[32]⟩ (z.n 0)) (.str ⟨#[]⟩ (z.n 1)) (z.i 0) (z.l 0) (z.s 0) (.int 17 (z.n 2))) (lexD w.params z.x .none (.str ⟨#[]⟩ (t + 203)) (z.i 0) (z.l 0) (z.s 0) (.int (z.s 0).length (t + 132))) b t (22) (209) (.ok (.ret (.str ⟨#[35]⟩ (t + 90)))) := by
  have h := chkW9 pw w.params (w.params.followText row1) b t z
  rw [wf_self] at h
  exact conF_of_run rfl (spOk w) noCt_ok (fun _ h => by cases h) (fun _ h => by cases h) hN h rfl (toldC_ok _ _ _ hsd (fun _ h => by cases h))
noncomputable def sdW10 (tx : Str) : List Ob := [.cmp 3 1 1099511627776 false, .cmp 1 1 (-1099511627776) false, .len tx, .cmp 4 21 tx.length false, .cmp 4 1 0 true, .cmp 1 22 tx.length true, .sl tx 21 22 ⟨#[39]⟩, .cmp 4 0 3 false, .cmp 3 1 1099511627776 false, .cmp 1 1 (-1099511627776) false, .len tx, .cmp 4 22 tx.length false, .cmp 4 1 0 true, .cmp 1 23 tx.length false, .sl tx 22 tx.length ⟨#[39]⟩, .cmp 4 0 3 false, .cmp 3 1 1099511627776 false, .cmp 1 1 (-1099511627776) false, .len tx, .cmp 4 tx.length tx.length true, .cmp 4 0 3 false, .tin [⟨#[97]⟩, ⟨#[99]⟩] ⟨#[97]⟩ true, .cmp 3 0 1 false]
noncomputable def orsW10 : List Rf := [.s, .d 5, .d 5, .d 5, .d 5, .d 5, .d 5, .d 5, .d 0, .s, .s, .s, .d 0, .s, .s, .s, .s, .s, .s, .s, .s, .s, .s, .s, .d 6, .d 6, .d 6, .d 0, .s, .s, .s, .d 0, .s, .s, .s, .d 0, .d 0, .s, .d 1, .d 5, .d 0, .s, .s, .s, .d 0, .s, .s, .s, .d 0, .d 0, .s, .d 1, .d 3, .s, .s, .s, .s, .s, .s, .s, .d 3, .s, .s, .s, .s, .s, .s, .s, .d 3, .s, .s, .s, .s, .d 3, .d 4, .s, .s, .s, .d 7, .d 7, .d 7, .d 7, .d 7, .s, .d 7, .s, .s, .d 8, .d 8, .d 8, .d 8, .s, .s, .d 8, .s, .s, .s, .s, .d 8, .d 8, .d 8, .d 8, .b false, .d 8, .b false, .d 8, .d 7, .d 7, .d 7, .d 3, .s, .s, .s, .s, .s, .s, .s, .d 3, .s, .s, .s, .s, .s, .s, .s, .d 3, .s, .s, .s, .s, .d 3, .d 4, .s, .s, .d 9, .d 9, .d 9, .d 3, .s, .s, .s, .s, .s, .s, .s, .d 3, .s, .s, .s, .s, .s, .s, .s, .d 3, .d 3, .s, .d 4, .d 7, .d 3, .s, .s, .s, .s, .s, .s, .s, .d 3, .s, .s, .s, .s, .s, .s, .s, .d 3, .d 3, .s, .d 4, .d 7, .d 7, .s, .s, .d 7, .d 3, .s, .s, .s, .s, .s, .s, .s, .d 3, .s, .s, .s, .s, .s, .s, .s, .d 3, .d 3, .s, .d 4, .n, .d 7, .d 7, .d 7, .d 7, .b false, .d 7, .b true, .d 7, .d 7, .d 7, .b true, .d 7, .d 7, .d 7, .d 7, .d 7, .d 7, .d 3, .s, .s, .s, .s, .s, .s, .s, .d 3, .s, .d 3, .s, .d 3, .s, .s, .s, .s, .s, .s, .s, .d 3, .s, .d 4, .d 4, .d 4, .d 7, .d 3, .s, .s, .s, .s, .s, .s, .s, .d 3, .s, .s, .s, .s, .s, .s, .s, .d 3, .d 3, .s, .d 4, .d 7, .d 7, .g 10 ⟨#[39]⟩, .d 5, .d 5, .d 5, .d 5, .d 0, .s, .s, .s, .d 0, .s, .s, .s, .d 0, .d 0, .s, .d 1, .b false, .d 5, .d 0, .s, .s, .s, .d 0, .s, .s, .s, .d 0, .d 0, .s, .d 1, .d 5, .d 0, .s, .s, .s, .d 0, .s, .s, .s, .d 0, .d 0, .s, .d 1, .d 5, .d 5, .d 5, .d 0, .s, .s, .s, .d 0, .s, .s, .s, .d 0, .d 0, .s, .d 1, .d 5, .d 5, .d 0, .s, .s, .s, .d 0, .s, .s, .s, .d 0, .d 0, .s, .d 1, .d 5, .d 0, .s, .s, .s, .d 0, .s, .s, .s, .d 0, .d 0, .s, .d 1, .d 5, .d 5, .d 0, .s, .s, .s, .d 0, .s, .s, .s, .d 0, .d 0, .s, .d 1, .d 5, .d 5, .d 0, .s, .s, .s, .d 0, .s, .s, .s, .d 0, .d 0, .s, .d 1, .d 5, .d 5, .d 0, .s, .s, .s, .d 0, .s, .s, .s, .s, .s, .s, .s, .s, .s, .s, .s, .d 11, .d 11, .d 11, .d 0, .s, .s, .s, .d 0, .s, .s, .s, .d 0, .d 0, .s, .d 1, .d 5, .d 5, .d 0, .s, .s, .s, .d 0, .s, .s, .s, .d 0, .d 0, .s, .d 1, .d 5, .d 0, .s, .s, .s, .d 0, .s, .s, .s, .d 0, .d 0, .s, .d 1, .d 5, .d 5, .d 0, .s, .s, .s, .d 0, .s, .d 0, .s, .d 0, .s, .s, .s, .d 0, .s, .d 1, .d 1, .d 1, .d 5, .d 0, .s, .s, .s, .d 0, .s, .s, .s, .s, .s, .s, .s, .s, .s, .s, .s, .d 12, .d 12, .d 12, .d 0, .s, .s, .s, .d 0, .s, .s, .s, .d 0, .d 0, .s, .d 1, .d 5, .d 0, .s, .s, .s, .d 0, .s, .s, .s, .d 0, .d 0, .s, .d 1, .d 3, .s, .s, .s, .s, .s, .s, .s, .d 3, .s, .s, .s, .s, .s, .s, .s, .d 3, .s, .s, .s, .s, .d 3, .d 4, .s, .s, .s, .d 13, .d 13, .d 13, .d 13, .d 13, .s, .d 13, .s, .s, .d 14, .d 14, .d 14, .d 14, .s, .s, .d 14, .s, .s, .s, .s, .d 14, .d 14, .d 14, .d 14, .b false, .d 14, .b false, .d 14, .d 13, .d 13, .d 13, .d 3, .s, .s, .s, .s, .s, .s, .s, .d 3, .s, .s, .s, .s, .s, .s, .s, .d 3, .s, .s, .s, .s, .d 3, .d 4, .s, .s, .d 15, .d 15, .d 15, .d 3, .s, .s, .s, .s, .s, .s, .s, .d 3, .s, .s, .s, .s, .s, .s, .s, .d 3, .d 3, .s, .d 4, .d 13, .d 3, .s, .s, .s, .s, .s, .s, .s, .d 3, .s, .s, .s, .s, .s, .s, .s, .d 3, .d 3, .s, .d 4, .d 13, .d 13, .s, .s, .d 13, .d 3, .s, .s, .s, .s, .s, .s, .s, .d 3, .s, .s, .s, .s, .s, .s, .s, .d 3, .d 3, .s, .d 4, .n, .d 13, .d 13, .d 13, .d 13, .b false, .d 13, .b true, .d 13, .d 13, .d 13, .b false, .d 13, .d 13, .d 3, .s, .s, .s, .s, .s, .s, .s, .d 3, .s, .d 3, .s, .d 3, .s, .s, .s, .s, .s, .s, .s, .d 3, .s, .d 4, .d 4, .d 4, .d 13, .d 3, .s, .s, .s, .s, .s, .s, .s, .d 3, .s, .s, .s, .s, .s, .s, .s, .d 3, .d 3, .s, .d 4, .d 13, .d 13, .g 16 ⟨#[39]⟩, .d 5, .d 5, .d 5, .d 5, .d 0, .s, .s, .s, .d 0, .s, .s, .s, .d 0, .d 0, .s, .d 1, .b false, .d 5, .d 0, .s, .s, .s, .d 0, .s, .s, .s, .d 0, .d 0, .s, .d 1, .d 5, .d 0, .s, .s, .s, .d 0, .s, .s, .s, .d 0, .d 0, .s, .d 1, .d 5, .d 0, .s, .s, .s, .d 0, .s, .s, .s, .d 0, .d 0, .s, .d 1, .d 5, .d 0, .s, .s, .s, .d 0, .s, .s, .s, .d 0, .d 0, .s, .d 1, .d 5, .d 5, .d 5, .d 5, .d 5, .d 0, .s, .s, .s, .d 0, .s, .s, .s, .d 0, .d 0, .s, .d 1, .d 5, .d 0, .s, .s, .s, .d 0, .s, .s, .s, .d 0, .d 0, .s, .d 1, .d 5, .d 0, .s, .s, .s, .d 0, .s, .d 0, .s, .d 0, .s, .s, .s, .d 0, .s, .d 1, .d 1, .d 1, .d 5, .d 0, .s, .s, .s, .d 0, .s, .s, .s, .s, .s, .s, .s, .s, .s, .s, .s, .d 17, .d 17, .d 17, .d 0, .s, .s, .s, .d 0, .s, .s, .s, .d 0, .d 0, .s, .d 1, .d 5, .d 0, .s, .s, .s, .d 0, .s, .s, .s, .d 0, .d 0, .s, .d 1, .d 3, .s, .s, .s, .s, .s, .s, .s, .d 3, .s, .s, .s, .s, .s, .s, .s, .d 3, .s, .s, .s, .s, .d 3, .d 4, .s, .s, .s, .d 18, .d 18, .d 18, .d 18, .d 18, .s, .d 18, .s, .s, .d 19, .d 19, .d 19, .d 19, .s, .s, .d 19, .s, .s, .s, .s, .d 19, .d 19, .d 19, .d 19, .b false, .d 19, .b false, .d 19, .d 18, .d 18, .d 18, .d 3, .s, .s, .s, .s, .s, .s, .s, .d 3, .s, .s, .s, .s, .s, .s, .s, .d 3, .s, .s, .s, .s, .d 3, .d 4, .s, .s, .d 20, .d 20, .d 20, .d 3, .s, .s, .s, .s, .s, .s, .s, .d 3, .s, .s, .s, .s, .s, .s, .s, .d 3, .d 3, .s, .d 4, .d 18, .d 3, .s, .s, .s, .s, .s, .s, .s, .d 3, .s, .s, .s, .s, .s, .s, .s, .d 3, .d 3, .s, .d 4, .d 18, .d 18, .s, .s, .d 18, .d 3, .s, .s, .s, .s, .s, .s, .s, .d 3, .s, .s, .s, .s, .s, .s, .s, .d 3, .d 3, .s, .d 4, .n, .d 18, .d 18, .d 18, .d 18, .b true, .d 5, .d 5, .d 5, .d 5, .d 0, .s, .s, .s, .d 0, .s, .s, .s, .d 0, .d 0, .s, .d 1, .b false, .d 5, .d 0, .s, .s, .s, .d 0, .s, .s, .s, .d 0, .d 0, .s, .d 1, .d 5, .d 0, .s, .s, .s, .d 0, .s, .s, .s, .d 0, .d 0, .s, .d 1, .d 5, .d 0, .s, .s, .s, .d 0, .s, .s, .s, .d 0, .d 0, .s, .d 1, .d 5, .d 0, .s, .s, .s, .d 0, .s, .s, .s, .d 0, .d 0, .s, .d 1, .d 5, .d 0, .s, .s, .s, .d 0, .s, .s, .s, .d 0, .d 0, .s, .d 1, .d 5, .d 0, .s, .s, .s, .d 0, .s, .s, .s, .d 0, .d 0, .s, .d 1, .d 5, .d 0, .s, .s, .s, .d 0, .s, .s, .s, .d 0, .d 0, .s, .d 1, .d 21, .d 21, .t 21 true, .d 5, .d 5, .d 0, .s, .s, .s, .d 0, .s, .d 0, .s, .d 0, .s, .s, .s, .d 0, .s, .d 1, .d 1, .d 1, .d 5, .d 0, .s, .s, .s, .d 0, .s, .s, .s, .d 0, .d 0, .s, .d 1, .d 5, .d 5, .d 5, .d 0, .s, .s, .s, .d 0, .s, .d 0, .s, .d 0, .s, .s, .s, .d 0, .s, .d 1, .d 1, .d 1, .d 5, .d 0, .s, .s, .s, .d 0, .s, .s, .s, .d 0, .d 0, .s, .d 1, .d 5, .d 5, .d 0, .s, .s, .s, .d 0, .s, .s, .s, .d 0, .d 0, .s, .d 1, .b false, .d 5]
noncomputable def lhsW10 (pg : Program) (W : Params) (b t : Nat) (z : Zs) := resM m5 (enter W (go pg W b t true noCt 2344) orsW10 (.call (.ref 700) ⟨[.ref z.x.L], []⟩) kx (lexD W z.x (.str ⟨#[32]⟩ (z.n 0)) (.str ⟨#[]⟩ (z.n 1)) (z.i 0) (z.l 0) (z.s 0) (.int 21 (z.n 2))) 0 0 [])
noncomputable def rhsW10 (pg : Program) (W : Params) (b t : Nat) (z : Zs) : Option (Except Value PySem.Fin × Dy × Nat × Nat × List Ob) := some (.ok (.done (.ret (.str ⟨#[]⟩ (z.n 1)))), lexD W z.x .none (.str ⟨#[]⟩ (t + 152)) (z.i 0) (z.l 0) (z.s 0) (.int (z.s 0).length (t + 81)), 17, 158, toldC noCt [z.x.L, z.x.d, z.x.q, z.x.io, z.x.iod, (b + 0), (b + 1), (b + 2), (b + 3), (b + 4), (b + 5), (b + 6), (b + 7), (b + 8), (b + 9), (b + 10), (b + 11), (b + 12), (b + 13), (b + 14), (b + 15), (b + 16)] orsW10 (sdW10 (z.s 0)) [])
end Mine
lay_z Mine.lhsW10 Mine.rhsW10
namespace Mine
theorem chkW10 (pg : Program) (P : Params) (r : Bool) (b t : Nat) (z : Zs) : lhsW10 pg (wf P r) b t z = rhsW10 pg (wf P r) b t z := by
  rw [PySem.W.ZFast.ze1735966841436185787, PySem.W.ZFast.ze13347504354705647]
  cases r <;> kernel_rfl
theorem conW10 {w : World} {N U : Nat} (hN : N ≤ 800) (b t : Nat) (z : Zs) (hsd : ∀ y ∈ ((sdW10 (z.s 0)) : List Ob), y.ok) : ConF none [] w w.params N U (.call (.ref 700) ⟨[.ref z.x.L], []⟩) (lexD w.params z.x (.str ⟨#[32]⟩ (z.n 0)) (.str ⟨#[]⟩ (z.n 1)) (z.i 0) (z.l 0) (z.s 0) (.int 21 (z.n 2))) (lexD w.params z.x .none (.str ⟨#[]⟩ (t + 152)) (z.i 0) (z.l 0) (z.s 0) (.int (z.s 0).length (t + 81))) b t (17) (158) (.ok (.ret (.str ⟨#[]⟩ (z.n 1)))) := by
  have h := chkW10 pw w.params (w.params.followText row1) b t z
  rw [wf_self] at h
  exact conF_of_run rfl (spOk w) noCt_ok (fun _ h => by cases h) (fun _ h => by cases h) hN h rfl (toldC_ok _ _ _ hsd (fun _ h => by cases h))
noncomputable def sdW11 (tx : Str) : List Ob := [.cmp 3 1 1099511627776 false, .cmp 1 1 (-1099511627776) false, .len tx, .cmp 4 24 tx.length false, .cmp 4 1 0 true, .cmp 1 25 tx.length true, .sl tx 24 25 ⟨#[39]⟩, .cmp 4 0 3 false, .cmp 3 1 1099511627776 false, .cmp 1 1 (-1099511627776) false, .len tx, .cmp 4 25 tx.length false, .cmp 4 1 0 true, .cmp 1 26 tx.length true, .sl tx 25 26 ⟨#[120]⟩, .cmp 4 0 3 false, .cmp 3 1 1099511627776 false, .cmp 1 1 (-1099511627776) false, .len tx, .cmp 4 26 tx.length false, .cmp 4 1 0 true, .cmp 1 27 tx.length true, .sl tx 26 27 ⟨#[34]⟩, .cmp 4 0 3 false, .cmp 3 1 1099511627776 false, .cmp 1 1 (-1099511627776) false, .len tx, .cmp 4 27 tx.length false, .cmp 4 1 0 true, .cmp 1 28 tx.length false, .sl tx 27 tx.length ⟨#[39]⟩, .cmp 4 0 3 false, .cmp 3 1 1099511627776 false, .cmp 1 1 (-1099511627776) false, .len tx, .cmp 4 tx.length tx.length true, .cmp 4 0 3 false, .tin [⟨#[97]⟩, ⟨#[99]⟩] ⟨#[97]⟩ true, .cmp 3 0 1 false]
noncomputable def orsW11 : List Rf := [.s, .d 5, .d 5, .d 5, .d 5, .d 5, .d 5, .d 5, .d 0, .s, .s, .s, .d 0, .s, .s, .s, .s, .s, .s, .s, .s, .s, .s, .s, .d 6, .d 6, .d 6, .d 0, .s, .s, .s, .d 0, .s, .s, .s, .d 0, .d 0, .s, .d 1, .d 5, .d 0, .s, .s, .s, .d 0, .s, .s, .s, .d 0, .d 0, .s, .d 1, .d 3, .s, .s, .s, .s, .s, .s, .s, .d 3, .s, .s, .s, .s, .s, .s, .s, .d 3, .s, .s, .s, .s, .d 3, .d 4, .s, .s, .s, .d 7, .d 7, .d 7, .d 7, .d 7, .s, .d 7, .s, .s, .d 8, .d 8, .d 8, .d 8, .s, .s, .d 8, .s, .s, .s, .s, .d 8, .d 8, .d 8, .d 8, .b false, .d 8, .b false, .d 8, .d 7, .d 7, .d 7, .d 3, .s, .s, .s, .s, .s, .s, .s, .d 3, .s, .s, .s, .s, .s, .s, .s, .d 3, .s, .s, .s, .s, .d 3, .d 4, .s, .s, .d 9, .d 9, .d 9, .d 3, .s, .s, .s, .s, .s, .s, .s, .d 3, .s, .s, .s, .s, .s, .s, .s, .d 3, .d 3, .s, .d 4, .d 7, .d 3, .s, .s, .s, .s, .s, .s, .s, .d 3, .s, .s, .s, .s, .s, .s, .s, .d 3, .d 3, .s, .d 4, .d 7, .d 7, .s, .s, .d 7, .d 3, .s, .s, .s, .s, .s, .s, .s, .d 3, .s, .s, .s, .s, .s, .s, .s, .d 3, .d 3, .s, .d 4, .n, .d 7, .d 7, .d 7, .d 7, .b false, .d 7, .b true, .d 7, .d 7, .d 7, .b true, .d 7, .d 7, .d 7, .d 7, .d 7, .d 7, .d 3, .s, .s, .s, .s, .s, .s, .s, .d 3, .s, .d 3, .s, .d 3, .s, .s, .s, .s, .s, .s, .s, .d 3, .s, .d 4, .d 4, .d 4, .d 7, .d 3, .s, .s, .s, .s, .s, .s, .s, .d 3, .s, .s, .s, .s, .s, .s, .s, .d 3, .d 3, .s, .d 4, .d 7, .d 7, .g 10 ⟨#[39]⟩, .d 5, .d 5, .d 5, .d 5, .d 0, .s, .s, .s, .d 0, .s, .s, .s, .d 0, .d 0, .s, .d 1, .b false, .d 5, .d 0, .s, .s, .s, .d 0, .s, .s, .s, .d 0, .d 0, .s, .d 1, .d 5, .d 0, .s, .s, .s, .d 0, .s, .s, .s, .d 0, .d 0, .s, .d 1, .d 5, .d 5, .d 5, .d 0, .s, .s, .s, .d 0, .s, .s, .s, .d 0, .d 0, .s, .d 1, .d 5, .d 5, .d 0, .s, .s, .s, .d 0, .s, .s, .s, .d 0, .d 0, .s, .d 1, .d 5, .d 0, .s, .s, .s, .d 0, .s, .s, .s, .d 0, .d 0, .s, .d 1, .d 5, .d 5, .d 0, .s, .s, .s, .d 0, .s, .s, .s, .d 0, .d 0, .s, .d 1, .d 5, .d 5, .d 0, .s, .s, .s, .d 0, .s, .s, .s, .d 0, .d 0, .s, .d 1, .d 5, .d 5, .d 0, .s, .s, .s, .d 0, .s, .s, .s, .s, .s, .s, .s, .s, .s, .s, .s, .d 11, .d 11, .d 11, .d 0, .s, .s, .s, .d 0, .s, .s, .s, .d 0, .d 0, .s, .d 1, .d 5, .d 5, .d 0, .s, .s, .s, .d 0, .s, .s, .s, .d 0, .d 0, .s, .d 1, .d 5, .d 0, .s, .s, .s, .d 0, .s, .s, .s, .d 0, .d 0, .s, .d 1, .d 5, .d 5, .d 0, .s, .s, .s, .d 0, .s, .d 0, .s, .d 0, .s, .s, .s, .d 0, .s, .d 1, .d 1, .d 1, .d 5, .d 0, .s, .s, .s, .d 0, .s, .s, .s, .s, .s, .s, .s, .s, .s, .s, .s, .d 12, .d 12, .d 12, .d 0, .s, .s, .s, .d 0, .s, .s, .s, .d 0, .d 0, .s, .d 1, .d 5, .d 0, .s, .s, .s, .d 0, .s, .s, .s, .d 0, .d 0, .s, .d 1, .d 3, .s, .s, .s, .s, .s, .s, .s, .d 3, .s, .s, .s, .s, .s, .s, .s, .d 3, .s, .s, .s, .s, .d 3, .d 4, .s, .s, .s, .d 13, .d 13, .d 13, .d 13, .d 13, .s, .d 13, .s, .s, .d 14, .d 14, .d 14, .d 14, .s, .s, .d 14, .s, .s, .s, .s, .d 14, .d 14, .d 14, .d 14, .b false, .d 14, .b false, .d 14, .d 13, .d 13, .d 13, .d 3, .s, .s, .s, .s, .s, .s, .s, .d 3, .s, .s, .s, .s, .s, .s, .s, .d 3, .s, .s, .s, .s, .d 3, .d 4, .s, .s, .d 15, .d 15, .d 15, .d 3, .s, .s, .s, .s, .s, .s, .s, .d 3, .s, .s, .s, .s, .s, .s, .s, .d 3, .d 3, .s, .d 4, .d 13, .d 3, .s, .s, .s, .s, .s, .s, .s, .d 3, .s, .s, .s, .s, .s, .s, .s, .d 3, .d 3, .s, .d 4, .d 13, .d 13, .s, .s, .d 13, .d 3, .s, .s, .s, .s, .s, .s, .s, .d 3, .s, .s, .s, .s, .s, .s, .s, .d 3, .d 3, .s, .d 4, .n, .d 13, .d 13, .d 13, .d 13, .b false, .d 13, .b true, .d 13, .d 13, .d 13, .b true, .d 13, .d 13, .d 13, .d 13, .d 13, .d 13, .d 3, .s, .s, .s, .s, .s, .s, .s, .d 3, .s, .d 3, .s, .d 3, .s, .s, .s, .s, .s, .s, .s, .d 3, .s, .d 4, .d 4, .d 4, .d 13, .d 3, .s, .s, .s, .s, .s, .s, .s, .d 3, .s, .s, .s, .s, .s, .s, .s, .d 3, .d 3, .s, .d 4, .d 13, .d 13, .g 16 ⟨#[120]⟩, .d 5, .d 5, .d 5, .d 5, .d 0, .s, .s, .s, .d 0, .s, .s, .s, .d 0, .d 0, .s, .d 1, .b false, .d 5, .d 0, .s, .s, .s, .d 0, .s, .s, .s, .d 0, .d 0, .s, .d 1, .d 5, .d 0, .s, .s, .s, .d 0, .s, .s, .s, .d 0, .d 0, .s, .d 1, .d 5, .d 0, .s, .s, .s, .d 0, .s, .s, .s, .d 0, .d 0, .s, .d 1, .d 5, .d 0, .s, .s, .s, .d 0, .s, .s, .s, .d 0, .d 0, .s, .d 1, .d 5, .d 5, .d 5, .d 5, .d 5, .d 0, .s, .s, .s, .d 0, .s, .s, .s, .d 0, .d 0, .s, .d 1, .d 5, .d 0, .s, .s, .s, .d 0, .s, .s, .s, .d 0, .d 0, .s, .d 1, .d 5, .d 5, .d 0, .s, .s, .s, .d 0, .s, .s, .s, .d 0, .d 0, .s, .d 1, .d 5, .d 0, .s, .s, .s, .d 0, .s, .s, .s, .d 0, .d 0, .s, .d 1, .d 5, .d 0, .s, .s, .s, .d 0, .s, .d 0, .s, .d 0, .s, .s, .s, .d 0, .s, .d 1, .d 1, .d 1, .d 5, .d 0, .s, .s, .s, .d 0, .s, .s, .s, .s, .s, .s, .s, .s, .s, .s, .s, .d 17, .d 17, .d 17, .d 0, .s, .s, .s, .d 0, .s, .s, .s, .d 0, .d 0, .s, .d 1, .d 5, .d 0, .s, .s, .s, .d 0, .s, .s, .s, .d 0, .d 0, .s, .d 1, .d 3, .s, .s, .s, .s, .s, .s, .s, .d 3, .s, .s, .s, .s, .s, .s, .s, .d 3, .s, .s, .s, .s, .d 3, .d 4, .s, .s, .s, .d 18, .d 18, .d 18, .d 18, .d 18, .s, .d 18, .s, .s, .d 19, .d 19, .d 19, .d 19, .s, .s, .d 19, .s, .s, .s, .s, .d 19, .d 19, .d 19, .d 19, .b false, .d 19, .b false, .d 19, .d 18, .d 18, .d 18, .d 3, .s, .s, .s, .s, .s, .s, .s, .d 3, .s, .s, .s, .s, .s, .s, .s, .d 3, .s, .s, .s, .s, .d 3, .d 4, .s, .s, .d 20, .d 20, .d 20, .d 3, .s, .s, .s, .s, .s, .s, .s, .d 3, .s, .s, .s, .s, .s, .s, .s, .d 3, .d 3, .s, .d 4, .d 18, .d 3, .s, .s, .s, .s, .s, .s, .s, .d 3, .s, .s, .s, .s, .s, .s, .s, .d 3, .d 3, .s, .d 4, .d 18, .d 18, .s, .s, .d 18, .d 3, .s, .s, .s, .s, .s, .s, .s, .d 3, .s, .s, .s, .s, .s, .s, .s, .d 3, .d 3, .s, .d 4, .n, .d 18, .d 18, .d 18, .d 18, .b false, .d 18, .b true, .d 18, .d 18, .d 18, .b true, .d 18, .d 18, .d 18, .d 18, .d 18, .d 18, .d 3, .s, .s, .s, .s, .s, .s, .s, .d 3, .s, .d 3, .s, .d 3, .s, .s, .s, .s, .s, .s, .s, .d 3, .s, .d 4, .d 4, .d 4, .d 18, .d 3, .s, .s, .s, .s, .s, .s, .s, .d 3, .s, .s, .s, .s, .s, .s, .s, .d 3, .d 3, .s, .d 4, .d 18, .d 18, .g 21 ⟨#[34]⟩, .d 5, .d 5, .d 5, .d 5, .d 0, .s, .s, .s, .d 0, .s, .s, .s, .d 0, .d 0, .s, .d 1, .b false, .d 5, .d 0, .s, .s, .s, .d 0, .s, .s, .s, .d 0, .d 0, .s, .d 1, .d 5, .d 0, .s, .s, .s, .d 0, .s, .s, .s, .d 0, .d 0, .s, .d 1, .d 5, .d 0, .s, .s, .s, .d 0, .s, .s, .s, .d 0, .d 0, .s, .d 1, .d 5, .d 0, .s, .s, .s, .d 0, .s, .s, .s, .d 0, .d 0, .s, .d 1, .d 5, .d 5, .d 5, .d 5, .d 5, .d 0, .s, .s, .s, .d 0, .s, .s, .s, .d 0, .d 0, .s, .d 1, .d 5, .d 0, .s, .s, .s, .d 0, .s, .s, .s, .d 0, .d 0, .s, .d 1, .d 5, .d 5, .d 0, .s, .s, .s, .d 0, .s, .s, .s, .d 0, .d 0, .s, .d 1, .d 5, .d 0, .s, .s, .s, .d 0, .s, .s, .s, .d 0, .d 0, .s, .d 1, .d 5, .d 0, .s, .s, .s, .d 0, .s, .d 0, .s, .d 0, .s, .s, .s, .d 0, .s, .d 1, .d 1, .d 1, .d 5, .d 0, .s, .s, .s, .d 0, .s, .s, .s, .s, .s, .s, .s, .s, .s, .s, .s, .d 22, .d 22, .d 22, .d 0, .s, .s, .s, .d 0, .s, .s, .s, .d 0, .d 0, .s, .d 1, .d 5, .d 0, .s, .s, .s, .d 0, .s, .s, .s, .d 0, .d 0, .s, .d 1, .d 3, .s, .s, .s, .s, .s, .s, .s, .d 3, .s, .s, .s, .s, .s, .s, .s, .d 3, .s, .s, .s, .s, .d 3, .d 4, .s, .s, .s, .d 23, .d 23, .d 23, .d 23, .d 23, .s, .d 23, .s, .s, .d 24, .d 24, .d 24, .d 24, .s, .s, .d 24, .s, .s, .s, .s, .d 24, .d 24, .d 24, .d 24, .b false, .d 24, .b false, .d 24, .d 23, .d 23, .d 23, .d 3, .s, .s, .s, .s, .s, .s, .s, .d 3, .s, .s, .s, .s, .s, .s, .s, .d 3, .s, .s, .s, .s, .d 3, .d 4, .s, .s, .d 25, .d 25, .d 25, .d 3, .s, .s, .s, .s, .s, .s, .s, .d 3, .s, .s, .s, .s, .s, .s, .s, .d 3, .d 3, .s, .d 4, .d 23, .d 3, .s, .s, .s, .s, .s, .s, .s, .d 3, .s, .s, .s, .s, .s, .s, .s, .d 3, .d 3, .s, .d 4, .d 23, .d 23, .s, .s, .d 23, .d 3, .s, .s, .s, .s, .s, .s, .s, .d 3, .s, .s, .s, .s, .s, .s, .s, .d 3, .d 3, .s, .d 4, .n, .d 23, .d 23, .d 23, .d 23, .b false, .d 23, .b true, .d 23, .d 23, .d 23, .b false, .d 23, .d 23, .d 3, .s, .s, .s, .s, .s, .s, .s, .d 3, .s, .d 3, .s, .d 3, .s, .s, .s, .s, .s, .s, .s, .d 3, .s, .d 4, .d 4, .d 4, .d 23, .d 3, .s, .s, .s, .s, .s, .s, .s, .d 3, .s, .s, .s, .s, .s, .s, .s, .d 3, .d 3, .s, .d 4, .d 23, .d 23, .g 26 ⟨#[39]⟩, .d 5, .d 5, .d 5, .d 5, .d 0, .s, .s, .s, .d 0, .s, .s, .s, .d 0, .d 0, .s, .d 1, .b false, .d 5, .d 0, .s, .s, .s, .d 0, .s, .s, .s, .d 0, .d 0, .s, .d 1, .d 5, .d 0, .s, .s, .s, .d 0, .s, .s, .s, .d 0, .d 0, .s, .d 1, .d 5, .d 0, .s, .s, .s, .d 0, .s, .s, .s, .d 0, .d 0, .s, .d 1, .d 5, .d 0, .s, .s, .s, .d 0, .s, .s, .s, .d 0, .d 0, .s, .d 1, .d 5, .d 5, .d 5, .d 5, .d 5, .d 0, .s, .s, .s, .d 0, .s, .s, .s, .d 0, .d 0, .s, .d 1, .d 5, .d 0, .s, .s, .s, .d 0, .s, .s, .s, .d 0, .d 0, .s, .d 1, .d 5, .d 0, .s, .s, .s, .d 0, .s, .d 0, .s, .d 0, .s, .s, .s, .d 0, .s, .d 1, .d 1, .d 1, .d 5, .d 0, .s, .s, .s, .d 0, .s, .s, .s, .s, .s, .s, .s, .s, .s, .s, .s, .d 27, .d 27, .d 27, .d 0, .s, .s, .s, .d 0, .s, .s, .s, .d 0, .d 0, .s, .d 1, .d 5, .d 0, .s, .s, .s, .d 0, .s, .s, .s, .d 0, .d 0, .s, .d 1, .d 3, .s, .s, .s, .s, .s, .s, .s, .d 3, .s, .s, .s, .s, .s, .s, .s, .d 3, .s, .s, .s, .s, .d 3, .d 4, .s, .s, .s, .d 28, .d 28, .d 28, .d 28, .d 28, .s, .d 28, .s, .s, .d 29, .d 29, .d 29, .d 29, .s, .s, .d 29, .s, .s, .s, .s, .d 29, .d 29, .d 29, .d 29, .b false, .d 29, .b false, .d 29, .d 28, .d 28, .d 28, .d 3, .s, .s, .s, .s, .s, .s, .s, .d 3, .s, .s, .s, .s, .s, .s, .s, .d 3, .s, .s, .s, .s, .d 3, .d 4, .s, .s, .d 30, .d 30, .d 30, .d 3, .s, .s, .s, .s, .s, .s, .s, .d 3, .s, .s, .s, .s, .s, .s, .s, .d 3, .d 3, .s, .d 4, .d 28, .d 3, .s, .s, .s, .s, .s, .s, .s, .d 3, .s, .s, .s, .s, .s, .s, .s, .d 3, .d 3, .s, .d 4, .d 28, .d 28, .s, .s, .d 28, .d 3, .s, .s, .s, .s, .s, .s, .s, .d 3, .s, .s, .s, .s, .s, .s, .s, .d 3, .d 3, .s, .d 4, .n, .d 28, .d 28, .d 28, .d 28, .b true, .d 5, .d 5, .d 5, .d 5, .d 0, .s, .s, .s, .d 0, .s, .s, .s, .d 0, .d 0, .s, .d 1, .b false, .d 5, .d 0, .s, .s, .s, .d 0, .s, .s, .s, .d 0, .d 0, .s, .d 1, .d 5, .d 0, .s, .s, .s, .d 0, .s, .s, .s, .d 0, .d 0, .s, .d 1, .d 5, .d 0, .s, .s, .s, .d 0, .s, .s, .s, .d 0, .d 0, .s, .d 1, .d 5, .d 0, .s, .s, .s, .d 0, .s, .s, .s, .d 0, .d 0, .s, .d 1, .d 5, .d 0, .s, .s, .s, .d 0, .s, .s, .s, .d 0, .d 0, .s, .d 1, .d 5, .d 0, .s, .s, .s, .d 0, .s, .s, .s, .d 0, .d 0, .s, .d 1, .d 5, .d 0, .s, .s, .s, .d 0, .s, .s, .s, .d 0, .d 0, .s, .d 1, .d 31, .d 31, .t 31 true, .d 5, .d 5, .d 0, .s, .s, .s, .d 0, .s, .d 0, .s, .d 0, .s, .s, .s, .d 0, .s, .d 1, .d 1, .d 1, .d 5, .d 0, .s, .s, .s, .d 0, .s, .s, .s, .d 0, .d 0, .s, .d 1, .d 5, .d 5, .d 5, .d 0, .s, .s, .s, .d 0, .s, .d 0, .s, .d 0, .s, .s, .s, .d 0, .s, .d 1, .d 1, .d 1, .d 5, .d 0, .s, .s, .s, .d 0, .s, .s, .s, .d 0, .d 0, .s, .d 1, .d 5, .d 5, .d 0, .s, .s, .s, .d 0, .s, .s, .s, .d 0, .d 0, .s, .d 1, .b false, .d 5]
noncomputable def lhsW11 (pg : Program) (W : Params) (b t : Nat) (z : Zs) := resM m5 (enter W (go pg W b t true noCt 3872) orsW11 (.call (.ref 700) ⟨[.ref z.x.L], []⟩) kx (lexD W z.x (.str ⟨#[32]⟩ (z.n 0)) (.str ⟨#[]⟩ (z.n 1)) (z.i 0) (z.l 0) (z.s 0) (.int 24 (z.n 2))) 0 0 [])
noncomputable def rhsW11 (pg : Program) (W : Params) (b t : Nat) (z : Zs) : Option (Except Value PySem.Fin × Dy × Nat × Nat × List Ob) := some (.ok (.done (.ret (.str ⟨#[120, 34]⟩ (t + 158)))), lexD W z.x .none (.str ⟨#[]⟩ (t + 255)) (z.i 0) (z.l 0) (z.s 0) (.int (z.s 0).length (t + 184)), 27, 261, toldC noCt [z.x.L, z.x.d, z.x.q, z.x.io, z.x.iod, (b + 0), (b + 1), (b + 2), (b + 3), (b + 4), (b + 5), (b + 6), (b + 7), (b + 8), (b + 9), (b + 10), (b + 11), (b + 12), (b + 13), (b + 14), (b + 15), (b + 16), (b + 17), (b + 18), (b + 19), (b + 20), (b + 21), (b + 22), (b + 23), (b + 24), (b + 25), (b + 26)] orsW11 (sdW11 (z.s 0)) [])
end Mine
lay_z Mine.lhsW11 Mine.rhsW11
namespace Mine
theorem chkW11 (pg : Program) (P : Params) (r : Bool) (b t : Nat) (z : Zs) : lhsW11 pg (wf P r) b t z = rhsW11 pg (wf P r) b t z := by
  rw [PySem.W.ZFast.ze12801154151868076404, PySem.W.ZFast.ze6730496981180079763]
  cases r <;> kernel_rfl
theorem conW11 {w : World} {N U : Nat} (hN : N ≤ 800) (b t : Nat) (z : Zs) (hsd : ∀ y ∈ ((sdW11 (z.s 0)) : List Ob), y.ok) : ConF none [] w w.params N U (.call (.ref 700) ⟨[.ref z.x.L], []⟩) (lexD w.params z.x (.str ⟨#[32]⟩ (z.n 0)) (.str ⟨#[]⟩ (z.n 1)) (z.i 0) (z.l 0) (z.s 0) (.int 24 (z.n 2))) (lexD w.params z.x .none (.str ⟨#[]⟩ (t + 255)) (z.i 0) (z.l 0) (z.s 0) (.int (z.s 0).length (t + 184))) b t (27) (261) (.ok (.ret (.str ⟨#[120, 34]⟩ (t + 158)))) := by
  have h := chkW11 pw w.params (w.params.followText row1) b t z
  rw [wf_self] at h
  exact conF_of_run rfl (spOk w) noCt_ok (fun _ h => by cases h) (fun _ h => by cases h) hN h rfl (toldC_ok _ _ _ hsd (fun _ h => by cases h))
noncomputable def sdW12 (tx : Str) : List Ob := [.cmp 3 1 1099511627776 false, .cmp 1 1 (-1099511627776) false, .len tx, .cmp 4 29 tx.length false, .cmp 4 1 0 true, .cmp 1 30 tx.length true, .sl tx 29 30 ⟨#[39]⟩, .cmp 4 0 3 false, .cmp 3 1 1099511627776 false, .cmp 1 1 (-1099511627776) false, .len tx, .cmp 4 30 tx.length false, .cmp 4 1 0 true, .cmp 1 31 tx.length true, .sl tx 30 31 ⟨#[92]⟩, .cmp 4 0 3 false, .cmp 3 1 1099511627776 false, .cmp 1 1 (-1099511627776) false, .len tx, .cmp 4 31 tx.length false, .cmp 4 1 0 true, .cmp 1 32 tx.length false, .sl tx 31 tx.length ⟨#[39]⟩, .cmp 4 0 3 false, .cmp 3 1 1099511627776 false, .cmp 1 1 (-1099511627776) false, .len tx, .cmp 4 tx.length tx.length true, .cmp 4 0 3 false, .tin [⟨#[97]⟩, ⟨#[99]⟩] ⟨#[97]⟩ true, .cmp 3 0 1 false]
noncomputable def orsW12 : List Rf := [.s, .d 5, .d 5, .d 5, .d 5, .d 5, .d 5, .d 5, .d 0, .s, .s, .s, .d 0, .s, .s, .s, .s, .s, .s, .s, .s, .s, .s, .s, .d 6, .d 6, .d 6, .d 0, .s, .s, .s, .d 0, .s, .s, .s, .d 0, .d 0, .s, .d 1, .d 5, .d 0, .s, .s, .s, .d 0, .s, .s, .s, .d 0, .d 0, .s, .d 1, .d 3, .s, .s, .s, .s, .s, .s, .s, .d 3, .s, .s, .s, .s, .s, .s, .s, .d 3, .s, .s, .s, .s, .d 3, .d 4, .s, .s, .s, .d 7, .d 7, .d 7, .d 7, .d 7, .s, .d 7, .s, .s, .d 8, .d 8, .d 8, .d 8, .s, .s, .d 8, .s, .s, .s, .s, .d 8, .d 8, .d 8, .d 8, .b false, .d 8, .b false, .d 8, .d 7, .d 7, .d 7, .d 3, .s, .s, .s, .s, .s, .s, .s, .d 3, .s, .s, .s, .s, .s, .s, .s, .d 3, .s, .s, .s, .s, .d 3, .d 4, .s, .s, .d 9, .d 9, .d 9, .d 3, .s, .s, .s, .s, .s, .s, .s, .d 3, .s, .s, .s, .s, .s, .s, .s, .d 3, .d 3, .s, .d 4, .d 7, .d 3, .s, .s, .s, .s, .s, .s, .s, .d 3, .s, .s, .s, .s, .s, .s, .s, .d 3, .d 3, .s, .d 4, .d 7, .d 7, .s, .s, .d 7, .d 3, .s, .s, .s, .s, .s, .s, .s, .d 3, .s, .s, .s, .s, .s, .s, .s, .d 3, .d 3, .s, .d 4, .n, .d 7, .d 7, .d 7, .d 7, .b false, .d 7, .b true, .d 7, .d 7, .d 7, .b true, .d 7, .d 7, .d 7, .d 7, .d 7, .d 7, .d 3, .s, .s, .s, .s, .s, .s, .s, .d 3, .s, .d 3, .s, .d 3, .s, .s, .s, .s, .s, .s, .s, .d 3, .s, .d 4, .d 4, .d 4, .d 7, .d 3, .s, .s, .s, .s, .s, .s, .s, .d 3, .s, .s, .s, .s, .s, .s, .s, .d 3, .d 3, .s, .d 4, .d 7, .d 7, .g 10 ⟨#[39]⟩, .d 5, .d 5, .d 5, .d 5, .d 0, .s, .s, .s, .d 0, .s, .s, .s, .d 0, .d 0, .s, .d 1, .b false, .d 5, .d 0, .s, .s, .s, .d 0, .s, .s, .s, .d 0, .d 0, .s, .d 1, .d 5, .d 0, .s, .s, .s, .d 0, .s, .s, .s, .d 0, .d 0, .s, .d 1, .d 5, .d 5, .d 5, .d 0, .s, .s, .s, .d 0, .s, .s, .s, .d 0, .d 0, .s, .d 1, .d 5, .d 5, .d 0, .s, .s, .s, .d 0, .s, .s, .s, .d 0, .d 0, .s, .d 1, .d 5, .d 0, .s, .s, .s, .d 0, .s, .s, .s, .d 0, .d 0, .s, .d 1, .d 5, .d 5, .d 0, .s, .s, .s, .d 0, .s, .s, .s, .d 0, .d 0, .s, .d 1, .d 5, .d 5, .d 0, .s, .s, .s, .d 0, .s, .s, .s, .d 0, .d 0, .s, .d 1, .d 5, .d 5, .d 0, .s, .s, .s, .d 0, .s, .s, .s, .s, .s, .s, .s, .s, .s, .s, .s, .d 11, .d 11, .d 11, .d 0, .s, .s, .s, .d 0, .s, .s, .s, .d 0, .d 0, .s, .d 1, .d 5, .d 5, .d 0, .s, .s, .s, .d 0, .s, .s, .s, .d 0, .d 0, .s, .d 1, .d 5, .d 0, .s, .s, .s, .d 0, .s, .s, .s, .d 0, .d 0, .s, .d 1, .d 5, .d 5, .d 0, .s, .s, .s, .d 0, .s, .d 0, .s, .d 0, .s, .s, .s, .d 0, .s, .d 1, .d 1, .d 1, .d 5, .d 0, .s, .s, .s, .d 0, .s, .s, .s, .s, .s, .s, .s, .s, .s, .s, .s, .d 12, .d 12, .d 12, .d 0, .s, .s, .s, .d 0, .s, .s, .s, .d 0, .d 0, .s, .d 1, .d 5, .d 0, .s, .s, .s, .d 0, .s, .s, .s, .d 0, .d 0, .s, .d 1, .d 3, .s, .s, .s, .s, .s, .s, .s, .d 3, .s, .s, .s, .s, .s, .s, .s, .d 3, .s, .s, .s, .s, .d 3, .d 4, .s, .s, .s, .d 13, .d 13, .d 13, .d 13, .d 13, .s, .d 13, .s, .s, .d 14, .d 14, .d 14, .d 14, .s, .s, .d 14, .s, .s, .s, .s, .d 14, .d 14, .d 14, .d 14, .b false, .d 14, .b false, .d 14, .d 13, .d 13, .d 13, .d 3, .s, .s, .s, .s, .s, .s, .s, .d 3, .s, .s, .s, .s, .s, .s, .s, .d 3, .s, .s, .s, .s, .d 3, .d 4, .s, .s, .d 15, .d 15, .d 15, .d 3, .s, .s, .s, .s, .s, .s, .s, .d 3, .s, .s, .s, .s, .s, .s, .s, .d 3, .d 3, .s, .d 4, .d 13, .d 3, .s, .s, .s, .s, .s, .s, .s, .d 3, .s, .s, .s, .s, .s, .s, .s, .d 3, .d 3, .s, .d 4, .d 13, .d 13, .s, .s, .d 13, .d 3, .s, .s, .s, .s, .s, .s, .s, .d 3, .s, .s, .s, .s, .s, .s, .s, .d 3, .d 3, .s, .d 4, .n, .d 13, .d 13, .d 13, .d 13, .b false, .d 13, .b true, .d 13, .d 13, .d 13, .b true, .d 13, .d 13, .d 13, .d 13, .d 13, .d 13, .d 3, .s, .s, .s, .s, .s, .s, .s, .d 3, .s, .d 3, .s, .d 3, .s, .s, .s, .s, .s, .s, .s, .d 3, .s, .d 4, .d 4, .d 4, .d 13, .d 3, .s, .s, .s, .s, .s, .s, .s, .d 3, .s, .s, .s, .s, .s, .s, .s, .d 3, .d 3, .s, .d 4, .d 13, .d 13, .g 16 ⟨#[92]⟩, .d 5, .d 5, .d 5, .d 5, .d 0, .s, .s, .s, .d 0, .s, .s, .s, .d 0, .d 0, .s, .d 1, .b false, .d 5, .d 0, .s, .s, .s, .d 0, .s, .s, .s, .d 0, .d 0, .s, .d 1, .d 5, .d 0, .s, .s, .s, .d 0, .s, .s, .s, .d 0, .d 0, .s, .d 1, .d 5, .d 0, .s, .s, .s, .d 0, .s, .s, .s, .d 0, .d 0, .s, .d 1, .d 5, .d 0, .s, .s, .s, .d 0, .s, .s, .s, .d 0, .d 0, .s, .d 1, .d 5, .d 5, .d 5, .d 5, .d 5, .d 0, .s, .s, .s, .d 0, .s, .s, .s, .d 0, .d 0, .s, .d 1, .d 5, .d 0, .s, .s, .s, .d 0, .s, .s, .s, .d 0, .d 0, .s, .d 1, .d 5, .d 5, .d 0, .s, .s, .s, .d 0, .s, .s, .s, .d 0, .d 0, .s, .d 1, .d 5, .d 0, .s, .s, .s, .d 0, .s, .s, .s, .d 0, .d 0, .s, .d 1, .d 5, .d 0, .s, .s, .s, .d 0, .s, .s, .s, .d 0, .d 0, .s, .d 1, .d 5, .d 0, .s, .s, .s, .d 0, .s, .s, .s, .d 0, .d 0, .s, .d 1, .d 5, .d 0, .s, .s, .s, .d 0, .s, .d 0, .s, .d 0, .s, .s, .s, .d 0, .s, .d 1, .d 1, .d 1, .d 5, .d 0, .s, .s, .s, .d 0, .s, .s, .s, .s, .s, .s, .s, .s, .s, .s, .s, .d 17, .d 17, .d 17, .d 0, .s, .s, .s, .d 0, .s, .s, .s, .d 0, .d 0, .s, .d 1, .d 5, .d 0, .s, .s, .s, .d 0, .s, .s, .s, .d 0, .d 0, .s, .d 1, .d 3, .s, .s, .s, .s, .s, .s, .s, .d 3, .s, .s, .s, .s, .s, .s, .s, .d 3, .s, .s, .s, .s, .d 3, .d 4, .s, .s, .s, .d 18, .d 18, .d 18, .d 18, .d 18, .s, .d 18, .s, .s, .d 19, .d 19, .d 19, .d 19, .s, .s, .d 19, .s, .s, .s, .s, .d 19, .d 19, .d 19, .d 19, .b false, .d 19, .b false, .d 19, .d 18, .d 18, .d 18, .d 3, .s, .s, .s, .s, .s, .s, .s, .d 3, .s, .s, .s, .s, .s, .s, .s, .d 3, .s, .s, .s, .s, .d 3, .d 4, .s, .s, .d 20, .d 20, .d 20, .d 3, .s, .s, .s, .s, .s, .s, .s, .d 3, .s, .s, .s, .s, .s, .s, .s, .d 3, .d 3, .s, .d 4, .d 18, .d 3, .s, .s, .s, .s, .s, .s, .s, .d 3, .s, .s, .s, .s, .s, .s, .s, .d 3, .d 3, .s, .d 4, .d 18, .d 18, .s, .s, .d 18, .d 3, .s, .s, .s, .s, .s, .s, .s, .d 3, .s, .s, .s, .s, .s, .s, .s, .d 3, .d 3, .s, .d 4, .n, .d 18, .d 18, .d 18, .d 18, .b false, .d 18, .b true, .d 18, .d 18, .d 18, .b false, .d 18, .d 18, .d 3, .s, .s, .s, .s, .s, .s, .s, .d 3, .s, .d 3, .s, .d 3, .s, .s, .s, .s, .s, .s, .s, .d 3, .s, .d 4, .d 4, .d 4, .d 18, .d 3, .s, .s, .s, .s, .s, .s, .s, .d 3, .s, .s, .s, .s, .s, .s, .s, .d 3, .d 3, .s, .d 4, .d 18, .d 18, .g 21 ⟨#[39]⟩, .d 5, .d 5, .d 5, .d 5, .d 0, .s, .s, .s, .d 0, .s, .s, .s, .d 0, .d 0, .s, .d 1, .b false, .d 5, .d 0, .s, .s, .s, .d 0, .s, .s, .s, .d 0, .d 0, .s, .d 1, .d 5, .d 0, .s, .s, .s, .d 0, .s, .s, .s, .d 0, .d 0, .s, .d 1, .d 5, .d 0, .s, .s, .s, .d 0, .s, .s, .s, .d 0, .d 0, .s, .d 1, .d 5, .d 0, .s, .s, .s, .d 0, .s, .s, .s, .d 0, .d 0, .s, .d 1, .d 5, .d 5, .d 5, .d 5, .d 5, .d 0, .s, .s, .s, .d 0, .s, .s, .s, .d 0, .d 0, .s, .d 1, .d 5, .d 0, .s, .s, .s, .d 0, .s, .s, .s, .d 0, .d 0, .s, .d 1, .d 5, .d 0, .s, .s, .s, .d 0, .s, .d 0, .s, .d 0, .s, .s, .s, .d 0, .s, .d 1, .d 1, .d 1, .d 5, .d 0, .s, .s, .s, .d 0, .s, .s, .s, .s, .s, .s, .s, .s, .s, .s, .s, .d 22, .d 22, .d 22, .d 0, .s, .s, .s, .d 0, .s, .s, .s, .d 0, .d 0, .s, .d 1, .d 5, .d 0, .s, .s, .s, .d 0, .s, .s, .s, .d 0, .d 0, .s, .d 1, .d 3, .s, .s, .s, .s, .s, .s, .s, .d 3, .s, .s, .s, .s, .s, .s, .s, .d 3, .s, .s, .s, .s, .d 3, .d 4, .s, .s, .s, .d 23, .d 23, .d 23, .d 23, .d 23, .s, .d 23, .s, .s, .d 24, .d 24, .d 24, .d 24, .s, .s, .d 24, .s, .s, .s, .s, .d 24, .d 24, .d 24, .d 24, .b false, .d 24, .b false, .d 24, .d 23, .d 23, .d 23, .d 3, .s, .s, .s, .s, .s, .s, .s, .d 3, .s, .s, .s, .s, .s, .s, .s, .d 3, .s, .s, .s, .s, .d 3, .d 4, .s, .s, .d 25, .d 25, .d 25, .d 3, .s, .s, .s, .s, .s, .s, .s, .d 3, .s, .s, .s, .s, .s, .s, .s, .d 3, .d 3, .s, .d 4, .d 23, .d 3, .s, .s, .s, .s, .s, .s, .s, .d 3, .s, .s, .s, .s, .s, .s, .s, .d 3, .d 3, .s, .d 4, .d 23, .d 23, .s, .s, .d 23, .d 3, .s, .s, .s, .s, .s, .s, .s, .d 3, .s, .s, .s, .s, .s, .s, .s, .d 3, .d 3, .s, .d 4, .n, .d 23, .d 23, .d 23, .d 23, .b true, .d 5, .d 5, .d 5, .d 5, .d 0, .s, .s, .s, .d 0, .s, .s, .s, .d 0, .d 0, .s, .d 1, .b false, .d 5, .d 0, .s, .s, .s, .d 0, .s, .s, .s, .d 0, .d 0, .s, .d 1, .d 5, .d 0, .s, .s, .s, .d 0, .s, .s, .s, .d 0, .d 0, .s, .d 1, .d 5, .d 0, .s, .s, .s, .d 0, .s, .s, .s, .d 0, .d 0, .s, .d 1, .d 5, .d 0, .s, .s, .s, .d 0, .s, .s, .s, .d 0, .d 0, .s, .d 1, .d 5, .d 0, .s, .s, .s, .d 0, .s, .s, .s, .d 0, .d 0, .s, .d 1, .d 5, .d 0, .s, .s, .s, .d 0, .s, .s, .s, .d 0, .d 0, .s, .d 1, .d 5, .d 0, .s, .s, .s, .d 0, .s, .s, .s, .d 0, .d 0, .s, .d 1, .d 26, .d 26, .t 26 true, .d 5, .d 5, .d 0, .s, .s, .s, .d 0, .s, .d 0, .s, .d 0, .s, .s, .s, .d 0, .s, .d 1, .d 1, .d 1, .d 5, .d 0, .s, .s, .s, .d 0, .s, .s, .s, .d 0, .d 0, .s, .d 1, .d 5, .d 5, .d 5, .d 0, .s, .s, .s, .d 0, .s, .d 0, .s, .d 0, .s, .s, .s, .d 0, .s, .d 1, .d 1, .d 1, .d 5, .d 0, .s, .s, .s, .d 0, .s, .s, .s, .d 0, .d 0, .s, .d 1, .d 5, .d 5, .d 0, .s, .s, .s, .d 0, .s, .s, .s, .d 0, .d 0, .s, .d 1, .b false, .d 5]
noncomputable def lhsW12 (pg : Program) (W : Params) (b t : Nat) (z : Zs) := resM m5 (enter W (go pg W b t true noCt 3150) orsW12 (.call (.ref 700) ⟨[.ref z.x.L], []⟩) kx (lexD W z.x (.str ⟨#[32]⟩ (z.n 0)) (.str ⟨#[]⟩ (z.n 1)) (z.i 0) (z.l 0) (z.s 0) (.int 29 (z.n 2))) 0 0 [])
noncomputable def rhsW12 (pg : Program) (W : Params) (b t : Nat) (z : Zs) : Option (Except Value PySem.Fin × Dy × Nat × Nat × List Ob) := some (.ok (.done (.ret (.str ⟨#[92]⟩ (t + 90)))), lexD W z.x .none (.str ⟨#[]⟩ (t + 205)) (z.i 0) (z.l 0) (z.s 0) (.int (z.s 0).length (t + 134)), 22, 211, toldC noCt [z.x.L, z.x.d, z.x.q, z.x.io, z.x.iod, (b + 0), (b + 1), (b + 2), (b + 3), (b + 4), (b + 5), (b + 6), (b + 7), (b + 8), (b + 9), (b + 10), (b + 11), (b + 12), (b + 13), (b + 14), (b + 15), (b + 16), (b + 17), (b + 18), (b + 19), (b + 20), (b + 21)] orsW12 (sdW12 (z.s 0)) [])
end Mine
lay_z Mine.lhsW12 Mine.rhsW12
namespace Mine
theorem chkW12 (pg : Program) (P : Params) (r : Bool) (b t : Nat) (z : Zs) : lhsW12 pg (wf P r) b t z = rhsW12 pg (wf P r) b t z := by
  rw [PySem.W.ZFast.ze6776825262703244107, PySem.W.ZFast.ze833704659145735050]
  cases r <;> kernel_rfl
theorem conW12 {w : World} {N U : Nat} (hN : N ≤ 800) (b t : Nat) (z : Zs) (hsd : ∀ y ∈ ((sdW12 (z.s 0)) : List Ob), y.ok) : ConF none [] w w.params N U (.call (.ref 700) ⟨[.ref z.x.L], []⟩) (lexD w.params z.x (.str ⟨#[32]⟩ (z.n 0)) (.str ⟨#[]⟩ (z.n 1)) (z.i 0) (z.l 0) (z.s 0) (.int 29 (z.n 2))) (lexD w.params z.x .none (.str ⟨#[]⟩ (t + 205)) (z.i 0) (z.l 0) (z.s 0) (.int (z.s 0).length (t + 134))) b t (22) (211) (.ok (.ret (.str ⟨#[92]⟩ (t + 90)))) := by
  have h := chkW12 pw w.params (w.params.followText row1) b t z
  rw [wf_self] at h
  exact conF_of_run rfl (spOk w) noCt_ok (fun _ h => by cases h) (fun _ h => by cases h) hN h rfl (toldC_ok _ _ _ hsd (fun _ h => by cases h))
noncomputable def sdW13 (tx : Str) : List Ob := [.cmp 3 1 1099511627776 false, .cmp 1 1 (-1099511627776) false, .len tx, .cmp 4 33 tx.length false, .cmp 4 1 0 true, .cmp 1 34 tx.length true, .sl tx 33 34 ⟨#[39]⟩, .cmp 4 0 3 false, .cmp 3 1 1099511627776 false, .cmp 1 1 (-1099511627776) false, .len tx, .cmp 4 34 tx.length false, .cmp 4 1 0 true, .cmp 1 35 tx.length true, .sl tx 34 35 ⟨#[36]⟩, .cmp 4 0 3 false, .cmp 3 1 1099511627776 false, .cmp 1 1 (-1099511627776) false, .len tx, .cmp 4 35 tx.length false, .cmp 4 1 0 true, .cmp 1 36 tx.length false, .sl tx 35 tx.length ⟨#[39]⟩, .cmp 4 0 3 false, .cmp 3 1 1099511627776 false, .cmp 1 1 (-1099511627776) false, .len tx, .cmp 4 tx.length tx.length true, .cmp 4 0 3 false, .tin [⟨#[97]⟩, ⟨#[99]⟩] ⟨#[97]⟩ true, .cmp 3 0 1 false]
noncomputable def orsW13 : List Rf := [.s, .d 5, .d 5, .d 5, .d 5, .d 5, .d 5, .d 5, .d 0, .s, .s, .s, .d 0, .s, .s, .s, .s, .s, .s, .s, .s, .s, .s, .s, .d 6, .d 6, .d 6, .d 0, .s, .s, .s, .d 0, .s, .s, .s, .d 0, .d 0, .s, .d 1, .d 5, .d 0, .s, .s, .s, .d 0, .s, .s, .s, .d 0, .d 0, .s, .d 1, .d 3, .s, .s, .s, .s, .s, .s, .s, .d 3, .s, .s, .s, .s, .s, .s, .s, .d 3, .s, .s, .s, .s, .d 3, .d 4, .s, .s, .s, .d 7, .d 7, .d 7, .d 7, .d 7, .s, .d 7, .s, .s, .d 8, .d 8, .d 8, .d 8, .s, .s, .d 8, .s, .s, .s, .s, .d 8, .d 8, .d 8, .d 8, .b false, .d 8, .b false, .d 8, .d 7, .d 7, .d 7, .d 3, .s, .s, .s, .s, .s, .s, .s, .d 3, .s, .s, .s, .s, .s, .s, .s, .d 3, .s, .s, .s, .s, .d 3, .d 4, .s, .s, .d 9, .d 9, .d 9, .d 3, .s, .s, .s, .s, .s, .s, .s, .d 3, .s, .s, .s, .s, .s, .s, .s, .d 3, .d 3, .s, .d 4, .d 7, .d 3, .s, .s, .s, .s, .s, .s, .s, .d 3, .s, .s, .s, .s, .s, .s, .s, .d 3, .d 3, .s, .d 4, .d 7, .d 7, .s, .s, .d 7, .d 3, .s, .s, .s, .s, .s, .s, .s, .d 3, .s, .s, .s, .s, .s, .s, .s, .d 3, .d 3, .s, .d 4, .n, .d 7, .d 7, .d 7, .d 7, .b false, .d 7, .b true, .d 7, .d 7, .d 7, .b true, .d 7, .d 7, .d 7, .d 7, .d 7, .d 7, .d 3, .s, .s, .s, .s, .s, .s, .s, .d 3, .s, .d 3, .s, .d 3, .s, .s, .s, .s, .s, .s, .s, .d 3, .s, .d 4, .d 4, .d 4, .d 7, .d 3, .s, .s, .s, .s, .s, .s, .s, .d 3, .s, .s, .s, .s, .s, .s, .s, .d 3, .d 3, .s, .d 4, .d 7, .d 7, .g 10 ⟨#[39]⟩, .d 5, .d 5, .d 5, .d 5, .d 0, .s, .s, .s, .d 0, .s, .s, .s, .d 0, .d 0, .s, .d 1, .b false, .d 5, .d 0, .s, .s, .s, .d 0, .s, .s, .s, .d 0, .d 0, .s, .d 1, .d 5, .d 0, .s, .s, .s, .d 0, .s, .s, .s, .d 0, .d 0, .s, .d 1, .d 5, .d 5, .d 5, .d 0, .s, .s, .s, .d 0, .s, .s, .s, .d 0, .d 0, .s, .d 1, .d 5, .d 5, .d 0, .s, .s, .s, .d 0, .s, .s, .s, .d 0, .d 0, .s, .d 1, .d 5, .d 0, .s, .s, .s, .d 0, .s, .s, .s, .d 0, .d 0, .s, .d 1, .d 5, .d 5, .d 0, .s, .s, .s, .d 0, .s, .s, .s, .d 0, .d 0, .s, .d 1, .d 5, .d 5, .d 0, .s, .s, .s, .d 0, .s, .s, .s, .d 0, .d 0, .s, .d 1, .d 5, .d 5, .d 0, .s, .s, .s, .d 0, .s, .s, .s, .s, .s, .s, .s, .s, .s, .s, .s, .d 11, .d 11, .d 11, .d 0, .s, .s, .s, .d 0, .s, .s, .s, .d 0, .d 0, .s, .d 1, .d 5, .d 5, .d 0, .s, .s, .s, .d 0, .s, .s, .s, .d 0, .d 0, .s, .d 1, .d 5, .d 0, .s, .s, .s, .d 0, .s, .s, .s, .d 0, .d 0, .s, .d 1, .d 5, .d 5, .d 0, .s, .s, .s, .d 0, .s, .d 0, .s, .d 0, .s, .s, .s, .d 0, .s, .d 1, .d 1, .d 1, .d 5, .d 0, .s, .s, .s, .d 0, .s, .s, .s, .s, .s, .s, .s, .s, .s, .s, .s, .d 12, .d 12, .d 12, .d 0, .s, .s, .s, .d 0, .s, .s, .s, .d 0, .d 0, .s, .d 1, .d 5, .d 0, .s, .s, .s, .d 0, .s, .s, .s, .d 0, .d 0, .s, .d 1, .d 3, .s, .s, .s, .s, .s, .s, .s, .d 3, .s, .s, .s, .s, .s, .s, .s, .d 3, .s, .s, .s, .s, .d 3, .d 4, .s, .s, .s, .d 13, .d 13, .d 13, .d 13, .d 13, .s, .d 13, .s, .s, .d 14, .d 14, .d 14, .d 14, .s, .s, .d 14, .s, .s, .s, .s, .d 14, .d 14, .d 14, .d 14, .b false, .d 14, .b false, .d 14, .d 13, .d 13, .d 13, .d 3, .s, .s, .s, .s, .s, .s, .s, .d 3, .s, .s, .s, .s, .s, .s, .s, .d 3, .s, .s, .s, .s, .d 3, .d 4, .s, .s, .d 15, .d 15, .d 15, .d 3, .s, .s, .s, .s, .s, .s, .s, .d 3, .s, .s, .s, .s, .s, .s, .s, .d 3, .d 3, .s, .d 4, .d 13, .d 3, .s, .s, .s, .s, .s, .s, .s, .d 3, .s, .s, .s, .s, .s, .s, .s, .d 3, .d 3, .s, .d 4, .d 13, .d 13, .s, .s, .d 13, .d 3, .s, .s, .s, .s, .s, .s, .s, .d 3, .s, .s, .s, .s, .s, .s, .s, .d 3, .d 3, .s, .d 4, .n, .d 13, .d 13, .d 13, .d 13, .b false, .d 13, .b true, .d 13, .d 13, .d 13, .b true, .d 13, .d 13, .d 13, .d 13, .d 13, .d 13, .d 3, .s, .s, .s, .s, .s, .s, .s, .d 3, .s, .d 3, .s, .d 3, .s, .s, .s, .s, .s, .s, .s, .d 3, .s, .d 4, .d 4, .d 4, .d 13, .d 3, .s, .s, .s, .s, .s, .s, .s, .d 3, .s, .s, .s, .s, .s, .s, .s, .d 3, .d 3, .s, .d 4, .d 13, .d 13, .g 16 ⟨#[36]⟩, .d 5, .d 5, .d 5, .d 5, .d 0, .s, .s, .s, .d 0, .s, .s, .s, .d 0, .d 0, .s, .d 1, .b false, .d 5, .d 0, .s, .s, .s, .d 0, .s, .s, .s, .d 0, .d 0, .s, .d 1, .d 5, .d 0, .s, .s, .s, .d 0, .s, .s, .s, .d 0, .d 0, .s, .d 1, .d 5, .d 0, .s, .s, .s, .d 0, .s, .s, .s, .d 0, .d 0, .s, .d 1, .d 5, .d 0, .s, .s, .s, .d 0, .s, .s, .s, .d 0, .d 0, .s, .d 1, .d 5, .d 5, .d 5, .d 5, .d 5, .d 0, .s, .s, .s, .d 0, .s, .s, .s, .d 0, .d 0, .s, .d 1, .d 5, .d 0, .s, .s, .s, .d 0, .s, .s, .s, .d 0, .d 0, .s, .d 1, .d 5, .d 5, .d 0, .s, .s, .s, .d 0, .s, .s, .s, .d 0, .d 0, .s, .d 1, .d 5, .d 0, .s, .s, .s, .d 0, .s, .s, .s, .d 0, .d 0, .s, .d 1, .d 5, .d 0, .s, .s, .s, .d 0, .s, .d 0, .s, .d 0, .s, .s, .s, .d 0, .s, .d 1, .d 1, .d 1, .d 5, .d 0, .s, .s, .s, .d 0, .s, .s, .s, .s, .s, .s, .s, .s, .s, .s, .s, .d 17, .d 17, .d 17, .d 0, .s, .s, .s, .d 0, .s, .s, .s, .d 0, .d 0, .s, .d 1, .d 5, .d 0, .s, .s, .s, .d 0, .s, .s, .s, .d 0, .d 0, .s, .d 1, .d 3, .s, .s, .s, .s, .s, .s, .s, .d 3, .s, .s, .s, .s, .s, .s, .s, .d 3, .s, .s, .s, .s, .d 3, .d 4, .s, .s, .s, .d 18, .d 18, .d 18, .d 18, .d 18, .s, .d 18, .s, .s, .d 19, .d 19, .d 19, .d 19, .s, .s, .d 19, .s, .s, .s, .s, .d 19, .d 19, .d 19, .d 19, .b false, .d 19, .b false, .d 19, .d 18, .d 18, .d 18, .d 3, .s, .s, .s, .s, .s, .s, .s, .d 3, .s, .s, .s, .s, .s, .s, .s, .d 3, .s, .s, .s, .s, .d 3, .d 4, .s, .s, .d 20, .d 20, .d 20, .d 3, .s, .s, .s, .s, .s, .s, .s, .d 3, .s, .s, .s, .s, .s, .s, .s, .d 3, .d 3, .s, .d 4, .d 18, .d 3, .s, .s, .s, .s, .s, .s, .s, .d 3, .s, .s, .s, .s, .s, .s, .s, .d 3, .d 3, .s, .d 4, .d 18, .d 18, .s, .s, .d 18, .d 3, .s, .s, .s, .s, .s, .s, .s, .d 3, .s, .s, .s, .s, .s, .s, .s, .d 3, .d 3, .s, .d 4, .n, .d 18, .d 18, .d 18, .d 18, .b false, .d 18, .b true, .d 18, .d 18, .d 18, .b false, .d 18, .d 18, .d 3, .s, .s, .s, .s, .s, .s, .s, .d 3, .s, .d 3, .s, .d 3, .s, .s, .s, .s, .s, .s, .s, .d 3, .s, .d 4, .d 4, .d 4, .d 18, .d 3, .s, .s, .s, .s, .s, .s, .s, .d 3, .s, .s, .s, .s, .s, .s, .s, .d 3, .d 3, .s, .d 4, .d 18, .d 18, .g 21 ⟨#[39]⟩, .d 5, .d 5, .d 5, .d 5, .d 0, .s, .s, .s, .d 0, .s, .s, .s, .d 0, .d 0, .s, .d 1, .b false, .d 5, .d 0, .s, .s, .s, .d 0, .s, .s, .s, .d 0, .d 0, .s, .d 1, .d 5, .d 0, .s, .s, .s, .d 0, .s, .s, .s, .d 0, .d 0, .s, .d 1, .d 5, .d 0, .s, .s, .s, .d 0, .s, .s, .s, .d 0, .d 0, .s, .d 1, .d 5, .d 0, .s, .s, .s, .d 0, .s, .s, .s, .d 0, .d 0, .s, .d 1, .d 5, .d 5, .d 5, .d 5, .d 5, .d 0, .s, .s, .s, .d 0, .s, .s, .s, .d 0, .d 0, .s, .d 1, .d 5, .d 0, .s, .s, .s, .d 0, .s, .s, .s, .d 0, .d 0, .s, .d 1, .d 5, .d 0, .s, .s, .s, .d 0, .s, .d 0, .s, .d 0, .s, .s, .s, .d 0, .s, .d 1, .d 1, .d 1, .d 5, .d 0, .s, .s, .s, .d 0, .s, .s, .s, .s, .s, .s, .s, .s, .s, .s, .s, .d 22, .d 22, .d 22, .d 0, .s, .s, .s, .d 0, .s, .s, .s, .d 0, .d 0, .s, .d 1, .d 5, .d 0, .s, .s, .s, .d 0, .s, .s, .s, .d 0, .d 0, .s, .d 1, .d 3, .s, .s, .s, .s, .s, .s, .s, .d 3, .s, .s, .s, .s, .s, .s, .s, .d 3, .s, .s, .s, .s, .d 3, .d 4, .s, .s, .s, .d 23, .d 23, .d 23, .d 23, .d 23, .s, .d 23, .s, .s, .d 24, .d 24, .d 24, .d 24, .s, .s, .d 24, .s, .s, .s, .s, .d 24, .d 24, .d 24, .d 24, .b false, .d 24, .b false, .d 24, .d 23, .d 23, .d 23, .d 3, .s, .s, .s, .s, .s, .s, .s, .d 3, .s, .s, .s, .s, .s, .s, .s, .d 3, .s, .s, .s, .s, .d 3, .d 4, .s, .s, .d 25, .d 25, .d 25, .d 3, .s, .s, .s, .s, .s, .s, .s, .d 3, .s, .s, .s, .s, .s, .s, .s, .d 3, .d 3, .s, .d 4, .d 23, .d 3, .s, .s, .s, .s, .s, .s, .s, .d 3, .s, .s, .s, .s, .s, .s, .s, .d 3, .d 3, .s, .d 4, .d 23, .d 23, .s, .s, .d 23, .d 3, .s, .s, .s, .s, .s, .s, .s, .d 3, .s, .s, .s, .s, .s, .s, .s, .d 3, .d 3, .s, .d 4, .n, .d 23, .d 23, .d 23, .d 23, .b true, .d 5, .d 5, .d 5, .d 5, .d 0, .s, .s, .s, .d 0, .s, .s, .s, .d 0, .d 0, .s, .d 1, .b false, .d 5, .d 0, .s, .s, .s, .d 0, .s, .s, .s, .d 0, .d 0, .s, .d 1, .d 5, .d 0, .s, .s, .s, .d 0, .s, .s, .s, .d 0, .d 0, .s, .d 1, .d 5, .d 0, .s, .s, .s, .d 0, .s, .s, .s, .d 0, .d 0, .s, .d 1, .d 5, .d 0, .s, .s, .s, .d 0, .s, .s, .s, .d 0, .d 0, .s, .d 1, .d 5, .d 0, .s, .s, .s, .d 0, .s, .s, .s, .d 0, .d 0, .s, .d 1, .d 5, .d 0, .s, .s, .s, .d 0, .s, .s, .s, .d 0, .d 0, .s, .d 1, .d 5, .d 0, .s, .s, .s, .d 0, .s, .s, .s, .d 0, .d 0, .s, .d 1, .d 26, .d 26, .t 26 true, .d 5, .d 5, .d 0, .s, .s, .s, .d 0, .s, .d 0, .s, .d 0, .s, .s, .s, .d 0, .s, .d 1, .d 1, .d 1, .d 5, .d 0, .s, .s, .s, .d 0, .s, .s, .s, .d 0, .d 0, .s, .d 1, .d 5, .d 5, .d 5, .d 0, .s, .s, .s, .d 0, .s, .d 0, .s, .d 0, .s, .s, .s, .d 0, .s, .d 1, .d 1, .d 1, .d 5, .d 0, .s, .s, .s, .d 0, .s, .s, .s, .d 0, .d 0, .s, .d 1, .d 5, .d 5, .d 0, .s, .s, .s, .d 0, .s, .s, .s, .d 0, .d 0, .s, .d 1, .b false, .d 5]
noncomputable def lhsW13 (pg : Program) (W : Params) (b t : Nat) (z : Zs) := resM m5 (enter W (go pg W b t true noCt 3108) orsW13 (.call (.ref 700) ⟨[.ref z.x.L], []⟩) kx (lexD W z.x (.str ⟨#[32]⟩ (z.n 0)) (.str ⟨#[]⟩ (z.n 1)) (z.i 0) (z.l 0) (z.s 0) (.int 33 (z.n 2))) 0 0 [])
noncomputable def rhsW13 (pg : Program) (W : Params) (b t : Nat) (z : Zs) : Option (Except Value PySem.Fin × Dy × Nat × Nat × List Ob) := some (.ok (.done (.ret (.str ⟨#[36]⟩ (t + 90)))), lexD W z.x .none (.str ⟨#[]⟩ (t + 203)) (z.i 0) (z.l 0) (z.s 0) (.int (z.s 0).length (t + 132)), 22, 209, toldC noCt [z.x.L, z.x.d, z.x.q, z.x.io, z.x.iod, (b + 0), (b + 1), (b + 2), (b + 3), (b + 4), (b + 5), (b + 6), (b + 7), (b + 8), (b + 9), (b + 10), (b + 11), (b + 12), (b + 13), (b + 14), (b + 15), (b + 16), (b + 17), (b + 18), (b + 19), (b + 20), (b + 21)] orsW13 (sdW13 (z.s 0)) [])
end Mine
lay_z Mine.lhsW13 Mine.rhsW13
namespace Mine
theorem chkW13 (pg : Program) (P : Params) (r : Bool) (b t : Nat) (z : Zs) : lhsW13 pg (wf P r) b t z = rhsW13 pg (wf P r) b t z := by
  rw [PySem.W.ZFast.ze7270921519498815194, PySem.W.ZFast.ze1229215606239818864]
  cases r <;> kernel_rfl
theorem conW13 {w : World} {N U : Nat} (hN : N ≤ 800) (b t : Nat) (z : Zs) (hsd : ∀ y ∈ ((sdW13 (z.s 0)) : List Ob), y.ok) : ConF none [] w w.params N U (.call (.ref 700) ⟨[.ref z.x.L], []⟩) (lexD w.params z.x (.str ⟨#[32]⟩ (z.n 0)) (.str ⟨#[]⟩ (z.n 1)) (z.i 0) (z.l 0) (z.s 0) (.int 33 (z.n 2))) (lexD w.params z.x .none (.str ⟨#[]⟩ (t + 203)) (z.i 0) (z.l 0) (z.s 0) (.int (z.s 0).length (t + 132))) b t (22) (209) (.ok (.ret (.str ⟨#[36]⟩ (t + 90)))) := by
  have h := chkW13 pw w.params (w.params.followText row1) b t z
  rw [wf_self] at h
  exact conF_of_run rfl (spOk w) noCt_ok (fun _ h => by cases h) (fun _ h => by cases h) hN h rfl (toldC_ok _ _ _ hsd (fun _ h => by cases h))
/-! ## The words, their text, and what reading does -/
noncomputable def lenB (x : Str) : Bool := decide ((x.length : Int) < 9223372036854775808)
noncomputable def obB : Ob → Bool
  | .cmp op x y r => cmpB op x y == r
  | .len x => lenB x
  | .sl x p q v => pieceOf x p q == some v
  | .tin ys x r => ys.any (· == x) == r
  | _ => false
theorem ok_cmp {op : Nat} {x y : Int} {r : Bool} (h : cmpB op x y = r) : (Ob.cmp op x y r).ok := by unfold Ob.ok; exact h
theorem ok_len {x : Str} (h : (x.length : Int) < 9223372036854775808) : (Ob.len x).ok := by unfold Ob.ok; exact h
theorem ok_sl {x : Str} {p q : Int} {v : Str} (h : pieceOf x p q = some v) : (Ob.sl x p q v).ok := by unfold Ob.ok; exact h
theorem ok_tin {ys : List Str} {x : Str} {r : Bool} (h : ys.any (· == x) = r) : (Ob.tin ys x r).ok := by unfold Ob.ok; exact h
theorem obB_ok {y : Ob} (h : obB y = true) : y.ok := by
  cases y with
  | cmp op x y r => exact ok_cmp (eq_of_beq h)
  | len x => exact ok_len (of_decide_eq_true (show lenB x = true from h))
  | sl x p q v => exact ok_sl (eq_of_beq h)
  | tin ys x r => exact ok_tin (eq_of_beq h)
  | fe _ _ => cases h
  | cd _ _ => cases h
  | dy _ _ => cases h
  | a _ _ => cases h
theorem obs_ok {l : List Ob} (h : l.all obB = true) : ∀ y ∈ l, y.ok := fun y hy => obB_ok (List.all_eq_true.mp h y hy)
def wdL : List Str := [⟨#[105, 116, 39, 115]⟩, ⟨#[97, 32, 98]⟩, ⟨#[35]⟩, ⟨#[]⟩, ⟨#[120, 34]⟩, ⟨#[92]⟩, ⟨#[36]⟩, ⟨#[61]⟩]
def wd (k : Nat) : Str := wdL.getD k ⟨#[]⟩
def txtL : List Nat := [39, 105, 116, 39, 34, 39, 34, 39, 115, 39, 32, 39, 97, 32, 98, 39, 32, 39, 35, 39, 32, 39, 39, 32, 39, 120, 34, 39, 32, 39, 92, 39, 32, 39, 36, 39, 32, 61]
def psL : List Nat := [0, 11, 17, 21, 24, 29, 33, 37]
def endL : List Nat := [0, 10, 16, 20, 23, 28, 32, 36, 38]
def txt (n : Nat) : Str := ⟨(txtL.take (endL.getD n 0)).toArray⟩
def ps (k : Nat) : Nat := psL.getD k 0
/-- the lexer has read k of n words -/
inductive At (n : Nat) : Nat → Value → Value → Value → Prop
  | mid (k ts tt tp : Nat) (h : k < n) : At n k (.str ⟨#[32]⟩ ts) (.str ⟨#[]⟩ tt) (.int (ps k) tp)
  | last (ts tt tp : Nat) : At n n (.str ⟨#[32]⟩ ts) (.str ⟨#[]⟩ tt) (.int (txt n).length tp)
  | fin (tt tp : Nat) : At n n .none (.str ⟨#[]⟩ tt) (.int (txt n).length tp)
section
variable {w : World}
/-- a word is read -/
noncomputable def RdS (w : World) (n k : Nat) (st tk pos : Value) : Prop := ∀ (x : Lx) (e : Int) (its : List Value) (b t : Nat), ∃ st1 tk1 pos1 tok m i, At n (k + 1) st1 tk1 pos1 ∧
  ∀ N U, N ≤ 780 → Con w w.params N U (.call (.ref 700) ⟨[.ref x.L], []⟩) (lexD w.params x st tk e its (txt n) pos) (lexD w.params x st1 tk1 e its (txt n) pos1) b t m i (.ok (.ret (.str (wd k) tok)))
noncomputable def RdN (w : World) (n : Nat) (st tk pos : Value) : Prop := ∀ (x : Lx) (e : Int) (its : List Value) (b t : Nat), ∃ st1 tk1 pos1 m i, At n n st1 tk1 pos1 ∧
  ∀ N U, N ≤ 780 → Con w w.params N U (.call (.ref 700) ⟨[.ref x.L], []⟩) (lexD w.params x st tk e its (txt n) pos) (lexD w.params x st1 tk1 e its (txt n) pos1) b t m i (.ok (.ret .none))
theorem rdM0 (n : Nat) (h3 : 3 ≤ n) (h8 : n ≤ 8) (ts tt tp : Nat) : RdS w n 0 (.str ⟨#[32]⟩ ts) (.str ⟨#[]⟩ tt) (.int (ps 0) tp) := by
  intro x e its b t
  refine ⟨_, _, _, _, _, _, At.mid 1 _ _ _ (by omega), fun N U hN => conW0 (by omega) b t (mkZ x [ts, tt, tp] [] [txt n] [e] [its]) ?_⟩
  rcases (by omega : n = 3 ∨ n = 4 ∨ n = 5 ∨ n = 6 ∨ n = 7 ∨ n = 8) with rfl | rfl | rfl | rfl | rfl | rfl <;> exact obs_ok (by kernel_rfl)
theorem rdM1 (n : Nat) (h3 : 3 ≤ n) (h8 : n ≤ 8) (ts tt tp : Nat) : RdS w n 1 (.str ⟨#[32]⟩ ts) (.str ⟨#[]⟩ tt) (.int (ps 1) tp) := by
  intro x e its b t
  refine ⟨_, _, _, _, _, _, At.mid 2 _ _ _ (by omega), fun N U hN => conW1 (by omega) b t (mkZ x [ts, tt, tp] [] [txt n] [e] [its]) ?_⟩
  rcases (by omega : n = 3 ∨ n = 4 ∨ n = 5 ∨ n = 6 ∨ n = 7 ∨ n = 8) with rfl | rfl | rfl | rfl | rfl | rfl <;> exact obs_ok (by kernel_rfl)
theorem rdM2 (n : Nat) (h3 : 4 ≤ n) (h8 : n ≤ 8) (ts tt tp : Nat) : RdS w n 2 (.str ⟨#[32]⟩ ts) (.str ⟨#[]⟩ tt) (.int (ps 2) tp) := by
  intro x e its b t
  refine ⟨_, _, _, _, _, _, At.mid 3 _ _ _ (by omega), fun N U hN => conW2 (by omega) b t (mkZ x [ts, tt, tp] [] [txt n] [e] [its]) ?_⟩
  rcases (by omega : n = 4 ∨ n = 5 ∨ n = 6 ∨ n = 7 ∨ n = 8) with rfl | rfl | rfl | rfl | rfl <;> exact obs_ok (by kernel_rfl)
theorem rdM3 (n : Nat) (h3 : 5 ≤ n) (h8 : n ≤ 8) (ts tt tp : Nat) : RdS w n 3 (.str ⟨#[32]⟩ ts) (.str ⟨#[]⟩ tt) (.int (ps 3) tp) := by
  intro x e its b t
  refine ⟨_, _, _, _, _, _, At.mid 4 _ _ _ (by omega), fun N U hN => conW3 (by omega) b t (mkZ x [ts, tt, tp] [] [txt n] [e] [its]) ?_⟩
  rcases (by omega : n = 5 ∨ n = 6 ∨ n = 7 ∨ n = 8) with rfl | rfl | rfl | rfl <;> exact obs_ok (by kernel_rfl)
theorem rdM4 (n : Nat) (h3 : 6 ≤ n) (h8 : n ≤ 8) (ts tt tp : Nat) : RdS w n 4 (.str ⟨#[32]⟩ ts) (.str ⟨#[]⟩ tt) (.int (ps 4) tp) := by
  intro x e its b t
  refine ⟨_, _, _, _, _, _, At.mid 5 _ _ _ (by omega), fun N U hN => conW4 (by omega) b t (mkZ x [ts, tt, tp] [] [txt n] [e] [its]) ?_⟩
  rcases (by omega : n = 6 ∨ n = 7 ∨ n = 8) with rfl | rfl | rfl <;> exact obs_ok (by kernel_rfl)
theorem rdM5 (n : Nat) (h3 : 7 ≤ n) (h8 : n ≤ 8) (ts tt tp : Nat) : RdS w n 5 (.str ⟨#[32]⟩ ts) (.str ⟨#[]⟩ tt) (.int (ps 5) tp) := by
  intro x e its b t
  refine ⟨_, _, _, _, _, _, At.mid 6 _ _ _ (by omega), fun N U hN => conW5 (by omega) b t (mkZ x [ts, tt, tp] [] [txt n] [e] [its]) ?_⟩
  rcases (by omega : n = 7 ∨ n = 8) with rfl | rfl <;> exact obs_ok (by kernel_rfl)
theorem rdM6 (n : Nat) (h3 : 8 ≤ n) (h8 : n ≤ 8) (ts tt tp : Nat) : RdS w n 6 (.str ⟨#[32]⟩ ts) (.str ⟨#[]⟩ tt) (.int (ps 6) tp) := by
  intro x e its b t
  refine ⟨_, _, _, _, _, _, At.mid 7 _ _ _ (by omega), fun N U hN => conW6 (by omega) b t (mkZ x [ts, tt, tp] [] [txt n] [e] [its]) ?_⟩
  obtain rfl : n = 8 := by omega
  exact obs_ok (by kernel_rfl)
theorem rdL3 (ts tt tp : Nat) : RdS w 3 2 (.str ⟨#[32]⟩ ts) (.str ⟨#[]⟩ tt) (.int (ps 2) tp) := by
  intro x e its b t
  exact ⟨_, _, _, _, _, _, At.fin _ _, fun N U hN => conW9 (by omega) b t (mkZ x [ts, tt, tp] [] [txt 3] [e] [its]) (obs_ok (by kernel_rfl))⟩
theorem rdL4 (ts tt tp : Nat) : RdS w 4 3 (.str ⟨#[32]⟩ ts) (.str ⟨#[]⟩ tt) (.int (ps 3) tp) := by
  intro x e its b t
  exact ⟨_, _, _, _, _, _, At.fin _ _, fun N U hN => conW10 (by omega) b t (mkZ x [ts, tt, tp] [] [txt 4] [e] [its]) (obs_ok (by kernel_rfl))⟩
theorem rdL5 (ts tt tp : Nat) : RdS w 5 4 (.str ⟨#[32]⟩ ts) (.str ⟨#[]⟩ tt) (.int (ps 4) tp) := by
  intro x e its b t
  exact ⟨_, _, _, _, _, _, At.fin _ _, fun N U hN => conW11 (by omega) b t (mkZ x [ts, tt, tp] [] [txt 5] [e] [its]) (obs_ok (by kernel_rfl))⟩
theorem rdL6 (ts tt tp : Nat) : RdS w 6 5 (.str ⟨#[32]⟩ ts) (.str ⟨#[]⟩ tt) (.int (ps 5) tp) := by
  intro x e its b t
  exact ⟨_, _, _, _, _, _, At.fin _ _, fun N U hN => conW12 (by omega) b t (mkZ x [ts, tt, tp] [] [txt 6] [e] [its]) (obs_ok (by kernel_rfl))⟩
theorem rdL7 (ts tt tp : Nat) : RdS w 7 6 (.str ⟨#[32]⟩ ts) (.str ⟨#[]⟩ tt) (.int (ps 6) tp) := by
  intro x e its b t
  exact ⟨_, _, _, _, _, _, At.fin _ _, fun N U hN => conW13 (by omega) b t (mkZ x [ts, tt, tp] [] [txt 7] [e] [its]) (obs_ok (by kernel_rfl))⟩
theorem rdL8 (ts tt tp : Nat) : RdS w 8 7 (.str ⟨#[32]⟩ ts) (.str ⟨#[]⟩ tt) (.int (ps 7) tp) := by
  intro x e its b t
  exact ⟨_, _, _, _, _, _, At.last _ _ _, fun N U hN => conW7 (by omega) b t (mkZ x [ts, tt, tp] [] [txt 8] [e] [its]) (obs_ok (by kernel_rfl))⟩
theorem rdS {n k : Nat} (h3 : 3 ≤ n) (h8 : n ≤ 8) {st tk pos : Value} (ha : At n k st tk pos) (hk : k < n) : RdS w n k st tk pos := by
  cases ha with
  | last ts tt tp => exact absurd hk (Nat.lt_irrefl _)
  | fin tt tp => exact absurd hk (Nat.lt_irrefl _)
  | mid _ ts tt tp _ =>
    by_cases hl : k + 1 < n
    · rcases (by omega : k = 0 ∨ k = 1 ∨ k = 2 ∨ k = 3 ∨ k = 4 ∨ k = 5 ∨ k = 6) with rfl | rfl | rfl | rfl | rfl | rfl | rfl
      · exact rdM0 n (by omega) h8 ts tt tp
      · exact rdM1 n (by omega) h8 ts tt tp
      · exact rdM2 n (by omega) h8 ts tt tp
      · exact rdM3 n (by omega) h8 ts tt tp
      · exact rdM4 n (by omega) h8 ts tt tp
      · exact rdM5 n (by omega) h8 ts tt tp
      · exact rdM6 n (by omega) h8 ts tt tp
    · obtain rfl : n = k + 1 := by omega
      rcases (by omega : k = 2 ∨ k = 3 ∨ k = 4 ∨ k = 5 ∨ k = 6 ∨ k = 7) with rfl | rfl | rfl | rfl | rfl | rfl
      · exact rdL3 ts tt tp
      · exact rdL4 ts tt tp
      · exact rdL5 ts tt tp
      · exact rdL6 ts tt tp
      · exact rdL7 ts tt tp
      · exact rdL8 ts tt tp
theorem rdN {n : Nat} (h3 : 3 ≤ n) (h8 : n ≤ 8) {st tk pos : Value} (ha : At n n st tk pos) : RdN w n st tk pos := by
  intro x e its b t
  cases ha with
  | mid _ ts tt tp h => exact absurd h (Nat.lt_irrefl _)
  | last ts tt tp =>
    refine ⟨_, _, _, _, _, At.fin _ _, fun N U hN => conW8 (by omega) b t (mkZ x [ts, tt, tp] [] [txt n] [e] [its]) ?_⟩
    rcases (by omega : n = 3 ∨ n = 4 ∨ n = 5 ∨ n = 6 ∨ n = 7 ∨ n = 8) with rfl | rfl | rfl | rfl | rfl | rfl <;> exact obs_ok (by kernel_rfl)
  | fin tt tp =>
    refine ⟨_, _, _, _, _, At.fin _ _, fun N U hN => conW14 (by omega) b t (mkZ x [0, tt, tp] [] [txt n] [e] [its]) ?_⟩
    rcases (by omega : n = 3 ∨ n = 4 ∨ n = 5 ∨ n = 6 ∨ n = 7 ∨ n = 8) with rfl | rfl | rfl | rfl | rfl | rfl <;> exact obs_ok (by kernel_rfl)
end
/-! ## «_law_due» -/
def IntsF (f : Nat → Int) (k : Nat) (kv : List Value) : Prop := kv.length = k ∧ ∀ i < k, ∃ tok, kv[i]? = some (.int (f i) tok)
/-- the greatest of the first k + 1 -/
def bestF (f : Nat → Int) : Nat → Int
  | 0 => f 0
  | k + 1 => if f (k + 1) > bestF f k then f (k + 1) else bestF f k
def cntK (f : Nat → Int) (xx mo : Int) (c r : Nat) : Nat := (List.range' c r).countP fun i => decide (f i > xx) && decide (mo > f i)
theorem cntK_succ (f : Nat → Int) (xx mo : Int) (c r : Nat) : cntK f xx mo c (r + 1) = (if f c > xx ∧ mo > f c then 1 else 0) + cntK f xx mo (c + 1) r := by
  unfold cntK; rw [List.range'_succ, List.countP_cons]
  simp only [Bool.and_eq_true, decide_eq_true_eq]
  omega
section
variable {w : World}
theorem maxT {f : Nat → Int} {k : Nat} {kv : List Value} (hf : IntsF f k kv) (hk : 0 < k) (kl kc : Nat) :
    ∃ tb, ∀ N U b t, N ≤ 760 → Con w w.params N U (.call (.builtin "max") ⟨[.ref kl], []⟩) [(kl, liObj kv kc)] [(kl, liObj kv kc)] b t 4 0 (.ok (.ret (.int (bestF f (k - 1)) tb))) := by
  obtain ⟨tv, hv⟩ := hf.2 0 hk
  -- the best's token does not hang on the addresses
  have tok : ∀ (r c tc : Nat), k = c + 1 + r → ∃ tb, ∀ it s sc, ∃ sc2, ∀ N U b t, N ≤ 780 → Con w w.params N U (mlC it s) (mD it kl s ((c + 1 : Nat) : Int) kv kc [.int (bestF f c) tc, .int (bestF f c) tc] sc) (mDE it kl s k kv kc [] sc2) b t 2 0 (.ok (.ret (.int (bestF f (k - 1)) tb))) := by
    intro r
    induction r with
    | zero =>
      intro c tc hk
      obtain rfl : k = c + 1 := by omega
      refine ⟨tc, fun it s sc => ⟨sc + 1, fun N U b t hN => ?_⟩⟩
      refine conMLE (w := w) (N := N) (U := U) (by omega) b t (mkZ lx0 [it, kl, kc, s, sc, 0, 0, tc] [] [] [(c + 1 : Nat), 0, 0, 0, bestF f c] [kv]) (ctOk_cons ?_ ctOk_nil)
      exact ⟨rfl, con_liEnd it kl kv kc (c + 1) hf.1⟩
    | succ r ih =>
      intro c tc hk
      obtain ⟨tv, hv⟩ := hf.2 (c + 1) (by omega)
      by_cases hb : f (c + 1) > bestF f c
      · obtain ⟨tb, h0⟩ := ih (c + 1) tv (by omega)
        have e : bestF f (c + 1) = f (c + 1) := by unfold bestF; rw [if_pos hb]
        rw [e] at h0
        refine ⟨tb, fun it s sc => ?_⟩
        obtain ⟨sc2, h⟩ := h0 it s sc
        refine ⟨sc2, fun N U b t hN => ?_⟩
        refine conMLT (w := w) (N := N) (U := U) (by omega) b t (mkZ lx0 [it, kl, kc, s, sc, tb, tv, tc, sc2, 2, 0] [] [] [(c + 1 : Nat), k, bestF f (k - 1), f (c + 1), bestF f c] [kv]) (ctOk_cons ?_ (ctOk_cons ?_ ctOk_nil)) (fun y hy => by obtain rfl := List.mem_singleton.mp hy; exact ok_cmp (decide_eq_true hb))
        · exact ⟨rfl, con_liNext it kl kv kc (c + 1) _ hv⟩
        · exact ⟨rfl, h _ _ _ _ (by show N + 0 ≤ 780; omega)⟩
      · obtain ⟨tb, h0⟩ := ih (c + 1) tc (by omega)
        have e : bestF f (c + 1) = bestF f c := by conv => lhs; unfold bestF; rw [if_neg hb]
        rw [e] at h0
        refine ⟨tb, fun it s sc => ?_⟩
        obtain ⟨sc2, h⟩ := h0 it s sc
        refine ⟨sc2, fun N U b t hN => ?_⟩
        refine conMLF (w := w) (N := N) (U := U) (by omega) b t (mkZ lx0 [it, kl, kc, s, sc, tb, tv, tc, sc2, 2, 0] [] [] [(c + 1 : Nat), k, bestF f (k - 1), f (c + 1), bestF f c] [kv]) (ctOk_cons ?_ (ctOk_cons ?_ ctOk_nil)) (fun y hy => by obtain rfl := List.mem_singleton.mp hy; exact ok_cmp (decide_eq_false hb))
        · exact ⟨rfl, con_liNext it kl kv kc (c + 1) _ hv⟩
        · exact ⟨rfl, h _ _ _ _ (by show N + 0 ≤ 780; omega)⟩
  obtain ⟨tb, h0⟩ := tok (k - 1) 0 tv (by omega)
  refine ⟨tb, fun N U b t hN => ?_⟩
  obtain ⟨sc2, h1⟩ := h0 (b + 0) (b + 1) (0 + 1)
  refine conMAX (w := w) (N := N) (U := U) (by omega) b t (mkZ lx0 [0, kl, kc, 0, 0, tb, 0, 0, sc2, 2, 0] [] [] [0, k, bestF f (k - 1)] [kv]) (ctOk_cons ?_ ctOk_nil)
  refine ⟨rfl, ?_⟩
  refine conML0 (w := w) (N := N + 20) (U := U + 200) (by omega) (b + 2) (t + 0) (mkZ lx0 [b + 0, kl, kc, b + 1, 0, tb, tv, 0, sc2, 2, 0] [] [] [0, k, bestF f (k - 1), f 0] [kv]) (ctOk_cons ?_ (ctOk_cons ?_ ctOk_nil))
  · exact ⟨rfl, con_liNext (b + 0) kl kv kc 0 _ hv⟩
  · exact ⟨rfl, h1 _ _ _ _ (by show N + 20 + 0 ≤ 780; omega)⟩
theorem dlT {f : Nat → Int} {k : Nat} {kv ov : List Value} (hf : IntsF f k kv) {jj tx : Nat} {xx : Int} (hx : ov[jj]? = some (.int xx tx)) (F C cm cj co ao oc it kl kc acc tj tm : Nat) (mo : Int) (kk : Nat) (h8 : k ≤ 8 ∧ jj ≤ 8) : ∀ (r c : Nat) (av : List Value) (ac : Nat) (k0 : Int) (tk0 : Nat), k = c + r → av.length ≤ c → ∀ b t : Nat,
    ∃ av2 ac2 kf tkf m ii, av2.length = av.length + cntK f xx mo c r ∧ ∀ N U, N ≤ 760 → Con w w.params N U (dlC it acc F C cm cj co) (kD it kl cj co ao cm acc C (liIt kl c) kv kc jj tj ov oc mo tm av ac (dK w.params kk k0 tk0)) (kD it kl cj co ao cm acc C (liItE k) kv kc jj tj ov oc mo tm av2 ac2 (dK w.params kk kf tkf)) b t m ii (.ok .next) := by
  intro r
  induction r with
  | zero =>
    intro c av ac k0 tk0 hk hav b t
    obtain rfl : k = c := by omega
    refine ⟨av, ac, k0, tk0, 2, 0, by simp [cntK], fun N U hN => ?_⟩
    have := conDCE (w := w) (N := N) (U := U) (by omega) b t (mkZ lx0 [F, C, cm, cj, co, ao, oc, it, kl, kc, acc] [] [] [0, 0, 0, 0, 0, 0, k] [ov, kv]) (fun y hy => by
      simp only [ctDCE, List.mem_cons, List.not_mem_nil, or_false] at hy
      subst hy
      exact ⟨rfl, con_liEnd it kl kv kc k hf.1⟩)
    exact ConF.wide (D₁ := [(kl, liObj kv kc), (it, liItE k)]) (Dn := []) [false, false, false, false, true, true, false, false] this rfl rfl
  | succ r ih =>
    intro c av ac k0 tk0 hk hav b t
    obtain ⟨tv, hv⟩ := hf.2 c (by omega)
    have e1 := cntK_succ f xx mo c r
    by_cases h1 : f c > xx
    · by_cases h2 : mo > f c
      · obtain ⟨av2, ac2, kf, tkf, m2, i2, hlen, hcon⟩ := ih (c + 1) (av ++ [.int (f c) tv]) (ac + 1) (f c) tv (by omega) (by simp; omega) (b + 0) (t + 1)
        refine ⟨av2, ac2, kf, tkf, 0 + m2, 1 + i2, by rw [hlen, e1, if_pos ⟨h1, h2⟩]; simp; omega, fun N U hN => ?_⟩
        refine conDC1TT (w := w) (N := N) (U := U) (by omega) b t (mkZ lx0 [F, C, cm, cj, co, ao, oc, it, kl, kc, acc, ac, ac2, tj, tm, tx, tv, kk, tk0, tkf, m2, i2] [] [] [jj, mo, xx, f c, k0, kf, (c : Nat), k] [ov, kv, av, av2]) (ctOk_cons ?_ (ctOk_cons ?_ (ctOk_cons ?_ (ctOk_cons ?_ ctOk_nil)))) (fun y hy => by simp only [List.mem_cons, List.not_mem_nil, or_false] at hy; rcases hy with rfl | rfl <;> first | exact ok_cmp (decide_eq_true h1) | exact ok_cmp (decide_eq_true h2))
        · exact ⟨rfl, con_liNext it kl kv kc c _ hv⟩
        · exact ⟨rfl, con_item ao ov oc jj tj _ (by omega) (by omega) (by simpa using hx)⟩
        · exact ⟨rfl, con_append acc av ac _ (by omega)⟩
        · exact ⟨rfl, hcon _ _ (by show N + 0 ≤ 760; omega)⟩
      · obtain ⟨av2, ac2, kf, tkf, m2, i2, hlen, hcon⟩ := ih (c + 1) av ac (f c) tv (by omega) (by omega) (b + 0) (t + 1)
        refine ⟨av2, ac2, kf, tkf, 0 + m2, 1 + i2, by rw [hlen, e1, if_neg (fun h => h2 h.2)]; omega, fun N U hN => ?_⟩
        refine conDC1TF (w := w) (N := N) (U := U) (by omega) b t (mkZ lx0 [F, C, cm, cj, co, ao, oc, it, kl, kc, acc, ac, ac2, tj, tm, tx, tv, kk, tk0, tkf, m2, i2] [] [] [jj, mo, xx, f c, k0, kf, (c : Nat), k] [ov, kv, av, av2]) (ctOk_cons ?_ (ctOk_cons ?_ (ctOk_cons ?_ ctOk_nil))) (fun y hy => by simp only [List.mem_cons, List.not_mem_nil, or_false] at hy; rcases hy with rfl | rfl <;> first | exact ok_cmp (decide_eq_true h1) | exact ok_cmp (decide_eq_false h2))
        · exact ⟨rfl, con_liNext it kl kv kc c _ hv⟩
        · exact ⟨rfl, con_item ao ov oc jj tj _ (by omega) (by omega) (by simpa using hx)⟩
        · exact ⟨rfl, hcon _ _ (by show N + 0 ≤ 760; omega)⟩
    · obtain ⟨av2, ac2, kf, tkf, m2, i2, hlen, hcon⟩ := ih (c + 1) av ac (f c) tv (by omega) (by omega) (b + 0) (t + 1)
      refine ⟨av2, ac2, kf, tkf, 0 + m2, 1 + i2, by rw [hlen, e1, if_neg (fun h => h1 h.1)]; omega, fun N U hN => ?_⟩
      refine conDC1F (w := w) (N := N) (U := U) (by omega) b t (mkZ lx0 [F, C, cm, cj, co, ao, oc, it, kl, kc, acc, ac, ac2, tj, tm, tx, tv, kk, tk0, tkf, m2, i2] [] [] [jj, mo, xx, f c, k0, kf, (c : Nat), k] [ov, kv, av, av2]) (ctOk_cons ?_ (ctOk_cons ?_ (ctOk_cons ?_ ctOk_nil))) (fun y hy => by obtain rfl := List.mem_singleton.mp hy; exact ok_cmp (decide_eq_false h1))
      · exact ⟨rfl, con_liNext it kl kv kc c _ hv⟩
      · exact ⟨rfl, con_item ao ov oc jj tj _ (by omega) (by omega) (by simpa using hx)⟩
      · exact ⟨rfl, hcon _ _ (by show N + 0 ≤ 760; omega)⟩
/-- the comprehension over a list that is not empty -/
theorem dsT {f : Nat → Int} {k' : Nat} {kv ov : List Value} (hf : IntsF f (k' + 1) kv) {jj tx : Nat} {xx : Int} (hx : ov[jj]? = some (.int xx tx)) (F C cm cj co ao oc it kl kc acc tj tm : Nat) (mo : Int) (h8 : k' + 1 ≤ 8 ∧ jj ≤ 8) (b t : Nat) :
    ∃ av2 ac2 kk kf tkf m ii, av2.length = cntK f xx mo 0 (k' + 1) ∧ ∀ N U, N ≤ 760 → Con w w.params N U (dsC it acc F C cm cj co) (kD it kl cj co ao cm acc C (liIt kl 0) kv kc jj tj ov oc mo tm [] 0 (dO [] 0)) (kD it kl cj co ao cm acc C (liItE (k' + 1 : Nat)) kv kc jj tj ov oc mo tm av2 ac2 (dK w.params kk kf tkf)) b t m ii (.ok .next) := by
  have loop : ∃ av2 ac2 kk kf tkf m ii, av2.length = cntK f xx mo 0 (k' + 1) ∧ ∀ N U, N ≤ 760 → Con w w.params N U (dlC it acc F C cm cj co) (kD it kl cj co ao cm acc C (liIt kl 0) kv kc jj tj ov oc mo tm [] 0 (dO [] 0)) (kD it kl cj co ao cm acc C (liItE (k' + 1 : Nat)) kv kc jj tj ov oc mo tm av2 ac2 (dK w.params kk kf tkf)) b t m ii (.ok .next) := by
    obtain ⟨tv, hv⟩ := hf.2 0 (by omega)
    have e1 := cntK_succ f xx mo 0 k'
    simp only [Nat.zero_add] at e1
    by_cases h1 : f 0 > xx
    · by_cases h2 : mo > f 0
      · obtain ⟨av2, ac2, kf, tkf, m2, i2, hlen, hcon⟩ := dlT (w := w) hf hx F C cm cj co ao oc it kl kc acc tj tm mo (t + 0) h8 k' 1 ([] ++ [.int (f 0) tv]) (0 + 1) (f 0) tv (by omega) (by simp) (b + 0) (t + 1)
        refine ⟨av2, ac2, t + 0, kf, tkf, 0 + m2, 1 + i2, by rw [hlen, e1, if_pos ⟨h1, h2⟩]; simp, fun N U hN => ?_⟩
        refine conDC0TT (w := w) (N := N) (U := U) (by omega) b t (mkZ lx0 [F, C, cm, cj, co, ao, oc, it, kl, kc, acc, 0, ac2, tj, tm, tx, tv, 0, 0, tkf, m2, i2] [] [] [jj, mo, xx, f 0, 0, kf, (0 : Nat), (k' + 1 : Nat)] [ov, kv, [], av2]) (ctOk_cons ?_ (ctOk_cons ?_ (ctOk_cons ?_ (ctOk_cons ?_ ctOk_nil)))) (fun y hy => by simp only [List.mem_cons, List.not_mem_nil, or_false] at hy; rcases hy with rfl | rfl <;> first | exact ok_cmp (decide_eq_true h1) | exact ok_cmp (decide_eq_true h2))
        · exact ⟨rfl, con_liNext it kl kv kc 0 _ hv⟩
        · exact ⟨rfl, con_item ao ov oc jj tj _ (by omega) (by omega) (by simpa using hx)⟩
        · exact ⟨rfl, con_append acc [] 0 _ (by simp)⟩
        · exact ⟨rfl, hcon _ _ (by show N + 0 ≤ 760; omega)⟩
      · obtain ⟨av2, ac2, kf, tkf, m2, i2, hlen, hcon⟩ := dlT (w := w) hf hx F C cm cj co ao oc it kl kc acc tj tm mo (t + 0) h8 k' 1 [] 0 (f 0) tv (by omega) (by simp) (b + 0) (t + 1)
        refine ⟨av2, ac2, t + 0, kf, tkf, 0 + m2, 1 + i2, by rw [hlen, e1, if_neg (fun h => h2 h.2)]; simp, fun N U hN => ?_⟩
        refine conDC0TF (w := w) (N := N) (U := U) (by omega) b t (mkZ lx0 [F, C, cm, cj, co, ao, oc, it, kl, kc, acc, 0, ac2, tj, tm, tx, tv, 0, 0, tkf, m2, i2] [] [] [jj, mo, xx, f 0, 0, kf, (0 : Nat), (k' + 1 : Nat)] [ov, kv, [], av2]) (ctOk_cons ?_ (ctOk_cons ?_ (ctOk_cons ?_ ctOk_nil))) (fun y hy => by simp only [List.mem_cons, List.not_mem_nil, or_false] at hy; rcases hy with rfl | rfl <;> first | exact ok_cmp (decide_eq_true h1) | exact ok_cmp (decide_eq_false h2))
        · exact ⟨rfl, con_liNext it kl kv kc 0 _ hv⟩
        · exact ⟨rfl, con_item ao ov oc jj tj _ (by omega) (by omega) (by simpa using hx)⟩
        · exact ⟨rfl, hcon _ _ (by show N + 0 ≤ 760; omega)⟩
    · obtain ⟨av2, ac2, kf, tkf, m2, i2, hlen, hcon⟩ := dlT (w := w) hf hx F C cm cj co ao oc it kl kc acc tj tm mo (t + 0) h8 k' 1 [] 0 (f 0) tv (by omega) (by simp) (b + 0) (t + 1)
      refine ⟨av2, ac2, t + 0, kf, tkf, 0 + m2, 1 + i2, by rw [hlen, e1, if_neg (fun h => h1 h.1)]; simp, fun N U hN => ?_⟩
      refine conDC0F (w := w) (N := N) (U := U) (by omega) b t (mkZ lx0 [F, C, cm, cj, co, ao, oc, it, kl, kc, acc, 0, ac2, tj, tm, tx, tv, 0, 0, tkf, m2, i2] [] [] [jj, mo, xx, f 0, 0, kf, (0 : Nat), (k' + 1 : Nat)] [ov, kv, [], av2]) (ctOk_cons ?_ (ctOk_cons ?_ (ctOk_cons ?_ ctOk_nil))) (fun y hy => by obtain rfl := List.mem_singleton.mp hy; exact ok_cmp (decide_eq_false h1))
      · exact ⟨rfl, con_liNext it kl kv kc 0 _ hv⟩
      · exact ⟨rfl, con_item ao ov oc jj tj _ (by omega) (by omega) (by simpa using hx)⟩
      · exact ⟨rfl, hcon _ _ (by show N + 0 ≤ 760; omega)⟩
  obtain ⟨av2, ac2, kk, kf, tkf, m, ii, hlen, hcon⟩ := loop
  refine ⟨av2, ac2, kk, kf, tkf, 0 + m, 0 + ii, hlen, fun N U hN => ?_⟩
  cases hrow : w.params.followText row2 with
  | false =>
    refine conDS0 (w := w) (N := N) (U := U) (by omega) b t (mkZ lx0 [F, C, cm, cj, co, ao, oc, it, kl, kc, acc, 0, ac2, tj, tm, tx, 0, kk, 0, tkf, m, ii] [] [] [jj, mo, xx, 0, 0, kf, 0, (k' + 1 : Nat)] [ov, kv, [], av2]) hrow (ctOk_cons ?_ ctOk_nil)
    exact ⟨rfl, hcon _ _ (by show N + 0 ≤ 760; omega)⟩
  | true =>
    refine conDS1 (w := w) (N := N) (U := U) (by omega) b t (mkZ lx0 [F, C, cm, cj, co, ao, oc, it, kl, kc, acc, 0, ac2, tj, tm, tx, 0, kk, 0, tkf, m, ii] [] [] [jj, mo, xx, 0, 0, kf, 0, (k' + 1 : Nat)] [ov, kv, [], av2]) hrow (ctOk_cons ?_ ctOk_nil)
    exact ⟨rfl, hcon _ _ (by show N + 0 ≤ 760; omega)⟩
/-- over an empty one -/
theorem dsE {kv ov : List Value} (hk : kv.length = 0) (F C cm cj co ao oc it kl kc acc tj tm jj : Nat) (mo : Int) (b t : Nat) :
    ∀ N U, N ≤ 760 → Con w w.params N U (dsC it acc F C cm cj co) (kD it kl cj co ao cm acc C (liIt kl 0) kv kc jj tj ov oc mo tm [] 0 (dO [] 0)) (kD it kl cj co ao cm acc C (liItE 0) kv kc jj tj ov oc mo tm [] 0 (dO [] 0)) b t (0 + 2) (0 + 0) (.ok .next) := by
  intro N U hN
  have loop : ∀ N U, N ≤ 760 → Con w w.params N U (dlC it acc F C cm cj co) (kD it kl cj co ao cm acc C (liIt kl 0) kv kc jj tj ov oc mo tm [] 0 (dO [] 0)) (kD it kl cj co ao cm acc C (liItE 0) kv kc jj tj ov oc mo tm [] 0 (dO [] 0)) b t 2 0 (.ok .next) := by
    intro N U hN
    have := conDCE (w := w) (N := N) (U := U) (by omega) b t (mkZ lx0 [F, C, cm, cj, co, ao, oc, it, kl, kc, acc] [] [] [0, 0, 0, 0, 0, 0, 0] [ov, kv]) (fun y hy => by
      simp only [ctDCE, List.mem_cons, List.not_mem_nil, or_false] at hy
      subst hy
      exact ⟨rfl, con_liEnd it kl kv kc 0 hk⟩)
    exact ConF.wide (D₁ := [(kl, liObj kv kc), (it, liItE 0)]) (Dn := []) [false, false, false, false, true, true, false, false] this rfl rfl
  cases hrow : w.params.followText row2 with
  | false =>
    refine conDSE0 (w := w) (N := N) (U := U) (by omega) b t (mkZ lx0 [F, C, cm, cj, co, ao, oc, it, kl, kc, acc, 0, 0, tj, tm, 0, 0, 0, 0, 0, 2, 0] [] [] [jj, mo, 0, 0, 0, 0, 0, 0] [ov, kv, [], []]) hrow (ctOk_cons ?_ ctOk_nil)
    exact ⟨rfl, loop _ _ (by show N + 0 ≤ 760; omega)⟩
  | true =>
    refine conDSE1 (w := w) (N := N) (U := U) (by omega) b t (mkZ lx0 [F, C, cm, cj, co, ao, oc, it, kl, kc, acc, 0, 0, tj, tm, 0, 0, 0, 0, 0, 2, 0] [] [] [jj, mo, 0, 0, 0, 0, 0, 0] [ov, kv, [], []]) hrow (ctOk_cons ?_ ctOk_nil)
    exact ⟨rfl, loop _ _ (by show N + 0 ≤ 760; omega)⟩
end
theorem IntsF.take {f : Nat → Int} {n : Nat} {ov : List Value} (h : IntsF f n ov) {c : Nat} (hc : c ≤ n) : IntsF f c (ov.take c) :=
  ⟨by rw [List.length_take, h.1]; omega, fun i hi => by obtain ⟨k, e⟩ := h.2 i (by omega); exact ⟨k, by rw [List.getElem?_take_of_lt hi]; exact e⟩⟩
theorem IntsF.drop {f : Nat → Int} {n : Nat} {ov : List Value} (h : IntsF f n ov) {c : Nat} (hc : c ≤ n) : IntsF (fun i => f (c + i)) (n - c) (ov.drop c) :=
  ⟨by rw [List.length_drop, h.1], fun i hi => by obtain ⟨k, e⟩ := h.2 (c + i) (by omega); exact ⟨k, by rw [List.getElem?_drop]; exact e⟩⟩
/-- is place j the due one? -/
def dueJ (f : Nat → Int) (n j : Nat) : Nat := cntK (fun i => f (j + 1 + i)) (f j) (bestF f (j - 1)) 0 (n - (j + 1))
def dueR (f : Nat → Int) (n : Nat) : Nat → Nat → Option Nat
  | 0, _ => none
  | r + 1, c => if dueJ f n c = 0 then dueR f n r (c + 1) else some c
def flo (o : Option Nat) (tk : Nat) : Flow := match o with
  | some j => .ret (.int j tk)
  | none => .next
theorem dfU (it F cm cj co : Addr) : (dfC it F cm cj co).cUnits = 0 := by
  have e1 : (dfC it F cm cj co).cUnits = 3 * Code.frames (dfC it F cm cj co) := by with_unfolding_all rfl
  have e2 : Code.frames (dfC it F cm cj co) = 0 := by with_unfolding_all rfl
  rw [e1, e2]
section
variable {w : World}
theorem sl_upto (ov : List Value) (c : Nat) (hc : c ≤ ov.length) : slicePick ov.toArray none (some (c : Int)) none = (ov.take c).toArray := by
  rw [slicePick_upto ov.toArray c (by simpa using hc)]
theorem sl_from (ov : List Value) (c : Nat) (hc : c + 1 ≤ ov.length) : slicePick ov.toArray (some ((c : Int) + 1)) none none = (ov.drop (c + 1)).toArray := by
  rw [show ((c : Int) + 1) = ((c + 1 : Nat) : Int) from by omega, slicePick_from ov.toArray (c + 1) (by simpa using hc)]
theorem dfT {f : Nat → Int} {n : Nat} (h8 : n ≤ 8) {ov : List Value} (hf : IntsF f n ov) (F cm cj co ao oc it : Nat) : ∀ (r c : Nat) (rr : Int) (j0 : Int) (tj0 : Nat) (mo0 : Int) (tm0 : Nat), n = c + r → 1 ≤ c → rr = r → ∀ b t : Nat,
    ∃ (tk : Nat) (cf rf jf : Int) (tjf : Nat) (mof : Int) (tmf m ii : Nat), (∀ j : Nat, dueR f n r c = some j → jf = j ∧ tjf = tk) ∧ ∀ N U, N ≤ 720 → U < cLine → Con w w.params N U (dfC it F cm cj co) (fD it cj co ao cm c rr (cellO (.int j0 tj0)) ov oc (cellO (.int mo0 tm0))) (fD it cj co ao cm cf rf (cellO (.int jf tjf)) ov oc (cellO (.int mof tmf))) b t m ii (.ok (flo (dueR f n r c) tk)) := by
  intro r
  induction r with
  | zero =>
    intro c rr j0 tj0 mo0 tm0 hn hc hrr b t
    subst hrr
    refine ⟨0, c, 0, j0, tj0, mo0, tm0, 2, 0, fun j h => by simp [dueR] at h, fun N U hN hU => ?_⟩
    have := conDFE (w := w) (N := N) (U := U) (by omega) b t (mkZ lx0 [F, cm, cj, co, ao, oc, it] [] [] [c] [])
    exact ConF.wide (D₁ := [(it, rIt c 0)]) (Dn := []) [false, false, false, false, true] this rfl rfl
  | succ r ih =>
    intro c rr j0 tj0 mo0 tm0 hn hc hrr b t
    have er : dueR f n (r + 1) c = if dueJ f n c = 0 then dueR f n r (c + 1) else some c := rfl
    by_cases hr : r = 0
    · subst hr
      obtain ⟨tb, hmax⟩ := maxT (w := w) (hf.take (c := c) (by omega)) (by omega) (b + 1) 0
      obtain ⟨tx, hx⟩ := hf.2 c (by omega)
      have hl := hf.1
      have hkv : (ov.drop (c + 1)).length = 0 := by rw [List.length_drop]; omega
      have hd : dueJ f n c = 0 := by unfold dueJ; rw [show n - (c + 1) = 0 from by omega]; rfl
      rw [er, if_pos hd]
      have hds := dsE (w := w) (ov := ov) hkv F (b + 10) cm cj co ao oc (b + 8) (b + 7) 0 (b + 9) (t + 0) tb c (bestF f (c - 1)) (b + (2 + 4 + 5)) (t + (1 + 0 + 2))
      obtain ⟨tk, cf, rf, jf, tjf, mof, tmf, m3, i3, hjf, hcon⟩ := ih (c + 1) (rr - 1) c (t + 0) (bestF f (c - 1)) tb (by omega) (by omega) (by omega) (b + (2 + 4 + 5 + (0 + 2) + 1)) (t + (1 + 0 + 2 + (0 + 0)))
      refine ⟨tk, cf, rf, jf, tjf, mof, tmf, 2 + 4 + 5 + (0 + 2) + 1 + m3, 1 + 0 + 2 + (0 + 0) + i3, hjf, fun N U hN hU => ?_⟩
      have hc1 := hcon N U (by omega) (by omega)
      cases ho : dueR f n 0 (c + 1) with
      | none =>
        rw [ho] at hc1
        refine conDF1EN (w := w) (N := N) (U := U) (by omega) b t (mkZ lx0 [F, cm, cj, co, ao, oc, it, 0, tb, 0, 0, (0 + 2), (0 + 0), m3, i3, tj0, tm0, tjf, tmf] [] [] [(c : Nat), rr, cf, rf, bestF f (c - 1), jf, mo0, mof, j0, 0, 0] [ov, ov.take c, ov.drop (c + 1), []]) (ctOk_cons ?_ (ctOk_cons ?_ (ctOk_cons ?_ (ctOk_cons ?_ (ctOk_cons ?_ (ctOk_cons ?_ (ctOk_cons ?_ ctOk_nil))))))) (by rw [dfU]; omega)
        · exact ⟨rfl, con_rangeNext it (c : Nat) rr (by omega)⟩
        · exact ⟨rfl, con_slice ao (b + 0) ov oc .none (.int (c : Nat) (t + 0)) .none (.int _ _) (by omega) (ov.take c) (sl_upto ov c (by omega))⟩
        · exact ⟨rfl, hmax _ _ _ _ (by show N + 20 ≤ 760; omega)⟩
        · exact ⟨rfl, con_slice ao (b + 6) ov oc (.int ((c : Nat) + 1) (t + 2)) .none (.int _ _) .none (by omega) (ov.drop (c + 1)) (sl_from ov c (by omega))⟩
        · exact ⟨rfl, hds _ _ (by show N + 20 ≤ 760; omega)⟩
        · exact ⟨rfl, conNEE (w := w) (N := N + 20) (U := U + 200) (by omega) _ _ (mkZ lx0 [0, 0, b + 9, b + (2 + 4 + 5 + (0 + 2)), 0, 0] [] [] [] [])⟩
        · exact ⟨rfl, hc1⟩
      | some j =>
        rw [ho] at hc1
        obtain ⟨rfl, rfl⟩ := hjf j ho
        refine conDF1ER (w := w) (N := N) (U := U) (by omega) b t (mkZ lx0 [F, cm, cj, co, ao, oc, it, 0, tb, 0, 0, (0 + 2), (0 + 0), m3, i3, tj0, tm0, tjf, tmf] [] [] [(c : Nat), rr, cf, rf, bestF f (c - 1), (j : Int), mo0, mof, j0, 0, 0] [ov, ov.take c, ov.drop (c + 1), []]) (ctOk_cons ?_ (ctOk_cons ?_ (ctOk_cons ?_ (ctOk_cons ?_ (ctOk_cons ?_ (ctOk_cons ?_ (ctOk_cons ?_ ctOk_nil))))))) (by rw [dfU]; omega)
        · exact ⟨rfl, con_rangeNext it (c : Nat) rr (by omega)⟩
        · exact ⟨rfl, con_slice ao (b + 0) ov oc .none (.int (c : Nat) (t + 0)) .none (.int _ _) (by omega) (ov.take c) (sl_upto ov c (by omega))⟩
        · exact ⟨rfl, hmax _ _ _ _ (by show N + 20 ≤ 760; omega)⟩
        · exact ⟨rfl, con_slice ao (b + 6) ov oc (.int ((c : Nat) + 1) (t + 2)) .none (.int _ _) .none (by omega) (ov.drop (c + 1)) (sl_from ov c (by omega))⟩
        · exact ⟨rfl, hds _ _ (by show N + 20 ≤ 760; omega)⟩
        · exact ⟨rfl, conNEE (w := w) (N := N + 20) (U := U + 200) (by omega) _ _ (mkZ lx0 [0, 0, b + 9, b + (2 + 4 + 5 + (0 + 2)), 0, 0] [] [] [] [])⟩
        · exact ⟨rfl, hc1⟩
    · obtain ⟨tb, hmax⟩ := maxT (w := w) (hf.take (c := c) (by omega)) (by omega) (b + 1) 0
      obtain ⟨tx, hx⟩ := hf.2 c (by omega)
      have hl := hf.1
      have hk : n - (c + 1) = n - (c + 1) - 1 + 1 := by omega
      have hdr := hf.drop (c := c + 1) (by omega)
      rw [hk] at hdr
      obtain ⟨av2, ac2, kk, kf, tkf, m2, i2, hcnt, hds⟩ := dsT (w := w) hdr (jj := c) hx F (b + 10) cm cj co ao oc (b + 8) (b + 7) 0 (b + 9) (t + 0) tb (bestF f (c - 1)) (by omega) (b + (2 + 4 + 5)) (t + (1 + 0 + 2))
      rw [← hk] at hcnt
      by_cases hd : dueJ f n c = 0
      · rw [er, if_pos hd]
        obtain ⟨tk, cf, rf, jf, tjf, mof, tmf, m3, i3, hjf, hcon⟩ := ih (c + 1) (rr - 1) c (t + 0) (bestF f (c - 1)) tb (by omega) (by omega) (by omega) (b + (2 + 4 + 5 + m2 + 1)) (t + (1 + 0 + 2 + i2))
        refine ⟨tk, cf, rf, jf, tjf, mof, tmf, 2 + 4 + 5 + m2 + 1 + m3, 1 + 0 + 2 + i2 + i3, hjf, fun N U hN hU => ?_⟩
        have hc1 := hcon N U (by omega) (by omega)
        cases ho : dueR f n r (c + 1) with
        | none =>
          rw [ho] at hc1
          refine conDF1FN (w := w) (N := N) (U := U) (by omega) b t (mkZ lx0 [F, cm, cj, co, ao, oc, it, ac2, tb, kk, tkf, m2, i2, m3, i3, tj0, tm0, tjf, tmf] [] [] [(c : Nat), rr, cf, rf, bestF f (c - 1), jf, mo0, mof, j0, kf, ((n - (c + 1) - 1 + 1 : Nat) : Int)] [ov, ov.take c, ov.drop (c + 1), av2]) (ctOk_cons ?_ (ctOk_cons ?_ (ctOk_cons ?_ (ctOk_cons ?_ (ctOk_cons ?_ (ctOk_cons ?_ (ctOk_cons ?_ ctOk_nil))))))) (by rw [dfU]; omega)
          · exact ⟨rfl, con_rangeNext it (c : Nat) rr (by omega)⟩
          · exact ⟨rfl, con_slice ao (b + 0) ov oc .none (.int (c : Nat) (t + 0)) .none (.int _ _) (by omega) (ov.take c) (sl_upto ov c (by omega))⟩
          · exact ⟨rfl, hmax _ _ _ _ (by show N + 20 ≤ 760; omega)⟩
          · exact ⟨rfl, con_slice ao (b + 6) ov oc (.int ((c : Nat) + 1) (t + 2)) .none (.int _ _) .none (by omega) (ov.drop (c + 1)) (sl_from ov c (by omega))⟩
          · exact ⟨rfl, hds _ _ (by show N + 20 ≤ 760; omega)⟩
          · exact ⟨rfl, by have e : av2 = [] := List.eq_nil_of_length_eq_zero (by rw [hcnt]; exact hd); rw [e]; exact conNEE (w := w) (N := N + 20) (U := U + 200) (by omega) _ _ (mkZ lx0 [0, 0, b + 9, b + (2 + 4 + 5 + m2), ac2, 0] [] [] [] [])⟩
          · exact ⟨rfl, hc1⟩
        | some j =>
          rw [ho] at hc1
          obtain ⟨rfl, rfl⟩ := hjf j ho
          refine conDF1FR (w := w) (N := N) (U := U) (by omega) b t (mkZ lx0 [F, cm, cj, co, ao, oc, it, ac2, tb, kk, tkf, m2, i2, m3, i3, tj0, tm0, tjf, tmf] [] [] [(c : Nat), rr, cf, rf, bestF f (c - 1), (j : Int), mo0, mof, j0, kf, ((n - (c + 1) - 1 + 1 : Nat) : Int)] [ov, ov.take c, ov.drop (c + 1), av2]) (ctOk_cons ?_ (ctOk_cons ?_ (ctOk_cons ?_ (ctOk_cons ?_ (ctOk_cons ?_ (ctOk_cons ?_ (ctOk_cons ?_ ctOk_nil))))))) (by rw [dfU]; omega)
          · exact ⟨rfl, con_rangeNext it (c : Nat) rr (by omega)⟩
          · exact ⟨rfl, con_slice ao (b + 0) ov oc .none (.int (c : Nat) (t + 0)) .none (.int _ _) (by omega) (ov.take c) (sl_upto ov c (by omega))⟩
          · exact ⟨rfl, hmax _ _ _ _ (by show N + 20 ≤ 760; omega)⟩
          · exact ⟨rfl, con_slice ao (b + 6) ov oc (.int ((c : Nat) + 1) (t + 2)) .none (.int _ _) .none (by omega) (ov.drop (c + 1)) (sl_from ov c (by omega))⟩
          · exact ⟨rfl, hds _ _ (by show N + 20 ≤ 760; omega)⟩
          · exact ⟨rfl, by have e : av2 = [] := List.eq_nil_of_length_eq_zero (by rw [hcnt]; exact hd); rw [e]; exact conNEE (w := w) (N := N + 20) (U := U + 200) (by omega) _ _ (mkZ lx0 [0, 0, b + 9, b + (2 + 4 + 5 + m2), ac2, 0] [] [] [] [])⟩
          · exact ⟨rfl, hc1⟩
      · rw [er, if_neg hd]
        refine ⟨t + 0, (c : Int) + 1, rr - 1, c, t + 0, bestF f (c - 1), tb, 2 + 4 + 5 + m2 + 1, 1 + 0 + 2 + i2, fun j h => by cases h; exact ⟨rfl, rfl⟩, fun N U hN hU => ?_⟩
        refine conDF1T (w := w) (N := N) (U := U) (by omega) b t (mkZ lx0 [F, cm, cj, co, ao, oc, it, ac2, tb, kk, tkf, m2, i2, 0, 0, tj0, tm0, 0, 0] [] [] [(c : Nat), rr, 0, 0, bestF f (c - 1), 0, mo0, 0, j0, kf, ((n - (c + 1) - 1 + 1 : Nat) : Int)] [ov, ov.take c, ov.drop (c + 1), av2]) (ctOk_cons ?_ (ctOk_cons ?_ (ctOk_cons ?_ (ctOk_cons ?_ (ctOk_cons ?_ (ctOk_cons ?_ ctOk_nil)))))) (by rw [dfU]; omega)
        · exact ⟨rfl, con_rangeNext it (c : Nat) rr (by omega)⟩
        · exact ⟨rfl, con_slice ao (b + 0) ov oc .none (.int (c : Nat) (t + 0)) .none (.int _ _) (by omega) (ov.take c) (sl_upto ov c (by omega))⟩
        · exact ⟨rfl, hmax _ _ _ _ (by show N + 20 ≤ 760; omega)⟩
        · exact ⟨rfl, con_slice ao (b + 6) ov oc (.int ((c : Nat) + 1) (t + 2)) .none (.int _ _) .none (by omega) (ov.drop (c + 1)) (sl_from ov c (by omega))⟩
        · exact ⟨rfl, hds _ _ (by show N + 20 ≤ 760; omega)⟩
        · exact ⟨rfl, con_listNe (b + 9) _ av2 ac2 0 (by rw [hcnt]; exact hd)⟩
/-- the loop from its start -/
theorem dfT0 {f : Nat → Int} {n : Nat} (h8 : n ≤ 8) (h3 : 3 ≤ n) (h01 : f 0 < f 1) {ov : List Value} (hf : IntsF f n ov) (F cm cj co ao oc it : Nat) (b t : Nat) :
    ∃ (tk : Nat) (cf rf jf : Int) (tjf : Nat) (mof : Int) (tmf m ii : Nat), (∀ j : Nat, dueR f n (n - 1) 1 = some j → jf = j ∧ tjf = tk) ∧ ∀ N U, N ≤ 720 → U < cLine → Con w w.params N U (dfC it F cm cj co) (fD it cj co ao cm 1 ((n : Int) - 1) cellE ov oc cellE) (fD it cj co ao cm cf rf (cellO (.int jf tjf)) ov oc (cellO (.int mof tmf))) b t m ii (.ok (flo (dueR f n (n - 1) 1) tk)) := by
  obtain ⟨r, rfl⟩ : ∃ r, n = r + 3 := ⟨n - 3, by omega⟩
  have er : dueR f (r + 3) (r + 3 - 1) 1 = if dueJ f (r + 3) 1 = 0 then dueR f (r + 3) (r + 1) (1 + 1) else some 1 := rfl
  have hd : dueJ f (r + 3) 1 = 0 := by
    unfold dueJ cntK
    rw [List.countP_eq_zero]
    intro i _
    show ¬ ((decide (f (1 + 1 + i) > f 1) && decide (f 0 > f (1 + 1 + i))) = true)
    simp only [Bool.and_eq_true, decide_eq_true_eq]
    omega
  rw [er, if_pos hd]
  obtain ⟨tb, hmax⟩ := maxT (w := w) (hf.take (c := 1) (by omega)) (by omega) (b + 1) 0
  obtain ⟨tx, hx⟩ := hf.2 1 (by omega)
  have hl := hf.1
  have hk : (r + 3) - (1 + 1) = (r + 3) - (1 + 1) - 1 + 1 := by omega
  have hdr := hf.drop (c := 1 + 1) (by omega)
  rw [hk] at hdr
  obtain ⟨av2, ac2, kk, kf, tkf, m2, i2, hcnt, hds⟩ := dsT (w := w) hdr (jj := 1) hx F (b + 10) cm cj co ao oc (b + 8) (b + 7) 0 (b + 9) (t + 0) tb (bestF f (1 - 1)) (by omega) (b + (2 + 4 + 5)) (t + (1 + 0 + 2))
  rw [← hk] at hcnt
  obtain ⟨tk, cf, rf, jf, tjf, mof, tmf, m3, i3, hjf, hcon⟩ := dfT (w := w) h8 hf F cm cj co ao oc it (r + 1) (1 + 1) (((r + 3 : Nat) : Int) - 1 - 1) 1 (t + 0) (bestF f (1 - 1)) tb (by omega) (by omega) (by omega) (b + (2 + 4 + 5 + m2 + 1)) (t + (1 + 0 + 2 + i2))
  refine ⟨tk, cf, rf, jf, tjf, mof, tmf, 2 + 4 + 5 + m2 + 1 + m3, 1 + 0 + 2 + i2 + i3, hjf, fun N U hN hU => ?_⟩
  have hc1 := hcon N U (by omega) (by omega)
  cases ho : dueR f (r + 3) (r + 1) (1 + 1) with
  | none =>
    rw [ho] at hc1
    refine conDF0FN (w := w) (N := N) (U := U) (by omega) b t (mkZ lx0 [F, cm, cj, co, ao, oc, it, ac2, tb, kk, tkf, m2, i2, m3, i3, 0, 0, tjf, tmf] [] [] [(1 : Nat), (((r + 3 : Nat) : Int) - 1), cf, rf, bestF f (1 - 1), jf, 0, mof, 0, kf, ((r + 3 - (1 + 1) - 1 + 1 : Nat) : Int)] [ov, ov.take 1, ov.drop (1 + 1), av2]) (ctOk_cons ?_ (ctOk_cons ?_ (ctOk_cons ?_ (ctOk_cons ?_ (ctOk_cons ?_ (ctOk_cons ?_ (ctOk_cons ?_ ctOk_nil))))))) (by rw [dfU]; omega)
    · exact ⟨rfl, con_rangeNext it (1 : Nat) ((r + 3 : Nat) - 1) (by omega)⟩
    · exact ⟨rfl, con_slice ao (b + 0) ov oc .none (.int (1 : Nat) (t + 0)) .none (.int _ _) (by omega) (ov.take 1) (sl_upto ov 1 (by omega))⟩
    · exact ⟨rfl, hmax _ _ _ _ (by show N + 20 ≤ 760; omega)⟩
    · exact ⟨rfl, con_slice ao (b + 6) ov oc (.int ((1 : Nat) + 1) (t + 2)) .none (.int _ _) .none (by omega) (ov.drop (1 + 1)) (sl_from ov 1 (by omega))⟩
    · exact ⟨rfl, hds _ _ (by show N + 20 ≤ 760; omega)⟩
    · exact ⟨rfl, by have e : av2 = [] := List.eq_nil_of_length_eq_zero (by rw [hcnt]; exact hd); rw [e]; exact conNEE (w := w) (N := N + 20) (U := U + 200) (by omega) _ _ (mkZ lx0 [0, 0, b + 9, b + (2 + 4 + 5 + m2), ac2, 0] [] [] [] [])⟩
    · exact ⟨rfl, hc1⟩
  | some j =>
    rw [ho] at hc1
    obtain ⟨rfl, rfl⟩ := hjf j ho
    refine conDF0FR (w := w) (N := N) (U := U) (by omega) b t (mkZ lx0 [F, cm, cj, co, ao, oc, it, ac2, tb, kk, tkf, m2, i2, m3, i3, 0, 0, tjf, tmf] [] [] [(1 : Nat), (((r + 3 : Nat) : Int) - 1), cf, rf, bestF f (1 - 1), (j : Int), 0, mof, 0, kf, ((r + 3 - (1 + 1) - 1 + 1 : Nat) : Int)] [ov, ov.take 1, ov.drop (1 + 1), av2]) (ctOk_cons ?_ (ctOk_cons ?_ (ctOk_cons ?_ (ctOk_cons ?_ (ctOk_cons ?_ (ctOk_cons ?_ (ctOk_cons ?_ ctOk_nil))))))) (by rw [dfU]; omega)
    · exact ⟨rfl, con_rangeNext it (1 : Nat) ((r + 3 : Nat) - 1) (by omega)⟩
    · exact ⟨rfl, con_slice ao (b + 0) ov oc .none (.int (1 : Nat) (t + 0)) .none (.int _ _) (by omega) (ov.take 1) (sl_upto ov 1 (by omega))⟩
    · exact ⟨rfl, hmax _ _ _ _ (by show N + 20 ≤ 760; omega)⟩
    · exact ⟨rfl, con_slice ao (b + 6) ov oc (.int ((1 : Nat) + 1) (t + 2)) .none (.int _ _) .none (by omega) (ov.drop (1 + 1)) (sl_from ov 1 (by omega))⟩
    · exact ⟨rfl, hds _ _ (by show N + 20 ≤ 760; omega)⟩
    · exact ⟨rfl, by have e : av2 = [] := List.eq_nil_of_length_eq_zero (by rw [hcnt]; exact hd); rw [e]; exact conNEE (w := w) (N := N + 20) (U := U + 200) (by omega) _ _ (mkZ lx0 [0, 0, b + 9, b + (2 + 4 + 5 + m2), ac2, 0] [] [] [] [])⟩
    · exact ⟨rfl, hc1⟩
/-- the call -/
def dueV (f : Nat → Int) (n : Nat) : Nat := (dueR f n (n - 1) 1).getD n
theorem dueT {f : Nat → Int} {n : Nat} (h8 : n ≤ 8) (h3 : 3 ≤ n) (h01 : f 0 < f 1) {ov : List Value} (hf : IntsF f n ov) (ao oc : Nat) (b t : Nat) :
    ∃ tk m ii, ∀ N U, N ≤ 700 → U + 200 < cLine → Con w w.params N U (.call (.ref 763) ⟨[.ref ao], []⟩) [(ao, liObj ov oc)] [(ao, liObj ov oc)] b t m ii (.ok (.ret (.int (dueV f n) tk))) := by
  obtain ⟨tk, cf, rf, jf, tjf, mof, tmf, m3, i3, hjf, hcon⟩ := dfT0 (w := w) h8 h3 h01 hf (b + 0) (b + 3) (b + 2) (b + 1) ao oc (b + 5) (b + 6) (t + 4)
  have rg : ∀ N U, Con w w.params N U (.call (.builtin "range.__iter__") ⟨[.ref (b + 4)], []⟩) [(b + 4, rgObj 1 n 1 (t + 0) (t + (1 + 1)) (t + 3))] ([(b + 4, rgObj 1 n 1 (t + 0) (t + (1 + 1)) (t + 3))] ++ [(b + 5, rIt 1 ((n : Int) - 1))]) (b + 5) (t + 4) 1 0 (.ok (.ret (.ref (b + 5)))) := fun N U => con_rangeIter (b + 4) 1 n (t + 0) (t + (1 + 1)) (t + 3) (by omega) (by omega) (by omega)
  cases ho : dueR f n (n - 1) 1 with
  | some j =>
    obtain ⟨rfl, rfl⟩ := hjf j ho
    have ev : dueV f n = j := by unfold dueV; rw [ho]; rfl
    rw [ho] at hcon
    refine ⟨tjf, 6 + m3, 4 + i3, fun N U hN hU => ?_⟩
    rw [ev]
    refine conDUE (w := w) (N := N) (U := U) (by omega) b t (mkZ lx0 [ao, oc, tjf, tmf, m3, i3] [] [] [n, j, mof, cf, rf] [ov]) (ctOk_cons ?_ (ctOk_cons ?_ (ctOk_cons ?_ ctOk_nil)))
    · refine ⟨rfl, ?_⟩
      have := conI_len (w := w) (P := w.params) (N := N + 20) (U := U + 200) (b := b + 4) (t := t + 1) ao ov oc (by rw [hf.1]; omega)
      rw [hf.1] at this
      exact this
    · exact ⟨rfl, rg _ _⟩
    · exact ⟨rfl, hcon _ _ (by show N + 20 ≤ 720; omega) (by show U + 200 < cLine; omega)⟩
  | none =>
    have ev : dueV f n = n := by unfold dueV; rw [ho]; rfl
    rw [ho] at hcon
    refine ⟨t + (4 + i3) + 1, 6 + m3, 4 + i3 + 2, fun N U hN hU => ?_⟩
    rw [ev]
    refine conDUN (w := w) (N := N) (U := U) (by omega) b t (mkZ lx0 [ao, oc, tjf, tmf, m3, i3] [] [] [n, jf, mof, cf, rf] [ov]) (fun y hy => ?_)
    simp only [ctDUN, List.mem_cons, List.not_mem_nil, or_false] at hy
    have ln : ∀ N U b t, ConI none [] w w.params N U (.call (.builtin "len") ⟨[.ref ao], []⟩) [(ao, liObj ov oc)] [(ao, liObj ov oc)] b t 0 2 (.ok (.ret (.int n (t + 1)))) := fun N U b t => by
      have := conI_len (w := w) (P := w.params) (N := N) (U := U) (b := b) (t := t) ao ov oc (by rw [hf.1]; omega)
      rw [hf.1] at this
      exact this
    rcases hy with rfl | rfl | rfl | rfl
    · exact ⟨rfl, ln _ _ _ _⟩
    · exact ⟨rfl, rg _ _⟩
    · exact ⟨rfl, hcon _ _ (by show N + 20 ≤ 720; omega) (by show U + 200 < cLine; omega)⟩
    · exact ⟨rfl, ln _ _ _ _⟩
end
/-! ## The lexer's turns, by the model of its words -/
structure LS where
  st : Value
  tk : Value
  pos : Value
  e : Int
  its : List Value
inductive ItsOf : List Nat → List Value → Prop
  | nil : ItsOf [] []
  | cons (i tok : Nat) {S : List Nat} {l : List Value} (h : ItsOf S l) : ItsOf (i :: S) (.str (wd i) tok :: l)
theorem ItsOf.len : ∀ {S : List Nat} {l : List Value}, ItsOf S l → l.length = S.length
  | _, _, .nil => rfl
  | _, _, .cons _ _ h => by simp [h.len]
/-- k of n words are read, those of S are pushed back -/
structure LS.is (q : LS) (n k : Nat) (S : List Nat) : Prop where
  at_ : At n k q.st q.tk q.pos
  its : ItsOf S q.its
  lt : ∀ i ∈ S, i < n
noncomputable abbrev d6 (P : Params) (x : Lx) (q : LS) (n : Nat) : Dy := lex6 P x q.st q.tk q.e q.its (txt n) q.pos
noncomputable abbrev d5 (P : Params) (x : Lx) (q : LS) (n : Nat) : Dy := lexD P x q.st q.tk q.e q.its (txt n) q.pos
def getM (n k : Nat) : List Nat → Option Nat × Nat × List Nat
  | i :: S => (some i, k, S)
  | [] => if k < n then (some k, k + 1, []) else (none, k, [])
def TokV (o : Option Nat) (r : Value) : Prop := match o with
  | some i => ∃ tok, r = .str (wd i) tok
  | none => r = .none
section
variable {w : World}
theorem pushC (x : Lx) (st tk pos : Value) (e : Int) (tx s : Str) (ts b t : Nat) : ∀ (its : List Value), its.length ≤ 7 → ∀ N U, N ≤ 780 →
    Con w w.params N U (.call (.ref 671) ⟨[.ref x.L, .str s ts], []⟩) (lexD w.params x st tk e its tx pos) (lexD w.params x st tk (e + 1) (.str s ts :: its) tx pos) b t 1 5 (.ok (.ret .none))
  | [], _, N, U, hN => conPush0 (by omega) b t (mkZ x [ts] [st, tk, pos] [tx, s] [e] []) (obs_ok (by kernel_rfl))
  | [v0], _, N, U, hN => conPush1 (by omega) b t (mkZ x [ts] [st, tk, pos, v0] [tx, s] [e] []) (obs_ok (by kernel_rfl))
  | [v0, v1], _, N, U, hN => conPush2 (by omega) b t (mkZ x [ts] [st, tk, pos, v0, v1] [tx, s] [e] []) (obs_ok (by kernel_rfl))
  | [v0, v1, v2], _, N, U, hN => conPush3 (by omega) b t (mkZ x [ts] [st, tk, pos, v0, v1, v2] [tx, s] [e] []) (obs_ok (by kernel_rfl))
  | [v0, v1, v2, v3], _, N, U, hN => conPush4 (by omega) b t (mkZ x [ts] [st, tk, pos, v0, v1, v2, v3] [tx, s] [e] []) (obs_ok (by kernel_rfl))
  | [v0, v1, v2, v3, v4], _, N, U, hN => conPush5 (by omega) b t (mkZ x [ts] [st, tk, pos, v0, v1, v2, v3, v4] [tx, s] [e] []) (obs_ok (by kernel_rfl))
  | [v0, v1, v2, v3, v4, v5], _, N, U, hN => conPush6 (by omega) b t (mkZ x [ts] [st, tk, pos, v0, v1, v2, v3, v4, v5] [tx, s] [e] []) (obs_ok (by kernel_rfl))
  | [v0, v1, v2, v3, v4, v5, v6], _, N, U, hN => conPush7 (by omega) b t (mkZ x [ts] [st, tk, pos, v0, v1, v2, v3, v4, v5, v6] [tx, s] [e] []) (obs_ok (by kernel_rfl))
  | _ :: _ :: _ :: _ :: _ :: _ :: _ :: _ :: _, h, _, _, _ => absurd h (by simp)
theorem popC (x : Lx) (st tk pos : Value) (e : Int) (tx s : Str) (ts b t : Nat) : ∀ (its : List Value), its.length ≤ 7 → ∀ N U, N ≤ 780 →
    Con w w.params N U (.call (.ref 693) ⟨[.ref x.L], []⟩) (lexD w.params x st tk e (.str s ts :: its) tx pos) (lexD w.params x st tk (e + 1) its tx pos) b t 1 8 (.ok (.ret (.str s ts)))
  | [], _, N, U, hN => conPop0 (by omega) b t (mkZ x [ts] [st, tk, pos] [tx, s] [e] []) (obs_ok (by kernel_rfl))
  | [v0], _, N, U, hN => conPop1 (by omega) b t (mkZ x [ts] [st, tk, pos, v0] [tx, s] [e] []) (obs_ok (by kernel_rfl))
  | [v0, v1], _, N, U, hN => conPop2 (by omega) b t (mkZ x [ts] [st, tk, pos, v0, v1] [tx, s] [e] []) (obs_ok (by kernel_rfl))
  | [v0, v1, v2], _, N, U, hN => conPop3 (by omega) b t (mkZ x [ts] [st, tk, pos, v0, v1, v2] [tx, s] [e] []) (obs_ok (by kernel_rfl))
  | [v0, v1, v2, v3], _, N, U, hN => conPop4 (by omega) b t (mkZ x [ts] [st, tk, pos, v0, v1, v2, v3] [tx, s] [e] []) (obs_ok (by kernel_rfl))
  | [v0, v1, v2, v3, v4], _, N, U, hN => conPop5 (by omega) b t (mkZ x [ts] [st, tk, pos, v0, v1, v2, v3, v4] [tx, s] [e] []) (obs_ok (by kernel_rfl))
  | [v0, v1, v2, v3, v4, v5], _, N, U, hN => conPop6 (by omega) b t (mkZ x [ts] [st, tk, pos, v0, v1, v2, v3, v4, v5] [tx, s] [e] []) (obs_ok (by kernel_rfl))
  | [v0, v1, v2, v3, v4, v5, v6], _, N, U, hN => conPop7 (by omega) b t (mkZ x [ts] [st, tk, pos, v0, v1, v2, v3, v4, v5, v6] [tx, s] [e] []) (obs_ok (by kernel_rfl))
  | _ :: _ :: _ :: _ :: _ :: _ :: _ :: _ :: _, h, _, _, _ => absurd h (by simp)
theorem getT {n k : Nat} (h3 : 3 ≤ n) (h8 : n ≤ 8) {q : LS} {S : List Nat} (hq : q.is n k S) (hS : S.length ≤ 8) (hk : k ≤ n) (x : Lx) (b t : Nat) :
    ∃ q1 m i r, LS.is q1 n (getM n k S).2.1 (getM n k S).2.2 ∧ TokV (getM n k S).1 r ∧ ∀ N U, N ≤ 740 → Con w w.params N U (.call (.ref 693) ⟨[.ref x.L], []⟩) (d6 w.params x q n) (d6 w.params x q1 n) b t m i (.ok (.ret r)) := by
  obtain ⟨st, tk, pos, e, its⟩ := q
  obtain ⟨ha, hi, hlt⟩ := hq
  cases hi with
  | cons i tok hi =>
    rename_i S l
    refine ⟨⟨st, tk, pos, e + 1, l⟩, 1, 8, _, ⟨ha, hi, fun i h => hlt i (List.mem_cons_of_mem _ h)⟩, ⟨tok, rfl⟩, fun N U hN => ?_⟩
    have hl : l.length ≤ 7 := by have := hi.len; simp at hS; omega
    exact ConF.wide (D₁ := lexD w.params x st tk (e + 1) l (txt n) pos) (Dn := []) m5 (popC x st tk pos e (txt n) (wd i) tok b t l hl N U (by omega)) rfl rfl
  | nil =>
    by_cases hkn : k < n
    · obtain ⟨st1, tk1, pos1, tok, m, i, ha1, hc⟩ := rdS (w := w) h3 h8 ha hkn x e [] (b + 1) (t + 4)
      have e1 : getM n k [] = (some k, k + 1, []) := by unfold getM; rw [if_pos hkn]
      rw [e1]
      refine ⟨⟨st1, tk1, pos1, e, []⟩, 1 + m, 4 + i + 5, _, ⟨ha1, .nil, fun _ h => by cases h⟩, ⟨tok, rfl⟩, fun N U hN => ?_⟩
      refine conGetS (w := w) (N := N) (U := U) (by omega) b t (mkZ x [m, i, tok] [st, tk, pos, st1, tk1, pos1] [txt n, wd k] [e] []) (ctOk_cons ?_ ctOk_nil) (obs_ok (by kernel_rfl))
      exact ⟨rfl, hc _ _ (by show N + 20 ≤ 780; omega)⟩
    · have e1 : getM n k [] = (none, k, []) := by unfold getM; rw [if_neg hkn]
      obtain rfl : k = n := by omega
      obtain ⟨st1, tk1, pos1, m, i, ha1, hc⟩ := rdN (w := w) h3 h8 ha x e [] (b + 1) (t + 4)
      rw [e1]
      refine ⟨⟨st1, tk1, pos1, e, []⟩, 1 + m, 4 + i + 7, _, ⟨ha1, .nil, fun _ h => by cases h⟩, rfl, fun N U hN => ?_⟩
      refine conGetN (w := w) (N := N) (U := U) (by omega) b t (mkZ x [m, i, 0] [st, tk, pos, st1, tk1, pos1] [txt k] [e] []) (ctOk_cons ?_ ctOk_nil)
      exact ⟨rfl, hc _ _ (by show N + 20 ≤ 780; omega)⟩
/-! ## _law_comes -/
/-- the loop, with the token i in hand: f words are still to be read -/
def cwM (j : Nat) : Nat → Nat → List Nat → Nat → Nat × List Nat × Bool
  | f, k, S, i => if i = j then (k, S, true) else match f with
    | 0 => (k, i :: S, false)
    | f + 1 => cwM j f (k + 1) (i :: S) k
theorem wd_ne : ∀ i < 8, ∀ j < 8, i ≠ j → (wd i == wd j) = false := by decide +kernel
theorem wd_eq (i : Nat) : (wd i == wd i) = true := by unfold wd; exact beq_self_eq_true _
theorem strne (D : Dy) (N U b t : Nat) (i j tx ty : Nat) : Con w w.params N U (.call (.builtin "str.__ne__") ⟨[.str (wd i) tx, .str (wd j) ty], []⟩) D D b t 0 0 (.ok (.ret (.bool (!(wd i == wd j))))) := con_str_ne D (wd i) (wd j) tx ty
noncomputable abbrev dcw (P : Params) (x : Lx) (q : LS) (n : Nat) (A k0 k1 k2 : Nat) (j wt : Nat) (v : Value) : Dy := cwD P x q.st q.tk q.e q.its (txt n) q.pos A k0 k1 k2 (wd j) wt v
theorem cwT {n : Nat} (h3 : 3 ≤ n) (h8 : n ≤ 8) {j : Nat} (hj : j < n) (x : Lx) (A k0 k1 k2 wt : Nat) : ∀ (f k : Nat) (S : List Nat) (i tok : Nat) (q : LS), n = k + f → q.is n k S → S.length + 1 ≤ k → i < n → ∀ b t : Nat,
    ∃ q2 m ii r, LS.is q2 n (cwM j f k S i).1 (cwM j f k S i).2.1 ∧ (cwM j f k S i).2.1.length ≤ (cwM j f k S i).1 ∧ (cwM j f k S i).1 ≤ n ∧ TokV (match (cwM j f k S i).2.2 with | true => some j | false => none) r ∧
      ∀ N U, N ≤ 740 → Con w w.params N U (wlC A) (dcw w.params x q n A k0 k1 k2 j wt (.str (wd i) tok)) (dcw w.params x q2 n A k0 k1 k2 j wt r) b t m ii (.ok .next) := by
  intro f
  induction f with
  | zero =>
    intro k S i tok q hn hq hS hi b t
    obtain rfl : n = k := by omega
    by_cases hij : i = j
    · subst hij
      have e1 : cwM i 0 n S i = (n, S, true) := by unfold cwM; rw [if_pos rfl]
      rw [e1]
      refine ⟨q, 0, 0, _, hq, by show S.length ≤ n; omega, Nat.le_refl _, ⟨tok, rfl⟩, fun N U hN => ?_⟩
      refine conCwEq (w := w) (N := N) (U := U) (by omega) b t (mkZ x [wt, A, k0, k1, k2, tok] [q.st, q.tk, q.pos] [txt n, wd i, wd i] [q.e] [q.its]) (ctOk_cons ?_ ctOk_nil)
      refine ⟨rfl, ?_⟩
      have := strne (w := w) [] (N + 20) (U + 200) (b + 0) (t + 0) i i tok wt
      rw [wd_eq] at this
      exact this
    · have e1 : cwM j 0 n S i = (n, i :: S, false) := by unfold cwM; rw [if_neg hij]
      rw [e1]
      obtain ⟨st1, tk1, pos1, m2, i2, ha1, hc⟩ := rdN (w := w) h3 h8 hq.at_ x (q.e + 1) (.str (wd i) tok :: q.its) (b + (0 + 1)) (t + (0 + 5))
      refine ⟨⟨st1, tk1, pos1, q.e + 1, .str (wd i) tok :: q.its⟩, 0 + 1 + m2 + 0, 0 + 5 + i2 + 1 + 0, .none, ⟨ha1, .cons i tok hq.its, fun a h => by rcases List.mem_cons.mp h with rfl | h; exact hi; exact hq.lt a h⟩, by simp; omega, Nat.le_refl _, rfl, fun N U hN => ?_⟩
      refine conCwGoNN (w := w) (N := N) (U := U) (by omega) b t (mkZ x [wt, A, k0, k1, k2, tok, 0, 0, 1, 5, m2, i2, 0, 0] [q.st, q.tk, q.pos, st1, tk1, pos1, st1, tk1, pos1] [txt n, wd j, wd i] [q.e, q.e + 1] [q.its, .str (wd i) tok :: q.its]) (ctOk_cons ?_ (ctOk_cons ?_ (ctOk_cons ?_ (ctOk_cons ?_ ctOk_nil))))
      · refine ⟨rfl, ?_⟩
        have := strne (w := w) [] (N + 20) (U + 200) (b + 0) (t + 0) i j tok wt
        rw [wd_ne i (by omega) j (by omega) hij] at this
        exact this
      · exact ⟨rfl, pushC x q.st q.tk q.pos q.e (txt n) (wd i) tok _ _ q.its (by rw [hq.its.len]; omega) _ _ (by show N + 20 ≤ 780; omega)⟩
      · exact ⟨rfl, hc _ _ (by show N + 20 ≤ 780; omega)⟩
      · exact ⟨rfl, conCwNone (w := w) (N := N) (U := U) (by omega) _ _ (mkZ x [wt, A, k0, k1, k2, 0] [st1, tk1, pos1] [txt n, wd j] [q.e + 1] [.str (wd i) tok :: q.its])⟩
  | succ f ih =>
    intro k S i tok q hn hq hS hi b t
    by_cases hij : i = j
    · subst hij
      have e1 : cwM i (f + 1) k S i = (k, S, true) := by unfold cwM; rw [if_pos rfl]
      rw [e1]
      refine ⟨q, 0, 0, _, hq, by show S.length ≤ k; omega, by show k ≤ n; omega, ⟨tok, rfl⟩, fun N U hN => ?_⟩
      refine conCwEq (w := w) (N := N) (U := U) (by omega) b t (mkZ x [wt, A, k0, k1, k2, tok] [q.st, q.tk, q.pos] [txt n, wd i, wd i] [q.e] [q.its]) (ctOk_cons ?_ ctOk_nil)
      refine ⟨rfl, ?_⟩
      have := strne (w := w) [] (N + 20) (U + 200) (b + 0) (t + 0) i i tok wt
      rw [wd_eq] at this
      exact this
    · have e1 : cwM j (f + 1) k S i = cwM j f (k + 1) (i :: S) k := by rw [cwM, if_neg hij]
      rw [e1]
      obtain ⟨st1, tk1, pos1, tok2, m2, i2, ha1, hc⟩ := rdS (w := w) h3 h8 hq.at_ (by omega) x (q.e + 1) (.str (wd i) tok :: q.its) (b + (0 + 1)) (t + (0 + 5))
      obtain ⟨q2, m3, i3, r, hq2, hl2, hk2, hr, hcon⟩ := ih (k + 1) (i :: S) k tok2 ⟨st1, tk1, pos1, q.e + 1, .str (wd i) tok :: q.its⟩ (by omega) ⟨ha1, .cons i tok hq.its, fun a h => by rcases List.mem_cons.mp h with rfl | h; exact hi; exact hq.lt a h⟩ (by simp; omega) (by omega) (b + (0 + 1 + m2)) (t + (0 + 5 + i2 + 1))
      refine ⟨q2, 0 + 1 + m2 + m3, 0 + 5 + i2 + 1 + i3, r, hq2, hl2, hk2, hr, fun N U hN => ?_⟩
      cases hb : (cwM j f (k + 1) (i :: S) k).2.2 with
      | true =>
        rw [hb] at hr
        obtain ⟨tok3, rfl⟩ := hr
        refine conCwGoSS (w := w) (N := N) (U := U) (by omega) b t (mkZ x [wt, A, k0, k1, k2, tok, tok2, tok3, 1, 5, m2, i2, m3, i3] [q.st, q.tk, q.pos, st1, tk1, pos1, q2.st, q2.tk, q2.pos] [txt n, wd j, wd i, wd k, wd j] [q.e, q2.e] [q.its, q2.its]) (ctOk_cons ?_ (ctOk_cons ?_ (ctOk_cons ?_ (ctOk_cons ?_ ctOk_nil))))
        · refine ⟨rfl, ?_⟩
          have := strne (w := w) [] (N + 20) (U + 200) (b + 0) (t + 0) i j tok wt
          rw [wd_ne i (by omega) j (by omega) hij] at this
          exact this
        · exact ⟨rfl, pushC x q.st q.tk q.pos q.e (txt n) (wd i) tok _ _ q.its (by rw [hq.its.len]; omega) _ _ (by show N + 20 ≤ 780; omega)⟩
        · exact ⟨rfl, hc _ _ (by show N + 20 ≤ 780; omega)⟩
        · exact ⟨rfl, hcon _ _ (by show N + 0 ≤ 740; omega)⟩
      | false =>
        rw [hb] at hr
        subst hr
        refine conCwGoSN (w := w) (N := N) (U := U) (by omega) b t (mkZ x [wt, A, k0, k1, k2, tok, tok2, 0, 1, 5, m2, i2, m3, i3] [q.st, q.tk, q.pos, st1, tk1, pos1, q2.st, q2.tk, q2.pos] [txt n, wd j, wd i, wd k] [q.e, q2.e] [q.its, q2.its]) (ctOk_cons ?_ (ctOk_cons ?_ (ctOk_cons ?_ (ctOk_cons ?_ ctOk_nil))))
        · refine ⟨rfl, ?_⟩
          have := strne (w := w) [] (N + 20) (U + 200) (b + 0) (t + 0) i j tok wt
          rw [wd_ne i (by omega) j (by omega) hij] at this
          exact this
        · exact ⟨rfl, pushC x q.st q.tk q.pos q.e (txt n) (wd i) tok _ _ q.its (by rw [hq.its.len]; omega) _ _ (by show N + 20 ≤ 780; omega)⟩
        · exact ⟨rfl, hc _ _ (by show N + 20 ≤ 780; omega)⟩
        · exact ⟨rfl, hcon _ _ (by show N + 0 ≤ 740; omega)⟩
def comesM (n j k : Nat) (S : List Nat) : Nat × List Nat × Bool := match getM n k S with
  | (some i, k1, S1) => cwM j (n - k1) k1 S1 i
  | (none, k1, S1) => (k1, S1, false)
theorem getM_ok {n k : Nat} {S : List Nat} (hk : k ≤ n) (hS : S.length ≤ k) (hlt : ∀ i ∈ S, i < n) :
    (getM n k S).2.1 ≤ n ∧ match (getM n k S).1 with
      | some i => i < n ∧ (getM n k S).2.2.length + 1 ≤ (getM n k S).2.1
      | none => (getM n k S).2.1 = n ∧ (getM n k S).2.2 = [] := by
  cases S with
  | cons i S => exact ⟨hk, hlt i List.mem_cons_self, by show S.length + 1 ≤ k; simpa using hS⟩
  | nil =>
    by_cases h : k < n
    · have e : getM n k [] = (some k, k + 1, []) := by unfold getM; rw [if_pos h]
      rw [e]; exact ⟨h, h, by simp⟩
    · have e : getM n k [] = (none, k, []) := by unfold getM; rw [if_neg h]
      rw [e]; exact ⟨hk, by simp; omega, rfl⟩
theorem comesT {n : Nat} (h3 : 3 ≤ n) (h8 : n ≤ 8) {j : Nat} (hj : j < n) (x : Lx) (wt : Nat) {k : Nat} {S : List Nat} {q : LS} (hq : q.is n k S) (hk : k ≤ n) (hS : S.length ≤ k) (b t : Nat) :
    ∃ q2 m i, LS.is q2 n (comesM n j k S).1 (comesM n j k S).2.1 ∧ (comesM n j k S).2.1.length ≤ (comesM n j k S).1 ∧ (comesM n j k S).1 ≤ n ∧
      ∀ N U, N ≤ 700 → Con w w.params N U (.call (.ref 758) ⟨[.ref x.L, .str (wd j) wt], []⟩) (d6 w.params x q n) (d6 w.params x q2 n) b t m i (.ok (.ret (.bool (comesM n j k S).2.2))) := by
  obtain ⟨q1, m1, i1, r1, hq1, hr1, hc1⟩ := getT (w := w) h3 h8 hq (by omega) hk x (b + 1) (t + 2)
  obtain ⟨g1, g2⟩ := getM_ok hk hS hq.lt
  unfold comesM
  generalize getM n k S = G at hq1 hr1 g1 g2
  obtain ⟨o, k1, S1⟩ := G
  cases o with
  | none =>
    obtain ⟨rfl, rfl⟩ : k1 = n ∧ S1 = [] := g2
    obtain rfl : r1 = .none := hr1
    refine ⟨q1, 1 + m1 + 0, 2 + i1 + 1 + 0, hq1, by simp, Nat.le_refl _, fun N U hN => ?_⟩
    refine conComesNN (w := w) (N := N) (U := U) (by omega) b t (mkZ x [wt, m1, i1, 0, 0] [q.st, q.tk, q.pos, q1.st, q1.tk, q1.pos, q1.st, q1.tk, q1.pos] [txt k1, wd j] [q.e, q1.e, q1.e] [q.its, q1.its, q1.its]) (ctOk_cons ?_ (ctOk_cons ?_ ctOk_nil))
    · exact ⟨rfl, hc1 _ _ (by show N + 20 ≤ 740; omega)⟩
    · refine ⟨rfl, ?_⟩
      have := conCwNone (w := w) (N := N + 20) (U := U + 200) (by omega) (b + (1 + m1)) (t + (2 + i1 + 1)) (mkZ x [wt, b, t, t + 1, t + (2 + i1), 0] [q1.st, q1.tk, q1.pos] [txt k1, wd j] [q1.e] [q1.its])
      show ConF _ _ _ _ _ _ (wlC b) (cwDR _ _ _ _ _ _ _ _ _ _ _ _ _ _ _) (cwDR _ _ _ _ _ _ _ _ _ _ _ _ _ _ _ ++ []) _ _ _ _ _
      rw [List.append_nil, cwDR_eq]
      exact this
  | some i =>
    obtain ⟨tok, rfl⟩ : ∃ tok, r1 = .str (wd i) tok := hr1
    have g2' : i < n ∧ S1.length + 1 ≤ k1 := g2
    have g1' : k1 ≤ n := g1
    obtain ⟨q2, m2, i2, r2, hq2, hl2, hk2, hr2, hcon⟩ := cwT (w := w) h3 h8 hj x b t (t + 1) (t + (2 + i1)) wt (n - k1) k1 S1 i tok q1 (by omega) hq1 g2'.2 g2'.1 (b + (1 + m1)) (t + (2 + i1 + 1))
    refine ⟨q2, 1 + m1 + m2, 2 + i1 + 1 + i2, hq2, hl2, hk2, fun N U hN => ?_⟩
    dsimp only
    cases hb : (cwM j (n - k1) k1 S1 i).2.2 with
    | true =>
      rw [hb] at hr2
      obtain ⟨tok2, rfl⟩ := hr2
      refine conComesSS (w := w) (N := N) (U := U) (by omega) b t (mkZ x [wt, m1, i1, m2, i2, tok, tok2] [q.st, q.tk, q.pos, q1.st, q1.tk, q1.pos, q2.st, q2.tk, q2.pos] [txt n, wd j, wd i, wd j] [q.e, q1.e, q2.e] [q.its, q1.its, q2.its]) (ctOk_cons ?_ (ctOk_cons ?_ ctOk_nil))
      · exact ⟨rfl, hc1 _ _ (by show N + 20 ≤ 740; omega)⟩
      · refine ⟨rfl, ?_⟩
        show ConF _ _ _ _ _ _ (wlC b) (cwDR _ _ _ _ _ _ _ _ _ _ _ _ _ _ _) (cwDR _ _ _ _ _ _ _ _ _ _ _ _ _ _ _ ++ []) _ _ _ _ _
        rw [List.append_nil, cwDR_eq, cwDR_eq]
        exact hcon _ _ (by show N + 20 ≤ 740; omega)
    | false =>
      rw [hb] at hr2
      subst hr2
      refine conComesSN (w := w) (N := N) (U := U) (by omega) b t (mkZ x [wt, m1, i1, m2, i2, tok] [q.st, q.tk, q.pos, q1.st, q1.tk, q1.pos, q2.st, q2.tk, q2.pos] [txt n, wd j, wd i] [q.e, q1.e, q2.e] [q.its, q1.its, q2.its]) (ctOk_cons ?_ (ctOk_cons ?_ ctOk_nil))
      · exact ⟨rfl, hc1 _ _ (by show N + 20 ≤ 740; omega)⟩
      · refine ⟨rfl, ?_⟩
        show ConF _ _ _ _ _ _ (wlC b) (cwDR _ _ _ _ _ _ _ _ _ _ _ _ _ _ _) (cwDR _ _ _ _ _ _ _ _ _ _ _ _ _ _ _ ++ []) _ _ _ _ _
        rw [List.append_nil, cwDR_eq, cwDR_eq]
        exact hcon _ _ (by show N + 20 ≤ 740; omega)
end
/-! ## list(lexer) -/
section
variable {w : World}
noncomputable abbrev d6s (P : Params) (x : Lx) (q : LS) (n : Nat) (l : Dy) : Dy := lex6s P x q.st q.tk q.e q.its (txt n) q.pos l
theorem extS {n : Nat} (x : Lx) (a F : Addr) (fr : List Env) (q q1 q2 : LS) (s : Str) (ts c c2 m1 i1 m2 i2 b t : Nat) (vs2 : List Value) {N U : Nat} (hN : N ≤ 700)
    (hn : Con w w.params (N + 20) (U + 200) (.call (.ref 729) ⟨[.ref x.L], []⟩) (d6 w.params x q n) (d6 w.params x q1 n) (b + 0) (t + 0) m1 i1 (.ok (.ret (.str s ts)))) : ∀ vs : List Value, vs.length ≤ 7 →
    ConF (some fr) [F] w w.params (N + 0) (U + 0) (extC a x) (d6s w.params x q1 n [(a, liObj (vs ++ [.str s ts]) (c + 1))]) (d6s w.params x q2 n [(a, liObj vs2 c2)]) (b + (0 + m1)) (t + (0 + i1)) m2 i2 (.ok (.ret .none)) →
    ConF (some fr) [F] w w.params N U (extC a x) (d6s w.params x q n [(a, liObj vs c)]) (d6s w.params x q2 n [(a, liObj vs2 c2)]) b t (0 + m1 + m2) (0 + i1 + i2) (.ok (.ret .none))
  | [], _, ha => conLsS0 (by omega) b t (mkZ x [m1, i1, m2, i2, ts, a, F, c, c2, 0, 0] [q.st, q.tk, q.pos, q1.st, q1.tk, q1.pos, q2.st, q2.tk, q2.pos, .none] [txt n, s] [q.e, q1.e, q2.e] [q.its, q1.its, q2.its, [], vs2] fr) (fun y hy => by
      simp only [ctLsS0, List.mem_cons, List.not_mem_nil, or_false] at hy
      rcases hy with rfl | rfl
      · exact ⟨rfl, hn⟩
      · exact ⟨rfl, ha⟩)
  | [v0], _, ha => conLsS1 (by omega) b t (mkZ x [m1, i1, m2, i2, ts, a, F, c, c2, 0, 0] [q.st, q.tk, q.pos, q1.st, q1.tk, q1.pos, q2.st, q2.tk, q2.pos, .none, v0] [txt n, s] [q.e, q1.e, q2.e] [q.its, q1.its, q2.its, [], vs2] fr) (fun y hy => by
      simp only [ctLsS1, List.mem_cons, List.not_mem_nil, or_false] at hy
      rcases hy with rfl | rfl
      · exact ⟨rfl, hn⟩
      · exact ⟨rfl, ha⟩)
  | [v0, v1], _, ha => conLsS2 (by omega) b t (mkZ x [m1, i1, m2, i2, ts, a, F, c, c2, 0, 0] [q.st, q.tk, q.pos, q1.st, q1.tk, q1.pos, q2.st, q2.tk, q2.pos, .none, v0, v1] [txt n, s] [q.e, q1.e, q2.e] [q.its, q1.its, q2.its, [], vs2] fr) (fun y hy => by
      simp only [ctLsS2, List.mem_cons, List.not_mem_nil, or_false] at hy
      rcases hy with rfl | rfl
      · exact ⟨rfl, hn⟩
      · exact ⟨rfl, ha⟩)
  | [v0, v1, v2], _, ha => conLsS3 (by omega) b t (mkZ x [m1, i1, m2, i2, ts, a, F, c, c2, 0, 0] [q.st, q.tk, q.pos, q1.st, q1.tk, q1.pos, q2.st, q2.tk, q2.pos, .none, v0, v1, v2] [txt n, s] [q.e, q1.e, q2.e] [q.its, q1.its, q2.its, [], vs2] fr) (fun y hy => by
      simp only [ctLsS3, List.mem_cons, List.not_mem_nil, or_false] at hy
      rcases hy with rfl | rfl
      · exact ⟨rfl, hn⟩
      · exact ⟨rfl, ha⟩)
  | [v0, v1, v2, v3], _, ha => conLsS4 (by omega) b t (mkZ x [m1, i1, m2, i2, ts, a, F, c, c2, 0, 0] [q.st, q.tk, q.pos, q1.st, q1.tk, q1.pos, q2.st, q2.tk, q2.pos, .none, v0, v1, v2, v3] [txt n, s] [q.e, q1.e, q2.e] [q.its, q1.its, q2.its, [], vs2] fr) (fun y hy => by
      simp only [ctLsS4, List.mem_cons, List.not_mem_nil, or_false] at hy
      rcases hy with rfl | rfl
      · exact ⟨rfl, hn⟩
      · exact ⟨rfl, ha⟩)
  | [v0, v1, v2, v3, v4], _, ha => conLsS5 (by omega) b t (mkZ x [m1, i1, m2, i2, ts, a, F, c, c2, 0, 0] [q.st, q.tk, q.pos, q1.st, q1.tk, q1.pos, q2.st, q2.tk, q2.pos, .none, v0, v1, v2, v3, v4] [txt n, s] [q.e, q1.e, q2.e] [q.its, q1.its, q2.its, [], vs2] fr) (fun y hy => by
      simp only [ctLsS5, List.mem_cons, List.not_mem_nil, or_false] at hy
      rcases hy with rfl | rfl
      · exact ⟨rfl, hn⟩
      · exact ⟨rfl, ha⟩)
  | [v0, v1, v2, v3, v4, v5], _, ha => conLsS6 (by omega) b t (mkZ x [m1, i1, m2, i2, ts, a, F, c, c2, 0, 0] [q.st, q.tk, q.pos, q1.st, q1.tk, q1.pos, q2.st, q2.tk, q2.pos, .none, v0, v1, v2, v3, v4, v5] [txt n, s] [q.e, q1.e, q2.e] [q.its, q1.its, q2.its, [], vs2] fr) (fun y hy => by
      simp only [ctLsS6, List.mem_cons, List.not_mem_nil, or_false] at hy
      rcases hy with rfl | rfl
      · exact ⟨rfl, hn⟩
      · exact ⟨rfl, ha⟩)
  | [v0, v1, v2, v3, v4, v5, v6], _, ha => conLsS7 (by omega) b t (mkZ x [m1, i1, m2, i2, ts, a, F, c, c2, 0, 0] [q.st, q.tk, q.pos, q1.st, q1.tk, q1.pos, q2.st, q2.tk, q2.pos, .none, v0, v1, v2, v3, v4, v5, v6] [txt n, s] [q.e, q1.e, q2.e] [q.its, q1.its, q2.its, [], vs2] fr) (fun y hy => by
      simp only [ctLsS7, List.mem_cons, List.not_mem_nil, or_false] at hy
      rcases hy with rfl | rfl
      · exact ⟨rfl, hn⟩
      · exact ⟨rfl, ha⟩)
  | _ :: _ :: _ :: _ :: _ :: _ :: _ :: _ :: _, h, _ => absurd h (by simp)
theorem ItsOf.snoc {S : List Nat} {l : List Value} (h : ItsOf S l) (i tok : Nat) : ItsOf (i :: S) (.str (wd i) tok :: l) := .cons i tok h
theorem nextS {n k : Nat} (h3 : 3 ≤ n) (h8 : n ≤ 8) {q : LS} {S : List Nat} {i k1 : Nat} {S1 : List Nat} (hq : q.is n k S) (hS : S.length ≤ 8) (hk : k ≤ n) (hg : getM n k S = (some i, k1, S1)) (x : Lx) (b t : Nat) :
    ∃ q1 m ii tok, LS.is q1 n k1 S1 ∧ ∀ N U, N ≤ 720 → Con w w.params N U (.call (.ref 729) ⟨[.ref x.L], []⟩) (d6 w.params x q n) (d6 w.params x q1 n) b t m ii (.ok (.ret (.str (wd i) tok))) := by
  obtain ⟨q1, m1, i1, r1, hq1, hr1, hc1⟩ := getT (w := w) h3 h8 hq hS hk x (b + 1) (t + 1)
  rw [hg] at hq1 hr1
  obtain ⟨tok, rfl⟩ : ∃ tok, r1 = .str (wd i) tok := hr1
  refine ⟨q1, 1 + m1, 1 + i1 + 2, tok, hq1, fun N U hN => ?_⟩
  refine conNextS (w := w) (N := N) (U := U) (by omega) b t (mkZ x [m1, i1, tok] [q.st, q.tk, q.pos, q1.st, q1.tk, q1.pos] [txt n, wd i] [q.e, q1.e] [q.its, q1.its]) (ctOk_cons ?_ ctOk_nil)
  exact ⟨rfl, hc1 _ _ (by show N + 20 ≤ 740; omega)⟩
theorem extT {n : Nat} (h3 : 3 ≤ n) (h8 : n ≤ 8) (x : Lx) (a : Addr) (envF : Env) (F : Addr) (hF : envF.frame = some F) (hkd : envF.scope.kind ≠ .module) (hF9 : 769 ≤ F) : ∀ (r k : Nat) (S : List Nat) (vs : List Value) (c : Nat) (q : LS), r = S.length + (n - k) → q.is n k S → k ≤ n → S.length ≤ k → vs.length + r ≤ 8 → ∀ b t : Nat,
    ∃ q2 m ii c2 new, ItsOf (S ++ List.range' k (n - k)) new ∧ LS.is q2 n n [] ∧ ∀ N U, N ≤ 680 → U ≤ 9000 →
      ConF (some [envF]) [F] w w.params N U (extC a x) (d6s w.params x q n [(a, liObj vs c)]) (d6s w.params x q2 n [(a, liObj (vs ++ new) c2)]) b t m ii (.ok (.ret .none)) := by
  intro r
  induction r with
  | zero =>
    intro k S vs c q hr hq hk hS hv b t
    obtain rfl : S = [] := List.length_eq_zero_iff.mp (by omega)
    obtain rfl : k = n := by omega
    obtain ⟨q1, m1, i1, r1, hq1, hr1, hc1⟩ := getT (w := w) h3 h8 hq (by simp) (Nat.le_refl _) x (b + 0 + 1) (t + 0 + 1)
    have e : getM k k [] = (none, k, []) := by unfold getM; rw [if_neg (Nat.lt_irrefl _)]
    rw [e] at hq1 hr1
    obtain rfl : r1 = .none := hr1
    refine ⟨q1, 0 + (1 + (0 + m1 + 3) + 1), 0 + (1 + (0 + i1 + 2)), c, [], by rw [Nat.sub_self]; exact .nil, hq1, fun N U hN hU => ?_⟩
    rw [List.append_nil]
    refine conLsN (w := w) (N := N) (U := U) (by omega) b t (mkZ x [1 + (0 + m1 + 3) + 1, 1 + (0 + i1 + 2), 0, 0, 0, a, F, c, 0, b + 0 + 1 + (0 + m1 + 1), b + 0 + 1 + (0 + m1 + 2)] [q.st, q.tk, q.pos, q1.st, q1.tk, q1.pos, .none, .none, .none, .ref (b + 0 + (1 + (0 + m1 + 3)))] [txt k] [q.e, q1.e] [q.its, q1.its, [], vs] [envF]) (ctOk_cons ?_ ctOk_nil)
    refine ⟨rfl, ?_⟩
    exact con_nextN (w := w) (N := N + 20) (U := U + 200) (by omega) (b + 0) (t + 0) m1 i1 x q.st q.tk q.pos q1.st q1.tk q1.pos q.e q1.e q.its q1.its (txt k) envF F hF hkd hF9 (hc1 _ _ (by omega)) (by
      have : cLine = 9900 := rfl
      omega)
  | succ r ih =>
    intro k S vs c q hr hq hk hS hv b t
    obtain ⟨g1, g2⟩ := getM_ok hk hS hq.lt
    obtain ⟨i, k1, S1, hg, hr1, hsp⟩ : ∃ i k1 S1, getM n k S = (some i, k1, S1) ∧ r = S1.length + (n - k1) ∧ S ++ List.range' k (n - k) = i :: (S1 ++ List.range' k1 (n - k1)) := by
      cases S with
      | cons i S => exact ⟨i, k, S, rfl, by simp at hr; omega, rfl⟩
      | nil =>
        have hkn : k < n := by simp at hr; omega
        refine ⟨k, k + 1, [], by unfold getM; rw [if_pos hkn], by simp at hr; simp; omega, ?_⟩
        rw [List.nil_append, List.nil_append, show n - k = (n - (k + 1)) + 1 from by omega, List.range'_succ]
    rw [hg] at g1 g2
    obtain ⟨q1, m1, i1, tok, hq1, hc1⟩ := nextS (w := w) h3 h8 hq (by omega) hk hg x (b + 0) (t + 0)
    have g2' : i < n ∧ S1.length + 1 ≤ k1 := g2
    obtain ⟨q2, m2, i2, c2, new, hnew, hq2, hcon⟩ := ih k1 S1 (vs ++ [.str (wd i) tok]) (c + 1) q1 hr1 hq1 g1 (by omega) (by simp; omega) (b + (0 + m1)) (t + (0 + i1))
    refine ⟨q2, 0 + m1 + m2, 0 + i1 + i2, c2, .str (wd i) tok :: new, ?_, hq2, fun N U hN hU => ?_⟩
    · rw [hsp]; exact .cons i tok hnew
    · have z := hcon N U hN hU
      rw [List.append_assoc] at z
      exact extS x a F [envF] q q1 q2 (wd i) tok c c2 m1 i1 m2 i2 b t _ (by omega) (hc1 _ _ (by omega)) vs (by omega) z
theorem listT {n : Nat} (h3 : 3 ≤ n) (h8 : n ≤ 8) (x : Lx) (envF : Env) (F : Addr) (hF : envF.frame = some F) (hkd : envF.scope.kind ≠ .module) (hF9 : 769 ≤ F) {k : Nat} {S : List Nat} {q : LS} (hq : q.is n k S) (hk : k ≤ n) (hS : S.length + (n - k) ≤ 8) (hSk : S.length ≤ k) (b t : Nat) :
    ∃ q2 m ii c2 new, ItsOf (S ++ List.range' k (n - k)) new ∧ ∀ N U, N ≤ 640 → U ≤ 8500 →
      ConF (some [envF]) [F] w w.params N U (.call (.type "list") ⟨[.ref x.L], []⟩) (d6 w.params x q n) (d6s w.params x q2 n [(b, liObj new c2)]) b t m ii (.ok (.ret (.ref b))) := by
  obtain ⟨q2, m2, i2, c2, new, hnew, hq2, hcon⟩ := extT (w := w) h3 h8 x b envF F hF hkd hF9 (S.length + (n - k)) k S [] 2 q rfl hq hk hSk (by simpa using hS) (b + 1 + 1) (t + 0 + 1)
  refine ⟨q2, 1 + (1 + m2), 0 + (1 + i2), c2, new, hnew, fun N U hN hU => ?_⟩
  refine conLsCall (w := w) (N := N) (U := U) (by omega) b t (mkZ x [1 + m2, 1 + i2, 0, 0, 0, 0, F, c2] [q.st, q.tk, q.pos, q2.st, q2.tk, q2.pos] [txt n] [q.e, q2.e] [q.its, q2.its, [], new] [envF]) (ctOk_cons ?_ (ctOk_cons ?_ ctOk_nil))
  · exact ⟨rfl, conLNew (by show N + 20 ≤ 800; omega) _ _ (mkZ lx0 [x.L] [] [] [] []) (by
      have e1 : ∀ a, (lnC a : Code).cUnits = 1 + 3 * Code.frames (lnC a) := fun _ => rfl
      have e2 : ∀ a, Code.frames (lnC a) = 0 := fun _ => rfl
      have : cLine = 9900 := rfl
      show U + 200 + (lnC _ : Code).cUnits < cLine
      rw [e1, e2]; omega)⟩
  · refine ⟨rfl, ?_⟩
    exact con_listInit (w := w) (N := N + 20) (U := U + 200) (by omega) (b + 1) (t + 0) m2 i2 b x q.st q.tk q.pos q2.st q2.tk q2.pos q.e q2.e q.its q2.its new c2 (txt n) _ _ (hcon _ _ (by omega) (by omega))
end
noncomputable def orsLwT : List Rf := [.d 6, .d 7, .b true, .s, .d 6, .d 8, .d 6, .d 6, .d 9, .d 9, .d 9, .k 0, .d 10, .d 10, .d 10, .k 1, .s, .k 2, .d 6, .d 6, .d 6, .k 3]
noncomputable def ctLwT (P : Params) (b t : Nat) (z : Zs) : List KC := [⟨.call (.builtin "list.__getitem__") ⟨[.ref (z.n 4), .int (z.i 3) (z.n 11)], []⟩, [false, false, false, false, false, false, false, false, false, true, false], [((z.n 4), liObj (z.l 3) (z.n 13))], [((z.n 4), liObj (z.l 3) (z.n 13))], [], 0, 0, 0, 0, .ok (.ret (.int (z.i 5) (z.n 15))), 20, 200, true, none, none, []⟩, ⟨.call (.builtin "list.__getitem__") ⟨[.ref (z.n 5), .int (z.i 5) (z.n 15)], []⟩, [false, false, false, false, false, false, false, false, false, false, true], [((z.n 5), liObj (z.l 4) (z.n 14))], [((z.n 5), liObj (z.l 4) (z.n 14))], [], 0, 0, 0, 0, .ok (.ret (.str (z.s 1) (z.n 16))), 20, 200, true, none, none, []⟩, ⟨.call (.ref 758) ⟨[.ref z.x.L, .str (z.s 1) (z.n 16)], []⟩, [true, true, true, true, true, true], lex6 P z.x (z.v 0) (z.v 1) (z.i 0) (z.l 0) (z.s 0) (z.v 2), lex6 P z.x (z.v 3) (z.v 4) (z.i 1) (z.l 1) (z.s 0) (z.v 5), [], 0, 0, (z.n 17), (z.n 18), .ok (.ret (.bool true)), 20, 200, true, none, none, []⟩, ⟨lwC (z.n 0) (z.n 1) (z.n 2) (z.n 3), [true, true, true, true, true, true, true, true, true, true, true], lex6s P z.x (z.v 3) (z.v 4) (z.i 1) (z.l 1) (z.s 0) (z.v 5) (lwR P z.x (z.n 0) (z.n 2) (z.n 3) (z.n 4) (z.n 5) (z.n 7) (z.n 8) (z.n 9) (z.n 10) (z.n 6) (.int ((z.i 3) + 1) (t + (0 + (z.n 18) + 1))) (z.i 4) (z.n 12) (z.l 3) (z.n 13) (z.l 4) (z.n 14)), lex6s P z.x (z.v 6) (z.v 7) (z.i 2) (z.l 2) (z.s 0) (z.v 8) (lwR P z.x (z.n 0) (z.n 2) (z.n 3) (z.n 4) (z.n 5) (z.n 7) (z.n 8) (z.n 9) (z.n 10) (z.n 6) (.int (z.i 6) (z.n 21)) (z.i 4) (z.n 12) (z.l 3) (z.n 13) (z.l 4) (z.n 14)), [], (0 + (z.n 17)), (0 + (z.n 18) + 3), (z.n 19), (z.n 20), .ok .next, 0, 0, true, none, none, []⟩]
noncomputable def lhsLwT (pg : Program) (W : Params) (b t : Nat) (z : Zs) := resM [true, true, true, true, true, true, true, true, true, true, true] (enter W (go pg W b t true (ctLwT W b t z) 88) orsLwT (lwC (z.n 0) (z.n 1) (z.n 2) (z.n 3)) kx (lex6s W z.x (z.v 0) (z.v 1) (z.i 0) (z.l 0) (z.s 0) (z.v 2) (lwR W z.x (z.n 0) (z.n 2) (z.n 3) (z.n 4) (z.n 5) (z.n 7) (z.n 8) (z.n 9) (z.n 10) (z.n 6) (.int (z.i 3) (z.n 11)) (z.i 4) (z.n 12) (z.l 3) (z.n 13) (z.l 4) (z.n 14))) 0 0 [])
noncomputable def rhsLwT (pg : Program) (W : Params) (b t : Nat) (z : Zs) : Option (Except Value PySem.Fin × Dy × Nat × Nat × List Ob) := some (.ok (.done .next), lex6s W z.x (z.v 6) (z.v 7) (z.i 2) (z.l 2) (z.s 0) (z.v 8) (lwR W z.x (z.n 0) (z.n 2) (z.n 3) (z.n 4) (z.n 5) (z.n 7) (z.n 8) (z.n 9) (z.n 10) (z.n 6) (.int (z.i 6) (z.n 21)) (z.i 4) (z.n 12) (z.l 3) (z.n 13) (z.l 4) (z.n 14)), (0 + (z.n 17) + (z.n 19)), (0 + (z.n 18) + 3 + (z.n 20)), toldC (ctLwT W b t z) [z.x.L, z.x.d, z.x.q, z.x.io, z.x.iod, z.x.fs, (z.n 0), (z.n 2), (z.n 3), (z.n 4), (z.n 5)] orsLwT [.cmp 1 (z.i 3) (z.i 4) true] [])
end Mine
lay_z Mine.lhsLwT Mine.rhsLwT
namespace Mine
theorem chkLwT (pg : Program) (P : Params) (r : Bool) (b t : Nat) (z : Zs) : lhsLwT pg (wf P r) b t z = rhsLwT pg (wf P r) b t z := by
  rw [PySem.W.ZFast.ze5955185320414310521, PySem.W.ZFast.ze6347993663625228331]
  cases r <;> kernel_rfl
theorem conLwT {w : World} {N U : Nat} (hN : N ≤ 800) (b t : Nat) (z : Zs) (hct : CtOk w w.params N U b t (ctLwT w.params b t z)) (hsd : ∀ y ∈ ([.cmp 1 (z.i 3) (z.i 4) true] : List Ob), y.ok) : ConF none [] w w.params N U (lwC (z.n 0) (z.n 1) (z.n 2) (z.n 3)) (lex6s w.params z.x (z.v 0) (z.v 1) (z.i 0) (z.l 0) (z.s 0) (z.v 2) (lwR w.params z.x (z.n 0) (z.n 2) (z.n 3) (z.n 4) (z.n 5) (z.n 7) (z.n 8) (z.n 9) (z.n 10) (z.n 6) (.int (z.i 3) (z.n 11)) (z.i 4) (z.n 12) (z.l 3) (z.n 13) (z.l 4) (z.n 14))) (lex6s w.params z.x (z.v 6) (z.v 7) (z.i 2) (z.l 2) (z.s 0) (z.v 8) (lwR w.params z.x (z.n 0) (z.n 2) (z.n 3) (z.n 4) (z.n 5) (z.n 7) (z.n 8) (z.n 9) (z.n 10) (z.n 6) (.int (z.i 6) (z.n 21)) (z.i 4) (z.n 12) (z.l 3) (z.n 13) (z.l 4) (z.n 14))) b t ((0 + (z.n 17) + (z.n 19))) ((0 + (z.n 18) + 3 + (z.n 20))) (.ok .next) := by
  have h := chkLwT pw w.params (w.params.followText row1) b t z
  rw [wf_self] at h
  exact conF_of_run rfl (spOk w) hct (fr_none rfl) (z_nil rfl) hN h rfl (toldC_ok _ _ _ hsd (fun _ h => by cases h))
noncomputable def orsLwF : List Rf := [.d 6, .d 7, .b true, .s, .d 6, .d 8, .d 6, .d 6, .d 9, .d 9, .d 9, .k 0, .d 10, .d 10, .d 10, .k 1, .s, .k 2]
noncomputable def ctLwF (P : Params) (b t : Nat) (z : Zs) : List KC := [⟨.call (.builtin "list.__getitem__") ⟨[.ref (z.n 4), .int (z.i 3) (z.n 11)], []⟩, [false, false, false, false, false, false, false, false, false, true, false], [((z.n 4), liObj (z.l 3) (z.n 13))], [((z.n 4), liObj (z.l 3) (z.n 13))], [], 0, 0, 0, 0, .ok (.ret (.int (z.i 5) (z.n 15))), 20, 200, true, none, none, []⟩, ⟨.call (.builtin "list.__getitem__") ⟨[.ref (z.n 5), .int (z.i 5) (z.n 15)], []⟩, [false, false, false, false, false, false, false, false, false, false, true], [((z.n 5), liObj (z.l 4) (z.n 14))], [((z.n 5), liObj (z.l 4) (z.n 14))], [], 0, 0, 0, 0, .ok (.ret (.str (z.s 1) (z.n 16))), 20, 200, true, none, none, []⟩, ⟨.call (.ref 758) ⟨[.ref z.x.L, .str (z.s 1) (z.n 16)], []⟩, [true, true, true, true, true, true], lex6 P z.x (z.v 0) (z.v 1) (z.i 0) (z.l 0) (z.s 0) (z.v 2), lex6 P z.x (z.v 3) (z.v 4) (z.i 1) (z.l 1) (z.s 0) (z.v 5), [], 0, 0, (z.n 17), (z.n 18), .ok (.ret (.bool false)), 20, 200, true, none, none, []⟩]
noncomputable def lhsLwF (pg : Program) (W : Params) (b t : Nat) (z : Zs) := resM [true, true, true, true, true, true, true, true, true, true, true] (enter W (go pg W b t true (ctLwF W b t z) 73) orsLwF (lwC (z.n 0) (z.n 1) (z.n 2) (z.n 3)) kx (lex6s W z.x (z.v 0) (z.v 1) (z.i 0) (z.l 0) (z.s 0) (z.v 2) (lwR W z.x (z.n 0) (z.n 2) (z.n 3) (z.n 4) (z.n 5) (z.n 7) (z.n 8) (z.n 9) (z.n 10) (z.n 6) (.int (z.i 3) (z.n 11)) (z.i 4) (z.n 12) (z.l 3) (z.n 13) (z.l 4) (z.n 14))) 0 0 [])
noncomputable def rhsLwF (pg : Program) (W : Params) (b t : Nat) (z : Zs) : Option (Except Value PySem.Fin × Dy × Nat × Nat × List Ob) := some (.ok (.done .next), lex6s W z.x (z.v 3) (z.v 4) (z.i 1) (z.l 1) (z.s 0) (z.v 5) (lwR W z.x (z.n 0) (z.n 2) (z.n 3) (z.n 4) (z.n 5) (z.n 7) (z.n 8) (z.n 9) (z.n 10) (z.n 6) (.int (z.i 3) (z.n 11)) (z.i 4) (z.n 12) (z.l 3) (z.n 13) (z.l 4) (z.n 14)), (0 + (z.n 17)), (0 + (z.n 18)), toldC (ctLwF W b t z) [z.x.L, z.x.d, z.x.q, z.x.io, z.x.iod, z.x.fs, (z.n 0), (z.n 2), (z.n 3), (z.n 4), (z.n 5)] orsLwF [.cmp 1 (z.i 3) (z.i 4) true] [])
end Mine
lay_z Mine.lhsLwF Mine.rhsLwF
namespace Mine
theorem chkLwF (pg : Program) (P : Params) (r : Bool) (b t : Nat) (z : Zs) : lhsLwF pg (wf P r) b t z = rhsLwF pg (wf P r) b t z := by
  rw [PySem.W.ZFast.ze7304598274047455706, PySem.W.ZFast.ze10029114393921258797]
  cases r <;> kernel_rfl
theorem conLwF {w : World} {N U : Nat} (hN : N ≤ 800) (b t : Nat) (z : Zs) (hct : CtOk w w.params N U b t (ctLwF w.params b t z)) (hsd : ∀ y ∈ ([.cmp 1 (z.i 3) (z.i 4) true] : List Ob), y.ok) : ConF none [] w w.params N U (lwC (z.n 0) (z.n 1) (z.n 2) (z.n 3)) (lex6s w.params z.x (z.v 0) (z.v 1) (z.i 0) (z.l 0) (z.s 0) (z.v 2) (lwR w.params z.x (z.n 0) (z.n 2) (z.n 3) (z.n 4) (z.n 5) (z.n 7) (z.n 8) (z.n 9) (z.n 10) (z.n 6) (.int (z.i 3) (z.n 11)) (z.i 4) (z.n 12) (z.l 3) (z.n 13) (z.l 4) (z.n 14))) (lex6s w.params z.x (z.v 3) (z.v 4) (z.i 1) (z.l 1) (z.s 0) (z.v 5) (lwR w.params z.x (z.n 0) (z.n 2) (z.n 3) (z.n 4) (z.n 5) (z.n 7) (z.n 8) (z.n 9) (z.n 10) (z.n 6) (.int (z.i 3) (z.n 11)) (z.i 4) (z.n 12) (z.l 3) (z.n 13) (z.l 4) (z.n 14))) b t ((0 + (z.n 17))) ((0 + (z.n 18))) (.ok .next) := by
  have h := chkLwF pw w.params (w.params.followText row1) b t z
  rw [wf_self] at h
  exact conF_of_run rfl (spOk w) hct (fr_none rfl) (z_nil rfl) hN h rfl (toldC_ok _ _ _ hsd (fun _ h => by cases h))
noncomputable def orsLwN : List Rf := [.d 6, .d 7, .b false]
noncomputable def lhsLwN (pg : Program) (W : Params) (b t : Nat) (z : Zs) := resM [true, true, true, true, true, true, true, true, true, true, true] (enter W (go pg W b t true noCt 48) orsLwN (lwC (z.n 0) (z.n 1) (z.n 2) (z.n 3)) kx (lex6s W z.x (z.v 0) (z.v 1) (z.i 0) (z.l 0) (z.s 0) (z.v 2) (lwR W z.x (z.n 0) (z.n 2) (z.n 3) (z.n 4) (z.n 5) (z.n 7) (z.n 8) (z.n 9) (z.n 10) (z.n 6) (.int (z.i 3) (z.n 11)) (z.i 4) (z.n 12) (z.l 3) (z.n 13) (z.l 4) (z.n 14))) 0 0 [])
noncomputable def rhsLwN (pg : Program) (W : Params) (b t : Nat) (z : Zs) : Option (Except Value PySem.Fin × Dy × Nat × Nat × List Ob) := some (.ok (.done .next), lex6s W z.x (z.v 0) (z.v 1) (z.i 0) (z.l 0) (z.s 0) (z.v 2) (lwR W z.x (z.n 0) (z.n 2) (z.n 3) (z.n 4) (z.n 5) (z.n 7) (z.n 8) (z.n 9) (z.n 10) (z.n 6) (.int (z.i 3) (z.n 11)) (z.i 4) (z.n 12) (z.l 3) (z.n 13) (z.l 4) (z.n 14)), 0, 0, toldC noCt [z.x.L, z.x.d, z.x.q, z.x.io, z.x.iod, z.x.fs, (z.n 0), (z.n 2), (z.n 3), (z.n 4), (z.n 5)] orsLwN [.cmp 1 (z.i 3) (z.i 4) false] [])
end Mine
lay_z Mine.lhsLwN Mine.rhsLwN
namespace Mine
theorem chkLwN (pg : Program) (P : Params) (r : Bool) (b t : Nat) (z : Zs) : lhsLwN pg (wf P r) b t z = rhsLwN pg (wf P r) b t z := by
  rw [PySem.W.ZFast.ze1836558312884974414, PySem.W.ZFast.ze12329331015825357862]
  cases r <;> kernel_rfl
theorem conLwN {w : World} {N U : Nat} (hN : N ≤ 800) (b t : Nat) (z : Zs) (hsd : ∀ y ∈ ([.cmp 1 (z.i 3) (z.i 4) false] : List Ob), y.ok) : ConF none [] w w.params N U (lwC (z.n 0) (z.n 1) (z.n 2) (z.n 3)) (lex6s w.params z.x (z.v 0) (z.v 1) (z.i 0) (z.l 0) (z.s 0) (z.v 2) (lwR w.params z.x (z.n 0) (z.n 2) (z.n 3) (z.n 4) (z.n 5) (z.n 7) (z.n 8) (z.n 9) (z.n 10) (z.n 6) (.int (z.i 3) (z.n 11)) (z.i 4) (z.n 12) (z.l 3) (z.n 13) (z.l 4) (z.n 14))) (lex6s w.params z.x (z.v 0) (z.v 1) (z.i 0) (z.l 0) (z.s 0) (z.v 2) (lwR w.params z.x (z.n 0) (z.n 2) (z.n 3) (z.n 4) (z.n 5) (z.n 7) (z.n 8) (z.n 9) (z.n 10) (z.n 6) (.int (z.i 3) (z.n 11)) (z.i 4) (z.n 12) (z.l 3) (z.n 13) (z.l 4) (z.n 14))) b t (0) (0) (.ok .next) := by
  have h := chkLwN pw w.params (w.params.followText row1) b t z
  rw [wf_self] at h
  exact conF_of_run rfl (spOk w) noCt_ok (fun _ h => by cases h) (fun _ h => by cases h) hN h rfl (toldC_ok _ _ _ hsd (fun _ h => by cases h))
/-! ## The law's while -/
def lawM (n : Nat) (O : List Nat) : Nat → Nat → Nat → List Nat → Nat × Nat × List Nat
  | 0, c, k, S => (c, k, S)
  | r + 1, c, k, S => match comesM n (O.getD c 0) k S with
    | (k1, S1, true) => lawM n O r (c + 1) k1 S1
    | (k1, S1, false) => (c, k1, S1)
def OrdIs (O : List Nat) (ov : List Value) : Prop := ∀ i < O.length, ∃ tok, ov[i]? = some (.int (O.getD i 0) tok)
def WordsIs (n : Nat) (wv : List Value) : Prop := ∀ i < n, ∃ tok, wv[i]? = some (.str (wd i) tok)
section
variable {w : World}
noncomputable abbrev dlw (P : Params) (x : Lx) (q : LS) (n : Nat) (F cn cw ao aw : Addr) (k0 k1 k2 k3 sa : Nat) (come : Value) (tn : Nat) (ov : List Value) (oc : Nat) (wv : List Value) (wc : Nat) : Dy :=
  d6s P x q n (lwR P x F cn cw ao aw k0 k1 k2 k3 sa come n tn ov oc wv wc)
theorem lawT {n : Nat} (h3 : 3 ≤ n) (h8 : n ≤ 8) {O : List Nat} (hO : O.length = n) (hOn : ∀ i < n, O.getD i 0 < n) {ov wv : List Value} (ho : OrdIs O ov) (hw : WordsIs n wv) (x : Lx) (F cr cn cw ao aw : Addr) (k0 k1 k2 k3 sa tn oc wc : Nat) :
    ∀ (r c k : Nat) (S : List Nat) (q : LS), n = c + r → q.is n k S → k ≤ n → S.length ≤ k → ∀ b t tc : Nat,
    ∃ q2 m ii tc2, LS.is q2 n (lawM n O r c k S).2.1 (lawM n O r c k S).2.2 ∧ (lawM n O r c k S).2.2.length ≤ (lawM n O r c k S).2.1 ∧ (lawM n O r c k S).2.1 ≤ n ∧
      ∀ N U, N ≤ 660 → Con w w.params N U (lwC F cr cn cw) (dlw w.params x q n F cn cw ao aw k0 k1 k2 k3 sa (.int c tc) tn ov oc wv wc)
        (dlw w.params x q2 n F cn cw ao aw k0 k1 k2 k3 sa (.int (lawM n O r c k S).1 tc2) tn ov oc wv wc) b t m ii (.ok .next) := by
  intro r
  induction r with
  | zero =>
    intro c k S q hn hq hk hS b t tc
    refine ⟨q, 0, 0, tc, hq, hS, hk, fun N U hN => ?_⟩
    refine conLwN (w := w) (N := N) (U := U) (by omega) b t (mkZ x [F, cr, cn, cw, ao, aw, sa, k0, k1, k2, k3, tc, tn, oc, wc, 0, 0, 0, 0, 0, 0, 0] [q.st, q.tk, q.pos] [txt n] [q.e, 0, 0, c, n] [q.its, [], [], ov, wv]) (fun y hy => ?_)
    obtain rfl := List.mem_singleton.mp hy
    refine ok_cmp ?_
    show decide ((c : Int) < (n : Int)) = false
    exact decide_eq_false (by omega)
  | succ r ih =>
    intro c k S q hn hq hk hS b t tc
    have hcn : c < n := by omega
    obtain ⟨ti, hi⟩ := ho c (by omega)
    obtain ⟨tw, hwi⟩ := hw (O.getD c 0) (hOn c hcn)
    obtain ⟨q1, m1, i1, hq1, hl1, hk1, hc1⟩ := comesT (w := w) h3 h8 (hOn c hcn) x tw hq hk hS (b + 0) (t + 0)
    have hobs : ∀ y ∈ ([.cmp 1 (c : Int) (n : Int) true] : List Ob), y.ok := fun y hy => by
      obtain rfl := List.mem_singleton.mp hy
      refine ok_cmp ?_
      show decide ((c : Int) < (n : Int)) = true
      exact decide_eq_true (by omega)
    have it1 : ∀ N U b t, Con w w.params N U (.call (.builtin "list.__getitem__") ⟨[.ref ao, .int c tc], []⟩) [(ao, liObj ov oc)] [(ao, liObj ov oc)] b t 0 0 (.ok (.ret (.int (O.getD c 0 : Nat) ti))) :=
      fun N U b t => con_item ao ov oc c tc _ (by omega) (by omega) (by simpa using hi)
    have it2 : ∀ N U b t, Con w w.params N U (.call (.builtin "list.__getitem__") ⟨[.ref aw, .int (O.getD c 0 : Nat) ti], []⟩) [(aw, liObj wv wc)] [(aw, liObj wv wc)] b t 0 0 (.ok (.ret (.str (wd (O.getD c 0)) tw))) :=
      fun N U b t => con_item aw wv wc (O.getD c 0 : Nat) ti _ (by omega) (by have := hOn c hcn; omega) (by simpa using hwi)
    rw [lawM]
    generalize comesM n (O.getD c 0) k S = G at hq1 hl1 hk1 hc1
    obtain ⟨k1', S1, bb⟩ := G
    cases bb with
    | true =>
      obtain ⟨q2, m2, i2, tc2, hq2, hl2, hk2, hcon⟩ := ih (c + 1) k1' S1 q1 (by omega) hq1 hk1 hl1 (b + (0 + m1)) (t + (0 + i1 + 3)) (t + (0 + i1 + 1))
      refine ⟨q2, 0 + m1 + m2, 0 + i1 + 3 + i2, tc2, hq2, hl2, hk2, fun N U hN => ?_⟩
      refine conLwT (w := w) (N := N) (U := U) (by omega) b t (mkZ x [F, cr, cn, cw, ao, aw, sa, k0, k1, k2, k3, tc, tn, oc, wc, ti, tw, m1, i1, m2, i2, tc2] [q.st, q.tk, q.pos, q1.st, q1.tk, q1.pos, q2.st, q2.tk, q2.pos] [txt n, wd (O.getD c 0)]
        [q.e, q1.e, q2.e, c, n, (O.getD c 0 : Nat), ((lawM n O r (c + 1) k1' S1).1 : Nat)] [q.its, q1.its, q2.its, ov, wv]) (ctOk_cons ?_ (ctOk_cons ?_ (ctOk_cons ?_ (ctOk_cons ?_ ctOk_nil)))) hobs
      · exact ⟨rfl, it1 _ _ _ _⟩
      · exact ⟨rfl, it2 _ _ _ _⟩
      · exact ⟨rfl, hc1 _ _ (by show N + 20 ≤ 700; omega)⟩
      · exact ⟨rfl, hcon _ _ (by show N + 0 ≤ 660; omega)⟩
    | false =>
      refine ⟨q1, 0 + m1, 0 + i1, tc, hq1, hl1, hk1, fun N U hN => ?_⟩
      refine conLwF (w := w) (N := N) (U := U) (by omega) b t (mkZ x [F, cr, cn, cw, ao, aw, sa, k0, k1, k2, k3, tc, tn, oc, wc, ti, tw, m1, i1, 0, 0, 0] [q.st, q.tk, q.pos, q1.st, q1.tk, q1.pos] [txt n, wd (O.getD c 0)]
        [q.e, q1.e, 0, c, n, (O.getD c 0 : Nat)] [q.its, q1.its, [], ov, wv]) (ctOk_cons ?_ (ctOk_cons ?_ (ctOk_cons ?_ ctOk_nil))) hobs
      · exact ⟨rfl, it1 _ _ _ _⟩
      · exact ⟨rfl, it2 _ _ _ _⟩
      · exact ⟨rfl, hc1 _ _ (by show N + 20 ≤ 700; omega)⟩
end
/-! ## join: a generator over the words -/
noncomputable def fdOf (o : Obj) : FuncData := match o.data with
  | .func fd => fd
  | _ => default
noncomputable def fdJ : FuncData := fdOf (fnObj x23.s (Str.ofString "join") (Str.ofString "join") .none (.ref 742) (.str (Str.ofString "cpy313.shlex") 1087))
theorem fdJ_names : fdJ.scope.names = [(Str.ofString "split_command", NameKind.local)] := by with_unfolding_all rfl
theorem fdJ_data (P : Params) : (k743 P).data = .func fdJ := by with_unfolding_all rfl
noncomputable def es3 (P : Params) : Array DictEntry := match (k3 P).data with
  | .dict es _ => es
  | _ => #[]
noncomputable def g3 (P : Params) : Str → Option Value := nsFind (es3 P)
theorem es3_keys (P : Params) : StrKeys (es3 P) := by
  have key : ((es3 P).toList.all fun e => match e.key with | .str _ _ => true | _ => false) = true := by with_unfolding_all rfl
  intro e he
  have := List.all_eq_true.mp key e (Array.mem_toList_iff.mpr he)
  cases hk : e.key <;> rw [hk] at this <;> first | exact ⟨_, _, rfl⟩ | cases this
theorem g3_quote (P : Params) : g3 P (Str.ofString "quote") = some (.ref 751) := by with_unfolding_all rfl
theorem g3_bi (P : Params) : g3 P (Str.ofString "__builtins__") = some (.ref 4) := by with_unfolding_all rfl
theorem k4_is (P : Params) : (k4 P).cls = .type "module" ∧ (k4 P).dict = some builtinsNs ∧ (k4 P).data = .plain := ⟨rfl, rfl, rfl⟩
/-- the quoted words -/
def qw : Nat → Str
  | 0 => ⟨#[39, 105, 116, 39, 34, 39, 34, 39, 115, 39]⟩ | 1 => ⟨#[39, 97, 32, 98, 39]⟩ | 2 => ⟨#[39, 35, 39]⟩ | 3 => ⟨#[39, 39]⟩
  | 4 => ⟨#[39, 120, 34, 39]⟩ | 5 => ⟨#[39, 92, 39]⟩ | 6 => ⟨#[39, 36, 39]⟩ | _ => ⟨#[61]⟩
/-- quote of a word: whatever the generators are -/
theorem quoteT {w : World} {i : Nat} (hi : i < 8) (tw : Nat) (b t : Nat) : ∃ tk m ii, ∀ N U, N ≤ 800 → Con w w.params N U (.call (.ref 751) ⟨[.str (wd i) tw], []⟩) [] [] b t m ii (.ok (.ret (.str (qw i) tk))) := by
  obtain rfl | rfl | rfl | rfl | rfl | rfl | rfl | rfl : i = 0 ∨ i = 1 ∨ i = 2 ∨ i = 3 ∨ i = 4 ∨ i = 5 ∨ i = 6 ∨ i = 7 := by omega
  · refine ⟨_, _, _, fun N U hN => conQ0 (w := w) (N := N) (U := U) hN b t (mkZ lx0 [tw] [] [] [] []) (ctOk_cons ?_ ctOk_nil)⟩
    exact ⟨rfl, con_replaceQ tw (t + 4) (t + 5) (by omega) (by omega) (by omega)⟩
  · exact ⟨_, _, _, fun N U hN => conQ1 (w := w) (N := N) (U := U) hN b t (mkZ lx0 [tw] [] [] [] [])⟩
  · exact ⟨_, _, _, fun N U hN => conQ2 (w := w) (N := N) (U := U) hN b t (mkZ lx0 [tw] [] [] [] [])⟩
  · exact ⟨_, _, _, fun N U hN => conQ3 (w := w) (N := N) (U := U) hN b t (mkZ lx0 [tw] [] [] [] [])⟩
  · exact ⟨_, _, _, fun N U hN => conQ4 (w := w) (N := N) (U := U) hN b t (mkZ lx0 [tw] [] [] [] [])⟩
  · exact ⟨_, _, _, fun N U hN => conQ5 (w := w) (N := N) (U := U) hN b t (mkZ lx0 [tw] [] [] [] [])⟩
  · exact ⟨_, _, _, fun N U hN => conQ6 (w := w) (N := N) (U := U) hN b t (mkZ lx0 [tw] [] [] [] [])⟩
  · exact ⟨_, _, _, fun N U hN => conQ7 (w := w) (N := N) (U := U) hN b t (mkZ lx0 [tw] [] [] [] [])⟩
theorem join_ok : ∀ n < 9, JoinOk (Str.ofString " ") ((List.range n).map qw) = true ∧ (3 ≤ n → Txt.join (Str.ofString " ") ((List.range n).map qw) = txt n) ∧ passing (fun _ => true) n 0 = List.range n := by decide +kernel
theorem joinRun {w : World} {k : Nat} {p1 p2 p3 p4 p5 p6 p7 p8 p9 p0 : Pos} {sc : Scope}
    (hb : fnBody x23.s = [.Return (some (.Call (.Attribute (.Constant (.str (Str.ofString " ")) k p1) (Str.ofString "join") p2) [.GeneratorExp (.Call (.Name (Str.ofString "quote") p3) [.Name (Str.ofString "arg") p4] [] p5) [⟨.Name (Str.ofString "arg") p6, .Name (Str.ofString "split_command") p7, [], 0⟩] sc p8] [] p9)) p0])
    (hline : (p2.endLine == p9.line) = true) (hco : sc.isCoroutine = false) (hkind : sc.kind = .function) (hnm : sc.names = [(Str.ofString ".0", NameKind.local), (Str.ofString "arg", NameKind.local), (Str.ofString "quote", NameKind.globalImplicit)]) (hclos : ∀ env, closureFor sc env = pure [])
    {n : Nat} (h3 : 3 ≤ n) (h8 : n ≤ 8) {wv : List Value} (hwl : wv.length = n) (hw : WordsIs n wv) {h₀ : Bs} {D : Dy} {b m : Nat} {h : Heap} {g : Array GenState} {d : Drawn} {t : Nat} {o : OsState} {B : Around}
    (r : Rp w.params h₀ h D b m) (h738 : h.get? 738 = some (k738 w.params)) {aw wc : Nat} (haw : h.get? aw = some (liObj wv wc)) (G : AllBare g) (hB : B.depth ≤ 700) (hU : B.units ≤ 9000) (hh : B.handled = none) {R : Result → Shared → Prop}
    (hR : ∀ h' g' t' tk, AllBare g' → (∀ a o, a ≠ 738 → h.get? a = some o → h'.get? a = some o) → h.objs.size ≤ h'.objs.size → (∃ vs, h'.get? 738 = some { cls := .none, data := .fields vs }) → R (.ok (.ret (.str (txt n) tk))) ⟨h', g', d, t', o⟩) :
    codeAny (Md w) B (.call (.ref 743) ⟨[.ref aw], []⟩) R ⟨h, g, d, t, o⟩ := by
  have hf : h.get? 743 = some (k743 w.params) := r.stat (743, k743 w.params) (kGet_mem (by kernel_rfl))
  have hc : h.get? 742 = some (k742 w.params) := r.stat (742, k742 w.params) (kGet_mem (by kernel_rfl))
  have hrl : recursionLimit = 1000 := rfl
  refine codeAny_call_def (body := fnBody x23.s) (fd := fdJ) (binds := [(Str.ofString "split_command", .ref aw)]) (s := ⟨h, g, d, t, o⟩) (by omega) hf (fdJ_data _) r.noLimit ⟨742, _, _, _, by with_unfolding_all rfl, hc, rfl, by with_unfolding_all rfl⟩ (by with_unfolding_all rfl) (BindsTo.of_eq (by with_unfolding_all rfl)) (by rw [fdJ_names]; decide) (by rw [fdJ_names]; intro x hx; obtain rfl := List.mem_singleton.mp hx; rfl) (fun h1 hns hk1 => ?_) (by with_unfolding_all rfl) (by with_unfolding_all rfl) (by with_unfolding_all rfl)
  have hlim : h1.NoLimit := r.noLimit.keeps hk1
  rw [hb, execs_cons, exec_Return_some]
  refine wpAny_bind (wpAny_bind (wpAny_standAt (wpAny_bind ?_)))
  refine Call_method1 (by rfl) (by rfl) hline ?_
  refine Constant_str ?_
  refine ⟨"str", "str.join", F.plainAttrs_str, F.slot_str_join, F.type_str_join, typeIs_str _ _ _, (fun a e => by cases e), ?_⟩
  refine Calls.callWith_builtin rfl (Calls.evalArgs_plain (Calls.spliced_cons ?_))
  refine wpAny_GeneratorExp_walksQD (cl := []) hh hco (hclos _) (by rw [hnm]; decide) (by rw [hnm]; rfl) (by rw [hnm]; rfl) hkind (by show B.depth + 1 < recursionLimit; omega) ?_ (fun _ => by with_unfolding_all rfl)
  -- the words
  refine ldG hns rfl ?_ (by with_unfolding_all rfl) (by with_unfolding_all rfl)
  have hawl : h1.IsList aw wv.toArray := ⟨_, hk1 _ _ haw, rfl, _, rfl⟩
  refine wpAny_pyIter_list hawl ⟨hlim.push _, ?_⟩
  have hk2 : ∀ a o', h.get? a = some o' → (h1.push { cls := .type "list_iterator", data := .fields #[.ref aw, .int 0 0] }).get? a = some o' := fun a o' e => Heap.get?_push_of_some _ (hk1 _ _ e)
  refine wpAny_genexprCodeX (c := 742) (P := 738) (ps := #[]) (by with_unfolding_all rfl) ⟨_, _, _, _, _, _, _, _, _, _, hk2 _ _ hc, rfl, rfl, rfl, rfl, rfl, rfl, hk2 _ _ h738, rfl, (by with_unfolding_all trivial), by decide⟩ ⟨⟨_, _, hk2 _ _ hc, rfl, rfl, rfl⟩, hk2 _ _ h738⟩ rfl fun c' h3' tk3 hx3 hge hlt hcode3 hrec3 htab3 _ => ?_
  have hk3 : ∀ a o', a ≠ 738 → h.get? a = some o' → h3'.get? a = some o' := fun a o' ne e => hx3 _ _ ne (hk2 _ _ e)
  have hst3 : ∀ p ∈ K w.params, h3'.get? p.1 = some p.2 := fun p hp => hk3 _ _ (K_low _ p hp).2 (r.stat p hp)
  have hlim3 : h3'.NoLimit := (hlim.push _).extBut hx3 (by decide)
  have hns3 : h3'.Ns 3 (g3 w.params) := ⟨_, es3 w.params, _, hst3 (3, k3 w.params) (kGet_mem (by kernel_rfl)), rfl, es3_keys _, fun _ => rfl⟩
  refine wpAny_builtinsFor (m := g3 w.params) (bm := 4) (o := k4 w.params) hns3 (g3_bi _) (by decide) (hst3 (4, k4 w.params) (kGet_mem (by kernel_rfl))) rfl rfl rfl ?_
  have haw7 : aw ≠ 738 := fun e => by
    rw [e, h738] at haw
    have e2 := congrArg (fun o => o.map Obj.cls) haw
    cases e2
  have hLlt : h.objs.size < h1.objs.size := hns.lt
  have h769 : 769 ≤ h.objs.size := Nat.le_trans r.low (by rw [r.size]; exact Nat.le_add_right _ _)
  have hawlt : aw < h.objs.size := Heap.lt_size haw
  have hge' : h1.objs.size + 1 ≤ c' := by
    have := hge
    rw [Heap.size_push] at this; exact this
  have hlt' : c' < h3'.objs.size := hlt
  have hIne : h1.objs.size ≠ 738 := by omega
  have hbig : 770 < h3'.objs.size := by omega
  have hI3 : h1.objs.size < h3'.objs.size := by omega
  have hIbig : 769 < h1.objs.size := by omega
  have hawI : aw ≠ h1.objs.size := by omega
  have hLne : h.objs.size ≠ 738 := by omega
  have hL3s : h.objs.size < h3'.objs.size := by omega
  have haw3 : aw < h3'.objs.size := by omega
  have hLI : h.objs.size ≠ h1.objs.size := by omega
  have hL3 : ∃ oL, h3'.get? h.objs.size = some oL := by
    obtain ⟨oL, _, _, e, _⟩ := hns
    exact ⟨oL, hx3 _ _ hLne (Heap.get?_push_of_some _ e)⟩
  refine ⟨h1.objs.size, [h1.objs.size, aw], [h1.objs.size], wv.toArray.size, _, _, fun _ => true, fun i v => ∃ u, v = .str (qw i) u, rfl, fun A' hA => Walks.list hA h1.objs.size aw hawI wv.toArray, ⟨⟨_, hx3 _ _ hIne (Heap.get?_push_size _ rfl), rfl, rfl⟩, ⟨_, hk3 _ _ haw7 haw, rfl, _, rfl⟩⟩, ?_, hlim3, ?_, ?_, ?_⟩
  · intro b' hb'
    show b' < h3'.objs.size
    simp only [List.mem_cons, List.not_mem_nil, or_false] at hb'
    rcases hb' with rfl | rfl
    · exact hI3
    · exact haw3
  · intro hm
    have e : cStatics = h1.objs.size := List.mem_singleton.mp hm
    have : cStatics = 2 := rfl
    exact absurd (this ▸ e) (show (2 : Nat) ≠ h1.objs.size from Nat.ne_of_lt (Nat.lt_trans (by decide) hIbig))
  · intro href hhref
    refine ⟨fun A' E' i v s₂ m₂ hA hd hu hP hn hm hkp => wpAny_pure ⟨rfl, ⟨_, _, rfl, fun _ _ e => e⟩⟩, fun A' E' i v s₂ m₂ hA hd hu hP _ hn hm hkp => ?_⟩
    have hkp' : ∀ a o', a < h3'.objs.size → a ≠ h1.objs.size → h3'.get? a = some o' → s₂.heap.get? a = some o' := fun a o' ha hne e => hkp a (List.mem_range.mpr ha) (by simpa using hne) o' (hhref _ _ e)
    have hst2 : ∀ p ∈ K w.params, s₂.heap.get? p.1 = some p.2 := fun p hp => hkp' _ _ (Nat.lt_trans (K_low _ p hp).1 (Nat.lt_trans (by decide) hbig)) (Nat.ne_of_lt (Nat.lt_trans (K_low _ p hp).1 hIbig)) (hst3 p hp)
    have hsz2 : 769 ≤ s₂.heap.objs.size := by
      obtain ⟨oL, e⟩ := hL3
      exact Nat.le_of_lt (Nat.lt_of_le_of_lt h769 (Heap.lt_size (hkp' _ _ hL3s hLI e)))
    refine Call_name1 (by rfl) (Calls.Name_function_global hkind (by show sc.names.lookup _ = _; rw [hnm]; rfl) (Calls.loadGlobal_global (mg := g3 w.params) ⟨_, es3 w.params, _, hst2 (3, k3 w.params) (kGet_mem (by kernel_rfl)), rfl, es3_keys _, fun _ => rfl⟩ (g3_quote _) ?_))
    refine Calls.callWith_function (o := k751 w.params) (fd := fdOf (k751 w.params)) (Calls.evalArgs_plain (Calls.spliced_cons (ldG hn hm (Calls.spliced_nil ⟨⟨hst2 (751, k751 w.params) (kGet_mem (by kernel_rfl)), by with_unfolding_all rfl⟩, ?_⟩) hkind (by show sc.names.lookup _ = _; rw [hnm]; rfl))))
    have hi : i < n := by
      have := (Array.getElem?_eq_some_iff.mp hP).1
      simpa [hwl] using this
    obtain ⟨tw, etw⟩ := hw i hi
    have ev : v = .str (wd i) tw := by
      have : wv[i]? = some v := by simpa using hP
      rw [etw] at this
      exact (Option.some.inj this).symm
    subst ev
    obtain ⟨tk, m', ii', hq⟩ := quoteT (w := w) (i := i) (by omega) tw s₂.heap.objs.size s₂.toks
    have rp0 : Rp w.params ⟨s₂.heap, [], []⟩ s₂.heap [] s₂.heap.objs.size 0 :=
      ⟨by simp, hsz2, hst2, (fun p hp => by cases hp), List.nodup_nil, (fun p hp => by cases hp), (fun p hp => by cases hp), Nat.le_refl _, (fun a o e _ _ => e), (fun a ha => by cases ha), (fun p hp => by cases hp), (fun a ha => by cases ha), (fun a ha => by cases ha)⟩
    refine wpAny_call (hq 800 A'.units (Nat.le_refl _) s₂.heap s₂.gens s₂.drawn s₂.os A' (fun g' => g' = s₂.gens) rfl (Nat.le_trans hd (show B.depth + 1 + 1 ≤ 800 by omega)) (Nat.le_refl _) hA (fun _ e => by cases e) rp0 _ fun h' g' e' r' => ?_)
    subst e'
    exact ⟨⟨tk, rfl⟩, h', _, rfl, fun b' o' e => r'.keep b' o' e (by simp) (by simp)⟩
  · intro a h5 tk5 gs hgb hag hsz5 hk5 W hat
    refine Calls.spliced_nil ?_
    obtain ⟨hok, htx, hpass⟩ := join_ok n (by omega)
    have hsz' : wv.toArray.size = n := by simp [hwl]
    have hz : sizeLine = 16777216 := by decide
    rw [hsz'] at W hat
    rw [hpass] at W
    rw [List.length_range] at W
    have hag' : h3'.objs.size < a := hag
    refine SC.joinGen W.in4_2 (fun i s' st => st.1.typeIs) hat ?_ List.mem_cons_self (fun i v hv => by obtain ⟨_, _, u, e⟩ := hv; exact ⟨_, u, e⟩) (fun s' l hm hacc => ?_) (by rw [hz]; omega)
    · intro b' hb'
      show b' < h5.objs.size
      rw [hsz5]
      rcases List.mem_cons.mp hb' with rfl | hb'
      · exact Nat.lt_succ_self _
      · rcases List.mem_cons.mp hb' with rfl | hb'
        · exact Nat.lt_succ_of_lt hag
        · exact Nat.lt_succ_of_lt (Nat.lt_trans (List.mem_range.mp hb') hag)
    · have hl : l.map (·.1) = (List.range n).map qw := by
        apply List.ext_getElem?
        intro j
        have hsz : l.length = n := by simpa [strValues] using hacc.1
        by_cases hj : j < n
        · have hj' : j < l.length := hsz ▸ hj
          obtain ⟨i, hi, u, hv⟩ := hacc.2 j (.str l[j].1 l[j].2) (by simp [strValues, List.getElem?_eq_getElem hj'])
          have hij : i = j := by simpa [hj] using hi.symm
          subst hij
          injection hv with h1 _
          simp [List.getElem?_eq_getElem hj', hj, h1]
        · rw [List.getElem?_eq_none (by simpa [hsz] using Nat.le_of_not_lt hj), List.getElem?_eq_none (by simpa using Nat.le_of_not_lt hj)]
      rw [hl, htx h3]
      refine ⟨hok, fun t' kk => ?_⟩
      refine wpAny_pure ?_
      refine wpAny_pure ?_
      have hkall : ∀ a' o', a' ≠ 738 → h.get? a' = some o' → s'.heap.get? a' = some o' := fun a' o' ne e => by
        have hlt : a' < h.objs.size := Heap.lt_size e
        refine hm.heap a' o' ?_ (hk5 _ _ (hk3 _ _ ne e))
        intro hmem
        rcases List.mem_cons.mp hmem with q | q
        · exact absurd q (Nat.ne_of_lt (Nat.lt_trans hlt hL3s))
        · exact absurd (List.mem_singleton.mp q) (Nat.ne_of_lt (Nat.lt_trans hlt hLlt))
      have hd' : s'.drawn = d := hm.drawn
      have ho' : s'.os = o := hm.os
      have hsz5' : h.objs.size ≤ s'.heap.objs.size := by
        obtain ⟨oL, e⟩ := hL3
        refine Nat.le_of_lt (Heap.lt_size (hm.heap _ _ ?_ (hk5 _ _ e)))
        intro hmem
        rcases List.mem_cons.mp hmem with q | q
        · exact absurd q (Nat.ne_of_lt hL3s)
        · exact absurd (List.mem_singleton.mp q) hLI
      have e : (⟨s'.heap, s'.gens, s'.drawn, kk, s'.os⟩ : Shared) = ⟨s'.heap, s'.gens, d, kk, o⟩ := by rw [hd', ho']
      show R (.ok (.ret (.str (txt n) t'))) ⟨s'.heap, s'.gens, s'.drawn, kk, s'.os⟩
      rw [e]
      refine hR _ _ _ _ (AllBare.moved (AllBare.push G hgb) hm.gens) hkall hsz5' ⟨_, hm.heap 738 _ ?_ (hk5 _ _ htab3.2)⟩
      intro hmem
      rcases List.mem_cons.mp hmem with q | q
      · exact absurd q (Nat.ne_of_lt (Nat.lt_trans (by decide) hbig))
      · exact absurd (List.mem_singleton.mp q).symm hIne
/-- join(words): the text, at a state of unknown size -/
theorem joinT {w : World} {n : Nat} (h3 : 3 ≤ n) (h8 : n ≤ 8) {wv : List Value} (hwl : wv.length = n) (hw : WordsIs n wv) {h₀ : Bs} {D : Dy} {b m : Nat} {h : Heap} {g : Array GenState} {d : Drawn} {t : Nat} {o : OsState} {B : Around}
    (r : Rp w.params h₀ h D b m) (h738 : h.get? 738 = some (k738 w.params)) {aw wc : Nat} (haw : h.get? aw = some (liObj wv wc)) (G : AllBare g) (hB : B.depth ≤ 700) (hU : B.units ≤ 9000) (hh : B.handled = none) {R : Result → Shared → Prop}
    (hR : ∀ h' g' t' tk, AllBare g' → (∀ a o, a ≠ 738 → h.get? a = some o → h'.get? a = some o) → h.objs.size ≤ h'.objs.size → (∃ vs, h'.get? 738 = some { cls := .none, data := .fields vs }) → R (.ok (.ret (.str (txt n) tk))) ⟨h', g', d, t', o⟩) :
    codeAny (Md w) B (.call (.ref 743) ⟨[.ref aw], []⟩) R ⟨h, g, d, t, o⟩ :=
  joinRun (by with_unfolding_all exact rfl) (by with_unfolding_all rfl) (by with_unfolding_all rfl) (by with_unfolding_all rfl) (by with_unfolding_all rfl) (fun _ => by with_unfolding_all rfl) h3 h8 hwl hw r h738 haw G hB hU hh hR
/-! ## order -/
/-- the place of i: how many j come before it -/
def ltB (R : Nat → Int) (i j : Nat) : Bool := if R j = R i then decide (j < i) else decide (R j < R i)
def cntB (R : Nat → Int) (i c r : Nat) : Nat := (List.range' c r).countP (ltB R i)
def RowIs (n : Nat) (R : Nat → Int) (rv : List Value) : Prop := ∀ j < n, ∃ tok, rv[j]? = some (.int (R j) tok)
theorem ilU (it acc F C2 ci cr cn cw : Addr) : (ilC it acc F C2 ci cr cn cw).cUnits = 0 := by
  have e1 : (ilC it acc F C2 ci cr cn cw).cUnits = 3 * Code.frames (ilC it acc F C2 ci cr cn cw) := rfl
  have e2 : Code.frames (ilC it acc F C2 ci cr cn cw) = 0 := rfl
  rw [e1, e2]
theorem olU (it acc F C ci cr cn cw : Addr) : (olC it acc F C ci cr cn cw).cUnits = 0 := by
  have e1 : (olC it acc F C ci cr cn cw).cUnits = 3 * Code.frames (olC it acc F C ci cr cn cw) := rfl
  have e2 : Code.frames (olC it acc F C ci cr cn cw) = 0 := rfl
  rw [e1, e2]
section
variable {w : World}
theorem ilT {n : Nat} (h8 : n ≤ 8) {R : Nat → Int} {rv : List Value} (hr : RowIs n R rv) {i : Nat} (hi : i < n) (F C2 ci cr cn cw ar it acc rc ti : Nat) (kj : Nat) : ∀ (r c : Nat) (cc rr : Int) (av : List Value) (ac : Nat) (j0 : Int) (tj0 : Nat), n = c + r → cc = c → rr = r → av.length ≤ c → ∀ b t : Nat,
    ∃ av2 ac2 jf tjf m ii, av2.length = av.length + cntB R i c r ∧ ∀ N U, N ≤ 740 → U + 3 < cLine → Con w w.params N U (ilC it acc F C2 ci cr cn cw) (iD ci cr ar it acc C2 (.int i ti) rv rc cc rr av ac (dJ w.params kj j0 tj0)) (iD ci cr ar it acc C2 (.int i ti) rv rc n 0 av2 ac2 (dJ w.params kj jf tjf)) b t m ii (.ok .next) := by
  intro r
  induction r with
  | zero =>
    intro c cc rr av ac j0 tj0 hn hc hrr hav b t
    subst hc hrr
    obtain rfl : n = c := by omega
    refine ⟨av, ac, j0, tj0, 2, 0, by simp [cntB], fun N U hN hU => ?_⟩
    have := conIEnd (w := w) (N := N) (U := U) (by omega) b t (mkZ lx0 [F, C2, ci, cr, cn, cw, ar, it, acc] [] [] [0, n] [])
    exact ConF.wide (D₁ := [(it, rIt n 0)]) (Dn := []) [false, false, false, true, false, false] this rfl rfl
  | succ r ih =>
    intro c cc rr av ac j0 tj0 hn hc hrr hav b t
    have hcn : c < n := by omega
    obtain ⟨txj, hj⟩ := hr c hcn
    obtain ⟨txi, hxi⟩ := hr i hi
    have e1 : cntB R i c (r + 1) = (if ltB R i c = true then 1 else 0) + cntB R i (c + 1) r := by
      unfold cntB; rw [List.range'_succ, List.countP_cons]; omega
    have nx : ∀ N U b t, Con w w.params N U (.call (.builtin "range_iterator.__next__") ⟨[.ref it], []⟩) [(it, rIt cc rr)] [(it, rIt (cc + 1) (rr - 1))] b t 0 1 (.ok (.ret (.int cc t))) := fun N U b t => con_rangeNext it cc rr (by omega)
    have g1 : ∀ N U b t tc, Con w w.params N U (.call (.builtin "list.__getitem__") ⟨[.ref ar, .int cc tc], []⟩) [(ar, liObj rv rc)] [(ar, liObj rv rc)] b t 0 0 (.ok (.ret (.int (R c) txj))) := fun N U b t tc => con_item ar rv rc cc tc _ (by omega) (by omega) (by rw [hc]; simpa using hj)
    have g2 : ∀ N U b t, Con w w.params N U (.call (.builtin "list.__getitem__") ⟨[.ref ar, .int i ti], []⟩) [(ar, liObj rv rc)] [(ar, liObj rv rc)] b t 0 0 (.ok (.ret (.int (R i) txi))) := fun N U b t => con_item ar rv rc i ti _ (by omega) (by omega) (by simpa using hxi)
    have lt : ∀ N U b t p q t2, Con w w.params N U (.call (.builtin "tuple.__lt__") ⟨[.ref p, .ref q], []⟩) [(p, tuObj [.int (R c) txj, .int cc t2] 0), (q, tuObj [.int (R i) txi, .int i ti] 0)] [(p, tuObj [.int (R c) txj, .int cc t2] 0), (q, tuObj [.int (R i) txi, .int i ti] 0)] b t 0 0 (.ok (.ret (.bool (ltB R i c)))) := fun N U b t p q t2 => by
      have := con_tupLt (w := w) (P := w.params) (N := N) (U := U) (b := b) (t := t) p q (R c) cc (R i) i txj t2 txi ti 0 0
      rw [show (if R c = R i then decide (cc < (i : Int)) else decide (R c < R i)) = ltB R i c from by unfold ltB; rw [hc]; simp] at this
      exact this
    cases hb : ltB R i c with
    | true =>
      obtain ⟨av2, ac2, jf, tjf, m2, i2, hlen, hcon⟩ := ih (c + 1) (cc + 1) (rr - 1) (av ++ [.int cc (t + 0)]) (ac + 1) cc (t + 0) (by omega) (by omega) (by omega) (by simp; omega) (b + 2) (t + 2)
      refine ⟨av2, ac2, jf, tjf, 2 + m2, 2 + i2, by rw [hlen, e1, hb]; simp; omega, fun N U hN hU => ?_⟩
      refine conIT1T (w := w) (N := N) (U := U) (by omega) b t (mkZ lx0 [F, C2, ci, cr, cn, cw, ar, it, acc, rc, ac, ac2, ti, txj, txi, kj, tj0, tjf, m2, i2] [] [] [i, cc, rr, n, 0, jf, j0, R c, R i] [rv, av, av2]) (ctOk_cons ?_ (ctOk_cons ?_ (ctOk_cons ?_ (ctOk_cons ?_ (ctOk_cons ?_ (ctOk_cons ?_ ctOk_nil)))))) (by rw [ilU]; omega)
      · exact ⟨rfl, nx _ _ _ _⟩
      · exact ⟨rfl, g1 _ _ _ _ _⟩
      · exact ⟨rfl, g2 _ _ _ _⟩
      · refine ⟨rfl, ?_⟩
        have := lt (N + 20) (U + 200) (b + 2) (t + 2) (b + 0) (b + 1) (t + 0)
        rw [hb] at this
        exact this
      · exact ⟨rfl, con_append acc av ac _ (by omega)⟩
      · exact ⟨rfl, hcon _ _ (by show N + 0 ≤ 740; omega) (by show U + 0 + 3 < cLine; omega)⟩
    | false =>
      obtain ⟨av2, ac2, jf, tjf, m2, i2, hlen, hcon⟩ := ih (c + 1) (cc + 1) (rr - 1) av ac cc (t + 0) (by omega) (by omega) (by omega) (by omega) (b + 2) (t + 2)
      refine ⟨av2, ac2, jf, tjf, 2 + m2, 2 + i2, by rw [hlen, e1, hb]; simp, fun N U hN hU => ?_⟩
      refine conIT1F (w := w) (N := N) (U := U) (by omega) b t (mkZ lx0 [F, C2, ci, cr, cn, cw, ar, it, acc, rc, ac, ac2, ti, txj, txi, kj, tj0, tjf, m2, i2] [] [] [i, cc, rr, n, 0, jf, j0, R c, R i] [rv, av, av2]) (ctOk_cons ?_ (ctOk_cons ?_ (ctOk_cons ?_ (ctOk_cons ?_ (ctOk_cons ?_ ctOk_nil))))) (by rw [ilU]; omega)
      · exact ⟨rfl, nx _ _ _ _⟩
      · exact ⟨rfl, g1 _ _ _ _ _⟩
      · exact ⟨rfl, g2 _ _ _ _⟩
      · refine ⟨rfl, ?_⟩
        have := lt (N + 20) (U + 200) (b + 2) (t + 2) (b + 0) (b + 1) (t + 0)
        rw [hb] at this
        exact this
      · exact ⟨rfl, hcon _ _ (by show N + 0 ≤ 740; omega) (by show U + 0 + 3 < cLine; omega)⟩
/-- one order: how many come before place i -/
theorem isT {n : Nat} (h8 : n ≤ 8) {R : Nat → Int} {rv : List Value} (hr : RowIs n R rv) {i : Nat} (hi : i < n) (F C2 ci cr cn cw ar it acc rc ti : Nat) : ∀ b t : Nat,
    ∃ av2 ac2 kj jf tjf m ii, av2.length = cntB R i 0 n ∧ ∀ N U, N ≤ 720 → U + 3 < cLine → Con w w.params N U (isC it acc F C2 ci cr cn cw) (iD ci cr ar it acc C2 (.int i ti) rv rc 0 n [] 0 (dO [] 0)) (iD ci cr ar it acc C2 (.int i ti) rv rc n 0 av2 ac2 (dJ w.params kj jf tjf)) b t m ii (.ok .next) := by
  intro b t
  obtain ⟨n', rfl⟩ : ∃ n', n = n' + 1 := ⟨n - 1, by omega⟩
  obtain ⟨txj, hj⟩ := hr 0 (by omega)
  obtain ⟨txi, hxi⟩ := hr i hi
  have e1 : cntB R i 0 (n' + 1) = (if ltB R i 0 = true then 1 else 0) + cntB R i 1 n' := by
    unfold cntB; rw [List.range'_succ, List.countP_cons, Nat.zero_add]; omega
  have nx : ∀ N U b t, Con w w.params N U (.call (.builtin "range_iterator.__next__") ⟨[.ref it], []⟩) [(it, rIt 0 (n' + 1 : Nat))] [(it, rIt (0 + 1) ((n' + 1 : Nat) - 1))] b t 0 1 (.ok (.ret (.int 0 t))) := fun N U b t => con_rangeNext it 0 _ (by omega)
  have g1 : ∀ N U b t tc, Con w w.params N U (.call (.builtin "list.__getitem__") ⟨[.ref ar, .int 0 tc], []⟩) [(ar, liObj rv rc)] [(ar, liObj rv rc)] b t 0 0 (.ok (.ret (.int (R 0) txj))) := fun N U b t tc => con_item ar rv rc 0 tc _ (by omega) (by omega) (by simpa using hj)
  have g2 : ∀ N U b t, Con w w.params N U (.call (.builtin "list.__getitem__") ⟨[.ref ar, .int i ti], []⟩) [(ar, liObj rv rc)] [(ar, liObj rv rc)] b t 0 0 (.ok (.ret (.int (R i) txi))) := fun N U b t => con_item ar rv rc i ti _ (by omega) (by omega) (by simpa using hxi)
  have lt : ∀ N U b t p q t2, Con w w.params N U (.call (.builtin "tuple.__lt__") ⟨[.ref p, .ref q], []⟩) [(p, tuObj [.int (R 0) txj, .int 0 t2] 0), (q, tuObj [.int (R i) txi, .int i ti] 0)] [(p, tuObj [.int (R 0) txj, .int 0 t2] 0), (q, tuObj [.int (R i) txi, .int i ti] 0)] b t 0 0 (.ok (.ret (.bool (ltB R i 0)))) := fun N U b t p q t2 => by
    have := con_tupLt (w := w) (P := w.params) (N := N) (U := U) (b := b) (t := t) p q (R 0) 0 (R i) i txj t2 txi ti 0 0
    rw [show (if R 0 = R i then decide ((0 : Int) < (i : Int)) else decide (R 0 < R i)) = ltB R i 0 from by unfold ltB; simp] at this
    exact this
  have loop : ∃ av2 ac2 kj jf tjf m ii, av2.length = cntB R i 0 (n' + 1) ∧ ∀ N U, N ≤ 720 → U + 3 < cLine → Con w w.params N U (ilC it acc F C2 ci cr cn cw) (iD ci cr ar it acc C2 (.int i ti) rv rc 0 (n' + 1 : Nat) [] 0 (dO [] 0)) (iD ci cr ar it acc C2 (.int i ti) rv rc (n' + 1 : Nat) 0 av2 ac2 (dJ w.params kj jf tjf)) b t m ii (.ok .next) := by
    cases hb : ltB R i 0 with
    | true =>
      obtain ⟨av2, ac2, jf, tjf, m2, i2, hlen, hcon⟩ := ilT (w := w) h8 hr hi F C2 ci cr cn cw ar it acc rc ti (t + 1) n' 1 (0 + 1) ((n' + 1 : Nat) - 1) ([] ++ [.int 0 (t + 0)]) (0 + 1) 0 (t + 0) (by omega) (by omega) (by omega) (by simp) (b + 2) (t + 2)
      refine ⟨av2, ac2, t + 1, jf, tjf, 2 + m2, 2 + i2, by rw [hlen, e1, hb]; simp, fun N U hN hU => ?_⟩
      refine conIT0T (w := w) (N := N) (U := U) (by omega) b t (mkZ lx0 [F, C2, ci, cr, cn, cw, ar, it, acc, rc, 0, ac2, ti, txj, txi, 0, 0, tjf, m2, i2] [] [] [i, 0, (n' + 1 : Nat), (n' + 1 : Nat), 0, jf, 0, R 0, R i] [rv, [], av2]) (ctOk_cons ?_ (ctOk_cons ?_ (ctOk_cons ?_ (ctOk_cons ?_ (ctOk_cons ?_ (ctOk_cons ?_ ctOk_nil)))))) (by rw [ilU]; omega)
      · exact ⟨rfl, nx _ _ _ _⟩
      · exact ⟨rfl, g1 _ _ _ _ _⟩
      · exact ⟨rfl, g2 _ _ _ _⟩
      · refine ⟨rfl, ?_⟩
        have := lt (N + 20) (U + 200) (b + 2) (t + 2) (b + 0) (b + 1) (t + 0)
        rw [hb] at this
        exact this
      · exact ⟨rfl, con_append acc [] 0 _ (by simp)⟩
      · exact ⟨rfl, hcon _ _ (by show N + 0 ≤ 740; omega) (by show U + 0 + 3 < cLine; omega)⟩
    | false =>
      obtain ⟨av2, ac2, jf, tjf, m2, i2, hlen, hcon⟩ := ilT (w := w) h8 hr hi F C2 ci cr cn cw ar it acc rc ti (t + 1) n' 1 (0 + 1) ((n' + 1 : Nat) - 1) [] 0 0 (t + 0) (by omega) (by omega) (by omega) (by simp) (b + 2) (t + 2)
      refine ⟨av2, ac2, t + 1, jf, tjf, 2 + m2, 2 + i2, by rw [hlen, e1, hb]; simp, fun N U hN hU => ?_⟩
      refine conIT0F (w := w) (N := N) (U := U) (by omega) b t (mkZ lx0 [F, C2, ci, cr, cn, cw, ar, it, acc, rc, 0, ac2, ti, txj, txi, 0, 0, tjf, m2, i2] [] [] [i, 0, (n' + 1 : Nat), (n' + 1 : Nat), 0, jf, 0, R 0, R i] [rv, [], av2]) (ctOk_cons ?_ (ctOk_cons ?_ (ctOk_cons ?_ (ctOk_cons ?_ (ctOk_cons ?_ ctOk_nil))))) (by rw [ilU]; omega)
      · exact ⟨rfl, nx _ _ _ _⟩
      · exact ⟨rfl, g1 _ _ _ _ _⟩
      · exact ⟨rfl, g2 _ _ _ _⟩
      · refine ⟨rfl, ?_⟩
        have := lt (N + 20) (U + 200) (b + 2) (t + 2) (b + 0) (b + 1) (t + 0)
        rw [hb] at this
        exact this
      · exact ⟨rfl, hcon _ _ (by show N + 0 ≤ 740; omega) (by show U + 0 + 3 < cLine; omega)⟩
  obtain ⟨av2, ac2, kj, jf, tjf, m, ii, hlen, hcon⟩ := loop
  refine ⟨av2, ac2, kj, jf, tjf, 0 + m, 0 + ii, hlen, fun N U hN hU => ?_⟩
  cases hrow : w.params.followText row2 with
  | false =>
    refine conIS0 (w := w) (N := N) (U := U) (by omega) b t (mkZ lx0 [F, C2, ci, cr, cn, cw, ar, it, acc, rc, 0, ac2, ti, txj, txi, kj, 0, tjf, m, ii] [] [] [i, 0, (n' + 1 : Nat), (n' + 1 : Nat), 0, jf, 0, R 0, R i] [rv, [], av2]) hrow (ctOk_cons ?_ ctOk_nil)
    exact ⟨rfl, hcon _ _ (by show N + 0 ≤ 720; omega) (by show U + 0 + 3 < cLine; omega)⟩
  | true =>
    refine conIS1 (w := w) (N := N) (U := U) (by omega) b t (mkZ lx0 [F, C2, ci, cr, cn, cw, ar, it, acc, rc, 0, ac2, ti, txj, txi, kj, 0, tjf, m, ii] [] [] [i, 0, (n' + 1 : Nat), (n' + 1 : Nat), 0, jf, 0, R 0, R i] [rv, [], av2]) hrow (ctOk_cons ?_ ctOk_nil)
    exact ⟨rfl, hcon _ _ (by show N + 0 ≤ 720; omega) (by show U + 0 + 3 < cLine; omega)⟩
/-- the list holds the places below n -/
def OrdL (n : Nat) (R : Nat → Int) (k : Nat) (ov : List Value) : Prop := ov.length = k ∧ ∀ i < k, ∃ tok, ov[i]? = some (.int (cntB R i 0 n) tok)
theorem OrdL.snoc {n : Nat} {R : Nat → Int} {k : Nat} {ov : List Value} (h : OrdL n R k ov) (tok : Nat) {x : Int} (hx : x = (cntB R k 0 n : Nat)) : OrdL n R (k + 1) (ov ++ [.int x tok]) := by
  subst hx
  refine ⟨by simp [h.1], fun i hi => ?_⟩
  by_cases e : i < k
  · obtain ⟨tk, h2⟩ := h.2 i e
    exact ⟨tk, by rw [List.getElem?_append_left (by rw [h.1]; exact e)]; exact h2⟩
  · obtain rfl : i = k := by omega
    exact ⟨tok, by rw [List.getElem?_append_right (by rw [h.1]; omega), h.1]; simp⟩
theorem olT {n : Nat} (h8 : n ≤ 8) {R : Nat → Int} {rv : List Value} (hr : RowIs n R rv) (F C ci cr cn cw ar it acc rc tn : Nat) : ∀ (r c : Nat) (cc rr : Int) (ov : List Value) (oc : Nat) (v0 : Int) (tv0 : Nat), n = c + r → cc = c → rr = r → OrdL n R c ov → ∀ b t : Nat,
    ∃ ov2 oc2 vf tvf m ii, OrdL n R n ov2 ∧ ∀ N U, N ≤ 700 → U + 203 < cLine → Con w w.params N U (olC it acc F C ci cr cn cw) (oD it ci cn acc C cr ar cc rr (cellO (.int v0 tv0)) n tn ov oc rv rc) (oD it ci cn acc C cr ar n 0 (cellO (.int vf tvf)) n tn ov2 oc2 rv rc) b t m ii (.ok .next) := by
  intro r
  induction r with
  | zero =>
    intro c cc rr ov oc v0 tv0 hn hc hrr hov b t
    subst hc hrr
    obtain rfl : n = c := by omega
    refine ⟨ov, oc, v0, tv0, 2, 0, hov, fun N U hN hU => ?_⟩
    have := conOEnd (w := w) (N := N) (U := U) (by omega) b t (mkZ lx0 [F, C, cr, cn, cw, ci, ar, it, acc] [] [] [n] [])
    exact ConF.wide (D₁ := [(it, rIt n 0)]) (Dn := []) [true, false, false, false, false, false, false] this rfl rfl
  | succ r ih =>
    intro c cc rr ov oc v0 tv0 hn hc hrr hov b t
    have hcn : c < n := by omega
    subst hc
    obtain ⟨av2, ac2, kj, jf, tjf, m2, i2, hlen, hin⟩ := isT (w := w) h8 hr hcn F (b + 3) ci cr cn cw ar (b + 1) (b + 2) rc (t + 0) (b + 4) (t + 3)
    have hc8 : cntB R c 0 n ≤ 8 := by unfold cntB; exact Nat.le_trans List.countP_le_length (by simpa using h8)
    obtain ⟨ov2, oc2, vf, tvf, m3, i3, ho2, hcon⟩ := ih (c + 1) ((c : Int) + 1) (rr - 1) (ov ++ [.int (av2.length : Int) (t + (3 + i2) + 1)]) (oc + 1) c (t + 0) (by omega) (by omega) (by omega) (hov.snoc _ (by rw [hlen])) (b + (4 + m2)) (t + (3 + i2 + 2))
    refine ⟨ov2, oc2, vf, tvf, 4 + m2 + m3, 3 + i2 + 2 + i3, ho2, fun N U hN hU => ?_⟩
    refine conOT1 (w := w) (N := N) (U := U) (by omega) b t (mkZ lx0 [F, C, cr, cn, cw, ci, ar, it, acc, rc, ac2, kj, tjf, m2, i2, tn, oc, oc2, m3, i3, tv0, tvf] [] [] [c, rr, n, n, 0, jf, av2.length, n, 0, v0, vf] [rv, av2, ov, ov2]) (ctOk_cons ?_ (ctOk_cons ?_ (ctOk_cons ?_ (ctOk_cons ?_ (ctOk_cons ?_ (ctOk_cons ?_ ctOk_nil))))))
    · exact ⟨rfl, con_rangeNext it c rr (by omega)⟩
    · refine ⟨rfl, ?_⟩
      have := con_rangeIter (w := w) (P := w.params) (N := N + 20) (U := U + 200) (b := b + 1) (t := t + 3) (b + 0) 0 n (t + 1) tn (t + 2) (by omega) (by omega) (by omega)
      rw [show ((n : Int) - ((0 : Nat) : Int)) = n from by simp] at this
      exact this
    · exact ⟨rfl, hin _ _ (by show N + 20 ≤ 720; omega) (by show U + 200 + 3 < cLine; omega)⟩
    · exact ⟨rfl, conI_len (b + 2) av2 ac2 (by rw [hlen]; omega)⟩
    · exact ⟨rfl, con_append acc ov oc _ (by rw [hov.1]; omega)⟩
    · exact ⟨rfl, hcon _ _ (by show N + 0 ≤ 700; omega) (by show U + 0 + 203 < cLine; omega)⟩
/-- «order»: the places of the row's numbers -/
theorem osT {n : Nat} (h8 : n ≤ 8) (h1 : 1 ≤ n) {R : Nat → Int} {rv : List Value} (hr : RowIs n R rv) (F C ci cr cn cw ar it acc rc tn : Nat) (b t : Nat) :
    ∃ ov2 oc2 vf tvf m ii, OrdL n R n ov2 ∧ ∀ N U, N ≤ 700 → U + 203 < cLine → Con w w.params N U (osC it acc F C ci cr cn cw) (oD it ci cn acc C cr ar 0 n cellE n tn [] 0 rv rc) (oD it ci cn acc C cr ar n 0 (cellO (.int vf tvf)) n tn ov2 oc2 rv rc) b t m ii (.ok .next) := by
  have loop : ∃ ov2 oc2 vf tvf m ii, OrdL n R n ov2 ∧ ∀ N U, N ≤ 700 → U + 203 < cLine → Con w w.params N U (olC it acc F C ci cr cn cw) (oD it ci cn acc C cr ar 0 n cellE n tn [] 0 rv rc) (oD it ci cn acc C cr ar n 0 (cellO (.int vf tvf)) n tn ov2 oc2 rv rc) b t m ii (.ok .next) := by
    obtain ⟨av2, ac2, kj, jf, tjf, m2, i2, hlen, hin⟩ := isT (w := w) h8 hr (i := 0) (by omega) F (b + 3) ci cr cn cw ar (b + 1) (b + 2) rc (t + 0) (b + 4) (t + 3)
    have hc8 : cntB R 0 0 n ≤ 8 := by unfold cntB; exact Nat.le_trans List.countP_le_length (by simpa using h8)
    obtain ⟨ov2, oc2, vf, tvf, m3, i3, ho2, hcon⟩ := olT (w := w) h8 hr F C ci cr cn cw ar it acc rc tn (n - 1) 1 ((0 : Int) + 1) ((n : Int) - 1) ([] ++ [.int (av2.length : Int) (t + (3 + i2) + 1)]) (0 + 1) 0 (t + 0) (by omega) (by omega) (by omega) (OrdL.snoc (k := 0) ⟨rfl, fun i hi => absurd hi (by omega)⟩ _ (by rw [hlen])) (b + (4 + m2)) (t + (3 + i2 + 2))
    refine ⟨ov2, oc2, vf, tvf, 4 + m2 + m3, 3 + i2 + 2 + i3, ho2, fun N U hN hU => ?_⟩
    refine conOT0 (w := w) (N := N) (U := U) (by omega) b t (mkZ lx0 [F, C, cr, cn, cw, ci, ar, it, acc, rc, ac2, kj, tjf, m2, i2, tn, 0, oc2, m3, i3, 0, tvf] [] [] [0, n, n, n, 0, jf, av2.length, n, 0, 0, vf] [rv, av2, [], ov2]) (ctOk_cons ?_ (ctOk_cons ?_ (ctOk_cons ?_ (ctOk_cons ?_ (ctOk_cons ?_ (ctOk_cons ?_ ctOk_nil))))))
    · exact ⟨rfl, con_rangeNext it 0 n (by omega)⟩
    · refine ⟨rfl, ?_⟩
      have := con_rangeIter (w := w) (P := w.params) (N := N + 20) (U := U + 200) (b := b + 1) (t := t + 3) (b + 0) 0 n (t + 1) tn (t + 2) (by omega) (by omega) (by omega)
      rw [show ((n : Int) - ((0 : Nat) : Int)) = n from by simp] at this
      exact this
    · exact ⟨rfl, hin _ _ (by show N + 20 ≤ 720; omega) (by show U + 200 + 3 < cLine; omega)⟩
    · exact ⟨rfl, conI_len (b + 2) av2 ac2 (by rw [hlen]; omega)⟩
    · exact ⟨rfl, con_append acc [] 0 _ (by simp)⟩
    · exact ⟨rfl, hcon _ _ (by show N + 0 ≤ 700; omega) (by show U + 0 + 203 < cLine; omega)⟩
  obtain ⟨ov2, oc2, vf, tvf, m, ii, ho, hcon⟩ := loop
  refine ⟨ov2, oc2, vf, tvf, 0 + m, 0 + ii, ho, fun N U hN hU => ?_⟩
  cases hrow : w.params.followText row2 with
  | false =>
    refine conOS0 (w := w) (N := N) (U := U) (by omega) b t (mkZ lx0 [F, C, cr, cn, cw, ci, ar, it, acc, rc, 0, 0, 0, m, ii, tn, 0, oc2, 0, 0, 0, tvf] [] [] [0, n, n, n, 0, 0, 0, n, 0, 0, vf] [rv, [], [], ov2]) hrow (ctOk_cons ?_ ctOk_nil)
    exact ⟨rfl, hcon _ _ (by show N + 0 ≤ 700; omega) (by show U + 0 + 203 < cLine; omega)⟩
  | true =>
    refine conOS1 (w := w) (N := N) (U := U) (by omega) b t (mkZ lx0 [F, C, cr, cn, cw, ci, ar, it, acc, rc, 0, 0, 0, m, ii, tn, 0, oc2, 0, 0, 0, tvf] [] [] [0, n, n, n, 0, 0, 0, n, 0, 0, vf] [rv, [], [], ov2]) hrow (ctOk_cons ?_ ctOk_nil)
    exact ⟨rfl, hcon _ _ (by show N + 0 ≤ 700; omega) (by show U + 0 + 203 < cLine; omega)⟩
end
/-! ## Contracts in another order of the objects -/
theorem Rp.perm {P : Params} {h₀ h₁ : Bs} {h : Heap} {D D' : Dy} {b m : Nat} (r : Rp P h₀ h D b m) (p : D.Perm D') (hh : h₁.h = h₀.h) (hS : ∀ a, a ∈ h₁.S ↔ a ∈ h₀.S) (hZ : h₁.Z = h₀.Z) : Rp P h₁ h D' b m :=
  ⟨r.size, r.low, r.stat, fun q hq => r.own q (p.mem_iff.mpr hq), (p.map _).nodup_iff.mp r.nodup, fun q hq => r.high q (p.mem_iff.mpr hq),
    fun q hq => (r.old q (p.mem_iff.mpr hq)).imp (fun x => (hS _).mpr x) id, hh ▸ r.base, fun a o e x z => r.keep a o (hh ▸ e) (fun y => x ((hS _).mpr y)) (hZ ▸ z),
    fun a ha o e => r.semi a (hZ ▸ ha) o (hh ▸ e), fun q hq => hZ ▸ r.far q (p.mem_iff.mpr hq), fun a ha => r.zlow a (hZ ▸ ha), fun a ha => hh ▸ r.zob a (hZ ▸ ha)⟩
theorem ConF.perm {fr : Option (List Env)} {Z : List Addr} {w : World} {P : Params} {N U b t m₁ i₁ : Nat} {c : Code} {D₀ D₁ D₀' D₁' : Dy} {r : Result} (h : ConF fr Z w P N U c D₀ D₁ b t m₁ i₁ r) (p₀ : D₀'.Perm D₀) (p₁ : D₁.Perm D₁') : ConF fr Z w P N U c D₀' D₁' b t m₁ i₁ r := by
  intro hp g d o B J G hB hu hh hf rp R hR
  have hS : ∀ a, a ∈ D₀.map (·.1) ↔ a ∈ D₀'.map (·.1) := fun a => (p₀.map (·.1)).mem_iff.symm
  refine h hp g d o B J G hB hu hh hf (rp.perm p₀ rfl hS rfl) R fun h' g' G' r' => hR h' g' G' (r'.perm p₁ rfl (fun a => (hS a).symm) rfl)
/-! ## The law's body in its parts -/
theorem execs_append (l1 l2 : List Stmt) (env : Env) : execs (l1 ++ l2) env = execs l1 env >>= fun f => match f with | .next => execs l2 env | f => pure f := by
  induction l1 with
  | nil => rfl
  | cons st l ih =>
    rw [List.cons_append, execs_cons, execs_cons, bind_assoc]
    congr 1
    funext f
    cases f <;> first | exact ih | rfl
noncomputable def bA : List Stmt := ((fnBody x30.s).drop 0).take 4
noncomputable def bB : List Stmt := ((fnBody x30.s).drop 5).take 3
theorem law_split : fnBody x30.s = bA ++ (nthS (fnBody x30.s) 4 :: (bB ++ [nthS (fnBody x30.s) 8])) := by with_unfolding_all rfl
section
variable {w : World} {P : Params} {N U b t : Nat}
theorem con_listAdd (a c : Addr) (xs ys : List Value) (n1 n2 : Nat) (h1 : xs ≠ []) (h2 : xs.length + ys.length < 1000) :
    Con w P N U (.call (.builtin "list.__add__") ⟨[.ref a, .ref c], []⟩) [(a, liObj xs n1), (c, liObj ys n2)] ([(a, liObj xs n1), (c, liObj ys n2)] ++ [(b, liObj (xs ++ ys) 0)]) b t 1 0 (.ok (.ret (.ref b))) := by
  intro h g d o B J G hB hu hh hf rp R hR
  have ha := rp.own _ List.mem_cons_self
  have hc := rp.own _ (List.mem_cons_of_mem _ List.mem_cons_self)
  have hz : sizeLine = 16777216 := by decide
  refine code_slot (T := "list") F.slot_list_add (s := ⟨h, g, d, t, o⟩) ⟨_, ha, rfl⟩ F.entry_list_add (F.args_list_add_2 _ _) ?_
  show wpAny _ _ (isInstance (.ref c) (.type "list") >>= fun r => _) _ _ _
  refine wpAny_bind (wpAny_isInstance ⟨_, hc, rfl⟩ sub_list_list ?_)
  show wpAny _ _ (Builtin.List.listItems (.ref a) >>= fun xs => _) _ _ _
  unfold Builtin.List.listItems
  refine wpAny_bind (wpAny_bind (wpAny_seqItems ha rfl (wpAny_pure ?_)))
  refine wpAny_bind (wpAny_bind (wpAny_seqItems hc rfl (wpAny_pure ?_)))
  refine wpAny_bind (wpAny_newObj_type (wpAny_pure ?_) (show (xs.toArray ++ ys.toArray).size ≤ sizeLine by rw [hz]; simp; omega))
  have hs : h.objs.size = b := rp.size
  have e : ({ cls := .type "list", data := .seq (xs.toArray ++ ys.toArray) } : Obj) = liObj (xs ++ ys) 0 := by unfold liObj; simp
  show R (.ok (.ret (.ref h.objs.size))) ⟨h.push { cls := .type "list", data := .seq (xs.toArray ++ ys.toArray) }, g, d, t, o⟩
  rw [hs, e]
  exact hR _ g G (rp.alloc (o := liObj (xs ++ ys) 0) rfl)
theorem perm7 {α : Type} (a b c d e f g : α) : [f, c, g, a, d, e, b].Perm [a, b, c, d, e, f, g] :=
  (List.perm_middle (l₁ := [f, c, g]) (a := a) (l₂ := [d, e, b])).trans (.cons _ ((List.perm_middle (l₁ := [f, c, g, d, e]) (a := b) (l₂ := [])).trans (.cons _ ((List.perm_middle (l₁ := [f]) (a := c) (l₂ := [g, d, e])).trans (.cons _ ((List.perm_middle (l₁ := [f, g]) (a := d) (l₂ := [e])).trans (.cons _ (List.perm_middle (l₁ := [f, g]) (a := e) (l₂ := [])))))))))
/-- the words, cut at n -/
theorem words_is {n : Nat} (h8 : n ≤ 8) (k : Nat → Nat) : ((List.range 8).map fun i => Value.str (wd i) (k i)).length = 8 ∧ WordsIs n (((List.range 8).map fun i => Value.str (wd i) (k i)).take n) ∧ (((List.range 8).map fun i => Value.str (wd i) (k i)).take n).length = n := by
  refine ⟨by simp, fun i hi => ⟨k i, ?_⟩, by simp; omega⟩
  rw [List.getElem?_take_of_lt hi]
  simp [show i < 8 by omega]
/-- phase A: row, n, order, words -/
theorem phaseA {f : Nat → Int} {sv : List Value} (hl : sv.length < 1000) (hs : ∀ i < sv.length, ∃ tok, sv[i]? = some (.int (f i) tok)) (sa sc F cr cn cw ks : Nat) (b t : Nat) :
    ∃ (n : Nat) (Rw : Nat → Int) (wv ov : List Value) (ar ao aw oc ko tn m ii : Nat), 3 ≤ n ∧ n ≤ 8 ∧ Rw 0 = 2 ∧ Rw 1 = 4 ∧ Rw 2 = 1 ∧ OrdL n Rw n ov ∧ WordsIs n wv ∧ wv.length = n ∧ ∀ N U, N ≤ 680 → U + 403 < cLine →
      TreeF none [] w w.params N U (lawP 0 4 (lawE F cr cn cw)) [(F, frObj [en w.params (Str.ofString "script") ks (.ref sa)] 1), (cr, cellE), (cn, cellE), (cw, cellE), (sa, liObj sv sc)]
        [(F, frObj [en w.params (Str.ofString "script") ks (.ref sa), en w.params (Str.ofString "order") ko (.ref ao)] 2), (cr, cellO (.ref ar)), (cn, cellO (.int n tn)), (cw, cellO (.ref aw)), (sa, liObj sv sc), (ao, liObj ov oc), (aw, liObj wv 0)] b t m ii (.ok (.done .next)) := by
  have hlen : (sv.take 5).length ≤ 5 := by rw [List.length_take]; omega
  have hlen2 : (sv.take 5).length ≤ sv.length := by rw [List.length_take]; omega
  let rv : List Value := [.int 2 (t + 0), .int 4 (t + 1), .int 1 (t + 2)] ++ sv.take 5
  let n := 3 + (sv.take 5).length
  let Rw : Nat → Int := fun i => match i with | 0 => 2 | 1 => 4 | 2 => 1 | j + 3 => f j
  have hrl : rv.length = n := by show (_ :: _ :: _ :: sv.take 5).length = _; simp only [List.length_cons]; show (sv.take 5).length + 1 + 1 + 1 = 3 + (sv.take 5).length; omega
  have hR : RowIs n Rw rv := by
    intro j hj
    match j with
    | 0 => exact ⟨_, rfl⟩
    | 1 => exact ⟨_, rfl⟩
    | 2 => exact ⟨_, rfl⟩
    | j + 3 =>
      have hj5 : j < (sv.take 5).length := by have : j + 3 < 3 + (sv.take 5).length := hj; omega
      have hj6 : j < 5 := by omega
      obtain ⟨tok, e⟩ := hs j (by omega)
      refine ⟨tok, ?_⟩
      show (sv.take 5)[j]? = _
      rw [List.getElem?_take_of_lt hj6]; exact e
  have h8 : n ≤ 8 := by show 3 + (sv.take 5).length ≤ 8; omega
  have h3 : 3 ≤ n := Nat.le_add_right _ _
  obtain ⟨ov, oc, vf, tvf, m5, i5, ho, hos⟩ := osT (w := w) h8 (by omega) hR F (b + 7) (b + 8) cr cn cw (b + 3) (b + 5) (b + 6) 0 (t + (4 + 1)) (b + 9) (t + 8)
  obtain ⟨hwl, hww, hwn⟩ := words_is h8 (fun i => t + (8 + i5 + (i + 1)))
  refine ⟨n, Rw, _, ov, b + 3, b + 6, b + (9 + m5 + 2), oc, t + (8 + i5), t + (4 + 1), 9 + m5 + 3, 8 + i5 + 9, h3, h8, rfl, rfl, rfl, ho, hww, hwn, fun N U hN hU => ?_⟩
  refine trLawA (w := w) (N := N) (U := U) (by omega) b t (mkZ lx0 [sa, sc, 0, F, cr, cn, cw, m5, i5, oc, tvf, ks] [] [] [n, vf, n, 0] [sv, sv.take 5, rv, ov, _]) (ctOk_cons ?_ (ctOk_cons ?_ (ctOk_cons ?_ (ctOk_cons ?_ (ctOk_cons ?_ (ctOk_cons ?_ ctOk_nil))))))
  · exact ⟨rfl, con_slice sa (b + 1) sv sc .none (.int 5 (t + 3)) .none (.int _ _) hl (sv.take 5) (slicePick_upto' sv.toArray 5)⟩
  · exact ⟨rfl, con_listAdd (b + 0) (b + 2) _ _ 0 0 (by simp) (by simp; omega)⟩
  · refine ⟨rfl, ?_⟩
    have := conI_len (w := w) (P := w.params) (N := N + 20) (U := U + 200) (b := b + 4) (t := t + 4) (b + 3) rv 0 (by rw [hrl]; omega)
    rw [hrl] at this
    exact this
  · refine ⟨rfl, ?_⟩
    have := con_rangeIter (w := w) (P := w.params) (N := N + 20) (U := U + 200) (b := b + 5) (t := t + 8) (b + 4) 0 n (t + 6) (t + (4 + 1)) (t + 7) (by omega) (by omega) (by omega)
    rw [show ((n : Int) - ((0 : Nat) : Int)) = n from by simp] at this
    exact this
  · refine ⟨rfl, ?_⟩
    exact ConF.perm (hos _ _ (show N + 20 ≤ 700 by omega) (show U + 200 + 203 < cLine by omega)) (perm7 _ _ _ _ _ _ _) (perm7 _ _ _ _ _ _ _).symm
  · exact ⟨rfl, con_slice _ _ _ 0 .none (.int (n : Nat) (t + (4 + 1))) .none (.int _ _) (by simp) _ (slicePick_upto' _ n)⟩
end
/-! ## The law's last statement -/
noncomputable def es0 (P : Params) : Array DictEntry := match (k0 P).data with
  | .dict es _ => es
  | _ => #[]
noncomputable def g0 (P : Params) : Str → Option Value := nsFind (es0 P)
theorem es0_keys (P : Params) : StrKeys (es0 P) := by
  have key : ((es0 P).toList.all fun e => match e.key with | .str _ _ => true | _ => false) = true := by with_unfolding_all rfl
  intro e he
  have := List.all_eq_true.mp key e (Array.mem_toList_iff.mpr he)
  cases hk : e.key <;> rw [hk] at this <;> first | exact ⟨_, _, rfl⟩ | cases this
theorem g0_list (P : Params) : g0 P (Str.ofString "list") = some (.type "list") := by with_unfolding_all rfl
theorem g0_sorted (P : Params) : g0 P (Str.ofString "sorted") = some (.builtin "sorted") := by with_unfolding_all rfl
theorem g3_list (P : Params) : g3 P (Str.ofString "list") = none := by with_unfolding_all rfl
theorem g3_sorted (P : Params) : g3 P (Str.ofString "sorted") = none := by with_unfolding_all rfl
/-- the frame's names -/
theorem frL_ns {P : Params} {x : Lx} {k0 k1 k2 k3 sa ao : Nat} {come : Value} {h : Heap} {F : Addr} {o : Obj} (e : h.get? F = some o) (ed : o.data = (frL P x k0 k1 k2 k3 sa ao come).data) :
    ∃ m, h.Ns F m ∧ m (Str.ofString "lexer") = some (.ref x.L) ∧ m (Str.ofString "order") = some (.ref ao) ∧ m (Str.ofString "come") = some come := by
  refine ⟨_, ⟨o, _, _, e, ed, ?_, fun _ => rfl⟩, by with_unfolding_all rfl, by with_unfolding_all rfl, by with_unfolding_all rfl⟩
  intro e he
  simp only [List.mem_toArray, List.mem_cons, List.not_mem_nil, or_false] at he
  rcases he with rfl | rfl | rfl | rfl <;> exact ⟨_, _, rfl⟩
/-- the known objects, anew -/
theorem Rp.make {P : Params} {h : Heap} {D : Dy} {Z : List Addr} (stat : ∀ p ∈ K P, h.get? p.1 = some p.2) (low : 769 ≤ h.objs.size) (own : ∀ p ∈ D, h.get? p.1 = some p.2) (nd : (D.map (·.1)).Nodup) (high : ∀ p ∈ D, 769 ≤ p.1 ∨ p.1 = 738)
    (zf : ∀ p ∈ D, p.1 ∉ Z) (zo : ∀ a ∈ Z, ∃ o, h.get? a = some o ∧ ∀ vs, o.data ≠ .fields vs) : Rp P ⟨h, D.map (·.1), Z⟩ h D h.objs.size 0 where
  size := rfl
  low := low
  stat := stat
  own := own
  nodup := nd
  high := high
  old := fun p hp => .inl (List.mem_map_of_mem hp)
  base := Nat.le_refl _
  keep := fun a o e _ _ => e
  semi := fun a _ o e => ⟨o.slots, e⟩
  far := zf
  zlow := fun a ha => by obtain ⟨o, e, _⟩ := zo a ha; exact Heap.lt_size e
  zob := zo
theorem paired_get {α β : Type} {F : α → β → Prop} : ∀ {l₁ : List α} {l₂ : List β}, Paired F l₁ l₂ → l₁.length = l₂.length ∧ ∀ (i : Nat) (a : α) (b : β), l₁[i]? = some a → l₂[i]? = some b → F a b
  | _, _, .nil => ⟨rfl, fun i a b h => by simp at h⟩
  | _, _, .cons h t => by
    obtain ⟨e, g⟩ := paired_get t
    refine ⟨by simp [e], fun i a b h1 h2 => ?_⟩
    cases i with
    | zero => simp at h1 h2; subst h1 h2; exact h
    | succ i => exact g i a b (by simpa using h1) (by simpa using h2)
theorem ints_get : ∀ {vs : List Value} {ns : List Int}, IntsAre vs ns → ∀ (i : Nat) (v : Value), vs[i]? = some v → ∃ (k : Int) (tok : Nat), ns[i]? = some k ∧ v = .int k tok
  | _, _, .nil, i, v, h => by simp at h
  | _, _, .cons n t r, 0, v, h => by simp at h; exact ⟨n, t, rfl, h.symm⟩
  | _, _, .cons n t r, i + 1, v, h => by obtain ⟨k, tok, e1, e2⟩ := ints_get r i v (by simpa using h); exact ⟨k, tok, by simpa using e1, e2⟩
theorem its_get : ∀ {S : List Nat} {l : List Value}, ItsOf S l → ∀ (i : Nat) (v : Value), l[i]? = some v → ∃ (k tok : Nat), S[i]? = some k ∧ v = .str (wd k) tok
  | _, _, .nil, i, v, h => by simp at h
  | _, _, .cons n t r, 0, v, h => by simp at h; exact ⟨n, t, rfl, h.symm⟩
  | _, _, .cons n t r, i + 1, v, h => by obtain ⟨k, tok, e1, e2⟩ := its_get r i v (by simpa using h); exact ⟨k, tok, by simpa using e1, e2⟩
theorem shD_perm (P : Params) (x : Lx) (st tk : Value) (e : Int) (its : List Value) (tx : Str) (pos : Value) : (shD P x st tk e its tx pos).Perm (lex6 P x st tk e its tx pos) := by
  unfold shD lex6
  exact (List.Perm.swap _ _ _).trans (.cons _ (.cons _ ((List.reverse_perm [(x.q, deqObj e its), (x.io, ioObj x), (x.iod, ioDict P x tx pos)]).append_right [(x.fs, deqObj 0 [])])))
noncomputable abbrev dC (P : Params) (x : Lx) (F cr cn cw ao aw : Addr) (k0 k1 k2 k3 sa : Nat) (come : Value) (ocr ocn : Obj) (ov : List Value) (oc : Nat) (wv : List Value) (wc : Nat) (q : LS) (n : Nat) : Dy :=
  [(F, frL P x k0 k1 k2 k3 sa ao come), (cr, ocr), (cn, ocn), (cw, cellO (.ref aw)), (ao, liObj ov oc), (aw, liObj wv wc)] ++ shD P x q.st q.tk q.e q.its (txt n) q.pos
theorem retRun {w : World} {env : Env} {s8 : Stmt} {p0 p1 p2 p3 p4 p5 p6 p7 p8 p9 p10 p11 p12 p13 p14 p15 p16 p17 : Pos} {ck : Nat} {sc : Scope} {F cr cn cw ao aw : Nat}
    (he : s8 = .Return (some (.Compare (.Call (.Name (Str.ofString "list") p1) [.Name (Str.ofString "lexer") p2] [] p3) [.Eq]
      [.ListComp (.Subscript (.Name (Str.ofString "words") p4) (.Name (Str.ofString "k") p5) p6) [⟨.Name (Str.ofString "k") p7, .Call (.Name (Str.ofString "sorted") p8)
        [.Subscript (.Name (Str.ofString "order") p9) (.Slice (some (.Name (Str.ofString "come") p10)) none none p11) p12] [⟨some (Str.ofString "reverse"), .Constant (.bool true) ck p13, p14⟩] p15, [], 0⟩] sc p16] p17)) p0)
    (hk : env.scope.kind = .function) (hL : env.locals = F) (hFr : env.frame = some F) (hG : env.globals = 3) (hBi : env.builtins = 0)
    (k1' : env.kindOf (Str.ofString "list") = some .globalImplicit) (k2' : env.kindOf (Str.ofString "sorted") = some .globalImplicit) (k3' : env.kindOf (Str.ofString "lexer") = some .local) (k4' : env.kindOf (Str.ofString "order") = some .local)
    (k5' : env.kindOf (Str.ofString "come") = some .local) (k6' : env.kindOf (Str.ofString "words") = some .cell)
    (hskind : sc.kind = .function) (hsn : sc.names = [(Str.ofString ".0", NameKind.local), (Str.ofString "k", NameKind.local), (Str.ofString "words", NameKind.free)]) (hclos : closureFor sc env = pure [(Str.ofString "words", cw)])
    {n : Nat} (h3 : 3 ≤ n) (h8 : n ≤ 8) {x : Lx} {k0 k1 k2 k3 sa : Nat} {come tc : Nat} {ocr ocn : Obj} {ov : List Value} {oc : Nat} {wv : List Value} {wc : Nat} {q : LS} {S : List Nat} (hq : q.is n n S) (hS8 : S.length ≤ n)
    (hwl : wv.length = n) (hw : WordsIs n wv) (hol : ov.length = n) (hcn : come ≤ n) {ns₀ : List Int} (hns : IntsAre (ov.drop come) ns₀) (hsort : ∀ ns : List Int, ns.Perm ns₀ → ns.Pairwise (· ≥ ·) → ns = S.map Int.ofNat)
    {h₀ : Bs} {b m : Nat} {h : Heap} {g : Array GenState} {d : Drawn} {t : Nat} {o : OsState} {A : Around} {J : Array GenState → Prop} (G : J g)
    (rp : Rp w.params h₀ h (dC w.params x F cr cn cw ao aw k0 k1 k2 k3 sa (.int come tc) ocr ocn ov oc wv wc q n) b m) (hF9 : 769 ≤ F)
    (hA : A.depth ≤ 600) (hU : A.units ≤ 8000) (hh : A.handled = none) (hfr : A.frames = some [env]) {Q : Flow → Shared → Prop} {E : Value → Shared → Prop}
    (hQ : ∀ h' g' t', J g' → (∀ a o, a ∉ F :: (d6 w.params x q n).map (·.1) → h.get? a = some o → h'.get? a = some o) → Q (.ret (.bool true)) ⟨h', g', d, t', o⟩) :
    wpAny (Md w) A (exec s8 env) Q E ⟨h, g, d, t, o⟩ := by
  subst he
  have hz : sizeLine = 16777216 := by decide
  have hlow : 769 ≤ h.objs.size := Nat.le_trans rp.low (by rw [rp.size]; omega)
  have nd := rp.nodup
  rw [List.map_append] at nd
  obtain ⟨na, nb, nab⟩ := List.nodup_append.mp nd
  have hperm := shD_perm w.params x q.st q.tk q.e q.its (txt n) q.pos
  have out : ∀ a ∈ ([F, cr, cn, cw, ao, aw] : List Nat), a ∉ (d6 w.params x q n).map (·.1) := fun a ha hm => nab a ha a ((hperm.map (·.1)).mem_iff.mpr hm) rfl
  have neF : ∀ a ∈ ([cr, cn, cw, ao, aw] : List Nat), a ≠ F := fun a ha e => (List.nodup_cons.mp na).1 (e ▸ ha)
  have own : ∀ p ∈ dC w.params x F cr cn cw ao aw k0 k1 k2 k3 sa (.int come tc) ocr ocn ov oc wv wc q n, h.get? p.1 = some p.2 := rp.own
  have hF : h.get? F = some (frL w.params x k0 k1 k2 k3 sa ao (.int come tc)) := own (F, _) (.head _)
  have hcw : h.get? cw = some (cellO (.ref aw)) := own (cw, _) (.tail _ (.tail _ (.tail _ (.head _))))
  have hao : h.get? ao = some (liObj ov oc) := own (ao, _) (.tail _ (.tail _ (.tail _ (.tail _ (.head _)))))
  have haw : h.get? aw = some (liObj wv wc) := own (aw, _) (.tail _ (.tail _ (.tail _ (.tail _ (.tail _ (.head _))))))
  -- list(lexer)
  have r0 : Rp w.params ⟨h, (d6 w.params x q n).map (·.1), [F]⟩ h (d6 w.params x q n) h.objs.size 0 := by
    have sub : ∀ p ∈ d6 w.params x q n, p ∈ shD w.params x q.st q.tk q.e q.its (txt n) q.pos := fun p hp => hperm.mem_iff.mpr hp
    refine Rp.make rp.stat hlow (fun p hp => own p (List.mem_append_right _ (sub p hp))) ((hperm.map (·.1)).nodup_iff.mp nb) (fun p hp => rp.high p (List.mem_append_right _ (sub p hp))) (fun p hp hm => ?_) (fun a ha => ?_)
    · exact out F (.head _) (List.mem_singleton.mp hm ▸ List.mem_map_of_mem (f := (·.1)) hp)
    · obtain rfl := List.mem_singleton.mp ha
      exact ⟨_, hF, fun vs e => by cases e⟩
  obtain ⟨q2, m2, i2, c2, new, hnew, hlist⟩ := listT (w := w) h3 h8 x env F hFr (by rw [hk]; decide) hF9 hq (Nat.le_refl _) (by omega) hS8 h.objs.size t
  rw [Nat.sub_self, List.range'_zero, List.append_nil] at hnew
  obtain ⟨mF, hnsF, mF1, _, _⟩ := frL_ns hF rfl
  have h3s : h.get? 3 = some (Mine.k3 w.params) := rp.stat (3, Mine.k3 w.params) (kGet_mem (by kernel_rfl))
  have h0s : h.get? 0 = some (Mine.k0 w.params) := rp.stat (0, Mine.k0 w.params) (kGet_mem (by kernel_rfl))
  refine wpAny_Return_some (wpAny_Compare1 ?_ (by rfl))
  refine Call_name1 (by rfl) (Calls.Name_function_global hk k1' (Calls.loadGlobal_builtin (mg := g3 w.params) (mb := g0 w.params) (by rw [hG]; exact ⟨_, es3 w.params, _, h3s, rfl, es3_keys _, fun _ => rfl⟩) (g3_list _) (by rw [hBi]; exact ⟨_, es0 w.params, _, h0s, rfl, es0_keys _, fun _ => rfl⟩) (g0_list _) (callWith_type1 ?_)))
  refine ldG (by rw [hL]; exact hnsF) mF1 ?_ hk k3'
  refine wpAny_call (hlist 640 8500 (Nat.le_refl _) (Nat.le_refl _) h g d o A J G (by omega) (by omega) hh (fun l e => by cases e; exact hfr) r0 _ fun h1 g1 G1 r1 => ?_)
  have hLB : h1.get? h.objs.size = some (liObj new c2) := r1.own (h.objs.size, liObj new c2) (.tail _ (.tail _ (.tail _ (.tail _ (.tail _ (.tail _ (.head _)))))))
  have keep1 : ∀ a o, a ∉ F :: (d6 w.params x q n).map (·.1) → h.get? a = some o → h1.get? a = some o := fun a o' ha e => r1.keep a o' e (fun hm => ha (List.mem_cons_of_mem _ hm)) (fun hm => ha (by rw [List.mem_singleton.mp hm]; exact List.mem_cons_self))
  obtain ⟨sl, hF1⟩ := r1.semi F List.mem_cons_self _ hF
  have nin : ∀ a ∈ ([cr, cn, cw, ao, aw] : List Nat), a ∉ F :: (d6 w.params x q n).map (·.1) := fun a ha hm => (List.mem_cons.mp hm).elim (neF a ha) (out a (.tail _ ha))
  have hcw1 : h1.get? cw = some (cellO (.ref aw)) := keep1 _ _ (nin _ (.tail _ (.tail _ (.head _)))) hcw
  have hao1 : h1.get? ao = some (liObj ov oc) := keep1 _ _ (nin _ (.tail _ (.tail _ (.tail _ (.head _))))) hao
  have haw1 : h1.get? aw = some (liObj wv wc) := keep1 _ _ (nin _ (.tail _ (.tail _ (.tail _ (.tail _ (.head _)))))) haw
  have h3s1 : h1.get? 3 = some (Mine.k3 w.params) := r1.stat (3, Mine.k3 w.params) (kGet_mem (by kernel_rfl))
  have h0s1 : h1.get? 0 = some (Mine.k0 w.params) := r1.stat (0, Mine.k0 w.params) (kGet_mem (by kernel_rfl))
  obtain ⟨mF', hnsF1, _, mF2, mF3⟩ := frL_ns (o := { frL w.params x k0 k1 k2 k3 sa ao (.int come tc) with slots := sl }) hF1 rfl
  generalize t + i2 = t1
  -- [words[k] for k in sorted(order[come:], reverse=True)]
  refine wpAny_ListComp_free (cl := [(Str.ofString "words", cw)]) (fun _ => true) (fun v y => ∃ (i : Int) (tok : Nat), v = .int i tok ∧ (0 ≤ i → i < n → ∃ u, y = .str (wd i.toNat) u)) hclos (by rw [hsn]; decide) hskind (by rw [hsn]; decide) (by rw [hsn]; rfl) ?_
  have sp : ∀ {Qs : List Value → Shared → Prop} {s : Shared} {e1 : PySem.Expr} {pp : Pos}, starEach [e1] env = [(false, eval e1 env)] → wpAny (Md w) A (eval e1 env) (fun v s₁ => Qs [v] s₁) E s → wpAny (Md w) A (spliced (backTo pp (starEach [e1] env))) Qs E s := fun hs hv => by
    rw [hs]
    exact Calls.spliced_cons (wpAny_mono hv (fun _ _ y => Calls.spliced_nil y) fun _ _ y => y)
  refine wpAny_Call_Name_kw (Calls.Name_function_global hk k2' (Calls.loadGlobal_builtin (mg := g3 w.params) (mb := g0 w.params) (by rw [hG]; exact ⟨_, es3 w.params, _, h3s1, rfl, es3_keys _, fun _ => rfl⟩) (g3_sorted _) (by rw [hBi]; exact ⟨_, es0 w.params, _, h0s1, rfl, es0_keys _, fun _ => rfl⟩) (g0_sorted _) (callWith_kw (sp (by rfl) ?_))))
  refine wpAny_Subscript_list_slice (ldG (by rw [hL]; exact hnsF1) mF2 (ldG (by rw [hL]; exact hnsF1) mF3 (wpAny_pure ⟨ao, ov.toArray, some (come : Int), none, rfl, li_is hao1, by rw [hz]; simp; omega, .int _ _, .none, ?_⟩) hk k5') hk k4')
  refine kws_cons (value := .Constant (.bool true) ck p13) (show wpAny (Md w) A (eval (.Constant (.bool true) ck p13) env) _ E _ from fun _ _ _ => ?_)
  refine kws_nil ?_
  have hdl : slicePick ov.toArray (some (come : Int)) none none = (ov.drop come).toArray := by
    rw [slicePick_from ov.toArray come (by simp; omega)]
  rw [hdl]
  generalize hH2 : (h1.push { cls := .type "slice", data := .fields #[.int (come : Int) tc, .none, .none] }).push { cls := .type "list", data := .seq (ov.drop come).toArray } = H2
  have old2 : ∀ a o', h1.get? a = some o' → H2.get? a = some o' := fun a o' e => by rw [← hH2]; exact Heap.get?_push_of_some _ (Heap.get?_push_of_some _ e)
  have hl2 : H2.IsList (h1.objs.size + 1) (ov.drop come).toArray := ⟨{ cls := .type "list", data := .seq (ov.drop come).toArray }, by
    rw [← hH2, ← Heap.size_push h1 { cls := .type "slice", data := .fields #[.int (come : Int) tc, .none, .none] }]
    exact Heap.get?_push_size _ rfl, rfl, 0, rfl⟩
  show wpAny (Md w) A (call (.builtin "sorted") [.ref (h1.objs.size + 1)] [(Str.ofString "reverse", .bool true)]) _ E ⟨H2, g1, d, t1, o⟩
  refine sorted_ints_rev hl2 hns (by rw [List.length_drop]; omega) fun out ns' a1 a2 a3 => ?_
  obtain ⟨ee, hD0⟩ := sortedAll_at H2 (ov.drop come) out
  have old3 : ∀ a o', h1.get? a = some o' → (sortedAll H2 (ov.drop come) out).get? a = some o' := fun a o' e => sortedAll_old (old2 a o' e)
  generalize hH3 : sortedAll H2 (ov.drop come) out = H3 at hD0 old3
  generalize hLs : H2.objs.size + 1 = Ls at hD0
  have hD1 : H3.IsList Ls out := ⟨_, hD0, rfl, ee, rfl⟩
  refine wpAny_pyIter_list (s := ⟨H3, g1, d, t1, o⟩) hD1 ?_
  obtain rfl := hsort ns' (a2) (by unfold Ordered at a3; rw [if_pos rfl] at a3; exact a3)
  have hLs3 : Ls < H3.objs.size := Heap.lt_size hD0
  have hpu : ∀ a o', H3.get? a = some o' → (H3.push { cls := .type "list_iterator", data := .fields #[.ref Ls, .int 0 0] }).get? a = some o' := fun a o' e => Heap.get?_push_of_some _ e
  have hIt := Heap.get?_push_size (h := H3) (o := { cls := .type "list_iterator", data := .fields #[.ref Ls, .int 0 0] }) rfl
  have hout : out.size = S.length := by
    have := a1.length
    simpa using this
  refine ⟨H3.objs.size, [H3.objs.size, Ls], [H3.objs.size], out.size, _, _, rfl, Walks.list hh H3.objs.size Ls (Nat.ne_of_lt hLs3) out, by rw [hz]; omega, ⟨⟨_, hIt, rfl, rfl⟩, ⟨_, hpu _ _ hD0, rfl, ee, rfl⟩⟩, ?_, ?_, ?_⟩
  · intro b' hb'
    show b' < (H3.push _).objs.size
    rw [Heap.size_push]
    simp only [List.mem_cons, List.not_mem_nil, or_false] at hb'
    rcases hb' with rfl | rfl
    · exact Nat.lt_succ_self _
    · exact Nat.lt_succ_of_lt hLs3
  · refine ⟨fun C i v s₃ m₃ E' hC hv hn hm hkp htk => wpAny_pure ⟨rfl, ⟨_, _, rfl, fun _ _ e => e⟩⟩, fun C i v s₃ m₃ E' hC hv hpv hn hm hkp htk => ?_⟩
    obtain ⟨kk, tok, hk1, rfl⟩ := ints_get a1 i v (by simpa using hv)
    obtain ⟨j, hj, rfl⟩ : ∃ j, S[i]? = some j ∧ Int.ofNat j = kk := by simpa [List.getElem?_map] using hk1
    have hjn : j < n := hq.lt j (List.mem_of_getElem? hj)
    obtain ⟨tw, hwj⟩ := hw j hjn
    have up : ∀ a o', a < H3.objs.size → H3.get? a = some o' → s₃.heap.get? a = some o' := fun a o' hlt e => hkp a o' (fun hm => absurd (List.mem_singleton.mp hm) (Nat.ne_of_lt hlt)) (hpu _ _ e)
    have hcw3 := old3 _ _ hcw1
    have haw3 := old3 _ _ haw1
    refine wpAny_Subscript_Name (T := "list") slot_list_getitem.lookup (wpAny_Name (wpAny_loadName_cell (c := cw) (v := .ref aw) ?_ ?_ rfl ⟨_, up _ _ (Heap.lt_size hcw3) hcw3, rfl⟩ (ldG hn hm ⟨⟨_, up _ _ (Heap.lt_size haw3) haw3, rfl⟩, wpAny_getItem_list (li_is (up _ _ (Heap.lt_size haw3) haw3)) ?_ ?_ (x := .str (wd j) tw) ?_ ⟨⟨_, _, rfl, fun _ _ => ⟨tw, rfl⟩⟩, ⟨_, _, rfl, fun _ _ e => e⟩⟩⟩ ?_ ?_)))
    · show (relabel sc env).kind = _
      exact hskind
    · show List.lookup _ (relabel sc env).names = _
      unfold relabel
      rw [hsn]
      simp only [List.map_cons, List.map_nil, hk, k6']
      rfl
    · exact Int.natCast_nonneg j
    · show (j : Int) < 2 ^ 63
      omega
    · show wv.toArray[j]? = _
      simpa using hwj
    · show (relabel sc env).kind = _
      exact hskind
    · show List.lookup _ (relabel sc env).names = _
      unfold relabel
      rw [hsn]
      simp only [List.map_cons, List.map_nil, hk, k6']
      rfl
  · intro D h' tk ys vs hDn hDl hDp hvl hvP hpair hkp
    have up : ∀ a o', a < H3.objs.size → H3.get? a = some o' → h'.get? a = some o' := fun a o' hlt e => hkp a o' (fun hm => absurd (List.mem_singleton.mp hm) (Nat.ne_of_lt hlt)) (hpu _ _ e)
    have hLB3 := old3 _ _ hLB
    have hnl : new.length = S.length := hnew.len
    obtain ⟨hpl, hpg⟩ := paired_get hpair
    have hft : vs.filter (fun _ => true) = vs := by simp
    rw [hft] at hpl hpg
    have hysz : new.toArray.size = ys.size := by
      have e1 : ys.toList.length = ys.size := by simp
      simp only [List.size_toArray]
      omega
    refine SeqAt.eq_listAt (items := new.toArray) (items2 := ys) (e := fun _ => true) (li_is (up _ _ (Heap.lt_size hLB3) hLB3)) hDl hysz (by have : cLine = 9900 := rfl; omega) (fun j j1 j2 => ?_) ?_
    · have j3 : j < new.length := by simpa using j1
      obtain ⟨kk, tok, hk1, hk2⟩ := its_get hnew j new[j] (List.getElem?_eq_getElem j3)
      have j4 : j < vs.length := by omega
      have hv := hvP j vs[j] (List.getElem?_eq_getElem j4)
      obtain ⟨k', tok', hk3, hk4⟩ := ints_get a1 j vs[j] (by simpa using hv)
      obtain ⟨i', ti', hi1, hi2⟩ := hpg j vs[j] ys[j] (List.getElem?_eq_getElem j4) (by simp)
      rw [hk4] at hi1
      obtain ⟨rfl, rfl⟩ : k' = i' ∧ tok' = ti' := by injection hi1 with a b; exact ⟨a, b⟩
      have e3 : (S.map Int.ofNat)[j]? = some (Int.ofNat kk) := by rw [List.getElem?_map, hk1]; rfl
      rw [e3] at hk3
      obtain rfl : Int.ofNat kk = k' := Option.some.inj hk3
      have hkn : kk < n := hq.lt kk (List.mem_of_getElem? hk1)
      obtain ⟨u, hu⟩ := hi2 (Int.natCast_nonneg kk) (by show (kk : Int) < n; omega)
      show SeqAt.EqAt A.in1 _ new.toArray[j] ys[j] true
      rw [hu, show new.toArray[j] = new[j] from by simp, hk2]
      have := SeqAt.EqAt.str_str (A := A.in1) (s := ⟨h', g1, d, tk, o⟩) (wd kk) tok (wd kk) u
      rw [wd_eq] at this
      exact this
    · rw [show (List.range new.toArray.size).all (fun _ => true) = true from by simp]
      exact hQ h' g1 tk G1 fun a o' ha e => by
        have e3 := old3 _ _ (keep1 a o' ha e)
        exact up _ _ (Heap.lt_size e3) e3
/-! ## The plain law -/
theorem countP_strict {p q : Nat → Bool} : ∀ {l : List Nat}, (∀ x ∈ l, p x = true → q x = true) → (∃ x ∈ l, q x = true ∧ p x = false) → l.countP p < l.countP q
  | [], _, h => by obtain ⟨_, h, _⟩ := h; cases h
  | y :: l, hpq, ⟨x, hx, hq, hp⟩ => by
    have ih0 : l.countP p ≤ l.countP q := List.countP_mono_left fun z hz => hpq z (List.mem_cons_of_mem _ hz)
    rcases List.mem_cons.mp hx with rfl | hx
    · rw [List.countP_cons_of_neg (by simp [hp]), List.countP_cons_of_pos hq]; omega
    · have ih := countP_strict (l := l) (fun z hz => hpq z (List.mem_cons_of_mem _ hz)) ⟨x, hx, hq, hp⟩
      rw [List.countP_cons, List.countP_cons]
      have := hpq y List.mem_cons_self
      cases e : p y with
      | true => rw [if_pos rfl, if_pos (this e)]; omega
      | false => simp only [Bool.false_eq_true, if_false]; split <;> omega
theorem ltB_iff (R : Nat → Int) (i j : Nat) : ltB R i j = true ↔ (R j < R i ∨ (R j = R i ∧ j < i)) := by
  unfold ltB
  by_cases e : R j = R i
  · rw [if_pos e, decide_eq_true_eq]; omega
  · rw [if_neg e, decide_eq_true_eq]; omega
theorem cnt_lt {n : Nat} {R : Nat → Int} {i j : Nat} (hj : j < n) (h : ltB R i j = true) : cntB R j 0 n < cntB R i 0 n := by
  have hi := (ltB_iff R i j).mp h
  refine countP_strict (fun x _ hx => ?_) ⟨j, by simp [List.mem_range'_1]; omega, h, ?_⟩
  · have := (ltB_iff R j x).mp hx
    rw [ltB_iff]; omega
  · cases e : ltB R j j with
    | false => rfl
    | true => have := (ltB_iff R j j).mp e; omega
theorem cnt_inj {n : Nat} {R : Nat → Int} {i j : Nat} (hi : i < n) (hj : j < n) (e : cntB R i 0 n = cntB R j 0 n) : i = j := by
  by_cases h : ltB R i j = true
  · have := cnt_lt hj h; omega
  · by_cases h' : ltB R j i = true
    · have := cnt_lt hi h'; omega
    · rw [ltB_iff] at h h'; omega
theorem cnt_n {n : Nat} {R : Nat → Int} {i : Nat} (hi : i < n) : cntB R i 0 n < n := by
  have h1 : cntB R i 0 n < (List.range' 0 n).countP fun _ => true :=
    countP_strict (fun x _ _ => rfl) ⟨i, by simp [List.mem_range'_1]; omega, rfl, by
      cases e : ltB R i i with
      | false => rfl
      | true => have := (ltB_iff R i i).mp e; omega⟩
  simpa using h1
/-- a way of 0..n-1 onto itself -/
structure PermF (n : Nat) (O : Nat → Nat) : Prop where
  lt : ∀ i < n, O i < n
  inj : ∀ i < n, ∀ j < n, O i = O j → i = j
theorem PermF.onto {n : Nat} {O : Nat → Nat} (h : PermF n O) {x : Nat} (hx : x < n) : ∃ i < n, O i = x := by
  apply Classical.byContradiction
  intro hn
  have nd : ((List.range n).map O).Nodup := by
    rw [List.Nodup, List.pairwise_map]
    refine List.Pairwise.imp_of_mem ?_ List.nodup_range
    intro a b ha hb ne e
    exact ne (h.inj a (List.mem_range.mp ha) b (List.mem_range.mp hb) e)
  have nd2 : (x :: (List.range n).map O).Nodup := List.nodup_cons.mpr ⟨fun hm => by
    obtain ⟨i, hi, e⟩ := List.mem_map.mp hm
    exact hn ⟨i, List.mem_range.mp hi, e⟩, nd⟩
  have := nd2.length_le_of_subset (l₂ := List.range n) (fun y hy => by
    rcases List.mem_cons.mp hy with rfl | hy
    · exact List.mem_range.mpr hx
    · obtain ⟨i, hi, rfl⟩ := List.mem_map.mp hy
      exact List.mem_range.mpr (h.lt i (List.mem_range.mp hi)))
  have h2 : (x :: (List.range n).map O).length = n + 1 := by simp
  rw [h2, List.length_range] at this
  omega
theorem cw_find (j : Nat) : ∀ (f i : Nat) (S : List Nat), i ≤ j → j < i + 1 + f → cwM j f (i + 1) S i = (j + 1, (List.range' i (j - i)).reverse ++ S, true)
  | f, i, S, h1, h2 => by
    unfold cwM
    by_cases e : i = j
    · subst e; simp
    · rw [if_neg e]
      match f, h2 with
      | 0, h2 => omega
      | f + 1, h2 =>
        show cwM j f (i + 1 + 1) (i :: S) (i + 1) = _
        rw [cw_find j f (i + 1) (i :: S) (by omega) (by omega), show j - i = (j - (i + 1)) + 1 from by omega, List.range'_succ]
        simp
theorem cw_miss (j : Nat) : ∀ (f k i : Nat) (S : List Nat), j < k → i ≠ j → cwM j f k S i = (k + f, (List.range' k f).reverse ++ (i :: S), false)
  | 0, k, i, S, h1, h2 => by unfold cwM; rw [if_neg h2]; simp
  | f + 1, k, i, S, h1, h2 => by
    unfold cwM
    rw [if_neg h2]
    show cwM j f (k + 1) (i :: S) k = _
    rw [cw_miss j f (k + 1) k (i :: S) (by omega) (by omega), List.range'_succ, show k + 1 + f = k + (f + 1) from by omega]
    simp
/-- c words have come; k are read; those of S wait, the last one first -/
structure Inv (n : Nat) (O : Nat → Nat) (c k : Nat) (S : List Nat) : Prop where
  kn : k ≤ n
  desc : S.Pairwise (· > ·)
  mem : ∀ x, x ∈ S ↔ x < k ∧ ∀ i < c, O i ≠ x
  best : ∀ i < c, O i < k
theorem desc_range (k f : Nat) {S : List Nat} (hS : S.Pairwise (· > ·)) (hlt : ∀ x ∈ S, x < k) : ((List.range' k f).reverse ++ S).Pairwise (· > ·) := by
  refine List.pairwise_append.mpr ⟨?_, hS, fun a ha b hb => ?_⟩
  · rw [List.pairwise_reverse]; exact List.pairwise_lt_range'
  · have := List.mem_range'_1.mp (List.mem_reverse.mp ha)
    have := hlt b hb
    omega
theorem Inv.found {n : Nat} {O : Nat → Nat} (hO : PermF n O) {c k : Nat} {S : List Nat} (h : Inv n O c k S) (hc : c < n) (hk : k ≤ O c) :
    comesM n (O c) k S = (O c + 1, (List.range' k (O c - k)).reverse ++ S, true) ∧ Inv n O (c + 1) (O c + 1) ((List.range' k (O c - k)).reverse ++ S) := by
  have hj := hO.lt c hc
  have hlt : ∀ x ∈ S, x < k := fun x hx => ((h.mem x).mp hx).1
  refine ⟨?_, hj, desc_range _ _ h.desc hlt, fun x => ?_, fun i hi => ?_⟩
  · unfold comesM
    cases S with
    | nil =>
      have e : getM n k [] = (some k, k + 1, []) := by unfold getM; rw [if_pos (by omega)]
      rw [e]
      show cwM _ _ _ _ _ = _
      rw [cw_find _ _ _ _ hk (by omega)]
    | cons i S =>
      have hi : i < k := hlt i List.mem_cons_self
      show cwM (O c) (n - k) k S i = _
      rw [show n - k = (n - (k + 1)) + 1 from by omega]
      unfold cwM
      rw [if_neg (by omega)]
      show cwM (O c) (n - (k + 1)) (k + 1) (i :: S) k = _
      rw [cw_find _ _ _ _ hk (by omega)]
  · rw [List.mem_append, List.mem_reverse, List.mem_range'_1, h.mem]
    constructor
    · rintro (hx | ⟨hx, hy⟩)
      · refine ⟨by omega, fun i hi e => ?_⟩
        rcases Nat.lt_succ_iff_lt_or_eq.mp hi with hi | rfl
        · have := h.best i hi; omega
        · omega
      · refine ⟨by omega, fun i hi e => ?_⟩
        rcases Nat.lt_succ_iff_lt_or_eq.mp hi with hi | rfl
        · exact hy i hi e
        · omega
    · rintro ⟨hx, hy⟩
      have hne := hy c (Nat.lt_succ_self _)
      by_cases hxk : x < k
      · exact .inr ⟨hxk, fun i hi => hy i (Nat.lt_succ_of_lt hi)⟩
      · exact .inl (by omega)
  · rcases Nat.lt_succ_iff_lt_or_eq.mp hi with hi | rfl
    · have := h.best i hi; omega
    · omega
theorem Inv.top {n : Nat} {O : Nat → Nat} {c k : Nat} {S : List Nat} (h : Inv n O c k (O c :: S)) (hc : c < n) :
    comesM n (O c) k (O c :: S) = (k, S, true) ∧ Inv n O (c + 1) k S := by
  have hd := List.pairwise_cons.mp h.desc
  refine ⟨?_, h.kn, hd.2, fun x => ?_, fun i hi => ?_⟩
  · show cwM (O c) (n - k) k S (O c) = _
    unfold cwM; rw [if_pos rfl]
  · have hm := h.mem x
    constructor
    · intro hx
      have := hm.mp (List.mem_cons_of_mem _ hx)
      have hgt := hd.1 x hx
      refine ⟨this.1, fun i hi e => ?_⟩
      rcases Nat.lt_succ_iff_lt_or_eq.mp hi with hi | rfl
      · exact this.2 i hi e
      · omega
    · rintro ⟨hx, hy⟩
      have := hm.mpr ⟨hx, fun i hi => hy i (Nat.lt_succ_of_lt hi)⟩
      rcases List.mem_cons.mp this with e | hx
      · exact absurd e.symm (hy c (Nat.lt_succ_self _))
      · exact hx
  · rcases Nat.lt_succ_iff_lt_or_eq.mp hi with hi | rfl
    · exact h.best i hi
    · exact ((h.mem _).mp List.mem_cons_self).1
theorem Inv.miss {n : Nat} {O : Nat → Nat} {c k j : Nat} {S : List Nat} (h : Inv n O c k (j :: S)) (hj : j ≠ O c) (hk : O c < k) :
    comesM n (O c) k (j :: S) = (n, (List.range' k (n - k)).reverse ++ (j :: S), false) ∧ Inv n O c n ((List.range' k (n - k)).reverse ++ (j :: S)) := by
  have hlt : ∀ x ∈ j :: S, x < k := fun x hx => ((h.mem x).mp hx).1
  have hkn := h.kn
  refine ⟨?_, Nat.le_refl _, desc_range _ _ h.desc hlt, fun x => ?_, fun i hi => Nat.lt_of_lt_of_le (h.best i hi) hkn⟩
  · show cwM (O c) (n - k) k S j = _
    rw [cw_miss _ _ _ _ _ hk hj, show k + (n - k) = n from by omega]
  · rw [List.mem_append, List.mem_reverse, List.mem_range'_1, h.mem]
    constructor
    · rintro (hx | ⟨hx, hy⟩)
      · exact ⟨by omega, fun i hi e => by have := h.best i hi; omega⟩
      · exact ⟨by omega, hy⟩
    · rintro ⟨hx, hy⟩
      by_cases hxk : x < k
      · exact .inr ⟨hxk, hy⟩
      · exact .inl (by omega)
theorem bestF_ge (f : Nat → Int) : ∀ c, ∀ i ≤ c, f i ≤ bestF f c
  | 0, i, h => by obtain rfl : i = 0 := by omega
                  exact Int.le_refl _
  | c + 1, i, h => by
    have ih := bestF_ge f c
    unfold bestF
    by_cases e : i = c + 1
    · subst e; split <;> omega
    · have := ih i (by omega)
      split <;> omega
theorem bestF_in (f : Nat → Int) : ∀ c, ∃ i ≤ c, f i = bestF f c
  | 0 => ⟨0, Nat.le_refl _, rfl⟩
  | c + 1 => by
    obtain ⟨i, hi, e⟩ := bestF_in f c
    unfold bestF
    split
    · exact ⟨c + 1, Nat.le_refl _, rfl⟩
    · exact ⟨i, by omega, e⟩
theorem dueJ_zero {f : Nat → Int} {n c : Nat} : dueJ f n c = 0 ↔ ∀ i, c < i → i < n → ¬ (f i > f c ∧ bestF f (c - 1) > f i) := by
  unfold dueJ cntK
  rw [List.countP_eq_zero]
  constructor
  · intro h i h1 h2 h3
    have := h (i - (c + 1)) (List.mem_range'_1.mpr (by omega))
    have e : c + 1 + (i - (c + 1)) = i := by omega
    simp only [e, Bool.and_eq_true, decide_eq_true_eq] at this
    exact this h3
  · intro h i hi
    have := List.mem_range'_1.mp hi
    have h2 := h (c + 1 + i) (by omega) (by omega)
    simp only [Bool.and_eq_true, decide_eq_true_eq]
    exact h2
theorem law_run {n : Nat} {O : Nat → Nat} (hO : PermF n O) {Ol : List Nat} (hl : ∀ i < n, Ol.getD i 0 = O i) : ∀ (r c k : Nat) (S : List Nat), n = c + r → 1 ≤ c → k = (bestF (fun i => (O i : Int)) (c - 1)).toNat + 1 → Inv n O c k S →
    (lawM n Ol r c k S).1 = (dueR (fun i => (O i : Int)) n r c).getD n ∧ (lawM n Ol r c k S).2.1 = n ∧ Inv n O (lawM n Ol r c k S).1 n (lawM n Ol r c k S).2.2 := by
  intro r
  induction r with
  | zero =>
    intro c k S hn h1 hb h
    obtain rfl : n = c := by omega
    have hk : k = n := by
      obtain ⟨i, hi, e⟩ := hO.onto (x := n - 1) (by omega)
      have := h.best i (by omega)
      have := h.kn
      omega
    subst hk
    exact ⟨rfl, rfl, h⟩
  | succ r ih =>
    intro c k S hn h1 hb h
    have hc : c < n := by omega
    have hj := hO.lt c hc
    obtain ⟨i0, hi0, eb⟩ := bestF_in (fun i => (O i : Int)) (c - 1)
    have hbk : bestF (fun i => (O i : Int)) (c - 1) = (k : Int) - 1 := by rw [← eb] at hb ⊢; omega
    have hvis : ∀ i < c, O i < k := h.best
    have hnext : ∀ k1, (k1 = k ∧ O c < k) ∨ (k1 = O c + 1 ∧ k ≤ O c) → k1 = (bestF (fun i => (O i : Int)) (c + 1 - 1)).toNat + 1 := by
      intro k1 hk1
      obtain ⟨c', rfl⟩ : ∃ c', c = c' + 1 := ⟨c - 1, by omega⟩
      show k1 = (bestF _ (c' + 1)).toNat + 1
      rw [show c' + 1 - 1 = c' from rfl] at hbk
      unfold bestF
      rw [hbk]
      split <;> omega
    unfold lawM dueR
    rw [hl c hc]
    by_cases hk : k ≤ O c
    · obtain ⟨e, h'⟩ := h.found hO hc hk
      have hd : dueJ (fun i => (O i : Int)) n c = 0 := dueJ_zero.mpr fun i _ _ hx => by rw [hbk] at hx; omega
      rw [e, if_pos hd]
      exact ih (c + 1) (O c + 1) _ (by omega) (by omega) (hnext _ (.inr ⟨rfl, hk⟩)) h'
    · have hin : O c ∈ S := (h.mem _).mpr ⟨by omega, fun i hi e => by have := hO.inj i (by omega) c hc e; omega⟩
      cases S with
      | nil => cases hin
      | cons j S =>
        by_cases ej : j = O c
        · subst ej
          obtain ⟨e, h'⟩ := h.top hc
          have hd : dueJ (fun i => (O i : Int)) n c = 0 := dueJ_zero.mpr fun i h2 h3 hx => by
            rw [hbk] at hx
            have hm : O i ∈ O c :: S := (h.mem _).mpr ⟨by omega, fun i' hi' e' => by have := hO.inj i' (by omega) i h3 e'; omega⟩
            rcases List.mem_cons.mp hm with e' | hm
            · omega
            · have := (List.pairwise_cons.mp h.desc).1 _ hm; omega
          rw [e, if_pos hd]
          exact ih (c + 1) k S (by omega) (by omega) (hnext _ (.inl ⟨rfl, by omega⟩)) h'
        · obtain ⟨e, h'⟩ := h.miss ej (by omega)
          have hjm := (h.mem j).mp List.mem_cons_self
          have hlt : O c < j := by
            rcases List.mem_cons.mp hin with e' | hm
            · exact absurd e'.symm ej
            · exact (List.pairwise_cons.mp h.desc).1 _ hm
          have hkn := h.kn
          have hd : dueJ (fun i => (O i : Int)) n c ≠ 0 := fun hz => by
            obtain ⟨i, hi, rfl⟩ := hO.onto (x := j) (by omega)
            have hci : c < i := by
              apply Classical.byContradiction
              intro hq
              by_cases e2 : i = c
              · subst e2; exact ej rfl
              · exact hjm.2 i (by omega) rfl
            refine dueJ_zero.mp hz i hci hi ⟨by omega, ?_⟩
            rw [hbk]
            have : O i ≠ k - 1 := fun e2 => by
              have : O i0 = O i := by omega
              have := hO.inj i0 (by omega) i hi this
              omega
            omega
          rw [e, if_neg hd]
          exact ⟨rfl, rfl, h'⟩
/-- the law: as many words come as the second def says, and those that are left come out the last one first -/
theorem plain {n : Nat} (h1 : 1 ≤ n) {O : Nat → Nat} (hO : PermF n O) {Ol : List Nat} (hlen : Ol.length = n) (hl : ∀ i < n, Ol.getD i 0 = O i) :
    (lawM n Ol n 0 0 []).1 = dueV (fun i => (O i : Int)) n ∧ (lawM n Ol n 0 0 []).2.1 = n ∧ (lawM n Ol n 0 0 []).2.2.Pairwise (· > ·) ∧ (lawM n Ol n 0 0 []).2.2.Perm (Ol.drop (lawM n Ol n 0 0 []).1) := by
  have h0 : Inv n O 0 0 [] := ⟨by omega, .nil, fun x => by simp, fun i hi => by omega⟩
  obtain ⟨e, h'⟩ := h0.found hO (by omega) (Nat.zero_le _)
  have key := law_run hO hl (n - 1) 1 (O 0 + 1) _ (by omega) (by omega) (by show O 0 + 1 = (O 0 : Int).toNat + 1; omega) h'
  have e2 : lawM n Ol n 0 0 [] = lawM n Ol (n - 1) 1 (O 0 + 1) ((List.range' 0 (O 0 - 0)).reverse ++ []) := by
    obtain ⟨m, rfl⟩ : ∃ m, n = m + 1 := ⟨n - 1, by omega⟩
    show (match comesM (m + 1) (Ol.getD 0 0) 0 [] with
    | (k1, S1, true) => lawM (m + 1) Ol m (0 + 1) k1 S1
    | (k1, S1, false) => (0, k1, S1)) = _
    rw [hl 0 (by omega), e]
    rfl
  rw [e2]
  obtain ⟨k1, k2, k3⟩ := key
  refine ⟨k1, k2, k3.desc, (List.perm_ext_iff_of_nodup ?_ ?_).mpr fun x => ?_⟩
  · exact k3.desc.imp fun h => Nat.ne_of_gt h
  · have nd : Ol.Nodup := by
      have : Ol = (List.range n).map O := by
        apply List.ext_getElem (by simp [hlen])
        intro i hi _
        have := hl i (by omega)
        simpa [List.getD_eq_getElem?_getD, List.getElem?_eq_getElem hi] using this
      rw [this, List.Nodup, List.pairwise_map]
      refine List.Pairwise.imp_of_mem ?_ List.nodup_range
      intro a b ha hb ne e
      exact ne (hO.inj a (List.mem_range.mp ha) b (List.mem_range.mp hb) e)
    exact nd.sublist (List.drop_sublist _ _)
  · rw [k3.mem]
    generalize (lawM n Ol (n - 1) 1 (O 0 + 1) ((List.range' 0 (O 0 - 0)).reverse ++ [])).1 = c
    constructor
    · rintro ⟨hx, hy⟩
      obtain ⟨i, hi, rfl⟩ := hO.onto hx
      refine List.mem_iff_getElem?.mpr ⟨i - c, ?_⟩
      have hci : c ≤ i := by
        apply Classical.byContradiction
        intro hq
        exact hy i (by omega) rfl
      rw [List.getElem?_drop, show c + (i - c) = i from by omega]
      have := hl i hi
      rw [List.getD_eq_getElem?_getD, List.getElem?_eq_getElem (by omega)] at this
      rw [List.getElem?_eq_getElem (by omega)]
      simpa using this
    · intro hx
      obtain ⟨i, hi⟩ := List.mem_iff_getElem?.mp hx
      rw [List.getElem?_drop] at hi
      have hlt : c + i < n := by
        have := (List.getElem?_eq_some_iff.mp hi).1
        omega
      have := hl (c + i) hlt
      rw [List.getD_eq_getElem?_getD, hi] at this
      obtain rfl : x = O (c + i) := by simpa using this
      refine ⟨hO.lt _ hlt, fun j hj e => ?_⟩
      have := hO.inj j (by omega) (c + i) hlt e
      omega
/-! ## The law's body, from its first statement to its last -/
theorem execs_then {M : Model} {A : Around} {β : Type} {Q : β → Shared → Prop} {E : Value → Shared → Prop} {s : Shared} {m : Sem Unit} {l : List Stmt} {env : Env} {κ : Flow → Sem β}
    (h : wpAny M A (m >>= fun _ => execs l env >>= fun f => (pure (.done f) : Sem PySem.Fin)) (fun fin s' => match fin with | .done f => wpAny M A (κ f) Q E s' | .again _ => False) E s) :
    wpAny M A (m >>= fun _ => execs l env >>= κ) Q E s := by
  intro Γ p hΓ
  have z := h Γ p hΓ
  rw [Sem.wp_bind'] at z ⊢
  refine Sem.wp_mono _ _ _ (fun _ p' s' y => ?_) (fun _ _ _ y => y) p s z
  rw [Sem.wp_bind'] at y ⊢
  exact Sem.wp_mono _ _ _ (fun f p'' s'' y => y Γ p'' hΓ) (fun _ _ _ y => y) p' s' y
theorem execs_then0 {M : Model} {A : Around} {β : Type} {Q : β → Shared → Prop} {E : Value → Shared → Prop} {s : Shared} {l : List Stmt} {env : Env} {κ : Flow → Sem β}
    (h : wpAny M A (execs l env >>= fun f => (pure (.done f) : Sem PySem.Fin)) (fun fin s' => match fin with | .done f => wpAny M A (κ f) Q E s' | .again _ => False) E s) : wpAny M A (execs l env >>= κ) Q E s := by
  intro Γ p hΓ
  have y := h Γ p hΓ
  rw [Sem.wp_bind'] at y ⊢
  exact Sem.wp_mono _ _ _ (fun f p'' s'' y => y Γ p'' hΓ) (fun _ _ _ y => y) p s y
theorem keep732 (P : Params) : keepIn (K P) (.ref 732) = true := by kernel_rfl
theorem g3_shlex (P : Params) : g3 P (Str.ofString "shlex") = some (.ref 732) := by with_unfolding_all rfl
theorem g3_join (P : Params) : g3 P (Str.ofString "join_shlex") = some (.ref 743) := by with_unfolding_all rfl
theorem kIn_of {P : Params} {h : Heap} (st : ∀ p ∈ K P, h.get? p.1 = some p.2) : (K P).In h := by
  intro a o e
  have : (a, o) ∈ K P := by
    generalize K P = l at e
    induction l with
    | nil => cases e
    | cons p l ih =>
      obtain ⟨b, y⟩ := p
      rw [List.lookup_cons] at e
      cases hb : a == b with
      | true => rw [hb] at e; cases e; rw [beq_iff_eq.mp hb]; exact List.mem_cons_self
      | false => rw [hb] at e; exact List.mem_cons_of_mem _ (ih e)
  exact st _ this
/-- shlex(join(words), posix=True): the text, the lexer -/
theorem lexRun {w : World} {env : Env} {ex : PySem.Expr} {p1 p2 p3 p4 p5 p6 p7 : Pos} {ck : Nat} {cw aw : Nat}
    (he : ex = .Call (.Name (Str.ofString "shlex") p1) [.Call (.Name (Str.ofString "join_shlex") p2) [.Name (Str.ofString "words") p3] [] p4] [⟨some (Str.ofString "posix"), .Constant (.bool true) ck p5, p6⟩] p7)
    (hk : env.scope.kind = .function) (hG : env.globals = 3) (k1' : env.kindOf (Str.ofString "shlex") = some .globalImplicit) (k2' : env.kindOf (Str.ofString "join_shlex") = some .globalImplicit) (k6' : env.kindOf (Str.ofString "words") = some .cell)
    (hcl : env.cells.lookup (Str.ofString "words") = some cw) {n : Nat} (h3 : 3 ≤ n) (h8 : n ≤ 8) {wv : List Value} {wc : Nat} (hwl : wv.length = n) (hw : WordsIs n wv)
    {h₀ : Bs} {D : Dy} {b m : Nat} {h : Heap} {g : Array GenState} {d : Drawn} {t : Nat} {o : OsState} {A : Around} (r : Rp w.params h₀ h D b m) (h738 : h.get? 738 = some (k738 w.params)) (hcw : h.get? cw = some (cellO (.ref aw))) (haw : h.get? aw = some (liObj wv wc))
    (G : AllBare g) (hA : A.depth ≤ 600) (hU : A.units ≤ 8000) (hh : A.handled = none) {Q : Value → Shared → Prop} {E : Value → Shared → Prop}
    (hQ : ∀ h2 h' g' t2 tk, AllBare g' → (∀ a o, a ≠ 738 → h.get? a = some o → h2.get? a = some o) → h.objs.size ≤ h2.objs.size → (∃ vs, h2.get? 738 = some { cls := .none, data := .fields vs }) →
      Rp w.params ⟨h2, [], []⟩ h' (shD w.params (xS h2.objs.size t2 tk) (.str ⟨#[32]⟩ (t2 + 66)) (.str ⟨#[]⟩ (t2 + 77)) 0 [] (txt n) (.int 0 (t2 + 20))) h2.objs.size 12 → Q (.ref (h2.objs.size + 1)) ⟨h', g', d, t2 + 90, o⟩) :
    wpAny (Md w) A (eval ex env) Q E ⟨h, g, d, t, o⟩ := by
  subst he
  have h3s : h.get? 3 = some (Mine.k3 w.params) := r.stat (3, Mine.k3 w.params) (kGet_mem (by kernel_rfl))
  have hns : h.Ns env.globals (g3 w.params) := by rw [hG]; exact ⟨_, es3 w.params, _, h3s, rfl, es3_keys _, fun _ => rfl⟩
  have sp : ∀ {Qs : List Value → Shared → Prop} {s : Shared} {e1 : PySem.Expr} {pp : Pos}, starEach [e1] env = [(false, eval e1 env)] → wpAny (Md w) A (eval e1 env) (fun v s₁ => Qs [v] s₁) E s → wpAny (Md w) A (spliced (backTo pp (starEach [e1] env))) Qs E s := fun hs hv => by
    rw [hs]
    exact Calls.spliced_cons (wpAny_mono hv (fun _ _ y => Calls.spliced_nil y) fun _ _ y => y)
  refine wpAny_Call_Name_kw (Calls.Name_function_global hk k1' (Calls.loadGlobal_global (mg := g3 w.params) hns (g3_shlex _) ?_))
  refine callWith_KW (K := K w.params) (kIn_of r.stat) (keep732 _) (by rfl) (sp (by rfl) ?_)
  refine Call_name1 (by rfl) (Calls.Name_function_global hk k2' (Calls.loadGlobal_global (mg := g3 w.params) hns (g3_join _) ?_))
  refine Calls.callWith_function (o := k743 w.params) (fd := fdOf (k743 w.params)) (Calls.evalArgs_plain (Calls.spliced_cons (wpAny_Name (wpAny_loadName_cell hk k6' hcl ⟨_, hcw, rfl⟩ (Calls.spliced_nil ⟨⟨r.stat (743, k743 w.params) (kGet_mem (by kernel_rfl)), by with_unfolding_all rfl⟩, ?_⟩)))))
  refine wpAny_call (joinT h3 h8 hwl hw r h738 haw G (by omega) (by omega) hh fun h2 g2 t2 tk G2 keep2 sz2 k2 => ?_)
  refine kws_cons (value := .Constant (.bool true) ck p5) (show wpAny (Md w) A (eval (.Constant (.bool true) ck p5) env) _ E _ from fun _ _ _ => ?_)
  have st2 : ∀ p ∈ K w.params, h2.get? p.1 = some p.2 := fun p hp => keep2 _ _ (K_low _ p hp).2 (r.stat p hp)
  refine kws_nil ⟨kIn_of st2, ?_⟩
  have hlow : 769 ≤ h.objs.size := Nat.le_trans r.low (by rw [r.size]; omega)
  refine wpAny_call (conSHL (w := w) (N := 600) (U := 8000) (by omega) h2.objs.size t2 (mkZ lx0 [tk] [] [txt n] [] []) h2 g2 d o A AllBare G2 hA hU hh (fun _ e => by cases e) (Rp.make st2 (Nat.le_trans hlow sz2) (fun p hp => by cases hp) List.nodup_nil (fun p hp => by cases hp) (fun p hp => by cases hp) (fun a ha => by cases ha)) _ fun h' g' G' r' => ?_)
  exact hQ h2 h' g' t2 tk G' keep2 sz2 k2 r'
theorem lawM_le (n : Nat) (O : List Nat) : ∀ (r c k : Nat) (S : List Nat), (lawM n O r c k S).1 ≤ c + r
  | 0, c, k, S => Nat.le_refl _
  | r + 1, c, k, S => by
    unfold lawM
    generalize comesM n (O.getD c 0) k S = X
    obtain ⟨k1, S1, b⟩ := X
    cases b with
    | true => have := lawM_le n O r (c + 1) k1 S1; show (lawM n O r (c + 1) k1 S1).1 ≤ _; omega
    | false => show c ≤ _; omega
theorem intsAre_of : ∀ {ov : List Value} {ks : List Int}, ov.length = ks.length → (∀ (i : Nat) (k : Int), ks[i]? = some k → ∃ tok, ov[i]? = some (.int k tok)) → IntsAre ov ks
  | [], [], _, _ => .nil
  | [], _ :: _, h, _ => by simp at h
  | _ :: _, [], h, _ => by simp at h
  | v :: ov, k :: ks, h, g => by
    obtain ⟨tok, e⟩ := g 0 k rfl
    obtain rfl : v = .int k tok := by simpa using e
    exact .cons _ _ (intsAre_of (by simpa using h) fun i k' hk => by
      obtain ⟨tok', e'⟩ := g (i + 1) k' (by simpa using hk)
      exact ⟨tok', by simpa using e'⟩)
/-- the statements after the lexer's making -/
theorem restRun {w : World} {F cr cn cw ar ao aw sa n : Nat} (h3 : 3 ≤ n) (h8 : n ≤ 8) {Rw : Nat → Int} (R0 : Rw 0 = 2) (R1 : Rw 1 = 4) {ov wv : List Value} (hO : OrdL n Rw n ov) (hww : WordsIs n wv) (hwn : wv.length = n) (hF9 : 769 ≤ F)
    {ks ko tn oc ts tt tp : Nat} {x : Lx} {h₀ : Bs} {b m : Nat} {h : Heap} {g : Array GenState} {d : Drawn} {t : Nat} {o : OsState} {A : Around} (G : AllBare g)
    (r : Rp w.params h₀ h ([(F, frObj [en w.params (Str.ofString "script") ks (.ref sa), en w.params (Str.ofString "order") ko (.ref ao)] 2), (cr, cellO (.ref ar)), (cn, cellO (.int n tn)), (cw, cellO (.ref aw)), (ao, liObj ov oc), (aw, liObj wv 0)] ++ shD w.params x (.str ⟨#[32]⟩ ts) (.str ⟨#[]⟩ tt) 0 [] (txt n) (.int 0 tp)) b m)
    (hA : A.depth ≤ 600) (hU : A.units ≤ 8000) (hh : A.handled = none) (hfr : A.frames = some [lawE F cr cn cw]) {Q : Flow → Shared → Prop} {E : Value → Shared → Prop}
    (hQ : ∀ h' g' t', AllBare g' → (∀ a o, a ∉ F :: cr :: cn :: cw :: ao :: aw :: (shD w.params x (.str ⟨#[32]⟩ ts) (.str ⟨#[]⟩ tt) 0 [] (txt n) (.int 0 tp)).map (·.1) → h.get? a = some o → h'.get? a = some o) → Q (.ret (.bool true)) ⟨h', g', d, t', o⟩) :
    wpAny (Md w) A (bindName (lawE F cr cn cw) (asgName (nthS (fnBody x30.s) 4)) (.ref x.L) >>= fun _ => execs (bB ++ [nthS (fnBody x30.s) 8]) (lawE F cr cn cw)) Q E ⟨h, g, d, t, o⟩ := by
  have hP : PermF n fun i => cntB Rw i 0 n := ⟨fun i hi => cnt_n hi, fun i hi j hj e => cnt_inj hi hj e⟩
  obtain ⟨Ol, hOl⟩ : ∃ Ol : List Nat, Ol = (List.range n).map fun i => cntB Rw i 0 n := ⟨_, rfl⟩
  have hlen : Ol.length = n := by rw [hOl]; simp
  have hget : ∀ i < n, Ol.getD i 0 = cntB Rw i 0 n := fun i hi => by rw [hOl]; simp [List.getD_eq_getElem?_getD, hi]
  have hOrd : OrdIs Ol ov := fun i hi => by
    obtain ⟨tok, e⟩ := hO.2 i (hlen ▸ hi)
    exact ⟨tok, by rw [hget i (hlen ▸ hi)]; exact e⟩
  obtain ⟨pl1, pl2, pl3, pl4⟩ := plain (by omega) hP hlen hget
  have q0is : LS.is ⟨.str ⟨#[32]⟩ ts, .str ⟨#[]⟩ tt, .int 0 tp, 0, []⟩ n 0 [] := ⟨.mid 0 ts tt tp (by omega), .nil, fun i hi => by cases hi⟩
  obtain ⟨q2, m2, i2, tc2, hq2, hl2, hk2, hcon⟩ := lawT (w := w) h3 h8 hlen (fun i hi => by rw [hget i hi]; exact cnt_n hi) hOrd hww x F cr cn cw ao aw ks ko (t + 0) (t + 2) sa tn oc 0 n 0 0 [] _ (by omega) q0is (Nat.zero_le _) (Nat.le_refl _) (b + m + 0) (t + 3) (t + 1)
  have h01 : ((cntB Rw 0 0 n : Nat) : Int) < ((cntB Rw 1 0 n : Nat) : Int) := by
    have : cntB Rw 0 0 n < cntB Rw 1 0 n := cnt_lt (by omega) ((ltB_iff Rw 1 0).mpr (.inl (by rw [R0, R1]; decide)))
    omega
  obtain ⟨td, m3, i3, hdue⟩ := dueT (w := w) (f := fun i => (cntB Rw i 0 n : Int)) h8 h3 h01 (ov := ov) hO ao oc (b + m + (0 + m2)) (t + (3 + i2))
  have hcn := lawM_le n Ol n 0 0 []
  rw [← pl1] at hdue
  rw [pl2] at hq2 hl2
  generalize lawM n Ol n 0 0 [] = X at pl1 pl2 pl3 pl4 hq2 hl2 hk2 hcon hdue hcn
  obtain ⟨come, kk, S⟩ := X
  have tr := trLawB (w := w) (N := 620) (U := 8400) (by omega) (b + m) t (mkZ x [F, cr, cn, cw, ar, ao, aw, sa, tn, oc, 0, ks, ko, m2, i2, m3, i3, tc2, td] [.str ⟨#[32]⟩ ts, .str ⟨#[]⟩ tt, .int 0 tp, q2.st, q2.tk, q2.pos] [txt n] [n, (come : Nat), 0, q2.e] [ov, wv, [], q2.its]) (ctOk_cons ⟨rfl, ?_⟩ (ctOk_cons ⟨rfl, ?_⟩ ctOk_nil)) (fun y hy => ?_)
  · rw [show bB ++ [nthS (fnBody x30.s) 8] = bB ++ [nthS (fnBody x30.s) 8] from rfl, execs_append]
    refine execs_then ?_
    refine tr h g d o A AllBare G (by omega) (by omega) hh (fun _ e => by cases e) (r.sub (List.Sublist.refl _) (fun _ h => by cases h)) _ _ fun h5 g5 G5 r5 => ?_
    show wpAny (Md w) A (execs [nthS (fnBody x30.s) 8] (lawE F cr cn cw)) Q E _
    rw [execs_cons]
    refine wpAny_bind (retRun (F := F) (cr := cr) (cn := cn) (cw := cw) (ao := ao) (aw := aw) (S := S) (come := come) (q := q2) (ns₀ := (Ol.drop come).map Int.ofNat) (by with_unfolding_all exact rfl) (by with_unfolding_all rfl) rfl rfl rfl rfl (by with_unfolding_all rfl) (by with_unfolding_all rfl) (by with_unfolding_all rfl) (by with_unfolding_all rfl) (by with_unfolding_all rfl) (by with_unfolding_all rfl)
      (by with_unfolding_all rfl) (by with_unfolding_all rfl) (by with_unfolding_all rfl) h3 h8 hq2 hl2 hwn hww hO.1 (by show come ≤ n; have : come ≤ 0 + n := hcn; omega) ?_ ?_ G5 r5 hF9 (by omega) (by omega) hh hfr fun h' g' t' G' k' => ?_)
    · refine intsAre_of (by simp [hlen, hO.1]) fun i k hk => ?_
      rw [List.getElem?_map, List.getElem?_drop] at hk
      obtain ⟨y, hy, rfl⟩ := Option.map_eq_some_iff.mp hk
      obtain ⟨hlt, _⟩ := List.getElem?_eq_some_iff.mp hy
      obtain ⟨tok, e⟩ := hOrd (come + i) hlt
      rw [List.getD_eq_getElem?_getD, hy] at e
      exact ⟨tok, by rw [List.getElem?_drop]; exact e⟩
    · intro ns hp hs
      have e1 : (S.map Int.ofNat).Pairwise (· ≥ ·) := List.pairwise_map.mpr (pl3.imp fun {a b} h => by show (Int.ofNat b) ≤ Int.ofNat a; have : b < a := h; exact Int.ofNat_le.mpr (Nat.le_of_lt this))
      exact List.Perm.eq_of_pairwise (le := (· ≥ ·)) (fun a b _ _ h1 h2 => Int.le_antisymm h2 h1) hs e1 (hp.trans (pl4.symm.map Int.ofNat))
    · refine wpAny_pure (hQ h' g' t' G' fun a o' ha e => k' a o' (fun hm => ha ?_) (r5.keep a o' e (fun hm => ha ?_) (fun hm => by cases hm)))
      · rcases List.mem_cons.mp hm with e1 | hm
        · exact e1 ▸ List.mem_cons_self
        · refine .tail _ (.tail _ (.tail _ (.tail _ (.tail _ (.tail _ ?_)))))
          have := ((shD_perm w.params x q2.st q2.tk q2.e q2.its (txt n) q2.pos).map (·.1)).mem_iff.mpr hm
          exact this
      · exact hm
  · have := hcon (620 + 20) (8400 + 200) (by omega)
    have pr : ∀ (q : LS) (come : Value), ([(F, frL w.params x ks ko (t + 0) (t + 2) sa ao come), (cn, cellO (.int n tn)), (cw, cellO (.ref aw)), (ao, liObj ov oc), (aw, liObj wv 0)] ++ shD w.params x q.st q.tk q.e q.its (txt n) q.pos).Perm (dlw w.params x q n F cn cw ao aw ks ko (t + 0) (t + 2) sa come tn ov oc wv 0) :=
      fun q come => ((shD_perm _ _ _ _ _ _ _ _).append_left _).trans List.perm_append_comm
    refine ConF.perm this (pr ⟨.str ⟨#[32]⟩ ts, .str ⟨#[]⟩ tt, .int 0 tp, 0, []⟩ _) ?_
    show (dlw w.params x q2 n F cn cw ao aw ks ko (t + 0) (t + 2) sa (.int (come : Nat) tc2) tn ov oc wv 0).Perm (_ ++ [])
    rw [List.append_nil]
    exact (pr q2 _).symm
  · exact hdue (620 + 20) (8400 + 200) (by omega) (by have : cLine = 9900 := rfl; omega)
  · obtain rfl := List.mem_singleton.mp hy
    refine ok_cmp ?_
    show (!decide ((come : Int) = (come : Int))) = false
    simp
theorem s4_is : ∃ (p0 p1 p2 p3 p4 p5 p6 p7 p8 : Pos) (ck : Nat), nthS (fnBody x30.s) 4 = .Assign [.Name (Str.ofString "lexer") p0] (.Call (.Name (Str.ofString "shlex") p1) [.Call (.Name (Str.ofString "join_shlex") p2) [.Name (Str.ofString "words") p3] [] p4] [⟨some (Str.ofString "posix"), .Constant (.bool true) ck p5, p6⟩] p7) p8 :=
  ⟨_, _, _, _, _, _, _, _, _, _, by with_unfolding_all exact rfl⟩
theorem lawBody {w : World} {f : Nat → Int} {sv : List Value} (hl : sv.length < 1000) (hs : ∀ i < sv.length, ∃ tok, sv[i]? = some (.int (f i) tok)) {F cr cn cw sa sc ks : Nat} (hF9 : 769 ≤ F)
    {h₀ : Bs} {b m : Nat} {h : Heap} {g : Array GenState} {d : Drawn} {t : Nat} {o : OsState} {A : Around} (G : AllBare g)
    (r : Rp w.params h₀ h [(F, frObj [en w.params (Str.ofString "script") ks (.ref sa)] 1), (cr, cellE), (cn, cellE), (cw, cellE), (sa, liObj sv sc)] b m) (h738 : h.get? 738 = some (k738 w.params))
    (hA : A.depth ≤ 600) (hU : A.units ≤ 8000) (hh : A.handled = none) (hfr : A.frames = some [lawE F cr cn cw]) {Q : Flow → Shared → Prop} {E : Value → Shared → Prop}
    (hQ : ∀ h' g' t', AllBare g' → (∀ a o, a ≠ 738 → a ∉ [F, cr, cn, cw] → h.get? a = some o → h'.get? a = some o) → (∃ vs, h'.get? 738 = some { cls := .none, data := .fields vs }) → Q (.ret (.bool true)) ⟨h', g', d, t', o⟩) :
    wpAny (Md w) A (execs (fnBody x30.s) (lawE F cr cn cw)) Q E ⟨h, g, d, t, o⟩ := by
  obtain ⟨n, Rw, wv, ov, ar, ao, aw, oc, ko, tn, mA, iA, h3, h8, R0, R1, R2, hO, hww, hwn, trA⟩ := phaseA (w := w) hl hs sa sc F cr cn cw ks (b + m) t
  rw [law_split, execs_append]
  refine execs_then0 ?_
  refine trA 600 8000 (by omega) (by have : cLine = 9900 := rfl; omega) h g d o A AllBare G hA hU hh (fun _ e => by cases e) (r.sub (List.Sublist.refl _) (fun _ h => by cases h)) _ _ fun h1 g1 G1 r1 => ?_
  show wpAny (Md w) A (execs (nthS (fnBody x30.s) 4 :: (bB ++ [nthS (fnBody x30.s) 8])) (lawE F cr cn cw)) Q E _
  obtain ⟨p0, p1, p2, p3, p4, p5, p6, p7, p8, ck, hs4⟩ := s4_is
  have hasg : asgName (nthS (fnBody x30.s) 4) = Str.ofString "lexer" := by rw [hs4]; rfl
  have own1 := r1.own
  have hcw : h1.get? cw = some (cellO (.ref aw)) := own1 (cw, _) (.tail _ (.tail _ (.tail _ (.head _))))
  have haw : h1.get? aw = some (liObj wv 0) := own1 (aw, _) (.tail _ (.tail _ (.tail _ (.tail _ (.tail _ (.tail _ (.head _)))))))
  have hsa : h.get? sa = some (liObj sv sc) := r.own (sa, _) (.tail _ (.tail _ (.tail _ (.tail _ (.head _)))))
  have hsa1 : h1.get? sa = some (liObj sv sc) := own1 (sa, _) (.tail _ (.tail _ (.tail _ (.tail _ (.head _)))))
  have no738 : ∀ a o, h.get? a = some o → o.cls ≠ .none → a ≠ 738 := fun a o e hc e2 => by
    subst e2
    rw [h738] at e
    exact hc (by rw [← Option.some.inj e]; rfl)
  have d5 : 738 ∉ [F, cr, cn, cw, sa] := fun hm => by
    have hm' : 738 ∈ ([(F, frObj [en w.params (Str.ofString "script") ks (.ref sa)] 1), (cr, cellE), (cn, cellE), (cw, cellE), (sa, liObj sv sc)] : Dy).map (·.1) := hm
    obtain ⟨p, hp, e⟩ := List.mem_map.mp hm'
    refine no738 _ _ (r.own p hp) ?_ e
    simp only [List.mem_cons, List.not_mem_nil, or_false] at hp
    rcases hp with rfl | rfl | rfl | rfl | rfl <;> exact fun e => by cases e
  have h738' : h1.get? 738 = some (k738 w.params) := r1.keep 738 _ h738 (fun hm => ?_) (fun hm => by cases hm)
  · rw [execs_cons, hs4, exec_Assign_Name _ _ _ _ _ (by rfl)]
    simp only [bind_assoc, pure_bind]
    refine wpAny_bind (wpAny_standAt (wpAny_bind ?_))
    refine lexRun rfl (by with_unfolding_all rfl) rfl (by with_unfolding_all rfl) (by with_unfolding_all rfl) (by with_unfolding_all rfl) rfl h3 h8 hwn hww r1 h738' hcw haw G1 hA hU hh fun h2 h' g' t2 tk G' keep2 sz2 k2 r2 => ?_
    refine wpAny_bind (wpAny_standAt ?_)
    rw [← hasg]
    have no1 : ∀ a o, h1.get? a = some o → o.cls ≠ .none → a ≠ 738 := fun a o e hc e2 => by
      subst e2
      rw [h738'] at e
      exact hc (by rw [← Option.some.inj e]; rfl)
    obtain ⟨six, hsix⟩ : ∃ six : Dy, six = [(F, frObj [en w.params (Str.ofString "script") ks (.ref sa), en w.params (Str.ofString "order") ko (.ref ao)] 2), (cr, cellO (.ref ar)), (cn, cellO (.int n tn)), (cw, cellO (.ref aw)), (ao, liObj ov oc), (aw, liObj wv 0)] := ⟨_, rfl⟩
    have s7 : six.Sublist [(F, frObj [en w.params (Str.ofString "script") ks (.ref sa), en w.params (Str.ofString "order") ko (.ref ao)] 2), (cr, cellO (.ref ar)), (cn, cellO (.int n tn)), (cw, cellO (.ref aw)), (sa, liObj sv sc), (ao, liObj ov oc), (aw, liObj wv 0)] := by
      rw [hsix]; exact .cons₂ _ (.cons₂ _ (.cons₂ _ (.cons₂ _ (.cons _ (.cons₂ _ (.cons₂ _ .slnil))))))
    have cls6 : ∀ p ∈ six, p.2.cls ≠ .none := by
      intro p hp
      rw [hsix] at hp
      simp only [List.mem_cons, List.not_mem_nil, or_false] at hp
      rcases hp with rfl | rfl | rfl | rfl | rfl | rfl <;> exact fun e => by cases e
    have six1 : ∀ p ∈ six, h1.get? p.1 = some p.2 := fun p hp => own1 p (s7.subset hp)
    have six2 : ∀ p ∈ six, h2.get? p.1 = some p.2 := fun p hp => keep2 _ _ (no1 _ _ (six1 p hp) (cls6 p hp)) (six1 p hp)
    have up2 : ∀ a o, h2.get? a = some o → h'.get? a = some o := fun a o e => r2.keep a o e (fun hm => by cases hm) (fun hm => by cases hm)
    have hi2 : ∀ a ∈ (shD w.params (xS h2.objs.size t2 tk) (.str ⟨#[32]⟩ (t2 + 66)) (.str ⟨#[]⟩ (t2 + 77)) 0 [] (txt n) (.int 0 (t2 + 20))).map (·.1), h2.objs.size ≤ a := fun a ha => by
      obtain ⟨p, hp, rfl⟩ := List.mem_map.mp ha
      rcases r2.old p hp with q | q
      · cases q
      · exact q
    have hsz1 : h.objs.size ≤ h1.objs.size := by rw [r1.size, r.size]; omega
    have h769 : 769 ≤ h.objs.size := Nat.le_trans r.low (by rw [r.size]; omega)
    have r3 := Rp.make (Z := []) (D := six ++ shD w.params (xS h2.objs.size t2 tk) (.str ⟨#[32]⟩ (t2 + 66)) (.str ⟨#[]⟩ (t2 + 77)) 0 [] (txt n) (.int 0 (t2 + 20))) r2.stat (Nat.le_trans h769 (Nat.le_trans hsz1 (Nat.le_trans sz2 (by rw [r2.size]; omega))))
      (fun p hp => (List.mem_append.mp hp).elim (fun hp => up2 _ _ (six2 p hp)) (fun hp => r2.own p hp))
      (by
        rw [List.map_append]
        refine List.nodup_append.mpr ⟨(s7.map (·.1)).nodup r1.nodup, r2.nodup, fun a ha b hb e => ?_⟩
        obtain ⟨p, hp, rfl⟩ := List.mem_map.mp ha
        have h5 := Heap.lt_size (six2 p hp)
        have h6 := hi2 b hb
        rw [← e] at h6
        exact Nat.lt_irrefl _ (Nat.lt_of_lt_of_le h5 h6))
      (fun p hp => (List.mem_append.mp hp).elim (fun hp => r1.high p (s7.subset hp)) (fun hp => r2.high p hp)) (fun p hp hm => by cases hm) (fun a ha => by cases ha)
    have hx : ∀ a, a < h.objs.size → a ∉ [F, cr, cn, cw] → a ∉ F :: cr :: cn :: cw :: ao :: aw :: (shD w.params (xS h2.objs.size t2 tk) (.str ⟨#[32]⟩ (t2 + 66)) (.str ⟨#[]⟩ (t2 + 77)) 0 [] (txt n) (.int 0 (t2 + 20))).map (·.1) := fun a hlt ha hm => by
      have n7 : ([F, cr, cn, cw, sa] ++ [ao, aw]).Nodup := r1.nodup
      have new7 : ∀ c ∈ ([ao, aw] : List Nat), (∃ p ∈ [(F, frObj [en w.params (Str.ofString "script") ks (.ref sa), en w.params (Str.ofString "order") ko (.ref ao)] 2), (cr, cellO (.ref ar)), (cn, cellO (.int n tn)), (cw, cellO (.ref aw)), (sa, liObj sv sc), (ao, liObj ov oc), (aw, liObj wv 0)], p.1 = c) → h.objs.size ≤ c := fun c hc hp => by
        obtain ⟨p, hp, rfl⟩ := hp
        rcases r1.old p hp with q | q
        · exact absurd rfl ((List.nodup_append.mp n7).2.2 p.1 q p.1 hc)
        · rw [r.size]; exact q
      have hm' : a ∈ [F, cr, cn, cw] ++ (ao :: aw :: (shD w.params (xS h2.objs.size t2 tk) (.str ⟨#[32]⟩ (t2 + 66)) (.str ⟨#[]⟩ (t2 + 77)) 0 [] (txt n) (.int 0 (t2 + 20))).map (·.1)) := hm
      rcases List.mem_append.mp hm' with q | q
      · exact ha q
      · rcases List.mem_cons.mp q with rfl | q
        · exact Nat.lt_irrefl _ (Nat.lt_of_lt_of_le hlt (new7 a (.head _) ⟨_, .tail _ (.tail _ (.tail _ (.tail _ (.tail _ (.head _))))), rfl⟩))
        · rcases List.mem_cons.mp q with rfl | q
          · exact Nat.lt_irrefl _ (Nat.lt_of_lt_of_le hlt (new7 a (.tail _ (.head _)) ⟨_, .tail _ (.tail _ (.tail _ (.tail _ (.tail _ (.tail _ (.head _)))))), rfl⟩))
          · exact Nat.lt_irrefl _ (Nat.lt_of_lt_of_le hlt (Nat.le_trans hsz1 (Nat.le_trans sz2 (hi2 a q))))
    rw [hsix] at r3
    refine restRun (x := xS h2.objs.size t2 tk) h3 h8 R0 R1 hO hww hwn hF9 G' r3 hA hU hh hfr fun h'' g'' t'' G'' k'' => ?_
    refine hQ h'' g'' t'' G'' (fun a o' ne ha e => ?_) ?_
    · have e1 : h1.get? a = some o' := by
        by_cases ea : a = sa
        · subst ea
          rw [hsa] at e
          rw [← Option.some.inj e]; exact hsa1
        · refine r1.keep a o' e (fun hm => ?_) (fun hm => by cases hm)
          have hm' : a ∈ [F, cr, cn, cw] ++ [sa] := hm
          rcases List.mem_append.mp hm' with q | q
          · exact ha q
          · exact ea (List.mem_singleton.mp q)
      exact k'' a o' (hx a (Heap.lt_size e) ha) (up2 _ _ (keep2 _ _ ne e1))
    · obtain ⟨vs, k3⟩ := k2
      refine ⟨vs, k'' 738 _ (hx 738 (Nat.lt_of_lt_of_le (by decide) h769) ?_) (up2 _ _ k3)⟩
      exact fun hm => d5 (List.mem_append_left [sa] hm)
  · exact d5 hm
/-! ## The call of the law, the statement -/
theorem lawCall {w : World} {f : Nat → Int} {sv : List Value} (hl : sv.length < 1000) (hs : ∀ i < sv.length, ∃ tok, sv[i]? = some (.int (f i) tok)) {sa sc : Nat}
    {h : Heap} {g : Array GenState} {d : Drawn} {t : Nat} {o : OsState} {B : Around} (G : AllBare g) (stat : ∀ p ∈ K w.params, h.get? p.1 = some p.2) (low : 769 ≤ h.objs.size) (hsa : h.get? sa = some (liObj sv sc)) (hsa9 : 769 ≤ sa) (h738 : h.get? 738 = some (k738 w.params))
    (hB : B.depth ≤ 500) (hU : B.units ≤ 7000) (hh : B.handled = none) (hfr : B.frames = some []) {R : Result → Shared → Prop}
    (hR : ∀ h' g' t', AllBare g' → (∀ a o, a ≠ 738 → h.get? a = some o → h'.get? a = some o) → (∃ vs, h'.get? 738 = some { cls := .none, data := .fields vs }) → R (.ok (.ret (.bool true))) ⟨h', g', d, t', o⟩) :
    codeAny (Md w) B (.call (.ref 768) ⟨[.ref sa], []⟩) R ⟨h, g, d, t, o⟩ := by
  have rp : Rp w.params ⟨h, [(sa, liObj sv sc)].map (·.1), []⟩ h [(sa, liObj sv sc)] h.objs.size 0 := Rp.make stat low (fun p hp => by obtain rfl := List.mem_singleton.mp hp; exact hsa) (by simp) (fun p hp => by obtain rfl := List.mem_singleton.mp hp; exact .inl hsa9) (fun p hp hm => by cases hm) (fun a ha => by cases ha)
  obtain ⟨os, hos, hrun⟩ := rnLawC (w := w) h.objs.size t (mkZ lx0 [sa, sc] [] [] [] [sv])
  refine code_again (fr := none) (N := 500) (U := 7001) rfl (spOk w) noCt_ok (fun _ h => by cases h) (fun _ h => by cases h) (by omega) hrun (by rfl) hos G hB (by omega) hh (fun _ e => by cases e) (call_weight _ _) ?_ rfl rp fun h' g' G' r' => ?_
  · show B.units + 1 ≤ 7001
    omega
  have r2 : Rp w.params ⟨h, [(sa, liObj sv sc)].map (·.1), []⟩ h' [(h.objs.size, frObj [en w.params (Str.ofString "script") t (.ref sa)] 1), (h.objs.size + 1, cellE), (h.objs.size + 2, cellE), (h.objs.size + 3, cellE), (sa, liObj sv sc)] h.objs.size 4 := by
    rw [← enR_eq]
    exact r'.perm (List.perm_append_comm (l₁ := [(sa, liObj sv sc)])) rfl (fun _ => Iff.rfl) rfl
  have h738' : h'.get? 738 = some (k738 w.params) := r'.keep 738 _ h738 (fun hm => by have := List.mem_singleton.mp hm; have : (738 : Nat) = sa := this; omega) (fun hm => by cases hm)
  refine func_out ?_
  show wpAny (Md w) _ (execs (fnBody x30.s) (lawE h.objs.size (h.objs.size + 1) (h.objs.size + 2) (h.objs.size + 3)) >>= fun f => (pure (.done f) : Sem PySem.Fin)) _ _ _
  refine wpAny_bind ?_
  refine lawBody (A := B.under (.func (fnBody x30.s) (lawE (h.objs.size + 0) (h.objs.size + 1) (h.objs.size + 2) (h.objs.size + 3)))) hl hs (F := h.objs.size) low G' r2 h738' ?_ ?_ hh ?_ fun h2 g2 t2 G2 k2 k738 => ?_
  · show B.depth + Code.weight (.func _ _) ≤ 600
    have e1 : ∀ body env, Code.weight (.func body env) = 1 := fun _ _ => rfl
    rw [e1]; omega
  · show B.units + Code.cUnits (.func _ _) ≤ 8000
    have e1 : ∀ body env, Code.cUnits (.func body env) = 3 := fun _ _ => rfl
    rw [e1]; omega
  · have e1 : ∀ c : Code, (B.under c).frames = pushEnvs c.envs B.frames := fun _ => rfl
    rw [e1, hfr]; rfl
  · refine wpAny_pure (hR h2 g2 t2 G2 (fun (a : Nat) o' ne e => ?_) k738)
    have hlt : a < h.objs.size := Heap.lt_size e
    refine k2 a o' ne (fun hm => ?_) ?_
    · have : a ∈ ([h.objs.size, h.objs.size + 1, h.objs.size + 2, h.objs.size + 3] : List Nat) := hm
      simp only [List.mem_cons, List.not_mem_nil, or_false] at this
      omega
    · by_cases ea : a = sa
      · subst ea
        rw [hsa] at e
        rw [← Option.some.inj e]
        exact r'.own (a, _) List.mem_cons_self
      · exact r'.keep a o' e (fun hm => ea (List.mem_singleton.mp hm)) (fun hm => by cases hm)
theorem allIn_mem {h : Heap} : ∀ {l : Frag}, AllIn h l → ∀ p ∈ l, h.get? p.1 = some p.2
  | [], _, p, hp => by cases hp
  | q :: l, A, p, hp => by
    rcases List.mem_cons.mp hp with rfl | hp
    · exact A.1
    · exact allIn_mem A.2 p hp
theorem g3_law (P : Params) : g3 P (Str.ofString "law") = some (.ref 768) := by with_unfolding_all rfl
theorem oldK_of {P : Params} {h h' : Heap} (h742 : h.get? 742 = some (k742 P)) (h738 : h.get? 738 = some (k738 P)) (k : ∀ a o, a ≠ 738 → h.get? a = some o → h'.get? a = some o) (k2 : ∃ vs, h'.get? 738 = some { cls := .none, data := .fields vs }) : OldK h h' := by
  obtain ⟨vs, e2⟩ := k2
  refine ⟨fun b o e => ?_, fun b o e => ?_⟩
  · by_cases hb : b = 738
    · subst hb
      rw [h738] at e
      obtain rfl := Option.some.inj e
      exact .inr (.inl ⟨⟨742, _, _, h742, rfl, rfl, rfl⟩, rfl, #[], vs, rfl, by rw [e2]; simp [k738]⟩)
    · exact .inl (k b o hb e)
  · by_cases hb : b = 738
    · exact ⟨_, hb ▸ e2⟩
    · exact ⟨o, k b o hb e⟩
theorem theLaw : PySem.Challenge.rw_op0302_01.Holds := by
  refine hd ?_
  intro d kwd hdef w s₀ s₁ mg mb G y fa o pm cd doc dV kV ho hd hcd hD hmg hg args vals as L hpre hlay hrd hwl hlo
  obtain ⟨hK, _, hsz, _⟩ := z_facts (K := KA) (as := needA) (fun _ => rfl) y
  refine Ground.open G ?_
  intro T B D TE TW
  wrow_args hpre hlay hrd hwl hlo
  rename_i ns hs1 hlay0 hL1 hr1 hl2 as4 as3 sa sv as0 hL ra w1 r0 hI hrA hc1 hc2
  obtain ⟨hat, hsz1⟩ := script_at L
  have hob := script_obj L hL
  have st : ∀ p ∈ KA w.params, s₁.heap.get? p.1 = some p.2 := fun p hp => L.keeps _ _ (allIn_mem hK p hp)
  have stK : ∀ p ∈ Mine.K w.params, s₁.heap.get? p.1 = some p.2 := fun p hp => st p (List.mem_cons_of_mem _ hp)
  have h738 : s₁.heap.get? 738 = some (k738 w.params) := st (738, k738 w.params) List.mem_cons_self
  have h742 : s₁.heap.get? 742 = some (k742 w.params) := stK (742, k742 w.params) (kGet_mem (by kernel_rfl))
  have hfa : fa = 768 := by
    obtain ⟨o3, es, ep, e1, e2, _, e4⟩ := T.g
    have h3 : s₁.heap.get? mainGlobals = some (Mine.k3 w.params) := stK (3, Mine.k3 w.params) (kGet_mem (by kernel_rfl))
    rw [h3] at e1
    obtain rfl := Option.some.inj e1
    obtain ⟨n3, e5⟩ : ∃ n3, (Mine.k3 w.params).data = .dict (es3 w.params) n3 := ⟨_, rfl⟩
    rw [e5] at e2
    injection e2 with e6 _
    have e7 := e4 (Str.ofString "law")
    have e8 : d.name = Str.ofString "law" := defOf_name hdef
    rw [← e6, ← e8, hmg] at e7
    have e9 := g3_law w.params
    unfold g3 at e9
    rw [← e8, e7] at e9
    injection e9 with e9
    injection e9
  subst hfa
  have hlen : sv.length = ns.length := hI.length
  refine wpAny_call (lawCall (sv := sv) (sc := 0) (f := fun i => ns.getD i 0) (by omega) (fun i hi => ?_) (by rw [hg]; intro z hz; simp at hz) stK (by omega) hob (by rw [hat, hsz]; exact Nat.le_refl _) h738 (by decide) (by decide) rfl rfl fun h' g' t' G' k k2 => ?_)
  · obtain ⟨kk, tok, e1, e2⟩ := ints_get hI i sv[i] (List.getElem?_eq_getElem hi)
    exact ⟨tok, by rw [List.getElem?_eq_getElem hi, e2, List.getD_eq_getElem?_getD, e1]; rfl⟩
  · exact ⟨.inl ⟨.bool true, .bool true, [], rfl, fun _ => rfl, .bool true, by first | with_unfolding_all rfl | kernel_rfl, fun _ => ⟨List.nodup_nil, fun a ha => by cases ha⟩⟩, oldK_of h742 h738 k k2, rfl, G'⟩
end Mine
theorem PySem.Challenge.cw_op0302_01_holds : PySem.Challenge.rw_op0302_01.Holds := by
  exact Mine.theLaw
