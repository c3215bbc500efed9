import PyProof.Rows.All
import Wide.All
import OpenK.AllK
import Wide.FinOn
import PyProof.StrReplace2
import KE.KListMore
import KE.KCompText
import KE.KLcTest
import PySem.Sre
import PyProof.Walk
import PyProof.WalkLemmas
import PyProof.StrWalks
import KE.KListLetter
import KE.KRevIter
import KE.KPop
import KE.KLcPair
import PyProof.ZipIter
import Lean
import PySem.Challenge.RW_ty0053_01
set_option Elab.async false
set_option maxRecDepth 100000
set_option maxHeartbeats 0
set_option rowWalk.seconds 0
set_option linter.unusedVariables false
namespace Mine
theorem ne_off {a b c : Nat} (h : Nat.beq b c = false) : a + b ≠ a + c := fun e => absurd (Nat.add_left_cancel e) (Nat.ne_of_beq_eq_false h)
theorem ne_above {a b c d : Nat} (l : a + b < d) (h : Nat.ble c b = true) : d ≠ a + c := Nat.ne_of_gt (Nat.lt_of_le_of_lt (Nat.add_le_add_left (Nat.le_of_ble_eq_true h) a) l)
theorem ne_low {a b c : Nat} (l : b < a) : b ≠ a + c := Nat.ne_of_lt (Nat.lt_of_lt_of_le l (Nat.le_add_right a c))
theorem ne_lt {a b : Nat} (l : a < b) : a ≠ b := Nat.ne_of_lt l
theorem as_r {x a c : Nat} (h : x ≠ a + c) : x ≠ a + c := h
theorem as_l {x a c : Nat} (h : a + c ≠ x) : a + c ≠ x := h
theorem rm0 {a b n : Nat} (h : a + b < n) : a < n := Nat.lt_of_le_of_lt (Nat.le_add_right a b) h
theorem rm1 {a b c n : Nat} (h : a + b < n) (g : Nat.ble c b = true) : a + c < n := Nat.lt_of_le_of_lt (Nat.add_le_add_left (Nat.le_of_ble_eq_true g) a) h
theorem rm2 {a b k c n : Nat} (h : a + b < n) (g : Nat.ble (k + c) b = true) : a + k + c < n := (Nat.add_assoc a k c).symm ▸ rm1 h g
end Mine
local macro_rules | `(tactic| k_ne) => `(tactic| (refine PySem.W.neN ?_; (try dsimp only); first | with_reducible assumption | (refine Ne.symm ?_; with_reducible assumption) | ((first | refine Mine.as_l (c := 12) ?_ | refine Mine.as_l (c := 11) ?_ | refine Mine.as_l (c := 10) ?_ | refine Mine.as_l (c := 9) ?_ | refine Mine.as_l (c := 8) ?_ | refine Mine.as_l (c := 7) ?_ | refine Mine.as_l (c := 6) ?_ | refine Mine.as_l (c := 5) ?_ | refine Mine.as_l (c := 4) ?_ | refine Mine.as_l (c := 3) ?_ | refine Mine.as_l (c := 2) ?_ | refine Mine.as_l (c := 1) ?_); (first | refine Mine.as_r (c := 12) ?_ | refine Mine.as_r (c := 11) ?_ | refine Mine.as_r (c := 10) ?_ | refine Mine.as_r (c := 9) ?_ | refine Mine.as_r (c := 8) ?_ | refine Mine.as_r (c := 7) ?_ | refine Mine.as_r (c := 6) ?_ | refine Mine.as_r (c := 5) ?_ | refine Mine.as_r (c := 4) ?_ | refine Mine.as_r (c := 3) ?_ | refine Mine.as_r (c := 2) ?_ | refine Mine.as_r (c := 1) ?_); exact Mine.ne_off rfl) | ((first | refine Mine.as_r (c := 12) ?_ | refine Mine.as_r (c := 11) ?_ | refine Mine.as_r (c := 10) ?_ | refine Mine.as_r (c := 9) ?_ | refine Mine.as_r (c := 8) ?_ | refine Mine.as_r (c := 7) ?_ | refine Mine.as_r (c := 6) ?_ | refine Mine.as_r (c := 5) ?_ | refine Mine.as_r (c := 4) ?_ | refine Mine.as_r (c := 3) ?_ | refine Mine.as_r (c := 2) ?_ | refine Mine.as_r (c := 1) ?_); (first | exact Mine.ne_above (by with_reducible assumption) (by exact rfl) | exact Mine.ne_low (by with_reducible assumption))) | (refine Ne.symm ?_; (first | refine Mine.as_r (c := 12) ?_ | refine Mine.as_r (c := 11) ?_ | refine Mine.as_r (c := 10) ?_ | refine Mine.as_r (c := 9) ?_ | refine Mine.as_r (c := 8) ?_ | refine Mine.as_r (c := 7) ?_ | refine Mine.as_r (c := 6) ?_ | refine Mine.as_r (c := 5) ?_ | refine Mine.as_r (c := 4) ?_ | refine Mine.as_r (c := 3) ?_ | refine Mine.as_r (c := 2) ?_ | refine Mine.as_r (c := 1) ?_); (first | exact Mine.ne_above (by with_reducible assumption) (by exact rfl) | exact Mine.ne_low (by with_reducible assumption))) | exact Mine.ne_lt (by with_reducible assumption) | exact Ne.symm (Mine.ne_lt (by with_reducible assumption))))
local macro_rules | `(tactic| walk_at $s:str) => `(tactic| k_extra $s)
local macro_rules | `(tactic| k_all) => `(tactic| k_extra "my_k_all")
local macro_rules | `(tactic| ktr_room) => `(tactic| k_extra "my_room")
local macro_rules | `(tactic| ktr_units) => `(tactic| k_extra "my_units")

section FlushHD
open PySem PySem.W PyProof.Rows PySem.Calls
namespace Mine
theorem start_HD {prog : Program} {w : World} {A : Around} {E : Value → Shared → Prop} {s : Shared} {env : Env} {Q : Flow → Shared → Prop} (h : wpAny (model prog w) A (execs [] env) Q E s) : wpAny (model prog w) A (execs [] env) Q E s := by
  w_top off
  first | (walk1; fail) | exact h
end Mine
end FlushHD
section PartHD
open PySem PySem.W PyProof.Rows
namespace Mine
abbrev pw : Program := PySem.Challenge.pw_ty0053_01
noncomputable def stAt (i : Nat) : Stmt := pw.main.body.getD i (.Pass default)
noncomputable def fnPs : Stmt → Arguments | .FunctionDef _ a _ _ _ _ _ _ _ _ => a | _ => { posonlyargs := [], args := [], vararg := none, kwonlyargs := [], kw_defaults := [], kwarg := none, defaults := [] }
noncomputable def fnBs : Stmt → List Stmt | .FunctionDef _ _ b _ _ _ _ _ _ _ => b | _ => []
noncomputable def fnSs : Stmt → Scope | .FunctionDef _ _ _ _ _ _ s _ _ _ => s | _ => { kind := .module, names := [], isGenerator := false, isCoroutine := false, more := [] }
noncomputable def fnP (i : Nat) : Arguments := fnPs (stAt i)
noncomputable def fnB (i : Nat) : List Stmt := fnBs (stAt i)
noncomputable def fnS (i : Nat) : Scope := fnSs (stAt i)
noncomputable def o0 (P : Params) : Obj := ⟨(.type "dict"), none, .dict [⟨PyData.keyHash P (Str.ofString "__name__"), (.str (Str.ofString "__name__") 1), (.str (Str.ofString "builtins") 160)⟩, ⟨PyData.keyHash P (Str.ofString "__doc__"), (.str (Str.ofString "__doc__") 2), (.builtin "builtins.__doc__:str#opaque")⟩, ⟨PyData.keyHash P (Str.ofString "__package__"), (.str (Str.ofString "__package__") 3), (.builtin "builtins.__package__:str#opaque")⟩, ⟨PyData.keyHash P (Str.ofString "__loader__"), (.str (Str.ofString "__loader__") 4), (.builtin "builtins.__loader__:shared#opaque")⟩, ⟨PyData.keyHash P (Str.ofString "__spec__"), (.str (Str.ofString "__spec__") 5), (.builtin "builtins.__spec__#opaque")⟩, ⟨PyData.keyHash P (Str.ofString "__build_class__"), (.str (Str.ofString "__build_class__") 6), (.builtin "__build_class__")⟩, ⟨PyData.keyHash P (Str.ofString "__import__"), (.str (Str.ofString "__import__") 7), (.builtin "__import__")⟩, ⟨PyData.keyHash P (Str.ofString "abs"), (.str (Str.ofString "abs") 8), (.builtin "abs")⟩, ⟨PyData.keyHash P (Str.ofString "all"), (.str (Str.ofString "all") 9), (.builtin "all")⟩, ⟨PyData.keyHash P (Str.ofString "any"), (.str (Str.ofString "any") 10), (.builtin "any")⟩, ⟨PyData.keyHash P (Str.ofString "ascii"), (.str (Str.ofString "ascii") 11), (.builtin "ascii")⟩, ⟨PyData.keyHash P (Str.ofString "bin"), (.str (Str.ofString "bin") 12), (.builtin "bin")⟩, ⟨PyData.keyHash P (Str.ofString "breakpoint"), (.str (Str.ofString "breakpoint") 13), (.builtin "breakpoint")⟩, ⟨PyData.keyHash P (Str.ofString "callable"), (.str (Str.ofString "callable") 14), (.builtin "callable")⟩, ⟨PyData.keyHash P (Str.ofString "chr"), (.str (Str.ofString "chr") 15), (.builtin "chr")⟩, ⟨PyData.keyHash P (Str.ofString "compile"), (.str (Str.ofString "compile") 16), (.builtin "compile")⟩, ⟨PyData.keyHash P (Str.ofString "delattr"), (.str (Str.ofString "delattr") 17), (.builtin "delattr")⟩, ⟨PyData.keyHash P (Str.ofString "dir"), (.str (Str.ofString "dir") 18), (.builtin "dir")⟩, ⟨PyData.keyHash P (Str.ofString "divmod"), (.str (Str.ofString "divmod") 19), (.builtin "divmod")⟩, ⟨PyData.keyHash P (Str.ofString "eval"), (.str (Str.ofString "eval") 20), (.builtin "eval")⟩, ⟨PyData.keyHash P (Str.ofString "exec"), (.str (Str.ofString "exec") 21), (.builtin "exec")⟩, ⟨PyData.keyHash P (Str.ofString "format"), (.str (Str.ofString "format") 22), (.builtin "format")⟩, ⟨PyData.keyHash P (Str.ofString "getattr"), (.str (Str.ofString "getattr") 23), (.builtin "getattr")⟩, ⟨PyData.keyHash P (Str.ofString "globals"), (.str (Str.ofString "globals") 24), (.builtin "globals")⟩, ⟨PyData.keyHash P (Str.ofString "hasattr"), (.str (Str.ofString "hasattr") 25), (.builtin "hasattr")⟩, ⟨PyData.keyHash P (Str.ofString "hash"), (.str (Str.ofString "hash") 26), (.builtin "hash")⟩, ⟨PyData.keyHash P (Str.ofString "hex"), (.str (Str.ofString "hex") 27), (.builtin "hex")⟩, ⟨PyData.keyHash P (Str.ofString "id"), (.str (Str.ofString "id") 28), (.builtin "id")⟩, ⟨PyData.keyHash P (Str.ofString "input"), (.str (Str.ofString "input") 29), (.builtin "input")⟩, ⟨PyData.keyHash P (Str.ofString "isinstance"), (.str (Str.ofString "isinstance") 30), (.builtin "isinstance")⟩, ⟨PyData.keyHash P (Str.ofString "issubclass"), (.str (Str.ofString "issubclass") 31), (.builtin "issubclass")⟩, ⟨PyData.keyHash P (Str.ofString "iter"), (.str (Str.ofString "iter") 32), (.builtin "iter")⟩, ⟨PyData.keyHash P (Str.ofString "aiter"), (.str (Str.ofString "aiter") 33), (.builtin "aiter")⟩, ⟨PyData.keyHash P (Str.ofString "len"), (.str (Str.ofString "len") 34), (.builtin "len")⟩, ⟨PyData.keyHash P (Str.ofString "locals"), (.str (Str.ofString "locals") 35), (.builtin "locals")⟩, ⟨PyData.keyHash P (Str.ofString "max"), (.str (Str.ofString "max") 36), (.builtin "max")⟩, ⟨PyData.keyHash P (Str.ofString "min"), (.str (Str.ofString "min") 37), (.builtin "min")⟩, ⟨PyData.keyHash P (Str.ofString "next"), (.str (Str.ofString "next") 38), (.builtin "next")⟩, ⟨PyData.keyHash P (Str.ofString "anext"), (.str (Str.ofString "anext") 39), (.builtin "anext")⟩, ⟨PyData.keyHash P (Str.ofString "oct"), (.str (Str.ofString "oct") 40), (.builtin "oct")⟩, ⟨PyData.keyHash P (Str.ofString "ord"), (.str (Str.ofString "ord") 41), (.builtin "ord")⟩, ⟨PyData.keyHash P (Str.ofString "pow"), (.str (Str.ofString "pow") 42), (.builtin "pow")⟩, ⟨PyData.keyHash P (Str.ofString "print"), (.str (Str.ofString "print") 43), (.builtin "print")⟩, ⟨PyData.keyHash P (Str.ofString "repr"), (.str (Str.ofString "repr") 44), (.builtin "repr")⟩, ⟨PyData.keyHash P (Str.ofString "round"), (.str (Str.ofString "round") 45), (.builtin "round")⟩, ⟨PyData.keyHash P (Str.ofString "setattr"), (.str (Str.ofString "setattr") 46), (.builtin "setattr")⟩, ⟨PyData.keyHash P (Str.ofString "sorted"), (.str (Str.ofString "sorted") 47), (.builtin "sorted")⟩, ⟨PyData.keyHash P (Str.ofString "sum"), (.str (Str.ofString "sum") 48), (.builtin "sum")⟩, ⟨PyData.keyHash P (Str.ofString "vars"), (.str (Str.ofString "vars") 49), (.builtin "vars")⟩, ⟨PyData.keyHash P (Str.ofString "None"), (.str (Str.ofString "None") 50), .none⟩, ⟨PyData.keyHash P (Str.ofString "Ellipsis"), (.str (Str.ofString "Ellipsis") 51), .ellipsis⟩, ⟨PyData.keyHash P (Str.ofString "NotImplemented"), (.str (Str.ofString "NotImplemented") 52), .notImplemented⟩, ⟨PyData.keyHash P (Str.ofString "False"), (.str (Str.ofString "False") 53), (.bool false)⟩, ⟨PyData.keyHash P (Str.ofString "True"), (.str (Str.ofString "True") 54), (.bool true)⟩, ⟨PyData.keyHash P (Str.ofString "bool"), (.str (Str.ofString "bool") 55), (.type "bool")⟩, ⟨PyData.keyHash P (Str.ofString "memoryview"), (.str (Str.ofString "memoryview") 56), (.type "memoryview")⟩, ⟨PyData.keyHash P (Str.ofString "bytearray"), (.str (Str.ofString "bytearray") 57), (.type "bytearray")⟩, ⟨PyData.keyHash P (Str.ofString "bytes"), (.str (Str.ofString "bytes") 58), (.type "bytes")⟩, ⟨PyData.keyHash P (Str.ofString "classmethod"), (.str (Str.ofString "classmethod") 59), (.type "classmethod")⟩, ⟨PyData.keyHash P (Str.ofString "complex"), (.str (Str.ofString "complex") 60), (.type "complex")⟩, ⟨PyData.keyHash P (Str.ofString "dict"), (.str (Str.ofString "dict") 61), (.type "dict")⟩, ⟨PyData.keyHash P (Str.ofString "enumerate"), (.str (Str.ofString "enumerate") 62), (.type "enumerate")⟩, ⟨PyData.keyHash P (Str.ofString "filter"), (.str (Str.ofString "filter") 63), (.type "filter")⟩, ⟨PyData.keyHash P (Str.ofString "float"), (.str (Str.ofString "float") 64), (.type "float")⟩, ⟨PyData.keyHash P (Str.ofString "frozenset"), (.str (Str.ofString "frozenset") 65), (.type "frozenset")⟩, ⟨PyData.keyHash P (Str.ofString "property"), (.str (Str.ofString "property") 66), (.type "property")⟩, ⟨PyData.keyHash P (Str.ofString "int"), (.str (Str.ofString "int") 67), (.type "int")⟩, ⟨PyData.keyHash P (Str.ofString "list"), (.str (Str.ofString "list") 68), (.type "list")⟩, ⟨PyData.keyHash P (Str.ofString "map"), (.str (Str.ofString "map") 69), (.type "map")⟩, ⟨PyData.keyHash P (Str.ofString "object"), (.str (Str.ofString "object") 70), (.type "object")⟩, ⟨PyData.keyHash P (Str.ofString "range"), (.str (Str.ofString "range") 71), (.type "range")⟩, ⟨PyData.keyHash P (Str.ofString "reversed"), (.str (Str.ofString "reversed") 72), (.type "reversed")⟩, ⟨PyData.keyHash P (Str.ofString "set"), (.str (Str.ofString "set") 73), (.type "set")⟩, ⟨PyData.keyHash P (Str.ofString "slice"), (.str (Str.ofString "slice") 74), (.type "slice")⟩, ⟨PyData.keyHash P (Str.ofString "staticmethod"), (.str (Str.ofString "staticmethod") 75), (.type "staticmethod")⟩, ⟨PyData.keyHash P (Str.ofString "str"), (.str (Str.ofString "str") 76), (.type "str")⟩, ⟨PyData.keyHash P (Str.ofString "super"), (.str (Str.ofString "super") 77), (.type "super")⟩, ⟨PyData.keyHash P (Str.ofString "tuple"), (.str (Str.ofString "tuple") 78), (.type "tuple")⟩, ⟨PyData.keyHash P (Str.ofString "type"), (.str (Str.ofString "type") 79), (.type "type")⟩, ⟨PyData.keyHash P (Str.ofString "zip"), (.str (Str.ofString "zip") 80), (.type "zip")⟩, ⟨PyData.keyHash P (Str.ofString "__debug__"), (.str (Str.ofString "__debug__") 81), (.bool true)⟩, ⟨PyData.keyHash P (Str.ofString "BaseException"), (.str (Str.ofString "BaseException") 82), (.type "BaseException")⟩, ⟨PyData.keyHash P (Str.ofString "BaseExceptionGroup"), (.str (Str.ofString "BaseExceptionGroup") 83), (.type "BaseExceptionGroup")⟩, ⟨PyData.keyHash P (Str.ofString "Exception"), (.str (Str.ofString "Exception") 84), (.type "Exception")⟩, ⟨PyData.keyHash P (Str.ofString "GeneratorExit"), (.str (Str.ofString "GeneratorExit") 85), (.type "GeneratorExit")⟩, ⟨PyData.keyHash P (Str.ofString "KeyboardInterrupt"), (.str (Str.ofString "KeyboardInterrupt") 86), (.type "KeyboardInterrupt")⟩, ⟨PyData.keyHash P (Str.ofString "SystemExit"), (.str (Str.ofString "SystemExit") 87), (.type "SystemExit")⟩, ⟨PyData.keyHash P (Str.ofString "ArithmeticError"), (.str (Str.ofString "ArithmeticError") 88), (.type "ArithmeticError")⟩, ⟨PyData.keyHash P (Str.ofString "AssertionError"), (.str (Str.ofString "AssertionError") 89), (.type "AssertionError")⟩, ⟨PyData.keyHash P (Str.ofString "AttributeError"), (.str (Str.ofString "AttributeError") 90), (.type "AttributeError")⟩, ⟨PyData.keyHash P (Str.ofString "BufferError"), (.str (Str.ofString "BufferError") 91), (.type "BufferError")⟩, ⟨PyData.keyHash P (Str.ofString "EOFError"), (.str (Str.ofString "EOFError") 92), (.type "EOFError")⟩, ⟨PyData.keyHash P (Str.ofString "ImportError"), (.str (Str.ofString "ImportError") 93), (.type "ImportError")⟩, ⟨PyData.keyHash P (Str.ofString "LookupError"), (.str (Str.ofString "LookupError") 94), (.type "LookupError")⟩, ⟨PyData.keyHash P (Str.ofString "MemoryError"), (.str (Str.ofString "MemoryError") 95), (.type "MemoryError")⟩, ⟨PyData.keyHash P (Str.ofString "NameError"), (.str (Str.ofString "NameError") 96), (.type "NameError")⟩, ⟨PyData.keyHash P (Str.ofString "OSError"), (.str (Str.ofString "OSError") 97), (.type "OSError")⟩, ⟨PyData.keyHash P (Str.ofString "ReferenceError"), (.str (Str.ofString "ReferenceError") 98), (.type "ReferenceError")⟩, ⟨PyData.keyHash P (Str.ofString "RuntimeError"), (.str (Str.ofString "RuntimeError") 99), (.type "RuntimeError")⟩, ⟨PyData.keyHash P (Str.ofString "StopAsyncIteration"), (.str (Str.ofString "StopAsyncIteration") 100), (.type "StopAsyncIteration")⟩, ⟨PyData.keyHash P (Str.ofString "StopIteration"), (.str (Str.ofString "StopIteration") 101), (.type "StopIteration")⟩, ⟨PyData.keyHash P (Str.ofString "SyntaxError"), (.str (Str.ofString "SyntaxError") 102), (.type "SyntaxError")⟩, ⟨PyData.keyHash P (Str.ofString "SystemError"), (.str (Str.ofString "SystemError") 103), (.type "SystemError")⟩, ⟨PyData.keyHash P (Str.ofString "TypeError"), (.str (Str.ofString "TypeError") 104), (.type "TypeError")⟩, ⟨PyData.keyHash P (Str.ofString "ValueError"), (.str (Str.ofString "ValueError") 105), (.type "ValueError")⟩, ⟨PyData.keyHash P (Str.ofString "Warning"), (.str (Str.ofString "Warning") 106), (.type "Warning")⟩, ⟨PyData.keyHash P (Str.ofString "FloatingPointError"), (.str (Str.ofString "FloatingPointError") 107), (.type "FloatingPointError")⟩, ⟨PyData.keyHash P (Str.ofString "OverflowError"), (.str (Str.ofString "OverflowError") 108), (.type "OverflowError")⟩, ⟨PyData.keyHash P (Str.ofString "ZeroDivisionError"), (.str (Str.ofString "ZeroDivisionError") 109), (.type "ZeroDivisionError")⟩, ⟨PyData.keyHash P (Str.ofString "BytesWarning"), (.str (Str.ofString "BytesWarning") 110), (.type "BytesWarning")⟩, ⟨PyData.keyHash P (Str.ofString "DeprecationWarning"), (.str (Str.ofString "DeprecationWarning") 111), (.type "DeprecationWarning")⟩, ⟨PyData.keyHash P (Str.ofString "EncodingWarning"), (.str (Str.ofString "EncodingWarning") 112), (.type "EncodingWarning")⟩, ⟨PyData.keyHash P (Str.ofString "FutureWarning"), (.str (Str.ofString "FutureWarning") 113), (.type "FutureWarning")⟩, ⟨PyData.keyHash P (Str.ofString "ImportWarning"), (.str (Str.ofString "ImportWarning") 114), (.type "ImportWarning")⟩, ⟨PyData.keyHash P (Str.ofString "PendingDeprecationWarning"), (.str (Str.ofString "PendingDeprecationWarning") 115), (.type "PendingDeprecationWarning")⟩, ⟨PyData.keyHash P (Str.ofString "ResourceWarning"), (.str (Str.ofString "ResourceWarning") 116), (.type "ResourceWarning")⟩, ⟨PyData.keyHash P (Str.ofString "RuntimeWarning"), (.str (Str.ofString "RuntimeWarning") 117), (.type "RuntimeWarning")⟩, ⟨PyData.keyHash P (Str.ofString "SyntaxWarning"), (.str (Str.ofString "SyntaxWarning") 118), (.type "SyntaxWarning")⟩, ⟨PyData.keyHash P (Str.ofString "UnicodeWarning"), (.str (Str.ofString "UnicodeWarning") 119), (.type "UnicodeWarning")⟩, ⟨PyData.keyHash P (Str.ofString "UserWarning"), (.str (Str.ofString "UserWarning") 120), (.type "UserWarning")⟩, ⟨PyData.keyHash P (Str.ofString "BlockingIOError"), (.str (Str.ofString "BlockingIOError") 121), (.type "BlockingIOError")⟩, ⟨PyData.keyHash P (Str.ofString "ChildProcessError"), (.str (Str.ofString "ChildProcessError") 122), (.type "ChildProcessError")⟩, ⟨PyData.keyHash P (Str.ofString "ConnectionError"), (.str (Str.ofString "ConnectionError") 123), (.type "ConnectionError")⟩, ⟨PyData.keyHash P (Str.ofString "FileExistsError"), (.str (Str.ofString "FileExistsError") 124), (.type "FileExistsError")⟩, ⟨PyData.keyHash P (Str.ofString "FileNotFoundError"), (.str (Str.ofString "FileNotFoundError") 125), (.type "FileNotFoundError")⟩, ⟨PyData.keyHash P (Str.ofString "InterruptedError"), (.str (Str.ofString "InterruptedError") 126), (.type "InterruptedError")⟩, ⟨PyData.keyHash P (Str.ofString "IsADirectoryError"), (.str (Str.ofString "IsADirectoryError") 127), (.type "IsADirectoryError")⟩, ⟨PyData.keyHash P (Str.ofString "NotADirectoryError"), (.str (Str.ofString "NotADirectoryError") 128), (.type "NotADirectoryError")⟩, ⟨PyData.keyHash P (Str.ofString "PermissionError"), (.str (Str.ofString "PermissionError") 129), (.type "PermissionError")⟩, ⟨PyData.keyHash P (Str.ofString "ProcessLookupError"), (.str (Str.ofString "ProcessLookupError") 130), (.type "ProcessLookupError")⟩, ⟨PyData.keyHash P (Str.ofString "TimeoutError"), (.str (Str.ofString "TimeoutError") 131), (.type "TimeoutError")⟩, ⟨PyData.keyHash P (Str.ofString "IndentationError"), (.str (Str.ofString "IndentationError") 132), (.type "IndentationError")⟩, ⟨PyData.keyHash P (Str.ofString "_IncompleteInputError"), (.str (Str.ofString "_IncompleteInputError") 133), (.type "_IncompleteInputError")⟩, ⟨PyData.keyHash P (Str.ofString "IndexError"), (.str (Str.ofString "IndexError") 134), (.type "IndexError")⟩, ⟨PyData.keyHash P (Str.ofString "KeyError"), (.str (Str.ofString "KeyError") 135), (.type "KeyError")⟩, ⟨PyData.keyHash P (Str.ofString "ModuleNotFoundError"), (.str (Str.ofString "ModuleNotFoundError") 136), (.type "ModuleNotFoundError")⟩, ⟨PyData.keyHash P (Str.ofString "NotImplementedError"), (.str (Str.ofString "NotImplementedError") 137), (.type "NotImplementedError")⟩, ⟨PyData.keyHash P (Str.ofString "PythonFinalizationError"), (.str (Str.ofString "PythonFinalizationError") 138), (.type "PythonFinalizationError")⟩, ⟨PyData.keyHash P (Str.ofString "RecursionError"), (.str (Str.ofString "RecursionError") 139), (.type "RecursionError")⟩, ⟨PyData.keyHash P (Str.ofString "UnboundLocalError"), (.str (Str.ofString "UnboundLocalError") 140), (.type "UnboundLocalError")⟩, ⟨PyData.keyHash P (Str.ofString "UnicodeError"), (.str (Str.ofString "UnicodeError") 141), (.type "UnicodeError")⟩, ⟨PyData.keyHash P (Str.ofString "BrokenPipeError"), (.str (Str.ofString "BrokenPipeError") 142), (.type "BrokenPipeError")⟩, ⟨PyData.keyHash P (Str.ofString "ConnectionAbortedError"), (.str (Str.ofString "ConnectionAbortedError") 143), (.type "ConnectionAbortedError")⟩, ⟨PyData.keyHash P (Str.ofString "ConnectionRefusedError"), (.str (Str.ofString "ConnectionRefusedError") 144), (.type "ConnectionRefusedError")⟩, ⟨PyData.keyHash P (Str.ofString "ConnectionResetError"), (.str (Str.ofString "ConnectionResetError") 145), (.type "ConnectionResetError")⟩, ⟨PyData.keyHash P (Str.ofString "TabError"), (.str (Str.ofString "TabError") 146), (.type "TabError")⟩, ⟨PyData.keyHash P (Str.ofString "UnicodeDecodeError"), (.str (Str.ofString "UnicodeDecodeError") 147), (.type "UnicodeDecodeError")⟩, ⟨PyData.keyHash P (Str.ofString "UnicodeEncodeError"), (.str (Str.ofString "UnicodeEncodeError") 148), (.type "UnicodeEncodeError")⟩, ⟨PyData.keyHash P (Str.ofString "UnicodeTranslateError"), (.str (Str.ofString "UnicodeTranslateError") 149), (.type "UnicodeTranslateError")⟩, ⟨PyData.keyHash P (Str.ofString "ExceptionGroup"), (.str (Str.ofString "ExceptionGroup") 150), (.type "ExceptionGroup")⟩, ⟨PyData.keyHash P (Str.ofString "EnvironmentError"), (.str (Str.ofString "EnvironmentError") 151), (.type "OSError")⟩, ⟨PyData.keyHash P (Str.ofString "IOError"), (.str (Str.ofString "IOError") 152), (.type "OSError")⟩, ⟨PyData.keyHash P (Str.ofString "open"), (.str (Str.ofString "open") 153), (.builtin "open")⟩, ⟨PyData.keyHash P (Str.ofString "quit"), (.str (Str.ofString "quit") 154), (.builtin "builtins.quit#opaque")⟩, ⟨PyData.keyHash P (Str.ofString "exit"), (.str (Str.ofString "exit") 155), (.builtin "builtins.exit#opaque")⟩, ⟨PyData.keyHash P (Str.ofString "copyright"), (.str (Str.ofString "copyright") 156), (.builtin "builtins.copyright#opaque")⟩, ⟨PyData.keyHash P (Str.ofString "credits"), (.str (Str.ofString "credits") 157), (.builtin "builtins.credits#opaque")⟩, ⟨PyData.keyHash P (Str.ofString "license"), (.str (Str.ofString "license") 158), (.builtin "builtins.license#opaque")⟩, ⟨PyData.keyHash P (Str.ofString "help"), (.str (Str.ofString "help") 159), (.builtin "builtins.help#opaque")⟩].toArray 159, #[]⟩
noncomputable def o1 (P : Params) : Obj := ⟨(.type "dict"), none, .dict [⟨PyData.keyHash P (Str.ofString "builtins"), (.str (Str.ofString "builtins") 162), (.ref 4)⟩, ⟨PyData.keyHash P (Str.ofString "__main__"), (.str (Str.ofString "__main__") 163), (.ref 5)⟩, ⟨PyData.keyHash P (Str.ofString "_sre"), (.str (Str.ofString "_sre") 244), (.ref 12)⟩].toArray 3, #[]⟩
noncomputable def o2 (P : Params) : Obj := ⟨.none, none, .dict [⟨PyData.keyHash P (Str.ofString "\x69mport.loaded._sre"), (.str (Str.ofString "\x69mport.loaded._sre") 183), (.bool true)⟩, ⟨PyData.keyHash P (Str.ofString "class._frozen_importlib.BuiltinImporter"), (.str (Str.ofString "class._frozen_importlib.BuiltinImporter") 185), (.ref 14)⟩, ⟨PyData.keyHash P (Str.ofString "watched.\x69mport"), (.str (Str.ofString "watched.\x69mport") 206), (.ref 18)⟩, ⟨PyData.keyHash P (Str.ofString "class._frozen_importlib.ModuleSpec"), (.str (Str.ofString "class._frozen_importlib.ModuleSpec") 216), (.ref 22)⟩, ⟨PyData.keyHash P (Str.ofString "sys.modules.booked-epoch"), (.str (Str.ofString "sys.modules.booked-epoch") 245), (.int 3 0)⟩, ⟨PyData.keyHash P (Str.ofString "\x69mport.later-laid._sre"), (.str (Str.ofString "\x69mport.later-laid._sre") 270), (.bool true)⟩, ⟨PyData.keyHash P (Str.ofString "watched.library"), (.str (Str.ofString "watched.library") 272), (.ref 27)⟩, ⟨PyData.keyHash P (Str.ofString "watched.library-objects"), (.str (Str.ofString "watched.library-objects") 0), (.str (Str.ofString "\x0c") 0)⟩, ⟨PyData.keyHash P (Str.ofString "watched.library-deep._sre"), (.str (Str.ofString "watched.library-deep._sre") 273), (.str (Str.ofString "\x04\x00\x00\x0b\x04\x00\x00\x0b\x04\x00\x00\x03\x04\x00\x00\x0b\x08\x04dict\x02") 0)⟩].toArray 9, #[]⟩
noncomputable def o4 (_ : Params) : Obj := ⟨(.type "module"), (some 0), .plain, #[]⟩
noncomputable def o5 (_ : Params) : Obj := ⟨(.type "module"), (some 3), .plain, #[]⟩
noncomputable def o6 (_ : Params) : Obj := ⟨(.type "dict"), none, .dict [].toArray 0, #[]⟩
noncomputable def o7 (_ : Params) : Obj := ⟨(.type "tuple"), none, .seq [].toArray 0, #[]⟩
noncomputable def o8 (_ : Params) : Obj := ⟨.none, none, .fields [].toArray, #[]⟩
noncomputable def o9 (_ : Params) : Obj := ⟨(.type "code"), none, .fields [(.str (Str.ofString "<module>") 176), (.str (Str.ofString "<module>") 177), (.str (Str.ofString "/claim/cut.py") 178), (.int 1 0), (.int 0 0), (.int 0 0), (.int 0 0), (.int 0 0), (.ref 7), (.bool false), (.int 175 0), (.ref 8), .none, .none, .none, .none, (.int 179 0), (.int 1 0), (.str (Str.ofString "/claim/cut.py") 180)].toArray, #[]⟩
noncomputable def o10 (_ : Params) : Obj := ⟨(.type "frame"), none, .plain, [(some (.ref 9)), (some (.ref 3)), (some (.ref 3)), none, (some (.str (Str.ofString "__main__") 164)), none, (some (.ref 0))].toArray⟩
noncomputable def o11 (P : Params) : Obj := ⟨(.type "dict"), none, .dict [⟨PyData.keyHash P (Str.ofString "__name__"), (.str (Str.ofString "__name__") 247), (.str (Str.ofString "_sre") 246)⟩, ⟨PyData.keyHash P (Str.ofString "__doc__"), (.str (Str.ofString "__doc__") 248), .none⟩, ⟨PyData.keyHash P (Str.ofString "__package__"), (.str (Str.ofString "__package__") 250), (.str (Str.ofString "") 249)⟩, ⟨PyData.keyHash P (Str.ofString "__loader__"), (.str (Str.ofString "__loader__") 251), (.builtin "off-the-table:_sre.__loader__:shared#opaque")⟩, ⟨PyData.keyHash P (Str.ofString "__spec__"), (.str (Str.ofString "__spec__") 252), (.builtin "off-the-table:_sre.__spec__:shared#opaque")⟩, ⟨PyData.keyHash P (Str.ofString "compile"), (.str (Str.ofString "compile") 253), (.builtin "_sre.compile")⟩, ⟨PyData.keyHash P (Str.ofString "template"), (.str (Str.ofString "template") 254), (.builtin "off-the-table:_sre.template:shared#opaque")⟩, ⟨PyData.keyHash P (Str.ofString "getcodesize"), (.str (Str.ofString "getcodesize") 255), (.builtin "off-the-table:_sre.getcodesize:shared#opaque")⟩, ⟨PyData.keyHash P (Str.ofString "ascii_iscased"), (.str (Str.ofString "ascii_iscased") 256), (.builtin "off-the-table:_sre.ascii_iscased:shared#opaque")⟩, ⟨PyData.keyHash P (Str.ofString "unicode_iscased"), (.str (Str.ofString "unicode_iscased") 257), (.builtin "off-the-table:_sre.unicode_iscased:shared#opaque")⟩, ⟨PyData.keyHash P (Str.ofString "ascii_tolower"), (.str (Str.ofString "ascii_tolower") 258), (.builtin "off-the-table:_sre.ascii_tolower:shared#opaque")⟩, ⟨PyData.keyHash P (Str.ofString "unicode_tolower"), (.str (Str.ofString "unicode_tolower") 259), (.builtin "off-the-table:_sre.unicode_tolower:shared#opaque")⟩, ⟨PyData.keyHash P (Str.ofString "MAGIC"), (.str (Str.ofString "MAGIC") 261), (.int 20230612 260)⟩, ⟨PyData.keyHash P (Str.ofString "CODESIZE"), (.str (Str.ofString "CODESIZE") 263), (.int 4 262)⟩, ⟨PyData.keyHash P (Str.ofString "MAXREPEAT"), (.str (Str.ofString "MAXREPEAT") 265), (.int 4294967295 264)⟩, ⟨PyData.keyHash P (Str.ofString "MAXGROUPS"), (.str (Str.ofString "MAXGROUPS") 267), (.int 1073741823 266)⟩, ⟨PyData.keyHash P (Str.ofString "copyright"), (.str (Str.ofString "copyright") 269), (.str (Str.ofString " SRE 2.2.2 Copyright (c) 1997-2002 by Secret Labs AB ") 268)⟩].toArray 17, #[]⟩
noncomputable def o12 (_ : Params) : Obj := ⟨(.type "module"), (some 11), .plain, #[]⟩
noncomputable def o13 (P : Params) : Obj := ⟨(.type "dict"), none, .dict [⟨PyData.keyHash P (Str.ofString "__module__"), (.str (Str.ofString "__module__") 189), (.str (Str.ofString "_frozen_importlib") 186)⟩, ⟨PyData.keyHash P (Str.ofString "__firstlineno__"), (.str (Str.ofString "__firstlineno__") 190), (.int 971 187)⟩, ⟨PyData.keyHash P (Str.ofString "__doc__"), (.str (Str.ofString "__doc__") 191), (.builtin "_frozen_importlib.BuiltinImporter.__doc__:str#opaque")⟩, ⟨PyData.keyHash P (Str.ofString "_ORIGIN"), (.str (Str.ofString "_ORIGIN") 192), (.str (Str.ofString "built-in") 188)⟩, ⟨PyData.keyHash P (Str.ofString "find_spec"), (.str (Str.ofString "find_spec") 193), (.builtin "_frozen_importlib.BuiltinImporter.find_spec#opaque")⟩, ⟨PyData.keyHash P (Str.ofString "create_module"), (.str (Str.ofString "create_module") 194), (.builtin "_frozen_importlib.BuiltinImporter.create_module#opaque")⟩, ⟨PyData.keyHash P (Str.ofString "exec_module"), (.str (Str.ofString "exec_module") 195), (.builtin "_frozen_importlib.BuiltinImporter.exec_module#opaque")⟩, ⟨PyData.keyHash P (Str.ofString "get_code"), (.str (Str.ofString "get_code") 196), (.builtin "_frozen_importlib.BuiltinImporter.get_code#opaque")⟩, ⟨PyData.keyHash P (Str.ofString "get_source"), (.str (Str.ofString "get_source") 197), (.builtin "_frozen_importlib.BuiltinImporter.get_source#opaque")⟩, ⟨PyData.keyHash P (Str.ofString "is_package"), (.str (Str.ofString "is_package") 198), (.builtin "_frozen_importlib.BuiltinImporter.is_package#opaque")⟩, ⟨PyData.keyHash P (Str.ofString "load_module"), (.str (Str.ofString "load_module") 199), (.builtin "_frozen_importlib.BuiltinImporter.load_module#opaque")⟩, ⟨PyData.keyHash P (Str.ofString "__static_attributes__"), (.str (Str.ofString "__static_attributes__") 200), (.ref 15)⟩, ⟨PyData.keyHash P (Str.ofString "__dict__"), (.str (Str.ofString "__dict__") 202), (.ref 16)⟩, ⟨PyData.keyHash P (Str.ofString "__weakref__"), (.str (Str.ofString "__weakref__") 204), (.ref 17)⟩].toArray 14, #[]⟩
noncomputable def o14 (_ : Params) : Obj := ⟨(.type "type"), none, .cls ⟨(Str.ofString "BuiltinImporter"), [(.type "object")], [(.ref 14), (.type "object")], 13, (Str.ofString "BuiltinImporter"), true, [], [], false, none, false⟩, #[]⟩
noncomputable def o15 (_ : Params) : Obj := ⟨(.type "tuple"), none, .seq [].toArray 0, #[]⟩
noncomputable def o16 (_ : Params) : Obj := ⟨(.type "getset_descriptor"), none, .fields [(.str (Str.ofString "__dict__") 201), (.ref 14), (.builtin "function.__dict__"), (.builtin "function.__dict__#set")].toArray, #[]⟩
noncomputable def o17 (_ : Params) : Obj := ⟨(.type "getset_descriptor"), none, .fields [(.str (Str.ofString "__weakref__") 203), (.ref 14), (.builtin "ExceptionGroup.__weakref__"), .none].toArray, #[]⟩
noncomputable def o18 (_ : Params) : Obj := ⟨.none, none, .seq [(.int 13 0), (.str ⟨#[6, 189, 10, 95, 95, 109, 111, 100, 117, 108, 101, 95, 95, 6, 186, 17, 95, 102, 114, 111, 122, 101, 110, 95, 105, 109, 112, 111, 114, 116, 108, 105, 98, 6, 190, 15, 95, 95, 102, 105, 114, 115, 116, 108, 105, 110, 101, 110, 111, 95, 95, 4, 187, 0, 971, 6, 191, 7, 95, 95, 100, 111, 99, 95, 95, 9, 52, 95, 102, 114, 111, 122, 101, 110, 95, 105, 109, 112, 111, 114, 116, 108, 105, 98, 46, 66, 117, 105, 108, 116, 105, 110, 73, 109, 112, 111, 114, 116, 101, 114, 46, 95, 95, 100, 111, 99, 95, 95, 58, 115, 116, 114, 35, 111, 112, 97, 113, 117, 101, 6, 192, 7, 95, 79, 82, 73, 71, 73, 78, 6, 188, 8, 98, 117, 105, 108, 116, 45, 105, 110, 6, 193, 9, 102, 105, 110, 100, 95, 115, 112, 101, 99, 9, 50, 95, 102, 114, 111, 122, 101, 110, 95, 105, 109, 112, 111, 114, 116, 108, 105, 98, 46, 66, 117, 105, 108, 116, 105, 110, 73, 109, 112, 111, 114, 116, 101, 114, 46, 102, 105, 110, 100, 95, 115, 112, 101, 99, 35, 111, 112, 97, 113, 117, 101, 6, 194, 13, 99, 114, 101, 97, 116, 101, 95, 109, 111, 100, 117, 108, 101, 9, 54, 95, 102, 114, 111, 122, 101, 110, 95, 105, 109, 112, 111, 114, 116, 108, 105, 98, 46, 66, 117, 105, 108, 116, 105, 110, 73, 109, 112, 111, 114, 116, 101, 114, 46, 99, 114, 101, 97, 116, 101, 95, 109, 111, 100, 117, 108, 101, 35, 111, 112, 97, 113, 117, 101, 6, 195, 11, 101, 120, 101, 99, 95, 109, 111, 100, 117, 108, 101, 9, 52, 95, 102, 114, 111, 122, 101, 110, 95, 105, 109, 112, 111, 114, 116, 108, 105, 98, 46, 66, 117, 105, 108, 116, 105, 110, 73, 109, 112, 111, 114, 116, 101, 114, 46, 101, 120, 101, 99, 95, 109, 111, 100, 117, 108, 101, 35, 111, 112, 97, 113, 117, 101, 6, 196, 8, 103, 101, 116, 95, 99, 111, 100, 101, 9, 49, 95, 102, 114, 111, 122, 101, 110, 95, 105, 109, 112, 111, 114, 116, 108, 105, 98, 46, 66, 117, 105, 108, 116, 105, 110, 73, 109, 112, 111, 114, 116, 101, 114, 46, 103, 101, 116, 95, 99, 111, 100, 101, 35, 111, 112, 97, 113, 117, 101, 6, 197, 10, 103, 101, 116, 95, 115, 111, 117, 114, 99, 101, 9, 51, 95, 102, 114, 111, 122, 101, 110, 95, 105, 109, 112, 111, 114, 116, 108, 105, 98, 46, 66, 117, 105, 108, 116, 105, 110, 73, 109, 112, 111, 114, 116, 101, 114, 46, 103, 101, 116, 95, 115, 111, 117, 114, 99, 101, 35, 111, 112, 97, 113, 117, 101, 6, 198, 10, 105, 115, 95, 112, 97, 99, 107, 97, 103, 101, 9, 51, 95, 102, 114, 111, 122, 101, 110, 95, 105, 109, 112, 111, 114, 116, 108, 105, 98, 46, 66, 117, 105, 108, 116, 105, 110, 73, 109, 112, 111, 114, 116, 101, 114, 46, 105, 115, 95, 112, 97, 99, 107, 97, 103, 101, 35, 111, 112, 97, 113, 117, 101, 6, 199, 11, 108, 111, 97, 100, 95, 109, 111, 100, 117, 108, 101, 9, 52, 95, 102, 114, 111, 122, 101, 110, 95, 105, 109, 112, 111, 114, 116, 108, 105, 98, 46, 66, 117, 105, 108, 116, 105, 110, 73, 109, 112, 111, 114, 116, 101, 114, 46, 108, 111, 97, 100, 95, 109, 111, 100, 117, 108, 101, 35, 111, 112, 97, 113, 117, 101, 6, 200, 21, 95, 95, 115, 116, 97, 116, 105, 99, 95, 97, 116, 116, 114, 105, 98, 117, 116, 101, 115, 95, 95, 4, 0, 0, 15, 6, 202, 8, 95, 95, 100, 105, 99, 116, 95, 95, 4, 0, 0, 16, 6, 204, 11, 95, 95, 119, 101, 97, 107, 114, 101, 102, 95, 95, 4, 0, 0, 17]⟩ 0), (.bool true), (.bool true), (.str (Str.ofString "") 205), (.int 21 0), (.str ⟨#[6, 227, 10, 95, 95, 109, 111, 100, 117, 108, 101, 95, 95, 6, 217, 17, 95, 102, 114, 111, 122, 101, 110, 95, 105, 109, 112, 111, 114, 116, 108, 105, 98, 6, 228, 15, 95, 95, 102, 105, 114, 115, 116, 108, 105, 110, 101, 110, 111, 95, 95, 4, 218, 0, 562, 6, 229, 7, 95, 95, 100, 111, 99, 95, 95, 9, 47, 95, 102, 114, 111, 122, 101, 110, 95, 105, 109, 112, 111, 114, 116, 108, 105, 98, 46, 77, 111, 100, 117, 108, 101, 83, 112, 101, 99, 46, 95, 95, 100, 111, 99, 95, 95, 58, 115, 116, 114, 35, 111, 112, 97, 113, 117, 101, 6, 230, 8, 95, 95, 105, 110, 105, 116, 95, 95, 9, 44, 95, 102, 114, 111, 122, 101, 110, 95, 105, 109, 112, 111, 114, 116, 108, 105, 98, 46, 77, 111, 100, 117, 108, 101, 83, 112, 101, 99, 46, 95, 95, 105, 110, 105, 116, 95, 95, 35, 111, 112, 97, 113, 117, 101, 6, 231, 8, 95, 95, 114, 101, 112, 114, 95, 95, 9, 44, 95, 102, 114, 111, 122, 101, 110, 95, 105, 109, 112, 111, 114, 116, 108, 105, 98, 46, 77, 111, 100, 117, 108, 101, 83, 112, 101, 99, 46, 95, 95, 114, 101, 112, 114, 95, 95, 35, 111, 112, 97, 113, 117, 101, 6, 232, 6, 95, 95, 101, 113, 95, 95, 9, 42, 95, 102, 114, 111, 122, 101, 110, 95, 105, 109, 112, 111, 114, 116, 108, 105, 98, 46, 77, 111, 100, 117, 108, 101, 83, 112, 101, 99, 46, 95, 95, 101, 113, 95, 95, 35, 111, 112, 97, 113, 117, 101, 6, 233, 6, 99, 97, 99, 104, 101, 100, 9, 42, 95, 102, 114, 111, 122, 101, 110, 95, 105, 109, 112, 111, 114, 116, 108, 105, 98, 46, 77, 111, 100, 117, 108, 101, 83, 112, 101, 99, 46, 99, 97, 99, 104, 101, 100, 35, 111, 112, 97, 113, 117, 101, 6, 234, 6, 112, 97, 114, 101, 110, 116, 9, 42, 95, 102, 114, 111, 122, 101, 110, 95, 105, 109, 112, 111, 114, 116, 108, 105, 98, 46, 77, 111, 100, 117, 108, 101, 83, 112, 101, 99, 46, 112, 97, 114, 101, 110, 116, 35, 111, 112, 97, 113, 117, 101, 6, 235, 12, 104, 97, 115, 95, 108, 111, 99, 97, 116, 105, 111, 110, 9, 48, 95, 102, 114, 111, 122, 101, 110, 95, 105, 109, 112, 111, 114, 116, 108, 105, 98, 46, 77, 111, 100, 117, 108, 101, 83, 112, 101, 99, 46, 104, 97, 115, 95, 108, 111, 99, 97, 116, 105, 111, 110, 35, 111, 112, 97, 113, 117, 101, 6, 236, 21, 95, 95, 115, 116, 97, 116, 105, 99, 95, 97, 116, 116, 114, 105, 98, 117, 116, 101, 115, 95, 95, 4, 0, 0, 23, 6, 238, 8, 95, 95, 100, 105, 99, 116, 95, 95, 4, 0, 0, 24, 6, 240, 11, 95, 95, 119, 101, 97, 107, 114, 101, 102, 95, 95, 4, 0, 0, 25, 6, 241, 8, 95, 95, 104, 97, 115, 104, 95, 95, 0]⟩ 0), (.bool true), (.bool true), (.str (Str.ofString "") 242)].toArray 1, #[]⟩
noncomputable def o19 (_ : Params) : Obj := ⟨(.type "list"), none, .seq [].toArray 0, #[]⟩
noncomputable def o20 (P : Params) : Obj := ⟨(.type "dict"), none, .dict [⟨PyData.keyHash P (Str.ofString "name"), (.str (Str.ofString "name") 208), (.str (Str.ofString "_sre") 207)⟩, ⟨PyData.keyHash P (Str.ofString "loader"), (.str (Str.ofString "loader") 209), (.ref 14)⟩, ⟨PyData.keyHash P (Str.ofString "origin"), (.str (Str.ofString "origin") 210), (.str (Str.ofString "built-in") 184)⟩, ⟨PyData.keyHash P (Str.ofString "loader_state"), (.str (Str.ofString "loader_state") 211), .none⟩, ⟨PyData.keyHash P (Str.ofString "submodule_search_locations"), (.str (Str.ofString "submodule_search_locations") 212), .none⟩, ⟨PyData.keyHash P (Str.ofString "_uninitialized_submodules"), (.str (Str.ofString "_uninitialized_submodules") 213), (.ref 19)⟩, ⟨PyData.keyHash P (Str.ofString "_set_fileattr"), (.str (Str.ofString "_set_fileattr") 214), (.bool false)⟩, ⟨PyData.keyHash P (Str.ofString "_cached"), (.str (Str.ofString "_cached") 215), .none⟩, ⟨PyData.keyHash P (Str.ofString "_initializing"), (.str (Str.ofString "_initializing") 243), (.bool false)⟩].toArray 9, #[]⟩
noncomputable def o21 (P : Params) : Obj := ⟨(.type "dict"), none, .dict [⟨PyData.keyHash P (Str.ofString "__module__"), (.str (Str.ofString "__module__") 227), (.str (Str.ofString "_frozen_importlib") 217)⟩, ⟨PyData.keyHash P (Str.ofString "__firstlineno__"), (.str (Str.ofString "__firstlineno__") 228), (.int 562 218)⟩, ⟨PyData.keyHash P (Str.ofString "__doc__"), (.str (Str.ofString "__doc__") 229), (.builtin "_frozen_importlib.ModuleSpec.__doc__:str#opaque")⟩, ⟨PyData.keyHash P (Str.ofString "__init__"), (.str (Str.ofString "__init__") 230), (.builtin "_frozen_importlib.ModuleSpec.__init__#opaque")⟩, ⟨PyData.keyHash P (Str.ofString "__repr__"), (.str (Str.ofString "__repr__") 231), (.builtin "_frozen_importlib.ModuleSpec.__repr__#opaque")⟩, ⟨PyData.keyHash P (Str.ofString "__eq__"), (.str (Str.ofString "__eq__") 232), (.builtin "_frozen_importlib.ModuleSpec.__eq__#opaque")⟩, ⟨PyData.keyHash P (Str.ofString "cached"), (.str (Str.ofString "cached") 233), (.builtin "_frozen_importlib.ModuleSpec.cached#opaque")⟩, ⟨PyData.keyHash P (Str.ofString "parent"), (.str (Str.ofString "parent") 234), (.builtin "_frozen_importlib.ModuleSpec.parent#opaque")⟩, ⟨PyData.keyHash P (Str.ofString "has_location"), (.str (Str.ofString "has_location") 235), (.builtin "_frozen_importlib.ModuleSpec.has_location#opaque")⟩, ⟨PyData.keyHash P (Str.ofString "__static_attributes__"), (.str (Str.ofString "__static_attributes__") 236), (.ref 23)⟩, ⟨PyData.keyHash P (Str.ofString "__dict__"), (.str (Str.ofString "__dict__") 238), (.ref 24)⟩, ⟨PyData.keyHash P (Str.ofString "__weakref__"), (.str (Str.ofString "__weakref__") 240), (.ref 25)⟩, ⟨PyData.keyHash P (Str.ofString "__hash__"), (.str (Str.ofString "__hash__") 241), .none⟩].toArray 13, #[]⟩
noncomputable def o22 (_ : Params) : Obj := ⟨(.type "type"), none, .cls ⟨(Str.ofString "ModuleSpec"), [(.type "object")], [(.ref 22), (.type "object")], 21, (Str.ofString "ModuleSpec"), true, [], [], false, none, false⟩, #[]⟩
noncomputable def o23 (_ : Params) : Obj := ⟨(.type "tuple"), none, .seq [(.str (Str.ofString "_cached") 219), (.str (Str.ofString "_set_fileattr") 220), (.str (Str.ofString "_uninitialized_submodules") 221), (.str (Str.ofString "loader") 222), (.str (Str.ofString "loader_state") 223), (.str (Str.ofString "name") 224), (.str (Str.ofString "origin") 225), (.str (Str.ofString "submodule_search_locations") 226)].toArray 0, #[]⟩
noncomputable def o24 (_ : Params) : Obj := ⟨(.type "getset_descriptor"), none, .fields [(.str (Str.ofString "__dict__") 237), (.ref 22), (.builtin "function.__dict__"), (.builtin "function.__dict__#set")].toArray, #[]⟩
noncomputable def o25 (_ : Params) : Obj := ⟨(.type "getset_descriptor"), none, .fields [(.str (Str.ofString "__weakref__") 239), (.ref 22), (.builtin "ExceptionGroup.__weakref__"), .none].toArray, #[]⟩
noncomputable def o26 (_ : Params) : Obj := ⟨(.ref 22), (some 20), .plain, #[]⟩
noncomputable def o27 (_ : Params) : Obj := ⟨.none, none, .seq [(.int 11 0), (.str ⟨#[6, 247, 8, 95, 95, 110, 97, 109, 101, 95, 95, 6, 246, 4, 95, 115, 114, 101, 6, 248, 7, 95, 95, 100, 111, 99, 95, 95, 0, 6, 250, 11, 95, 95, 112, 97, 99, 107, 97, 103, 101, 95, 95, 6, 249, 0, 6, 251, 10, 95, 95, 108, 111, 97, 100, 101, 114, 95, 95, 4, 0, 0, 14, 6, 252, 8, 95, 95, 115, 112, 101, 99, 95, 95, 4, 0, 0, 26, 6, 253, 7, 99, 111, 109, 112, 105, 108, 101, 9, 12, 95, 115, 114, 101, 46, 99, 111, 109, 112, 105, 108, 101, 6, 254, 8, 116, 101, 109, 112, 108, 97, 116, 101, 9, 13, 95, 115, 114, 101, 46, 116, 101, 109, 112, 108, 97, 116, 101, 6, 255, 11, 103, 101, 116, 99, 111, 100, 101, 115, 105, 122, 101, 9, 16, 95, 115, 114, 101, 46, 103, 101, 116, 99, 111, 100, 101, 115, 105, 122, 101, 6, 256, 13, 97, 115, 99, 105, 105, 95, 105, 115, 99, 97, 115, 101, 100, 9, 18, 95, 115, 114, 101, 46, 97, 115, 99, 105, 105, 95, 105, 115, 99, 97, 115, 101, 100, 6, 257, 15, 117, 110, 105, 99, 111, 100, 101, 95, 105, 115, 99, 97, 115, 101, 100, 9, 20, 95, 115, 114, 101, 46, 117, 110, 105, 99, 111, 100, 101, 95, 105, 115, 99, 97, 115, 101, 100, 6, 258, 13, 97, 115, 99, 105, 105, 95, 116, 111, 108, 111, 119, 101, 114, 9, 18, 95, 115, 114, 101, 46, 97, 115, 99, 105, 105, 95, 116, 111, 108, 111, 119, 101, 114, 6, 259, 15, 117, 110, 105, 99, 111, 100, 101, 95, 116, 111, 108, 111, 119, 101, 114, 9, 20, 95, 115, 114, 101, 46, 117, 110, 105, 99, 111, 100, 101, 95, 116, 111, 108, 111, 119, 101, 114, 6, 261, 5, 77, 65, 71, 73, 67, 4, 260, 0, 20230612, 6, 263, 8, 67, 79, 68, 69, 83, 73, 90, 69, 4, 262, 0, 4, 6, 265, 9, 77, 65, 88, 82, 69, 80, 69, 65, 84, 4, 264, 0, 4294967295, 6, 267, 9, 77, 65, 88, 71, 82, 79, 85, 80, 83, 4, 266, 0, 1073741823, 6, 269, 9, 99, 111, 112, 121, 114, 105, 103, 104, 116, 6, 268, 53, 32, 83, 82, 69, 32, 50, 46, 50, 46, 50, 32, 67, 111, 112, 121, 114, 105, 103, 104, 116, 32, 40, 99, 41, 32, 49, 57, 57, 55, 45, 50, 48, 48, 50, 32, 98, 121, 32, 83, 101, 99, 114, 101, 116, 32, 76, 97, 98, 115, 32, 65, 66, 32]⟩ 0), (.bool true), (.bool false), (.str (Str.ofString "_sre") 271)].toArray 0, #[]⟩
noncomputable def o28 (_ : Params) : Obj := ⟨(.type "tuple"), none, .seq [].toArray 0, #[]⟩
noncomputable def o30 (_ : Params) : Obj := ⟨(.type "code"), none, .fields [(.str (Str.ofString "<module>") 277), (.str (Str.ofString "<module>") 278), (.str (Str.ofString "/claim/cut.py") 279), (.int 1 0), (.int 0 0), (.int 0 0), (.int 0 0), (.int 0 0), (.ref 28), (.bool false), (.int 276 0), (.ref 29), .none, .none, .none, .none, (.int 280 0), (.int 1 0), (.str (Str.ofString "/claim/cut.py") 281)].toArray, #[]⟩
noncomputable def o31 (_ : Params) : Obj := ⟨(.type "frame"), none, .plain, [(some (.ref 30)), (some (.ref 3)), (some (.ref 3)), none, (some (.str (Str.ofString "__main__") 164)), none, (some (.ref 0))].toArray⟩
noncomputable def o32 (_ : Params) : Obj := ⟨(.type "tuple"), none, .seq [(.int 0 284), .none].toArray 0, #[]⟩
noncomputable def o33 (P : Params) : Obj := ⟨(.type "dict"), none, .dict [⟨PyData.keyHash P (Str.ofString "key"), (.str (Str.ofString "key") 285), .none⟩].toArray 1, #[]⟩
noncomputable def o34 (_ : Params) : Obj := ⟨(.type "tuple"), none, .seq [].toArray 0, #[]⟩
noncomputable def o35 (_ : Params) : Obj := ⟨.none, none, .fields [].toArray, #[]⟩
noncomputable def o36 (_ : Params) : Obj := ⟨(.type "tuple"), none, .seq [(.str (Str.ofString "a") 289), (.str (Str.ofString "x") 290), (.str (Str.ofString "lo") 291), (.str (Str.ofString "hi") 292), (.str (Str.ofString "key") 293), (.str (Str.ofString "mid") 294)].toArray 0, #[]⟩
noncomputable def o37 (_ : Params) : Obj := ⟨(.type "tuple"), none, .seq [].toArray 0, #[]⟩
noncomputable def o38 (_ : Params) : Obj := ⟨.none, none, .func ⟨(Str.ofString "bisect_right"), (Str.ofString "bisect_right"), fnP 2, .stmts (fnB 2), fnS 2, 0, [], .none, .none, .none, .none, none, .none, .none, 0⟩, #[]⟩
noncomputable def o39 (_ : Params) : Obj := ⟨(.type "code"), none, .fields [(.str (Str.ofString "bisect_right") 286), (.str (Str.ofString "bisect_right") 287), (.str (Str.ofString "/claim/cut.py") 288), (.int 3 0), (.int 4 0), (.int 0 0), (.int 1 0), (.int 3 0), (.ref 34), (.bool true), (.int 276 0), (.ref 35), .none, (.ref 36), (.ref 37), (.ref 38), (.int 295 0), (.int 3 0), (.str (Str.ofString "/claim/cut.py") 296)].toArray, #[]⟩
noncomputable def o40 (_ : Params) : Obj := ⟨(.type "function"), none, .func ⟨(Str.ofString "bisect_right"), (Str.ofString "bisect_right"), fnP 2, .stmts (fnB 2), fnS 2, 3, [], (.ref 32), (.ref 33), .none, (.str (Str.ofString "cpy313.bisect") 282), none, (.ref 39), .none, 0⟩, #[]⟩
noncomputable def o41 (_ : Params) : Obj := ⟨(.type "tuple"), none, .seq [(.int 0 298), .none].toArray 0, #[]⟩
noncomputable def o42 (P : Params) : Obj := ⟨(.type "dict"), none, .dict [⟨PyData.keyHash P (Str.ofString "key"), (.str (Str.ofString "key") 299), .none⟩].toArray 1, #[]⟩
noncomputable def o43 (_ : Params) : Obj := ⟨(.type "tuple"), none, .seq [].toArray 0, #[]⟩
noncomputable def o44 (_ : Params) : Obj := ⟨.none, none, .fields [].toArray, #[]⟩
noncomputable def o45 (_ : Params) : Obj := ⟨(.type "tuple"), none, .seq [(.str (Str.ofString "a") 303), (.str (Str.ofString "x") 304), (.str (Str.ofString "lo") 305), (.str (Str.ofString "hi") 306), (.str (Str.ofString "key") 307)].toArray 0, #[]⟩
noncomputable def o46 (_ : Params) : Obj := ⟨(.type "tuple"), none, .seq [].toArray 0, #[]⟩
noncomputable def o47 (_ : Params) : Obj := ⟨.none, none, .func ⟨(Str.ofString "insort_left"), (Str.ofString "insort_left"), fnP 3, .stmts (fnB 3), fnS 3, 0, [], .none, .none, .none, .none, none, .none, .none, 0⟩, #[]⟩
noncomputable def o48 (_ : Params) : Obj := ⟨(.type "code"), none, .fields [(.str (Str.ofString "insort_left") 300), (.str (Str.ofString "insort_left") 301), (.str (Str.ofString "/claim/cut.py") 302), (.int 23 0), (.int 4 0), (.int 0 0), (.int 1 0), (.int 3 0), (.ref 43), (.bool true), (.int 276 0), (.ref 44), .none, (.ref 45), (.ref 46), (.ref 47), (.int 308 0), (.int 23 0), (.str (Str.ofString "/claim/cut.py") 309)].toArray, #[]⟩
noncomputable def o49 (_ : Params) : Obj := ⟨(.type "function"), none, .func ⟨(Str.ofString "insort_left"), (Str.ofString "insort_left"), fnP 3, .stmts (fnB 3), fnS 3, 3, [], (.ref 41), (.ref 42), .none, (.str (Str.ofString "cpy313.bisect") 282), none, (.ref 48), .none, 0⟩, #[]⟩
noncomputable def o50 (_ : Params) : Obj := ⟨(.type "tuple"), none, .seq [(.int 0 311), .none].toArray 0, #[]⟩
noncomputable def o51 (P : Params) : Obj := ⟨(.type "dict"), none, .dict [⟨PyData.keyHash P (Str.ofString "key"), (.str (Str.ofString "key") 312), .none⟩].toArray 1, #[]⟩
noncomputable def o52 (_ : Params) : Obj := ⟨(.type "tuple"), none, .seq [].toArray 0, #[]⟩
noncomputable def o53 (_ : Params) : Obj := ⟨.none, none, .fields [].toArray, #[]⟩
noncomputable def o54 (_ : Params) : Obj := ⟨(.type "tuple"), none, .seq [(.str (Str.ofString "a") 316), (.str (Str.ofString "x") 317), (.str (Str.ofString "lo") 318), (.str (Str.ofString "hi") 319), (.str (Str.ofString "key") 320), (.str (Str.ofString "mid") 321)].toArray 0, #[]⟩
noncomputable def o55 (_ : Params) : Obj := ⟨(.type "tuple"), none, .seq [].toArray 0, #[]⟩
noncomputable def o56 (_ : Params) : Obj := ⟨.none, none, .func ⟨(Str.ofString "bisect_left"), (Str.ofString "bisect_left"), fnP 4, .stmts (fnB 4), fnS 4, 0, [], .none, .none, .none, .none, none, .none, .none, 0⟩, #[]⟩
noncomputable def o57 (_ : Params) : Obj := ⟨(.type "code"), none, .fields [(.str (Str.ofString "bisect_left") 313), (.str (Str.ofString "bisect_left") 314), (.str (Str.ofString "/claim/cut.py") 315), (.int 29 0), (.int 4 0), (.int 0 0), (.int 1 0), (.int 3 0), (.ref 52), (.bool true), (.int 276 0), (.ref 53), .none, (.ref 54), (.ref 55), (.ref 56), (.int 322 0), (.int 29 0), (.str (Str.ofString "/claim/cut.py") 323)].toArray, #[]⟩
noncomputable def o58 (_ : Params) : Obj := ⟨(.type "function"), none, .func ⟨(Str.ofString "bisect_left"), (Str.ofString "bisect_left"), fnP 4, .stmts (fnB 4), fnS 4, 3, [], (.ref 50), (.ref 51), .none, (.str (Str.ofString "cpy313.bisect") 282), none, (.ref 57), .none, 0⟩, #[]⟩
noncomputable def o59 (_ : Params) : Obj := ⟨(.type "tuple"), none, .seq [].toArray 0, #[]⟩
noncomputable def o60 (_ : Params) : Obj := ⟨.none, none, .fields [].toArray, #[]⟩
noncomputable def o61 (_ : Params) : Obj := ⟨(.type "tuple"), none, .seq [(.str (Str.ofString "r") 330), (.str (Str.ofString "g") 331), (.str (Str.ofString "b") 332), (.str (Str.ofString "maxc") 333), (.str (Str.ofString "minc") 334), (.str (Str.ofString "rangec") 335), (.str (Str.ofString "v") 336), (.str (Str.ofString "s") 337), (.str (Str.ofString "rc") 338), (.str (Str.ofString "gc") 339), (.str (Str.ofString "bc") 340), (.str (Str.ofString "h") 341)].toArray 0, #[]⟩
noncomputable def o62 (_ : Params) : Obj := ⟨(.type "tuple"), none, .seq [].toArray 0, #[]⟩
noncomputable def o63 (_ : Params) : Obj := ⟨.none, none, .func ⟨(Str.ofString "rgb_to_hsv"), (Str.ofString "rgb_to_hsv"), fnP 6, .stmts (fnB 6), fnS 6, 0, [], .none, .none, .none, .none, none, .none, .none, 0⟩, #[]⟩
noncomputable def o64 (_ : Params) : Obj := ⟨(.type "code"), none, .fields [(.str (Str.ofString "rgb_to_hsv") 327), (.str (Str.ofString "rgb_to_hsv") 328), (.str (Str.ofString "/claim/cut.py") 329), (.int 50 0), (.int 3 0), (.int 0 0), (.int 0 0), (.int 3 0), (.ref 59), (.bool true), (.int 276 0), (.ref 60), .none, (.ref 61), (.ref 62), (.ref 63), (.int 342 0), (.int 50 0), (.str (Str.ofString "/claim/cut.py") 343)].toArray, #[]⟩
noncomputable def o65 (_ : Params) : Obj := ⟨(.type "function"), none, .func ⟨(Str.ofString "rgb_to_hsv"), (Str.ofString "rgb_to_hsv"), fnP 6, .stmts (fnB 6), fnS 6, 3, [], .none, .none, .none, (.str (Str.ofString "cpy313.colorsys") 325), none, (.ref 64), .none, 0⟩, #[]⟩
noncomputable def o66 (_ : Params) : Obj := ⟨(.type "tuple"), none, .seq [].toArray 0, #[]⟩
noncomputable def o67 (_ : Params) : Obj := ⟨.none, none, .fields [].toArray, #[]⟩
noncomputable def o68 (_ : Params) : Obj := ⟨(.type "tuple"), none, .seq [(.str (Str.ofString "h") 348), (.str (Str.ofString "s") 349), (.str (Str.ofString "v") 350), (.str (Str.ofString "i") 351), (.str (Str.ofString "f") 352), (.str (Str.ofString "p") 353), (.str (Str.ofString "q") 354), (.str (Str.ofString "t") 355)].toArray 0, #[]⟩
noncomputable def o69 (_ : Params) : Obj := ⟨(.type "tuple"), none, .seq [].toArray 0, #[]⟩
noncomputable def o70 (_ : Params) : Obj := ⟨.none, none, .func ⟨(Str.ofString "hsv_to_rgb"), (Str.ofString "hsv_to_rgb"), fnP 7, .stmts (fnB 7), fnS 7, 0, [], .none, .none, .none, .none, none, .none, .none, 0⟩, #[]⟩
noncomputable def o71 (_ : Params) : Obj := ⟨(.type "code"), none, .fields [(.str (Str.ofString "hsv_to_rgb") 345), (.str (Str.ofString "hsv_to_rgb") 346), (.str (Str.ofString "/claim/cut.py") 347), (.int 69 0), (.int 3 0), (.int 0 0), (.int 0 0), (.int 3 0), (.ref 66), (.bool true), (.int 276 0), (.ref 67), .none, (.ref 68), (.ref 69), (.ref 70), (.int 356 0), (.int 69 0), (.str (Str.ofString "/claim/cut.py") 357)].toArray, #[]⟩
noncomputable def o72 (_ : Params) : Obj := ⟨(.type "function"), none, .func ⟨(Str.ofString "hsv_to_rgb"), (Str.ofString "hsv_to_rgb"), fnP 7, .stmts (fnB 7), fnS 7, 3, [], .none, .none, .none, (.str (Str.ofString "cpy313.colorsys") 325), none, (.ref 71), .none, 0⟩, #[]⟩
noncomputable def o73 (_ : Params) : Obj := ⟨(.type "list"), none, .seq [(.int 14 364), (.int 4 365), (.int 0 366), (.int 1 367), (.int 1 368), (.int 6 369), (.int 1 370), (.int 16 371), (.int 46 372), (.int 1 373)].toArray 0, #[]⟩
noncomputable def o74 (_ : Params) : Obj := ⟨(.type "dict"), none, .dict [].toArray 0, #[]⟩
noncomputable def o75 (_ : Params) : Obj := ⟨(.type "tuple"), none, .seq [.none].toArray 0, #[]⟩
noncomputable def o76 (_ : Params) : Obj := ⟨(.type "tuple"), none, .seq [(.int 14 0), (.int 4 0), (.int 0 0), (.int 1 0), (.int 1 0), (.int 6 0), (.int 1 0), (.int 16 0), (.int 46 0), (.int 1 0)].toArray 0, #[]⟩
noncomputable def o77 (_ : Params) : Obj := ⟨(.type "re.Pattern"), none, .fields [(.str (Str.ofString "(?m)^\\.") 362), (.int 40 375), (.int 0 0), .none, .none, (.ref 76), (.int 0 0)].toArray, #[]⟩
noncomputable def o78 (_ : Params) : Obj := ⟨(.type "list"), none, .seq [(.int 14 380), (.int 9 381), (.int 4 382), (.int 1 383), (.int 2 384), (.int 16 385), (.int 10 386), (.int 16 387), (.int 13 388), (.int 0 389), (.int 7 390), (.int 7 391), (.int 16 392), (.int 13 393), (.int 16 394), (.int 10 395), (.int 15 396), (.int 18 397), (.int 5 398), (.int 16 399), (.int 10 400), (.int 15 401), (.int 13 402), (.int 11 403), (.int 16 404), (.int 13 405), (.int 5 406), (.int 5 407), (.int 0 408), (.int 16 409), (.int 10 410), (.int 1 411), (.int 15 412), (.int 2 413), (.int 0 414), (.int 1 415)].toArray 0, #[]⟩
noncomputable def o79 (_ : Params) : Obj := ⟨(.type "dict"), none, .dict [].toArray 0, #[]⟩
noncomputable def o80 (_ : Params) : Obj := ⟨(.type "tuple"), none, .seq [.none].toArray 0, #[]⟩
noncomputable def o81 (_ : Params) : Obj := ⟨(.type "tuple"), none, .seq [(.int 14 0), (.int 9 0), (.int 4 0), (.int 1 0), (.int 2 0), (.int 16 0), (.int 10 0), (.int 16 0), (.int 13 0), (.int 0 0), (.int 7 0), (.int 7 0), (.int 16 0), (.int 13 0), (.int 16 0), (.int 10 0), (.int 15 0), (.int 18 0), (.int 5 0), (.int 16 0), (.int 10 0), (.int 15 0), (.int 13 0), (.int 11 0), (.int 16 0), (.int 13 0), (.int 5 0), (.int 5 0), (.int 0 0), (.int 16 0), (.int 10 0), (.int 1 0), (.int 15 0), (.int 2 0), (.int 0 0), (.int 1 0)].toArray 0, #[]⟩
noncomputable def o82 (_ : Params) : Obj := ⟨(.type "re.Pattern"), none, .fields [(.str (Str.ofString "(?:\\r\\n|\\n|\\r(?!\\n))") 378), (.int 32 417), (.int 0 0), .none, .none, (.ref 81), (.int 0 0)].toArray, #[]⟩
noncomputable def o83 (_ : Params) : Obj := ⟨(.type "tuple"), none, .seq [].toArray 0, #[]⟩
noncomputable def o84 (_ : Params) : Obj := ⟨.none, none, .fields [].toArray, #[]⟩
noncomputable def o85 (_ : Params) : Obj := ⟨(.type "tuple"), none, .seq [(.str (Str.ofString "data") 424)].toArray 0, #[]⟩
noncomputable def o86 (_ : Params) : Obj := ⟨(.type "tuple"), none, .seq [].toArray 0, #[]⟩
noncomputable def o87 (_ : Params) : Obj := ⟨.none, none, .func ⟨(Str.ofString "quotedata"), (Str.ofString "quotedata"), fnP 12, .stmts (fnB 12), fnS 12, 0, [], .none, .none, .none, .none, none, .none, .none, 0⟩, #[]⟩
noncomputable def o88 (_ : Params) : Obj := ⟨(.type "code"), none, .fields [(.str (Str.ofString "quotedata") 421), (.str (Str.ofString "quotedata") 422), (.str (Str.ofString "/claim/cut.py") 423), (.int 94 0), (.int 1 0), (.int 0 0), (.int 0 0), (.int 3 0), (.ref 83), (.bool true), (.int 276 0), (.ref 84), .none, (.ref 85), (.ref 86), (.ref 87), (.int 425 0), (.int 94 0), (.str (Str.ofString "/claim/cut.py") 426)].toArray, #[]⟩
noncomputable def o89 (_ : Params) : Obj := ⟨(.type "function"), none, .func ⟨(Str.ofString "quotedata"), (Str.ofString "quotedata"), fnP 12, .stmts (fnB 12), fnS 12, 3, [], .none, .none, .none, (.str (Str.ofString "cpy313.smtplib") 359), none, (.ref 88), .none, 0⟩, #[]⟩
noncomputable def o90 (_ : Params) : Obj := ⟨(.type "tuple"), none, .seq [].toArray 0, #[]⟩
noncomputable def o91 (_ : Params) : Obj := ⟨.none, none, .fields [].toArray, #[]⟩
noncomputable def o92 (_ : Params) : Obj := ⟨(.type "tuple"), none, .seq [(.str (Str.ofString "data") 431)].toArray 0, #[]⟩
noncomputable def o93 (_ : Params) : Obj := ⟨(.type "tuple"), none, .seq [].toArray 0, #[]⟩
noncomputable def o94 (_ : Params) : Obj := ⟨.none, none, .func ⟨(Str.ofString "_fix_eols"), (Str.ofString "_fix_eols"), fnP 13, .stmts (fnB 13), fnS 13, 0, [], .none, .none, .none, .none, none, .none, .none, 0⟩, #[]⟩
noncomputable def o95 (_ : Params) : Obj := ⟨(.type "code"), none, .fields [(.str (Str.ofString "_fix_eols") 428), (.str (Str.ofString "_fix_eols") 429), (.str (Str.ofString "/claim/cut.py") 430), (.int 96 0), (.int 1 0), (.int 0 0), (.int 0 0), (.int 3 0), (.ref 90), (.bool true), (.int 276 0), (.ref 91), .none, (.ref 92), (.ref 93), (.ref 94), (.int 432 0), (.int 96 0), (.str (Str.ofString "/claim/cut.py") 433)].toArray, #[]⟩
noncomputable def o96 (_ : Params) : Obj := ⟨(.type "function"), none, .func ⟨(Str.ofString "_fix_eols"), (Str.ofString "_fix_eols"), fnP 13, .stmts (fnB 13), fnS 13, 3, [], .none, .none, .none, (.str (Str.ofString "cpy313.smtplib") 359), none, (.ref 95), .none, 0⟩, #[]⟩
noncomputable def o97 (_ : Params) : Obj := ⟨(.type "list"), none, .seq [(.int 173 437), (.int 847 438), (.int 6150 439), (.int 6155 440), (.int 6156 441), (.int 6157 442), (.int 8203 443), (.int 8204 444), (.int 8205 445), (.int 8288 446), (.int 65279 447)].toArray 0, #[]⟩
noncomputable def o98 (_ : Params) : Obj := ⟨(.type "range"), none, .fields [(.int 65024 448), (.int 65040 449), (.int 1 450)].toArray, #[]⟩
noncomputable def o99 (_ : Params) : Obj := ⟨(.type "list"), none, .seq [(.int 65024 453), (.int 65025 454), (.int 65026 455), (.int 65027 456), (.int 65028 457), (.int 65029 458), (.int 65030 459), (.int 65031 460), (.int 65032 461), (.int 65033 462), (.int 65034 463), (.int 65035 464), (.int 65036 465), (.int 65037 466), (.int 65038 467), (.int 65039 468)].toArray 18, #[]⟩
noncomputable def o100 (_ : Params) : Obj := ⟨(.type "range_iterator"), none, .fields [(.int 65040 0), (.int 0 0), (.int 1 0)].toArray, #[]⟩
noncomputable def o101 (_ : Params) : Obj := ⟨(.type "tuple"), none, .seq [].toArray 0, #[]⟩
noncomputable def o102 (_ : Params) : Obj := ⟨(.type "StopIteration"), none, .fields [(.ref 101), .none, .none, .none, (.bool false), .none].toArray, #[]⟩
noncomputable def o103 (_ : Params) : Obj := ⟨(.type "list"), none, .seq [(.int 173 437), (.int 847 438), (.int 6150 439), (.int 6155 440), (.int 6156 441), (.int 6157 442), (.int 8203 443), (.int 8204 444), (.int 8205 445), (.int 8288 446), (.int 65279 447), (.int 65024 453), (.int 65025 454), (.int 65026 455), (.int 65027 456), (.int 65028 457), (.int 65029 458), (.int 65030 459), (.int 65031 460), (.int 65032 461), (.int 65033 462), (.int 65034 463), (.int 65035 464), (.int 65036 465), (.int 65037 466), (.int 65038 467), (.int 65039 468)].toArray 0, #[]⟩
noncomputable def o104 (P : Params) : Obj := ⟨(.type "set"), none, .set #[(65024, (.int 65024 453)), (65025, (.int 65025 454)), (65026, (.int 65026 455)), (65027, (.int 65027 456)), (65028, (.int 65028 457)), (65029, (.int 65029 458)), (6150, (.int 6150 439)), (65030, (.int 65030 459)), (65031, (.int 65031 460)), (65032, (.int 65032 461)), (65033, (.int 65033 462)), (6155, (.int 6155 440)), (6156, (.int 6156 441)), (6157, (.int 6157 442)), (8203, (.int 8203 443)), (8204, (.int 8204 444)), (8205, (.int 8205 445)), (65034, (.int 65034 463)), (65035, (.int 65035 464)), (65036, (.int 65036 465)), (65037, (.int 65037 466)), (65038, (.int 65038 467)), (65039, (.int 65039 468)), (173, (.int 173 437)), (847, (.int 847 438)), (8288, (.int 8288 446)), (65279, (.int 65279 447))] 29 ⟨127, #[0, 1, 2, 3, 4, 5, 6, 7, 8, 9, 10, 11, 12, 13, 14, 15, 16, 17, 18, 19, 20, 21, 22, 45, 79, 96, 127], #[], 0, (!P.followText "set-order"), 2, true⟩, #[]⟩
noncomputable def o105 (_ : Params) : Obj := ⟨(.type "list_iterator"), none, .fields [.none, (.int 27 0)].toArray, #[]⟩
noncomputable def o106 (_ : Params) : Obj := ⟨(.type "tuple"), none, .seq [].toArray 0, #[]⟩
noncomputable def o107 (_ : Params) : Obj := ⟨(.type "StopIteration"), none, .fields [(.ref 106), .none, .none, .none, (.bool false), .none].toArray, #[]⟩
noncomputable def o108 (_ : Params) : Obj := ⟨(.type "tuple"), none, .seq [].toArray 0, #[]⟩
noncomputable def o109 (_ : Params) : Obj := ⟨.none, none, .fields [].toArray, #[]⟩
noncomputable def o110 (_ : Params) : Obj := ⟨(.type "tuple"), none, .seq [(.str (Str.ofString "code") 500)].toArray 0, #[]⟩
noncomputable def o111 (_ : Params) : Obj := ⟨(.type "tuple"), none, .seq [].toArray 0, #[]⟩
noncomputable def o112 (_ : Params) : Obj := ⟨.none, none, .func ⟨(Str.ofString "in_table_b1"), (Str.ofString "in_table_b1"), fnP 16, .stmts (fnB 16), fnS 16, 0, [], .none, .none, .none, .none, none, .none, .none, 0⟩, #[]⟩
noncomputable def o113 (_ : Params) : Obj := ⟨(.type "code"), none, .fields [(.str (Str.ofString "in_table_b1") 497), (.str (Str.ofString "in_table_b1") 498), (.str (Str.ofString "/claim/cut.py") 499), (.int 100 0), (.int 1 0), (.int 0 0), (.int 0 0), (.int 3 0), (.ref 108), (.bool true), (.int 276 0), (.ref 109), .none, (.ref 110), (.ref 111), (.ref 112), (.int 501 0), (.int 100 0), (.str (Str.ofString "/claim/cut.py") 502)].toArray, #[]⟩
noncomputable def o114 (_ : Params) : Obj := ⟨(.type "function"), none, .func ⟨(Str.ofString "in_table_b1"), (Str.ofString "in_table_b1"), fnP 16, .stmts (fnB 16), fnS 16, 3, [], .none, .none, .none, (.str (Str.ofString "cpy313.stringprep") 435), none, (.ref 113), .none, 0⟩, #[]⟩
noncomputable def o154 (_ : Params) : Obj := ⟨(.type "tuple"), none, .seq [].toArray 0, #[]⟩
noncomputable def o155 (_ : Params) : Obj := ⟨.none, none, .fields [].toArray, #[]⟩
noncomputable def o156 (_ : Params) : Obj := ⟨(.type "tuple"), none, .seq [(.str (Str.ofString "code") 2458), (.str (Str.ofString "r") 2459)].toArray 0, #[]⟩
noncomputable def o157 (_ : Params) : Obj := ⟨(.type "tuple"), none, .seq [].toArray 0, #[]⟩
noncomputable def o158 (_ : Params) : Obj := ⟨.none, none, .func ⟨(Str.ofString "map_table_b3"), (Str.ofString "map_table_b3"), fnP 18, .stmts (fnB 18), fnS 18, 0, [], .none, .none, .none, .none, none, .none, .none, 0⟩, #[]⟩
noncomputable def o159 (_ : Params) : Obj := ⟨(.type "code"), none, .fields [(.str (Str.ofString "map_table_b3") 2455), (.str (Str.ofString "map_table_b3") 2456), (.str (Str.ofString "/claim/cut.py") 2457), (.int 103 0), (.int 1 0), (.int 0 0), (.int 0 0), (.int 3 0), (.ref 154), (.bool true), (.int 276 0), (.ref 155), .none, (.ref 156), (.ref 157), (.ref 158), (.int 2460 0), (.int 103 0), (.str (Str.ofString "/claim/cut.py") 2461)].toArray, #[]⟩
noncomputable def o160 (_ : Params) : Obj := ⟨(.type "function"), none, .func ⟨(Str.ofString "map_table_b3"), (Str.ofString "map_table_b3"), fnP 18, .stmts (fnB 18), fnS 18, 3, [], .none, .none, .none, (.str (Str.ofString "cpy313.stringprep") 435), none, (.ref 159), .none, 0⟩, #[]⟩
noncomputable def o161 (_ : Params) : Obj := ⟨(.type "range"), none, .fields [(.int 12272 2463), (.int 12284 2464), (.int 1 2465)].toArray, #[]⟩
noncomputable def o162 (P : Params) : Obj := ⟨(.type "set"), none, .set #[(12272, (.int 12272 2466)), (12273, (.int 12273 2468)), (12274, (.int 12274 2470)), (12275, (.int 12275 2472)), (12276, (.int 12276 2474)), (12277, (.int 12277 2476)), (12278, (.int 12278 2478)), (12279, (.int 12279 2480)), (12280, (.int 12280 2482)), (12281, (.int 12281 2484)), (12282, (.int 12282 2486)), (12283, (.int 12283 2488))] 13 ⟨31, #[16, 17, 18, 19, 20, 21, 22, 23, 24, 25, 26, 27], #[], 0, (!P.followText "set-order"), 1, true⟩, #[]⟩
noncomputable def o163 (_ : Params) : Obj := ⟨(.type "range_iterator"), none, .fields [(.int 12284 0), (.int 0 0), (.int 1 0)].toArray, #[]⟩
noncomputable def o164 (_ : Params) : Obj := ⟨(.type "tuple"), none, .seq [].toArray 0, #[]⟩
noncomputable def o165 (_ : Params) : Obj := ⟨(.type "StopIteration"), none, .fields [(.ref 164), .none, .none, .none, (.bool false), .none].toArray, #[]⟩
noncomputable def o166 (_ : Params) : Obj := ⟨(.type "tuple"), none, .seq [].toArray 0, #[]⟩
noncomputable def o167 (_ : Params) : Obj := ⟨.none, none, .fields [].toArray, #[]⟩
noncomputable def o168 (_ : Params) : Obj := ⟨(.type "tuple"), none, .seq [(.str (Str.ofString "code") 2494)].toArray 0, #[]⟩
noncomputable def o169 (_ : Params) : Obj := ⟨(.type "tuple"), none, .seq [].toArray 0, #[]⟩
noncomputable def o170 (_ : Params) : Obj := ⟨.none, none, .func ⟨(Str.ofString "in_table_c7"), (Str.ofString "in_table_c7"), fnP 20, .stmts (fnB 20), fnS 20, 0, [], .none, .none, .none, .none, none, .none, .none, 0⟩, #[]⟩
noncomputable def o171 (_ : Params) : Obj := ⟨(.type "code"), none, .fields [(.str (Str.ofString "in_table_c7") 2491), (.str (Str.ofString "in_table_c7") 2492), (.str (Str.ofString "/claim/cut.py") 2493), (.int 109 0), (.int 1 0), (.int 0 0), (.int 0 0), (.int 3 0), (.ref 166), (.bool true), (.int 276 0), (.ref 167), .none, (.ref 168), (.ref 169), (.ref 170), (.int 2495 0), (.int 109 0), (.str (Str.ofString "/claim/cut.py") 2496)].toArray, #[]⟩
noncomputable def o172 (_ : Params) : Obj := ⟨(.type "function"), none, .func ⟨(Str.ofString "in_table_c7"), (Str.ofString "in_table_c7"), fnP 20, .stmts (fnB 20), fnS 20, 3, [], .none, .none, .none, (.str (Str.ofString "cpy313.stringprep") 435), none, (.ref 171), .none, 0⟩, #[]⟩
noncomputable def o173 (_ : Params) : Obj := ⟨(.type "tuple"), none, .seq [].toArray 0, #[]⟩
noncomputable def o174 (_ : Params) : Obj := ⟨.none, none, .fields [].toArray, #[]⟩
noncomputable def o175 (_ : Params) : Obj := ⟨(.type "tuple"), none, .seq [(.str (Str.ofString "drawn") 2503), (.str (Str.ofString "unseen") 2504), (.str (Str.ofString "fronts") 2505), (.str (Str.ofString "text") 2506), (.str (Str.ofString "x") 2507)].toArray 0, #[]⟩
noncomputable def o176 (_ : Params) : Obj := ⟨(.type "tuple"), none, .seq [].toArray 0, #[]⟩
noncomputable def o177 (_ : Params) : Obj := ⟨.none, none, .func ⟨(Str.ofString "_law_spelled"), (Str.ofString "_law_spelled"), fnP 22, .stmts (fnB 22), fnS 22, 0, [], .none, .none, .none, .none, none, .none, .none, 0⟩, #[]⟩
noncomputable def o178 (_ : Params) : Obj := ⟨(.type "code"), none, .fields [(.str (Str.ofString "_law_spelled") 2500), (.str (Str.ofString "_law_spelled") 2501), (.str (Str.ofString "/claim/cut.py") 2502), (.int 112 0), (.int 1 0), (.int 0 0), (.int 0 0), (.int 3 0), (.ref 173), (.bool true), (.int 276 0), (.ref 174), .none, (.ref 175), (.ref 176), (.ref 177), (.int 2508 0), (.int 112 0), (.str (Str.ofString "/claim/cut.py") 2509)].toArray, #[]⟩
noncomputable def o179 (_ : Params) : Obj := ⟨(.type "function"), none, .func ⟨(Str.ofString "_law_spelled"), (Str.ofString "_law_spelled"), fnP 22, .stmts (fnB 22), fnS 22, 3, [], .none, .none, .none, (.str (Str.ofString "law_ty0053_01") 2498), none, (.ref 178), .none, 0⟩, #[]⟩
noncomputable def o180 (_ : Params) : Obj := ⟨(.type "tuple"), none, .seq [].toArray 0, #[]⟩
noncomputable def o181 (_ : Params) : Obj := ⟨.none, none, .fields [].toArray, #[]⟩
noncomputable def o182 (_ : Params) : Obj := ⟨(.type "tuple"), none, .seq [(.str (Str.ofString "counts") 2514), (.str (Str.ofString "free") 2515), (.str (Str.ofString "way") 2516), (.str (Str.ofString "over") 2517), (.str (Str.ofString "k") 2518), (.str (Str.ofString "here") 2519)].toArray 0, #[]⟩
noncomputable def o183 (_ : Params) : Obj := ⟨(.type "tuple"), none, .seq [].toArray 0, #[]⟩
noncomputable def o184 (_ : Params) : Obj := ⟨.none, none, .func ⟨(Str.ofString "_law_sweep"), (Str.ofString "_law_sweep"), fnP 23, .stmts (fnB 23), fnS 23, 0, [], .none, .none, .none, .none, none, .none, .none, 0⟩, #[]⟩
noncomputable def o185 (_ : Params) : Obj := ⟨(.type "code"), none, .fields [(.str (Str.ofString "_law_sweep") 2511), (.str (Str.ofString "_law_sweep") 2512), (.str (Str.ofString "/claim/cut.py") 2513), (.int 122 0), (.int 1 0), (.int 0 0), (.int 0 0), (.int 3 0), (.ref 180), (.bool true), (.int 276 0), (.ref 181), .none, (.ref 182), (.ref 183), (.ref 184), (.int 2520 0), (.int 122 0), (.str (Str.ofString "/claim/cut.py") 2521)].toArray, #[]⟩
noncomputable def o186 (_ : Params) : Obj := ⟨(.type "function"), none, .func ⟨(Str.ofString "_law_sweep"), (Str.ofString "_law_sweep"), fnP 23, .stmts (fnB 23), fnS 23, 3, [], .none, .none, .none, (.str (Str.ofString "law_ty0053_01") 2498), none, (.ref 185), .none, 0⟩, #[]⟩
noncomputable def o187 (_ : Params) : Obj := ⟨(.type "tuple"), none, .seq [].toArray 0, #[]⟩
noncomputable def o188 (_ : Params) : Obj := ⟨.none, none, .fields [].toArray, #[]⟩
noncomputable def o189 (_ : Params) : Obj := ⟨.none, none, .func ⟨(Str.ofString "_law_parked"), (Str.ofString "_law_parked"), fnP 24, .stmts (fnB 24), fnS 24, 0, [], .none, .none, .none, .none, none, .none, .none, 0⟩, #[]⟩
noncomputable def o190 (_ : Params) : Obj := ⟨(.type "code"), none, .fields [(.str (Str.ofString "_law_parked") 2523), (.str (Str.ofString "_law_parked") 2524), (.str (Str.ofString "/claim/cut.py") 2525), (.int 134 0), (.int 2 0), (.int 0 0), (.int 0 0), (.int 3 0), (.ref 187), (.bool true), (.int 276 0), (.ref 188), .none, .none, .none, (.ref 189), (.int 2526 0), (.int 134 0), (.str (Str.ofString "/claim/cut.py") 2527)].toArray, #[]⟩
noncomputable def o191 (_ : Params) : Obj := ⟨(.type "function"), none, .func ⟨(Str.ofString "_law_parked"), (Str.ofString "_law_parked"), fnP 24, .stmts (fnB 24), fnS 24, 3, [], .none, .none, .none, (.str (Str.ofString "law_ty0053_01") 2498), none, (.ref 190), .none, 0⟩, #[]⟩
noncomputable def o192 (_ : Params) : Obj := ⟨(.type "tuple"), none, .seq [].toArray 0, #[]⟩
noncomputable def o193 (_ : Params) : Obj := ⟨.none, none, .fields [].toArray, #[]⟩
noncomputable def o194 (_ : Params) : Obj := ⟨(.type "tuple"), none, .seq [(.str (Str.ofString "rows") 2532), (.str (Str.ofString "parts") 2533), (.str (Str.ofString "way") 2534), (.str (Str.ofString "row") 2535), (.str (Str.ofString "joins") 2536), (.str (Str.ofString "first") 2537)].toArray 0, #[]⟩
noncomputable def o195 (_ : Params) : Obj := ⟨(.type "tuple"), none, .seq [].toArray 0, #[]⟩
noncomputable def o196 (_ : Params) : Obj := ⟨.none, none, .func ⟨(Str.ofString "_law_described"), (Str.ofString "_law_described"), fnP 25, .stmts (fnB 25), fnS 25, 0, [], .none, .none, .none, .none, none, .none, .none, 0⟩, #[]⟩
noncomputable def o197 (_ : Params) : Obj := ⟨(.type "code"), none, .fields [(.str (Str.ofString "_law_described") 2529), (.str (Str.ofString "_law_described") 2530), (.str (Str.ofString "/claim/cut.py") 2531), (.int 153 0), (.int 1 0), (.int 0 0), (.int 0 0), (.int 3 0), (.ref 192), (.bool true), (.int 276 0), (.ref 193), .none, (.ref 194), (.ref 195), (.ref 196), (.int 2538 0), (.int 153 0), (.str (Str.ofString "/claim/cut.py") 2539)].toArray, #[]⟩
noncomputable def o198 (_ : Params) : Obj := ⟨(.type "function"), none, .func ⟨(Str.ofString "_law_described"), (Str.ofString "_law_described"), fnP 25, .stmts (fnB 25), fnS 25, 3, [], .none, .none, .none, (.str (Str.ofString "law_ty0053_01") 2498), none, (.ref 197), .none, 0⟩, #[]⟩
noncomputable def o199 (_ : Params) : Obj := ⟨(.type "tuple"), none, .seq [].toArray 0, #[]⟩
noncomputable def o200 (_ : Params) : Obj := ⟨.none, none, .fields [].toArray, #[]⟩
noncomputable def o201 (_ : Params) : Obj := ⟨.none, none, .func ⟨(Str.ofString "law"), (Str.ofString "law"), fnP 26, .stmts (fnB 26), fnS 26, 0, [], .none, .none, .none, .none, none, .none, .none, 0⟩, #[]⟩
noncomputable def o202 (_ : Params) : Obj := ⟨(.type "code"), none, .fields [(.str (Str.ofString "law") 2541), (.str (Str.ofString "law") 2542), (.str (Str.ofString "/claim/cut.py") 2543), (.int 167 0), (.int 1 0), (.int 0 0), (.int 0 0), (.int 3 0), (.ref 199), (.bool true), (.int 276 0), (.ref 200), .none, .none, .none, (.ref 201), (.int 2544 0), (.int 167 0), (.str (Str.ofString "/claim/cut.py") 2545)].toArray, #[]⟩
noncomputable def o203 (_ : Params) : Obj := ⟨(.type "function"), none, .func ⟨(Str.ofString "law"), (Str.ofString "law"), fnP 26, .stmts (fnB 26), fnS 26, 3, [], .none, .none, .none, (.str (Str.ofString "law_ty0053_01") 2498), none, (.ref 202), .none, 0⟩, #[]⟩
noncomputable def mainAll (P : Params) (nm : Value) : List DictEntry := [
  ⟨PyData.keyHash P (Str.ofString "__name__"), (.str (Str.ofString "__name__") 165), nm⟩,
  ⟨PyData.keyHash P (Str.ofString "__doc__"), (.str (Str.ofString "__doc__") 166), .none⟩,
  ⟨PyData.keyHash P (Str.ofString "__package__"), (.str (Str.ofString "__package__") 167), .none⟩,
  ⟨PyData.keyHash P (Str.ofString "__loader__"), (.str (Str.ofString "__loader__") 168), (.builtin "__main__.__loader__#opaque")⟩,
  ⟨PyData.keyHash P (Str.ofString "__spec__"), (.str (Str.ofString "__spec__") 169), .none⟩,
  ⟨PyData.keyHash P (Str.ofString "__annotations__"), (.str (Str.ofString "__annotations__") 170), (.ref 6)⟩,
  ⟨PyData.keyHash P (Str.ofString "__builtins__"), (.str (Str.ofString "__builtins__") 171), (.ref 4)⟩,
  ⟨PyData.keyHash P (Str.ofString "__file__"), (.str (Str.ofString "__file__") 173), (.str (Str.ofString "/claim/cut.py") 172)⟩,
  ⟨PyData.keyHash P (Str.ofString "__cached__"), (.str (Str.ofString "__cached__") 174), .none⟩,
  ⟨PyData.keyHash P (Str.ofString "_sre"), (.str (Str.ofString "_sre") 275), (.ref 12)⟩,
  ⟨PyData.keyHash P (Str.ofString "bisect_right"), (.str (Str.ofString "bisect_right") 297), (.ref 40)⟩,
  ⟨PyData.keyHash P (Str.ofString "insort_left"), (.str (Str.ofString "insort_left") 310), (.ref 49)⟩,
  ⟨PyData.keyHash P (Str.ofString "bisect_left"), (.str (Str.ofString "bisect_left") 324), (.ref 58)⟩,
  ⟨PyData.keyHash P (Str.ofString "rgb_to_hsv"), (.str (Str.ofString "rgb_to_hsv") 344), (.ref 65)⟩,
  ⟨PyData.keyHash P (Str.ofString "hsv_to_rgb"), (.str (Str.ofString "hsv_to_rgb") 358), (.ref 72)⟩,
  ⟨PyData.keyHash P (Str.ofString "_twin_re_1"), (.str (Str.ofString "_twin_re_1") 376), (.ref 77)⟩,
  ⟨PyData.keyHash P (Str.ofString "_twin_re_2"), (.str (Str.ofString "_twin_re_2") 418), (.ref 82)⟩,
  ⟨PyData.keyHash P (Str.ofString "CRLF"), (.str (Str.ofString "CRLF") 420), (.str (Str.ofString "\x0d\x0a") 419)⟩,
  ⟨PyData.keyHash P (Str.ofString "quotedata"), (.str (Str.ofString "quotedata") 427), (.ref 89)⟩,
  ⟨PyData.keyHash P (Str.ofString "_fix_eols"), (.str (Str.ofString "_fix_eols") 434), (.ref 96)⟩,
  ⟨PyData.keyHash P (Str.ofString "b1_set"), (.str (Str.ofString "b1_set") 496), (.ref 104)⟩,
  ⟨PyData.keyHash P (Str.ofString "in_table_b1"), (.str (Str.ofString "in_table_b1") 503), (.ref 114)⟩,
  ⟨PyData.keyHash P (Str.ofString "b3_exceptions"), (.str (Str.ofString "b3_exceptions") 2454), (.ref 115)⟩,
  ⟨PyData.keyHash P (Str.ofString "map_table_b3"), (.str (Str.ofString "map_table_b3") 2462), (.ref 160)⟩,
  ⟨PyData.keyHash P (Str.ofString "c7_set"), (.str (Str.ofString "c7_set") 2490), (.ref 162)⟩,
  ⟨PyData.keyHash P (Str.ofString "in_table_c7"), (.str (Str.ofString "in_table_c7") 2497), (.ref 172)⟩,
  ⟨PyData.keyHash P (Str.ofString "_law_spelled"), (.str (Str.ofString "_law_spelled") 2510), (.ref 179)⟩,
  ⟨PyData.keyHash P (Str.ofString "_law_sweep"), (.str (Str.ofString "_law_sweep") 2522), (.ref 186)⟩,
  ⟨PyData.keyHash P (Str.ofString "_law_parked"), (.str (Str.ofString "_law_parked") 2528), (.ref 191)⟩,
  ⟨PyData.keyHash P (Str.ofString "_law_described"), (.str (Str.ofString "_law_described") 2540), (.ref 198)⟩,
  ⟨PyData.keyHash P (Str.ofString "law"), (.str (Str.ofString "law") 2546), (.ref 203)⟩]
noncomputable def tabAll : List Value := [(.int 3 0), (.int 0 0), (.ref 39), (.int 23 0), (.int 0 0), (.ref 48), (.int 29 0), (.int 0 0), (.ref 57), (.int 50 0), (.int 0 0), (.ref 64), (.int 69 0), (.int 0 0), (.ref 71), (.int 94 0), (.int 0 0), (.ref 88), (.int 96 0), (.int 0 0), (.ref 95), (.int 100 0), (.int 0 0), (.ref 113), (.int 103 0), (.int 0 0), (.ref 159), (.int 109 0), (.int 0 0), (.ref 171), (.int 112 0), (.int 0 0), (.ref 178), (.int 122 0), (.int 0 0), (.ref 185), (.int 134 0), (.int 0 0), (.ref 190), (.int 153 0), (.int 0 0), (.ref 197), (.int 167 0), (.int 0 0), (.ref 202)]

noncomputable def dictPairs : Stmt → List (PySem.Expr × PySem.Expr)
  | .Assign _ (.Dict ks vs _) _ => (ks.filterMap id).zip vs
  | _ => []
noncomputable abbrev XP := PySem.Expr × PySem.Expr
noncomputable def cst : XP → Option (Int × Str)
  | (.Constant (.int i) _ _, .Constant (.str v) _ _) => some (i, v)
  | _ => none
noncomputable def xsAll : List XP := dictPairs (stAt 17)
noncomputable def b3Raw : List (Int × Str) := xsAll.filterMap cst
noncomputable def entsFrom (tk : Nat) : List (Int × Str) → List DictEntry
  | [] => []
  | (i, v) :: r => ⟨i, .int i tk, .str v (tk + 1)⟩ :: entsFrom (tk + 3) r
noncomputable def entsFrom2 (tk : Nat) : List (Int × Str) → List DictEntry
  | [] => []
  | (i, v) :: r => ⟨i, .int i tk, .str v (tk + 1)⟩ :: entsFrom2 (tk + 2) r
noncomputable abbrev dOf (es : Array DictEntry) (ep : Nat) : Obj := ⟨.type "dict", none, .dict es ep, #[]⟩
noncomputable def dObj (es : List DictEntry) : Obj := dOf es.toArray es.length
noncomputable def b3All : List DictEntry := entsFrom 504 (b3Raw.take 646) ++ entsFrom2 2442 (b3Raw.drop 646)
noncomputable def oSub (j : Nat) : Obj := if j < 38 then dObj (entsFrom (504 + 51 * j) ((b3Raw.drop (17 * j)).take 17)) else dObj (entsFrom2 2442 (b3Raw.drop 646))
noncomputable def mainObj (P : Params) (nm : Value) (k : Nat) : Obj := ⟨.type "dict", none, .dict ((mainAll P nm).take k).toArray k, #[]⟩
noncomputable def tabsObj (k : Nat) : Obj := ⟨.none, none, .fields (tabAll.take k).toArray, #[]⟩
noncomputable def TF (P : Params) (m t b : Obj) : BT := (BT.node (o0 P) (BT.node (o1 P) (BT.node m (BT.node (o7 P) (BT.node (o15 P) (BT.node (o31 P) (BT.node (o63 P) (BT.node (oSub 12) BT.nil BT.nil) (BT.node (o191 P) BT.nil BT.nil)) (BT.node (o95 P) (BT.node (o159 P) BT.nil BT.nil) BT.nil)) (BT.node (o47 P) (BT.node (o79 P) (BT.node (oSub 28) BT.nil BT.nil) BT.nil) (BT.node (o111 P) (BT.node (o175 P) BT.nil BT.nil) BT.nil))) (BT.node (o23 P) (BT.node (o39 P) (BT.node (o71 P) (BT.node (oSub 20) BT.nil BT.nil) (BT.node (o199 P) BT.nil BT.nil)) (BT.node (o103 P) (BT.node (o167 P) BT.nil BT.nil) BT.nil)) (BT.node (o55 P) (BT.node (o87 P) (BT.node (oSub 36) BT.nil BT.nil) BT.nil) (BT.node (oSub 4) (BT.node (o183 P) BT.nil BT.nil) BT.nil)))) (BT.node (o11 P) (BT.node (o19 P) (BT.node (o35 P) (BT.node (o67 P) (BT.node (oSub 16) BT.nil BT.nil) (BT.node (o195 P) BT.nil BT.nil)) (BT.node (o99 P) (BT.node (o163 P) BT.nil BT.nil) BT.nil)) (BT.node (o51 P) (BT.node (o83 P) (BT.node (oSub 32) BT.nil BT.nil) BT.nil) (BT.node b (BT.node (o179 P) BT.nil BT.nil) BT.nil))) (BT.node (o27 P) (BT.node (o43 P) (BT.node (o75 P) (BT.node (oSub 24) BT.nil BT.nil) (BT.node (o203 P) BT.nil BT.nil)) (BT.node (o107 P) (BT.node (o171 P) BT.nil BT.nil) BT.nil)) (BT.node (o59 P) (BT.node (o91 P) (BT.node (o155 P) BT.nil BT.nil) BT.nil) (BT.node (oSub 8) (BT.node (o187 P) BT.nil BT.nil) BT.nil))))) (BT.node (o5 P) (BT.node (o9 P) (BT.node (o17 P) (BT.node (o33 P) (BT.node (o65 P) (BT.node (oSub 14) BT.nil BT.nil) (BT.node (o193 P) BT.nil BT.nil)) (BT.node (o97 P) (BT.node (o161 P) BT.nil BT.nil) BT.nil)) (BT.node (o49 P) (BT.node (o81 P) (BT.node (oSub 30) BT.nil BT.nil) BT.nil) (BT.node (o113 P) (BT.node (o177 P) BT.nil BT.nil) BT.nil))) (BT.node (o25 P) (BT.node (o41 P) (BT.node (o73 P) (BT.node (oSub 22) BT.nil BT.nil) (BT.node (o201 P) BT.nil BT.nil)) (BT.node (o105 P) (BT.node (o169 P) BT.nil BT.nil) BT.nil)) (BT.node (o57 P) (BT.node (o89 P) (BT.node (oSub 38) BT.nil BT.nil) BT.nil) (BT.node (oSub 6) (BT.node (o185 P) BT.nil BT.nil) BT.nil)))) (BT.node (o13 P) (BT.node (o21 P) (BT.node (o37 P) (BT.node (o69 P) (BT.node (oSub 18) BT.nil BT.nil) (BT.node (o197 P) BT.nil BT.nil)) (BT.node (o101 P) (BT.node (o165 P) BT.nil BT.nil) BT.nil)) (BT.node (o53 P) (BT.node (o85 P) (BT.node (oSub 34) BT.nil BT.nil) BT.nil) (BT.node (oSub 2) (BT.node (o181 P) BT.nil BT.nil) BT.nil))) (BT.node t (BT.node (o45 P) (BT.node (o77 P) (BT.node (oSub 26) BT.nil BT.nil) BT.nil) (BT.node (o109 P) (BT.node (o173 P) BT.nil BT.nil) BT.nil)) (BT.node (o61 P) (BT.node (o93 P) (BT.node (o157 P) BT.nil BT.nil) BT.nil) (BT.node (oSub 10) (BT.node (o189 P) BT.nil BT.nil) BT.nil)))))) (BT.node (o2 P) (BT.node (o4 P) (BT.node (o8 P) (BT.node (o16 P) (BT.node (o32 P) (BT.node (o64 P) (BT.node (oSub 13) BT.nil BT.nil) (BT.node (o192 P) BT.nil BT.nil)) (BT.node (o96 P) (BT.node (o160 P) BT.nil BT.nil) BT.nil)) (BT.node (o48 P) (BT.node (o80 P) (BT.node (oSub 29) BT.nil BT.nil) BT.nil) (BT.node (o112 P) (BT.node (o176 P) BT.nil BT.nil) BT.nil))) (BT.node (o24 P) (BT.node (o40 P) (BT.node (o72 P) (BT.node (oSub 21) BT.nil BT.nil) (BT.node (o200 P) BT.nil BT.nil)) (BT.node (o104 P) (BT.node (o168 P) BT.nil BT.nil) BT.nil)) (BT.node (o56 P) (BT.node (o88 P) (BT.node (oSub 37) BT.nil BT.nil) BT.nil) (BT.node (oSub 5) (BT.node (o184 P) BT.nil BT.nil) BT.nil)))) (BT.node (o12 P) (BT.node (o20 P) (BT.node (o36 P) (BT.node (o68 P) (BT.node (oSub 17) BT.nil BT.nil) (BT.node (o196 P) BT.nil BT.nil)) (BT.node (o100 P) (BT.node (o164 P) BT.nil BT.nil) BT.nil)) (BT.node (o52 P) (BT.node (o84 P) (BT.node (oSub 33) BT.nil BT.nil) BT.nil) (BT.node (oSub 1) (BT.node (o180 P) BT.nil BT.nil) BT.nil))) (BT.node (o28 P) (BT.node (o44 P) (BT.node (o76 P) (BT.node (oSub 25) BT.nil BT.nil) BT.nil) (BT.node (o108 P) (BT.node (o172 P) BT.nil BT.nil) BT.nil)) (BT.node (o60 P) (BT.node (o92 P) (BT.node (o156 P) BT.nil BT.nil) BT.nil) (BT.node (oSub 9) (BT.node (o188 P) BT.nil BT.nil) BT.nil))))) (BT.node (o6 P) (BT.node (o10 P) (BT.node (o18 P) (BT.node (o34 P) (BT.node (o66 P) (BT.node (oSub 15) BT.nil BT.nil) (BT.node (o194 P) BT.nil BT.nil)) (BT.node (o98 P) (BT.node (o162 P) BT.nil BT.nil) BT.nil)) (BT.node (o50 P) (BT.node (o82 P) (BT.node (oSub 31) BT.nil BT.nil) BT.nil) (BT.node (o114 P) (BT.node (o178 P) BT.nil BT.nil) BT.nil))) (BT.node (o26 P) (BT.node (o42 P) (BT.node (o74 P) (BT.node (oSub 23) BT.nil BT.nil) (BT.node (o202 P) BT.nil BT.nil)) (BT.node (o106 P) (BT.node (o170 P) BT.nil BT.nil) BT.nil)) (BT.node (o58 P) (BT.node (o90 P) (BT.node (o154 P) BT.nil BT.nil) BT.nil) (BT.node (oSub 7) (BT.node (o186 P) BT.nil BT.nil) BT.nil)))) (BT.node (o14 P) (BT.node (o22 P) (BT.node (o38 P) (BT.node (o70 P) (BT.node (oSub 19) BT.nil BT.nil) (BT.node (o198 P) BT.nil BT.nil)) (BT.node (o102 P) (BT.node (o166 P) BT.nil BT.nil) BT.nil)) (BT.node (o54 P) (BT.node (o86 P) (BT.node (oSub 35) BT.nil BT.nil) BT.nil) (BT.node (oSub 3) (BT.node (o182 P) BT.nil BT.nil) BT.nil))) (BT.node (o30 P) (BT.node (o46 P) (BT.node (o78 P) (BT.node (oSub 27) BT.nil BT.nil) BT.nil) (BT.node (o110 P) (BT.node (o174 P) BT.nil BT.nil) BT.nil)) (BT.node (o62 P) (BT.node (o94 P) (BT.node (o158 P) BT.nil BT.nil) BT.nil) (BT.node (oSub 11) (BT.node (o190 P) BT.nil BT.nil) BT.nil)))))))
noncomputable def life0 : Life := {}
noncomputable def stT (P : Params) (n tk : Nat) (nm : Value) (mk tb : Nat) (b : Obj) (os : OsState) : SharedT := ⟨TF P (mainObj P nm mk) (tabsObj tb) b, n, life0, #[], {}, tk, os⟩
noncomputable def env0 : Env := { scope := pw.main.scope, locals := mainNs, globals := mainNs, cells := [], code := .ref 30, frame := some 31 }
noncomputable def cE : Code := .body (behindTheImports pw) env0
noncomputable def q0 : Pos := default
noncomputable def B0 : List Frame := [topFrame q0]
noncomputable def ann0 : Option Value := some (.ref 6)
noncomputable def bAll : Obj := dObj b3All
noncomputable def S0 (w : World) (os : OsState) : SharedT := stT w.params 28 276 (.str (Str.ofString "__main__") 164) 10 0 bAll os
noncomputable def p0 : Pos := ⟨0, 0, 0, 0⟩
noncomputable def S1 (w : World) (os : OsState) : SharedT := stT w.params 32 282 (.str (Str.ofString "__main__") 164) 10 0 bAll os
noncomputable def p1 : Pos := ⟨0, 0, 0, 0⟩
noncomputable def S2 (w : World) (os : OsState) : SharedT := stT w.params 32 282 (.str (Str.ofString "__main__") 164) 10 0 bAll os
noncomputable def p2 : Pos := ⟨0, 0, 0, 0⟩
noncomputable def S3 (w : World) (os : OsState) : SharedT := stT w.params 32 284 (.str (Str.ofString "cpy313.bisect") 282) 10 0 bAll os
noncomputable def p3 : Pos := ⟨2, 0, 2, 8⟩
noncomputable def S4 (w : World) (os : OsState) : SharedT := stT w.params 41 298 (.str (Str.ofString "cpy313.bisect") 282) 11 3 bAll os
noncomputable def p4 : Pos := ⟨3, 0, 22, 13⟩
noncomputable def S5 (w : World) (os : OsState) : SharedT := stT w.params 50 311 (.str (Str.ofString "cpy313.bisect") 282) 12 6 bAll os
noncomputable def p5 : Pos := ⟨23, 0, 28, 19⟩
noncomputable def S6 (w : World) (os : OsState) : SharedT := stT w.params 59 325 (.str (Str.ofString "cpy313.bisect") 282) 13 9 bAll os
noncomputable def p6 : Pos := ⟨29, 0, 48, 13⟩
noncomputable def S7 (w : World) (os : OsState) : SharedT := stT w.params 59 327 (.str (Str.ofString "cpy313.colorsys") 325) 13 9 bAll os
noncomputable def p7 : Pos := ⟨49, 0, 49, 8⟩
noncomputable def S8 (w : World) (os : OsState) : SharedT := stT w.params 66 345 (.str (Str.ofString "cpy313.colorsys") 325) 14 12 bAll os
noncomputable def p8 : Pos := ⟨50, 0, 68, 20⟩
noncomputable def S9 (w : World) (os : OsState) : SharedT := stT w.params 73 359 (.str (Str.ofString "cpy313.colorsys") 325) 15 15 bAll os
noncomputable def p9 : Pos := ⟨69, 0, 89, 24⟩
noncomputable def S10 (w : World) (os : OsState) : SharedT := stT w.params 73 361 (.str (Str.ofString "cpy313.smtplib") 359) 15 15 bAll os
noncomputable def p10 : Pos := ⟨90, 0, 90, 8⟩
noncomputable def S11 (w : World) (os : OsState) : SharedT := stT w.params 78 377 (.str (Str.ofString "cpy313.smtplib") 359) 16 15 bAll os
noncomputable def p11 : Pos := ⟨91, 0, 91, 10⟩
noncomputable def S12 (w : World) (os : OsState) : SharedT := stT w.params 83 419 (.str (Str.ofString "cpy313.smtplib") 359) 17 15 bAll os
noncomputable def p12 : Pos := ⟨92, 0, 92, 10⟩
noncomputable def S13 (w : World) (os : OsState) : SharedT := stT w.params 83 421 (.str (Str.ofString "cpy313.smtplib") 359) 18 15 bAll os
noncomputable def p13 : Pos := ⟨93, 0, 93, 4⟩
noncomputable def S14 (w : World) (os : OsState) : SharedT := stT w.params 90 428 (.str (Str.ofString "cpy313.smtplib") 359) 19 18 bAll os
noncomputable def p14 : Pos := ⟨94, 0, 95, 59⟩
noncomputable def S15 (w : World) (os : OsState) : SharedT := stT w.params 97 435 (.str (Str.ofString "cpy313.smtplib") 359) 20 21 bAll os
noncomputable def p15 : Pos := ⟨96, 0, 97, 37⟩
noncomputable def S16 (w : World) (os : OsState) : SharedT := stT w.params 97 437 (.str (Str.ofString "cpy313.stringprep") 435) 20 21 bAll os
noncomputable def p16 : Pos := ⟨98, 0, 98, 8⟩
noncomputable def S17 (w : World) (os : OsState) : SharedT := stT w.params 108 497 (.str (Str.ofString "cpy313.stringprep") 435) 21 21 bAll os
noncomputable def p17 : Pos := ⟨99, 0, 99, 6⟩
noncomputable def S18 (w : World) (os : OsState) : SharedT := stT w.params 115 504 (.str (Str.ofString "cpy313.stringprep") 435) 22 24 bAll os
noncomputable def p18 : Pos := ⟨100, 0, 101, 30⟩
noncomputable def S19 (w : World) (os : OsState) : SharedT := stT w.params 154 2455 (.str (Str.ofString "cpy313.stringprep") 435) 23 24 bAll os
noncomputable def p19 : Pos := ⟨102, 0, 102, 13⟩
noncomputable def S20 (w : World) (os : OsState) : SharedT := stT w.params 161 2463 (.str (Str.ofString "cpy313.stringprep") 435) 24 27 bAll os
noncomputable def p20 : Pos := ⟨103, 0, 107, 23⟩
noncomputable def S21 (w : World) (os : OsState) : SharedT := stT w.params 166 2491 (.str (Str.ofString "cpy313.stringprep") 435) 25 27 bAll os
noncomputable def p21 : Pos := ⟨108, 0, 108, 6⟩
noncomputable def S22 (w : World) (os : OsState) : SharedT := stT w.params 173 2498 (.str (Str.ofString "cpy313.stringprep") 435) 26 30 bAll os
noncomputable def p22 : Pos := ⟨109, 0, 110, 30⟩
noncomputable def S23 (w : World) (os : OsState) : SharedT := stT w.params 173 2500 (.str (Str.ofString "law_ty0053_01") 2498) 26 30 bAll os
noncomputable def p23 : Pos := ⟨111, 0, 111, 8⟩
noncomputable def S24 (w : World) (os : OsState) : SharedT := stT w.params 180 2511 (.str (Str.ofString "law_ty0053_01") 2498) 27 33 bAll os
noncomputable def p24 : Pos := ⟨112, 0, 121, 15⟩
noncomputable def S25 (w : World) (os : OsState) : SharedT := stT w.params 187 2523 (.str (Str.ofString "law_ty0053_01") 2498) 28 36 bAll os
noncomputable def p25 : Pos := ⟨122, 0, 133, 22⟩
noncomputable def S26 (w : World) (os : OsState) : SharedT := stT w.params 192 2529 (.str (Str.ofString "law_ty0053_01") 2498) 29 39 bAll os
noncomputable def p26 : Pos := ⟨134, 0, 152, 52⟩
noncomputable def S27 (w : World) (os : OsState) : SharedT := stT w.params 199 2541 (.str (Str.ofString "law_ty0053_01") 2498) 30 42 bAll os
noncomputable def p27 : Pos := ⟨153, 0, 166, 29⟩
noncomputable def S28 (w : World) (os : OsState) : SharedT := stT w.params 204 2547 (.str (Str.ofString "law_ty0053_01") 2498) 31 45 bAll os
noncomputable def p28 : Pos := ⟨167, 0, 213, 15⟩
end Mine

end PartHD

section FlushD1
open PySem PySem.W PyProof.Rows PySem.Calls
namespace Mine
theorem start_D1 {prog : Program} {w : World} {A : Around} {E : Value → Shared → Prop} {s : Shared} {env : Env} {Q : Flow → Shared → Prop} (h : wpAny (model prog w) A (execs [] env) Q E s) : wpAny (model prog w) A (execs [] env) Q E s := by
  w_top off
  first | (walk1; fail) | exact h
end Mine
end FlushD1
section PartD1
open PySem PySem.W PyProof.Rows
namespace Mine
noncomputable abbrev Itm := Option (Sem Value) × Sem Value
noncomputable abbrev Sig := Option Addr × List (Sem Value × Sem Value)
noncomputable def dlP : {x : (Itm → Sig → Sem (ForInStep Sig)) × (Sig → Sem Value) // ∀ items : List Itm, dictDisplay items = forIn items ((none, []) : Sig) x.1 >>= x.2} := ⟨(_, _), fun _ => rfl⟩
noncomputable def dlB := dlP.1.1
noncomputable def dlF := dlP.1.2
theorem dl_eq (items : List Itm) : dictDisplay items = forIn items ((none, []) : Sig) dlB >>= dlF := dlP.2 items
theorem dlB_more (m : Option Addr) (run : List (Sem Value × Sem Value)) (k v : Sem Value) (h : ((run ++ [(k, v)]).length == 17) = false) : dlB (some k, v) (m, run) = pure (.yield (m, run ++ [(k, v)])) := by
  unfold dlB dlP
  simp only [h]
  rfl
theorem gath (m : Option Addr) (c : List (Sem Value × Sem Value)) (rest : List Itm) : ∀ run : List (Sem Value × Sem Value), run.length + c.length < 17 →
    forIn (c.map (fun p => ((some p.1, p.2) : Itm)) ++ rest) ((m, run) : Sig) dlB = forIn rest ((m, run ++ c) : Sig) dlB := by
  induction c with
  | nil => intro run _; simp
  | cons p c ih =>
    intro run h
    rw [List.map_cons, List.cons_append, List.forIn_cons, dlB_more _ _ _ _ (by simp at h ⊢; omega), pure_bind]
    show forIn _ _ _ = _
    rw [ih (run ++ [(p.1, p.2)]) (by simp at h ⊢; omega)]
    simp
noncomputable def dPos : Pos := match stAt 17 with | .Assign _ (.Dict _ _ p) _ => p | _ => default
noncomputable def toItm (p : Sem Value × Sem Value) : Itm := (some p.1, p.2)
end Mine

end PartD1

section FlushD5
open PySem PySem.W PyProof.Rows PySem.Calls
namespace Mine
theorem start_D5 {prog : Program} {w : World} {A : Around} {E : Value → Shared → Prop} {s : Shared} {env : Env} {Q : Flow → Shared → Prop} (h : wpAny (model prog w) A (execs [] env) Q E s) : wpAny (model prog w) A (execs [] env) Q E s := by
  w_top off
  first | (walk1; fail) | exact h
end Mine
end FlushD5
section PartD5
open PySem PySem.W PyProof.Rows
namespace Mine
noncomputable abbrev go (w : World) (n : Nat) (s : Shared) (t : Thread) : Option (Shared × Thread) := segGo treeTable pw w 28 ann0 1 n s t
theorem go_step {w : World} {n : Nat} {s s' : Shared} {t t' : Thread} (he : endAt 1 t = none) (hk : stepOk 28 ann0 t = true) (hs : step (denote treeTable) pw w s t = .go s' t') : go w (n + 1) s t = go w n s' t' := by
  show segGo treeTable pw w 28 ann0 1 (n + 1) s t = _
  rw [segGo, he, hk, hs]
theorem go_add {w : World} : ∀ {n m : Nat} {s s1 : Shared} {t t1 : Thread}, go w n s t = some (s1, t1) → go w (n + m) s t = go w m s1 t1
  | 0, m, s, s1, t, t1, h => by
    obtain ⟨rfl, rfl⟩ : s = s1 ∧ t = t1 := by simpa [go, segGo] using h
    rw [Nat.zero_add]
  | n + 1, m, s, s1, t, t1, h => by
    have h0 : segGo treeTable pw w 28 ann0 1 (n + 1) s t = some (s1, t1) := h
    rw [segGo] at h0
    cases he : endAt 1 t with
    | some f => rw [he] at h0; cases h0
    | none =>
      rw [he] at h0
      cases hk : stepOk 28 ann0 t with
      | false => rw [hk] at h0; cases h0
      | true =>
        rw [hk] at h0
        cases hs : step (denote treeTable) pw w s t with
        | halt o s' => rw [hs] at h0; cases h0
        | go s' t' =>
          rw [hs] at h0
          rw [show n + 1 + m = n + m + 1 by omega, go_step he hk hs]
          exact go_add h0

section
variable {w : World} {n : Nat} {h : Heap} {g : Array GenState} {dr : Drawn} {tk : Nat} {os : OsState} {pos : Pos} {α : Type}
theorem go_load {a : Addr} {q : Option Value} {k : Obj → Sem Fin} {o : Obj} (ho : h.get? a = some o) :
    go w (n + 1) ⟨h, g, dr, tk, os⟩ ⟨.load a q k, cE, pos, B0⟩ = go w n ⟨h, g, dr, tk, os⟩ ⟨k o, cE, pos, B0⟩ := by
  refine go_step rfl rfl ?_
  show (match h.get? a with | some o => _ | none => _) = _
  rw [ho]
theorem go_update {a : Addr} {q : Option Value} {f : Obj → Obj} {k : Unit → Sem Fin} {o : Obj} (ho : h.get? a = some o) (h28 : Nat.ble 28 a = true) :
    go w (n + 1) ⟨h, g, dr, tk, os⟩ ⟨.update a q f k, cE, pos, B0⟩ = go w n ⟨h.update a f, g, dr, tk, os⟩ ⟨k (), cE, pos, B0⟩ := by
  refine go_step rfl ?_ ?_
  · show (true && (Nat.ble 28 a || a == mainNs || a == cStatics || ann0 == some (.ref a))) = true
    rw [h28]; rfl
  · show (if (h.get? a).isSome = true then _ else _) = _
    rw [ho]; rfl
theorem go_rule {r : String} {k : Unit → Sem Fin} : go w (n + 1) ⟨h, g, dr, tk, os⟩ ⟨.rule r k, cE, pos, B0⟩ = go w n ⟨h, g, dr, tk, os⟩ ⟨k (), cE, pos, B0⟩ := rfl
theorem go_alloc {o : Obj} {k : Addr → Sem Fin} : go w (n + 1) ⟨h, g, dr, tk, os⟩ ⟨.alloc o k, cE, pos, B0⟩ = go w n ⟨h.push o, g, dr, tk, os⟩ ⟨k h.objs.size, cE, pos, B0⟩ := rfl
end
noncomputable def noKey (es : Array DictEntry) (x : Int) : Prop := PySem.placesWithHash es.size (fun j => es[j]?.map (·.hash)) x = []
section
variable {w : World} {n : Nat} {h : Heap} {g : Array GenState} {dr : Drawn} {tk : Nat} {os : OsState} {pos : Pos} {gd : Bool → Bool} {lv : List Value → List Value}

theorem go_keysTo {d : Addr} {q : Option Value} {es : Array DictEntry} {ep : Nat} {f : Array DictEntry → Array DictEntry} {K : Unit → Sem Fin} {H : Value → Sem Fin}
    (hd : h.get? d = some (dOf es ep)) (h28 : Nat.ble 28 d = true) (hz : (f es).size ≤ 1000) :
    go w (n + 3) ⟨h, g, dr, tk, os⟩ ⟨(updateDictKeys d f q).wrap K H gd lv, cE, pos, B0⟩ = go w n ⟨h.update d (Obj.mapDictKeys f), g, dr, tk, os⟩ ⟨K (), cE, pos, B0⟩ := by
  have hp : (Data.dict (f es) (ep + 1)).pastItsLine = none := pastItsLine_dict (by rw [sizeLine_eq]; omega)
  have hd' : (h.update d (Obj.mapDictKeys f)).get? d = some (dOf (f es) (ep + 1)) := Heap.get?_update_self (Obj.mapDictKeys f) hd rfl
  have e1 : go w (n + 3) ⟨h, g, dr, tk, os⟩ ⟨(updateDictKeys d f q).wrap K H gd lv, cE, pos, B0⟩ = go w (n + 2) ⟨h, g, dr, tk, os⟩ ⟨((updatePart d q (Obj.mapDictKeys f)).bind fun _ => lookBehind d q).wrap K H gd lv, cE, pos, B0⟩ := go_load hd
  rw [e1]
  have e2 : go w (n + 2) ⟨h, g, dr, tk, os⟩ ⟨((updatePart d q (Obj.mapDictKeys f)).bind fun _ => lookBehind d q).wrap K H gd lv, cE, pos, B0⟩ = go w (n + 1) ⟨h.update d (Obj.mapDictKeys f), g, dr, tk, os⟩ ⟨(lookBehind d q).wrap K H gd lv, cE, pos, B0⟩ := go_update hd h28
  rw [e2]
  refine (go_load hd').trans ?_
  have e3 : ((match (dOf (f es) (ep + 1)).data.pastItsLine with | some what => unsupported what | _ => pure PUnit.unit) : Sem Unit) = pure PUnit.unit := by
    show ((match (Data.dict (f es) (ep + 1)).pastItsLine with | some what => unsupported what | _ => pure PUnit.unit) : Sem Unit) = _
    rw [hp]
  show go w n _ ⟨(((match (dOf (f es) (ep + 1)).data.pastItsLine with | some what => unsupported what | _ => pure PUnit.unit) : Sem Unit)).wrap K H gd lv, cE, pos, B0⟩ = _
  rw [e3]
  rfl
end
end Mine

end PartD5

section FlushD6
open PySem PySem.W PyProof.Rows PySem.Calls
namespace Mine
theorem start_D6 {prog : Program} {w : World} {A : Around} {E : Value → Shared → Prop} {s : Shared} {env : Env} {Q : Flow → Shared → Prop} (h : wpAny (model prog w) A (execs [] env) Q E s) : wpAny (model prog w) A (execs [] env) Q E s := by
  w_top off
  first | (walk1; fail) | exact h
end Mine
end FlushD6
section PartD6
open PySem PySem.W PyProof.Rows
namespace Mine
theorem find_parts (d : Addr) (i : Int) (t : Tok) (x : Int) : ∃ F : Array DictEntry → Sem (Option Nat), dictFind d (.int i t) x = (dictEntries d (keyPart (.int i t))).bind F ∧ ∀ es, noKey es x → F es = Sem.pure none := by
  refine ⟨_, rfl, fun es h => ?_⟩
  unfold noKey at h
  simp only [h]
  rfl
section
variable {w : World} {n : Nat} {h : Heap} {g : Array GenState} {dr : Drawn} {tk : Nat} {os : OsState} {pos : Pos} {gd : Bool → Bool} {lv : List Value → List Value}
theorem go_entries {d : Addr} {q : Option Value} {es : Array DictEntry} {ep : Nat} {K : Array DictEntry → Sem Fin} {H : Value → Sem Fin} (hd : h.get? d = some (dOf es ep)) :
    go w (n + 1) ⟨h, g, dr, tk, os⟩ ⟨(dictEntries d q).wrap K H gd lv, cE, pos, B0⟩ = go w n ⟨h, g, dr, tk, os⟩ ⟨K es, cE, pos, B0⟩ := go_load hd
theorem go_epoch {d : Addr} {q : Option Value} {es : Array DictEntry} {ep : Nat} {K : Nat → Sem Fin} {H : Value → Sem Fin} (hd : h.get? d = some (dOf es ep)) :
    go w (n + 1) ⟨h, g, dr, tk, os⟩ ⟨(dictEpoch d q).wrap K H gd lv, cE, pos, B0⟩ = go w n ⟨h, g, dr, tk, os⟩ ⟨K ep, cE, pos, B0⟩ := go_load hd
theorem wb {α β : Type} (m : Sem α) (f : α → Sem β) (K : β → Sem Fin) (H : Value → Sem Fin) (gd : Bool → Bool) (lv : List Value → List Value) : (m.bind f).wrap K H gd lv = m.wrap (fun a => (f a).wrap K H gd lv) H gd lv := by
  rw [Sem.bind_eq_wrap, Sem.wrap_wrap]
  rfl
theorem go_find {d : Addr} {i : Int} {t : Tok} {x : Int} {es : Array DictEntry} {ep : Nat} {K : Option Nat → Sem Fin} {H : Value → Sem Fin} (hd : h.get? d = some (dOf es ep)) (hno : noKey es x) :
    go w (n + 1) ⟨h, g, dr, tk, os⟩ ⟨(dictFind d (.int i t) x).wrap K H gd lv, cE, pos, B0⟩ = go w n ⟨h, g, dr, tk, os⟩ ⟨K none, cE, pos, B0⟩ := by
  obtain ⟨F, e, hF⟩ := find_parts d i t x
  rw [e, wb, go_entries hd, hF es hno]
  rfl
theorem go_put {d : Addr} {i : Int} {t : Tok} {x : Int} {v : Value} {es : Array DictEntry} {ep : Nat} {K : Unit → Sem Fin} {H : Value → Sem Fin} (hd : h.get? d = some (dOf es ep)) (h28 : Nat.ble 28 d = true) (hno : noKey es x) (hz : es.size ≤ 900) :
    go w (n + 4) ⟨h, g, dr, tk, os⟩ ⟨(dictPut d x (.int i t) v).wrap K H gd lv, cE, pos, B0⟩ = go w n ⟨h.update d (Obj.mapDictKeys (·.push ⟨x, .int i t, v⟩)), g, dr, tk, os⟩ ⟨K (), cE, pos, B0⟩ := by
  have e : dictPut d x (.int i t) v = (dictFind d (.int i t) x).bind fun r => match r with
    | some i => updateDict d (·.modify i fun e => { e with val := v })
    | none => updateDictKeys d (·.push ⟨x, .int i t, v⟩) := rfl
  rw [e, wb, show n + 4 = (n + 3) + 1 from rfl, go_find hd hno]
  exact go_keysTo hd h28 (by rw [Array.size_push]; omega)
theorem go_set {d : Addr} {i : Int} {t : Tok} {x : Int} {v : Str} {u : Tok} {es : Array DictEntry} {ep : Nat} {K : Unit → Sem Fin} {H : Value → Sem Fin} (hd : h.get? d = some (dOf es ep)) (h28 : Nat.ble 28 d = true) (hno : noKey es x) (hz : es.size ≤ 900) :
    go w (n + 5) ⟨h, g, dr, tk, os⟩ ⟨(dictSetHashed d (.int i t) x (.str v u)).wrap K H gd lv, cE, pos, B0⟩ = go w n ⟨h.update d (Obj.mapDictKeys (·.push ⟨x, .int i t, .str v u⟩)), g, dr, tk, os⟩ ⟨K (), cE, pos, B0⟩ := by
  have e : ∃ G : Option Nat → Sem Unit, dictSetHashed d (.int i t) x (.str v u) = (dictFind d (.int i t) x).bind G ∧
    G none = (rule "dict.set.new-key-at-the-end").bind fun _ => updateDictKeys d (·.push ⟨x, .int i t, .str v u⟩) (keyPart (.int i t)) := ⟨_, rfl, rfl⟩
  obtain ⟨G, e, e0⟩ := e
  rw [e, wb, show n + 5 = (n + 4) + 1 from rfl, go_find hd hno, e0]
  show go w (n + 4) _ ⟨((rule "dict.set.new-key-at-the-end").bind fun _ => updateDictKeys d (·.push ⟨x, .int i t, .str v u⟩) (keyPart (.int i t))).wrap K H gd lv, cE, pos, B0⟩ = _
  rw [wb]
  refine (go_rule (n := n + 3)).trans ?_
  exact go_keysTo hd h28 (by rw [Array.size_push]; omega)
end
end Mine

end PartD6

section FlushD7
open PySem PySem.W PyProof.Rows PySem.Calls
namespace Mine
theorem start_D7 {prog : Program} {w : World} {A : Around} {E : Value → Shared → Prop} {s : Shared} {env : Env} {Q : Flow → Shared → Prop} (h : wpAny (model prog w) A (execs [] env) Q E s) : wpAny (model prog w) A (execs [] env) Q E s := by
  w_top off
  first | (walk1; fail) | exact h
end Mine
end FlushD7
section PartD7
open PySem PySem.W PyProof.Rows
namespace Mine
theorem wk {α : Type} (vs : List Value) (m : Sem α) (K : α → Sem Fin) (H : Value → Sem Fin) (gd : Bool → Bool) (lv : List Value → List Value) : (m.keep vs).wrap K H gd lv = m.wrap K H gd (fun l => lv (vs ++ l)) := by
  rw [Sem.keep_eq_wrap, Sem.wrap_wrap]
  rfl
theorem wr {α : Type} (m : Sem α) (hh : Value → Sem Unit) (K : α → Sem Fin) (H : Value → Sem Fin) (gd : Bool → Bool) (lv : List Value → List Value) : ∃ H', (m.onRaise hh).wrap K H gd lv = m.wrap K H' gd lv := by
  rw [Sem.onRaise_eq_wrap, Sem.wrap_wrap]
  exact ⟨_, rfl⟩
theorem reduced_is (i : Int) : pyHashByItsType.reduced (rawHash i) = Sem.pure (hashInt i) := by
  have hr := rawHash_range i
  unfold pyHashByItsType.reduced
  rw [if_pos (by rw [decide_eq_true hr.1, decide_eq_true hr.2]; rfl)]
  rfl
theorem hash_run1 : ∀ (w : World), ∀ (i : Int) (t : Tok) (n : Nat) (h : Heap) (g : Array GenState) (dr : Drawn) (tk : Nat) (os : OsState) (pos : Pos) (K : Int → Sem Fin) (H : Value → Sem Fin) (lv : List Value → List Value),
    go w (n + 5) ⟨h, g, dr, tk, os⟩ ⟨(pyHash (.int i t)).wrap K H id lv, cE, pos, B0⟩ = go w n ⟨h, g, dr, tk + 1, os⟩ ⟨(pyHashByItsType.reduced (rawHash i)).wrap K H id lv, cE, pos, B0⟩ := by
  refine byRow2 "special-get-raises" ?_ ?_
  · intros; kernel_rfl
  · intros; kernel_rfl
theorem hash_run (w : World) (i : Int) (t : Tok) (n : Nat) (h : Heap) (g : Array GenState) (dr : Drawn) (tk : Nat) (os : OsState) (pos : Pos) (K : Int → Sem Fin) (H : Value → Sem Fin) (lv : List Value → List Value) :
    go w (n + 5) ⟨h, g, dr, tk, os⟩ ⟨(pyHash (.int i t)).wrap K H id lv, cE, pos, B0⟩ = go w n ⟨h, g, dr, tk + 1, os⟩ ⟨K (hashInt i), cE, pos, B0⟩ := by
  rw [hash_run1, reduced_is]
  rfl
end Mine

end PartD7

section FlushD8
open PySem PySem.W PyProof.Rows PySem.Calls
namespace Mine
theorem start_D8 {prog : Program} {w : World} {A : Around} {E : Value → Shared → Prop} {s : Shared} {env : Env} {Q : Flow → Shared → Prop} (h : wpAny (model prog w) A (execs [] env) Q E s) : wpAny (model prog w) A (execs [] env) Q E s := by
  w_top off
  first | (walk1; fail) | exact h
end Mine
end FlushD8
section PartD8
open PySem PySem.W PyProof.Rows
namespace Mine
noncomputable abbrev PR := Sem Value × Sem Value
noncomputable def setBody (d : Addr) (p : PR) : Sem (ForInStep PUnit) := do
  let kv ← p.1
  let vv ← holding [kv] p.2
  holding [kv, vv] (dictSet d kv vv)
  pure (ForInStep.yield PUnit.unit)
noncomputable def prOf (x : PySem.Expr × PySem.Expr) : PR := (eval x.1 env0, do let x ← eval x.2 env0; standAt dPos; pure x)
theorem sub_long (pairs : List PR) (h : ¬ pairs.length ≤ 15) : subDict pairs = (alloc { cls := .type "dict", data := .dict #[] }).bind fun d => (((rule "dict.display.long").bind fun _ => ((forIn pairs PUnit.unit fun p _ => setBody d p : Sem PUnit).bind fun _ => .pure PUnit.unit)).keep [.ref d]).bind fun _ => .pure d := by
  unfold subDict
  simp only [if_neg h]
  rfl
theorem sub_short (pairs : List PR) (h : pairs.length ≤ 15) : subDict pairs = (alloc { cls := .type "dict", data := .dict #[] }).bind fun d => (((evalPairs pairs).bind fun vs => holding (vs.flatMap fun (k, v) => [k, v]) ((forIn vs PUnit.unit fun x _ => (dictSet d x.1 x.2).bind fun _ => Sem.pure (ForInStep.yield PUnit.unit) : Sem PUnit).bind fun _ => .pure PUnit.unit)).keep [.ref d]).bind fun _ => .pure d := by
  unfold subDict
  simp only [if_pos h]
  rfl
section
variable {w : World} {n : Nat} {h : Heap} {g : Array GenState} {dr : Drawn} {tk : Nat} {os : OsState} {pos : Pos} {lv : List Value → List Value}
theorem set_run {d : Addr} {i : Int} {v : Str} {t u : Tok} {es : Array DictEntry} {ep : Nat} {K : Unit → Sem Fin} {H : Value → Sem Fin}
    (hd : h.get? d = some (dOf es ep)) (h28 : Nat.ble 28 d = true) (hno : noKey es (hashInt i)) (hz : es.size ≤ 900) :
    go w (n + 10) ⟨h, g, dr, tk, os⟩ ⟨(dictSet d (.int i t) (.str v u)).wrap K H id lv, cE, pos, B0⟩ =
      go w n ⟨h.update d (Obj.mapDictKeys (·.push ⟨hashInt i, .int i t, .str v u⟩)), g, dr, tk + 1, os⟩ ⟨K (), cE, pos, B0⟩ := by
  have e : dictSet d (.int i t) (.str v u) = (pyHash (.int i t)).bind fun x => dictSetHashed d (.int i t) x (.str v u) := rfl
  rw [e, wb, show n + 10 = n + 5 + 5 from rfl, hash_run, go_set hd h28 hno hz]
theorem ent_run {d : Addr} {i : Int} {v : Str} {c c2 : Nat} {p1 p2 : Pos} {es : Array DictEntry} {ep : Nat} {K : ForInStep PUnit → Sem Fin} {H : Value → Sem Fin}
    (hd : h.get? d = some (dOf es ep)) (h28 : Nat.ble 28 d = true) (hno : noKey es (hashInt i)) (hz : es.size ≤ 900) :
    go w (n + 13) ⟨h, g, dr, tk, os⟩ ⟨(setBody d (prOf (.Constant (.int i) c p1, .Constant (.str v) c2 p2))).wrap K H id lv, cE, pos, B0⟩ =
      go w n ⟨h.update d (Obj.mapDictKeys (·.push ⟨hashInt i, .int i tk, .str v (tk + 1)⟩)), g, dr, tk + 3, os⟩ ⟨K (.yield PUnit.unit), cE, dPos, B0⟩ := by
  have ev : eval (.Constant (.str v) c2 p2) env0 = (Sem.fresh fun t => .pure (Value.str v t) : Sem Value) := rfl
  have e : setBody d (prOf (.Constant (.int i) c p1, .Constant (.str v) c2 p2)) = Sem.fresh fun t => Sem.fresh fun u => Sem.at dPos fun _ => (dictSet d (.int i t) (.str v u)).bind fun _ => Sem.pure (ForInStep.yield PUnit.unit) := by
    unfold setBody prOf
    rw [ev]
    rfl
  rw [e]
  have e1 : go w (n + 13) ⟨h, g, dr, tk, os⟩ ⟨(Sem.fresh fun t => Sem.fresh fun u => Sem.at dPos fun _ => (dictSet d (.int i t) (.str v u)).bind fun _ => Sem.pure (ForInStep.yield PUnit.unit)).wrap K H id lv, cE, pos, B0⟩ =
    go w (n + 10) ⟨h, g, dr, tk + 2, os⟩ ⟨((dictSet d (.int i tk) (.str v (tk + 1))).bind fun _ => Sem.pure (ForInStep.yield PUnit.unit)).wrap K H id lv, cE, dPos, B0⟩ := rfl
  rw [e1, wb, set_run hd h28 hno hz]
  rfl
end
end Mine

end PartD8

section FlushD9
open PySem PySem.W PyProof.Rows PySem.Calls
namespace Mine
theorem start_D9 {prog : Program} {w : World} {A : Around} {E : Value → Shared → Prop} {s : Shared} {env : Env} {Q : Flow → Shared → Prop} (h : wpAny (model prog w) A (execs [] env) Q E s) : wpAny (model prog w) A (execs [] env) Q E s := by
  w_top off
  first | (walk1; fail) | exact h
end Mine
end FlushD9
section PartD9
open PySem PySem.W PyProof.Rows
namespace Mine
theorem inst_dict : (isSubtype (.type "dict") (.type "dict") : Sem Bool) = Sem.pure true := by kernel_rfl
theorem spec_dict : (typeLookup (.type "dict") "__iter__" : Sem (Option Value)) = Sem.pure (some (.builtin "dict.__iter__")) := by kernel_rfl
section
variable {w : World} {n : Nat} {h : Heap} {g : Array GenState} {dr : Drawn} {tk : Nat} {os : OsState} {pos : Pos} {gd : Bool → Bool} {lv : List Value → List Value}
theorem go_inst {a : Addr} {es : Array DictEntry} {ep : Nat} {K : Bool → Sem Fin} {H : Value → Sem Fin} (ha : h.get? a = some (dOf es ep)) :
    go w (n + 1) ⟨h, g, dr, tk, os⟩ ⟨(isInstance (.ref a) (.type "dict")).wrap K H gd lv, cE, pos, B0⟩ = go w n ⟨h, g, dr, tk, os⟩ ⟨K true, cE, pos, B0⟩ := by
  have e : isInstance (.ref a) (.type "dict") = (loadPart a (some headPart)).bind fun o => isSubtype o.cls (.type "dict") := rfl
  rw [e, wb]
  refine (go_load ha).trans ?_
  show go w n _ ⟨(isSubtype (.type "dict") (.type "dict")).wrap K H gd lv, cE, pos, B0⟩ = _
  rw [inst_dict]
  rfl
theorem go_spec {a : Addr} {es : Array DictEntry} {ep : Nat} {K : Option Value → Sem Fin} {H : Value → Sem Fin} (ha : h.get? a = some (dOf es ep)) :
    go w (n + 1) ⟨h, g, dr, tk, os⟩ ⟨(specialOf (.ref a) "__iter__").wrap K H gd lv, cE, pos, B0⟩ = go w n ⟨h, g, dr, tk, os⟩ ⟨K (some (.builtin "dict.__iter__")), cE, pos, B0⟩ := by
  have e : specialOf (.ref a) "__iter__" = (loadPart a (some headPart)).bind fun o => typeLookup o.cls "__iter__" := rfl
  rw [e, wb]
  refine (go_load ha).trans ?_
  show go w n _ ⟨(typeLookup (.type "dict") "__iter__").wrap K H gd lv, cE, pos, B0⟩ = _
  rw [spec_dict]
  rfl
end
noncomputable def mergeTurn (d a : Addr) (ep : Nat) (i : Nat) : Sem (ForInStep PUnit) := (dictEntries a).bind fun es => match es[i]? with
  | some e => (holding [e.key, e.val] (dictPut d e.hash e.key e.val)).bind fun _ => (dictEpoch a).bind fun x => if (x != ep) = true then (unsupported "dict.changed-during-merge" : Sem PUnit).bind fun _ => Sem.pure (.yield PUnit.unit) else Sem.pure (.yield PUnit.unit)
  | none => unsupported "dict.changed-during-merge"
theorem merge_parts (d a : Addr) (ha : (a == sysModules) = false) : ∃ (J : Bool → Sem Unit) (F : Array DictEntry → Sem Unit), mergeMapping d (.ref a) false =
    (isInstance (.ref a) (.type "dict")).bind (fun b => if b = true then (specialOf (.ref a) "__iter__").bind (fun y => (Sem.pure (y == some (.builtin "dict.__iter__"))).bind J) else (Sem.pure false).bind J) ∧
    J true = (dictEntries d).bind F ∧
    ∀ es, es.isEmpty = false → F es = (dictEntries a).bind fun xs => (dictEpoch a).bind fun ep => (forIn (List.range xs.size) PUnit.unit fun i _ => mergeTurn d a ep i : Sem PUnit).bind fun _ => Sem.pure PUnit.unit := by
  refine' ⟨_, _, ?a, ?b, ?c⟩
  case a => unfold mergeMapping; rfl
  case b =>
    try dsimp only
    rw [if_neg (by rw [ha]; exact Bool.false_ne_true)]
    rfl
  case c =>
    intro es h
    try dsimp only
    rw [if_neg (by rw [h]; exact Bool.false_ne_true)]
    refine congrArg (Sem.bind (dictEntries a)) (funext fun xs => congrArg (Sem.bind (dictEpoch a)) (funext fun ep => ?_))
    refine congrArg (fun f => Sem.bind (forIn (List.range xs.size) PUnit.unit f : Sem PUnit) fun _ => Sem.pure PUnit.unit) (funext fun i => funext fun _ => ?_)
    refine congrArg (Sem.bind (dictEntries a)) (funext fun ys => ?_)
    cases ys[i]? with
    | none => rfl
    | some e => simp only [Bool.false_eq_true, if_false]; rfl
section
variable {w : World} {n : Nat} {h : Heap} {g : Array GenState} {dr : Drawn} {tk : Nat} {os : OsState} {pos : Pos} {gd : Bool → Bool} {lv : List Value → List Value}
theorem merge_start {d a : Addr} {es xs : Array DictEntry} {e1 e2 : Nat} {K : Unit → Sem Fin} {H : Value → Sem Fin} (ha : (a == sysModules) = false) (hd : h.get? d = some (dOf es e1)) (hs : h.get? a = some (dOf xs e2)) (hne : es.isEmpty = false) :
    go w (n + 5) ⟨h, g, dr, tk, os⟩ ⟨(mergeMapping d (.ref a) false).wrap K H gd lv, cE, pos, B0⟩ = go w n ⟨h, g, dr, tk, os⟩ ⟨(forIn (List.range xs.size) PUnit.unit fun i _ => mergeTurn d a e2 i : Sem PUnit).wrap (fun _ => K ()) H gd lv, cE, pos, B0⟩ := by
  obtain ⟨J, F, e, eJ, eF⟩ := merge_parts d a ha
  have b1 : ((some (Value.builtin "dict.__iter__") : Option Value) == some (.builtin "dict.__iter__")) = true := by kernel_rfl
  have x1 : (fun b => (if b = true then (specialOf (.ref a) "__iter__").bind (fun y => (Sem.pure (y == some (.builtin "dict.__iter__"))).bind J) else (Sem.pure false).bind J)) true = (specialOf (.ref a) "__iter__").bind (fun y => (Sem.pure (y == some (.builtin "dict.__iter__"))).bind J) := rfl
  rw [e, wb, show n + 5 = n + 4 + 1 from rfl, go_inst hs]
  show go w (n + 4) _ ⟨((specialOf (.ref a) "__iter__").bind (fun y => (Sem.pure (y == some (.builtin "dict.__iter__"))).bind J)).wrap K H gd lv, cE, pos, B0⟩ = _
  rw [wb, show n + 4 = n + 3 + 1 from rfl, go_spec hs]
  show go w (n + 3) _ ⟨(J ((some (Value.builtin "dict.__iter__") : Option Value) == some (.builtin "dict.__iter__"))).wrap K H gd lv, cE, pos, B0⟩ = _
  rw [b1, eJ, wb, show n + 3 = n + 2 + 1 from rfl, go_entries hd, eF es hne, wb, show n + 2 = n + 1 + 1 from rfl, go_entries hs, wb, go_epoch hs, wb]
  rfl
end
end Mine

end PartD9

section FlushD10
open PySem PySem.W PyProof.Rows PySem.Calls
namespace Mine
theorem start_D10 {prog : Program} {w : World} {A : Around} {E : Value → Shared → Prop} {s : Shared} {env : Env} {Q : Flow → Shared → Prop} (h : wpAny (model prog w) A (execs [] env) Q E s) : wpAny (model prog w) A (execs [] env) Q E s := by
  w_top off
  first | (walk1; fail) | exact h
end Mine
end FlushD10
section PartD10
open PySem PySem.W PyProof.Rows
namespace Mine
noncomputable def upd (h : Heap) (d : Addr) (es : List DictEntry) : Heap := h.update d (fun _ => dOf es.toArray es.length)
theorem upd_get {h : Heap} {d : Addr} {es : List DictEntry} {o : Obj} (hd : h.get? d = some o) : (upd h d es).get? d = some (dOf es.toArray es.length) := Heap.get?_update_self _ hd rfl
theorem upd_ne {h : Heap} {d a : Addr} {es : List DictEntry} (ne : a ≠ d) : (upd h d es).get? a = h.get? a := Heap.get?_update_ne _ _ _ _ ne
theorem modify_modify {α : Type} (xs : Array α) (i : Nat) (f g : α → α) : (xs.modify i f).modify i g = xs.modify i (fun x => g (f x)) := by
  apply Array.ext_getElem?
  intro j
  simp only [Array.getElem?_modify]
  by_cases e : i = j
  · subst e; simp [Option.map_map]; rfl
  · simp [e]
theorem updD_push (h : Heap) (d : Addr) (es : List DictEntry) (e : DictEntry) : (upd h d es).update d (Obj.mapDictKeys (·.push e)) = upd h d (es ++ [e]) := by
  obtain ⟨objs, l⟩ := h
  show (⟨(objs.modify d _).modify d _, l⟩ : Heap) = ⟨objs.modify d _, l⟩
  rw [modify_modify]
  congr 1
  congr 1
  funext x
  show (⟨.type "dict", none, .dict (es.toArray.push e) (es.length + 1), #[]⟩ : Obj) = ⟨.type "dict", none, .dict (es ++ [e]).toArray (es ++ [e]).length, #[]⟩
  simp
theorem noKey_of {es : List DictEntry} {x : Int} (h : ∀ e ∈ es, e.hash < x) : noKey es.toArray x := by
  unfold noKey placesWithHash
  rw [List.filter_eq_nil_iff]
  intro i hi hc
  have hl : i < es.length := by simpa using List.mem_range.mp hi
  have hb := beq_iff_eq.mp hc
  simp only [List.getElem?_toArray, List.getElem?_eq_getElem hl, Option.map_some, Option.some.injEq] at hb
  have := h _ (List.getElem_mem hl)
  omega
noncomputable def Up (b : Int) : List DictEntry → Prop
  | [] => True
  | e :: r => (∃ t v u, e.key = .int e.hash t ∧ e.val = .str v u) ∧ b < e.hash ∧ e.hash < 2 ^ 60 ∧ Up e.hash r
theorem Up.all {b : Int} : ∀ {es : List DictEntry}, Up b es → ∀ e ∈ es, b < e.hash := by
  intro es
  induction es generalizing b with
  | nil => intro _ e he; cases he
  | cons a r ih =>
    intro h e he
    rcases List.mem_cons.mp he with rfl | he
    · exact h.2.1
    · have := ih h.2.2.2 e he; have := h.2.1; omega
theorem hashInt_small {i : Int} (h0 : 0 ≤ i) (h1 : i < 2 ^ 60) : hashInt i = i := by
  obtain ⟨k, rfl⟩ := Int.eq_ofNat_of_zero_le h0
  have hk : k < 2 ^ 60 := by omega
  have hm : ((k : Int) % ((2 ^ 61 - 1 : Nat) : Int)) = k := Int.emod_eq_of_lt (by omega) (by omega)
  have hr : rawHash (k : Int) = k := by
    unfold rawHash
    rw [Int.natAbs_natCast]
    simp only [hm]
    simp only [show ¬ ((k : Int) < 0) by omega, if_false]
    rw [if_neg (by intro q; have := eq_of_beq q; omega)]
  unfold hashInt
  rw [hr, if_neg (by intro q; have := eq_of_beq q; omega)]
inductive IsC : List XP → List (Int × Str) → Prop
  | nil : IsC [] []
  | cons {i v c c2 p1 p2 xs rs} : IsC xs rs → IsC ((.Constant (.int i) c p1, .Constant (.str v) c2 p2) :: xs) ((i, v) :: rs)
section
variable {w : World} {h : Heap} {g : Array GenState} {dr : Drawn} {os : OsState} {gd : Bool → Bool} {lv : List Value → List Value}
theorem fill_run {d : Addr} {o : Obj} (hd : h.get? d = some o) (h28 : Nat.ble 28 d = true) : ∀ (xs : List XP) (rs : List (Int × Str)), IsC xs rs → ∀ (n tk : Nat) (es : List DictEntry) (b : Int) (K : PUnit → Sem Fin) (H : Value → Sem Fin),
    0 ≤ b → Up b (entsFrom tk rs) → (∀ e ∈ es, e.hash ≤ b) → es.length + rs.length ≤ 900 →
    go w (n + 13 * rs.length) ⟨upd h d es, g, dr, tk, os⟩ ⟨(forIn (xs.map prOf) PUnit.unit fun p _ => setBody d p : Sem PUnit).wrap K H id lv, cE, dPos, B0⟩ =
      go w n ⟨upd h d (es ++ entsFrom tk rs), g, dr, tk + 3 * rs.length, os⟩ ⟨K PUnit.unit, cE, dPos, B0⟩ := by
  intro xs rs hc
  induction hc with
  | nil => intro n tk es b K H _ _ _ _; simp only [List.length_nil, List.map_nil, entsFrom, List.append_nil, Nat.mul_zero, Nat.add_zero]; rfl
  | @cons i v c c2 p1 p2 xs rs hc ih =>
    intro n tk es b K H h0 hu hb hl
    obtain ⟨_, hlt, hbig, hu'⟩ := hu
    simp only at hlt hbig hu'
    have hi : hashInt i = i := hashInt_small (by omega) hbig
    rw [List.map_cons, List.forIn_cons]
    show go w _ _ ⟨(Sem.bind (setBody d _) _).wrap K H id lv, cE, dPos, B0⟩ = _
    rw [wb, List.length_cons, show n + 13 * (rs.length + 1) = (n + 13 * rs.length) + 13 by omega]
    rw [ent_run (upd_get hd) h28 (by rw [hi]; exact noKey_of fun e he => by have := hb e he; omega) (by simp at hl ⊢; omega), updD_push, hi]
    have := ih n (tk + 3) (es ++ [⟨i, .int i tk, .str v (tk + 1)⟩]) i K H (by omega) hu' (fun e he => by
      rcases List.mem_append.mp he with he | he
      · have := hb e he; omega
      · obtain rfl : e = _ := by simpa using he
        exact Int.le_refl _) (by simp at hl ⊢; omega)
    refine this.trans ?_
    simp only [entsFrom, List.append_assoc, List.cons_append, List.nil_append]
    congr 2
    omega
theorem turn_run {d a : Addr} {n tk : Nat} {pos : Pos} {es xs : Array DictEntry} {e1 e2 i : Nat} {x : Int} {k : Int} {t : Tok} {v : Str} {u : Tok} {K : ForInStep PUnit → Sem Fin} {H : Value → Sem Fin} (ne : a ≠ d) (hd : h.get? d = some (dOf es e1)) (h28 : Nat.ble 28 d = true)
    (ha : h.get? a = some (dOf xs e2)) (hx : xs[i]? = some ⟨x, .int k t, .str v u⟩) (hno : noKey es x) (hz : es.size ≤ 900) :
    go w (n + 6) ⟨h, g, dr, tk, os⟩ ⟨(mergeTurn d a e2 i).wrap K H gd lv, cE, pos, B0⟩ = go w n ⟨h.update d (Obj.mapDictKeys (·.push ⟨x, .int k t, .str v u⟩)), g, dr, tk, os⟩ ⟨K (.yield PUnit.unit), cE, pos, B0⟩ := by
  unfold mergeTurn
  rw [wb, show n + 6 = n + 5 + 1 from rfl, go_entries ha, hx]
  show go w (n + 5) _ ⟨((dictPut d x (.int k t) (.str v u)).bind _).wrap K H gd lv, cE, pos, B0⟩ = _
  rw [wb, show n + 5 = n + 1 + 4 from rfl, go_put hd h28 hno hz, wb]
  rw [go_epoch (es := xs) (ep := e2) (by rw [Heap.get?_update_ne _ _ _ _ ne]; exact ha)]
  have : (e2 != e2) = false := by simp
  rw [this]
  rfl
theorem merge_loop {d a : Addr} {o : Obj} {xs : List DictEntry} {e2 : Nat} (ne : a ≠ d) (hd : h.get? d = some o) (h28 : Nat.ble 28 d = true) (ha : h.get? a = some (dOf xs.toArray e2)) :
    ∀ (ys pre : List DictEntry), xs = pre ++ ys → ∀ (n tk : Nat) (pos : Pos) (es : List DictEntry) (b : Int) (K : PUnit → Sem Fin) (H : Value → Sem Fin), Up b ys → (∀ e ∈ es, e.hash ≤ b) → es.length + ys.length ≤ 900 →
    go w (n + 6 * ys.length) ⟨upd h d es, g, dr, tk, os⟩ ⟨(forIn (List.range' pre.length ys.length) PUnit.unit fun i _ => mergeTurn d a e2 i : Sem PUnit).wrap K H gd lv, cE, pos, B0⟩ =
      go w n ⟨upd h d (es ++ ys), g, dr, tk, os⟩ ⟨K PUnit.unit, cE, pos, B0⟩ := by
  intro ys
  induction ys with
  | nil => intro pre _ n tk pos es b K H _ _ _; simp only [List.length_nil, List.append_nil, Nat.mul_zero, Nat.add_zero]; rfl
  | cons y ys ih =>
    intro pre hx n tk pos es b K H hu hb hl
    obtain ⟨⟨t, v, u, hk, hv⟩, hlt, hbig, hu'⟩ := hu
    rw [List.length_cons, List.range'_succ, List.forIn_cons]
    show go w _ _ ⟨(Sem.bind (mergeTurn d a e2 pre.length) _).wrap K H gd lv, cE, pos, B0⟩ = _
    rw [wb, show n + 6 * (ys.length + 1) = (n + 6 * ys.length) + 6 by omega]
    have hy : y = ⟨y.hash, .int y.hash t, .str v u⟩ := by obtain ⟨a, b, c⟩ := y; simp only at hk hv; rw [hk, hv]
    rw [turn_run ne (upd_get hd) h28 (by rw [upd_ne ne]; exact ha) (x := y.hash) (k := y.hash) (t := t) (v := v) (u := u) (by rw [hx, ← hy]; simp) (noKey_of fun e he => by have := hb e he; omega) (by simp at hl ⊢; omega), ← hy, updD_push]
    have := ih (pre ++ [y]) (by rw [hx]; simp) n tk pos (es ++ [y]) y.hash K H hu' (fun e he => by
      rcases List.mem_append.mp he with he | he
      · have := hb e he; omega
      · obtain rfl : e = _ := by simpa using he
        exact Int.le_refl _) (by simp at hl ⊢; omega)
    rw [List.length_append, List.length_cons, List.length_nil, Nat.zero_add] at this
    refine this.trans ?_
    simp
end
end Mine

end PartD10

section FlushD11
open PySem PySem.W PyProof.Rows PySem.Calls
namespace Mine
theorem start_D11 {prog : Program} {w : World} {A : Around} {E : Value → Shared → Prop} {s : Shared} {env : Env} {Q : Flow → Shared → Prop} (h : wpAny (model prog w) A (execs [] env) Q E s) : wpAny (model prog w) A (execs [] env) Q E s := by
  w_top off
  first | (walk1; fail) | exact h
end Mine
end FlushD11
section PartD11
open PySem PySem.W PyProof.Rows
namespace Mine
theorem dlB_full0 (run : List PR) (k v : Sem Value) (h : ((run ++ [(k, v)]).length == 17) = true) (hne : (run ++ [(k, v)]).isEmpty = false) :
    dlB (some k, v) (none, run) = (subDict (run ++ [(k, v)])).bind fun d => Sem.pure (.yield (some d, [])) := by
  unfold dlB dlP
  simp only [h, hne, Bool.false_eq_true, if_true, if_false]
  show Sem.bind (Sem.bind (subDict _) _) _ = _
  rw [Sem.bind_eq_wrap, Sem.bind_eq_wrap, Sem.wrap_wrap, Sem.bind_eq_wrap]
  rfl
theorem dlB_full1 (m : Addr) (run : List PR) (k v : Sem Value) (h : ((run ++ [(k, v)]).length == 17) = true) (hne : (run ++ [(k, v)]).isEmpty = false) :
    ∃ R : Addr → Value → Sem Unit, dlB (some k, v) (some m, run) = (((subDict (run ++ [(k, v)])).keep [.ref m]).bind fun sub => (((mergeMapping m (.ref sub) false).keep [.ref m, .ref sub]).onRaise (R sub)).bind fun _ => Sem.pure (some m)).bind fun x => Sem.pure (.yield (x, [])) := by
  unfold dlB dlP
  simp only [h, hne, Bool.false_eq_true, if_true, if_false]
  exact ⟨_, rfl⟩
theorem dlF_full1 (m : Addr) (run : List PR) (hne : run.isEmpty = false) :
    ∃ R : Addr → Value → Sem Unit, dlF (some m, run) = (((subDict run).keep [.ref m]).bind fun sub => (((mergeMapping m (.ref sub) false).keep [.ref m, .ref sub]).onRaise (R sub)).bind fun _ => Sem.pure (some m)).bind fun x => match x with
      | some d => Sem.pure (.ref d)
      | none => newDict := by
  unfold dlF dlP
  simp only [hne, Bool.false_eq_true, if_false]
  exact ⟨_, rfl⟩
noncomputable def hp (h : Heap) (l : List Obj) : Heap := ⟨h.objs ++ l.toArray, h.life⟩
theorem hp_size (h : Heap) (l : List Obj) : (hp h l).objs.size = h.objs.size + l.length := by simp [hp]
theorem hp_push (h : Heap) (l : List Obj) (o : Obj) : (hp h l).push o = hp h (l ++ [o]) := by
  show (⟨(h.objs ++ l.toArray).push o, h.life⟩ : Heap) = ⟨h.objs ++ (l ++ [o]).toArray, h.life⟩
  congr 1
  apply Array.ext'
  rw [Array.toList_push, Array.toList_append, Array.toList_append, List.append_assoc]
theorem hp_get (h : Heap) (l : List Obj) (i : Nat) (es : List DictEntry) (e : l[i]? = some (dOf es.toArray es.length)) : (hp h l).get? (h.objs.size + i) = some (dOf es.toArray es.length) := by
  have : (hp h l).objs[h.objs.size + i]? = some (dOf es.toArray es.length) := by
    show (h.objs ++ l.toArray)[h.objs.size + i]? = _
    rw [Array.getElem?_append_right (by omega)]
    simp [e]
  unfold Heap.get?
  rw [this]
theorem hp_update (h : Heap) (l : List Obj) (i : Nat) (f : Obj → Obj) : (hp h l).update (h.objs.size + i) f = hp h (l.modify i f) := by
  show (⟨(h.objs ++ l.toArray).modify (h.objs.size + i) f, h.life⟩ : Heap) = ⟨h.objs ++ (l.modify i f).toArray, h.life⟩
  congr 1
  apply Array.ext_getElem?
  intro j
  rw [Array.getElem?_modify]
  by_cases hj : j < h.objs.size
  · rw [Array.getElem?_append_left hj, Array.getElem?_append_left hj]
    have : h.objs.size + i ≠ j := by omega
    simp [this]
  · rw [Array.getElem?_append_right (by omega), Array.getElem?_append_right (by omega)]
    by_cases e : h.objs.size + i = j
    · subst e; simp [List.getElem?_modify]
    · have : ¬ i = j - h.objs.size := by omega
      simp [e, List.getElem?_modify, this]
theorem hp_upd0 (h : Heap) (o : Obj) (l : List Obj) (es : List DictEntry) : upd (hp h (o :: l)) (h.objs.size + 0) es = hp h (dOf es.toArray es.length :: l) := by
  unfold upd
  rw [hp_update]; rfl
theorem hp_updL (h : Heap) (o : Obj) (l : List Obj) (es : List DictEntry) : upd (hp h (l ++ [o])) (h.objs.size + l.length) es = hp h (l ++ [dOf es.toArray es.length]) := by
  unfold upd
  rw [hp_update]
  congr 1
  induction l with
  | nil => rfl
  | cons a l ih => simp [List.modify_succ_cons, ih]
section
variable {w : World} {h : Heap} {g : Array GenState} {dr : Drawn} {os : OsState} {lv : List Value → List Value}
theorem sub_run {n tk : Nat} {l : List Obj} {xs : List XP} {rs : List (Int × Str)} {K : Addr → Sem Fin} {H : Value → Sem Fin} (hc : IsC xs rs) (h28 : 28 ≤ h.objs.size) (hlen : ¬ (xs.map prOf).length ≤ 15) (hu : Up 0 (entsFrom tk rs)) (hl : rs.length ≤ 900) :
    go w (n + 13 * rs.length + 2) ⟨hp h l, g, dr, tk, os⟩ ⟨(subDict (xs.map prOf)).wrap K H id lv, cE, dPos, B0⟩ =
      go w n ⟨hp h (l ++ [dOf (entsFrom tk rs).toArray (entsFrom tk rs).length]), g, dr, tk + 3 * rs.length, os⟩ ⟨K (h.objs.size + l.length), cE, dPos, B0⟩ := by
  rw [sub_long _ hlen, wb]
  refine (go_alloc (n := n + 13 * rs.length + 1)).trans ?_
  rw [hp_push, hp_size]
  show go w _ _ ⟨(Sem.bind (Sem.keep _ _) _).wrap K H id lv, cE, dPos, B0⟩ = _
  rw [wb, wk, wb]
  refine (go_rule (n := n + 13 * rs.length)).trans ?_
  show go w _ _ ⟨(Sem.bind (forIn (xs.map prOf) PUnit.unit fun p _ => setBody (h.objs.size + l.length) p : Sem PUnit) _).wrap _ H id _, cE, dPos, B0⟩ = _
  rw [wb]
  have hd : (hp h (l ++ [{ cls := .type "dict", data := .dict #[] }])).get? (h.objs.size + l.length) = some (dOf ([] : List DictEntry).toArray ([] : List DictEntry).length) := hp_get h _ _ [] (by simp)
  have hs : hp h (l ++ [{ cls := .type "dict", data := .dict #[] }]) = upd (hp h (l ++ [{ cls := .type "dict", data := .dict #[] }])) (h.objs.size + l.length) [] := by
    rw [hp_updL]; rfl
  rw [hs, fill_run hd (Nat.ble_eq_true_of_le (by omega)) xs rs hc n tk [] 0 _ H (Int.le_refl _) hu (fun e he => nomatch he) (by simpa using hl), List.nil_append, hp_updL]
  rfl
theorem merge_run {n tk : Nat} {l : List Obj} {es ys : List DictEntry} {b : Int} {gd : Bool → Bool} {K : Unit → Sem Fin} {H : Value → Sem Fin} (h28 : 28 ≤ h.objs.size) (hne : es.isEmpty = false) (hu : Up b ys) (hb : ∀ e ∈ es, e.hash ≤ b) (hl : es.length + ys.length ≤ 900) :
    go w (n + 6 * ys.length + 5) ⟨hp h (dOf es.toArray es.length :: (l ++ [dOf ys.toArray ys.length])), g, dr, tk, os⟩ ⟨(mergeMapping h.objs.size (.ref (h.objs.size + (l.length + 1))) false).wrap K H gd lv, cE, dPos, B0⟩ =
      go w n ⟨hp h (dOf (es ++ ys).toArray (es ++ ys).length :: (l ++ [dOf ys.toArray ys.length])), g, dr, tk, os⟩ ⟨K (), cE, dPos, B0⟩ := by
  have hd : (hp h (dOf es.toArray es.length :: (l ++ [dOf ys.toArray ys.length]))).get? (h.objs.size + 0) = some (dOf es.toArray es.length) := hp_get h _ _ es (by simp)
  rw [Nat.add_zero] at hd
  have ha : (hp h (dOf es.toArray es.length :: (l ++ [dOf ys.toArray ys.length]))).get? (h.objs.size + (l.length + 1)) = some (dOf ys.toArray ys.length) := hp_get h _ _ ys (by simp)
  have hs : hp h (dOf es.toArray es.length :: (l ++ [dOf ys.toArray ys.length])) = upd (hp h (dOf es.toArray es.length :: (l ++ [dOf ys.toArray ys.length]))) h.objs.size es := (hp_upd0 h _ _ es).symm
  rw [merge_start (by rw [beq_eq_false_iff_ne]; intro q; have : h.objs.size + (l.length + 1) = 1 := q; omega) hd ha (by simpa using hne), hs]
  have := merge_loop (w := w) (g := g) (dr := dr) (os := os) (gd := gd) (lv := lv) (d := h.objs.size) (xs := ys) (e2 := ys.length) (fun q : h.objs.size + (l.length + 1) = h.objs.size => by omega) hd (Nat.ble_eq_true_of_le (by omega)) ha ys [] rfl n tk dPos es b (fun _ => K ()) H hu hb hl
  rw [show List.range ys.toArray.size = List.range' ([] : List DictEntry).length ys.length by simp [List.range_eq_range']]
  refine Eq.trans this ?_
  rw [show upd (hp h (dOf es.toArray es.length :: (l ++ [dOf ys.toArray ys.length]))) h.objs.size (es ++ ys) = _ from hp_upd0 h _ _ (es ++ ys)]
end
end Mine

end PartD11

section FlushD12
open PySem PySem.W PyProof.Rows PySem.Calls
namespace Mine
theorem start_D12 {prog : Program} {w : World} {A : Around} {E : Value → Shared → Prop} {s : Shared} {env : Env} {Q : Flow → Shared → Prop} (h : wpAny (model prog w) A (execs [] env) Q E s) : wpAny (model prog w) A (execs [] env) Q E s := by
  w_top off
  first | (walk1; fail) | exact h
end Mine
end FlushD12
section PartD12
open PySem PySem.W PyProof.Rows
namespace Mine
theorem ents_len : ∀ (tk : Nat) (rs : List (Int × Str)), (entsFrom tk rs).length = rs.length
  | _, [] => rfl
  | tk, (_, _) :: r => by simp [entsFrom, ents_len (tk + 3) r]
theorem IsC.len {xs : List XP} {rs : List (Int × Str)} (h : IsC xs rs) : xs.length = rs.length := by induction h <;> simp_all
theorem gath2 (m : Option Addr) (c : List PR) (rest : List Itm) (run : List PR) (h : run.length + c.length < 17) :
    (forIn (c.map toItm ++ rest) ((m, run) : Sig) dlB : Sem Sig) = forIn rest ((m, run ++ c) : Sig) dlB := gath m c rest run h
section
variable {w : World} {h : Heap} {g : Array GenState} {dr : Drawn} {os : OsState} {lv : List Value → List Value}
theorem split17 {xs : List XP} (hx : xs.length = 17) : ∃ ys z, xs = ys ++ [z] ∧ ys.length = 16 := by
  refine ⟨xs.take 16, xs[16], ?_, by simp; omega⟩
  have : xs.drop 16 = [xs[16]] := by
    rw [List.drop_eq_getElem_cons (by omega), List.drop_eq_nil_of_le (by omega)]
  rw [← this, List.take_append_drop]
theorem flush0_run {n tk : Nat} {xs : List XP} {rs : List (Int × Str)} {rest : List Itm} {G : Sig → Sem Value} {K : Value → Sem Fin} {H : Value → Sem Fin} (hc : IsC xs rs) (hx : xs.length = 17) (h28 : 28 ≤ h.objs.size) (hu : Up 0 (entsFrom tk rs)) :
    go w (n + 223) ⟨hp h [], g, dr, tk, os⟩ ⟨((forIn ((xs.map prOf).map toItm ++ rest) ((none, []) : Sig) dlB).bind G).wrap K H id lv, cE, dPos, B0⟩ =
      go w n ⟨hp h [dOf (entsFrom tk rs).toArray (entsFrom tk rs).length], g, dr, tk + 51, os⟩ ⟨((forIn rest ((some h.objs.size, []) : Sig) dlB).bind G).wrap K H id lv, cE, dPos, B0⟩ := by
  have hr : rs.length = 17 := by rw [← hc.len]; exact hx
  obtain ⟨ys, z, rfl, hy⟩ := split17 hx
  rw [List.map_append, List.map_append, List.append_assoc, gath2 _ _ _ _ (by simp; omega)]
  show go w _ _ ⟨(Sem.bind (forIn (toItm (prOf z) :: rest) _ dlB) G).wrap K H id lv, cE, dPos, B0⟩ = _
  rw [List.forIn_cons]
  show go w _ _ ⟨(Sem.bind (Sem.bind (dlB (some (prOf z).1, (prOf z).2) (none, [] ++ ys.map prOf)) _) G).wrap K H id lv, cE, dPos, B0⟩ = _
  rw [dlB_full0 _ _ _ (by simp; omega) (by simp), wb, wb, wb]
  have := sub_run (w := w) (h := h) (g := g) (dr := dr) (os := os) (lv := lv) (n := n) (tk := tk) (l := []) (xs := ys ++ [z]) (K := fun a => (Sem.pure (ForInStep.yield ((some a, []) : Sig))).wrap (fun r => (match r with | .done b => Sem.pure b | .yield b => forIn rest b dlB : Sem Sig).wrap (fun a => (G a).wrap K H id lv) H id lv) H id lv) (H := H) hc h28 (by simp; omega) hu (by omega)
  rw [hr] at this
  rw [show ([] ++ ys.map prOf) ++ [((prOf z).1, (prOf z).2)] = (ys ++ [z]).map prOf by simp]
  refine Eq.trans this ?_
  rw [wb]
  rfl
theorem flush1_run {n tk : Nat} {l : List Obj} {es : List DictEntry} {b : Int} {xs : List XP} {rs : List (Int × Str)} {rest : List Itm} {G : Sig → Sem Value} {K : Value → Sem Fin} {H : Value → Sem Fin} (hc : IsC xs rs) (hx : xs.length = 17) (h28 : 28 ≤ h.objs.size)
    (hu0 : Up 0 (entsFrom tk rs)) (hu : Up b (entsFrom tk rs)) (hb : ∀ e ∈ es, e.hash ≤ b) (hne : es.isEmpty = false) (hl : es.length + 17 ≤ 900) :
    go w (n + 330) ⟨hp h (dOf es.toArray es.length :: l), g, dr, tk, os⟩ ⟨((forIn ((xs.map prOf).map toItm ++ rest) ((some h.objs.size, []) : Sig) dlB).bind G).wrap K H id lv, cE, dPos, B0⟩ =
      go w n ⟨hp h (dOf (es ++ entsFrom tk rs).toArray (es ++ entsFrom tk rs).length :: (l ++ [dOf (entsFrom tk rs).toArray (entsFrom tk rs).length])), g, dr, tk + 51, os⟩ ⟨((forIn rest ((some h.objs.size, []) : Sig) dlB).bind G).wrap K H id lv, cE, dPos, B0⟩ := by
  have hr : rs.length = 17 := by rw [← hc.len]; exact hx
  have he : (entsFrom tk rs).length = 17 := by rw [ents_len, hr]
  obtain ⟨ys, z, rfl, hy⟩ := split17 hx
  rw [List.map_append, List.map_append, List.append_assoc, gath2 _ _ _ _ (by simp; omega)]
  show go w _ _ ⟨(Sem.bind (forIn (toItm (prOf z) :: rest) _ dlB) G).wrap K H id lv, cE, dPos, B0⟩ = _
  rw [List.forIn_cons]
  show go w _ _ ⟨(Sem.bind (Sem.bind (dlB (some (prOf z).1, (prOf z).2) (some h.objs.size, [] ++ ys.map prOf)) _) G).wrap K H id lv, cE, dPos, B0⟩ = _
  obtain ⟨R, eR⟩ := dlB_full1 h.objs.size ([] ++ ys.map prOf) (prOf z).1 (prOf z).2 (by simp; omega) (by simp)
  rw [eR, wb, wb, wb, wb, wk]
  rw [show ([] ++ ys.map prOf) ++ [((prOf z).1, (prOf z).2)] = (ys ++ [z]).map prOf by simp]
  have s := sub_run (w := w) (h := h) (g := g) (dr := dr) (os := os) (lv := fun l => lv ([.ref h.objs.size] ++ l)) (n := n + 107) (tk := tk) (l := dOf es.toArray es.length :: l) (xs := ys ++ [z]) (K := fun a => (((((mergeMapping h.objs.size (.ref a) false).keep [.ref h.objs.size, .ref a]).onRaise (R a)).bind fun _ => Sem.pure (some h.objs.size))).wrap (fun a => (Sem.pure (ForInStep.yield ((a, []) : Sig))).wrap (fun r => (match r with | .done b => Sem.pure b | .yield b => forIn rest b dlB : Sem Sig).wrap (fun a => (G a).wrap K H id lv) H id lv) H id lv) H id lv) (H := H) hc h28 (by simp; omega) hu0 (by omega)
  rw [hr] at s
  refine Eq.trans s ?_
  try dsimp only
  rw [wb]
  obtain ⟨H', eH⟩ := wr ((mergeMapping h.objs.size (.ref (h.objs.size + (dOf es.toArray es.length :: l).length)) false).keep [.ref h.objs.size, .ref (h.objs.size + (dOf es.toArray es.length :: l).length)]) (R (h.objs.size + (dOf es.toArray es.length :: l).length)) (fun _ => (Sem.pure (some h.objs.size)).wrap (fun a => (Sem.pure (ForInStep.yield ((a, []) : Sig))).wrap (fun r => (match r with | .done b => Sem.pure b | .yield b => forIn rest b dlB : Sem Sig).wrap (fun a => (G a).wrap K H id lv) H id lv) H id lv) H id lv) H id lv
  rw [eH, wk]
  have m := merge_run (w := w) (h := h) (g := g) (dr := dr) (os := os) (n := n) (tk := tk + 3 * 17) (l := l) (es := es) (ys := entsFrom tk rs) (b := b) (gd := id) (lv := fun l' => lv ([.ref h.objs.size, .ref (h.objs.size + (dOf es.toArray es.length :: l).length)] ++ l')) (K := fun _ => (Sem.pure (some h.objs.size)).wrap (fun a => (Sem.pure (ForInStep.yield ((a, []) : Sig))).wrap (fun r => (match r with | .done b => Sem.pure b | .yield b => forIn rest b dlB : Sem Sig).wrap (fun a => (G a).wrap K H id lv) H id lv) H id lv) H id lv) (H := H') h28 hne hu hb (by omega)
  rw [show n + 6 * (entsFrom tk rs).length + 5 = n + 107 by rw [he]] at m
  refine Eq.trans m ?_
  rw [wb]
  rfl
end
end Mine

end PartD12

section FlushD13
open PySem PySem.W PyProof.Rows PySem.Calls
namespace Mine
theorem start_D13 {prog : Program} {w : World} {A : Around} {E : Value → Shared → Prop} {s : Shared} {env : Env} {Q : Flow → Shared → Prop} (h : wpAny (model prog w) A (execs [] env) Q E s) : wpAny (model prog w) A (execs [] env) Q E s := by
  w_top off
  first | (walk1; fail) | exact h
end Mine
end FlushD13
section PartD13
open PySem PySem.W PyProof.Rows
namespace Mine
noncomputable def valsFrom (tk : Nat) : List (Int × Str) → List (Value × Value)
  | [] => []
  | (i, v) :: r => (.int i tk, .str v (tk + 1)) :: valsFrom (tk + 2) r
theorem ents_len2 : ∀ (tk : Nat) (rs : List (Int × Str)), (entsFrom2 tk rs).length = rs.length
  | _, [] => rfl
  | tk, (_, _) :: r => by simp [entsFrom2, ents_len2 (tk + 2) r]
theorem vals_plain : ∀ (tk : Nat) (rs : List (Int × Str)), ∀ x ∈ valsFrom tk rs, ∃ i t v u, x = (Value.int i t, Value.str v u)
  | _, [], _, h => nomatch h
  | tk, (i, v) :: r, x, h => by
    rcases List.mem_cons.mp h with rfl | h
    · exact ⟨_, _, _, _, rfl⟩
    · exact vals_plain (tk + 2) r x h
theorem holding_vals {α : Type} (tk : Nat) (rs : List (Int × Str)) (m : Sem α) : holding ((valsFrom tk rs).flatMap fun (k, v) => [k, v]) m = m := by
  unfold holding
  generalize hq : List.filter _ _ = q
  have : q = [] := by
    rw [← hq, List.filter_eq_nil_iff]
    intro a ha
    obtain ⟨x, hx, hax⟩ := List.mem_flatMap.mp ha
    obtain ⟨i, t, v, u, rfl⟩ := vals_plain tk rs x hx
    rcases List.mem_cons.mp hax with rfl | hax
    · simp
    · obtain rfl : a = _ := by simpa using hax
      simp
  subst this
  rfl
section
variable {w : World} {h : Heap} {g : Array GenState} {dr : Drawn} {os : OsState} {lv : List Value → List Value}
theorem pairs_run {h : Heap} : ∀ (xs : List XP) (rs : List (Int × Str)), IsC xs rs → ∀ (n tk : Nat) (K : List (Value × Value) → Sem Fin) (H : Value → Sem Fin),
    go w (n + 3 * rs.length) ⟨h, g, dr, tk, os⟩ ⟨(evalPairs (xs.map prOf)).wrap K H id lv, cE, dPos, B0⟩ = go w n ⟨h, g, dr, tk + 2 * rs.length, os⟩ ⟨K (valsFrom tk rs), cE, dPos, B0⟩ := by
  intro xs rs hc
  induction hc with
  | nil => intro n tk K H; rfl
  | @cons i v c c2 p1 p2 xs rs hc ih =>
    intro n tk K H
    have e : evalPairs ((((.Constant (.int i) c p1, .Constant (.str v) c2 p2) : XP) :: xs).map prOf) = Sem.fresh fun t => Sem.fresh fun u => Sem.at dPos fun _ => (evalPairs (xs.map prOf)).bind fun r => Sem.pure ((Value.int i t, Value.str v u) :: r) := rfl
    rw [e, List.length_cons, show n + 3 * (rs.length + 1) = (n + 3 * rs.length) + 3 by omega]
    have e1 : go w ((n + 3 * rs.length) + 3) ⟨h, g, dr, tk, os⟩ ⟨(Sem.fresh fun t => Sem.fresh fun u => Sem.at dPos fun _ => (evalPairs (xs.map prOf)).bind fun r => Sem.pure ((Value.int i t, Value.str v u) :: r)).wrap K H id lv, cE, dPos, B0⟩ =
      go w (n + 3 * rs.length) ⟨h, g, dr, tk + 2, os⟩ ⟨((evalPairs (xs.map prOf)).bind fun r => Sem.pure ((Value.int i tk, Value.str v (tk + 1)) :: r)).wrap K H id lv, cE, dPos, B0⟩ := rfl
    rw [e1, wb, ih, show tk + 2 + 2 * rs.length = tk + 2 * (rs.length + 1) by omega]
    rfl
theorem store_run {d : Addr} {o : Obj} (hd : h.get? d = some o) (h28 : Nat.ble 28 d = true) : ∀ (rs : List (Int × Str)) (n t0 tk : Nat) (es : List DictEntry) (b : Int) (K : PUnit → Sem Fin) (H : Value → Sem Fin),
    0 ≤ b → Up b (entsFrom2 t0 rs) → (∀ e ∈ es, e.hash ≤ b) → es.length + rs.length ≤ 900 →
    go w (n + 10 * rs.length) ⟨upd h d es, g, dr, tk, os⟩ ⟨(forIn (valsFrom t0 rs) PUnit.unit fun x _ => (dictSet d x.1 x.2).bind fun _ => Sem.pure (ForInStep.yield PUnit.unit) : Sem PUnit).wrap K H id lv, cE, dPos, B0⟩ =
      go w n ⟨upd h d (es ++ entsFrom2 t0 rs), g, dr, tk + rs.length, os⟩ ⟨K PUnit.unit, cE, dPos, B0⟩ := by
  intro rs
  induction rs with
  | nil => intro n t0 tk es b K H _ _ _ _; simp only [List.length_nil, entsFrom2, List.append_nil, Nat.mul_zero, Nat.add_zero]; rfl
  | cons x rs ih =>
    obtain ⟨i, v⟩ := x
    intro n t0 tk es b K H h0 hu hb hl
    obtain ⟨_, hlt, hbig, hu'⟩ := hu
    simp only at hlt hbig hu'
    have hi : hashInt i = i := hashInt_small (by omega) hbig
    rw [valsFrom, List.forIn_cons]
    show go w _ _ ⟨(Sem.bind (Sem.bind (dictSet d (.int i t0) (.str v (t0 + 1))) _) _).wrap K H id lv, cE, dPos, B0⟩ = _
    rw [wb, wb, List.length_cons, show n + 10 * (rs.length + 1) = (n + 10 * rs.length) + 10 by omega]
    rw [set_run (upd_get hd) h28 (by rw [hi]; exact noKey_of fun e he => by have := hb e he; omega) (by simp at hl ⊢; omega), updD_push, hi]
    have := ih n (t0 + 2) (tk + 1) (es ++ [⟨i, .int i t0, .str v (t0 + 1)⟩]) i K H (by omega) hu' (fun e he => by
      rcases List.mem_append.mp he with he | he
      · have := hb e he; omega
      · obtain rfl : e = _ := by simpa using he
        exact Int.le_refl _) (by simp at hl ⊢; omega)
    refine this.trans ?_
    simp only [entsFrom2, List.append_assoc, List.cons_append, List.nil_append]
    congr 2
    omega
theorem sub_run2 {n tk : Nat} {l : List Obj} {xs : List XP} {rs : List (Int × Str)} {K : Addr → Sem Fin} {H : Value → Sem Fin} (hc : IsC xs rs) (h28 : 28 ≤ h.objs.size) (hlen : (xs.map prOf).length ≤ 15) (hu : Up 0 (entsFrom2 tk rs)) (hl : rs.length ≤ 900) :
    go w (n + 10 * rs.length + 3 * rs.length + 1) ⟨hp h l, g, dr, tk, os⟩ ⟨(subDict (xs.map prOf)).wrap K H id lv, cE, dPos, B0⟩ =
      go w n ⟨hp h (l ++ [dOf (entsFrom2 tk rs).toArray (entsFrom2 tk rs).length]), g, dr, tk + 2 * rs.length + rs.length, os⟩ ⟨K (h.objs.size + l.length), cE, dPos, B0⟩ := by
  rw [sub_short _ hlen, wb]
  refine (go_alloc (n := n + 10 * rs.length + 3 * rs.length)).trans ?_
  rw [hp_push, hp_size]
  show go w _ _ ⟨(Sem.bind (Sem.keep _ _) _).wrap K H id lv, cE, dPos, B0⟩ = _
  rw [wb, wk, wb, pairs_run xs rs hc, holding_vals, wb]
  have hd : (hp h (l ++ [{ cls := .type "dict", data := .dict #[] }])).get? (h.objs.size + l.length) = some (dOf ([] : List DictEntry).toArray ([] : List DictEntry).length) := hp_get h _ _ [] (by simp)
  have hs : hp h (l ++ [{ cls := .type "dict", data := .dict #[] }]) = upd (hp h (l ++ [{ cls := .type "dict", data := .dict #[] }])) (h.objs.size + l.length) [] := by
    rw [hp_updL]; rfl
  rw [hs, store_run hd (Nat.ble_eq_true_of_le (by omega)) rs n tk _ [] 0 _ H (Int.le_refl _) hu (fun e he => nomatch he) (by simpa using hl), List.nil_append, hp_updL]
  rfl
theorem last_run {n tk : Nat} {l : List Obj} {es : List DictEntry} {b : Int} {xs : List XP} {rs : List (Int × Str)} {K : Value → Sem Fin} {H : Value → Sem Fin} (hc : IsC xs rs) (hx : xs.length = 4) (h28 : 28 ≤ h.objs.size)
    (hu0 : Up 0 (entsFrom2 tk rs)) (hu : Up b (entsFrom2 tk rs)) (hb : ∀ e ∈ es, e.hash ≤ b) (hne : es.isEmpty = false) (hl : es.length + 4 ≤ 900) :
    go w (n + 82) ⟨hp h (dOf es.toArray es.length :: l), g, dr, tk, os⟩ ⟨((forIn ((xs.map prOf).map toItm) ((some h.objs.size, []) : Sig) dlB).bind dlF).wrap K H id lv, cE, dPos, B0⟩ =
      go w n ⟨hp h (dOf (es ++ entsFrom2 tk rs).toArray (es ++ entsFrom2 tk rs).length :: (l ++ [dOf (entsFrom2 tk rs).toArray (entsFrom2 tk rs).length])), g, dr, tk + 12, os⟩ ⟨K (.ref h.objs.size), cE, dPos, B0⟩ := by
  have hr : rs.length = 4 := by rw [← hc.len]; exact hx
  have he : (entsFrom2 tk rs).length = 4 := by rw [ents_len2, hr]
  have e0 : (forIn ((xs.map prOf).map toItm) ((some h.objs.size, []) : Sig) dlB : Sem Sig) = Sem.pure (some h.objs.size, xs.map prOf) := by
    have := gath2 (some h.objs.size) (xs.map prOf) [] [] (by simp; omega)
    rw [List.append_nil, List.nil_append] at this
    exact this
  rw [e0]
  show go w _ _ ⟨(dlF (some h.objs.size, xs.map prOf)).wrap K H id lv, cE, dPos, B0⟩ = _
  obtain ⟨R, eR⟩ := dlF_full1 h.objs.size (xs.map prOf) (by cases xs with | nil => cases hx | cons _ _ => rfl)
  rw [eR, wb, wb, wk]
  have s := sub_run2 (w := w) (h := h) (g := g) (dr := dr) (os := os) (lv := fun l => lv ([.ref h.objs.size] ++ l)) (n := n + 29) (tk := tk) (l := dOf es.toArray es.length :: l) (xs := xs) (K := fun a => (((((mergeMapping h.objs.size (.ref a) false).keep [.ref h.objs.size, .ref a]).onRaise (R a)).bind fun _ => Sem.pure (some h.objs.size))).wrap (fun x => (match x with
      | some d => Sem.pure (.ref d)
      | none => newDict : Sem Value).wrap K H id lv) H id lv) (H := H) hc h28 (by simp; omega) hu0 (by omega)
  rw [hr] at s
  refine Eq.trans s ?_
  try dsimp only
  rw [wb]
  obtain ⟨H', eH⟩ := wr ((mergeMapping h.objs.size (.ref (h.objs.size + (dOf es.toArray es.length :: l).length)) false).keep [.ref h.objs.size, .ref (h.objs.size + (dOf es.toArray es.length :: l).length)]) (R (h.objs.size + (dOf es.toArray es.length :: l).length)) (fun _ => (Sem.pure (some h.objs.size)).wrap (fun x => (match x with
      | some d => Sem.pure (.ref d)
      | none => newDict : Sem Value).wrap K H id lv) H id lv) H id lv
  rw [eH, wk]
  have m := merge_run (w := w) (h := h) (g := g) (dr := dr) (os := os) (n := n) (tk := tk + 2 * 4 + 4) (l := l) (es := es) (ys := entsFrom2 tk rs) (b := b) (gd := id) (lv := fun l' => lv ([.ref h.objs.size, .ref (h.objs.size + (dOf es.toArray es.length :: l).length)] ++ l')) (K := fun _ => (Sem.pure (some h.objs.size)).wrap (fun x => (match x with
      | some d => Sem.pure (.ref d)
      | none => newDict : Sem Value).wrap K H id lv) H id lv) (H := H') h28 hne hu hb (by omega)
  rw [show n + 6 * (entsFrom2 tk rs).length + 5 = n + 29 by rw [he]] at m
  refine Eq.trans m ?_
  rfl
end
end Mine

end PartD13

section FlushD14
open PySem PySem.W PyProof.Rows PySem.Calls
namespace Mine
theorem start_D14 {prog : Program} {w : World} {A : Around} {E : Value → Shared → Prop} {s : Shared} {env : Env} {Q : Flow → Shared → Prop} (h : wpAny (model prog w) A (execs [] env) Q E s) : wpAny (model prog w) A (execs [] env) Q E s := by
  w_top off
  first | (walk1; fail) | exact h
end Mine
end FlushD14
section PartD14
open PySem PySem.W PyProof.Rows
namespace Mine
theorem Up.mono {b b' : Int} (h : b' ≤ b) : ∀ {es : List DictEntry}, Up b es → Up b' es
  | [], _ => trivial
  | _ :: _, ⟨a, c, d, e⟩ => ⟨a, by omega, d, e⟩
theorem Up.split {b : Int} : ∀ {e1 e2 : List DictEntry}, Up b (e1 ++ e2) → ∃ b', b ≤ b' ∧ Up b e1 ∧ Up b' e2 ∧ ∀ e ∈ e1, e.hash ≤ b'
  | [], e2, h => ⟨b, Int.le_refl _, trivial, h, fun _ h => nomatch h⟩
  | a :: e1, e2, ⟨x, y, z, u⟩ => by
    obtain ⟨b', h1, h2, h3, h4⟩ := Up.split (e1 := e1) (e2 := e2) u
    refine ⟨b', by omega, ⟨x, y, z, h2⟩, h3, fun e he => ?_⟩
    rcases List.mem_cons.mp he with rfl | he
    · exact h1
    · exact h4 e he
theorem entsFrom_app : ∀ (tk : Nat) (r1 r2 : List (Int × Str)), entsFrom tk (r1 ++ r2) = entsFrom tk r1 ++ entsFrom (tk + 3 * r1.length) r2
  | tk, [], r2 => rfl
  | tk, (i, v) :: r1, r2 => by
    simp only [List.cons_append, entsFrom, entsFrom_app (tk + 3) r1 r2, List.length_cons, show tk + 3 + 3 * r1.length = tk + 3 * (r1.length + 1) by omega]
theorem IsC.split {xs : List XP} {rs : List (Int × Str)} (h : IsC xs rs) : ∀ k, IsC (xs.take k) (rs.take k) ∧ IsC (xs.drop k) (rs.drop k) := by
  induction h with
  | nil => intro k; cases k <;> exact ⟨.nil, .nil⟩
  | cons h ih =>
    intro k
    cases k with
    | zero => exact ⟨.nil, .cons h⟩
    | succ k => exact ⟨.cons (ih k).1, (ih k).2⟩
theorem isC_of : ∀ (xs : List XP), (xs.all fun x => (cst x).isSome) = true → IsC xs (xs.filterMap cst)
  | [], _ => .nil
  | x :: xs, h => by
    rw [List.all_cons, Bool.and_eq_true] at h
    have ih := isC_of xs h.2
    obtain ⟨k, v⟩ := x
    cases hc : cst (k, v) with
    | none => rw [hc] at h; cases h.1
    | some r =>
      rw [List.filterMap_cons, hc]
      unfold cst at hc
      split at hc
      · rename_i e
        cases e
        cases hc
        exact .cons ih
      · cases hc
noncomputable def subsOf : Nat → Nat → List (Int × Str) → List Obj
  | 0, _, _ => []
  | k + 1, tk, rs => dObj (entsFrom tk (rs.take 17)) :: subsOf k (tk + 51) (rs.drop 17)
noncomputable def upB : Int → List DictEntry → Bool
  | _, [] => true
  | b, e :: r => (match e.key, e.val with | .int i _, .str _ _ => i == e.hash | _, _ => false) && decide (b < e.hash) && decide (e.hash < 2 ^ 60) && upB e.hash r
theorem up_of : ∀ {b : Int} {es : List DictEntry}, upB b es = true → Up b es
  | _, [], _ => trivial
  | b, ⟨hh, k, v⟩ :: r, h => by
    unfold upB at h
    simp only [Bool.and_eq_true, decide_eq_true_eq] at h
    obtain ⟨⟨⟨h1, h2⟩, h3⟩, h4⟩ := h
    refine ⟨?_, h2, h3, up_of h4⟩
    cases k with
    | int i t => cases v with
      | str x u => exact ⟨t, x, u, by rw [show i = hh from eq_of_beq h1], rfl⟩
      | _ => cases h1
    | _ => cases h1
section
variable {w : World} {h : Heap} {g : Array GenState} {dr : Drawn} {os : OsState} {lv : List Value → List Value}
theorem loop_run (h28 : 28 ≤ h.objs.size) : ∀ (k : Nat) (xs : List XP) (rs : List (Int × Str)) (n tk : Nat) (l : List Obj) (es : List DictEntry) (b : Int) (rest : List Itm) (G : Sig → Sem Value) (K : Value → Sem Fin) (H : Value → Sem Fin),
    IsC xs rs → xs.length = 17 * k → 0 ≤ b → Up b (entsFrom tk rs) → (∀ e ∈ es, e.hash ≤ b) → es.isEmpty = false → es.length + 17 * k ≤ 900 →
    go w (n + 330 * k) ⟨hp h (dObj es :: l), g, dr, tk, os⟩ ⟨((forIn ((xs.map prOf).map toItm ++ rest) ((some h.objs.size, []) : Sig) dlB).bind G).wrap K H id lv, cE, dPos, B0⟩ =
      go w n ⟨hp h (dObj (es ++ entsFrom tk rs) :: (l ++ subsOf k tk rs)), g, dr, tk + 51 * k, os⟩ ⟨((forIn rest ((some h.objs.size, []) : Sig) dlB).bind G).wrap K H id lv, cE, dPos, B0⟩ := by
  intro k
  induction k with
  | zero =>
    intro xs rs n tk l es b rest G K H hc hx _ _ _ _ _
    have : xs = [] := List.length_eq_zero_iff.mp (by omega)
    subst this
    cases hc
    simp [subsOf, entsFrom]
  | succ k ih =>
    intro xs rs n tk l es b rest G K H hc hx h0 hu hb hne hl
    have c := hc.split 17
    have hr : rs.length = 17 * (k + 1) := by rw [← hc.len]; exact hx
    have e1 : entsFrom tk rs = entsFrom tk (rs.take 17) ++ entsFrom (tk + 51) (rs.drop 17) := by
      have := entsFrom_app tk (rs.take 17) (rs.drop 17)
      rw [List.take_append_drop] at this
      rw [this, show tk + 3 * (rs.take 17).length = tk + 51 by rw [List.length_take]; omega]
    rw [e1] at hu
    obtain ⟨b', hb', hu1, hu2, hall⟩ := hu.split
    rw [show n + 330 * (k + 1) = (n + 330 * k) + 330 by omega]
    have f := flush1_run (w := w) (h := h) (g := g) (dr := dr) (os := os) (lv := lv) (n := n + 330 * k) (tk := tk) (l := l) (es := es) (b := b) (xs := xs.take 17) (rs := rs.take 17) (rest := ((xs.drop 17).map prOf).map toItm ++ rest) (G := G) (K := K) (H := H) c.1 (by rw [List.length_take]; omega) h28 (hu1.mono (by omega)) hu1 hb hne (by omega)
    have ex : (xs.map prOf).map toItm ++ rest = ((xs.take 17).map prOf).map toItm ++ (((xs.drop 17).map prOf).map toItm ++ rest) := by
      rw [← List.append_assoc, ← List.map_append, ← List.map_append, List.take_append_drop]
    rw [ex]
    refine Eq.trans f ?_
    have := ih (xs.drop 17) (rs.drop 17) n (tk + 51) (l ++ [dObj (entsFrom tk (rs.take 17))]) (es ++ entsFrom tk (rs.take 17)) b' rest G K H c.2 (by rw [List.length_drop]; omega) (by omega) hu2 (fun e he => by
      rcases List.mem_append.mp he with he | he
      · have := hb e he; omega
      · exact hall e he) (by cases es with | nil => cases hne | cons _ _ => rfl) (by rw [List.length_append, ents_len, List.length_take]; omega)
    refine Eq.trans this ?_
    rw [e1, subsOf, List.append_assoc, List.append_assoc, show tk + 51 + 51 * k = tk + 51 * (k + 1) by omega]
    rfl
end
theorem xs_const : (xsAll.all fun x => (cst x).isSome) = true := by kernel_rfl
theorem isC_all : IsC xsAll b3Raw := isC_of _ xs_const
theorem xs_len : xsAll.length = 650 := by kernel_rfl
theorem up_all : Up 0 b3All := up_of (by kernel_rfl)
end Mine

end PartD14

section FlushD15
open PySem PySem.W PyProof.Rows PySem.Calls
namespace Mine
theorem start_D15 {prog : Program} {w : World} {A : Around} {E : Value → Shared → Prop} {s : Shared} {env : Env} {Q : Flow → Shared → Prop} (h : wpAny (model prog w) A (execs [] env) Q E s) : wpAny (model prog w) A (execs [] env) Q E s := by
  w_top off
  first | (walk1; fail) | exact h
end Mine
end FlushD15
section PartD15
open PySem PySem.W PyProof.Rows
namespace Mine
noncomputable def dKs : List (Option PySem.Expr) := match stAt 17 with | .Assign _ (.Dict ks _ _) _ => ks | _ => []
noncomputable def dVs : List PySem.Expr := match stAt 17 with | .Assign _ (.Dict _ vs _) _ => vs | _ => []
noncomputable def aT : List PySem.Expr := match stAt 17 with | .Assign ts _ _ => ts | _ => []
noncomputable def aP : Pos := match stAt 17 with | .Assign _ _ p => p | _ => default
theorem st17_eq : stAt 17 = .Assign aT (.Dict dKs dVs dPos) aP := by kernel_rfl
theorem items_eq : (evalEachOpt dKs env0).zip ((evalEach dVs env0).map fun v => do let x ← v; standAt dPos; pure x) = (xsAll.map prOf).map toItm := by kernel_rfl
theorem raw_len : b3Raw.length = 650 := by rw [← isC_all.len]; exact xs_len
section
variable {w : World} {h : Heap} {g : Array GenState} {dr : Drawn} {os : OsState} {lv : List Value → List Value}
noncomputable def subs : List Obj := subsOf 37 555 ((b3Raw.drop 17).take 629) ++ [dObj (entsFrom2 2442 (b3Raw.drop 646))]
theorem display_run (h28 : 28 ≤ h.objs.size) (n : Nat) (K : Value → Sem Fin) (H : Value → Sem Fin) :
    go w (n + 82 + 330 * 37 + 223) ⟨hp h [], g, dr, 504, os⟩ ⟨(dictDisplay ((xsAll.map prOf).map toItm)).wrap K H id lv, cE, dPos, B0⟩ =
      go w n ⟨hp h (dObj b3All :: subs), g, dr, 2454, os⟩ ⟨K (.ref h.objs.size), cE, dPos, B0⟩ := by
  rw [dl_eq]
  show go w _ _ ⟨(Sem.bind _ _).wrap K H id lv, cE, dPos, B0⟩ = _
  have c1 := isC_all.split 17
  have c2 := c1.2.split 629
  have hlr := raw_len
  have hlx := xs_len
  have eb : b3All = entsFrom 504 (b3Raw.take 17) ++ (entsFrom 555 ((b3Raw.drop 17).take 629) ++ entsFrom2 2442 (b3Raw.drop 646)) := by
    have e1 : b3Raw.take 646 = b3Raw.take 17 ++ (b3Raw.drop 17).take 629 := by
      rw [show 646 = 17 + 629 from rfl, List.take_add]
    unfold b3All
    rw [e1, entsFrom_app, List.append_assoc, show 504 + 3 * (b3Raw.take 17).length = 555 by rw [List.length_take]; omega]
  have hu := up_all
  rw [eb] at hu
  obtain ⟨b1, hb1, u1, u2, a1⟩ := hu.split
  obtain ⟨b2, hb2, u3, u4, a2⟩ := u2.split
  have hd : (b3Raw.drop 17).drop 629 = b3Raw.drop 646 := by rw [List.drop_drop]
  have hdx : (xsAll.drop 17).drop 629 = xsAll.drop 646 := by rw [List.drop_drop]
  have ex : (xsAll.map prOf).map toItm = ((xsAll.take 17).map prOf).map toItm ++ ((((xsAll.drop 17).take 629).map prOf).map toItm ++ ((xsAll.drop 646).map prOf).map toItm) := by
    have hx : xsAll = xsAll.take 17 ++ ((xsAll.drop 17).take 629 ++ (xsAll.drop 17).drop 629) := by rw [List.take_append_drop, List.take_append_drop]
    rw [← hdx]
    conv => lhs; rw [hx]
    simp only [List.map_append]
  rw [ex]
  refine Eq.trans (flush0_run (n := n + 82 + 330 * 37) c1.1 (by rw [List.length_take]; omega) h28 u1) ?_
  refine Eq.trans (loop_run h28 37 ((xsAll.drop 17).take 629) ((b3Raw.drop 17).take 629) (n + 82) 555 [] (entsFrom 504 (b3Raw.take 17)) b1 _ _ K H c2.1 (by rw [List.length_take, List.length_drop]; omega) (by omega) u3 a1 (by
    cases hx : entsFrom 504 (b3Raw.take 17) with
    | nil => have := ents_len 504 (b3Raw.take 17); rw [hx, List.length_take] at this; simp at this; omega
    | cons _ _ => rfl) (by rw [ents_len, List.length_take]; omega)) ?_
  rw [List.nil_append]
  have cl := c2.2
  rw [hd, hdx] at cl
  refine Eq.trans (last_run (b := b2) (n := n) (es := entsFrom 504 (b3Raw.take 17) ++ entsFrom 555 ((b3Raw.drop 17).take 629)) cl (by rw [List.length_drop]; omega) h28 (u4.mono (by omega)) u4 (fun e he => ?_) ?_ ?_) ?_
  · rcases List.mem_append.mp he with he | he
    · have := a1 e he; omega
    · exact a2 e he
  · cases hx : entsFrom 504 (b3Raw.take 17) with
    | nil => have := ents_len 504 (b3Raw.take 17); rw [hx, List.length_take] at this; simp at this; omega
    | cons _ _ => rfl
  · rw [List.length_append, ents_len, ents_len, List.length_take, List.length_take, List.length_drop]; omega
  · rw [eb, List.append_assoc]; rfl
end
noncomputable def afterA (v : Value) : Sem Flow := (do assignStores env0 v (← swappedStores aT (.Dict dKs dVs dPos) env0) ((assignEach aT env0).map (·.2)))
noncomputable def afterE (f : Flow) : Sem Flow := match f with | .next => execs [] env0 | f => pure f
theorem start17 : ∀ (w : World) (os : OsState) (n : Nat), go w (n + 2) (S18 w os).abs (piecesOf [.Assign aT (.Dict dKs dVs dPos) aP] env0 cE p18 B0) =
    go w n (S18 w os).abs ⟨(((dictDisplay ((evalEachOpt dKs env0).zip ((evalEach dVs env0).map fun v => do let x ← v; standAt dPos; pure x))).bind afterA).bind afterE).wrap doneF deadEnd id id, cE, dPos, B0⟩ := by
  intro w os n
  kernel_rfl
noncomputable def S18b (w : World) (os : OsState) : SharedT := ⟨TF w.params (mainObj w.params (.str (Str.ofString "cpy313.stringprep") 435) 22) (tabsObj 24) bAll, 154, life0, #[], {}, 2454, os⟩
theorem heap18 : ∀ (w : World), hp (S18 w {}).abs.heap (dObj b3All :: subs) = (S18b w {}).abs.heap := by
  intro w
  kernel_rfl
theorem end17 : ∀ (w : World) (os : OsState), segRunT treeTable pw w 28 ann0 1 10 (S18b w os) ⟨(afterA (.ref 115)).wrap (fun f => (afterE f).wrap doneF deadEnd id id) deadEnd id id, cE, dPos, B0⟩ = some (.next, S19 w os, cE, p19) := by
  intro w os
  kernel_rfl
end Mine

end PartD15

section FlushD16
open PySem PySem.W PyProof.Rows PySem.Calls
namespace Mine
theorem start_D16 {prog : Program} {w : World} {A : Around} {E : Value → Shared → Prop} {s : Shared} {env : Env} {Q : Flow → Shared → Prop} (h : wpAny (model prog w) A (execs [] env) Q E s) : wpAny (model prog w) A (execs [] env) Q E s := by
  w_top off
  first | (walk1; fail) | exact h
end Mine
end FlushD16
section PartD16
open PySem PySem.W PyProof.Rows
namespace Mine
theorem hp_nil (h : Heap) : hp h [] = h := by
  show (⟨h.objs ++ ([] : List Obj).toArray, h.life⟩ : Heap) = h
  simp
theorem size18 (w : World) (os : OsState) : (S18 w os).abs.heap.objs.size = 115 := absHeap_size _ _ _
theorem abs18 (w : World) (os : OsState) : (S18 w os).abs = ⟨hp (S18 w {}).abs.heap [], #[], {}, 504, os⟩ := by
  rw [hp_nil]; rfl
theorem go17 (w : World) (os : OsState) : go w (0 + 82 + 330 * 37 + 223 + 2) (S18 w os).abs (piecesOf [stAt 17] env0 cE p18 B0) =
    some ((S18b w os).abs, ⟨(afterA (.ref 115)).wrap (fun f => (afterE f).wrap doneF deadEnd id id) deadEnd id id, cE, dPos, B0⟩) := by
  rw [st17_eq, start17, items_eq, wb, wb, abs18, display_run (by rw [size18]; omega), size18, heap18]
  rfl
theorem piece17 (w : World) (os : OsState) : segRun treeTable pw w 28 ann0 1 (0 + 82 + 330 * 37 + 223 + 2 + 10) (S18 w os).abs (piecesOf [stAt 17] env0 cE p18 B0) = some (.next, (S19 w os).abs, cE, p19) :=
  seg_go (go17 w os) (segRun_of (end17 w os))
end Mine

end PartD16

section FlushHK
open PySem PySem.W PyProof.Rows PySem.Calls
namespace Mine
theorem start_HK {prog : Program} {w : World} {A : Around} {E : Value → Shared → Prop} {s : Shared} {env : Env} {Q : Flow → Shared → Prop} (h : wpAny (model prog w) A (execs [] env) Q E s) : wpAny (model prog w) A (execs [] env) Q E s := by
  w_top off
  first | (walk1; fail) | exact h
end Mine
end FlushHK
section PartHK
open PySem PySem.W PyProof.Rows
namespace Mine
def nth : Nat → List Stmt → Stmt
  | _, [] => .Pass default
  | 0, x :: _ => x
  | n + 1, _ :: xs => nth n xs
noncomputable def fB (i : Nat) : List Stmt := fnBs (nth i pw.main.body)
noncomputable def fP (i : Nat) : Arguments := fnPs (nth i pw.main.body)
noncomputable def fS (i : Nat) : Scope := fnSs (nth i pw.main.body)
noncomputable def y40 : Obj := ⟨(.type "function"), none, .func ⟨(Str.ofString "bisect_right"), (Str.ofString "bisect_right"), fP 2, .stmts (fB 2), fS 2, 3, [], (.ref 32), (.ref 33), .none, (.str (Str.ofString "cpy313.bisect") 282), none, (.ref 39), .none, 0⟩, #[]⟩
noncomputable def x40 (_ : Params) : Obj := (fun (o : Obj) (_ : y40 = o) => o) _ (by dsimp only [y40, fB, fP, fS, fnBs, fnPs, fnSs, pw, PySem.Challenge.pw_ty0053_01, nth])
noncomputable def y49 : Obj := ⟨(.type "function"), none, .func ⟨(Str.ofString "insort_left"), (Str.ofString "insort_left"), fP 3, .stmts (fB 3), fS 3, 3, [], (.ref 41), (.ref 42), .none, (.str (Str.ofString "cpy313.bisect") 282), none, (.ref 48), .none, 0⟩, #[]⟩
noncomputable def x49 (_ : Params) : Obj := (fun (o : Obj) (_ : y49 = o) => o) _ (by dsimp only [y49, fB, fP, fS, fnBs, fnPs, fnSs, pw, PySem.Challenge.pw_ty0053_01, nth])
noncomputable def y58 : Obj := ⟨(.type "function"), none, .func ⟨(Str.ofString "bisect_left"), (Str.ofString "bisect_left"), fP 4, .stmts (fB 4), fS 4, 3, [], (.ref 50), (.ref 51), .none, (.str (Str.ofString "cpy313.bisect") 282), none, (.ref 57), .none, 0⟩, #[]⟩
noncomputable def x58 (_ : Params) : Obj := (fun (o : Obj) (_ : y58 = o) => o) _ (by dsimp only [y58, fB, fP, fS, fnBs, fnPs, fnSs, pw, PySem.Challenge.pw_ty0053_01, nth])
noncomputable def y65 : Obj := ⟨(.type "function"), none, .func ⟨(Str.ofString "rgb_to_hsv"), (Str.ofString "rgb_to_hsv"), fP 6, .stmts (fB 6), fS 6, 3, [], .none, .none, .none, (.str (Str.ofString "cpy313.colorsys") 325), none, (.ref 64), .none, 0⟩, #[]⟩
noncomputable def x65 (_ : Params) : Obj := (fun (o : Obj) (_ : y65 = o) => o) _ (by dsimp only [y65, fB, fP, fS, fnBs, fnPs, fnSs, pw, PySem.Challenge.pw_ty0053_01, nth])
noncomputable def y72 : Obj := ⟨(.type "function"), none, .func ⟨(Str.ofString "hsv_to_rgb"), (Str.ofString "hsv_to_rgb"), fP 7, .stmts (fB 7), fS 7, 3, [], .none, .none, .none, (.str (Str.ofString "cpy313.colorsys") 325), none, (.ref 71), .none, 0⟩, #[]⟩
noncomputable def x72 (_ : Params) : Obj := (fun (o : Obj) (_ : y72 = o) => o) _ (by dsimp only [y72, fB, fP, fS, fnBs, fnPs, fnSs, pw, PySem.Challenge.pw_ty0053_01, nth])
noncomputable def y89 : Obj := ⟨(.type "function"), none, .func ⟨(Str.ofString "quotedata"), (Str.ofString "quotedata"), fP 12, .stmts (fB 12), fS 12, 3, [], .none, .none, .none, (.str (Str.ofString "cpy313.smtplib") 359), none, (.ref 88), .none, 0⟩, #[]⟩
noncomputable def x89 (_ : Params) : Obj := (fun (o : Obj) (_ : y89 = o) => o) _ (by dsimp only [y89, fB, fP, fS, fnBs, fnPs, fnSs, pw, PySem.Challenge.pw_ty0053_01, nth])
noncomputable def y96 : Obj := ⟨(.type "function"), none, .func ⟨(Str.ofString "_fix_eols"), (Str.ofString "_fix_eols"), fP 13, .stmts (fB 13), fS 13, 3, [], .none, .none, .none, (.str (Str.ofString "cpy313.smtplib") 359), none, (.ref 95), .none, 0⟩, #[]⟩
noncomputable def x96 (_ : Params) : Obj := (fun (o : Obj) (_ : y96 = o) => o) _ (by dsimp only [y96, fB, fP, fS, fnBs, fnPs, fnSs, pw, PySem.Challenge.pw_ty0053_01, nth])
noncomputable def y114 : Obj := ⟨(.type "function"), none, .func ⟨(Str.ofString "in_table_b1"), (Str.ofString "in_table_b1"), fP 16, .stmts (fB 16), fS 16, 3, [], .none, .none, .none, (.str (Str.ofString "cpy313.stringprep") 435), none, (.ref 113), .none, 0⟩, #[]⟩
noncomputable def x114 (_ : Params) : Obj := (fun (o : Obj) (_ : y114 = o) => o) _ (by dsimp only [y114, fB, fP, fS, fnBs, fnPs, fnSs, pw, PySem.Challenge.pw_ty0053_01, nth])
noncomputable def y160 : Obj := ⟨(.type "function"), none, .func ⟨(Str.ofString "map_table_b3"), (Str.ofString "map_table_b3"), fP 18, .stmts (fB 18), fS 18, 3, [], .none, .none, .none, (.str (Str.ofString "cpy313.stringprep") 435), none, (.ref 159), .none, 0⟩, #[]⟩
noncomputable def x160 (_ : Params) : Obj := (fun (o : Obj) (_ : y160 = o) => o) _ (by dsimp only [y160, fB, fP, fS, fnBs, fnPs, fnSs, pw, PySem.Challenge.pw_ty0053_01, nth])
noncomputable def y172 : Obj := ⟨(.type "function"), none, .func ⟨(Str.ofString "in_table_c7"), (Str.ofString "in_table_c7"), fP 20, .stmts (fB 20), fS 20, 3, [], .none, .none, .none, (.str (Str.ofString "cpy313.stringprep") 435), none, (.ref 171), .none, 0⟩, #[]⟩
noncomputable def x172 (_ : Params) : Obj := (fun (o : Obj) (_ : y172 = o) => o) _ (by dsimp only [y172, fB, fP, fS, fnBs, fnPs, fnSs, pw, PySem.Challenge.pw_ty0053_01, nth])
noncomputable def y179 : Obj := ⟨(.type "function"), none, .func ⟨(Str.ofString "_law_spelled"), (Str.ofString "_law_spelled"), fP 22, .stmts (fB 22), fS 22, 3, [], .none, .none, .none, (.str (Str.ofString "law_ty0053_01") 2498), none, (.ref 178), .none, 0⟩, #[]⟩
noncomputable def x179 (_ : Params) : Obj := (fun (o : Obj) (_ : y179 = o) => o) _ (by dsimp only [y179, fB, fP, fS, fnBs, fnPs, fnSs, pw, PySem.Challenge.pw_ty0053_01, nth])
noncomputable def y186 : Obj := ⟨(.type "function"), none, .func ⟨(Str.ofString "_law_sweep"), (Str.ofString "_law_sweep"), fP 23, .stmts (fB 23), fS 23, 3, [], .none, .none, .none, (.str (Str.ofString "law_ty0053_01") 2498), none, (.ref 185), .none, 0⟩, #[]⟩
noncomputable def x186 (_ : Params) : Obj := (fun (o : Obj) (_ : y186 = o) => o) _ (by dsimp only [y186, fB, fP, fS, fnBs, fnPs, fnSs, pw, PySem.Challenge.pw_ty0053_01, nth])
noncomputable def y191 : Obj := ⟨(.type "function"), none, .func ⟨(Str.ofString "_law_parked"), (Str.ofString "_law_parked"), fP 24, .stmts (fB 24), fS 24, 3, [], .none, .none, .none, (.str (Str.ofString "law_ty0053_01") 2498), none, (.ref 190), .none, 0⟩, #[]⟩
noncomputable def x191 (_ : Params) : Obj := (fun (o : Obj) (_ : y191 = o) => o) _ (by dsimp only [y191, fB, fP, fS, fnBs, fnPs, fnSs, pw, PySem.Challenge.pw_ty0053_01, nth])
noncomputable def y198 : Obj := ⟨(.type "function"), none, .func ⟨(Str.ofString "_law_described"), (Str.ofString "_law_described"), fP 25, .stmts (fB 25), fS 25, 3, [], .none, .none, .none, (.str (Str.ofString "law_ty0053_01") 2498), none, (.ref 197), .none, 0⟩, #[]⟩
noncomputable def x198 (_ : Params) : Obj := (fun (o : Obj) (_ : y198 = o) => o) _ (by dsimp only [y198, fB, fP, fS, fnBs, fnPs, fnSs, pw, PySem.Challenge.pw_ty0053_01, nth])
noncomputable def y203 : Obj := ⟨(.type "function"), none, .func ⟨(Str.ofString "law"), (Str.ofString "law"), fP 26, .stmts (fB 26), fS 26, 3, [], .none, .none, .none, (.str (Str.ofString "law_ty0053_01") 2498), none, (.ref 202), .none, 0⟩, #[]⟩
noncomputable def x203 (_ : Params) : Obj := (fun (o : Obj) (_ : y203 = o) => o) _ (by dsimp only [y203, fB, fP, fS, fnBs, fnPs, fnSs, pw, PySem.Challenge.pw_ty0053_01, nth])
def nmF : Value := .str (Str.ofString "law_ty0053_01") 2498
noncomputable def o3 (P : Params) : Obj := ⟨.type "dict", none, .dict (mainAll P nmF).toArray 31, #[]⟩
noncomputable def o115 (_ : Params) : Obj := ⟨.type "dict", none, .dict b3All.toArray 650, #[]⟩
noncomputable def kF (P : Params) : Frag := (nat_lit 2, o2 P) :: (nat_lit 3, o3 P) :: (nat_lit 6, o6 P) :: (nat_lit 11, o11 P) :: (nat_lit 12, o12 P) :: (nat_lit 32, o32 P) :: (nat_lit 33, o33 P) :: (nat_lit 34, o34 P) :: (nat_lit 36, o36 P) :: (nat_lit 37, o37 P) :: (nat_lit 39, o39 P) :: (nat_lit 40, x40 P) :: (nat_lit 41, o41 P) :: (nat_lit 42, o42 P) :: (nat_lit 43, o43 P) :: (nat_lit 45, o45 P) :: (nat_lit 46, o46 P) :: (nat_lit 48, o48 P) :: (nat_lit 49, x49 P) :: (nat_lit 50, o50 P) :: (nat_lit 51, o51 P) :: (nat_lit 52, o52 P) :: (nat_lit 54, o54 P) :: (nat_lit 55, o55 P) :: (nat_lit 57, o57 P) :: (nat_lit 58, x58 P) :: (nat_lit 59, o59 P) :: (nat_lit 61, o61 P) :: (nat_lit 62, o62 P) :: (nat_lit 64, o64 P) :: (nat_lit 65, x65 P) :: (nat_lit 66, o66 P) :: (nat_lit 68, o68 P) :: (nat_lit 69, o69 P) :: (nat_lit 71, o71 P) :: (nat_lit 72, x72 P) :: (nat_lit 76, o76 P) :: (nat_lit 77, o77 P) :: (nat_lit 81, o81 P) :: (nat_lit 82, o82 P) :: (nat_lit 83, o83 P) :: (nat_lit 85, o85 P) :: (nat_lit 86, o86 P) :: (nat_lit 88, o88 P) :: (nat_lit 89, x89 P) :: (nat_lit 90, o90 P) :: (nat_lit 92, o92 P) :: (nat_lit 93, o93 P) :: (nat_lit 95, o95 P) :: (nat_lit 96, x96 P) :: (nat_lit 104, o104 P) :: (nat_lit 108, o108 P) :: (nat_lit 110, o110 P) :: (nat_lit 111, o111 P) :: (nat_lit 113, o113 P) :: (nat_lit 114, x114 P) :: (nat_lit 115, o115 P) :: (nat_lit 154, o154 P) :: (nat_lit 156, o156 P) :: (nat_lit 157, o157 P) :: (nat_lit 159, o159 P) :: (nat_lit 160, x160 P) :: (nat_lit 162, o162 P) :: (nat_lit 166, o166 P) :: (nat_lit 168, o168 P) :: (nat_lit 169, o169 P) :: (nat_lit 171, o171 P) :: (nat_lit 172, x172 P) :: (nat_lit 173, o173 P) :: (nat_lit 175, o175 P) :: (nat_lit 176, o176 P) :: (nat_lit 178, o178 P) :: (nat_lit 179, x179 P) :: (nat_lit 180, o180 P) :: (nat_lit 182, o182 P) :: (nat_lit 183, o183 P) :: (nat_lit 185, o185 P) :: (nat_lit 186, x186 P) :: (nat_lit 187, o187 P) :: (nat_lit 190, o190 P) :: (nat_lit 191, x191 P) :: (nat_lit 192, o192 P) :: (nat_lit 194, o194 P) :: (nat_lit 195, o195 P) :: (nat_lit 197, o197 P) :: (nat_lit 198, x198 P) :: (nat_lit 199, o199 P) :: (nat_lit 202, o202 P) :: (nat_lit 203, x203 P) :: []
noncomputable def kAs : List Addr := [2, 3, 6, 11, 12, 32, 33, 34, 36, 37, 39, 40, 41, 42, 43, 45, 46, 48, 49, 50, 51, 52, 54, 55, 57, 58, 59, 61, 62, 64, 65, 66, 68, 69, 71, 72, 76, 77, 81, 82, 83, 85, 86, 88, 89, 90, 92, 93, 95, 96, 104, 108, 110, 111, 113, 114, 115, 154, 156, 157, 159, 160, 162, 166, 168, 169, 171, 172, 173, 175, 176, 178, 179, 180, 182, 183, 185, 186, 187, 190, 191, 192, 194, 195, 197, 198, 199, 202, 203]
def vq : Program := { pw with main := { pw.main with body := [0,1,5,6,7,8,11,12,13,14,16,18,20,21,22,23,24,25,26].map fun i => nth i pw.main.body } }
abbrev lz : List PySem.Str := [Str.ofString "bisect_right", Str.ofString "insort_left", Str.ofString "bisect_left", Str.ofString "_twin_re_1",
      Str.ofString "_twin_re_2", Str.ofString "b1_set", Str.ofString "b3_exceptions", Str.ofString "c7_set"]
abbrev rwl : OpenLaw := PySem.Challenge.rw_ty0053_01
theorem kAs_eq (P : Params) : kAs = (kF P).map (·.1) := rfl
noncomputable def hK : Hook := kmHook kF kAs kAs_eq [188]
end Mine

end PartHK

section FlushHL
open PySem PySem.W PyProof.Rows PySem.Calls
namespace Mine
theorem start_HL {prog : Program} {w : World} {A : Around} {E : Value → Shared → Prop} {s : Shared} {env : Env} {Q : Flow → Shared → Prop} (h : wpAny (model prog w) A (execs [] env) Q E s) : wpAny (model prog w) A (execs [] env) Q E s := by
  w_top off
  first | (walk1; fail) | exact h
end Mine
end FlushHL
section PartHL
open PySem PySem.W PyProof.Rows
namespace Mine
noncomputable def nm0 : Value := .str (Str.ofString "__main__") 164
noncomputable def H0 (P : Params) : Heap := absHeap (TF P (mainObj P nm0 10) (tabsObj 0) bAll) 28 life0
noncomputable def HF (P : Params) : Heap := absHeap (TF P (mainObj P nmF 31) (tabsObj 45) bAll) 204 life0
noncomputable abbrev modsI : List Str := importedModules pw.main.body
noncomputable abbrev xtF : Shared → Bool := fun s => xlAt vq [] s && recOk (RowW.records rwl.row.toRowW) s
theorem look1 : ∀ (w : World) (os : OsState), (staticsOk modsI (H0 w.params) (HF w.params) && namesBound pw (HF w.params) && gensDone ⟨HF w.params, #[], {}, 2547, os⟩ && laidKept (H0 w.params) (HF w.params)) = true := by
  intro w os
  kernel_rfl
theorem look3 : ∀ (w : World) (os : OsState), hK.obs ⟨HF w.params, #[], {}, 2547, os⟩ = hK.val w := by
  intro w os
  kernel_rfl
theorem look2 : ∀ (w : World) (os : OsState), openSeen vq lz modsI xtF true ⟨HF w.params, #[], {}, 2547, os⟩ = openGood vq lz := by
  intro w os
  kernel_rfl
end Mine

end PartHL

section FlushHF
open PySem PySem.W PyProof.Rows PySem.Calls
namespace Mine
theorem start_HF {prog : Program} {w : World} {A : Around} {E : Value → Shared → Prop} {s : Shared} {env : Env} {Q : Flow → Shared → Prop} (h : wpAny (model prog w) A (execs [] env) Q E s) : wpAny (model prog w) A (execs [] env) Q E s := by
  w_top off
  first | (walk1; fail) | exact h
end Mine
end FlushHF
section PartHF
open PySem PySem.W PyProof.Rows
namespace Mine
theorem open_H : ∀ w : World, (fencedOpening treeTable pw w 30000).map (fun s => (s.heap, s.gens, s.drawn, s.toks)) = some (H0 w.params, #[], {}, 276) := by
  intro w
  kernel_rfl
theorem size_H : ∀ w : World, ((H0 w.params).isNs mainGlobals && (#[] : Array GenState).size == 0, (H0 w.params).objs.size, (H0 w.params).nsMap mainGlobals "__annotations__") = (true, 28, ann0) := by
  intro w
  kernel_rfl
theorem pre_H : ∀ (w : World) (os : OsState), topGo treeTable pw w 28 ann0 12 (S0 w os).abs (topStub pw) = some ((S1 w os).abs, ⟨denote treeTable cE, cE, p1, B0⟩) := by
  intro w os
  kernel_rfl
theorem block_H : ∀ (w : World) (os : OsState), segRun treeTable pw w 28 ann0 1 1 (S1 w os).abs (blockOf (behindTheImports pw) env0 cE p1 B0) = some (.next, (S2 w os).abs, cE, p2) := by
  intro w os
  kernel_rfl
theorem quickly {w : World} {n : Nat} {S : OsState → SharedT} {st : List Stmt} {p : Pos} {R : OsState → Option (Flow × SharedT × Code × Pos)}
    (h : (fun os => PySem.W.Fast.tw10110043849684766642 PySem.W.Fast.tw14364793385576792824 pw w 28 ann0 1 n (S os) ⟨(PySem.W.Fast.tw12563942051412417395 st env0).wrap doneF deadEnd id id, cE, p, B0⟩) = R) :
    (fun os => segRunT treeTable pw w 28 ann0 1 n (S os) (piecesOf st env0 cE p B0)) = R := by
  rw [← h, PySem.W.Fast.te10110043849684766642, PySem.W.Fast.te14364793385576792824, ← PySem.W.Fast.te12563942051412417395]
theorem quickly1 {w : World} {n : Nat} {S : SharedT} {st : List Stmt} {p : Pos} {R : Option (Flow × SharedT × Code × Pos)}
    (h : PySem.W.Fast.tw10110043849684766642 PySem.W.Fast.tw14364793385576792824 pw w 28 ann0 1 n S ⟨(PySem.W.Fast.tw12563942051412417395 st env0).wrap doneF deadEnd id id, cE, p, B0⟩ = R) :
    segRunT treeTable pw w 28 ann0 1 n S (piecesOf st env0 cE p B0) = R := by
  rw [← h, PySem.W.Fast.te10110043849684766642, PySem.W.Fast.te14364793385576792824, ← PySem.W.Fast.te12563942051412417395]
theorem pieceT1 : ∀ (w : World) (os : OsState), segRunT treeTable pw w 28 ann0 1 10 (S2 w os) (piecesOf [stAt 1] env0 cE p2 B0) = some (.next, S3 w os, cE, p3) := by
  intro w os
  kernel_rfl
theorem piece1 (w : World) (os : OsState) : segRun treeTable pw w 28 ann0 1 10 (S2 w os).abs (piecesOf [stAt 1] env0 cE p2 B0) = some (.next, (S3 w os).abs, cE, p3) := segRun_of (pieceT1 w os)
theorem pieceT2 : ∀ (w : World) (os : OsState), segRunT treeTable pw w 28 ann0 1 42 (S3 w os) (piecesOf [stAt 2] env0 cE p3 B0) = some (.next, S4 w os, cE, p4) := by
  intro w os
  kernel_rfl
theorem piece2 (w : World) (os : OsState) : segRun treeTable pw w 28 ann0 1 42 (S3 w os).abs (piecesOf [stAt 2] env0 cE p3 B0) = some (.next, (S4 w os).abs, cE, p4) := segRun_of (pieceT2 w os)
theorem pieceT3 : ∀ (w : World) (os : OsState), segRunT treeTable pw w 28 ann0 1 41 (S4 w os) (piecesOf [stAt 3] env0 cE p4 B0) = some (.next, S5 w os, cE, p5) := by
  intro w os
  kernel_rfl
theorem piece3 (w : World) (os : OsState) : segRun treeTable pw w 28 ann0 1 41 (S4 w os).abs (piecesOf [stAt 3] env0 cE p4 B0) = some (.next, (S5 w os).abs, cE, p5) := segRun_of (pieceT3 w os)
theorem pieceT4 : ∀ (w : World) (os : OsState), segRunT treeTable pw w 28 ann0 1 42 (S5 w os) (piecesOf [stAt 4] env0 cE p5 B0) = some (.next, S6 w os, cE, p6) := by
  intro w os
  kernel_rfl
theorem piece4 (w : World) (os : OsState) : segRun treeTable pw w 28 ann0 1 42 (S5 w os).abs (piecesOf [stAt 4] env0 cE p5 B0) = some (.next, (S6 w os).abs, cE, p6) := segRun_of (pieceT4 w os)
theorem pieceT5 : ∀ (w : World) (os : OsState), segRunT treeTable pw w 28 ann0 1 10 (S6 w os) (piecesOf [stAt 5] env0 cE p6 B0) = some (.next, S7 w os, cE, p7) := by
  intro w os
  kernel_rfl
theorem piece5 (w : World) (os : OsState) : segRun treeTable pw w 28 ann0 1 10 (S6 w os).abs (piecesOf [stAt 5] env0 cE p6 B0) = some (.next, (S7 w os).abs, cE, p7) := segRun_of (pieceT5 w os)
theorem pieceT6 : ∀ (w : World) (os : OsState), segRunT treeTable pw w 28 ann0 1 41 (S7 w os) (piecesOf [stAt 6] env0 cE p7 B0) = some (.next, S8 w os, cE, p8) := by
  intro w os
  kernel_rfl
theorem piece6 (w : World) (os : OsState) : segRun treeTable pw w 28 ann0 1 41 (S7 w os).abs (piecesOf [stAt 6] env0 cE p7 B0) = some (.next, (S8 w os).abs, cE, p8) := segRun_of (pieceT6 w os)
theorem pieceT7 : ∀ (w : World) (os : OsState), segRunT treeTable pw w 28 ann0 1 37 (S8 w os) (piecesOf [stAt 7] env0 cE p8 B0) = some (.next, S9 w os, cE, p9) := by
  intro w os
  kernel_rfl
theorem piece7 (w : World) (os : OsState) : segRun treeTable pw w 28 ann0 1 37 (S8 w os).abs (piecesOf [stAt 7] env0 cE p8 B0) = some (.next, (S9 w os).abs, cE, p9) := segRun_of (pieceT7 w os)
theorem pieceT8 : ∀ (w : World) (os : OsState), segRunT treeTable pw w 28 ann0 1 10 (S9 w os) (piecesOf [stAt 8] env0 cE p9 B0) = some (.next, S10 w os, cE, p10) := by
  intro w os
  kernel_rfl
theorem piece8 (w : World) (os : OsState) : segRun treeTable pw w 28 ann0 1 10 (S9 w os).abs (piecesOf [stAt 8] env0 cE p9 B0) = some (.next, (S10 w os).abs, cE, p10) := segRun_of (pieceT8 w os)
theorem pieceT9 : ∀ (w : World) (os : OsState), segRunT treeTable pw w 28 ann0 1 60 (S10 w os) (piecesOf [stAt 9] env0 cE p10 B0) = some (.next, S11 w os, cE, p11) := by
  intro w os
  refine quickly1 ?_
  kernel_rfl
theorem piece9 (w : World) (os : OsState) : segRun treeTable pw w 28 ann0 1 60 (S10 w os).abs (piecesOf [stAt 9] env0 cE p10 B0) = some (.next, (S11 w os).abs, cE, p11) := segRun_of (pieceT9 w os)
theorem pieceT10 : ∀ (w : World) (os : OsState), segRunT treeTable pw w 28 ann0 1 86 (S11 w os) (piecesOf [stAt 10] env0 cE p11 B0) = some (.next, S12 w os, cE, p12) := by
  intro w os
  refine quickly1 ?_
  kernel_rfl
theorem piece10 (w : World) (os : OsState) : segRun treeTable pw w 28 ann0 1 86 (S11 w os).abs (piecesOf [stAt 10] env0 cE p11 B0) = some (.next, (S12 w os).abs, cE, p12) := segRun_of (pieceT10 w os)
theorem pieceT11 : ∀ (w : World) (os : OsState), segRunT treeTable pw w 28 ann0 1 10 (S12 w os) (piecesOf [stAt 11] env0 cE p12 B0) = some (.next, S13 w os, cE, p13) := by
  intro w os
  kernel_rfl
theorem piece11 (w : World) (os : OsState) : segRun treeTable pw w 28 ann0 1 10 (S12 w os).abs (piecesOf [stAt 11] env0 cE p12 B0) = some (.next, (S13 w os).abs, cE, p13) := segRun_of (pieceT11 w os)
theorem pieceT12 : ∀ (w : World) (os : OsState), segRunT treeTable pw w 28 ann0 1 30 (S13 w os) (piecesOf [stAt 12] env0 cE p13 B0) = some (.next, S14 w os, cE, p14) := by
  intro w os
  kernel_rfl
theorem piece12 (w : World) (os : OsState) : segRun treeTable pw w 28 ann0 1 30 (S13 w os).abs (piecesOf [stAt 12] env0 cE p13 B0) = some (.next, (S14 w os).abs, cE, p14) := segRun_of (pieceT12 w os)
theorem pieceT13 : ∀ (w : World) (os : OsState), segRunT treeTable pw w 28 ann0 1 30 (S14 w os) (piecesOf [stAt 13] env0 cE p14 B0) = some (.next, S15 w os, cE, p15) := by
  intro w os
  kernel_rfl
theorem piece13 (w : World) (os : OsState) : segRun treeTable pw w 28 ann0 1 30 (S14 w os).abs (piecesOf [stAt 13] env0 cE p14 B0) = some (.next, (S15 w os).abs, cE, p15) := segRun_of (pieceT13 w os)
theorem pieceT14 : ∀ (w : World) (os : OsState), segRunT treeTable pw w 28 ann0 1 10 (S15 w os) (piecesOf [stAt 14] env0 cE p15 B0) = some (.next, S16 w os, cE, p16) := by
  intro w os
  kernel_rfl
theorem piece14 (w : World) (os : OsState) : segRun treeTable pw w 28 ann0 1 10 (S15 w os).abs (piecesOf [stAt 14] env0 cE p15 B0) = some (.next, (S16 w os).abs, cE, p16) := segRun_of (pieceT14 w os)
noncomputable abbrev P15 (w : World) : Prop := (fun os => segRunT treeTable pw w 28 ann0 1 999 (S16 w os) (piecesOf [stAt 15] env0 cE p16 B0)) = (fun os => some (.next, S17 w os, cE, p17))
theorem ff15 (w : World) : P15 ((w.withFollow "special-get-raises" false).withFollow "set-order" false) := quickly (by kernel_rfl)
theorem tf15 (w : World) : P15 ((w.withFollow "special-get-raises" true).withFollow "set-order" false) := quickly (by kernel_rfl)
theorem ft15 (w : World) : P15 ((w.withFollow "special-get-raises" false).withFollow "set-order" true) := quickly (by kernel_rfl)
theorem tt15 (w : World) : P15 ((w.withFollow "special-get-raises" true).withFollow "set-order" true) := quickly (by kernel_rfl)
theorem pieceT15 : ∀ w : World, P15 w := byRow2 "set-order" (byRow2 "special-get-raises" ff15 tf15) (byRow2 "special-get-raises" ft15 tt15)
theorem piece15 (w : World) (os : OsState) : segRun treeTable pw w 28 ann0 1 999 (S16 w os).abs (piecesOf [stAt 15] env0 cE p16 B0) = some (.next, (S17 w os).abs, cE, p17) := segRun_of (congrFun (pieceT15 w) os)
theorem pieceT16 : ∀ (w : World) (os : OsState), segRunT treeTable pw w 28 ann0 1 30 (S17 w os) (piecesOf [stAt 16] env0 cE p17 B0) = some (.next, S18 w os, cE, p18) := by
  intro w os
  kernel_rfl
theorem piece16 (w : World) (os : OsState) : segRun treeTable pw w 28 ann0 1 30 (S17 w os).abs (piecesOf [stAt 16] env0 cE p17 B0) = some (.next, (S18 w os).abs, cE, p18) := segRun_of (pieceT16 w os)
theorem pieceT18 : ∀ (w : World) (os : OsState), segRunT treeTable pw w 28 ann0 1 31 (S19 w os) (piecesOf [stAt 18] env0 cE p19 B0) = some (.next, S20 w os, cE, p20) := by
  intro w os
  kernel_rfl
theorem piece18 (w : World) (os : OsState) : segRun treeTable pw w 28 ann0 1 31 (S19 w os).abs (piecesOf [stAt 18] env0 cE p19 B0) = some (.next, (S20 w os).abs, cE, p20) := segRun_of (pieceT18 w os)
theorem pieceT19 : ∀ (w : World), (fun os => segRunT treeTable pw w 28 ann0 1 361 (S20 w os) (piecesOf [stAt 19] env0 cE p20 B0)) = (fun os => some (.next, S21 w os, cE, p21)) :=
  byRow2 "set-order" (byRow2 "special-get-raises" (fun w => quickly (by kernel_rfl)) (fun w => quickly (by kernel_rfl))) (byRow2 "special-get-raises" (fun w => quickly (by kernel_rfl)) (fun w => quickly (by kernel_rfl)))
theorem piece19 (w : World) (os : OsState) : segRun treeTable pw w 28 ann0 1 361 (S20 w os).abs (piecesOf [stAt 19] env0 cE p20 B0) = some (.next, (S21 w os).abs, cE, p21) := segRun_of (congrFun (pieceT19 w) os)
theorem pieceT20 : ∀ (w : World) (os : OsState), segRunT treeTable pw w 28 ann0 1 30 (S21 w os) (piecesOf [stAt 20] env0 cE p21 B0) = some (.next, S22 w os, cE, p22) := by
  intro w os
  kernel_rfl
theorem piece20 (w : World) (os : OsState) : segRun treeTable pw w 28 ann0 1 30 (S21 w os).abs (piecesOf [stAt 20] env0 cE p21 B0) = some (.next, (S22 w os).abs, cE, p22) := segRun_of (pieceT20 w os)
theorem pieceT21 : ∀ (w : World) (os : OsState), segRunT treeTable pw w 28 ann0 1 10 (S22 w os) (piecesOf [stAt 21] env0 cE p22 B0) = some (.next, S23 w os, cE, p23) := by
  intro w os
  kernel_rfl
theorem piece21 (w : World) (os : OsState) : segRun treeTable pw w 28 ann0 1 10 (S22 w os).abs (piecesOf [stAt 21] env0 cE p22 B0) = some (.next, (S23 w os).abs, cE, p23) := segRun_of (pieceT21 w os)
theorem pieceT22 : ∀ (w : World) (os : OsState), segRunT treeTable pw w 28 ann0 1 34 (S23 w os) (piecesOf [stAt 22] env0 cE p23 B0) = some (.next, S24 w os, cE, p24) := by
  intro w os
  kernel_rfl
theorem piece22 (w : World) (os : OsState) : segRun treeTable pw w 28 ann0 1 34 (S23 w os).abs (piecesOf [stAt 22] env0 cE p23 B0) = some (.next, (S24 w os).abs, cE, p24) := segRun_of (pieceT22 w os)
theorem pieceT23 : ∀ (w : World) (os : OsState), segRunT treeTable pw w 28 ann0 1 35 (S24 w os) (piecesOf [stAt 23] env0 cE p24 B0) = some (.next, S25 w os, cE, p25) := by
  intro w os
  kernel_rfl
theorem piece23 (w : World) (os : OsState) : segRun treeTable pw w 28 ann0 1 35 (S24 w os).abs (piecesOf [stAt 23] env0 cE p24 B0) = some (.next, (S25 w os).abs, cE, p25) := segRun_of (pieceT23 w os)
theorem pieceT24 : ∀ (w : World) (os : OsState), segRunT treeTable pw w 28 ann0 1 27 (S25 w os) (piecesOf [stAt 24] env0 cE p25 B0) = some (.next, S26 w os, cE, p26) := by
  intro w os
  kernel_rfl
theorem piece24 (w : World) (os : OsState) : segRun treeTable pw w 28 ann0 1 27 (S25 w os).abs (piecesOf [stAt 24] env0 cE p25 B0) = some (.next, (S26 w os).abs, cE, p26) := segRun_of (pieceT24 w os)
theorem pieceT25 : ∀ (w : World) (os : OsState), segRunT treeTable pw w 28 ann0 1 35 (S26 w os) (piecesOf [stAt 25] env0 cE p26 B0) = some (.next, S27 w os, cE, p27) := by
  intro w os
  kernel_rfl
theorem piece25 (w : World) (os : OsState) : segRun treeTable pw w 28 ann0 1 35 (S26 w os).abs (piecesOf [stAt 25] env0 cE p26 B0) = some (.next, (S27 w os).abs, cE, p27) := segRun_of (pieceT25 w os)
theorem pieceT26 : ∀ (w : World) (os : OsState), segRunT treeTable pw w 28 ann0 1 27 (S27 w os) (piecesOf [stAt 26] env0 cE p27 B0) = some (.next, S28 w os, cE, p28) := by
  intro w os
  kernel_rfl
theorem piece26 (w : World) (os : OsState) : segRun treeTable pw w 28 ann0 1 27 (S27 w os).abs (piecesOf [stAt 26] env0 cE p27 B0) = some (.next, (S28 w os).abs, cE, p28) := segRun_of (pieceT26 w os)
theorem fin_H (w : World) (os : OsState) : topRun treeTable pw w 28 ann0 2 (S28 w os).abs ⟨doneF .next, cE, p28, B0⟩ = some (S28 w os).abs := by kernel_rfl
theorem behind_eq : behindTheImports pw = [stAt 1, stAt 2, stAt 3, stAt 4, stAt 5, stAt 6, stAt 7, stAt 8, stAt 9, stAt 10, stAt 11, stAt 12, stAt 13, stAt 14, stAt 15, stAt 16, stAt 17, stAt 18, stAt 19, stAt 20, stAt 21, stAt 22, stAt 23, stAt 24, stAt 25, stAt 26] := by kernel_rfl
theorem rest27 (w : World) (os : OsState) : topRun treeTable pw w 28 ann0 2 (S28 w os).abs (restOf [] env0 cE p28 B0) = some (S28 w os).abs := piece_nil (fin_H w os)
theorem rest26 (w : World) (os : OsState) : topRun treeTable pw w 28 ann0 (27 + 2) (S27 w os).abs (restOf [stAt 26] env0 cE p27 B0) = some (S28 w os).abs :=
  piece_app (l := [stAt 26]) (rest := []) (piece26 w os) (rest27 w os)
theorem rest25 (w : World) (os : OsState) : topRun treeTable pw w 28 ann0 (35 + (27 + 2)) (S26 w os).abs (restOf [stAt 25, stAt 26] env0 cE p26 B0) = some (S28 w os).abs :=
  piece_app (l := [stAt 25]) (rest := [stAt 26]) (piece25 w os) (rest26 w os)
theorem rest24 (w : World) (os : OsState) : topRun treeTable pw w 28 ann0 (27 + (35 + (27 + 2))) (S25 w os).abs (restOf [stAt 24, stAt 25, stAt 26] env0 cE p25 B0) = some (S28 w os).abs :=
  piece_app (l := [stAt 24]) (rest := [stAt 25, stAt 26]) (piece24 w os) (rest25 w os)
theorem rest23 (w : World) (os : OsState) : topRun treeTable pw w 28 ann0 (35 + (27 + (35 + (27 + 2)))) (S24 w os).abs (restOf [stAt 23, stAt 24, stAt 25, stAt 26] env0 cE p24 B0) = some (S28 w os).abs :=
  piece_app (l := [stAt 23]) (rest := [stAt 24, stAt 25, stAt 26]) (piece23 w os) (rest24 w os)
theorem rest22 (w : World) (os : OsState) : topRun treeTable pw w 28 ann0 (34 + (35 + (27 + (35 + (27 + 2))))) (S23 w os).abs (restOf [stAt 22, stAt 23, stAt 24, stAt 25, stAt 26] env0 cE p23 B0) = some (S28 w os).abs :=
  piece_app (l := [stAt 22]) (rest := [stAt 23, stAt 24, stAt 25, stAt 26]) (piece22 w os) (rest23 w os)
theorem rest21 (w : World) (os : OsState) : topRun treeTable pw w 28 ann0 (10 + (34 + (35 + (27 + (35 + (27 + 2)))))) (S22 w os).abs (restOf [stAt 21, stAt 22, stAt 23, stAt 24, stAt 25, stAt 26] env0 cE p22 B0) = some (S28 w os).abs :=
  piece_app (l := [stAt 21]) (rest := [stAt 22, stAt 23, stAt 24, stAt 25, stAt 26]) (piece21 w os) (rest22 w os)
theorem rest20 (w : World) (os : OsState) : topRun treeTable pw w 28 ann0 (30 + (10 + (34 + (35 + (27 + (35 + (27 + 2))))))) (S21 w os).abs (restOf [stAt 20, stAt 21, stAt 22, stAt 23, stAt 24, stAt 25, stAt 26] env0 cE p21 B0) = some (S28 w os).abs :=
  piece_app (l := [stAt 20]) (rest := [stAt 21, stAt 22, stAt 23, stAt 24, stAt 25, stAt 26]) (piece20 w os) (rest21 w os)
theorem rest19 (w : World) (os : OsState) : topRun treeTable pw w 28 ann0 (361 + (30 + (10 + (34 + (35 + (27 + (35 + (27 + 2)))))))) (S20 w os).abs (restOf [stAt 19, stAt 20, stAt 21, stAt 22, stAt 23, stAt 24, stAt 25, stAt 26] env0 cE p20 B0) = some (S28 w os).abs :=
  piece_app (l := [stAt 19]) (rest := [stAt 20, stAt 21, stAt 22, stAt 23, stAt 24, stAt 25, stAt 26]) (piece19 w os) (rest20 w os)
theorem rest18 (w : World) (os : OsState) : topRun treeTable pw w 28 ann0 (31 + (361 + (30 + (10 + (34 + (35 + (27 + (35 + (27 + 2))))))))) (S19 w os).abs (restOf [stAt 18, stAt 19, stAt 20, stAt 21, stAt 22, stAt 23, stAt 24, stAt 25, stAt 26] env0 cE p19 B0) = some (S28 w os).abs :=
  piece_app (l := [stAt 18]) (rest := [stAt 19, stAt 20, stAt 21, stAt 22, stAt 23, stAt 24, stAt 25, stAt 26]) (piece18 w os) (rest19 w os)
theorem rest17 (w : World) (os : OsState) : topRun treeTable pw w 28 ann0 ((0 + 82 + 330 * 37 + 223 + 2 + 10) + (31 + (361 + (30 + (10 + (34 + (35 + (27 + (35 + (27 + 2)))))))))) (S18 w os).abs (restOf [stAt 17, stAt 18, stAt 19, stAt 20, stAt 21, stAt 22, stAt 23, stAt 24, stAt 25, stAt 26] env0 cE p18 B0) = some (S28 w os).abs :=
  piece_app (l := [stAt 17]) (rest := [stAt 18, stAt 19, stAt 20, stAt 21, stAt 22, stAt 23, stAt 24, stAt 25, stAt 26]) (piece17 w os) (rest18 w os)
theorem rest16 (w : World) (os : OsState) : topRun treeTable pw w 28 ann0 (30 + ((0 + 82 + 330 * 37 + 223 + 2 + 10) + (31 + (361 + (30 + (10 + (34 + (35 + (27 + (35 + (27 + 2))))))))))) (S17 w os).abs (restOf [stAt 16, stAt 17, stAt 18, stAt 19, stAt 20, stAt 21, stAt 22, stAt 23, stAt 24, stAt 25, stAt 26] env0 cE p17 B0) = some (S28 w os).abs :=
  piece_app (l := [stAt 16]) (rest := [stAt 17, stAt 18, stAt 19, stAt 20, stAt 21, stAt 22, stAt 23, stAt 24, stAt 25, stAt 26]) (piece16 w os) (rest17 w os)
theorem rest15 (w : World) (os : OsState) : topRun treeTable pw w 28 ann0 (999 + (30 + ((0 + 82 + 330 * 37 + 223 + 2 + 10) + (31 + (361 + (30 + (10 + (34 + (35 + (27 + (35 + (27 + 2)))))))))))) (S16 w os).abs (restOf [stAt 15, stAt 16, stAt 17, stAt 18, stAt 19, stAt 20, stAt 21, stAt 22, stAt 23, stAt 24, stAt 25, stAt 26] env0 cE p16 B0) = some (S28 w os).abs :=
  piece_app (l := [stAt 15]) (rest := [stAt 16, stAt 17, stAt 18, stAt 19, stAt 20, stAt 21, stAt 22, stAt 23, stAt 24, stAt 25, stAt 26]) (piece15 w os) (rest16 w os)
theorem rest14 (w : World) (os : OsState) : topRun treeTable pw w 28 ann0 (10 + (999 + (30 + ((0 + 82 + 330 * 37 + 223 + 2 + 10) + (31 + (361 + (30 + (10 + (34 + (35 + (27 + (35 + (27 + 2))))))))))))) (S15 w os).abs (restOf [stAt 14, stAt 15, stAt 16, stAt 17, stAt 18, stAt 19, stAt 20, stAt 21, stAt 22, stAt 23, stAt 24, stAt 25, stAt 26] env0 cE p15 B0) = some (S28 w os).abs :=
  piece_app (l := [stAt 14]) (rest := [stAt 15, stAt 16, stAt 17, stAt 18, stAt 19, stAt 20, stAt 21, stAt 22, stAt 23, stAt 24, stAt 25, stAt 26]) (piece14 w os) (rest15 w os)
theorem rest13 (w : World) (os : OsState) : topRun treeTable pw w 28 ann0 (30 + (10 + (999 + (30 + ((0 + 82 + 330 * 37 + 223 + 2 + 10) + (31 + (361 + (30 + (10 + (34 + (35 + (27 + (35 + (27 + 2)))))))))))))) (S14 w os).abs (restOf [stAt 13, stAt 14, stAt 15, stAt 16, stAt 17, stAt 18, stAt 19, stAt 20, stAt 21, stAt 22, stAt 23, stAt 24, stAt 25, stAt 26] env0 cE p14 B0) = some (S28 w os).abs :=
  piece_app (l := [stAt 13]) (rest := [stAt 14, stAt 15, stAt 16, stAt 17, stAt 18, stAt 19, stAt 20, stAt 21, stAt 22, stAt 23, stAt 24, stAt 25, stAt 26]) (piece13 w os) (rest14 w os)
theorem rest12 (w : World) (os : OsState) : topRun treeTable pw w 28 ann0 (30 + (30 + (10 + (999 + (30 + ((0 + 82 + 330 * 37 + 223 + 2 + 10) + (31 + (361 + (30 + (10 + (34 + (35 + (27 + (35 + (27 + 2))))))))))))))) (S13 w os).abs (restOf [stAt 12, stAt 13, stAt 14, stAt 15, stAt 16, stAt 17, stAt 18, stAt 19, stAt 20, stAt 21, stAt 22, stAt 23, stAt 24, stAt 25, stAt 26] env0 cE p13 B0) = some (S28 w os).abs :=
  piece_app (l := [stAt 12]) (rest := [stAt 13, stAt 14, stAt 15, stAt 16, stAt 17, stAt 18, stAt 19, stAt 20, stAt 21, stAt 22, stAt 23, stAt 24, stAt 25, stAt 26]) (piece12 w os) (rest13 w os)
theorem rest11 (w : World) (os : OsState) : topRun treeTable pw w 28 ann0 (10 + (30 + (30 + (10 + (999 + (30 + ((0 + 82 + 330 * 37 + 223 + 2 + 10) + (31 + (361 + (30 + (10 + (34 + (35 + (27 + (35 + (27 + 2)))))))))))))))) (S12 w os).abs (restOf [stAt 11, stAt 12, stAt 13, stAt 14, stAt 15, stAt 16, stAt 17, stAt 18, stAt 19, stAt 20, stAt 21, stAt 22, stAt 23, stAt 24, stAt 25, stAt 26] env0 cE p12 B0) = some (S28 w os).abs :=
  piece_app (l := [stAt 11]) (rest := [stAt 12, stAt 13, stAt 14, stAt 15, stAt 16, stAt 17, stAt 18, stAt 19, stAt 20, stAt 21, stAt 22, stAt 23, stAt 24, stAt 25, stAt 26]) (piece11 w os) (rest12 w os)
theorem rest10 (w : World) (os : OsState) : topRun treeTable pw w 28 ann0 (86 + (10 + (30 + (30 + (10 + (999 + (30 + ((0 + 82 + 330 * 37 + 223 + 2 + 10) + (31 + (361 + (30 + (10 + (34 + (35 + (27 + (35 + (27 + 2))))))))))))))))) (S11 w os).abs (restOf [stAt 10, stAt 11, stAt 12, stAt 13, stAt 14, stAt 15, stAt 16, stAt 17, stAt 18, stAt 19, stAt 20, stAt 21, stAt 22, stAt 23, stAt 24, stAt 25, stAt 26] env0 cE p11 B0) = some (S28 w os).abs :=
  piece_app (l := [stAt 10]) (rest := [stAt 11, stAt 12, stAt 13, stAt 14, stAt 15, stAt 16, stAt 17, stAt 18, stAt 19, stAt 20, stAt 21, stAt 22, stAt 23, stAt 24, stAt 25, stAt 26]) (piece10 w os) (rest11 w os)
theorem rest9 (w : World) (os : OsState) : topRun treeTable pw w 28 ann0 (60 + (86 + (10 + (30 + (30 + (10 + (999 + (30 + ((0 + 82 + 330 * 37 + 223 + 2 + 10) + (31 + (361 + (30 + (10 + (34 + (35 + (27 + (35 + (27 + 2)))))))))))))))))) (S10 w os).abs (restOf [stAt 9, stAt 10, stAt 11, stAt 12, stAt 13, stAt 14, stAt 15, stAt 16, stAt 17, stAt 18, stAt 19, stAt 20, stAt 21, stAt 22, stAt 23, stAt 24, stAt 25, stAt 26] env0 cE p10 B0) = some (S28 w os).abs :=
  piece_app (l := [stAt 9]) (rest := [stAt 10, stAt 11, stAt 12, stAt 13, stAt 14, stAt 15, stAt 16, stAt 17, stAt 18, stAt 19, stAt 20, stAt 21, stAt 22, stAt 23, stAt 24, stAt 25, stAt 26]) (piece9 w os) (rest10 w os)
theorem rest8 (w : World) (os : OsState) : topRun treeTable pw w 28 ann0 (10 + (60 + (86 + (10 + (30 + (30 + (10 + (999 + (30 + ((0 + 82 + 330 * 37 + 223 + 2 + 10) + (31 + (361 + (30 + (10 + (34 + (35 + (27 + (35 + (27 + 2))))))))))))))))))) (S9 w os).abs (restOf [stAt 8, stAt 9, stAt 10, stAt 11, stAt 12, stAt 13, stAt 14, stAt 15, stAt 16, stAt 17, stAt 18, stAt 19, stAt 20, stAt 21, stAt 22, stAt 23, stAt 24, stAt 25, stAt 26] env0 cE p9 B0) = some (S28 w os).abs :=
  piece_app (l := [stAt 8]) (rest := [stAt 9, stAt 10, stAt 11, stAt 12, stAt 13, stAt 14, stAt 15, stAt 16, stAt 17, stAt 18, stAt 19, stAt 20, stAt 21, stAt 22, stAt 23, stAt 24, stAt 25, stAt 26]) (piece8 w os) (rest9 w os)
theorem rest7 (w : World) (os : OsState) : topRun treeTable pw w 28 ann0 (37 + (10 + (60 + (86 + (10 + (30 + (30 + (10 + (999 + (30 + ((0 + 82 + 330 * 37 + 223 + 2 + 10) + (31 + (361 + (30 + (10 + (34 + (35 + (27 + (35 + (27 + 2)))))))))))))))))))) (S8 w os).abs (restOf [stAt 7, stAt 8, stAt 9, stAt 10, stAt 11, stAt 12, stAt 13, stAt 14, stAt 15, stAt 16, stAt 17, stAt 18, stAt 19, stAt 20, stAt 21, stAt 22, stAt 23, stAt 24, stAt 25, stAt 26] env0 cE p8 B0) = some (S28 w os).abs :=
  piece_app (l := [stAt 7]) (rest := [stAt 8, stAt 9, stAt 10, stAt 11, stAt 12, stAt 13, stAt 14, stAt 15, stAt 16, stAt 17, stAt 18, stAt 19, stAt 20, stAt 21, stAt 22, stAt 23, stAt 24, stAt 25, stAt 26]) (piece7 w os) (rest8 w os)
theorem rest6 (w : World) (os : OsState) : topRun treeTable pw w 28 ann0 (41 + (37 + (10 + (60 + (86 + (10 + (30 + (30 + (10 + (999 + (30 + ((0 + 82 + 330 * 37 + 223 + 2 + 10) + (31 + (361 + (30 + (10 + (34 + (35 + (27 + (35 + (27 + 2))))))))))))))))))))) (S7 w os).abs (restOf [stAt 6, stAt 7, stAt 8, stAt 9, stAt 10, stAt 11, stAt 12, stAt 13, stAt 14, stAt 15, stAt 16, stAt 17, stAt 18, stAt 19, stAt 20, stAt 21, stAt 22, stAt 23, stAt 24, stAt 25, stAt 26] env0 cE p7 B0) = some (S28 w os).abs :=
  piece_app (l := [stAt 6]) (rest := [stAt 7, stAt 8, stAt 9, stAt 10, stAt 11, stAt 12, stAt 13, stAt 14, stAt 15, stAt 16, stAt 17, stAt 18, stAt 19, stAt 20, stAt 21, stAt 22, stAt 23, stAt 24, stAt 25, stAt 26]) (piece6 w os) (rest7 w os)
theorem rest5 (w : World) (os : OsState) : topRun treeTable pw w 28 ann0 (10 + (41 + (37 + (10 + (60 + (86 + (10 + (30 + (30 + (10 + (999 + (30 + ((0 + 82 + 330 * 37 + 223 + 2 + 10) + (31 + (361 + (30 + (10 + (34 + (35 + (27 + (35 + (27 + 2)))))))))))))))))))))) (S6 w os).abs (restOf [stAt 5, stAt 6, stAt 7, stAt 8, stAt 9, stAt 10, stAt 11, stAt 12, stAt 13, stAt 14, stAt 15, stAt 16, stAt 17, stAt 18, stAt 19, stAt 20, stAt 21, stAt 22, stAt 23, stAt 24, stAt 25, stAt 26] env0 cE p6 B0) = some (S28 w os).abs :=
  piece_app (l := [stAt 5]) (rest := [stAt 6, stAt 7, stAt 8, stAt 9, stAt 10, stAt 11, stAt 12, stAt 13, stAt 14, stAt 15, stAt 16, stAt 17, stAt 18, stAt 19, stAt 20, stAt 21, stAt 22, stAt 23, stAt 24, stAt 25, stAt 26]) (piece5 w os) (rest6 w os)
theorem rest4 (w : World) (os : OsState) : topRun treeTable pw w 28 ann0 (42 + (10 + (41 + (37 + (10 + (60 + (86 + (10 + (30 + (30 + (10 + (999 + (30 + ((0 + 82 + 330 * 37 + 223 + 2 + 10) + (31 + (361 + (30 + (10 + (34 + (35 + (27 + (35 + (27 + 2))))))))))))))))))))))) (S5 w os).abs (restOf [stAt 4, stAt 5, stAt 6, stAt 7, stAt 8, stAt 9, stAt 10, stAt 11, stAt 12, stAt 13, stAt 14, stAt 15, stAt 16, stAt 17, stAt 18, stAt 19, stAt 20, stAt 21, stAt 22, stAt 23, stAt 24, stAt 25, stAt 26] env0 cE p5 B0) = some (S28 w os).abs :=
  piece_app (l := [stAt 4]) (rest := [stAt 5, stAt 6, stAt 7, stAt 8, stAt 9, stAt 10, stAt 11, stAt 12, stAt 13, stAt 14, stAt 15, stAt 16, stAt 17, stAt 18, stAt 19, stAt 20, stAt 21, stAt 22, stAt 23, stAt 24, stAt 25, stAt 26]) (piece4 w os) (rest5 w os)
theorem rest3 (w : World) (os : OsState) : topRun treeTable pw w 28 ann0 (41 + (42 + (10 + (41 + (37 + (10 + (60 + (86 + (10 + (30 + (30 + (10 + (999 + (30 + ((0 + 82 + 330 * 37 + 223 + 2 + 10) + (31 + (361 + (30 + (10 + (34 + (35 + (27 + (35 + (27 + 2)))))))))))))))))))))))) (S4 w os).abs (restOf [stAt 3, stAt 4, stAt 5, stAt 6, stAt 7, stAt 8, stAt 9, stAt 10, stAt 11, stAt 12, stAt 13, stAt 14, stAt 15, stAt 16, stAt 17, stAt 18, stAt 19, stAt 20, stAt 21, stAt 22, stAt 23, stAt 24, stAt 25, stAt 26] env0 cE p4 B0) = some (S28 w os).abs :=
  piece_app (l := [stAt 3]) (rest := [stAt 4, stAt 5, stAt 6, stAt 7, stAt 8, stAt 9, stAt 10, stAt 11, stAt 12, stAt 13, stAt 14, stAt 15, stAt 16, stAt 17, stAt 18, stAt 19, stAt 20, stAt 21, stAt 22, stAt 23, stAt 24, stAt 25, stAt 26]) (piece3 w os) (rest4 w os)
theorem rest2 (w : World) (os : OsState) : topRun treeTable pw w 28 ann0 (42 + (41 + (42 + (10 + (41 + (37 + (10 + (60 + (86 + (10 + (30 + (30 + (10 + (999 + (30 + ((0 + 82 + 330 * 37 + 223 + 2 + 10) + (31 + (361 + (30 + (10 + (34 + (35 + (27 + (35 + (27 + 2))))))))))))))))))))))))) (S3 w os).abs (restOf [stAt 2, stAt 3, stAt 4, stAt 5, stAt 6, stAt 7, stAt 8, stAt 9, stAt 10, stAt 11, stAt 12, stAt 13, stAt 14, stAt 15, stAt 16, stAt 17, stAt 18, stAt 19, stAt 20, stAt 21, stAt 22, stAt 23, stAt 24, stAt 25, stAt 26] env0 cE p3 B0) = some (S28 w os).abs :=
  piece_app (l := [stAt 2]) (rest := [stAt 3, stAt 4, stAt 5, stAt 6, stAt 7, stAt 8, stAt 9, stAt 10, stAt 11, stAt 12, stAt 13, stAt 14, stAt 15, stAt 16, stAt 17, stAt 18, stAt 19, stAt 20, stAt 21, stAt 22, stAt 23, stAt 24, stAt 25, stAt 26]) (piece2 w os) (rest3 w os)
theorem rest1 (w : World) (os : OsState) : topRun treeTable pw w 28 ann0 (10 + (42 + (41 + (42 + (10 + (41 + (37 + (10 + (60 + (86 + (10 + (30 + (30 + (10 + (999 + (30 + ((0 + 82 + 330 * 37 + 223 + 2 + 10) + (31 + (361 + (30 + (10 + (34 + (35 + (27 + (35 + (27 + 2)))))))))))))))))))))))))) (S2 w os).abs (restOf [stAt 1, stAt 2, stAt 3, stAt 4, stAt 5, stAt 6, stAt 7, stAt 8, stAt 9, stAt 10, stAt 11, stAt 12, stAt 13, stAt 14, stAt 15, stAt 16, stAt 17, stAt 18, stAt 19, stAt 20, stAt 21, stAt 22, stAt 23, stAt 24, stAt 25, stAt 26] env0 cE p2 B0) = some (S28 w os).abs :=
  piece_app (l := [stAt 1]) (rest := [stAt 2, stAt 3, stAt 4, stAt 5, stAt 6, stAt 7, stAt 8, stAt 9, stAt 10, stAt 11, stAt 12, stAt 13, stAt 14, stAt 15, stAt 16, stAt 17, stAt 18, stAt 19, stAt 20, stAt 21, stAt 22, stAt 23, stAt 24, stAt 25, stAt 26]) (piece1 w os) (rest2 w os)
noncomputable def MM : Nat := 12 + (1 + (10 + (42 + (41 + (42 + (10 + (41 + (37 + (10 + (60 + (86 + (10 + (30 + (30 + (10 + (999 + (30 + ((0 + 82 + 330 * 37 + 223 + 2 + 10) + (31 + (361 + (30 + (10 + (34 + (35 + (27 + (35 + (27 + 2)))))))))))))))))))))))))))
theorem run_H (w : World) (os : OsState) : topRun treeTable pw w 28 ann0 MM (S0 w os).abs (topStub pw) = some (S28 w os).abs :=
  go_top (pre_H w os) (piece_block (block_H w os) (by rw [behind_eq]; exact rest1 w os))
theorem left_H : LeftO pw vq lz xtF hK.obs hK.val 30000 :=
  LeftO.of_pieces (H₀ := H0) (H₁ := HF) (M := MM) open_H size_H (fun w os => run_H w os) (by decide +kernel) (fun w => funext fun os => Prod.ext (look1 w os) (Prod.ext (look2 w os) (look3 w os)))
end Mine

end PartHF

section FlushHE
open PySem PySem.W PyProof.Rows PySem.Calls
namespace Mine
theorem start_HE {prog : Program} {w : World} {A : Around} {E : Value → Shared → Prop} {s : Shared} {env : Env} {Q : Flow → Shared → Prop} (h : wpAny (model prog w) A (execs [] env) Q E s) : wpAny (model prog w) A (execs [] env) Q E s := by
  w_top off
  first | (walk1; fail) | exact h
end Mine
end FlushHE
section PartHE
open PySem PySem.W PyProof.Rows
namespace Mine
theorem said_looks : PySem.W.Fast.tw12908688711261696721 rwl.row.prog = true := by
  delta PySem.W.Fast.tw12908688711261696721
  iterate 5 (refine look_both ?_ (by decide +kernel))
  decide +kernel
theorem said_part : PySem.W.Fast.tw2436336058641802641 (PySem.W.Fast.tw2368527892694137696 rwl) = true := by
  delta PySem.W.Fast.tw2436336058641802641
  iterate 13 (refine look_both ?_ (by decide +kernel))
  exact said_looks
theorem said_row : PySem.W.Fast.tw17960256430627541270 (PySem.W.Fast.tw2368527892694137696 rwl) = true := by
  delta PySem.W.Fast.tw17960256430627541270
  refine look_both (look_both said_part (by decide +kernel)) (by decide +kernel)
theorem well_said : rwl.wellSaid = true := (congrFun PySem.W.Fast.te9446332074065402090 rwl).trans (by
  show PySem.W.Fast.tw9446332074065402090 rwl = true
  delta PySem.W.Fast.tw9446332074065402090
  iterate 18 (refine look_both ?_ (by decide +kernel))
  exact said_row)
theorem hd_of_walk (hc : ∀ d kwd, defOf vq rwl.row.name = some (d, kwd) → WalkO vq lz (XL vq []) hK.says rwl.row.toRowW d kwd fun f vs => PySem.call f vs) : rwl.Holds := by

  refine holds_law well_said fun said => ?_
  refine holds_open (q := vq) (loose := lz) (Xt := xtF) (XP := XL vq []) (Yf := Hook.obs hK) (Ya := Hook.val hK) (YP := Hook.says hK) (N := 30000) left_H (Hook.of hK) (Hook.keeps hK) (fun s e => xl_of s (Bool.and_eq_true_iff.mp e).1) XL.keeps (by rfl) (by rfl) (by rfl) (fun s e => recFacts_of (Bool.and_eq_true_iff.mp e).2) (by rfl) (by first | assumption | decide +kernel) (by decide +kernel) ⟨rfl, rfl, rfl, rfl, rfl, by decide +kernel⟩ ?hw ?hc
  case hw => w_witness2
  case hc => exact hc _ _ rfl
end Mine

end PartHE

section FlushC1
open PySem PySem.W PyProof.Rows PySem.Calls
namespace Mine
theorem start_C1 {prog : Program} {w : World} {A : Around} {E : Value → Shared → Prop} {s : Shared} {env : Env} {Q : Flow → Shared → Prop} (h : wpAny (model prog w) A (execs [] env) Q E s) : wpAny (model prog w) A (execs [] env) Q E s := by
  w_top off
  first | (walk1; fail) | exact h
end Mine
end FlushC1
section PartC1
open PySem PySem.W PyProof.Rows PySem.Calls
namespace Mine
noncomputable def gtF (a b : UInt64) : Bool := Float64.cmp a b == some Ordering.gt
noncomputable def ltF (a b : UInt64) : Bool := Float64.cmp a b == some Ordering.lt
noncomputable def flAt (a b c : UInt64) : Nat → UInt64 | 0 => a | 1 => b | 2 => c | _ => 0
noncomputable def best3 (bt : UInt64 → UInt64 → Bool) (a b c : UInt64) : UInt64 := if bt b a then (if bt c b then c else b) else (if bt c a then c else a)
noncomputable def max3F := best3 gtF
noncomputable def min3F := best3 ltF
noncomputable def fls (a b c : UInt64) (t u x : Tok) : Array Value := #[.float a t, .float b u, .float c x]
theorem fls_at {a b c : UInt64} {t u x : Tok} {i : Nat} {v : Value} (h : (fls a b c t u x)[i]? = some v) : ∃ k, v = .float (flAt a b c i) k := by
  match i, h with
  | 0, h => exact ⟨t, (Option.some.inj h).symm⟩
  | 1, h => exact ⟨u, (Option.some.inj h).symm⟩
  | 2, h => exact ⟨x, (Option.some.inj h).symm⟩
  | n + 3, h => simp [fls] at h
theorem best3_at (bt : UInt64 → UInt64 → Bool) (a b c : UInt64) : flAt a b c (argBest (fun i j => bt (flAt a b c i) (flAt a b c j)) 2) = best3 bt a b c := by
  have e0 : argBest (fun i j => bt (flAt a b c i) (flAt a b c j)) 1 = if bt b a then 1 else 0 := rfl
  have e1 : argBest (fun i j => bt (flAt a b c i) (flAt a b c j)) 2 = if bt c (flAt a b c (if bt b a then 1 else 0)) then 2 else (if bt b a then 1 else 0) := rfl
  rw [e1]
  unfold best3
  cases h1 : bt b a with
  | true =>
    simp only [if_true, flAt]
    cases h2 : bt c b <;> simp [flAt]
  | false =>
    simp only [Bool.false_eq_true, if_false, flAt]
    cases h2 : bt c a <;> simp [flAt]
section
variable {prog : Program} {w : World} {A : Around} {E : Value → Shared → Prop} {s : Shared}
theorem cmpF_gt {P : Nat → Value → Prop} (val : Nat → UInt64) (hval : ∀ i v, P i v → ∃ t, v = .float (val i) t) : CmpOf prog w A .Gt P (fun i j => gtF (val i) (val j)) := fun i j vi vj s Q E hi hj h => by
  obtain ⟨t, rfl⟩ := hval i vi hi
  obtain ⟨u, rfl⟩ := hval j vj hj
  exact AutoFloatOps.gt_0 h
theorem cmpF_lt {P : Nat → Value → Prop} (val : Nat → UInt64) (hval : ∀ i v, P i v → ∃ t, v = .float (val i) t) : CmpOf prog w A .Lt P (fun i j => ltF (val i) (val j)) := fun i j vi vj s Q E hi hj h => by
  obtain ⟨t, rfl⟩ := hval i vi hi
  obtain ⟨u, rfl⟩ := hval j vj hj
  exact AutoFloatOps.lt_0 h
theorem after3 {h h' : Heap} {o : Obj} {o2 : Obj} {b : Addr} (hk : ∀ d o', d ∉ [(h.push o).objs.size] → ((h.push o).push o2).get? d = some o' → h'.get? d = some o') {ob : Obj} (e : h.get? b = some ob) : h'.get? b = some ob := by
  refine hk b ob (fun hm => ?_) (Heap.get?_push_of_some _ (Heap.get?_push_of_some _ e))
  rcases List.mem_cons.mp hm with e1 | hm
  · have := Heap.lt_size e; rw [e1, Heap.size_push] at this; exact absurd (Nat.lt_of_succ_lt this) (Nat.lt_irrefl _)
  · cases hm
theorem max3_any {a b c : UInt64} {t u x : Tok} {Q : Value → Shared → Prop} (hh : A.handled = none)
    (h : ∀ h' tk k, (∀ d o, s.heap.get? d = some o → h'.get? d = some o) → Q (.float (max3F a b c) k) { s with heap := h', toks := tk }) :
    wpAny (model prog w) A (call (.builtin "max") [.float a t, .float b u, .float c x]) Q E s := by
  have hT : (s.heap.push { cls := .type "tuple", data := .seq #[.float a t, .float b u, .float c x] }).IsTuple s.heap.objs.size (fls a b c t u x) := ⟨_, Heap.get?_push_size _ rfl, rfl, 0, rfl⟩
  refine call_max_three (wpAny_pyIter_tuple hT ?_)
  have hsz : (s.heap.push { cls := .type "tuple", data := .seq #[.float a t, .float b u, .float c x] }).objs.size = s.heap.objs.size + 1 := Heap.size_push ..
  refine ⟨_, [_, s.heap.objs.size], [_], _, _, _, _, rfl, Walks.tuple (A := A.in1) hh _ s.heap.objs.size (by rw [hsz]; exact Nat.ne_of_lt (Nat.lt_succ_self _)) (fls a b c t u x),
    ⟨⟨_, Heap.get?_push_size _ rfl, rfl, rfl⟩, hT.push _⟩, fun d hd => ?_, Nat.succ_pos 2, cmpF_gt (flAt a b c) (fun _ _ => fls_at), fun v h' tk hP hk => ?_⟩
  · show d < ((s.heap.push _).push _).objs.size
    rw [Heap.size_push, hsz]
    rcases List.mem_cons.mp hd with rfl | hd
    · rw [hsz]; exact Nat.lt_succ_self _
    · obtain rfl : d = s.heap.objs.size := by simpa using hd
      exact Nat.lt_succ_of_lt (Nat.lt_succ_self _)
  · have hP' : (fls a b c t u x)[argBest (fun i j => gtF (flAt a b c i) (flAt a b c j)) 2]? = some v := hP
    obtain ⟨k, rfl⟩ := fls_at hP'
    rw [best3_at]
    exact h h' tk k fun d o e => after3 hk e
theorem min3_any {a b c : UInt64} {t u x : Tok} {Q : Value → Shared → Prop} (hh : A.handled = none)
    (h : ∀ h' tk k, (∀ d o, s.heap.get? d = some o → h'.get? d = some o) → Q (.float (min3F a b c) k) { s with heap := h', toks := tk }) :
    wpAny (model prog w) A (call (.builtin "min") [.float a t, .float b u, .float c x]) Q E s := by
  have hT : (s.heap.push { cls := .type "tuple", data := .seq #[.float a t, .float b u, .float c x] }).IsTuple s.heap.objs.size (fls a b c t u x) := ⟨_, Heap.get?_push_size _ rfl, rfl, 0, rfl⟩
  refine call_min_three (wpAny_pyIter_tuple hT ?_)
  have hsz : (s.heap.push { cls := .type "tuple", data := .seq #[.float a t, .float b u, .float c x] }).objs.size = s.heap.objs.size + 1 := Heap.size_push ..
  refine ⟨_, [_, s.heap.objs.size], [_], _, _, _, _, rfl, Walks.tuple (A := A.in1) hh _ s.heap.objs.size (by rw [hsz]; exact Nat.ne_of_lt (Nat.lt_succ_self _)) (fls a b c t u x),
    ⟨⟨_, Heap.get?_push_size _ rfl, rfl, rfl⟩, hT.push _⟩, fun d hd => ?_, Nat.succ_pos 2, cmpF_lt (flAt a b c) (fun _ _ => fls_at), fun v h' tk hP hk => ?_⟩
  · show d < ((s.heap.push _).push _).objs.size
    rw [Heap.size_push, hsz]
    rcases List.mem_cons.mp hd with rfl | hd
    · rw [hsz]; exact Nat.lt_succ_self _
    · obtain rfl : d = s.heap.objs.size := by simpa using hd
      exact Nat.lt_succ_of_lt (Nat.lt_succ_self _)
  · have hP' : (fls a b c t u x)[argBest (fun i j => ltF (flAt a b c i) (flAt a b c j)) 2]? = some v := hP
    obtain ⟨k, rfl⟩ := fls_at hP'
    rw [best3_at]
    exact h h' tk k fun d o e => after3 hk e
variable {h₀ : Heap} {L : Addr} {m : Str → Option Value} {news : List (Addr × Obj)}
theorem max3_N {a b c : UInt64} {t u x : Tok} {Q : Value → Shared → Prop} (hh : A.handled = none) (F : Fr h₀ L s.heap m) (N : News h₀ L s.heap news)
    (h : ∀ h' tk k, Fr h₀ L h' m → News h₀ L h' news → Q (.float (max3F a b c) k) { s with heap := h', toks := tk }) :
    wpAny (model prog w) A (call (.builtin "max") [.float a t, .float b u, .float c x]) Q E s := max3_any hh fun h' tk k hk => h h' tk k (F.grownK hk) (N.grown hk)
theorem min3_N {a b c : UInt64} {t u x : Tok} {Q : Value → Shared → Prop} (hh : A.handled = none) (F : Fr h₀ L s.heap m) (N : News h₀ L s.heap news)
    (h : ∀ h' tk k, Fr h₀ L h' m → News h₀ L h' news → Q (.float (min3F a b c) k) { s with heap := h', toks := tk }) :
    wpAny (model prog w) A (call (.builtin "min") [.float a t, .float b u, .float c x]) Q E s := min3_any hh fun h' tk k hk => h h' tk k (F.grownK hk) (N.grown hk)
end
end Mine

end PartC1

section FlushC2
open PySem PySem.W PyProof.Rows PySem.Calls
namespace Mine
theorem start_C2 {prog : Program} {w : World} {A : Around} {E : Value → Shared → Prop} {s : Shared} {env : Env} {Q : Flow → Shared → Prop} (h : wpAny (model prog w) A (execs [] env) Q E s) : wpAny (model prog w) A (execs [] env) Q E s := by
  w_top off
  first | (walk1; fail) | exact h
end Mine
end FlushC2
section PartC2
open PySem PySem.W PyProof.Rows PySem.Calls
namespace Mine
theorem kw_C2_1 : True := by
  k_with_none
  k_with "my_room" => ((try simp only [depth_under_make, depth_under_kw, depth_in1, depth_deeper, depth_caller]); (try dsimp only [ktrTop]); first | exact Mine.rm0 (by assumption) | exact Mine.rm1 (by assumption) (by exact rfl) | exact Mine.rm2 (by assumption) (by exact rfl) | exact Mine.rm2 (b := 40) (by assumption) (by exact rfl) | exact Mine.rm1 (b := 40) (by assumption) (by exact rfl) | exact Mine.rm2 (b := 50) (by assumption) (by exact rfl) | exact Mine.rm1 (b := 50) (by assumption) (by exact rfl) | fail "room")
  k_with "my_units" => ((try simp only [units_in1, units_deeper, Around.mark_units, units_caller]); (try dsimp only [ktrTop]); first | exact Mine.rm0 (by assumption) | exact Mine.rm1 (by assumption) (by exact rfl) | exact Mine.rm2 (by assumption) (by exact rfl) | exact Mine.rm2 (b := 140) (by assumption) (by exact rfl) | exact Mine.rm1 (b := 140) (by assumption) (by exact rfl) | exact Mine.rm2 (b := 180) (by assumption) (by exact rfl) | exact Mine.rm1 (b := 180) (by assumption) (by exact rfl) | fail "room")
  k_with "call builtin:max" => (k_here; (with_reducible show wpAny _ _ (call (Value.builtin _) [Value.float _ _, Value.float _ _, Value.float _ _]) _ _ _); k_dflt (refine' max3_N ?k0 ?k1 ?k2 ?_; (case k0 => exact rfl); (case k1 => k_asm); (case k2 => k_asm); k_whole); intro _ _ _ _ _)
  k_with "call builtin:min" => (k_here; (with_reducible show wpAny _ _ (call (Value.builtin _) [Value.float _ _, Value.float _ _, Value.float _ _]) _ _ _); k_dflt (refine' min3_N ?k0 ?k1 ?k2 ?_; (case k0 => exact rfl); (case k1 => k_asm); (case k2 => k_asm); k_whole); intro _ _ _ _ _)
  exact True.intro
noncomputable def eqF (a b : UInt64) : Bool := Float64.cmp a b == some Ordering.eq
noncomputable def rangeF (r g b : UInt64) : UInt64 := Float64.sub (max3F r g b) (min3F r g b)
noncomputable def shareF (r g b x : UInt64) : UInt64 := Float64.div (Float64.sub (max3F r g b) x) (rangeF r g b)
noncomputable def hueF (r g b : UInt64) : UInt64 :=
  if eqF r (max3F r g b) then Float64.sub (shareF r g b b) (shareF r g b g)
  else if eqF g (max3F r g b) then Float64.sub (Float64.add 4611686018427387904 (shareF r g b r)) (shareF r g b b)
  else Float64.sub (Float64.add 4616189618054758400 (shareF r g b g)) (shareF r g b r)
noncomputable def hsvF (r g b : UInt64) : UInt64 × UInt64 × UInt64 :=
  if eqF (min3F r g b) (max3F r g b) then (0, 0, max3F r g b)
  else ((Float64.divmod (Float64.div (hueF r g b) 4618441417868443648) 4607182418800017408).snd, Float64.div (rangeF r g b) (max3F r g b), max3F r g b)
noncomputable def okRGB (r g b : UInt64) : Bool := !eqF (min3F r g b) (max3F r g b) && (!Float64.isZero (max3F r g b) && !Float64.isZero (rangeF r g b))
noncomputable abbrev tup3 (x : UInt64 × UInt64 × UInt64) (k1 k2 k3 : Tok) : Obj := { cls := .type "tuple", data := .seq #[.float x.1 k1, .float x.2.1 k2, .float x.2.2 k3] }
structure Site (w : World) (p : Program) (loose : List PySem.Str) (mean : ExcName → Option Value) (mg mb : Str → Option Value) (dp un : Nat) (cn : Str) (cs : Scope) (L a : Addr) (ccd : Value) (cl : List (Str × Addr)) (outer : List Env) (A₀ : Around) (base h₀ : Heap) (m : Str → Option Value) (news : List (Addr × Obj)) (s : Shared) : Prop where
  B : Below A₀ base outer h₀
  F : Fr h₀ L s.heap m
  X : (kF w.params).In h₀
  N : News h₀ L s.heap news
  T : Top p loose mean mg mb h₀
  hk : cs.kind = .function
  hd : dp + 20 < recursionLimit
  hu : un + 60 < cLine
section
variable {h₀ h' : Heap} {L D : Addr} {m : Str → Option Value} {news : List (Addr × Obj)} {s : Shared} {Q : Value → Shared → Prop} {r g b x y z : UInt64} {k1 k2 k3 : Tok} {tk : Nat}
noncomputable abbrev Ret3 (h₀ : Heap) (L : Addr) (m : Str → Option Value) (news : List (Addr × Obj)) (s : Shared) (Q : Value → Shared → Prop) (v : UInt64 × UInt64 × UInt64) : Prop :=
  ∀ (D : Addr) (k1 k2 k3 : Tok) (h' : Heap) (tk' : Nat), Fr h₀ L h' m → News h₀ L h' ((D, tup3 v k1 k2 k3) :: news) → (∀ p ∈ news, p.1 < D) → Q (.ref D) { s with heap := h', toks := tk' }
noncomputable abbrev RetR (h₀ : Heap) (L : Addr) (m : Str → Option Value) (news : List (Addr × Obj)) (s : Shared) (Q : Value → Shared → Prop) (v : UInt64 × UInt64 × UInt64) : Prop :=
  ∀ (D : Addr) (k1 k2 k3 : Tok) (h' : Heap) (tk' : Nat), k1 ≠ 0 → Fr h₀ L h' m → News h₀ L h' ((D, tup3 v k1 k2 k3) :: news) → (∀ p ∈ news, p.1 < D) → Q (.ref D) { s with heap := h', toks := tk' }
theorem retR_fin {v : UInt64 × UInt64 × UInt64} (hret : RetR h₀ L m news s Q v) (N : News h₀ L h' ((D, { cls := .type "tuple", data := .seq #[.float x k1, .float y k2, .float z k3] }) :: news)) (F : Fr h₀ L h' m) (l : ∀ p ∈ news, p.1 < D) (hk : k1 ≠ 0) (e : v = (x, y, z)) : Q (.ref D) { s with heap := h', toks := tk } := by
  subst e
  exact hret D k1 k2 k3 h' tk hk F N l
theorem ret3_fin {v : UInt64 × UInt64 × UInt64} (hret : Ret3 h₀ L m news s Q v) (N : News h₀ L h' ((D, { cls := .type "tuple", data := .seq #[.float x k1, .float y k2, .float z k3] }) :: news)) (F : Fr h₀ L h' m) (l : ∀ p ∈ news, p.1 < D) (e : v = (x, y, z)) : Q (.ref D) { s with heap := h', toks := tk } := by
  subst e
  exact hret D k1 k2 k3 h' tk F N l
end
theorem rgb_ctr {w : World} {p : Program} {loose : List PySem.Str} {mean : ExcName → Option Value} {mg mb : Str → Option Value} {dp un : Nat} {gd : Option (List Code)} {cn : Str} {cs : Scope} {L a : Addr} {ccd : Value} {cl : List (Str × Addr)} {outer : List Env} {A₀ : Around} {base h₀ : Heap} {m : Str → Option Value}
    {news : List (Addr × Obj)} {s : Shared} {Q E : Value → Shared → Prop} {r g b : UInt64} {t1 t2 t3 : Tok} : Site w p loose mean mg mb dp un cn cs L a ccd cl outer A₀ base h₀ m news s → okRGB r g b = true → RetR h₀ L m news s Q (hsvF r g b) →
  (kF w.params).In h₀ → wpAny (model rwl.prog w) (ktrTop dp un gd cn cs L a ccd cl outer) (call (.ref 65) [.float r t1, .float g t2, .float b t3]) Q E s := by
  k_fill
  intro S ok hret X
  obtain ⟨B, F, _, N, T, hk, hdp, hun⟩ := S
  refine wpAny_call ?_
  k_dflt cell_enter
  k_steps
  all_goals first
    | (exfalso; unfold okRGB eqF rangeF at ok; simp_all; done)
    | (refine' retR_fin hret ?N ?F ?l ?z ?e; (case N => assumption); (case F => assumption); (case l => assumption); (case z => exact Nat.succ_ne_zero _); (case e => unfold hsvF hueF shareF rangeF eqF; simp only [*, if_true, if_false, Bool.false_eq_true]; done))
end Mine

end PartC2

section FlushC3
open PySem PySem.W PyProof.Rows PySem.Calls
namespace Mine
theorem start_C3 {prog : Program} {w : World} {A : Around} {E : Value → Shared → Prop} {s : Shared} {env : Env} {Q : Flow → Shared → Prop} (h : wpAny (model prog w) A (execs [] env) Q E s) : wpAny (model prog w) A (execs [] env) Q E s := by
  w_top off
  first | (walk1; fail) | exact h
end Mine
end FlushC3
section PartC3
open PySem PySem.W PyProof.Rows PySem.Calls
namespace Mine
theorem kw_C3_0 : True := by
  k_with_none
  k_with "my_room" => ((try simp only [depth_under_make, depth_under_kw, depth_in1, depth_deeper, depth_caller]); (try dsimp only [ktrTop]); first | exact Mine.rm0 (by assumption) | exact Mine.rm1 (by assumption) (by exact rfl) | exact Mine.rm2 (by assumption) (by exact rfl) | exact Mine.rm2 (b := 40) (by assumption) (by exact rfl) | exact Mine.rm1 (b := 40) (by assumption) (by exact rfl) | exact Mine.rm2 (b := 50) (by assumption) (by exact rfl) | exact Mine.rm1 (b := 50) (by assumption) (by exact rfl) | fail "room")
  k_with "my_units" => ((try simp only [units_in1, units_deeper, Around.mark_units, units_caller]); (try dsimp only [ktrTop]); first | exact Mine.rm0 (by assumption) | exact Mine.rm1 (by assumption) (by exact rfl) | exact Mine.rm2 (by assumption) (by exact rfl) | exact Mine.rm2 (b := 140) (by assumption) (by exact rfl) | exact Mine.rm1 (b := 140) (by assumption) (by exact rfl) | exact Mine.rm2 (b := 180) (by assumption) (by exact rfl) | exact Mine.rm1 (b := 180) (by assumption) (by exact rfl) | fail "room")
  exact True.intro
noncomputable def sixF (h : UInt64) : UInt64 := Float64.mul h 4618441417868443648
noncomputable def turnI (h : UInt64) : Int := Flt.toInt Float64.truncOf (sixF h)
noncomputable def partF (h : UInt64) : UInt64 := Float64.sub (sixF h) (Float64.ofInt (turnI h))
noncomputable def pF (s v : UInt64) : UInt64 := Float64.mul v (Float64.sub 4607182418800017408 s)
noncomputable def qF (h s v : UInt64) : UInt64 := Float64.mul v (Float64.sub 4607182418800017408 (Float64.mul s (partF h)))
noncomputable def tF (h s v : UInt64) : UInt64 := Float64.mul v (Float64.sub 4607182418800017408 (Float64.mul s (Float64.sub 4607182418800017408 (partF h))))
noncomputable def rgbF (h s v : UInt64) : UInt64 × UInt64 × UInt64 :=
  if (turnI h).fmod 6 = 0 then (v, tF h s v, pF s v)
  else if (turnI h).fmod 6 = 1 then (qF h s v, v, pF s v)
  else if (turnI h).fmod 6 = 2 then (pF s v, v, tF h s v)
  else if (turnI h).fmod 6 = 3 then (pF s v, qF h s v, v)
  else if (turnI h).fmod 6 = 4 then (tF h s v, pF s v, v)
  else (v, pF s v, qF h s v)
structure OkHSV (h s : UInt64) : Prop where
  share : eqF s 0 = false
  nan : Float64.isNaN (sixF h) = false
  inf : Float64.isInf (sixF h) = false
  small : (turnI h).natAbs < 2 ^ 1024 - 2 ^ 970
theorem hsv_ctr {w : World} {p : Program} {loose : List PySem.Str} {mean : ExcName → Option Value} {mg mb : Str → Option Value} {dp un : Nat} {gd : Option (List Code)} {cn : Str} {cs : Scope} {L a : Addr} {ccd : Value} {cl : List (Str × Addr)} {outer : List Env} {A₀ : Around} {base h₀ : Heap} {m : Str → Option Value}
    {news : List (Addr × Obj)} {s : Shared} {Q E : Value → Shared → Prop} {h sv v : UInt64} {t1 t2 t3 : Tok} : Site w p loose mean mg mb dp un cn cs L a ccd cl outer A₀ base h₀ m news s → OkHSV h sv → Ret3 h₀ L m news s Q (rgbF h sv v) →
  (kF w.params).In h₀ → wpAny (model rwl.prog w) (ktrTop dp un gd cn cs L a ccd cl outer) (call (.ref 72) [.float h t1, .float sv t2, .float v t3]) Q E s := by
  k_fill
  intro S ok hret X
  obtain ⟨B, F, _, N, T, hk, hdp, hun⟩ := S
  obtain ⟨ok1, ok2, ok3, ok4⟩ := ok
  unfold eqF at ok1
  unfold turnI sixF at ok4
  unfold sixF at ok2 ok3
  refine wpAny_call ?_
  k_dflt cell_enter
  k_steps
  all_goals first
    | (exfalso; simp_all; done)
    | (exfalso; omega)
    | (exfalso; have h6 := Int.fmod_nonneg_of_pos (Flt.toInt Float64.truncOf (Float64.mul h 4618441417868443648)) (show (0:Int) < 6 by decide); have h7 := Int.fmod_lt_of_pos (Flt.toInt Float64.truncOf (Float64.mul h 4618441417868443648)) (show (0:Int) < 6 by decide); omega)
    | (refine' ret3_fin hret ?N ?F ?l ?e; (case N => assumption); (case F => assumption); (case l => assumption); (case e => unfold rgbF pF qF tF partF turnI sixF; simp only [*, if_true, if_false]; first | done | rfl | (simp; done)))
end Mine

end PartC3

section FlushC4
open PySem PySem.W PyProof.Rows PySem.Calls
namespace Mine
theorem start_C4 {prog : Program} {w : World} {A : Around} {E : Value → Shared → Prop} {s : Shared} {env : Env} {Q : Flow → Shared → Prop} (h : wpAny (model prog w) A (execs [] env) Q E s) : wpAny (model prog w) A (execs [] env) Q E s := by
  w_top off
  first | (walk1; fail) | exact h
end Mine
end FlushC4
section PartC4
open PySem PySem.W PyProof.Rows PySem.Calls
namespace Mine
noncomputable def intOf : Value → Option Int
  | .int z _ => some z
  | _ => none
theorem setOf_ints {prog : Program} {w : World} {h : Heap} {a : Addr} {o : Obj} {es : Array (Int × Value)} {ep : Nat} {t : SetTable} (zs : List Int) (ho : h.get? a = some o) (hex : o.ExactSet) (hd : o.data = .set es ep t)
    (hm : es.toList.map (fun e => (e.1, intOf e.2)) = zs.map fun z => (hashInt z, some z)) (hb : es.size < scanBound) (hf : t.fits es.size = true) :
    h.SetOf (intKind prog w) a (fun k => decide (k ∈ zs)) es.size := by
  have key : ∀ (l : List (Int × Value)) (zs : List Int), l.map (fun e => (e.1, intOf e.2)) = zs.map (fun z => (hashInt z, some z)) →
      (∀ e ∈ l, ∃ z t, z ∈ zs ∧ e = (hashInt z, .int z t)) ∧ (∀ z ∈ zs, ∃ t, (hashInt z, Value.int z t) ∈ l) := by
    intro l
    induction l with
    | nil =>
      intro zs hz
      cases zs with
      | nil => exact ⟨(fun _ h => nomatch h), (fun _ h => nomatch h)⟩
      | cons _ _ => simp at hz
    | cons e l ih =>
      intro zs hz
      cases zs with
      | nil => simp at hz
      | cons z zs =>
        rw [List.map_cons, List.map_cons] at hz
        injection hz with h1 h2
        obtain ⟨i1, i2⟩ := ih zs h2
        obtain ⟨e1, e2⟩ := e
        have h3 : e1 = hashInt z := congrArg Prod.fst h1
        have h4 : intOf e2 = some z := congrArg Prod.snd h1
        obtain ⟨t, ht⟩ : ∃ t, e2 = Value.int z t := by
          cases e2 <;> simp [intOf] at h4
          subst h4; exact ⟨_, rfl⟩
        subst h3 ht
        refine ⟨fun e he => ?_, fun y hy => ?_⟩
        · rcases List.mem_cons.mp he with rfl | he
          · exact ⟨z, t, List.mem_cons_self, rfl⟩
          · obtain ⟨z', t', hz', e'⟩ := i1 e he
            exact ⟨z', t', List.mem_cons_of_mem _ hz', e'⟩
        · rcases List.mem_cons.mp hy with rfl | hy
          · exact ⟨t, List.mem_cons_self⟩
          · obtain ⟨t', ht'⟩ := i2 y hy
            exact ⟨t', List.mem_cons_of_mem _ ht'⟩
  obtain ⟨k1, k2⟩ := key _ _ hm
  refine ⟨o, es, ep, t, ho, hex, hd, fun e he => ?_, fun k => ?_, hb, hf, rfl⟩
  · obtain ⟨z, t, _, rfl⟩ := k1 e he
    exact ⟨⟨z, intKind_is _ _ _ _, rfl⟩, rfl⟩
  · constructor
    · intro hk
      obtain ⟨t, ht⟩ := k2 k (of_decide_eq_true hk)
      exact ⟨_, ht, intKind_is _ _ _ _⟩
    · rintro ⟨e, he, hi⟩
      obtain ⟨z, t, hz, rfl⟩ := k1 e he
      have : k = z := (intKind prog w).inj _ _ _ hi (intKind_is _ _ _ _)
      exact decide_eq_true (this ▸ hz)
noncomputable def b1L : List Int := [65024, 65025, 65026, 65027, 65028, 65029, 6150, 65030, 65031, 65032, 65033, 6155, 6156, 6157, 8203, 8204, 8205, 65034, 65035, 65036, 65037, 65038, 65039, 173, 847, 8288, 65279]
noncomputable def c7L : List Int := [12272, 12273, 12274, 12275, 12276, 12277, 12278, 12279, 12280, 12281, 12282, 12283]
theorem b1_set {prog : Program} {w : World} {h : Heap} (X : (kF w.params).In h) : h.SetOf (intKind prog w) 104 (fun k => decide (k ∈ b1L)) 27 := by
  have ho : h.get? 104 = some (o104 w.params) := X 104 _ (by with_unfolding_all rfl)
  refine setOf_ints b1L ho ?_ rfl ?_ ?_ ?_
  · exact ⟨rfl, rfl, rfl⟩
  · rfl
  · decide
  · rfl
theorem c7_set {prog : Program} {w : World} {h : Heap} (X : (kF w.params).In h) : h.SetOf (intKind prog w) 162 (fun k => decide (k ∈ c7L)) 12 := by
  have ho : h.get? 162 = some (o162 w.params) := X 162 _ (by with_unfolding_all rfl)
  refine setOf_ints c7L ho ?_ rfl ?_ ?_ ?_
  · exact ⟨rfl, rfl, rfl⟩
  · rfl
  · decide
  · rfl
theorem in_kF {w : World} {h₀ h : Heap} {L : Addr} {m : Str → Option Value} (X : (kF w.params).In h₀) (F : Fr h₀ L h m) : (kF w.params).In h := fun a o e => F.keep a o (X a o e)
theorem in_b1 {w : World} {A : Around} {E Q : Value → Shared → Prop} {s : Shared} {h₀ : Heap} {L : Addr} {m : Str → Option Value} {k : Int} {t : Tok} (X : (kF w.params).In h₀) (F : Fr h₀ L s.heap m)
    (h : Q (.bool (decide (k ∈ b1L))) { s with toks := s.toks + 1 }) : wpAny (model rwl.prog w) A (compareOp .In (.int k t) (.ref 104)) Q E s :=
  wpAny_inSet_of (intKind_is _ _ _ _) rfl (b1_set (in_kF X F)) h
theorem in_c7 {w : World} {A : Around} {E Q : Value → Shared → Prop} {s : Shared} {h₀ : Heap} {L : Addr} {m : Str → Option Value} {k : Int} {t : Tok} (X : (kF w.params).In h₀) (F : Fr h₀ L s.heap m)
    (h : Q (.bool (decide (k ∈ c7L))) { s with toks := s.toks + 1 }) : wpAny (model rwl.prog w) A (compareOp .In (.int k t) (.ref 162)) Q E s :=
  wpAny_inSet_of (intKind_is _ _ _ _) rfl (c7_set (in_kF X F)) h
theorem kw_C4_1 : True := by
  k_with_none
  k_with "my_room" => ((try simp only [depth_under_make, depth_under_kw, depth_in1, depth_deeper, depth_caller]); (try dsimp only [ktrTop]); first | exact Mine.rm0 (by assumption) | exact Mine.rm1 (by assumption) (by exact rfl) | exact Mine.rm2 (by assumption) (by exact rfl) | exact Mine.rm2 (b := 40) (by assumption) (by exact rfl) | exact Mine.rm1 (b := 40) (by assumption) (by exact rfl) | exact Mine.rm2 (b := 50) (by assumption) (by exact rfl) | exact Mine.rm1 (b := 50) (by assumption) (by exact rfl) | fail "room")
  k_with "my_units" => ((try simp only [units_in1, units_deeper, Around.mark_units, units_caller]); (try dsimp only [ktrTop]); first | exact Mine.rm0 (by assumption) | exact Mine.rm1 (by assumption) (by exact rfl) | exact Mine.rm2 (by assumption) (by exact rfl) | exact Mine.rm2 (b := 140) (by assumption) (by exact rfl) | exact Mine.rm1 (b := 140) (by assumption) (by exact rfl) | exact Mine.rm2 (b := 180) (by assumption) (by exact rfl) | exact Mine.rm1 (b := 180) (by assumption) (by exact rfl) | fail "room")
  k_with "call builtin:ord" => (k_here; k_dflt (refine P.ord_of_char ?_))
  k_with "compareOp In int ref" => (k_here; k_dflt (first | (refine' in_b1 ?X ?F ?_; (case X => k_asm); (case F => k_asm); k_whole) | (refine' in_c7 ?X ?F ?_; (case X => k_asm); (case F => k_asm); k_whole)))
  exact True.intro
theorem b1_ctr {w : World} {p : Program} {loose : List PySem.Str} {mean : ExcName → Option Value} {mg mb : Str → Option Value} {dp un : Nat} {gd : Option (List Code)} {cn : Str} {cs : Scope} {L a : Addr} {ccd : Value} {cl : List (Str × Addr)} {outer : List Env} {A₀ : Around} {base h₀ : Heap} {m : Str → Option Value}
    {news : List (Addr × Obj)} {s : Shared} {Q E : Value → Shared → Prop} {c : Nat} {t1 : Tok} : Site w p loose mean mg mb dp un cn cs L a ccd cl outer A₀ base h₀ m news s → (∀ h' tk', Fr h₀ L h' m → News h₀ L h' news → Q (.bool (decide ((c : Int) ∈ b1L))) { s with heap := h', toks := tk' }) →
  (kF w.params).In h₀ → wpAny (model rwl.prog w) (ktrTop dp un gd cn cs L a ccd cl outer) (call (.ref 114) [.str ⟨#[c]⟩ t1]) Q E s := by
  k_fill
  intro S hret X
  obtain ⟨B, F, _, N, T, hk, hdp, hun⟩ := S
  refine wpAny_call ?_
  k_dflt cell_enter
  k_steps
  exact hret _ _ (by assumption) (by assumption)
theorem c7_ctr {w : World} {p : Program} {loose : List PySem.Str} {mean : ExcName → Option Value} {mg mb : Str → Option Value} {dp un : Nat} {gd : Option (List Code)} {cn : Str} {cs : Scope} {L a : Addr} {ccd : Value} {cl : List (Str × Addr)} {outer : List Env} {A₀ : Around} {base h₀ : Heap} {m : Str → Option Value}
    {news : List (Addr × Obj)} {s : Shared} {Q E : Value → Shared → Prop} {c : Nat} {t1 : Tok} : Site w p loose mean mg mb dp un cn cs L a ccd cl outer A₀ base h₀ m news s → (∀ h' tk', Fr h₀ L h' m → News h₀ L h' news → Q (.bool (decide ((c : Int) ∈ c7L))) { s with heap := h', toks := tk' }) →
  (kF w.params).In h₀ → wpAny (model rwl.prog w) (ktrTop dp un gd cn cs L a ccd cl outer) (call (.ref 172) [.str ⟨#[c]⟩ t1]) Q E s := by
  k_fill
  intro S hret X
  obtain ⟨B, F, _, N, T, hk, hdp, hun⟩ := S
  refine wpAny_call ?_
  k_dflt cell_enter
  k_steps
  exact hret _ _ (by assumption) (by assumption)
end Mine

end PartC4

section FlushC5
open PySem PySem.W PyProof.Rows PySem.Calls
namespace Mine
theorem start_C5 {prog : Program} {w : World} {A : Around} {E : Value → Shared → Prop} {s : Shared} {env : Env} {Q : Flow → Shared → Prop} (h : wpAny (model prog w) A (execs [] env) Q E s) : wpAny (model prog w) A (execs [] env) Q E s := by
  w_top off
  first | (walk1; fail) | exact h
end Mine
end FlushC5
section PartC5
open PySem PySem.W PyProof.Rows PySem.Calls
namespace Mine
theorem ents_keys {prog : Program} {w : World} : ∀ {l : List (Int × PySem.Str)} {tk : Nat}, (l.all fun p => hashInt p.1 == p.1) = true → ∀ e ∈ entsFrom tk l, ∃ k, (intKind prog w).is k e.key = true ∧ e.hash = (intKind prog w).hash k
  | [], _, _, _, he => nomatch he
  | (i, v) :: r, tk, ha, e, he => by
    rw [List.all_cons, Bool.and_eq_true] at ha
    rcases List.mem_cons.mp he with rfl | he
    · exact ⟨i, intKind_is _ _ _ _, (eq_of_beq ha.1).symm⟩
    · exact ents_keys ha.2 e he
theorem ents_keys2 {prog : Program} {w : World} : ∀ {l : List (Int × PySem.Str)} {tk : Nat}, (l.all fun p => hashInt p.1 == p.1) = true → ∀ e ∈ entsFrom2 tk l, ∃ k, (intKind prog w).is k e.key = true ∧ e.hash = (intKind prog w).hash k
  | [], _, _, _, he => nomatch he
  | (i, v) :: r, tk, ha, e, he => by
    rw [List.all_cons, Bool.and_eq_true] at ha
    rcases List.mem_cons.mp he with rfl | he
    · exact ⟨i, intKind_is _ _ _ _, (eq_of_beq ha.1).symm⟩
    · exact ents_keys2 ha.2 e he
theorem raw_hash1 : ((b3Raw.take 646).all fun p => hashInt p.1 == p.1) = true := by decide +kernel
theorem raw_hash2 : ((b3Raw.drop 646).all fun p => hashInt p.1 == p.1) = true := by decide +kernel
noncomputable def b3F (k : Int) : Option Value := findBy Value.isInt b3All.toArray k
theorem b3_map {prog : Program} {w : World} {h : Heap} (X : (kF w.params).In h) : h.MapOf (intKind prog w) 115 b3F := by
  have ho : h.get? 115 = some (o115 w.params) := X 115 _ (by with_unfolding_all rfl)
  refine ⟨o115 w.params, b3All.toArray, 650, ho, ⟨rfl, rfl, rfl⟩, rfl, fun e he => ?_, fun k => rfl⟩
  have he : e ∈ b3All := by simpa using he
  rcases List.mem_append.mp he with he | he
  · exact ents_keys raw_hash1 e he
  · exact ents_keys2 raw_hash2 e he
section
variable {w : World} {A : Around} {E : Value → Shared → Prop} {s : Shared} {h₀ : Heap} {L : Addr} {m : Str → Option Value}
theorem b3_meth {Q : Value × List Value → Shared → Prop} {pl : Sem Bool} (X : (kF w.params).In h₀) (F : Fr h₀ L s.heap m)
    (h : Q (.builtin "dict.get", [.ref 115]) s) : wpAny (model rwl.prog w) A (getMethod (.ref 115) "get" pl) Q E s := by
  have hm : s.heap.MapOf (intKind rwl.prog w) 115 b3F := b3_map (in_kF X F)
  exact getMethod_builtin hm.typeIs PySem.F.plainAttrs_dict PySem.F.slot_dict_get PySem.F.type_dict_get hm.noDict h
theorem b3_get {Q : Value → Shared → Prop} {k : Int} {t : Tok} {v : Value} (X : (kF w.params).In h₀) (F : Fr h₀ L s.heap m) (e : (b3F k).getD .none = v)
    (h : Q v { s with toks := s.toks + 1 }) : wpAny (model rwl.prog w) A (call (.builtin "dict.get") [.ref 115, .int k t]) Q E s := by
  subst e
  have hm : s.heap.MapOf (intKind rwl.prog w) 115 b3F := b3_map (in_kF X F)
  exact call_meetsIn PySem.F.slot_dict_get hm.typeIs PySem.F.entry_dict_get (PySem.F.args_dict_get_2 _ _) (meets_dict_get (intKind rwl.prog w) 115 (intKind_is _ _ _ _) rfl) ⟨_, hm, h⟩
end
noncomputable def b3Out (c : Nat) : PySem.Str := match b3F (c : Int) with
  | some (.str x _) => x
  | _ => Txt.lower ⟨#[c]⟩
noncomputable def okB3 (c : Nat) : Bool := (match b3F (c : Int) with
  | some (.str _ _) => true
  | none => true
  | _ => false)
noncomputable def fronts : List Nat := [97, 65, 119808, 119860, 119912, 120016, 120172, 120224, 120276, 120328, 120380, 120432]
noncomputable def scanB : List (Int × PySem.Str) → List (Int × PySem.Str) → Bool
  | _, [] => true
  | [], _ :: _ => false
  | (k, v) :: r, (c, x) :: q => if k < c then scanB r ((c, x) :: q) else decide (k = c) && (decide (v = x) && scanB r q)
theorem scanB_ok : ∀ {l q : List (Int × PySem.Str)}, q.Pairwise (fun a b => a.1 < b.1) → scanB l q = true → ∀ y ∈ q, l.find? (fun p => p.1 == y.1) = some y
  | _, [], _, _, _, hy => nomatch hy
  | [], _ :: _, _, h, _, _ => nomatch h
  | (k, v) :: r, (c, x) :: q, hp, h, y, hy => by
    unfold scanB at h
    have hc : ∀ z ∈ q, c < z.1 := (List.pairwise_cons.mp hp).1
    by_cases hk : k < c
    · rw [if_pos hk] at h
      have hky : k < y.1 := by
        rcases List.mem_cons.mp hy with rfl | hy
        · exact hk
        · exact Int.lt_trans hk (hc y hy)
      rw [List.find?_cons_of_neg (by simpa using Int.ne_of_lt hky)]
      exact scanB_ok hp h y hy
    · rw [if_neg hk, Bool.and_eq_true, Bool.and_eq_true, decide_eq_true_eq, decide_eq_true_eq] at h
      obtain ⟨rfl, rfl, h⟩ := h
      rcases List.mem_cons.mp hy with rfl | hy
      · rw [List.find?_cons_of_pos (by simp)]
      · rw [List.find?_cons_of_neg (by simpa using Int.ne_of_lt (hc y hy))]
        exact scanB_ok (List.pairwise_cons.mp hp).2 h y hy
theorem ents_find {k : Int} {x : PySem.Str} : ∀ {l : List (Int × PySem.Str)} {tk : Nat}, l.find? (fun p => p.1 == k) = some (k, x) → ∃ t, ((entsFrom tk l).find? fun e => Value.isInt k e.key).map (·.val) = some (.str x t)
  | (i, v) :: r, tk, h => by
    by_cases e : i = k
    · subst e
      rw [List.find?_cons_of_pos (by simp)] at h
      cases h
      exact ⟨tk + 1, by unfold entsFrom; rw [List.find?_cons_of_pos (by simp [Value.isInt])]; rfl⟩
    · rw [List.find?_cons_of_neg (by simpa using e)] at h
      obtain ⟨t, ht⟩ := ents_find (tk := tk + 3) h
      exact ⟨t, by unfold entsFrom; rw [List.find?_cons_of_neg (by simpa [Value.isInt] using e)]; exact ht⟩
theorem ents_find2 {k : Int} {x : PySem.Str} : ∀ {l : List (Int × PySem.Str)} {tk : Nat}, l.find? (fun p => p.1 == k) = some (k, x) → ∃ t, ((entsFrom2 tk l).find? fun e => Value.isInt k e.key).map (·.val) = some (.str x t)
  | (i, v) :: r, tk, h => by
    by_cases e : i = k
    · subst e
      rw [List.find?_cons_of_pos (by simp)] at h
      cases h
      exact ⟨tk + 1, by unfold entsFrom2; rw [List.find?_cons_of_pos (by simp [Value.isInt])]; rfl⟩
    · rw [List.find?_cons_of_neg (by simpa using e)] at h
      obtain ⟨t, ht⟩ := ents_find2 (tk := tk + 2) h
      exact ⟨t, by unfold entsFrom2; rw [List.find?_cons_of_neg (by simpa [Value.isInt] using e)]; exact ht⟩
theorem ents_none {k : Int} : ∀ {l : List (Int × PySem.Str)} {tk : Nat}, l.find? (fun p => p.1 == k) = none → (entsFrom tk l).find? (fun e => Value.isInt k e.key) = none
  | [], _, _ => rfl
  | (i, v) :: r, tk, h => by
    have e : i ≠ k := fun e => by rw [List.find?_cons_of_pos (by simpa using e)] at h; cases h
    rw [List.find?_cons_of_neg (by simpa using e)] at h
    unfold entsFrom
    rw [List.find?_cons_of_neg (by simpa [Value.isInt] using e)]
    exact ents_none h
theorem ents_none2 {k : Int} : ∀ {l : List (Int × PySem.Str)} {tk : Nat}, l.find? (fun p => p.1 == k) = none → (entsFrom2 tk l).find? (fun e => Value.isInt k e.key) = none
  | [], _, _ => rfl
  | (i, v) :: r, tk, h => by
    have e : i ≠ k := fun e => by rw [List.find?_cons_of_pos (by simpa using e)] at h; cases h
    rw [List.find?_cons_of_neg (by simpa using e)] at h
    unfold entsFrom2
    rw [List.find?_cons_of_neg (by simpa [Value.isInt] using e)]
    exact ents_none2 h
theorem b3F_eq (k : Int) : b3F k = (b3All.find? fun e => Value.isInt k e.key).map (·.val) := by
  unfold b3F findBy
  rw [List.find?_toArray]
theorem b3F_some {k : Int} {x : PySem.Str} (h : b3Raw.find? (fun p => p.1 == k) = some (k, x)) : ∃ t, b3F k = some (.str x t) := by
  rw [b3F_eq]
  unfold b3All
  rw [List.find?_append]
  rw [← List.take_append_drop 646 b3Raw, List.find?_append] at h
  cases h1 : (b3Raw.take 646).find? (fun p => p.1 == k) with
  | some y =>
    rw [h1] at h
    cases h
    obtain ⟨t, ht⟩ := ents_find (tk := 504) h1
    obtain ⟨e, he, hv⟩ := Option.map_eq_some_iff.mp ht
    exact ⟨t, by rw [he]; exact congrArg some hv⟩
  | none =>
    rw [h1] at h
    obtain ⟨t, ht⟩ := ents_find2 (tk := 2442) h
    exact ⟨t, by rw [ents_none h1]; exact ht⟩
theorem b3F_none {k : Int} (h : b3Raw.find? (fun p => p.1 == k) = none) : b3F k = none := by
  rw [b3F_eq]
  unfold b3All
  rw [List.find?_append]
  rw [← List.take_append_drop 646 b3Raw, List.find?_append] at h
  cases h1 : (b3Raw.take 646).find? (fun p => p.1 == k) with
  | some y => rw [h1] at h; cases h
  | none => rw [h1] at h; rw [ents_none h1, ents_none2 h]; rfl
noncomputable def wideF : List Nat := [119808, 119860, 119912, 120016, 120172, 120224, 120276, 120328, 120380, 120432]
noncomputable def asks : List (Int × PySem.Str) := wideF.flatMap fun f => (List.range 8).map fun j => (((f + j : Nat) : Int), ⟨#[97 + j]⟩)
theorem asks_up : asks.Pairwise (fun a b => a.1 < b.1) := by decide +kernel
theorem asks_ok : scanB b3Raw asks = true := by decide +kernel
theorem raw_low : (b3Raw.all fun p => decide (105 ≤ p.1)) = true := by decide +kernel
theorem low_ok : ([97, 65].all fun f : Nat => (List.range 8).all fun j => Txt.lower ⟨#[f + j]⟩ == ⟨#[97 + j]⟩) = true := by decide +kernel
theorem seen_none : (fronts.all fun f => (List.range 8).all fun j => !decide (((f + j : Nat) : Int) ∈ b1L)) = true := by decide +kernel
theorem front_wide {f j : Nat} (hf : f ∈ wideF) (hj : j < 8) : okB3 (f + j) = true ∧ b3Out (f + j) = ⟨#[97 + j]⟩ := by
  obtain ⟨t, ht⟩ := b3F_some (scanB_ok asks_up asks_ok _ (List.mem_flatMap.mpr ⟨f, hf, List.mem_map.mpr ⟨j, List.mem_range.mpr hj, rfl⟩⟩))
  unfold okB3 b3Out
  rw [ht]
  exact ⟨rfl, rfl⟩
theorem front_low {f j : Nat} (hf : f ∈ [97, 65]) (hj : j < 8) : okB3 (f + j) = true ∧ b3Out (f + j) = ⟨#[97 + j]⟩ := by
  have hl := List.all_eq_true.mp (List.all_eq_true.mp low_ok f hf) j (List.mem_range.mpr hj)
  have hn : b3F ((f + j : Nat) : Int) = none := b3F_none (List.find?_eq_none.mpr fun p hp => by
    have h1 := List.all_eq_true.mp raw_low p hp
    rw [decide_eq_true_eq] at h1
    simp only [List.mem_cons, List.not_mem_nil, or_false] at hf
    simp only [beq_iff_eq]
    omega)
  unfold okB3 b3Out
  rw [hn]
  exact ⟨rfl, eq_of_beq hl⟩
theorem front_ok {f j : Nat} (hf : f ∈ fronts) (hj : j < 8) : okB3 (f + j) = true ∧ b3Out (f + j) = ⟨#[97 + j]⟩ ∧ decide (((f + j : Nat) : Int) ∈ b1L) = false := by
  have hs := List.all_eq_true.mp (List.all_eq_true.mp seen_none f hf) j (List.mem_range.mpr hj)
  rw [Bool.not_eq_true'] at hs
  have hm : f ∈ [97, 65] ++ wideF := hf
  rcases List.mem_append.mp hm with h | h
  · exact ⟨(front_low h hj).1, (front_low h hj).2, hs⟩
  · exact ⟨(front_wide h hj).1, (front_wide h hj).2, hs⟩
theorem kw_C5_1 : True := by
  k_with_none
  k_with "my_room" => ((try simp only [depth_under_make, depth_under_kw, depth_in1, depth_deeper, depth_caller]); (try dsimp only [ktrTop]); first | exact Mine.rm0 (by assumption) | exact Mine.rm1 (by assumption) (by exact rfl) | exact Mine.rm2 (by assumption) (by exact rfl) | exact Mine.rm2 (b := 40) (by assumption) (by exact rfl) | exact Mine.rm1 (b := 40) (by assumption) (by exact rfl) | exact Mine.rm2 (b := 50) (by assumption) (by exact rfl) | exact Mine.rm1 (b := 50) (by assumption) (by exact rfl) | fail "room")
  k_with "my_units" => ((try simp only [units_in1, units_deeper, Around.mark_units, units_caller]); (try dsimp only [ktrTop]); first | exact Mine.rm0 (by assumption) | exact Mine.rm1 (by assumption) (by exact rfl) | exact Mine.rm2 (by assumption) (by exact rfl) | exact Mine.rm2 (b := 140) (by assumption) (by exact rfl) | exact Mine.rm1 (b := 140) (by assumption) (by exact rfl) | exact Mine.rm2 (b := 180) (by assumption) (by exact rfl) | exact Mine.rm1 (b := 180) (by assumption) (by exact rfl) | fail "room")
  k_with "call builtin:ord" => (k_here; k_dflt (refine P.ord_of_char ?_))
  k_with "getMethod ref" => (k_here; k_dflt (refine' b3_meth ?X ?F ?_; (case X => k_asm); (case F => k_asm); k_whole))
  k_with "call builtin:str.lower" => (k_here; k_dflt (refine SCL.lower (by show 1 ≤ _; decide) ?_); intro _)
  k_with "call builtin:dict.get" => (k_here; k_dflt (refine' b3_get ?X ?F ?e ?_; (case X => k_asm); (case F => k_asm); (case e => assumption); k_whole))
  exact True.intro
theorem b3_ctr {w : World} {p : Program} {loose : List PySem.Str} {mean : ExcName → Option Value} {mg mb : Str → Option Value} {dp un : Nat} {gd : Option (List Code)} {cn : Str} {cs : Scope} {L a : Addr} {ccd : Value} {cl : List (Str × Addr)} {outer : List Env} {A₀ : Around} {base h₀ : Heap} {m : Str → Option Value}
    {news : List (Addr × Obj)} {s : Shared} {Q E : Value → Shared → Prop} {c : Nat} {t1 : Tok} : Site w p loose mean mg mb dp un cn cs L a ccd cl outer A₀ base h₀ m news s → okB3 c = true → (∀ t h' tk', Fr h₀ L h' m → News h₀ L h' news → Q (.str (b3Out c) t) { s with heap := h', toks := tk' }) →
  (kF w.params).In h₀ → wpAny (model rwl.prog w) (ktrTop dp un gd cn cs L a ccd cl outer) (call (.ref 160) [.str ⟨#[c]⟩ t1]) Q E s := by
  k_fill
  intro S ok hret X
  obtain ⟨B, F, _, N, T, hk, hdp, hun⟩ := S
  unfold okB3 at ok
  unfold b3Out at hret
  obtain ⟨fv, hfv⟩ : ∃ fv, b3F (c : Int) = fv := ⟨_, rfl⟩
  rw [hfv] at ok hret
  have hgt := congrArg (fun z => z.getD Value.none) hfv
  rcases fv with _ | ⟨_ | _ | _ | _ | _ | _ | _ | _ | _ | _ | _⟩
  all_goals try (exfalso; simp at ok; done)
  all_goals dsimp only [Option.getD] at hret ok hgt
  all_goals clear hfv ok
  all_goals (
    refine wpAny_call ?_
    k_dflt cell_enter
    k_steps)
  all_goals exact hret _ _ _ (by assumption) (by assumption)
end Mine

end PartC5

section FlushB1
open PySem PySem.W PyProof.Rows PySem.Calls
namespace Mine
theorem start_B1 {prog : Program} {w : World} {A : Around} {E : Value → Shared → Prop} {s : Shared} {env : Env} {Q : Flow → Shared → Prop} (h : wpAny (model prog w) A (execs [] env) Q E s) : wpAny (model prog w) A (execs [] env) Q E s := by
  w_top off
  first | (walk1; fail) | exact h
end Mine
end FlushB1
section PartB1
open PySem PySem.W PyProof.Rows PySem.Calls
namespace Mine
noncomputable def Again (I : Nat → Shared → Prop) (n : Nat) (s : Shared) : Prop := ∃ m, m < n ∧ I m s
noncomputable def TurnEnd (I : Nat → Shared → Prop) (Q : Flow → Shared → Prop) (n : Nat) (f : Flow) (s : Shared) : Prop :=
  match f with
  | .next => Again I n s
  | .cont => Again I n s
  | .brk => Q .next s
  | .ret v => Q (.ret v) s
section
variable {prog : Program} {w : World} {A : Around} {E : Value → Shared → Prop} {s : Shared} {env : Env} {test : PySem.Expr} {body orelse : List Stmt} {Q : Flow → Shared → Prop}
noncomputable def BoolIf (b : Bool) (T F : Prop) : Prop := (b = true → T) ∧ (b = false → F)
theorem whl_ind (I : Nat → Shared → Prop) (hE : PassesOwn (model prog w) A env E)
    (turn : ∀ n s, I n s → wpAny (model prog w) A (isTrue test env (eval test env)) (fun b s₂ => BoolIf b (wpAny (model prog w) A (execs body env) (TurnEnd I Q n) E s₂) (wpAny (model prog w) A (execs orelse env) Q E s₂)) E s)
    (n : Nat) {k : Nat} (h : I n s) : WhlRest prog w A E env test body orelse Q k s := by
  induction n using Nat.strongRecOn generalizing s with
  | ind n ih =>
    refine (whl_turn (k := k) hE (wpAny_mono (turn n s h) (fun b s₂ hb => ?_) fun _ _ e => e) : WhlRest prog w A E env test body orelse Q (k + 1) s)
    cases b with
    | false => exact WhlIf.no rfl (hb.2 rfl)
    | true =>
      refine WhlIf.yes rfl (wpAny_mono (hb.1 rfl) (fun f s₃ h₃ => ?_) fun _ _ e => e)
      cases f with
      | next => obtain ⟨m, hm, hI⟩ := h₃; exact ih m hm hI
      | cont => obtain ⟨m, hm, hI⟩ := h₃; exact ih m hm hI
      | brk => exact h₃
      | ret v => exact h₃
noncomputable def Loop (prog : Program) (w : World) (A : Around) (E : Value → Shared → Prop) (env : Env) (test : PySem.Expr) (body orelse : List Stmt) (Q : Flow → Shared → Prop) (s : Shared) : Prop := WhlRest prog w A E env test body orelse Q 0 s
theorem loop_start {pos : Pos} (h : Loop prog w A E env test body orelse Q s) : wpAny (model prog w) A (exec (.While test body orelse pos) env) Q E s := whl_start 0 h
theorem loop_ind (I : Nat → Shared → Prop) (hE : PassesOwn (model prog w) A env E)
    (turn : ∀ n s, I n s → wpAny (model prog w) A (isTrue test env (eval test env)) (fun b s₂ => BoolIf b (wpAny (model prog w) A (execs body env) (TurnEnd I Q n) E s₂) (wpAny (model prog w) A (execs orelse env) Q E s₂)) E s)
    (n : Nat) (h : I n s) : Loop prog w A E env test body orelse Q s := whl_ind I hE turn n h
end
noncomputable def bisF (P : Int → Bool) : Nat → Int → Int → Int
  | 0, lo, _ => lo
  | n + 1, lo, hi => if lo < hi then (if P ((lo + hi).fdiv 2) then bisF P n ((lo + hi).fdiv 2 + 1) hi else bisF P n lo ((lo + hi).fdiv 2)) else lo
structure KeyAt (kq : Addr) (need : List (Addr × Obj) → Prop) : Prop where
  fn : ∀ news, need news → ∃ oc od fd sl, (kq, (⟨oc, od, .func fd, sl⟩ : Obj)) ∈ news
noncomputable def KeyCtr (w : World) (p : Program) (loose : List PySem.Str) (mean : ExcName → Option Value) (mg mb : Str → Option Value) (kq : Addr) (need : List (Addr × Obj) → Prop) (v : Value) (r : UInt64) : Prop :=
  ∀ (dp un : Nat) (gd : Option (List Code)) (cn : Str) (cs : Scope) (L a : Addr) (ccd : Value) (cl : List (Str × Addr)) (outer : List Env) (A₀ : Around) (base h₀ : Heap) (m : Str → Option Value) (news : List (Addr × Obj)) (s : Shared) (Q E : Value → Shared → Prop),
    Below A₀ base outer h₀ → Fr h₀ L s.heap m → (kF w.params).In h₀ → News h₀ L s.heap news → Top p loose mean mg mb h₀ → cs.kind = .function → need news → dp + 30 < recursionLimit → un + 100 < cLine →
    (∀ t h' tk', Fr h₀ L h' m → News h₀ L h' news → Q (.float r t) { s with heap := h', toks := tk' }) →
    wpAny (model rwl.prog w) (ktrTop dp un gd cn cs L a ccd cl outer) (call (.ref kq) [v]) Q E s
section
variable {prog : Program} {w : World} {A : Around} {E : Value → Shared → Prop} {s : Shared} {h₀ : Heap} {L : Addr} {m : Str → Option Value} {news : List (Addr × Obj)}
theorem led_list {h : Heap} {ra : Addr} {its : Array Value} {kk : Nat} (N : News h₀ L h news) (hm : (ra, ({ cls := .type "list", data := .seq its kk } : Obj)) ∈ news) : h.IsList ra its := ⟨_, (N _ hm).1, rfl, _, rfl⟩
theorem key_use {w : World} {p : Program} {loose : List PySem.Str} {mean : ExcName → Option Value} {mg mb : Str → Option Value} {kq : Addr} {need : List (Addr × Obj) → Prop} {its : Array Value} {f : Nat → UInt64} {i : Nat} {v : Value}
    (hkey : ∀ i v, its[i]? = some v → KeyCtr w p loose mean mg mb kq need v (f i)) (hv : its[i]? = some v)
    {dp un : Nat} {gd : Option (List Code)} {cn : Str} {cs : Scope} {L a : Addr} {ccd : Value} {cl : List (Str × Addr)} {outer : List Env} {A₀ : Around} {base h₀ : Heap} {m : Str → Option Value} {news : List (Addr × Obj)} {s : Shared} {Q E : Value → Shared → Prop}
    (B : Below A₀ base outer h₀) (F : Fr h₀ L s.heap m) (X : (kF w.params).In h₀) (N : News h₀ L s.heap news) (T : Top p loose mean mg mb h₀) (hk : cs.kind = .function) (hn : need news) (hd : dp + 30 < recursionLimit) (hu : un + 100 < cLine)
    (ret : ∀ t h' tk', Fr h₀ L h' m → News h₀ L h' news → Q (.float (f i) t) { s with heap := h', toks := tk' }) :
    wpAny (model rwl.prog w) (ktrTop dp un gd cn cs L a ccd cl outer) (call (.ref kq) [v]) Q E s :=
  hkey i v hv dp un gd cn cs L a ccd cl outer A₀ base h₀ m news s Q E B F X N T hk hn hd hu ret
theorem len_led {ra : Addr} {its : Array Value} {kk : Nat} {Q : Value → Shared → Prop} (N : News h₀ L s.heap news) (hm : (ra, ({ cls := .type "list", data := .seq its kk } : Obj)) ∈ news) (hz : its.size < 1000)
    (h : Q (.int its.size (s.toks + 1)) { s with toks := s.toks + 1 + 1 }) : wpAny (model prog w) A (call (.builtin "len") [.ref ra]) Q E s :=
  Calls.call_len_list (led_list N hm) (by omega) h
theorem item_led {value slice : PySem.Expr} {ra : Addr} {its : Array Value} {kk : Nat} {k : Int} {u : Tok} {Q : Value → Shared → Prop} (N : News h₀ L s.heap news) (hm : (ra, ({ cls := .type "list", data := .seq its kk } : Obj)) ∈ news)
    (hz : its.size < 1000) (h0 : 0 ≤ k) (h1 : k < its.size) (h : ∀ x, its[k.toNat]? = some x → Q x s)
    (hs : subscripted slice false (.ref ra) (.int k u) = operate [.ref ra, .int k u] (getItem (.ref ra) (.int k u)) := by with_unfolding_all rfl) (hg : ∀ r, letTemporaryGo value (.ref ra) r = pure () := by intro _; with_unfolding_all rfl) :
    wpAny (model prog w) A (subscriptTail value slice (.ref ra) (.int k u)) Q E s := by
  have hk : k.toNat < its.size := by omega
  exact item_list (led_list N hm) h0 (by omega) (Array.getElem?_eq_getElem hk) (h _ (Array.getElem?_eq_getElem hk)) hs hg
end
theorem mid_ge {lo hi : Int} (c : lo < hi) : lo ≤ (lo + hi).fdiv 2 := by rw [Int.fdiv_eq_ediv_of_nonneg _ (by decide : (0:Int) ≤ 2)]; omega
theorem mid_lt {lo hi : Int} (c : lo < hi) : (lo + hi).fdiv 2 < hi := by rw [Int.fdiv_eq_ediv_of_nonneg _ (by decide : (0:Int) ≤ 2)]; omega
theorem mid_nn {lo hi : Int} (h : 0 ≤ lo) (c : lo < hi) : 0 ≤ (lo + hi).fdiv 2 := Int.le_trans h (mid_ge c)
theorem mid_sz {lo hi n : Int} (h : hi ≤ n) (c : lo < hi) : (lo + hi).fdiv 2 < n := Int.lt_of_lt_of_le (mid_lt c) h
theorem mid_le {lo hi n : Int} (h : hi ≤ n) (c : lo < hi) : (lo + hi).fdiv 2 ≤ n := Int.le_of_lt (mid_sz h c)
theorem mid_up {lo hi : Int} (c : lo < hi) : (lo + hi).fdiv 2 + 1 ≤ hi := mid_lt c
theorem mid_nn1 {lo hi : Int} (h : 0 ≤ lo) (c : lo < hi) : 0 ≤ (lo + hi).fdiv 2 + 1 := Int.le_trans (mid_nn h c) (Int.le_of_lt (Int.lt_succ _))
theorem mid_dn {lo hi x : Int} {n : Nat} (hn : n = (hi - lo).toNat) (h : lo ≤ x) (c : x < hi) : (x - lo).toNat < n := by rw [hn]; omega
theorem mid_up1 {lo hi x : Int} {n : Nat} (hn : n = (hi - lo).toNat) (h : lo ≤ x) (c : x < hi) : (hi - (x + 1)).toNat < n := by rw [hn]; omega
theorem sz0 {n : Nat} : n = ((n : Int) - 0).toNat := by rw [Int.sub_zero]; rfl
theorem nn_of {n : Nat} : (0 : Int) ≤ n := Int.natCast_nonneg n
inductive BisJ (gB : Heap) (LB : Addr) (s : Shared) (news : List (Addr × Obj)) (ra kq : Addr) (n : Nat) (xv : Value) (b : Int) (P : Int → Bool) : Nat → Shared → Prop
  | mk (lo hi : Int) (tl th : Tok) (h : Heap) (tk : Nat) (mm : Str → Option Value) (F : Fr gB LB h mm) (N : News gB LB h news) (ma : mm (Str.ofString "a") = some (.ref ra)) (mx : mm (Str.ofString "x") = some xv) (mlo : mm (Str.ofString "lo") = some (.int lo tl)) (mhi : mm (Str.ofString "hi") = some (.int hi th)) (mkey : mm (Str.ofString "key") = some (.ref kq))
    (h0 : 0 ≤ lo) (h1 : lo ≤ hi) (h2 : hi ≤ (n : Int)) (hb : b = bisF P (hi - lo).toNat lo hi) : BisJ gB LB s news ra kq n xv b P (hi - lo).toNat { s with heap := h, toks := tk }
end Mine

end PartB1

section FlushB2
open PySem PySem.W PyProof.Rows PySem.Calls
namespace Mine
theorem start_B2 {prog : Program} {w : World} {A : Around} {E : Value → Shared → Prop} {s : Shared} {env : Env} {Q : Flow → Shared → Prop} (h : wpAny (model prog w) A (execs [] env) Q E s) : wpAny (model prog w) A (execs [] env) Q E s := by
  w_top off
  first | (walk1; fail) | exact h
end Mine
end FlushB2
section PartB2
open PySem PySem.W PyProof.Rows PySem.Calls
namespace Mine
theorem bisF_mono {P : Int → Bool} : ∀ (n : Nat) (lo hi : Int), hi - lo ≤ n → ∀ k, n ≤ k → bisF P k lo hi = bisF P n lo hi
  | 0, lo, hi, h, k, _ => by
    cases k with
    | zero => rfl
    | succ k => show (if lo < hi then _ else lo) = lo; rw [if_neg (by omega)]
  | n + 1, lo, hi, h, k, hk => by
    obtain ⟨k, rfl⟩ : ∃ j, k = j + 1 := ⟨k - 1, by omega⟩
    show (if lo < hi then _ else lo) = (if lo < hi then _ else lo)
    by_cases c : lo < hi
    · rw [if_pos c, if_pos c, Int.fdiv_eq_ediv_of_nonneg _ (by decide : (0:Int) ≤ 2)]
      rw [bisF_mono n _ hi (by omega) k (by omega), bisF_mono n lo _ (by omega) k (by omega)]
    · rw [if_neg c, if_neg c]
theorem bisF_step {P : Int → Bool} {lo hi : Int} (h : lo < hi) : bisF P (hi - lo).toNat lo hi = if P ((lo + hi).fdiv 2) then bisF P (hi - ((lo + hi).fdiv 2 + 1)).toNat ((lo + hi).fdiv 2 + 1) hi else bisF P ((lo + hi).fdiv 2 - lo).toNat lo ((lo + hi).fdiv 2) := by
  obtain ⟨n, hn⟩ : ∃ n, (hi - lo).toNat = n + 1 := ⟨(hi - lo).toNat - 1, by omega⟩
  rw [hn]
  show (if lo < hi then _ else lo) = _
  rw [if_pos h, Int.fdiv_eq_ediv_of_nonneg _ (by decide : (0:Int) ≤ 2)]
  rw [bisF_mono _ _ hi (Int.self_le_toNat _) n (by omega), bisF_mono _ lo _ (Int.self_le_toNat _) n (by omega)]
theorem bisF_end {P : Int → Bool} {lo hi : Int} (h : ¬ lo < hi) : bisF P (hi - lo).toNat lo hi = lo := by
  cases (hi - lo).toNat with
  | zero => rfl
  | succ n => show (if lo < hi then _ else lo) = lo; rw [if_neg h]
noncomputable def ltF' (a b : UInt64) : Bool := Float64.cmp a b == some Ordering.lt
theorem kw_B2_1 : True := by
  k_with_none
  k_with "my_room" => ((try simp only [depth_under_make, depth_under_kw, depth_in1, depth_deeper, depth_caller]); (try dsimp only [ktrTop]); first | exact Mine.rm0 (by assumption) | exact Mine.rm1 (by assumption) (by exact rfl) | exact Mine.rm2 (by assumption) (by exact rfl) | exact Mine.rm2 (b := 40) (by assumption) (by exact rfl) | exact Mine.rm1 (b := 40) (by assumption) (by exact rfl) | exact Mine.rm2 (b := 50) (by assumption) (by exact rfl) | exact Mine.rm1 (b := 50) (by assumption) (by exact rfl) | fail "room")
  k_with "my_units" => ((try simp only [units_in1, units_deeper, Around.mark_units, units_caller]); (try dsimp only [ktrTop]); first | exact Mine.rm0 (by assumption) | exact Mine.rm1 (by assumption) (by exact rfl) | exact Mine.rm2 (by assumption) (by exact rfl) | exact Mine.rm2 (b := 140) (by assumption) (by exact rfl) | exact Mine.rm1 (b := 140) (by assumption) (by exact rfl) | exact Mine.rm2 (b := 180) (by assumption) (by exact rfl) | exact Mine.rm1 (b := 180) (by assumption) (by exact rfl) | fail "room")
  k_with "my_m_look" => first | exact rfl | assumption | ((try dsimp only); repeat' (first | assumption | (refine (if_neg (by decide)).trans ?_) | (exact if_pos (by decide))))
  k_with "exec While Compare" => (k_here; k_dflt (refine loop_start ?_))
  k_with "eval Name" => (k_here; k_dflt (refine' ld ?k1 ?k2 ?_; (case k1 => k_asm); (case k2 => k_extra "my_m_look"); k_whole))
  k_with "call builtin:len" => (k_here; k_dflt (refine' len_led ?a ?b ?c ?_; (case a => k_asm); (case b => assumption); (case c => assumption); k_whole))
  k_with "subscriptTail" => (k_here; (with_reducible show wpAny _ _ (subscriptTail _ _ (Value.ref _) (Value.int _ _)) _ _ _); k_dflt (refine' item_led ?a ?b ?c ?d ?e ?_; (case a => k_asm); (case b => assumption); (case c => assumption); (case d => exact mid_nn (by assumption) (by assumption)); (case e => exact mid_sz (by assumption) (by assumption)); k_whole); intro _ _)
  k_with "BoolIf" => (refine ⟨fun hb' => ?_, fun hb' => ?_⟩ <;> (try simp only [decide_eq_true_eq, decide_eq_false_iff_not] at hb'))
  k_with "TurnEnd" => dsimp only [TurnEnd]
  k_with "FnAt" => (k_dflt (exact FnAt.of (by k_asm) (by assumption)))
  k_with "callWith ref" => (k_here; k_dflt (refine' callWith_F ?k1 ?_; (case k1 => exact FnAt.of (by k_asm) (by assumption)); k_whole))
  k_with "call ref" => (k_here; k_dflt (refine' key_use ?hk ?hv ?B ?F ?X ?N ?T ?k ?need ?d ?u ?_; (case hk => assumption); (case hv => assumption); (case B => k_asm); (case F => k_asm); (case X => k_asm); (case N => k_asm); (case T => k_asm); (case k => rfl); (case need => assumption); (case d => ktr_room); (case u => ktr_units); k_whole); intro _ _ _ _ _)
  exact True.intro
theorem bisL_ctr {w : World} {p : Program} {loose : List PySem.Str} {mean : ExcName → Option Value} {mg mb : Str → Option Value} {dp un : Nat} {gd : Option (List Code)} {cn : Str} {cs : Scope} {L a : Addr} {ccd : Value} {cl : List (Str × Addr)} {outer : List Env} {A₀ : Around} {base h₀ : Heap} {m : Str → Option Value}
    {news : List (Addr × Obj)} {s : Shared} {Q E : Value → Shared → Prop} {x : UInt64} {t1 : Tok} {ra kq : Addr} {its : Array Value} {kk : Nat} {need : List (Addr × Obj) → Prop} {f : Nat → UInt64} {oc : Value} {od : Option Addr} {fd : FuncData} {sl : Array (Option Value)} : Site w p loose mean mg mb dp un cn cs L a ccd cl outer A₀ base h₀ m news s →
    (ra, ({ cls := .type "list", data := .seq its kk } : Obj)) ∈ news → its.size < 1000 → (kq, (⟨oc, od, .func fd, sl⟩ : Obj)) ∈ news → need news → dp + 40 < recursionLimit → un + 140 < cLine →
    (∀ i v, its[i]? = some v → KeyCtr w p loose mean mg mb kq need v (f i)) →
    (∀ t h' tk', Fr h₀ L h' m → News h₀ L h' news → Q (.int (bisF (fun k => ltF' (f k.toNat) x) (its.size : Int).toNat 0 its.size) t) { s with heap := h', toks := tk' }) →
  (kF w.params).In h₀ → wpAny (model rwl.prog w) (ktrTop dp un gd cn cs L a ccd cl outer) (call (.ref 58) [.ref ra, .float x t1] [(Str.ofString "key", .ref kq)]) Q E s := by
  k_fill
  intro S hra hsz hfn hneed hdp hun hkey hret X
  obtain ⟨B, F, _, N, T, hk, _, _⟩ := S
  refine wpAny_call ?_
  k_dflt (((refine' code_def ?k1 ?k2 ?k3 ?k4 ?k5 ?kA ?kF ?kK ?k6 ?k7 ?k8 ?k9 ?kB ?_ ?c2 ?c3 ?c4 ?c5; (case kA => exact rfl); (case kF => exact rfl); (case kK => assumption); (case k1 => k_asm); (case k2 => k_asm); (case k3 => k_asm); (case k4 => k_asm); (case k5 => k_asm); (case k6 => k_is); (case k7 => k_is); (case k8 => ktr_room); (case k9 => (refine' kp_binds ?kx ?ke; (case kx => k_in); (case ke => exact fun _ => rfl))); (case c5 => decide); (case kB => exact locs rfl); (case c2 => exact rfl); (case c3 => exact rfl); (case c4 => exact rfl); k_whole; intro gB LB h' FG' F' N' B' X' T'; (try dsimp only); (try k_lift B'); (try k_fold))))
  k_steps
  refine loop_ind (BisJ gB LB s news ra kq its.size (.float x t1) (bisF (fun k => ltF' (f k.toNat) x) (its.size : Int).toNat 0 its.size) (fun k => ltF' (f k.toNat) x)) ?hE ?turn (its.size - 0 : Int).toNat ?h0
  case hE => first | passes_own | with_unfolding_all passes_own
  case h0 => exact .mk 0 its.size _ _ _ _ _ (by assumption) (by assumption) (by k_extra "my_m_look") (by k_extra "my_m_look") (by k_extra "my_m_look") (by k_extra "my_m_look") (by k_extra "my_m_look") (Int.le_refl _) (nn_of) (Int.le_refl _) (congrArg (fun z => bisF _ z 0 its.size) sz0)
  case turn =>
    rintro _ _ ⟨lo, hi, tl, th, h, tk, mm, FF, NN, ma, mx, mlo, mhi, mkey, h0, h1, h2, hb⟩
    k_steps
    · have ht : ltF' (f ((lo + hi).fdiv 2).toNat) x = true := by assumption
      have hl : lo < hi := by assumption
      have hb := hb.trans ((bisF_step hl).trans (if_pos ht))
      exact ⟨_, mid_up1 rfl (mid_ge hl) (mid_lt hl), .mk ((lo + hi).fdiv 2 + 1) hi _ th _ _ _ (by assumption) (by assumption) (by k_extra "my_m_look") (by k_extra "my_m_look") (by k_extra "my_m_look") (by k_extra "my_m_look") (by k_extra "my_m_look") (mid_nn1 h0 hl) (mid_up hl) h2 hb⟩
    · have ht : ltF' (f ((lo + hi).fdiv 2).toNat) x = false := by assumption
      have hl : lo < hi := by assumption
      have hb := hb.trans ((bisF_step hl).trans (if_neg (by rw [ht]; exact Bool.false_ne_true)))
      exact ⟨_, mid_dn rfl (mid_ge hl) (mid_lt hl), .mk lo ((lo + hi).fdiv 2) tl _ _ _ _ (by assumption) (by assumption) (by k_extra "my_m_look") (by k_extra "my_m_look") (by k_extra "my_m_look") (by k_extra "my_m_look") (by k_extra "my_m_look") h0 (mid_ge hl) (mid_le h2 hl) hb⟩
    · have hl : ¬ lo < hi := by assumption
      have hb := hb.trans (bisF_end hl)
      rw [hb] at hret
      exact hret _ _ _ (by assumption) (by assumption)
end Mine

end PartB2

section FlushB3
open PySem PySem.W PyProof.Rows PySem.Calls
namespace Mine
theorem start_B3 {prog : Program} {w : World} {A : Around} {E : Value → Shared → Prop} {s : Shared} {env : Env} {Q : Flow → Shared → Prop} (h : wpAny (model prog w) A (execs [] env) Q E s) : wpAny (model prog w) A (execs [] env) Q E s := by
  w_top off
  first | (walk1; fail) | exact h
end Mine
end FlushB3
section PartB3
open PySem PySem.W PyProof.Rows PySem.Calls
namespace Mine
noncomputable def gt0F (a : UInt64) : Bool := Float64.cmpInt a 0 == some Ordering.gt
theorem kw_B3_1 : True := by
  k_with_none
  k_with "my_room" => ((try simp only [depth_under_make, depth_under_kw, depth_in1, depth_deeper, depth_caller]); (try dsimp only [ktrTop]); first | exact Mine.rm0 (by assumption) | exact Mine.rm1 (by assumption) (by exact rfl) | exact Mine.rm2 (by assumption) (by exact rfl) | exact Mine.rm2 (b := 40) (by assumption) (by exact rfl) | exact Mine.rm1 (b := 40) (by assumption) (by exact rfl) | exact Mine.rm2 (b := 50) (by assumption) (by exact rfl) | exact Mine.rm1 (b := 50) (by assumption) (by exact rfl) | fail "room")
  k_with "my_units" => ((try simp only [units_in1, units_deeper, Around.mark_units, units_caller]); (try dsimp only [ktrTop]); first | exact Mine.rm0 (by assumption) | exact Mine.rm1 (by assumption) (by exact rfl) | exact Mine.rm2 (by assumption) (by exact rfl) | exact Mine.rm2 (b := 140) (by assumption) (by exact rfl) | exact Mine.rm1 (b := 140) (by assumption) (by exact rfl) | exact Mine.rm2 (b := 180) (by assumption) (by exact rfl) | exact Mine.rm1 (b := 180) (by assumption) (by exact rfl) | fail "room")
  k_with "my_m_look" => first | exact rfl | assumption | ((try dsimp only); repeat' (first | assumption | (refine (if_neg (by decide)).trans ?_) | (exact if_pos (by decide))))
  k_with "exec While Compare" => (k_here; k_dflt (refine loop_start ?_))
  k_with "eval Name" => (k_here; k_dflt (refine' ld ?k1 ?k2 ?_; (case k1 => k_asm); (case k2 => k_extra "my_m_look"); k_whole))
  k_with "call builtin:len" => (k_here; k_dflt (refine' len_led ?a ?b ?c ?_; (case a => k_asm); (case b => assumption); (case c => assumption); k_whole))
  k_with "subscriptTail" => (k_here; (with_reducible show wpAny _ _ (subscriptTail _ _ (Value.ref _) (Value.int _ _)) _ _ _); k_dflt (refine' item_led ?a ?b ?c ?d ?e ?_; (case a => k_asm); (case b => assumption); (case c => assumption); (case d => exact mid_nn (by assumption) (by assumption)); (case e => exact mid_sz (by assumption) (by assumption)); k_whole); intro _ _)
  k_with "BoolIf" => (refine ⟨fun hb' => ?_, fun hb' => ?_⟩ <;> (try simp only [decide_eq_true_eq, decide_eq_false_iff_not] at hb'))
  k_with "TurnEnd" => dsimp only [TurnEnd]
  k_with "FnAt" => (k_dflt (exact FnAt.of (by k_asm) (by assumption)))
  k_with "callWith ref" => (k_here; k_dflt (refine' callWith_F ?k1 ?_; (case k1 => exact FnAt.of (by k_asm) (by assumption)); k_whole))
  k_with "call ref" => (k_here; k_dflt (refine' key_use ?hk ?hv ?B ?F ?X ?N ?T ?k ?need ?d ?u ?_; (case hk => assumption); (case hv => assumption); (case B => k_asm); (case F => k_asm); (case X => k_asm); (case N => k_asm); (case T => k_asm); (case k => rfl); (case need => assumption); (case d => ktr_room); (case u => ktr_units); k_whole); intro _ _ _ _ _)
  exact True.intro
theorem bisR_ctr {w : World} {p : Program} {loose : List PySem.Str} {mean : ExcName → Option Value} {mg mb : Str → Option Value} {dp un : Nat} {gd : Option (List Code)} {cn : Str} {cs : Scope} {L a : Addr} {ccd : Value} {cl : List (Str × Addr)} {outer : List Env} {A₀ : Around} {base h₀ : Heap} {m : Str → Option Value}
    {news : List (Addr × Obj)} {s : Shared} {Q E : Value → Shared → Prop} {x : UInt64} {t1 t2 : Tok} {fst : Int} {ra kq : Addr} {its : Array Value} {kk : Nat} {need : List (Addr × Obj) → Prop} {f : Nat → UInt64} {oc : Value} {od : Option Addr} {fd : FuncData} {sl : Array (Option Value)} : Site w p loose mean mg mb dp un cn cs L a ccd cl outer A₀ base h₀ m news s →
    (ra, ({ cls := .type "list", data := .seq its kk } : Obj)) ∈ news → its.size < 1000 → 0 ≤ fst → fst ≤ its.size →  (kq, (⟨oc, od, .func fd, sl⟩ : Obj)) ∈ news → need news → dp + 40 < recursionLimit → un + 140 < cLine →
    (∀ i v, its[i]? = some v → KeyCtr w p loose mean mg mb kq need v (f i)) →
    (∀ t h' tk', Fr h₀ L h' m → News h₀ L h' news → Q (.int (bisF (fun k => !ltF' x (f k.toNat)) ((its.size : Int) - fst).toNat fst its.size) t) { s with heap := h', toks := tk' }) →
  (kF w.params).In h₀ → wpAny (model rwl.prog w) (ktrTop dp un gd cn cs L a ccd cl outer) (call (.ref 40) [.ref ra, .float x t1, .int fst t2] [(Str.ofString "key", .ref kq)]) Q E s := by
  k_fill
  intro S hra hsz hf0 hf1 hfn hneed hdp hun hkey hret X
  obtain ⟨B, F, _, N, T, hk, _, _⟩ := S
  refine wpAny_call ?_
  k_dflt (((refine' code_def ?k1 ?k2 ?k3 ?k4 ?k5 ?kA ?kF ?kK ?k6 ?k7 ?k8 ?k9 ?kB ?_ ?c2 ?c3 ?c4 ?c5; (case kA => exact rfl); (case kF => exact rfl); (case kK => assumption); (case k1 => k_asm); (case k2 => k_asm); (case k3 => k_asm); (case k4 => k_asm); (case k5 => k_asm); (case k6 => k_is); (case k7 => k_is); (case k8 => ktr_room); (case k9 => (refine' kp_binds ?kx ?ke; (case kx => k_in); (case ke => exact fun _ => rfl))); (case c5 => decide); (case kB => exact locs rfl); (case c2 => exact rfl); (case c3 => exact rfl); (case c4 => exact rfl); k_whole; intro gB LB h' FG' F' N' B' X' T'; (try dsimp only); (try k_lift B'); (try k_fold))))
  k_steps
  refine loop_ind (BisJ gB LB s news ra kq its.size (.float x t1) (bisF (fun k => !ltF' x (f k.toNat)) ((its.size : Int) - fst).toNat fst its.size) (fun k => !ltF' x (f k.toNat))) ?hE ?turn (its.size - fst : Int).toNat ?h0
  case hE => first | passes_own | with_unfolding_all passes_own
  case h0 => exact .mk fst its.size _ _ _ _ _ (by assumption) (by assumption) (by k_extra "my_m_look") (by k_extra "my_m_look") (by k_extra "my_m_look") (by k_extra "my_m_look") (by k_extra "my_m_look") (hf0) (hf1) (Int.le_refl _) rfl
  case turn =>
    rintro _ _ ⟨lo, hi, tl, th, h, tk, mm, FF, NN, ma, mx, mlo, mhi, mkey, h0, h1, h2, hb⟩
    k_steps
    · have ht : (ltF' x (f ((lo + hi).fdiv 2).toNat)) = true := by assumption
      have hl : lo < hi := by assumption
      have hb := hb.trans ((bisF_step hl).trans (if_neg (by rw [ht]; exact Bool.false_ne_true)))
      exact ⟨_, mid_dn rfl (mid_ge hl) (mid_lt hl), .mk lo ((lo + hi).fdiv 2) tl _ _ _ _ (by assumption) (by assumption) (by k_extra "my_m_look") (by k_extra "my_m_look") (by k_extra "my_m_look") (by k_extra "my_m_look") (by k_extra "my_m_look") h0 (mid_ge hl) (mid_le h2 hl) hb⟩
    · have ht : (ltF' x (f ((lo + hi).fdiv 2).toNat)) = false := by assumption
      have hl : lo < hi := by assumption
      have hb := hb.trans ((bisF_step hl).trans (if_pos (by rw [ht]; rfl)))
      exact ⟨_, mid_up1 rfl (mid_ge hl) (mid_lt hl), .mk ((lo + hi).fdiv 2 + 1) hi _ th _ _ _ (by assumption) (by assumption) (by k_extra "my_m_look") (by k_extra "my_m_look") (by k_extra "my_m_look") (by k_extra "my_m_look") (by k_extra "my_m_look") (mid_nn1 h0 hl) (mid_up hl) h2 hb⟩
    · have hl : ¬ lo < hi := by assumption
      have hb := hb.trans (bisF_end hl)
      rw [hb] at hret
      exact hret _ _ _ (by assumption) (by assumption)
theorem bisR0_ctr {w : World} {p : Program} {loose : List PySem.Str} {mean : ExcName → Option Value} {mg mb : Str → Option Value} {dp un : Nat} {gd : Option (List Code)} {cn : Str} {cs : Scope} {L a : Addr} {ccd : Value} {cl : List (Str × Addr)} {outer : List Env} {A₀ : Around} {base h₀ : Heap} {m : Str → Option Value}
    {news : List (Addr × Obj)} {s : Shared} {Q E : Value → Shared → Prop} {t1 : Tok} {ra kq : Addr} {its : Array Value} {kk : Nat} {need : List (Addr × Obj) → Prop} {f : Nat → UInt64} {oc : Value} {od : Option Addr} {fd : FuncData} {sl : Array (Option Value)} : Site w p loose mean mg mb dp un cn cs L a ccd cl outer A₀ base h₀ m news s →
    (ra, ({ cls := .type "list", data := .seq its kk } : Obj)) ∈ news → its.size < 1000 →  (kq, (⟨oc, od, .func fd, sl⟩ : Obj)) ∈ news → need news → dp + 40 < recursionLimit → un + 140 < cLine →
    (∀ i v, its[i]? = some v → KeyCtr w p loose mean mg mb kq need v (f i)) →
    (∀ t h' tk', Fr h₀ L h' m → News h₀ L h' news → Q (.int (bisF (fun k => !gt0F (f k.toNat)) ((its.size : Int) - 0).toNat 0 its.size) t) { s with heap := h', toks := tk' }) →
  (kF w.params).In h₀ → wpAny (model rwl.prog w) (ktrTop dp un gd cn cs L a ccd cl outer) (call (.ref 40) [.ref ra, .int 0 t1] [(Str.ofString "key", .ref kq)]) Q E s := by
  k_fill
  intro S hra hsz hfn hneed hdp hun hkey hret X
  obtain ⟨B, F, _, N, T, hk, _, _⟩ := S
  refine wpAny_call ?_
  k_dflt (((refine' code_def ?k1 ?k2 ?k3 ?k4 ?k5 ?kA ?kF ?kK ?k6 ?k7 ?k8 ?k9 ?kB ?_ ?c2 ?c3 ?c4 ?c5; (case kA => exact rfl); (case kF => exact rfl); (case kK => assumption); (case k1 => k_asm); (case k2 => k_asm); (case k3 => k_asm); (case k4 => k_asm); (case k5 => k_asm); (case k6 => k_is); (case k7 => k_is); (case k8 => ktr_room); (case k9 => (refine' kp_binds ?kx ?ke; (case kx => k_in); (case ke => exact fun _ => rfl))); (case c5 => decide); (case kB => exact locs rfl); (case c2 => exact rfl); (case c3 => exact rfl); (case c4 => exact rfl); k_whole; intro gB LB h' FG' F' N' B' X' T'; (try dsimp only); (try k_lift B'); (try k_fold))))
  k_steps
  refine loop_ind (BisJ gB LB s news ra kq its.size (.int 0 t1) (bisF (fun k => !gt0F (f k.toNat)) ((its.size : Int) - 0).toNat 0 its.size) (fun k => !gt0F (f k.toNat))) ?hE ?turn (its.size - 0 : Int).toNat ?h0
  case hE => first | passes_own | with_unfolding_all passes_own
  case h0 => exact .mk 0 its.size _ _ _ _ _ (by assumption) (by assumption) (by k_extra "my_m_look") (by k_extra "my_m_look") (by k_extra "my_m_look") (by k_extra "my_m_look") (by k_extra "my_m_look") (Int.le_refl _) (nn_of) (Int.le_refl _) rfl
  case turn =>
    rintro _ _ ⟨lo, hi, tl, th, h, tk, mm, FF, NN, ma, mx, mlo, mhi, mkey, h0, h1, h2, hb⟩
    k_steps
    · have ht : (gt0F (f ((lo + hi).fdiv 2).toNat)) = true := by assumption
      have hl : lo < hi := by assumption
      have hb := hb.trans ((bisF_step hl).trans (if_neg (by rw [ht]; exact Bool.false_ne_true)))
      exact ⟨_, mid_dn rfl (mid_ge hl) (mid_lt hl), .mk lo ((lo + hi).fdiv 2) tl _ _ _ _ (by assumption) (by assumption) (by k_extra "my_m_look") (by k_extra "my_m_look") (by k_extra "my_m_look") (by k_extra "my_m_look") (by k_extra "my_m_look") h0 (mid_ge hl) (mid_le h2 hl) hb⟩
    · have ht : (gt0F (f ((lo + hi).fdiv 2).toNat)) = false := by assumption
      have hl : lo < hi := by assumption
      have hb := hb.trans ((bisF_step hl).trans (if_pos (by rw [ht]; rfl)))
      exact ⟨_, mid_up1 rfl (mid_ge hl) (mid_lt hl), .mk ((lo + hi).fdiv 2 + 1) hi _ th _ _ _ (by assumption) (by assumption) (by k_extra "my_m_look") (by k_extra "my_m_look") (by k_extra "my_m_look") (by k_extra "my_m_look") (by k_extra "my_m_look") (mid_nn1 h0 hl) (mid_up hl) h2 hb⟩
    · have hl : ¬ lo < hi := by assumption
      have hb := hb.trans (bisF_end hl)
      rw [hb] at hret
      exact hret _ _ _ (by assumption) (by assumption)
end Mine

end PartB3

section FlushB4
open PySem PySem.W PyProof.Rows PySem.Calls
namespace Mine
theorem start_B4 {prog : Program} {w : World} {A : Around} {E : Value → Shared → Prop} {s : Shared} {env : Env} {Q : Flow → Shared → Prop} (h : wpAny (model prog w) A (execs [] env) Q E s) : wpAny (model prog w) A (execs [] env) Q E s := by
  w_top off
  first | (walk1; fail) | exact h
end Mine
end FlushB4
section PartB4
open PySem PySem.W PyProof.Rows PySem.Calls
namespace Mine
theorem kw_B4_1 : True := by
  k_with_none
  k_with "my_room" => ((try simp only [depth_under_make, depth_under_kw, depth_in1, depth_deeper, depth_caller]); (try dsimp only [ktrTop]); first | exact Mine.rm0 (by assumption) | exact Mine.rm1 (by assumption) (by exact rfl) | exact Mine.rm2 (by assumption) (by exact rfl) | exact Mine.rm2 (b := 40) (by assumption) (by exact rfl) | exact Mine.rm1 (b := 40) (by assumption) (by exact rfl) | exact Mine.rm2 (b := 50) (by assumption) (by exact rfl) | exact Mine.rm1 (b := 50) (by assumption) (by exact rfl) | fail "room")
  k_with "my_units" => ((try simp only [units_in1, units_deeper, Around.mark_units, units_caller]); (try dsimp only [ktrTop]); first | exact Mine.rm0 (by assumption) | exact Mine.rm1 (by assumption) (by exact rfl) | exact Mine.rm2 (by assumption) (by exact rfl) | exact Mine.rm2 (b := 140) (by assumption) (by exact rfl) | exact Mine.rm1 (b := 140) (by assumption) (by exact rfl) | exact Mine.rm2 (b := 180) (by assumption) (by exact rfl) | exact Mine.rm1 (b := 180) (by assumption) (by exact rfl) | fail "room")
  k_with "my_m_look" => first | exact rfl | assumption | ((try dsimp only); repeat' (first | assumption | (refine (if_neg (by decide)).trans ?_) | (exact if_pos (by decide))))
  k_with "exec While Compare" => (k_here; k_dflt (refine loop_start ?_))
  k_with "eval Name" => (k_here; k_dflt (refine' ld ?k1 ?k2 ?_; (case k1 => k_asm); (case k2 => k_extra "my_m_look"); k_whole))
  k_with "call builtin:len" => (k_here; k_dflt (refine' len_led ?a ?b ?c ?_; (case a => k_asm); (case b => assumption); (case c => assumption); k_whole))
  k_with "subscriptTail" => (k_here; (with_reducible show wpAny _ _ (subscriptTail _ _ (Value.ref _) (Value.int _ _)) _ _ _); k_dflt (refine' item_led ?a ?b ?c ?d ?e ?_; (case a => k_asm); (case b => assumption); (case c => assumption); (case d => exact mid_nn (by assumption) (by assumption)); (case e => exact mid_sz (by assumption) (by assumption)); k_whole); intro _ _)
  k_with "BoolIf" => (refine ⟨fun hb' => ?_, fun hb' => ?_⟩ <;> (try simp only [decide_eq_true_eq, decide_eq_false_iff_not] at hb'))
  k_with "TurnEnd" => dsimp only [TurnEnd]
  k_with "FnAt" => (k_dflt (exact FnAt.of (by k_asm) (by assumption)))
  k_with "callWith ref" => (k_here; k_dflt (refine' callWith_F ?k1 ?_; (case k1 => exact FnAt.of (by k_asm) (by assumption)); k_whole))
  k_with "call ref" => (k_here; k_dflt (refine' key_use ?hk ?hv ?B ?F ?X ?N ?T ?k ?need ?d ?u ?_; (case hk => assumption); (case hv => assumption); (case B => k_asm); (case F => k_asm); (case X => k_asm); (case N => k_asm); (case T => k_asm); (case k => rfl); (case need => assumption); (case d => ktr_room); (case u => ktr_units); k_whole); intro _ _ _ _ _)
  exact True.intro
theorem key_one {w : World} {p : Program} {loose : List PySem.Str} {mean : ExcName → Option Value} {mg mb : Str → Option Value} {kq : Addr} {need : List (Addr × Obj) → Prop} {r : UInt64} {v : Value}
    (hkey : KeyCtr w p loose mean mg mb kq need v r)
    {dp un : Nat} {gd : Option (List Code)} {cn : Str} {cs : Scope} {L a : Addr} {ccd : Value} {cl : List (Str × Addr)} {outer : List Env} {A₀ : Around} {base h₀ : Heap} {m : Str → Option Value} {news : List (Addr × Obj)} {s : Shared} {Q E : Value → Shared → Prop}
    (B : Below A₀ base outer h₀) (F : Fr h₀ L s.heap m) (X : (kF w.params).In h₀) (N : News h₀ L s.heap news) (T : Top p loose mean mg mb h₀) (hk : cs.kind = .function) (hn : need news) (hd : dp + 30 < recursionLimit) (hu : un + 100 < cLine)
    (ret : ∀ t h' tk', Fr h₀ L h' m → News h₀ L h' news → Q (.float r t) { s with heap := h', toks := tk' }) :
    wpAny (model rwl.prog w) (ktrTop dp un gd cn cs L a ccd cl outer) (call (.ref kq) [v]) Q E s :=
  hkey dp un gd cn cs L a ccd cl outer A₀ base h₀ m news s Q E B F X N T hk hn hd hu ret
theorem updF_upd {d : Addr} {o : Obj} : ∀ {l : List (Addr × Obj)} {G : Obj → List (Addr × Obj)}, UpdF d o l G → ∀ o', Upd d o o' l (G o')
  | _, _, .head h, _ => .head h
  | _, _, .tail h r, o' => .tail h (updF_upd r o')
theorem bisL4_ctr {w : World} {p : Program} {loose : List PySem.Str} {mean : ExcName → Option Value} {mg mb : Str → Option Value} {dp un : Nat} {gd : Option (List Code)} {cn : Str} {cs : Scope} {L a : Addr} {ccd : Value} {cl : List (Str × Addr)} {outer : List Env} {A₀ : Around} {base h₀ : Heap} {m : Str → Option Value}
    {news : List (Addr × Obj)} {s : Shared} {Q E : Value → Shared → Prop} {x : UInt64} {t1 t2 : Tok} {ra kq : Addr} {its : Array Value} {kk : Nat} {need : List (Addr × Obj) → Prop} {f : Nat → UInt64} {oc : Value} {od : Option Addr} {fd : FuncData} {sl : Array (Option Value)} : Site w p loose mean mg mb dp un cn cs L a ccd cl outer A₀ base h₀ m news s →
    (ra, ({ cls := .type "list", data := .seq its kk } : Obj)) ∈ news → its.size < 1000 → (kq, (⟨oc, od, .func fd, sl⟩ : Obj)) ∈ news → need news → dp + 40 < recursionLimit → un + 140 < cLine →
    (∀ i v, its[i]? = some v → KeyCtr w p loose mean mg mb kq need v (f i)) →
    (∀ t h' tk', Fr h₀ L h' m → News h₀ L h' news → Q (.int (bisF (fun k => ltF' (f k.toNat) x) (its.size : Int).toNat 0 its.size) t) { s with heap := h', toks := tk' }) →
  (kF w.params).In h₀ → wpAny (model rwl.prog w) (ktrTop dp un gd cn cs L a ccd cl outer) (call (.ref 58) [.ref ra, .float x t1, .int 0 t2, .none] [(Str.ofString "key", .ref kq)]) Q E s := by
  k_fill
  intro S hra hsz hfn hneed hdp hun hkey hret X
  obtain ⟨B, F, _, N, T, hk, _, _⟩ := S
  refine wpAny_call ?_
  k_dflt (((refine' code_def ?k1 ?k2 ?k3 ?k4 ?k5 ?kA ?kF ?kK ?k6 ?k7 ?k8 ?k9 ?kB ?_ ?c2 ?c3 ?c4 ?c5; (case kA => exact rfl); (case kF => exact rfl); (case kK => assumption); (case k1 => k_asm); (case k2 => k_asm); (case k3 => k_asm); (case k4 => k_asm); (case k5 => k_asm); (case k6 => k_is); (case k7 => k_is); (case k8 => ktr_room); (case k9 => (refine' kp_binds ?kx ?ke; (case kx => k_in); (case ke => exact fun _ => rfl))); (case c5 => decide); (case kB => exact locs rfl); (case c2 => exact rfl); (case c3 => exact rfl); (case c4 => exact rfl); k_whole; intro gB LB h' FG' F' N' B' X' T'; (try dsimp only); (try k_lift B'); (try k_fold))))
  k_steps
  refine loop_ind (BisJ gB LB s news ra kq its.size (.float x t1) (bisF (fun k => ltF' (f k.toNat) x) (its.size : Int).toNat 0 its.size) (fun k => ltF' (f k.toNat) x)) ?hE ?turn (its.size - 0 : Int).toNat ?h0
  case hE => first | passes_own | with_unfolding_all passes_own
  case h0 => exact .mk 0 its.size _ _ _ _ _ (by assumption) (by assumption) (by k_extra "my_m_look") (by k_extra "my_m_look") (by k_extra "my_m_look") (by k_extra "my_m_look") (by k_extra "my_m_look") (Int.le_refl _) (nn_of) (Int.le_refl _) (congrArg (fun z => bisF _ z 0 its.size) sz0)
  case turn =>
    rintro _ _ ⟨lo, hi, tl, th, h, tk, mm, FF, NN, ma, mx, mlo, mhi, mkey, h0, h1, h2, hb⟩
    k_steps
    · have ht : ltF' (f ((lo + hi).fdiv 2).toNat) x = true := by assumption
      have hl : lo < hi := by assumption
      have hb := hb.trans ((bisF_step hl).trans (if_pos ht))
      exact ⟨_, mid_up1 rfl (mid_ge hl) (mid_lt hl), .mk ((lo + hi).fdiv 2 + 1) hi _ th _ _ _ (by assumption) (by assumption) (by k_extra "my_m_look") (by k_extra "my_m_look") (by k_extra "my_m_look") (by k_extra "my_m_look") (by k_extra "my_m_look") (mid_nn1 h0 hl) (mid_up hl) h2 hb⟩
    · have ht : ltF' (f ((lo + hi).fdiv 2).toNat) x = false := by assumption
      have hl : lo < hi := by assumption
      have hb := hb.trans ((bisF_step hl).trans (if_neg (by rw [ht]; exact Bool.false_ne_true)))
      exact ⟨_, mid_dn rfl (mid_ge hl) (mid_lt hl), .mk lo ((lo + hi).fdiv 2) tl _ _ _ _ (by assumption) (by assumption) (by k_extra "my_m_look") (by k_extra "my_m_look") (by k_extra "my_m_look") (by k_extra "my_m_look") (by k_extra "my_m_look") h0 (mid_ge hl) (mid_le h2 hl) hb⟩
    · have hl : ¬ lo < hi := by assumption
      have hb := hb.trans (bisF_end hl)
      rw [hb] at hret
      exact hret _ _ _ (by assumption) (by assumption)
theorem kw_B4_2 : True := by
  k_with "call ref" => (k_here; k_dflt (refine' key_one ?hk ?B ?F ?X ?N ?T ?k ?need ?d ?u ?_; (case hk => assumption); (case B => k_asm); (case F => k_asm); (case X => k_asm); (case N => k_asm); (case T => k_asm); (case k => rfl); (case need => assumption); (case d => ktr_room); (case u => ktr_units); k_whole); intro _ _ _ _ _)
  k_with "getMethod ref" => (k_here; k_dflt (refine' kl_method ?N ?m PySem.F.slot_list_insert PySem.F.type_list_insert ?_; (case N => k_asm); (case m => assumption)))
  exact True.intro
theorem bisF_range {P : Int → Bool} : ∀ (n : Nat) (lo hi : Int), lo ≤ hi → lo ≤ bisF P n lo hi ∧ bisF P n lo hi ≤ hi
  | 0, lo, hi, h => ⟨Int.le_refl _, h⟩
  | n + 1, lo, hi, h => by
    show lo ≤ (if lo < hi then _ else lo) ∧ (if lo < hi then _ else lo) ≤ hi
    by_cases c : lo < hi
    · rw [if_pos c, Int.fdiv_eq_ediv_of_nonneg _ (by decide : (0:Int) ≤ 2)]
      by_cases q : P ((lo + hi) / 2) = true
      · rw [if_pos q]
        have := bisF_range (P := P) n ((lo + hi) / 2 + 1) hi (by omega)
        omega
      · rw [if_neg q]
        have := bisF_range (P := P) n lo ((lo + hi) / 2) (by omega)
        omega
    · rw [if_neg c]
      exact ⟨Int.le_refl _, h⟩
theorem fits_small {k : Int} (h0 : 0 ≤ k) (h1 : k < 1000) : Builtin.List.listFitsIndex k = true := by
  unfold Builtin.List.listFitsIndex
  simp
  omega
theorem insort_ctr {w : World} {p : Program} {loose : List PySem.Str} {mean : ExcName → Option Value} {mg mb : Str → Option Value} {dp un : Nat} {gd : Option (List Code)} {cn : Str} {cs : Scope} {L a : Addr} {ccd : Value} {cl : List (Str × Addr)} {outer : List Env} {A₀ : Around} {base h₀ : Heap} {m : Str → Option Value}
    {news : List (Addr × Obj)} {s : Shared} {Q E : Value → Shared → Prop} {fx : UInt64} {xa : Addr} {G : Obj → List (Addr × Obj)} {ra kq : Addr} {its : Array Value} {kk : Nat} {need : List (Addr × Obj) → Prop} {f : Nat → UInt64} {oc : Value} {od : Option Addr} {fd : FuncData} {sl : Array (Option Value)} : Site w p loose mean mg mb dp un cn cs L a ccd cl outer A₀ base h₀ m news s →
    UpdF ra (listOf its kk) news G → (ra, ({ cls := .type "list", data := .seq its kk } : Obj)) ∈ news → its.size < 1000 → (kq, (⟨oc, od, .func fd, sl⟩ : Obj)) ∈ news → need news → dp + 50 < recursionLimit → un + 180 < cLine →
    (∀ i v, its[i]? = some v → KeyCtr w p loose mean mg mb kq need v (f i)) → KeyCtr w p loose mean mg mb kq need (.ref xa) fx →
    (∀ h' tk', Fr h₀ L h' m → News h₀ L h' (G (listOf (kl_ins its.toList (bisF (fun k => ltF' (f k.toNat) fx) (its.size : Int).toNat 0 its.size) (.ref xa)).toArray (kk + 1))) → Q .none { s with heap := h', toks := tk' }) →
  (kF w.params).In h₀ → wpAny (model rwl.prog w) (ktrTop dp un gd cn cs L a ccd cl outer) (call (.ref 49) [.ref ra, .ref xa] [(Str.ofString "key", .ref kq)]) Q E s := by
  k_fill
  intro S hU hra hsz hfn hneed hdp hun hkey hkx hret X
  obtain ⟨B, F, _, N, T, hk, _, _⟩ := S
  refine wpAny_call ?_
  k_dflt (((refine' code_def ?k1 ?k2 ?k3 ?k4 ?k5 ?kA ?kF ?kK ?k6 ?k7 ?k8 ?k9 ?kB ?_ ?c2 ?c3 ?c4 ?c5; (case kA => exact rfl); (case kF => exact rfl); (case kK => assumption); (case k1 => k_asm); (case k2 => k_asm); (case k3 => k_asm); (case k4 => k_asm); (case k5 => k_asm); (case k6 => k_is); (case k7 => k_is); (case k8 => ktr_room); (case k9 => (refine' kp_binds ?kx ?ke; (case kx => k_in); (case ke => exact fun _ => rfl))); (case c5 => decide); (case kB => exact locs rfl); (case c2 => exact rfl); (case c3 => exact rfl); (case c4 => exact rfl); k_whole; intro gB LB h' FG' F' N' B' X' T'; (try dsimp only); (try k_lift B'); (try k_fold))))
  k_steps
  k_dflt (refine' bisL4_ctr (need := need) (f := f) ?S ?ra ?sz ?fn ?nd ?dp ?un ?key ?ret ?X)
  case S => exact Site.mk (by k_asm) (by k_asm) (by k_asm) (by k_asm) (by k_asm) rfl (by ktr_room) (by ktr_units)
  case ra => assumption
  case sz => assumption
  case fn => assumption
  case nd => assumption
  case dp => ktr_room
  case un => ktr_units
  case key => assumption
  case X => k_asm
  case ret =>
    intro t h' tk' F' N'
    k_steps
    have hr := bisF_range (P := fun k => ltF' (f k.toNat) fx) (its.size : Int).toNat 0 its.size (by omega)
    k_dflt (refine' kl_insert ?F ?N ?f rfl (updF_upd hU _) ?z ?_)
    case F => k_asm
    case N => k_asm
    case f => exact fits_small hr.1 (by omega)
    case z => rw [Array.length_toList]; exact Nat.le_trans (Nat.le_of_lt hsz) (by decide)
    k_whole
    intro h' F' N'
    k_steps
    exact hret _ _ (by assumption) (by assumption)
end Mine

end PartB4

section FlushK1
open PySem PySem.W PyProof.Rows PySem.Calls
namespace Mine
theorem start_K1 {prog : Program} {w : World} {A : Around} {E : Value → Shared → Prop} {s : Shared} {env : Env} {Q : Flow → Shared → Prop} (h : wpAny (model prog w) A (execs [] env) Q E s) : wpAny (model prog w) A (execs [] env) Q E s := by
  w_top off
  first | (walk1; fail) | exact h
end Mine
end FlushK1
section PartK1
open PySem PySem.W PyProof.Rows PySem.Calls
namespace Mine
noncomputable def CompY (Y : Value → Prop) (news : List (Addr × Obj)) (y : Value) (news' : List (Addr × Obj)) : Prop := news' = news ∧ Y y
theorem snoc_all {Y : Nat → Value → Prop} {ys : List Value} {y : Value} {i : Nat} (hl : ys.length = i) (hY : ∀ i v, ys[i]? = some v → Y i v) (hy : Y i y) : ∀ k v, (ys ++ [y])[k]? = some v → Y k v := by
  intro k z hz
  by_cases hk : k < ys.length
  · rw [List.getElem?_append_left hk] at hz
    exact hY k z hz
  · have hk := Nat.le_of_not_lt hk
    rw [List.getElem?_append_right hk] at hz
    cases hh : k - ys.length with
    | zero =>
      rw [hh] at hz
      rw [Nat.le_antisymm (Nat.sub_eq_zero_iff_le.mp hh) hk, hl, ← Option.some.inj hz]
      exact hy
    | succ q => rw [hh] at hz; cases hz
section
variable {prog : Program} {w : World} {A : Around} {h₀ : Heap} {L : Addr} {m : Str → Option Value} {env : Env} {elt : PySem.Expr} {x : Str} {scope : Scope} {cl : List (Str × Addr)} {s : Shared} {S : List (Addr × Obj) → Prop} {P : Nat → Value → Prop} {Fin : List Value → List (Addr × Obj) → Prop} {news : List (Addr × Obj)}
theorem comp_const {n : Nat} (Y : Nat → Value → Prop)
    (turn : ∀ i v I oI C oC D m₂ ys h tk (E' : Value → Shared → Prop), i < n → P i v → LCg.NsObj oC m₂ → m₂ x = some v → Fr h₀ L h m → News h₀ L h ((I, oI) :: (C, oC) :: (D, LCg.lst ys) :: news) → LCg.Off3 I C D news → ((@Ne Nat I C) ∧ (@Ne Nat I D) ∧ (@Ne Nat C D)) →
      wpAny (model prog w) A (eval elt (compEnvC scope cl C env)) (LCg.CompEnd h₀ L m { s with heap := h, toks := tk } I oI C oC D (LCg.lst ys) S (CompY (Y i) news)) E' { s with heap := h, toks := tk })
    (fin : ∀ ys, ys.length = n → (∀ i y, ys[i]? = some y → Y i y) → Fin ys news) : LCg.CompRest prog w A h₀ L m env elt x scope cl s S P Fin n 0 [] news := by
  have key : ∀ (j i : Nat) (ys : List Value), i + j = n → ys.length = i → (∀ i y, ys[i]? = some y → Y i y) → LCg.CompRest prog w A h₀ L m env elt x scope cl s S P Fin j i ys news := by
    intro j
    induction j with
    | zero =>
      intro i ys hi hl hy
      exact LCg.CompRest.zero (fin ys (hl.trans hi) hy)
    | succ j ih =>
      intro i ys hi hl hy
      refine LCg.CompRest.succ ?_
      intro v I oI C oC D m₂ h tk E' hv hC hx F N off ne
      refine wpAny_mono (turn i v I oI C oC D m₂ ys h tk E' (hi ▸ Nat.lt_add_of_pos_right (Nat.succ_pos j)) hv hC hx F N off ne) (fun y s₂ hq => ?_) fun _ _ e => e
      obtain ⟨h', tk', nw, e, F', N', off', hS, hn, hy'⟩ := hq
      subst hn
      refine ⟨h', tk', nw, e, F', N', off', hS, ?_⟩
      refine ih (i + 1) _ ((Nat.succ_add_eq_add_succ i j).trans hi) (by rw [List.length_append, hl]; rfl) ?_
      exact snoc_all hl hy hy'
  exact key n 0 [] (Nat.zero_add n) rfl (fun i y h => by cases h)
theorem comp_end {Y : Value → Prop} {I C D : Addr} {oI oC oD : Obj} {y : Value} {h' : Heap} {tk : Nat} (F : Fr h₀ L h' m) (N : News h₀ L h' ((I, oI) :: (C, oC) :: (D, oD) :: news)) (off : LCg.Off3 I C D news) (hS : S news) (hy : Y y) :
    LCg.CompEnd h₀ L m s I oI C oC D oD S (CompY Y news) y { s with heap := h', toks := tk } := ⟨h', tk, news, rfl, F, N, off, hS, rfl, hy⟩
end
end Mine

end PartK1

section FlushX1
open PySem PySem.W PyProof.Rows PySem.Calls
namespace Mine
theorem start_X1 {prog : Program} {w : World} {A : Around} {E : Value → Shared → Prop} {s : Shared} {env : Env} {Q : Flow → Shared → Prop} (h : wpAny (model prog w) A (execs [] env) Q E s) : wpAny (model prog w) A (execs [] env) Q E s := by
  w_top off
  first | (walk1; fail) | exact h
end Mine
end FlushX1
section PartX1
open PySem PySem.Sre
namespace Mine
noncomputable def it : Nat → M → M
  | 0, m => m
  | n + 1, m => it n m.step
theorem step_done {m : M} (h : m.outcome.isSome = true) : m.step = m := by
  unfold M.step
  rw [if_pos h]
theorem it_done {m : M} (h : m.outcome.isSome = true) : ∀ n, it n m = m
  | 0 => rfl
  | n + 1 => by show it n m.step = m; rw [step_done h]; exact it_done h n
theorem runFor_it : ∀ (n : Nat) (m : M), M.runFor n m = it n m
  | 0, _ => rfl
  | n + 1, m => by
    show (if m.outcome.isSome then m else M.runFor n m.step) = it n m.step
    by_cases h : m.outcome.isSome = true
    · rw [if_pos h, step_done h, it_done h]
    · rw [if_neg h, runFor_it n]
theorem it_add : ∀ (a b : Nat) (m : M), it (a + b) m = it b (it a m)
  | 0, b, m => by rw [Nat.zero_add]; rfl
  | a + 1, b, m => by rw [Nat.add_right_comm]; show it (a + b) m.step = it b (it a m.step); exact it_add a b _
noncomputable def code1 : Array Nat := #[14, 4, 0, 1, 1, 6, 1, 16, 46, 1]
noncomputable def code2 : Array Nat := #[14, 9, 4, 1, 2, 16, 10, 16, 13, 0, 7, 7, 16, 13, 16, 10, 15, 18, 5, 16, 10, 15, 13, 11, 16, 13, 5, 5, 0, 16, 10, 1, 15, 2, 0, 1]
noncomputable def atK (m : M) (r : Except String Bool) : M :=
  match r with
  | .error why => m.stick why
  | .ok yes => if yes then { m with seen := m.seen.add (43 + m.word 1), pc := m.pc + 2 } else { m with seen := m.seen.add (43 + m.word 1) }.say false
noncomputable def Goes (m m' : M) : Prop := ∃ n, it n m = m'
theorem Goes.refl (m : M) : Goes m m := ⟨0, rfl⟩
theorem Goes.trans {a b c : M} (h : Goes a b) (k : Goes b c) : Goes a c := by
  obtain ⟨n, rfl⟩ := h
  obtain ⟨k, rfl⟩ := k
  exact ⟨n + k, it_add n k a⟩
theorem Goes.one {a b c : M} (h : a.step = b) (k : Goes b c) : Goes a c := by
  obtain ⟨n, rfl⟩ := k
  exact ⟨n + 1, by show it n a.step = _; rw [h]⟩
theorem Goes.by {a b c : M} (n : Nat) (h : it n a = b) (k : Goes b c) : Goes a c := Goes.trans ⟨n, h⟩ k
noncomputable def accK (m : M) (r : Except String (Bool × Seen)) : M :=
  match r with
  | .error why => m.stick why
  | .ok (false, seen) => { m with seen }.say false
  | .ok (true, seen) => { m with seen, pc := m.pc + itemWidth m.code m.pc, pos := m.pos + 1 }
theorem lit_step {m : M} (h0 : m.outcome = none) (h1 : m.answer = none) (h2 : m.pc < m.code.size) (h3 : ops[m.code.getD m.pc 0]? = some .LITERAL) :
    m.step = if m.pos ≥ m.lim then { m with seen := m.seen.add (m.word 0) }.say false else accK { m with seen := m.seen.add (m.word 0) } (accepts m.code m.pc (m.text.getD m.pos 0) (m.seen.add (m.word 0))) := by
  obtain ⟨code, text, lim, start, lastStart, wholeText, mustAdvance, pc, pos, handed, outermost, marks, lastmark, lastindex, loops, inner, frames, weight, answer, seen, outcome⟩ := m
  dsimp only at h0 h1 h2 h3
  subst h0
  subst h1
  refine (if_pos h2).trans ?_
  unfold M.exec
  have h4 : ops[code.getD (pc + 0) 0]? = some .LITERAL := h3
  dsimp only [M.word]
  rw [h4]
  rfl
theorem lit_acc {m : M} (h3 : ops[m.code.getD m.pc 0]? = some .LITERAL) (c : Nat) (seen : Seen) : accepts m.code m.pc c seen = .ok (c == m.word 1, seen) := by
  unfold accepts
  rw [h3]
  rfl
theorem lit_yes {m : M} (h0 : m.outcome = none) (h1 : m.answer = none) (h2 : m.pc < m.code.size) (h3 : ops[m.code.getD m.pc 0]? = some .LITERAL) (h4 : m.pos < m.lim) (h5 : m.text.getD m.pos 0 = m.word 1) :
    m.step = { m with seen := m.seen.add (m.word 0), pc := m.pc + 2, pos := m.pos + 1 } := by
  rw [lit_step h0 h1 h2 h3, if_neg (Nat.not_le.mpr h4), lit_acc h3, beq_iff_eq.mpr h5]
  show { m with seen := m.seen.add (m.word 0), pc := m.pc + itemWidth m.code m.pc, pos := m.pos + 1 } = _
  unfold itemWidth
  rw [h3]
theorem lit_no {m : M} (h0 : m.outcome = none) (h1 : m.answer = none) (h2 : m.pc < m.code.size) (h3 : ops[m.code.getD m.pc 0]? = some .LITERAL) (h4 : m.pos < m.lim → m.text.getD m.pos 0 ≠ m.word 1) :
    m.step = { m with seen := m.seen.add (m.word 0) }.say false := by
  rw [lit_step h0 h1 h2 h3]
  by_cases h : m.pos ≥ m.lim
  · rw [if_pos h]
  · rw [if_neg h, lit_acc h3, beq_eq_false_iff_ne.mpr (h4 (Nat.not_le.mp h))]
    rfl
noncomputable def Res (m : M) : Option (Nat × Nat) → Prop
  | some (a, b) => m.outcome = some .matched ∧ m.start = a ∧ m.handed = b
  | none => m.outcome = some .failed
noncomputable def Ends (k : Nat) (m : M) (r : Option (Nat × Nat)) : Prop := ∃ n m', n ≤ k ∧ it n m = m' ∧ Res m' r
theorem Ends.one {k : Nat} {a b : M} {r : Option (Nat × Nat)} (h : a.step = b) : Ends k b r → Ends (k + 1) a r := fun ⟨n, m', hn, e, x⟩ => ⟨n + 1, m', by omega, by show it n a.step = m'; rw [h]; exact e, x⟩
theorem Ends.done {k : Nat} {a : M} {r : Option (Nat × Nat)} (h : Res a r) : Ends k a r := ⟨0, a, by omega, rfl, h⟩
theorem Ends.mono {j k : Nat} {a : M} {r : Option (Nat × Nat)} (h : j ≤ k) : Ends j a r → Ends k a r := fun ⟨n, m', hn, e, x⟩ => ⟨n, m', by omega, e, x⟩
noncomputable def next1 (text : Array Nat) (lim : Nat) : Nat → Nat → Option (Nat × Nat)
  | 0, _ => none
  | n + 1, p => if p < lim then (if (p == 0 || text.getD (p - 1) 0 == 10) = true ∧ text.getD p 0 = 46 then some (p, p + 1) else next1 text lim n (p + 1)) else none
section
variable {text : Array Nat} {lim : Nat}
noncomputable def q1 (text : Array Nat) (lim p : Nat) (must first : Bool) (pc pos handed : Nat) (answer : Option Bool) (seen : Seen) : M :=
  { code := code1, text, lim, start := p, lastStart := lim, mustAdvance := must, pc, pos, handed, outermost := first, marks := Array.replicate (2 * 0) none, lastmark := -1, lastindex := -1,
    frames := [{ wait := .nextStart, pc := 5, pos := p, outermost := first }], weight := 1, answer, seen }
theorem q1_at_no {p : Nat} {must first : Bool} {hd : Nat} {seen : Seen} (h : (p == 0 || text.getD (p - 1) 0 == 10) = false) :
    (q1 text lim p must first 5 p hd none seen).step = q1 text lim p must first 5 p hd (some false) ((seen.add 6).add 44) := by
  have e : M.isAt (q1 text lim p must first 5 p hd none (seen.add 6)) 1 = .ok false := congrArg Except.ok h
  show atK (q1 text lim p must first 5 p hd none (seen.add 6)) (M.isAt (q1 text lim p must first 5 p hd none (seen.add 6)) 1) = _
  rw [e]
  rfl
theorem q1_at_yes {p : Nat} {must first : Bool} {hd : Nat} {seen : Seen} (h : (p == 0 || text.getD (p - 1) 0 == 10) = true) :
    (q1 text lim p must first 5 p hd none seen).step = q1 text lim p must first 7 p hd none ((seen.add 6).add 44) := by
  have e : M.isAt (q1 text lim p must first 5 p hd none (seen.add 6)) 1 = .ok true := congrArg Except.ok h
  show atK (q1 text lim p must first 5 p hd none (seen.add 6)) (M.isAt (q1 text lim p must first 5 p hd none (seen.add 6)) 1) = _
  rw [e]
  rfl
theorem q1_lit_yes {p : Nat} {must first : Bool} {hd : Nat} {seen : Seen} (hp : p < lim) (h : text.getD p 0 = 46) :
    (q1 text lim p must first 7 p hd none seen).step = q1 text lim p must first 9 (p + 1) hd none (seen.add 16) :=
  (lit_yes (m := q1 text lim p must first 7 p hd none seen) rfl rfl (show 7 < 10 by decide) rfl hp h).trans rfl
theorem q1_lit_no {p : Nat} {must first : Bool} {hd : Nat} {seen : Seen} (h : p < lim → text.getD p 0 ≠ 46) :
    (q1 text lim p must first 7 p hd none seen).step = q1 text lim p must first 7 p hd (some false) (seen.add 16) :=
  (lit_no (m := q1 text lim p must first 7 p hd none seen) rfl rfl (show 7 < 10 by decide) rfl h).trans rfl
theorem q1_next {p pc pos : Nat} {must first : Bool} {hd : Nat} {seen : Seen} (hp : p < lim) :
    (q1 text lim p must first pc pos hd (some false) seen).step = q1 text lim (p + 1) false false 5 (p + 1) (p + 1) none seen := by
  show (if p < lim then q1 text lim (p + 1) false false 5 (p + 1) (p + 1) none seen else _) = _
  rw [if_pos hp]
theorem q1_end {p pc pos k : Nat} {must first : Bool} {hd : Nat} {seen : Seen} (hp : ¬ p < lim) : Ends (k + 2) (q1 text lim p must first pc pos hd (some false) seen) none := by
  refine Ends.one (show _ = ({ q1 text lim p must first 5 p hd (some false) seen with frames := [], weight := 0 } : M) from ?_) (Ends.one rfl (Ends.done rfl))
  show (if p < lim then _ else ({ q1 text lim p must first 5 p hd (some false) seen with frames := [], weight := 0 } : M)) = _
  rw [if_neg hp]
theorem q1_suc {p : Nat} {must first : Bool} {hd : Nat} {seen : Seen} :
    (q1 text lim p must first 9 (p + 1) hd none seen).step = q1 text lim p must first 9 (p + 1) (p + 1) (some true) (seen.add 1) := by
  show (if (first && ((false && (p + 1) != lim) || (must && (p + 1) == p))) = true then _ else q1 text lim p must first 9 (p + 1) (p + 1) (some true) (seen.add 1)) = _
  have : ((p + 1) == p) = false := beq_eq_false_iff_ne.mpr (Nat.succ_ne_self p)
  rw [this, if_neg (by cases first <;> cases must <;> simp)]
theorem q1_won {p pos k : Nat} {must first : Bool} {hd : Nat} {seen : Seen} : Ends (k + 2) (q1 text lim p must first 9 pos hd (some true) seen) (some (p, hd)) :=
  Ends.one rfl (Ends.one rfl (Ends.done ⟨rfl, rfl, rfl⟩))
theorem run1 : ∀ (n p : Nat) (must first : Bool) (hd : Nat) (seen : Seen), p + n = lim → Ends (5 * n + 10) (q1 text lim p must first 5 p hd none seen) (next1 text lim n p)
  | 0, p, must, first, hd, seen, hn => by
    have hp : ¬ p < lim := by omega
    cases h : (p == 0 || text.getD (p - 1) 0 == 10) with
    | false => exact Ends.one (q1_at_no h) (q1_end hp)
    | true => exact Ends.one (q1_at_yes h) (Ends.one (q1_lit_no (fun x => absurd x hp)) (q1_end hp))
  | n + 1, p, must, first, hd, seen, hn => by
    have hp : p < lim := by omega
    show Ends _ _ (if p < lim then (if (p == 0 || text.getD (p - 1) 0 == 10) = true ∧ text.getD p 0 = 46 then some (p, p + 1) else next1 text lim n (p + 1)) else none)
    rw [if_pos hp]
    have hn' : p + 1 + n = lim := by omega
    cases h : (p == 0 || text.getD (p - 1) 0 == 10) with
    | false =>
      rw [if_neg (fun x => Bool.false_ne_true x.1)]
      exact Ends.one (q1_at_no h) (Ends.one (q1_next hp) (Ends.mono (by omega) (run1 n (p + 1) false false _ _ hn')))
    | true =>
      by_cases hc : text.getD p 0 = 46
      · rw [if_pos ⟨rfl, hc⟩]
        exact Ends.one (q1_at_yes h) (Ends.one (q1_lit_yes hp hc) (Ends.one q1_suc q1_won))
      · rw [if_neg (fun x => hc x.2)]
        exact Ends.one (q1_at_yes h) (Ends.one (q1_lit_no (fun _ => hc)) (Ends.one (q1_next hp) (Ends.mono (by omega) (run1 n (p + 1) false false _ _ hn'))))
theorem find1 {p : Nat} (must : Bool) (hp : p ≤ lim) : Ends (5 * lim + 10) (forSearch code1 text 0 p lim must) (next1 text lim (lim - p) p) := by
  by_cases h : p = lim
  · subst h
    have e : (decide (p > p) || decide (p - p < 1)) = true := by simp
    have e2 : forSearch code1 text 0 p p must = ({ code := code1, text, lim := p, start := p, pc := 5, pos := p, handed := p, marks := Array.replicate (2 * 0) none, mustAdvance := must, answer := some false, seen := ({} : Seen).add 14 } : M) := if_pos e
    rw [e2, Nat.sub_self]
    exact Ends.one rfl (Ends.done rfl)
  · have e : ¬ ((decide (p > lim) || decide (lim - p < 1)) = true) := by simp; omega
    have e2 : forSearch code1 text 0 p lim must = q1 text lim p must true 5 p p none (({} : Seen).add 14) := if_neg e
    rw [e2]
    exact Ends.mono (by omega) (run1 (lim - p) p must true p _ (by omega))
end
end Mine

end PartX1

section FlushX2
open PySem PySem.W PyProof.Rows PySem.Calls
namespace Mine
theorem start_X2 {prog : Program} {w : World} {A : Around} {E : Value → Shared → Prop} {s : Shared} {env : Env} {Q : Flow → Shared → Prop} (h : wpAny (model prog w) A (execs [] env) Q E s) : wpAny (model prog w) A (execs [] env) Q E s := by
  w_top off
  first | (walk1; fail) | exact h
end Mine
end FlushX2
section PartX2
open PySem PySem.Sre
namespace Mine
section
variable {text : Array Nat} {lim : Nat}
noncomputable def set2 (c : Nat) (seen : Seen) : Bool × Seen :=
  if c == 10 then (true, seen.add 16) else if c == 13 then (true, (seen.add 16).add 16) else (false, ((seen.add 16).add 16).add 0)
theorem inSet2 (c : Nat) (seen : Seen) : inSet code2 c code2.size 5 true seen = .ok (set2 c seen) := by
  unfold set2
  show (if c == 10 then Except.ok (true, seen.add 16) else if c == 13 then Except.ok (true, (seen.add 16).add 16) else Except.ok (false, ((seen.add 16).add 16).add 0)) = _
  cases c == 10 <;> cases c == 13 <;> rfl
noncomputable def isEnd (c : Nat) : Bool := c == 10 || c == 13
theorem set2_eq (c : Nat) (seen : Seen) : ∃ s', set2 c seen = (isEnd c, s') := by
  unfold set2 isEnd
  cases c == 10 <;> cases c == 13 <;> exact ⟨_, rfl⟩
noncomputable def nextEnd (text : Array Nat) (lim : Nat) : Nat → Nat → Option Nat
  | 0, _ => none
  | n + 1, p => if p < lim then (if isEnd (text.getD p 0) then some p else nextEnd text lim n (p + 1)) else none
theorem adm2 {m : M} (hc : m.code = code2) : ∀ (n p : Nat) (seen : Seen), ∃ s', M.admitted m n p seen = .ok (nextEnd m.text m.lim n p, s')
  | 0, _, seen => ⟨seen, rfl⟩
  | n + 1, p, seen => by
    unfold M.admitted nextEnd
    by_cases h : p < m.lim
    · rw [if_neg (Nat.not_le.mpr h), if_pos h, hc, inSet2]
      obtain ⟨s', e⟩ := set2_eq (m.text.getD p 0) seen
      rw [e]
      cases isEnd (m.text.getD p 0) with
      | true => exact ⟨s', rfl⟩
      | false => exact adm2 hc n (p + 1) s'
    · rw [if_pos (Nat.not_lt.mp h), if_neg h]
      exact ⟨seen, rfl⟩
noncomputable def fr0 (p : Nat) (first : Bool) : Sre.Frame := { wait := .nextStart, pc := 10, pos := p, outermost := first }
noncomputable def frN (alt p : Nat) (first : Bool) : Sre.Frame := { wait := .nextBranch, pc := alt, pos := p, outermost := first, kept := { lastmark := -1, lastindex := -1, whole := false, marks := #[] } }
noncomputable def frL (p : Nat) (first : Bool) : Sre.Frame := { wait := .lookNot, pc := 26, pos := p, outermost := first, kept := { lastmark := -1, lastindex := -1, whole := false, marks := #[] } }
noncomputable def q2 (text : Array Nat) (lim p : Nat) (out : Bool) (pc pos handed : Nat) (frames : List Sre.Frame) (weight : Nat) (answer : Option Bool) (seen : Seen) : M :=
  { code := code2, text, lim, start := p, lastStart := lim, mustAdvance := false, pc, pos, handed, outermost := out, marks := Array.replicate (2 * 0) none, lastmark := -1, lastindex := -1,
    frames, weight, answer, seen }
theorem q2_lit_yes {p pc pos hd w : Nat} {out : Bool} {fs : List Sre.Frame} {seen : Seen} (h2 : pc < 36) (h3 : ops[code2.getD pc 0]? = some .LITERAL) (hp : pos < lim) (h : text.getD pos 0 = code2.getD (pc + 1) 0) :
    (q2 text lim p out pc pos hd fs w none seen).step = q2 text lim p out (pc + 2) (pos + 1) hd fs w none (seen.add (code2.getD pc 0)) :=
  (lit_yes (m := q2 text lim p out pc pos hd fs w none seen) rfl rfl h2 h3 hp h).trans rfl
theorem q2_lit_no {p pc pos hd w : Nat} {out : Bool} {fs : List Sre.Frame} {seen : Seen} (h2 : pc < 36) (h3 : ops[code2.getD pc 0]? = some .LITERAL) (h : pos < lim → text.getD pos 0 ≠ code2.getD (pc + 1) 0) :
    (q2 text lim p out pc pos hd fs w none seen).step = q2 text lim p out pc pos hd fs w (some false) (seen.add (code2.getD pc 0)) :=
  (lit_no (m := q2 text lim p out pc pos hd fs w none seen) rfl rfl h2 h3 h).trans rfl
theorem q2_branch {p : Nat} {first : Bool} {seen : Seen} : (q2 text lim p first 10 p p [fr0 p first] 1 none seen).step = q2 text lim p first 12 p p [frN 11 p first, fr0 p first] 2 none (seen.add 7) := rfl
theorem q2_alt2 {p pc pos hd : Nat} {first : Bool} {seen : Seen} : (q2 text lim p first pc pos hd [frN 11 p first, fr0 p first] 2 (some false) seen).step = q2 text lim p first 19 p p [frN 18 p first, fr0 p first] 2 none seen := rfl
theorem q2_alt3 {p pc pos hd : Nat} {first : Bool} {seen : Seen} : (q2 text lim p first pc pos hd [frN 18 p first, fr0 p first] 2 (some false) seen).step = q2 text lim p first 24 p p [frN 23 p first, fr0 p first] 2 none seen := rfl
theorem q2_jump1 {p pos hd w : Nat} {first : Bool} {fs : List Sre.Frame} {seen : Seen} : (q2 text lim p first 16 pos hd fs w none seen).step = q2 text lim p first 35 pos hd fs w none (seen.add 15) := rfl
theorem q2_jump2 {p pos hd w : Nat} {first : Bool} {fs : List Sre.Frame} {seen : Seen} : (q2 text lim p first 21 pos hd fs w none seen).step = q2 text lim p first 35 pos hd fs w none (seen.add 15) := rfl
theorem q2_jump3 {p pos hd w : Nat} {first : Bool} {fs : List Sre.Frame} {seen : Seen} : (q2 text lim p first 32 pos hd fs w none seen).step = q2 text lim p first 35 pos hd fs w none (seen.add 15) := rfl
theorem q2_not {p pos hd : Nat} {first : Bool} {seen : Seen} : (q2 text lim p first 26 pos hd [frN 23 p first, fr0 p first] 2 none seen).step = q2 text lim p false 29 pos pos [frL pos first, frN 23 p first, fr0 p first] 3 none (seen.add 5) := rfl
theorem q2_notyet {p pc pos pos' hd : Nat} {first : Bool} {seen : Seen} : (q2 text lim p false pc pos hd [frL pos' first, frN 23 p first, fr0 p first] 3 (some false) seen).step = q2 text lim p first 32 pos' hd [frN 23 p first, fr0 p first] 2 none seen := rfl
theorem q2_suc {p pos hd w : Nat} {first : Bool} {fs : List Sre.Frame} {seen : Seen} :
    (q2 text lim p first 35 pos hd fs w none seen).step = q2 text lim p first 35 pos pos fs w (some true) (seen.add 1) := by
  show (if (first && ((false && pos != lim) || (false && pos == p))) = true then _ else q2 text lim p first 35 pos pos fs w (some true) (seen.add 1)) = _
  rw [if_neg (by cases first <;> simp)]
theorem q2_won {p pc pos hd alt k : Nat} {first : Bool} {seen : Seen} : Ends (k + 3) (q2 text lim p first pc pos hd [frN alt p first, fr0 p first] 2 (some true) seen) (some (p, hd)) :=
  Ends.one rfl (Ends.one rfl (Ends.one rfl (Ends.done ⟨rfl, rfl, rfl⟩)))
noncomputable def endLen (text : Array Nat) (lim p : Nat) : Nat := if text.getD p 0 = 13 ∧ p + 1 < lim ∧ text.getD (p + 1) 0 = 10 then 2 else 1
theorem run2 {p : Nat} {first : Bool} {seen : Seen} (hp : p < lim) (h : isEnd (text.getD p 0) = true) : Ends 30 (q2 text lim p first 10 p p [fr0 p first] 1 none seen) (some (p, p + endLen text lim p)) := by
  refine Ends.one q2_branch ?_
  by_cases c : text.getD p 0 = 13
  · refine Ends.one (q2_lit_yes (by decide) rfl hp c) ?_
    by_cases d : p + 1 < lim ∧ text.getD (p + 1) 0 = 10
    · rw [endLen, if_pos ⟨c, d.1, d.2⟩]
      exact Ends.one (q2_lit_yes (by decide) rfl d.1 d.2) (Ends.one q2_jump1 (Ends.one q2_suc q2_won))
    · rw [endLen, if_neg (fun x => d x.2)]
      refine Ends.one (q2_lit_no (by decide) rfl (fun x y => d ⟨x, y⟩)) (Ends.one q2_alt2 ?_)
      have c' : text.getD p 0 ≠ 10 := by rw [c]; decide
      refine Ends.one (q2_lit_no (by decide) rfl (fun _ => c')) (Ends.one q2_alt3 ?_)
      refine Ends.one (q2_lit_yes (by decide) rfl hp c) (Ends.one q2_not ?_)
      exact Ends.one (q2_lit_no (by decide) rfl (fun x y => d ⟨x, y⟩)) (Ends.one q2_notyet (Ends.one q2_jump3 (Ends.one q2_suc q2_won)))
  · have c' : text.getD p 0 = 10 := by
      unfold isEnd at h
      rw [Bool.or_eq_true, beq_iff_eq, beq_iff_eq] at h
      exact h.resolve_right c
    rw [endLen, if_neg (fun x => c x.1)]
    exact Ends.one (q2_lit_no (by decide) rfl (fun _ => c)) (Ends.one q2_alt2 (Ends.one (q2_lit_yes (by decide) rfl hp c') (Ends.one q2_jump2 (Ends.one q2_suc q2_won))))
theorem nextEnd_is : ∀ (n p q : Nat), nextEnd text lim n p = some q → q < lim ∧ isEnd (text.getD q 0) = true
  | 0, _, _, h => nomatch h
  | n + 1, p, q, h => by
    unfold nextEnd at h
    by_cases c : p < lim
    · rw [if_pos c] at h
      by_cases d : isEnd (text.getD p 0) = true
      · rw [if_pos d] at h
        cases h
        exact ⟨c, d⟩
      · rw [if_neg d] at h
        exact nextEnd_is n (p + 1) q h
    · rw [if_neg c] at h
      cases h
noncomputable def next2 (text : Array Nat) (lim p : Nat) : Option (Nat × Nat) := (nextEnd text lim (lim + 1 - p) p).map fun q => (q, q + endLen text lim q)
theorem find2 {p : Nat} (must : Bool) (hp : p ≤ lim) : Ends 30 (forSearch code2 text 0 p lim must) (next2 text lim p) := by
  let m0 : M := { code := code2, text, lim, start := p, lastStart := lim, pc := 10, pos := p, handed := p, marks := Array.replicate (2 * 0) none, mustAdvance := must, seen := ({} : Seen).add 14 }
  by_cases h : p = lim
  · have e : (decide (p > lim) || decide (lim - p < 1)) = true := by simp; omega
    have e2 : forSearch code2 text 0 p lim must = ({ m0 with answer := some false, lastStart := 0 } : M) := if_pos e
    have e3 : nextEnd text lim (lim + 1 - p) p = none := by
      have : lim + 1 - p = 1 := by omega
      rw [this]
      show (if p < lim then _ else none) = none
      rw [if_neg (by omega)]
    rw [e2, next2, e3]
    exact Ends.one rfl (Ends.done rfl)
  · have e : ¬ ((decide (p > lim) || decide (lim - p < 1)) = true) := by simp; omega
    have e2 : forSearch code2 text 0 p lim must = M.attemptFrom m0 p true := if_neg e
    obtain ⟨s', hs⟩ := adm2 (m := m0) rfl (lim + 1 - p) p (({} : Seen).add 14)
    have hs' : M.admitted m0 (lim + 1 - p) p (({} : Seen).add 14) = .ok (nextEnd text lim (lim + 1 - p) p, s') := hs
    rw [e2]
    cases hq : nextEnd text lim (lim + 1 - p) p with
    | none =>
      rw [hq] at hs'
      have e3 : M.attemptFrom m0 p true = M.say { m0 with seen := s' } false := by
        unfold M.attemptFrom
        refine (if_neg (show ¬ ((!true) = true) by decide)).trans ?_
        show (match M.admitted m0 (lim + 1 - p) p (({} : Seen).add 14) with
          | .ok (some s, seen) => M.attemptAt { m0 with mustAdvance := false, seen } s true
          | .ok (none, seen) => M.say { m0 with seen } false
          | .error why => M.stick m0 why) = _
        rw [hs']
      rw [e3, next2, hq]
      exact Ends.one rfl (Ends.done rfl)
    | some q =>
      rw [hq] at hs'
      have e3 : M.attemptFrom m0 p true = q2 text lim q true 10 q q [fr0 q true] 1 none s' := by
        unfold M.attemptFrom
        refine (if_neg (show ¬ ((!true) = true) by decide)).trans ?_
        show (match M.admitted m0 (lim + 1 - p) p (({} : Seen).add 14) with
          | .ok (some s, seen) => M.attemptAt { m0 with mustAdvance := false, seen } s true
          | .ok (none, seen) => M.say { m0 with seen } false
          | .error why => M.stick m0 why) = _
        rw [hs']
        rfl
      rw [e3, next2, hq]
      obtain ⟨h1, h2⟩ := nextEnd_is _ _ _ hq
      exact run2 h1 h2
end
end Mine

end PartX2

section FlushX3
open PySem PySem.W PyProof.Rows PySem.Calls
namespace Mine
theorem start_X3 {prog : Program} {w : World} {A : Around} {E : Value → Shared → Prop} {s : Shared} {env : Env} {Q : Flow → Shared → Prop} (h : wpAny (model prog w) A (execs [] env) Q E s) : wpAny (model prog w) A (execs [] env) Q E s := by
  w_top off
  first | (walk1; fail) | exact h
end Mine
end FlushX3
section PartX3
open PySem PySem.Sre
namespace Mine
theorem fuel_step {s p n : Nat} (h : s < p + (n + 1)) : s < p + 1 + n := (Nat.succ_add_eq_add_succ p n) ▸ h
theorem fuel_all {s p : Nat} (h : p ≤ s) : s < p + (s + 1 - p) := by rw [Nat.add_sub_cancel' (Nat.le_succ_of_le h)]; exact Nat.lt_succ_self s
theorem fuel_more {s p q n k : Nat} (h : s < p + (n + 1)) (g : p ≤ q) (k1 : 1 ≤ k) : s < q + k + n := by omega
theorem sub_step {a p : Nat} (h : p + 1 ≤ a) : a - p = (a - (p + 1)) + 1 := by omega
theorem letter_ne {c : Nat} (h : c < 97) (k : Nat) : 97 + k ≠ c := Nat.ne_of_gt (Nat.lt_of_lt_of_le h (Nat.le_add_right 97 k))
noncomputable def subP (f : Nat → Option (Nat × Nat)) (repl text : Array Nat) : Nat → Nat → List (Array Nat)
  | 0, _ => []
  | n + 1, done =>
    match f done with
    | some (a, b) => (if done < a then [text.extract done a] else []) ++ repl :: subP f repl text n b
    | none => if done < text.size then [text.extract done text.size] else []
noncomputable def flatP (l : List (Array Nat)) : List Nat := (l.map Array.toList).flatten
theorem flatP_append (a b : List (Array Nat)) : flatP (a ++ b) = flatP a ++ flatP b := by unfold flatP; rw [List.map_append, List.flatten_append]
theorem flatP_cons (a : Array Nat) (b : List (Array Nat)) : flatP (a :: b) = a.toList ++ flatP b := rfl
theorem flat_piece (text : Array Nat) {p q : Nat} (hq : p ≤ q) (hs : q ≤ text.size) : flatP (if p < q then [text.extract p q] else []) = (text.toList.drop p).take (q - p) := by
  by_cases h : p < q
  · rw [if_pos h]
    show (text.extract p q).toList ++ [] = _
    rw [List.append_nil, Array.toList_extract]
  · rw [if_neg h]
    rw [Nat.sub_eq_zero_of_le (Nat.le_of_not_lt h), List.take_zero]
    rfl
noncomputable def eolS : Bool → List Nat → List Nat
  | _, [] => []
  | cr, c :: r => if c = 10 then (if cr = true then eolS false r else 13 :: 10 :: eolS false r) else if c = 13 then 13 :: 10 :: eolS true r else c :: eolS false r
noncomputable abbrev eolL (l : List Nat) : List Nat := eolS false l
theorem eolL_13_10 (r : List Nat) : eolL (13 :: 10 :: r) = 13 :: 10 :: eolL r := rfl
theorem eolL_10 (r : List Nat) : eolL (10 :: r) = 13 :: 10 :: eolL r := rfl
theorem eolL_13 {r : List Nat} (h : r.head? ≠ some 10) : eolL (13 :: r) = 13 :: 10 :: eolL r := by
  show 13 :: 10 :: eolS true r = 13 :: 10 :: eolS false r
  cases r with
  | nil => rfl
  | cons d r =>
    have hd : d ≠ 10 := fun e => h (by rw [e]; rfl)
    show 13 :: 10 :: (if d = 10 then _ else _) = 13 :: 10 :: (if d = 10 then _ else _)
    rw [if_neg hd, if_neg hd]
theorem eolL_else {c : Nat} {r : List Nat} (h : isEnd c = false) : eolL (c :: r) = c :: eolL r := by
  unfold isEnd at h
  rw [Bool.or_eq_false_iff, beq_eq_false_iff_ne, beq_eq_false_iff_ne] at h
  show (if c = 10 then _ else (if c = 13 then _ else _)) = _
  rw [if_neg h.1, if_neg h.2]
theorem eolL_pre {b : List Nat} : ∀ {a : List Nat}, (∀ c ∈ a, isEnd c = false) → eolL (a ++ b) = a ++ eolL b
  | [], _ => rfl
  | c :: a, h => by
    show eolL (c :: (a ++ b)) = _
    rw [eolL_else (h c List.mem_cons_self), eolL_pre fun d hd => h d (List.mem_cons_of_mem _ hd)]
    rfl
theorem getD_list (text : Array Nat) (p : Nat) : text.getD p 0 = text.toList.getD p 0 := by
  rw [List.getD_eq_getElem?_getD, Array.getD_eq_getD_getElem?, Array.getElem?_toList]
theorem drop_get {l : List Nat} {p : Nat} (h : p < l.length) : l.drop p = l.getD p 0 :: l.drop (p + 1) := by
  rw [List.getD_eq_getElem?_getD, List.getElem?_eq_getElem h]
  exact List.drop_eq_getElem_cons h
theorem nextEnd_spec {text : Array Nat} {lim : Nat} : ∀ (n p : Nat), lim < p + n → p ≤ lim → match nextEnd text lim n p with
    | none => ∀ j, p ≤ j → j < lim → isEnd (text.getD j 0) = false
    | some q => p ≤ q ∧ q < lim ∧ isEnd (text.getD q 0) = true ∧ ∀ j, p ≤ j → j < q → isEnd (text.getD j 0) = false
  | 0, p, h, hp => absurd h (Nat.not_lt.mpr hp)
  | n + 1, p, h, hp => by
    unfold nextEnd
    by_cases c : p < lim
    · rw [if_pos c]
      cases e : isEnd (text.getD p 0) with
      | true =>
        rw [if_pos rfl]
        exact ⟨Nat.le_refl _, c, e, fun j h1 h2 => absurd h2 (Nat.not_lt.mpr h1)⟩
      | false =>
        rw [if_neg Bool.false_ne_true]
        have ih := nextEnd_spec (text := text) (lim := lim) n (p + 1) (fuel_step h) c
        cases e2 : nextEnd text lim n (p + 1) with
        | none =>
          rw [e2] at ih
          intro j h1 h2
          by_cases hj : j = p
          · rw [hj]; exact e
          · exact ih j (Nat.lt_of_le_of_ne h1 (Ne.symm hj)) h2
        | some q =>
          rw [e2] at ih
          refine ⟨Nat.le_of_succ_le ih.1, ih.2.1, ih.2.2.1, fun j h1 h2 => ?_⟩
          by_cases hj : j = p
          · rw [hj]; exact e
          · exact ih.2.2.2 j (Nat.lt_of_le_of_ne h1 (Ne.symm hj)) h2
    · rw [if_neg c]
      exact fun j h1 h2 => absurd (Nat.lt_of_le_of_lt h1 h2) c
theorem mem_slice {l : List Nat} {p q c : Nat} (h : c ∈ (l.drop p).take (q - p)) : ∃ j, p ≤ j ∧ j < q ∧ j < l.length ∧ c = l.getD j 0 := by
  obtain ⟨i, hi, e⟩ := List.mem_iff_getElem.mp h
  rw [List.length_take, List.length_drop] at hi
  rw [List.getElem_take, List.getElem_drop] at e
  have hl : p + i < l.length := Nat.add_lt_of_lt_sub' (Nat.lt_of_lt_of_le hi (Nat.min_le_right _ _))
  refine ⟨p + i, Nat.le_add_right _ _, Nat.add_lt_of_lt_sub' (Nat.lt_of_lt_of_le hi (Nat.min_le_left _ _)), hl, ?_⟩
  rw [List.getD_eq_getElem?_getD, List.getElem?_eq_getElem hl]
  exact e.symm
theorem slice_split (l : List Nat) {p q : Nat} (h : p ≤ q) : l.drop p = (l.drop p).take (q - p) ++ l.drop q := by
  have e : l.drop q = (l.drop p).drop (q - p) := by
    rw [List.drop_drop, Nat.add_sub_cancel' h]
  rw [e, List.take_append_drop]
theorem endLen_pos (text : Array Nat) (lim p : Nat) : 1 ≤ endLen text lim p := by unfold endLen; split <;> decide
theorem endLen_le {text : Array Nat} {lim p : Nat} (h : p < lim) : p + endLen text lim p ≤ lim := by
  unfold endLen
  split
  · rename_i c
    exact c.2.1
  · exact h
theorem sub2 (text : Array Nat) : ∀ (n p : Nat), text.size < p + n → p ≤ text.size → flatP (subP (fun d => next2 text text.size d) #[13, 10] text n p) = eolL (text.toList.drop p)
  | 0, p, h, hp => absurd h (Nat.not_lt.mpr hp)
  | n + 1, p, h, hp => by
    have sp := nextEnd_spec (text := text) (lim := text.size) (text.size + 1 - p) p (fuel_all hp) hp
    show flatP (match next2 text text.size p with | some (a, b) => _ | none => _) = _
    unfold next2
    have hl : text.toList.length = text.size := Array.length_toList
    cases e : nextEnd text text.size (text.size + 1 - p) p with
    | none =>
      rw [e] at sp
      show flatP (if p < text.size then [text.extract p text.size] else []) = _
      rw [flat_piece text hp (Nat.le_refl _), List.take_of_length_le (by rw [List.length_drop, hl]; exact Nat.le_refl _)]
      have : ∀ c ∈ text.toList.drop p, isEnd c = false := fun c hc => by
        obtain ⟨j, h1, h2, h3, rfl⟩ := mem_slice (p := p) (q := text.size) (by rw [List.take_of_length_le (by rw [List.length_drop, hl]; exact Nat.le_refl _)]; exact hc)
        rw [← getD_list]
        exact sp j h1 h2
      have e2 := eolL_pre (b := []) this
      rw [List.append_nil] at e2
      rw [e2]
      show _ = _ ++ eolL []
      rw [show eolL [] = [] from rfl, List.append_nil]
    | some q =>
      rw [e] at sp
      obtain ⟨h1, h2, h3, h4⟩ := sp
      show flatP ((if p < q then [text.extract p q] else []) ++ #[13, 10] :: subP (fun d => next2 text text.size d) #[13, 10] text n (q + endLen text text.size q)) = _
      have hpos := endLen_pos text text.size q
      have hle : q + endLen text text.size q ≤ text.size := endLen_le h2
      rw [flatP_append, flat_piece text h1 (Nat.le_of_lt h2), flatP_cons, sub2 text n _ (fuel_more h h1 hpos) hle]
      have hpre : ∀ c ∈ (text.toList.drop p).take (q - p), isEnd c = false := fun c hc => by
        obtain ⟨j, g1, g2, _, rfl⟩ := mem_slice hc
        rw [← getD_list]
        exact h4 j g1 g2
      conv => rhs; rw [slice_split text.toList h1, eolL_pre hpre]
      congr 1
      have hq : q < text.toList.length := by rw [hl]; exact h2
      rw [drop_get hq, ← getD_list]
      show [13, 10] ++ _ = _
      by_cases c : text.getD q 0 = 13
      · by_cases d : q + 1 < text.size ∧ text.getD (q + 1) 0 = 10
        · rw [endLen, if_pos ⟨c, d.1, d.2⟩, c, drop_get (l := text.toList) (p := q + 1) (by rw [hl]; exact d.1), ← getD_list, d.2, eolL_13_10]
          rfl
        · rw [endLen, if_neg (fun x => d x.2), c, eolL_13]
          · rfl
          · intro x
            by_cases g : q + 1 < text.size
            · rw [drop_get (l := text.toList) (p := q + 1) (by rw [hl]; exact g), ← getD_list] at x
              exact d ⟨g, Option.some.inj x⟩
            · rw [List.drop_of_length_le (by rw [hl]; exact Nat.le_of_not_lt g)] at x
              cases x
      · have c' : text.getD q 0 = 10 := by
          unfold isEnd at h3
          rw [Bool.or_eq_true, beq_iff_eq, beq_iff_eq] at h3
          exact h3.resolve_right c
        rw [endLen, if_neg (fun x => c x.1), c', eolL_10]
        rfl
noncomputable def dotL : Bool → List Nat → List Nat
  | _, [] => []
  | b, c :: r => if b = true ∧ c = 46 then 46 :: 46 :: dotL false r else c :: dotL (c == 10) r
noncomputable def atLine (text : Array Nat) (p : Nat) : Bool := p == 0 || text.getD (p - 1) 0 == 10
theorem atLine_succ (text : Array Nat) (p : Nat) : atLine text (p + 1) = (text.getD p 0 == 10) := by
  unfold atLine
  rw [show (p + 1 == 0) = false from rfl, Bool.false_or]
  rfl
theorem next1_eq (text : Array Nat) (lim n p : Nat) : next1 text lim (n + 1) p = if p < lim then (if atLine text p = true ∧ text.getD p 0 = 46 then some (p, p + 1) else next1 text lim n (p + 1)) else none := rfl
theorem next1_spec {text : Array Nat} : ∀ (n p : Nat), p + n = text.size → match next1 text text.size n p with
    | none => dotL (atLine text p) (text.toList.drop p) = text.toList.drop p
    | some (a, b) => p ≤ a ∧ a < text.size ∧ b = a + 1 ∧ dotL (atLine text p) (text.toList.drop p) = (text.toList.drop p).take (a - p) ++ 46 :: 46 :: dotL (atLine text b) (text.toList.drop b)
  | 0, p, h => by
    show dotL _ _ = _
    rw [List.drop_of_length_le (by rw [Array.length_toList]; exact Nat.le_of_eq h.symm)]
    cases atLine text p <;> rfl
  | n + 1, p, h => by
    have hp : p < text.size := h ▸ Nat.lt_add_of_pos_right (Nat.succ_pos n)
    have hl : p < text.toList.length := by rw [Array.length_toList]; exact hp
    rw [next1_eq, if_pos hp]
    by_cases c : atLine text p = true ∧ text.getD p 0 = 46
    · rw [if_pos c]
      refine ⟨Nat.le_refl _, hp, rfl, ?_⟩
      rw [Nat.sub_self, List.take_zero, drop_get hl, ← getD_list, atLine_succ, c.2, c.1]
      rfl
    · rw [if_neg c]
      have ih := next1_spec (text := text) n (p + 1) ((Nat.succ_add_eq_add_succ p n).trans h)
      have e1 : dotL (atLine text p) (text.toList.drop p) = text.getD p 0 :: dotL (atLine text (p + 1)) (text.toList.drop (p + 1)) := by
        rw [drop_get hl, ← getD_list, atLine_succ]
        show (if _ then _ else _) = _
        rw [if_neg c]
      cases e : next1 text text.size n (p + 1) with
      | none =>
        rw [e] at ih
        show dotL _ _ = _
        rw [e1, ih, getD_list, ← drop_get hl]
      | some ab =>
        obtain ⟨a, b⟩ := ab
        rw [e] at ih
        obtain ⟨i1, i2, i3, i4⟩ := ih
        refine ⟨Nat.le_of_succ_le i1, i2, i3, ?_⟩
        rw [e1, i4, drop_get hl, ← getD_list]
        rw [sub_step i1, List.take_succ_cons]
        rfl
theorem sub1 (text : Array Nat) : ∀ (n p : Nat), text.size < p + n → p ≤ text.size → flatP (subP (fun d => next1 text text.size (text.size - d) d) #[46, 46] text n p) = dotL (atLine text p) (text.toList.drop p)
  | 0, p, h, hp => absurd h (Nat.not_lt.mpr hp)
  | n + 1, p, h, hp => by
    have sp := next1_spec (text := text) (text.size - p) p (Nat.add_sub_cancel' hp)
    have hl : text.toList.length = text.size := Array.length_toList
    show flatP (match next1 text text.size (text.size - p) p with | some (a, b) => _ | none => _) = _
    cases e : next1 text text.size (text.size - p) p with
    | none =>
      rw [e] at sp
      show flatP (if p < text.size then [text.extract p text.size] else []) = _
      rw [flat_piece text hp (Nat.le_refl _), List.take_of_length_le (by rw [List.length_drop, hl]; exact Nat.le_refl _)]
      exact sp.symm
    | some ab =>
      obtain ⟨a, b⟩ := ab
      rw [e] at sp
      obtain ⟨i1, i2, i3, i4⟩ := sp
      subst i3
      show flatP ((if p < a then [text.extract p a] else []) ++ #[46, 46] :: subP (fun d => next1 text text.size (text.size - d) d) #[46, 46] text n (a + 1)) = _
      rw [flatP_append, flat_piece text i1 (Nat.le_of_lt i2), flatP_cons, sub1 text n _ (fuel_more h i1 (Nat.le_refl 1)) i2, i4]
      rfl
noncomputable def rowsFrom (e : Nat → List Nat) : Nat → List Nat → List Nat
  | _, [] => []
  | k, d :: ds => List.replicate d 46 ++ (97 + k) :: (e k ++ rowsFrom e (k + 1) ds)
noncomputable def incD (d : Nat) : Nat := if 0 < d then d + 1 else 0
theorem head_rows (e : Nat → List Nat) (k : Nat) (ds : List Nat) : (rowsFrom e k ds).head? ≠ some 10 := by
  cases ds with
  | nil => intro h; cases h
  | cons d ds =>
    cases d with
    | zero => intro h; exact letter_ne (by decide) k (Option.some.inj h)
    | succ d => intro h; cases Option.some.inj h
theorem eol_rows {e : Nat → List Nat} (he : ∀ k, e k = [10] ∨ e k = [13] ∨ e k = [13, 10]) : ∀ (ds : List Nat) (k : Nat), eolL (rowsFrom e k ds) = rowsFrom (fun _ => [13, 10]) k ds
  | [], _ => rfl
  | d :: ds, k => by
    unfold rowsFrom
    have hd : ∀ c ∈ List.replicate d 46, isEnd c = false := fun c hc => by
      rw [List.eq_of_mem_replicate hc]; rfl
    have hk : isEnd (97 + k) = false := by
      unfold isEnd
      rw [Bool.or_eq_false_iff, beq_eq_false_iff_ne, beq_eq_false_iff_ne]
      exact ⟨letter_ne (by decide) k, letter_ne (by decide) k⟩
    rw [eolL_pre hd, eolL_else hk]
    congr 2
    rcases he k with h | h | h
    · rw [h]
      show eolL (10 :: rowsFrom e (k + 1) ds) = 13 :: 10 :: rowsFrom (fun _ => [13, 10]) (k + 1) ds
      rw [eolL_10, eol_rows he]
    · rw [h]
      show eolL (13 :: rowsFrom e (k + 1) ds) = 13 :: 10 :: rowsFrom (fun _ => [13, 10]) (k + 1) ds
      rw [eolL_13 (head_rows _ _ _), eol_rows he]
    · rw [h]
      show eolL (13 :: 10 :: rowsFrom e (k + 1) ds) = 13 :: 10 :: rowsFrom (fun _ => [13, 10]) (k + 1) ds
      rw [eolL_13_10, eol_rows he]
theorem dotL_dots (c : Nat) (hc : c ≠ 46) (r : List Nat) : ∀ d, dotL false (List.replicate d 46 ++ c :: r) = List.replicate d 46 ++ c :: dotL (c == 10) r
  | 0 => by
    show (if _ then _ else _) = _
    rw [if_neg (fun x => hc x.2)]
    rfl
  | d + 1 => by
    show dotL false (46 :: (List.replicate d 46 ++ c :: r)) = _
    show (if _ then _ else 46 :: dotL (46 == 10) (List.replicate d 46 ++ c :: r)) = _
    rw [if_neg (fun x => Bool.false_ne_true x.1)]
    show 46 :: dotL false _ = _
    rw [dotL_dots c hc r d]
    rfl
theorem dot_rows : ∀ (ds : List Nat) (k : Nat), dotL true (rowsFrom (fun _ => [13, 10]) k ds) = rowsFrom (fun _ => [13, 10]) k (ds.map incD)
  | [], _ => rfl
  | d :: ds, k => by
    have hk : 97 + k ≠ 46 := letter_ne (by decide) k
    have hk2 : ((97 + k) == 10) = false := beq_eq_false_iff_ne.mpr (letter_ne (by decide) k)
    have tailEq : dotL false (13 :: 10 :: rowsFrom (fun _ => [13, 10]) (k + 1) ds) = 13 :: 10 :: rowsFrom (fun _ => [13, 10]) (k + 1) (ds.map incD) := by
      show 13 :: 10 :: dotL true (rowsFrom (fun _ => [13, 10]) (k + 1) ds) = _
      rw [dot_rows ds (k + 1)]
    show dotL true (List.replicate d 46 ++ (97 + k) :: (13 :: 10 :: rowsFrom (fun _ => [13, 10]) (k + 1) ds)) = List.replicate (incD d) 46 ++ (97 + k) :: (13 :: 10 :: rowsFrom (fun _ => [13, 10]) (k + 1) (ds.map incD))
    cases d with
    | zero =>
      show (if _ then _ else _) = _
      rw [if_neg (fun x => hk x.2), hk2, tailEq]
      rfl
    | succ d =>
      show dotL true (46 :: (List.replicate d 46 ++ (97 + k) :: (13 :: 10 :: rowsFrom (fun _ => [13, 10]) (k + 1) ds))) = _
      show (if _ then 46 :: 46 :: dotL false (List.replicate d 46 ++ (97 + k) :: (13 :: 10 :: rowsFrom (fun _ => [13, 10]) (k + 1) ds)) else _) = _
      rw [if_pos ⟨rfl, rfl⟩, dotL_dots _ hk, hk2, tailEq]
      show _ = List.replicate (d + 1 + 1) 46 ++ _
      rfl
end Mine

end PartX3

section FlushX5
open PySem PySem.W PyProof.Rows PySem.Calls
namespace Mine
theorem start_X5 {prog : Program} {w : World} {A : Around} {E : Value → Shared → Prop} {s : Shared} {env : Env} {Q : Flow → Shared → Prop} (h : wpAny (model prog w) A (execs [] env) Q E s) : wpAny (model prog w) A (execs [] env) Q E s := by
  w_top off
  first | (walk1; fail) | exact h
end Mine
end FlushX5
section PartX5
open PySem PySem.W PyProof.Rows PySem.Calls
namespace Mine
theorem slot_sub : Slot "re.Pattern" "sub" "re.Pattern.sub" :=
  .of (owner := "re.Pattern") (n := "sub") (by rw [typeLookup_type, builtinLookup_eq_fast]; kernel_rfl) (by decide +kernel) (by decide +kernel) (by decide +kernel)
    (by first | exact .inl (by decide +kernel) | exact .inr (by decide +kernel)) (by rw [isSubtype_type]; kernel_rfl)
theorem type_sub : typeOf (.builtin "re.Pattern.sub") = pure (.type "method_descriptor") := by show builtinType _ = _; rw [builtinType_eq_fast]; kernel_rfl
theorem entry_sub : entryFor table "re.Pattern.sub" = some Builtin.«re.Pattern.sub» := entryFor_of_tree (by kernel_rfl)
theorem entry_subloop : entryFor table "re.Pattern.sub.loop" = some Builtin.«re.Pattern.sub.loop» := entryFor_of_tree (by kernel_rfl)
theorem owner_pat : Manifest.owners.lookup (String.ofList ['n', 'r', 'e', 't', 't', 'a', 'P', '.', 'e', 'r'].reverse) = some Manifest.sig_re_Pattern := by kernel_rfl
theorem args_sub_3 (a b c : Value) : argsOk "re.Pattern.sub" ⟨[a, b, c], []⟩ := by
  unfold argsOk; rw [signature?_of (id := "re.Pattern.sub") (n := ['b', 'u', 's']) (o := ['n', 'r', 'e', 't', 't', 'a', 'P', '.', 'e', 'r']) (by kernel_rfl) owner_pat]; kernel_rfl
end Mine

end PartX5

section FlushX6
open PySem PySem.W PyProof.Rows PySem.Calls
namespace Mine
theorem start_X6 {prog : Program} {w : World} {A : Around} {E : Value → Shared → Prop} {s : Shared} {env : Env} {Q : Flow → Shared → Prop} (h : wpAny (model prog w) A (execs [] env) Q E s) : wpAny (model prog w) A (execs [] env) Q E s := by
  w_top off
  first | (walk1; fail) | exact h
end Mine
end FlushX6
section PartX6
open PySem PySem.W PyProof.Rows PySem.Calls PySem.Builtin PySem.Builtin.Re
namespace Mine
section
variable {prog : Program} {w : World} {A : Around} {E : Value → Shared → Prop} {s : Shared}
theorem res_some {m : Sre.M} {r : Option (Nat × Nat)} (h : Res m r) : m.outcome.isSome = true := by
  cases r with
  | none => have e : m.outcome = some .failed := h; rw [e]; rfl
  | some p => obtain ⟨a, b⟩ := p; rw [h.1]; rfl
theorem drive_ends {r : Option (Nat × Nat)} {Q : Sre.M → Shared → Prop} : ∀ (turns k : Nat) (m : Sre.M), Ends k m r → k < 4 * turns → (∀ m', Res m' r → Q m' s) → wpAny (model prog w) A (reDrive turns m) Q E s
  | 0, k, m, _, hk, _ => by omega
  | turns + 1, k, m, ⟨n, m', hn, e, res⟩, hk, hq => by
    have ho := res_some res
    show wpAny (model prog w) A (if (m.runFor 4).outcome.isSome then pure (m.runFor 4) else do rule "sre.turn"; reDrive turns (m.runFor 4)) Q E s
    rw [runFor_it]
    by_cases h4 : n ≤ 4
    · have e4 : it 4 m = m' := by
        have : 4 = n + (4 - n) := by omega
        rw [this, it_add, e, it_done ho]
      rw [e4, if_pos ho]
      exact wpAny_pure (hq m' res)
    · have e4 : it (n - 4) (it 4 m) = m' := by
        rw [← it_add]
        have : 4 + (n - 4) = n := by omega
        rw [this, e]
      by_cases h : (it 4 m).outcome.isSome = true
      · rw [if_pos h]
        have e5 : it 4 m = m' := by rw [← e4, it_done h]
        rw [e5]
        exact wpAny_pure (hq m' res)
      · rw [if_neg h]
        refine wpAny_bind (wpAny_rule ?_)
        exact drive_ends turns (k - 4) _ ⟨n - 4, m', by omega, e4, res⟩ (by omega) hq
theorem rules_loop {m : Sre.M} {Q : PUnit → Shared → Prop} (h : Q PUnit.unit s) : ∀ (l : List Nat), wpAny (model prog w) A (forIn l PUnit.unit (fun i _ => if m.seen.has i = true then (do rule (Sre.names.getD i ""); pure (ForInStep.yield PUnit.unit) : Sem (ForInStep PUnit)) else pure (ForInStep.yield PUnit.unit))) Q E s
  | [] => wpAny_pure h
  | i :: l => by
    rw [List.forIn_cons]
    refine wpAny_bind ?_
    by_cases c : m.seen.has i = true
    · rw [if_pos c]
      exact wpAny_bind (wpAny_rule (wpAny_pure (rules_loop h l)))
    · rw [if_neg c]
      exact wpAny_pure (rules_loop h l)
theorem run_end {m : Sre.M} {k : Nat} {r : Option (Nat × Nat)} {Q : Option Sre.M → Shared → Prop} (h : Ends k m r) (hk : k < 2 ^ 40)
    (hq : match r with | none => Q none s | some (a, b) => ∀ m', m'.start = a → m'.handed = b → Q (some m') s) : wpAny (model prog w) A (reRunToEnd m) Q E s := by
  unfold reRunToEnd
  refine wpAny_bind (drive_ends (2 ^ 64) k m h (Nat.lt_trans hk (by decide)) fun m' res => ?_)
  refine wpAny_bind (rules_loop ?_ _)
  cases r with
  | none =>
    have e : m'.outcome = some .failed := res
    rw [e]
    exact wpAny_pure hq
  | some p =>
    obtain ⟨a, b⟩ := p
    rw [res.1]
    exact wpAny_pure (hq m' res.2.1 res.2.2)
end
end Mine

end PartX6

section FlushX7
open PySem PySem.W PyProof.Rows PySem.Calls
namespace Mine
theorem start_X7 {prog : Program} {w : World} {A : Around} {E : Value → Shared → Prop} {s : Shared} {env : Env} {Q : Flow → Shared → Prop} (h : wpAny (model prog w) A (execs [] env) Q E s) : wpAny (model prog w) A (execs [] env) Q E s := by
  w_top off
  first | (walk1; fail) | exact h
end Mine
end FlushX7
section PartX7
open PySem PySem.W PyProof.Rows PySem.Calls PySem.Builtin PySem.Builtin.Re
namespace Mine
structure PatAt (h : Heap) (a c : Addr) (code : Array Nat) : Prop where
  pat : ∃ o fs, h.get? a = some o ∧ o.data = .fields fs ∧ o.cls = .type "re.Pattern" ∧ o.dict = none ∧ reRawNat (fs.getD 6 .none) = 0 ∧ reRawNat (fs.getD 2 .none) = 0 ∧ fs.getD 5 .none = .ref c
  cod : ∃ o items n, h.get? c = some o ∧ o.data = .seq items n ∧ (items.map reRawOf).map Int.toNat = code
theorem PatAt.keeps {h h' : Heap} {a c : Addr} {code : Array Nat} (P : PatAt h a c code) (k : ∀ b o, h.get? b = some o → b = a ∨ b = c → h'.get? b = some o) : PatAt h' a c code := by
  obtain ⟨⟨o, fs, e, r⟩, ⟨o2, it, n, e2, r2⟩⟩ := P
  exact ⟨⟨o, fs, k _ _ e (.inl rfl), r⟩, ⟨o2, it, n, k _ _ e2 (.inr rfl), r2⟩⟩
section
variable {prog : Program} {w : World} {A : Around} {E : Value → Shared → Prop} {s : Shared} {a c D : Addr} {code : Array Nat} {x : PySem.Str} {t : Tok}
theorem whole_target {Q : ReTarget → Shared → Prop} (P : PatAt s.heap a c code) (h : Q ⟨.ref a, .str x t, code, x.cps, 0, 0, 0, x.cps.size⟩ s) : wpAny (model prog w) A (reWholeTarget (.ref a) (.str x t)) Q E s := by
  obtain ⟨⟨o, fs, e, hd, hc, hdi, f6, f2, f5⟩, ⟨o2, items, n, e2, hd2, hcode⟩⟩ := P
  unfold reWholeTarget
  refine wpAny_bind (wpAny_fieldsOf e hd ?_)
  refine wpAny_bind (wpAny_of_eq (show reTextOf (.str x t) = pure (x.cps, 0) from rfl) ?_)
  dsimp only
  rw [f6]
  wp_walk
  rw [f5]
  refine wpAny_bind (wpAny_load e2 ?_)
  rw [hd2, f2]
  refine wpAny_pure (wpAny_pure (wpAny_pure ?_))
  rw [← hcode] at h
  exact h
noncomputable def strsOf (l : List (PySem.Str × Tok)) : Array Value := (strValues l).toArray
theorem next_found {Q : Option Sre.M → Shared → Prop} {text : Array Nat} {st : Nat} {must : Bool} {k : Nat} {r : Option (Nat × Nat)} (h : Ends k (Sre.forSearch code text 0 st text.size must) r) (hk : k < 2 ^ 40)
    (hq : match r with | none => Q none s | some (p, q) => ∀ m', m'.start = p → m'.handed = q → Q (some m') s) : wpAny (model prog w) A (reNextFound ⟨.ref a, .str x t, code, text, 0, 0, 0, text.size⟩ st must) Q E s := run_end h hk hq
structure LoopAt (s : Shared) (a c D : Addr) (code : Array Nat) (l : List (PySem.Str × Tok)) : Prop where
  P : PatAt s.heap a c code
  hD : ∃ n, s.heap.get? D = some { cls := .type "list", dict := none, data := .seq (strsOf l) n, slots := #[] }
  aD : D ≠ a
  cD : D ≠ c
theorem strsOf_push (l : List (PySem.Str × Tok)) (y : PySem.Str) (t : Tok) : (strsOf l).push (.str y t) = strsOf (l ++ [(y, t)]) := by
  unfold strsOf strValues
  apply Array.toList_inj.mp
  simp
theorem join_flat {sep : PySem.Str} (h : sep.cps = #[]) : ∀ texts : List PySem.Str, PySem.Str.join sep texts = ⟨(texts.map fun y => y.cps.toList).flatten.toArray⟩
  | [] => rfl
  | [x] => by
    show x = _
    obtain ⟨c⟩ := x
    simp
  | x :: y :: r => by
    show x ++ sep ++ PySem.Str.join sep (y :: r) = _
    rw [join_flat h (y :: r)]
    obtain ⟨c⟩ := x
    obtain ⟨e⟩ := sep
    dsimp only at h
    subst h
    show (⟨(c ++ #[]) ++ _⟩ : PySem.Str) = _
    congr 1
    apply Array.toList_inj.mp
    simp
theorem flat_map (l : List (PySem.Str × Tok)) : ((l.map (·.1)).map fun y => y.cps.toList).flatten = flatP (l.map fun p => p.1.cps) := by
  unfold flatP
  rw [List.map_map, List.map_map]
  rfl
theorem upd_list {h : Heap} {D : Addr} {xs : Array Value} {n : Nat} (e : h.get? D = some { cls := .type "list", dict := none, data := .seq xs n, slots := #[] }) (v : Value) :
    ∃ n', (h.update D (Obj.mapSeq (·.push v))).get? D = some { cls := .type "list", dict := none, data := .seq (xs.push v) n', slots := #[] } := ⟨_, PySem.IsL.update e (·.push v)⟩
theorem upd_other {h : Heap} {D b : Addr} {f : Obj → Obj} {o : Obj} (hb : b ≠ D) (e : h.get? b = some o) : (h.update D f).get? b = some o := (Heap.get?_update_other h f (Ne.symm hb)).trans e
theorem ext0 (x : Array Nat) : x.extract 0 0 = #[] := by simp
theorem sub_tail {l : List (PySem.Str × Tok)} {nD : Nat} {hp : Heap} {g : Array GenState} {d : Drawn} {tk : Nat} {os : OsState} {R : Result → Shared → Prop} {cnt : Nat} (hD : hp.get? D = some { cls := .type "list", dict := none, data := .seq (strsOf l) nD, slots := #[] })
    (hB : ∀ p ∈ l, p.1.length ≤ 1000) (hlen : l.length ≤ 4000)
    (hR : ∀ tk' tt, R (.ok (.ret (.str ⟨(flatP (l.map fun p => p.1.cps)).toArray⟩ tt))) { heap := hp, gens := g, drawn := d, toks := tk', os := os }) :
    wpAny (model prog w) A.in1 (do
      let joiner ← reSlice x.cps 0 0 0
      let its ← seqItems? (Value.ref D)
      if (its.getD #[]).isEmpty = true then do
          let text ← pure joiner
          if false = true then do
              let v ← holding [text] (do
                    let v ← mkInt cnt
                    newTuple [text, v])
              ret v
            else ret text
        else do
          let text ← call (Value.builtin (if (0 == 0) = true then "str.join" else "bytes.join")) [joiner, Value.ref D]
          if false = true then do
              let v ← holding [text] (do
                    let v ← mkInt cnt
                    newTuple [text, v])
              ret v
            else ret text)
      (fun fin s' => match fin with | .done f => R (.ok f) s' | .again c' => c'.quiet = true ∧ codeAny (model prog w) A c' R s') (fun e s' => R (.error e) s') { heap := hp, gens := g, drawn := d, toks := tk, os := os } := by
  refine wpAny_bind (?_ : wpAny _ _ (mkStr ⟨x.cps.extract 0 0⟩) _ _ _)
  refine wpAny_mkStr' ?_ (by rw [ext0]; exact Nat.zero_le _)
  refine wpAny_bind (wpAny_seqItems hD rfl ?_)
  show wpAny _ _ (if (strsOf l).isEmpty = true then _ else _) _ _ _
  by_cases he : (strsOf l).isEmpty = true
  · rw [if_pos he]
    have hl0 : l = [] := by
      unfold strsOf strValues at he
      simpa using he
    wp_walk
    have hz := hR (tk + 1) tk
    rw [hl0] at hz
    rw [ext0]
    exact hz
  · rw [if_neg he]
    refine wpAny_bind (?_ : wpAny _ _ (call (.builtin "str.join") [.str ⟨x.cps.extract 0 0⟩ _, .ref D]) _ _ _)
    refine SC.join (l := l) ⟨_, hD, rfl, _, rfl⟩ rfl ?_ fun t' k => ?_
    · unfold JoinOk
      rw [Bool.not_eq_true']
      refine StrLaws.joinFits (B := 1000) (fun y hy => ?_) ?_
      · obtain ⟨p, hp, rfl⟩ := List.mem_map.mp hy
        exact hB p hp
      · rw [List.length_map]
        have : (⟨x.cps.extract 0 0⟩ : PySem.Str).length = 0 := by rw [ext0]; rfl
        rw [this]
        have := hlen
        omega
    · wp_walk
      have ej : (Txt.join ⟨x.cps.extract 0 0⟩ (l.map (·.1)) : PySem.Str) = ⟨(flatP (l.map fun p => p.1.cps)).toArray⟩ := by
        rw [show (Txt.join ⟨x.cps.extract 0 0⟩ (l.map (·.1)) : PySem.Str) = PySem.Str.join ⟨x.cps.extract 0 0⟩ (l.map (·.1)) from StrLaws.glued_eq_join _ _, join_flat (sep := ⟨x.cps.extract 0 0⟩) (ext0 x.cps), flat_map]
      rw [ej]
      exact hR _ _
theorem plain_subloop : plainId "re.Pattern.sub.loop" = true := by decide +kernel
theorem upd_pat {h : Heap} (P : PatAt h a c code) (aD : D ≠ a) (cD : D ≠ c) (f : Obj → Obj) : PatAt (h.update D f) a c code :=
  P.keeps fun b o e hb => upd_other (D := D) (f := f) (by rcases hb with e1 | e1 <;> rw [e1] <;> first | exact Ne.symm aD | exact Ne.symm cD) e
theorem flatP_snoc (l : List (PySem.Str × Tok)) (y : PySem.Str) (t : Tok) : flatP ((l ++ [(y, t)]).map fun p => p.1.cps) = flatP (l.map fun p => p.1.cps) ++ y.cps.toList := by
  rw [List.map_append, flatP_append]
  show _ ++ (y.cps.toList ++ []) = _
  rw [List.append_nil]
theorem strsOf_size (l : List (PySem.Str × Tok)) : (strsOf l).size = l.length := by
  unfold strsOf strValues
  simp
theorem slice_len (x : Array Nat) (p q : Nat) : (⟨x.extract p q⟩ : PySem.Str).length ≤ x.size := by
  show (x.extract p q).size ≤ _
  rw [Array.size_extract]
  omega
theorem line_big : 4000 ≤ sizeLine := by decide
theorem sub_loop (f : Nat → Option (Nat × Nat)) (kb : Nat) (hkb : kb < 2 ^ 40) (hf : ∀ must st, st ≤ x.cps.size → Ends kb (Sre.forSearch code x.cps 0 st x.cps.size must) (f st)) (hx : x.cps.size ≤ 1000) {repl : PySem.Str} (hrl : repl.length ≤ 1000) {rt : Tok}
    (hfr : ∀ st p q, f st = some (p, q) → st ≤ p ∧ p < q ∧ q ≤ x.cps.size) :
    ∀ (n : Nat) (st : Nat) (must : Bool) (cnt : Nat) (l : List (PySem.Str × Tok)) (prog : Program) (w : World) (A : Around) (R : Result → Shared → Prop) (s : Shared), x.cps.size < st + n → st ≤ x.cps.size → LoopAt s a c D code l → l.length ≤ 2 * st → (∀ p ∈ l, p.1.length ≤ 1000) →
      (∀ h' tk' tt, (∀ b o, b ≠ D → s.heap.get? b = some o → h'.get? b = some o) → R (.ok (.ret (.str ⟨((flatP (l.map fun p => p.1.cps)) ++ flatP (subP f repl.cps x.cps n st)).toArray⟩ tt))) { s with heap := h', toks := tk' }) →
      wpAny (model prog w) A.in1 (Builtin.«re.Pattern.sub.loop» ⟨[.ref a, .str x t, .str repl rt, rawInt 0, rawInt 0, rawInt cnt, rawInt st, rawInt st, .bool must, .ref D, .bool false], []⟩)
        (fun fin s' => match fin with | .done f => R (.ok f) s' | .again c' => c'.quiet = true ∧ codeAny (model prog w) A c' R s') (fun e s' => R (.error e) s') s
  | 0, st, must, cnt, l, prog, w, A, R, s, h1, h2, _, _, _, _ => by omega
  | n + 1, st, must, cnt, l, prog, w, A, R, s, h1, h2, hL, hll, hB, hR => by
    have hsz : x.cps.size ≤ sizeLine := Nat.le_trans hx (Nat.le_trans (by decide) line_big)
    unfold Builtin.«re.Pattern.sub.loop»
    refine wpAny_bind (whole_target hL.P ?_)
    dsimp only
    have hfn : Ends kb (Sre.forSearch code x.cps 0 ((st : Nat) : Int).toNat x.cps.size must) (f st) := by rw [Int.toNat_natCast]; exact hf must st h2
    wp_walk using (next_found hfn hkb)
    obtain ⟨hp, g, d, tk, os⟩ := s
    obtain ⟨hP, ⟨nD, hD⟩, haD, hcD⟩ := hL
    have hok : (subP f repl.cps x.cps (n + 1) st) = (match f st with
      | some (p, q) => (if st < p then [x.cps.extract st p] else []) ++ repl.cps :: subP f repl.cps x.cps n q
      | none => if st < x.cps.size then [x.cps.extract st x.cps.size] else []) := rfl
    rw [hok] at hR
    cases hfs : f st with
    | none =>
      rw [hfs] at hR
      show wpAny _ _ _ _ _ _
      wp_walk
      rw [Int.toNat_natCast]
      by_cases hc : st < x.cps.size
      · rw [if_pos hc]
        refine wpAny_bind (?_ : wpAny _ _ (mkStr ⟨x.cps.extract st x.cps.size⟩) _ _ _)
        refine wpAny_mkStr' ?_ (Nat.le_trans (slice_len _ _ _) hsz)
        refine wpAny_bind (wpAny_updateSeq hD rfl ?_ (by rw [strsOf_size]; exact Nat.le_trans (show _ ≤ 4000 by omega) line_big) (by rw [Array.size_push, strsOf_size]; exact Nat.succ_le_succ (Nat.le_trans (show _ ≤ 4000 by omega) line_big)))
        obtain ⟨n', hD'⟩ := upd_list hD (.str ⟨x.cps.extract st x.cps.size⟩ tk)
        rw [strsOf_push] at hD'
        refine sub_tail hD' (fun p hp => ?_) (by rw [List.length_append]; show _ + 1 ≤ 4000; omega) fun tk' tt => ?_
        · rcases List.mem_append.mp hp with hp | hp
          · exact hB p hp
          · rw [List.mem_singleton.mp hp]; exact Nat.le_trans (slice_len _ _ _) hx
        · have hz := hR (hp.update D (Obj.mapSeq (·.push (.str ⟨x.cps.extract st x.cps.size⟩ tk)))) tk' tt (fun b o hb e => upd_other hb e)
          rw [flatP_snoc]
          dsimp only at hz
          rw [if_pos hc] at hz
          have e : flatP [x.cps.extract st x.cps.size] = (x.cps.extract st x.cps.size).toList := by show _ ++ [] = _; rw [List.append_nil]
          rw [e] at hz
          exact hz
      · rw [if_neg hc]
        refine sub_tail hD hB (by omega) fun tk' tt => ?_
        have hz := hR hp tk' tt (fun b o hb e => e)
        dsimp only at hz
        rw [if_neg hc, show flatP [] = [] from rfl, List.append_nil] at hz
        exact hz
    | some pq =>
      obtain ⟨p, q⟩ := pq
      rw [hfs] at hR
      obtain ⟨hr1, hr2, hr3⟩ := hfr st p q hfs
      intro m' hm1 hm2
      wp_walk
      rw [Int.toNat_natCast, hm1, hm2]
      have fin : ∀ (l' : List (PySem.Str × Tok)) (tk2 : Nat) (hp2 : Heap) (n2 : Nat), hp2.get? D = some { cls := .type "list", dict := none, data := .seq (strsOf l') n2, slots := #[] } → PatAt hp2 a c code → l'.length ≤ 2 * st + 1 → (∀ p ∈ l', p.1.length ≤ 1000) →
          flatP (l'.map fun p => p.1.cps) = flatP (l.map fun p => p.1.cps) ++ flatP (if st < p then [x.cps.extract st p] else []) → (∀ b o, b ≠ D → hp.get? b = some o → hp2.get? b = some o) →
          wpAny (model prog w) A.in1 (do
            updateSeq D fun x => x.push (.str repl rt)
            again (Code.builtin "re.Pattern.sub.loop" { pos := [Value.ref a, Value.str x t, Value.str repl rt, rawInt 0, rawInt 0, rawInt (cnt + 1), rawInt q, rawInt q, Value.bool (q == p), Value.ref D, Value.bool false] }))
          (fun fin s' => match fin with | .done f => R (.ok f) s' | .again c' => c'.quiet = true ∧ codeAny (model prog w) A c' R s') (fun e s' => R (.error e) s') { heap := hp2, gens := g, drawn := d, toks := tk2, os := os } := by
        intro l' tk2 hp2 n2 hD2 hP2 hl2 hB2 hfl hk2
        refine wpAny_bind (wpAny_updateSeq hD2 rfl ?_ (by rw [strsOf_size]; exact Nat.le_trans (show _ ≤ 4000 by omega) line_big) (by rw [Array.size_push, strsOf_size]; exact Nat.succ_le_succ (Nat.le_trans (show _ ≤ 4000 by omega) line_big)))
        obtain ⟨n', hD'⟩ := upd_list hD2 (.str repl rt)
        rw [strsOf_push] at hD'
        refine wpAny_pure ⟨plainId_quiet plain_subloop _, codeAny_builtin entry_subloop ?_⟩
        rw [Around.under_plainId plain_subloop]
        refine sub_loop f kb hkb hf hx hrl hfr n q (q == p) (cnt + 1) (l' ++ [(repl, rt)]) prog w A R _ (by omega) hr3 ⟨upd_pat hP2 haD hcD _, ⟨n', hD'⟩, haD, hcD⟩ (by rw [List.length_append]; show _ + 1 ≤ _; omega) (fun p hp => ?_) fun h' tk' tt hk => ?_
        · rcases List.mem_append.mp hp with hp | hp
          · exact hB2 p hp
          · rw [List.mem_singleton.mp hp]; exact hrl
        · have hz := hR h' tk' tt (fun b o hb e => hk b o hb (upd_other hb (hk2 b o hb e)))
          dsimp only at hz
          rw [flatP_snoc, hfl]
          rw [flatP_append, flatP_cons] at hz
          simpa only [List.append_assoc] using hz
      by_cases hc : st < p
      · rw [if_pos hc]
        refine wpAny_bind (?_ : wpAny _ _ (mkStr ⟨x.cps.extract st p⟩) _ _ _)
        refine wpAny_mkStr' ?_ (Nat.le_trans (slice_len _ _ _) hsz)
        refine wpAny_bind (wpAny_updateSeq hD rfl ?_ (by rw [strsOf_size]; exact Nat.le_trans (show _ ≤ 4000 by omega) line_big) (by rw [Array.size_push, strsOf_size]; exact Nat.succ_le_succ (Nat.le_trans (show _ ≤ 4000 by omega) line_big)))
        obtain ⟨n', hD'⟩ := upd_list hD (.str ⟨x.cps.extract st p⟩ tk)
        rw [strsOf_push] at hD'
        refine fin _ _ _ _ hD' (upd_pat hP haD hcD _) (by rw [List.length_append]; show _ + 1 ≤ _; omega) (fun p hp => ?_) ?_ (fun b o hb e => upd_other hb e)
        · rcases List.mem_append.mp hp with hp | hp
          · exact hB p hp
          · rw [List.mem_singleton.mp hp]; exact Nat.le_trans (slice_len _ _ _) hx
        · rw [flatP_snoc, if_pos hc]
          show _ = _ ++ (_ ++ [])
          rw [List.append_nil]
      · rw [if_neg hc]
        refine fin l _ _ _ hD hP (by omega) hB ?_ (fun b o hb e => e)
        rw [if_neg hc, show flatP [] = [] from rfl, List.append_nil]
end
end Mine

end PartX7

section FlushK2
open PySem PySem.W PyProof.Rows PySem.Calls
namespace Mine
theorem start_K2 {prog : Program} {w : World} {A : Around} {E : Value → Shared → Prop} {s : Shared} {env : Env} {Q : Flow → Shared → Prop} (h : wpAny (model prog w) A (execs [] env) Q E s) : wpAny (model prog w) A (execs [] env) Q E s := by
  w_top off
  first | (walk1; fail) | exact h
end Mine
end FlushK2
section PartK2
open PySem PySem.W PyProof.Rows PySem.Calls
namespace Mine
noncomputable def StopIt (P : Prop) : Prop := P
theorem StopIt.out {P : Prop} (h : StopIt P) : P := h
theorem strs_pick : ∀ (ys : List Value) (g : Nat → PySem.Str), (∀ i y, ys[i]? = some y → ∃ t : Tok, y = Value.str (g i) t) → ∃ l : List (PySem.Str × Tok), ys = strValues l ∧ l.map (·.1) = (List.range ys.length).map g
  | [], _, _ => ⟨[], rfl, rfl⟩
  | y :: ys, g, h => by
    obtain ⟨t, rfl⟩ := h 0 y rfl
    obtain ⟨l, e1, e2⟩ := strs_pick ys (fun i => g (i + 1)) (fun i y hy => h (i + 1) y hy)
    refine ⟨(g 0, t) :: l, by rw [e1]; rfl, ?_⟩
    rw [List.length_cons, List.range_succ_eq_map, List.map_cons, e2, List.map_cons, List.map_map]
    rfl
section
variable {prog : Program} {w : World} {A : Around} {E Q : Value → Shared → Prop} {s : Shared}
theorem join_gen {D : Addr} {ys : List Value} {g : Nat → PySem.Str} {t : Tok} {sep : PySem.Str} (hs : sep.cps = #[]) (hD : s.heap.IsList D ys.toArray) (hy : ∀ i y, ys[i]? = some y → ∃ t : Tok, y = Value.str (g i) t) (hB : ∀ i, (g i).length ≤ 1000) (hl : ys.length ≤ 1000)
    (h : ∀ t' k, Q (.str ⟨((List.range ys.length).flatMap fun i => (g i).cps.toList).toArray⟩ t') { s with toks := k }) :
    wpAny (model prog w) A (call (.builtin "str.join") [.str sep t, .ref D]) Q E s := by
  obtain ⟨l, e1, e2⟩ := strs_pick ys g hy
  have hlen : (List.range ys.length).length ≤ 1000 := by rw [List.length_range]; exact hl
  refine SC.join (l := l) (by rw [← e1]; exact hD) e2 ?_ fun t' k => ?_
  · unfold JoinOk
    rw [Bool.not_eq_true']
    refine StrLaws.joinFits (B := 1000) (fun y hy => ?_) ?_
    · obtain ⟨i, _, rfl⟩ := List.mem_map.mp hy
      exact hB i
    · rw [List.length_map]
      have : sep.length = 0 := by show sep.cps.size = 0; rw [hs]; rfl
      rw [this]
      omega
  · have e : (Txt.join sep ((List.range ys.length).map g) : PySem.Str) = ⟨((List.range ys.length).flatMap fun i => (g i).cps.toList).toArray⟩ := by
      rw [show (Txt.join sep ((List.range ys.length).map g) : PySem.Str) = PySem.Str.join sep ((List.range ys.length).map g) from StrLaws.glued_eq_join _ _, join_flat hs, List.map_map, List.flatMap_def]
      rfl
    rw [e]
    exact h t' k
end
end Mine

end PartK2

section FlushK3
open PySem PySem.W PyProof.Rows PySem.Calls
namespace Mine
theorem start_K3 {prog : Program} {w : World} {A : Around} {E : Value → Shared → Prop} {s : Shared} {env : Env} {Q : Flow → Shared → Prop} (h : wpAny (model prog w) A (execs [] env) Q E s) : wpAny (model prog w) A (execs [] env) Q E s := by
  w_top off
  first | (walk1; fail) | exact h
end Mine
end FlushK3
section PartK3
open PySem PySem.W PyProof.Rows PySem.Calls
namespace Mine
section
variable {prog : Program} {w : World} {A : Around} {E : Value → Shared → Prop} {s : Shared} {h₀ : Heap} {L : Addr} {m : Str → Option Value} {env : Env}
noncomputable def StrSrcU (prog : Program) (w : World) (A : Around) (h₀ : Heap) (L : Addr) (m : Str → Option Value) (env : Env) (elt : PySem.Expr) (x : Str) (scope : Scope) (cl : List (Str × Addr)) (Fin : Shared → List Value → List (Addr × Obj) → Prop) (xv : Value) (s₁ : Shared) : Prop :=
  ∃ (y : PySem.Str) (t : Tok) (news : List (Addr × Obj)), xv = .str y t ∧ A.handled = none ∧ Fr h₀ L s₁.heap m ∧ News h₀ L s₁.heap news ∧ y.cps.size ≤ sizeLine ∧
    ∀ s₂ : Shared, (∃ h, s₂ = { s₁ with heap := h }) → LCg.CompRest prog w A h₀ L m env elt x scope cl s₂ (fun _ => True) (SignAt y) (Fin s₂) y.cps.size 0 [] news
noncomputable def StrSrcT (prog : Program) (w : World) (A : Around) (h₀ : Heap) (L : Addr) (m : Str → Option Value) (env : Env) (ct elt : PySem.Expr) (x : Str) (scope : Scope) (cl : List (Str × Addr)) (Fin : Shared → List Value → List (Addr × Obj) → Prop) (xv : Value) (s₁ : Shared) : Prop :=
  ∃ (y : PySem.Str) (t : Tok) (news : List (Addr × Obj)), xv = .str y t ∧ A.handled = none ∧ Fr h₀ L s₁.heap m ∧ News h₀ L s₁.heap news ∧ y.cps.size ≤ sizeLine ∧
    ∀ s₂ : Shared, (∃ h, s₂ = { s₁ with heap := h }) → LCt.CompRestT prog w A h₀ L m env ct elt x scope cl s₂ (fun _ => True) (SignAt y) (Fin s₂) y.cps.size 0 [] news
theorem striter_at {h h' : Heap} {I : Addr} {T : String} {y : PySem.Str} {t : Tok} {i : Nat} {o : Obj} (x : h.IsStrIter I T y t i) (e : h.get? I = some o) (e' : h'.get? I = some o) : h'.IsStrIter I T y t i := by
  obtain ⟨o', q, r⟩ := x
  rw [e] at q
  cases q
  exact ⟨o, e', r⟩
theorem new_lt {h : Heap} {o : Obj} : ∀ b ∈ [h.objs.size], b < (h.push o).objs.size := fun b hb => by
  rw [List.mem_singleton.mp hb, Heap.size_push]
  exact Nat.lt_succ_self _
theorem comp_str_U {elt iter : PySem.Expr} {x : Str} {px : Pos} {scope : Scope} {cl : List (Str × Addr)} {pos : Pos} {Q : Value → Shared → Prop} (_F₀ : Fr h₀ L s.heap m)
    (hclos : closureFor scope env = pure cl) (hcell : ∀ y ∈ scope.names, y.2 ≠ .cell) (hkind : scope.kind = .function)
    (hnames : ∀ y ∈ scope.names, y.2 = .local → scope.names.lookup y.1 = some .local) (hx : scope.names.lookup x = some .local)
    (h : wpAny (model prog w) A (eval iter env) (StrSrcU prog w A h₀ L m env elt x scope cl (fun s₂ => LCg.FinE h₀ L m s₂ Q)) E s)
    (hs : ∀ x, foldedSetIterable iter env x = pure x := by intro _; rfl) :
    wpAny (model prog w) A (eval (.ListComp elt [⟨.Name x px, iter, [], 0⟩] scope pos) env) Q E s := by
  rw [eval_ListComp]
  refine wpAny_comprehension_free (use := none) rfl hs hclos hkind hnames (wpAny_mono h (fun xv s₁ h₁ => ?_) fun _ _ e => e)
  obtain ⟨y, t, news, rfl, hh, F, N, hsz, R⟩ := h₁
  cases ha : y.cps.all (· < 128)
  · refine wpAny_pyIter_wide ha ?_
    refine LCg.block_U (Walks.strWide hh _ y t) hsz (fun i h st => by obtain ⟨o, e, _⟩ := st; exact ⟨o, e⟩) (fun i h h' o nw st e e' _ _ _ => striter_at st e e') hcell hkind hx ⟨_, Heap.get?_push_size _ rfl, rfl, rfl⟩ new_lt
      (F.keeps fun _ _ e => Heap.get?_push_of_some _ e) (N.grown fun _ _ e => Heap.get?_push_of_some _ e) (Nat.ne_of_lt F.ns.lt) (next_is_new F) (fun p hp => Nat.ne_of_lt (Heap.lt_size (N p hp).1)) trivial (R _ ⟨_, rfl⟩) ?_
    intro D C h tk m' ys news' F' N' o1 hn hC₀ hD₀ hCL hDL hCD offC fin
    refine ⟨m', hn, fun h'' hs'' => fin D h'' tk (F'.change hs'' hCL hC₀) (fun p hp => ⟨hs''.extBut _ _ ?_ (N' p hp).1, (N' p hp).2⟩) o1⟩
    rcases List.mem_cons.mp hp with rfl | hp
    · exact Ne.symm hCD
    · exact offC p hp
  · refine wpAny_pyIter_ascii ha ?_
    refine LCg.block_U (Walks.strAscii hh _ y t) hsz (fun i h st => by obtain ⟨o, e, _⟩ := st; exact ⟨o, e⟩) (fun i h h' o nw st e e' _ _ _ => striter_at st e e') hcell hkind hx ⟨_, Heap.get?_push_size _ rfl, rfl, rfl⟩ new_lt
      (F.keeps fun _ _ e => Heap.get?_push_of_some _ e) (N.grown fun _ _ e => Heap.get?_push_of_some _ e) (Nat.ne_of_lt F.ns.lt) (next_is_new F) (fun p hp => Nat.ne_of_lt (Heap.lt_size (N p hp).1)) trivial (R _ ⟨_, rfl⟩) ?_
    intro D C h tk m' ys news' F' N' o1 hn hC₀ hD₀ hCL hDL hCD offC fin
    refine ⟨m', hn, fun h'' hs'' => fin D h'' tk (F'.change hs'' hCL hC₀) (fun p hp => ⟨hs''.extBut _ _ ?_ (N' p hp).1, (N' p hp).2⟩) o1⟩
    rcases List.mem_cons.mp hp with rfl | hp
    · exact Ne.symm hCD
    · exact offC p hp
theorem comp_str_T {ct elt iter : PySem.Expr} {x : Str} {px : Pos} {scope : Scope} {cl : List (Str × Addr)} {pos : Pos} {Q : Value → Shared → Prop} (_F₀ : Fr h₀ L s.heap m)
    (hclos : closureFor scope env = pure cl) (hcell : ∀ y ∈ scope.names, y.2 ≠ .cell) (hkind : scope.kind = .function)
    (hnames : ∀ y ∈ scope.names, y.2 = .local → scope.names.lookup y.1 = some .local) (hx : scope.names.lookup x = some .local)
    (h : wpAny (model prog w) A (eval iter env) (StrSrcT prog w A h₀ L m env ct elt x scope cl (fun s₂ => LCg.FinE h₀ L m s₂ Q)) E s)
    (hs : ∀ x, foldedSetIterable iter env x = pure x := by intro _; rfl) :
    wpAny (model prog w) A (eval (.ListComp elt [⟨.Name x px, iter, [ct], 0⟩] scope pos) env) Q E s := by
  rw [eval_ListComp]
  refine wpAny_comprehension_free (use := none) rfl hs hclos hkind hnames (wpAny_mono h (fun xv s₁ h₁ => ?_) fun _ _ e => e)
  obtain ⟨y, t, news, rfl, hh, F, N, hsz, R⟩ := h₁
  cases ha : y.cps.all (· < 128)
  · refine wpAny_pyIter_wide ha ?_
    refine LCt.block_T (Walks.strWide hh _ y t) hsz (fun i h st => by obtain ⟨o, e, _⟩ := st; exact ⟨o, e⟩) (fun i h h' o nw st e e' _ _ _ => striter_at st e e') hcell hkind hx ⟨_, Heap.get?_push_size _ rfl, rfl, rfl⟩ new_lt
      (F.keeps fun _ _ e => Heap.get?_push_of_some _ e) (N.grown fun _ _ e => Heap.get?_push_of_some _ e) (Nat.ne_of_lt F.ns.lt) (next_is_new F) (fun p hp => Nat.ne_of_lt (Heap.lt_size (N p hp).1)) trivial (R _ ⟨_, rfl⟩) ?_
    intro D C h tk m' ys news' F' N' o1 hn hC₀ hD₀ hCL hDL hCD offC fin
    refine ⟨m', hn, fun h'' hs'' => fin D h'' tk (F'.change hs'' hCL hC₀) (fun p hp => ⟨hs''.extBut _ _ ?_ (N' p hp).1, (N' p hp).2⟩) o1⟩
    rcases List.mem_cons.mp hp with rfl | hp
    · exact Ne.symm hCD
    · exact offC p hp
  · refine wpAny_pyIter_ascii ha ?_
    refine LCt.block_T (Walks.strAscii hh _ y t) hsz (fun i h st => by obtain ⟨o, e, _⟩ := st; exact ⟨o, e⟩) (fun i h h' o nw st e e' _ _ _ => striter_at st e e') hcell hkind hx ⟨_, Heap.get?_push_size _ rfl, rfl, rfl⟩ new_lt
      (F.keeps fun _ _ e => Heap.get?_push_of_some _ e) (N.grown fun _ _ e => Heap.get?_push_of_some _ e) (Nat.ne_of_lt F.ns.lt) (next_is_new F) (fun p hp => Nat.ne_of_lt (Heap.lt_size (N p hp).1)) trivial (R _ ⟨_, rfl⟩) ?_
    intro D C h tk m' ys news' F' N' o1 hn hC₀ hD₀ hCL hDL hCD offC fin
    refine ⟨m', hn, fun h'' hs'' => fin D h'' tk (F'.change hs'' hCL hC₀) (fun p hp => ⟨hs''.extBut _ _ ?_ (N' p hp).1, (N' p hp).2⟩) o1⟩
    rcases List.mem_cons.mp hp with rfl | hp
    · exact Ne.symm hCD
    · exact offC p hp
end
section
variable {prog : Program} {w : World} {A : Around} {h₀ : Heap} {L : Addr} {m : Str → Option Value} {env : Env} {ct elt : PySem.Expr} {x : Str} {scope : Scope} {cl : List (Str × Addr)} {s : Shared} {S : List (Addr × Obj) → Prop} {P : Nat → Value → Prop} {Fin : List Value → List (Addr × Obj) → Prop} {news : List (Addr × Obj)}
theorem comp_test {n : Nat} (K : Nat → List Value → Prop) (h0 : K 0 [])
    (turn : ∀ i v I oI C oC D m₂ ys h tk (E' : Value → Shared → Prop), i < n → P i v → K i ys → LCg.NsObj oC m₂ → m₂ x = some v → Fr h₀ L h m → News h₀ L h ((I, oI) :: (C, oC) :: (D, LCg.lst ys) :: news) → LCg.Off3 I C D news → ((@Ne Nat I C) ∧ (@Ne Nat I D) ∧ (@Ne Nat C D)) →
      wpAny (model prog w) A (isTrue ct (compEnvC scope cl C env) (eval ct (compEnvC scope cl C env))) (fun ok s' => if ok = true then
        wpAny (model prog w) A (eval elt (compEnvC scope cl C env)) (LCg.CompEnd h₀ L m { s with heap := h, toks := tk } I oI C oC D (LCg.lst ys) S (CompY (fun y => K (i + 1) (ys ++ [y])) news)) E' s'
        else LCg.CompEnd h₀ L m { s with heap := h, toks := tk } I oI C oC D (LCg.lst ys) S (CompY (fun _ => K (i + 1) ys) news) Value.none s') E' { s with heap := h, toks := tk })
    (fin : ∀ ys, K n ys → Fin ys news) : LCt.CompRestT prog w A h₀ L m env ct elt x scope cl s S P Fin n 0 [] news := by
  have key : ∀ (j i : Nat) (ys : List Value), i + j = n → K i ys → LCt.CompRestT prog w A h₀ L m env ct elt x scope cl s S P Fin j i ys news := by
    intro j
    induction j with
    | zero =>
      intro i ys hi hk
      have : i = n := by omega
      subst this
      exact LCt.CompRestT.zero (fin ys hk)
    | succ j ih =>
      intro i ys hi hk
      refine LCt.CompRestT.succ ?_
      intro v I oI C oC D m₂ h tk E' hv hC hx F N off ne
      refine wpAny_mono (turn i v I oI C oC D m₂ ys h tk E' (by omega) hv hk hC hx F N off ne) (fun ok s₂ hq => ?_) fun _ _ e => e
      cases ok with
      | true =>
        rw [if_pos rfl] at hq ⊢
        refine wpAny_mono hq (fun y s₃ hr => ?_) fun _ _ e => e
        obtain ⟨h', tk', nw, e, F', N', off', hS, hn, hy'⟩ := hr
        subst hn
        exact ⟨h', tk', nw, e, F', N', off', hS, ih (i + 1) _ (by omega) hy'⟩
      | false =>
        rw [if_neg Bool.false_ne_true] at hq ⊢
        obtain ⟨h', tk', nw, e, F', N', off', hS, hn, hy'⟩ := hq
        subst hn
        exact ⟨h', tk', nw, e, F', N', off', hS, ih (i + 1) _ (by omega) hy'⟩
  exact key n 0 [] (by omega) h0
end
end Mine

end PartK3

section FlushP1
open PySem PySem.W PyProof.Rows PySem.Calls
namespace Mine
theorem start_P1 {prog : Program} {w : World} {A : Around} {E : Value → Shared → Prop} {s : Shared} {env : Env} {Q : Flow → Shared → Prop} (h : wpAny (model prog w) A (execs [] env) Q E s) : wpAny (model prog w) A (execs [] env) Q E s := by
  w_top off
  first | (walk1; fail) | exact h
end Mine
end FlushP1
section PartP1
open PySem PySem.W PyProof.Rows PySem.Calls
namespace Mine
noncomputable def yHueB : List Stmt := fnBs (nth 0 (fB 24))
noncomputable def yHueP : Arguments := fnPs (nth 0 (fB 24))
noncomputable def yHueS : Scope := fnSs (nth 0 (fB 24))
noncomputable def hueB : List Stmt := (fun (o : List Stmt) (_ : yHueB = o) => o) _ (by dsimp only [yHueB, fB, fnBs, pw, PySem.Challenge.pw_ty0053_01, nth])
noncomputable def hueP : Arguments := (fun (o : Arguments) (_ : yHueP = o) => o) _ (by dsimp only [yHueP, fB, fnBs, fnPs, pw, PySem.Challenge.pw_ty0053_01, nth])
noncomputable def hueS : Scope := (fun (o : Scope) (_ : yHueS = o) => o) _ (by dsimp only [yHueS, fB, fnBs, fnSs, pw, PySem.Challenge.pw_ty0053_01, nth])
noncomputable def hueFn (qual : PySem.Str) (doc pm : Value) (c' : Addr) (ctv : Value) : Obj := fnMade (Str.ofString "hue_of") qual hueP hueB hueS [] doc pm c' ctv
noncomputable def RowIn (rs : List (Addr × (UInt64 × UInt64 × UInt64))) (news : List (Addr × Obj)) : Prop := ∀ r ∈ rs, ∃ k1 k2 k3, (r.1, tup3 r.2 k1 k2 k3) ∈ news
theorem item_tup3 {A : Around} {E : Value → Shared → Prop} {s : Shared} {h₀ : Heap} {L : Addr} {news : List (Addr × Obj)} {value slice : PySem.Expr} {xa : Addr} {c : UInt64 × UInt64 × UInt64} {k1 k2 k3 u : Tok} {k : Int} {v : Value} {Q : Value → Shared → Prop} {prog : Program} {w : World} (N : News h₀ L s.heap news)
    (hm : (xa, tup3 c k1 k2 k3) ∈ news) {j : Nat} (h0 : -(2 ^ 63) ≤ k ∧ k < 2 ^ 63) (hj : seqIndex? k 3 = some j) (hx : (#[Value.float c.1 k1, Value.float c.2.1 k2, Value.float c.2.2 k3] : Array Value)[j]? = some v) (h : Q v s)
    (hs : subscripted slice false (.ref xa) (.int k u) = operate [.ref xa, .int k u] (getItem (.ref xa) (.int k u)) := by with_unfolding_all rfl) (hg : ∀ r, letTemporaryGo value (.ref xa) r = pure () := by intro _; with_unfolding_all rfl) :
    wpAny (model prog w) A (subscriptTail value slice (.ref xa) (.int k u)) Q E s :=
  item_tuple (N.isTup hm) h0.1 h0.2 hj hx h hs hg
theorem kw_P1_1 : True := by
  k_with_none
  k_with "my_room" => ((try simp only [depth_under_make, depth_under_kw, depth_in1, depth_deeper, depth_caller]); (try dsimp only [ktrTop]); first | exact Mine.rm0 (by assumption) | exact Mine.rm1 (by assumption) (by exact rfl) | exact Mine.rm2 (by assumption) (by exact rfl) | exact Mine.rm2 (b := 40) (by assumption) (by exact rfl) | exact Mine.rm1 (b := 40) (by assumption) (by exact rfl) | exact Mine.rm2 (b := 50) (by assumption) (by exact rfl) | exact Mine.rm1 (b := 50) (by assumption) (by exact rfl) | fail "room")
  k_with "my_units" => ((try simp only [units_in1, units_deeper, Around.mark_units, units_caller]); (try dsimp only [ktrTop]); first | exact Mine.rm0 (by assumption) | exact Mine.rm1 (by assumption) (by exact rfl) | exact Mine.rm2 (by assumption) (by exact rfl) | exact Mine.rm2 (b := 140) (by assumption) (by exact rfl) | exact Mine.rm1 (b := 140) (by assumption) (by exact rfl) | exact Mine.rm2 (b := 180) (by assumption) (by exact rfl) | exact Mine.rm1 (b := 180) (by assumption) (by exact rfl) | fail "room")
  k_with "subscriptTail" => (k_here; k_dflt (refine' item_tup3 ?a ?b ?c ?d ?e ?_; (case a => k_asm); (case b => first | assumption | k_mem); (case c => decide); (case d => exact rfl); (case e => exact rfl); k_whole))
  k_with "call ref" => (k_here; k_dflt (refine' rgb_ctr (Site.mk (by k_asm) (by k_asm) (by k_asm) (by k_asm) (by k_asm) rfl (by ktr_room) (by ktr_units)) ?ok ?_ ?X; (case ok => assumption); (case X => k_asm); k_whole); intro _ _ _ _ _ _ _ _ _ _)
  exact True.intro
theorem hue_call0 {w : World} {p : Program} {loose : List PySem.Str} {mean : ExcName → Option Value} {mg mb : Str → Option Value} {q1 c1 xa : Addr} {qual : PySem.Str} {doc pm ctv : Value} {oc : Obj} {vs : Array Value} {t : Tok} {c : UInt64 × UInt64 × UInt64} {k1 k2 k3 : Tok}
    {dp un : Nat} {gd : Option (List Code)} {cn : Str} {cs : Scope} {L a : Addr} {ccd : Value} {cl : List (Str × Addr)} {outer : List Env} {A₀ : Around} {base h₀ : Heap} {m : Str → Option Value} {news : List (Addr × Obj)} {s : Shared} {Q E : Value → Shared → Prop} :
    (q1, hueFn qual doc pm c1 ctv) ∈ news → (c1, oc) ∈ news → oc.data = .fields vs → vs[1]? = some (.str qual t) → (xa, tup3 c k1 k2 k3) ∈ news → okRGB c.1 c.2.1 c.2.2 = true →
    Below A₀ base outer h₀ → Fr h₀ L s.heap m → (kF w.params).In h₀ → News h₀ L s.heap news → Top p loose mean mg mb h₀ → cs.kind = .function → dp + 24 < recursionLimit → un + 80 < cLine →
    (∀ t h' tk', t ≠ 0 → Fr h₀ L h' m → News h₀ L h' news → Q (.float (hsvF c.1 c.2.1 c.2.2).1 t) { s with heap := h', toks := tk' }) →
    wpAny (model rwl.prog w) (ktrTop dp un gd cn cs L a ccd cl outer) (call (.ref q1) [.ref xa]) Q E s := by
  k_fill
  intro n1 n2 hd hv n3 ok B F X N T hk hdp hun hret
  unfold hueFn hueP hueB hueS at n1
  dsimp only at n1
  refine wpAny_call ?_
  k_dflt (((refine' code_nest ?k1 ?k2 ?k3 ?k4 ?k5 ?kA ?kF ?kK ?k6 ?k7 ?k8 ?k9 ?kB ?_ ?c2 ?c3 ?c4 ?c5; (case kA => exact rfl); (case kF => exact rfl); (case kK => assumption); (case k1 => k_asm); (case k2 => k_asm); (case k3 => k_asm); (case k4 => k_asm); (case k5 => k_asm); (case k6 => assumption); (case k7 => exact codeRec_news (by k_asm) (by assumption) (by assumption) (by assumption)); (case k8 => ktr_room); (case k9 => exact BindsTo.of_eq rfl); (case c5 => decide); (case kB => exact locs rfl); (case c2 => exact rfl); (case c3 => exact rfl); (case c4 => exact rfl); k_whole; intro gB LB h' FG' F' N' B' X' T'; (try dsimp only); (try k_lift B'); (try k_fold))))
  k_steps
  rename News h₀ L _ (_ :: news) => NN
  exact hret _ _ _ (by assumption) (by assumption) (fun p hp => NN p (List.mem_cons_of_mem _ hp))
theorem hue_call {w : World} {p : Program} {loose : List PySem.Str} {mean : ExcName → Option Value} {mg mb : Str → Option Value} {q1 c1 xa : Addr} {qual : PySem.Str} {doc pm ctv : Value} {oc : Obj} {vs : Array Value} {t : Tok} {c : UInt64 × UInt64 × UInt64} {k1 k2 k3 : Tok}
    {dp un : Nat} {gd : Option (List Code)} {cn : Str} {cs : Scope} {L a : Addr} {ccd : Value} {cl : List (Str × Addr)} {outer : List Env} {A₀ : Around} {base h₀ : Heap} {m : Str → Option Value} {news : List (Addr × Obj)} {s : Shared} {Q E : Value → Shared → Prop} :
    (q1, hueFn qual doc pm c1 ctv) ∈ news → (c1, oc) ∈ news → oc.data = .fields vs → vs[1]? = some (.str qual t) → (xa, tup3 c k1 k2 k3) ∈ news → okRGB c.1 c.2.1 c.2.2 = true →
    Below A₀ base outer h₀ → Fr h₀ L s.heap m → (kF w.params).In h₀ → News h₀ L s.heap news → Top p loose mean mg mb h₀ → cs.kind = .function → dp + 24 < recursionLimit → un + 80 < cLine →
    (∀ t h' tk', Fr h₀ L h' m → News h₀ L h' news → Q (.float (hsvF c.1 c.2.1 c.2.2).1 t) { s with heap := h', toks := tk' }) →
    wpAny (model rwl.prog w) (ktrTop dp un gd cn cs L a ccd cl outer) (call (.ref q1) [.ref xa]) Q E s := fun n1 n2 hd hv n3 ok B F X N T hk hdp hun hret =>
  hue_call0 n1 n2 hd hv n3 ok B F X N T hk hdp hun (fun t h' tk' _ F' N' => hret t h' tk' F' N')
theorem hue_ctr {w : World} {p : Program} {loose : List PySem.Str} {mean : ExcName → Option Value} {mg mb : Str → Option Value} {q1 c1 xa : Addr} {qual : PySem.Str} {doc pm ctv : Value} {oc : Obj} {vs : Array Value} {t : Tok} {c : UInt64 × UInt64 × UInt64} {k1 k2 k3 : Tok}
    (hd : oc.data = .fields vs) (hv : vs[1]? = some (.str qual t)) (ok : okRGB c.1 c.2.1 c.2.2 = true) :
    KeyCtr w p loose mean mg mb q1 (fun news => (q1, hueFn qual doc pm c1 ctv) ∈ news ∧ (c1, oc) ∈ news ∧ (xa, tup3 c k1 k2 k3) ∈ news) (.ref xa) (hsvF c.1 c.2.1 c.2.2).1 := by
  intro dp un gd cn cs L a ccd cl outer A₀ base h₀ m news s Q E B F X N T hk hn hdp hun hret
  exact hue_call hn.1 hn.2.1 hd hv hn.2.2 ok B F X N T hk (by omega) (by omega) hret
end Mine

end PartP1

section FlushP2
open PySem PySem.W PyProof.Rows PySem.Calls
namespace Mine
theorem start_P2 {prog : Program} {w : World} {A : Around} {E : Value → Shared → Prop} {s : Shared} {env : Env} {Q : Flow → Shared → Prop} (h : wpAny (model prog w) A (execs [] env) Q E s) : wpAny (model prog w) A (execs [] env) Q E s := by
  w_top off
  first | (walk1; fail) | exact h
end Mine
end FlushP2
section PartP2
open PySem PySem.W PyProof.Rows PySem.Calls
namespace Mine
noncomputable def forBody : Stmt → List Stmt | .For _ _ b _ _ => b | _ => []
noncomputable def ifBody : Stmt → List Stmt | .If _ b _ _ => b | _ => []
noncomputable def asgV : Stmt → PySem.Expr | .Assign _ v _ => v | _ => .Constant .none 0 default
noncomputable def binL : PySem.Expr → PySem.Expr | .BinOp l _ _ _ => l | e => e
noncomputable def kwV : PySem.Expr → PySem.Expr | .Call _ _ (k :: _) _ => k.value | e => e
noncomputable def lamP : PySem.Expr → Arguments | .Lambda p _ _ _ => p | _ => { posonlyargs := [], args := [], vararg := none, kwonlyargs := [], kw_defaults := [], kwarg := none, defaults := [] }
noncomputable def lamB : PySem.Expr → PySem.Expr | .Lambda _ b _ _ => b | e => e
noncomputable def lamS : PySem.Expr → Scope | .Lambda _ _ s _ => s | _ => { kind := .module, names := [], isGenerator := false, isCoroutine := false, more := [] }
noncomputable def yL1 : PySem.Expr := kwV (asgV (nth 5 (forBody (nth 3 (fB 24)))))
noncomputable def yL2 : PySem.Expr := kwV (binL (asgV (nth 0 (ifBody (nth 7 (forBody (nth 3 (fB 24))))))))
noncomputable def eL1 : PySem.Expr := (fun (o : PySem.Expr) (_ : yL1 = o) => o) _ (by dsimp only [yL1, fB, fnBs, pw, PySem.Challenge.pw_ty0053_01, nth, forBody, ifBody, asgV, binL, kwV])
noncomputable def eL2 : PySem.Expr := (fun (o : PySem.Expr) (_ : yL2 = o) => o) _ (by dsimp only [yL2, fB, fnBs, pw, PySem.Challenge.pw_ty0053_01, nth, forBody, ifBody, asgV, binL, kwV])
noncomputable def lamFn (e : PySem.Expr) (qual : PySem.Str) (clos : List (Str × Addr)) (pm : Value) (c' : Addr) (ctv : Value) : Obj := kla_obj (Str.ofString "<lambda>") qual (lamP e) (lamB e) (lamS e) clos pm c' ctv
theorem free_led {M : Model} {A : Around} {E : Value → Shared → Prop} {s : Shared} {h₀ : Heap} {L L' c f : Addr} {cd : Value} {qual : PySem.Str} {news : List (Addr × Obj)} {scope : Scope} {cl : List (Str × Addr)} {x : Str} {pos : Pos} {v : Value} {o : Obj} {Q : Value → Shared → Prop}
    (N : News h₀ L s.heap news) (hc : cl.lookup x = some c) (hm : (c, o) ∈ news) (hd : o.data = .cell (some v)) (h : Q v s)
    (hk : scope.kind = .function) (hx : (envX qual scope L' f cd cl).kindOf x = some .free) (hb : (x == ("__debug__" : Str)) = false := by decide) (hn : (x == ("__classdict__" : Str)) = false := by decide) :
    wpAny M A (eval (.Name x pos) (envX qual scope L' f cd cl)) Q E s := wpAny_Name (wpAny_loadName_free hk hx hc ⟨o, N.get hm, hd⟩ h hn) hb
theorem kw_P2_1 : True := by
  k_with_none
  k_with "my_room" => ((try simp only [depth_under_make, depth_under_kw, depth_in1, depth_deeper, depth_caller]); (try dsimp only [ktrTop]); first | exact Mine.rm0 (by assumption) | exact Mine.rm1 (by assumption) (by exact rfl) | exact Mine.rm2 (by assumption) (by exact rfl) | exact Mine.rm2 (b := 40) (by assumption) (by exact rfl) | exact Mine.rm1 (b := 40) (by assumption) (by exact rfl) | exact Mine.rm2 (b := 50) (by assumption) (by exact rfl) | exact Mine.rm1 (b := 50) (by assumption) (by exact rfl) | fail "room")
  k_with "my_units" => ((try simp only [units_in1, units_deeper, Around.mark_units, units_caller]); (try dsimp only [ktrTop]); first | exact Mine.rm0 (by assumption) | exact Mine.rm1 (by assumption) (by exact rfl) | exact Mine.rm2 (by assumption) (by exact rfl) | exact Mine.rm2 (b := 140) (by assumption) (by exact rfl) | exact Mine.rm1 (b := 140) (by assumption) (by exact rfl) | exact Mine.rm2 (b := 180) (by assumption) (by exact rfl) | exact Mine.rm1 (b := 180) (by assumption) (by exact rfl) | fail "room")
  k_with "eval Name" => (k_here; k_dflt (refine' free_led ?N ?c ?m ?d ?_ ?k ?x; (case N => k_asm); (case c => rfl); (case m => assumption); (case d => assumption); (case k => rfl); (case x => rfl); k_whole))
  k_with "FnAt" => (k_dflt (exact FnAt.of (by k_asm) (by assumption)))
  k_with "callWith ref" => (k_here; k_dflt (refine' callWith_F ?k1 ?_; (case k1 => exact FnAt.of (by k_asm) (by assumption)); k_whole))
  exact True.intro
theorem item_row {prog : Program} {w : World} {A : Around} {E : Value → Shared → Prop} {s : Shared} {h₀ : Heap} {L : Addr} {news : List (Addr × Obj)} {value slice : PySem.Expr} {ra : Addr} {rs : List (Addr × (UInt64 × UInt64 × UInt64))} {r : Addr × (UInt64 × UInt64 × UInt64)} {kk k : Nat} {u : Tok} {Q : Value → Shared → Prop} (N : News h₀ L s.heap news) (hm : (ra, listOf (rs.map fun r => Value.ref r.1).toArray kk) ∈ news)
    (hz : rs.length < 1000) (hr : rs[k]? = some r) (h : Q (.ref r.1) s)
    (hs : subscripted slice false (.ref ra) (.int k u) = operate [.ref ra, .int k u] (getItem (.ref ra) (.int k u)) := by with_unfolding_all rfl) (hg : ∀ r, letTemporaryGo value (.ref ra) r = pure () := by intro _; with_unfolding_all rfl) :
    wpAny (model prog w) A (subscriptTail value slice (.ref ra) (.int k u)) Q E s := by
  have hk : k < rs.length := (List.getElem?_eq_some_iff.mp hr).1
  refine item_list (led_list N hm) (Int.natCast_nonneg _) (by omega) (x := .ref r.1) ?_ h hs hg
  rw [List.getElem?_toArray, List.getElem?_map, Int.toNat_natCast, hr]
  rfl
theorem row_item {rs : List (Addr × (UInt64 × UInt64 × UInt64))} {i : Nat} {v : Value} (h : (rs.map fun r => Value.ref r.1).toArray[i]? = some v) : ∃ r, rs[i]? = some r ∧ v = .ref r.1 := by
  rw [List.getElem?_toArray, List.getElem?_map] at h
  cases e : rs[i]? with
  | none => rw [e] at h; cases h
  | some r => rw [e] at h; cases h; exact ⟨r, rfl, rfl⟩
noncomputable def lamNeed (e : PySem.Expr) (q2 c2 q1 c1 ra cH cR : Addr) (kk : Nat) (rs : List (Addr × (UInt64 × UInt64 × UInt64))) (qual1 qual2 : PySem.Str) (doc1 pm1 ctv1 pm2 ctv2 : Value) (oc1 oc2 oH oR : Obj) (news : List (Addr × Obj)) : Prop :=
  (q2, lamFn e qual2 [(Str.ofString "row", cR), (Str.ofString "hue_of", cH)] pm2 c2 ctv2) ∈ news ∧ (c2, oc2) ∈ news ∧ (q1, hueFn qual1 doc1 pm1 c1 ctv1) ∈ news ∧ (c1, oc1) ∈ news ∧ (cH, oH) ∈ news ∧ (cR, oR) ∈ news ∧ (ra, listOf (rs.map fun r => Value.ref r.1).toArray kk) ∈ news ∧ RowIn rs news
theorem kw_P2_2 : True := by
  k_with "subscriptTail" => (k_here; (with_reducible show wpAny _ _ (subscriptTail _ _ (Value.ref _) (Value.int _ _)) _ _ _); k_dflt (refine' item_row ?a ?b ?c ?d ?_; (case a => k_asm); (case b => assumption); (case c => assumption); (case d => assumption); k_whole))
  k_with "call ref" => (k_here; k_dflt (refine' hue_call ?a ?b ?c ?d ?e ?f ?B ?F ?X ?N ?T ?k ?dp ?u ?_; (case a => assumption); (case b => assumption); (case c => assumption); (case d => assumption); (case e => assumption); (case f => assumption); (case B => k_asm); (case F => k_asm); (case X => k_asm); (case N => k_asm); (case T => k_asm); (case k => rfl); (case dp => ktr_room); (case u => ktr_units); k_whole); intro _ _ _ _ _)
  exact True.intro
noncomputable def eighthF (k : Int) : UInt64 := Float64.ofFrac (decide (k < 0) != decide ((8 : Int) < 0)) k.natAbs (Int.natAbs 8)
theorem eighth_all : ∀ k : Fin 64, Float64.isInf (eighthF (k.val : Int)) = false := by decide +kernel
theorem eighth_fin {k : Nat} (h : k < 64) : Float64.isInf (eighthF (k : Int)) = false := eighth_all ⟨k, h⟩
theorem lam1_ctr {w : World} {p : Program} {loose : List PySem.Str} {mean : ExcName → Option Value} {mg mb : Str → Option Value} {q2 c2 q1 c1 ra cH cR : Addr} {kk : Nat} {rs : List (Addr × (UInt64 × UInt64 × UInt64))} {qual1 qual2 : PySem.Str} {doc1 pm1 ctv1 pm2 ctv2 : Value} {oc1 oc2 oH oR : Obj} {vs1 vs2 : Array Value} {t1 t2 tk : Tok} {k : Nat} {r : Addr × (UInt64 × UInt64 × UInt64)}
    (hd1 : oc1.data = .fields vs1) (hv1 : vs1[1]? = some (.str qual1 t1)) (hd2 : oc2.data = .fields vs2) (hv2 : vs2[1]? = some (.str qual2 t2)) (hH : oH.data = .cell (some (.ref q1))) (hR : oR.data = .cell (some (.ref ra)))
    (hl : rs.length < 64) (hr : rs[k]? = some r) (ok : okRGB r.2.1 r.2.2.1 r.2.2.2 = true) :
    KeyCtr w p loose mean mg mb q2 (lamNeed eL1 q2 c2 q1 c1 ra cH cR kk rs qual1 qual2 doc1 pm1 ctv1 pm2 ctv2 oc1 oc2 oH oR) (.int k tk) (Float64.sub (hsvF r.2.1 r.2.2.1 r.2.2.2).1 (eighthF k)) := by
  have hz : rs.length < 1000 := by omega
  have hfin : Float64.isInf (eighthF (k : Int)) = false := eighth_fin (Nat.lt_trans (List.getElem?_eq_some_iff.mp hr).1 hl)
  unfold eighthF at hfin ⊢
  unfold KeyCtr
  k_fill
  intro dp un gd cn cs L a ccd cl outer A₀ base h₀ m news s Q E B F X N T hk hn hdp hun hret
  obtain ⟨n1, n2, n3, n4, n5, n6, n7, n8⟩ := hn
  obtain ⟨k1, k2, k3, n9⟩ := n8 r (List.mem_of_getElem? hr)
  unfold lamFn eL1 lamP lamB lamS at n1
  dsimp only at n1
  refine wpAny_call ?_
  k_dflt (((refine' kla_code ?k1 ?k2 ?k3 ?k4 ?k5 ?kA ?kF ?kK ?k6 ?k7 ?k8 ?k9 ?kB ?_ ?c2 ?c3 ?c4 ?c5; (case kA => exact rfl); (case kF => exact rfl); (case kK => assumption); (case k1 => k_asm); (case k2 => k_asm); (case k3 => k_asm); (case k4 => k_asm); (case k5 => k_asm); (case k6 => assumption); (case k7 => exact codeRec_news (by k_asm) (by assumption) (by assumption) (by assumption)); (case k8 => ktr_room); (case k9 => exact rfl); (case c5 => decide); (case kB => exact locs rfl); (case c2 => exact rfl); (case c3 => exact rfl); (case c4 => exact rfl); k_whole; intro gB LB h' FG' F' N' B' X' T'; (try dsimp only); (try k_lift B'); (try k_fold))))
  k_steps
  all_goals first
    | (exfalso; simp_all; done)
    | exact hret _ _ _ (by assumption) (by assumption)
theorem lam2_ctr {w : World} {p : Program} {loose : List PySem.Str} {mean : ExcName → Option Value} {mg mb : Str → Option Value} {q2 c2 q1 c1 ra cH cR : Addr} {kk : Nat} {rs : List (Addr × (UInt64 × UInt64 × UInt64))} {qual1 qual2 : PySem.Str} {doc1 pm1 ctv1 pm2 ctv2 : Value} {oc1 oc2 oH oR : Obj} {vs1 vs2 : Array Value} {t1 t2 tk : Tok} {k : Nat} {r : Addr × (UInt64 × UInt64 × UInt64)}
    (hd1 : oc1.data = .fields vs1) (hv1 : vs1[1]? = some (.str qual1 t1)) (hd2 : oc2.data = .fields vs2) (hv2 : vs2[1]? = some (.str qual2 t2)) (hH : oH.data = .cell (some (.ref q1))) (hR : oR.data = .cell (some (.ref ra)))
    (hl : rs.length < 64) (hr : rs[k]? = some r) (ok : okRGB r.2.1 r.2.2.1 r.2.2.2 = true) :
    KeyCtr w p loose mean mg mb q2 (lamNeed eL2 q2 c2 q1 c1 ra cH cR kk rs qual1 qual2 doc1 pm1 ctv1 pm2 ctv2 oc1 oc2 oH oR) (.int k tk) (Float64.sub (hsvF r.2.1 r.2.2.1 r.2.2.2).1 (eighthF k)) := by
  have hz : rs.length < 1000 := by omega
  have hfin : Float64.isInf (eighthF (k : Int)) = false := eighth_fin (Nat.lt_trans (List.getElem?_eq_some_iff.mp hr).1 hl)
  unfold eighthF at hfin ⊢
  unfold KeyCtr
  k_fill
  intro dp un gd cn cs L a ccd cl outer A₀ base h₀ m news s Q E B F X N T hk hn hdp hun hret
  obtain ⟨n1, n2, n3, n4, n5, n6, n7, n8⟩ := hn
  obtain ⟨k1, k2, k3, n9⟩ := n8 r (List.mem_of_getElem? hr)
  unfold lamFn eL2 lamP lamB lamS at n1
  dsimp only at n1
  refine wpAny_call ?_
  k_dflt (((refine' kla_code ?k1 ?k2 ?k3 ?k4 ?k5 ?kA ?kF ?kK ?k6 ?k7 ?k8 ?k9 ?kB ?_ ?c2 ?c3 ?c4 ?c5; (case kA => exact rfl); (case kF => exact rfl); (case kK => assumption); (case k1 => k_asm); (case k2 => k_asm); (case k3 => k_asm); (case k4 => k_asm); (case k5 => k_asm); (case k6 => assumption); (case k7 => exact codeRec_news (by k_asm) (by assumption) (by assumption) (by assumption)); (case k8 => ktr_room); (case k9 => exact rfl); (case c5 => decide); (case kB => exact locs rfl); (case c2 => exact rfl); (case c3 => exact rfl); (case c4 => exact rfl); k_whole; intro gB LB h' FG' F' N' B' X' T'; (try dsimp only); (try k_lift B'); (try k_fold))))
  k_steps
  all_goals first
    | (exfalso; simp_all; done)
    | exact hret _ _ _ (by assumption) (by assumption)
end Mine

end PartP2

section FlushF1
open PySem PySem.W PyProof.Rows PySem.Calls
namespace Mine
theorem start_F1 {prog : Program} {w : World} {A : Around} {E : Value → Shared → Prop} {s : Shared} {env : Env} {Q : Flow → Shared → Prop} (h : wpAny (model prog w) A (execs [] env) Q E s) : wpAny (model prog w) A (execs [] env) Q E s := by
  w_top off
  first | (walk1; fail) | exact h
end Mine
end FlushF1
section PartF1
open PySem PySem.W PyProof.Rows PySem.Calls
namespace Mine
section
variable {prog : Program} {w : World} {A : Around} {E : Value → Shared → Prop} {s : Shared} {env : Env} {target : PySem.Expr} {body : List Stmt} {Q : Flow → Shared → Prop} {h₀ : Heap} {L : Addr}
noncomputable def ForNext (h₀ : Heap) (L I : Addr) (oI : Obj) (J : Nat → (Str → Option Value) → List (Addr × Obj) → Prop) (s : Shared) (i : Nat) (s₃ : Shared) : Prop :=
  ∃ h tk mm news', s₃ = { s with heap := h, toks := tk } ∧ Fr h₀ L h mm ∧ News h₀ L h ((I, oI) :: news') ∧ (∀ p ∈ news', p.1 ≠ I) ∧ J (i + 1) mm news'
theorem ForNext.mk {h₀ : Heap} {L I : Addr} {oI : Obj} {J : Nat → (Str → Option Value) → List (Addr × Obj) → Prop} {s : Shared} {i : Nat} {h : Heap} {tk : Nat} {mm : Str → Option Value} (news' : List (Addr × Obj))
    (F : Fr h₀ L h mm) (N : News h₀ L h ((I, oI) :: news')) (off : ∀ p ∈ news', p.1 ≠ I) (j : J (i + 1) mm news') : ForNext h₀ L I oI J s i { s with heap := h, toks := tk } := ⟨h, tk, mm, news', rfl, F, N, off, j⟩
noncomputable def ForEnd (h₀ : Heap) (L I : Addr) (oI : Obj) (J : Nat → (Str → Option Value) → List (Addr × Obj) → Prop) (s : Shared) (Q : Flow → Shared → Prop) (i : Nat) (f : Flow) (s₃ : Shared) : Prop :=
  match f with
  | .next => ForNext h₀ L I oI J s i s₃
  | .cont => ForNext h₀ L I oI J s i s₃
  | .brk => Q .next s₃
  | .ret v => Q (.ret v) s₃
inductive ForI (h₀ : Heap) (L I : Addr) (n : Nat) (St : Nat → Heap → Prop) (J : Nat → (Str → Option Value) → List (Addr × Obj) → Prop) (s : Shared) : Nat → Shared → Prop
  | mk (h' : Heap) (tk i : Nat) (mm : Str → Option Value) (nw : List (Addr × Obj)) (hi : i ≤ n) (hst : St i h') (F : Fr h₀ L h' mm) (N : News h₀ L h' nw) (off : ∀ p ∈ nw, p.1 ≠ I) (j : J i mm nw) : ForI h₀ L I n St J s (n + 1 - i) { s with heap := h', toks := tk }
theorem for_down {n i : Nat} (h : i < n) : n + 1 - (i + 1) < n + 1 - i := by omega
theorem for_led {I : Addr} {fp : List Addr} {n : Nat} {P : Nat → Value → Prop} {St : Nat → Heap → Prop} {S : List (Addr × Obj) → Prop} (J : Nat → (Str → Option Value) → List (Addr × Obj) → Prop) {m : Str → Option Value} {news : List (Addr × Obj)}
    (W : Walks prog w A I fp [I] n P St) (hIo : ∀ i h, St i h → ∃ o, h.get? I = some o)
    (hSt : ∀ i h h' o nw, St i h → h.get? I = some o → h'.get? I = some o → (∀ b o, h₀.get? b = some o → h'.get? b = some o) → News h₀ L h' nw → S nw → St i h')
    (hJS : ∀ i m news, J i m news → S news) (hL : env.locals = L) (hE : PassesOwn (model prog w) A env E)
    (hgo : ∀ v, letOwnedTupleGo target (.ref I) v = pure ())
    (hst : St 0 s.heap) (F : Fr h₀ L s.heap m) (N : News h₀ L s.heap news) (hIL : L ≠ I) (hI₀ : h₀.get? I = none) (off : ∀ p ∈ news, p.1 ≠ I) (h0 : J 0 m news)
    (turn : ∀ i v oI mm nw h tk, i < n → P i v → J i mm nw → (∀ p ∈ nw, p.1 ≠ I) → Fr h₀ L h mm → News h₀ L h ((I, oI) :: nw) →
      wpAny (model prog w) A (assign target env v) (fun _ s₂ => wpAny (model prog w) A (execs body env) (ForEnd h₀ L I oI J { s with heap := h, toks := tk } Q i) E s₂) E { s with heap := h, toks := tk })
    (fin : ∀ mm nw h tk, J n mm nw → Fr h₀ L h mm → News h₀ L h nw → Q .next { s with heap := h, toks := tk }) :
    codeAny (model prog w) A (.forLoop target (.ref I) body [] env) (fun r s' => match r with | .ok f => Q f s' | .error e => cameBackBy (model prog w) A env E e s') s := by
  refine codeAny_forLoop_any (ForI h₀ L I n St J s) ?_ (n + 1) (.mk s.heap s.toks 0 m news (Nat.zero_le _) hst F N off h0)
  rintro _ _ ⟨h', tk, i, mm, nw, hi, hst', F', N', off', hJ⟩
  by_cases hlt : i < n
  · refine W.item i _ _ _ hlt hst' fun v h₂ tk₂ hPv hst₂ hk₂ => ?_
    obtain ⟨oI, heI⟩ := hIo _ _ hst₂
    have F₂ : Fr h₀ L h₂ mm := LCg.fr_but F' hk₂ hIL hI₀
    have N₂ : News h₀ L h₂ nw := LCg.news_but N' hk₂ off'
    have N₃ : News h₀ L h₂ ((I, oI) :: nw) := fun p hp => by
      rcases List.mem_cons.mp hp with rfl | hp
      · exact ⟨heI, Ne.symm hIL, hI₀⟩
      · exact N₂ p hp
    refine wpAny_of_eq (hgo v) ?_
    refine wpAny_mono (turn i v oI mm nw h₂ tk₂ hlt hPv hJ off' F₂ N₃) (fun _ s₂ h₂' => wpAny_mono h₂' (fun f s₃ h₃ => ?_) hE) hE
    have go : ForNext h₀ L I oI J { s with heap := h₂, toks := tk₂ } i s₃ → ∃ k, k < n + 1 - i ∧ ForI h₀ L I n St J s k s₃ := by
      rintro ⟨h₄, tk₄, mm₄, nw₄, rfl, F₄, N₄, off₄, hJ₄⟩
      exact ⟨_, for_down hlt, .mk h₄ tk₄ (i + 1) mm₄ nw₄ hlt (hSt _ _ _ _ _ hst₂ heI (N₄ _ List.mem_cons_self).1 F₄.keep (fun p hp => N₄ p (List.mem_cons_of_mem _ hp)) (hJS _ _ _ hJ₄)) F₄ (fun p hp => N₄ p (List.mem_cons_of_mem _ hp)) off₄ hJ₄⟩
    cases f with
    | ret v => exact h₃
    | brk => exact h₃
    | cont => exact go h₃
    | next => exact go h₃
  · obtain rfl : i = n := Nat.le_antisymm hi (Nat.not_lt.mp hlt)
    refine W.done _ _ _ hst' fun h₂ tk₂ hk₂ => wpAny_execs_nil ?_
    exact fin mm nw h₂ tk₂ hJ (LCg.fr_but F' hk₂ hIL hI₀) (LCg.news_but N' hk₂ off')
noncomputable def ForSrc (prog : Program) (w : World) (A : Around) (E : Value → Shared → Prop) (env : Env) (target : PySem.Expr) (body : List Stmt) (Q : Flow → Shared → Prop) (xv : Value) (s₁ : Shared) : Prop :=
  wpAny (model prog w) A (pyIter xv) (fun it s₂ => codeAny (model prog w) A (.forLoop target it body [] env) (fun r s' => match r with | .ok f => Q f s' | .error e => cameBackBy (model prog w) A env E e s') s₂) E s₁
theorem for_start {iter : PySem.Expr} {pos : Pos} (h : wpAny (model prog w) A (eval iter env) (ForSrc prog w A E env target body Q) E s)
    (hs : ∀ x, foldedSetIterable iter env x = pure x := by intro _; rfl) : wpAny (model prog w) A (exec (.For target iter body [] pos) env) Q E s := wpAny_For h hs
theorem for_range {r : Addr} {a b : Int} {t u v : Tok} {n : Nat} (J : Nat → (Str → Option Value) → List (Addr × Obj) → Prop) {m : Str → Option Value} {news : List (Addr × Obj)}
    (hh : A.handled = none) (hr : IsRange s.heap r a b 1 t u v) (hsm : Builtin.Range.small a b 1 = true) (hn : Builtin.Range.rangeSize a b 1 = ((n : Nat) : Int)) (hL : env.locals = L) (hE : PassesOwn (model prog w) A env E)
    (hgo : ∀ I v, letOwnedTupleGo target (.ref I) v = pure ()) (F : Fr h₀ L s.heap m) (N : News h₀ L s.heap news) (h0 : J 0 m news)
    (turn : ∀ I i t oI mm nw h tk, i < n → J i mm nw → (∀ p ∈ nw, p.1 ≠ I) → Fr h₀ L h mm → News h₀ L h ((I, oI) :: nw) →
      wpAny (model prog w) A (assign target env (.int (a + (i : Int)) t)) (fun _ s₂ => wpAny (model prog w) A (execs body env) (ForEnd h₀ L I oI J { s with heap := h, toks := tk } Q i) E s₂) E { s with heap := h, toks := tk })
    (fin : ∀ mm nw h tk, J n mm nw → Fr h₀ L h mm → News h₀ L h nw → Q .next { s with heap := h, toks := tk }) :
    ForSrc prog w A E env target body Q (.ref r) s := by
  refine wpAny_pyIter_range hr hsm ?_
  refine for_led (S := fun _ => True) J (LCg.range_walks hh a n) (fun i h st => ⟨_, st⟩) LCg.range_st (fun _ _ _ _ => trivial) hL hE (fun v => hgo _ v) (by show IsRangeIter _ _ _ _ _; rw [hn]; simpa using Heap.get?_push_size _ rfl)
    (F.keeps fun _ _ e => Heap.get?_push_of_some _ e) (N.grown fun _ _ e => Heap.get?_push_of_some _ e) (Nat.ne_of_lt F.ns.lt) (next_is_new F) (fun p hp => Nat.ne_of_lt (Heap.lt_size (N p hp).1)) h0 ?_ fin
  intro i v oI mm nw h tk hi hP hJ off F' N'
  obtain ⟨t, rfl⟩ := hP
  exact turn _ i t oI mm nw h tk hi hJ off F' N'
theorem for_list {ax : Addr} {its : Array Value} (J : Nat → (Str → Option Value) → List (Addr × Obj) → Prop) {m : Str → Option Value} {news : List (Addr × Obj)}
    (hh : A.handled = none) (hS : ∀ i m nw, J i m nw → LCg.SrcAt h₀ ax its nw) (hL : env.locals = L) (hE : PassesOwn (model prog w) A env E)
    (hgo : ∀ I v, letOwnedTupleGo target (.ref I) v = pure ()) (F : Fr h₀ L s.heap m) (N : News h₀ L s.heap news) (h0 : J 0 m news)
    (turn : ∀ I i v oI mm nw h tk, i < its.size → its[i]? = some v → J i mm nw → (∀ p ∈ nw, p.1 ≠ I) → Fr h₀ L h mm → News h₀ L h ((I, oI) :: nw) →
      wpAny (model prog w) A (assign target env v) (fun _ s₂ => wpAny (model prog w) A (execs body env) (ForEnd h₀ L I oI J { s with heap := h, toks := tk } Q i) E s₂) E { s with heap := h, toks := tk })
    (fin : ∀ mm nw h tk, J its.size mm nw → Fr h₀ L h mm → News h₀ L h nw → Q .next { s with heap := h, toks := tk }) :
    ForSrc prog w A E env target body Q (.ref ax) s := by
  have hl := (hS _ _ _ h0).list F.keep N
  have hlt : ax < s.heap.objs.size := by obtain ⟨_, e, _⟩ := hl; exact Heap.lt_size e
  refine wpAny_pyIter_list hl ?_
  have up : ∀ b o, s.heap.get? b = some o → (s.heap.push { cls := .type "list_iterator", data := .fields #[.ref ax, .int 0 0] }).get? b = some o := fun b o e => Heap.get?_push_of_some _ e
  refine for_led (S := LCg.SrcAt h₀ ax its) J (Walks.list hh s.heap.objs.size ax (Nat.ne_of_lt hlt) its) (fun i h st => by obtain ⟨o, e, _⟩ := st.1; exact ⟨o, e⟩) LCg.list_st hS hL hE (fun v => hgo _ v) ⟨⟨_, Heap.get?_push_size _ rfl, rfl, rfl⟩, hl.push _⟩
    (F.keeps up) (N.grown up) (Nat.ne_of_lt F.ns.lt) (next_is_new F) (fun p hp => Nat.ne_of_lt (Heap.lt_size (N p hp).1)) h0 ?_ fin
  intro i v oI mm nw h tk hi hP hJ off F' N'
  exact turn _ i v oI mm nw h tk hi hP hJ off F' N'
end
end Mine

end PartF1

section FlushS1
open PySem PySem.W PyProof.Rows PySem.Calls
namespace Mine
theorem start_S1 {prog : Program} {w : World} {A : Around} {E : Value → Shared → Prop} {s : Shared} {env : Env} {Q : Flow → Shared → Prop} (h : wpAny (model prog w) A (execs [] env) Q E s) : wpAny (model prog w) A (execs [] env) Q E s := by
  w_top off
  first | (walk1; fail) | exact h
end Mine
end FlushS1
section PartS1
open PySem PySem.W PyProof.Rows PySem.Calls
namespace Mine
noncomputable def sweepHere (c : Nat → Int) (k : Nat) (st : List Int × Int × Int) : Int := st.2.2 + c ((0 + (k : Int)).fmod 8).toNat
noncomputable def sweepOver (c : Nat → Int) (k : Nat) (st : List Int × Int × Int) : Int := if 0 > sweepHere c k st - 1 then 0 else sweepHere c k st - 1
noncomputable def sweepStep (c : Nat → Int) (k : Nat) (st : List Int × Int × Int) : List Int × Int × Int :=
  if 8 ≤ 0 + (k : Int) then ((if sweepHere c k st = 0 then st.1 ++ [0 + (k : Int) - 8] else st.1), st.2.1 + sweepOver c k st, sweepOver c k st) else (st.1, st.2.1, sweepOver c k st)
noncomputable def sweepF (c : Nat → Int) : Nat → List Int × Int × Int
  | 0 => ([], 0, 0)
  | k + 1 => sweepStep c k (sweepF c k)
theorem sweep_len (c : Nat → Int) : ∀ k, (sweepF c k).1.length ≤ k
  | 0 => Nat.le_refl _
  | k + 1 => by
    have := sweep_len c k
    show (sweepStep c k (sweepF c k)).1.length ≤ k + 1
    unfold sweepStep
    split
    · split
      · show ((sweepF c k).1 ++ [_]).length ≤ _
        rw [List.length_append, List.length_singleton]; omega
      · show (sweepF c k).1.length ≤ _
        omega
    · show (sweepF c k).1.length ≤ _
      omega
theorem kw_S1_1 : True := by
  k_with_none
  k_with "my_m_look" => first | exact rfl | assumption | ((try dsimp only); repeat' (first | assumption | (refine (if_neg (by decide)).trans ?_) | (exact if_pos (by decide))))
  k_with "exec For Name Call cons nil" => (k_here; k_dflt (refine for_start ?_))
  k_with "eval Name" => (k_here; k_dflt (refine' ld ?k1 ?k2 ?_; (case k1 => k_asm); (case k2 => k_extra "my_m_look"); k_whole))
  k_with "loadName" => (k_here; k_dflt (refine' ldn ?k1 ?k2 ?_; (case k1 => k_asm); (case k2 => k_extra "my_m_look"); k_whole))
  k_with "call builtin:list.append" => (k_here; k_dflt (refine' append_K ?k1 ?k2 ?k3 ?_ ?z; (case k1 => k_asm); (case k2 => k_asm); (case k3 => k_upd); (case z => assumption); k_whole); intro _ _ _)
  k_with "ForEnd" => dsimp only [ForEnd]
  exact True.intro
theorem item_ints {prog : Program} {w : World} {A : Around} {E : Value → Shared → Prop} {s : Shared} {h₀ : Heap} {L : Addr} {news : List (Addr × Obj)} {value slice : PySem.Expr} {ra : Addr} {ws : List Value} {ns : List Int} {kk : Nat} {k : Int} {u : Tok} {Q : Value → Shared → Prop} (N : News h₀ L s.heap news) (hm : (ra, listOf ws.toArray kk) ∈ news) (hi : IntsAre ws ns)
    (hz : ns.length < 1000) (h0 : 0 ≤ k) (h1 : k < ns.length) (h : ∀ t, Q (.int (ns.getD k.toNat 0) t) s)
    (hs : subscripted slice false (.ref ra) (.int k u) = operate [.ref ra, .int k u] (getItem (.ref ra) (.int k u)) := by with_unfolding_all rfl) (hg : ∀ r, letTemporaryGo value (.ref ra) r = pure () := by intro _; with_unfolding_all rfl) :
    wpAny (model prog w) A (subscriptTail value slice (.ref ra) (.int k u)) Q E s :=
  item_list_ints (led_list N hm) hi h0 h1 (by omega) h hs hg
theorem ints_snoc {y : Int} {t : Tok} : ∀ {vs : List Value} {ys : List Int}, IntsAre vs ys → IntsAre (vs ++ [.int y t]) (ys ++ [y])
  | _, _, .nil => .cons y t .nil
  | _, _, .cons z u r => .cons z u (ints_snoc r)
theorem allLt_all {d : Addr} : ∀ {l : List (Addr × Obj)}, AllLt d l → ∀ p ∈ l, p.1 < d
  | [], _, _, h => nomatch h
  | _ :: _, x, p, h => by
    rcases List.mem_cons.mp h with rfl | h
    · exact x.1
    · exact allLt_all x.2 p h
theorem kw_S1_2 : True := by
  k_with "subscriptTail" => (k_here; (with_reducible show wpAny _ _ (subscriptTail _ _ (Value.ref _) (Value.int _ _)) _ _ _); k_dflt (refine' item_ints ?a ?b ?c ?z ?d ?e ?_; (case a => k_asm); (case b => first | assumption | k_mem); (case c => assumption); (case z => omega); (case d => ((try simp only [Int.fmod_eq_emod_of_nonneg _ (by decide : (0:Int) ≤ 8)]); omega)); (case e => ((try simp only [Int.fmod_eq_emod_of_nonneg _ (by decide : (0:Int) ≤ 8)]); omega)); k_whole); intro _)
  k_with "my_k_all" => assumption
  exact True.intro
inductive SweepJ (c : Nat → Int) (news : List (Addr × Obj)) (rc : Addr) (i : Nat) (mm : Str → Option Value) : List (Addr × Obj) → Prop
  | mk (fr : Addr) (vs : Array Value) (kk' : Nat) (tw to : Tok) (fs : List Int) (wy ov : Int) (e : sweepF c i = (fs, wy, ov)) (hfr : ∀ p ∈ news, p.1 < fr) (hv : IntsAre vs.toList fs) (mf : mm (Str.ofString "free") = some (.ref fr)) (mw : mm (Str.ofString "way") = some (.int wy tw)) (mo : mm (Str.ofString "over") = some (.int ov to)) (mc : mm (Str.ofString "counts") = some (.ref rc)) : SweepJ c news rc i mm ((fr, listOf vs kk') :: news)
theorem sweep_next {c : Nat → Int} {i : Nat} {f0 fs : List Int} {w0 v0 wy ov : Int} (e0 : sweepF c i = (f0, w0, v0)) (e : sweepStep c i (f0, w0, v0) = (fs, wy, ov)) : sweepF c (i + 1) = (fs, wy, ov) := (congrArg (sweepStep c i) e0).trans e
theorem sweep_ctr {w : World} {p : Program} {loose : List PySem.Str} {mean : ExcName → Option Value} {mg mb : Str → Option Value} {dp un : Nat} {gd : Option (List Code)} {cn : Str} {cs : Scope} {L a : Addr} {ccd : Value} {cl : List (Str × Addr)} {outer : List Env} {A₀ : Around} {base h₀ : Heap} {m : Str → Option Value}
    {news : List (Addr × Obj)} {s : Shared} {Q E : Value → Shared → Prop} {rc : Addr} {ws : List Value} {ns : List Int} {kk : Nat} : Site w p loose mean mg mb dp un cn cs L a ccd cl outer A₀ base h₀ m news s →
    (rc, listOf ws.toArray kk) ∈ news → IntsAre ws ns → ns.length = 8 →
    (∀ D fr ws' kk' tw h' tk', Fr h₀ L h' m → News h₀ L h' ((D, ({ cls := .type "tuple", data := .seq #[.ref fr, .int (sweepF (fun i => ns.getD i 0) 16).2.1 tw] } : Obj)) :: (fr, listOf ws'.toArray kk') :: news) → IntsAre ws' (sweepF (fun i => ns.getD i 0) 16).1 → (∀ p ∈ news, p.1 < fr) → fr < D → (∀ p ∈ news, p.1 < D) → Q (.ref D) { s with heap := h', toks := tk' }) →
  (kF w.params).In h₀ → wpAny (model rwl.prog w) (ktrTop dp un gd cn cs L a ccd cl outer) (call (.ref 186) [.ref rc]) Q E s := by
  k_fill
  intro S hrc hi hl hret X
  obtain ⟨B, F, _, N, T, hk, hdp, hun⟩ := S
  refine wpAny_call ?_
  k_dflt (((refine' code_def ?k1 ?k2 ?k3 ?k4 ?k5 ?kA ?kF ?kK ?k6 ?k7 ?k8 ?k9 ?kB ?_ ?c2 ?c3 ?c4 ?c5; (case kA => exact rfl); (case kF => exact rfl); (case kK => assumption); (case k1 => k_asm); (case k2 => k_asm); (case k3 => k_asm); (case k4 => k_asm); (case k5 => k_asm); (case k6 => k_is); (case k7 => k_is); (case k8 => ktr_room); (case k9 => exact BindsTo.of_eq rfl); (case c5 => decide); (case kB => exact locs rfl); (case c2 => exact rfl); (case c3 => exact rfl); (case c4 => exact rfl); k_whole; intro gB LB h' FG' F' N' B' X' T'; (try dsimp only); (try k_lift B'); (try k_fold))))
  k_steps
  rename Addr => fr0
  k_dflt (refine' for_range (n := 16) (L := LB) (SweepJ (fun i => ns.getD i 0) news rc) rfl (by assumption) (by decide) (by rfl) rfl ?hE (fun _ _ => rfl) (by assumption) (by assumption) ?h0 ?turn ?fin)
  case hE => first | passes_own | with_unfolding_all passes_own
  case h0 => exact .mk _ _ _ _ _ _ _ _ rfl (by assumption) .nil (by k_extra "my_m_look") (by k_extra "my_m_look") (by k_extra "my_m_look") (by k_extra "my_m_look")
  case turn =>
    rintro I i t oI mm nw h tk hi' ⟨fr, vs, kk', tw, to, f0, w0, v0, e0, hfr, hvs, mf, mw, mo, mc⟩ off FF NN
    have off1 : @Ne Nat fr I := off _ List.mem_cons_self
    have hfr2 : ∀ p ∈ news, p.1 ≠ fr := fun p hp => Nat.ne_of_lt (hfr p hp)
    have hvl : vs.size ≤ sizeLine := by
      have e := hvs.length
      have e2 := sweep_len (fun i => ns.getD i 0) i
      rw [e0] at e2
      dsimp only at e2
      rw [← Array.length_toList]
      exact Nat.le_trans (show vs.toList.length ≤ 16 by omega) (by decide)
    have hrc2 : (rc, listOf ws.toArray kk) ∈ (I, oI) :: (fr, listOf vs kk') :: news := .tail _ (.tail _ hrc)
    have off2 : ∀ o : Obj, ∀ p ∈ (fr, o) :: news, p.1 ≠ I := fun o p hp => by
      rcases List.mem_cons.mp hp with rfl | hp
      · exact off1
      · exact off p (List.mem_cons_of_mem _ hp)
    k_steps
    · rename_i h8 _ _ _ _ h0 _ _
      refine ForNext.mk _ (by assumption) (by assumption) (off2 _) (.mk _ _ _ _ _ _ _ _ (sweep_next e0 ((if_pos (by assumption)).trans (congrArg (fun z => (z, _, _)) (if_pos (by assumption))))) hfr ?_ (by k_extra "my_m_look") (by k_extra "my_m_look") (by k_extra "my_m_look") (by k_extra "my_m_look"))
      rw [Array.toList_push]
      exact ints_snoc hvs
    · exact ForNext.mk _ (by assumption) (by assumption) (off2 _) (.mk _ _ _ _ _ _ _ _ (sweep_next e0 ((if_pos (by assumption)).trans (congrArg (fun z => (z, _, _)) (if_neg (by assumption))))) hfr hvs (by k_extra "my_m_look") (by k_extra "my_m_look") (by k_extra "my_m_look") (by k_extra "my_m_look"))
    · exact ForNext.mk _ (by assumption) (by assumption) (off2 _) (.mk _ _ _ _ _ _ _ _ (sweep_next e0 (if_neg (by assumption))) hfr hvs (by k_extra "my_m_look") (by k_extra "my_m_look") (by k_extra "my_m_look") (by k_extra "my_m_look"))
  case fin =>
    rintro mm nw h tk ⟨fr, vs, kk', tw, to, f0, w0, v0, e0, hfr, hvs, mf, mw, mo, mc⟩ FF NN
    k_steps
    rename _ ∧ AllLt _ news => hlt
    rw [e0] at hret
    exact hret _ _ vs.toList _ _ _ _ (by assumption) (by assumption) hvs hfr hlt.1 (allLt_all hlt.2)
end Mine

end PartS1

section FlushY0
open PySem PySem.W PyProof.Rows PySem.Calls
namespace Mine
theorem start_Y0 {prog : Program} {w : World} {A : Around} {E : Value → Shared → Prop} {s : Shared} {env : Env} {Q : Flow → Shared → Prop} (h : wpAny (model prog w) A (execs [] env) Q E s) : wpAny (model prog w) A (execs [] env) Q E s := by
  w_top off
  first | (walk1; fail) | exact h
end Mine
end FlushY0
section PartY0
open PySem PySem.W PyProof.Rows PySem.Calls
namespace Mine
noncomputable abbrev lstAt (its : Array Value) (c : Nat) : Obj := { cls := .type "list", dict := none, data := .seq its c, slots := #[] }
section
variable {prog : Program} {w : World} {A : Around} {R : Result → Shared → Prop}
theorem upd_push {h : Heap} {D : Addr} {xs : Array Value} {c : Nat} (e : h.get? D = some (lstAt xs c)) (f : Array Value → Array Value) : ∃ c', (h.update D (Obj.mapSeq f)).get? D = some (lstAt (f xs) c') := ⟨_, PySem.IsL.update e f⟩
theorem ext_loop {I S : Addr} {a : Int} {n : Nat} (hh : A.handled = none) (hSI : S ≠ I) (res : Value) : ∀ (k i : Nat) (s : Shared) (acc : List Value) (c : Nat), i + k = n → IsRangeIter s.heap I (a + (i : Nat) * 1) ((n : Int) - (i : Nat)) 1 → s.heap.get? S = some (lstAt acc.toArray c) → acc.length + k ≤ 4000 →
    (∀ h' tk' us c', (∀ b o, b ≠ S → b ≠ I → s.heap.get? b = some o → h'.get? b = some o) → h'.get? S = some (lstAt (acc ++ us).toArray c') → IntsAre us ((List.range k).map fun j => a + ((i + j : Nat) : Int)) → R (.ok (.ret res)) { s with heap := h', toks := tk' }) →
    codeAny (model prog w) A (.builtin "list.extend.loop" ⟨[.ref S, .ref I, res], []⟩) R s
  | 0, i, s, acc, c, hi, hst, hS, hl, hR => by
    have W := LCg.range_walks (prog := prog) (w := w) (A := A.in1) (I := I) hh a n
    refine codeAny_builtin F.entry_extend_loop ?_
    rw [Around.under_plainId F.plain_extend_loop _]
    show wpAny _ A.in1 (pyNext (.ref I) >>= _) _ _ s
    obtain rfl : i = n := by omega
    refine wpAny_bind (W.done s _ _ hst fun h₂ tk₂ hk₂ => ?_)
    have nI : ∀ b, b ≠ I → b ∉ [I] := fun b hb hm => hb (List.mem_singleton.mp hm)
    exact wpAny_pure (hR h₂ tk₂ [] c (fun b o _ hb e => hk₂ b o (nI b hb) e) (by rw [List.append_nil]; exact hk₂ S _ (nI S hSI) hS) .nil)
  | k + 1, i, s, acc, c, hi, hst, hS, hl, hR => by
    have W := LCg.range_walks (prog := prog) (w := w) (A := A.in1) (I := I) hh a n
    refine codeAny_builtin F.entry_extend_loop ?_
    rw [Around.under_plainId F.plain_extend_loop _]
    show wpAny _ A.in1 (pyNext (.ref I) >>= _) _ _ s
    have nI : ∀ b, b ≠ I → b ∉ [I] := fun b hb hm => hb (List.mem_singleton.mp hm)
    refine wpAny_bind (W.item i s _ _ (by omega) hst fun v h₂ tk₂ hP hst₂ hk₂ => ?_)
    obtain ⟨t, rfl⟩ := hP
    have hS₂ : h₂.get? S = some (lstAt acc.toArray c) := hk₂ S _ (nI S hSI) hS
    show wpAny _ A.in1 (updateSeq S (·.push _) >>= _) _ _ _
    have hz : acc.toArray.size ≤ sizeLine := by rw [List.size_toArray]; exact Nat.le_trans (show _ ≤ 4000 by omega) (by decide)
    refine wpAny_bind (wpAny_updateSeq hS₂ rfl ?_ hz (by rw [Array.size_push]; exact Nat.succ_le_succ hz))
    obtain ⟨c', hS'⟩ := upd_push hS₂ (·.push (.int (a + (i : Int)) t))
    rw [List.push_toArray] at hS'
    refine wpAny_pure ⟨plainId_quiet F.plain_extend_loop _, ?_⟩
    refine ext_loop (a := a) (n := n) hh hSI res k (i + 1) _ (acc ++ [.int (a + (i : Int)) t]) c' (by omega) ?_ hS' (by rw [List.length_append, List.length_singleton]; omega) ?_
    · exact (Heap.get?_update_other _ _ hSI).trans hst₂
    · intro h' tk' us c'' hk hS'' hu
      refine hR h' tk' (.int (a + (i : Int)) t :: us) c'' (fun b o hb hbI e => hk b o hb hbI ((Heap.get?_update_other _ _ (Ne.symm hb)).trans (hk₂ b o (nI b hbI) e))) (by rw [List.append_assoc] at hS''; exact hS'') ?_
      rw [List.range_succ_eq_map, List.map_cons, List.map_map]
      refine .cons _ _ ?_
      have e : (List.range k).map (fun j => a + ((i + 1 + j : Nat) : Int)) = (List.range k).map ((fun j => a + ((i + j : Nat) : Int)) ∘ Nat.succ) := List.map_congr_left fun j _ => by show a + ((i + 1 + j : Nat) : Int) = a + ((i + (j + 1) : Nat) : Int); omega
      rw [← e]
      exact hu
theorem extend_range {E Q : Value → Shared → Prop} {s : Shared} {D r : Addr} {a b : Int} {t u v : Tok} {n c : Nat} {its : List Value} (hh : A.handled = none) (hr : IsRange s.heap r a b 1 t u v) (hsmall : Builtin.Range.small a b 1 = true)
    (hn : Builtin.Range.rangeSize a b 1 = n) (hlen : its.length + n ≤ 3000) (hD : s.heap.get? D = some (lstAt its.toArray c))
    (hQ : ∀ h' tk us c', (∀ b o, b ≠ D → s.heap.get? b = some o → h'.get? b = some o) → h'.get? D = some (lstAt (its ++ us).toArray c') → IntsAre us (rangeKs a n) → Q .none { s with heap := h', toks := tk }) :
    wpAny (model prog w) A (call (.builtin "list.extend") [.ref D, .ref r]) Q E s := by
  have hDr : D ≠ r := fun e => by rw [e, hr] at hD; simp at hD
  have hDlt : D < s.heap.objs.size := Heap.lt_size hD
  have hDI : D ≠ s.heap.objs.size := Nat.ne_of_lt hDlt
  refine call_meetsIn (S := fun A' R s' => A' = A ∧ s' = s ∧ ∀ h' tk us c', (∀ b o, b ≠ D → s.heap.get? b = some o → h'.get? b = some o) → h'.get? D = some (lstAt (its ++ us).toArray c') → IntsAre us (rangeKs a n) → R (.ok (.ret .none)) { s with heap := h', toks := tk }) PySem.F.slot_list_extend ⟨_, hD, rfl⟩ PySem.F.entry_list_extend (PySem.F.args_list_extend_2 _ _) ?_ ⟨rfl, rfl, hQ⟩
  rintro A' R s' ⟨rfl, rfl, hR⟩
  show wpAny _ A'.in1 (Builtin.List.listExtendWith (.ref D) (.ref r) .none) _ _ s'
  have fin : ∀ (h : Heap) (c₁ tk : Nat), IsRangeIter h s'.heap.objs.size (a + ((0 : Nat) : Int) * 1) ((n : Int) - ((0 : Nat) : Int)) 1 → (∀ b o, b ≠ D → s'.heap.get? b = some o → h.get? b = some o) →
      h.get? D = some (lstAt its.toArray c₁) → codeAny (model prog w) A' (.builtin "list.extend.loop" ⟨[.ref D, .ref s'.heap.objs.size, .none], []⟩) R { s' with heap := h, toks := tk } := by
    intro h c₁ tk hit hk hS
    refine ext_loop (a := a) (n := n) hh hDI .none n 0 _ its c₁ (Nat.zero_add _) hit hS (by omega) fun h' tk' us c' hk' hS' hu => ?_
    refine hR h' tk' us c' (fun b o hb e => hk' b o hb (Nat.ne_of_lt (Heap.lt_size e)) (hk b o hb e)) hS' ?_
    have e : rangeKs a n = (List.range n).map fun j => a + ((0 + j : Nat) : Int) := by
      unfold rangeKs
      exact List.map_congr_left fun j _ => by rw [Nat.zero_add]
    rw [e]
    exact hu
  unfold Builtin.List.listExtendWith
  refine wpAny_bind (wpAny_typeOf (T := "range") ⟨_, hr, rfl⟩ ?_)
  have h1 : Builtin.List.listSameRef (.ref D) (.ref r) = false := by simp [Builtin.List.listSameRef, hDr]
  have h2 : (Value.type "range" == Value.type "list") = false := by decide
  have h3 : (Value.type "range" == Value.type "tuple") = false := by decide
  simp only [h1, h2, h3, Bool.or_false, Bool.false_eq_true, if_false]
  refine wpAny_bind (wpAny_pyIter_range hr hsmall ?_)
  refine wpAny_bind (wpAny_holding (wpAny_hint_range (n := n) (Heap.get?_push_of_some _ hr) hn (Nat.le_trans (show _ ≤ 3000 by omega) (by decide)) ?_))
  have hit : IsRangeIter (s'.heap.push { cls := .type "range_iterator", data := .fields #[rawInt a, rawInt (Builtin.Range.rangeSize a b 1), rawInt 1] }) s'.heap.objs.size (a + ((0 : Nat) : Int) * 1) ((n : Int) - ((0 : Nat) : Int)) 1 := by
    show IsRangeIter _ _ _ _ _
    rw [hn]
    simpa using Heap.get?_push_size _ rfl
  have hS₁ := Heap.get?_push_of_some { cls := .type "range_iterator", data := .fields #[rawInt a, rawInt (Builtin.Range.rangeSize a b 1), rawInt 1] } hD
  have hz : its.toArray.size ≤ sizeLine := by rw [List.size_toArray]; exact Nat.le_trans (show _ ≤ 3000 by omega) (by decide)
  refine wpAny_ite_split (fun _ => ?_) (fun _ => wpAny_pure ⟨plainId_quiet F.plain_extend_loop _, fin _ c _ hit (fun b o _ e => Heap.get?_push_of_some _ e) hS₁⟩)
  refine wpAny_bind (wpAny_rule ?_)
  refine wpAny_bind ?_
  show wpAny _ _ (updateSeq D (·.push .none) >>= fun _ => updateSeq D (·.pop)) _ _ _
  have hz2 : (its.toArray.push Value.none).size ≤ sizeLine := by rw [Array.size_push, List.size_toArray]; exact Nat.le_trans (show _ ≤ 3001 by omega) (by decide)
  refine wpAny_bind (wpAny_updateSeq hS₁ rfl ?_ hz (Nat.le_succ_of_le hz2))
  obtain ⟨c₂, hS₂⟩ := upd_push hS₁ (·.push Value.none)
  refine wpAny_updateSeq hS₂ rfl ?_ hz2 (by show (its.toArray.push Value.none).pop.size ≤ _; rw [Array.size_pop]; exact Nat.le_trans (Nat.sub_le _ _) (Nat.le_succ_of_le hz2))
  obtain ⟨c₃, hS₃⟩ := upd_push hS₂ (·.pop)
  rw [show (its.toArray.push Value.none).pop = its.toArray by simp] at hS₃
  refine wpAny_pure ⟨plainId_quiet F.plain_extend_loop _, fin _ _ _ ?_ (fun b o hb e => ?_) hS₃⟩
  · exact (Heap.get?_update_other _ _ hDI).trans ((Heap.get?_update_other _ _ hDI).trans hit)
  · exact (Heap.get?_update_other _ _ (Ne.symm hb)).trans ((Heap.get?_update_other _ _ (Ne.symm hb)).trans (Heap.get?_push_of_some _ e))
end
section
variable {prog : Program} {w : World} {A : Around} {E : Value → Shared → Prop} {s : Shared} {h₀ : Heap} {L : Addr} {m : Str → Option Value} {news news' : List (Addr × Obj)}
theorem extend_K {Q : Value → Shared → Prop} {D r : Addr} {a b : Int} {t u v : Tok} {n c : Nat} {its : List Value} {G : Obj → List (Addr × Obj)} (hh : A.handled = none) (F : Fr h₀ L s.heap m) (N : News h₀ L s.heap news) (U : UpdF D (listOf its.toArray c) news G)
    (hr : IsRange s.heap r a b 1 t u v) (hsmall : Builtin.Range.small a b 1 = true) (hn : Builtin.Range.rangeSize a b 1 = n) (hlen : its.length + n ≤ 3000)
    (h : ∀ h' tk us c', Fr h₀ L h' m → News h₀ L h' (G (listOf (its ++ us).toArray c')) → IntsAre us (rangeKs a n) → Q .none { s with heap := h', toks := tk }) :
    wpAny (model prog w) A (call (.builtin "list.extend") [.ref D, .ref r]) Q E s := by
  obtain ⟨pre, post, rfl, hg, h1, h2⟩ := U.split
  have hm := N (D, listOf its.toArray c) (List.mem_append_right _ (.head _))
  refine extend_range hh hr hsmall hn hlen hm.1 fun h' tk us c' hk hD hu => ?_
  have hk' : ∀ b o, b ∉ [D] → s.heap.get? b = some o → h'.get? b = some o := fun b o hb e => hk b o (fun x => hb (by rw [x]; exact List.mem_singleton.mpr rfl)) e
  refine h h' tk us c' (LCg.fr_but F hk' hm.2.1.symm hm.2.2) (fun p hp => ?_) hu
  rw [hg] at hp
  rcases List.mem_append.mp hp with hp | hp
  · have z := N p (List.mem_append_left _ hp)
    exact ⟨hk _ _ (h1 p hp) z.1, z.2⟩
  · rcases List.mem_cons.mp hp with rfl | hp
    · exact ⟨hD, hm.2⟩
    · have z := N p (List.mem_append_right _ (.tail _ hp))
      exact ⟨hk _ _ (h2 p hp) z.1, z.2⟩
end
end Mine

end PartY0

section FlushY1
open PySem PySem.W PyProof.Rows PySem.Calls
namespace Mine
theorem start_Y1 {prog : Program} {w : World} {A : Around} {E : Value → Shared → Prop} {s : Shared} {env : Env} {Q : Flow → Shared → Prop} (h : wpAny (model prog w) A (execs [] env) Q E s) : wpAny (model prog w) A (execs [] env) Q E s := by
  w_top off
  first | (walk1; fail) | exact h
end Mine
end FlushY1
section PartY1
open PySem PySem.W PyProof.Rows PySem.Calls
namespace Mine
theorem kw_Y1_1 : True := by
  k_with_none
  k_with "my_m_look" => first | exact rfl | assumption | ((try dsimp only); repeat' (first | assumption | (refine (if_neg (by decide)).trans ?_) | (exact if_pos (by decide))))
  k_with "exec For Name Name cons nil" => (k_here; k_dflt (refine for_start ?_))
  k_with "my_k_all" => assumption
  k_with "eval Name" => (k_here; k_dflt (refine' ld ?k1 ?k2 ?_; (case k1 => k_asm); (case k2 => k_extra "my_m_look"); k_whole))
  k_with "loadName" => (k_here; k_dflt (refine' ldn ?k1 ?k2 ?_; (case k1 => k_asm); (case k2 => k_extra "my_m_look"); k_whole))
  k_with "ForEnd" => dsimp only [ForEnd]
  k_with "call builtin:list.extend" => ((k_here; (with_reducible show wpAny _ _ (call (Value.builtin _) [Value.ref _, Value.ref _]) _ _ _); k_dflt (refine' extend_K ?h ?F ?N ?U ?r ?sm ?n ?l ?_; (case h => rfl); (case F => k_asm); (case N => k_asm); (case U => k_updF); (case r => (rename IsRange _ _ _ _ _ _ _ _ => rgX; exact rgX)); (case sm => decide); (case n => rfl); (case l => exact Nat.le_of_ble_eq_true rfl); k_whole); intro _ _ _ _ _ N' _; (try dsimp only at N')); (revert N'; intro _))
  exact True.intro
noncomputable def frontsF : List Int := [97, 65, 119808, 119860, 119912, 120016, 120172, 120224, 120276, 120328, 120380, 120432]
noncomputable def unseenF : List Int := 173 :: 847 :: 6150 :: 6155 :: 6156 :: 6157 :: 8203 :: 8204 :: 8205 :: 8288 :: 65279 :: rangeKs 65024 16
noncomputable def spell1 (x : Int) : List Nat := (if (x.fdiv 96).fmod 28 < 27 then [(unseenF.getD ((x.fdiv 96).fmod 28).toNat 0).toNat] else []) ++ [(frontsF.getD ((x.fdiv 8).fmod 12).toNat 0 + x.fmod 8).toNat]
noncomputable def spellL (ns : List Int) : List Nat := ns.flatMap spell1
theorem unseen_rng (k : Nat) : 0 ≤ unseenF.getD k 0 ∧ unseenF.getD k 0 ≤ 1114111 := by
  have h : ∀ x ∈ unseenF, 0 ≤ x ∧ x ≤ 1114111 := by decide +kernel
  rw [List.getD_eq_getElem?_getD]
  cases e : unseenF[k]? with
  | none => exact ⟨Int.le_refl _, (by decide : (0 : Int) ≤ 1114111)⟩
  | some x => exact h x (List.mem_of_getElem? e)
theorem front_rng (k : Nat) (x : Int) : 0 ≤ frontsF.getD k 0 + x.fmod 8 ∧ frontsF.getD k 0 + x.fmod 8 ≤ 1114111 := by
  have h : ∀ x ∈ frontsF, 0 ≤ x ∧ x ≤ 1114000 := by decide +kernel
  have hx0 := Int.fmod_nonneg_of_pos x (show (0 : Int) < 8 by decide)
  have hx1 := Int.fmod_lt_of_pos x (show (0 : Int) < 8 by decide)
  rw [List.getD_eq_getElem?_getD]
  cases e : frontsF[k]? with
  | none => exact ⟨by show 0 ≤ 0 + _; omega, by show 0 + _ ≤ _; omega⟩
  | some y =>
    have := h y (List.mem_of_getElem? e)
    exact ⟨by show 0 ≤ y + _; omega, by show y + _ ≤ _; omega⟩
theorem len_app (x y : PySem.Str) : (x ++ y).length = x.length + y.length := Array.size_append ..
theorem len_one (n : Nat) : (⟨#[n]⟩ : PySem.Str).length = 1 := rfl
theorem spell1_len (x : Int) : (spell1 x).length ≤ 2 := by
  unfold spell1
  split <;> simp
theorem spellL_len : ∀ ns : List Int, (spellL ns).length ≤ 2 * ns.length
  | [] => Nat.le_refl _
  | x :: ns => by
    have h1 := spell1_len x
    have h2 := spellL_len ns
    show (spell1 x ++ spellL ns).length ≤ 2 * (ns.length + 1)
    rw [List.length_append]
    omega
theorem spellL_snoc (l : List Int) (x : Int) : spellL (l ++ [x]) = spellL l ++ spell1 x := by
  unfold spellL
  rw [List.flatMap_append]
  show _ ++ (spell1 x ++ []) = _
  rw [List.append_nil]
inductive SpellJ (ns : List Int) (news : List (Addr × Obj)) (i : Nat) (mm : Str → Option Value) : List (Addr × Obj) → Prop
  | mk (fr un : Addr) (fs us : List Value) (kf ku : Nat) (tt : Tok) (x : PySem.Str) (hf : IntsAre fs frontsF) (hu : IntsAre us unseenF) (m1 : mm (Str.ofString "unseen") = some (.ref un)) (m2 : mm (Str.ofString "fronts") = some (.ref fr)) (m3 : mm (Str.ofString "text") = some (.str x tt)) (e : x.cps.toList = spellL (ns.take i)) : SpellJ ns news i mm ((fr, listOf fs.toArray kf) :: (un, listOf us.toArray ku) :: news)
theorem kw_Y1_2 : True := by
  k_with "my_mem_deep" => (repeat' (first | assumption | exact List.Mem.head _ | refine List.Mem.tail _ ?_))
  k_with "subscriptTail" => (k_here; (with_reducible show wpAny _ _ (subscriptTail _ _ (Value.ref _) (Value.int _ _)) _ _ _); k_dflt (refine' item_ints ?a ?b ?c ?z ?d ?e ?_; (case a => k_asm); (case b => k_extra "my_mem_deep"); (case c => assumption); (case z => first | exact Nat.lt_of_lt_of_le (by assumption) (by decide) | decide); (case d => assumption); (case e => assumption); k_whole); intro _)
  k_with "call builtin:chr" => (k_here; first | (refine chr_of_range (unseen_rng _).1 (unseen_rng _).2 ?_) | (refine chr_of_range (front_rng _ _).1 (front_rng _ _).2 ?_))
  k_with "binaryOp Add str str" => (k_here; (with_reducible show wpAny _ _ (binaryOp Operator.Add (Value.str _ _) (Value.str _ _)) _ _ _); (refine KOpn.add (by simp only [len_app, len_one]; omega) ?_); intro _ _ _)
  k_with "last binaryOp Add str str" => (k_here; (with_reducible show wpAny _ _ (binaryOp Operator.Add (Value.str _ _) (Value.str _ _)) _ _ _); (refine KOpn.add (by simp only [len_app, len_one]; omega) ?_); intro _ _ _)
  exact True.intro
theorem spelled_ctr {w : World} {p : Program} {loose : List PySem.Str} {mean : ExcName → Option Value} {mg mb : Str → Option Value} {dp un : Nat} {gd : Option (List Code)} {cn : Str} {cs : Scope} {L a : Addr} {ccd : Value} {cl : List (Str × Addr)} {outer : List Env} {A₀ : Around} {base h₀ : Heap} {m : Str → Option Value}
    {news : List (Addr × Obj)} {s : Shared} {Q E : Value → Shared → Prop} {rc : Addr} {ws : List Value} {ns : List Int} {kk : Nat} : Site w p loose mean mg mb dp un cn cs L a ccd cl outer A₀ base h₀ m news s →
    (rc, listOf ws.toArray kk) ∈ news → IntsAre ws ns → ns.length < 100 →
    (∀ h' tk' tt, Fr h₀ L h' m → News h₀ L h' news → Q (.str ⟨(spellL ns).toArray⟩ tt) { s with heap := h', toks := tk' }) →
  (kF w.params).In h₀ → wpAny (model rwl.prog w) (ktrTop dp un gd cn cs L a ccd cl outer) (call (.ref 179) [.ref rc]) Q E s := by
  k_fill
  intro S hrc hi hl hret X
  obtain ⟨B, F, _, N, T, hk, hdp, hun⟩ := S
  refine wpAny_call ?_
  k_dflt cell_enter
  k_steps
  k_dflt (refine' for_list (L := _) (SpellJ ns news) rfl ?hS rfl ?hE (fun _ _ => rfl) (by assumption) (by assumption) ?h0 ?turn ?fin)
  case hS =>
    rintro i mm nw ⟨fr, un, fs, us, kf, ku, tt, _, _, _, _, _, _, _⟩
    exact .inr ⟨_, .tail _ (.tail _ hrc), rfl, _, rfl⟩
  case hE => first | passes_own | with_unfolding_all passes_own
  case h0 =>
    refine .mk _ _ _ _ _ _ _ _ ?_ ?_ (by k_extra "my_m_look") (by k_extra "my_m_look") (by k_extra "my_m_look") rfl
    · repeat' (first | exact IntsAre.nil | refine IntsAre.cons _ _ ?_)
    · repeat' (first | assumption | refine IntsAre.cons _ _ ?_)
  case turn =>
    rintro I i v oI mm nw h tk hi' hv ⟨fr, un, fs, us, kf, ku, tt, ⟨xa⟩, hfs, hus, m1, m2, m3, ex⟩ off FF NN
    obtain ⟨x, t, rfl, hx⟩ := IntsAre.at hi i v (by simpa using hv)
    have hu0 := Int.fmod_nonneg_of_pos (x.fdiv 96) (show (0 : Int) < 28 by decide)
    have hf0 := Int.fmod_nonneg_of_pos (x.fdiv 8) (show (0 : Int) < 12 by decide)
    have hf1 : (x.fdiv 8).fmod 12 < ((frontsF.length : Nat) : Int) := Int.fmod_lt_of_pos (x.fdiv 8) (show (0 : Int) < 12 by decide)
    have hu1 : (x.fdiv 96).fmod 28 < 27 → (x.fdiv 96).fmod 28 < ((unseenF.length : Nat) : Int) := fun h => h
    have hx0 := Int.fmod_nonneg_of_pos x (show (0 : Int) < 8 by decide)
    have hx1 := Int.fmod_lt_of_pos x (show (0 : Int) < 8 by decide)
    have ex' : xa.toList = spellL (ns.take i) := ex
    have hlen : (⟨xa⟩ : PySem.Str).length ≤ 200 := by
      have := spellL_len (ns.take i)
      rw [List.length_take] at this
      show xa.size ≤ 200
      rw [← Array.length_toList, ex']
      omega
    have hx' : ns[i]? = some x := hx
    have etake : ns.take (i + 1) = ns.take i ++ [x] := by rw [List.take_add_one, hx']; rfl
    have off1 : @Ne Nat fr I := off _ (.head _)
    have off2 : @Ne Nat un I := off _ (.tail _ (.head _))
    k_steps
    · refine ForNext.mk _ (by assumption) (by assumption) off (SpellJ.mk _ _ _ _ _ _ _ _ hfs hus (by k_extra "my_m_look") (by k_extra "my_m_look") (by k_extra "my_m_look") ?_)
      rw [etake, spellL_snoc, spell1, if_pos (by assumption), ← ex']
      show ((_ ++ #[_]) ++ #[_] : Array Nat).toList = _
      simp
    · refine ForNext.mk _ (by assumption) (by assumption) off (SpellJ.mk _ _ _ _ _ _ _ _ hfs hus (by k_extra "my_m_look") (by k_extra "my_m_look") (by k_extra "my_m_look") ?_)
      rw [etake, spellL_snoc, spell1, if_neg (by assumption), ← ex']
      show (_ ++ #[_] : Array Nat).toList = _
      simp
  case fin =>
    rintro mm nw h tk ⟨fr, un, fs, us, kf, ku, tt, ⟨xa⟩, hfs, hus, m1, m2, m3, ex⟩ FF NN
    have ex' : xa = (spellL ns).toArray := by
      have e9 : xa.toList = spellL (ns.take ws.toArray.size) := ex
      rw [show ws.toArray.size = ns.length by rw [List.size_toArray]; exact hi.length, List.take_length] at e9
      rw [← e9]
    subst ex'
    k_steps
    rename News h₀ L _ _ => NX
    exact hret _ _ _ (by assumption) (fun p hp => NX p (.tail _ (.tail _ hp)))
end Mine

end PartY1

section FlushK0
open PySem PySem.W PyProof.Rows PySem.Calls
namespace Mine
theorem start_K0 {prog : Program} {w : World} {A : Around} {E : Value → Shared → Prop} {s : Shared} {env : Env} {Q : Flow → Shared → Prop} (h : wpAny (model prog w) A (execs [] env) Q E s) : wpAny (model prog w) A (execs [] env) Q E s := by
  w_top off
  first | (walk1; fail) | exact h
end Mine
end FlushK0
section PartK0
open PySem PySem.W PyProof.Rows
namespace Mine
section
variable {g h : Heap} {L : Addr} {src l : List (Addr × Obj)} {x : Addr × Obj}
theorem news_nil : News g L h [] := fun p hp => nomatch hp
theorem news_pick (N : News g L h src) (hx : x ∈ src) (hl : News g L h l) : News g L h (x :: l) := fun p hp => by
  rcases List.mem_cons.mp hp with rfl | hp
  · exact N _ hx
  · exact hl p hp
theorem news_rest (N : News g L h src) (hs : ∀ p ∈ l, p ∈ src) : News g L h l := fun p hp => N p (hs p hp)
end
theorem and11 {a1 a2 a3 a4 a5 a6 a7 a8 a9 a10 a11 C : Prop} (h : a1 ∧ a2 ∧ a3 ∧ a4 ∧ a5 ∧ a6 ∧ a7 ∧ a8 ∧ a9 ∧ a10 ∧ a11) (k : a1 → a2 → a3 → a4 → a5 → a6 → a7 → a8 → a9 → a10 → a11 → C) : C := k (h.1) (h.2.1) (h.2.2.1) (h.2.2.2.1) (h.2.2.2.2.1) (h.2.2.2.2.2.1) (h.2.2.2.2.2.2.1) (h.2.2.2.2.2.2.2.1) (h.2.2.2.2.2.2.2.2.1) (h.2.2.2.2.2.2.2.2.2.1) (h.2.2.2.2.2.2.2.2.2.2)
theorem and12 {a1 a2 a3 a4 a5 a6 a7 a8 a9 a10 a11 a12 C : Prop} (h : a1 ∧ a2 ∧ a3 ∧ a4 ∧ a5 ∧ a6 ∧ a7 ∧ a8 ∧ a9 ∧ a10 ∧ a11 ∧ a12) (k : a1 → a2 → a3 → a4 → a5 → a6 → a7 → a8 → a9 → a10 → a11 → a12 → C) : C := k (h.1) (h.2.1) (h.2.2.1) (h.2.2.2.1) (h.2.2.2.2.1) (h.2.2.2.2.2.1) (h.2.2.2.2.2.2.1) (h.2.2.2.2.2.2.2.1) (h.2.2.2.2.2.2.2.2.1) (h.2.2.2.2.2.2.2.2.2.1) (h.2.2.2.2.2.2.2.2.2.2.1) (h.2.2.2.2.2.2.2.2.2.2.2)
theorem and13 {a1 a2 a3 a4 a5 a6 a7 a8 a9 a10 a11 a12 a13 C : Prop} (h : a1 ∧ a2 ∧ a3 ∧ a4 ∧ a5 ∧ a6 ∧ a7 ∧ a8 ∧ a9 ∧ a10 ∧ a11 ∧ a12 ∧ a13) (k : a1 → a2 → a3 → a4 → a5 → a6 → a7 → a8 → a9 → a10 → a11 → a12 → a13 → C) : C := k (h.1) (h.2.1) (h.2.2.1) (h.2.2.2.1) (h.2.2.2.2.1) (h.2.2.2.2.2.1) (h.2.2.2.2.2.2.1) (h.2.2.2.2.2.2.2.1) (h.2.2.2.2.2.2.2.2.1) (h.2.2.2.2.2.2.2.2.2.1) (h.2.2.2.2.2.2.2.2.2.2.1) (h.2.2.2.2.2.2.2.2.2.2.2.1) (h.2.2.2.2.2.2.2.2.2.2.2.2)
theorem and14 {a1 a2 a3 a4 a5 a6 a7 a8 a9 a10 a11 a12 a13 a14 C : Prop} (h : a1 ∧ a2 ∧ a3 ∧ a4 ∧ a5 ∧ a6 ∧ a7 ∧ a8 ∧ a9 ∧ a10 ∧ a11 ∧ a12 ∧ a13 ∧ a14) (k : a1 → a2 → a3 → a4 → a5 → a6 → a7 → a8 → a9 → a10 → a11 → a12 → a13 → a14 → C) : C := k (h.1) (h.2.1) (h.2.2.1) (h.2.2.2.1) (h.2.2.2.2.1) (h.2.2.2.2.2.1) (h.2.2.2.2.2.2.1) (h.2.2.2.2.2.2.2.1) (h.2.2.2.2.2.2.2.2.1) (h.2.2.2.2.2.2.2.2.2.1) (h.2.2.2.2.2.2.2.2.2.2.1) (h.2.2.2.2.2.2.2.2.2.2.2.1) (h.2.2.2.2.2.2.2.2.2.2.2.2.1) (h.2.2.2.2.2.2.2.2.2.2.2.2.2)
theorem and15 {a1 a2 a3 a4 a5 a6 a7 a8 a9 a10 a11 a12 a13 a14 a15 C : Prop} (h : a1 ∧ a2 ∧ a3 ∧ a4 ∧ a5 ∧ a6 ∧ a7 ∧ a8 ∧ a9 ∧ a10 ∧ a11 ∧ a12 ∧ a13 ∧ a14 ∧ a15) (k : a1 → a2 → a3 → a4 → a5 → a6 → a7 → a8 → a9 → a10 → a11 → a12 → a13 → a14 → a15 → C) : C := k (h.1) (h.2.1) (h.2.2.1) (h.2.2.2.1) (h.2.2.2.2.1) (h.2.2.2.2.2.1) (h.2.2.2.2.2.2.1) (h.2.2.2.2.2.2.2.1) (h.2.2.2.2.2.2.2.2.1) (h.2.2.2.2.2.2.2.2.2.1) (h.2.2.2.2.2.2.2.2.2.2.1) (h.2.2.2.2.2.2.2.2.2.2.2.1) (h.2.2.2.2.2.2.2.2.2.2.2.2.1) (h.2.2.2.2.2.2.2.2.2.2.2.2.2.1) (h.2.2.2.2.2.2.2.2.2.2.2.2.2.2)
theorem and16 {a1 a2 a3 a4 a5 a6 a7 a8 a9 a10 a11 a12 a13 a14 a15 a16 C : Prop} (h : a1 ∧ a2 ∧ a3 ∧ a4 ∧ a5 ∧ a6 ∧ a7 ∧ a8 ∧ a9 ∧ a10 ∧ a11 ∧ a12 ∧ a13 ∧ a14 ∧ a15 ∧ a16) (k : a1 → a2 → a3 → a4 → a5 → a6 → a7 → a8 → a9 → a10 → a11 → a12 → a13 → a14 → a15 → a16 → C) : C := k (h.1) (h.2.1) (h.2.2.1) (h.2.2.2.1) (h.2.2.2.2.1) (h.2.2.2.2.2.1) (h.2.2.2.2.2.2.1) (h.2.2.2.2.2.2.2.1) (h.2.2.2.2.2.2.2.2.1) (h.2.2.2.2.2.2.2.2.2.1) (h.2.2.2.2.2.2.2.2.2.2.1) (h.2.2.2.2.2.2.2.2.2.2.2.1) (h.2.2.2.2.2.2.2.2.2.2.2.2.1) (h.2.2.2.2.2.2.2.2.2.2.2.2.2.1) (h.2.2.2.2.2.2.2.2.2.2.2.2.2.2.1) (h.2.2.2.2.2.2.2.2.2.2.2.2.2.2.2)
theorem and17 {a1 a2 a3 a4 a5 a6 a7 a8 a9 a10 a11 a12 a13 a14 a15 a16 a17 C : Prop} (h : a1 ∧ a2 ∧ a3 ∧ a4 ∧ a5 ∧ a6 ∧ a7 ∧ a8 ∧ a9 ∧ a10 ∧ a11 ∧ a12 ∧ a13 ∧ a14 ∧ a15 ∧ a16 ∧ a17) (k : a1 → a2 → a3 → a4 → a5 → a6 → a7 → a8 → a9 → a10 → a11 → a12 → a13 → a14 → a15 → a16 → a17 → C) : C := k (h.1) (h.2.1) (h.2.2.1) (h.2.2.2.1) (h.2.2.2.2.1) (h.2.2.2.2.2.1) (h.2.2.2.2.2.2.1) (h.2.2.2.2.2.2.2.1) (h.2.2.2.2.2.2.2.2.1) (h.2.2.2.2.2.2.2.2.2.1) (h.2.2.2.2.2.2.2.2.2.2.1) (h.2.2.2.2.2.2.2.2.2.2.2.1) (h.2.2.2.2.2.2.2.2.2.2.2.2.1) (h.2.2.2.2.2.2.2.2.2.2.2.2.2.1) (h.2.2.2.2.2.2.2.2.2.2.2.2.2.2.1) (h.2.2.2.2.2.2.2.2.2.2.2.2.2.2.2.1) (h.2.2.2.2.2.2.2.2.2.2.2.2.2.2.2.2)
theorem and18 {a1 a2 a3 a4 a5 a6 a7 a8 a9 a10 a11 a12 a13 a14 a15 a16 a17 a18 C : Prop} (h : a1 ∧ a2 ∧ a3 ∧ a4 ∧ a5 ∧ a6 ∧ a7 ∧ a8 ∧ a9 ∧ a10 ∧ a11 ∧ a12 ∧ a13 ∧ a14 ∧ a15 ∧ a16 ∧ a17 ∧ a18) (k : a1 → a2 → a3 → a4 → a5 → a6 → a7 → a8 → a9 → a10 → a11 → a12 → a13 → a14 → a15 → a16 → a17 → a18 → C) : C := k (h.1) (h.2.1) (h.2.2.1) (h.2.2.2.1) (h.2.2.2.2.1) (h.2.2.2.2.2.1) (h.2.2.2.2.2.2.1) (h.2.2.2.2.2.2.2.1) (h.2.2.2.2.2.2.2.2.1) (h.2.2.2.2.2.2.2.2.2.1) (h.2.2.2.2.2.2.2.2.2.2.1) (h.2.2.2.2.2.2.2.2.2.2.2.1) (h.2.2.2.2.2.2.2.2.2.2.2.2.1) (h.2.2.2.2.2.2.2.2.2.2.2.2.2.1) (h.2.2.2.2.2.2.2.2.2.2.2.2.2.2.1) (h.2.2.2.2.2.2.2.2.2.2.2.2.2.2.2.1) (h.2.2.2.2.2.2.2.2.2.2.2.2.2.2.2.2.1) (h.2.2.2.2.2.2.2.2.2.2.2.2.2.2.2.2.2)
theorem and19 {a1 a2 a3 a4 a5 a6 a7 a8 a9 a10 a11 a12 a13 a14 a15 a16 a17 a18 a19 C : Prop} (h : a1 ∧ a2 ∧ a3 ∧ a4 ∧ a5 ∧ a6 ∧ a7 ∧ a8 ∧ a9 ∧ a10 ∧ a11 ∧ a12 ∧ a13 ∧ a14 ∧ a15 ∧ a16 ∧ a17 ∧ a18 ∧ a19) (k : a1 → a2 → a3 → a4 → a5 → a6 → a7 → a8 → a9 → a10 → a11 → a12 → a13 → a14 → a15 → a16 → a17 → a18 → a19 → C) : C := k (h.1) (h.2.1) (h.2.2.1) (h.2.2.2.1) (h.2.2.2.2.1) (h.2.2.2.2.2.1) (h.2.2.2.2.2.2.1) (h.2.2.2.2.2.2.2.1) (h.2.2.2.2.2.2.2.2.1) (h.2.2.2.2.2.2.2.2.2.1) (h.2.2.2.2.2.2.2.2.2.2.1) (h.2.2.2.2.2.2.2.2.2.2.2.1) (h.2.2.2.2.2.2.2.2.2.2.2.2.1) (h.2.2.2.2.2.2.2.2.2.2.2.2.2.1) (h.2.2.2.2.2.2.2.2.2.2.2.2.2.2.1) (h.2.2.2.2.2.2.2.2.2.2.2.2.2.2.2.1) (h.2.2.2.2.2.2.2.2.2.2.2.2.2.2.2.2.1) (h.2.2.2.2.2.2.2.2.2.2.2.2.2.2.2.2.2.1) (h.2.2.2.2.2.2.2.2.2.2.2.2.2.2.2.2.2.2)
theorem and20 {a1 a2 a3 a4 a5 a6 a7 a8 a9 a10 a11 a12 a13 a14 a15 a16 a17 a18 a19 a20 C : Prop} (h : a1 ∧ a2 ∧ a3 ∧ a4 ∧ a5 ∧ a6 ∧ a7 ∧ a8 ∧ a9 ∧ a10 ∧ a11 ∧ a12 ∧ a13 ∧ a14 ∧ a15 ∧ a16 ∧ a17 ∧ a18 ∧ a19 ∧ a20) (k : a1 → a2 → a3 → a4 → a5 → a6 → a7 → a8 → a9 → a10 → a11 → a12 → a13 → a14 → a15 → a16 → a17 → a18 → a19 → a20 → C) : C := k (h.1) (h.2.1) (h.2.2.1) (h.2.2.2.1) (h.2.2.2.2.1) (h.2.2.2.2.2.1) (h.2.2.2.2.2.2.1) (h.2.2.2.2.2.2.2.1) (h.2.2.2.2.2.2.2.2.1) (h.2.2.2.2.2.2.2.2.2.1) (h.2.2.2.2.2.2.2.2.2.2.1) (h.2.2.2.2.2.2.2.2.2.2.2.1) (h.2.2.2.2.2.2.2.2.2.2.2.2.1) (h.2.2.2.2.2.2.2.2.2.2.2.2.2.1) (h.2.2.2.2.2.2.2.2.2.2.2.2.2.2.1) (h.2.2.2.2.2.2.2.2.2.2.2.2.2.2.2.1) (h.2.2.2.2.2.2.2.2.2.2.2.2.2.2.2.2.1) (h.2.2.2.2.2.2.2.2.2.2.2.2.2.2.2.2.2.1) (h.2.2.2.2.2.2.2.2.2.2.2.2.2.2.2.2.2.2.1) (h.2.2.2.2.2.2.2.2.2.2.2.2.2.2.2.2.2.2.2)
theorem and21 {a1 a2 a3 a4 a5 a6 a7 a8 a9 a10 a11 a12 a13 a14 a15 a16 a17 a18 a19 a20 a21 C : Prop} (h : a1 ∧ a2 ∧ a3 ∧ a4 ∧ a5 ∧ a6 ∧ a7 ∧ a8 ∧ a9 ∧ a10 ∧ a11 ∧ a12 ∧ a13 ∧ a14 ∧ a15 ∧ a16 ∧ a17 ∧ a18 ∧ a19 ∧ a20 ∧ a21) (k : a1 → a2 → a3 → a4 → a5 → a6 → a7 → a8 → a9 → a10 → a11 → a12 → a13 → a14 → a15 → a16 → a17 → a18 → a19 → a20 → a21 → C) : C := k (h.1) (h.2.1) (h.2.2.1) (h.2.2.2.1) (h.2.2.2.2.1) (h.2.2.2.2.2.1) (h.2.2.2.2.2.2.1) (h.2.2.2.2.2.2.2.1) (h.2.2.2.2.2.2.2.2.1) (h.2.2.2.2.2.2.2.2.2.1) (h.2.2.2.2.2.2.2.2.2.2.1) (h.2.2.2.2.2.2.2.2.2.2.2.1) (h.2.2.2.2.2.2.2.2.2.2.2.2.1) (h.2.2.2.2.2.2.2.2.2.2.2.2.2.1) (h.2.2.2.2.2.2.2.2.2.2.2.2.2.2.1) (h.2.2.2.2.2.2.2.2.2.2.2.2.2.2.2.1) (h.2.2.2.2.2.2.2.2.2.2.2.2.2.2.2.2.1) (h.2.2.2.2.2.2.2.2.2.2.2.2.2.2.2.2.2.1) (h.2.2.2.2.2.2.2.2.2.2.2.2.2.2.2.2.2.2.1) (h.2.2.2.2.2.2.2.2.2.2.2.2.2.2.2.2.2.2.2.1) (h.2.2.2.2.2.2.2.2.2.2.2.2.2.2.2.2.2.2.2.2)
theorem and22 {a1 a2 a3 a4 a5 a6 a7 a8 a9 a10 a11 a12 a13 a14 a15 a16 a17 a18 a19 a20 a21 a22 C : Prop} (h : a1 ∧ a2 ∧ a3 ∧ a4 ∧ a5 ∧ a6 ∧ a7 ∧ a8 ∧ a9 ∧ a10 ∧ a11 ∧ a12 ∧ a13 ∧ a14 ∧ a15 ∧ a16 ∧ a17 ∧ a18 ∧ a19 ∧ a20 ∧ a21 ∧ a22) (k : a1 → a2 → a3 → a4 → a5 → a6 → a7 → a8 → a9 → a10 → a11 → a12 → a13 → a14 → a15 → a16 → a17 → a18 → a19 → a20 → a21 → a22 → C) : C := k (h.1) (h.2.1) (h.2.2.1) (h.2.2.2.1) (h.2.2.2.2.1) (h.2.2.2.2.2.1) (h.2.2.2.2.2.2.1) (h.2.2.2.2.2.2.2.1) (h.2.2.2.2.2.2.2.2.1) (h.2.2.2.2.2.2.2.2.2.1) (h.2.2.2.2.2.2.2.2.2.2.1) (h.2.2.2.2.2.2.2.2.2.2.2.1) (h.2.2.2.2.2.2.2.2.2.2.2.2.1) (h.2.2.2.2.2.2.2.2.2.2.2.2.2.1) (h.2.2.2.2.2.2.2.2.2.2.2.2.2.2.1) (h.2.2.2.2.2.2.2.2.2.2.2.2.2.2.2.1) (h.2.2.2.2.2.2.2.2.2.2.2.2.2.2.2.2.1) (h.2.2.2.2.2.2.2.2.2.2.2.2.2.2.2.2.2.1) (h.2.2.2.2.2.2.2.2.2.2.2.2.2.2.2.2.2.2.1) (h.2.2.2.2.2.2.2.2.2.2.2.2.2.2.2.2.2.2.2.1) (h.2.2.2.2.2.2.2.2.2.2.2.2.2.2.2.2.2.2.2.2.1) (h.2.2.2.2.2.2.2.2.2.2.2.2.2.2.2.2.2.2.2.2.2)
theorem and23 {a1 a2 a3 a4 a5 a6 a7 a8 a9 a10 a11 a12 a13 a14 a15 a16 a17 a18 a19 a20 a21 a22 a23 C : Prop} (h : a1 ∧ a2 ∧ a3 ∧ a4 ∧ a5 ∧ a6 ∧ a7 ∧ a8 ∧ a9 ∧ a10 ∧ a11 ∧ a12 ∧ a13 ∧ a14 ∧ a15 ∧ a16 ∧ a17 ∧ a18 ∧ a19 ∧ a20 ∧ a21 ∧ a22 ∧ a23) (k : a1 → a2 → a3 → a4 → a5 → a6 → a7 → a8 → a9 → a10 → a11 → a12 → a13 → a14 → a15 → a16 → a17 → a18 → a19 → a20 → a21 → a22 → a23 → C) : C := k (h.1) (h.2.1) (h.2.2.1) (h.2.2.2.1) (h.2.2.2.2.1) (h.2.2.2.2.2.1) (h.2.2.2.2.2.2.1) (h.2.2.2.2.2.2.2.1) (h.2.2.2.2.2.2.2.2.1) (h.2.2.2.2.2.2.2.2.2.1) (h.2.2.2.2.2.2.2.2.2.2.1) (h.2.2.2.2.2.2.2.2.2.2.2.1) (h.2.2.2.2.2.2.2.2.2.2.2.2.1) (h.2.2.2.2.2.2.2.2.2.2.2.2.2.1) (h.2.2.2.2.2.2.2.2.2.2.2.2.2.2.1) (h.2.2.2.2.2.2.2.2.2.2.2.2.2.2.2.1) (h.2.2.2.2.2.2.2.2.2.2.2.2.2.2.2.2.1) (h.2.2.2.2.2.2.2.2.2.2.2.2.2.2.2.2.2.1) (h.2.2.2.2.2.2.2.2.2.2.2.2.2.2.2.2.2.2.1) (h.2.2.2.2.2.2.2.2.2.2.2.2.2.2.2.2.2.2.2.1) (h.2.2.2.2.2.2.2.2.2.2.2.2.2.2.2.2.2.2.2.2.1) (h.2.2.2.2.2.2.2.2.2.2.2.2.2.2.2.2.2.2.2.2.2.1) (h.2.2.2.2.2.2.2.2.2.2.2.2.2.2.2.2.2.2.2.2.2.2)
theorem abs_post {M : Model} {A : Around} {Q : Flow → Shared → Prop} {E : Value → Shared → Prop} {s : Shared} {c : List Stmt} {env : Env} (P : (Flow → Shared → Prop) → Prop) (hP : P Q) (h : ∀ K, P K → wpAny M A (execs c env) K E s) : wpAny M A (execs c env) Q E s := h Q hP
end Mine

end PartK0

section FlushL4
open PySem PySem.W PyProof.Rows PySem.Calls
namespace Mine
theorem start_L4 {prog : Program} {w : World} {A : Around} {E : Value → Shared → Prop} {s : Shared} {env : Env} {Q : Flow → Shared → Prop} (h : wpAny (model prog w) A (execs [] env) Q E s) : wpAny (model prog w) A (execs [] env) Q E s := by
  w_top off
  first | (walk1; fail) | exact h
end Mine
end FlushL4
section PartL4
open PySem PySem.W PyProof.Rows PySem.Calls
namespace Mine
noncomputable def yLawS : Scope := fS 26
noncomputable def lawS : Scope := (fun (o : Scope) (_ : yLawS = o) => o) _ (by dsimp only [yLawS, fS, fnSs, pw, PySem.Challenge.pw_ty0053_01, nth])
noncomputable def yLawL : List Stmt := fB 26
noncomputable def yLawA (k : List Stmt) : List Stmt := nth 0 yLawL :: nth 1 yLawL :: nth 2 yLawL :: k
noncomputable def lawA (k : List Stmt) : List Stmt := (fun (o : List Stmt) (_ : yLawA k = o) => o) _ (by dsimp only [yLawA, yLawL, fB, fnBs, pw, PySem.Challenge.pw_ty0053_01, nth])
noncomputable abbrev lawEnv (LB fa : Addr) (cd : Value) : Env := envOfC (Str.ofString "law") lawS LB fa cd
theorem ldL {M : Model} {A : Around} {E : Value → Shared → Prop} {s : Shared} {h₀ : Heap} {L a : Addr} {cd : Value} {name : Str} {scope : Scope} {m : Str → Option Value} {x : Str} {pos : Pos} {v : Value} {Q : Value → Shared → Prop} (F : Fr h₀ L s.heap m) (hv : m x = some v) (h : Q v s)
    (hk : scope.kind = .function) (hl : (envOfC name scope L a cd).kindOf x = some .local) (hd : (x == ("__debug__" : Str)) = false := by decide) :
    wpAny M A (eval (.Name x pos) (envOfC name scope L a cd)) Q E s := wpAny_Name (wpAny_loadName_local hk hl F.ns hv h) hd
theorem kw_L4_1 : True := by
  k_with_none
  k_with "my_m_look" => first | exact rfl | assumption | ((try dsimp only); repeat' (first | assumption | (refine (if_neg (by decide)).trans ?_) | (exact if_pos (by decide))))
  k_with "eval Name" => (k_here; k_dflt (refine' ldL ?k1 ?k2 ?_ ?k3 ?k4; (case k3 => rfl); (case k4 => rfl); (case k1 => k_asm); (case k2 => k_extra "my_m_look"); k_whole))
  exact True.intro
structure LawHyp (w : World) (p : Program) (loose : List PySem.Str) (mean : ExcName → Option Value) (mg mb : Str → Option Value) (gB : Heap) (LB sl : Addr) (vs : List Value) (ns : List Int) : Prop where
  B : Below callerA gB [] gB
  T : Top p loose mean mg mb gB
  X : (kF w.params).In gB
  C : CodeHd gB 190 188
  hs : gB.IsList sl vs.toArray
  hI : IntsAre vs ns
  hl : ns.length ≤ 63
  lb : @LT.lt Nat _ 188 LB
section
variable {w : World} {p : Program} {loose : List PySem.Str} {mean : ExcName → Option Value} {mg mb : Str → Option Value} {gB : Heap} {LB sl fa : Addr} {cd : Value} {vs : List Value} {ns : List Int} {s : Shared} {Q : Flow → Shared → Prop} {E : Value → Shared → Prop} {mm : Str → Option Value} {rest : List (Addr × Obj)} {k : List Stmt} {o1 o2 o3 o4 o5 o6 o7 o8 o9 o10 o11 : Obj}
noncomputable def drawnL (ns : List Int) : List Int := (ns.take 3).map (fun k' => k'.fmod 1000000) ++ [518, 2671]
noncomputable def lawLed (LB : Addr) (o1 o2 o3 o4 o5 o6 o7 o8 o9 o10 o11 : Obj) (rest : List (Addr × Obj)) : List (Addr × Obj) :=
  (LB + 1, o1) :: (LB + 2, o2) :: (LB + 3, o3) :: (LB + 4, o4) :: (LB + 5, o5) :: (LB + 6, o6) :: (LB + 7, o7) :: (LB + 8, o8) :: (LB + 9, o9) :: (LB + 10, o10) :: (LB + 11, o11) :: rest
theorem law_s1 (H : LawHyp w p loose mean mg mb gB LB sl vs ns) (F : Fr gB LB s.heap mm) (N : News gB LB s.heap (lawLed LB o1 o2 o3 o4 o5 o6 o7 o8 o9 o10 o11 ((188, tabObj #[]) :: [])))
    (d1 : ∃ v, o1.data = .cell v) (d2 : ∃ v, o2.data = .cell v) (ms : mm (Str.ofString "script") = some (.ref sl))
    (next : ∀ h' tk' dr ws o1' o2' t1 t2, Fr gB LB h' (fun y => if y = Str.ofString "drawn" then some (.ref dr) else mm y) → News gB LB h' (lawLed LB o1' o2' o3 o4 o5 o6 o7 o8 o9 o10 o11 ((dr, listOf (List.toArray ws) 0) :: (188, tabObj #[]) :: [])) → IntsAre ws (drawnL ns) →
      o1'.data = .cell (some (.int (drawnL ns).sum t1)) → o2'.data = .cell (some (.str (Str.ofString "abcdefgh") t2)) → @LT.lt Nat _ (LB + 11) dr → wpAny (model rwl.prog w) (callerA.deeper (lawEnv LB fa cd)) (execs k (lawEnv LB fa cd)) Q E { s with heap := h', toks := tk' }) :
    (kF w.params).In gB → wpAny (model rwl.prog w) (callerA.deeper (lawEnv LB fa cd)) (execs (lawA k) (lawEnv LB fa cd)) Q E s := by
  k_fill
  intro X
  obtain ⟨B, T, _, C, hs, hI, hl, lb⟩ := H
  obtain ⟨v1, d1⟩ := d1
  obtain ⟨v2, d2⟩ := d2
  unfold lawEnv lawS lawA
  unfold lawEnv lawS at next
  unfold lawLed at N
  k_steps
  rename News gB LB _ _ => NN
  rename IntsAre _ (_ ++ [518, 2671]) => hdr
  refine next _ _ _ _ _ _ _ _ (by assumption) ?led hdr (by assumption) (by assumption) (by omega)
  case led => (((try unfold lawLed); repeat' (first | exact news_nil | refine news_pick NN (by repeat' (first | exact List.Mem.head _ | refine List.Mem.tail _ ?_)) ?_ | exact news_rest NN (fun p hp => by repeat' (first | exact hp | refine List.Mem.tail _ ?_)))))
end
end Mine

end PartL4

section FlushL5
open PySem PySem.W PyProof.Rows PySem.Calls
namespace Mine
theorem start_L5 {prog : Program} {w : World} {A : Around} {E : Value → Shared → Prop} {s : Shared} {env : Env} {Q : Flow → Shared → Prop} (h : wpAny (model prog w) A (execs [] env) Q E s) : wpAny (model prog w) A (execs [] env) Q E s := by
  w_top off
  first | (walk1; fail) | exact h
end Mine
end FlushL5
section PartL5
open PySem PySem.W PyProof.Rows PySem.Calls
namespace Mine
noncomputable def yLawB (k : List Stmt) : List Stmt := nth 3 yLawL :: k
noncomputable def lawB (k : List Stmt) : List Stmt := (fun (o : List Stmt) (_ : yLawB k = o) => o) _ (by dsimp only [yLawB, yLawL, fB, fnBs, pw, PySem.Challenge.pw_ty0053_01, nth])
noncomputable def letterF (x : Int) : Nat := 97 + (x.fmod 8).toNat
theorem items8 : ∀ j : Fin 8, (Txt.item (Str.ofString "abcdefgh") ((j.val : Nat) : Int)) = (⟨#[97 + j.val]⟩ : PySem.Str) := by decide +kernel
theorem item_letter (x : Int) : Txt.item (Str.ofString "abcdefgh") (x.fmod 8) = (⟨#[letterF x]⟩ : PySem.Str) := by
  have hx0 := Int.fmod_nonneg_of_pos x (show (0 : Int) < 8 by decide)
  have hx1 := Int.fmod_lt_of_pos x (show (0 : Int) < 8 by decide)
  have h := items8 ⟨(x.fmod 8).toNat, by omega⟩
  have e : (((x.fmod 8).toNat : Nat) : Int) = x.fmod 8 := by omega
  simp only [e] at h
  exact h
theorem flat_one {α : Type} (f : Int → α) : ∀ l : List Int, ((List.range l.length).flatMap fun i => [f (l.getD i 0)]) = l.map f
  | [] => rfl
  | x :: l => by
    rw [List.length_cons, List.range_succ_eq_map, List.flatMap_cons, List.flatMap_map]
    show f x :: _ = f x :: l.map f
    rw [← flat_one f l]
    rfl
noncomputable def wordS (ns : List Int) : PySem.Str := ⟨((drawnL ns).map letterF).toArray⟩
section
variable {w : World} {p : Program} {loose : List PySem.Str} {mean : ExcName → Option Value} {mg mb : Str → Option Value} {gB : Heap} {LB sl fa dr : Addr} {cd : Value} {vs ws : List Value} {ns : List Int} {s : Shared} {Q : Flow → Shared → Prop} {E : Value → Shared → Prop} {mm : Str → Option Value} {k : List Stmt} {o1 o2 o3 o4 o5 o6 o7 o8 o9 o10 o11 : Obj} {t1 t2 : Tok}
theorem kw_L5_1 : True := by
  k_with_none
  k_with "my_m_look" => first | exact rfl | assumption | ((try dsimp only); repeat' (first | assumption | (refine (if_neg (by decide)).trans ?_) | (exact if_pos (by decide))))
  k_with "eval Name" => (k_here; k_dflt (refine' ldL ?k1 ?k2 ?_ ?k3 ?k4; (case k3 => rfl); (case k4 => rfl); (case k1 => k_asm); (case k2 => k_extra "my_m_look"); k_whole))
  k_with "my_mem_deep" => (repeat' (first | assumption | exact List.Mem.head _ | refine List.Mem.tail _ ?_))
  k_with "CompSrc" => refine StopIt.out ?_
  k_with "CompEnd" => refine StopIt.out ?_
  exact True.intro
theorem law_s2 (H : LawHyp w p loose mean mg mb gB LB sl vs ns) (F : Fr gB LB s.heap mm) (N : News gB LB s.heap (lawLed LB o1 o2 o3 o4 o5 o6 o7 o8 o9 o10 o11 ((dr, listOf ws.toArray 0) :: (188, tabObj #[]) :: [])))
    (d3 : ∃ v, o3.data = .cell v) (md : mm (Str.ofString "drawn") = some (.ref dr)) (hdr : IntsAre ws (drawnL ns)) (e2 : o2.data = .cell (some (.str (Str.ofString "abcdefgh") t2))) (ldr : @LT.lt Nat _ (LB + 11) dr)
    (next : ∀ h' tk' o3' t3, Fr gB LB h' mm → News gB LB h' (lawLed LB o1 o2 o3' o4 o5 o6 o7 o8 o9 o10 o11 ((dr, listOf ws.toArray 0) :: (188, tabObj #[]) :: [])) → o3'.data = .cell (some (.str (wordS ns) t3)) → wpAny (model rwl.prog w) (callerA.deeper (lawEnv LB fa cd)) (execs k (lawEnv LB fa cd)) Q E { s with heap := h', toks := tk' }) :
    (kF w.params).In gB → wpAny (model rwl.prog w) (callerA.deeper (lawEnv LB fa cd)) (execs (lawB k) (lawEnv LB fa cd)) Q E s := by
  k_fill
  intro X
  obtain ⟨B, T, _, C, hs, hI, hl, lb⟩ := H
  obtain ⟨v3, d3⟩ := d3
  unfold lawEnv lawS lawB
  unfold lawEnv lawS at next
  unfold lawLed at N
  k_steps
  unfold StopIt
  have hwl := hdr.length
  have hdl : (drawnL ns).length ≤ 5 := by
    unfold drawnL
    rw [List.length_append, List.length_map, List.length_take]
    show _ + 2 ≤ 5
    omega
  refine LCg.CompSrc.ledger (k := 0) (its := ws.toArray) (by rfl) (by assumption) (by assumption) (by k_extra "my_mem_deep") (by rw [List.size_toArray]; exact Nat.le_trans (show _ ≤ 10 by omega) (by decide)) ?_
  intro g
  refine comp_const (fun i y => ∃ t : Tok, y = Value.str ⟨#[letterF ((drawnL ns).getD i 0)]⟩ t) ?_ ?_
  · intro i v I oI C oC D m₂ ys h tk E' hi hv hC hx F5 N5 off5 ne5
    obtain ⟨x, t, rfl, hx5⟩ := IntsAre.at hdr i v (by simpa using hv)
    have hg : (drawnL ns).getD i 0 = x := by rw [List.getD_eq_getElem?_getD, hx5]; rfl
    have hx0 := Int.fmod_nonneg_of_pos x (show (0 : Int) < 8 by decide)
    have hx1 := Int.fmod_lt_of_pos x (show (0 : Int) < 8 by decide)
    k_steps
    rw [item_letter]
    exact comp_end (by assumption) (by assumption) off5 (.inr ⟨listOf ws.toArray 0, by simp, rfl, _, rfl⟩) ⟨_, by rw [hg]⟩
  · intro ys hlen hY D h tk F5 N5 off5
    simp only [LCg.Off1, and_true] at off5
    (((first | refine Mine.and23 off5 ?_ | refine Mine.and22 off5 ?_ | refine Mine.and21 off5 ?_ | refine Mine.and20 off5 ?_ | refine Mine.and19 off5 ?_ | refine Mine.and18 off5 ?_ | refine Mine.and17 off5 ?_ | refine Mine.and16 off5 ?_ | refine Mine.and15 off5 ?_ | refine Mine.and14 off5 ?_ | refine Mine.and13 off5 ?_ | refine Mine.and12 off5 ?_ | refine Mine.and11 off5 ?_); clear off5; intros))
    k_steps
    refine join_gen (g := fun i => ⟨#[letterF ((drawnL ns).getD i 0)]⟩) rfl ⟨_, (N5 _ (.head _)).1, rfl, _, rfl⟩ hY (fun i => by show 1 ≤ 1000; decide) (by rw [hlen, List.size_toArray]; omega) fun t' k' => ?_
    rw [hlen, List.size_toArray, hwl]
    have ew : (⟨((List.range (drawnL ns).length).flatMap fun i => (⟨#[letterF ((drawnL ns).getD i 0)]⟩ : PySem.Str).cps.toList).toArray⟩ : PySem.Str) = wordS ns := congrArg (fun l : List Nat => (⟨l.toArray⟩ : PySem.Str)) (flat_one letterF (drawnL ns))
    rw [ew]
    k_steps
    rename News gB LB _ _ => NN
    rename Obj.data _ = Data.cell (some (Value.str (wordS ns) _)) => hd3
    refine next _ _ _ _ (by assumption) ?led hd3
    case led => (((try unfold lawLed); repeat' (first | exact news_nil | refine news_pick NN (by repeat' (first | exact List.Mem.head _ | refine List.Mem.tail _ ?_)) ?_ | exact news_rest NN (fun p hp => by repeat' (first | exact hp | refine List.Mem.tail _ ?_)))))
end
end Mine

end PartL5

section FlushY2
open PySem PySem.W PyProof.Rows PySem.Calls
namespace Mine
theorem start_Y2 {prog : Program} {w : World} {A : Around} {E : Value → Shared → Prop} {s : Shared} {env : Env} {Q : Flow → Shared → Prop} (h : wpAny (model prog w) A (execs [] env) Q E s) : wpAny (model prog w) A (execs [] env) Q E s := by
  w_top off
  first | (walk1; fail) | exact h
end Mine
end FlushY2
section PartY2
open PySem PySem.W PyProof.Rows PySem.Calls
namespace Mine
noncomputable def seenB (c : Nat) : Bool := decide ((c : Int) ∈ b1L)
noncomputable def heardP (l : List Nat) : List PySem.Str := (l.filter fun c => !seenB c).map b3Out
theorem heardP_append (a b : List Nat) : heardP (a ++ b) = heardP a ++ heardP b := by unfold heardP; rw [List.filter_append, List.map_append]
theorem unseen_b1 : (unseenF.all fun u => decide (0 ≤ u) && decide (u ∈ b1L)) = true := by decide +kernel
theorem fronts_nat : frontsF = fronts.map fun f : Nat => (f : Int) := by decide +kernel
theorem fmod_nat (x : Int) {n : Nat} (hn : 0 < n) : ∃ j : Nat, j < n ∧ x.fmod (n : Int) = (j : Int) := by
  have h0 := Int.fmod_nonneg_of_pos x (show (0 : Int) < (n : Int) by omega)
  have h1 := Int.fmod_lt_of_pos x (show (0 : Int) < (n : Int) by omega)
  exact ⟨(x.fmod n).toNat, by omega, by omega⟩
theorem front_is (x : Int) : ∃ f ∈ fronts, ∃ j < 8, (frontsF.getD ((x.fdiv 8).fmod 12).toNat 0 + x.fmod 8).toNat = f + j ∧ letterF x = 97 + j := by
  obtain ⟨i, hi, ei⟩ := fmod_nat (x.fdiv 8) (n := 12) (by decide)
  obtain ⟨j, hj, ej⟩ := fmod_nat x (n := 8) (by decide)
  have ei' : (x.fdiv 8).fmod 12 = (i : Int) := ei
  have ej' : x.fmod 8 = (j : Int) := ej
  have hlen : fronts.length = 12 := rfl
  have hil : i < fronts.length := by omega
  refine ⟨fronts[i]'hil, List.getElem_mem hil, j, hj, ?_, ?_⟩
  · rw [ei', ej', fronts_nat, Int.toNat_natCast, List.getD_eq_getElem?_getD, List.getElem?_map, List.getElem?_eq_getElem hil]
    show ((fronts[i] : Int) + (j : Int)).toNat = _
    omega
  · unfold letterF
    rw [ej']
    omega
theorem front_facts {f j : Nat} (hf : f ∈ fronts) (hj : j < 8) : okB3 (f + j) = true ∧ b3Out (f + j) = ⟨#[97 + j]⟩ ∧ seenB (f + j) = false := front_ok hf hj
theorem spell_ok {x : Int} {c : Nat} (hc : c ∈ spell1 x) : seenB c = true ∨ okB3 c = true := by
  unfold spell1 at hc
  rcases List.mem_append.mp hc with hc | hc
  · left
    split at hc
    · rename_i h27
      have hu := unseen_b1
      rw [List.all_eq_true] at hu
      obtain ⟨i, hi, ei⟩ := fmod_nat (x.fdiv 96) (n := 28) (by decide)
      have ei' : (x.fdiv 96).fmod 28 = (i : Int) := ei
      rw [ei'] at hc h27
      have hl : unseenF.length = 27 := by decide +kernel
      have hil : i < unseenF.length := by omega
      rw [List.mem_singleton.mp hc, Int.toNat_natCast, List.getD_eq_getElem?_getD, List.getElem?_eq_getElem hil]
      have hm := hu _ (List.getElem_mem hil)
      simp only [Bool.and_eq_true, decide_eq_true_eq] at hm
      show decide _ = true
      rw [decide_eq_true_eq]
      show (((unseenF[i]).toNat : Nat) : Int) ∈ b1L
      have e : (((unseenF[i]).toNat : Nat) : Int) = unseenF[i] := Int.toNat_of_nonneg hm.1
      rw [e]
      exact hm.2
    · cases hc
  · right
    rw [List.mem_singleton.mp hc]
    obtain ⟨f, hf, j, hj, e, _⟩ := front_is x
    rw [e]
    exact (front_facts hf hj).1
theorem heard_one (x : Int) : heardP (spell1 x) = [⟨#[letterF x]⟩] := by
  obtain ⟨f, hf, j, hj, e, el⟩ := front_is x
  obtain ⟨_, h2, h3⟩ := front_facts hf hj
  have e2 : spell1 x = (if (x.fdiv 96).fmod 28 < 27 then [(unseenF.getD ((x.fdiv 96).fmod 28).toNat 0).toNat] else []) ++ [f + j] := by unfold spell1; rw [e]
  have hs : ∀ c ∈ (if (x.fdiv 96).fmod 28 < 27 then [(unseenF.getD ((x.fdiv 96).fmod 28).toNat 0).toNat] else []), seenB c = true := by
    intro c hc
    split at hc
    · rename_i h27
      have hu := unseen_b1
      rw [List.all_eq_true] at hu
      obtain ⟨i, hi, ei⟩ := fmod_nat (x.fdiv 96) (n := 28) (by decide)
      have ei' : (x.fdiv 96).fmod 28 = (i : Int) := ei
      rw [ei'] at hc h27
      have hl : unseenF.length = 27 := by decide +kernel
      have hil : i < unseenF.length := by omega
      rw [List.mem_singleton.mp hc, Int.toNat_natCast, List.getD_eq_getElem?_getD, List.getElem?_eq_getElem hil]
      have hm := hu _ (List.getElem_mem hil)
      simp only [Bool.and_eq_true, decide_eq_true_eq] at hm
      show decide _ = true
      rw [decide_eq_true_eq]
      show (((unseenF[i]).toNat : Nat) : Int) ∈ b1L
      have e : (((unseenF[i]).toNat : Nat) : Int) = unseenF[i] := Int.toNat_of_nonneg hm.1
      rw [e]
      exact hm.2
    · cases hc
  rw [e2, heardP_append]
  have e3 : ∀ l : List Nat, (∀ c ∈ l, seenB c = true) → heardP l = [] := fun l hl => by
    unfold heardP
    rw [List.filter_eq_nil_iff.mpr fun c hc => by rw [hl c hc]; decide]
    rfl
  rw [e3 _ hs]
  show heardP [f + j] = _
  unfold heardP
  rw [List.filter_cons, h3]
  show [b3Out (f + j)] = _
  rw [h2, el]
theorem heard_all : ∀ ds : List Int, heardP (spellL ds) = ds.map fun x => (⟨#[letterF x]⟩ : PySem.Str)
  | [] => rfl
  | x :: ds => by
    show heardP (spell1 x ++ spellL ds) = _
    rw [heardP_append, heard_one, heard_all ds]
    rfl
theorem spellL_ok {ds : List Int} {c : Nat} (hc : c ∈ spellL ds) : seenB c = true ∨ okB3 c = true := by
  unfold spellL at hc
  obtain ⟨x, _, hx⟩ := List.mem_flatMap.mp hc
  exact spell_ok hx
end Mine

end PartY2

section FlushL6
open PySem PySem.W PyProof.Rows PySem.Calls
namespace Mine
theorem start_L6 {prog : Program} {w : World} {A : Around} {E : Value → Shared → Prop} {s : Shared} {env : Env} {Q : Flow → Shared → Prop} (h : wpAny (model prog w) A (execs [] env) Q E s) : wpAny (model prog w) A (execs [] env) Q E s := by
  w_top off
  first | (walk1; fail) | exact h
end Mine
end FlushL6
section PartL6
open PySem PySem.W PyProof.Rows PySem.Calls
namespace Mine
noncomputable def yLawC (k : List Stmt) : List Stmt := nth 4 yLawL :: k
noncomputable def lawC (k : List Stmt) : List Stmt := (fun (o : List Stmt) (_ : yLawC k = o) => o) _ (by dsimp only [yLawC, yLawL, fB, fnBs, pw, PySem.Challenge.pw_ty0053_01, nth])
noncomputable def HeardK (l : List Nat) (i : Nat) (ys : List Value) : Prop := ys.length = (heardP (l.take i)).length ∧ ∀ j y, ys[j]? = some y → ∃ t : Tok, y = Value.str ((heardP (l.take i)).getD j ⟨#[]⟩) t
theorem b1_at {w : World} {p : Program} {loose : List PySem.Str} {mean : ExcName → Option Value} {mg mb : Str → Option Value} {dp un : Nat} {gd : Option (List Code)} {cn : Str} {cs : Scope} {L a : Addr} {ccd : Value} {cl : List (Str × Addr)} {outer : List Env} {A₀ : Around} {base h₀ : Heap} {m : Str → Option Value}
    {news : List (Addr × Obj)} {s : Shared} {Q E : Value → Shared → Prop} {c : Nat} {t1 : Tok} {b : Bool} (S : Site w p loose mean mg mb dp un cn cs L a ccd cl outer A₀ base h₀ m news s) (hb : seenB c = b) (h : ∀ h' tk', Fr h₀ L h' m → News h₀ L h' news → Q (.bool b) { s with heap := h', toks := tk' }) (X : (kF w.params).In h₀) :
    wpAny (model rwl.prog w) (ktrTop dp un gd cn cs L a ccd cl outer) (call (.ref 114) [.str ⟨#[c]⟩ t1]) Q E s := by
  subst hb
  exact b1_ctr S h X
theorem heard_take {l : List Nat} {i c : Nat} (h : l[i]? = some c) : heardP (l.take (i + 1)) = heardP (l.take i) ++ (if seenB c = true then [] else [b3Out c]) := by
  rw [List.take_add_one, h, heardP_append]
  congr 1
  show ((([c] : List Nat).filter fun c => !seenB c).map b3Out) = _
  cases hb : seenB c with
  | true => rw [List.filter_cons, hb]; rfl
  | false => rw [List.filter_cons, hb]; rfl
theorem HeardK.skip {l : List Nat} {i c : Nat} {ys : List Value} (K : HeardK l i ys) (h : l[i]? = some c) (hb : seenB c = true) : HeardK l (i + 1) ys := by
  unfold HeardK
  rw [heard_take h, hb, if_pos rfl, List.append_nil]
  exact K
theorem HeardK.snoc {l : List Nat} {i c : Nat} {ys : List Value} {t : Tok} (K : HeardK l i ys) (h : l[i]? = some c) (hb : seenB c = false) : HeardK l (i + 1) (ys ++ [.str (b3Out c) t]) := by
  unfold HeardK
  rw [heard_take h, hb, if_neg Bool.false_ne_true]
  refine ⟨by rw [List.length_append, List.length_append, K.1]; rfl, fun j y hy => ?_⟩
  by_cases hj : j < ys.length
  · rw [List.getElem?_append_left hj] at hy
    obtain ⟨t, e⟩ := K.2 j y hy
    refine ⟨t, ?_⟩
    rw [e, List.getD_eq_getElem?_getD, List.getD_eq_getElem?_getD, List.getElem?_append_left (by rw [← K.1]; exact hj)]
  · rw [List.getElem?_append_right (by omega)] at hy
    cases hh : j - ys.length with
    | zero =>
      rw [hh] at hy
      refine ⟨t, ?_⟩
      rw [List.getD_eq_getElem?_getD, List.getElem?_append_right (by rw [← K.1]; omega), ← K.1, hh]
      exact (Option.some.inj hy).symm
    | succ q => rw [hh] at hy; cases hy
theorem heard_vals {ds : List Int} {ys : List Value} (K : HeardK (spellL ds) (spellL ds).length ys) : ys.length = ds.length ∧ ∀ j y, ys[j]? = some y → ∃ t : Tok, y = Value.str ⟨#[letterF (ds.getD j 0)]⟩ t := by
  unfold HeardK at K
  rw [List.take_length, heard_all, List.length_map] at K
  refine ⟨K.1, fun j y hy => ?_⟩
  obtain ⟨t, e⟩ := K.2 j y hy
  have hj : j < ds.length := by rw [← K.1]; exact (List.getElem?_eq_some_iff.mp hy).1
  refine ⟨t, ?_⟩
  rw [e, List.getD_eq_getElem?_getD, List.getElem?_map, List.getD_eq_getElem?_getD, List.getElem?_eq_getElem hj]
  rfl
section
variable {w : World} {p : Program} {loose : List PySem.Str} {mean : ExcName → Option Value} {mg mb : Str → Option Value} {gB : Heap} {LB sl fa dr : Addr} {cd : Value} {vs ws : List Value} {ns : List Int} {s : Shared} {Q : Flow → Shared → Prop} {E : Value → Shared → Prop} {mm : Str → Option Value} {k : List Stmt} {o1 o2 o3 o4 o5 o6 o7 o8 o9 o10 o11 : Obj} {t1 t2 t3 : Tok}
theorem kw_L6_1 : True := by
  k_with_none
  k_with "my_m_look" => first | exact rfl | assumption | ((try dsimp only); repeat' (first | assumption | (refine (if_neg (by decide)).trans ?_) | (exact if_pos (by decide))))
  k_with "my_mem_deep" => (repeat' (first | assumption | exact List.Mem.head _ | refine List.Mem.tail _ ?_))
  k_with "eval Name" => (k_here; k_dflt (refine' ldL ?k1 ?k2 ?_ ?k3 ?k4; (case k3 => rfl); (case k4 => rfl); (case k1 => k_asm); (case k2 => k_extra "my_m_look"); k_whole))
  k_with "CompEnd" => refine StopIt.out ?_
  k_with "eval ListComp" => (k_here; k_dflt (refine comp_str_T (_F₀ := by k_asm) (by with_unfolding_all rfl) (by decide) (by rfl) (by decide) (by rfl) ?_))
  k_with "call ref" => (k_here; (with_reducible show wpAny _ _ (call (Value.ref 179) _) _ _ _); k_dflt (refine' spelled_ctr (Site.mk (by k_asm) (by k_asm) (by k_asm) (by k_asm) (by k_asm) rfl (by decide) (by decide)) ?rc ?hi ?hl ?_ ?X; (case rc => k_extra "my_mem_deep"); (case hi => assumption); (case hl => omega); (case X => k_asm); k_whole); intro _ _ _ _ _)
  k_with "call ref" => (k_here; (with_reducible show wpAny _ _ (call (Value.ref 114) _) _ _ _); k_dflt (refine' b1_at (Site.mk (by k_asm) (by k_asm) (by k_asm) (by k_asm) (by k_asm) rfl (by decide) (by decide)) ?hb ?_ ?X; (case hb => assumption); (case X => k_asm); k_whole); intro _ _ _ _)
  k_with "call ref" => (k_here; (with_reducible show wpAny _ _ (call (Value.ref 160) _) _ _ _); k_dflt (refine' b3_ctr (Site.mk (by k_asm) (by k_asm) (by k_asm) (by k_asm) (by k_asm) rfl (by decide) (by decide)) ?ok ?_ ?X; (case ok => assumption); (case X => k_asm); k_whole); intro _ _ _ _ _)
  exact True.intro
theorem law_s3 (H : LawHyp w p loose mean mg mb gB LB sl vs ns) (F : Fr gB LB s.heap mm) (N : News gB LB s.heap (lawLed LB o1 o2 o3 o4 o5 o6 o7 o8 o9 o10 o11 ((dr, listOf ws.toArray 0) :: (188, tabObj #[]) :: [])))
    (d4 : ∃ v, o4.data = .cell v) (md : mm (Str.ofString "drawn") = some (.ref dr)) (hdr : IntsAre ws (drawnL ns)) (ldr : @LT.lt Nat _ (LB + 11) dr)
    (next : ∀ h' tk' o4' t4, Fr gB LB h' mm → News gB LB h' (lawLed LB o1 o2 o3 o4' o5 o6 o7 o8 o9 o10 o11 ((dr, listOf ws.toArray 0) :: (188, tabObj #[]) :: [])) → o4'.data = .cell (some (.str (wordS ns) t4)) → wpAny (model rwl.prog w) (callerA.deeper (lawEnv LB fa cd)) (execs k (lawEnv LB fa cd)) Q E { s with heap := h', toks := tk' }) :
    (kF w.params).In gB → wpAny (model rwl.prog w) (callerA.deeper (lawEnv LB fa cd)) (execs (lawC k) (lawEnv LB fa cd)) Q E s := by
  k_fill
  intro X
  obtain ⟨B, T, _, C, hs, hI, hl, lb⟩ := H
  obtain ⟨v4, d4⟩ := d4
  have hwl := hdr.length
  have hdl : (drawnL ns).length ≤ 5 := by
    unfold drawnL
    rw [List.length_append, List.length_map, List.length_take]
    show _ + 2 ≤ 5
    omega
  unfold lawEnv lawS lawC
  unfold lawEnv lawS at next
  unfold lawLed at N
  k_steps
  have hsl := spellL_len (drawnL ns)
  have hsz : (spellL (drawnL ns)).toArray.size = (spellL (drawnL ns)).length := List.size_toArray
  refine ⟨_, _, _, rfl, rfl, (by assumption), (by assumption), ?_, ?_⟩
  · show (spellL (drawnL ns)).toArray.size ≤ sizeLine
    rw [hsz]
    exact Nat.le_trans (show _ ≤ 10 by omega) (by decide)
  rintro s₂ ⟨g, rfl⟩
  refine comp_test (HeardK (spellL (drawnL ns))) ⟨rfl, fun j y h => by cases h⟩ ?_ ?_
  · intro i v I oI C oC D m₂ ys h tk E' hi hv hK hC hx F5 N5 off5 ne5
    obtain ⟨c, u, hc, rfl⟩ := hv
    have hc' : (spellL (drawnL ns))[i]? = some c := by simpa using hc
    have hmem := List.mem_of_getElem? hc'
    cases hb : seenB c with
    | true =>
      k_steps
      exact comp_end (by assumption) (by assumption) off5 trivial (hK.skip hc' hb)
    | false =>
      have hok : okB3 c = true := (spellL_ok hmem).resolve_left (by rw [hb]; exact Bool.false_ne_true)
      k_steps
      exact comp_end (by assumption) (by assumption) off5 trivial (hK.snoc hc' hb)
  · intro ys hK D h tk F5 N5 off5
    simp only [LCg.Off1, and_true] at off5
    (((first | refine Mine.and23 off5 ?_ | refine Mine.and22 off5 ?_ | refine Mine.and21 off5 ?_ | refine Mine.and20 off5 ?_ | refine Mine.and19 off5 ?_ | refine Mine.and18 off5 ?_ | refine Mine.and17 off5 ?_ | refine Mine.and16 off5 ?_ | refine Mine.and15 off5 ?_ | refine Mine.and14 off5 ?_ | refine Mine.and13 off5 ?_ | refine Mine.and12 off5 ?_ | refine Mine.and11 off5 ?_); clear off5; intros))
    have hK2 : HeardK (spellL (drawnL ns)) (spellL (drawnL ns)).length ys := by rw [← hsz]; exact hK
    obtain ⟨hlen, hY⟩ := heard_vals hK2
    k_steps
    refine join_gen (g := fun i => ⟨#[letterF ((drawnL ns).getD i 0)]⟩) rfl ⟨_, (N5 _ (.head _)).1, rfl, _, rfl⟩ hY (fun i => by show 1 ≤ 1000; decide) (by rw [hlen]; omega) fun t' k' => ?_
    rw [hlen]
    have ew : (⟨((List.range (drawnL ns).length).flatMap fun i => (⟨#[letterF ((drawnL ns).getD i 0)]⟩ : PySem.Str).cps.toList).toArray⟩ : PySem.Str) = wordS ns := congrArg (fun l : List Nat => (⟨l.toArray⟩ : PySem.Str)) (flat_one letterF (drawnL ns))
    rw [ew]
    k_steps
    rename News gB LB _ _ => NN
    rename Obj.data _ = Data.cell (some (Value.str (wordS ns) _)) => hd4
    refine next _ _ _ _ (by assumption) ?led hd4
    case led => (((try unfold lawLed); repeat' (first | exact news_nil | refine news_pick NN (by repeat' (first | exact List.Mem.head _ | refine List.Mem.tail _ ?_)) ?_ | exact news_rest NN (fun p hp => by repeat' (first | exact hp | refine List.Mem.tail _ ?_)))))
end
end Mine

end PartL6

section FlushL7
open PySem PySem.W PyProof.Rows PySem.Calls
namespace Mine
theorem start_L7 {prog : Program} {w : World} {A : Around} {E : Value → Shared → Prop} {s : Shared} {env : Env} {Q : Flow → Shared → Prop} (h : wpAny (model prog w) A (execs [] env) Q E s) : wpAny (model prog w) A (execs [] env) Q E s := by
  w_top off
  first | (walk1; fail) | exact h
end Mine
end FlushL7
section PartL7
open PySem PySem.W PyProof.Rows PySem.Calls
namespace Mine
theorem same_sign (n c : Nat) : PySem.Spec.same (.str ⟨#[n]⟩) (.str ⟨#[c]⟩) = (n == c) := by
  show ((⟨#[n]⟩ : PySem.Str) == ⟨#[c]⟩) = (n == c)
  rw [Bool.eq_iff_iff, beq_iff_eq, beq_iff_eq]
  constructor
  · intro h
    have := congrArg (fun s : PySem.Str => s.cps.toList) h
    simpa using this
  · intro h; rw [h]
theorem countIn_signs (c : Nat) : ∀ l : List Nat, PySem.Spec.countIn (.str ⟨#[c]⟩) (l.map fun n => PyData.str ⟨#[n]⟩) = ((l.count c : Nat) : Int)
  | [] => rfl
  | n :: l => by
    show (if PySem.Spec.same (.str ⟨#[n]⟩) (.str ⟨#[c]⟩) = true then (1 : Int) else 0) + PySem.Spec.countIn (.str ⟨#[c]⟩) (l.map fun n => PyData.str ⟨#[n]⟩) = _
    rw [same_sign, countIn_signs c l, List.count_cons]
    by_cases h : (n == c) = true
    · rw [if_pos h, if_pos h]; omega
    · rw [if_neg h, if_neg h]; omega
theorem count_sign (x : PySem.Str) (c : Nat) : Txt.count x ⟨#[c]⟩ = ((x.cps.toList.count c : Nat) : Int) := (count_cnt x c).trans (countIn_signs c _)
theorem letters_at : ∀ i : Fin 8, (Str.ofString "abcdefgh").cps[i.val]? = some (97 + i.val) := by decide +kernel
noncomputable def yLawD (k : List Stmt) : List Stmt := nth 5 yLawL :: nth 6 yLawL :: k
noncomputable def lawD (k : List Stmt) : List Stmt := (fun (o : List Stmt) (_ : yLawD k = o) => o) _ (by dsimp only [yLawD, yLawL, fB, fnBs, pw, PySem.Challenge.pw_ty0053_01, nth])
section
variable {w : World} {p : Program} {loose : List PySem.Str} {mean : ExcName → Option Value} {mg mb : Str → Option Value} {gB : Heap} {LB sl fa dr : Addr} {cd : Value} {vs ws : List Value} {ns : List Int} {s : Shared} {Q : Flow → Shared → Prop} {E : Value → Shared → Prop} {mm : Str → Option Value} {k : List Stmt} {o1 o2 o3 o4 o5 o6 o7 o8 o9 o10 o11 : Obj} {t1 t2 t3 t4 : Tok}
theorem kw_L7_1 : True := by
  k_with_none
  k_with "my_m_look" => first | exact rfl | assumption | ((try dsimp only); repeat' (first | assumption | (refine (if_neg (by decide)).trans ?_) | (exact if_pos (by decide))))
  k_with "my_mem_deep" => (repeat' (first | assumption | exact List.Mem.head _ | refine List.Mem.tail _ ?_))
  k_with "eval Name" => (k_here; k_dflt (refine' ldL ?k1 ?k2 ?_ ?k3 ?k4; (case k3 => rfl); (case k4 => rfl); (case k1 => k_asm); (case k2 => k_extra "my_m_look"); k_whole))
  k_with "CompEnd" => refine StopIt.out ?_
  k_with "eval ListComp" => (k_here; k_dflt (refine comp_str_U (_F₀ := by k_asm) (by with_unfolding_all rfl) (by decide) (by rfl) (by decide) (by rfl) ?_))
  exact True.intro
theorem law_s4 (H : LawHyp w p loose mean mg mb gB LB sl vs ns) (F : Fr gB LB s.heap mm) (N : News gB LB s.heap (lawLed LB o1 o2 o3 o4 o5 o6 o7 o8 o9 o10 o11 ((dr, listOf ws.toArray 0) :: (188, tabObj #[]) :: [])))
    (e2 : o2.data = .cell (some (.str (Str.ofString "abcdefgh") t2))) (e3 : o3.data = .cell (some (.str (wordS ns) t3))) (e4 : o4.data = .cell (some (.str (wordS ns) t4))) (d5 : ∃ v, o5.data = .cell v) (ldr : @LT.lt Nat _ (LB + 11) dr)
    (next : ∀ h' tk' o5' D ys, Fr gB LB h' mm → News gB LB h' (lawLed LB o1 o2 o3 o4 o5' o6 o7 o8 o9 o10 o11 ((D, LCg.lst ys) :: (dr, listOf ws.toArray 0) :: (188, tabObj #[]) :: [])) → o5'.data = .cell (some (.ref D)) → ys.length = 8 →
      (∀ i y, ys[i]? = some y → ∃ t : Tok, y = Value.int (((((drawnL ns).map letterF).count (97 + i)) : Nat) : Int) t) → LCg.Off1 D ([(LB + 1, o1), (LB + 2, o2), (LB + 3, o3), (LB + 4, o4), (LB + 5, o5), (LB + 6, o6), (LB + 7, o7), (LB + 8, o8), (LB + 9, o9), (LB + 10, o10), (LB + 11, o11), (dr, listOf ws.toArray 0), (188, tabObj #[])]) →
      wpAny (model rwl.prog w) (callerA.deeper (lawEnv LB fa cd)) (execs k (lawEnv LB fa cd)) Q E { s with heap := h', toks := tk' }) :
    (kF w.params).In gB → wpAny (model rwl.prog w) (callerA.deeper (lawEnv LB fa cd)) (execs (lawD k) (lawEnv LB fa cd)) Q E s := by
  k_fill
  intro X
  obtain ⟨B, T, _, C, hs, hI, hl, lb⟩ := H
  obtain ⟨v5, d5⟩ := d5
  unfold lawEnv lawS lawD
  unfold lawEnv lawS at next
  unfold lawLed at N
  k_steps
  · exfalso
    rename _ = true => hne
    simp at hne
  refine ⟨_, _, _, rfl, rfl, (by assumption), (by assumption), Nat.le_trans (show _ ≤ 8 from Nat.le_of_ble_eq_true rfl) (by decide), ?_⟩
  rintro s₂ ⟨g, rfl⟩
  refine comp_const (fun i y => ∃ t : Tok, y = Value.int (((((drawnL ns).map letterF).count (97 + i)) : Nat) : Int) t) ?_ ?_
  · intro i v I oI C oC D m₂ ys h tk E' hi hv hC hx F5 N5 off5 ne5
    obtain ⟨c, u, hc, rfl⟩ := hv
    k_steps
    have h8 : (Str.ofString "abcdefgh").cps.size = 8 := by decide +kernel
    have hc2 := letters_at ⟨i, by rw [← h8]; exact hi⟩
    have ec : c = 97 + i := Option.some.inj (hc.symm.trans hc2)
    rw [count_sign, ec]
    exact comp_end (by assumption) (by assumption) off5 trivial ⟨_, rfl⟩
  · intro ys hlen hY D h tk F5 N5 off5
    have hoff := off5
    simp only [LCg.Off1, and_true] at off5
    (((first | refine Mine.and23 off5 ?_ | refine Mine.and22 off5 ?_ | refine Mine.and21 off5 ?_ | refine Mine.and20 off5 ?_ | refine Mine.and19 off5 ?_ | refine Mine.and18 off5 ?_ | refine Mine.and17 off5 ?_ | refine Mine.and16 off5 ?_ | refine Mine.and15 off5 ?_ | refine Mine.and14 off5 ?_ | refine Mine.and13 off5 ?_ | refine Mine.and12 off5 ?_ | refine Mine.and11 off5 ?_); clear off5; intros))
    k_steps
    rename News gB LB _ _ => NN
    rename Obj.data _ = Data.cell (some (Value.ref D)) => hd5
    refine next _ _ _ D ys (by assumption) ?led hd5 (by rw [hlen]; decide +kernel) hY (by assumption)
    case led => (((try unfold lawLed); repeat' (first | exact news_nil | refine news_pick NN (by repeat' (first | exact List.Mem.head _ | refine List.Mem.tail _ ?_)) ?_ | exact news_rest NN (fun p hp => by repeat' (first | exact hp | refine List.Mem.tail _ ?_)))))
end
end Mine

end PartL7

section FlushF2
open PySem PySem.W PyProof.Rows PySem.Calls
namespace Mine
theorem start_F2 {prog : Program} {w : World} {A : Around} {E : Value → Shared → Prop} {s : Shared} {env : Env} {Q : Flow → Shared → Prop} (h : wpAny (model prog w) A (execs [] env) Q E s) : wpAny (model prog w) A (execs [] env) Q E s := by
  w_top off
  first | (walk1; fail) | exact h
end Mine
end FlushF2
section PartF2
open PySem PySem.W PyProof.Rows PySem.Calls
namespace Mine
section
variable {prog : Program} {w : World} {A : Around} {E : Value → Shared → Prop} {s : Shared} {env : Env} {target : PySem.Expr} {body : List Stmt} {Q : Flow → Shared → Prop} {h₀ : Heap} {L : Addr}
theorem for_rev {I ax : Addr} {vs : List Value} {kk : Nat} (J : Nat → (Str → Option Value) → List (Addr × Obj) → Prop) {m : Str → Option Value} {news : List (Addr × Obj)}
    (hh : A.handled = none) (hS : ∀ i m nw, J i m nw → (ax, listOf vs.toArray kk) ∈ nw) (hL : env.locals = L) (hE : PassesOwn (model prog w) A env E)
    (hgo : ∀ I v, letOwnedTupleGo target (.ref I) v = pure ()) (F : Fr h₀ L s.heap m) (N : News h₀ L s.heap ((I, revObj ax ((vs.length : Int) - 1)) :: news)) (off : ∀ p ∈ news, p.1 ≠ I) (h0 : J 0 m news)
    (turn : ∀ i v oI mm nw h tk, i < vs.length → vs.reverse[i]? = some v → J i mm nw → (∀ p ∈ nw, p.1 ≠ I) → Fr h₀ L h mm → News h₀ L h ((I, oI) :: nw) →
      wpAny (model prog w) A (assign target env v) (fun _ s₂ => wpAny (model prog w) A (execs body env) (ForEnd h₀ L I oI J { s with heap := h, toks := tk } Q i) E s₂) E { s with heap := h, toks := tk })
    (fin : ∀ mm nw h tk, J vs.length mm nw → Fr h₀ L h mm → News h₀ L h nw → Q .next { s with heap := h, toks := tk }) :
    ForSrc prog w A E env target body Q (.ref I) s := by
  have hIx := N _ (List.mem_cons_self ..)
  have hm := hS _ _ _ h0
  have hax := N _ (List.mem_cons_of_mem _ hm)
  have hne : ax ≠ I := off _ hm
  have hl : s.heap.IsList ax vs.toArray := ⟨_, hax.1, rfl, _, rfl⟩
  have hit : s.heap.IsRevIter I ax ((vs.length : Int) - 1) := ⟨_, hIx.1, rfl, rfl⟩
  have hlen : vs.toArray.size = vs.length := by simp
  refine wpAny_pyIter_revIter hit ?_
  have W := Walks.listRev (prog := prog) (w := w) hh I ax hne vs.toArray
  rw [hlen] at W
  refine for_led (S := fun nw => (ax, listOf vs.toArray kk) ∈ nw) J W (fun i h st => by obtain ⟨o, e, _⟩ := st.2.1; exact ⟨o, e⟩) (fun i h h' o nw st e e' k N' S' => ?_) hS hL hE (fun v => hgo I v) ⟨Nat.zero_le _, ?_, hl⟩ F (fun p hp => N p (List.mem_cons_of_mem _ hp)) hIx.2.1.symm hIx.2.2 off h0 ?_ fin
  · refine ⟨st.1, ?_, ⟨_, (N' _ S').1, rfl, _, rfl⟩⟩
    obtain ⟨o', q, r⟩ := st.2.1
    rw [e] at q
    cases q
    exact ⟨o, e', r⟩
  · have e : (vs.length : Int) - 1 - ((0 : Nat) : Int) = (vs.length : Int) - 1 := by omega
    rw [e]
    exact hit
  · intro i v oI mm nw h tk hi hP hJ off' F' N'
    refine turn i v oI mm nw h tk hi ?_ hJ off' F' N'
    rw [List.getElem?_reverse hi]
    simpa using hP
end
theorem kl_last_snoc (y : Value) : ∀ p : List Value, kl_last (p ++ [y]) = some (p, y)
  | [] => rfl
  | x :: p => by
    show (match kl_last (p ++ [y]) with | some (p, y) => some (x :: p, y) | none => some ([], x)) = _
    rw [kl_last_snoc y p]
end Mine

end PartF2

section FlushZ1
open PySem PySem.W PyProof.Rows PySem.Calls
namespace Mine
theorem start_Z1 {prog : Program} {w : World} {A : Around} {E : Value → Shared → Prop} {s : Shared} {env : Env} {Q : Flow → Shared → Prop} (h : wpAny (model prog w) A (execs [] env) Q E s) : wpAny (model prog w) A (execs [] env) Q E s := by
  w_top off
  first | (walk1; fail) | exact h
end Mine
end FlushZ1
section PartZ1
open PySem PySem.W PyProof.Rows PySem.Calls
namespace Mine
theorem kw_Z1_1 : True := by
  k_with_none
  k_with "my_room" => ((try simp only [depth_under_make, depth_under_kw, depth_in1, depth_deeper, depth_caller]); (try dsimp only [ktrTop]); first | exact Mine.rm0 (by assumption) | exact Mine.rm1 (by assumption) (by exact rfl) | exact Mine.rm2 (by assumption) (by exact rfl) | exact Mine.rm2 (b := 40) (by assumption) (by exact rfl) | exact Mine.rm1 (b := 40) (by assumption) (by exact rfl) | exact Mine.rm2 (b := 50) (by assumption) (by exact rfl) | exact Mine.rm1 (b := 50) (by assumption) (by exact rfl) | fail "room")
  k_with "my_units" => ((try simp only [units_in1, units_deeper, Around.mark_units, units_caller]); (try dsimp only [ktrTop]); first | exact Mine.rm0 (by assumption) | exact Mine.rm1 (by assumption) (by exact rfl) | exact Mine.rm2 (by assumption) (by exact rfl) | exact Mine.rm2 (b := 140) (by assumption) (by exact rfl) | exact Mine.rm1 (b := 140) (by assumption) (by exact rfl) | exact Mine.rm2 (b := 180) (by assumption) (by exact rfl) | exact Mine.rm1 (b := 180) (by assumption) (by exact rfl) | fail "room")
  k_with "my_m_look" => first | exact rfl | assumption | ((try dsimp only); repeat' (first | assumption | (refine (if_neg (by decide)).trans ?_) | (exact if_pos (by decide))))
  k_with "my_mem_deep" => (repeat' (first | assumption | exact List.Mem.head _ | refine List.Mem.tail _ ?_))
  k_with "exec For Name Call cons nil" => (k_here; k_dflt (refine for_start ?_))
  k_with "my_k_all" => assumption
  k_with "eval Name" => (k_here; k_dflt (refine' ld ?k1 ?k2 ?_; (case k1 => k_asm); (case k2 => k_extra "my_m_look"); k_whole))
  k_with "loadName" => (k_here; k_dflt (refine' ldn ?k1 ?k2 ?_; (case k1 => k_asm); (case k2 => k_extra "my_m_look"); k_whole))
  k_with "ForEnd" => dsimp only [ForEnd]
  k_with "call type:reversed" => ((k_here; (with_reducible show wpAny _ _ (call (Value.type _) [Value.ref _]) _ _ _); k_dflt (refine' krv_reversed ?F ?N ?l ?_; (case F => k_asm); (case N => k_asm); (case l => exact led_list (by k_asm) (by k_extra "my_mem_deep"))); intro _ _ _ _ l1; (try k_lt l1); (try k_sweep)); (revert l1; intro _))
  exact True.intro
noncomputable abbrev DSt := Option (List Int × Int)
noncomputable def descStep (st : DSt) (b : Bool) : DSt :=
  match st with
  | none => none
  | some (ps, w) => if b = false then some (ps ++ [1], w) else if ps.length < 2 then none else some (ps.dropLast.dropLast ++ [ps.getLastD 0 + ps.dropLast.getLastD 0], w + (ps.getLastD 0 - 1))
noncomputable def descRow (st : DSt) (row : List Bool) : DSt := row.reverse.foldl descStep st
noncomputable def descAll (rows : List (List Bool)) : DSt := rows.reverse.foldl descRow (some ([], 0))
theorem fold_none : ∀ l : List Bool, l.foldl descStep none = none
  | [] => rfl
  | _ :: l => fold_none l
theorem row_none (row : List Bool) : descRow none row = none := fold_none _
theorem rows_none : ∀ l : List (List Bool), l.foldl descRow none = none
  | [] => rfl
  | r :: l => by show l.foldl descRow (descRow none r) = none; rw [row_none, rows_none l]
theorem take_snoc {α : Type} {l : List α} {i : Nat} {x : α} (h : l[i]? = some x) : l.take (i + 1) = l.take i ++ [x] := by rw [List.take_add_one, h]; rfl
theorem split_at {α : Type} {l : List α} {i : Nat} {x : α} (h : l[i]? = some x) : l = l.take i ++ x :: l.drop (i + 1) := by
  have h1 := (List.getElem?_eq_some_iff.mp h)
  obtain ⟨hi, e⟩ := h1
  conv => lhs; rw [← List.take_append_drop i l]
  rw [List.drop_eq_getElem_cons hi, e]
theorem desc_dead {rows : List (List Bool)} {row : List Bool} {i j : Nat} {st0 st1 : List Int × Int} {b : Bool} (hi : rows.reverse[i]? = some row) (h0 : (rows.reverse.take i).foldl descRow (some ([], 0)) = some st0)
    (hj : row.reverse[j]? = some b) (h1 : (row.reverse.take j).foldl descStep (some st0) = some st1) (h2 : descStep (some st1) b = none) : descAll rows = none := by
  unfold descAll
  rw [split_at hi, List.foldl_append, h0]
  show (rows.reverse.drop (i + 1)).foldl descRow (descRow (some st0) row) = none
  have e : descRow (some st0) row = none := by
    unfold descRow
    rw [split_at hj, List.foldl_append, h1]
    show (row.reverse.drop (j + 1)).foldl descStep (descStep (some st1) b) = none
    rw [h2, fold_none]
  rw [e, rows_none]
noncomputable abbrev RowsT := List (Addr × List Bool × Nat)
noncomputable def RowsIn (rws : RowsT) (news : List (Addr × Obj)) : Prop := ∀ r ∈ rws, (r.1, listOf (r.2.1.map Value.bool).toArray r.2.2) ∈ news
inductive DescO (rws : RowsT) (pr : Addr) (news : List (Addr × Obj)) (i : Nat) (mm : Str → Option Value) : List (Addr × Obj) → Prop
  | mk (vs : List Value) (kp : Nat) (ps : List Int) (wy : Int) (tw : Tok) (hv : IntsAre vs ps) (e : ((rws.map (·.2.1)).reverse.take i).foldl descRow (some ([], 0)) = some (ps, wy)) (hl : ps.length ≤ 20 * i) (m1 : mm (Str.ofString "parts") = some (.ref pr)) (m2 : mm (Str.ofString "way") = some (.int wy tw)) : DescO rws pr news i mm ((pr, listOf vs.toArray kp) :: news)
inductive DescI (st0 : List Int × Int) (row : List Bool) (I : Addr) (oI : Obj) (bnd : Nat) (pr : Addr) (news : List (Addr × Obj)) (j : Nat) (mm : Str → Option Value) : List (Addr × Obj) → Prop
  | mk (its : Array Value) (kp : Nat) (vs : List Value) (ps : List Int) (wy : Int) (tw : Tok) (ei : its = vs.toArray) (hv : IntsAre vs ps) (e : (row.reverse.take j).foldl descStep (some st0) = some (ps, wy)) (hl : ps.length ≤ bnd + j) (m1 : mm (Str.ofString "parts") = some (.ref pr)) (m2 : mm (Str.ofString "way") = some (.int wy tw)) : DescI st0 row I oI bnd pr news j mm ((I, oI) :: (pr, listOf its kp) :: news)
theorem ints_snoc2 : ∀ {vs : List Value} {ps : List Int}, IntsAre vs ps → vs = [] ∧ ps = [] ∨ (∃ y t, vs = [.int y t] ∧ ps = [y]) ∨ ∃ us qs x y t u, IntsAre us qs ∧ vs = us ++ [.int x t] ++ [.int y u] ∧ ps = qs ++ [x] ++ [y]
  | _, _, .nil => .inl ⟨rfl, rfl⟩
  | _, _, .cons z t r => by
    rcases ints_snoc2 r with ⟨rfl, rfl⟩ | ⟨y, u, rfl, rfl⟩ | ⟨us, qs, x, y, t', u, h, rfl, rfl⟩
    · exact .inr (.inl ⟨z, t, rfl, rfl⟩)
    · exact .inr (.inr ⟨[], [], z, y, t, u, .nil, rfl, rfl⟩)
    · exact .inr (.inr ⟨_, _, x, y, t', u, .cons z t h, rfl, rfl⟩)
theorem desc_join (qs : List Int) (x y w : Int) : descStep (some (qs ++ [x] ++ [y], w)) true = some (qs ++ [y + x], w + (y - 1)) := by
  have h : ¬ (qs ++ [x] ++ [y]).length < 2 := by simp
  have e : descStep (some (qs ++ [x] ++ [y], w)) true = if (qs ++ [x] ++ [y]).length < 2 then none else some ((qs ++ [x] ++ [y]).dropLast.dropLast ++ [(qs ++ [x] ++ [y]).getLastD 0 + (qs ++ [x] ++ [y]).dropLast.getLastD 0], w + ((qs ++ [x] ++ [y]).getLastD 0 - 1)) := rfl
  rw [e, if_neg h]
  simp
theorem kw_Z1_2 : True := by
  k_with "call builtin:len" => (k_here; k_dflt (refine' len_led ?a ?b ?c ?_; (case a => k_asm); (case b => k_extra "my_mem_deep"); (case c => (rw [List.size_toArray]; omega)); k_whole))
  k_with "call builtin:list.append" => (k_here; k_dflt (refine' append_K ?k1 ?k2 ?k3 ?_ ?z; (case k1 => k_asm); (case k2 => k_asm); (case k3 => k_upd); (case z => (rw [List.size_toArray]; exact Nat.le_trans (show _ ≤ 4000 by omega) (by decide))); k_whole); intro _ _ _)
  k_with "call builtin:list.pop" => (k_here; (with_reducible show wpAny _ _ (call (Value.builtin _) [Value.ref _]) _ _ _); k_dflt (refine' kl_pop ?F ?N ?e ?U ?z ?_; (case F => k_asm); (case N => k_asm); (case U => k_upd); (case e => exact kl_last_snoc _ _); (case z => exact Nat.le_trans (show _ ≤ 4000 by (simp; omega)) (by decide)); k_whole); intro _ _ _)
  exact True.intro
theorem described_ctr {w : World} {p : Program} {loose : List PySem.Str} {mean : ExcName → Option Value} {mg mb : Str → Option Value} {dp un : Nat} {gd : Option (List Code)} {cn : Str} {cs : Scope} {L a : Addr} {ccd : Value} {cl : List (Str × Addr)} {outer : List Env} {A₀ : Around} {base h₀ : Heap} {m : Str → Option Value}
    {news : List (Addr × Obj)} {s : Shared} {Q E : Value → Shared → Prop} {rc : Addr} {rws : RowsT} {kk : Nat} : Site w p loose mean mg mb dp un cn cs L a ccd cl outer A₀ base h₀ m news s →
    (rc, listOf (rws.map fun r => Value.ref r.1).toArray kk) ∈ news → RowsIn rws news → rws.length ≤ 20 → (∀ r ∈ rws, r.2.1.length ≤ 20) →
    (descAll (rws.map (·.2.1)) = none → ∀ h' tk', Fr h₀ L h' m → News h₀ L h' news → Q .none { s with heap := h', toks := tk' }) →
    (∀ ps wy, descAll (rws.map (·.2.1)) = some (ps, wy) → ∀ D fl us ku tw h' tk', Fr h₀ L h' m → News h₀ L h' ((D, ({ cls := .type "tuple", data := .seq #[.ref fl, .int wy tw] } : Obj)) :: (fl, listOf us.toArray ku) :: news) → IntsAre us ps.reverse → (∀ p ∈ news, p.1 < fl) → fl < D → (∀ p ∈ news, p.1 < D) → Q (.ref D) { s with heap := h', toks := tk' }) →
  (kF w.params).In h₀ → wpAny (model rwl.prog w) (ktrTop dp un gd cn cs L a ccd cl outer) (call (.ref 198) [.ref rc]) Q E s := by
  k_fill
  intro S hrc hin hl hl2 hnone hsome X
  obtain ⟨B, F, _, N, T, hk, hdp, hun⟩ := S
  refine wpAny_call ?_
  k_dflt (((refine' code_def ?k1 ?k2 ?k3 ?k4 ?k5 ?kA ?kF ?kK ?k6 ?k7 ?k8 ?k9 ?kB ?_ ?c2 ?c3 ?c4 ?c5; (case kA => exact rfl); (case kF => exact rfl); (case kK => assumption); (case k1 => k_asm); (case k2 => k_asm); (case k3 => k_asm); (case k4 => k_asm); (case k5 => k_asm); (case k6 => k_is); (case k7 => k_is); (case k8 => ktr_room); (case k9 => exact BindsTo.of_eq rfl); (case c5 => decide); (case kB => exact locs rfl); (case c2 => exact rfl); (case c3 => exact rfl); (case c4 => exact rfl); k_whole; intro gB LB h' FG' F' N' B' X' T'; (try dsimp only); (try k_lift B'); (try k_fold))))
  k_steps
  k_dflt (refine' for_rev (L := LB) (DescO rws _ news) rfl ?hS rfl ?hE (fun _ _ => rfl) (by assumption) (by assumption) ?off ?h0 ?turn ?fin)
  case hS =>
    rintro i mm nw ⟨vs, kp, ps, wy, tw, _, _, _, _, _⟩
    exact .tail _ hrc
  case hE => first | passes_own | with_unfolding_all passes_own
  case off =>
    rename _ ∧ AllLt _ news => lx
    intro q hq
    rcases List.mem_cons.mp hq with rfl | hq
    · exact Nat.ne_of_lt lx.1
    · exact Nat.ne_of_lt (allLt_all lx.2 q hq)
  case h0 =>
    refine DescO.mk [] 0 [] 0 ?tw0 .nil ?e0 (Nat.zero_le _) ?m10 ?m20
    case e0 => rfl
    case m10 => k_extra "my_m_look"
    case m20 => k_extra "my_m_look"
  case turn =>
    rename _ ∧ AllLt _ news => lx
    rintro i v oI mm nw h tk hi' hv ⟨vs, kp, ps, wy, tw, hvs, hd, hlen, m1, m2⟩ off FF NN
    rw [← List.map_reverse, List.getElem?_map] at hv
    cases er : rws.reverse[i]? with
    | none => rw [er] at hv; cases hv
    | some r =>
      rw [er] at hv
      cases hv
      have hmem : r ∈ rws := List.mem_reverse.mp (List.mem_of_getElem? er)
      have hrr := hin r hmem
      have hrl := hl2 r hmem
      have hrow : ((rws.map (·.2.1)).reverse)[i]? = some r.2.1 := by rw [← List.map_reverse, List.getElem?_map, er]; rfl
      have hi20 : i < 20 := by rw [List.length_map] at hi'; omega
      have hpI := off _ (.head _)
      k_steps
      rename ∀ p ∈ news, p.1 < _ => hlt
      have hnp : ∀ p ∈ news, p.1 ≠ _ := fun p hp => Nat.ne_of_lt (hlt p hp)
      k_dflt (refine' for_rev (L := LB) (DescI (ps, wy) r.2.1 _ oI (20 * i) _ news) rfl ?hS2 rfl ?hE2 (fun _ _ => rfl) (by assumption) (by assumption) ?off2 ?h02 ?turn2 ?fin2)
      case hS2 =>
        rintro j mm nw ⟨its, kp, vs, ps, wy, tw, _, _, _, _, _, _⟩
        exact .tail _ (.tail _ hrr)
      case hE2 => first | passes_own | with_unfolding_all passes_own
      case off2 =>
        rename _ ∧ _ ∧ AllLt _ news => ly
        intro q hq
        rcases List.mem_cons.mp hq with rfl | hq
        · exact Nat.ne_of_lt ly.1
        · rcases List.mem_cons.mp hq with rfl | hq
          · exact Nat.ne_of_lt ly.2.1
          · exact Nat.ne_of_lt (allLt_all ly.2.2 q hq)
      case h02 =>
        refine DescI.mk _ _ vs ps wy tw ?e0 hvs ?e1 (Nat.le_trans hlen (Nat.le_add_right _ _)) ?m10 ?m20
        case e0 => rfl
        case e1 => rfl
        case m10 => k_extra "my_m_look"
        case m20 => k_extra "my_m_look"
      case turn2 =>
        rintro j v2 oI2 mm2 nw2 h2 tk2 hj hv2 ⟨_, kp2, vs2, ps2, wy2, tw2, rfl, hvs2, hd2, hlen2, m21, m22⟩ off2 FF2 NN2
        rw [← List.map_reverse, List.getElem?_map] at hv2
        rw [List.length_map] at hj
        have hsz2 := hvs2.length
        have oI_2 := off2 _ (.head _)
        have op_2 := off2 _ (.tail _ (.head _))
        have hpI2 : @Ne Nat _ _ := hpI
        have hop2 : @Ne Nat _ _ := op_2
        have hoI2 : @Ne Nat _ _ := oI_2
        dsimp only at hpI2 hop2 hoI2
        cases eb : r.2.1.reverse[j]? with
        | none => rw [eb] at hv2; cases hv2
        | some b =>
          rw [eb] at hv2
          cases hv2
          have etk := take_snoc eb
          cases b with
          | false =>
            k_steps
            refine ForNext.mk _ (by assumption) (by assumption) ?_ (DescI.mk _ _ _ _ _ _ (List.push_toArray _ _) (ints_snoc hvs2) (by rw [etk, List.foldl_append, hd2]; rfl) (by rw [List.length_append, List.length_singleton]; omega) (by k_extra "my_m_look") (by k_extra "my_m_look"))
            intro q hq
            rcases List.mem_cons.mp hq with rfl | hq
            · exact hoI2
            · rcases List.mem_cons.mp hq with rfl | hq
              · exact hop2
              · exact off2 q (.tail _ (.tail _ hq))
          | true =>
            rcases ints_snoc2 hvs2 with ⟨rfl, rfl⟩ | ⟨y, t, rfl, rfl⟩ | ⟨us, qs, x, y, t, u, hus, rfl, rfl⟩
            · k_steps
              · rename News h₀ L _ _ => NX
                exact hnone (desc_dead hrow hd eb hd2 rfl) _ _ (by assumption) (fun p hp => NX p (.tail _ (.tail _ (.tail _ hp))))
            · k_steps
              · rename News h₀ L _ _ => NX
                exact hnone (desc_dead hrow hd eb hd2 rfl) _ _ (by assumption) (fun p hp => NX p (.tail _ (.tail _ (.tail _ hp))))
              · exfalso
                rename ¬ _ => hx
                exact hx (show ((1 : Nat) : Int) < 2 by decide)
            · have hul := hus.length
              have hlq : us.length ≤ 500 := by
                rw [List.length_append, List.length_append] at hlen2
                omega
              k_steps
              · exfalso
                rename _ < _ => hx
                simp at hx
                omega
              refine ForNext.mk _ (by assumption) (by assumption) ?_ (DescI.mk _ _ _ _ _ _ (List.push_toArray _ _) (ints_snoc hus) (by rw [etk, List.foldl_append, hd2]; exact desc_join _ _ _ _) ?_ (by k_extra "my_m_look") (by k_extra "my_m_look"))
              · intro q hq
                rcases List.mem_cons.mp hq with rfl | hq
                · exact hoI2
                · rcases List.mem_cons.mp hq with rfl | hq
                  · exact hop2
                  · exact off2 q (.tail _ (.tail _ hq))
              · rw [List.length_append, List.length_append] at hlen2
                rw [List.length_append]
                simp only [List.length_singleton] at hlen2 ⊢
                omega
      case fin2 =>
        rintro mm2 nw2 h2 tk2 ⟨_, kp2, vs2, ps2, wy2, tw2, rfl, hvs2, hd2, hlen2, m21, m22⟩ FF2 NN2
        rw [List.length_map] at hd2 hlen2
        rw [List.take_of_length_le (by rw [List.length_reverse]; exact Nat.le_refl _)] at hd2
        k_steps
        refine ForNext.mk _ (by assumption) (by assumption) ?_ (DescO.mk vs2 kp2 ps2 wy2 tw2 hvs2 ?_ (by omega) (by k_extra "my_m_look") (by k_extra "my_m_look"))
        · intro q hq
          rcases List.mem_cons.mp hq with rfl | hq
          · exact hpI
          · exact off q (.tail _ hq)
        · rw [take_snoc hrow, List.foldl_append, hd]
          exact hd2
  case fin =>
    rintro mm nw h tk ⟨vs, kp, ps, wy, tw, hvs, hd, hlen, m1, m2⟩ FF NN
    have hall : descAll (rws.map (·.2.1)) = some (ps, wy) := by
      rw [List.take_of_length_le (by rw [List.length_reverse, List.length_map, List.length_map]; exact Nat.le_refl _)] at hd
      exact hd
    k_steps
    rename News h₀ L _ _ => NX
    rename IntsAre _ ps.reverse => hrev
    rename _ ∧ _ ∧ AllLt _ news => lD
    rename _ ∧ AllLt _ news => lF
    refine hsome ps wy hall _ _ _ 0 tw _ _ (by assumption) (fun p hp => NX p ?_) hrev (allLt_all lF.2) lD.1 (allLt_all lD.2.2)
    rcases List.mem_cons.mp hp with rfl | hp
    · exact .head _
    rcases List.mem_cons.mp hp with rfl | hp
    · exact .tail _ (.head _)
    exact .tail _ (.tail _ (.tail _ hp))
end Mine

end PartZ1

section FlushG1
open PySem PySem.W PyProof.Rows PySem.Calls
namespace Mine
theorem start_G1 {prog : Program} {w : World} {A : Around} {E : Value → Shared → Prop} {s : Shared} {env : Env} {Q : Flow → Shared → Prop} (h : wpAny (model prog w) A (execs [] env) Q E s) : wpAny (model prog w) A (execs [] env) Q E s := by
  w_top off
  first | (walk1; fail) | exact h
end Mine
end FlushG1
section PartG1
open PySem PySem.W PyProof.Rows PySem.Calls
namespace Mine
theorem bisF_congr {P R : Int → Bool} : ∀ (n : Nat) (lo hi : Int), (∀ k, lo ≤ k → k < hi → P k = R k) → bisF P n lo hi = bisF R n lo hi
  | 0, _, _, _ => rfl
  | n + 1, lo, hi, h => by
    show (if lo < hi then _ else lo) = (if lo < hi then _ else lo)
    by_cases c : lo < hi
    · rw [if_pos c, if_pos c, Int.fdiv_eq_ediv_of_nonneg _ (by decide : (0:Int) ≤ 2)]
      rw [h ((lo + hi) / 2) (by omega) (by omega)]
      rw [bisF_congr n _ hi (fun k a b => h k (by omega) b), bisF_congr n lo _ (fun k a b => h k a (by omega))]
    · rw [if_neg c, if_neg c]
noncomputable def hsOf (S : Nat) : List Nat := (List.range 8).filter fun k => S.testBit k
noncomputable def pFirst (hs : List Nat) (car : Nat) : Int := bisF (fun k => decide (hs.getD k.toNat 0 < car)) ((hs.length : Nat) : Int).toNat 0 hs.length
noncomputable def pLast (hs : List Nat) (car : Nat) (fst : Int) : Int := bisF (fun k => !decide ((car : Int) - fst < (hs.getD k.toNat 0 : Int) - k)) ((hs.length : Int) - fst).toNat fst hs.length
noncomputable def pZero (hs : List Nat) : Int := bisF (fun k => !decide (0 < (hs.getD k.toNat 0 : Int) - k)) ((hs.length : Int) - 0).toNat 0 hs.length
noncomputable def pHue (hs : List Nat) (car : Nat) : Int :=
  if (car : Int) + (pLast hs car (pFirst hs car) - pFirst hs car) = 8 then pZero hs else (car : Int) + (pLast hs car (pFirst hs car) - pFirst hs car)
noncomputable def insAt (hs : List Nat) (k h : Nat) : List Nat := hs.take k ++ h :: hs.drop k
noncomputable def freeFrom (S car : Nat) : Nat → Nat → Nat
  | 0, j => j
  | n + 1, j => if S.testBit ((car + j) % 8) then freeFrom S car n (j + 1) else j
noncomputable def parkM (S car : Nat) : Nat × Nat := (S ||| (1 <<< ((car + freeFrom S car 8 0) % 8)), freeFrom S car 8 0)
noncomputable def okM (S : Nat) : Bool := decide (S < 256) && decide ((hsOf S).length ≤ 6)
noncomputable def okPark (S car : Nat) : Bool :=
  !okM S || (decide (pFirst (hsOf S) car ≤ pLast (hsOf S) car (pFirst (hsOf S) car)) && decide ((car : Int) + (pLast (hsOf S) car (pFirst (hsOf S) car) - pFirst (hsOf S) car) ≤ 8) && decide (0 ≤ pHue (hsOf S) car) && decide (pHue (hsOf S) car < 8)
    && decide (insAt (hsOf S) (pFirst (hsOf S) (pHue (hsOf S) car).toNat).toNat (pHue (hsOf S) car).toNat = hsOf (parkM S car).1)
    && decide ((pHue (hsOf S) car - (car : Int)).fmod 8 = ((parkM S car).2 : Int)))
theorem park_tab : ∀ (S : Fin 256) (car : Fin 8), okPark S.val car.val = true := by decide +kernel
theorem hs_tab : ∀ (S : Fin 256), (hsOf S.val).all (fun h => decide (h < 8)) = true := by decide +kernel
noncomputable def parkS (st : Option (Nat × Nat)) (car : Nat) : Option (Nat × Nat) :=
  match st with
  | none => none
  | some (S, w) => if okM S && decide (car < 8) then some ((parkM S car).1, w + (parkM S car).2) else none
noncomputable def parkTwo (S a b : Nat) : Option (Nat × Nat) := if okM S then (if okM (parkM S a).1 then some ((parkM (parkM S a).1 b).1, (parkM S a).2 + (parkM (parkM S a).1 b).2) else none) else none
theorem two_tab : ∀ (S : Fin 256) (a b : Fin 8), (decide (a.val ≤ b.val) || decide (parkTwo S.val a.val b.val = parkTwo S.val b.val a.val)) = true := by decide +kernel
theorem parkTwo_comm (S : Nat) {a b : Nat} (ha : a < 8) (hb : b < 8) : parkTwo S a b = parkTwo S b a := by
  by_cases hS : S < 256
  · have h1 := two_tab ⟨S, hS⟩ ⟨a, ha⟩ ⟨b, hb⟩
    have h2 := two_tab ⟨S, hS⟩ ⟨b, hb⟩ ⟨a, ha⟩
    simp only [Bool.or_eq_true, decide_eq_true_eq] at h1 h2
    rcases h1 with h1 | h1
    · rcases h2 with h2 | h2
      · have : a = b := by omega
        rw [this]
      · exact h2.symm
    · exact h1
  · have : okM S = false := by unfold okM; rw [decide_eq_false hS]; rfl
    unfold parkTwo
    rw [this]
    rfl
theorem parkS_two (S w a b : Nat) : parkS (parkS (some (S, w)) a) b = if a < 8 ∧ b < 8 then (parkTwo S a b).map (fun q => (q.1, w + q.2)) else none := by
  unfold parkTwo
  by_cases hS : okM S = true
  · by_cases ha : a < 8
    · have e1 : parkS (some (S, w)) a = some ((parkM S a).1, w + (parkM S a).2) := by
        show (if okM S && decide (a < 8) then _ else none) = _
        rw [hS, decide_eq_true ha]
        rfl
      rw [e1, if_pos hS]
      by_cases hT : okM (parkM S a).1 = true
      · by_cases hb : b < 8
        · have e2 : parkS (some ((parkM S a).1, w + (parkM S a).2)) b = some ((parkM (parkM S a).1 b).1, w + (parkM S a).2 + (parkM (parkM S a).1 b).2) := by
            show (if okM (parkM S a).1 && decide (b < 8) then _ else none) = _
            rw [hT, decide_eq_true hb]
            rfl
          rw [e2, if_pos ⟨ha, hb⟩, if_pos hT, Nat.add_assoc]
          rfl
        · have e2 : parkS (some ((parkM S a).1, w + (parkM S a).2)) b = none := by
            show (if okM (parkM S a).1 && decide (b < 8) then _ else none) = _
            rw [hT, decide_eq_false hb]
            rfl
          rw [e2, if_neg (fun x => hb x.2)]
      · have hT' : okM (parkM S a).1 = false := Bool.eq_false_iff.mpr hT
        have e2 : parkS (some ((parkM S a).1, w + (parkM S a).2)) b = none := by
          show (if okM (parkM S a).1 && decide (b < 8) then _ else none) = _
          rw [hT']
          rfl
        rw [e2, if_neg hT]
        by_cases hb : b < 8
        · rw [if_pos ⟨ha, hb⟩]; rfl
        · rw [if_neg (fun x => hb x.2)]
    · have e1 : parkS (some (S, w)) a = none := by
        show (if okM S && decide (a < 8) then _ else none) = _
        rw [hS, decide_eq_false ha]
        rfl
      rw [e1, if_neg (fun x => ha x.1)]
      rfl
  · have hS' : okM S = false := Bool.eq_false_iff.mpr hS
    have e1 : parkS (some (S, w)) a = none := by
      show (if okM S && decide (a < 8) then _ else none) = _
      rw [hS']
      rfl
    rw [e1, hS']
    by_cases h : a < 8 ∧ b < 8
    · rw [if_pos h]; rfl
    · rw [if_neg h]; rfl
theorem parkS_comm (st : Option (Nat × Nat)) (a b : Nat) : parkS (parkS st a) b = parkS (parkS st b) a := by
  cases st with
  | none => rfl
  | some p =>
    obtain ⟨S, w⟩ := p
    rw [parkS_two, parkS_two]
    by_cases h : a < 8 ∧ b < 8
    · rw [if_pos h, if_pos ⟨h.2, h.1⟩, parkTwo_comm S h.1 h.2]
    · rw [if_neg h, if_neg (fun x => h ⟨x.2, x.1⟩)]
noncomputable def parkAll (cars : List Nat) : Option (Nat × Nat) := cars.foldl parkS (some (0, 0))
theorem parkAll_perm {l₁ l₂ : List Nat} (p : l₁.Perm l₂) : parkAll l₁ = parkAll l₂ := p.foldl_eq' (fun x _ y _ z => parkS_comm z x y) _
theorem parkS_none : ∀ l : List Nat, l.foldl parkS none = none
  | [] => rfl
  | _ :: l => parkS_none l
theorem parkAll_take {l : List Nat} {r : Nat × Nat} (h : parkAll l = some r) (i : Nat) : ∃ q, parkAll (l.take i) = some q := by
  cases e : parkAll (l.take i) with
  | some q => exact ⟨q, rfl⟩
  | none =>
    rw [parkAll, ← List.take_append_drop i l, List.foldl_append] at h
    rw [parkAll] at e
    rw [e, parkS_none] at h
    cases h
theorem parkAll_step {l : List Nat} {r q : Nat × Nat} (h : parkAll l = some r) {i : Nat} (hi : i < l.length) (e : parkAll (l.take i) = some q) :
    okM q.1 = true ∧ l.getD i 0 < 8 ∧ parkAll (l.take (i + 1)) = some ((parkM q.1 (l.getD i 0)).1, q.2 + (parkM q.1 (l.getD i 0)).2) := by
  obtain ⟨q', e'⟩ := parkAll_take h (i + 1)
  have hl : l.take (i + 1) = l.take i ++ [l.getD i 0] := by
    rw [List.take_add_one, List.getElem?_eq_getElem hi, List.getD_eq_getElem?_getD, List.getElem?_eq_getElem hi]
    rfl
  have e2 : parkAll (l.take (i + 1)) = parkS (some q) (l.getD i 0) := by
    rw [hl, parkAll, List.foldl_append]
    rw [parkAll] at e
    rw [e]
    rfl
  have e3 : parkS (some q) (l.getD i 0) = if okM q.1 && decide (l.getD i 0 < 8) then some ((parkM q.1 (l.getD i 0)).1, q.2 + (parkM q.1 (l.getD i 0)).2) else none := rfl
  cases c : okM q.1 && decide (l.getD i 0 < 8) with
  | false => rw [e2, e3, c] at e'; cases e'
  | true =>
    rw [e2, e3, c]
    simp only [Bool.and_eq_true, decide_eq_true_eq] at c
    exact ⟨c.1, c.2, rfl⟩
structure ParkOk (S car : Nat) : Prop where
  c1 : pFirst (hsOf S) car ≤ pLast (hsOf S) car (pFirst (hsOf S) car)
  c2 : (car : Int) + (pLast (hsOf S) car (pFirst (hsOf S) car) - pFirst (hsOf S) car) ≤ 8
  c3 : 0 ≤ pHue (hsOf S) car
  c4 : pHue (hsOf S) car < 8
  c5 : insAt (hsOf S) (pFirst (hsOf S) (pHue (hsOf S) car).toNat).toNat (pHue (hsOf S) car).toNat = hsOf (parkM S car).1
  c6 : (pHue (hsOf S) car - (car : Int)).fmod 8 = ((parkM S car).2 : Int)
theorem park_ok {S car : Nat} (hS : okM S = true) (hc : car < 8) : ParkOk S car := by
  have h := park_tab ⟨S, by unfold okM at hS; simp only [Bool.and_eq_true, decide_eq_true_eq] at hS; exact hS.1⟩ ⟨car, hc⟩
  unfold okPark at h
  rw [hS] at h
  simp only [Bool.not_true, Bool.false_or, Bool.and_eq_true, decide_eq_true_eq] at h
  exact ⟨h.1.1.1.1.1, h.1.1.1.1.2, h.1.1.1.2, h.1.1.2, h.1.2, h.2⟩
theorem hs_lt {S h : Nat} (hS : okM S = true) (hh : h ∈ hsOf S) : h < 8 := by
  have e := hs_tab ⟨S, by unfold okM at hS; simp only [Bool.and_eq_true, decide_eq_true_eq] at hS; exact hS.1⟩
  rw [List.all_eq_true] at e
  exact of_decide_eq_true (e h hh)
theorem hs_len {S : Nat} (hS : okM S = true) : (hsOf S).length ≤ 6 := by unfold okM at hS; simp only [Bool.and_eq_true, decide_eq_true_eq] at hS; exact hS.2
end Mine

end PartG1

section FlushG2
open PySem PySem.W PyProof.Rows PySem.Calls
namespace Mine
theorem start_G2 {prog : Program} {w : World} {A : Around} {E : Value → Shared → Prop} {s : Shared} {env : Env} {Q : Flow → Shared → Prop} (h : wpAny (model prog w) A (execs [] env) Q E s) : wpAny (model prog w) A (execs [] env) Q E s := by
  w_top off
  first | (walk1; fail) | exact h
end Mine
end FlushG2
section PartG2
open PySem PySem.W PyProof.Rows PySem.Calls
namespace Mine
noncomputable def baseL (ls : List Nat) : List Nat := (List.range 8).map fun k => (ls ++ [6, 7]).count k
noncomputable def boundT (ls : List Nat) : Nat := (7 - (ls.length + 2)) / (8 - (baseL ls).count 0)
noncomputable def countsL (ls : List Nat) (t : Nat) : List Nat := (baseL ls).map fun c => if 0 < c then c + t else 0
noncomputable def carsL (cs : List Nat) : List Nat := (List.range 8).flatMap fun k => List.replicate (cs.getD k 0) k
noncomputable def rowsL (cs : List Nat) : List (List Bool) := (List.range 8).map fun k => List.replicate (cs.getD k 0) true ++ [false]
noncomputable def sweepL (cs : List Nat) : List Int × Int × Int := sweepF (fun i => ((cs.getD i 0 : Nat) : Int)) 16
noncomputable def aheadL (free : List Int) (cut : Nat) : List Int := ((List.range 8).map fun j => ((j : Nat) : Int)).filter fun j => free.contains ((j + (cut : Int)) % 8)
noncomputable def gapsL : Int → List Int → List Int
  | _, [] => []
  | a, b :: r => (b - a) :: gapsL b r
noncomputable def dueL (cs : List Nat) (cut : Nat) : Option (List Int × Int) :=
  if (sweepL cs).1.contains (((cut : Int) - 1) % 8) then some (gapsL (-1) (aheadL (sweepL cs).1 cut), (sweepL cs).2.1) else none
noncomputable def okRot (cs : List Nat) (cut : Nat) : Bool := decide ((descAll ((rowsL cs).drop cut ++ (rowsL cs).take cut)).map (fun p => (p.1.reverse, p.2)) = dueL cs cut)
noncomputable def okPk (cs : List Nat) : Bool :=
  match parkAll (carsL cs) with
  | none => false
  | some (S, wy) => decide ((wy : Int) = (sweepL cs).2.1) && decide (hsOf S = (List.range 8).filter fun k : Nat => !(sweepL cs).1.contains ((k : Nat) : Int)) && decide (S < 256)
noncomputable def okAh (cs : List Nat) (cut : Nat) : Bool := ((sweepL cs).1.map fun k => (k - (0 + (cut : Int))).fmod 8).isPerm (aheadL (sweepL cs).1 cut)
noncomputable def okCs (cs : List Nat) : Bool := okPk cs && (List.range 8).all (okRot cs) && decide ((carsL cs).length < 8) && (List.range 8).all (okAh cs)
noncomputable def okLs (ls : List Nat) : Bool := (List.range (boundT ls + 1)).all fun t => okCs (countsL ls t)
theorem ok0 : okLs [] = true := by decide +kernel
theorem ok1 : ∀ a : Fin 8, okLs [a.val] = true := by decide +kernel
theorem ok2 : ∀ a b : Fin 8, (decide (a.val ≤ b.val) == false || okLs [a.val, b.val]) = true := by decide +kernel
theorem ok3 : ∀ a b c : Fin 8, (decide (a.val ≤ b.val ∧ b.val ≤ c.val) == false || okLs [a.val, b.val, c.val]) = true := by decide +kernel
theorem baseL_perm {l l' : List Nat} (p : l.Perm l') : baseL l = baseL l' := List.map_congr_left fun k _ => (p.append_right [6, 7]).count_eq k
theorem okLs_perm {l l' : List Nat} (p : l.Perm l') : okLs l = okLs l' := by
  unfold okLs boundT countsL
  rw [baseL_perm p, p.length_eq]
theorem ok2' {a b : Nat} (ha : a < 8) (hb : b < 8) (h : a ≤ b) : okLs [a, b] = true := by
  have := ok2 ⟨a, ha⟩ ⟨b, hb⟩
  rw [decide_eq_true h] at this
  simpa using this
theorem ok3' {a b c : Nat} (ha : a < 8) (hb : b < 8) (hc : c < 8) (h : a ≤ b ∧ b ≤ c) : okLs [a, b, c] = true := by
  have := ok3 ⟨a, ha⟩ ⟨b, hb⟩ ⟨c, hc⟩
  rw [decide_eq_true h] at this
  simpa using this
theorem ok_all (ls : List Nat) (hl : ls.length ≤ 3) (h8 : ∀ x ∈ ls, x < 8) : okLs ls = true := by
  match ls, hl, h8 with
  | [], _, _ => exact ok0
  | [a], _, h8 => exact ok1 ⟨a, h8 a (by simp)⟩
  | [a, b], _, h8 =>
    have ha := h8 a (by simp)
    have hb := h8 b (by simp)
    by_cases h : a ≤ b
    · exact ok2' ha hb h
    · rw [okLs_perm (List.Perm.swap b a [])]
      exact ok2' hb ha (by omega)
  | [a, b, c], _, h8 =>
    have ha := h8 a (by simp)
    have hb := h8 b (by simp)
    have hc := h8 c (by simp)
    have pab : [a, b, c].Perm [b, a, c] := List.Perm.swap b a [c]
    have pbc : ∀ x y z : Nat, [x, y, z].Perm [x, z, y] := fun x y z => (List.Perm.swap z y []).cons x
    have pxy : ∀ x y z : Nat, [x, y, z].Perm [y, x, z] := fun x y z => List.Perm.swap y x [z]
    by_cases h1 : a ≤ b
    · by_cases h2 : b ≤ c
      · exact ok3' ha hb hc ⟨h1, h2⟩
      · by_cases h3 : a ≤ c
        · rw [okLs_perm (pbc a b c)]
          exact ok3' ha hc hb ⟨h3, by omega⟩
        · rw [okLs_perm ((pbc a b c).trans (pxy a c b))]
          exact ok3' hc ha hb ⟨by omega, h1⟩
    · by_cases h2 : a ≤ c
      · rw [okLs_perm (pxy a b c)]
        exact ok3' hb ha hc ⟨by omega, h2⟩
      · by_cases h3 : b ≤ c
        · rw [okLs_perm ((pxy a b c).trans (pbc b a c))]
          exact ok3' hb hc ha ⟨h3, by omega⟩
        · rw [okLs_perm (((pxy a b c).trans (pbc b a c)).trans (pxy b c a))]
          exact ok3' hc hb ha ⟨by omega, by omega⟩
  | _ :: _ :: _ :: _ :: _, hl, _ => exact absurd hl (by simp)
end Mine

end PartG2

section FlushL8
open PySem PySem.W PyProof.Rows PySem.Calls
namespace Mine
theorem start_L8 {prog : Program} {w : World} {A : Around} {E : Value → Shared → Prop} {s : Shared} {env : Env} {Q : Flow → Shared → Prop} (h : wpAny (model prog w) A (execs [] env) Q E s) : wpAny (model prog w) A (execs [] env) Q E s := by
  w_top off
  first | (walk1; fail) | exact h
end Mine
end FlushL8
section PartL8
open PySem PySem.W PyProof.Rows PySem.Calls
namespace Mine
noncomputable def yLawE (k : List Stmt) : List Stmt := nth 7 yLawL :: nth 8 yLawL :: k
noncomputable def lawE (k : List Stmt) : List Stmt := (fun (o : List Stmt) (_ : yLawE k = o) => o) _ (by dsimp only [yLawE, yLawL, fB, fnBs, pw, PySem.Challenge.pw_ty0053_01, nth])
noncomputable def cntL (ns : List Int) : List Int := (List.range 8).map fun i => ((((drawnL ns).map letterF).count (97 + i) : Nat) : Int)
noncomputable def timesI (ns : List Int) : Int := ((drawnL ns).sum.fdiv 8).fmod ((7 - ((drawnL ns).length : Int)).fdiv (8 - ((cntL ns).count 0 : Nat)) + 1)
theorem cntL_pos (ns : List Int) : 0 < ((drawnL ns).map letterF).count 103 ∧ 0 < ((drawnL ns).map letterF).count 104 := by
  have h1 : 103 ∈ (drawnL ns).map letterF := List.mem_map.mpr ⟨518, by unfold drawnL; simp, by decide⟩
  have h2 : 104 ∈ (drawnL ns).map letterF := List.mem_map.mpr ⟨2671, by unfold drawnL; simp, by decide⟩
  exact ⟨List.count_pos_iff.mpr h1, List.count_pos_iff.mpr h2⟩
theorem cnt0_le (ns : List Int) : (cntL ns).count 0 ≤ 6 := by
  obtain ⟨h1, h2⟩ := cntL_pos ns
  have e : cntL ns = ((List.range 6).map fun i => ((((drawnL ns).map letterF).count (97 + i) : Nat) : Int)) ++ [((((drawnL ns).map letterF).count 103 : Nat) : Int), ((((drawnL ns).map letterF).count 104 : Nat) : Int)] := rfl
  rw [e, List.count_append]
  have l6 : (((List.range 6).map fun i => ((((drawnL ns).map letterF).count (97 + i) : Nat) : Int))).count 0 ≤ 6 := Nat.le_trans List.count_le_length (by rw [List.length_map, List.length_range]; exact Nat.le_refl _)
  have l2 : ([((((drawnL ns).map letterF).count 103 : Nat) : Int), ((((drawnL ns).map letterF).count 104 : Nat) : Int)]).count 0 = 0 := by
    rw [List.count_eq_zero]
    intro h
    simp only [List.mem_cons, List.not_mem_nil, or_false] at h
    rcases h with h | h <;> omega
  omega
theorem ints_of : ∀ (ys : List Value) (f : Nat → Int), (∀ i y, ys[i]? = some y → ∃ t : Tok, y = Value.int (f i) t) → IntsAre ys ((List.range ys.length).map f)
  | [], _, _ => .nil
  | y :: ys, f, h => by
    obtain ⟨t, rfl⟩ := h 0 y rfl
    rw [List.length_cons, List.range_succ_eq_map, List.map_cons, List.map_map]
    exact .cons _ _ (ints_of ys (fun i => f (i + 1)) fun i y hy => h (i + 1) y hy)
section
variable {w : World} {p : Program} {loose : List PySem.Str} {mean : ExcName → Option Value} {mg mb : Str → Option Value} {gB : Heap} {LB sl fa dr : Addr} {cd : Value} {vs ws : List Value} {ns : List Int} {s : Shared} {Q : Flow → Shared → Prop} {E : Value → Shared → Prop} {mm : Str → Option Value} {k : List Stmt} {o1 o2 o3 o4 o5 o6 o7 o8 o9 o10 o11 : Obj} {t1 t2 t3 t4 : Tok} {cr : Addr} {cs : List Value} {c0 : Nat}
theorem kw_L8_1 : True := by
  k_with_none
  k_with "my_m_look" => first | exact rfl | assumption | ((try dsimp only); repeat' (first | assumption | (refine (if_neg (by decide)).trans ?_) | (exact if_pos (by decide))))
  k_with "my_mem_deep" => (repeat' (first | assumption | exact List.Mem.head _ | refine List.Mem.tail _ ?_))
  k_with "eval Name" => (k_here; k_dflt (refine' ldL ?k1 ?k2 ?_ ?k3 ?k4; (case k3 => rfl); (case k4 => rfl); (case k1 => k_asm); (case k2 => k_extra "my_m_look"); k_whole))
  k_with "CompEnd" => refine StopIt.out ?_
  exact True.intro
theorem len_ints {prog : Program} {w : World} {A : Around} {E : Value → Shared → Prop} {s : Shared} {h₀ : Heap} {L : Addr} {news : List (Addr × Obj)} {ra : Addr} {vs : List Value} {is : List Int} {kk : Nat} {Q : Value → Shared → Prop} (N : News h₀ L s.heap news) (hm : (ra, listOf vs.toArray kk) ∈ news) (hi : IntsAre vs is) (hz : is.length < 1000)
    (h : Q (.int is.length (s.toks + 1)) { s with toks := s.toks + 1 + 1 }) : wpAny (model prog w) A (call (.builtin "len") [.ref ra]) Q E s := by
  have e : vs.toArray.size = is.length := by rw [List.size_toArray]; exact hi.length
  refine len_led N hm (by rw [e]; exact hz) ?_
  rw [e]
  exact h
theorem kw_L8_2 : True := by
  k_with "call builtin:len" => (k_here; k_dflt (refine' len_ints ?a ?b ?c ?d ?_; (case a => k_asm); (case b => k_extra "my_mem_deep"); (case c => assumption); (case d => omega); k_whole))
  exact True.intro
theorem led_in {g h : Heap} {LB er : Addr} {X a1 a2 a3 a4 a5 a6 a7 a8 a9 a10 a11 : Obj} {rest : List (Addr × Obj)} (N : News g LB h ((er, X) :: (LB + 1, a1) :: (LB + 2, a2) :: (LB + 3, a3) :: (LB + 4, a4) :: (LB + 5, a5) :: (LB + 6, a6) :: (LB + 7, a7) :: (LB + 8, a8) :: (LB + 9, a9) :: (LB + 10, a10) :: (LB + 11, a11) :: rest)) :
    News g LB h (lawLed LB a1 a2 a3 a4 a5 a6 a7 a8 a9 a10 a11 ((er, X) :: rest)) := by
  (((try unfold lawLed); repeat' (first | exact news_nil | refine news_pick N (by repeat' (first | exact List.Mem.head _ | refine List.Mem.tail _ ?_)) ?_ | exact news_rest N (fun p hp => by repeat' (first | exact hp | refine List.Mem.tail _ ?_)))))
theorem law_s5 (H : LawHyp w p loose mean mg mb gB LB sl vs ns) (F : Fr gB LB s.heap mm) (N : News gB LB s.heap (lawLed LB o1 o2 o3 o4 o5 o6 o7 o8 o9 o10 o11 ((cr, LCg.lst cs) :: (dr, listOf ws.toArray 0) :: (188, tabObj #[]) :: [])))
    (e1 : o1.data = .cell (some (.int (drawnL ns).sum t1))) (e5 : o5.data = .cell (some (.ref cr))) (hcs : IntsAre cs (cntL ns)) (hdr : IntsAre ws (drawnL ns)) (d6 : ∃ v, o6.data = .cell v) (d7 : ∃ v, o7.data = .cell v) (md : mm (Str.ofString "drawn") = some (.ref dr))
    (hoff : LCg.Off1 cr ([(LB + 1, o1), (LB + 2, o2), (LB + 3, o3), (LB + 4, o4), (LB + 5, o5), (LB + 6, o6), (LB + 7, o7), (LB + 8, o8), (LB + 9, o9), (LB + 10, o10), (LB + 11, o11), (dr, listOf ws.toArray 0), (188, tabObj #[])])) (ldr : @LT.lt Nat _ (LB + 11) dr)
    (next : ∀ h' tk' o6' o7' er t6 te1 te2 te3, Fr gB LB h' mm → News gB LB h' (lawLed LB o1 o2 o3 o4 o5 o6' o7' o8 o9 o10 o11 ((er, listOf #[.str (Str.ofString "\n") te1, .str (Str.ofString "\r") te2, .str (Str.ofString "\r\n") te3] 0) :: (cr, LCg.lst cs) :: (dr, listOf ws.toArray 0) :: (188, tabObj #[]) :: [])) →
      o6'.data = .cell (some (.int (timesI ns) t6)) → o7'.data = .cell (some (.ref er)) → @LT.lt Nat _ (LB + 11) er → @LT.lt Nat _ cr er → @LT.lt Nat _ dr er → wpAny (model rwl.prog w) (callerA.deeper (lawEnv LB fa cd)) (execs k (lawEnv LB fa cd)) Q E { s with heap := h', toks := tk' }) :
    (kF w.params).In gB → wpAny (model rwl.prog w) (callerA.deeper (lawEnv LB fa cd)) (execs (lawE k) (lawEnv LB fa cd)) Q E s := by
  k_fill
  intro X
  obtain ⟨B, T, _, C, hs, hI, hl, lb⟩ := H
  obtain ⟨v6, d6⟩ := d6
  obtain ⟨v7, d7⟩ := d7
  simp only [LCg.Off1, and_true] at hoff
  (((first | refine Mine.and23 hoff ?_ | refine Mine.and22 hoff ?_ | refine Mine.and21 hoff ?_ | refine Mine.and20 hoff ?_ | refine Mine.and19 hoff ?_ | refine Mine.and18 hoff ?_ | refine Mine.and17 hoff ?_ | refine Mine.and16 hoff ?_ | refine Mine.and15 hoff ?_ | refine Mine.and14 hoff ?_ | refine Mine.and13 hoff ?_ | refine Mine.and12 hoff ?_ | refine Mine.and11 hoff ?_); clear hoff; intros))
  have hc0 := cnt0_le ns
  have hne : (8 : Int) - ((cntL ns).count 0 : Nat) ≠ 0 := by omega
  have hdl : (drawnL ns).length ≤ 5 := by
    unfold drawnL
    rw [List.length_append, List.length_map, List.length_take]
    show _ + 2 ≤ 5
    omega
  have hq : 0 ≤ (7 - ((drawnL ns).length : Int)).fdiv (8 - ((cntL ns).count 0 : Nat)) := Int.fdiv_nonneg (by omega) (by omega)
  have hne2 : (7 - ((drawnL ns).length : Int)).fdiv (8 - ((cntL ns).count 0 : Nat)) + 1 ≠ 0 := by omega
  unfold lawEnv lawS lawE
  unfold lawEnv lawS timesI at next
  unfold lawLed at N
  k_steps
  rename News gB LB _ _ => NN
  rename Obj.data _ = Data.cell (some (Value.ref _)) => hd7
  rename Obj.data _ = Data.cell (some (Value.int (Int.fmod _ _) _)) => hd6
  have N9 := led_in NN
  exact next _ _ _ _ _ _ _ _ _ (by assumption) N9 hd6 hd7 (by omega) (by omega) (by omega)
end
end Mine

end PartL8

section FlushK4
open PySem PySem.W PyProof.Rows PySem.Calls
namespace Mine
theorem start_K4 {prog : Program} {w : World} {A : Around} {E : Value → Shared → Prop} {s : Shared} {env : Env} {Q : Flow → Shared → Prop} (h : wpAny (model prog w) A (execs [] env) Q E s) : wpAny (model prog w) A (execs [] env) Q E s := by
  w_top off
  first | (walk1; fail) | exact h
end Mine
end FlushK4
section PartK4
open PySem PySem.W PyProof.Rows PySem.Calls
namespace Mine
theorem tx_append (a b : List Nat) : ((⟨a.toArray⟩ : PySem.Str) ++ (⟨b.toArray⟩ : PySem.Str)) = ⟨(a ++ b).toArray⟩ := by
  apply PySem.Str.ext'
  rw [PySem.Str.cps_append]
  simp
theorem tx_len (a : List Nat) : (⟨a.toArray⟩ : PySem.Str).length = a.length := List.size_toArray
theorem lit_crlf : Str.ofString "\r\n" = (⟨[13, 10].toArray⟩ : PySem.Str) := by decide +kernel
theorem lit_cr : Str.ofString "\r" = (⟨[13].toArray⟩ : PySem.Str) := by decide +kernel
theorem lit_lf : Str.ofString "\n" = (⟨[10].toArray⟩ : PySem.Str) := by decide +kernel
theorem lit_dot : Str.ofString "." = (⟨[46].toArray⟩ : PySem.Str) := by decide +kernel
theorem rep_fold : ∀ (c : Nat) (acc : Array Nat), (List.replicate c (#[46] : Array Nat)).foldl (· ++ ·) acc = acc ++ (List.replicate c 46).toArray
  | 0, acc => by simp
  | c + 1, acc => by
    rw [List.replicate_succ, List.foldl_cons, rep_fold c, List.replicate_succ]
    apply Array.ext'
    simp
theorem mul_dots_txt (c : Nat) : Txt.mul (Str.ofString ".") (c : Int) = (⟨(List.replicate c 46).toArray⟩ : PySem.Str) := by
  rw [lit_dot]
  unfold Txt.mul
  split
  · rename_i h0
    have : c = 0 := Nat.lt_one_iff.mp (Int.ofNat_lt.mp h0)
    subst this
    rfl
  · split
    · rename_i h1 h2
      have h3 : ((⟨[46].toArray⟩ : PySem.Str).length == 0) = false := by decide
      rw [h3, Bool.or_false, beq_iff_eq] at h2
      have : c = 1 := Int.ofNat_inj.mp h2
      subst this
      rfl
    · rw [Int.toNat_natCast, rep_fold]
      apply congrArg
      apply Array.ext'
      simp
noncomputable def endL (x : Int) : List Nat := if x.fmod 3 = 0 then [10] else if x.fmod 3 = 1 then [13] else [13, 10]
noncomputable abbrev endsObj (te1 te2 te3 : Tok) : Obj := listOf #[.str (Str.ofString "\n") te1, .str (Str.ofString "\r") te2, .str (Str.ofString "\r\n") te3] 0
theorem three {x : Int} (h0 : 0 ≤ x) (h1 : x < 3) : x = 0 ∨ x = 1 ∨ x = 2 := by omega
theorem endL_is (x : Int) : endL x = [10] ∨ endL x = [13] ∨ endL x = [13, 10] := by
  unfold endL
  split
  · exact .inl rfl
  · split
    · exact .inr (.inl rfl)
    · exact .inr (.inr rfl)
theorem endL_len (x : Int) : (endL x).length ≤ 2 := by
  rcases endL_is x with h | h | h <;> rw [h] <;> decide
section
variable {prog : Program} {w : World} {A : Around} {E : Value → Shared → Prop} {s : Shared} {t u : Tok} {Q : Value → Shared → Prop} {value slice : PySem.Expr} {h₀ : Heap} {L : Addr} {news : List (Addr × Obj)}
theorem add_tx {a b : List Nat} (hs : a.length + b.length ≤ 16777216) (h : ∀ t' k, Q (.str ⟨(a ++ b).toArray⟩ t') { s with toks := k }) :
    wpAny (model prog w) A (binaryOp .Add (.str ⟨a.toArray⟩ t) (.str ⟨b.toArray⟩ u)) Q E s :=
  KOpn.add (by rw [tx_len, tx_len]; exact hs) fun t' k _ => by rw [tx_append]; exact h t' k
theorem mul_dots {c : Nat} (hc : c ≤ 1000) (h : ∀ t' k, Q (.str ⟨(List.replicate c 46).toArray⟩ t') { s with toks := k }) :
    wpAny (model prog w) A (binaryOp .Mult (.str (Str.ofString ".") t) (.int (c : Int) u)) Q E s :=
  KXi.mul (n := 1) (by decide +kernel) (by decide) (Int.le_trans (by decide) (nn_of (n := c))) (Int.ofNat_le.mpr (Nat.le_trans hc (by decide))) fun t' k _ _ => by rw [mul_dots_txt]; exact h t' k
theorem item_l8 {j : Int} {i : Nat} (hj : j = (i : Int)) (hi : i < 8) (h : ∀ t' k, Q (.str ⟨[97 + i].toArray⟩ t') { s with toks := k })
    (hs : subscripted slice false (.str (Str.ofString "abcdefgh") t) (.int j u) = operate [.str (Str.ofString "abcdefgh") t, .int j u] (getItem (.str (Str.ofString "abcdefgh") t) (.int j u)) := by with_unfolding_all rfl)
    (ht : ∀ r, letTemporaryGo value (.str (Str.ofString "abcdefgh") t) r = pure () := by intro _; with_unfolding_all rfl) :
    wpAny (model prog w) A (subscriptTail value slice (.str (Str.ofString "abcdefgh") t) (.int j u)) Q E s := by
  subst hj
  refine KXi.item (n := 8) (by decide +kernel) nn_of (Int.ofNat_lt.mpr hi) (by decide) (fun _ => ?_) hs ht
  rw [items8 ⟨i, hi⟩]
  exact h _ _
theorem count_tx {x : PySem.Str} {c : Nat} (h : ∀ t' k, Q (.int ((x.cps.toList.count c : Nat) : Int) t') { s with toks := k }) :
    wpAny (model prog w) A (call (.builtin "str.count") [.str x t, .str ⟨[c].toArray⟩ u]) Q E s := KXw.count (count_sign x c) h
theorem item_end {x : Int} {er : Addr} {te1 te2 te3 : Tok} (N : News h₀ L s.heap news) (hm : (er, endsObj te1 te2 te3) ∈ news) (h : ∀ t', Q (.str ⟨(endL x).toArray⟩ t') s)
    (hs : subscripted slice false (.ref er) (.int (x.fmod 3) u) = operate [.ref er, .int (x.fmod 3) u] (getItem (.ref er) (.int (x.fmod 3) u)) := by with_unfolding_all rfl)
    (hg : ∀ r, letTemporaryGo value (.ref er) r = pure () := by intro _; with_unfolding_all rfl) :
    wpAny (model prog w) A (subscriptTail value slice (.ref er) (.int (x.fmod 3) u)) Q E s := by
  have hl := led_list N hm
  have h0 := Int.fmod_nonneg_of_pos x (show (0 : Int) < 3 by decide)
  have h1 := Int.fmod_lt_of_pos x (show (0 : Int) < 3 by decide)
  have hcases : x.fmod 3 = 0 ∨ x.fmod 3 = 1 ∨ x.fmod 3 = 2 := three h0 h1
  rcases hcases with e | e | e
  · refine item_list hl h0 (Int.lt_trans h1 (by decide)) (x := .str (Str.ofString "\n") te1) (by rw [e]; rfl) ?_ hs hg
    have : endL x = [10] := by unfold endL; rw [e]; rfl
    rw [lit_lf, ← this]
    exact h _
  · refine item_list hl h0 (Int.lt_trans h1 (by decide)) (x := .str (Str.ofString "\r") te2) (by rw [e]; rfl) ?_ hs hg
    have : endL x = [13] := by unfold endL; rw [e]; rfl
    rw [lit_cr, ← this]
    exact h _
  · refine item_list hl h0 (Int.lt_trans h1 (by decide)) (x := .str (Str.ofString "\r\n") te3) (by rw [e]; rfl) ?_ hs hg
    have : endL x = [13, 10] := by unfold endL; rw [e]; rfl
    rw [lit_crlf, ← this]
    exact h _
end
theorem rows_flat (e : Nat → List Nat) : ∀ (ds : List Nat) (k : Nat), ((List.range ds.length).flatMap fun i => List.replicate (ds.getD i 0) 46 ++ [97 + (k + i)] ++ e (k + i)) = rowsFrom e k ds
  | [], _ => rfl
  | d :: ds, k => by
    rw [List.length_cons, List.range_succ_eq_map, List.flatMap_cons, List.flatMap_map]
    unfold rowsFrom
    rw [← rows_flat e ds (k + 1)]
    have hc : ∀ i ∈ List.range ds.length, (List.replicate ((d :: ds).getD i.succ 0) 46 ++ [97 + (k + i.succ)] ++ e (k + i.succ)) = (List.replicate (ds.getD i 0) 46 ++ [97 + (k + 1 + i)] ++ e (k + 1 + i)) := fun i _ => by
      rw [show k + 1 + i = k + i.succ from Nat.succ_add_eq_add_succ k i]
      rfl
    rw [List.flatMap_def, List.flatMap_def, List.map_congr_left hc]
    show (List.replicate d 46 ++ [97 + k] ++ e k) ++ _ = _
    rw [List.append_assoc, List.append_assoc]
    rfl
end Mine

end PartK4

section FlushG3
open PySem PySem.W PyProof.Rows PySem.Calls
namespace Mine
theorem start_G3 {prog : Program} {w : World} {A : Around} {E : Value → Shared → Prop} {s : Shared} {env : Env} {Q : Flow → Shared → Prop} (h : wpAny (model prog w) A (execs [] env) Q E s) : wpAny (model prog w) A (execs [] env) Q E s := by
  w_top off
  first | (walk1; fail) | exact h
end Mine
end FlushG3
section PartG3
open PySem PySem.W PyProof.Rows PySem.Calls
namespace Mine
noncomputable def lsOf (ns : List Int) : List Nat := (ns.take 3).map fun k => ((k.fmod 1000000).fmod 8).toNat
theorem count_shift (c : Nat) : ∀ l : List Nat, (l.map fun j => 97 + j).count (97 + c) = l.count c
  | [] => rfl
  | j :: l => by
    rw [List.map_cons, List.count_cons, List.count_cons, count_shift c l]
    congr 1
    by_cases h : j = c
    · subst h; simp
    · rw [if_neg (by simp; omega), if_neg (by simp; omega)]
theorem letters_map (ns : List Int) : (drawnL ns).map letterF = (lsOf ns ++ [6, 7]).map fun j => 97 + j := by
  unfold drawnL lsOf
  rw [List.map_append, List.map_append, List.map_map, List.map_map]
  rfl
theorem cntL_base (ns : List Int) : cntL ns = (baseL (lsOf ns)).map fun c : Nat => (c : Int) := by
  unfold cntL baseL
  rw [List.map_map, letters_map]
  exact List.map_congr_left fun i _ => by show ((_ : Nat) : Int) = ((_ : Nat) : Int); rw [count_shift]
theorem lsOf_len (ns : List Int) : (lsOf ns).length ≤ 3 := by
  unfold lsOf
  rw [List.length_map, List.length_take]
  omega
theorem lsOf_lt (ns : List Int) : ∀ x ∈ lsOf ns, x < 8 := by
  intro x hx
  obtain ⟨k, _, rfl⟩ := List.mem_map.mp hx
  have h0 := Int.fmod_nonneg_of_pos (k.fmod 1000000) (show (0 : Int) < 8 by decide)
  have h1 := Int.fmod_lt_of_pos (k.fmod 1000000) (show (0 : Int) < 8 by decide)
  omega
theorem drawn_len (ns : List Int) : (drawnL ns).length = (lsOf ns).length + 2 := by
  unfold drawnL lsOf
  rw [List.length_append, List.length_map, List.length_map]
  rfl
theorem ok_script (ns : List Int) : okLs (lsOf ns) = true := ok_all _ (lsOf_len ns) (lsOf_lt ns)
end Mine

end PartG3

section FlushG4
open PySem PySem.W PyProof.Rows PySem.Calls
namespace Mine
theorem start_G4 {prog : Program} {w : World} {A : Around} {E : Value → Shared → Prop} {s : Shared} {env : Env} {Q : Flow → Shared → Prop} (h : wpAny (model prog w) A (execs [] env) Q E s) : wpAny (model prog w) A (execs [] env) Q E s := by
  w_top off
  first | (walk1; fail) | exact h
end Mine
end FlushG4
section PartG4
open PySem PySem.W PyProof.Rows PySem.Calls
namespace Mine
theorem count_cast : ∀ l : List Nat, (l.map fun c : Nat => (c : Int)).count 0 = l.count 0
  | [] => rfl
  | c :: l => by
    rw [List.map_cons, List.count_cons, List.count_cons, count_cast l]
    congr 1
    by_cases h : c = 0
    · subst h; simp
    · rw [if_neg (by simp; omega), if_neg (by simp; omega)]
theorem times_is (ns : List Int) : ∃ t : Nat, timesI ns = (t : Int) ∧ t ≤ boundT (lsOf ns) := by
  have hc0 := cnt0_le ns
  have hl := lsOf_len ns
  have e0 : (cntL ns).count 0 = (baseL (lsOf ns)).count 0 := by rw [cntL_base, count_cast]
  have eb : (7 - ((drawnL ns).length : Int)).fdiv (8 - ((cntL ns).count 0 : Nat)) = ((boundT (lsOf ns) : Nat) : Int) := by
    unfold boundT
    rw [drawn_len, e0, Int.fdiv_eq_ediv_of_nonneg _ (by omega)]
    have h1 : (7 : Int) - ((((lsOf ns).length + 2 : Nat)) : Int) = ((7 - ((lsOf ns).length + 2) : Nat) : Int) := by omega
    have h2 : (8 : Int) - (((baseL (lsOf ns)).count 0 : Nat) : Int) = ((8 - (baseL (lsOf ns)).count 0 : Nat) : Int) := by omega
    rw [h1, h2]
    rfl
  unfold timesI
  rw [eb]
  have h0 := Int.fmod_nonneg_of_pos ((drawnL ns).sum.fdiv 8) (show (0 : Int) < ((boundT (lsOf ns) : Nat) : Int) + 1 by omega)
  have h1 := Int.fmod_lt_of_pos ((drawnL ns).sum.fdiv 8) (show (0 : Int) < ((boundT (lsOf ns) : Nat) : Int) + 1 by omega)
  exact ⟨(((drawnL ns).sum.fdiv 8).fmod (((boundT (lsOf ns) : Nat) : Int) + 1)).toNat, by omega, by omega⟩
theorem ok_counts (ns : List Int) : ∃ t : Nat, timesI ns = (t : Int) ∧ okCs (countsL (lsOf ns) t) = true := by
  obtain ⟨t, e, ht⟩ := times_is ns
  have h := ok_script ns
  unfold okLs at h
  rw [List.all_eq_true] at h
  exact ⟨t, e, h t (List.mem_range.mpr (by omega))⟩
end Mine

end PartG4

section FlushX8
open PySem PySem.W PyProof.Rows PySem.Calls
namespace Mine
theorem start_X8 {prog : Program} {w : World} {A : Around} {E : Value → Shared → Prop} {s : Shared} {env : Env} {Q : Flow → Shared → Prop} (h : wpAny (model prog w) A (execs [] env) Q E s) : wpAny (model prog w) A (execs [] env) Q E s := by
  w_top off
  first | (walk1; fail) | exact h
end Mine
end FlushX8
section PartX8
open PySem PySem.W PyProof.Rows PySem.Calls PySem.Builtin PySem.Builtin.Re
namespace Mine
theorem plain_sub : plainId "re.Pattern.sub" = true := by decide +kernel
theorem plainAttrs_pat : PlainAttrs "re.Pattern" :=
  ⟨⟨"object.__getattribute__", by rw [typeLookup_type, builtinLookup_eq_fast]; kernel_rfl, by decide +kernel⟩, by rw [typeLookup_type, builtinLookup_eq_fast]; kernel_rfl⟩
theorem str_nocall : typeLookup (.type "str") "__call__" = pure none := by rw [typeLookup_type, builtinLookup_eq_fast]; kernel_rfl
section
variable {a c : Addr} {code : Array Nat} {x : PySem.Str} {t : Tok}
theorem meets_sub (f : Nat → Option (Nat × Nat)) (kb : Nat) (hkb : kb < 2 ^ 40) (hf : ∀ must st, st ≤ x.cps.size → Ends kb (Sre.forSearch code x.cps 0 st x.cps.size must) (f st)) (hx : x.cps.size ≤ 1000) {repl : PySem.Str} (hrl : repl.length ≤ 1000) (hlit : repl.cps.contains 92 = false) {rt : Tok}
    (hfr : ∀ st p q, f st = some (p, q) → st ≤ p ∧ p < q ∧ q ≤ x.cps.size) :
    Meets (Builtin.«re.Pattern.sub» ⟨[.ref a, .str repl rt, .str x t], []⟩) (fun A R s => PatAt s.heap a c code ∧ (a < s.heap.objs.size ∧ c < s.heap.objs.size) ∧
      ∀ h' tk' tt, (∀ b o, s.heap.get? b = some o → h'.get? b = some o) → R (.ok (.ret (.str ⟨(flatP (subP f repl.cps x.cps (x.cps.size + 1) 0)).toArray⟩ tt))) { s with heap := h', toks := tk' }) := by
  intro prog w A R s ⟨hP, ⟨ha, hc⟩, hR⟩
  unfold Builtin.«re.Pattern.sub» reSubstitute
  have f1 : typeOf (.str repl rt) = pure (.type "str") := rfl
  have f2 := str_nocall
  dsimp only
  refine wpAny_bind (wpAny_of_eq (show reNamed "re.Pattern.sub" "sub" ["repl", "string", "count"] 2 [Value.str repl rt, Value.str x t] [] = pure [some (.str repl rt), some (.str x t), none] from rfl) ?_)
  obtain ⟨hp, g, d, tk, os⟩ := s
  wp_walk using (whole_target hP)
  rw [hlit, if_pos (show (!false) = true from rfl)]
  refine wpAny_bind (wpAny_pure ?_)
  refine wpAny_bind (wpAny_holding (whole_target hP ?_))
  refine (?_ : wpAny (model prog w) A.in1 (do
    let l ← newList []
    again (Code.builtin "re.Pattern.sub.loop" { pos := [Value.ref a, Value.str x t, .str repl rt, rawInt 0, rawInt 0, rawInt 0, rawInt 0, rawInt 0, Value.bool false, l, Value.bool false] })) _ _ _)
  refine wpAny_bind (wpAny_newList ?_)
  refine wpAny_pure ⟨plainId_quiet plain_subloop _, codeAny_builtin entry_subloop ?_⟩
  rw [Around.under_plainId plain_subloop]
  have hD : (hp.push { cls := .type "list", data := .seq ([] : List Value).toArray }).get? hp.objs.size = some { cls := .type "list", dict := none, data := .seq (strsOf []) 0, slots := #[] } := Heap.get?_push_size _ rfl
  refine sub_loop f kb hkb hf hx hrl hfr (x.cps.size + 1) 0 false 0 [] prog w A R _ (by omega) (Nat.zero_le _) ⟨hP.keeps fun b o e _ => Heap.get?_push_of_some _ e, ⟨0, hD⟩, Nat.ne_of_gt ha, Nat.ne_of_gt hc⟩ (Nat.le_refl _) (fun p hp => nomatch hp) fun h' tk' tt hk => ?_
  exact hR h' tk' tt fun b o e => hk b o (Nat.ne_of_lt (Heap.lt_size e)) (Heap.get?_push_of_some _ e)
end
end Mine

end PartX8

section FlushX9
open PySem PySem.W PyProof.Rows PySem.Calls
namespace Mine
theorem start_X9 {prog : Program} {w : World} {A : Around} {E : Value → Shared → Prop} {s : Shared} {env : Env} {Q : Flow → Shared → Prop} (h : wpAny (model prog w) A (execs [] env) Q E s) : wpAny (model prog w) A (execs [] env) Q E s := by
  w_top off
  first | (walk1; fail) | exact h
end Mine
end FlushX9
section PartX9
open PySem PySem.W PyProof.Rows PySem.Calls PySem.Builtin.Re
namespace Mine
theorem kF_77 (P : Params) : (kF P).lookup 77 = some (o77 P) := by rfl
theorem kF_76 (P : Params) : (kF P).lookup 76 = some (o76 P) := by rfl
theorem kF_82 (P : Params) : (kF P).lookup 82 = some (o82 P) := by rfl
theorem kF_81 (P : Params) : (kF P).lookup 81 = some (o81 P) := by rfl
theorem pat1 {P : Params} {h : Heap} (X : (kF P).In h) : PatAt h 77 76 code1 :=
  ⟨⟨_, _, X _ _ (kF_77 P), rfl, rfl, rfl, rfl, rfl, rfl⟩, ⟨_, _, _, X _ _ (kF_76 P), rfl, by decide +kernel⟩⟩
theorem pat2 {P : Params} {h : Heap} (X : (kF P).In h) : PatAt h 82 81 code2 :=
  ⟨⟨_, _, X _ _ (kF_82 P), rfl, rfl, rfl, rfl, rfl, rfl⟩, ⟨_, _, _, X _ _ (kF_81 P), rfl, by decide +kernel⟩⟩
theorem PatAt.type {h : Heap} {a c : Addr} {code : Array Nat} (P : PatAt h a c code) : ∃ o, h.get? a = some o ∧ o.cls = .type "re.Pattern" ∧ o.dict = none := by
  obtain ⟨⟨o, fs, e, hd, hc, hdi, _⟩, _⟩ := P
  exact ⟨o, e, hc, hdi⟩
theorem PatAt.lt {h : Heap} {a c : Addr} {code : Array Nat} (P : PatAt h a c code) : a < h.objs.size ∧ c < h.objs.size := by
  obtain ⟨⟨o, fs, e, _⟩, ⟨o2, it, n, e2, _⟩⟩ := P
  exact ⟨Heap.lt_size e, Heap.lt_size e2⟩
section
variable {prog : Program} {w : World} {A : Around} {s : Shared} {E : Value → Shared → Prop} {a c : Addr} {code : Array Nat} {x repl : PySem.Str} {t rt : Tok}
theorem method_sub {Q : Value × List Value → Shared → Prop} {pl : Sem Bool} (P : PatAt s.heap a c code) (h : Q (.builtin "re.Pattern.sub", [.ref a]) s) : wpAny (model prog w) A (getMethod (.ref a) (Str.ofString "sub") pl) Q E s := by
  obtain ⟨o, e, hc, hd⟩ := P.type
  exact getMethod_builtin ⟨o, e, hc⟩ plainAttrs_pat slot_sub type_sub (fun b hb => by cases hb; exact ⟨o, e, hd⟩) h
theorem fuel0 {s : Nat} : s < 0 + (s + 1) := by rw [Nat.zero_add]; exact Nat.lt_succ_self s
theorem next2_ok {text : Array Nat} (st p q : Nat) (h : next2 text text.size st = some (p, q)) : st ≤ p ∧ p < q ∧ q ≤ text.size := by
  unfold next2 at h
  by_cases hs : st ≤ text.size
  · have sp := nextEnd_spec (text := text) (lim := text.size) (text.size + 1 - st) st (fuel_all hs) hs
    cases e : nextEnd text text.size (text.size + 1 - st) st with
    | none => rw [e] at h; cases h
    | some r =>
      rw [e] at h sp
      obtain ⟨h1, h2, _⟩ := sp
      cases h
      exact ⟨h1, Nat.lt_add_of_pos_right (endLen_pos text text.size p), endLen_le (text := text) h2⟩
  · rw [Nat.sub_eq_zero_of_le (Nat.lt_of_not_le hs)] at h
    cases h
theorem next1_ok {text : Array Nat} (st p q : Nat) (h : next1 text text.size (text.size - st) st = some (p, q)) : st ≤ p ∧ p < q ∧ q ≤ text.size := by
  by_cases hs : st ≤ text.size
  · have sp := next1_spec (text := text) (text.size - st) st (Nat.add_sub_cancel' hs)
    rw [h] at sp
    obtain ⟨h1, h2, h3, _⟩ := sp
    subst h3
    exact ⟨h1, Nat.lt_succ_self p, h2⟩
  · rw [Nat.sub_eq_zero_of_le (Nat.le_of_lt (Nat.lt_of_not_le hs))] at h
    cases h
theorem sub2_call {Q : Value → Shared → Prop} (P : PatAt s.heap a c code2) (hx : x.cps.size ≤ 1000) (hr : repl.cps = #[13, 10])
    (h : ∀ h' tk' tt, (∀ b o, s.heap.get? b = some o → h'.get? b = some o) → Q (.str ⟨(eolL x.cps.toList).toArray⟩ tt) { s with heap := h', toks := tk' }) :
    wpAny (model prog w) A (call (.builtin "re.Pattern.sub") [.ref a, .str repl rt, .str x t]) Q E s := by
  obtain ⟨o, e, hc, hd⟩ := P.type
  refine call_meets slot_sub ⟨o, e, hc⟩ entry_sub (args_sub_3 _ _ _) (meets_sub (a := a) (c := c) (code := code2) (fun d => next2 x.cps x.cps.size d) 30 (by decide) (fun must st hst => find2 must hst) hx (show repl.cps.size ≤ 1000 by rw [hr]; decide) (by rw [hr]; decide +kernel) (fun st p q hh => next2_ok st p q hh)) ⟨P, P.lt, fun h' tk' tt hk => ?_⟩
  rw [hr, sub2 x.cps (x.cps.size + 1) 0 fuel0 (Nat.zero_le _), List.drop_zero]
  exact h h' tk' tt hk
theorem sub1_call {Q : Value → Shared → Prop} (P : PatAt s.heap a c code1) (hx : x.cps.size ≤ 1000) (hr : repl.cps = #[46, 46])
    (h : ∀ h' tk' tt, (∀ b o, s.heap.get? b = some o → h'.get? b = some o) → Q (.str ⟨(dotL true x.cps.toList).toArray⟩ tt) { s with heap := h', toks := tk' }) :
    wpAny (model prog w) A (call (.builtin "re.Pattern.sub") [.ref a, .str repl rt, .str x t]) Q E s := by
  obtain ⟨o, e, hc, hd⟩ := P.type
  refine call_meets slot_sub ⟨o, e, hc⟩ entry_sub (args_sub_3 _ _ _) (meets_sub (a := a) (c := c) (code := code1) (fun d => next1 x.cps x.cps.size (x.cps.size - d) d) (5 * x.cps.size + 10) (Nat.lt_of_le_of_lt (show _ ≤ 5010 from Nat.add_le_add_right (Nat.mul_le_mul_left 5 hx) 10) (by decide)) (fun must st hst => find1 must hst) hx (show repl.cps.size ≤ 1000 by rw [hr]; decide) (by rw [hr]; decide +kernel) (fun st p q hh => next1_ok st p q hh)) ⟨P, P.lt, fun h' tk' tt hk => ?_⟩
  rw [hr, sub1 x.cps (x.cps.size + 1) 0 fuel0 (Nat.zero_le _), List.drop_zero]
  exact h h' tk' tt hk
end
theorem eolS_len : ∀ (l : List Nat) (b : Bool), (eolS b l).length ≤ 2 * l.length
  | [], _ => Nat.le_refl _
  | c :: r, b => by
    have h1 := eolS_len r false
    have h2 := eolS_len r true
    show (if c = 10 then (if b = true then eolS false r else 13 :: 10 :: eolS false r) else if c = 13 then 13 :: 10 :: eolS true r else c :: eolS false r).length ≤ 2 * (r.length + 1)
    split
    · split
      · exact Nat.le_trans h1 (Nat.le_add_right _ 2)
      · exact Nat.add_le_add_right h1 2
    · split
      · exact Nat.add_le_add_right h2 2
      · exact Nat.le_trans (Nat.add_le_add_right h1 1) (Nat.le_succ _)
section
variable {w : World} {p : Program} {loose : List PySem.Str} {mean : ExcName → Option Value} {mg mb : Str → Option Value} {dp un : Nat} {gd : Option (List Code)} {cn : Str} {cs : Scope} {L a : Addr} {ccd : Value} {cl : List (Str × Addr)} {outer : List Env} {A₀ : Around} {base h₀ : Heap} {m : Str → Option Value}
    {news : List (Addr × Obj)} {s : Shared} {Q E : Value → Shared → Prop} {x : PySem.Str} {t1 : Tok}
theorem sub2_K {gB : Heap} {LB : Addr} {mm : Str → Option Value} {A : Around} {repl : PySem.Str} {rt t : Tok} (X : (kF w.params).In gB) (F : Fr gB LB s.heap mm) (N : News gB LB s.heap news) (hx : x.cps.size ≤ 1000) (hr : repl.cps = #[13, 10])
    (h : ∀ h' tk' tt, Fr gB LB h' mm → News gB LB h' news → Q (.str ⟨(eolL x.cps.toList).toArray⟩ tt) { s with heap := h', toks := tk' }) :
    wpAny (model rwl.prog w) A (call (.builtin "re.Pattern.sub") [.ref 82, .str repl rt, .str x t]) Q E s :=
  sub2_call (pat2 (X.keeps F.keep)) hx hr fun h' tk' tt hk => h h' tk' tt (F.keeps hk) (N.grown hk)
theorem sub1_K {gB : Heap} {LB : Addr} {mm : Str → Option Value} {A : Around} {repl : PySem.Str} {rt t : Tok} (X : (kF w.params).In gB) (F : Fr gB LB s.heap mm) (N : News gB LB s.heap news) (hx : x.cps.size ≤ 1000) (hr : repl.cps = #[46, 46])
    (h : ∀ h' tk' tt, Fr gB LB h' mm → News gB LB h' news → Q (.str ⟨(dotL true x.cps.toList).toArray⟩ tt) { s with heap := h', toks := tk' }) :
    wpAny (model rwl.prog w) A (call (.builtin "re.Pattern.sub") [.ref 77, .str repl rt, .str x t]) Q E s :=
  sub1_call (pat1 (X.keeps F.keep)) hx hr fun h' tk' tt hk => h h' tk' tt (F.keeps hk) (N.grown hk)
theorem kw_X9_1 : True := by
  k_with_none
  k_with "my_room" => ((try simp only [depth_under_make, depth_under_kw, depth_in1, depth_deeper, depth_caller]); (try dsimp only [ktrTop]); first | exact Mine.rm0 (by assumption) | exact Mine.rm1 (by assumption) (by exact rfl) | exact Mine.rm2 (by assumption) (by exact rfl) | exact Mine.rm2 (b := 40) (by assumption) (by exact rfl) | exact Mine.rm1 (b := 40) (by assumption) (by exact rfl) | exact Mine.rm2 (b := 50) (by assumption) (by exact rfl) | exact Mine.rm1 (b := 50) (by assumption) (by exact rfl) | fail "room")
  k_with "my_units" => ((try simp only [units_in1, units_deeper, Around.mark_units, units_caller]); (try dsimp only [ktrTop]); first | exact Mine.rm0 (by assumption) | exact Mine.rm1 (by assumption) (by exact rfl) | exact Mine.rm2 (by assumption) (by exact rfl) | exact Mine.rm2 (b := 140) (by assumption) (by exact rfl) | exact Mine.rm1 (b := 140) (by assumption) (by exact rfl) | exact Mine.rm2 (b := 180) (by assumption) (by exact rfl) | exact Mine.rm1 (b := 180) (by assumption) (by exact rfl) | fail "room")
  k_with "getMethod ref" => (k_here; (with_reducible show wpAny _ _ (getMethod (Value.ref _) (PySem.Str.ofString "sub") _) _ _ _); k_dflt (first | (refine' method_sub (pat2 (Frag.In.keeps (by assumption) (Fr.keep (by k_asm)))) ?_) | (refine' method_sub (pat1 (Frag.In.keeps (by assumption) (Fr.keep (by k_asm)))) ?_)); k_whole)
  k_with "call builtin:re.Pattern.sub" => (k_here; k_dflt (first | (refine' sub2_K ?X ?F ?N ?x ?r ?_; (case X => assumption); (case F => k_asm); (case N => k_asm); (case x => exact Nat.le_trans (by assumption) (by decide)); (case r => rfl); k_whole) | (refine' sub1_K ?X ?F ?N ?x ?r ?_; (case X => assumption); (case F => k_asm); (case N => k_asm); (case x => assumption); (case r => rfl); k_whole)); intro _ _ _ _ _)
  exact True.intro
theorem fix_ctr : Site w p loose mean mg mb dp un cn cs L a ccd cl outer A₀ base h₀ m news s → x.cps.size ≤ 400 →
    (∀ h' tk' tt, Fr h₀ L h' m → News h₀ L h' news → Q (.str ⟨(eolL x.cps.toList).toArray⟩ tt) { s with heap := h', toks := tk' }) →
  (kF w.params).In h₀ → wpAny (model rwl.prog w) (ktrTop dp un gd cn cs L a ccd cl outer) (call (.ref 96) [.str x t1]) Q E s := by
  k_fill
  intro S hx hret X
  obtain ⟨B, F, _, N, T, hk, hdp, hun⟩ := S
  refine wpAny_call ?_
  k_dflt cell_enter
  k_steps
  all_goals exact hret _ _ _ (by assumption) (by assumption)
theorem quote_ctr : Site w p loose mean mg mb dp un cn cs L a ccd cl outer A₀ base h₀ m news s → x.cps.size ≤ 400 →
    (∀ h' tk' tt, Fr h₀ L h' m → News h₀ L h' news → Q (.str ⟨(dotL true (eolL x.cps.toList)).toArray⟩ tt) { s with heap := h', toks := tk' }) →
  (kF w.params).In h₀ → wpAny (model rwl.prog w) (ktrTop dp un gd cn cs L a ccd cl outer) (call (.ref 89) [.str x t1]) Q E s := by
  k_fill
  intro S hx hret X
  obtain ⟨B, F, _, N, T, hk, hdp, hun⟩ := S
  have hx2 : (⟨(eolL x.cps.toList).toArray⟩ : PySem.Str).cps.size ≤ 1000 := by
    have h1 := eolS_len x.cps.toList false
    have h2 : x.cps.toList.length = x.cps.size := Array.length_toList
    have h3 : (eolS false x.cps.toList).toArray.size = (eolS false x.cps.toList).length := List.size_toArray
    show (eolS false x.cps.toList).toArray.size ≤ 1000
    rw [h3]
    exact Nat.le_trans h1 (Nat.le_trans (Nat.mul_le_mul_left 2 (h2 ▸ hx)) (by decide))
  refine wpAny_call ?_
  k_dflt cell_enter
  k_steps
  all_goals exact hret _ _ _ (by assumption) (by assumption)
end
end Mine

end PartX9

section FlushK5
open PySem PySem.W PyProof.Rows PySem.Calls
namespace Mine
theorem start_K5 {prog : Program} {w : World} {A : Around} {E : Value → Shared → Prop} {s : Shared} {env : Env} {Q : Flow → Shared → Prop} (h : wpAny (model prog w) A (execs [] env) Q E s) : wpAny (model prog w) A (execs [] env) Q E s := by
  w_top off
  first | (walk1; fail) | exact h
end Mine
end FlushK5
section PartK5
open PySem PySem.W PyProof.Rows PySem.Calls
namespace Mine
noncomputable def bsOf (ns : List Int) : List Nat := baseL (lsOf ns)
theorem bsOf_len (ns : List Int) : (bsOf ns).length = 8 := by unfold bsOf baseL; rw [List.length_map, List.length_range]
theorem getD_range8 (f : Nat → Nat) {i : Nat} (hi : i < 8) : ((List.range 8).map f).getD i 0 = f i := by
  rw [List.getD_eq_getElem?_getD, List.getElem?_map, List.getElem?_range hi]
  rfl
theorem cnt_base (ns : List Int) {i : Nat} (hi : i < 8) : (wordS ns).cps.toList.count (97 + i) = (bsOf ns).getD i 0 := by
  show ((drawnL ns).map letterF).count (97 + i) = _
  unfold bsOf baseL
  rw [getD_range8 _ hi, letters_map, count_shift]
theorem bsOf_le (ns : List Int) (i : Nat) : (bsOf ns).getD i 0 ≤ 5 := by
  unfold bsOf baseL
  by_cases hi : i < 8
  · rw [getD_range8 _ hi]
    have h1 := lsOf_len ns
    have h2 : (lsOf ns ++ [6, 7]).count i ≤ (lsOf ns ++ [6, 7]).length := List.count_le_length
    rw [List.length_append] at h2
    exact Nat.le_trans h2 (Nat.add_le_add_right h1 2)
  · rw [List.getD_eq_getElem?_getD, List.getElem?_eq_none (by rw [List.length_map, List.length_range]; exact Nat.le_of_not_lt hi)]
    exact Nat.zero_le _
noncomputable def rowOf (bs : List Nat) (e : Nat → List Nat) (i : Nat) : List Nat := List.replicate (bs.getD i 0) 46 ++ [97 + i] ++ e i
theorem rowOf_len {bs : List Nat} {e : Nat → List Nat} (hb : ∀ i, bs.getD i 0 ≤ 100) (he : ∀ i, (e i).length ≤ 2) (i : Nat) : (rowOf bs e i).length ≤ 103 := by
  unfold rowOf
  rw [List.length_append, List.length_append, List.length_replicate]
  exact Nat.add_le_add (Nat.succ_le_succ (hb i)) (he i)
theorem rows_of (bs : List Nat) (e : Nat → List Nat) (h8 : bs.length = 8) : ((List.range 8).flatMap fun i => rowOf bs e i) = rowsFrom e 0 bs := by
  have h := rows_flat e bs 0
  rw [h8] at h
  rw [← h]
  refine congrArg List.flatten (List.map_congr_left fun i _ => ?_)
  rw [Nat.zero_add]
  rfl
theorem row_sum {a b c n : Nat} (h1 : a ≤ 18 * n) (h2 : b ≤ 15) (h3 : c ≤ 2) : b + (c + a + 1) ≤ 18 * (n + 1) := by omega
theorem rowsFrom_len {e : Nat → List Nat} (he : ∀ i, (e i).length ≤ 2) : ∀ {bs : List Nat} (k : Nat), (∀ i, bs.getD i 0 ≤ 15) → (rowsFrom e k bs).length ≤ 18 * bs.length
  | [], _, _ => Nat.le_refl _
  | b :: bs, k, hb => by
    have h1 := rowsFrom_len he (bs := bs) (k + 1) (fun i => hb (i + 1))
    have h2 : b ≤ 15 := hb 0
    have h3 := he k
    unfold rowsFrom
    rw [List.length_append, List.length_replicate, List.length_cons, List.length_append, List.length_cons]
    exact row_sum h1 h2 h3
section
variable {prog : Program} {w : World} {A : Around} {E : Value → Shared → Prop} {s : Shared} {t : Tok} {Q : Value → Shared → Prop}
theorem join_rows {bs : List Nat} {e : Nat → List Nat} {D : Addr} {ys : List Value} {sep : PySem.Str} (h8 : bs.length = 8) (hb : ∀ i, bs.getD i 0 ≤ 100) (he : ∀ i, (e i).length ≤ 2) (hs : sep.cps = #[]) (hD : s.heap.IsList D ys.toArray) (hl : ys.length = 8)
    (hy : ∀ i y, ys[i]? = some y → ∃ t : Tok, y = Value.str ⟨(rowOf bs e i).toArray⟩ t) (h : ∀ t' k, Q (.str ⟨(rowsFrom e 0 bs).toArray⟩ t') { s with toks := k }) :
    wpAny (model prog w) A (call (.builtin "str.join") [.str sep t, .ref D]) Q E s := by
  refine join_gen (g := fun i => ⟨(rowOf bs e i).toArray⟩) hs hD hy (fun i => ?_) (by rw [hl]; decide) fun t' k => ?_
  · show (rowOf bs e i).toArray.size ≤ 1000
    rw [List.size_toArray]
    exact Nat.le_trans (rowOf_len hb he i) (by decide)
  · rw [hl]
    have e2 : (⟨((List.range 8).flatMap fun i => (⟨(rowOf bs e i).toArray⟩ : PySem.Str).cps.toList).toArray⟩ : PySem.Str) = ⟨(rowsFrom e 0 bs).toArray⟩ := congrArg (fun l : List Nat => (⟨l.toArray⟩ : PySem.Str)) (rows_of bs e h8)
    rw [e2]
    exact h t' k
end
noncomputable def sentL (bs : List Nat) (t : Nat) : List Nat := bs.map fun c => if 0 < c then c + t else 0
theorem sent_zero (bs : List Nat) : sentL bs 0 = bs := by
  unfold sentL
  have h : (fun c : Nat => if 0 < c then c + 0 else 0) = id := by
    funext c
    show (if 0 < c then c + 0 else 0) = c
    split
    · rfl
    · rename_i h; exact (Nat.le_zero.mp (Nat.le_of_not_lt h)).symm
  rw [h, List.map_id]
theorem sent_succ (bs : List Nat) (t : Nat) : (sentL bs t).map incD = sentL bs (t + 1) := by
  unfold sentL
  rw [List.map_map]
  refine List.map_congr_left fun c _ => ?_
  show (if 0 < (if 0 < c then c + t else 0) then (if 0 < c then c + t else 0) + 1 else 0) = if 0 < c then c + (t + 1) else 0
  by_cases h : 0 < c
  · rw [if_pos h, if_pos h, if_pos (Nat.lt_of_lt_of_le h (Nat.le_add_right c t))]; rfl
  · rw [if_neg h, if_neg h, if_neg (Nat.lt_irrefl 0)]
theorem sent_len (bs : List Nat) (t : Nat) : (sentL bs t).length = bs.length := List.length_map _
theorem sent_getD (bs : List Nat) (t i : Nat) : (sentL bs t).getD i 0 = if 0 < bs.getD i 0 then bs.getD i 0 + t else 0 := by
  unfold sentL
  rw [List.getD_eq_getElem?_getD, List.getElem?_map, List.getD_eq_getElem?_getD]
  cases bs[i]? <;> rfl
theorem sent_le (ns : List Int) (t i : Nat) : (sentL (bsOf ns) t).getD i 0 ≤ 5 + t := by
  rw [sent_getD]
  split
  · exact Nat.add_le_add_right (bsOf_le ns i) t
  · exact Nat.zero_le _
end Mine

end PartK5

section FlushL9
open PySem PySem.W PyProof.Rows PySem.Calls
namespace Mine
theorem start_L9 {prog : Program} {w : World} {A : Around} {E : Value → Shared → Prop} {s : Shared} {env : Env} {Q : Flow → Shared → Prop} (h : wpAny (model prog w) A (execs [] env) Q E s) : wpAny (model prog w) A (execs [] env) Q E s := by
  w_top off
  first | (walk1; fail) | exact h
end Mine
end FlushL9
section PartL9
open PySem PySem.W PyProof.Rows PySem.Calls
namespace Mine
noncomputable def yLawF (k : List Stmt) : List Stmt := nth 9 yLawL :: k
noncomputable def lawF (k : List Stmt) : List Stmt := (fun (o : List Stmt) (_ : yLawF k = o) => o) _ (by dsimp only [yLawF, yLawL, fB, fnBs, pw, PySem.Challenge.pw_ty0053_01, nth])
noncomputable def endOf (ns : List Int) (i : Nat) : List Nat := endL ((drawnL ns).sum + (0 + (i : Int)))
theorem endOf_len (ns : List Int) (i : Nat) : (endOf ns i).length ≤ 2 := endL_len _
section
variable {w : World} {p : Program} {loose : List PySem.Str} {mean : ExcName → Option Value} {mg mb : Str → Option Value} {gB : Heap} {LB sl fa dr : Addr} {cd : Value} {vs ws : List Value} {ns : List Int} {s : Shared} {Q : Flow → Shared → Prop} {E : Value → Shared → Prop} {mm : Str → Option Value} {k : List Stmt} {o1 o2 o3 o4 o5 o6 o7 o8 o9 o10 o11 : Obj} {t1 t2 t3 t4 t6 te1 te2 te3 : Tok} {cr er : Addr} {cs : List Value}
theorem kw_L9_1 : True := by
  k_with_none
  k_with "my_m_look" => first | exact rfl | assumption | ((try dsimp only); repeat' (first | assumption | (refine (if_neg (by decide)).trans ?_) | (exact if_pos (by decide))))
  k_with "my_mem_deep" => (repeat' (first | assumption | exact List.Mem.head _ | refine List.Mem.tail _ ?_))
  k_with "eval Name" => (k_here; k_dflt (refine' ldL ?k1 ?k2 ?_ ?k3 ?k4; (case k3 => rfl); (case k4 => rfl); (case k1 => k_asm); (case k2 => k_extra "my_m_look"); k_whole))
  k_with "eval Name" => (k_here; (with_reducible show wpAny _ _ (eval (Expr.Name _ _) (compEnvC _ _ _ _)) _ _ _); k_dflt (refine' lcf_cell ?N ?c ?m ?d ?_ ?a ?b; (case a => rfl); (case b => rfl); (case N => k_asm); (case c => rfl); (case m => k_extra "my_mem_deep"); (case d => assumption); k_whole))
  k_with "CompEnd" => refine StopIt.out ?_
  k_with "CompSrc" => refine StopIt.out ?_
  k_with "subscriptTail Name Name str int" => (k_here; (with_reducible show wpAny _ _ (subscriptTail _ _ (Value.str _ _) (Value.int _ _)) _ _ _); k_dflt (refine' item_l8 ?hj ?hi ?_; (case hj => exact (Int.zero_add _)); (case hi => assumption); k_whole); intro _ _)
  k_with "subscriptTail Name BinOp ref int" => (k_here; (with_reducible show wpAny _ _ (subscriptTail _ _ (Value.ref _) (Value.int (Int.fmod _ 3) _)) _ _ _); k_dflt (refine' item_end ?N ?hm ?_; (case N => k_asm); (case hm => k_extra "my_mem_deep"); k_whole); intro _)
  k_with "call builtin:str.count" => (k_here; (with_reducible show wpAny _ _ (call _ [Value.str _ _, Value.str _ _]) _ _ _); k_dflt (refine' count_tx ?_; k_whole); intro _ _)
  k_with "binaryOp Mult str int" => (k_here; k_dflt (refine' mul_dots ?hc ?_; (case hc => (rename ∀ c : Nat, _ ≤ 1000 => hcnt; exact hcnt _)); k_whole); intro _ _)
  k_with "binaryOp Add str str" => (k_here; k_dflt (refine' add_tx ?hs ?_; (case hs => assumption); k_whole); intro _ _)
  exact True.intro
theorem cnt_le (ns : List Int) (c : Nat) : (wordS ns).cps.toList.count c ≤ 5 := by
  have h1 : (wordS ns).cps.toList.count c ≤ (wordS ns).cps.toList.length := List.count_le_length
  have h2 : (wordS ns).cps.toList.length = (lsOf ns).length + 2 := by
    show ((drawnL ns).map letterF).length = _
    rw [List.length_map, drawn_len]
  have h3 := lsOf_len ns
  omega
theorem law_s6 (H : LawHyp w p loose mean mg mb gB LB sl vs ns) (F : Fr gB LB s.heap mm) (N : News gB LB s.heap (lawLed LB o1 o2 o3 o4 o5 o6 o7 o8 o9 o10 o11 ((er, listOf #[.str (Str.ofString "\n") te1, .str (Str.ofString "\r") te2, .str (Str.ofString "\r\n") te3] 0) :: (cr, LCg.lst cs) :: (dr, listOf ws.toArray 0) :: (188, tabObj #[]) :: [])))
    (e1 : o1.data = .cell (some (.int (drawnL ns).sum t1))) (e2 : o2.data = .cell (some (.str (Str.ofString "abcdefgh") t2))) (e4 : o4.data = .cell (some (.str (wordS ns) t4))) (e7 : o7.data = .cell (some (.ref er)))
    (l1 : @LT.lt Nat _ (LB + 11) er) (l2 : @LT.lt Nat _ cr er) (l3 : @LT.lt Nat _ dr er) (ldr : @LT.lt Nat _ (LB + 11) dr)
    (next : ∀ h' tk' tu, Fr gB LB h' (fun y => if y = Str.ofString "uneven" then some (.str ⟨(rowsFrom (endOf ns) 0 (bsOf ns)).toArray⟩ tu) else mm y) → News gB LB h' (lawLed LB o1 o2 o3 o4 o5 o6 o7 o8 o9 o10 o11 ((er, listOf #[.str (Str.ofString "\n") te1, .str (Str.ofString "\r") te2, .str (Str.ofString "\r\n") te3] 0) :: (cr, LCg.lst cs) :: (dr, listOf ws.toArray 0) :: (188, tabObj #[]) :: [])) → wpAny (model rwl.prog w) (callerA.deeper (lawEnv LB fa cd)) (execs k (lawEnv LB fa cd)) Q E { s with heap := h', toks := tk' }) :
    (kF w.params).In gB → wpAny (model rwl.prog w) (callerA.deeper (lawEnv LB fa cd)) (execs (lawF k) (lawEnv LB fa cd)) Q E s := by
  k_fill
  intro X
  obtain ⟨B, T, _, C, hs, hI, hl, lb⟩ := H
  unfold lawEnv lawS lawF
  unfold lawEnv lawS at next
  unfold lawLed at N
  k_steps
  unfold StopIt
  refine LCg.CompSrc.range (n := 8) (by rfl) (by assumption) (by assumption) (by assumption) (by decide) (by rfl) (by decide) ?_
  intro g
  have hcnt : ∀ c : Nat, (wordS ns).cps.toList.count c ≤ 1000 := fun c => Nat.le_trans (cnt_le ns c) (by decide)
  refine comp_const (fun i y => ∃ t : Tok, y = Value.str ⟨(rowOf (bsOf ns) (endOf ns) i).toArray⟩ t) ?_ ?_
  · intro i v I oI C oC D m₂ ys h tk E' hi hv hC hx F5 N5 off5 ne5
    obtain ⟨t, rfl⟩ := hv
    have hc5 := hcnt (97 + i)
    have he5 := endL_len ((drawnL ns).sum + (0 + (i : Int)))
    have z1 : (List.replicate ((wordS ns).cps.toList.count (97 + i)) 46).length + [97 + i].length ≤ 16777216 := by
      rw [List.length_replicate, List.length_singleton]; omega
    have z2 : (List.replicate ((wordS ns).cps.toList.count (97 + i)) 46 ++ [97 + i]).length + (endL ((drawnL ns).sum + (0 + (i : Int)))).length ≤ 16777216 := by
      rw [List.length_append, List.length_replicate, List.length_singleton]; omega
    k_steps
    exact comp_end (by assumption) (by assumption) off5 trivial ⟨_, by rw [cnt_base ns hi]; rfl⟩
  · intro ys hlen hY D h tk F5 N5 off5
    simp only [LCg.Off1, and_true] at off5
    (((first | refine Mine.and23 off5 ?_ | refine Mine.and22 off5 ?_ | refine Mine.and21 off5 ?_ | refine Mine.and20 off5 ?_ | refine Mine.and19 off5 ?_ | refine Mine.and18 off5 ?_ | refine Mine.and17 off5 ?_ | refine Mine.and16 off5 ?_ | refine Mine.and15 off5 ?_ | refine Mine.and14 off5 ?_ | refine Mine.and13 off5 ?_ | refine Mine.and12 off5 ?_ | refine Mine.and11 off5 ?_); clear off5; intros))
    k_steps
    refine join_rows (bsOf_len ns) (fun i => Nat.le_trans (bsOf_le ns i) (by decide)) (endOf_len ns) rfl ⟨_, (N5 _ (.head _)).1, rfl, _, rfl⟩ hlen hY fun t' k' => ?_
    k_steps
    rename News gB LB _ _ => NN
    refine next _ _ _ (by assumption) ?led
    case led => (((try unfold lawLed); repeat' (first | exact news_nil | refine news_pick NN (by repeat' (first | exact List.Mem.head _ | refine List.Mem.tail _ ?_)) ?_ | exact news_rest NN (fun p hp => by repeat' (first | exact hp | refine List.Mem.tail _ ?_)))))
end
end Mine

end PartL9

section FlushK6
open PySem PySem.W PyProof.Rows PySem.Calls
namespace Mine
theorem start_K6 {prog : Program} {w : World} {A : Around} {E : Value → Shared → Prop} {s : Shared} {env : Env} {Q : Flow → Shared → Prop} (h : wpAny (model prog w) A (execs [] env) Q E s) : wpAny (model prog w) A (execs [] env) Q E s := by
  w_top off
  first | (walk1; fail) | exact h
end Mine
end FlushK6
section PartK6
open PySem PySem.W PyProof.Rows PySem.Calls
namespace Mine
noncomputable abbrev crlf : Nat → List Nat := fun _ => [13, 10]
theorem crlf_len (i : Nat) : (crlf i).length ≤ 2 := Nat.le_refl _
section
variable {w : World} {p : Program} {loose : List PySem.Str} {mean : ExcName → Option Value} {mg mb : Str → Option Value} {dp un : Nat} {gd : Option (List Code)} {cn : Str} {cs : Scope} {L a : Addr} {ccd : Value} {cl : List (Str × Addr)} {outer : List Env} {A₀ : Around} {base h₀ : Heap} {m : Str → Option Value}
    {news : List (Addr × Obj)} {s : Shared} {Q E : Value → Shared → Prop} {t1 : Tok} {e : Nat → List Nat} {bs : List Nat}
theorem quote_rows (S : Site w p loose mean mg mb dp un cn cs L a ccd cl outer A₀ base h₀ m news s) (hx : (rowsFrom e 0 bs).length ≤ 400) (he : ∀ k, e k = [10] ∨ e k = [13] ∨ e k = [13, 10])
    (h : ∀ h' tk' tt, Fr h₀ L h' m → News h₀ L h' news → Q (.str ⟨(rowsFrom crlf 0 (bs.map incD)).toArray⟩ tt) { s with heap := h', toks := tk' }) (X : (kF w.params).In h₀) :
    wpAny (model rwl.prog w) (ktrTop dp un gd cn cs L a ccd cl outer) (call (.ref 89) [.str ⟨(rowsFrom e 0 bs).toArray⟩ t1]) Q E s := by
  refine quote_ctr S (by show (rowsFrom e 0 bs).toArray.size ≤ 400; rw [List.size_toArray]; exact hx) (fun h' tk' tt F' N' => ?_) X
  show Q (.str ⟨(dotL true (eolL (rowsFrom e 0 bs))).toArray⟩ tt) _
  rw [eol_rows he, dot_rows]
  exact h h' tk' tt F' N'
theorem fix_rows (S : Site w p loose mean mg mb dp un cn cs L a ccd cl outer A₀ base h₀ m news s) (hx : (rowsFrom e 0 bs).length ≤ 400) (he : ∀ k, e k = [10] ∨ e k = [13] ∨ e k = [13, 10])
    (h : ∀ h' tk' tt, Fr h₀ L h' m → News h₀ L h' news → Q (.str ⟨(rowsFrom crlf 0 bs).toArray⟩ tt) { s with heap := h', toks := tk' }) (X : (kF w.params).In h₀) :
    wpAny (model rwl.prog w) (ktrTop dp un gd cn cs L a ccd cl outer) (call (.ref 96) [.str ⟨(rowsFrom e 0 bs).toArray⟩ t1]) Q E s := by
  refine fix_ctr S (by show (rowsFrom e 0 bs).toArray.size ≤ 400; rw [List.size_toArray]; exact hx) (fun h' tk' tt F' N' => ?_) X
  show Q (.str ⟨(eolL (rowsFrom e 0 bs)).toArray⟩ tt) _
  rw [eol_rows he]
  exact h h' tk' tt F' N'
end
section
variable {prog : Program} {w : World} {A : Around} {E : Value → Shared → Prop} {s : Shared} {t u : Tok} {Q : Value → Shared → Prop} {value slice : PySem.Expr} {h₀ : Heap} {L : Addr} {news : List (Addr × Obj)}
theorem add_crlf {a : List Nat} (hs : a.length ≤ 2000) (h : ∀ t' k, Q (.str ⟨(a ++ [13, 10]).toArray⟩ t') { s with toks := k }) :
    wpAny (model prog w) A (binaryOp .Add (.str ⟨a.toArray⟩ t) (.str (Str.ofString "\r\n") u)) Q E s := by
  rw [lit_crlf]
  exact add_tx (by show a.length + 2 ≤ _; omega) h
theorem mul_dotsI {j : Int} (h0 : 0 ≤ j) (hc : j ≤ 1000) (h : ∀ t' k, Q (.str ⟨(List.replicate j.toNat 46).toArray⟩ t') { s with toks := k }) :
    wpAny (model prog w) A (binaryOp .Mult (.str (Str.ofString ".") t) (.int j u)) Q E s := by
  obtain ⟨n, rfl⟩ := Int.eq_ofNat_of_zero_le h0
  exact mul_dots (by omega) h
theorem item_cnt {bs : List Nat} {cr : Addr} {cs : List Value} {kk : Nat} {j : Int} {i : Nat} (N : News h₀ L s.heap news) (hm : (cr, listOf cs.toArray kk) ∈ news) (hI : IntsAre cs (bs.map fun c : Nat => (c : Int))) (h8 : bs.length = 8) (hj : j = (i : Int)) (hi : i < 8) (h : ∀ t', Q (.int ((bs.getD i 0 : Nat) : Int) t') s)
    (hs : subscripted slice false (.ref cr) (.int j u) = operate [.ref cr, .int j u] (getItem (.ref cr) (.int j u)) := by with_unfolding_all rfl) (hg : ∀ r, letTemporaryGo value (.ref cr) r = pure () := by intro _; with_unfolding_all rfl) :
    wpAny (model prog w) A (subscriptTail value slice (.ref cr) (.int j u)) Q E s := by
  subst hj
  refine item_ints N hm hI (by rw [List.length_map, h8]; decide) (by omega) (by rw [List.length_map, h8]; omega) (fun t' => ?_) hs hg
  have e : (bs.map fun c : Nat => (c : Int)).getD ((i : Int)).toNat 0 = ((bs.getD i 0 : Nat) : Int) := by
    rw [Int.toNat_natCast, List.getD_eq_getElem?_getD, List.getElem?_map, List.getD_eq_getElem?_getD, List.getElem?_eq_getElem (by omega : i < bs.length)]
    rfl
  rw [e]
  exact h t'
end
end Mine

end PartK6

section FlushL10
open PySem PySem.W PyProof.Rows PySem.Calls
namespace Mine
theorem start_L10 {prog : Program} {w : World} {A : Around} {E : Value → Shared → Prop} {s : Shared} {env : Env} {Q : Flow → Shared → Prop} (h : wpAny (model prog w) A (execs [] env) Q E s) : wpAny (model prog w) A (execs [] env) Q E s := by
  w_top off
  first | (walk1; fail) | exact h
end Mine
end FlushL10
section PartL10
open PySem PySem.W PyProof.Rows PySem.Calls
namespace Mine
noncomputable def yLawG (k : List Stmt) : List Stmt := nth 10 yLawL :: k
noncomputable def lawG (k : List Stmt) : List Stmt := (fun (o : List Stmt) (_ : yLawG k = o) => o) _ (by dsimp only [yLawG, yLawL, fB, fnBs, pw, PySem.Challenge.pw_ty0053_01, nth])
section
variable {w : World} {p : Program} {loose : List PySem.Str} {mean : ExcName → Option Value} {mg mb : Str → Option Value} {gB : Heap} {LB sl fa dr : Addr} {cd : Value} {vs ws : List Value} {ns : List Int} {s : Shared} {Q : Flow → Shared → Prop} {E : Value → Shared → Prop} {mm : Str → Option Value} {k : List Stmt} {o1 o2 o3 o4 o5 o6 o7 o8 o9 o10 o11 : Obj} {t1 t2 t3 t4 t5 t6 : Tok} {cr er : Addr} {cs : List Value} {rest : List (Addr × Obj)}
theorem kw_L10_1 : True := by
  k_with_none
  k_with "my_m_look" => first | exact rfl | assumption | ((try dsimp only); repeat' (first | assumption | (refine (if_neg (by decide)).trans ?_) | (exact if_pos (by decide))))
  k_with "my_mem_deep" => (repeat' (first | assumption | exact List.Mem.head _ | refine List.Mem.tail _ ?_))
  k_with "eval Name" => (k_here; k_dflt (refine' ldL ?k1 ?k2 ?_ ?k3 ?k4; (case k3 => rfl); (case k4 => rfl); (case k1 => k_asm); (case k2 => k_extra "my_m_look"); k_whole))
  k_with "eval Name" => (k_here; (with_reducible show wpAny _ _ (eval (Expr.Name _ _) (compEnvC _ _ _ _)) _ _ _); k_dflt (refine' lcf_cell ?N ?c ?m ?d ?_ ?a ?b; (case a => rfl); (case b => rfl); (case N => k_asm); (case c => rfl); (case m => k_extra "my_mem_deep"); (case d => assumption); k_whole))
  k_with "CompEnd" => refine StopIt.out ?_
  k_with "CompSrc" => refine StopIt.out ?_
  k_with "subscriptTail Name Name str int" => (k_here; (with_reducible show wpAny _ _ (subscriptTail _ _ (Value.str _ _) (Value.int _ _)) _ _ _); k_dflt (refine' item_l8 ?hj ?hi ?_; (case hj => exact (Int.zero_add _)); (case hi => assumption); k_whole); intro _ _)
  k_with "binaryOp Add str str" => (k_here; (with_reducible show wpAny _ _ (binaryOp Operator.Add (Value.str (PySem.Str.mk _) _) (Value.str (PySem.Str.mk _) _)) _ _ _); k_dflt (refine' add_tx ?hs ?_; (case hs => with_reducible assumption); k_whole); intro _ _)
  k_with "binaryOp Add str str" => (k_here; (with_reducible show wpAny _ _ (binaryOp Operator.Add (Value.str (PySem.Str.mk _) _) (Value.str (PySem.Str.ofString _) _)) _ _ _); k_dflt (refine' add_crlf ?hs ?_; (case hs => with_reducible assumption); k_whole); intro _ _)
  k_with "binaryOp Mult str int" => (k_here; k_dflt (refine' mul_dotsI ?h0 ?hc ?_; (case h0 => first | (with_reducible assumption) | decide); (case hc => first | (with_reducible assumption) | decide); k_whole); intro _ _)
  k_with "subscriptTail Name Name ref int" => (k_here; (with_reducible show wpAny _ _ (subscriptTail _ _ (Value.ref _) (Value.int _ _)) _ _ _); k_dflt (refine' item_cnt ?N ?hm ?hI ?h8 ?hj ?hi ?_; (case N => k_asm); (case hm => k_extra "my_mem_deep"); (case hI => assumption); (case h8 => assumption); (case hj => exact (Int.zero_add _)); (case hi => assumption); k_whole); intro _)
  k_with "call ref" => (k_here; (with_reducible show wpAny _ _ (call (Value.ref 89) _) _ _ _); k_dflt (refine' quote_rows (Site.mk (by k_asm) (by k_asm) (by k_asm) (by k_asm) (by k_asm) rfl (by decide) (by decide)) ?hx ?he ?_ ?X; (case hx => assumption); (case he => assumption); (case X => k_asm); k_whole); intro _ _ _ _ _)
  exact True.intro
theorem inc_getD (bs : List Nat) (i : Nat) : (bs.map incD).getD i 0 = incD (bs.getD i 0) := by
  rw [List.getD_eq_getElem?_getD, List.getElem?_map, List.getD_eq_getElem?_getD]
  cases bs[i]? <;> rfl
theorem law_s7 (H : LawHyp w p loose mean mg mb gB LB sl vs ns) (F : Fr gB LB s.heap mm) (N : News gB LB s.heap (lawLed LB o1 o2 o3 o4 o5 o6 o7 o8 o9 o10 o11 ((cr, LCg.lst cs) :: (188, tabObj #[]) :: [])))
    (e2 : o2.data = .cell (some (.str (Str.ofString "abcdefgh") t2))) (e5 : o5.data = .cell (some (.ref cr))) (hcs : IntsAre cs ((bsOf ns).map fun c : Nat => (c : Int))) (mu : mm (Str.ofString "uneven") = some (.str ⟨(rowsFrom (endOf ns) 0 (bsOf ns)).toArray⟩ t6))
    (hoff : LCg.Off1 cr [(LB + 1, o1), (LB + 2, o2), (LB + 3, o3), (LB + 4, o4), (LB + 5, o5), (LB + 6, o6), (LB + 7, o7), (LB + 8, o8), (LB + 9, o9), (LB + 10, o10), (LB + 11, o11), (188, tabObj #[])])
    (next : ∀ h' tk', Fr gB LB h' mm → News gB LB h' (lawLed LB o1 o2 o3 o4 o5 o6 o7 o8 o9 o10 o11 ((cr, LCg.lst cs) :: (188, tabObj #[]) :: [])) → wpAny (model rwl.prog w) (callerA.deeper (lawEnv LB fa cd)) (execs k (lawEnv LB fa cd)) Q E { s with heap := h', toks := tk' }) :
    (kF w.params).In gB → wpAny (model rwl.prog w) (callerA.deeper (lawEnv LB fa cd)) (execs (lawG k) (lawEnv LB fa cd)) Q E s := by
  k_fill
  intro X
  obtain ⟨B, T, _, C, hs, hI, hl, lb⟩ := H
  simp only [LCg.Off1, and_true] at hoff
  (((first | refine Mine.and23 hoff ?_ | refine Mine.and22 hoff ?_ | refine Mine.and21 hoff ?_ | refine Mine.and20 hoff ?_ | refine Mine.and19 hoff ?_ | refine Mine.and18 hoff ?_ | refine Mine.and17 hoff ?_ | refine Mine.and16 hoff ?_ | refine Mine.and15 hoff ?_ | refine Mine.and14 hoff ?_ | refine Mine.and13 hoff ?_ | refine Mine.and12 hoff ?_ | refine Mine.and11 hoff ?_); clear hoff; intros))
  have h8 := bsOf_len ns
  have he : ∀ k, endOf ns k = [10] ∨ endOf ns k = [13] ∨ endOf ns k = [13, 10] := fun k => endL_is _
  have hx : (rowsFrom (endOf ns) 0 (bsOf ns)).length ≤ 400 := by
    have := rowsFrom_len (endOf_len ns) (bs := bsOf ns) 0 (fun i => Nat.le_trans (bsOf_le ns i) (by decide))
    rw [h8] at this
    omega
  unfold lawEnv lawS lawG
  unfold lawEnv lawS at next
  unfold lawLed at N
  k_steps
  unfold StopIt
  refine LCg.CompSrc.range (n := 8) (by rfl) (by assumption) (by assumption) (by assumption) (by decide) (by rfl) (by decide) ?_
  intro g
  refine comp_const (fun i y => ∃ t : Tok, y = Value.str ⟨(rowOf ((bsOf ns).map incD) crlf i).toArray⟩ t) ?_ ?_
  · intro i v I oI C oC D m₂ ys h tk E' hi hv hC hx F5 N5 off5 ne5
    obtain ⟨t, rfl⟩ := hv
    have hb5 := bsOf_le ns i
    have einc := inc_getD (bsOf ns) i
    have z1 : (List.replicate (((((bsOf ns).getD i 0 : Nat) : Int) + 1).toNat) 46).length + [97 + i].length ≤ 16777216 := by
      rw [List.length_replicate, List.length_singleton]; omega
    have z2 : (List.replicate (((((bsOf ns).getD i 0 : Nat) : Int) + 1).toNat) 46 ++ [97 + i]).length ≤ 2000 := by
      rw [List.length_append, List.length_replicate, List.length_singleton]; omega
    have y1 : 0 ≤ (((bsOf ns).getD i 0 : Nat) : Int) + 1 := by omega
    have y2 : (((bsOf ns).getD i 0 : Nat) : Int) + 1 ≤ 1000 := by omega
    have z3 : (List.replicate (Int.toNat 0) 46).length + [97 + i].length ≤ 16777216 := by
      rw [List.length_replicate, List.length_singleton]; decide
    have z4 : (List.replicate (Int.toNat 0) 46 ++ [97 + i]).length ≤ 2000 := by
      rw [List.length_append, List.length_replicate, List.length_singleton]; decide
    k_steps
    · rename 0 < _ => hpos
      have e2 : incD ((bsOf ns).getD i 0) = ((((bsOf ns).getD i 0 : Nat) : Int) + 1).toNat := by
        unfold incD
        rw [if_pos (by omega)]
        omega
      exact comp_end (by assumption) (by assumption) off5 trivial ⟨_, by unfold rowOf; rw [einc, e2]⟩
    · rename ¬ 0 < _ => hneg
      have e2 : incD ((bsOf ns).getD i 0) = Int.toNat 0 := by
        unfold incD
        rw [if_neg (by omega)]
        rfl
      exact comp_end (by assumption) (by assumption) off5 trivial ⟨_, by unfold rowOf; rw [einc, e2]⟩
  · intro ys hlen hY D h tk F5 N5 off5
    simp only [LCg.Off1, and_true] at off5
    (((first | refine Mine.and23 off5 ?_ | refine Mine.and22 off5 ?_ | refine Mine.and21 off5 ?_ | refine Mine.and20 off5 ?_ | refine Mine.and19 off5 ?_ | refine Mine.and18 off5 ?_ | refine Mine.and17 off5 ?_ | refine Mine.and16 off5 ?_ | refine Mine.and15 off5 ?_ | refine Mine.and14 off5 ?_ | refine Mine.and13 off5 ?_ | refine Mine.and12 off5 ?_ | refine Mine.and11 off5 ?_); clear off5; intros))
    k_steps
    refine join_rows (bs := (bsOf ns).map incD) (e := crlf) (by rw [List.length_map]; exact h8) (fun i => ?_) crlf_len rfl ⟨_, (N5 _ (.head _)).1, rfl, _, rfl⟩ hlen hY fun t' k' => ?_
    · rw [inc_getD]
      have := bsOf_le ns i
      unfold incD
      split <;> omega
    k_steps
    · exfalso
      rename _ = true => hne
      simp at hne
    · rename News gB LB _ _ => NN
      refine next _ _ (by assumption) ?led
      case led => (((try unfold lawLed); repeat' (first | exact news_nil | refine news_pick NN (by repeat' (first | exact List.Mem.head _ | refine List.Mem.tail _ ?_)) ?_ | exact news_rest NN (fun p hp => by repeat' (first | exact hp | refine List.Mem.tail _ ?_)))))
end
end Mine

end PartL10

section FlushT3
open PySem PySem.W PyProof.Rows PySem.Calls
namespace Mine
theorem start_T3 {prog : Program} {w : World} {A : Around} {E : Value → Shared → Prop} {s : Shared} {env : Env} {Q : Flow → Shared → Prop} (h : wpAny (model prog w) A (execs [] env) Q E s) : wpAny (model prog w) A (execs [] env) Q E s := by
  w_top off
  first | (walk1; fail) | exact h
end Mine
end FlushT3
section PartT3
open PySem PySem.W PyProof.Rows PySem.Calls
namespace Mine
noncomputable def quarterF (k : Int) : UInt64 := Float64.ofFrac (decide (k < 0) != decide ((4 : Int) < 0)) k.natAbs (Int.natAbs 4)
noncomputable def okHSVb (h s : UInt64) : Bool := !(eqF s 0) && !(Float64.isNaN (sixF h)) && !(Float64.isInf (sixF h)) && decide ((turnI h).natAbs < 1000)
noncomputable def colOk (h s v : UInt64) (k : Nat) : Bool := okHSVb h s && okRGB (rgbF h s v).1 (rgbF h s v).2.1 (rgbF h s v).2.2 && decide ((hsvF (rgbF h s v).1 (rgbF h s v).2.1 (rgbF h s v).2.2).1 = eighthF (k : Int))
theorem col_tab0 : ∀ (car : Fin 8) (a b : Fin 4), colOk (eighthF (car.val : Int)) (quarterF (1 + (a.val : Int))) (quarterF (1 + (b.val : Int))) car.val = true := by decide +kernel
noncomputable def sameTurn (h h' : UInt64) : Bool := !(Float64.isNaN (sixF h)) && !(Float64.isInf (sixF h)) && decide ((turnI h).natAbs < 1000) && decide ((turnI h).fmod 6 = (turnI h').fmod 6) && decide (partF h = partF h')
theorem turn_tab : ∀ (car : Fin 8) (c : Fin 3), sameTurn (Float64.add (eighthF (car.val : Int)) (Float64.ofInt (c.val : Int))) (eighthF (car.val : Int)) = true := by decide +kernel
theorem col_turn {h h' s v : UInt64} {k : Nat} (e : sameTurn h h' = true) (o : colOk h' s v k = true) : colOk h s v k = true := by
  unfold sameTurn at e
  simp only [Bool.and_eq_true, Bool.not_eq_true', decide_eq_true_eq] at e
  obtain ⟨⟨⟨⟨e1, e2⟩, e3⟩, e4⟩, e5⟩ := e
  have er : rgbF h s v = rgbF h' s v := by unfold rgbF qF tF; rw [e4, e5]
  unfold colOk okHSVb at o ⊢
  rw [er, e1, e2, decide_eq_true e3]
  simp only [Bool.and_eq_true] at o ⊢
  exact ⟨⟨⟨⟨⟨o.1.1.1.1.1, by first | trivial | rfl⟩, by first | trivial | rfl⟩, by first | trivial | rfl⟩, o.1.2⟩, o.2⟩
theorem col_tab (car : Fin 8) (c : Fin 3) (a b : Fin 4) : colOk (Float64.add (eighthF (car.val : Int)) (Float64.ofInt (c.val : Int))) (quarterF (1 + (a.val : Int))) (quarterF (1 + (b.val : Int))) car.val = true := col_turn (turn_tab car c) (col_tab0 car a b)
theorem lt_tab : ∀ a b : Fin 9, ltF' (eighthF (a.val : Int)) (eighthF (b.val : Int)) = decide (a.val < b.val) := by decide +kernel
end Mine

end PartT3

section FlushT4
open PySem PySem.W PyProof.Rows PySem.Calls
namespace Mine
theorem start_T4 {prog : Program} {w : World} {A : Around} {E : Value → Shared → Prop} {s : Shared} {env : Env} {Q : Flow → Shared → Prop} (h : wpAny (model prog w) A (execs [] env) Q E s) : wpAny (model prog w) A (execs [] env) Q E s := by
  w_top off
  first | (walk1; fail) | exact h
end Mine
end FlushT4
section PartT4
open PySem PySem.W PyProof.Rows PySem.Calls
namespace Mine
theorem sub_tab : ∀ a b : Fin 9, Float64.sub (eighthF (a.val : Int)) (eighthF (b.val : Int)) = eighthF ((a.val : Int) - (b.val : Int)) := by decide +kernel
theorem add_tab : ∀ a b : Fin 9, Float64.add (eighthF (a.val : Int)) (eighthF (b.val : Int)) = eighthF ((a.val : Int) + (b.val : Int)) := by decide +kernel
theorem slt_tab : ∀ a b : Fin 17, ltF' (eighthF ((a.val : Int) - 8)) (eighthF ((b.val : Int) - 8)) = decide (a.val < b.val) := by decide +kernel
theorem gt0_tab : ∀ a : Fin 17, gt0F (eighthF ((a.val : Int) - 8)) = decide (8 < a.val) := by decide +kernel
theorem one_tab : ∀ a : Fin 17, (Float64.cmpInt (eighthF (a.val : Int)) 1 == some Ordering.eq) = decide (a.val = 8) := by decide +kernel
noncomputable def wayF (x y : UInt64) : UInt64 := Float64.mul (Float64.divmod (Float64.sub x y) 4607182418800017408).snd (Float64.ofInt 8)
theorem way_tab : ∀ a b : Fin 8, (Flt.toInt Float64.truncOf (wayF (eighthF (a.val : Int)) (eighthF (b.val : Int))) = ((a.val : Int) - (b.val : Int)).fmod 8) ∧ Float64.isNaN (wayF (eighthF (a.val : Int)) (eighthF (b.val : Int))) = false ∧ Float64.isInf (wayF (eighthF (a.val : Int)) (eighthF (b.val : Int))) = false := by decide +kernel
end Mine

end PartT4

section FlushV2
open PySem PySem.W PyProof.Rows PySem.Calls
namespace Mine
theorem start_V2 {prog : Program} {w : World} {A : Around} {E : Value → Shared → Prop} {s : Shared} {env : Env} {Q : Flow → Shared → Prop} (h : wpAny (model prog w) A (execs [] env) Q E s) : wpAny (model prog w) A (execs [] env) Q E s := by
  w_top off
  first | (walk1; fail) | exact h
end Mine
end FlushV2
section PartV2
open PySem PySem.W PyProof.Rows PySem.Calls
namespace Mine
section
variable {prog : Program} {w : World} {A : Around} {E Q : Value → Shared → Prop} {s : Shared} {t u : Tok} {a : Int}
theorem pow_big : (2 : Nat) ^ 62 < 2 ^ 1023 := by decide +kernel
theorem div8 (hA : A.handled = none) (h : a.natAbs < 2 ^ 62) (k : Q (.float (eighthF a) s.toks) { s with toks := s.toks + 1 }) : wpAny (model prog w) A (binaryOp .Div (.int a t) (.int 8 u)) Q E s :=
  Flt.div_ii_fits hA (Nat.lt_trans h pow_big) (fun e => absurd e (by decide)) (fun _ _ => k)
theorem div4 (hA : A.handled = none) (h : a.natAbs < 2 ^ 62) (k : Q (.float (quarterF a) s.toks) { s with toks := s.toks + 1 }) : wpAny (model prog w) A (binaryOp .Div (.int a t) (.int 4 u)) Q E s :=
  Flt.div_ii_fits hA (Nat.lt_trans h pow_big) (fun e => absurd e (by decide)) (fun _ _ => k)
end
end Mine

end PartV2

section FlushV3
open PySem PySem.W PyProof.Rows PySem.Calls
namespace Mine
theorem start_V3 {prog : Program} {w : World} {A : Around} {E : Value → Shared → Prop} {s : Shared} {env : Env} {Q : Flow → Shared → Prop} (h : wpAny (model prog w) A (execs [] env) Q E s) : wpAny (model prog w) A (execs [] env) Q E s := by
  w_top off
  first | (walk1; fail) | exact h
end Mine
end FlushV3
section PartV3
open PySem PySem.W PyProof.Rows PySem.Calls
namespace Mine
theorem fmod_fin (z : Int) {n : Nat} (hn : 0 < n) : ∃ k : Fin n, z.fmod (n : Int) = (k.val : Int) := by
  have h0 : (0 : Int) < n := by omega
  have h1 := Int.fmod_nonneg_of_pos z h0
  have h2 := Int.fmod_lt_of_pos z h0
  exact ⟨⟨(z.fmod n).toNat, by omega⟩, by show z.fmod n = ((z.fmod n).toNat : Int); omega⟩
theorem div4m {prog : Program} {w : World} {A : Around} {E Q : Value → Shared → Prop} {s : Shared} {t u : Tok} {z : Int} (hA : A.handled = none) (k : Q (.float (quarterF (1 + z.fmod 4)) s.toks) { s with toks := s.toks + 1 }) :
    wpAny (model prog w) A (binaryOp .Div (.int (1 + z.fmod 4) t) (.int 4 u)) Q E s := by
  obtain ⟨j, hj⟩ := fmod_fin z (n := 4) (by decide)
  refine div4 hA ?_ k
  have hj' : z.fmod 4 = (j.val : Int) := hj
  rw [hj']
  have := j.isLt
  exact Nat.lt_trans (show (1 + (j.val : Int)).natAbs < 8 by omega) (by decide)
structure GoodCol (h s v : UInt64) (k : Nat) : Prop where
  hsv : OkHSV h s
  rgb : okRGB (rgbF h s v).1 (rgbF h s v).2.1 (rgbF h s v).2.2 = true
  hue : (hsvF (rgbF h s v).1 (rgbF h s v).2.1 (rgbF h s v).2.2).1 = eighthF (k : Int)
theorem good_of {h s v : UInt64} {k : Nat} (e : colOk h s v k = true) : GoodCol h s v k := by
  unfold colOk okHSVb at e
  simp only [Bool.and_eq_true, Bool.not_eq_true', decide_eq_true_eq] at e
  obtain ⟨⟨⟨⟨⟨e1, e2⟩, e3⟩, e4⟩, e5⟩, e6⟩ := e
  exact ⟨⟨e1, e2, e3, Nat.lt_trans e4 (by decide +kernel)⟩, e5, e6⟩
theorem good_wish {car : Nat} (hc : car < 8) (d e f : Int) : GoodCol (Float64.add (eighthF (car : Int)) (Float64.ofInt (d.fmod 3))) (quarterF (1 + e.fmod 4)) (quarterF (1 + f.fmod 4)) car := by
  obtain ⟨i, hi⟩ := fmod_fin d (n := 3) (by decide)
  obtain ⟨j, hj⟩ := fmod_fin e (n := 4) (by decide)
  obtain ⟨l, hl⟩ := fmod_fin f (n := 4) (by decide)
  have hi' : d.fmod 3 = (i.val : Int) := hi
  have hj' : e.fmod 4 = (j.val : Int) := hj
  have hl' : f.fmod 4 = (l.val : Int) := hl
  rw [hi', hj', hl']
  exact good_of (col_tab ⟨car, hc⟩ i j l)
theorem good_hue {k : Nat} (hc : k < 8) (e f : Int) : GoodCol (eighthF (k : Int)) (quarterF (1 + e.fmod 4)) (quarterF (1 + f.fmod 4)) k := by
  obtain ⟨j, hj⟩ := fmod_fin e (n := 4) (by decide)
  obtain ⟨l, hl⟩ := fmod_fin f (n := 4) (by decide)
  have hj' : e.fmod 4 = (j.val : Int) := hj
  have hl' : f.fmod 4 = (l.val : Int) := hl
  rw [hj', hl']
  exact good_of (col_tab0 ⟨k, hc⟩ j l)
end Mine

end PartV3

section FlushR3
open PySem PySem.W PyProof.Rows PySem.Calls
namespace Mine
theorem start_R3 {prog : Program} {w : World} {A : Around} {E : Value → Shared → Prop} {s : Shared} {env : Env} {Q : Flow → Shared → Prop} (h : wpAny (model prog w) A (execs [] env) Q E s) : wpAny (model prog w) A (execs [] env) Q E s := by
  w_top off
  first | (walk1; fail) | exact h
end Mine
end FlushR3
section PartR3
open PySem PySem.W PyProof.Rows PySem.Calls
namespace Mine
structure RowOk (rs : List (Addr × (UInt64 × UInt64 × UInt64))) (hs : List Nat) : Prop where
  len : rs.length = hs.length
  col : ∀ j r, rs[j]? = some r → okRGB r.2.1 r.2.2.1 r.2.2.2 = true ∧ (hsvF r.2.1 r.2.2.1 r.2.2.2).1 = eighthF ((hs.getD j 0 : Nat) : Int)
theorem lt8 {a b : Nat} (ha : a ≤ 8) (hb : b ≤ 8) : ltF' (eighthF (a : Int)) (eighthF (b : Int)) = decide (a < b) := lt_tab ⟨a, Nat.lt_succ_of_le ha⟩ ⟨b, Nat.lt_succ_of_le hb⟩
theorem sub8 {a b : Nat} (ha : a ≤ 8) (hb : b ≤ 8) : Float64.sub (eighthF (a : Int)) (eighthF (b : Int)) = eighthF ((a : Int) - (b : Int)) := sub_tab ⟨a, Nat.lt_succ_of_le ha⟩ ⟨b, Nat.lt_succ_of_le hb⟩
theorem add8 {a b : Nat} (ha : a ≤ 8) (hb : b ≤ 8) : Float64.add (eighthF (a : Int)) (eighthF (b : Int)) = eighthF ((a : Int) + (b : Int)) := add_tab ⟨a, Nat.lt_succ_of_le ha⟩ ⟨b, Nat.lt_succ_of_le hb⟩
theorem up8 {x : Int} (hx : -8 ≤ x ∧ x ≤ 8) : (x + 8).toNat < 17 ∧ (((x + 8).toNat : Nat) : Int) - 8 = x := by omega
theorem lt_up8 {a b : Nat} {x y : Int} (ha : (a : Int) - 8 = x) (hb : (b : Int) - 8 = y) : a < b ↔ x < y := by omega
theorem slt8 {x y : Int} (hx : -8 ≤ x ∧ x ≤ 8) (hy : -8 ≤ y ∧ y ≤ 8) : ltF' (eighthF x) (eighthF y) = decide (x < y) := by
  have ux := up8 hx
  have uy := up8 hy
  have h := slt_tab ⟨(x + 8).toNat, ux.1⟩ ⟨(y + 8).toNat, uy.1⟩
  rw [← decide_eq_decide.mpr (lt_up8 ux.2 uy.2)]
  simpa only [ux.2, uy.2] using h
theorem gt08 {x : Int} (hx : -8 ≤ x ∧ x ≤ 8) : gt0F (eighthF x) = decide (0 < x) := by
  have ux := up8 hx
  have h := gt0_tab ⟨(x + 8).toNat, ux.1⟩
  rw [← decide_eq_decide.mpr (lt_up8 (a := 8) (x := 0) (by decide) ux.2)]
  simpa only [ux.2] using h
theorem room {a b c n : Nat} (h : a + b < n) (g : c ≤ b) : a + c < n := Nat.lt_of_le_of_lt (Nat.add_le_add_left g _) h
theorem RowOk.lt {rs : List (Addr × (UInt64 × UInt64 × UInt64))} {S : Nat} (hS : okM S = true) (j : Nat) : (hsOf S).getD j 0 ≤ 8 := by
  rw [List.getD_eq_getElem?_getD]
  cases e : (hsOf S)[j]? with
  | none => exact Nat.zero_le _
  | some x => exact Nat.le_of_lt (hs_lt hS (List.mem_of_getElem? e))
theorem hs_le {S : Nat} (hS : okM S = true) (j : Nat) : (hsOf S).getD j 0 ≤ 8 := RowOk.lt (rs := []) hS j
theorem hue_col {w : World} {p : Program} {loose : List PySem.Str} {mean : ExcName → Option Value} {mg mb : Str → Option Value} {q1 c1 xa : Addr} {qual : PySem.Str} {doc pm ctv : Value} {oc : Obj} {vs : Array Value} {t : Tok} {h sv v : UInt64} {k : Nat} {k1 k2 k3 : Tok}
    {dp un : Nat} {gd : Option (List Code)} {cn : Str} {cs : Scope} {L a : Addr} {ccd : Value} {cl : List (Str × Addr)} {outer : List Env} {A₀ : Around} {base h₀ : Heap} {m : Str → Option Value} {news : List (Addr × Obj)} {s : Shared} {Q E : Value → Shared → Prop}
    (G : GoodCol h sv v k) (n1 : (q1, hueFn qual doc pm c1 ctv) ∈ news) (n2 : (c1, oc) ∈ news) (hd : oc.data = .fields vs) (hv : vs[1]? = some (.str qual t)) (n3 : (xa, tup3 (rgbF h sv v) k1 k2 k3) ∈ news)
    (S : Site w p loose mean mg mb dp un cn cs L a ccd cl outer A₀ base h₀ m news s) (hdp : dp + 24 < recursionLimit) (hun : un + 80 < cLine)
    (hret : ∀ t h' tk', Fr h₀ L h' m → News h₀ L h' news → Q (.float (eighthF (k : Int)) t) { s with heap := h', toks := tk' }) :
    wpAny (model rwl.prog w) (ktrTop dp un gd cn cs L a ccd cl outer) (call (.ref q1) [.ref xa]) Q E s := by
  rw [← G.hue] at hret
  exact hue_call n1 n2 hd hv n3 G.rgb S.B S.F S.X S.N S.T S.hk hdp hun hret
noncomputable def rowNeed (q1 c1 : Addr) (qual : PySem.Str) (doc pm ctv : Value) (oc : Obj) (rs : List (Addr × (UInt64 × UInt64 × UInt64))) (news : List (Addr × Obj)) : Prop :=
  (q1, hueFn qual doc pm c1 ctv) ∈ news ∧ (c1, oc) ∈ news ∧ RowIn rs news
theorem row_keys {w : World} {p : Program} {loose : List PySem.Str} {mean : ExcName → Option Value} {mg mb : Str → Option Value} {q1 c1 : Addr} {qual : PySem.Str} {doc pm ctv : Value} {oc : Obj} {vs : Array Value} {t : Tok} {rs : List (Addr × (UInt64 × UInt64 × UInt64))} {hs : List Nat}
    (hd : oc.data = .fields vs) (hv : vs[1]? = some (.str qual t)) (R : RowOk rs hs) :
    ∀ i v, (rs.map fun r => Value.ref r.1).toArray[i]? = some v → KeyCtr w p loose mean mg mb q1 (rowNeed q1 c1 qual doc pm ctv oc rs) v (eighthF ((hs.getD i 0 : Nat) : Int)) := by
  intro i v hv'
  obtain ⟨r, hr, rfl⟩ := row_item hv'
  obtain ⟨ok, hh⟩ := R.col i r hr
  intro dp un gd cn cs L a ccd cl outer A₀ base h₀ m news s Q E B F X N T hk hn hdp hun hret
  obtain ⟨n1, n2, n3⟩ := hn
  obtain ⟨k1, k2, k3, n4⟩ := n3 r (List.mem_of_getElem? hr)
  rw [← hh] at hret
  exact hue_call n1 n2 hd hv n4 ok B F X N T hk (room hdp (by decide)) (room hun (by decide)) hret
theorem row_size {rs : List (Addr × (UInt64 × UInt64 × UInt64))} : ((rs.map fun r => Value.ref r.1).toArray).size = rs.length := by rw [List.size_toArray, List.length_map]
theorem rs_lt {rs : List (Addr × (UInt64 × UInt64 × UInt64))} {S n : Nat} (R : RowOk rs (hsOf S)) (hS : okM S = true) (g : 6 < n) : rs.length < n := R.len ▸ Nat.lt_of_le_of_lt (hs_len hS) g
theorem rows_lt {rs : List (Addr × (UInt64 × UInt64 × UInt64))} {S n : Nat} (R : RowOk rs (hsOf S)) (hS : okM S = true) (g : 6 < n) : ((rs.map fun r => Value.ref r.1).toArray).size < n := by rw [row_size, R.len]; exact Nat.lt_of_le_of_lt (hs_len hS) g
theorem hsz_lt {ws : List Value} {S n : Nat} (hS : okM S = true) (e : ws.toArray.size = (hsOf S).length) (g : 6 < n) : ws.toArray.size < n := by rw [e]; exact Nat.lt_of_le_of_lt (hs_len hS) g
theorem at_le8 {rs : List (Addr × (UInt64 × UInt64 × UInt64))} {S i : Nat} (R : RowOk rs (hsOf S)) (hS : okM S = true) (h : i < rs.length) : i ≤ 8 := Nat.le_trans (Nat.le_of_lt h) (Nat.le_trans (R.len ▸ hs_len hS) (by decide))
theorem first_row {w : World} {p : Program} {loose : List PySem.Str} {mean : ExcName → Option Value} {mg mb : Str → Option Value} {q1 c1 ra : Addr} {qual : PySem.Str} {doc pm ctv : Value} {oc : Obj} {vs : Array Value} {t t1 : Tok} {rs : List (Addr × (UInt64 × UInt64 × UInt64))} {S car kk : Nat}
    {dp un : Nat} {gd : Option (List Code)} {cn : Str} {cs : Scope} {L a : Addr} {ccd : Value} {cl : List (Str × Addr)} {outer : List Env} {A₀ : Around} {base h₀ : Heap} {m : Str → Option Value} {news : List (Addr × Obj)} {s : Shared} {Q E : Value → Shared → Prop}
    (T : Site w p loose mean mg mb dp un cn cs L a ccd cl outer A₀ base h₀ m news s) (hS : okM S = true) (hc : car < 8) (R : RowOk rs (hsOf S)) (hdp : dp + 40 < recursionLimit) (hun : un + 140 < cLine)
    (hra : (ra, listOf (rs.map fun r => Value.ref r.1).toArray kk) ∈ news) (n1 : (q1, hueFn qual doc pm c1 ctv) ∈ news) (n2 : (c1, oc) ∈ news) (hd : oc.data = .fields vs) (hv : vs[1]? = some (.str qual t)) (n3 : RowIn rs news)
    (X : (kF w.params).In h₀)
    (hret : ∀ t h' tk', Fr h₀ L h' m → News h₀ L h' news → Q (.int (pFirst (hsOf S) car) t) { s with heap := h', toks := tk' }) :
    wpAny (model rwl.prog w) (ktrTop dp un gd cn cs L a ccd cl outer) (call (.ref 58) [.ref ra, .float (eighthF (car : Int)) t1] [(Str.ofString "key", .ref q1)]) Q E s := by
  have hl := R.len
  have hl6 := hs_len hS
  refine bisL_ctr (need := rowNeed q1 c1 qual doc pm ctv oc rs) (f := fun i => eighthF (((hsOf S).getD i 0 : Nat) : Int)) T hra (rows_lt R hS (by decide)) n1 ⟨n1, n2, n3⟩ hdp hun (row_keys hd hv R) ?_ X
  intro t h' tk' F' N'
  have e : bisF (fun k => ltF' (eighthF (((hsOf S).getD k.toNat 0 : Nat) : Int)) (eighthF (car : Int))) ((((rs.map fun r => Value.ref r.1).toArray.size : Nat) : Int)).toNat 0 ((rs.map fun r => Value.ref r.1).toArray.size : Nat) = pFirst (hsOf S) car := by
    rw [row_size, hl]
    exact bisF_congr _ _ _ fun k _ _ => lt8 (hs_le hS _) (Nat.le_of_lt hc)
  rw [e]
  exact hret t h' tk' F' N'
noncomputable abbrev placesF (n : Nat) : List Int := rangeKs 0 n
theorem ints_item {vs : List Value} {ns : List Int} (h : IntsAre vs ns) {i : Nat} {v : Value} (hv : vs[i]? = some v) : ∃ t, v = .int (ns.getD i 0) t ∧ i < ns.length := by
  induction h generalizing i with
  | nil => cases hv
  | cons z u r ih =>
    cases i with
    | zero => cases hv; exact ⟨_, rfl, Nat.zero_lt_succ _⟩
    | succ i =>
      obtain ⟨t, e, hl⟩ := ih hv
      exact ⟨t, e, Nat.succ_lt_succ hl⟩
theorem places_get {n i : Nat} (h : i < n) : (placesF n).getD i 0 = (i : Int) := (kll_at h).trans (Int.zero_add _)
theorem places_len (n : Nat) : (placesF n).length = n := rangeKs_length _ _
section
variable {w : World} {p : Program} {loose : List PySem.Str} {mean : ExcName → Option Value} {mg mb : Str → Option Value} {q2 c2 q1 c1 ra cH cR rl : Addr} {kk kl : Nat} {rs : List (Addr × (UInt64 × UInt64 × UInt64))} {qual1 qual2 : PySem.Str} {doc1 pm1 ctv1 pm2 ctv2 : Value} {oc1 oc2 oH oR : Obj} {vs1 vs2 : Array Value} {t1 t2 tx ty : Tok} {ws : List Value} {S car : Nat}
    {dp un : Nat} {gd : Option (List Code)} {cn : Str} {cs : Scope} {L a : Addr} {ccd : Value} {cl : List (Str × Addr)} {outer : List Env} {A₀ : Around} {base h₀ : Heap} {m : Str → Option Value} {news : List (Addr × Obj)} {s : Shared} {Q E : Value → Shared → Prop}
theorem lam_keys1 (hd1 : oc1.data = .fields vs1) (hv1 : vs1[1]? = some (.str qual1 t1)) (hd2 : oc2.data = .fields vs2) (hv2 : vs2[1]? = some (.str qual2 t2)) (hH : oH.data = .cell (some (.ref q1))) (hR : oR.data = .cell (some (.ref ra)))
    (hS : okM S = true) (R : RowOk rs (hsOf S)) (hi : IntsAre ws (placesF rs.length)) :
    ∀ i v, ws.toArray[i]? = some v → KeyCtr w p loose mean mg mb q2 (lamNeed eL1 q2 c2 q1 c1 ra cH cR kk rs qual1 qual2 doc1 pm1 ctv1 pm2 ctv2 oc1 oc2 oH oR) v (eighthF ((((hsOf S).getD i 0 : Nat) : Int) - (i : Int))) := by
  intro i v hv
  have hl := R.len
  have hl6 := hs_len hS
  rw [List.getElem?_toArray] at hv
  obtain ⟨t, rfl, hlt⟩ := ints_item hi hv
  rw [places_len] at hlt
  rw [places_get hlt]
  have hr : rs[i]? = some (rs[i]'hlt) := List.getElem?_eq_getElem hlt
  obtain ⟨ok, hh⟩ := R.col i _ hr
  have k := lam1_ctr (w := w) (p := p) (loose := loose) (mean := mean) (mg := mg) (mb := mb) (q2 := q2) (c2 := c2) (c1 := c1) (cH := cH) (cR := cR) (kk := kk) (doc1 := doc1) (pm1 := pm1) (ctv1 := ctv1) (pm2 := pm2) (ctv2 := ctv2) (tk := t) hd1 hv1 hd2 hv2 hH hR (R.len ▸ Nat.lt_of_le_of_lt (hs_len hS) (by decide)) hr ok
  rw [hh, sub8 (hs_le hS _) (at_le8 R hS hlt)] at k
  exact k
theorem lam_keys2 (hd1 : oc1.data = .fields vs1) (hv1 : vs1[1]? = some (.str qual1 t1)) (hd2 : oc2.data = .fields vs2) (hv2 : vs2[1]? = some (.str qual2 t2)) (hH : oH.data = .cell (some (.ref q1))) (hR : oR.data = .cell (some (.ref ra)))
    (hS : okM S = true) (R : RowOk rs (hsOf S)) (hi : IntsAre ws (placesF rs.length)) :
    ∀ i v, ws.toArray[i]? = some v → KeyCtr w p loose mean mg mb q2 (lamNeed eL2 q2 c2 q1 c1 ra cH cR kk rs qual1 qual2 doc1 pm1 ctv1 pm2 ctv2 oc1 oc2 oH oR) v (eighthF ((((hsOf S).getD i 0 : Nat) : Int) - (i : Int))) := by
  intro i v hv
  have hl := R.len
  have hl6 := hs_len hS
  rw [List.getElem?_toArray] at hv
  obtain ⟨t, rfl, hlt⟩ := ints_item hi hv
  rw [places_len] at hlt
  rw [places_get hlt]
  have hr : rs[i]? = some (rs[i]'hlt) := List.getElem?_eq_getElem hlt
  obtain ⟨ok, hh⟩ := R.col i _ hr
  have k := lam2_ctr (w := w) (p := p) (loose := loose) (mean := mean) (mg := mg) (mb := mb) (q2 := q2) (c2 := c2) (c1 := c1) (cH := cH) (cR := cR) (kk := kk) (doc1 := doc1) (pm1 := pm1) (ctv1 := ctv1) (pm2 := pm2) (ctv2 := ctv2) (tk := t) hd1 hv1 hd2 hv2 hH hR (R.len ▸ Nat.lt_of_le_of_lt (hs_len hS) (by decide)) hr ok
  rw [hh, sub8 (hs_le hS _) (at_le8 R hS hlt)] at k
  exact k
theorem ints_size {ns : List Int} (hi : IntsAre ws ns) : ws.toArray.size = ns.length := by rw [List.size_toArray]; exact hi.length
theorem key_rng {S : Nat} (hS : okM S = true) {k : Int} (h0 : 0 ≤ k) (h1 : k < (hsOf S).length) : -8 ≤ (((hsOf S).getD k.toNat 0 : Nat) : Int) - k ∧ (((hsOf S).getD k.toNat 0 : Nat) : Int) - k ≤ 8 := by
  have := hs_le hS k.toNat
  have := hs_len hS
  omega
theorem first_rng (hs : List Nat) (car : Nat) : 0 ≤ pFirst hs car ∧ pFirst hs car ≤ hs.length := bisF_range _ _ _ nn_of
theorem fst_le8 {S car fn : Nat} (hS : okM S = true) (h : pFirst (hsOf S) car = (fn : Int)) : fn ≤ 8 :=
  Nat.le_trans (Int.ofNat_le.mp (h ▸ (first_rng (hsOf S) car).2)) (Nat.le_trans (hs_len hS) (by decide))
theorem car_rng {S car : Nat} (hS : okM S = true) (hc : car < 8) : -8 ≤ (car : Int) - pFirst (hsOf S) car ∧ (car : Int) - pFirst (hsOf S) car ≤ 8 := by
  have hf := first_rng (hsOf S) car
  have := hs_len hS
  omega
theorem last_row (T : Site w p loose mean mg mb dp un cn cs L a ccd cl outer A₀ base h₀ m news s) (hS : okM S = true) (hc : car < 8) (R : RowOk rs (hsOf S)) (hi : IntsAre ws (placesF rs.length)) (hdp : dp + 40 < recursionLimit) (hun : un + 140 < cLine)
    (hrl : (rl, listOf ws.toArray kl) ∈ news)
    (hd1 : oc1.data = .fields vs1) (hv1 : vs1[1]? = some (.str qual1 t1)) (hd2 : oc2.data = .fields vs2) (hv2 : vs2[1]? = some (.str qual2 t2)) (hH : oH.data = .cell (some (.ref q1))) (hR : oR.data = .cell (some (.ref ra)))
    (hneed : lamNeed eL1 q2 c2 q1 c1 ra cH cR kk rs qual1 qual2 doc1 pm1 ctv1 pm2 ctv2 oc1 oc2 oH oR news) (X : (kF w.params).In h₀)
    (hret : ∀ t h' tk', Fr h₀ L h' m → News h₀ L h' news → Q (.int (pLast (hsOf S) car (pFirst (hsOf S) car)) t) { s with heap := h', toks := tk' }) :
    wpAny (model rwl.prog w) (ktrTop dp un gd cn cs L a ccd cl outer) (call (.ref 40) [.ref rl, .float (Float64.sub (eighthF (car : Int)) (eighthF (pFirst (hsOf S) car))) tx, .int (pFirst (hsOf S) car) ty] [(Str.ofString "key", .ref q2)]) Q E s := by
  have hl := R.len
  have hl6 := hs_len hS
  have hf := first_rng (hsOf S) car
  obtain ⟨fn, hfn⟩ : ∃ fn : Nat, pFirst (hsOf S) car = (fn : Int) := ⟨(pFirst (hsOf S) car).toNat, (Int.toNat_of_nonneg hf.1).symm⟩
  have hsz : ws.toArray.size = (hsOf S).length := by rw [ints_size hi, places_len, hl]
  have ex : Float64.sub (eighthF (car : Int)) (eighthF (pFirst (hsOf S) car)) = eighthF ((car : Int) - pFirst (hsOf S) car) := by rw [hfn]; exact sub8 (Nat.le_of_lt hc) (fst_le8 hS hfn)
  rw [ex]
  refine bisR_ctr (need := lamNeed eL1 q2 c2 q1 c1 ra cH cR kk rs qual1 qual2 doc1 pm1 ctv1 pm2 ctv2 oc1 oc2 oH oR) (f := fun i => eighthF ((((hsOf S).getD i 0 : Nat) : Int) - (i : Int))) T hrl (hsz_lt hS hsz (by decide)) hf.1 (by rw [hsz]; exact hf.2) hneed.1 hneed hdp hun (lam_keys1 hd1 hv1 hd2 hv2 hH hR hS R hi) ?_ X
  intro t h' tk' F' N'
  have e : bisF (fun k => !ltF' (eighthF ((car : Int) - pFirst (hsOf S) car)) (eighthF ((((hsOf S).getD k.toNat 0 : Nat) : Int) - (k.toNat : Int)))) (((ws.toArray.size : Nat) : Int) - pFirst (hsOf S) car).toNat (pFirst (hsOf S) car) (ws.toArray.size : Nat) = pLast (hsOf S) car (pFirst (hsOf S) car) := by
    rw [hsz]
    refine bisF_congr _ _ _ fun k h1 h2 => ?_
    have k0 := Int.le_trans hf.1 h1
    have ek : ((k.toNat : Nat) : Int) = k := Int.toNat_of_nonneg k0
    show (!ltF' _ _) = !decide _
    rw [ek, slt8 (car_rng hS hc) (key_rng hS k0 h2)]
  rw [e]
  exact hret t h' tk' F' N'
theorem zero_row (T : Site w p loose mean mg mb dp un cn cs L a ccd cl outer A₀ base h₀ m news s) (hS : okM S = true) (R : RowOk rs (hsOf S)) (hi : IntsAre ws (placesF rs.length)) (hdp : dp + 40 < recursionLimit) (hun : un + 140 < cLine)
    (hrl : (rl, listOf ws.toArray kl) ∈ news)
    (hd1 : oc1.data = .fields vs1) (hv1 : vs1[1]? = some (.str qual1 t1)) (hd2 : oc2.data = .fields vs2) (hv2 : vs2[1]? = some (.str qual2 t2)) (hH : oH.data = .cell (some (.ref q1))) (hR : oR.data = .cell (some (.ref ra)))
    (hneed : lamNeed eL2 q2 c2 q1 c1 ra cH cR kk rs qual1 qual2 doc1 pm1 ctv1 pm2 ctv2 oc1 oc2 oH oR news) (X : (kF w.params).In h₀)
    (hret : ∀ t h' tk', Fr h₀ L h' m → News h₀ L h' news → Q (.int (pZero (hsOf S)) t) { s with heap := h', toks := tk' }) :
    wpAny (model rwl.prog w) (ktrTop dp un gd cn cs L a ccd cl outer) (call (.ref 40) [.ref rl, .int 0 tx] [(Str.ofString "key", .ref q2)]) Q E s := by
  have hl := R.len
  have hl6 := hs_len hS
  have hsz : ws.toArray.size = (hsOf S).length := by rw [ints_size hi, places_len, hl]
  refine bisR0_ctr (need := lamNeed eL2 q2 c2 q1 c1 ra cH cR kk rs qual1 qual2 doc1 pm1 ctv1 pm2 ctv2 oc1 oc2 oH oR) (f := fun i => eighthF ((((hsOf S).getD i 0 : Nat) : Int) - (i : Int))) T hrl (hsz_lt hS hsz (by decide)) hneed.1 hneed hdp hun (lam_keys2 hd1 hv1 hd2 hv2 hH hR hS R hi) ?_ X
  intro t h' tk' F' N'
  have e : bisF (fun k => !gt0F (eighthF ((((hsOf S).getD k.toNat 0 : Nat) : Int) - (k.toNat : Int)))) (((ws.toArray.size : Nat) : Int) - 0).toNat 0 (ws.toArray.size : Nat) = pZero (hsOf S) := by
    rw [hsz]
    refine bisF_congr _ _ _ fun k h1 h2 => ?_
    have ek : ((k.toNat : Nat) : Int) = k := Int.toNat_of_nonneg h1
    show (!gt0F _) = !decide _
    rw [ek, gt08 (key_rng hS h1 h2)]
  rw [e]
  exact hret t h' tk' F' N'
end
end Mine

end PartR3

section FlushR4
open PySem PySem.W PyProof.Rows PySem.Calls
namespace Mine
theorem start_R4 {prog : Program} {w : World} {A : Around} {E : Value → Shared → Prop} {s : Shared} {env : Env} {Q : Flow → Shared → Prop} (h : wpAny (model prog w) A (execs [] env) Q E s) : wpAny (model prog w) A (execs [] env) Q E s := by
  w_top off
  first | (walk1; fail) | exact h
end Mine
end FlushR4
section PartR4
open PySem PySem.W PyProof.Rows PySem.Calls
namespace Mine
noncomputable def Has (pos : Pos) (qual : Str) (ps : Array Value) (l : List (Addr × Obj)) : Prop :=
  codeAmong pos ps.toList = none ∨ ∃ c oc vs t, codeAmong pos ps.toList = some (.ref c) ∧ (c, oc) ∈ l ∧ oc.data = .fields vs ∧ vs[1]? = some (.str qual t)
theorem Has.more {pos : Pos} {qual : Str} {ps : Array Value} {l l' : List (Addr × Obj)} (h : Has pos qual ps l) (s : ∀ p ∈ l, p ∈ l') : Has pos qual ps l' := by
  rcases h with h | ⟨c, oc, vs, t, h1, h2, h3⟩
  · exact .inl h
  · exact .inr ⟨c, oc, vs, t, h1, s _ h2, h3⟩
structure TabSt (posA posB : Pos) (qual : Str) (ps : Array Value) (l : List (Addr × Obj)) : Prop where
  ok : TriplesOk ps.toList
  a : Has posA qual ps l
  b : Has posB qual ps l
theorem TabSt.more {posA posB : Pos} {qual : Str} {ps : Array Value} {l l' : List (Addr × Obj)} (h : TabSt posA posB qual ps l) (s : ∀ p ∈ l, p ∈ l') : TabSt posA posB qual ps l' := ⟨h.ok, h.a.more s, h.b.more s⟩
theorem among_snoc {pos q : Pos} {c : Value} (l : List Value) (h : TriplesOk l) (hn : (q.line == pos.line && q.col == pos.col) = false) : codeAmong pos (l ++ [rawInt q.line, rawInt q.col, c]) = codeAmong pos l := by
  fun_induction TriplesOk l with
  | case1 =>
    have : (((q.line : Nat) : Int) == ((pos.line : Nat) : Int) && ((q.col : Nat) : Int) == ((pos.col : Nat) : Int)) = false := by
      rw [← hn]
      congr 1
      · rw [Bool.eq_iff_iff, beq_iff_eq, beq_iff_eq]; omega
      · rw [Bool.eq_iff_iff, beq_iff_eq, beq_iff_eq]; omega
    show (if (_ : Bool) = true then _ else _) = _
    rw [this]
    rfl
  | case2 a t b u x rest ih =>
    simp only [List.cons_append, codeAmong]
    split
    · rfl
    · exact ih h
  | case3 l h1 h2 => exact h.elim
theorem updF_pre {d : Addr} {o : Obj} {post : List (Addr × Obj)} (hp : ∀ p ∈ post, p.1 ≠ d) : ∀ {pre : List (Addr × Obj)}, (∀ p ∈ pre, p.1 ≠ d) → UpdF d o (pre ++ (d, o) :: post) (fun o' => pre ++ (d, o') :: post)
  | [], _ => .head hp
  | p :: pre, h => .tail (h p List.mem_cons_self) (updF_pre hp fun q hq => h q (List.mem_cons_of_mem _ hq))
section
variable {M : Model} {A : Around} {E : Value → Shared → Prop} {s : Shared} {h₀ : Heap} {L a c P : Addr} {m mg mb : Str → Option Value} {cn : Str} {cs : Scope} {ccd : Value} {cl : List (Str × Addr)} {pre rest : List (Addr × Obj)}
  {p : Program} {loose : List Str} {mean : ExcName → Option Value} {name qual : Str} {params : Arguments} {body : Expr} {scope : Scope} {ps : Array Value} {pos posA posB : Pos} {firstLine : Nat} {clos : List (Str × Addr)}
noncomputable def LamGot (h₀ : Heap) (L P : Addr) (m : Str → Option Value) (pre rest : List (Addr × Obj)) (posA posB : Pos) (qual : Str) (lam : Addr → Value → Obj) (s : Shared) (Q : Value → Shared → Prop) : Prop :=
  ∀ (f c2 : Addr) (oc : Obj) (vs : Array Value) (t : Tok) (ctv : Value) (h' : Heap) (tk' : Nat) (ps' : Array Value) (rest' : List (Addr × Obj)),
    Fr h₀ L h' m → News h₀ L h' ((f, lam c2 ctv) :: (pre ++ (P, tabObj ps') :: rest')) → (∀ q ∈ rest, q ∈ rest') → (c2, oc) ∈ rest' → oc.data = .fields vs → vs[1]? = some (.str qual t) → TabSt posA posB qual ps' rest' →
    (∀ q ∈ rest', q ∈ rest ∨ (P < q.1 ∧ ∀ r ∈ pre ++ rest, r.1 < q.1)) → (∀ q ∈ rest', q.1 < f) → (∀ q ∈ pre, q.1 < f) → P < f → Q (.ref f) { s with heap := h', toks := tk' }
theorem lam_make {Q : Value → Shared → Prop} (hpos : pos = posA ∧ (posA.line == posB.line && posA.col == posB.col) = false ∨ pos = posB ∧ (posB.line == posA.line && posB.col == posA.col) = false)
    (F : Fr h₀ L s.heap m) (N : News h₀ L s.heap (pre ++ (P, tabObj ps) :: rest)) (T : Top p loose mean mg mb h₀) (C : CodeHd h₀ c P) (hcd : ccd = .ref c)
    (hpre : ∀ p ∈ pre, p.1 ≠ P) (hrest : ∀ p ∈ rest, p.1 ≠ P) (tab : TabSt posA posB qual ps rest)
    (hcl : closureFor scope (envX cn cs L a ccd cl) = pure clos)
    (h : LamGot h₀ L P m pre rest posA posB qual (fun c' ctv => kla_obj name qual params body scope clos ((mg "__name__").getD .none) c' ctv) s Q) :
    wpAny M A (makeFunction name qual params (.expr body) scope (envX cn cs L a ccd cl) [] [] [] pos firstLine) Q E s := by
  have has : Has pos qual ps rest := by
    rcases hpos with x | x
    · rw [x.1]; exact tab.a
    · rw [x.1]; exact tab.b
  have hmem : (P, tabObj ps) ∈ pre ++ (P, tabObj ps) :: rest := List.mem_append_right _ (.head _)
  rcases has with hn | ⟨c2, oc, vs, t, hf, h2, h3, h4⟩
  · refine kla_nest F N T C hcd (updF_pre hrest hpre) tab.ok hn hcl fun f c' oc vs t ctv h' tk' F' N' d1 d2 l1 l2 => ?_
    refine h f c' oc vs t ctv h' tk' (ps ++ #[rawInt pos.line, rawInt pos.col, .ref c']) ((c', oc) :: rest) F' (fun q hq => ?_) (fun q hq => .tail _ hq) (.head _) d1 d2 ⟨?_, ?_, ?_⟩ (fun q hq => ?_) (fun q hq => ?_) (fun q hq => ?_) ?_
    · refine N' q ?_
      rcases List.mem_cons.mp hq with rfl | hq
      · exact .head _
      · rcases List.mem_append.mp hq with hq | hq
        · exact .tail _ (.tail _ (List.mem_append_left _ hq))
        · rcases List.mem_cons.mp hq with rfl | hq
          · exact .tail _ (.tail _ (List.mem_append_right _ (.head _)))
          · rcases List.mem_cons.mp hq with rfl | hq
            · exact .tail _ (.head _)
            · exact .tail _ (.tail _ (List.mem_append_right _ (.tail _ hq)))
    · rw [Array.toList_append]; exact TriplesOk_snoc _ _ _ _ tab.ok
    · rcases hpos with ⟨rfl, hne⟩ | ⟨rfl, hne⟩
      · refine .inr ⟨c', oc, vs, t, ?_, .head _, d1, d2⟩
        rw [Array.toList_append]; exact codeAmong_snoc _ tab.ok hn
      · rcases tab.a with ha | ⟨c3, oc3, vs3, t3, e1, e2, e3, e4⟩
        · refine .inl ?_
          rw [Array.toList_append]; exact (among_snoc _ tab.ok hne).trans ha
        · refine .inr ⟨c3, oc3, vs3, t3, ?_, .tail _ e2, e3, e4⟩
          rw [Array.toList_append]; exact (among_snoc _ tab.ok hne).trans e1
    · rcases hpos with ⟨rfl, hne⟩ | ⟨rfl, hne⟩
      · rcases tab.b with ha | ⟨c3, oc3, vs3, t3, e1, e2, e3, e4⟩
        · refine .inl ?_
          rw [Array.toList_append]; exact (among_snoc _ tab.ok hne).trans ha
        · refine .inr ⟨c3, oc3, vs3, t3, ?_, .tail _ e2, e3, e4⟩
          rw [Array.toList_append]; exact (among_snoc _ tab.ok hne).trans e1
      · refine .inr ⟨c', oc, vs, t, ?_, .head _, d1, d2⟩
        rw [Array.toList_append]; exact codeAmong_snoc _ tab.ok hn
    · rcases List.mem_cons.mp hq with rfl | hq
      · refine .inr ⟨l1 _ hmem, fun r hr => l1 r ?_⟩
        rcases List.mem_append.mp hr with hr | hr
        · exact List.mem_append_left _ hr
        · exact List.mem_append_right _ (.tail _ hr)
      · exact .inl hq
    · rcases List.mem_cons.mp hq with rfl | hq
      · exact l2
      · exact Nat.lt_trans (l1 q (List.mem_append_right _ (.tail _ hq))) l2
    · exact Nat.lt_trans (l1 q (List.mem_append_left _ hq)) l2
    · exact Nat.lt_trans (l1 _ hmem) l2
  · refine kla_hit F N T C hcd hmem tab.ok hf hcl fun f ctv h' tk' F' N' l1 => ?_
    exact h f c2 oc vs t ctv h' tk' ps rest F' N' (fun _ x => x) h2 h3 h4 tab (fun q hq => .inl hq) (fun q hq => l1 q (List.mem_append_right _ (.tail _ hq))) (fun q hq => l1 q (List.mem_append_left _ hq)) (l1 _ hmem)
end
end Mine

end PartR4

section FlushR5
open PySem PySem.W PyProof.Rows PySem.Calls
namespace Mine
theorem start_R5 {prog : Program} {w : World} {A : Around} {E : Value → Shared → Prop} {s : Shared} {env : Env} {Q : Flow → Shared → Prop} (h : wpAny (model prog w) A (execs [] env) Q E s) : wpAny (model prog w) A (execs [] env) Q E s := by
  w_top off
  first | (walk1; fail) | exact h
end Mine
end FlushR5
section PartR5
open PySem PySem.W PyProof.Rows PySem.Calls
namespace Mine
noncomputable def yParS : Scope := fS 24
noncomputable def parS : Scope := (fun (o : Scope) (_ : yParS = o) => o) _ (by dsimp only [yParS, fS, fnSs, pw, PySem.Challenge.pw_ty0053_01, nth])
noncomputable def yParL : List Stmt := forBody (nth 3 (fB 24))
noncomputable def yParA (k : List Stmt) : List Stmt := nth 0 yParL :: nth 1 yParL :: nth 2 yParL :: nth 3 yParL :: k
noncomputable def yParB (k : List Stmt) : List Stmt := nth 4 yParL :: k
noncomputable def yParC (k : List Stmt) : List Stmt := nth 5 yParL :: k
noncomputable def yParD (k : List Stmt) : List Stmt := nth 6 yParL :: nth 7 yParL :: k
noncomputable def yParE : List Stmt := [nth 8 yParL, nth 9 yParL]
noncomputable def parA (k : List Stmt) : List Stmt := (fun (o : List Stmt) (_ : yParA k = o) => o) _ (by dsimp only [yParA, yParL, fB, fnBs, pw, PySem.Challenge.pw_ty0053_01, nth, forBody])
noncomputable def parB (k : List Stmt) : List Stmt := (fun (o : List Stmt) (_ : yParB k = o) => o) _ (by dsimp only [yParB, yParL, fB, fnBs, pw, PySem.Challenge.pw_ty0053_01, nth, forBody])
noncomputable def parC (k : List Stmt) : List Stmt := (fun (o : List Stmt) (_ : yParC k = o) => o) _ (by dsimp only [yParC, yParL, fB, fnBs, pw, PySem.Challenge.pw_ty0053_01, nth, forBody])
noncomputable def parD (k : List Stmt) : List Stmt := (fun (o : List Stmt) (_ : yParD k = o) => o) _ (by dsimp only [yParD, yParL, fB, fnBs, pw, PySem.Challenge.pw_ty0053_01, nth, forBody])
noncomputable def parE : List Stmt := (fun (o : List Stmt) (_ : yParE = o) => o) _ (by dsimp only [yParE, yParL, fB, fnBs, pw, PySem.Challenge.pw_ty0053_01, nth, forBody])
theorem par_split : yParL = parA (parB (parC (parD parE))) := rfl
noncomputable abbrev parEnv (LB : Addr) : Env := envOfC (Str.ofString "_law_parked") parS LB 191 (.ref 190)
theorem fmod3_small (z : Int) : (z.fmod 3).natAbs < 2 ^ 1024 - 2 ^ 970 := by
  have h1 := Int.fmod_nonneg_of_pos z (show (0 : Int) < 3 by decide)
  have h2 := Int.fmod_lt_of_pos z (show (0 : Int) < 3 by decide)
  exact Nat.lt_trans (show (z.fmod 3).natAbs < 3 by omega) (by decide +kernel)
theorem rest_ne {d e : Addr} {l : List (Addr × Obj)} (h : AllLt e l) (hd : @LE.le Nat _ e d) : ∀ p ∈ l, p.1 ≠ d := fun p hp q => by
  have := allLt_all h p hp
  rw [q] at this
  exact absurd this (Nat.not_lt.mpr hd)
theorem item_car {prog : Program} {w : World} {A : Around} {E : Value → Shared → Prop} {s : Shared} {h₀ : Heap} {L : Addr} {news : List (Addr × Obj)} {value slice : PySem.Expr} {ra : Addr} {ws : List Value} {ns : List Int} {kk i car : Nat} {u : Tok} {Q : Value → Shared → Prop} (N : News h₀ L s.heap news) (hm : (ra, listOf ws.toArray kk) ∈ news) (hi : IntsAre ws ns)
    (hz : ns.length < 8) (h1 : i < ns.length) (hcar : ns.getD i 0 = (car : Int)) (h : ∀ t, Q (.int (car : Int) t) s)
    (hs : subscripted slice false (.ref ra) (.int (0 + (i : Int)) u) = operate [.ref ra, .int (0 + (i : Int)) u] (getItem (.ref ra) (.int (0 + (i : Int)) u)) := by with_unfolding_all rfl) (hg : ∀ r, letTemporaryGo value (.ref ra) r = pure () := by intro _; with_unfolding_all rfl) :
    wpAny (model prog w) A (subscriptTail value slice (.ref ra) (.int (0 + (i : Int)) u)) Q E s := by
  refine item_ints N hm hi (by omega) (by omega) (by omega) (fun t => ?_) hs hg
  have e : (0 + (i : Int)).toNat = i := by omega
  rw [e, hcar]
  exact h t
theorem ldC {M : Model} {A : Around} {E : Value → Shared → Prop} {s : Shared} {h₀ : Heap} {L a : Addr} {cd : Value} {name : Str} {scope : Scope} {m : Str → Option Value} {x : Str} {pos : Pos} {v : Value} {Q : Value → Shared → Prop} (F : Fr h₀ L s.heap m) (hv : m x = some v) (h : Q v s)
    (hk : scope.kind = .function) (hl : (envOfC name scope L a cd).kindOf x = some .local) (hd : (x == ("__debug__" : Str)) = false := by decide) :
    wpAny M A (eval (.Name x pos) (envOfC name scope L a cd)) Q E s := wpAny_Name (wpAny_loadName_local hk hl F.ns hv h) hd
noncomputable def ParkLed (I : Addr) (oI : Obj) (ra : Addr) (rs : List (Addr × (UInt64 × UInt64 × UInt64))) (kr : Nat) (f1 : Addr) (qual : PySem.Str) (doc pm : Value) (c1 : Addr) (ct : Value) (oc1 : Obj) (LB : Addr) (oR oH : Obj) : List (Addr × Obj) :=
  (I, oI) :: (ra, listOf (rs.map fun r => Value.ref r.1).toArray kr) :: (f1, hueFn qual doc pm c1 ct) :: (c1, oc1) :: (LB + 1 + 1, oR) :: (LB + 1, oH) :: []
structure ParkHyp (w : World) (p : Program) (loose : List PySem.Str) (mean : ExcName → Option Value) (mg mb : Str → Option Value) (dp un : Nat) (gd : Option (List Code)) (cn : Str) (cs : Scope) (L a : Addr) (ccd : Value) (cl : List (Str × Addr)) (outer : List Env) (base gB : Heap) (LB ra f1 rc : Addr) (qual : PySem.Str) (oR oH oc1 : Obj) (vs1 : Array Value) (tq : Tok) (ws : List Value) (ns : List Int) : Prop where
  B : Below (ktrTop dp un gd cn cs L a ccd cl outer) base (envX cn cs L a ccd cl :: outer) gB
  T : Top p loose mean mg mb gB
  C : CodeHd gB 190 188
  hdp : dp + 80 < recursionLimit
  hun : un + 400 < cLine
  hoR : oR.data = .cell (some (.ref ra))
  hoH : oH.data = .cell (some (.ref f1))
  hoc : oc1.data = .fields vs1
  hvs : vs1[1]? = some (.str qual tq)
  hi : IntsAre ws ns
  hns : ns.length < 8
  X : (kF w.params).In gB
section
variable {w : World} {p : Program} {loose : List PySem.Str} {mean : ExcName → Option Value} {mg mb : Str → Option Value} {dp un : Nat} {gd : Option (List Code)} {cn : Str} {cs : Scope} {L a : Addr} {ccd : Value} {cl : List (Str × Addr)} {outer : List Env} {base gB : Heap} {LB : Addr}
    {s : Shared} {Q : Flow → Shared → Prop} {E : Value → Shared → Prop} {I rc ra f1 c1 : Addr} {rs : List (Addr × (UInt64 × UInt64 × UInt64))} {ws : List Value} {ns : List Int} {kk kr i car : Nat} {tot way : Int} {t1 t2 t3 tt : Tok} {qual : PySem.Str} {doc pm ct : Value} {oI oc1 oR oH : Obj} {vs1 : Array Value} {tq : Tok} {ps : Array Value} {rest : List (Addr × Obj)} {mm : Str → Option Value} {k : List Stmt}
theorem kw_R5_1 : True := by
  k_with_none
  k_with "my_m_look" => first | exact rfl | assumption | ((try dsimp only); repeat' (first | assumption | (refine (if_neg (by decide)).trans ?_) | (exact if_pos (by decide))))
  k_with "my_mem_deep" => (repeat' (first | assumption | exact List.Mem.head _ | refine List.Mem.tail _ ?_))
  k_with "eval Name" => (k_here; k_dflt (refine' ldC ?k1 ?k2 ?_ ?k3 ?k4; (case k3 => rfl); (case k4 => rfl); (case k1 => k_asm); (case k2 => k_extra "my_m_look"); k_whole))
  k_with "ForEnd" => dsimp only [ForEnd]
  k_with "binaryOp Div int int" => (k_here; (with_reducible show wpAny _ _ (binaryOp _ (Value.int (1 + _) _) (Value.int 4 _)) _ _ _); k_dflt (refine div4m rfl ?_))
  k_with "binaryOp Div int int" => (k_here; (with_reducible show wpAny _ _ (binaryOp _ (Value.int _ _) (Value.int 8 _)) _ _ _); k_dflt (refine' div8 rfl ?h ?_; (case h => omega); k_whole))
  k_with "subscriptTail" => (k_here; (with_reducible show wpAny _ _ (subscriptTail _ _ (Value.ref _) (Value.int _ _)) _ _ _); k_dflt (refine' item_car ?a ?b ?c ?z ?d ?e ?_; (case a => k_asm); (case b => k_extra "my_mem_deep"); (case c => assumption); (case z => assumption); (case d => assumption); (case e => assumption); k_whole); intro _)
  k_with "call ref" => (k_here; (with_reducible show wpAny _ _ (call (Value.ref 72) _) _ _ _); k_dflt (refine' hsv_ctr (Site.mk (by k_asm) (by k_asm) (by k_asm) (by k_asm) (by k_asm) rfl (by ktr_room) (by ktr_units)) ?ok ?_ ?X; (case ok => first | exact (good_wish (by assumption) _ _ 0).hsv); (case X => k_asm); k_whole); intro _ _ _ _ _ _ _ _ _)
  k_with "FnAt" => (k_dflt (exact FnAt.of (by k_asm) (by unfold hueFn; k_extra "my_mem_deep")))
  k_with "call ref" => (k_here; (with_reducible show wpAny _ _ (call (Value.ref _) [Value.ref _]) _ _ _); k_dflt (refine' hue_col ?G ?n1 ?n2 ?hd ?hv ?n3 (Site.mk (by k_asm) (by k_asm) (by k_asm) (by k_asm) (by k_asm) rfl (by ktr_room) (by ktr_units)) ?dp ?un ?_; (case n3 => exact List.Mem.head _); (case G => first | exact good_wish (by assumption) _ _ _ | exact good_hue (by assumption) _ _); (case n1 => k_extra "my_mem_deep"); (case n2 => k_extra "my_mem_deep"); (case hd => assumption); (case hv => assumption); (case dp => ktr_room); (case un => ktr_units); k_whole); intro _ _ _ _ _)
  exact True.intro
theorem park_a (H : ParkHyp w p loose mean mg mb dp un gd cn cs L a ccd cl outer base gB LB ra f1 rc qual oR oH oc1 vs1 tq ws ns)
    (F : Fr gB LB s.heap mm) (N : News gB LB s.heap (ParkLed I oI ra rs kr f1 qual doc pm c1 ct oc1 LB oR oH ++ (188, tabObj ps) :: rest))
    (mc : mm (Str.ofString "cars") = some (.ref rc)) (mt : mm (Str.ofString "total") = some (.int tot t1)) (mw : mm (Str.ofString "way") = some (.int way t2)) (mn : mm (Str.ofString "number") = some (.int (0 + (i : Int)) t3))
    (hrc : (rc, listOf ws.toArray kk) ∈ rest) (hin : i < ns.length) (hcar : ns.getD i 0 = (car : Int)) (hc8 : car < 8)
    (next : ∀ mm' h' tk' tsh tva tw, Fr gB LB h' mm' → News gB LB h' (ParkLed I oI ra rs kr f1 qual doc pm c1 ct oc1 LB oR oH ++ (188, tabObj ps) :: rest) → mm' (Str.ofString "cars") = some (.ref rc) → mm' (Str.ofString "total") = some (.int tot t1) → mm' (Str.ofString "way") = some (.int way t2) →
      mm' (Str.ofString "share") = some (.float (quarterF (1 + (tot + 5 * (0 + (i : Int))).fmod 4)) tsh) → mm' (Str.ofString "value") = some (.float (quarterF (1 + ((tot + 5 * (0 + (i : Int))).fdiv 4).fmod 4)) tva) → mm' (Str.ofString "wish") = some (.float (eighthF (car : Int)) tw) →
      wpAny (model rwl.prog w) ((ktrTop dp un gd cn cs L a ccd cl outer).deeper (parEnv LB)) (execs k (parEnv LB)) Q E { s with heap := h', toks := tk' }) :
    (kF w.params).In gB → wpAny (model rwl.prog w) ((ktrTop dp un gd cn cs L a ccd cl outer).deeper (parEnv LB)) (execs (parA k) (parEnv LB)) Q E s := by
  k_fill
  intro X
  obtain ⟨B, T, C, hdp, hun, hoR, hoH, hoc, hvs, hi, hns, _⟩ := H
  unfold parEnv parS parA
  unfold parEnv parS at next
  unfold ParkLed at N next
  simp only [List.cons_append, List.nil_append] at N next
  k_steps
  · rename 2 ^ 1024 - 2 ^ 970 ≤ _ => hbig
    exact absurd hbig (Nat.not_le.mpr (fmod3_small _))
  · rename News gB LB _ _ => NN
    exact next _ _ _ _ _ _ (by assumption) (fun p hp => NN p (.tail _ hp)) (by k_extra "my_m_look") (by k_extra "my_m_look") (by k_extra "my_m_look") (by k_extra "my_m_look") (by k_extra "my_m_look") (by k_extra "my_m_look")
end
end Mine

end PartR5

section FlushR6
open PySem PySem.W PyProof.Rows PySem.Calls
namespace Mine
theorem start_R6 {prog : Program} {w : World} {A : Around} {E : Value → Shared → Prop} {s : Shared} {env : Env} {Q : Flow → Shared → Prop} (h : wpAny (model prog w) A (execs [] env) Q E s) : wpAny (model prog w) A (execs [] env) Q E s := by
  w_top off
  first | (walk1; fail) | exact h
end Mine
end FlushR6
section PartR6
open PySem PySem.W PyProof.Rows PySem.Calls
namespace Mine
section
variable {w : World} {p : Program} {loose : List PySem.Str} {mean : ExcName → Option Value} {mg mb : Str → Option Value} {dp un : Nat} {gd : Option (List Code)} {cn : Str} {cs : Scope} {L a : Addr} {ccd : Value} {cl : List (Str × Addr)} {outer : List Env} {base gB : Heap} {LB : Addr}
    {s : Shared} {Q : Flow → Shared → Prop} {E : Value → Shared → Prop} {I rc ra f1 c1 : Addr} {rs : List (Addr × (UInt64 × UInt64 × UInt64))} {ws : List Value} {ns : List Int} {kk kr i car : Nat} {tot way : Int} {t1 t2 t3 tt : Tok} {qual : PySem.Str} {doc pm ct : Value} {oI oc1 oR oH : Obj} {vs1 : Array Value} {tq : Tok} {ps : Array Value} {rest : List (Addr × Obj)} {mm : Str → Option Value} {k : List Stmt} {S : Nat} {tw tf tl : Tok}
theorem kw_R6_1 : True := by
  k_with_none
  k_with "my_m_look" => first | exact rfl | assumption | ((try dsimp only); repeat' (first | assumption | (refine (if_neg (by decide)).trans ?_) | (exact if_pos (by decide))))
  k_with "my_mem_deep" => (repeat' (first | assumption | exact List.Mem.head _ | refine List.Mem.tail _ ?_))
  k_with "eval Name" => (k_here; k_dflt (refine' ldC ?k1 ?k2 ?_ ?k3 ?k4; (case k3 => rfl); (case k4 => rfl); (case k1 => k_asm); (case k2 => k_extra "my_m_look"); k_whole))
  k_with "ForEnd" => dsimp only [ForEnd]
  k_with "binaryOp Div int int" => (k_here; (with_reducible show wpAny _ _ (binaryOp _ (Value.int (1 + _) _) (Value.int 4 _)) _ _ _); k_dflt (refine div4m rfl ?_))
  k_with "binaryOp Div int int" => (k_here; (with_reducible show wpAny _ _ (binaryOp _ (Value.int _ _) (Value.int 8 _)) _ _ _); k_dflt (refine' div8 rfl ?h ?_; (case h => omega); k_whole))
  k_with "subscriptTail" => (k_here; (with_reducible show wpAny _ _ (subscriptTail _ _ (Value.ref _) (Value.int _ _)) _ _ _); k_dflt (refine' item_car ?a ?b ?c ?z ?d ?e ?_; (case a => k_asm); (case b => k_extra "my_mem_deep"); (case c => assumption); (case z => assumption); (case d => assumption); (case e => assumption); k_whole); intro _)
  k_with "call ref" => (k_here; (with_reducible show wpAny _ _ (call (Value.ref 72) _) _ _ _); k_dflt (refine' hsv_ctr (Site.mk (by k_asm) (by k_asm) (by k_asm) (by k_asm) (by k_asm) rfl (by ktr_room) (by ktr_units)) ?ok ?_ ?X; (case ok => first | exact (good_wish (by assumption) _ _ 0).hsv); (case X => k_asm); k_whole); intro _ _ _ _ _ _ _ _ _)
  k_with "FnAt" => (k_dflt (exact FnAt.of (by k_asm) (by unfold hueFn; k_extra "my_mem_deep")))
  k_with "call ref" => (k_here; (with_reducible show wpAny _ _ (call (Value.ref _) [Value.ref _]) _ _ _); k_dflt (refine' hue_col ?G ?n1 ?n2 ?hd ?hv ?n3 (Site.mk (by k_asm) (by k_asm) (by k_asm) (by k_asm) (by k_asm) rfl (by ktr_room) (by ktr_units)) ?dp ?un ?_; (case n3 => exact List.Mem.head _); (case G => first | exact good_wish (by assumption) _ _ _ | exact good_hue (by assumption) _ _); (case n1 => k_extra "my_mem_deep"); (case n2 => k_extra "my_mem_deep"); (case hd => assumption); (case hv => assumption); (case dp => ktr_room); (case un => ktr_units); k_whole); intro _ _ _ _ _)
  exact True.intro
theorem RowIn.more {rs : List (Addr × (UInt64 × UInt64 × UInt64))} {l l' : List (Addr × Obj)} (h : RowIn rs l) (s : ∀ p ∈ l, p ∈ l') : RowIn rs l' := fun r hr => by
  obtain ⟨k1, k2, k3, h⟩ := h r hr
  exact ⟨k1, k2, k3, s _ h⟩
theorem kw_R6_2 : True := by
  k_with "my_mem_tails" => (intro p hp; repeat' (first | exact hp | refine List.Mem.tail _ ?_))
  k_with "call ref" => (k_here; (with_reducible show wpAny _ _ (call (Value.ref 58) _ _) _ _ _); k_dflt (refine' first_row (Site.mk (by k_asm) (by k_asm) (by k_asm) (by k_asm) (by k_asm) rfl (by ktr_room) (by ktr_units)) ?hS ?hc ?R ?dp ?un ?ra ?n1 ?n2 ?hd ?hv ?n3 ?X ?_; (case hS => assumption); (case hc => assumption); (case R => assumption); (case dp => ktr_room); (case un => ktr_units); (case ra => k_extra "my_mem_deep"); (case n1 => k_extra "my_mem_deep"); (case n2 => k_extra "my_mem_deep"); (case hd => assumption); (case hv => assumption); (case n3 => exact RowIn.more (by assumption) (by k_extra "my_mem_tails")); (case X => k_asm); k_whole); intro _ _ _ _ _)
  exact True.intro
theorem park_b (H : ParkHyp w p loose mean mg mb dp un gd cn cs L a ccd cl outer base gB LB ra f1 rc qual oR oH oc1 vs1 tq ws ns)
    (F : Fr gB LB s.heap mm) (N : News gB LB s.heap (ParkLed I oI ra rs kr f1 qual doc pm c1 ct oc1 LB oR oH ++ (188, tabObj ps) :: rest))
    (hS : okM S = true) (hc8 : car < 8) (R : RowOk rs (hsOf S)) (hrow : RowIn rs rest)
    (mw : mm (Str.ofString "wish") = some (.float (eighthF (car : Int)) tw))
    (next : ∀ h' tk' tf, Fr gB LB h' (fun y => if y = Str.ofString "first" then some (.int (pFirst (hsOf S) car) tf) else mm y) → News gB LB h' (ParkLed I oI ra rs kr f1 qual doc pm c1 ct oc1 LB oR oH ++ (188, tabObj ps) :: rest) → wpAny (model rwl.prog w) ((ktrTop dp un gd cn cs L a ccd cl outer).deeper (parEnv LB)) (execs k (parEnv LB)) Q E { s with heap := h', toks := tk' }) :
    (kF w.params).In gB → wpAny (model rwl.prog w) ((ktrTop dp un gd cn cs L a ccd cl outer).deeper (parEnv LB)) (execs (parB k) (parEnv LB)) Q E s := by
  k_fill
  intro X
  obtain ⟨B, T, C, hdp, hun, hoR, hoH, hoc, hvs, hi, hns, _⟩ := H
  unfold parEnv parS parB
  unfold parEnv parS at next
  unfold ParkLed at N next
  simp only [List.cons_append, List.nil_append] at N next
  k_steps
  · rename News gB LB _ _ => NN
    exact next _ _ _ (by assumption) NN
end
end Mine

end PartR6

section FlushR7
open PySem PySem.W PyProof.Rows PySem.Calls
namespace Mine
theorem start_R7 {prog : Program} {w : World} {A : Around} {E : Value → Shared → Prop} {s : Shared} {env : Env} {Q : Flow → Shared → Prop} (h : wpAny (model prog w) A (execs [] env) Q E s) : wpAny (model prog w) A (execs [] env) Q E s := by
  w_top off
  first | (walk1; fail) | exact h
end Mine
end FlushR7
section PartR7
open PySem PySem.W PyProof.Rows PySem.Calls
namespace Mine
noncomputable def lamPos : PySem.Expr → Pos | .Lambda _ _ _ q => q | _ => default
noncomputable def posA : Pos := (fun (o : Pos) (_ : lamPos yL1 = o) => o) _ (by dsimp only [yL1, fB, fnBs, pw, PySem.Challenge.pw_ty0053_01, nth, forBody, ifBody, asgV, binL, kwV, lamPos])
noncomputable def posB : Pos := (fun (o : Pos) (_ : lamPos yL2 = o) => o) _ (by dsimp only [yL2, fB, fnBs, pw, PySem.Challenge.pw_ty0053_01, nth, forBody, ifBody, asgV, binL, kwV, lamPos])
noncomputable def lamQ : Str := (envOfC (Str.ofString "_law_parked") { kind := .function, names := [], isGenerator := false, isCoroutine := false, more := [] } 0 191 (.ref 190)).qual ++ "<lambda>"
structure ParkOff (ra I : Addr) (LB : Addr) (rest : List (Addr × Obj)) : Prop where
  o1 : ∀ q ∈ rest, q.1 ≠ ra
  o2 : ∀ q ∈ rest, q.1 ≠ I
  o3 : ∀ q ∈ rest, q.1 ≠ 188
structure ParkOrd (I ra f1 c1 LB : Addr) : Prop where
  i1 : @Ne Nat ra I
  i2 : @Ne Nat f1 I
  i3 : @Ne Nat c1 I
  i4 : @Ne Nat (LB + 2) I
  i5 : @Ne Nat (LB + 1) I
  i6 : @Ne Nat 188 I
  r1 : @Ne Nat f1 ra
  r2 : @Ne Nat c1 ra
  r3 : @Ne Nat (LB + 2) ra
  r4 : @Ne Nat (LB + 1) ra
  r5 : @Ne Nat 188 ra
  t1 : @Ne Nat f1 188
  t2 : @Ne Nat c1 188
  t3 : @Ne Nat (LB + 2) 188
  t4 : @Ne Nat (LB + 1) 188
section
variable {w : World} {p : Program} {loose : List PySem.Str} {mean : ExcName → Option Value} {mg mb : Str → Option Value} {dp un : Nat} {gd : Option (List Code)} {cn : Str} {cs : Scope} {L a : Addr} {ccd : Value} {cl : List (Str × Addr)} {outer : List Env} {base gB : Heap} {LB : Addr}
    {s : Shared} {Q : Flow → Shared → Prop} {E : Value → Shared → Prop} {I rc ra f1 c1 : Addr} {rs : List (Addr × (UInt64 × UInt64 × UInt64))} {ws : List Value} {ns : List Int} {kk kr i car : Nat} {tot way : Int} {t1 t2 t3 tt : Tok} {qual : PySem.Str} {doc pm ct : Value} {oI oc1 oR oH : Obj} {vs1 : Array Value} {tq : Tok} {ps : Array Value} {rest : List (Addr × Obj)} {mm : Str → Option Value} {k : List Stmt} {S : Nat} {tw tf tl : Tok}
theorem kw_R7_1 : True := by
  k_with_none
  k_with "my_m_look" => first | exact rfl | assumption | ((try dsimp only); repeat' (first | assumption | (refine (if_neg (by decide)).trans ?_) | (exact if_pos (by decide))))
  k_with "my_mem_deep" => (repeat' (first | assumption | exact List.Mem.head _ | refine List.Mem.tail _ ?_))
  k_with "eval Name" => (k_here; k_dflt (refine' ldC ?k1 ?k2 ?_ ?k3 ?k4; (case k3 => rfl); (case k4 => rfl); (case k1 => k_asm); (case k2 => k_extra "my_m_look"); k_whole))
  k_with "ForEnd" => dsimp only [ForEnd]
  k_with "binaryOp Div int int" => (k_here; (with_reducible show wpAny _ _ (binaryOp _ (Value.int (1 + _) _) (Value.int 4 _)) _ _ _); k_dflt (refine div4m rfl ?_))
  k_with "binaryOp Div int int" => (k_here; (with_reducible show wpAny _ _ (binaryOp _ (Value.int _ _) (Value.int 8 _)) _ _ _); k_dflt (refine' div8 rfl ?h ?_; (case h => omega); k_whole))
  k_with "subscriptTail" => (k_here; (with_reducible show wpAny _ _ (subscriptTail _ _ (Value.ref _) (Value.int _ _)) _ _ _); k_dflt (refine' item_car ?a ?b ?c ?z ?d ?e ?_; (case a => k_asm); (case b => k_extra "my_mem_deep"); (case c => assumption); (case z => assumption); (case d => assumption); (case e => assumption); k_whole); intro _)
  k_with "call ref" => (k_here; (with_reducible show wpAny _ _ (call (Value.ref 72) _) _ _ _); k_dflt (refine' hsv_ctr (Site.mk (by k_asm) (by k_asm) (by k_asm) (by k_asm) (by k_asm) rfl (by ktr_room) (by ktr_units)) ?ok ?_ ?X; (case ok => first | exact (good_wish (by assumption) _ _ 0).hsv); (case X => k_asm); k_whole); intro _ _ _ _ _ _ _ _ _)
  k_with "FnAt" => (k_dflt (exact FnAt.of (by k_asm) (by unfold hueFn; k_extra "my_mem_deep")))
  k_with "call ref" => (k_here; (with_reducible show wpAny _ _ (call (Value.ref _) [Value.ref _]) _ _ _); k_dflt (refine' hue_col ?G ?n1 ?n2 ?hd ?hv ?n3 (Site.mk (by k_asm) (by k_asm) (by k_asm) (by k_asm) (by k_asm) rfl (by ktr_room) (by ktr_units)) ?dp ?un ?_; (case n3 => exact List.Mem.head _); (case G => first | exact good_wish (by assumption) _ _ _ | exact good_hue (by assumption) _ _); (case n1 => k_extra "my_mem_deep"); (case n2 => k_extra "my_mem_deep"); (case hd => assumption); (case hv => assumption); (case dp => ktr_room); (case un => ktr_units); k_whole); intro _ _ _ _ _)
  exact True.intro

theorem kw_R7_2 : True := by
  k_with "my_mem_tails" => (intro p hp; repeat' (first | exact hp | refine List.Mem.tail _ ?_))
  k_with "call builtin:len" => (k_here; k_dflt (refine' len_led ?a ?b ?c ?_; (case a => k_asm); (case b => k_extra "my_mem_deep"); (case c => (rw [row_size]; omega)); k_whole))
  exact True.intro
theorem ne188 {D a b c d e f : Addr} {r : Prop} (h : a < D ∧ b < D ∧ c < D ∧ d < D ∧ e < D ∧ f < D ∧ 188 < D ∧ r) : D ≠ 188 := Nat.ne_of_gt h.2.2.2.2.2.2.1
theorem pre7 {D I ra f1 c1 LB a b c d e f : Addr} {r : Prop} {o1 o2 o3 o4 o5 o6 o7 : Obj} (h : a < D ∧ b < D ∧ c < D ∧ d < D ∧ e < D ∧ f < D ∧ 188 < D ∧ r) (i6 : @Ne Nat 188 I) (r5 : @Ne Nat 188 ra) (t1 : @Ne Nat f1 188) (t2 : @Ne Nat c1 188) (t3 : @Ne Nat (LB + 2) 188) (t4 : @Ne Nat (LB + 1) 188) :
    ∀ q ∈ [(D, o1), (I, o2), (ra, o3), (f1, o4), (c1, o5), (LB + 1 + 1, o6), (LB + 1, o7)], q.1 ≠ 188 := by
  intro q hq
  simp only [List.mem_cons, List.not_mem_nil, or_false] at hq
  rcases hq with rfl | rfl | rfl | rfl | rfl | rfl | rfl
  · exact ne188 h
  · exact Ne.symm i6
  · exact Ne.symm r5
  · exact t1
  · exact t2
  · exact t3
  · exact t4
theorem ints_places {vs : List Value} {n m : Nat} (h : IntsAre vs (rangeKs 0 ((n : Int) - 0).toNat)) (hm : n = m) : IntsAre vs (placesF m) := by
  subst hm
  rwa [Int.sub_zero, Int.toNat_natCast] at h
theorem ParkOff.more {ra I LB : Addr} {pre rest rest' : List (Addr × Obj)} (h : ParkOff ra I LB rest) (hra : ∃ o, (ra, o) ∈ pre) (hI : ∃ o, (I, o) ∈ pre) (f : ∀ q ∈ rest', q ∈ rest ∨ (@LT.lt Nat _ 188 q.1 ∧ ∀ r ∈ pre ++ rest, @LT.lt Nat _ r.1 q.1)) : ParkOff ra I LB rest' := by
  obtain ⟨o1, ho1⟩ := hra
  obtain ⟨o2, ho2⟩ := hI
  refine ⟨fun q hq => ?_, fun q hq => ?_, fun q hq => ?_⟩
  · rcases f q hq with x | ⟨x, y⟩
    · exact h.o1 q x
    · exact Ne.symm (Nat.ne_of_lt (y _ (List.mem_append_left _ ho1)))
  · rcases f q hq with x | ⟨x, y⟩
    · exact h.o2 q x
    · exact Ne.symm (Nat.ne_of_lt (y _ (List.mem_append_left _ ho2)))
  · rcases f q hq with x | ⟨x, y⟩
    · exact h.o3 q x
    · exact Ne.symm (Nat.ne_of_lt x)
theorem kw_R7_3 : True := by
  k_with "eval Lambda" => ((k_here; k_dflt (refine' kla_eval ?d0 ?_; (case d0 => exact rfl)); k_dflt (refine' lam_make (pre := [_, _, _, _, _, _, _]) (posA := posA) (posB := posB) ?hpos ?F ?N ?T ?C ?cd ?hpre ?hrest ?tab ?cl ?_); (case hpos => first | exact Or.inl ⟨rfl, by decide⟩ | exact Or.inr ⟨rfl, by decide⟩); (case F => k_asm); (case N => (with_unfolding_all assumption)); (case T => k_asm); (case C => assumption); (case cd => exact rfl); (case hpre => exact pre7 (by assumption) (by assumption) (by assumption) (by assumption) (by assumption) (by assumption) (by assumption)); (case hrest => assumption); (case tab => assumption); (case cl => exact rfl); k_whole; intro _ _ _ _ _ _ _ _ _ _ _ NL _ _ _ _ _ _ _ _ _; (try simp only [List.cons_append, List.nil_append] at NL)); (revert NL; intro _))
  k_with "call ref" => (k_here; (with_reducible show wpAny _ _ (call (Value.ref 40) _ _) _ _ _); k_dflt (refine' last_row (Site.mk (by k_asm) (by k_asm) (by k_asm) (by k_asm) (by k_asm) rfl (by ktr_room) (by ktr_units)) ?hS ?hc ?R ?hi ?dp ?un ?ra ?d1 ?v1 ?d2 ?v2 ?hH ?hR ?nd ?X ?_; (case hS => assumption); (case hc => assumption); (case R => assumption); (case hi => (rename IntsAre _ (rangeKs _ _) => hIL; exact ints_places hIL (List.length_map _))); (case dp => ktr_room); (case un => ktr_units); (case ra => k_extra "my_mem_deep"); (case nd => exact ⟨by k_extra "my_mem_deep", by k_extra "my_mem_deep", by k_extra "my_mem_deep", by k_extra "my_mem_deep", by k_extra "my_mem_deep", by k_extra "my_mem_deep", by k_extra "my_mem_deep", RowIn.more (RowIn.more (by assumption) (by assumption)) (by k_extra "my_mem_tails")⟩); (case d1 => assumption); (case v1 => assumption); (case d2 => assumption); (case v2 => assumption); (case hH => assumption); (case hR => assumption); (case X => k_asm); k_whole); intro _ _ _ _ _)
  exact True.intro
theorem park_c (H : ParkHyp w p loose mean mg mb dp un gd cn cs L a ccd cl outer base gB LB ra f1 rc qual oR oH oc1 vs1 tq ws ns)
    (F : Fr gB LB s.heap mm) (N : News gB LB s.heap (ParkLed I oI ra rs kr f1 qual doc pm c1 ct oc1 LB oR oH ++ (188, tabObj ps) :: rest))
    (hS : okM S = true) (hc8 : car < 8) (R : RowOk rs (hsOf S)) (hrow : RowIn rs rest) (hoff : ParkOff ra I LB rest) (hord : ParkOrd I ra f1 c1 LB) (tab : TabSt posA posB lamQ ps rest)
    (mw : mm (Str.ofString "wish") = some (.float (eighthF (car : Int)) tw)) (mf : mm (Str.ofString "first") = some (.int (pFirst (hsOf S) car) tf))
    (next : ∀ h' tk' tl ps' rest', Fr gB LB h' (fun y => if y = Str.ofString "last" then some (.int (pLast (hsOf S) car (pFirst (hsOf S) car)) tl) else mm y) → News gB LB h' (ParkLed I oI ra rs kr f1 qual doc pm c1 ct oc1 LB oR oH ++ (188, tabObj ps') :: rest') → (∀ q ∈ rest, q ∈ rest') → ParkOff ra I LB rest' → TabSt posA posB lamQ ps' rest' → wpAny (model rwl.prog w) ((ktrTop dp un gd cn cs L a ccd cl outer).deeper (parEnv LB)) (execs k (parEnv LB)) Q E { s with heap := h', toks := tk' }) :
    (kF w.params).In gB → wpAny (model rwl.prog w) ((ktrTop dp un gd cn cs L a ccd cl outer).deeper (parEnv LB)) (execs (parC k) (parEnv LB)) Q E s := by
  k_fill
  intro X
  obtain ⟨B, T, C, hdp, hun, hoR, hoH, hoc, hvs, hi, hns, _⟩ := H
  have hrng := first_rng (hsOf S) car
  have hl6 := hs_len hS
  have hlen := R.len
  unfold parEnv parS parC
  unfold parEnv parS at next
  unfold ParkLed at N next
  simp only [List.cons_append, List.nil_append] at N next
  have hoff' := hoff
  obtain ⟨off1, off2, off3⟩ := hoff
  obtain ⟨oi1, oi2, oi3, oi4, oi5, oi6, or1, or2, or3, or4, or5, ot1, ot2, ot3, ot4⟩ := hord
  k_steps
  rename News gB LB _ _ => NN
  rename ∀ q ∈ _, q ∈ rest ∨ _ => hfr
  exact next _ _ _ _ _ (by assumption) (fun p hp => NN p (.tail _ (.tail _ hp))) (by assumption) (ParkOff.more hoff' ⟨_, .tail _ (.tail _ (.head _))⟩ ⟨_, .tail _ (.head _)⟩ hfr) (by assumption)
end
end Mine

end PartR7

section FlushR8
open PySem PySem.W PyProof.Rows PySem.Calls
namespace Mine
theorem start_R8 {prog : Program} {w : World} {A : Around} {E : Value → Shared → Prop} {s : Shared} {env : Env} {Q : Flow → Shared → Prop} (h : wpAny (model prog w) A (execs [] env) Q E s) : wpAny (model prog w) A (execs [] env) Q E s := by
  w_top off
  first | (walk1; fail) | exact h
end Mine
end FlushR8
section PartR8
open PySem PySem.W PyProof.Rows PySem.Calls
namespace Mine
section
variable {w : World} {p : Program} {loose : List PySem.Str} {mean : ExcName → Option Value} {mg mb : Str → Option Value} {dp un : Nat} {gd : Option (List Code)} {cn : Str} {cs : Scope} {L a : Addr} {ccd : Value} {cl : List (Str × Addr)} {outer : List Env} {base gB : Heap} {LB : Addr}
    {s : Shared} {Q : Flow → Shared → Prop} {E : Value → Shared → Prop} {I rc ra f1 c1 : Addr} {rs : List (Addr × (UInt64 × UInt64 × UInt64))} {ws : List Value} {ns : List Int} {kk kr i car : Nat} {tot way : Int} {t1 t2 t3 tt : Tok} {qual : PySem.Str} {doc pm ct : Value} {oI oc1 oR oH : Obj} {vs1 : Array Value} {tq : Tok} {ps : Array Value} {rest : List (Addr × Obj)} {mm : Str → Option Value} {k : List Stmt} {S : Nat} {tw tf tl : Tok}
theorem kw_R8_1 : True := by
  k_with_none
  k_with "my_m_look" => first | exact rfl | assumption | ((try dsimp only); repeat' (first | assumption | (refine (if_neg (by decide)).trans ?_) | (exact if_pos (by decide))))
  k_with "my_mem_deep" => (repeat' (first | assumption | exact List.Mem.head _ | refine List.Mem.tail _ ?_))
  k_with "eval Name" => (k_here; k_dflt (refine' ldC ?k1 ?k2 ?_ ?k3 ?k4; (case k3 => rfl); (case k4 => rfl); (case k1 => k_asm); (case k2 => k_extra "my_m_look"); k_whole))
  k_with "ForEnd" => dsimp only [ForEnd]
  k_with "binaryOp Div int int" => (k_here; (with_reducible show wpAny _ _ (binaryOp _ (Value.int (1 + _) _) (Value.int 4 _)) _ _ _); k_dflt (refine div4m rfl ?_))
  k_with "binaryOp Div int int" => (k_here; (with_reducible show wpAny _ _ (binaryOp _ (Value.int _ _) (Value.int 8 _)) _ _ _); k_dflt (refine' div8 rfl ?h ?_; (case h => omega); k_whole))
  k_with "subscriptTail" => (k_here; (with_reducible show wpAny _ _ (subscriptTail _ _ (Value.ref _) (Value.int _ _)) _ _ _); k_dflt (refine' item_car ?a ?b ?c ?z ?d ?e ?_; (case a => k_asm); (case b => k_extra "my_mem_deep"); (case c => assumption); (case z => assumption); (case d => assumption); (case e => assumption); k_whole); intro _)
  k_with "call ref" => (k_here; (with_reducible show wpAny _ _ (call (Value.ref 72) _) _ _ _); k_dflt (refine' hsv_ctr (Site.mk (by k_asm) (by k_asm) (by k_asm) (by k_asm) (by k_asm) rfl (by ktr_room) (by ktr_units)) ?ok ?_ ?X; (case ok => first | exact (good_wish (by assumption) _ _ 0).hsv); (case X => k_asm); k_whole); intro _ _ _ _ _ _ _ _ _)
  k_with "FnAt" => (k_dflt (exact FnAt.of (by k_asm) (by unfold hueFn; k_extra "my_mem_deep")))
  k_with "call ref" => (k_here; (with_reducible show wpAny _ _ (call (Value.ref _) [Value.ref _]) _ _ _); k_dflt (refine' hue_col ?G ?n1 ?n2 ?hd ?hv ?n3 (Site.mk (by k_asm) (by k_asm) (by k_asm) (by k_asm) (by k_asm) rfl (by ktr_room) (by ktr_units)) ?dp ?un ?_; (case n3 => exact List.Mem.head _); (case G => first | exact good_wish (by assumption) _ _ _ | exact good_hue (by assumption) _ _); (case n1 => k_extra "my_mem_deep"); (case n2 => k_extra "my_mem_deep"); (case hd => assumption); (case hv => assumption); (case dp => ktr_room); (case un => ktr_units); k_whole); intro _ _ _ _ _)
  exact True.intro

theorem kw_R8_2 : True := by
  k_with "my_mem_tails" => (intro p hp; repeat' (first | exact hp | refine List.Mem.tail _ ?_))
  k_with "call builtin:len" => (k_here; k_dflt (refine' len_led ?a ?b ?c ?_; (case a => k_asm); (case b => k_extra "my_mem_deep"); (case c => exact rows_lt (by assumption) (by assumption) (by decide)); k_whole))
  exact True.intro
theorem hue_add {S car : Nat} (hS : okM S = true) (hc : car < 8) : Float64.add (eighthF (car : Int)) (eighthF (pLast (hsOf S) car (pFirst (hsOf S) car) - pFirst (hsOf S) car)) = eighthF ((car : Int) + (pLast (hsOf S) car (pFirst (hsOf S) car) - pFirst (hsOf S) car)) := by
  have h := park_ok hS hc
  have h1 := h.c1
  have h2 := h.c2
  obtain ⟨d, hd⟩ : ∃ d : Nat, pLast (hsOf S) car (pFirst (hsOf S) car) - pFirst (hsOf S) car = (d : Int) := ⟨(pLast (hsOf S) car (pFirst (hsOf S) car) - pFirst (hsOf S) car).toNat, (Int.toNat_of_nonneg (Int.sub_nonneg_of_le h1)).symm⟩
  rw [hd]
  rw [hd, ← Int.natCast_add] at h2
  exact add8 (Nat.le_of_lt hc) (Nat.le_trans (Nat.le_add_left _ _) (Int.ofNat_le.mp h2))
theorem hue_one {S car : Nat} (hS : okM S = true) (hc : car < 8) : (Float64.cmpInt (Float64.add (eighthF (car : Int)) (eighthF (pLast (hsOf S) car (pFirst (hsOf S) car) - pFirst (hsOf S) car))) 1 == some Ordering.eq) = decide ((car : Int) + (pLast (hsOf S) car (pFirst (hsOf S) car) - pFirst (hsOf S) car) = 8) := by
  rw [hue_add hS hc]
  have h := park_ok hS hc
  have h1 := h.c1
  have h2 := h.c2
  obtain ⟨d, hd⟩ : ∃ d : Nat, (car : Int) + (pLast (hsOf S) car (pFirst (hsOf S) car) - pFirst (hsOf S) car) = (d : Int) := ⟨((car : Int) + (pLast (hsOf S) car (pFirst (hsOf S) car) - pFirst (hsOf S) car)).toNat, (Int.toNat_of_nonneg (Int.add_nonneg nn_of (Int.sub_nonneg_of_le h1))).symm⟩
  rw [hd] at h2 ⊢
  refine (one_tab ⟨d, Nat.lt_of_le_of_lt (Int.ofNat_le.mp h2 : d ≤ 8) (by decide)⟩).trans ?_
  exact decide_eq_decide.mpr ⟨fun e => congrArg _ e, Int.ofNat_inj.mp⟩
theorem hue_yes {S car : Nat} (hS : okM S = true) (hc : car < 8) (h : (Float64.cmpInt (Float64.add (eighthF (car : Int)) (eighthF (pLast (hsOf S) car (pFirst (hsOf S) car) - pFirst (hsOf S) car))) 1 == some Ordering.eq) = true) : pHue (hsOf S) car = pZero (hsOf S) := by
  rw [hue_one hS hc] at h
  exact if_pos (of_decide_eq_true h)
theorem hue_no {S car : Nat} (hS : okM S = true) (hc : car < 8) (h : (Float64.cmpInt (Float64.add (eighthF (car : Int)) (eighthF (pLast (hsOf S) car (pFirst (hsOf S) car) - pFirst (hsOf S) car))) 1 == some Ordering.eq) = false) : Float64.add (eighthF (car : Int)) (eighthF (pLast (hsOf S) car (pFirst (hsOf S) car) - pFirst (hsOf S) car)) = eighthF (pHue (hsOf S) car) := by
  rw [hue_add hS hc]
  rw [hue_one hS hc] at h
  exact congrArg eighthF (if_neg (of_decide_eq_false h)).symm
theorem small_len {n : Nat} (h : n < 1000) : Builtin.Range.small 0 (n : Int) 1 = true := small_one (by omega) (by omega) (by omega) (by omega)
theorem kw_R8_3 : True := by
  k_with "call type:list" => ((k_here; (with_reducible show wpAny _ _ (call (Value.type _) [Value.ref _]) _ _ _); (with_unfolding_all refine' kll_range ?k0 ?k1 ?k2 ?k3 ?k4 ?k5 ?k6 ?_; (case k0 => rfl); (case k1 => k_asm); (case k2 => k_asm); (case k3 => (rename IsRange _ _ _ _ _ _ _ _ => rgX; exact rgX)); (case k4 => exact small_len (by rw [List.length_map]; exact rs_lt (by assumption) (by assumption) (by decide))); (case k5 => exact rangeSize_nat _ _); (case k6 => exact Nat.le_trans (show _ ≤ 10 by rw [List.length_map]; exact Nat.le_of_lt (rs_lt (by assumption) (by assumption) (by decide))) (by decide)); k_whole); intro _ _ _ _ _ _ _ l1 _; (try k_lt l1); (try k_sweep)); (revert l1; intro _))
  k_with "eval Lambda" => ((k_here; k_dflt (refine' kla_eval ?d0 ?_; (case d0 => exact rfl)); k_dflt (refine' lam_make (pre := [_, _, _, _, _, _, _]) (posA := posA) (posB := posB) ?hpos ?F ?N ?T ?C ?cd ?hpre ?hrest ?tab ?cl ?_); (case hpos => first | exact Or.inl ⟨rfl, by decide⟩ | exact Or.inr ⟨rfl, by decide⟩); (case F => k_asm); (case N => (with_unfolding_all assumption)); (case T => k_asm); (case C => assumption); (case cd => exact rfl); (case hpre => exact pre7 (by assumption) (by assumption) (by assumption) (by assumption) (by assumption) (by assumption) (by assumption)); (case hrest => assumption); (case tab => assumption); (case cl => exact rfl); k_whole; intro _ _ _ _ _ _ _ _ _ _ _ NL _ _ _ _ _ _ _ _ _; (try simp only [List.cons_append, List.nil_append] at NL)); (revert NL; intro _))
  k_with "call ref" => (k_here; (with_reducible show wpAny _ _ (call (Value.ref 40) _ _) _ _ _); k_dflt (refine' zero_row (Site.mk (by k_asm) (by k_asm) (by k_asm) (by k_asm) (by k_asm) rfl (by ktr_room) (by ktr_units)) ?hS ?R ?hi ?dp ?un ?ra ?d1 ?v1 ?d2 ?v2 ?hH ?hR ?nd ?X ?_; (case hS => assumption); (case R => assumption); (case hi => (rename IntsAre _ (rangeKs _ _) => hIL; exact ints_places hIL (List.length_map _))); (case dp => ktr_room); (case un => ktr_units); (case ra => k_extra "my_mem_deep"); (case nd => exact ⟨by k_extra "my_mem_deep", by k_extra "my_mem_deep", by k_extra "my_mem_deep", by k_extra "my_mem_deep", by k_extra "my_mem_deep", by k_extra "my_mem_deep", by k_extra "my_mem_deep", RowIn.more (RowIn.more (by assumption) (by assumption)) (by k_extra "my_mem_tails")⟩); (case d1 => assumption); (case v1 => assumption); (case d2 => assumption); (case v2 => assumption); (case hH => assumption); (case hR => assumption); (case X => k_asm); k_whole); intro _ _ _ _ _)
  exact True.intro
theorem park_d (H : ParkHyp w p loose mean mg mb dp un gd cn cs L a ccd cl outer base gB LB ra f1 rc qual oR oH oc1 vs1 tq ws ns)
    (F : Fr gB LB s.heap mm) (N : News gB LB s.heap (ParkLed I oI ra rs kr f1 qual doc pm c1 ct oc1 LB oR oH ++ (188, tabObj ps) :: rest))
    (hS : okM S = true) (hc8 : car < 8) (R : RowOk rs (hsOf S)) (hrow : RowIn rs rest) (hoff : ParkOff ra I LB rest) (hord : ParkOrd I ra f1 c1 LB) (tab : TabSt posA posB lamQ ps rest)
    (mw : mm (Str.ofString "wish") = some (.float (eighthF (car : Int)) tw)) (mf : mm (Str.ofString "first") = some (.int (pFirst (hsOf S) car) tf)) (ml : mm (Str.ofString "last") = some (.int (pLast (hsOf S) car (pFirst (hsOf S) car)) tl))
    (next : ∀ mm' h' tk' th ps' rest', Fr gB LB h' mm' → (∀ y, y ≠ Str.ofString "hue" → mm' y = mm y) → mm' (Str.ofString "hue") = some (.float (eighthF (pHue (hsOf S) car)) th) → News gB LB h' (ParkLed I oI ra rs kr f1 qual doc pm c1 ct oc1 LB oR oH ++ (188, tabObj ps') :: rest') → (∀ q ∈ rest, q ∈ rest') → ParkOff ra I LB rest' → TabSt posA posB lamQ ps' rest' → wpAny (model rwl.prog w) ((ktrTop dp un gd cn cs L a ccd cl outer).deeper (parEnv LB)) (execs k (parEnv LB)) Q E { s with heap := h', toks := tk' }) :
    (kF w.params).In gB → wpAny (model rwl.prog w) ((ktrTop dp un gd cn cs L a ccd cl outer).deeper (parEnv LB)) (execs (parD k) (parEnv LB)) Q E s := by
  k_fill
  intro X
  obtain ⟨B, T, C, hdp, hun, hoR, hoH, hoc, hvs, hi, hns, _⟩ := H
  have hrng := first_rng (hsOf S) car
  have hl6 := hs_len hS
  have hlen := R.len
  have hpk := park_ok hS hc8
  have hp1 := hpk.c1
  have hp2 := hpk.c2
  have hzr : 0 ≤ pZero (hsOf S) ∧ pZero (hsOf S) ≤ (hsOf S).length := bisF_range _ _ _ nn_of
  unfold parEnv parS parD
  unfold parEnv parS at next
  unfold ParkLed at N next
  simp only [List.cons_append, List.nil_append] at N next
  have hoff' := hoff
  obtain ⟨off1, off2, off3⟩ := hoff
  obtain ⟨oi1, oi2, oi3, oi4, oi5, oi6, or1, or2, or3, or4, or5, ot1, ot2, ot3, ot4⟩ := hord
  k_steps
  · rename News gB LB _ _ => NN
    rename ∀ q ∈ _, q ∈ rest ∨ _ => hfr
    rename _ = true => hq
    rename Fr gB LB _ _ => FF
    have e := hue_yes hS hc8 hq
    exact next _ _ _ _ _ _ FF (fun y hy => (if_neg hy).trans (if_neg hy)) (by rw [e]; exact if_pos rfl) (fun p hp => NN p (.tail _ (.tail _ hp))) (by assumption) (ParkOff.more hoff' ⟨_, .tail _ (.tail _ (.head _))⟩ ⟨_, .tail _ (.head _)⟩ hfr) (by assumption)
  · rename News gB LB _ _ => NN
    rename _ = false => hq
    rename Fr gB LB _ _ => FF
    have e := hue_no hS hc8 hq
    exact next _ _ _ _ _ _ FF (fun y hy => if_neg hy) (by rw [← e]; exact if_pos rfl) NN (fun _ x => x) hoff' tab
end
end Mine

end PartR8

section FlushR9
open PySem PySem.W PyProof.Rows PySem.Calls
namespace Mine
theorem start_R9 {prog : Program} {w : World} {A : Around} {E : Value → Shared → Prop} {s : Shared} {env : Env} {Q : Flow → Shared → Prop} (h : wpAny (model prog w) A (execs [] env) Q E s) : wpAny (model prog w) A (execs [] env) Q E s := by
  w_top off
  first | (walk1; fail) | exact h
end Mine
end FlushR9
section PartR9
open PySem PySem.W PyProof.Rows PySem.Calls
namespace Mine
noncomputable abbrev RowT := List (Addr × (UInt64 × UInt64 × UInt64))
noncomputable def insR (rs : RowT) (p : Nat) (x : Addr × (UInt64 × UInt64 × UInt64)) : RowT := rs.take p ++ x :: rs.drop p
theorem ins_at {p i : Nat} : p + 1 + i - p = i + 1 := by omega
theorem ins_at2 {p i : Nat} : p + 1 + i - 1 = p + i := by omega
theorem ins_get {α : Type} {l : List α} {p : Nat} (hp : p ≤ l.length) (x : α) (j : Nat) : (l.take p ++ x :: l.drop p)[j]? = if j < p then l[j]? else if j = p then some x else l[j - 1]? := by
  have hl : (l.take p).length = p := by rw [List.length_take]; exact Nat.min_eq_left hp
  by_cases h : j < p
  · rw [if_pos h, List.getElem?_append_left (hl.symm ▸ h), List.getElem?_take_of_lt h]
  · rw [if_neg h, List.getElem?_append_right (hl.symm ▸ Nat.le_of_not_lt h), hl]
    by_cases e : j = p
    · rw [if_pos e, e, Nat.sub_self]; rfl
    · rw [if_neg e]
      obtain ⟨i, hi⟩ := Nat.le.dest (Nat.lt_of_le_of_ne (Nat.le_of_not_lt h) (Ne.symm e))
      subst hi
      rw [ins_at]
      show (l.drop p)[i]? = _
      rw [List.getElem?_drop, ins_at2]
theorem RowOk.ins {rs : RowT} {hs : List Nat} (R : RowOk rs hs) {p k : Nat} (hp : p ≤ hs.length) {x : Addr × (UInt64 × UInt64 × UInt64)} (hx : okRGB x.2.1 x.2.2.1 x.2.2.2 = true ∧ (hsvF x.2.1 x.2.2.1 x.2.2.2).1 = eighthF ((k : Nat) : Int)) : RowOk (insR rs p x) (insAt hs p k) := by
  have hl := R.len
  refine ⟨?_, fun j r hr => ?_⟩
  · unfold insR insAt
    rw [List.length_append, List.length_append, List.length_cons, List.length_cons, List.length_take, List.length_take, List.length_drop, List.length_drop, hl]
  · unfold insR at hr
    rw [ins_get (hl ▸ hp)] at hr
    have e : (insAt hs p k).getD j 0 = (if j < p then hs[j]? else if j = p then some k else hs[j - 1]?).getD 0 := by
      unfold insAt
      rw [List.getD_eq_getElem?_getD, ins_get hp]
    rw [e]
    by_cases h : j < p
    · rw [if_pos h] at hr ⊢
      have := R.col j r hr
      rwa [List.getD_eq_getElem?_getD] at this
    · rw [if_neg h] at hr ⊢
      by_cases g : j = p
      · rw [if_pos g] at hr ⊢
        cases hr
        exact hx
      · rw [if_neg g] at hr ⊢
        have := R.col (j - 1) r hr
        rwa [List.getD_eq_getElem?_getD] at this
theorem kl_ins_row (rs : RowT) {p : Int} (h0 : 0 ≤ p) (h1 : p ≤ rs.length) (x : Addr × (UInt64 × UInt64 × UInt64)) : kl_ins (rs.map fun r => Value.ref r.1).toArray.toList p (.ref x.1) = (insR rs p.toNat x).map fun r => Value.ref r.1 := by
  unfold kl_ins insR
  rw [if_neg (Int.not_lt.mpr h0), List.map_append, List.map_cons, List.map_take, List.map_drop]
  have e : min p.toNat ((rs.map fun r => Value.ref r.1).toArray.toList).length = p.toNat := by
    show min p.toNat (rs.map fun r => Value.ref r.1).length = _
    rw [List.length_map]
    exact Nat.min_eq_left (Int.toNat_le.mpr h1)
  rw [e]
theorem insR_mem {rs : RowT} {p : Nat} {x r : Addr × (UInt64 × UInt64 × UInt64)} (h : r ∈ insR rs p x) : r ∈ rs ∨ r = x := by
  unfold insR at h
  rcases List.mem_append.mp h with h | h
  · exact .inl (List.mem_of_mem_take h)
  · rcases List.mem_cons.mp h with h | h
    · exact .inr h
    · exact .inl (List.mem_of_mem_drop h)
theorem KeyCtr.more {w : World} {p : Program} {loose : List PySem.Str} {mean : ExcName → Option Value} {mg mb : Str → Option Value} {kq : Addr} {need need' : List (Addr × Obj) → Prop} {v : Value} {r : UInt64} (h : KeyCtr w p loose mean mg mb kq need v r) (hn : ∀ news, need' news → need news) : KeyCtr w p loose mean mg mb kq need' v r := by
  intro dp un gd cn cs L a ccd cl outer A₀ base h₀ m news s Q E B F X N T hk n hdp hun hret
  exact h dp un gd cn cs L a ccd cl outer A₀ base h₀ m news s Q E B F X N T hk (hn _ n) hdp hun hret
section
variable {w : World} {p : Program} {loose : List PySem.Str} {mean : ExcName → Option Value} {mg mb : Str → Option Value} {q1 c1 ra xa : Addr} {kk : Nat} {rs : RowT} {qual : PySem.Str} {doc pm ctv : Value} {oc : Obj} {vs : Array Value} {t : Tok} {S car hue : Nat} {h sv v : UInt64} {k1 k2 k3 : Tok} {G : Obj → List (Addr × Obj)}
    {dp un : Nat} {gd : Option (List Code)} {cn : Str} {cs : Scope} {L a : Addr} {ccd : Value} {cl : List (Str × Addr)} {outer : List Env} {A₀ : Around} {base h₀ : Heap} {m : Str → Option Value} {news : List (Addr × Obj)} {s : Shared} {Q E : Value → Shared → Prop}
theorem insort_row (T : Site w p loose mean mg mb dp un cn cs L a ccd cl outer A₀ base h₀ m news s) (hS : okM S = true) (hc : car < 8) (hh : pHue (hsOf S) car = (hue : Int)) (R : RowOk rs (hsOf S)) (C : GoodCol h sv v hue) (hdp : dp + 50 < recursionLimit) (hun : un + 180 < cLine)
    (hU : UpdF ra (listOf (rs.map fun r => Value.ref r.1).toArray kk) news G)
    (hra : (ra, listOf (rs.map fun r => Value.ref r.1).toArray kk) ∈ news) (n1 : (q1, hueFn qual doc pm c1 ctv) ∈ news) (n2 : (c1, oc) ∈ news) (hd : oc.data = .fields vs) (hv : vs[1]? = some (.str qual t)) (n3 : RowIn rs news) (n4 : (xa, tup3 (rgbF h sv v) k1 k2 k3) ∈ news)
    (X : (kF w.params).In h₀)
    (hret : ∀ h' tk' rs', Fr h₀ L h' m → News h₀ L h' (G (listOf (rs'.map fun r => Value.ref r.1).toArray (kk + 1))) → RowOk rs' (hsOf (parkM S car).1) → (∀ r ∈ rs', r ∈ rs ∨ r = (xa, rgbF h sv v)) → Q .none { s with heap := h', toks := tk' }) :
    wpAny (model rwl.prog w) (ktrTop dp un gd cn cs L a ccd cl outer) (call (.ref 49) [.ref ra, .ref xa] [(Str.ofString "key", .ref q1)]) Q E s := by
  have hl := R.len
  have hl6 := hs_len hS
  have P := park_ok hS hc
  have hh8 : hue < 8 := by have := P.c4; rw [hh] at this; exact Int.ofNat_lt.mp this
  refine insort_ctr (need := fun news => rowNeed q1 c1 qual doc pm ctv oc rs news ∧ (xa, tup3 (rgbF h sv v) k1 k2 k3) ∈ news) (f := fun i => eighthF (((hsOf S).getD i 0 : Nat) : Int)) (fx := eighthF (hue : Int)) T hU hra (rows_lt R hS (by decide)) n1 ⟨⟨n1, n2, n3⟩, n4⟩ hdp hun
    (fun i v' hv' => (row_keys hd hv R i v' hv').more fun _ n => n.1) ?_ ?_ X
  · intro dp un gd cn cs L a ccd cl outer A₀ base h₀ m news s Q E B F X N T hk n hdp hun hret
    have hr := hret
    rw [← C.hue] at hr
    exact hue_call n.1.1 n.1.2.1 hd hv n.2 C.rgb B F X N T hk (room hdp (by decide)) (room hun (by decide)) hr
  · intro h' tk' F' N'
    have hf := first_rng (hsOf S) hue
    have e : bisF (fun k => ltF' (eighthF (((hsOf S).getD k.toNat 0 : Nat) : Int)) (eighthF (hue : Int))) ((((rs.map fun r => Value.ref r.1).toArray.size : Nat) : Int)).toNat 0 ((rs.map fun r => Value.ref r.1).toArray.size : Nat) = pFirst (hsOf S) hue := by
      rw [row_size, hl]
      exact bisF_congr _ _ _ fun k _ _ => lt8 (hs_le hS _) (Nat.le_of_lt hh8)
    rw [e, kl_ins_row rs hf.1 (by rw [hl]; exact hf.2) (xa, rgbF h sv v)] at N'
    have h5 := P.c5
    have ht : (pHue (hsOf S) car).toNat = hue := by rw [hh]; rfl
    rw [ht] at h5
    have R' := R.ins (p := (pFirst (hsOf S) hue).toNat) (k := hue) (x := (xa, rgbF h sv v)) (Int.toNat_le.mpr hf.2) ⟨C.rgb, C.hue⟩
    rw [h5] at R'
    exact hret h' tk' _ F' N' R' fun r hr => insR_mem hr
end
end Mine

end PartR9

section FlushR10
open PySem PySem.W PyProof.Rows PySem.Calls
namespace Mine
theorem start_R10 {prog : Program} {w : World} {A : Around} {E : Value → Shared → Prop} {s : Shared} {env : Env} {Q : Flow → Shared → Prop} (h : wpAny (model prog w) A (execs [] env) Q E s) : wpAny (model prog w) A (execs [] env) Q E s := by
  w_top off
  first | (walk1; fail) | exact h
end Mine
end FlushR10
section PartR10
open PySem PySem.W PyProof.Rows PySem.Calls
namespace Mine
theorem ldnC {M : Model} {A : Around} {E : Value → Shared → Prop} {s : Shared} {h₀ : Heap} {L a : Addr} {cd : Value} {name : Str} {scope : Scope} {m : Str → Option Value} {x : Str} {v : Value} {Q : Value → Shared → Prop} (F : Fr h₀ L s.heap m) (hv : m x = some v) (h : Q v s)
    (hk : scope.kind = .function) (hl : (envOfC name scope L a cd).kindOf x = some .local) :
    wpAny M A (loadName (envOfC name scope L a cd) x) Q E s := wpAny_loadName_local hk hl F.ns hv h
section
variable {w : World} {p : Program} {loose : List PySem.Str} {mean : ExcName → Option Value} {mg mb : Str → Option Value} {dp un : Nat} {gd : Option (List Code)} {cn : Str} {cs : Scope} {L a : Addr} {ccd : Value} {cl : List (Str × Addr)} {outer : List Env} {base gB : Heap} {LB : Addr}
    {s : Shared} {Q : Flow → Shared → Prop} {E : Value → Shared → Prop} {I rc ra f1 c1 : Addr} {rs : List (Addr × (UInt64 × UInt64 × UInt64))} {ws : List Value} {ns : List Int} {kk kr i car : Nat} {tot way : Int} {t1 t2 t3 tt : Tok} {qual : PySem.Str} {doc pm ct : Value} {oI oc1 oR oH : Obj} {vs1 : Array Value} {tq : Tok} {ps : Array Value} {rest : List (Addr × Obj)} {mm : Str → Option Value} {k : List Stmt} {S : Nat} {tw tf tl : Tok}
theorem kw_R10_1 : True := by
  k_with_none
  k_with "my_m_look" => first | exact rfl | assumption | ((try dsimp only); repeat' (first | assumption | (refine (if_neg (by decide)).trans ?_) | (exact if_pos (by decide))))
  k_with "my_mem_deep" => (repeat' (first | assumption | exact List.Mem.head _ | refine List.Mem.tail _ ?_))
  k_with "eval Name" => (k_here; k_dflt (refine' ldC ?k1 ?k2 ?_ ?k3 ?k4; (case k3 => rfl); (case k4 => rfl); (case k1 => k_asm); (case k2 => k_extra "my_m_look"); k_whole))
  k_with "ForEnd" => dsimp only [ForEnd]
  k_with "binaryOp Div int int" => (k_here; (with_reducible show wpAny _ _ (binaryOp _ (Value.int (1 + _) _) (Value.int 4 _)) _ _ _); k_dflt (refine div4m rfl ?_))
  k_with "binaryOp Div int int" => (k_here; (with_reducible show wpAny _ _ (binaryOp _ (Value.int _ _) (Value.int 8 _)) _ _ _); k_dflt (refine' div8 rfl ?h ?_; (case h => omega); k_whole))
  k_with "subscriptTail" => (k_here; (with_reducible show wpAny _ _ (subscriptTail _ _ (Value.ref _) (Value.int _ _)) _ _ _); k_dflt (refine' item_car ?a ?b ?c ?z ?d ?e ?_; (case a => k_asm); (case b => k_extra "my_mem_deep"); (case c => assumption); (case z => assumption); (case d => assumption); (case e => assumption); k_whole); intro _)
  k_with "call ref" => (k_here; (with_reducible show wpAny _ _ (call (Value.ref 72) _) _ _ _); k_dflt (refine' hsv_ctr (Site.mk (by k_asm) (by k_asm) (by k_asm) (by k_asm) (by k_asm) rfl (by ktr_room) (by ktr_units)) ?ok ?_ ?X; (case ok => first | exact (good_wish (by assumption) _ _ 0).hsv); (case X => k_asm); k_whole); intro _ _ _ _ _ _ _ _ _)
  k_with "FnAt" => (k_dflt (exact FnAt.of (by k_asm) (by unfold hueFn; k_extra "my_mem_deep")))
  k_with "call ref" => (k_here; (with_reducible show wpAny _ _ (call (Value.ref _) [Value.ref _]) _ _ _); k_dflt (refine' hue_col ?G ?n1 ?n2 ?hd ?hv ?n3 (Site.mk (by k_asm) (by k_asm) (by k_asm) (by k_asm) (by k_asm) rfl (by ktr_room) (by ktr_units)) ?dp ?un ?_; (case n3 => exact List.Mem.head _); (case G => first | exact good_wish (by assumption) _ _ _ | exact good_hue (by assumption) _ _); (case n1 => k_extra "my_mem_deep"); (case n2 => k_extra "my_mem_deep"); (case hd => assumption); (case hv => assumption); (case dp => ktr_room); (case un => ktr_units); k_whole); intro _ _ _ _ _)
  exact True.intro

theorem kw_R10_2 : True := by
  k_with "my_mem_tails" => (intro p hp; repeat' (first | exact hp | refine List.Mem.tail _ ?_))
  k_with "call builtin:len" => (k_here; k_dflt (refine' len_led ?a ?b ?c ?_; (case a => k_asm); (case b => k_extra "my_mem_deep"); (case c => (rw [row_size]; omega)); k_whole))
  exact True.intro

theorem kw_R10_3 : True := by
  k_with "loadName" => (k_here; k_dflt (refine' ldnC ?k1 ?k2 ?_ ?k3 ?k4; (case k3 => rfl); (case k4 => rfl); (case k1 => k_asm); (case k2 => k_extra "my_m_look"); k_whole))
  exact True.intro
theorem park_fin {gB h' : Heap} {LB D I ra f1 c1 c d e f : Addr} {r : Prop} {oI oX oH1 oc1 oR oH oT : Obj} {rest : List (Addr × Obj)} {x : UInt64 × UInt64 × UInt64} {k1 k2 k3 : Tok} {rs rs' : RowT}
    (NN : News gB LB h' ((D, tup3 x k1 k2 k3) :: (I, oI) :: (ra, oX) :: (f1, oH1) :: (c1, oc1) :: (LB + 1 + 1, oR) :: (LB + 1, oH) :: (188, oT) :: rest)) (lD : I < D ∧ ra < D ∧ c < D ∧ d < D ∧ e < D ∧ f < D ∧ 188 < D ∧ r)
    (ho : ParkOff ra I LB rest) (hrow : RowIn rs rest) (RM : ∀ r ∈ rs', r ∈ rs ∨ r = (D, x)) :
    ∃ rest', News gB LB h' ((I, oI) :: (ra, oX) :: (f1, oH1) :: (c1, oc1) :: (LB + 1 + 1, oR) :: (LB + 1, oH) :: (188, oT) :: rest') ∧ (∀ q ∈ rest, q ∈ rest') ∧ ParkOff ra I LB rest' ∧ RowIn rs' rest' := by
  refine ⟨(D, tup3 x k1 k2 k3) :: rest, fun p hp => NN p ?_, fun q hq => .tail _ hq, ⟨?_, ?_, ?_⟩, ?_⟩
  · simp only [List.mem_cons] at hp ⊢
    rcases hp with h | h | h | h | h | h | h | h | h <;> simp [h]
  · intro q hq
    rcases List.mem_cons.mp hq with rfl | hq
    · exact Nat.ne_of_gt lD.2.1
    · exact ho.o1 q hq
  · intro q hq
    rcases List.mem_cons.mp hq with rfl | hq
    · exact Nat.ne_of_gt lD.1
    · exact ho.o2 q hq
  · intro q hq
    rcases List.mem_cons.mp hq with rfl | hq
    · exact ne188 lD
    · exact ho.o3 q hq
  · intro r hr
    rcases RM r hr with h | h
    · exact hrow.more (fun p hp => .tail _ hp) r h
    · subst h
      exact ⟨_, _, _, .head _⟩
theorem way8 {a b : Nat} (ha : a < 8) (hb : b < 8) : Flt.toInt Float64.truncOf (Float64.mul (Float64.divmod (Float64.sub (eighthF (a : Int)) (eighthF (b : Int))) (Float64.ofInt 1)).snd (Float64.ofInt 8)) = ((a : Int) - (b : Int)).fmod 8 ∧ Float64.isNaN (Float64.mul (Float64.divmod (Float64.sub (eighthF (a : Int)) (eighthF (b : Int))) (Float64.ofInt 1)).snd (Float64.ofInt 8)) = false ∧ Float64.isInf (Float64.mul (Float64.divmod (Float64.sub (eighthF (a : Int)) (eighthF (b : Int))) (Float64.ofInt 1)).snd (Float64.ofInt 8)) = false := by
  have e : Float64.ofInt 1 = 4607182418800017408 := by decide +kernel
  rw [e]
  exact way_tab ⟨a, ha⟩ ⟨b, hb⟩
theorem kw_R10_4 : True := by
  k_with "my_k_all" => assumption
  k_with "call ref" => ((k_here; (with_reducible show wpAny _ _ (call (Value.ref 72) _) _ _ _); k_dflt (refine' hsv_ctr (Site.mk (by k_asm) (by k_asm) (by k_asm) (by k_asm) (by k_asm) rfl (by ktr_room) (by ktr_units)) ?ok ?_ ?X; (case ok => exact (good_hue (by assumption) _ 0).hsv); (case X => k_asm); k_whole); intro _ _ _ _ _ _ _ _ l'; (try k_lt l')); (revert l'; intro _))
  k_with "call ref" => ((k_here; (with_reducible show wpAny _ _ (call (Value.ref 49) _ _) _ _ _); k_dflt (refine' insort_row (Site.mk (by k_asm) (by k_asm) (by k_asm) (by k_asm) (by k_asm) rfl (by ktr_room) (by ktr_units)) ?hS ?hc ?hh ?R ?C ?dp ?un ?hU ?ra ?n1 ?n2 ?hd ?hv ?n3 ?n4 ?X ?_; (case hh => assumption); (case hS => assumption); (case hc => assumption); (case R => assumption); (case n4 => exact List.Mem.head _); (case C => exact good_hue (by assumption) _ _); (case dp => ktr_room); (case un => ktr_units); (case hU => k_updF); (case ra => k_extra "my_mem_deep"); (case n1 => k_extra "my_mem_deep"); (case n2 => k_extra "my_mem_deep"); (case hd => assumption); (case hv => assumption); (case n3 => exact RowIn.more (by assumption) (by k_extra "my_mem_tails")); (case X => k_asm); k_whole); intro _ _ _ _ N' _ _; (try dsimp only at N')); (revert N'; intro _))
  exact True.intro
theorem park_e (H : ParkHyp w p loose mean mg mb dp un gd cn cs L a ccd cl outer base gB LB ra f1 rc qual oR oH oc1 vs1 tq ws ns)
    (F : Fr gB LB s.heap mm) (N : News gB LB s.heap (ParkLed I oI ra rs kr f1 qual doc pm c1 ct oc1 LB oR oH ++ (188, tabObj ps) :: rest))
    (hS : okM S = true) (hc8 : car < 8) (R : RowOk rs (hsOf S)) (hrow : RowIn rs rest) (hoff : ParkOff ra I LB rest) (hord : ParkOrd I ra f1 c1 LB) {hue : Nat} {th tsh tva tw2 : Tok} {d e : Int} (hhue : pHue (hsOf S) car = (hue : Int))
    (mway : mm (Str.ofString "way") = some (.int way t2)) (mw : mm (Str.ofString "wish") = some (.float (eighthF (car : Int)) tw)) (mh : mm (Str.ofString "hue") = some (.float (eighthF (hue : Int)) th))
    (msh : mm (Str.ofString "share") = some (.float (quarterF (1 + d.fmod 4)) tsh)) (mva : mm (Str.ofString "value") = some (.float (quarterF (1 + e.fmod 4)) tva))
    (next : ∀ h' tk' tw' rs' rest', Fr gB LB h' (fun y => if y = Str.ofString "way" then some (.int (way + ((parkM S car).2 : Int)) tw') else mm y) → News gB LB h' (ParkLed I oI ra rs' (kr + 1) f1 qual doc pm c1 ct oc1 LB oR oH ++ (188, tabObj ps) :: rest') → (∀ q ∈ rest, q ∈ rest') → ParkOff ra I LB rest' → RowOk rs' (hsOf (parkM S car).1) → RowIn rs' rest' → Q .next { s with heap := h', toks := tk' }) :
    (kF w.params).In gB → wpAny (model rwl.prog w) ((ktrTop dp un gd cn cs L a ccd cl outer).deeper (parEnv LB)) (execs parE (parEnv LB)) Q E s := by
  k_fill
  intro X
  obtain ⟨B, T, C, hdp, hun, hoR, hoH, hoc, hvs, hi, hns, _⟩ := H
  have hl6 := hs_len hS
  have hlen := R.len
  have hpk := park_ok hS hc8
  have hh8 : hue < 8 := by have := hpk.c4; omega
  unfold parEnv parS parE
  unfold ParkLed at N next
  simp only [List.cons_append, List.nil_append] at N next
  have hoff' := hoff
  obtain ⟨off1, off2, off3⟩ := hoff
  obtain ⟨oi1, oi2, oi3, oi4, oi5, oi6, or1, or2, or3, or4, or5, ot1, ot2, ot3, ot4⟩ := hord
  k_steps
  · rename _ = true => hbad
    rw [(way8 hh8 hc8).2.1] at hbad
    cases hbad
  · rename _ = true => hbad
    rw [(way8 hh8 hc8).2.2] at hbad
    cases hbad
  rename RowOk _ (hsOf (parkM S car).1) => RR
  rename ∀ r ∈ _, r ∈ rs ∨ _ => RM
  rename News gB LB _ _ => NN
  rename Fr gB LB _ _ => FF
  rename _ ∧ _ ∧ _ ∧ _ ∧ _ ∧ _ ∧ _ ∧ _ => lD
  rw [(way8 hh8 hc8).1, ← hhue, hpk.c6] at FF
  obtain ⟨rest', N9, sub9, off9, row9⟩ := park_fin NN lD hoff' hrow RM
  exact next _ _ _ _ rest' FF N9 sub9 off9 RR row9
end
end Mine

end PartR10

section FlushR11
open PySem PySem.W PyProof.Rows PySem.Calls
namespace Mine
theorem start_R11 {prog : Program} {w : World} {A : Around} {E : Value → Shared → Prop} {s : Shared} {env : Env} {Q : Flow → Shared → Prop} (h : wpAny (model prog w) A (execs [] env) Q E s) : wpAny (model prog w) A (execs [] env) Q E s := by
  w_top off
  first | (walk1; fail) | exact h
end Mine
end FlushR11
section PartR11
open PySem PySem.W PyProof.Rows PySem.Calls
namespace Mine
structure ParkIds (ra f1 c1 LB : Addr) : Prop where
  r1 : @Ne Nat f1 ra
  r2 : @Ne Nat c1 ra
  r3 : @Ne Nat (LB + 2) ra
  r4 : @Ne Nat (LB + 1) ra
  r5 : @Ne Nat 188 ra
  t1 : @Ne Nat f1 188
  t2 : @Ne Nat c1 188
  t3 : @Ne Nat (LB + 2) 188
  t4 : @Ne Nat (LB + 1) 188
inductive ParkJ (cars : List Nat) (ra f1 c1 LB rc : Addr) (qual : PySem.Str) (doc pm ct : Value) (oc1 oR oH : Obj) (tot : Int) (t1 : Tok) (rest : List (Addr × Obj)) (i : Nat) (mm : Str → Option Value) : List (Addr × Obj) → Prop
  | mk (rs : RowT) (kr S wy : Nat) (ps : Array Value) (rest' : List (Addr × Obj)) (tw : Tok) (hpa : parkAll (cars.take i) = some (S, wy)) (R : RowOk rs (hsOf S)) (hrow : RowIn rs rest') (hsub : ∀ q ∈ rest, q ∈ rest') (hra : ∀ q ∈ rest', q.1 ≠ ra) (h188 : ∀ q ∈ rest', q.1 ≠ 188) (tab : TabSt posA posB lamQ ps rest')
    (mc : mm (Str.ofString "cars") = some (.ref rc)) (mt : mm (Str.ofString "total") = some (.int tot t1)) (mw : mm (Str.ofString "way") = some (.int (wy : Int) tw)) :
    ParkJ cars ra f1 c1 LB rc qual doc pm ct oc1 oR oH tot t1 rest i mm ((ra, listOf (rs.map fun r => Value.ref r.1).toArray kr) :: (f1, hueFn qual doc pm c1 ct) :: (c1, oc1) :: (LB + 1 + 1, oR) :: (LB + 1, oH) :: (188, tabObj ps) :: rest')
section
variable {w : World} {p : Program} {loose : List PySem.Str} {mean : ExcName → Option Value} {mg mb : Str → Option Value} {dp un : Nat} {gd : Option (List Code)} {cn : Str} {cs : Scope} {L a : Addr} {ccd : Value} {cl : List (Str × Addr)} {outer : List Env} {base gB : Heap} {LB : Addr}
    {s : Shared} {Q : Flow → Shared → Prop} {E : Value → Shared → Prop} {I rc ra f1 c1 : Addr} {ws : List Value} {ns : List Int} {kk i : Nat} {tot : Int} {t1 t3 : Tok} {qual : PySem.Str} {doc pm ct : Value} {oI oc1 oR oH : Obj} {vs1 : Array Value} {tq : Tok} {rest nw : List (Addr × Obj)} {mm : Str → Option Value} {cars : List Nat} {r : Nat × Nat} {pos : Pos}
theorem kw_R11_1 : True := by
  k_with_none
  k_with "my_m_look" => first | exact rfl | assumption | ((try dsimp only); repeat' (first | assumption | (refine (if_neg (by decide)).trans ?_) | (exact if_pos (by decide))))
  k_with "my_k_all" => assumption
  exact True.intro
theorem park_turn (H : ParkHyp w p loose mean mg mb dp un gd cn cs L a ccd cl outer base gB LB ra f1 rc qual oR oH oc1 vs1 tq ws ns) (ids : ParkIds ra f1 c1 LB)
    (F : Fr gB LB s.heap mm) (N : News gB LB s.heap ((I, oI) :: nw)) (off : ∀ q ∈ nw, q.1 ≠ I) (j : ParkJ cars ra f1 c1 LB rc qual doc pm ct oc1 oR oH tot t1 rest i mm nw)
    (hn : ns = cars.map fun c : Nat => (c : Int)) (hp : parkAll cars = some r) (hrc : (rc, listOf ws.toArray kk) ∈ rest) (hin : i < cars.length) (X : (kF w.params).In gB) {s0 : Shared} (hs0 : s0.gens = s.gens ∧ s0.drawn = s.drawn ∧ s0.os = s.os) :
    wpAny (model rwl.prog w) ((ktrTop dp un gd cn cs L a ccd cl outer).deeper (parEnv LB)) (assign (.Name (Str.ofString "number") pos) (parEnv LB) (.int (0 + (i : Int)) t3))
      (fun _ s₂ => wpAny (model rwl.prog w) ((ktrTop dp un gd cn cs L a ccd cl outer).deeper (parEnv LB)) (execs (parA (parB (parC (parD parE)))) (parEnv LB))
        (ForEnd gB LB I oI (ParkJ cars ra f1 c1 LB rc qual doc pm ct oc1 oR oH tot t1 rest) s0 Q i) E s₂) E s := by
  obtain ⟨rs, kr, S, wy, ps, rest', tw, hpa, R, hrow, hsub, hra, h188, tab, mc, mt, mw⟩ := j
  obtain ⟨hS, hc8, hpn⟩ := parkAll_step hp hin hpa
  dsimp only at hS hpn
  have hcar : ns.getD i 0 = ((cars.getD i 0 : Nat) : Int) := by
    rw [hn, List.getD_eq_getElem?_getD, List.getD_eq_getElem?_getD, List.getElem?_map, List.getElem?_eq_getElem hin]
    rfl
  have hin' : i < ns.length := by rw [hn, List.length_map]; exact hin
  have o1 : @Ne Nat ra I := off _ (.head _)
  have o2 : @Ne Nat f1 I := off _ (.tail _ (.head _))
  have o3 : @Ne Nat c1 I := off _ (.tail _ (.tail _ (.head _)))
  have o4 : @Ne Nat (LB + 2) I := off _ (.tail _ (.tail _ (.tail _ (.head _))))
  have o5 : @Ne Nat (LB + 1) I := off _ (.tail _ (.tail _ (.tail _ (.tail _ (.head _)))))
  have o6 : @Ne Nat 188 I := off _ (.tail _ (.tail _ (.tail _ (.tail _ (.tail _ (.head _))))))
  have ho : ParkOff ra I LB rest' := ⟨hra, fun q hq => off q (.tail _ (.tail _ (.tail _ (.tail _ (.tail _ (.tail _ hq)))))), h188⟩
  have hord : ParkOrd I ra f1 c1 LB := ⟨o1, o2, o3, o4, o5, o6, ids.r1, ids.r2, ids.r3, ids.r4, ids.r5, ids.t1, ids.t2, ids.t3, ids.t4⟩
  have T := H.T
  generalize hK : execs (parA (parB (parC (parD parE)))) (parEnv LB) = body
  revert X
  k_fill
  intro X
  k_steps
  subst hK
  rename Fr gB LB _ _ => F0
  rename News gB LB _ _ => N0
  have N1 : News gB LB _ (ParkLed I oI ra rs kr f1 qual doc pm c1 ct oc1 LB oR oH ++ (188, tabObj ps) :: rest') := N0
  refine' park_a (tot := tot) (t1 := t1) (way := (wy : Int)) (t2 := tw) (t3 := t3) H ?F ?N ?m1 ?m2 ?m3 ?m4 (hsub _ hrc) hin' hcar hc8 ?_ X
  case F => exact F0
  case N => exact N1
  case m1 => k_extra "my_m_look"
  case m2 => k_extra "my_m_look"
  case m3 => k_extra "my_m_look"
  case m4 => k_extra "my_m_look"
  intro mm2 h2 tk2 tsh tva tw2 F2 N2 mc2 mt2 mw2 msh2 mva2 mwi2
  refine' park_b H ?F ?N hS hc8 R hrow mwi2 ?_ X
  case F => exact F2
  case N => exact N2
  intro h3 tk3 tf F3 N3
  refine' park_c (tf := tf) H ?F ?N hS hc8 R hrow ho hord tab ?w1 ?w2 ?_ X
  case F => exact F3
  case N => exact N3
  case w1 => exact (if_neg (by decide)).trans mwi2
  case w2 => exact if_pos rfl
  intro h4 tk4 tl ps4 rest4 F4 N4 sub4 off4 tab4
  refine' park_d (tl := tl) (tf := tf) H ?F ?N hS hc8 R (hrow.more sub4) off4 hord tab4 ?w1 ?w2 ?w3 ?_ X
  case F => exact F4
  case N => exact N4
  case w1 => exact (if_neg (by decide)).trans ((if_neg (by decide)).trans mwi2)
  case w2 => exact (if_neg (by decide)).trans (if_pos rfl)
  case w3 => exact if_pos rfl
  intro mm5 h5 tk5 th ps5 rest5 F5 mm5e mh5 N5 sub5 off5 tab5
  have hpk := park_ok hS hc8
  obtain ⟨hue, hhue⟩ : ∃ hue : Nat, pHue (hsOf S) (cars.getD i 0) = (hue : Int) := ⟨(pHue (hsOf S) (cars.getD i 0)).toNat, by have := hpk.c3; omega⟩
  have lk : ∀ (x : Str) (v : Value), x ≠ Str.ofString "hue" → x ≠ Str.ofString "last" → x ≠ Str.ofString "first" → mm2 x = some v → mm5 x = some v := fun x v a b c e => (mm5e x a).trans ((if_neg b).trans ((if_neg c).trans e))
  rw [hhue] at mh5
  refine' park_e (hue := hue) (tw2 := 0) H ?F ?N hS hc8 R (hrow.more fun q hq => sub5 _ (sub4 _ hq)) off5 hord hhue ?w1 ?w2 mh5 ?w3 ?w4 ?_ X
  case F => exact F5
  case N => exact N5
  case w1 => exact lk _ _ (by decide) (by decide) (by decide) mw2
  case w2 => exact lk _ _ (by decide) (by decide) (by decide) mwi2
  case w3 => exact lk _ _ (by decide) (by decide) (by decide) msh2
  case w4 => exact lk _ _ (by decide) (by decide) (by decide) mva2
  intro h6 tk6 tw6 rs6 rest6 F6 N6 sub6 off6 R6 row6
  obtain ⟨g1, g2, g3⟩ := hs0
  show ForNext gB LB I oI (ParkJ cars ra f1 c1 LB rc qual doc pm ct oc1 oR oH tot t1 rest) s0 i _
  refine ⟨h6, tk6, _, _, ?_, F6, N6, ?_, .mk rs6 (kr + 1) _ _ ps5 rest6 tw6 hpn R6 row6 (fun q hq => sub6 _ (sub5 _ (sub4 _ (hsub _ hq)))) off6.o1 off6.o3 (tab5.more sub6) ?_ ?_ ?_⟩
  · rw [g1, g2, g3]
  · intro q hq
    rcases List.mem_cons.mp hq with rfl | hq
    · exact o1
    rcases List.mem_cons.mp hq with rfl | hq
    · exact o2
    rcases List.mem_cons.mp hq with rfl | hq
    · exact o3
    rcases List.mem_cons.mp hq with rfl | hq
    · exact o4
    rcases List.mem_cons.mp hq with rfl | hq
    · exact o5
    rcases List.mem_cons.mp hq with rfl | hq
    · exact o6
    exact off6.o2 q hq
  · exact (if_neg (by decide)).trans (lk _ _ (by decide) (by decide) (by decide) mc2)
  · exact (if_neg (by decide)).trans (lk _ _ (by decide) (by decide) (by decide) mt2)
  · exact if_pos rfl
end
end Mine

end PartR11

section FlushR12
open PySem PySem.W PyProof.Rows PySem.Calls
namespace Mine
theorem start_R12 {prog : Program} {w : World} {A : Around} {E : Value → Shared → Prop} {s : Shared} {env : Env} {Q : Flow → Shared → Prop} (h : wpAny (model prog w) A (execs [] env) Q E s) : wpAny (model prog w) A (execs [] env) Q E s := by
  w_top off
  first | (walk1; fail) | exact h
end Mine
end FlushR12
section PartR12
open PySem PySem.W PyProof.Rows PySem.Calls
namespace Mine
noncomputable def EighthsAre (us : List Value) (hs : List Nat) : Prop := us.length = hs.length ∧ ∀ i y, us[i]? = some y → ∃ t : Tok, t ≠ 0 ∧ y = Value.float (eighthF ((hs.getD i 0 : Nat) : Int)) t
theorem kw_R12_1 : True := by
  k_with_none
  k_with "my_room" => ((try simp only [depth_under_make, depth_under_kw, depth_in1, depth_deeper, depth_caller]); (try dsimp only [ktrTop]); first | exact Mine.rm0 (by assumption) | exact Mine.rm1 (by assumption) (by exact rfl) | exact Mine.rm2 (by assumption) (by exact rfl) | exact Mine.rm2 (b := 40) (by assumption) (by exact rfl) | exact Mine.rm1 (b := 40) (by assumption) (by exact rfl) | exact Mine.rm2 (b := 50) (by assumption) (by exact rfl) | exact Mine.rm1 (b := 50) (by assumption) (by exact rfl) | fail "room")
  k_with "my_units" => ((try simp only [units_in1, units_deeper, Around.mark_units, units_caller]); (try dsimp only [ktrTop]); first | exact Mine.rm0 (by assumption) | exact Mine.rm1 (by assumption) (by exact rfl) | exact Mine.rm2 (by assumption) (by exact rfl) | exact Mine.rm2 (b := 140) (by assumption) (by exact rfl) | exact Mine.rm1 (b := 140) (by assumption) (by exact rfl) | exact Mine.rm2 (b := 180) (by assumption) (by exact rfl) | exact Mine.rm1 (b := 180) (by assumption) (by exact rfl) | fail "room")
  k_with "my_m_look" => first | exact rfl | assumption | ((try dsimp only); repeat' (first | assumption | (refine (if_neg (by decide)).trans ?_) | (exact if_pos (by decide))))
  k_with "exec For Name Call cons nil" => (k_here; k_dflt (refine for_start ?_))
  k_with "ForEnd" => dsimp only [ForEnd]
  k_with "my_mem_deep" => (repeat' (first | assumption | exact List.Mem.head _ | refine List.Mem.tail _ ?_))
  k_with "call builtin:len" => (k_here; k_dflt (refine' len_led ?a ?b ?c ?_; (case a => k_asm); (case b => k_extra "my_mem_deep"); (case c => assumption); k_whole))
  k_with "my_k_all" => first | assumption | exact rest_ne (by assumption) (by omega)
  exact True.intro
theorem off1_all {D : Addr} {l : List (Addr × Obj)} (h : LCg.Off1 D l) : ∀ p ∈ l, p.1 ≠ D := by
  induction l with
  | nil => intro p hp; cases hp
  | cons q l ih =>
    intro p hp
    rcases List.mem_cons.mp hp with e | hp
    · rw [e]; exact h.1
    · exact ih h.2 p hp
theorem hsOf_len (S : Nat) : (hsOf S).length ≤ 8 := Nat.le_trans (List.length_filter_le _ _) (by rw [List.length_range]; exact Nat.le_refl _)
theorem hue_item {w : World} {p : Program} {loose : List PySem.Str} {mean : ExcName → Option Value} {mg mb : Str → Option Value} {q1 c1 : Addr} {qual : PySem.Str} {doc pm ctv : Value} {oc : Obj} {vs : Array Value} {t : Tok} {rs : RowT} {hs : List Nat} {r : Addr × (UInt64 × UInt64 × UInt64)} {i : Nat}
    {dp un : Nat} {gd : Option (List Code)} {cn : Str} {cs : Scope} {L a : Addr} {ccd : Value} {cl : List (Str × Addr)} {outer : List Env} {A₀ : Around} {base h₀ : Heap} {m : Str → Option Value} {news : List (Addr × Obj)} {s : Shared} {Q E : Value → Shared → Prop}
    (R : RowOk rs hs) (hr : rs[i]? = some r) (n1 : (q1, hueFn qual doc pm c1 ctv) ∈ news) (n2 : (c1, oc) ∈ news) (hd : oc.data = .fields vs) (hv : vs[1]? = some (.str qual t)) (n3 : RowIn rs news)
    (S : Site w p loose mean mg mb dp un cn cs L a ccd cl outer A₀ base h₀ m news s) (hdp : dp + 24 < recursionLimit) (hun : un + 80 < cLine)
    (hret : ∀ t h' tk', t ≠ 0 → Fr h₀ L h' m → News h₀ L h' news → Q (.float (eighthF ((hs.getD i 0 : Nat) : Int)) t) { s with heap := h', toks := tk' }) :
    wpAny (model rwl.prog w) (ktrTop dp un gd cn cs L a ccd cl outer) (call (.ref q1) [.ref r.1]) Q E s := by
  obtain ⟨ok, hh⟩ := R.col i r hr
  obtain ⟨k1, k2, k3, n4⟩ := n3 r (List.mem_of_getElem? hr)
  rw [← hh] at hret
  exact hue_call0 n1 n2 hd hv n4 ok S.B S.F S.X S.N S.T S.hk hdp hun hret
theorem kw_R12_2 : True := by
  k_with "my_mem_tails" => (intro p hp; repeat' (first | exact hp | refine List.Mem.tail _ ?_))
  k_with "call ref" => (k_here; (with_reducible show wpAny _ _ (call (Value.ref _) [Value.ref _]) _ _ _); k_dflt (refine' hue_item ?R ?hr ?n1 ?n2 ?hd ?hv ?n3 (Site.mk (by k_asm) (by k_asm) (by k_asm) (by k_asm) (by k_asm) rfl (by ktr_room) (by ktr_units)) ?dp ?un ?_; (case R => assumption); (case hr => assumption); (case n1 => k_extra "my_mem_deep"); (case n2 => k_extra "my_mem_deep"); (case hd => assumption); (case hv => assumption); (case n3 => exact RowIn.more (by assumption) (by k_extra "my_mem_tails")); (case dp => ktr_room); (case un => ktr_units); k_whole); intro _ _ _ _ _ _)
  k_with "FnAt" => (k_dflt (exact FnAt.of (by k_asm) (by unfold hueFn; k_extra "my_mem_deep")))
  k_with "eval Name" => (k_here; k_dflt (refine' ldC ?k1 ?k2 ?_ ?k3 ?k4; (case k3 => rfl); (case k4 => rfl); (case k1 => k_asm); (case k2 => k_extra "my_m_look"); k_whole))
  exact True.intro
section
variable {w : World} {p : Program} {loose : List PySem.Str} {mean : ExcName → Option Value} {mg mb : Str → Option Value} {dp un : Nat} {gd : Option (List Code)} {cn : Str} {cs : Scope} {L a : Addr} {ccd : Value} {cl : List (Str × Addr)} {outer : List Env} {base gB : Heap} {LB : Addr}
    {s : Shared} {Q : Flow → Shared → Prop} {E : Value → Shared → Prop} {rc ra f1 c1 r : Addr} {ws : List Value} {ns : List Int} {kk : Nat} {tot : Int} {t1 tw u₀ u₁ u₂ : Tok} {qual : PySem.Str} {doc pm ct : Value} {oc1 oR oH : Obj} {vs1 : Array Value} {tq : Tok} {rest : List (Addr × Obj)} {mm : Str → Option Value} {cars : List Nat} {rr : Nat × Nat} {pos : Pos} {ps : Array Value}
theorem park_for (B : Below (ktrTop dp un gd cn cs L a ccd cl outer) base (envX cn cs L a ccd cl :: outer) gB) (T : Top p loose mean mg mb gB) (C : CodeHd gB 190 188) (hdp : dp + 80 < recursionLimit) (hun : un + 400 < cLine) (X : (kF w.params).In gB)
    (hoR : oR.data = .cell (some (.ref ra))) (hoH : oH.data = .cell (some (.ref f1))) (hoc : oc1.data = .fields vs1) (hvs : vs1[1]? = some (.str qual tq)) (hi : IntsAre ws ns) (hnl : ns.length < 8)
    (F : Fr gB LB s.heap mm) (N : News gB LB s.heap ((ra, listOf #[] 0) :: (f1, hueFn qual doc pm c1 ct) :: (c1, oc1) :: (LB + 1 + 1, oR) :: (LB + 1, oH) :: (188, tabObj ps) :: rest))
    (hps : TriplesOk ps.toList) (hp1 : codeAmong posA ps.toList = none) (hp2 : codeAmong posB ps.toList = none)
    (l1 : f1 < ra ∧ c1 < ra ∧ LB + 1 + 1 < ra ∧ LB + 1 < ra ∧ 188 < ra ∧ AllLt ra rest) (l2 : c1 < f1) (l3 : LB + 1 + 1 < c1 ∧ LB + 1 < c1 ∧ 188 < c1 ∧ AllLt c1 rest) (l4 : 188 < LB ∧ AllLt LB rest) (hr8 : ∀ p ∈ rest, p.1 ≠ 188)
    (hr : IsRange s.heap r 0 ((ns.length : Nat) : Int) 1 u₀ u₁ u₂)
    (mc : mm (Str.ofString "cars") = some (.ref rc)) (mt : mm (Str.ofString "total") = some (.int tot t1)) (mw : mm (Str.ofString "way") = some (.int 0 tw))
    (hn : ns = cars.map fun c : Nat => (c : Int)) (hp : parkAll cars = some rr) (hrc : (rc, listOf ws.toArray kk) ∈ rest)
    (hE : PassesOwn (model rwl.prog w) ((ktrTop dp un gd cn cs L a ccd cl outer).deeper (parEnv LB)) (parEnv LB) E)
    (fin : ∀ mm nw h tk, ParkJ cars ra f1 c1 LB rc qual doc pm ct oc1 oR oH tot t1 rest cars.length mm nw → Fr gB LB h mm → News gB LB h nw → Q .next { s with heap := h, toks := tk }) :
    ForSrc rwl.prog w ((ktrTop dp un gd cn cs L a ccd cl outer).deeper (parEnv LB)) E (parEnv LB) (.Name (Str.ofString "number") pos) (parA (parB (parC (parD parE)))) Q (.ref r) s := by
  have hsz : ns.length = cars.length := by rw [hn, List.length_map]
  have hcl : cars.length < 8 := by rw [hn, List.length_map] at hnl; exact hnl
  have ids : ParkIds ra f1 c1 LB := ⟨Nat.ne_of_lt l1.1, Nat.ne_of_lt l1.2.1, Nat.ne_of_lt l1.2.2.1, Nat.ne_of_lt l1.2.2.2.1, Nat.ne_of_lt l1.2.2.2.2.1, Nat.ne_of_gt (Nat.lt_trans l3.2.2.1 l2), Nat.ne_of_gt l3.2.2.1,
    Nat.ne_of_gt (Nat.lt_of_lt_of_le l4.1 (Nat.le_add_right LB 2)), Nat.ne_of_gt (Nat.lt_of_lt_of_le l4.1 (Nat.le_add_right LB 1))⟩
  have H : ParkHyp w p loose mean mg mb dp un gd cn cs L a ccd cl outer base gB LB ra f1 rc qual oR oH oc1 vs1 tq ws ns := ⟨B, T, C, hdp, hun, hoR, hoH, hoc, hvs, hi, hnl, X⟩
  refine for_range (n := ns.length) (L := LB) (ParkJ cars ra f1 c1 LB rc qual doc pm ct oc1 oR oH tot t1 rest) rfl hr (small_len (by rw [hsz]; omega)) (by rw [rangeSize_nat]; omega) rfl hE (fun _ _ => rfl) F N ?_ ?_ ?_
  · refine .mk [] 0 0 0 ps rest tw rfl ⟨rfl, fun j r h => nomatch h⟩ (show RowIn [] rest from fun r h => nomatch h) (fun _ x => x) (fun q hq => ?_) hr8 ⟨hps, .inl hp1, .inl hp2⟩ mc mt mw
    exact Nat.ne_of_lt (allLt_all l1.2.2.2.2.2 q hq)
  · intro I i t oI mm nw h tk hi' j off FF NN
    exact park_turn (s := { s with heap := h, toks := tk }) (t3 := t) H ids FF NN off j hn hp hrc (by rw [← hsz]; exact hi') X ⟨rfl, rfl, rfl⟩
  · intro mm nw h tk j FF NN
    rw [hsz] at j
    exact fin mm nw h tk j FF NN
end
theorem parked_ctr {w : World} {p : Program} {loose : List PySem.Str} {mean : ExcName → Option Value} {mg mb : Str → Option Value} {dp un : Nat} {gd : Option (List Code)} {cn : Str} {cs : Scope} {L a : Addr} {ccd : Value} {cl : List (Str × Addr)} {outer : List Env} {A₀ : Around} {base h₀ : Heap} {m : Str → Option Value}
    {rest : List (Addr × Obj)} {s : Shared} {Q E : Value → Shared → Prop} {rc : Addr} {ws : List Value} {ns : List Int} {kk : Nat} {tot : Int} {t1 : Tok} {cars : List Nat} {S wy : Nat} : Site w p loose mean mg mb dp un cn cs L a ccd cl outer A₀ base h₀ m ((188, tabObj #[]) :: rest) s →
    CodeHd base 190 188 → (∀ p ∈ rest, p.1 ≠ 188) → (rc, listOf ws.toArray kk) ∈ rest → IntsAre ws ns → (ns = cars.map fun c : Nat => (c : Int)) → cars.length < 8 → parkAll cars = some (S, wy) → dp + 100 < recursionLimit → un + 500 < cLine →
    (∀ D fl us ku tw ps h' tk', Fr h₀ L h' m → News h₀ L h' ((D, ({ cls := .type "tuple", data := .seq #[.ref fl, .int (wy : Int) tw] } : Obj)) :: (fl, listOf us.toArray ku) :: (188, tabObj ps) :: rest) → EighthsAre us (hsOf S) → (∀ p ∈ rest, p.1 ≠ fl) → fl < D → (∀ p ∈ rest, p.1 < D) → Q (.ref D) { s with heap := h', toks := tk' }) →
  (kF w.params).In h₀ → wpAny (model rwl.prog w) (ktrTop dp un gd cn cs L a ccd cl outer) (call (.ref 191) [.ref rc, .int tot t1]) Q E s := by
  k_fill
  intro S' hC hr hrc hi hns hl hpk hdp hun hret X
  obtain ⟨B, F, _, N, T, hk, _, _⟩ := S'
  have hnl : ns.length < 8 := by rw [hns, List.length_map]; exact hl
  have hws : ws.toArray.size < 1000 := by have := hi.length; rw [List.size_toArray]; omega
  refine wpAny_call ?_
  k_dflt (((refine' code_defC ?k1 ?k2 ?k3 ?k4 ?k5 ?kA ?kF ?kK ?k6 ?k7 ?k8 ?k9 ?kB ?kD ?_ ?c2 ?c3 ?c4; (case kA => exact rfl); (case kF => exact rfl); (case kK => assumption); (case k1 => k_asm); (case k2 => k_asm); (case k3 => k_asm); (case k4 => k_asm); (case k5 => k_asm); (case k6 => k_is); (case k7 => k_is); (case k8 => ktr_room); (case k9 => exact BindsTo.of_eq rfl); (case kB => exact rfl); (case kD => decide +kernel); (case c2 => exact rfl); (case c3 => exact rfl); (case c4 => exact rfl); k_whole; intro gB LB h' tk' cells' FG' F' N' Y' B' X' T' l1; (try k_lt l1); k_cells Y'; (try simp only [List.cons_append, List.nil_append] at N'); (try dsimp only); (try k_lift B'); (try k_fold))))
  have hLB : AllLt LB rest := (by assumption : 188 < LB ∧ AllLt LB rest).2
  k_steps
  k_dflt (refine' park_for (cars := cars) (pos := _) (ps := _) ?B ?T ?C ?dp ?un ?X ?oR ?oH ?oc ?vs ?hi ?hnl ?F ?N ?hps ?hp1 ?hp2 ?l1 ?l2 ?l3 ?l4 ?hr8 ?hr ?mc ?mt ?mw ?hn ?hp ?hrc ?hE ?fin)
  case F => assumption
  case N => assumption
  case B => k_asm
  case T => k_asm
  case C => exact CodeHd.keeps hC (Below.stays (by assumption))
  case dp => omega
  case un => omega
  case X => k_asm
  case oR => assumption
  case oH => assumption
  case oc => assumption
  case vs => assumption
  case hi => assumption
  case hnl => exact hnl
  case hps => simp [TriplesOk, rawInt]
  case hp1 => simp [codeAmong, rawInt, posA]
  case hp2 => simp [codeAmong, rawInt, posB]
  case l1 => assumption
  case l2 => assumption
  case l3 => assumption
  case l4 => assumption
  case hr8 => exact hr
  case hr =>
    rename IsRange _ _ _ _ _ _ _ _ => hrg
    first | exact hrg | (rw [List.size_toArray]; exact hrg)
  case mc => k_extra "my_m_look"
  case mt => k_extra "my_m_look"
  case mw => k_extra "my_m_look"
  case hn => exact hns
  case hp => exact hpk
  case hrc => exact hrc
  case hE => first | passes_own | with_unfolding_all passes_own
  case fin =>
    intro mm nw h tk j FF NN
    obtain ⟨rs, kr, S', wy', ps', rest', tw, hpa, R, hrow, hsub, hra, h188, tab, mc, mt, mw⟩ := j
    rw [List.take_length, hpk] at hpa
    cases hpa
    k_steps
    refine LCg.CompSrc.ledger (by rfl) (by assumption) NN (.head _) (by rw [row_size, R.len]; exact Nat.le_trans (Nat.le_trans (hsOf_len S) (show 8 ≤ 10 by decide)) (by decide)) ?_
    intro g
    refine comp_const (fun i y => ∃ t : Tok, t ≠ 0 ∧ y = Value.float (eighthF (((hsOf S).getD i 0 : Nat) : Int)) t) ?_ ?_
    · intro i v I oI C oC D m₂ ys h tk E' hi' hv hC hx F5 N5 off5 ne5
      obtain ⟨r, hr5, rfl⟩ := row_item hv
      k_steps
      exact comp_end (by assumption) (by assumption) off5 (.inr ⟨_, .head _, rfl, _, rfl⟩) ⟨_, by assumption, rfl⟩
    · intro ys hlen hY D h tk F5 N5 off5
      k_steps
      rename News h₀ L _ _ => NX
      rename _ ∧ _ ∧ _ ∧ _ ∧ _ ∧ _ ∧ _ ∧ AllLt _ rest' => lX
      rename Fr h₀ L _ m => FX
      have o5 := off1_all off5
      refine hret _ _ ys ys.length tw ps' _ _ FX (fun p hp => NX p ?_) ⟨by rw [hlen, row_size, R.len], hY⟩ (fun p hp => o5 p (.tail _ (.tail _ (.tail _ (.tail _ (.tail _ (.tail _ (hsub p hp)))))))) lX.1 (fun p hp => allLt_all lX.2.2.2.2.2.2.2 p (hsub p hp))
      rcases List.mem_cons.mp hp with rfl | hp
      · exact .head _
      rcases List.mem_cons.mp hp with rfl | hp
      · exact .tail _ (.head _)
      rcases List.mem_cons.mp hp with rfl | hp
      · exact .tail _ (.tail _ (.tail _ (.tail _ (.tail _ (.tail _ (.tail _ (.head _)))))))
      exact .tail _ (.tail _ (.tail _ (.tail _ (.tail _ (.tail _ (.tail _ (.tail _ (hsub p hp))))))))
end Mine

end PartR12

section FlushL11
open PySem PySem.W PyProof.Rows PySem.Calls
namespace Mine
theorem start_L11 {prog : Program} {w : World} {A : Around} {E : Value → Shared → Prop} {s : Shared} {env : Env} {Q : Flow → Shared → Prop} (h : wpAny (model prog w) A (execs [] env) Q E s) : wpAny (model prog w) A (execs [] env) Q E s := by
  w_top off
  first | (walk1; fail) | exact h
end Mine
end FlushL11
section PartL11
open PySem PySem.W PyProof.Rows PySem.Calls
namespace Mine
noncomputable def yLawH (k : List Stmt) : List Stmt := nth 11 yLawL :: nth 12 yLawL :: k
noncomputable def lawH (k : List Stmt) : List Stmt := (fun (o : List Stmt) (_ : yLawH k = o) => o) _ (by dsimp only [yLawH, yLawL, fB, fnBs, pw, PySem.Challenge.pw_ty0053_01, nth])
section
variable {w : World} {p : Program} {loose : List PySem.Str} {mean : ExcName → Option Value} {mg mb : Str → Option Value} {gB : Heap} {LB sl fa dr : Addr} {cd : Value} {vs ws : List Value} {ns : List Int} {s : Shared} {Q : Flow → Shared → Prop} {E : Value → Shared → Prop} {mm : Str → Option Value} {k : List Stmt} {o1 o2 o3 o4 o5 o6 o7 o8 o9 o10 o11 : Obj} {t1 t2 t3 t4 t5 t6 : Tok} {cr er : Addr} {cs : List Value} {rest : List (Addr × Obj)}
theorem kw_L11_1 : True := by
  k_with_none
  k_with "my_m_look" => first | exact rfl | assumption | ((try dsimp only); repeat' (first | assumption | (refine (if_neg (by decide)).trans ?_) | (exact if_pos (by decide))))
  k_with "my_mem_deep" => (repeat' (first | assumption | exact List.Mem.head _ | refine List.Mem.tail _ ?_))
  k_with "eval Name" => (k_here; k_dflt (refine' ldL ?k1 ?k2 ?_ ?k3 ?k4; (case k3 => rfl); (case k4 => rfl); (case k1 => k_asm); (case k2 => k_extra "my_m_look"); k_whole))
  k_with "exec For Name Call cons nil" => (k_here; k_dflt (refine for_start ?_))
  k_with "ForEnd" => dsimp only [ForEnd]
  k_with "call ref" => (k_here; (with_reducible show wpAny _ _ (call (Value.ref 89) _) _ _ _); k_dflt (refine' quote_rows (Site.mk (by k_asm) (by k_asm) (by k_asm) (by k_asm) (by k_asm) rfl (by decide) (by decide)) ?hx ?he ?_ ?X; (case hx => assumption); (case he => assumption); (case X => k_asm); k_whole); intro _ _ _ _ _)
  k_with "call ref" => (k_here; (with_reducible show wpAny _ _ (call (Value.ref 96) _) _ _ _); k_dflt (refine' fix_rows (Site.mk (by k_asm) (by k_asm) (by k_asm) (by k_asm) (by k_asm) rfl (by decide) (by decide)) ?hx ?he ?_ ?X; (case hx => assumption); (case he => assumption); (case X => k_asm); k_whole); intro _ _ _ _ _)
  exact True.intro
noncomputable abbrev OwnE (w : World) (LB fa : Addr) (cd : Value) (E : Value → Shared → Prop) : Prop := PassesOwn (model rwl.prog w) (callerA.deeper (lawEnv LB fa cd)) (lawEnv LB fa cd) E
noncomputable def MailJ (ns : List Int) (news : List (Addr × Obj)) (i : Nat) (mm : Str → Option Value) (nw : List (Addr × Obj)) : Prop := nw = news ∧ ∃ tm, mm (Str.ofString "mail") = some (.str ⟨(rowsFrom crlf 0 (sentL (bsOf ns) i)).toArray⟩ tm)
theorem law_s8 {t : Nat} (H : LawHyp w p loose mean mg mb gB LB sl vs ns) (hE : OwnE w LB fa cd E) (F : Fr gB LB s.heap mm) (N : News gB LB s.heap (lawLed LB o1 o2 o3 o4 o5 o6 o7 o8 o9 o10 o11 rest))
    (e6 : o6.data = .cell (some (.int (t : Int) t6))) (ht : t ≤ 5) (mu : mm (Str.ofString "uneven") = some (.str ⟨(rowsFrom (endOf ns) 0 (bsOf ns)).toArray⟩ t5))
    (next : ∀ h' tk' mm' tm, Fr gB LB h' mm' → mm' (Str.ofString "mail") = some (.str ⟨(rowsFrom crlf 0 (sentL (bsOf ns) t)).toArray⟩ tm) → News gB LB h' (lawLed LB o1 o2 o3 o4 o5 o6 o7 o8 o9 o10 o11 rest) → wpAny (model rwl.prog w) (callerA.deeper (lawEnv LB fa cd)) (execs k (lawEnv LB fa cd)) Q E { s with heap := h', toks := tk' }) :
    (kF w.params).In gB → wpAny (model rwl.prog w) (callerA.deeper (lawEnv LB fa cd)) (execs (lawH k) (lawEnv LB fa cd)) Q E s := by
  k_fill
  intro X
  obtain ⟨B, T, _, C, hs, hI, hl, lb⟩ := H
  have h8 := bsOf_len ns
  have he : ∀ k, endOf ns k = [10] ∨ endOf ns k = [13] ∨ endOf ns k = [13, 10] := fun k => endL_is _
  have hec : ∀ k, crlf k = [10] ∨ crlf k = [13] ∨ crlf k = [13, 10] := fun k => .inr (.inr rfl)
  have hx : (rowsFrom (endOf ns) 0 (bsOf ns)).length ≤ 400 := by
    have := rowsFrom_len (endOf_len ns) (bs := bsOf ns) 0 (fun i => Nat.le_trans (bsOf_le ns i) (by decide))
    rw [h8] at this
    omega
  unfold lawEnv lawS lawH
  unfold OwnE lawEnv lawS at hE
  unfold lawEnv lawS at next
  unfold lawLed at N
  k_steps
  k_dflt (refine' for_range (n := t) (L := LB) (MailJ ns (lawLed LB o1 o2 o3 o4 o5 o6 o7 o8 o9 o10 o11 rest)) rfl (by assumption) (small_len (by omega)) (by rw [rangeSize_nat]; omega) rfl hE (fun _ _ => rfl) (by assumption) (by assumption) ?h0 ?turn ?fin)
  case h0 => exact ⟨rfl, _, by rw [sent_zero]; k_extra "my_m_look"⟩
  case turn =>
    rintro I i t' oI mm nw h tk hi' ⟨rfl, tm, em⟩ off FF NN
    have hx2 : (rowsFrom crlf 0 (sentL (bsOf ns) i)).length ≤ 400 := by
      have := rowsFrom_len crlf_len (bs := sentL (bsOf ns) i) 0 (fun j => Nat.le_trans (sent_le ns i j) (by omega))
      rw [sent_len, h8] at this
      omega
    k_steps
    exact ForNext.mk _ (by assumption) (by assumption) off ⟨rfl, _, by rw [← sent_succ]; k_extra "my_m_look"⟩
  case fin =>
    rintro mm nw h tk ⟨rfl, tm, em⟩ FF NN
    dsimp only
    exact next _ _ _ _ FF em NN
end
end Mine

end PartL11

section FlushL12
open PySem PySem.W PyProof.Rows PySem.Calls
namespace Mine
theorem start_L12 {prog : Program} {w : World} {A : Around} {E : Value → Shared → Prop} {s : Shared} {env : Env} {Q : Flow → Shared → Prop} (h : wpAny (model prog w) A (execs [] env) Q E s) : wpAny (model prog w) A (execs [] env) Q E s := by
  w_top off
  first | (walk1; fail) | exact h
end Mine
end FlushL12
section PartL12
open PySem PySem.W PyProof.Rows PySem.Calls
namespace Mine
noncomputable def yLawI (k : List Stmt) : List Stmt := nth 13 yLawL :: k
noncomputable def lawI (k : List Stmt) : List Stmt := (fun (o : List Stmt) (_ : yLawI k = o) => o) _ (by dsimp only [yLawI, yLawL, fB, fnBs, pw, PySem.Challenge.pw_ty0053_01, nth])
section
variable {w : World} {p : Program} {loose : List PySem.Str} {mean : ExcName → Option Value} {mg mb : Str → Option Value} {gB : Heap} {LB sl fa dr : Addr} {cd : Value} {vs ws : List Value} {ns : List Int} {s : Shared} {Q : Flow → Shared → Prop} {E : Value → Shared → Prop} {mm : Str → Option Value} {k : List Stmt} {o1 o2 o3 o4 o5 o6 o7 o8 o9 o10 o11 : Obj} {t1 t2 t3 t4 t5 t6 : Tok} {cr er : Addr} {cs : List Value} {rest : List (Addr × Obj)}
theorem kw_L12_1 : True := by
  k_with_none
  k_with "my_m_look" => first | exact rfl | assumption | ((try dsimp only); repeat' (first | assumption | (refine (if_neg (by decide)).trans ?_) | (exact if_pos (by decide))))
  k_with "my_mem_deep" => (repeat' (first | assumption | exact List.Mem.head _ | refine List.Mem.tail _ ?_))
  k_with "eval Name" => (k_here; k_dflt (refine' ldL ?k1 ?k2 ?_ ?k3 ?k4; (case k3 => rfl); (case k4 => rfl); (case k1 => k_asm); (case k2 => k_extra "my_m_look"); k_whole))
  k_with "eval Name" => (k_here; (with_reducible show wpAny _ _ (eval (Expr.Name _ _) (compEnvC _ _ _ _)) _ _ _); k_dflt (refine' lcf_cell ?N ?c ?m ?d ?_ ?a ?b; (case a => rfl); (case b => rfl); (case N => k_asm); (case c => rfl); (case m => k_extra "my_mem_deep"); (case d => assumption); k_whole))
  k_with "CompEnd" => refine StopIt.out ?_
  k_with "CompSrc" => refine StopIt.out ?_
  exact True.intro
theorem cast_map (bs : List Nat) : ∀ {n : Nat}, bs.length = n → (List.range n).map (fun i => ((bs.getD i 0 : Nat) : Int)) = bs.map fun c : Nat => (c : Int) := by
  intro n h
  subst h
  apply List.ext_getElem
  · rw [List.length_map, List.length_range, List.length_map]
  · intro i h1 h2
    rw [List.length_map] at h2
    rw [List.getElem_map, List.getElem_range, List.getElem_map, List.getD_eq_getElem?_getD, List.getElem?_eq_getElem h2]
    rfl
theorem law_s9 {t : Nat} (H : LawHyp w p loose mean mg mb gB LB sl vs ns) (F : Fr gB LB s.heap mm) (N : News gB LB s.heap (lawLed LB o1 o2 o3 o4 o5 o6 o7 o8 o9 o10 o11 ((cr, LCg.lst cs) :: (188, tabObj #[]) :: [])))
    (e5 : o5.data = .cell (some (.ref cr))) (e6 : o6.data = .cell (some (.int (t : Int) t6))) (ht : t ≤ 5) (hcs : IntsAre cs ((bsOf ns).map fun c : Nat => (c : Int)))
    (hoff : LCg.Off1 cr [(LB + 1, o1), (LB + 2, o2), (LB + 3, o3), (LB + 4, o4), (LB + 5, o5), (LB + 6, o6), (LB + 7, o7), (LB + 8, o8), (LB + 9, o9), (LB + 10, o10), (LB + 11, o11), (188, tabObj #[])])
    (next : ∀ h' tk' o5' D ys, Fr gB LB h' mm → News gB LB h' (lawLed LB o1 o2 o3 o4 o5' o6 o7 o8 o9 o10 o11 ((D, LCg.lst ys) :: (188, tabObj #[]) :: [])) → o5'.data = .cell (some (.ref D)) → IntsAre ys ((sentL (bsOf ns) t).map fun c : Nat => (c : Int)) →
      LCg.Off1 D [(LB + 1, o1), (LB + 2, o2), (LB + 3, o3), (LB + 4, o4), (LB + 5, o5), (LB + 6, o6), (LB + 7, o7), (LB + 8, o8), (LB + 9, o9), (LB + 10, o10), (LB + 11, o11), (cr, LCg.lst cs), (188, tabObj #[])] → wpAny (model rwl.prog w) (callerA.deeper (lawEnv LB fa cd)) (execs k (lawEnv LB fa cd)) Q E { s with heap := h', toks := tk' }) :
    (kF w.params).In gB → wpAny (model rwl.prog w) (callerA.deeper (lawEnv LB fa cd)) (execs (lawI k) (lawEnv LB fa cd)) Q E s := by
  k_fill
  intro X
  obtain ⟨B, T, _, C, hs, hI, hl, lb⟩ := H
  simp only [LCg.Off1, and_true] at hoff
  (((first | refine Mine.and23 hoff ?_ | refine Mine.and22 hoff ?_ | refine Mine.and21 hoff ?_ | refine Mine.and20 hoff ?_ | refine Mine.and19 hoff ?_ | refine Mine.and18 hoff ?_ | refine Mine.and17 hoff ?_ | refine Mine.and16 hoff ?_ | refine Mine.and15 hoff ?_ | refine Mine.and14 hoff ?_ | refine Mine.and13 hoff ?_ | refine Mine.and12 hoff ?_ | refine Mine.and11 hoff ?_); clear hoff; intros))
  have h8 := bsOf_len ns
  have hcl : cs.length = 8 := by rw [hcs.length, List.length_map, h8]
  unfold lawEnv lawS lawI
  unfold lawEnv lawS at next
  unfold lawLed at N
  k_steps
  unfold StopIt
  refine LCg.CompSrc.ledger (its := cs.toArray) (by rfl) (by assumption) (by assumption) (by k_extra "my_mem_deep") (by rw [List.size_toArray, hcl]; decide) ?_
  intro g
  refine comp_const (fun i y => ∃ u : Tok, y = Value.int (((sentL (bsOf ns) t).getD i 0 : Nat) : Int) u) ?_ ?_
  · intro i v I oI C oC D m₂ ys h tk E' hi hv hC hx F5 N5 off5 ne5
    obtain ⟨x, u, rfl, hx5⟩ := IntsAre.at hcs i v (by simpa using hv)
    have hg : x = (((bsOf ns).getD i 0 : Nat) : Int) := by
      rw [List.getElem?_map] at hx5
      rw [List.getD_eq_getElem?_getD]
      cases hh : (bsOf ns)[i]? with
      | none => rw [hh] at hx5; cases hx5
      | some c => rw [hh] at hx5; exact (Option.some.inj hx5).symm
    subst hg
    k_steps
    · rename 0 < _ => hpos
      have e2 : (((sentL (bsOf ns) t).getD i 0 : Nat) : Int) = (((bsOf ns).getD i 0 : Nat) : Int) + (t : Int) := by
        rw [sent_getD, if_pos (Int.natCast_pos.mp hpos)]
        exact Int.natCast_add _ _
      exact comp_end (by assumption) (by assumption) off5 (.inr ⟨_, by k_extra "my_mem_deep", rfl, _, rfl⟩) ⟨_, by rw [e2]⟩
    · rename ¬ 0 < _ => hneg
      have e2 : (((sentL (bsOf ns) t).getD i 0 : Nat) : Int) = 0 := by
        rw [sent_getD, if_neg (fun x => hneg (Int.natCast_pos.mpr x))]
        rfl
      exact comp_end (by assumption) (by assumption) off5 (.inr ⟨_, by k_extra "my_mem_deep", rfl, _, rfl⟩) ⟨_, by rw [e2]⟩
  · intro ys hlen hY D h tk F5 N5 off5
    have hoff5 := off5
    simp only [LCg.Off1, and_true] at off5
    (((first | refine Mine.and23 off5 ?_ | refine Mine.and22 off5 ?_ | refine Mine.and21 off5 ?_ | refine Mine.and20 off5 ?_ | refine Mine.and19 off5 ?_ | refine Mine.and18 off5 ?_ | refine Mine.and17 off5 ?_ | refine Mine.and16 off5 ?_ | refine Mine.and15 off5 ?_ | refine Mine.and14 off5 ?_ | refine Mine.and13 off5 ?_ | refine Mine.and12 off5 ?_ | refine Mine.and11 off5 ?_); clear off5; intros))
    have hys := ints_of ys _ hY
    rw [hlen, List.size_toArray, hcl, cast_map _ (by rw [sent_len, h8])] at hys
    k_steps
    rename News gB LB _ _ => NN
    rename Obj.data _ = Data.cell (some (Value.ref D)) => hd5
    refine next _ _ _ D ys (by assumption) ?led hd5 hys hoff5
    case led => (((try unfold lawLed); repeat' (first | exact news_nil | refine news_pick NN (by repeat' (first | exact List.Mem.head _ | refine List.Mem.tail _ ?_)) ?_ | exact news_rest NN (fun p hp => by repeat' (first | exact hp | refine List.Mem.tail _ ?_)))))
end
end Mine

end PartL12

section FlushL13
open PySem PySem.W PyProof.Rows PySem.Calls
namespace Mine
theorem start_L13 {prog : Program} {w : World} {A : Around} {E : Value → Shared → Prop} {s : Shared} {env : Env} {Q : Flow → Shared → Prop} (h : wpAny (model prog w) A (execs [] env) Q E s) : wpAny (model prog w) A (execs [] env) Q E s := by
  w_top off
  first | (walk1; fail) | exact h
end Mine
end FlushL13
section PartL13
open PySem PySem.W PyProof.Rows PySem.Calls
namespace Mine
noncomputable def yLawJ (k : List Stmt) : List Stmt := nth 14 yLawL :: k
noncomputable def lawJ (k : List Stmt) : List Stmt := (fun (o : List Stmt) (_ : yLawJ k = o) => o) _ (by dsimp only [yLawJ, yLawL, fB, fnBs, pw, PySem.Challenge.pw_ty0053_01, nth])
section
variable {w : World} {p : Program} {loose : List PySem.Str} {mean : ExcName → Option Value} {mg mb : Str → Option Value} {gB : Heap} {LB sl fa dr : Addr} {cd : Value} {vs ws : List Value} {ns : List Int} {s : Shared} {Q : Flow → Shared → Prop} {E : Value → Shared → Prop} {mm : Str → Option Value} {k : List Stmt} {o1 o2 o3 o4 o5 o6 o7 o8 o9 o10 o11 : Obj} {t1 t2 t3 t4 t5 t6 : Tok} {cr er : Addr} {cs : List Value} {rest : List (Addr × Obj)}
theorem kw_L13_1 : True := by
  k_with_none
  k_with "my_m_look" => first | exact rfl | assumption | ((try dsimp only); repeat' (first | assumption | (refine (if_neg (by decide)).trans ?_) | (exact if_pos (by decide))))
  k_with "my_mem_deep" => (repeat' (first | assumption | exact List.Mem.head _ | refine List.Mem.tail _ ?_))
  k_with "eval Name" => (k_here; k_dflt (refine' ldL ?k1 ?k2 ?_ ?k3 ?k4; (case k3 => rfl); (case k4 => rfl); (case k1 => k_asm); (case k2 => k_extra "my_m_look"); k_whole))
  k_with "eval Name" => (k_here; (with_reducible show wpAny _ _ (eval (Expr.Name _ _) (compEnvC _ _ _ _)) _ _ _); k_dflt (refine' lcf_cell ?N ?c ?m ?d ?_ ?a ?b; (case a => rfl); (case b => rfl); (case N => k_asm); (case c => rfl); (case m => k_extra "my_mem_deep"); (case d => assumption); k_whole))
  k_with "CompEnd" => refine StopIt.out ?_
  k_with "CompSrc" => refine StopIt.out ?_
  k_with "subscriptTail Name Name str int" => (k_here; (with_reducible show wpAny _ _ (subscriptTail _ _ (Value.str _ _) (Value.int _ _)) _ _ _); k_dflt (refine' item_l8 ?hj ?hi ?_; (case hj => exact (Int.zero_add _)); (case hi => assumption); k_whole); intro _ _)
  k_with "binaryOp Add str str" => (k_here; (with_reducible show wpAny _ _ (binaryOp Operator.Add (Value.str (PySem.Str.mk _) _) (Value.str (PySem.Str.mk _) _)) _ _ _); k_dflt (refine' add_tx ?hs ?_; (case hs => with_reducible assumption); k_whole); intro _ _)
  k_with "binaryOp Add str str" => (k_here; (with_reducible show wpAny _ _ (binaryOp Operator.Add (Value.str (PySem.Str.mk _) _) (Value.str (PySem.Str.ofString _) _)) _ _ _); k_dflt (refine' add_crlf ?hs ?_; (case hs => with_reducible assumption); k_whole); intro _ _)
  k_with "subscriptTail Name Name ref int" => (k_here; (with_reducible show wpAny _ _ (subscriptTail _ _ (Value.ref _) (Value.int _ _)) _ _ _); k_dflt (refine' item_cnt ?N ?hm ?hI ?h8 ?hj ?hi ?_; (case N => k_asm); (case hm => k_extra "my_mem_deep"); (case hI => assumption); (case h8 => assumption); (case hj => exact (Int.zero_add _)); (case hi => assumption); k_whole); intro _)
  k_with "binaryOp Mult str int" => (k_here; k_dflt (refine' mul_dots ?hc ?_; (case hc => with_reducible assumption); k_whole); intro _ _)
  exact True.intro
theorem law_s10 {t : Nat} (H : LawHyp w p loose mean mg mb gB LB sl vs ns) (F : Fr gB LB s.heap mm) (N : News gB LB s.heap (lawLed LB o1 o2 o3 o4 o5 o6 o7 o8 o9 o10 o11 ((cr, LCg.lst cs) :: (188, tabObj #[]) :: [])))
    (e2 : o2.data = .cell (some (.str (Str.ofString "abcdefgh") t2))) (e5 : o5.data = .cell (some (.ref cr))) (ht : t ≤ 5) (hcs : IntsAre cs ((sentL (bsOf ns) t).map fun c : Nat => (c : Int))) (mu : mm (Str.ofString "mail") = some (.str ⟨(rowsFrom crlf 0 (sentL (bsOf ns) t)).toArray⟩ t6))
    (hoff : LCg.Off1 cr [(LB + 1, o1), (LB + 2, o2), (LB + 3, o3), (LB + 4, o4), (LB + 5, o5), (LB + 6, o6), (LB + 7, o7), (LB + 8, o8), (LB + 9, o9), (LB + 10, o10), (LB + 11, o11), (188, tabObj #[])])
    (next : ∀ h' tk', Fr gB LB h' mm → News gB LB h' (lawLed LB o1 o2 o3 o4 o5 o6 o7 o8 o9 o10 o11 ((cr, LCg.lst cs) :: (188, tabObj #[]) :: [])) → wpAny (model rwl.prog w) (callerA.deeper (lawEnv LB fa cd)) (execs k (lawEnv LB fa cd)) Q E { s with heap := h', toks := tk' }) :
    (kF w.params).In gB → wpAny (model rwl.prog w) (callerA.deeper (lawEnv LB fa cd)) (execs (lawJ k) (lawEnv LB fa cd)) Q E s := by
  k_fill
  intro X
  obtain ⟨B, T, _, C, hs, hI, hl, lb⟩ := H
  simp only [LCg.Off1, and_true] at hoff
  (((first | refine Mine.and23 hoff ?_ | refine Mine.and22 hoff ?_ | refine Mine.and21 hoff ?_ | refine Mine.and20 hoff ?_ | refine Mine.and19 hoff ?_ | refine Mine.and18 hoff ?_ | refine Mine.and17 hoff ?_ | refine Mine.and16 hoff ?_ | refine Mine.and15 hoff ?_ | refine Mine.and14 hoff ?_ | refine Mine.and13 hoff ?_ | refine Mine.and12 hoff ?_ | refine Mine.and11 hoff ?_); clear hoff; intros))
  have h8 : (sentL (bsOf ns) t).length = 8 := by rw [sent_len]; exact bsOf_len ns
  unfold lawEnv lawS lawJ
  unfold lawEnv lawS at next
  unfold lawLed at N
  k_steps
  unfold StopIt
  refine LCg.CompSrc.range (n := 8) (by rfl) (by assumption) (by assumption) (by assumption) (by decide) (by rfl) (by decide) ?_
  intro g
  refine comp_const (fun i y => ∃ u : Tok, y = Value.str ⟨(rowOf (sentL (bsOf ns) t) crlf i).toArray⟩ u) ?_ ?_
  · intro i v I oI C oC D m₂ ys h tk E' hi hv hC hx F5 N5 off5 ne5
    obtain ⟨u, rfl⟩ := hv
    have hb5 := sent_le ns t i
    have y2 : (sentL (bsOf ns) t).getD i 0 ≤ 1000 := by omega
    have z1 : (List.replicate ((sentL (bsOf ns) t).getD i 0) 46).length + [97 + i].length ≤ 16777216 := by
      rw [List.length_replicate, List.length_singleton]; omega
    have z2 : (List.replicate ((sentL (bsOf ns) t).getD i 0) 46 ++ [97 + i]).length ≤ 2000 := by
      rw [List.length_append, List.length_replicate, List.length_singleton]; omega
    k_steps
    exact comp_end (by assumption) (by assumption) off5 trivial ⟨_, rfl⟩
  · intro ys hlen hY D h tk F5 N5 off5
    simp only [LCg.Off1, and_true] at off5
    (((first | refine Mine.and23 off5 ?_ | refine Mine.and22 off5 ?_ | refine Mine.and21 off5 ?_ | refine Mine.and20 off5 ?_ | refine Mine.and19 off5 ?_ | refine Mine.and18 off5 ?_ | refine Mine.and17 off5 ?_ | refine Mine.and16 off5 ?_ | refine Mine.and15 off5 ?_ | refine Mine.and14 off5 ?_ | refine Mine.and13 off5 ?_ | refine Mine.and12 off5 ?_ | refine Mine.and11 off5 ?_); clear off5; intros))
    k_steps
    refine join_rows (bs := sentL (bsOf ns) t) (e := crlf) h8 (fun i => ?_) crlf_len rfl ⟨_, (N5 _ (.head _)).1, rfl, _, rfl⟩ hlen hY fun t' k' => ?_
    · have := sent_le ns t i
      omega
    k_steps
    · exfalso
      rename _ = true => hne
      simp at hne
    · rename News gB LB _ _ => NN
      refine next _ _ (by assumption) ?led
      case led => (((try unfold lawLed); repeat' (first | exact news_nil | refine news_pick NN (by repeat' (first | exact List.Mem.head _ | refine List.Mem.tail _ ?_)) ?_ | exact news_rest NN (fun p hp => by repeat' (first | exact hp | refine List.Mem.tail _ ?_)))))
end
end Mine

end PartL13

section FlushK7
open PySem PySem.W PyProof.Rows PySem.Calls
namespace Mine
theorem start_K7 {prog : Program} {w : World} {A : Around} {E : Value → Shared → Prop} {s : Shared} {env : Env} {Q : Flow → Shared → Prop} (h : wpAny (model prog w) A (execs [] env) Q E s) : wpAny (model prog w) A (execs [] env) Q E s := by
  w_top off
  first | (walk1; fail) | exact h
end Mine
end FlushK7
section PartK7
open PySem PySem.W PyProof.Rows PySem.Calls
namespace Mine
theorem cut_at : ∀ (vs : List Value) (k : Nat) (y : Value), vs[k]? = some y → kl_cut vs k = some (vs.take k, y, vs.drop (k + 1))
  | [], _, _, h => by cases h
  | x :: r, 0, y, h => by cases h; rfl
  | x :: r, k + 1, y, h => by
    show (match kl_cut r k with | some (p, y, q) => some (x :: p, y, q) | none => none) = _
    rw [cut_at r k y h]
    rfl
theorem rep_flat (x : Value) : ∀ n : Nat, (List.replicate n [x]).flatten = List.replicate n x
  | 0 => rfl
  | n + 1 => by rw [List.replicate_succ, List.flatten_cons, rep_flat x n, List.replicate_succ]; rfl
theorem ints_erase {vs : List Value} {ns : List Int} (h : IntsAre vs ns) (k : Nat) : IntsAre (vs.take k ++ vs.drop (k + 1)) (ns.take k ++ ns.drop (k + 1)) := by
  induction h generalizing k with
  | nil => cases k <;> exact .nil
  | cons y t r ih =>
    cases k with
    | zero => exact r
    | succ k => exact .cons y t (ih k)
section
variable {prog : Program} {w : World} {A : Around} {E : Value → Shared → Prop} {s : Shared} {h₀ : Heap} {L : Addr} {m : Str → Option Value} {news : List (Addr × Obj)} {u : Tok} {Q : Value → Shared → Prop}
theorem extend_LK {D b : Addr} {its us : List Value} {c n2 : Nat} {G : Obj → List (Addr × Obj)} (F : Fr h₀ L s.heap m) (N : News h₀ L s.heap news) (hb : (b, listOf us.toArray n2) ∈ news) (U : UpdF D (listOf its.toArray c) news G) (hz : its.length + us.length ≤ 3000)
    (h : ∀ h' c', Fr h₀ L h' m → News h₀ L h' (G (listOf (its ++ us).toArray c')) → Q .none { s with heap := h' }) : wpAny (model prog w) A (call (.builtin "list.extend") [.ref D, .ref b]) Q E s := by
  obtain ⟨pre, post, rfl, hg, a, c9⟩ := U.split
  have z := N (D, listOf its.toArray c) (List.mem_append_right _ (.head _))
  have hsl : (3000 : Nat) ≤ sizeLine := by decide
  have hs1 : its.toArray.size = its.length := List.size_toArray
  have hs2 : us.toArray.size = us.length := List.size_toArray
  have hd : ¬(!its.toArray.isEmpty && Builtin.List.listTooLong (its.toArray.size + us.toArray.size)) = true := by
    have : Builtin.List.listTooLong (its.toArray.size + us.toArray.size) = false := by
      unfold Builtin.List.listTooLong
      rw [decide_eq_false_iff_not]
      omega
    rw [this, Bool.and_false]
    exact Bool.false_ne_true
  obtain ⟨c', hc'⟩ := upd_push z.1 (· ++ us.toArray)
  have e2 : its.toArray ++ us.toArray = (its ++ us).toArray := by simp
  rw [e2] at hc'
  have sb := Heap.SameBut.update s.heap D (Obj.mapSeq fun x => x ++ us.toArray)
  refine call_meets PySem.F.slot_list_extend ⟨_, z.1, rfl⟩ PySem.F.entry_list_extend (PySem.F.args_list_extend_2 _ _) (PySem.AutoSeq1.list_extend_list_list_0 D its.toArray c b us.toArray n2 hd (by omega) (by omega)) ⟨z.1, (N _ hb).1, h _ c' (F.change sb z.2.1 z.2.2) ?_⟩
  rw [hg]
  exact news_set N a c9 sb hc'
theorem rep_K {l : Addr} {k : Int} {t : Tok} {c n : Nat} (F : Fr h₀ L s.heap m) (N : News h₀ L s.heap news) (hm : (l, listOf #[.int k t] c) ∈ news) (hn : n ≤ 1000)
    (h : ∀ D h', Fr h₀ L h' m → News h₀ L h' ((D, listOf (List.replicate n (Value.int k t)).toArray 0) :: news) → (∀ p ∈ news, p.1 < D) → Q (.ref D) { s with heap := h' }) : wpAny (model prog w) A (binaryOp .Mult (.ref l) (.int (n : Int) u)) Q E s := by
  have hl : s.heap.IsList l [Value.int k t].toArray := led_list N hm
  refine KM.mul F N hl (.cons k t .nil) (by omega) (by omega) (by rw [Int.toNat_natCast]; exact Nat.le_trans (show [Value.int k t].length * n ≤ 1000 by simpa using hn) (by decide)) fun D h' F' N' l' _ _ _ _ _ _ => ?_
  have e : (List.replicate (n : Int).toNat [Value.int k t]).flatten = List.replicate n (Value.int k t) := by rw [Int.toNat_natCast, rep_flat]
  rw [e] at N'
  exact h D h' F' N' l'
theorem pop_K {D : Addr} {vs : List Value} {ns : List Int} {j : Int} {c : Nat} {G : Obj → List (Addr × Obj)} (F : Fr h₀ L s.heap m) (N : News h₀ L s.heap news) (U : UpdF D (listOf vs.toArray c) news G) (hi : IntsAre vs ns) (h0 : 0 ≤ j) (h1 : j < ns.length) (hz : ns.length ≤ 3000)
    (h : ∀ h' t c', Fr h₀ L h' m → News h₀ L h' (G (listOf (vs.take j.toNat ++ vs.drop (j.toNat + 1)).toArray c')) → IntsAre (vs.take j.toNat ++ vs.drop (j.toNat + 1)) (ns.take j.toNat ++ ns.drop (j.toNat + 1)) → Q (.int (ns.getD j.toNat 0) t) { s with heap := h' }) :
    wpAny (model prog w) A (call (.builtin "list.pop") [.ref D, .int j u]) Q E s := by
  have hlen := hi.length
  have hk : j.toNat < vs.length := by omega
  obtain ⟨x, t, e1, e2⟩ := IntsAre.at hi j.toNat (vs[j.toNat]) (List.getElem?_eq_getElem hk)
  have eg : ns.getD j.toNat 0 = x := by rw [List.getD_eq_getElem?_getD, e2]; rfl
  refine kl_popAt F N (by unfold Builtin.List.listFitsIndex; rw [Bool.and_eq_true, decide_eq_true_eq, decide_eq_true_eq]; omega) (k := j.toNat) ?_ (p := vs.take j.toNat) (y := .int x t) (q := vs.drop (j.toNat + 1)) ?_ (updF_upd U _) ?_ fun h' F' N' => ?_
  · unfold seqIndex?
    rw [List.size_toArray]
    dsimp only
    rw [if_neg (by omega : ¬ j < 0)]
    rw [if_pos (by rw [Bool.and_eq_true, decide_eq_true_eq, decide_eq_true_eq]; omega)]
  · show kl_cut vs j.toNat = _
    exact cut_at vs j.toNat _ (by rw [List.getElem?_eq_getElem hk, e1])
  · show vs.length ≤ sizeLine
    exact Nat.le_trans (show _ ≤ 3000 by omega) (by decide)
  · rw [← eg]
    exact h h' t _ F' N' (ints_erase hi j.toNat)
end
end Mine

end PartK7

section FlushL14
open PySem PySem.W PyProof.Rows PySem.Calls
namespace Mine
theorem start_L14 {prog : Program} {w : World} {A : Around} {E : Value → Shared → Prop} {s : Shared} {env : Env} {Q : Flow → Shared → Prop} (h : wpAny (model prog w) A (execs [] env) Q E s) : wpAny (model prog w) A (execs [] env) Q E s := by
  w_top off
  first | (walk1; fail) | exact h
end Mine
end FlushL14
section PartL14
open PySem PySem.W PyProof.Rows PySem.Calls
namespace Mine
noncomputable def yLawK (k : List Stmt) : List Stmt := nth 15 yLawL :: nth 16 yLawL :: k
noncomputable def lawK (k : List Stmt) : List Stmt := (fun (o : List Stmt) (_ : yLawK k = o) => o) _ (by dsimp only [yLawK, yLawL, fB, fnBs, pw, PySem.Challenge.pw_ty0053_01, nth])
section
variable {w : World} {p : Program} {loose : List PySem.Str} {mean : ExcName → Option Value} {mg mb : Str → Option Value} {gB : Heap} {LB sl fa dr : Addr} {cd : Value} {vs ws : List Value} {ns : List Int} {s : Shared} {Q : Flow → Shared → Prop} {E : Value → Shared → Prop} {mm : Str → Option Value} {k : List Stmt} {o1 o2 o3 o4 o5 o6 o7 o8 o9 o10 o11 : Obj} {t1 t2 t3 t4 t5 t6 : Tok} {cr er : Addr} {cs : List Value} {rest : List (Addr × Obj)}
theorem kw_L14_1 : True := by
  k_with_none
  k_with "my_m_look" => first | exact rfl | assumption | ((try dsimp only); repeat' (first | assumption | (refine (if_neg (by decide)).trans ?_) | (exact if_pos (by decide))))
  k_with "my_mem_deep" => (repeat' (first | assumption | exact List.Mem.head _ | refine List.Mem.tail _ ?_))
  k_with "eval Name" => (k_here; k_dflt (refine' ldL ?k1 ?k2 ?_ ?k3 ?k4; (case k3 => rfl); (case k4 => rfl); (case k1 => k_asm); (case k2 => k_extra "my_m_look"); k_whole))
  k_with "subscriptTail Name Name ref int" => (k_here; (with_reducible show wpAny _ _ (subscriptTail _ _ (Value.ref _) (Value.int _ _)) _ _ _); k_dflt (refine' item_cnt ?N ?hm ?hI ?h8 ?hj ?hi ?_; (case N => k_asm); (case hm => k_extra "my_mem_deep"); (case hI => assumption); (case h8 => assumption); (case hj => exact (Int.zero_add _)); (case hi => assumption); k_whole); intro _)
  k_with "exec For Name Call cons nil" => (k_here; k_dflt (refine for_start ?_))
  k_with "ForEnd" => refine StopIt.out ?_
  k_with "binaryOp Mult ref int" => ((k_here; (with_reducible show wpAny _ _ (binaryOp Operator.Mult (Value.ref _) (Value.int _ _)) _ _ _); k_dflt (refine' rep_K ?F ?N ?m ?n ?_; (case F => k_asm); (case N => k_asm); (case m => k_extra "my_mem_deep"); (case n => with_reducible assumption); k_whole); intro _ _ _ _ l1'; (try k_lt l1')); (revert l1'; intro _))
  k_with "call builtin:list.extend" => ((k_here; (with_reducible show wpAny _ _ (call (Value.builtin _) [Value.ref _, Value.ref _]) _ _ _); k_dflt (refine' extend_LK ?F ?N ?b ?U ?z ?_; (case F => k_asm); (case N => k_asm); (case b => k_extra "my_mem_deep"); (case U => k_updF); (case z => with_reducible assumption); k_whole); intro _ _ _ N'; (try dsimp only at N')); (revert N'; intro _))
  exact True.intro
noncomputable def carsTo (qs : List Nat) (i : Nat) : List Int := (List.range i).flatMap fun k => List.replicate (qs.getD k 0) (k : Int)
theorem carsTo_succ (qs : List Nat) (i : Nat) : carsTo qs (i + 1) = carsTo qs i ++ List.replicate (qs.getD i 0) (i : Int) := by
  unfold carsTo
  rw [List.range_succ, List.flatMap_append, List.flatMap_cons, List.flatMap_nil, List.append_nil]
theorem carsTo_len (qs : List Nat) (B : Nat) (h : ∀ i, qs.getD i 0 ≤ B) : ∀ i, (carsTo qs i).length ≤ B * i
  | 0 => Nat.zero_le _
  | i + 1 => by
    rw [carsTo_succ, List.length_append, List.length_replicate, Nat.mul_succ]
    exact Nat.add_le_add (carsTo_len qs B h i) (h i)
theorem ints_append {vs us : List Value} {a b : List Int} (h : IntsAre vs a) (g : IntsAre us b) : IntsAre (vs ++ us) (a ++ b) := by
  induction h with
  | nil => exact g
  | cons y t r ih => exact .cons y t ih
theorem ints_rep1 (k : Int) (t : Tok) : ∀ n : Nat, IntsAre (List.replicate n (Value.int k t)) (List.replicate n k)
  | 0 => .nil
  | n + 1 => .cons k t (ints_rep1 k t n)
inductive CarJ (qs : List Nat) (LB cr ca : Addr) (o1 o2 o3 o4 o5 o6 o7 o9 o10 o11 : Obj) (cs : List Value) (i : Nat) (mm : Str → Option Value) : List (Addr × Obj) → Prop
  | mk (vs : List Value) (kk : Nat) (o8 : Obj) (v8 : Option Value) (d8 : o8.data = .cell v8) (hv : IntsAre vs (carsTo qs i)) (mc : mm (Str.ofString "cars") = some (.ref ca)) : CarJ qs LB cr ca o1 o2 o3 o4 o5 o6 o7 o9 o10 o11 cs i mm (lawLed LB o1 o2 o3 o4 o5 o6 o7 o8 o9 o10 o11 ((ca, listOf (List.toArray vs) kk) :: (cr, LCg.lst cs) :: (188, tabObj #[]) :: []))
theorem law_s11 {t : Nat} {v8 : Option Value} (H : LawHyp w p loose mean mg mb gB LB sl vs ns) (hE : OwnE w LB fa cd E) (F : Fr gB LB s.heap mm) (N : News gB LB s.heap (lawLed LB o1 o2 o3 o4 o5 o6 o7 o8 o9 o10 o11 ((cr, LCg.lst cs) :: (188, tabObj #[]) :: [])))
    (e5 : o5.data = .cell (some (.ref cr))) (d8 : o8.data = .cell v8) (ht : t ≤ 5) (hcs : IntsAre cs ((sentL (bsOf ns) t).map fun c : Nat => (c : Int)))
    (hoff : LCg.Off1 cr [(LB + 1, o1), (LB + 2, o2), (LB + 3, o3), (LB + 4, o4), (LB + 5, o5), (LB + 6, o6), (LB + 7, o7), (LB + 8, o8), (LB + 9, o9), (LB + 10, o10), (LB + 11, o11), (188, tabObj #[])])
    (next : ∀ h' tk' mm' o8' v8' ca vs kk, Fr gB LB h' mm' → mm' (Str.ofString "cars") = some (.ref ca) → News gB LB h' (lawLed LB o1 o2 o3 o4 o5 o6 o7 o8' o9 o10 o11 ((ca, listOf (List.toArray vs) kk) :: (cr, LCg.lst cs) :: (188, tabObj #[]) :: [])) → o8'.data = .cell v8' → IntsAre vs (carsTo (sentL (bsOf ns) t) 8) →
      @LT.lt Nat _ (LB + 11) ca → @LT.lt Nat _ cr ca → wpAny (model rwl.prog w) (callerA.deeper (lawEnv LB fa cd)) (execs k (lawEnv LB fa cd)) Q E { s with heap := h', toks := tk' }) :
    (kF w.params).In gB → wpAny (model rwl.prog w) (callerA.deeper (lawEnv LB fa cd)) (execs (lawK k) (lawEnv LB fa cd)) Q E s := by
  k_fill
  intro X
  obtain ⟨B, T, _, C, hs, hI, hl, lb⟩ := H
  simp only [LCg.Off1, and_true] at hoff
  (((first | refine Mine.and23 hoff ?_ | refine Mine.and22 hoff ?_ | refine Mine.and21 hoff ?_ | refine Mine.and20 hoff ?_ | refine Mine.and19 hoff ?_ | refine Mine.and18 hoff ?_ | refine Mine.and17 hoff ?_ | refine Mine.and16 hoff ?_ | refine Mine.and15 hoff ?_ | refine Mine.and14 hoff ?_ | refine Mine.and13 hoff ?_ | refine Mine.and12 hoff ?_ | refine Mine.and11 hoff ?_); clear hoff; intros))
  have h8 : (sentL (bsOf ns) t).length = 8 := by rw [sent_len]; exact bsOf_len ns
  unfold lawEnv lawS lawK
  unfold OwnE lawEnv lawS at hE
  unfold lawEnv lawS at next
  unfold lawLed at N
  k_steps
  rename_i ca h2 lca F0 N0 tk0 h1 tk1 u1 u2 u3 a1 a2 NN a4
  have N9 := led_in NN
  refine and13 lca ?_
  clear lca
  intro p1 p2 p3 p4 p5 p6 p7 p8 p9 p10 p11 p12 p13
  k_dflt (refine' for_range (n := 8) (L := LB) (CarJ (sentL (bsOf ns) t) LB cr ca o1 o2 o3 o4 o5 o6 o7 o9 o10 o11 cs) rfl (by assumption) (by decide) (by rfl) rfl hE (fun _ _ => rfl) (by assumption) N9 ?h0 ?turn ?fin)
  case h0 => exact .mk [] 0 o8 v8 d8 .nil (by k_extra "my_m_look")
  case turn =>
    rintro I i t' oI mm nw h tk hi' ⟨vs', kk, o8, v8, d8, hv, mc⟩ off FF NN
    unfold lawLed at NN
    have off2 := off
    simp only [lawLed, List.forall_mem_cons] at off2
    refine and15 off2 ?_
    clear off2
    intro f1 f2 f3 f4 f5 f6 f7 f8 f9 f10 f11 f12 f13 f14 _
    have g12 : @Ne Nat ca I := f12
    have g8 : @Ne Nat (LB + 8) I := f8
    have hq := sent_le ns t i
    have y2 : (sentL (bsOf ns) t).getD i 0 ≤ 1000 := by omega
    have hlen := hv.length
    have hcl := carsTo_len (sentL (bsOf ns) t) 10 (fun i => Nat.le_trans (sent_le ns t i) (by omega)) i
    have z9 : vs'.length + (List.replicate ((sentL (bsOf ns) t).getD i 0) (Value.int (0 + (i : Int)) t')).length ≤ 3000 := by
      rw [List.length_replicate]; omega
    k_steps
    unfold StopIt
    dsimp only [ForEnd]
    rename_i c9 F9 NN2
    rename Obj.data _ = Data.cell (some (Value.int _ t')) => hd8
    have hcs2 := carsTo_succ (sentL (bsOf ns) t) i
    rw [← Int.zero_add (i : Int)] at hcs2
    refine ForNext.mk (lawLed LB o1 o2 o3 o4 o5 o6 o7 _ o9 o10 o11 ((ca, listOf (vs' ++ List.replicate ((sentL (bsOf ns) t).getD i 0) (Value.int (0 + (i : Int)) t')).toArray c9) :: (cr, LCg.lst cs) :: (188, tabObj #[]) :: [])) F9 ?N ?off (.mk _ _ _ _ hd8 ?zi (by k_extra "my_m_look"))
    case zi =>
      rw [hcs2]
      exact ints_append hv (ints_rep1 _ _ _)
    case off =>
      simp only [lawLed, List.forall_mem_cons]
      exact ⟨f1, f2, f3, f4, f5, f6, f7, f8, f9, f10, f11, f12, f13, f14, fun p h => nomatch h⟩
    case N => (((try unfold lawLed); repeat' (first | exact news_nil | refine news_pick NN2 (by repeat' (first | exact List.Mem.head _ | refine List.Mem.tail _ ?_)) ?_ | exact news_rest NN2 (fun p hp => by repeat' (first | exact hp | refine List.Mem.tail _ ?_)))))
  case fin =>
    rintro mm nw h tk ⟨vs', kk, o8', v8', d8', hv, mc⟩ FF NN
    dsimp only
    exact next _ _ _ _ _ _ _ _ FF mc NN d8' hv p11 p12
end
end Mine

end PartL14

section FlushL15
open PySem PySem.W PyProof.Rows PySem.Calls
namespace Mine
theorem start_L15 {prog : Program} {w : World} {A : Around} {E : Value → Shared → Prop} {s : Shared} {env : Env} {Q : Flow → Shared → Prop} (h : wpAny (model prog w) A (execs [] env) Q E s) : wpAny (model prog w) A (execs [] env) Q E s := by
  w_top off
  first | (walk1; fail) | exact h
end Mine
end FlushL15
section PartL15
open PySem PySem.W PyProof.Rows PySem.Calls
namespace Mine
noncomputable def yLawM (k : List Stmt) : List Stmt := nth 17 yLawL :: nth 18 yLawL :: nth 19 yLawL :: k
noncomputable def lawM (k : List Stmt) : List Stmt := (fun (o : List Stmt) (_ : yLawM k = o) => o) _ (by dsimp only [yLawM, yLawL, fB, fnBs, pw, PySem.Challenge.pw_ty0053_01, nth])
section
variable {w : World} {p : Program} {loose : List PySem.Str} {mean : ExcName → Option Value} {mg mb : Str → Option Value} {gB : Heap} {LB sl fa dr : Addr} {cd : Value} {vs ws : List Value} {ns : List Int} {s : Shared} {Q : Flow → Shared → Prop} {E : Value → Shared → Prop} {mm : Str → Option Value} {k : List Stmt} {o1 o2 o3 o4 o5 o6 o7 o8 o9 o10 o11 : Obj} {t1 t2 t3 t4 t5 t6 : Tok} {cr er : Addr} {cs : List Value} {rest : List (Addr × Obj)}
theorem kw_L15_1 : True := by
  k_with_none
  k_with "my_m_look" => first | exact rfl | assumption | ((try dsimp only); repeat' (first | assumption | (refine (if_neg (by decide)).trans ?_) | (exact if_pos (by decide))))
  k_with "my_mem_deep" => (repeat' (first | assumption | exact List.Mem.head _ | refine List.Mem.tail _ ?_))
  k_with "eval Name" => (k_here; k_dflt (refine' ldL ?k1 ?k2 ?_ ?k3 ?k4; (case k3 => rfl); (case k4 => rfl); (case k1 => k_asm); (case k2 => k_extra "my_m_look"); k_whole))
  k_with "exec While Name" => (k_here; k_dflt (refine loop_start ?_))
  k_with "call builtin:len" => (k_here; k_dflt (refine' len_ints ?a ?b ?c ?d ?_; (case a => k_asm); (case b => k_extra "my_mem_deep"); (case c => assumption); (case d => with_reducible assumption); k_whole))
  k_with "call builtin:list.pop" => ((k_here; (with_reducible show wpAny _ _ (call (Value.builtin _) [Value.ref _, Value.int _ _]) _ _ _); k_dflt (refine' pop_K ?F ?N ?U ?i ?h0 ?h1 ?z ?_; (case F => k_asm); (case N => k_asm); (case U => k_updF); (case i => assumption); (case h0 => with_reducible assumption); (case h1 => with_reducible assumption); (case z => with_reducible assumption); k_whole); intro _ _ _ _ N' _; (try dsimp only at N')); (revert N'; intro _))
  exact True.intro
theorem truth_cons {prog : Program} {w : World} {A : Around} {E : Value → Shared → Prop} {s : Shared} {h₀ : Heap} {L : Addr} {news : List (Addr × Obj)} {ra : Addr} {x : Value} {vs : List Value} {kk : Nat} {Q : Bool → Shared → Prop} (N : News h₀ L s.heap news) (hm : (ra, listOf (List.toArray (x :: vs)) kk) ∈ news) (hz : vs.length < 1000)
    (h : ∀ k, Q true { s with toks := k }) : wpAny (model prog w) A (truthy (.ref ra)) Q E s :=
  wpAny_truthy_list (led_list N hm) (by rw [List.size_toArray, List.length_cons]; omega) (h _)
theorem kw_L15_2 : True := by
  k_with "truthy ref" => (k_here; k_dflt (refine' truth_cons ?N ?m ?z ?_; (case N => k_asm); (case m => k_extra "my_mem_deep"); (case z => with_reducible assumption); k_whole); intro _)
  k_with "BoolIf" => first | refine ⟨fun hb' => ?_, fun hb' => Bool.noConfusion hb'⟩ | refine ⟨fun hb' => Bool.noConfusion hb', fun hb' => ?_⟩
  k_with "TurnEnd" => refine StopIt.out ?_
  exact True.intro
theorem take_perm {l : List Int} {j : Nat} (h : j < l.length) : ([l.getD j 0] ++ (l.take j ++ l.drop (j + 1))).Perm l := by
  have e : l.getD j 0 = l[j] := by rw [List.getD_eq_getElem?_getD, List.getElem?_eq_getElem h]; rfl
  have e2 : l = l.take j ++ l[j] :: l.drop (j + 1) := by
    conv => lhs; rw [← List.take_append_drop j l, List.drop_eq_getElem_cons h]
  rw [e]
  conv => rhs; rw [e2]
  show (l[j] :: (l.take j ++ l.drop (j + 1))).Perm _
  exact List.perm_middle.symm
theorem pop_perm (on : List Int) {l : List Int} {j : Nat} (h : j < l.length) : ((on ++ [l.getD j 0]) ++ (l.take j ++ l.drop (j + 1))).Perm (on ++ l) := by
  rw [List.append_assoc]
  exact (take_perm h).append_left on
theorem seed_nn {a : Int} (h : 0 ≤ a) : 0 ≤ a * 5 + 3 := by omega
theorem seed_lt {a P : Int} (h : a < 4000000 * P) : a * 5 + 3 < 4000000 * (P * 5) := by omega
theorem cut_lt {j n : Nat} (h : j < n) : min j n + (n - (j + 1)) < n := by omega
inductive SeedJ (full : List Int) (gB : Heap) (s : Shared) (LB ca oa : Addr) (o1 o2 o3 o4 o5 o6 o7 o8 o9 o10 o11 : Obj) (rest : List (Addr × Obj)) : Nat → Shared → Prop
  | mk (h : Heap) (tk : Nat) (mm : Str → Option Value) (vs : List Value) (us : Array Value) (cn on : List Int) (kc ko : Nat) (sd : Int) (ts : Tok) (F : Fr gB LB h mm) (N : News gB LB h (lawLed LB o1 o2 o3 o4 o5 o6 o7 o8 o9 o10 o11 ((oa, listOf us ko) :: (ca, listOf (List.toArray vs) kc) :: rest))) (hv : IntsAre vs cn) (hu : IntsAre us.toList on) (hp : (on ++ cn).Perm full)
    (m1 : mm (Str.ofString "cars") = some (.ref ca)) (m2 : mm (Str.ofString "order") = some (.ref oa)) (m3 : mm (Str.ofString "seed") = some (.int sd ts)) (s0 : 0 ≤ sd) (s1 : sd < 4000000 * 5 ^ on.length) : SeedJ full gB s LB ca oa o1 o2 o3 o4 o5 o6 o7 o8 o9 o10 o11 rest cn.length { s with heap := h, toks := tk }
theorem law_s12 {cn : List Int} {cv : List Value} {ca : Addr} {ck : Nat} (H : LawHyp w p loose mean mg mb gB LB sl vs ns) (hE : OwnE w LB fa cd E) (F : Fr gB LB s.heap mm) (N : News gB LB s.heap (lawLed LB o1 o2 o3 o4 o5 o6 o7 o8 o9 o10 o11 ((ca, listOf (List.toArray cv) ck) :: (cr, LCg.lst cs) :: (188, tabObj #[]) :: [])))
    (e1 : o1.data = .cell (some (.int (drawnL ns).sum t1))) (mc : mm (Str.ofString "cars") = some (.ref ca)) (hv : IntsAre cv cn) (hc8 : cn.length < 8) (hs0 : 0 ≤ (drawnL ns).sum) (hs1 : (drawnL ns).sum < 4000000)
    (l1 : @LT.lt Nat _ (LB + 11) ca) (l2 : @LT.lt Nat _ cr ca)
    (next : ∀ h' tk' mm' oa us on ko ca' us' ck', Fr gB LB h' mm' → mm' (Str.ofString "order") = some (.ref oa) → News gB LB h' (lawLed LB o1 o2 o3 o4 o5 o6 o7 o8 o9 o10 o11 ((oa, listOf us ko) :: (ca', listOf us' ck') :: (cr, LCg.lst cs) :: (188, tabObj #[]) :: [])) → IntsAre us.toList on → on.Perm cn →
      @LT.lt Nat _ (LB + 11) oa → @LT.lt Nat _ cr oa → wpAny (model rwl.prog w) (callerA.deeper (lawEnv LB fa cd)) (execs k (lawEnv LB fa cd)) Q E { s with heap := h', toks := tk' }) :
    (kF w.params).In gB → wpAny (model rwl.prog w) (callerA.deeper (lawEnv LB fa cd)) (execs (lawM k) (lawEnv LB fa cd)) Q E s := by
  k_fill
  intro X
  obtain ⟨B, T, _, C, hs, hI, hl, lb⟩ := H
  unfold lawEnv lawS lawM
  unfold OwnE lawEnv lawS at hE
  unfold lawEnv lawS at next
  unfold lawLed at N
  k_steps
  rename_i oa h2 loa tk0 h1 F1 N1
  have N9 := led_in N1
  refine and14 loa ?_
  clear loa
  intro p1 p2 p3 p4 p5 p6 p7 p8 p9 p10 p11 p12 p13 p14
  refine loop_ind (SeedJ cn gB s LB ca oa o1 o2 o3 o4 o5 o6 o7 o8 o9 o10 o11 ((cr, LCg.lst cs) :: (188, tabObj #[]) :: [])) hE ?turn cn.length ?h0
  case h0 => exact .mk _ _ _ cv #[] cn [] ck 0 _ _ F1 N9 hv .nil (List.Perm.refl _) (by k_extra "my_m_look") (by k_extra "my_m_look") (by k_extra "my_m_look") hs0 hs1
  case turn =>
    rintro _ _ ⟨h, tk, mm, vs', us, cn', on, kc, ko, sd, ts, FF, NN, hv', hu, hp, mc', mo, msd, s0, s1⟩
    unfold lawLed at NN
    have hpl := hp.length_eq
    rw [List.length_append] at hpl
    cases hv' with
    | nil =>
      k_steps
      rename Fr gB LB _ _ => FF2
      rename News gB LB _ _ => NN2
      dsimp only
      rw [List.append_nil] at hp
      exact next _ _ _ _ _ _ _ _ _ _ FF2 mo NN2 hu hp p11 p13
    | cons x tx hv'' =>
      rename_i vs'' cn''
      have hvc : IntsAre (Value.int x tx :: vs'') (x :: cn'') := .cons x tx hv''
      have hlc : (x :: cn'').length = cn''.length + 1 := rfl
      have hC8 : (x :: cn'').length < 8 := Nat.lt_of_le_of_lt (Nat.le.intro ((Nat.add_comm _ _).trans hpl)) hc8
      have hlenC : (x :: cn'').length < 1000 := Nat.lt_trans hC8 (by decide)
      have hpos : (0 : Int) < ((x :: cn'').length : Int) := Int.ofNat_lt.mpr (Nat.succ_pos _)
      have hj0 := Int.fmod_nonneg_of_pos sd hpos
      have hj1 := Int.fmod_lt_of_pos sd hpos
      have hvl := hv''.length
      have hzv : vs''.length < 1000 := hvl ▸ Nat.lt_trans (Nat.lt_succ_self _) hlenC
      have hz9 : (x :: cn'').length ≤ 3000 := Nat.le_of_lt (Nat.lt_trans hC8 (by decide))
      have hul := hu.length
      rw [Array.length_toList] at hul
      have huz : us.size ≤ sizeLine := Nat.le_trans (Nat.le_of_lt (Nat.lt_of_le_of_lt (Nat.le.intro (hul ▸ hpl)) hc8)) (by decide)
      k_steps
      unfold StopIt
      dsimp only [TurnEnd]
      rename Fr gB LB _ _ => FF2
      rename News gB LB _ _ => NN2
      rename IntsAre (_ ++ _) _ => hI9
      have hjl : (sd.fmod ((x :: cn'').length : Int)).toNat < (x :: cn'').length := (Int.toNat_lt hj0).mpr hj1
      refine ⟨_, ?zl, .mk _ _ _ _ _ _ (on ++ [(x :: cn'').getD (sd.fmod ((x :: cn'').length : Int)).toNat 0]) _ _ _ _ FF2 NN2 hI9 ?zu ?zp (by k_extra "my_m_look") (by k_extra "my_m_look") (by k_extra "my_m_look") (seed_nn s0) ?zs⟩
      case zu =>
        rw [Array.toList_push]
        exact ints_snoc hu
      case zl =>
        rw [List.length_append, List.length_take, List.length_drop]
        exact cut_lt hjl
      case zp => exact (pop_perm on hjl).trans hp
      case zs =>
        rw [List.length_append, List.length_singleton, Int.pow_succ]
        exact seed_lt s1
end
end Mine

end PartL15

section FlushL16
open PySem PySem.W PyProof.Rows PySem.Calls
namespace Mine
theorem start_L16 {prog : Program} {w : World} {A : Around} {E : Value → Shared → Prop} {s : Shared} {env : Env} {Q : Flow → Shared → Prop} (h : wpAny (model prog w) A (execs [] env) Q E s) : wpAny (model prog w) A (execs [] env) Q E s := by
  w_top off
  first | (walk1; fail) | exact h
end Mine
end FlushL16
section PartL16
open PySem PySem.W PyProof.Rows PySem.Calls
namespace Mine
noncomputable def yLawN (k : List Stmt) : List Stmt := nth 20 yLawL :: k
noncomputable def lawN (k : List Stmt) : List Stmt := (fun (o : List Stmt) (_ : yLawN k = o) => o) _ (by dsimp only [yLawN, yLawL, fB, fnBs, pw, PySem.Challenge.pw_ty0053_01, nth])
section
variable {w : World} {p : Program} {loose : List PySem.Str} {mean : ExcName → Option Value} {mg mb : Str → Option Value} {gB : Heap} {LB sl fa dr : Addr} {cd : Value} {vs ws : List Value} {ns : List Int} {s : Shared} {Q : Flow → Shared → Prop} {E : Value → Shared → Prop} {mm : Str → Option Value} {k : List Stmt} {o1 o2 o3 o4 o5 o6 o7 o8 o9 o10 o11 : Obj} {t1 t2 t3 t4 t5 t6 : Tok} {cr er : Addr} {cs : List Value} {rest : List (Addr × Obj)}
theorem kw_L16_1 : True := by
  k_with_none
  k_with "my_m_look" => first | exact rfl | assumption | ((try dsimp only); repeat' (first | assumption | (refine (if_neg (by decide)).trans ?_) | (exact if_pos (by decide))))
  k_with "my_mem_deep" => (repeat' (first | assumption | exact List.Mem.head _ | refine List.Mem.tail _ ?_))
  k_with "eval Name" => (k_here; k_dflt (refine' ldL ?k1 ?k2 ?_ ?k3 ?k4; (case k3 => rfl); (case k4 => rfl); (case k1 => k_asm); (case k2 => k_extra "my_m_look"); k_whole))
  k_with "call ref" => ((k_here; (with_reducible show wpAny _ _ (call (Value.ref 186) _) _ _ _); k_dflt (refine' sweep_ctr (Site.mk (by k_asm) (by k_asm) (by k_asm) (by k_asm) (by k_asm) rfl (by decide) (by decide)) ?hc ?hi ?h8 ?_ ?X; (case hc => k_extra "my_mem_deep"); (case hi => assumption); (case h8 => assumption); (case X => k_asm); k_whole); intro _ _ _ _ _ _ _ _ _ _ lf' _ l2'; (try k_lt lf'); (try k_lt l2')); (revert lf'; intro _); (revert l2'; intro _))
  exact True.intro
theorem sweep_cast (qs : List Nat) : sweepF (fun i => (qs.map fun c : Nat => (c : Int)).getD i 0) 16 = sweepL qs := by
  unfold sweepL
  congr 1
  funext i
  rw [List.getD_eq_getElem?_getD, List.getElem?_map, List.getD_eq_getElem?_getD]
  cases qs[i]? <;> rfl
theorem law_s13 {t : Nat} {oa : Addr} {us : Array Value} {ko : Nat} (H : LawHyp w p loose mean mg mb gB LB sl vs ns) (F : Fr gB LB s.heap mm) (N : News gB LB s.heap (lawLed LB o1 o2 o3 o4 o5 o6 o7 o8 o9 o10 o11 ((oa, listOf us ko) :: (cr, LCg.lst cs) :: (188, tabObj #[]) :: [])))
    (e5 : o5.data = .cell (some (.ref cr))) (d9 : ∃ v, o9.data = .cell v) (mo : mm (Str.ofString "order") = some (.ref oa)) (hcs : IntsAre cs ((sentL (bsOf ns) t).map fun c : Nat => (c : Int)))
    (hoff : LCg.Off1 cr [(LB + 1, o1), (LB + 2, o2), (LB + 3, o3), (LB + 4, o4), (LB + 5, o5), (LB + 6, o6), (LB + 7, o7), (LB + 8, o8), (LB + 9, o9), (LB + 10, o10), (LB + 11, o11), (188, tabObj #[])])
    (l1 : @LT.lt Nat _ (LB + 11) oa) (l2 : @LT.lt Nat _ cr oa)
    (next : ∀ h' tk' mm' tw o9' fr fs kf, Fr gB LB h' mm' → mm' (Str.ofString "order") = some (.ref oa) → mm' (Str.ofString "way") = some (.int (sweepL (sentL (bsOf ns) t)).2.1 tw) →
      News gB LB h' (lawLed LB o1 o2 o3 o4 o5 o6 o7 o8 o9' o10 o11 ((fr, listOf (List.toArray fs) kf) :: (oa, listOf us ko) :: (cr, LCg.lst cs) :: (188, tabObj #[]) :: [])) → o9'.data = .cell (some (.ref fr)) → IntsAre fs (sweepL (sentL (bsOf ns) t)).1 →
      @LT.lt Nat _ (LB + 11) fr → @LT.lt Nat _ cr fr → @LT.lt Nat _ oa fr → wpAny (model rwl.prog w) (callerA.deeper (lawEnv LB fa cd)) (execs k (lawEnv LB fa cd)) Q E { s with heap := h', toks := tk' }) :
    (kF w.params).In gB → wpAny (model rwl.prog w) (callerA.deeper (lawEnv LB fa cd)) (execs (lawN k) (lawEnv LB fa cd)) Q E s := by
  k_fill
  intro X
  obtain ⟨B, T, _, C, hs, hI, hl, lb⟩ := H
  obtain ⟨v9, d9⟩ := d9
  simp only [LCg.Off1, and_true] at hoff
  (((first | refine Mine.and23 hoff ?_ | refine Mine.and22 hoff ?_ | refine Mine.and21 hoff ?_ | refine Mine.and20 hoff ?_ | refine Mine.and19 hoff ?_ | refine Mine.and18 hoff ?_ | refine Mine.and17 hoff ?_ | refine Mine.and16 hoff ?_ | refine Mine.and15 hoff ?_ | refine Mine.and14 hoff ?_ | refine Mine.and13 hoff ?_ | refine Mine.and12 hoff ?_ | refine Mine.and11 hoff ?_); clear hoff; intros))
  have h8 : ((sentL (bsOf ns) t).map fun c : Nat => (c : Int)).length = 8 := by rw [List.length_map, sent_len]; exact bsOf_len ns
  unfold lawEnv lawS lawN
  unfold lawEnv lawS at next
  unfold lawLed at N
  k_steps
  rename_i D9 fr9 ws9 kf9 tw9 h3 tk9 hI9 lD9 lf9 l29 h2 h1 o9' hd9 h0 F9 N9
  rw [sweep_cast] at hI9
  rw [sweep_cast] at F9
  refine next _ _ _ tw9 o9' fr9 ws9 kf9 F9 (by k_extra "my_m_look") (by k_extra "my_m_look") ?led hd9 hI9 lf9.2.2.2.2.2.2.2.2.2.2.1 lf9.2.2.2.2.2.2.2.2.2.2.2.2.1 lf9.2.2.2.2.2.2.2.2.2.2.2.1
  case led => (((try unfold lawLed); repeat' (first | exact news_nil | refine news_pick N9 (by repeat' (first | exact List.Mem.head _ | refine List.Mem.tail _ ?_)) ?_ | exact news_rest N9 (fun p hp => by repeat' (first | exact hp | refine List.Mem.tail _ ?_)))))
end
end Mine

end PartL16

section FlushL17
open PySem PySem.W PyProof.Rows PySem.Calls
namespace Mine
theorem start_L17 {prog : Program} {w : World} {A : Around} {E : Value → Shared → Prop} {s : Shared} {env : Env} {Q : Flow → Shared → Prop} (h : wpAny (model prog w) A (execs [] env) Q E s) : wpAny (model prog w) A (execs [] env) Q E s := by
  w_top off
  first | (walk1; fail) | exact h
end Mine
end FlushL17
section PartL17
open PySem PySem.W PyProof.Rows PySem.Calls
namespace Mine
noncomputable def yLawO (k : List Stmt) : List Stmt := nth 21 yLawL :: k
noncomputable def lawO (k : List Stmt) : List Stmt := (fun (o : List Stmt) (_ : yLawO k = o) => o) _ (by dsimp only [yLawO, yLawL, fB, fnBs, pw, PySem.Challenge.pw_ty0053_01, nth])
section
variable {w : World} {p : Program} {loose : List PySem.Str} {mean : ExcName → Option Value} {mg mb : Str → Option Value} {gB : Heap} {LB sl fa dr : Addr} {cd : Value} {vs ws : List Value} {ns : List Int} {s : Shared} {Q : Flow → Shared → Prop} {E : Value → Shared → Prop} {mm : Str → Option Value} {k : List Stmt} {o1 o2 o3 o4 o5 o6 o7 o8 o9 o10 o11 : Obj} {t1 t2 t3 t4 t5 t6 : Tok} {cr er : Addr} {cs : List Value} {rest : List (Addr × Obj)}
theorem kw_L17_1 : True := by
  k_with_none
  k_with "my_m_look" => first | exact rfl | assumption | ((try dsimp only); repeat' (first | assumption | (refine (if_neg (by decide)).trans ?_) | (exact if_pos (by decide))))
  k_with "my_mem_deep" => (repeat' (first | assumption | exact List.Mem.head _ | refine List.Mem.tail _ ?_))
  k_with "eval Name" => (k_here; k_dflt (refine' ldL ?k1 ?k2 ?_ ?k3 ?k4; (case k3 => rfl); (case k4 => rfl); (case k1 => k_asm); (case k2 => k_extra "my_m_look"); k_whole))
  k_with "call ref" => ((k_here; (with_reducible show wpAny _ _ (call (Value.ref 191) _) _ _ _); k_dflt (refine' parked_ctr (Site.mk (by k_asm) (by k_asm) (by k_asm) (by k_asm) (by k_asm) rfl (by decide) (by decide)) ?hC ?hr ?hm ?hi ?hn ?hl ?hp ?hd ?hu ?_ ?X; (case hC => assumption); (case hr => assumption); (case hm => k_extra "my_mem_deep"); (case hi => assumption); (case hn => rfl); (case hl => assumption); (case hp => assumption); (case hd => decide); (case hu => decide); (case X => k_asm); k_whole); intro _ _ _ _ _ _ _ _ _ _ _ _ _ l2'; (try k_lt l2')); (revert l2'; intro _))
  exact True.intro
theorem law_s14 {oa fr : Addr} {us fs : List Value} {ko kf : Nat} {cars : List Nat} {S wy : Nat} (H : LawHyp w p loose mean mg mb gB LB sl vs ns) (F : Fr gB LB s.heap mm) (N : News gB LB s.heap (lawLed LB o1 o2 o3 o4 o5 o6 o7 o8 o9 o10 o11 ((fr, listOf fs.toArray kf) :: (oa, listOf us.toArray ko) :: (cr, LCg.lst cs) :: (188, tabObj #[]) :: [])))
    (e1 : o1.data = .cell (some (.int (drawnL ns).sum t1))) (mo : mm (Str.ofString "order") = some (.ref oa)) (mw : mm (Str.ofString "way") = some (.int (wy : Int) t2)) (hu : IntsAre us (cars.map fun c : Nat => (c : Int))) (hcl : cars.length < 8) (hpk : parkAll cars = some (S, wy))
    (hoff : LCg.Off1 cr [(LB + 1, o1), (LB + 2, o2), (LB + 3, o3), (LB + 4, o4), (LB + 5, o5), (LB + 6, o6), (LB + 7, o7), (LB + 8, o8), (LB + 9, o9), (LB + 10, o10), (LB + 11, o11), (188, tabObj #[])])
    (l1 : @LT.lt Nat _ (LB + 11) oa) (l2 : @LT.lt Nat _ (LB + 11) fr)
    (next : ∀ h' tk' mm' tw fl vs ku ps, Fr gB LB h' mm' → mm' (Str.ofString "way") = some (.int (wy : Int) t2) → mm' (Str.ofString "hues") = some (.ref fl) → mm' (Str.ofString "driven") = some (.int (wy : Int) tw) →
      News gB LB h' (lawLed LB o1 o2 o3 o4 o5 o6 o7 o8 o9 o10 o11 ((fl, listOf (List.toArray vs) ku) :: (fr, listOf fs.toArray kf) :: (cr, LCg.lst cs) :: (188, tabObj ps) :: [])) → EighthsAre vs (hsOf S) →
      wpAny (model rwl.prog w) (callerA.deeper (lawEnv LB fa cd)) (execs k (lawEnv LB fa cd)) Q E { s with heap := h', toks := tk' }) :
    (kF w.params).In gB → wpAny (model rwl.prog w) (callerA.deeper (lawEnv LB fa cd)) (execs (lawO k) (lawEnv LB fa cd)) Q E s := by
  k_fill
  intro X
  obtain ⟨B, T, _, C, hs, hI, hl, lb⟩ := H
  simp only [LCg.Off1, and_true] at hoff
  refine and12 hoff ?_
  clear hoff
  intro g1 g2 g3 g4 g5 g6 g7 g8 g9 g10 g11 hoff
  unfold lawEnv lawS lawO
  unfold lawEnv lawS at next
  unfold lawLed at N
  have N2 : News gB LB s.heap ((188, tabObj #[]) :: (LB + 1, o1) :: (LB + 2, o2) :: (LB + 3, o3) :: (LB + 4, o4) :: (LB + 5, o5) :: (LB + 6, o6) :: (LB + 7, o7) :: (LB + 8, o8) :: (LB + 9, o9) :: (LB + 10, o10) :: (LB + 11, o11) :: (fr, listOf fs.toArray kf) :: (oa, listOf us.toArray ko) :: (cr, LCg.lst cs) :: []) := by (((try unfold lawLed); repeat' (first | exact news_nil | refine news_pick N (by repeat' (first | exact List.Mem.head _ | refine List.Mem.tail _ ?_)) ?_ | exact news_rest N (fun p hp => by repeat' (first | exact hp | refine List.Mem.tail _ ?_)))))
  clear N
  have hr : ∀ p ∈ (LB + 1, o1) :: (LB + 2, o2) :: (LB + 3, o3) :: (LB + 4, o4) :: (LB + 5, o5) :: (LB + 6, o6) :: (LB + 7, o7) :: (LB + 8, o8) :: (LB + 9, o9) :: (LB + 10, o10) :: (LB + 11, o11) :: (fr, listOf fs.toArray kf) :: (oa, listOf us.toArray ko) :: (cr, LCg.lst cs) :: [], p.1 ≠ 188 := by
    have h12 := hoff
    have a1 : @Ne Nat (LB + 1) 188 := Nat.ne_of_gt (Nat.lt_add_right 1 lb)
    have a2 : @Ne Nat (LB + 2) 188 := Nat.ne_of_gt (Nat.lt_add_right 2 lb)
    have a3 : @Ne Nat (LB + 3) 188 := Nat.ne_of_gt (Nat.lt_add_right 3 lb)
    have a4 : @Ne Nat (LB + 4) 188 := Nat.ne_of_gt (Nat.lt_add_right 4 lb)
    have a5 : @Ne Nat (LB + 5) 188 := Nat.ne_of_gt (Nat.lt_add_right 5 lb)
    have a6 : @Ne Nat (LB + 6) 188 := Nat.ne_of_gt (Nat.lt_add_right 6 lb)
    have a7 : @Ne Nat (LB + 7) 188 := Nat.ne_of_gt (Nat.lt_add_right 7 lb)
    have a8 : @Ne Nat (LB + 8) 188 := Nat.ne_of_gt (Nat.lt_add_right 8 lb)
    have a9 : @Ne Nat (LB + 9) 188 := Nat.ne_of_gt (Nat.lt_add_right 9 lb)
    have a10 : @Ne Nat (LB + 10) 188 := Nat.ne_of_gt (Nat.lt_add_right 10 lb)
    have a11 : @Ne Nat (LB + 11) 188 := Nat.ne_of_gt (Nat.lt_add_right 11 lb)
    have a12 : @Ne Nat fr 188 := Nat.ne_of_gt (Nat.lt_trans (Nat.lt_add_right 11 lb) (by assumption))
    have a13 : @Ne Nat oa 188 := Nat.ne_of_gt (Nat.lt_trans (Nat.lt_add_right 11 lb) (by assumption))
    simp only [List.forall_mem_cons]
    exact ⟨a1, a2, a3, a4, a5, a6, a7, a8, a9, a10, a11, a12, a13, Ne.symm h12, fun p h => nomatch h⟩
  k_steps
  rename_i D9 fl9 us9 ku9 tw9 ps9 h3 tk9 hI9 lf9 lD9 l29 h2 h1 h0 F9 N9
  refine next _ _ _ tw9 fl9 us9 ku9 ps9 F9 (by k_extra "my_m_look") (by k_extra "my_m_look") (by k_extra "my_m_look") ?led hI9
  case led => (((try unfold lawLed); repeat' (first | exact news_nil | refine news_pick N9 (by repeat' (first | exact List.Mem.head _ | refine List.Mem.tail _ ?_)) ?_ | exact news_rest N9 (fun p hp => by repeat' (first | exact hp | refine List.Mem.tail _ ?_)))))
end
end Mine

end PartL17

section FlushK9
open PySem PySem.W PyProof.Rows PySem.Calls
namespace Mine
theorem start_K9 {prog : Program} {w : World} {A : Around} {E : Value → Shared → Prop} {s : Shared} {env : Env} {Q : Flow → Shared → Prop} (h : wpAny (model prog w) A (execs [] env) Q E s) : wpAny (model prog w) A (execs [] env) Q E s := by
  w_top off
  first | (walk1; fail) | exact h
end Mine
end FlushK9
section PartK9
open PySem PySem.W PyProof.Rows PySem.Calls PySem.SeqAt
namespace Mine
noncomputable def dictEs (o : Obj) : Array DictEntry := match o.data with | .dict es _ => es | _ => #[]
noncomputable def dictEp (o : Obj) : Nat := match o.data with | .dict _ n => n | _ => 0
noncomputable def strKeyB (e : DictEntry) : Bool := match e.key with | .str _ _ => true | _ => false
theorem strKeys_of {es : Array DictEntry} (h : es.all strKeyB = true) : StrKeys es := by
  intro e he
  rw [Array.all_eq_true_iff_forall_mem] at h
  have hb := h e he
  unfold strKeyB at hb
  split at hb
  · rename_i n t hk
    exact ⟨n, t, hk⟩
  · cases hb
theorem o2_keys (P : Params) : (dictEs (o2 P)).all strKeyB = true := by kernel_rfl
theorem o2_none (P : Params) : nsFind (dictEs (o2 P)) sharingNotToldKey = none := by kernel_rfl
theorem kF_2 (P : Params) : (kF P).lookup 2 = some (o2 P) := by rfl
theorem none_booked {P : Params} {h : Heap} (X : (kF P).In h) : NoneBooked h :=
  ⟨nsFind (dictEs (o2 P)), ⟨o2 P, dictEs (o2 P), dictEp (o2 P), X _ _ (kF_2 P), rfl, strKeys_of (o2_keys P), fun _ => rfl⟩, o2_none P⟩
theorem isSame_float {M : Model} {A : Around} {E : Value → Shared → Prop} {s : Shared} {a b : UInt64} {t u : Tok} {Q : Bool → Shared → Prop} (hb : NoneBooked s.heap) (ht : t ≠ 0) (hu : u ≠ 0) (hq : ∀ b, Q b s) : wpAny M A (isSame (.float a t) (.float b u)) Q E s := by
  have h0 : (t == 0 || u == 0) = false := by
    rw [Bool.or_eq_false_iff, beq_eq_false_iff_ne, beq_eq_false_iff_ne]
    exact ⟨ht, hu⟩
  show wpAny M A (isSame.created (a == b && !Float64.isNaN a) t u) Q E s
  cases a == b && !Float64.isNaN a with
  | true => exact wpAny_isSame_str (y := ⟨#[]⟩) (z := ⟨#[]⟩) h0 hb hq
  | false => exact wpAny_isSame_str (y := ⟨#[]⟩) (z := ⟨#[1]⟩) h0 hb hq
theorem EqAt.float_same {A : Around} {s : Shared} {a : UInt64} {t u : Tok} (hb : NoneBooked s.heap) (ht : t ≠ 0) (hu : u ≠ 0) (h : Float64.cmp a a = some Ordering.eq) : EqAt A s (.float a t) (.float a u) true := fun prog w E Q hq => by
  unfold eqBool
  refine wpAny_holding ?_
  refine wpAny_ite_split (fun _ => wpAny_bind (wpAny_rule (wpAny_pure hq))) (fun _ => ?_)
  have e : (Float64.cmp a a == some Ordering.eq) = true := by rw [h]; rfl
  refine wpAny_bind (isSame_float hb ht hu fun b => ?_)
  cases b with
  | true => exact wpAny_pure hq
  | false => exact wpAny_bind (show wpAny (model prog w) A (compareOp .Eq (.float a t) (.float a u)) _ E s from AutoFloatOps.eq_0 (by rw [e]; exact wpAny_truthy_bool hq))
end Mine

end PartK9

section FlushK8
open PySem PySem.W PyProof.Rows PySem.Calls
namespace Mine
theorem start_K8 {prog : Program} {w : World} {A : Around} {E : Value → Shared → Prop} {s : Shared} {env : Env} {Q : Flow → Shared → Prop} (h : wpAny (model prog w) A (execs [] env) Q E s) : wpAny (model prog w) A (execs [] env) Q E s := by
  w_top off
  first | (walk1; fail) | exact h
end Mine
end FlushK8
section PartK8
open PySem PySem.W PyProof.Rows PySem.Calls PySem.SeqAt
namespace Mine
theorem ints_kf {vs : List Value} {ns : List Int} (h : IntsAre vs ns) : kf_ints vs = true := by
  induction h with
  | nil => rfl
  | cons k t r ih => exact ih
theorem ints_any {vs : List Value} {ns : List Int} (k : Int) (h : IntsAre vs ns) : vs.any (isInt k) = ns.contains k := by
  induction h with
  | nil => rfl
  | cons x t r ih =>
    rw [List.any_cons, ih, List.contains_cons]
    congr 1
    show (x == k) = (k == x)
    exact BEq.comm
section
variable {prog : Program} {w : World} {A : Around} {E : Value → Shared → Prop} {s : Shared} {h₀ : Heap} {L : Addr} {news : List (Addr × Obj)} {Q : Value → Shared → Prop} {D : Addr} {vs : List Value} {ns : List Int} {n : Nat} {k : Int} {t : Tok} {b : Bool}
theorem notin_K (N : News h₀ L s.heap news) (hm : (D, listOf vs.toArray n) ∈ news) (hi : IntsAre vs ns) (hb : (!ns.contains k) = b) (h : Q (.bool b) s) : wpAny (model prog w) A (compareOp .NotIn (.int k t) (.ref D)) Q E s :=
  kf_notin N hm (show kf_ints vs = true from ints_kf hi) (show (!vs.any (isInt k)) = b by rw [ints_any k hi]; exact hb) h
theorem in_K (N : News h₀ L s.heap news) (hm : (D, listOf vs.toArray n) ∈ news) (hi : IntsAre vs ns) (hb : ns.contains k = b) (h : Q (.bool b) s) : wpAny (model prog w) A (compareOp .In (.int k t) (.ref D)) Q E s :=
  kf_in N hm (show kf_ints vs = true from ints_kf hi) (show vs.any (isInt k) = b by rw [ints_any k hi]; exact hb) h
end
theorem eighth_cmp : ∀ k : Fin 8, Float64.cmp (eighthF ((k.val : Nat) : Int)) (eighthF ((k.val : Nat) : Int)) = some Ordering.eq := by decide +kernel
theorem hs_getD_lt (S i : Nat) : (hsOf S).getD i 0 < 8 := by
  rw [List.getD_eq_getElem?_getD]
  cases e : (hsOf S)[i]? with
  | none => exact (by decide : (0 : Nat) < 8)
  | some h =>
    have hm := List.mem_of_getElem? e
    unfold hsOf at hm
    exact List.mem_range.mp (List.mem_filter.mp hm).1
theorem all_true (n : Nat) : (List.range n).all (fun _ => true) = true := by
  rw [List.all_eq_true]
  exact fun _ _ => rfl
theorem ne_eighths {prog : Program} {w : World} {A : Around} {E : Value → Shared → Prop} {s : Shared} {Q : Value → Shared → Prop} {a b : Addr} {us vs : List Value} {S : Nat} (hB : NoneBooked s.heap) (ha : s.heap.IsList a us.toArray) (hb : s.heap.IsList b vs.toArray) (hu : EighthsAre us (hsOf S)) (hv : EighthsAre vs (hsOf S)) (hA : A.units < cLine) (h : Q (.bool false) s) :
    wpAny (model prog w) A (compareOp .NotEq (.ref a) (.ref b)) Q E s := by
  have hsz : us.toArray.size = vs.toArray.size := by rw [List.size_toArray, List.size_toArray, hu.1, hv.1]
  refine EqBoolInt.of_rcne (RcNeAt.lists (e := fun _ => true) ha hb hsz hA fun j h1 h2 => ?_) ?_
  · have e1 : us[j]? = some us.toArray[j] := by simp at h1 ⊢
    have e2 : vs[j]? = some vs.toArray[j] := by simp at h2 ⊢
    obtain ⟨t, zt, et⟩ := hu.2 j _ e1
    obtain ⟨u, zu, eu⟩ := hv.2 j _ e2
    rw [et, eu]
    exact EqAt.float_same hB zt zu (eighth_cmp ⟨_, hs_getD_lt S j⟩)
  · rw [all_true]
    exact h
theorem eighths_snoc {ys : List Value} {hs : List Nat} {h : Nat} {t : Tok} (ht : t ≠ 0) (x : EighthsAre ys hs) : EighthsAre (ys ++ [.float (eighthF ((h : Nat) : Int)) t]) (hs ++ [h]) := by
  refine ⟨by rw [List.length_append, List.length_append, x.1]; rfl, fun j y hy => ?_⟩
  by_cases hj : j < ys.length
  · rw [List.getElem?_append_left hj] at hy
    obtain ⟨t, z, e⟩ := x.2 j y hy
    refine ⟨t, z, ?_⟩
    rw [e, List.getD_eq_getElem?_getD, List.getD_eq_getElem?_getD, List.getElem?_append_left (by rw [← x.1]; exact hj)]
  · rw [List.getElem?_append_right (by omega)] at hy
    cases hh : j - ys.length with
    | zero =>
      rw [hh] at hy
      refine ⟨t, ht, ?_⟩
      rw [List.getD_eq_getElem?_getD, List.getElem?_append_right (by rw [← x.1]; omega), ← x.1, hh]
      exact (Option.some.inj hy).symm
    | succ q => rw [hh] at hy; cases hy
end Mine

end PartK8

section FlushL18
open PySem PySem.W PyProof.Rows PySem.Calls
namespace Mine
theorem start_L18 {prog : Program} {w : World} {A : Around} {E : Value → Shared → Prop} {s : Shared} {env : Env} {Q : Flow → Shared → Prop} (h : wpAny (model prog w) A (execs [] env) Q E s) : wpAny (model prog w) A (execs [] env) Q E s := by
  w_top off
  first | (walk1; fail) | exact h
end Mine
end FlushL18
section PartL18
open PySem PySem.W PyProof.Rows PySem.Calls
namespace Mine
noncomputable def yLawP (k : List Stmt) : List Stmt := nth 22 yLawL :: k
noncomputable def lawP (k : List Stmt) : List Stmt := (fun (o : List Stmt) (_ : yLawP k = o) => o) _ (by dsimp only [yLawP, yLawL, fB, fnBs, pw, PySem.Challenge.pw_ty0053_01, nth])
section
variable {w : World} {p : Program} {loose : List PySem.Str} {mean : ExcName → Option Value} {mg mb : Str → Option Value} {gB : Heap} {LB sl fa dr : Addr} {cd : Value} {vs ws : List Value} {ns : List Int} {s : Shared} {Q : Flow → Shared → Prop} {E : Value → Shared → Prop} {mm : Str → Option Value} {k : List Stmt} {o1 o2 o3 o4 o5 o6 o7 o8 o9 o10 o11 : Obj} {t1 t2 t3 t4 t5 t6 : Tok} {cr er : Addr} {cs : List Value} {rest : List (Addr × Obj)}
theorem kw_L18_1 : True := by
  k_with_none
  k_with "my_m_look" => first | exact rfl | assumption | ((try dsimp only); repeat' (first | assumption | (refine (if_neg (by decide)).trans ?_) | (exact if_pos (by decide))))
  k_with "my_mem_deep" => (repeat' (first | assumption | exact List.Mem.head _ | refine List.Mem.tail _ ?_))
  k_with "eval Name" => (k_here; k_dflt (refine' ldL ?k1 ?k2 ?_ ?k3 ?k4; (case k3 => rfl); (case k4 => rfl); (case k1 => k_asm); (case k2 => k_extra "my_m_look"); k_whole))
  k_with "eval Name" => (k_here; (with_reducible show wpAny _ _ (eval (Expr.Name _ _) (compEnvC _ _ _ _)) _ _ _); k_dflt (refine' lcf_cell ?N ?c ?m ?d ?_ ?a ?b; (case a => rfl); (case b => rfl); (case N => k_asm); (case c => rfl); (case m => k_extra "my_mem_deep"); (case d => assumption); k_whole))
  k_with "CompEnd" => refine StopIt.out ?_
  k_with "CompSrcT" => refine StopIt.out ?_
  k_with "compareOp NotIn int ref" => (k_here; k_dflt (refine' notin_K ?N ?m ?i ?b ?_; (case N => k_asm); (case m => k_extra "my_mem_deep"); (case i => assumption); (case b => assumption); k_whole))
  k_with "binaryOp Div int int" => (k_here; k_dflt (refine' div8 ?A ?h ?_; (case A => rfl); (case h => assumption); k_whole))
  k_with "compareOp NotEq ref ref" => refine StopIt.out ?_
  exact True.intro
noncomputable def busyL (free : List Int) (i : Nat) : List Nat := (List.range i).filter fun k : Nat => !free.contains ((k : Nat) : Int)
theorem busy_in {free : List Int} {i : Nat} (h : (!free.contains ((i : Nat) : Int)) = true) : busyL free (i + 1) = busyL free i ++ [i] := by
  unfold busyL
  rw [List.range_succ, List.filter_append, List.filter_cons, if_pos h]
  rfl
theorem busy_out {free : List Int} {i : Nat} (h : (!free.contains ((i : Nat) : Int)) = false) : busyL free (i + 1) = busyL free i := by
  unfold busyL
  rw [List.range_succ, List.filter_append, List.filter_cons, if_neg (by rw [h]; exact Bool.false_ne_true)]
  exact List.append_nil _
theorem law_s15 {ps : Array Value} {fl fr : Addr} {us fs : List Value} {ku kf : Nat} {free : List Int} {S wy : Nat} (H : LawHyp w p loose mean mg mb gB LB sl vs ns) (F : Fr gB LB s.heap mm) (N : News gB LB s.heap (lawLed LB o1 o2 o3 o4 o5 o6 o7 o8 o9 o10 o11 ((fl, listOf us.toArray ku) :: (fr, listOf fs.toArray kf) :: (cr, LCg.lst cs) :: (188, tabObj ps) :: [])))
    (e9 : o9.data = .cell (some (.ref fr))) (mw : mm (Str.ofString "way") = some (.int (wy : Int) t2)) (mh : mm (Str.ofString "hues") = some (.ref fl)) (md : mm (Str.ofString "driven") = some (.int (wy : Int) t3))
    (hfs : IntsAre fs free) (hus : EighthsAre us (hsOf S)) (hS : hsOf S = busyL free 8)
    (next : ∀ h' tk', Fr gB LB h' mm → News gB LB h' (lawLed LB o1 o2 o3 o4 o5 o6 o7 o8 o9 o10 o11 ((fr, listOf fs.toArray kf) :: (cr, LCg.lst cs) :: (188, tabObj ps) :: [])) →
      wpAny (model rwl.prog w) (callerA.deeper (lawEnv LB fa cd)) (execs k (lawEnv LB fa cd)) Q E { s with heap := h', toks := tk' }) :
    (kF w.params).In gB → wpAny (model rwl.prog w) (callerA.deeper (lawEnv LB fa cd)) (execs (lawP k) (lawEnv LB fa cd)) Q E s := by
  k_fill
  intro X
  obtain ⟨B, T, _, C, hs, hI, hl, lb⟩ := H
  unfold lawEnv lawS lawP
  unfold lawEnv lawS at next
  unfold lawLed at N
  k_steps
  unfold StopIt
  refine LCt.CompSrcT.range (n := 8) (by rfl) (by assumption) (by assumption) (by assumption) (by decide) (by rfl) (by decide) ?_
  intro g
  refine comp_test (fun i ys => EighthsAre ys (busyL free i)) ⟨rfl, fun i y h => by cases h⟩ ?_ ?_
  · intro i v I oI C oC D m₂ ys h tk E' hi hv hK hC hx F5 N5 off5 ne5
    obtain ⟨t, rfl⟩ := hv
    have hna : (0 + (i : Int)).natAbs < 2 ^ 62 := Nat.lt_trans (show (0 + (i : Int)).natAbs < 8 by omega) (by decide)
    have ez : (0 + (i : Int)) = ((i : Nat) : Int) := Int.zero_add _
    cases hb : (!free.contains (0 + (i : Int))) with
    | true =>
      k_steps
      refine comp_end (by assumption) (by assumption) off5 trivial ?_
      rw [ez] at hb ⊢
      rw [busy_in hb]
      exact eighths_snoc (Nat.succ_ne_zero _) hK
    | false =>
      k_steps
      refine comp_end (by assumption) (by assumption) off5 trivial ?_
      rw [ez] at hb
      rw [busy_out hb]
      exact hK
  · intro ys hK D h tk F5 N5 off5
    simp only [LCg.Off1, and_true] at off5
    (((first | refine Mine.and23 off5 ?_ | refine Mine.and22 off5 ?_ | refine Mine.and21 off5 ?_ | refine Mine.and20 off5 ?_ | refine Mine.and19 off5 ?_ | refine Mine.and18 off5 ?_ | refine Mine.and17 off5 ?_ | refine Mine.and16 off5 ?_ | refine Mine.and15 off5 ?_ | refine Mine.and14 off5 ?_ | refine Mine.and13 off5 ?_ | refine Mine.and12 off5 ?_ | refine Mine.and11 off5 ?_); clear off5; intros))
    rw [← hS] at hK
    k_steps
    unfold StopIt
    rename Fr gB LB _ _ => FF
    rename News gB LB _ _ => NN
    refine ne_eighths (none_booked (X.keeps FF.keep)) (led_list NN (by k_extra "my_mem_deep")) (led_list NN (by k_extra "my_mem_deep")) hus hK (by ke_room) ?_
    clear hus hK hS
    k_steps
    · exfalso
      rename (_ : Int) ≠ _ => hne
      exact hne rfl
    · rename Fr gB LB _ _ => FF
      rename News gB LB _ _ => NN
      refine next _ _ FF ?led
      case led => (((try unfold lawLed); repeat' (first | exact news_nil | refine news_pick NN (by repeat' (first | exact List.Mem.head _ | refine List.Mem.tail _ ?_)) ?_ | exact news_rest NN (fun p hp => by repeat' (first | exact hp | refine List.Mem.tail _ ?_)))))
end
end Mine

end PartL18

section FlushK10
open PySem PySem.W PyProof.Rows PySem.Calls
namespace Mine
theorem start_K10 {prog : Program} {w : World} {A : Around} {E : Value → Shared → Prop} {s : Shared} {env : Env} {Q : Flow → Shared → Prop} (h : wpAny (model prog w) A (execs [] env) Q E s) : wpAny (model prog w) A (execs [] env) Q E s := by
  w_top off
  first | (walk1; fail) | exact h
end Mine
end FlushK10
section PartK10
open PySem PySem.W PyProof.Rows PySem.Calls
namespace Mine
section
variable {prog : Program} {w : World} {A : Around} {E : Value → Shared → Prop} {s : Shared} {h₀ : Heap} {L : Addr} {m : Str → Option Value} {news : List (Addr × Obj)} {u : Tok} {Q : Value → Shared → Prop}
theorem add_LL {l b : Addr} {xs ys : List Value} {c d : Nat} (F : Fr h₀ L s.heap m) (N : News h₀ L s.heap news) (hl : (l, listOf xs.toArray c) ∈ news) (hb : (b, listOf ys.toArray d) ∈ news) (hz : xs.length + ys.length ≤ 1000)
    (h : ∀ D h', Fr h₀ L h' m → News h₀ L h' ((D, listOf (xs ++ ys).toArray 0) :: news) → (∀ p ∈ news, p.1 < D) → Q (.ref D) { s with heap := h' }) : wpAny (model prog w) A (binaryOp .Add (.ref l) (.ref b)) Q E s := by
  refine add_arrays F N (led_list N hl) (led_list N hb) (fun h' F' N' => h _ h' F' N' (fun p hp => Heap.lt_size (N p hp).1)) ?_
  rw [List.size_toArray, List.size_toArray]
  exact Nat.le_trans hz (by decide)
theorem pick_from (l : List Value) {i : Int} (h0 : 0 ≤ i) (h1 : i ≤ l.length) : kms_pick l (some i) none = l.drop i.toNat := by
  have e : kms_lo (some i) l.length = i.toNat := by
    show (if i < 0 then l.length - (-i).toNat else min i.toNat l.length) = _
    rw [if_neg (by omega)]
    omega
  unfold kms_pick
  rw [e]
  exact List.take_of_length_le (by rw [List.length_drop]; exact Nat.le_refl _)
theorem pick_upto (l : List Value) {i : Int} (h0 : 0 ≤ i) (h1 : i ≤ l.length) : kms_pick l none (some i) = l.take i.toNat := by
  have e : kms_hi (some i) l.length = i.toNat := by
    show (if i < 0 then l.length - (-i).toNat else min i.toNat l.length) = _
    rw [if_neg (by omega)]
    omega
  unfold kms_pick
  rw [e]
  show (l.drop 0).take (i.toNat - 0) = _
  rw [List.drop_zero, Nat.sub_zero]
end
noncomputable def joinL : List Int := [12272, 12273, 12276, 12277, 12278, 12279, 12280, 12281, 12282, 12283]
noncomputable def leafL : List Int := [12271, 12284, 97, 19968]
theorem range_join : [12272, 12273] ++ rangeKs 12276 8 = joinL := by decide
theorem join_c7 : ∀ i : Fin 10, decide ((joinL.getD i.val 0) ∈ c7L) = true := by decide +kernel
theorem leaf_c7 : ∀ i : Fin 4, decide ((leafL.getD i.val 0) ∈ c7L) = false := by decide +kernel
theorem join_pos : ∀ i : Fin 10, 0 ≤ joinL.getD i.val 0 ∧ joinL.getD i.val 0 ≤ 20000 := by decide +kernel
theorem leaf_pos : ∀ i : Fin 4, 0 ≤ leafL.getD i.val 0 ∧ leafL.getD i.val 0 ≤ 20000 := by decide +kernel
end Mine

end PartK10

section FlushK12
open PySem PySem.W PyProof.Rows PySem.Calls
namespace Mine
theorem start_K12 {prog : Program} {w : World} {A : Around} {E : Value → Shared → Prop} {s : Shared} {env : Env} {Q : Flow → Shared → Prop} (h : wpAny (model prog w) A (execs [] env) Q E s) : wpAny (model prog w) A (execs [] env) Q E s := by
  w_top off
  first | (walk1; fail) | exact h
end Mine
end FlushK12
section PartK12
open PySem PySem.W PyProof.Rows PySem.Calls PyProof.Rows.LCg
namespace Mine
noncomputable abbrev zipWr (z TO i1 i2 : Addr) : List Addr := [z, TO, i1, i2]
noncomputable def ZipSt (z TI TO i1 i2 l1 l2 : Addr) (xs ys : Array Value) (i : Nat) (h : Heap) : Prop :=
  IsZip h z TI TO .none ∧ IsPair h TI (.ref i1) (.ref i2) ∧ (∃ a b, IsPair h TO a b) ∧ h.IsListIter i1 l1 i ∧ h.IsListIter i2 l2 i ∧ h.IsList l1 xs ∧ h.IsList l2 ys
noncomputable def ZipOff (z TO i1 i2 L : Addr) (h₀ : Heap) (news : List (Addr × Obj)) : Prop :=
  L ∉ zipWr z TO i1 i2 ∧ (∀ b ∈ zipWr z TO i1 i2, h₀.get? b = none) ∧ ∀ p ∈ news, p.1 ∉ zipWr z TO i1 i2
section
variable {prog : Program} {w : World} {A : Around} {E : Value → Shared → Prop} {s : Shared} {h₀ : Heap} {L : Addr} {m : Str → Option Value} {env : Env}
theorem fr_wr {h h' : Heap} {ws : List Addr} (F : Fr h₀ L h m) (hk : ∀ b o, b ∉ ws → h.get? b = some o → h'.get? b = some o) (hL : L ∉ ws) (h0 : ∀ b ∈ ws, h₀.get? b = none) : Fr h₀ L h' m :=
  ⟨F.ns.at' fun o e => hk L o hL e, fun b o e => hk b o (fun hm => by rw [h0 b hm] at e; cases e) (F.keep b o e), F.above⟩
theorem news_wr {h h' : Heap} {ws : List Addr} {news : List (Addr × Obj)} (N : News h₀ L h news) (hk : ∀ b o, b ∉ ws → h.get? b = some o → h'.get? b = some o) (off : ∀ p ∈ news, p.1 ∉ ws) : News h₀ L h' news :=
  fun p hp => ⟨hk _ _ (off p hp) (N p hp).1, (N p hp).2⟩
noncomputable def ZipTurn (prog : Program) (w : World) (A : Around) (env : Env) (elt : PySem.Expr) (x x₂ : Str) (scope : Scope) (cl : List (Str × Addr)) (xs ys : Array Value) (Y : Nat → Value → Prop) : Prop :=
  ∀ (i : Nat) (a b : Value) (C : Addr) (m₂ : Str → Option Value) (s' : Shared) (Q' : Value → Shared → Prop) (E' : Value → Shared → Prop), xs[i]? = some a → ys[i]? = some b → s'.heap.Ns C m₂ → m₂ x = some a → m₂ x₂ = some b →
    (∀ y k, Y i y → Q' y { s' with toks := k }) → wpAny (model prog w) A (eval elt (compEnvC scope cl C env)) Q' E' s'
noncomputable def ZipSrc (prog : Program) (w : World) (A : Around) (h₀ : Heap) (L : Addr) (m : Str → Option Value) (env : Env) (elt : PySem.Expr) (x x₂ : Str) (scope : Scope) (cl : List (Str × Addr)) (Q : Value → Shared → Prop) (xv : Value) (s₁ : Shared) : Prop :=
  ∃ (z TI TO i1 i2 l1 l2 : Addr) (xs ys : Array Value) (news : List (Addr × Obj)) (Y : Nat → Value → Prop), xv = .ref z ∧ A.handled = none ∧ Fr h₀ L s₁.heap m ∧ News h₀ L s₁.heap news ∧ ZipApart z TI TO i1 i2 l1 l2 ∧ ZipSt z TI TO i1 i2 l1 l2 xs ys 0 s₁.heap ∧
    ZipOff z TO i1 i2 L h₀ news ∧ min xs.size ys.size ≤ 1000 ∧ ZipTurn prog w A env elt x x₂ scope cl xs ys Y ∧
    ∀ zs D h tk, zs.length = min xs.size ys.size → (∀ i y, zs[i]? = some y → Y i y) → Fr h₀ L h m → News h₀ L h ((D, lst zs) :: news) → Off1 D news → Q (.ref D) { s₁ with heap := h, toks := tk }
theorem zip_lt {z TI TO i1 i2 l1 l2 : Addr} {xs ys : Array Value} {i : Nat} {h : Heap} (st : ZipSt z TI TO i1 i2 l1 l2 xs ys i h) : ∀ b ∈ [z, TI, TO, i1, i2, l1, l2], b < h.objs.size := by
  obtain ⟨hz, hTI, ⟨a, b, hTO⟩, ⟨o1, e1, _⟩, ⟨o2, e2, _⟩, ⟨o3, e3, _⟩, ⟨o4, e4, _⟩⟩ := st
  intro b hb
  simp only [List.mem_cons, List.not_mem_nil, or_false] at hb
  rcases hb with rfl | rfl | rfl | rfl | rfl | rfl | rfl
  · exact Heap.lt_size hz
  · exact Heap.lt_size hTI
  · exact Heap.lt_size hTO
  · exact Heap.lt_size e1
  · exact Heap.lt_size e2
  · exact Heap.lt_size e3
  · exact Heap.lt_size e4
inductive ZipI (h₀ : Heap) (L : Addr) (m : Str → Option Value) (news : List (Addr × Obj)) (z TI TO i1 i2 l1 l2 : Addr) (xs ys : Array Value) (Y : Nat → Value → Prop) (C D : Addr) (s₁ : Shared) : Nat → Shared → Prop
  | mk (h' : Heap) (tk i : Nat) (zs : List Value) (m' : Str → Option Value) (hi : i ≤ min xs.size ys.size) (hzl : zs.length = i) (hY : ∀ j y, zs[j]? = some y → Y j y) (hst : ZipSt z TI TO i1 i2 l1 l2 xs ys i h') (F : Fr h₀ L h' m) (hn : h'.Ns C m') (hD : h'.get? D = some (lst zs)) (N : News h₀ L h' news) : ZipI h₀ L m news z TI TO i1 i2 l1 l2 xs ys Y C D s₁ (min xs.size ys.size + 1 - i) { s₁ with heap := h', toks := tk }
theorem comp_zip {elt iter : PySem.Expr} {x x₂ : Str} {px px₂ tp : Pos} {tk0} {scope : Scope} {cl : List (Str × Addr)} {pos : Pos} {Q : Value → Shared → Prop} (_F₀ : Fr h₀ L s.heap m)
    (hclos : closureFor scope env = pure cl) (hcell : ∀ y ∈ scope.names, y.2 ≠ .cell) (hkind : scope.kind = .function)
    (hnames : ∀ y ∈ scope.names, y.2 = .local → scope.names.lookup y.1 = some .local) (hx : scope.names.lookup x = some .local) (hx₂ : scope.names.lookup x₂ = some .local) (hxx : x ≠ x₂)
    (h : wpAny (model prog w) A (eval iter env) (ZipSrc prog w A h₀ L m env elt x x₂ scope cl Q) E s)
    (hs : ∀ x, foldedSetIterable iter env x = pure x := by intro _; rfl) :
    wpAny (model prog w) A (eval (.ListComp elt [⟨.Tuple [.Name x px, .Name x₂ px₂] tk0 tp, iter, [], 0⟩] scope pos) env) Q E s := by
  rw [eval_ListComp]
  refine wpAny_comprehension_free (use := none) rfl hs hclos hkind hnames (wpAny_mono h (fun xv s₁ h₁ => ?_) fun _ _ e => e)
  obtain ⟨z, TI, TO, i1, i2, l1, l2, xs, ys, news, Y, rfl, hh, F, N, ap, st, off, hsz, turn, fin⟩ := h₁
  have W := WalksT.zip2 (prog := prog) (w := w) hh z TI TO i1 i2 l1 l2 ap xs ys
  have hlt := zip_lt st
  obtain ⟨offL, off0, offN⟩ := off
  refine wpAny_pyIter_zip st.1 ?_
  refine wpAny_newObj_type (wpAny_newFunctionEnv hcell (by intro y hy; simp at hy) (fun h₁ hns hsb => ?_) hkind)
  dsimp only at hns hsb ⊢
  generalize hH : s₁.heap.push { cls := .type "list", dict := none, data := .seq ([] : List Value).toArray } = H at hns hsb ⊢
  -- D is the new list, C the block's frame
  have hC : H.objs.size = s₁.heap.objs.size + 1 := by rw [← hH, Heap.size_push]
  have hDC : s₁.heap.objs.size ≠ H.objs.size := by omega
  have low : ∀ b : Nat, b < s₁.heap.objs.size → b ≠ H.objs.size ∧ b ≠ s₁.heap.objs.size := fun b hb => by omega
  have old : ∀ b o, s₁.heap.get? b = some o → h₁.get? b = some o := fun b o e => hsb.extBut b o (low b (Heap.lt_size e)).1 (Heap.get?_push_of_some _ (hH ▸ Heap.get?_push_of_some _ e))
  have hD : h₁.get? s₁.heap.objs.size = some (lst []) := hsb.extBut _ _ hDC (Heap.get?_push_of_some _ (hH ▸ Heap.get?_push_size _ rfl))
  have none0 : ∀ a, s₁.heap.objs.size ≤ a → h₀.get? a = none := fun a ha => by
    cases e : h₀.get? a with
    | none => rfl
    | some o => exact absurd (Heap.lt_size (F.keep a o e)) (Nat.not_lt.mpr ha)
  have hD0 := none0 s₁.heap.objs.size (Nat.le_refl _)
  have hC0 := none0 H.objs.size (by omega)
  have hLlt : @LT.lt Nat _ L s₁.heap.objs.size := F.ns.lt
  have hDL : @Ne Nat s₁.heap.objs.size L := by omega
  have hCL : @Ne Nat H.objs.size L := by omega
  have wrlt : ∀ b : Nat, b ∈ zipWr z TO i1 i2 → b < s₁.heap.objs.size := fun b hb => hlt b (by
    simp only [List.mem_cons, List.not_mem_nil, or_false] at hb ⊢
    rcases hb with rfl | rfl | rfl | rfl <;> simp)
  have hDw : s₁.heap.objs.size ∉ zipWr z TO i1 i2 := fun hb => Nat.lt_irrefl _ (wrlt _ hb)
  have hCw : H.objs.size ∉ zipWr z TO i1 i2 := fun hb => by have := wrlt _ hb; omega
  have offD : ∀ p ∈ news, p.1 ≠ s₁.heap.objs.size := fun p hp => (low _ (Heap.lt_size (N p hp).1)).2
  have offC : ∀ p ∈ news, p.1 ≠ H.objs.size := fun p hp => (low _ (Heap.lt_size (N p hp).1)).1
  have st1 : ZipSt z TI TO i1 i2 l1 l2 xs ys 0 h₁ := W.frame 0 _ _ st fun b _ o e => old b o e
  have F1 : Fr h₀ L h₁ m := F.keeps old
  have N1 : News h₀ L h₁ news := N.grown old
  have loop : ∀ s₃ : Shared, s₃ = { s₁ with heap := h₁, toks := s₁.toks + ([] : List (Str × Value)).length } →
      codeAny (model prog w) A (.compLoop (.ListComp elt [⟨.Tuple [.Name x px, .Name x₂ px₂] tk0 tp, iter, [], 0⟩] scope pos) 0 (.ref z) (.ref s₁.heap.objs.size) (compEnvC scope cl H.objs.size env)) (compPost (model prog w) A E none Q (.ref s₁.heap.objs.size) H.objs.size) s₃ := by
    rintro s₃ rfl
    refine LCp.codeAny_compLoop_pair
      (ZipI h₀ L m news z TI TO i1 i2 l1 l2 xs ys Y H.objs.size s₁.heap.objs.size s₁) ?_ (min xs.size ys.size + 1)
      (.mk h₁ _ 0 [] _ (Nat.zero_le _) rfl (fun j y hy => by cases hy) st1 F1 hns hD N1)
    rintro _ _ ⟨h', tk, i, zs, m', hi, hzl, hY, hst, F', hn, hD', N'⟩
    by_cases hlt2 : i < min xs.size ys.size
    · refine W.item i _ _ _ hlt2 hst fun T vals h₂ tk₂ hP hTs hT hMid hk => ?_
      obtain ⟨a, b, ha, hb, rfl⟩ := hP
      have hTw : T ∉ zipWr z TO i1 i2 := W.apart i T h₂ hMid
      refine W.go _ _ _ i T _ _ _ hMid fun h₃ hst3 hk3 => ?_
      have keep : ∀ b o, b ∉ zipWr z TO i1 i2 → h'.get? b = some o → h₃.get? b = some o := fun b o hb e => hk3 b o hb (hk b o hb e)
      have hT3 : IsTup h₃ T #[a, b] := by
        obtain ⟨o, e, r⟩ := hT
        exact ⟨o, hk3 T o hTw e, r⟩
      refine assign_Tuple_tuple hh hT3 rfl rfl fun h₅ he => ?_
      have he' : ∀ b o, h₃.get? b = some o → h₅.get? b = some o := fun b o e => he b o (Nat.ne_of_lt (Heap.lt_size e)) e
      have hn5 : h₅.Ns H.objs.size m' := (hn.at' fun o e => keep _ o hCw e).at' fun o e => he' _ o e
      refine assignInOrder_cons (wpAny_assign_Name (wpAny_storeName_local (lookup_relabel_local hx) hn5 (fun h₆ hn₆ hs₆ => ?_) (by simp [compEnvC, relabel, hkind])))
      refine assignInOrder_cons (wpAny_assign_Name (wpAny_storeName_local (lookup_relabel_local hx₂) hn₆ (fun h₇ hn₇ hs₇ => ?_) (by simp [compEnvC, relabel, hkind])))
      refine assignInOrder_nil ?_
      have keep7 : ∀ b o, b ≠ H.objs.size → h₃.get? b = some o → h₇.get? b = some o := fun b o hb e => hs₇.extBut b o hb (hs₆.extBut b o hb (he' b o e))
      have hst7 : ZipSt z TI TO i1 i2 l1 l2 xs ys (i + 1) h₇ := W.frame _ _ _ hst3 fun b hb o e => keep7 b o (fun q => (low b (hlt b hb)).1 q) e
      have F7 : Fr h₀ L h₇ m := (((fr_wr F' keep offL off0).keeps he').change hs₆ hCL hC0).change hs₇ hCL hC0
      have N7 : News h₀ L h₇ news := fun p hp => ⟨keep7 _ _ (offC p hp) (keep _ _ (offN p hp) (N' p hp).1), (N' p hp).2⟩
      have hD7 : h₇.get? s₁.heap.objs.size = some (lst zs) := keep7 _ _ hDC (keep _ _ hDw hD')
      refine turn i a b H.objs.size _ _ _ _ ha hb hn₇ (by simp [hxx]) (by simp) fun y k hy => ?_
      refine append_at (hsz := by show zs.toArray.size ≤ sizeLine; rw [List.size_toArray, hzl]; exact Nat.le_trans (Nat.le_trans hi hsz) (by decide)) hD7 fun h₈ hs₈ hD₈ => ?_
      exact ⟨_, for_down hlt2, .mk h₈ k (i + 1) (zs ++ [y]) _ hlt2 (by rw [List.length_append, List.length_singleton, hzl]) (snoc_all hzl hY hy) (W.frame _ _ _ hst7 fun b hb o e => hs₈.extBut b o (fun q => (low b (hlt b hb)).2 q) e)
        (F7.change hs₈ hDL hD0) (hn₇.sameBut hs₈ (Ne.symm hDC)) (hD₈.trans (congrArg some (lst_snoc zs y))) (fun p hp => ⟨hs₈.extBut _ _ (offD p hp) (N7 p hp).1, (N7 p hp).2⟩)⟩
    · obtain rfl : i = min xs.size ys.size := Nat.le_antisymm hi (Nat.not_lt.mp hlt2)
      refine W.done _ _ _ hst fun h₂ tk₂ hk => ?_
      refine ⟨_, hn.at' fun o e => hk _ o hCw e, fun h'' hs'' => ?_⟩
      refine fin zs s₁.heap.objs.size h'' tk₂ hzl hY ((fr_wr F' hk offL off0).change hs'' hCL hC0) (fun p hp => ?_) ?_
      · rcases List.mem_cons.mp hp with rfl | hp
        · exact ⟨hs''.extBut _ _ hDC (hk _ _ hDw hD'), hDL, hD0⟩
        · exact ⟨hs''.extBut _ _ (offC p hp) (hk _ _ (offN p hp) (N' p hp).1), (N' p hp).2⟩
      · exact Off3.one (Off3.of (I := s₁.heap.objs.size) (C := s₁.heap.objs.size) (D := s₁.heap.objs.size) fun p hp => ⟨offD p hp, offD p hp, offD p hp⟩)
  exact codeAny_compStart_list (loop _ rfl) (W.self 0 _ _ _ st1 (loop _ rfl))
end
end Mine

end PartK12

section FlushK11
open PySem PySem.W PyProof.Rows PySem.Calls
namespace Mine
theorem start_K11 {prog : Program} {w : World} {A : Around} {E : Value → Shared → Prop} {s : Shared} {env : Env} {Q : Flow → Shared → Prop} (h : wpAny (model prog w) A (execs [] env) Q E s) : wpAny (model prog w) A (execs [] env) Q E s := by
  w_top off
  first | (walk1; fail) | exact h
end Mine
end FlushK11
section PartK11
open PySem PySem.W PyProof.Rows PySem.Calls
namespace Mine
theorem fmod_at (x : Int) {n : Nat} (hn : 0 < n) : ∃ i : Fin n, x.fmod (n : Int) = ((i.val : Nat) : Int) := by
  have h0 : (0 : Int) < (n : Int) := by omega
  have h1 := Int.fmod_nonneg_of_pos x h0
  have h2 := Int.fmod_lt_of_pos x h0
  exact ⟨⟨(x.fmod n).toNat, by omega⟩, by show x.fmod n = (((x.fmod n).toNat : Nat) : Int); omega⟩
noncomputable def SgIs (b : Bool) (y : Value) : Prop := ∃ (c : Nat) (t : Tok), y = Value.str ⟨#[c]⟩ t ∧ decide ((c : Int) ∈ c7L) = b
section
variable {prog : Program} {w : World} {A : Around} {E : Value → Shared → Prop} {s : Shared} {h₀ : Heap} {L : Addr} {m : Str → Option Value} {news : List (Addr × Obj)} {value slice : PySem.Expr} {t u : Tok} {Q : Value → Shared → Prop} {a : Addr} {vs : List Value} {c : Nat} {x : Int}
theorem item_join (N : News h₀ L s.heap news) (hm : (a, listOf vs.toArray c) ∈ news) (hI : IntsAre vs joinL) (h : ∀ (i : Fin 10) t', Q (.int (joinL.getD i.val 0) t') s)
    (hs : subscripted slice false (.ref a) (.int (x.fmod 10) u) = operate [.ref a, .int (x.fmod 10) u] (getItem (.ref a) (.int (x.fmod 10) u)) := by with_unfolding_all rfl) (hg : ∀ r, letTemporaryGo value (.ref a) r = pure () := by intro _; with_unfolding_all rfl) :
    wpAny (model prog w) A (subscriptTail value slice (.ref a) (.int (x.fmod 10) u)) Q E s := by
  obtain ⟨i, e⟩ := fmod_at x (n := 10) (by decide)
  have e' : x.fmod 10 = ((i.val : Nat) : Int) := e
  have hi := i.isLt
  refine item_ints N hm hI (by decide) (by omega) (by show x.fmod 10 < ((10 : Nat) : Int); omega) (fun t' => ?_) hs hg
  rw [e', Int.toNat_natCast]
  exact h i t'
theorem item_leaf (N : News h₀ L s.heap news) (hm : (a, listOf vs.toArray c) ∈ news) (hI : IntsAre vs leafL) (h : ∀ (i : Fin 4) t', Q (.int (leafL.getD i.val 0) t') s)
    (hs : subscripted slice false (.ref a) (.int (x.fmod 4) u) = operate [.ref a, .int (x.fmod 4) u] (getItem (.ref a) (.int (x.fmod 4) u)) := by with_unfolding_all rfl) (hg : ∀ r, letTemporaryGo value (.ref a) r = pure () := by intro _; with_unfolding_all rfl) :
    wpAny (model prog w) A (subscriptTail value slice (.ref a) (.int (x.fmod 4) u)) Q E s := by
  obtain ⟨i, e⟩ := fmod_at x (n := 4) (by decide)
  have e' : x.fmod 4 = ((i.val : Nat) : Int) := e
  have hi := i.isLt
  refine item_ints N hm hI (by decide) (by omega) (by show x.fmod 4 < ((4 : Nat) : Int); omega) (fun t' => ?_) hs hg
  rw [e', Int.toNat_natCast]
  exact h i t'
theorem chr_sg {b : Bool} (h0 : 0 ≤ x ∧ x ≤ 20000) (hb : decide (x ∈ c7L) = b) (h : ∀ y k, SgIs b y → Q y { s with toks := k }) : wpAny (model prog w) A (call (.builtin "chr") [.int x t]) Q E s := by
  refine P.chr_of_int (by rw [Bool.or_eq_false_iff, decide_eq_false_iff_not, decide_eq_false_iff_not]; omega) (h _ _ ⟨x.toNat, _, rfl, ?_⟩)
  rw [Int.toNat_of_nonneg h0.1]
  exact hb
theorem chr_join {i : Fin 10} (h : ∀ y k, SgIs true y → Q y { s with toks := k }) : wpAny (model prog w) A (call (.builtin "chr") [.int (joinL.getD i.val 0) t]) Q E s := chr_sg (join_pos i) (join_c7 i) h
theorem chr_leaf {i : Fin 4} (h : ∀ y k, SgIs false y → Q y { s with toks := k }) : wpAny (model prog w) A (call (.builtin "chr") [.int (leafL.getD i.val 0) t]) Q E s := chr_sg (leaf_pos i) (leaf_c7 i) h
end
theorem c7_at {w : World} {p : Program} {loose : List PySem.Str} {mean : ExcName → Option Value} {mg mb : Str → Option Value} {dp un : Nat} {gd : Option (List Code)} {cn : Str} {cs : Scope} {L a : Addr} {ccd : Value} {cl : List (Str × Addr)} {outer : List Env} {A₀ : Around} {base h₀ : Heap} {m : Str → Option Value}
    {news : List (Addr × Obj)} {s : Shared} {Q E : Value → Shared → Prop} {y : Value} {b : Bool} (S : Site w p loose mean mg mb dp un cn cs L a ccd cl outer A₀ base h₀ m news s) (hb : SgIs b y) (h : ∀ h' tk', Fr h₀ L h' m → News h₀ L h' news → Q (.bool b) { s with heap := h', toks := tk' }) (X : (kF w.params).In h₀) :
    wpAny (model rwl.prog w) (ktrTop dp un gd cn cs L a ccd cl outer) (call (.ref 172) [y]) Q E s := by
  obtain ⟨c, t, rfl, rfl⟩ := hb
  exact c7_ctr S h X
end Mine

end PartK11

section FlushK13
open PySem PySem.W PyProof.Rows PySem.Calls
namespace Mine
theorem start_K13 {prog : Program} {w : World} {A : Around} {E : Value → Shared → Prop} {s : Shared} {env : Env} {Q : Flow → Shared → Prop} (h : wpAny (model prog w) A (execs [] env) Q E s) : wpAny (model prog w) A (execs [] env) Q E s := by
  w_top off
  first | (walk1; fail) | exact h
end Mine
end FlushK13
section PartK13
open PySem PySem.W PyProof.Rows PySem.Calls PyProof.Rows.LCg PyProof.V PySem.Spec
namespace Mine
section
variable {prog : Program} {w : World} {A : Around} {E : Value → Shared → Prop} {s : Shared} {h₀ : Heap} {L : Addr} {m : Str → Option Value} {env : Env} {elt : PySem.Expr} {x x₂ : Str} {scope : Scope} {cl : List (Str × Addr)} {Q : Value → Shared → Prop} {news : List (Addr × Obj)}
theorem zip_src {l1 l2 : Addr} {xs ys : List Value} {c d : Nat} (Y : Nat → Value → Prop) (hh : A.handled = none) (F : Fr h₀ L s.heap m) (N : News h₀ L s.heap news) (h1 : (l1, listOf xs.toArray c) ∈ news) (h2 : (l2, listOf ys.toArray d) ∈ news) (hz : ys.length ≤ 1000)
    (turn : ZipTurn prog w A env elt x x₂ scope cl xs.toArray ys.toArray Y)
    (fin : ∀ zs D h tk, zs.length = min xs.length ys.length → (∀ i y, zs[i]? = some y → Y i y) → Fr h₀ L h m → News h₀ L h ((D, lst zs) :: news) → Off1 D news → Q (.ref D) { s with heap := h, toks := tk }) :
    wpAny (model prog w) A (call (.type "zip") [.ref l1, .ref l2]) (ZipSrc prog w A h₀ L m env elt x x₂ scope cl Q) E s := by
  have hl1 := led_list N h1
  have hl2 := led_list N h2
  have hlt1 := Heap.lt_size (N _ h1).1
  have hlt2 := Heap.lt_size (N _ h2).1
  have hL : @LT.lt Nat _ L s.heap.objs.size := F.ns.lt
  have none0 : ∀ a : Nat, s.heap.objs.size ≤ a → h₀.get? a = none := fun a ha => by
    cases e : h₀.get? a with
    | none => rfl
    | some o => exact absurd (Heap.lt_size (F.keep a o e)) (Nat.not_lt.mpr ha)
  have notin : ∀ a : Nat, a < s.heap.objs.size → a ∉ zipWr (s.heap.objs.size + 4) (s.heap.objs.size + 3) s.heap.objs.size (s.heap.objs.size + 1) := fun a ha hb => by
    simp only [List.mem_cons, List.not_mem_nil, or_false] at hb
    have hb' : @Eq Nat a (s.heap.objs.size + 4) ∨ @Eq Nat a (s.heap.objs.size + 3) ∨ @Eq Nat a s.heap.objs.size ∨ @Eq Nat a (s.heap.objs.size + 1) := hb
    omega
  refine call_zip_2 hl1 hl2 fun h' hz' hTI hTO hi1 hi2 hsz hk => ?_
  refine ⟨s.heap.objs.size + 4, s.heap.objs.size + 2, s.heap.objs.size + 3, s.heap.objs.size, s.heap.objs.size + 1, l1, l2, xs.toArray, ys.toArray, news, Y, rfl, hh, F.keeps hk, N.grown hk, ktu_apart _ _ _ hlt1 hlt2,
    ⟨hz', hTI, ⟨_, _, hTO⟩, hi1, hi2, hl1.at fun o e => hk _ o e, hl2.at fun o e => hk _ o e⟩, ⟨notin L hL, fun b hb => ?_, fun p hp => notin p.1 (Heap.lt_size (N p hp).1)⟩, ?_, turn, fun zs D h tk e1 e2 e3 e4 e5 => ?_⟩
  · simp only [List.mem_cons, List.not_mem_nil, or_false] at hb
    rcases hb with rfl | rfl | rfl | rfl
    · exact none0 _ (Nat.le_add_right _ _)
    · exact none0 _ (Nat.le_add_right _ _)
    · exact none0 _ (Nat.le_refl _)
    · exact none0 _ (Nat.le_add_right _ _)
  · rw [List.size_toArray, List.size_toArray]
    exact Nat.le_trans (Nat.min_le_right _ _) hz
  · rw [List.size_toArray, List.size_toArray] at e1
    exact fin zs D h tk e1 e2 e3 e4 e5
theorem gap_turn {p1 p2 p3 : Pos} {xs ys : List Value} {as bs : List Int} (hx : IntsAre xs as) (hy : IntsAre ys bs) (hk : scope.kind = .function) (hkx : (compEnvC scope cl 0 env).kindOf x = some .local) (hkx₂ : (compEnvC scope cl 0 env).kindOf x₂ = some .local) (d1 : (x == ("__debug__" : Str)) = false) (d2 : (x₂ == ("__debug__" : Str)) = false) :
    ZipTurn prog w A env (.BinOp (.Name x₂ p1) .Sub (.Name x p2) p3) x x₂ scope cl xs.toArray ys.toArray (fun i y => ∃ t : Tok, y = .int (bs.getD i 0 - as.getD i 0) t) := by
  intro i a b C m₂ s' Q' E' ha hb hn hxa hxb hret
  rw [List.getElem?_toArray] at ha hb
  obtain ⟨u, t, rfl, hu⟩ := hx.at i a ha
  obtain ⟨v, t2, rfl, hv⟩ := hy.at i b hb
  refine wpAny_BinOp (wpAny_Name (wpAny_loadName_local hk hkx₂ hn hxb ?_) d2)
  refine wpAny_Name (wpAny_loadName_local hk hkx hn hxa ?_) d1
  refine sub_int ?_
  refine hret _ _ ⟨s'.toks, ?_⟩
  rw [List.getD_eq_getElem?_getD, List.getD_eq_getElem?_getD, hu, hv]
  rfl
theorem slice_from_K {value slice : PySem.Expr} {l : Addr} {vs : List Value} {c : Nat} {i : Int} {t : Tok} (F : Fr h₀ L s.heap m) (N : News h₀ L s.heap news) (hm : (l, listOf vs.toArray c) ∈ news) (h0 : 0 ≤ i) (h1 : i ≤ vs.length) (hz : vs.length ≤ 1000)
    (h : ∀ D h', Fr h₀ L h' m → News h₀ L h' ((D, listOf (vs.drop i.toNat).toArray 0) :: news) → (∀ p ∈ news, p.1 < D) → Q (.ref D) { s with heap := h' })
    (hs : subscripted slice false (.ref l) (.ref s.heap.objs.size) = operate [.ref s.heap.objs.size, .ref l] (getItem (.ref l) (.ref s.heap.objs.size))) (ht : ∀ r, letTemporaryGo value (.ref l) r = pure ()) :
    wpAny (model prog w) A (subscriptTail value slice (.ref l) (.ref s.heap.objs.size)) Q E { s with heap := s.heap.push { cls := .type "slice", data := .fields #[.int i t, .none, .none] } } :=
  kms_slice_lit F N (led_list N hm) (.int _ _) .none (pick_from vs h0 h1) h hs ht (by rw [List.size_toArray]; exact Nat.le_trans hz (by decide))
theorem slice_upto_K {value slice : PySem.Expr} {l : Addr} {vs : List Value} {c : Nat} {i : Int} {t : Tok} (F : Fr h₀ L s.heap m) (N : News h₀ L s.heap news) (hm : (l, listOf vs.toArray c) ∈ news) (h0 : 0 ≤ i) (h1 : i ≤ vs.length) (hz : vs.length ≤ 1000)
    (h : ∀ D h', Fr h₀ L h' m → News h₀ L h' ((D, listOf (vs.take i.toNat).toArray 0) :: news) → (∀ p ∈ news, p.1 < D) → Q (.ref D) { s with heap := h' })
    (hs : subscripted slice false (.ref l) (.ref s.heap.objs.size) = operate [.ref s.heap.objs.size, .ref l] (getItem (.ref l) (.ref s.heap.objs.size))) (ht : ∀ r, letTemporaryGo value (.ref l) r = pure ()) :
    wpAny (model prog w) A (subscriptTail value slice (.ref l) (.ref s.heap.objs.size)) Q E { s with heap := s.heap.push { cls := .type "slice", data := .fields #[.none, .int i t, .none] } } :=
  kms_slice_lit F N (led_list N hm) .none (.int _ _) (pick_upto vs h0 h1) h hs ht (by rw [List.size_toArray]; exact Nat.le_trans hz (by decide))
noncomputable def dueD (ns : List Int) (wy : Int) : PyData := .tuple [.list (ns.map PyData.int), .int wy]
theorem dueD_shaped (ns : List Int) (wy : Int) : SeqAt.shaped (dueD ns wy) = true := by
  simp [SeqAt.shaped, dueD, PyData.canLay0, PyData.canLayAll0, PyData.depth, PyData.depthAll, ke_canLayAll0, ke_depthAll]
theorem dueD_same (ns : List Int) (wy : Int) : PySem.Spec.same (dueD ns wy) (dueD ns wy) = true := by
  have h := ke_same ns ns
  simp only [dueD, PySem.Spec.same, PySem.Spec.sameAll] at h ⊢
  simp [h]
theorem ne_due {a b fa fb : Addr} {us vs : List Value} {ns : List Int} {wy : Int} {t u : Tok} {ca cb da db : Nat} (N : News h₀ L s.heap news) (ha : (a, ({ cls := .type "tuple", data := .seq #[.ref fa, .int wy t] da } : Obj)) ∈ news) (hb : (b, ({ cls := .type "tuple", data := .seq #[.ref fb, .int wy u] db } : Obj)) ∈ news)
    (hfa : (fa, listOf us.toArray ca) ∈ news) (hfb : (fb, listOf vs.toArray cb) ∈ news) (hu : IntsAre us ns) (hv : IntsAre vs ns) (hA : A.units + 64 < cLine) (h : Q (.bool false) s) :
    wpAny (model prog w) A (compareOp .NotEq (.ref a) (.ref b)) Q E s := by
  have ra : ∀ {f c : Addr} {ws : List Value} {cc dd : Nat} {tt : Tok}, (c, ({ cls := .type "tuple", data := .seq #[.ref f, .int wy tt] dd } : Obj)) ∈ news → (f, listOf ws.toArray cc) ∈ news → IntsAre ws ns → Reads s.heap (.ref c) (dueD ns wy) [f] := fun hc hf hw =>
    reads_tuple_at (N _ hc).1 rfl rfl (.cons (reads_newData (led_list N hf) (ke_carried hw)) (.cons (.int _ _) .nil))
  refine ne_dataH_same (ra ha hfa hu) (ra hb hfb hv) (dueD_shaped _ _) (dueD_shaped _ _) hA (SeqAt.noMix_of_shape (.tuple [.list .int, .int]) rfl _ _ ?_ ?_) (by rw [dueD_same]; exact h)
  · simp [dueD, Shape.has, Shape.hasAll, list_map_has]
  · simp [dueD, Shape.has, Shape.hasAll, list_map_has]
end
theorem gaps_at : ∀ (a : Int) (bs : List Int), (List.range bs.length).map (fun i => bs.getD i 0 - (a :: bs).getD i 0) = gapsL a bs
  | _, [] => rfl
  | a, b :: r => by
    rw [List.length_cons, List.range_succ_eq_map, List.map_cons, List.map_map]
    show (b - a) :: (List.range r.length).map (fun i => r.getD i 0 - (b :: r).getD i 0) = _
    rw [gaps_at b r]
    rfl
end Mine

end PartK13

section FlushG5
open PySem PySem.W PyProof.Rows PySem.Calls
namespace Mine
theorem start_G5 {prog : Program} {w : World} {A : Around} {E : Value → Shared → Prop} {s : Shared} {env : Env} {Q : Flow → Shared → Prop} (h : wpAny (model prog w) A (execs [] env) Q E s) : wpAny (model prog w) A (execs [] env) Q E s := by
  w_top off
  first | (walk1; fail) | exact h
end Mine
end FlushG5
section PartG5
open PySem PySem.W PyProof.Rows PySem.Calls
namespace Mine
theorem ok_parts {cs : List Nat} (h : okCs cs = true) : okPk cs = true ∧ (∀ i, i < 8 → okRot cs i = true) ∧ (carsL cs).length < 8 ∧ ∀ i, i < 8 → okAh cs i = true := by
  unfold okCs at h
  simp only [Bool.and_eq_true, decide_eq_true_eq] at h
  obtain ⟨⟨⟨h1, h2⟩, h3⟩, h4⟩ := h
  rw [List.all_eq_true] at h2 h4
  exact ⟨h1, fun i hi => h2 i (List.mem_range.mpr hi), h3, fun i hi => h4 i (List.mem_range.mpr hi)⟩
theorem range_le (n : Nat) : ((List.range n).map fun j => ((j : Nat) : Int)).Pairwise (· ≤ ·) := by
  rw [List.pairwise_map]
  exact List.pairwise_lt_range.imp fun h => Int.ofNat_le.mpr (Nat.le_of_lt h)
theorem ahead_sorted (free : List Int) (i : Nat) : (aheadL free i).Pairwise (· ≤ ·) := (range_le 8).sublist List.filter_sublist
theorem ahead_is {cs : List Nat} {i : Nat} {ns : List Int} (h : okAh cs i = true) (hp : ns.Perm ((sweepL cs).1.map fun k => (k - (0 + (i : Int))).fmod 8)) (hs : ns.Pairwise (· ≤ ·)) : ns = aheadL (sweepL cs).1 i :=
  (hp.trans (List.isPerm_iff.mp h)).eq_of_pairwise (fun _ _ _ _ h1 h2 => Int.le_antisymm h1 h2) hs (ahead_sorted _ _)
theorem cut_emod (i : Nat) : ((0 + (i : Int)) - 1).fmod 8 = ((i : Int) - 1) % 8 := by rw [Int.fmod_eq_emod_of_nonneg _ (by decide), Int.zero_add]
theorem rot_none {cs : List Nat} {i : Nat} (h : okRot cs i = true) (hf : (sweepL cs).1.contains (((0 + (i : Int)) - 1).fmod 8) = false) : descAll ((rowsL cs).drop i ++ (rowsL cs).take i) = none := by
  have e := of_decide_eq_true h
  unfold dueL at e
  rw [cut_emod] at hf
  rw [if_neg (by rw [hf]; exact Bool.false_ne_true)] at e
  exact Option.map_eq_none_iff.mp e
theorem rot_some {cs : List Nat} {i : Nat} (h : okRot cs i = true) (hf : (sweepL cs).1.contains (((0 + (i : Int)) - 1).fmod 8) = true) : ∃ ps, descAll ((rowsL cs).drop i ++ (rowsL cs).take i) = some (ps, (sweepL cs).2.1) ∧ ps.reverse = gapsL (-1) (aheadL (sweepL cs).1 i) := by
  have e := of_decide_eq_true h
  unfold dueL at e
  rw [cut_emod] at hf
  rw [if_pos hf] at e
  obtain ⟨p, e1, e2⟩ := Option.map_eq_some_iff.mp e
  obtain ⟨ps, wy⟩ := p
  have h1 : ps.reverse = gapsL (-1) (aheadL (sweepL cs).1 i) := congrArg Prod.fst e2
  have h2 : wy = (sweepL cs).2.1 := congrArg Prod.snd e2
  exact ⟨ps, by rw [e1, h2], h1⟩
end Mine

end PartG5

section FlushL20
open PySem PySem.W PyProof.Rows PySem.Calls
namespace Mine
theorem start_L20 {prog : Program} {w : World} {A : Around} {E : Value → Shared → Prop} {s : Shared} {env : Env} {Q : Flow → Shared → Prop} (h : wpAny (model prog w) A (execs [] env) Q E s) : wpAny (model prog w) A (execs [] env) Q E s := by
  w_top off
  first | (walk1; fail) | exact h
end Mine
end FlushL20
section PartL20
open PySem PySem.W PyProof.Rows PySem.Calls
namespace Mine
noncomputable def yLawR (k : List Stmt) : List Stmt := nth 25 yLawL :: nth 26 yLawL :: k
noncomputable def lawR (k : List Stmt) : List Stmt := (fun (o : List Stmt) (_ : yLawR k = o) => o) _ (by dsimp only [yLawR, yLawL, fB, fnBs, pw, PySem.Challenge.pw_ty0053_01, nth])
section
variable {w : World} {p : Program} {loose : List PySem.Str} {mean : ExcName → Option Value} {mg mb : Str → Option Value} {gB : Heap} {LB sl fa dr : Addr} {cd : Value} {vs ws : List Value} {ns : List Int} {s : Shared} {Q : Flow → Shared → Prop} {E : Value → Shared → Prop} {mm : Str → Option Value} {k : List Stmt} {o1 o2 o3 o4 o5 o6 o7 o8 o9 o10 o11 : Obj} {t1 t2 t3 t4 t5 t6 : Tok} {cr er : Addr} {cs : List Value} {rest : List (Addr × Obj)}
theorem kw_L20_1 : True := by
  k_with_none
  k_with "my_m_look" => first | exact rfl | assumption | ((try dsimp only); repeat' (first | assumption | (refine (if_neg (by decide)).trans ?_) | (exact if_pos (by decide))))
  k_with "my_mem_deep" => (repeat' (first | assumption | exact List.Mem.head _ | refine List.Mem.tail _ ?_))
  k_with "eval Name" => (k_here; (with_reducible show wpAny _ _ (eval (Expr.Name _ _) (envOfC _ _ _ _ _)) _ _ _); k_dflt (refine' ldL ?k1 ?k2 ?_ ?k3 ?k4; (case k3 => rfl); (case k4 => rfl); (case k1 => k_asm); (case k2 => k_extra "my_m_look"); k_whole))
  k_with "eval Name" => (k_here; (with_reducible show wpAny _ _ (eval (Expr.Name _ _) (compEnvC _ _ _ _)) _ _ _); k_dflt (refine' lcf_cell ?N ?c ?m ?d ?_ ?a ?b; (case a => rfl); (case b => rfl); (case N => k_asm); (case c => rfl); (case m => k_extra "my_mem_deep"); (case d => assumption); k_whole))
  k_with "CompEnd" => refine StopIt.out ?_
  k_with "CompSrc" => refine StopIt.out ?_
  k_with "subscriptTail Name Name ref int" => (k_here; (with_reducible show wpAny _ _ (subscriptTail _ _ (Value.ref _) (Value.int _ _)) _ _ _); k_dflt (refine' item_cnt ?N ?hm ?hI ?h8 ?hj ?hi ?_; (case N => k_asm); (case hm => k_extra "my_mem_deep"); (case hI => assumption); (case h8 => assumption); (case hj => exact (Int.zero_add _)); (case hi => assumption); k_whole); intro _)
  k_with "my_k_all" => assumption
  k_with "exec For Name Call cons nil" => (k_here; k_dflt (refine for_start ?_))
  k_with "ForEnd" => refine StopIt.out ?_
  k_with "subscriptTail Name BinOp ref int" => (k_here; (with_reducible show wpAny _ _ (subscriptTail _ _ (Value.ref _) (Value.int (Int.fmod _ 10) _)) _ _ _); k_dflt (refine' item_join ?N ?m ?i ?_; (case N => k_asm); (case m => k_extra "my_mem_deep"); (case i => assumption); k_whole); intro _ _)
  k_with "subscriptTail Name BinOp ref int" => (k_here; (with_reducible show wpAny _ _ (subscriptTail _ _ (Value.ref _) (Value.int (Int.fmod _ 4) _)) _ _ _); k_dflt (refine' item_leaf ?N ?m ?i ?_; (case N => k_asm); (case m => k_extra "my_mem_deep"); (case i => assumption); k_whole); intro _ _)
  k_with "call builtin:list.append" => (k_here; k_dflt (refine' append_K ?k1 ?k2 ?k3 ?_ ?z; (case k1 => k_asm); (case k2 => k_asm); (case k3 => k_upd); (case z => assumption); k_whole); intro _ _ _)
  k_with "call builtin:chr" => (k_here; k_dflt (first | refine chr_join ?_ | refine chr_leaf ?_); intro _ _ _)
  k_with "call ref" => (k_here; (with_reducible show wpAny _ _ (call (Value.ref 172) _) _ _ _); k_dflt (refine' c7_at (Site.mk (by k_asm) (by k_asm) (by k_asm) (by k_asm) (by k_asm) rfl (by decide) (by decide)) ?hb ?_ ?X; (case hb => assumption); (case X => k_asm); k_whole); intro _ _ _ _)
  exact True.intro
theorem rowB_vals {zs : List Value} {c : Nat} (hl : zs.length = c + 1) (hZ : ∀ (j : Nat) (y : Value), zs[j]? = some y → y = Value.bool (decide (j < c))) : zs = (List.replicate c true ++ [false]).map Value.bool := by
  apply List.ext_getElem
  · rw [hl, List.length_map, List.length_append, List.length_replicate, List.length_singleton]
  · intro j h1 h2
    rw [hZ j zs[j] (List.getElem?_eq_getElem h1), List.getElem_map]
    congr 1
    by_cases hj : j < c
    · rw [decide_eq_true hj, List.getElem_append_left (by rw [List.length_replicate]; exact hj), List.getElem_replicate]
    · rw [decide_eq_false hj, List.getElem_append_right (by rw [List.length_replicate]; omega)]
      have : j - (List.replicate c true).length = 0 := by rw [List.length_replicate]; omega
      simp [this]
theorem sg_at {ys : List Value} {y9 : Value} (hY : ∀ (i : Nat) (y : Value), ys[i]? = some y → SgIs true y) (h9 : SgIs false y9) {i : Nat} {v : Value} (hv : (ys.toArray.push y9)[i]? = some v) : SgIs (decide (i < ys.length)) v := by
  rw [List.push_toArray, List.getElem?_toArray] at hv
  by_cases hi : i < ys.length
  · rw [List.getElem?_append_left hi] at hv
    rw [decide_eq_true hi]
    exact hY i v hv
  · rw [List.getElem?_append_right (by omega)] at hv
    rw [decide_eq_false hi]
    cases hh : i - ys.length with
    | zero => rw [hh] at hv; cases hv; exact h9
    | succ q => rw [hh] at hv; cases hv
theorem abs_turn {M : Model} {A : Around} {K0 : Flow → Shared → Prop} {E : Value → Shared → Prop} {s : Shared} {target : Expr} {body : List Stmt} {env : Env} {v : Value} (P : (Flow → Shared → Prop) → Prop) (hP : P K0) (h : ∀ K, P K → wpAny M A (assign target env v) (fun _ s₂ => wpAny M A (execs body env) K E s₂) E s) :
    wpAny M A (assign target env v) (fun _ s₂ => wpAny M A (execs body env) K0 E s₂) E s := h K0 hP
noncomputable def rowB (qs : List Nat) (k : Nat) : List Bool := List.replicate (qs.getD k 0) true ++ [false]
inductive RowJ (ps : Array Value) (qs : List Nat) (LB cr ra ja la fr : Addr) (jv lv fs cs : List Value) (jc lc kf : Nat) (o1 o2 o3 o4 o5 o6 o7 o9 o10 o11 : Obj) (way : Option Value) (i : Nat) (mm : Str → Option Value) : List (Addr × Obj) → Prop
  | mk (rws : RowsT) (kk : Nat) (o8 : Obj) (v8 : Option Value) (rest : List (Addr × Obj)) (d8 : o8.data = .cell v8) (hrw : rws.map (·.2.1) = (List.range i).map (rowB qs)) (hri : RowsIn rws rest) (mr : mm (Str.ofString "rows") = some (.ref ra)) (ml : mm (Str.ofString "leaves") = some (.ref la)) (mw : mm (Str.ofString "way") = way) (q1 : ∀ q ∈ rest, q.1 ≠ ra) (q8 : ∀ q ∈ rest, q.1 ≠ LB + 8) (q11 : ∀ q ∈ rest, q.1 ≠ LB + 11) (hin : (188, tabObj ps) ∈ rest) :
    RowJ ps qs LB cr ra ja la fr jv lv fs cs jc lc kf o1 o2 o3 o4 o5 o6 o7 o9 o10 o11 way i mm (lawLed LB o1 o2 o3 o4 o5 o6 o7 o8 o9 o10 o11 ((ra, listOf (rws.map fun r => Value.ref r.1).toArray kk) :: (ja, listOf (List.toArray jv) jc) :: (la, listOf (List.toArray lv) lc) :: (fr, listOf fs.toArray kf) :: (cr, LCg.lst cs) :: rest))
theorem law_s17 {ps : Array Value} {t : Nat} {ja la fr : Addr} {jv lv fs : List Value} {jc lc kf : Nat} {v8 : Option Value} (H : LawHyp w p loose mean mg mb gB LB sl vs ns) (hE : OwnE w LB fa cd E) (F : Fr gB LB s.heap mm) (N : News gB LB s.heap (lawLed LB o1 o2 o3 o4 o5 o6 o7 o8 o9 o10 o11 ((ja, listOf (List.toArray jv) jc) :: (la, listOf (List.toArray lv) lc) :: (fr, listOf fs.toArray kf) :: (cr, LCg.lst cs) :: (188, tabObj ps) :: [])))
    (e1 : o1.data = .cell (some (.int (drawnL ns).sum t1))) (e5 : o5.data = .cell (some (.ref cr))) (d8 : o8.data = .cell v8) (e10 : o10.data = .cell (some (.ref ja))) (ml : mm (Str.ofString "leaves") = some (.ref la)) (ht : t ≤ 5)
    (hcs : IntsAre cs ((sentL (bsOf ns) t).map fun c : Nat => (c : Int))) (hjv : IntsAre jv joinL) (hlv : IntsAre lv leafL)
    (hoff : LCg.Off1 cr [(LB + 1, o1), (LB + 2, o2), (LB + 3, o3), (LB + 4, o4), (LB + 5, o5), (LB + 6, o6), (LB + 7, o7), (LB + 8, o8), (LB + 9, o9), (LB + 10, o10), (LB + 11, o11), (188, tabObj #[])])
    (l1 : @LT.lt Nat _ (LB + 11) ja) (l2 : @LT.lt Nat _ (LB + 11) la) (l3 : @LT.lt Nat _ (LB + 11) fr)
    (next : ∀ h' tk' mm' rws kk o8' v8' ra rest, Fr gB LB h' mm' → mm' (Str.ofString "rows") = some (.ref ra) → mm' (Str.ofString "way") = mm (Str.ofString "way") → News gB LB h' (lawLed LB o1 o2 o3 o4 o5 o6 o7 o8' o9 o10 o11 ((ra, listOf (List.toArray (rws.map fun r : Addr × List Bool × Nat => Value.ref r.1)) kk) :: (fr, listOf fs.toArray kf) :: rest)) → o8'.data = .cell v8' →
      rws.map (·.2.1) = (List.range 8).map (rowB (sentL (bsOf ns) t)) → RowsIn rws rest → (∀ q ∈ rest, q.1 ≠ LB + 11) → (188, tabObj ps) ∈ rest → @LT.lt Nat _ (LB + 11) ra → wpAny (model rwl.prog w) (callerA.deeper (lawEnv LB fa cd)) (execs k (lawEnv LB fa cd)) Q E { s with heap := h', toks := tk' }) :
    (kF w.params).In gB → wpAny (model rwl.prog w) (callerA.deeper (lawEnv LB fa cd)) (execs (lawR k) (lawEnv LB fa cd)) Q E s := by
  k_fill
  intro X
  obtain ⟨B, T, _, C, hs, hI, hl, lb⟩ := H
  simp only [LCg.Off1, and_true] at hoff
  (((first | refine Mine.and23 hoff ?_ | refine Mine.and22 hoff ?_ | refine Mine.and21 hoff ?_ | refine Mine.and20 hoff ?_ | refine Mine.and19 hoff ?_ | refine Mine.and18 hoff ?_ | refine Mine.and17 hoff ?_ | refine Mine.and16 hoff ?_ | refine Mine.and15 hoff ?_ | refine Mine.and14 hoff ?_ | refine Mine.and13 hoff ?_ | refine Mine.and12 hoff ?_ | refine Mine.and11 hoff ?_); clear hoff; intros))
  have h8 : (sentL (bsOf ns) t).length = 8 := by rw [sent_len]; exact bsOf_len ns
  unfold lawEnv lawS lawR
  unfold OwnE lawEnv lawS at hE
  unfold lawEnv lawS at next
  unfold lawLed at N
  k_steps
  rename_i ra h2 lra F0 N0 tk0 h1 tk1 u1 u2 u3 a1 a2 NN a4
  have N9 := led_in NN
  refine and16 lra ?_
  clear lra
  intro p1 p2 p3 p4 p5 p6 p7 p8 p9 p10 p11 p12 p13 p14 p15 p16
  have q11 : @LE.le Nat _ LB ra := Nat.le_of_lt (Nat.lt_of_le_of_lt (Nat.le_add_right LB 11) p11)
  have n188 : ∀ x : Nat, LB ≤ x → (188 : Nat) ≠ x := fun x hx => Nat.ne_of_lt (Nat.lt_of_lt_of_le lb hx)
  k_dflt (refine' for_range (n := 8) (L := LB) (RowJ ps (sentL (bsOf ns) t) LB cr ra ja la fr jv lv fs cs jc lc kf o1 o2 o3 o4 o5 o6 o7 o9 o10 o11 (mm (Str.ofString "way"))) rfl (by assumption) (by decide) (by rfl) rfl hE (fun _ _ => rfl) (by assumption) N9 ?h0 ?turn ?fin)
  case h0 => exact .mk [] 0 o8 v8 [(188, tabObj ps)] d8 rfl (fun r h => nomatch h) (by k_extra "my_m_look") (by k_extra "my_m_look") (by k_extra "my_m_look") (List.forall_mem_cons.mpr ⟨n188 ra q11, fun q h => nomatch h⟩) (List.forall_mem_cons.mpr ⟨n188 (LB + 8) (Nat.le_add_right LB 8), fun q h => nomatch h⟩) (List.forall_mem_cons.mpr ⟨n188 (LB + 11) (Nat.le_add_right LB 11), fun q h => nomatch h⟩) (.head _)
  case turn =>
    rintro I i t' oI mm2 nw h tk hi' ⟨rws, kk, o8, v8, rest, d8, hrw, hri, mr, ml2, mw2, hq1, hq8, hq11, hin⟩ off FF NN
    unfold lawLed at NN
    have off2 := off
    simp only [lawLed, List.forall_mem_cons] at off2
    refine and17 off2 ?_
    clear off2
    intro f1 f2 f3 f4 f5 f6 f7 f8 f9 f10 f11 fra fja fla ffr fcr frest
    have g8 : @Ne Nat (LB + 8) I := f8
    have gra : @Ne Nat ra I := fra
    have hq := sent_le ns t i
    have hrl : rws.length = i := by
      have e := congrArg List.length hrw
      rw [List.length_map, List.length_map, List.length_range] at e
      exact e
    have hrz : (rws.map fun r => Value.ref r.1).toArray.size ≤ sizeLine := by
      rw [List.size_toArray, List.length_map, hrl]
      exact Nat.le_trans (show i ≤ 8 by omega) (by decide)
    refine abs_turn (fun K => ∀ h9 tk9 mm9 o8' v8' D2 zs, Fr gB LB h9 mm9 → News gB LB h9 ((I, oI) :: lawLed LB o1 o2 o3 o4 o5 o6 o7 o8' o9 o10 o11 ((ra, listOf ((rws ++ [(D2, rowB (sentL (bsOf ns) t) i, zs.length)]).map fun r => Value.ref r.1).toArray (kk + 1)) :: (ja, listOf jv.toArray jc) :: (la, listOf lv.toArray lc) :: (fr, listOf fs.toArray kf) :: (cr, LCg.lst cs) :: (D2, LCg.lst zs) :: rest)) → o8'.data = .cell v8' → zs = (rowB (sentL (bsOf ns) t) i).map Value.bool → @Ne Nat I D2 → @Ne Nat ra D2 → @Ne Nat (LB + 8) D2 → @Ne Nat (LB + 11) D2 →
      mm9 (Str.ofString "rows") = some (.ref ra) → mm9 (Str.ofString "leaves") = some (.ref la) → mm9 (Str.ofString "way") = mm (Str.ofString "way") → K .next { s with heap := h9, toks := tk9 }) ?post ?_
    case post =>
      intro h9 tk9 mm9 o8' v8' D2 zs FF2 NN2 hd8 ez zI zra c8 c11 mr9 ml9 mw9
      refine ForNext.mk (lawLed LB o1 o2 o3 o4 o5 o6 o7 o8' o9 o10 o11 ((ra, listOf ((rws ++ [(D2, rowB (sentL (bsOf ns) t) i, zs.length)]).map fun r => Value.ref r.1).toArray (kk + 1)) :: (ja, listOf jv.toArray jc) :: (la, listOf lv.toArray lc) :: (fr, listOf fs.toArray kf) :: (cr, LCg.lst cs) :: (D2, LCg.lst zs) :: rest)) FF2 NN2 ?off
        (.mk (rws ++ [(D2, rowB (sentL (bsOf ns) t) i, zs.length)]) (kk + 1) _ _ ((D2, LCg.lst zs) :: rest) hd8 ?rw ?ri mr9 ml9 mw9 (List.forall_mem_cons.mpr ⟨fun e => zra e.symm, hq1⟩) (List.forall_mem_cons.mpr ⟨fun e => c8 e.symm, hq8⟩) (List.forall_mem_cons.mpr ⟨fun e => c11 e.symm, hq11⟩) (.tail _ hin))
      case off =>
        simp only [lawLed, List.forall_mem_cons]
        exact ⟨f1, f2, f3, f4, f5, f6, f7, f8, f9, f10, f11, fra, fja, fla, ffr, fcr, fun e => zI e.symm, frest⟩
      case rw =>
        rw [List.map_append, hrw, List.range_succ, List.map_append]
        rfl
      case ri =>
        intro r hr
        rcases List.mem_append.mp hr with h | h
        · exact .tail _ (hri r h)
        · rw [List.mem_singleton.mp h]
          show (D2, listOf ((rowB (sentL (bsOf ns) t) i).map Value.bool).toArray zs.length) ∈ _
          rw [← ez]
          exact .head _
    intro K hK
    k_steps
    unfold StopIt
    refine LCg.CompSrc.range (n := (sentL (bsOf ns) t).getD i 0) (by rfl) (by assumption) (by assumption) (by assumption) (small_len (by omega)) (by rw [rangeSize_nat]; omega) (Nat.le_trans (show _ ≤ 10 by omega) (by decide)) ?_
    intro g
    refine comp_const (fun _ y => SgIs true y) ?_ ?_
    · intro j v I2 oI2 C2 oC2 D2 m2 ys h tk E' hj hv hC hx F5 N5 off5 ne5
      obtain ⟨tj, rfl⟩ := hv
      k_steps
      exact comp_end (by assumption) (by assumption) off5 trivial (by assumption)
    · intro ys hlen hY D h tk F5 N5 off5
      have hof5 := off1_all off5
      simp only [LCg.Off1, and_true] at off5
      (((first | refine Mine.and23 off5 ?_ | refine Mine.and22 off5 ?_ | refine Mine.and21 off5 ?_ | refine Mine.and20 off5 ?_ | refine Mine.and19 off5 ?_ | refine Mine.and18 off5 ?_ | refine Mine.and17 off5 ?_ | refine Mine.and16 off5 ?_ | refine Mine.and15 off5 ?_ | refine Mine.and14 off5 ?_ | refine Mine.and13 off5 ?_ | refine Mine.and12 off5 ?_ | refine Mine.and11 off5 ?_); clear off5; intros))
      have hyz : ys.toArray.size ≤ sizeLine := by
        rw [List.size_toArray, hlen]
        exact Nat.le_trans (show _ ≤ 10 by omega) (by decide)
      have hrD : ∀ q ∈ rest, q.1 ≠ D := fun q hq => hof5 q (by repeat' (first | exact hq | refine List.Mem.tail _ ?_))
      k_steps
      unfold StopIt
      rename SgIs false _ => hs9
      refine LCg.CompSrc.ledger (by rfl) (by assumption) (by assumption) (by k_extra "my_mem_deep") (by rw [Array.size_push, List.size_toArray, hlen]; exact Nat.le_trans (show _ ≤ 11 by omega) (by decide)) ?_
      intro g2
      refine comp_const (fun j y => y = Value.bool (decide (j < ys.length))) ?_ ?_
      · intro j v I3 oI3 C3 oC3 D3 m3 zs h tk E3 hj hv hC3 hx3 F6 N6 off6 ne6
        have hsg := sg_at hY hs9 hv
        k_steps
        exact comp_end (by assumption) (by assumption) off6 (.inr ⟨_, by k_extra "my_mem_deep", rfl, _, rfl⟩) rfl
      · intro zs hlen2 hZ D2 h tk F6 N6 off6
        have hof6 := off1_all off6
        simp only [LCg.Off1, and_true] at off6
        have off6c := off6
        (((first | refine Mine.and23 off6c ?_ | refine Mine.and22 off6c ?_ | refine Mine.and21 off6c ?_ | refine Mine.and20 off6c ?_ | refine Mine.and19 off6c ?_ | refine Mine.and18 off6c ?_ | refine Mine.and17 off6c ?_ | refine Mine.and16 off6c ?_ | refine Mine.and15 off6c ?_ | refine Mine.and14 off6c ?_ | refine Mine.and13 off6c ?_ | refine Mine.and12 off6c ?_ | refine Mine.and11 off6c ?_); clear off6c; intros))
        have hrD2 : ∀ q ∈ rest, q.1 ≠ D2 := fun q hq => hof6 q (by repeat' (first | exact hq | refine List.Mem.tail _ ?_))
        refine and19 off6 ?_
        intro zD zI c1 c2 c3 c4 c5 c6 c7 c8 c9 c10 c11 zra zja zla zfr zcr _
        k_steps
        rename Fr gB LB _ _ => FF2
        rename News gB LB _ _ => NN2
        rename Obj.data _ = Data.cell (some (Value.int _ t')) => hd8
        have ez : zs = (rowB (sentL (bsOf ns) t) i).map Value.bool := by
          refine rowB_vals ?_ (fun j y hy => by rw [← hlen]; exact hZ j y hy)
          rw [hlen2, Array.size_push, List.size_toArray, hlen]
        have em : ((rws ++ [(D2, rowB (sentL (bsOf ns) t) i, zs.length)]).map fun r => Value.ref r.1).toArray = (rws.map fun r => Value.ref r.1).toArray.push (.ref D2) := by
          rw [List.map_append, List.push_toArray]
          rfl
        exact hK _ _ _ _ _ D2 zs FF2 (by rw [em]; (((try unfold lawLed); repeat' (first | exact news_nil | refine news_pick NN2 (by repeat' (first | exact List.Mem.head _ | refine List.Mem.tail _ ?_)) ?_ | exact news_rest NN2 (fun p hp => by repeat' (first | exact hp | refine List.Mem.tail _ ?_)))))) hd8 ez zI zra c8 c11 (by k_extra "my_m_look") (by k_extra "my_m_look") (by k_extra "my_m_look")
  case fin =>
    rintro mm2 nw h tk ⟨rws, kk, o8, v8, rest, d8, hrw, hri, mr, ml2, mw2, hq1, hq8, hq11, hin⟩ FF NN
    dsimp only
    refine next _ _ _ rws kk o8 v8 ra rest FF mr mw2 ?led d8 hrw hri hq11 hin p11
    case led => (((try unfold lawLed); repeat' (first | exact news_nil | refine news_pick NN (by repeat' (first | exact List.Mem.head _ | refine List.Mem.tail _ ?_)) ?_ | exact news_rest NN (fun p hp => by repeat' (first | exact hp | refine List.Mem.tail _ ?_)))))
end
end Mine

end PartL20

section FlushL21
open PySem PySem.W PyProof.Rows PySem.Calls
namespace Mine
theorem start_L21 {prog : Program} {w : World} {A : Around} {E : Value → Shared → Prop} {s : Shared} {env : Env} {Q : Flow → Shared → Prop} (h : wpAny (model prog w) A (execs [] env) Q E s) : wpAny (model prog w) A (execs [] env) Q E s := by
  w_top off
  first | (walk1; fail) | exact h
end Mine
end FlushL21
section PartL21
open PySem PySem.W PyProof.Rows PySem.Calls
namespace Mine
noncomputable def yLawU (k : List Stmt) : List Stmt := nth 27 yLawL :: k
noncomputable def lawU (k : List Stmt) : List Stmt := (fun (o : List Stmt) (_ : yLawU k = o) => o) _ (by dsimp only [yLawU, yLawL, fB, fnBs, pw, PySem.Challenge.pw_ty0053_01, nth])
section
variable {w : World} {p : Program} {loose : List PySem.Str} {mean : ExcName → Option Value} {mg mb : Str → Option Value} {gB : Heap} {LB sl fa dr : Addr} {cd : Value} {vs ws : List Value} {ns : List Int} {s : Shared} {Q : Flow → Shared → Prop} {E : Value → Shared → Prop} {mm : Str → Option Value} {k : List Stmt} {o1 o2 o3 o4 o5 o6 o7 o8 o9 o10 o11 : Obj} {t1 t2 t3 t4 t5 t6 : Tok} {cr er : Addr} {cs : List Value} {rest : List (Addr × Obj)}
theorem kw_L21_1 : True := by
  k_with_none
  k_with "my_m_look" => first | exact rfl | assumption | ((try dsimp only); repeat' (first | assumption | (refine (if_neg (by decide)).trans ?_) | (exact if_pos (by decide))))
  k_with "my_mem_deep" => (repeat' (first | assumption | exact List.Mem.head _ | refine List.Mem.tail _ ?_))
  k_with "eval Name" => (k_here; k_dflt (refine' ldL ?qk1 ?qk2 ?_ ?qk3 ?qk4; (case qk3 => rfl); (case qk4 => rfl); (case qk1 => k_asm); (case qk2 => k_extra "my_m_look"); k_whole))
  k_with "eval Name" => (k_here; (with_reducible show wpAny _ _ (eval (Expr.Name _ _) (compEnvC _ _ _ _)) _ _ _); k_dflt (refine' lcf_cell ?qN ?qc ?qm ?qd ?_ ?qa ?qb; (case qa => rfl); (case qb => rfl); (case qN => k_asm); (case qc => rfl); (case qm => k_extra "my_mem_deep"); (case qd => assumption); k_whole))
  k_with "CompEnd" => refine StopIt.out ?_
  k_with "CompSrc" => refine StopIt.out ?_
  k_with "my_k_all" => assumption
  k_with "exec For Name Call cons nil" => (k_here; k_dflt (refine for_start ?_))
  k_with "ForEnd" => refine StopIt.out ?_
  k_with "compareOp In int ref" => (k_here; k_dflt (refine' in_K ?qN ?qm ?qi ?qb ?_; (case qN => k_asm); (case qm => k_extra "my_mem_deep"); (case qi => assumption); (case qb => assumption); k_whole))
  k_with "call builtin:sorted" => (k_here; (with_reducible show wpAny _ _ (call (Value.builtin _) [Value.ref _]) _ _ _); refine StopIt.out ?_)
  k_with "call type:zip" => (k_here; refine StopIt.out ?_)
  k_with "compareOp NotEq ref ref" => (k_here; refine StopIt.out ?_)
  k_with "call ref" => (k_here; (with_reducible show wpAny _ _ (call (Value.ref 198) _) _ _ _); refine StopIt.out ?_)
  k_with "eval ListComp" => (k_here; (with_reducible show wpAny _ _ (eval (PySem.Expr.ListComp _ [⟨PySem.Expr.Tuple _ _ _, _, _, _⟩] _ _) _) _ _ _); k_dflt (refine comp_zip (_F₀ := by k_asm) (by with_unfolding_all rfl) (by decide) (by rfl) (by decide) (by rfl) (by rfl) (by decide) ?_))
  k_with "subscriptTail Name Slice ref ref" => ((k_here; (with_reducible show wpAny _ _ (subscriptTail _ (PySem.Expr.Slice (some _) none none _) _ _) _ _ _); k_dflt (refine' slice_from_K ?qF ?qN ?qm ?qa ?qb ?qz ?_ ?qs ?qt; (case qF => k_asm); (case qN => k_asm); (case qm => k_extra "my_mem_deep"); (case qa => with_reducible assumption); (case qb => with_reducible assumption); (case qz => with_reducible assumption); (case qs => with_unfolding_all rfl); (case qt => intro _; with_unfolding_all rfl)); intro _ _ _ _ l1; (try k_lt l1)); (revert l1; intro _))
  k_with "subscriptTail Name Slice ref ref" => ((k_here; (with_reducible show wpAny _ _ (subscriptTail _ (PySem.Expr.Slice none (some _) none _) _ _) _ _ _); k_dflt (refine' slice_upto_K ?qF ?qN ?qm ?qa ?qb ?qz ?_ ?qs ?qt; (case qF => k_asm); (case qN => k_asm); (case qm => k_extra "my_mem_deep"); (case qa => with_reducible assumption); (case qb => with_reducible assumption); (case qz => with_reducible assumption); (case qs => with_unfolding_all rfl); (case qt => intro _; with_unfolding_all rfl)); intro _ _ _ _ l1; (try k_lt l1)); (revert l1; intro _))
  k_with "binaryOp Add ref ref" => ((k_here; k_dflt (refine' add_LL ?qF ?qN ?ql ?qb ?qz ?_; (case qF => k_asm); (case qN => k_asm); (case ql => k_extra "my_mem_deep"); (case qb => k_extra "my_mem_deep"); (case qz => first | with_reducible assumption | (rename ∀ v : Value, _ ≤ 1000 => h9; exact h9 _)); k_whole); intro _ _ _ _ l1; (try k_lt l1)); (revert l1; intro _))
  exact True.intro
theorem map_getD {β : Type} (f : Int → β) : ∀ l : List Int, (List.range l.length).map (fun j => f (l.getD j 0)) = l.map f
  | [] => rfl
  | x :: l => by
    rw [List.length_cons, List.range_succ_eq_map, List.map_cons, List.map_map]
    show f x :: (List.range l.length).map (fun j => f (l.getD j 0)) = _
    rw [map_getD f l]
    rfl
inductive CutJ (LB ra fr : Addr) (fs : List Value) (rows : List Value) (kk kf : Nat) (o1 o2 o3 o4 o5 o6 o7 o8 o9 o10 : Obj) (rest : List (Addr × Obj)) (way : Int) (tw : Tok) (i : Nat) (mm : Str → Option Value) : List (Addr × Obj) → Prop
  | mk (o11 : Obj) (v11 : Option Value) (d11 : o11.data = .cell v11) (mr : mm (Str.ofString "rows") = some (.ref ra)) (mw : mm (Str.ofString "way") = some (.int way tw)) : CutJ LB ra fr fs rows kk kf o1 o2 o3 o4 o5 o6 o7 o8 o9 o10 rest way tw i mm (lawLed LB o1 o2 o3 o4 o5 o6 o7 o8 o9 o10 o11 ((ra, listOf (List.toArray rows) kk) :: (fr, listOf fs.toArray kf) :: rest))
theorem law_s18 {t : Nat} {ra fr : Addr} {rws : RowsT} {fs : List Value} {kk kf : Nat} {v11 : Option Value} {tw : Tok} (H : LawHyp w p loose mean mg mb gB LB sl vs ns) (hE : OwnE w LB fa cd E) (F : Fr gB LB s.heap mm) (N : News gB LB s.heap (lawLed LB o1 o2 o3 o4 o5 o6 o7 o8 o9 o10 o11 ((ra, listOf (List.toArray (rws.map fun r => Value.ref r.1)) kk) :: (fr, listOf fs.toArray kf) :: rest)))
    (e9 : o9.data = .cell (some (.ref fr))) (d11 : o11.data = .cell v11) (mr : mm (Str.ofString "rows") = some (.ref ra)) (mw : mm (Str.ofString "way") = some (.int (sweepL (sentL (bsOf ns) t)).2.1 tw)) (ht : t ≤ 5) (hfs : IntsAre fs (sweepL (sentL (bsOf ns) t)).1)
    (hrw : rws.map (·.2.1) = rowsL (sentL (bsOf ns) t)) (hri : RowsIn rws rest) (hq11 : ∀ q ∈ rest, q.1 ≠ LB + 11) (l1 : @LT.lt Nat _ (LB + 11) ra) (l2 : @LT.lt Nat _ (LB + 11) fr) (hok : okCs (sentL (bsOf ns) t) = true)
    (next : ∀ h' tk' mm' o11', Fr gB LB h' mm' → News gB LB h' (lawLed LB o1 o2 o3 o4 o5 o6 o7 o8 o9 o10 o11' ((ra, listOf (List.toArray (rws.map fun r => Value.ref r.1)) kk) :: (fr, listOf fs.toArray kf) :: rest)) → wpAny (model rwl.prog w) (callerA.deeper (lawEnv LB fa cd)) (execs k (lawEnv LB fa cd)) Q E { s with heap := h', toks := tk' }) :
    (kF w.params).In gB → wpAny (model rwl.prog w) (callerA.deeper (lawEnv LB fa cd)) (execs (lawU k) (lawEnv LB fa cd)) Q E s := by
  k_fill
  intro X
  obtain ⟨B, T, _, C, hs, hI, hl, lb⟩ := H
  unfold lawEnv lawS lawU
  unfold OwnE lawEnv lawS at hE
  unfold lawEnv lawS at next
  unfold lawLed at N
  obtain ⟨-, hrot, -, hah⟩ := ok_parts hok
  have hrl : rws.length = 8 := by
    have e := congrArg List.length hrw
    unfold rowsL at e
    rw [List.length_map, List.length_map, List.length_range] at e
    exact e
  have hrow : ∀ r ∈ rws, r.2.1.length ≤ 20 := by
    intro r hr
    have hm : r.2.1 ∈ rowsL (sentL (bsOf ns) t) := by rw [← hrw]; exact List.mem_map.mpr ⟨r, hr, rfl⟩
    obtain ⟨k, _, e⟩ := List.mem_map.mp hm
    rw [← e, List.length_append, List.length_replicate, List.length_singleton]
    have := sent_le ns t k
    omega
  have hfl : (sweepL (sentL (bsOf ns) t)).1.length ≤ 16 := sweep_len _ 16
  k_steps
  k_dflt (refine' for_range (n := 8) (L := LB) (CutJ LB ra fr fs (rws.map fun r => Value.ref r.1) kk kf o1 o2 o3 o4 o5 o6 o7 o8 o9 o10 rest (sweepL (sentL (bsOf ns) t)).2.1 tw) rfl (by assumption) (by decide) (by rfl) rfl hE (fun _ _ => rfl) (by assumption) (by assumption) ?h0 ?turn ?fin)
  case h0 => exact .mk o11 v11 d11 (by k_extra "my_m_look") (by k_extra "my_m_look")
  case fin =>
    rintro mm2 nw h tk ⟨o11', v11', d11', mr2, mw2⟩ FF NN
    dsimp only
    exact next _ _ _ _ FF NN
  case turn =>
    rintro I i t' oI mm2 nw h tk hi' ⟨o11, v11, d11, mr, mw⟩ off FF NN
    unfold lawLed at NN
    have off2 := off
    simp only [lawLed, List.forall_mem_cons] at off2
    refine and14 off2 ?_
    clear off2
    intro f1 f2 f3 f4 f5 f6 f7 f8 f9 f10 f11 fra ffr frest
    have g11 : @Ne Nat (LB + 11) I := f11
    refine abs_turn (fun K => ∀ h9 tk9 mm9 o11' v11', Fr gB LB h9 mm9 → News gB LB h9 ((I, oI) :: lawLed LB o1 o2 o3 o4 o5 o6 o7 o8 o9 o10 o11' ((ra, listOf (List.toArray (rws.map fun r => Value.ref r.1)) kk) :: (fr, listOf fs.toArray kf) :: rest)) → o11'.data = .cell v11' → mm9 (Str.ofString "rows") = some (.ref ra) → mm9 (Str.ofString "way") = some (.int (sweepL (sentL (bsOf ns) t)).2.1 tw) → K .next { s with heap := h9, toks := tk9 }) ?post ?_
    case post =>
      intro h9 tk9 mm9 o11' v11' FF9 NN9 hd9 mr9 mw9
      refine ForNext.mk (lawLed LB o1 o2 o3 o4 o5 o6 o7 o8 o9 o10 o11' ((ra, listOf (List.toArray (rws.map fun r => Value.ref r.1)) kk) :: (fr, listOf fs.toArray kf) :: rest)) FF9 NN9 ?_ (.mk _ _ hd9 mr9 mw9)
      simp only [lawLed, List.forall_mem_cons]
      exact ⟨f1, f2, f3, f4, f5, f6, f7, f8, f9, f10, f11, fra, ffr, frest⟩
    intro K hK
    have hz0 : 0 ≤ 0 + (i : Int) := by omega
    have hz1 : 0 + (i : Int) ≤ ((rws.map fun r => Value.ref r.1).length : Int) := by rw [List.length_map, hrl]; omega
    have hz2 : (rws.map fun r => Value.ref r.1).length ≤ 1000 := by rw [List.length_map, hrl]; decide
    have hz3 : ((rws.map fun r => Value.ref r.1).drop (0 + (i : Int)).toNat).length + ((rws.map fun r => Value.ref r.1).take (0 + (i : Int)).toNat).length ≤ 1000 := by
      rw [List.length_drop, List.length_take, List.length_map, hrl]
      omega
    have hn : (0 + (i : Int)).toNat = i := by omega
    have hrE : (rws.drop i ++ rws.take i).map (fun r => Value.ref r.1) = (rws.map fun r => Value.ref r.1).drop (0 + (i : Int)).toNat ++ (rws.map fun r => Value.ref r.1).take (0 + (i : Int)).toNat := by
      rw [hn, List.map_append, List.map_drop, List.map_take]
    have hrB : (rws.drop i ++ rws.take i).map (·.2.1) = (rowsL (sentL (bsOf ns) t)).drop i ++ (rowsL (sentL (bsOf ns) t)).take i := by
      rw [← hrw, List.map_append, List.map_drop, List.map_take]
    have hsub : ∀ r ∈ rws.drop i ++ rws.take i, r ∈ rws := fun r hr => (List.mem_append.mp hr).elim List.mem_of_mem_drop List.mem_of_mem_take
    have hl20 : (rws.drop i ++ rws.take i).length ≤ 20 := by
      rw [List.length_append, List.length_drop, List.length_take, hrl]
      omega
    cases hb : (sweepL (sentL (bsOf ns) t)).1.contains (((0 + (i : Int)) - 1).fmod 8) with
    | false =>
      have hnone := rot_none (hrot i hi') hb
      k_steps
      unfold StopIt
      rename Fr gB LB _ _ => FF2
      rename News gB LB _ _ => NN2
      refine described_ctr (rws := rws.drop i ++ rws.take i) (Site.mk (by k_asm) FF2 (by k_asm) NN2 (by k_asm) rfl (by decide) (by decide)) (by rw [hrE]; k_extra "my_mem_deep") (fun r hr => by repeat' (first | exact hri r (hsub r hr) | refine List.Mem.tail _ ?_)) hl20 (fun r hr => hrow r (hsub r hr)) ?_ ?_ (by k_asm)
      · intro _ h9 tk9 F9 N9
        k_steps
        all_goals (
          rename Fr gB LB _ _ => FF9
          rename News gB LB _ _ => NN9
          rename Obj.data _ = Data.cell (some (Value.int _ t')) => hd9
          exact hK _ _ _ _ _ FF9 (by (((try unfold lawLed); repeat' (first | exact news_nil | refine news_pick NN9 (by repeat' (first | exact List.Mem.head _ | refine List.Mem.tail _ ?_)) ?_ | exact news_rest NN9 (fun p hp => by repeat' (first | exact hp | refine List.Mem.tail _ ?_)))))) hd9 (by k_extra "my_m_look") (by k_extra "my_m_look"))
      · intro ps wy e
        rw [hrB, hnone] at e
        cases e
    | true =>
      obtain ⟨ps0, hdesc, hps⟩ := rot_some (hrot i hi') hb
      k_steps
      unfold StopIt
      refine LCg.CompSrc.ledger (by rfl) (by assumption) (by assumption) (by k_extra "my_mem_deep") (by rw [List.size_toArray, hfs.length]; exact Nat.le_trans hfl (by decide)) ?_
      intro g
      refine comp_const (fun j y => ∃ u : Tok, y = Value.int (((sweepL (sentL (bsOf ns) t)).1.getD j 0 - (0 + (i : Int))).fmod 8) u) ?_ ?_
      · intro j v I2 oI2 C2 oC2 D2 m2 ys h tk E2 hj hv hC hx F5 N5 off5 ne5
        obtain ⟨x, u, rfl, hx5⟩ := IntsAre.at hfs j v (by simpa using hv)
        have hg : (sweepL (sentL (bsOf ns) t)).1.getD j 0 = x := by rw [List.getD_eq_getElem?_getD, hx5]; rfl
        k_steps
        exact comp_end (by assumption) (by assumption) off5 (.inr ⟨_, by k_extra "my_mem_deep", rfl, _, rfl⟩) ⟨_, by rw [hg]⟩
      · intro ys hlen hY D h tk F5 N5 off5
        have hys := ints_of ys _ hY
        rw [hlen, List.size_toArray, hfs.length, map_getD fun k => (k - (0 + (i : Int))).fmod 8] at hys
        have hyl : ((sweepL (sentL (bsOf ns) t)).1.map fun k => (k - (0 + (i : Int))).fmod 8).length < 64 := by rw [List.length_map]; omega
        simp only [LCg.Off1, and_true] at off5
        (((first | refine Mine.and23 off5 ?_ | refine Mine.and22 off5 ?_ | refine Mine.and21 off5 ?_ | refine Mine.and20 off5 ?_ | refine Mine.and19 off5 ?_ | refine Mine.and18 off5 ?_ | refine Mine.and17 off5 ?_ | refine Mine.and16 off5 ?_ | refine Mine.and15 off5 ?_ | refine Mine.and14 off5 ?_ | refine Mine.and13 off5 ?_ | refine Mine.and12 off5 ?_ | refine Mine.and11 off5 ?_); clear off5; intros))
        k_steps
        unfold StopIt
        rename Fr gB LB _ _ => FF2
        rename News gB LB _ _ => NN2
        refine kso_sorted FF2 NN2 (led_list NN2 (by k_extra "my_mem_deep")) hys hyl ?_
        intro D2 vs2 ns2 c2 h2 F6 N6 l6 i6 e6 p6 s6 z6
        clear z6
        have ea := ahead_is (hah i hi') p6 s6
        have hal : (aheadL (sweepL (sentL (bsOf ns) t)).1 i).length ≤ 8 := by
          have := List.length_filter_le (fun j => (sweepL (sentL (bsOf ns) t)).1.contains ((j + (i : Int)) % 8)) ((List.range 8).map fun j => ((j : Nat) : Int))
          rw [List.length_map, List.length_range] at this
          exact this
        subst ea
        have hvl := i6.length
        have h100 : ∀ v : Value, [v].length + vs2.length ≤ 1000 := fun v => by
          show 1 + vs2.length ≤ 1000
          omega
        clear hys hyl p6 s6 e6
        k_lt l6
        k_steps
        unfold StopIt
        rename Fr gB LB _ _ => FF3
        rename News gB LB _ _ => NN3
        refine zip_src (fun j y => ∃ u : Tok, y = Value.int ((aheadL (sweepL (sentL (bsOf ns) t)).1 i).getD j 0 - ((-1) :: (aheadL (sweepL (sentL (bsOf ns) t)).1 i)).getD j 0) u) rfl FF3 NN3 (by k_extra "my_mem_deep") (by k_extra "my_mem_deep") (by omega) (gap_turn (as := (-1) :: (aheadL (sweepL (sentL (bsOf ns) t)).1 i)) (bs := (aheadL (sweepL (sentL (bsOf ns) t)).1 i)) (.cons _ _ i6) i6 rfl (by rfl) (by rfl) (by decide) (by decide)) ?_
        intro zs D3 h3 tk3 e1 e2 F7 N7 off7
        have hzl : zs.length = (aheadL (sweepL (sentL (bsOf ns) t)).1 i).length := by
          rw [e1, List.length_cons, hvl]
          exact Nat.min_eq_right (Nat.le_succ _)
        have hzs := ints_of zs _ e2
        rw [hzl, gaps_at] at hzs
        clear e1 e2
        simp only [LCg.Off1, and_true] at off7
        (((first | refine Mine.and23 off7 ?_ | refine Mine.and22 off7 ?_ | refine Mine.and21 off7 ?_ | refine Mine.and20 off7 ?_ | refine Mine.and19 off7 ?_ | refine Mine.and18 off7 ?_ | refine Mine.and17 off7 ?_ | refine Mine.and16 off7 ?_ | refine Mine.and15 off7 ?_ | refine Mine.and14 off7 ?_ | refine Mine.and13 off7 ?_ | refine Mine.and12 off7 ?_ | refine Mine.and11 off7 ?_); clear off7; intros))
        k_steps
        unfold StopIt
        rename Fr gB LB _ _ => FF4
        rename News gB LB _ _ => NN4
        refine described_ctr (rws := rws.drop i ++ rws.take i) (Site.mk (by k_asm) FF4 (by k_asm) NN4 (by k_asm) rfl (by decide) (by decide)) (by rw [hrE]; k_extra "my_mem_deep") (fun r hr => by repeat' (first | exact hri r (hsub r hr) | refine List.Mem.tail _ ?_)) hl20 (fun r hr => hrow r (hsub r hr)) ?_ ?_ (by k_asm)
        · intro e
          rw [hrB, hdesc] at e
          cases e
        · intro ps wy e D4 fl us ku tw4 h4 tk4 F8 N8 hus lfl lt4 lD
          rw [hrB, hdesc] at e
          cases e
          rw [hps] at hus
          k_lt lfl
          k_lt lD
          k_steps
          unfold StopIt
          rename News gB LB _ _ => NN5
          refine ne_due NN5 (by k_extra "my_mem_deep") (by k_extra "my_mem_deep") (by k_extra "my_mem_deep") (by k_extra "my_mem_deep") hus hzs (by ke_room) ?_
          k_steps
          all_goals (
            rename Fr gB LB _ _ => FF9
            rename News gB LB _ _ => NN9
            rename Obj.data _ = Data.cell (some (Value.int _ t')) => hd9
            exact hK _ _ _ _ _ FF9 (by (((try unfold lawLed); repeat' (first | exact news_nil | refine news_pick NN9 (by repeat' (first | exact List.Mem.head _ | refine List.Mem.tail _ ?_)) ?_ | exact news_rest NN9 (fun p hp => by repeat' (first | exact hp | refine List.Mem.tail _ ?_)))))) hd9 (by k_extra "my_m_look") (by k_extra "my_m_look"))
end
end Mine

end PartL21

section FlushL19
open PySem PySem.W PyProof.Rows PySem.Calls
namespace Mine
theorem start_L19 {prog : Program} {w : World} {A : Around} {E : Value → Shared → Prop} {s : Shared} {env : Env} {Q : Flow → Shared → Prop} (h : wpAny (model prog w) A (execs [] env) Q E s) : wpAny (model prog w) A (execs [] env) Q E s := by
  w_top off
  first | (walk1; fail) | exact h
end Mine
end FlushL19
section PartL19
open PySem PySem.W PyProof.Rows PySem.Calls
namespace Mine
noncomputable def yLawQ (k : List Stmt) : List Stmt := nth 23 yLawL :: nth 24 yLawL :: k
noncomputable def lawQ (k : List Stmt) : List Stmt := (fun (o : List Stmt) (_ : yLawQ k = o) => o) _ (by dsimp only [yLawQ, yLawL, fB, fnBs, pw, PySem.Challenge.pw_ty0053_01, nth])
section
variable {w : World} {p : Program} {loose : List PySem.Str} {mean : ExcName → Option Value} {mg mb : Str → Option Value} {gB : Heap} {LB sl fa dr : Addr} {cd : Value} {vs ws : List Value} {ns : List Int} {s : Shared} {Q : Flow → Shared → Prop} {E : Value → Shared → Prop} {mm : Str → Option Value} {k : List Stmt} {o1 o2 o3 o4 o5 o6 o7 o8 o9 o10 o11 : Obj} {t1 t2 t3 t4 t5 t6 : Tok} {cr er : Addr} {cs : List Value} {rest : List (Addr × Obj)}
theorem kw_L19_1 : True := by
  k_with_none
  k_with "my_m_look" => first | exact rfl | assumption | ((try dsimp only); repeat' (first | assumption | (refine (if_neg (by decide)).trans ?_) | (exact if_pos (by decide))))
  k_with "my_mem_deep" => (repeat' (first | assumption | exact List.Mem.head _ | refine List.Mem.tail _ ?_))
  k_with "eval Name" => (k_here; k_dflt (refine' ldL ?k1 ?k2 ?_ ?k3 ?k4; (case k3 => rfl); (case k4 => rfl); (case k1 => k_asm); (case k2 => k_extra "my_m_look"); k_whole))
  k_with "call type:list" => ((k_here; (with_reducible show wpAny _ _ (call (Value.type _) [Value.ref _]) _ _ _); (with_unfolding_all refine' kll_range ?k0 ?k1 ?k2 ?k3 ?k4 ?k5 ?k6 ?_; (case k0 => rfl); (case k1 => k_asm); (case k2 => k_asm); (case k3 => (rename IsRange _ _ _ _ _ _ _ _ => rgX; exact rgX)); (case k4 => decide); (case k5 => exact (show _ = ((8 : Nat) : Int) from rfl)); (case k6 => decide); k_whole); intro _ _ _ _ _ _ _ l1 _; (try k_lt l1); (try k_sweep)); (revert l1; intro _))
  k_with "binaryOp Add ref ref" => ((k_here; k_dflt (refine' add_LL (xs := [_, _]) ?F ?N ?l ?b ?z ?_; (case F => k_asm); (case N => k_asm); (case l => k_extra "my_mem_deep"); (case b => k_extra "my_mem_deep"); (case z => (rename IntsAre _ _ => hI9; rw [hI9.length]; decide)); k_whole); intro _ _ _ _ l1; (try k_lt l1)); (revert l1; intro _))
  exact True.intro
theorem law_s16 {ps : Array Value} {fr : Addr} {fs : List Value} {kf : Nat} {v10 : Option Value} (H : LawHyp w p loose mean mg mb gB LB sl vs ns) (F : Fr gB LB s.heap mm) (N : News gB LB s.heap (lawLed LB o1 o2 o3 o4 o5 o6 o7 o8 o9 o10 o11 ((fr, listOf fs.toArray kf) :: (cr, LCg.lst cs) :: (188, tabObj ps) :: [])))
    (d10 : o10.data = .cell v10) (l1 : @LT.lt Nat _ (LB + 11) fr) (l2 : @LT.lt Nat _ cr fr)
    (hoff : LCg.Off1 cr [(LB + 1, o1), (LB + 2, o2), (LB + 3, o3), (LB + 4, o4), (LB + 5, o5), (LB + 6, o6), (LB + 7, o7), (LB + 8, o8), (LB + 9, o9), (LB + 10, o10), (LB + 11, o11), (188, tabObj #[])])
    (next : ∀ h' tk' mm' o10' ja jv jc la lv lc, Fr gB LB h' mm' → (∀ y, y ≠ Str.ofString "leaves" → mm' y = mm y) → mm' (Str.ofString "leaves") = some (.ref la) →
      News gB LB h' (lawLed LB o1 o2 o3 o4 o5 o6 o7 o8 o9 o10' o11 ((ja, listOf (List.toArray jv) jc) :: (la, listOf (List.toArray lv) lc) :: (fr, listOf fs.toArray kf) :: (cr, LCg.lst cs) :: (188, tabObj ps) :: [])) → o10'.data = .cell (some (.ref ja)) → IntsAre jv joinL → IntsAre lv leafL →
      @LT.lt Nat _ (LB + 11) ja → @LT.lt Nat _ ja la → @LT.lt Nat _ (LB + 11) la → wpAny (model rwl.prog w) (callerA.deeper (lawEnv LB fa cd)) (execs k (lawEnv LB fa cd)) Q E { s with heap := h', toks := tk' }) :
    (kF w.params).In gB → wpAny (model rwl.prog w) (callerA.deeper (lawEnv LB fa cd)) (execs (lawQ k) (lawEnv LB fa cd)) Q E s := by
  k_fill
  intro X
  obtain ⟨B, T, _, C, hs, hI, hl, lb⟩ := H
  simp only [LCg.Off1, and_true] at hoff
  (((first | refine Mine.and23 hoff ?_ | refine Mine.and22 hoff ?_ | refine Mine.and21 hoff ?_ | refine Mine.and20 hoff ?_ | refine Mine.and19 hoff ?_ | refine Mine.and18 hoff ?_ | refine Mine.and17 hoff ?_ | refine Mine.and16 hoff ?_ | refine Mine.and15 hoff ?_ | refine Mine.and14 hoff ?_ | refine Mine.and13 hoff ?_ | refine Mine.and12 hoff ?_ | refine Mine.and11 hoff ?_); clear hoff; intros))
  unfold lawEnv lawS lawQ
  unfold lawLed at N
  k_steps
  rename_i ja jv h3 hI9 lj h2 o10' hd10 la h1 ll h0 F9 N9
  rw [range_join] at hI9
  refine next _ _ _ o10' ja jv 0 la [.int 12271 tk, .int 12284 (tk + 1), .int 97 (tk + 1 + 1), .int 19968 (tk + 1 + 1 + 1)] 0 F9 (fun y hy => if_neg hy) (by k_extra "my_m_look") ?led hd10 hI9 (.cons _ _ (.cons _ _ (.cons _ _ (.cons _ _ .nil)))) lj.2.2.2.2.2.2.2.2.2.2.2.2.1 ll.1 ll.2.2.2.2.2.2.2.2.2.2.2.2.2.1
  case led => (((try unfold lawLed); repeat' (first | exact news_nil | refine news_pick N9 (by repeat' (first | exact List.Mem.head _ | refine List.Mem.tail _ ?_)) ?_ | exact news_rest N9 (fun p hp => by repeat' (first | exact hp | refine List.Mem.tail _ ?_)))))
end
end Mine

end PartL19

section FlushM0
open PySem PySem.W PyProof.Rows PySem.Calls
namespace Mine
theorem start_M0 {prog : Program} {w : World} {A : Around} {E : Value → Shared → Prop} {s : Shared} {env : Env} {Q : Flow → Shared → Prop} (h : wpAny (model prog w) A (execs [] env) Q E s) : wpAny (model prog w) A (execs [] env) Q E s := by
  w_top off
  first | (walk1; fail) | exact h
end Mine
end FlushM0
section PartM0
open PySem PySem.W PyProof.Rows PySem.Calls
namespace Mine
theorem fmods_bound : ∀ l : List Int, 0 ≤ (l.map fun k' => k'.fmod 1000000).sum ∧ (l.map fun k' => k'.fmod 1000000).sum ≤ 999999 * (l.length : Int)
  | [] => ⟨Int.le_refl _, Int.le_refl _⟩
  | x :: l => by
    have h0 := Int.fmod_nonneg_of_pos x (show (0 : Int) < 1000000 by decide)
    have h1 := Int.fmod_lt_of_pos x (show (0 : Int) < 1000000 by decide)
    have h2 := fmods_bound l
    rw [List.map_cons, List.sum_cons, List.length_cons]
    omega
theorem drawn_sum (ns : List Int) : 0 ≤ (drawnL ns).sum ∧ (drawnL ns).sum < 4000000 := by
  unfold drawnL
  rw [List.sum_append]
  have h := fmods_bound (ns.take 3)
  have hl : (ns.take 3).length ≤ 3 := by rw [List.length_take]; exact Nat.min_le_left _ _
  have e : ([518, 2671] : List Int).sum = 3189 := rfl
  omega
theorem bound_le (ns : List Int) : boundT (lsOf ns) ≤ 5 := by
  unfold boundT
  exact Nat.le_trans (Nat.div_le_self _ _) (by omega)
theorem cars_cast (qs : List Nat) : carsTo qs 8 = (carsL qs).map fun c : Nat => (c : Int) := by
  unfold carsTo carsL
  rw [List.map_flatMap]
  refine congrArg List.flatten (List.map_congr_left fun k _ => ?_)
  rw [List.map_replicate]
theorem cars_back {on : List Int} {cs : List Nat} (h : on.Perm (cs.map fun c : Nat => (c : Int))) : ∃ cars : List Nat, on = cars.map (fun c : Nat => (c : Int)) ∧ cars.Perm cs := by
  refine ⟨on.map Int.toNat, ?_, ?_⟩
  · rw [List.map_map]
    have hm : ∀ x ∈ on, ((fun c : Nat => (c : Int)) ∘ Int.toNat) x = x := fun x hx => by
      obtain ⟨c, _, rfl⟩ := List.mem_map.mp (h.subset hx)
      rfl
    rw [List.map_congr_left hm, List.map_id'']
    intro x
    rfl
  · have h2 := h.map Int.toNat
    rw [List.map_map] at h2
    have e : (cs.map (Int.toNat ∘ fun c : Nat => (c : Int))) = cs := by
      rw [show (Int.toNat ∘ fun c : Nat => (c : Int)) = id from rfl, List.map_id]
    rw [e] at h2
    exact h2
theorem pk_parts {cs : List Nat} (h : okPk cs = true) : ∃ S wy, parkAll (carsL cs) = some (S, wy) ∧ (wy : Int) = (sweepL cs).2.1 ∧ hsOf S = busyL (sweepL cs).1 8 := by
  unfold okPk at h
  cases e : parkAll (carsL cs) with
  | none => rw [e] at h; cases h
  | some q =>
    obtain ⟨S, wy⟩ := q
    rw [e] at h
    simp only [Bool.and_eq_true, decide_eq_true_eq] at h
    exact ⟨S, wy, rfl, h.1.1, h.1.2⟩
theorem led_rest {g h : Heap} {LB : Addr} {a1 a2 a3 a4 a5 a6 a7 a8 a9 a10 a11 : Obj} {rest rest' : List (Addr × Obj)} (N : News g LB h (lawLed LB a1 a2 a3 a4 a5 a6 a7 a8 a9 a10 a11 rest)) (hs : ∀ p ∈ rest', p ∈ rest) : News g LB h (lawLed LB a1 a2 a3 a4 a5 a6 a7 a8 a9 a10 a11 rest') := by
  have N' := N
  unfold lawLed at N ⊢
  repeat' (first | refine news_pick N (by repeat' (first | exact List.Mem.head _ | refine List.Mem.tail _ ?_)) ?_)
  exact news_rest N' fun p hp => by
    unfold lawLed
    repeat' (first | exact hs p hp | refine List.Mem.tail _ ?_)
theorem off_drop {D a b : Addr} {oa ob : Obj} {b1 b2 b3 b4 b5 b6 b7 b8 b9 b10 b11 : Addr × Obj} (h : LCg.Off1 D [b1, b2, b3, b4, b5, b6, b7, b8, b9, b10, b11, (a, oa), (b, ob)]) : LCg.Off1 D [b1, b2, b3, b4, b5, b6, b7, b8, b9, b10, b11, (b, ob)] := by
  obtain ⟨a1, a2, a3, a4, a5, a6, a7, a8, a9, a10, a11, _, a13, _⟩ := h
  exact ⟨a1, a2, a3, a4, a5, a6, a7, a8, a9, a10, a11, a13, trivial⟩
noncomputable def yLawT : List Stmt := [nth 28 yLawL]
noncomputable def lawRet : List Stmt := (fun (o : List Stmt) (_ : yLawT = o) => o) _ (by dsimp only [yLawT, yLawL, fB, fnBs, pw, PySem.Challenge.pw_ty0053_01, nth])
section
variable {w : World} {p : Program} {loose : List PySem.Str} {mean : ExcName → Option Value} {mg mb : Str → Option Value} {gB : Heap} {LB sl fa : Addr} {cd : Value} {vs : List Value} {ns : List Int} {s : Shared} {Q : Flow → Shared → Prop} {E : Value → Shared → Prop} {mm : Str → Option Value} {o1 o2 o3 o4 o5 o6 o7 o8 o9 o10 o11 : Obj}
theorem law_all (H : LawHyp w p loose mean mg mb gB LB sl vs ns) (hE : OwnE w LB fa cd E) (F : Fr gB LB s.heap mm) (N : News gB LB s.heap (lawLed LB o1 o2 o3 o4 o5 o6 o7 o8 o9 o10 o11 ((188, tabObj #[]) :: [])))
    (d1 : ∃ v, o1.data = .cell v) (d2 : ∃ v, o2.data = .cell v) (d3 : ∃ v, o3.data = .cell v) (d4 : ∃ v, o4.data = .cell v) (d5 : ∃ v, o5.data = .cell v) (d6 : ∃ v, o6.data = .cell v) (d7 : ∃ v, o7.data = .cell v) (d8 : ∃ v, o8.data = .cell v) (d9 : ∃ v, o9.data = .cell v) (d10 : ∃ v, o10.data = .cell v) (d11 : ∃ v, o11.data = .cell v)
    (ms : mm (Str.ofString "script") = some (.ref sl)) (X : (kF w.params).In gB)
    (fin : ∀ h' tk' mm' ps led, Fr gB LB h' mm' → News gB LB h' led → (188, tabObj ps) ∈ led → wpAny (model rwl.prog w) (callerA.deeper (lawEnv LB fa cd)) (execs lawRet (lawEnv LB fa cd)) Q E { s with heap := h', toks := tk' }) :
    wpAny (model rwl.prog w) (callerA.deeper (lawEnv LB fa cd)) (execs (lawA (lawB (lawC (lawD (lawE (lawF (lawG (lawH (lawI (lawJ (lawK (lawM (lawN (lawO (lawP (lawQ (lawR (lawU lawRet)))))))))))))))))) (lawEnv LB fa cd)) Q E s := by
  obtain ⟨t, et, htb⟩ := times_is ns
  have ht : t ≤ 5 := Nat.le_trans htb (bound_le ns)
  have hok : okCs (sentL (bsOf ns) t) = true := by
    have h := ok_script ns
    unfold okLs at h
    rw [List.all_eq_true] at h
    exact h t (List.mem_range.mpr (by omega))
  obtain ⟨hpk, hrot, hcars, hah⟩ := ok_parts hok
  obtain ⟨S, wy, hpark, hwy, hS⟩ := pk_parts hpk
  obtain ⟨v8, d8⟩ := d8
  obtain ⟨v10, d10⟩ := d10
  obtain ⟨v11, d11⟩ := d11
  have hsum := drawn_sum ns
  refine law_s1 H F N d1 d2 ms (fun h1 k1 dr ws o1 o2 t1 t2 F N hdr e1 e2 ldr => ?_) X
  refine law_s2 H F N d3 (if_pos rfl) hdr e2 ldr (fun h2 k2 o3 t3 F N e3 => ?_) X
  refine law_s3 H F N d4 (if_pos rfl) hdr ldr (fun h3 k3 o4 t4 F N e4 => ?_) X
  refine law_s4 H F N e2 e3 e4 d5 ldr (fun h4 k4 o5 cr cs F N e5 hc8 hcY hoff => ?_) X
  have hcs : IntsAre cs (cntL ns) := by
    have h := ints_of cs _ hcY
    rw [hc8] at h
    exact h
  refine law_s5 H F N e1 e5 hcs hdr d6 d7 (if_pos rfl) hoff ldr (fun h5 k5 o6 o7 er t6 te1 te2 te3 F N e6 e7 l1 l2 l3 => ?_) X
  refine law_s6 H F N e1 e2 e4 e7 l1 l2 l3 ldr (fun h6 k6 tu F N => ?_) X
  have hoff' := off_drop hoff
  have N := led_rest (rest' := (cr, LCg.lst cs) :: (188, tabObj #[]) :: []) N (fun p hp => by
    rcases List.mem_cons.mp hp with rfl | hp
    · exact .tail _ (.head _)
    · rcases List.mem_cons.mp hp with rfl | hp
      · exact .tail _ (.tail _ (.tail _ (.head _)))
      · exact nomatch hp)
  have hcs2 : IntsAre cs ((bsOf ns).map fun c : Nat => (c : Int)) := by
    unfold bsOf
    rw [← cntL_base]
    exact hcs
  rw [et] at e6
  refine law_s7 H F N e2 e5 hcs2 (if_pos rfl) hoff' (fun h7 k7 F N => ?_) X
  refine law_s8 H hE F N e6 ht (if_pos rfl) (fun h8 k8 mm8 tm F mail N => ?_) X
  refine law_s9 H F N e5 e6 ht hcs2 hoff' (fun h9 k9 o5 cr2 cs2 F N e5 hcs3 hoff3 => ?_) X
  have hoff4 := off_drop hoff3
  refine law_s10 H F N e2 e5 ht hcs3 mail hoff4 (fun h10 k10 F N => ?_) X
  refine law_s11 H hE F N e5 d8 ht hcs3 hoff4 (fun h11 k11 mm11 o8 v8 ca cv ck F mc N d8 hcv lc1 lc2 => ?_) X
  have hcl : (carsTo (sentL (bsOf ns) t) 8).length < 8 := by rw [cars_cast, List.length_map]; exact hcars
  refine law_s12 H hE F N e1 mc hcv hcl hsum.1 hsum.2 lc1 lc2 (fun h12 k12 mm12 oa us on ko ca2 us2 ck2 F mo N hus hperm lo1 lo2 => ?_) X
  have N := led_rest (rest' := (oa, listOf us ko) :: (cr2, LCg.lst cs2) :: (188, tabObj #[]) :: []) N (fun p hp => by
    rcases List.mem_cons.mp hp with rfl | hp
    · exact .head _
    · exact .tail _ (.tail _ hp))
  refine law_s13 H F N e5 d9 mo hcs3 hoff4 lo1 lo2 (fun h13 k13 mm13 tw o9 fr fs kf F mo mw N e9 hfs lf1 lf2 lf3 => ?_) X
  rw [cars_cast] at hperm
  obtain ⟨cars, eon, hcp⟩ := cars_back hperm
  rw [eon] at hus
  rw [← hwy] at mw
  have eu : us = us.toList.toArray := by rw [Array.toArray_toList]
  rw [eu] at N
  refine law_s14 H F N e1 mo mw hus (by rw [hcp.length_eq]; exact hcars) ((parkAll_perm hcp).trans hpark) hoff4 lo1 lf1 (fun h14 k14 mm14 tw2 fl hv ku ps F mw mh md N hhs => ?_) X
  refine law_s15 H F N e9 mw mh md hfs hhs hS (fun h15 k15 F N => ?_) X
  refine law_s16 H F N d10 lf1 lf2 hoff4 (fun h16 k16 mm16 o10 ja jv jc la lv lc F hmm ml N e10 hjv hlv lj1 lj2 lj3 => ?_) X
  refine law_s17 H hE F N e1 e5 d8 e10 ml ht hcs3 hjv hlv hoff4 lj1 lj3 lf1 (fun h17 k17 mm17 rws kk o8 v8 ra rest F mr mw2 N d8 hrw hri hq11 hin lr => ?_) X
  rw [hmm _ (by decide), mw, hwy] at mw2
  refine law_s18 H hE F N e9 d11 mr mw2 ht hfs hrw hri hq11 lr lf1 hok (fun h18 k18 mm18 o11 F N => ?_) X
  refine fin _ _ _ ps _ F N ?_
  unfold lawLed
  repeat' (first | exact hin | refine List.Mem.tail _ ?_)
end
end Mine

end PartM0

section FlushM1
open PySem PySem.W PyProof.Rows PySem.Calls
namespace Mine
theorem start_M1 {prog : Program} {w : World} {A : Around} {E : Value → Shared → Prop} {s : Shared} {env : Env} {Q : Flow → Shared → Prop} (h : wpAny (model prog w) A (execs [] env) Q E s) : wpAny (model prog w) A (execs [] env) Q E s := by
  w_top off
  first | (walk1; fail) | exact h
end Mine
end FlushM1
section PartM1
open PySem PySem.W PyProof.Rows PySem.Calls
namespace Mine
theorem kc_step {cm : Str → Option Value} {n : Str} {c : Addr} {l : List (Str × Addr)} {cells : List (Addr × Obj)} {C : Prop} (x : CellsAre cm ((n, c) :: l) cells) (k : ∀ o r, cells = (c, o) :: r → o.data = .cell (cm n) → CellsAre cm l r → C) : C := by
  cases x with | cons h r => exact k _ _ rfl h r
theorem kc_none {cm : Str → Option Value} {cells : List (Addr × Obj)} {C : Prop} (x : CellsAre cm [] cells) (k : cells = [] → C) : C := by
  cases x; exact k rfl
theorem kc_eq {c : Addr} {o : Obj} {l r r' : List (Addr × Obj)} (e : l = (c, o) :: r) (e' : r = r') : l = (c, o) :: r' := e.trans (congrArg _ e')
theorem kc_eleven {cm : Str → Option Value} {n₁ n₂ n₃ n₄ n₅ n₆ n₇ n₈ n₉ n₁₀ n₁₁ : Str} {c₁ c₂ c₃ c₄ c₅ c₆ c₇ c₈ c₉ c₁₀ c₁₁ : Addr} {cells : List (Addr × Obj)} {C : Prop} (x : CellsAre cm [(n₁, c₁), (n₂, c₂), (n₃, c₃), (n₄, c₄), (n₅, c₅), (n₆, c₆), (n₇, c₇), (n₈, c₈), (n₉, c₉), (n₁₀, c₁₀), (n₁₁, c₁₁)] cells)
    (k : ∀ o₁ o₂ o₃ o₄ o₅ o₆ o₇ o₈ o₉ o₁₀ o₁₁, cells = [(c₁, o₁), (c₂, o₂), (c₃, o₃), (c₄, o₄), (c₅, o₅), (c₆, o₆), (c₇, o₇), (c₈, o₈), (c₉, o₉), (c₁₀, o₁₀), (c₁₁, o₁₁)] → o₁.data = .cell (cm n₁) → o₂.data = .cell (cm n₂) → o₃.data = .cell (cm n₃) → o₄.data = .cell (cm n₄) → o₅.data = .cell (cm n₅) → o₆.data = .cell (cm n₆) → o₇.data = .cell (cm n₇) → o₈.data = .cell (cm n₈) → o₉.data = .cell (cm n₉) → o₁₀.data = .cell (cm n₁₀) → o₁₁.data = .cell (cm n₁₁) → C) : C :=
  kc_step x fun o₁ r1 e1 h₁ x1 => kc_step x1 fun o₂ r2 e2 h₂ x2 => kc_step x2 fun o₃ r3 e3 h₃ x3 => kc_step x3 fun o₄ r4 e4 h₄ x4 => kc_step x4 fun o₅ r5 e5 h₅ x5 => kc_step x5 fun o₆ r6 e6 h₆ x6 => kc_step x6 fun o₇ r7 e7 h₇ x7 => kc_step x7 fun o₈ r8 e8 h₈ x8 => kc_step x8 fun o₉ r9 e9 h₉ x9 => kc_step x9 fun o₁₀ r10 e10 h₁₀ x10 => kc_step x10 fun o₁₁ r11 e11 h₁₁ x11 => kc_none x11 fun e => k o₁ o₂ o₃ o₄ o₅ o₆ o₇ o₈ o₉ o₁₀ o₁₁ (kc_eq e1 (kc_eq e2 (kc_eq e3 (kc_eq e4 (kc_eq e5 (kc_eq e6 (kc_eq e7 (kc_eq e8 (kc_eq e9 (kc_eq e10 (e11.trans (congrArg _ e)))))))))))) h₁ h₂ h₃ h₄ h₅ h₆ h₇ h₈ h₉ h₁₀ h₁₁
local macro_rules | `(tactic| cells_open $x:ident) => `(tactic| (refine Mine.kc_eleven $x ?_; intro _ _ _ _ _ _ _ _ _ _ _ he _ _ _ _ _ _ _ _ _ _ _; subst he))
theorem hd_of_walk2 (d : DefRec) (kwd : List (Str × Expr)) (e : defOf vq rwl.row.name = some (d, kwd)) (hc : WalkO vq lz (XL vq []) hK.says rwl.row.toRowW d kwd fun f vs => PySem.call f vs) : rwl.Holds :=
  hd_of_walk fun d' kwd' h => by rw [e] at h; cases h; exact hc
theorem whole : rwl.Holds := by
  refine hd_of_walk2 _ _ (by rfl) ?_
  delta hK
  k_fill
  intro w s₀ s₁ mg mb G Y fa o pm cd doc dV kV ho hd hcd hD hmg hg args vals as hpre hlay hrd hwl hlo
  have KX := km_in_of Y
  km_tabs Y
  have X := (Ground.X G).1
  have V := (Ground.X G).2
  refine Ground.open G ?_
  intro T B D TE TW
  try (refine guard_noD D (by decide +kernel) ?_; clear D)
  km_lay T hmg ho hd cd
  clear hmg
  wrow_args hpre hlay hrd hwl hlo
  all_goals (
    first | refine callC_kw (enter_call ?_) | refine enter_call ?_
    w_top on
    kn_posts
    w_call any ho hd hcd hD T F
    clear hd
    kn_ghosts F T
    k_drop
    skip)
  rename News _ _ _ _ => NN
  rename Fr _ _ _ _ => FF
  rename Below _ _ _ _ => BB
  rename Top _ _ _ _ _ _ => TT
  rename (kF _).In _ => XX
  rename IntsAre _ _ => II
  refine' law_all (H := ⟨BB, TT, XX, codeHd, lifted, II, ?hl, ?lb⟩) ?hE FF ?N ?d1 ?d2 ?d3 ?d4 ?d5 ?d6 ?d7 ?d8 ?d9 ?d10 ?d11 ?ms XX ?fin
  case N =>
    unfold lawLed
    repeat' (first | exact news_nil | refine news_pick NN (by repeat' (first | exact List.Mem.head _ | refine List.Mem.tail _ ?_)) ?_)
  case hl => omega
  case lb => assumption
  case hE => first | passes_own | with_unfolding_all passes_own
  case d1 => exact ⟨_, by assumption⟩
  case d2 => exact ⟨_, by assumption⟩
  case d3 => exact ⟨_, by assumption⟩
  case d4 => exact ⟨_, by assumption⟩
  case d5 => exact ⟨_, by assumption⟩
  case d6 => exact ⟨_, by assumption⟩
  case d7 => exact ⟨_, by assumption⟩
  case d8 => exact ⟨_, by assumption⟩
  case d9 => exact ⟨_, by assumption⟩
  case d10 => exact ⟨_, by assumption⟩
  case d11 => exact ⟨_, by assumption⟩
  case ms => rfl
  case fin =>
    intro h' tk' mm' ps led F' N' hm
    unfold lawRet lawEnv lawS
    k_steps
end Mine

end PartM1

theorem PySem.Challenge.cw_ty0053_01_holds : PySem.Challenge.rw_ty0053_01.Holds := by
  exact Mine.whole
