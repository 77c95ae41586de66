import PyProof.Rows.All
import Wide.All
import OpenK.AllK
import Wide.FinOn
import PySem.Challenge.RW_ij0148_01
set_option Elab.async false
set_option linter.all false
set_option maxRecDepth 100000
namespace Mine
section
open PySem PySem.W PyProof.Rows
noncomputable abbrev pr : Program := PySem.Challenge.pw_ij0148_01
noncomputable def stmtAt (i : Nat) : Stmt := PySem.Challenge.pw_ij0148_01.main.body.getD i (.Pass default)
noncomputable def stmtIn : Stmt → Nat → Stmt
  | .ClassDef _ _ _ b .., j => b.getD j (.Pass default)
  | s, _ => s
noncomputable def bodyOf : Stmt → List Stmt
  | .FunctionDef _ _ b .. => b
  | _ => []
noncomputable def paramsOf : Stmt → Arguments
  | .FunctionDef _ a .. => a
  | _ => ⟨[], [], none, [], [], none, []⟩
noncomputable def scopeOf : Stmt → Scope
  | .FunctionDef _ _ _ _ _ _ s .. => s
  | _ => default
noncomputable def given {α : Type} (x y : α) (_ : x = y) : α := y
-- _wall
noncomputable def prm_0 : Arguments := by
  refine given (paramsOf (stmtAt 0)) ?y ?h
  case h => conv => lhs; whnf
noncomputable def bod_0 : List Stmt := by
  refine given (bodyOf (stmtAt 0)) ?y ?h
  case h => conv => lhs; whnf
noncomputable def scp_0 : Scope := by
  refine given (scopeOf (stmtAt 0)) ?y ?h
  case h => conv => lhs; whnf
-- _WallAttr.__init__
noncomputable def prm_1_0 : Arguments := by
  refine given (paramsOf (stmtIn (stmtAt 1) 0)) ?y ?h
  case h => conv => lhs; whnf
noncomputable def bod_1_0 : List Stmt := by
  refine given (bodyOf (stmtIn (stmtAt 1) 0)) ?y ?h
  case h => conv => lhs; whnf
noncomputable def scp_1_0 : Scope := by
  refine given (scopeOf (stmtIn (stmtAt 1) 0)) ?y ?h
  case h => conv => lhs; whnf
-- _WallAttr.__get__
noncomputable def prm_1_1 : Arguments := by
  refine given (paramsOf (stmtIn (stmtAt 1) 1)) ?y ?h
  case h => conv => lhs; whnf
noncomputable def bod_1_1 : List Stmt := by
  refine given (bodyOf (stmtIn (stmtAt 1) 1)) ?y ?h
  case h => conv => lhs; whnf
noncomputable def scp_1_1 : Scope := by
  refine given (scopeOf (stmtIn (stmtAt 1) 1)) ?y ?h
  case h => conv => lhs; whnf
-- skip_chars
noncomputable def prm_22 : Arguments := by
  refine given (paramsOf (stmtAt 22)) ?y ?h
  case h => conv => lhs; whnf
noncomputable def bod_22 : List Stmt := by
  refine given (bodyOf (stmtAt 22)) ?y ?h
  case h => conv => lhs; whnf
noncomputable def scp_22 : Scope := by
  refine given (scopeOf (stmtAt 22)) ?y ?h
  case h => conv => lhs; whnf
-- skip_until
noncomputable def prm_23 : Arguments := by
  refine given (paramsOf (stmtAt 23)) ?y ?h
  case h => conv => lhs; whnf
noncomputable def bod_23 : List Stmt := by
  refine given (bodyOf (stmtAt 23)) ?y ?h
  case h => conv => lhs; whnf
noncomputable def scp_23 : Scope := by
  refine given (scopeOf (stmtAt 23)) ?y ?h
  case h => conv => lhs; whnf
-- parse_key
noncomputable def prm_24 : Arguments := by
  refine given (paramsOf (stmtAt 24)) ?y ?h
  case h => conv => lhs; whnf
noncomputable def bod_24 : List Stmt := by
  refine given (bodyOf (stmtAt 24)) ?y ?h
  case h => conv => lhs; whnf
noncomputable def scp_24 : Scope := by
  refine given (scopeOf (stmtAt 24)) ?y ?h
  case h => conv => lhs; whnf
-- parse_key_part
noncomputable def prm_25 : Arguments := by
  refine given (paramsOf (stmtAt 25)) ?y ?h
  case h => conv => lhs; whnf
noncomputable def bod_25 : List Stmt := by
  refine given (bodyOf (stmtAt 25)) ?y ?h
  case h => conv => lhs; whnf
noncomputable def scp_25 : Scope := by
  refine given (scopeOf (stmtAt 25)) ?y ?h
  case h => conv => lhs; whnf
-- parse_one_line_basic_str
noncomputable def prm_26 : Arguments := by
  refine given (paramsOf (stmtAt 26)) ?y ?h
  case h => conv => lhs; whnf
noncomputable def bod_26 : List Stmt := by
  refine given (bodyOf (stmtAt 26)) ?y ?h
  case h => conv => lhs; whnf
noncomputable def scp_26 : Scope := by
  refine given (scopeOf (stmtAt 26)) ?y ?h
  case h => conv => lhs; whnf
-- parse_basic_str_escape
noncomputable def prm_27 : Arguments := by
  refine given (paramsOf (stmtAt 27)) ?y ?h
  case h => conv => lhs; whnf
noncomputable def bod_27 : List Stmt := by
  refine given (bodyOf (stmtAt 27)) ?y ?h
  case h => conv => lhs; whnf
noncomputable def scp_27 : Scope := by
  refine given (scopeOf (stmtAt 27)) ?y ?h
  case h => conv => lhs; whnf
-- parse_basic_str_escape_multiline
noncomputable def prm_28 : Arguments := by
  refine given (paramsOf (stmtAt 28)) ?y ?h
  case h => conv => lhs; whnf
noncomputable def bod_28 : List Stmt := by
  refine given (bodyOf (stmtAt 28)) ?y ?h
  case h => conv => lhs; whnf
noncomputable def scp_28 : Scope := by
  refine given (scopeOf (stmtAt 28)) ?y ?h
  case h => conv => lhs; whnf
-- parse_hex_char
noncomputable def prm_29 : Arguments := by
  refine given (paramsOf (stmtAt 29)) ?y ?h
  case h => conv => lhs; whnf
noncomputable def bod_29 : List Stmt := by
  refine given (bodyOf (stmtAt 29)) ?y ?h
  case h => conv => lhs; whnf
noncomputable def scp_29 : Scope := by
  refine given (scopeOf (stmtAt 29)) ?y ?h
  case h => conv => lhs; whnf
-- parse_literal_str
noncomputable def prm_30 : Arguments := by
  refine given (paramsOf (stmtAt 30)) ?y ?h
  case h => conv => lhs; whnf
noncomputable def bod_30 : List Stmt := by
  refine given (bodyOf (stmtAt 30)) ?y ?h
  case h => conv => lhs; whnf
noncomputable def scp_30 : Scope := by
  refine given (scopeOf (stmtAt 30)) ?y ?h
  case h => conv => lhs; whnf
-- parse_basic_str
noncomputable def prm_31 : Arguments := by
  refine given (paramsOf (stmtAt 31)) ?y ?h
  case h => conv => lhs; whnf
noncomputable def bod_31 : List Stmt := by
  refine given (bodyOf (stmtAt 31)) ?y ?h
  case h => conv => lhs; whnf
noncomputable def scp_31 : Scope := by
  refine given (scopeOf (stmtAt 31)) ?y ?h
  case h => conv => lhs; whnf
-- suffixed_err
noncomputable def prm_32 : Arguments := by
  refine given (paramsOf (stmtAt 32)) ?y ?h
  case h => conv => lhs; whnf
noncomputable def bod_32 : List Stmt := by
  refine given (bodyOf (stmtAt 32)) ?y ?h
  case h => conv => lhs; whnf
noncomputable def scp_32 : Scope := by
  refine given (scopeOf (stmtAt 32)) ?y ?h
  case h => conv => lhs; whnf
-- is_unicode_scalar_value
noncomputable def prm_33 : Arguments := by
  refine given (paramsOf (stmtAt 33)) ?y ?h
  case h => conv => lhs; whnf
noncomputable def bod_33 : List Stmt := by
  refine given (bodyOf (stmtAt 33)) ?y ?h
  case h => conv => lhs; whnf
noncomputable def scp_33 : Scope := by
  refine given (scopeOf (stmtAt 33)) ?y ?h
  case h => conv => lhs; whnf
-- _law_forms
noncomputable def prm_35 : Arguments := by
  refine given (paramsOf (stmtAt 35)) ?y ?h
  case h => conv => lhs; whnf
noncomputable def bod_35 : List Stmt := by
  refine given (bodyOf (stmtAt 35)) ?y ?h
  case h => conv => lhs; whnf
noncomputable def scp_35 : Scope := by
  refine given (scopeOf (stmtAt 35)) ?y ?h
  case h => conv => lhs; whnf
-- _law_at
noncomputable def prm_36 : Arguments := by
  refine given (paramsOf (stmtAt 36)) ?y ?h
  case h => conv => lhs; whnf
noncomputable def bod_36 : List Stmt := by
  refine given (bodyOf (stmtAt 36)) ?y ?h
  case h => conv => lhs; whnf
noncomputable def scp_36 : Scope := by
  refine given (scopeOf (stmtAt 36)) ?y ?h
  case h => conv => lhs; whnf
-- _law_key
noncomputable def prm_37 : Arguments := by
  refine given (paramsOf (stmtAt 37)) ?y ?h
  case h => conv => lhs; whnf
noncomputable def bod_37 : List Stmt := by
  refine given (bodyOf (stmtAt 37)) ?y ?h
  case h => conv => lhs; whnf
noncomputable def scp_37 : Scope := by
  refine given (scopeOf (stmtAt 37)) ?y ?h
  case h => conv => lhs; whnf
-- _law_wanting
noncomputable def prm_38 : Arguments := by
  refine given (paramsOf (stmtAt 38)) ?y ?h
  case h => conv => lhs; whnf
noncomputable def bod_38 : List Stmt := by
  refine given (bodyOf (stmtAt 38)) ?y ?h
  case h => conv => lhs; whnf
noncomputable def scp_38 : Scope := by
  refine given (scopeOf (stmtAt 38)) ?y ?h
  case h => conv => lhs; whnf
-- _law_turned
noncomputable def prm_39 : Arguments := by
  refine given (paramsOf (stmtAt 39)) ?y ?h
  case h => conv => lhs; whnf
noncomputable def bod_39 : List Stmt := by
  refine given (bodyOf (stmtAt 39)) ?y ?h
  case h => conv => lhs; whnf
noncomputable def scp_39 : Scope := by
  refine given (scopeOf (stmtAt 39)) ?y ?h
  case h => conv => lhs; whnf
-- law
noncomputable def prm_40 : Arguments := by
  refine given (paramsOf (stmtAt 40)) ?y ?h
  case h => conv => lhs; whnf
noncomputable def bod_40 : List Stmt := by
  refine given (bodyOf (stmtAt 40)) ?y ?h
  case h => conv => lhs; whnf
noncomputable def scp_40 : Scope := by
  refine given (scopeOf (stmtAt 40)) ?y ?h
  case h => conv => lhs; whnf
noncomputable abbrev o_0 (P : Params) : Obj := ⟨(.type "dict"), .none, (.dict [⟨PyData.keyHash P (Str.ofString "__name__"), (.str (Str.ofString "__name__") 1), (.str (Str.ofString "builtins") 160)⟩, ⟨PyData.keyHash P (Str.ofString "__doc__"), (.str (Str.ofString "__doc__") 2), (.builtin "builtins.__doc__:str#opaque")⟩, ⟨PyData.keyHash P (Str.ofString "__package__"), (.str (Str.ofString "__package__") 3), (.builtin "builtins.__package__:str#opaque")⟩, ⟨PyData.keyHash P (Str.ofString "__loader__"), (.str (Str.ofString "__loader__") 4), (.builtin "builtins.__loader__:shared#opaque")⟩, ⟨PyData.keyHash P (Str.ofString "__spec__"), (.str (Str.ofString "__spec__") 5), (.builtin "builtins.__spec__#opaque")⟩, ⟨PyData.keyHash P (Str.ofString "__build_class__"), (.str (Str.ofString "__build_class__") 6), (.builtin "__build_class__")⟩, ⟨PyData.keyHash P (Str.ofString "__import__"), (.str (Str.ofString "__import__") 7), (.builtin "__import__")⟩, ⟨PyData.keyHash P (Str.ofString "abs"), (.str (Str.ofString "abs") 8), (.builtin "abs")⟩, ⟨PyData.keyHash P (Str.ofString "all"), (.str (Str.ofString "all") 9), (.builtin "all")⟩, ⟨PyData.keyHash P (Str.ofString "any"), (.str (Str.ofString "any") 10), (.builtin "any")⟩, ⟨PyData.keyHash P (Str.ofString "ascii"), (.str (Str.ofString "ascii") 11), (.builtin "ascii")⟩, ⟨PyData.keyHash P (Str.ofString "bin"), (.str (Str.ofString "bin") 12), (.builtin "bin")⟩, ⟨PyData.keyHash P (Str.ofString "breakpoint"), (.str (Str.ofString "breakpoint") 13), (.builtin "breakpoint")⟩, ⟨PyData.keyHash P (Str.ofString "callable"), (.str (Str.ofString "callable") 14), (.builtin "callable")⟩, ⟨PyData.keyHash P (Str.ofString "chr"), (.str (Str.ofString "chr") 15), (.builtin "chr")⟩, ⟨PyData.keyHash P (Str.ofString "compile"), (.str (Str.ofString "compile") 16), (.builtin "compile")⟩, ⟨PyData.keyHash P (Str.ofString "delattr"), (.str (Str.ofString "delattr") 17), (.builtin "delattr")⟩, ⟨PyData.keyHash P (Str.ofString "dir"), (.str (Str.ofString "dir") 18), (.builtin "dir")⟩, ⟨PyData.keyHash P (Str.ofString "divmod"), (.str (Str.ofString "divmod") 19), (.builtin "divmod")⟩, ⟨PyData.keyHash P (Str.ofString "eval"), (.str (Str.ofString "eval") 20), (.builtin "eval")⟩, ⟨PyData.keyHash P (Str.ofString "exec"), (.str (Str.ofString "exec") 21), (.builtin "exec")⟩, ⟨PyData.keyHash P (Str.ofString "format"), (.str (Str.ofString "format") 22), (.builtin "format")⟩, ⟨PyData.keyHash P (Str.ofString "getattr"), (.str (Str.ofString "getattr") 23), (.builtin "getattr")⟩, ⟨PyData.keyHash P (Str.ofString "globals"), (.str (Str.ofString "globals") 24), (.builtin "globals")⟩, ⟨PyData.keyHash P (Str.ofString "hasattr"), (.str (Str.ofString "hasattr") 25), (.builtin "hasattr")⟩, ⟨PyData.keyHash P (Str.ofString "hash"), (.str (Str.ofString "hash") 26), (.builtin "hash")⟩, ⟨PyData.keyHash P (Str.ofString "hex"), (.str (Str.ofString "hex") 27), (.builtin "hex")⟩, ⟨PyData.keyHash P (Str.ofString "id"), (.str (Str.ofString "id") 28), (.builtin "id")⟩, ⟨PyData.keyHash P (Str.ofString "input"), (.str (Str.ofString "input") 29), (.builtin "input")⟩, ⟨PyData.keyHash P (Str.ofString "isinstance"), (.str (Str.ofString "isinstance") 30), (.builtin "isinstance")⟩, ⟨PyData.keyHash P (Str.ofString "issubclass"), (.str (Str.ofString "issubclass") 31), (.builtin "issubclass")⟩, ⟨PyData.keyHash P (Str.ofString "iter"), (.str (Str.ofString "iter") 32), (.builtin "iter")⟩, ⟨PyData.keyHash P (Str.ofString "aiter"), (.str (Str.ofString "aiter") 33), (.builtin "aiter")⟩, ⟨PyData.keyHash P (Str.ofString "len"), (.str (Str.ofString "len") 34), (.builtin "len")⟩, ⟨PyData.keyHash P (Str.ofString "locals"), (.str (Str.ofString "locals") 35), (.builtin "locals")⟩, ⟨PyData.keyHash P (Str.ofString "max"), (.str (Str.ofString "max") 36), (.builtin "max")⟩, ⟨PyData.keyHash P (Str.ofString "min"), (.str (Str.ofString "min") 37), (.builtin "min")⟩, ⟨PyData.keyHash P (Str.ofString "next"), (.str (Str.ofString "next") 38), (.builtin "next")⟩, ⟨PyData.keyHash P (Str.ofString "anext"), (.str (Str.ofString "anext") 39), (.builtin "anext")⟩, ⟨PyData.keyHash P (Str.ofString "oct"), (.str (Str.ofString "oct") 40), (.builtin "oct")⟩, ⟨PyData.keyHash P (Str.ofString "ord"), (.str (Str.ofString "ord") 41), (.builtin "ord")⟩, ⟨PyData.keyHash P (Str.ofString "pow"), (.str (Str.ofString "pow") 42), (.builtin "pow")⟩, ⟨PyData.keyHash P (Str.ofString "print"), (.str (Str.ofString "print") 43), (.builtin "print")⟩, ⟨PyData.keyHash P (Str.ofString "repr"), (.str (Str.ofString "repr") 44), (.builtin "repr")⟩, ⟨PyData.keyHash P (Str.ofString "round"), (.str (Str.ofString "round") 45), (.builtin "round")⟩, ⟨PyData.keyHash P (Str.ofString "setattr"), (.str (Str.ofString "setattr") 46), (.builtin "setattr")⟩, ⟨PyData.keyHash P (Str.ofString "sorted"), (.str (Str.ofString "sorted") 47), (.builtin "sorted")⟩, ⟨PyData.keyHash P (Str.ofString "sum"), (.str (Str.ofString "sum") 48), (.builtin "sum")⟩, ⟨PyData.keyHash P (Str.ofString "vars"), (.str (Str.ofString "vars") 49), (.builtin "vars")⟩, ⟨PyData.keyHash P (Str.ofString "None"), (.str (Str.ofString "None") 50), .none⟩, ⟨PyData.keyHash P (Str.ofString "Ellipsis"), (.str (Str.ofString "Ellipsis") 51), .ellipsis⟩, ⟨PyData.keyHash P (Str.ofString "NotImplemented"), (.str (Str.ofString "NotImplemented") 52), .notImplemented⟩, ⟨PyData.keyHash P (Str.ofString "False"), (.str (Str.ofString "False") 53), (.bool false)⟩, ⟨PyData.keyHash P (Str.ofString "True"), (.str (Str.ofString "True") 54), (.bool true)⟩, ⟨PyData.keyHash P (Str.ofString "bool"), (.str (Str.ofString "bool") 55), (.type "bool")⟩, ⟨PyData.keyHash P (Str.ofString "memoryview"), (.str (Str.ofString "memoryview") 56), (.type "memoryview")⟩, ⟨PyData.keyHash P (Str.ofString "bytearray"), (.str (Str.ofString "bytearray") 57), (.type "bytearray")⟩, ⟨PyData.keyHash P (Str.ofString "bytes"), (.str (Str.ofString "bytes") 58), (.type "bytes")⟩, ⟨PyData.keyHash P (Str.ofString "classmethod"), (.str (Str.ofString "classmethod") 59), (.type "classmethod")⟩, ⟨PyData.keyHash P (Str.ofString "complex"), (.str (Str.ofString "complex") 60), (.type "complex")⟩, ⟨PyData.keyHash P (Str.ofString "dict"), (.str (Str.ofString "dict") 61), (.type "dict")⟩, ⟨PyData.keyHash P (Str.ofString "enumerate"), (.str (Str.ofString "enumerate") 62), (.type "enumerate")⟩, ⟨PyData.keyHash P (Str.ofString "filter"), (.str (Str.ofString "filter") 63), (.type "filter")⟩, ⟨PyData.keyHash P (Str.ofString "float"), (.str (Str.ofString "float") 64), (.type "float")⟩, ⟨PyData.keyHash P (Str.ofString "frozenset"), (.str (Str.ofString "frozenset") 65), (.type "frozenset")⟩, ⟨PyData.keyHash P (Str.ofString "property"), (.str (Str.ofString "property") 66), (.type "property")⟩, ⟨PyData.keyHash P (Str.ofString "int"), (.str (Str.ofString "int") 67), (.type "int")⟩, ⟨PyData.keyHash P (Str.ofString "list"), (.str (Str.ofString "list") 68), (.type "list")⟩, ⟨PyData.keyHash P (Str.ofString "map"), (.str (Str.ofString "map") 69), (.type "map")⟩, ⟨PyData.keyHash P (Str.ofString "object"), (.str (Str.ofString "object") 70), (.type "object")⟩, ⟨PyData.keyHash P (Str.ofString "range"), (.str (Str.ofString "range") 71), (.type "range")⟩, ⟨PyData.keyHash P (Str.ofString "reversed"), (.str (Str.ofString "reversed") 72), (.type "reversed")⟩, ⟨PyData.keyHash P (Str.ofString "set"), (.str (Str.ofString "set") 73), (.type "set")⟩, ⟨PyData.keyHash P (Str.ofString "slice"), (.str (Str.ofString "slice") 74), (.type "slice")⟩, ⟨PyData.keyHash P (Str.ofString "staticmethod"), (.str (Str.ofString "staticmethod") 75), (.type "staticmethod")⟩, ⟨PyData.keyHash P (Str.ofString "str"), (.str (Str.ofString "str") 76), (.type "str")⟩, ⟨PyData.keyHash P (Str.ofString "super"), (.str (Str.ofString "super") 77), (.type "super")⟩, ⟨PyData.keyHash P (Str.ofString "tuple"), (.str (Str.ofString "tuple") 78), (.type "tuple")⟩, ⟨PyData.keyHash P (Str.ofString "type"), (.str (Str.ofString "type") 79), (.type "type")⟩, ⟨PyData.keyHash P (Str.ofString "zip"), (.str (Str.ofString "zip") 80), (.type "zip")⟩, ⟨PyData.keyHash P (Str.ofString "__debug__"), (.str (Str.ofString "__debug__") 81), (.bool true)⟩, ⟨PyData.keyHash P (Str.ofString "BaseException"), (.str (Str.ofString "BaseException") 82), (.type "BaseException")⟩, ⟨PyData.keyHash P (Str.ofString "BaseExceptionGroup"), (.str (Str.ofString "BaseExceptionGroup") 83), (.type "BaseExceptionGroup")⟩, ⟨PyData.keyHash P (Str.ofString "Exception"), (.str (Str.ofString "Exception") 84), (.type "Exception")⟩, ⟨PyData.keyHash P (Str.ofString "GeneratorExit"), (.str (Str.ofString "GeneratorExit") 85), (.type "GeneratorExit")⟩, ⟨PyData.keyHash P (Str.ofString "KeyboardInterrupt"), (.str (Str.ofString "KeyboardInterrupt") 86), (.type "KeyboardInterrupt")⟩, ⟨PyData.keyHash P (Str.ofString "SystemExit"), (.str (Str.ofString "SystemExit") 87), (.type "SystemExit")⟩, ⟨PyData.keyHash P (Str.ofString "ArithmeticError"), (.str (Str.ofString "ArithmeticError") 88), (.type "ArithmeticError")⟩, ⟨PyData.keyHash P (Str.ofString "AssertionError"), (.str (Str.ofString "AssertionError") 89), (.type "AssertionError")⟩, ⟨PyData.keyHash P (Str.ofString "AttributeError"), (.str (Str.ofString "AttributeError") 90), (.type "AttributeError")⟩, ⟨PyData.keyHash P (Str.ofString "BufferError"), (.str (Str.ofString "BufferError") 91), (.type "BufferError")⟩, ⟨PyData.keyHash P (Str.ofString "EOFError"), (.str (Str.ofString "EOFError") 92), (.type "EOFError")⟩, ⟨PyData.keyHash P (Str.ofString "ImportError"), (.str (Str.ofString "ImportError") 93), (.type "ImportError")⟩, ⟨PyData.keyHash P (Str.ofString "LookupError"), (.str (Str.ofString "LookupError") 94), (.type "LookupError")⟩, ⟨PyData.keyHash P (Str.ofString "MemoryError"), (.str (Str.ofString "MemoryError") 95), (.type "MemoryError")⟩, ⟨PyData.keyHash P (Str.ofString "NameError"), (.str (Str.ofString "NameError") 96), (.type "NameError")⟩, ⟨PyData.keyHash P (Str.ofString "OSError"), (.str (Str.ofString "OSError") 97), (.type "OSError")⟩, ⟨PyData.keyHash P (Str.ofString "ReferenceError"), (.str (Str.ofString "ReferenceError") 98), (.type "ReferenceError")⟩, ⟨PyData.keyHash P (Str.ofString "RuntimeError"), (.str (Str.ofString "RuntimeError") 99), (.type "RuntimeError")⟩, ⟨PyData.keyHash P (Str.ofString "StopAsyncIteration"), (.str (Str.ofString "StopAsyncIteration") 100), (.type "StopAsyncIteration")⟩, ⟨PyData.keyHash P (Str.ofString "StopIteration"), (.str (Str.ofString "StopIteration") 101), (.type "StopIteration")⟩, ⟨PyData.keyHash P (Str.ofString "SyntaxError"), (.str (Str.ofString "SyntaxError") 102), (.type "SyntaxError")⟩, ⟨PyData.keyHash P (Str.ofString "SystemError"), (.str (Str.ofString "SystemError") 103), (.type "SystemError")⟩, ⟨PyData.keyHash P (Str.ofString "TypeError"), (.str (Str.ofString "TypeError") 104), (.type "TypeError")⟩, ⟨PyData.keyHash P (Str.ofString "ValueError"), (.str (Str.ofString "ValueError") 105), (.type "ValueError")⟩, ⟨PyData.keyHash P (Str.ofString "Warning"), (.str (Str.ofString "Warning") 106), (.type "Warning")⟩, ⟨PyData.keyHash P (Str.ofString "FloatingPointError"), (.str (Str.ofString "FloatingPointError") 107), (.type "FloatingPointError")⟩, ⟨PyData.keyHash P (Str.ofString "OverflowError"), (.str (Str.ofString "OverflowError") 108), (.type "OverflowError")⟩, ⟨PyData.keyHash P (Str.ofString "ZeroDivisionError"), (.str (Str.ofString "ZeroDivisionError") 109), (.type "ZeroDivisionError")⟩, ⟨PyData.keyHash P (Str.ofString "BytesWarning"), (.str (Str.ofString "BytesWarning") 110), (.type "BytesWarning")⟩, ⟨PyData.keyHash P (Str.ofString "DeprecationWarning"), (.str (Str.ofString "DeprecationWarning") 111), (.type "DeprecationWarning")⟩, ⟨PyData.keyHash P (Str.ofString "EncodingWarning"), (.str (Str.ofString "EncodingWarning") 112), (.type "EncodingWarning")⟩, ⟨PyData.keyHash P (Str.ofString "FutureWarning"), (.str (Str.ofString "FutureWarning") 113), (.type "FutureWarning")⟩, ⟨PyData.keyHash P (Str.ofString "ImportWarning"), (.str (Str.ofString "ImportWarning") 114), (.type "ImportWarning")⟩, ⟨PyData.keyHash P (Str.ofString "PendingDeprecationWarning"), (.str (Str.ofString "PendingDeprecationWarning") 115), (.type "PendingDeprecationWarning")⟩, ⟨PyData.keyHash P (Str.ofString "ResourceWarning"), (.str (Str.ofString "ResourceWarning") 116), (.type "ResourceWarning")⟩, ⟨PyData.keyHash P (Str.ofString "RuntimeWarning"), (.str (Str.ofString "RuntimeWarning") 117), (.type "RuntimeWarning")⟩, ⟨PyData.keyHash P (Str.ofString "SyntaxWarning"), (.str (Str.ofString "SyntaxWarning") 118), (.type "SyntaxWarning")⟩, ⟨PyData.keyHash P (Str.ofString "UnicodeWarning"), (.str (Str.ofString "UnicodeWarning") 119), (.type "UnicodeWarning")⟩, ⟨PyData.keyHash P (Str.ofString "UserWarning"), (.str (Str.ofString "UserWarning") 120), (.type "UserWarning")⟩, ⟨PyData.keyHash P (Str.ofString "BlockingIOError"), (.str (Str.ofString "BlockingIOError") 121), (.type "BlockingIOError")⟩, ⟨PyData.keyHash P (Str.ofString "ChildProcessError"), (.str (Str.ofString "ChildProcessError") 122), (.type "ChildProcessError")⟩, ⟨PyData.keyHash P (Str.ofString "ConnectionError"), (.str (Str.ofString "ConnectionError") 123), (.type "ConnectionError")⟩, ⟨PyData.keyHash P (Str.ofString "FileExistsError"), (.str (Str.ofString "FileExistsError") 124), (.type "FileExistsError")⟩, ⟨PyData.keyHash P (Str.ofString "FileNotFoundError"), (.str (Str.ofString "FileNotFoundError") 125), (.type "FileNotFoundError")⟩, ⟨PyData.keyHash P (Str.ofString "InterruptedError"), (.str (Str.ofString "InterruptedError") 126), (.type "InterruptedError")⟩, ⟨PyData.keyHash P (Str.ofString "IsADirectoryError"), (.str (Str.ofString "IsADirectoryError") 127), (.type "IsADirectoryError")⟩, ⟨PyData.keyHash P (Str.ofString "NotADirectoryError"), (.str (Str.ofString "NotADirectoryError") 128), (.type "NotADirectoryError")⟩, ⟨PyData.keyHash P (Str.ofString "PermissionError"), (.str (Str.ofString "PermissionError") 129), (.type "PermissionError")⟩, ⟨PyData.keyHash P (Str.ofString "ProcessLookupError"), (.str (Str.ofString "ProcessLookupError") 130), (.type "ProcessLookupError")⟩, ⟨PyData.keyHash P (Str.ofString "TimeoutError"), (.str (Str.ofString "TimeoutError") 131), (.type "TimeoutError")⟩, ⟨PyData.keyHash P (Str.ofString "IndentationError"), (.str (Str.ofString "IndentationError") 132), (.type "IndentationError")⟩, ⟨PyData.keyHash P (Str.ofString "_IncompleteInputError"), (.str (Str.ofString "_IncompleteInputError") 133), (.type "_IncompleteInputError")⟩, ⟨PyData.keyHash P (Str.ofString "IndexError"), (.str (Str.ofString "IndexError") 134), (.type "IndexError")⟩, ⟨PyData.keyHash P (Str.ofString "KeyError"), (.str (Str.ofString "KeyError") 135), (.type "KeyError")⟩, ⟨PyData.keyHash P (Str.ofString "ModuleNotFoundError"), (.str (Str.ofString "ModuleNotFoundError") 136), (.type "ModuleNotFoundError")⟩, ⟨PyData.keyHash P (Str.ofString "NotImplementedError"), (.str (Str.ofString "NotImplementedError") 137), (.type "NotImplementedError")⟩, ⟨PyData.keyHash P (Str.ofString "PythonFinalizationError"), (.str (Str.ofString "PythonFinalizationError") 138), (.type "PythonFinalizationError")⟩, ⟨PyData.keyHash P (Str.ofString "RecursionError"), (.str (Str.ofString "RecursionError") 139), (.type "RecursionError")⟩, ⟨PyData.keyHash P (Str.ofString "UnboundLocalError"), (.str (Str.ofString "UnboundLocalError") 140), (.type "UnboundLocalError")⟩, ⟨PyData.keyHash P (Str.ofString "UnicodeError"), (.str (Str.ofString "UnicodeError") 141), (.type "UnicodeError")⟩, ⟨PyData.keyHash P (Str.ofString "BrokenPipeError"), (.str (Str.ofString "BrokenPipeError") 142), (.type "BrokenPipeError")⟩, ⟨PyData.keyHash P (Str.ofString "ConnectionAbortedError"), (.str (Str.ofString "ConnectionAbortedError") 143), (.type "ConnectionAbortedError")⟩, ⟨PyData.keyHash P (Str.ofString "ConnectionRefusedError"), (.str (Str.ofString "ConnectionRefusedError") 144), (.type "ConnectionRefusedError")⟩, ⟨PyData.keyHash P (Str.ofString "ConnectionResetError"), (.str (Str.ofString "ConnectionResetError") 145), (.type "ConnectionResetError")⟩, ⟨PyData.keyHash P (Str.ofString "TabError"), (.str (Str.ofString "TabError") 146), (.type "TabError")⟩, ⟨PyData.keyHash P (Str.ofString "UnicodeDecodeError"), (.str (Str.ofString "UnicodeDecodeError") 147), (.type "UnicodeDecodeError")⟩, ⟨PyData.keyHash P (Str.ofString "UnicodeEncodeError"), (.str (Str.ofString "UnicodeEncodeError") 148), (.type "UnicodeEncodeError")⟩, ⟨PyData.keyHash P (Str.ofString "UnicodeTranslateError"), (.str (Str.ofString "UnicodeTranslateError") 149), (.type "UnicodeTranslateError")⟩, ⟨PyData.keyHash P (Str.ofString "ExceptionGroup"), (.str (Str.ofString "ExceptionGroup") 150), (.type "ExceptionGroup")⟩, ⟨PyData.keyHash P (Str.ofString "EnvironmentError"), (.str (Str.ofString "EnvironmentError") 151), (.type "OSError")⟩, ⟨PyData.keyHash P (Str.ofString "IOError"), (.str (Str.ofString "IOError") 152), (.type "OSError")⟩, ⟨PyData.keyHash P (Str.ofString "open"), (.str (Str.ofString "open") 153), (.builtin "open")⟩, ⟨PyData.keyHash P (Str.ofString "quit"), (.str (Str.ofString "quit") 154), (.builtin "builtins.quit#opaque")⟩, ⟨PyData.keyHash P (Str.ofString "exit"), (.str (Str.ofString "exit") 155), (.builtin "builtins.exit#opaque")⟩, ⟨PyData.keyHash P (Str.ofString "copyright"), (.str (Str.ofString "copyright") 156), (.builtin "builtins.copyright#opaque")⟩, ⟨PyData.keyHash P (Str.ofString "credits"), (.str (Str.ofString "credits") 157), (.builtin "builtins.credits#opaque")⟩, ⟨PyData.keyHash P (Str.ofString "license"), (.str (Str.ofString "license") 158), (.builtin "builtins.license#opaque")⟩, ⟨PyData.keyHash P (Str.ofString "help"), (.str (Str.ofString "help") 159), (.builtin "builtins.help#opaque")⟩].toArray 159), #[]⟩
noncomputable abbrev o_1 (P : Params) : Obj := ⟨(.type "dict"), .none, (.dict [⟨PyData.keyHash P (Str.ofString "builtins"), (.str (Str.ofString "builtins") 162), (.ref 4)⟩, ⟨PyData.keyHash P (Str.ofString "__main__"), (.str (Str.ofString "__main__") 163), (.ref 5)⟩].toArray 2), #[]⟩
noncomputable abbrev o_2 (P : Params) : Obj := ⟨.none, .none, (.dict [].toArray 0), #[]⟩
noncomputable abbrev o_3 (P : Params) : Obj := ⟨(.type "dict"), .none, (.dict [⟨PyData.keyHash P (Str.ofString "__name__"), (.str (Str.ofString "__name__") 165), (.str (Str.ofString "law_ij0148_01") 761)⟩, ⟨PyData.keyHash P (Str.ofString "__doc__"), (.str (Str.ofString "__doc__") 166), .none⟩, ⟨PyData.keyHash P (Str.ofString "__package__"), (.str (Str.ofString "__package__") 167), .none⟩, ⟨PyData.keyHash P (Str.ofString "__loader__"), (.str (Str.ofString "__loader__") 168), (.builtin "__main__.__loader__#opaque")⟩, ⟨PyData.keyHash P (Str.ofString "__spec__"), (.str (Str.ofString "__spec__") 169), .none⟩, ⟨PyData.keyHash P (Str.ofString "__annotations__"), (.str (Str.ofString "__annotations__") 170), (.ref 6)⟩, ⟨PyData.keyHash P (Str.ofString "__builtins__"), (.str (Str.ofString "__builtins__") 171), (.ref 4)⟩, ⟨PyData.keyHash P (Str.ofString "__file__"), (.str (Str.ofString "__file__") 173), (.str (Str.ofString "/claim/cut.py") 172)⟩, ⟨PyData.keyHash P (Str.ofString "__cached__"), (.str (Str.ofString "__cached__") 174), .none⟩, ⟨PyData.keyHash P (Str.ofString "_wall"), (.str (Str.ofString "_wall") 193), (.ref 21)⟩, ⟨PyData.keyHash P (Str.ofString "_WallAttr"), (.str (Str.ofString "_WallAttr") 233), (.ref 46)⟩, ⟨PyData.keyHash P (Str.ofString "MAX_KEY_PARTS"), (.str (Str.ofString "MAX_KEY_PARTS") 237), (.int 1000 236)⟩, ⟨PyData.keyHash P (Str.ofString "ASCII_CTRL"), (.str (Str.ofString "ASCII_CTRL") 381), (.ref 67)⟩, ⟨PyData.keyHash P (Str.ofString "ILLEGAL_BASIC_STR_CHARS"), (.str (Str.ofString "ILLEGAL_BASIC_STR_CHARS") 385), (.ref 72)⟩, ⟨PyData.keyHash P (Str.ofString "ILLEGAL_MULTILINE_BASIC_STR_CHARS"), (.str (Str.ofString "ILLEGAL_MULTILINE_BASIC_STR_CHARS") 391), (.ref 77)⟩, ⟨PyData.keyHash P (Str.ofString "ILLEGAL_LITERAL_STR_CHARS"), (.str (Str.ofString "ILLEGAL_LITERAL_STR_CHARS") 392), (.ref 72)⟩, ⟨PyData.keyHash P (Str.ofString "TOML_WS"), (.str (Str.ofString "TOML_WS") 398), (.ref 78)⟩, ⟨PyData.keyHash P (Str.ofString "TOML_WS_AND_NEWLINE"), (.str (Str.ofString "TOML_WS_AND_NEWLINE") 402), (.ref 86)⟩, ⟨PyData.keyHash P (Str.ofString "ascii_lowercase"), (.str (Str.ofString "ascii_lowercase") 404), (.str (Str.ofString "abcdefghijklmnopqrstuvwxyz") 403)⟩, ⟨PyData.keyHash P (Str.ofString "ascii_uppercase"), (.str (Str.ofString "ascii_uppercase") 406), (.str (Str.ofString "ABCDEFGHIJKLMNOPQRSTUVWXYZ") 405)⟩, ⟨PyData.keyHash P (Str.ofString "ascii_letters"), (.str (Str.ofString "ascii_letters") 408), (.str (Str.ofString "abcdefghijklmnopqrstuvwxyzABCDEFGHIJKLMNOPQRSTUVWXYZ") 407)⟩, ⟨PyData.keyHash P (Str.ofString "digits"), (.str (Str.ofString "digits") 410), (.str (Str.ofString "0123456789") 409)⟩, ⟨PyData.keyHash P (Str.ofString "hexdigits"), (.str (Str.ofString "hexdigits") 415), (.str (Str.ofString "0123456789abcdefABCDEF") 414)⟩, ⟨PyData.keyHash P (Str.ofString "BARE_KEY_CHARS"), (.str (Str.ofString "BARE_KEY_CHARS") 547), (.ref 87)⟩, ⟨PyData.keyHash P (Str.ofString "HEXDIGIT_CHARS"), (.str (Str.ofString "HEXDIGIT_CHARS") 592), (.ref 91)⟩, ⟨PyData.keyHash P (Str.ofString "MappingProxyType"), (.str (Str.ofString "MappingProxyType") 596), (.type "mappingproxy")⟩, ⟨PyData.keyHash P (Str.ofString "BASIC_STR_ESCAPE_REPLACEMENTS"), (.str (Str.ofString "BASIC_STR_ESCAPE_REPLACEMENTS") 620), (.ref 97)⟩, ⟨PyData.keyHash P (Str.ofString "TOMLDecodeError"), (.str (Str.ofString "TOMLDecodeError") 638), (.ref 107)⟩, ⟨PyData.keyHash P (Str.ofString "skip_chars"), (.str (Str.ofString "skip_chars") 647), (.ref 117)⟩, ⟨PyData.keyHash P (Str.ofString "skip_until"), (.str (Str.ofString "skip_until") 659), (.ref 124)⟩, ⟨PyData.keyHash P (Str.ofString "parse_key"), (.str (Str.ofString "parse_key") 670), (.ref 131)⟩, ⟨PyData.keyHash P (Str.ofString "parse_key_part"), (.str (Str.ofString "parse_key_part") 680), (.ref 138)⟩, ⟨PyData.keyHash P (Str.ofString "parse_one_line_basic_str"), (.str (Str.ofString "parse_one_line_basic_str") 688), (.ref 145)⟩, ⟨PyData.keyHash P (Str.ofString "parse_basic_str_escape"), (.str (Str.ofString "parse_basic_str_escape") 700), (.ref 153)⟩, ⟨PyData.keyHash P (Str.ofString "parse_basic_str_escape_multiline"), (.str (Str.ofString "parse_basic_str_escape_multiline") 708), (.ref 160)⟩, ⟨PyData.keyHash P (Str.ofString "parse_hex_char"), (.str (Str.ofString "parse_hex_char") 719), (.ref 167)⟩, ⟨PyData.keyHash P (Str.ofString "parse_literal_str"), (.str (Str.ofString "parse_literal_str") 728), (.ref 174)⟩, ⟨PyData.keyHash P (Str.ofString "parse_basic_str"), (.str (Str.ofString "parse_basic_str") 743), (.ref 181)⟩, ⟨PyData.keyHash P (Str.ofString "suffixed_err"), (.str (Str.ofString "suffixed_err") 753), (.ref 188)⟩, ⟨PyData.keyHash P (Str.ofString "is_unicode_scalar_value"), (.str (Str.ofString "is_unicode_scalar_value") 760), (.ref 195)⟩, ⟨PyData.keyHash P (Str.ofString "_law_forms"), (.str (Str.ofString "_law_forms") 768), (.ref 202)⟩, ⟨PyData.keyHash P (Str.ofString "_law_at"), (.str (Str.ofString "_law_at") 777), (.ref 209)⟩, ⟨PyData.keyHash P (Str.ofString "_law_key"), (.str (Str.ofString "_law_key") 786), (.ref 216)⟩, ⟨PyData.keyHash P (Str.ofString "_law_wanting"), (.str (Str.ofString "_law_wanting") 794), (.ref 223)⟩, ⟨PyData.keyHash P (Str.ofString "_law_turned"), (.str (Str.ofString "_law_turned") 809), (.ref 230)⟩, ⟨PyData.keyHash P (Str.ofString "law"), (.str (Str.ofString "law") 830), (.ref 237)⟩].toArray 46), #[]⟩
noncomputable abbrev o_4 (P : Params) : Obj := ⟨(.type "module"), (some 0), .plain, #[]⟩
noncomputable abbrev o_5 (P : Params) : Obj := ⟨(.type "module"), (some 3), .plain, #[]⟩
noncomputable abbrev o_6 (P : Params) : Obj := ⟨(.type "dict"), .none, (.dict [].toArray 0), #[]⟩
noncomputable abbrev o_7 (P : Params) : Obj := ⟨(.type "tuple"), .none, (.seq #[] 0), #[]⟩
noncomputable abbrev o_8 (P : Params) : Obj := ⟨.none, .none, (.fields #[]), #[]⟩
noncomputable abbrev o_9 (P : Params) : Obj := ⟨(.type "code"), .none, (.fields #[(.str (Str.ofString "<module>") 176), (.str (Str.ofString "<module>") 177), (.str (Str.ofString "/claim/cut.py") 178), (.int 1 0), (.int 0 0), (.int 0 0), (.int 0 0), (.int 0 0), (.ref 7), (.bool false), (.int 175 0), (.ref 8), .none, .none, .none, .none, (.int 179 0), (.int 1 0), (.str (Str.ofString "/claim/cut.py") 180)]), #[]⟩
noncomputable abbrev o_10 (P : Params) : Obj := ⟨(.type "frame"), .none, .plain, #[(some (.ref 9)), (some (.ref 3)), (some (.ref 3)), .none, (some (.str (Str.ofString "__main__") 164)), .none, (some (.ref 0))]⟩
noncomputable abbrev o_11 (P : Params) : Obj := ⟨(.type "tuple"), .none, (.seq #[] 0), #[]⟩
noncomputable abbrev o_12 (P : Params) : Obj := ⟨.none, .none, (.fields #[(.int 1 0), (.int 0 0), (.ref 20), (.int 4 0), (.int 0 0), (.ref 27), (.int 12 0), (.int 23 0), (.ref 55), (.int 29 0), (.int 0 0), (.ref 103), (.int 31 0), (.int 0 0), (.ref 116), (.int 38 0), (.int 0 0), (.ref 123), (.int 50 0), (.int 0 0), (.ref 130), (.int 68 0), (.int 0 0), (.ref 137), (.int 82 0), (.int 0 0), (.ref 144), (.int 85 0), (.int 0 0), (.ref 152), (.int 108 0), (.int 0 0), (.ref 159), (.int 110 0), (.int 0 0), (.ref 166), (.int 119 0), (.int 0 0), (.ref 173), (.int 124 0), (.int 0 0), (.ref 180), (.int 154 0), (.int 0 0), (.ref 187), (.int 166 0), (.int 0 0), (.ref 194), (.int 169 0), (.int 0 0), (.ref 201), (.int 171 0), (.int 0 0), (.ref 208), (.int 176 0), (.int 0 0), (.ref 215), (.int 181 0), (.int 0 0), (.ref 222), (.int 183 0), (.int 0 0), (.ref 229), (.int 190 0), (.int 0 0), (.ref 236)]), #[]⟩
noncomputable abbrev o_13 (P : Params) : Obj := ⟨(.type "code"), .none, (.fields #[(.str (Str.ofString "<module>") 182), (.str (Str.ofString "<module>") 183), (.str (Str.ofString "/claim/cut.py") 184), (.int 1 0), (.int 0 0), (.int 0 0), (.int 0 0), (.int 0 0), (.ref 11), (.bool false), (.int 181 0), (.ref 12), .none, .none, .none, .none, (.int 185 0), (.int 1 0), (.str (Str.ofString "/claim/cut.py") 186)]), #[]⟩
noncomputable abbrev o_14 (P : Params) : Obj := ⟨(.type "frame"), .none, .plain, #[(some (.ref 13)), (some (.ref 3)), (some (.ref 3)), .none, (some (.str (Str.ofString "__main__") 164)), .none, (some (.ref 0))]⟩
noncomputable abbrev o_15 (P : Params) : Obj := ⟨(.type "tuple"), .none, (.seq #[] 0), #[]⟩
noncomputable abbrev o_16 (P : Params) : Obj := ⟨.none, .none, (.fields #[]), #[]⟩
noncomputable abbrev o_17 (P : Params) : Obj := ⟨(.type "tuple"), .none, (.seq #[(.str (Str.ofString "k") 190)] 0), #[]⟩
noncomputable abbrev o_18 (P : Params) : Obj := ⟨(.type "tuple"), .none, (.seq #[] 0), #[]⟩
noncomputable abbrev o_19 (P : Params) : Obj := ⟨.none, .none, (.func { name := (Str.ofString "_wall"), qualname := (Str.ofString "_wall"), params := prm_0, body := .stmts bod_0, scope := scp_0, globals := 0, closure := [], defaults := .none, kwdefaults := .none, doc := .none, pyModule := .none, annotations := .none, code := .none, closureTuple := .none, builtins := 0 }), #[]⟩
noncomputable abbrev o_20 (P : Params) : Obj := ⟨(.type "code"), .none, (.fields #[(.str (Str.ofString "_wall") 187), (.str (Str.ofString "_wall") 188), (.str (Str.ofString "/claim/cut.py") 189), (.int 1 0), (.int 1 0), (.int 0 0), (.int 0 0), (.int 3 0), (.ref 15), (.bool true), (.int 181 0), (.ref 16), .none, (.ref 17), (.ref 18), (.ref 19), (.int 191 0), (.int 1 0), (.str (Str.ofString "/claim/cut.py") 192)]), #[]⟩
noncomputable abbrev o_21 (P : Params) : Obj := ⟨(.type "function"), .none, (.func (fnOf (Str.ofString "_wall") (Str.ofString "_wall") prm_0 bod_0 scp_0 .none .none .none (.str (Str.ofString "__main__") 164) .none (.ref 20) .none)), #[]⟩
noncomputable abbrev o_22 (P : Params) : Obj := ⟨(.type "tuple"), .none, (.seq #[] 0), #[]⟩
noncomputable abbrev o_23 (P : Params) : Obj := ⟨(.type "builtin_function_or_method"), .none, (.fields #[(.builtin "type.__prepare__"), (.type "type")]), #[]⟩
noncomputable abbrev o_24 (P : Params) : Obj := ⟨(.type "dict"), .none, (.dict [⟨PyData.keyHash P (Str.ofString "__module__"), (.str (Str.ofString "__module__") 201), (.str (Str.ofString "__main__") 164)⟩, ⟨PyData.keyHash P (Str.ofString "__qualname__"), (.str (Str.ofString "__qualname__") 203), (.str (Str.ofString "_WallAttr") 202)⟩, ⟨PyData.keyHash P (Str.ofString "__firstlineno__"), (.str (Str.ofString "__firstlineno__") 205), (.int 4 204)⟩, ⟨PyData.keyHash P (Str.ofString "__init__"), (.str (Str.ofString "__init__") 213), (.ref 35)⟩, ⟨PyData.keyHash P (Str.ofString "__get__"), (.str (Str.ofString "__get__") 222), (.ref 43)⟩, ⟨PyData.keyHash P (Str.ofString "__set__"), (.str (Str.ofString "__set__") 223), (.ref 43)⟩, ⟨PyData.keyHash P (Str.ofString "__delete__"), (.str (Str.ofString "__delete__") 224), (.ref 43)⟩, ⟨PyData.keyHash P (Str.ofString "__static_attributes__"), (.str (Str.ofString "__static_attributes__") 226), (.ref 44)⟩].toArray 8), #[]⟩
noncomputable abbrev o_25 (P : Params) : Obj := ⟨(.type "tuple"), .none, (.seq #[] 0), #[]⟩
noncomputable abbrev o_26 (P : Params) : Obj := ⟨.none, .none, (.fields #[(.int 5 0), (.int 4 0), (.ref 34), (.int 7 0), (.int 4 0), (.ref 42)]), #[]⟩
noncomputable abbrev o_27 (P : Params) : Obj := ⟨(.type "code"), .none, (.fields #[(.str (Str.ofString "_WallAttr") 196), (.str (Str.ofString "_WallAttr") 197), (.str (Str.ofString "/claim/cut.py") 198), (.int 4 0), (.int 0 0), (.int 0 0), (.int 0 0), (.int 0 0), (.ref 25), (.bool false), (.int 181 0), (.ref 26), .none, .none, .none, .none, (.int 199 0), (.int 4 0), (.str (Str.ofString "/claim/cut.py") 200)]), #[]⟩
noncomputable abbrev o_28 (P : Params) : Obj := ⟨(.type "frame"), .none, .plain, #[(some (.ref 27)), (some (.ref 3)), (some (.ref 24)), .none, (some (.str (Str.ofString "__main__") 164)), .none, (some (.ref 0))]⟩
noncomputable abbrev o_29 (P : Params) : Obj := ⟨(.type "tuple"), .none, (.seq #[] 0), #[]⟩
noncomputable abbrev o_30 (P : Params) : Obj := ⟨.none, .none, (.fields #[]), #[]⟩
noncomputable abbrev o_31 (P : Params) : Obj := ⟨(.type "tuple"), .none, (.seq #[(.str (Str.ofString "self") 209), (.str (Str.ofString "k") 210)] 0), #[]⟩
noncomputable abbrev o_32 (P : Params) : Obj := ⟨(.type "tuple"), .none, (.seq #[] 0), #[]⟩
noncomputable abbrev o_33 (P : Params) : Obj := ⟨.none, .none, (.func { name := (Str.ofString "__init__"), qualname := (Str.ofString "_WallAttr.__init__"), params := prm_1_0, body := .stmts bod_1_0, scope := scp_1_0, globals := 0, closure := [], defaults := .none, kwdefaults := .none, doc := .none, pyModule := .none, annotations := .none, code := .none, closureTuple := .none, builtins := 0 }), #[]⟩
noncomputable abbrev o_34 (P : Params) : Obj := ⟨(.type "code"), .none, (.fields #[(.str (Str.ofString "__init__") 206), (.str (Str.ofString "_WallAttr.__init__") 207), (.str (Str.ofString "/claim/cut.py") 208), (.int 5 0), (.int 2 0), (.int 0 0), (.int 0 0), (.int 3 0), (.ref 29), (.bool true), (.int 181 0), (.ref 30), .none, (.ref 31), (.ref 32), (.ref 33), (.int 211 0), (.int 5 0), (.str (Str.ofString "/claim/cut.py") 212)]), #[]⟩
noncomputable abbrev o_35 (P : Params) : Obj := ⟨(.type "function"), .none, (.func (fnOf (Str.ofString "__init__") (Str.ofString "_WallAttr.__init__") prm_1_0 bod_1_0 scp_1_0 .none .none .none (.str (Str.ofString "__main__") 164) .none (.ref 34) .none)), #[]⟩
noncomputable abbrev o_36 (P : Params) : Obj := ⟨(.type "tuple"), .none, (.seq #[.none] 0), #[]⟩
noncomputable abbrev o_37 (P : Params) : Obj := ⟨(.type "tuple"), .none, (.seq #[] 0), #[]⟩
noncomputable abbrev o_38 (P : Params) : Obj := ⟨.none, .none, (.fields #[]), #[]⟩
noncomputable abbrev o_39 (P : Params) : Obj := ⟨(.type "tuple"), .none, (.seq #[(.str (Str.ofString "self") 217), (.str (Str.ofString "o") 218), (.str (Str.ofString "t") 219)] 0), #[]⟩
noncomputable abbrev o_40 (P : Params) : Obj := ⟨(.type "tuple"), .none, (.seq #[] 0), #[]⟩
noncomputable abbrev o_41 (P : Params) : Obj := ⟨.none, .none, (.func { name := (Str.ofString "__get__"), qualname := (Str.ofString "_WallAttr.__get__"), params := prm_1_1, body := .stmts bod_1_1, scope := scp_1_1, globals := 0, closure := [], defaults := .none, kwdefaults := .none, doc := .none, pyModule := .none, annotations := .none, code := .none, closureTuple := .none, builtins := 0 }), #[]⟩
noncomputable abbrev o_42 (P : Params) : Obj := ⟨(.type "code"), .none, (.fields #[(.str (Str.ofString "__get__") 214), (.str (Str.ofString "_WallAttr.__get__") 215), (.str (Str.ofString "/claim/cut.py") 216), (.int 7 0), (.int 3 0), (.int 0 0), (.int 0 0), (.int 3 0), (.ref 37), (.bool true), (.int 181 0), (.ref 38), .none, (.ref 39), (.ref 40), (.ref 41), (.int 220 0), (.int 7 0), (.str (Str.ofString "/claim/cut.py") 221)]), #[]⟩
noncomputable abbrev o_43 (P : Params) : Obj := ⟨(.type "function"), .none, (.func (fnOf (Str.ofString "__get__") (Str.ofString "_WallAttr.__get__") prm_1_1 bod_1_1 scp_1_1 (.ref 36) .none .none (.str (Str.ofString "__main__") 164) .none (.ref 42) .none)), #[]⟩
noncomputable abbrev o_44 (P : Params) : Obj := ⟨(.type "tuple"), .none, (.seq #[(.str (Str.ofString "k") 225)] 0), #[]⟩
noncomputable abbrev o_45 (P : Params) : Obj := ⟨(.type "dict"), .none, (.dict [⟨PyData.keyHash P (Str.ofString "__module__"), (.str (Str.ofString "__module__") 201), (.str (Str.ofString "__main__") 164)⟩, ⟨PyData.keyHash P (Str.ofString "__firstlineno__"), (.str (Str.ofString "__firstlineno__") 205), (.int 4 204)⟩, ⟨PyData.keyHash P (Str.ofString "__init__"), (.str (Str.ofString "__init__") 213), (.ref 35)⟩, ⟨PyData.keyHash P (Str.ofString "__get__"), (.str (Str.ofString "__get__") 222), (.ref 43)⟩, ⟨PyData.keyHash P (Str.ofString "__set__"), (.str (Str.ofString "__set__") 223), (.ref 43)⟩, ⟨PyData.keyHash P (Str.ofString "__delete__"), (.str (Str.ofString "__delete__") 224), (.ref 43)⟩, ⟨PyData.keyHash P (Str.ofString "__static_attributes__"), (.str (Str.ofString "__static_attributes__") 226), (.ref 44)⟩, ⟨PyData.keyHash P (Str.ofString "__dict__"), (.str (Str.ofString "__dict__") 228), (.ref 47)⟩, ⟨PyData.keyHash P (Str.ofString "__weakref__"), (.str (Str.ofString "__weakref__") 230), (.ref 48)⟩, ⟨PyData.keyHash P (Str.ofString "__doc__"), (.str (Str.ofString "__doc__") 231), .none⟩].toArray 4), #[]⟩
noncomputable abbrev o_46 (P : Params) : Obj := ⟨(.type "type"), .none, (.cls { name := (Str.ofString "_WallAttr"), bases := [(.type "object")], mro := [(.ref 46), (.type "object")], ns := 45, qualname := (Str.ofString "_WallAttr"), hasDict := true, slotNames := [], subclasses := [], abstract := false, collection := .none, hasDel := false }), #[.none, .none, (some (.str (Str.ofString "_WallAttr") 194)), (some (.str (Str.ofString "_WallAttr") 202)), (some (.builtin "object.__new__")), (some (.bool true))]⟩
noncomputable abbrev o_47 (P : Params) : Obj := ⟨(.type "getset_descriptor"), .none, (.fields #[(.str (Str.ofString "__dict__") 227), (.ref 46), (.builtin "function.__dict__"), (.builtin "function.__dict__#set")]), #[]⟩
noncomputable abbrev o_48 (P : Params) : Obj := ⟨(.type "getset_descriptor"), .none, (.fields #[(.str (Str.ofString "__weakref__") 229), (.ref 46), (.builtin "ExceptionGroup.__weakref__"), .none]), #[]⟩
noncomputable abbrev o_49 (P : Params) : Obj := ⟨(.type "super"), .none, (.fields #[(.ref 46), (.ref 46), (.ref 46)]), #[]⟩
noncomputable abbrev o_50 (P : Params) : Obj := ⟨(.type "builtin_function_or_method"), .none, (.fields #[(.builtin "object.__init_subclass__"), (.ref 46)]), #[]⟩
noncomputable abbrev o_51 (P : Params) : Obj := ⟨(.type "range"), .none, (.fields #[(.int 0 239), (.int 32 238), (.int 1 240)]), #[]⟩
noncomputable abbrev o_52 (P : Params) : Obj := ⟨(.type "range_iterator"), .none, (.fields #[(.int 32 0), (.int 0 0), (.int 1 0)]), #[]⟩
noncomputable abbrev o_53 (P : Params) : Obj := ⟨(.type "tuple"), .none, (.seq #[] 0), #[]⟩
noncomputable abbrev o_54 (P : Params) : Obj := ⟨.none, .none, (.fields #[]), #[]⟩
noncomputable abbrev o_55 (P : Params) : Obj := ⟨(.type "code"), .none, (.fields #[(.str (Str.ofString "<genexpr>") 241), (.str (Str.ofString "<genexpr>") 242), (.str (Str.ofString "/claim/cut.py") 243), (.int 12 0), (.int 1 0), (.int 0 0), (.int 0 0), (.int 35 0), (.ref 53), (.bool true), (.int 181 0), (.ref 54), .none, .none, .none, .none, (.int 244 0), (.int 12 0), (.str (Str.ofString "/claim/cut.py") 245)]), #[]⟩
noncomputable abbrev o_56 (P : Params) : Obj := ⟨(.type "frame"), .none, (.dict [⟨PyData.keyHash P (Str.ofString ".0"), (.str (Str.ofString ".0") 246), (.ref 52)⟩, ⟨PyData.keyHash P (Str.ofString "i"), (.str (Str.ofString "i") 250), (.int 31 373)⟩].toArray 2), #[]⟩
noncomputable abbrev o_57 (P : Params) : Obj := ⟨(.type "generator"), .none, (.fields #[(.int 0 0), (.str (Str.ofString "<genexpr>") 247), (.str (Str.ofString "<genexpr>") 248)]), #[]⟩
noncomputable abbrev o_59 (P : Params) : Obj := ⟨(.type "tuple"), .none, (.seq #[] 0), #[]⟩
noncomputable abbrev o_60 (P : Params) : Obj := ⟨(.type "StopIteration"), .none, (.fields #[(.ref 59), .none, .none, .none, (.bool false), .none]), #[]⟩
noncomputable abbrev o_61 (P : Params) : Obj := ⟨(.type "tuple"), .none, (.seq #[] 0), #[]⟩
noncomputable abbrev o_62 (P : Params) : Obj := ⟨(.type "StopIteration"), .none, (.fields #[(.ref 61), .none, .none, .none, (.bool false), .none]), #[]⟩
noncomputable abbrev o_64 (P : Params) : Obj := ⟨(.type "str_ascii_iterator"), .none, (.fields #[.none, (.int 1 0)]), #[]⟩
noncomputable abbrev o_65 (P : Params) : Obj := ⟨(.type "tuple"), .none, (.seq #[] 0), #[]⟩
noncomputable abbrev o_66 (P : Params) : Obj := ⟨(.type "StopIteration"), .none, (.fields #[(.ref 65), .none, .none, .none, (.bool false), .none]), #[]⟩
noncomputable abbrev o_69 (P : Params) : Obj := ⟨(.type "str_ascii_iterator"), .none, (.fields #[.none, (.int 1 0)]), #[]⟩
noncomputable abbrev o_70 (P : Params) : Obj := ⟨(.type "tuple"), .none, (.seq #[] 0), #[]⟩
noncomputable abbrev o_71 (P : Params) : Obj := ⟨(.type "StopIteration"), .none, (.fields #[(.ref 70), .none, .none, .none, (.bool false), .none]), #[]⟩
noncomputable abbrev o_74 (P : Params) : Obj := ⟨(.type "str_ascii_iterator"), .none, (.fields #[.none, (.int 2 0)]), #[]⟩
noncomputable abbrev o_75 (P : Params) : Obj := ⟨(.type "tuple"), .none, (.seq #[] 0), #[]⟩
noncomputable abbrev o_76 (P : Params) : Obj := ⟨(.type "StopIteration"), .none, (.fields #[(.ref 75), .none, .none, .none, (.bool false), .none]), #[]⟩
noncomputable abbrev o_79 (P : Params) : Obj := ⟨(.type "str_ascii_iterator"), .none, (.fields #[.none, (.int 2 0)]), #[]⟩
noncomputable abbrev o_80 (P : Params) : Obj := ⟨(.type "tuple"), .none, (.seq #[] 0), #[]⟩
noncomputable abbrev o_81 (P : Params) : Obj := ⟨(.type "StopIteration"), .none, (.fields #[(.ref 80), .none, .none, .none, (.bool false), .none]), #[]⟩
noncomputable abbrev o_83 (P : Params) : Obj := ⟨(.type "str_ascii_iterator"), .none, (.fields #[.none, (.int 1 0)]), #[]⟩
noncomputable abbrev o_84 (P : Params) : Obj := ⟨(.type "tuple"), .none, (.seq #[] 0), #[]⟩
noncomputable abbrev o_85 (P : Params) : Obj := ⟨(.type "StopIteration"), .none, (.fields #[(.ref 84), .none, .none, .none, (.bool false), .none]), #[]⟩
noncomputable abbrev o_88 (P : Params) : Obj := ⟨(.type "str_ascii_iterator"), .none, (.fields #[.none, (.int 64 0)]), #[]⟩
noncomputable abbrev o_89 (P : Params) : Obj := ⟨(.type "tuple"), .none, (.seq #[] 0), #[]⟩
noncomputable abbrev o_90 (P : Params) : Obj := ⟨(.type "StopIteration"), .none, (.fields #[(.ref 89), .none, .none, .none, (.bool false), .none]), #[]⟩
noncomputable abbrev o_92 (P : Params) : Obj := ⟨(.type "str_ascii_iterator"), .none, (.fields #[.none, (.int 22 0)]), #[]⟩
noncomputable abbrev o_93 (P : Params) : Obj := ⟨(.type "tuple"), .none, (.seq #[] 0), #[]⟩
noncomputable abbrev o_94 (P : Params) : Obj := ⟨(.type "StopIteration"), .none, (.fields #[(.ref 93), .none, .none, .none, (.bool false), .none]), #[]⟩
noncomputable abbrev o_95 (P : Params) : Obj := ⟨(.type "mappingproxy"), .none, (.fields #[(.ref 45)]), #[]⟩
noncomputable abbrev o_96 (P : Params) : Obj := ⟨(.type "dict"), .none, (.dict [⟨PyData.keyHash P (Str.ofString "\\b"), (.str (Str.ofString "\\b") 599), (.str (Str.ofString "\x08") 600)⟩, ⟨PyData.keyHash P (Str.ofString "\\t"), (.str (Str.ofString "\\t") 601), (.str (Str.ofString "\t") 602)⟩, ⟨PyData.keyHash P (Str.ofString "\\n"), (.str (Str.ofString "\\n") 603), (.str (Str.ofString "\n") 604)⟩, ⟨PyData.keyHash P (Str.ofString "\\f"), (.str (Str.ofString "\\f") 605), (.str (Str.ofString "\x0c") 606)⟩, ⟨PyData.keyHash P (Str.ofString "\\r"), (.str (Str.ofString "\\r") 607), (.str (Str.ofString "\x0d") 608)⟩, ⟨PyData.keyHash P (Str.ofString "\\\""), (.str (Str.ofString "\\\"") 609), (.str (Str.ofString "\"") 610)⟩, ⟨PyData.keyHash P (Str.ofString "\\\\"), (.str (Str.ofString "\\\\") 611), (.str (Str.ofString "\\") 612)⟩].toArray 7), #[]⟩
noncomputable abbrev o_97 (P : Params) : Obj := ⟨(.type "mappingproxy"), .none, (.fields #[(.ref 96)]), #[]⟩
noncomputable abbrev o_98 (P : Params) : Obj := ⟨(.type "tuple"), .none, (.seq #[(.type "ValueError")] 0), #[]⟩
noncomputable abbrev o_99 (P : Params) : Obj := ⟨(.type "builtin_function_or_method"), .none, (.fields #[(.builtin "type.__prepare__"), (.type "type")]), #[]⟩
noncomputable abbrev o_100 (P : Params) : Obj := ⟨(.type "dict"), .none, (.dict [⟨PyData.keyHash P (Str.ofString "__module__"), (.str (Str.ofString "__module__") 628), (.str (Str.ofString "cpy313.tomllib._parser") 597)⟩, ⟨PyData.keyHash P (Str.ofString "__qualname__"), (.str (Str.ofString "__qualname__") 630), (.str (Str.ofString "TOMLDecodeError") 629)⟩, ⟨PyData.keyHash P (Str.ofString "__firstlineno__"), (.str (Str.ofString "__firstlineno__") 632), (.int 29 631)⟩, ⟨PyData.keyHash P (Str.ofString "__static_attributes__"), (.str (Str.ofString "__static_attributes__") 633), (.ref 105)⟩].toArray 4), #[]⟩
noncomputable abbrev o_101 (P : Params) : Obj := ⟨(.type "tuple"), .none, (.seq #[] 0), #[]⟩
noncomputable abbrev o_102 (P : Params) : Obj := ⟨.none, .none, (.fields #[]), #[]⟩
noncomputable abbrev o_103 (P : Params) : Obj := ⟨(.type "code"), .none, (.fields #[(.str (Str.ofString "TOMLDecodeError") 623), (.str (Str.ofString "TOMLDecodeError") 624), (.str (Str.ofString "/claim/cut.py") 625), (.int 29 0), (.int 0 0), (.int 0 0), (.int 0 0), (.int 0 0), (.ref 101), (.bool false), (.int 181 0), (.ref 102), .none, .none, .none, .none, (.int 626 0), (.int 29 0), (.str (Str.ofString "/claim/cut.py") 627)]), #[]⟩
noncomputable abbrev o_104 (P : Params) : Obj := ⟨(.type "frame"), .none, .plain, #[(some (.ref 103)), (some (.ref 3)), (some (.ref 100)), .none, (some (.str (Str.ofString "cpy313.tomllib._parser") 597)), .none, (some (.ref 0))]⟩
noncomputable abbrev o_105 (P : Params) : Obj := ⟨(.type "tuple"), .none, (.seq #[] 0), #[]⟩
noncomputable abbrev o_106 (P : Params) : Obj := ⟨(.type "dict"), .none, (.dict [⟨PyData.keyHash P (Str.ofString "__module__"), (.str (Str.ofString "__module__") 628), (.str (Str.ofString "cpy313.tomllib._parser") 597)⟩, ⟨PyData.keyHash P (Str.ofString "__firstlineno__"), (.str (Str.ofString "__firstlineno__") 632), (.int 29 631)⟩, ⟨PyData.keyHash P (Str.ofString "__static_attributes__"), (.str (Str.ofString "__static_attributes__") 633), (.ref 105)⟩, ⟨PyData.keyHash P (Str.ofString "__weakref__"), (.str (Str.ofString "__weakref__") 635), (.ref 108)⟩, ⟨PyData.keyHash P (Str.ofString "__doc__"), (.str (Str.ofString "__doc__") 636), .none⟩].toArray 3), #[]⟩
noncomputable abbrev o_107 (P : Params) : Obj := ⟨(.type "type"), .none, (.cls { name := (Str.ofString "TOMLDecodeError"), bases := [(.type "ValueError")], mro := [(.ref 107), (.type "ValueError"), (.type "Exception"), (.type "BaseException"), (.type "object")], ns := 106, qualname := (Str.ofString "TOMLDecodeError"), hasDict := true, slotNames := [], subclasses := [], abstract := false, collection := .none, hasDel := false }), #[(some (.ref 98)), .none, (some (.str (Str.ofString "TOMLDecodeError") 621)), (some (.str (Str.ofString "TOMLDecodeError") 629)), (some (.builtin "ValueError.__new__")), (some (.bool true))]⟩
noncomputable abbrev o_108 (P : Params) : Obj := ⟨(.type "getset_descriptor"), .none, (.fields #[(.str (Str.ofString "__weakref__") 634), (.ref 107), (.builtin "ExceptionGroup.__weakref__"), .none]), #[]⟩
noncomputable abbrev o_109 (P : Params) : Obj := ⟨(.type "super"), .none, (.fields #[(.ref 107), (.ref 107), (.ref 107)]), #[]⟩
noncomputable abbrev o_110 (P : Params) : Obj := ⟨(.type "builtin_function_or_method"), .none, (.fields #[(.builtin "object.__init_subclass__"), (.ref 107)]), #[]⟩
noncomputable abbrev o_111 (P : Params) : Obj := ⟨(.type "tuple"), .none, (.seq #[] 0), #[]⟩
noncomputable abbrev o_112 (P : Params) : Obj := ⟨.none, .none, (.fields #[]), #[]⟩
noncomputable abbrev o_113 (P : Params) : Obj := ⟨(.type "tuple"), .none, (.seq #[(.str (Str.ofString "src") 642), (.str (Str.ofString "pos") 643), (.str (Str.ofString "chars") 644)] 0), #[]⟩
noncomputable abbrev o_114 (P : Params) : Obj := ⟨(.type "tuple"), .none, (.seq #[] 0), #[]⟩
noncomputable abbrev o_115 (P : Params) : Obj := ⟨.none, .none, (.func { name := (Str.ofString "skip_chars"), qualname := (Str.ofString "skip_chars"), params := prm_22, body := .stmts bod_22, scope := scp_22, globals := 0, closure := [], defaults := .none, kwdefaults := .none, doc := .none, pyModule := .none, annotations := .none, code := .none, closureTuple := .none, builtins := 0 }), #[]⟩
noncomputable abbrev o_116 (P : Params) : Obj := ⟨(.type "code"), .none, (.fields #[(.str (Str.ofString "skip_chars") 639), (.str (Str.ofString "skip_chars") 640), (.str (Str.ofString "/claim/cut.py") 641), (.int 31 0), (.int 3 0), (.int 0 0), (.int 0 0), (.int 3 0), (.ref 111), (.bool true), (.int 181 0), (.ref 112), .none, (.ref 113), (.ref 114), (.ref 115), (.int 645 0), (.int 31 0), (.str (Str.ofString "/claim/cut.py") 646)]), #[]⟩
noncomputable abbrev o_117 (P : Params) : Obj := ⟨(.type "function"), .none, (.func (fnOf (Str.ofString "skip_chars") (Str.ofString "skip_chars") prm_22 bod_22 scp_22 .none .none .none (.str (Str.ofString "cpy313.tomllib._parser") 597) .none (.ref 116) .none)), #[]⟩
noncomputable abbrev o_118 (P : Params) : Obj := ⟨(.type "tuple"), .none, (.seq #[] 0), #[]⟩
noncomputable abbrev o_119 (P : Params) : Obj := ⟨.none, .none, (.fields #[]), #[]⟩
noncomputable abbrev o_120 (P : Params) : Obj := ⟨(.type "tuple"), .none, (.seq #[(.str (Str.ofString "src") 651), (.str (Str.ofString "pos") 652), (.str (Str.ofString "expect") 653), (.str (Str.ofString "error_on") 654), (.str (Str.ofString "error_on_eof") 655), (.str (Str.ofString "new_pos") 656)] 0), #[]⟩
noncomputable abbrev o_121 (P : Params) : Obj := ⟨(.type "tuple"), .none, (.seq #[] 0), #[]⟩
noncomputable abbrev o_122 (P : Params) : Obj := ⟨.none, .none, (.func { name := (Str.ofString "skip_until"), qualname := (Str.ofString "skip_until"), params := prm_23, body := .stmts bod_23, scope := scp_23, globals := 0, closure := [], defaults := .none, kwdefaults := .none, doc := .none, pyModule := .none, annotations := .none, code := .none, closureTuple := .none, builtins := 0 }), #[]⟩
noncomputable abbrev o_123 (P : Params) : Obj := ⟨(.type "code"), .none, (.fields #[(.str (Str.ofString "skip_until") 648), (.str (Str.ofString "skip_until") 649), (.str (Str.ofString "/claim/cut.py") 650), (.int 38 0), (.int 3 0), (.int 0 0), (.int 2 0), (.int 3 0), (.ref 118), (.bool true), (.int 181 0), (.ref 119), .none, (.ref 120), (.ref 121), (.ref 122), (.int 657 0), (.int 38 0), (.str (Str.ofString "/claim/cut.py") 658)]), #[]⟩
noncomputable abbrev o_124 (P : Params) : Obj := ⟨(.type "function"), .none, (.func (fnOf (Str.ofString "skip_until") (Str.ofString "skip_until") prm_23 bod_23 scp_23 .none .none .none (.str (Str.ofString "cpy313.tomllib._parser") 597) .none (.ref 123) .none)), #[]⟩
noncomputable abbrev o_125 (P : Params) : Obj := ⟨(.type "tuple"), .none, (.seq #[] 0), #[]⟩
noncomputable abbrev o_126 (P : Params) : Obj := ⟨.none, .none, (.fields #[]), #[]⟩
noncomputable abbrev o_127 (P : Params) : Obj := ⟨(.type "tuple"), .none, (.seq #[(.str (Str.ofString "src") 663), (.str (Str.ofString "pos") 664), (.str (Str.ofString "key_part") 665), (.str (Str.ofString "key") 666), (.str (Str.ofString "char") 667)] 0), #[]⟩
noncomputable abbrev o_128 (P : Params) : Obj := ⟨(.type "tuple"), .none, (.seq #[] 0), #[]⟩
noncomputable abbrev o_129 (P : Params) : Obj := ⟨.none, .none, (.func { name := (Str.ofString "parse_key"), qualname := (Str.ofString "parse_key"), params := prm_24, body := .stmts bod_24, scope := scp_24, globals := 0, closure := [], defaults := .none, kwdefaults := .none, doc := .none, pyModule := .none, annotations := .none, code := .none, closureTuple := .none, builtins := 0 }), #[]⟩
noncomputable abbrev o_130 (P : Params) : Obj := ⟨(.type "code"), .none, (.fields #[(.str (Str.ofString "parse_key") 660), (.str (Str.ofString "parse_key") 661), (.str (Str.ofString "/claim/cut.py") 662), (.int 50 0), (.int 2 0), (.int 0 0), (.int 0 0), (.int 3 0), (.ref 125), (.bool true), (.int 181 0), (.ref 126), .none, (.ref 127), (.ref 128), (.ref 129), (.int 668 0), (.int 50 0), (.str (Str.ofString "/claim/cut.py") 669)]), #[]⟩
noncomputable abbrev o_131 (P : Params) : Obj := ⟨(.type "function"), .none, (.func (fnOf (Str.ofString "parse_key") (Str.ofString "parse_key") prm_24 bod_24 scp_24 .none .none .none (.str (Str.ofString "cpy313.tomllib._parser") 597) .none (.ref 130) .none)), #[]⟩
noncomputable abbrev o_132 (P : Params) : Obj := ⟨(.type "tuple"), .none, (.seq #[] 0), #[]⟩
noncomputable abbrev o_133 (P : Params) : Obj := ⟨.none, .none, (.fields #[]), #[]⟩
noncomputable abbrev o_134 (P : Params) : Obj := ⟨(.type "tuple"), .none, (.seq #[(.str (Str.ofString "src") 674), (.str (Str.ofString "pos") 675), (.str (Str.ofString "char") 676), (.str (Str.ofString "start_pos") 677)] 0), #[]⟩
noncomputable abbrev o_135 (P : Params) : Obj := ⟨(.type "tuple"), .none, (.seq #[] 0), #[]⟩
noncomputable abbrev o_136 (P : Params) : Obj := ⟨.none, .none, (.func { name := (Str.ofString "parse_key_part"), qualname := (Str.ofString "parse_key_part"), params := prm_25, body := .stmts bod_25, scope := scp_25, globals := 0, closure := [], defaults := .none, kwdefaults := .none, doc := .none, pyModule := .none, annotations := .none, code := .none, closureTuple := .none, builtins := 0 }), #[]⟩
noncomputable abbrev o_137 (P : Params) : Obj := ⟨(.type "code"), .none, (.fields #[(.str (Str.ofString "parse_key_part") 671), (.str (Str.ofString "parse_key_part") 672), (.str (Str.ofString "/claim/cut.py") 673), (.int 68 0), (.int 2 0), (.int 0 0), (.int 0 0), (.int 3 0), (.ref 132), (.bool true), (.int 181 0), (.ref 133), .none, (.ref 134), (.ref 135), (.ref 136), (.int 678 0), (.int 68 0), (.str (Str.ofString "/claim/cut.py") 679)]), #[]⟩
noncomputable abbrev o_138 (P : Params) : Obj := ⟨(.type "function"), .none, (.func (fnOf (Str.ofString "parse_key_part") (Str.ofString "parse_key_part") prm_25 bod_25 scp_25 .none .none .none (.str (Str.ofString "cpy313.tomllib._parser") 597) .none (.ref 137) .none)), #[]⟩
noncomputable abbrev o_139 (P : Params) : Obj := ⟨(.type "tuple"), .none, (.seq #[] 0), #[]⟩
noncomputable abbrev o_140 (P : Params) : Obj := ⟨.none, .none, (.fields #[]), #[]⟩
noncomputable abbrev o_141 (P : Params) : Obj := ⟨(.type "tuple"), .none, (.seq #[(.str (Str.ofString "src") 684), (.str (Str.ofString "pos") 685)] 0), #[]⟩
noncomputable abbrev o_142 (P : Params) : Obj := ⟨(.type "tuple"), .none, (.seq #[] 0), #[]⟩
noncomputable abbrev o_143 (P : Params) : Obj := ⟨.none, .none, (.func { name := (Str.ofString "parse_one_line_basic_str"), qualname := (Str.ofString "parse_one_line_basic_str"), params := prm_26, body := .stmts bod_26, scope := scp_26, globals := 0, closure := [], defaults := .none, kwdefaults := .none, doc := .none, pyModule := .none, annotations := .none, code := .none, closureTuple := .none, builtins := 0 }), #[]⟩
noncomputable abbrev o_144 (P : Params) : Obj := ⟨(.type "code"), .none, (.fields #[(.str (Str.ofString "parse_one_line_basic_str") 681), (.str (Str.ofString "parse_one_line_basic_str") 682), (.str (Str.ofString "/claim/cut.py") 683), (.int 82 0), (.int 2 0), (.int 0 0), (.int 0 0), (.int 3 0), (.ref 139), (.bool true), (.int 181 0), (.ref 140), .none, (.ref 141), (.ref 142), (.ref 143), (.int 686 0), (.int 82 0), (.str (Str.ofString "/claim/cut.py") 687)]), #[]⟩
noncomputable abbrev o_145 (P : Params) : Obj := ⟨(.type "function"), .none, (.func (fnOf (Str.ofString "parse_one_line_basic_str") (Str.ofString "parse_one_line_basic_str") prm_26 bod_26 scp_26 .none .none .none (.str (Str.ofString "cpy313.tomllib._parser") 597) .none (.ref 144) .none)), #[]⟩
noncomputable abbrev o_146 (P : Params) : Obj := ⟨(.type "dict"), .none, (.dict [⟨PyData.keyHash P (Str.ofString "multiline"), (.str (Str.ofString "multiline") 689), (.bool false)⟩].toArray 1), #[]⟩
noncomputable abbrev o_147 (P : Params) : Obj := ⟨(.type "tuple"), .none, (.seq #[] 0), #[]⟩
noncomputable abbrev o_148 (P : Params) : Obj := ⟨.none, .none, (.fields #[]), #[]⟩
noncomputable abbrev o_149 (P : Params) : Obj := ⟨(.type "tuple"), .none, (.seq #[(.str (Str.ofString "src") 693), (.str (Str.ofString "pos") 694), (.str (Str.ofString "multiline") 695), (.str (Str.ofString "escape_id") 696), (.str (Str.ofString "char") 697)] 0), #[]⟩
noncomputable abbrev o_150 (P : Params) : Obj := ⟨(.type "tuple"), .none, (.seq #[] 0), #[]⟩
noncomputable abbrev o_151 (P : Params) : Obj := ⟨.none, .none, (.func { name := (Str.ofString "parse_basic_str_escape"), qualname := (Str.ofString "parse_basic_str_escape"), params := prm_27, body := .stmts bod_27, scope := scp_27, globals := 0, closure := [], defaults := .none, kwdefaults := .none, doc := .none, pyModule := .none, annotations := .none, code := .none, closureTuple := .none, builtins := 0 }), #[]⟩
noncomputable abbrev o_152 (P : Params) : Obj := ⟨(.type "code"), .none, (.fields #[(.str (Str.ofString "parse_basic_str_escape") 690), (.str (Str.ofString "parse_basic_str_escape") 691), (.str (Str.ofString "/claim/cut.py") 692), (.int 85 0), (.int 2 0), (.int 0 0), (.int 1 0), (.int 3 0), (.ref 147), (.bool true), (.int 181 0), (.ref 148), .none, (.ref 149), (.ref 150), (.ref 151), (.int 698 0), (.int 85 0), (.str (Str.ofString "/claim/cut.py") 699)]), #[]⟩
noncomputable abbrev o_153 (P : Params) : Obj := ⟨(.type "function"), .none, (.func (fnOf (Str.ofString "parse_basic_str_escape") (Str.ofString "parse_basic_str_escape") prm_27 bod_27 scp_27 .none (.ref 146) .none (.str (Str.ofString "cpy313.tomllib._parser") 597) .none (.ref 152) .none)), #[]⟩
noncomputable abbrev o_154 (P : Params) : Obj := ⟨(.type "tuple"), .none, (.seq #[] 0), #[]⟩
noncomputable abbrev o_155 (P : Params) : Obj := ⟨.none, .none, (.fields #[]), #[]⟩
noncomputable abbrev o_156 (P : Params) : Obj := ⟨(.type "tuple"), .none, (.seq #[(.str (Str.ofString "src") 704), (.str (Str.ofString "pos") 705)] 0), #[]⟩
noncomputable abbrev o_157 (P : Params) : Obj := ⟨(.type "tuple"), .none, (.seq #[] 0), #[]⟩
noncomputable abbrev o_158 (P : Params) : Obj := ⟨.none, .none, (.func { name := (Str.ofString "parse_basic_str_escape_multiline"), qualname := (Str.ofString "parse_basic_str_escape_multiline"), params := prm_28, body := .stmts bod_28, scope := scp_28, globals := 0, closure := [], defaults := .none, kwdefaults := .none, doc := .none, pyModule := .none, annotations := .none, code := .none, closureTuple := .none, builtins := 0 }), #[]⟩
noncomputable abbrev o_159 (P : Params) : Obj := ⟨(.type "code"), .none, (.fields #[(.str (Str.ofString "parse_basic_str_escape_multiline") 701), (.str (Str.ofString "parse_basic_str_escape_multiline") 702), (.str (Str.ofString "/claim/cut.py") 703), (.int 108 0), (.int 2 0), (.int 0 0), (.int 0 0), (.int 3 0), (.ref 154), (.bool true), (.int 181 0), (.ref 155), .none, (.ref 156), (.ref 157), (.ref 158), (.int 706 0), (.int 108 0), (.str (Str.ofString "/claim/cut.py") 707)]), #[]⟩
noncomputable abbrev o_160 (P : Params) : Obj := ⟨(.type "function"), .none, (.func (fnOf (Str.ofString "parse_basic_str_escape_multiline") (Str.ofString "parse_basic_str_escape_multiline") prm_28 bod_28 scp_28 .none .none .none (.str (Str.ofString "cpy313.tomllib._parser") 597) .none (.ref 159) .none)), #[]⟩
noncomputable abbrev o_161 (P : Params) : Obj := ⟨(.type "tuple"), .none, (.seq #[] 0), #[]⟩
noncomputable abbrev o_162 (P : Params) : Obj := ⟨.none, .none, (.fields #[]), #[]⟩
noncomputable abbrev o_163 (P : Params) : Obj := ⟨(.type "tuple"), .none, (.seq #[(.str (Str.ofString "src") 712), (.str (Str.ofString "pos") 713), (.str (Str.ofString "hex_len") 714), (.str (Str.ofString "hex_str") 715), (.str (Str.ofString "hex_int") 716)] 0), #[]⟩
noncomputable abbrev o_164 (P : Params) : Obj := ⟨(.type "tuple"), .none, (.seq #[] 0), #[]⟩
noncomputable abbrev o_165 (P : Params) : Obj := ⟨.none, .none, (.func { name := (Str.ofString "parse_hex_char"), qualname := (Str.ofString "parse_hex_char"), params := prm_29, body := .stmts bod_29, scope := scp_29, globals := 0, closure := [], defaults := .none, kwdefaults := .none, doc := .none, pyModule := .none, annotations := .none, code := .none, closureTuple := .none, builtins := 0 }), #[]⟩
noncomputable abbrev o_166 (P : Params) : Obj := ⟨(.type "code"), .none, (.fields #[(.str (Str.ofString "parse_hex_char") 709), (.str (Str.ofString "parse_hex_char") 710), (.str (Str.ofString "/claim/cut.py") 711), (.int 110 0), (.int 3 0), (.int 0 0), (.int 0 0), (.int 3 0), (.ref 161), (.bool true), (.int 181 0), (.ref 162), .none, (.ref 163), (.ref 164), (.ref 165), (.int 717 0), (.int 110 0), (.str (Str.ofString "/claim/cut.py") 718)]), #[]⟩
noncomputable abbrev o_167 (P : Params) : Obj := ⟨(.type "function"), .none, (.func (fnOf (Str.ofString "parse_hex_char") (Str.ofString "parse_hex_char") prm_29 bod_29 scp_29 .none .none .none (.str (Str.ofString "cpy313.tomllib._parser") 597) .none (.ref 166) .none)), #[]⟩
noncomputable abbrev o_168 (P : Params) : Obj := ⟨(.type "tuple"), .none, (.seq #[] 0), #[]⟩
noncomputable abbrev o_169 (P : Params) : Obj := ⟨.none, .none, (.fields #[]), #[]⟩
noncomputable abbrev o_170 (P : Params) : Obj := ⟨(.type "tuple"), .none, (.seq #[(.str (Str.ofString "src") 723), (.str (Str.ofString "pos") 724), (.str (Str.ofString "start_pos") 725)] 0), #[]⟩
noncomputable abbrev o_171 (P : Params) : Obj := ⟨(.type "tuple"), .none, (.seq #[] 0), #[]⟩
noncomputable abbrev o_172 (P : Params) : Obj := ⟨.none, .none, (.func { name := (Str.ofString "parse_literal_str"), qualname := (Str.ofString "parse_literal_str"), params := prm_30, body := .stmts bod_30, scope := scp_30, globals := 0, closure := [], defaults := .none, kwdefaults := .none, doc := .none, pyModule := .none, annotations := .none, code := .none, closureTuple := .none, builtins := 0 }), #[]⟩
noncomputable abbrev o_173 (P : Params) : Obj := ⟨(.type "code"), .none, (.fields #[(.str (Str.ofString "parse_literal_str") 720), (.str (Str.ofString "parse_literal_str") 721), (.str (Str.ofString "/claim/cut.py") 722), (.int 119 0), (.int 2 0), (.int 0 0), (.int 0 0), (.int 3 0), (.ref 168), (.bool true), (.int 181 0), (.ref 169), .none, (.ref 170), (.ref 171), (.ref 172), (.int 726 0), (.int 119 0), (.str (Str.ofString "/claim/cut.py") 727)]), #[]⟩
noncomputable abbrev o_174 (P : Params) : Obj := ⟨(.type "function"), .none, (.func (fnOf (Str.ofString "parse_literal_str") (Str.ofString "parse_literal_str") prm_30 bod_30 scp_30 .none .none .none (.str (Str.ofString "cpy313.tomllib._parser") 597) .none (.ref 173) .none)), #[]⟩
noncomputable abbrev o_175 (P : Params) : Obj := ⟨(.type "tuple"), .none, (.seq #[] 0), #[]⟩
noncomputable abbrev o_176 (P : Params) : Obj := ⟨.none, .none, (.fields #[]), #[]⟩
noncomputable abbrev o_177 (P : Params) : Obj := ⟨(.type "tuple"), .none, (.seq #[(.str (Str.ofString "src") 732), (.str (Str.ofString "pos") 733), (.str (Str.ofString "multiline") 734), (.str (Str.ofString "error_on") 735), (.str (Str.ofString "parse_escapes") 736), (.str (Str.ofString "result") 737), (.str (Str.ofString "start_pos") 738), (.str (Str.ofString "char") 739), (.str (Str.ofString "parsed_escape") 740)] 0), #[]⟩
noncomputable abbrev o_178 (P : Params) : Obj := ⟨(.type "tuple"), .none, (.seq #[] 0), #[]⟩
noncomputable abbrev o_179 (P : Params) : Obj := ⟨.none, .none, (.func { name := (Str.ofString "parse_basic_str"), qualname := (Str.ofString "parse_basic_str"), params := prm_31, body := .stmts bod_31, scope := scp_31, globals := 0, closure := [], defaults := .none, kwdefaults := .none, doc := .none, pyModule := .none, annotations := .none, code := .none, closureTuple := .none, builtins := 0 }), #[]⟩
noncomputable abbrev o_180 (P : Params) : Obj := ⟨(.type "code"), .none, (.fields #[(.str (Str.ofString "parse_basic_str") 729), (.str (Str.ofString "parse_basic_str") 730), (.str (Str.ofString "/claim/cut.py") 731), (.int 124 0), (.int 2 0), (.int 0 0), (.int 1 0), (.int 3 0), (.ref 175), (.bool true), (.int 181 0), (.ref 176), .none, (.ref 177), (.ref 178), (.ref 179), (.int 741 0), (.int 124 0), (.str (Str.ofString "/claim/cut.py") 742)]), #[]⟩
noncomputable abbrev o_181 (P : Params) : Obj := ⟨(.type "function"), .none, (.func (fnOf (Str.ofString "parse_basic_str") (Str.ofString "parse_basic_str") prm_31 bod_31 scp_31 .none .none .none (.str (Str.ofString "cpy313.tomllib._parser") 597) .none (.ref 180) .none)), #[]⟩
noncomputable abbrev o_182 (P : Params) : Obj := ⟨(.type "tuple"), .none, (.seq #[] 0), #[]⟩
noncomputable abbrev o_183 (P : Params) : Obj := ⟨.none, .none, (.fields #[]), #[]⟩
noncomputable abbrev o_184 (P : Params) : Obj := ⟨(.type "tuple"), .none, (.seq #[(.str (Str.ofString "src") 747), (.str (Str.ofString "pos") 748), (.str (Str.ofString "msg") 749), (.str (Str.ofString "coord_repr") 750)] 0), #[]⟩
noncomputable abbrev o_185 (P : Params) : Obj := ⟨(.type "tuple"), .none, (.seq #[] 0), #[]⟩
noncomputable abbrev o_186 (P : Params) : Obj := ⟨.none, .none, (.func { name := (Str.ofString "suffixed_err"), qualname := (Str.ofString "suffixed_err"), params := prm_32, body := .stmts bod_32, scope := scp_32, globals := 0, closure := [], defaults := .none, kwdefaults := .none, doc := .none, pyModule := .none, annotations := .none, code := .none, closureTuple := .none, builtins := 0 }), #[]⟩
noncomputable abbrev o_187 (P : Params) : Obj := ⟨(.type "code"), .none, (.fields #[(.str (Str.ofString "suffixed_err") 744), (.str (Str.ofString "suffixed_err") 745), (.str (Str.ofString "/claim/cut.py") 746), (.int 154 0), (.int 3 0), (.int 0 0), (.int 0 0), (.int 3 0), (.ref 182), (.bool true), (.int 181 0), (.ref 183), .none, (.ref 184), (.ref 185), (.ref 186), (.int 751 0), (.int 154 0), (.str (Str.ofString "/claim/cut.py") 752)]), #[]⟩
noncomputable abbrev o_188 (P : Params) : Obj := ⟨(.type "function"), .none, (.func (fnOf (Str.ofString "suffixed_err") (Str.ofString "suffixed_err") prm_32 bod_32 scp_32 .none .none .none (.str (Str.ofString "cpy313.tomllib._parser") 597) .none (.ref 187) .none)), #[]⟩
noncomputable abbrev o_189 (P : Params) : Obj := ⟨(.type "tuple"), .none, (.seq #[] 0), #[]⟩
noncomputable abbrev o_190 (P : Params) : Obj := ⟨.none, .none, (.fields #[]), #[]⟩
noncomputable abbrev o_191 (P : Params) : Obj := ⟨(.type "tuple"), .none, (.seq #[(.str (Str.ofString "codepoint") 757)] 0), #[]⟩
noncomputable abbrev o_192 (P : Params) : Obj := ⟨(.type "tuple"), .none, (.seq #[] 0), #[]⟩
noncomputable abbrev o_193 (P : Params) : Obj := ⟨.none, .none, (.func { name := (Str.ofString "is_unicode_scalar_value"), qualname := (Str.ofString "is_unicode_scalar_value"), params := prm_33, body := .stmts bod_33, scope := scp_33, globals := 0, closure := [], defaults := .none, kwdefaults := .none, doc := .none, pyModule := .none, annotations := .none, code := .none, closureTuple := .none, builtins := 0 }), #[]⟩
noncomputable abbrev o_194 (P : Params) : Obj := ⟨(.type "code"), .none, (.fields #[(.str (Str.ofString "is_unicode_scalar_value") 754), (.str (Str.ofString "is_unicode_scalar_value") 755), (.str (Str.ofString "/claim/cut.py") 756), (.int 166 0), (.int 1 0), (.int 0 0), (.int 0 0), (.int 3 0), (.ref 189), (.bool true), (.int 181 0), (.ref 190), .none, (.ref 191), (.ref 192), (.ref 193), (.int 758 0), (.int 166 0), (.str (Str.ofString "/claim/cut.py") 759)]), #[]⟩
noncomputable abbrev o_195 (P : Params) : Obj := ⟨(.type "function"), .none, (.func (fnOf (Str.ofString "is_unicode_scalar_value") (Str.ofString "is_unicode_scalar_value") prm_33 bod_33 scp_33 .none .none .none (.str (Str.ofString "cpy313.tomllib._parser") 597) .none (.ref 194) .none)), #[]⟩
noncomputable abbrev o_196 (P : Params) : Obj := ⟨(.type "tuple"), .none, (.seq #[] 0), #[]⟩
noncomputable abbrev o_197 (P : Params) : Obj := ⟨.none, .none, (.fields #[]), #[]⟩
noncomputable abbrev o_198 (P : Params) : Obj := ⟨(.type "tuple"), .none, (.seq #[] 0), #[]⟩
noncomputable abbrev o_199 (P : Params) : Obj := ⟨(.type "tuple"), .none, (.seq #[] 0), #[]⟩
noncomputable abbrev o_200 (P : Params) : Obj := ⟨.none, .none, (.func { name := (Str.ofString "_law_forms"), qualname := (Str.ofString "_law_forms"), params := prm_35, body := .stmts bod_35, scope := scp_35, globals := 0, closure := [], defaults := .none, kwdefaults := .none, doc := .none, pyModule := .none, annotations := .none, code := .none, closureTuple := .none, builtins := 0 }), #[]⟩
noncomputable abbrev o_201 (P : Params) : Obj := ⟨(.type "code"), .none, (.fields #[(.str (Str.ofString "_law_forms") 763), (.str (Str.ofString "_law_forms") 764), (.str (Str.ofString "/claim/cut.py") 765), (.int 169 0), (.int 0 0), (.int 0 0), (.int 0 0), (.int 3 0), (.ref 196), (.bool true), (.int 181 0), (.ref 197), .none, (.ref 198), (.ref 199), (.ref 200), (.int 766 0), (.int 169 0), (.str (Str.ofString "/claim/cut.py") 767)]), #[]⟩
noncomputable abbrev o_202 (P : Params) : Obj := ⟨(.type "function"), .none, (.func (fnOf (Str.ofString "_law_forms") (Str.ofString "_law_forms") prm_35 bod_35 scp_35 .none .none .none (.str (Str.ofString "law_ij0148_01") 761) .none (.ref 201) .none)), #[]⟩
noncomputable abbrev o_203 (P : Params) : Obj := ⟨(.type "tuple"), .none, (.seq #[] 0), #[]⟩
noncomputable abbrev o_204 (P : Params) : Obj := ⟨.none, .none, (.fields #[]), #[]⟩
noncomputable abbrev o_205 (P : Params) : Obj := ⟨(.type "tuple"), .none, (.seq #[(.str (Str.ofString "text") 772), (.str (Str.ofString "place") 773), (.str (Str.ofString "lines") 774)] 0), #[]⟩
noncomputable abbrev o_206 (P : Params) : Obj := ⟨(.type "tuple"), .none, (.seq #[] 0), #[]⟩
noncomputable abbrev o_207 (P : Params) : Obj := ⟨.none, .none, (.func { name := (Str.ofString "_law_at"), qualname := (Str.ofString "_law_at"), params := prm_36, body := .stmts bod_36, scope := scp_36, globals := 0, closure := [], defaults := .none, kwdefaults := .none, doc := .none, pyModule := .none, annotations := .none, code := .none, closureTuple := .none, builtins := 0 }), #[]⟩
noncomputable abbrev o_208 (P : Params) : Obj := ⟨(.type "code"), .none, (.fields #[(.str (Str.ofString "_law_at") 769), (.str (Str.ofString "_law_at") 770), (.str (Str.ofString "/claim/cut.py") 771), (.int 171 0), (.int 2 0), (.int 0 0), (.int 0 0), (.int 3 0), (.ref 203), (.bool true), (.int 181 0), (.ref 204), .none, (.ref 205), (.ref 206), (.ref 207), (.int 775 0), (.int 171 0), (.str (Str.ofString "/claim/cut.py") 776)]), #[]⟩
noncomputable abbrev o_209 (P : Params) : Obj := ⟨(.type "function"), .none, (.func (fnOf (Str.ofString "_law_at") (Str.ofString "_law_at") prm_36 bod_36 scp_36 .none .none .none (.str (Str.ofString "law_ij0148_01") 761) .none (.ref 208) .none)), #[]⟩
noncomputable abbrev o_210 (P : Params) : Obj := ⟨(.type "tuple"), .none, (.seq #[] 0), #[]⟩
noncomputable abbrev o_211 (P : Params) : Obj := ⟨.none, .none, (.fields #[]), #[]⟩
noncomputable abbrev o_212 (P : Params) : Obj := ⟨(.type "tuple"), .none, (.seq #[(.str (Str.ofString "text") 781), (.str (Str.ofString "place") 782), (.str (Str.ofString "error") 783)] 0), #[]⟩
noncomputable abbrev o_213 (P : Params) : Obj := ⟨(.type "tuple"), .none, (.seq #[] 0), #[]⟩
noncomputable abbrev o_214 (P : Params) : Obj := ⟨.none, .none, (.func { name := (Str.ofString "_law_key"), qualname := (Str.ofString "_law_key"), params := prm_37, body := .stmts bod_37, scope := scp_37, globals := 0, closure := [], defaults := .none, kwdefaults := .none, doc := .none, pyModule := .none, annotations := .none, code := .none, closureTuple := .none, builtins := 0 }), #[]⟩
noncomputable abbrev o_215 (P : Params) : Obj := ⟨(.type "code"), .none, (.fields #[(.str (Str.ofString "_law_key") 778), (.str (Str.ofString "_law_key") 779), (.str (Str.ofString "/claim/cut.py") 780), (.int 176 0), (.int 2 0), (.int 0 0), (.int 0 0), (.int 3 0), (.ref 210), (.bool true), (.int 181 0), (.ref 211), .none, (.ref 212), (.ref 213), (.ref 214), (.int 784 0), (.int 176 0), (.str (Str.ofString "/claim/cut.py") 785)]), #[]⟩
noncomputable abbrev o_216 (P : Params) : Obj := ⟨(.type "function"), .none, (.func (fnOf (Str.ofString "_law_key") (Str.ofString "_law_key") prm_37 bod_37 scp_37 .none .none .none (.str (Str.ofString "law_ij0148_01") 761) .none (.ref 215) .none)), #[]⟩
noncomputable abbrev o_217 (P : Params) : Obj := ⟨(.type "tuple"), .none, (.seq #[] 0), #[]⟩
noncomputable abbrev o_218 (P : Params) : Obj := ⟨.none, .none, (.fields #[]), #[]⟩
noncomputable abbrev o_219 (P : Params) : Obj := ⟨(.type "tuple"), .none, (.seq #[(.str (Str.ofString "text") 790), (.str (Str.ofString "place") 791)] 0), #[]⟩
noncomputable abbrev o_220 (P : Params) : Obj := ⟨(.type "tuple"), .none, (.seq #[] 0), #[]⟩
noncomputable abbrev o_221 (P : Params) : Obj := ⟨.none, .none, (.func { name := (Str.ofString "_law_wanting"), qualname := (Str.ofString "_law_wanting"), params := prm_38, body := .stmts bod_38, scope := scp_38, globals := 0, closure := [], defaults := .none, kwdefaults := .none, doc := .none, pyModule := .none, annotations := .none, code := .none, closureTuple := .none, builtins := 0 }), #[]⟩
noncomputable abbrev o_222 (P : Params) : Obj := ⟨(.type "code"), .none, (.fields #[(.str (Str.ofString "_law_wanting") 787), (.str (Str.ofString "_law_wanting") 788), (.str (Str.ofString "/claim/cut.py") 789), (.int 181 0), (.int 2 0), (.int 0 0), (.int 0 0), (.int 3 0), (.ref 217), (.bool true), (.int 181 0), (.ref 218), .none, (.ref 219), (.ref 220), (.ref 221), (.int 792 0), (.int 181 0), (.str (Str.ofString "/claim/cut.py") 793)]), #[]⟩
noncomputable abbrev o_223 (P : Params) : Obj := ⟨(.type "function"), .none, (.func (fnOf (Str.ofString "_law_wanting") (Str.ofString "_law_wanting") prm_38 bod_38 scp_38 .none .none .none (.str (Str.ofString "law_ij0148_01") 761) .none (.ref 222) .none)), #[]⟩
noncomputable abbrev o_224 (P : Params) : Obj := ⟨(.type "tuple"), .none, (.seq #[] 0), #[]⟩
noncomputable abbrev o_225 (P : Params) : Obj := ⟨.none, .none, (.fields #[]), #[]⟩
noncomputable abbrev o_226 (P : Params) : Obj := ⟨(.type "tuple"), .none, (.seq #[(.str (Str.ofString "text") 798), (.str (Str.ofString "begins") 799), (.str (Str.ofString "names") 800), (.str (Str.ofString "behind") 801), (.str (Str.ofString "stretches") 802), (.str (Str.ofString "k") 803), (.str (Str.ofString "end") 804), (.str (Str.ofString "name") 805), (.str (Str.ofString "turned") 806)] 0), #[]⟩
noncomputable abbrev o_227 (P : Params) : Obj := ⟨(.type "tuple"), .none, (.seq #[] 0), #[]⟩
noncomputable abbrev o_228 (P : Params) : Obj := ⟨.none, .none, (.func { name := (Str.ofString "_law_turned"), qualname := (Str.ofString "_law_turned"), params := prm_39, body := .stmts bod_39, scope := scp_39, globals := 0, closure := [], defaults := .none, kwdefaults := .none, doc := .none, pyModule := .none, annotations := .none, code := .none, closureTuple := .none, builtins := 0 }), #[]⟩
noncomputable abbrev o_229 (P : Params) : Obj := ⟨(.type "code"), .none, (.fields #[(.str (Str.ofString "_law_turned") 795), (.str (Str.ofString "_law_turned") 796), (.str (Str.ofString "/claim/cut.py") 797), (.int 183 0), (.int 4 0), (.int 0 0), (.int 0 0), (.int 3 0), (.ref 224), (.bool true), (.int 181 0), (.ref 225), .none, (.ref 226), (.ref 227), (.ref 228), (.int 807 0), (.int 183 0), (.str (Str.ofString "/claim/cut.py") 808)]), #[]⟩
noncomputable abbrev o_230 (P : Params) : Obj := ⟨(.type "function"), .none, (.func (fnOf (Str.ofString "_law_turned") (Str.ofString "_law_turned") prm_39 bod_39 scp_39 .none .none .none (.str (Str.ofString "law_ij0148_01") 761) .none (.ref 229) .none)), #[]⟩
noncomputable abbrev o_231 (P : Params) : Obj := ⟨(.type "tuple"), .none, (.seq #[] 0), #[]⟩
noncomputable abbrev o_232 (P : Params) : Obj := ⟨.none, .none, (.fields #[]), #[]⟩
noncomputable abbrev o_233 (P : Params) : Obj := ⟨(.type "tuple"), .none, (.seq #[(.str (Str.ofString "script") 813), (.str (Str.ofString "row") 814), (.str (Str.ofString "total") 815), (.str (Str.ofString "behind") 816), (.str (Str.ofString "text") 817), (.str (Str.ofString "names") 818), (.str (Str.ofString "begins") 819), (.str (Str.ofString "ends") 820), (.str (Str.ofString "k") 821), (.str (Str.ofString "name") 822), (.str (Str.ofString "ways") 823), (.str (Str.ofString "gaps") 824), (.str (Str.ofString "last") 825), (.str (Str.ofString "dot") 826), (.str (Str.ofString "more") 827)] 0), #[]⟩
noncomputable abbrev o_234 (P : Params) : Obj := ⟨(.type "tuple"), .none, (.seq #[] 0), #[]⟩
noncomputable abbrev o_235 (P : Params) : Obj := ⟨.none, .none, (.func { name := (Str.ofString "law"), qualname := (Str.ofString "law"), params := prm_40, body := .stmts bod_40, scope := scp_40, globals := 0, closure := [], defaults := .none, kwdefaults := .none, doc := .none, pyModule := .none, annotations := .none, code := .none, closureTuple := .none, builtins := 0 }), #[]⟩
noncomputable abbrev o_236 (P : Params) : Obj := ⟨(.type "code"), .none, (.fields #[(.str (Str.ofString "law") 810), (.str (Str.ofString "law") 811), (.str (Str.ofString "/claim/cut.py") 812), (.int 190 0), (.int 1 0), (.int 0 0), (.int 0 0), (.int 3 0), (.ref 231), (.bool true), (.int 181 0), (.ref 232), .none, (.ref 233), (.ref 234), (.ref 235), (.int 828 0), (.int 190 0), (.str (Str.ofString "/claim/cut.py") 829)]), #[]⟩
noncomputable abbrev o_237 (P : Params) : Obj := ⟨(.type "function"), .none, (.func (fnOf (Str.ofString "law") (Str.ofString "law") prm_40 bod_40 scp_40 .none .none .none (.str (Str.ofString "law_ij0148_01") 761) .none (.ref 236) .none)), #[]⟩
noncomputable def K (P : Params) : Frag := .cons (nat_lit 2, o_2 P) ( .cons (nat_lit 3, o_3 P) ( .cons (nat_lit 4, o_4 P) ( .cons (nat_lit 96, o_96 P) ( .cons (nat_lit 97, o_97 P) ( .cons (nat_lit 98, o_98 P) ( .cons (nat_lit 105, o_105 P) ( .cons (nat_lit 106, o_106 P) ( .cons (nat_lit 107, o_107 P) ( .cons (nat_lit 108, o_108 P) ( .cons (nat_lit 111, o_111 P) ( .cons (nat_lit 113, o_113 P) ( .cons (nat_lit 114, o_114 P) ( .cons (nat_lit 116, o_116 P) ( .cons (nat_lit 117, o_117 P) ( .cons (nat_lit 118, o_118 P) ( .cons (nat_lit 120, o_120 P) ( .cons (nat_lit 121, o_121 P) ( .cons (nat_lit 123, o_123 P) ( .cons (nat_lit 124, o_124 P) ( .cons (nat_lit 125, o_125 P) ( .cons (nat_lit 127, o_127 P) ( .cons (nat_lit 128, o_128 P) ( .cons (nat_lit 130, o_130 P) ( .cons (nat_lit 131, o_131 P) ( .cons (nat_lit 132, o_132 P) ( .cons (nat_lit 134, o_134 P) ( .cons (nat_lit 135, o_135 P) ( .cons (nat_lit 137, o_137 P) ( .cons (nat_lit 138, o_138 P) ( .cons (nat_lit 139, o_139 P) ( .cons (nat_lit 141, o_141 P) ( .cons (nat_lit 142, o_142 P) ( .cons (nat_lit 144, o_144 P) ( .cons (nat_lit 145, o_145 P) ( .cons (nat_lit 146, o_146 P) ( .cons (nat_lit 147, o_147 P) ( .cons (nat_lit 149, o_149 P) ( .cons (nat_lit 150, o_150 P) ( .cons (nat_lit 152, o_152 P) ( .cons (nat_lit 153, o_153 P) ( .cons (nat_lit 154, o_154 P) ( .cons (nat_lit 156, o_156 P) ( .cons (nat_lit 157, o_157 P) ( .cons (nat_lit 159, o_159 P) ( .cons (nat_lit 160, o_160 P) ( .cons (nat_lit 161, o_161 P) ( .cons (nat_lit 163, o_163 P) ( .cons (nat_lit 164, o_164 P) ( .cons (nat_lit 166, o_166 P) ( .cons (nat_lit 167, o_167 P) ( .cons (nat_lit 168, o_168 P) ( .cons (nat_lit 170, o_170 P) ( .cons (nat_lit 171, o_171 P) ( .cons (nat_lit 173, o_173 P) ( .cons (nat_lit 174, o_174 P) ( .cons (nat_lit 175, o_175 P) ( .cons (nat_lit 177, o_177 P) ( .cons (nat_lit 178, o_178 P) ( .cons (nat_lit 180, o_180 P) ( .cons (nat_lit 181, o_181 P) ( .cons (nat_lit 182, o_182 P) ( .cons (nat_lit 184, o_184 P) ( .cons (nat_lit 185, o_185 P) ( .cons (nat_lit 187, o_187 P) ( .cons (nat_lit 188, o_188 P) ( .cons (nat_lit 189, o_189 P) ( .cons (nat_lit 191, o_191 P) ( .cons (nat_lit 192, o_192 P) ( .cons (nat_lit 194, o_194 P) ( .cons (nat_lit 195, o_195 P) ( .cons (nat_lit 196, o_196 P) ( .cons (nat_lit 198, o_198 P) ( .cons (nat_lit 199, o_199 P) ( .cons (nat_lit 201, o_201 P) ( .cons (nat_lit 202, o_202 P) ( .cons (nat_lit 203, o_203 P) ( .cons (nat_lit 205, o_205 P) ( .cons (nat_lit 206, o_206 P) ( .cons (nat_lit 208, o_208 P) ( .cons (nat_lit 209, o_209 P) ( .cons (nat_lit 210, o_210 P) ( .cons (nat_lit 212, o_212 P) ( .cons (nat_lit 213, o_213 P) ( .cons (nat_lit 215, o_215 P) ( .cons (nat_lit 216, o_216 P) ( .cons (nat_lit 217, o_217 P) ( .cons (nat_lit 219, o_219 P) ( .cons (nat_lit 220, o_220 P) ( .cons (nat_lit 222, o_222 P) ( .cons (nat_lit 223, o_223 P) ( .cons (nat_lit 224, o_224 P) ( .cons (nat_lit 226, o_226 P) ( .cons (nat_lit 227, o_227 P) ( .cons (nat_lit 229, o_229 P) ( .cons (nat_lit 230, o_230 P) ( .cons (nat_lit 231, o_231 P) ( .cons (nat_lit 233, o_233 P) ( .cons (nat_lit 234, o_234 P) ( .cons (nat_lit 236, o_236 P) ( .cons (nat_lit 237, o_237 P) (.nil)))))))))))))))))))))))))))))))))))))))))))))))))))))))))))))))))))))))))))))))))))))))))))))))))))))
end
/-- membership item by item: small proofs -/
theorem ac {α : Type} {P : α → Prop} {a : α} {l : List α} (h1 : P a) (h2 : ∀ q, q ∈ l → P q) : ∀ q, q ∈ a :: l → P q := fun q hq => (List.mem_cons.mp hq).elim (fun e => e ▸ h1) (h2 q)
theorem ap {α : Type} {P : α → Prop} {l m : List α} (h1 : ∀ q, q ∈ l → P q) (h2 : ∀ q, q ∈ m → P q) : ∀ q, q ∈ l ++ m → P q := fun q hq => (List.mem_append.mp hq).elim (h1 q) (h2 q)
open PySem PySem.W PySem.Spec PySem.Calls PyProof.Rows PyProof.Rows.TI
noncomputable abbrev bd (l : List (Str × Value)) : Str → Option Value := fun y => l.lookup y
theorem FrozAt.keeps' {prog : Program} {w : World} {h h' : Heap} {a : Addr} {S : Str → Bool} {n : Nat} (x : FrozAt (strKind prog w) h a S n) (k : h.StaysIn h') : FrozAt (strKind prog w) h' a S n := by
  obtain ⟨es, ep, t, ho, r⟩ := x
  exact ⟨es, ep, t, k _ _ ho, r⟩
/-- all but the frames and the one table stay; the frames up to their slots -/
noncomputable def Kp (fs : List Addr) (h h' : Heap) : Prop :=
  (∀ b o, h.get? b = some o → b ∉ fs → b ≠ 183 → h'.get? b = some o) ∧ (∀ b o, h.get? b = some o → b ∈ fs → ∃ sl, h'.get? b = some { o with slots := sl })
theorem Kp.refl (fs : List Addr) (h : Heap) : Kp fs h h := ⟨fun _ _ e _ _ => e, fun _ o e _ => ⟨o.slots, e⟩⟩
noncomputable def bareC (c : Nat) : Bool := (97 ≤ c && c ≤ 122) || (65 ≤ c && c ≤ 90) || (48 ≤ c && c ≤ 57) || c == 45 || c == 95
noncomputable def wsC (c : Nat) : Bool := c == 32 || c == 9
noncomputable def illC (c : Nat) : Bool := (c < 32 && c != 9) || c == 127
noncomputable def hexC (c : Nat) : Bool := (48 ≤ c && c ≤ 57) || (97 ≤ c && c ≤ 102) || (65 ≤ c && c ≤ 70)
/-- a set of one-sign texts -/
noncomputable def SetOne (w : World) (h : Heap) (a : Addr) (f : Nat → Bool) : Prop :=
  ∃ S n, n < 4096 ∧ FrozAt (strKind pr w) h a S n ∧ ∀ k : Str, S k = (k.cps.size == 1 && f (k.cps.getD 0 0))
theorem SetOne.keeps {w : World} {h h' : Heap} {a : Addr} {f : Nat → Bool} (x : SetOne w h a f) (k : h.StaysIn h') : SetOne w h' a f := by
  obtain ⟨S, n, hn, F, e⟩ := x
  exact ⟨S, n, hn, FrozAt.keeps' F k, e⟩
structure Gnd (w : World) (p : Program) (loose : List Str) (mg mb : Str → Option Value) (G : Heap) : Prop where
  X : (K w.params).In G
  T : TopRead p loose mg mb G
  ws : SetOne w G 78 wsC
  bare : SetOne w G 87 bareC
  ill : SetOne w G 72 illC
  hex : SetOne w G 91 hexC
noncomputable abbrev tbO (vs : Array Value) : Obj := ⟨.none, none, .fields vs, #[]⟩
/-- the place of the inner def's code in its table -/
noncomputable def TbV (h : Heap) (vs : Array Value) : Prop :=
  vs = #[] ∨ ∃ c o fs t, vs = #[rawInt 156, rawInt 4, .ref c] ∧ h.get? c = some o ∧ o.cls = .type "code" ∧ o.data = .fields fs ∧ fs[1]? = some (.str (Str.ofString "suffixed_err.<locals>.coord_repr") t)
theorem TbV.stays {h h' : Heap} {vs : Array Value} (x : TbV h vs) (k : h.StaysIn h') : TbV h' vs := by
  rcases x with x | ⟨c, o, fs, t, e, ho, r⟩
  · exact .inl x
  · exact .inr ⟨c, o, fs, t, e, k _ _ ho, r⟩
theorem TbV.from {h h' : Heap} {vs : Array Value} (x : TbV h vs) (k : ∀ b o, o.cls = .type "code" → h.get? b = some o → (∃ fs, o.data = .fields fs) → h'.get? b = some o) : TbV h' vs := by
  rcases x with x | ⟨c, o, fs, t, e, ho, hc, hd, r⟩
  · exact .inl x
  · exact .inr ⟨c, o, fs, t, e, k _ _ hc ho ⟨fs, hd⟩, hc, hd, r⟩
noncomputable def Tb (h : Heap) : Prop := ∃ vs, h.get? 183 = some (tbO vs) ∧ TbV h vs
structure Cal (w : World) (p : Program) (loose : List Str) (mg mb : Str → Option Value) (G : Heap) (d : Nat) (A : Around) (l : List Env) (frs : List (Addr × Obj)) (h : Heap) : Prop where
  fr : A.frames = some l
  hd : A.handled = none
  dep : A.depth + d < recursionLimit
  un : A.units + 8 * d < cLine
  fs : Frs l frs
  there : ∀ q ∈ frs, h.get? q.1 = some q.2
  stays : G.StaysIn h
  fresh : ∀ q ∈ frs, G.get? q.1 = none
  tbn : G.get? 183 = none
  apart : ∀ q ∈ frs, q.1 ≠ 183
  tb : Tb h
  gnd : Gnd w p loose mg mb G
theorem frs_dict {l : List Env} {frs : List (Addr × Obj)} (h : Frs l frs) : ∀ q ∈ frs, ∃ es ep, q.2.data = .dict es ep := by
  induction frs generalizing l with
  | nil => intro q hq; nomatch hq
  | cons p frs ih =>
    intro q hq
    cases l with
    | nil => exact False.elim h
    | cons env l =>
      rcases List.mem_cons.mp hq with rfl | hq
      · exact h.2.2.1
      · exact ih h.2.2.2 q hq
/-- new objects that are no frame and not the table -/
noncomputable def nd (o : Obj) : Bool := match o with
  | ⟨.none, _, .fields _, _⟩ => false
  | ⟨_, _, .dict _ _, _⟩ => false
  | _ => true
section
variable {w : World} {p : Program} {loose : List Str} {mg mb : Str → Option Value} {G : Heap} {d : Nat} {A : Around} {l : List Env} {frs : List (Addr × Obj)} {s : Shared}
theorem enter {f : Addr} {oc : Value} {od : Option Addr} {osl : Array (Option Value)} {name qual : Str} {params : Arguments} {body : List Stmt} {scope : Scope} {dV kV doc pm cdv ct : Value} {an : Option Addr} {args : Args} {binds : List (Str × Value)} {R : Result → Shared → Prop}
    (C : Cal w p loose mg mb G (d + 1) A l frs s.heap)
    (ho : (K w.params).lookup f = some ⟨oc, od, .func (fnOf name qual params body scope dV kV doc pm an cdv ct), osl⟩) (hcd : codeIn (K w.params) cdv qual = true)
    (hbind : BindsTo s (fnOf name qual params body scope dV kV doc pm an cdv ct) args binds) (hloc : ∀ y ∈ binds, scope.names.lookup y.1 = some .local)
    (h : ∀ G' h₁ vs, TbV G' vs → Fr G' s.heap.objs.size h₁ (fun y => binds.reverse.lookup y) → News G' s.heap.objs.size h₁ ((183, tbO vs) :: frs) → G.StaysIn G' → G' = hideAll s.heap (183 :: frs.map (·.1)) →
      (K w.params).In G' → TopRead p loose mg mb G' → s.heap.StaysIn h₁ → s.heap.get? 183 = some (tbO vs) →
      wpAny (model pr w) (A.deeper (envOf qual scope s.heap.objs.size f cdv)) (execs body (envOf qual scope s.heap.objs.size f cdv))
        (fun fl s' => R (.ok (.ret (match fl with | .ret v => v | _ => .none))) s')
        (fun e s' => wpAny (model pr w) (A.deeper (envOf qual scope s.heap.objs.size f cdv)) (leaving (envOf qual scope s.heap.objs.size f cdv) e) (fun _ s'' => R (.error e) s'') (fun e' s'' => R (.error e') s'') s')
        { s with heap := h₁, toks := s.toks + binds.length })
    (hco : scope.isCoroutine = false) (hgen : scope.isGenerator = false) (hk : scope.kind = .function) (hcell : ∀ x ∈ scope.names, x.2 ≠ .cell) : codeAny (model pr w) A (.call (.ref f) args) R s := by
  have st : G.StaysIn s.heap := C.stays
  have X := C.gnd.X.keeps st
  refine codeAny_call_def (fd := fnOf name qual params body scope dV kV doc pm an cdv ct) (body := body) (binds := binds) (by have := C.dep; omega) (X _ _ ho) rfl (C.gnd.T.nolimit.keeps st) (codeRec_of X hcd) rfl hbind hcell hloc (fun h₁ hns hk₁ => ?_) hco hgen hk
  obtain ⟨vs, htb, hv⟩ := C.tb
  have stG : G.StaysIn (hideAll s.heap (183 :: frs.map (·.1))) := fun b o e => hideAll_get _ (st b o e) (fun hm => by
    rcases List.mem_cons.mp hm with q | hm
    · rw [q, C.tbn] at e; cases e
    · obtain ⟨q, hq, e'⟩ := List.mem_map.mp hm
      rw [← e', C.fresh q hq] at e; cases e)
  have hvG : TbV (hideAll s.heap (183 :: frs.map (·.1))) vs := hv.from fun b o hc e hd => hideAll_get _ e (fun hm => by
    rcases List.mem_cons.mp hm with q | hm
    · rw [q, htb] at e; cases e; cases hc
    · obtain ⟨q, hq, e'⟩ := List.mem_map.mp hm
      rw [← e', C.there q hq] at e; cases e
      obtain ⟨es, ep, hdd⟩ := frs_dict C.fs q hq
      obtain ⟨fs, hd⟩ := hd
      rw [hdd] at hd; cases hd)
  refine h _ h₁ vs hvG ⟨hns, fun b o e => hk₁ b o (of_hideAll _ e), Nat.le_of_eq (hideAll_size _ _)⟩ (fun q hq => ?_) stG rfl (C.gnd.X.keeps stG) (C.gnd.T.keeps stG) hk₁ htb
  rcases List.mem_cons.mp hq with e | hq
  · subst e
    exact ⟨hk₁ _ _ htb, Nat.ne_of_lt (Heap.lt_size htb), hideAll_none _ (List.mem_cons_self)⟩
  · exact ⟨hk₁ _ _ (C.there q hq), Nat.ne_of_lt (Heap.lt_size (C.there q hq)), hideAll_none _ (List.mem_cons_of_mem _ (List.mem_map_of_mem hq))⟩
theorem sameUp_mem {a b : List (Addr × Obj)} (h : SameUp a b) : (∀ q ∈ a, ∃ sl, (q.1, ({ q.2 with slots := sl } : Obj)) ∈ b) ∧ b.map (·.1) = a.map (·.1) := by
  induction a generalizing b with
  | nil =>
    cases b with
    | nil => exact ⟨fun q hq => (nomatch hq), rfl⟩
    | cons _ _ => exact False.elim h
  | cons p ps ih =>
    cases b with
    | nil => exact False.elim h
    | cons q qs =>
      obtain ⟨h1, ⟨sl, h2⟩, h3⟩ := h
      obtain ⟨i1, i2⟩ := ih h3
      refine ⟨fun x hx => ?_, by simp only [List.map_cons, i2, h1]⟩
      rcases List.mem_cons.mp hx with rfl | hx
      · exact ⟨sl, by rw [← h1, ← h2]; exact List.mem_cons_self⟩
      · obtain ⟨sl', hm⟩ := i1 x hx
        exact ⟨sl', List.mem_cons_of_mem _ hm⟩
/-- what a callee's end gives its caller -/
theorem kp_of {G' h h' : Heap} {L : Addr} {m : Str → Option Value} {new frs' : List (Addr × Obj)} {tb : Obj} (F : Fr G' L h' m) (N : News G' L h' (new ++ (183, tb) :: frs')) (SU : SameUp frs frs')
    (e : G' = hideAll h (183 :: frs.map (·.1))) (there : ∀ q ∈ frs, h.get? q.1 = some q.2) : Kp (frs.map (·.1)) h h' := by
  refine ⟨fun b o eb hn h183 => F.keep b o (by rw [e]; exact hideAll_get _ eb (fun hm => (List.mem_cons.mp hm).elim h183 hn)), fun b o eb hm => ?_⟩
  obtain ⟨q, hq, rfl⟩ := List.mem_map.mp hm
  rw [there q hq] at eb
  cases eb
  obtain ⟨sl, hs⟩ := (sameUp_mem SU).1 q hq
  exact ⟨sl, (N _ (List.mem_append_right _ (List.mem_cons_of_mem _ hs))).1⟩
theorem apart_of {G' h : Heap} {L : Addr} {new frs' : List (Addr × Obj)} {vs : Array Value} (N : News G' L h (new ++ (183, tbO vs) :: frs')) (hd : ∀ q ∈ frs', ∃ es ep, q.2.data = .dict es ep) (hnd : ∀ q ∈ new, nd q.2 = true) :
    ∀ q ∈ new, q.1 ∉ L :: frs'.map (·.1) ∧ q.1 ≠ 183 := by
  intro q hq
  have h1 := N q (List.mem_append_left _ hq)
  refine ⟨fun hm => ?_, fun e => ?_⟩
  · rcases List.mem_cons.mp hm with e | hm
    · exact h1.2.1 e
    · obtain ⟨r, hr, e⟩ := List.mem_map.mp hm
      have h2 := (N r (List.mem_append_right _ (List.mem_cons_of_mem _ hr))).1
      rw [e, h1.1] at h2
      obtain ⟨es, ep, hdd⟩ := hd r hr
      have hq' := hnd q hq
      rw [Option.some.inj h2] at hq'
      obtain ⟨⟨c, dd, dt, sl⟩, hr'⟩ : ∃ o : Obj, o = r.2 := ⟨_, rfl⟩
      rw [← hr'] at hq' hdd
      simp only at hdd
      subst hdd
      cases c <;> simp [nd] at hq'
  · have h2 := (N (183, tbO vs) (List.mem_append_right _ List.mem_cons_self)).1
    rw [← e, h1.1] at h2
    have hq' := hnd q hq
    rw [Option.some.inj h2] at hq'
    simp [nd] at hq'
/-- a callee's frame may call in its turn -/
theorem cal_in {G' : Heap} {L a : Addr} {m : Str → Option Value} {new frs' : List (Addr × Obj)} {vs : Array Value} {qual : Str} {scope : Scope} {cdv : Value} {h h0 : Heap} (C : Cal w p loose mg mb G (d + 1) A l frs h0) (F : Fr G' L h m) (N : News G' L h (new ++ (183, tbO vs) :: frs')) (SU : SameUp frs frs') (Fs : Frs l frs')
    (st : G.StaysIn G') (hv : TbV G' vs) (hk : scope.kind = .function) :
    ∃ oL, h.get? L = some oL ∧ Cal w p loose mg mb G d (A.deeper (envOf qual scope L a cdv)) (envOf qual scope L a cdv :: l) ((L, oL) :: frs') h := by
  obtain ⟨oL, es, ep, hL, hLd, hLk, hLf⟩ := F.ns
  refine ⟨oL, hL, ⟨by show A.frames.map _ = _; rw [C.fr]; rfl, C.hd, ?_, ?_, ⟨?_, rfl, ⟨es, ep, hLd⟩, Fs⟩, fun q hq => ?_, fun b o e => F.keep b o (st b o e), fun q hq => ?_, C.tbn, fun q hq => ?_, ⟨vs, (N _ (List.mem_append_right _ List.mem_cons_self)).1, hv.stays F.keep⟩, C.gnd⟩⟩
  · have := C.dep
    show A.depth + 1 + d < _
    omega
  · have := C.un
    show A.units + 3 + 8 * d < _
    omega
  · show scope.kind ≠ .module
    rw [hk]; decide
  · rcases List.mem_cons.mp hq with e | hq
    · subst e; exact hL
    · exact (N q (List.mem_append_right _ (List.mem_cons_of_mem _ hq))).1
  · rcases List.mem_cons.mp hq with e | hq
    · subst e
      cases x : G.get? L with
      | none => rfl
      | some o => exact absurd (Nat.lt_of_lt_of_le (Heap.lt_size (st _ _ x)) F.above) (Nat.lt_irrefl _)
    · have := (N q (List.mem_append_right _ (List.mem_cons_of_mem _ hq))).2.2
      cases x : G.get? q.1 with
      | none => rfl
      | some o => rw [st _ _ x] at this; cases this
  · rcases List.mem_cons.mp hq with e | hq
    · subst e
      intro q
      exact (N _ (List.mem_append_right _ List.mem_cons_self)).2.1 q.symm
    · have hm : q.1 ∈ frs.map (·.1) := by rw [← (sameUp_mem SU).2]; exact List.mem_map_of_mem hq
      obtain ⟨r, hr, e⟩ := List.mem_map.mp hm
      rw [← e]; exact C.apart r hr
theorem fr_back {G' : Heap} {L : Addr} {m : Str → Option Value} {new frs' : List (Addr × Obj)} {vs : Array Value} {h h' : Heap} {oL : Obj} (F : Fr G' L h m) (N : News G' L h (new ++ (183, tbO vs) :: frs')) (hL : h.get? L = some oL) (hd : ∀ q ∈ frs', ∃ es ep, q.2.data = .dict es ep)
    (hnd : ∀ q ∈ new, nd q.2 = true) (k : Kp (L :: frs'.map (·.1)) h h') (tb : Tb h') :
    ∃ vs' frs'', TbV h' vs' ∧ SameUp frs' frs'' ∧ Fr G' L h' m ∧ News G' L h' (new ++ (183, tbO vs') :: frs'') := by
  have ap := apart_of N hd hnd
  obtain ⟨vs', htb, hv'⟩ := tb
  have hL183 : L ≠ 183 := fun q => (N _ (List.mem_append_right _ List.mem_cons_self)).2.1 q.symm
  have key : ∀ fs : List (Addr × Obj), (∀ q ∈ fs, q ∈ frs') → ∃ fs', SameUp fs fs' ∧ ∀ q ∈ fs', h'.get? q.1 = some q.2 := by
    intro fs
    induction fs with
    | nil => exact fun _ => ⟨[], trivial, fun q hq => nomatch hq⟩
    | cons r rs ih =>
      intro hs
      obtain ⟨fs', SU, ht⟩ := ih fun q hq => hs q (List.mem_cons_of_mem _ hq)
      have hr := hs r List.mem_cons_self
      obtain ⟨sl, e⟩ := k.2 r.1 r.2 (N r (List.mem_append_right _ (List.mem_cons_of_mem _ hr))).1 (List.mem_cons_of_mem _ (List.mem_map_of_mem hr))
      refine ⟨(r.1, { r.2 with slots := sl }) :: fs', ⟨rfl, ⟨sl, rfl⟩, SU⟩, fun q hq => ?_⟩
      rcases List.mem_cons.mp hq with e' | hq
      · subst e'; exact e
      · exact ht q hq
  obtain ⟨frs'', SU, ht⟩ := key frs' fun q hq => hq
  obtain ⟨oL', es, ep, hL', hLd, hLk, hLf⟩ := F.ns
  obtain ⟨sl, hLn⟩ := k.2 L _ hL' List.mem_cons_self
  refine ⟨vs', frs'', hv', SU, ⟨⟨_, es, ep, hLn, hLd, hLk, hLf⟩, fun b o e => ?_, F.above⟩, fun q hq => ?_⟩
  · refine k.1 b o (F.keep b o e) (fun hm => ?_) (fun e' => ?_)
    · rcases List.mem_cons.mp hm with e' | hm
      · subst e'
        exact absurd (Nat.lt_of_lt_of_le (Heap.lt_size e) F.above) (Nat.lt_irrefl _)
      · obtain ⟨r, hr, e'⟩ := List.mem_map.mp hm
        rw [← e', (N r (List.mem_append_right _ (List.mem_cons_of_mem _ hr))).2.2] at e; cases e
    · rw [e', (N _ (List.mem_append_right _ List.mem_cons_self)).2.2] at e; cases e
  · rcases List.mem_append.mp hq with hq | hq
    · have h1 := N q (List.mem_append_left _ hq)
      exact ⟨k.1 _ _ h1.1 (ap q hq).1 (ap q hq).2, h1.2⟩
    · rcases List.mem_cons.mp hq with e | hq
      · subst e
        exact ⟨htb, (N _ (List.mem_append_right _ List.mem_cons_self)).2⟩
      · have hm : q.1 ∈ frs'.map (·.1) := by rw [← (sameUp_mem SU).2]; exact List.mem_map_of_mem hq
        obtain ⟨r, hr, e⟩ := List.mem_map.mp hm
        have h1 := N r (List.mem_append_right _ (List.mem_cons_of_mem _ hr))
        exact ⟨ht q hq, by rw [← e]; exact h1.2⟩
theorem fr_backO {G' : Heap} {L : Addr} {m : Str → Option Value} {new frs' : List (Addr × Obj)} {vs : Array Value} {h h' : Heap} {oL : Obj} (F : Fr G' L h m) (N : News G' L h (new ++ (183, tbO vs) :: frs')) (hL : h.get? L = some oL) (hd : ∀ q ∈ frs', ∃ es ep, q.2.data = .dict es ep)
    (hnd : ∀ q ∈ new, nd q.2 = true) (hv : TbV G' vs) (k : Kp (L :: frs'.map (·.1)) h h') (e183 : h'.get? 183 = h.get? 183) :
    ∃ frs'', SameUp frs' frs'' ∧ Fr G' L h' m ∧ News G' L h' (new ++ (183, tbO vs) :: frs'') := by
  have e0 := (N _ (List.mem_append_right _ List.mem_cons_self)).1
  have hvh : TbV h' vs := (hv.stays F.keep).from fun b o hc eb hdd => k.1 b o eb (fun hm => by
    rcases List.mem_cons.mp hm with q | hm
    · rw [q] at eb
      obtain ⟨oL', es, ep, hL', hLd, _⟩ := F.ns
      rw [hL'] at eb; cases eb
      obtain ⟨fs, hf⟩ := hdd
      rw [hLd] at hf; cases hf
    · obtain ⟨r, hr, e'⟩ := List.mem_map.mp hm
      have := (N r (List.mem_append_right _ (List.mem_cons_of_mem _ hr))).1
      rw [e', eb] at this; cases this
      obtain ⟨es, ep, hh⟩ := hd r hr
      obtain ⟨fs, hf⟩ := hdd
      rw [hh] at hf; cases hf) (fun q => by
    rw [q, e0] at eb; cases eb; cases hc)
  obtain ⟨vs', frs'', hv', SU, F', N'⟩ := fr_back F N hL hd hnd k ⟨vs, e183.trans e0, hvh⟩
  have e1 := (N' _ (List.mem_append_right _ List.mem_cons_self)).1
  rw [show ((183, tbO vs') : Addr × Obj).1 = 183 from rfl, e183, e0] at e1
  have : vs = vs' := by injection e1 with e1; injection e1 with _ _ e1; injection e1
  subst this
  exact ⟨frs'', SU, F', N'⟩
end
section
variable {w : World} {p : Program} {loose : List Str} {mg mb : Str → Option Value} {KF : Frag} {A₀ : Around} {l : List Env} {frs new : List (Addr × Obj)} {s' : Shared} {hb h : Heap} {L a e : Addr} {m : Str → Option Value} {name : Str} {scope : Scope} {cd : Value}
  {x : Str} {X T' : String} {b₀ : Stmt} {suite : List Stmt} {pos np : Pos} {rest : List ExceptHandler} {Q : Flow → Shared → Prop} {E : Value → Shared → Prop}
/-- an exception that the interpreter raised in this frame, taken by the frame's own clause -/
theorem caught_ix (hfr : A₀.frames = some l) (Fs : Frs l frs) (hx : Heap.NewExc h s'.heap e X) (F : Fr hb L h m) (N : News hb L h (new ++ frs)) (hap : ∀ p ∈ new, p.1 ∉ L :: frs.map (·.1))
    (XK : KF.In hb) (T : TopRead p loose mg mb hb) (ex : nsIn KF mainGlobals x = some none) (hv : bootBuiltins x = some (.type T')) (hn' : x ≠ "__name__")
    (hexc : isSubtype (.type T') (.type "BaseException") = pure true) (hnt : isSubtype (.type ((Manifest.find? T').elim "type" fun y => y.metatype)) (.type "tuple") = pure false) (hsub : isSubtype (.type X) (.type T') = pure true)
    (k : ∀ h' frs', SameUp frs frs' → Frs l frs' → Fr hb L h' m → News hb L h' (new ++ frs') → wpAny (model pr w) ((A₀.deeper (envOf name scope L a cd)).mark (some (.ref e))) (execs (b₀ :: suite) (envOf name scope L a cd)) Q E { s' with heap := h' })
    (hk : scope.kind = .function := by rfl) (hxk : (envOf name scope L a cd).kindOf x = some .globalImplicit := by rfl) (hdb : (x == ("__debug__" : Str)) = false := by decide)
    (hE : PassesOwnAt (model pr w) ((A₀.deeper (envOf name scope L a cd)).mark (some (.ref e))) (A₀.deeper (envOf name scope L a cd)) (envOf name scope L a cd) E := by passes_own) :
    wpAny (model pr w) (A₀.deeper (envOf name scope L a cd)) (noteFrame (.ref e) (envOf name scope L a cd))
      (fun _ s₂ => wpAny (model pr w) (A₀.deeper (envOf name scope L a cd)) (setFlight (.ref e) none) (fun _ s₃ =>
        wpAny (model pr w) (A₀.deeper (envOf name scope L a cd)) (handleBy (.ref e) (envOf name scope L a cd) (.ExceptHandler (some (.Name x np)) none (b₀ :: suite) pos :: rest)) Q E s₃) E s₂) E s' := by
  refine TLg.noted_newA (new := new) hfr Fs hx F N hap (fun h' frs' SU Fs' H => ?_) hk
  refine TT.HeldNA.land (s' := { s' with heap := h' }) H fun h'' H2 => ?_
  have F2 : Fr hb L h'' m := H2.held.fr
  refine wpAny_handleBy_builtin (X := X) (T := T') (b := true) hexc hnt hsub (wpAny_passesOwnAt hE (name_B (s := { s' with heap := h'' }) F2 XK T ex hv hn' ⟨rfl, H2.isA, ?_⟩ hk hxk hdb))
  rw [if_pos rfl]
  exact TT.HeldNA.lands (s' := { s' with heap := h'' }) H2 fun h3 F3 N3 => wpAny_passesOwnAt hE (k h3 frs' SU Fs' F3 N3)
end
theorem apart_tb {w : World} {p : Program} {loose : List Str} {mg mb : Str → Option Value} {G : Heap} {d : Nat} {A : Around} {l : List Env} {frs frs' new : List (Addr × Obj)} {h0 G' h : Heap} {L : Addr} {vs : Array Value}
    (C : Cal w p loose mg mb G d A l frs h0) (N : News G' L h (new ++ (183, tbO vs) :: frs')) (SU : SameUp frs frs') (hnd : ∀ q ∈ new, nd q.2 = true) : ∀ q ∈ new ++ [(183, tbO vs)], q.1 ∉ L :: frs'.map (·.1) := by
  have hd : ∀ q ∈ frs', ∃ es ep, q.2.data = .dict es ep := fun q hq => by
    have : ∀ {a b : List (Addr × Obj)}, SameUp a b → (∀ q ∈ a, ∃ es ep, q.2.data = .dict es ep) → ∀ q ∈ b, ∃ es ep, q.2.data = .dict es ep := by
      intro a
      induction a with
      | nil =>
        intro b h _ q hq
        cases b with
        | nil => nomatch hq
        | cons _ _ => exact False.elim h
      | cons r rs ih =>
        intro b h hh q hq
        cases b with
        | nil => exact False.elim h
        | cons t ts =>
          obtain ⟨_, ⟨sl, h2⟩, h3⟩ := h
          rcases List.mem_cons.mp hq with e | hq
          · subst e
            obtain ⟨es, ep, e⟩ := hh r List.mem_cons_self
            exact ⟨es, ep, by rw [h2]; exact e⟩
          · exact ih h3 (fun q hq => hh q (List.mem_cons_of_mem _ hq)) q hq
    exact this SU (frs_dict C.fs) q hq
  intro q hq
  rcases List.mem_append.mp hq with hq | hq
  · exact (apart_of N hd hnd q hq).1
  · have e := List.mem_singleton.mp hq
    subst e
    intro hm
    rcases List.mem_cons.mp hm with e | hm
    · exact (N _ (List.mem_append_right _ List.mem_cons_self)).2.1 e
    · rw [(sameUp_mem SU).2] at hm
      obtain ⟨r, hr, e⟩ := List.mem_map.mp hm
      exact C.apart r hr e
theorem frs_up {l : List Env} {a b : List (Addr × Obj)} (h : SameUp a b) (Fs : Frs l a) : Frs l b := by
  induction a generalizing b l with
  | nil =>
    cases b with
    | nil => exact Fs
    | cons _ _ => exact False.elim h
  | cons p ps ih =>
    cases b with
    | nil => exact False.elim h
    | cons q qs =>
      cases l with
      | nil => exact False.elim Fs
      | cons env l =>
        obtain ⟨h1, ⟨sl, h2⟩, h3⟩ := h
        obtain ⟨f1, f2, ⟨es, ep, f3⟩, f4⟩ := Fs
        exact ⟨f1, by rw [h1]; exact f2, ⟨es, ep, by rw [h2]; exact f3⟩, ih h3 f4⟩
theorem sameUp_trans {a b c : List (Addr × Obj)} (h1 : SameUp a b) (h2 : SameUp b c) : SameUp a c := SameUp.trans h1 h2
section
variable {w : World} {p : Program} {loose : List Str} {mg mb : Str → Option Value} {G : Heap} {d : Nat} {A : Around} {l : List Env} {frs frs' new : List (Addr × Obj)} {s' : Shared} {h0 G' h : Heap} {L a e : Addr} {m : Str → Option Value} {name : Str} {scope : Scope} {cd : Value} {vs : Array Value}
  {x : Str} {X T' : String} {b₀ : Stmt} {suite : List Stmt} {pos np : Pos} {rest : List ExceptHandler} {Q : Flow → Shared → Prop} {E : Value → Shared → Prop}
theorem caught_my (C : Cal w p loose mg mb G d A l frs h0) (hx : Heap.NewExc h s'.heap e X) (F : Fr G' L h m) (N : News G' L h (new ++ (183, tbO vs) :: frs')) (SU : SameUp frs frs') (hnd : ∀ q ∈ new, nd q.2 = true)
    (XK : (K w.params).In G') (T : TopRead p loose mg mb G') (ex : nsIn (K w.params) mainGlobals x = some none) (hv : bootBuiltins x = some (.type T')) (hn' : x ≠ "__name__")
    (hexc : subB T' (.type "BaseException") = some true) (hnt : subB ((Manifest.find? T').elim "type" fun y => y.metatype) (.type "tuple") = some false) (hsub : subB X (.type T') = some true)
    (hE : ∀ e, PassesOwnAt (model pr w) ((A.deeper (envOf name scope L a cd)).mark (some (.ref e))) (A.deeper (envOf name scope L a cd)) (envOf name scope L a cd) E)
    (k : ∀ h' frs'', SameUp frs frs'' → Fr G' L h' m → News G' L h' (new ++ (183, tbO vs) :: frs'') → wpAny (model pr w) ((A.deeper (envOf name scope L a cd)).mark (some (.ref e))) (execs (b₀ :: suite) (envOf name scope L a cd)) Q E { s' with heap := h' })
    (hk : scope.kind = .function := by rfl) (hxk : (envOf name scope L a cd).kindOf x = some .globalImplicit := by rfl) (hdb : (x == ("__debug__" : Str)) = false := by decide) :
    wpAny (model pr w) (A.deeper (envOf name scope L a cd)) (noteFrame (.ref e) (envOf name scope L a cd))
      (fun _ s₂ => wpAny (model pr w) (A.deeper (envOf name scope L a cd)) (setFlight (.ref e) none) (fun _ s₃ =>
        wpAny (model pr w) (A.deeper (envOf name scope L a cd)) (handleBy (.ref e) (envOf name scope L a cd) (.ExceptHandler (some (.Name x np)) none (b₀ :: suite) pos :: rest)) Q E s₃) E s₂) E s' := by
  refine caught_ix (new := new ++ [(183, tbO vs)]) C.fr (frs_up SU C.fs) hx F (by rw [List.append_assoc]; exact N) (apart_tb C N SU hnd) XK T ex hv hn' (isSubtype_of_subB hexc) (isSubtype_of_subB hnt) (isSubtype_of_subB hsub) (fun h' frs'' SU2 Fs2 F2 N2 => ?_) hk hxk hdb (hE e)
  exact k h' frs'' (SameUp.trans SU SU2) F2 (by rw [List.append_assoc] at N2; exact N2)
end
theorem item_is {x : Str} {n : Nat} (h : n < x.cps.size) : Txt.item x (n : Int) = ⟨#[x.cps.toList.getD n 0]⟩ := by
  unfold Txt.item Txt.charAt seqIndex? Str.length
  have h1 : ¬ ((n : Int) < 0) := by omega
  simp only [h1, if_false]
  rw [if_pos (by simp; omega)]
  simp [List.getD_eq_getElem?_getD]
section
variable {prog : Program} {w : World} {A : Around} {E : Value → Shared → Prop} {s : Shared} {value slice : PySem.Expr} {x : Str} {t u : Tok} {Q : Value → Shared → Prop}
theorem at_in {n : Nat} (hn : n < x.cps.size) (hb : x.cps.size ≤ 10000) (h : Q (.str ⟨#[x.cps.toList.getD n 0]⟩ s.toks) { s with toks := s.toks + 1 })
    (hs : subscripted slice false (.str x t) (.int n u) = operate [.str x t, .int n u] (getItem (.str x t) (.int n u)) := by with_unfolding_all rfl)
    (ht : ∀ r, letTemporaryGo value (.str x t) r = pure () := by intro _; with_unfolding_all rfl) :
    wpAny (model prog w) A (subscriptTail value slice (.str x t) (.int n u)) Q E s :=
  item_str (fitsSsize_of (N := 9223372036854775808) (by omega) (by omega) (Int.le_refl _)) (by unfold Str.length; omega) (by unfold Str.length; omega) (fun _ => by rw [item_is hn]; exact h) hs ht
theorem at_out {n : Nat} (hA : A.handled = none) (hn : x.cps.size ≤ n) (hb : n ≤ 10000) (h : ∀ h' tk e, Heap.NewExc s.heap h' e "IndexError" → E (.ref e) { s with heap := h', toks := tk })
    (hs : subscripted slice false (.str x t) (.int n u) = operate [.str x t, .int n u] (getItem (.str x t) (.int n u)) := by with_unfolding_all rfl)
    (ht : ∀ r, letTemporaryGo value (.str x t) r = pure () := by intro _; with_unfolding_all rfl) :
    wpAny (model prog w) A (subscriptTail value slice (.str x t) (.int n u)) Q E s :=
  item_str_or hA (fitsSsize_of (N := 9223372036854775808) (by omega) (by omega) (Int.le_refl _)) (fun _ => h) (fun _ h2 => by exfalso; unfold Str.length at h2; omega) hs ht
theorem in_one {h₀ : Heap} {L sa : Addr} {m : Str → Option Value} {f : Nat → Bool} {c : Nat} {t : Tok} (F : Fr h₀ L s.heap m) (hS : SetOne w h₀ sa f)
    (h : Q (.bool (f c)) { s with toks := s.toks + 1 }) : wpAny (model pr w) A (compareOp .In (.str ⟨#[c]⟩ t) (.ref sa)) Q E s := by
  obtain ⟨S, n, hn, FS, e⟩ := hS
  exact in_frozS F FS hn (by rw [e]; exact h)
end
noncomputable def skipN (f : Nat → Bool) (l : List Nat) (n : Nat) : Nat := n + ((l.drop n).takeWhile f).length
theorem skipN_eq {f : Nat → Bool} {l : List Nat} : ∀ {n i : Nat}, n ≤ i → i ≤ l.length → (∀ j, n ≤ j → j < i → f (l.getD j 0) = true) → (i < l.length → f (l.getD i 0) = false) → skipN f l n = i := by
  intro n i h1 h2 h3 h4
  unfold skipN
  obtain ⟨k, rfl⟩ : ∃ k, i = n + k := ⟨i - n, by omega⟩
  congr 1
  induction k generalizing n with
  | zero =>
    cases h : l.drop n with
    | nil => rfl
    | cons c r =>
      have hn : n < l.length := by
        rcases Nat.lt_or_ge n l.length with q | q
        · exact q
        · rw [List.drop_eq_nil_of_le q] at h; cases h
      have : l.getD n 0 = c := by
        rw [List.getD_eq_getElem?_getD, ← Nat.add_zero n, ← List.getElem?_drop, h]; rfl
      have := h4 hn
      simp_all [List.takeWhile]
  | succ k ih =>
    have hn : n < l.length := by omega
    rw [List.drop_eq_getElem_cons hn]
    have e : l.getD n 0 = l[n] := by rw [List.getD_eq_getElem?_getD, List.getElem?_eq_getElem hn]; rfl
    have := h3 n (Nat.le_refl _) (by omega)
    rw [e] at this
    rw [List.takeWhile_cons, this]
    simp only [if_true, List.length_cons]
    rw [ih (n := n + 1) (by omega) (by omega) (fun j hj hj' => h3 j (by omega) (by omega)) (fun q => by rw [show n + 1 + k = n + (k + 1) by omega] at q ⊢; exact h4 q)]
noncomputable def End (P : Prop) : Prop := P
structure Thru (w : World) (A : Around) (env : Env) (E : Value → Shared → Prop) : Prop where
  po : PassesOwn (model pr w) A env E
  at_ : ∀ e, PassesOwnAt (model pr w) (A.mark (some (.ref e))) A env E
theorem Thru.leaving {w : World} {A : Around} {env : Env} {K E₁ : Value → Shared → Prop} : Thru w A env (fun e s' => wpAny (model pr w) A (leaving env e) (fun _ s'' => K e s'') E₁ s') :=
  ⟨PassesOwn.leaving, fun _ => PassesOwnAt.leavingOf (SameStack.mark _ _)⟩
noncomputable abbrev Ok (w : World) (p : Program) (loose : List Str) (mg mb : Str → Option Value) (G : Heap) (d : Nat) (f : Addr) (args : List Value) (Post : Heap → Heap → Value → Prop) (kw : List (Str × Value) := []) : Prop :=
  ∀ (A : Around) (l : List Env) (frs : List (Addr × Obj)) (s : Shared) (Q E : Value → Shared → Prop), Cal w p loose mg mb G d A l frs s.heap →
    (∀ r h' tk', Kp (frs.map (·.1)) s.heap h' → h'.get? 183 = s.heap.get? 183 → Post s.heap h' r → Q r { s with heap := h', toks := tk' }) → wpAny (model pr w) A (call (.ref f) args kw) Q E s
local macro_rules | `(tactic| walk_at "eval Name") => `(tactic| (k_here; k_dflt (refine' ld ?k1 ?k2 ?_; (case k1 => k_asm); (case k2 => with_reducible assumption); k_whole)))
local macro_rules | `(tactic| walk_at "loadName") => `(tactic| (k_here; (refine ldn (by k_asm) (by with_reducible assumption) ?_)))
local macro_rules | `(tactic| walk_at "subscriptTail Name Name str int") => `(tactic| (k_here; (refine at_in (by first | assumption | omega) (by omega) ?_)))
local macro_rules | `(tactic| walk_at "subscriptTail Name Name str int") => `(tactic| (k_here; (refine at_out (by assumption) (by first | assumption | omega) (by omega) ?_); intro h' tk' e' nx'))
local macro_rules | `(tactic| walk_at "compareOp In str ref") => `(tactic| (k_here; (refine in_one (by k_asm) (by assumption) ?_)))
set_option maxHeartbeats 2000000 in
theorem skip_ok {w : World} {p : Program} {loose : List Str} {mg mb : Str → Option Value} {G : Heap} {src : Str} {t1 t2 : Tok} {n : Nat} {sa : Addr} {f : Nat → Bool} (hS : SetOne w G sa f) (hlen : src.cps.size ≤ 1000) (hn : n ≤ src.cps.size) :
    Ok w p loose mg mb G 1 117 [.str src t1, .int n t2, .ref sa] (fun h h' r => ∃ t, r = .int (skipN f src.cps.toList n) t) := by
  intro A l frs s Q E C hret
  have reg : (PySem.Challenge.rw_ij0148_01, K) = (PySem.Challenge.rw_ij0148_01, K) := by k_fill; rfl
  clear reg
  refine wpAny_call ?_
  k_dflt (refine' enter (d := 0) C ?ho ?hcd ?hb ?hl ?_ ?c2 ?c3 ?c4 ?c5; (case ho => k_is); (case hcd => k_is); (case hb => exact BindsTo.of_eq rfl); (case c5 => decide); (case hl => exact locs rfl); (case c2 => exact rfl); (case c3 => exact rfl); (case c4 => exact rfl))
  intro G' h₁ vs hv F N st eG X T hs1 tb0
  replace F : Fr G' s.heap.objs.size h₁ (bd [(Str.ofString "chars", .ref sa), (Str.ofString "pos", .int n t2), (Str.ofString "src", .str src t1)]) := F
  have S1 := hS.keeps st
  have key : ∀ (Qf : Flow → Shared → Prop) (E1 : Value → Shared → Prop), Thru w (A.deeper (envOf (Str.ofString "skip_chars") scp_22 s.heap.objs.size 117 (.ref 116))) (envOf (Str.ofString "skip_chars") scp_22 s.heap.objs.size 117 (.ref 116)) E1 →
      (∀ h' tk' t m' frs', Fr G' s.heap.objs.size h' m' → News G' s.heap.objs.size h' ((183, tbO vs) :: frs') → SameUp frs frs' → Qf (.ret (.int (skipN f src.cps.toList n) t)) { s with heap := h', toks := tk' }) →
      ∀ tk, wpAny (model pr w) (A.deeper (envOf (Str.ofString "skip_chars") scp_22 s.heap.objs.size 117 (.ref 116))) (execs bod_22 (envOf (Str.ofString "skip_chars") scp_22 s.heap.objs.size 117 (.ref 116))) Qf E1 { s with heap := h₁, toks := tk } := by
    intro Qf E1 hTh hQ tk
    have hPO := hTh.po
    have hPA := hTh.at_
    have hA1 : (A.deeper (envOf (Str.ofString "skip_chars") scp_22 s.heap.objs.size 117 (.ref 116))).handled = none := C.hd
    refine wpAny_execs_cons ?_
    refine wpAny_mono (Q := fun fl s2 => End (fl = .next ∧ ∃ h' tk' t m' frs', s2 = { s with heap := h', toks := tk' } ∧ Fr G' s.heap.objs.size h' m' ∧ News G' s.heap.objs.size h' ((183, tbO vs) :: frs') ∧ SameUp frs frs' ∧ m' (Str.ofString "pos") = some (.int (skipN f src.cps.toList n) t))) (E := E1) ?_ ?_ (fun _ _ x => x)
    rotate_left
    · rintro _ _ ⟨rfl, h', tk', t, m', frs', rfl, F', N', SU, e⟩
      dsimp only
      k_steps
      exact hQ _ _ _ _ _ (by assumption) (by assumption) SU
    refine wpAny_Try_except ?_
    refine wpAny_execs_cons ?_
    refine While_inv2 (fun k m₁ news₁ => news₁ = ((183, tbO vs) :: frs) ∧ ∃ (i : Nat) (tk : Tok), n ≤ i ∧ i ≤ src.cps.size ∧ k = src.cps.size - i ∧ (∀ j, n ≤ j → j < i → f (src.cps.toList.getD j 0) = true) ∧ m₁ (Str.ofString "pos") = some (.int i tk) ∧ m₁ (Str.ofString "src") = some (.str src t1) ∧ m₁ (Str.ofString "chars") = some (.ref sa)) (n₀ := src.cps.size - n) F N ⟨rfl, n, t2, Nat.le_refl _, hn, rfl, (fun j h1 h2 => by omega), rfl, rfl, rfl⟩ ?_
    rintro k m₁ news₁ h₁ tk₁ F2 N2 ⟨rfl, i, tk, hi, hi2, rfl, hall, m1, m2, m3⟩
    rcases Nat.lt_or_ge i src.cps.size with hlt | hge
    · k_steps
      · refine ⟨_, _, _, _, _, rfl, (by assumption), (by assumption), ?_, rfl, i + 1, _, by omega, by omega, rfl, ?_, by rfl, by exact m2, by exact m3⟩
        · omega
        · intro j h1 h2
          rcases Nat.lt_or_ge j i with q | q
          · exact hall j h1 q
          · rw [show j = i by omega]; assumption
      · have es : skipN f src.cps.toList n = i := skipN_eq hi (by simpa using hi2) hall (fun _ => by assumption)
        exact ⟨rfl, _, _, _, _, _, rfl, F2, N2, SameUp.refl _, by rw [es]; exact m1⟩
    · k_steps
      rename_i h' tk' e nx
      refine caught_my (new := []) C nx F2 N2 (SameUp.refl _) (fun q hq => nomatch hq) X T (by k_is) (by boot_by_name) (by decide) (by decide +kernel) (by decide +kernel) (by decide +kernel) hPA ?_
      · intro h3 frs3 SU3 F3 N3
        k_steps
        have es : skipN f src.cps.toList n = i := skipN_eq hi (by simpa using hi2) hall (fun q => by simp at q; omega)
        exact ⟨rfl, _, _, _, _, _, rfl, F3, N3, SU3, by rw [es]; exact m1⟩
  refine wpAny_mono (key _ _ Thru.leaving (fun h' tk' t m' frs' F' N' SU => ?_) _) (fun _ _ x => x) (fun _ _ x => x)
  exact hret _ _ _ (kp_of (new := []) F' N' SU eG C.there) ((N' _ List.mem_cons_self).1.trans tb0.symm) ⟨t, rfl⟩
section
variable {w : World} {p : Program} {loose : List Str} {mg mb : Str → Option Value} {G : Heap} {d : Nat} {A : Around} {l : List Env} {frs frs' new rest : List (Addr × Obj)} {s : Shared} {h0 h h' G' : Heap} {L a f x : Addr} {m : Str → Option Value} {qual : Str} {scope : Scope} {cdv : Value} {vs : Array Value} {o : Obj}
  {args : List Value} {kw : List (Str × Value)} {Post : Heap → Heap → Value → Prop} {Q E : Value → Shared → Prop}
theorem frs_dict_up (Fs : Frs l frs) (SU : SameUp frs frs') : ∀ q ∈ frs', ∃ es ep, q.2.data = .dict es ep := frs_dict (frs_up SU Fs)
/-- a call by its contract, from a frame of a contract -/
theorem use_ok (new : List (Addr × Obj)) (H : Ok w p loose mg mb G d f args Post kw) (C : Cal w p loose mg mb G (d + 1) A l frs h0) (F : Fr G' L s.heap m) (N : News G' L s.heap (new ++ (183, tbO vs) :: frs')) (SU : SameUp frs frs') (st : G.StaysIn G')
    (hnd : ∀ q ∈ new, nd q.2 = true) (hv : TbV G' vs) (hk : scope.kind = .function)
    (k : ∀ r h' tk' frs'', SameUp frs frs'' → Fr G' L h' m → News G' L h' (new ++ (183, tbO vs) :: frs'') → Post s.heap h' r → Q r { s with heap := h', toks := tk' }) :
    wpAny (model pr w) (A.deeper (envOf qual scope L a cdv)) (call (.ref f) args kw) Q E s := by
  obtain ⟨oL, hL, C'⟩ := cal_in (qual := qual) (scope := scope) (a := a) (cdv := cdv) C F N SU (frs_up SU C.fs) st hv hk
  refine H _ _ _ s Q E C' fun r h' tk' kp e183 post => ?_
  obtain ⟨frs'', SU', F', N'⟩ := fr_backO F N hL (frs_dict_up C.fs SU) hnd hv kp e183
  exact k r h' tk' frs'' (SameUp.trans SU SU') F' N' post
/-- an object that a call made goes onto the ledger -/
theorem new_in (F : Fr G' L h m) (N' : News G' L h' rest) (ha : h.get? x = none) (hx : h'.get? x = some o) : News G' L h' ((x, o) :: rest) := by
  intro q hq
  rcases List.mem_cons.mp hq with e | hq
  · subst e
    refine ⟨hx, fun e => ?_, ?_⟩
    · obtain ⟨oL, es, ep, hL, _⟩ := F.ns
      rw [← e, ha] at hL; cases hL
    · cases q : G'.get? x with
      | none => rfl
      | some o' => rw [F.keep _ _ q] at ha; cases ha
  · exact N' q hq
theorem new_none (C : Cal w p loose mg mb G d A l frs h) (N : News G' L h' (new ++ (183, tbO vs) :: frs')) (SU : SameUp frs frs') (hnd : ∀ q ∈ new, nd q.2 = true) (e : G' = hideAll h (183 :: frs.map (·.1))) (hx : (x, o) ∈ new) : h.get? x = none := by
  cases q : h.get? x with
  | none => rfl
  | some o' =>
    have ap := apart_of N (frs_dict_up C.fs SU) hnd _ hx
    have := (N _ (List.mem_append_left _ hx)).2.2
    rw [e, hideAll_get _ q (fun hm => ?_)] at this
    · cases this
    · rcases List.mem_cons.mp hm with r | hm
      · exact ap.2 r
      · exact ap.1 (List.mem_cons_of_mem _ (by rw [(sameUp_mem SU).2]; exact hm))
end
noncomputable abbrev tupO (vs : List Value) : Obj := ⟨.type "tuple", none, .seq vs.toArray 0, #[]⟩
/-- a new tuple of these -/
noncomputable def NewTup (vs : List Value) (h h' : Heap) (r : Value) : Prop := ∃ a, r = .ref a ∧ h.get? a = none ∧ h'.get? a = some (tupO vs)
theorem slot_issuperset : Slot "frozenset" "issuperset" "frozenset.issuperset" :=
  .of (owner := "frozenset") (n := "issuperset") (by rw [typeLookup_type, builtinLookup_eq_fast]; kernel_rfl) (by decide +kernel) (by decide +kernel) (by decide +kernel)
    (by first | exact .inl (by decide +kernel) | exact .inr (by decide +kernel)) (by rw [isSubtype_type]; kernel_rfl)
theorem entry_issuperset : entryFor table "frozenset.issuperset" = some Builtin.«frozenset.issuperset» := entryFor_of_tree (by kernel_rfl)
theorem args_issuperset_2 (a b : Value) : argsOk "frozenset.issuperset" ⟨[a, b], []⟩ := by
  unfold argsOk; rw [signature?_of (id := "frozenset.issuperset") (n := ['t', 'e', 's', 'r', 'e', 'p', 'u', 's', 's', 'i']) (o := ['t', 'e', 's', 'n', 'e', 'z', 'o', 'r', 'f']) (by kernel_rfl) FB.owner_frozenset]; kernel_rfl
theorem slot_isdisjoint : Slot "frozenset" "isdisjoint" "frozenset.isdisjoint" :=
  .of (owner := "frozenset") (n := "isdisjoint") (by rw [typeLookup_type, builtinLookup_eq_fast]; kernel_rfl) (by decide +kernel) (by decide +kernel) (by decide +kernel)
    (by first | exact .inl (by decide +kernel) | exact .inr (by decide +kernel)) (by rw [isSubtype_type]; kernel_rfl)
theorem entry_isdisjoint : entryFor table "frozenset.isdisjoint" = some Builtin.«frozenset.isdisjoint» := entryFor_of_tree (by kernel_rfl)
theorem args_isdisjoint_2 (a b : Value) : argsOk "frozenset.isdisjoint" ⟨[a, b], []⟩ := by
  unfold argsOk; rw [signature?_of (id := "frozenset.isdisjoint") (n := ['t', 'n', 'i', 'o', 'j', 's', 'i', 'd', 's', 'i']) (o := ['t', 'e', 's', 'n', 'e', 'z', 'o', 'r', 'f']) (by kernel_rfl) FB.owner_frozenset]; kernel_rfl
theorem plainAttrs_frozenset : PlainAttrs "frozenset" :=
  ⟨⟨"object.__getattribute__", by rw [typeLookup_type, builtinLookup_eq_fast]; kernel_rfl, by kernel_rfl⟩, by rw [typeLookup_type, builtinLookup_eq_fast]; kernel_rfl⟩
theorem type_issuperset : typeOf (.builtin "frozenset.issuperset") = pure (.type "method_descriptor") := by show builtinType _ = _; rw [builtinType_eq_fast]; kernel_rfl
theorem type_isdisjoint : typeOf (.builtin "frozenset.isdisjoint") = pure (.type "method_descriptor") := by show builtinType _ = _; rw [builtinType_eq_fast]; kernel_rfl
theorem entry_superloop : entryFor table "frozenset.issuperset.loop" = some Builtin.«frozenset.issuperset.loop» := entryFor_of_tree (by kernel_rfl)
theorem entry_disloop : entryFor table "frozenset.isdisjoint.loop" = some Builtin.«frozenset.isdisjoint.loop» := entryFor_of_tree (by kernel_rfl)
theorem plain_superloop : plainId "frozenset.issuperset.loop" = true := by decide +kernel
theorem plain_disloop : plainId "frozenset.isdisjoint.loop" = true := by decide +kernel
section
variable {w : World} {A : Around} {E : Value → Shared → Prop} {s : Shared} {h₀ : Heap} {L sa it : Addr} {m : Str → Option Value} {f : Nat → Bool} {c : Nat} {t : Tok} {x : Str} {i : Nat} {ty : String}
noncomputable def iterTy (x : Str) : String := if x.cps.all (· < 128) then "str_ascii_iterator" else "str_iterator"
theorem iter_str {Q : Value → Shared → Prop} (hQ : ∀ h', h'.IsStrIter s.heap.objs.size (iterTy x) x t 0 → s.heap.StaysIn h' → Q (.ref s.heap.objs.size) { s with heap := h' }) : wpAny (model pr w) A (pyIter (.str x t)) Q E s := by
  unfold iterTy at hQ
  cases ha : x.cps.all (· < 128) with
  | true => exact wpAny_pyIter_ascii ha (hQ _ ⟨_, Heap.get?_push_size _ rfl, by rw [ha]; rfl, rfl⟩ fun b o e => Heap.get?_push_of_some _ e)
  | false => exact wpAny_pyIter_wide ha (hQ _ ⟨_, Heap.get?_push_size _ rfl, by rw [ha]; rfl, rfl⟩ fun b o e => Heap.get?_push_of_some _ e)
theorem next_item {Q : Option Value → Shared → Prop} (hit : s.heap.IsStrIter it (iterTy x) x t i) (hx : x.cps[i]? = some c)
    (hQ : ∀ h', h'.IsStrIter it (iterTy x) x t (i + 1) → Heap.SameBut it s.heap h' → Q (some (.str ⟨#[c]⟩ s.toks)) { s with heap := h', toks := s.toks + 1 }) : wpAny (model pr w) A (pyNext (.ref it)) Q E s := by
  unfold iterTy at hit hQ
  cases ha : x.cps.all (· < 128) with
  | true => rw [ha] at hit hQ; exact wpAny_pyNext_ascii_item hit hx hQ
  | false => rw [ha] at hit hQ; exact wpAny_pyNext_wide_item hit hx hQ
theorem next_end {Q : Option Value → Shared → Prop} (hh : A.handled = none) (hit : s.heap.IsStrIter it (iterTy x) x t i) (hx : x.cps[i]? = none)
    (hQ : ∀ h', Heap.ExtBut it s.heap h' → Q none { s with heap := h' }) : wpAny (model pr w) A (pyNext (.ref it)) Q E s := by
  unfold iterTy at hit
  cases ha : x.cps.all (· < 128) with
  | true => rw [ha] at hit; exact wpAny_pyNext_ascii_end hh hit hx hQ
  | false => rw [ha] at hit; exact wpAny_pyNext_wide_end hh hit hx hQ
theorem contains_one {Q : Bool → Shared → Prop} (k : h₀.StaysIn s.heap) (hS : SetOne w h₀ sa f) (h : Q (f c) { s with toks := s.toks + 1 }) : wpAny (model pr w) A (setContains sa (.str ⟨#[c]⟩ t)) Q E s := by
  obtain ⟨S, n, hn, ⟨es, ep, tt, ho, hel, hmem, hn', hf⟩, e⟩ := hS
  unfold setContains
  refine wpAny_holding ?_
  refine wpAny_bind ((strKind pr w).pyHash (isStrOf_self ⟨#[c]⟩ t) ?_)
  refine wpAny_bind (setFind_any (s := { s with toks := s.toks + 1 }) (isStrOf_self ⟨#[c]⟩ t) rfl (k _ _ ho) rfl hel hmem (by unfold scanBound; omega) hf fun r hr => ?_)
  refine wpAny_pure ?_
  rw [hr, e]
  exact h
/-- the loop of issuperset over a text all of whose signs are there -/
theorem superloop {R : Result → Shared → Prop} (hA : A.handled = none) (hS : SetOne w h₀ sa f) (hin : h₀.get? it = none) : ∀ (k i : Nat) (s : Shared), i + k = x.cps.size → s.heap.IsStrIter it (iterTy x) x t i → h₀.StaysIn s.heap → (∀ j, i ≤ j → j < x.cps.size → f (x.cps.getD j 0) = true) →
    (∀ h' tk', (∀ b o, b ≠ it → s.heap.get? b = some o → h'.get? b = some o) → R (.ok (.ret (.bool true))) { s with heap := h', toks := tk' }) →
    codeAny (model pr w) A (.builtin "frozenset.issuperset.loop" ⟨[.ref sa, .ref it], []⟩) R s := by
  intro k
  induction k with
  | zero =>
    intro i s hi hit hk hall hR
    refine codeAny_builtin entry_superloop ?_
    rw [Around.under_plainId plain_superloop]
    show wpAny _ _ (pyNext (.ref it) >>= _) _ _ s
    refine wpAny_bind (next_end hA hit (by simp; omega) fun h' hb => ?_)
    show wpAny _ _ (ret (.bool true)) _ _ _
    exact wpAny_pure (hR h' _ fun b o n e => hb b o n e)
  | succ k ih =>
    intro i s hi hit hk hall hR
    have hlt : i < x.cps.size := by omega
    refine codeAny_builtin entry_superloop ?_
    rw [Around.under_plainId plain_superloop]
    show wpAny _ _ (pyNext (.ref it) >>= _) _ _ s
    refine wpAny_bind (next_item hit (Array.getElem?_eq_getElem hlt) fun h' hit' hsb => ?_)
    have hk' : h₀.StaysIn h' := fun b o e => (hsb.2 b (fun q => by rw [q, hin] at e; cases e)).trans (hk b o e)
    show wpAny _ _ (holding [_] (setContains sa _) >>= _) _ _ _
    refine wpAny_bind (wpAny_holding (contains_one (s := { s with heap := h', toks := s.toks + 1 }) hk' hS ?_))
    have e := hall i (Nat.le_refl _) hlt
    rw [Array.getD_eq_getD_getElem?, Array.getElem?_eq_getElem hlt] at e
    rw [show f x.cps[i] = true from e, if_pos rfl]
    refine wpAny_pure ⟨plainId_quiet plain_superloop _, ?_⟩
    refine ih (i + 1) { s with heap := h', toks := s.toks + 1 + 1 } (by omega) hit' hk' (fun j h1 h2 => hall j (by omega) h2) fun h'' tk'' hb => ?_
    exact hR h'' tk'' fun b o n e => hb b o n ((hsb.2 b n).trans e)
/-- the loop of isdisjoint over a text none of whose signs is there -/
theorem disloop {R : Result → Shared → Prop} (hA : A.handled = none) (hS : SetOne w h₀ sa f) (hin : h₀.get? it = none) : ∀ (k i : Nat) (s : Shared), i + k = x.cps.size → s.heap.IsStrIter it (iterTy x) x t i → h₀.StaysIn s.heap → (∀ j, i ≤ j → j < x.cps.size → f (x.cps.getD j 0) = false) →
    (∀ h' tk', (∀ b o, b ≠ it → s.heap.get? b = some o → h'.get? b = some o) → R (.ok (.ret (.bool true))) { s with heap := h', toks := tk' }) →
    codeAny (model pr w) A (.builtin "frozenset.isdisjoint.loop" ⟨[.ref sa, .ref it], []⟩) R s := by
  intro k
  induction k with
  | zero =>
    intro i s hi hit hk hall hR
    refine codeAny_builtin entry_disloop ?_
    rw [Around.under_plainId plain_disloop]
    show wpAny _ _ (pyNext (.ref it) >>= _) _ _ s
    refine wpAny_bind (next_end hA hit (by simp; omega) fun h' hb => ?_)
    show wpAny _ _ (ret (.bool true)) _ _ _
    exact wpAny_pure (hR h' _ fun b o n e => hb b o n e)
  | succ k ih =>
    intro i s hi hit hk hall hR
    have hlt : i < x.cps.size := by omega
    refine codeAny_builtin entry_disloop ?_
    rw [Around.under_plainId plain_disloop]
    show wpAny _ _ (pyNext (.ref it) >>= _) _ _ s
    refine wpAny_bind (next_item hit (Array.getElem?_eq_getElem hlt) fun h' hit' hsb => ?_)
    have hk' : h₀.StaysIn h' := fun b o e => (hsb.2 b (fun q => by rw [q, hin] at e; cases e)).trans (hk b o e)
    show wpAny _ _ (holding [_] (setContains sa _) >>= _) _ _ _
    refine wpAny_bind (wpAny_holding (contains_one (s := { s with heap := h', toks := s.toks + 1 }) hk' hS ?_))
    have e := hall i (Nat.le_refl _) hlt
    rw [Array.getD_eq_getD_getElem?, Array.getElem?_eq_getElem hlt] at e
    rw [show f x.cps[i] = false from e]
    simp only [Bool.false_eq_true, if_false]
    refine wpAny_pure ⟨plainId_quiet plain_disloop _, ?_⟩
    refine ih (i + 1) { s with heap := h', toks := s.toks + 1 + 1 } (by omega) hit' hk' (fun j h1 h2 => hall j (by omega) h2) fun h'' tk'' hb => ?_
    exact hR h'' tk'' fun b o n e => hb b o n ((hsb.2 b n).trans e)
theorem SetOne.typeIs' (k : h₀.StaysIn s.heap) (hS : SetOne w h₀ sa f) : s.TypeIs (.ref sa) "frozenset" := by
  obtain ⟨S, n, hn, ⟨es, ep, tt, ho, r⟩, e⟩ := hS
  exact ⟨_, k _ _ ho, rfl⟩
theorem SetOne.noDict' (k : h₀.StaysIn s.heap) (hS : SetOne w h₀ sa f) : ∀ b, Value.ref sa = .ref b → ∃ ob, s.heap.get? b = some ob ∧ ob.dict = none := by
  obtain ⟨S, n, hn, ⟨es, ep, tt, ho, r⟩, e⟩ := hS
  intro b q
  injection q with q
  subst q
  exact ⟨_, k _ _ ho, rfl⟩
theorem meth_issuperset {pl : Sem Bool} {Q : Value × List Value → Shared → Prop} (F : Fr h₀ L s.heap m) (hS : SetOne w h₀ sa f) (h : Q (.builtin "frozenset.issuperset", [.ref sa]) s) : wpAny (model pr w) A (getMethod (.ref sa) "issuperset" pl) Q E s :=
  getMethod_builtin (hS.typeIs' F.keep) plainAttrs_frozenset slot_issuperset type_issuperset (hS.noDict' F.keep) h
theorem meth_isdisjoint {pl : Sem Bool} {Q : Value × List Value → Shared → Prop} (F : Fr h₀ L s.heap m) (hS : SetOne w h₀ sa f) (h : Q (.builtin "frozenset.isdisjoint", [.ref sa]) s) : wpAny (model pr w) A (getMethod (.ref sa) "isdisjoint" pl) Q E s :=
  getMethod_builtin (hS.typeIs' F.keep) plainAttrs_frozenset slot_isdisjoint type_isdisjoint (hS.noDict' F.keep) h
theorem not_set_str {T : String} (hT : isSubtype (.type "str") (.type T) = pure false) {B : Bool → Shared → Prop} (h : B false s) : wpAny (model pr w) A (isInstance (.str x t) (.type T)) B E s :=
  wpAny_isInstance (T := "str") (b := false) (typeIs_str s x t) hT h
theorem str_noSet {B : Bool → Shared → Prop} (h : B false s) : wpAny (model pr w) A (Builtin.Frozenset.isAnySet (.str x t)) B E s := by
  unfold Builtin.Frozenset.isAnySet
  show wpAny _ _ (isInstance (.str x t) (.type "set") >>= _) _ _ _
  refine wpAny_bind (not_set_str (by rw [isSubtype_type]; kernel_rfl) ?_)
  exact not_set_str (by rw [isSubtype_type]; kernel_rfl) h
theorem fresh_at (F : Fr h₀ L s.heap m) : h₀.get? s.heap.objs.size = none := by
  cases q : h₀.get? s.heap.objs.size with
  | none => rfl
  | some o => exact absurd (Heap.lt_size (F.keep _ _ q)) (Nat.lt_irrefl _)
theorem call_entryR {T : String} {name : Str} {id : String} {b : Builtin} {self : Value} {rest : List Value} {Q : Value → Shared → Prop} (h : Slot T name id) (hT : s.TypeIs self T) (hb : entryFor table id = some b) (ha : argsOk id ⟨self :: rest, []⟩)
    (hc : wpAny (model pr w) A.in1 (b ⟨self :: rest, []⟩) (fun fin s' => match fin with | .done f => (match f with | .ret v => Q v s' | _ => False) | .again c' => c'.quiet = true ∧ codeAny (model pr w) A c' (fun r s' => match r with | .ok (.ret v) => Q v s' | .ok _ => False | .error e => E e s') s') E s) :
    wpAny (model pr w) A (call (.builtin id) (self :: rest)) Q E s := by
  refine wpAny_call (codeAny_call_builtin h.plain hb (h.check _ _ _ _ _ _ _ _ hT ha (wpAny_mono hc (fun fin s' h' => ?_) fun _ _ h' => h')))
  cases fin with
  | done f => cases f <;> first | exact h' | exact h'.elim
  | again c => exact h'
theorem call_issuperset {Q : Value → Shared → Prop} (hA : A.handled = none) (F : Fr h₀ L s.heap m) (hS : SetOne w h₀ sa f) (hall : ∀ j, j < x.cps.size → f (x.cps.getD j 0) = true)
    (h : ∀ h' tk', s.heap.StaysIn h' → Q (.bool true) { s with heap := h', toks := tk' }) : wpAny (model pr w) A (call (.builtin "frozenset.issuperset") [.ref sa, .str x t]) Q E s := by
  refine call_entryR slot_issuperset (hS.typeIs' F.keep) entry_issuperset (args_issuperset_2 _ _) ?_
  unfold Builtin.«frozenset.issuperset» Builtin.Frozenset.oneOther
  simp only [List.isEmpty_nil, bind_assoc]
  unfold Builtin.Frozenset.addrOf
  refine wpAny_bind (wpAny_pure ?_)
  try dsimp only
  refine wpAny_bind (wpAny_pure ?_)
  try dsimp only
  refine wpAny_bind (str_noSet ?_)
  simp only [Bool.false_eq_true, if_false]
  refine wpAny_bind (iter_str fun h' hit st => ?_)
  refine wpAny_pure ⟨plainId_quiet plain_superloop _, ?_⟩
  refine superloop (h₀ := h₀) hA hS (fresh_at F) x.cps.size 0 _ (by omega) hit (fun b o e => st b o (F.keep b o e)) (fun j _ hj => hall j hj) fun h'' tk'' hb => ?_
  exact h h'' tk'' fun b o e => hb b o (Nat.ne_of_lt (Heap.lt_size e)) (st b o e)
theorem call_isdisjoint {Q : Value → Shared → Prop} (hA : A.handled = none) (F : Fr h₀ L s.heap m) (hS : SetOne w h₀ sa f) (hall : ∀ j, j < x.cps.size → f (x.cps.getD j 0) = false)
    (h : ∀ h' tk', s.heap.StaysIn h' → Q (.bool true) { s with heap := h', toks := tk' }) : wpAny (model pr w) A (call (.builtin "frozenset.isdisjoint") [.ref sa, .str x t]) Q E s := by
  refine call_entryR slot_isdisjoint (hS.typeIs' F.keep) entry_isdisjoint (args_isdisjoint_2 _ _) ?_
  unfold Builtin.«frozenset.isdisjoint» Builtin.Frozenset.oneOther
  simp only [List.isEmpty_nil, bind_assoc]
  unfold Builtin.Frozenset.addrOf
  refine wpAny_bind (wpAny_pure ?_)
  try dsimp only
  refine wpAny_bind (wpAny_pure ?_)
  try dsimp only
  rw [show ((Value.str x t == Value.ref sa) = false) from by simp]
  simp only [Bool.false_eq_true, if_false]
  refine wpAny_bind (wpAny_typeOf (typeIs_str s x t) ?_)
  rw [if_neg (by decide)]
  refine wpAny_bind (iter_str fun h' hit st => ?_)
  refine wpAny_pure ⟨plainId_quiet plain_disloop _, ?_⟩
  refine disloop (h₀ := h₀) hA hS (fresh_at F) x.cps.size 0 _ (by omega) hit (fun b o e => st b o (F.keep b o e)) (fun j _ hj => hall j hj) fun h'' tk'' hb => ?_
  exact h h'' tk'' fun b o e => hb b o (Nat.ne_of_lt (Heap.lt_size e)) (st b o e)
/-- what stays stays in the frame and on the ledger -/
theorem fr_stay {h h' : Heap} (F : Fr h₀ L h m) (k : h.StaysIn h') : Fr h₀ L h' m := F.keeps k
theorem news_stay {h h' : Heap} {news : List (Addr × Obj)} (N : News h₀ L h news) (k : h.StaysIn h') : News h₀ L h' news := fun q hq => ⟨k _ _ (N q hq).1, (N q hq).2⟩
end
noncomputable def hexTab : List (List Nat × Nat) :=
  [([48, 48, 54, 49], 97), ([48, 48, 50, 55], 39), ([48, 48, 54, 57], 105), ([48, 48, 50, 50], 34), ([48, 48, 55, 49], 113), ([48, 48, 50, 101], 46), ([48, 48, 50, 69], 46), ([48, 48, 50, 100], 45),
   ([48, 48, 48, 97], 10), ([48, 48, 48, 65], 10), ([48, 48, 50, 51], 35), ([48, 48, 50, 48], 32), ([48, 48, 53, 99], 92), ([48, 48, 53, 67], 92), ([48, 48, 101, 57], 233),
   ([48, 48, 48, 48, 48, 48, 55, 51], 115), ([48, 48, 48, 48, 48, 48, 48, 97], 10), ([48, 48, 48, 48, 48, 48, 69, 57], 233)]
theorem typeCall_int_2 (a b : Value) : checkTypeCall "int" ⟨[a, b], []⟩ = pure () := by kernel_rfl
theorem newCall_int_2 (a b : Value) : checkBuiltinCall "int.__new__" ⟨[.type "int", a, b], []⟩ = pure () := by kernel_rfl
theorem args_object_init_3 (a b c : Value) : argsOk "object.__init__" ⟨[a, b, c], []⟩ := by
  unfold argsOk; rw [signature?_of (id := "object.__init__") (n := ['_', '_', 't', 'i', 'n', 'i', '_', '_']) (o := ['t', 'c', 'e', 'j', 'b', 'o']) (by kernel_rfl) F.owner_object]; kernel_rfl
theorem read16 : ∀ p ∈ hexTab, (int_private% "readNumeral") 0 16 (p.1.takeWhile (· != 0)) = (int_private% "Numeral.value") (p.2 : Int) ∧ ((p.1.takeWhile (· != 0)).length == p.1.length) = true ∧ (p.1.takeWhile (· != 0)).length ≤ 640 ∧ p.1.toArray.all (· < 128) = true := by
  intro p hp
  simp only [hexTab, List.mem_cons, List.not_mem_nil, or_false] at hp
  rcases hp with rfl | rfl | rfl | rfl | rfl | rfl | rfl | rfl | rfl | rfl | rfl | rfl | rfl | rfl | rfl | rfl | rfl | rfl <;> exact ⟨by rfl, by decide, by decide, by decide +kernel⟩
theorem wp_text16 {M : Model} {A : Around} {E : Value → Shared → Prop} {s : Shared} {Q : Value → Shared → Prop} {v : Value} {text : List Nat} {n : Int}
    (hs : (text.takeWhile (· != 0)).length ≤ 640) (hr : (int_private% "readNumeral") 0 16 (text.takeWhile (· != 0)) = (int_private% "Numeral.value") n)
    (ha : ((text.takeWhile (· != 0)).length == text.length) = true) (h : Q (.int n s.toks) { s with toks := s.toks + 1 }) :
    wpAny M A ((int_private% "intFromText") v text 16) Q E s := by
  obtain ⟨hp, g, d, tk, os⟩ := s
  repeat (any_goals (first
    | assumption
    | (with_reducible refine wpAny_ite_true (decide_eq_true hs) ?_)
    | (with_reducible refine wpAny_ite_true (decide_eq_true ha) ?_)
    | wp_step))
  all_goals (try rw [hr])
  all_goals (try dsimp only)
  repeat (any_goals (first
    | assumption
    | (with_reducible refine wpAny_ite_true (decide_eq_true hs) ?_)
    | (with_reducible refine wpAny_ite_true (decide_eq_true ha) ?_)
    | wp_step))
structure Hid9 (p : Prop) : Prop where
  out : p
set_option maxHeartbeats 4000000 in
theorem gives16 {x : List Nat} {n : Nat} {u v : Tok} (hp : (x, n) ∈ hexTab) : Gives (Builtin.«int.__new__» ⟨[.type "int", .str ⟨x.toArray⟩ u, .int 16 v], []⟩) (.int n) :=
  .of_wp fun M A E s Q h => by
    obtain ⟨hr, hl, hs, ha⟩ := read16 _ hp
    obtain ⟨hp, g, d, tk, os⟩ := s
    have f1 := F.conv_sub_int
    have f2 := F.madeHere_int
    have f6 : typeOf (.str ⟨x.toArray⟩ u) = pure (.type "str") := rfl
    have hk := Hid9.mk (And.intro hs (And.intro hr hl))
    have hk2 := Hid9.mk (show (if (⟨x.toArray⟩ : Str).cps.all (· < 128) = true then (⟨x.toArray⟩ : Str).cps.toList else Unicode.numberText (⟨x.toArray⟩ : Str).cps.toList) = x from if_pos ha)
    clear hs hr hl ha
    repeat (any_goals (first
      | assumption
      | ((with_reducible show wpAny _ _ ((int_private% "intFromText") _ _ _) _ _ _); rw [hk2.out]; refine wp_text16 hk.out.1 hk.out.2.1 hk.out.2.2 ?_)
      | wp_step))
    all_goals first | exact ⟨_, rfl, h⟩ | skip
theorem call_int16 {w : World} {A : Around} {E : Value → Shared → Prop} {s : Shared} {Q : Value → Shared → Prop} {x : List Nat} {n : Nat} {u v : Tok} (hp : (x, n) ∈ hexTab) (h : Q (.int n s.toks) { s with toks := s.toks + 1 }) :
    wpAny (model pr w) A (call (.type "int") [.str ⟨x.toArray⟩ u, .int 16 v]) Q E s :=
  callType_new F.called_int F.newNe_int (typeCall_int_2 _ _) (newCall_int_2 _ _) (fun obj => args_object_init_3 obj _ _) F.entry_int_new (gives16 hp).meets (show (Made.int (n : Int)).post _ s from ⟨rfl, h⟩)
section
variable {w : World} {A : Around} {E : Value → Shared → Prop} {s : Shared} {h₀ : Heap} {L : Addr} {m : Str → Option Value} {news : List (Addr × Obj)} {value slice : PySem.Expr} {x y : Str} {t : Tok} {i j : Int} {ui uj : Tok} {Q : Value → Shared → Prop}
theorem slice_by (hF : Fr h₀ L s.heap m) (hN : News h₀ L s.heap news) (hy : Txt.slice x (some i) (some j) = y) (hsz : x.length ≤ 10000) (h : ∀ h' t' k, Fr h₀ L h' m → News h₀ L h' news → Q (.str y t') { s with heap := h', toks := k })
    (hs : subscripted slice false (.str x t) (.ref s.heap.objs.size) = operate [.ref s.heap.objs.size, .str x t] (getItem (.str x t) (.ref s.heap.objs.size)) := by with_unfolding_all rfl)
    (ht : ∀ r, letTemporaryGo value (.str x t) r = pure () := by intro _; with_unfolding_all rfl) :
    wpAny (model pr w) A (subscriptTail value slice (.str x t) (.ref s.heap.objs.size)) Q E { s with heap := s.heap.push { cls := .type "slice", data := .fields #[.int i ui, .int j uj, .none] } } := by
  subst hy
  exact slice_strN_ss hF hN h hs ht (by unfold sizeLine; omega)
end
section
variable {w : World} {A : Around} {E : Value → Shared → Prop} {s : Shared} {h₀ : Heap} {L sa : Addr} {m : Str → Option Value} {news : List (Addr × Obj)} {x : Str} {t : Tok} {f : Nat → Bool} {Q : Value → Shared → Prop}
theorem super_by (hA : A.handled = none) (F : Fr h₀ L s.heap m) (N : News h₀ L s.heap news) (hS : SetOne w h₀ sa f) (hall : ∀ j, j < x.cps.size → f (x.cps.getD j 0) = true)
    (h : ∀ h' tk', Fr h₀ L h' m → News h₀ L h' news → Q (.bool true) { s with heap := h', toks := tk' }) : wpAny (model pr w) A (call (.builtin "frozenset.issuperset") [.ref sa, .str x t]) Q E s :=
  call_issuperset hA F hS hall fun h' tk' st => h h' tk' (fr_stay F st) (news_stay N st)
theorem disj_by (hA : A.handled = none) (F : Fr h₀ L s.heap m) (N : News h₀ L s.heap news) (hS : SetOne w h₀ sa f) (hall : ∀ j, j < x.cps.size → f (x.cps.getD j 0) = false)
    (h : ∀ h' tk', Fr h₀ L h' m → News h₀ L h' news → Q (.bool true) { s with heap := h', toks := tk' }) : wpAny (model pr w) A (call (.builtin "frozenset.isdisjoint") [.ref sa, .str x t]) Q E s :=
  call_isdisjoint hA F hS hall fun h' tk' st => h h' tk' (fr_stay F st) (news_stay N st)
end
local macro_rules | `(tactic| walk_at "call builtin:frozenset.issuperset") => `(tactic| (k_here; (refine super_by (by assumption) (by k_asm) (by k_asm) (by assumption) (by assumption) ?_); intro _ _ _ _))
local macro_rules | `(tactic| walk_at "call builtin:frozenset.isdisjoint") => `(tactic| (k_here; (refine disj_by (by assumption) (by k_asm) (by k_asm) (by assumption) (by assumption) ?_); intro _ _ _ _))
local macro_rules | `(tactic| walk_at "subscriptTail Name Slice str ref") => `(tactic| (k_here; (refine slice_by (s := ⟨_, _, _, _, _⟩) (by k_asm) (by k_asm) (by assumption) (by assumption) ?_); intro _ _ _ _ _))
local macro_rules | `(tactic| walk_at "getMethod ref") => `(tactic| (k_here; (refine meth_issuperset (by k_asm) (by assumption) ?_)))
local macro_rules | `(tactic| walk_at "getMethod ref") => `(tactic| (k_here; (refine meth_isdisjoint (by k_asm) (by assumption) ?_)))
local macro_rules | `(tactic| walk_at "eval Name") => `(tactic| (k_here; k_dflt (refine' ld ?k1 ?k2 ?_; (case k1 => k_asm); (case k2 => with_reducible assumption); k_whole)))
local macro_rules | `(tactic| walk_at "loadName") => `(tactic| (k_here; (refine ldn (by k_asm) (by with_reducible assumption) ?_)))
set_option maxHeartbeats 2000000 in
theorem scalar_ok {w : World} {p : Program} {loose : List Str} {mg mb : Str → Option Value} {G : Heap} {v : Nat} {t : Tok} (hv : v < 55296) :
    Ok w p loose mg mb G 1 195 [.int v t] (fun h h' r => r = .bool true) := by
  intro A l frs s Q E C hret
  have reg : (PySem.Challenge.rw_ij0148_01, K) = (PySem.Challenge.rw_ij0148_01, K) := by k_fill; rfl
  clear reg
  refine wpAny_call ?_
  k_dflt (refine' enter (d := 0) C ?ho ?hcd ?hb ?hl ?_ ?c2 ?c3 ?c4 ?c5; (case ho => k_is); (case hcd => k_is); (case hb => exact BindsTo.of_eq rfl); (case c5 => decide); (case hl => exact locs rfl); (case c2 => exact rfl); (case c3 => exact rfl); (case c4 => exact rfl))
  intro G' h₁ vs hv F N st eG X T hs1 tb0
  replace F : Fr G' s.heap.objs.size h₁ (bd [(Str.ofString "codepoint", .int v t)]) := F
  have key : ∀ (Qf : Flow → Shared → Prop) (E1 : Value → Shared → Prop),
      (∀ h' tk' m' frs', Fr G' s.heap.objs.size h' m' → News G' s.heap.objs.size h' ((183, tbO vs) :: frs') → SameUp frs frs' → Qf (.ret (.bool true)) { s with heap := h', toks := tk' }) →
      ∀ tk, wpAny (model pr w) (A.deeper (envOf (Str.ofString "is_unicode_scalar_value") scp_33 s.heap.objs.size 195 (.ref 194))) (execs bod_33 (envOf (Str.ofString "is_unicode_scalar_value") scp_33 s.heap.objs.size 195 (.ref 194))) Qf E1 { s with heap := h₁, toks := tk } := by
    intro Qf E1 hQ tk
    k_steps
    have e : decide ((v : Int) ≤ 55295) = true := by simp; omega
    rw [e]
    exact hQ _ _ _ _ F N (SameUp.refl _)
  refine wpAny_mono (key _ _ (fun h' tk' m' frs' F' N' SU => ?_) _) (fun _ _ x => x) (fun _ _ x => x)
  exact hret _ _ _ (kp_of (new := []) F' N' SU eG C.there) ((N' _ List.mem_cons_self).1.trans tb0.symm) rfl
theorem slice_list {x : Str} {n k : Nat} {l r : List Nat} (h : x.cps.toList.drop n = l ++ r) (hk : l.length = k) (h0 : n + k ≤ x.cps.size) : Txt.slice x (some (n : Int)) (some ((n : Int) + (k : Int))) = ⟨l.toArray⟩ := by
  have hl := congrArg List.length h
  simp only [List.length_drop, List.length_append, Array.length_toList] at hl
  show StrLaws.sliceText x _ _ = _
  rw [StrLaws.sliceText_plain ⟨by omega, by omega, by simp; omega⟩]
  rw [show ((n : Int) + (k : Int) - n).toNat = k by omega, show ((n : Int)).toNat = n by omega, h, ← hk, List.take_left]
set_option maxHeartbeats 4000000 in
theorem hex_ok {w : World} {p : Program} {loose : List Str} {mg mb : Str → Option Value} {G : Heap} {src : Str} {n k v : Nat} {hs rest : List Nat} {t1 t2 t3 : Tok} (hp : (hs, v) ∈ hexTab) (hk : hs.length = k) (hsrc : src.cps.toList.drop n = hs ++ rest) (hb : n + k ≤ src.cps.size) (hlen : src.cps.size ≤ 1000) :
    Ok w p loose mg mb G 2 167 [.str src t1, .int n t2, .int k t3] (fun h h' r => ∃ t4 t5, NewTup [.int (n + k : Nat) t4, .str ⟨#[v]⟩ t5] h h' r) := by
  intro A l frs s Q E C hret
  have reg : (PySem.Challenge.rw_ij0148_01, K) = (PySem.Challenge.rw_ij0148_01, K) := by k_fill; rfl
  clear reg
  refine wpAny_call ?_
  k_dflt (refine' enter (d := 1) C ?ho ?hcd ?hb ?hl ?_ ?c2 ?c3 ?c4 ?c5; (case ho => k_is); (case hcd => k_is); (case hb => exact BindsTo.of_eq rfl); (case c5 => decide); (case hl => exact locs rfl); (case c2 => exact rfl); (case c3 => exact rfl); (case c4 => exact rfl))
  intro G' h₁ vs hv F N st eG X T hs1 tb0
  replace F : Fr G' s.heap.objs.size h₁ (bd [(Str.ofString "hex_len", .int k t3), (Str.ofString "pos", .int n t2), (Str.ofString "src", .str src t1)]) := F
  have hexS := C.gnd.hex.keeps st
  have hsl := slice_list hsrc hk hb
  have hln : ((Str.length (⟨hs.toArray⟩ : Str) : Nat) : Int) = (k : Int) := by unfold Str.length; simp [hk]
  have hA1 : (A.deeper (envOf (Str.ofString "parse_hex_char") scp_29 s.heap.objs.size 167 (.ref 166))).handled = none := C.hd
  have h55 : v < 55296 := by
    have : ∀ q ∈ hexTab, q.2 < 55296 := by decide +kernel
    exact this _ hp
  have hall : ∀ j, j < (⟨hs.toArray⟩ : Str).cps.size → hexC ((⟨hs.toArray⟩ : Str).cps.getD j 0) = true := by
    have : ∀ q ∈ hexTab, ∀ j, j < q.1.length → hexC (q.1.getD j 0) = true := by decide +kernel
    intro j hj
    have := this _ hp j (by simpa using hj)
    simpa using this
  have hsz : src.length ≤ 10000 := by unfold Str.length; omega
  have key : ∀ (Qf : Flow → Shared → Prop) (E1 : Value → Shared → Prop),
      (∀ h' tk' m' frs' a t4 t5, Fr G' s.heap.objs.size h' m' → News G' s.heap.objs.size h' ((a, tupO [.int (n + k : Nat) t4, .str ⟨#[v]⟩ t5]) :: (183, tbO vs) :: frs') → SameUp frs frs' → Qf (.ret (.ref a)) { s with heap := h', toks := tk' }) →
      ∀ tk, wpAny (model pr w) (A.deeper (envOf (Str.ofString "parse_hex_char") scp_29 s.heap.objs.size 167 (.ref 166))) (execs bod_29 (envOf (Str.ofString "parse_hex_char") scp_29 s.heap.objs.size 167 (.ref 166))) Qf E1 { s with heap := h₁, toks := tk } := by
    intro Qf E1 hQ tk
    k_steps
    · exact absurd hln (by assumption)
    refine call_int16 hp ?_
    k_steps
    refine use_ok [] (scalar_ok h55) C (by k_asm) (by k_asm) (SameUp.refl _) st (fun q hq => nomatch hq) hv rfl ?_
    intro r h' tk' frs'' SU' F' N' post
    subst post
    k_steps
    exact hQ _ _ _ _ _ _ _ (by assumption) (by assumption) SU'
  refine wpAny_mono (key _ _ (fun h' tk' m' frs' a t4 t5 F' N' SU => ?_) _) (fun _ _ x => x) (fun _ _ x => x)
  have hnd : ∀ q ∈ [(a, tupO [Value.int (n + k : Nat) t4, Value.str { cps := #[v] } t5])], nd q.2 = true := fun q hq => by rw [List.mem_singleton.mp hq]; rfl
  exact hret _ _ _ (kp_of (new := [_]) F' N' SU eG C.there) ((N' _ (List.mem_cons_of_mem _ List.mem_cons_self)).1.trans tb0.symm) ⟨t4, t5, a, rfl, new_none (new := [_]) C N' SU hnd eG List.mem_cons_self, (N' _ List.mem_cons_self).1⟩
theorem slot_mp : Slot "mappingproxy" "__getitem__" "mappingproxy.__getitem__" :=
  .of (owner := "mappingproxy") (n := "__getitem__") (by rw [typeLookup_type, builtinLookup_eq_fast]; kernel_rfl) (by decide +kernel) (by decide +kernel) (by decide +kernel)
    (by first | exact .inl (by decide +kernel) | exact .inr (by decide +kernel)) (by rw [isSubtype_type]; kernel_rfl)
theorem entry_mp : entryFor table "mappingproxy.__getitem__" = some Builtin.«mappingproxy.__getitem__» := entryFor_of_tree (by kernel_rfl)
theorem args_mp (a b : Value) : argsOk "mappingproxy.__getitem__" ⟨[a, b], []⟩ := by unfold argsOk; kernel_rfl
section
variable {prog : Program} {w : World} {A : Around} {E : Value → Shared → Prop} {s : Shared} {h₀ : Heap} {L a d : Addr} {m : Str → Option Value} {x : Str} {t : Tok} {v : Value} {es : Array DictEntry} {ep i : Nat} {e : DictEntry} {value slice : PySem.Expr} {Q : Value → Shared → Prop}
theorem dict_lit (ho : s.heap.get? d = some ⟨.type "dict", none, .dict es ep, #[]⟩) (hall : (es.all fun e => isExactStrKey e.key) = true) (hf : (es.findIdx? fun e => e.key.isStr x) = some i) (hv : es[i]? = some e)
    (h : Q e.val { s with toks := s.toks + 1 }) : wpAny (model prog w) A (getItem (.ref d) (.str x t)) Q E s := by
  have hT : s.TypeIs (.ref d) "dict" := ⟨_, ho, rfl⟩
  unfold getItem
  try with_reducible refine wpAny_holding ?_
  refine wpAny_bind (wpAny_sequenceKey hT (by decide) ?_)
  refine wpAny_bind (wpAny_callSpecial?_slot (name := Str.ofString "__getitem__") hT slot_dict_getitem
    (wpAny_call_entry slot_dict_getitem hT entry_dict_getitem ?_ (args_dict_getitem _ _)))
  show wpAny _ _ (dictGet d (.str x t) >>= _) _ _ s
  refine wpAny_bind ?_
  unfold dictGet
  try with_reducible refine wpAny_holding ?_
  refine wpAny_bind (wpAny_pyHash_str (wpAny_bind (KTD.kt_dictFind_strs (s := { s with toks := s.toks + 1 }) ho rfl hall ?_)))
  rw [hf]
  refine wpAny_bind (wpAny_dictEntries (s := { s with toks := s.toks + 1 }) ho rfl ?_)
  rw [hv]
  exact wpAny_pure (wpAny_pure ⟨_, rfl, wpAny_pure h⟩)
theorem item_proxy (hp : s.heap.get? a = some ⟨.type "mappingproxy", none, .fields #[.ref d], #[]⟩) (ho : s.heap.get? d = some ⟨.type "dict", none, .dict es ep, #[]⟩) (hall : (es.all fun e => isExactStrKey e.key) = true) (hf : (es.findIdx? fun e => e.key.isStr x) = some i) (hv : es[i]? = some e)
    (h : Q e.val { s with toks := s.toks + 1 })
    (hs : subscripted slice false (.ref a) (.str x t) = operate [.ref a, .str x t] (getItem (.ref a) (.str x t)) := by with_unfolding_all rfl) :
    wpAny (model prog w) A (subscriptTail value slice (.ref a) (.str x t)) Q E s := by
  have hT : s.TypeIs (.ref a) "mappingproxy" := ⟨_, hp, rfl⟩
  refine tail_any hT slot_mp.lookup (wpAny_getItem_slot hT (by decide) slot_mp (wpAny_call_entry slot_mp hT entry_mp ?_ (args_mp _ _))) hs
  show wpAny _ _ (field (.ref a) 0 >>= _) _ _ _
  refine wpAny_bind (wpAny_field (vs := #[.ref d]) hp rfl rfl ?_)
  show wpAny _ _ (getItem (.ref d) (.str x t) >>= _) _ _ _
  exact wpAny_bind (dict_lit ho hall hf hv (wpAny_pure ⟨_, rfl, h⟩))
end
noncomputable def escOne : List (Nat × Nat) := [(34, 34), (92, 92), (110, 10)]
theorem item_esc {w : World} {A : Around} {E : Value → Shared → Prop} {s : Shared} {h₀ : Heap} {L : Addr} {m : Str → Option Value} {t : Tok} {c v : Nat} {value slice : PySem.Expr} {Q : Value → Shared → Prop} (F : Fr h₀ L s.heap m) (X : (K w.params).In h₀) (hc : (c, v) ∈ escOne)
    (h : ∀ t', Q (.str ⟨#[v]⟩ t') { s with toks := s.toks + 1 })
    (hs : subscripted slice false (.ref 97) (.str ⟨#[92, c]⟩ t) = operate [.ref 97, .str ⟨#[92, c]⟩ t] (getItem (.ref 97) (.str ⟨#[92, c]⟩ t)) := by with_unfolding_all rfl) :
    wpAny (model pr w) A (subscriptTail value slice (.ref 97) (.str ⟨#[92, c]⟩ t)) Q E s := by
  have h97 := F.keep _ _ (X 97 (o_97 w.params) (by kernel_rfl))
  have h96 := F.keep _ _ (X 96 (o_96 w.params) (by kernel_rfl))
  simp only [escOne, List.mem_cons, List.not_mem_nil, or_false, Prod.mk.injEq] at hc
  rcases hc with ⟨rfl, rfl⟩ | ⟨rfl, rfl⟩ | ⟨rfl, rfl⟩
  · exact item_proxy (i := 5) (e := ⟨PyData.keyHash w.params (Str.ofString "\\\""), .str (Str.ofString "\\\"") 609, .str (Str.ofString "\"") 610⟩) h97 h96 (by kernel_rfl) (by kernel_rfl) (by kernel_rfl) (h _) hs
  · exact item_proxy (i := 6) (e := ⟨PyData.keyHash w.params (Str.ofString "\\\\"), .str (Str.ofString "\\\\") 611, .str (Str.ofString "\\") 612⟩) h97 h96 (by kernel_rfl) (by kernel_rfl) (by kernel_rfl) (h _) hs
  · exact item_proxy (i := 2) (e := ⟨PyData.keyHash w.params (Str.ofString "\\n"), .str (Str.ofString "\\n") 603, .str (Str.ofString "\n") 604⟩) h97 h96 (by kernel_rfl) (by kernel_rfl) (by kernel_rfl) (h _) hs
theorem binds_esc {w : World} {s : Shared} {src : Str} {t1 t2 : Tok} {n : Int} (X : (K w.params).In s.heap) :
    BindsTo s (fnOf (Str.ofString "parse_basic_str_escape") (Str.ofString "parse_basic_str_escape") prm_27 bod_27 scp_27 .none (.ref 146) .none (.str (Str.ofString "cpy313.tomllib._parser") 597) .none (.ref 152) .none)
      ⟨[.str src t1, .int n t2], []⟩ [(Str.ofString "src", .str src t1), (Str.ofString "pos", .int n t2), (Str.ofString "multiline", .bool false)] := by
  have h : s.heap.get? 146 = some (o_146 w.params) := X 146 (o_146 w.params) (by kernel_rfl)
  have hn : s.heap.Ns 146 (nsFind #[⟨PyData.keyHash w.params (Str.ofString "multiline"), (.str (Str.ofString "multiline") 689), (.bool false)⟩]) := ⟨_, _, _, h, rfl, by simp [StrKeys], fun _ => rfl⟩
  intro M A E Q hq
  unfold bindArgs
  simp [fnOf, prm_27, given, show seqItems? Value.none = pure none from rfl, List.lookup, show (Str.ofString "pos" == Str.ofString "src") = false from by decide, show (Str.ofString "multiline" == Str.ofString "src") = false from by decide, show (Str.ofString "multiline" == Str.ofString "pos") = false from by decide]
  refine wpAny_bind (wpAny_nsGet hn ?_)
  rw [show nsFind #[⟨PyData.keyHash w.params (Str.ofString "multiline"), (.str (Str.ofString "multiline") 689), (.bool false)⟩] (Str.ofString "multiline") = some (.bool false) from by kernel_rfl]
  exact wpAny_pure hq
theorem news_sub {h₀ h : Heap} {L : Addr} {l l' : List (Addr × Obj)} (N : News h₀ L h l) (hs : ∀ q ∈ l', q ∈ l) : News h₀ L h l' := fun q hq => N q (hs q hq)
/-- a written escape and its sign -/
noncomputable def Esc (l : List Nat) (v : Nat) : Prop := (∃ c, (c, v) ∈ escOne ∧ l = [92, c]) ∨ (∃ hs, (hs, v) ∈ hexTab ∧ ((hs.length = 4 ∧ l = 92 :: 117 :: hs) ∨ (hs.length = 8 ∧ l = 92 :: 85 :: hs)))
theorem drop_app {src : Str} {n : Nat} {a b : List Nat} (h : src.cps.toList.drop n = a ++ b) : src.cps.toList.drop (n + a.length) = b := by
  rw [← List.drop_drop, h, List.drop_left]
theorem drop_le {src : Str} {n : Nat} {a b : List Nat} (h : src.cps.toList.drop n = a ++ b) (ha : a ≠ []) : n + a.length + b.length = src.cps.size := by
  have := congrArg List.length h
  simp only [List.length_drop, List.length_append, Array.length_toList] at this
  have : 0 < a.length := List.length_pos_iff.mpr ha
  omega
set_option maxHeartbeats 4000000 in
theorem esc_ok {w : World} {p : Program} {loose : List Str} {mg mb : Str → Option Value} {G : Heap} {src : Str} {n v : Nat} {l0 rest : List Nat} {t1 t2 : Tok} (hp : Esc l0 v) (hsrc : src.cps.toList.drop n = l0 ++ rest) (hlen : src.cps.size ≤ 1000) :
    Ok w p loose mg mb G 3 153 [.str src t1, .int n t2] (fun h h' r => ∃ t4 t5, NewTup [.int (n + l0.length : Nat) t4, .str ⟨#[v]⟩ t5] h h' r) := by
  intro A l frs s Q E C hret
  have reg : (PySem.Challenge.rw_ij0148_01, K) = (PySem.Challenge.rw_ij0148_01, K) := by k_fill; rfl
  clear reg
  have Xs := C.gnd.X.keeps C.stays
  refine wpAny_call ?_
  k_dflt (refine' enter (d := 2) C ?ho ?hcd ?hb ?hl ?_ ?c2 ?c3 ?c4 ?c5; (case ho => k_is); (case hcd => k_is); (case hb => exact binds_esc Xs); (case c5 => decide); (case hl => exact locs rfl); (case c2 => exact rfl); (case c3 => exact rfl); (case c4 => exact rfl))
  intro G' h₁ vs hv F N st eG X T hs1 tb0
  replace F : Fr G' s.heap.objs.size h₁ (bd [(Str.ofString "multiline", .bool false), (Str.ofString "pos", .int n t2), (Str.ofString "src", .str src t1)]) := F
  have hA1 : (A.deeper (envOf (Str.ofString "parse_basic_str_escape") scp_27 s.heap.objs.size 153 (.ref 152))).handled = none := C.hd
  have hsz : src.length ≤ 10000 := by unfold Str.length; omega
  have key : ∀ (Qf : Flow → Shared → Prop) (E1 : Value → Shared → Prop), Thru w (A.deeper (envOf (Str.ofString "parse_basic_str_escape") scp_27 s.heap.objs.size 153 (.ref 152))) (envOf (Str.ofString "parse_basic_str_escape") scp_27 s.heap.objs.size 153 (.ref 152)) E1 →
      (∀ h' tk' m' frs' a t4 t5, Fr G' s.heap.objs.size h' m' → News G' s.heap.objs.size h' ((a, tupO [.int (n + l0.length : Nat) t4, .str ⟨#[v]⟩ t5]) :: (183, tbO vs) :: frs') → SameUp frs frs' → Qf (.ret (.ref a)) { s with heap := h', toks := tk' }) →
      ∀ tk, wpAny (model pr w) (A.deeper (envOf (Str.ofString "parse_basic_str_escape") scp_27 s.heap.objs.size 153 (.ref 152))) (execs bod_27 (envOf (Str.ofString "parse_basic_str_escape") scp_27 s.heap.objs.size 153 (.ref 152))) Qf E1 { s with heap := h₁, toks := tk } := by
    intro Qf E1 hTh hQ tk
    have hPO := hTh.po
    have hPA := hTh.at_
    rcases hp with ⟨c, hc, rfl⟩ | ⟨hs, hh, ⟨hl4, rfl⟩ | ⟨hl8, rfl⟩⟩
    · have hsl : Txt.slice src (some (n : Int)) (some ((n : Int) + 2)) = ⟨#[92, c]⟩ := slice_list (l := [92, c]) (k := 2) hsrc rfl (by have := drop_le hsrc (by simp); simp at this; omega)
      have hc2 := hc
      simp only [escOne, List.mem_cons, List.not_mem_nil, or_false, Prod.mk.injEq] at hc2
      rcases hc2 with ⟨rfl, rfl⟩ | ⟨rfl, rfl⟩ | ⟨rfl, rfl⟩
      all_goals k_steps
      · refine item_esc (c := 34) (v := 34) (by k_asm) X (by decide) ?_
        intro t'
        k_steps
        exact hQ _ _ _ _ _ _ _ (by assumption) (by assumption) (SameUp.refl _)
      · refine item_esc (c := 92) (v := 92) (by k_asm) X (by decide) ?_
        intro t'
        k_steps
        exact hQ _ _ _ _ _ _ _ (by assumption) (by assumption) (SameUp.refl _)
      · refine item_esc (c := 110) (v := 10) (by k_asm) X (by decide) ?_
        intro t'
        k_steps
        exact hQ _ _ _ _ _ _ _ (by assumption) (by assumption) (SameUp.refl _)
    · have hsl : Txt.slice src (some (n : Int)) (some ((n : Int) + 2)) = ⟨#[92, 117]⟩ := slice_list (l := [92, 117]) (r := hs ++ rest) (k := 2) hsrc rfl (by have := drop_le hsrc (by simp); simp at this; omega)
      k_steps
      refine use_ok [] (hex_ok (n := n + 2) (k := 4) (rest := rest) hh hl4 (by rw [← List.drop_drop, hsrc]; rfl) (by have := drop_le hsrc (by simp); simp at this; omega) hlen) C (by k_asm) (by k_asm) (SameUp.refl _) st (fun q hq => nomatch hq) hv rfl ?_
      rintro r h' tk' frs'' SU' F' N' ⟨t4, t5, a, rfl, ha, ha'⟩
      refine hQ _ _ _ _ a t4 t5 F' ?_ SU'
      have N2 := new_in (by assumption) N' ha ha'
      rw [show n + (92 :: 117 :: hs).length = n + 2 + 4 from by simp only [List.length_cons, hl4]]
      exact N2
    · have hsl : Txt.slice src (some (n : Int)) (some ((n : Int) + 2)) = ⟨#[92, 85]⟩ := slice_list (l := [92, 85]) (r := hs ++ rest) (k := 2) hsrc rfl (by have := drop_le hsrc (by simp); simp at this; omega)
      k_steps
      refine use_ok [] (hex_ok (n := n + 2) (k := 8) (rest := rest) hh hl8 (by rw [← List.drop_drop, hsrc]; rfl) (by have := drop_le hsrc (by simp); simp at this; omega) hlen) C (by k_asm) (by k_asm) (SameUp.refl _) st (fun q hq => nomatch hq) hv rfl ?_
      rintro r h' tk' frs'' SU' F' N' ⟨t4, t5, a, rfl, ha, ha'⟩
      refine hQ _ _ _ _ a t4 t5 F' ?_ SU'
      have N2 := new_in (by assumption) N' ha ha'
      rw [show n + (92 :: 85 :: hs).length = n + 2 + 8 from by simp only [List.length_cons, hl8]]
      exact N2
  refine wpAny_mono (key _ _ Thru.leaving (fun h' tk' m' frs' a t4 t5 F' N' SU => ?_) _) (fun _ _ x => x) (fun _ _ x => x)
  have hnd : ∀ q ∈ [(a, tupO [Value.int (n + l0.length : Nat) t4, Value.str { cps := #[v] } t5])], nd q.2 = true := fun q hq => by rw [List.mem_singleton.mp hq]; rfl
  exact hret _ _ _ (kp_of (new := [_]) F' N' SU eG C.there) ((N' _ (List.mem_cons_of_mem _ List.mem_cons_self)).1.trans tb0.symm) ⟨t4, t5, a, rfl, new_none (new := [_]) C N' SU hnd eG List.mem_cons_self, (N' _ List.mem_cons_self).1⟩
theorem sign_at {src : Str} {i c : Nat} {r : List Nat} (h : src.cps.toList.drop i = c :: r) : i < src.cps.size ∧ src.cps.toList.getD i 0 = c ∧ src.cps.toList.drop (i + 1) = r := by
  have hi : i < src.cps.toList.length := by
    rcases Nat.lt_or_ge i src.cps.toList.length with q | q
    · exact q
    · rw [List.drop_eq_nil_of_le q] at h; cases h
  rw [List.drop_eq_getElem_cons hi] at h
  injection h with h1 h2
  refine ⟨by simpa using hi, ?_, h2⟩
  rw [List.getD_eq_getElem?_getD, List.getElem?_eq_getElem hi]; exact h1
section
variable {prog : Program} {w : World} {A : Around} {E : Value → Shared → Prop} {s : Shared} {value slice : PySem.Expr} {x : Str} {t u : Tok} {Q : Value → Shared → Prop}
theorem at_is {n c : Nat} {r : List Nat} (hc : x.cps.toList.drop n = c :: r) (hb : x.cps.size ≤ 10000) (h : Q (.str ⟨#[c]⟩ s.toks) { s with toks := s.toks + 1 })
    (hs : subscripted slice false (.str x t) (.int n u) = operate [.str x t, .int n u] (getItem (.str x t) (.int n u)) := by with_unfolding_all rfl)
    (ht : ∀ r, letTemporaryGo value (.str x t) r = pure () := by intro _; with_unfolding_all rfl) :
    wpAny (model prog w) A (subscriptTail value slice (.str x t) (.int n u)) Q E s :=
  at_in (sign_at hc).1 hb (by rw [(sign_at hc).2.1]; exact h) hs ht
end
theorem slice_seg {x : Str} {n i : Nat} {l r : List Nat} (h : x.cps.toList.drop n = l ++ r) (hi : n + l.length = i) (h0 : i ≤ x.cps.size) : Txt.slice x (some (n : Int)) (some (i : Int)) = ⟨l.toArray⟩ := by
  have := slice_list (k := l.length) h rfl (by omega)
  rw [← this, ← hi]
  rfl
/-- the inside of a basic string and what it says -/
inductive BB : List Nat → List Nat → Prop
  | nil : BB [] []
  | one {c : Nat} {l v : List Nat} : c ≠ 34 → c ≠ 92 → illC c = false → BB l v → BB (c :: l) (c :: v)
  | esc {e l v : List Nat} {c : Nat} : Esc e c → BB l v → BB (e ++ l) (c :: v)
theorem bb_len {l v : List Nat} (h : BB l v) : v.length ≤ l.length := by
  induction h with
  | nil => exact Nat.le_refl _
  | one _ _ _ _ ih => simpa using ih
  | esc he _ ih =>
    rcases he with ⟨c, _, rfl⟩ | ⟨hs, _, ⟨_, rfl⟩ | ⟨_, rfl⟩⟩ <;> simp <;> omega
theorem esc_head {e : List Nat} {c : Nat} (h : Esc e c) : ∃ r, e = 92 :: r ∧ r ≠ [] := by
  rcases h with ⟨c, _, rfl⟩ | ⟨hs, _, ⟨_, rfl⟩ | ⟨_, rfl⟩⟩ <;> exact ⟨_, rfl, by simp⟩
theorem one_eq {c d : Nat} : ((⟨#[c]⟩ : Str) == ⟨#[d]⟩) = decide (c = d) := by
  by_cases h : c = d
  · subst h; simp
  · simp [h]
theorem execs_app {env : Env} (l₂ : List Stmt) : ∀ l₁ : List Stmt, execs (l₁ ++ l₂) env = (execs l₁ env >>= fun f => match f with | .next => execs l₂ env | f => pure f)
  | [] => rfl
  | a :: l => by
    show (exec a env >>= fun f => match f with | .next => execs (l ++ l₂) env | f => pure f) = ((exec a env >>= fun f => match f with | .next => execs l env | f => pure f) >>= _)
    rw [bind_assoc]
    congr 1
    funext f
    cases f <;> first | rfl | exact execs_app l₂ l
theorem execs_cut {M : Model} {A : Around} {env : Env} {E : Value → Shared → Prop} {Q : Flow → Shared → Prop} {l₁ l₂ : List Stmt} {s : Shared} (h : wpAny M A (execs l₁ env) (fun fl s' => End (match fl with | .next => wpAny M A (execs l₂ env) Q E s' | f => Q f s')) E s) : wpAny M A (execs (l₁ ++ l₂) env) Q E s := by
  rw [execs_app]
  refine wpAny_bind (wpAny_mono h (fun fl s' h' => ?_) fun _ _ x => x)
  cases fl <;> first | exact h' | exact wpAny_pure h'
local macro_rules | `(tactic| walk_at "subscriptTail Name Name str int") => `(tactic| (k_here; (refine at_is (by assumption) (by assumption) ?_)))
local macro_rules | `(tactic| walk_at "compareOp In str ref") => `(tactic| (k_here; (refine in_one (by k_asm) (by assumption) ?_)))
local macro_rules | `(tactic| walk_at "eval Name") => `(tactic| (k_here; k_dflt (refine' ld ?k1 ?k2 ?_; (case k1 => k_asm); (case k2 => first | with_reducible assumption | ((try dsimp only); (repeat (rw [if_neg (by decide)])); first | with_reducible assumption | (rw [if_pos rfl]))); k_whole)))
local macro_rules | `(tactic| walk_at "loadName") => `(tactic| (k_here; k_dflt (refine' ldn ?k1 ?k2 ?_; (case k1 => k_asm); (case k2 => first | with_reducible assumption | ((try dsimp only); (repeat (rw [if_neg (by decide)])); first | with_reducible assumption | (rw [if_pos rfl]))); k_whole)))
local macro_rules | `(tactic| walk_at "subscriptTail Name Slice str ref") => `(tactic| (k_here; (refine slice_by (s := ⟨_, _, _, _, _⟩) (by k_asm) (by k_asm) (by assumption) (by assumption) ?_); intro _ _ _ _ _))
local macro_rules | `(tactic| walk_at "binaryOp Add str str") => `(tactic| (k_here; (refine SBL.add ?_ (by unfold sizeLine; omega)); intro _ _ _))
local macro_rules | `(tactic| walk_at "inplaceOp Add str str") => `(tactic| (k_here; (refine SBL.iadd ?_ (by unfold sizeLine; omega)); intro _ _ _))
local macro_rules | `(tactic| walk_at "assign Tuple") => `(tactic| (k_here; (with_reducible show wpAny _ _ (assign (Expr.Tuple _ _ _) _ (Value.ref _)) _ _ _); k_dflt (refine' unpackN_ ?k1 ?k2 ?k3 ?k4 ?k5 ?k6 ?_; (case k1 => k_asm); (case k2 => k_asm); (case k3 => exact News.isTup (by k_asm) List.mem_cons_self); (case k4 => assumption); (case k5 => exact rfl); (case k6 => exact rfl); k_whole); intro _ _ _))
/-- the loop over a basic text -/
noncomputable abbrev BInv (vs : Array Value) (frs : List (Addr × Obj)) (src : Str) (t1 : Tok) (n : Nat) (rest wr val : List Nat) (k : Nat) (m₁ : Str → Option Value) (news₁ : List (Addr × Obj)) : Prop :=
  ∃ (frs₁ : List (Addr × Obj)) (i st0 : Nat) (ti ts tr : Tok) (res : Str) (w1 v1 seg : List Nat), news₁ = ((183, tbO vs) :: frs₁) ∧ SameUp frs frs₁ ∧ BB w1 v1 ∧ src.cps.toList.drop i = w1 ++ 34 :: rest ∧ i + w1.length = n + wr.length ∧ k = w1.length ∧
      src.cps.toList.drop st0 = seg ++ (w1 ++ 34 :: rest) ∧ st0 + seg.length = i ∧ res.cps.toList ++ seg ++ v1 = val ∧
      m₁ (Str.ofString "pos") = some (.int i ti) ∧ m₁ (Str.ofString "src") = some (.str src t1) ∧ m₁ (Str.ofString "start_pos") = some (.int st0 ts) ∧ m₁ (Str.ofString "result") = some (.str res tr) ∧
      m₁ (Str.ofString "error_on") = some (.ref 72) ∧ m₁ (Str.ofString "parse_escapes") = some (.ref 153) ∧ m₁ (Str.ofString "multiline") = some (.bool false)
set_option maxHeartbeats 4000000 in
theorem basic_ok {w : World} {p : Program} {loose : List Str} {mg mb : Str → Option Value} {G : Heap} {src : Str} {n : Nat} {wr val rest : List Nat} {t1 t2 : Tok} (hp : BB wr val) (hsrc : src.cps.toList.drop n = wr ++ 34 :: rest) (hlen : src.cps.size ≤ 1000) :
    Ok w p loose mg mb G 4 181 [.str src t1, .int n t2] (fun h h' r => ∃ t4 t5, NewTup [.int (n + wr.length + 1 : Nat) t4, .str ⟨val.toArray⟩ t5] h h' r) [(Str.ofString "multiline", .bool false)] := by
  intro A l frs s Q E C hret
  have reg : (PySem.Challenge.rw_ij0148_01, K) = (PySem.Challenge.rw_ij0148_01, K) := by k_fill; rfl
  clear reg
  refine wpAny_call ?_
  k_dflt (refine' enter (d := 3) C ?ho ?hcd ?hb ?hl ?_ ?c2 ?c3 ?c4 ?c5; (case ho => k_is); (case hcd => k_is); (case hb => exact BindsTo.of_eq rfl); (case c5 => decide); (case hl => exact locs rfl); (case c2 => exact rfl); (case c3 => exact rfl); (case c4 => exact rfl))
  intro G' h₁ vs hv F N st eG X T hs1 tb0
  replace F : Fr G' s.heap.objs.size h₁ (bd [(Str.ofString "multiline", .bool false), (Str.ofString "pos", .int n t2), (Str.ofString "src", .str src t1)]) := F
  have hA1 : (A.deeper (envOf (Str.ofString "parse_basic_str") scp_31 s.heap.objs.size 181 (.ref 180))).handled = none := C.hd
  have hsz : src.length ≤ 10000 := by unfold Str.length; omega
  have hsz2 : src.cps.size ≤ 10000 := by omega
  have illS := C.gnd.ill.keeps st
  have key : ∀ (Qf : Flow → Shared → Prop) (E1 : Value → Shared → Prop), Thru w (A.deeper (envOf (Str.ofString "parse_basic_str") scp_31 s.heap.objs.size 181 (.ref 180))) (envOf (Str.ofString "parse_basic_str") scp_31 s.heap.objs.size 181 (.ref 180)) E1 →
      (∀ h' tk' m' frs' a t4 t5, Fr G' s.heap.objs.size h' m' → News G' s.heap.objs.size h' ((a, tupO [.int (n + wr.length + 1 : Nat) t4, .str ⟨val.toArray⟩ t5]) :: (183, tbO vs) :: frs') → SameUp frs frs' → Qf (.ret (.ref a)) { s with heap := h', toks := tk' }) →
      ∀ tk, wpAny (model pr w) (A.deeper (envOf (Str.ofString "parse_basic_str") scp_31 s.heap.objs.size 181 (.ref 180))) (execs bod_31 (envOf (Str.ofString "parse_basic_str") scp_31 s.heap.objs.size 181 (.ref 180))) Qf E1 { s with heap := h₁, toks := tk } := by
    intro Qf E1 hTh hQ tk
    have hPO := hTh.po
    have hPA := hTh.at_
    have hvl : val.length ≤ 1000 := by
      have h1 := bb_len hp
      have h2 := congrArg List.length hsrc
      simp at h2; omega
    refine execs_cut (l₁ := bod_31.take 3) (l₂ := bod_31.drop 3) ?_
    show wpAny _ _ (execs [_, _, _] _) _ _ _
    k_steps
    show wpAny _ _ (execs [_] _) _ _ _
    refine wpAny_execs_cons ?_
    refine While_inv2 (BInv vs frs src t1 n rest wr val) (n₀ := wr.length) (by assumption) (by assumption)
      ⟨frs, n, n, _, _, _, _, wr, val, [], rfl, SameUp.refl _, hp, hsrc, rfl, rfl, hsrc, rfl, rfl, by rfl, by rfl, by rfl, by rfl, by rfl, by rfl, by rfl⟩ ?_
    rintro k m₁ news₁ h₁ tk₁ F2 N2 ⟨frs₁, i, st0, ti, ts, tr, res, w1, v1, seg, rfl, SU1, hbb, hs2, hpos, rfl, hs3, hst, hval, m1, m2, m3, m4, m5, m6, m7⟩
    have hile : i ≤ src.cps.size := by
      have := congrArg List.length hs2
      simp at this; omega
    have hseg : Txt.slice src (some (st0 : Int)) (some (i : Int)) = ⟨seg.toArray⟩ := slice_seg hs3 hst hile
    have hvlen : res.cps.toList.length + seg.length + v1.length = val.length := by rw [← hval]; simp; omega
    have hres1 : res.length ≤ 1000 := by unfold Str.length; simp at hvlen; omega
    have hseg1 : (⟨seg.toArray⟩ : Str).length ≤ 1000 := by unfold Str.length; simp at hvlen ⊢; omega
    cases hbb with
    | nil =>
      have hc : src.cps.toList.drop i = 34 :: rest := hs2
      have ei : n + wr.length = i := by simpa using hpos.symm
      have ev : (⟨val.toArray⟩ : Str) = res ++ (⟨seg.toArray⟩ : Str) := by
        rw [← hval]
        show _ = Str.mk (res.cps ++ seg.toArray)
        simp
      rw [ei, ev] at hQ
      k_steps
      exact hQ _ _ _ _ _ _ _ (by assumption) (by assumption) SU1
    | @one c l1 v1 h34 h92 hill hb =>
      have hc : src.cps.toList.drop i = c :: (l1 ++ 34 :: rest) := hs2
      have e34 : ((⟨#[c]⟩ : Str) == Str.ofString "\"") = false := by rw [show Str.ofString "\"" = ⟨#[34]⟩ from rfl, one_eq]; simpa using h34
      have e92 : ((⟨#[c]⟩ : Str) == Str.ofString "\\") = false := by rw [show Str.ofString "\\" = ⟨#[92]⟩ from rfl, one_eq]; simpa using h92
      k_steps
      obtain ⟨hi1, _, hc1⟩ := sign_at hc
      refine ⟨_, _, _, _, _, rfl, (by assumption), (by assumption), ?_, frs₁, i + 1, st0, _, ts, tr, res, l1, v1, seg ++ [c], rfl, SU1, hb, hc1, ?_, rfl, ?_, ?_, ?_, by rfl, by exact m2, by exact m3, by exact m4, by exact m5, by exact m6, by exact m7⟩
      · simp
      · simp at hpos; omega
      · rw [hs3]; simp
      · simp; omega
      · rw [← hval]; simp
    | @esc e l1 v1 c he hb =>
      obtain ⟨re, rfl, hre⟩ := esc_head he
      have hc : src.cps.toList.drop i = 92 :: (re ++ l1 ++ 34 :: rest) := by rw [hs2]; simp
      have hvsz : (⟨#[c]⟩ : Str).length = 1 := rfl
      k_steps
      refine use_ok [] (esc_ok (n := i) (rest := l1 ++ 34 :: rest) he (by rw [hs2]; simp) hlen) C (by k_asm) (by k_asm) SU1 st (fun q hq => nomatch hq) hv rfl ?_
      rintro r h' tk' frs'' SU' F' N' ⟨t4, t5, a, rfl, ha, ha'⟩
      have N2 := new_in (by assumption) N' ha ha'
      clear N'
      k_steps
      have hdr : src.cps.toList.drop (i + (92 :: re).length) = l1 ++ 34 :: rest := drop_app (by rw [hs2]; simp)
      have nsx : ∀ h : Heap, News G' s.heap.objs.size h ((a, tupO [Value.int (i + (92 :: re).length : Nat) t4, Value.str { cps := #[c] } t5]) :: ([] ++ (183, tbO vs) :: frs'')) → News G' s.heap.objs.size h ((183, tbO vs) :: frs'') := fun h x => news_sub x fun q hq => List.mem_cons_of_mem _ hq
      refine ⟨_, _, _, _, _, rfl, (by assumption), nsx _ (by assumption), ?_, frs'', i + (92 :: re).length, i + (92 :: re).length, _, _, _, _, l1, v1, [], rfl, SU', hb, hdr, ?_, rfl, hdr, rfl, ?_, by rfl, by exact m2, by rfl, by rfl, by exact m5, by exact m6, by exact m7⟩
      · simp; omega
      · simp at hpos ⊢; omega
      · rw [← hval]
        show (res.cps ++ seg.toArray ++ #[c]).toList ++ [] ++ v1 = _
        simp
  refine wpAny_mono (key _ _ Thru.leaving (fun h' tk' m' frs' a t4 t5 F' N' SU => ?_) _) (fun _ _ x => x) (fun _ _ x => x)
  have hnd : ∀ q ∈ [(a, tupO [Value.int (n + wr.length + 1 : Nat) t4, Value.str ⟨val.toArray⟩ t5])], nd q.2 = true := fun q hq => by rw [List.mem_singleton.mp hq]; rfl
  exact hret _ _ _ (kp_of (new := [_]) F' N' SU eG C.there) ((N' _ (List.mem_cons_of_mem _ List.mem_cons_self)).1.trans tb0.symm) ⟨t4, t5, a, rfl, new_none (new := [_]) C N' SU hnd eG List.mem_cons_self, (N' _ List.mem_cons_self).1⟩
set_option maxHeartbeats 4000000 in
theorem oneline_ok {w : World} {p : Program} {loose : List Str} {mg mb : Str → Option Value} {G : Heap} {src : Str} {n : Nat} {wr val rest : List Nat} {t1 t2 : Tok} (hp : BB wr val) (hsrc : src.cps.toList.drop n = 34 :: wr ++ 34 :: rest) (hlen : src.cps.size ≤ 1000) :
    Ok w p loose mg mb G 5 145 [.str src t1, .int n t2] (fun h h' r => ∃ t4 t5, NewTup [.int (n + 1 + wr.length + 1 : Nat) t4, .str ⟨val.toArray⟩ t5] h h' r) := by
  intro A l frs s Q E C hret
  have reg : (PySem.Challenge.rw_ij0148_01, K) = (PySem.Challenge.rw_ij0148_01, K) := by k_fill; rfl
  clear reg
  refine wpAny_call ?_
  k_dflt (refine' enter (d := 4) C ?ho ?hcd ?hb ?hl ?_ ?c2 ?c3 ?c4 ?c5; (case ho => k_is); (case hcd => k_is); (case hb => exact BindsTo.of_eq rfl); (case c5 => decide); (case hl => exact locs rfl); (case c2 => exact rfl); (case c3 => exact rfl); (case c4 => exact rfl))
  intro G' h₁ vs hv F N st eG X T hs1 tb0
  replace F : Fr G' s.heap.objs.size h₁ (bd [(Str.ofString "pos", .int n t2), (Str.ofString "src", .str src t1)]) := F
  have key : ∀ (Qf : Flow → Shared → Prop) (E1 : Value → Shared → Prop), Thru w (A.deeper (envOf (Str.ofString "parse_one_line_basic_str") scp_26 s.heap.objs.size 145 (.ref 144))) (envOf (Str.ofString "parse_one_line_basic_str") scp_26 s.heap.objs.size 145 (.ref 144)) E1 →
      (∀ h' tk' m' frs' a t4 t5, Fr G' s.heap.objs.size h' m' → News G' s.heap.objs.size h' ((a, tupO [.int (n + 1 + wr.length + 1 : Nat) t4, .str ⟨val.toArray⟩ t5]) :: (183, tbO vs) :: frs') → SameUp frs frs' → Qf (.ret (.ref a)) { s with heap := h', toks := tk' }) →
      ∀ tk, wpAny (model pr w) (A.deeper (envOf (Str.ofString "parse_one_line_basic_str") scp_26 s.heap.objs.size 145 (.ref 144))) (execs bod_26 (envOf (Str.ofString "parse_one_line_basic_str") scp_26 s.heap.objs.size 145 (.ref 144))) Qf E1 { s with heap := h₁, toks := tk } := by
    intro Qf E1 hTh hQ tk
    have hPO := hTh.po
    have hPA := hTh.at_
    k_steps
    refine use_ok [] (basic_ok (n := n + 1) (rest := rest) hp (by rw [← List.drop_drop, hsrc]; rfl) hlen) C (by k_asm) (by k_asm) (SameUp.refl _) st (fun q hq => nomatch hq) hv rfl ?_
    rintro r h' tk' frs'' SU' F' N' ⟨t4, t5, a, rfl, ha, ha'⟩
    exact hQ _ _ _ _ a t4 t5 F' (new_in (by assumption) N' ha ha') SU'
  refine wpAny_mono (key _ _ Thru.leaving (fun h' tk' m' frs' a t4 t5 F' N' SU => ?_) _) (fun _ _ x => x) (fun _ _ x => x)
  have hnd : ∀ q ∈ [(a, tupO [Value.int (n + 1 + wr.length + 1 : Nat) t4, Value.str ⟨val.toArray⟩ t5])], nd q.2 = true := fun q hq => by rw [List.mem_singleton.mp hq]; rfl
  exact hret _ _ _ (kp_of (new := [_]) F' N' SU eG C.there) ((N' _ (List.mem_cons_of_mem _ List.mem_cons_self)).1.trans tb0.symm) ⟨t4, t5, a, rfl, new_none (new := [_]) C N' SU hnd eG List.mem_cons_self, (N' _ List.mem_cons_self).1⟩
section
open PySem.StrLaws PySem.Builtin.Str
/-- where a sign stands -/
noncomputable def places (c : Nat) : List Nat → Nat → List Nat
  | [], _ => []
  | a :: l, i => if a = c then i :: places c l (i + 1) else places c l (i + 1)
theorem places_app (c : Nat) (b : List Nat) : ∀ (a : List Nat) (i : Nat), places c (a ++ b) i = places c a i ++ places c b (i + a.length)
  | [], i => by simp [places]
  | x :: a, i => by
    simp only [List.cons_append, places, places_app c b a (i + 1), List.length_cons]
    rw [show i + 1 + a.length = i + (a.length + 1) by omega]
    split <;> simp
theorem places_none {c : Nat} : ∀ {a : List Nat} {i : Nat}, c ∉ a → places c a i = []
  | [], _, _ => rfl
  | x :: a, i, h => by
    simp only [List.mem_cons, not_or] at h
    simp only [places]
    rw [if_neg (fun e => h.1 e.symm), places_none h.2]
theorem sub_one {s : Str} {c i : Nat} (hi : i < s.cps.size) : subAt s ⟨#[c]⟩ i = decide (s.cps.toList.getD i 0 = c) := by
  unfold subAt
  have : s.cps.extract i (i + (⟨#[c]⟩ : Str).length) = #[s.cps[i]] := by
    apply Array.ext'
    show (s.cps.extract i (i + 1)).toList = [s.cps[i]]
    rw [Array.toList_extract, List.extract_eq_drop_take, List.drop_eq_getElem_cons (by simpa using hi)]
    simp
  rw [this]
  have e : s.cps.toList.getD i 0 = s.cps[i] := by
    rw [List.getD_eq_getElem?_getD, List.getElem?_eq_getElem (by simpa using hi)]; simp
  rw [e]
  by_cases h : s.cps[i] = c
  · simp [h]
  · simp [h]
theorem drop_take {s : Str} {lo hi : Nat} (h : lo < hi) (hs : hi ≤ s.cps.size) : (s.cps.toList.take hi).drop lo = s.cps.toList.getD lo 0 :: (s.cps.toList.take hi).drop (lo + 1) := by
  rw [List.drop_eq_getElem_cons (by simp; omega)]
  congr 1
  rw [List.getElem_take, List.getD_eq_getElem?_getD, List.getElem?_eq_getElem (by simp; omega)]; rfl
theorem occ_go {s : Str} {c hi limit : Nat} (hs : hi ≤ s.cps.size) : ∀ (k lo : Nat) (found : Array Nat) (free : Nat), lo + k = hi → free ≤ lo →
    (forIn (List.range' lo (k + 1)) (found, free) (occBody s ⟨#[c]⟩ hi limit)).run.fst.toList = found.toList ++ (places c ((s.cps.toList.take hi).drop lo) lo).take (limit - found.size) := by
  intro k
  induction k with
  | zero =>
    intro lo found free hk hf
    have : (s.cps.toList.take hi).drop lo = [] := by apply List.drop_eq_nil_of_le; simp; omega
    rw [this]
    rw [List.range'_succ, List.forIn_cons]
    unfold occBody
    rw [if_neg (by rintro ⟨⟨_, h⟩, _⟩; have : lo + 1 ≤ hi := h; omega)]
    simp [places]
  | succ k ih =>
    intro lo found free hk hf
    rw [List.range'_succ, List.forIn_cons, drop_take (by omega) hs]
    have hlt : lo < s.cps.size := by omega
    by_cases hc : s.cps.toList.getD lo 0 = c
    · by_cases hl : found.size < limit
      · have hb : occBody s ⟨#[c]⟩ hi limit lo (found, free) = pure (ForInStep.yield (found.push lo, lo + 1)) := by
          unfold occBody
          rw [if_pos ⟨⟨⟨hl, hf⟩, (show lo + 1 ≤ hi by omega)⟩, by rw [sub_one hlt]; simpa using hc⟩]; rfl
        rw [hb]
        show (forIn (List.range' (lo + 1) (k + 1)) (found.push lo, lo + 1) (occBody s ⟨#[c]⟩ hi limit)).run.fst.toList = _
        rw [ih (lo + 1) (found.push lo) (lo + 1) (by omega) (Nat.le_refl _)]
        simp only [places, if_pos hc, Array.size_push, Array.toList_push]
        rw [show limit - found.size = (limit - (found.size + 1)) + 1 by omega, List.take_succ_cons]
        simp
      · have hb : occBody s ⟨#[c]⟩ hi limit lo (found, free) = pure (ForInStep.yield (found, free)) := by
          unfold occBody
          rw [if_neg (by rintro ⟨⟨⟨h, _⟩, _⟩, _⟩; exact hl h)]
        rw [hb]
        show (forIn (List.range' (lo + 1) (k + 1)) (found, free) (occBody s ⟨#[c]⟩ hi limit)).run.fst.toList = _
        rw [ih (lo + 1) found free (by omega) (by omega)]
        rw [show limit - found.size = 0 by omega]
        simp
    · have hb : occBody s ⟨#[c]⟩ hi limit lo (found, free) = pure (ForInStep.yield (found, free)) := by
        unfold occBody
        rw [if_neg (by rintro ⟨_, h⟩; rw [sub_one hlt] at h; exact hc (by simpa using h))]
      rw [hb]
      show (forIn (List.range' (lo + 1) (k + 1)) (found, free) (occBody s ⟨#[c]⟩ hi limit)).run.fst.toList = _
      rw [ih (lo + 1) found free (by omega) (by omega)]
      simp only [places, if_neg hc]
theorem occ_one {s : Str} {c lo hi limit : Nat} (hs : hi ≤ s.cps.size) (hl : lo ≤ hi) : occurrences s ⟨#[c]⟩ lo hi limit = (places c ((s.cps.toList.take hi).drop lo) lo).take limit := by
  rw [occ_eq, show hi + 1 - lo = (hi - lo) + 1 by omega, occ_go hs (hi - lo) lo #[] lo (by omega) (Nat.le_refl _)]
  simp
theorem last_go {s : Str} {c hi : Nat} (hs : hi ≤ s.cps.size) : ∀ (k lo : Nat) (st : Option Nat), lo + k = hi →
    (forIn (List.range' lo (k + 1)) st (lastBody s ⟨#[c]⟩ hi)).run = ((places c ((s.cps.toList.take hi).drop lo) lo).getLast?).or st := by
  intro k
  induction k with
  | zero =>
    intro lo st hk
    have : (s.cps.toList.take hi).drop lo = [] := by apply List.drop_eq_nil_of_le; simp; omega
    rw [this]
    rw [List.range'_succ, List.forIn_cons]
    unfold lastBody
    rw [if_neg (by rintro ⟨h, _⟩; have : lo + 1 ≤ hi := h; omega)]
    simp [places]
  | succ k ih =>
    intro lo st hk
    rw [List.range'_succ, List.forIn_cons, drop_take (by omega) hs]
    have hlt : lo < s.cps.size := by omega
    by_cases hc : s.cps.toList.getD lo 0 = c
    · have hb : lastBody s ⟨#[c]⟩ hi lo st = pure (ForInStep.yield (some lo)) := by
        unfold lastBody
        rw [if_pos ⟨(show lo + 1 ≤ hi by omega), by rw [sub_one hlt]; simpa using hc⟩]
      rw [hb]
      show (forIn (List.range' (lo + 1) (k + 1)) (some lo) (lastBody s ⟨#[c]⟩ hi)).run = _
      rw [ih (lo + 1) (some lo) (by omega)]
      simp only [places, if_pos hc]
      rw [List.getLast?_cons]
      cases (places c ((s.cps.toList.take hi).drop (lo + 1)) (lo + 1)).getLast? <;> simp
    · have hb : lastBody s ⟨#[c]⟩ hi lo st = pure (ForInStep.yield st) := by
        unfold lastBody
        rw [if_neg (by rintro ⟨_, h⟩; rw [sub_one hlt] at h; exact hc (by simpa using h))]
      rw [hb]
      show (forIn (List.range' (lo + 1) (k + 1)) st (lastBody s ⟨#[c]⟩ hi)).run = _
      rw [ih (lo + 1) st (by omega)]
      simp only [places, if_neg hc]
theorem last_one {s : Str} {c lo hi : Nat} (hs : hi ≤ s.cps.size) (hl : lo ≤ hi) : lastOccurrence s ⟨#[c]⟩ lo hi = (places c ((s.cps.toList.take hi).drop lo) lo).getLast? := by
  rw [last_eq, show hi + 1 - lo = (hi - lo) + 1 by omega, last_go hs (hi - lo) lo none (by omega)]
  simp
theorem gives_index_from (x y : Str) (i : Int) (t u v : Tok) (k : Nat) (rest : List Nat) (h : occurrences x y (fromIndex x.length i) x.length 1 = k :: rest) : Gives (Builtin.«str.index» ⟨[.str x t, .str y u, .int i v], []⟩) (.int (k : Int)) := by
  show Gives (match occurrences x y (fromIndex x.length i) (min x.length x.length) 1 with | k :: _ => retInt k | [] => (do rule "str.index.not-found"; raiseError "ValueError" "substring not found")) _
  rw [Nat.min_self, h]
  exact .of_eq rfl
theorem call_index3 {prog : Program} {w : World} {A : Around} {E : Value → Shared → Prop} {s : Shared} {Q : Value → Shared → Prop} {x y : Str} {i : Int} {t u v : Tok} {k : Nat} {rest : List Nat} (h : occurrences x y (fromIndex x.length i) x.length 1 = k :: rest)
    (hq : Q (.int (k : Int) s.toks) { s with toks := s.toks + 1 }) : wpAny (model prog w) A (call (.builtin "str.index") [.str x t, .str y u, .int i v]) Q E s :=
  call_gives F.slot_str_index (typeIs_str _ _ _) F.entry_str_index (F.args_str_index_3 _ _ _) (gives_index_from x y i t u v k rest h) hq
theorem index_at {x : Str} {n c : Nat} {a b : List Nat} (h : x.cps.toList.drop n = a ++ c :: b) (hc : c ∉ a) : occurrences x ⟨#[c]⟩ (fromIndex x.length (n : Int)) x.length 1 = [n + a.length] := by
  have hn : n ≤ x.cps.size := by
    have := congrArg List.length h
    simp at this; omega
  have e : fromIndex x.length (n : Int) = n := by
    unfold fromIndex
    rw [if_neg (by omega)]
    omega
  rw [e, show x.length = x.cps.size from rfl, occ_one (Nat.le_refl _) hn]
  have e2 : x.cps.toList.take x.cps.size = x.cps.toList := List.take_of_length_le (by simp)
  rw [e2, h, places_app, places_none hc]
  simp [places]
end
local macro_rules | `(tactic| walk_at "call builtin:str.index") => `(tactic| (k_here; (refine call_index3 (by assumption) ?_)))
local macro_rules | `(tactic| walk_at "call builtin:frozenset.isdisjoint") => `(tactic| (k_here; (refine disj_by (by assumption) (by k_asm) (by k_asm) (by assumption) (by assumption) ?_); intro _ _ _ _))
set_option maxHeartbeats 4000000 in
theorem until_ok {w : World} {p : Program} {loose : List Str} {mg mb : Str → Option Value} {G : Heap} {src : Str} {n : Nat} {wr rest : List Nat} {t1 t2 t3 : Tok} (hwr : ∀ c ∈ wr, c ≠ 39 ∧ illC c = false) (hsrc : src.cps.toList.drop n = wr ++ 39 :: rest) (hlen : src.cps.size ≤ 1000) :
    Ok w p loose mg mb G 2 124 [.str src t1, .int n t2, .str (Str.ofString "'") t3] (fun h h' r => ∃ t, r = .int (n + wr.length : Nat) t) [(Str.ofString "error_on", .ref 72), (Str.ofString "error_on_eof", .bool true)] := by
  intro A l frs s Q E C hret
  have reg : (PySem.Challenge.rw_ij0148_01, K) = (PySem.Challenge.rw_ij0148_01, K) := by k_fill; rfl
  clear reg
  refine wpAny_call ?_
  k_dflt (refine' enter (d := 1) C ?ho ?hcd ?hb ?hl ?_ ?c2 ?c3 ?c4 ?c5; (case ho => k_is); (case hcd => k_is); (case hb => exact BindsTo.of_eq rfl); (case c5 => decide); (case hl => exact locs rfl); (case c2 => exact rfl); (case c3 => exact rfl); (case c4 => exact rfl))
  intro G' h₁ vs hv F N st eG X T hs1 tb0
  replace F : Fr G' s.heap.objs.size h₁ (bd [(Str.ofString "error_on_eof", .bool true), (Str.ofString "error_on", .ref 72), (Str.ofString "expect", .str (Str.ofString "'") t3), (Str.ofString "pos", .int n t2), (Str.ofString "src", .str src t1)]) := F
  have hA1 : (A.deeper (envOf (Str.ofString "skip_until") scp_23 s.heap.objs.size 124 (.ref 123))).handled = none := C.hd
  have hsz : src.length ≤ 10000 := by unfold Str.length; omega
  have illS := C.gnd.ill.keeps st
  have hix := index_at hsrc (fun hm => (hwr _ hm).1 rfl)
  have hnl := drop_le (a := wr ++ [39]) (b := rest) (by rw [hsrc]; simp) (by simp)
  have hsl : Txt.slice src (some (n : Int)) (some ((n + wr.length : Nat) : Int)) = ⟨wr.toArray⟩ := slice_seg hsrc rfl (by simp at hnl; omega)
  have hall : ∀ j, j < (⟨wr.toArray⟩ : Str).cps.size → illC ((⟨wr.toArray⟩ : Str).cps.getD j 0) = false := by
    intro j hj
    have hj' : j < wr.length := by simpa using hj
    have := (hwr (wr[j]) (List.getElem_mem hj')).2
    simpa [hj'] using this
  have key : ∀ (Qf : Flow → Shared → Prop) (E1 : Value → Shared → Prop), Thru w (A.deeper (envOf (Str.ofString "skip_until") scp_23 s.heap.objs.size 124 (.ref 123))) (envOf (Str.ofString "skip_until") scp_23 s.heap.objs.size 124 (.ref 123)) E1 →
      (∀ h' tk' m' frs' t, Fr G' s.heap.objs.size h' m' → News G' s.heap.objs.size h' ((183, tbO vs) :: frs') → SameUp frs frs' → Qf (.ret (.int (n + wr.length : Nat) t)) { s with heap := h', toks := tk' }) →
      ∀ tk, wpAny (model pr w) (A.deeper (envOf (Str.ofString "skip_until") scp_23 s.heap.objs.size 124 (.ref 123))) (execs bod_23 (envOf (Str.ofString "skip_until") scp_23 s.heap.objs.size 124 (.ref 123))) Qf E1 { s with heap := h₁, toks := tk } := by
    intro Qf E1 hTh hQ tk
    have hPO := hTh.po
    have hPA := hTh.at_
    k_steps
    exact hQ _ _ _ _ _ (by assumption) (by assumption) (SameUp.refl _)
  refine wpAny_mono (key _ _ Thru.leaving (fun h' tk' m' frs' t F' N' SU => ?_) _) (fun _ _ x => x) (fun _ _ x => x)
  exact hret _ _ _ (kp_of (new := []) F' N' SU eG C.there) ((N' _ List.mem_cons_self).1.trans tb0.symm) ⟨t, rfl⟩
theorem Ok.up {w : World} {p : Program} {loose : List Str} {mg mb : Str → Option Value} {G : Heap} {d d' : Nat} {f : Addr} {args : List Value} {Post : Heap → Heap → Value → Prop} {kw : List (Str × Value)} (H : Ok w p loose mg mb G d f args Post kw) (hd : d ≤ d') : Ok w p loose mg mb G d' f args Post kw :=
  fun A l frs s Q E C k => H A l frs s Q E ⟨C.fr, C.hd, by have := C.dep; omega, by have := C.un; omega, C.fs, C.there, C.stays, C.fresh, C.tbn, C.apart, C.tb, C.gnd⟩ k
set_option maxHeartbeats 4000000 in
theorem liter_ok {w : World} {p : Program} {loose : List Str} {mg mb : Str → Option Value} {G : Heap} {src : Str} {n : Nat} {wr rest : List Nat} {t1 t2 : Tok} (hwr : ∀ c ∈ wr, c ≠ 39 ∧ illC c = false) (hsrc : src.cps.toList.drop n = 39 :: wr ++ 39 :: rest) (hlen : src.cps.size ≤ 1000) :
    Ok w p loose mg mb G 3 174 [.str src t1, .int n t2] (fun h h' r => ∃ t4 t5, NewTup [.int (n + 1 + wr.length + 1 : Nat) t4, .str ⟨wr.toArray⟩ t5] h h' r) := by
  intro A l frs s Q E C hret
  have reg : (PySem.Challenge.rw_ij0148_01, K) = (PySem.Challenge.rw_ij0148_01, K) := by k_fill; rfl
  clear reg
  refine wpAny_call ?_
  k_dflt (refine' enter (d := 2) C ?ho ?hcd ?hb ?hl ?_ ?c2 ?c3 ?c4 ?c5; (case ho => k_is); (case hcd => k_is); (case hb => exact BindsTo.of_eq rfl); (case c5 => decide); (case hl => exact locs rfl); (case c2 => exact rfl); (case c3 => exact rfl); (case c4 => exact rfl))
  intro G' h₁ vs hv F N st eG X T hs1 tb0
  replace F : Fr G' s.heap.objs.size h₁ (bd [(Str.ofString "pos", .int n t2), (Str.ofString "src", .str src t1)]) := F
  have hsz : src.length ≤ 10000 := by unfold Str.length; omega
  have hs1 : src.cps.toList.drop (n + 1) = wr ++ 39 :: rest := by rw [← List.drop_drop, hsrc]; rfl
  have hnl := drop_le (a := wr ++ [39]) (b := rest) (by rw [hs1]; simp) (by simp)
  have hsl : Txt.slice src (some ((n : Int) + 1)) (some ((n + 1 + wr.length : Nat) : Int)) = ⟨wr.toArray⟩ := slice_seg (n := n + 1) hs1 rfl (by simp at hnl; omega)
  have key : ∀ (Qf : Flow → Shared → Prop) (E1 : Value → Shared → Prop), Thru w (A.deeper (envOf (Str.ofString "parse_literal_str") scp_30 s.heap.objs.size 174 (.ref 173))) (envOf (Str.ofString "parse_literal_str") scp_30 s.heap.objs.size 174 (.ref 173)) E1 →
      (∀ h' tk' m' frs' a t4 t5, Fr G' s.heap.objs.size h' m' → News G' s.heap.objs.size h' ((a, tupO [.int (n + 1 + wr.length + 1 : Nat) t4, .str ⟨wr.toArray⟩ t5]) :: (183, tbO vs) :: frs') → SameUp frs frs' → Qf (.ret (.ref a)) { s with heap := h', toks := tk' }) →
      ∀ tk, wpAny (model pr w) (A.deeper (envOf (Str.ofString "parse_literal_str") scp_30 s.heap.objs.size 174 (.ref 173))) (execs bod_30 (envOf (Str.ofString "parse_literal_str") scp_30 s.heap.objs.size 174 (.ref 173))) Qf E1 { s with heap := h₁, toks := tk } := by
    intro Qf E1 hTh hQ tk
    have hPO := hTh.po
    have hPA := hTh.at_
    k_steps
    refine use_ok [] (until_ok (n := n + 1) (rest := rest) hwr hs1 hlen) C (by k_asm) (by k_asm) (SameUp.refl _) st (fun q hq => nomatch hq) hv rfl ?_
    rintro r h' tk' frs'' SU' F' N' ⟨t, rfl⟩
    k_steps
    exact hQ _ _ _ _ _ _ _ (by assumption) (by assumption) SU'
  refine wpAny_mono (key _ _ Thru.leaving (fun h' tk' m' frs' a t4 t5 F' N' SU => ?_) _) (fun _ _ x => x) (fun _ _ x => x)
  have hnd : ∀ q ∈ [(a, tupO [Value.int (n + 1 + wr.length + 1 : Nat) t4, Value.str ⟨wr.toArray⟩ t5])], nd q.2 = true := fun q hq => by rw [List.mem_singleton.mp hq]; rfl
  exact hret _ _ _ (kp_of (new := [_]) F' N' SU eG C.there) ((N' _ (List.mem_cons_of_mem _ List.mem_cons_self)).1.trans tb0.symm) ⟨t4, t5, a, rfl, new_none (new := [_]) C N' SU hnd eG List.mem_cons_self, (N' _ List.mem_cons_self).1⟩
/-- a written part and its name -/
inductive Part : List Nat → List Nat → Prop
  | bare {l : List Nat} : l ≠ [] → (∀ c ∈ l, bareC c = true) → Part l l
  | lit {l : List Nat} : (∀ c ∈ l, c ≠ 39 ∧ illC c = false) → Part (39 :: l ++ [39]) l
  | bas {l v : List Nat} : BB l v → Part (34 :: l ++ [34]) v
noncomputable def StopB (f : Nat → Bool) (l : List Nat) : Prop := ∀ c r, l = c :: r → f c = false
theorem skip_app {f : Nat → Bool} {l a b : List Nat} {n : Nat} (h : l.drop n = a ++ b) (ha : ∀ c ∈ a, f c = true) (hb : StopB f b) : skipN f l n = n + a.length := by
  unfold skipN
  rw [h]
  congr 1
  rw [List.takeWhile_append_of_pos ha, List.length_append]
  cases b with
  | nil => simp
  | cons c r => simp [List.takeWhile, hb c r rfl]
set_option maxHeartbeats 4000000 in
theorem part_ok {w : World} {p : Program} {loose : List Str} {mg mb : Str → Option Value} {G : Heap} {src : Str} {n : Nat} {wr val rest : List Nat} {t1 t2 : Tok} (hp : Part wr val) (hst : StopB bareC rest) (hsrc : src.cps.toList.drop n = wr ++ rest) (hlen : src.cps.size ≤ 1000) :
    Ok w p loose mg mb G 6 138 [.str src t1, .int n t2] (fun h h' r => ∃ t4 t5, NewTup [.int (n + wr.length : Nat) t4, .str ⟨val.toArray⟩ t5] h h' r) := by
  intro A l frs s Q E C hret
  have reg : (PySem.Challenge.rw_ij0148_01, K) = (PySem.Challenge.rw_ij0148_01, K) := by k_fill; rfl
  clear reg
  refine wpAny_call ?_
  k_dflt (refine' enter (d := 5) C ?ho ?hcd ?hb ?hl ?_ ?c2 ?c3 ?c4 ?c5; (case ho => k_is); (case hcd => k_is); (case hb => exact BindsTo.of_eq rfl); (case c5 => decide); (case hl => exact locs rfl); (case c2 => exact rfl); (case c3 => exact rfl); (case c4 => exact rfl))
  intro G' h₁ vs hv F N st eG X T hs1 tb0
  replace F : Fr G' s.heap.objs.size h₁ (bd [(Str.ofString "pos", .int n t2), (Str.ofString "src", .str src t1)]) := F
  have hA1 : (A.deeper (envOf (Str.ofString "parse_key_part") scp_25 s.heap.objs.size 138 (.ref 137))).handled = none := C.hd
  have hsz : src.length ≤ 10000 := by unfold Str.length; omega
  have hsz2 : src.cps.size ≤ 10000 := by omega
  have bareS := C.gnd.bare.keeps st
  have key : ∀ (Qf : Flow → Shared → Prop) (E1 : Value → Shared → Prop), Thru w (A.deeper (envOf (Str.ofString "parse_key_part") scp_25 s.heap.objs.size 138 (.ref 137))) (envOf (Str.ofString "parse_key_part") scp_25 s.heap.objs.size 138 (.ref 137)) E1 →
      (∀ h' tk' m' frs' a t4 t5, Fr G' s.heap.objs.size h' m' → News G' s.heap.objs.size h' ((a, tupO [.int (n + wr.length : Nat) t4, .str ⟨val.toArray⟩ t5]) :: (183, tbO vs) :: frs') → SameUp frs frs' → Qf (.ret (.ref a)) { s with heap := h', toks := tk' }) →
      ∀ tk, wpAny (model pr w) (A.deeper (envOf (Str.ofString "parse_key_part") scp_25 s.heap.objs.size 138 (.ref 137))) (execs bod_25 (envOf (Str.ofString "parse_key_part") scp_25 s.heap.objs.size 138 (.ref 137))) Qf E1 { s with heap := h₁, toks := tk } := by
    intro Qf E1 hTh hQ tk
    have hPO := hTh.po
    have hPA := hTh.at_
    cases hp with
    | bare hne hall =>
      obtain ⟨c, r, rfl⟩ : ∃ c r, wr = c :: r := List.exists_cons_of_ne_nil hne
      have hc : src.cps.toList.drop n = c :: (r ++ rest) := hsrc
      have hcb : bareC c = true := hall c List.mem_cons_self
      have hnl := drop_le (a := c :: r) (b := rest) hsrc (by simp)
      have hsl : Txt.slice src (some (n : Int)) (some ((n + (c :: r).length : Nat) : Int)) = ⟨(c :: r).toArray⟩ := slice_seg hsrc rfl (by omega)
      k_steps
      refine use_ok [] ((skip_ok (n := n) C.gnd.bare hlen (by simp at hnl; omega)).up (by omega)) C (by k_asm) (by k_asm) (SameUp.refl _) st (fun q hq => nomatch hq) hv rfl ?_
      rintro rr h' tk' frs'' SU' F' N' ⟨t, er⟩
      rw [skip_app hsrc hall hst] at er
      subst er
      k_steps
      exact hQ _ _ _ _ _ _ _ (by assumption) (by assumption) SU'
    | lit hall =>
      have hc : src.cps.toList.drop n = 39 :: (val ++ 39 :: rest) := by rw [hsrc]; simp
      have hcb : bareC 39 = false := by decide
      k_steps
      refine use_ok [] ((liter_ok (n := n) (rest := rest) hall (by rw [hc]; simp) hlen).up (by omega)) C (by k_asm) (by k_asm) (SameUp.refl _) st (fun q hq => nomatch hq) hv rfl ?_
      rintro r h' tk' frs'' SU' F' N' ⟨t4, t5, a, rfl, ha, ha'⟩
      have N2 := new_in (by assumption) N' ha ha'
      rw [show n + 1 + val.length + 1 = n + (39 :: val ++ [39]).length by simp; omega] at N2
      exact hQ _ _ _ _ a t4 t5 F' N2 SU'
    | @bas l0 v hb =>
      have hc : src.cps.toList.drop n = 34 :: (l0 ++ 34 :: rest) := by rw [hsrc]; simp
      have hcb : bareC 34 = false := by decide
      k_steps
      refine use_ok [] (oneline_ok (n := n) (rest := rest) hb (by rw [hc]; simp) hlen) C (by k_asm) (by k_asm) (SameUp.refl _) st (fun q hq => nomatch hq) hv rfl ?_
      rintro r h' tk' frs'' SU' F' N' ⟨t4, t5, a, rfl, ha, ha'⟩
      have N2 := new_in (by assumption) N' ha ha'
      rw [show n + 1 + l0.length + 1 = n + (34 :: l0 ++ [34]).length by simp; omega] at N2
      exact hQ _ _ _ _ a t4 t5 F' N2 SU'
  refine wpAny_mono (key _ _ Thru.leaving (fun h' tk' m' frs' a t4 t5 F' N' SU => ?_) _) (fun _ _ x => x) (fun _ _ x => x)
  have hnd : ∀ q ∈ [(a, tupO [Value.int (n + wr.length : Nat) t4, Value.str ⟨val.toArray⟩ t5])], nd q.2 = true := fun q hq => by rw [List.mem_singleton.mp hq]; rfl
  exact hret _ _ _ (kp_of (new := [_]) F' N' SU eG C.there) ((N' _ (List.mem_cons_of_mem _ List.mem_cons_self)).1.trans tb0.symm) ⟨t4, t5, a, rfl, new_none (new := [_]) C N' SU hnd eG List.mem_cons_self, (N' _ List.mem_cons_self).1⟩
section
variable {M : Model} {A : Around} {E : Value → Shared → Prop} {s : Shared}
/-- a plain inner def whose code is new -/
theorem make_new {name qual : Str} {params : Arguments} {body : List Stmt} {scope : Scope} {env : Env} {mg : Str → Option Value} {c Pl : Addr} {ps : Array Value} {pos : Pos} {fl : Nat} {Q : Value → Shared → Prop}
    (hcl : closureFor scope env = pure []) (hge : env.globals = mainGlobals) (hg : s.heap.Ns mainGlobals mg) (hcode : env.code = .ref c) (hok : s.heap.IsCode c Pl ps) (htab : s.heap.TableAt c Pl ps)
    (hnf : codeAmong pos ps.toList = none) (hgP : mainGlobals ≠ Pl) (hb : s.heap.BuiltinsAt mg Pl)
    (h : ∀ c' oc fs t doc h' tk, Heap.ExtBut Pl s.heap h' → s.heap.objs.size ≤ c' → h'.get? c' = some oc → oc.cls = .type "code" → oc.data = .fields fs → fs[1]? = some (.str qual t) → h'.get? Pl = some { cls := .none, data := .fields (ps ++ #[rawInt pos.line, rawInt pos.col, .ref c']) } →
      Q (.ref h'.objs.size) { s with heap := h'.push { cls := .type "function", data := .func (fnX name qual params body scope [] .none .none doc ((mg "__name__").getD .none) none (.ref c') .none) }, toks := tk }) :
    wpAny M A (makeFunction name qual params (.stmts body) scope env [] [] [] pos fl) Q E s := by
  rw [makeFunction_eq]
  simp only [List.zip_nil_right, List.filterMap_nil, List.isEmpty_nil, if_true, pure_bind]
  obtain ⟨bm, ob, hbm, hne0, _, hneP, hbo, hcls, hdict, hdata⟩ := hb
  unfold makeTail
  rw [hcl, hge]
  refine wpAny_bind (wpAny_pure ?_)
  simp only [List.isEmpty_nil, if_true]
  refine wpAny_bind (wpAny_pure ?_)
  refine wpAny_bind (wpAny_functionCodeX hcode hok htab hnf fun c' h' tk hx hge hlt _ hrec htb hcc => ?_)
  have hg' := hg.extBut hx hgP
  refine wpAny_bind (wpAny_builtinsFor hg' hbm hne0 (hx _ _ hneP hbo) hcls hdict hdata ?_)
  refine wpAny_bind (wpAny_nsGet hg' ?_)
  obtain ⟨c₂, oc, fs, t, e2, hoc, hfd, hft⟩ := hrec
  cases e2
  obtain ⟨P', _, _, ⟨o2, v2, g2, k2, _⟩, _⟩ := hcc
  rw [hoc] at g2
  cases g2
  cases hdoc : docOf body with
  | none => exact wpAny_bind (wpAny_pure (wpAny_newObj_type (h c' oc fs t .none h' tk hx hge hoc k2 hfd hft htb.2) (by size_fits)))
  | some t2 => exact wpAny_bind (wpAny_mkText (wpAny_newObj_type (h c' oc fs t _ h' _ hx hge hoc k2 hfd hft htb.2) (by size_fits)))
/-- and one whose code the table holds -/
theorem make_hit {name qual : Str} {params : Arguments} {body : List Stmt} {scope : Scope} {env : Env} {mg : Str → Option Value} {c Pl : Addr} {ps : Array Value} {pos : Pos} {fl : Nat} {c' : Value} {Q : Value → Shared → Prop}
    (hcl : closureFor scope env = pure []) (hge : env.globals = mainGlobals) (hg : s.heap.Ns mainGlobals mg) (hcode : env.code = .ref c) (hok : s.heap.IsCode c Pl ps)
    (hf : codeAmong pos ps.toList = some c') (hb : s.heap.BuiltinsAt mg Pl)
    (h : ∀ doc tk, Q (.ref s.heap.objs.size) { s with heap := s.heap.push { cls := .type "function", data := .func (fnX name qual params body scope [] .none .none doc ((mg "__name__").getD .none) none c' .none) }, toks := tk }) :
    wpAny M A (makeFunction name qual params (.stmts body) scope env [] [] [] pos fl) Q E s := by
  rw [makeFunction_eq]
  simp only [List.zip_nil_right, List.filterMap_nil, List.isEmpty_nil, if_true, pure_bind]
  obtain ⟨bm, ob, hbm, hne0, _, hneP, hbo, hcls, hdict, hdata⟩ := hb
  unfold makeTail
  rw [hcl, hge]
  refine wpAny_bind (wpAny_pure ?_)
  simp only [List.isEmpty_nil, if_true]
  refine wpAny_bind (wpAny_pure ?_)
  refine wpAny_bind (wpAny_functionCode_hit hcode hok hf ?_)
  refine wpAny_bind (wpAny_builtinsFor hg hbm hne0 hbo hcls hdict hdata ?_)
  refine wpAny_bind (wpAny_nsGet hg ?_)
  cases hdoc : docOf body with
  | none => exact wpAny_bind (wpAny_pure (wpAny_newObj_type (h .none s.toks) (by size_fits)))
  | some t2 => exact wpAny_bind (wpAny_mkText (wpAny_newObj_type (h _ _) (by size_fits)))
end
theorem code_187 {w : World} {h : Heap} {vs : Array Value} (X : (K w.params).In h) (ht : h.get? 183 = some (tbO vs)) (tr : TriplesOk vs.toList) : h.IsCode 187 183 vs ∧ h.TableAt 187 183 vs := by
  have h187 := X 187 (o_187 w.params) (by kernel_rfl)
  exact ⟨⟨_, _, _, _, _, _, _, _, _, _, h187, rfl, rfl, rfl, rfl, rfl, rfl, ht, rfl, tr, by decide⟩, ⟨⟨_, _, h187, rfl, rfl, rfl⟩, ht⟩⟩
theorem bm_at {w : World} {h h₁ : Heap} {mg : Str → Option Value} (X : (K w.params).In h) (g : h.Ns mainGlobals mg) (k : h.StaysIn h₁) : h₁.BuiltinsAt mg 183 :=
  ⟨4, _, mg_of X g (by kernel_rfl), by decide, by decide, by decide, k _ _ (X 4 (o_4 w.params) (by kernel_rfl)), rfl, rfl, rfl⟩
noncomputable def stC : Stmt := bod_32.getD 0 (.Pass default)
noncomputable def prm_c : Arguments := by
  refine given (paramsOf stC) ?y ?h
  case h => conv => lhs; whnf
noncomputable def bod_c : List Stmt := by
  refine given (bodyOf stC) ?y ?h
  case h => conv => lhs; whnf
noncomputable def scp_c : Scope := by
  refine given (scopeOf stC) ?y ?h
  case h => conv => lhs; whnf
noncomputable abbrev qC : Str := Str.ofString "suffixed_err.<locals>.coord_repr"
noncomputable abbrev fnC (doc pm : Value) (c' : Addr) : Obj := ⟨.type "function", none, .func (fnOf (Str.ofString "coord_repr") qC prm_c bod_c scp_c .none .none doc pm none (.ref c') .none), #[]⟩
/-- where the inner code lies -/
structure CF (G' : Heap) (cs : List (Addr × Obj)) (c' : Addr) : Prop where
  at_ : ∃ oc fs t, ((cs = [] ∧ G'.get? c' = some oc) ∨ cs = [(c', oc)]) ∧ oc.cls = .type "code" ∧ oc.data = .fields fs ∧ fs[1]? = some (.str qC t)
theorem CF.tb {G' h : Heap} {L : Addr} {m : Str → Option Value} {cs : List (Addr × Obj)} {c' : Addr} (x : CF G' cs c') (F : Fr G' L h m) (N : News G' L h cs) : TbV h #[rawInt 156, rawInt 4, .ref c'] := by
  obtain ⟨oc, fs, t, hh, hc, hd, ht⟩ := x.at_
  refine .inr ⟨c', oc, fs, t, rfl, ?_, hc, hd, ht⟩
  rcases hh with ⟨_, e⟩ | e
  · exact F.keep _ _ e
  · subst e; exact (N _ List.mem_cons_self).1
theorem CF.code {G' h : Heap} {L : Addr} {m : Str → Option Value} {cs : List (Addr × Obj)} {c' : Addr} (x : CF G' cs c') (F : Fr G' L h m) (N : News G' L h cs) : h.CodeRec (.ref c') qC := by
  obtain ⟨oc, fs, t, hh, hc, hd, ht⟩ := x.at_
  refine ⟨c', oc, fs, t, rfl, ?_, hd, ht⟩
  rcases hh with ⟨_, e⟩ | e
  · exact F.keep _ _ e
  · subst e; exact (N _ List.mem_cons_self).1
theorem CF.nd {G' : Heap} {cs : List (Addr × Obj)} {c' : Addr} (x : CF G' cs c') : ∀ q ∈ cs, nd q.2 = true := by
  obtain ⟨oc, fs, t, hh, hc, hd, ht⟩ := x.at_
  intro q hq
  rcases hh with ⟨e, _⟩ | e
  · subst e; nomatch hq
  · subst e
    rw [List.mem_singleton.mp hq]
    obtain ⟨c, d, dt, sl⟩ := oc
    simp only at hc hd
    subst hc hd
    rfl
theorem make_coord {w : World} {M : Model} {A : Around} {E : Value → Shared → Prop} {s : Shared} {p : Program} {loose : List Str} {mg mb : Str → Option Value} {G' : Heap} {L : Addr} {m : Str → Option Value} {frs' : List (Addr × Obj)} {vs : Array Value} {env : Env} {pos : Pos} {fl : Nat} {Q : Value → Shared → Prop}
    (F : Fr G' L s.heap m) (N : News G' L s.heap ((183, tbO vs) :: frs')) (X : (K w.params).In G') (T : TopRead p loose mg mb G') (hv : TbV G' vs) (hap : ∀ q ∈ frs', q.1 ≠ 183) (hcl : closureFor scp_c env = pure []) (hge : env.globals = mainGlobals) (hcode : env.code = .ref 187) (hl : pos.line = 156) (hco : pos.col = 4)
    (h : ∀ f c' doc cs h' tk, Fr G' L h' m → News G' L h' ((f, fnC doc ((mg "__name__").getD .none) c') :: (cs ++ (183, tbO #[rawInt 156, rawInt 4, .ref c']) :: frs')) → CF G' cs c' → Q (.ref f) { s with heap := h', toks := tk }) :
    wpAny M A (makeFunction (Str.ofString "coord_repr") qC prm_c (.stmts bod_c) scp_c env [] [] [] pos fl) Q E s := by
  have hgs := T.g.keeps F.keep
  have h183 := N _ List.mem_cons_self
  have fresh : ∀ b, L < b → G'.get? b = none := fun b hb => Heap.get?_none_of_le (Nat.le_trans F.above (Nat.le_of_lt hb))
  have hLs : L < s.heap.objs.size := F.ns.lt
  have hgP : mainGlobals ≠ 183 := by decide
  rcases hv with e | ⟨c', oc, fs, t, e, ho, hc, hd, ht⟩
  · subst e
    obtain ⟨hok, htab⟩ := code_187 (vs := #[]) (X.keeps F.keep) h183.1 trivial
    refine make_new hcl hge hgs hcode hok htab rfl hgP (bm_at X T.g F.keep) fun c' oc fs t doc h' tk hx hgc hoc hc hd ht htb => ?_
    have hLc : L < c' := Nat.lt_of_lt_of_le hLs hgc
    have hlt : c' < h'.objs.size := Heap.lt_size hoc
    have old : ∀ b o, G'.get? b = some o → h'.get? b = some o := fun b o e => hx b o (fun q => by rw [q, h183.2.2] at e; cases e) (F.keep b o e)
    refine h h'.objs.size c' doc [(c', oc)] _ tk ⟨(F.ns.extBut hx h183.2.1.symm).push _, fun b o e => Heap.get?_push_of_some _ (old b o e), F.above⟩ (fun q hq => ?_) ⟨oc, fs, t, .inr rfl, hc, hd, ht⟩
    rcases List.mem_cons.mp hq with rfl | hq
    · exact ⟨Heap.get?_push_size _ rfl, Nat.ne_of_gt (Nat.lt_trans hLc hlt), fresh _ (Nat.lt_trans hLc hlt)⟩
    · rcases List.mem_cons.mp hq with rfl | hq
      · exact ⟨Heap.get?_push_of_some _ hoc, Nat.ne_of_gt hLc, fresh _ hLc⟩
      · rcases List.mem_cons.mp hq with rfl | hq
        · refine ⟨Heap.get?_push_of_some _ ?_, h183.2⟩
          rw [htb, hl, hco]; rfl
        · have n := N q (List.mem_cons_of_mem _ hq)
          exact ⟨Heap.get?_push_of_some _ (hx _ _ (hap q hq) n.1), n.2⟩
  · subst e
    obtain ⟨hok, htab⟩ := code_187 (vs := #[rawInt 156, rawInt 4, .ref c']) (X.keeps F.keep) h183.1 trivial
    refine make_hit (c' := .ref c') hcl hge hgs hcode hok ?_ (bm_at X T.g F.keep) fun doc tk => ?_
    · simp [codeAmong, rawInt, hl, hco]
    refine h s.heap.objs.size c' doc [] _ tk ⟨F.ns.push _, fun b o e => Heap.get?_push_of_some _ (F.keep b o e), F.above⟩ (fun q hq => ?_) ⟨oc, fs, t, .inl ⟨rfl, ho⟩, hc, hd, ht⟩
    rcases List.mem_cons.mp hq with rfl | hq
    · exact ⟨Heap.get?_push_size _ rfl, Nat.ne_of_gt hLs, fresh _ hLs⟩
    · exact ⟨Heap.get?_push_of_some _ (N q hq).1, (N q hq).2⟩
section
variable {w : World} {p : Program} {loose : List Str} {mg mb : Str → Option Value} {G : Heap} {d : Nat} {A : Around} {l : List Env} {frs : List (Addr × Obj)} {s : Shared}
theorem cal_inT {G' : Heap} {L a : Addr} {m : Str → Option Value} {new frs' : List (Addr × Obj)} {vs : Array Value} {qual : Str} {scope : Scope} {cdv : Value} {h h0 : Heap} (C : Cal w p loose mg mb G (d + 1) A l frs h0) (F : Fr G' L h m) (N : News G' L h (new ++ (183, tbO vs) :: frs')) (SU : SameUp frs frs') (Fs : Frs l frs')
    (st : G.StaysIn G') (hv : TbV h vs) (hk : scope.kind = .function) :
    ∃ oL, h.get? L = some oL ∧ Cal w p loose mg mb G d (A.deeper (envOf qual scope L a cdv)) (envOf qual scope L a cdv :: l) ((L, oL) :: frs') h := by
  obtain ⟨oL, es, ep, hL, hLd, hLk, hLf⟩ := F.ns
  refine ⟨oL, hL, ⟨by show A.frames.map _ = _; rw [C.fr]; rfl, C.hd, ?_, ?_, ⟨?_, rfl, ⟨es, ep, hLd⟩, Fs⟩, fun q hq => ?_, fun b o e => F.keep b o (st b o e), fun q hq => ?_, C.tbn, fun q hq => ?_, ⟨vs, (N _ (List.mem_append_right _ List.mem_cons_self)).1, hv⟩, C.gnd⟩⟩
  · have := C.dep
    show A.depth + 1 + d < _
    omega
  · have := C.un
    show A.units + 3 + 8 * d < _
    omega
  · show scope.kind ≠ .module
    rw [hk]; decide
  · rcases List.mem_cons.mp hq with e | hq
    · subst e; exact hL
    · exact (N q (List.mem_append_right _ (List.mem_cons_of_mem _ hq))).1
  · rcases List.mem_cons.mp hq with e | hq
    · subst e
      cases x : G.get? L with
      | none => rfl
      | some o => exact absurd (Nat.lt_of_lt_of_le (Heap.lt_size (st _ _ x)) F.above) (Nat.lt_irrefl _)
    · have := (N q (List.mem_append_right _ (List.mem_cons_of_mem _ hq))).2.2
      cases x : G.get? q.1 with
      | none => rfl
      | some o => rw [st _ _ x] at this; cases this
  · rcases List.mem_cons.mp hq with e | hq
    · subst e
      intro q
      exact (N _ (List.mem_append_right _ List.mem_cons_self)).2.1 q.symm
    · have hm : q.1 ∈ frs.map (·.1) := by rw [← (sameUp_mem SU).2]; exact List.mem_map_of_mem hq
      obtain ⟨r, hr, e⟩ := List.mem_map.mp hm
      rw [← e]; exact C.apart r hr
theorem fr_backT {G' : Heap} {L : Addr} {m : Str → Option Value} {new frs' : List (Addr × Obj)} {vs : Array Value} {h h' : Heap} {oL : Obj} (F : Fr G' L h m) (N : News G' L h (new ++ (183, tbO vs) :: frs')) (hL : h.get? L = some oL) (hd : ∀ q ∈ frs', ∃ es ep, q.2.data = .dict es ep)
    (hnd : ∀ q ∈ new, nd q.2 = true) (hv : TbV h vs) (k : Kp (L :: frs'.map (·.1)) h h') (e183 : h'.get? 183 = h.get? 183) :
    ∃ frs'', SameUp frs' frs'' ∧ Fr G' L h' m ∧ News G' L h' (new ++ (183, tbO vs) :: frs'') := by
  have e0 := (N _ (List.mem_append_right _ List.mem_cons_self)).1
  have hvh : TbV h' vs := hv.from fun b o hc eb hdd => k.1 b o eb (fun hm => by
    rcases List.mem_cons.mp hm with q | hm
    · rw [q] at eb
      obtain ⟨oL', es, ep, hL', hLd, _⟩ := F.ns
      rw [hL'] at eb; cases eb
      obtain ⟨fs, hf⟩ := hdd
      rw [hLd] at hf; cases hf
    · obtain ⟨r, hr, e'⟩ := List.mem_map.mp hm
      have := (N r (List.mem_append_right _ (List.mem_cons_of_mem _ hr))).1
      rw [e', eb] at this; cases this
      obtain ⟨es, ep, hh⟩ := hd r hr
      obtain ⟨fs, hf⟩ := hdd
      rw [hh] at hf; cases hf) (fun q => by
    rw [q, e0] at eb; cases eb; cases hc)
  obtain ⟨vs', frs'', hv', SU, F', N'⟩ := fr_back F N hL hd hnd k ⟨vs, e183.trans e0, hvh⟩
  have e1 := (N' _ (List.mem_append_right _ List.mem_cons_self)).1
  rw [show ((183, tbO vs') : Addr × Obj).1 = 183 from rfl, e183, e0] at e1
  have : vs = vs' := by injection e1 with e1; injection e1 with _ _ e1; injection e1
  subst this
  exact ⟨frs'', SU, F', N'⟩
theorem enterF {f : Addr} {oc : Value} {od : Option Addr} {osl : Array (Option Value)} {name qual : Str} {params : Arguments} {body : List Stmt} {scope : Scope} {dV kV doc pm cdv ct : Value} {an : Option Addr} {args : Args} {binds : List (Str × Value)} {R : Result → Shared → Prop}
    (C : Cal w p loose mg mb G (d + 1) A l frs s.heap)
    (ho : s.heap.get? f = some ⟨oc, od, .func (fnOf name qual params body scope dV kV doc pm an cdv ct), osl⟩) (hcd : s.heap.CodeRec cdv qual)
    (hbind : BindsTo s (fnOf name qual params body scope dV kV doc pm an cdv ct) args binds) (hloc : ∀ y ∈ binds, scope.names.lookup y.1 = some .local)
    (h : ∀ G' h₁ vs, TbV G' vs → Fr G' s.heap.objs.size h₁ (fun y => binds.reverse.lookup y) → News G' s.heap.objs.size h₁ ((183, tbO vs) :: frs) → G.StaysIn G' → G' = hideAll s.heap (183 :: frs.map (·.1)) →
      (K w.params).In G' → TopRead p loose mg mb G' → s.heap.StaysIn h₁ → s.heap.get? 183 = some (tbO vs) →
      wpAny (model pr w) (A.deeper (envOf qual scope s.heap.objs.size f cdv)) (execs body (envOf qual scope s.heap.objs.size f cdv))
        (fun fl s' => R (.ok (.ret (match fl with | .ret v => v | _ => .none))) s')
        (fun e s' => wpAny (model pr w) (A.deeper (envOf qual scope s.heap.objs.size f cdv)) (leaving (envOf qual scope s.heap.objs.size f cdv) e) (fun _ s'' => R (.error e) s'') (fun e' s'' => R (.error e') s'') s')
        { s with heap := h₁, toks := s.toks + binds.length })
    (hco : scope.isCoroutine = false) (hgen : scope.isGenerator = false) (hk : scope.kind = .function) (hcell : ∀ x ∈ scope.names, x.2 ≠ .cell) : codeAny (model pr w) A (.call (.ref f) args) R s := by
  have st : G.StaysIn s.heap := C.stays
  have X := C.gnd.X.keeps st
  refine codeAny_call_def (fd := fnOf name qual params body scope dV kV doc pm an cdv ct) (body := body) (binds := binds) (by have := C.dep; omega) ho rfl (C.gnd.T.nolimit.keeps st) hcd rfl hbind hcell hloc (fun h₁ hns hk₁ => ?_) hco hgen hk
  obtain ⟨vs, htb, hv⟩ := C.tb
  have stG : G.StaysIn (hideAll s.heap (183 :: frs.map (·.1))) := fun b o e => hideAll_get _ (st b o e) (fun hm => by
    rcases List.mem_cons.mp hm with q | hm
    · rw [q, C.tbn] at e; cases e
    · obtain ⟨q, hq, e'⟩ := List.mem_map.mp hm
      rw [← e', C.fresh q hq] at e; cases e)
  have hvG : TbV (hideAll s.heap (183 :: frs.map (·.1))) vs := hv.from fun b o hc e hd => hideAll_get _ e (fun hm => by
    rcases List.mem_cons.mp hm with q | hm
    · rw [q, htb] at e; cases e; cases hc
    · obtain ⟨q, hq, e'⟩ := List.mem_map.mp hm
      rw [← e', C.there q hq] at e; cases e
      obtain ⟨es, ep, hdd⟩ := frs_dict C.fs q hq
      obtain ⟨fs, hd⟩ := hd
      rw [hdd] at hd; cases hd)
  refine h _ h₁ vs hvG ⟨hns, fun b o e => hk₁ b o (of_hideAll _ e), Nat.le_of_eq (hideAll_size _ _)⟩ (fun q hq => ?_) stG rfl (C.gnd.X.keeps stG) (C.gnd.T.keeps stG) hk₁ htb
  rcases List.mem_cons.mp hq with e | hq
  · subst e
    exact ⟨hk₁ _ _ htb, Nat.ne_of_lt (Heap.lt_size htb), hideAll_none _ (List.mem_cons_self)⟩
  · exact ⟨hk₁ _ _ (C.there q hq), Nat.ne_of_lt (Heap.lt_size (C.there q hq)), hideAll_none _ (List.mem_cons_of_mem _ (List.mem_map_of_mem hq))⟩
end
/-- a contract with a premise on the heap at the call -/
noncomputable abbrev OkP (w : World) (p : Program) (loose : List Str) (mg mb : Str → Option Value) (G : Heap) (d : Nat) (Pre : Heap → Prop) (f : Addr) (args : List Value) (Post : Heap → Heap → Value → Prop) : Prop :=
  ∀ (A : Around) (l : List Env) (frs : List (Addr × Obj)) (s : Shared) (Q E : Value → Shared → Prop), Cal w p loose mg mb G d A l frs s.heap → Pre s.heap →
    (∀ r h' tk', Kp (frs.map (·.1)) s.heap h' → h'.get? 183 = s.heap.get? 183 → Post s.heap h' r → Q r { s with heap := h', toks := tk' }) → wpAny (model pr w) A (call (.ref f) args) Q E s
section
variable {w : World} {p : Program} {loose : List Str} {mg mb : Str → Option Value} {G : Heap} {d : Nat} {A : Around} {l : List Env} {frs frs' new rest : List (Addr × Obj)} {s : Shared} {h0 h h' G' : Heap} {L a f x : Addr} {m : Str → Option Value} {qual : Str} {scope : Scope} {cdv : Value} {vs : Array Value} {o : Obj}
  {args : List Value} {Pre : Heap → Prop} {Post : Heap → Heap → Value → Prop} {Q E : Value → Shared → Prop}
theorem use_okP (new : List (Addr × Obj)) (H : OkP w p loose mg mb G d Pre f args Post) (C : Cal w p loose mg mb G (d + 1) A l frs h0) (F : Fr G' L s.heap m) (N : News G' L s.heap (new ++ (183, tbO vs) :: frs')) (SU : SameUp frs frs') (st : G.StaysIn G')
    (hnd : ∀ q ∈ new, nd q.2 = true) (tb : TbV s.heap vs) (hpre : Pre s.heap) (hk : scope.kind = .function)
    (k : ∀ r h' tk' frs'', SameUp frs frs'' → Fr G' L h' m → News G' L h' (new ++ (183, tbO vs) :: frs'') → Post s.heap h' r → Q r { s with heap := h', toks := tk' }) :
    wpAny (model pr w) (A.deeper (envOf qual scope L a cdv)) (call (.ref f) args) Q E s := by
  obtain ⟨oL, hL, C'⟩ := cal_inT (qual := qual) (scope := scope) (a := a) (cdv := cdv) C F N SU (frs_up SU C.fs) st tb hk
  refine H _ _ _ s Q E C' hpre fun r h' tk' kp e183 post => ?_
  obtain ⟨frs'', SU', F', N'⟩ := fr_backT F N hL (frs_dict_up C.fs SU) hnd tb kp e183
  exact k r h' tk' frs'' (SameUp.trans SU SU') F' N' post
end
section
open PySem.StrLaws PySem.Builtin.Str
theorem gives_count4 (x y : Str) (n : Nat) (t u v r : Tok) (h : n ≤ x.length) : Gives (Builtin.«str.count» ⟨[.str x t, .str y u, .int 0 v, .int (n : Int) r], []⟩) (.int ((occurrences x y 0 n (x.length + 1)).length : Nat)) := by
  have e : (max 0 (if (n : Int) < 0 then (n : Int) + x.length else (n : Int))).toNat = n := by
    rw [if_neg (by omega)]; omega
  show Gives (retInt (occurrences x y (max 0 (if (0 : Int) < 0 then (0 : Int) + x.length else 0)).toNat (min (max 0 (if (n : Int) < 0 then (n : Int) + x.length else (n : Int))).toNat x.length) (x.length + 1)).length) _
  rw [e, Nat.min_eq_left h]
  exact .of_eq rfl
theorem gives_rindex4 (x y : Str) (n k : Nat) (t u v r : Tok) (h : n ≤ x.length) (hk : lastOccurrence x y 0 n = some k) : Gives (Builtin.«str.rindex» ⟨[.str x t, .str y u, .int 0 v, .int (n : Int) r], []⟩) (.int (k : Int)) := by
  have e : (max 0 (if (n : Int) < 0 then (n : Int) + x.length else (n : Int))).toNat = n := by
    rw [if_neg (by omega)]; omega
  show Gives (match lastOccurrence x y (max 0 (if (0 : Int) < 0 then (0 : Int) + x.length else 0)).toNat (min (max 0 (if (n : Int) < 0 then (n : Int) + x.length else (n : Int))).toNat x.length) with | some i => retInt i | none => (do rule "str.rindex.not-found"; raiseError "ValueError" "substring not found")) _
  rw [e, Nat.min_eq_left h]
  show Gives (match lastOccurrence x y 0 n with | some i => retInt i | none => _) _
  rw [hk]
  exact .of_eq rfl
section
variable {prog : Program} {w : World} {A : Around} {E : Value → Shared → Prop} {s : Shared} {Q : Value → Shared → Prop} {x y : Str} {n k : Nat} {t u v r : Tok}
theorem call_count4 (h : n ≤ x.length) (hc : (occurrences x y 0 n (x.length + 1)).length = k) (hq : Q (.int (k : Int) s.toks) { s with toks := s.toks + 1 }) : wpAny (model prog w) A (call (.builtin "str.count") [.str x t, .str y u, .int 0 v, .int (n : Int) r]) Q E s :=
  call_gives F.slot_str_count (typeIs_str _ _ _) F.entry_str_count (F.args_str_count_4 _ _ _ _) (gives_count4 x y n t u v r h) (by rw [hc]; exact hq)
theorem call_rindex4 (h : n ≤ x.length) (hk : lastOccurrence x y 0 n = some k) (hq : Q (.int (k : Int) s.toks) { s with toks := s.toks + 1 }) : wpAny (model prog w) A (call (.builtin "str.rindex") [.str x t, .str y u, .int 0 v, .int (n : Int) r]) Q E s :=
  call_gives F.slot_str_rindex (typeIs_str _ _ _) F.entry_str_rindex (F.args_str_rindex_4 _ _ _ _) (gives_rindex4 x y n k t u v r h hk) hq
end
end
local macro_rules | `(tactic| walk_at "call builtin:str.count") => `(tactic| (k_here; (refine call_count4 (by assumption) (by assumption) ?_)))
section
open PySem.StrLaws PySem.Builtin.Str
end
local macro_rules | `(tactic| walk_at "call builtin:str.rindex") => `(tactic| (k_here; (refine call_rindex4 (by assumption) (by assumption) ?_)))
section
open PySem.StrLaws PySem.Builtin.Str
noncomputable def nls (src : Str) (n : Nat) : List Nat := places 10 (src.cps.toList.take n) 0
noncomputable def lineOf (src : Str) (n : Nat) : Nat := (nls src n).length + 1
noncomputable def colOf (src : Str) (n : Nat) : Nat := match (nls src n).getLast? with
  | none => n + 1
  | some k => n - k
theorem places_lt {c : Nat} : ∀ {l : List Nat} {i k : Nat}, k ∈ places c l i → i ≤ k ∧ k < i + l.length
  | [], _, _, h => nomatch h
  | x :: l, i, k, h => by
    simp only [places] at h
    split at h
    · rcases List.mem_cons.mp h with rfl | h
      · simp
      · have := places_lt h; simp; omega
    · have := places_lt h; simp; omega
/-- how a place is told -/
noncomputable def coordT (src : Str) (n : Nat) : Str := if src.cps.size ≤ n then Str.ofString "end of document" else
  Str.empty ++ Str.ofString "line " ++ Str.ofString (toString ((lineOf src n : Nat) : Int)) ++ Str.ofString ", column " ++ Str.ofString (toString ((colOf src n : Nat) : Int))
set_option maxHeartbeats 4000000 in
theorem coord_ok {w : World} {p : Program} {loose : List Str} {mg mb : Str → Option Value} {G : Heap} {src : Str} {n : Nat} {t1 t2 : Tok} {f c' : Addr} {doc pm : Value} (hlen : src.cps.size ≤ 1000) :
    OkP w p loose mg mb G 1 (fun h => h.get? f = some (fnC doc pm c') ∧ h.CodeRec (.ref c') qC) f [.str src t1, .int n t2] (fun h h' r => ∃ t, r = .str (coordT src n) t) := by
  intro A l frs s Q E C ⟨hf, hcr⟩ hret
  have reg : (PySem.Challenge.rw_ij0148_01, K) = (PySem.Challenge.rw_ij0148_01, K) := by k_fill; rfl
  clear reg
  refine wpAny_call ?_
  k_dflt (refine' enterF (d := 0) C hf hcr ?hb ?hl ?_ ?c2 ?c3 ?c4 ?c5; (case hb => exact BindsTo.of_eq rfl); (case c5 => decide); (case hl => exact locs rfl); (case c2 => exact rfl); (case c3 => exact rfl); (case c4 => exact rfl))
  intro G' h₁ vs hv F N st eG X T hs1 tb0
  replace F : Fr G' s.heap.objs.size h₁ (bd [(Str.ofString "pos", .int n t2), (Str.ofString "src", .str src t1)]) := F
  have hsz : src.length ≤ 10000 := by unfold Str.length; omega
  have key : ∀ (Qf : Flow → Shared → Prop) (E1 : Value → Shared → Prop), Thru w (A.deeper (envOf qC scp_c s.heap.objs.size f (.ref c'))) (envOf qC scp_c s.heap.objs.size f (.ref c')) E1 →
      (∀ h' tk' m' frs' t, Fr G' s.heap.objs.size h' m' → News G' s.heap.objs.size h' ((183, tbO vs) :: frs') → SameUp frs frs' → Qf (.ret (.str (coordT src n) t)) { s with heap := h', toks := tk' }) →
      ∀ tk, wpAny (model pr w) (A.deeper (envOf qC scp_c s.heap.objs.size f (.ref c'))) (execs bod_c (envOf qC scp_c s.heap.objs.size f (.ref c'))) Qf E1 { s with heap := h₁, toks := tk } := by
    intro Qf E1 hTh hQ tk
    have hPO := hTh.po
    have hPA := hTh.at_
    rcases Nat.lt_or_ge n src.cps.size with hlt | hge
    · have hnl : n ≤ src.length := Nat.le_of_lt hlt
      have hcnt : (occurrences src (Str.ofString "\n") 0 n (src.length + 1)).length = (nls src n).length := by
        rw [show Str.ofString "\n" = ⟨#[10]⟩ from rfl, occ_one hnl (Nat.zero_le _)]
        simp only [List.drop_zero]
        rw [List.take_of_length_le]; rfl
        show (nls src n).length ≤ _
        have : ∀ (l : List Nat) (i : Nat), (places 10 l i).length ≤ l.length := by
          intro l
          induction l with
          | nil => intro i; simp [places]
          | cons x l ih => intro i; simp only [places]; split <;> simp <;> have := ih (i + 1) <;> omega
        have := this (src.cps.toList.take n) 0
        unfold nls Str.length
        simp at this; omega
      have hlast : lastOccurrence src (Str.ofString "\n") 0 n = (nls src n).getLast? := by
        rw [show Str.ofString "\n" = ⟨#[10]⟩ from rfl, last_one hnl (Nat.zero_le _)]
        rfl
      have hlt2 : ¬ ((src.length : Int) ≤ (n : Int)) := by unfold Str.length; omega
      have hpl : ∀ (l : List Nat) (i : Nat), (places 10 l i).length ≤ l.length := by
        intro l
        induction l with
        | nil => intro i; simp [places]
        | cons x l ih => intro i; simp only [places]; split <;> simp <;> have := ih (i + 1) <;> omega
      have hk1 : (((nls src n).length : Nat) : Int) ≤ 1000 := by
        have := hpl (src.cps.toList.take n) 0
        unfold nls
        simp at this; omega
      have hn1 : (n : Int) ≤ 1000 := by omega
      clear hpl
      cases hgl : (nls src n).getLast? with
      | none =>
        have hnil : nls src n = [] := List.getLast?_eq_none_iff.mp hgl
        have hT : coordT src n = Str.empty ++ Str.ofString "line " ++ Str.ofString (toString (((nls src n).length : Int) + 1)) ++ Str.ofString ", column " ++ Str.ofString (toString ((n : Int) + 1)) := by
          unfold coordT lineOf colOf
          rw [if_neg (by omega), hgl]; rfl
        have hz : (((nls src n).length : Nat) : Int) = 0 := by rw [hnil]; rfl
        rw [hT] at hQ
        k_steps
        all_goals first | exact hQ _ _ _ _ _ (by assumption) (by assumption) (SameUp.refl _) | (exfalso; omega) | trace_state
      | some k =>
        rw [hgl] at hlast
        have hk := places_lt (List.mem_of_getLast? hgl)
        have hkn : k < n := by have := hk.2; simp at this; omega
        have hne : nls src n ≠ [] := fun e => by rw [e] at hgl; cases hgl
        have hT : coordT src n = Str.empty ++ Str.ofString "line " ++ Str.ofString (toString (((nls src n).length : Int) + 1)) ++ Str.ofString ", column " ++ Str.ofString (toString ((n : Int) - (k : Int))) := by
          unfold coordT lineOf colOf
          rw [if_neg (by omega), hgl]
          show _ ++ Str.ofString (toString (((n - k : Nat)) : Int)) = _
          rw [show ((n - k : Nat) : Int) = (n : Int) - (k : Int) by omega]; rfl
        have hz : 0 < (((nls src n).length : Nat) : Int) := by have := List.length_pos_iff.mpr hne; omega
        rw [hT] at hQ
        k_steps
        all_goals first | exact hQ _ _ _ _ _ (by assumption) (by assumption) (SameUp.refl _) | (exfalso; omega) | trace_state
    · have hT : coordT src n = Str.ofString "end of document" := by unfold coordT; rw [if_pos hge]
      have hlt2 : ((src.length : Int) ≤ (n : Int)) := by unfold Str.length; omega
      rw [hT] at hQ
      k_steps
      all_goals first | exact hQ _ _ _ _ _ (by assumption) (by assumption) (SameUp.refl _) | (exfalso; omega) | trace_state
  refine wpAny_mono (key _ _ Thru.leaving (fun h' tk' m' frs' t F' N' SU => ?_) _) (fun _ _ x => x) (fun _ _ x => x)
  exact hret _ _ _ (kp_of (new := []) F' N' SU eG C.there) ((N' _ List.mem_cons_self).1.trans tb0.symm) ⟨t, rfl⟩
end
/-- a contract of a call that may let the table of codes grow -/
noncomputable abbrev OkT (w : World) (p : Program) (loose : List Str) (mg mb : Str → Option Value) (G : Heap) (d : Nat) (f : Addr) (args : List Value) (Post : Heap → Heap → Value → Prop) : Prop :=
  ∀ (A : Around) (l : List Env) (frs : List (Addr × Obj)) (s : Shared) (Q E : Value → Shared → Prop), Cal w p loose mg mb G d A l frs s.heap →
    (∀ r h' tk', Kp (frs.map (·.1)) s.heap h' → Tb h' → Post s.heap h' r → Q r { s with heap := h', toks := tk' }) → wpAny (model pr w) A (call (.ref f) args) Q E s
noncomputable def NewErr (msg : Str) (h h' : Heap) (r : Value) : Prop :=
  ∃ e t tt, r = .ref e ∧ h.get? e = none ∧ h.get? t = none ∧ h'.get? e = some { cls := .ref 107, data := .fields #[.ref t, .none, .none, .none, .bool false, .none] } ∧ h'.get? t = some (tupO [.str msg tt])
noncomputable def errT (src : Str) (n : Nat) (m0 : Str) : Str := Str.empty ++ m0 ++ Str.ofString " (at " ++ coordT src n ++ Str.ofString ")"
theorem old_none {h hc G' : Heap} {L x : Addr} {m : Str → Option Value} {frs frs' : List (Addr × Obj)} {vs : Array Value} (F : Fr G' L hc m) (N : News G' L hc ((183, tbO vs) :: frs')) (SU : SameUp frs frs') (e : G' = hideAll h (183 :: frs.map (·.1))) (hx : hc.get? x = none) : h.get? x = none := by
  cases q : h.get? x with
  | none => rfl
  | some o =>
    by_cases hm : x ∈ 183 :: frs.map (·.1)
    · rcases List.mem_cons.mp hm with r | hm
      · subst r
        rw [(N _ List.mem_cons_self).1] at hx; cases hx
      · rw [← (sameUp_mem SU).2] at hm
        obtain ⟨r, hr, er⟩ := List.mem_map.mp hm
        rw [← er, (N r (List.mem_cons_of_mem _ hr)).1] at hx; cases hx
    · have := F.keep x o (by rw [e]; exact hideAll_get _ q hm)
      rw [hx] at this; cases this
theorem num_len : ∀ k, k < 1002 → (Str.ofString (toString ((k : Nat) : Int))).length ≤ 10 := by decide +kernel
theorem app_len (x y : Str) : (x ++ y).length = x.length + y.length := by
  show (x.cps ++ y.cps).size = _
  rw [Array.size_append]; rfl
theorem nls_len (src : Str) (n : Nat) : (nls src n).length ≤ src.cps.size := by
  have : ∀ (l : List Nat) (i : Nat), (places 10 l i).length ≤ l.length := by
    intro l
    induction l with
    | nil => intro i; simp [places]
    | cons x l ih => intro i; simp only [places]; split <;> simp <;> have := ih (i + 1) <;> omega
  have := this (src.cps.toList.take n) 0
  unfold nls
  simp at this; omega
theorem coord_len {src : Str} {n : Nat} (hlen : src.cps.size ≤ 1000) : (coordT src n).length ≤ 1000 := by
  unfold coordT
  split
  · decide
  · rename_i h
    have h1 := num_len (lineOf src n) (by have := nls_len src n; unfold lineOf; omega)
    have h2 := num_len (colOf src n) (by unfold colOf; split <;> omega)
    simp only [app_len]
    have e1 : Str.empty.length = 0 := rfl
    have e2 : (Str.ofString "line ").length = 5 := by decide
    have e3 : (Str.ofString ", column ").length = 9 := by decide
    omega
set_option maxHeartbeats 4000000 in
theorem serr_ok {w : World} {p : Program} {loose : List Str} {mg mb : Str → Option Value} {G : Heap} {src m0 : Str} {n : Nat} {t1 t2 t3 : Tok} (hm : m0.length ≤ 1000) (hlen : src.cps.size ≤ 1000) :
    OkT w p loose mg mb G 2 188 [.str src t1, .int n t2, .str m0 t3] (NewErr (errT src n m0)) := by
  intro A l frs s Q E C hret
  have reg : (PySem.Challenge.rw_ij0148_01, K) = (PySem.Challenge.rw_ij0148_01, K) := by k_fill; rfl
  clear reg
  refine wpAny_call ?_
  k_dflt (refine' enter (d := 1) C ?ho ?hcd ?hb ?hl ?_ ?c2 ?c3 ?c4 ?c5; (case ho => k_is); (case hcd => k_is); (case hb => exact BindsTo.of_eq rfl); (case c5 => decide); (case hl => exact locs rfl); (case c2 => exact rfl); (case c3 => exact rfl); (case c4 => exact rfl))
  intro G' h₁ vs hv F N st eG X T hs1 tb0
  replace F : Fr G' s.heap.objs.size h₁ (bd [(Str.ofString "msg", .str m0 t3), (Str.ofString "pos", .int n t2), (Str.ofString "src", .str src t1)]) := F
  have hA1 : (A.deeper (envOf (Str.ofString "suffixed_err") scp_32 s.heap.objs.size 188 (.ref 187))).handled = none := C.hd
  have key : ∀ (Qf : Flow → Shared → Prop) (E1 : Value → Shared → Prop), Thru w (A.deeper (envOf (Str.ofString "suffixed_err") scp_32 s.heap.objs.size 188 (.ref 187))) (envOf (Str.ofString "suffixed_err") scp_32 s.heap.objs.size 188 (.ref 187)) E1 →
      (∀ h' tk' m' frs' vs' r, Fr G' s.heap.objs.size h' m' → News G' s.heap.objs.size h' ((183, tbO vs') :: frs') → SameUp frs frs' → TbV h' vs' → NewErr (errT src n m0) s.heap h' r → Qf (.ret r) { s with heap := h', toks := tk' }) →
      ∀ tk, wpAny (model pr w) (A.deeper (envOf (Str.ofString "suffixed_err") scp_32 s.heap.objs.size 188 (.ref 187))) (execs bod_32 (envOf (Str.ofString "suffixed_err") scp_32 s.heap.objs.size 188 (.ref 187))) Qf E1 { s with heap := h₁, toks := tk } := by
    intro Qf E1 hTh hQ tk
    have hPO := hTh.po
    have hPA := hTh.at_
    refine wpAny_execs_cons ?_
    refine nestDef_K rfl rfl rfl ?_
    refine make_coord F N X T hv C.apart rfl rfl rfl rfl rfl fun f c' doc cs h' tk' F' N' cf => ?_
    k_steps
    refine callWith_F (FnAt.of (by assumption) List.mem_cons_self) ?_
    k_steps
    refine use_okP ((f, fnC doc ((mg (Str.ofString "__name__")).getD Value.none) c') :: cs) (coord_ok (doc := doc) (pm := (mg (Str.ofString "__name__")).getD Value.none) (c' := c') hlen) C (by k_asm) (by assumption) (SameUp.refl _) st ?_ (cf.tb (by assumption) (news_sub (by assumption) ?_)) ⟨(by assumption : News _ _ _ _) _ List.mem_cons_self |>.1, cf.code (by assumption) (news_sub (by assumption) ?_)⟩ rfl ?_
    · intro q hq
      rcases List.mem_cons.mp hq with e | hq
      · rw [e]; rfl
      · exact cf.nd q hq
    · exact fun q hq => List.mem_cons_of_mem _ (List.mem_append_left _ hq)
    · exact fun q hq => List.mem_cons_of_mem _ (List.mem_append_left _ hq)
    rintro r h' tk' frs'' SU' F' N' ⟨t, rfl⟩
    have hcl : (coordT src n).length ≤ 1000 := coord_len hlen
    k_steps
    have O := own_of_in (x := Str.ofString "TOMLDecodeError") (C := 107) (bmB := [.type "ValueError", .type "Exception", .type "BaseException", .type "object"]) (newId := "ValueError.__new__") X T (by k_is) (by k_exc)
    obtain ⟨bm, ns, nm, qn, bs, hd, sn, sub, ab, col, dd, k0, k1, k2, k3, k5, mN, hC, hns, hni, ht⟩ := (O.keeps F'.keep).obj
    refine wpAny_call_exc_subU F.excBase_ValueError ?_ F.excBase_ValueError ht hC hns hni fun h2 e hx => ?_
    · decide
    have F2 := fr_stay F' hx.keeps
    have N2 := news_stay N' hx.keeps
    have Nf := news_sub N' (l' := (183, tbO #[rawInt 156, rawInt 4, Value.ref c']) :: frs'') fun q hq => List.mem_append_right _ hq
    obtain ⟨t0, he, ht0, ht1⟩ := hx.there
    exact hQ _ _ _ frs'' _ _ F2 (news_sub N2 fun q hq => List.mem_append_right _ hq) SU' (cf.tb F2 (news_sub N2 fun q hq => List.mem_append_left _ (List.mem_cons_of_mem _ hq)))
      ⟨e, t0, _, rfl, old_none F' Nf SU' eG hx.new, old_none F' Nf SU' eG ht0, he, ht1⟩
  refine wpAny_mono (key _ _ Thru.leaving (fun h' tk' m' frs' vs' r F' N' SU hv' ne => ?_) _) (fun _ _ x => x) (fun _ _ x => x)
  exact hret _ _ _ (kp_of (new := []) F' N' SU eG C.there) ⟨vs', (N' _ List.mem_cons_self).1, hv'⟩ ne
noncomputable abbrev excO (t : Addr) : Obj := { cls := .ref 107, data := .fields #[.ref t, .none, .none, .none, .bool false, .none] }
/-- an exception of the class 107 with this text is on its way out of the frames l -/
noncomputable def Fly (l : List Env) (frs : List (Addr × Obj)) (h0 h' : Heap) (e : Addr) (msg : Str) : Prop :=
  ∃ B t tt vs, (∀ b o, h0.get? b = some o → b ∉ frs.map (·.1) → b ≠ 183 → B.get? b = some o) ∧ B.get? 183 = some (tbO vs) ∧ TbV B vs ∧ B.get? t = some (tupO [.str msg tt]) ∧
    Heap.FlyingW B l e (.ref 107) (.ref t) h' ∧ (∀ q ∈ frs, ∃ sl, h'.get? q.1 = some { q.2 with slots := sl }) ∧ h0.get? e = none ∧ h0.get? t = none
noncomputable abbrev Er (w : World) (p : Program) (loose : List Str) (mg mb : Str → Option Value) (G : Heap) (d : Nat) (f : Addr) (args : List Value) (msg : Str) : Prop :=
  ∀ (A : Around) (l : List Env) (frs : List (Addr × Obj)) (s : Shared) (Q E : Value → Shared → Prop), Cal w p loose mg mb G d A l frs s.heap →
    (∀ e h' tk', Fly l frs s.heap h' e msg → E (.ref e) { s with heap := h', toks := tk' }) → wpAny (model pr w) A (call (.ref f) args) Q E s
theorem funFrames_of {h B : Heap} : ∀ {l : List Env} {frs : List (Addr × Obj)}, Frs l frs → (∀ q ∈ frs, h.get? q.1 = some q.2) → (∀ q ∈ frs, B.get? q.1 = none) → h.FunFrames B l
  | [], [], _, _, _ => trivial
  | [], _ :: _, f, _, _ => False.elim f
  | _ :: _, [], f, _, _ => False.elim f
  | env :: l, q :: frs, ⟨hk, hf, ⟨es, ep, hd⟩, hr⟩, ht, hn =>
    ⟨hk, ⟨q.1, q.2, hf, hn q List.mem_cons_self, ht q List.mem_cons_self, fun vs e => by rw [hd] at e; cases e⟩, funFrames_of hr (fun x hx => ht x (List.mem_cons_of_mem _ hx)) fun x hx => hn x (List.mem_cons_of_mem _ hx)⟩
section
variable {M : Model} {A : Around} {E : Value → Shared → Prop} {s : Shared} {env : Env}
theorem raise_gen {nm q : Str} {C N : Addr} {bs bm : List Value} {hdct : Bool} {sn : List Str} {sub : List Value} {ab : Bool} {col : Option Bool} {dd : Option Addr} {k0 k1 k2 k3 k5 : Option Value} {newId : String} {x : PySem.Expr} {pos : Pos} {Q : Flow → Shared → Prop} {G' : Heap}
    (hC : G'.get? C = some (excClassObj nm q C N bs bm hdct sn sub ab col dd k0 k1 k2 k3 k5 newId)) (hbase : bm.contains (.type "BaseException") = true) (hh : A.handled = none)
    (h : wpAny M A (eval x env) (fun v s₁ => ∃ e t, v = .ref e ∧ G'.StaysIn s₁.heap ∧ s₁.heap.get? e = some { cls := .ref C, data := .fields #[.ref t, .none, .none, .none, .bool false, .none] } ∧ E (.ref e) s₁) E s) : wpAny M A (exec (.Raise (some x) none pos) env) Q E s := by
  rw [arm_exec_Raise]
  show wpAny M A (do standAt pos; raiseStmt env (some (do let v ← eval x env; standAt pos; pure v)) none) Q E s
  refine wpAny_bind (wpAny_standAt (wpAny_raiseStmt_made_sub (C := C) (nm := nm) (q := q) (N := N) (bs := bs) (bm := bm) (hdct := hdct) (sn := sn) (sub := sub) (ab := ab) (col := col) (dd := dd) (k0 := k0) (k1 := k1) (k2 := k2) (k3 := k3) (k5 := k5) (newId := newId) hbase hh (wpAny_bind (wpAny_mono h (fun v s₁ h₁ => wpAny_bind (wpAny_standAt (wpAny_pure ?_))) fun _ _ x => x))))
  obtain ⟨e, t, hv, k, he, hE⟩ := h₁
  exact ⟨e, t, hv, k _ _ hC, he, hE⟩
/-- raise of a fresh object of the class 107 -/
theorem raise_my {w : World} {G' : Heap} {x : PySem.Expr} {pos : Pos} {Q : Flow → Shared → Prop} (X : (K w.params).In G') (hh : A.handled = none)
    (h : wpAny M A (eval x env) (fun v s₁ => ∃ e t, v = .ref e ∧ G'.StaysIn s₁.heap ∧ s₁.heap.get? e = some (excO t) ∧ E (.ref e) s₁) E s) : wpAny M A (exec (.Raise (some x) none pos) env) Q E s := by
  have hC : G'.get? 107 = some (excClassObj _ _ 107 106 _ [.type "ValueError", .type "Exception", .type "BaseException", .type "object"] _ _ _ _ _ _ _ _ _ _ _ "ValueError.__new__") := X 107 (o_107 w.params) (by kernel_rfl)
  exact raise_gen hC (by decide) hh h
end
section
variable {w : World} {p : Program} {loose : List Str} {mg mb : Str → Option Value} {G : Heap} {d : Nat} {A : Around} {l : List Env} {frs frs' : List (Addr × Obj)} {s s' : Shared} {h0 h2 hc G' : Heap} {L a e t : Addr} {m : Str → Option Value} {qual msg : Str} {tt : Tok} {scope : Scope} {cdv : Value} {vs : Array Value} {oL : Obj} {Q : Unit → Shared → Prop} {E : Value → Shared → Prop} {M : Model}
theorem leave_first (C : Cal w p loose mg mb G d A l frs h0) (F : Fr G' L s'.heap m) (N : News G' L s'.heap ((183, tbO vs) :: frs')) (SU : SameUp frs frs') (eG : G' = hideAll h0 (183 :: frs.map (·.1))) (tb : TbV s'.heap vs)
    (he : s'.heap.get? e = some (excO t)) (ht : s'.heap.get? t = some (tupO [.str msg tt])) (hne : h0.get? e = none) (hnt : h0.get? t = none) (hk : scope.kind = .function)
    (hQ : ∀ h', Fly l frs h0 h' e msg → Q () { s' with heap := h' }) : wpAny M (A.deeper (envOf qual scope L a cdv)) (leaving (envOf qual scope L a cdv) (.ref e)) Q E s' := by
  have hdict := frs_dict_up C.fs SU
  have hmap := (sameUp_mem SU).2
  obtain ⟨oL, es, ep, hL, hLd, hLr⟩ := F.ns
  have h183 := N _ List.mem_cons_self
  have notfr : ∀ b o, s'.heap.get? b = some o → (∀ es n, o.data ≠ .dict es n) → b ≠ L ∧ b ∉ frs.map (·.1) := fun b o eb hnd => by
    refine ⟨fun q => ?_, fun hm => ?_⟩
    · rw [q, hL] at eb; cases eb; exact hnd _ _ hLd
    · rw [← hmap] at hm
      obtain ⟨r, hr, er⟩ := List.mem_map.mp hm
      rw [← er, (N r (List.mem_cons_of_mem _ hr)).1] at eb
      cases eb
      obtain ⟨es, ep, hh⟩ := hdict r hr
      exact hnd _ _ hh
  have keepB : ∀ b o, s'.heap.get? b = some o → b ≠ e → b ≠ L → b ∉ frs.map (·.1) → (hideAll s'.heap (e :: L :: frs.map (·.1))).get? b = some o := fun b o eb h1 h2 h3 => hideAll_get _ eb fun hm => by
    rcases List.mem_cons.mp hm with q | hm
    · exact h1 q
    · rcases List.mem_cons.mp hm with q | hm
      · exact h2 q
      · exact h3 hm
  have hGL : G'.get? L = none := Heap.get?_none_of_le F.above
  refine wpAny_leaving_firstW (base := hideAll s'.heap (e :: L :: frs.map (·.1))) (outer := l) (L := L) (oe := excO t) (a0 := .ref t) (by show A.frames.map _ = _; rw [C.fr]; rfl) ?_ rfl he (fun b o q => of_hideAll _ q) (hideAll_none _ List.mem_cons_self) rfl rfl rfl fun h' hl => ?_
  · refine funFrames_of (frs := (L, oL) :: frs') ⟨by show scope.kind ≠ _; rw [hk]; decide, rfl, ⟨es, ep, hLd⟩, frs_up SU C.fs⟩ (fun q hq => ?_) (fun q hq => ?_)
    · rcases List.mem_cons.mp hq with e | hq
      · subst e; exact hL
      · exact (N q (List.mem_cons_of_mem _ hq)).1
    · rcases List.mem_cons.mp hq with e | hq
      · subst e; exact hideAll_none _ (List.mem_cons_of_mem _ List.mem_cons_self)
      · exact hideAll_none _ (List.mem_cons_of_mem _ (List.mem_cons_of_mem _ (by rw [← hmap]; exact List.mem_map_of_mem hq)))
  · obtain ⟨k1, ⟨_, _, k2⟩, k3, k4⟩ := hl
    refine hQ h' ⟨_, t, tt, vs, fun b o eb hb h183' => ?_, ?_, ?_, ?_, ⟨k1, hideAll_none _ List.mem_cons_self, k2, k3⟩, fun q hq => ?_, hne, hnt⟩
    · have eg : G'.get? b = some o := by
        rw [eG]; exact hideAll_get _ eb fun hm => (List.mem_cons.mp hm).elim h183' hb
      exact keepB b o (F.keep _ _ eg) (fun q => by rw [q, hne] at eb; cases eb) (fun q => by rw [q, hGL] at eg; cases eg) hb
    · exact keepB _ _ h183.1 (fun q => by have := h183.1; rw [show ((183, tbO vs) : Addr × Obj).1 = e from q, he] at this; cases this) h183.2.1 (fun hm => by
        obtain ⟨r, hr, er⟩ := List.mem_map.mp hm
        exact C.apart r hr er)
    · exact tb.from fun b o hcl eb hfd => by
        have := notfr b o eb fun es n q => by obtain ⟨fs, hf⟩ := hfd; rw [q] at hf; cases hf
        exact keepB b o eb (fun q => by rw [q, he] at eb; cases eb; cases hcl) this.1 this.2
    · have := notfr t _ ht fun es n q => by cases q
      exact keepB t _ ht (fun q => by rw [q, he] at ht; cases ht) this.1 this.2
    · obtain ⟨sl, hm⟩ := (sameUp_mem SU).1 q hq
      obtain ⟨es', ep', hqd⟩ := frs_dict C.fs q hq
      obtain ⟨sl', hs⟩ := k4 q.1 _ (N _ (List.mem_cons_of_mem _ hm)).1 (fun vs' z => by simp only [hqd] at z; cases z)
      exact ⟨sl', hs⟩
theorem leave_on (C : Cal w p loose mg mb G d A l frs h0) (F : Fr G' L hc m) (N : News G' L hc ((183, tbO vs) :: frs')) (SU : SameUp frs frs') (eG : G' = hideAll h0 (183 :: frs.map (·.1))) (hL : hc.get? L = some oL)
    (fl : Fly (envOf qual scope L a cdv :: l) ((L, oL) :: frs') hc s'.heap e msg)
    (hQ : ∀ h', Fly l frs h0 h' e msg → Q () { s' with heap := h' }) : wpAny M (A.deeper (envOf qual scope L a cdv)) (leaving (envOf qual scope L a cdv) (.ref e)) Q E s' := by
  obtain ⟨B, t, tt, vs', b1, b2, b3, b4, b5, b6, b7, b8⟩ := fl
  have hmap := (sameUp_mem SU).2
  have hGL : G'.get? L = none := Heap.get?_none_of_le F.above
  refine wpAny_leaves_onW (by show A.frames.map _ = _; rw [C.fr]; rfl) rfl b5 fun h' x1 x2 => hQ h' ⟨B, t, tt, vs', fun b o eb hb h183 => ?_, b2, b3, b4, x1, fun q hq => ?_, old_none F N SU eG b7, old_none F N SU eG b8⟩
  · have eg : G'.get? b = some o := by
      rw [eG]; exact hideAll_get _ eb fun hm => (List.mem_cons.mp hm).elim h183 hb
    refine b1 b o (F.keep _ _ eg) (fun hm => ?_) h183
    rcases List.mem_cons.mp hm with q | hm
    · rw [q, hGL] at eg; cases eg
    · exact hb (by rw [← hmap]; exact hm)
  · obtain ⟨sl, hm⟩ := (sameUp_mem SU).1 q hq
    obtain ⟨es', ep', hqd⟩ := frs_dict C.fs q hq
    obtain ⟨sl', hs⟩ := b6 _ (List.mem_cons_of_mem _ hm)
    obtain ⟨sl2, hs2⟩ := x2 q.1 _ hs (fun vs' z => by simp only [hqd] at z; cases z)
    exact ⟨sl2, hs2⟩
end
noncomputable def isOpt : Option Str → Value → Bool
  | some x, v => Value.isStrOf x v
  | none, .none => true
  | none, _ => false
theorem isOpt_none {v : Value} (h : isOpt none v = true) : v = .none := by
  cases v <;> simp_all [isOpt]
theorem eqBool_strNone {prog : Program} {w : World} {A : Around} {E : Value → Shared → Prop} {s : Shared} {x : Str} {t : Tok} {Q : Bool → Shared → Prop} (h : Q false s) : wpAny (model prog w) A (eqBool (.str x t) .none) Q E s := by
  unfold eqBool
  refine wpAny_holding ?_
  rw [show ((Value.str x t == Value.none) = false) from by simp]
  simp only [Bool.false_eq_true, if_false]
  refine wpAny_bind (EqNone.eq_str_none (wpAny_truthy_bool h))
theorem eqBool_noneStr {prog : Program} {w : World} {A : Around} {E : Value → Shared → Prop} {s : Shared} {x : Str} {t : Tok} {Q : Bool → Shared → Prop} (h : Q false s) : wpAny (model prog w) A (eqBool .none (.str x t)) Q E s := by
  unfold eqBool
  refine wpAny_holding ?_
  rw [show ((Value.none == Value.str x t) = false) from by simp]
  simp only [Bool.false_eq_true, if_false]
  refine wpAny_bind (EqNone.eq_none_str (wpAny_truthy_bool h))
theorem eqBool_noneNone {prog : Program} {w : World} {A : Around} {E : Value → Shared → Prop} {s : Shared} {Q : Bool → Shared → Prop} (h : Q true s) : wpAny (model prog w) A (eqBool .none .none) Q E s := by
  unfold eqBool
  refine wpAny_holding ?_
  rw [show ((Value.none == Value.none) = true) from by simp]
  exact wpAny_bind (wpAny_rule (wpAny_pure h))
noncomputable def optKind (prog : Program) (w : World) : KeyKind prog w (Option Str) where
  is := isOpt
  hash := fun k => match k with | some x => hashStr w x | none => reduceHash 0xFCA86420
  inj := fun v a b ha hb => by
    cases a <;> cases b
    · rfl
    · rw [isOpt_none ha] at hb; simp [isOpt, Value.isStrOf] at hb
    · rw [isOpt_none hb] at ha; simp [isOpt, Value.isStrOf] at ha
    · exact congrArg some (Value.isStrOf_inj v _ _ ha hb)
  byValue := fun k v h => by
    cases k
    · rw [isOpt_none h]; rfl
    · exact (strKind prog w).byValue _ v h
  pyHash := fun {A E s k v Q} hv h => by
    cases k
    · rw [isOpt_none hv]
      show wpAny _ _ (pyHashByItsType .none) _ _ _
      exact pyHash_slot (T := "NoneType") rfl F.slot_NoneType_hash F.entry_NoneType_hash (F.args_NoneType_hash_1 _) (beq_builtin_none _) (.inl rfl) (wpAny_bind (wpAny_pure (wpAny_bind (wpAny_mkInt (wpAny_pure ⟨_, _, rfl, h⟩)))))
    · exact (strKind prog w).pyHash hv h
  eqBool := fun {A E s a b u v Q} hu hv h => by
    cases a <;> cases b
    · rw [isOpt_none hu, isOpt_none hv]; exact eqBool_noneNone (by simpa using h)
    · rw [isOpt_none hu]
      obtain ⟨t, rfl⟩ := Value.isStrOf_shape hv
      exact eqBool_noneStr (by simpa using h)
    · rw [isOpt_none hv]
      obtain ⟨t, rfl⟩ := Value.isStrOf_shape hu
      exact eqBool_strNone (by simpa using h)
    · exact (strKind prog w).eqBool hu hv (by simpa using h)
  «strs» := fun k x t v h => by
    cases k
    · cases isOpt_none h
    · exact (PySem.strKind prog w).«strs» _ x t v h
theorem froz_opt {prog : Program} {w : World} {h : Heap} {a : Addr} {S : Str → Bool} {n : Nat} (x : FrozAt (strKind prog w) h a S n) : FrozAt (optKind prog w) h a (fun k => match k with | some y => S y | none => false) n := by
  obtain ⟨es, ep, t, ho, hel, hmem, hn, hf⟩ := x
  refine ⟨es, ep, t, ho, fun e he => ?_, fun k => ?_, hn, hf⟩
  · obtain ⟨⟨k, h1, h2⟩, h3⟩ := hel e he
    exact ⟨⟨some k, h1, h2⟩, h3⟩
  · cases k with
    | some y => exact hmem y
    | none =>
      simp only [Bool.false_eq_true, false_iff, not_exists, not_and]
      intro e he hx
      obtain ⟨⟨k, h1, _⟩, _⟩ := hel e he
      have : isOpt none e.2 = true := hx
      rw [isOpt_none this] at h1
      simp [PySem.strKind, Value.isStrOf] at h1
theorem in_none {w : World} {A : Around} {E : Value → Shared → Prop} {s : Shared} {h₀ : Heap} {L sa : Addr} {m : Str → Option Value} {f : Nat → Bool} {Q : Value → Shared → Prop} (F : Fr h₀ L s.heap m) (hS : SetOne w h₀ sa f)
    (h : Q (.bool false) { s with toks := s.toks + 1 }) : wpAny (model pr w) A (compareOp .In .none (.ref sa)) Q E s := by
  obtain ⟨S, n, hn, FS, e⟩ := hS
  exact in_froz (knd := optKind pr w) (k := none) F (froz_opt FS) rfl rfl hn h
local macro_rules | `(tactic| walk_at "compareOp In none ref") => `(tactic| (k_here; (refine in_none (by k_asm) (by assumption) ?_)))
theorem OkT.up {w : World} {p : Program} {loose : List Str} {mg mb : Str → Option Value} {G : Heap} {d d' : Nat} {f : Addr} {args : List Value} {Post : Heap → Heap → Value → Prop} (H : OkT w p loose mg mb G d f args Post) (hd : d ≤ d') : OkT w p loose mg mb G d' f args Post :=
  fun A l frs s Q E C k => H A l frs s Q E ⟨C.fr, C.hd, by have := C.dep; omega, by have := C.un; omega, C.fs, C.there, C.stays, C.fresh, C.tbn, C.apart, C.tb, C.gnd⟩ k
section
variable {w : World} {p : Program} {loose : List Str} {mg mb : Str → Option Value} {G : Heap} {d : Nat} {A : Around} {l : List Env} {frs frs' new rest : List (Addr × Obj)} {s : Shared} {h0 h h' G' : Heap} {L a f x : Addr} {m : Str → Option Value} {qual : Str} {scope : Scope} {cdv : Value} {vs : Array Value} {o : Obj}
  {args : List Value} {Post : Heap → Heap → Value → Prop} {Q E : Value → Shared → Prop}
theorem use_okT (new : List (Addr × Obj)) (H : OkT w p loose mg mb G d f args Post) (C : Cal w p loose mg mb G (d + 1) A l frs h0) (F : Fr G' L s.heap m) (N : News G' L s.heap (new ++ (183, tbO vs) :: frs')) (SU : SameUp frs frs') (st : G.StaysIn G')
    (hnd : ∀ q ∈ new, nd q.2 = true) (hv : TbV G' vs) (hk : scope.kind = .function)
    (k : ∀ r h' tk' vs' frs'', TbV h' vs' → SameUp frs frs'' → Fr G' L h' m → News G' L h' (new ++ (183, tbO vs') :: frs'') → Post s.heap h' r → Q r { s with heap := h', toks := tk' }) :
    wpAny (model pr w) (A.deeper (envOf qual scope L a cdv)) (call (.ref f) args) Q E s := by
  obtain ⟨oL, hL, C'⟩ := cal_in (qual := qual) (scope := scope) (a := a) (cdv := cdv) C F N SU (frs_up SU C.fs) st hv hk
  refine H _ _ _ s Q E C' fun r h' tk' kp tb post => ?_
  obtain ⟨vs', frs'', hv', SU', F', N'⟩ := fr_back F N hL (frs_dict_up C.fs SU) hnd kp tb
  exact k r h' tk' vs' frs'' hv' (SameUp.trans SU SU') F' N' post
end
noncomputable def partMsg : Str := Str.ofString "Invalid initial character for a key part"
set_option maxHeartbeats 4000000 in
theorem partE_ok {w : World} {p : Program} {loose : List Str} {mg mb : Str → Option Value} {G : Heap} {src : Str} {n : Nat} {t1 t2 : Tok} (hbad : n = src.cps.size ∨ ∃ r, src.cps.toList.drop n = 46 :: r) (hlen : src.cps.size ≤ 1000) :
    Er w p loose mg mb G 6 138 [.str src t1, .int n t2] (errT src n partMsg) := by
  intro A l frs s Q E C herr
  have reg : (PySem.Challenge.rw_ij0148_01, K) = (PySem.Challenge.rw_ij0148_01, K) := by k_fill; rfl
  clear reg
  refine wpAny_call ?_
  k_dflt (refine' enter (d := 5) C ?ho ?hcd ?hb ?hl ?_ ?c2 ?c3 ?c4 ?c5; (case ho => k_is); (case hcd => k_is); (case hb => exact BindsTo.of_eq rfl); (case c5 => decide); (case hl => exact locs rfl); (case c2 => exact rfl); (case c3 => exact rfl); (case c4 => exact rfl))
  intro G' h₁ vs hv F N st eG X T hs1 tb0
  replace F : Fr G' s.heap.objs.size h₁ (bd [(Str.ofString "pos", .int n t2), (Str.ofString "src", .str src t1)]) := F
  have hA1 : (A.deeper (envOf (Str.ofString "parse_key_part") scp_25 s.heap.objs.size 138 (.ref 137))).handled = none := C.hd
  have hsz2 : src.cps.size ≤ 10000 := by omega
  have bareS := C.gnd.bare.keeps st
  have key : ∀ (Qf : Flow → Shared → Prop) (E1 : Value → Shared → Prop), Thru w (A.deeper (envOf (Str.ofString "parse_key_part") scp_25 s.heap.objs.size 138 (.ref 137))) (envOf (Str.ofString "parse_key_part") scp_25 s.heap.objs.size 138 (.ref 137)) E1 →
      (∀ h' tk' m' frs' vs' e t tt, Fr G' s.heap.objs.size h' m' → News G' s.heap.objs.size h' ((183, tbO vs') :: frs') → SameUp frs frs' → TbV h' vs' → h'.get? e = some (excO t) → h'.get? t = some (tupO [.str (errT src n partMsg) tt]) → s.heap.get? e = none → s.heap.get? t = none → E1 (.ref e) { s with heap := h', toks := tk' }) →
      ∀ tk, wpAny (model pr w) (A.deeper (envOf (Str.ofString "parse_key_part") scp_25 s.heap.objs.size 138 (.ref 137))) (execs bod_25 (envOf (Str.ofString "parse_key_part") scp_25 s.heap.objs.size 138 (.ref 137))) Qf E1 { s with heap := h₁, toks := tk } := by
    intro Qf E1 hTh hE tk
    have hPO := hTh.po
    have hPA := hTh.at_
    have last : ∀ (m₁ : Str → Option Value) (frs₁ : List (Addr × Obj)) (s₁ : Shared), s₁.gens = s.gens → s₁.drawn = s.drawn → s₁.os = s.os → Fr G' s.heap.objs.size s₁.heap m₁ → News G' s.heap.objs.size s₁.heap ((183, tbO vs) :: frs₁) → SameUp frs frs₁ → ∀ t3 : Tok,
        wpAny (model pr w) (A.deeper (envOf (Str.ofString "parse_key_part") scp_25 s.heap.objs.size 138 (.ref 137))) (call (.ref 188) [.str src t1, .int n t2, .str partMsg t3])
          (fun v s₁ => ∃ e t, v = .ref e ∧ G'.StaysIn s₁.heap ∧ s₁.heap.get? e = some (excO t) ∧ E1 (.ref e) s₁) E1 s₁ := by
      intro m₁ frs₁ s₁ g1 g2 g3 F1 N1 SU1 t3
      refine use_okT [] ((serr_ok (by decide) hlen).up (by omega)) C F1 N1 SU1 st (fun q hq => nomatch hq) hv rfl ?_
      rintro r h' tk' vs' frs'' hv' SU' F' N' ⟨e, t, tt, rfl, he0, ht0, he, ht⟩
      refine ⟨e, t, rfl, F'.keep, he, ?_⟩
      have := hE h' tk' m₁ frs'' vs' e t tt F' N' SU' hv' he ht (old_none F1 N1 SU1 eG he0) (old_none F1 N1 SU1 eG ht0)
      rw [g1, g2, g3]
      exact this
    rcases hbad with rfl | ⟨r, hc⟩
    · k_steps
      rename_i h' tk' e nx
      refine caught_my (new := []) C nx F N (SameUp.refl _) (fun q hq => nomatch hq) X T (by k_is) (by boot_by_name) (by decide) (by decide +kernel) (by decide +kernel) (by decide +kernel) hPA ?_
      intro h3 frs3 SU3 F3 N3
      k_steps
      refine raise_my X (by assumption) ?_
      k_steps
      refine' last ?_ frs3 _ ?g1 ?g2 ?g3 ?hF ?hN SU3 _
      case g1 => rfl
      case g2 => rfl
      case g3 => rfl
      case hF => assumption
      case hN => assumption
    · have hcb : bareC 46 = false := by decide
      k_steps
      refine raise_my X (by assumption) ?_
      k_steps
      refine' last ?_ frs _ ?g1 ?g2 ?g3 ?hF ?hN (SameUp.refl _) _
      case g1 => rfl
      case g2 => rfl
      case g3 => rfl
      case hF => assumption
      case hN => assumption
  refine wpAny_mono (key _ _ Thru.leaving (fun h' tk' m' frs' vs' e t tt F' N' SU hv' he ht hne hnt => ?_) _) (fun _ _ x => x) (fun _ _ x => x)
  exact leave_first C F' N' SU eG hv' he ht hne hnt rfl fun h2 fl => herr e h2 tk' fl
theorem no_tuple_iadd : typeLookup (.type "tuple") (dunderI "add") = pure none := by rw [typeLookup_type, builtinLookup_eq_fast]; kernel_rfl
section
variable {prog : Program} {w : World} {A : Around} {E : Value → Shared → Prop} {s : Shared} {h₀ : Heap} {L : Addr} {m : Str → Option Value} {news : List (Addr × Obj)}
theorem iadd_tup {t b : Addr} {vs ws : List Value} {Q : Value → Shared → Prop} (F : Fr h₀ L s.heap m) (N : News h₀ L s.heap news) (ht : s.heap.get? t = some (tupO vs)) (hb : s.heap.get? b = some (tupO ws)) (hv : vs ≠ []) (hw : ws ≠ [])
    (hsz : vs.length + ws.length ≤ 2000)
    (h : ∀ D h', Fr h₀ L h' m → News h₀ L h' ((D, tupO (vs ++ ws)) :: news) → Q (.ref D) { s with heap := h' }) :
    wpAny (model prog w) A (inplaceOp .Add (.ref t) (.ref b)) Q E s := by
  refine wpAny_inplaceOp_concat ⟨_, ht, rfl⟩ ⟨_, hb, rfl⟩ no_tuple_iadd noFill_tuple_add seq_tuple_add (call_meets PySem.F.slot_tuple_add ⟨_, ht, rfl⟩ PySem.F.entry_tuple_add (PySem.F.args_tuple_add_2 _ _)
    (tuple_addW2 t b vs.toArray ws.toArray 0 0 none none #[] #[] (by simpa using hv) (by simpa using hw) (by rw [List.size_toArray, List.size_toArray]; unfold sizeLine; omega)) ⟨ht, hb, ?_⟩)
  have e : vs.toArray ++ ws.toArray = (vs ++ ws).toArray := by simp
  rw [e]
  exact h _ _ (F.push _) (News.push F N _)
theorem len_tupO {t : Addr} {vs : List Value} {n : Nat} {Q : Value → Shared → Prop} (ht : s.heap.get? t = some (tupO vs)) (hn : vs.length = n) (hb : n ≤ 10000) (h : Q (.int (n : Int) (s.toks + 1)) { s with toks := s.toks + 1 + 1 }) :
    wpAny (model prog w) A (call (.builtin "len") [.ref t]) Q E s :=
  PyProof.Rows.len_tuple (items := vs.toArray) ⟨_, ht, rfl, 0, rfl⟩ (by simp; omega) (by simpa [hn] using h)
end
/-- what stands behind the first part of a key: dots, gaps, parts -/
inductive KTail : List Nat → List (List Nat) → Prop
  | nil : KTail [] []
  | cons {h w v g t : List Nat} {vs : List (List Nat)} : (∀ c ∈ h, wsC c = true) → Part w v → (∀ c ∈ g, wsC c = true) → KTail t vs → KTail (46 :: (h ++ (w ++ (g ++ t)))) (v :: vs)
inductive StrVals : List Value → List (List Nat) → Prop
  | nil : StrVals [] []
  | cons {v : List Nat} {t : Tok} {xs : List Value} {vs : List (List Nat)} : StrVals xs vs → StrVals (.str ⟨v.toArray⟩ t :: xs) (v :: vs)
theorem StrVals.snoc {xs : List Value} {vs : List (List Nat)} {v : List Nat} {t : Tok} (h : StrVals xs vs) : StrVals (xs ++ [.str ⟨v.toArray⟩ t]) (vs ++ [v]) := by
  induction h with
  | nil => exact .cons .nil
  | cons _ ih => exact .cons ih
theorem StrVals.len {xs : List Value} {vs : List (List Nat)} (h : StrVals xs vs) : xs.length = vs.length := by
  induction h with
  | nil => rfl
  | cons _ ih => simp [ih]
noncomputable def StopK (l : List Nat) : Prop := StopB (fun c => c == 46 || wsC c || bareC c) l
/-- a dot, a gap, and no part behind -/
noncomputable def BadK (l : List Nat) : Prop := ∃ h b, l = 46 :: (h ++ b) ∧ (∀ c ∈ h, wsC c = true) ∧ (b = [] ∨ ∃ r, b = 46 :: r)
noncomputable def NewKey (m : Nat) (vs : List (List Nat)) (h h' : Heap) (r : Value) : Prop :=
  ∃ a b t4 xs, r = .ref a ∧ h.get? a = none ∧ h.get? b = none ∧ h'.get? a = some (tupO [.int (m : Nat) t4, .ref b]) ∧ h'.get? b = some (tupO xs) ∧ StrVals xs vs
section
variable {w : World} {p : Program} {loose : List Str} {mg mb : Str → Option Value} {G : Heap} {d : Nat} {A : Around} {l : List Env} {frs frs' new rest : List (Addr × Obj)} {s : Shared} {h0 h h' G' : Heap} {L a f x : Addr} {m : Str → Option Value} {qual : Str} {scope : Scope} {cdv : Value} {vs : Array Value} {o : Obj}
  {args : List Value} {Q E : Value → Shared → Prop} {msg : Str}
theorem use_er (new : List (Addr × Obj)) (H : Er w p loose mg mb G d f args msg) (C : Cal w p loose mg mb G (d + 1) A l frs h0) (F : Fr G' L s.heap m) (N : News G' L s.heap (new ++ (183, tbO vs) :: frs')) (SU : SameUp frs frs') (st : G.StaysIn G')
    (hv : TbV G' vs) (hk : scope.kind = .function)
    (k : ∀ e h' tk' oL, s.heap.get? L = some oL → Fly (envOf qual scope L a cdv :: l) ((L, oL) :: frs') s.heap h' e msg → E (.ref e) { s with heap := h', toks := tk' }) :
    wpAny (model pr w) (A.deeper (envOf qual scope L a cdv)) (call (.ref f) args) Q E s := by
  obtain ⟨oL, hL, C'⟩ := cal_in (qual := qual) (scope := scope) (a := a) (cdv := cdv) C F N SU (frs_up SU C.fs) st hv hk
  exact H _ _ _ s Q E C' fun e h' tk' fl => k e h' tk' oL hL fl
end
theorem Er.up {w : World} {p : Program} {loose : List Str} {mg mb : Str → Option Value} {G : Heap} {d d' : Nat} {f : Addr} {args : List Value} {msg : Str} (H : Er w p loose mg mb G d f args msg) (hd : d ≤ d') : Er w p loose mg mb G d' f args msg :=
  fun A l frs s Q E C k => H A l frs s Q E ⟨C.fr, C.hd, by have := C.dep; omega, by have := C.un; omega, C.fs, C.there, C.stays, C.fresh, C.tbn, C.apart, C.tb, C.gnd⟩ k
theorem skipN_all {f : Nat → Bool} {l a b : List Nat} {n : Nat} (h : l.drop n = a ++ b) (ha : ∀ c ∈ a, f c = true) (hb : StopB f b) : skipN f l n = n + a.length := skip_app h ha hb
theorem ktail_len {t : List Nat} {vs : List (List Nat)} (h : KTail t vs) : vs.length ≤ t.length := by
  induction h with
  | nil => exact Nat.le_refl _
  | cons _ _ _ _ ih => simp; omega
/-- the loop over the parts of a key -/
noncomputable abbrev KInv (vs : Array Value) (frs : List (Addr × Obj)) (src : Str) (t1 : Tok) (val : List Nat) (vals : List (List Nat)) (rest : List Nat) (e : Nat) (k : Nat) (m₁ : Str → Option Value) (news₁ : List (Addr × Obj)) : Prop :=
  ∃ (frs₁ : List (Addr × Obj)) (b : Addr) (i : Nat) (ti : Tok) (xs : List Value) (v1 v2 : List (List Nat)) (t' : List Nat), news₁ = ((b, tupO xs) :: (183, tbO vs) :: frs₁) ∧ SameUp frs frs₁ ∧ KTail t' v2 ∧ StrVals xs v1 ∧ v1 ≠ [] ∧ v1 ++ v2 = val :: vals ∧
      src.cps.toList.drop i = t' ++ rest ∧ i + t'.length = e ∧ k = v2.length ∧
      m₁ (Str.ofString "pos") = some (.int i ti) ∧ m₁ (Str.ofString "src") = some (.str src t1) ∧ m₁ (Str.ofString "key") = some (.ref b)
set_option maxHeartbeats 4000000 in
theorem key_any {w : World} {p : Program} {loose : List Str} {mg mb : Str → Option Value} {G : Heap} {src : Str} {n : Nat} {wr val g t rest : List Nat} {vals : List (List Nat)} {t1 t2 : Tok}
    (hp : Part wr val) (hg : ∀ c ∈ g, wsC c = true) (ht : KTail t vals) (hrest : StopK rest ∨ BadK rest) (hsrc : src.cps.toList.drop n = wr ++ (g ++ (t ++ rest))) (hlen : src.cps.size ≤ 1000)
    (A : Around) (l : List Env) (frs : List (Addr × Obj)) (s : Shared) (Q E : Value → Shared → Prop) (C : Cal w p loose mg mb G 8 A l frs s.heap)
    (hret : StopK rest → ∀ r h' tk', Kp (frs.map (·.1)) s.heap h' → h'.get? 183 = s.heap.get? 183 → NewKey (n + wr.length + g.length + t.length) (val :: vals) s.heap h' r → Q r { s with heap := h', toks := tk' })
    (herr : ∀ h b, rest = 46 :: (h ++ b) → (∀ c ∈ h, wsC c = true) → (b = [] ∨ ∃ r, b = 46 :: r) → ∀ e h' tk', Fly l frs s.heap h' e (errT src (n + wr.length + g.length + t.length + 1 + h.length) partMsg) → E (.ref e) { s with heap := h', toks := tk' }) :
    wpAny (model pr w) A (call (.ref 131) [.str src t1, .int n t2] []) Q E s := by
  have reg : (PySem.Challenge.rw_ij0148_01, K) = (PySem.Challenge.rw_ij0148_01, K) := by k_fill; rfl
  clear reg
  refine wpAny_call ?_
  k_dflt (refine' enter (d := 7) C ?ho ?hcd ?hb ?hl ?_ ?c2 ?c3 ?c4 ?c5; (case ho => k_is); (case hcd => k_is); (case hb => exact BindsTo.of_eq rfl); (case c5 => decide); (case hl => exact locs rfl); (case c2 => exact rfl); (case c3 => exact rfl); (case c4 => exact rfl))
  intro G' h₁ vs hv F N st eG X T hs1 tb0
  replace F : Fr G' s.heap.objs.size h₁ (bd [(Str.ofString "pos", .int n t2), (Str.ofString "src", .str src t1)]) := F
  have hA1 : (A.deeper (envOf (Str.ofString "parse_key") scp_24 s.heap.objs.size 131 (.ref 130))).handled = none := C.hd
  have hsz2 : src.cps.size ≤ 10000 := by omega
  have stopW : ∀ {t' : List Nat} {vs' : List (List Nat)}, KTail t' vs' → StopB wsC (t' ++ rest) := by
    intro t' vs' h
    intro c r e
    cases h with
    | nil =>
      simp only [List.nil_append] at e
      rcases hrest with h | ⟨h, b, e', _⟩
      · have := h c r e
        simp only [Bool.or_eq_false_iff] at this
        exact this.1.2
      · rw [e] at e'; injection e' with e' _; subst e'; decide
    | cons => injection e with e _; subst e; decide
  have stopB : ∀ {g' t' : List Nat} {vs' : List (List Nat)}, (∀ c ∈ g', wsC c = true) → KTail t' vs' → StopB bareC (g' ++ (t' ++ rest)) := by
    intro g' t' vs' hg' h c r e
    cases g' with
    | cons c' g' =>
      injection e with e _; subst e
      have := hg' _ List.mem_cons_self
      unfold wsC at this
      simp only [Bool.or_eq_true, beq_iff_eq] at this
      rcases this with rfl | rfl <;> decide
    | nil =>
      simp only [List.nil_append] at e
      cases h with
      | nil =>
        simp only [List.nil_append] at e
        rcases hrest with h | ⟨h, b, e', _⟩
        · have := h c r e
          simp only [Bool.or_eq_false_iff] at this
          exact this.2
        · rw [e] at e'; injection e' with e' _; subst e'; decide
      | cons => injection e with e _; subst e; decide
  have key : ∀ (Qf : Flow → Shared → Prop) (E1 : Value → Shared → Prop), Thru w (A.deeper (envOf (Str.ofString "parse_key") scp_24 s.heap.objs.size 131 (.ref 130))) (envOf (Str.ofString "parse_key") scp_24 s.heap.objs.size 131 (.ref 130)) E1 →
      (StopK rest → ∀ h' tk' m' frs' a b t4 xs, Fr G' s.heap.objs.size h' m' → News G' s.heap.objs.size h' ((a, tupO [.int (n + wr.length + g.length + t.length : Nat) t4, .ref b]) :: (b, tupO xs) :: (183, tbO vs) :: frs') → SameUp frs frs' → StrVals xs (val :: vals) → Qf (.ret (.ref a)) { s with heap := h', toks := tk' }) →
      (∀ hh b, rest = 46 :: (hh ++ b) → (∀ c ∈ hh, wsC c = true) → (b = [] ∨ ∃ r, b = 46 :: r) → ∀ e hc h' tk' m' frs' oL, Fr G' s.heap.objs.size hc m' → News G' s.heap.objs.size hc ((183, tbO vs) :: frs') → SameUp frs frs' → hc.get? s.heap.objs.size = some oL →
        Fly (envOf (Str.ofString "parse_key") scp_24 s.heap.objs.size 131 (.ref 130) :: l) ((s.heap.objs.size, oL) :: frs') hc h' e (errT src (n + wr.length + g.length + t.length + 1 + hh.length) partMsg) → E1 (.ref e) { s with heap := h', toks := tk' }) →
      ∀ tk, wpAny (model pr w) (A.deeper (envOf (Str.ofString "parse_key") scp_24 s.heap.objs.size 131 (.ref 130))) (execs bod_24 (envOf (Str.ofString "parse_key") scp_24 s.heap.objs.size 131 (.ref 130))) Qf E1 { s with heap := h₁, toks := tk } := by
    intro Qf E1 hTh hQ hE tk
    have hPO := hTh.po
    have hPA := hTh.at_
    refine execs_cut (l₁ := bod_24.take 3) (l₂ := bod_24.drop 3) ?_
    show wpAny _ _ (execs [_, _, _] _) _ _ _
    k_steps
    refine use_ok [] ((part_ok (n := n) (rest := g ++ (t ++ rest)) hp (stopB hg ht) hsrc hlen).up (by omega)) C (by k_asm) (by k_asm) (SameUp.refl _) st (fun q hq => nomatch hq) hv rfl ?_
    rintro r h' tk' frs1 SU1 F1 N1 ⟨t4, t5, a, rfl, ha, ha'⟩
    have N2 := new_in (by assumption) N1 ha ha'
    clear N1
    k_steps
    rename_i D' h8 l8 h9 F8 N8
    have hs2 : src.cps.toList.drop (n + wr.length) = g ++ (t ++ rest) := drop_app hsrc
    have hne : wr ≠ [] := by cases hp <;> simp_all
    have hn2 := drop_le hsrc hne
    refine use_ok (l := l) (frs := frs) [_, _] ((skip_ok (n := n + wr.length) C.gnd.ws hlen (by omega)).up (by omega)) C (by k_asm) (by assumption) SU1 st (ac rfl (ac rfl (fun q h => (nomatch h)))) hv rfl ?_
    rintro r h' tk' frs2 SU2 F2 N3 ⟨t6, rfl⟩
    rw [skipN_all hs2 hg (stopW ht)]
    k_steps
    rename_i h10 F10 N10
    have N4 : News G' s.heap.objs.size h10 ((D', tupO [Value.str ⟨val.toArray⟩ t5]) :: (183, tbO vs) :: frs2) := news_sub N10 fun q hq => by
      simp only [List.mem_cons, List.mem_append] at hq ⊢
      rcases hq with h | h | h <;> simp [h]
    show wpAny _ _ (execs [_] _) _ _ _
    refine wpAny_execs_cons ?_
    refine While_inv2 (KInv vs frs src t1 val vals rest (n + wr.length + g.length + t.length)) (n₀ := vals.length) (by assumption) N4
      ⟨frs2, D', n + wr.length + g.length, t6, _, [val], vals, t, rfl, SU2, ht, .cons .nil, by simp, rfl, drop_app hs2, rfl, rfl, by rfl, by rfl, by rfl⟩ ?_
    rintro k m₁ news₁ h₁ tk₁ F2 N2 ⟨frs₁, b, i, ti, xs, v1, v2, t', rfl, SU1, hkt, hxs, hv1ne, hv12, hs3, hpos, rfl, m1, m2, m3⟩
    cases hkt with
    | nil =>
      simp only [List.nil_append, List.append_nil] at hs3 hv12
      subst hv12
      have hpos' : n + wr.length + g.length + t.length = i := by simpa using hpos.symm
      rcases hrest with hst | ⟨hh, bb, rfl, hhW, hbad⟩
      · cases rest with
        | nil =>
          have hge : src.cps.size ≤ i := by
            have := congrArg List.length hs3
            simp at this; omega
          have hi : i ≤ 1000 := by simp at hn2; omega
          rw [hpos'] at hQ
          k_steps
          rename_i h' tk' e nx
          refine caught_my (new := [_]) C nx F2 N2 SU1 (fun q hq => by rw [List.mem_singleton.mp hq]; rfl) X T (by k_is) (by boot_by_name) (by decide) (by decide +kernel) (by decide +kernel) (by decide +kernel) hPA ?_
          intro h3 frs3 SU3 F3 N3
          k_steps
          exact hQ hst _ _ _ _ _ _ _ _ (by assumption) (by assumption) SU3 hxs
        | cons c r =>
          have hc : src.cps.toList.drop i = c :: r := hs3
          have hc46 : c ≠ 46 := fun q => by
            have := hst c r rfl
            rw [q] at this; revert this; decide
          have e46 : ((⟨#[c]⟩ : Str) == Str.ofString ".") = false := by rw [show Str.ofString "." = ⟨#[46]⟩ from rfl, one_eq]; simpa using hc46
          have e46' : (({ cps := #[c] } : Str) != Str.ofString ".") = true := by unfold bne; rw [e46]; rfl
          rw [hpos'] at hQ
          k_steps
          exact hQ hst _ _ _ _ _ _ _ _ (by assumption) (by assumption) SU1 hxs
      · have hc : src.cps.toList.drop i = 46 :: (hh ++ bb) := hs3
        have hle := drop_le (a := [46]) (b := hh ++ bb) hc (by simp)
        have hs4 : src.cps.toList.drop (i + 1) = hh ++ bb := drop_app (a := [46]) hc
        have hbst : StopB wsC bb := by
          rintro c r rfl
          rcases hbad with h | ⟨r', h⟩
          · cases h
          · injection h with h _; subst h; decide
        have hbad' : i + 1 + hh.length = src.cps.size ∨ ∃ r, src.cps.toList.drop (i + 1 + hh.length) = 46 :: r := by
          rcases hbad with rfl | ⟨r', rfl⟩
          · left; simp at hle; omega
          · exact .inr ⟨r', drop_app hs4⟩
        k_steps
        refine use_ok [_] ((skip_ok (n := i + 1) C.gnd.ws hlen (by simp at hle; omega)).up (by omega)) C (by k_asm) (by k_asm) SU1 st (fun q hq => by rw [List.mem_singleton.mp hq]; rfl) hv rfl ?_
        rintro r h' tk' frs2 SU2 F2 N3 ⟨t6, rfl⟩
        rw [skipN_all hs4 hhW hbst]
        k_steps
        refine use_er [_] ((partE_ok (n := i + 1 + hh.length) hbad' hlen).up (by omega)) C (by k_asm) (by k_asm) SU2 st hv rfl ?_
        intro e h' tk' oL hoL fl
        rw [← hpos'] at fl
        refine hE hh bb rfl hhW hbad e _ h' tk' _ _ oL (by assumption) (news_sub (by assumption) ?_) SU2 hoL fl
        exact fun q hq => List.mem_cons_of_mem _ hq
    | @cons hh w1 v g1 t1' vs1 hhW hpart hgW hkt =>
      have hc : src.cps.toList.drop i = 46 :: (hh ++ (w1 ++ (g1 ++ (t1' ++ rest)))) := by rw [hs3]; simp
      have hle := drop_le (a := [46]) (b := hh ++ (w1 ++ (g1 ++ (t1' ++ rest)))) hc (by simp)
      have hs4 : src.cps.toList.drop (i + 1) = hh ++ (w1 ++ (g1 ++ (t1' ++ rest))) := drop_app (a := [46]) hc
      have hs5 := drop_app hs4
      have hs6 := drop_app hs5
      have hs7 := drop_app hs6
      have hw1 : w1 ≠ [] := by cases hpart <;> simp_all
      have hwst : StopB wsC (w1 ++ (g1 ++ (t1' ++ rest))) := by
        intro c r e
        cases hpart with
        | bare hne hall =>
          cases w1 with
          | nil => exact absurd rfl hne
          | cons c' r' =>
            injection e with e _; subst e
            have := hall _ List.mem_cons_self
            revert this
            unfold bareC wsC
            intro h
            rcases Nat.decEq c' 32 with q | q
            · rcases Nat.decEq c' 9 with q2 | q2
              · simp [q, q2]
              · subst q2; revert h; decide
            · subst q; revert h; decide
        | lit => injection e with e _; subst e; decide
        | bas => injection e with e _; subst e; decide
      k_steps
      refine use_ok [_] ((skip_ok (n := i + 1) C.gnd.ws hlen (by simp at hle; omega)).up (by omega)) C (by k_asm) (by k_asm) SU1 st (fun q hq => by rw [List.mem_singleton.mp hq]; rfl) hv rfl ?_
      rintro r h' tk' frs2 SU2 F2 N3 ⟨t6, rfl⟩
      rw [skipN_all hs4 hhW hwst]
      k_steps
      refine use_ok [_] ((part_ok (n := i + 1 + hh.length) (rest := g1 ++ (t1' ++ rest)) hpart (stopB hgW hkt) hs5 hlen).up (by omega)) C (by k_asm) (by k_asm) SU2 st (fun q hq => by rw [List.mem_singleton.mp hq]; rfl) hv rfl ?_
      rintro r h' tk' frs3 SU3 F3 N4 ⟨t7, t8, a', rfl, ha1, ha2⟩
      have N5 := new_in (by assumption) N4 ha1 ha2
      clear N4
      k_steps
      rename_i D2 h11 F11 N11 l11
      have hxl := hxs.len
      have hvl := ktail_len ht
      have hvl2 : v1.length + 1 ≤ vals.length + 1 := by
        have := congrArg List.length hv12
        simp at this; omega
      have hwl : 0 < wr.length := List.length_pos_iff.mpr hne
      have hxlen : xs.length + 1 ≤ 1000 := by simp at hn2; omega
      refine iadd_tup F11 N11 (N11 (b, tupO xs) (by simp)).1 (N11 (D2, tupO [.str ⟨v.toArray⟩ t8]) List.mem_cons_self).1 (by intro q; rw [q] at hxl; cases v1 with | nil => simp at hv1ne | cons => simp at hxl) (by simp) (by simp; omega) ?_
      intro D3 h12 F12 N12
      k_steps
      rename_i h13 F13 N13
      refine len_tupO (n := xs.length + 1) (N13 _ List.mem_cons_self).1 (by simp) (by omega) ?_
      have hgt : ¬ (((xs.length + 1 : Nat) : Int) > 1000) := by omega
      k_steps
      have hn7 : i + 1 + hh.length + w1.length ≤ src.cps.size := by simp at hle; omega
      refine use_ok (l := l) (frs := frs) ((D3, tupO (xs ++ [Value.str { cps := v.toArray } t8])) :: (D2, tupO [.str ⟨v.toArray⟩ t8]) :: (a', tupO [Value.int (↑(i + 1 + hh.length + w1.length)) t7, Value.str { cps := v.toArray } t8]) :: [(b, tupO xs)]) ((skip_ok (n := i + 1 + hh.length + w1.length) C.gnd.ws hlen hn7).up (by omega)) C (by k_asm) (by assumption) SU3 st (ac rfl (ac rfl (ac rfl (ac rfl (fun q h => (nomatch h)))))) hv rfl ?_
      rintro r h' tk' frs4 SU4 F4 N14 ⟨t9, rfl⟩
      rw [skipN_all hs6 hgW (stopW hkt)]
      k_steps
      refine ⟨_, _, _, _, _, rfl, (by assumption), news_sub (l' := (D3, tupO (xs ++ [Value.str { cps := v.toArray } t8])) :: (183, tbO vs) :: frs4) (by assumption) ?_, ?_, frs4, D3, i + 1 + hh.length + w1.length + g1.length, t9, _, v1 ++ [v], vs1, t1', rfl, SU4, hkt, hxs.snoc, by simp, ?_, hs7, ?_, rfl, by rfl, by exact m2, by rfl⟩
      · (repeat refine ac (by k_mem) ?_); first | exact (fun q h => (by repeat first | exact h | apply List.mem_cons_of_mem | exact List.mem_append_left _ h | apply List.mem_append_right)) | exact ap (fun q h => (by repeat first | exact h | apply List.mem_cons_of_mem | exact List.mem_append_left _ h | apply List.mem_append_right)) (by (repeat refine ac (by repeat first | exact List.mem_cons_self | apply List.mem_cons_of_mem | apply List.mem_append_right) ?_); exact fun q h => (by repeat first | exact h | apply List.mem_cons_of_mem | exact List.mem_append_left _ h | apply List.mem_append_right))
      · simp
      · rw [← hv12]; simp
      · simp at hpos; omega
  refine wpAny_mono (key _ _ Thru.leaving (fun hst h' tk' m' frs' a b t4 xs F' N' SU hxs => ?_) (fun hh b e1 e2 e3 e hc h' tk' m' frs' oL F' N' SU hoL fl => ?_) _) (fun _ _ x => x) (fun _ _ x => x)
  · have hnd : ∀ q ∈ [(a, tupO [Value.int (n + wr.length + g.length + t.length : Nat) t4, Value.ref b]), (b, tupO xs)], nd q.2 = true := fun q hq => by
      simp only [List.mem_cons, List.not_mem_nil, or_false] at hq
      rcases hq with rfl | rfl <;> rfl
    exact hret hst _ _ _ (kp_of (new := [_, _]) F' N' SU eG C.there) ((N' (183, tbO vs) (by simp)).1.trans tb0.symm) ⟨a, b, t4, xs, rfl, new_none (new := [_, _]) C N' SU hnd eG List.mem_cons_self, new_none (new := [_, _]) C N' SU hnd eG (List.mem_cons_of_mem _ List.mem_cons_self), (N' _ List.mem_cons_self).1, (N' _ (List.mem_cons_of_mem _ List.mem_cons_self)).1, hxs⟩
  · exact leave_on (s' := { s with heap := h', toks := tk' }) C F' N' SU eG hoL fl fun h2 fl2 => herr hh b e1 e2 e3 e h2 tk' fl2
section
open PySem.Builtin PySem.Builtin.Str PySem.Builtin.BaseException PySem.Builtin.Exceptions
theorem mro_value : mroOf (.type "ValueError") = pure [.type "ValueError", .type "Exception", .type "BaseException", .type "object"] := by kernel_rfl
theorem slot_value_str : Slot "ValueError" "__str__" "BaseException.__str__" :=
  .of (owner := "BaseException") (n := "__str__") (by rw [typeLookup_type, builtinLookup_eq_fast]; kernel_rfl) (by decide +kernel) (by decide +kernel) (by decide +kernel)
    (by first | exact .inl (by decide +kernel) | exact .inr (by decide +kernel)) (by rw [isSubtype_type]; kernel_rfl)
section
variable {w : World} {A : Around} {E : Value → Shared → Prop} {h G' : Heap} {g : Array GenState} {d : Drawn} {t : Nat} {os : OsState} {e t0 : Addr} {oe : Obj} {ws : Array Value} {m : Str} {tk : Tok}
theorem bexcArgs_my {M : Model} {items : List Value} {Q : Value × List Value → Shared → Prop} (ho : h.get? e = some oe) (hd : oe.data = .fields ws) (h0 : ws[0]? = some (.ref t0)) (ht : h.TupAt t0 items) (hq : Q (.ref t0, items) ⟨h, g, d, t, os⟩) :
    wpAny M A (bexcArgs (.ref e)) Q E ⟨h, g, d, t, os⟩ := by
  obtain ⟨ot, k, hto, _, htd⟩ := ht
  unfold bexcArgs
  refine wpAny_bind (wpAny_field ho hd h0 (wpAny_bind (wpAny_seqItems hto htd ?_)))
  have : items.toArray.toList = items := by simp
  show wpAny M A (pure (Value.ref t0, items.toArray.toList)) Q E _
  rw [this]; exact wpAny_pure hq
theorem bexcStr_my {prog : Program} {Q : Fin → Shared → Prop} (ho : h.get? e = some oe) (hd : oe.data = .fields ws) (h0 : ws[0]? = some (.ref t0)) (ht : h.TupAt t0 [.str m tk]) (hq : Q (.done (.ret (.str m tk))) ⟨h, g, d, t, os⟩) :
    wpAny (model prog w) A (Builtin.«BaseException.__str__» ⟨[.ref e], []⟩) Q E ⟨h, g, d, t, os⟩ := by
  unfold Builtin.«BaseException.__str__»
  repeat (first | with_reducible refine bexcArgs_my ho hd h0 ht ?_ | wp_step)
  exact hq
theorem my_class (X : (K w.params).In G') : ∃ nm q N bs hdct sn sub ab col dd k0 k1 k2 k3 k5 newId, G'.get? 107 = some (excClassObj nm q 107 N bs [.type "ValueError", .type "Exception", .type "BaseException", .type "object"] hdct sn sub ab col dd k0 k1 k2 k3 k5 newId) ∧ ∃ mN, G'.Ns N mN ∧ mN "__str__" = none := by
  have hC : G'.get? 107 = some (excClassObj _ _ 107 106 _ [.type "ValueError", .type "Exception", .type "BaseException", .type "object"] _ _ _ _ _ _ _ _ _ _ _ "ValueError.__new__") := X 107 (o_107 w.params) (by kernel_rfl)
  have hok : nsOkIn (K w.params) 106 = true := by kernel_rfl
  exact ⟨_, _, _, _, _, _, _, _, _, _, _, _, _, _, _, _, hC, _, .of_isNs (isNs_of_in X hok), nsMap_none_of_in X hok (by kernel_rfl)⟩
section
variable {prog : Program} {nm q : Str} {N : Addr} {bs : List Value} {hdct : Bool} {sn : List Str} {sub : List Value} {ab : Bool} {col : Option Bool} {dd : Option Addr} {k0 k1 k2 k3 k5 : Option Value} {newId : String} {mN : Str → Option Value}
theorem special_my {Q : Option Value → Shared → Prop} (hC : h.get? 107 = some (excClassObj nm q 107 N bs [.type "ValueError", .type "Exception", .type "BaseException", .type "object"] hdct sn sub ab col dd k0 k1 k2 k3 k5 newId)) (hn : h.Ns N mN) (hno : mN "__str__" = none) (ho : h.get? e = some oe) (hc : oe.cls = .ref 107) (hd : oe.data = .fields ws) (h0 : ws[0]? = some (.ref t0)) (ht : h.TupAt t0 [.str m tk])
    (hq : Q (some (.str m tk)) ⟨h, g, d, t, os⟩) : wpAny (model prog w) A (callSpecial? (.ref e) "__str__") Q E ⟨h, g, d, t, os⟩ := by
  simp only [callSpecial?]
  refine wpAny_bind (wpAny_specialOf_inst ho hc hC hn hno mro_value slot_value_str.lookup ?_)
  simp only [slot_value_str.bind]
  refine wpAny_holding (wpAny_bind (wpAny_pure (wpAny_bind ?_)))
  refine wpAny_call (codeAny_call_builtin slot_value_str.plain F.entry_bexc_str ?_)
  refine wpAny_check_slot_inst (id := "BaseException.__str__") (owner := "BaseException") (n := "__str__") (o := oe) (x := e) (C := 107) (rest := []) ?c1 ?c2 ?c3 ?c4 ho hc hC ?_
  case c1 => decide +kernel
  case c2 => decide +kernel
  case c3 => exact F.args_bexc_str _
  case c4 => decide
  exact bexcStr_my ho hd h0 ht (wpAny_pure hq)
theorem strOf_my (hC : h.get? 107 = some (excClassObj nm q 107 N bs [.type "ValueError", .type "Exception", .type "BaseException", .type "object"] hdct sn sub ab col dd k0 k1 k2 k3 k5 newId)) (hn : h.Ns N mN) (hno : mN "__str__" = none) (hu : A.units < cLine) (ho : h.get? e = some oe) (hc : oe.cls = .ref 107) (hd : oe.data = .fields ws) (h0 : ws[0]? = some (.ref t0)) (ht : h.TupAt t0 [.str m tk])
    {Q : Value → Shared → Prop} (hq : Q (.str m tk) ⟨h, g, d, t, os⟩) : wpAny (model prog w) A (Builtin.Str.strOf (.ref e)) Q E ⟨h, g, d, t, os⟩ := by
  unfold Builtin.Str.strOf
  repeat (first | with_reducible refine wpAny_cRoomFor hu ?_ | with_reducible refine special_my hC hn hno ho hc hd h0 ht ?_ | wp_step)
  exact hq
end
theorem str_of_my (X : (K w.params).In h) (hu : A.units + 2 < cLine) (ho : h.get? e = some oe) (hc : oe.cls = .ref 107) (hd : oe.data = .fields ws) (h0 : ws[0]? = some (.ref t0)) (ht : h.TupAt t0 [.str m tk])
    {Q : Value → Shared → Prop} (hq : Q (.str m tk) ⟨h, g, d, t, os⟩) : wpAny (model pr w) A (call (.type "str") [.ref e]) Q E ⟨h, g, d, t, os⟩ := by
  obtain ⟨nm, q, N, bs, hdct, sn, sub, ab, col, dd, k0, k1, k2, k3, k5, newId, hC, mN, hn, hno⟩ := my_class X
  exact callType_new F.called_str (by decide) (F.typeCall_str_1 _) (F.newCall_str_1 _) (fun obj => F.args_object_init_2 obj _) F.entry_str_new
    (meets_str_new (S := fun A' R s' => A'.units + 1 < cLine ∧ s'.heap = h ∧ R (.ok (.ret (.str m tk))) s')
      fun prog w' A' R s' hq => by
        obtain ⟨h', g', d', t', os'⟩ := s'
        obtain ⟨h1, h2, h3⟩ := hq
        obtain rfl : h' = h := h2
        exact strOf_my (A := A'.in1) hC hn hno h1 ho hc hd h0 ht h3)
    ⟨(show A.units + 1 + 1 < cLine from hu), rfl, typeIs_str _ _ _, hq⟩
end
end
section
variable {w : World} {p : Program} {loose : List Str} {mg mb : Str → Option Value} {G : Heap} {d : Nat} {A : Around} {l : List Env} {frs frs' : List (Addr × Obj)} {s' : Shared} {h0 hc G' : Heap} {L a e : Addr} {m : Str → Option Value} {name : Str} {scope : Scope} {cd : Value} {vs : Array Value} {oL : Obj} {msg : Str}
  {x n : Str} {b₀ : Stmt} {suite : List Stmt} {pos np : Pos} {rest : List ExceptHandler} {Q : Flow → Shared → Prop} {E : Value → Shared → Prop}
theorem caught_fly (C : Cal w p loose mg mb G d A l frs h0) (F : Fr G' L hc m) (N : News G' L hc ((183, tbO vs) :: frs')) (SU : SameUp frs frs') (hL : hc.get? L = some oL) (eG : G' = hideAll h0 (183 :: frs.map (·.1)))
    (fl : Fly (envOf name scope L a cd :: l) ((L, oL) :: frs') hc s'.heap e msg) (X : (K w.params).In G') (T : TopRead p loose mg mb G') (ex : nsIn (K w.params) mainGlobals x = some (some (.ref 107)))
    (k : ∀ h' vs' frs'' cs t tt oe ot ws tk, Fr G' L h' (fun y => if y = n then some (.ref e) else m y) → News G' L h' ((e, oe) :: (t, ot) :: (cs ++ (183, tbO vs') :: frs'')) → SameUp frs frs'' → (∀ h, G'.StaysIn h → News G' L h cs → TbV h vs') → oe.cls = .ref 107 → oe.data = .fields ws → ws[0]? = some (.ref t) → ot = tupO [.str msg tt] →
      wpAny (model pr w) ((A.deeper (envOf name scope L a cd)).mark (some (.ref e))) (execs (b₀ :: suite) (envOf name scope L a cd))
        (fun f s₄ => wpAny (model pr w) (A.deeper (envOf name scope L a cd)) (do bindName (envOf name scope L a cd) n .none; unbindBehindTheSuite (envOf name scope L a cd) n pos) (fun _ s₅ => Q f s₅) E s₄)
        (AsSuiteRaised (model pr w) ((A.deeper (envOf name scope L a cd)).mark (some (.ref e))) (envOf name scope L a cd) n pos (notedBy (model pr w) ((A.deeper (envOf name scope L a cd)).mark (some (.ref e))) (envOf name scope L a cd) (cameBackBy (model pr w) (A.deeper (envOf name scope L a cd)) (envOf name scope L a cd) E)))
        { s' with heap := h', toks := tk })
    (hk : scope.kind = .function := by rfl) (hlo : (envOf name scope L a cd).kindOf n = some .local := by rfl) (hx : (envOf name scope L a cd).kindOf x = some .globalImplicit := by rfl) (hd : (x == ("__debug__" : Str)) = false := by decide) :
    wpAny (model pr w) (A.deeper (envOf name scope L a cd)) (noteFrame (.ref e) (envOf name scope L a cd))
      (fun _ s₂ => wpAny (model pr w) (A.deeper (envOf name scope L a cd)) (setFlight (.ref e) none) (fun _ s₃ =>
        wpAny (model pr w) (A.deeper (envOf name scope L a cd)) (handleBy (.ref e) (envOf name scope L a cd) (.ExceptHandler (some (.Name x np)) (some n) (b₀ :: suite) pos :: rest)) Q E s₃) E s₂) E s' := by
  obtain ⟨B, t, tt, vs', b1, b2, b3, b4, b5, b6, b7, b8⟩ := fl
  have reg : (PySem.Challenge.rw_ij0148_01, K) = (PySem.Challenge.rw_ij0148_01, K) := by k_fill; rfl
  clear reg
  have hmap := (sameUp_mem SU).2
  have hGL : G'.get? L = none := Heap.get?_none_of_le F.above
  have hdict := frs_dict_up C.fs SU
  have hdict2 : ∀ q ∈ (L, oL) :: frs', ∃ es ep, q.2.data = .dict es ep := fun q hq => by
    rcases List.mem_cons.mp hq with rfl | hq
    · obtain ⟨oL', es, ep, hL', hLd, _⟩ := F.ns
      rw [hL] at hL'; cases hL'
      exact ⟨es, ep, hLd⟩
    · exact hdict q hq
  have GB : ∀ b o, G'.get? b = some o → B.get? b = some o := fun b o eb => by
    refine b1 b o (F.keep b o eb) (fun hm => ?_) (fun q => ?_)
    · rcases List.mem_cons.mp hm with q | hm
      · rw [q, hGL] at eb; cases eb
      · obtain ⟨r, hr, er⟩ := List.mem_map.mp hm
        rw [← er, (N r (List.mem_cons_of_mem _ hr)).2.2] at eb; cases eb
    · rw [q, (N (183, tbO vs) List.mem_cons_self).2.2] at eb; cases eb
  have hLB : B.get? L = none := by
    obtain ⟨_, ⟨L', _, hf, hn', _⟩, _⟩ := b5.2.2.1
    obtain rfl : L = L' := Option.some.inj hf
    exact hn'
  have frAt : ∀ h5 : Heap, B.StaysIn h5 → s'.heap.UpToSlots h5 → Fr G' L h5 m := fun h5 st up => by
    obtain ⟨oL', es, ep, hL', hLd, hLr⟩ := F.ns
    rw [hL] at hL'; cases hL'
    obtain ⟨sl, hs⟩ := b6 (L, oL) List.mem_cons_self
    obtain ⟨sl2, hs2⟩ := up L _ hs (fun vs' z => by simp only [hLd] at z; cases z)
    exact ⟨⟨_, es, ep, hs2, hLd, hLr⟩, fun b o eb => st b o (GB b o eb), F.above⟩
  refine wpAny_looks_onW (by show A.frames.map _ = _; rw [C.fr]; rfl) rfl b5 fun h₄ hheld₄ hsm₄ => ?_
  refine wpAny_landsW hheld₄ fun h₅ hheld hsm₅' => ?_
  have hsm₅ := hsm₄.trans hsm₅'
  have F₅ := frAt h₅ hheld.1 hsm₅
  obtain ⟨ob, hob, hobc⟩ := hheld.there
  refine wpAny_handleBy_cons (codeAny_handlers_test (name_K F₅ X T ex ?_ hk hx hd)) (by intro q; cases q)
  have O := own_of_in (x := x) (C := 107) (bmB := [.type "ValueError", .type "Exception", .type "BaseException", .type "object"]) (newId := "ValueError.__new__") X T ex (by k_exc)
  obtain ⟨bm, Nn, nm, qn, bs, hdct, sn, sub, ab, col, dd, k0, k1, k2, k3, k5, mN, hC, hN, hni, TL⟩ := (O.keeps F₅.keep).obj
  refine wpAny_excMatches_sub_self hC hob hobc (TL.hasType (by decide)) (codeAny_handlers_suite_as ?_)
  refine lands_againW hheld fun h₆ hfl₆ hsm₆ => ?_
  have F₆ := frAt h₆ hfl₆.1 (hsm₅.trans hsm₆)
  obtain ⟨oe, ws, hoe, hoec, hoed, hoe0⟩ := hfl₆.first
  have hot : h₆.get? t = some (tupO [.str msg tt]) := hfl₆.1 _ _ b4
  have key : ∀ fs : List (Addr × Obj), (∀ q ∈ fs, q ∈ frs') → ∃ fs', SameUp fs fs' ∧ ∀ q ∈ fs', h₆.get? q.1 = some q.2 := by
    intro fs
    induction fs with
    | nil => exact fun _ => ⟨[], trivial, fun q hq => nomatch hq⟩
    | cons r rs ih =>
      intro hs
      obtain ⟨fs', SU, ht⟩ := ih fun q hq => hs q (List.mem_cons_of_mem _ hq)
      have hr := hs r List.mem_cons_self
      obtain ⟨sl, e1⟩ := b6 r (List.mem_cons_of_mem _ hr)
      obtain ⟨es', ep', hqd⟩ := hdict r hr
      obtain ⟨sl2, e2⟩ := (hsm₅.trans hsm₆) r.1 _ e1 (fun vs' z => by simp only [hqd] at z; cases z)
      refine ⟨(r.1, { r.2 with slots := sl2 }) :: fs', ⟨rfl, ⟨sl2, rfl⟩, SU⟩, fun q hq => ?_⟩
      rcases List.mem_cons.mp hq with e' | hq
      · subst e'; exact e2
      · exact ht q hq
  obtain ⟨frs'', SU2, hfrs⟩ := key frs' fun q hq => hq
  have GN : ∀ b, B.get? b = none → G'.get? b = none := fun b hb => by
    cases q : G'.get? b with
    | none => rfl
    | some o => rw [GB b o q] at hb; cases hb
  have L183 : (183 : Addr) ≠ L := (N (183, tbO vs) List.mem_cons_self).2.1
  have he1 : e ≠ L := fun q => by
    have := hfl₆.2.2.1
    obtain ⟨_, ⟨L', o', hf, hn', ho', hnd⟩, _⟩ := this
    obtain rfl : L = L' := Option.some.inj hf
    rw [← q, hoe] at ho'
    cases ho'
    exact hnd _ hoed
  have ht1 : t ≠ L := fun q => by rw [q, hLB] at b4; cases b4
  have GC : ∀ b, hc.get? b = none → G'.get? b = none := fun b hb => by
    cases q : G'.get? b with
    | none => rfl
    | some o => rw [F.keep b o q] at hb; cases hb
  have N₆ : News G' L h₆ ((e, oe) :: (t, tupO [.str msg tt]) :: (183, tbO vs') :: frs'') := fun q hq => by
    rcases List.mem_cons.mp hq with rfl | hq
    · exact ⟨hoe, he1, GC e b7⟩
    · rcases List.mem_cons.mp hq with rfl | hq
      · exact ⟨hot, ht1, GC t b8⟩
      · rcases List.mem_cons.mp hq with rfl | hq
        · exact ⟨hfl₆.1 _ _ b2, L183, (N (183, tbO vs) List.mem_cons_self).2.2⟩
        · have hm : q.1 ∈ frs'.map (·.1) := by rw [← (sameUp_mem SU2).2]; exact List.mem_map_of_mem hq
          obtain ⟨r, hr, er⟩ := List.mem_map.mp hm
          have := (N r (List.mem_cons_of_mem _ hr)).2
          exact ⟨hfrs q hq, by rw [← er]; exact this.1, by rw [← er]; exact this.2⟩
  obtain ⟨cs, Nc, hcs⟩ : ∃ cs : List (Addr × Obj), News G' L h₆ cs ∧ ∀ h, G'.StaysIn h → News G' L h cs → TbV h vs' := by
    rcases b3 with e0 | ⟨c, o, fs, t5, e5, ho, hc5, hd5, ht5⟩
    · exact ⟨[], fun q hq => (nomatch hq), fun h _ _ => .inl e0⟩
    · cases q : G'.get? c with
      | some o' =>
        have := GB c o' q
        rw [ho] at this; cases this
        exact ⟨[], fun q hq => (nomatch hq), fun h st _ => .inr ⟨c, o, fs, t5, e5, st _ _ q, hc5, hd5, ht5⟩⟩
      | none =>
        refine ⟨[(c, o)], fun r hr => ?_, fun h _ Nh => .inr ⟨c, o, fs, t5, e5, (Nh _ List.mem_cons_self).1, hc5, hd5, ht5⟩⟩
        rw [List.mem_singleton.mp hr]
        refine ⟨hfl₆.1 _ _ ho, ?_, q⟩
        intro z
        have z' : c = L := z
        rw [z', hLB] at ho
        cases ho
  refine stN F₆ (news := (e, oe) :: (t, tupO [.str msg tt]) :: (cs ++ (183, tbO vs') :: frs'')) (fun q hq => ?_) (fun h₇ F₇ N₇ => ?_) hk hlo
  · rcases List.mem_cons.mp hq with rfl | hq
    · exact N₆ _ List.mem_cons_self
    · rcases List.mem_cons.mp hq with rfl | hq
      · exact N₆ _ (List.mem_cons_of_mem _ List.mem_cons_self)
      · rcases List.mem_append.mp hq with hq | hq
        · exact Nc q hq
        · exact N₆ q (List.mem_cons_of_mem _ (List.mem_cons_of_mem _ hq))
  · exact k h₇ vs' frs'' cs t tt oe _ ws _ F₇ N₇ (SameUp.trans SU SU2) hcs hoec hoed hoe0 rfl
end
/-- what _law_key gives -/
noncomputable def KeyOut (src : Str) (n : Nat) (m : Nat) (vs : List (List Nat)) (rest : List Nat) (h h' : Heap) (r : Value) : Prop :=
  (StopK rest ∧ NewKey m vs h h' r) ∨ ∃ hh b, rest = 46 :: (hh ++ b) ∧ (∀ c ∈ hh, wsC c = true) ∧ (b = [] ∨ ∃ r, b = 46 :: r) ∧ ∃ t, r = .str (errT src (m + 1 + hh.length) partMsg) t
set_option maxHeartbeats 4000000 in
theorem lawkey_ok {w : World} {p : Program} {loose : List Str} {mg mb : Str → Option Value} {G : Heap} {src : Str} {n : Nat} {wr val g t rest : List Nat} {vals : List (List Nat)} {t1 t2 : Tok}
    (hp : Part wr val) (hg : ∀ c ∈ g, wsC c = true) (ht : KTail t vals) (hrest : StopK rest ∨ BadK rest) (hsrc : src.cps.toList.drop n = wr ++ (g ++ (t ++ rest))) (hlen : src.cps.size ≤ 1000) :
    OkT w p loose mg mb G 9 216 [.str src t1, .int n t2] (KeyOut src n (n + wr.length + g.length + t.length) (val :: vals) rest) := by
  intro A l frs s Q E C hret
  have reg : (PySem.Challenge.rw_ij0148_01, K) = (PySem.Challenge.rw_ij0148_01, K) := by k_fill; rfl
  clear reg
  refine wpAny_call ?_
  k_dflt (refine' enter (d := 8) C ?ho ?hcd ?hb ?hl ?_ ?c2 ?c3 ?c4 ?c5; (case ho => k_is); (case hcd => k_is); (case hb => exact BindsTo.of_eq rfl); (case c5 => decide); (case hl => exact locs rfl); (case c2 => exact rfl); (case c3 => exact rfl); (case c4 => exact rfl))
  intro G' h₁ vs hv F N st eG X T hs1 tb0
  replace F : Fr G' s.heap.objs.size h₁ (bd [(Str.ofString "place", .int n t2), (Str.ofString "text", .str src t1)]) := F
  have hA1 : (A.deeper (envOf (Str.ofString "_law_key") scp_37 s.heap.objs.size 216 (.ref 215))).handled = none := C.hd
  have key : ∀ (Qf : Flow → Shared → Prop) (E1 : Value → Shared → Prop), Thru w (A.deeper (envOf (Str.ofString "_law_key") scp_37 s.heap.objs.size 216 (.ref 215))) (envOf (Str.ofString "_law_key") scp_37 s.heap.objs.size 216 (.ref 215)) E1 →
      (StopK rest → ∀ h' tk' m' frs' a b t4 xs, Fr G' s.heap.objs.size h' m' → News G' s.heap.objs.size h' ((a, tupO [.int (n + wr.length + g.length + t.length : Nat) t4, .ref b]) :: (b, tupO xs) :: (183, tbO vs) :: frs') → SameUp frs frs' → StrVals xs (val :: vals) → Qf (.ret (.ref a)) { s with heap := h', toks := tk' }) →
      (∀ hh b, rest = 46 :: (hh ++ b) → (∀ c ∈ hh, wsC c = true) → (b = [] ∨ ∃ r, b = 46 :: r) → ∀ h' tk' m' frs' vs' t5, Fr G' s.heap.objs.size h' m' → News G' s.heap.objs.size h' ((183, tbO vs') :: frs') → SameUp frs frs' → TbV h' vs' → Qf (.ret (.str (errT src (n + wr.length + g.length + t.length + 1 + hh.length) partMsg) t5)) { s with heap := h', toks := tk' }) →
      ∀ tk, wpAny (model pr w) (A.deeper (envOf (Str.ofString "_law_key") scp_37 s.heap.objs.size 216 (.ref 215))) (execs bod_37 (envOf (Str.ofString "_law_key") scp_37 s.heap.objs.size 216 (.ref 215))) Qf E1 { s with heap := h₁, toks := tk } := by
    intro Qf E1 hTh hQ hQ2 tk
    have hPO := hTh.po
    have hPA := hTh.at_
    obtain ⟨oL, hL, C'⟩ := cal_in (new := []) (qual := Str.ofString "_law_key") (scope := scp_37) (a := 216) (cdv := .ref 215) C F N (SameUp.refl _) C.fs st hv rfl
    k_steps
    refine key_any (n := n) (s := ⟨h₁, s.gens, s.drawn, tk, s.os⟩) hp hg ht hrest hsrc hlen _ _ _ _ _ C' (fun hst r h' tk' kp e183 nk => ?_) (fun hh b e1 e2 e3 e h' tk' fl => ?_)
    · obtain ⟨a, b, t4, xs, rfl, ha, hb, ha2, hb2, hxs⟩ := nk
      obtain ⟨frs'', SU, F', N'⟩ := fr_backO (new := []) F N hL (frs_dict C.fs) (fun q hq => nomatch hq) hv kp e183
      exact hQ hst _ _ _ frs'' a b t4 xs F' (new_in F (new_in F N' hb hb2) ha ha2) SU hxs
    · refine caught_fly (s' := ⟨h', s.gens, s.drawn, tk', s.os⟩) C F N (SameUp.refl _) hL eG fl X T (by k_is) ?_
      intro h2 vs' frs'' cs t5 tt oe ot ws tk2 F2 N2 SU2 tb2 c1 c2 c3 c4
      subst c4
      k_steps
      refine str_of_my (X.keeps F2.keep) ?_ (N2 _ List.mem_cons_self).1 c1 c2 c3 ⟨_, 0, (N2 _ (List.mem_cons_of_mem _ List.mem_cons_self)).1, rfl, rfl⟩ ?_
      · have := C.un
        show A.units + 3 + 2 < _
        omega
      k_steps
      refine name_goes F2 N2 (fun h3 m3 F3 N3 => ?_)
      have Nr := news_sub N3 (l' := (183, tbO vs') :: frs'') fun q hq => List.mem_cons_of_mem _ (List.mem_cons_of_mem _ (List.mem_append_right _ hq))
      have Ncs := news_sub N3 (l' := cs) fun q hq => List.mem_cons_of_mem _ (List.mem_cons_of_mem _ (List.mem_append_left _ hq))
      exact hQ2 hh b e1 e2 e3 h3 _ _ frs'' vs' tt F3 Nr SU2 (tb2 h3 F3.keep Ncs)
  refine wpAny_mono (key _ _ Thru.leaving (fun hst h' tk' m' frs' a b t4 xs F' N' SU hxs => ?_) (fun hh b e1 e2 e3 h' tk' m' frs' vs' t5 F' N' SU htb => ?_) _) (fun _ _ x => x) (fun _ _ x => x)
  · have hnd : ∀ q ∈ [(a, tupO [Value.int (n + wr.length + g.length + t.length : Nat) t4, Value.ref b]), (b, tupO xs)], nd q.2 = true := fun q hq => by
      simp only [List.mem_cons, List.not_mem_nil, or_false] at hq
      rcases hq with rfl | rfl <;> rfl
    exact hret _ _ _ (kp_of (new := [_, _]) F' N' SU eG C.there) ⟨vs, (N' (183, tbO vs) (by simp)).1, hv.stays F'.keep⟩ (.inl ⟨hst, a, b, t4, xs, rfl, new_none (new := [_, _]) C N' SU hnd eG List.mem_cons_self, new_none (new := [_, _]) C N' SU hnd eG (List.mem_cons_of_mem _ List.mem_cons_self), (N' _ List.mem_cons_self).1, (N' _ (List.mem_cons_of_mem _ List.mem_cons_self)).1, hxs⟩)
  · exact hret _ _ _ (kp_of (new := []) F' N' SU eG C.there) ⟨vs', (N' _ List.mem_cons_self).1, htb⟩ (.inr ⟨hh, b, e1, e2, e3, t5, rfl⟩)
section
open PySem.StrLaws PySem.Builtin.Str
theorem places_len (c : Nat) : ∀ (l : List Nat) (i : Nat), (places c l i).length ≤ l.length := by
  intro l
  induction l with
  | nil => intro i; simp [places]
  | cons x l ih => intro i; simp only [places]; split <;> simp <;> have := ih (i + 1) <;> omega
theorem kind_pos (x : Str) : 1 ≤ PySem.Builtin.Str.strKind x := by
  unfold PySem.Builtin.Str.strKind
  split
  · exact Nat.le_refl _
  · split <;> omega
noncomputable def nl1 : Str := ⟨#[10]⟩
/-- the pieces of a text between line feeds: how many, and how long the last is -/
theorem split_nl (x : Str) : (Txt.split x nl1).length = (places 10 x.cps.toList 0).length + 1 ∧
    ∃ z, (Txt.split x nl1).getLast? = some z ∧ z.length = (match (places 10 x.cps.toList 0).getLast? with | none => x.length | some k => x.length - (k + 1)) := by
  have hocc : occurrences x nl1 0 x.length (x.length + 1) = places 10 x.cps.toList 0 := by
    rw [show nl1 = ⟨#[10]⟩ from rfl, occ_one (hi := x.length) (Nat.le_refl _) (Nat.zero_le _)]
    simp only [List.drop_zero]
    have h1 : x.cps.toList.take x.length = x.cps.toList := List.take_of_length_le (by unfold Str.length; simp)
    rw [h1, List.take_of_length_le]
    have := places_len 10 x.cps.toList 0
    unfold Str.length
    simp at this; omega
  unfold Txt.split
  rw [hocc]
  split
  · rename_i h
    simp only [Bool.or_eq_true, decide_eq_true_eq] at h
    have hk : PySem.Builtin.Str.strKind nl1 = 1 := by decide +kernel
    have hk2 := kind_pos x
    have hx : x.cps.toList = [] := by
      rcases h with h | h
      · have h' : x.cps.size < 1 := h
        have e1 : nl1.length = 1 := rfl
        have h3 : x.cps.toList.length = 0 := by rw [Array.length_toList]; omega
        exact List.eq_nil_of_length_eq_zero h3
      · exfalso
        have h'' : PySem.Builtin.Str.strKind x < PySem.Builtin.Str.strKind nl1 := h
        rw [hk] at h''
        omega
    rw [hx]
    refine ⟨rfl, x, rfl, rfl⟩
  · split
    · rename_i h
      have hn : places 10 x.cps.toList 0 = [] := List.isEmpty_iff.mp h
      rw [hn]
      exact ⟨rfl, x, rfl, rfl⟩
    · rename_i h
      refine ⟨length_partsBetween _ _ _, ?_⟩
      obtain ⟨k, hk⟩ : ∃ k, (places 10 x.cps.toList 0).getLast? = some k := by
        cases h2 : (places 10 x.cps.toList 0).getLast? with
        | none => rw [List.getLast?_eq_none_iff] at h2; rw [h2] at h; simp at h
        | some k => exact ⟨k, rfl⟩
      have hkl := places_lt (List.mem_of_getLast? hk)
      refine ⟨strSub x (k + 1) x.length, ?_, ?_⟩
      · unfold partsBetween
        simp only
        rw [List.getLast?_map]
        obtain ⟨cs, hcs⟩ : ∃ cs, places 10 x.cps.toList 0 = cs ++ [k] := by
          have := List.getLast?_eq_some_iff.mp hk
          exact this
        have e : (0 :: (places 10 x.cps.toList 0).map (· + nl1.length)).zip (places 10 x.cps.toList 0 ++ [x.length]) = (0 :: cs.map (· + nl1.length)).zip (places 10 x.cps.toList 0) ++ [(k + 1, x.length)] := by
          rw [hcs]
          simp only [List.map_append, List.map_cons, List.map_nil]
          rw [show (0 :: (List.map (fun x => x + nl1.length) cs ++ [k + nl1.length])) = (0 :: List.map (fun x => x + nl1.length) cs) ++ [k + nl1.length] from rfl]
          rw [List.zip_append (by simp)]
          rfl
        rw [e, List.getLast?_append]
        simp
      · rw [hk]
        show (x.cps.extract (k + 1) x.length).size = _
        simp [Str.length]
section
variable {prog : Program} {w : World} {A : Around} {E : Value → Shared → Prop} {s : Shared} {h₀ : Heap} {L : Addr} {m : Str → Option Value} {news : List (Addr × Obj)} {x : Str} {t u : Tok} {Q : Value → Shared → Prop}
noncomputable abbrev lstO (vs : List Value) : Obj := ⟨.type "list", none, .seq vs.toArray 0, #[]⟩
/-- split at line feeds -/
theorem call_split_nl (hF : Fr h₀ L s.heap m) (hN : News h₀ L s.heap news) (hx : x.length ≤ 10000) {k c : Nat} (hk : (places 10 x.cps.toList 0).length + 1 = k) (hc : (match (places 10 x.cps.toList 0).getLast? with | none => x.length | some k => x.length - (k + 1)) = c)
    (h : ∀ D vs z tz h' tk, vs.length = k → vs.getLast? = some (.str z tz) → z.length = c → Fr h₀ L h' m → News h₀ L h' ((D, lstO vs) :: news) → Q (.ref D) { s with heap := h', toks := tk }) :
    wpAny (model prog w) A (call (.builtin "str.split") [.str x t, .str (Str.ofString "\n") u]) Q E s := by
  refine splitN1 (y := nl1) hF hN rfl (fun l h' tk hl F' N' => ?_) (by unfold sizeLine; omega)
  obtain ⟨h1, z, h2, h3⟩ := split_nl x
  rw [← hl] at h1 h2
  rw [List.getLast?_map] at h2
  obtain ⟨p, hp, rfl⟩ := Option.map_eq_some_iff.mp h2
  refine h _ (strValues l) p.1 p.2 h' tk ?_ ?_ (h3.trans hc) F' N'
  · rw [List.length_map] at h1
    show (l.map _).length = k
    rw [List.length_map, h1, hk]
  · show (l.map _).getLast? = _
    rw [List.getLast?_map, hp]; rfl
theorem item_last {value slice : PySem.Expr} {D : Addr} {vs : List Value} {v : Value} (hD : s.heap.get? D = some (lstO vs)) (hv : vs.getLast? = some v) (hq : Q v s)
    (hs : subscripted slice false (.ref D) (.int (-1) u) = operate [.ref D, .int (-1) u] (getItem (.ref D) (.int (-1) u)) := by with_unfolding_all rfl) (hg : ∀ r, letTemporaryGo value (.ref D) r = pure () := by intro _; with_unfolding_all rfl) :
    wpAny (model prog w) A (subscriptTail value slice (.ref D) (.int (-1) u)) Q E s := by
  have hl : s.heap.IsList D vs.toArray := ⟨_, hD, rfl, 0, rfl⟩
  have hne : 0 < vs.length := List.length_pos_iff.mpr (fun e => by rw [e] at hv; cases hv)
  refine subscriptTail_builtin hl.typeIs slot_list_getitem.lookup (wpAny_getItem_list_neg hl (by decide) (by simp; omega) (by decide) ?_ hq) hs hg
  rw [show (-1 + (vs.toArray.size : Int)).toNat = vs.length - 1 by simp; omega]
  rw [List.getLast?_eq_getElem?] at hv
  simpa using hv
theorem len_lstO {D : Addr} {vs : List Value} {n : Nat} (ht : s.heap.get? D = some (lstO vs)) (hn : vs.length = n) (hb : n ≤ 10000) (h : Q (.int (n : Int) (s.toks + 1)) { s with toks := s.toks + 1 + 1 }) :
    wpAny (model prog w) A (call (.builtin "len") [.ref D]) Q E s := by
  refine len_list (items := vs.toArray) ⟨_, ht, rfl, 0, rfl⟩ (by simp; omega) ?_
  simpa [hn] using h
end
end
/-- how the law tells a place -/
noncomputable def atT (src : Str) (n : Nat) : Str := if src.cps.size ≤ n then Str.ofString "(at end of document)" else
  Str.ofString "(at line " ++ Str.ofString (toString ((lineOf src n : Nat) : Int)) ++ Str.ofString ", column " ++ Str.ofString (toString ((colOf src n : Nat) : Int)) ++ Str.ofString ")"
theorem slice_to {x : Str} {n : Nat} (hn : n ≤ x.cps.size) : Txt.slice x none (some (n : Int)) = ⟨(x.cps.toList.take n).toArray⟩ := by
  have h1 : Txt.slice x none (some (n : Int)) = StrLaws.sliceText x none (some (n : Int)) := rfl
  rw [h1, StrLaws.sliceText_to ⟨by omega, by simp; omega⟩]
  simp
section
variable {prog : Program} {w : World} {A : Around} {E : Value → Shared → Prop} {s : Shared} {Q : Value → Shared → Prop} {a : Int} {t : Tok}
theorem str_small (h0 : 0 ≤ a) (h1 : a ≤ 10000) (h : Q (.str (Str.ofString (toString a)) s.toks) { s with toks := s.toks + 1 }) : wpAny (model prog w) A (call (.type "str") [.int a t]) Q E s :=
  str_of_int_fit (N := 10001) (by split <;> omega) (by decide) fun _ => h
end
local macro_rules | `(tactic| walk_at "call type:str") => `(tactic| (k_here; (refine str_small (by omega) (by omega) ?_)))
local macro_rules | `(tactic| walk_at "call builtin:str.split") => `(tactic| (k_here; (refine call_split_nl (by k_asm) (by k_asm) (by assumption) (by assumption) (by assumption) ?_); intro _ _ _ _ _ _ _ _ _ _ _))
local macro_rules | `(tactic| walk_at "subscriptTail Name UnaryOp ref int") => `(tactic| (k_here; (refine item_last (News.get (by k_asm) List.mem_cons_self) (by assumption) ?_)))
local macro_rules | `(tactic| walk_at "call builtin:len") => `(tactic| (k_here; (with_reducible show wpAny _ _ (call (Value.builtin "len") [Value.ref _]) _ _ _); (refine len_lstO (News.get (by k_asm) List.mem_cons_self) (by assumption) (by omega) ?_)))
set_option maxHeartbeats 4000000 in
theorem at_ok {w : World} {p : Program} {loose : List Str} {mg mb : Str → Option Value} {G : Heap} {src : Str} {n : Nat} {t1 t2 : Tok} (hlen : src.cps.size ≤ 1000) :
    Ok w p loose mg mb G 1 209 [.str src t1, .int n t2] (fun h h' r => ∃ t, r = .str (atT src n) t) := by
  intro A l frs s Q E C hret
  have reg : (PySem.Challenge.rw_ij0148_01, K) = (PySem.Challenge.rw_ij0148_01, K) := by k_fill; rfl
  clear reg
  refine wpAny_call ?_
  k_dflt (refine' enter (d := 0) C ?ho ?hcd ?hb ?hl ?_ ?c2 ?c3 ?c4 ?c5; (case ho => k_is); (case hcd => k_is); (case hb => exact BindsTo.of_eq rfl); (case c5 => decide); (case hl => exact locs rfl); (case c2 => exact rfl); (case c3 => exact rfl); (case c4 => exact rfl))
  intro G' h₁ vs hv F N st eG X T hs1 tb0
  replace F : Fr G' s.heap.objs.size h₁ (bd [(Str.ofString "place", .int n t2), (Str.ofString "text", .str src t1)]) := F
  have hsz : src.length ≤ 10000 := by unfold Str.length; omega
  have key : ∀ (Qf : Flow → Shared → Prop) (E1 : Value → Shared → Prop), Thru w (A.deeper (envOf (Str.ofString "_law_at") scp_36 s.heap.objs.size 209 (.ref 208))) (envOf (Str.ofString "_law_at") scp_36 s.heap.objs.size 209 (.ref 208)) E1 →
      (∀ h' tk' m' frs' new t, Fr G' s.heap.objs.size h' m' → News G' s.heap.objs.size h' (new ++ (183, tbO vs) :: frs') → SameUp frs frs' → (∀ q ∈ new, nd q.2 = true) → Qf (.ret (.str (atT src n) t)) { s with heap := h', toks := tk' }) →
      ∀ tk, wpAny (model pr w) (A.deeper (envOf (Str.ofString "_law_at") scp_36 s.heap.objs.size 209 (.ref 208))) (execs bod_36 (envOf (Str.ofString "_law_at") scp_36 s.heap.objs.size 209 (.ref 208))) Qf E1 { s with heap := h₁, toks := tk } := by
    intro Qf E1 hTh hQ tk
    have hPO := hTh.po
    have hPA := hTh.at_
    rcases Nat.lt_or_ge n src.cps.size with hlt | hge
    · have hlt2 : ¬ ((src.length : Int) ≤ (n : Int)) := by unfold Str.length; omega
      have hsl := slice_to (x := src) (n := n) (by omega)
      have hxl : (Txt.slice src none (some (n : Int))).length ≤ 10000 := by rw [hsl]; unfold Str.length; simp; omega
      obtain ⟨c, hcc⟩ : ∃ c, colOf src n = c + 1 ∧ (match (places 10 (Txt.slice src none (some (n : Int))).cps.toList 0).getLast? with | none => (Txt.slice src none (some (n : Int))).length | some k => (Txt.slice src none (some (n : Int))).length - (k + 1)) = c := by
        rw [hsl]
        show ∃ c, colOf src n = c + 1 ∧ (match (nls src n).getLast? with | none => (src.cps.toList.take n).toArray.size | some k => (src.cps.toList.take n).toArray.size - (k + 1)) = c
        have e1 : (src.cps.toList.take n).toArray.size = n := by simp; omega
        rw [e1]
        unfold colOf
        cases hgl : (nls src n).getLast? with
        | none => exact ⟨n, rfl, rfl⟩
        | some k =>
          have hk := places_lt (List.mem_of_getLast? hgl)
          have hkn : k < n := by have := hk.2; simp at this; omega
          exact ⟨n - (k + 1), by simp only; omega, rfl⟩
      obtain ⟨hcol, hc⟩ := hcc
      have hk : (places 10 (Txt.slice src none (some (n : Int))).cps.toList 0).length + 1 = lineOf src n := by rw [hsl]; rfl
      have hl1 : lineOf src n ≤ 1001 := by
        have := nls_len src n
        unfold lineOf; omega
      have hc1 : c ≤ 1000 := by
        have : colOf src n ≤ n + 1 := by unfold colOf; split <;> omega
        omega
      have hT : atT src n = Str.ofString "(at line " ++ Str.ofString (toString ((lineOf src n : Nat) : Int)) ++ Str.ofString ", column " ++ Str.ofString (toString ((c : Int) + 1)) ++ Str.ofString ")" := by
        unfold atT
        rw [if_neg (by omega), hcol]; rfl
      have hn1 := num_len (lineOf src n) (by omega)
      have hn2 : (Str.ofString (toString ((c : Int) + 1))).length ≤ 10 := num_len (c + 1) (by omega)
      rw [hT] at hQ
      k_steps
      rename (Str.length _ = c) => ezc
      rw [← ezc] at hQ
      exact hQ _ _ _ _ [_] _ (by assumption) (by assumption) (SameUp.refl _) (fun q hq => by rw [List.mem_singleton.mp hq]; rfl)
    · have hT : atT src n = Str.ofString "(at end of document)" := by unfold atT; rw [if_pos hge]
      have hlt2 : ((src.length : Int) ≤ (n : Int)) := by unfold Str.length; omega
      rw [hT] at hQ
      k_steps
      all_goals first | exact hQ _ _ _ _ [] _ (by assumption) (by assumption) (SameUp.refl _) (fun q hq => nomatch hq) | (exfalso; omega)
  refine wpAny_mono (key _ _ Thru.leaving (fun h' tk' m' frs' new t F' N' SU _ => ?_) _) (fun _ _ x => x) (fun _ _ x => x)
  exact hret _ _ _ (kp_of (new := new) F' N' SU eG C.there) ((N' (183, tbO vs) (by simp)).1.trans tb0.symm) ⟨t, rfl⟩
noncomputable def wantT (src : Str) (n : Nat) : Str := Str.ofString "Invalid initial character for a key part " ++ atT src n
theorem str_assoc (x y z : Str) : x ++ y ++ z = x ++ (y ++ z) := by
  show Str.mk (x.cps ++ y.cps ++ z.cps) = Str.mk (x.cps ++ (y.cps ++ z.cps))
  rw [Array.append_assoc]
theorem err_want (src : Str) (n : Nat) : errT src n partMsg = wantT src n := by
  unfold errT wantT coordT atT
  split
  · decide +kernel
  · have e1 : Str.empty ++ partMsg ++ Str.ofString " (at " ++ (Str.empty ++ Str.ofString "line ") = Str.ofString "Invalid initial character for a key part " ++ Str.ofString "(at line " := by decide +kernel
    generalize Str.ofString (toString ((lineOf src n : Nat) : Int)) = a
    generalize Str.ofString (toString ((colOf src n : Nat) : Int)) = b
    rw [← str_assoc, ← str_assoc, ← str_assoc, ← str_assoc, ← str_assoc, ← str_assoc, ← str_assoc]
    rw [← str_assoc] at e1
    rw [e1]
    simp only [str_assoc]
theorem at_len {src : Str} {n : Nat} (hlen : src.cps.size ≤ 1000) : (atT src n).length ≤ 1000 := by
  unfold atT
  split
  · decide
  · rename_i h
    have h1 := num_len (lineOf src n) (by have := nls_len src n; unfold lineOf; omega)
    have h2 := num_len (colOf src n) (by unfold colOf; split <;> omega)
    simp only [app_len]
    have e2 : (Str.ofString "(at line ").length = 9 := by decide
    have e3 : (Str.ofString ", column ").length = 9 := by decide
    have e4 : (Str.ofString ")").length = 1 := by decide
    omega
set_option maxHeartbeats 4000000 in
theorem want_ok {w : World} {p : Program} {loose : List Str} {mg mb : Str → Option Value} {G : Heap} {src : Str} {n : Nat} {t1 t2 : Tok} (hlen : src.cps.size ≤ 1000) :
    Ok w p loose mg mb G 2 223 [.str src t1, .int n t2] (fun h h' r => ∃ t, r = .str (wantT src n) t) := by
  intro A l frs s Q E C hret
  have reg : (PySem.Challenge.rw_ij0148_01, K) = (PySem.Challenge.rw_ij0148_01, K) := by k_fill; rfl
  clear reg
  refine wpAny_call ?_
  k_dflt (refine' enter (d := 1) C ?ho ?hcd ?hb ?hl ?_ ?c2 ?c3 ?c4 ?c5; (case ho => k_is); (case hcd => k_is); (case hb => exact BindsTo.of_eq rfl); (case c5 => decide); (case hl => exact locs rfl); (case c2 => exact rfl); (case c3 => exact rfl); (case c4 => exact rfl))
  intro G' h₁ vs hv F N st eG X T hs1 tb0
  replace F : Fr G' s.heap.objs.size h₁ (bd [(Str.ofString "place", .int n t2), (Str.ofString "text", .str src t1)]) := F
  have hal := at_len (n := n) hlen
  have key : ∀ (Qf : Flow → Shared → Prop) (E1 : Value → Shared → Prop), Thru w (A.deeper (envOf (Str.ofString "_law_wanting") scp_38 s.heap.objs.size 223 (.ref 222))) (envOf (Str.ofString "_law_wanting") scp_38 s.heap.objs.size 223 (.ref 222)) E1 →
      (∀ h' tk' m' frs' t, Fr G' s.heap.objs.size h' m' → News G' s.heap.objs.size h' ((183, tbO vs) :: frs') → SameUp frs frs' → Qf (.ret (.str (wantT src n) t)) { s with heap := h', toks := tk' }) →
      ∀ tk, wpAny (model pr w) (A.deeper (envOf (Str.ofString "_law_wanting") scp_38 s.heap.objs.size 223 (.ref 222))) (execs bod_38 (envOf (Str.ofString "_law_wanting") scp_38 s.heap.objs.size 223 (.ref 222))) Qf E1 { s with heap := h₁, toks := tk } := by
    intro Qf E1 hTh hQ tk
    have hPO := hTh.po
    have hPA := hTh.at_
    k_steps
    refine use_ok [] (at_ok hlen) C (by k_asm) (by k_asm) (SameUp.refl _) st (fun q hq => nomatch hq) hv rfl ?_
    rintro r h' tk' frs'' SU' F' N' ⟨t, rfl⟩
    k_steps
    exact hQ _ _ _ _ _ (by assumption) (by assumption) SU'
  refine wpAny_mono (key _ _ Thru.leaving (fun h' tk' m' frs' t F' N' SU => ?_) _) (fun _ _ x => x) (fun _ _ x => x)
  exact hret _ _ _ (kp_of (new := []) F' N' SU eG C.there) ((N' _ List.mem_cons_self).1.trans tb0.symm) ⟨t, rfl⟩
noncomputable def formTab : List (String × List String) :=
  [("a", ["a", "'a'", "\"a\"", "\"\\u0061\""]), ("", ["''", "\"\"", "''", "\"\""]), ("it's", ["\"it's\"", "\"it\\u0027s\"", "\"\\u0069t's\"", "\"it'\\U00000073\""]),
   ("q\"", ["'q\"'", "\"q\\\"\"", "\"q\\u0022\"", "\"\\u0071\\\"\""]), (".", ["'.'", "\".\"", "\"\\u002e\"", "\"\\u002E\""]), ("b-1", ["b-1", "'b-1'", "\"b-1\"", "\"b\\u002d1\""]),
   ("\n", ["\"\\n\"", "\"\\u000a\"", "\"\\u000A\"", "\"\\U0000000a\""]), ("=# ", ["'=# '", "\"=# \"", "\"=\\u0023 \"", "\"=#\\u0020\""]), ("\\", ["'\\'", "\"\\\\\"", "\"\\u005c\"", "\"\\u005C\""]),
   ("é", ["'é'", "\"é\"", "\"\\u00e9\"", "\"\\U000000E9\""])]
noncomputable def nmS (i : Nat) : String := (formTab.getD i ("", [])).1
noncomputable def wyS (i : Nat) : List String := (formTab.getD i ("", [])).2
theorem news3 {h₀ h : Heap} {L : Addr} {l rest : List (Addr × Obj)} {a b c : Addr × Obj} (N : News h₀ L h l) (ha : a ∈ l) (hb : b ∈ l) (hc : c ∈ l) (hr : ∀ q ∈ rest, q ∈ l) : News h₀ L h (a :: b :: c :: rest) := fun q hq => by
  rcases List.mem_cons.mp hq with rfl | hq
  · exact N _ ha
  · rcases List.mem_cons.mp hq with rfl | hq
    · exact N _ hb
    · rcases List.mem_cons.mp hq with rfl | hq
      · exact N _ hc
      · exact N _ (hr q hq)
theorem led_of {h₀ h : Heap} {L : Addr} {l : List (Addr × Obj)} (N : News h₀ L h l) : ∃ led, News h₀ L h led ∧ (∀ j : Nat, led[j]? = l[j]?) ∧ ∀ j : Nat, led.drop j = l.drop j := ⟨l, N, fun _ => rfl, fun _ => rfl⟩
structure Box (P : Prop) : Prop where
  out : P
theorem below10 : ∀ {i : Nat}, i < 10 → i = 0 ∨ i = 1 ∨ i = 2 ∨ i = 3 ∨ i = 4 ∨ i = 5 ∨ i = 6 ∨ i = 7 ∨ i = 8 ∨ i = 9 := fun {i} h => by
  have := h
  revert i
  decide
/-- the table of names and ways, at one place -/
noncomputable def NewForms (i : Nat) (h h' : Heap) (r : Value) : Prop :=
  ∃ a b c t items xs, r = .ref a ∧ h.get? a = none ∧ h.get? b = none ∧ h.get? c = none ∧ h'.get? a = some (tupO items) ∧ items.length = 10 ∧ items[i]? = some (.ref b) ∧ h'.get? b = some (tupO [.str (Str.ofString (nmS i)) t, .ref c]) ∧
    h'.get? c = some (tupO xs) ∧ StrsAre xs ((wyS i).map Str.ofString)
set_option maxHeartbeats 400000 in
theorem forms_key {w : World} {p : Program} {loose : List Str} {mg mb : Str → Option Value} {G : Heap} {d i : Nat} {A : Around} {l : List Env} {frs : List (Addr × Obj)} {s : Shared} {h0 G' h₁ : Heap} {L : Addr} {vs : Array Value} (hi : i < 10) (C : Cal w p loose mg mb G d A l frs h0)
    (F : Fr G' L h₁ (bd [])) (N : News G' L h₁ ((183, tbO vs) :: frs)) (X : (K w.params).In G') (T : TopRead p loose mg mb G') (Qf : Flow → Shared → Prop) (E1 : Value → Shared → Prop)
    (hTh : Thru w (A.deeper (envOf (Str.ofString "_law_forms") scp_35 L 202 (.ref 201))) (envOf (Str.ofString "_law_forms") scp_35 L 202 (.ref 201)) E1)
    (hQ : ∀ h' tk' m' a b c t items xs, Fr G' L h' m' → News G' L h' ((a, tupO items) :: (b, tupO [.str (Str.ofString (nmS i)) t, .ref c]) :: (c, tupO xs) :: (183, tbO vs) :: frs) → items.length = 10 → items[i]? = some (.ref b) → StrsAre xs ((wyS i).map Str.ofString) → Qf (.ret (.ref a)) { s with heap := h', toks := tk' })
    (tk : Nat) : wpAny (model pr w) (A.deeper (envOf (Str.ofString "_law_forms") scp_35 L 202 (.ref 201))) (execs bod_35 (envOf (Str.ofString "_law_forms") scp_35 L 202 (.ref 201))) Qf E1 { s with heap := h₁, toks := tk } := by
  have reg : (PySem.Challenge.rw_ij0148_01, K) = (PySem.Challenge.rw_ij0148_01, K) := by k_fill; rfl
  clear reg
  have hPO := hTh.po
  have hPA := hTh.at_
  k_steps
  rename Fr _ _ _ _ => F9
  rename News _ _ _ _ => N9
  obtain ⟨led, N9, hj, hd⟩ := led_of N9
  have tl : ∀ q, q ∈ (183, tbO vs) :: frs → q ∈ led := fun q hq => List.mem_of_mem_drop (i := 21) (by rw [hd 21]; exact hq)
  rcases below10 hi with rfl | rfl | rfl | rfl | rfl | rfl | rfl | rfl | rfl | rfl
  · rw [show nmS 0 = "a" from rfl, show (wyS 0).map Str.ofString = [Str.ofString "a", Str.ofString "'a'", Str.ofString "\"a\"", Str.ofString "\"\\u0061\""] from rfl] at hQ
    exact hQ _ _ _ _ _ _ _ _ _ F9 (news3 N9 (List.mem_of_getElem? (i := 0) (hj 0)) (List.mem_of_getElem? (i := 19) (hj 19)) (List.mem_of_getElem? (i := 20) (hj 20)) tl) rfl rfl (.cons _ _ (.cons _ _ (.cons _ _ (.cons _ _ .nil))))
  · rw [show nmS 1 = "" from rfl, show (wyS 1).map Str.ofString = [Str.ofString "''", Str.ofString "\"\"", Str.ofString "''", Str.ofString "\"\""] from rfl] at hQ
    exact hQ _ _ _ _ _ _ _ _ _ F9 (news3 N9 (List.mem_of_getElem? (i := 0) (hj 0)) (List.mem_of_getElem? (i := 17) (hj 17)) (List.mem_of_getElem? (i := 18) (hj 18)) tl) rfl rfl (.cons _ _ (.cons _ _ (.cons _ _ (.cons _ _ .nil))))
  · rw [show nmS 2 = "it's" from rfl, show (wyS 2).map Str.ofString = [Str.ofString "\"it's\"", Str.ofString "\"it\\u0027s\"", Str.ofString "\"\\u0069t's\"", Str.ofString "\"it'\\U00000073\""] from rfl] at hQ
    exact hQ _ _ _ _ _ _ _ _ _ F9 (news3 N9 (List.mem_of_getElem? (i := 0) (hj 0)) (List.mem_of_getElem? (i := 15) (hj 15)) (List.mem_of_getElem? (i := 16) (hj 16)) tl) rfl rfl (.cons _ _ (.cons _ _ (.cons _ _ (.cons _ _ .nil))))
  · rw [show nmS 3 = "q\"" from rfl, show (wyS 3).map Str.ofString = [Str.ofString "'q\"'", Str.ofString "\"q\\\"\"", Str.ofString "\"q\\u0022\"", Str.ofString "\"\\u0071\\\"\""] from rfl] at hQ
    exact hQ _ _ _ _ _ _ _ _ _ F9 (news3 N9 (List.mem_of_getElem? (i := 0) (hj 0)) (List.mem_of_getElem? (i := 13) (hj 13)) (List.mem_of_getElem? (i := 14) (hj 14)) tl) rfl rfl (.cons _ _ (.cons _ _ (.cons _ _ (.cons _ _ .nil))))
  · rw [show nmS 4 = "." from rfl, show (wyS 4).map Str.ofString = [Str.ofString "'.'", Str.ofString "\".\"", Str.ofString "\"\\u002e\"", Str.ofString "\"\\u002E\""] from rfl] at hQ
    exact hQ _ _ _ _ _ _ _ _ _ F9 (news3 N9 (List.mem_of_getElem? (i := 0) (hj 0)) (List.mem_of_getElem? (i := 11) (hj 11)) (List.mem_of_getElem? (i := 12) (hj 12)) tl) rfl rfl (.cons _ _ (.cons _ _ (.cons _ _ (.cons _ _ .nil))))
  · rw [show nmS 5 = "b-1" from rfl, show (wyS 5).map Str.ofString = [Str.ofString "b-1", Str.ofString "'b-1'", Str.ofString "\"b-1\"", Str.ofString "\"b\\u002d1\""] from rfl] at hQ
    exact hQ _ _ _ _ _ _ _ _ _ F9 (news3 N9 (List.mem_of_getElem? (i := 0) (hj 0)) (List.mem_of_getElem? (i := 9) (hj 9)) (List.mem_of_getElem? (i := 10) (hj 10)) tl) rfl rfl (.cons _ _ (.cons _ _ (.cons _ _ (.cons _ _ .nil))))
  · rw [show nmS 6 = "\n" from rfl, show (wyS 6).map Str.ofString = [Str.ofString "\"\\n\"", Str.ofString "\"\\u000a\"", Str.ofString "\"\\u000A\"", Str.ofString "\"\\U0000000a\""] from rfl] at hQ
    exact hQ _ _ _ _ _ _ _ _ _ F9 (news3 N9 (List.mem_of_getElem? (i := 0) (hj 0)) (List.mem_of_getElem? (i := 7) (hj 7)) (List.mem_of_getElem? (i := 8) (hj 8)) tl) rfl rfl (.cons _ _ (.cons _ _ (.cons _ _ (.cons _ _ .nil))))
  · rw [show nmS 7 = "=# " from rfl, show (wyS 7).map Str.ofString = [Str.ofString "'=# '", Str.ofString "\"=# \"", Str.ofString "\"=\\u0023 \"", Str.ofString "\"=#\\u0020\""] from rfl] at hQ
    exact hQ _ _ _ _ _ _ _ _ _ F9 (news3 N9 (List.mem_of_getElem? (i := 0) (hj 0)) (List.mem_of_getElem? (i := 5) (hj 5)) (List.mem_of_getElem? (i := 6) (hj 6)) tl) rfl rfl (.cons _ _ (.cons _ _ (.cons _ _ (.cons _ _ .nil))))
  · rw [show nmS 8 = "\\" from rfl, show (wyS 8).map Str.ofString = [Str.ofString "'\\'", Str.ofString "\"\\\\\"", Str.ofString "\"\\u005c\"", Str.ofString "\"\\u005C\""] from rfl] at hQ
    exact hQ _ _ _ _ _ _ _ _ _ F9 (news3 N9 (List.mem_of_getElem? (i := 0) (hj 0)) (List.mem_of_getElem? (i := 3) (hj 3)) (List.mem_of_getElem? (i := 4) (hj 4)) tl) rfl rfl (.cons _ _ (.cons _ _ (.cons _ _ (.cons _ _ .nil))))
  · rw [show nmS 9 = "é" from rfl, show (wyS 9).map Str.ofString = [Str.ofString "'é'", Str.ofString "\"é\"", Str.ofString "\"\\u00e9\"", Str.ofString "\"\\U000000E9\""] from rfl] at hQ
    exact hQ _ _ _ _ _ _ _ _ _ F9 (news3 N9 (List.mem_of_getElem? (i := 0) (hj 0)) (List.mem_of_getElem? (i := 1) (hj 1)) (List.mem_of_getElem? (i := 2) (hj 2)) tl) rfl rfl (.cons _ _ (.cons _ _ (.cons _ _ (.cons _ _ .nil))))
set_option maxHeartbeats 400000 in
theorem forms_ok {w : World} {p : Program} {loose : List Str} {mg mb : Str → Option Value} {G : Heap} {i : Nat} (hi : i < 10) : Ok w p loose mg mb G 1 202 [] (NewForms i) := by
  intro A l frs s Q E C hret
  have reg : (PySem.Challenge.rw_ij0148_01, K) = (PySem.Challenge.rw_ij0148_01, K) := by k_fill; rfl
  clear reg
  refine wpAny_call ?_
  k_dflt (refine' enter (d := 0) C ?ho ?hcd ?hb ?hl ?_ ?c2 ?c3 ?c4 ?c5; (case ho => k_is); (case hcd => k_is); (case hb => exact BindsTo.of_eq rfl); (case c5 => decide); (case hl => exact locs rfl); (case c2 => exact rfl); (case c3 => exact rfl); (case c4 => exact rfl))
  intro G' h₁ vs hv F N st eG X T hs1 tb0
  replace F : Fr G' s.heap.objs.size h₁ (bd []) := F
  have h0 := @forms_key w p loose mg mb G 1 i A l frs s s.heap G' h₁ s.heap.objs.size vs hi C F N X T
  generalize execs bod_35 (envOf (Str.ofString "_law_forms") scp_35 s.heap.objs.size 202 (Value.ref 201)) = body at h0 ⊢
  refine wpAny_mono (h0 _ _ Thru.leaving (fun h' tk' m' a b c t items xs F' N' h1 h2 h3 => ?_) _) (fun _ _ x => x) (fun _ _ x => x)
  have hnd : ∀ q ∈ ([(a, tupO items), (b, tupO [.str (Str.ofString (nmS i)) t, .ref c]), (c, tupO xs)] : List (Addr × Obj)), nd q.2 = true := fun q hq => by
    simp only [List.mem_cons, List.not_mem_nil, or_false] at hq
    rcases hq with e | e | e <;> (rw [e]; rfl)
  have N2 : News G' s.heap.objs.size h' ([(a, tupO items), (b, tupO [.str (Str.ofString (nmS i)) t, .ref c]), (c, tupO xs)] ++ (183, tbO vs) :: frs) := N'
  have m1 : ((a, tupO items) : Addr × Obj) ∈ ([(a, tupO items), (b, tupO [.str (Str.ofString (nmS i)) t, .ref c]), (c, tupO xs)] : List (Addr × Obj)) := List.mem_cons_self
  have m2 : ((b, tupO [.str (Str.ofString (nmS i)) t, .ref c]) : Addr × Obj) ∈ ([(a, tupO items), (b, tupO [.str (Str.ofString (nmS i)) t, .ref c]), (c, tupO xs)] : List (Addr × Obj)) := List.mem_cons_of_mem _ List.mem_cons_self
  have m3 : ((c, tupO xs) : Addr × Obj) ∈ ([(a, tupO items), (b, tupO [.str (Str.ofString (nmS i)) t, .ref c]), (c, tupO xs)] : List (Addr × Obj)) := List.mem_cons_of_mem _ (List.mem_cons_of_mem _ List.mem_cons_self)
  exact hret _ _ _ (kp_of F' N2 (SameUp.refl _) eG C.there) ((N2 (183, tbO vs) (List.mem_append_right _ List.mem_cons_self)).1.trans tb0.symm)
    ⟨a, b, c, t, items, xs, rfl, new_none C N2 (SameUp.refl _) hnd eG m1, new_none C N2 (SameUp.refl _) hnd eG m2, new_none C N2 (SameUp.refl _) hnd eG m3, (N2 _ (List.mem_append_left _ m1)).1, h1, h2, (N2 _ (List.mem_append_left _ m2)).1, (N2 _ (List.mem_append_left _ m3)).1, h3⟩
section
variable {prog : Program} {w : World} {A : Around} {E : Value → Shared → Prop} {s : Shared} {env : Env} {h₀ : Heap} {x : Str} {body : List Stmt} {Q : Flow → Shared → Prop}
/-- what a turn must leave -/
noncomputable def RStep (h₀ : Heap) (L I : Addr) (it : Obj) (s₁ : Shared) (J : (Str → Option Value) → List (Addr × Obj) → Prop) (Q : Flow → Shared → Prop) (f : Flow) (s₂ : Shared) : Prop :=
  match f with
  | .ret v => Q (.ret v) s₂
  | .brk => Q .next s₂
  | _ => ∃ h' tk m' news', s₂ = { s₁ with heap := h', toks := tk } ∧ Fr h₀ L h' m' ∧ News h₀ L h' ((I, it) :: news') ∧ (∀ p ∈ news', p.1 ≠ I) ∧ J m' news'
/-- a loop over range(n) by what holds between its turns -/
theorem range_inv {r : Addr} {t₀ u₀ v₀ : Tok} {n : Nat} {m₀ : Str → Option Value} {news : List (Addr × Obj)} (J : Nat → (Str → Option Value) → List (Addr × Obj) → Prop)
    (hh : A.handled = none) (hr : IsRange s.heap r 0 (n : Int) 1 t₀ u₀ v₀) (hsmall : n ≤ 1000) (F : Fr h₀ env.locals s.heap m₀) (N : News h₀ env.locals s.heap news) (hJ : J 0 m₀ news)
    (turn : ∀ i t m₁ news₁ I h tk, i < n → (∀ p ∈ news₁, p.1 ≠ I) → J i m₁ news₁ → Fr h₀ env.locals h (fun y => if y = x then some (.int (i : Int) t) else m₁ y) → News h₀ env.locals h ((I, itR ((i + 1 : Nat) : Int) ((n : Int) - ((i + 1 : Nat) : Int))) :: news₁) →
      wpAny (model prog w) A (execs body env) (RStep h₀ env.locals I (itR ((i + 1 : Nat) : Int) ((n : Int) - ((i + 1 : Nat) : Int))) { s with heap := h, toks := tk } (J (i + 1)) Q) E { s with heap := h, toks := tk })
    (done : ∀ m₁ news₁ h tk, J n m₁ news₁ → Fr h₀ env.locals h m₁ → News h₀ env.locals h news₁ → Q .next { s with heap := h, toks := tk }) :
    wpAny (model prog w) A (pyIter (.ref r)) (fun it s₂ => LoopAtV prog w A h₀ env x body Q E it s₂) E s := by
  have hn : Builtin.Range.rangeSize 0 (n : Int) 1 = (n : Int) := by
    unfold Builtin.Range.rangeSize
    split
    · split <;> omega
    · omega
  have fitL : ∀ k : Int, 0 ≤ k → k ≤ 2000 → Builtin.Range.rangeFitsLong k = true := fun k h1 h2 => by
    unfold Builtin.Range.rangeFitsLong
    simp only [Bool.and_eq_true, decide_eq_true_eq]
    constructor <;> omega
  have hsm : Builtin.Range.small 0 (n : Int) 1 = true := by
    simp only [Builtin.Range.small, hn]
    rw [if_pos (by decide), fitL 0 (by omega) (by omega), fitL n (by omega) (by omega), fitL 1 (by omega) (by omega), fitL _ (by omega) (by omega)]
    simp
  refine wpAny_pyIter_range hr hsm ?_
  have W : Walks prog w A s.heap.objs.size [s.heap.objs.size] [s.heap.objs.size] n (fun i v => i < n ∧ ∃ t, v = .int (0 + i * 1) t)
      (fun i h => IsRangeIter h s.heap.objs.size (0 + (i : Nat) * 1) ((n : Int) - (i : Nat)) 1) := (Walks.range hh _ 0 1 n).bound
  have hnew := next_is_new F
  refine ⟨_, _, _, n, _, _, m₀, news, J, rfl, W, ?_, ?_, ?_, (by show IsRangeIter _ _ _ _ _; rw [hn]; simpa using Heap.get?_push_size _ rfl), F.push _, (fun p hp => ⟨Heap.get?_push_of_some _ (N p hp).1, (N p hp).2⟩), hJ, ?_, ?_⟩
  · intro hm
    exact absurd F.ns.lt ((List.mem_singleton.mp hm) ▸ Nat.lt_irrefl _)
  · intro b hb
    rw [List.mem_singleton.mp hb]
    exact hnew
  · intro p hp hI
    exact absurd (Heap.lt_size (N p hp).1) ((List.mem_singleton.mp hI) ▸ Nat.lt_irrefl _)
  · rintro i v m₁ news₁ s₁ own ⟨hh', tk', rfl⟩ hin ⟨_, t, rfl⟩ hJ hoff hown hget hall hst F₁ N₁
    have hst' : hh'.get? s.heap.objs.size = some (itR ((i + 1 : Nat) : Int) ((n : Int) - ((i + 1 : Nat) : Int))) := by
      have q : IsRangeIter hh' s.heap.objs.size (0 + ((i + 1 : Nat) : Int) * 1) ((n : Int) - ((i + 1 : Nat) : Int)) 1 := hst
      rw [Int.mul_one, Int.zero_add] at q
      exact q
    have hmem := hall s.heap.objs.size (List.mem_singleton.mpr rfl) hnew _ hst'
    have e1 : (0 : Int) + (i : Int) * 1 = (i : Int) := by omega
    rw [e1] at F₁
    have N₂ : News h₀ env.locals hh' ((s.heap.objs.size, itR ((i + 1 : Nat) : Int) ((n : Int) - ((i + 1 : Nat) : Int))) :: news₁) := fun p hp => by
      rcases List.mem_cons.mp hp with rfl | hp
      · exact N₁ _ (List.mem_append_left _ hmem)
      · exact N₁ _ (List.mem_append_right _ hp)
    refine wpAny_mono (turn i t m₁ news₁ _ hh' tk' hin (fun p hp e => hoff p hp (List.mem_singleton.mpr e)) hJ F₁ N₂) (fun f s₂ p => ?_) fun _ _ e => e
    have fin : (∃ h' tk m' news', s₂ = { { s with heap := hh', toks := tk' } with heap := h', toks := tk } ∧ Fr h₀ env.locals h' m' ∧ News h₀ env.locals h' ((s.heap.objs.size, itR ((i + 1 : Nat) : Int) ((n : Int) - ((i + 1 : Nat) : Int))) :: news') ∧ (∀ p ∈ news', p.1 ≠ s.heap.objs.size) ∧ J (i + 1) m' news') →
        LoopStepU h₀ env.locals [s.heap.objs.size] own (J (i + 1)) { s with heap := hh', toks := tk' } .next s₂ := by
      rintro ⟨h', tk, m', news', e, F', N', ho, r⟩
      refine ⟨rfl, h', tk, m', news', e, F', fun p hp => ?_, fun p hp hI => ho p hp (List.mem_singleton.mp hI), r⟩
      rcases List.mem_append.mp hp with hp | hp
      · have h1 : p.1 = s.heap.objs.size := List.mem_singleton.mp (hown p hp)
        have h2 : hh'.get? p.1 = some p.2 := hget p hp
        have h3 : p = (s.heap.objs.size, itR ((i + 1 : Nat) : Int) ((n : Int) - ((i + 1 : Nat) : Int))) := by
          rw [h1, hst'] at h2
          exact Prod.ext h1 (Option.some.inj h2).symm
        rw [h3]; exact N' _ (List.mem_cons_self ..)
      · exact N' _ (List.mem_cons_of_mem _ hp)
    cases f with
    | ret v => exact .ret p
    | brk => exact .brk p
    | next => exact .next (fin p)
    | cont => exact .cont (fin p)
  · rintro h' tk m' news' F' N' _ hJ
    exact done m' news' h' tk hJ F' N'
end
theorem fmod_b (v : Int) {m : Int} (hm : 0 < m) : 0 ≤ v.fmod m ∧ v.fmod m < m := by
  rw [Int.fmod_eq_emod_of_nonneg _ (by omega)]
  exact ⟨Int.emod_nonneg _ (by omega), Int.emod_lt_of_pos _ hm⟩
section
variable {prog : Program} {w : World} {A : Around} {E : Value → Shared → Prop} {s : Shared} {h₀ : Heap} {L D : Addr} {m : Str → Option Value} {led l' : List (Addr × Obj)} {vs : List Value} {n : Nat} {v : Value} {Q : Value → Shared → Prop}
/-- append to a list on the ledger -/
theorem app_lst (F : Fr h₀ L s.heap m) (N : News h₀ L s.heap led) (hm : (D, listOf vs.toArray n) ∈ led) (hl : ∀ q ∈ l', (q ∈ led ∧ q.1 ≠ D) ∨ q = (D, listOf (vs ++ [v]).toArray (n + 1))) (hsz : vs.length ≤ 10000)
    (h : ∀ h', Fr h₀ L h' m → News h₀ L h' l' → Q .none { s with heap := h' }) : wpAny (model prog w) A (call (.builtin "list.append") [.ref D, v]) Q E s := by
  have z := N _ hm
  refine append_at (hsz := by unfold sizeLine; simp; omega) z.1 fun h' hs ho' => h h' (F.change hs z.2.1 z.2.2) fun q hq => ?_
  rcases hl q hq with ⟨h1, h2⟩ | rfl
  · exact ⟨(hs.2 q.1 h2).trans (N q h1).1, (N q h1).2⟩
  · refine ⟨?_, z.2⟩
    rw [ho']
    simp
/-- an item of a tuple at a place that is reckoned -/
theorem item_tupZ {value slice : PySem.Expr} {k : Int} {u : Tok} (hD : s.heap.get? D = some (tupO vs)) (h0 : 0 ≤ k) (hx : vs[k.toNat]? = some v) (hq : Q v s)
    (hs : subscripted slice false (.ref D) (.int k u) = operate [.ref D, .int k u] (getItem (.ref D) (.int k u)) := by with_unfolding_all rfl) (hg : ∀ r, letTemporaryGo value (.ref D) r = pure () := by intro _; with_unfolding_all rfl) (hb : vs.length ≤ 10000 := by simp) :
    wpAny (model prog w) A (subscriptTail value slice (.ref D) (.int k u)) Q E s := by
  have hk : k.toNat < vs.length := by
    rcases Nat.lt_or_ge k.toNat vs.length with q | q
    · exact q
    · rw [List.getElem?_eq_none q] at hx; cases hx
  refine item_tupleL (l := vs) (j := k.toNat) ⟨_, hD, rfl, 0, rfl⟩ (by omega) (by omega) ?_ hx hq hs hg
  obtain ⟨j, rfl⟩ := Int.eq_ofNat_of_zero_le h0
  unfold seqIndex?
  have h1 : ¬ ((j : Int) < 0) := by omega
  simp only [h1, if_false]
  have h2 : (decide (0 ≤ (j : Int)) && decide ((j : Int) < (vs.length : Int))) = true := by
    simp only [Bool.and_eq_true, decide_eq_true_eq]
    have : (j : Int).toNat = j := rfl
    omega
  rw [if_pos h2]
theorem item_tup_strs {value slice : PySem.Expr} {k : Int} {u : Tok} {ss : List Str} (hD : s.heap.get? D = some (tupO vs)) (hv : StrsAre vs ss) (h0 : 0 ≤ k) (h1 : k < ss.length) (hb : ss.length ≤ 10000) (hq : ∀ t, Q (.str (ss.getD k.toNat Str.empty) t) s)
    (hs : subscripted slice false (.ref D) (.int k u) = operate [.ref D, .int k u] (getItem (.ref D) (.int k u)) := by with_unfolding_all rfl) (hg : ∀ r, letTemporaryGo value (.ref D) r = pure () := by intro _; with_unfolding_all rfl) :
    wpAny (model prog w) A (subscriptTail value slice (.ref D) (.int k u)) Q E s := by
  have key : ∀ {vs : List Value} {ss : List Str}, StrsAre vs ss → vs.length = ss.length ∧ ∀ j, j < ss.length → ∃ t, vs[j]? = some (.str (ss.getD j Str.empty) t) := by
    intro vs ss h
    induction h with
    | nil => exact ⟨rfl, fun j hj => by simp at hj⟩
    | cons y t _ ih =>
      refine ⟨by simp [ih.1], fun j hj => ?_⟩
      cases j with
      | zero => exact ⟨t, rfl⟩
      | succ j =>
        obtain ⟨t', e⟩ := ih.2 j (by simpa using hj)
        exact ⟨t', by simpa using e⟩
  obtain ⟨e1, e2⟩ := key hv
  obtain ⟨t, ht⟩ := e2 k.toNat (by omega)
  exact item_tupZ hD h0 ht (hq t) hs hg (by omega)
theorem item_tup_txt {value slice : PySem.Expr} {k : Int} {u : Tok} {ss : List Str} {x : Str} (hD : s.heap.get? D = some (tupO vs)) (hv : StrsAre vs ss) (h0 : 0 ≤ k) (h1 : k < ss.length) (hb : ss.length ≤ 10000) (hx : ss.getD k.toNat Str.empty = x) (hq : ∀ t, Q (.str x t) s)
    (hs : subscripted slice false (.ref D) (.int k u) = operate [.ref D, .int k u] (getItem (.ref D) (.int k u)) := by with_unfolding_all rfl) (hg : ∀ r, letTemporaryGo value (.ref D) r = pure () := by intro _; with_unfolding_all rfl) :
    wpAny (model prog w) A (subscriptTail value slice (.ref D) (.int k u)) Q E s := item_tup_strs hD hv h0 h1 hb (by rw [hx]; exact hq) hs hg
theorem item_lstZ {value slice : PySem.Expr} {k : Int} {u : Tok} (hD : s.heap.get? D = some (listOf vs.toArray n)) (h0 : 0 ≤ k) (hx : vs[k.toNat]? = some v) (hb : vs.length ≤ 10000) (hq : Q v s)
    (hs : subscripted slice false (.ref D) (.int k u) = operate [.ref D, .int k u] (getItem (.ref D) (.int k u)) := by with_unfolding_all rfl) (hg : ∀ r, letTemporaryGo value (.ref D) r = pure () := by intro _; with_unfolding_all rfl) :
    wpAny (model prog w) A (subscriptTail value slice (.ref D) (.int k u)) Q E s := by
  have hk : k.toNat < vs.length := by
    rcases Nat.lt_or_ge k.toNat vs.length with q | q
    · exact q
    · rw [List.getElem?_eq_none q] at hx; cases hx
  exact item_listL (l := vs) ⟨_, hD, rfl, n, rfl⟩ h0 (by omega) hx hq hs hg
theorem len_lstN {D : Addr} {k : Nat} (ht : s.heap.get? D = some (listOf vs.toArray n)) (hn : vs.length = k) (hb : k ≤ 10000) (h : Q (.int (k : Int) (s.toks + 1)) { s with toks := s.toks + 1 + 1 }) :
    wpAny (model prog w) A (call (.builtin "len") [.ref D]) Q E s := by
  refine len_list (items := vs.toArray) ⟨_, ht, rfl, n, rfl⟩ (by simp; omega) ?_
  simpa [hn] using h
end
local macro_rules | `(tactic| walk_at "call builtin:sum") => `(tactic| (k_here; (with_reducible show wpAny _ _ (call (Value.builtin "sum") [Value.ref _]) _ _ _); (with_unfolding_all refine' sumK ?k0 ?k1 ?k2 ?k3 ?k4 ?_; (case k0 => assumption); (case k1 => k_asm); (case k2 => k_asm); (case k3 => is_list); (case k4 => assumption); k_whole); intro h' tk' t' F' N'))
noncomputable abbrev envLaw (L : Addr) : Env := envOf (Str.ofString "law") scp_40 L 237 (.ref 236)
noncomputable def bhSs : List Str := [Str.ofString "=", Str.ofString "]", Str.ofString "\n", Str.ofString "= 1", Str.ofString ""]
noncomputable def behT (tot : Int) : Str := bhSs.getD (tot.fmod 5).toNat Str.empty
noncomputable def tx0 (tot : Int) : Str := Str.ofString " " ++ Txt.mul (Str.ofString "\n ") ((tot.fdiv 5).fmod 3)
noncomputable def rwOf (ns : List Int) : List Int := [25, 46] ++ ns.take 3
theorem mul_len (m : Int) (h0 : 0 ≤ m) (h1 : m < 3) : (Txt.mul (Str.ofString "\n ") m).length ≤ 4 := by
  have : m = 0 ∨ m = 1 ∨ m = 2 := by omega
  rcases this with rfl | rfl | rfl <;> decide
section
variable {w : World} {p : Program} {loose : List Str} {mg mb : Str → Option Value} {G : Heap} {d : Nat} {A : Around} {l : List Env} {frs : List (Addr × Obj)} {s : Shared} {h0 G' h₁ : Heap} {L sc : Addr} {vs : Array Value} {its : List Value} {ns : List Int}
set_option maxHeartbeats 4000000 in
theorem law_a1 (C : Cal w p loose mg mb G d A l frs h0) (hl : G'.IsList sc its.toArray) (hi : IntsAre its ns) (hlen : ns.length ≤ 63)
    (F : Fr G' L h₁ (bd [(Str.ofString "script", .ref sc)])) (N : News G' L h₁ ((183, tbO vs) :: frs)) (X : (K w.params).In G') (T : TopRead p loose mg mb G') (Qf : Flow → Shared → Prop) (E1 : Value → Shared → Prop)
    (hTh : Thru w (A.deeper (envLaw L)) (envLaw L) E1)
    (k : ∀ h' tk' m' D ws t, Fr G' L h' m' → News G' L h' ((D, listOf ws.toArray 0) :: (183, tbO vs) :: frs) → IntsAre ws (rwOf ns) → (183 < D ∧ AllLt D frs) → m' (Str.ofString "row") = some (.ref D) → m' (Str.ofString "total") = some (.int (rwOf ns).sum t) → Qf .next { s with heap := h', toks := tk' }) (tk : Nat) :
    wpAny (model pr w) (A.deeper (envLaw L)) (execs (bod_40.take 2) (envLaw L)) Qf E1 { s with heap := h₁, toks := tk } := by
  have reg : (PySem.Challenge.rw_ij0148_01, K) = (PySem.Challenge.rw_ij0148_01, K) := by k_fill; rfl
  clear reg
  have hPO := hTh.po
  have hPA := hTh.at_
  have hA1 : (A.deeper (envLaw L)).handled = none := C.hd
  show wpAny _ _ (execs [_, _] _) _ _ _
  k_steps
  rename News _ _ _ _ => N9
  rename (_ ∧ _ ∧ _ ∧ AllLt _ _) => q9
  refine k _ _ _ _ _ _ (by assumption) (news_sub N9 ?_) (by assumption) ?_ (by rfl) (by rfl)
  · (repeat refine ac (by k_mem) ?_); first | exact (fun q h => (by repeat first | exact h | apply List.mem_cons_of_mem | exact List.mem_append_left _ h | apply List.mem_append_right)) | exact ap (fun q h => (by repeat first | exact h | apply List.mem_cons_of_mem | exact List.mem_append_left _ h | apply List.mem_append_right)) (by (repeat refine ac (by repeat first | exact List.mem_cons_self | apply List.mem_cons_of_mem | apply List.mem_append_right) ?_); exact fun q h => (by repeat first | exact h | apply List.mem_cons_of_mem | exact List.mem_append_left _ h | apply List.mem_append_right))
  · exact q9.2.2
set_option maxHeartbeats 4000000 in
theorem law_a2 {D : Addr} {ws : List Value} {tot : Int} {t : Tok} {m : Str → Option Value} (C : Cal w p loose mg mb G d A l frs h0) (hap : 183 < D ∧ AllLt D frs)
    (F : Fr G' L h₁ m) (N : News G' L h₁ ((D, listOf ws.toArray 0) :: (183, tbO vs) :: frs)) (X : (K w.params).In G') (T : TopRead p loose mg mb G') (Qf : Flow → Shared → Prop) (E1 : Value → Shared → Prop)
    (hTh : Thru w (A.deeper (envLaw L)) (envLaw L) E1) (m1 : m (Str.ofString "row") = some (.ref D)) (m2 : m (Str.ofString "total") = some (.int tot t))
    (k : ∀ h' tk' m' D1 D2 D3 t1 t2, Fr G' L h' m' → News G' L h' ((D3, listOf #[] 0) :: (D2, listOf #[] 0) :: (D1, listOf #[] 0) :: (D, listOf ws.toArray 0) :: (183, tbO vs) :: frs) → (183 < D1 ∧ AllLt D1 frs ∧ D < D1 ∧ D1 < D2 ∧ D2 < D3) →
      m' (Str.ofString "row") = some (.ref D) → m' (Str.ofString "behind") = some (.str (behT tot) t1) → m' (Str.ofString "text") = some (.str (tx0 tot) t2) → m' (Str.ofString "names") = some (.ref D1) → m' (Str.ofString "begins") = some (.ref D2) → m' (Str.ofString "ends") = some (.ref D3) → Qf .next { s with heap := h', toks := tk' }) (tk : Nat) :
    wpAny (model pr w) (A.deeper (envLaw L)) (execs ((bod_40.drop 2).take 5) (envLaw L)) Qf E1 { s with heap := h₁, toks := tk } := by
  have reg : (PySem.Challenge.rw_ij0148_01, K) = (PySem.Challenge.rw_ij0148_01, K) := by k_fill; rfl
  clear reg
  have hPO := hTh.po
  have hPA := hTh.at_
  have hA1 : (A.deeper (envLaw L)).handled = none := C.hd
  show wpAny _ _ (execs [_, _, _, _, _] _) _ _ _
  k_steps
  rename News _ _ _ _ => N9
  refine item_tup_strs (ss := bhSs) (N9.get List.mem_cons_self) ?_ (fmod_b _ (by decide)).1 (fmod_b _ (by decide)).2 (by decide) ?_
  · unfold bhSs
    repeat (first | exact .nil | refine .cons _ _ ?_)
  k_steps
  have hm := mul_len ((tot.fdiv 5).fmod 3) (fmod_b _ (by decide)).1 (fmod_b _ (by decide)).2
  refine SBL.add ?_ (by rw [show (Str.ofString " ").length = 1 from rfl]; unfold sizeLine; omega)
  intro _ _ _
  k_steps
  rename News _ _ _ _ => N8
  rename (_ < _ ∧ _ < _ ∧ _ < _ ∧ _ < _ ∧ _ < _ ∧ AllLt _ _) => q9
  rename (_ < _ ∧ _ < _ ∧ _ < _ ∧ _ < _ ∧ AllLt _ _) => q8
  rename (_ < _ ∧ _ < _ ∧ _ < _ ∧ AllLt _ _) => q7
  refine k _ _ _ _ _ _ _ _ (by assumption) (news_sub N8 ?_) ⟨q7.2.2.1, q7.2.2.2, q7.2.1, q8.1, q9.1⟩ (by exact m1) (by rfl) (by rfl) (by rfl) (by rfl) (by rfl)
  (repeat refine ac (by k_mem) ?_); first | exact (fun q h => (by repeat first | exact h | apply List.mem_cons_of_mem | exact List.mem_append_left _ h | apply List.mem_append_right)) | exact ap (fun q h => (by repeat first | exact h | apply List.mem_cons_of_mem | exact List.mem_append_left _ h | apply List.mem_append_right)) (by (repeat refine ac (by repeat first | exact List.mem_cons_self | apply List.mem_cons_of_mem | apply List.mem_append_right) ?_); exact fun q h => (by repeat first | exact h | apply List.mem_cons_of_mem | exact List.mem_append_left _ h | apply List.mem_append_right))
end
noncomputable def iN (v : Int) : Nat := (v.fmod 10).toNat
noncomputable def iW (v : Int) : Nat := ((v.fdiv 10).fmod 4).toNat
noncomputable def iB (v : Int) : Nat := ((v.fdiv 40).fmod 4).toNat
noncomputable def iA (v : Int) : Nat := ((v.fdiv 160).fmod 4).toNat
theorem iN_lt (v : Int) : iN v < 10 := by have := fmod_b v (m := 10) (by decide); unfold iN; omega
theorem iW_lt (v : Int) : iW v < 4 := by have := fmod_b (v.fdiv 10) (m := 4) (by decide); unfold iW; omega
theorem iB_lt (v : Int) : iB v < 4 := by have := fmod_b (v.fdiv 40) (m := 4) (by decide); unfold iB; omega
theorem iA_lt (v : Int) : iA v < 4 := by have := fmod_b (v.fdiv 160) (m := 4) (by decide); unfold iA; omega
noncomputable def gapSs : List Str := [Str.ofString "", Str.ofString " ", Str.ofString "\t", Str.ofString " \t "]
noncomputable def nmT (v : Int) : Str := Str.ofString (nmS (iN v))
noncomputable def wySs (v : Int) : List Str := (wyS (iN v)).map Str.ofString
noncomputable def wyT (v : Int) : Str := (wySs v).getD (iW v) Str.empty
noncomputable def gbT (v : Int) : Str := gapSs.getD (iB v) Str.empty
noncomputable def gaT (v : Int) : Str := gapSs.getD (iA v) Str.empty
noncomputable def dotT : Str := Str.ofString "."
theorem way_lens : ∀ i, i < 10 → ((wyS i).map Str.ofString).length = 4 ∧ ∀ j, j < 4 → (((wyS i).map Str.ofString).getD j Str.empty).length ≤ 15 := by decide +kernel
theorem gap_lens : ∀ j, j < 4 → (gapSs.getD j Str.empty).length ≤ 3 := by decide +kernel
theorem wyT_len (v : Int) : (wyT v).length ≤ 15 := (way_lens _ (iN_lt v)).2 _ (iW_lt v)
theorem wySs_len (v : Int) : (wySs v).length = 4 := (way_lens _ (iN_lt v)).1
theorem gbT_len (v : Int) : (gbT v).length ≤ 3 := gap_lens _ (iB_lt v)
theorem gaT_len (v : Int) : (gaT v).length ≤ 3 := gap_lens _ (iA_lt v)
section
variable (t0 : Str) (rw : List Int)
noncomputable def TXBof (T : Str) (k : Nat) (v : Int) : Str := if k = 0 then T else T ++ dotT ++ gbT v
noncomputable def TX : Nat → Str
  | 0 => t0
  | k + 1 => TXBof (TX k) k (rw.getD k 0) ++ wyT (rw.getD k 0) ++ gaT (rw.getD k 0)
noncomputable def TXB (k : Nat) : Str := TXBof (TX t0 rw k) k (rw.getD k 0)
noncomputable def TXE (k : Nat) : Str := TXB t0 rw k ++ wyT (rw.getD k 0)
theorem TX_succ (k : Nat) : TX t0 rw (k + 1) = TXE t0 rw k ++ gaT (rw.getD k 0) := rfl
theorem TXB_len (k : Nat) : (TXB t0 rw k).length ≤ (TX t0 rw k).length + 4 := by
  unfold TXB TXBof
  split
  · omega
  · simp only [app_len]
    have := gbT_len (rw.getD k 0)
    have e : dotT.length = 1 := by decide
    omega
theorem TXE_len (k : Nat) : (TXE t0 rw k).length ≤ (TX t0 rw k).length + 19 := by
  have h1 := TXB_len t0 rw k
  have h2 := wyT_len (rw.getD k 0)
  unfold TXE
  rw [app_len]; omega
theorem TX_len (h : t0.length ≤ 10) : ∀ k, (TX t0 rw k).length ≤ 10 + 22 * k
  | 0 => by unfold TX; omega
  | k + 1 => by
    have h1 := TX_len h k
    have h2 := TXE_len t0 rw k
    have h3 := gaT_len (rw.getD k 0)
    rw [TX_succ, app_len]; omega
noncomputable def begs (k : Nat) : List Int := (List.range k).map fun j => ((TXB t0 rw j).length : Int)
noncomputable def ends (k : Nat) : List Int := (List.range k).map fun j => ((TXE t0 rw j).length : Int)
theorem begs_succ (k : Nat) : begs t0 rw (k + 1) = begs t0 rw k ++ [((TXB t0 rw k).length : Int)] := by simp [begs, List.range_succ]
theorem ends_succ (k : Nat) : ends t0 rw (k + 1) = ends t0 rw k ++ [((TXE t0 rw k).length : Int)] := by simp [ends, List.range_succ]
end
theorem IntsAre.snoc {vs : List Value} {ns : List Int} (h : IntsAre vs ns) (n : Int) (t : Tok) : IntsAre (vs ++ [.int n t]) (ns ++ [n]) := IntsAre.append h (.cons n t .nil)
theorem StrsAre.snoc {vs : List Value} {ss : List Str} (h : StrsAre vs ss) (x : Str) (t : Tok) : StrsAre (vs ++ [.str x t]) (ss ++ [x]) := by
  induction h with
  | nil => exact .cons x t .nil
  | cons y u _ ih => exact .cons y u ih
local macro_rules | `(tactic| walk_at "subscriptTail Name Name ref int") => `(tactic| (k_here; (refine item_lstZ (News.get (by k_asm) (by k_mem)) (by omega) (by assumption) (by omega) ?_)))
noncomputable def forBody : Stmt → List Stmt
  | .For _ _ b .. => b
  | _ => []
noncomputable def b1 : List Stmt := forBody (bod_40.getD 7 (.Pass default))
noncomputable def b2 : List Stmt := forBody (bod_40.getD 11 (.Pass default))
noncomputable abbrev itI (n i : Nat) : Obj := itR ((i + 1 : Nat) : Int) ((n : Int) - ((i + 1 : Nat) : Int))
section
variable {w : World} {p : Program} {loose : List Str} {mg mb : Str → Option Value} {G : Heap} {d : Nat} {A : Around} {l : List Env} {frs : List (Addr × Obj)} {s : Shared} {h0 G' h₁ : Heap} {L sc : Addr} {vs : Array Value}
theorem news_cons {h₀ h : Heap} {L : Addr} {q : Addr × Obj} {rest : List (Addr × Obj)} (hq : h.get? q.1 = some q.2 ∧ q.1 ≠ L ∧ h₀.get? q.1 = none) (N : News h₀ L h rest) : News h₀ L h (q :: rest) := fun r hr => by
  rcases List.mem_cons.mp hr with rfl | hr
  · exact hq
  · exact N r hr
set_option maxHeartbeats 4000000 in
theorem turn_a {R D1 D2 D3 I : Addr} {i : Nat} {ws nv bv ev : List Value} {n : Nat} {v : Int} {tx : Str} {m₁ : Str → Option Value} {ti tt tv : Tok} {frs1 : List (Addr × Obj)} (hd : 9 ≤ d) (C : Cal w p loose mg mb G (d + 1) A l frs h0) (st : G.StaysIn G') (hv : TbV G' vs) (SU1 : SameUp frs frs1)
    (htv : ws[((i : Int)).toNat]? = some (Value.int v tv)) (hwl2 : ws.length ≤ 10000) (htx : tx.length ≤ 1000)
    (F3 : Fr G' L h₁ (fun y => if y = Str.ofString "k" then some (.int (i : Int) ti) else m₁ y)) (N3 : News G' L h₁ ((I, itI n i) :: (D3, listOf ev.toArray i) :: (D2, listOf bv.toArray i) :: (D1, listOf nv.toArray i) :: (R, listOf ws.toArray 0) :: (183, tbO vs) :: frs1)) (X : (K w.params).In G') (T : TopRead p loose mg mb G') (Qf : Flow → Shared → Prop) (E1 : Value → Shared → Prop)
    (hTh : Thru w (A.deeper (envLaw L)) (envLaw L) E1) (r1 : m₁ (Str.ofString "row") = some (.ref R)) (r2 : m₁ (Str.ofString "text") = some (.str tx tt))
    (k : ∀ h' tk' m' frs2 g c gv xs t1, Fr G' L h' m' → News G' L h' ((g, tupO gv) :: (c, tupO xs) :: (I, itI n i) :: (D3, listOf ev.toArray i) :: (D2, listOf bv.toArray i) :: (D1, listOf nv.toArray i) :: (R, listOf ws.toArray 0) :: (183, tbO vs) :: frs2) → SameUp frs frs2 → StrsAre gv gapSs → StrsAre xs (wySs v) →
      m' (Str.ofString "name") = some (.str (nmT v) t1) → m' (Str.ofString "ways") = some (.ref c) → m' (Str.ofString "gaps") = some (.ref g) → (∃ t2, m' (Str.ofString "text") = some (.str (TXBof tx i v) t2)) → m' (Str.ofString "k") = some (.int (i : Int) ti) →
      m' (Str.ofString "row") = some (.ref R) → (∀ y, y = Str.ofString "names" ∨ y = Str.ofString "begins" ∨ y = Str.ofString "ends" ∨ y = Str.ofString "behind" → m' y = m₁ y) → Qf .next { s with heap := h', toks := tk' }) (tk : Nat) :
    wpAny (model pr w) (A.deeper (envLaw L)) (execs (b1.take 3) (envLaw L)) Qf E1 { s with heap := h₁, toks := tk } := by
  have reg : (PySem.Challenge.rw_ij0148_01, K) = (PySem.Challenge.rw_ij0148_01, K) := by k_fill; rfl
  clear reg
  have hPO := hTh.po
  have hPA := hTh.at_
  have hA1 : (A.deeper (envLaw L)).handled = none := C.hd
  have hdot : (Str.ofString ".").length = 1 := by decide
  show wpAny _ _ (execs [_, _, _] _) _ _ _
  k_steps
  refine use_ok [_, _, _, _, _] (forms_ok (i := iN v) (iN_lt v) |>.up (by omega)) C (by k_asm) (by assumption) SU1 st (ac rfl (ac rfl (ac rfl (ac rfl (ac rfl (fun q h => (nomatch h))))))) hv rfl ?_
  rintro r h4 tk4 frs2 SU2 F4 N4 ⟨a, b, c, t5, items, xs, rfl, ha, hb, hc, ha', hil, hidx, hb', hc', hxs⟩
  have N5 := new_in F3 (new_in F3 (new_in F3 N4 ha ha') hc hc') hb hb'
  clear N4
  have hidx' : items[(v.fmod 10).toNat]? = some (Value.ref b) := hidx
  have hil2 : items.length ≤ 10000 := by omega
  k_steps
  refine item_tupZ (N5.get (List.mem_cons_of_mem _ (List.mem_cons_of_mem _ List.mem_cons_self))) (fmod_b _ (by decide)).1 hidx' ?_ (hb := hil2)
  rcases Nat.eq_zero_or_pos i with hi0 | hi0
  · k_steps
    rename News _ _ _ _ => N9
    refine k _ _ _ frs2 _ _ _ _ _ (by assumption) (news_cons (N9 _ List.mem_cons_self) (news_sub N9 ?_)) SU2 ?_ hxs (by rfl) (by rfl) (by rfl) ?_ (by rfl) (by exact r1) ?_
    · (repeat refine ac (by k_mem) ?_); first | exact (fun q h => (by repeat first | exact h | apply List.mem_cons_of_mem | exact List.mem_append_left _ h | apply List.mem_append_right)) | exact ap (fun q h => (by repeat first | exact h | apply List.mem_cons_of_mem | exact List.mem_append_left _ h | apply List.mem_append_right)) (by (repeat refine ac (by repeat first | exact List.mem_cons_self | apply List.mem_cons_of_mem | apply List.mem_append_right) ?_); exact fun q h => (by repeat first | exact h | apply List.mem_cons_of_mem | exact List.mem_append_left _ h | apply List.mem_append_right))
    · unfold gapSs
      exact .cons _ _ (.cons _ _ (.cons _ _ (.cons _ _ .nil)))
    · unfold TXBof
      rw [if_pos hi0]
      exact ⟨_, r2⟩
    · rintro y (rfl | rfl | rfl | rfl) <;> rfl
  · k_steps
    rename News _ _ _ _ => N9
    refine item_tup_txt (ss := gapSs) (x := gbT v) (N9.get List.mem_cons_self) ?_ (fmod_b _ (by decide)).1 (fmod_b _ (by decide)).2 (by decide) rfl ?_
    · unfold gapSs
      exact .cons _ _ (.cons _ _ (.cons _ _ (.cons _ _ .nil)))
    intro t7
    have hgl := gbT_len v
    k_steps
    rename News _ _ _ _ => N8
    refine k _ _ _ frs2 _ _ _ _ _ (by assumption) (news_cons (N8 _ List.mem_cons_self) (news_sub N8 ?_)) SU2 ?_ hxs (by rfl) (by rfl) (by rfl) ?_ (by rfl) (by exact r1) ?_
    · (repeat refine ac (by k_mem) ?_); first | exact (fun q h => (by repeat first | exact h | apply List.mem_cons_of_mem | exact List.mem_append_left _ h | apply List.mem_append_right)) | exact ap (fun q h => (by repeat first | exact h | apply List.mem_cons_of_mem | exact List.mem_append_left _ h | apply List.mem_append_right)) (by (repeat refine ac (by repeat first | exact List.mem_cons_self | apply List.mem_cons_of_mem | apply List.mem_append_right) ?_); exact fun q h => (by repeat first | exact h | apply List.mem_cons_of_mem | exact List.mem_append_left _ h | apply List.mem_append_right))
    · unfold gapSs
      exact .cons _ _ (.cons _ _ (.cons _ _ (.cons _ _ .nil)))
    · unfold TXBof
      rw [if_neg (show ¬ i = 0 by omega)]
      exact ⟨_, rfl⟩
    · rintro y (rfl | rfl | rfl | rfl) <;> rfl
end
section
variable {w : World} {p : Program} {loose : List Str} {mg mb : Str → Option Value} {G : Heap} {d : Nat} {A : Around} {l : List Env} {frs : List (Addr × Obj)} {s : Shared} {h0 G' h₁ : Heap} {L sc : Addr} {vs : Array Value}
set_option maxHeartbeats 4000000 in
theorem turn_b {R D1 D2 D3 I g c : Addr} {i : Nat} {ws nv bv ev gv xs : List Value} {n : Nat} {v : Int} {tx nm : Str} {m : Str → Option Value} {ti tt tv tn : Tok} {frs1 : List (Addr × Obj)} (C : Cal w p loose mg mb G (d + 1) A l frs h0)
    (htv : ws[((i : Int)).toNat]? = some (Value.int v tv)) (hwl2 : ws.length ≤ 10000) (htx : tx.length ≤ 1000) (hnl : nv.length ≤ 100) (hbl : bv.length ≤ 100) (hel : ev.length ≤ 100)
    (ap : R < D1 ∧ D1 < D2 ∧ D2 < D3 ∧ 183 < D1) (apf : ∀ q ∈ frs1, q.1 < D1) (apI : I ≠ D1 ∧ I ≠ D2 ∧ I ≠ D3) (apg : g ≠ D1 ∧ g ≠ D2 ∧ g ≠ D3) (apc : c ≠ D1 ∧ c ≠ D2 ∧ c ≠ D3) (hgv : StrsAre gv gapSs) (hxs : StrsAre xs (wySs v))
    (F : Fr G' L h₁ m) (N : News G' L h₁ ((g, tupO gv) :: (c, tupO xs) :: (I, itI n i) :: (D3, listOf ev.toArray i) :: (D2, listOf bv.toArray i) :: (D1, listOf nv.toArray i) :: (R, listOf ws.toArray 0) :: (183, tbO vs) :: frs1)) (X : (K w.params).In G') (T : TopRead p loose mg mb G') (Qf : Flow → Shared → Prop) (E1 : Value → Shared → Prop)
    (hTh : Thru w (A.deeper (envLaw L)) (envLaw L) E1) (r1 : m (Str.ofString "row") = some (.ref R)) (r2 : m (Str.ofString "text") = some (.str tx tt)) (r3 : m (Str.ofString "names") = some (.ref D1)) (r4 : m (Str.ofString "begins") = some (.ref D2)) (r5 : m (Str.ofString "ends") = some (.ref D3))
    (r6 : m (Str.ofString "name") = some (.str nm tn)) (r7 : m (Str.ofString "ways") = some (.ref c)) (r8 : m (Str.ofString "gaps") = some (.ref g)) (r9 : m (Str.ofString "k") = some (.int (i : Int) ti))
    (k : ∀ h' tk' m' t1 t2, Fr G' L h' m' → News G' L h' ((I, itI n i) :: (D3, listOf (ev ++ [Value.int ((tx ++ wyT v).length : Nat) t1]).toArray (i + 1)) :: (D2, listOf (bv ++ [Value.int (tx.length : Nat) t2]).toArray (i + 1)) :: (D1, listOf (nv ++ [Value.str nm tn]).toArray (i + 1)) :: (R, listOf ws.toArray 0) :: (183, tbO vs) :: frs1) →
      (∃ t2, m' (Str.ofString "text") = some (.str (tx ++ wyT v ++ gaT v) t2)) → (∀ y, y = Str.ofString "names" ∨ y = Str.ofString "begins" ∨ y = Str.ofString "ends" ∨ y = Str.ofString "behind" ∨ y = Str.ofString "row" → m' y = m y) → Qf .next { s with heap := h', toks := tk' }) (tk : Nat) :
    wpAny (model pr w) (A.deeper (envLaw L)) (execs (b1.drop 3) (envLaw L)) Qf E1 { s with heap := h₁, toks := tk } := by
  have reg : (PySem.Challenge.rw_ij0148_01, K) = (PySem.Challenge.rw_ij0148_01, K) := by k_fill; rfl
  clear reg
  have hPO := hTh.po
  have hPA := hTh.at_
  have hA1 : (A.deeper (envLaw L)).handled = none := C.hd
  have hwl := wyT_len v
  have hgl := gaT_len v
  have hgw := wySs_len v
  show wpAny _ _ (execs [_, _, _, _, _] _) _ _ _
  have put : ∀ {x y : Addr × Obj} {led : List (Addr × Obj)}, x ∈ led → x ∈ y :: led := fun h => List.mem_cons_of_mem _ h
  k_steps
  refine app_lst (D := D1) (vs := nv) (n := i) (l' := (g, tupO gv) :: (c, tupO xs) :: (I, itI n i) :: (D3, listOf ev.toArray i) :: (D2, listOf bv.toArray i) :: (D1, listOf (nv ++ [Value.str nm tn]).toArray (i + 1)) :: (R, listOf ws.toArray 0) :: (183, tbO vs) :: frs1) (by k_asm) (by assumption) (by simp) ?_ (by omega) ?_
  · exact ac (.inl ⟨by k_mem, apg.1⟩) (ac (.inl ⟨by k_mem, apc.1⟩) (ac (.inl ⟨by k_mem, apI.1⟩) (ac (.inl ⟨by k_mem, Nat.ne_of_gt (Nat.lt_trans ap.2.1 ap.2.2.1)⟩) (ac (.inl ⟨by k_mem, Nat.ne_of_gt ap.2.1⟩) (ac (.inr rfl) (ac (.inl ⟨by k_mem, Nat.ne_of_lt ap.1⟩) (ac (.inl ⟨by k_mem, Nat.ne_of_lt ap.2.2.2⟩) (fun q h => .inl ⟨(by repeat first | exact h | apply List.mem_cons_of_mem | exact List.mem_append_left _ h | apply List.mem_append_right), Nat.ne_of_lt (apf q h)⟩))))))))
  intro h2 F2 N2
  k_steps
  refine app_lst (D := D2) (vs := bv) (n := i) (v := Value.int (tx.length : Nat) (tk + 1)) (l' := (g, tupO gv) :: (c, tupO xs) :: (I, itI n i) :: (D3, listOf ev.toArray i) :: (D2, listOf (bv ++ [Value.int (tx.length : Nat) (tk + 1)]).toArray (i + 1)) :: (D1, listOf (nv ++ [Value.str nm tn]).toArray (i + 1)) :: (R, listOf ws.toArray 0) :: (183, tbO vs) :: frs1) (by k_asm) (by assumption) (by simp) ?_ (by omega) ?_
  · exact ac (.inl ⟨by k_mem, apg.2.1⟩) (ac (.inl ⟨by k_mem, apc.2.1⟩) (ac (.inl ⟨by k_mem, apI.2.1⟩) (ac (.inl ⟨by k_mem, Nat.ne_of_gt ap.2.2.1⟩) (ac (.inr rfl) (ac (.inl ⟨by k_mem, Nat.ne_of_lt ap.2.1⟩) (ac (.inl ⟨by k_mem, Nat.ne_of_lt (Nat.lt_trans ap.1 ap.2.1)⟩) (ac (.inl ⟨by k_mem, Nat.ne_of_lt (Nat.lt_trans ap.2.2.2 ap.2.1)⟩) (fun q h => .inl ⟨(by repeat first | exact h | apply List.mem_cons_of_mem | exact List.mem_append_left _ h | apply List.mem_append_right), Nat.ne_of_lt (Nat.lt_trans (apf q h) ap.2.1)⟩))))))))
  intro h5 F5 N5
  generalize hB : tk + 1 = tB at N5
  k_steps
  refine item_tup_txt (ss := wySs v) (x := wyT v) (News.get (by k_asm) (List.mem_cons_of_mem _ List.mem_cons_self)) hxs (fmod_b _ (by decide)).1 (by rw [hgw]; exact (fmod_b _ (by decide)).2) (by rw [hgw]; decide) rfl ?_
  intro t7
  k_steps
  rename_i t9 k9 q1 h9 F9 N9 q2 q3
  refine app_lst (D := D3) (vs := ev) (n := i) (v := Value.int ((tx ++ wyT v).length : Nat) (k9 + 1 + 1)) (l' := (g, tupO gv) :: (c, tupO xs) :: (I, itI n i) :: (D3, listOf (ev ++ [Value.int ((tx ++ wyT v).length : Nat) (k9 + 1 + 1)]).toArray (i + 1)) :: (D2, listOf (bv ++ [Value.int (tx.length : Nat) tB]).toArray (i + 1)) :: (D1, listOf (nv ++ [Value.str nm tn]).toArray (i + 1)) :: (R, listOf ws.toArray 0) :: (183, tbO vs) :: frs1) (by k_asm) (by assumption) (by simp) ?_ (by omega) ?_
  · exact ac (.inl ⟨by k_mem, apg.2.2⟩) (ac (.inl ⟨by k_mem, apc.2.2⟩) (ac (.inl ⟨by k_mem, apI.2.2⟩) (ac (.inr rfl) (ac (.inl ⟨by k_mem, Nat.ne_of_lt ap.2.2.1⟩) (ac (.inl ⟨by k_mem, Nat.ne_of_lt (Nat.lt_trans ap.2.1 ap.2.2.1)⟩) (ac (.inl ⟨by k_mem, Nat.ne_of_lt (Nat.lt_trans ap.1 (Nat.lt_trans ap.2.1 ap.2.2.1))⟩) (ac (.inl ⟨by k_mem, Nat.ne_of_lt (Nat.lt_trans ap.2.2.2 (Nat.lt_trans ap.2.1 ap.2.2.1))⟩) (fun q h => .inl ⟨(by repeat first | exact h | apply List.mem_cons_of_mem | exact List.mem_append_left _ h | apply List.mem_append_right), Nat.ne_of_lt (Nat.lt_trans (apf q h) (Nat.lt_trans ap.2.1 ap.2.2.1))⟩))))))))
  intro h6 F6 N6
  generalize hE : k9 + 1 + 1 = tE at N6
  k_steps
  refine item_tup_txt (ss := gapSs) (x := gaT v) (News.get (by k_asm) List.mem_cons_self) hgv (fmod_b _ (by decide)).1 (fmod_b _ (by decide)).2 (by decide) rfl ?_
  intro t8
  k_steps
  rename News _ _ _ _ => N8
  refine k _ _ _ tE tB (by assumption) (news_sub N8 ?_) ⟨_, by rfl⟩ ?_
  · (repeat refine ac (by k_mem) ?_); first | exact (fun q h => (by repeat first | exact h | apply List.mem_cons_of_mem | exact List.mem_append_left _ h | apply List.mem_append_right)) | exact ap (fun q h => (by repeat first | exact h | apply List.mem_cons_of_mem | exact List.mem_append_left _ h | apply List.mem_append_right)) (by (repeat refine ac (by repeat first | exact List.mem_cons_self | apply List.mem_cons_of_mem | apply List.mem_append_right) ?_); exact fun q h => (by repeat first | exact h | apply List.mem_cons_of_mem | exact List.mem_append_left _ h | apply List.mem_append_right))
  · rintro y (rfl | rfl | rfl | rfl | rfl) <;> rfl
end
theorem allLt_up {D : Addr} : ∀ {a b : List (Addr × Obj)}, AllLt D a → SameUp a b → ∀ q ∈ b, q.1 < D
  | [], [], _, _, q, hq => nomatch hq
  | [], _ :: _, _, h, _, _ => False.elim h
  | _ :: _, [], _, h, _, _ => False.elim h
  | p :: a, r :: b, ⟨h1, h2⟩, ⟨e, _, h3⟩, q, hq => by
    rcases List.mem_cons.mp hq with rfl | hq
    · rw [e]; exact h1
    · exact allLt_up h2 h3 q hq
theorem tl_ne {vs : List Value} {a : Array Value} {n : Nat} : (tupO vs).cls ≠ (listOf a n).cls := fun e => absurd (Value.type.inj e) (by decide)
theorem ne_obj {h : Heap} {a b : Addr} {o p : Obj} (h1 : h.get? a = some o) (h2 : h.get? b = some p) (h3 : o.cls ≠ p.cls) : a ≠ b := fun e => by
  rw [e, h2] at h1
  cases h1
  exact h3 rfl
section
variable {w : World} {p : Program} {loose : List Str} {mg mb : Str → Option Value} {G : Heap} {d : Nat} {A : Around} {l : List Env} {frs : List (Addr × Obj)} {s : Shared} {h0 G' h₁ : Heap} {L sc : Addr} {vs : Array Value}
/-- between the turns of the first loop -/
noncomputable def J1 (frs : List (Addr × Obj)) (vs : Array Value) (t0 : Str) (rw : List Int) (ws : List Value) (R D1 D2 D3 : Addr) (beh : Str) (k : Nat) (m : Str → Option Value) (led : List (Addr × Obj)) : Prop :=
  ∃ (frs1 : List (Addr × Obj)) (nv bv ev : List Value) (t tb : Tok), led = (D3, listOf ev.toArray k) :: (D2, listOf bv.toArray k) :: (D1, listOf nv.toArray k) :: (R, listOf ws.toArray 0) :: (183, tbO vs) :: frs1 ∧ SameUp frs frs1 ∧
    StrsAre nv ((rw.take k).map nmT) ∧ IntsAre bv (begs t0 rw k) ∧ IntsAre ev (ends t0 rw k) ∧
    m (Str.ofString "row") = some (.ref R) ∧ m (Str.ofString "text") = some (.str (TX t0 rw k) t) ∧ m (Str.ofString "names") = some (.ref D1) ∧ m (Str.ofString "begins") = some (.ref D2) ∧ m (Str.ofString "ends") = some (.ref D3) ∧ m (Str.ofString "behind") = some (.str beh tb)
set_option maxHeartbeats 4000000 in
theorem loop1 {R D1 D2 D3 : Addr} {ws : List Value} {rw : List Int} {t0 beh : Str} {m : Str → Option Value} {t1 t2 : Tok} (hd : 9 ≤ d) (C : Cal w p loose mg mb G (d + 1) A l frs h0) (st : G.StaysIn G') (hv : TbV G' vs)
    (hap : 183 < D1 ∧ AllLt D1 frs ∧ R < D1 ∧ D1 < D2 ∧ D2 < D3) (hws : IntsAre ws rw) (hrw : rw.length ≤ 5) (ht0 : t0.length ≤ 10)
    (F : Fr G' L h₁ m) (N : News G' L h₁ ((D3, listOf #[] 0) :: (D2, listOf #[] 0) :: (D1, listOf #[] 0) :: (R, listOf ws.toArray 0) :: (183, tbO vs) :: frs)) (X : (K w.params).In G') (T : TopRead p loose mg mb G') (Qf : Flow → Shared → Prop) (E1 : Value → Shared → Prop)
    (hTh : Thru w (A.deeper (envLaw L)) (envLaw L) E1) (m1 : m (Str.ofString "row") = some (.ref R)) (m2 : m (Str.ofString "behind") = some (.str beh t1)) (m3 : m (Str.ofString "text") = some (.str t0 t2))
    (m4 : m (Str.ofString "names") = some (.ref D1)) (m5 : m (Str.ofString "begins") = some (.ref D2)) (m6 : m (Str.ofString "ends") = some (.ref D3))
    (k : ∀ h' tk' m' led, Fr G' L h' m' → News G' L h' led → J1 frs vs t0 rw ws R D1 D2 D3 beh rw.length m' led → Qf .next { s with heap := h', toks := tk' }) (tk : Nat) :
    wpAny (model pr w) (A.deeper (envLaw L)) (execs ((bod_40.drop 7).take 1) (envLaw L)) Qf E1 { s with heap := h₁, toks := tk } := by
  have reg : (PySem.Challenge.rw_ij0148_01, K) = (PySem.Challenge.rw_ij0148_01, K) := by k_fill; rfl
  clear reg
  have hPO := hTh.po
  have hPA := hTh.at_
  have hA1 : (A.deeper (envLaw L)).handled = none := C.hd
  have hwl : ws.length = rw.length := hws.length
  show wpAny _ _ (execs [_] _) _ _ _
  refine wpAny_execs_cons ?_
  refine For_invV G' rfl rfl ?_
  refine wpAny_mono (Q := fun xv s₁ => End (∃ r h' tk' t0 u0 v0, xv = .ref r ∧ s₁ = { s with heap := h', toks := tk' } ∧ IsRange h' r 0 (rw.length : Int) 1 t0 u0 v0 ∧ Fr G' L h' m ∧ News G' L h' ((D3, listOf #[] 0) :: (D2, listOf #[] 0) :: (D1, listOf #[] 0) :: (R, listOf ws.toArray 0) :: (183, tbO vs) :: frs))) ?_ ?_ (fun _ _ x => x)
  · k_steps
    exact ⟨_, _, _, _, _, _, rfl, rfl, by assumption, by assumption, by assumption⟩
  rintro xv s₁ ⟨r, h2, tk2, u0, u1, u2, rfl, rfl, hr, F2, N2⟩
  refine range_inv (n := rw.length) (J1 frs vs t0 rw ws R D1 D2 D3 beh) hA1 hr (by omega) F2 N2 ⟨frs, [], [], [], t2, t1, rfl, SameUp.refl _, by exact .nil, .nil, .nil, m1, m3, m4, m5, m6, m2⟩ ?_ ?_
  rotate_left
  · intro m₁ led h3 tk3 hj F3 N3
    refine wpAny_execs_nil ?_
    exact k _ _ _ _ F3 N3 hj
  rintro i ti m₁ led I h3 tk3 hin hI ⟨frs1, nv, bv, ev, tx, tb, rfl, SU1, hnv, hbv, hev, r1, r2, r3, r4, r5, r6⟩ F3 N3
  have hTX := TX_len t0 rw ht0 i
  generalize hv0 : rw.getD i 0 = v at *
  have hvi : rw[i]? = some v := by rw [← hv0, List.getD_eq_getElem?_getD, List.getElem?_eq_getElem hin]; rfl
  obtain ⟨tv, htv⟩ := hws.get i v hvi
  have htv' : ws[((i : Int)).toNat]? = some (Value.int v tv) := htv
  have hwl2 : ws.length ≤ 10000 := by omega
  have hi5 : i < 5 := by omega
  refine execs_cut (l₁ := b1.take 3) (l₂ := b1.drop 3) ?_
  refine turn_a (n := rw.length) hd C st hv SU1 htv' hwl2 (by omega) F3 N3 X T _ _ hTh r1 r2 ?_ tk3
  intro h4 tk4 m4 frs2 g c gv xs tn F4 N4 SU2 hgv hxs s1 s2 s3 s4 s5 s6 s7
  obtain ⟨tt, s4⟩ := s4
  have hbl := hbv.length
  have hel := hev.length
  have hnl := hnv.len_eq
  have hTB := TXB_len t0 rw i
  have o3 := (N4 (D3, listOf ev.toArray i) (by k_mem)).1
  have o2 := (N4 (D2, listOf bv.toArray i) (by k_mem)).1
  have o1 := (N4 (D1, listOf nv.toArray i) (by k_mem)).1
  have og := (N4 (g, tupO gv) (by k_mem)).1
  have oc := (N4 (c, tupO xs) (by k_mem)).1
  have eTB : TXBof (TX t0 rw i) i v = TXB t0 rw i := by unfold TXB; rw [hv0]
  rw [eTB] at s4
  refine turn_b (s := s) (d := d) (nm := nmT v) (tx := TXB t0 rw i) (i := i) (n := rw.length) C htv' hwl2 (by omega) (by simp at hnl; omega) (by simp [begs] at hbl; omega) (by simp [ends] at hel; omega)
    ⟨hap.2.2.1, hap.2.2.2.1, hap.2.2.2.2, hap.1⟩ (allLt_up hap.2.1 SU2) ⟨fun e => hI (D1, listOf nv.toArray i) (by k_mem) e.symm, fun e => hI (D2, listOf bv.toArray i) (by k_mem) e.symm, fun e => hI (D3, listOf ev.toArray i) (by k_mem) e.symm⟩
    ⟨ne_obj og o1 tl_ne, ne_obj og o2 tl_ne, ne_obj og o3 tl_ne⟩ ⟨ne_obj oc o1 tl_ne, ne_obj oc o2 tl_ne, ne_obj oc o3 tl_ne⟩ hgv hxs F4 N4 X T _ _ hTh s6 s4
    ((s7 _ (.inl rfl)).trans r3) ((s7 _ (.inr (.inl rfl))).trans r4) ((s7 _ (.inr (.inr (.inl rfl)))).trans r5) s1 s2 s3 s5 ?_ tk4
  intro h5 tk5 m5 t6 t7 F5 N5 ⟨t8, u1⟩ u2
  refine ⟨h5, tk5, m5, _, rfl, F5, N5, ?_, frs2, _, _, _, t8, tb, rfl, SU2, ?_, ?_, ?_, ?_, ?_, ?_, ?_, ?_, ?_⟩
  · intro q hq e
    have hmap : ∀ q ∈ frs2, ∃ r ∈ frs1, r.1 = q.1 := fun q hq => by
      have hm : q.1 ∈ frs1.map (·.1) := by rw [(sameUp_mem SU1).2, ← (sameUp_mem SU2).2]; exact List.mem_map_of_mem hq
      obtain ⟨r, hr, er⟩ := List.mem_map.mp hm
      exact ⟨r, hr, er⟩
    simp only [List.mem_cons] at hq
    rcases hq with h | h | h | h | h | h
    · subst h; exact hI (D3, listOf ev.toArray i) (by k_mem) e
    · subst h; exact hI (D2, listOf bv.toArray i) (by k_mem) e
    · subst h; exact hI (D1, listOf nv.toArray i) (by k_mem) e
    · subst h; exact hI (R, listOf ws.toArray 0) (by k_mem) e
    · subst h; exact hI (183, tbO vs) (by k_mem) e
    · obtain ⟨r, hr, er⟩ := hmap q h
      exact hI r (by repeat first | exact hr | apply List.mem_cons_of_mem) (er.trans e)
  · rw [List.take_add_one, hvi]
    simp only [Option.toList_some, List.map_append, List.map_cons, List.map_nil]
    exact StrsAre.snoc hnv _ _
  · rw [begs_succ]
    exact IntsAre.snoc hbv _ _
  · rw [ends_succ]
    have e1 : TXE t0 rw i = TXB t0 rw i ++ wyT v := by unfold TXE; rw [hv0]
    rw [e1]
    exact IntsAre.snoc hev _ _
  · exact (u2 _ (.inr (.inr (.inr (.inr rfl))))).trans s6
  · rw [TX_succ, hv0]
    have e1 : TXE t0 rw i = TXB t0 rw i ++ wyT v := by unfold TXE; rw [hv0]
    rw [e1]
    exact u1
  · exact (u2 _ (.inl rfl)).trans ((s7 _ (.inl rfl)).trans r3)
  · exact (u2 _ (.inr (.inl rfl))).trans ((s7 _ (.inr (.inl rfl))).trans r4)
  · exact (u2 _ (.inr (.inr (.inl rfl)))).trans ((s7 _ (.inr (.inr (.inl rfl)))).trans r5)
  · exact (u2 _ (.inr (.inr (.inr (.inl rfl))))).trans ((s7 _ (.inr (.inr (.inr rfl)))).trans r6)
end
theorem strVals_are {xs : List Value} {vs : List (List Nat)} (h : StrVals xs vs) : StrsAre xs (vs.map fun v => (⟨v.toArray⟩ : Str)) := by
  induction h with
  | nil => exact .nil
  | @cons v t xs vs _ ih => exact .cons _ _ ih
theorem reads_strs {h : Heap} {xs : List Value} {ss : List Str} (hx : StrsAre xs ss) : ReadsAll h xs (ss.map .str) [] := by
  induction hx with
  | nil => exact .nil
  | cons y t _ ih => exact .cons (as := []) (.str y t) ih
theorem lay_strs : ∀ ss : List Str, (∀ x ∈ ss, PyData.strOk x = true) → PyData.canLayAll0 (ss.map PyData.str) = true
  | [], _ => rfl
  | x :: r, h => by simp [PyData.canLayAll0, PyData.canLay0, lay_strs r fun y hy => h y (List.mem_cons_of_mem _ hy), h x List.mem_cons_self]
theorem dep_strs : ∀ ss : List Str, PyData.depthAll (ss.map PyData.str) = 0
  | [] => rfl
  | x :: r => by simp [PyData.depthAll, PyData.depth, dep_strs r]
section
variable {prog : Program} {w : World} {A : Around} {E : Value → Shared → Prop} {s : Shared} {a b c e : Addr} {xs ys : List Value} {ss : List Str} {m : Int} {t u v z : Tok} {x : Str} {Q : Value → Shared → Prop}
theorem key_shaped (m : Int) (ss : List Str) (hs : ∀ x ∈ ss, PyData.strOk x = true) : SeqAt.shaped (.tuple [.int m, .tuple (ss.map .str)]) = true := by
  simp [SeqAt.shaped, PyData.canLay0, PyData.canLayAll0, PyData.depth, PyData.depthAll, lay_strs _ hs, dep_strs]
theorem part_shaped (m : Int) (x : Str) (hs : PyData.strOk x = true) : SeqAt.shaped (.tuple [.int m, .str x]) = true := by
  simp [SeqAt.shaped, PyData.canLay0, PyData.canLayAll0, PyData.depth, PyData.depthAll, hs]
theorem reads_key {h : Heap} (h1 : h.get? a = some (tupO [.int m t, .ref b])) (h2 : h.get? b = some (tupO xs)) (hx : StrsAre xs ss) : Reads h (.ref a) (.tuple [.int m, .tuple (ss.map .str)]) [] :=
  .tuple h1 rfl rfl (.cons (as := []) (.int m t) (.cons (as := []) (.tuple h2 rfl rfl (reads_strs hx)) .nil))
theorem reads_part {h : Heap} (h1 : h.get? a = some (tupO [.int m t, .str x u])) : Reads h (.ref a) (.tuple [.int m, .str x]) [] :=
  .tuple h1 rfl rfl (.cons (as := []) (.int m t) (.cons (as := []) (.str x u) .nil))
theorem ne_key (hs : ∀ x ∈ ss, PyData.strOk x = true) (hu : A.units + 64 < cLine) (h1 : s.heap.get? a = some (tupO [.int m t, .ref b])) (h2 : s.heap.get? b = some (tupO xs)) (hx : StrsAre xs ss) (h3 : s.heap.get? c = some (tupO [.int m u, .ref e])) (h4 : s.heap.get? e = some (tupO ys)) (hy : StrsAre ys ss)
    (h : Q (.bool false) s) : wpAny (model prog w) A (compareOp .NotEq (.ref a) (.ref c)) Q E s :=
  ne_dataH (reads_key h1 h2 hx) (reads_key h3 h4 hy) (key_shaped _ _ hs) (key_shaped _ _ hs) hu (by
    rw [PySem.SeqAt.eqv_refl _ (Bool.and_eq_true_iff.mp (key_shaped m ss hs)).1]; exact h)
theorem eq_key (hs : ∀ x ∈ ss, PyData.strOk x = true) (hu : A.units + 64 < cLine) (h1 : s.heap.get? a = some (tupO [.int m t, .ref b])) (h2 : s.heap.get? b = some (tupO xs)) (hx : StrsAre xs ss) (h3 : s.heap.get? c = some (tupO [.int m u, .ref e])) (h4 : s.heap.get? e = some (tupO ys)) (hy : StrsAre ys ss)
    (h : Q (.bool true) s) : wpAny (model prog w) A (compareOp .Eq (.ref a) (.ref c)) Q E s :=
  eq_dataH (reads_key h1 h2 hx) (reads_key h3 h4 hy) (key_shaped _ _ hs) (key_shaped _ _ hs) hu (by
    rw [PySem.SeqAt.eqv_refl _ (Bool.and_eq_true_iff.mp (key_shaped m ss hs)).1]; exact h)
theorem ne_part (hs : PyData.strOk x = true) (hu : A.units + 64 < cLine) (h1 : s.heap.get? a = some (tupO [.int m t, .str x u])) (h3 : s.heap.get? c = some (tupO [.int m v, .str x z])) (h : Q (.bool false) s) : wpAny (model prog w) A (compareOp .NotEq (.ref a) (.ref c)) Q E s :=
  ne_dataH (reads_part h1) (reads_part h3) (part_shaped _ _ hs) (part_shaped _ _ hs) hu (by
    rw [PySem.SeqAt.eqv_refl _ (Bool.and_eq_true_iff.mp (part_shaped m x hs)).1]; exact h)
end
noncomputable abbrev tl (s : Str) : List Nat := s.cps.toList
theorem tl_app (x y : Str) : tl (x ++ y) = tl x ++ tl y := by
  show (x.cps ++ y.cps).toList = _
  simp
theorem tl_len (x : Str) : (tl x).length = x.length := by unfold Str.length; simp
noncomputable def bb4 (f : List Nat → List Nat → Bool) (v : Nat) (r : List Nat) : List Nat → Bool
  | a :: b :: d :: e :: l2 => hexTab.contains ([a, b, d, e], v) && f l2 r
  | _ => false
noncomputable def bb8 (f : List Nat → List Nat → Bool) (v : Nat) (r : List Nat) : List Nat → Bool
  | a :: b :: d :: e :: g :: h :: i :: k :: l2 => hexTab.contains ([a, b, d, e, g, h, i, k], v) && f l2 r
  | _ => false
noncomputable def bbE (f : List Nat → List Nat → Bool) (v : Nat) (r : List Nat) : List Nat → Bool
  | [] => false
  | x :: l => if x == 117 then bb4 f v r l else if x == 85 then bb8 f v r l else escOne.contains (x, v) && f l r
/-- a checker for the inside of a basic string -/
noncomputable def bbB : Nat → List Nat → List Nat → Bool
  | 0, _, _ => false
  | _ + 1, [], [] => true
  | _ + 1, [], _ :: _ => false
  | _ + 1, _ :: _, [] => false
  | n + 1, c :: l, v :: r => if c == 92 then bbE (bbB n) v r l else c != 34 && !illC c && c == v && bbB n l r
theorem bbB_ok : ∀ (n : Nat) (l v : List Nat), bbB n l v = true → BB l v
  | 0, _, _, h => Bool.noConfusion (h : false = true)
  | _ + 1, [], [], _ => .nil
  | _ + 1, [], _ :: _, h => Bool.noConfusion (h : false = true)
  | _ + 1, _ :: _, [], h => Bool.noConfusion (h : false = true)
  | n + 1, c :: l, v :: r, h => by
    have h : (if c == 92 then bbE (bbB n) v r l else c != 34 && !illC c && c == v && bbB n l r) = true := h
    split at h
    · rename_i hc
      have hc' : c = 92 := by simpa using hc
      subst hc'
      cases l with
      | nil => exact Bool.noConfusion (h : false = true)
      | cons x l' =>
        have h : (if x == 117 then bb4 (bbB n) v r l' else if x == 85 then bb8 (bbB n) v r l' else escOne.contains (x, v) && bbB n l' r) = true := h
        by_cases hx : (x == 117) = true
        · rw [if_pos hx] at h
          obtain rfl : x = 117 := beq_iff_eq.mp hx
          rcases l' with _ | ⟨a, _ | ⟨b, _ | ⟨d, _ | ⟨e, l2⟩⟩⟩⟩ <;> first | exact Bool.noConfusion (h : false = true) | skip
          have h := Bool.and_eq_true_iff.mp (h : (hexTab.contains ([a, b, d, e], v) && bbB n l2 r) = true)
          exact .esc (e := [92, 117, _, _, _, _]) (.inr ⟨_, List.contains_iff_mem.mp h.1, .inl ⟨rfl, rfl⟩⟩) (bbB_ok n _ _ h.2)
        · rw [if_neg hx] at h
          by_cases hy : (x == 85) = true
          · rw [if_pos hy] at h
            obtain rfl : x = 85 := beq_iff_eq.mp hy
            rcases l' with _ | ⟨a, _ | ⟨b, _ | ⟨d, _ | ⟨e, _ | ⟨f, _ | ⟨g, _ | ⟨k, _ | ⟨i, l2⟩⟩⟩⟩⟩⟩⟩⟩ <;> first | exact Bool.noConfusion (h : false = true) | skip
            have h := Bool.and_eq_true_iff.mp (h : (hexTab.contains ([a, b, d, e, f, g, k, i], v) && bbB n l2 r) = true)
            exact .esc (e := [92, 85, _, _, _, _, _, _, _, _]) (.inr ⟨_, List.contains_iff_mem.mp h.1, .inr ⟨rfl, rfl⟩⟩) (bbB_ok n _ _ h.2)
          · rw [if_neg hy] at h
            have h := Bool.and_eq_true_iff.mp h
            exact .esc (e := [92, _]) (.inl ⟨_, List.contains_iff_mem.mp h.1, rfl⟩) (bbB_ok n _ _ h.2)
    · rename_i hc
      simp only [Bool.and_eq_true, bne_iff_ne, ne_eq, Bool.not_eq_true', beq_iff_eq] at h
      obtain ⟨⟨⟨h1, h2⟩, h3⟩, h4⟩ := h
      subst h3
      exact .one h1 (by simpa using hc) h2 (bbB_ok n _ _ h4)
noncomputable def partB (w v : List Nat) : Bool := (w == v && !w.isEmpty && w.all bareC) || (w == 39 :: v ++ [39] && v.all (fun c => c != 39 && !illC c)) || (w == 34 :: (w.drop 1).dropLast ++ [34] && bbB 100 (w.drop 1).dropLast v)
theorem partB_ok {w v : List Nat} (h : partB w v = true) : Part w v := by
  unfold partB at h
  simp only [Bool.or_eq_true, Bool.and_eq_true, beq_iff_eq, Bool.not_eq_true', List.all_eq_true, bne_iff_ne, ne_eq] at h
  rcases h with (⟨⟨h1, h2⟩, h3⟩ | ⟨h1, h2⟩) | ⟨h1, h2⟩
  · subst h1
    exact .bare (by intro e; rw [e] at h2; simp at h2) h3
  · rw [h1]
    exact .lit fun c hc => h2 c hc
  · rw [h1]
    exact .bas (bbB_ok _ _ _ h2)
theorem parts_ok : ∀ i, i < 10 → ∀ j, j < 4 → partB (tl (((wyS i).map Str.ofString).getD j Str.empty)) (tl (Str.ofString (nmS i))) = true := by decide +kernel
theorem part_way (v : Int) : Part (tl (wyT v)) (tl (nmT v)) := partB_ok (parts_ok _ (iN_lt v) _ (iW_lt v))
theorem gaps_ws : ∀ j, j < 4 → (tl (gapSs.getD j Str.empty)).all wsC = true := by decide +kernel
theorem gb_ws (v : Int) : ∀ c ∈ tl (gbT v), wsC c = true := List.all_eq_true.mp (gaps_ws _ (iB_lt v))
theorem ga_ws (v : Int) : ∀ c ∈ tl (gaT v), wsC c = true := List.all_eq_true.mp (gaps_ws _ (iA_lt v))
theorem beh_stop : ∀ j, j < 5 → (match tl (bhSs.getD j Str.empty) with | [] => true | c :: _ => !(c == 46 || wsC c || bareC c)) = true := by decide +kernel
theorem behT_stop (tot : Int) : StopK (tl (behT tot)) := by
  have h := beh_stop (tot.fmod 5).toNat (by have := fmod_b tot (m := 5) (by decide); omega)
  intro c r e
  unfold behT at e
  rw [e] at h
  simpa using h
theorem behT_len (tot : Int) : (behT tot).length ≤ 3 := by
  have h : ∀ j, j < 5 → (bhSs.getD j Str.empty).length ≤ 3 := by decide +kernel
  exact h _ (by have := fmod_b tot (m := 5) (by decide); omega)
/-- one further part -/
noncomputable def piece (v : Int) : List Nat := 46 :: (tl (gbT v) ++ (tl (wyT v) ++ tl (gaT v)))
noncomputable def fl (r : List Int) : List Nat := r.flatMap piece
theorem fl_snoc (r : List Int) (v : Int) : fl (r ++ [v]) = fl r ++ piece v := by simp [fl]
/-- what stands behind a way, as a gap and a tail -/
theorem gap_tail (e : List Nat) (he : ∀ c ∈ e, wsC c = true) : ∀ (r : List Int) (v : Int), ∃ g t, tl (gaT v) ++ (fl r ++ e) = g ++ t ∧ (∀ c ∈ g, wsC c = true) ∧ KTail t (r.map fun v => tl (nmT v))
  | [], v => ⟨tl (gaT v) ++ e, [], by simp [fl], fun c hc => (List.mem_append.mp hc).elim (ga_ws v c) (he c), .nil⟩
  | v' :: r, v => by
    obtain ⟨g, t, h1, h2, h3⟩ := gap_tail e he r v'
    refine ⟨tl (gaT v), 46 :: (tl (gbT v') ++ (tl (wyT v') ++ (g ++ t))), ?_, ga_ws v, .cons (gb_ws v') (part_way v') h2 h3⟩
    show _ ++ (fl (v' :: r) ++ e) = _
    rw [← h1]
    simp [fl, piece]
/-- the same where the text ends right behind the last way -/
noncomputable def upTo : Int → List Int → List Nat
  | _, [] => []
  | v, v' :: r => tl (gaT v) ++ (46 :: (tl (gbT v') ++ (tl (wyT v') ++ upTo v' r)))
theorem cut_tail : ∀ (r : List Int) (v : Int), ∃ g t, upTo v r = g ++ t ∧ (∀ c ∈ g, wsC c = true) ∧ KTail t (r.map fun v => tl (nmT v))
  | [], v => ⟨[], [], rfl, fun c hc => (nomatch hc), KTail.nil⟩
  | v' :: r, v => by
    obtain ⟨g, t, h1, h2, h3⟩ := cut_tail r v'
    refine ⟨tl (gaT v), 46 :: (tl (gbT v') ++ (tl (wyT v') ++ (g ++ t))), ?_, ga_ws v, .cons (gb_ws v') (part_way v') h2 h3⟩
    unfold upTo
    rw [h1]
theorem upTo_snoc : ∀ (r : List Int) (v u : Int), upTo v (r ++ [u]) = upTo v r ++ (tl (gaT ((v :: r).getLast (by simp))) ++ (46 :: (tl (gbT u) ++ tl (wyT u))))
  | [], v, u => by simp [upTo]
  | v' :: r, v, u => by
    have := upTo_snoc r v' u
    simp only [List.cons_append, upTo]
    rw [this]
    simp
section
variable (t0 : Str) (rw : List Int)
theorem tx_succ_of (k : Nat) (hk : 0 < k) : tl (TX t0 rw (k + 1)) = tl (TX t0 rw k) ++ piece (rw.getD k 0) := by
  rw [TX_succ]
  unfold TXE TXB TXBof
  rw [if_neg (by omega)]
  simp only [tl_app]
  unfold piece
  have : tl dotT = [46] := by decide
  rw [this]
  simp
/-- a text of n parts, seen from its k-th -/
theorem tx_split : ∀ (n k : Nat), k < n → n ≤ rw.length → tl (TX t0 rw n) = tl (TXB t0 rw k) ++ (tl (wyT (rw.getD k 0)) ++ (tl (gaT (rw.getD k 0)) ++ fl ((rw.take n).drop (k + 1))))
  | 0, k, h, _ => by omega
  | n + 1, k, h, hn => by
    rcases Nat.lt_or_ge k n with q | q
    · rw [tx_succ_of t0 rw n (by omega), tx_split n k q (by omega)]
      have e : (rw.take (n + 1)).drop (k + 1) = (rw.take n).drop (k + 1) ++ [rw.getD n 0] := by
        rw [List.take_add_one, List.getD_eq_getElem?_getD, List.getElem?_eq_getElem (by omega)]
        simp only [Option.toList_some, Option.getD_some]
        rw [List.drop_append_of_le_length (by simp; omega)]
      rw [e, fl_snoc]
      simp
    · obtain rfl : k = n := by omega
      have e : (rw.take (k + 1)).drop (k + 1) = [] := List.drop_eq_nil_of_le (by simp; omega)
      rw [e, TX_succ]
      unfold TXE
      simp only [tl_app]
      simp [fl]
/-- the text that ends right behind the k-th way, seen from the first -/
theorem txe_split (k : Nat) (hk : k < rw.length) : tl (TXE t0 rw k) = tl (TXB t0 rw 0) ++ (tl (wyT (rw.getD 0 0)) ++ upTo (rw.getD 0 0) ((rw.take (k + 1)).drop 1)) := by
  cases k with
  | zero =>
    have e : (rw.take 1).drop 1 = [] := List.drop_eq_nil_of_le (by rw [List.length_take]; omega)
    rw [e]
    unfold TXE upTo
    simp [tl_app]
  | succ k =>
    have h := txe_split k (by omega)
    have e : (rw.take (k + 1 + 1)).drop 1 = (rw.take (k + 1)).drop 1 ++ [rw.getD (k + 1) 0] := by
      rw [List.take_add_one (i := k + 1), List.getD_eq_getElem?_getD, List.getElem?_eq_getElem hk]
      simp only [Option.toList_some, Option.getD_some]
      rw [List.drop_append_of_le_length (by simp; omega)]
    have el : (rw.getD 0 0 :: (rw.take (k + 1)).drop 1).getLast (by simp) = rw.getD k 0 := by
      have e0 : rw.getD 0 0 :: (rw.take (k + 1)).drop 1 = rw.take (k + 1) := by
        cases rw with
        | nil => simp at hk
        | cons a r => simp
      have e3 : (rw.getD 0 0 :: (rw.take (k + 1)).drop 1).getLast? = some (rw.getD k 0) := by
        rw [e0, List.getLast?_eq_getElem?, List.length_take]
        rw [List.getD_eq_getElem?_getD, List.getElem?_eq_getElem (show k < rw.length by omega)]
        rw [show min (k + 1) rw.length - 1 = k by omega, List.getElem?_take, if_pos (by omega), List.getElem?_eq_getElem (show k < rw.length by omega)]
        rfl
      rw [List.getLast?_eq_some_getLast (by simp)] at e3
      exact Option.some.inj e3
    have e2 : tl (TXE t0 rw (k + 1)) = tl (TX t0 rw (k + 1)) ++ (46 :: (tl (gbT (rw.getD (k + 1) 0)) ++ tl (wyT (rw.getD (k + 1) 0)))) := by
      unfold TXE TXB TXBof
      rw [if_neg (by omega)]
      simp only [tl_app]
      have : tl dotT = [46] := by decide
      rw [this]
      simp
    rw [e2, e, upTo_snoc, el, TX_succ, tl_app, h]
    simp
end
/-- what holds the code that the table tells of -/
structure Cds (G' : Heap) (L : Addr) (vs : Array Value) (cs : List (Addr × Obj)) : Prop where
  tb : ∀ h, G'.StaysIn h → News G' L h cs → TbV h vs
  nd : ∀ q ∈ cs, nd q.2 = true
  cl : ∀ q ∈ cs, q.2.cls = .type "code"
theorem Cds.ofG {G' : Heap} {L : Addr} {vs : Array Value} (h : TbV G' vs) : Cds G' L vs [] := ⟨fun _ st _ => h.stays st, (fun q hq => nomatch hq), (fun q hq => nomatch hq)⟩
section
variable {w : World} {p : Program} {loose : List Str} {mg mb : Str → Option Value} {G : Heap} {d : Nat} {A : Around} {l : List Env} {frs frs' new rest cs : List (Addr × Obj)} {s : Shared} {h0 h h' G' : Heap} {L a f x : Addr} {m : Str → Option Value} {qual : Str} {scope : Scope} {cdv : Value} {vs : Array Value} {o : Obj}
  {args : List Value} {kw : List (Str × Value)} {Post : Heap → Heap → Value → Prop} {Q E : Value → Shared → Prop}
theorem cds_of (F : Fr G' L h m) (tb : TbV h vs) : ∃ cs, News G' L h cs ∧ Cds G' L vs cs := by
  rcases tb with e0 | ⟨c, o, fs, t5, e5, ho, hc5, hd5, ht5⟩
  · exact ⟨[], fun q hq => (nomatch hq), ⟨fun h _ _ => .inl e0, (fun q hq => nomatch hq), (fun q hq => nomatch hq)⟩⟩
  · cases q : G'.get? c with
    | some o' =>
      have := F.keep c o' q
      rw [ho] at this; cases this
      exact ⟨[], fun q hq => (nomatch hq), ⟨fun h st _ => .inr ⟨c, o, fs, t5, e5, st _ _ q, hc5, hd5, ht5⟩, (fun q hq => nomatch hq), (fun q hq => nomatch hq)⟩⟩
    | none =>
      refine ⟨[(c, o)], fun r hr => ?_, ⟨fun h _ Nh => .inr ⟨c, o, fs, t5, e5, (Nh _ List.mem_cons_self).1, hc5, hd5, ht5⟩, fun q hq => ?_, fun q hq => by rw [List.mem_singleton.mp hq]; exact hc5⟩⟩
      · rw [List.mem_singleton.mp hr]
        refine ⟨ho, ?_, q⟩
        intro z
        have z' : c = L := z
        obtain ⟨oL, es, ep, hL, hLd, _⟩ := F.ns
        rw [z', hL] at ho
        cases ho
        rw [hLd] at hd5
        cases hd5
      · rw [List.mem_singleton.mp hq]
        obtain ⟨c1, d1, dt, sl⟩ := o
        simp only at hc5 hd5
        subst hc5 hd5
        rfl
theorem use_T (new cs : List (Addr × Obj)) (H : OkT w p loose mg mb G d f args Post) (C : Cal w p loose mg mb G (d + 1) A l frs h0) (F : Fr G' L s.heap m) (N : News G' L s.heap (new ++ (cs ++ (183, tbO vs) :: frs'))) (SU : SameUp frs frs') (st : G.StaysIn G')
    (hnd : ∀ q ∈ new, nd q.2 = true) (hc : Cds G' L vs cs) (hk : scope.kind = .function)
    (k : ∀ r h' tk' vs' cs' frs'', Cds G' L vs' cs' → SameUp frs frs'' → Fr G' L h' m → News G' L h' (new ++ (cs' ++ (183, tbO vs') :: frs'')) → Post s.heap h' r → Q r { s with heap := h', toks := tk' }) :
    wpAny (model pr w) (A.deeper (envOf qual scope L a cdv)) (call (.ref f) args) Q E s := by
  have N2 : News G' L s.heap ((new ++ cs) ++ (183, tbO vs) :: frs') := by rw [List.append_assoc]; exact N
  have tb : TbV s.heap vs := hc.tb _ F.keep fun q hq => N q (List.mem_append_right _ (List.mem_append_left _ hq))
  have hnd2 : ∀ q ∈ new ++ cs, Mine.nd q.2 = true := fun q hq => (List.mem_append.mp hq).elim (hnd q) (hc.nd q)
  obtain ⟨oL, hL, C'⟩ := cal_inT (qual := qual) (scope := scope) (a := a) (cdv := cdv) C F N2 SU (frs_up SU C.fs) st tb hk
  refine H _ _ _ s Q E C' fun r h' tk' kp tb' post => ?_
  obtain ⟨vs', frs'', hv', SU', F', N'⟩ := fr_back F N2 hL (frs_dict_up C.fs SU) hnd2 kp tb'
  obtain ⟨cs', Nc, hc'⟩ := cds_of F' hv'
  refine k r h' tk' vs' cs' frs'' hc' (SameUp.trans SU SU') F' (fun q hq => ?_) post
  rcases List.mem_append.mp hq with hq | hq
  · exact N' q (List.mem_append_left _ (List.mem_append_left _ hq))
  · rcases List.mem_append.mp hq with hq | hq
    · exact Nc q hq
    · exact N' q (List.mem_append_right _ hq)
theorem use_K (new cs : List (Addr × Obj)) (H : Ok w p loose mg mb G d f args Post kw) (C : Cal w p loose mg mb G (d + 1) A l frs h0) (F : Fr G' L s.heap m) (N : News G' L s.heap (new ++ (cs ++ (183, tbO vs) :: frs'))) (SU : SameUp frs frs') (st : G.StaysIn G')
    (hnd : ∀ q ∈ new, nd q.2 = true) (hc : Cds G' L vs cs) (hk : scope.kind = .function)
    (k : ∀ r h' tk' frs'', SameUp frs frs'' → Fr G' L h' m → News G' L h' (new ++ (cs ++ (183, tbO vs) :: frs'')) → Post s.heap h' r → Q r { s with heap := h', toks := tk' }) :
    wpAny (model pr w) (A.deeper (envOf qual scope L a cdv)) (call (.ref f) args kw) Q E s := by
  have N2 : News G' L s.heap ((new ++ cs) ++ (183, tbO vs) :: frs') := by rw [List.append_assoc]; exact N
  have tb : TbV s.heap vs := hc.tb _ F.keep fun q hq => N q (List.mem_append_right _ (List.mem_append_left _ hq))
  have hnd2 : ∀ q ∈ new ++ cs, Mine.nd q.2 = true := fun q hq => (List.mem_append.mp hq).elim (hnd q) (hc.nd q)
  obtain ⟨oL, hL, C'⟩ := cal_inT (qual := qual) (scope := scope) (a := a) (cdv := cdv) C F N2 SU (frs_up SU C.fs) st tb hk
  refine H _ _ _ s Q E C' fun r h' tk' kp e183 post => ?_
  obtain ⟨frs'', SU', F', N'⟩ := fr_backT F N2 hL (frs_dict_up C.fs SU) hnd2 tb kp e183
  exact k r h' tk' frs'' (SameUp.trans SU SU') F' (by rw [List.append_assoc] at N'; exact N') post
end
/-- the whole text and what the loop reads -/
noncomputable def fuT (t0 : Str) (rw : List Int) (tot : Int) : Str := TX t0 rw rw.length ++ Str.ofString " " ++ behT tot
theorem fu_len {t0 : Str} {rw : List Int} {tot : Int} (h0 : t0.length ≤ 10) (hr : rw.length ≤ 5) : (fuT t0 rw tot).length ≤ 300 := by
  unfold fuT
  have h1 := TX_len t0 rw h0 rw.length
  have h2 := behT_len tot
  have e : (Str.ofString " ").length = 1 := by decide
  simp only [app_len]
  omega
theorem nms_ok : ∀ i, i < 10 → PyData.strOk (Str.ofString (nmS i)) = true := by decide +kernel
theorem nmT_ok (v : Int) : PyData.strOk (nmT v) = true := nms_ok _ (iN_lt v)
theorem tl_mk (x : Str) : (⟨(tl x).toArray⟩ : Str) = x := by cases x; simp
/-- the whole text from its k-th part on -/
theorem fu_from {t0 : Str} {rw : List Int} {tot : Int} {k : Nat} (hk : k < rw.length) : ∃ g t, (tl (fuT t0 rw tot)).drop (TXB t0 rw k).length = tl (wyT (rw.getD k 0)) ++ (g ++ (t ++ tl (behT tot))) ∧ (∀ c ∈ g, wsC c = true) ∧ KTail t ((rw.drop (k + 1)).map fun v => tl (nmT v)) ∧
    (TXB t0 rw k).length + (tl (wyT (rw.getD k 0))).length + g.length + t.length = (TX t0 rw rw.length).length + 1 := by
  obtain ⟨g, t, h1, h2, h3⟩ := gap_tail [32] (by intro c hc; simp at hc; subst hc; decide) (rw.drop (k + 1)) (rw.getD k 0)
  have hs := tx_split t0 rw rw.length k hk (Nat.le_refl _)
  rw [List.take_length] at hs
  have e : tl (fuT t0 rw tot) = tl (TXB t0 rw k) ++ (tl (wyT (rw.getD k 0)) ++ (g ++ (t ++ tl (behT tot)))) := by
    unfold fuT
    rw [tl_app, tl_app, hs, show tl (Str.ofString " ") = [32] from by decide]
    simp only [List.append_assoc]
    rw [← List.append_assoc g, ← h1]
    simp
  refine ⟨g, t, ?_, h2, h3, ?_⟩
  · rw [e, ← tl_len, List.drop_left]
  · have l1 := congrArg List.length hs
    have l2 := congrArg List.length h1
    simp only [List.length_append, tl_len, List.length_cons, List.length_nil] at l1 l2 ⊢
    omega
theorem pick_to (xs : List Value) (k : Nat) : slicePick xs.toArray none (some (k : Int)) none = (xs.take k).toArray := by
  have e : sliceBounds none (some (k : Int)) none xs.toArray.size = (((0 : Nat) : Int), ((min k xs.toArray.size : Nat) : Int), 1) := by
    simp only [sliceBounds, Option.getD_none, show (1 : Int) > 0 by decide, if_true, if_neg (show ¬ ((k : Int) < 0) by omega)]
    congr 1
    congr 1
    omega
  rw [kmk_pick_nat _ e]
  show ((xs.drop 0).take (min k xs.toArray.size - 0)).toArray = _
  rw [List.drop_zero, Nat.sub_zero, List.size_toArray, kmk_take_min]
theorem pick_from (xs : List Value) (k : Nat) : slicePick xs.toArray (some (k : Int)) none none = (xs.drop k).toArray := by
  have e : sliceBounds (some (k : Int)) none none xs.toArray.size = (((min k xs.toArray.size : Nat) : Int), ((xs.toArray.size : Nat) : Int), 1) := by
    simp only [sliceBounds, Option.getD_none, show (1 : Int) > 0 by decide, if_true, if_neg (show ¬ ((k : Int) < 0) by omega)]
    congr 1
    omega
  rw [kmk_pick_nat _ e]
  show ((xs.drop (min k xs.toArray.size)).take (xs.toArray.size - min k xs.toArray.size)).toArray = _
  rw [List.size_toArray, kmk_drop_min, List.take_of_length_le (by rw [List.length_drop]; omega)]
section
variable {prog : Program} {w : World} {A : Around} {E : Value → Shared → Prop} {s : Shared} {h₀ : Heap} {L D : Addr} {m : Str → Option Value} {led : List (Addr × Obj)} {vs : List Value} {n k : Nat} {t u : Tok} {v : Value} {Q : Value → Shared → Prop} {value slice : PySem.Expr} {c : Int}
/-- a list from its k-th place on -/
theorem sl_from (F : Fr h₀ L s.heap m) (N : News h₀ L s.heap led) (hm : (D, listOf vs.toArray n) ∈ led) (hc : c = (k : Int)) (hz : vs.length ≤ 10000)
    (h : ∀ a h', Fr h₀ L h' m → News h₀ L h' ((a, listOf (vs.drop k).toArray 0) :: led) → Q (.ref a) { s with heap := h' })
    (hs : subscripted slice false (.ref D) (.ref s.heap.objs.size) = operate [.ref s.heap.objs.size, .ref D] (getItem (.ref D) (.ref s.heap.objs.size)) := by with_unfolding_all rfl) (ht : ∀ r, letTemporaryGo value (.ref D) r = pure () := by intro _; with_unfolding_all rfl) :
    wpAny (model prog w) A (subscriptTail value slice (.ref D) (.ref s.heap.objs.size)) Q E { s with heap := s.heap.push { cls := .type "slice", data := .fields #[.int c t, .none, .none] } } := by
  subst hc
  refine PyProof.Rows.slice_list F N ⟨_, (N _ hm).1, rfl, n, rfl⟩ (.int _ t) .none (fun h' F' N' => h _ h' F' ?_) hs ht (by simp only [List.size_toArray]; exact Nat.le_trans hz (by decide))
  rw [pick_from] at N'
  exact N'
/-- a list up to its k-th place -/
theorem sl_to (F : Fr h₀ L s.heap m) (N : News h₀ L s.heap led) (hm : (D, listOf vs.toArray n) ∈ led) (hc : c = (k : Int)) (hz : vs.length ≤ 10000)
    (h : ∀ a h', Fr h₀ L h' m → News h₀ L h' ((a, listOf (vs.take k).toArray 0) :: led) → Q (.ref a) { s with heap := h' })
    (hs : subscripted slice false (.ref D) (.ref s.heap.objs.size) = operate [.ref s.heap.objs.size, .ref D] (getItem (.ref D) (.ref s.heap.objs.size)) := by with_unfolding_all rfl) (ht : ∀ r, letTemporaryGo value (.ref D) r = pure () := by intro _; with_unfolding_all rfl) :
    wpAny (model prog w) A (subscriptTail value slice (.ref D) (.ref s.heap.objs.size)) Q E { s with heap := s.heap.push { cls := .type "slice", data := .fields #[.none, .int c t, .none] } } := by
  subst hc
  refine PyProof.Rows.slice_list F N ⟨_, (N _ hm).1, rfl, n, rfl⟩ .none (.int _ t) (fun h' F' N' => h _ h' F' ?_) hs ht (by simp only [List.size_toArray]; exact Nat.le_trans hz (by decide))
  rw [pick_to] at N'
  exact N'
/-- the tuple of a list -/
theorem tup_of (F : Fr h₀ L s.heap m) (N : News h₀ L s.heap led) (hm : (D, listOf vs.toArray n) ∈ led) (hz : vs.length ≤ 10000)
    (h : ∀ a h', Fr h₀ L h' m → News h₀ L h' ((a, tupO vs) :: led) → Q (.ref a) { s with heap := h' }) : wpAny (model prog w) A (call (.type "tuple") [.ref D]) Q E s :=
  kde_tupleOf F N ⟨_, (N _ hm).1, rfl, n, rfl⟩ (by simp only [List.size_toArray]; omega) rfl fun a h' F' N' _ => h a h' F' N'
end
local macro_rules | `(tactic| walk_at "call type:tuple") => `(tactic| (k_here; (refine tup_of (by k_asm) (by assumption) List.mem_cons_self (by assumption) ?_); intro _ _ _ _))
section
variable {w : World} {p : Program} {loose : List Str} {mg mb : Str → Option Value} {G : Heap} {d : Nat} {A : Around} {l : List Env} {frs : List (Addr × Obj)} {s : Shared} {h0 G' h₁ : Heap} {L sc : Addr} {vs : Array Value}
/-- what the names of the second loop hold -/
structure M2 (t0 : Str) (rw : List Int) (tot : Int) (D1 D2 D3 : Addr) (m : Str → Option Value) : Prop where
  text : ∃ t, m (Str.ofString "text") = some (.str (fuT t0 rw tot) t)
  last : ∃ t, m (Str.ofString "last") = some (.int (((TX t0 rw rw.length).length + 1 : Nat) : Int) t)
  names : m (Str.ofString "names") = some (.ref D1)
  begins : m (Str.ofString "begins") = some (.ref D2)
  ends : m (Str.ofString "ends") = some (.ref D3)
  behind : ∃ t, m (Str.ofString "behind") = some (.str (behT tot) t)
set_option maxHeartbeats 4000000 in
theorem t2_a {D1 D2 D3 I : Addr} {k : Nat} {nv bv ev : List Value} {rw : List Int} {t0 : Str} {tot : Int} {m : Str → Option Value} {ti : Tok} {frs1 cs : List (Addr × Obj)} (hd : 12 ≤ d) (C : Cal w p loose mg mb G (d + 1) A l frs h0) (st : G.StaysIn G') (SU1 : SameUp frs frs1) (hc : Cds G' L vs cs)
    (hrw : rw.length ≤ 5) (ht0 : t0.length ≤ 10) (hk : k < rw.length) (hnv : StrsAre nv (rw.map nmT)) (hbv : IntsAre bv (begs t0 rw rw.length)) (hev : IntsAre ev (ends t0 rw rw.length)) (M : M2 t0 rw tot D1 D2 D3 m) (mk : m (Str.ofString "k") = some (.int (k : Int) ti))
    (F : Fr G' L h₁ m) (N : News G' L h₁ ((I, itI rw.length k) :: (D3, listOf ev.toArray rw.length) :: (D2, listOf bv.toArray rw.length) :: (D1, listOf nv.toArray rw.length) :: (cs ++ (183, tbO vs) :: frs1))) (X : (K w.params).In G') (T : TopRead p loose mg mb G') (Qf : Flow → Shared → Prop) (E1 : Value → Shared → Prop)
    (hTh : Thru w (A.deeper (envLaw L)) (envLaw L) E1)
    (kk : ∀ h' tk' vs' cs' frs2, Cds G' L vs' cs' → SameUp frs frs2 → Fr G' L h' m → News G' L h' ((I, itI rw.length k) :: (D3, listOf ev.toArray rw.length) :: (D2, listOf bv.toArray rw.length) :: (D1, listOf nv.toArray rw.length) :: (cs' ++ (183, tbO vs') :: frs2)) → Qf .next { s with heap := h', toks := tk' }) (tk : Nat) :
    wpAny (model pr w) (A.deeper (envLaw L)) (execs (b2.take 1) (envLaw L)) Qf E1 { s with heap := h₁, toks := tk } := by
  have reg : (PySem.Challenge.rw_ij0148_01, K) = (PySem.Challenge.rw_ij0148_01, K) := by k_fill; rfl
  clear reg
  have hPO := hTh.po
  have hPA := hTh.at_
  have hA1 : (A.deeper (envLaw L)).handled = none := C.hd
  obtain ⟨tt, mt⟩ := M.text
  obtain ⟨tla, ml⟩ := M.last
  have mn := M.names
  have mb' := M.begins
  have hfl := fu_len (tot := tot) ht0 hrw
  have hbk : (begs t0 rw rw.length)[k]? = some ((TXB t0 rw k).length : Int) := by simp [begs, hk]
  obtain ⟨tb, hb⟩ := hbv.get k _ hbk
  have hb' : bv[((k : Int)).toNat]? = some (Value.int ((TXB t0 rw k).length : Int) tb) := hb
  have hbl : bv.length ≤ 10000 := by have := hbv.length; simp [begs] at this; omega
  obtain ⟨g, t, f1, f2, f3, f4⟩ := fu_from (t0 := t0) (rw := rw) (tot := tot) hk
  show wpAny _ _ (execs [_] _) _ _ _
  k_steps
  refine use_T [_, _, _, _] cs (lawkey_ok (n := (TXB t0 rw k).length) (part_way (rw.getD k 0)) f2 f3 (.inl (behT_stop tot)) f1 (by have h := hfl; unfold Str.length at h; omega) |>.up (by omega)) C (by k_asm) (by assumption) SU1 st (ac rfl (ac rfl (ac rfl (ac rfl (fun q h => (nomatch h)))))) hc rfl ?_
  rintro r h' tk' vs' cs' frs2 hc' SU2 F2 N2 post
  rcases post with ⟨_, a, b, t4, xs, rfl, ha, hb0, ha', hb0', hxs⟩ | ⟨hh, bb, e1, _⟩
  · have N3 := new_in (by assumption) (new_in (by assumption) N2 hb0 hb0') ha ha'
    clear N2
    rw [f4] at N3
    have hnl : nv.length ≤ 10000 := by have := hnv.len_eq; simp at this; omega
    k_steps
    refine sl_from (k := k) (n := rw.length) (vs := nv) (by k_asm) (by assumption) (by simp) rfl hnl ?_
    intro a1 h3 F3 N3
    have hnl2 : (nv.drop k).length ≤ 10000 := by simp; omega
    iterate 4 (first | (k_unfold; (try dsimp only)) | walk1 | (dsimp only; walk1) | (leave1; try dsimp only))
    rename News _ _ _ _ => N5
    have hss : ∀ x ∈ (rw.drop k).map nmT, PyData.strOk x = true := fun x hx => by
      obtain ⟨v, _, rfl⟩ := List.mem_map.mp hx
      exact nmT_ok v
    have hxs2 : StrsAre xs ((rw.drop k).map nmT) := by
      have e := strVals_are hxs
      have ed : rw.drop k = rw.getD k 0 :: rw.drop (k + 1) := by
        rw [List.getD_eq_getElem?_getD, List.getElem?_eq_getElem hk, Option.getD_some, List.drop_eq_getElem_cons hk]
      rw [ed]
      simp only [List.map_cons, List.map_map] at e ⊢
      rw [tl_mk] at e
      have e2 : (List.map ((fun v => ({ cps := v.toArray } : Str)) ∘ fun v => tl (nmT v)) (List.drop (k + 1) rw)) = List.map nmT (List.drop (k + 1) rw) := List.map_congr_left fun v _ => tl_mk _
      rw [e2] at e
      exact e
    have hun := C.un
    have hue : (A.deeper (envLaw L)).units + 64 < cLine := by
      unfold Around.deeper
      simp only
      omega
    refine ne_key (ss := (rw.drop k).map nmT) hss hue (N5 _ (.tail _ (.tail _ (.tail _ (.head _))))).1 (N5 _ (.tail _ (.tail _ (.tail _ (.tail _ (.head _)))))).1 hxs2 (N5 _ (.head _)).1 (N5 _ (.tail _ (.head _))).1 ?_ ?_
    · have e := StrsAre.drop' hnv k
      rw [← List.map_drop] at e
      exact e
    k_steps
    refine kk _ _ vs' cs' frs2 hc' SU2 (by assumption) (fun q hq => N5 q ?_)
    exact (show ∀ q, q ∈ _ → q ∈ _ from by (repeat refine ac (by k_mem) ?_); first | exact (fun q h => (by repeat first | exact h | apply List.mem_cons_of_mem | exact List.mem_append_left _ h | apply List.mem_append_right)) | exact ap (fun q h => (by repeat first | exact h | apply List.mem_cons_of_mem | exact List.mem_append_left _ h | apply List.mem_append_right)) (by (repeat refine ac (by repeat first | exact List.mem_cons_self | apply List.mem_cons_of_mem | apply List.mem_append_right) ?_); exact fun q h => (by repeat first | exact h | apply List.mem_cons_of_mem | exact List.mem_append_left _ h | apply List.mem_append_right))) q hq
  · exfalso
    have := behT_stop tot 46 _ e1
    revert this
    decide
end
theorem stop_gap {g t rest : List Nat} {vs : List (List Nat)} (hg : ∀ c ∈ g, wsC c = true) (ht : KTail t vs) (hr : StopK rest) : StopB bareC (g ++ (t ++ rest)) := by
  intro c r e
  cases g with
  | cons c' g' =>
    injection e with e _; subst e
    have := hg _ List.mem_cons_self
    unfold wsC at this
    simp only [Bool.or_eq_true, beq_iff_eq] at this
    rcases this with rfl | rfl <;> decide
  | nil =>
    simp only [List.nil_append] at e
    cases ht with
    | nil =>
      simp only [List.nil_append] at e
      have := hr c r e
      simp only [Bool.or_eq_false_iff] at this
      exact this.2
    | cons => injection e with e _; subst e; decide
section
variable {w : World} {p : Program} {loose : List Str} {mg mb : Str → Option Value} {G : Heap} {d : Nat} {A : Around} {l : List Env} {frs : List (Addr × Obj)} {s : Shared} {h0 G' h₁ : Heap} {L sc : Addr} {vs : Array Value}
set_option maxHeartbeats 4000000 in
theorem t2_b {D1 D2 D3 I : Addr} {k : Nat} {nv bv ev : List Value} {rw : List Int} {t0 : Str} {tot : Int} {m : Str → Option Value} {ti : Tok} {frs1 cs : List (Addr × Obj)} (hd : 12 ≤ d) (C : Cal w p loose mg mb G (d + 1) A l frs h0) (st : G.StaysIn G') (SU1 : SameUp frs frs1) (hc : Cds G' L vs cs)
    (hrw : rw.length ≤ 5) (ht0 : t0.length ≤ 10) (hk : k < rw.length) (hnv : StrsAre nv (rw.map nmT)) (hbv : IntsAre bv (begs t0 rw rw.length)) (hev : IntsAre ev (ends t0 rw rw.length)) (M : M2 t0 rw tot D1 D2 D3 m) (mk : m (Str.ofString "k") = some (.int (k : Int) ti))
    (F : Fr G' L h₁ m) (N : News G' L h₁ ((I, itI rw.length k) :: (D3, listOf ev.toArray rw.length) :: (D2, listOf bv.toArray rw.length) :: (D1, listOf nv.toArray rw.length) :: (cs ++ (183, tbO vs) :: frs1))) (X : (K w.params).In G') (T : TopRead p loose mg mb G') (Qf : Flow → Shared → Prop) (E1 : Value → Shared → Prop)
    (hTh : Thru w (A.deeper (envLaw L)) (envLaw L) E1)
    (kk : ∀ h' tk' vs' cs' frs2, Cds G' L vs' cs' → SameUp frs frs2 → Fr G' L h' m → News G' L h' ((I, itI rw.length k) :: (D3, listOf ev.toArray rw.length) :: (D2, listOf bv.toArray rw.length) :: (D1, listOf nv.toArray rw.length) :: (cs' ++ (183, tbO vs') :: frs2)) → Qf .next { s with heap := h', toks := tk' }) (tk : Nat) :
    wpAny (model pr w) (A.deeper (envLaw L)) (execs ((b2.drop 1).take 1) (envLaw L)) Qf E1 { s with heap := h₁, toks := tk } := by
  have reg : (PySem.Challenge.rw_ij0148_01, K) = (PySem.Challenge.rw_ij0148_01, K) := by k_fill; rfl
  clear reg
  have hPO := hTh.po
  have hPA := hTh.at_
  have hA1 : (A.deeper (envLaw L)).handled = none := C.hd
  obtain ⟨tt, mt⟩ := M.text
  have mn := M.names
  have mb' := M.begins
  have me := M.ends
  have hfl := fu_len (tot := tot) ht0 hrw
  have hbk : (begs t0 rw rw.length)[k]? = some ((TXB t0 rw k).length : Int) := by simp [begs, hk]
  have hek : (ends t0 rw rw.length)[k]? = some ((TXE t0 rw k).length : Int) := by simp [ends, hk]
  obtain ⟨tb, hb⟩ := hbv.get k _ hbk
  obtain ⟨te, he⟩ := hev.get k _ hek
  obtain ⟨tn, hn⟩ := (show ∀ {vs : List Value} {ss : List Str}, StrsAre vs ss → ∀ j x, ss[j]? = some x → ∃ t, vs[j]? = some (.str x t) from by
    intro vs ss h
    induction h with
    | nil => intro j x hx; simp at hx
    | cons y t _ ih =>
      intro j x hx
      cases j with
      | zero => simp at hx; subst hx; exact ⟨t, rfl⟩
      | succ j => simpa using ih j x (by simpa using hx)) hnv k (nmT (rw.getD k 0)) (by rw [List.getElem?_map, List.getD_eq_getElem?_getD, List.getElem?_eq_getElem hk]; rfl)
  have hb' : bv[((k : Int)).toNat]? = some (Value.int ((TXB t0 rw k).length : Int) tb) := hb
  have he' : ev[((k : Int)).toNat]? = some (Value.int ((TXE t0 rw k).length : Int) te) := he
  have hn' : nv[((k : Int)).toNat]? = some (Value.str (nmT (rw.getD k 0)) tn) := hn
  have hbl : bv.length ≤ 10000 := by have := hbv.length; simp [begs] at this; omega
  have hel : ev.length ≤ 10000 := by have := hev.length; simp [ends] at this; omega
  have hnl : nv.length ≤ 10000 := by have := hnv.len_eq; simp at this; omega
  obtain ⟨g, t, f1, f2, f3, f4⟩ := fu_from (t0 := t0) (rw := rw) (tot := tot) hk
  have hun := C.un
  have hue : (A.deeper (envLaw L)).units + 64 < cLine := by
    unfold Around.deeper
    simp only
    omega
  show wpAny _ _ (execs [_] _) _ _ _
  k_steps
  refine use_K [_, _, _, _] cs (part_ok (n := (TXB t0 rw k).length) (part_way (rw.getD k 0)) (stop_gap f2 f3 (behT_stop tot)) f1 (by have h := hfl; unfold Str.length at h; omega) |>.up (by omega)) C (by k_asm) (by assumption) SU1 st (ac rfl (ac rfl (ac rfl (ac rfl (fun q h => (nomatch h)))))) hc rfl ?_
  rintro r h' tk' frs2 SU2 F2 N2 ⟨t4, t5, a, rfl, ha, ha'⟩
  have eE : (TXB t0 rw k).length + (tl (wyT (rw.getD k 0))).length = (TXE t0 rw k).length := by
    unfold TXE
    rw [app_len, tl_len]
  rw [eE, tl_mk] at ha'
  have N3 := new_in (by assumption) N2 ha ha'
  clear N2
  k_steps
  rename News _ _ _ _ => N5
  refine ne_part (nmT_ok _) hue (N5 _ (.tail _ (.head _))).1 (N5 _ (.head _)).1 ?_
  k_steps
  refine kk _ _ vs cs frs2 hc SU2 (by assumption) (fun q hq => N5 q ?_)
  exact (show ∀ q, q ∈ _ → q ∈ _ from by (repeat refine ac (by k_mem) ?_); first | exact (fun q h => (by repeat first | exact h | apply List.mem_cons_of_mem | exact List.mem_append_left _ h | apply List.mem_append_right)) | exact ap (fun q h => (by repeat first | exact h | apply List.mem_cons_of_mem | exact List.mem_append_left _ h | apply List.mem_append_right)) (by (repeat refine ac (by repeat first | exact List.mem_cons_self | apply List.mem_cons_of_mem | apply List.mem_append_right) ?_); exact fun q h => (by repeat first | exact h | apply List.mem_cons_of_mem | exact List.mem_append_left _ h | apply List.mem_append_right))) q hq
end
/-- the whole text goes on behind the k-th way -/
theorem fu_pre {t0 : Str} {rw : List Int} {tot : Int} {k : Nat} (hk : k < rw.length) : ∃ z, tl (fuT t0 rw tot) = tl (TXE t0 rw k) ++ z := by
  refine ⟨tl (gaT (rw.getD k 0)) ++ fl ((rw.take rw.length).drop (k + 1)) ++ (tl (Str.ofString " ") ++ tl (behT tot)), ?_⟩
  unfold fuT TXE
  rw [tl_app, tl_app, tl_app, tx_split t0 rw rw.length k hk (Nat.le_refl _)]
  simp
theorem fu_cut {t0 : Str} {rw : List Int} {tot : Int} {k : Nat} (hk : k < rw.length) : Txt.slice (fuT t0 rw tot) none (some ((TXE t0 rw k).length : Int)) = TXE t0 rw k := by
  obtain ⟨z, hz⟩ := fu_pre (t0 := t0) (tot := tot) hk
  have hl := congrArg List.length hz
  rw [List.length_append, tl_len, tl_len] at hl
  rw [slice_to (by show (TXE t0 rw k).length ≤ (fuT t0 rw tot).length; omega)]
  show (⟨((tl (fuT t0 rw tot)).take (TXE t0 rw k).length).toArray⟩ : Str) = _
  rw [hz, ← tl_len, List.take_left, tl_mk]
/-- that text from its first part on -/
theorem cut_from {t0 : Str} {rw : List Int} {k : Nat} (hk : k < rw.length) : ∃ g t, (tl (TXE t0 rw k)).drop (TXB t0 rw 0).length = tl (wyT (rw.getD 0 0)) ++ (g ++ (t ++ [])) ∧ (∀ c ∈ g, wsC c = true) ∧ KTail t (((rw.take (k + 1)).drop 1).map fun v => tl (nmT v)) ∧
    (TXB t0 rw 0).length + (tl (wyT (rw.getD 0 0))).length + g.length + t.length = (TXE t0 rw k).length := by
  obtain ⟨g, t, h1, h2, h3⟩ := cut_tail ((rw.take (k + 1)).drop 1) (rw.getD 0 0)
  have hs := txe_split t0 rw k hk
  rw [h1] at hs
  refine ⟨g, t, ?_, h2, h3, ?_⟩
  · rw [hs, ← tl_len, List.drop_left, List.append_nil]
  · have l1 := congrArg List.length hs
    simp only [List.length_append, tl_len] at l1 ⊢
    omega
theorem vals_key {xs : List Value} {l : List Int} (h : StrVals xs (l.map fun v => tl (nmT v))) : StrsAre xs (l.map nmT) := by
  have e := strVals_are h
  rw [List.map_map] at e
  have e2 : (List.map ((fun v => ({ cps := v.toArray } : Str)) ∘ fun v => tl (nmT v)) l) = List.map nmT l := List.map_congr_left fun v _ => tl_mk _
  rw [e2] at e
  exact e
theorem take_head {rw : List Int} {k : Nat} (hk : k < rw.length) : rw.getD 0 0 :: (rw.take (k + 1)).drop 1 = rw.take (k + 1) := by
  cases rw with
  | nil => simp at hk
  | cons a r => simp
theorem nms_ok2 (l : List Int) : ∀ x ∈ l.map nmT, PyData.strOk x = true := fun x hx => by
  obtain ⟨v, _, rfl⟩ := List.mem_map.mp hx
  exact nmT_ok v
section
variable {w : World} {p : Program} {loose : List Str} {mg mb : Str → Option Value} {G : Heap} {d : Nat} {A : Around} {l : List Env} {frs : List (Addr × Obj)} {s : Shared} {h0 G' h₁ : Heap} {L sc : Addr} {vs : Array Value}
set_option maxHeartbeats 4000000 in
theorem t2_c {D1 D2 D3 I : Addr} {k : Nat} {nv bv ev : List Value} {rw : List Int} {t0 : Str} {tot : Int} {m : Str → Option Value} {ti : Tok} {frs1 cs : List (Addr × Obj)} (hd : 12 ≤ d) (C : Cal w p loose mg mb G (d + 1) A l frs h0) (st : G.StaysIn G') (SU1 : SameUp frs frs1) (hc : Cds G' L vs cs)
    (hrw : rw.length ≤ 5) (ht0 : t0.length ≤ 10) (hk : k < rw.length) (hnv : StrsAre nv (rw.map nmT)) (hbv : IntsAre bv (begs t0 rw rw.length)) (hev : IntsAre ev (ends t0 rw rw.length)) (M : M2 t0 rw tot D1 D2 D3 m) (mk : m (Str.ofString "k") = some (.int (k : Int) ti))
    (F : Fr G' L h₁ m) (N : News G' L h₁ ((I, itI rw.length k) :: (D3, listOf ev.toArray rw.length) :: (D2, listOf bv.toArray rw.length) :: (D1, listOf nv.toArray rw.length) :: (cs ++ (183, tbO vs) :: frs1))) (X : (K w.params).In G') (T : TopRead p loose mg mb G') (Qf : Flow → Shared → Prop) (E1 : Value → Shared → Prop)
    (hTh : Thru w (A.deeper (envLaw L)) (envLaw L) E1)
    (kk : ∀ h' tk' vs' cs' frs2, Cds G' L vs' cs' → SameUp frs frs2 → Fr G' L h' m → News G' L h' ((I, itI rw.length k) :: (D3, listOf ev.toArray rw.length) :: (D2, listOf bv.toArray rw.length) :: (D1, listOf nv.toArray rw.length) :: (cs' ++ (183, tbO vs') :: frs2)) → Qf .next { s with heap := h', toks := tk' }) (tk : Nat) :
    wpAny (model pr w) (A.deeper (envLaw L)) (execs ((b2.drop 2).take 1) (envLaw L)) Qf E1 { s with heap := h₁, toks := tk } := by
  have reg : (PySem.Challenge.rw_ij0148_01, K) = (PySem.Challenge.rw_ij0148_01, K) := by k_fill; rfl
  clear reg
  have hPO := hTh.po
  have hPA := hTh.at_
  have hA1 : (A.deeper (envLaw L)).handled = none := C.hd
  obtain ⟨tt, mt⟩ := M.text
  have mn := M.names
  have mb' := M.begins
  have me := M.ends
  have hfl := fu_len (tot := tot) ht0 hrw
  have hbk : (begs t0 rw rw.length)[0]? = some ((TXB t0 rw 0).length : Int) := by
    have : 0 < rw.length := by omega
    simp [begs, this]
  have hek : (ends t0 rw rw.length)[k]? = some ((TXE t0 rw k).length : Int) := by simp [ends, hk]
  obtain ⟨tb, hb⟩ := hbv.get 0 _ hbk
  obtain ⟨te, he⟩ := hev.get k _ hek
  have hb' : bv[((0 : Int)).toNat]? = some (Value.int ((TXB t0 rw 0).length : Int) tb) := hb
  have he' : ev[((k : Int)).toNat]? = some (Value.int ((TXE t0 rw k).length : Int) te) := he
  have hbl : bv.length ≤ 10000 := by have := hbv.length; simp [begs] at this; omega
  have hel : ev.length ≤ 10000 := by have := hev.length; simp [ends] at this; omega
  have hnl : nv.length ≤ 10000 := by have := hnv.len_eq; simp at this; omega
  obtain ⟨g, t, f1, f2, f3, f4⟩ := cut_from (t0 := t0) (rw := rw) hk
  have hcut := fu_cut (t0 := t0) (tot := tot) hk
  have hTl : (TXE t0 rw k).length ≤ 200 := by
    have h1 := TXE_len t0 rw k
    have h2 := TX_len t0 rw ht0 k
    omega
  have hun := C.un
  have hue : (A.deeper (envLaw L)).units + 64 < cLine := by
    unfold Around.deeper
    simp only
    omega
  clear M hek hbk
  generalize fuT t0 rw tot = FU at mt hfl hcut
  generalize TXE t0 rw k = XE at he he' f1 f4 hcut hTl
  generalize TXB t0 rw 0 = X0 at hb hb' f1 f4
  show wpAny _ _ (execs [_] _) _ _ _
  iterate 22 (first | (k_unfold; (try dsimp only)) | walk1 | (dsimp only; walk1) | (leave1; try dsimp only))
  refine item_lstZ (n := rw.length) (vs := bv) (k := 0) (News.get (by k_asm) (by simp)) (by omega) hb' hbl ?_
  generalize hsx : Txt.slice FU none (some (XE.length : Int)) = SX at *
  subst hcut
  k_steps
  refine use_T [_, _, _, _] cs (lawkey_ok (src := SX) (n := X0.length) (part_way (rw.getD 0 0)) f2 f3 (.inl (by intro _ _ e; cases e)) f1 (by have h := hTl; unfold Str.length at h; omega) |>.up (by omega)) C (by k_asm) (by assumption) SU1 st (ac rfl (ac rfl (ac rfl (ac rfl (fun q h => (nomatch h)))))) hc rfl ?_
  rintro r h' tk' vs' cs' frs2 hc' SU2 F2 N2 post
  rcases post with ⟨_, a, b, t4, xs, rfl, ha, hb0, ha', hb0', hxs⟩ | ⟨hh, bb, e1, _⟩
  · have N3 := new_in (by assumption) (new_in (by assumption) N2 hb0 hb0') ha ha'
    clear N2
    rw [f4] at N3
    have hxs2 : StrsAre xs ((rw.take (k + 1)).map nmT) := by
      rw [← take_head hk]
      exact vals_key (l := rw.getD 0 0 :: (rw.take (k + 1)).drop 1) hxs
    k_steps
    refine sl_to (k := k + 1) (n := rw.length) (vs := nv) (by k_asm) (by assumption) (by simp) rfl hnl ?_
    intro a1 h3 F3 N3
    have hnl2 : (nv.take (k + 1)).length ≤ 10000 := by simp; omega
    iterate 4 (first | (k_unfold; (try dsimp only)) | walk1 | (dsimp only; walk1) | (leave1; try dsimp only))
    rename News _ _ _ _ => N5
    refine ne_key (ss := (rw.take (k + 1)).map nmT) (nms_ok2 _) hue (N5 _ (.tail _ (.tail _ (.tail _ (.head _))))).1 (N5 _ (.tail _ (.tail _ (.tail _ (.tail _ (.head _)))))).1 hxs2 (N5 _ (.head _)).1 (N5 _ (.tail _ (.head _))).1 ?_ ?_
    · have e := StrsAre.take' hnv (k + 1)
      rw [← List.map_take] at e
      exact e
    k_steps
    refine kk _ _ vs' cs' frs2 hc' SU2 (by assumption) (fun q hq => N5 q ?_)
    exact (show ∀ q, q ∈ _ → q ∈ _ from by (repeat refine ac (by k_mem) ?_); first | exact (fun q h => (by repeat first | exact h | apply List.mem_cons_of_mem | exact List.mem_append_left _ h | apply List.mem_append_right)) | exact ap (fun q h => (by repeat first | exact h | apply List.mem_cons_of_mem | exact List.mem_append_left _ h | apply List.mem_append_right)) (by (repeat refine ac (by repeat first | exact List.mem_cons_self | apply List.mem_cons_of_mem | apply List.mem_append_right) ?_); exact fun q h => (by repeat first | exact h | apply List.mem_cons_of_mem | exact List.mem_append_left _ h | apply List.mem_append_right))) q hq
  · cases e1
end
section
open PySem.Builtin.Str
theorem dot_tl : tl dotT = [46] := by decide
/-- the whole text goes on behind k parts with a dot -/
theorem fu_dot {t0 : Str} {rw : List Int} {tot : Int} {k : Nat} (hk : k < rw.length) (h0 : 0 < k) : ∃ z, tl (fuT t0 rw tot) = tl (TX t0 rw k) ++ 46 :: z := by
  refine ⟨tl (gbT (rw.getD k 0)) ++ (tl (wyT (rw.getD k 0)) ++ (tl (gaT (rw.getD k 0)) ++ fl ((rw.take rw.length).drop (k + 1)))) ++ (tl (Str.ofString " ") ++ tl (behT tot)), ?_⟩
  unfold fuT
  rw [tl_app, tl_app, tx_split t0 rw rw.length k hk (Nat.le_refl _)]
  unfold TXB TXBof
  rw [if_neg (by omega), tl_app, tl_app, dot_tl]
  simp
theorem ga_dot (v : Int) : 46 ∉ tl (gaT v) := fun h => by
  have := ga_ws v _ h
  revert this
  decide
/-- where the dot stands -/
theorem dot_at {t0 : Str} {rw : List Int} {tot : Int} {k : Nat} {z : List Nat} (h0 : 0 < k) (hz : tl (fuT t0 rw tot) = tl (TX t0 rw k) ++ 46 :: z) :
    occurrences (fuT t0 rw tot) (Str.ofString ".") (fromIndex (fuT t0 rw tot).length (((TXE t0 rw (k - 1)).length : Nat) : Int)) (fuT t0 rw tot).length 1 = [(TX t0 rw k).length] := by
  obtain ⟨j, rfl⟩ : ∃ j, k = j + 1 := ⟨k - 1, by omega⟩
  have e := TX_succ t0 rw j
  have h1 : (tl (fuT t0 rw tot)).drop (TXE t0 rw j).length = tl (gaT (rw.getD j 0)) ++ 46 :: z := by
    rw [hz, e, tl_app, List.append_assoc, ← tl_len, List.drop_left]
  have h2 := index_at h1 (ga_dot _)
  rw [e, app_len]
  rw [tl_len] at h2
  exact h2
theorem fu_to {x y : Str} {z : List Nat} (hz : tl x = tl y ++ 46 :: z) : Txt.slice x none (some ((y.length : Int) + 1)) = y ++ Str.ofString "." := by
  have hl := congrArg List.length hz
  simp only [List.length_append, List.length_cons, tl_len] at hl
  have e : ((y.length : Int) + 1) = ((y.length + 1 : Nat) : Int) := by omega
  rw [e, slice_to (by show y.length + 1 ≤ x.length; omega)]
  show (⟨((tl x).take (y.length + 1)).toArray⟩ : Str) = _
  have e2 : (tl x).take (y.length + 1) = tl (y ++ Str.ofString ".") := by
    rw [hz, tl_app, show tl (Str.ofString ".") = [46] from dot_tl]
    rw [show tl y ++ 46 :: z = (tl y ++ [46]) ++ z by simp]
    rw [List.take_append_of_le_length (by rw [List.length_append, tl_len]; simp)]
    rw [List.take_of_length_le (by rw [List.length_append, tl_len]; simp)]
  rw [e2, tl_mk]
theorem fu_on {x y : Str} {z : List Nat} (hz : tl x = tl y ++ 46 :: z) : Txt.slice x (some ((y.length : Int) + 1)) none = ⟨z.toArray⟩ := by
  have hl := congrArg List.length hz
  simp only [List.length_append, List.length_cons, tl_len] at hl
  have h1 : Txt.slice x (some ((y.length : Int) + 1)) none = StrLaws.sliceText x (some ((y.length : Int) + 1)) none := rfl
  have e : ((y.length : Int) + 1) = ((y.length + 1 : Nat) : Int) := by omega
  rw [h1, e, StrLaws.sliceText_from ⟨by omega, by show ((y.length + 1 : Nat) : Int) ≤ ((tl x).length : Int); rw [tl_len]; omega⟩]
  have e2 : x.cps.toList.drop (y.length + 1) = z := by
    show (tl x).drop (y.length + 1) = z
    rw [hz, show tl y ++ 46 :: z = (tl y ++ [46]) ++ z by simp, show y.length + 1 = (tl y ++ [46]).length by rw [List.length_append, tl_len]; rfl]
    exact List.drop_left
  have e3 : x.cps.size = x.length := rfl
  rw [← e2]
  simp only [Int.toNat_natCast, Str.mk.injEq]
  congr 1
  rw [List.take_of_length_le]
  rw [List.length_drop]
  simp
  omega
/-- k parts, seen from the first -/
theorem tx_from {t0 : Str} {rw : List Int} {k : Nat} (hk : k < rw.length) (h0 : 0 < k) : ∃ g t vals, tl (TX t0 rw k) = tl (TXB t0 rw 0) ++ (tl (wyT (rw.getD 0 0)) ++ (g ++ t)) ∧ (∀ c ∈ g, wsC c = true) ∧ KTail t vals ∧
    (TXB t0 rw 0).length + (tl (wyT (rw.getD 0 0))).length + g.length + t.length = (TX t0 rw k).length := by
  obtain ⟨g, t, h1, h2, h3⟩ := gap_tail [] (fun c hc => nomatch hc) ((rw.take k).drop 1) (rw.getD 0 0)
  have hs := tx_split t0 rw k 0 h0 (by omega)
  rw [List.append_nil] at h1
  rw [h1] at hs
  refine ⟨g, t, _, hs, h2, h3, ?_⟩
  have l1 := congrArg List.length hs
  simp only [List.length_append, tl_len] at l1 ⊢
  omega
/-- what the key's message is where a dot has no part behind it -/
theorem out_bad {src : Str} {n m : Nat} {vs : List (List Nat)} {b : List Nat} {h h' : Heap} {r : Value} (hb : b = [] ∨ ∃ r, b = 46 :: r) (H : KeyOut src n m vs (46 :: b) h h' r) : ∃ t, r = .str (wantT src (m + 1)) t := by
  rcases H with ⟨h1, _⟩ | ⟨hh, b', e1, h2, _, t, e2⟩
  · have := h1 46 _ rfl
    simp at this
  · have e0 : hh = [] := by
      cases hh with
      | nil => rfl
      | cons c r' =>
        injection e1 with _ e1
        rcases hb with rfl | ⟨r2, rfl⟩
        · cases e1
        · injection e1 with e3 _
          have := h2 c List.mem_cons_self
          rw [← e3] at this
          exact absurd this (by decide)
    subst e0
    refine ⟨t, ?_⟩
    rw [e2, err_want]
    rfl
theorem bad_of {b : List Nat} (hb : b = [] ∨ ∃ r, b = 46 :: r) : BadK (46 :: b) := ⟨[], b, rfl, (by intro c hc; cases hc), hb⟩
end
section
open PySem.Builtin.Str
section
variable {w : World} {p : Program} {loose : List Str} {mg mb : Str → Option Value} {G : Heap} {d : Nat} {A : Around} {l : List Env} {frs : List (Addr × Obj)} {s : Shared} {h0 G' h₁ : Heap} {L sc : Addr} {vs : Array Value}
set_option maxHeartbeats 4000000 in
theorem t2_d {D1 D2 D3 I : Addr} {k : Nat} {nv bv ev : List Value} {rw : List Int} {t0 : Str} {tot : Int} {m : Str → Option Value} {ti : Tok} {frs1 cs : List (Addr × Obj)} (hd : 12 ≤ d) (C : Cal w p loose mg mb G (d + 1) A l frs h0) (st : G.StaysIn G') (SU1 : SameUp frs frs1) (hc : Cds G' L vs cs)
    (hrw : rw.length ≤ 5) (ht0 : t0.length ≤ 10) (hk : k < rw.length) (hnv : StrsAre nv (rw.map nmT)) (hbv : IntsAre bv (begs t0 rw rw.length)) (hev : IntsAre ev (ends t0 rw rw.length)) (M : M2 t0 rw tot D1 D2 D3 m) (mk : m (Str.ofString "k") = some (.int (k : Int) ti))
    (F : Fr G' L h₁ m) (N : News G' L h₁ ((I, itI rw.length k) :: (D3, listOf ev.toArray rw.length) :: (D2, listOf bv.toArray rw.length) :: (D1, listOf nv.toArray rw.length) :: (cs ++ (183, tbO vs) :: frs1))) (X : (K w.params).In G') (T : TopRead p loose mg mb G') (Qf : Flow → Shared → Prop) (E1 : Value → Shared → Prop)
    (hTh : Thru w (A.deeper (envLaw L)) (envLaw L) E1)
    (kk : ∀ h' tk' vs' cs' frs2 m', (∀ y, y ≠ Str.ofString "dot" → y ≠ Str.ofString "more" → m' y = m y) → Cds G' L vs' cs' → SameUp frs frs2 → Fr G' L h' m' → News G' L h' ((I, itI rw.length k) :: (D3, listOf ev.toArray rw.length) :: (D2, listOf bv.toArray rw.length) :: (D1, listOf nv.toArray rw.length) :: (cs' ++ (183, tbO vs') :: frs2)) → Qf .next { s with heap := h', toks := tk' }) (tk : Nat) :
    wpAny (model pr w) (A.deeper (envLaw L)) (execs ((b2.drop 3).take 1) (envLaw L)) Qf E1 { s with heap := h₁, toks := tk } := by
  have reg : (PySem.Challenge.rw_ij0148_01, K) = (PySem.Challenge.rw_ij0148_01, K) := by k_fill; rfl
  clear reg
  have hPO := hTh.po
  have hPA := hTh.at_
  have hA1 : (A.deeper (envLaw L)).handled = none := C.hd
  obtain ⟨tt, mt⟩ := M.text
  have mb' := M.begins
  have me := M.ends
  have hfl := fu_len (tot := tot) ht0 hrw
  have hbk : (begs t0 rw rw.length)[0]? = some ((TXB t0 rw 0).length : Int) := by
    have : 0 < rw.length := by omega
    simp [begs, this]
  obtain ⟨tb, hb⟩ := hbv.get 0 _ hbk
  have hb' : bv[((0 : Int)).toNat]? = some (Value.int ((TXB t0 rw 0).length : Int) tb) := hb
  have hbl : bv.length ≤ 10000 := by have := hbv.length; simp [begs] at this; omega
  have hel : ev.length ≤ 10000 := by have := hev.length; simp [ends] at this; omega
  rcases Nat.eq_zero_or_pos k with hk0 | hk0
  · have hk0' : ¬ ((0 : Int) < (k : Int)) := by omega
    show wpAny _ _ (execs [_] _) _ _ _
    k_steps
    exact kk _ _ vs cs frs1 m (fun _ _ _ => rfl) hc SU1 (by assumption) N
  have hek : (ends t0 rw rw.length)[k - 1]? = some ((TXE t0 rw (k - 1)).length : Int) := by
    have : k - 1 < rw.length := by omega
    simp [ends, this]
  obtain ⟨te, he⟩ := hev.get (k - 1) _ hek
  have he' : ev[((k : Int) - 1).toNat]? = some (Value.int ((TXE t0 rw (k - 1)).length : Int) te) := by
    rw [show ((k : Int) - 1).toNat = k - 1 by omega]; exact he
  have hk0' : (0 : Int) < (k : Int) := by omega
  obtain ⟨z, hz⟩ := fu_dot (t0 := t0) (tot := tot) hk hk0
  have hdot := dot_at hk0 hz
  obtain ⟨g, t, vals, f1, f2, f3, f4⟩ := tx_from (t0 := t0) hk hk0
  have hto := fu_to hz
  have hon := fu_on hz
  have hXl : (TX t0 rw k).length ≤ 200 := by have := TX_len t0 rw ht0 k; omega
  clear M hek hbk
  generalize fuT t0 rw tot = FU at mt hfl hz hdot hto hon
  generalize TXE t0 rw (k - 1) = XE at he he' hdot
  generalize TXB t0 rw 0 = X0 at hb hb' f1 f4
  generalize TX t0 rw k = Y at hz hdot f1 f4 hto hon hXl
  show wpAny _ _ (execs [_] _) _ _ _
  iterate 24 (first | (k_unfold; (try dsimp only)) | walk1 | (dsimp only; walk1) | (leave1; try dsimp only))
  refine item_lstZ (n := rw.length) (vs := ev) (News.get (by k_asm) (by simp)) (by omega) he' hel ?_
  iterate 1 (first | (k_unfold; (try dsimp only)) | walk1 | (dsimp only; walk1) | (leave1; try dsimp only))
  refine call_index3 hdot ?_
  iterate 24 (first | (k_unfold; (try dsimp only)) | walk1 | (dsimp only; walk1) | (leave1; try dsimp only))
  refine item_lstZ (n := rw.length) (vs := bv) (k := 0) (News.get (by k_asm) (by simp)) (by omega) hb' hbl ?_
  have hS1l : (Txt.slice FU none (some ((Y.length : Int) + 1))).length ≤ 300 := by
    rw [hto, app_len]
    have : (Str.ofString ".").length = 1 := by decide
    omega
  have fs1 : (tl (Txt.slice FU none (some ((Y.length : Int) + 1)))).drop X0.length = tl (wyT (rw.getD 0 0)) ++ (g ++ (t ++ [46])) := by
    rw [hto, tl_app, f1, show tl (Str.ofString ".") = [46] from dot_tl, List.append_assoc, ← tl_len, List.drop_left]
    simp
  k_steps
  refine use_T [_, _, _, _] cs (lawkey_ok (src := Txt.slice FU none (some ((Y.length : Int) + 1))) (n := X0.length) (part_way (rw.getD 0 0)) f2 f3 (.inr (bad_of (.inl rfl))) fs1 (Nat.le_trans hS1l (by decide)) |>.up (by omega)) C (by k_asm) (by assumption) SU1 st (ac rfl (ac rfl (ac rfl (ac rfl (fun q h => (nomatch h)))))) hc rfl ?_
  rintro r h' tk' vs' cs' frs2 hc' SU2 F2 N2 post
  rw [f4] at post
  obtain ⟨t4, rfl⟩ := out_bad (.inl rfl) post
  clear post
  k_steps
  refine use_K [_, _, _, _] cs' (want_ok (src := Txt.slice FU none (some ((Y.length : Int) + 1))) (n := Y.length + 1) (Nat.le_trans hS1l (by decide)) |>.up (by omega)) C (by k_asm) (by assumption) SU2 st (ac rfl (ac rfl (ac rfl (ac rfl (fun q h => (nomatch h)))))) hc' rfl ?_
  rintro r h5 tk5 frs3 SU3 F5 N5 ⟨t5, rfl⟩
  iterate 3 (first | (k_unfold; (try dsimp only)) | walk1 | (dsimp only; walk1) | (leave1; try dsimp only))
  · rename_i hq
    rw [bne_self_eq_false'] at hq
    cases hq
  have hone : (Str.ofString ".").length = 1 := by decide
  have hS2l : (Txt.slice FU (some ((Y.length : Int) + 1)) none).length ≤ 300 := by
    rw [hon]
    have := congrArg List.length hz
    simp only [List.length_append, List.length_cons, tl_len] at this
    show z.toArray.size ≤ 300
    simp
    omega
  iterate 31 (first | (k_unfold; (try dsimp only)) | walk1 | (dsimp only; walk1) | (leave1; try dsimp only))
  have hMO : tl (Txt.slice FU none (some ((Y.length : Int) + 1)) ++ Str.ofString "." ++ Txt.slice FU (some ((Y.length : Int) + 1)) none) = tl Y ++ 46 :: 46 :: z := by
    rw [tl_app, tl_app, hto, hon, tl_app, show tl (Str.ofString ".") = [46] from dot_tl]
    simp
  have hMOl : (Txt.slice FU none (some ((Y.length : Int) + 1)) ++ Str.ofString "." ++ Txt.slice FU (some ((Y.length : Int) + 1)) none).length ≤ 700 := by
    rw [app_len, app_len, hone]
    omega
  generalize Txt.slice FU none (some ((Y.length : Int) + 1)) ++ Str.ofString "." ++ Txt.slice FU (some ((Y.length : Int) + 1)) none = MO at *
  iterate 12 (first | (k_unfold; (try dsimp only)) | walk1 | (dsimp only; walk1) | (leave1; try dsimp only))
  refine item_lstZ (n := rw.length) (vs := bv) (k := 0) (News.get (by k_asm) (by simp)) (by omega) hb' hbl ?_
  have fs2 : (tl MO).drop X0.length = tl (wyT (rw.getD 0 0)) ++ (g ++ (t ++ 46 :: 46 :: z)) := by
    rw [hMO, f1, List.append_assoc, ← tl_len, List.drop_left]
    simp
  k_steps
  refine use_T [_, _, _, _] cs' (lawkey_ok (src := MO) (n := X0.length) (part_way (rw.getD 0 0)) f2 f3 (.inr (bad_of (.inr ⟨z, rfl⟩))) fs2 (Nat.le_trans hMOl (by decide)) |>.up (by omega)) C (by k_asm) (by assumption) (by assumption) st (ac rfl (ac rfl (ac rfl (ac rfl (fun q h => (nomatch h)))))) hc' rfl ?_
  rintro r h7 tk7 vs7 cs7 frs7 hc7 SU7 F7 N7 post
  rw [f4] at post
  obtain ⟨t8, rfl⟩ := out_bad (.inr ⟨z, rfl⟩) post
  clear post
  k_steps
  refine use_K [_, _, _, _] cs7 (want_ok (src := MO) (n := Y.length + 1) (Nat.le_trans hMOl (by decide)) |>.up (by omega)) C (by k_asm) (by assumption) SU7 st (ac rfl (ac rfl (ac rfl (ac rfl (fun q h => (nomatch h)))))) hc7 rfl ?_
  rintro r h9 tk9 frs9 SU9 F9 N9 ⟨t9, rfl⟩
  iterate 3 (first | (k_unfold; (try dsimp only)) | walk1 | (dsimp only; walk1) | (leave1; try dsimp only))
  · rename_i hq
    rw [bne_self_eq_false'] at hq
    cases hq
  k_steps
  refine kk _ _ vs7 cs7 frs9 _ ?_ hc7 SU9 (by assumption) N9
  intro y y1 y2
  simp only [if_neg y1, if_neg y2]
  done
end
end
section
variable {w : World} {p : Program} {loose : List Str} {mg mb : Str → Option Value} {G : Heap} {d : Nat} {A : Around} {l : List Env} {frs : List (Addr × Obj)} {s : Shared} {h0 G' h₁ : Heap} {L sc : Addr} {vs : Array Value}
theorem M2.of {t0 : Str} {rw : List Int} {tot : Int} {D1 D2 D3 : Addr} {m m' : Str → Option Value} (M : M2 t0 rw tot D1 D2 D3 m) (e : ∀ y, y ≠ Str.ofString "k" → y ≠ Str.ofString "dot" → y ≠ Str.ofString "more" → m' y = m y) : M2 t0 rw tot D1 D2 D3 m' := by
  refine ⟨?_, ?_, ?_, ?_, ?_, ?_⟩
  · rw [e _ (by decide) (by decide) (by decide)]; exact M.text
  · rw [e _ (by decide) (by decide) (by decide)]; exact M.last
  · rw [e _ (by decide) (by decide) (by decide)]; exact M.names
  · rw [e _ (by decide) (by decide) (by decide)]; exact M.begins
  · rw [e _ (by decide) (by decide) (by decide)]; exact M.ends
  · rw [e _ (by decide) (by decide) (by decide)]; exact M.behind
/-- between the turns of the second loop -/
noncomputable def J2 (G' : Heap) (L : Addr) (frs : List (Addr × Obj)) (t0 : Str) (rw : List Int) (tot : Int) (nv bv ev : List Value) (D1 D2 D3 : Addr) (k : Nat) (m : Str → Option Value) (led : List (Addr × Obj)) : Prop :=
  ∃ (vs : Array Value) (cs frs1 : List (Addr × Obj)), led = (D3, listOf ev.toArray rw.length) :: (D2, listOf bv.toArray rw.length) :: (D1, listOf nv.toArray rw.length) :: (cs ++ (183, tbO vs) :: frs1) ∧ SameUp frs frs1 ∧ Cds G' L vs cs ∧ M2 t0 rw tot D1 D2 D3 m
theorem cut1 {l : List Stmt} {env : Env} {Q : Flow → Shared → Prop} {E : Value → Shared → Prop} {A : Around} {s : Shared} (j : Nat) (h : wpAny (model pr w) A (execs ((l.drop j).take 1) env) (fun f s' => match f with | .next => wpAny (model pr w) A (execs (l.drop (j + 1)) env) Q E s' | f => Q f s') E s) : wpAny (model pr w) A (execs (l.drop j) env) Q E s := by
  have e : l.drop j = (l.drop j).take 1 ++ l.drop (j + 1) := by
    rw [← List.drop_drop, List.take_append_drop]
  rw [e]
  exact execs_cut h
set_option maxHeartbeats 4000000 in
theorem loop2 {D1 D2 D3 : Addr} {nv bv ev : List Value} {rw : List Int} {t0 : Str} {tot : Int} {m : Str → Option Value} {frs1 cs : List (Addr × Obj)} (hd : 12 ≤ d) (C : Cal w p loose mg mb G (d + 1) A l frs h0) (st : G.StaysIn G') (SU1 : SameUp frs frs1) (hc : Cds G' L vs cs)
    (hrw : rw.length ≤ 5) (ht0 : t0.length ≤ 10) (hnv : StrsAre nv (rw.map nmT)) (hbv : IntsAre bv (begs t0 rw rw.length)) (hev : IntsAre ev (ends t0 rw rw.length)) (M : M2 t0 rw tot D1 D2 D3 m)
    (F : Fr G' L h₁ m) (N : News G' L h₁ ((D3, listOf ev.toArray rw.length) :: (D2, listOf bv.toArray rw.length) :: (D1, listOf nv.toArray rw.length) :: (cs ++ (183, tbO vs) :: frs1))) (X : (K w.params).In G') (T : TopRead p loose mg mb G') (Qf : Flow → Shared → Prop) (E1 : Value → Shared → Prop)
    (hTh : Thru w (A.deeper (envLaw L)) (envLaw L) E1)
    (kk : ∀ h' tk' m' led, Fr G' L h' m' → News G' L h' led → J2 G' L frs t0 rw tot nv bv ev D1 D2 D3 rw.length m' led → Qf .next { s with heap := h', toks := tk' }) (tk : Nat) :
    wpAny (model pr w) (A.deeper (envLaw L)) (execs ((bod_40.drop 11).take 1) (envLaw L)) Qf E1 { s with heap := h₁, toks := tk } := by
  have reg : (PySem.Challenge.rw_ij0148_01, K) = (PySem.Challenge.rw_ij0148_01, K) := by k_fill; rfl
  clear reg
  have hPO := hTh.po
  have hPA := hTh.at_
  have hA1 : (A.deeper (envLaw L)).handled = none := C.hd
  have mn := M.names
  have hnl : nv.length = rw.length := by have := hnv.len_eq; simpa using this
  show wpAny _ _ (execs [_] _) _ _ _
  refine wpAny_execs_cons ?_
  refine For_invV G' rfl rfl ?_
  refine wpAny_mono (Q := fun xv s₁ => End (∃ r h' tk' t0 u0 v0, xv = .ref r ∧ s₁ = { s with heap := h', toks := tk' } ∧ IsRange h' r 0 (rw.length : Int) 1 t0 u0 v0 ∧ Fr G' L h' m ∧ News G' L h' ((D3, listOf ev.toArray rw.length) :: (D2, listOf bv.toArray rw.length) :: (D1, listOf nv.toArray rw.length) :: (cs ++ (183, tbO vs) :: frs1)))) ?_ ?_ (fun _ _ x => x)
  · iterate 10 (first | (k_unfold; (try dsimp only)) | walk1 | (dsimp only; walk1) | (leave1; try dsimp only))
    refine len_lstN (n := rw.length) (vs := nv) (News.get (by k_asm) (by simp)) hnl (by omega) ?_
    k_steps
    exact ⟨_, _, _, _, _, _, rfl, rfl, by assumption, by assumption, by assumption⟩
  rintro xv s₁ ⟨r, h2, tk2, u0, u1, u2, rfl, rfl, hr, F2, N2⟩
  refine range_inv (n := rw.length) (J2 G' L frs t0 rw tot nv bv ev D1 D2 D3) hA1 hr (by omega) F2 N2 ⟨vs, cs, frs1, rfl, SU1, hc, M⟩ ?_ ?_
  rotate_left
  · intro m₁ led h3 tk3 hj F3 N3
    refine wpAny_execs_nil ?_
    exact kk _ _ _ _ F3 N3 hj
  rintro i ti m₁ led I h3 tk3 hin hI ⟨vs1, cs1, frs2, rfl, SU2, hc1, M1⟩ F3 N3
  have M2' : M2 t0 rw tot D1 D2 D3 (fun y => if y = Str.ofString "k" then some (.int (i : Int) ti) else m₁ y) := M1.of fun y h _ _ => if_neg h
  refine cut1 (l := b2) 0 (t2_a hd C st SU2 hc1 hrw ht0 hin hnv hbv hev M2' (by rfl) F3 N3 X T _ _ hTh ?_ tk3)
  intro h4 tk4 vs4 cs4 frs4 hc4 SU4 F4 N4
  refine cut1 (l := b2) 1 (t2_b hd C st SU4 hc4 hrw ht0 hin hnv hbv hev M2' (by rfl) F4 N4 X T _ _ hTh ?_ tk4)
  intro h5 tk5 vs5 cs5 frs5 hc5 SU5 F5 N5
  refine cut1 (l := b2) 2 (t2_c hd C st SU5 hc5 hrw ht0 hin hnv hbv hev M2' (by rfl) F5 N5 X T _ _ hTh ?_ tk5)
  intro h6 tk6 vs6 cs6 frs6 hc6 SU6 F6 N6
  refine t2_d hd C st SU6 hc6 hrw ht0 hin hnv hbv hev M2' (by rfl) F6 N6 X T _ _ hTh ?_ tk6
  intro h7 tk7 vs7 cs7 frs7 m7 hm7 hc7 SU7 F7 N7
  refine ⟨h7, tk7, m7, _, rfl, F7, N7, ?_, vs7, cs7, frs7, rfl, SU7, hc7, M2'.of fun y _ h2 h3 => hm7 y h2 h3⟩
  intro q hq e
  have hmap : ∀ q ∈ frs7, ∃ r ∈ frs2, r.1 = q.1 := fun q hq => by
    have hm : q.1 ∈ frs2.map (·.1) := by rw [(sameUp_mem SU2).2, ← (sameUp_mem SU7).2]; exact List.mem_map_of_mem hq
    obtain ⟨r, hr, er⟩ := List.mem_map.mp hm
    exact ⟨r, hr, er⟩
  have hIo := (N7 _ List.mem_cons_self).1
  simp only [List.mem_cons, List.mem_append] at hq
  rcases hq with h | h | h | h | h | h
  · subst h; exact hI (D3, listOf ev.toArray rw.length) (by simp) e
  · subst h; exact hI (D2, listOf bv.toArray rw.length) (by simp) e
  · subst h; exact hI (D1, listOf nv.toArray rw.length) (by simp) e
  · have hqo := (N7 q (by simp [h])).1
    refine ne_obj hqo hIo ?_ e
    rw [hc7.cl q h]
    intro hh
    exact absurd (Value.type.inj hh) (by decide)
  · subst h; exact hI (183, tbO vs1) (by simp) e
  · obtain ⟨r, hr, er⟩ := hmap q h
    exact hI r (by simp [hr]) (er.trans e)
end
/-- further parts without gaps -/
noncomputable def jl (r : List Int) : List Nat := r.flatMap fun u => 46 :: tl (wyT u)
theorem jl_tail : ∀ r : List Int, KTail (jl r) (r.map fun v => tl (nmT v))
  | [] => .nil
  | u :: r => by
    have h := KTail.cons (h := []) (g := []) (fun c hc => nomatch hc) (part_way u) (fun c hc => nomatch hc) (jl_tail r)
    simpa [jl] using h
theorem tj (sep : Str) (l : List Str) : Txt.join sep l = Str.join sep l := StrLaws.glued_eq_join sep l
theorem join_tl : ∀ (r : List Int) (v : Int), tl (Txt.join (Str.ofString ".") ((v :: r).map wyT)) = tl (wyT v) ++ jl r
  | [], v => by
    have e : Txt.join (Str.ofString ".") ([v].map wyT) = wyT v := by rw [tj]; rfl
    rw [e]
    simp [jl]
  | u :: r, v => by
    have ih := join_tl r u
    rw [tj] at ih ⊢
    have e : Str.join (Str.ofString ".") ((v :: u :: r).map wyT) = wyT v ++ Str.ofString "." ++ Str.join (Str.ofString ".") ((u :: r).map wyT) := by
      first
        | rfl
        | (simp only [List.map_cons, Str.join]; done)
        | (simp only [List.map_cons, Str.join, str_assoc])
    rw [e, tl_app, tl_app, ih, show tl (Str.ofString ".") = [46] from dot_tl]
    simp [jl]
theorem sum_ways : ∀ l : List Int, ((l.map wyT).map (·.length)).sum ≤ 15 * l.length
  | [] => by simp
  | v :: l => by
    have := sum_ways l
    have := wyT_len v
    simp only [List.map_cons, List.sum_cons, List.length_cons]
    omega
theorem join_len (l : List Int) : (Txt.join (Str.ofString ".") (l.map wyT)).length ≤ 16 * l.length := by
  have h := StrLaws.join_length_le (Str.ofString ".") (l.map wyT)
  have h2 := sum_ways l
  have e : (Str.ofString ".").length = 1 := by decide
  rw [e, List.length_map] at h
  have : (Txt.join (Str.ofString ".") (l.map wyT)).length = (Str.join (Str.ofString ".") (l.map wyT)).length := by rw [tj]
  omega
/-- one way cut out of the whole text -/
theorem fu_way {t0 : Str} {rw : List Int} {tot : Int} {k : Nat} (hk : k < rw.length) : Txt.slice (fuT t0 rw tot) (some ((TXB t0 rw k).length : Int)) (some ((TXE t0 rw k).length : Int)) = wyT (rw.getD k 0) := by
  obtain ⟨g, t, f1, _, _, f4⟩ := fu_from (t0 := t0) (rw := rw) (tot := tot) hk
  have eE : (TXE t0 rw k).length = (TXB t0 rw k).length + (wyT (rw.getD k 0)).length := by unfold TXE; rw [app_len]
  have hl := congrArg List.length f1
  simp only [List.length_drop, List.length_append, tl_len] at hl
  have h1 : Txt.slice (fuT t0 rw tot) (some ((TXB t0 rw k).length : Int)) (some ((TXE t0 rw k).length : Int)) = StrLaws.sliceText (fuT t0 rw tot) (some ((TXB t0 rw k).length : Int)) (some ((TXE t0 rw k).length : Int)) := rfl
  have hb : (TXE t0 rw k).length ≤ (fuT t0 rw tot).length := by
    obtain ⟨z, hz⟩ := fu_pre (t0 := t0) (tot := tot) hk
    have := congrArg List.length hz
    rw [List.length_append, tl_len, tl_len] at this
    omega
  rw [h1, StrLaws.sliceText_plain ⟨by omega, by omega, by show ((TXE t0 rw k).length : Int) ≤ ((tl (fuT t0 rw tot)).length : Int); rw [tl_len]; omega⟩]
  have e2 : (((TXE t0 rw k).length : Int) - ((TXB t0 rw k).length : Int)).toNat = (tl (wyT (rw.getD k 0))).length := by rw [tl_len]; omega
  rw [e2]
  show (⟨(((tl (fuT t0 rw tot)).drop (TXB t0 rw k).length).take (tl (wyT (rw.getD k 0))).length).toArray⟩ : Str) = _
  rw [f1, List.take_left, tl_mk]
noncomputable abbrev envTu (L : Addr) : Env := envOf (Str.ofString "_law_turned") scp_39 L 230 (.ref 229)
noncomputable def b3 : List Stmt := forBody (bod_39.getD 1 (.Pass default))
theorem apart_up {a b : List (Addr × Obj)} {S : Addr} (SU : SameUp a b) (h : ∀ q ∈ a, q.1 ≠ S) : ∀ q ∈ b, q.1 ≠ S := fun q hq => by
  have hm : q.1 ∈ a.map (·.1) := by rw [← (sameUp_mem SU).2]; exact List.mem_map_of_mem hq
  obtain ⟨r, hr, er⟩ := List.mem_map.mp hm
  rw [← er]
  exact h r hr
section
variable {w : World} {p : Program} {loose : List Str} {mg mb : Str → Option Value} {G : Heap} {d : Nat} {A : Around} {l : List Env} {frs : List (Addr × Obj)} {s : Shared} {h0 G' h₁ : Heap} {L sc : Addr} {vs : Array Value}
/-- what the names of the last walk hold -/
structure M3 (t0 : Str) (rw : List Int) (tot : Int) (D1 D2 S : Addr) (m : Str → Option Value) : Prop where
  text : ∃ t, m (Str.ofString "text") = some (.str (fuT t0 rw tot) t)
  names : m (Str.ofString "names") = some (.ref D1)
  begins : m (Str.ofString "begins") = some (.ref D2)
  behind : ∃ t, m (Str.ofString "behind") = some (.str (behT tot) t)
  str : m (Str.ofString "stretches") = some (.ref S)
set_option maxHeartbeats 4000000 in
theorem t3 {D1 D2 S I : Addr} {k n2 : Nat} {bv sv : List Value} {rw : List Int} {t0 : Str} {tot : Int} {m : Str → Option Value} {ti : Tok} {frs1 : List (Addr × Obj)} (hd : 9 ≤ d) (C : Cal w p loose mg mb G (d + 1) A l frs h0) (st : G.StaysIn G') (hv : TbV G' vs) (SU1 : SameUp frs frs1)
    (hrw : rw.length ≤ 5) (ht0 : t0.length ≤ 10) (hk : k < rw.length) (hD2 : G'.get? D2 = some (listOf bv.toArray n2)) (hbv : IntsAre bv (begs t0 rw rw.length)) (hsl : sv.length ≤ 100) (apS : ∀ q ∈ frs, q.1 ≠ S) (apI : I ≠ S) (ap183 : S ≠ 183) (M : M3 t0 rw tot D1 D2 S m) (mk : m (Str.ofString "k") = some (.int (k : Int) ti))
    (F : Fr G' L h₁ m) (N : News G' L h₁ ((I, itI rw.length k) :: (S, listOf sv.toArray k) :: (183, tbO vs) :: frs1)) (X : (K w.params).In G') (T : TopRead p loose mg mb G') (Qf : Flow → Shared → Prop) (E1 : Value → Shared → Prop)
    (hTh : Thru w (A.deeper (envTu L)) (envTu L) E1)
    (kk : ∀ h' tk' frs2 m' tz, (∀ y, y ≠ Str.ofString "end" → y ≠ Str.ofString "name" → m' y = m y) → SameUp frs frs2 → Fr G' L h' m' → News G' L h' ((I, itI rw.length k) :: (S, listOf (sv ++ [Value.str (wyT (rw.getD k 0)) tz]).toArray (k + 1)) :: (183, tbO vs) :: frs2) → Qf .next { s with heap := h', toks := tk' }) (tk : Nat) :
    wpAny (model pr w) (A.deeper (envTu L)) (execs b3 (envTu L)) Qf E1 { s with heap := h₁, toks := tk } := by
  have reg : (PySem.Challenge.rw_ij0148_01, K) = (PySem.Challenge.rw_ij0148_01, K) := by k_fill; rfl
  clear reg
  have hPO := hTh.po
  have hPA := hTh.at_
  have hA1 : (A.deeper (envTu L)).handled = none := C.hd
  obtain ⟨tt, mt⟩ := M.text
  have mb' := M.begins
  have ms := M.str
  have hfl := fu_len (tot := tot) ht0 hrw
  have hbk : (begs t0 rw rw.length)[k]? = some ((TXB t0 rw k).length : Int) := by simp [begs, hk]
  obtain ⟨tb, hb⟩ := hbv.get k _ hbk
  have hb' : bv[((k : Int)).toNat]? = some (Value.int ((TXB t0 rw k).length : Int) tb) := hb
  have hbl : bv.length ≤ 10000 := by have := hbv.length; simp [begs] at this; omega
  obtain ⟨g, t, f1, f2, f3, f4⟩ := fu_from (t0 := t0) (rw := rw) (tot := tot) hk
  have hway := fu_way (t0 := t0) (tot := tot) hk
  have hpart := part_ok (p := p) (loose := loose) (w := w) (mg := mg) (mb := mb) (G := G) (t1 := tt) (t2 := tb) (part_way (rw.getD k 0)) (stop_gap f2 f3 (behT_stop tot)) f1 (by have h := hfl; unfold Str.length at h; omega)
  have eE : (TXB t0 rw k).length + (tl (wyT (rw.getD k 0))).length = (TXE t0 rw k).length := by
    unfold TXE
    rw [app_len, tl_len]
  rw [eE, tl_mk] at hpart
  clear M hbk f1 f2 f3 f4 eE
  generalize fuT t0 rw tot = FU at mt hfl hway hpart
  generalize TXE t0 rw k = XE at hway hpart
  generalize TXB t0 rw k = X0 at hb hb' hway hpart
  show wpAny _ _ (execs [_, _] _) _ _ _
  iterate 11 (first | (k_unfold; (try dsimp only)) | walk1 | (dsimp only; walk1) | (leave1; try dsimp only))
  refine item_lstZ (n := n2) (vs := bv) (F.keep _ _ hD2) (by omega) hb' hbl ?_
  k_steps
  refine use_ok [_, _] (hpart |>.up (by omega)) C (by k_asm) (by assumption) SU1 st (ac rfl (ac rfl (fun q h => (nomatch h)))) hv rfl ?_
  rintro r h' tk' frs2 SU2 F2 N2 ⟨t4, t5, a, rfl, ha, ha'⟩
  have N3 := new_in (by assumption) N2 ha ha'
  clear N2
  iterate 23 (first | (k_unfold; (try dsimp only)) | walk1 | (dsimp only; walk1) | (leave1; try dsimp only))
  rename Fr _ _ _ _ => F8
  refine item_lstZ (n := n2) (vs := bv) (F8.keep _ _ hD2) (by omega) hb' hbl ?_
  iterate 5 (first | (k_unfold; (try dsimp only)) | walk1 | (dsimp only; walk1) | (leave1; try dsimp only))
  rename News _ _ _ _ => N9
  rename_i tz _ _ _
  rw [hway]
  refine app_lst (D := S) (vs := sv) (n := k) (v := Value.str (wyT (rw.getD k 0)) tz) (l' := (I, itI rw.length k) :: (S, listOf (sv ++ [Value.str (wyT (rw.getD k 0)) tz]).toArray (k + 1)) :: (183, tbO vs) :: frs2) (by k_asm) N9 (by simp) ?_ (by omega) ?_
  · intro q hq
    simp only [List.mem_cons] at hq
    rcases hq with h | h | h | h
    · left; subst h; exact ⟨by simp, apI⟩
    · right; exact h
    · left; subst h; exact ⟨by simp, fun e => ap183 e.symm⟩
    · left; exact ⟨by simp [h], apart_up SU2 apS q h⟩
  intro h2 F2 N2
  k_steps
  refine kk _ _ frs2 _ tz ?_ SU2 F2 N2
  intro y y1 y2
  simp only [if_neg y1, if_neg y2]
end
section
variable {prog : Program} {w : World} {A : Around} {E : Value → Shared → Prop} {s : Shared} {h₀ : Heap} {L D : Addr} {m : Str → Option Value} {led : List (Addr × Obj)} {vs : List Value} {n k : Nat} {t u : Tok} {v : Value} {Q : Value → Shared → Prop} {value slice : PySem.Expr} {c : Int}
theorem sl_revG {vk : Value} {ops : List Value} (F : Fr h₀ L s.heap m) (N : News h₀ L s.heap led) (hD : s.heap.get? D = some (listOf vs.toArray n)) (pk : IsPart vk (some (-1))) (hz : vs.length ≤ 10000)
    (h : ∀ a h', Fr h₀ L h' m → News h₀ L h' ((a, listOf vs.reverse.toArray 0) :: led) → Q (.ref a) { s with heap := h' })
    (hs : subscripted slice false (.ref D) (.ref s.heap.objs.size) = operate ops (getItem (.ref D) (.ref s.heap.objs.size)) := by with_unfolding_all rfl) (ht : ∀ r, letTemporaryGo value (.ref D) r = pure () := by intro _; with_unfolding_all rfl) :
    wpAny (model prog w) A (subscriptTail value slice (.ref D) (.ref s.heap.objs.size)) Q E { s with heap := s.heap.push { cls := .type "slice", data := .fields #[.none, .none, vk] } } := by
  refine PyProof.Rows.slice_list3 F N ⟨_, hD, rfl, n, rfl⟩ .none .none pk (by decide) (fun h' F' N' => h _ h' F' ?_) hs ht (by simp only [List.size_toArray]; exact Nat.le_trans hz (by decide))
  rw [krv_pick] at N'
  exact N'
theorem strs_rev : ∀ {vs : List Value} {ss : List Str}, StrsAre vs ss → StrsAre vs.reverse ss.reverse := by
  intro vs ss h
  induction h with
  | nil => exact .nil
  | cons y t _ ih =>
    simp only [List.reverse_cons]
    exact StrsAre.snoc ih y t
end
section
variable {w : World} {p : Program} {loose : List Str} {mg mb : Str → Option Value} {G : Heap} {d : Nat} {A : Around} {l : List Env} {frs : List (Addr × Obj)} {s : Shared} {h0 G' h₁ : Heap} {L sc : Addr} {vs : Array Value}
theorem M3.of {t0 : Str} {rw : List Int} {tot : Int} {D1 D2 S : Addr} {m m' : Str → Option Value} (M : M3 t0 rw tot D1 D2 S m) (e : ∀ y, y ≠ Str.ofString "k" → y ≠ Str.ofString "end" → y ≠ Str.ofString "name" → m' y = m y) : M3 t0 rw tot D1 D2 S m' := by
  refine ⟨?_, ?_, ?_, ?_, ?_⟩
  · rw [e _ (by decide) (by decide) (by decide)]; exact M.text
  · rw [e _ (by decide) (by decide) (by decide)]; exact M.names
  · rw [e _ (by decide) (by decide) (by decide)]; exact M.begins
  · rw [e _ (by decide) (by decide) (by decide)]; exact M.behind
  · rw [e _ (by decide) (by decide) (by decide)]; exact M.str
noncomputable def J3 (frs : List (Addr × Obj)) (vs : Array Value) (t0 : Str) (rw : List Int) (tot : Int) (D1 D2 S : Addr) (k : Nat) (m : Str → Option Value) (led : List (Addr × Obj)) : Prop :=
  ∃ (sv : List Value) (frs1 : List (Addr × Obj)), led = (S, listOf sv.toArray k) :: (183, tbO vs) :: frs1 ∧ SameUp frs frs1 ∧ StrsAre sv ((rw.take k).map wyT) ∧ M3 t0 rw tot D1 D2 S m
set_option maxHeartbeats 4000000 in
theorem loop3 {D1 D2 S : Addr} {n2 : Nat} {bv : List Value} {rw : List Int} {t0 : Str} {tot : Int} {m : Str → Option Value} (hd : 9 ≤ d) (C : Cal w p loose mg mb G (d + 1) A l frs h0) (st : G.StaysIn G') (hv : TbV G' vs)
    (hrw : rw.length ≤ 5) (ht0 : t0.length ≤ 10) (hD2 : G'.get? D2 = some (listOf bv.toArray n2)) (hbv : IntsAre bv (begs t0 rw rw.length)) (apS : ∀ q ∈ frs, q.1 ≠ S) (ap183 : S ≠ 183) (M : M3 t0 rw tot D1 D2 S m)
    (F : Fr G' L h₁ m) (N : News G' L h₁ ((S, listOf #[] 0) :: (183, tbO vs) :: frs)) (X : (K w.params).In G') (T : TopRead p loose mg mb G') (Qf : Flow → Shared → Prop) (E1 : Value → Shared → Prop)
    (hTh : Thru w (A.deeper (envTu L)) (envTu L) E1)
    (kk : ∀ h' tk' m' led, Fr G' L h' m' → News G' L h' led → J3 frs vs t0 rw tot D1 D2 S rw.length m' led → Qf .next { s with heap := h', toks := tk' }) (tk : Nat) :
    wpAny (model pr w) (A.deeper (envTu L)) (execs ((bod_39.drop 1).take 1) (envTu L)) Qf E1 { s with heap := h₁, toks := tk } := by
  have reg : (PySem.Challenge.rw_ij0148_01, K) = (PySem.Challenge.rw_ij0148_01, K) := by k_fill; rfl
  clear reg
  have hPO := hTh.po
  have hPA := hTh.at_
  have hA1 : (A.deeper (envTu L)).handled = none := C.hd
  have mb' := M.begins
  have hbl : bv.length = rw.length := by have := hbv.length; simpa [begs] using this
  show wpAny _ _ (execs [_] _) _ _ _
  refine wpAny_execs_cons ?_
  refine For_invV G' rfl rfl ?_
  refine wpAny_mono (Q := fun xv s₁ => End (∃ r h' tk' t0 u0 v0, xv = .ref r ∧ s₁ = { s with heap := h', toks := tk' } ∧ IsRange h' r 0 (rw.length : Int) 1 t0 u0 v0 ∧ Fr G' L h' m ∧ News G' L h' ((S, listOf #[] 0) :: (183, tbO vs) :: frs))) ?_ ?_ (fun _ _ x => x)
  · iterate 10 (first | (k_unfold; (try dsimp only)) | walk1 | (dsimp only; walk1) | (leave1; try dsimp only))
    refine len_lstN (n := n2) (vs := bv) (F.keep _ _ hD2) hbl (by omega) ?_
    k_steps
    exact ⟨_, _, _, _, _, _, rfl, rfl, by assumption, by assumption, by assumption⟩
  rintro xv s₁ ⟨r, h2, tk2, u0, u1, u2, rfl, rfl, hr, F2, N2⟩
  refine range_inv (n := rw.length) (J3 frs vs t0 rw tot D1 D2 S) hA1 hr (by omega) F2 N2 ⟨[], frs, rfl, SameUp.refl _, .nil, M⟩ ?_ ?_
  rotate_left
  · intro m₁ led h3 tk3 hj F3 N3
    refine wpAny_execs_nil ?_
    exact kk _ _ _ _ F3 N3 hj
  rintro i ti m₁ led I h3 tk3 hin hI ⟨sv, frs2, rfl, SU2, hsv, M1⟩ F3 N3
  have M2' : M3 t0 rw tot D1 D2 S (fun y => if y = Str.ofString "k" then some (.int (i : Int) ti) else m₁ y) := M1.of fun y h _ _ => if_neg h
  have hsl := hsv.len_eq
  refine t3 hd C st hv SU2 hrw ht0 hin hD2 hbv (by simp at hsl; omega) apS (fun e => hI (S, listOf sv.toArray i) (by k_mem) e.symm) ap183 M2' (by rfl) F3 N3 X T _ _ hTh ?_ tk3
  intro h7 tk7 frs7 m7 tz hm7 SU7 F7 N7
  refine ⟨h7, tk7, m7, _, rfl, F7, N7, ?_, _, frs7, rfl, SU7, ?_, M2'.of fun y _ h2 h3 => hm7 y h2 h3⟩
  · intro q hq e
    have hmap : ∀ q ∈ frs7, ∃ r ∈ frs2, r.1 = q.1 := fun q hq => by
      have hm : q.1 ∈ frs2.map (·.1) := by rw [(sameUp_mem SU2).2, ← (sameUp_mem SU7).2]; exact List.mem_map_of_mem hq
      obtain ⟨r, hr, er⟩ := List.mem_map.mp hm
      exact ⟨r, hr, er⟩
    simp only [List.mem_cons] at hq
    rcases hq with h | h | h
    · subst h; exact hI (S, listOf sv.toArray i) (by k_mem) e
    · subst h; exact hI (183, tbO vs) (by k_mem) e
    · obtain ⟨r, hr, er⟩ := hmap q h
      exact hI r (by repeat first | exact hr | apply List.mem_cons_of_mem) (er.trans e)
  · have e : (rw.take (i + 1)).map wyT = (rw.take i).map wyT ++ [wyT (rw.getD i 0)] := by
      rw [List.take_add_one, List.getElem?_eq_getElem hin, List.map_append]
      have e2 : rw.getD i 0 = rw[i] := by rw [List.getD_eq_getElem?_getD, List.getElem?_eq_getElem hin]; rfl
      rw [e2]
      rfl
    rw [e]
    exact StrsAre.snoc hsv _ _
end
local macro_rules | `(tactic| walk_at "call type:tuple") => `(tactic| (k_here; (refine tup_of (by k_asm) (by assumption) List.mem_cons_self (by assumption) ?_); intro _ _ _ _))
section
variable {w : World} {p : Program} {loose : List Str} {mg mb : Str → Option Value} {G : Heap} {d : Nat} {A : Around} {l : List Env} {frs : List (Addr × Obj)} {s : Shared} {h0 G' h₁ : Heap} {L sc : Addr} {vs : Array Value}
/-- the turned key -/
noncomputable abbrev tuT (rw : List Int) : Str := Txt.join (Str.ofString ".") (rw.reverse.map wyT)
theorem tu_key {rw : List Int} (h : 0 < rw.length) : ∃ v r, rw.reverse = v :: r ∧ tl (tuT rw) = tl (wyT v) ++ jl r := by
  cases e : rw.reverse with
  | nil => rw [List.reverse_eq_nil_iff] at e; rw [e] at h; cases h
  | cons v r => exact ⟨v, r, rfl, by unfold tuT; rw [e]; exact join_tl r v⟩
set_option maxHeartbeats 4000000 in
theorem tu_b {D1 D2 S : Addr} {n1 : Nat} {nv sv : List Value} {rw : List Int} {t0 : Str} {tot : Int} {m : Str → Option Value} {frs1 : List (Addr × Obj)} (hd : 11 ≤ d) (C : Cal w p loose mg mb G (d + 1) A l frs h0) (st : G.StaysIn G') (hv : TbV G' vs) (SU1 : SameUp frs frs1)
    (hrw0 : 0 < rw.length) (hrw : rw.length ≤ 5) (hD1 : G'.get? D1 = some (listOf nv.toArray n1)) (hnv : StrsAre nv (rw.map nmT)) (hsv : StrsAre sv (rw.map wyT)) (M : M3 t0 rw tot D1 D2 S m)
    (F : Fr G' L h₁ m) (N : News G' L h₁ ((S, listOf sv.toArray rw.length) :: (183, tbO vs) :: frs1)) (X : (K w.params).In G') (T : TopRead p loose mg mb G') (Qf : Flow → Shared → Prop) (E1 : Value → Shared → Prop)
    (hTh : Thru w (A.deeper (envTu L)) (envTu L) E1)
    (kk : ∀ h' tk' vs' cs' frs2 m' new, Cds G' L vs' cs' → SameUp frs frs2 → Fr G' L h' m' → News G' L h' (new ++ (cs' ++ (183, tbO vs') :: frs2)) → Qf (.ret (.bool true)) { s with heap := h', toks := tk' }) (tk : Nat) :
    wpAny (model pr w) (A.deeper (envTu L)) (execs (bod_39.drop 2) (envTu L)) Qf E1 { s with heap := h₁, toks := tk } := by
  have reg : (PySem.Challenge.rw_ij0148_01, K) = (PySem.Challenge.rw_ij0148_01, K) := by k_fill; rfl
  clear reg
  have hPO := hTh.po
  have hPA := hTh.at_
  have hA1 : (A.deeper (envTu L)).handled = none := C.hd
  have mn := M.names
  obtain ⟨tb, mb'⟩ := M.behind
  have ms := M.str
  have hsl : sv.length ≤ 10000 := by have := hsv.len_eq; simp at this; omega
  have hnl : nv.length ≤ 10000 := by have := hnv.len_eq; simp at this; omega
  have hnl2 : nv.reverse.length ≤ 10000 := by simpa using hnl
  obtain ⟨v, r, er, hk⟩ := tu_key hrw0
  have hTl : (tuT rw).length ≤ 80 := by
    have := join_len rw.reverse
    rw [List.length_reverse] at this
    exact Nat.le_trans this (by omega)
  have hbl := behT_len tot
  have hsum := sum_ways rw.reverse
  have hun := C.un
  have hue : (A.deeper (envTu L)).units + 64 < cLine := by
    unfold Around.deeper
    simp only
    omega
  have hsv2 : StrsAre sv.reverse (rw.reverse.map wyT) := by
    have := strs_rev hsv
    rw [← List.map_reverse] at this
    exact this
  have hnv2 : StrsAre nv.reverse (rw.reverse.map nmT) := by
    have := strs_rev hnv
    rw [← List.map_reverse] at this
    exact this
  have hbs := behT_stop tot
  generalize behT tot = BE at mb' hbl hbs
  show wpAny _ _ (execs [_, _] _) _ _ _
  iterate 16 (first | (k_unfold; (try dsimp only)) | walk1 | (dsimp only; walk1) | (leave1; try dsimp only))
  refine sl_revG (n := rw.length) (vs := sv) F N (N _ List.mem_cons_self).1 (.int _ _) hsl ?_
  intro a1 h3 F3 N3
  iterate 1 (first | (k_unfold; (try dsimp only)) | walk1 | (dsimp only; walk1) | (leave1; try dsimp only))
  refine join_list (ys := rw.reverse.map wyT) (x := Str.ofString ".") ⟨_, (N3 _ List.mem_cons_self).1, rfl, 0, rfl⟩ hsv2 ?_ ?_
  · have e : (Str.ofString ".").length = 1 := by decide
    rw [e, List.length_map]
    rw [List.length_reverse] at hsum ⊢
    omega
  intro t4 k4
  generalize hT : Txt.join (Str.ofString ".") (rw.reverse.map wyT) = TU at *
  have hT2 : tuT rw = TU := hT
  rw [hT2] at hk hTl
  have hk2 : tl (TU ++ BE) = tl (wyT v) ++ ([] ++ (jl r ++ tl BE)) := by
    rw [tl_app, hk]
    simp
  have hml : (TU ++ BE).length ≤ 100 := by rw [app_len]; omega
  have hmm : (0 + (tl (wyT v)).length + ([] : List Nat).length + (jl r).length) = TU.length := by
    have := congrArg List.length hk
    rw [List.length_append, tl_len] at this
    simp only [List.length_nil]
    omega
  k_steps
  refine use_T [_, _] [] (lawkey_ok (src := TU ++ BE) (n := 0) (g := []) (part_way v) (fun c hc => nomatch hc) (jl_tail r) (.inl hbs) (by rw [List.drop_zero]; exact hk2) (Nat.le_trans hml (by decide)) |>.up (by omega)) C (by k_asm) (by assumption) SU1 st (ac rfl (ac rfl (fun q h => (nomatch h)))) (Cds.ofG hv) rfl ?_
  rintro r4 h5 tk5 vs5 cs5 frs5 hc5 SU5 F5 N5 post
  rcases post with ⟨_, a, b, t6, xs, rfl, ha, hb0, ha', hb0', hxs⟩ | ⟨hh, bb, e1, _⟩
  · have N6 := new_in (by assumption) (new_in (by assumption) N5 hb0 hb0') ha ha'
    clear N5
    rw [hmm] at ha' N6
    have hxs2 : StrsAre xs (rw.reverse.map nmT) := by
      rw [er]
      exact vals_key (l := v :: r) hxs
    iterate 23 (first | (k_unfold; (try dsimp only)) | walk1 | (dsimp only; walk1) | (leave1; try dsimp only))
    refine sl_revG (n := n1) (vs := nv) F5 N6 (F5.keep _ _ hD1) (.int _ _) hnl ?_
    intro a2 h7 F7 N7
    iterate 4 (first | (k_unfold; (try dsimp only)) | walk1 | (dsimp only; walk1) | (leave1; try dsimp only))
    rename News _ _ _ _ => N8
    refine eq_key (ss := rw.reverse.map nmT) (nms_ok2 _) hue (N8 _ (.tail _ (.tail _ (.tail _ (.head _))))).1 (N8 _ (.tail _ (.tail _ (.tail _ (.tail _ (.head _)))))).1 hxs2 (N8 _ (.head _)).1 (N8 _ (.tail _ (.head _))).1 hnv2 ?_
    exact kk _ _ vs5 cs5 frs5 _ [_, _, _, _, _, _, _] hc5 SU5 (by assumption) N8
  · exfalso
    have := hbs 46 _ e1
    revert this
    decide
end
theorem turned_key {w : World} {p : Program} {loose : List Str} {mg mb : Str → Option Value} {G : Heap} {D1 D2 : Addr} {n1 n2 : Nat} {nv bv : List Value} {rw : List Int} {t0 : Str} {tot : Int} {t1 t2 : Tok} {A : Around} {l : List Env} {frs : List (Addr × Obj)} {s : Shared} {h0 G' h₁ : Heap} {L : Addr} {vs : Array Value} (hrw0 : 0 < rw.length) (hrw : rw.length ≤ 5) (ht0 : t0.length ≤ 10)
    (hnv : StrsAre nv (rw.map nmT)) (hbv : IntsAre bv (begs t0 rw rw.length)) (C : Cal w p loose mg mb G 12 A l frs h0) (hD1 : G'.get? D1 = some (listOf nv.toArray n1)) (hD2 : G'.get? D2 = some (listOf bv.toArray n2)) (st : G.StaysIn G') (hv : TbV G' vs)
    (F : Fr G' L h₁ (bd [(Str.ofString "behind", .str (behT tot) t2), (Str.ofString "names", .ref D1), (Str.ofString "begins", .ref D2), (Str.ofString "text", .str (fuT t0 rw tot) t1)])) (N : News G' L h₁ ((183, tbO vs) :: frs)) (X : (K w.params).In G') (T : TopRead p loose mg mb G')
    (Qf : Flow → Shared → Prop) (E1 : Value → Shared → Prop) (hTh : Thru w (A.deeper (envTu L)) (envTu L) E1)
    (kk : ∀ h' tk' vs' cs' frs2 m' new, Cds G' L vs' cs' → SameUp frs frs2 → Fr G' L h' m' → News G' L h' (new ++ (cs' ++ (183, tbO vs') :: frs2)) → Qf (.ret (.bool true)) { s with heap := h', toks := tk' }) (tk : Nat) :
    wpAny (model pr w) (A.deeper (envTu L)) (execs bod_39 (envTu L)) Qf E1 { s with heap := h₁, toks := tk } := by
  have reg : (PySem.Challenge.rw_ij0148_01, K) = (PySem.Challenge.rw_ij0148_01, K) := by k_fill; rfl
  clear reg
  have hPO := hTh.po
  have hPA := hTh.at_
  have hA1 : (A.deeper (envTu L)).handled = none := C.hd
  refine cut1 (l := bod_39) 0 ?_
  show wpAny _ _ (execs [_] _) _ _ _
  iterate 6 (first | (k_unfold; (try dsimp only)) | walk1 | (dsimp only; walk1) | (leave1; try dsimp only))
  rename News _ _ _ _ => N1
  rename (Fr _ _ _ _) => F1
  rename (_ ∧ AllLt _ _) => q1
  rename_i S _ _
  refine wpAny_execs_nil ?_
  have hap : ∀ q ∈ frs, q.1 ≠ S := fun q hq => Nat.ne_of_lt (allLt_up q1.2 (SameUp.refl _) q hq)
  refine cut1 (l := bod_39) 1 (loop3 (d := 11) (s := s) (by omega) C st hv hrw ht0 hD2 hbv hap (Nat.ne_of_gt q1.1) (tot := tot) (D1 := D1) ⟨⟨_, rfl⟩, rfl, rfl, ⟨_, rfl⟩, rfl⟩ F1 N1 X T _ _ hTh ?_ _)
  intro h3 tk3 m3 led F3 N3 ⟨sv, frs2, hled, SU2, hsv, M3'⟩
  subst hled
  rw [List.take_length] at hsv
  exact tu_b (s := s) (d := 11) (by omega) C st hv SU2 hrw0 hrw hD1 hnv hsv M3' F3 N3 X T _ _ hTh kk tk3
theorem turned_ok {w : World} {p : Program} {loose : List Str} {mg mb : Str → Option Value} {G : Heap} {D1 D2 : Addr} {n1 n2 : Nat} {nv bv : List Value} {rw : List Int} {t0 : Str} {tot : Int} {t1 t2 : Tok} {A : Around} {l : List Env} {frs : List (Addr × Obj)} {s : Shared} {Q E : Value → Shared → Prop} (hrw0 : 0 < rw.length) (hrw : rw.length ≤ 5) (ht0 : t0.length ≤ 10)
    (hnv : StrsAre nv (rw.map nmT)) (hbv : IntsAre bv (begs t0 rw rw.length)) (C : Cal w p loose mg mb G 12 A l frs s.heap) (hD1 : s.heap.get? D1 = some (listOf nv.toArray n1)) (hD2 : s.heap.get? D2 = some (listOf bv.toArray n2))
    (hret : ∀ h' tk', Kp (frs.map (·.1)) s.heap h' → Tb h' → Q (.bool true) { s with heap := h', toks := tk' }) :
    wpAny (model pr w) A (call (.ref 230) [.str (fuT t0 rw tot) t1, .ref D2, .ref D1, .str (behT tot) t2]) Q E s := by
  have reg : (PySem.Challenge.rw_ij0148_01, K) = (PySem.Challenge.rw_ij0148_01, K) := by k_fill; rfl
  clear reg
  refine wpAny_call ?_
  k_dflt (refine' enter (d := 11) C ?ho ?hcd ?hb ?hl ?_ ?c2 ?c3 ?c4 ?c5; (case ho => k_is); (case hcd => k_is); (case hb => exact BindsTo.of_eq rfl); (case c5 => decide); (case hl => exact locs rfl); (case c2 => exact rfl); (case c3 => exact rfl); (case c4 => exact rfl))
  intro G' h₁ vs hv F N st eG X T hs1 tb0
  have vis : ∀ {D : Addr} {xs : List Value} {n : Nat}, s.heap.get? D = some (listOf xs.toArray n) → G'.get? D = some (listOf xs.toArray n) := fun {D xs n} h => by
    rw [eG]
    refine hideAll_get _ h fun hm => ?_
    rcases List.mem_cons.mp hm with e | hm
    · rw [e, tb0] at h
      have := congrArg Obj.data (Option.some.inj h)
      exact nomatch this
    · obtain ⟨q, hq, e⟩ := List.mem_map.mp hm
      obtain ⟨es, ep, hd⟩ := frs_dict C.fs q hq
      have h2 := C.there q hq
      rw [e, h] at h2
      rw [← Option.some.inj h2] at hd
      exact nomatch hd
  refine wpAny_mono (turned_key (s := s) (t0 := t0) (tot := tot) hrw0 hrw ht0 hnv hbv C (vis hD1) (vis hD2) st hv F N X T _ _ Thru.leaving (fun h' tk' vs' cs' frs2 m' new hc' SU' F' N' => ?_) _) (fun _ _ x => x) (fun _ _ x => x)
  refine hret _ _ (kp_of (new := new ++ cs') F' (by rw [List.append_assoc]; exact N') SU' eG C.there) ⟨vs', (N' (183, tbO vs') (by simp)).1, hc'.tb h' F'.keep fun q hq => N' q (by simp [hq])⟩
section
variable {w : World} {p : Program} {loose : List Str} {mg mb : Str → Option Value} {G : Heap} {d : Nat} {A : Around} {l : List Env} {frs : List (Addr × Obj)} {s : Shared} {h0 G' h₁ : Heap} {L sc : Addr} {vs : Array Value}
set_option maxHeartbeats 4000000 in
theorem law_b {R D1 D2 D3 : Addr} {ws : List Value} {rw : List Int} {t0 : Str} {tot : Int} {m : Str → Option Value} {led : List (Addr × Obj)} (C : Cal w p loose mg mb G (d + 1) A l frs h0) (hrw : rw.length ≤ 5) (ht0 : t0.length ≤ 10)
    (hJ : J1 frs vs t0 rw ws R D1 D2 D3 (behT tot) rw.length m led) (F : Fr G' L h₁ m) (N : News G' L h₁ led) (X : (K w.params).In G') (T : TopRead p loose mg mb G') (Qf : Flow → Shared → Prop) (E1 : Value → Shared → Prop)
    (hTh : Thru w (A.deeper (envLaw L)) (envLaw L) E1)
    (kk : ∀ h' tk' m' frs1 nv bv ev, Fr G' L h' m' → News G' L h' ((D3, listOf ev.toArray rw.length) :: (D2, listOf bv.toArray rw.length) :: (D1, listOf nv.toArray rw.length) :: ([] ++ (183, tbO vs) :: frs1)) → SameUp frs frs1 → StrsAre nv (rw.map nmT) → IntsAre bv (begs t0 rw rw.length) → IntsAre ev (ends t0 rw rw.length) →
      M2 t0 rw tot D1 D2 D3 m' → Qf .next { s with heap := h', toks := tk' }) (tk : Nat) :
    wpAny (model pr w) (A.deeper (envLaw L)) (execs ((bod_40.drop 8).take 3) (envLaw L)) Qf E1 { s with heap := h₁, toks := tk } := by
  have reg : (PySem.Challenge.rw_ij0148_01, K) = (PySem.Challenge.rw_ij0148_01, K) := by k_fill; rfl
  clear reg
  have hPO := hTh.po
  have hPA := hTh.at_
  have hA1 : (A.deeper (envLaw L)).handled = none := C.hd
  obtain ⟨frs1, nv, bv, ev, t, tb, rfl, SU1, hnv, hbv, hev, r1, r2, r3, r4, r5, r6⟩ := hJ
  rw [List.take_length] at hnv
  have hX := TX_len t0 rw ht0 rw.length
  have hone : (Str.ofString " ").length = 1 := by decide
  have hbl := behT_len tot
  have hfin : fuT t0 rw tot = TX t0 rw rw.length ++ Str.ofString " " ++ behT tot := rfl
  have hkk := fun h' tk' m' F' N' hM => kk h' tk' m' frs1 nv bv ev F' N' SU1 hnv hbv hev hM
  have hM2 : ∀ {m' : Str → Option Value}, (∃ t, m' (Str.ofString "text") = some (.str (TX t0 rw rw.length ++ Str.ofString " " ++ behT tot) t)) → (∃ t, m' (Str.ofString "last") = some (.int (((TX t0 rw rw.length).length + 1 : Nat) : Int) t)) → m' (Str.ofString "names") = some (.ref D1) → m' (Str.ofString "begins") = some (.ref D2) → m' (Str.ofString "ends") = some (.ref D3) → (∃ t, m' (Str.ofString "behind") = some (.str (behT tot) t)) → M2 t0 rw tot D1 D2 D3 m' :=
    fun h1 h2 h3 h4 h5 h6 => ⟨h1, h2, h3, h4, h5, h6⟩
  generalize TX t0 rw rw.length = Y at *
  generalize behT tot = BE at *
  clear hkk
  show wpAny _ _ (execs [_, _, _] _) _ _ _
  k_steps
  rename News _ _ _ _ => N9
  have el : (Y ++ Str.ofString " ").length = Y.length + 1 := by rw [app_len, hone]
  refine kk _ _ _ frs1 nv bv ev (by assumption) (news_sub N9 ?_) SU1 hnv hbv hev (hM2 ⟨_, by rfl⟩ ⟨_, by rw [← el]; rfl⟩ (by exact r3) (by exact r4) (by exact r5) ⟨_, by exact r6⟩)
  (repeat refine ac (by k_mem) ?_); first | exact (fun q h => (by repeat first | exact h | apply List.mem_cons_of_mem | exact List.mem_append_left _ h | apply List.mem_append_right)) | exact ap (fun q h => (by repeat first | exact h | apply List.mem_cons_of_mem | exact List.mem_append_left _ h | apply List.mem_append_right)) (by (repeat refine ac (by repeat first | exact List.mem_cons_self | apply List.mem_cons_of_mem | apply List.mem_append_right) ?_); exact fun q h => (by repeat first | exact h | apply List.mem_cons_of_mem | exact List.mem_append_left _ h | apply List.mem_append_right))
set_option maxHeartbeats 4000000 in
theorem law_c {D1 D2 D3 : Addr} {nv bv ev : List Value} {rw : List Int} {t0 : Str} {tot : Int} {m : Str → Option Value} {led : List (Addr × Obj)} (C : Cal w p loose mg mb G 13 A l frs h0) (st : G.StaysIn G') (hrw0 : 0 < rw.length) (hrw : rw.length ≤ 5) (ht0 : t0.length ≤ 10)
    (hnv : StrsAre nv (rw.map nmT)) (hbv : IntsAre bv (begs t0 rw rw.length)) (hJ : J2 G' L frs t0 rw tot nv bv ev D1 D2 D3 rw.length m led) (F : Fr G' L h₁ m) (N : News G' L h₁ led) (X : (K w.params).In G') (T : TopRead p loose mg mb G') (Qf : Flow → Shared → Prop) (E1 : Value → Shared → Prop)
    (hTh : Thru w (A.deeper (envLaw L)) (envLaw L) E1)
    (kk : ∀ h' tk' vs' cs' frs2 m' new, Cds G' L vs' cs' → SameUp frs frs2 → Fr G' L h' m' → News G' L h' (new ++ (cs' ++ (183, tbO vs') :: frs2)) → Qf (.ret (.bool true)) { s with heap := h', toks := tk' }) (tk : Nat) :
    wpAny (model pr w) (A.deeper (envLaw L)) (execs (bod_40.drop 12) (envLaw L)) Qf E1 { s with heap := h₁, toks := tk } := by
  have reg : (PySem.Challenge.rw_ij0148_01, K) = (PySem.Challenge.rw_ij0148_01, K) := by k_fill; rfl
  clear reg
  have hPO := hTh.po
  have hPA := hTh.at_
  have hA1 : (A.deeper (envLaw L)).handled = none := C.hd
  obtain ⟨vs, cs, frs1, rfl, SU, hc, M⟩ := hJ
  obtain ⟨tt, mt⟩ := M.text
  have mn := M.names
  have mb' := M.begins
  obtain ⟨tb, mh⟩ := M.behind
  have N2 : News G' L h₁ (([(D3, listOf ev.toArray rw.length), (D2, listOf bv.toArray rw.length), (D1, listOf nv.toArray rw.length)] ++ cs) ++ (183, tbO vs) :: frs1) := by rw [List.append_assoc]; exact N
  have tbv : TbV h₁ vs := hc.tb _ F.keep fun q hq => N q (by simp [hq])
  have hnd2 : ∀ q ∈ [(D3, listOf ev.toArray rw.length), (D2, listOf bv.toArray rw.length), (D1, listOf nv.toArray rw.length)] ++ cs, Mine.nd q.2 = true := fun q hq => (List.mem_append.mp hq).elim (fun hq => by
    simp only [List.mem_cons, List.not_mem_nil, or_false] at hq
    rcases hq with rfl | rfl | rfl <;> rfl) (hc.nd q)
  obtain ⟨oL, hL, C'⟩ := cal_inT (qual := Str.ofString "law") (scope := scp_40) (a := 237) (cdv := .ref 236) C F N2 SU (frs_up SU C.fs) st tbv rfl
  have hok := fun (s' : Shared) (e : s'.heap = h₁) (t1 t2 : Tok) (Q E : Value → Shared → Prop) hret => turned_ok (s := s') (Q := Q) (E := E) (t0 := t0) (tot := tot) (t1 := t1) (t2 := t2) hrw0 hrw ht0 hnv hbv (by rw [e]; exact C') (by rw [e]; exact (N _ (.tail _ (.tail _ (.head _)))).1) (by rw [e]; exact (N _ (.tail _ (.head _))).1) hret
  generalize fuT t0 rw tot = FU at *
  generalize behT tot = BE at *
  show wpAny _ _ (execs [_] _) _ _ _
  k_steps
  refine hok _ rfl _ _ _ _ ?_
  intro h' tk' kp tb'
  obtain ⟨vs', frs'', hv', SU', F', N'⟩ := fr_back F N2 hL (frs_dict_up C.fs SU) hnd2 kp tb'
  obtain ⟨cs', Nc, hc'⟩ := cds_of F' hv'
  refine kk _ _ vs' cs' frs'' _ [] hc' (SameUp.trans SU SU') F' (fun q hq => ?_)
  simp only [List.nil_append] at hq
  rcases List.mem_append.mp hq with hq | hq
  · exact Nc q hq
  · exact N' q (List.mem_append_right _ hq)
end
theorem rw_pos (ns : List Int) : 0 < (rwOf ns).length := by unfold rwOf; simp
theorem rw_le (ns : List Int) : (rwOf ns).length ≤ 5 := by unfold rwOf; simp; omega
theorem tx0_len (tot : Int) : (tx0 tot).length ≤ 10 := by
  have hm := mul_len ((tot.fdiv 5).fmod 3) (fmod_b _ (by decide)).1 (fmod_b _ (by decide)).2
  unfold tx0
  rw [app_len]
  have : (Str.ofString " ").length = 1 := by decide
  omega
theorem cutN {l : List Stmt} {env : Env} {Q : Flow → Shared → Prop} {E : Value → Shared → Prop} {A : Around} {s : Shared} (j c : Nat) (h : wpAny (model pr w) A (execs ((l.drop j).take c) env) (fun f s' => match f with | .next => wpAny (model pr w) A (execs (l.drop (j + c)) env) Q E s' | f => Q f s') E s) : wpAny (model pr w) A (execs (l.drop j) env) Q E s := by
  have e : l.drop j = (l.drop j).take c ++ l.drop (j + c) := by
    rw [← List.drop_drop, List.take_append_drop]
  rw [e]
  exact execs_cut h
section
variable {w : World} {p : Program} {loose : List Str} {mg mb : Str → Option Value} {G : Heap} {A : Around} {l : List Env} {frs : List (Addr × Obj)} {s : Shared} {h0 G' h₁ : Heap} {L sc : Addr} {vs : Array Value}
theorem law_key {its : List Value} {ns : List Int} (C : Cal w p loose mg mb G 13 A l frs h0) (st : G.StaysIn G') (hv : TbV G' vs) (hl : G'.IsList sc its.toArray) (hi : IntsAre its ns) (hlen : ns.length ≤ 63)
    (F : Fr G' L h₁ (bd [(Str.ofString "script", .ref sc)])) (N : News G' L h₁ ((183, tbO vs) :: frs)) (X : (K w.params).In G') (T : TopRead p loose mg mb G') (Qf : Flow → Shared → Prop) (E1 : Value → Shared → Prop)
    (hTh : Thru w (A.deeper (envLaw L)) (envLaw L) E1)
    (kk : ∀ h' tk' vs' cs' frs2 m' new, Cds G' L vs' cs' → SameUp frs frs2 → Fr G' L h' m' → News G' L h' (new ++ (cs' ++ (183, tbO vs') :: frs2)) → Qf (.ret (.bool true)) { s with heap := h', toks := tk' }) (tk : Nat) :
    wpAny (model pr w) (A.deeper (envLaw L)) (execs bod_40 (envLaw L)) Qf E1 { s with heap := h₁, toks := tk } := by
  have hrw0 := rw_pos ns
  have hrw := rw_le ns
  refine cutN (l := bod_40) 0 2 ?_
  refine law_a1 (s := s) C hl hi hlen F N X T _ _ hTh ?_ tk
  intro h1 tk1 m1 R ws t F1 N1 hws apR mr mt
  have hap : 183 < R ∧ AllLt R frs := apR
  refine cutN (l := bod_40) 2 5 ?_
  refine law_a2 (s := s) C hap F1 N1 X T _ _ hTh mr mt ?_ tk1
  intro h2 tk2 m2 D1 D2 D3 t1 t2 F2 N2 ap2 r1 r2 r3 r4 r5 r6
  have ht0 := tx0_len (rwOf ns).sum
  refine cutN (l := bod_40) 7 1 ?_
  refine loop1 (s := s) (d := 12) (by omega) C st hv ap2 hws hrw ht0 F2 N2 X T _ _ hTh r1 r2 r3 r4 r5 r6 ?_ tk2
  intro h3 tk3 m3 led3 F3 N3 hJ3
  refine cutN (l := bod_40) 8 3 ?_
  refine law_b (s := s) (d := 12) C hrw ht0 hJ3 F3 N3 X T _ _ hTh ?_ tk3
  intro h4 tk4 m4 frs4 nv bv ev F4 N4 SU4 hnv hbv hev M4
  refine cutN (l := bod_40) 11 1 ?_
  refine loop2 (s := s) (d := 12) (by omega) C st SU4 (Cds.ofG hv) hrw ht0 hnv hbv hev M4 F4 N4 X T _ _ hTh ?_ tk4
  intro h5 tk5 m5 led5 F5 N5 hJ5
  exact law_c (s := s) C st hrw0 hrw ht0 hnv hbv hJ5 F5 N5 X T _ _ hTh kk tk5
theorem law_ok {its : List Value} {ns : List Int} {Q E : Value → Shared → Prop} (hi : IntsAre its ns) (hlen : ns.length ≤ 63) (C : Cal w p loose mg mb G 13 A l frs s.heap) (hl : s.heap.IsList sc its.toArray)
    (hret : ∀ h' tk', Kp (frs.map (·.1)) s.heap h' → Tb h' → Q (.bool true) { s with heap := h', toks := tk' }) :
    wpAny (model pr w) A (call (.ref 237) [.ref sc]) Q E s := by
  have reg : (PySem.Challenge.rw_ij0148_01, K) = (PySem.Challenge.rw_ij0148_01, K) := by k_fill; rfl
  clear reg
  refine wpAny_call ?_
  k_dflt (refine' enter (d := 12) C ?ho ?hcd ?hb ?hl ?_ ?c2 ?c3 ?c4 ?c5; (case ho => k_is); (case hcd => k_is); (case hb => exact BindsTo.of_eq rfl); (case c5 => decide); (case hl => exact locs rfl); (case c2 => exact rfl); (case c3 => exact rfl); (case c4 => exact rfl))
  intro G' h₁ vs hv F N st eG X T hs1 tb0
  have vis : G'.IsList sc its.toArray := by
    obtain ⟨o, ho, hc, n, hd⟩ := hl
    refine ⟨o, ?_, hc, n, hd⟩
    rw [eG]
    refine hideAll_get _ ho fun hm => ?_
    rcases List.mem_cons.mp hm with e | hm
    · rw [e, tb0] at ho
      rw [← Option.some.inj ho] at hd
      exact nomatch hd
    · obtain ⟨q, hq, e⟩ := List.mem_map.mp hm
      obtain ⟨es, ep, hd2⟩ := frs_dict C.fs q hq
      have h2 := C.there q hq
      rw [e, ho] at h2
      rw [← Option.some.inj h2, hd] at hd2
      exact nomatch hd2
  refine wpAny_mono (law_key (s := s) C st hv vis hi hlen F N X T _ _ Thru.leaving (fun h' tk' vs' cs' frs2 m' new hc' SU' F' N' => ?_) _) (fun _ _ x => x) (fun _ _ x => x)
  refine hret _ _ (kp_of (new := new ++ cs') F' (by rw [List.append_assoc]; exact N') SU' eG C.there) ⟨vs', (N' (183, tbO vs') (by simp)).1, hc'.tb h' F'.keep fun q hq => N' q (by simp [hq])⟩
end
section
open PySem.SetTable
/-- the walk of places once the perturbation is gone -/
noncomputable def hop (mask i : Nat) : Nat := (i * 5 + 1) % (mask + 1)
noncomputable def hops (mask : Nat) : Nat → Nat → Nat
  | 0, i => i
  | n + 1, i => hops mask n (hop mask i)
theorem hops_add (mask : Nat) : ∀ (a b i : Nat), hops mask (a + b) i = hops mask b (hops mask a i)
  | 0, b, i => by simp [hops]
  | a + 1, b, i => by
    rw [show a + 1 + b = (a + b) + 1 by omega]
    simp only [hops]
    exact hops_add mask a b (hop mask i)
noncomputable def goodMask (mask : Nat) : Bool := (List.range (mask + 1)).all (fun j => (List.range (mask + 1)).any fun n => hops mask n 0 == j) && hops mask (mask + 1) 0 == 0
theorem good7 : goodMask 7 = true := by decide +kernel
theorem good31 : goodMask 31 = true := by decide +kernel
theorem good127 : goodMask 127 = true := by decide +kernel
theorem covers {mask i j : Nat} (g : goodMask mask = true) (hi : i ≤ mask) (hj : j ≤ mask) : ∃ n, n ≤ mask ∧ hops mask n i = j := by
  unfold goodMask at g
  simp only [Bool.and_eq_true, List.all_eq_true, List.any_eq_true, List.mem_range, beq_iff_eq] at g
  obtain ⟨g1, g2⟩ := g
  obtain ⟨a, ha, ea⟩ := g1 i (by omega)
  obtain ⟨b, hb, eb⟩ := g1 j (by omega)
  rcases Nat.lt_or_ge b a with q | q
  · refine ⟨mask + 1 - a + b, by omega, ?_⟩
    rw [← ea, ← hops_add, show a + (mask + 1 - a + b) = (mask + 1) + b by omega, hops_add, g2, eb]
  · refine ⟨b - a, by omega, ?_⟩
    rw [← ea, ← hops_add, show a + (b - a) = b by omega, eb]
theorem free_here {mask : Nat} {owner : Array (Option Nat)} {fuel i pt : Nat} (h : (owner.getD i (some 0)).isNone = true) : ∃ j, layClean.free mask owner (fuel + 1) i pt = some j := by
  unfold layClean.free
  split
  · exact ⟨_, rfl⟩
  · rename_i hf
    exfalso
    rw [List.find?_eq_none] at hf
    have : 0 ∈ List.range (runEnd mask i + 1 - i) := by
      rw [List.mem_range]
      unfold runEnd
      split <;> omega
    have := hf 0 this
    simp only [Nat.add_zero] at this
    exact this h
theorem free_on {mask : Nat} {owner : Array (Option Nat)} {fuel i pt j : Nat} (h : layClean.free mask owner fuel ((i * 5 + 1 + pt / 32) % (mask + 1)) (pt / 32) = some j) : ∃ j, layClean.free mask owner (fuel + 1) i pt = some j := by
  unfold layClean.free
  split
  · exact ⟨_, rfl⟩
  · exact ⟨j, h⟩
theorem free_hops {mask : Nat} {owner : Array (Option Nat)} : ∀ (n fuel i : Nat), n < fuel → (owner.getD (hops mask n i) (some 0)).isNone = true → ∃ j, layClean.free mask owner fuel i 0 = some j
  | 0, 0, _, h, _ => by omega
  | 0, fuel + 1, i, _, h => free_here h
  | n + 1, 0, _, h, _ => by omega
  | n + 1, fuel + 1, i, hn, h => by
    obtain ⟨j, hj⟩ := free_hops n fuel (hop mask i) (by omega) h
    exact free_on (j := j) hj
theorem free_some {mask : Nat} {owner : Array (Option Nat)} {q : Nat} (g : goodMask mask = true) (hq : q ≤ mask) (hf : (owner.getD q (some 0)).isNone = true) : ∀ (k pt fuel i : Nat), pt < 32 ^ k → i ≤ mask → k + mask < fuel → ∃ j, layClean.free mask owner fuel i pt = some j
  | 0, pt, fuel, i, hp, hi, hk => by
    have : pt = 0 := by simpa using hp
    subst this
    obtain ⟨n, hn, e⟩ := covers g hi hq
    exact free_hops n fuel i (by omega) (by rw [e]; exact hf)
  | k + 1, pt, 0, i, hp, hi, hk => by omega
  | k + 1, pt, fuel + 1, i, hp, hi, hk => by
    obtain ⟨j, hj⟩ := free_some g hq hf k (pt / 32) fuel ((i * 5 + 1 + pt / 32) % (mask + 1)) (by rw [Nat.div_lt_iff_lt_mul (by decide)]; rw [Nat.pow_succ] at hp; exact hp) (by have := Nat.mod_lt (i * 5 + 1 + pt / 32) (show 0 < mask + 1 by omega); omega) (by omega)
    exact free_on (j := j) hj
theorem free_is {mask : Nat} {owner : Array (Option Nat)} : ∀ (fuel i pt j : Nat), layClean.free mask owner fuel i pt = some j → (owner.getD j (some 0)).isNone = true
  | 0, i, pt, j, h => by simp [layClean.free] at h
  | fuel + 1, i, pt, j, h => by
    unfold layClean.free at h
    split at h
    · rename_i k hk
      have := List.find?_some hk
      simp only [Option.some.injEq] at h
      subst h
      exact this
    · exact free_is fuel _ _ j h
end
section
open PySem.SetTable
theorem set_somes {α : Type} (m : α) : ∀ (l : List (Option α)) (j : Nat), l[j]? = some none → ((l.set j (some m)).filterMap id).Perm (m :: l.filterMap id)
  | [], j, h => by simp at h
  | x :: l, 0, h => by
    simp only [List.getElem?_cons_zero, Option.some.injEq] at h
    subst h
    simp
  | x :: l, j + 1, h => by
    have ih := set_somes m l j (by simpa using h)
    rw [List.set_cons_succ]
    cases x with
    | none => simpa using ih
    | some a =>
      simp only [List.filterMap_cons_some (f := id) (a := some a) (b := a) rfl]
      exact (ih.cons a).trans (List.Perm.swap m a _)
theorem hole_at {α : Type} : ∀ (l : List (Option α)), (l.filterMap id).length < l.length → ∃ j : Nat, l[j]? = some none
  | [], h => by simp at h
  | none :: l, _ => ⟨0, rfl⟩
  | some a :: l, h => by
    rw [List.filterMap_cons_some (f := id) (a := some a) (b := a) rfl] at h
    simp only [List.length_cons] at h
    obtain ⟨j, hj⟩ := hole_at l (by omega)
    exact ⟨j + 1, by simpa using hj⟩
/-- what the laying keeps: m hashes laid -/
structure LaidTo (mask m : Nat) (st : Array (Option Nat) × Nat) : Prop where
  sz : st.1.size = mask + 1
  k : st.2 = m
  perm : (st.1.toList.filterMap id).Perm (List.range m)
theorem lay_step {mask m : Nat} {st : Array (Option Nat) × Nat} (g : goodMask mask = true) (L : LaidTo mask m st) (hm : m ≤ mask) (h : Int) :
    ∃ st', ((do
      let j ← layClean.free mask st.1 (turns mask) (bits h % (mask + 1)) (bits h)
      pure (st.1.setIfInBounds j (some st.2), st.2 + 1)) : Option (Array (Option Nat) × Nat)) = some st' ∧ LaidTo mask (m + 1) st' := by
  obtain ⟨owner, k⟩ := st
  obtain ⟨h1, h2, h3⟩ := L
  simp only at h1 h2 h3 ⊢
  subst h2
  obtain ⟨q, hq⟩ := hole_at owner.toList (by rw [h3.length_eq]; simp; omega)
  have hqs : q < owner.size := by
    rcases Nat.lt_or_ge q owner.size with h | h
    · exact h
    · rw [List.getElem?_eq_none (by simpa using h)] at hq; cases hq
  have hqn : (owner.getD q (some 0)).isNone = true := by
    rw [Array.getElem?_toList] at hq
    rw [Array.getD_eq_getD_getElem?, hq]
    rfl
  have hb : bits h < 32 ^ 13 := by
    unfold bits
    have h1 := Int.emod_nonneg h (show (2 ^ 64 : Int) ≠ 0 by decide)
    have h2 := Int.emod_lt_of_pos h (show (0 : Int) < 2 ^ 64 by decide)
    have h3 : (h % (2 ^ 64 : Int)).toNat < 2 ^ 64 := by
      rw [Int.toNat_lt h1]
      exact_mod_cast h2
    exact Nat.lt_of_lt_of_le h3 (by decide)
  obtain ⟨j, hj⟩ := free_some g (show q ≤ mask by omega) hqn 13 (bits h) (turns mask) (bits h % (mask + 1)) hb (by have := Nat.mod_lt (bits h) (show 0 < mask + 1 by omega); omega) (by unfold turns; omega)
  have hjn := free_is _ _ _ _ hj
  have hjs : owner.toList[j]? = some none := by
    rw [Array.getD_eq_getD_getElem?] at hjn
    rw [Array.getElem?_toList]
    cases e : owner[j]? with
    | none => rw [e] at hjn; cases hjn
    | some x =>
      rw [e] at hjn
      cases x with
      | none => rfl
      | some y => cases hjn
  rw [hj]
  refine ⟨_, rfl, by simpa using h1, rfl, ?_⟩
  simp only [Array.toList_setIfInBounds]
  refine (set_somes k owner.toList j hjs).trans ?_
  rw [List.range_succ]
  exact (h3.cons k).trans (List.perm_append_singleton k (List.range k)).symm
end
section
open PySem.SetTable
noncomputable def layF (mask : Nat) (acc : Option (Array (Option Nat) × Nat)) (h : Int) : Option (Array (Option Nat) × Nat) := do
  let (owner, k) ← acc
  let j ← layClean.free mask owner (turns mask) (bits h % (mask + 1)) (bits h)
  pure (owner.setIfInBounds j (some k), k + 1)
theorem layClean_eq (mask : Nat) (hs : Array Int) : layClean mask hs = ((hs.toList.foldl (layF mask) (some (Array.replicate (mask + 1) none, 0))).map (·.1)) := by
  unfold layClean
  rw [← Array.foldl_toList]
  rfl
theorem lay_fold {mask : Nat} (g : goodMask mask = true) : ∀ (l : List Int) (m : Nat) (st : Array (Option Nat) × Nat), LaidTo mask m st → m + l.length ≤ mask → ∃ st', l.foldl (layF mask) (some st) = some st' ∧ LaidTo mask (m + l.length) st'
  | [], m, st, L, _ => ⟨st, rfl, L⟩
  | h :: l, m, st, L, hm => by
    simp only [List.length_cons] at hm
    obtain ⟨st', e, L'⟩ := lay_step g L (by omega) h
    obtain ⟨st2, e2, L2⟩ := lay_fold g l (m + 1) st' L' (by omega)
    refine ⟨st2, ?_, by rw [List.length_cons, show m + (l.length + 1) = m + 1 + l.length by omega]; exact L2⟩
    rw [List.foldl_cons]
    have e3 : layF mask (some st) h = some st' := e
    rw [e3, e2]
theorem laid_to0 (mask : Nat) : LaidTo mask 0 (Array.replicate (mask + 1) none, 0) := by
  refine ⟨by simp, rfl, ?_⟩
  have : (Array.replicate (mask + 1) (none : Option Nat)).toList.filterMap id = [] := by
    rw [Array.toList_replicate]
    induction (mask + 1) with
    | zero => rfl
    | succ n ih => rw [List.replicate_succ]; simpa using ih
  rw [this]
  exact .refl _
theorem layClean_ok {mask : Nat} (g : goodMask mask = true) (hs : Array Int) (hn : hs.size ≤ mask) : ∃ owner, layClean mask hs = some owner ∧ owner.size = mask + 1 ∧ (owner.toList.filterMap id).Perm (List.range hs.size) := by
  obtain ⟨st, e, L⟩ := lay_fold g hs.toList 0 _ (laid_to0 mask) (by simpa using hn)
  refine ⟨st.1, ?_, L.sz, by simpa using L.perm⟩
  rw [layClean_eq, e]
  rfl
/-- a clean table is always laid, and loses nothing -/
theorem laid_ok {mask finger moves : Nat} {led plain : Bool} (g : goodMask mask = true) (hs : Array Int) (hn : hs.size ≤ mask) : ∃ t order, laid mask finger moves led plain hs = some (t, order) ∧ t.place.size = hs.size ∧ t.fill = hs.size ∧ t.mask = mask ∧ t.led = led ∧ t.plain = plain ∧ t.finger = finger ∧ t.moves = moves ∧ t.dummies = #[] ∧ order.toList.Perm (List.range hs.size) := by
  obtain ⟨owner, e, hsz, hp⟩ := layClean_ok g hs hn
  have e2 : (List.range (mask + 1)).filterMap (fun j => owner.getD j none) = owner.toList.filterMap id := by
    have : owner.toList = (List.range (mask + 1)).map fun j => owner.getD j none := by
      apply List.ext_getElem
      · simp [hsz]
      · intro i h1 h2
        simp only [List.getElem_map, List.getElem_range, Array.getElem_toList]
        rw [Array.getD_eq_getD_getElem?, Array.getElem?_eq_getElem (by simpa using h1)]
        rfl
    rw [this, List.filterMap_map]
    rfl
  have e3 : ((List.range (mask + 1)).filterMap fun j => (owner.getD j none).map (j, ·)).map (·.2) = owner.toList.filterMap id := by
    rw [← e2, List.map_filterMap]
    congr 1
    funext j
    cases owner.getD j none <;> rfl
  refine ⟨_, _, by unfold laid; rw [e]; rfl, ?_, ?_, rfl, rfl, rfl, rfl, rfl, rfl, ?_⟩
  · have := congrArg List.length e3
    rw [hp.length_eq] at this
    simp only [List.length_map, List.length_range] at this
    show (((List.range (mask + 1)).filterMap fun j => (owner.getD j none).map (j, ·)).map (·.1)).toArray.size = _
    rw [List.size_toArray, List.length_map]
    exact this
  · have := congrArg List.length e3
    rw [hp.length_eq] at this
    simp only [List.length_map, List.length_range] at this
    show (((List.range (mask + 1)).filterMap fun j => (owner.getD j none).map (j, ·)).map (·.1)).toArray.size + 0 = _
    rw [List.size_toArray, List.length_map]
    exact this
  · show (((List.range (mask + 1)).filterMap fun j => (owner.getD j none).map (j, ·)).map (·.2)).Perm _
    rw [e3]
    exact hp
theorem picks_perm {α : Type} (es : Array α) (order : Array Nat) (h : order.toList.Perm (List.range es.size)) : (order.filterMap (es[·]?)).toList.Perm es.toList := by
  rw [Array.toList_filterMap]
  have h2 : (order.toList.filterMap (es[·]?)).Perm ((List.range es.size).filterMap (es[·]?)) := h.filterMap _
  rw [krv_all] at h2
  exact h2
end
section
variable {tb : String → Option Builtin} {p : Program} {w : World} {n₀ : Nat} {ann : Option Value}
/-- by at most m steps, all of them fit for a top -/
noncomputable def Go (tb : String → Option Builtin) (p : Program) (w : World) (n₀ : Nat) (ann : Option Value) (m : Nat) (s : Shared) (t : Thread) (s' : Shared) (t' : Thread) : Prop := ∃ n, n ≤ m ∧ segGo tb p w n₀ ann 1 n s t = some (s', t')
theorem Go.refl (s : Shared) (t : Thread) : Go tb p w n₀ ann 0 s t s t := ⟨0, Nat.le_refl 0, rfl⟩
theorem Go.more {m m' : Nat} {s s' : Shared} {t t' : Thread} (h : m ≤ m') (a : Go tb p w n₀ ann m s t s' t') : Go tb p w n₀ ann m' s t s' t' := by
  obtain ⟨n, h1, h2⟩ := a
  exact ⟨n, Nat.le_trans h1 h, h2⟩
theorem segGo_trans : ∀ {n N : Nat} {s s' s'' : Shared} {t t' t'' : Thread}, segGo tb p w n₀ ann 1 n s t = some (s', t') → segGo tb p w n₀ ann 1 N s' t' = some (s'', t'') → segGo tb p w n₀ ann 1 (n + N) s t = some (s'', t'')
  | 0, N, s, s', s'', t, t', t'', h, k => by
    obtain ⟨rfl, rfl⟩ : s = s' ∧ t = t' := by simpa [segGo] using h
    rw [Nat.zero_add]; exact k
  | n + 1, N, s, s', s'', t, t', t'', h, k => by
    rw [show n + 1 + N = n + N + 1 by omega]
    unfold segGo at h ⊢
    cases he : endAt 1 t with
    | some f => rw [he] at h; cases h
    | none =>
      rw [he] at h
      cases hk : stepOk n₀ ann t with
      | false => rw [hk] at h; cases h
      | true =>
        rw [hk] at h
        cases hs : step (denote tb) p w s t with
        | halt o s₂ => rw [hs] at h; cases h
        | go s₂ t₂ => rw [hs] at h; exact segGo_trans h k
theorem Go.trans {m m' : Nat} {s s' s'' : Shared} {t t' t'' : Thread} (a : Go tb p w n₀ ann m s t s' t') (b : Go tb p w n₀ ann m' s' t' s'' t'') : Go tb p w n₀ ann (m + m') s t s'' t'' := by
  obtain ⟨n, h1, h⟩ := a
  obtain ⟨N, h2, k⟩ := b
  exact ⟨n + N, by omega, segGo_trans h k⟩
theorem Go.one {s s' : Shared} {cur : Sem Fin} {c : Code} {q : Pos} {st : List Frame} {t' : Thread} (hl : 2 ≤ st.length) (hk : stepOk n₀ ann ⟨cur, c, q, st⟩ = true) (hs : step (denote tb) p w s ⟨cur, c, q, st⟩ = .go s' t') : Go tb p w n₀ ann 1 s ⟨cur, c, q, st⟩ s' t' := by
  refine ⟨1, Nat.le_refl 1, ?_⟩
  unfold segGo
  have he : endAt 1 ⟨cur, c, q, st⟩ = none := by
    unfold endAt
    have : (st.length == 1) = false := by
      rw [beq_eq_false_iff_ne]
      omega
    simp only [this]
  rw [he, hk, hs]
  rfl
/-- what a piece of code comes to, whatever stands around it; b: what may be spent, and what is left -/
noncomputable def gw (tb : String → Option Builtin) (p : Program) (w : World) (n₀ : Nat) (ann : Option Value) {α : Type} (t : Sem α) (Q : α → Shared → Nat → Prop) (s : Shared) (b : Nat) : Prop :=
  ∀ (K : α → Sem Fin) (H : Value → Sem Fin) (gd : Bool → Bool) (lv : List Value → List Value) (c : Code) (pos : Pos) (st : List Frame), 2 ≤ st.length →
    ∃ a s' pos' b' m, Q a s' b' ∧ m + b' ≤ b ∧ Go tb p w n₀ ann m s ⟨t.wrap K H gd lv, c, pos, st⟩ s' ⟨K a, c, pos', st⟩
variable {α β : Type} {Q : α → Shared → Nat → Prop} {s : Shared} {b b' : Nat}
theorem gw_pure {a : α} (h : Q a s b) : gw tb p w n₀ ann (Sem.pure a) Q s b := fun K H gd lv c pos st hl => ⟨a, s, pos, b, 0, h, by omega, Go.refl _ _⟩
theorem gw_pure' {a : α} (h : Q a s b) : gw tb p w n₀ ann (pure a : Sem α) Q s b := gw_pure h
theorem gw_more {t : Sem α} (hb : b' ≤ b) (h : gw tb p w n₀ ann t Q s b') : gw tb p w n₀ ann t Q s b := fun K H gd lv c pos st hl => by
  obtain ⟨a, s', pos', b2, m, h1, h2, h3⟩ := h K H gd lv c pos st hl
  exact ⟨a, s', pos', b2, m, h1, by omega, h3⟩
theorem gw_bind {t : Sem β} {f : β → Sem α} (h : gw tb p w n₀ ann t (fun y s' b' => gw tb p w n₀ ann (f y) Q s' b') s b) : gw tb p w n₀ ann (t >>= f) Q s b := fun K H gd lv c pos st hl => by
  rw [Sem.bind_eq_wrap', Sem.wrap_wrap]
  obtain ⟨y, s', pos', b1, m1, h1, e1, h2⟩ := h (fun a => (f a).wrap K H gd lv) (fun e => (Sem.raise e : Sem α).wrap K H gd lv) (fun g => gd (id g)) (fun l => lv (id l)) c pos st hl
  obtain ⟨a, s'', pos'', b2, m2, h3, e2, h4⟩ := h1 K H gd lv c pos' st hl
  exact ⟨a, s'', pos'', b2, m1 + m2, h3, by omega, h2.trans h4⟩
theorem gw_keep {vs : List Value} {t : Sem α} (h : gw tb p w n₀ ann t Q s b) : gw tb p w n₀ ann (t.keep vs) Q s b := fun K H gd lv c pos st hl => by
  rw [Sem.keep_eq_wrap, Sem.wrap_wrap]
  exact h (fun a => (Sem.pure a : Sem α).wrap K H gd lv) (fun e => (Sem.raise e : Sem α).wrap K H gd lv) (fun g => gd (id g)) (fun l => lv (vs ++ l)) c pos st hl
theorem gw_holding {vs : List Value} {t : Sem α} (h : gw tb p w n₀ ann t Q s b) : gw tb p w n₀ ann (holding vs t) Q s b := by
  unfold holding
  split
  · exact h
  · exact gw_keep h
/-- a single step that goes on with a piece -/
theorem gw_step {t : Sem α} {t' : Sem α} {s₁ : Shared} (hk : ∀ K H gd lv c pos st, stepOk n₀ ann ⟨t.wrap K H gd lv, c, pos, st⟩ = true) (hs : ∀ K H gd lv c pos st, step (denote tb) p w s ⟨t.wrap K H gd lv, c, pos, st⟩ = .go s₁ ⟨t'.wrap K H gd lv, c, pos, st⟩)
    (h : gw tb p w n₀ ann t' Q s₁ b) : gw tb p w n₀ ann t Q s (b + 1) := fun K H gd lv c pos st hl => by
  obtain ⟨a, s', pos', b', m, h1, h2, h3⟩ := h K H gd lv c pos st hl
  exact ⟨a, s', pos', b', 1 + m, h1, by omega, (Go.one hl (hk ..) (hs ..)).trans h3⟩
theorem gw_load {a : Addr} {o : Obj} {part : Option Value} {k : Obj → Sem α} (ho : s.heap.get? a = some o) (h : gw tb p w n₀ ann (k o) Q s b) : gw tb p w n₀ ann (Sem.load a part k) Q s (b + 1) :=
  gw_step (t' := k o) (fun _ _ _ _ _ _ _ => rfl) (fun K H gd lv c pos st => by simp only [Sem.wrap, step, ho]) h
theorem gw_load' {Q' : Obj → Shared → Nat → Prop} {a : Addr} {o : Obj} (ho : s.heap.get? a = some o) (h : Q' o s b) : gw tb p w n₀ ann (load a) Q' s (b + 1) := gw_load ho (gw_pure h)
theorem gw_update {a : Addr} {part : Option Value} {f : Obj → Obj} {k : Unit → Sem α} (ha : n₀ ≤ a) (ho : (s.heap.get? a).isSome = true) (h : gw tb p w n₀ ann (k ()) Q { s with heap := s.heap.update a f } b) : gw tb p w n₀ ann (Sem.update a part f k) Q s (b + 1) :=
  gw_step (t' := k ()) (fun K H gd lv c pos st => by
    have : Nat.ble n₀ a = true := Nat.ble_eq.mpr ha
    show (_ && (Nat.ble n₀ a || _ || _ || _)) = true
    rw [this]
    rfl) (fun K H gd lv c pos st => by simp only [Sem.wrap, step, ho, if_true]) h
theorem gw_alloc {o : Obj} {k : Addr → Sem α} (h : gw tb p w n₀ ann (k s.heap.objs.size) Q { s with heap := s.heap.push o } b) : gw tb p w n₀ ann (Sem.alloc o k) Q s (b + 1) :=
  gw_step (t' := k s.heap.objs.size) (fun _ _ _ _ _ _ _ => rfl) (fun K H gd lv c pos st => rfl) h
theorem gw_ask {k : Setting → Sem α} (h : gw tb p w n₀ ann (k ⟨p, w.params⟩) Q s b) : gw tb p w n₀ ann (Sem.ask k) Q s (b + 1) :=
  gw_step (t' := k ⟨p, w.params⟩) (fun _ _ _ _ _ _ _ => rfl) (fun K H gd lv c pos st => rfl) h
theorem gw_rule {tag : String} {k : Unit → Sem α} (h : gw tb p w n₀ ann (k ()) Q s b) : gw tb p w n₀ ann (Sem.rule tag k) Q s (b + 1) :=
  gw_step (t' := k ()) (fun _ _ _ _ _ _ _ => rfl) (fun K H gd lv c pos st => rfl) h
theorem gw_point {l : List Value} {k : Unit → Sem α} (h : gw tb p w n₀ ann (k ()) Q s b) : gw tb p w n₀ ann (Sem.point l k) Q s (b + 1) :=
  gw_step (t' := k ()) (fun _ _ _ _ _ _ _ => rfl) (fun K H gd lv c pos st => rfl) h
theorem wrap_self {α : Type} (m : Sem α) : m.wrap .pure .raise id id = m := by
  have h := Sem.bind_eq_wrap m (Sem.pure : α → Sem α)
  rw [← h]
  exact bind_pure (m := Sem) m
/-- what a called code comes to: a value, and the frame is left -/
noncomputable def gc (tb : String → Option Builtin) (p : Program) (w : World) (n₀ : Nat) (ann : Option Value) (c : Code) (R : Value → Shared → Nat → Prop) (s : Shared) (b : Nat) : Prop :=
  ∀ (k : Result → Sem Fin) (h : Option Value) (g : Bool) (l : List Value) (cd : Code) (p₀ : Pos) (kept : List Value) (rest : List Frame) (pos : Pos), 1 ≤ rest.length →
    ∃ v s' b' m, R v s' b' ∧ m + b' ≤ b ∧ Go tb p w n₀ ann m s ⟨denote tb c, c, pos, .ret k h g l cd p₀ kept :: rest⟩ s' ⟨k (.ok (.ret v)), cd, p₀, rest⟩
noncomputable def quiet : Code → Bool
  | .builtin id _ => !id.startsWith "lifetime."
  | _ => true
noncomputable def FinR (tb : String → Option Builtin) (p : Program) (w : World) (n₀ : Nat) (ann : Option Value) (R : Value → Shared → Nat → Prop) : Fin → Shared → Nat → Prop
  | .done (.ret v), s, b + 1 => R v s b
  | .again c, s, b + 1 => quiet c = true ∧ gc tb p w n₀ ann c R s b
  | _, _, _ => False
theorem again_ok {c c' : Code} {pos : Pos} {f : Frame} {st : List Frame} (h : quiet c' = true) : stepOk n₀ ann ⟨.pure (.again c'), c, pos, f :: st⟩ = true := by
  cases c' with
  | builtin id a =>
    have h1 : id.startsWith "lifetime." = false := by
      unfold quiet at h
      simpa using h
    simp only [stepOk, Thread.calm, Thread.atCollectorCode, Thread.yieldsInsideHandler, h1]
    rfl
  | _ => rfl
theorem gc_of {c : Code} {R : Value → Shared → Nat → Prop} (h : gw tb p w n₀ ann (denote tb c) (FinR tb p w n₀ ann R) s b) : gc tb p w n₀ ann c R s b := fun k hd g l cd p₀ kept rest pos hl => by
  obtain ⟨fin, s', pos', b', m, h1, h2, h3⟩ := h .pure .raise id id c pos (.ret k hd g l cd p₀ kept :: rest) (by simp only [List.length_cons]; omega)
  rw [wrap_self] at h3
  cases fin with
  | done f =>
    cases f with
    | ret v =>
      cases b' with
      | zero => exact False.elim h1
      | succ b' => exact ⟨v, s', b', m + 1, h1, by omega, h3.trans (Go.one (by simp only [List.length_cons]; omega) rfl rfl)⟩
    | _ => cases b' <;> exact False.elim h1
  | again c' =>
    cases b' with
    | zero => exact False.elim h1
    | succ b' =>
      have one : Go tb p w n₀ ann 1 s' ⟨.pure (.again c'), c, pos', .ret k hd g l cd p₀ kept :: rest⟩ s' ⟨denote tb c', c', pos', .ret k hd g l cd p₀ (keptBy c c' l kept) :: rest⟩ := Go.one (by simp only [List.length_cons]; omega) (again_ok h1.1) step_again
      obtain ⟨v, s'', b2, m2, r1, r2, r3⟩ := h1.2 k hd g l cd p₀ (keptBy c c' l kept) rest pos' hl
      exact ⟨v, s'', b2, m + 1 + m2, r1, by omega, (h3.trans one).trans r3⟩
theorem call_step {s : Shared} {c : Code} {hd : Option Value} {g : Bool} {l : List Value} {k : Result → Sem Fin} {c₀ : Code} {pos : Pos} {st : List Frame} : ∃ kept, step (denote tb) p w s ⟨.call c hd g l k, c₀, pos, st⟩ = .go s ⟨denote tb c, c, pos, .ret k hd g l c₀ pos kept :: st⟩ := ⟨_, rfl⟩
end
section
variable {tb : String → Option Builtin} {p : Program} {w : World} {n₀ : Nat} {ann : Option Value} {α : Type} {s : Shared} {b : Nat} {a : Addr} {o : Obj} {es : Array (Int × Value)} {ep : Nat} {t : SetTable}
theorem gw_setState {Q : Array (Int × Value) × Nat × SetTable → Shared → Nat → Prop} (ho : s.heap.get? a = some o) (hd : o.data = .set es ep t) (hp : t.place.size = es.size) (hf : t.fill ≤ t.mask) (h : Q (es, ep, t) s b) : gw tb p w n₀ ann (setState a) Q s (b + 1) := by
  unfold setState
  refine gw_bind (gw_load' ho ?_)
  rw [hd]
  have hc : (t.place.size != es.size || decide (t.fill > t.mask)) = false := by
    rw [hp]
    simp
    omega
  simp only [hc, Bool.false_eq_true, if_false]
  first
    | exact gw_pure' h
    | exact gw_bind (gw_pure' (gw_pure' h))
theorem gw_setEntries {Q : Array (Int × Value) → Shared → Nat → Prop} (ho : s.heap.get? a = some o) (hd : o.data = .set es ep t) (hp : t.place.size = es.size) (hf : t.fill ≤ t.mask) (h : Q es s b) : gw tb p w n₀ ann (setEntries a) Q s (b + 1) := by
  unfold setEntries
  exact gw_bind (gw_setState ho hd hp hf (gw_pure' h))
theorem gw_setEpoch {Q : Nat → Shared → Nat → Prop} (ho : s.heap.get? a = some o) (hd : o.data = .set es ep t) (hp : t.place.size = es.size) (hf : t.fill ≤ t.mask) (h : Q ep s b) : gw tb p w n₀ ann (setEpoch a) Q s (b + 1) := by
  unfold setEpoch
  exact gw_bind (gw_setState ho hd hp hf (gw_pure' h))
theorem gw_storeSet {es' : Array (Int × Value)} {t' : SetTable} {Q : Unit → Shared → Nat → Prop} (hn : n₀ ≤ a) (ho : s.heap.get? a = some o) (hd : o.data = .set es ep t) (hz : es'.size ≤ sizeLine) (h : Q () { s with heap := s.heap.update a (Obj.putSet es' t') } b) : gw tb p w n₀ ann (storeSet a es' t') Q s (b + 2) := by
  unfold storeSet
  refine gw_bind (gw_load' ho ?_)
  rw [hd]
  have hc : ¬ (es'.size > sizeLine) := by omega
  simp only [hc, if_false]
  first
    | exact gw_update hn (by rw [ho]; rfl) (gw_pure h)
    | exact gw_bind (gw_pure' (gw_update hn (by rw [ho]; rfl) (gw_pure h)))
theorem gw_setsByText {Q : Bool → Shared → Nat → Prop} (h : Q (w.params.followText "set-order") s b) : gw tb p w n₀ ann setsByText Q s (b + 1) := by
  unfold setsByText
  exact gw_bind (gw_ask (gw_pure (gw_pure' h)))
end
section
variable {w : World} {n₀ : Nat} {ann : Option Value} {p : Program}
theorem hash_t (x : Str) (t : Tok) (heap : Heap) (gens : Array GenState) (drawn : Drawn) (toks : Nat) (os : OsState) (K : Int → Sem Fin) (H : Value → Sem Fin) (gd : Bool → Bool) (lv : List Value → List Value) (c : Code) (pos : Pos) (F F' : Frame) (st : List Frame) :
    (segGo treeTable p (w.withFollow "special-get-raises" true) n₀ ann 1 7 ⟨heap, gens, drawn, toks, os⟩ ⟨(pyHash (.str x t)).wrap K H gd lv, c, pos, F :: F' :: st⟩) = some (⟨heap, gens, drawn, toks + 1, os⟩, ⟨K (hashStr (w.withFollow "special-get-raises" true) x), c, pos, F :: F' :: st⟩) := by
  kernel_rfl
theorem hash_f (x : Str) (t : Tok) (heap : Heap) (gens : Array GenState) (drawn : Drawn) (toks : Nat) (os : OsState) (K : Int → Sem Fin) (H : Value → Sem Fin) (gd : Bool → Bool) (lv : List Value → List Value) (c : Code) (pos : Pos) (F F' : Frame) (st : List Frame) :
    (segGo treeTable p (w.withFollow "special-get-raises" false) n₀ ann 1 7 ⟨heap, gens, drawn, toks, os⟩ ⟨(pyHash (.str x t)).wrap K H gd lv, c, pos, F :: F' :: st⟩) = some (⟨heap, gens, drawn, toks + 1, os⟩, ⟨K (hashStr (w.withFollow "special-get-raises" false) x), c, pos, F :: F' :: st⟩) := by
  kernel_rfl
theorem gw_hash {x : Str} {t : Tok} {Q : Int → Shared → Nat → Prop} {s : Shared} {b : Nat} (h : Q (hashStr w x) { s with toks := s.toks + 1 } b) : gw treeTable p w n₀ ann (pyHash (.str x t)) Q s (b + 7) := fun K H gd lv c pos st hl => by
  obtain ⟨heap, gens, drawn, toks, os⟩ := s
  match st, hl with
  | F :: F' :: st, _ =>
    refine ⟨_, _, pos, b, 7, h, by omega, 7, Nat.le_refl 7, ?_⟩
    have e := World.withFollow_self w "special-get-raises"
    cases hb : w.params.followText "special-get-raises" with
    | true =>
      rw [hb] at e
      have := hash_t (w := w) (n₀ := n₀) (ann := ann) (p := p) x t heap gens drawn toks os K H gd lv c pos F F' st
      rw [e] at this
      exact this
    | false =>
      rw [hb] at e
      have := hash_f (w := w) (n₀ := n₀) (ann := ann) (p := p) x t heap gens drawn toks os K H gd lv c pos F F' st
      rw [e] at this
      exact this
end
theorem insert_perm {α : Type} (xs : Array α) (q : Nat) (x : α) : (SetTable.insertAt xs q x).toList.Perm (x :: xs.toList) := by
  unfold SetTable.insertAt
  simp only [Array.toList_append, Array.toList_push, Array.toList_extract]
  have e : (List.extract xs.toList 0 q) ++ (List.extract xs.toList q xs.size) = xs.toList := by
    simp only [List.extract_eq_drop_take, List.drop_zero, Nat.sub_zero]
    rw [List.take_of_length_le (l := xs.toList.drop q) (by simp)]
    exact List.take_append_drop q xs.toList
  refine (List.Perm.append_right _ (List.perm_append_singleton x _)).trans ?_
  rw [List.cons_append, e]
theorem stand_fits (t : SetTable) (n : Nat) : (t.standIn n).place.size = n ∧ (t.standIn n).fill ≤ (t.standIn n).mask ∧ (t.standIn n).plain = false := by
  refine ⟨?_, ?_, rfl⟩
  · unfold SetTable.standIn
    simp
  · unfold SetTable.standIn SetTable.fill
    simp
    omega
theorem or_stand (t : SetTable) (n : Nat) : (t.orStandIn n).place.size = n ∧ (t.orStandIn n).fill ≤ (t.orStandIn n).mask := by
  unfold SetTable.orStandIn
  cases h : t.fits n with
  | true =>
    simp only [if_true]
    unfold SetTable.fits at h
    simp only [Bool.and_eq_true, beq_iff_eq, decide_eq_true_eq] at h
    exact h
  | false =>
    simp only [Bool.false_eq_true, if_false]
    exact ⟨(stand_fits t n).1, (stand_fits t n).2.1⟩
theorem layNew_ok (t : SetTable) (es : Array (Int × Value)) (h : Int) (x : Value) : (layNew t es h x).1.toList.Perm ((h, x) :: es.toList) ∧ (layNew t es h x).2.1.place.size = (layNew t es h x).1.size ∧ (layNew t es h x).2.1.fill ≤ (layNew t es h x).2.1.mask := by
  unfold layNew
  split
  · rename_i slot wd he
    refine ⟨insert_perm _ _ _, ?_⟩
    exact or_stand _ _
  · refine ⟨?_, ?_, ?_⟩
    · simp only [Array.toList_push]
      exact List.perm_append_singleton _ _
    · rw [(stand_fits t (es.size + 1)).1]; simp
    · exact (stand_fits t (es.size + 1)).2.1
theorem relayAll_ok (t : SetTable) (es : Array (Int × Value)) (n : Nat) : (relayAll t es n).1.toList.Perm es.toList ∧ (relayAll t es n).2.1.place.size = (relayAll t es n).1.size ∧ (relayAll t es n).2.1.fill ≤ (relayAll t es n).2.1.mask := by
  unfold relayAll
  split
  · rename_i t' order he
    by_cases hc : (coversAll order es.size && t'.fits (order.filterMap (es[·]?)).size) = true
    · simp only [hc, if_true]
      simp only [Bool.and_eq_true] at hc
      obtain ⟨c1, c2⟩ := hc
      unfold SetTable.fits at c2
      simp only [Bool.and_eq_true, beq_iff_eq, decide_eq_true_eq] at c2
      refine ⟨picks_perm es order ?_, c2.1, c2.2⟩
      unfold coversAll at c1
      exact List.isPerm_iff.mp c1
    · simp only [hc, if_false, Bool.false_eq_true]
      exact ⟨.refl _, (stand_fits t es.size).1, (stand_fits t es.size).2.1⟩
  · exact ⟨.refl _, (stand_fits t es.size).1, (stand_fits t es.size).2.1⟩
/-- the heap with another object at a place -/
noncomputable abbrev put (h : Heap) (a : Addr) (o : Obj) : Heap := h.update a fun _ => o
theorem get_objs {h : Heap} {a : Addr} {o : Obj} (e : h.get? a = some o) : h.objs[a]? = some o := by
  unfold Heap.get? at e
  split at e
  · cases e
  · exact e
theorem upd_put {h : Heap} {a : Addr} {o : Obj} {f : Obj → Obj} (e : h.get? a = some o) : h.update a f = put h a (f o) := by
  have e' := get_objs e
  obtain ⟨objs, life⟩ := h
  simp only [put, Heap.update, Heap.mk.injEq, and_true]
  apply Array.ext_getElem?
  intro i
  simp only [Array.getElem?_modify]
  by_cases h1 : a = i
  · subst h1
    simp only at e'
    simp [e']
  · simp [h1]
theorem put_put (h : Heap) (a : Addr) (o o' : Obj) : put (put h a o) a o' = put h a o' := by
  obtain ⟨objs, life⟩ := h
  simp only [put, Heap.update, Heap.mk.injEq, and_true]
  apply Array.ext_getElem?
  intro i
  simp only [Array.getElem?_modify]
  by_cases h1 : a = i
  · subst h1
    cases objs[a]? <;> simp
  · simp [h1]
theorem put_get {h : Heap} {a : Addr} {o o' : Obj} (e : h.get? a = some o) (hd : ∀ c d s, o' ≠ ⟨c, d, .freed, s⟩) : (put h a o').get? a = some o' := by
  have e' := get_objs e
  obtain ⟨objs, life⟩ := h
  simp only at e'
  unfold Heap.get?
  simp only [put, Heap.update, Array.getElem?_modify, if_true, e', Option.map_some]
  split
  · rename_i c d s hh
    exact absurd (Option.some.inj hh) (hd _ _ _)
  · rfl
section
variable {tb : String → Option Builtin} {p : Program} {w : World} {n₀ : Nat} {ann : Option Value} {s : Shared} {b : Nat} {a : Addr} {o : Obj} {es : Array (Int × Value)} {ep : Nat} {t : SetTable} {x : Str} {tk : Tok} {hv : Int}
/-- only strs, none of them x -/
noncomputable def Others (es : Array (Int × Value)) (x : Str) : Prop := ∀ e ∈ es.toList, ∃ y u, e.2 = .str y u ∧ y ≠ x
theorem gw_scanNew {Q : ScanMet → Shared → Nat → Prop} {ad : Bool} (hall : Others es x) (h : Q .absent s b) : gw tb p w n₀ ann (setScan a (.str x tk) hv ad es) Q s b := by
  unfold setScan
  have h1 : (es.all fun e => isExactStrKey e.2) = true := by
    rw [← Array.all_toList, List.all_eq_true]
    intro e he
    obtain ⟨y, u, e2, _⟩ := hall e he
    rw [e2]; rfl
  simp only [h1, if_true]
  unfold setScanStrs
  have h2 : es.findIdx? (fun e => e.2.isStr x) = none := by
    rw [Array.findIdx?_eq_none_iff]
    intro e he
    obtain ⟨y, u, e2, hne⟩ := hall e (Array.mem_toList_iff.mpr he)
    rw [e2]
    show (y == x) = false
    exact beq_eq_false_iff_ne.mpr hne
  simp only [h2]
  exact gw_pure' h
theorem by_scan (hall : Others es x) (hz : es.size < 4000) : byScan (.str x tk) es = true := by
  unfold byScan
  have h1 : (es.all fun e => e.2.scannable) = true := by
    rw [← Array.all_toList, List.all_eq_true]
    intro e he
    obtain ⟨y, u, e2, _⟩ := hall e he
    rw [e2]; rfl
  rw [h1]
  have : es.size < scanBound := by unfold scanBound; omega
  simp [this, Value.scannable]
theorem gw_gave {Q : Unit → Shared → Nat → Prop} {g : Bool} {r : Sem Unit} (hr : r = (match g with | true => rule "set.scan.the-table-gave-way" | false => pure ())) (h : Q () s b) : gw tb p w n₀ ann r Q s (b + 1) := by
  subst hr
  cases g
  · exact gw_more (Nat.le_succ b) (gw_pure' h)
  · exact gw_rule (gw_pure h)
theorem gw_addByScan {Q : Option Bool → Shared → Nat → Prop} (hn : n₀ ≤ a) (ho : s.heap.get? a = some o) (hd : o.data = .set es ep t) (hz : es.size < 4000) (hall : Others es x)
    (h : ∀ es' ep' t', es'.toList.Perm ((hv, .str x tk) :: es.toList) → t'.place.size = es'.size → t'.fill ≤ t'.mask → Q (some true) { s with heap := put s.heap a { o with data := .set es' ep' t' } } b) :
    gw tb p w n₀ ann (setAddByScan a (.str x tk) hv es t) Q s (b + 9) := by
  unfold setAddByScan
  refine gw_bind (gw_rule (gw_pure ?_))
  refine gw_bind (gw_scanNew hall ?_)
  obtain ⟨n1, n2, n3⟩ := layNew_ok t es hv (.str x tk)
  generalize layNew t es hv (.str x tk) = r at n1 n2 n3
  obtain ⟨es1, t1, wd, gave⟩ := r
  simp only at n1 n2 n3 ⊢
  have l1 := n1.length_eq
  simp only [Array.length_toList, List.length_cons] at l1
  refine gw_bind (gw_gave (g := gave) rfl ?_)
  have fin : ∀ bb : Bool, gw tb p w n₀ ann (do
      storeSet a es1 (if bb = true then t1 else { t1 with plain := false })
      if (!wd && (if bb = true then t1 else { t1 with plain := false }).tooFull) = true then
        match relayAll (if bb = true then t1 else { t1 with plain := false }) es1 (SetTable.grown es1.size) with
        | (es, t, gave) => do
          (match gave with | true => rule "set.scan.the-table-gave-way" | false => pure () : Sem Unit)
          storeSet a es t
          pure (some true)
      else pure (some true) : Sem (Option Bool)) Q s (b + 7) := by
    intro bb
    have hp2 : (if bb = true then t1 else { t1 with plain := false }).place.size = es1.size := by cases bb <;> exact n2
    have hf2 : (if bb = true then t1 else { t1 with plain := false }).fill ≤ (if bb = true then t1 else { t1 with plain := false }).mask := by cases bb <;> exact n3
    generalize (if bb = true then t1 else { t1 with plain := false }) = t2 at hp2 hf2 ⊢
    have hup : s.heap.update a (Obj.putSet es1 t2) = put s.heap a { o with data := .set es1 (ep + 1) t2 } := by
      rw [upd_put ho]
      obtain ⟨c, dd, dt, sl⟩ := o
      simp only at hd
      subst hd
      rfl
    refine gw_bind (gw_storeSet hn ho hd (by unfold sizeLine; omega) ?_)
    rw [hup]
    by_cases hb : (!wd && t2.tooFull) = true
    · simp only [hb, if_true]
      obtain ⟨m1, m2, m3⟩ := relayAll_ok t2 es1 (SetTable.grown es1.size)
      generalize relayAll t2 es1 (SetTable.grown es1.size) = r2 at m1 m2 m3
      obtain ⟨es3, t3, g3⟩ := r2
      simp only at m1 m2 m3 ⊢
      have l3 := m1.length_eq
      simp only [Array.length_toList] at l3
      have hg : (put s.heap a { o with data := .set es1 (ep + 1) t2 }).get? a = some { o with data := .set es1 (ep + 1) t2 } := put_get ho (by intro c d s' e; injection e with _ _ e _; cases e)
      refine gw_bind (gw_gave (g := g3) rfl ?_)
      refine gw_bind (gw_storeSet (s := { s with heap := put s.heap a { o with data := .set es1 (ep + 1) t2 } }) hn hg rfl (by unfold sizeLine; omega) ?_)
      refine gw_more (b' := b) (by omega) (gw_pure' ?_)
      have e : (put s.heap a { o with data := .set es1 (ep + 1) t2 }).update a (Obj.putSet es3 t3) = put s.heap a { o with data := .set es3 (ep + 1 + 1) t3 } := by
        rw [upd_put hg, put_put]
        rfl
      show Q (some true) { s with heap := (put s.heap a { o with data := .set es1 (ep + 1) t2 }).update a (Obj.putSet es3 t3) } b
      rw [e]
      exact h es3 _ t3 (m1.trans n1) m2 m3
    · simp only [hb, if_false, Bool.false_eq_true]
      exact gw_more (b' := b) (by omega) (gw_pure' (h es1 _ t2 n1 hp2 hf2))
  by_cases hpl : t1.plain = true
  · simp only [hpl, if_true]
    refine gw_bind (gw_pure ?_)
    exact fin false
  · simp only [hpl, if_false, Bool.false_eq_true]
    refine gw_bind (gw_pure' ?_)
    exact fin true
end
section
variable {tb : String → Option Builtin} {p : Program} {w : World} {n₀ : Nat} {ann : Option Value} {s : Shared} {b : Nat} {a : Addr} {o : Obj} {es : Array (Int × Value)} {ep : Nat} {t : SetTable} {x : Str} {tk : Tok} {hv : Int}
theorem gw_addIn {Q : Bool → Shared → Nat → Prop} (n : Nat) (hn : n₀ ≤ a) (ho : s.heap.get? a = some o) (hd : o.data = .set es ep t) (hp : t.place.size = es.size) (hf : t.fill ≤ t.mask) (hz : es.size < 4000) (hall : Others es x)
    (h : ∀ es' ep' t', es'.toList.Perm ((hv, .str x tk) :: es.toList) → t'.place.size = es'.size → t'.fill ≤ t'.mask → Q true { s with heap := put s.heap a { o with data := .set es' ep' t' } } b) :
    gw tb p w n₀ ann (setAddHashedIn a (.str x tk) hv (n + 1)) Q s (b + 10) := by
  unfold setAddHashedIn
  refine gw_bind (gw_setState ho hd hp hf ?_)
  simp only [by_scan hall hz, if_true]
  refine gw_bind (gw_addByScan hn ho hd hz hall fun es' ep' t' h1 h2 h3 => ?_)
  exact gw_pure' (h es' ep' t' h1 h2 h3)
theorem gw_addHashed {Q : Bool → Shared → Nat → Prop} (hn : n₀ ≤ a) (ho : s.heap.get? a = some o) (hd : o.data = .set es ep t) (hp : t.place.size = es.size) (hf : t.fill ≤ t.mask) (hz : es.size < 4000) (hall : Others es x)
    (h : ∀ es' ep' t', es'.toList.Perm ((hv, .str x tk) :: es.toList) → t'.place.size = es'.size → t'.fill ≤ t'.mask → Q true { s with heap := put s.heap a { o with data := .set es' ep' t' } } b) :
    gw tb p w n₀ ann (setAddHashed a (.str x tk) hv) Q s (b + 10) := by
  unfold setAddHashed
  exact gw_holding (gw_addIn 99999 hn ho hd hp hf hz hall h)
theorem gw_setAdd {Q : Bool → Shared → Nat → Prop} (hn : n₀ ≤ a) (ho : s.heap.get? a = some o) (hd : o.data = .set es ep t) (hp : t.place.size = es.size) (hf : t.fill ≤ t.mask) (hz : es.size < 4000) (hall : Others es x)
    (h : ∀ es' ep' t', es'.toList.Perm ((hashStr w x, .str x tk) :: es.toList) → t'.place.size = es'.size → t'.fill ≤ t'.mask → Q true { s with heap := put s.heap a { o with data := .set es' ep' t' }, toks := s.toks + 1 } b) :
    gw treeTable p w n₀ ann (setAdd a (.str x tk)) Q s (b + 17) := by
  unfold setAdd
  refine gw_holding (gw_bind (gw_hash ?_))
  exact gw_addHashed (s := { s with toks := s.toks + 1 }) hn ho hd hp hf hz hall fun es' ep' t' h1 h2 h3 => h es' ep' t' h1 h2 h3
end
section
open PySem.Builtin.Frozenset
section
variable {tb : String → Option Builtin} {p : Program} {w : World} {n₀ : Nat} {ann : Option Value} {s : Shared} {b : Nat} {a c : Addr} {o oc : Obj} {es : Array (Int × Value)} {ep : Nat} {t : SetTable}
theorem gw_typeRef {Q : Value → Shared → Nat → Prop} (ho : s.heap.get? a = some o) (h : Q o.cls s b) : gw tb p w n₀ ann (typeOf (.ref a)) Q s (b + 1) := gw_load ho (gw_pure h)
theorem gw_isFroz {Q : Bool → Shared → Nat → Prop} (ho : s.heap.get? a = some o) (hc : o.cls = .type "frozenset") (h : Q true s b) : gw tb p w n₀ ann (isAnySet (.ref a)) Q s (b + 2) := by
  unfold isAnySet isInstance
  refine gw_bind (gw_bind (gw_typeRef ho ?_))
  rw [hc, show isSubtype (.type "frozenset") (.type "set") = pure false by kernel_rfl]
  refine gw_pure' ?_
  refine gw_bind (gw_typeRef ho ?_)
  rw [hc, show isSubtype (.type "frozenset") (.type "frozenset") = pure true by kernel_rfl]
  exact gw_pure' h
theorem gw_baseOf {Q : Value → Shared → Nat → Prop} (ho : s.heap.get? a = some o) (hc : o.cls = .type "frozenset") (h : Q (.type "frozenset") s b) : gw tb p w n₀ ann (baseOf a) Q s (b + 1) := by
  unfold baseOf isInstance
  refine gw_bind (gw_bind (gw_typeRef ho ?_))
  rw [hc, show isSubtype (.type "frozenset") (.type "set") = pure false by kernel_rfl]
  exact gw_pure' (gw_pure' h)
noncomputable abbrev freshT (w : World) : SetTable := .fresh 0 0 (!w.params.followText "set-order")
noncomputable abbrev newS (w : World) : Obj := ⟨.type "frozenset", none, .set #[] 0 (freshT w), #[]⟩
theorem gw_newSet {Q : Value → Shared → Nat → Prop} (h : Q (.ref s.heap.objs.size) { s with heap := s.heap.push (newS w) } b) : gw tb p w n₀ ann (newSet (.type "frozenset")) Q s (b + 2) := by
  unfold newSet
  refine gw_bind (gw_setsByText ?_)
  unfold newObj
  refine gw_alloc ?_
  exact gw_pure h
theorem gw_reordered {Q : Array (Int × Value) × SetTable → Shared → Nat → Prop} {t' : SetTable} {order : Array Nat} {r X : Sem (Array (Int × Value) × SetTable)}
    (hr : r = (if ((order.filterMap (es[·]?)).size != es.size) = true then X else pure (order.filterMap (es[·]?), t'))) (hz : (order.filterMap (es[·]?)).size = es.size) (h : Q (order.filterMap (es[·]?), t') s b) : gw tb p w n₀ ann r Q s b := by
  subst hr
  simp only [hz, bne_self_eq_false, Bool.false_eq_true, if_false]
  exact gw_pure' h
theorem gw_is {α : Type} {Q : α → Shared → Nat → Prop} {r : Sem α} {x : α} (hr : r = pure x) (h : Q x s b) : gw tb p w n₀ ann r Q s b := hr ▸ gw_pure' h
theorem get_put_ne {h : Heap} (hac : c ≠ a) {o' : Obj} : (put h a o').get? c = h.get? c := Heap.get?_update_ne _ _ _ _ hac
theorem notFreed {o : Obj} {es : Array (Int × Value)} {ep : Nat} {t : SetTable} : ∀ c d s, ({ o with data := .set es ep t } : Obj) ≠ ⟨c, d, .freed, s⟩ := by
  intro c d s e
  injection e with _ _ e _
  cases e
theorem put_set {h : Heap} {es es' : Array (Int × Value)} {ep : Nat} {t t' : SetTable} (ho : h.get? a = some o) (hd : o.data = .set es ep t) : h.update a (Obj.putSet es' t') = put h a { o with data := .set es' (ep + 1) t' } := by
  rw [upd_put ho]
  obtain ⟨c, dd, dt, sl⟩ := o
  simp only at hd
  subst hd
  rfl
theorem put_self {h : Heap} (ho : h.get? a = some o) : put h a o = h := by
  have e4 := get_objs ho
  obtain ⟨objs, life⟩ := h
  simp only at e4
  simp only [put, Heap.update, Heap.mk.injEq, and_true]
  apply Array.ext_getElem?
  intro i
  simp only [Array.getElem?_modify]
  by_cases q : a = i
  · subst q
    simp [e4]
  · simp [q]
/-- room in a fresh set -/
theorem gw_room0 {Q : Unit → Shared → Nat → Prop} {n M : Nat} {led : Bool} (hn : n₀ ≤ a) (ho : s.heap.get? a = some o) (hd : o.data = .set #[] ep (.fresh 0 0 led)) (hM : (n * 5 < 21 ∧ M = 7) ∨ (21 ≤ n * 5 ∧ SetTable.sizeAbove (n * 2) = M + 1 ∧ goodMask M = true ∧ M + 1 ≤ sizeLine))
    (h : ∀ ep' mv, Q () { s with heap := put s.heap a { o with data := .set #[] ep' { mask := M, place := #[], dummies := #[], finger := 0, led, moves := mv, plain := true } } } b) : gw tb p w n₀ ann (setRoomFor a n) Q s (b + 4) := by
  unfold setRoomFor
  refine gw_bind (gw_setState ho hd rfl (Nat.zero_le _) ?_)
  rcases hM with ⟨h1, rfl⟩ | ⟨h1, h2, h3, h4⟩
  · have e : (SetTable.fresh 0 0 led).roomFor n = none := by
      show (if (0 + n) * 5 ≥ 7 * 3 then _ else _) = _
      rw [if_neg (by omega)]
    simp only [e]
    refine gw_more (b' := b) (by omega) (gw_pure' ?_)
    have := h ep 0
    rw [show ({ o with data := .set #[] ep { mask := 7, place := #[], dummies := #[], finger := 0, led, moves := 0, plain := true } } : Obj) = o by
      obtain ⟨c, dd, dt, sl⟩ := o
      simp only at hd
      subst hd
      rfl, put_self ho] at this
    exact this
  · have e : (SetTable.fresh 0 0 led).roomFor n = some (n * 2) := by
      show (if (0 + n) * 5 ≥ 7 * 3 then some ((0 + n) * 2) else _) = _
      rw [if_pos (by omega), Nat.zero_add]
    simp only [e]
    unfold setRelay
    refine gw_bind (gw_setState ho hd rfl (Nat.zero_le _) ?_)
    have hs : ¬ (SetTable.sizeAbove (n * 2) > sizeLine) := by rw [h2]; omega
    simp only [hs, if_false]
    obtain ⟨t', order, l1, l2, l3, l4, l5, l6, l7, l8, l9, l10⟩ := laid_ok (mask := M) (finger := 0) (moves := (SetTable.fresh 0 0 led).movedTo M) (led := led) (plain := true) h3 #[] (Nat.zero_le _)
    have hl : (SetTable.fresh 0 0 led).relaid ((#[] : Array (Int × Value)).map (·.1)) (n * 2) = some (t', order) := by
      unfold SetTable.relaid
      rw [h2, Nat.add_sub_cancel, show ((#[] : Array (Int × Value)).map (·.1)) = #[] by simp]
      exact l1
    have ho2 : order = #[] := by
      have := l10.length_eq
      simp at this
      exact this
    subst ho2
    rw [hl]
    refine gw_bind (gw_is (x := (#[], t')) rfl ?_)
    have e5 : t' = { mask := M, place := #[], dummies := #[], finger := 0, led, moves := t'.moves, plain := true } := by
      obtain ⟨m1, m2, m3, m4, m5, m6, m7⟩ := t'
      simp only at l2 l4 l5 l6 l7 l9
      have : m2 = #[] := by simpa using l2
      subst this l4 l5 l6 l7 l9
      rfl
    refine gw_storeSet (b := b) hn ho hd (Nat.zero_le _) ?_
    rw [put_set ho hd, e5]
    exact h _ _
end
end
section
open PySem.Builtin.Frozenset
section
variable {tb : String → Option Builtin} {p : Program} {w : World} {n₀ : Nat} {ann : Option Value} {s : Shared} {b : Nat} {a c : Addr} {o oc : Obj} {es : Array (Int × Value)} {ep : Nat} {t : SetTable}
noncomputable def Room (n M : Nat) : Prop := ((n * 5 < 21 ∧ M = 7) ∨ (21 ≤ n * 5 ∧ SetTable.sizeAbove (n * 2) = M + 1 ∧ goodMask M = true ∧ M + 1 ≤ sizeLine)) ∧ goodMask M = true ∧ n ≤ M
theorem gw_mergeFresh {Q : Unit → Shared → Nat → Prop} {each : Sem Unit} {M : Nat} {led : Bool} (hn : n₀ ≤ a) (hac : c ≠ a) (ho : s.heap.get? a = some o) (hd : o.data = .set #[] ep (.fresh 0 0 led))
    (hc : s.heap.get? c = some oc) {ec : Nat} (hdc : oc.data = .set es ec t) (hp : t.place.size = es.size) (hf : t.fill ≤ t.mask) (hz : 0 < es.size) (hz2 : es.size < 4000) (hM : Room es.size M)
    (h : ∀ es' ep' t', es'.toList.Perm es.toList → t'.place.size = es'.size → t'.mask = M → t'.dummies = #[] → Q () { s with heap := put s.heap a { o with data := .set es' ep' t' } } b) :
    gw tb p w n₀ ann (setMerge a c each) Q s (b + 8) := by
  obtain ⟨hM, hg, hMs⟩ := hM
  unfold setMerge
  have h1 : (a == c) = false := beq_eq_false_iff_ne.mpr (Ne.symm hac)
  simp only [h1, Bool.false_eq_true, if_false]
  refine gw_bind (gw_setState hc hdc hp hf ?_)
  have h2 : es.isEmpty = false := by rw [Array.isEmpty_eq_false_iff]; intro e; subst e; simp at hz
  simp only [h2, Bool.false_eq_true, if_false]
  refine gw_bind (gw_room0 hn ho hd hM fun ep' mv => ?_)
  have ho1 := put_get (o' := { o with data := .set #[] ep' { mask := M, place := #[], dummies := #[], finger := 0, led, moves := mv, plain := true } }) ho notFreed
  refine gw_bind (gw_setState (s := { s with heap := put s.heap a { o with data := .set #[] ep' { mask := M, place := #[], dummies := #[], finger := 0, led, moves := mv, plain := true } } }) ho1 rfl rfl (Nat.zero_le _) ?_)
  have hr : ({ mask := M, place := #[], dummies := #[], finger := 0, led, moves := mv, plain := true } : SetTable).road t = (if (M == t.mask && t.dummies.isEmpty) = true then .slotForSlot else .clean) := rfl
  by_cases hcase : (M == t.mask && t.dummies.isEmpty) = true
  · simp only [hr, hcase, if_true]
    obtain ⟨c1, c2⟩ := Bool.and_eq_true_iff.mp hcase
    have c1 : M = t.mask := beq_iff_eq.mp c1
    have c2 : t.dummies = #[] := by simpa using c2
    refine gw_storeSet (s := { s with heap := put s.heap a { o with data := .set #[] ep' { mask := M, place := #[], dummies := #[], finger := 0, led, moves := mv, plain := true } } }) hn ho1 rfl (by unfold sizeLine; omega) ?_
    rw [put_set ho1 rfl, put_put]
    exact h es _ _ (.refl _) hp c1.symm c2
  · simp only [hr, hcase, if_false, Bool.false_eq_true]
    obtain ⟨t', order, l1, l2, l3, l4, l5, l6, l7, l8, l9, l10⟩ := laid_ok (mask := M) (finger := 0) (moves := mv) (led := led && t.led) (plain := true && t.plain) hg (es.map (·.1)) (by simpa using hMs)
    rw [show SetTable.laid (SetTable.mk M #[] #[] 0 led mv true).mask (SetTable.mk M #[] #[] 0 led mv true).finger (SetTable.mk M #[] #[] 0 led mv true).moves ((SetTable.mk M #[] #[] 0 led mv true).led && t.led) ((SetTable.mk M #[] #[] 0 led mv true).plain && t.plain) (es.map (·.1)) = some (t', order) from l1]
    have hpm := picks_perm es order (by simpa using l10)
    have hsz : (order.filterMap (es[·]?)).size = es.size := by
      have := hpm.length_eq
      rw [Array.length_toList, Array.length_toList] at this
      exact this
    refine gw_bind (gw_reordered (es := es) (t' := t') (order := order) rfl hsz ?_)
    refine gw_storeSet (s := { s with heap := put s.heap a { o with data := .set #[] ep' { mask := M, place := #[], dummies := #[], finger := 0, led, moves := mv, plain := true } } }) hn ho1 rfl (by unfold sizeLine; rw [hsz]; omega) ?_
    rw [put_set ho1 rfl, put_put]
    exact h _ _ _ hpm (by rw [hsz, l2]; simp) l4 l9
/-- a copy of a frozenset -/
theorem gw_copyOf {Q : Value → Shared → Nat → Prop} {M : Nat} (hn : n₀ ≤ s.heap.objs.size) (hc : s.heap.get? c = some oc) (hcc : oc.cls = .type "frozenset") {ec : Nat} (hdc : oc.data = .set es ec t) (hp : t.place.size = es.size) (hf : t.fill ≤ t.mask) (hz : 0 < es.size) (hz2 : es.size < 4000) (hM : Room es.size M)
    (h : ∀ es' ep' t', es'.toList.Perm es.toList → t'.place.size = es'.size → t'.mask = M → t'.dummies = #[] → Q (.ref s.heap.objs.size) { s with heap := s.heap.push ⟨.type "frozenset", none, .set es' ep' t', #[]⟩ } b) :
    gw tb p w n₀ ann (copyOf c) Q s (b + 11) := by
  unfold copyOf
  refine gw_bind (gw_baseOf hc hcc (gw_bind (gw_newSet ?_)))
  have hne : c ≠ s.heap.objs.size := Nat.ne_of_lt (Heap.lt_size hc)
  have g0 : (s.heap.push (newS w)).get? s.heap.objs.size = some (newS w) := by
    unfold Heap.get? Heap.push
    simp only [Array.getElem?_push_size]
  have pp : ∀ o', put (s.heap.push (newS w)) s.heap.objs.size o' = s.heap.push o' := by
    intro o'
    obtain ⟨⟨objs, life⟩, gens, drawn, toks, os⟩ := s
    simp only [put, Heap.update, Heap.push, Heap.mk.injEq, and_true]
    apply Array.ext_getElem?
    intro i
    rw [Array.getElem?_modify, Array.getElem?_push, Array.getElem?_push]
    by_cases h1 : objs.size = i
    · simp [h1]
    · simp [h1, Ne.symm h1]
  show gw tb p w n₀ ann (addrOf (.ref s.heap.objs.size) >>= _) _ _ _
  refine gw_bind (gw_is (x := s.heap.objs.size) rfl ?_)
  refine gw_bind (gw_mergeFresh (s := { s with heap := s.heap.push (newS w) }) (o := newS w) (led := !w.params.followText "set-order") hn hne g0 rfl ((Heap.get?_push_ne _ _ _ hne).trans hc) hdc hp hf hz hz2 hM fun es' ep' t' e1 e2 e3 e4 => ?_)
  refine gw_pure' ?_
  have := h es' ep' t' e1 e2 e3 e4
  rw [← pp] at this
  exact this
end
end
section
open PySem.Builtin.Frozenset
section
variable {w : World} {n₀ : Nat} {ann : Option Value} {p : Program}
theorem eqr_t (c : Nat) (hc : c = 9 ∨ c = 10) (t u : Tok) (heap : Heap) (gens : Array GenState) (drawn : Drawn) (toks : Nat) (os : OsState) (K : Bool → Sem Fin) (H : Value → Sem Fin) (gd : Bool → Bool) (lv : List Value → List Value) (cd : Code) (pos : Pos) (F F' : Frame) (st : List Frame) :
    (segGo treeTable p (w.withFollow "special-get-raises" true) n₀ ann 1 4 ⟨heap, gens, drawn, toks, os⟩ ⟨(richCompare .Eq (.str ⟨#[c]⟩ t) (.str ⟨#[c]⟩ u) >>= truthOfDropped).wrap K H gd lv, cd, pos, F :: F' :: st⟩) = some (⟨heap, gens, drawn, toks, os⟩, ⟨K true, cd, pos, F :: F' :: st⟩) := by
  rcases hc with rfl | rfl <;> kernel_rfl
theorem eqr_f (c : Nat) (hc : c = 9 ∨ c = 10) (t u : Tok) (heap : Heap) (gens : Array GenState) (drawn : Drawn) (toks : Nat) (os : OsState) (K : Bool → Sem Fin) (H : Value → Sem Fin) (gd : Bool → Bool) (lv : List Value → List Value) (cd : Code) (pos : Pos) (F F' : Frame) (st : List Frame) :
    (segGo treeTable p (w.withFollow "special-get-raises" false) n₀ ann 1 4 ⟨heap, gens, drawn, toks, os⟩ ⟨(richCompare .Eq (.str ⟨#[c]⟩ t) (.str ⟨#[c]⟩ u) >>= truthOfDropped).wrap K H gd lv, cd, pos, F :: F' :: st⟩) = some (⟨heap, gens, drawn, toks, os⟩, ⟨K true, cd, pos, F :: F' :: st⟩) := by
  rcases hc with rfl | rfl <;> kernel_rfl
theorem gw_eqr {c : Nat} (hc : c = 9 ∨ c = 10) {t u : Tok} {Q : Bool → Shared → Nat → Prop} {s : Shared} {b : Nat} (h : Q true s b) : gw treeTable p w n₀ ann (richCompare .Eq (.str ⟨#[c]⟩ t) (.str ⟨#[c]⟩ u) >>= truthOfDropped) Q s (b + 4) := fun K H gd lv cd pos st hl => by
  obtain ⟨heap, gens, drawn, toks, os⟩ := s
  match st, hl with
  | F :: F' :: st, _ =>
    refine ⟨_, _, pos, b, 4, h, by omega, 4, Nat.le_refl 4, ?_⟩
    have e := World.withFollow_self w "special-get-raises"
    cases hb : w.params.followText "special-get-raises" with
    | true =>
      rw [hb] at e
      have := eqr_t (w := w) (n₀ := n₀) (ann := ann) (p := p) c hc t u heap gens drawn toks os K H gd lv cd pos F F' st
      rw [e] at this
      exact this
    | false =>
      rw [hb] at e
      have := eqr_f (w := w) (n₀ := n₀) (ann := ann) (p := p) c hc t u heap gens drawn toks os K H gd lv cd pos F F' st
      rw [e] at this
      exact this
theorem gw_eqBool {c : Nat} (hc : c = 9 ∨ c = 10) {t u : Tok} {Q : Bool → Shared → Nat → Prop} {s : Shared} {b : Nat} (h : Q true s b) : gw treeTable p w n₀ ann (eqBool (.str ⟨#[c]⟩ t) (.str ⟨#[c]⟩ u)) Q s (b + 4) := by
  unfold eqBool
  refine gw_holding ?_
  by_cases e : ((Value.str ⟨#[c]⟩ t) == (Value.str ⟨#[c]⟩ u)) = true
  · simp only [e, if_true]
    exact gw_bind (gw_rule (gw_pure (gw_more (b' := b) (by omega) (gw_pure' h))))
  · simp only [e, if_false, Bool.false_eq_true]
    exact gw_eqr hc h
variable {s : Shared} {b : Nat} {a c : Addr} {o oc : Obj} {es : Array (Int × Value)} {ep : Nat} {t : SetTable}
theorem erase_perm {α : Type} (xs : Array α) (i : Nat) (x : α) (h : xs[i]? = some x) : xs.toList.Perm (x :: (SetTable.eraseAt xs i).toList) := by
  unfold SetTable.eraseAt
  simp only [Array.toList_append, Array.toList_extract]
  have hi : i < xs.size := by
    rcases Nat.lt_or_ge i xs.size with q | q
    · exact q
    · rw [Array.getElem?_eq_none q] at h; cases h
  have e : xs.toList = xs.toList.take i ++ x :: xs.toList.drop (i + 1) := by
    have h2 : xs.toList[i]? = some x := by rw [Array.getElem?_toList]; exact h
    have h3 : xs.toList.drop i = x :: xs.toList.drop (i + 1) := by
      rw [List.drop_eq_getElem_cons (by simpa using hi)]
      have := List.getElem?_eq_getElem (l := xs.toList) (i := i) (by simpa using hi)
      rw [h2] at this
      rw [← Option.some.inj this]
    rw [← h3, List.take_append_drop]
  have e2 : xs.toList.extract 0 i = xs.toList.take i := by simp [List.extract_eq_drop_take]
  have e3 : xs.toList.extract (i + 1) xs.size = xs.toList.drop (i + 1) := by
    rw [List.extract_eq_drop_take]
    exact List.take_of_length_le (by simp)
  rw [e2, e3]
  refine (List.Perm.of_eq e).trans ?_
  exact List.perm_middle
theorem erase_size {α : Type} (xs : Array α) (i : Nat) (h : i < xs.size) : (SetTable.eraseAt xs i).size + 1 = xs.size := by
  have := (erase_perm xs i _ (Array.getElem?_eq_getElem h)).length_eq
  simp only [Array.length_toList, List.length_cons] at this
  omega
theorem insert_size {α : Type} (xs : Array α) (i : Nat) (x : α) : (SetTable.insertAt xs i x).size = xs.size + 1 := by
  have := (insert_perm xs i x).length_eq
  simp only [Array.length_toList, List.length_cons] at this
  exact this
theorem drop_ok {n i : Nat} (hp : t.place.size = n) (hi : i < n) : (t.drop i).place.size + 1 = n ∧ (t.drop i).fill = t.fill ∧ (t.drop i).mask = t.mask ∧ (t.drop i).dummies.size = t.dummies.size + 1 := by
  unfold SetTable.drop
  have h1 : i < t.place.size := by omega
  rw [Array.getElem?_eq_getElem h1]
  have h2 := erase_size t.place i h1
  refine ⟨?_, ?_, rfl, ?_⟩
  · show (SetTable.eraseAt t.place i).size + 1 = n
    omega
  · show (SetTable.eraseAt t.place i).size + (SetTable.insertAt t.dummies _ _).size = t.place.size + t.dummies.size
    rw [insert_size]
    omega
  · exact insert_size _ _ _
/-- only strs -/
noncomputable def Strs (es : Array (Int × Value)) : Prop := ∀ e ∈ es.toList, ∃ y u, e.2 = .str y u
theorem gw_discard {Q : Bool → Shared → Nat → Prop} {x : Nat} (hx : x = 9 ∨ x = 10) {tk : Tok} {hv : Int} (hn : n₀ ≤ a) (ho : s.heap.get? a = some o) (hd : o.data = .set es ep t) (hp : t.place.size = es.size) (hf : t.fill ≤ t.mask) (hz : es.size < 4000)
    (hall : Strs es) {ix : Nat} (hix : es.findIdx? (fun e => e.2.isStr ⟨#[x]⟩) = some ix)
    (h : ∀ e es' ep' t', e.2.isStr ⟨#[x]⟩ = true → es.toList.Perm (e :: es'.toList) → t'.place.size = es'.size → t'.fill ≤ t'.mask → t'.mask = t.mask → t'.dummies.size = t.dummies.size + 1 → Q true { s with heap := put s.heap a { o with data := .set es' ep' t' } } b) :
    gw treeTable p w n₀ ann (setDiscardHashed a (.str ⟨#[x]⟩ tk) hv) Q s (b + 12) := by
  have hi : ix < es.size := by
    obtain ⟨q, _⟩ := Array.findIdx?_eq_some_iff_getElem.mp hix
    exact q
  obtain ⟨hv', y, u, he, hey⟩ : ∃ hv' y u, es[ix]? = some (hv', .str y u) ∧ y = ⟨#[x]⟩ := by
    obtain ⟨q, hq, _⟩ := Array.findIdx?_eq_some_iff_getElem.mp hix
    obtain ⟨y, u, e⟩ := hall es[ix] (Array.mem_toList_iff.mpr (Array.getElem_mem q))
    refine ⟨es[ix].1, y, u, ?_, ?_⟩
    · rw [Array.getElem?_eq_getElem q, ← e]
    · rw [e] at hq
      have : (y == (⟨#[x]⟩ : Str)) = true := hq
      exact beq_iff_eq.mp this
  subst hey
  unfold setDiscardHashed setFind
  refine gw_bind ?_
  show gw treeTable p w n₀ ann (setFindIn a _ _ (99999 + 1)) _ _ _
  unfold setFindIn
  refine gw_bind (gw_setState ho hd hp hf ?_)
  have hbs : byScan (.str ⟨#[x]⟩ tk) es = true := by
    unfold byScan
    have h1 : (es.all fun e => e.2.scannable) = true := by
      rw [← Array.all_toList, List.all_eq_true]
      intro e he
      obtain ⟨y, u, e2⟩ := hall e he
      rw [e2]; rfl
    rw [h1]
    have : es.size < scanBound := by unfold scanBound; omega
    simp [this, Value.scannable]
  simp only [hbs, if_true]
  refine gw_bind (gw_rule (gw_pure ?_))
  have hstr : (es.all fun e => isExactStrKey e.2) = true := by
    rw [← Array.all_toList, List.all_eq_true]
    intro e he
    obtain ⟨y, u, e2⟩ := hall e he
    rw [e2]; rfl
  unfold setScan
  simp only [hstr, if_true]
  unfold setScanStrs
  simp only [hix, he]
  refine gw_bind (gw_bind (gw_setEpoch ho hd hp hf ?_))
  refine gw_bind (gw_eqBool hx ?_)
  simp only [Bool.false_and, Bool.false_eq_true, if_false]
  refine gw_bind (gw_setEpoch ho hd hp hf ?_)
  simp only [bne_self_eq_false, Bool.false_eq_true, if_false, if_true]
  refine gw_pure' ?_
  refine gw_pure' ?_
  refine gw_bind (gw_setState ho hd hp hf ?_)
  obtain ⟨d1, d2, d3, d4⟩ := drop_ok (t := t) hp hi
  have z := erase_size es ix hi
  refine gw_bind (gw_storeSet hn ho hd (by show (SetTable.eraseAt es ix).size ≤ sizeLine; unfold sizeLine; omega) ?_)
  rw [put_set ho hd]
  refine gw_bind (gw_point (gw_pure ?_))
  refine gw_more (b' := b) (by omega) (gw_pure' ?_)
  exact h _ _ _ _ (beq_self_eq_true _) (erase_perm es ix _ he) (by show (t.drop ix).place.size = (SetTable.eraseAt es ix).size; omega) (by show (t.drop ix).fill ≤ (t.drop ix).mask; omega) d3 d4
end
end
section
open PySem.Builtin.Frozenset
theorem idx_perm {α : Type} : ∀ (l : List α) (i : Nat) (h : i < l.length), (l[i] :: l.eraseIdx i).Perm l
  | [], i, h => by simp at h
  | x :: l, 0, h => .refl _
  | x :: l, i + 1, h => by
    have ih := idx_perm l i (by simpa using h)
    show ((x :: l)[i + 1] :: x :: l.eraseIdx i).Perm (x :: l)
    exact (List.Perm.swap x _ _).trans (ih.cons x)
theorem pick_go {α : Type} (next : Nat → Nat) : ∀ (fuel k : Nat) (l : List α) (out : Array α), fuel = l.length → (pickOrder.go next fuel k l out).toList.Perm (out.toList ++ l)
  | 0, k, l, out, h => by
    have : l = [] := List.length_eq_zero_iff.mp h.symm
    subst this
    simp [pickOrder.go]
  | fuel + 1, k, l, out, h => by
    unfold pickOrder.go
    have hl : next k % l.length < l.length := Nat.mod_lt _ (by omega)
    rw [List.getElem?_eq_getElem hl]
    have ih := pick_go next fuel (k + 1) (l.eraseIdx (next k % l.length)) (out.push l[next k % l.length]) (by rw [List.length_eraseIdx_of_lt hl]; omega)
    refine ih.trans ?_
    rw [Array.toList_push, List.append_assoc]
    exact List.Perm.append_left _ (idx_perm _ _ hl)
theorem pick_perm {α : Type} (next : Nat → Nat) (xs : Array α) : (pickOrder next xs).toList.Perm xs.toList := by
  have := pick_go next xs.size 0 xs.toList #[] (by simp)
  simpa [pickOrder] using this
section
variable {tb : String → Option Builtin} {p : Program} {w : World} {n₀ : Nat} {ann : Option Value} {s : Shared} {b : Nat} {a c : Addr} {o oc : Obj} {es : Array (Int × Value)} {ep : Nat} {t : SetTable}
theorem gw_ask' {Q : Setting → Shared → Nat → Prop} (h : Q ⟨p, w.params⟩ s b) : gw tb p w n₀ ann ask Q s (b + 1) := gw_ask (gw_pure h)
theorem gw_walk {Q : Array (Int × Value) → Shared → Nat → Prop} (ho : s.heap.get? a = some o) (hd : o.data = .set es ep t) (hp : t.place.size = es.size) (hf : t.fill ≤ t.mask)
    (hw : w.params.followText "set-order" = true ∨ (t.led && t.plain) = true ∨ es.size ≤ 1) (h : ∀ es', es'.toList.Perm es.toList → Q es' s b) : gw tb p w n₀ ann (setWalk a) Q s (b + 3) := by
  unfold setWalk
  refine gw_bind (gw_setState ho hd hp hf ?_)
  refine gw_bind (gw_setsByText ?_)
  by_cases hb : w.params.followText "set-order" = true
  · simp only [hb, if_true]
    refine gw_bind (gw_ask' ?_)
    exact gw_pure' (h _ (pick_perm _ _))
  · simp only [hb, if_false, Bool.false_eq_true]
    have hw : (t.led && t.plain) = true ∨ es.size ≤ 1 := hw.resolve_left hb
    have h1 : ∀ r, r = (!t.plain && decide (es.size > 1)) → r = false := by
      intro r e
      rw [e]
      rcases hw with q | q
      · rw [(Bool.and_eq_true_iff.mp q).2]; rfl
      · rw [show decide (es.size > 1) = false from decide_eq_false (by omega)]; simp
    have h2 : (!t.led && decide (es.size > 1)) = false := by
      rcases hw with q | q
      · rw [(Bool.and_eq_true_iff.mp q).1]; rfl
      · rw [show decide (es.size > 1) = false from decide_eq_false (by omega)]; simp
    split
    · rename_i q
      have := h1 _ rfl
      exact absurd q (by
        have e : ∀ r : Bool, r = false → ¬ r = true := by intro r e; subst e; decide
        exact e _ this)
    · refine gw_bind (gw_is (x := ()) ?_ (gw_more (b' := b) (by omega) (gw_pure' (h _ (.refl _)))))
      show (if (!t.led && decide (es.size > 1)) = true then _ else _) = _
      rw [h2]
      rfl
theorem forIn_strs {β : Type} (f : Int × Value → β → Sem (ForInStep β)) (i : β) : ∀ (l : List (Int × Value)), (∀ e ∈ l, f e i = pure (.yield i)) → (forIn l i f : Sem β) = pure i
  | [], _ => by simp
  | e :: l, h => by
    rw [List.forIn_cons, h e (.head _)]
    exact forIn_strs f i l (fun e he => h e (.tail _ he))
theorem gw_quiet1 {α : Type} {Q : Option Bool × Unit → Shared → Nat → Prop} (hall : Strs es) {r : Sem (Option Bool × Unit)} (hr : r = forIn es ((none : Option Bool), ()) (fun x _ => match x with
      | (_, x) => match x with
        | Value.ref a => do
          let d ← specialOf x (Str.ofString "__eq__")
          if (d != some (Value.builtin "object.__eq__")) = true then pure (ForInStep.done (some false, ())) else pure (ForInStep.yield (none, ()))
        | _ => pure (ForInStep.yield (none, ())))) (h : Q (none, ()) s b) : gw tb p w n₀ ann r Q s b := by
  subst hr
  rw [← Array.forIn_toList, forIn_strs]
  · exact gw_pure' h
  · intro e he
    obtain ⟨y, u, e2⟩ := hall e he
    obtain ⟨e1, e3⟩ := e
    simp only at e2
    subst e2
    rfl
theorem gw_quiet2 {Q : Bool → Shared → Nat → Prop} {es2 : Array (Int × Value)} {ep2 : Nat} {t2 : SetTable} (ho : s.heap.get? a = some o) (hd : o.data = .set es ep t) (hp : t.place.size = es.size) (hf : t.fill ≤ t.mask) (hall : Strs es)
    (hc : s.heap.get? c = some oc) (hdc : oc.data = .set es2 ep2 t2) (hp2 : t2.place.size = es2.size) (hf2 : t2.fill ≤ t2.mask) (hall2 : Strs es2) (h : Q true s b) : gw tb p w n₀ ann (setsQuiet [a, c]) Q s (b + 2) := by
  unfold setsQuiet
  rw [List.forIn_cons]
  refine gw_bind (gw_bind (gw_bind (gw_setEntries ho hd hp hf (gw_bind (gw_quiet1 (α := Bool) hall rfl ?_)))))
  refine gw_pure' ?_
  dsimp only
  rw [List.forIn_cons]
  refine gw_bind (gw_bind (gw_setEntries hc hdc hp2 hf2 (gw_bind (gw_quiet1 (α := Bool) hall2 rfl ?_))))
  refine gw_pure' ?_
  dsimp only
  rw [List.forIn_nil]
  exact gw_pure' (gw_pure' h)
/-- the walk of a set of strs that nobody fills -/
theorem gw_unseen {Q : Array (Int × Value) → Shared → Nat → Prop} {es2 : Array (Int × Value)} {ep2 : Nat} {t2 : SetTable} (ho : s.heap.get? a = some o) (hd : o.data = .set es ep t) (hp : t.place.size = es.size) (hf : t.fill ≤ t.mask) (hall : Strs es)
    (hc : s.heap.get? c = some oc) (hdc : oc.data = .set es2 ep2 t2) (hp2 : t2.place.size = es2.size) (hf2 : t2.fill ≤ t2.mask) (hall2 : Strs es2) (h : ∀ es', es'.toList.Perm es.toList → Q es' s b) : gw tb p w n₀ ann (setWalkUnseen a [c] none) Q s (b + 5) := by
  unfold setWalkUnseen
  refine gw_bind (gw_setState ho hd hp hf ?_)
  refine gw_bind (gw_setsByText ?_)
  by_cases hq : ((w.params.followText "set-order" || (t.led && t.plain)) || decide (es.size ≤ 1)) = true
  · simp only [hq, if_true]
    refine gw_walk (b := b) ho hd hp hf ?_ h
    rcases Bool.or_eq_true_iff.mp hq with q | q
    · rcases Bool.or_eq_true_iff.mp q with q | q
      · exact .inl q
      · exact .inr (.inl q)
    · exact .inr (.inr (of_decide_eq_true q))
  · simp only [hq, if_false, Bool.false_eq_true]
    refine gw_bind (gw_quiet2 ho hd hp hf hall hc hdc hp2 hf2 hall2 ?_)
    simp only [Bool.not_true, Bool.false_eq_true, if_false]
    exact gw_bind (gw_rule (gw_pure (gw_pure' (h _ (.refl _)))))
theorem gw_unseen1 {Q : Array (Int × Value) → Shared → Nat → Prop} {l : List Addr} {f : Option Addr} (ho : s.heap.get? a = some o) (hd : o.data = .set es ep t) (hp : t.place.size = es.size) (hf : t.fill ≤ t.mask) (h1 : es.size ≤ 1)
    (h : ∀ es', es'.toList.Perm es.toList → Q es' s b) : gw tb p w n₀ ann (setWalkUnseen a l f) Q s (b + 5) := by
  unfold setWalkUnseen
  refine gw_bind (gw_setState ho hd hp hf ?_)
  refine gw_bind (gw_setsByText ?_)
  have hq : ((w.params.followText "set-order" || (t.led && t.plain)) || decide (es.size ≤ 1)) = true := by rw [decide_eq_true h1, Bool.or_true]
  simp only [hq, if_true]
  exact gw_walk (b := b) ho hd hp hf (.inr (.inr h1)) h
theorem gw_unchanged {Q : Unit → Shared → Nat → Prop} {id : String} (ho : s.heap.get? a = some o) (hd : o.data = .set es ep t) (hp : t.place.size = es.size) (hf : t.fill ≤ t.mask) (h : Q () s b) : gw tb p w n₀ ann (unchanged id a ep) Q s (b + 1) := by
  unfold unchanged
  refine gw_bind (gw_setEpoch ho hd hp hf ?_)
  simp only [bne_self_eq_false, Bool.false_eq_true, if_false]
  exact gw_pure' h
end
end
section
open PySem.Builtin.Frozenset
section
variable {p : Program} {w : World} {n₀ : Nat} {ann : Option Value} {s : Shared} {b : Nat} {a c : Addr} {o oc : Obj} {es : Array (Int × Value)} {ep : Nat} {t : SetTable}
theorem one_of {α : Type} {xs : Array α} {e : α} (h : xs.toList.Perm [e]) : xs = #[e] := by
  have := List.perm_singleton.mp h
  obtain ⟨l⟩ := xs
  simp only at this
  rw [this]
/-- a set of one str, not yet there, goes into another -/
theorem gw_mergeOne {Q : Unit → Shared → Nat → Prop} {id : String} {x : Str} {tk : Tok} {hv : Int} {ec : Nat} {tc : SetTable} (hn : n₀ ≤ a) (hac : c ≠ a) (ho : s.heap.get? a = some o) (hd : o.data = .set es ep t) (hp : t.place.size = es.size) (hf : t.fill ≤ t.mask) (hz : es.size < 4000) (h0 : 0 < es.size) (hall : Others es x)
    (hroom : (t.fill + 1) * 5 < t.mask * 3) (hc : s.heap.get? c = some oc) (hdc : oc.data = .set #[(hv, .str x tk)] ec tc) (hpc : tc.place.size = 1) (hfc : tc.fill ≤ tc.mask)
    (h : ∀ es' ep' t', es'.toList.Perm ((hv, .str x tk) :: es.toList) → t'.place.size = es'.size → t'.fill ≤ t'.mask → Q () { s with heap := put s.heap a { o with data := .set es' ep' t' } } b) :
    gw treeTable p w n₀ ann (setMerge a c (unchanged id c ec)) Q s (b + 20) := by
  unfold setMerge
  have h1 : (a == c) = false := beq_eq_false_iff_ne.mpr (Ne.symm hac)
  simp only [h1, Bool.false_eq_true, if_false]
  refine gw_bind (gw_setState hc hdc hpc hfc ?_)
  simp only [show (#[(hv, Value.str x tk)] : Array (Int × Value)).isEmpty = false from rfl, Bool.false_eq_true, if_false]
  have hrf : t.roomFor (#[(hv, Value.str x tk)] : Array (Int × Value)).size = none := by
    show (if (t.fill + 1) * 5 ≥ t.mask * 3 then _ else _) = _
    rw [if_neg (by omega)]
  unfold setRoomFor
  refine gw_bind (gw_bind (gw_setState ho hd hp hf ?_))
  simp only [hrf]
  refine gw_pure' ?_
  refine gw_bind (gw_setState ho hd hp hf ?_)
  have hroad : t.road tc = .oneByOne := by
    unfold SetTable.road
    have : (t.fill != 0) = true := by
      rw [bne_iff_ne]
      unfold SetTable.fill
      omega
    rw [if_pos this]
  simp only [hroad]
  refine gw_bind (gw_unseen1 hc hdc hpc hfc (Nat.le_refl 1) fun es1 he1 => ?_)
  rw [one_of he1, ← Array.forIn_toList]
  refine gw_bind ?_
  show gw treeTable p w n₀ ann (forIn [(hv, Value.str x tk)] PUnit.unit _) _ _ _
  rw [List.forIn_cons]
  refine gw_bind ?_
  dsimp only
  refine gw_bind (gw_holding (gw_addHashed (b := b + 2) hn ho hd hp hf hz hall fun es' ep' t' e1 e2 e3 => ?_))
  have hc' : (put s.heap a { o with data := .set es' ep' t' }).get? c = some oc := (get_put_ne hac).trans hc
  refine gw_bind (gw_unchanged (s := { s with heap := put s.heap a { o with data := .set es' ep' t' } }) hc' hdc hpc hfc ?_)
  refine gw_bind (gw_setState (s := { s with heap := put s.heap a { o with data := .set es' ep' t' } }) hc' hdc hpc hfc ?_)
  simp only [bne_self_eq_false, Bool.false_eq_true, if_false]
  refine gw_pure' ?_
  dsimp only
  rw [List.forIn_nil]
  refine gw_pure' (gw_pure' ?_)
  exact h es' ep' t' e1 e2 e3
theorem push_new {h : Heap} {o : Obj} (hd : ∀ c d s, o ≠ ⟨c, d, .freed, s⟩) : (h.push o).get? h.objs.size = some o := by
  unfold Heap.get? Heap.push
  simp only [Array.getElem?_push_size]
  split
  · rename_i c d s hh
    exact absurd (Option.some.inj hh) (hd _ _ _)
  · rfl
theorem put_push {h : Heap} {o o' : Obj} : put (h.push o) h.objs.size o' = h.push o' := by
  obtain ⟨objs, life⟩ := h
  simp only [put, Heap.update, Heap.push, Heap.mk.injEq, and_true]
  apply Array.ext_getElem?
  intro i
  rw [Array.getElem?_modify, Array.getElem?_push, Array.getElem?_push]
  by_cases h1 : objs.size = i
  · simp [h1]
  · simp [h1, Ne.symm h1]
noncomputable abbrev frozO (es : Array (Int × Value)) (ep : Nat) (t : SetTable) : Obj := ⟨.type "frozenset", none, .set es ep t, #[]⟩
theorem frozAlive {es : Array (Int × Value)} {ep : Nat} {t : SetTable} : ∀ c d s, frozO es ep t ≠ ⟨c, d, .freed, s⟩ := by
  intro c d s e
  injection e with _ _ e _
  cases e
noncomputable def unionT (l : Addr) (r : Value) : Sem Value := do
  let result ← copyOf l
  if r != .ref l then holding [result] (updateFrom "frozenset.__or__" (← addrOf result) r)
  return result
theorem or_is (l c : Addr) : denote treeTable (.builtin "frozenset.__or__" ⟨[.ref l, .ref c], []⟩) = (do
    if !(← isAnySet (.ref l) <&&> isAnySet (.ref c)) then rule "frozenset.__or__.declined"; return ← ret .notImplemented
    ret (← unionT l (.ref c)) : Sem Fin) := by kernel_rfl
noncomputable def subT (name : String) (l c : Addr) : Sem Fin := do
    if !(← isAnySet (.ref l) <&&> isAnySet (.ref c)) then rule "frozenset.__sub__.declined"; return ← ret .notImplemented
    ret (← difference "frozenset.__sub__" l (.ref c))
theorem sub_is (l c : Addr) : denote treeTable (.builtin "frozenset.__sub__" ⟨[.ref l, .ref c], []⟩) = subT "" l c := by kernel_rfl
end
end
section
open PySem.Builtin.Frozenset
section
variable {p : Program} {w : World} {n₀ : Nat} {ann : Option Value} {s : Shared} {b : Nat} {l c : Addr} {ol oc : Obj} {es : Array (Int × Value)} {ep : Nat} {t : SetTable}
theorem both_froz {Q : Bool → Shared → Nat → Prop} (hl : s.heap.get? l = some ol) (h1 : ol.cls = .type "frozenset") (hc : s.heap.get? c = some oc) (h2 : oc.cls = .type "frozenset") (h : Q true s b) :
    gw treeTable p w n₀ ann (isAnySet (.ref l) <&&> isAnySet (.ref c)) Q s (b + 4) := by
  refine gw_bind (gw_isFroz hl h1 ?_)
  exact gw_isFroz hc h2 h
theorem gc_or {R : Value → Shared → Nat → Prop} {x : Str} {tk : Tok} {hv : Int} {ec : Nat} {tc : SetTable} {M : Nat} (hn : n₀ ≤ s.heap.objs.size) (hlc : c ≠ l) (hl : s.heap.get? l = some ol) (hk : ol.cls = .type "frozenset") (hd : ol.data = .set es ep t) (hp : t.place.size = es.size) (hf : t.fill ≤ t.mask)
    (h0 : 0 < es.size) (hM : Room es.size M) (hroom : (es.size + 1) * 5 < M * 3) (hz : es.size < 4000) (hall : Others es x) (hc : s.heap.get? c = some oc) (hck : oc.cls = .type "frozenset") (hdc : oc.data = .set #[(hv, .str x tk)] ec tc) (hpc : tc.place.size = 1) (hfc : tc.fill ≤ tc.mask)
    (h : ∀ es' ep' t', es'.toList.Perm ((hv, .str x tk) :: es.toList) → t'.place.size = es'.size → t'.fill ≤ t'.mask → R (.ref s.heap.objs.size) { s with heap := s.heap.push (frozO es' ep' t') } b) :
    gc treeTable p w n₀ ann (.builtin "frozenset.__or__" ⟨[.ref l, .ref c], []⟩) R s (b + 39) := by
  refine gc_of ?_
  rw [or_is]
  refine gw_bind (both_froz hl hk hc hck ?_)
  simp only [Bool.not_true, Bool.false_eq_true, if_false]
  unfold unionT
  refine gw_bind (gw_bind (gw_copyOf (oc := ol) (M := M) hn hl hk hd hp hf h0 hz hM fun es1 ep1 t1 e1 e2 e3 e4 => ?_))
  have hne : ((Value.ref c) != .ref l) = true := by
    rw [bne_iff_ne]
    intro e
    injection e with e
    exact hlc e
  simp only [hne, if_true]
  have hcs : c ≠ s.heap.objs.size := Nat.ne_of_lt (Heap.lt_size hc)
  have hc1 : (s.heap.push (frozO es1 ep1 t1)).get? c = some oc := (Heap.get?_push_ne _ _ _ hcs).trans hc
  have ha1 : (s.heap.push (frozO es1 ep1 t1)).get? s.heap.objs.size = some (frozO es1 ep1 t1) := push_new frozAlive
  have l1 : es1.size = es.size := by
    have := e1.length_eq
    rw [Array.length_toList, Array.length_toList] at this
    exact this
  have hfl : t1.fill = es1.size := by
    unfold SetTable.fill
    rw [e4, e2]; rfl
  obtain ⟨_, _, hMs⟩ := hM
  have hall1 : Others es1 x := fun e he => hall e (e1.mem_iff.mp he)
  refine gw_bind (gw_is (x := s.heap.objs.size) rfl ?_)
  refine gw_bind (gw_holding ?_)
  unfold updateFrom
  refine gw_bind (gw_isFroz (s := { s with heap := s.heap.push (frozO es1 ep1 t1) }) hc1 hck ?_)
  simp only [if_true]
  refine gw_bind (gw_is (x := c) rfl ?_)
  unfold Builtin.Frozenset.merge
  refine gw_bind (gw_setEpoch (s := { s with heap := s.heap.push (frozO es1 ep1 t1) }) hc1 hdc hpc hfc ?_)
  refine gw_mergeOne (b := b + 1) (s := { s with heap := s.heap.push (frozO es1 ep1 t1) }) (o := frozO es1 ep1 t1) hn hcs ha1 rfl e2 (by omega) (by omega) (by omega) hall1 (by omega) hc1 hdc hpc hfc fun es2 ep2 t2 f1 f2 f3 => ?_
  refine gw_pure' ?_
  refine gw_pure' ?_
  have := h es2 ep2 t2 (f1.trans (e1.cons _)) f2 f3
  rw [← put_push (o := frozO es1 ep1 t1)] at this
  exact this
end
end
section
open PySem.Builtin.Frozenset
noncomputable def nm (e : Int × Value) : Str := match e.2 with
  | .str x _ => x
  | _ => ⟨#[]⟩
theorem nm_is {e : Int × Value} {x : Str} (h : e.2.isStr x = true) (hs : ∃ y u, e.2 = .str y u) : nm e = x := by
  obtain ⟨y, u, e2⟩ := hs
  rw [e2] at h
  have : (y == x) = true := h
  unfold nm
  rw [e2]
  exact beq_iff_eq.mp this
theorem found_at {es : Array (Int × Value)} {x : Str} (hs : Strs es) (h : x ∈ es.toList.map nm) : ∃ ix, es.findIdx? (fun e => e.2.isStr x) = some ix := by
  cases e : es.findIdx? (fun e => e.2.isStr x) with
  | some ix => exact ⟨ix, rfl⟩
  | none =>
    exfalso
    rw [Array.findIdx?_eq_none_iff] at e
    obtain ⟨d, hd, hx⟩ := List.mem_map.mp h
    obtain ⟨y, u, e2⟩ := hs d hd
    have := e d (Array.mem_toList_iff.mp hd)
    unfold nm at hx
    rw [e2] at hx this
    simp only at hx
    subst hx
    have h2 : (y == y) = false := this
    simp at h2
/-- one of the signs that are taken away -/
noncomputable def Tab (e : Int × Value) : Prop := ∃ x tk, (x = 9 ∨ x = 10) ∧ e.2 = .str ⟨#[x]⟩ tk
section
variable {p : Program} {w : World} {n₀ : Nat} {ann : Option Value} {a c : Addr} {oc : Obj} {esc : Array (Int × Value)} {ec : Nat} {tc : SetTable}
theorem gw_discards {id : String} {Q : PUnit → Shared → Nat → Prop} {b : Nat} {M : Nat} {f : Int × Value → PUnit → Sem (ForInStep PUnit)} (hfd : f = fun x __s => match x with
      | (h, x) => do
        let _ ← holding [x] (setDiscardHashed a x h)
        unchanged id c ec
        pure (ForInStep.yield PUnit.unit)) (hn : n₀ ≤ a) (hac : c ≠ a) (hdc : oc.data = .set esc ec tc) (hpc : tc.place.size = esc.size) (hfc : tc.fill ≤ tc.mask) :
    ∀ (ds : List (Int × Value)) (s : Shared) (es : Array (Int × Value)) (ep : Nat) (t : SetTable), s.heap.get? c = some oc → s.heap.get? a = some (frozO es ep t) → t.place.size = es.size → t.fill ≤ t.mask → es.size < 4000 → Strs es → t.mask = M →
      (∀ d ∈ ds, Tab d) → (ds.map nm).Nodup → (∀ d ∈ ds, nm d ∈ es.toList.map nm) →
      (∀ rs es' ep' t', es.toList.Perm (rs ++ es'.toList) → rs.map nm = ds.map nm → t'.place.size = es'.size → t'.fill ≤ t'.mask → t'.mask = M → t'.dummies.size = t.dummies.size + ds.length → Q PUnit.unit { s with heap := put s.heap a (frozO es' ep' t') } b) →
      gw treeTable p w n₀ ann (forIn ds PUnit.unit f) Q s (b + 13 * ds.length)
  | [], s, es, ep, t, hc, ha, hp, hf, hz, hs, hm, _, _, _, h => by
    rw [List.forIn_nil]
    have := h [] es ep t (.refl _) rfl hp hf hm rfl
    rw [put_self ha] at this
    exact gw_pure' this
  | d :: ds, s, es, ep, t, hc, ha, hp, hf, hz, hs, hm, hT, hnd, hin, h => by
    rw [List.forIn_cons, hfd]
    obtain ⟨x, tk, hx, e2⟩ := hT d (.head _)
    obtain ⟨hv, v⟩ := d
    simp only at e2
    subst e2
    obtain ⟨ix, hix⟩ := found_at hs (hin _ (.head _))
    have hix : es.findIdx? (fun e => e.2.isStr ⟨#[x]⟩) = some ix := hix
    refine gw_bind ?_
    dsimp only
    refine gw_bind (gw_holding ?_)
    rw [show b + 13 * ((hv, Value.str ⟨#[x]⟩ tk) :: ds).length = (b + 13 * ds.length + 1) + 12 by simp only [List.length_cons]; omega]
    refine gw_discard hx hn ha rfl hp hf hz hs hix fun e es1 ep1 t1 q1 q2 q3 q4 q5 q6 => ?_
    have hc1 : (put s.heap a (frozO es1 ep1 t1)).get? c = some oc := (get_put_ne hac).trans hc
    refine gw_bind (gw_unchanged (s := { s with heap := put s.heap a (frozO es1 ep1 t1) }) hc1 hdc hpc hfc ?_)
    refine gw_pure' ?_
    dsimp only
    rw [← hfd]
    have hs1 : Strs es1 := fun y hy => hs y (q2.mem_iff.mpr (.tail _ hy))
    have hne : nm e = ⟨#[x]⟩ := nm_is q1 (hs e (q2.mem_iff.mpr (.head _)))
    have hlen : es.size = es1.size + 1 := by
      have := q2.length_eq
      rw [List.length_cons, Array.length_toList, Array.length_toList] at this
      exact this
    have hnd' := List.nodup_cons.mp hnd
    refine gw_discards hfd hn hac hdc hpc hfc ds { s with heap := put s.heap a (frozO es1 ep1 t1) } es1 ep1 t1 hc1 (put_get ha frozAlive) q3 q4 (by omega) hs1 (q5.trans hm) (fun d hd => hT d (.tail _ hd)) hnd'.2 (fun d hd => ?_) fun rs es2 ep2 t2 r1 r2 r3 r4 r5 r6 => ?_
    · have h1 := hin d (.tail _ hd)
      rw [(q2.map nm).mem_iff, List.map_cons] at h1
      rcases List.mem_cons.mp h1 with h1 | h1
      · exfalso
        refine hnd'.1 ?_
        show (⟨#[x]⟩ : Str) ∈ ds.map nm
        rw [← hne, ← h1]
        exact List.mem_map_of_mem hd
      · exact h1
    · have := h (e :: rs) es2 ep2 t2 (q2.trans (r1.cons e)) (by rw [List.map_cons, List.map_cons, r2, hne]; rfl) r3 r4 r5 (by rw [r6, q6, List.length_cons]; omega)
      rw [put_put]
      exact this
end
end
section
open PySem.Builtin.Frozenset
section
variable {p : Program} {w : World} {n₀ : Nat} {ann : Option Value} {s : Shared} {b : Nat} {l c : Addr} {ol oc : Obj} {es esc : Array (Int × Value)} {ep ec : Nat} {t tc : SetTable}
theorem gw_sizeOf {a : Addr} {o : Obj} {Q : Nat → Shared → Nat → Prop} (ho : s.heap.get? a = some o) (hd : o.data = .set es ep t) (hp : t.place.size = es.size) (hf : t.fill ≤ t.mask) (h : Q es.size s b) : gw treeTable p w n₀ ann (Builtin.Frozenset.sizeOf a) Q s (b + 1) := by
  unfold Builtin.Frozenset.sizeOf
  exact gw_bind (gw_setEntries ho hd hp hf (gw_pure' h))
theorem gc_sub {R : Value → Shared → Nat → Prop} {M : Nat} (hn : n₀ ≤ s.heap.objs.size) (hlc : c ≠ l) (hl : s.heap.get? l = some ol) (hk : ol.cls = .type "frozenset") (hd : ol.data = .set es ep t) (hp : t.place.size = es.size) (hf : t.fill ≤ t.mask) (hs : Strs es)
    (h0 : 0 < es.size) (hM : Room es.size M) (hz : es.size < 4000) (hc : s.heap.get? c = some oc) (hck : oc.cls = .type "frozenset") (hdc : oc.data = .set esc ec tc) (hpc : tc.place.size = esc.size) (hfc : tc.fill ≤ tc.mask)
    (hT : ∀ d ∈ esc.toList, Tab d) (hnd : (esc.toList.map nm).Nodup) (hin : ∀ d ∈ esc.toList, nm d ∈ es.toList.map nm) (hsz : esc.size < es.size / 4) (hdm : esc.size ≤ M / 4)
    (h : ∀ rs es' ep' t', es.toList.Perm (rs ++ es'.toList) → (rs.map nm).Perm (esc.toList.map nm) → t'.place.size = es'.size → t'.fill ≤ t'.mask → R (.ref s.heap.objs.size) { s with heap := s.heap.push (frozO es' ep' t') } b) :
    gc treeTable p w n₀ ann (.builtin "frozenset.__sub__" ⟨[.ref l, .ref c], []⟩) R s (b + 13 * esc.size + 40) := by
  refine gc_of ?_
  rw [sub_is]
  unfold subT
  refine gw_bind (both_froz hl hk hc hck ?_)
  simp only [Bool.not_true, Bool.false_eq_true, if_false]
  unfold difference
  refine gw_bind ?_
  refine gw_bind (gw_isFroz hc hck ?_)
  simp only [Bool.not_true, Bool.false_eq_true, if_false, Bool.false_and, if_true]
  refine gw_bind (gw_is (x := c) rfl ?_)
  refine gw_bind (gw_sizeOf hc hdc hpc hfc ?_)
  refine gw_bind (gw_sizeOf hl hd hp hf ?_)
  have hgt : es.size / 4 > esc.size := hsz
  simp only [hgt, if_true]
  refine gw_bind (gw_rule (gw_pure ?_))
  refine gw_bind (gw_copyOf (oc := ol) (M := M) hn hl hk hd hp hf h0 hz hM fun es1 ep1 t1 e1 e2 e3 e4 => ?_)
  have hcs : c ≠ s.heap.objs.size := Nat.ne_of_lt (Heap.lt_size hc)
  have hc1 : (s.heap.push (frozO es1 ep1 t1)).get? c = some oc := (Heap.get?_push_ne _ _ _ hcs).trans hc
  have ha1 : (s.heap.push (frozO es1 ep1 t1)).get? s.heap.objs.size = some (frozO es1 ep1 t1) := push_new frozAlive
  have l1 : es1.size = es.size := by
    have := e1.length_eq
    rw [Array.length_toList, Array.length_toList] at this
    exact this
  obtain ⟨_, _, hMs⟩ := hM
  have hfl : t1.fill ≤ t1.mask := by
    unfold SetTable.fill
    rw [e4, e2, e3, l1]; exact hMs
  have hs1 : Strs es1 := fun e he => hs e (e1.mem_iff.mp he)
  refine gw_bind (gw_is (x := s.heap.objs.size) rfl ?_)
  refine gw_bind (gw_holding ?_)
  unfold differenceUpdate
  have hne : ((Value.ref c) == .ref s.heap.objs.size) = false := by
    rw [beq_eq_false_iff_ne]
    intro e
    injection e with e
    exact hcs e
  simp only [hne, Bool.false_eq_true, if_false]
  refine gw_bind (gw_isFroz (s := { s with heap := s.heap.push (frozO es1 ep1 t1) }) hc1 hck ?_)
  simp only [if_true]
  refine gw_bind (gw_is (x := c) rfl ?_)
  refine gw_bind (gw_sizeOf (s := { s with heap := s.heap.push (frozO es1 ep1 t1) }) hc1 hdc hpc hfc ?_)
  refine gw_bind (gw_sizeOf (s := { s with heap := s.heap.push (frozO es1 ep1 t1) }) (o := frozO es1 ep1 t1) ha1 rfl e2 hfl ?_)
  have hng : ¬ (esc.size / 8 > es1.size) := by omega
  simp only [hng, if_false]
  refine gw_bind (gw_setEpoch (s := { s with heap := s.heap.push (frozO es1 ep1 t1) }) hc1 hdc hpc hfc ?_)
  refine gw_bind (gw_holding ?_)
  have hsc : Strs esc := fun e he => by
    obtain ⟨x, tk, _, q⟩ := hT e he
    exact ⟨_, _, q⟩
  refine gw_bind (gw_unseen (s := { s with heap := s.heap.push (frozO es1 ep1 t1) }) (o := oc) (oc := frozO es1 ep1 t1) hc1 hdc hpc hfc hsc ha1 rfl e2 hfl hs1 fun ds hds => ?_)
  rw [← Array.forIn_toList]
  have hlen : ds.toList.length = esc.size := by
    have := hds.length_eq
    rw [Array.length_toList (xs := esc)] at this
    exact this
  have hnd2 : (ds.toList.map nm).Nodup := (hds.map nm).nodup_iff.mpr hnd
  refine gw_bind ?_
  refine gw_more (b' := b + 3 + 13 * ds.toList.length) (by rw [hlen]; omega) ?_
  refine gw_discards (M := M) (b := b + 3) rfl hn hcs hdc hpc hfc ds.toList { s with heap := s.heap.push (frozO es1 ep1 t1) } es1 ep1 t1 hc1 ha1 e2 hfl (by omega) hs1 e3 (fun d hd => hT d (hds.mem_iff.mp hd)) hnd2 (fun d hd => (e1.map nm).mem_iff.mpr (hin d (hds.mem_iff.mp hd))) fun rs es2 ep2 t2 q1 q2 q3 q4 q5 q6 => ?_
  refine gw_pure' ?_
  have ha2 : (put (s.heap.push (frozO es1 ep1 t1)) s.heap.objs.size (frozO es2 ep2 t2)).get? s.heap.objs.size = some (frozO es2 ep2 t2) := put_get ha1 frozAlive
  unfold setTidy
  refine gw_bind (gw_setState (s := { s with heap := put (s.heap.push (frozO es1 ep1 t1)) s.heap.objs.size (frozO es2 ep2 t2) }) ha2 rfl q3 q4 ?_)
  have htd : t2.tooManyDummies = false := by
    unfold SetTable.tooManyDummies
    rw [q6, e4, q5, hlen]
    simp only [List.size_toArray, List.length_nil, Nat.zero_add]
    exact decide_eq_false (by omega)
  simp only [htd, Bool.false_eq_true, if_false]
  refine gw_pure' ?_
  refine gw_pure' ?_
  refine gw_more (b' := b + 1) (by omega) (gw_pure' ?_)
  have := h rs es2 ep2 t2 (e1.symm.trans q1) (by rw [q2]; exact hds.map nm) q3 q4
  rw [← put_push (o := frozO es1 ep1 t1)] at this
  exact this
end
end
section
open PySem.Builtin.Frozenset
section
variable {α : Type} {tb : String → Option Builtin} {p : Program} {w : World} {n₀ : Nat} {ann : Option Value} {B : List Frame} {K' : α → Sem Fin} {H' : Value → Sem Fin} {gd : Bool → Bool} {lv : List Value → List Value} {res : α → Flow}
/-- a run of a part, cut off at its end, is a run of the part where it stands -/
theorem seg_sub (hB : splitAtGen B = none) (hl : 2 ≤ B.length) : ∀ (n : Nat) (s : Shared) (t t' : Thread) (f : Flow) (s' : Shared) (c' : Code) (p' : Pos), Rel2 (fun a => .pure (.done (res a))) K' deadEnd H' gd lv B t t' →
    segRun tb p w n₀ ann B.length n s t = some (f, s', c', p') → ∃ a, res a = f ∧ Go tb p w n₀ ann n s t' s' ⟨K' a, c', p', B⟩
  | 0, _, _, _, _, _, _, _, _, h => by simp [segRun] at h
  | n + 1, s, ⟨cur, code, pos, st⟩, ⟨cur', code', pos', st'⟩, f, s', c', p', R, h => by
    obtain ⟨e1, e2, R⟩ := R
    dsimp only at e1 e2 R
    subst e1 e2
    unfold segRun at h
    cases he : endAt B.length ⟨cur, code, pos, st⟩ with
    | some g =>
      rw [he] at h
      obtain ⟨rfl, rfl, rfl, rfl⟩ : g = f ∧ s = s' ∧ code = c' ∧ pos = p' := by simpa using h
      rcases R with ⟨rfl, rfl, x, rfl, rfl⟩ | ⟨rfl, F⟩
      · have hx : ∃ a, x = .pure a ∧ res a = g := by
          unfold endAt at he
          rw [beq_self_eq_true] at he
          cases x with
          | pure a => exact ⟨a, rfl, Option.some.inj he⟩
          | _ => cases he
        obtain ⟨a, rfl, rfl⟩ := hx
        exact ⟨a, rfl, 0, Nat.zero_le _, rfl⟩
      · have l := F.longer.1
        have : ((st.length == B.length) = false) := beq_eq_false_iff_ne.mpr (Nat.ne_of_gt l)
        simp only [endAt, this] at he
        cases he
    | none =>
      rw [he] at h
      cases hk : stepOk n₀ ann ⟨cur, code, pos, st⟩ with
      | false => rw [hk] at h; cases h
      | true =>
        rw [hk] at h
        cases hs : step (denote tb) p w s ⟨cur, code, pos, st⟩ with
        | halt o s₂ => rw [hs] at h; cases h
        | go s₂ t₂ =>
          rw [hs] at h
          have key : 2 ≤ st'.length ∧ stepOk n₀ ann ⟨cur', code, pos, st'⟩ = true ∧ ∃ t₂', step (denote tb) p w s ⟨cur', code, pos, st'⟩ = .go s₂ t₂' ∧ Rel2 (fun a => .pure (.done (res a))) K' deadEnd H' gd lv B t₂ t₂' := by
            rcases R with ⟨rfl, rfl, x, rfl, rfl⟩ | ⟨rfl, F⟩
            · have hp : ∀ a, x ≠ .pure a := by
                rintro a rfl
                unfold endAt at he
                rw [beq_self_eq_true] at he
                cases he
              have hr : ∀ e, x ≠ .raise e := by
                rintro e rfl
                obtain ⟨heap, gens, drawn, toks, os⟩ := s
                simp only [Sem.wrap, step] at hs
                cases hs
              obtain ⟨k1, k2⟩ := okOuter (K' := K') (H' := H') hp hr hk
              exact ⟨hl, k1, step_outer hB hp hs⟩
            · obtain ⟨k1, k2⟩ := okInner hB F hk
              have l := F.longer.2
              exact ⟨by omega, k1, step_inner hB F hs⟩
          obtain ⟨kl, k1, t₂', k3, R'⟩ := key
          obtain ⟨a, ha, hN⟩ := seg_sub hB hl n s₂ t₂ t₂' f s' c' p' R' h
          refine ⟨a, ha, ?_⟩
          have := (Go.one kl k1 k3).trans hN
          exact this.more (by omega)
end
/-- what a set's object bears -/
structure SD where
  es : Array (Int × Value)
  ep : Nat
  t : SetTable
noncomputable def SD.dt (d : SD) : Data := .set d.es d.ep d.t
noncomputable def SD.no : SD := ⟨#[], 0, .fresh 0 0 false⟩
noncomputable def enc : Option Value → Flow
  | some v => .ret v
  | none => .next
section
variable (tb : String → Option Builtin) (p : Program) (w : World) (n₀ : Nat) (ann : Option Value)
/-- one turn of an iterator, by itself -/
noncomputable def nextRun (n : Nat) (it : Value) (c : Code) (B : List Frame) (pos : Pos) (S : SharedT) : Option (Flow × SharedT × Code) :=
  match segRunT tb p w n₀ ann B.length n S ⟨(pyNext it).wrap (fun r => .pure (.done (enc r))) deadEnd id id, c, pos, B⟩ with
  | some (f, S', c', _) => some (f, S', c')
  | none => none
noncomputable def addD (a : Nat) (d : SD) (S : SharedT) : SharedT := { S with tree := S.tree.set a (fun o => { o with data := d.dt }), toks := S.toks + 1 }
end
/-- the loop that fills a set, its additions given -/
noncomputable def loopRun (nx : Pos → SharedT → Option (Flow × SharedT × Code)) (a : Nat) : List (SD × Pos) → Pos → SharedT → Option (SharedT × List (Str × Tok × Option Obj × Code))
  | [], pos, S => match nx pos S with
    | some (.next, S', _) => some (S', [])
    | _ => none
  | (d, q) :: ds, pos, S => match nx pos S with
    | some (.ret (.str x tk), S', c') => match Nat.blt a S'.n with
      | true => match loopRun nx a ds q (addD a d S') with
        | some (E, l) => some (E, (x, tk, S'.tree.get a, c') :: l)
        | none => none
      | false => none
    | _ => none
end
section
open PySem.Builtin.Frozenset
noncomputable abbrev lpC (a : Addr) (it : Value) : Code := .builtin "set.update.loop" ⟨[.ref a, it], []⟩
noncomputable def loopF (a : Addr) (it : Value) : Option Value → Sem Fin
  | some x => do
    let _ ← holding [x] (setAdd a x)
    again (lpC a it)
  | none => ret .none
theorem loop_is (a : Addr) (it : Value) : denote treeTable (lpC a it) = pyNext it >>= loopF a it := by
  have : denote treeTable (lpC a it) = (do
    let some x ← pyNext it | ret .none
    let _ ← holding [x] (setAdd a x)
    again (lpC a it)) := by kernel_rfl
  rw [this]
  congr 1
  funext r
  cases r <;> rfl
/-- every element a str under its hash -/
noncomputable def Hsh (w : World) (es : Array (Int × Value)) : Prop := ∀ e ∈ es.toList, ∃ y u, e = (hashStr w y, .str y u)
theorem Hsh.strs {w : World} {es : Array (Int × Value)} (h : Hsh w es) : Strs es := fun e he => by
  obtain ⟨y, u, e2⟩ := h e he
  exact ⟨y, u, by rw [e2]⟩
theorem others_of {w : World} {es : Array (Int × Value)} {x : Str} (h : Hsh w es) (hx : x ∉ es.toList.map nm) : Others es x := fun e he => by
  obtain ⟨y, u, e2⟩ := h e he
  refine ⟨y, u, by rw [e2], fun q => hx ?_⟩
  have := List.mem_map_of_mem (f := nm) he
  rw [e2] at this
  rw [← q]
  exact this
/-- the object of a set of just these strs -/
noncomputable def SetD (w : World) (d : SD) (xs : List Str) : Prop := ∃ es ep t, d = ⟨es, ep, t⟩ ∧ Hsh w es ∧ (es.toList.map nm).Perm xs ∧ t.place.size = es.size ∧ t.fill ≤ t.mask
noncomputable def lastD : SD → List (SD × Pos) → SD
  | d, [] => d
  | _, (d, _) :: ds => lastD d ds
noncomputable def trace (c : Code) : Obj → List (SD × Pos) → List (Str × Tok) → List (Str × Tok × Option Obj × Code)
  | o, (d, _) :: ds, (x, tk) :: xs => (x, tk, some o, c) :: trace c { o with data := d.dt } ds xs
  | _, _, _ => []
section
variable {p : Program} {w : World} {n₀ : Nat} {ann : Option Value} {it : Value} {a : Addr}
theorem addD_abs {S : SharedT} {o : Obj} {d : SD} (ha : a < S.n) (hg : S.tree.get a = some o) (hal : alive o = some o) : (addD a d S).abs = { S.abs with heap := put S.abs.heap a { o with data := d.dt }, toks := S.abs.toks + 1 } := by
  obtain ⟨T, n, life, gens, drawn, toks, os⟩ := S
  have e1 : absHeap (T.set a (fun o => { o with data := d.dt })) n life = put (absHeap T n life) a { o with data := d.dt } := by
    rw [absHeap_set hg, upd_put (show (absHeap T n life).get? a = some o from (abs_get ha hg).trans hal)]
  show Shared.mk (absHeap (T.set a _) n life) _ _ _ _ = _
  rw [e1]
  rfl
theorem gw_loopF {x : Str} {tk : Tok} {s : Shared} {b : Nat} {es : Array (Int × Value)} {ep : Nat} {t : SetTable} (hn : n₀ ≤ a) (ho : s.heap.get? a = some (frozO es ep t)) (hp : t.place.size = es.size) (hf : t.fill ≤ t.mask) (hz : es.size < 4000) (hall : Others es x) :
    gw treeTable p w n₀ ann (loopF a it (some (.str x tk))) (fun fin s' _ => fin = .again (lpC a it) ∧ ∃ es' ep' t', es'.toList.Perm ((hashStr w x, .str x tk) :: es.toList) ∧ t'.place.size = es'.size ∧ t'.fill ≤ t'.mask ∧ s' = { s with heap := put s.heap a (frozO es' ep' t'), toks := s.toks + 1 }) s (b + 17) := by
  unfold loopF
  refine gw_bind (gw_holding (gw_setAdd hn ho rfl hp hf hz hall fun es' ep' t' e1 e2 e3 => ?_))
  exact gw_pure' ⟨rfl, es', ep', t', e1, e2, e3, rfl⟩
theorem loop_sound {fuel : Nat} {k : Result → Sem Fin} {h : Option Value} {g : Bool} {l : List Value} {cd : Code} {p₀ : Pos} {kept : List Value} {rest : List Frame} (hn : n₀ ≤ a) (hr : 1 ≤ rest.length) (hB : splitAtGen (.ret k h g l cd p₀ kept :: rest) = none) :
    ∀ (xs : List (Str × Tok)) (pos : Pos) (S : SharedT) (es : Array (Int × Value)) (ep : Nat) (t : SetTable),
      (∀ ds, ds.length = xs.length → ∃ E, loopRun (nextRun treeTable p w n₀ ann fuel it (lpC a it) (.ret k h g l cd p₀ kept :: rest)) a ds pos S = some (E, trace (lpC a it) (frozO es ep t) ds xs)) →
      t.place.size = es.size → t.fill ≤ t.mask → Hsh w es → (es.toList.map nm ++ xs.map (·.1)).Nodup → es.size + xs.length < 4000 →
      ∃ ds E, ds.length = xs.length ∧ loopRun (nextRun treeTable p w n₀ ann fuel it (lpC a it) (.ret k h g l cd p₀ kept :: rest)) a ds pos S = some (E, trace (lpC a it) (frozO es ep t) ds xs) ∧
        Go treeTable p w n₀ ann ((fuel + 18) * (xs.length + 1)) S.abs ⟨denote treeTable (lpC a it), lpC a it, pos, .ret k h g l cd p₀ kept :: rest⟩ E.abs ⟨k (.ok (.ret .none)), cd, p₀, rest⟩ ∧
        SetD w (lastD ⟨es, ep, t⟩ ds) (es.toList.map nm ++ xs.map (·.1))
  | [], pos, S, es, ep, t, H, hp, hf, hh, hnd, hz => by
    obtain ⟨E, hE⟩ := H [] rfl
    refine ⟨[], E, rfl, hE, ?_, es, ep, t, rfl, hh, by simp, hp, hf⟩
    unfold loopRun nextRun at hE
    cases e : segRunT treeTable p w n₀ ann (Frame.ret k h g l cd p₀ kept :: rest).length fuel S ⟨(pyNext it).wrap (fun r => .pure (.done (enc r))) deadEnd id id, lpC a it, pos, .ret k h g l cd p₀ kept :: rest⟩ with
    | none => rw [e] at hE; cases hE
    | some r =>
      obtain ⟨f, S', c', p'⟩ := r
      rw [e] at hE
      cases f with
      | next =>
        simp only [Option.some.injEq, Prod.mk.injEq] at hE
        obtain ⟨rfl, _⟩ := hE
        obtain ⟨r, hr1, G⟩ := seg_sub (K' := loopF a it) (H' := Sem.raise) (gd := id) (lv := id) (res := enc) hB (by simp only [List.length_cons]; omega) fuel S.abs ⟨(pyNext it).wrap (fun r => .pure (.done (enc r))) deadEnd id id, lpC a it, pos, .ret k h g l cd p₀ kept :: rest⟩ ⟨(pyNext it).wrap (loopF a it) .raise id id, lpC a it, pos, .ret k h g l cd p₀ kept :: rest⟩ _ _ _ _ ⟨rfl, rfl, .inl ⟨rfl, rfl, _, rfl, rfl⟩⟩ (segRun_of e)
        cases r with
        | some v => cases hr1
        | none =>
          rw [loop_is, Sem.bind_eq_wrap']
          refine (G.trans (Go.one (by simp only [List.length_cons]; omega) rfl rfl)).more ?_
          simp only [List.length_nil]
          omega
      | _ => cases hE
  | (x, tk) :: xs, pos, S, es, ep, t, H, hp, hf, hh, hnd, hz => by
    have H1 : ∃ S', nextRun treeTable p w n₀ ann fuel it (lpC a it) (.ret k h g l cd p₀ kept :: rest) pos S = some (.ret (.str x tk), S', lpC a it) ∧ a < S'.n ∧ S'.tree.get a = some (frozO es ep t) := by
      obtain ⟨E, hE⟩ := H ((SD.no, default) :: List.replicate xs.length (SD.no, default)) (by simp)
      unfold loopRun at hE
      cases e : nextRun treeTable p w n₀ ann fuel it (lpC a it) (.ret k h g l cd p₀ kept :: rest) pos S with
      | none => rw [e] at hE; cases hE
      | some r =>
        obtain ⟨f, S', c'⟩ := r
        rw [e] at hE
        cases f with
        | ret v =>
          cases v with
          | str y u =>
            dsimp only at hE
            cases e2 : Nat.blt a S'.n with
            | false => rw [e2] at hE; cases hE
            | true =>
              rw [e2] at hE
              dsimp only at hE
              cases e3 : loopRun (nextRun treeTable p w n₀ ann fuel it (lpC a it) (.ret k h g l cd p₀ kept :: rest)) a (List.replicate xs.length (SD.no, default)) default (addD a SD.no S') with
              | none => rw [e3] at hE; cases hE
              | some r =>
                rw [e3] at hE
                obtain ⟨E', l'⟩ := r
                simp only [trace, Option.some.injEq, Prod.mk.injEq, List.cons.injEq] at hE
                obtain ⟨_, ⟨rfl, rfl, e4, rfl⟩, _⟩ := hE
                exact ⟨S', rfl, Nat.le_of_ble_eq_true e2, e4⟩
          | _ => cases hE
        | _ => cases hE
    obtain ⟨S', hS, ha, hg⟩ := H1
    have hnd2 := List.nodup_append.mp hnd
    have hx : x ∉ es.toList.map nm := fun q => hnd2.2.2 x q x (by simp) rfl
    have hga : S'.abs.heap.get? a = some (frozO es ep t) := abs_get ha hg
    have hstep := gw_loopF (p := p) (w := w) (ann := ann) (it := it) (b := 0) (tk := tk) (s := S'.abs) hn hga hp hf (by simp only [List.length_cons] at hz; omega) (others_of hh hx)
    have hS2 := hS
    unfold nextRun at hS2
    cases e : segRunT treeTable p w n₀ ann (Frame.ret k h g l cd p₀ kept :: rest).length fuel S ⟨(pyNext it).wrap (fun r => .pure (.done (enc r))) deadEnd id id, lpC a it, pos, .ret k h g l cd p₀ kept :: rest⟩ with
    | none => rw [e] at hS2; cases hS2
    | some r =>
      obtain ⟨f, S'', c', p'⟩ := r
      rw [e] at hS2
      simp only [Option.some.injEq, Prod.mk.injEq] at hS2
      obtain ⟨rfl, rfl, rfl⟩ := hS2
      obtain ⟨r, hr1, G⟩ := seg_sub (K' := loopF a it) (H' := Sem.raise) (gd := id) (lv := id) (res := enc) hB (by simp only [List.length_cons]; omega) fuel S.abs ⟨(pyNext it).wrap (fun r => .pure (.done (enc r))) deadEnd id id, lpC a it, pos, .ret k h g l cd p₀ kept :: rest⟩ ⟨(pyNext it).wrap (loopF a it) .raise id id, lpC a it, pos, .ret k h g l cd p₀ kept :: rest⟩ _ _ _ _ ⟨rfl, rfl, .inl ⟨rfl, rfl, _, rfl, rfl⟩⟩ (segRun_of e)
      cases r with
      | none => cases hr1
      | some v =>
        obtain rfl : v = .str x tk := Flow.ret.inj hr1
        obtain ⟨fin, s', pos', b', m, ⟨rfl, es', ep', t', q1, q2, q3, rfl⟩, hm, G2⟩ := hstep .pure .raise id id (lpC a it) p' (.ret k h g l cd p₀ kept :: rest) (by simp only [List.length_cons]; omega)
        rw [wrap_self] at G2
        have hh' : Hsh w es' := fun e he => by
          rcases List.mem_cons.mp (q1.mem_iff.mp he) with r | r
          · exact ⟨x, tk, r⟩
          · exact hh e r
        have hnm : (es'.toList.map nm).Perm (x :: es.toList.map nm) := q1.map nm
        have hlen : es'.size = es.size + 1 := by
          have := q1.length_eq
          rw [List.length_cons, Array.length_toList, Array.length_toList] at this
          exact this
        have hpm : (es'.toList.map nm ++ xs.map (·.1)).Perm (es.toList.map nm ++ ((x, tk) :: xs).map (·.1)) := by
          refine (hnm.append_right _).trans ?_
          rw [List.map_cons]
          exact List.perm_middle.symm
        have ab := addD_abs (d := ⟨es', ep', t'⟩) ha hg rfl
        obtain ⟨ds, E, d1, d2, d3, d4⟩ := loop_sound hn hr hB xs pos' (addD a ⟨es', ep', t'⟩ S'') es' ep' t' (fun ds hds => by
          obtain ⟨E, hE⟩ := H ((⟨es', ep', t'⟩, pos') :: ds) (by simp [hds])
          unfold loopRun at hE
          rw [hS] at hE
          dsimp only at hE
          rw [show Nat.blt a S''.n = true from Nat.ble_eq_true_of_le ha] at hE
          dsimp only at hE
          cases e3 : loopRun (nextRun treeTable p w n₀ ann fuel it (lpC a it) (.ret k h g l cd p₀ kept :: rest)) a ds pos' (addD a ⟨es', ep', t'⟩ S'') with
          | none => rw [e3] at hE; cases hE
          | some r =>
            rw [e3] at hE
            obtain ⟨E', l'⟩ := r
            simp only [trace, Option.some.injEq, Prod.mk.injEq, List.cons.injEq] at hE
            obtain ⟨_, _, e5⟩ := hE
            exact ⟨E', by rw [e5]; rfl⟩) q2 q3 hh' (hpm.nodup_iff.mpr hnd) (by simp only [List.length_cons] at hz; omega)
        refine ⟨(⟨es', ep', t'⟩, pos') :: ds, E, by simp [d1], ?_, ?_, ?_⟩
        · unfold loopRun
          rw [hS]
          dsimp only
          rw [show Nat.blt a S''.n = true from Nat.ble_eq_true_of_le ha]
          dsimp only
          rw [d2]
          simp only [trace, hg]
          rfl
        · rw [loop_is, Sem.bind_eq_wrap']
          rw [ab] at d3
          have one : Go treeTable p w n₀ ann 1 { S''.abs with heap := put S''.abs.heap a (frozO es' ep' t'), toks := S''.abs.toks + 1 } ⟨.pure (.again (lpC a it)), lpC a it, pos', .ret k h g l cd p₀ kept :: rest⟩ { S''.abs with heap := put S''.abs.heap a (frozO es' ep' t'), toks := S''.abs.toks + 1 } ⟨denote treeTable (lpC a it), lpC a it, pos', .ret k h g l cd p₀ kept :: rest⟩ :=
            Go.one (by simp only [List.length_cons]; omega) (again_ok (by show (!("set.update.loop".startsWith "lifetime.")) = true; decide +kernel)) step_again
          refine (((G.trans G2).trans one).trans d3).more ?_
          rw [List.length_cons, show (fuel + 18) * (xs.length + 1 + 1) = (fuel + 18) * (xs.length + 1) + (fuel + 18) by rw [Nat.mul_succ]]
          omega
        · obtain ⟨es3, ep3, t3, r1, r2, r3, r4⟩ := d4
          exact ⟨es3, ep3, t3, r1, r2, r3.trans hpm, r4⟩
end
end
section
open PySem.Builtin.Frozenset
/-- the codes that are answered from outside -/
noncomputable def isOr : Code → Bool
  | .builtin id _ => id == "set.update.loop" || id == "frozenset.__or__" || id == "frozenset.__sub__"
  | _ => false
noncomputable def atOr (t : Thread) : Bool := match t.cur with
  | .call c .. => isOr c
  | .pure (.again c) => isOr c
  | _ => false
/-- what may be seen of a frame -/
noncomputable def seeF : Frame → Code × Pos × Option Value
  | .ret _ h _ _ c p _ => (c, p, h)
  | .gen _ _ _ c p => (c, p, none)
noncomputable abbrev Sees := List (Code × Pos × Option Value)
inductive Out where
  | asks (S : SharedT) (c : Code) (W : Sees)
  | ends (f : Flow) (S : SharedT) (c : Code) (q : Pos)
section
variable (tb : String → Option Builtin) (p : Program) (w : World) (n₀ : Nat) (ann : Option Value)
noncomputable def segOG (stp : SharedT → Thread → Option (SharedT × Thread)) (ok : Thread → Bool) : Nat → List (SharedT × Value) → SharedT → Thread → Option Out
  | 0, _, _, _ => none
  | n + 1, as, s, t => match endAt 1 t with
    | some f => some (.ends f s t.code t.pos)
    | none => match ok t with
      | false => none
      | true => match stp s t with
        | none => none
        | some (s', t') => match atOr t with
          | false => segOG stp ok n as s' t'
          | true => match splitAtGen t'.stack with
            | some _ => none
            | none => match as with
              | [] => some (.asks s' t'.code (t'.stack.map seeF))
              | (S2, v) :: as => match t'.stack with
                | .ret k _ _ _ cd p₀ _ :: rest => segOG stp ok n as S2 ⟨k (.ok (.ret v)), cd, p₀, rest⟩
                | _ => none
noncomputable def segO (n : Nat) (as : List (SharedT × Value)) (s : SharedT) (t : Thread) : Option Out := segOG (stepT (denote tb) p w) (stepOk n₀ ann) n as s t
/-- what is wanted of the answers: one of them is true -/
noncomputable def Ob (m : Nat) (S : SharedT) (c : Code) (W : Sees) (S' : SD → SharedT) (v : Value) (Good : SD → Prop) : Prop :=
  ∀ (pos : Pos) (k : Result → Sem Fin) (h : Option Value) (g : Bool) (l : List Value) (cd : Code) (p₀ : Pos) (kept : List Value) (rest : List Frame),
    splitAtGen (.ret k h g l cd p₀ kept :: rest) = none → (cd, p₀, h) :: rest.map seeF = W →
    ∃ d, Good d ∧ Go tb p w n₀ ann m S.abs ⟨denote tb c, c, pos, .ret k h g l cd p₀ kept :: rest⟩ (S' d).abs ⟨k (.ok (.ret v)), cd, p₀, rest⟩
/-- the answers are true -/
noncomputable def Real (m : Nat) : Nat → List (SharedT × Value) → SharedT → Thread → Prop
  | 0, _, _, _ => True
  | n + 1, as, s, t => match endAt 1 t with
    | some _ => True
    | none => match stepT (denote tb) p w s t with
      | none => True
      | some (s', t') => match atOr t with
        | false => Real m n as s' t'
        | true => match as with
          | [] => True
          | (S2, v) :: as => match t'.stack with
            | .ret k _ _ _ cd p₀ _ :: rest => Go tb p w n₀ ann m s'.abs t' S2.abs ⟨k (.ok (.ret v)), cd, p₀, rest⟩ ∧ Real m n as S2 ⟨k (.ok (.ret v)), cd, p₀, rest⟩
            | _ => True
end
section
variable {tb : String → Option Builtin} {p : Program} {w : World} {n₀ : Nat} {ann : Option Value} {m : Nat}
theorem real_nil : ∀ (n : Nat) (s : SharedT) (t : Thread), Real tb p w n₀ ann m n [] s t
  | 0, _, _ => trivial
  | n + 1, s, t => by
    unfold Real
    cases endAt 1 t with
    | some f => trivial
    | none =>
      cases stepT (denote tb) p w s t with
      | none => trivial
      | some r =>
        obtain ⟨s', t'⟩ := r
        cases atOr t with
        | false => exact real_nil n s' t'
        | true => trivial
theorem cur_of {s s' : Shared} {t t' : Thread} (st : step (denote tb) p w s t = .go s' t') (e : atOr t = true) : t'.cur = denote tb t'.code := by
  obtain ⟨cur, code, pos, stack⟩ := t
  unfold atOr at e
  cases cur with
  | pure x =>
    cases x with
    | again c =>
      have h : ∃ q st', step (denote tb) p w s ⟨.pure (.again c), code, pos, stack⟩ = .go s ⟨denote tb c, c, q, st'⟩ := ⟨_, _, rfl⟩
      obtain ⟨q, st', h⟩ := h
      rw [h] at st
      injection st with _ st
      rw [← st]
    | done f => cases e
  | call c h g l k =>
    obtain ⟨kept, h⟩ := call_step (tb := tb) (p := p) (w := w) (s := s) (c := c) (hd := h) (g := g) (l := l) (k := k) (c₀ := code) (pos := pos) (st := stack)
    rw [h] at st
    injection st with _ st
    rw [← st]
  | _ => cases e
theorem real_snoc {S : SharedT} {S2 : SD → SharedT} {Good : SD → Prop} {c : Code} {W : Sees} {v : Value} (o : Ob tb p w n₀ ann m S c W S2 v Good) (x : ∃ d, Good d) : ∀ (n : Nat) (as : List (SharedT × Value)) (s : SharedT) (t : Thread), Real tb p w n₀ ann m n as s t → segO tb p w n₀ ann n as s t = some (.asks S c W) → ∃ d, Good d ∧ Real tb p w n₀ ann m n (as ++ [(S2 d, v)]) s t
  | 0, _, _, _, _, h => by cases h
  | n + 1, as, s, t, R, h => by
    unfold Real at R
    unfold Real
    unfold segO segOG at h
    cases e1 : endAt 1 t with
    | some f =>
      obtain ⟨d, hd⟩ := x
      exact ⟨d, hd, trivial⟩
    | none =>
      rw [e1] at h R
      dsimp only at h R ⊢
      cases e2 : stepOk n₀ ann t with
      | false => rw [e2] at h; cases h
      | true =>
        rw [e2] at h
        dsimp only at h
        cases e3 : stepT (denote tb) p w s t with
        | none => rw [e3] at h; cases h
        | some r =>
          obtain ⟨s', t'⟩ := r
          rw [e3] at h R
          dsimp only at h R ⊢
          cases e4 : atOr t with
          | false =>
            rw [e4] at h R
            exact real_snoc o x n as s' t' R h
          | true =>
            rw [e4] at h R
            dsimp only at h R ⊢
            cases e5 : splitAtGen t'.stack with
            | some _ => rw [e5] at h; cases h
            | none =>
              rw [e5] at h
              dsimp only at h
              have hcur := cur_of (stepT_spec e3) e4
              obtain ⟨cur', code', pos', stack'⟩ := t'
              dsimp only at h R e5 hcur ⊢
              subst hcur
              cases as with
              | nil =>
                simp only [Option.some.injEq, Out.asks.injEq] at h
                obtain ⟨rfl, rfl, rfl⟩ := h
                cases stack' with
                | nil =>
                  obtain ⟨d, hd⟩ := x
                  exact ⟨d, hd, trivial⟩
                | cons f rest => cases f with
                  | ret k hd g l cd p₀ kept =>
                    obtain ⟨d, h1, h2⟩ := o pos' k hd g l cd p₀ kept rest e5 rfl
                    exact ⟨d, h1, h2, real_nil _ _ _⟩
                  | gen =>
                    obtain ⟨d, hd⟩ := x
                    exact ⟨d, hd, trivial⟩
              | cons a as =>
                obtain ⟨S3, v3⟩ := a
                dsimp only [List.cons_append] at h R ⊢
                cases stack' with
                | nil => cases h
                | cons f rest => cases f with
                  | ret =>
                    obtain ⟨d, h1, h2⟩ := real_snoc o x n as _ _ R.2 h
                    exact ⟨d, h1, R.1, h2⟩
                  | gen => cases h
theorem segRun_go {b : Nat} {n N : Nat} {s s' : Shared} {t t' : Thread} {r : Flow × Shared × Code × Pos} (h : segGo tb p w n₀ ann b n s t = some (s', t')) (k : segRun tb p w n₀ ann b N s' t' = some r) : segRun tb p w n₀ ann b (n + N) s t = some r := seg_go h k
theorem real_run {f : Flow} {S' : SharedT} {c' : Code} {q' : Pos} : ∀ (n : Nat) (as : List (SharedT × Value)) (s : SharedT) (t : Thread), Real tb p w n₀ ann m n as s t → segO tb p w n₀ ann n as s t = some (.ends f S' c' q') → ∃ N, N ≤ n + m * as.length ∧ segRun tb p w n₀ ann 1 N s.abs t = some (f, S'.abs, c', q')
  | 0, _, _, _, _, h => by cases h
  | n + 1, as, s, t, R, h => by
    unfold Real at R
    unfold segO segOG at h
    cases e1 : endAt 1 t with
    | some g =>
      rw [e1] at h
      simp only [Option.some.injEq, Out.ends.injEq] at h
      obtain ⟨rfl, rfl, rfl, rfl⟩ := h
      refine ⟨1, by omega, ?_⟩
      unfold segRun
      rw [e1]
    | none =>
      rw [e1] at h R
      dsimp only at h R
      cases e2 : stepOk n₀ ann t with
      | false => rw [e2] at h; cases h
      | true =>
        rw [e2] at h
        dsimp only at h
        cases e3 : stepT (denote tb) p w s t with
        | none => rw [e3] at h; cases h
        | some r =>
          obtain ⟨s', t'⟩ := r
          rw [e3] at h R
          dsimp only at h R
          have st := stepT_spec e3
          have one : segGo tb p w n₀ ann 1 1 s.abs t = some (s'.abs, t') := by
            unfold segGo
            rw [e1, e2, st]
            rfl
          cases e4 : atOr t with
          | false =>
            rw [e4] at h R
            obtain ⟨N, h1, h2⟩ := real_run n as s' t' R h
            exact ⟨1 + N, by omega, segRun_go one h2⟩
          | true =>
            rw [e4] at h R
            dsimp only at h R
            cases e5 : splitAtGen t'.stack with
            | some _ => rw [e5] at h; cases h
            | none =>
              rw [e5] at h
              dsimp only at h
              cases as with
              | nil => cases h
              | cons a as =>
                obtain ⟨S3, v3⟩ := a
                dsimp only at h R
                obtain ⟨cur', code', pos', stack'⟩ := t'
                cases stack' with
                | nil => cases h
                | cons f rest => cases f with
                  | gen => cases h
                  | ret k hd g l cd p₀ kept =>
                    dsimp only at h R e5
                    obtain ⟨N, h1, h2⟩ := real_run n as _ _ R.2 h
                    obtain ⟨j, hj, G⟩ := R.1
                    refine ⟨1 + (j + N), ?_, segRun_go one (segRun_go G h2)⟩
                    rw [List.length_cons, Nat.mul_succ]
                    omega
end
end
section
open PySem.Builtin.Frozenset
noncomputable abbrev fz (d : SD) : Obj := ⟨.type "frozenset", none, .set d.es d.ep d.t, #[]⟩
noncomputable def mkL (D : Nat → SD) (P : Nat → Pos) : Nat → Nat → List (SD × Pos)
  | 0, _ => []
  | n + 1, i => (D i, P i) :: mkL D P n (i + 1)
theorem mkL_of (l : List (SD × Pos)) : ∀ (r : List (SD × Pos)) (i : Nat), (∀ j, j < r.length → l[i + j]? = r[j]?) → r = mkL (fun i => (l.getD i (SD.no, default)).1) (fun i => (l.getD i (SD.no, default)).2) r.length i
  | [], _, _ => rfl
  | x :: r, i, h => by
    have h0 := h 0 (by simp)
    simp only [Nat.add_zero, List.getElem?_cons_zero] at h0
    have ih := mkL_of l r (i + 1) fun j hj => by
      have := h (j + 1) (by simpa using hj)
      rw [List.getElem?_cons_succ] at this
      rw [← this, show i + 1 + j = i + (j + 1) by omega]
    have e : l.getD i (SD.no, default) = x := by
      rw [List.getD_eq_getElem?_getD, h0]
      rfl
    show x :: r = ((l.getD i (SD.no, default)).1, (l.getD i (SD.no, default)).2) :: mkL _ _ r.length (i + 1)
    rw [e, ← ih]
theorem lastD_mk (D : Nat → SD) (P : Nat → Pos) : ∀ (n i : Nat) (d : SD), lastD d (mkL D P (n + 1) i) = D (i + n)
  | 0, i, d => rfl
  | n + 1, i, d => by
    show lastD (D i) (mkL D P (n + 1) (i + 1)) = _
    rw [lastD_mk D P n (i + 1) (D i), show i + 1 + n = i + (n + 1) by omega]
theorem frame_of {f : Frame} {rest : List Frame} {c : Code} {q : Pos} {h : Option Value} (hs : splitAtGen (f :: rest) = none) (hw : seeF f = (c, q, h)) : (∃ k g l kept, f = .ret k h g l c q kept) ∧ splitAtGen rest = none := by
  cases f with
  | gen => cases hs
  | ret k h' g l c' q' kept =>
    cases hw
    refine ⟨⟨k, g, l, kept, rfl⟩, ?_⟩
    unfold splitAtGen at hs
    cases e : splitAtGen rest with
    | none => rfl
    | some x => rw [e] at hs; cases hs
theorem three_of {α : Type} : ∀ {l : List α}, l.length = 3 → ∃ a b c, l = [a, b, c]
  | [a, b, c], _ => ⟨a, b, c, rfl⟩
  | [], h => by simp at h
  | [_], h => by simp at h
  | [_, _], h => by simp at h
  | _ :: _ :: _ :: _ :: _, h => by simp at h
theorem setD_some (w : World) (xs : List Str) : ∃ d, SetD w d xs := by
  refine ⟨⟨(xs.map fun x => (hashStr w x, Value.str x 0)).toArray, 0, (SetTable.fresh 0 0 false).standIn xs.length⟩, _, _, _, rfl, ?_, ?_, ?_, ?_⟩
  · intro e he
    obtain ⟨x, _, rfl⟩ := List.mem_map.mp he
    exact ⟨x, 0, rfl⟩
  · rw [List.map_map]
    have : (nm ∘ fun x => (hashStr w x, Value.str x 0)) = id := rfl
    rw [this, List.map_id]
  · have := (stand_fits (SetTable.fresh 0 0 false) xs.length).1
    simpa using this
  · exact (stand_fits _ _).2.1
section
variable {p : Program} {w : World} {n₀ : Nat} {ann : Option Value}
theorem ob_loop {fuel : Nat} {a : Addr} {it : Value} {S : SharedT} {S2 : SD → SharedT} {xs : List (Str × Tok)} {n : Nat} {c1 c2 c3 c4 : Code} {q1 q2 q3 q4 : Pos} {h1 h2 h3 h4 : Option Value} (hn : n₀ ≤ a) (hx : xs.length = n + 1)
    (K : ∀ (k1 k2 k3 k4 : Result → Sem Fin) (g1 g2 g3 g4 : Bool) (l1 l2 l3 l4 kp1 kp2 kp3 kp4 : List Value) (D : Nat → SD) (P : Nat → Pos) (pos : Pos),
      loopRun (nextRun treeTable p w n₀ ann fuel it (lpC a it) [.ret k1 h1 g1 l1 c1 q1 kp1, .ret k2 h2 g2 l2 c2 q2 kp2, .ret k3 h3 g3 l3 c3 q3 kp3, .ret k4 h4 g4 l4 c4 q4 kp4]) a (mkL D P (n + 1) 0) pos S = some (S2 (D n), trace (lpC a it) (frozO #[] 0 (freshT w)) (mkL D P (n + 1) 0) xs))
    (hnd : (xs.map (·.1)).Nodup) (hz : xs.length < 4000) : Ob treeTable p w n₀ ann ((fuel + 18) * (n + 2)) S (lpC a it) [(c1, q1, h1), (c2, q2, h2), (c3, q3, h3), (c4, q4, h4)] S2 .none (fun d => SetD w d (xs.map (·.1))) := by
  intro pos k h g l cd p₀ kept rest hB hW
  obtain ⟨e1, e2⟩ := List.cons.inj hW
  cases e1
  obtain ⟨_, hr⟩ := frame_of hB rfl
  have hl3 : rest.length = 3 := by
    have := congrArg List.length e2
    simpa using this
  obtain ⟨f2, f3, f4, rfl⟩ := three_of hl3
  · simp only [List.map_cons, List.map_nil, List.cons.injEq, and_true] at e2
    obtain ⟨w2, w3, w4⟩ := e2
    obtain ⟨⟨k2, g2, l2, kp2, rfl⟩, hr2⟩ := frame_of hr w2
    obtain ⟨⟨k3, g3, l3, kp3, rfl⟩, hr3⟩ := frame_of hr2 w3
    obtain ⟨⟨k4, g4, l4, kp4, rfl⟩, hr4⟩ := frame_of hr3 w4
    obtain ⟨ds, E, d1, d2, d3, d4⟩ := loop_sound (p := p) (w := w) (ann := ann) (fuel := fuel) (it := it) (k := k) (h := h1) (g := g) (l := l) (kept := kept) hn (by simp) hB xs pos S #[] 0 (freshT w) (fun ds hds => by
        have e := mkL_of ds ds 0 (fun j _ => by rw [Nat.zero_add])
        rw [hds, hx] at e
        rw [e]
        exact ⟨_, K k k2 k3 k4 g g2 g3 g4 l l2 l3 l4 kept kp2 kp3 kp4 _ _ pos⟩) rfl (Nat.zero_le _) (fun e he => nomatch he) (by simpa using hnd) (by simpa using hz)
    have e := mkL_of ds ds 0 (fun j _ => by rw [Nat.zero_add])
    rw [d1, hx] at e
    rw [e] at d2 d4
    rw [K k k2 k3 k4 g g2 g3 g4 l l2 l3 l4 kept kp2 kp3 kp4 _ _ pos] at d2
    simp only [Option.some.injEq, Prod.mk.injEq] at d2
    obtain ⟨rfl, _⟩ := d2
    rw [lastD_mk, Nat.zero_add] at d4
    refine ⟨_, by simpa using d4, ?_⟩
    rw [hx] at d3
    exact d3
noncomputable def insD (d : SD) (S : SharedT) : SharedT := { S with tree := S.tree.ins S.n (fz d), n := S.n + 1 }
theorem insD_abs {S : SharedT} {d : SD} (g : ((S.tree.ins S.n (fz d)).get S.n).isSome = true) : (insD d S).abs = { S.abs with heap := S.abs.heap.push (fz d) } := by
  obtain ⟨T, n, life, gens, drawn, toks, os⟩ := S
  show Shared.mk (absHeap (T.ins n (fz d)) (n + 1) life) _ _ _ _ = _
  rw [absHeap_ins g]
  rfl
theorem fz_get {S : SharedT} {a : Nat} {d : SD} {xs : List Str} (h : a < S.n) (g : S.tree.get a = some (fz d)) (hd : SetD w d xs) : S.abs.heap.get? a = some (fz d) := by
  have := abs_get (life := S.life) h g
  refine this.trans ?_
  obtain ⟨es, ep, t, rfl, _⟩ := hd
  rfl
theorem abs_size (S : SharedT) : S.abs.heap.objs.size = S.n := absHeap_size _ _ _
theorem rest_len {k : Result → Sem Fin} {h : Option Value} {g : Bool} {l : List Value} {cd : Code} {p₀ : Pos} {kept : List Value} {rest : List Frame} {W : Sees} (hW : (cd, p₀, h) :: rest.map seeF = W) (h2 : 2 ≤ W.length) : 1 ≤ rest.length := by
  subst hW
  simpa using h2
theorem ob_or {S : SharedT} {N : Nat} {S2 : SD → SharedT} {l c : Nat} {dl dc : SD} {xs : List Str} {x : Str} {M : Nat} {W : Sees} (hN : S.n = N) (hn : n₀ ≤ N) (hlc : c ≠ l) (hl : l < N) (gl : S.tree.get l = some (fz dl)) (hc : c < N) (gc' : S.tree.get c = some (fz dc))
    (hS2 : ∀ d, S2 d = insD d S) (hi : ∀ d, ((S.tree.ins S.n (fz d)).get S.n).isSome = true) (h1 : SetD w dl xs) (h2 : SetD w dc [x]) (hx : x ∉ xs) (h0 : 0 < xs.length) (hM : Room xs.length M) (hroom : (xs.length + 1) * 5 < M * 3) (hz : xs.length < 4000) (hW : 2 ≤ W.length) :
    Ob treeTable p w n₀ ann 39 S (.builtin "frozenset.__or__" ⟨[.ref l, .ref c], []⟩) W S2 (.ref N) (fun d => SetD w d (x :: xs)) := by
  subst hN
  intro pos k h g lv cd p₀ kept rest hB hWe
  have gl1 := fz_get hl gl h1
  have gc1 := fz_get hc gc' h2
  obtain ⟨es, ep, t, rfl, a1, a2, a3, a4⟩ := h1
  obtain ⟨ec, epc, tc, rfl, b1, b2, b3, b4⟩ := h2
  have hes : es.size = xs.length := by
    have := a2.length_eq
    rw [List.length_map, Array.length_toList] at this
    exact this
  have hec : ec.toList.length = 1 := by
    have := b2.length_eq
    rw [List.length_map] at this
    exact this
  obtain ⟨e, he⟩ := List.length_eq_one_iff.mp hec
  have hec2 : ec = #[e] := by
    obtain ⟨le⟩ := ec
    simp only at he
    rw [he]
  subst hec2
  obtain ⟨y, u, hy⟩ := b1 e (by simp)
  have hyx : y = x := by
    have := List.perm_singleton.mp b2
    simp only [List.map_cons, List.map_nil, List.cons.injEq, and_true] at this
    rw [hy] at this
    exact this
  subst hyx
  subst hy
  have G := gc_or (es := es) (ep := ep) (t := t) (hv := hashStr w y) (x := y) (tk := u) (ec := epc) (tc := tc) (p := p) (w := w) (ann := ann) (b := 0) (R := fun v s' _ => ∃ es' ep' t', es'.toList.Perm ((hashStr w y, .str y u) :: es.toList) ∧ t'.place.size = es'.size ∧ t'.fill ≤ t'.mask ∧ v = .ref S.abs.heap.objs.size ∧ s' = { S.abs with heap := S.abs.heap.push (frozO es' ep' t') }) (s := S.abs) (l := l) (c := c) (ol := fz ⟨es, ep, t⟩) (oc := fz ⟨#[(hashStr w y, .str y u)], epc, tc⟩) (M := M) (by rw [abs_size]; exact hn) hlc gl1 rfl rfl a3 a4 (by omega) (by rw [hes]; exact hM) (by rw [hes]; exact hroom) (by omega) (others_of a1 fun q => hx (a2.mem_iff.mp q)) gc1 rfl rfl b3 b4
    (fun es' ep' t' q1 q2 q3 => ⟨es', ep', t', q1, q2, q3, rfl, rfl⟩)
  obtain ⟨v, s', b', m, ⟨es', ep', t', q1, q2, q3, rfl, rfl⟩, hm, GG⟩ := G k h g lv cd p₀ kept rest pos (rest_len (k := k) (h := h) (g := g) (l := lv) (kept := kept) hWe hW)
  refine ⟨⟨es', ep', t'⟩, ⟨es', ep', t', rfl, fun e he => ?_, ?_, q2, q3⟩, ?_⟩
  · rcases List.mem_cons.mp (q1.mem_iff.mp he) with r | r
    · exact ⟨y, u, r⟩
    · exact a1 e r
  · refine (q1.map nm).trans ?_
    rw [List.map_cons]
    exact a2.cons y
  · rw [hS2, insD_abs (hi _)]
    rw [abs_size] at GG
    exact GG.more (by omega)
theorem ob_sub {S : SharedT} {N : Nat} {S2 : SD → SharedT} {l c : Nat} {dl dc : SD} {xs ys zs : List Str} {M : Nat} {W : Sees} (hN : S.n = N) (hn : n₀ ≤ N) (hlc : c ≠ l) (hl : l < N) (gl : S.tree.get l = some (fz dl)) (hc : c < N) (gc' : S.tree.get c = some (fz dc))
    (hS2 : ∀ d, S2 d = insD d S) (hi : ∀ d, ((S.tree.ins S.n (fz d)).get S.n).isSome = true) (h1 : SetD w dl xs) (h2 : SetD w dc ys) (hp : xs.Perm (ys ++ zs)) (hys : ∀ y ∈ ys, y = ⟨#[9]⟩ ∨ y = ⟨#[10]⟩) (hnd : ys.Nodup) (h0 : 0 < xs.length) (hM : Room xs.length M) (hz : xs.length < 4000)
    (hsz : ys.length < xs.length / 4) (hdm : ys.length ≤ M / 4) (hW : 2 ≤ W.length) :
    Ob treeTable p w n₀ ann (13 * ys.length + 40) S (.builtin "frozenset.__sub__" ⟨[.ref l, .ref c], []⟩) W S2 (.ref N) (fun d => SetD w d zs) := by
  subst hN
  intro pos k h g lv cd p₀ kept rest hB hWe
  have gl1 := fz_get hl gl h1
  have gc1 := fz_get hc gc' h2
  obtain ⟨es, ep, t, rfl, a1, a2, a3, a4⟩ := h1
  obtain ⟨ec, epc, tc, rfl, b1, b2, b3, b4⟩ := h2
  have hes : es.size = xs.length := by
    have := a2.length_eq
    rw [List.length_map, Array.length_toList] at this
    exact this
  have hec : ec.size = ys.length := by
    have := b2.length_eq
    rw [List.length_map, Array.length_toList] at this
    exact this
  have hT : ∀ d ∈ ec.toList, Tab d := fun d hd => by
    obtain ⟨y, u, rfl⟩ := b1 d hd
    have : y ∈ ys := b2.mem_iff.mp (List.mem_map_of_mem (f := nm) hd)
    rcases hys y this with rfl | rfl
    · exact ⟨9, u, .inl rfl, rfl⟩
    · exact ⟨10, u, .inr rfl, rfl⟩
  have G := gc_sub (es := es) (ep := ep) (t := t) (esc := ec) (ec := epc) (tc := tc) (p := p) (w := w) (ann := ann) (b := 0) (R := fun v s' _ => ∃ rs es' ep' t', es.toList.Perm (rs ++ es'.toList) ∧ (rs.map nm).Perm (ec.toList.map nm) ∧ t'.place.size = es'.size ∧ t'.fill ≤ t'.mask ∧ v = .ref S.abs.heap.objs.size ∧ s' = { S.abs with heap := S.abs.heap.push (frozO es' ep' t') }) (s := S.abs) (l := l) (c := c) (ol := fz ⟨es, ep, t⟩) (oc := fz ⟨ec, epc, tc⟩) (M := M) (by rw [abs_size]; exact hn) hlc gl1 rfl rfl a3 a4 a1.strs (by omega) (by rw [hes]; exact hM) (by omega) gc1 rfl rfl b3 b4
    hT (b2.nodup_iff.mpr hnd) (fun d hd => a2.mem_iff.mpr (hp.mem_iff.mpr (List.mem_append_left _ (b2.mem_iff.mp (List.mem_map_of_mem hd))))) (by omega) (by omega)
    (fun rs es' ep' t' q1 q2 q3 q4 => ⟨rs, es', ep', t', q1, q2, q3, q4, rfl, rfl⟩)
  obtain ⟨v, s', b', m, ⟨rs, es', ep', t', q1, q2, q3, q4, rfl, rfl⟩, hm, GG⟩ := G k h g lv cd p₀ kept rest pos (rest_len (k := k) (h := h) (g := g) (l := lv) (kept := kept) hWe hW)
  refine ⟨⟨es', ep', t'⟩, ⟨es', ep', t', rfl, fun e he => a1 e (q1.mem_iff.mpr (List.mem_append_right _ he)), ?_, q3, q4⟩, ?_⟩
  · have e1 : (rs.map nm ++ es'.toList.map nm).Perm (ys ++ zs) := by
      rw [← List.map_append]
      exact ((q1.map nm).symm.trans a2).trans hp
    exact (List.perm_append_left_iff ys).mp (((q2.trans b2).symm.append_right _).trans e1)
  · rw [hS2, insD_abs (hi _)]
    rw [abs_size] at GG
    exact GG.more (by omega)
end
end
noncomputable abbrev nS (P : Params) : Obj := ⟨.type "frozenset", none, .set #[] 0 (.fresh 0 0 (!P.followText "set-order")), #[]⟩
noncomputable abbrev topBody : List Stmt := behindTheImports pr
noncomputable abbrev topEnv : Env := { scope := pr.main.scope, locals := mainNs, globals := mainNs, cells := [], code := .ref 13, frame := some 14 }
noncomputable abbrev topC : Code := .body topBody topEnv
noncomputable abbrev topA : Option Value := some (.ref 6)
noncomputable abbrev B0 : List Frame := [topFrame ⟨0, 0, 0, 0⟩]
/-- the one generator of the top -/
noncomputable def genE : Expr := match stmtAt 4 with
  | .Assign _ (.BinOp (.Call _ (g :: _) _ _) _ _ _) _ => g
  | _ => .Name "" default
noncomputable def genS : Scope := match genE with
  | .GeneratorExp _ _ s _ => s
  | _ => default
noncomputable abbrev genV : Env := { scope := genS, locals := 56, globals := 3, cells := [], qual := Str.ofString "<genexpr>.", code := .ref 55, frame := some 56 }
noncomputable abbrev genC : Code := .compStart genE 0 (.ref 52) .none genV
noncomputable def g_0 (P : Params) : DictEntry := ⟨PyData.keyHash P (Str.ofString "__name__"), (.str (Str.ofString "__name__") 165), (.str (Str.ofString "__main__") 164)⟩
noncomputable def g_1 (P : Params) : DictEntry := ⟨PyData.keyHash P (Str.ofString "__doc__"), (.str (Str.ofString "__doc__") 166), .none⟩
noncomputable def g_2 (P : Params) : DictEntry := ⟨PyData.keyHash P (Str.ofString "__package__"), (.str (Str.ofString "__package__") 167), .none⟩
noncomputable def g_3 (P : Params) : DictEntry := ⟨PyData.keyHash P (Str.ofString "__loader__"), (.str (Str.ofString "__loader__") 168), (.builtin "__main__.__loader__#opaque")⟩
noncomputable def g_4 (P : Params) : DictEntry := ⟨PyData.keyHash P (Str.ofString "__spec__"), (.str (Str.ofString "__spec__") 169), .none⟩
noncomputable def g_5 (P : Params) : DictEntry := ⟨PyData.keyHash P (Str.ofString "__annotations__"), (.str (Str.ofString "__annotations__") 170), (.ref 6)⟩
noncomputable def g_6 (P : Params) : DictEntry := ⟨PyData.keyHash P (Str.ofString "__builtins__"), (.str (Str.ofString "__builtins__") 171), (.ref 4)⟩
noncomputable def g_7 (P : Params) : DictEntry := ⟨PyData.keyHash P (Str.ofString "__file__"), (.str (Str.ofString "__file__") 173), (.str (Str.ofString "/claim/cut.py") 172)⟩
noncomputable def g_8 (P : Params) : DictEntry := ⟨PyData.keyHash P (Str.ofString "__cached__"), (.str (Str.ofString "__cached__") 174), .none⟩
noncomputable def v3_0 (P : Params) : Obj := ⟨(.type "dict"), .none, (.dict [g_0 P, g_1 P, g_2 P, g_3 P, g_4 P, g_5 P, g_6 P, g_7 P, g_8 P].toArray 9), #[]⟩
noncomputable def v12_0 (P : Params) : Obj := ⟨.none, .none, (.fields #[]), #[]⟩
noncomputable def T_block (P : Params) : BT := (.node (o_0 P) (.node (o_1 P) (.node (v3_0 P) (.node (o_7 P) .nil .nil) (.node (o_11 P) .nil .nil)) (.node (o_5 P) (.node (o_9 P) .nil .nil) (.node (o_13 P) .nil .nil))) (.node (o_2 P) (.node (o_4 P) (.node (o_8 P) .nil .nil) (.node (v12_0 P) .nil .nil)) (.node (o_6 P) (.node (o_10 P) .nil .nil) (.node (o_14 P) .nil .nil))))
@[irreducible] noncomputable def S_block (P : Params) (os : OsState) : SharedT := ⟨T_block P , 15, {}, #[], {}, 187, os⟩
noncomputable def g_9 (P : Params) : DictEntry := ⟨PyData.keyHash P (Str.ofString "__name__"), (.str (Str.ofString "__name__") 165), (.str (Str.ofString "cpy313.tomllib._parser") 234)⟩
noncomputable def g_10 (P : Params) : DictEntry := ⟨PyData.keyHash P (Str.ofString "_wall"), (.str (Str.ofString "_wall") 193), (.ref 21)⟩
noncomputable def g_11 (P : Params) : DictEntry := ⟨PyData.keyHash P (Str.ofString "_WallAttr"), (.str (Str.ofString "_WallAttr") 233), (.ref 46)⟩
noncomputable def g_12 (P : Params) : DictEntry := ⟨PyData.keyHash P (Str.ofString "MAX_KEY_PARTS"), (.str (Str.ofString "MAX_KEY_PARTS") 237), (.int 1000 236)⟩
noncomputable def v3_1 (P : Params) : Obj := ⟨(.type "dict"), .none, (.dict [g_9 P, g_1 P, g_2 P, g_3 P, g_4 P, g_5 P, g_6 P, g_7 P, g_8 P, g_10 P, g_11 P, g_12 P].toArray 12), #[]⟩
noncomputable def v12_1 (P : Params) : Obj := ⟨.none, .none, (.fields #[(.int 1 0), (.int 0 0), (.ref 20), (.int 4 0), (.int 0 0), (.ref 27)]), #[]⟩
noncomputable def T_3 (P : Params) : BT := (.node (o_0 P) (.node (o_1 P) (.node (v3_1 P) (.node (o_7 P) (.node (o_15 P) (.node (o_31 P) .nil .nil) (.node (o_47 P) .nil .nil)) (.node (o_23 P) (.node (o_39 P) .nil .nil) .nil)) (.node (o_11 P) (.node (o_19 P) (.node (o_35 P) .nil .nil) .nil) (.node (o_27 P) (.node (o_43 P) .nil .nil) .nil))) (.node (o_5 P) (.node (o_9 P) (.node (o_17 P) (.node (o_33 P) .nil .nil) (.node (o_49 P) .nil .nil)) (.node (o_25 P) (.node (o_41 P) .nil .nil) .nil)) (.node (o_13 P) (.node (o_21 P) (.node (o_37 P) .nil .nil) .nil) (.node (o_29 P) (.node (o_45 P) .nil .nil) .nil)))) (.node (o_2 P) (.node (o_4 P) (.node (o_8 P) (.node (o_16 P) (.node (o_32 P) .nil .nil) (.node (o_48 P) .nil .nil)) (.node (o_24 P) (.node (o_40 P) .nil .nil) .nil)) (.node (v12_1 P) (.node (o_20 P) (.node (o_36 P) .nil .nil) .nil) (.node (o_28 P) (.node (o_44 P) .nil .nil) .nil))) (.node (o_6 P) (.node (o_10 P) (.node (o_18 P) (.node (o_34 P) .nil .nil) (.node (o_50 P) .nil .nil)) (.node (o_26 P) (.node (o_42 P) .nil .nil) .nil)) (.node (o_14 P) (.node (o_22 P) (.node (o_38 P) .nil .nil) .nil) (.node (o_30 P) (.node (o_46 P) .nil .nil) .nil)))))
@[irreducible] noncomputable def S_3 (P : Params) (os : OsState) : SharedT := ⟨T_3 P , 51, {}, #[], {}, 238, os⟩
noncomputable def v12_2 (P : Params) : Obj := ⟨.none, .none, (.fields #[(.int 1 0), (.int 0 0), (.ref 20), (.int 4 0), (.int 0 0), (.ref 27), (.int 12 0), (.int 23 0), (.ref 55)]), #[]⟩
noncomputable def v52_0 (P : Params) : Obj := ⟨(.type "range_iterator"), .none, (.fields #[(.int 0 0), (.int 32 0), (.int 1 0)]), #[]⟩
noncomputable def v56_0 (P : Params) : Obj := ⟨(.type "frame"), .none, (.dict [⟨PyData.keyHash P (Str.ofString ".0"), (.str (Str.ofString ".0") 246), (.ref 52)⟩].toArray 1), #[]⟩
noncomputable def T_4_0a (P : Params) : BT := (.node (o_0 P) (.node (o_1 P) (.node (v3_1 P) (.node (o_7 P) (.node (o_15 P) (.node (o_31 P) .nil .nil) (.node (o_47 P) .nil .nil)) (.node (o_23 P) (.node (o_39 P) .nil .nil) (.node (o_55 P) .nil .nil))) (.node (o_11 P) (.node (o_19 P) (.node (o_35 P) .nil .nil) (.node (o_51 P) .nil .nil)) (.node (o_27 P) (.node (o_43 P) .nil .nil) .nil))) (.node (o_5 P) (.node (o_9 P) (.node (o_17 P) (.node (o_33 P) .nil .nil) (.node (o_49 P) .nil .nil)) (.node (o_25 P) (.node (o_41 P) .nil .nil) (.node (o_57 P) .nil .nil))) (.node (o_13 P) (.node (o_21 P) (.node (o_37 P) .nil .nil) (.node (o_53 P) .nil .nil)) (.node (o_29 P) (.node (o_45 P) .nil .nil) .nil)))) (.node (o_2 P) (.node (o_4 P) (.node (o_8 P) (.node (o_16 P) (.node (o_32 P) .nil .nil) (.node (o_48 P) .nil .nil)) (.node (o_24 P) (.node (o_40 P) .nil .nil) (.node (v56_0 P) .nil .nil))) (.node (v12_2 P) (.node (o_20 P) (.node (o_36 P) .nil .nil) (.node (v52_0 P) .nil .nil)) (.node (o_28 P) (.node (o_44 P) .nil .nil) .nil))) (.node (o_6 P) (.node (o_10 P) (.node (o_18 P) (.node (o_34 P) .nil .nil) (.node (o_50 P) .nil .nil)) (.node (o_26 P) (.node (o_42 P) .nil .nil) (.node (nS P) .nil .nil))) (.node (o_14 P) (.node (o_22 P) (.node (o_38 P) .nil .nil) (.node (o_54 P) .nil .nil)) (.node (o_30 P) (.node (o_46 P) .nil .nil) .nil)))))
@[irreducible] noncomputable def S_4_0a (P : Params) (os : OsState) : SharedT := ⟨T_4_0a P , 59, {}, #[.fresh genC], {}, 249, os⟩
noncomputable def T_4_0b (P : Params) (d58 : SD) : BT := (.node (o_0 P) (.node (o_1 P) (.node (v3_1 P) (.node (o_7 P) (.node (o_15 P) (.node (o_31 P) .nil .nil) (.node (o_47 P) .nil .nil)) (.node (o_23 P) (.node (o_39 P) .nil .nil) (.node (o_55 P) .nil .nil))) (.node (o_11 P) (.node (o_19 P) (.node (o_35 P) .nil .nil) (.node (o_51 P) .nil .nil)) (.node (o_27 P) (.node (o_43 P) .nil .nil) (.node (o_59 P) .nil .nil)))) (.node (o_5 P) (.node (o_9 P) (.node (o_17 P) (.node (o_33 P) .nil .nil) (.node (o_49 P) .nil .nil)) (.node (o_25 P) (.node (o_41 P) .nil .nil) (.node (o_57 P) .nil .nil))) (.node (o_13 P) (.node (o_21 P) (.node (o_37 P) .nil .nil) (.node (o_53 P) .nil .nil)) (.node (o_29 P) (.node (o_45 P) .nil .nil) (.node (o_61 P) .nil .nil))))) (.node (o_2 P) (.node (o_4 P) (.node (o_8 P) (.node (o_16 P) (.node (o_32 P) .nil .nil) (.node (o_48 P) .nil .nil)) (.node (o_24 P) (.node (o_40 P) .nil .nil) (.node (o_56 P) .nil .nil))) (.node (v12_2 P) (.node (o_20 P) (.node (o_36 P) .nil .nil) (.node (o_52 P) .nil .nil)) (.node (o_28 P) (.node (o_44 P) .nil .nil) (.node (o_60 P) .nil .nil)))) (.node (o_6 P) (.node (o_10 P) (.node (o_18 P) (.node (o_34 P) .nil .nil) (.node (o_50 P) .nil .nil)) (.node (o_26 P) (.node (o_42 P) .nil .nil) (.node (fz d58) .nil .nil))) (.node (o_14 P) (.node (o_22 P) (.node (o_38 P) .nil .nil) (.node (o_54 P) .nil .nil)) (.node (o_30 P) (.node (o_46 P) .nil .nil) (.node (o_62 P) .nil .nil))))))
@[irreducible] noncomputable def S_4_0b (P : Params) (d58 : SD) (os : OsState) : SharedT := ⟨T_4_0b P d58, 63, {}, #[.finished], {}, 377, os⟩
noncomputable def v64_0 (P : Params) : Obj := ⟨(.type "str_ascii_iterator"), .none, (.fields #[(.str (Str.ofString "\x7f") 378), (.int 0 0)]), #[]⟩
noncomputable def T_4_1a (P : Params) (d58 : SD) : BT := (.node (o_0 P) (.node (o_1 P) (.node (v3_1 P) (.node (o_7 P) (.node (o_15 P) (.node (o_31 P) (.node (nS P) .nil .nil) .nil) (.node (o_47 P) .nil .nil)) (.node (o_23 P) (.node (o_39 P) .nil .nil) (.node (o_55 P) .nil .nil))) (.node (o_11 P) (.node (o_19 P) (.node (o_35 P) .nil .nil) (.node (o_51 P) .nil .nil)) (.node (o_27 P) (.node (o_43 P) .nil .nil) (.node (o_59 P) .nil .nil)))) (.node (o_5 P) (.node (o_9 P) (.node (o_17 P) (.node (o_33 P) .nil .nil) (.node (o_49 P) .nil .nil)) (.node (o_25 P) (.node (o_41 P) .nil .nil) (.node (o_57 P) .nil .nil))) (.node (o_13 P) (.node (o_21 P) (.node (o_37 P) .nil .nil) (.node (o_53 P) .nil .nil)) (.node (o_29 P) (.node (o_45 P) .nil .nil) (.node (o_61 P) .nil .nil))))) (.node (o_2 P) (.node (o_4 P) (.node (o_8 P) (.node (o_16 P) (.node (o_32 P) (.node (v64_0 P) .nil .nil) .nil) (.node (o_48 P) .nil .nil)) (.node (o_24 P) (.node (o_40 P) .nil .nil) (.node (o_56 P) .nil .nil))) (.node (v12_2 P) (.node (o_20 P) (.node (o_36 P) .nil .nil) (.node (o_52 P) .nil .nil)) (.node (o_28 P) (.node (o_44 P) .nil .nil) (.node (o_60 P) .nil .nil)))) (.node (o_6 P) (.node (o_10 P) (.node (o_18 P) (.node (o_34 P) .nil .nil) (.node (o_50 P) .nil .nil)) (.node (o_26 P) (.node (o_42 P) .nil .nil) (.node (fz d58) .nil .nil))) (.node (o_14 P) (.node (o_22 P) (.node (o_38 P) .nil .nil) (.node (o_54 P) .nil .nil)) (.node (o_30 P) (.node (o_46 P) .nil .nil) (.node (o_62 P) .nil .nil))))))
@[irreducible] noncomputable def S_4_1a (P : Params) (d58 : SD) (os : OsState) : SharedT := ⟨T_4_1a P d58, 65, {}, #[.finished], {}, 379, os⟩
noncomputable def T_4_1b (P : Params) (d58 d63 : SD) : BT := (.node (o_0 P) (.node (o_1 P) (.node (v3_1 P) (.node (o_7 P) (.node (o_15 P) (.node (o_31 P) (.node (fz d63) .nil .nil) .nil) (.node (o_47 P) .nil .nil)) (.node (o_23 P) (.node (o_39 P) .nil .nil) (.node (o_55 P) .nil .nil))) (.node (o_11 P) (.node (o_19 P) (.node (o_35 P) .nil .nil) (.node (o_51 P) .nil .nil)) (.node (o_27 P) (.node (o_43 P) .nil .nil) (.node (o_59 P) .nil .nil)))) (.node (o_5 P) (.node (o_9 P) (.node (o_17 P) (.node (o_33 P) (.node (o_65 P) .nil .nil) .nil) (.node (o_49 P) .nil .nil)) (.node (o_25 P) (.node (o_41 P) .nil .nil) (.node (o_57 P) .nil .nil))) (.node (o_13 P) (.node (o_21 P) (.node (o_37 P) .nil .nil) (.node (o_53 P) .nil .nil)) (.node (o_29 P) (.node (o_45 P) .nil .nil) (.node (o_61 P) .nil .nil))))) (.node (o_2 P) (.node (o_4 P) (.node (o_8 P) (.node (o_16 P) (.node (o_32 P) (.node (o_64 P) .nil .nil) .nil) (.node (o_48 P) .nil .nil)) (.node (o_24 P) (.node (o_40 P) .nil .nil) (.node (o_56 P) .nil .nil))) (.node (v12_2 P) (.node (o_20 P) (.node (o_36 P) .nil .nil) (.node (o_52 P) .nil .nil)) (.node (o_28 P) (.node (o_44 P) .nil .nil) (.node (o_60 P) .nil .nil)))) (.node (o_6 P) (.node (o_10 P) (.node (o_18 P) (.node (o_34 P) (.node (o_66 P) .nil .nil) .nil) (.node (o_50 P) .nil .nil)) (.node (o_26 P) (.node (o_42 P) .nil .nil) (.node (fz d58) .nil .nil))) (.node (o_14 P) (.node (o_22 P) (.node (o_38 P) .nil .nil) (.node (o_54 P) .nil .nil)) (.node (o_30 P) (.node (o_46 P) .nil .nil) (.node (o_62 P) .nil .nil))))))
@[irreducible] noncomputable def S_4_1b (P : Params) (d58 d63 : SD) (os : OsState) : SharedT := ⟨T_4_1b P d58 d63, 67, {}, #[.finished], {}, 381, os⟩
noncomputable def T_4_2a (P : Params) (d58 d63 : SD) : BT := (.node (o_0 P) (.node (o_1 P) (.node (v3_1 P) (.node (o_7 P) (.node (o_15 P) (.node (o_31 P) (.node (fz d63) .nil .nil) .nil) (.node (o_47 P) .nil .nil)) (.node (o_23 P) (.node (o_39 P) .nil .nil) (.node (o_55 P) .nil .nil))) (.node (o_11 P) (.node (o_19 P) (.node (o_35 P) .nil .nil) (.node (o_51 P) .nil .nil)) (.node (o_27 P) (.node (o_43 P) .nil .nil) (.node (o_59 P) .nil .nil)))) (.node (o_5 P) (.node (o_9 P) (.node (o_17 P) (.node (o_33 P) (.node (o_65 P) .nil .nil) .nil) (.node (o_49 P) .nil .nil)) (.node (o_25 P) (.node (o_41 P) .nil .nil) (.node (o_57 P) .nil .nil))) (.node (o_13 P) (.node (o_21 P) (.node (o_37 P) .nil .nil) (.node (o_53 P) .nil .nil)) (.node (o_29 P) (.node (o_45 P) .nil .nil) (.node (o_61 P) .nil .nil))))) (.node (o_2 P) (.node (o_4 P) (.node (o_8 P) (.node (o_16 P) (.node (o_32 P) (.node (o_64 P) .nil .nil) .nil) (.node (o_48 P) .nil .nil)) (.node (o_24 P) (.node (o_40 P) .nil .nil) (.node (o_56 P) .nil .nil))) (.node (v12_2 P) (.node (o_20 P) (.node (o_36 P) .nil .nil) (.node (o_52 P) .nil .nil)) (.node (o_28 P) (.node (o_44 P) .nil .nil) (.node (o_60 P) .nil .nil)))) (.node (o_6 P) (.node (o_10 P) (.node (o_18 P) (.node (o_34 P) (.node (o_66 P) .nil .nil) .nil) (.node (o_50 P) .nil .nil)) (.node (o_26 P) (.node (o_42 P) .nil .nil) (.node (fz d58) .nil .nil))) (.node (o_14 P) (.node (o_22 P) (.node (o_38 P) .nil .nil) (.node (o_54 P) .nil .nil)) (.node (o_30 P) (.node (o_46 P) .nil .nil) (.node (o_62 P) .nil .nil))))))
@[irreducible] noncomputable def S_4_2a (P : Params) (d58 d63 : SD) (os : OsState) : SharedT := ⟨T_4_2a P d58 d63, 67, {}, #[.finished], {}, 381, os⟩
noncomputable def T_4_2b (P : Params) (d58 d63 d67 : SD) : BT := (.node (o_0 P) (.node (o_1 P) (.node (v3_1 P) (.node (o_7 P) (.node (o_15 P) (.node (o_31 P) (.node (fz d63) .nil .nil) .nil) (.node (o_47 P) .nil .nil)) (.node (o_23 P) (.node (o_39 P) .nil .nil) (.node (o_55 P) .nil .nil))) (.node (o_11 P) (.node (o_19 P) (.node (o_35 P) (.node (fz d67) .nil .nil) .nil) (.node (o_51 P) .nil .nil)) (.node (o_27 P) (.node (o_43 P) .nil .nil) (.node (o_59 P) .nil .nil)))) (.node (o_5 P) (.node (o_9 P) (.node (o_17 P) (.node (o_33 P) (.node (o_65 P) .nil .nil) .nil) (.node (o_49 P) .nil .nil)) (.node (o_25 P) (.node (o_41 P) .nil .nil) (.node (o_57 P) .nil .nil))) (.node (o_13 P) (.node (o_21 P) (.node (o_37 P) .nil .nil) (.node (o_53 P) .nil .nil)) (.node (o_29 P) (.node (o_45 P) .nil .nil) (.node (o_61 P) .nil .nil))))) (.node (o_2 P) (.node (o_4 P) (.node (o_8 P) (.node (o_16 P) (.node (o_32 P) (.node (o_64 P) .nil .nil) .nil) (.node (o_48 P) .nil .nil)) (.node (o_24 P) (.node (o_40 P) .nil .nil) (.node (o_56 P) .nil .nil))) (.node (v12_2 P) (.node (o_20 P) (.node (o_36 P) .nil .nil) (.node (o_52 P) .nil .nil)) (.node (o_28 P) (.node (o_44 P) .nil .nil) (.node (o_60 P) .nil .nil)))) (.node (o_6 P) (.node (o_10 P) (.node (o_18 P) (.node (o_34 P) (.node (o_66 P) .nil .nil) .nil) (.node (o_50 P) .nil .nil)) (.node (o_26 P) (.node (o_42 P) .nil .nil) (.node (fz d58) .nil .nil))) (.node (o_14 P) (.node (o_22 P) (.node (o_38 P) .nil .nil) (.node (o_54 P) .nil .nil)) (.node (o_30 P) (.node (o_46 P) .nil .nil) (.node (o_62 P) .nil .nil))))))
@[irreducible] noncomputable def S_4_2b (P : Params) (d58 d63 d67 : SD) (os : OsState) : SharedT := ⟨T_4_2b P d58 d63 d67, 68, {}, #[.finished], {}, 381, os⟩
noncomputable def g_13 (P : Params) : DictEntry := ⟨PyData.keyHash P (Str.ofString "ASCII_CTRL"), (.str (Str.ofString "ASCII_CTRL") 381), (.ref 67)⟩
noncomputable def v3_2 (P : Params) : Obj := ⟨(.type "dict"), .none, (.dict [g_9 P, g_1 P, g_2 P, g_3 P, g_4 P, g_5 P, g_6 P, g_7 P, g_8 P, g_10 P, g_11 P, g_12 P, g_13 P].toArray 13), #[]⟩
noncomputable def T_4 (P : Params) (d58 d63 d67 : SD) : BT := (.node (o_0 P) (.node (o_1 P) (.node (v3_2 P) (.node (o_7 P) (.node (o_15 P) (.node (o_31 P) (.node (fz d63) .nil .nil) .nil) (.node (o_47 P) .nil .nil)) (.node (o_23 P) (.node (o_39 P) .nil .nil) (.node (o_55 P) .nil .nil))) (.node (o_11 P) (.node (o_19 P) (.node (o_35 P) (.node (fz d67) .nil .nil) .nil) (.node (o_51 P) .nil .nil)) (.node (o_27 P) (.node (o_43 P) .nil .nil) (.node (o_59 P) .nil .nil)))) (.node (o_5 P) (.node (o_9 P) (.node (o_17 P) (.node (o_33 P) (.node (o_65 P) .nil .nil) .nil) (.node (o_49 P) .nil .nil)) (.node (o_25 P) (.node (o_41 P) .nil .nil) (.node (o_57 P) .nil .nil))) (.node (o_13 P) (.node (o_21 P) (.node (o_37 P) .nil .nil) (.node (o_53 P) .nil .nil)) (.node (o_29 P) (.node (o_45 P) .nil .nil) (.node (o_61 P) .nil .nil))))) (.node (o_2 P) (.node (o_4 P) (.node (o_8 P) (.node (o_16 P) (.node (o_32 P) (.node (o_64 P) .nil .nil) .nil) (.node (o_48 P) .nil .nil)) (.node (o_24 P) (.node (o_40 P) .nil .nil) (.node (o_56 P) .nil .nil))) (.node (v12_2 P) (.node (o_20 P) (.node (o_36 P) .nil .nil) (.node (o_52 P) .nil .nil)) (.node (o_28 P) (.node (o_44 P) .nil .nil) (.node (o_60 P) .nil .nil)))) (.node (o_6 P) (.node (o_10 P) (.node (o_18 P) (.node (o_34 P) (.node (o_66 P) .nil .nil) .nil) (.node (o_50 P) .nil .nil)) (.node (o_26 P) (.node (o_42 P) .nil .nil) (.node (fz d58) .nil .nil))) (.node (o_14 P) (.node (o_22 P) (.node (o_38 P) .nil .nil) (.node (o_54 P) .nil .nil)) (.node (o_30 P) (.node (o_46 P) .nil .nil) (.node (o_62 P) .nil .nil))))))
@[irreducible] noncomputable def S_4 (P : Params) (d58 d63 d67 : SD) (os : OsState) : SharedT := ⟨T_4 P d58 d63 d67, 68, {}, #[.finished], {}, 382, os⟩
noncomputable def v69_0 (P : Params) : Obj := ⟨(.type "str_ascii_iterator"), .none, (.fields #[(.str (Str.ofString "\t") 382), (.int 0 0)]), #[]⟩
noncomputable def T_5_0a (P : Params) (d58 d63 d67 : SD) : BT := (.node (o_0 P) (.node (o_1 P) (.node (v3_2 P) (.node (o_7 P) (.node (o_15 P) (.node (o_31 P) (.node (fz d63) .nil .nil) .nil) (.node (o_47 P) .nil .nil)) (.node (o_23 P) (.node (o_39 P) .nil .nil) (.node (o_55 P) .nil .nil))) (.node (o_11 P) (.node (o_19 P) (.node (o_35 P) (.node (fz d67) .nil .nil) .nil) (.node (o_51 P) .nil .nil)) (.node (o_27 P) (.node (o_43 P) .nil .nil) (.node (o_59 P) .nil .nil)))) (.node (o_5 P) (.node (o_9 P) (.node (o_17 P) (.node (o_33 P) (.node (o_65 P) .nil .nil) .nil) (.node (o_49 P) .nil .nil)) (.node (o_25 P) (.node (o_41 P) .nil .nil) (.node (o_57 P) .nil .nil))) (.node (o_13 P) (.node (o_21 P) (.node (o_37 P) (.node (v69_0 P) .nil .nil) .nil) (.node (o_53 P) .nil .nil)) (.node (o_29 P) (.node (o_45 P) .nil .nil) (.node (o_61 P) .nil .nil))))) (.node (o_2 P) (.node (o_4 P) (.node (o_8 P) (.node (o_16 P) (.node (o_32 P) (.node (o_64 P) .nil .nil) .nil) (.node (o_48 P) .nil .nil)) (.node (o_24 P) (.node (o_40 P) .nil .nil) (.node (o_56 P) .nil .nil))) (.node (v12_2 P) (.node (o_20 P) (.node (o_36 P) (.node (nS P) .nil .nil) .nil) (.node (o_52 P) .nil .nil)) (.node (o_28 P) (.node (o_44 P) .nil .nil) (.node (o_60 P) .nil .nil)))) (.node (o_6 P) (.node (o_10 P) (.node (o_18 P) (.node (o_34 P) (.node (o_66 P) .nil .nil) .nil) (.node (o_50 P) .nil .nil)) (.node (o_26 P) (.node (o_42 P) .nil .nil) (.node (fz d58) .nil .nil))) (.node (o_14 P) (.node (o_22 P) (.node (o_38 P) .nil .nil) (.node (o_54 P) .nil .nil)) (.node (o_30 P) (.node (o_46 P) .nil .nil) (.node (o_62 P) .nil .nil))))))
@[irreducible] noncomputable def S_5_0a (P : Params) (d58 d63 d67 : SD) (os : OsState) : SharedT := ⟨T_5_0a P d58 d63 d67, 70, {}, #[.finished], {}, 383, os⟩
noncomputable def T_5_0b (P : Params) (d58 d63 d67 d68 : SD) : BT := (.node (o_0 P) (.node (o_1 P) (.node (v3_2 P) (.node (o_7 P) (.node (o_15 P) (.node (o_31 P) (.node (fz d63) .nil .nil) .nil) (.node (o_47 P) .nil .nil)) (.node (o_23 P) (.node (o_39 P) (.node (o_71 P) .nil .nil) .nil) (.node (o_55 P) .nil .nil))) (.node (o_11 P) (.node (o_19 P) (.node (o_35 P) (.node (fz d67) .nil .nil) .nil) (.node (o_51 P) .nil .nil)) (.node (o_27 P) (.node (o_43 P) .nil .nil) (.node (o_59 P) .nil .nil)))) (.node (o_5 P) (.node (o_9 P) (.node (o_17 P) (.node (o_33 P) (.node (o_65 P) .nil .nil) .nil) (.node (o_49 P) .nil .nil)) (.node (o_25 P) (.node (o_41 P) .nil .nil) (.node (o_57 P) .nil .nil))) (.node (o_13 P) (.node (o_21 P) (.node (o_37 P) (.node (o_69 P) .nil .nil) .nil) (.node (o_53 P) .nil .nil)) (.node (o_29 P) (.node (o_45 P) .nil .nil) (.node (o_61 P) .nil .nil))))) (.node (o_2 P) (.node (o_4 P) (.node (o_8 P) (.node (o_16 P) (.node (o_32 P) (.node (o_64 P) .nil .nil) .nil) (.node (o_48 P) .nil .nil)) (.node (o_24 P) (.node (o_40 P) .nil .nil) (.node (o_56 P) .nil .nil))) (.node (v12_2 P) (.node (o_20 P) (.node (o_36 P) (.node (fz d68) .nil .nil) .nil) (.node (o_52 P) .nil .nil)) (.node (o_28 P) (.node (o_44 P) .nil .nil) (.node (o_60 P) .nil .nil)))) (.node (o_6 P) (.node (o_10 P) (.node (o_18 P) (.node (o_34 P) (.node (o_66 P) .nil .nil) .nil) (.node (o_50 P) .nil .nil)) (.node (o_26 P) (.node (o_42 P) .nil .nil) (.node (fz d58) .nil .nil))) (.node (o_14 P) (.node (o_22 P) (.node (o_38 P) (.node (o_70 P) .nil .nil) .nil) (.node (o_54 P) .nil .nil)) (.node (o_30 P) (.node (o_46 P) .nil .nil) (.node (o_62 P) .nil .nil))))))
@[irreducible] noncomputable def S_5_0b (P : Params) (d58 d63 d67 d68 : SD) (os : OsState) : SharedT := ⟨T_5_0b P d58 d63 d67 d68, 72, {}, #[.finished], {}, 385, os⟩
noncomputable def T_5_1a (P : Params) (d58 d63 d67 d68 : SD) : BT := (.node (o_0 P) (.node (o_1 P) (.node (v3_2 P) (.node (o_7 P) (.node (o_15 P) (.node (o_31 P) (.node (fz d63) .nil .nil) .nil) (.node (o_47 P) .nil .nil)) (.node (o_23 P) (.node (o_39 P) (.node (o_71 P) .nil .nil) .nil) (.node (o_55 P) .nil .nil))) (.node (o_11 P) (.node (o_19 P) (.node (o_35 P) (.node (fz d67) .nil .nil) .nil) (.node (o_51 P) .nil .nil)) (.node (o_27 P) (.node (o_43 P) .nil .nil) (.node (o_59 P) .nil .nil)))) (.node (o_5 P) (.node (o_9 P) (.node (o_17 P) (.node (o_33 P) (.node (o_65 P) .nil .nil) .nil) (.node (o_49 P) .nil .nil)) (.node (o_25 P) (.node (o_41 P) .nil .nil) (.node (o_57 P) .nil .nil))) (.node (o_13 P) (.node (o_21 P) (.node (o_37 P) (.node (o_69 P) .nil .nil) .nil) (.node (o_53 P) .nil .nil)) (.node (o_29 P) (.node (o_45 P) .nil .nil) (.node (o_61 P) .nil .nil))))) (.node (o_2 P) (.node (o_4 P) (.node (o_8 P) (.node (o_16 P) (.node (o_32 P) (.node (o_64 P) .nil .nil) .nil) (.node (o_48 P) .nil .nil)) (.node (o_24 P) (.node (o_40 P) .nil .nil) (.node (o_56 P) .nil .nil))) (.node (v12_2 P) (.node (o_20 P) (.node (o_36 P) (.node (fz d68) .nil .nil) .nil) (.node (o_52 P) .nil .nil)) (.node (o_28 P) (.node (o_44 P) .nil .nil) (.node (o_60 P) .nil .nil)))) (.node (o_6 P) (.node (o_10 P) (.node (o_18 P) (.node (o_34 P) (.node (o_66 P) .nil .nil) .nil) (.node (o_50 P) .nil .nil)) (.node (o_26 P) (.node (o_42 P) .nil .nil) (.node (fz d58) .nil .nil))) (.node (o_14 P) (.node (o_22 P) (.node (o_38 P) (.node (o_70 P) .nil .nil) .nil) (.node (o_54 P) .nil .nil)) (.node (o_30 P) (.node (o_46 P) .nil .nil) (.node (o_62 P) .nil .nil))))))
@[irreducible] noncomputable def S_5_1a (P : Params) (d58 d63 d67 d68 : SD) (os : OsState) : SharedT := ⟨T_5_1a P d58 d63 d67 d68, 72, {}, #[.finished], {}, 385, os⟩
noncomputable def T_5_1b (P : Params) (d58 d63 d67 d68 d72 : SD) : BT := (.node (o_0 P) (.node (o_1 P) (.node (v3_2 P) (.node (o_7 P) (.node (o_15 P) (.node (o_31 P) (.node (fz d63) .nil .nil) .nil) (.node (o_47 P) .nil .nil)) (.node (o_23 P) (.node (o_39 P) (.node (o_71 P) .nil .nil) .nil) (.node (o_55 P) .nil .nil))) (.node (o_11 P) (.node (o_19 P) (.node (o_35 P) (.node (fz d67) .nil .nil) .nil) (.node (o_51 P) .nil .nil)) (.node (o_27 P) (.node (o_43 P) .nil .nil) (.node (o_59 P) .nil .nil)))) (.node (o_5 P) (.node (o_9 P) (.node (o_17 P) (.node (o_33 P) (.node (o_65 P) .nil .nil) .nil) (.node (o_49 P) .nil .nil)) (.node (o_25 P) (.node (o_41 P) .nil .nil) (.node (o_57 P) .nil .nil))) (.node (o_13 P) (.node (o_21 P) (.node (o_37 P) (.node (o_69 P) .nil .nil) .nil) (.node (o_53 P) .nil .nil)) (.node (o_29 P) (.node (o_45 P) .nil .nil) (.node (o_61 P) .nil .nil))))) (.node (o_2 P) (.node (o_4 P) (.node (o_8 P) (.node (o_16 P) (.node (o_32 P) (.node (o_64 P) .nil .nil) .nil) (.node (o_48 P) .nil .nil)) (.node (o_24 P) (.node (o_40 P) (.node (fz d72) .nil .nil) .nil) (.node (o_56 P) .nil .nil))) (.node (v12_2 P) (.node (o_20 P) (.node (o_36 P) (.node (fz d68) .nil .nil) .nil) (.node (o_52 P) .nil .nil)) (.node (o_28 P) (.node (o_44 P) .nil .nil) (.node (o_60 P) .nil .nil)))) (.node (o_6 P) (.node (o_10 P) (.node (o_18 P) (.node (o_34 P) (.node (o_66 P) .nil .nil) .nil) (.node (o_50 P) .nil .nil)) (.node (o_26 P) (.node (o_42 P) .nil .nil) (.node (fz d58) .nil .nil))) (.node (o_14 P) (.node (o_22 P) (.node (o_38 P) (.node (o_70 P) .nil .nil) .nil) (.node (o_54 P) .nil .nil)) (.node (o_30 P) (.node (o_46 P) .nil .nil) (.node (o_62 P) .nil .nil))))))
@[irreducible] noncomputable def S_5_1b (P : Params) (d58 d63 d67 d68 d72 : SD) (os : OsState) : SharedT := ⟨T_5_1b P d58 d63 d67 d68 d72, 73, {}, #[.finished], {}, 385, os⟩
noncomputable def g_14 (P : Params) : DictEntry := ⟨PyData.keyHash P (Str.ofString "ILLEGAL_BASIC_STR_CHARS"), (.str (Str.ofString "ILLEGAL_BASIC_STR_CHARS") 385), (.ref 72)⟩
noncomputable def v3_3 (P : Params) : Obj := ⟨(.type "dict"), .none, (.dict [g_9 P, g_1 P, g_2 P, g_3 P, g_4 P, g_5 P, g_6 P, g_7 P, g_8 P, g_10 P, g_11 P, g_12 P, g_13 P, g_14 P].toArray 14), #[]⟩
noncomputable def T_5 (P : Params) (d58 d63 d67 d68 d72 : SD) : BT := (.node (o_0 P) (.node (o_1 P) (.node (v3_3 P) (.node (o_7 P) (.node (o_15 P) (.node (o_31 P) (.node (fz d63) .nil .nil) .nil) (.node (o_47 P) .nil .nil)) (.node (o_23 P) (.node (o_39 P) (.node (o_71 P) .nil .nil) .nil) (.node (o_55 P) .nil .nil))) (.node (o_11 P) (.node (o_19 P) (.node (o_35 P) (.node (fz d67) .nil .nil) .nil) (.node (o_51 P) .nil .nil)) (.node (o_27 P) (.node (o_43 P) .nil .nil) (.node (o_59 P) .nil .nil)))) (.node (o_5 P) (.node (o_9 P) (.node (o_17 P) (.node (o_33 P) (.node (o_65 P) .nil .nil) .nil) (.node (o_49 P) .nil .nil)) (.node (o_25 P) (.node (o_41 P) .nil .nil) (.node (o_57 P) .nil .nil))) (.node (o_13 P) (.node (o_21 P) (.node (o_37 P) (.node (o_69 P) .nil .nil) .nil) (.node (o_53 P) .nil .nil)) (.node (o_29 P) (.node (o_45 P) .nil .nil) (.node (o_61 P) .nil .nil))))) (.node (o_2 P) (.node (o_4 P) (.node (o_8 P) (.node (o_16 P) (.node (o_32 P) (.node (o_64 P) .nil .nil) .nil) (.node (o_48 P) .nil .nil)) (.node (o_24 P) (.node (o_40 P) (.node (fz d72) .nil .nil) .nil) (.node (o_56 P) .nil .nil))) (.node (v12_2 P) (.node (o_20 P) (.node (o_36 P) (.node (fz d68) .nil .nil) .nil) (.node (o_52 P) .nil .nil)) (.node (o_28 P) (.node (o_44 P) .nil .nil) (.node (o_60 P) .nil .nil)))) (.node (o_6 P) (.node (o_10 P) (.node (o_18 P) (.node (o_34 P) (.node (o_66 P) .nil .nil) .nil) (.node (o_50 P) .nil .nil)) (.node (o_26 P) (.node (o_42 P) .nil .nil) (.node (fz d58) .nil .nil))) (.node (o_14 P) (.node (o_22 P) (.node (o_38 P) (.node (o_70 P) .nil .nil) .nil) (.node (o_54 P) .nil .nil)) (.node (o_30 P) (.node (o_46 P) .nil .nil) (.node (o_62 P) .nil .nil))))))
@[irreducible] noncomputable def S_5 (P : Params) (d58 d63 d67 d68 d72 : SD) (os : OsState) : SharedT := ⟨T_5 P d58 d63 d67 d68 d72, 73, {}, #[.finished], {}, 386, os⟩
noncomputable def v74_0 (P : Params) : Obj := ⟨(.type "str_ascii_iterator"), .none, (.fields #[(.str (Str.ofString "\t\n") 386), (.int 0 0)]), #[]⟩
noncomputable def T_6_0a (P : Params) (d58 d63 d67 d68 d72 : SD) : BT := (.node (o_0 P) (.node (o_1 P) (.node (v3_3 P) (.node (o_7 P) (.node (o_15 P) (.node (o_31 P) (.node (fz d63) .nil .nil) .nil) (.node (o_47 P) .nil .nil)) (.node (o_23 P) (.node (o_39 P) (.node (o_71 P) .nil .nil) .nil) (.node (o_55 P) .nil .nil))) (.node (o_11 P) (.node (o_19 P) (.node (o_35 P) (.node (fz d67) .nil .nil) .nil) (.node (o_51 P) .nil .nil)) (.node (o_27 P) (.node (o_43 P) .nil .nil) (.node (o_59 P) .nil .nil)))) (.node (o_5 P) (.node (o_9 P) (.node (o_17 P) (.node (o_33 P) (.node (o_65 P) .nil .nil) .nil) (.node (o_49 P) .nil .nil)) (.node (o_25 P) (.node (o_41 P) (.node (nS P) .nil .nil) .nil) (.node (o_57 P) .nil .nil))) (.node (o_13 P) (.node (o_21 P) (.node (o_37 P) (.node (o_69 P) .nil .nil) .nil) (.node (o_53 P) .nil .nil)) (.node (o_29 P) (.node (o_45 P) .nil .nil) (.node (o_61 P) .nil .nil))))) (.node (o_2 P) (.node (o_4 P) (.node (o_8 P) (.node (o_16 P) (.node (o_32 P) (.node (o_64 P) .nil .nil) .nil) (.node (o_48 P) .nil .nil)) (.node (o_24 P) (.node (o_40 P) (.node (fz d72) .nil .nil) .nil) (.node (o_56 P) .nil .nil))) (.node (v12_2 P) (.node (o_20 P) (.node (o_36 P) (.node (fz d68) .nil .nil) .nil) (.node (o_52 P) .nil .nil)) (.node (o_28 P) (.node (o_44 P) .nil .nil) (.node (o_60 P) .nil .nil)))) (.node (o_6 P) (.node (o_10 P) (.node (o_18 P) (.node (o_34 P) (.node (o_66 P) .nil .nil) .nil) (.node (o_50 P) .nil .nil)) (.node (o_26 P) (.node (o_42 P) (.node (v74_0 P) .nil .nil) .nil) (.node (fz d58) .nil .nil))) (.node (o_14 P) (.node (o_22 P) (.node (o_38 P) (.node (o_70 P) .nil .nil) .nil) (.node (o_54 P) .nil .nil)) (.node (o_30 P) (.node (o_46 P) .nil .nil) (.node (o_62 P) .nil .nil))))))
@[irreducible] noncomputable def S_6_0a (P : Params) (d58 d63 d67 d68 d72 : SD) (os : OsState) : SharedT := ⟨T_6_0a P d58 d63 d67 d68 d72, 75, {}, #[.finished], {}, 387, os⟩
noncomputable def T_6_0b (P : Params) (d58 d63 d67 d68 d72 d73 : SD) : BT := (.node (o_0 P) (.node (o_1 P) (.node (v3_3 P) (.node (o_7 P) (.node (o_15 P) (.node (o_31 P) (.node (fz d63) .nil .nil) .nil) (.node (o_47 P) .nil .nil)) (.node (o_23 P) (.node (o_39 P) (.node (o_71 P) .nil .nil) .nil) (.node (o_55 P) .nil .nil))) (.node (o_11 P) (.node (o_19 P) (.node (o_35 P) (.node (fz d67) .nil .nil) .nil) (.node (o_51 P) .nil .nil)) (.node (o_27 P) (.node (o_43 P) (.node (o_75 P) .nil .nil) .nil) (.node (o_59 P) .nil .nil)))) (.node (o_5 P) (.node (o_9 P) (.node (o_17 P) (.node (o_33 P) (.node (o_65 P) .nil .nil) .nil) (.node (o_49 P) .nil .nil)) (.node (o_25 P) (.node (o_41 P) (.node (fz d73) .nil .nil) .nil) (.node (o_57 P) .nil .nil))) (.node (o_13 P) (.node (o_21 P) (.node (o_37 P) (.node (o_69 P) .nil .nil) .nil) (.node (o_53 P) .nil .nil)) (.node (o_29 P) (.node (o_45 P) .nil .nil) (.node (o_61 P) .nil .nil))))) (.node (o_2 P) (.node (o_4 P) (.node (o_8 P) (.node (o_16 P) (.node (o_32 P) (.node (o_64 P) .nil .nil) .nil) (.node (o_48 P) .nil .nil)) (.node (o_24 P) (.node (o_40 P) (.node (fz d72) .nil .nil) .nil) (.node (o_56 P) .nil .nil))) (.node (v12_2 P) (.node (o_20 P) (.node (o_36 P) (.node (fz d68) .nil .nil) .nil) (.node (o_52 P) .nil .nil)) (.node (o_28 P) (.node (o_44 P) (.node (o_76 P) .nil .nil) .nil) (.node (o_60 P) .nil .nil)))) (.node (o_6 P) (.node (o_10 P) (.node (o_18 P) (.node (o_34 P) (.node (o_66 P) .nil .nil) .nil) (.node (o_50 P) .nil .nil)) (.node (o_26 P) (.node (o_42 P) (.node (o_74 P) .nil .nil) .nil) (.node (fz d58) .nil .nil))) (.node (o_14 P) (.node (o_22 P) (.node (o_38 P) (.node (o_70 P) .nil .nil) .nil) (.node (o_54 P) .nil .nil)) (.node (o_30 P) (.node (o_46 P) .nil .nil) (.node (o_62 P) .nil .nil))))))
@[irreducible] noncomputable def S_6_0b (P : Params) (d58 d63 d67 d68 d72 d73 : SD) (os : OsState) : SharedT := ⟨T_6_0b P d58 d63 d67 d68 d72 d73, 77, {}, #[.finished], {}, 391, os⟩
noncomputable def T_6_1a (P : Params) (d58 d63 d67 d68 d72 d73 : SD) : BT := (.node (o_0 P) (.node (o_1 P) (.node (v3_3 P) (.node (o_7 P) (.node (o_15 P) (.node (o_31 P) (.node (fz d63) .nil .nil) .nil) (.node (o_47 P) .nil .nil)) (.node (o_23 P) (.node (o_39 P) (.node (o_71 P) .nil .nil) .nil) (.node (o_55 P) .nil .nil))) (.node (o_11 P) (.node (o_19 P) (.node (o_35 P) (.node (fz d67) .nil .nil) .nil) (.node (o_51 P) .nil .nil)) (.node (o_27 P) (.node (o_43 P) (.node (o_75 P) .nil .nil) .nil) (.node (o_59 P) .nil .nil)))) (.node (o_5 P) (.node (o_9 P) (.node (o_17 P) (.node (o_33 P) (.node (o_65 P) .nil .nil) .nil) (.node (o_49 P) .nil .nil)) (.node (o_25 P) (.node (o_41 P) (.node (fz d73) .nil .nil) .nil) (.node (o_57 P) .nil .nil))) (.node (o_13 P) (.node (o_21 P) (.node (o_37 P) (.node (o_69 P) .nil .nil) .nil) (.node (o_53 P) .nil .nil)) (.node (o_29 P) (.node (o_45 P) .nil .nil) (.node (o_61 P) .nil .nil))))) (.node (o_2 P) (.node (o_4 P) (.node (o_8 P) (.node (o_16 P) (.node (o_32 P) (.node (o_64 P) .nil .nil) .nil) (.node (o_48 P) .nil .nil)) (.node (o_24 P) (.node (o_40 P) (.node (fz d72) .nil .nil) .nil) (.node (o_56 P) .nil .nil))) (.node (v12_2 P) (.node (o_20 P) (.node (o_36 P) (.node (fz d68) .nil .nil) .nil) (.node (o_52 P) .nil .nil)) (.node (o_28 P) (.node (o_44 P) (.node (o_76 P) .nil .nil) .nil) (.node (o_60 P) .nil .nil)))) (.node (o_6 P) (.node (o_10 P) (.node (o_18 P) (.node (o_34 P) (.node (o_66 P) .nil .nil) .nil) (.node (o_50 P) .nil .nil)) (.node (o_26 P) (.node (o_42 P) (.node (o_74 P) .nil .nil) .nil) (.node (fz d58) .nil .nil))) (.node (o_14 P) (.node (o_22 P) (.node (o_38 P) (.node (o_70 P) .nil .nil) .nil) (.node (o_54 P) .nil .nil)) (.node (o_30 P) (.node (o_46 P) .nil .nil) (.node (o_62 P) .nil .nil))))))
@[irreducible] noncomputable def S_6_1a (P : Params) (d58 d63 d67 d68 d72 d73 : SD) (os : OsState) : SharedT := ⟨T_6_1a P d58 d63 d67 d68 d72 d73, 77, {}, #[.finished], {}, 391, os⟩
noncomputable def T_6_1b (P : Params) (d58 d63 d67 d68 d72 d73 d77 : SD) : BT := (.node (o_0 P) (.node (o_1 P) (.node (v3_3 P) (.node (o_7 P) (.node (o_15 P) (.node (o_31 P) (.node (fz d63) .nil .nil) .nil) (.node (o_47 P) .nil .nil)) (.node (o_23 P) (.node (o_39 P) (.node (o_71 P) .nil .nil) .nil) (.node (o_55 P) .nil .nil))) (.node (o_11 P) (.node (o_19 P) (.node (o_35 P) (.node (fz d67) .nil .nil) .nil) (.node (o_51 P) .nil .nil)) (.node (o_27 P) (.node (o_43 P) (.node (o_75 P) .nil .nil) .nil) (.node (o_59 P) .nil .nil)))) (.node (o_5 P) (.node (o_9 P) (.node (o_17 P) (.node (o_33 P) (.node (o_65 P) .nil .nil) .nil) (.node (o_49 P) .nil .nil)) (.node (o_25 P) (.node (o_41 P) (.node (fz d73) .nil .nil) .nil) (.node (o_57 P) .nil .nil))) (.node (o_13 P) (.node (o_21 P) (.node (o_37 P) (.node (o_69 P) .nil .nil) .nil) (.node (o_53 P) .nil .nil)) (.node (o_29 P) (.node (o_45 P) (.node (fz d77) .nil .nil) .nil) (.node (o_61 P) .nil .nil))))) (.node (o_2 P) (.node (o_4 P) (.node (o_8 P) (.node (o_16 P) (.node (o_32 P) (.node (o_64 P) .nil .nil) .nil) (.node (o_48 P) .nil .nil)) (.node (o_24 P) (.node (o_40 P) (.node (fz d72) .nil .nil) .nil) (.node (o_56 P) .nil .nil))) (.node (v12_2 P) (.node (o_20 P) (.node (o_36 P) (.node (fz d68) .nil .nil) .nil) (.node (o_52 P) .nil .nil)) (.node (o_28 P) (.node (o_44 P) (.node (o_76 P) .nil .nil) .nil) (.node (o_60 P) .nil .nil)))) (.node (o_6 P) (.node (o_10 P) (.node (o_18 P) (.node (o_34 P) (.node (o_66 P) .nil .nil) .nil) (.node (o_50 P) .nil .nil)) (.node (o_26 P) (.node (o_42 P) (.node (o_74 P) .nil .nil) .nil) (.node (fz d58) .nil .nil))) (.node (o_14 P) (.node (o_22 P) (.node (o_38 P) (.node (o_70 P) .nil .nil) .nil) (.node (o_54 P) .nil .nil)) (.node (o_30 P) (.node (o_46 P) .nil .nil) (.node (o_62 P) .nil .nil))))))
@[irreducible] noncomputable def S_6_1b (P : Params) (d58 d63 d67 d68 d72 d73 d77 : SD) (os : OsState) : SharedT := ⟨T_6_1b P d58 d63 d67 d68 d72 d73 d77, 78, {}, #[.finished], {}, 391, os⟩
noncomputable def g_15 (P : Params) : DictEntry := ⟨PyData.keyHash P (Str.ofString "ILLEGAL_MULTILINE_BASIC_STR_CHARS"), (.str (Str.ofString "ILLEGAL_MULTILINE_BASIC_STR_CHARS") 391), (.ref 77)⟩
noncomputable def v3_4 (P : Params) : Obj := ⟨(.type "dict"), .none, (.dict [g_9 P, g_1 P, g_2 P, g_3 P, g_4 P, g_5 P, g_6 P, g_7 P, g_8 P, g_10 P, g_11 P, g_12 P, g_13 P, g_14 P, g_15 P].toArray 15), #[]⟩
noncomputable def T_6 (P : Params) (d58 d63 d67 d68 d72 d73 d77 : SD) : BT := (.node (o_0 P) (.node (o_1 P) (.node (v3_4 P) (.node (o_7 P) (.node (o_15 P) (.node (o_31 P) (.node (fz d63) .nil .nil) .nil) (.node (o_47 P) .nil .nil)) (.node (o_23 P) (.node (o_39 P) (.node (o_71 P) .nil .nil) .nil) (.node (o_55 P) .nil .nil))) (.node (o_11 P) (.node (o_19 P) (.node (o_35 P) (.node (fz d67) .nil .nil) .nil) (.node (o_51 P) .nil .nil)) (.node (o_27 P) (.node (o_43 P) (.node (o_75 P) .nil .nil) .nil) (.node (o_59 P) .nil .nil)))) (.node (o_5 P) (.node (o_9 P) (.node (o_17 P) (.node (o_33 P) (.node (o_65 P) .nil .nil) .nil) (.node (o_49 P) .nil .nil)) (.node (o_25 P) (.node (o_41 P) (.node (fz d73) .nil .nil) .nil) (.node (o_57 P) .nil .nil))) (.node (o_13 P) (.node (o_21 P) (.node (o_37 P) (.node (o_69 P) .nil .nil) .nil) (.node (o_53 P) .nil .nil)) (.node (o_29 P) (.node (o_45 P) (.node (fz d77) .nil .nil) .nil) (.node (o_61 P) .nil .nil))))) (.node (o_2 P) (.node (o_4 P) (.node (o_8 P) (.node (o_16 P) (.node (o_32 P) (.node (o_64 P) .nil .nil) .nil) (.node (o_48 P) .nil .nil)) (.node (o_24 P) (.node (o_40 P) (.node (fz d72) .nil .nil) .nil) (.node (o_56 P) .nil .nil))) (.node (v12_2 P) (.node (o_20 P) (.node (o_36 P) (.node (fz d68) .nil .nil) .nil) (.node (o_52 P) .nil .nil)) (.node (o_28 P) (.node (o_44 P) (.node (o_76 P) .nil .nil) .nil) (.node (o_60 P) .nil .nil)))) (.node (o_6 P) (.node (o_10 P) (.node (o_18 P) (.node (o_34 P) (.node (o_66 P) .nil .nil) .nil) (.node (o_50 P) .nil .nil)) (.node (o_26 P) (.node (o_42 P) (.node (o_74 P) .nil .nil) .nil) (.node (fz d58) .nil .nil))) (.node (o_14 P) (.node (o_22 P) (.node (o_38 P) (.node (o_70 P) .nil .nil) .nil) (.node (o_54 P) .nil .nil)) (.node (o_30 P) (.node (o_46 P) .nil .nil) (.node (o_62 P) .nil .nil))))))
@[irreducible] noncomputable def S_6 (P : Params) (d58 d63 d67 d68 d72 d73 d77 : SD) (os : OsState) : SharedT := ⟨T_6 P d58 d63 d67 d68 d72 d73 d77, 78, {}, #[.finished], {}, 392, os⟩
noncomputable def g_16 (P : Params) : DictEntry := ⟨PyData.keyHash P (Str.ofString "ILLEGAL_LITERAL_STR_CHARS"), (.str (Str.ofString "ILLEGAL_LITERAL_STR_CHARS") 392), (.ref 72)⟩
noncomputable def v3_5 (P : Params) : Obj := ⟨(.type "dict"), .none, (.dict [g_9 P, g_1 P, g_2 P, g_3 P, g_4 P, g_5 P, g_6 P, g_7 P, g_8 P, g_10 P, g_11 P, g_12 P, g_13 P, g_14 P, g_15 P, g_16 P].toArray 16), #[]⟩
noncomputable def T_7 (P : Params) (d58 d63 d67 d68 d72 d73 d77 : SD) : BT := (.node (o_0 P) (.node (o_1 P) (.node (v3_5 P) (.node (o_7 P) (.node (o_15 P) (.node (o_31 P) (.node (fz d63) .nil .nil) .nil) (.node (o_47 P) .nil .nil)) (.node (o_23 P) (.node (o_39 P) (.node (o_71 P) .nil .nil) .nil) (.node (o_55 P) .nil .nil))) (.node (o_11 P) (.node (o_19 P) (.node (o_35 P) (.node (fz d67) .nil .nil) .nil) (.node (o_51 P) .nil .nil)) (.node (o_27 P) (.node (o_43 P) (.node (o_75 P) .nil .nil) .nil) (.node (o_59 P) .nil .nil)))) (.node (o_5 P) (.node (o_9 P) (.node (o_17 P) (.node (o_33 P) (.node (o_65 P) .nil .nil) .nil) (.node (o_49 P) .nil .nil)) (.node (o_25 P) (.node (o_41 P) (.node (fz d73) .nil .nil) .nil) (.node (o_57 P) .nil .nil))) (.node (o_13 P) (.node (o_21 P) (.node (o_37 P) (.node (o_69 P) .nil .nil) .nil) (.node (o_53 P) .nil .nil)) (.node (o_29 P) (.node (o_45 P) (.node (fz d77) .nil .nil) .nil) (.node (o_61 P) .nil .nil))))) (.node (o_2 P) (.node (o_4 P) (.node (o_8 P) (.node (o_16 P) (.node (o_32 P) (.node (o_64 P) .nil .nil) .nil) (.node (o_48 P) .nil .nil)) (.node (o_24 P) (.node (o_40 P) (.node (fz d72) .nil .nil) .nil) (.node (o_56 P) .nil .nil))) (.node (v12_2 P) (.node (o_20 P) (.node (o_36 P) (.node (fz d68) .nil .nil) .nil) (.node (o_52 P) .nil .nil)) (.node (o_28 P) (.node (o_44 P) (.node (o_76 P) .nil .nil) .nil) (.node (o_60 P) .nil .nil)))) (.node (o_6 P) (.node (o_10 P) (.node (o_18 P) (.node (o_34 P) (.node (o_66 P) .nil .nil) .nil) (.node (o_50 P) .nil .nil)) (.node (o_26 P) (.node (o_42 P) (.node (o_74 P) .nil .nil) .nil) (.node (fz d58) .nil .nil))) (.node (o_14 P) (.node (o_22 P) (.node (o_38 P) (.node (o_70 P) .nil .nil) .nil) (.node (o_54 P) .nil .nil)) (.node (o_30 P) (.node (o_46 P) .nil .nil) (.node (o_62 P) .nil .nil))))))
@[irreducible] noncomputable def S_7 (P : Params) (d58 d63 d67 d68 d72 d73 d77 : SD) (os : OsState) : SharedT := ⟨T_7 P d58 d63 d67 d68 d72 d73 d77, 78, {}, #[.finished], {}, 393, os⟩
noncomputable def v79_0 (P : Params) : Obj := ⟨(.type "str_ascii_iterator"), .none, (.fields #[(.str (Str.ofString " \t") 393), (.int 0 0)]), #[]⟩
noncomputable def T_8_0a (P : Params) (d58 d63 d67 d68 d72 d73 d77 : SD) : BT := (.node (o_0 P) (.node (o_1 P) (.node (v3_5 P) (.node (o_7 P) (.node (o_15 P) (.node (o_31 P) (.node (fz d63) .nil .nil) .nil) (.node (o_47 P) (.node (v79_0 P) .nil .nil) .nil)) (.node (o_23 P) (.node (o_39 P) (.node (o_71 P) .nil .nil) .nil) (.node (o_55 P) .nil .nil))) (.node (o_11 P) (.node (o_19 P) (.node (o_35 P) (.node (fz d67) .nil .nil) .nil) (.node (o_51 P) .nil .nil)) (.node (o_27 P) (.node (o_43 P) (.node (o_75 P) .nil .nil) .nil) (.node (o_59 P) .nil .nil)))) (.node (o_5 P) (.node (o_9 P) (.node (o_17 P) (.node (o_33 P) (.node (o_65 P) .nil .nil) .nil) (.node (o_49 P) .nil .nil)) (.node (o_25 P) (.node (o_41 P) (.node (fz d73) .nil .nil) .nil) (.node (o_57 P) .nil .nil))) (.node (o_13 P) (.node (o_21 P) (.node (o_37 P) (.node (o_69 P) .nil .nil) .nil) (.node (o_53 P) .nil .nil)) (.node (o_29 P) (.node (o_45 P) (.node (fz d77) .nil .nil) .nil) (.node (o_61 P) .nil .nil))))) (.node (o_2 P) (.node (o_4 P) (.node (o_8 P) (.node (o_16 P) (.node (o_32 P) (.node (o_64 P) .nil .nil) .nil) (.node (o_48 P) .nil .nil)) (.node (o_24 P) (.node (o_40 P) (.node (fz d72) .nil .nil) .nil) (.node (o_56 P) .nil .nil))) (.node (v12_2 P) (.node (o_20 P) (.node (o_36 P) (.node (fz d68) .nil .nil) .nil) (.node (o_52 P) .nil .nil)) (.node (o_28 P) (.node (o_44 P) (.node (o_76 P) .nil .nil) .nil) (.node (o_60 P) .nil .nil)))) (.node (o_6 P) (.node (o_10 P) (.node (o_18 P) (.node (o_34 P) (.node (o_66 P) .nil .nil) .nil) (.node (o_50 P) .nil .nil)) (.node (o_26 P) (.node (o_42 P) (.node (o_74 P) .nil .nil) .nil) (.node (fz d58) .nil .nil))) (.node (o_14 P) (.node (o_22 P) (.node (o_38 P) (.node (o_70 P) .nil .nil) .nil) (.node (o_54 P) .nil .nil)) (.node (o_30 P) (.node (o_46 P) (.node (nS P) .nil .nil) .nil) (.node (o_62 P) .nil .nil))))))
@[irreducible] noncomputable def S_8_0a (P : Params) (d58 d63 d67 d68 d72 d73 d77 : SD) (os : OsState) : SharedT := ⟨T_8_0a P d58 d63 d67 d68 d72 d73 d77, 80, {}, #[.finished], {}, 394, os⟩
noncomputable def T_8_0b (P : Params) (d58 d63 d67 d68 d72 d73 d77 d78 : SD) : BT := (.node (o_0 P) (.node (o_1 P) (.node (v3_5 P) (.node (o_7 P) (.node (o_15 P) (.node (o_31 P) (.node (fz d63) .nil .nil) .nil) (.node (o_47 P) (.node (o_79 P) .nil .nil) .nil)) (.node (o_23 P) (.node (o_39 P) (.node (o_71 P) .nil .nil) .nil) (.node (o_55 P) .nil .nil))) (.node (o_11 P) (.node (o_19 P) (.node (o_35 P) (.node (fz d67) .nil .nil) .nil) (.node (o_51 P) .nil .nil)) (.node (o_27 P) (.node (o_43 P) (.node (o_75 P) .nil .nil) .nil) (.node (o_59 P) .nil .nil)))) (.node (o_5 P) (.node (o_9 P) (.node (o_17 P) (.node (o_33 P) (.node (o_65 P) .nil .nil) .nil) (.node (o_49 P) (.node (o_81 P) .nil .nil) .nil)) (.node (o_25 P) (.node (o_41 P) (.node (fz d73) .nil .nil) .nil) (.node (o_57 P) .nil .nil))) (.node (o_13 P) (.node (o_21 P) (.node (o_37 P) (.node (o_69 P) .nil .nil) .nil) (.node (o_53 P) .nil .nil)) (.node (o_29 P) (.node (o_45 P) (.node (fz d77) .nil .nil) .nil) (.node (o_61 P) .nil .nil))))) (.node (o_2 P) (.node (o_4 P) (.node (o_8 P) (.node (o_16 P) (.node (o_32 P) (.node (o_64 P) .nil .nil) .nil) (.node (o_48 P) (.node (o_80 P) .nil .nil) .nil)) (.node (o_24 P) (.node (o_40 P) (.node (fz d72) .nil .nil) .nil) (.node (o_56 P) .nil .nil))) (.node (v12_2 P) (.node (o_20 P) (.node (o_36 P) (.node (fz d68) .nil .nil) .nil) (.node (o_52 P) .nil .nil)) (.node (o_28 P) (.node (o_44 P) (.node (o_76 P) .nil .nil) .nil) (.node (o_60 P) .nil .nil)))) (.node (o_6 P) (.node (o_10 P) (.node (o_18 P) (.node (o_34 P) (.node (o_66 P) .nil .nil) .nil) (.node (o_50 P) .nil .nil)) (.node (o_26 P) (.node (o_42 P) (.node (o_74 P) .nil .nil) .nil) (.node (fz d58) .nil .nil))) (.node (o_14 P) (.node (o_22 P) (.node (o_38 P) (.node (o_70 P) .nil .nil) .nil) (.node (o_54 P) .nil .nil)) (.node (o_30 P) (.node (o_46 P) (.node (fz d78) .nil .nil) .nil) (.node (o_62 P) .nil .nil))))))
@[irreducible] noncomputable def S_8_0b (P : Params) (d58 d63 d67 d68 d72 d73 d77 d78 : SD) (os : OsState) : SharedT := ⟨T_8_0b P d58 d63 d67 d68 d72 d73 d77 d78, 82, {}, #[.finished], {}, 398, os⟩
noncomputable def g_17 (P : Params) : DictEntry := ⟨PyData.keyHash P (Str.ofString "TOML_WS"), (.str (Str.ofString "TOML_WS") 398), (.ref 78)⟩
noncomputable def v3_6 (P : Params) : Obj := ⟨(.type "dict"), .none, (.dict [g_9 P, g_1 P, g_2 P, g_3 P, g_4 P, g_5 P, g_6 P, g_7 P, g_8 P, g_10 P, g_11 P, g_12 P, g_13 P, g_14 P, g_15 P, g_16 P, g_17 P].toArray 17), #[]⟩
noncomputable def T_8 (P : Params) (d58 d63 d67 d68 d72 d73 d77 d78 : SD) : BT := (.node (o_0 P) (.node (o_1 P) (.node (v3_6 P) (.node (o_7 P) (.node (o_15 P) (.node (o_31 P) (.node (fz d63) .nil .nil) .nil) (.node (o_47 P) (.node (o_79 P) .nil .nil) .nil)) (.node (o_23 P) (.node (o_39 P) (.node (o_71 P) .nil .nil) .nil) (.node (o_55 P) .nil .nil))) (.node (o_11 P) (.node (o_19 P) (.node (o_35 P) (.node (fz d67) .nil .nil) .nil) (.node (o_51 P) .nil .nil)) (.node (o_27 P) (.node (o_43 P) (.node (o_75 P) .nil .nil) .nil) (.node (o_59 P) .nil .nil)))) (.node (o_5 P) (.node (o_9 P) (.node (o_17 P) (.node (o_33 P) (.node (o_65 P) .nil .nil) .nil) (.node (o_49 P) (.node (o_81 P) .nil .nil) .nil)) (.node (o_25 P) (.node (o_41 P) (.node (fz d73) .nil .nil) .nil) (.node (o_57 P) .nil .nil))) (.node (o_13 P) (.node (o_21 P) (.node (o_37 P) (.node (o_69 P) .nil .nil) .nil) (.node (o_53 P) .nil .nil)) (.node (o_29 P) (.node (o_45 P) (.node (fz d77) .nil .nil) .nil) (.node (o_61 P) .nil .nil))))) (.node (o_2 P) (.node (o_4 P) (.node (o_8 P) (.node (o_16 P) (.node (o_32 P) (.node (o_64 P) .nil .nil) .nil) (.node (o_48 P) (.node (o_80 P) .nil .nil) .nil)) (.node (o_24 P) (.node (o_40 P) (.node (fz d72) .nil .nil) .nil) (.node (o_56 P) .nil .nil))) (.node (v12_2 P) (.node (o_20 P) (.node (o_36 P) (.node (fz d68) .nil .nil) .nil) (.node (o_52 P) .nil .nil)) (.node (o_28 P) (.node (o_44 P) (.node (o_76 P) .nil .nil) .nil) (.node (o_60 P) .nil .nil)))) (.node (o_6 P) (.node (o_10 P) (.node (o_18 P) (.node (o_34 P) (.node (o_66 P) .nil .nil) .nil) (.node (o_50 P) .nil .nil)) (.node (o_26 P) (.node (o_42 P) (.node (o_74 P) .nil .nil) .nil) (.node (fz d58) .nil .nil))) (.node (o_14 P) (.node (o_22 P) (.node (o_38 P) (.node (o_70 P) .nil .nil) .nil) (.node (o_54 P) .nil .nil)) (.node (o_30 P) (.node (o_46 P) (.node (fz d78) .nil .nil) .nil) (.node (o_62 P) .nil .nil))))))
@[irreducible] noncomputable def S_8 (P : Params) (d58 d63 d67 d68 d72 d73 d77 d78 : SD) (os : OsState) : SharedT := ⟨T_8 P d58 d63 d67 d68 d72 d73 d77 d78, 82, {}, #[.finished], {}, 399, os⟩
noncomputable def v83_0 (P : Params) : Obj := ⟨(.type "str_ascii_iterator"), .none, (.fields #[(.str (Str.ofString "\n") 399), (.int 0 0)]), #[]⟩
noncomputable def T_9_0a (P : Params) (d58 d63 d67 d68 d72 d73 d77 d78 : SD) : BT := (.node (o_0 P) (.node (o_1 P) (.node (v3_6 P) (.node (o_7 P) (.node (o_15 P) (.node (o_31 P) (.node (fz d63) .nil .nil) .nil) (.node (o_47 P) (.node (o_79 P) .nil .nil) .nil)) (.node (o_23 P) (.node (o_39 P) (.node (o_71 P) .nil .nil) .nil) (.node (o_55 P) .nil .nil))) (.node (o_11 P) (.node (o_19 P) (.node (o_35 P) (.node (fz d67) .nil .nil) .nil) (.node (o_51 P) (.node (v83_0 P) .nil .nil) .nil)) (.node (o_27 P) (.node (o_43 P) (.node (o_75 P) .nil .nil) .nil) (.node (o_59 P) .nil .nil)))) (.node (o_5 P) (.node (o_9 P) (.node (o_17 P) (.node (o_33 P) (.node (o_65 P) .nil .nil) .nil) (.node (o_49 P) (.node (o_81 P) .nil .nil) .nil)) (.node (o_25 P) (.node (o_41 P) (.node (fz d73) .nil .nil) .nil) (.node (o_57 P) .nil .nil))) (.node (o_13 P) (.node (o_21 P) (.node (o_37 P) (.node (o_69 P) .nil .nil) .nil) (.node (o_53 P) .nil .nil)) (.node (o_29 P) (.node (o_45 P) (.node (fz d77) .nil .nil) .nil) (.node (o_61 P) .nil .nil))))) (.node (o_2 P) (.node (o_4 P) (.node (o_8 P) (.node (o_16 P) (.node (o_32 P) (.node (o_64 P) .nil .nil) .nil) (.node (o_48 P) (.node (o_80 P) .nil .nil) .nil)) (.node (o_24 P) (.node (o_40 P) (.node (fz d72) .nil .nil) .nil) (.node (o_56 P) .nil .nil))) (.node (v12_2 P) (.node (o_20 P) (.node (o_36 P) (.node (fz d68) .nil .nil) .nil) (.node (o_52 P) .nil .nil)) (.node (o_28 P) (.node (o_44 P) (.node (o_76 P) .nil .nil) .nil) (.node (o_60 P) .nil .nil)))) (.node (o_6 P) (.node (o_10 P) (.node (o_18 P) (.node (o_34 P) (.node (o_66 P) .nil .nil) .nil) (.node (o_50 P) (.node (nS P) .nil .nil) .nil)) (.node (o_26 P) (.node (o_42 P) (.node (o_74 P) .nil .nil) .nil) (.node (fz d58) .nil .nil))) (.node (o_14 P) (.node (o_22 P) (.node (o_38 P) (.node (o_70 P) .nil .nil) .nil) (.node (o_54 P) .nil .nil)) (.node (o_30 P) (.node (o_46 P) (.node (fz d78) .nil .nil) .nil) (.node (o_62 P) .nil .nil))))))
@[irreducible] noncomputable def S_9_0a (P : Params) (d58 d63 d67 d68 d72 d73 d77 d78 : SD) (os : OsState) : SharedT := ⟨T_9_0a P d58 d63 d67 d68 d72 d73 d77 d78, 84, {}, #[.finished], {}, 400, os⟩
noncomputable def T_9_0b (P : Params) (d58 d63 d67 d68 d72 d73 d77 d78 d82 : SD) : BT := (.node (o_0 P) (.node (o_1 P) (.node (v3_6 P) (.node (o_7 P) (.node (o_15 P) (.node (o_31 P) (.node (fz d63) .nil .nil) .nil) (.node (o_47 P) (.node (o_79 P) .nil .nil) .nil)) (.node (o_23 P) (.node (o_39 P) (.node (o_71 P) .nil .nil) .nil) (.node (o_55 P) .nil .nil))) (.node (o_11 P) (.node (o_19 P) (.node (o_35 P) (.node (fz d67) .nil .nil) .nil) (.node (o_51 P) (.node (o_83 P) .nil .nil) .nil)) (.node (o_27 P) (.node (o_43 P) (.node (o_75 P) .nil .nil) .nil) (.node (o_59 P) .nil .nil)))) (.node (o_5 P) (.node (o_9 P) (.node (o_17 P) (.node (o_33 P) (.node (o_65 P) .nil .nil) .nil) (.node (o_49 P) (.node (o_81 P) .nil .nil) .nil)) (.node (o_25 P) (.node (o_41 P) (.node (fz d73) .nil .nil) .nil) (.node (o_57 P) .nil .nil))) (.node (o_13 P) (.node (o_21 P) (.node (o_37 P) (.node (o_69 P) .nil .nil) .nil) (.node (o_53 P) (.node (o_85 P) .nil .nil) .nil)) (.node (o_29 P) (.node (o_45 P) (.node (fz d77) .nil .nil) .nil) (.node (o_61 P) .nil .nil))))) (.node (o_2 P) (.node (o_4 P) (.node (o_8 P) (.node (o_16 P) (.node (o_32 P) (.node (o_64 P) .nil .nil) .nil) (.node (o_48 P) (.node (o_80 P) .nil .nil) .nil)) (.node (o_24 P) (.node (o_40 P) (.node (fz d72) .nil .nil) .nil) (.node (o_56 P) .nil .nil))) (.node (v12_2 P) (.node (o_20 P) (.node (o_36 P) (.node (fz d68) .nil .nil) .nil) (.node (o_52 P) (.node (o_84 P) .nil .nil) .nil)) (.node (o_28 P) (.node (o_44 P) (.node (o_76 P) .nil .nil) .nil) (.node (o_60 P) .nil .nil)))) (.node (o_6 P) (.node (o_10 P) (.node (o_18 P) (.node (o_34 P) (.node (o_66 P) .nil .nil) .nil) (.node (o_50 P) (.node (fz d82) .nil .nil) .nil)) (.node (o_26 P) (.node (o_42 P) (.node (o_74 P) .nil .nil) .nil) (.node (fz d58) .nil .nil))) (.node (o_14 P) (.node (o_22 P) (.node (o_38 P) (.node (o_70 P) .nil .nil) .nil) (.node (o_54 P) .nil .nil)) (.node (o_30 P) (.node (o_46 P) (.node (fz d78) .nil .nil) .nil) (.node (o_62 P) .nil .nil))))))
@[irreducible] noncomputable def S_9_0b (P : Params) (d58 d63 d67 d68 d72 d73 d77 d78 d82 : SD) (os : OsState) : SharedT := ⟨T_9_0b P d58 d63 d67 d68 d72 d73 d77 d78 d82, 86, {}, #[.finished], {}, 402, os⟩
noncomputable def T_9_1a (P : Params) (d58 d63 d67 d68 d72 d73 d77 d78 d82 : SD) : BT := (.node (o_0 P) (.node (o_1 P) (.node (v3_6 P) (.node (o_7 P) (.node (o_15 P) (.node (o_31 P) (.node (fz d63) .nil .nil) .nil) (.node (o_47 P) (.node (o_79 P) .nil .nil) .nil)) (.node (o_23 P) (.node (o_39 P) (.node (o_71 P) .nil .nil) .nil) (.node (o_55 P) .nil .nil))) (.node (o_11 P) (.node (o_19 P) (.node (o_35 P) (.node (fz d67) .nil .nil) .nil) (.node (o_51 P) (.node (o_83 P) .nil .nil) .nil)) (.node (o_27 P) (.node (o_43 P) (.node (o_75 P) .nil .nil) .nil) (.node (o_59 P) .nil .nil)))) (.node (o_5 P) (.node (o_9 P) (.node (o_17 P) (.node (o_33 P) (.node (o_65 P) .nil .nil) .nil) (.node (o_49 P) (.node (o_81 P) .nil .nil) .nil)) (.node (o_25 P) (.node (o_41 P) (.node (fz d73) .nil .nil) .nil) (.node (o_57 P) .nil .nil))) (.node (o_13 P) (.node (o_21 P) (.node (o_37 P) (.node (o_69 P) .nil .nil) .nil) (.node (o_53 P) (.node (o_85 P) .nil .nil) .nil)) (.node (o_29 P) (.node (o_45 P) (.node (fz d77) .nil .nil) .nil) (.node (o_61 P) .nil .nil))))) (.node (o_2 P) (.node (o_4 P) (.node (o_8 P) (.node (o_16 P) (.node (o_32 P) (.node (o_64 P) .nil .nil) .nil) (.node (o_48 P) (.node (o_80 P) .nil .nil) .nil)) (.node (o_24 P) (.node (o_40 P) (.node (fz d72) .nil .nil) .nil) (.node (o_56 P) .nil .nil))) (.node (v12_2 P) (.node (o_20 P) (.node (o_36 P) (.node (fz d68) .nil .nil) .nil) (.node (o_52 P) (.node (o_84 P) .nil .nil) .nil)) (.node (o_28 P) (.node (o_44 P) (.node (o_76 P) .nil .nil) .nil) (.node (o_60 P) .nil .nil)))) (.node (o_6 P) (.node (o_10 P) (.node (o_18 P) (.node (o_34 P) (.node (o_66 P) .nil .nil) .nil) (.node (o_50 P) (.node (fz d82) .nil .nil) .nil)) (.node (o_26 P) (.node (o_42 P) (.node (o_74 P) .nil .nil) .nil) (.node (fz d58) .nil .nil))) (.node (o_14 P) (.node (o_22 P) (.node (o_38 P) (.node (o_70 P) .nil .nil) .nil) (.node (o_54 P) .nil .nil)) (.node (o_30 P) (.node (o_46 P) (.node (fz d78) .nil .nil) .nil) (.node (o_62 P) .nil .nil))))))
@[irreducible] noncomputable def S_9_1a (P : Params) (d58 d63 d67 d68 d72 d73 d77 d78 d82 : SD) (os : OsState) : SharedT := ⟨T_9_1a P d58 d63 d67 d68 d72 d73 d77 d78 d82, 86, {}, #[.finished], {}, 402, os⟩
noncomputable def T_9_1b (P : Params) (d58 d63 d67 d68 d72 d73 d77 d78 d82 d86 : SD) : BT := (.node (o_0 P) (.node (o_1 P) (.node (v3_6 P) (.node (o_7 P) (.node (o_15 P) (.node (o_31 P) (.node (fz d63) .nil .nil) .nil) (.node (o_47 P) (.node (o_79 P) .nil .nil) .nil)) (.node (o_23 P) (.node (o_39 P) (.node (o_71 P) .nil .nil) .nil) (.node (o_55 P) .nil .nil))) (.node (o_11 P) (.node (o_19 P) (.node (o_35 P) (.node (fz d67) .nil .nil) .nil) (.node (o_51 P) (.node (o_83 P) .nil .nil) .nil)) (.node (o_27 P) (.node (o_43 P) (.node (o_75 P) .nil .nil) .nil) (.node (o_59 P) .nil .nil)))) (.node (o_5 P) (.node (o_9 P) (.node (o_17 P) (.node (o_33 P) (.node (o_65 P) .nil .nil) .nil) (.node (o_49 P) (.node (o_81 P) .nil .nil) .nil)) (.node (o_25 P) (.node (o_41 P) (.node (fz d73) .nil .nil) .nil) (.node (o_57 P) .nil .nil))) (.node (o_13 P) (.node (o_21 P) (.node (o_37 P) (.node (o_69 P) .nil .nil) .nil) (.node (o_53 P) (.node (o_85 P) .nil .nil) .nil)) (.node (o_29 P) (.node (o_45 P) (.node (fz d77) .nil .nil) .nil) (.node (o_61 P) .nil .nil))))) (.node (o_2 P) (.node (o_4 P) (.node (o_8 P) (.node (o_16 P) (.node (o_32 P) (.node (o_64 P) .nil .nil) .nil) (.node (o_48 P) (.node (o_80 P) .nil .nil) .nil)) (.node (o_24 P) (.node (o_40 P) (.node (fz d72) .nil .nil) .nil) (.node (o_56 P) .nil .nil))) (.node (v12_2 P) (.node (o_20 P) (.node (o_36 P) (.node (fz d68) .nil .nil) .nil) (.node (o_52 P) (.node (o_84 P) .nil .nil) .nil)) (.node (o_28 P) (.node (o_44 P) (.node (o_76 P) .nil .nil) .nil) (.node (o_60 P) .nil .nil)))) (.node (o_6 P) (.node (o_10 P) (.node (o_18 P) (.node (o_34 P) (.node (o_66 P) .nil .nil) .nil) (.node (o_50 P) (.node (fz d82) .nil .nil) .nil)) (.node (o_26 P) (.node (o_42 P) (.node (o_74 P) .nil .nil) .nil) (.node (fz d58) .nil .nil))) (.node (o_14 P) (.node (o_22 P) (.node (o_38 P) (.node (o_70 P) .nil .nil) .nil) (.node (o_54 P) (.node (fz d86) .nil .nil) .nil)) (.node (o_30 P) (.node (o_46 P) (.node (fz d78) .nil .nil) .nil) (.node (o_62 P) .nil .nil))))))
@[irreducible] noncomputable def S_9_1b (P : Params) (d58 d63 d67 d68 d72 d73 d77 d78 d82 d86 : SD) (os : OsState) : SharedT := ⟨T_9_1b P d58 d63 d67 d68 d72 d73 d77 d78 d82 d86, 87, {}, #[.finished], {}, 402, os⟩
noncomputable def g_18 (P : Params) : DictEntry := ⟨PyData.keyHash P (Str.ofString "TOML_WS_AND_NEWLINE"), (.str (Str.ofString "TOML_WS_AND_NEWLINE") 402), (.ref 86)⟩
noncomputable def v3_7 (P : Params) : Obj := ⟨(.type "dict"), .none, (.dict [g_9 P, g_1 P, g_2 P, g_3 P, g_4 P, g_5 P, g_6 P, g_7 P, g_8 P, g_10 P, g_11 P, g_12 P, g_13 P, g_14 P, g_15 P, g_16 P, g_17 P, g_18 P].toArray 18), #[]⟩
noncomputable def T_9 (P : Params) (d58 d63 d67 d68 d72 d73 d77 d78 d82 d86 : SD) : BT := (.node (o_0 P) (.node (o_1 P) (.node (v3_7 P) (.node (o_7 P) (.node (o_15 P) (.node (o_31 P) (.node (fz d63) .nil .nil) .nil) (.node (o_47 P) (.node (o_79 P) .nil .nil) .nil)) (.node (o_23 P) (.node (o_39 P) (.node (o_71 P) .nil .nil) .nil) (.node (o_55 P) .nil .nil))) (.node (o_11 P) (.node (o_19 P) (.node (o_35 P) (.node (fz d67) .nil .nil) .nil) (.node (o_51 P) (.node (o_83 P) .nil .nil) .nil)) (.node (o_27 P) (.node (o_43 P) (.node (o_75 P) .nil .nil) .nil) (.node (o_59 P) .nil .nil)))) (.node (o_5 P) (.node (o_9 P) (.node (o_17 P) (.node (o_33 P) (.node (o_65 P) .nil .nil) .nil) (.node (o_49 P) (.node (o_81 P) .nil .nil) .nil)) (.node (o_25 P) (.node (o_41 P) (.node (fz d73) .nil .nil) .nil) (.node (o_57 P) .nil .nil))) (.node (o_13 P) (.node (o_21 P) (.node (o_37 P) (.node (o_69 P) .nil .nil) .nil) (.node (o_53 P) (.node (o_85 P) .nil .nil) .nil)) (.node (o_29 P) (.node (o_45 P) (.node (fz d77) .nil .nil) .nil) (.node (o_61 P) .nil .nil))))) (.node (o_2 P) (.node (o_4 P) (.node (o_8 P) (.node (o_16 P) (.node (o_32 P) (.node (o_64 P) .nil .nil) .nil) (.node (o_48 P) (.node (o_80 P) .nil .nil) .nil)) (.node (o_24 P) (.node (o_40 P) (.node (fz d72) .nil .nil) .nil) (.node (o_56 P) .nil .nil))) (.node (v12_2 P) (.node (o_20 P) (.node (o_36 P) (.node (fz d68) .nil .nil) .nil) (.node (o_52 P) (.node (o_84 P) .nil .nil) .nil)) (.node (o_28 P) (.node (o_44 P) (.node (o_76 P) .nil .nil) .nil) (.node (o_60 P) .nil .nil)))) (.node (o_6 P) (.node (o_10 P) (.node (o_18 P) (.node (o_34 P) (.node (o_66 P) .nil .nil) .nil) (.node (o_50 P) (.node (fz d82) .nil .nil) .nil)) (.node (o_26 P) (.node (o_42 P) (.node (o_74 P) .nil .nil) .nil) (.node (fz d58) .nil .nil))) (.node (o_14 P) (.node (o_22 P) (.node (o_38 P) (.node (o_70 P) .nil .nil) .nil) (.node (o_54 P) (.node (fz d86) .nil .nil) .nil)) (.node (o_30 P) (.node (o_46 P) (.node (fz d78) .nil .nil) .nil) (.node (o_62 P) .nil .nil))))))
@[irreducible] noncomputable def S_9 (P : Params) (d58 d63 d67 d68 d72 d73 d77 d78 d82 d86 : SD) (os : OsState) : SharedT := ⟨T_9 P d58 d63 d67 d68 d72 d73 d77 d78 d82 d86, 87, {}, #[.finished], {}, 403, os⟩
noncomputable def g_19 (P : Params) : DictEntry := ⟨PyData.keyHash P (Str.ofString "ascii_lowercase"), (.str (Str.ofString "ascii_lowercase") 404), (.str (Str.ofString "abcdefghijklmnopqrstuvwxyz") 403)⟩
noncomputable def g_20 (P : Params) : DictEntry := ⟨PyData.keyHash P (Str.ofString "ascii_uppercase"), (.str (Str.ofString "ascii_uppercase") 406), (.str (Str.ofString "ABCDEFGHIJKLMNOPQRSTUVWXYZ") 405)⟩
noncomputable def g_21 (P : Params) : DictEntry := ⟨PyData.keyHash P (Str.ofString "ascii_letters"), (.str (Str.ofString "ascii_letters") 408), (.str (Str.ofString "abcdefghijklmnopqrstuvwxyzABCDEFGHIJKLMNOPQRSTUVWXYZ") 407)⟩
noncomputable def g_22 (P : Params) : DictEntry := ⟨PyData.keyHash P (Str.ofString "digits"), (.str (Str.ofString "digits") 410), (.str (Str.ofString "0123456789") 409)⟩
noncomputable def g_23 (P : Params) : DictEntry := ⟨PyData.keyHash P (Str.ofString "hexdigits"), (.str (Str.ofString "hexdigits") 415), (.str (Str.ofString "0123456789abcdefABCDEF") 414)⟩
noncomputable def v3_8 (P : Params) : Obj := ⟨(.type "dict"), .none, (.dict [g_9 P, g_1 P, g_2 P, g_3 P, g_4 P, g_5 P, g_6 P, g_7 P, g_8 P, g_10 P, g_11 P, g_12 P, g_13 P, g_14 P, g_15 P, g_16 P, g_17 P, g_18 P, g_19 P, g_20 P, g_21 P, g_22 P, g_23 P].toArray 23), #[]⟩
noncomputable def T_14 (P : Params) (d58 d63 d67 d68 d72 d73 d77 d78 d82 d86 : SD) : BT := (.node (o_0 P) (.node (o_1 P) (.node (v3_8 P) (.node (o_7 P) (.node (o_15 P) (.node (o_31 P) (.node (fz d63) .nil .nil) .nil) (.node (o_47 P) (.node (o_79 P) .nil .nil) .nil)) (.node (o_23 P) (.node (o_39 P) (.node (o_71 P) .nil .nil) .nil) (.node (o_55 P) .nil .nil))) (.node (o_11 P) (.node (o_19 P) (.node (o_35 P) (.node (fz d67) .nil .nil) .nil) (.node (o_51 P) (.node (o_83 P) .nil .nil) .nil)) (.node (o_27 P) (.node (o_43 P) (.node (o_75 P) .nil .nil) .nil) (.node (o_59 P) .nil .nil)))) (.node (o_5 P) (.node (o_9 P) (.node (o_17 P) (.node (o_33 P) (.node (o_65 P) .nil .nil) .nil) (.node (o_49 P) (.node (o_81 P) .nil .nil) .nil)) (.node (o_25 P) (.node (o_41 P) (.node (fz d73) .nil .nil) .nil) (.node (o_57 P) .nil .nil))) (.node (o_13 P) (.node (o_21 P) (.node (o_37 P) (.node (o_69 P) .nil .nil) .nil) (.node (o_53 P) (.node (o_85 P) .nil .nil) .nil)) (.node (o_29 P) (.node (o_45 P) (.node (fz d77) .nil .nil) .nil) (.node (o_61 P) .nil .nil))))) (.node (o_2 P) (.node (o_4 P) (.node (o_8 P) (.node (o_16 P) (.node (o_32 P) (.node (o_64 P) .nil .nil) .nil) (.node (o_48 P) (.node (o_80 P) .nil .nil) .nil)) (.node (o_24 P) (.node (o_40 P) (.node (fz d72) .nil .nil) .nil) (.node (o_56 P) .nil .nil))) (.node (v12_2 P) (.node (o_20 P) (.node (o_36 P) (.node (fz d68) .nil .nil) .nil) (.node (o_52 P) (.node (o_84 P) .nil .nil) .nil)) (.node (o_28 P) (.node (o_44 P) (.node (o_76 P) .nil .nil) .nil) (.node (o_60 P) .nil .nil)))) (.node (o_6 P) (.node (o_10 P) (.node (o_18 P) (.node (o_34 P) (.node (o_66 P) .nil .nil) .nil) (.node (o_50 P) (.node (fz d82) .nil .nil) .nil)) (.node (o_26 P) (.node (o_42 P) (.node (o_74 P) .nil .nil) .nil) (.node (fz d58) .nil .nil))) (.node (o_14 P) (.node (o_22 P) (.node (o_38 P) (.node (o_70 P) .nil .nil) .nil) (.node (o_54 P) (.node (fz d86) .nil .nil) .nil)) (.node (o_30 P) (.node (o_46 P) (.node (fz d78) .nil .nil) .nil) (.node (o_62 P) .nil .nil))))))
@[irreducible] noncomputable def S_14 (P : Params) (d58 d63 d67 d68 d72 d73 d77 d78 d82 d86 : SD) (os : OsState) : SharedT := ⟨T_14 P d58 d63 d67 d68 d72 d73 d77 d78 d82 d86, 87, {}, #[.finished], {}, 416, os⟩
noncomputable def v88_0 (P : Params) : Obj := ⟨(.type "str_ascii_iterator"), .none, (.fields #[(.str (Str.ofString "abcdefghijklmnopqrstuvwxyzABCDEFGHIJKLMNOPQRSTUVWXYZ0123456789-_") 418), (.int 0 0)]), #[]⟩
noncomputable def T_15_0a (P : Params) (d58 d63 d67 d68 d72 d73 d77 d78 d82 d86 : SD) : BT := (.node (o_0 P) (.node (o_1 P) (.node (v3_8 P) (.node (o_7 P) (.node (o_15 P) (.node (o_31 P) (.node (fz d63) .nil .nil) .nil) (.node (o_47 P) (.node (o_79 P) .nil .nil) .nil)) (.node (o_23 P) (.node (o_39 P) (.node (o_71 P) .nil .nil) .nil) (.node (o_55 P) (.node (nS P) .nil .nil) .nil))) (.node (o_11 P) (.node (o_19 P) (.node (o_35 P) (.node (fz d67) .nil .nil) .nil) (.node (o_51 P) (.node (o_83 P) .nil .nil) .nil)) (.node (o_27 P) (.node (o_43 P) (.node (o_75 P) .nil .nil) .nil) (.node (o_59 P) .nil .nil)))) (.node (o_5 P) (.node (o_9 P) (.node (o_17 P) (.node (o_33 P) (.node (o_65 P) .nil .nil) .nil) (.node (o_49 P) (.node (o_81 P) .nil .nil) .nil)) (.node (o_25 P) (.node (o_41 P) (.node (fz d73) .nil .nil) .nil) (.node (o_57 P) .nil .nil))) (.node (o_13 P) (.node (o_21 P) (.node (o_37 P) (.node (o_69 P) .nil .nil) .nil) (.node (o_53 P) (.node (o_85 P) .nil .nil) .nil)) (.node (o_29 P) (.node (o_45 P) (.node (fz d77) .nil .nil) .nil) (.node (o_61 P) .nil .nil))))) (.node (o_2 P) (.node (o_4 P) (.node (o_8 P) (.node (o_16 P) (.node (o_32 P) (.node (o_64 P) .nil .nil) .nil) (.node (o_48 P) (.node (o_80 P) .nil .nil) .nil)) (.node (o_24 P) (.node (o_40 P) (.node (fz d72) .nil .nil) .nil) (.node (o_56 P) (.node (v88_0 P) .nil .nil) .nil))) (.node (v12_2 P) (.node (o_20 P) (.node (o_36 P) (.node (fz d68) .nil .nil) .nil) (.node (o_52 P) (.node (o_84 P) .nil .nil) .nil)) (.node (o_28 P) (.node (o_44 P) (.node (o_76 P) .nil .nil) .nil) (.node (o_60 P) .nil .nil)))) (.node (o_6 P) (.node (o_10 P) (.node (o_18 P) (.node (o_34 P) (.node (o_66 P) .nil .nil) .nil) (.node (o_50 P) (.node (fz d82) .nil .nil) .nil)) (.node (o_26 P) (.node (o_42 P) (.node (o_74 P) .nil .nil) .nil) (.node (fz d58) .nil .nil))) (.node (o_14 P) (.node (o_22 P) (.node (o_38 P) (.node (o_70 P) .nil .nil) .nil) (.node (o_54 P) (.node (fz d86) .nil .nil) .nil)) (.node (o_30 P) (.node (o_46 P) (.node (fz d78) .nil .nil) .nil) (.node (o_62 P) .nil .nil))))))
@[irreducible] noncomputable def S_15_0a (P : Params) (d58 d63 d67 d68 d72 d73 d77 d78 d82 d86 : SD) (os : OsState) : SharedT := ⟨T_15_0a P d58 d63 d67 d68 d72 d73 d77 d78 d82 d86, 89, {}, #[.finished], {}, 419, os⟩
noncomputable def T_15_0b (P : Params) (d58 d63 d67 d68 d72 d73 d77 d78 d82 d86 d87 : SD) : BT := (.node (o_0 P) (.node (o_1 P) (.node (v3_8 P) (.node (o_7 P) (.node (o_15 P) (.node (o_31 P) (.node (fz d63) .nil .nil) .nil) (.node (o_47 P) (.node (o_79 P) .nil .nil) .nil)) (.node (o_23 P) (.node (o_39 P) (.node (o_71 P) .nil .nil) .nil) (.node (o_55 P) (.node (fz d87) .nil .nil) .nil))) (.node (o_11 P) (.node (o_19 P) (.node (o_35 P) (.node (fz d67) .nil .nil) .nil) (.node (o_51 P) (.node (o_83 P) .nil .nil) .nil)) (.node (o_27 P) (.node (o_43 P) (.node (o_75 P) .nil .nil) .nil) (.node (o_59 P) .nil .nil)))) (.node (o_5 P) (.node (o_9 P) (.node (o_17 P) (.node (o_33 P) (.node (o_65 P) .nil .nil) .nil) (.node (o_49 P) (.node (o_81 P) .nil .nil) .nil)) (.node (o_25 P) (.node (o_41 P) (.node (fz d73) .nil .nil) .nil) (.node (o_57 P) (.node (o_89 P) .nil .nil) .nil))) (.node (o_13 P) (.node (o_21 P) (.node (o_37 P) (.node (o_69 P) .nil .nil) .nil) (.node (o_53 P) (.node (o_85 P) .nil .nil) .nil)) (.node (o_29 P) (.node (o_45 P) (.node (fz d77) .nil .nil) .nil) (.node (o_61 P) .nil .nil))))) (.node (o_2 P) (.node (o_4 P) (.node (o_8 P) (.node (o_16 P) (.node (o_32 P) (.node (o_64 P) .nil .nil) .nil) (.node (o_48 P) (.node (o_80 P) .nil .nil) .nil)) (.node (o_24 P) (.node (o_40 P) (.node (fz d72) .nil .nil) .nil) (.node (o_56 P) (.node (o_88 P) .nil .nil) .nil))) (.node (v12_2 P) (.node (o_20 P) (.node (o_36 P) (.node (fz d68) .nil .nil) .nil) (.node (o_52 P) (.node (o_84 P) .nil .nil) .nil)) (.node (o_28 P) (.node (o_44 P) (.node (o_76 P) .nil .nil) .nil) (.node (o_60 P) .nil .nil)))) (.node (o_6 P) (.node (o_10 P) (.node (o_18 P) (.node (o_34 P) (.node (o_66 P) .nil .nil) .nil) (.node (o_50 P) (.node (fz d82) .nil .nil) .nil)) (.node (o_26 P) (.node (o_42 P) (.node (o_74 P) .nil .nil) .nil) (.node (fz d58) (.node (o_90 P) .nil .nil) .nil))) (.node (o_14 P) (.node (o_22 P) (.node (o_38 P) (.node (o_70 P) .nil .nil) .nil) (.node (o_54 P) (.node (fz d86) .nil .nil) .nil)) (.node (o_30 P) (.node (o_46 P) (.node (fz d78) .nil .nil) .nil) (.node (o_62 P) .nil .nil))))))
@[irreducible] noncomputable def S_15_0b (P : Params) (d58 d63 d67 d68 d72 d73 d77 d78 d82 d86 d87 : SD) (os : OsState) : SharedT := ⟨T_15_0b P d58 d63 d67 d68 d72 d73 d77 d78 d82 d86 d87, 91, {}, #[.finished], {}, 547, os⟩
noncomputable def g_24 (P : Params) : DictEntry := ⟨PyData.keyHash P (Str.ofString "BARE_KEY_CHARS"), (.str (Str.ofString "BARE_KEY_CHARS") 547), (.ref 87)⟩
noncomputable def v3_9 (P : Params) : Obj := ⟨(.type "dict"), .none, (.dict [g_9 P, g_1 P, g_2 P, g_3 P, g_4 P, g_5 P, g_6 P, g_7 P, g_8 P, g_10 P, g_11 P, g_12 P, g_13 P, g_14 P, g_15 P, g_16 P, g_17 P, g_18 P, g_19 P, g_20 P, g_21 P, g_22 P, g_23 P, g_24 P].toArray 24), #[]⟩
noncomputable def T_15 (P : Params) (d58 d63 d67 d68 d72 d73 d77 d78 d82 d86 d87 : SD) : BT := (.node (o_0 P) (.node (o_1 P) (.node (v3_9 P) (.node (o_7 P) (.node (o_15 P) (.node (o_31 P) (.node (fz d63) .nil .nil) .nil) (.node (o_47 P) (.node (o_79 P) .nil .nil) .nil)) (.node (o_23 P) (.node (o_39 P) (.node (o_71 P) .nil .nil) .nil) (.node (o_55 P) (.node (fz d87) .nil .nil) .nil))) (.node (o_11 P) (.node (o_19 P) (.node (o_35 P) (.node (fz d67) .nil .nil) .nil) (.node (o_51 P) (.node (o_83 P) .nil .nil) .nil)) (.node (o_27 P) (.node (o_43 P) (.node (o_75 P) .nil .nil) .nil) (.node (o_59 P) .nil .nil)))) (.node (o_5 P) (.node (o_9 P) (.node (o_17 P) (.node (o_33 P) (.node (o_65 P) .nil .nil) .nil) (.node (o_49 P) (.node (o_81 P) .nil .nil) .nil)) (.node (o_25 P) (.node (o_41 P) (.node (fz d73) .nil .nil) .nil) (.node (o_57 P) (.node (o_89 P) .nil .nil) .nil))) (.node (o_13 P) (.node (o_21 P) (.node (o_37 P) (.node (o_69 P) .nil .nil) .nil) (.node (o_53 P) (.node (o_85 P) .nil .nil) .nil)) (.node (o_29 P) (.node (o_45 P) (.node (fz d77) .nil .nil) .nil) (.node (o_61 P) .nil .nil))))) (.node (o_2 P) (.node (o_4 P) (.node (o_8 P) (.node (o_16 P) (.node (o_32 P) (.node (o_64 P) .nil .nil) .nil) (.node (o_48 P) (.node (o_80 P) .nil .nil) .nil)) (.node (o_24 P) (.node (o_40 P) (.node (fz d72) .nil .nil) .nil) (.node (o_56 P) (.node (o_88 P) .nil .nil) .nil))) (.node (v12_2 P) (.node (o_20 P) (.node (o_36 P) (.node (fz d68) .nil .nil) .nil) (.node (o_52 P) (.node (o_84 P) .nil .nil) .nil)) (.node (o_28 P) (.node (o_44 P) (.node (o_76 P) .nil .nil) .nil) (.node (o_60 P) .nil .nil)))) (.node (o_6 P) (.node (o_10 P) (.node (o_18 P) (.node (o_34 P) (.node (o_66 P) .nil .nil) .nil) (.node (o_50 P) (.node (fz d82) .nil .nil) .nil)) (.node (o_26 P) (.node (o_42 P) (.node (o_74 P) .nil .nil) .nil) (.node (fz d58) (.node (o_90 P) .nil .nil) .nil))) (.node (o_14 P) (.node (o_22 P) (.node (o_38 P) (.node (o_70 P) .nil .nil) .nil) (.node (o_54 P) (.node (fz d86) .nil .nil) .nil)) (.node (o_30 P) (.node (o_46 P) (.node (fz d78) .nil .nil) .nil) (.node (o_62 P) .nil .nil))))))
@[irreducible] noncomputable def S_15 (P : Params) (d58 d63 d67 d68 d72 d73 d77 d78 d82 d86 d87 : SD) (os : OsState) : SharedT := ⟨T_15 P d58 d63 d67 d68 d72 d73 d77 d78 d82 d86 d87, 91, {}, #[.finished], {}, 548, os⟩
noncomputable def v92_0 (P : Params) : Obj := ⟨(.type "str_ascii_iterator"), .none, (.fields #[(.str (Str.ofString "0123456789abcdefABCDEF") 414), (.int 0 0)]), #[]⟩
noncomputable def T_16_0a (P : Params) (d58 d63 d67 d68 d72 d73 d77 d78 d82 d86 d87 : SD) : BT := (.node (o_0 P) (.node (o_1 P) (.node (v3_9 P) (.node (o_7 P) (.node (o_15 P) (.node (o_31 P) (.node (fz d63) .nil .nil) .nil) (.node (o_47 P) (.node (o_79 P) .nil .nil) .nil)) (.node (o_23 P) (.node (o_39 P) (.node (o_71 P) .nil .nil) .nil) (.node (o_55 P) (.node (fz d87) .nil .nil) .nil))) (.node (o_11 P) (.node (o_19 P) (.node (o_35 P) (.node (fz d67) .nil .nil) .nil) (.node (o_51 P) (.node (o_83 P) .nil .nil) .nil)) (.node (o_27 P) (.node (o_43 P) (.node (o_75 P) .nil .nil) .nil) (.node (o_59 P) (.node (nS P) .nil .nil) .nil)))) (.node (o_5 P) (.node (o_9 P) (.node (o_17 P) (.node (o_33 P) (.node (o_65 P) .nil .nil) .nil) (.node (o_49 P) (.node (o_81 P) .nil .nil) .nil)) (.node (o_25 P) (.node (o_41 P) (.node (fz d73) .nil .nil) .nil) (.node (o_57 P) (.node (o_89 P) .nil .nil) .nil))) (.node (o_13 P) (.node (o_21 P) (.node (o_37 P) (.node (o_69 P) .nil .nil) .nil) (.node (o_53 P) (.node (o_85 P) .nil .nil) .nil)) (.node (o_29 P) (.node (o_45 P) (.node (fz d77) .nil .nil) .nil) (.node (o_61 P) .nil .nil))))) (.node (o_2 P) (.node (o_4 P) (.node (o_8 P) (.node (o_16 P) (.node (o_32 P) (.node (o_64 P) .nil .nil) .nil) (.node (o_48 P) (.node (o_80 P) .nil .nil) .nil)) (.node (o_24 P) (.node (o_40 P) (.node (fz d72) .nil .nil) .nil) (.node (o_56 P) (.node (o_88 P) .nil .nil) .nil))) (.node (v12_2 P) (.node (o_20 P) (.node (o_36 P) (.node (fz d68) .nil .nil) .nil) (.node (o_52 P) (.node (o_84 P) .nil .nil) .nil)) (.node (o_28 P) (.node (o_44 P) (.node (o_76 P) .nil .nil) .nil) (.node (o_60 P) (.node (v92_0 P) .nil .nil) .nil)))) (.node (o_6 P) (.node (o_10 P) (.node (o_18 P) (.node (o_34 P) (.node (o_66 P) .nil .nil) .nil) (.node (o_50 P) (.node (fz d82) .nil .nil) .nil)) (.node (o_26 P) (.node (o_42 P) (.node (o_74 P) .nil .nil) .nil) (.node (fz d58) (.node (o_90 P) .nil .nil) .nil))) (.node (o_14 P) (.node (o_22 P) (.node (o_38 P) (.node (o_70 P) .nil .nil) .nil) (.node (o_54 P) (.node (fz d86) .nil .nil) .nil)) (.node (o_30 P) (.node (o_46 P) (.node (fz d78) .nil .nil) .nil) (.node (o_62 P) .nil .nil))))))
@[irreducible] noncomputable def S_16_0a (P : Params) (d58 d63 d67 d68 d72 d73 d77 d78 d82 d86 d87 : SD) (os : OsState) : SharedT := ⟨T_16_0a P d58 d63 d67 d68 d72 d73 d77 d78 d82 d86 d87, 93, {}, #[.finished], {}, 548, os⟩
noncomputable def T_16_0b (P : Params) (d58 d63 d67 d68 d72 d73 d77 d78 d82 d86 d87 d91 : SD) : BT := (.node (o_0 P) (.node (o_1 P) (.node (v3_9 P) (.node (o_7 P) (.node (o_15 P) (.node (o_31 P) (.node (fz d63) .nil .nil) .nil) (.node (o_47 P) (.node (o_79 P) .nil .nil) .nil)) (.node (o_23 P) (.node (o_39 P) (.node (o_71 P) .nil .nil) .nil) (.node (o_55 P) (.node (fz d87) .nil .nil) .nil))) (.node (o_11 P) (.node (o_19 P) (.node (o_35 P) (.node (fz d67) .nil .nil) .nil) (.node (o_51 P) (.node (o_83 P) .nil .nil) .nil)) (.node (o_27 P) (.node (o_43 P) (.node (o_75 P) .nil .nil) .nil) (.node (o_59 P) (.node (fz d91) .nil .nil) .nil)))) (.node (o_5 P) (.node (o_9 P) (.node (o_17 P) (.node (o_33 P) (.node (o_65 P) .nil .nil) .nil) (.node (o_49 P) (.node (o_81 P) .nil .nil) .nil)) (.node (o_25 P) (.node (o_41 P) (.node (fz d73) .nil .nil) .nil) (.node (o_57 P) (.node (o_89 P) .nil .nil) .nil))) (.node (o_13 P) (.node (o_21 P) (.node (o_37 P) (.node (o_69 P) .nil .nil) .nil) (.node (o_53 P) (.node (o_85 P) .nil .nil) .nil)) (.node (o_29 P) (.node (o_45 P) (.node (fz d77) .nil .nil) .nil) (.node (o_61 P) (.node (o_93 P) .nil .nil) .nil))))) (.node (o_2 P) (.node (o_4 P) (.node (o_8 P) (.node (o_16 P) (.node (o_32 P) (.node (o_64 P) .nil .nil) .nil) (.node (o_48 P) (.node (o_80 P) .nil .nil) .nil)) (.node (o_24 P) (.node (o_40 P) (.node (fz d72) .nil .nil) .nil) (.node (o_56 P) (.node (o_88 P) .nil .nil) .nil))) (.node (v12_2 P) (.node (o_20 P) (.node (o_36 P) (.node (fz d68) .nil .nil) .nil) (.node (o_52 P) (.node (o_84 P) .nil .nil) .nil)) (.node (o_28 P) (.node (o_44 P) (.node (o_76 P) .nil .nil) .nil) (.node (o_60 P) (.node (o_92 P) .nil .nil) .nil)))) (.node (o_6 P) (.node (o_10 P) (.node (o_18 P) (.node (o_34 P) (.node (o_66 P) .nil .nil) .nil) (.node (o_50 P) (.node (fz d82) .nil .nil) .nil)) (.node (o_26 P) (.node (o_42 P) (.node (o_74 P) .nil .nil) .nil) (.node (fz d58) (.node (o_90 P) .nil .nil) .nil))) (.node (o_14 P) (.node (o_22 P) (.node (o_38 P) (.node (o_70 P) .nil .nil) .nil) (.node (o_54 P) (.node (fz d86) .nil .nil) .nil)) (.node (o_30 P) (.node (o_46 P) (.node (fz d78) .nil .nil) .nil) (.node (o_62 P) (.node (o_94 P) .nil .nil) .nil))))))
@[irreducible] noncomputable def S_16_0b (P : Params) (d58 d63 d67 d68 d72 d73 d77 d78 d82 d86 d87 d91 : SD) (os : OsState) : SharedT := ⟨T_16_0b P d58 d63 d67 d68 d72 d73 d77 d78 d82 d86 d87 d91, 95, {}, #[.finished], {}, 592, os⟩
noncomputable def g_25 (P : Params) : DictEntry := ⟨PyData.keyHash P (Str.ofString "HEXDIGIT_CHARS"), (.str (Str.ofString "HEXDIGIT_CHARS") 592), (.ref 91)⟩
noncomputable def v3_10 (P : Params) : Obj := ⟨(.type "dict"), .none, (.dict [g_9 P, g_1 P, g_2 P, g_3 P, g_4 P, g_5 P, g_6 P, g_7 P, g_8 P, g_10 P, g_11 P, g_12 P, g_13 P, g_14 P, g_15 P, g_16 P, g_17 P, g_18 P, g_19 P, g_20 P, g_21 P, g_22 P, g_23 P, g_24 P, g_25 P].toArray 25), #[]⟩
noncomputable def T_16 (P : Params) (d58 d63 d67 d68 d72 d73 d77 d78 d82 d86 d87 d91 : SD) : BT := (.node (o_0 P) (.node (o_1 P) (.node (v3_10 P) (.node (o_7 P) (.node (o_15 P) (.node (o_31 P) (.node (fz d63) .nil .nil) .nil) (.node (o_47 P) (.node (o_79 P) .nil .nil) .nil)) (.node (o_23 P) (.node (o_39 P) (.node (o_71 P) .nil .nil) .nil) (.node (o_55 P) (.node (fz d87) .nil .nil) .nil))) (.node (o_11 P) (.node (o_19 P) (.node (o_35 P) (.node (fz d67) .nil .nil) .nil) (.node (o_51 P) (.node (o_83 P) .nil .nil) .nil)) (.node (o_27 P) (.node (o_43 P) (.node (o_75 P) .nil .nil) .nil) (.node (o_59 P) (.node (fz d91) .nil .nil) .nil)))) (.node (o_5 P) (.node (o_9 P) (.node (o_17 P) (.node (o_33 P) (.node (o_65 P) .nil .nil) .nil) (.node (o_49 P) (.node (o_81 P) .nil .nil) .nil)) (.node (o_25 P) (.node (o_41 P) (.node (fz d73) .nil .nil) .nil) (.node (o_57 P) (.node (o_89 P) .nil .nil) .nil))) (.node (o_13 P) (.node (o_21 P) (.node (o_37 P) (.node (o_69 P) .nil .nil) .nil) (.node (o_53 P) (.node (o_85 P) .nil .nil) .nil)) (.node (o_29 P) (.node (o_45 P) (.node (fz d77) .nil .nil) .nil) (.node (o_61 P) (.node (o_93 P) .nil .nil) .nil))))) (.node (o_2 P) (.node (o_4 P) (.node (o_8 P) (.node (o_16 P) (.node (o_32 P) (.node (o_64 P) .nil .nil) .nil) (.node (o_48 P) (.node (o_80 P) .nil .nil) .nil)) (.node (o_24 P) (.node (o_40 P) (.node (fz d72) .nil .nil) .nil) (.node (o_56 P) (.node (o_88 P) .nil .nil) .nil))) (.node (v12_2 P) (.node (o_20 P) (.node (o_36 P) (.node (fz d68) .nil .nil) .nil) (.node (o_52 P) (.node (o_84 P) .nil .nil) .nil)) (.node (o_28 P) (.node (o_44 P) (.node (o_76 P) .nil .nil) .nil) (.node (o_60 P) (.node (o_92 P) .nil .nil) .nil)))) (.node (o_6 P) (.node (o_10 P) (.node (o_18 P) (.node (o_34 P) (.node (o_66 P) .nil .nil) .nil) (.node (o_50 P) (.node (fz d82) .nil .nil) .nil)) (.node (o_26 P) (.node (o_42 P) (.node (o_74 P) .nil .nil) .nil) (.node (fz d58) (.node (o_90 P) .nil .nil) .nil))) (.node (o_14 P) (.node (o_22 P) (.node (o_38 P) (.node (o_70 P) .nil .nil) .nil) (.node (o_54 P) (.node (fz d86) .nil .nil) .nil)) (.node (o_30 P) (.node (o_46 P) (.node (fz d78) .nil .nil) .nil) (.node (o_62 P) (.node (o_94 P) .nil .nil) .nil))))))
@[irreducible] noncomputable def S_16 (P : Params) (d58 d63 d67 d68 d72 d73 d77 d78 d82 d86 d87 d91 : SD) (os : OsState) : SharedT := ⟨T_16 P d58 d63 d67 d68 d72 d73 d77 d78 d82 d86 d87 d91, 95, {}, #[.finished], {}, 593, os⟩
noncomputable def g_26 (P : Params) : DictEntry := ⟨PyData.keyHash P (Str.ofString "__name__"), (.str (Str.ofString "__name__") 165), (.str (Str.ofString "cpy313.tomllib._parser") 597)⟩
noncomputable def g_27 (P : Params) : DictEntry := ⟨PyData.keyHash P (Str.ofString "MappingProxyType"), (.str (Str.ofString "MappingProxyType") 596), (.type "mappingproxy")⟩
noncomputable def g_28 (P : Params) : DictEntry := ⟨PyData.keyHash P (Str.ofString "BASIC_STR_ESCAPE_REPLACEMENTS"), (.str (Str.ofString "BASIC_STR_ESCAPE_REPLACEMENTS") 620), (.ref 97)⟩
noncomputable def v3_11 (P : Params) : Obj := ⟨(.type "dict"), .none, (.dict [g_26 P, g_1 P, g_2 P, g_3 P, g_4 P, g_5 P, g_6 P, g_7 P, g_8 P, g_10 P, g_11 P, g_12 P, g_13 P, g_14 P, g_15 P, g_16 P, g_17 P, g_18 P, g_19 P, g_20 P, g_21 P, g_22 P, g_23 P, g_24 P, g_25 P, g_27 P, g_28 P].toArray 27), #[]⟩
noncomputable def T_20 (P : Params) (d58 d63 d67 d68 d72 d73 d77 d78 d82 d86 d87 d91 : SD) : BT := (.node (o_0 P) (.node (o_1 P) (.node (v3_11 P) (.node (o_7 P) (.node (o_15 P) (.node (o_31 P) (.node (fz d63) .nil .nil) (.node (o_95 P) .nil .nil)) (.node (o_47 P) (.node (o_79 P) .nil .nil) .nil)) (.node (o_23 P) (.node (o_39 P) (.node (o_71 P) .nil .nil) .nil) (.node (o_55 P) (.node (fz d87) .nil .nil) .nil))) (.node (o_11 P) (.node (o_19 P) (.node (o_35 P) (.node (fz d67) .nil .nil) .nil) (.node (o_51 P) (.node (o_83 P) .nil .nil) .nil)) (.node (o_27 P) (.node (o_43 P) (.node (o_75 P) .nil .nil) .nil) (.node (o_59 P) (.node (fz d91) .nil .nil) .nil)))) (.node (o_5 P) (.node (o_9 P) (.node (o_17 P) (.node (o_33 P) (.node (o_65 P) .nil .nil) (.node (o_97 P) .nil .nil)) (.node (o_49 P) (.node (o_81 P) .nil .nil) .nil)) (.node (o_25 P) (.node (o_41 P) (.node (fz d73) .nil .nil) .nil) (.node (o_57 P) (.node (o_89 P) .nil .nil) .nil))) (.node (o_13 P) (.node (o_21 P) (.node (o_37 P) (.node (o_69 P) .nil .nil) .nil) (.node (o_53 P) (.node (o_85 P) .nil .nil) .nil)) (.node (o_29 P) (.node (o_45 P) (.node (fz d77) .nil .nil) .nil) (.node (o_61 P) (.node (o_93 P) .nil .nil) .nil))))) (.node (o_2 P) (.node (o_4 P) (.node (o_8 P) (.node (o_16 P) (.node (o_32 P) (.node (o_64 P) .nil .nil) (.node (o_96 P) .nil .nil)) (.node (o_48 P) (.node (o_80 P) .nil .nil) .nil)) (.node (o_24 P) (.node (o_40 P) (.node (fz d72) .nil .nil) .nil) (.node (o_56 P) (.node (o_88 P) .nil .nil) .nil))) (.node (v12_2 P) (.node (o_20 P) (.node (o_36 P) (.node (fz d68) .nil .nil) .nil) (.node (o_52 P) (.node (o_84 P) .nil .nil) .nil)) (.node (o_28 P) (.node (o_44 P) (.node (o_76 P) .nil .nil) .nil) (.node (o_60 P) (.node (o_92 P) .nil .nil) .nil)))) (.node (o_6 P) (.node (o_10 P) (.node (o_18 P) (.node (o_34 P) (.node (o_66 P) .nil .nil) .nil) (.node (o_50 P) (.node (fz d82) .nil .nil) .nil)) (.node (o_26 P) (.node (o_42 P) (.node (o_74 P) .nil .nil) .nil) (.node (fz d58) (.node (o_90 P) .nil .nil) .nil))) (.node (o_14 P) (.node (o_22 P) (.node (o_38 P) (.node (o_70 P) .nil .nil) .nil) (.node (o_54 P) (.node (fz d86) .nil .nil) .nil)) (.node (o_30 P) (.node (o_46 P) (.node (fz d78) .nil .nil) .nil) (.node (o_62 P) (.node (o_94 P) .nil .nil) .nil))))))
@[irreducible] noncomputable def S_20 (P : Params) (d58 d63 d67 d68 d72 d73 d77 d78 d82 d86 d87 d91 : SD) (os : OsState) : SharedT := ⟨T_20 P d58 d63 d67 d68 d72 d73 d77 d78 d82 d86 d87 d91, 98, {}, #[.finished], {}, 621, os⟩
noncomputable def g_29 (P : Params) : DictEntry := ⟨PyData.keyHash P (Str.ofString "TOMLDecodeError"), (.str (Str.ofString "TOMLDecodeError") 638), (.ref 107)⟩
noncomputable def g_30 (P : Params) : DictEntry := ⟨PyData.keyHash P (Str.ofString "skip_chars"), (.str (Str.ofString "skip_chars") 647), (.ref 117)⟩
noncomputable def g_31 (P : Params) : DictEntry := ⟨PyData.keyHash P (Str.ofString "skip_until"), (.str (Str.ofString "skip_until") 659), (.ref 124)⟩
noncomputable def g_32 (P : Params) : DictEntry := ⟨PyData.keyHash P (Str.ofString "parse_key"), (.str (Str.ofString "parse_key") 670), (.ref 131)⟩
noncomputable def v3_12 (P : Params) : Obj := ⟨(.type "dict"), .none, (.dict [g_26 P, g_1 P, g_2 P, g_3 P, g_4 P, g_5 P, g_6 P, g_7 P, g_8 P, g_10 P, g_11 P, g_12 P, g_13 P, g_14 P, g_15 P, g_16 P, g_17 P, g_18 P, g_19 P, g_20 P, g_21 P, g_22 P, g_23 P, g_24 P, g_25 P, g_27 P, g_28 P, g_29 P, g_30 P, g_31 P, g_32 P].toArray 31), #[]⟩
noncomputable def v12_3 (P : Params) : Obj := ⟨.none, .none, (.fields #[(.int 1 0), (.int 0 0), (.ref 20), (.int 4 0), (.int 0 0), (.ref 27), (.int 12 0), (.int 23 0), (.ref 55), (.int 29 0), (.int 0 0), (.ref 103), (.int 31 0), (.int 0 0), (.ref 116), (.int 38 0), (.int 0 0), (.ref 123), (.int 50 0), (.int 0 0), (.ref 130)]), #[]⟩
noncomputable def T_24 (P : Params) (d58 d63 d67 d68 d72 d73 d77 d78 d82 d86 d87 d91 : SD) : BT := (.node (o_0 P) (.node (o_1 P) (.node (v3_12 P) (.node (o_7 P) (.node (o_15 P) (.node (o_31 P) (.node (fz d63) (.node (o_127 P) .nil .nil) .nil) (.node (o_95 P) .nil .nil)) (.node (o_47 P) (.node (o_79 P) .nil .nil) (.node (o_111 P) .nil .nil))) (.node (o_23 P) (.node (o_39 P) (.node (o_71 P) .nil .nil) (.node (o_103 P) .nil .nil)) (.node (o_55 P) (.node (fz d87) .nil .nil) (.node (o_119 P) .nil .nil)))) (.node (o_11 P) (.node (o_19 P) (.node (o_35 P) (.node (fz d67) (.node (o_131 P) .nil .nil) .nil) (.node (o_99 P) .nil .nil)) (.node (o_51 P) (.node (o_83 P) .nil .nil) (.node (o_115 P) .nil .nil))) (.node (o_27 P) (.node (o_43 P) (.node (o_75 P) .nil .nil) (.node (o_107 P) .nil .nil)) (.node (o_59 P) (.node (fz d91) .nil .nil) (.node (o_123 P) .nil .nil))))) (.node (o_5 P) (.node (o_9 P) (.node (o_17 P) (.node (o_33 P) (.node (o_65 P) (.node (o_129 P) .nil .nil) .nil) (.node (o_97 P) .nil .nil)) (.node (o_49 P) (.node (o_81 P) .nil .nil) (.node (o_113 P) .nil .nil))) (.node (o_25 P) (.node (o_41 P) (.node (fz d73) .nil .nil) (.node (o_105 P) .nil .nil)) (.node (o_57 P) (.node (o_89 P) .nil .nil) (.node (o_121 P) .nil .nil)))) (.node (o_13 P) (.node (o_21 P) (.node (o_37 P) (.node (o_69 P) .nil .nil) (.node (o_101 P) .nil .nil)) (.node (o_53 P) (.node (o_85 P) .nil .nil) (.node (o_117 P) .nil .nil))) (.node (o_29 P) (.node (o_45 P) (.node (fz d77) .nil .nil) (.node (o_109 P) .nil .nil)) (.node (o_61 P) (.node (o_93 P) .nil .nil) (.node (o_125 P) .nil .nil)))))) (.node (o_2 P) (.node (o_4 P) (.node (o_8 P) (.node (o_16 P) (.node (o_32 P) (.node (o_64 P) (.node (o_128 P) .nil .nil) .nil) (.node (o_96 P) .nil .nil)) (.node (o_48 P) (.node (o_80 P) .nil .nil) (.node (o_112 P) .nil .nil))) (.node (o_24 P) (.node (o_40 P) (.node (fz d72) .nil .nil) (.node (o_104 P) .nil .nil)) (.node (o_56 P) (.node (o_88 P) .nil .nil) (.node (o_120 P) .nil .nil)))) (.node (v12_3 P) (.node (o_20 P) (.node (o_36 P) (.node (fz d68) .nil .nil) (.node (o_100 P) .nil .nil)) (.node (o_52 P) (.node (o_84 P) .nil .nil) (.node (o_116 P) .nil .nil))) (.node (o_28 P) (.node (o_44 P) (.node (o_76 P) .nil .nil) (.node (o_108 P) .nil .nil)) (.node (o_60 P) (.node (o_92 P) .nil .nil) (.node (o_124 P) .nil .nil))))) (.node (o_6 P) (.node (o_10 P) (.node (o_18 P) (.node (o_34 P) (.node (o_66 P) (.node (o_130 P) .nil .nil) .nil) (.node (o_98 P) .nil .nil)) (.node (o_50 P) (.node (fz d82) .nil .nil) (.node (o_114 P) .nil .nil))) (.node (o_26 P) (.node (o_42 P) (.node (o_74 P) .nil .nil) (.node (o_106 P) .nil .nil)) (.node (fz d58) (.node (o_90 P) .nil .nil) (.node (o_122 P) .nil .nil)))) (.node (o_14 P) (.node (o_22 P) (.node (o_38 P) (.node (o_70 P) .nil .nil) (.node (o_102 P) .nil .nil)) (.node (o_54 P) (.node (fz d86) .nil .nil) (.node (o_118 P) .nil .nil))) (.node (o_30 P) (.node (o_46 P) (.node (fz d78) .nil .nil) (.node (o_110 P) .nil .nil)) (.node (o_62 P) (.node (o_94 P) .nil .nil) (.node (o_126 P) .nil .nil)))))))
@[irreducible] noncomputable def S_24 (P : Params) (d58 d63 d67 d68 d72 d73 d77 d78 d82 d86 d87 d91 : SD) (os : OsState) : SharedT := ⟨T_24 P d58 d63 d67 d68 d72 d73 d77 d78 d82 d86 d87 d91, 132, {}, #[.finished], {}, 671, os⟩
noncomputable def g_33 (P : Params) : DictEntry := ⟨PyData.keyHash P (Str.ofString "parse_key_part"), (.str (Str.ofString "parse_key_part") 680), (.ref 138)⟩
noncomputable def g_34 (P : Params) : DictEntry := ⟨PyData.keyHash P (Str.ofString "parse_one_line_basic_str"), (.str (Str.ofString "parse_one_line_basic_str") 688), (.ref 145)⟩
noncomputable def g_35 (P : Params) : DictEntry := ⟨PyData.keyHash P (Str.ofString "parse_basic_str_escape"), (.str (Str.ofString "parse_basic_str_escape") 700), (.ref 153)⟩
noncomputable def g_36 (P : Params) : DictEntry := ⟨PyData.keyHash P (Str.ofString "parse_basic_str_escape_multiline"), (.str (Str.ofString "parse_basic_str_escape_multiline") 708), (.ref 160)⟩
noncomputable def v3_13 (P : Params) : Obj := ⟨(.type "dict"), .none, (.dict [g_26 P, g_1 P, g_2 P, g_3 P, g_4 P, g_5 P, g_6 P, g_7 P, g_8 P, g_10 P, g_11 P, g_12 P, g_13 P, g_14 P, g_15 P, g_16 P, g_17 P, g_18 P, g_19 P, g_20 P, g_21 P, g_22 P, g_23 P, g_24 P, g_25 P, g_27 P, g_28 P, g_29 P, g_30 P, g_31 P, g_32 P, g_33 P, g_34 P, g_35 P, g_36 P].toArray 35), #[]⟩
noncomputable def v12_4 (P : Params) : Obj := ⟨.none, .none, (.fields #[(.int 1 0), (.int 0 0), (.ref 20), (.int 4 0), (.int 0 0), (.ref 27), (.int 12 0), (.int 23 0), (.ref 55), (.int 29 0), (.int 0 0), (.ref 103), (.int 31 0), (.int 0 0), (.ref 116), (.int 38 0), (.int 0 0), (.ref 123), (.int 50 0), (.int 0 0), (.ref 130), (.int 68 0), (.int 0 0), (.ref 137), (.int 82 0), (.int 0 0), (.ref 144), (.int 85 0), (.int 0 0), (.ref 152), (.int 108 0), (.int 0 0), (.ref 159)]), #[]⟩
noncomputable def T_28 (P : Params) (d58 d63 d67 d68 d72 d73 d77 d78 d82 d86 d87 d91 : SD) : BT := (.node (o_0 P) (.node (o_1 P) (.node (v3_13 P) (.node (o_7 P) (.node (o_15 P) (.node (o_31 P) (.node (fz d63) (.node (o_127 P) .nil .nil) .nil) (.node (o_95 P) (.node (o_159 P) .nil .nil) .nil)) (.node (o_47 P) (.node (o_79 P) (.node (o_143 P) .nil .nil) .nil) (.node (o_111 P) .nil .nil))) (.node (o_23 P) (.node (o_39 P) (.node (o_71 P) (.node (o_135 P) .nil .nil) .nil) (.node (o_103 P) .nil .nil)) (.node (o_55 P) (.node (fz d87) (.node (o_151 P) .nil .nil) .nil) (.node (o_119 P) .nil .nil)))) (.node (o_11 P) (.node (o_19 P) (.node (o_35 P) (.node (fz d67) (.node (o_131 P) .nil .nil) .nil) (.node (o_99 P) .nil .nil)) (.node (o_51 P) (.node (o_83 P) (.node (o_147 P) .nil .nil) .nil) (.node (o_115 P) .nil .nil))) (.node (o_27 P) (.node (o_43 P) (.node (o_75 P) (.node (o_139 P) .nil .nil) .nil) (.node (o_107 P) .nil .nil)) (.node (o_59 P) (.node (fz d91) (.node (o_155 P) .nil .nil) .nil) (.node (o_123 P) .nil .nil))))) (.node (o_5 P) (.node (o_9 P) (.node (o_17 P) (.node (o_33 P) (.node (o_65 P) (.node (o_129 P) .nil .nil) .nil) (.node (o_97 P) .nil .nil)) (.node (o_49 P) (.node (o_81 P) (.node (o_145 P) .nil .nil) .nil) (.node (o_113 P) .nil .nil))) (.node (o_25 P) (.node (o_41 P) (.node (fz d73) (.node (o_137 P) .nil .nil) .nil) (.node (o_105 P) .nil .nil)) (.node (o_57 P) (.node (o_89 P) (.node (o_153 P) .nil .nil) .nil) (.node (o_121 P) .nil .nil)))) (.node (o_13 P) (.node (o_21 P) (.node (o_37 P) (.node (o_69 P) (.node (o_133 P) .nil .nil) .nil) (.node (o_101 P) .nil .nil)) (.node (o_53 P) (.node (o_85 P) (.node (o_149 P) .nil .nil) .nil) (.node (o_117 P) .nil .nil))) (.node (o_29 P) (.node (o_45 P) (.node (fz d77) (.node (o_141 P) .nil .nil) .nil) (.node (o_109 P) .nil .nil)) (.node (o_61 P) (.node (o_93 P) (.node (o_157 P) .nil .nil) .nil) (.node (o_125 P) .nil .nil)))))) (.node (o_2 P) (.node (o_4 P) (.node (o_8 P) (.node (o_16 P) (.node (o_32 P) (.node (o_64 P) (.node (o_128 P) .nil .nil) .nil) (.node (o_96 P) (.node (o_160 P) .nil .nil) .nil)) (.node (o_48 P) (.node (o_80 P) (.node (o_144 P) .nil .nil) .nil) (.node (o_112 P) .nil .nil))) (.node (o_24 P) (.node (o_40 P) (.node (fz d72) (.node (o_136 P) .nil .nil) .nil) (.node (o_104 P) .nil .nil)) (.node (o_56 P) (.node (o_88 P) (.node (o_152 P) .nil .nil) .nil) (.node (o_120 P) .nil .nil)))) (.node (v12_4 P) (.node (o_20 P) (.node (o_36 P) (.node (fz d68) (.node (o_132 P) .nil .nil) .nil) (.node (o_100 P) .nil .nil)) (.node (o_52 P) (.node (o_84 P) (.node (o_148 P) .nil .nil) .nil) (.node (o_116 P) .nil .nil))) (.node (o_28 P) (.node (o_44 P) (.node (o_76 P) (.node (o_140 P) .nil .nil) .nil) (.node (o_108 P) .nil .nil)) (.node (o_60 P) (.node (o_92 P) (.node (o_156 P) .nil .nil) .nil) (.node (o_124 P) .nil .nil))))) (.node (o_6 P) (.node (o_10 P) (.node (o_18 P) (.node (o_34 P) (.node (o_66 P) (.node (o_130 P) .nil .nil) .nil) (.node (o_98 P) .nil .nil)) (.node (o_50 P) (.node (fz d82) (.node (o_146 P) .nil .nil) .nil) (.node (o_114 P) .nil .nil))) (.node (o_26 P) (.node (o_42 P) (.node (o_74 P) (.node (o_138 P) .nil .nil) .nil) (.node (o_106 P) .nil .nil)) (.node (fz d58) (.node (o_90 P) (.node (o_154 P) .nil .nil) .nil) (.node (o_122 P) .nil .nil)))) (.node (o_14 P) (.node (o_22 P) (.node (o_38 P) (.node (o_70 P) (.node (o_134 P) .nil .nil) .nil) (.node (o_102 P) .nil .nil)) (.node (o_54 P) (.node (fz d86) (.node (o_150 P) .nil .nil) .nil) (.node (o_118 P) .nil .nil))) (.node (o_30 P) (.node (o_46 P) (.node (fz d78) (.node (o_142 P) .nil .nil) .nil) (.node (o_110 P) .nil .nil)) (.node (o_62 P) (.node (o_94 P) (.node (o_158 P) .nil .nil) .nil) (.node (o_126 P) .nil .nil)))))))
@[irreducible] noncomputable def S_28 (P : Params) (d58 d63 d67 d68 d72 d73 d77 d78 d82 d86 d87 d91 : SD) (os : OsState) : SharedT := ⟨T_28 P d58 d63 d67 d68 d72 d73 d77 d78 d82 d86 d87 d91, 161, {}, #[.finished], {}, 709, os⟩
noncomputable def g_37 (P : Params) : DictEntry := ⟨PyData.keyHash P (Str.ofString "parse_hex_char"), (.str (Str.ofString "parse_hex_char") 719), (.ref 167)⟩
noncomputable def g_38 (P : Params) : DictEntry := ⟨PyData.keyHash P (Str.ofString "parse_literal_str"), (.str (Str.ofString "parse_literal_str") 728), (.ref 174)⟩
noncomputable def g_39 (P : Params) : DictEntry := ⟨PyData.keyHash P (Str.ofString "parse_basic_str"), (.str (Str.ofString "parse_basic_str") 743), (.ref 181)⟩
noncomputable def g_40 (P : Params) : DictEntry := ⟨PyData.keyHash P (Str.ofString "suffixed_err"), (.str (Str.ofString "suffixed_err") 753), (.ref 188)⟩
noncomputable def v3_14 (P : Params) : Obj := ⟨(.type "dict"), .none, (.dict [g_26 P, g_1 P, g_2 P, g_3 P, g_4 P, g_5 P, g_6 P, g_7 P, g_8 P, g_10 P, g_11 P, g_12 P, g_13 P, g_14 P, g_15 P, g_16 P, g_17 P, g_18 P, g_19 P, g_20 P, g_21 P, g_22 P, g_23 P, g_24 P, g_25 P, g_27 P, g_28 P, g_29 P, g_30 P, g_31 P, g_32 P, g_33 P, g_34 P, g_35 P, g_36 P, g_37 P, g_38 P, g_39 P, g_40 P].toArray 39), #[]⟩
noncomputable def v12_5 (P : Params) : Obj := ⟨.none, .none, (.fields #[(.int 1 0), (.int 0 0), (.ref 20), (.int 4 0), (.int 0 0), (.ref 27), (.int 12 0), (.int 23 0), (.ref 55), (.int 29 0), (.int 0 0), (.ref 103), (.int 31 0), (.int 0 0), (.ref 116), (.int 38 0), (.int 0 0), (.ref 123), (.int 50 0), (.int 0 0), (.ref 130), (.int 68 0), (.int 0 0), (.ref 137), (.int 82 0), (.int 0 0), (.ref 144), (.int 85 0), (.int 0 0), (.ref 152), (.int 108 0), (.int 0 0), (.ref 159), (.int 110 0), (.int 0 0), (.ref 166), (.int 119 0), (.int 0 0), (.ref 173), (.int 124 0), (.int 0 0), (.ref 180), (.int 154 0), (.int 0 0), (.ref 187)]), #[]⟩
noncomputable def T_32 (P : Params) (d58 d63 d67 d68 d72 d73 d77 d78 d82 d86 d87 d91 : SD) : BT := (.node (o_0 P) (.node (o_1 P) (.node (v3_14 P) (.node (o_7 P) (.node (o_15 P) (.node (o_31 P) (.node (fz d63) (.node (o_127 P) .nil .nil) .nil) (.node (o_95 P) (.node (o_159 P) .nil .nil) .nil)) (.node (o_47 P) (.node (o_79 P) (.node (o_143 P) .nil .nil) .nil) (.node (o_111 P) (.node (o_175 P) .nil .nil) .nil))) (.node (o_23 P) (.node (o_39 P) (.node (o_71 P) (.node (o_135 P) .nil .nil) .nil) (.node (o_103 P) (.node (o_167 P) .nil .nil) .nil)) (.node (o_55 P) (.node (fz d87) (.node (o_151 P) .nil .nil) .nil) (.node (o_119 P) (.node (o_183 P) .nil .nil) .nil)))) (.node (o_11 P) (.node (o_19 P) (.node (o_35 P) (.node (fz d67) (.node (o_131 P) .nil .nil) .nil) (.node (o_99 P) (.node (o_163 P) .nil .nil) .nil)) (.node (o_51 P) (.node (o_83 P) (.node (o_147 P) .nil .nil) .nil) (.node (o_115 P) (.node (o_179 P) .nil .nil) .nil))) (.node (o_27 P) (.node (o_43 P) (.node (o_75 P) (.node (o_139 P) .nil .nil) .nil) (.node (o_107 P) (.node (o_171 P) .nil .nil) .nil)) (.node (o_59 P) (.node (fz d91) (.node (o_155 P) .nil .nil) .nil) (.node (o_123 P) (.node (o_187 P) .nil .nil) .nil))))) (.node (o_5 P) (.node (o_9 P) (.node (o_17 P) (.node (o_33 P) (.node (o_65 P) (.node (o_129 P) .nil .nil) .nil) (.node (o_97 P) (.node (o_161 P) .nil .nil) .nil)) (.node (o_49 P) (.node (o_81 P) (.node (o_145 P) .nil .nil) .nil) (.node (o_113 P) (.node (o_177 P) .nil .nil) .nil))) (.node (o_25 P) (.node (o_41 P) (.node (fz d73) (.node (o_137 P) .nil .nil) .nil) (.node (o_105 P) (.node (o_169 P) .nil .nil) .nil)) (.node (o_57 P) (.node (o_89 P) (.node (o_153 P) .nil .nil) .nil) (.node (o_121 P) (.node (o_185 P) .nil .nil) .nil)))) (.node (o_13 P) (.node (o_21 P) (.node (o_37 P) (.node (o_69 P) (.node (o_133 P) .nil .nil) .nil) (.node (o_101 P) (.node (o_165 P) .nil .nil) .nil)) (.node (o_53 P) (.node (o_85 P) (.node (o_149 P) .nil .nil) .nil) (.node (o_117 P) (.node (o_181 P) .nil .nil) .nil))) (.node (o_29 P) (.node (o_45 P) (.node (fz d77) (.node (o_141 P) .nil .nil) .nil) (.node (o_109 P) (.node (o_173 P) .nil .nil) .nil)) (.node (o_61 P) (.node (o_93 P) (.node (o_157 P) .nil .nil) .nil) (.node (o_125 P) .nil .nil)))))) (.node (o_2 P) (.node (o_4 P) (.node (o_8 P) (.node (o_16 P) (.node (o_32 P) (.node (o_64 P) (.node (o_128 P) .nil .nil) .nil) (.node (o_96 P) (.node (o_160 P) .nil .nil) .nil)) (.node (o_48 P) (.node (o_80 P) (.node (o_144 P) .nil .nil) .nil) (.node (o_112 P) (.node (o_176 P) .nil .nil) .nil))) (.node (o_24 P) (.node (o_40 P) (.node (fz d72) (.node (o_136 P) .nil .nil) .nil) (.node (o_104 P) (.node (o_168 P) .nil .nil) .nil)) (.node (o_56 P) (.node (o_88 P) (.node (o_152 P) .nil .nil) .nil) (.node (o_120 P) (.node (o_184 P) .nil .nil) .nil)))) (.node (v12_5 P) (.node (o_20 P) (.node (o_36 P) (.node (fz d68) (.node (o_132 P) .nil .nil) .nil) (.node (o_100 P) (.node (o_164 P) .nil .nil) .nil)) (.node (o_52 P) (.node (o_84 P) (.node (o_148 P) .nil .nil) .nil) (.node (o_116 P) (.node (o_180 P) .nil .nil) .nil))) (.node (o_28 P) (.node (o_44 P) (.node (o_76 P) (.node (o_140 P) .nil .nil) .nil) (.node (o_108 P) (.node (o_172 P) .nil .nil) .nil)) (.node (o_60 P) (.node (o_92 P) (.node (o_156 P) .nil .nil) .nil) (.node (o_124 P) (.node (o_188 P) .nil .nil) .nil))))) (.node (o_6 P) (.node (o_10 P) (.node (o_18 P) (.node (o_34 P) (.node (o_66 P) (.node (o_130 P) .nil .nil) .nil) (.node (o_98 P) (.node (o_162 P) .nil .nil) .nil)) (.node (o_50 P) (.node (fz d82) (.node (o_146 P) .nil .nil) .nil) (.node (o_114 P) (.node (o_178 P) .nil .nil) .nil))) (.node (o_26 P) (.node (o_42 P) (.node (o_74 P) (.node (o_138 P) .nil .nil) .nil) (.node (o_106 P) (.node (o_170 P) .nil .nil) .nil)) (.node (fz d58) (.node (o_90 P) (.node (o_154 P) .nil .nil) .nil) (.node (o_122 P) (.node (o_186 P) .nil .nil) .nil)))) (.node (o_14 P) (.node (o_22 P) (.node (o_38 P) (.node (o_70 P) (.node (o_134 P) .nil .nil) .nil) (.node (o_102 P) (.node (o_166 P) .nil .nil) .nil)) (.node (o_54 P) (.node (fz d86) (.node (o_150 P) .nil .nil) .nil) (.node (o_118 P) (.node (o_182 P) .nil .nil) .nil))) (.node (o_30 P) (.node (o_46 P) (.node (fz d78) (.node (o_142 P) .nil .nil) .nil) (.node (o_110 P) (.node (o_174 P) .nil .nil) .nil)) (.node (o_62 P) (.node (o_94 P) (.node (o_158 P) .nil .nil) .nil) (.node (o_126 P) .nil .nil)))))))
@[irreducible] noncomputable def S_32 (P : Params) (d58 d63 d67 d68 d72 d73 d77 d78 d82 d86 d87 d91 : SD) (os : OsState) : SharedT := ⟨T_32 P d58 d63 d67 d68 d72 d73 d77 d78 d82 d86 d87 d91, 189, {}, #[.finished], {}, 754, os⟩
noncomputable def g_41 (P : Params) : DictEntry := ⟨PyData.keyHash P (Str.ofString "__name__"), (.str (Str.ofString "__name__") 165), (.str (Str.ofString "law_ij0148_01") 761)⟩
noncomputable def g_42 (P : Params) : DictEntry := ⟨PyData.keyHash P (Str.ofString "is_unicode_scalar_value"), (.str (Str.ofString "is_unicode_scalar_value") 760), (.ref 195)⟩
noncomputable def g_43 (P : Params) : DictEntry := ⟨PyData.keyHash P (Str.ofString "_law_forms"), (.str (Str.ofString "_law_forms") 768), (.ref 202)⟩
noncomputable def g_44 (P : Params) : DictEntry := ⟨PyData.keyHash P (Str.ofString "_law_at"), (.str (Str.ofString "_law_at") 777), (.ref 209)⟩
noncomputable def v3_15 (P : Params) : Obj := ⟨(.type "dict"), .none, (.dict [g_41 P, g_1 P, g_2 P, g_3 P, g_4 P, g_5 P, g_6 P, g_7 P, g_8 P, g_10 P, g_11 P, g_12 P, g_13 P, g_14 P, g_15 P, g_16 P, g_17 P, g_18 P, g_19 P, g_20 P, g_21 P, g_22 P, g_23 P, g_24 P, g_25 P, g_27 P, g_28 P, g_29 P, g_30 P, g_31 P, g_32 P, g_33 P, g_34 P, g_35 P, g_36 P, g_37 P, g_38 P, g_39 P, g_40 P, g_42 P, g_43 P, g_44 P].toArray 42), #[]⟩
noncomputable def v12_6 (P : Params) : Obj := ⟨.none, .none, (.fields #[(.int 1 0), (.int 0 0), (.ref 20), (.int 4 0), (.int 0 0), (.ref 27), (.int 12 0), (.int 23 0), (.ref 55), (.int 29 0), (.int 0 0), (.ref 103), (.int 31 0), (.int 0 0), (.ref 116), (.int 38 0), (.int 0 0), (.ref 123), (.int 50 0), (.int 0 0), (.ref 130), (.int 68 0), (.int 0 0), (.ref 137), (.int 82 0), (.int 0 0), (.ref 144), (.int 85 0), (.int 0 0), (.ref 152), (.int 108 0), (.int 0 0), (.ref 159), (.int 110 0), (.int 0 0), (.ref 166), (.int 119 0), (.int 0 0), (.ref 173), (.int 124 0), (.int 0 0), (.ref 180), (.int 154 0), (.int 0 0), (.ref 187), (.int 166 0), (.int 0 0), (.ref 194), (.int 169 0), (.int 0 0), (.ref 201), (.int 171 0), (.int 0 0), (.ref 208)]), #[]⟩
noncomputable def T_36 (P : Params) (d58 d63 d67 d68 d72 d73 d77 d78 d82 d86 d87 d91 : SD) : BT := (.node (o_0 P) (.node (o_1 P) (.node (v3_15 P) (.node (o_7 P) (.node (o_15 P) (.node (o_31 P) (.node (fz d63) (.node (o_127 P) .nil .nil) (.node (o_191 P) .nil .nil)) (.node (o_95 P) (.node (o_159 P) .nil .nil) .nil)) (.node (o_47 P) (.node (o_79 P) (.node (o_143 P) .nil .nil) (.node (o_207 P) .nil .nil)) (.node (o_111 P) (.node (o_175 P) .nil .nil) .nil))) (.node (o_23 P) (.node (o_39 P) (.node (o_71 P) (.node (o_135 P) .nil .nil) (.node (o_199 P) .nil .nil)) (.node (o_103 P) (.node (o_167 P) .nil .nil) .nil)) (.node (o_55 P) (.node (fz d87) (.node (o_151 P) .nil .nil) .nil) (.node (o_119 P) (.node (o_183 P) .nil .nil) .nil)))) (.node (o_11 P) (.node (o_19 P) (.node (o_35 P) (.node (fz d67) (.node (o_131 P) .nil .nil) (.node (o_195 P) .nil .nil)) (.node (o_99 P) (.node (o_163 P) .nil .nil) .nil)) (.node (o_51 P) (.node (o_83 P) (.node (o_147 P) .nil .nil) .nil) (.node (o_115 P) (.node (o_179 P) .nil .nil) .nil))) (.node (o_27 P) (.node (o_43 P) (.node (o_75 P) (.node (o_139 P) .nil .nil) (.node (o_203 P) .nil .nil)) (.node (o_107 P) (.node (o_171 P) .nil .nil) .nil)) (.node (o_59 P) (.node (fz d91) (.node (o_155 P) .nil .nil) .nil) (.node (o_123 P) (.node (o_187 P) .nil .nil) .nil))))) (.node (o_5 P) (.node (o_9 P) (.node (o_17 P) (.node (o_33 P) (.node (o_65 P) (.node (o_129 P) .nil .nil) (.node (o_193 P) .nil .nil)) (.node (o_97 P) (.node (o_161 P) .nil .nil) .nil)) (.node (o_49 P) (.node (o_81 P) (.node (o_145 P) .nil .nil) (.node (o_209 P) .nil .nil)) (.node (o_113 P) (.node (o_177 P) .nil .nil) .nil))) (.node (o_25 P) (.node (o_41 P) (.node (fz d73) (.node (o_137 P) .nil .nil) (.node (o_201 P) .nil .nil)) (.node (o_105 P) (.node (o_169 P) .nil .nil) .nil)) (.node (o_57 P) (.node (o_89 P) (.node (o_153 P) .nil .nil) .nil) (.node (o_121 P) (.node (o_185 P) .nil .nil) .nil)))) (.node (o_13 P) (.node (o_21 P) (.node (o_37 P) (.node (o_69 P) (.node (o_133 P) .nil .nil) (.node (o_197 P) .nil .nil)) (.node (o_101 P) (.node (o_165 P) .nil .nil) .nil)) (.node (o_53 P) (.node (o_85 P) (.node (o_149 P) .nil .nil) .nil) (.node (o_117 P) (.node (o_181 P) .nil .nil) .nil))) (.node (o_29 P) (.node (o_45 P) (.node (fz d77) (.node (o_141 P) .nil .nil) (.node (o_205 P) .nil .nil)) (.node (o_109 P) (.node (o_173 P) .nil .nil) .nil)) (.node (o_61 P) (.node (o_93 P) (.node (o_157 P) .nil .nil) .nil) (.node (o_125 P) (.node (o_189 P) .nil .nil) .nil)))))) (.node (o_2 P) (.node (o_4 P) (.node (o_8 P) (.node (o_16 P) (.node (o_32 P) (.node (o_64 P) (.node (o_128 P) .nil .nil) (.node (o_192 P) .nil .nil)) (.node (o_96 P) (.node (o_160 P) .nil .nil) .nil)) (.node (o_48 P) (.node (o_80 P) (.node (o_144 P) .nil .nil) (.node (o_208 P) .nil .nil)) (.node (o_112 P) (.node (o_176 P) .nil .nil) .nil))) (.node (o_24 P) (.node (o_40 P) (.node (fz d72) (.node (o_136 P) .nil .nil) (.node (o_200 P) .nil .nil)) (.node (o_104 P) (.node (o_168 P) .nil .nil) .nil)) (.node (o_56 P) (.node (o_88 P) (.node (o_152 P) .nil .nil) .nil) (.node (o_120 P) (.node (o_184 P) .nil .nil) .nil)))) (.node (v12_6 P) (.node (o_20 P) (.node (o_36 P) (.node (fz d68) (.node (o_132 P) .nil .nil) (.node (o_196 P) .nil .nil)) (.node (o_100 P) (.node (o_164 P) .nil .nil) .nil)) (.node (o_52 P) (.node (o_84 P) (.node (o_148 P) .nil .nil) .nil) (.node (o_116 P) (.node (o_180 P) .nil .nil) .nil))) (.node (o_28 P) (.node (o_44 P) (.node (o_76 P) (.node (o_140 P) .nil .nil) (.node (o_204 P) .nil .nil)) (.node (o_108 P) (.node (o_172 P) .nil .nil) .nil)) (.node (o_60 P) (.node (o_92 P) (.node (o_156 P) .nil .nil) .nil) (.node (o_124 P) (.node (o_188 P) .nil .nil) .nil))))) (.node (o_6 P) (.node (o_10 P) (.node (o_18 P) (.node (o_34 P) (.node (o_66 P) (.node (o_130 P) .nil .nil) (.node (o_194 P) .nil .nil)) (.node (o_98 P) (.node (o_162 P) .nil .nil) .nil)) (.node (o_50 P) (.node (fz d82) (.node (o_146 P) .nil .nil) .nil) (.node (o_114 P) (.node (o_178 P) .nil .nil) .nil))) (.node (o_26 P) (.node (o_42 P) (.node (o_74 P) (.node (o_138 P) .nil .nil) (.node (o_202 P) .nil .nil)) (.node (o_106 P) (.node (o_170 P) .nil .nil) .nil)) (.node (fz d58) (.node (o_90 P) (.node (o_154 P) .nil .nil) .nil) (.node (o_122 P) (.node (o_186 P) .nil .nil) .nil)))) (.node (o_14 P) (.node (o_22 P) (.node (o_38 P) (.node (o_70 P) (.node (o_134 P) .nil .nil) (.node (o_198 P) .nil .nil)) (.node (o_102 P) (.node (o_166 P) .nil .nil) .nil)) (.node (o_54 P) (.node (fz d86) (.node (o_150 P) .nil .nil) .nil) (.node (o_118 P) (.node (o_182 P) .nil .nil) .nil))) (.node (o_30 P) (.node (o_46 P) (.node (fz d78) (.node (o_142 P) .nil .nil) (.node (o_206 P) .nil .nil)) (.node (o_110 P) (.node (o_174 P) .nil .nil) .nil)) (.node (o_62 P) (.node (o_94 P) (.node (o_158 P) .nil .nil) .nil) (.node (o_126 P) (.node (o_190 P) .nil .nil) .nil)))))))
@[irreducible] noncomputable def S_36 (P : Params) (d58 d63 d67 d68 d72 d73 d77 d78 d82 d86 d87 d91 : SD) (os : OsState) : SharedT := ⟨T_36 P d58 d63 d67 d68 d72 d73 d77 d78 d82 d86 d87 d91, 210, {}, #[.finished], {}, 778, os⟩
noncomputable def T_40 (P : Params) (d58 d63 d67 d68 d72 d73 d77 d78 d82 d86 d87 d91 : SD) : BT := (.node (o_0 P) (.node (o_1 P) (.node (o_3 P) (.node (o_7 P) (.node (o_15 P) (.node (o_31 P) (.node (fz d63) (.node (o_127 P) .nil .nil) (.node (o_191 P) .nil .nil)) (.node (o_95 P) (.node (o_159 P) .nil .nil) (.node (o_223 P) .nil .nil))) (.node (o_47 P) (.node (o_79 P) (.node (o_143 P) .nil .nil) (.node (o_207 P) .nil .nil)) (.node (o_111 P) (.node (o_175 P) .nil .nil) .nil))) (.node (o_23 P) (.node (o_39 P) (.node (o_71 P) (.node (o_135 P) .nil .nil) (.node (o_199 P) .nil .nil)) (.node (o_103 P) (.node (o_167 P) .nil .nil) (.node (o_231 P) .nil .nil))) (.node (o_55 P) (.node (fz d87) (.node (o_151 P) .nil .nil) (.node (o_215 P) .nil .nil)) (.node (o_119 P) (.node (o_183 P) .nil .nil) .nil)))) (.node (o_11 P) (.node (o_19 P) (.node (o_35 P) (.node (fz d67) (.node (o_131 P) .nil .nil) (.node (o_195 P) .nil .nil)) (.node (o_99 P) (.node (o_163 P) .nil .nil) (.node (o_227 P) .nil .nil))) (.node (o_51 P) (.node (o_83 P) (.node (o_147 P) .nil .nil) (.node (o_211 P) .nil .nil)) (.node (o_115 P) (.node (o_179 P) .nil .nil) .nil))) (.node (o_27 P) (.node (o_43 P) (.node (o_75 P) (.node (o_139 P) .nil .nil) (.node (o_203 P) .nil .nil)) (.node (o_107 P) (.node (o_171 P) .nil .nil) (.node (o_235 P) .nil .nil))) (.node (o_59 P) (.node (fz d91) (.node (o_155 P) .nil .nil) (.node (o_219 P) .nil .nil)) (.node (o_123 P) (.node (o_187 P) .nil .nil) .nil))))) (.node (o_5 P) (.node (o_9 P) (.node (o_17 P) (.node (o_33 P) (.node (o_65 P) (.node (o_129 P) .nil .nil) (.node (o_193 P) .nil .nil)) (.node (o_97 P) (.node (o_161 P) .nil .nil) (.node (o_225 P) .nil .nil))) (.node (o_49 P) (.node (o_81 P) (.node (o_145 P) .nil .nil) (.node (o_209 P) .nil .nil)) (.node (o_113 P) (.node (o_177 P) .nil .nil) .nil))) (.node (o_25 P) (.node (o_41 P) (.node (fz d73) (.node (o_137 P) .nil .nil) (.node (o_201 P) .nil .nil)) (.node (o_105 P) (.node (o_169 P) .nil .nil) (.node (o_233 P) .nil .nil))) (.node (o_57 P) (.node (o_89 P) (.node (o_153 P) .nil .nil) (.node (o_217 P) .nil .nil)) (.node (o_121 P) (.node (o_185 P) .nil .nil) .nil)))) (.node (o_13 P) (.node (o_21 P) (.node (o_37 P) (.node (o_69 P) (.node (o_133 P) .nil .nil) (.node (o_197 P) .nil .nil)) (.node (o_101 P) (.node (o_165 P) .nil .nil) (.node (o_229 P) .nil .nil))) (.node (o_53 P) (.node (o_85 P) (.node (o_149 P) .nil .nil) (.node (o_213 P) .nil .nil)) (.node (o_117 P) (.node (o_181 P) .nil .nil) .nil))) (.node (o_29 P) (.node (o_45 P) (.node (fz d77) (.node (o_141 P) .nil .nil) (.node (o_205 P) .nil .nil)) (.node (o_109 P) (.node (o_173 P) .nil .nil) (.node (o_237 P) .nil .nil))) (.node (o_61 P) (.node (o_93 P) (.node (o_157 P) .nil .nil) (.node (o_221 P) .nil .nil)) (.node (o_125 P) (.node (o_189 P) .nil .nil) .nil)))))) (.node (o_2 P) (.node (o_4 P) (.node (o_8 P) (.node (o_16 P) (.node (o_32 P) (.node (o_64 P) (.node (o_128 P) .nil .nil) (.node (o_192 P) .nil .nil)) (.node (o_96 P) (.node (o_160 P) .nil .nil) (.node (o_224 P) .nil .nil))) (.node (o_48 P) (.node (o_80 P) (.node (o_144 P) .nil .nil) (.node (o_208 P) .nil .nil)) (.node (o_112 P) (.node (o_176 P) .nil .nil) .nil))) (.node (o_24 P) (.node (o_40 P) (.node (fz d72) (.node (o_136 P) .nil .nil) (.node (o_200 P) .nil .nil)) (.node (o_104 P) (.node (o_168 P) .nil .nil) (.node (o_232 P) .nil .nil))) (.node (o_56 P) (.node (o_88 P) (.node (o_152 P) .nil .nil) (.node (o_216 P) .nil .nil)) (.node (o_120 P) (.node (o_184 P) .nil .nil) .nil)))) (.node (o_12 P) (.node (o_20 P) (.node (o_36 P) (.node (fz d68) (.node (o_132 P) .nil .nil) (.node (o_196 P) .nil .nil)) (.node (o_100 P) (.node (o_164 P) .nil .nil) (.node (o_228 P) .nil .nil))) (.node (o_52 P) (.node (o_84 P) (.node (o_148 P) .nil .nil) (.node (o_212 P) .nil .nil)) (.node (o_116 P) (.node (o_180 P) .nil .nil) .nil))) (.node (o_28 P) (.node (o_44 P) (.node (o_76 P) (.node (o_140 P) .nil .nil) (.node (o_204 P) .nil .nil)) (.node (o_108 P) (.node (o_172 P) .nil .nil) (.node (o_236 P) .nil .nil))) (.node (o_60 P) (.node (o_92 P) (.node (o_156 P) .nil .nil) (.node (o_220 P) .nil .nil)) (.node (o_124 P) (.node (o_188 P) .nil .nil) .nil))))) (.node (o_6 P) (.node (o_10 P) (.node (o_18 P) (.node (o_34 P) (.node (o_66 P) (.node (o_130 P) .nil .nil) (.node (o_194 P) .nil .nil)) (.node (o_98 P) (.node (o_162 P) .nil .nil) (.node (o_226 P) .nil .nil))) (.node (o_50 P) (.node (fz d82) (.node (o_146 P) .nil .nil) (.node (o_210 P) .nil .nil)) (.node (o_114 P) (.node (o_178 P) .nil .nil) .nil))) (.node (o_26 P) (.node (o_42 P) (.node (o_74 P) (.node (o_138 P) .nil .nil) (.node (o_202 P) .nil .nil)) (.node (o_106 P) (.node (o_170 P) .nil .nil) (.node (o_234 P) .nil .nil))) (.node (fz d58) (.node (o_90 P) (.node (o_154 P) .nil .nil) (.node (o_218 P) .nil .nil)) (.node (o_122 P) (.node (o_186 P) .nil .nil) .nil)))) (.node (o_14 P) (.node (o_22 P) (.node (o_38 P) (.node (o_70 P) (.node (o_134 P) .nil .nil) (.node (o_198 P) .nil .nil)) (.node (o_102 P) (.node (o_166 P) .nil .nil) (.node (o_230 P) .nil .nil))) (.node (o_54 P) (.node (fz d86) (.node (o_150 P) .nil .nil) (.node (o_214 P) .nil .nil)) (.node (o_118 P) (.node (o_182 P) .nil .nil) .nil))) (.node (o_30 P) (.node (o_46 P) (.node (fz d78) (.node (o_142 P) .nil .nil) (.node (o_206 P) .nil .nil)) (.node (o_110 P) (.node (o_174 P) .nil .nil) .nil)) (.node (o_62 P) (.node (o_94 P) (.node (o_158 P) .nil .nil) (.node (o_222 P) .nil .nil)) (.node (o_126 P) (.node (o_190 P) .nil .nil) .nil)))))))
@[irreducible] noncomputable def S_40 (P : Params) (d58 d63 d67 d68 d72 d73 d77 d78 d82 d86 d87 d91 : SD) (os : OsState) : SharedT := ⟨T_40 P d58 d63 d67 d68 d72 d73 d77 d78 d82 d86 d87 d91, 238, {}, #[.finished], {}, 831, os⟩
noncomputable abbrev W_4_0 : Sees := [((.builtin "frozenset.__new__" ⟨[(.type "frozenset"), (.ref 57)], []⟩), ⟨12, 13, 12, 51⟩, none), ((.builtin "type.__call__" ⟨[(.type "frozenset"), (.ref 57)], []⟩), ⟨12, 13, 12, 51⟩, none), (topC, ⟨12, 13, 12, 51⟩, none), ((.builtin "claim.caller" ⟨[], []⟩), ⟨0, 0, 0, 0⟩, none)]
noncomputable abbrev W_4_1 : Sees := [((.builtin "frozenset.__new__" ⟨[(.type "frozenset"), (.str (Str.ofString "\x7f") 378)], []⟩), ⟨12, 54, 12, 73⟩, none), ((.builtin "type.__call__" ⟨[(.type "frozenset"), (.str (Str.ofString "\x7f") 378)], []⟩), ⟨12, 54, 12, 73⟩, none), (topC, ⟨12, 54, 12, 73⟩, none), ((.builtin "claim.caller" ⟨[], []⟩), ⟨0, 0, 0, 0⟩, none)]
noncomputable abbrev W_4_2 : Sees := [(topC, ⟨12, 13, 12, 73⟩, none), ((.builtin "claim.caller" ⟨[], []⟩), ⟨0, 0, 0, 0⟩, none)]
noncomputable abbrev W_5_0 : Sees := [((.builtin "frozenset.__new__" ⟨[(.type "frozenset"), (.str (Str.ofString "\t") 382)], []⟩), ⟨13, 39, 13, 54⟩, none), ((.builtin "type.__call__" ⟨[(.type "frozenset"), (.str (Str.ofString "\t") 382)], []⟩), ⟨13, 39, 13, 54⟩, none), (topC, ⟨13, 39, 13, 54⟩, none), ((.builtin "claim.caller" ⟨[], []⟩), ⟨0, 0, 0, 0⟩, none)]
noncomputable abbrev W_5_1 : Sees := [(topC, ⟨13, 26, 13, 54⟩, none), ((.builtin "claim.caller" ⟨[], []⟩), ⟨0, 0, 0, 0⟩, none)]
noncomputable abbrev W_6_0 : Sees := [((.builtin "frozenset.__new__" ⟨[(.type "frozenset"), (.str (Str.ofString "\t\n") 386)], []⟩), ⟨14, 49, 14, 66⟩, none), ((.builtin "type.__call__" ⟨[(.type "frozenset"), (.str (Str.ofString "\t\n") 386)], []⟩), ⟨14, 49, 14, 66⟩, none), (topC, ⟨14, 49, 14, 66⟩, none), ((.builtin "claim.caller" ⟨[], []⟩), ⟨0, 0, 0, 0⟩, none)]
noncomputable abbrev W_6_1 : Sees := [(topC, ⟨14, 36, 14, 66⟩, none), ((.builtin "claim.caller" ⟨[], []⟩), ⟨0, 0, 0, 0⟩, none)]
noncomputable abbrev W_8_0 : Sees := [((.builtin "frozenset.__new__" ⟨[(.type "frozenset"), (.str (Str.ofString " \t") 393)], []⟩), ⟨16, 10, 16, 26⟩, none), ((.builtin "type.__call__" ⟨[(.type "frozenset"), (.str (Str.ofString " \t") 393)], []⟩), ⟨16, 10, 16, 26⟩, none), (topC, ⟨16, 10, 16, 26⟩, none), ((.builtin "claim.caller" ⟨[], []⟩), ⟨0, 0, 0, 0⟩, none)]
noncomputable abbrev W_9_0 : Sees := [((.builtin "frozenset.__new__" ⟨[(.type "frozenset"), (.str (Str.ofString "\n") 399)], []⟩), ⟨17, 32, 17, 47⟩, none), ((.builtin "type.__call__" ⟨[(.type "frozenset"), (.str (Str.ofString "\n") 399)], []⟩), ⟨17, 32, 17, 47⟩, none), (topC, ⟨17, 32, 17, 47⟩, none), ((.builtin "claim.caller" ⟨[], []⟩), ⟨0, 0, 0, 0⟩, none)]
noncomputable abbrev W_9_1 : Sees := [(topC, ⟨17, 22, 17, 47⟩, none), ((.builtin "claim.caller" ⟨[], []⟩), ⟨0, 0, 0, 0⟩, none)]
noncomputable abbrev W_15_0 : Sees := [((.builtin "frozenset.__new__" ⟨[(.type "frozenset"), (.str (Str.ofString "abcdefghijklmnopqrstuvwxyzABCDEFGHIJKLMNOPQRSTUVWXYZ0123456789-_") 418)], []⟩), ⟨23, 17, 23, 57⟩, none), ((.builtin "type.__call__" ⟨[(.type "frozenset"), (.str (Str.ofString "abcdefghijklmnopqrstuvwxyzABCDEFGHIJKLMNOPQRSTUVWXYZ0123456789-_") 418)], []⟩), ⟨23, 17, 23, 57⟩, none), (topC, ⟨23, 17, 23, 57⟩, none), ((.builtin "claim.caller" ⟨[], []⟩), ⟨0, 0, 0, 0⟩, none)]
noncomputable abbrev W_16_0 : Sees := [((.builtin "frozenset.__new__" ⟨[(.type "frozenset"), (.str (Str.ofString "0123456789abcdefABCDEF") 414)], []⟩), ⟨24, 17, 24, 37⟩, none), ((.builtin "type.__call__" ⟨[(.type "frozenset"), (.str (Str.ofString "0123456789abcdefABCDEF") 414)], []⟩), ⟨24, 17, 24, 37⟩, none), (topC, ⟨24, 17, 24, 37⟩, none), ((.builtin "claim.caller" ⟨[], []⟩), ⟨0, 0, 0, 0⟩, none)]
theorem flag {P : World → Prop} (row : String) (h : ∀ (w : World) (b : Bool), P (w.withFollow row b)) : ∀ w, P w := fun w => World.withFollow_self w row ▸ h w _
noncomputable abbrev pT (i : Nat) (pos : Pos) : Thread := piecesOf [stmtAt i] topEnv topC pos B0
noncomputable abbrev sg (l : List (Nat × Tok)) : List (Str × Tok) := l.map fun x => (⟨#[x.1]⟩, x.2)
-- the library's fast twins of the machine's parts
theorem segO_tw : segO treeTable pr = fun w n₀ ann n as s t => segOG (PySem.W.Fast.tw10156331382660048174 (PySem.W.Fast.tw11892475500146522536 PySem.W.Fast.tw14364793385576792824) pr w) (PySem.W.Fast.tw6613529449190102663 n₀ ann) n as s t := by
  funext w n₀ ann n as s t
  unfold segO
  rw [PySem.W.Fast.te10156331382660048174, PySem.W.Fast.te11892475500146522536, PySem.W.Fast.te14364793385576792824, PySem.W.Fast.te6613529449190102663]
theorem pT_tw : pT = fun i pos => ⟨(PySem.W.Fast.tw12563942051412417395 [stmtAt i] topEnv).wrap doneF deadEnd id id, topC, pos, B0⟩ := by
  funext i pos
  unfold pT piecesOf
  rw [PySem.W.Fast.te12563942051412417395]
theorem nextRun_tw : nextRun treeTable = fun p w n₀ ann n it c B pos S => match PySem.W.Fast.tw10110043849684766642 PySem.W.Fast.tw14364793385576792824 p w n₀ ann B.length n S ⟨(PySem.W.Fast.tw9404975358583537561 it).wrap (fun r => .pure (.done (enc r))) deadEnd id id, c, pos, B⟩ with
    | some (f, S', c', _) => some (f, S', c')
    | none => none := by
  funext p w n₀ ann n it c B pos S
  unfold nextRun
  rw [PySem.W.Fast.te10110043849684766642, PySem.W.Fast.te14364793385576792824, PySem.W.Fast.te9404975358583537561]
  all_goals rfl
theorem a_4_0 : ∀ (w : World) (os : OsState), segO treeTable pr w 11 topA 400 [] (S_3 w.params os) (pT 4 ⟨11, 0, 11, 13⟩) = some (.asks (S_4_0a w.params os) (lpC 58 (.ref 57)) W_4_0) := by
  rw [segO_tw, pT_tw]
  refine flag "special-get-raises" fun w b0 => ?_
  revert w
  refine flag "comprehension-iter-twice" fun w b1 => ?_
  cases b0 <;> cases b1 <;> (intros; kernel_rfl)
noncomputable abbrev x_58 : List (Str × Tok) := sg [(0, 251), (1, 255), (2, 259), (3, 263), (4, 267), (5, 271), (6, 275), (7, 279), (8, 283), (9, 287), (10, 291), (11, 295), (12, 299), (13, 303), (14, 307), (15, 311), (16, 315), (17, 319), (18, 323), (19, 327), (20, 331), (21, 335), (22, 339), (23, 343), (24, 347), (25, 351), (26, 355), (27, 359), (28, 363), (29, 367), (30, 371), (31, 375)]
theorem l_4_0 : ∀ (w : World) (os : OsState) (k1 k2 k3 k4 : Result → Sem PySem.Fin) (g1 g2 g3 g4 : Bool) (l1 l2 l3 l4 kp1 kp2 kp3 kp4 : List Value) (D : Nat → SD) (P : Nat → Pos) (pos : Pos), loopRun (nextRun treeTable pr w 11 topA 100 (.ref 57) (lpC 58 (.ref 57)) [.ret k1 none g1 l1 (.builtin "frozenset.__new__" ⟨[(.type "frozenset"), (.ref 57)], []⟩) ⟨12, 13, 12, 51⟩ kp1, .ret k2 none g2 l2 (.builtin "type.__call__" ⟨[(.type "frozenset"), (.ref 57)], []⟩) ⟨12, 13, 12, 51⟩ kp2, .ret k3 none g3 l3 topC ⟨12, 13, 12, 51⟩ kp3, .ret k4 none g4 l4 (.builtin "claim.caller" ⟨[], []⟩) ⟨0, 0, 0, 0⟩ kp4]) 58 (mkL D P 32 0) pos (S_4_0a w.params os) = some ((S_4_0b w.params (D 31) os), trace (lpC 58 (.ref 57)) (frozO #[] 0 (freshT w)) (mkL D P 32 0) x_58) := by
  rw [nextRun_tw]
  refine flag "comprehension-iter-twice" fun w b0 => ?_
  revert w
  refine flag "special-get-raises" fun w b1 => ?_
  cases b0 <;> cases b1 <;> (intros; kernel_rfl)
theorem a_4_1 : ∀ (w : World) (os : OsState) (d58 : SD), segO treeTable pr w 11 topA 400 [((S_4_0b w.params d58 os), .none)] (S_3 w.params os) (pT 4 ⟨11, 0, 11, 13⟩) = some (.asks (S_4_1a w.params d58 os) (lpC 63 (.ref 64)) W_4_1) := by
  rw [segO_tw, pT_tw]
  refine flag "special-get-raises" fun w b0 => ?_
  revert w
  refine flag "comprehension-iter-twice" fun w b1 => ?_
  cases b0 <;> cases b1 <;> (intros; kernel_rfl)
noncomputable abbrev x_63 : List (Str × Tok) := sg [(127, 379)]
theorem l_4_1 : ∀ (w : World) (os : OsState) (d58 : SD) (k1 k2 k3 k4 : Result → Sem PySem.Fin) (g1 g2 g3 g4 : Bool) (l1 l2 l3 l4 kp1 kp2 kp3 kp4 : List Value) (D : Nat → SD) (P : Nat → Pos) (pos : Pos), loopRun (nextRun treeTable pr w 11 topA 100 (.ref 64) (lpC 63 (.ref 64)) [.ret k1 none g1 l1 (.builtin "frozenset.__new__" ⟨[(.type "frozenset"), (.str (Str.ofString "\x7f") 378)], []⟩) ⟨12, 54, 12, 73⟩ kp1, .ret k2 none g2 l2 (.builtin "type.__call__" ⟨[(.type "frozenset"), (.str (Str.ofString "\x7f") 378)], []⟩) ⟨12, 54, 12, 73⟩ kp2, .ret k3 none g3 l3 topC ⟨12, 54, 12, 73⟩ kp3, .ret k4 none g4 l4 (.builtin "claim.caller" ⟨[], []⟩) ⟨0, 0, 0, 0⟩ kp4]) 63 (mkL D P 1 0) pos (S_4_1a w.params d58 os) = some ((S_4_1b w.params d58 (D 0) os), trace (lpC 63 (.ref 64)) (frozO #[] 0 (freshT w)) (mkL D P 1 0) x_63) := by
  rw [nextRun_tw]
  intros; kernel_rfl
theorem a_4_2 : ∀ (w : World) (os : OsState) (d58 d63 : SD), segO treeTable pr w 11 topA 400 [((S_4_0b w.params d58 os), .none), ((S_4_1b w.params d58 d63 os), .none)] (S_3 w.params os) (pT 4 ⟨11, 0, 11, 13⟩) = some (.asks (S_4_2a w.params d58 d63 os) (.builtin "frozenset.__or__" ⟨[.ref 58, .ref 63], []⟩) W_4_2) := by
  rw [segO_tw, pT_tw]
  refine flag "special-get-raises" fun w b0 => ?_
  revert w
  refine flag "comprehension-iter-twice" fun w b1 => ?_
  cases b0 <;> cases b1 <;> (intros; kernel_rfl)
theorem e_4 : ∀ (w : World) (os : OsState) (d58 d63 d67 : SD), segO treeTable pr w 11 topA 400 [((S_4_0b w.params d58 os), .none), ((S_4_1b w.params d58 d63 os), .none), ((S_4_2b w.params d58 d63 d67 os), .ref 67)] (S_3 w.params os) (pT 4 ⟨11, 0, 11, 13⟩) = some (.ends .next (S_4 w.params d58 d63 d67 os) topC ⟨12, 0, 12, 10⟩) := by
  rw [segO_tw, pT_tw]
  refine flag "special-get-raises" fun w b0 => ?_
  revert w
  refine flag "comprehension-iter-twice" fun w b1 => ?_
  cases b0 <;> cases b1 <;> (intros; kernel_rfl)
theorem a_5_0 : ∀ (w : World) (os : OsState) (d58 d63 d67 : SD), segO treeTable pr w 11 topA 400 [] (S_4 w.params d58 d63 d67 os) (pT 5 ⟨12, 0, 12, 10⟩) = some (.asks (S_5_0a w.params d58 d63 d67 os) (lpC 68 (.ref 69)) W_5_0) := by
  rw [segO_tw, pT_tw]
  refine flag "special-get-raises" fun w b0 => ?_
  cases b0 <;> (intros; kernel_rfl)
noncomputable abbrev x_68 : List (Str × Tok) := sg [(9, 383)]
theorem l_5_0 : ∀ (w : World) (os : OsState) (d58 d63 d67 : SD) (k1 k2 k3 k4 : Result → Sem PySem.Fin) (g1 g2 g3 g4 : Bool) (l1 l2 l3 l4 kp1 kp2 kp3 kp4 : List Value) (D : Nat → SD) (P : Nat → Pos) (pos : Pos), loopRun (nextRun treeTable pr w 11 topA 100 (.ref 69) (lpC 68 (.ref 69)) [.ret k1 none g1 l1 (.builtin "frozenset.__new__" ⟨[(.type "frozenset"), (.str (Str.ofString "\t") 382)], []⟩) ⟨13, 39, 13, 54⟩ kp1, .ret k2 none g2 l2 (.builtin "type.__call__" ⟨[(.type "frozenset"), (.str (Str.ofString "\t") 382)], []⟩) ⟨13, 39, 13, 54⟩ kp2, .ret k3 none g3 l3 topC ⟨13, 39, 13, 54⟩ kp3, .ret k4 none g4 l4 (.builtin "claim.caller" ⟨[], []⟩) ⟨0, 0, 0, 0⟩ kp4]) 68 (mkL D P 1 0) pos (S_5_0a w.params d58 d63 d67 os) = some ((S_5_0b w.params d58 d63 d67 (D 0) os), trace (lpC 68 (.ref 69)) (frozO #[] 0 (freshT w)) (mkL D P 1 0) x_68) := by
  rw [nextRun_tw]
  intros; kernel_rfl
theorem a_5_1 : ∀ (w : World) (os : OsState) (d58 d63 d67 d68 : SD), segO treeTable pr w 11 topA 400 [((S_5_0b w.params d58 d63 d67 d68 os), .none)] (S_4 w.params d58 d63 d67 os) (pT 5 ⟨12, 0, 12, 10⟩) = some (.asks (S_5_1a w.params d58 d63 d67 d68 os) (.builtin "frozenset.__sub__" ⟨[.ref 67, .ref 68], []⟩) W_5_1) := by
  rw [segO_tw, pT_tw]
  refine flag "special-get-raises" fun w b0 => ?_
  cases b0 <;> (intros; kernel_rfl)
theorem e_5 : ∀ (w : World) (os : OsState) (d58 d63 d67 d68 d72 : SD), segO treeTable pr w 11 topA 400 [((S_5_0b w.params d58 d63 d67 d68 os), .none), ((S_5_1b w.params d58 d63 d67 d68 d72 os), .ref 72)] (S_4 w.params d58 d63 d67 os) (pT 5 ⟨12, 0, 12, 10⟩) = some (.ends .next (S_5 w.params d58 d63 d67 d68 d72 os) topC ⟨13, 0, 13, 23⟩) := by
  rw [segO_tw, pT_tw]
  refine flag "special-get-raises" fun w b0 => ?_
  cases b0 <;> (intros; kernel_rfl)
theorem a_6_0 : ∀ (w : World) (os : OsState) (d58 d63 d67 d68 d72 : SD), segO treeTable pr w 11 topA 400 [] (S_5 w.params d58 d63 d67 d68 d72 os) (pT 6 ⟨13, 0, 13, 23⟩) = some (.asks (S_6_0a w.params d58 d63 d67 d68 d72 os) (lpC 73 (.ref 74)) W_6_0) := by
  rw [segO_tw, pT_tw]
  refine flag "special-get-raises" fun w b0 => ?_
  cases b0 <;> (intros; kernel_rfl)
noncomputable abbrev x_73 : List (Str × Tok) := sg [(9, 387), (10, 389)]
theorem l_6_0 : ∀ (w : World) (os : OsState) (d58 d63 d67 d68 d72 : SD) (k1 k2 k3 k4 : Result → Sem PySem.Fin) (g1 g2 g3 g4 : Bool) (l1 l2 l3 l4 kp1 kp2 kp3 kp4 : List Value) (D : Nat → SD) (P : Nat → Pos) (pos : Pos), loopRun (nextRun treeTable pr w 11 topA 100 (.ref 74) (lpC 73 (.ref 74)) [.ret k1 none g1 l1 (.builtin "frozenset.__new__" ⟨[(.type "frozenset"), (.str (Str.ofString "\t\n") 386)], []⟩) ⟨14, 49, 14, 66⟩ kp1, .ret k2 none g2 l2 (.builtin "type.__call__" ⟨[(.type "frozenset"), (.str (Str.ofString "\t\n") 386)], []⟩) ⟨14, 49, 14, 66⟩ kp2, .ret k3 none g3 l3 topC ⟨14, 49, 14, 66⟩ kp3, .ret k4 none g4 l4 (.builtin "claim.caller" ⟨[], []⟩) ⟨0, 0, 0, 0⟩ kp4]) 73 (mkL D P 2 0) pos (S_6_0a w.params d58 d63 d67 d68 d72 os) = some ((S_6_0b w.params d58 d63 d67 d68 d72 (D 1) os), trace (lpC 73 (.ref 74)) (frozO #[] 0 (freshT w)) (mkL D P 2 0) x_73) := by
  rw [nextRun_tw]
  intros; kernel_rfl
theorem a_6_1 : ∀ (w : World) (os : OsState) (d58 d63 d67 d68 d72 d73 : SD), segO treeTable pr w 11 topA 400 [((S_6_0b w.params d58 d63 d67 d68 d72 d73 os), .none)] (S_5 w.params d58 d63 d67 d68 d72 os) (pT 6 ⟨13, 0, 13, 23⟩) = some (.asks (S_6_1a w.params d58 d63 d67 d68 d72 d73 os) (.builtin "frozenset.__sub__" ⟨[.ref 67, .ref 73], []⟩) W_6_1) := by
  rw [segO_tw, pT_tw]
  refine flag "special-get-raises" fun w b0 => ?_
  cases b0 <;> (intros; kernel_rfl)
theorem e_6 : ∀ (w : World) (os : OsState) (d58 d63 d67 d68 d72 d73 d77 : SD), segO treeTable pr w 11 topA 400 [((S_6_0b w.params d58 d63 d67 d68 d72 d73 os), .none), ((S_6_1b w.params d58 d63 d67 d68 d72 d73 d77 os), .ref 77)] (S_5 w.params d58 d63 d67 d68 d72 os) (pT 6 ⟨13, 0, 13, 23⟩) = some (.ends .next (S_6 w.params d58 d63 d67 d68 d72 d73 d77 os) topC ⟨14, 0, 14, 33⟩) := by
  rw [segO_tw, pT_tw]
  refine flag "special-get-raises" fun w b0 => ?_
  cases b0 <;> (intros; kernel_rfl)
theorem a_8_0 : ∀ (w : World) (os : OsState) (d58 d63 d67 d68 d72 d73 d77 : SD), segO treeTable pr w 11 topA 400 [] (S_7 w.params d58 d63 d67 d68 d72 d73 d77 os) (pT 8 ⟨15, 0, 15, 25⟩) = some (.asks (S_8_0a w.params d58 d63 d67 d68 d72 d73 d77 os) (lpC 78 (.ref 79)) W_8_0) := by
  rw [segO_tw, pT_tw]
  refine flag "special-get-raises" fun w b0 => ?_
  cases b0 <;> (intros; kernel_rfl)
noncomputable abbrev x_78 : List (Str × Tok) := sg [(32, 394), (9, 396)]
theorem l_8_0 : ∀ (w : World) (os : OsState) (d58 d63 d67 d68 d72 d73 d77 : SD) (k1 k2 k3 k4 : Result → Sem PySem.Fin) (g1 g2 g3 g4 : Bool) (l1 l2 l3 l4 kp1 kp2 kp3 kp4 : List Value) (D : Nat → SD) (P : Nat → Pos) (pos : Pos), loopRun (nextRun treeTable pr w 11 topA 100 (.ref 79) (lpC 78 (.ref 79)) [.ret k1 none g1 l1 (.builtin "frozenset.__new__" ⟨[(.type "frozenset"), (.str (Str.ofString " \t") 393)], []⟩) ⟨16, 10, 16, 26⟩ kp1, .ret k2 none g2 l2 (.builtin "type.__call__" ⟨[(.type "frozenset"), (.str (Str.ofString " \t") 393)], []⟩) ⟨16, 10, 16, 26⟩ kp2, .ret k3 none g3 l3 topC ⟨16, 10, 16, 26⟩ kp3, .ret k4 none g4 l4 (.builtin "claim.caller" ⟨[], []⟩) ⟨0, 0, 0, 0⟩ kp4]) 78 (mkL D P 2 0) pos (S_8_0a w.params d58 d63 d67 d68 d72 d73 d77 os) = some ((S_8_0b w.params d58 d63 d67 d68 d72 d73 d77 (D 1) os), trace (lpC 78 (.ref 79)) (frozO #[] 0 (freshT w)) (mkL D P 2 0) x_78) := by
  rw [nextRun_tw]
  intros; kernel_rfl
theorem e_8 : ∀ (w : World) (os : OsState) (d58 d63 d67 d68 d72 d73 d77 d78 : SD), segO treeTable pr w 11 topA 400 [((S_8_0b w.params d58 d63 d67 d68 d72 d73 d77 d78 os), .none)] (S_7 w.params d58 d63 d67 d68 d72 d73 d77 os) (pT 8 ⟨15, 0, 15, 25⟩) = some (.ends .next (S_8 w.params d58 d63 d67 d68 d72 d73 d77 d78 os) topC ⟨16, 0, 16, 7⟩) := by
  rw [segO_tw, pT_tw]
  refine flag "special-get-raises" fun w b0 => ?_
  cases b0 <;> (intros; kernel_rfl)
theorem a_9_0 : ∀ (w : World) (os : OsState) (d58 d63 d67 d68 d72 d73 d77 d78 : SD), segO treeTable pr w 11 topA 400 [] (S_8 w.params d58 d63 d67 d68 d72 d73 d77 d78 os) (pT 9 ⟨16, 0, 16, 7⟩) = some (.asks (S_9_0a w.params d58 d63 d67 d68 d72 d73 d77 d78 os) (lpC 82 (.ref 83)) W_9_0) := by
  rw [segO_tw, pT_tw]
  refine flag "special-get-raises" fun w b0 => ?_
  cases b0 <;> (intros; kernel_rfl)
noncomputable abbrev x_82 : List (Str × Tok) := sg [(10, 400)]
theorem l_9_0 : ∀ (w : World) (os : OsState) (d58 d63 d67 d68 d72 d73 d77 d78 : SD) (k1 k2 k3 k4 : Result → Sem PySem.Fin) (g1 g2 g3 g4 : Bool) (l1 l2 l3 l4 kp1 kp2 kp3 kp4 : List Value) (D : Nat → SD) (P : Nat → Pos) (pos : Pos), loopRun (nextRun treeTable pr w 11 topA 100 (.ref 83) (lpC 82 (.ref 83)) [.ret k1 none g1 l1 (.builtin "frozenset.__new__" ⟨[(.type "frozenset"), (.str (Str.ofString "\n") 399)], []⟩) ⟨17, 32, 17, 47⟩ kp1, .ret k2 none g2 l2 (.builtin "type.__call__" ⟨[(.type "frozenset"), (.str (Str.ofString "\n") 399)], []⟩) ⟨17, 32, 17, 47⟩ kp2, .ret k3 none g3 l3 topC ⟨17, 32, 17, 47⟩ kp3, .ret k4 none g4 l4 (.builtin "claim.caller" ⟨[], []⟩) ⟨0, 0, 0, 0⟩ kp4]) 82 (mkL D P 1 0) pos (S_9_0a w.params d58 d63 d67 d68 d72 d73 d77 d78 os) = some ((S_9_0b w.params d58 d63 d67 d68 d72 d73 d77 d78 (D 0) os), trace (lpC 82 (.ref 83)) (frozO #[] 0 (freshT w)) (mkL D P 1 0) x_82) := by
  rw [nextRun_tw]
  intros; kernel_rfl
theorem a_9_1 : ∀ (w : World) (os : OsState) (d58 d63 d67 d68 d72 d73 d77 d78 d82 : SD), segO treeTable pr w 11 topA 400 [((S_9_0b w.params d58 d63 d67 d68 d72 d73 d77 d78 d82 os), .none)] (S_8 w.params d58 d63 d67 d68 d72 d73 d77 d78 os) (pT 9 ⟨16, 0, 16, 7⟩) = some (.asks (S_9_1a w.params d58 d63 d67 d68 d72 d73 d77 d78 d82 os) (.builtin "frozenset.__or__" ⟨[.ref 78, .ref 82], []⟩) W_9_1) := by
  rw [segO_tw, pT_tw]
  refine flag "special-get-raises" fun w b0 => ?_
  cases b0 <;> (intros; kernel_rfl)
theorem e_9 : ∀ (w : World) (os : OsState) (d58 d63 d67 d68 d72 d73 d77 d78 d82 d86 : SD), segO treeTable pr w 11 topA 400 [((S_9_0b w.params d58 d63 d67 d68 d72 d73 d77 d78 d82 os), .none), ((S_9_1b w.params d58 d63 d67 d68 d72 d73 d77 d78 d82 d86 os), .ref 86)] (S_8 w.params d58 d63 d67 d68 d72 d73 d77 d78 os) (pT 9 ⟨16, 0, 16, 7⟩) = some (.ends .next (S_9 w.params d58 d63 d67 d68 d72 d73 d77 d78 d82 d86 os) topC ⟨17, 0, 17, 19⟩) := by
  rw [segO_tw, pT_tw]
  refine flag "special-get-raises" fun w b0 => ?_
  cases b0 <;> (intros; kernel_rfl)
theorem a_15_0 : ∀ (w : World) (os : OsState) (d58 d63 d67 d68 d72 d73 d77 d78 d82 d86 : SD), segO treeTable pr w 11 topA 400 [] (S_14 w.params d58 d63 d67 d68 d72 d73 d77 d78 d82 d86 os) (pT 15 ⟨22, 0, 22, 9⟩) = some (.asks (S_15_0a w.params d58 d63 d67 d68 d72 d73 d77 d78 d82 d86 os) (lpC 87 (.ref 88)) W_15_0) := by
  rw [segO_tw, pT_tw]
  refine flag "special-get-raises" fun w b0 => ?_
  cases b0 <;> (intros; kernel_rfl)
noncomputable abbrev x_87 : List (Str × Tok) := sg [(97, 419), (98, 421), (99, 423), (100, 425), (101, 427), (102, 429), (103, 431), (104, 433), (105, 435), (106, 437), (107, 439), (108, 441), (109, 443), (110, 445), (111, 447), (112, 449), (113, 451), (114, 453), (115, 455), (116, 457), (117, 459), (118, 461), (119, 463), (120, 465), (121, 467), (122, 469), (65, 471), (66, 473), (67, 475), (68, 477), (69, 479), (70, 481), (71, 483), (72, 485), (73, 487), (74, 489), (75, 491), (76, 493), (77, 495), (78, 497), (79, 499), (80, 501), (81, 503), (82, 505), (83, 507), (84, 509), (85, 511), (86, 513), (87, 515), (88, 517), (89, 519), (90, 521), (48, 523), (49, 525), (50, 527), (51, 529), (52, 531), (53, 533), (54, 535), (55, 537), (56, 539), (57, 541), (45, 543), (95, 545)]
theorem l_15_0 : ∀ (w : World) (os : OsState) (d58 d63 d67 d68 d72 d73 d77 d78 d82 d86 : SD) (k1 k2 k3 k4 : Result → Sem PySem.Fin) (g1 g2 g3 g4 : Bool) (l1 l2 l3 l4 kp1 kp2 kp3 kp4 : List Value) (D : Nat → SD) (P : Nat → Pos) (pos : Pos), loopRun (nextRun treeTable pr w 11 topA 100 (.ref 88) (lpC 87 (.ref 88)) [.ret k1 none g1 l1 (.builtin "frozenset.__new__" ⟨[(.type "frozenset"), (.str (Str.ofString "abcdefghijklmnopqrstuvwxyzABCDEFGHIJKLMNOPQRSTUVWXYZ0123456789-_") 418)], []⟩) ⟨23, 17, 23, 57⟩ kp1, .ret k2 none g2 l2 (.builtin "type.__call__" ⟨[(.type "frozenset"), (.str (Str.ofString "abcdefghijklmnopqrstuvwxyzABCDEFGHIJKLMNOPQRSTUVWXYZ0123456789-_") 418)], []⟩) ⟨23, 17, 23, 57⟩ kp2, .ret k3 none g3 l3 topC ⟨23, 17, 23, 57⟩ kp3, .ret k4 none g4 l4 (.builtin "claim.caller" ⟨[], []⟩) ⟨0, 0, 0, 0⟩ kp4]) 87 (mkL D P 64 0) pos (S_15_0a w.params d58 d63 d67 d68 d72 d73 d77 d78 d82 d86 os) = some ((S_15_0b w.params d58 d63 d67 d68 d72 d73 d77 d78 d82 d86 (D 63) os), trace (lpC 87 (.ref 88)) (frozO #[] 0 (freshT w)) (mkL D P 64 0) x_87) := by
  rw [nextRun_tw]
  intros; kernel_rfl
theorem e_15 : ∀ (w : World) (os : OsState) (d58 d63 d67 d68 d72 d73 d77 d78 d82 d86 d87 : SD), segO treeTable pr w 11 topA 400 [((S_15_0b w.params d58 d63 d67 d68 d72 d73 d77 d78 d82 d86 d87 os), .none)] (S_14 w.params d58 d63 d67 d68 d72 d73 d77 d78 d82 d86 os) (pT 15 ⟨22, 0, 22, 9⟩) = some (.ends .next (S_15 w.params d58 d63 d67 d68 d72 d73 d77 d78 d82 d86 d87 os) topC ⟨23, 0, 23, 14⟩) := by
  rw [segO_tw, pT_tw]
  refine flag "special-get-raises" fun w b0 => ?_
  cases b0 <;> (intros; kernel_rfl)
theorem a_16_0 : ∀ (w : World) (os : OsState) (d58 d63 d67 d68 d72 d73 d77 d78 d82 d86 d87 : SD), segO treeTable pr w 11 topA 400 [] (S_15 w.params d58 d63 d67 d68 d72 d73 d77 d78 d82 d86 d87 os) (pT 16 ⟨23, 0, 23, 14⟩) = some (.asks (S_16_0a w.params d58 d63 d67 d68 d72 d73 d77 d78 d82 d86 d87 os) (lpC 91 (.ref 92)) W_16_0) := by
  rw [segO_tw, pT_tw]
  refine flag "special-get-raises" fun w b0 => ?_
  cases b0 <;> (intros; kernel_rfl)
noncomputable abbrev x_91 : List (Str × Tok) := sg [(48, 548), (49, 550), (50, 552), (51, 554), (52, 556), (53, 558), (54, 560), (55, 562), (56, 564), (57, 566), (97, 568), (98, 570), (99, 572), (100, 574), (101, 576), (102, 578), (65, 580), (66, 582), (67, 584), (68, 586), (69, 588), (70, 590)]
theorem l_16_0 : ∀ (w : World) (os : OsState) (d58 d63 d67 d68 d72 d73 d77 d78 d82 d86 d87 : SD) (k1 k2 k3 k4 : Result → Sem PySem.Fin) (g1 g2 g3 g4 : Bool) (l1 l2 l3 l4 kp1 kp2 kp3 kp4 : List Value) (D : Nat → SD) (P : Nat → Pos) (pos : Pos), loopRun (nextRun treeTable pr w 11 topA 100 (.ref 92) (lpC 91 (.ref 92)) [.ret k1 none g1 l1 (.builtin "frozenset.__new__" ⟨[(.type "frozenset"), (.str (Str.ofString "0123456789abcdefABCDEF") 414)], []⟩) ⟨24, 17, 24, 37⟩ kp1, .ret k2 none g2 l2 (.builtin "type.__call__" ⟨[(.type "frozenset"), (.str (Str.ofString "0123456789abcdefABCDEF") 414)], []⟩) ⟨24, 17, 24, 37⟩ kp2, .ret k3 none g3 l3 topC ⟨24, 17, 24, 37⟩ kp3, .ret k4 none g4 l4 (.builtin "claim.caller" ⟨[], []⟩) ⟨0, 0, 0, 0⟩ kp4]) 91 (mkL D P 22 0) pos (S_16_0a w.params d58 d63 d67 d68 d72 d73 d77 d78 d82 d86 d87 os) = some ((S_16_0b w.params d58 d63 d67 d68 d72 d73 d77 d78 d82 d86 d87 (D 21) os), trace (lpC 91 (.ref 92)) (frozO #[] 0 (freshT w)) (mkL D P 22 0) x_91) := by
  rw [nextRun_tw]
  intros; kernel_rfl
theorem e_16 : ∀ (w : World) (os : OsState) (d58 d63 d67 d68 d72 d73 d77 d78 d82 d86 d87 d91 : SD), segO treeTable pr w 11 topA 400 [((S_16_0b w.params d58 d63 d67 d68 d72 d73 d77 d78 d82 d86 d87 d91 os), .none)] (S_15 w.params d58 d63 d67 d68 d72 d73 d77 d78 d82 d86 d87 os) (pT 16 ⟨23, 0, 23, 14⟩) = some (.ends .next (S_16 w.params d58 d63 d67 d68 d72 d73 d77 d78 d82 d86 d87 d91 os) topC ⟨24, 0, 24, 14⟩) := by
  rw [segO_tw, pT_tw]
  refine flag "special-get-raises" fun w b0 => ?_
  cases b0 <;> (intros; kernel_rfl)
noncomputable abbrev ch (l : List Nat) : List Str := l.map fun c => ⟨#[c]⟩
theorem perm_ch {a b : List Nat} (h : a.Perm b) : (ch a).Perm (ch b) := h.map _
theorem Ob.more {tb : String → Option Builtin} {p : Program} {w : World} {n₀ : Nat} {ann : Option Value} {m m' : Nat} {S : SharedT} {c : Code} {W : Sees} {S' : SD → SharedT} {v : Value} {G : SD → Prop} (o : Ob tb p w n₀ ann m S c W S' v G) (h : m ≤ m') : Ob tb p w n₀ ann m' S c W S' v G := fun pos k hd g l cd p₀ kept rest h1 h2 => by
  obtain ⟨d, x, y⟩ := o pos k hd g l cd p₀ kept rest h1 h2
  exact ⟨d, x, y.more h⟩
noncomputable abbrev c_58 : List Nat := [0, 1, 2, 3, 4, 5, 6, 7, 8, 9, 10, 11, 12, 13, 14, 15, 16, 17, 18, 19, 20, 21, 22, 23, 24, 25, 26, 27, 28, 29, 30, 31]
theorem ob_4_0 (w : World) (os : OsState) : Ob treeTable pr w 11 topA 8000 (S_4_0a w.params os) (lpC 58 (.ref 57)) W_4_0 (fun d => (S_4_0b w.params d os)) .none (fun d => SetD w d (ch c_58)) := (ob_loop (S2 := fun d => (S_4_0b w.params d os)) (xs := x_58) (n := 31) (by decide) rfl (l_4_0 w os) (by decide +kernel) (by decide)).more (by decide)
noncomputable abbrev c_63 : List Nat := [127]
theorem ob_4_1 (w : World) (os : OsState) (d58 : SD) : Ob treeTable pr w 11 topA 8000 (S_4_1a w.params d58 os) (lpC 63 (.ref 64)) W_4_1 (fun d => (S_4_1b w.params d58 d os)) .none (fun d => SetD w d (ch c_63)) := (ob_loop (S2 := fun d => (S_4_1b w.params d58 d os)) (xs := x_63) (n := 0) (by decide) rfl (l_4_1 w os d58) (by decide +kernel) (by decide)).more (by decide)
noncomputable abbrev c_67 : List Nat := [127, 0, 1, 2, 3, 4, 5, 6, 7, 8, 9, 10, 11, 12, 13, 14, 15, 16, 17, 18, 19, 20, 21, 22, 23, 24, 25, 26, 27, 28, 29, 30, 31]
theorem ob_4_2 (w : World) (os : OsState) (d58 d63 : SD) (g58 : SetD w d58 (ch c_58)) (g63 : SetD w d63 (ch c_63)) : Ob treeTable pr w 11 topA 8000 (S_4_2a w.params d58 d63 os) (.builtin "frozenset.__or__" ⟨[.ref 58, .ref 63], []⟩) W_4_2 (fun d => (S_4_2b w.params d58 d63 d os)) (.ref 67) (fun d => SetD w d (ch c_67)) := (ob_or (S := (S_4_2a w.params d58 d63 os)) (S2 := fun d => (S_4_2b w.params d58 d63 d os)) (l := 58) (c := 63) (xs := ch c_58) (x := ⟨#[127]⟩) (M := 127) (N := 67) (by kernel_rfl) (by decide) (by decide) (by decide) (by kernel_rfl) (by decide) (by kernel_rfl) (fun d => by kernel_rfl) (fun d => by kernel_rfl) g58 g63 (by decide +kernel) (by decide) ⟨.inr ⟨by decide, rfl, good127, by decide⟩, good127, by decide⟩ (by decide) (by decide) (by decide)).more (by decide)
theorem st_4 (w : World) (os : OsState) : ∃ d58 d63 d67, SetD w d58 (ch c_58) ∧ SetD w d63 (ch c_63) ∧ SetD w d67 (ch c_67) ∧ ∃ N, N ≤ 24400 ∧ segRun treeTable pr w 11 topA 1 N (S_3 w.params os).abs (pT 4 ⟨11, 0, 11, 13⟩) = some (.next, (S_4 w.params d58 d63 d67 os).abs, topC, ⟨12, 0, 12, 10⟩) := by
  have R0 := real_nil (tb := treeTable) (p := pr) (w := w) (n₀ := 11) (ann := topA) (m := 8000) 400 (S_3 w.params os) (pT 4 ⟨11, 0, 11, 13⟩)
  obtain ⟨d58, g58, R1⟩ := real_snoc (ob_4_0 w os) (setD_some w _) 400 _ _ _ R0 (a_4_0 w os)
  obtain ⟨d63, g63, R2⟩ := real_snoc (ob_4_1 w os d58) (setD_some w _) 400 _ _ _ R1 (a_4_1 w os d58)
  obtain ⟨d67, g67, R3⟩ := real_snoc (ob_4_2 w os d58 d63 g58 g63) (setD_some w _) 400 _ _ _ R2 (a_4_2 w os d58 d63)
  exact ⟨d58, d63, d67, g58, g63, g67, real_run 400 _ _ _ R3 (e_4 w os d58 d63 d67)⟩
noncomputable abbrev c_68 : List Nat := [9]
theorem ob_5_0 (w : World) (os : OsState) (d58 d63 d67 : SD) : Ob treeTable pr w 11 topA 8000 (S_5_0a w.params d58 d63 d67 os) (lpC 68 (.ref 69)) W_5_0 (fun d => (S_5_0b w.params d58 d63 d67 d os)) .none (fun d => SetD w d (ch c_68)) := (ob_loop (S2 := fun d => (S_5_0b w.params d58 d63 d67 d os)) (xs := x_68) (n := 0) (by decide) rfl (l_5_0 w os d58 d63 d67) (by decide +kernel) (by decide)).more (by decide)
noncomputable abbrev c_72 : List Nat := [127, 0, 1, 2, 3, 4, 5, 6, 7, 8, 10, 11, 12, 13, 14, 15, 16, 17, 18, 19, 20, 21, 22, 23, 24, 25, 26, 27, 28, 29, 30, 31]
theorem ob_5_1 (w : World) (os : OsState) (d58 d63 d67 d68 : SD) (g67 : SetD w d67 (ch c_67)) (g68 : SetD w d68 (ch c_68)) : Ob treeTable pr w 11 topA 8000 (S_5_1a w.params d58 d63 d67 d68 os) (.builtin "frozenset.__sub__" ⟨[.ref 67, .ref 68], []⟩) W_5_1 (fun d => (S_5_1b w.params d58 d63 d67 d68 d os)) (.ref 72) (fun d => SetD w d (ch c_72)) := (ob_sub (S := (S_5_1a w.params d58 d63 d67 d68 os)) (S2 := fun d => (S_5_1b w.params d58 d63 d67 d68 d os)) (l := 67) (c := 68) (xs := ch c_67) (ys := ch c_68) (zs := ch c_72) (M := 127) (N := 72) (by kernel_rfl) (by decide) (by decide) (by decide) (by kernel_rfl) (by decide) (by kernel_rfl) (fun d => by kernel_rfl) (fun d => by kernel_rfl) g67 g68 (perm_ch (b := c_68 ++ c_72) (by decide +kernel)) (by decide +kernel) (by decide +kernel) (by decide) ⟨.inr ⟨by decide, rfl, good127, by decide⟩, good127, by decide⟩ (by decide) (by decide) (by decide) (by decide)).more (by decide)
theorem st_5 (w : World) (os : OsState) (d58 d63 d67 : SD) (g67 : SetD w d67 (ch c_67)) : ∃ d68 d72, SetD w d68 (ch c_68) ∧ SetD w d72 (ch c_72) ∧ ∃ N, N ≤ 16400 ∧ segRun treeTable pr w 11 topA 1 N (S_4 w.params d58 d63 d67 os).abs (pT 5 ⟨12, 0, 12, 10⟩) = some (.next, (S_5 w.params d58 d63 d67 d68 d72 os).abs, topC, ⟨13, 0, 13, 23⟩) := by
  have R0 := real_nil (tb := treeTable) (p := pr) (w := w) (n₀ := 11) (ann := topA) (m := 8000) 400 (S_4 w.params d58 d63 d67 os) (pT 5 ⟨12, 0, 12, 10⟩)
  obtain ⟨d68, g68, R1⟩ := real_snoc (ob_5_0 w os d58 d63 d67) (setD_some w _) 400 _ _ _ R0 (a_5_0 w os d58 d63 d67)
  obtain ⟨d72, g72, R2⟩ := real_snoc (ob_5_1 w os d58 d63 d67 d68 g67 g68) (setD_some w _) 400 _ _ _ R1 (a_5_1 w os d58 d63 d67 d68)
  exact ⟨d68, d72, g68, g72, real_run 400 _ _ _ R2 (e_5 w os d58 d63 d67 d68 d72)⟩
noncomputable abbrev c_73 : List Nat := [9, 10]
theorem ob_6_0 (w : World) (os : OsState) (d58 d63 d67 d68 d72 : SD) : Ob treeTable pr w 11 topA 8000 (S_6_0a w.params d58 d63 d67 d68 d72 os) (lpC 73 (.ref 74)) W_6_0 (fun d => (S_6_0b w.params d58 d63 d67 d68 d72 d os)) .none (fun d => SetD w d (ch c_73)) := (ob_loop (S2 := fun d => (S_6_0b w.params d58 d63 d67 d68 d72 d os)) (xs := x_73) (n := 1) (by decide) rfl (l_6_0 w os d58 d63 d67 d68 d72) (by decide +kernel) (by decide)).more (by decide)
noncomputable abbrev c_77 : List Nat := [127, 0, 1, 2, 3, 4, 5, 6, 7, 8, 11, 12, 13, 14, 15, 16, 17, 18, 19, 20, 21, 22, 23, 24, 25, 26, 27, 28, 29, 30, 31]
theorem ob_6_1 (w : World) (os : OsState) (d58 d63 d67 d68 d72 d73 : SD) (g67 : SetD w d67 (ch c_67)) (g73 : SetD w d73 (ch c_73)) : Ob treeTable pr w 11 topA 8000 (S_6_1a w.params d58 d63 d67 d68 d72 d73 os) (.builtin "frozenset.__sub__" ⟨[.ref 67, .ref 73], []⟩) W_6_1 (fun d => (S_6_1b w.params d58 d63 d67 d68 d72 d73 d os)) (.ref 77) (fun d => SetD w d (ch c_77)) := (ob_sub (S := (S_6_1a w.params d58 d63 d67 d68 d72 d73 os)) (S2 := fun d => (S_6_1b w.params d58 d63 d67 d68 d72 d73 d os)) (l := 67) (c := 73) (xs := ch c_67) (ys := ch c_73) (zs := ch c_77) (M := 127) (N := 77) (by kernel_rfl) (by decide) (by decide) (by decide) (by kernel_rfl) (by decide) (by kernel_rfl) (fun d => by kernel_rfl) (fun d => by kernel_rfl) g67 g73 (perm_ch (b := c_73 ++ c_77) (by decide +kernel)) (by decide +kernel) (by decide +kernel) (by decide) ⟨.inr ⟨by decide, rfl, good127, by decide⟩, good127, by decide⟩ (by decide) (by decide) (by decide) (by decide)).more (by decide)
theorem st_6 (w : World) (os : OsState) (d58 d63 d67 d68 d72 : SD) (g67 : SetD w d67 (ch c_67)) : ∃ d73 d77, SetD w d73 (ch c_73) ∧ SetD w d77 (ch c_77) ∧ ∃ N, N ≤ 16400 ∧ segRun treeTable pr w 11 topA 1 N (S_5 w.params d58 d63 d67 d68 d72 os).abs (pT 6 ⟨13, 0, 13, 23⟩) = some (.next, (S_6 w.params d58 d63 d67 d68 d72 d73 d77 os).abs, topC, ⟨14, 0, 14, 33⟩) := by
  have R0 := real_nil (tb := treeTable) (p := pr) (w := w) (n₀ := 11) (ann := topA) (m := 8000) 400 (S_5 w.params d58 d63 d67 d68 d72 os) (pT 6 ⟨13, 0, 13, 23⟩)
  obtain ⟨d73, g73, R1⟩ := real_snoc (ob_6_0 w os d58 d63 d67 d68 d72) (setD_some w _) 400 _ _ _ R0 (a_6_0 w os d58 d63 d67 d68 d72)
  obtain ⟨d77, g77, R2⟩ := real_snoc (ob_6_1 w os d58 d63 d67 d68 d72 d73 g67 g73) (setD_some w _) 400 _ _ _ R1 (a_6_1 w os d58 d63 d67 d68 d72 d73)
  exact ⟨d73, d77, g73, g77, real_run 400 _ _ _ R2 (e_6 w os d58 d63 d67 d68 d72 d73 d77)⟩
noncomputable abbrev c_78 : List Nat := [32, 9]
theorem ob_8_0 (w : World) (os : OsState) (d58 d63 d67 d68 d72 d73 d77 : SD) : Ob treeTable pr w 11 topA 8000 (S_8_0a w.params d58 d63 d67 d68 d72 d73 d77 os) (lpC 78 (.ref 79)) W_8_0 (fun d => (S_8_0b w.params d58 d63 d67 d68 d72 d73 d77 d os)) .none (fun d => SetD w d (ch c_78)) := (ob_loop (S2 := fun d => (S_8_0b w.params d58 d63 d67 d68 d72 d73 d77 d os)) (xs := x_78) (n := 1) (by decide) rfl (l_8_0 w os d58 d63 d67 d68 d72 d73 d77) (by decide +kernel) (by decide)).more (by decide)
theorem st_8 (w : World) (os : OsState) (d58 d63 d67 d68 d72 d73 d77 : SD) : ∃ d78, SetD w d78 (ch c_78) ∧ ∃ N, N ≤ 8400 ∧ segRun treeTable pr w 11 topA 1 N (S_7 w.params d58 d63 d67 d68 d72 d73 d77 os).abs (pT 8 ⟨15, 0, 15, 25⟩) = some (.next, (S_8 w.params d58 d63 d67 d68 d72 d73 d77 d78 os).abs, topC, ⟨16, 0, 16, 7⟩) := by
  have R0 := real_nil (tb := treeTable) (p := pr) (w := w) (n₀ := 11) (ann := topA) (m := 8000) 400 (S_7 w.params d58 d63 d67 d68 d72 d73 d77 os) (pT 8 ⟨15, 0, 15, 25⟩)
  obtain ⟨d78, g78, R1⟩ := real_snoc (ob_8_0 w os d58 d63 d67 d68 d72 d73 d77) (setD_some w _) 400 _ _ _ R0 (a_8_0 w os d58 d63 d67 d68 d72 d73 d77)
  exact ⟨d78, g78, real_run 400 _ _ _ R1 (e_8 w os d58 d63 d67 d68 d72 d73 d77 d78)⟩
noncomputable abbrev c_82 : List Nat := [10]
theorem ob_9_0 (w : World) (os : OsState) (d58 d63 d67 d68 d72 d73 d77 d78 : SD) : Ob treeTable pr w 11 topA 8000 (S_9_0a w.params d58 d63 d67 d68 d72 d73 d77 d78 os) (lpC 82 (.ref 83)) W_9_0 (fun d => (S_9_0b w.params d58 d63 d67 d68 d72 d73 d77 d78 d os)) .none (fun d => SetD w d (ch c_82)) := (ob_loop (S2 := fun d => (S_9_0b w.params d58 d63 d67 d68 d72 d73 d77 d78 d os)) (xs := x_82) (n := 0) (by decide) rfl (l_9_0 w os d58 d63 d67 d68 d72 d73 d77 d78) (by decide +kernel) (by decide)).more (by decide)
noncomputable abbrev c_86 : List Nat := [10, 32, 9]
theorem ob_9_1 (w : World) (os : OsState) (d58 d63 d67 d68 d72 d73 d77 d78 d82 : SD) (g78 : SetD w d78 (ch c_78)) (g82 : SetD w d82 (ch c_82)) : Ob treeTable pr w 11 topA 8000 (S_9_1a w.params d58 d63 d67 d68 d72 d73 d77 d78 d82 os) (.builtin "frozenset.__or__" ⟨[.ref 78, .ref 82], []⟩) W_9_1 (fun d => (S_9_1b w.params d58 d63 d67 d68 d72 d73 d77 d78 d82 d os)) (.ref 86) (fun d => SetD w d (ch c_86)) := (ob_or (S := (S_9_1a w.params d58 d63 d67 d68 d72 d73 d77 d78 d82 os)) (S2 := fun d => (S_9_1b w.params d58 d63 d67 d68 d72 d73 d77 d78 d82 d os)) (l := 78) (c := 82) (xs := ch c_78) (x := ⟨#[10]⟩) (M := 7) (N := 86) (by kernel_rfl) (by decide) (by decide) (by decide) (by kernel_rfl) (by decide) (by kernel_rfl) (fun d => by kernel_rfl) (fun d => by kernel_rfl) g78 g82 (by decide +kernel) (by decide) ⟨.inl ⟨by decide, rfl⟩, good7, by decide⟩ (by decide) (by decide) (by decide)).more (by decide)
theorem st_9 (w : World) (os : OsState) (d58 d63 d67 d68 d72 d73 d77 d78 : SD) (g78 : SetD w d78 (ch c_78)) : ∃ d82 d86, SetD w d82 (ch c_82) ∧ SetD w d86 (ch c_86) ∧ ∃ N, N ≤ 16400 ∧ segRun treeTable pr w 11 topA 1 N (S_8 w.params d58 d63 d67 d68 d72 d73 d77 d78 os).abs (pT 9 ⟨16, 0, 16, 7⟩) = some (.next, (S_9 w.params d58 d63 d67 d68 d72 d73 d77 d78 d82 d86 os).abs, topC, ⟨17, 0, 17, 19⟩) := by
  have R0 := real_nil (tb := treeTable) (p := pr) (w := w) (n₀ := 11) (ann := topA) (m := 8000) 400 (S_8 w.params d58 d63 d67 d68 d72 d73 d77 d78 os) (pT 9 ⟨16, 0, 16, 7⟩)
  obtain ⟨d82, g82, R1⟩ := real_snoc (ob_9_0 w os d58 d63 d67 d68 d72 d73 d77 d78) (setD_some w _) 400 _ _ _ R0 (a_9_0 w os d58 d63 d67 d68 d72 d73 d77 d78)
  obtain ⟨d86, g86, R2⟩ := real_snoc (ob_9_1 w os d58 d63 d67 d68 d72 d73 d77 d78 d82 g78 g82) (setD_some w _) 400 _ _ _ R1 (a_9_1 w os d58 d63 d67 d68 d72 d73 d77 d78 d82)
  exact ⟨d82, d86, g82, g86, real_run 400 _ _ _ R2 (e_9 w os d58 d63 d67 d68 d72 d73 d77 d78 d82 d86)⟩
noncomputable abbrev c_87 : List Nat := [97, 98, 99, 100, 101, 102, 103, 104, 105, 106, 107, 108, 109, 110, 111, 112, 113, 114, 115, 116, 117, 118, 119, 120, 121, 122, 65, 66, 67, 68, 69, 70, 71, 72, 73, 74, 75, 76, 77, 78, 79, 80, 81, 82, 83, 84, 85, 86, 87, 88, 89, 90, 48, 49, 50, 51, 52, 53, 54, 55, 56, 57, 45, 95]
theorem ob_15_0 (w : World) (os : OsState) (d58 d63 d67 d68 d72 d73 d77 d78 d82 d86 : SD) : Ob treeTable pr w 11 topA 8000 (S_15_0a w.params d58 d63 d67 d68 d72 d73 d77 d78 d82 d86 os) (lpC 87 (.ref 88)) W_15_0 (fun d => (S_15_0b w.params d58 d63 d67 d68 d72 d73 d77 d78 d82 d86 d os)) .none (fun d => SetD w d (ch c_87)) := (ob_loop (S2 := fun d => (S_15_0b w.params d58 d63 d67 d68 d72 d73 d77 d78 d82 d86 d os)) (xs := x_87) (n := 63) (by decide) rfl (l_15_0 w os d58 d63 d67 d68 d72 d73 d77 d78 d82 d86) (by decide +kernel) (by decide)).more (by decide)
theorem st_15 (w : World) (os : OsState) (d58 d63 d67 d68 d72 d73 d77 d78 d82 d86 : SD) : ∃ d87, SetD w d87 (ch c_87) ∧ ∃ N, N ≤ 8400 ∧ segRun treeTable pr w 11 topA 1 N (S_14 w.params d58 d63 d67 d68 d72 d73 d77 d78 d82 d86 os).abs (pT 15 ⟨22, 0, 22, 9⟩) = some (.next, (S_15 w.params d58 d63 d67 d68 d72 d73 d77 d78 d82 d86 d87 os).abs, topC, ⟨23, 0, 23, 14⟩) := by
  have R0 := real_nil (tb := treeTable) (p := pr) (w := w) (n₀ := 11) (ann := topA) (m := 8000) 400 (S_14 w.params d58 d63 d67 d68 d72 d73 d77 d78 d82 d86 os) (pT 15 ⟨22, 0, 22, 9⟩)
  obtain ⟨d87, g87, R1⟩ := real_snoc (ob_15_0 w os d58 d63 d67 d68 d72 d73 d77 d78 d82 d86) (setD_some w _) 400 _ _ _ R0 (a_15_0 w os d58 d63 d67 d68 d72 d73 d77 d78 d82 d86)
  exact ⟨d87, g87, real_run 400 _ _ _ R1 (e_15 w os d58 d63 d67 d68 d72 d73 d77 d78 d82 d86 d87)⟩
noncomputable abbrev c_91 : List Nat := [48, 49, 50, 51, 52, 53, 54, 55, 56, 57, 97, 98, 99, 100, 101, 102, 65, 66, 67, 68, 69, 70]
theorem ob_16_0 (w : World) (os : OsState) (d58 d63 d67 d68 d72 d73 d77 d78 d82 d86 d87 : SD) : Ob treeTable pr w 11 topA 8000 (S_16_0a w.params d58 d63 d67 d68 d72 d73 d77 d78 d82 d86 d87 os) (lpC 91 (.ref 92)) W_16_0 (fun d => (S_16_0b w.params d58 d63 d67 d68 d72 d73 d77 d78 d82 d86 d87 d os)) .none (fun d => SetD w d (ch c_91)) := (ob_loop (S2 := fun d => (S_16_0b w.params d58 d63 d67 d68 d72 d73 d77 d78 d82 d86 d87 d os)) (xs := x_91) (n := 21) (by decide) rfl (l_16_0 w os d58 d63 d67 d68 d72 d73 d77 d78 d82 d86 d87) (by decide +kernel) (by decide)).more (by decide)
theorem st_16 (w : World) (os : OsState) (d58 d63 d67 d68 d72 d73 d77 d78 d82 d86 d87 : SD) : ∃ d91, SetD w d91 (ch c_91) ∧ ∃ N, N ≤ 8400 ∧ segRun treeTable pr w 11 topA 1 N (S_15 w.params d58 d63 d67 d68 d72 d73 d77 d78 d82 d86 d87 os).abs (pT 16 ⟨23, 0, 23, 14⟩) = some (.next, (S_16 w.params d58 d63 d67 d68 d72 d73 d77 d78 d82 d86 d87 d91 os).abs, topC, ⟨24, 0, 24, 14⟩) := by
  have R0 := real_nil (tb := treeTable) (p := pr) (w := w) (n₀ := 11) (ann := topA) (m := 8000) 400 (S_15 w.params d58 d63 d67 d68 d72 d73 d77 d78 d82 d86 d87 os) (pT 16 ⟨23, 0, 23, 14⟩)
  obtain ⟨d91, g91, R1⟩ := real_snoc (ob_16_0 w os d58 d63 d67 d68 d72 d73 d77 d78 d82 d86 d87) (setD_some w _) 400 _ _ _ R0 (a_16_0 w os d58 d63 d67 d68 d72 d73 d77 d78 d82 d86 d87)
  exact ⟨d91, g91, real_run 400 _ _ _ R1 (e_16 w os d58 d63 d67 d68 d72 d73 d77 d78 d82 d86 d87 d91)⟩
theorem segRunT_tw : segRunT treeTable = PySem.W.Fast.tw10110043849684766642 PySem.W.Fast.tw14364793385576792824 := by
  rw [PySem.W.Fast.te10110043849684766642, PySem.W.Fast.te14364793385576792824]
noncomputable abbrev pL (l : List Nat) (pos : Pos) : Thread := piecesOf (l.map stmtAt) topEnv topC pos B0
theorem pL_tw : pL = fun l pos => ⟨(PySem.W.Fast.tw12563942051412417395 (l.map stmtAt) topEnv).wrap doneF deadEnd id id, topC, pos, B0⟩ := by
  funext l pos
  unfold pL piecesOf
  rw [PySem.W.Fast.te12563942051412417395]
theorem pre_ok : ∀ (w : World) (os : OsState), topGo treeTable pr w 11 topA 12 ⟨boot_heap w.params, #[], boot_drawn, boot_toks, os⟩ (topStub pr) = some ((S_block w.params os).abs, ⟨denote treeTable topC, topC, ⟨0, 0, 0, 0⟩, B0⟩) := by
  intros; kernel_rfl
theorem block_ok : ∀ (w : World) (os : OsState), segRun treeTable pr w 11 topA 1 1 (S_block w.params os).abs (blockOf topBody topEnv topC ⟨0, 0, 0, 0⟩ B0) = some (.next, (S_block w.params os).abs, topC, ⟨0, 0, 0, 0⟩) := by
  intros; kernel_rfl
theorem k_3 : ∀ (w : World) (os : OsState), segRunT treeTable pr w 11 topA 1 326 (S_block w.params os) (pL [0, 1, 2, 3] ⟨0, 0, 0, 0⟩) = some (.next, S_3 w.params os, topC, ⟨11, 0, 11, 13⟩) := by
  rw [segRunT_tw, pL_tw]
  intros; kernel_rfl
theorem fin_ok : ∀ (w : World) (os : OsState) (d58 d63 d67 d68 d72 d73 d77 d78 d82 d86 d87 d91 : SD) (pos : Pos), topRun treeTable pr w 11 topA 2 (S_40 w.params d58 d63 d67 d68 d72 d73 d77 d78 d82 d86 d87 d91 os).abs ⟨doneF .next, topC, pos, B0⟩ = some (S_40 w.params d58 d63 d67 d68 d72 d73 d77 d78 d82 d86 d87 d91 os).abs := by
  intros; kernel_rfl
theorem body_is : topBody = ([0, 1, 2, 3].map stmtAt) ++ (([4].map stmtAt) ++ (([5].map stmtAt) ++ (([6].map stmtAt) ++ (([7].map stmtAt) ++ (([8].map stmtAt) ++ (([9].map stmtAt) ++ (([10, 11, 12, 13, 14].map stmtAt) ++ (([15].map stmtAt) ++ (([16].map stmtAt) ++ (([17, 18, 19, 20].map stmtAt) ++ (([21, 22, 23, 24].map stmtAt) ++ (([25, 26, 27, 28].map stmtAt) ++ (([29, 30, 31, 32].map stmtAt) ++ (([33, 34, 35, 36].map stmtAt) ++ (([37, 38, 39, 40].map stmtAt) ++ []))))))))))))))) := by kernel_rfl
theorem k_7 : ∀ (w : World) (os : OsState) (d58 d63 d67 d68 d72 d73 d77 : SD), segRunT treeTable pr w 11 topA 1 11 (S_6 w.params d58 d63 d67 d68 d72 d73 d77 os) (pL [7] ⟨14, 0, 14, 33⟩) = some (.next, (S_7 w.params d58 d63 d67 d68 d72 d73 d77 os), topC, ⟨15, 0, 15, 25⟩) := by
  rw [segRunT_tw, pL_tw]
  intros; kernel_rfl
theorem k_14 : ∀ (w : World) (os : OsState) (d58 d63 d67 d68 d72 d73 d77 d78 d82 d86 : SD), segRunT treeTable pr w 11 topA 1 70 (S_9 w.params d58 d63 d67 d68 d72 d73 d77 d78 d82 d86 os) (pL [10, 11, 12, 13, 14] ⟨17, 0, 17, 19⟩) = some (.next, (S_14 w.params d58 d63 d67 d68 d72 d73 d77 d78 d82 d86 os), topC, ⟨22, 0, 22, 9⟩) := by
  rw [segRunT_tw, pL_tw]
  intros; kernel_rfl
theorem k_20 : ∀ (w : World) (os : OsState) (d58 d63 d67 d68 d72 d73 d77 d78 d82 d86 d87 d91 : SD), segRunT treeTable pr w 11 topA 1 191 (S_16 w.params d58 d63 d67 d68 d72 d73 d77 d78 d82 d86 d87 d91 os) (pL [17, 18, 19, 20] ⟨24, 0, 24, 14⟩) = some (.next, (S_20 w.params d58 d63 d67 d68 d72 d73 d77 d78 d82 d86 d87 d91 os), topC, ⟨28, 0, 28, 29⟩) := by
  rw [segRunT_tw, pL_tw]
  refine flag "special-get-raises" fun w b0 => ?_
  cases b0 <;> (intros; kernel_rfl)
theorem k_24 : ∀ (w : World) (os : OsState) (d58 d63 d67 d68 d72 d73 d77 d78 d82 d86 d87 d91 : SD), segRunT treeTable pr w 11 topA 1 285 (S_20 w.params d58 d63 d67 d68 d72 d73 d77 d78 d82 d86 d87 d91 os) (pL [21, 22, 23, 24] ⟨28, 0, 28, 29⟩) = some (.next, (S_24 w.params d58 d63 d67 d68 d72 d73 d77 d78 d82 d86 d87 d91 os), topC, ⟨50, 0, 67, 43⟩) := by
  rw [segRunT_tw, pL_tw]
  intros; kernel_rfl
theorem k_28 : ∀ (w : World) (os : OsState) (d58 d63 d67 d68 d72 d73 d77 d78 d82 d86 d87 d91 : SD), segRunT treeTable pr w 11 topA 1 131 (S_24 w.params d58 d63 d67 d68 d72 d73 d77 d78 d82 d86 d87 d91 os) (pL [25, 26, 27, 28] ⟨50, 0, 67, 43⟩) = some (.next, (S_28 w.params d58 d63 d67 d68 d72 d73 d77 d78 d82 d86 d87 d91 os), topC, ⟨108, 0, 109, 59⟩) := by
  rw [segRunT_tw, pL_tw]
  intros; kernel_rfl
theorem k_32 : ∀ (w : World) (os : OsState) (d58 d63 d67 d68 d72 d73 d77 d78 d82 d86 d87 d91 : SD), segRunT treeTable pr w 11 topA 1 134 (S_28 w.params d58 d63 d67 d68 d72 d73 d77 d78 d82 d86 d87 d91 os) (pL [29, 30, 31, 32] ⟨108, 0, 109, 59⟩) = some (.next, (S_32 w.params d58 d63 d67 d68 d72 d73 d77 d78 d82 d86 d87 d91 os), topC, ⟨154, 0, 165, 64⟩) := by
  rw [segRunT_tw, pL_tw]
  intros; kernel_rfl
theorem k_36 : ∀ (w : World) (os : OsState) (d58 d63 d67 d68 d72 d73 d77 d78 d82 d86 d87 d91 : SD), segRunT treeTable pr w 11 topA 1 98 (S_32 w.params d58 d63 d67 d68 d72 d73 d77 d78 d82 d86 d87 d91 os) (pL [33, 34, 35, 36] ⟨154, 0, 165, 64⟩) = some (.next, (S_36 w.params d58 d63 d67 d68 d72 d73 d77 d78 d82 d86 d87 d91 os), topC, ⟨171, 0, 175, 86⟩) := by
  rw [segRunT_tw, pL_tw]
  intros; kernel_rfl
theorem k_40 : ∀ (w : World) (os : OsState) (d58 d63 d67 d68 d72 d73 d77 d78 d82 d86 d87 d91 : SD), segRunT treeTable pr w 11 topA 1 142 (S_36 w.params d58 d63 d67 d68 d72 d73 d77 d78 d82 d86 d87 d91 os) (pL [37, 38, 39, 40] ⟨171, 0, 175, 86⟩) = some (.next, (S_40 w.params d58 d63 d67 d68 d72 d73 d77 d78 d82 d86 d87 d91 os), topC, ⟨190, 0, 225, 51⟩) := by
  rw [segRunT_tw, pL_tw]
  intros; kernel_rfl
theorem run_more {w : World} {M : Nat} {s r : Shared} {t : Thread} (e : topRun treeTable pr w 11 topA M s t = some r) (h : M ≤ 200000) : topRun treeTable pr w 11 topA 200000 s t = some r := by
  have m := topRun_mono (200000 - M) _ _ _ _ e
  rw [Nat.add_sub_cancel' h] at m
  exact m
theorem of_body {w : World} {M : Nat} {s : Shared} {r : Option Shared} (e : topRun treeTable pr w 11 topA M s (restOf (([0, 1, 2, 3].map stmtAt) ++ (([4].map stmtAt) ++ (([5].map stmtAt) ++ (([6].map stmtAt) ++ (([7].map stmtAt) ++ (([8].map stmtAt) ++ (([9].map stmtAt) ++ (([10, 11, 12, 13, 14].map stmtAt) ++ (([15].map stmtAt) ++ (([16].map stmtAt) ++ (([17, 18, 19, 20].map stmtAt) ++ (([21, 22, 23, 24].map stmtAt) ++ (([25, 26, 27, 28].map stmtAt) ++ (([29, 30, 31, 32].map stmtAt) ++ (([33, 34, 35, 36].map stmtAt) ++ (([37, 38, 39, 40].map stmtAt) ++ [])))))))))))))))) topEnv topC ⟨0, 0, 0, 0⟩ B0) = r) : topRun treeTable pr w 11 topA M s (restOf topBody topEnv topC ⟨0, 0, 0, 0⟩ B0) = r := by
  rw [body_is]
  exact e
theorem run_ok (w : World) (os : OsState) : ∃ d58 d63 d67 d68 d72 d73 d77 d78 d82 d86 d87 d91, SetD w d72 (ch c_72) ∧ SetD w d78 (ch c_78) ∧ SetD w d87 (ch c_87) ∧ SetD w d91 (ch c_91) ∧
    topRun treeTable pr w 11 topA 200000 ⟨boot_heap w.params, #[], boot_drawn, boot_toks, os⟩ (topStub pr) = some (S_40 w.params d58 d63 d67 d68 d72 d73 d77 d78 d82 d86 d87 d91 os).abs := by
  obtain ⟨d58, d63, d67, g58, g63, g67, N4, b4, r4⟩ := st_4 w os
  obtain ⟨d68, d72, g68, g72, N5, b5, r5⟩ := st_5 w os d58 d63 d67 g67
  obtain ⟨d73, d77, g73, g77, N6, b6, r6⟩ := st_6 w os d58 d63 d67 d68 d72 g67
  obtain ⟨d78, g78, N8, b8, r8⟩ := st_8 w os d58 d63 d67 d68 d72 d73 d77
  obtain ⟨d82, d86, g82, g86, N9, b9, r9⟩ := st_9 w os d58 d63 d67 d68 d72 d73 d77 d78 g78
  obtain ⟨d87, g87, N15, b15, r15⟩ := st_15 w os d58 d63 d67 d68 d72 d73 d77 d78 d82 d86
  obtain ⟨d91, g91, N16, b16, r16⟩ := st_16 w os d58 d63 d67 d68 d72 d73 d77 d78 d82 d86 d87
  refine ⟨d58, d63, d67, d68, d72, d73, d77, d78, d82, d86, d87, d91, g72, g78, g87, g91, ?_⟩
  have e := piece_nil (tb := treeTable) (env := topEnv) (fin_ok w os d58 d63 d67 d68 d72 d73 d77 d78 d82 d86 d87 d91 ⟨190, 0, 225, 51⟩)
  have e := piece_app (segRun_of (k_40 w os d58 d63 d67 d68 d72 d73 d77 d78 d82 d86 d87 d91)) e
  have e := piece_app (segRun_of (k_36 w os d58 d63 d67 d68 d72 d73 d77 d78 d82 d86 d87 d91)) e
  have e := piece_app (segRun_of (k_32 w os d58 d63 d67 d68 d72 d73 d77 d78 d82 d86 d87 d91)) e
  have e := piece_app (segRun_of (k_28 w os d58 d63 d67 d68 d72 d73 d77 d78 d82 d86 d87 d91)) e
  have e := piece_app (segRun_of (k_24 w os d58 d63 d67 d68 d72 d73 d77 d78 d82 d86 d87 d91)) e
  have e := piece_app (segRun_of (k_20 w os d58 d63 d67 d68 d72 d73 d77 d78 d82 d86 d87 d91)) e
  have e := piece_app r16 e
  have e := piece_app r15 e
  have e := piece_app (segRun_of (k_14 w os d58 d63 d67 d68 d72 d73 d77 d78 d82 d86)) e
  have e := piece_app r9 e
  have e := piece_app r8 e
  have e := piece_app (segRun_of (k_7 w os d58 d63 d67 d68 d72 d73 d77)) e
  have e := piece_app r6 e
  have e := piece_app r5 e
  have e := piece_app r4 e
  have e := piece_app (segRun_of (k_3 w os)) e
  have e := of_body e
  have e := piece_block (block_ok w os) e
  have e := go_top (pre_ok w os) e
  exact run_more e (by omega)
theorem setOne_of {w : World} {h : Heap} {a : Addr} {d : SD} {l : List Nat} {f : Nat → Bool} (hg : h.get? a = some (fz d)) (hd : SetD w d (ch l)) (h1 : (List.range 128).all (fun c => f c == decide (c ∈ l)) = true) (h2 : ∀ c, 128 ≤ c → f c = false) (h3 : l.all (· < 128) = true) (h4 : l.length < 4096) : SetOne w h a f := by
  obtain ⟨es, ep, t, rfl, a1, a2, a3, a4⟩ := hd
  have hf : ∀ c, f c = decide (c ∈ l) := fun c => by
    rcases Nat.lt_or_ge c 128 with q | q
    · have := List.all_eq_true.mp h1 c (List.mem_range.mpr q)
      exact beq_iff_eq.mp this
    · rw [h2 c q]
      symm
      exact decide_eq_false fun hm => by
        have := List.all_eq_true.mp h3 c hm
        have := of_decide_eq_true this
        omega
  have hsz : es.size = l.length := by
    have := a2.length_eq
    rw [List.length_map, Array.length_toList, List.length_map] at this
    exact this
  refine ⟨fun k => decide (k ∈ ch l), es.size, by omega, ⟨es, ep, t, hg, fun e he => ?_, fun k => ?_, rfl, ?_⟩, fun k => ?_⟩
  · obtain ⟨y, u, rfl⟩ := a1 e he
    exact ⟨⟨y, beq_self_eq_true y, rfl⟩, rfl⟩
  · rw [decide_eq_true_eq, ← a2.mem_iff]
    constructor
    · intro hk
      obtain ⟨e, he, rfl⟩ := List.mem_map.mp hk
      obtain ⟨y, u, rfl⟩ := a1 e he
      exact ⟨_, he, beq_self_eq_true y⟩
    · rintro ⟨e, he, hk⟩
      obtain ⟨y, u, rfl⟩ := a1 e he
      have : y = k := beq_iff_eq.mp hk
      rw [← this]
      exact List.mem_map_of_mem (f := nm) he
  · unfold SetTable.fits
    rw [a3]
    simpa using a4
  · rw [hf]
    obtain ⟨cps⟩ := k
    show decide ((⟨cps⟩ : Str) ∈ ch l) = (cps.size == 1 && decide (cps.getD 0 0 ∈ l))
    by_cases hk : (⟨cps⟩ : Str) ∈ ch l
    · rw [decide_eq_true hk]
      obtain ⟨c, hc, e⟩ := List.mem_map.mp hk
      injection e with e
      subst e
      show true = (true && decide (c ∈ l))
      rw [decide_eq_true hc]
      rfl
    · rw [decide_eq_false hk]
      symm
      rw [Bool.and_eq_false_iff]
      by_cases h1 : cps.size = 1
      · right
        refine decide_eq_false fun hm => hk (List.mem_map.mpr ⟨_, hm, ?_⟩)
        congr 1
        apply Array.ext
        · simp [h1]
        · intro i hi1 hi2
          have : i = 0 := by simp at hi1; omega
          subst this
          simp [Array.getD_eq_getD_getElem?, Array.getElem?_eq_getElem hi2]
      · left
        exact beq_eq_false_iff_ne.mpr h1
/-- what is so behind the top -/
structure Facts (w : World) (h : Heap) : Prop where
  X : (K w.params).In h
  ws : SetOne w h 78 wsC
  bare : SetOne w h 87 bareC
  ill : SetOne w h 72 illC
  hex : SetOne w h 91 hexC
  tb : h.get? 183 = some (tbO #[])
theorem Facts.keeps (w : World) (h h' : Heap) (x : Facts w h) (k : ∀ b o, h.get? b = some o → h'.get? b = some o) : Facts w h' := ⟨x.X.keeps k, x.ws.keeps k, x.bare.keeps k, x.ill.keeps k, x.hex.keeps k, k _ _ x.tb⟩
theorem facts_40 (w : World) (os : OsState) (d58 d63 d67 d68 d72 d73 d77 d78 d82 d86 d87 d91 : SD) (g72 : SetD w d72 (ch c_72)) (g78 : SetD w d78 (ch c_78)) (g87 : SetD w d87 (ch c_87)) (g91 : SetD w d91 (ch c_91)) : Facts w (S_40 w.params d58 d63 d67 d68 d72 d73 d77 d78 d82 d86 d87 d91 os).abs.heap where
  X := Frag.in_of rfl (by kernel_rfl)
  ws := setOne_of (d := d78) (l := c_78) (by kernel_rfl) g78 (by decide +kernel) (fun c hc => by unfold wsC; simp; omega) (by decide) (by decide)
  bare := setOne_of (d := d87) (l := c_87) (by kernel_rfl) g87 (by decide +kernel) (fun c hc => by unfold bareC; simp; omega) (by decide) (by decide)
  ill := setOne_of (d := d72) (l := c_72) (by kernel_rfl) g72 (by decide +kernel) (fun c hc => by unfold illC; simp; omega) (by decide) (by decide)
  hex := setOne_of (d := d91) (l := c_91) (by kernel_rfl) g91 (by decide +kernel) (fun c hc => by unfold hexC; simp; omega) (by decide) (by decide)
  tb := by kernel_rfl
/-- the text's view: the law's def alone -/
noncomputable def qv : Program := { pr with main := { pr.main with body := [stmtAt 40] } }
noncomputable def loo : List Str := ["_wall", "_WallAttr", "MAX_KEY_PARTS", "ASCII_CTRL", "ILLEGAL_BASIC_STR_CHARS", "ILLEGAL_MULTILINE_BASIC_STR_CHARS", "ILLEGAL_LITERAL_STR_CHARS", "TOML_WS", "TOML_WS_AND_NEWLINE", "ascii_lowercase", "ascii_uppercase", "ascii_letters", "digits", "hexdigits", "BARE_KEY_CHARS", "HEXDIGIT_CHARS", "MappingProxyType", "BASIC_STR_ESCAPE_REPLACEMENTS", "TOMLDecodeError", "skip_chars", "skip_until", "parse_key", "parse_key_part", "parse_one_line_basic_str", "parse_basic_str_escape", "parse_basic_str_escape_multiline", "parse_hex_char", "parse_literal_str", "parse_basic_str", "suffixed_err", "is_unicode_scalar_value", "_law_forms", "_law_at", "_law_key", "_law_wanting", "_law_turned"].map Str.ofString
theorem opening_is : opening pr = plainProg pr.main.scope.names := by kernel_rfl
theorem fence_is : ∀ s, fenceModules? pr s = some s := fun s => by kernel_rfl
theorem size_is : ∀ w : World, ((boot_heap w.params).isNs mainGlobals && (#[] : Array GenState).size == 0, (boot_heap w.params).objs.size, (boot_heap w.params).nsMap mainGlobals "__annotations__") = (true, 11, topA) := by
  intros; kernel_rfl
theorem look1 : ∀ (w : World) (os : OsState) (d58 d63 d67 d68 d72 d73 d77 d78 d82 d86 d87 d91 : SD), staticsOk (importedModules pr.main.body) (boot_heap w.params) (S_40 w.params d58 d63 d67 d68 d72 d73 d77 d78 d82 d86 d87 d91 os).abs.heap = true := by
  intros; kernel_rfl
theorem look2 : ∀ (w : World) (os : OsState) (d58 d63 d67 d68 d72 d73 d77 d78 d82 d86 d87 d91 : SD), namesBound pr (S_40 w.params d58 d63 d67 d68 d72 d73 d77 d78 d82 d86 d87 d91 os).abs.heap = true := by
  intros; kernel_rfl
theorem look3 : ∀ (w : World) (os : OsState) (d58 d63 d67 d68 d72 d73 d77 d78 d82 d86 d87 d91 : SD), gensDone (S_40 w.params d58 d63 d67 d68 d72 d73 d77 d78 d82 d86 d87 d91 os).abs = true := by
  intros; kernel_rfl
theorem look4 : ∀ (w : World) (os : OsState) (d58 d63 d67 d68 d72 d73 d77 d78 d82 d86 d87 d91 : SD), laidKept (boot_heap w.params) (S_40 w.params d58 d63 d67 d68 d72 d73 d77 d78 d82 d86 d87 d91 os).abs.heap = true := by
  intros; kernel_rfl
theorem look5 : ∀ (w : World) (os : OsState) (d58 d63 d67 d68 d72 d73 d77 d78 d82 d86 d87 d91 : SD), openSeen qv loo (importedModules pr.main.body) (fun _ => true) false (S_40 w.params d58 d63 d67 d68 d72 d73 d77 d78 d82 d86 d87 d91 os).abs = openGood qv loo := by
  rw [PySem.W.Fast.te4187177175401517315]
  intros; kernel_rfl
theorem ends_ok (w : World) : ∃ os d58 d63 d67 d68 d72 d73 d77 d78 d82 d86 d87 d91, SetD w d72 (ch c_72) ∧ SetD w d78 (ch c_78) ∧ SetD w d87 (ch c_87) ∧ SetD w d91 (ch c_91) ∧
    openEnds treeTable pr w 200000 = some (S_40 w.params d58 d63 d67 d68 d72 d73 d77 d78 d82 d86 d87 d91 os).abs := by
  obtain ⟨⟨h, gs, d, k, os⟩, e, e'⟩ := Option.map_eq_some_iff.mp (boot_open (p := pr) (N := 200000) opening_is (by decide) fence_is w)
  obtain ⟨rfl, rfl, rfl, rfl⟩ : h = boot_heap w.params ∧ gs = #[] ∧ d = boot_drawn ∧ k = boot_toks := by simpa using e'
  obtain ⟨d58, d63, d67, d68, d72, d73, d77, d78, d82, d86, d87, d91, g72, g78, g87, g91, r⟩ := run_ok w os
  refine ⟨os, d58, d63, d67, d68, d72, d73, d77, d78, d82, d86, d87, d91, g72, g78, g87, g91, ?_⟩
  obtain ⟨z1, z2, z3⟩ : _ ∧ _ ∧ _ := by simpa only [Prod.mk.injEq] using size_is w
  have l1 := look1 w os d58 d63 d67 d68 d72 d73 d77 d78 d82 d86 d87 d91
  have l2 := look2 w os d58 d63 d67 d68 d72 d73 d77 d78 d82 d86 d87 d91
  have l3 := look3 w os d58 d63 d67 d68 d72 d73 d77 d78 d82 d86 d87 d91
  have l4 := look4 w os d58 d63 d67 d68 d72 d73 d77 d78 d82 d86 d87 d91
  generalize (S_40 w.params d58 d63 d67 d68 d72 d73 d77 d78 d82 d86 d87 d91 os).abs = s1 at r l1 l2 l3 l4 ⊢
  unfold openEnds
  rw [e]
  show topFrom treeTable pr w 200000 _ = _
  unfold topFrom
  dsimp only
  rw [z1, z2, z3, r]
  show (match staticsOk (importedModules pr.main.body) (boot_heap w.params) s1.heap && namesBound pr s1.heap && gensDone s1 && laidKept (boot_heap w.params) s1.heap with | true => _ | false => _) = _
  rw [l1, l2, l3, l4]
  rfl
theorem left_ok : LeftO pr qv loo (fun _ => true) (fun s => some s.heap) (fun w => (openEnds treeTable pr w 200000).map (·.heap)) 200000 false := fun w => by
  obtain ⟨os, d58, d63, d67, d68, d72, d73, d77, d78, d82, d86, d87, d91, _, _, _, _, e⟩ := ends_ok w
  have l5 := look5 w os d58 d63 d67 d68 d72 d73 d77 d78 d82 d86 d87 d91
  dsimp only
  rw [e]
  exact congrArg some (Prod.ext l5 rfl)
theorem facts_of (w : World) (s : Shared) (h : some s.heap = (openEnds treeTable pr w 200000).map (·.heap)) : Facts w s.heap := by
  obtain ⟨os, d58, d63, d67, d68, d72, d73, d77, d78, d82, d86, d87, d91, g72, g78, g87, g91, e⟩ := ends_ok w
  rw [e] at h
  rw [Option.some.inj h]
  exact facts_40 w os d58 d63 d67 d68 d72 d73 d77 d78 d82 d86 d87 d91 g72 g78 g87 g91
theorem hide_get {h : Heap} {b : Addr} {o : Obj} (e : h.get? b = some o) (hb : b ≠ 183) : (hideAll h [183]).get? b = some o := hideAll_get _ e (fun hm => hb (List.mem_singleton.mp hm))
theorem ns_hide {h : Heap} {a : Addr} {m : Str → Option Value} (x : h.Ns a m) (ha : a ≠ 183) : (hideAll h [183]).Ns a m := by
  obtain ⟨o, es, ep, e, r⟩ := x
  exact ⟨o, es, ep, hide_get e ha, r⟩
theorem top_hide {p : Program} {loose : List Str} {mg mb : Str → Option Value} {h : Heap} (T : TopRead p loose mg mb h) : TopRead p loose mg mb (hideAll h [183]) := by
  refine ⟨ns_hide T.g (by decide), ns_hide T.b (by decide), ?_, T.builtins, T.free⟩
  obtain ⟨mc, h1, h2⟩ := T.nolimit
  exact ⟨mc, ns_hide h1 (by decide), h2⟩
theorem set_hide {w : World} {h : Heap} {a : Addr} {f : Nat → Bool} (x : SetOne w h a f) (ha : a ≠ 183) : SetOne w (hideAll h [183]) a f := by
  obtain ⟨S, n, hn, ⟨es, ep, t, ho, r⟩, e⟩ := x
  exact ⟨S, n, hn, ⟨es, ep, t, hide_get ho ha, r⟩, e⟩
theorem no183 (P : Params) : (K P).lookup 183 = none := by kernel_rfl
theorem cal_of {w : World} {p : Program} {loose : List Str} {mg mb : Str → Option Value} {h : Heap} (F : Facts w h) (T : TopRead p loose mg mb h) : Cal w p loose mg mb (hideAll h [183]) 13 callerA [] [] h where
  fr := rfl
  hd := rfl
  dep := by decide +kernel
  un := by decide +kernel
  fs := trivial
  there := fun q hq => nomatch hq
  stays := fun b o e => of_hideAll _ e
  fresh := fun q hq => nomatch hq
  tbn := hideAll_none _ List.mem_cons_self
  apart := fun q hq => nomatch hq
  tb := ⟨#[], F.tb, .inl rfl⟩
  gnd := ⟨fun a o e => hide_get (F.X a o e) (fun q => by rw [q, no183] at e; cases e), top_hide T, set_hide F.ws (by decide), set_hide F.bare (by decide), set_hide F.ill (by decide), set_hide F.hex (by decide)⟩
theorem law_at (P : Params) : nsIn (K P) mainGlobals (Str.ofString "law") = some (some (.ref 237)) := by kernel_rfl
theorem code_at {w : World} {h : Heap} (F : Facts w h) : isCodeTable h 183 := by
  refine ⟨187, o_187 w.params, _, F.X 187 _ (by kernel_rfl), rfl, rfl, rfl⟩
theorem old_ok {w : World} {h h' : Heap} (F : Facts w h) (k : Kp [] h h') (tb : Tb h') : ∀ b o, h.get? b = some o → asItWas h h' b o := fun b o e => by
  by_cases hb : b = 183
  · subst hb
    rw [F.tb] at e
    obtain rfl := Option.some.inj e
    obtain ⟨vs, h1, _⟩ := tb
    exact .inr (.inl ⟨code_at F, rfl, #[], vs, rfl, by rw [h1]; simp⟩)
  · exact .inl (k.1 b o e (fun hm => nomatch hm) hb)
theorem kept_ok {w : World} {h h' : Heap} (F : Facts w h) (k : Kp [] h h') : ∀ b o, h.get? b = some o → o.cls ≠ .none → h'.get? b = some o := fun b o e hc => by
  by_cases hb : b = 183
  · subst hb
    rw [F.tb] at e
    obtain rfl := Option.some.inj e
    exact absurd rfl hc
  · exact k.1 b o e (fun hm => nomatch hm) hb
noncomputable abbrev rr : OpenRow := PySem.Challenge.rw_ij0148_01.row
theorem ints_of {cl : Str → Option Addr} {h : Heap} : ∀ (vs : List Value) (ns : List Int) (as : List Addr), ReadsAllW [] cl h vs (ns.map WData.int) as → IntsAre vs ns
  | vs, [], as, r => by
    cases r
    exact .nil
  | vs, n :: ns, as, r => by
    cases r with
    | cons r1 r2 =>
      cases r1
      exact .cons n _ (ints_of _ ns _ r2)
theorem arg_of {cl : Str → Option Addr} {h : Heap} {vs : List Value} {ns : List Int} {as : List Addr} (r : ReadsAllW [] cl h vs [.list (ns.map WData.int)] as) : ∃ sc its, vs = [.ref sc] ∧ h.IsList sc its.toArray ∧ IntsAre its ns := by
  cases r with
  | cons r1 r2 =>
    cases r2
    cases r1 with
    | list ho hc hd rs =>
      rename_i a o xs n as'
      exact ⟨a, xs.toList, rfl, ⟨o, ho, hc, n, by rw [hd]⟩, ints_of _ _ _ rs⟩
theorem ofPys_ints (ns : List Int) : ofPys (ns.map PyData.int) = ns.map WData.int := by
  induction ns with
  | nil => rfl
  | cons n ns ih =>
    show WData.int n :: ofPys (ns.map PyData.int) = _
    rw [ih]
    rfl
set_option maxHeartbeats 4000000 in
theorem holds_row : rr.toRowW.claim.HoldsOpenBy (callStub rr.name) [rr.name] rr.keeps rr.writes := by
  have hch : chainsOk qv = true := by kernel_rfl
  have B := left_ok.behind (XP := fun _ _ => True) (fun _ _ => trivial) hch
  refine ⟨⟨⟨rfl, rfl, rfl, rfl, rfl, by decide +kernel⟩, by kernel_rfl, rfl⟩, ⟨[.list []], by kernel_rfl, by kernel_rfl⟩, fun w => ⟨(B w).1, fun s' hs' => ?_⟩⟩
  obtain ⟨s₀, hf, hg0, s, hT, hz, hgens, hg, G, y⟩ := (B w).2 s' hs'
  have F := facts_of w s y
  refine ⟨s₀, hf, hg0, s, hT, fun n hn => ?_, fun x hx => (nomatch hx), fun x hx => (nomatch hx), ?_⟩
  · obtain rfl : n = rr.name := by simpa using hn
    exact pinned_of_view (q := qv) (loose := loo) hg G (d := _) (kwd := _) (by rfl) (by rfl) (by rfl)
  have hgens : leftWithCleanup s.gens = false := by simpa using hgens
  refine ClaimW.callFrom_of_specN (c := rr.toRowW.claim) (tree := fun vs => do match ← nsGet mainNs rr.name with
      | some f => do ret (← PySem.call f vs)
      | none => unsupported "claim.caller:no-such-global") hz hgens fun args hpre hlay ord hord => ?_
  have hlay2 := hlay
  have hsh := (pre_splitW hpre).1
  have hcond := (pre_splitW hpre).2
  wrow_hasAll hsh hlay
  rename_i ns _ _ _ _ _
  w_cond hcond
  rename_i hlen _
  obtain ⟨⟨vs, s₁⟩, hlaid⟩ := Option.isSome_iff_exists.mp (layAllW_isSome (P := w.params) (ord := ord) G.has _ rr.args s (pre_splitW hpre).1)
  have keeps := layAllW_keeps _ _ _ hlaid
  have hal := layAllW_rest _ _ _ hlaid
  obtain ⟨as, hrd, hin, hold⟩ := reads_layAllW hord _ _ _ hlaid hlay2 s₁.heap (fun _ _ e => e)
  refine ⟨vs, s₁, hlaid, ?_⟩
  have hrd2 : ReadsAllW [] (classAt s.heap) s₁.heap vs [.list (ns.map WData.int)] as := by
    have := hrd
    rw [show ofPy (PyData.list (ns.map PyData.int)) = .list (ns.map WData.int) by rw [← ofPys_ints]; rfl] at this
    exact this
  obtain ⟨sc, its, rfl, hl, hi⟩ := arg_of hrd2
  have F₁ := F.keeps _ _ _ keeps
  have T₁ : TopRead qv loo (s.heap.nsMap mainGlobals) (s.heap.nsMap builtinsNs) s₁.heap := (topRead_of G.T).keeps keeps
  have C := cal_of F₁ T₁
  have hmg : s.heap.nsMap mainGlobals rr.name = some (.ref 237) := mg_of F.X G.T.g (law_at w.params)
  refine wpAny_bind (wpAny_nsGet (s := { s₁ with gens := #[] }) T₁.g ?_)
  rw [hmg]
  refine wpAny_bind ?_
  refine law_ok (s := { s₁ with gens := #[] }) hi (by omega) C hl fun h' tk' hk htb => ?_
  refine wpAny_pure ⟨_, rfl, ?_, hal.2.2.1, rfl, fun q => nomatch q⟩
  have hpost : rr.toRowW.claim.post [ofPy (PyData.list (ns.map PyData.int))] (.bool true) [ofPy (PyData.list (ns.map PyData.int))] = true := by
    first
      | kernel_rfl!
      | wrow_post
  refine .inl ⟨.bool true, rfl, fun cls => rfl, ⟨.bool true, _, [], as, .bool true, hrd.keepsK (kept_ok F₁ hk), hpost, fun _ => ⟨List.nodup_nil, fun a ha => (nomatch ha), fun a ha => (nomatch ha)⟩, fun as₀ _ => ident_freeW rfl rfl rfl _ _⟩, fun i hi => (nomatch hi), fun b o e _ _ => old_ok F₁ hk htb b o e, fun i hi => (nomatch hi)⟩
theorem said_ok : PySem.Challenge.rw_ij0148_01.wellSaid = true := by
  rw [PySem.W.Fast.te9446332074065402090]
  kernel_rfl
theorem gives_ok : rr.toRowW.promised := ⟨[.list []], by kernel_rfl, by kernel_rfl⟩
end Mine
theorem PySem.Challenge.cw_ij0148_01_holds : PySem.Challenge.rw_ij0148_01.Holds := by
  exact PySem.W.holds_law Mine.said_ok fun said => ⟨said, Mine.gives_ok, Mine.holds_row⟩
