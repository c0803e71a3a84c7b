import PyProof.Rows.All
import Wide.All
import OpenK.AllK
import Wide.FinOn
import Lean
import PySem.Challenge.RW_oy0313_02
open PySem PySem.W PySem.Calls PyProof.Rows PySem.Challenge
open Str (ofString)
open PyData (keyHash)
set_option Elab.async false
set_option maxRecDepth 100000
set_option linter.all false
set_option maxHeartbeats 0
set_option synthInstance.maxHeartbeats 400000
set_option synthInstance.maxSize 10000
set_option compiler.extract_closed false
namespace Mine
theorem road_app (c : Look) (ys : List Stmt) : ∀ xs, noRoadLSs c (xs ++ ys) = (noRoadLSs c xs && noRoadLSs c ys)
  | [] => rfl
  | x :: xs => by
    show (noRoadLS c x && noRoadLSs c (xs ++ ys)) = (noRoadLS c x && noRoadLSs c xs && noRoadLSs c ys)
    rw [road_app c ys xs, Bool.and_assoc]
theorem road_cut (c : Look) (n : Nat) (xs : List Stmt) (h1 : noRoadLSs c (xs.take n) = true) (h2 : noRoadLSs c (xs.drop n) = true) : noRoadLSs c xs = true := by
  rw [← List.take_append_drop n xs, road_app, h1, h2]; rfl
theorem bareP : (["vars", "dir", "locals"] : List Str).filter (readsOut pw_oy0313_02 pw_oy0313_02.main.body) = [] := by kernel_rfl
theorem strictP : (importedModules pw_oy0313_02.main.body).all cThrough.contains = true := by kernel_rfl
theorem roadPA : noRoadLSs { strict := !true, foot := none, bare := [] } (pw_oy0313_02.main.body.take 10) = true := by kernel_rfl
theorem roadPB : noRoadLSs { strict := !true, foot := none, bare := [] } ((pw_oy0313_02.main.body.drop 10).take 6) = true := by kernel_rfl
theorem roadPC : noRoadLSs { strict := !true, foot := none, bare := [] } ((pw_oy0313_02.main.body.drop 10).drop 6) = true := by kernel_rfl
theorem nameP : namesResolve pw_oy0313_02 = true := by kernel_rfl
theorem meetP : (namesMeet pw_oy0313_02 pw_oy0313_02.main.body fun _ n => attrL n) = true := by kernel_rfl
theorem lookP : looksOpen pw_oy0313_02 = true := by
  unfold looksOpen
  rw [bareP, strictP, nameP, meetP, road_cut _ 10 _ roadPA (road_cut _ 6 _ roadPB roadPC)]
  kernel_rfl
theorem saidP : rw_oy0313_02.wellSaid = true := by
  unfold OpenLaw.wellSaid OpenRow.wellSaid OpenRow.partSaid
  rw [show looksOpen (OpenLaw.row rw_oy0313_02).prog = true from lookP]
  kernel_rfl
noncomputable abbrev pE : Program := PySem.Challenge.pw_oy0313_02
noncomputable def stAt (i : Nat) : Stmt := (pE.main.body).getD i (.Pass default)
noncomputable def subsOf : Stmt → List Stmt | .ClassDef _ _ _ b .. => b | _ => []
noncomputable def subAt (i j : Nat) : Stmt := (subsOf (stAt i)).getD j (.Pass default)
noncomputable def fB : Stmt → List Stmt | .FunctionDef _ _ b .. => b | _ => []
noncomputable def fP : Stmt → Arguments | .FunctionDef _ a .. => a | _ => default
noncomputable def fS : Stmt → Scope | .FunctionDef _ _ _ _ _ _ sc .. => sc | _ => default
noncomputable def o0(P:Params):Obj:=.mk (.type "dict") none (.dict #[(.mk (keyHash P (ofString "__name__")) (.str (ofString "__name__") 1) (.str (ofString "builtins") 160)), (.mk (keyHash P (ofString "__doc__")) (.str (ofString "__doc__") 2) (.builtin "builtins.__doc__:str#opaque")), (.mk (keyHash P (ofString "__package__")) (.str (ofString "__package__") 3) (.builtin "builtins.__package__:str#opaque")), (.mk (keyHash P (ofString "__loader__")) (.str (ofString "__loader__") 4) (.builtin "builtins.__loader__:shared#opaque")), (.mk (keyHash P (ofString "__spec__")) (.str (ofString "__spec__") 5) (.builtin "builtins.__spec__#opaque")), (.mk (keyHash P (ofString "__build_class__")) (.str (ofString "__build_class__") 6) (.builtin "__build_class__")), (.mk (keyHash P (ofString "__import__")) (.str (ofString "__import__") 7) (.builtin "__import__")), (.mk (keyHash P (ofString "abs")) (.str (ofString "abs") 8) (.builtin "abs")), (.mk (keyHash P (ofString "all")) (.str (ofString "all") 9) (.builtin "all")), (.mk (keyHash P (ofString "any")) (.str (ofString "any") 10) (.builtin "any")), (.mk (keyHash P (ofString "ascii")) (.str (ofString "ascii") 11) (.builtin "ascii")), (.mk (keyHash P (ofString "bin")) (.str (ofString "bin") 12) (.builtin "bin")), (.mk (keyHash P (ofString "breakpoint")) (.str (ofString "breakpoint") 13) (.builtin "breakpoint")), (.mk (keyHash P (ofString "callable")) (.str (ofString "callable") 14) (.builtin "callable")), (.mk (keyHash P (ofString "chr")) (.str (ofString "chr") 15) (.builtin "chr")), (.mk (keyHash P (ofString "compile")) (.str (ofString "compile") 16) (.builtin "compile")), (.mk (keyHash P (ofString "delattr")) (.str (ofString "delattr") 17) (.builtin "delattr")), (.mk (keyHash P (ofString "dir")) (.str (ofString "dir") 18) (.builtin "dir")), (.mk (keyHash P (ofString "divmod")) (.str (ofString "divmod") 19) (.builtin "divmod")), (.mk (keyHash P (ofString "eval")) (.str (ofString "eval") 20) (.builtin "eval")), (.mk (keyHash P (ofString "exec")) (.str (ofString "exec") 21) (.builtin "exec")), (.mk (keyHash P (ofString "format")) (.str (ofString "format") 22) (.builtin "format")), (.mk (keyHash P (ofString "getattr")) (.str (ofString "getattr") 23) (.builtin "getattr")), (.mk (keyHash P (ofString "globals")) (.str (ofString "globals") 24) (.builtin "globals")), (.mk (keyHash P (ofString "hasattr")) (.str (ofString "hasattr") 25) (.builtin "hasattr")), (.mk (keyHash P (ofString "hash")) (.str (ofString "hash") 26) (.builtin "hash")), (.mk (keyHash P (ofString "hex")) (.str (ofString "hex") 27) (.builtin "hex")), (.mk (keyHash P (ofString "id")) (.str (ofString "id") 28) (.builtin "id")), (.mk (keyHash P (ofString "input")) (.str (ofString "input") 29) (.builtin "input")), (.mk (keyHash P (ofString "isinstance")) (.str (ofString "isinstance") 30) (.builtin "isinstance")), (.mk (keyHash P (ofString "issubclass")) (.str (ofString "issubclass") 31) (.builtin "issubclass")), (.mk (keyHash P (ofString "iter")) (.str (ofString "iter") 32) (.builtin "iter")), (.mk (keyHash P (ofString "aiter")) (.str (ofString "aiter") 33) (.builtin "aiter")), (.mk (keyHash P (ofString "len")) (.str (ofString "len") 34) (.builtin "len")), (.mk (keyHash P (ofString "locals")) (.str (ofString "locals") 35) (.builtin "locals")), (.mk (keyHash P (ofString "max")) (.str (ofString "max") 36) (.builtin "max")), (.mk (keyHash P (ofString "min")) (.str (ofString "min") 37) (.builtin "min")), (.mk (keyHash P (ofString "next")) (.str (ofString "next") 38) (.builtin "next")), (.mk (keyHash P (ofString "anext")) (.str (ofString "anext") 39) (.builtin "anext")), (.mk (keyHash P (ofString "oct")) (.str (ofString "oct") 40) (.builtin "oct")), (.mk (keyHash P (ofString "ord")) (.str (ofString "ord") 41) (.builtin "ord")), (.mk (keyHash P (ofString "pow")) (.str (ofString "pow") 42) (.builtin "pow")), (.mk (keyHash P (ofString "print")) (.str (ofString "print") 43) (.builtin "print")), (.mk (keyHash P (ofString "repr")) (.str (ofString "repr") 44) (.builtin "repr")), (.mk (keyHash P (ofString "round")) (.str (ofString "round") 45) (.builtin "round")), (.mk (keyHash P (ofString "setattr")) (.str (ofString "setattr") 46) (.builtin "setattr")), (.mk (keyHash P (ofString "sorted")) (.str (ofString "sorted") 47) (.builtin "sorted")), (.mk (keyHash P (ofString "sum")) (.str (ofString "sum") 48) (.builtin "sum")), (.mk (keyHash P (ofString "vars")) (.str (ofString "vars") 49) (.builtin "vars")), (.mk (keyHash P (ofString "None")) (.str (ofString "None") 50) .none), (.mk (keyHash P (ofString "Ellipsis")) (.str (ofString "Ellipsis") 51) Value.ellipsis), (.mk (keyHash P (ofString "NotImplemented")) (.str (ofString "NotImplemented") 52) Value.notImplemented), (.mk (keyHash P (ofString "False")) (.str (ofString "False") 53) (.bool false)), (.mk (keyHash P (ofString "True")) (.str (ofString "True") 54) (.bool true)), (.mk (keyHash P (ofString "bool")) (.str (ofString "bool") 55) (.type "bool")), (.mk (keyHash P (ofString "memoryview")) (.str (ofString "memoryview") 56) (.type "memoryview")), (.mk (keyHash P (ofString "bytearray")) (.str (ofString "bytearray") 57) (.type "bytearray")), (.mk (keyHash P (ofString "bytes")) (.str (ofString "bytes") 58) (.type "bytes")), (.mk (keyHash P (ofString "classmethod")) (.str (ofString "classmethod") 59) (.type "classmethod")), (.mk (keyHash P (ofString "complex")) (.str (ofString "complex") 60) (.type "complex")), (.mk (keyHash P (ofString "dict")) (.str (ofString "dict") 61) (.type "dict")), (.mk (keyHash P (ofString "enumerate")) (.str (ofString "enumerate") 62) (.type "enumerate")), (.mk (keyHash P (ofString "filter")) (.str (ofString "filter") 63) (.type "filter")), (.mk (keyHash P (ofString "float")) (.str (ofString "float") 64) (.type "float")), (.mk (keyHash P (ofString "frozenset")) (.str (ofString "frozenset") 65) (.type "frozenset")), (.mk (keyHash P (ofString "property")) (.str (ofString "property") 66) (.type "property")), (.mk (keyHash P (ofString "int")) (.str (ofString "int") 67) (.type "int")), (.mk (keyHash P (ofString "list")) (.str (ofString "list") 68) (.type "list")), (.mk (keyHash P (ofString "map")) (.str (ofString "map") 69) (.type "map")), (.mk (keyHash P (ofString "object")) (.str (ofString "object") 70) (.type "object")), (.mk (keyHash P (ofString "range")) (.str (ofString "range") 71) (.type "range")), (.mk (keyHash P (ofString "reversed")) (.str (ofString "reversed") 72) (.type "reversed")), (.mk (keyHash P (ofString "set")) (.str (ofString "set") 73) (.type "set")), (.mk (keyHash P (ofString "slice")) (.str (ofString "slice") 74) (.type "slice")), (.mk (keyHash P (ofString "staticmethod")) (.str (ofString "staticmethod") 75) (.type "staticmethod")), (.mk (keyHash P (ofString "str")) (.str (ofString "str") 76) (.type "str")), (.mk (keyHash P (ofString "super")) (.str (ofString "super") 77) (.type "super")), (.mk (keyHash P (ofString "tuple")) (.str (ofString "tuple") 78) (.type "tuple")), (.mk (keyHash P (ofString "type")) (.str (ofString "type") 79) (.type "type")), (.mk (keyHash P (ofString "zip")) (.str (ofString "zip") 80) (.type "zip")), (.mk (keyHash P (ofString "__debug__")) (.str (ofString "__debug__") 81) (.bool true)), (.mk (keyHash P (ofString "BaseException")) (.str (ofString "BaseException") 82) (.type "BaseException")), (.mk (keyHash P (ofString "BaseExceptionGroup")) (.str (ofString "BaseExceptionGroup") 83) (.type "BaseExceptionGroup")), (.mk (keyHash P (ofString "Exception")) (.str (ofString "Exception") 84) (.type "Exception")), (.mk (keyHash P (ofString "GeneratorExit")) (.str (ofString "GeneratorExit") 85) (.type "GeneratorExit")), (.mk (keyHash P (ofString "KeyboardInterrupt")) (.str (ofString "KeyboardInterrupt") 86) (.type "KeyboardInterrupt")), (.mk (keyHash P (ofString "SystemExit")) (.str (ofString "SystemExit") 87) (.type "SystemExit")), (.mk (keyHash P (ofString "ArithmeticError")) (.str (ofString "ArithmeticError") 88) (.type "ArithmeticError")), (.mk (keyHash P (ofString "AssertionError")) (.str (ofString "AssertionError") 89) (.type "AssertionError")), (.mk (keyHash P (ofString "AttributeError")) (.str (ofString "AttributeError") 90) (.type "AttributeError")), (.mk (keyHash P (ofString "BufferError")) (.str (ofString "BufferError") 91) (.type "BufferError")), (.mk (keyHash P (ofString "EOFError")) (.str (ofString "EOFError") 92) (.type "EOFError")), (.mk (keyHash P (ofString "ImportError")) (.str (ofString "ImportError") 93) (.type "ImportError")), (.mk (keyHash P (ofString "LookupError")) (.str (ofString "LookupError") 94) (.type "LookupError")), (.mk (keyHash P (ofString "MemoryError")) (.str (ofString "MemoryError") 95) (.type "MemoryError")), (.mk (keyHash P (ofString "NameError")) (.str (ofString "NameError") 96) (.type "NameError")), (.mk (keyHash P (ofString "OSError")) (.str (ofString "OSError") 97) (.type "OSError")), (.mk (keyHash P (ofString "ReferenceError")) (.str (ofString "ReferenceError") 98) (.type "ReferenceError")), (.mk (keyHash P (ofString "RuntimeError")) (.str (ofString "RuntimeError") 99) (.type "RuntimeError")), (.mk (keyHash P (ofString "StopAsyncIteration")) (.str (ofString "StopAsyncIteration") 100) (.type "StopAsyncIteration")), (.mk (keyHash P (ofString "StopIteration")) (.str (ofString "StopIteration") 101) (.type "StopIteration")), (.mk (keyHash P (ofString "SyntaxError")) (.str (ofString "SyntaxError") 102) (.type "SyntaxError")), (.mk (keyHash P (ofString "SystemError")) (.str (ofString "SystemError") 103) (.type "SystemError")), (.mk (keyHash P (ofString "TypeError")) (.str (ofString "TypeError") 104) (.type "TypeError")), (.mk (keyHash P (ofString "ValueError")) (.str (ofString "ValueError") 105) (.type "ValueError")), (.mk (keyHash P (ofString "Warning")) (.str (ofString "Warning") 106) (.type "Warning")), (.mk (keyHash P (ofString "FloatingPointError")) (.str (ofString "FloatingPointError") 107) (.type "FloatingPointError")), (.mk (keyHash P (ofString "OverflowError")) (.str (ofString "OverflowError") 108) (.type "OverflowError")), (.mk (keyHash P (ofString "ZeroDivisionError")) (.str (ofString "ZeroDivisionError") 109) (.type "ZeroDivisionError")), (.mk (keyHash P (ofString "BytesWarning")) (.str (ofString "BytesWarning") 110) (.type "BytesWarning")), (.mk (keyHash P (ofString "DeprecationWarning")) (.str (ofString "DeprecationWarning") 111) (.type "DeprecationWarning")), (.mk (keyHash P (ofString "EncodingWarning")) (.str (ofString "EncodingWarning") 112) (.type "EncodingWarning")), (.mk (keyHash P (ofString "FutureWarning")) (.str (ofString "FutureWarning") 113) (.type "FutureWarning")), (.mk (keyHash P (ofString "ImportWarning")) (.str (ofString "ImportWarning") 114) (.type "ImportWarning")), (.mk (keyHash P (ofString "PendingDeprecationWarning")) (.str (ofString "PendingDeprecationWarning") 115) (.type "PendingDeprecationWarning")), (.mk (keyHash P (ofString "ResourceWarning")) (.str (ofString "ResourceWarning") 116) (.type "ResourceWarning")), (.mk (keyHash P (ofString "RuntimeWarning")) (.str (ofString "RuntimeWarning") 117) (.type "RuntimeWarning")), (.mk (keyHash P (ofString "SyntaxWarning")) (.str (ofString "SyntaxWarning") 118) (.type "SyntaxWarning")), (.mk (keyHash P (ofString "UnicodeWarning")) (.str (ofString "UnicodeWarning") 119) (.type "UnicodeWarning")), (.mk (keyHash P (ofString "UserWarning")) (.str (ofString "UserWarning") 120) (.type "UserWarning")), (.mk (keyHash P (ofString "BlockingIOError")) (.str (ofString "BlockingIOError") 121) (.type "BlockingIOError")), (.mk (keyHash P (ofString "ChildProcessError")) (.str (ofString "ChildProcessError") 122) (.type "ChildProcessError")), (.mk (keyHash P (ofString "ConnectionError")) (.str (ofString "ConnectionError") 123) (.type "ConnectionError")), (.mk (keyHash P (ofString "FileExistsError")) (.str (ofString "FileExistsError") 124) (.type "FileExistsError")), (.mk (keyHash P (ofString "FileNotFoundError")) (.str (ofString "FileNotFoundError") 125) (.type "FileNotFoundError")), (.mk (keyHash P (ofString "InterruptedError")) (.str (ofString "InterruptedError") 126) (.type "InterruptedError")), (.mk (keyHash P (ofString "IsADirectoryError")) (.str (ofString "IsADirectoryError") 127) (.type "IsADirectoryError")), (.mk (keyHash P (ofString "NotADirectoryError")) (.str (ofString "NotADirectoryError") 128) (.type "NotADirectoryError")), (.mk (keyHash P (ofString "PermissionError")) (.str (ofString "PermissionError") 129) (.type "PermissionError")), (.mk (keyHash P (ofString "ProcessLookupError")) (.str (ofString "ProcessLookupError") 130) (.type "ProcessLookupError")), (.mk (keyHash P (ofString "TimeoutError")) (.str (ofString "TimeoutError") 131) (.type "TimeoutError")), (.mk (keyHash P (ofString "IndentationError")) (.str (ofString "IndentationError") 132) (.type "IndentationError")), (.mk (keyHash P (ofString "_IncompleteInputError")) (.str (ofString "_IncompleteInputError") 133) (.type "_IncompleteInputError")), (.mk (keyHash P (ofString "IndexError")) (.str (ofString "IndexError") 134) (.type "IndexError")), (.mk (keyHash P (ofString "KeyError")) (.str (ofString "KeyError") 135) (.type "KeyError")), (.mk (keyHash P (ofString "ModuleNotFoundError")) (.str (ofString "ModuleNotFoundError") 136) (.type "ModuleNotFoundError")), (.mk (keyHash P (ofString "NotImplementedError")) (.str (ofString "NotImplementedError") 137) (.type "NotImplementedError")), (.mk (keyHash P (ofString "PythonFinalizationError")) (.str (ofString "PythonFinalizationError") 138) (.type "PythonFinalizationError")), (.mk (keyHash P (ofString "RecursionError")) (.str (ofString "RecursionError") 139) (.type "RecursionError")), (.mk (keyHash P (ofString "UnboundLocalError")) (.str (ofString "UnboundLocalError") 140) (.type "UnboundLocalError")), (.mk (keyHash P (ofString "UnicodeError")) (.str (ofString "UnicodeError") 141) (.type "UnicodeError")), (.mk (keyHash P (ofString "BrokenPipeError")) (.str (ofString "BrokenPipeError") 142) (.type "BrokenPipeError")), (.mk (keyHash P (ofString "ConnectionAbortedError")) (.str (ofString "ConnectionAbortedError") 143) (.type "ConnectionAbortedError")), (.mk (keyHash P (ofString "ConnectionRefusedError")) (.str (ofString "ConnectionRefusedError") 144) (.type "ConnectionRefusedError")), (.mk (keyHash P (ofString "ConnectionResetError")) (.str (ofString "ConnectionResetError") 145) (.type "ConnectionResetError")), (.mk (keyHash P (ofString "TabError")) (.str (ofString "TabError") 146) (.type "TabError")), (.mk (keyHash P (ofString "UnicodeDecodeError")) (.str (ofString "UnicodeDecodeError") 147) (.type "UnicodeDecodeError")), (.mk (keyHash P (ofString "UnicodeEncodeError")) (.str (ofString "UnicodeEncodeError") 148) (.type "UnicodeEncodeError")), (.mk (keyHash P (ofString "UnicodeTranslateError")) (.str (ofString "UnicodeTranslateError") 149) (.type "UnicodeTranslateError")), (.mk (keyHash P (ofString "ExceptionGroup")) (.str (ofString "ExceptionGroup") 150) (.type "ExceptionGroup")), (.mk (keyHash P (ofString "EnvironmentError")) (.str (ofString "EnvironmentError") 151) (.type "OSError")), (.mk (keyHash P (ofString "IOError")) (.str (ofString "IOError") 152) (.type "OSError")), (.mk (keyHash P (ofString "open")) (.str (ofString "open") 153) (.builtin "open")), (.mk (keyHash P (ofString "quit")) (.str (ofString "quit") 154) (.builtin "builtins.quit#opaque")), (.mk (keyHash P (ofString "exit")) (.str (ofString "exit") 155) (.builtin "builtins.exit#opaque")), (.mk (keyHash P (ofString "copyright")) (.str (ofString "copyright") 156) (.builtin "builtins.copyright#opaque")), (.mk (keyHash P (ofString "credits")) (.str (ofString "credits") 157) (.builtin "builtins.credits#opaque")), (.mk (keyHash P (ofString "license")) (.str (ofString "license") 158) (.builtin "builtins.license#opaque")), (.mk (keyHash P (ofString "help")) (.str (ofString "help") 159) (.builtin "builtins.help#opaque"))] 159) #[]
noncomputable def o1(P:Params):Obj:=.mk (.type "dict") none (.dict #[(.mk (keyHash P (ofString "builtins")) (.str (ofString "builtins") 162) (.ref 4)), (.mk (keyHash P (ofString "__main__")) (.str (ofString "__main__") 163) (.ref 5)), (.mk (keyHash P (ofString "_collections")) (.str (ofString "_collections") 246) (.ref 13))] 3) #[]
noncomputable def o2(P:Params):Obj:=.mk .none none (.dict #[(.mk (keyHash P (ofString "\x69mport.loaded._collections")) (.str (ofString "\x69mport.loaded._collections") 185) (.bool true)), (.mk (keyHash P (ofString "class._frozen_importlib.BuiltinImporter")) (.str (ofString "class._frozen_importlib.BuiltinImporter") 187) (.ref 15)), (.mk (keyHash P (ofString "watched.\x69mport")) (.str (ofString "watched.\x69mport") 208) (.ref 19)), (.mk (keyHash P (ofString "class._frozen_importlib.ModuleSpec")) (.str (ofString "class._frozen_importlib.ModuleSpec") 218) (.ref 23)), (.mk (keyHash P (ofString "sys.modules.booked-epoch")) (.str (ofString "sys.modules.booked-epoch") 247) (.int 3 0)), (.mk (keyHash P (ofString "sys.modules.landed._collections")) (.str (ofString "sys.modules.landed._collections") 248) (.bool true)), (.mk (keyHash P (ofString "\x69mport.later-laid._collections")) (.str (ofString "\x69mport.later-laid._collections") 263) (.bool true)), (.mk (keyHash P (ofString "watched.library")) (.str (ofString "watched.library") 265) (.ref 28)), (.mk (keyHash P (ofString "watched.library-objects")) (.str (ofString "watched.library-objects") 0) (.str (ofString "\r") 0)), (.mk (keyHash P (ofString "watched.library-deep._collections")) (.str (ofString "watched.library-deep._collections") 266) (.str (ofString "\x04\x00\x00\x0c\x04\x00\x00\x0c\x04\x00\x00\x03\x04\x00\x00\x0c\x08\x04dict\x02") 0))] 10) #[]
noncomputable def o3(P:Params):Obj:=.mk (.type "dict") none (.dict #[(.mk (keyHash P (ofString "__name__")) (.str (ofString "__name__") 165) (.str (ofString "__main__") 164)), (.mk (keyHash P (ofString "__doc__")) (.str (ofString "__doc__") 166) .none), (.mk (keyHash P (ofString "__package__")) (.str (ofString "__package__") 167) .none), (.mk (keyHash P (ofString "__loader__")) (.str (ofString "__loader__") 168) (.builtin "__main__.__loader__#opaque")), (.mk (keyHash P (ofString "__spec__")) (.str (ofString "__spec__") 169) .none), (.mk (keyHash P (ofString "__annotations__")) (.str (ofString "__annotations__") 170) (.ref 6)), (.mk (keyHash P (ofString "__builtins__")) (.str (ofString "__builtins__") 171) (.ref 4)), (.mk (keyHash P (ofString "__file__")) (.str (ofString "__file__") 173) (.str (ofString "/claim/cut.py") 172)), (.mk (keyHash P (ofString "__cached__")) (.str (ofString "__cached__") 174) .none), (.mk (keyHash P (ofString "deque")) (.str (ofString "deque") 272) (.type "collections.deque"))] 10) #[]
noncomputable def o4(_:Params):Obj:=.mk (.type "module") (some 0) .plain #[]
noncomputable def o5(_:Params):Obj:=.mk (.type "module") (some 3) .plain #[]
noncomputable def o6(_:Params):Obj:=.mk (.type "dict") none (.dict #[] 0) #[]
noncomputable def o7(_:Params):Obj:=.mk (.type "tuple") none (.seq #[] 0) #[]
noncomputable def o8(_:Params):Obj:=.mk .none none (.fields #[]) #[]
noncomputable def o9(_:Params):Obj:=.mk (.type "code") none (.fields #[(.str (ofString "<module>") 176), (.str (ofString "<module>") 177), (.str (ofString "/claim/cut.py") 178), (.int 1 0), (.int 0 0), (.int 0 0), (.int 0 0), (.int 0 0), (.ref 7), (.bool false), (.int 175 0), (.ref 8), .none, .none, .none, .none, (.int 179 0), (.int 1 0), (.str (ofString "/claim/cut.py") 180)]) #[]
noncomputable def o10(_:Params):Obj:=.mk (.type "frame") none .plain #[(some (.ref 9)), (some (.ref 3)), (some (.ref 3)), none, (some (.str (ofString "__main__") 164)), none, (some (.ref 0))]
noncomputable def o11(_:Params):Obj:=.mk (.type "tuple") none (.seq #[(.str (ofString "deque") 182)] 0) #[]
noncomputable def o12(P:Params):Obj:=.mk (.type "dict") none (.dict #[(.mk (keyHash P (ofString "__name__")) (.str (ofString "__name__") 250) (.str (ofString "_collections") 249)), (.mk (keyHash P (ofString "__doc__")) (.str (ofString "__doc__") 251) (.builtin "_collections.__doc__:str#opaque")), (.mk (keyHash P (ofString "__package__")) (.str (ofString "__package__") 253) (.str (ofString "") 252)), (.mk (keyHash P (ofString "__loader__")) (.str (ofString "__loader__") 254) (.ref 15)), (.mk (keyHash P (ofString "__spec__")) (.str (ofString "__spec__") 255) (.ref 27)), (.mk (keyHash P (ofString "_count_elements")) (.str (ofString "_count_elements") 256) (.builtin "_collections._count_elements")), (.mk (keyHash P (ofString "deque")) (.str (ofString "deque") 257) (.type "collections.deque")), (.mk (keyHash P (ofString "defaultdict")) (.str (ofString "defaultdict") 258) (.type "collections.defaultdict")), (.mk (keyHash P (ofString "_deque_iterator")) (.str (ofString "_deque_iterator") 259) (.type "collections._deque_iterator")), (.mk (keyHash P (ofString "_deque_reverse_iterator")) (.str (ofString "_deque_reverse_iterator") 260) (.type "collections._deque_reverse_iterator")), (.mk (keyHash P (ofString "_tuplegetter")) (.str (ofString "_tuplegetter") 261) (.type "collections._tuplegetter")), (.mk (keyHash P (ofString "OrderedDict")) (.str (ofString "OrderedDict") 262) (.type "collections.OrderedDict"))] 12) #[]
noncomputable def o13(_:Params):Obj:=.mk (.type "module") (some 12) .plain #[]
noncomputable def o14(P:Params):Obj:=.mk (.type "dict") none (.dict #[(.mk (keyHash P (ofString "__module__")) (.str (ofString "__module__") 191) (.str (ofString "_frozen_importlib") 188)), (.mk (keyHash P (ofString "__firstlineno__")) (.str (ofString "__firstlineno__") 192) (.int 971 189)), (.mk (keyHash P (ofString "__doc__")) (.str (ofString "__doc__") 193) (.builtin "_frozen_importlib.BuiltinImporter.__doc__:str#opaque")), (.mk (keyHash P (ofString "_ORIGIN")) (.str (ofString "_ORIGIN") 194) (.str (ofString "built-in") 190)), (.mk (keyHash P (ofString "find_spec")) (.str (ofString "find_spec") 195) (.builtin "_frozen_importlib.BuiltinImporter.find_spec#opaque")), (.mk (keyHash P (ofString "create_module")) (.str (ofString "create_module") 196) (.builtin "_frozen_importlib.BuiltinImporter.create_module#opaque")), (.mk (keyHash P (ofString "exec_module")) (.str (ofString "exec_module") 197) (.builtin "_frozen_importlib.BuiltinImporter.exec_module#opaque")), (.mk (keyHash P (ofString "get_code")) (.str (ofString "get_code") 198) (.builtin "_frozen_importlib.BuiltinImporter.get_code#opaque")), (.mk (keyHash P (ofString "get_source")) (.str (ofString "get_source") 199) (.builtin "_frozen_importlib.BuiltinImporter.get_source#opaque")), (.mk (keyHash P (ofString "is_package")) (.str (ofString "is_package") 200) (.builtin "_frozen_importlib.BuiltinImporter.is_package#opaque")), (.mk (keyHash P (ofString "load_module")) (.str (ofString "load_module") 201) (.builtin "_frozen_importlib.BuiltinImporter.load_module#opaque")), (.mk (keyHash P (ofString "__static_attributes__")) (.str (ofString "__static_attributes__") 202) (.ref 16)), (.mk (keyHash P (ofString "__dict__")) (.str (ofString "__dict__") 204) (.ref 17)), (.mk (keyHash P (ofString "__weakref__")) (.str (ofString "__weakref__") 206) (.ref 18))] 14) #[]
noncomputable def o15(_:Params):Obj:=.mk (.type "type") none (Data.cls (ClassData.mk (ofString "BuiltinImporter") [(.type "object")] [(.ref 15), (.type "object")] 14 (ofString "BuiltinImporter") true [] [] false none false)) #[]
noncomputable def o16(_:Params):Obj:=.mk (.type "tuple") none (.seq #[] 0) #[]
noncomputable def o17(_:Params):Obj:=.mk (.type "getset_descriptor") none (.fields #[(.str (ofString "__dict__") 203), (.ref 15), (.builtin "function.__dict__"), (.builtin "function.__dict__#set")]) #[]
noncomputable def o18(_:Params):Obj:=.mk (.type "getset_descriptor") none (.fields #[(.str (ofString "__weakref__") 205), (.ref 15), (.builtin "ExceptionGroup.__weakref__"), .none]) #[]
noncomputable def o19(_:Params):Obj:=.mk .none none (.seq #[(.int 14 0), (.str (ofString "\x06¿\n__module__\x06¼\x11_frozen_importlib\x06À\x0f__firstlineno__\x04½\x00ϋ\x06Á\x07__doc__\t4_frozen_importlib.BuiltinImporter.__doc__:str#opaque\x06Â\x07_ORIGIN\x06¾\x08built-in\x06Ã\tfind_spec\t2_frozen_importlib.BuiltinImporter.find_spec#opaque\x06Ä\rcreate_module\t6_frozen_importlib.BuiltinImporter.create_module#opaque\x06Å\x0bexec_module\t4_frozen_importlib.BuiltinImporter.exec_module#opaque\x06Æ\x08get_code\t1_frozen_importlib.BuiltinImporter.get_code#opaque\x06Ç\nget_source\t3_frozen_importlib.BuiltinImporter.get_source#opaque\x06È\nis_package\t3_frozen_importlib.BuiltinImporter.is_package#opaque\x06É\x0bload_module\t4_frozen_importlib.BuiltinImporter.load_module#opaque\x06Ê\x15__static_attributes__\x04\x00\x00\x10\x06Ì\x08__dict__\x04\x00\x00\x11\x06Î\x0b__weakref__\x04\x00\x00\x12") 0), (.bool true), (.bool true), (.str (ofString "") 207), (.int 22 0), (.str (ofString "\x06å\n__module__\x06Û\x11_frozen_importlib\x06æ\x0f__firstlineno__\x04Ü\x00Ȳ\x06ç\x07__doc__\t/_frozen_importlib.ModuleSpec.__doc__:str#opaque\x06è\x08__init__\t,_frozen_importlib.ModuleSpec.__init__#opaque\x06é\x08__repr__\t,_frozen_importlib.ModuleSpec.__repr__#opaque\x06ê\x06__eq__\t*_frozen_importlib.ModuleSpec.__eq__#opaque\x06ë\x06cached\t*_frozen_importlib.ModuleSpec.cached#opaque\x06ì\x06parent\t*_frozen_importlib.ModuleSpec.parent#opaque\x06í\x0chas_location\t0_frozen_importlib.ModuleSpec.has_location#opaque\x06î\x15__static_attributes__\x04\x00\x00\x18\x06ð\x08__dict__\x04\x00\x00\x19\x06ò\x0b__weakref__\x04\x00\x00\x1a\x06ó\x08__hash__\x00") 0), (.bool true), (.bool true), (.str (ofString "") 244)] 1) #[]
noncomputable def o20(_:Params):Obj:=.mk (.type "list") none (.seq #[] 0) #[]
noncomputable def o21(P:Params):Obj:=.mk (.type "dict") none (.dict #[(.mk (keyHash P (ofString "name")) (.str (ofString "name") 210) (.str (ofString "_collections") 209)), (.mk (keyHash P (ofString "loader")) (.str (ofString "loader") 211) (.ref 15)), (.mk (keyHash P (ofString "origin")) (.str (ofString "origin") 212) (.str (ofString "built-in") 186)), (.mk (keyHash P (ofString "loader_state")) (.str (ofString "loader_state") 213) .none), (.mk (keyHash P (ofString "submodule_search_locations")) (.str (ofString "submodule_search_locations") 214) .none), (.mk (keyHash P (ofString "_uninitialized_submodules")) (.str (ofString "_uninitialized_submodules") 215) (.ref 20)), (.mk (keyHash P (ofString "_set_fileattr")) (.str (ofString "_set_fileattr") 216) (.bool false)), (.mk (keyHash P (ofString "_cached")) (.str (ofString "_cached") 217) .none), (.mk (keyHash P (ofString "_initializing")) (.str (ofString "_initializing") 245) (.bool false))] 9) #[]
noncomputable def o22(P:Params):Obj:=.mk (.type "dict") none (.dict #[(.mk (keyHash P (ofString "__module__")) (.str (ofString "__module__") 229) (.str (ofString "_frozen_importlib") 219)), (.mk (keyHash P (ofString "__firstlineno__")) (.str (ofString "__firstlineno__") 230) (.int 562 220)), (.mk (keyHash P (ofString "__doc__")) (.str (ofString "__doc__") 231) (.builtin "_frozen_importlib.ModuleSpec.__doc__:str#opaque")), (.mk (keyHash P (ofString "__init__")) (.str (ofString "__init__") 232) (.builtin "_frozen_importlib.ModuleSpec.__init__#opaque")), (.mk (keyHash P (ofString "__repr__")) (.str (ofString "__repr__") 233) (.builtin "_frozen_importlib.ModuleSpec.__repr__#opaque")), (.mk (keyHash P (ofString "__eq__")) (.str (ofString "__eq__") 234) (.builtin "_frozen_importlib.ModuleSpec.__eq__#opaque")), (.mk (keyHash P (ofString "cached")) (.str (ofString "cached") 235) (.builtin "_frozen_importlib.ModuleSpec.cached#opaque")), (.mk (keyHash P (ofString "parent")) (.str (ofString "parent") 236) (.builtin "_frozen_importlib.ModuleSpec.parent#opaque")), (.mk (keyHash P (ofString "has_location")) (.str (ofString "has_location") 237) (.builtin "_frozen_importlib.ModuleSpec.has_location#opaque")), (.mk (keyHash P (ofString "__static_attributes__")) (.str (ofString "__static_attributes__") 238) (.ref 24)), (.mk (keyHash P (ofString "__dict__")) (.str (ofString "__dict__") 240) (.ref 25)), (.mk (keyHash P (ofString "__weakref__")) (.str (ofString "__weakref__") 242) (.ref 26)), (.mk (keyHash P (ofString "__hash__")) (.str (ofString "__hash__") 243) .none)] 13) #[]
noncomputable def o23(_:Params):Obj:=.mk (.type "type") none (Data.cls (ClassData.mk (ofString "ModuleSpec") [(.type "object")] [(.ref 23), (.type "object")] 22 (ofString "ModuleSpec") true [] [] false none false)) #[]
noncomputable def o24(_:Params):Obj:=.mk (.type "tuple") none (.seq #[(.str (ofString "_cached") 221), (.str (ofString "_set_fileattr") 222), (.str (ofString "_uninitialized_submodules") 223), (.str (ofString "loader") 224), (.str (ofString "loader_state") 225), (.str (ofString "name") 226), (.str (ofString "origin") 227), (.str (ofString "submodule_search_locations") 228)] 0) #[]
noncomputable def o25(_:Params):Obj:=.mk (.type "getset_descriptor") none (.fields #[(.str (ofString "__dict__") 239), (.ref 23), (.builtin "function.__dict__"), (.builtin "function.__dict__#set")]) #[]
noncomputable def o26(_:Params):Obj:=.mk (.type "getset_descriptor") none (.fields #[(.str (ofString "__weakref__") 241), (.ref 23), (.builtin "ExceptionGroup.__weakref__"), .none]) #[]
noncomputable def o27(_:Params):Obj:=.mk (.ref 23) (some 21) .plain #[]
noncomputable def o28(_:Params):Obj:=.mk .none none (.seq #[(.int 12 0), (.str (ofString "\x06ú\x08__name__\x06ù\x0c_collections\x06û\x07__doc__\t\x1f_collections.__doc__:str#opaque\x06ý\x0b__package__\x06ü\x00\x06þ\n__loader__\x04\x00\x00\x0f\x06ÿ\x08__spec__\x04\x00\x00\x1b\x06Ā\x0f_count_elements\t\x1c_collections._count_elements\x06ā\x05deque\x08\x11collections.deque\x06Ă\x0bdefaultdict\x08\x17collections.defaultdict\x06ă\x0f_deque_iterator\x08\x1bcollections._deque_iterator\x06Ą\x17_deque_reverse_iterator\x08#collections._deque_reverse_iterator\x06ą\x0c_tuplegetter\x08\x18collections._tuplegetter\x06Ć\x0bOrderedDict\x08\x17collections.OrderedDict") 0), (.bool true), (.bool false), (.str (ofString "_collections") 264)] 0) #[]
noncomputable def He (P : Params) : Heap := ⟨⟨[o0 P, o1 P, o2 P, o3 P, o4 P, o5 P, o6 P, o7 P, o8 P, o9 P, o10 P, o11 P, o12 P, o13 P, o14 P, o15 P, o16 P, o17 P, o18 P, o19 P, o20 P, o21 P, o22 P, o23 P, o24 P, o25 P, o26 P, o27 P, o28 P]⟩, (Life.mk [] [] [] 0 [] [] false #[] [] 0 false false false 0 [2000, 10, 10] false 0 true [] [] 0 false)⟩
noncomputable def o29(P:Params):Obj:=.mk (.type "dict") none (.dict #[(.mk (keyHash P (ofString "__name__")) (.str (ofString "__name__") 1) (.str (ofString "builtins") 160)), (.mk (keyHash P (ofString "__doc__")) (.str (ofString "__doc__") 2) (.builtin "builtins.__doc__:str#opaque")), (.mk (keyHash P (ofString "__package__")) (.str (ofString "__package__") 3) (.builtin "builtins.__package__:str#opaque")), (.mk (keyHash P (ofString "__loader__")) (.str (ofString "__loader__") 4) (.builtin "builtins.__loader__:shared#opaque")), (.mk (keyHash P (ofString "__spec__")) (.str (ofString "__spec__") 5) (.builtin "builtins.__spec__#opaque")), (.mk (keyHash P (ofString "__build_class__")) (.str (ofString "__build_class__") 6) (.builtin "__build_class__")), (.mk (keyHash P (ofString "__import__")) (.str (ofString "__import__") 7) (.builtin "__import__")), (.mk (keyHash P (ofString "abs")) (.str (ofString "abs") 8) (.builtin "abs")), (.mk (keyHash P (ofString "all")) (.str (ofString "all") 9) (.builtin "all")), (.mk (keyHash P (ofString "any")) (.str (ofString "any") 10) (.builtin "any")), (.mk (keyHash P (ofString "ascii")) (.str (ofString "ascii") 11) (.builtin "ascii")), (.mk (keyHash P (ofString "bin")) (.str (ofString "bin") 12) (.builtin "bin")), (.mk (keyHash P (ofString "breakpoint")) (.str (ofString "breakpoint") 13) (.builtin "breakpoint")), (.mk (keyHash P (ofString "callable")) (.str (ofString "callable") 14) (.builtin "callable")), (.mk (keyHash P (ofString "chr")) (.str (ofString "chr") 15) (.builtin "chr")), (.mk (keyHash P (ofString "compile")) (.str (ofString "compile") 16) (.builtin "compile")), (.mk (keyHash P (ofString "delattr")) (.str (ofString "delattr") 17) (.builtin "delattr")), (.mk (keyHash P (ofString "dir")) (.str (ofString "dir") 18) (.builtin "dir")), (.mk (keyHash P (ofString "divmod")) (.str (ofString "divmod") 19) (.builtin "divmod")), (.mk (keyHash P (ofString "eval")) (.str (ofString "eval") 20) (.builtin "eval")), (.mk (keyHash P (ofString "exec")) (.str (ofString "exec") 21) (.builtin "exec")), (.mk (keyHash P (ofString "format")) (.str (ofString "format") 22) (.builtin "format")), (.mk (keyHash P (ofString "getattr")) (.str (ofString "getattr") 23) (.builtin "getattr")), (.mk (keyHash P (ofString "globals")) (.str (ofString "globals") 24) (.builtin "globals")), (.mk (keyHash P (ofString "hasattr")) (.str (ofString "hasattr") 25) (.builtin "hasattr")), (.mk (keyHash P (ofString "hash")) (.str (ofString "hash") 26) (.builtin "hash")), (.mk (keyHash P (ofString "hex")) (.str (ofString "hex") 27) (.builtin "hex")), (.mk (keyHash P (ofString "id")) (.str (ofString "id") 28) (.builtin "id")), (.mk (keyHash P (ofString "input")) (.str (ofString "input") 29) (.builtin "input")), (.mk (keyHash P (ofString "isinstance")) (.str (ofString "isinstance") 30) (.builtin "isinstance")), (.mk (keyHash P (ofString "issubclass")) (.str (ofString "issubclass") 31) (.builtin "issubclass")), (.mk (keyHash P (ofString "iter")) (.str (ofString "iter") 32) (.builtin "iter")), (.mk (keyHash P (ofString "aiter")) (.str (ofString "aiter") 33) (.builtin "aiter")), (.mk (keyHash P (ofString "len")) (.str (ofString "len") 34) (.builtin "len")), (.mk (keyHash P (ofString "locals")) (.str (ofString "locals") 35) (.builtin "locals")), (.mk (keyHash P (ofString "max")) (.str (ofString "max") 36) (.builtin "max")), (.mk (keyHash P (ofString "min")) (.str (ofString "min") 37) (.builtin "min")), (.mk (keyHash P (ofString "next")) (.str (ofString "next") 38) (.builtin "next")), (.mk (keyHash P (ofString "anext")) (.str (ofString "anext") 39) (.builtin "anext")), (.mk (keyHash P (ofString "oct")) (.str (ofString "oct") 40) (.builtin "oct")), (.mk (keyHash P (ofString "ord")) (.str (ofString "ord") 41) (.builtin "ord")), (.mk (keyHash P (ofString "pow")) (.str (ofString "pow") 42) (.builtin "pow")), (.mk (keyHash P (ofString "print")) (.str (ofString "print") 43) (.builtin "print")), (.mk (keyHash P (ofString "repr")) (.str (ofString "repr") 44) (.builtin "repr")), (.mk (keyHash P (ofString "round")) (.str (ofString "round") 45) (.builtin "round")), (.mk (keyHash P (ofString "setattr")) (.str (ofString "setattr") 46) (.builtin "setattr")), (.mk (keyHash P (ofString "sorted")) (.str (ofString "sorted") 47) (.builtin "sorted")), (.mk (keyHash P (ofString "sum")) (.str (ofString "sum") 48) (.builtin "sum")), (.mk (keyHash P (ofString "vars")) (.str (ofString "vars") 49) (.builtin "vars")), (.mk (keyHash P (ofString "None")) (.str (ofString "None") 50) .none), (.mk (keyHash P (ofString "Ellipsis")) (.str (ofString "Ellipsis") 51) Value.ellipsis), (.mk (keyHash P (ofString "NotImplemented")) (.str (ofString "NotImplemented") 52) Value.notImplemented), (.mk (keyHash P (ofString "False")) (.str (ofString "False") 53) (.bool false)), (.mk (keyHash P (ofString "True")) (.str (ofString "True") 54) (.bool true)), (.mk (keyHash P (ofString "bool")) (.str (ofString "bool") 55) (.type "bool")), (.mk (keyHash P (ofString "memoryview")) (.str (ofString "memoryview") 56) (.type "memoryview")), (.mk (keyHash P (ofString "bytearray")) (.str (ofString "bytearray") 57) (.type "bytearray")), (.mk (keyHash P (ofString "bytes")) (.str (ofString "bytes") 58) (.type "bytes")), (.mk (keyHash P (ofString "classmethod")) (.str (ofString "classmethod") 59) (.type "classmethod")), (.mk (keyHash P (ofString "complex")) (.str (ofString "complex") 60) (.type "complex")), (.mk (keyHash P (ofString "dict")) (.str (ofString "dict") 61) (.type "dict")), (.mk (keyHash P (ofString "enumerate")) (.str (ofString "enumerate") 62) (.type "enumerate")), (.mk (keyHash P (ofString "filter")) (.str (ofString "filter") 63) (.type "filter")), (.mk (keyHash P (ofString "float")) (.str (ofString "float") 64) (.type "float")), (.mk (keyHash P (ofString "frozenset")) (.str (ofString "frozenset") 65) (.type "frozenset")), (.mk (keyHash P (ofString "property")) (.str (ofString "property") 66) (.type "property")), (.mk (keyHash P (ofString "int")) (.str (ofString "int") 67) (.type "int")), (.mk (keyHash P (ofString "list")) (.str (ofString "list") 68) (.type "list")), (.mk (keyHash P (ofString "map")) (.str (ofString "map") 69) (.type "map")), (.mk (keyHash P (ofString "object")) (.str (ofString "object") 70) (.type "object")), (.mk (keyHash P (ofString "range")) (.str (ofString "range") 71) (.type "range")), (.mk (keyHash P (ofString "reversed")) (.str (ofString "reversed") 72) (.type "reversed")), (.mk (keyHash P (ofString "set")) (.str (ofString "set") 73) (.type "set")), (.mk (keyHash P (ofString "slice")) (.str (ofString "slice") 74) (.type "slice")), (.mk (keyHash P (ofString "staticmethod")) (.str (ofString "staticmethod") 75) (.type "staticmethod")), (.mk (keyHash P (ofString "str")) (.str (ofString "str") 76) (.type "str")), (.mk (keyHash P (ofString "super")) (.str (ofString "super") 77) (.type "super")), (.mk (keyHash P (ofString "tuple")) (.str (ofString "tuple") 78) (.type "tuple")), (.mk (keyHash P (ofString "type")) (.str (ofString "type") 79) (.type "type")), (.mk (keyHash P (ofString "zip")) (.str (ofString "zip") 80) (.type "zip")), (.mk (keyHash P (ofString "__debug__")) (.str (ofString "__debug__") 81) (.bool true)), (.mk (keyHash P (ofString "BaseException")) (.str (ofString "BaseException") 82) (.type "BaseException")), (.mk (keyHash P (ofString "BaseExceptionGroup")) (.str (ofString "BaseExceptionGroup") 83) (.type "BaseExceptionGroup")), (.mk (keyHash P (ofString "Exception")) (.str (ofString "Exception") 84) (.type "Exception")), (.mk (keyHash P (ofString "GeneratorExit")) (.str (ofString "GeneratorExit") 85) (.type "GeneratorExit")), (.mk (keyHash P (ofString "KeyboardInterrupt")) (.str (ofString "KeyboardInterrupt") 86) (.type "KeyboardInterrupt")), (.mk (keyHash P (ofString "SystemExit")) (.str (ofString "SystemExit") 87) (.type "SystemExit")), (.mk (keyHash P (ofString "ArithmeticError")) (.str (ofString "ArithmeticError") 88) (.type "ArithmeticError")), (.mk (keyHash P (ofString "AssertionError")) (.str (ofString "AssertionError") 89) (.type "AssertionError")), (.mk (keyHash P (ofString "AttributeError")) (.str (ofString "AttributeError") 90) (.type "AttributeError")), (.mk (keyHash P (ofString "BufferError")) (.str (ofString "BufferError") 91) (.type "BufferError")), (.mk (keyHash P (ofString "EOFError")) (.str (ofString "EOFError") 92) (.type "EOFError")), (.mk (keyHash P (ofString "ImportError")) (.str (ofString "ImportError") 93) (.type "ImportError")), (.mk (keyHash P (ofString "LookupError")) (.str (ofString "LookupError") 94) (.type "LookupError")), (.mk (keyHash P (ofString "MemoryError")) (.str (ofString "MemoryError") 95) (.type "MemoryError")), (.mk (keyHash P (ofString "NameError")) (.str (ofString "NameError") 96) (.type "NameError")), (.mk (keyHash P (ofString "OSError")) (.str (ofString "OSError") 97) (.type "OSError")), (.mk (keyHash P (ofString "ReferenceError")) (.str (ofString "ReferenceError") 98) (.type "ReferenceError")), (.mk (keyHash P (ofString "RuntimeError")) (.str (ofString "RuntimeError") 99) (.type "RuntimeError")), (.mk (keyHash P (ofString "StopAsyncIteration")) (.str (ofString "StopAsyncIteration") 100) (.type "StopAsyncIteration")), (.mk (keyHash P (ofString "StopIteration")) (.str (ofString "StopIteration") 101) (.type "StopIteration")), (.mk (keyHash P (ofString "SyntaxError")) (.str (ofString "SyntaxError") 102) (.type "SyntaxError")), (.mk (keyHash P (ofString "SystemError")) (.str (ofString "SystemError") 103) (.type "SystemError")), (.mk (keyHash P (ofString "TypeError")) (.str (ofString "TypeError") 104) (.type "TypeError")), (.mk (keyHash P (ofString "ValueError")) (.str (ofString "ValueError") 105) (.type "ValueError")), (.mk (keyHash P (ofString "Warning")) (.str (ofString "Warning") 106) (.type "Warning")), (.mk (keyHash P (ofString "FloatingPointError")) (.str (ofString "FloatingPointError") 107) (.type "FloatingPointError")), (.mk (keyHash P (ofString "OverflowError")) (.str (ofString "OverflowError") 108) (.type "OverflowError")), (.mk (keyHash P (ofString "ZeroDivisionError")) (.str (ofString "ZeroDivisionError") 109) (.type "ZeroDivisionError")), (.mk (keyHash P (ofString "BytesWarning")) (.str (ofString "BytesWarning") 110) (.type "BytesWarning")), (.mk (keyHash P (ofString "DeprecationWarning")) (.str (ofString "DeprecationWarning") 111) (.type "DeprecationWarning")), (.mk (keyHash P (ofString "EncodingWarning")) (.str (ofString "EncodingWarning") 112) (.type "EncodingWarning")), (.mk (keyHash P (ofString "FutureWarning")) (.str (ofString "FutureWarning") 113) (.type "FutureWarning")), (.mk (keyHash P (ofString "ImportWarning")) (.str (ofString "ImportWarning") 114) (.type "ImportWarning")), (.mk (keyHash P (ofString "PendingDeprecationWarning")) (.str (ofString "PendingDeprecationWarning") 115) (.type "PendingDeprecationWarning")), (.mk (keyHash P (ofString "ResourceWarning")) (.str (ofString "ResourceWarning") 116) (.type "ResourceWarning")), (.mk (keyHash P (ofString "RuntimeWarning")) (.str (ofString "RuntimeWarning") 117) (.type "RuntimeWarning")), (.mk (keyHash P (ofString "SyntaxWarning")) (.str (ofString "SyntaxWarning") 118) (.type "SyntaxWarning")), (.mk (keyHash P (ofString "UnicodeWarning")) (.str (ofString "UnicodeWarning") 119) (.type "UnicodeWarning")), (.mk (keyHash P (ofString "UserWarning")) (.str (ofString "UserWarning") 120) (.type "UserWarning")), (.mk (keyHash P (ofString "BlockingIOError")) (.str (ofString "BlockingIOError") 121) (.type "BlockingIOError")), (.mk (keyHash P (ofString "ChildProcessError")) (.str (ofString "ChildProcessError") 122) (.type "ChildProcessError")), (.mk (keyHash P (ofString "ConnectionError")) (.str (ofString "ConnectionError") 123) (.type "ConnectionError")), (.mk (keyHash P (ofString "FileExistsError")) (.str (ofString "FileExistsError") 124) (.type "FileExistsError")), (.mk (keyHash P (ofString "FileNotFoundError")) (.str (ofString "FileNotFoundError") 125) (.type "FileNotFoundError")), (.mk (keyHash P (ofString "InterruptedError")) (.str (ofString "InterruptedError") 126) (.type "InterruptedError")), (.mk (keyHash P (ofString "IsADirectoryError")) (.str (ofString "IsADirectoryError") 127) (.type "IsADirectoryError")), (.mk (keyHash P (ofString "NotADirectoryError")) (.str (ofString "NotADirectoryError") 128) (.type "NotADirectoryError")), (.mk (keyHash P (ofString "PermissionError")) (.str (ofString "PermissionError") 129) (.type "PermissionError")), (.mk (keyHash P (ofString "ProcessLookupError")) (.str (ofString "ProcessLookupError") 130) (.type "ProcessLookupError")), (.mk (keyHash P (ofString "TimeoutError")) (.str (ofString "TimeoutError") 131) (.type "TimeoutError")), (.mk (keyHash P (ofString "IndentationError")) (.str (ofString "IndentationError") 132) (.type "IndentationError")), (.mk (keyHash P (ofString "_IncompleteInputError")) (.str (ofString "_IncompleteInputError") 133) (.type "_IncompleteInputError")), (.mk (keyHash P (ofString "IndexError")) (.str (ofString "IndexError") 134) (.type "IndexError")), (.mk (keyHash P (ofString "KeyError")) (.str (ofString "KeyError") 135) (.type "KeyError")), (.mk (keyHash P (ofString "ModuleNotFoundError")) (.str (ofString "ModuleNotFoundError") 136) (.type "ModuleNotFoundError")), (.mk (keyHash P (ofString "NotImplementedError")) (.str (ofString "NotImplementedError") 137) (.type "NotImplementedError")), (.mk (keyHash P (ofString "PythonFinalizationError")) (.str (ofString "PythonFinalizationError") 138) (.type "PythonFinalizationError")), (.mk (keyHash P (ofString "RecursionError")) (.str (ofString "RecursionError") 139) (.type "RecursionError")), (.mk (keyHash P (ofString "UnboundLocalError")) (.str (ofString "UnboundLocalError") 140) (.type "UnboundLocalError")), (.mk (keyHash P (ofString "UnicodeError")) (.str (ofString "UnicodeError") 141) (.type "UnicodeError")), (.mk (keyHash P (ofString "BrokenPipeError")) (.str (ofString "BrokenPipeError") 142) (.type "BrokenPipeError")), (.mk (keyHash P (ofString "ConnectionAbortedError")) (.str (ofString "ConnectionAbortedError") 143) (.type "ConnectionAbortedError")), (.mk (keyHash P (ofString "ConnectionRefusedError")) (.str (ofString "ConnectionRefusedError") 144) (.type "ConnectionRefusedError")), (.mk (keyHash P (ofString "ConnectionResetError")) (.str (ofString "ConnectionResetError") 145) (.type "ConnectionResetError")), (.mk (keyHash P (ofString "TabError")) (.str (ofString "TabError") 146) (.type "TabError")), (.mk (keyHash P (ofString "UnicodeDecodeError")) (.str (ofString "UnicodeDecodeError") 147) (.type "UnicodeDecodeError")), (.mk (keyHash P (ofString "UnicodeEncodeError")) (.str (ofString "UnicodeEncodeError") 148) (.type "UnicodeEncodeError")), (.mk (keyHash P (ofString "UnicodeTranslateError")) (.str (ofString "UnicodeTranslateError") 149) (.type "UnicodeTranslateError")), (.mk (keyHash P (ofString "ExceptionGroup")) (.str (ofString "ExceptionGroup") 150) (.type "ExceptionGroup")), (.mk (keyHash P (ofString "EnvironmentError")) (.str (ofString "EnvironmentError") 151) (.type "OSError")), (.mk (keyHash P (ofString "IOError")) (.str (ofString "IOError") 152) (.type "OSError")), (.mk (keyHash P (ofString "open")) (.str (ofString "open") 153) (.builtin "open")), (.mk (keyHash P (ofString "quit")) (.str (ofString "quit") 154) (.builtin "builtins.quit#opaque")), (.mk (keyHash P (ofString "exit")) (.str (ofString "exit") 155) (.builtin "builtins.exit#opaque")), (.mk (keyHash P (ofString "copyright")) (.str (ofString "copyright") 156) (.builtin "builtins.copyright#opaque")), (.mk (keyHash P (ofString "credits")) (.str (ofString "credits") 157) (.builtin "builtins.credits#opaque")), (.mk (keyHash P (ofString "license")) (.str (ofString "license") 158) (.builtin "builtins.license#opaque")), (.mk (keyHash P (ofString "help")) (.str (ofString "help") 159) (.builtin "builtins.help#opaque"))] 159) #[]
noncomputable def o30(P:Params):Obj:=.mk (.type "dict") none (.dict #[(.mk (keyHash P (ofString "builtins")) (.str (ofString "builtins") 162) (.ref 4)), (.mk (keyHash P (ofString "__main__")) (.str (ofString "__main__") 163) (.ref 5)), (.mk (keyHash P (ofString "_collections")) (.str (ofString "_collections") 246) (.ref 13))] 3) #[]
noncomputable def o31(P:Params):Obj:=.mk .none none (.dict #[(.mk (keyHash P (ofString "\x69mport.loaded._collections")) (.str (ofString "\x69mport.loaded._collections") 185) (.bool true)), (.mk (keyHash P (ofString "class._frozen_importlib.BuiltinImporter")) (.str (ofString "class._frozen_importlib.BuiltinImporter") 187) (.ref 15)), (.mk (keyHash P (ofString "watched.\x69mport")) (.str (ofString "watched.\x69mport") 208) (.ref 19)), (.mk (keyHash P (ofString "class._frozen_importlib.ModuleSpec")) (.str (ofString "class._frozen_importlib.ModuleSpec") 218) (.ref 23)), (.mk (keyHash P (ofString "sys.modules.booked-epoch")) (.str (ofString "sys.modules.booked-epoch") 247) (.int 3 0)), (.mk (keyHash P (ofString "sys.modules.landed._collections")) (.str (ofString "sys.modules.landed._collections") 248) (.bool true)), (.mk (keyHash P (ofString "\x69mport.later-laid._collections")) (.str (ofString "\x69mport.later-laid._collections") 263) (.bool true)), (.mk (keyHash P (ofString "watched.library")) (.str (ofString "watched.library") 265) (.ref 28)), (.mk (keyHash P (ofString "watched.library-objects")) (.str (ofString "watched.library-objects") 0) (.str (ofString "\r") 0)), (.mk (keyHash P (ofString "watched.library-deep._collections")) (.str (ofString "watched.library-deep._collections") 266) (.str (ofString "\x04\x00\x00\x0c\x04\x00\x00\x0c\x04\x00\x00\x03\x04\x00\x00\x0c\x08\x04dict\x02") 0))] 10) #[]
noncomputable def o32(P:Params):Obj:=.mk (.type "dict") none (.dict #[(.mk (keyHash P (ofString "__name__")) (.str (ofString "__name__") 165) (.str (ofString "__main__") 164)), (.mk (keyHash P (ofString "__doc__")) (.str (ofString "__doc__") 166) .none), (.mk (keyHash P (ofString "__package__")) (.str (ofString "__package__") 167) .none), (.mk (keyHash P (ofString "__loader__")) (.str (ofString "__loader__") 168) (.builtin "__main__.__loader__#opaque")), (.mk (keyHash P (ofString "__spec__")) (.str (ofString "__spec__") 169) .none), (.mk (keyHash P (ofString "__annotations__")) (.str (ofString "__annotations__") 170) (.ref 6)), (.mk (keyHash P (ofString "__builtins__")) (.str (ofString "__builtins__") 171) (.ref 4)), (.mk (keyHash P (ofString "__file__")) (.str (ofString "__file__") 173) (.str (ofString "/claim/cut.py") 172)), (.mk (keyHash P (ofString "__cached__")) (.str (ofString "__cached__") 174) .none), (.mk (keyHash P (ofString "deque")) (.str (ofString "deque") 272) (.type "collections.deque"))] 10) #[]
noncomputable def o33(_:Params):Obj:=.mk (.type "module") (some 0) .plain #[]
noncomputable def o34(_:Params):Obj:=.mk (.type "module") (some 3) .plain #[]
noncomputable def o35(_:Params):Obj:=.mk (.type "tuple") none (.seq #[] 0) #[]
noncomputable def o36(_:Params):Obj:=.mk (.type "code") none (.fields #[(.str (ofString "<module>") 176), (.str (ofString "<module>") 177), (.str (ofString "/claim/cut.py") 178), (.int 1 0), (.int 0 0), (.int 0 0), (.int 0 0), (.int 0 0), (.ref 7), (.bool false), (.int 175 0), (.ref 8), .none, .none, .none, .none, (.int 179 0), (.int 1 0), (.str (ofString "/claim/cut.py") 180)]) #[]
noncomputable def o37(_:Params):Obj:=.mk (.type "frame") none .plain #[(some (.ref 9)), (some (.ref 3)), (some (.ref 3)), none, (some (.str (ofString "__main__") 164)), none, (some (.ref 0))]
noncomputable def o38(_:Params):Obj:=.mk (.type "tuple") none (.seq #[(.str (ofString "deque") 182)] 0) #[]
noncomputable def o39(P:Params):Obj:=.mk (.type "dict") none (.dict #[(.mk (keyHash P (ofString "__name__")) (.str (ofString "__name__") 250) (.str (ofString "_collections") 249)), (.mk (keyHash P (ofString "__doc__")) (.str (ofString "__doc__") 251) (.builtin "off-the-table:_collections.__doc__:shared#opaque")), (.mk (keyHash P (ofString "__package__")) (.str (ofString "__package__") 253) (.str (ofString "") 252)), (.mk (keyHash P (ofString "__loader__")) (.str (ofString "__loader__") 254) (.builtin "off-the-table:_collections.__loader__:shared#opaque")), (.mk (keyHash P (ofString "__spec__")) (.str (ofString "__spec__") 255) (.builtin "off-the-table:_collections.__spec__:shared#opaque")), (.mk (keyHash P (ofString "_count_elements")) (.str (ofString "_count_elements") 256) (.builtin "_collections._count_elements")), (.mk (keyHash P (ofString "deque")) (.str (ofString "deque") 257) (.type "collections.deque")), (.mk (keyHash P (ofString "defaultdict")) (.str (ofString "defaultdict") 258) (.type "collections.defaultdict")), (.mk (keyHash P (ofString "_deque_iterator")) (.str (ofString "_deque_iterator") 259) (.builtin "off-the-table:_collections._deque_iterator:shared#opaque")), (.mk (keyHash P (ofString "_deque_reverse_iterator")) (.str (ofString "_deque_reverse_iterator") 260) (.builtin "off-the-table:_collections._deque_reverse_iterator:shared#opaque")), (.mk (keyHash P (ofString "_tuplegetter")) (.str (ofString "_tuplegetter") 261) (.type "collections._tuplegetter")), (.mk (keyHash P (ofString "OrderedDict")) (.str (ofString "OrderedDict") 262) (.type "collections.OrderedDict"))] 12) #[]
noncomputable def o40(_:Params):Obj:=.mk (.type "module") (some 12) .plain #[]
noncomputable def o41(P:Params):Obj:=.mk (.type "dict") none (.dict #[(.mk (keyHash P (ofString "__module__")) (.str (ofString "__module__") 191) (.str (ofString "_frozen_importlib") 188)), (.mk (keyHash P (ofString "__firstlineno__")) (.str (ofString "__firstlineno__") 192) (.int 971 189)), (.mk (keyHash P (ofString "__doc__")) (.str (ofString "__doc__") 193) (.builtin "_frozen_importlib.BuiltinImporter.__doc__:str#opaque")), (.mk (keyHash P (ofString "_ORIGIN")) (.str (ofString "_ORIGIN") 194) (.str (ofString "built-in") 190)), (.mk (keyHash P (ofString "find_spec")) (.str (ofString "find_spec") 195) (.builtin "_frozen_importlib.BuiltinImporter.find_spec#opaque")), (.mk (keyHash P (ofString "create_module")) (.str (ofString "create_module") 196) (.builtin "_frozen_importlib.BuiltinImporter.create_module#opaque")), (.mk (keyHash P (ofString "exec_module")) (.str (ofString "exec_module") 197) (.builtin "_frozen_importlib.BuiltinImporter.exec_module#opaque")), (.mk (keyHash P (ofString "get_code")) (.str (ofString "get_code") 198) (.builtin "_frozen_importlib.BuiltinImporter.get_code#opaque")), (.mk (keyHash P (ofString "get_source")) (.str (ofString "get_source") 199) (.builtin "_frozen_importlib.BuiltinImporter.get_source#opaque")), (.mk (keyHash P (ofString "is_package")) (.str (ofString "is_package") 200) (.builtin "_frozen_importlib.BuiltinImporter.is_package#opaque")), (.mk (keyHash P (ofString "load_module")) (.str (ofString "load_module") 201) (.builtin "_frozen_importlib.BuiltinImporter.load_module#opaque")), (.mk (keyHash P (ofString "__static_attributes__")) (.str (ofString "__static_attributes__") 202) (.ref 16)), (.mk (keyHash P (ofString "__dict__")) (.str (ofString "__dict__") 204) (.ref 17)), (.mk (keyHash P (ofString "__weakref__")) (.str (ofString "__weakref__") 206) (.ref 18))] 14) #[]
noncomputable def o42(_:Params):Obj:=.mk (.type "type") none (Data.cls (ClassData.mk (ofString "BuiltinImporter") [(.type "object")] [(.ref 15), (.type "object")] 14 (ofString "BuiltinImporter") true [] [] false none false)) #[]
noncomputable def o43(_:Params):Obj:=.mk (.type "tuple") none (.seq #[] 0) #[]
noncomputable def o44(_:Params):Obj:=.mk (.type "getset_descriptor") none (.fields #[(.str (ofString "__dict__") 203), (.ref 15), (.builtin "function.__dict__"), (.builtin "function.__dict__#set")]) #[]
noncomputable def o45(_:Params):Obj:=.mk (.type "getset_descriptor") none (.fields #[(.str (ofString "__weakref__") 205), (.ref 15), (.builtin "ExceptionGroup.__weakref__"), .none]) #[]
noncomputable def o46(_:Params):Obj:=.mk .none none (.seq #[(.int 14 0), (.str (ofString "\x06¿\n__module__\x06¼\x11_frozen_importlib\x06À\x0f__firstlineno__\x04½\x00ϋ\x06Á\x07__doc__\t4_frozen_importlib.BuiltinImporter.__doc__:str#opaque\x06Â\x07_ORIGIN\x06¾\x08built-in\x06Ã\tfind_spec\t2_frozen_importlib.BuiltinImporter.find_spec#opaque\x06Ä\rcreate_module\t6_frozen_importlib.BuiltinImporter.create_module#opaque\x06Å\x0bexec_module\t4_frozen_importlib.BuiltinImporter.exec_module#opaque\x06Æ\x08get_code\t1_frozen_importlib.BuiltinImporter.get_code#opaque\x06Ç\nget_source\t3_frozen_importlib.BuiltinImporter.get_source#opaque\x06È\nis_package\t3_frozen_importlib.BuiltinImporter.is_package#opaque\x06É\x0bload_module\t4_frozen_importlib.BuiltinImporter.load_module#opaque\x06Ê\x15__static_attributes__\x04\x00\x00\x10\x06Ì\x08__dict__\x04\x00\x00\x11\x06Î\x0b__weakref__\x04\x00\x00\x12") 0), (.bool true), (.bool true), (.str (ofString "") 207), (.int 22 0), (.str (ofString "\x06å\n__module__\x06Û\x11_frozen_importlib\x06æ\x0f__firstlineno__\x04Ü\x00Ȳ\x06ç\x07__doc__\t/_frozen_importlib.ModuleSpec.__doc__:str#opaque\x06è\x08__init__\t,_frozen_importlib.ModuleSpec.__init__#opaque\x06é\x08__repr__\t,_frozen_importlib.ModuleSpec.__repr__#opaque\x06ê\x06__eq__\t*_frozen_importlib.ModuleSpec.__eq__#opaque\x06ë\x06cached\t*_frozen_importlib.ModuleSpec.cached#opaque\x06ì\x06parent\t*_frozen_importlib.ModuleSpec.parent#opaque\x06í\x0chas_location\t0_frozen_importlib.ModuleSpec.has_location#opaque\x06î\x15__static_attributes__\x04\x00\x00\x18\x06ð\x08__dict__\x04\x00\x00\x19\x06ò\x0b__weakref__\x04\x00\x00\x1a\x06ó\x08__hash__\x00") 0), (.bool true), (.bool true), (.str (ofString "") 244)] 1) #[]
noncomputable def o47(P:Params):Obj:=.mk (.type "dict") none (.dict #[(.mk (keyHash P (ofString "name")) (.str (ofString "name") 210) (.str (ofString "_collections") 209)), (.mk (keyHash P (ofString "loader")) (.str (ofString "loader") 211) (.ref 15)), (.mk (keyHash P (ofString "origin")) (.str (ofString "origin") 212) (.str (ofString "built-in") 186)), (.mk (keyHash P (ofString "loader_state")) (.str (ofString "loader_state") 213) .none), (.mk (keyHash P (ofString "submodule_search_locations")) (.str (ofString "submodule_search_locations") 214) .none), (.mk (keyHash P (ofString "_uninitialized_submodules")) (.str (ofString "_uninitialized_submodules") 215) (.ref 20)), (.mk (keyHash P (ofString "_set_fileattr")) (.str (ofString "_set_fileattr") 216) (.bool false)), (.mk (keyHash P (ofString "_cached")) (.str (ofString "_cached") 217) .none), (.mk (keyHash P (ofString "_initializing")) (.str (ofString "_initializing") 245) (.bool false))] 9) #[]
noncomputable def o48(P:Params):Obj:=.mk (.type "dict") none (.dict #[(.mk (keyHash P (ofString "__module__")) (.str (ofString "__module__") 229) (.str (ofString "_frozen_importlib") 219)), (.mk (keyHash P (ofString "__firstlineno__")) (.str (ofString "__firstlineno__") 230) (.int 562 220)), (.mk (keyHash P (ofString "__doc__")) (.str (ofString "__doc__") 231) (.builtin "_frozen_importlib.ModuleSpec.__doc__:str#opaque")), (.mk (keyHash P (ofString "__init__")) (.str (ofString "__init__") 232) (.builtin "_frozen_importlib.ModuleSpec.__init__#opaque")), (.mk (keyHash P (ofString "__repr__")) (.str (ofString "__repr__") 233) (.builtin "_frozen_importlib.ModuleSpec.__repr__#opaque")), (.mk (keyHash P (ofString "__eq__")) (.str (ofString "__eq__") 234) (.builtin "_frozen_importlib.ModuleSpec.__eq__#opaque")), (.mk (keyHash P (ofString "cached")) (.str (ofString "cached") 235) (.builtin "_frozen_importlib.ModuleSpec.cached#opaque")), (.mk (keyHash P (ofString "parent")) (.str (ofString "parent") 236) (.builtin "_frozen_importlib.ModuleSpec.parent#opaque")), (.mk (keyHash P (ofString "has_location")) (.str (ofString "has_location") 237) (.builtin "_frozen_importlib.ModuleSpec.has_location#opaque")), (.mk (keyHash P (ofString "__static_attributes__")) (.str (ofString "__static_attributes__") 238) (.ref 24)), (.mk (keyHash P (ofString "__dict__")) (.str (ofString "__dict__") 240) (.ref 25)), (.mk (keyHash P (ofString "__weakref__")) (.str (ofString "__weakref__") 242) (.ref 26)), (.mk (keyHash P (ofString "__hash__")) (.str (ofString "__hash__") 243) .none)] 13) #[]
noncomputable def o49(_:Params):Obj:=.mk (.type "type") none (Data.cls (ClassData.mk (ofString "ModuleSpec") [(.type "object")] [(.ref 23), (.type "object")] 22 (ofString "ModuleSpec") true [] [] false none false)) #[]
noncomputable def o50(_:Params):Obj:=.mk (.type "tuple") none (.seq #[(.str (ofString "_cached") 221), (.str (ofString "_set_fileattr") 222), (.str (ofString "_uninitialized_submodules") 223), (.str (ofString "loader") 224), (.str (ofString "loader_state") 225), (.str (ofString "name") 226), (.str (ofString "origin") 227), (.str (ofString "submodule_search_locations") 228)] 0) #[]
noncomputable def o51(_:Params):Obj:=.mk (.type "getset_descriptor") none (.fields #[(.str (ofString "__dict__") 239), (.ref 23), (.builtin "function.__dict__"), (.builtin "function.__dict__#set")]) #[]
noncomputable def o52(_:Params):Obj:=.mk (.type "getset_descriptor") none (.fields #[(.str (ofString "__weakref__") 241), (.ref 23), (.builtin "ExceptionGroup.__weakref__"), .none]) #[]
noncomputable def o53(_:Params):Obj:=.mk (.ref 23) (some 21) .plain #[]
noncomputable def o54(_:Params):Obj:=.mk .none none (.seq #[(.int 12 0), (.str (ofString "\x06ú\x08__name__\x06ù\x0c_collections\x06û\x07__doc__\t\x1f_collections.__doc__:str#opaque\x06ý\x0b__package__\x06ü\x00\x06þ\n__loader__\x04\x00\x00\x0f\x06ÿ\x08__spec__\x04\x00\x00\x1b\x06Ā\x0f_count_elements\t\x1c_collections._count_elements\x06ā\x05deque\x08\x11collections.deque\x06Ă\x0bdefaultdict\x08\x17collections.defaultdict\x06ă\x0f_deque_iterator\x08\x1bcollections._deque_iterator\x06Ą\x17_deque_reverse_iterator\x08#collections._deque_reverse_iterator\x06ą\x0c_tuplegetter\x08\x18collections._tuplegetter\x06Ć\x0bOrderedDict\x08\x17collections.OrderedDict") 0), (.bool true), (.bool false), (.str (ofString "_collections") 264)] 0) #[]
noncomputable def H0 (P : Params) : Heap := ⟨⟨[o29 P, o30 P, o31 P, o32 P, o33 P, o34 P, o6 P, o35 P, o8 P, o36 P, o37 P, o38 P, o39 P, o40 P, o41 P, o42 P, o43 P, o44 P, o45 P, o46 P, o20 P, o47 P, o48 P, o49 P, o50 P, o51 P, o52 P, o53 P, o54 P]⟩, (Life.mk [] [] [] 0 [] [] false #[] [] 0 false false false 0 [2000, 10, 10] false 0 true [] [] 0 false)⟩
noncomputable def o55(_:Params):Obj:=.mk (.type "tuple") none (.seq #[] 0) #[]
noncomputable def o56(_:Params):Obj:=.mk .none none (.fields #[]) #[]
noncomputable def o57(_:Params):Obj:=.mk (.type "code") none (.fields #[(.str (ofString "<module>") 274), (.str (ofString "<module>") 275), (.str (ofString "/claim/cut.py") 276), (.int 1 0), (.int 0 0), (.int 0 0), (.int 0 0), (.int 0 0), (.ref 29), (.bool false), (.int 273 0), (.ref 30), .none, .none, .none, .none, (.int 277 0), (.int 1 0), (.str (ofString "/claim/cut.py") 278)]) #[]
noncomputable def o58(_:Params):Obj:=.mk (.type "frame") none .plain #[(some (.ref 31)), (some (.ref 3)), (some (.ref 3)), none, (some (.str (ofString "__main__") 164)), none, (some (.ref 0))]
noncomputable def Ha (P : Params) : Heap := ⟨⟨[o29 P, o30 P, o31 P, o32 P, o33 P, o34 P, o6 P, o35 P, o8 P, o36 P, o37 P, o38 P, o39 P, o40 P, o41 P, o42 P, o43 P, o44 P, o45 P, o46 P, o20 P, o47 P, o48 P, o49 P, o50 P, o51 P, o52 P, o53 P, o54 P, o55 P, o56 P, o57 P, o58 P]⟩, (Life.mk [] [] [] 0 [] [] false #[] [] 0 false false false 0 [2000, 10, 10] false 0 true [] [] 0 false)⟩
noncomputable def T0 (P : Params) : BT := (.node (o29 P) (.node (o30 P) (.node (o32 P) (.node (o35 P) (.node (o42 P) (.node (o57 P) .nil .nil) .nil) (.node (o49 P) .nil .nil)) (.node (o38 P) (.node (o46 P) .nil .nil) (.node (o53 P) .nil .nil))) (.node (o34 P) (.node (o36 P) (.node (o44 P) .nil .nil) (.node (o51 P) .nil .nil)) (.node (o40 P) (.node (o47 P) .nil .nil) (.node (o55 P) .nil .nil)))) (.node (o31 P) (.node (o33 P) (.node (o8 P) (.node (o43 P) (.node (o58 P) .nil .nil) .nil) (.node (o50 P) .nil .nil)) (.node (o39 P) (.node (o20 P) .nil .nil) (.node (o54 P) .nil .nil))) (.node (o6 P) (.node (o37 P) (.node (o45 P) .nil .nil) (.node (o52 P) .nil .nil)) (.node (o41 P) (.node (o48 P) .nil .nil) (.node (o56 P) .nil .nil)))))
noncomputable def o59(P:Params):Obj:=.mk .none none (.dict #[(.mk (keyHash P (ofString "\x69mport.loaded._collections")) (.str (ofString "\x69mport.loaded._collections") 185) (.bool true)), (.mk (keyHash P (ofString "class._frozen_importlib.BuiltinImporter")) (.str (ofString "class._frozen_importlib.BuiltinImporter") 187) (.ref 15)), (.mk (keyHash P (ofString "watched.\x69mport")) (.str (ofString "watched.\x69mport") 208) (.ref 19)), (.mk (keyHash P (ofString "class._frozen_importlib.ModuleSpec")) (.str (ofString "class._frozen_importlib.ModuleSpec") 218) (.ref 23)), (.mk (keyHash P (ofString "sys.modules.booked-epoch")) (.str (ofString "sys.modules.booked-epoch") 247) (.int 3 0)), (.mk (keyHash P (ofString "sys.modules.landed._collections")) (.str (ofString "sys.modules.landed._collections") 248) (.bool true)), (.mk (keyHash P (ofString "\x69mport.later-laid._collections")) (.str (ofString "\x69mport.later-laid._collections") 263) (.bool true)), (.mk (keyHash P (ofString "watched.library")) (.str (ofString "watched.library") 265) (.ref 28)), (.mk (keyHash P (ofString "watched.library-objects")) (.str (ofString "watched.library-objects") 0) (.str (ofString "\r") 0)), (.mk (keyHash P (ofString "watched.library-deep._collections")) (.str (ofString "watched.library-deep._collections") 266) (.str (ofString "\x04\x00\x00\x0c\x04\x00\x00\x0c\x04\x00\x00\x03\x04\x00\x00\x0c\x08\x04dict\x02") 0)), (.mk (keyHash P (ofString "type.__subclasses__.OSError.0")) (.str (ofString "type.__subclasses__.OSError.0") 382) (.int 105 0)), (.mk (keyHash P (ofString "type.__subclasses__.OSError.n")) (.str (ofString "type.__subclasses__.OSError.n") 383) (.int 1 0))] 12) #[]
noncomputable def o60(P:Params):Obj:=.mk (.type "dict") none (.dict #[(.mk (keyHash P (ofString "__name__")) (.str (ofString "__name__") 165) (.str (ofString "io") 346)), (.mk (keyHash P (ofString "__doc__")) (.str (ofString "__doc__") 166) .none), (.mk (keyHash P (ofString "__package__")) (.str (ofString "__package__") 167) .none), (.mk (keyHash P (ofString "__loader__")) (.str (ofString "__loader__") 168) (.builtin "__main__.__loader__#opaque")), (.mk (keyHash P (ofString "__spec__")) (.str (ofString "__spec__") 169) .none), (.mk (keyHash P (ofString "__annotations__")) (.str (ofString "__annotations__") 170) (.ref 6)), (.mk (keyHash P (ofString "__builtins__")) (.str (ofString "__builtins__") 171) (.ref 4)), (.mk (keyHash P (ofString "__file__")) (.str (ofString "__file__") 173) (.str (ofString "/claim/cut.py") 172)), (.mk (keyHash P (ofString "__cached__")) (.str (ofString "__cached__") 174) .none), (.mk (keyHash P (ofString "deque")) (.str (ofString "deque") 272) (.type "collections.deque")), (.mk (keyHash P (ofString "_wall")) (.str (ofString "_wall") 285) (.ref 39)), (.mk (keyHash P (ofString "_netrclex")) (.str (ofString "_netrclex") 345) (.ref 77)), (.mk (keyHash P (ofString "_whence")) (.str (ofString "_whence") 355) (.ref 88)), (.mk (keyHash P (ofString "_index")) (.str (ofString "_index") 363) (.ref 95)), (.mk (keyHash P (ofString "UnsupportedOperation")) (.str (ofString "UnsupportedOperation") 385) (.ref 105)), (.mk (keyHash P (ofString "IOBase")) (.str (ofString "IOBase") 417) (.ref 125)), (.mk (keyHash P (ofString "BufferedIOBase")) (.str (ofString "BufferedIOBase") 435) (.ref 140))] 17) #[]
noncomputable def o61(_:Params):Obj:=.mk .none none (.fields #[(.int 2 0), (.int 0 0), (.ref 38), (.int 6 0), (.int 0 0), (.ref 45), (.int 50 0), (.int 0 0), (.ref 87), (.int 55 0), (.int 0 0), (.ref 94), (.int 62 0), (.int 0 0), (.ref 101), (.int 64 0), (.int 0 0), (.ref 114), (.int 71 0), (.int 0 0), (.ref 136)]) #[]
noncomputable def o62(_:Params):Obj:=.mk (.type "tuple") none (.seq #[] 0) #[]
noncomputable def o63(_:Params):Obj:=.mk .none none (.fields #[]) #[]
noncomputable def o64(_:Params):Obj:=.mk (.type "tuple") none (.seq #[(.str (ofString "k") 282)] 0) #[]
noncomputable def o65(_:Params):Obj:=.mk (.type "tuple") none (.seq #[] 0) #[]
noncomputable def o66(_:Params):Obj:=.mk .none none (.func (.mk (ofString "_wall") (ofString "_wall") (fP (stAt 1)) (.stmts (fB (stAt 1))) (fS (stAt 1)) 0 [] .none .none .none .none none .none .none 0)) #[]
noncomputable def o67(_:Params):Obj:=.mk (.type "code") none (.fields #[(.str (ofString "_wall") 279), (.str (ofString "_wall") 280), (.str (ofString "/claim/cut.py") 281), (.int 2 0), (.int 1 0), (.int 0 0), (.int 0 0), (.int 3 0), (.ref 33), (.bool true), (.int 273 0), (.ref 34), .none, (.ref 35), (.ref 36), (.ref 37), (.int 283 0), (.int 2 0), (.str (ofString "/claim/cut.py") 284)]) #[]
noncomputable def o68(_:Params):Obj:=.mk (.type "function") none (.func (.mk (ofString "_wall") (ofString "_wall") (fP (stAt 1)) (.stmts (fB (stAt 1))) (fS (stAt 1)) 3 [] .none .none .none (.str (ofString "__main__") 164) none (.ref 38) .none 0)) #[]
noncomputable def o69(_:Params):Obj:=.mk (.type "tuple") none (.seq #[] 0) #[]
noncomputable def o70(_:Params):Obj:=.mk (.type "builtin_function_or_method") none (.fields #[(.builtin "type.__prepare__"), (.type "type")]) #[]
noncomputable def o71(P:Params):Obj:=.mk (.type "dict") none (.dict #[(.mk (keyHash P (ofString "__module__")) (.str (ofString "__module__") 295) (.str (ofString "cpy313.netrc") 286)), (.mk (keyHash P (ofString "__qualname__")) (.str (ofString "__qualname__") 297) (.str (ofString "_netrclex") 296)), (.mk (keyHash P (ofString "__firstlineno__")) (.str (ofString "__firstlineno__") 299) (.int 6 298)), (.mk (keyHash P (ofString "__init__")) (.str (ofString "__init__") 307) (.ref 53)), (.mk (keyHash P (ofString "_read_char")) (.str (ofString "_read_char") 315) (.ref 60)), (.mk (keyHash P (ofString "get_token")) (.str (ofString "get_token") 325) (.ref 67)), (.mk (keyHash P (ofString "push_token")) (.str (ofString "push_token") 333) (.ref 74)), (.mk (keyHash P (ofString "__static_attributes__")) (.str (ofString "__static_attributes__") 338) (.ref 75))] 8) #[]
noncomputable def o72(_:Params):Obj:=.mk (.type "tuple") none (.seq #[] 0) #[]
noncomputable def o73(_:Params):Obj:=.mk .none none (.fields #[(.int 8 0), (.int 4 0), (.ref 52), (.int 14 0), (.int 4 0), (.ref 59), (.int 20 0), (.int 4 0), (.ref 66), (.int 47 0), (.int 4 0), (.ref 73)]) #[]
noncomputable def o74(_:Params):Obj:=.mk (.type "code") none (.fields #[(.str (ofString "_netrclex") 290), (.str (ofString "_netrclex") 291), (.str (ofString "/claim/cut.py") 292), (.int 6 0), (.int 0 0), (.int 0 0), (.int 0 0), (.int 0 0), (.ref 43), (.bool false), (.int 273 0), (.ref 44), .none, .none, .none, .none, (.int 293 0), (.int 6 0), (.str (ofString "/claim/cut.py") 294)]) #[]
noncomputable def o75(_:Params):Obj:=.mk (.type "frame") none .plain #[(some (.ref 45)), (some (.ref 3)), (some (.ref 42)), none, (some (.str (ofString "cpy313.netrc") 286)), none, (some (.ref 0))]
noncomputable def o76(_:Params):Obj:=.mk (.type "tuple") none (.seq #[] 0) #[]
noncomputable def o77(_:Params):Obj:=.mk .none none (.fields #[]) #[]
noncomputable def o78(_:Params):Obj:=.mk (.type "tuple") none (.seq #[(.str (ofString "self") 303), (.str (ofString "fp") 304)] 0) #[]
noncomputable def o79(_:Params):Obj:=.mk (.type "tuple") none (.seq #[] 0) #[]
noncomputable def o80(_:Params):Obj:=.mk .none none (.func (.mk (ofString "__init__") (ofString "_netrclex.__init__") (fP (subAt 3 0)) (.stmts (fB (subAt 3 0))) (fS (subAt 3 0)) 0 [] .none .none .none .none none .none .none 0)) #[]
noncomputable def o81(_:Params):Obj:=.mk (.type "code") none (.fields #[(.str (ofString "__init__") 300), (.str (ofString "_netrclex.__init__") 301), (.str (ofString "/claim/cut.py") 302), (.int 8 0), (.int 2 0), (.int 0 0), (.int 0 0), (.int 3 0), (.ref 47), (.bool true), (.int 273 0), (.ref 48), .none, (.ref 49), (.ref 50), (.ref 51), (.int 305 0), (.int 8 0), (.str (ofString "/claim/cut.py") 306)]) #[]
noncomputable def o82(_:Params):Obj:=.mk (.type "function") none (.func (.mk (ofString "__init__") (ofString "_netrclex.__init__") (fP (subAt 3 0)) (.stmts (fB (subAt 3 0))) (fS (subAt 3 0)) 3 [] .none .none .none (.str (ofString "cpy313.netrc") 286) none (.ref 52) .none 0)) #[]
noncomputable def o83(_:Params):Obj:=.mk (.type "tuple") none (.seq #[] 0) #[]
noncomputable def o84(_:Params):Obj:=.mk .none none (.fields #[]) #[]
noncomputable def o85(_:Params):Obj:=.mk (.type "tuple") none (.seq #[(.str (ofString "self") 311), (.str (ofString "ch") 312)] 0) #[]
noncomputable def o86(_:Params):Obj:=.mk (.type "tuple") none (.seq #[] 0) #[]
noncomputable def o87(_:Params):Obj:=.mk .none none (.func (.mk (ofString "_read_char") (ofString "_netrclex._read_char") (fP (subAt 3 1)) (.stmts (fB (subAt 3 1))) (fS (subAt 3 1)) 0 [] .none .none .none .none none .none .none 0)) #[]
noncomputable def o88(_:Params):Obj:=.mk (.type "code") none (.fields #[(.str (ofString "_read_char") 308), (.str (ofString "_netrclex._read_char") 309), (.str (ofString "/claim/cut.py") 310), (.int 14 0), (.int 1 0), (.int 0 0), (.int 0 0), (.int 3 0), (.ref 54), (.bool true), (.int 273 0), (.ref 55), .none, (.ref 56), (.ref 57), (.ref 58), (.int 313 0), (.int 14 0), (.str (ofString "/claim/cut.py") 314)]) #[]
noncomputable def o89(_:Params):Obj:=.mk (.type "function") none (.func (.mk (ofString "_read_char") (ofString "_netrclex._read_char") (fP (subAt 3 1)) (.stmts (fB (subAt 3 1))) (fS (subAt 3 1)) 3 [] .none .none .none (.str (ofString "cpy313.netrc") 286) none (.ref 59) .none 0)) #[]
noncomputable def o90(_:Params):Obj:=.mk (.type "tuple") none (.seq #[] 0) #[]
noncomputable def o91(_:Params):Obj:=.mk .none none (.fields #[]) #[]
noncomputable def o92(_:Params):Obj:=.mk (.type "tuple") none (.seq #[(.str (ofString "self") 319), (.str (ofString "token") 320), (.str (ofString "fiter") 321), (.str (ofString "ch") 322)] 0) #[]
noncomputable def o93(_:Params):Obj:=.mk (.type "tuple") none (.seq #[] 0) #[]
noncomputable def o94(_:Params):Obj:=.mk .none none (.func (.mk (ofString "get_token") (ofString "_netrclex.get_token") (fP (subAt 3 2)) (.stmts (fB (subAt 3 2))) (fS (subAt 3 2)) 0 [] .none .none .none .none none .none .none 0)) #[]
noncomputable def o95(_:Params):Obj:=.mk (.type "code") none (.fields #[(.str (ofString "get_token") 316), (.str (ofString "_netrclex.get_token") 317), (.str (ofString "/claim/cut.py") 318), (.int 20 0), (.int 1 0), (.int 0 0), (.int 0 0), (.int 3 0), (.ref 61), (.bool true), (.int 273 0), (.ref 62), .none, (.ref 63), (.ref 64), (.ref 65), (.int 323 0), (.int 20 0), (.str (ofString "/claim/cut.py") 324)]) #[]
noncomputable def o96(_:Params):Obj:=.mk (.type "function") none (.func (.mk (ofString "get_token") (ofString "_netrclex.get_token") (fP (subAt 3 2)) (.stmts (fB (subAt 3 2))) (fS (subAt 3 2)) 3 [] .none .none .none (.str (ofString "cpy313.netrc") 286) none (.ref 66) .none 0)) #[]
noncomputable def o97(_:Params):Obj:=.mk (.type "tuple") none (.seq #[] 0) #[]
noncomputable def o98(_:Params):Obj:=.mk .none none (.fields #[]) #[]
noncomputable def o99(_:Params):Obj:=.mk (.type "tuple") none (.seq #[(.str (ofString "self") 329), (.str (ofString "token") 330)] 0) #[]
noncomputable def o100(_:Params):Obj:=.mk (.type "tuple") none (.seq #[] 0) #[]
noncomputable def o101(_:Params):Obj:=.mk .none none (.func (.mk (ofString "push_token") (ofString "_netrclex.push_token") (fP (subAt 3 3)) (.stmts (fB (subAt 3 3))) (fS (subAt 3 3)) 0 [] .none .none .none .none none .none .none 0)) #[]
noncomputable def o102(_:Params):Obj:=.mk (.type "code") none (.fields #[(.str (ofString "push_token") 326), (.str (ofString "_netrclex.push_token") 327), (.str (ofString "/claim/cut.py") 328), (.int 47 0), (.int 2 0), (.int 0 0), (.int 0 0), (.int 3 0), (.ref 68), (.bool true), (.int 273 0), (.ref 69), .none, (.ref 70), (.ref 71), (.ref 72), (.int 331 0), (.int 47 0), (.str (ofString "/claim/cut.py") 332)]) #[]
noncomputable def o103(_:Params):Obj:=.mk (.type "function") none (.func (.mk (ofString "push_token") (ofString "_netrclex.push_token") (fP (subAt 3 3)) (.stmts (fB (subAt 3 3))) (fS (subAt 3 3)) 3 [] .none .none .none (.str (ofString "cpy313.netrc") 286) none (.ref 73) .none 0)) #[]
noncomputable def o104(_:Params):Obj:=.mk (.type "tuple") none (.seq #[(.str (ofString "instream") 334), (.str (ofString "lineno") 335), (.str (ofString "pushback") 336), (.str (ofString "whitespace") 337)] 0) #[]
noncomputable def o105(P:Params):Obj:=.mk (.type "dict") none (.dict #[(.mk (keyHash P (ofString "__module__")) (.str (ofString "__module__") 295) (.str (ofString "cpy313.netrc") 286)), (.mk (keyHash P (ofString "__firstlineno__")) (.str (ofString "__firstlineno__") 299) (.int 6 298)), (.mk (keyHash P (ofString "__init__")) (.str (ofString "__init__") 307) (.ref 53)), (.mk (keyHash P (ofString "_read_char")) (.str (ofString "_read_char") 315) (.ref 60)), (.mk (keyHash P (ofString "get_token")) (.str (ofString "get_token") 325) (.ref 67)), (.mk (keyHash P (ofString "push_token")) (.str (ofString "push_token") 333) (.ref 74)), (.mk (keyHash P (ofString "__static_attributes__")) (.str (ofString "__static_attributes__") 338) (.ref 75)), (.mk (keyHash P (ofString "__dict__")) (.str (ofString "__dict__") 340) (.ref 78)), (.mk (keyHash P (ofString "__weakref__")) (.str (ofString "__weakref__") 342) (.ref 79)), (.mk (keyHash P (ofString "__doc__")) (.str (ofString "__doc__") 343) .none)] 4) #[]
noncomputable def o106(_:Params):Obj:=.mk (.type "type") none (Data.cls (ClassData.mk (ofString "_netrclex") [(.type "object")] [(.ref 77), (.type "object")] 76 (ofString "_netrclex") true [] [] false none false)) #[none, none, (some (.str (ofString "_netrclex") 288)), (some (.str (ofString "_netrclex") 296)), (some (.builtin "object.__new__")), (some (.bool true))]
noncomputable def o107(_:Params):Obj:=.mk (.type "getset_descriptor") none (.fields #[(.str (ofString "__dict__") 339), (.ref 77), (.builtin "function.__dict__"), (.builtin "function.__dict__#set")]) #[]
noncomputable def o108(_:Params):Obj:=.mk (.type "getset_descriptor") none (.fields #[(.str (ofString "__weakref__") 341), (.ref 77), (.builtin "ExceptionGroup.__weakref__"), .none]) #[]
noncomputable def o109(_:Params):Obj:=.mk (.type "super") none (.fields #[(.ref 77), (.ref 77), (.ref 77)]) #[]
noncomputable def o110(_:Params):Obj:=.mk (.type "builtin_function_or_method") none (.fields #[(.builtin "object.__init_subclass__"), (.ref 77)]) #[]
noncomputable def o111(_:Params):Obj:=.mk (.type "tuple") none (.seq #[] 0) #[]
noncomputable def o112(_:Params):Obj:=.mk .none none (.fields #[]) #[]
noncomputable def o113(_:Params):Obj:=.mk (.type "tuple") none (.seq #[(.str (ofString "n") 351), (.str (ofString "what") 352)] 0) #[]
noncomputable def o114(_:Params):Obj:=.mk (.type "tuple") none (.seq #[] 0) #[]
noncomputable def o115(_:Params):Obj:=.mk .none none (.func (.mk (ofString "_whence") (ofString "_whence") (fP (stAt 5)) (.stmts (fB (stAt 5))) (fS (stAt 5)) 0 [] .none .none .none .none none .none .none 0)) #[]
noncomputable def o116(_:Params):Obj:=.mk (.type "code") none (.fields #[(.str (ofString "_whence") 348), (.str (ofString "_whence") 349), (.str (ofString "/claim/cut.py") 350), (.int 50 0), (.int 2 0), (.int 0 0), (.int 0 0), (.int 3 0), (.ref 82), (.bool true), (.int 273 0), (.ref 83), .none, (.ref 84), (.ref 85), (.ref 86), (.int 353 0), (.int 50 0), (.str (ofString "/claim/cut.py") 354)]) #[]
noncomputable def o117(_:Params):Obj:=.mk (.type "function") none (.func (.mk (ofString "_whence") (ofString "_whence") (fP (stAt 5)) (.stmts (fB (stAt 5))) (fS (stAt 5)) 3 [] .none .none .none (.str (ofString "io") 346) none (.ref 87) .none 0)) #[]
noncomputable def o118(_:Params):Obj:=.mk (.type "tuple") none (.seq #[] 0) #[]
noncomputable def o119(_:Params):Obj:=.mk .none none (.fields #[]) #[]
noncomputable def o120(_:Params):Obj:=.mk (.type "tuple") none (.seq #[(.str (ofString "n") 359), (.str (ofString "what") 360)] 0) #[]
noncomputable def o121(_:Params):Obj:=.mk (.type "tuple") none (.seq #[] 0) #[]
noncomputable def o122(_:Params):Obj:=.mk .none none (.func (.mk (ofString "_index") (ofString "_index") (fP (stAt 6)) (.stmts (fB (stAt 6))) (fS (stAt 6)) 0 [] .none .none .none .none none .none .none 0)) #[]
noncomputable def o123(_:Params):Obj:=.mk (.type "code") none (.fields #[(.str (ofString "_index") 356), (.str (ofString "_index") 357), (.str (ofString "/claim/cut.py") 358), (.int 55 0), (.int 2 0), (.int 0 0), (.int 0 0), (.int 3 0), (.ref 89), (.bool true), (.int 273 0), (.ref 90), .none, (.ref 91), (.ref 92), (.ref 93), (.int 361 0), (.int 55 0), (.str (ofString "/claim/cut.py") 362)]) #[]
noncomputable def o124(_:Params):Obj:=.mk (.type "function") none (.func (.mk (ofString "_index") (ofString "_index") (fP (stAt 6)) (.stmts (fB (stAt 6))) (fS (stAt 6)) 3 [] .none .none .none (.str (ofString "io") 346) none (.ref 94) .none 0)) #[]
noncomputable def o125(_:Params):Obj:=.mk (.type "tuple") none (.seq #[(.type "OSError"), (.type "ValueError")] 0) #[]
noncomputable def o126(_:Params):Obj:=.mk (.type "builtin_function_or_method") none (.fields #[(.builtin "type.__prepare__"), (.type "type")]) #[]
noncomputable def o127(P:Params):Obj:=.mk (.type "dict") none (.dict #[(.mk (keyHash P (ofString "__module__")) (.str (ofString "__module__") 371) (.str (ofString "io") 376)), (.mk (keyHash P (ofString "__qualname__")) (.str (ofString "__qualname__") 373) (.str (ofString "UnsupportedOperation") 372)), (.mk (keyHash P (ofString "__firstlineno__")) (.str (ofString "__firstlineno__") 375) (.int 62 374)), (.mk (keyHash P (ofString "__static_attributes__")) (.str (ofString "__static_attributes__") 378) (.ref 103))] 4) #[]
noncomputable def o128(_:Params):Obj:=.mk (.type "tuple") none (.seq #[] 0) #[]
noncomputable def o129(_:Params):Obj:=.mk .none none (.fields #[]) #[]
noncomputable def o130(_:Params):Obj:=.mk (.type "code") none (.fields #[(.str (ofString "UnsupportedOperation") 366), (.str (ofString "UnsupportedOperation") 367), (.str (ofString "/claim/cut.py") 368), (.int 62 0), (.int 0 0), (.int 0 0), (.int 0 0), (.int 0 0), (.ref 99), (.bool false), (.int 273 0), (.ref 100), .none, .none, .none, .none, (.int 369 0), (.int 62 0), (.str (ofString "/claim/cut.py") 370)]) #[]
noncomputable def o131(_:Params):Obj:=.mk (.type "frame") none .plain #[(some (.ref 101)), (some (.ref 3)), (some (.ref 98)), none, (some (.str (ofString "io") 346)), none, (some (.ref 0))]
noncomputable def o132(_:Params):Obj:=.mk (.type "tuple") none (.seq #[] 0) #[]
noncomputable def o133(P:Params):Obj:=.mk (.type "dict") none (.dict #[(.mk (keyHash P (ofString "__module__")) (.str (ofString "__module__") 371) (.str (ofString "io") 376)), (.mk (keyHash P (ofString "__firstlineno__")) (.str (ofString "__firstlineno__") 375) (.int 62 374)), (.mk (keyHash P (ofString "__static_attributes__")) (.str (ofString "__static_attributes__") 378) (.ref 103)), (.mk (keyHash P (ofString "__weakref__")) (.str (ofString "__weakref__") 380) (.ref 106)), (.mk (keyHash P (ofString "__doc__")) (.str (ofString "__doc__") 381) .none)] 3) #[]
noncomputable def o134(_:Params):Obj:=.mk (.type "type") none (Data.cls (ClassData.mk (ofString "UnsupportedOperation") [(.type "OSError"), (.type "ValueError")] [(.ref 105), (.type "OSError"), (.type "ValueError"), (.type "Exception"), (.type "BaseException"), (.type "object")] 104 (ofString "UnsupportedOperation") true [] [] false none false)) #[(some (.ref 96)), none, (some (.str (ofString "UnsupportedOperation") 364)), (some (.str (ofString "UnsupportedOperation") 372)), (some (.builtin "OSError.__new__")), (some (.bool true))]
noncomputable def o135(_:Params):Obj:=.mk (.type "getset_descriptor") none (.fields #[(.str (ofString "__weakref__") 379), (.ref 105), (.builtin "ExceptionGroup.__weakref__"), .none]) #[]
noncomputable def o136(_:Params):Obj:=.mk (.type "super") none (.fields #[(.ref 105), (.ref 105), (.ref 105)]) #[]
noncomputable def o137(_:Params):Obj:=.mk (.type "builtin_function_or_method") none (.fields #[(.builtin "object.__init_subclass__"), (.ref 105)]) #[]
noncomputable def o138(_:Params):Obj:=.mk (.type "tuple") none (.seq #[] 0) #[]
noncomputable def o139(_:Params):Obj:=.mk (.type "builtin_function_or_method") none (.fields #[(.builtin "type.__prepare__"), (.type "type")]) #[]
noncomputable def o140(P:Params):Obj:=.mk (.type "dict") none (.dict #[(.mk (keyHash P (ofString "__module__")) (.str (ofString "__module__") 393) (.str (ofString "io") 398)), (.mk (keyHash P (ofString "__qualname__")) (.str (ofString "__qualname__") 395) (.str (ofString "IOBase") 394)), (.mk (keyHash P (ofString "__firstlineno__")) (.str (ofString "__firstlineno__") 397) (.int 64 396)), (.mk (keyHash P (ofString "__new__")) (.str (ofString "__new__") 408) (.ref 122)), (.mk (keyHash P (ofString "__static_attributes__")) (.str (ofString "__static_attributes__") 409) (.ref 123))] 5) #[]
noncomputable def o141(_:Params):Obj:=.mk (.type "tuple") none (.seq #[] 0) #[]
noncomputable def o142(_:Params):Obj:=.mk .none none (.fields #[(.int 67 0), (.int 4 0), (.ref 121)]) #[]
noncomputable def o143(_:Params):Obj:=.mk (.type "code") none (.fields #[(.str (ofString "IOBase") 388), (.str (ofString "IOBase") 389), (.str (ofString "/claim/cut.py") 390), (.int 64 0), (.int 0 0), (.int 0 0), (.int 0 0), (.int 0 0), (.ref 112), (.bool false), (.int 273 0), (.ref 113), .none, .none, .none, .none, (.int 391 0), (.int 64 0), (.str (ofString "/claim/cut.py") 392)]) #[]
noncomputable def o144(_:Params):Obj:=.mk (.type "frame") none .plain #[(some (.ref 114)), (some (.ref 3)), (some (.ref 111)), none, (some (.str (ofString "io") 346)), none, (some (.ref 0))]
noncomputable def o145(_:Params):Obj:=.mk (.type "tuple") none (.seq #[] 0) #[]
noncomputable def o146(_:Params):Obj:=.mk .none none (.fields #[]) #[]
noncomputable def o147(_:Params):Obj:=.mk (.type "tuple") none (.seq #[(.str (ofString "cls") 403), (.str (ofString "args") 404), (.str (ofString "kwargs") 405)] 0) #[]
noncomputable def o148(_:Params):Obj:=.mk (.type "tuple") none (.seq #[] 0) #[]
noncomputable def o149(_:Params):Obj:=.mk .none none (.func (.mk (ofString "__new__") (ofString "IOBase.__new__") (fP (subAt 8 1)) (.stmts (fB (subAt 8 1))) (fS (subAt 8 1)) 0 [] .none .none .none .none none .none .none 0)) #[]
noncomputable def o150(_:Params):Obj:=.mk (.type "code") none (.fields #[(.str (ofString "__new__") 400), (.str (ofString "IOBase.__new__") 401), (.str (ofString "/claim/cut.py") 402), (.int 67 0), (.int 1 0), (.int 1 0), (.int 0 0), (.int 15 0), (.ref 116), (.bool true), (.int 273 0), (.ref 117), .none, (.ref 118), (.ref 119), (.ref 120), (.int 406 0), (.int 67 0), (.str (ofString "/claim/cut.py") 407)]) #[]
noncomputable def o151(_:Params):Obj:=.mk (.type "function") none (.func (.mk (ofString "__new__") (ofString "IOBase.__new__") (fP (subAt 8 1)) (.stmts (fB (subAt 8 1))) (fS (subAt 8 1)) 3 [] .none .none .none (.str (ofString "io") 346) none (.ref 121) .none 0)) #[]
noncomputable def o152(_:Params):Obj:=.mk (.type "tuple") none (.seq #[] 0) #[]
noncomputable def o153(P:Params):Obj:=.mk (.type "dict") none (.dict #[(.mk (keyHash P (ofString "__module__")) (.str (ofString "__module__") 393) (.str (ofString "io") 398)), (.mk (keyHash P (ofString "__firstlineno__")) (.str (ofString "__firstlineno__") 397) (.int 64 396)), (.mk (keyHash P (ofString "__new__")) (.str (ofString "__new__") 408) (.ref 126)), (.mk (keyHash P (ofString "__static_attributes__")) (.str (ofString "__static_attributes__") 409) (.ref 123)), (.mk (keyHash P (ofString "__dict__")) (.str (ofString "__dict__") 412) (.ref 127)), (.mk (keyHash P (ofString "__weakref__")) (.str (ofString "__weakref__") 414) (.ref 128)), (.mk (keyHash P (ofString "__doc__")) (.str (ofString "__doc__") 415) .none)] 4) #[]
noncomputable def o154(_:Params):Obj:=.mk (.type "type") none (Data.cls (ClassData.mk (ofString "IOBase") [(.type "object")] [(.ref 125), (.type "object")] 124 (ofString "IOBase") true [] [(.ref 140)] false none false)) #[none, none, (some (.str (ofString "IOBase") 386)), (some (.str (ofString "IOBase") 394)), (some .none), (some (.bool true))]
noncomputable def o155(_:Params):Obj:=.mk (.type "staticmethod") none (.fields #[(.ref 122)]) #[]
noncomputable def o156(_:Params):Obj:=.mk (.type "getset_descriptor") none (.fields #[(.str (ofString "__dict__") 411), (.ref 125), (.builtin "function.__dict__"), (.builtin "function.__dict__#set")]) #[]
noncomputable def o157(_:Params):Obj:=.mk (.type "getset_descriptor") none (.fields #[(.str (ofString "__weakref__") 413), (.ref 125), (.builtin "ExceptionGroup.__weakref__"), .none]) #[]
noncomputable def o158(_:Params):Obj:=.mk (.type "super") none (.fields #[(.ref 125), (.ref 125), (.ref 125)]) #[]
noncomputable def o159(_:Params):Obj:=.mk (.type "builtin_function_or_method") none (.fields #[(.builtin "object.__init_subclass__"), (.ref 125)]) #[]
noncomputable def o160(_:Params):Obj:=.mk (.type "tuple") none (.seq #[(.ref 125)] 0) #[]
noncomputable def o161(_:Params):Obj:=.mk (.type "builtin_function_or_method") none (.fields #[(.builtin "type.__prepare__"), (.type "type")]) #[]
noncomputable def o162(P:Params):Obj:=.mk (.type "dict") none (.dict #[(.mk (keyHash P (ofString "__module__")) (.str (ofString "__module__") 425) (.str (ofString "io") 430)), (.mk (keyHash P (ofString "__qualname__")) (.str (ofString "__qualname__") 427) (.str (ofString "BufferedIOBase") 426)), (.mk (keyHash P (ofString "__firstlineno__")) (.str (ofString "__firstlineno__") 429) (.int 71 428)), (.mk (keyHash P (ofString "__static_attributes__")) (.str (ofString "__static_attributes__") 432) (.ref 138))] 4) #[]
noncomputable def o163(_:Params):Obj:=.mk (.type "tuple") none (.seq #[] 0) #[]
noncomputable def o164(_:Params):Obj:=.mk .none none (.fields #[]) #[]
noncomputable def o165(_:Params):Obj:=.mk (.type "code") none (.fields #[(.str (ofString "BufferedIOBase") 420), (.str (ofString "BufferedIOBase") 421), (.str (ofString "/claim/cut.py") 422), (.int 71 0), (.int 0 0), (.int 0 0), (.int 0 0), (.int 0 0), (.ref 134), (.bool false), (.int 273 0), (.ref 135), .none, .none, .none, .none, (.int 423 0), (.int 71 0), (.str (ofString "/claim/cut.py") 424)]) #[]
noncomputable def o166(_:Params):Obj:=.mk (.type "frame") none .plain #[(some (.ref 136)), (some (.ref 3)), (some (.ref 133)), none, (some (.str (ofString "io") 346)), none, (some (.ref 0))]
noncomputable def o167(_:Params):Obj:=.mk (.type "tuple") none (.seq #[] 0) #[]
noncomputable def o168(P:Params):Obj:=.mk (.type "dict") none (.dict #[(.mk (keyHash P (ofString "__module__")) (.str (ofString "__module__") 425) (.str (ofString "io") 430)), (.mk (keyHash P (ofString "__firstlineno__")) (.str (ofString "__firstlineno__") 429) (.int 71 428)), (.mk (keyHash P (ofString "__static_attributes__")) (.str (ofString "__static_attributes__") 432) (.ref 138)), (.mk (keyHash P (ofString "__doc__")) (.str (ofString "__doc__") 433) .none)] 2) #[]
noncomputable def o169(_:Params):Obj:=.mk (.type "type") none (Data.cls (ClassData.mk (ofString "BufferedIOBase") [(.ref 125)] [(.ref 140), (.ref 125), (.type "object")] 139 (ofString "BufferedIOBase") true [] [] false none false)) #[(some (.ref 131)), none, (some (.str (ofString "BufferedIOBase") 418)), (some (.str (ofString "BufferedIOBase") 426)), (some .none), (some (.bool true))]
noncomputable def o170(_:Params):Obj:=.mk (.type "super") none (.fields #[(.ref 140), (.ref 140), (.ref 140)]) #[]
noncomputable def o171(_:Params):Obj:=.mk (.type "builtin_function_or_method") none (.fields #[(.builtin "object.__init_subclass__"), (.ref 140)]) #[]
noncomputable def T1 (P : Params) : BT := (.node (o29 P) (.node (o30 P) (.node (o60 P) (.node (o35 P) (.node (o42 P) (.node (o57 P) (.node (o92 P) (.node (o156 P) .nil .nil) .nil) (.node (o124 P) .nil .nil)) (.node (o76 P) (.node (o108 P) .nil .nil) (.node (o140 P) .nil .nil))) (.node (o49 P) (.node (o68 P) (.node (o100 P) (.node (o164 P) .nil .nil) .nil) (.node (o132 P) .nil .nil)) (.node (o84 P) (.node (o116 P) .nil .nil) (.node (o148 P) .nil .nil)))) (.node (o38 P) (.node (o46 P) (.node (o64 P) (.node (o96 P) (.node (o160 P) .nil .nil) .nil) (.node (o128 P) .nil .nil)) (.node (o80 P) (.node (o112 P) .nil .nil) (.node (o144 P) .nil .nil))) (.node (o53 P) (.node (o72 P) (.node (o104 P) (.node (o168 P) .nil .nil) .nil) (.node (o136 P) .nil .nil)) (.node (o88 P) (.node (o120 P) .nil .nil) (.node (o152 P) .nil .nil))))) (.node (o34 P) (.node (o36 P) (.node (o44 P) (.node (o62 P) (.node (o94 P) (.node (o158 P) .nil .nil) .nil) (.node (o126 P) .nil .nil)) (.node (o78 P) (.node (o110 P) .nil .nil) (.node (o142 P) .nil .nil))) (.node (o51 P) (.node (o70 P) (.node (o102 P) (.node (o166 P) .nil .nil) .nil) (.node (o134 P) .nil .nil)) (.node (o86 P) (.node (o118 P) .nil .nil) (.node (o150 P) .nil .nil)))) (.node (o40 P) (.node (o47 P) (.node (o66 P) (.node (o98 P) (.node (o162 P) .nil .nil) .nil) (.node (o130 P) .nil .nil)) (.node (o82 P) (.node (o114 P) .nil .nil) (.node (o146 P) .nil .nil))) (.node (o55 P) (.node (o74 P) (.node (o106 P) (.node (o170 P) .nil .nil) .nil) (.node (o138 P) .nil .nil)) (.node (o90 P) (.node (o122 P) .nil .nil) (.node (o154 P) .nil .nil)))))) (.node (o59 P) (.node (o33 P) (.node (o8 P) (.node (o43 P) (.node (o58 P) (.node (o93 P) (.node (o157 P) .nil .nil) .nil) (.node (o125 P) .nil .nil)) (.node (o77 P) (.node (o109 P) .nil .nil) (.node (o141 P) .nil .nil))) (.node (o50 P) (.node (o69 P) (.node (o101 P) (.node (o165 P) .nil .nil) .nil) (.node (o133 P) .nil .nil)) (.node (o85 P) (.node (o117 P) .nil .nil) (.node (o149 P) .nil .nil)))) (.node (o39 P) (.node (o20 P) (.node (o65 P) (.node (o97 P) (.node (o161 P) .nil .nil) .nil) (.node (o129 P) .nil .nil)) (.node (o81 P) (.node (o113 P) .nil .nil) (.node (o145 P) .nil .nil))) (.node (o54 P) (.node (o73 P) (.node (o105 P) (.node (o169 P) .nil .nil) .nil) (.node (o137 P) .nil .nil)) (.node (o89 P) (.node (o121 P) .nil .nil) (.node (o153 P) .nil .nil))))) (.node (o6 P) (.node (o37 P) (.node (o45 P) (.node (o63 P) (.node (o95 P) (.node (o159 P) .nil .nil) .nil) (.node (o127 P) .nil .nil)) (.node (o79 P) (.node (o111 P) .nil .nil) (.node (o143 P) .nil .nil))) (.node (o52 P) (.node (o71 P) (.node (o103 P) (.node (o167 P) .nil .nil) .nil) (.node (o135 P) .nil .nil)) (.node (o87 P) (.node (o119 P) .nil .nil) (.node (o151 P) .nil .nil)))) (.node (o41 P) (.node (o48 P) (.node (o67 P) (.node (o99 P) (.node (o163 P) .nil .nil) .nil) (.node (o131 P) .nil .nil)) (.node (o83 P) (.node (o115 P) .nil .nil) (.node (o147 P) .nil .nil))) (.node (o61 P) (.node (o75 P) (.node (o107 P) (.node (o171 P) .nil .nil) .nil) (.node (o139 P) .nil .nil)) (.node (o91 P) (.node (o123 P) .nil .nil) (.node (o155 P) .nil .nil)))))))
noncomputable def o172(P:Params):Obj:=.mk (.type "dict") none (.dict #[(.mk (keyHash P (ofString "__name__")) (.str (ofString "__name__") 165) (.str (ofString "io") 346)), (.mk (keyHash P (ofString "__doc__")) (.str (ofString "__doc__") 166) .none), (.mk (keyHash P (ofString "__package__")) (.str (ofString "__package__") 167) .none), (.mk (keyHash P (ofString "__loader__")) (.str (ofString "__loader__") 168) (.builtin "__main__.__loader__#opaque")), (.mk (keyHash P (ofString "__spec__")) (.str (ofString "__spec__") 169) .none), (.mk (keyHash P (ofString "__annotations__")) (.str (ofString "__annotations__") 170) (.ref 6)), (.mk (keyHash P (ofString "__builtins__")) (.str (ofString "__builtins__") 171) (.ref 4)), (.mk (keyHash P (ofString "__file__")) (.str (ofString "__file__") 173) (.str (ofString "/claim/cut.py") 172)), (.mk (keyHash P (ofString "__cached__")) (.str (ofString "__cached__") 174) .none), (.mk (keyHash P (ofString "deque")) (.str (ofString "deque") 272) (.type "collections.deque")), (.mk (keyHash P (ofString "_wall")) (.str (ofString "_wall") 285) (.ref 39)), (.mk (keyHash P (ofString "_netrclex")) (.str (ofString "_netrclex") 345) (.ref 77)), (.mk (keyHash P (ofString "_whence")) (.str (ofString "_whence") 355) (.ref 88)), (.mk (keyHash P (ofString "_index")) (.str (ofString "_index") 363) (.ref 95)), (.mk (keyHash P (ofString "UnsupportedOperation")) (.str (ofString "UnsupportedOperation") 385) (.ref 105)), (.mk (keyHash P (ofString "IOBase")) (.str (ofString "IOBase") 417) (.ref 125)), (.mk (keyHash P (ofString "BufferedIOBase")) (.str (ofString "BufferedIOBase") 435) (.ref 140)), (.mk (keyHash P (ofString "TextIOBase")) (.str (ofString "TextIOBase") 453) (.ref 152))] 18) #[]
noncomputable def o173(_:Params):Obj:=.mk .none none (.fields #[(.int 2 0), (.int 0 0), (.ref 38), (.int 6 0), (.int 0 0), (.ref 45), (.int 50 0), (.int 0 0), (.ref 87), (.int 55 0), (.int 0 0), (.ref 94), (.int 62 0), (.int 0 0), (.ref 101), (.int 64 0), (.int 0 0), (.ref 114), (.int 71 0), (.int 0 0), (.ref 136), (.int 73 0), (.int 0 0), (.ref 148)]) #[]
noncomputable def o174(_:Params):Obj:=.mk (.type "type") none (Data.cls (ClassData.mk (ofString "IOBase") [(.type "object")] [(.ref 125), (.type "object")] 124 (ofString "IOBase") true [] [(.ref 140), (.ref 152)] false none false)) #[none, none, (some (.str (ofString "IOBase") 386)), (some (.str (ofString "IOBase") 394)), (some .none), (some (.bool true))]
noncomputable def o175(_:Params):Obj:=.mk (.type "tuple") none (.seq #[(.ref 125)] 0) #[]
noncomputable def o176(_:Params):Obj:=.mk (.type "builtin_function_or_method") none (.fields #[(.builtin "type.__prepare__"), (.type "type")]) #[]
noncomputable def o177(P:Params):Obj:=.mk (.type "dict") none (.dict #[(.mk (keyHash P (ofString "__module__")) (.str (ofString "__module__") 443) (.str (ofString "io") 448)), (.mk (keyHash P (ofString "__qualname__")) (.str (ofString "__qualname__") 445) (.str (ofString "TextIOBase") 444)), (.mk (keyHash P (ofString "__firstlineno__")) (.str (ofString "__firstlineno__") 447) (.int 73 446)), (.mk (keyHash P (ofString "__static_attributes__")) (.str (ofString "__static_attributes__") 450) (.ref 150))] 4) #[]
noncomputable def o178(_:Params):Obj:=.mk (.type "tuple") none (.seq #[] 0) #[]
noncomputable def o179(_:Params):Obj:=.mk .none none (.fields #[]) #[]
noncomputable def o180(_:Params):Obj:=.mk (.type "code") none (.fields #[(.str (ofString "TextIOBase") 438), (.str (ofString "TextIOBase") 439), (.str (ofString "/claim/cut.py") 440), (.int 73 0), (.int 0 0), (.int 0 0), (.int 0 0), (.int 0 0), (.ref 146), (.bool false), (.int 273 0), (.ref 147), .none, .none, .none, .none, (.int 441 0), (.int 73 0), (.str (ofString "/claim/cut.py") 442)]) #[]
noncomputable def o181(_:Params):Obj:=.mk (.type "frame") none .plain #[(some (.ref 148)), (some (.ref 3)), (some (.ref 145)), none, (some (.str (ofString "io") 346)), none, (some (.ref 0))]
noncomputable def o182(_:Params):Obj:=.mk (.type "tuple") none (.seq #[] 0) #[]
noncomputable def o183(P:Params):Obj:=.mk (.type "dict") none (.dict #[(.mk (keyHash P (ofString "__module__")) (.str (ofString "__module__") 443) (.str (ofString "io") 448)), (.mk (keyHash P (ofString "__firstlineno__")) (.str (ofString "__firstlineno__") 447) (.int 73 446)), (.mk (keyHash P (ofString "__static_attributes__")) (.str (ofString "__static_attributes__") 450) (.ref 150)), (.mk (keyHash P (ofString "__doc__")) (.str (ofString "__doc__") 451) .none)] 2) #[]
noncomputable def o184(_:Params):Obj:=.mk (.type "type") none (Data.cls (ClassData.mk (ofString "TextIOBase") [(.ref 125)] [(.ref 152), (.ref 125), (.type "object")] 151 (ofString "TextIOBase") true [] [] false none false)) #[(some (.ref 143)), none, (some (.str (ofString "TextIOBase") 436)), (some (.str (ofString "TextIOBase") 444)), (some .none), (some (.bool true))]
noncomputable def o185(_:Params):Obj:=.mk (.type "super") none (.fields #[(.ref 152), (.ref 152), (.ref 152)]) #[]
noncomputable def o186(_:Params):Obj:=.mk (.type "builtin_function_or_method") none (.fields #[(.builtin "object.__init_subclass__"), (.ref 152)]) #[]
noncomputable def T2 (P : Params) : BT := (.node (o29 P) (.node (o30 P) (.node (o172 P) (.node (o35 P) (.node (o42 P) (.node (o57 P) (.node (o92 P) (.node (o156 P) .nil .nil) .nil) (.node (o124 P) .nil .nil)) (.node (o76 P) (.node (o108 P) (.node (o175 P) .nil .nil) .nil) (.node (o140 P) .nil .nil))) (.node (o49 P) (.node (o68 P) (.node (o100 P) (.node (o164 P) .nil .nil) .nil) (.node (o132 P) .nil .nil)) (.node (o84 P) (.node (o116 P) (.node (o183 P) .nil .nil) .nil) (.node (o148 P) .nil .nil)))) (.node (o38 P) (.node (o46 P) (.node (o64 P) (.node (o96 P) (.node (o160 P) .nil .nil) .nil) (.node (o128 P) .nil .nil)) (.node (o80 P) (.node (o112 P) (.node (o179 P) .nil .nil) .nil) (.node (o144 P) .nil .nil))) (.node (o53 P) (.node (o72 P) (.node (o104 P) (.node (o168 P) .nil .nil) .nil) (.node (o136 P) .nil .nil)) (.node (o88 P) (.node (o120 P) .nil .nil) (.node (o152 P) .nil .nil))))) (.node (o34 P) (.node (o36 P) (.node (o44 P) (.node (o62 P) (.node (o94 P) (.node (o158 P) .nil .nil) .nil) (.node (o126 P) .nil .nil)) (.node (o78 P) (.node (o110 P) (.node (o177 P) .nil .nil) .nil) (.node (o142 P) .nil .nil))) (.node (o51 P) (.node (o70 P) (.node (o102 P) (.node (o166 P) .nil .nil) .nil) (.node (o134 P) .nil .nil)) (.node (o86 P) (.node (o118 P) (.node (o185 P) .nil .nil) .nil) (.node (o150 P) .nil .nil)))) (.node (o40 P) (.node (o47 P) (.node (o66 P) (.node (o98 P) (.node (o162 P) .nil .nil) .nil) (.node (o130 P) .nil .nil)) (.node (o82 P) (.node (o114 P) (.node (o181 P) .nil .nil) .nil) (.node (o146 P) .nil .nil))) (.node (o55 P) (.node (o74 P) (.node (o106 P) (.node (o170 P) .nil .nil) .nil) (.node (o138 P) .nil .nil)) (.node (o90 P) (.node (o122 P) .nil .nil) (.node (o174 P) .nil .nil)))))) (.node (o59 P) (.node (o33 P) (.node (o8 P) (.node (o43 P) (.node (o58 P) (.node (o93 P) (.node (o157 P) .nil .nil) .nil) (.node (o125 P) .nil .nil)) (.node (o77 P) (.node (o109 P) (.node (o176 P) .nil .nil) .nil) (.node (o141 P) .nil .nil))) (.node (o50 P) (.node (o69 P) (.node (o101 P) (.node (o165 P) .nil .nil) .nil) (.node (o133 P) .nil .nil)) (.node (o85 P) (.node (o117 P) (.node (o184 P) .nil .nil) .nil) (.node (o149 P) .nil .nil)))) (.node (o39 P) (.node (o20 P) (.node (o65 P) (.node (o97 P) (.node (o161 P) .nil .nil) .nil) (.node (o129 P) .nil .nil)) (.node (o81 P) (.node (o113 P) (.node (o180 P) .nil .nil) .nil) (.node (o145 P) .nil .nil))) (.node (o54 P) (.node (o73 P) (.node (o105 P) (.node (o169 P) .nil .nil) .nil) (.node (o137 P) .nil .nil)) (.node (o89 P) (.node (o121 P) .nil .nil) (.node (o153 P) .nil .nil))))) (.node (o6 P) (.node (o37 P) (.node (o45 P) (.node (o63 P) (.node (o95 P) (.node (o159 P) .nil .nil) .nil) (.node (o127 P) .nil .nil)) (.node (o79 P) (.node (o111 P) (.node (o178 P) .nil .nil) .nil) (.node (o143 P) .nil .nil))) (.node (o52 P) (.node (o71 P) (.node (o103 P) (.node (o167 P) .nil .nil) .nil) (.node (o135 P) .nil .nil)) (.node (o87 P) (.node (o119 P) (.node (o186 P) .nil .nil) .nil) (.node (o151 P) .nil .nil)))) (.node (o41 P) (.node (o48 P) (.node (o67 P) (.node (o99 P) (.node (o163 P) .nil .nil) .nil) (.node (o131 P) .nil .nil)) (.node (o83 P) (.node (o115 P) (.node (o182 P) .nil .nil) .nil) (.node (o147 P) .nil .nil))) (.node (o173 P) (.node (o75 P) (.node (o107 P) (.node (o171 P) .nil .nil) .nil) (.node (o139 P) .nil .nil)) (.node (o91 P) (.node (o123 P) .nil .nil) (.node (o155 P) .nil .nil)))))))
noncomputable def o187(P:Params):Obj:=.mk (.type "dict") none (.dict #[(.mk (keyHash P (ofString "__name__")) (.str (ofString "__name__") 165) (.str (ofString "io") 346)), (.mk (keyHash P (ofString "__doc__")) (.str (ofString "__doc__") 166) .none), (.mk (keyHash P (ofString "__package__")) (.str (ofString "__package__") 167) .none), (.mk (keyHash P (ofString "__loader__")) (.str (ofString "__loader__") 168) (.builtin "__main__.__loader__#opaque")), (.mk (keyHash P (ofString "__spec__")) (.str (ofString "__spec__") 169) .none), (.mk (keyHash P (ofString "__annotations__")) (.str (ofString "__annotations__") 170) (.ref 6)), (.mk (keyHash P (ofString "__builtins__")) (.str (ofString "__builtins__") 171) (.ref 4)), (.mk (keyHash P (ofString "__file__")) (.str (ofString "__file__") 173) (.str (ofString "/claim/cut.py") 172)), (.mk (keyHash P (ofString "__cached__")) (.str (ofString "__cached__") 174) .none), (.mk (keyHash P (ofString "deque")) (.str (ofString "deque") 272) (.type "collections.deque")), (.mk (keyHash P (ofString "_wall")) (.str (ofString "_wall") 285) (.ref 39)), (.mk (keyHash P (ofString "_netrclex")) (.str (ofString "_netrclex") 345) (.ref 77)), (.mk (keyHash P (ofString "_whence")) (.str (ofString "_whence") 355) (.ref 88)), (.mk (keyHash P (ofString "_index")) (.str (ofString "_index") 363) (.ref 95)), (.mk (keyHash P (ofString "UnsupportedOperation")) (.str (ofString "UnsupportedOperation") 385) (.ref 105)), (.mk (keyHash P (ofString "IOBase")) (.str (ofString "IOBase") 417) (.ref 125)), (.mk (keyHash P (ofString "BufferedIOBase")) (.str (ofString "BufferedIOBase") 435) (.ref 140)), (.mk (keyHash P (ofString "TextIOBase")) (.str (ofString "TextIOBase") 453) (.ref 152)), (.mk (keyHash P (ofString "BytesIO")) (.str (ofString "BytesIO") 715) (.ref 382))] 19) #[]
noncomputable def o188(_:Params):Obj:=.mk .none none (.fields #[(.int 2 0), (.int 0 0), (.ref 38), (.int 6 0), (.int 0 0), (.ref 45), (.int 50 0), (.int 0 0), (.ref 87), (.int 55 0), (.int 0 0), (.ref 94), (.int 62 0), (.int 0 0), (.ref 101), (.int 64 0), (.int 0 0), (.ref 114), (.int 71 0), (.int 0 0), (.ref 136), (.int 73 0), (.int 0 0), (.ref 148), (.int 75 0), (.int 0 0), (.ref 160)]) #[]
noncomputable def o189(_:Params):Obj:=.mk (.type "type") none (Data.cls (ClassData.mk (ofString "BufferedIOBase") [(.ref 125)] [(.ref 140), (.ref 125), (.type "object")] 139 (ofString "BufferedIOBase") true [] [(.ref 382)] false none false)) #[(some (.ref 131)), none, (some (.str (ofString "BufferedIOBase") 418)), (some (.str (ofString "BufferedIOBase") 426)), (some .none), (some (.bool true))]
noncomputable def o190(_:Params):Obj:=.mk (.type "tuple") none (.seq #[(.ref 140)] 0) #[]
noncomputable def o191(_:Params):Obj:=.mk (.type "builtin_function_or_method") none (.fields #[(.builtin "type.__prepare__"), (.type "type")]) #[]
noncomputable def o192(P:Params):Obj:=.mk (.type "dict") none (.dict #[(.mk (keyHash P (ofString "__module__")) (.str (ofString "__module__") 461) (.str (ofString "_io") 466)), (.mk (keyHash P (ofString "__qualname__")) (.str (ofString "__qualname__") 463) (.str (ofString "BytesIO") 462)), (.mk (keyHash P (ofString "__firstlineno__")) (.str (ofString "__firstlineno__") 465) (.int 75 464)), (.mk (keyHash P (ofString "__init__")) (.str (ofString "__init__") 475) (.ref 169)), (.mk (keyHash P (ofString "_BytesIO__check")) (.str (ofString "_BytesIO__check") 482) (.ref 176)), (.mk (keyHash P (ofString "_BytesIO__line")) (.str (ofString "_BytesIO__line") 493) (.ref 183)), (.mk (keyHash P (ofString "closed")) (.str (ofString "closed") 501) (.ref 191)), (.mk (keyHash P (ofString "close")) (.str (ofString "close") 508) (.ref 198)), (.mk (keyHash P (ofString "__enter__")) (.str (ofString "__enter__") 515) (.ref 205)), (.mk (keyHash P (ofString "__exit__")) (.str (ofString "__exit__") 523) (.ref 212)), (.mk (keyHash P (ofString "readable")) (.str (ofString "readable") 530) (.ref 219)), (.mk (keyHash P (ofString "writable")) (.str (ofString "writable") 537) (.ref 226)), (.mk (keyHash P (ofString "seekable")) (.str (ofString "seekable") 544) (.ref 233)), (.mk (keyHash P (ofString "isatty")) (.str (ofString "isatty") 551) (.ref 240)), (.mk (keyHash P (ofString "flush")) (.str (ofString "flush") 558) (.ref 247)), (.mk (keyHash P (ofString "fileno")) (.str (ofString "fileno") 565) (.ref 254)), (.mk (keyHash P (ofString "detach")) (.str (ofString "detach") 572) (.ref 261)), (.mk (keyHash P (ofString "getvalue")) (.str (ofString "getvalue") 579) (.ref 268)), (.mk (keyHash P (ofString "getbuffer")) (.str (ofString "getbuffer") 586) (.ref 275)), (.mk (keyHash P (ofString "tell")) (.str (ofString "tell") 593) (.ref 282)), (.mk (keyHash P (ofString "seek")) (.str (ofString "seek") 603) (.ref 290)), (.mk (keyHash P (ofString "truncate")) (.str (ofString "truncate") 611) (.ref 298)), (.mk (keyHash P (ofString "read")) (.str (ofString "read") 623) (.ref 306)), (.mk (keyHash P (ofString "read1")) (.str (ofString "read1") 633) (.ref 314)), (.mk (keyHash P (ofString "readinto")) (.str (ofString "readinto") 643) (.ref 321)), (.mk (keyHash P (ofString "readinto1")) (.str (ofString "readinto1") 651) (.ref 328)), (.mk (keyHash P (ofString "readline")) (.str (ofString "readline") 661) (.ref 336)), (.mk (keyHash P (ofString "readlines")) (.str (ofString "readlines") 669) (.ref 344)), (.mk (keyHash P (ofString "__iter__")) (.str (ofString "__iter__") 676) (.ref 351)), (.mk (keyHash P (ofString "__next__")) (.str (ofString "__next__") 684) (.ref 358)), (.mk (keyHash P (ofString "write")) (.str (ofString "write") 694) (.ref 365)), (.mk (keyHash P (ofString "writelines")) (.str (ofString "writelines") 702) (.ref 372)), (.mk (keyHash P (ofString "__repr__")) (.str (ofString "__repr__") 709) (.ref 379)), (.mk (keyHash P (ofString "__static_attributes__")) (.str (ofString "__static_attributes__") 712) (.ref 380))] 34) #[]
noncomputable def o193(_:Params):Obj:=.mk (.type "tuple") none (.seq #[] 0) #[]
noncomputable def o194(_:Params):Obj:=.mk .none none (.fields #[(.int 78 0), (.int 4 0), (.ref 168), (.int 84 0), (.int 4 0), (.ref 175), (.int 88 0), (.int 4 0), (.ref 182), (.int 102 0), (.int 4 0), (.ref 189), (.int 105 0), (.int 4 0), (.ref 197), (.int 108 0), (.int 4 0), (.ref 204), (.int 112 0), (.int 4 0), (.ref 211), (.int 115 0), (.int 4 0), (.ref 218), (.int 119 0), (.int 4 0), (.ref 225), (.int 123 0), (.int 4 0), (.ref 232), (.int 127 0), (.int 4 0), (.ref 239), (.int 131 0), (.int 4 0), (.ref 246), (.int 134 0), (.int 4 0), (.ref 253), (.int 137 0), (.int 4 0), (.ref 260), (.int 140 0), (.int 4 0), (.ref 267), (.int 143 0), (.int 4 0), (.ref 274), (.int 146 0), (.int 4 0), (.ref 281), (.int 150 0), (.int 4 0), (.ref 289), (.int 167 0), (.int 4 0), (.ref 297), (.int 170 0), (.int 4 0), (.ref 305), (.int 184 0), (.int 4 0), (.ref 313), (.int 187 0), (.int 4 0), (.ref 320), (.int 201 0), (.int 4 0), (.ref 327), (.int 204 0), (.int 4 0), (.ref 335), (.int 211 0), (.int 4 0), (.ref 343), (.int 214 0), (.int 4 0), (.ref 350), (.int 217 0), (.int 4 0), (.ref 357), (.int 224 0), (.int 4 0), (.ref 364), (.int 240 0), (.int 4 0), (.ref 371), (.int 243 0), (.int 4 0), (.ref 378)]) #[]
noncomputable def o195(_:Params):Obj:=.mk (.type "code") none (.fields #[(.str (ofString "BytesIO") 456), (.str (ofString "BytesIO") 457), (.str (ofString "/claim/cut.py") 458), (.int 75 0), (.int 0 0), (.int 0 0), (.int 0 0), (.int 0 0), (.ref 158), (.bool false), (.int 273 0), (.ref 159), .none, .none, .none, .none, (.int 459 0), (.int 75 0), (.str (ofString "/claim/cut.py") 460)]) #[]
noncomputable def o196(_:Params):Obj:=.mk (.type "frame") none .plain #[(some (.ref 160)), (some (.ref 3)), (some (.ref 157)), none, (some (.str (ofString "io") 346)), none, (some (.ref 0))]
noncomputable def o197(_:Params):Obj:=.mk (.type "tuple") none (.seq #[.none] 0) #[]
noncomputable def o198(_:Params):Obj:=.mk (.type "tuple") none (.seq #[] 0) #[]
noncomputable def o199(_:Params):Obj:=.mk .none none (.fields #[]) #[]
noncomputable def o200(_:Params):Obj:=.mk (.type "tuple") none (.seq #[(.str (ofString "self") 471), (.str (ofString "initial_bytes") 472)] 0) #[]
noncomputable def o201(_:Params):Obj:=.mk (.type "tuple") none (.seq #[] 0) #[]
noncomputable def o202(_:Params):Obj:=.mk .none none (.func (.mk (ofString "__init__") (ofString "BytesIO.__init__") (fP (subAt 11 1)) (.stmts (fB (subAt 11 1))) (fS (subAt 11 1)) 0 [] .none .none .none .none none .none .none 0)) #[]
noncomputable def o203(_:Params):Obj:=.mk (.type "code") none (.fields #[(.str (ofString "__init__") 468), (.str (ofString "BytesIO.__init__") 469), (.str (ofString "/claim/cut.py") 470), (.int 78 0), (.int 2 0), (.int 0 0), (.int 0 0), (.int 3 0), (.ref 163), (.bool true), (.int 273 0), (.ref 164), .none, (.ref 165), (.ref 166), (.ref 167), (.int 473 0), (.int 78 0), (.str (ofString "/claim/cut.py") 474)]) #[]
noncomputable def o204(_:Params):Obj:=.mk (.type "function") none (.func (.mk (ofString "__init__") (ofString "BytesIO.__init__") (fP (subAt 11 1)) (.stmts (fB (subAt 11 1))) (fS (subAt 11 1)) 3 [] (.ref 162) .none .none (.str (ofString "io") 346) none (.ref 168) .none 0)) #[]
noncomputable def o205(_:Params):Obj:=.mk (.type "tuple") none (.seq #[] 0) #[]
noncomputable def o206(_:Params):Obj:=.mk .none none (.fields #[]) #[]
noncomputable def o207(_:Params):Obj:=.mk (.type "tuple") none (.seq #[(.str (ofString "self") 479)] 0) #[]
noncomputable def o208(_:Params):Obj:=.mk (.type "tuple") none (.seq #[] 0) #[]
noncomputable def o209(_:Params):Obj:=.mk .none none (.func (.mk (ofString "__check") (ofString "BytesIO.__check") (fP (subAt 11 2)) (.stmts (fB (subAt 11 2))) (fS (subAt 12 4)) 0 [] .none .none .none .none none .none .none 0)) #[]
noncomputable def o210(_:Params):Obj:=.mk (.type "code") none (.fields #[(.str (ofString "__check") 476), (.str (ofString "BytesIO.__check") 477), (.str (ofString "/claim/cut.py") 478), (.int 84 0), (.int 1 0), (.int 0 0), (.int 0 0), (.int 3 0), (.ref 170), (.bool true), (.int 273 0), (.ref 171), .none, (.ref 172), (.ref 173), (.ref 174), (.int 480 0), (.int 84 0), (.str (ofString "/claim/cut.py") 481)]) #[]
noncomputable def o211(_:Params):Obj:=.mk (.type "function") none (.func (.mk (ofString "__check") (ofString "BytesIO.__check") (fP (subAt 11 2)) (.stmts (fB (subAt 11 2))) (fS (subAt 12 4)) 3 [] .none .none .none (.str (ofString "io") 346) none (.ref 175) .none 0)) #[]
noncomputable def o212(_:Params):Obj:=.mk (.type "tuple") none (.seq #[] 0) #[]
noncomputable def o213(_:Params):Obj:=.mk .none none (.fields #[]) #[]
noncomputable def o214(_:Params):Obj:=.mk (.type "tuple") none (.seq #[(.str (ofString "self") 486), (.str (ofString "limit") 487), (.str (ofString "start") 488), (.str (ofString "stop") 489), (.str (ofString "i") 490)] 0) #[]
noncomputable def o215(_:Params):Obj:=.mk (.type "tuple") none (.seq #[] 0) #[]
noncomputable def o216(_:Params):Obj:=.mk .none none (.func (.mk (ofString "__line") (ofString "BytesIO.__line") (fP (subAt 11 3)) (.stmts (fB (subAt 11 3))) (fS (subAt 11 3)) 0 [] .none .none .none .none none .none .none 0)) #[]
noncomputable def o217(_:Params):Obj:=.mk (.type "code") none (.fields #[(.str (ofString "__line") 483), (.str (ofString "BytesIO.__line") 484), (.str (ofString "/claim/cut.py") 485), (.int 88 0), (.int 2 0), (.int 0 0), (.int 0 0), (.int 3 0), (.ref 177), (.bool true), (.int 273 0), (.ref 178), .none, (.ref 179), (.ref 180), (.ref 181), (.int 491 0), (.int 88 0), (.str (ofString "/claim/cut.py") 492)]) #[]
noncomputable def o218(_:Params):Obj:=.mk (.type "function") none (.func (.mk (ofString "__line") (ofString "BytesIO.__line") (fP (subAt 11 3)) (.stmts (fB (subAt 11 3))) (fS (subAt 11 3)) 3 [] .none .none .none (.str (ofString "io") 346) none (.ref 182) .none 0)) #[]
noncomputable def o219(_:Params):Obj:=.mk (.type "tuple") none (.seq #[] 0) #[]
noncomputable def o220(_:Params):Obj:=.mk .none none (.fields #[]) #[]
noncomputable def o221(_:Params):Obj:=.mk (.type "tuple") none (.seq #[(.str (ofString "self") 497)] 0) #[]
noncomputable def o222(_:Params):Obj:=.mk (.type "tuple") none (.seq #[] 0) #[]
noncomputable def o223(_:Params):Obj:=.mk .none none (.func (.mk (ofString "closed") (ofString "BytesIO.closed") (fP (subAt 11 4)) (.stmts (fB (subAt 11 4))) (fS (subAt 21 9)) 0 [] .none .none .none .none none .none .none 0)) #[]
noncomputable def o224(_:Params):Obj:=.mk (.type "code") none (.fields #[(.str (ofString "closed") 494), (.str (ofString "BytesIO.closed") 495), (.str (ofString "/claim/cut.py") 496), (.int 101 0), (.int 1 0), (.int 0 0), (.int 0 0), (.int 3 0), (.ref 184), (.bool true), (.int 273 0), (.ref 185), .none, (.ref 186), (.ref 187), (.ref 188), (.int 498 0), (.int 101 0), (.str (ofString "/claim/cut.py") 499)]) #[]
noncomputable def o225(_:Params):Obj:=.mk (.type "function") none (.func (.mk (ofString "closed") (ofString "BytesIO.closed") (fP (subAt 11 4)) (.stmts (fB (subAt 11 4))) (fS (subAt 21 9)) 3 [] .none .none .none (.str (ofString "io") 346) none (.ref 189) .none 0)) #[]
noncomputable def o226(_:Params):Obj:=.mk (.type "property") none (.fields #[(.ref 190), .none, .none, .none, (.str (ofString "closed") 501), (.bool false)]) #[]
noncomputable def o227(_:Params):Obj:=.mk (.type "tuple") none (.seq #[] 0) #[]
noncomputable def o228(_:Params):Obj:=.mk .none none (.fields #[]) #[]
noncomputable def o229(_:Params):Obj:=.mk (.type "tuple") none (.seq #[(.str (ofString "self") 505)] 0) #[]
noncomputable def o230(_:Params):Obj:=.mk (.type "tuple") none (.seq #[] 0) #[]
noncomputable def o231(_:Params):Obj:=.mk .none none (.func (.mk (ofString "close") (ofString "BytesIO.close") (fP (subAt 11 5)) (.stmts (fB (subAt 11 5))) (fS (subAt 21 9)) 0 [] .none .none .none .none none .none .none 0)) #[]
noncomputable def o232(_:Params):Obj:=.mk (.type "code") none (.fields #[(.str (ofString "close") 502), (.str (ofString "BytesIO.close") 503), (.str (ofString "/claim/cut.py") 504), (.int 105 0), (.int 1 0), (.int 0 0), (.int 0 0), (.int 3 0), (.ref 192), (.bool true), (.int 273 0), (.ref 193), .none, (.ref 194), (.ref 195), (.ref 196), (.int 506 0), (.int 105 0), (.str (ofString "/claim/cut.py") 507)]) #[]
noncomputable def o233(_:Params):Obj:=.mk (.type "function") none (.func (.mk (ofString "close") (ofString "BytesIO.close") (fP (subAt 11 5)) (.stmts (fB (subAt 11 5))) (fS (subAt 21 9)) 3 [] .none .none .none (.str (ofString "io") 346) none (.ref 197) .none 0)) #[]
noncomputable def o234(_:Params):Obj:=.mk (.type "tuple") none (.seq #[] 0) #[]
noncomputable def o235(_:Params):Obj:=.mk .none none (.fields #[]) #[]
noncomputable def o236(_:Params):Obj:=.mk (.type "tuple") none (.seq #[(.str (ofString "self") 512)] 0) #[]
noncomputable def o237(_:Params):Obj:=.mk (.type "tuple") none (.seq #[] 0) #[]
noncomputable def o238(_:Params):Obj:=.mk .none none (.func (.mk (ofString "__enter__") (ofString "BytesIO.__enter__") (fP (subAt 11 6)) (.stmts (fB (subAt 11 6))) (fS (subAt 21 9)) 0 [] .none .none .none .none none .none .none 0)) #[]
noncomputable def o239(_:Params):Obj:=.mk (.type "code") none (.fields #[(.str (ofString "__enter__") 509), (.str (ofString "BytesIO.__enter__") 510), (.str (ofString "/claim/cut.py") 511), (.int 108 0), (.int 1 0), (.int 0 0), (.int 0 0), (.int 3 0), (.ref 199), (.bool true), (.int 273 0), (.ref 200), .none, (.ref 201), (.ref 202), (.ref 203), (.int 513 0), (.int 108 0), (.str (ofString "/claim/cut.py") 514)]) #[]
noncomputable def o240(_:Params):Obj:=.mk (.type "function") none (.func (.mk (ofString "__enter__") (ofString "BytesIO.__enter__") (fP (subAt 11 6)) (.stmts (fB (subAt 11 6))) (fS (subAt 21 9)) 3 [] .none .none .none (.str (ofString "io") 346) none (.ref 204) .none 0)) #[]
noncomputable def o241(_:Params):Obj:=.mk (.type "tuple") none (.seq #[] 0) #[]
noncomputable def o242(_:Params):Obj:=.mk .none none (.fields #[]) #[]
noncomputable def o243(_:Params):Obj:=.mk (.type "tuple") none (.seq #[(.str (ofString "self") 519), (.str (ofString "args") 520)] 0) #[]
noncomputable def o244(_:Params):Obj:=.mk (.type "tuple") none (.seq #[] 0) #[]
noncomputable def o245(_:Params):Obj:=.mk .none none (.func (.mk (ofString "__exit__") (ofString "BytesIO.__exit__") (fP (subAt 11 7)) (.stmts (fB (subAt 11 7))) (fS (subAt 12 13)) 0 [] .none .none .none .none none .none .none 0)) #[]
noncomputable def o246(_:Params):Obj:=.mk (.type "code") none (.fields #[(.str (ofString "__exit__") 516), (.str (ofString "BytesIO.__exit__") 517), (.str (ofString "/claim/cut.py") 518), (.int 112 0), (.int 1 0), (.int 0 0), (.int 0 0), (.int 7 0), (.ref 206), (.bool true), (.int 273 0), (.ref 207), .none, (.ref 208), (.ref 209), (.ref 210), (.int 521 0), (.int 112 0), (.str (ofString "/claim/cut.py") 522)]) #[]
noncomputable def o247(_:Params):Obj:=.mk (.type "function") none (.func (.mk (ofString "__exit__") (ofString "BytesIO.__exit__") (fP (subAt 11 7)) (.stmts (fB (subAt 11 7))) (fS (subAt 12 13)) 3 [] .none .none .none (.str (ofString "io") 346) none (.ref 211) .none 0)) #[]
noncomputable def o248(_:Params):Obj:=.mk (.type "tuple") none (.seq #[] 0) #[]
noncomputable def o249(_:Params):Obj:=.mk .none none (.fields #[]) #[]
noncomputable def o250(_:Params):Obj:=.mk (.type "tuple") none (.seq #[(.str (ofString "self") 527)] 0) #[]
noncomputable def o251(_:Params):Obj:=.mk (.type "tuple") none (.seq #[] 0) #[]
noncomputable def o252(_:Params):Obj:=.mk .none none (.func (.mk (ofString "readable") (ofString "BytesIO.readable") (fP (subAt 11 8)) (.stmts (fB (subAt 11 8))) (fS (subAt 21 9)) 0 [] .none .none .none .none none .none .none 0)) #[]
noncomputable def o253(_:Params):Obj:=.mk (.type "code") none (.fields #[(.str (ofString "readable") 524), (.str (ofString "BytesIO.readable") 525), (.str (ofString "/claim/cut.py") 526), (.int 115 0), (.int 1 0), (.int 0 0), (.int 0 0), (.int 3 0), (.ref 213), (.bool true), (.int 273 0), (.ref 214), .none, (.ref 215), (.ref 216), (.ref 217), (.int 528 0), (.int 115 0), (.str (ofString "/claim/cut.py") 529)]) #[]
noncomputable def o254(_:Params):Obj:=.mk (.type "function") none (.func (.mk (ofString "readable") (ofString "BytesIO.readable") (fP (subAt 11 8)) (.stmts (fB (subAt 11 8))) (fS (subAt 21 9)) 3 [] .none .none .none (.str (ofString "io") 346) none (.ref 218) .none 0)) #[]
noncomputable def o255(_:Params):Obj:=.mk (.type "tuple") none (.seq #[] 0) #[]
noncomputable def o256(_:Params):Obj:=.mk .none none (.fields #[]) #[]
noncomputable def o257(_:Params):Obj:=.mk (.type "tuple") none (.seq #[(.str (ofString "self") 534)] 0) #[]
noncomputable def o258(_:Params):Obj:=.mk (.type "tuple") none (.seq #[] 0) #[]
noncomputable def o259(_:Params):Obj:=.mk .none none (.func (.mk (ofString "writable") (ofString "BytesIO.writable") (fP (subAt 11 9)) (.stmts (fB (subAt 11 9))) (fS (subAt 21 9)) 0 [] .none .none .none .none none .none .none 0)) #[]
noncomputable def o260(_:Params):Obj:=.mk (.type "code") none (.fields #[(.str (ofString "writable") 531), (.str (ofString "BytesIO.writable") 532), (.str (ofString "/claim/cut.py") 533), (.int 119 0), (.int 1 0), (.int 0 0), (.int 0 0), (.int 3 0), (.ref 220), (.bool true), (.int 273 0), (.ref 221), .none, (.ref 222), (.ref 223), (.ref 224), (.int 535 0), (.int 119 0), (.str (ofString "/claim/cut.py") 536)]) #[]
noncomputable def o261(_:Params):Obj:=.mk (.type "function") none (.func (.mk (ofString "writable") (ofString "BytesIO.writable") (fP (subAt 11 9)) (.stmts (fB (subAt 11 9))) (fS (subAt 21 9)) 3 [] .none .none .none (.str (ofString "io") 346) none (.ref 225) .none 0)) #[]
noncomputable def o262(_:Params):Obj:=.mk (.type "tuple") none (.seq #[] 0) #[]
noncomputable def o263(_:Params):Obj:=.mk .none none (.fields #[]) #[]
noncomputable def o264(_:Params):Obj:=.mk (.type "tuple") none (.seq #[(.str (ofString "self") 541)] 0) #[]
noncomputable def o265(_:Params):Obj:=.mk (.type "tuple") none (.seq #[] 0) #[]
noncomputable def o266(_:Params):Obj:=.mk .none none (.func (.mk (ofString "seekable") (ofString "BytesIO.seekable") (fP (subAt 11 10)) (.stmts (fB (subAt 11 10))) (fS (subAt 21 9)) 0 [] .none .none .none .none none .none .none 0)) #[]
noncomputable def o267(_:Params):Obj:=.mk (.type "code") none (.fields #[(.str (ofString "seekable") 538), (.str (ofString "BytesIO.seekable") 539), (.str (ofString "/claim/cut.py") 540), (.int 123 0), (.int 1 0), (.int 0 0), (.int 0 0), (.int 3 0), (.ref 227), (.bool true), (.int 273 0), (.ref 228), .none, (.ref 229), (.ref 230), (.ref 231), (.int 542 0), (.int 123 0), (.str (ofString "/claim/cut.py") 543)]) #[]
noncomputable def o268(_:Params):Obj:=.mk (.type "function") none (.func (.mk (ofString "seekable") (ofString "BytesIO.seekable") (fP (subAt 11 10)) (.stmts (fB (subAt 11 10))) (fS (subAt 21 9)) 3 [] .none .none .none (.str (ofString "io") 346) none (.ref 232) .none 0)) #[]
noncomputable def o269(_:Params):Obj:=.mk (.type "tuple") none (.seq #[] 0) #[]
noncomputable def o270(_:Params):Obj:=.mk .none none (.fields #[]) #[]
noncomputable def o271(_:Params):Obj:=.mk (.type "tuple") none (.seq #[(.str (ofString "self") 548)] 0) #[]
noncomputable def o272(_:Params):Obj:=.mk (.type "tuple") none (.seq #[] 0) #[]
noncomputable def o273(_:Params):Obj:=.mk .none none (.func (.mk (ofString "isatty") (ofString "BytesIO.isatty") (fP (subAt 11 11)) (.stmts (fB (subAt 11 11))) (fS (subAt 21 9)) 0 [] .none .none .none .none none .none .none 0)) #[]
noncomputable def o274(_:Params):Obj:=.mk (.type "code") none (.fields #[(.str (ofString "isatty") 545), (.str (ofString "BytesIO.isatty") 546), (.str (ofString "/claim/cut.py") 547), (.int 127 0), (.int 1 0), (.int 0 0), (.int 0 0), (.int 3 0), (.ref 234), (.bool true), (.int 273 0), (.ref 235), .none, (.ref 236), (.ref 237), (.ref 238), (.int 549 0), (.int 127 0), (.str (ofString "/claim/cut.py") 550)]) #[]
noncomputable def o275(_:Params):Obj:=.mk (.type "function") none (.func (.mk (ofString "isatty") (ofString "BytesIO.isatty") (fP (subAt 11 11)) (.stmts (fB (subAt 11 11))) (fS (subAt 21 9)) 3 [] .none .none .none (.str (ofString "io") 346) none (.ref 239) .none 0)) #[]
noncomputable def o276(_:Params):Obj:=.mk (.type "tuple") none (.seq #[] 0) #[]
noncomputable def o277(_:Params):Obj:=.mk .none none (.fields #[]) #[]
noncomputable def o278(_:Params):Obj:=.mk (.type "tuple") none (.seq #[(.str (ofString "self") 555)] 0) #[]
noncomputable def o279(_:Params):Obj:=.mk (.type "tuple") none (.seq #[] 0) #[]
noncomputable def o280(_:Params):Obj:=.mk .none none (.func (.mk (ofString "flush") (ofString "BytesIO.flush") (fP (subAt 11 12)) (.stmts (fB (subAt 11 12))) (fS (subAt 21 9)) 0 [] .none .none .none .none none .none .none 0)) #[]
noncomputable def o281(_:Params):Obj:=.mk (.type "code") none (.fields #[(.str (ofString "flush") 552), (.str (ofString "BytesIO.flush") 553), (.str (ofString "/claim/cut.py") 554), (.int 131 0), (.int 1 0), (.int 0 0), (.int 0 0), (.int 3 0), (.ref 241), (.bool true), (.int 273 0), (.ref 242), .none, (.ref 243), (.ref 244), (.ref 245), (.int 556 0), (.int 131 0), (.str (ofString "/claim/cut.py") 557)]) #[]
noncomputable def o282(_:Params):Obj:=.mk (.type "function") none (.func (.mk (ofString "flush") (ofString "BytesIO.flush") (fP (subAt 11 12)) (.stmts (fB (subAt 11 12))) (fS (subAt 21 9)) 3 [] .none .none .none (.str (ofString "io") 346) none (.ref 246) .none 0)) #[]
noncomputable def o283(_:Params):Obj:=.mk (.type "tuple") none (.seq #[] 0) #[]
noncomputable def o284(_:Params):Obj:=.mk .none none (.fields #[]) #[]
noncomputable def o285(_:Params):Obj:=.mk (.type "tuple") none (.seq #[(.str (ofString "self") 562)] 0) #[]
noncomputable def o286(_:Params):Obj:=.mk (.type "tuple") none (.seq #[] 0) #[]
noncomputable def o287(_:Params):Obj:=.mk .none none (.func (.mk (ofString "fileno") (ofString "BytesIO.fileno") (fP (subAt 11 13)) (.stmts (fB (subAt 11 13))) (fS (subAt 12 19)) 0 [] .none .none .none .none none .none .none 0)) #[]
noncomputable def o288(_:Params):Obj:=.mk (.type "code") none (.fields #[(.str (ofString "fileno") 559), (.str (ofString "BytesIO.fileno") 560), (.str (ofString "/claim/cut.py") 561), (.int 134 0), (.int 1 0), (.int 0 0), (.int 0 0), (.int 3 0), (.ref 248), (.bool true), (.int 273 0), (.ref 249), .none, (.ref 250), (.ref 251), (.ref 252), (.int 563 0), (.int 134 0), (.str (ofString "/claim/cut.py") 564)]) #[]
noncomputable def o289(_:Params):Obj:=.mk (.type "function") none (.func (.mk (ofString "fileno") (ofString "BytesIO.fileno") (fP (subAt 11 13)) (.stmts (fB (subAt 11 13))) (fS (subAt 12 19)) 3 [] .none .none .none (.str (ofString "io") 346) none (.ref 253) .none 0)) #[]
noncomputable def o290(_:Params):Obj:=.mk (.type "tuple") none (.seq #[] 0) #[]
noncomputable def o291(_:Params):Obj:=.mk .none none (.fields #[]) #[]
noncomputable def o292(_:Params):Obj:=.mk (.type "tuple") none (.seq #[(.str (ofString "self") 569)] 0) #[]
noncomputable def o293(_:Params):Obj:=.mk (.type "tuple") none (.seq #[] 0) #[]
noncomputable def o294(_:Params):Obj:=.mk .none none (.func (.mk (ofString "detach") (ofString "BytesIO.detach") (fP (subAt 11 14)) (.stmts (fB (subAt 11 14))) (fS (subAt 12 32)) 0 [] .none .none .none .none none .none .none 0)) #[]
noncomputable def o295(_:Params):Obj:=.mk (.type "code") none (.fields #[(.str (ofString "detach") 566), (.str (ofString "BytesIO.detach") 567), (.str (ofString "/claim/cut.py") 568), (.int 137 0), (.int 1 0), (.int 0 0), (.int 0 0), (.int 3 0), (.ref 255), (.bool true), (.int 273 0), (.ref 256), .none, (.ref 257), (.ref 258), (.ref 259), (.int 570 0), (.int 137 0), (.str (ofString "/claim/cut.py") 571)]) #[]
noncomputable def o296(_:Params):Obj:=.mk (.type "function") none (.func (.mk (ofString "detach") (ofString "BytesIO.detach") (fP (subAt 11 14)) (.stmts (fB (subAt 11 14))) (fS (subAt 12 32)) 3 [] .none .none .none (.str (ofString "io") 346) none (.ref 260) .none 0)) #[]
noncomputable def o297(_:Params):Obj:=.mk (.type "tuple") none (.seq #[] 0) #[]
noncomputable def o298(_:Params):Obj:=.mk .none none (.fields #[]) #[]
noncomputable def o299(_:Params):Obj:=.mk (.type "tuple") none (.seq #[(.str (ofString "self") 576)] 0) #[]
noncomputable def o300(_:Params):Obj:=.mk (.type "tuple") none (.seq #[] 0) #[]
noncomputable def o301(_:Params):Obj:=.mk .none none (.func (.mk (ofString "getvalue") (ofString "BytesIO.getvalue") (fP (subAt 11 15)) (.stmts (fB (subAt 11 15))) (fS (subAt 12 32)) 0 [] .none .none .none .none none .none .none 0)) #[]
noncomputable def o302(_:Params):Obj:=.mk (.type "code") none (.fields #[(.str (ofString "getvalue") 573), (.str (ofString "BytesIO.getvalue") 574), (.str (ofString "/claim/cut.py") 575), (.int 140 0), (.int 1 0), (.int 0 0), (.int 0 0), (.int 3 0), (.ref 262), (.bool true), (.int 273 0), (.ref 263), .none, (.ref 264), (.ref 265), (.ref 266), (.int 577 0), (.int 140 0), (.str (ofString "/claim/cut.py") 578)]) #[]
noncomputable def o303(_:Params):Obj:=.mk (.type "function") none (.func (.mk (ofString "getvalue") (ofString "BytesIO.getvalue") (fP (subAt 11 15)) (.stmts (fB (subAt 11 15))) (fS (subAt 12 32)) 3 [] .none .none .none (.str (ofString "io") 346) none (.ref 267) .none 0)) #[]
noncomputable def o304(_:Params):Obj:=.mk (.type "tuple") none (.seq #[] 0) #[]
noncomputable def o305(_:Params):Obj:=.mk .none none (.fields #[]) #[]
noncomputable def o306(_:Params):Obj:=.mk (.type "tuple") none (.seq #[(.str (ofString "self") 583)] 0) #[]
noncomputable def o307(_:Params):Obj:=.mk (.type "tuple") none (.seq #[] 0) #[]
noncomputable def o308(_:Params):Obj:=.mk .none none (.func (.mk (ofString "getbuffer") (ofString "BytesIO.getbuffer") (fP (subAt 11 16)) (.stmts (fB (subAt 11 16))) (fS (subAt 12 32)) 0 [] .none .none .none .none none .none .none 0)) #[]
noncomputable def o309(_:Params):Obj:=.mk (.type "code") none (.fields #[(.str (ofString "getbuffer") 580), (.str (ofString "BytesIO.getbuffer") 581), (.str (ofString "/claim/cut.py") 582), (.int 143 0), (.int 1 0), (.int 0 0), (.int 0 0), (.int 3 0), (.ref 269), (.bool true), (.int 273 0), (.ref 270), .none, (.ref 271), (.ref 272), (.ref 273), (.int 584 0), (.int 143 0), (.str (ofString "/claim/cut.py") 585)]) #[]
noncomputable def o310(_:Params):Obj:=.mk (.type "function") none (.func (.mk (ofString "getbuffer") (ofString "BytesIO.getbuffer") (fP (subAt 11 16)) (.stmts (fB (subAt 11 16))) (fS (subAt 12 32)) 3 [] .none .none .none (.str (ofString "io") 346) none (.ref 274) .none 0)) #[]
noncomputable def o311(_:Params):Obj:=.mk (.type "tuple") none (.seq #[] 0) #[]
noncomputable def o312(_:Params):Obj:=.mk .none none (.fields #[]) #[]
noncomputable def o313(_:Params):Obj:=.mk (.type "tuple") none (.seq #[(.str (ofString "self") 590)] 0) #[]
noncomputable def o314(_:Params):Obj:=.mk (.type "tuple") none (.seq #[] 0) #[]
noncomputable def o315(_:Params):Obj:=.mk .none none (.func (.mk (ofString "tell") (ofString "BytesIO.tell") (fP (subAt 11 17)) (.stmts (fB (subAt 11 17))) (fS (subAt 21 9)) 0 [] .none .none .none .none none .none .none 0)) #[]
noncomputable def o316(_:Params):Obj:=.mk (.type "code") none (.fields #[(.str (ofString "tell") 587), (.str (ofString "BytesIO.tell") 588), (.str (ofString "/claim/cut.py") 589), (.int 146 0), (.int 1 0), (.int 0 0), (.int 0 0), (.int 3 0), (.ref 276), (.bool true), (.int 273 0), (.ref 277), .none, (.ref 278), (.ref 279), (.ref 280), (.int 591 0), (.int 146 0), (.str (ofString "/claim/cut.py") 592)]) #[]
noncomputable def o317(_:Params):Obj:=.mk (.type "function") none (.func (.mk (ofString "tell") (ofString "BytesIO.tell") (fP (subAt 11 17)) (.stmts (fB (subAt 11 17))) (fS (subAt 21 9)) 3 [] .none .none .none (.str (ofString "io") 346) none (.ref 281) .none 0)) #[]
noncomputable def o318(_:Params):Obj:=.mk (.type "tuple") none (.seq #[(.int 0 594)] 0) #[]
noncomputable def o319(_:Params):Obj:=.mk (.type "tuple") none (.seq #[] 0) #[]
noncomputable def o320(_:Params):Obj:=.mk .none none (.fields #[]) #[]
noncomputable def o321(_:Params):Obj:=.mk (.type "tuple") none (.seq #[(.str (ofString "self") 598), (.str (ofString "pos") 599), (.str (ofString "whence") 600)] 0) #[]
noncomputable def o322(_:Params):Obj:=.mk (.type "tuple") none (.seq #[] 0) #[]
noncomputable def o323(_:Params):Obj:=.mk .none none (.func (.mk (ofString "seek") (ofString "BytesIO.seek") (fP (subAt 11 18)) (.stmts (fB (subAt 11 18))) (fS (subAt 11 18)) 0 [] .none .none .none .none none .none .none 0)) #[]
noncomputable def o324(_:Params):Obj:=.mk (.type "code") none (.fields #[(.str (ofString "seek") 595), (.str (ofString "BytesIO.seek") 596), (.str (ofString "/claim/cut.py") 597), (.int 150 0), (.int 3 0), (.int 3 0), (.int 0 0), (.int 3 0), (.ref 284), (.bool true), (.int 273 0), (.ref 285), .none, (.ref 286), (.ref 287), (.ref 288), (.int 601 0), (.int 150 0), (.str (ofString "/claim/cut.py") 602)]) #[]
noncomputable def o325(_:Params):Obj:=.mk (.type "function") none (.func (.mk (ofString "seek") (ofString "BytesIO.seek") (fP (subAt 11 18)) (.stmts (fB (subAt 11 18))) (fS (subAt 11 18)) 3 [] (.ref 283) .none .none (.str (ofString "io") 346) none (.ref 289) .none 0)) #[]
noncomputable def o326(_:Params):Obj:=.mk (.type "tuple") none (.seq #[.none] 0) #[]
noncomputable def o327(_:Params):Obj:=.mk (.type "tuple") none (.seq #[] 0) #[]
noncomputable def o328(_:Params):Obj:=.mk .none none (.fields #[]) #[]
noncomputable def o329(_:Params):Obj:=.mk (.type "tuple") none (.seq #[(.str (ofString "self") 607), (.str (ofString "size") 608)] 0) #[]
noncomputable def o330(_:Params):Obj:=.mk (.type "tuple") none (.seq #[] 0) #[]
noncomputable def o331(_:Params):Obj:=.mk .none none (.func (.mk (ofString "truncate") (ofString "BytesIO.truncate") (fP (subAt 11 19)) (.stmts (fB (subAt 11 19))) (fS (subAt 11 25)) 0 [] .none .none .none .none none .none .none 0)) #[]
noncomputable def o332(_:Params):Obj:=.mk (.type "code") none (.fields #[(.str (ofString "truncate") 604), (.str (ofString "BytesIO.truncate") 605), (.str (ofString "/claim/cut.py") 606), (.int 167 0), (.int 2 0), (.int 2 0), (.int 0 0), (.int 3 0), (.ref 292), (.bool true), (.int 273 0), (.ref 293), .none, (.ref 294), (.ref 295), (.ref 296), (.int 609 0), (.int 167 0), (.str (ofString "/claim/cut.py") 610)]) #[]
noncomputable def o333(_:Params):Obj:=.mk (.type "function") none (.func (.mk (ofString "truncate") (ofString "BytesIO.truncate") (fP (subAt 11 19)) (.stmts (fB (subAt 11 19))) (fS (subAt 11 25)) 3 [] (.ref 291) .none .none (.str (ofString "io") 346) none (.ref 297) .none 0)) #[]
noncomputable def o334(_:Params):Obj:=.mk (.type "tuple") none (.seq #[(.int (-1) 613)] 0) #[]
noncomputable def o335(_:Params):Obj:=.mk (.type "tuple") none (.seq #[] 0) #[]
noncomputable def o336(_:Params):Obj:=.mk .none none (.fields #[]) #[]
noncomputable def o337(_:Params):Obj:=.mk (.type "tuple") none (.seq #[(.str (ofString "self") 617), (.str (ofString "size") 618), (.str (ofString "start") 619), (.str (ofString "stop") 620)] 0) #[]
noncomputable def o338(_:Params):Obj:=.mk (.type "tuple") none (.seq #[] 0) #[]
noncomputable def o339(_:Params):Obj:=.mk .none none (.func (.mk (ofString "read") (ofString "BytesIO.read") (fP (subAt 11 20)) (.stmts (fB (subAt 11 20))) (fS (subAt 11 20)) 0 [] .none .none .none .none none .none .none 0)) #[]
noncomputable def o340(_:Params):Obj:=.mk (.type "code") none (.fields #[(.str (ofString "read") 614), (.str (ofString "BytesIO.read") 615), (.str (ofString "/claim/cut.py") 616), (.int 170 0), (.int 2 0), (.int 2 0), (.int 0 0), (.int 3 0), (.ref 300), (.bool true), (.int 273 0), (.ref 301), .none, (.ref 302), (.ref 303), (.ref 304), (.int 621 0), (.int 170 0), (.str (ofString "/claim/cut.py") 622)]) #[]
noncomputable def o341(_:Params):Obj:=.mk (.type "function") none (.func (.mk (ofString "read") (ofString "BytesIO.read") (fP (subAt 11 20)) (.stmts (fB (subAt 11 20))) (fS (subAt 11 20)) 3 [] (.ref 299) .none .none (.str (ofString "io") 346) none (.ref 305) .none 0)) #[]
noncomputable def o342(_:Params):Obj:=.mk (.type "tuple") none (.seq #[(.int (-1) 625)] 0) #[]
noncomputable def o343(_:Params):Obj:=.mk (.type "tuple") none (.seq #[] 0) #[]
noncomputable def o344(_:Params):Obj:=.mk .none none (.fields #[]) #[]
noncomputable def o345(_:Params):Obj:=.mk (.type "tuple") none (.seq #[(.str (ofString "self") 629), (.str (ofString "size") 630)] 0) #[]
noncomputable def o346(_:Params):Obj:=.mk (.type "tuple") none (.seq #[] 0) #[]
noncomputable def o347(_:Params):Obj:=.mk .none none (.func (.mk (ofString "read1") (ofString "BytesIO.read1") (fP (subAt 11 21)) (.stmts (fB (subAt 11 21))) (fS (subAt 11 25)) 0 [] .none .none .none .none none .none .none 0)) #[]
noncomputable def o348(_:Params):Obj:=.mk (.type "code") none (.fields #[(.str (ofString "read1") 626), (.str (ofString "BytesIO.read1") 627), (.str (ofString "/claim/cut.py") 628), (.int 184 0), (.int 2 0), (.int 2 0), (.int 0 0), (.int 3 0), (.ref 308), (.bool true), (.int 273 0), (.ref 309), .none, (.ref 310), (.ref 311), (.ref 312), (.int 631 0), (.int 184 0), (.str (ofString "/claim/cut.py") 632)]) #[]
noncomputable def o349(_:Params):Obj:=.mk (.type "function") none (.func (.mk (ofString "read1") (ofString "BytesIO.read1") (fP (subAt 11 21)) (.stmts (fB (subAt 11 21))) (fS (subAt 11 25)) 3 [] (.ref 307) .none .none (.str (ofString "io") 346) none (.ref 313) .none 0)) #[]
noncomputable def o350(_:Params):Obj:=.mk (.type "tuple") none (.seq #[] 0) #[]
noncomputable def o351(_:Params):Obj:=.mk .none none (.fields #[]) #[]
noncomputable def o352(_:Params):Obj:=.mk (.type "tuple") none (.seq #[(.str (ofString "self") 637), (.str (ofString "buffer") 638), (.str (ofString "start") 639), (.str (ofString "n") 640)] 0) #[]
noncomputable def o353(_:Params):Obj:=.mk (.type "tuple") none (.seq #[] 0) #[]
noncomputable def o354(_:Params):Obj:=.mk .none none (.func (.mk (ofString "readinto") (ofString "BytesIO.readinto") (fP (subAt 11 22)) (.stmts (fB (subAt 11 22))) (fS (subAt 11 22)) 0 [] .none .none .none .none none .none .none 0)) #[]
noncomputable def o355(_:Params):Obj:=.mk (.type "code") none (.fields #[(.str (ofString "readinto") 634), (.str (ofString "BytesIO.readinto") 635), (.str (ofString "/claim/cut.py") 636), (.int 187 0), (.int 2 0), (.int 2 0), (.int 0 0), (.int 3 0), (.ref 315), (.bool true), (.int 273 0), (.ref 316), .none, (.ref 317), (.ref 318), (.ref 319), (.int 641 0), (.int 187 0), (.str (ofString "/claim/cut.py") 642)]) #[]
noncomputable def o356(_:Params):Obj:=.mk (.type "function") none (.func (.mk (ofString "readinto") (ofString "BytesIO.readinto") (fP (subAt 11 22)) (.stmts (fB (subAt 11 22))) (fS (subAt 11 22)) 3 [] .none .none .none (.str (ofString "io") 346) none (.ref 320) .none 0)) #[]
noncomputable def o357(_:Params):Obj:=.mk (.type "tuple") none (.seq #[] 0) #[]
noncomputable def o358(_:Params):Obj:=.mk .none none (.fields #[]) #[]
noncomputable def o359(_:Params):Obj:=.mk (.type "tuple") none (.seq #[(.str (ofString "self") 647), (.str (ofString "buffer") 648)] 0) #[]
noncomputable def o360(_:Params):Obj:=.mk (.type "tuple") none (.seq #[] 0) #[]
noncomputable def o361(_:Params):Obj:=.mk .none none (.func (.mk (ofString "readinto1") (ofString "BytesIO.readinto1") (fP (subAt 11 23)) (.stmts (fB (subAt 11 23))) (fS (subAt 11 23)) 0 [] .none .none .none .none none .none .none 0)) #[]
noncomputable def o362(_:Params):Obj:=.mk (.type "code") none (.fields #[(.str (ofString "readinto1") 644), (.str (ofString "BytesIO.readinto1") 645), (.str (ofString "/claim/cut.py") 646), (.int 201 0), (.int 2 0), (.int 2 0), (.int 0 0), (.int 3 0), (.ref 322), (.bool true), (.int 273 0), (.ref 323), .none, (.ref 324), (.ref 325), (.ref 326), (.int 649 0), (.int 201 0), (.str (ofString "/claim/cut.py") 650)]) #[]
noncomputable def o363(_:Params):Obj:=.mk (.type "function") none (.func (.mk (ofString "readinto1") (ofString "BytesIO.readinto1") (fP (subAt 11 23)) (.stmts (fB (subAt 11 23))) (fS (subAt 11 23)) 3 [] .none .none .none (.str (ofString "io") 346) none (.ref 327) .none 0)) #[]
noncomputable def o364(_:Params):Obj:=.mk (.type "tuple") none (.seq #[(.int (-1) 653)] 0) #[]
noncomputable def o365(_:Params):Obj:=.mk (.type "tuple") none (.seq #[] 0) #[]
noncomputable def o366(_:Params):Obj:=.mk .none none (.fields #[]) #[]
noncomputable def o367(_:Params):Obj:=.mk (.type "tuple") none (.seq #[(.str (ofString "self") 657), (.str (ofString "size") 658)] 0) #[]
noncomputable def o368(_:Params):Obj:=.mk (.type "tuple") none (.seq #[] 0) #[]
noncomputable def o369(_:Params):Obj:=.mk .none none (.func (.mk (ofString "readline") (ofString "BytesIO.readline") (fP (subAt 11 24)) (.stmts (fB (subAt 11 24))) (fS (subAt 12 26)) 0 [] .none .none .none .none none .none .none 0)) #[]
noncomputable def o370(_:Params):Obj:=.mk (.type "code") none (.fields #[(.str (ofString "readline") 654), (.str (ofString "BytesIO.readline") 655), (.str (ofString "/claim/cut.py") 656), (.int 204 0), (.int 2 0), (.int 2 0), (.int 0 0), (.int 3 0), (.ref 330), (.bool true), (.int 273 0), (.ref 331), .none, (.ref 332), (.ref 333), (.ref 334), (.int 659 0), (.int 204 0), (.str (ofString "/claim/cut.py") 660)]) #[]
noncomputable def o371(_:Params):Obj:=.mk (.type "function") none (.func (.mk (ofString "readline") (ofString "BytesIO.readline") (fP (subAt 11 24)) (.stmts (fB (subAt 11 24))) (fS (subAt 12 26)) 3 [] (.ref 329) .none .none (.str (ofString "io") 346) none (.ref 335) .none 0)) #[]
noncomputable def o372(_:Params):Obj:=.mk (.type "tuple") none (.seq #[.none] 0) #[]
noncomputable def o373(_:Params):Obj:=.mk (.type "tuple") none (.seq #[] 0) #[]
noncomputable def o374(_:Params):Obj:=.mk .none none (.fields #[]) #[]
noncomputable def o375(_:Params):Obj:=.mk (.type "tuple") none (.seq #[(.str (ofString "self") 665), (.str (ofString "size") 666)] 0) #[]
noncomputable def o376(_:Params):Obj:=.mk (.type "tuple") none (.seq #[] 0) #[]
noncomputable def o377(_:Params):Obj:=.mk .none none (.func (.mk (ofString "readlines") (ofString "BytesIO.readlines") (fP (subAt 11 25)) (.stmts (fB (subAt 11 25))) (fS (subAt 11 25)) 0 [] .none .none .none .none none .none .none 0)) #[]
noncomputable def o378(_:Params):Obj:=.mk (.type "code") none (.fields #[(.str (ofString "readlines") 662), (.str (ofString "BytesIO.readlines") 663), (.str (ofString "/claim/cut.py") 664), (.int 211 0), (.int 2 0), (.int 2 0), (.int 0 0), (.int 3 0), (.ref 338), (.bool true), (.int 273 0), (.ref 339), .none, (.ref 340), (.ref 341), (.ref 342), (.int 667 0), (.int 211 0), (.str (ofString "/claim/cut.py") 668)]) #[]
noncomputable def o379(_:Params):Obj:=.mk (.type "function") none (.func (.mk (ofString "readlines") (ofString "BytesIO.readlines") (fP (subAt 11 25)) (.stmts (fB (subAt 11 25))) (fS (subAt 11 25)) 3 [] (.ref 337) .none .none (.str (ofString "io") 346) none (.ref 343) .none 0)) #[]
noncomputable def o380(_:Params):Obj:=.mk (.type "tuple") none (.seq #[] 0) #[]
noncomputable def o381(_:Params):Obj:=.mk .none none (.fields #[]) #[]
noncomputable def o382(_:Params):Obj:=.mk (.type "tuple") none (.seq #[(.str (ofString "self") 673)] 0) #[]
noncomputable def o383(_:Params):Obj:=.mk (.type "tuple") none (.seq #[] 0) #[]
noncomputable def o384(_:Params):Obj:=.mk .none none (.func (.mk (ofString "__iter__") (ofString "BytesIO.__iter__") (fP (subAt 11 26)) (.stmts (fB (subAt 11 26))) (fS (subAt 21 9)) 0 [] .none .none .none .none none .none .none 0)) #[]
noncomputable def o385(_:Params):Obj:=.mk (.type "code") none (.fields #[(.str (ofString "__iter__") 670), (.str (ofString "BytesIO.__iter__") 671), (.str (ofString "/claim/cut.py") 672), (.int 214 0), (.int 1 0), (.int 0 0), (.int 0 0), (.int 3 0), (.ref 345), (.bool true), (.int 273 0), (.ref 346), .none, (.ref 347), (.ref 348), (.ref 349), (.int 674 0), (.int 214 0), (.str (ofString "/claim/cut.py") 675)]) #[]
noncomputable def o386(_:Params):Obj:=.mk (.type "function") none (.func (.mk (ofString "__iter__") (ofString "BytesIO.__iter__") (fP (subAt 11 26)) (.stmts (fB (subAt 11 26))) (fS (subAt 21 9)) 3 [] .none .none .none (.str (ofString "io") 346) none (.ref 350) .none 0)) #[]
noncomputable def o387(_:Params):Obj:=.mk (.type "tuple") none (.seq #[] 0) #[]
noncomputable def o388(_:Params):Obj:=.mk .none none (.fields #[]) #[]
noncomputable def o389(_:Params):Obj:=.mk (.type "tuple") none (.seq #[(.str (ofString "self") 680), (.str (ofString "line") 681)] 0) #[]
noncomputable def o390(_:Params):Obj:=.mk (.type "tuple") none (.seq #[] 0) #[]
noncomputable def o391(_:Params):Obj:=.mk .none none (.func (.mk (ofString "__next__") (ofString "BytesIO.__next__") (fP (subAt 11 27)) (.stmts (fB (subAt 11 27))) (fS (subAt 12 29)) 0 [] .none .none .none .none none .none .none 0)) #[]
noncomputable def o392(_:Params):Obj:=.mk (.type "code") none (.fields #[(.str (ofString "__next__") 677), (.str (ofString "BytesIO.__next__") 678), (.str (ofString "/claim/cut.py") 679), (.int 217 0), (.int 1 0), (.int 0 0), (.int 0 0), (.int 3 0), (.ref 352), (.bool true), (.int 273 0), (.ref 353), .none, (.ref 354), (.ref 355), (.ref 356), (.int 682 0), (.int 217 0), (.str (ofString "/claim/cut.py") 683)]) #[]
noncomputable def o393(_:Params):Obj:=.mk (.type "function") none (.func (.mk (ofString "__next__") (ofString "BytesIO.__next__") (fP (subAt 11 27)) (.stmts (fB (subAt 11 27))) (fS (subAt 12 29)) 3 [] .none .none .none (.str (ofString "io") 346) none (.ref 357) .none 0)) #[]
noncomputable def o394(_:Params):Obj:=.mk (.type "tuple") none (.seq #[] 0) #[]
noncomputable def o395(_:Params):Obj:=.mk .none none (.fields #[]) #[]
noncomputable def o396(_:Params):Obj:=.mk (.type "tuple") none (.seq #[(.str (ofString "self") 688), (.str (ofString "b") 689), (.str (ofString "n") 690), (.str (ofString "start") 691)] 0) #[]
noncomputable def o397(_:Params):Obj:=.mk (.type "tuple") none (.seq #[] 0) #[]
noncomputable def o398(_:Params):Obj:=.mk .none none (.func (.mk (ofString "write") (ofString "BytesIO.write") (fP (subAt 11 28)) (.stmts (fB (subAt 11 28))) (fS (subAt 11 28)) 0 [] .none .none .none .none none .none .none 0)) #[]
noncomputable def o399(_:Params):Obj:=.mk (.type "code") none (.fields #[(.str (ofString "write") 685), (.str (ofString "BytesIO.write") 686), (.str (ofString "/claim/cut.py") 687), (.int 224 0), (.int 2 0), (.int 2 0), (.int 0 0), (.int 3 0), (.ref 359), (.bool true), (.int 273 0), (.ref 360), .none, (.ref 361), (.ref 362), (.ref 363), (.int 692 0), (.int 224 0), (.str (ofString "/claim/cut.py") 693)]) #[]
noncomputable def o400(_:Params):Obj:=.mk (.type "function") none (.func (.mk (ofString "write") (ofString "BytesIO.write") (fP (subAt 11 28)) (.stmts (fB (subAt 11 28))) (fS (subAt 11 28)) 3 [] .none .none .none (.str (ofString "io") 346) none (.ref 364) .none 0)) #[]
noncomputable def o401(_:Params):Obj:=.mk (.type "tuple") none (.seq #[] 0) #[]
noncomputable def o402(_:Params):Obj:=.mk .none none (.fields #[]) #[]
noncomputable def o403(_:Params):Obj:=.mk (.type "tuple") none (.seq #[(.str (ofString "self") 698), (.str (ofString "lines") 699)] 0) #[]
noncomputable def o404(_:Params):Obj:=.mk (.type "tuple") none (.seq #[] 0) #[]
noncomputable def o405(_:Params):Obj:=.mk .none none (.func (.mk (ofString "writelines") (ofString "BytesIO.writelines") (fP (subAt 11 29)) (.stmts (fB (subAt 11 29))) (fS (subAt 12 31)) 0 [] .none .none .none .none none .none .none 0)) #[]
noncomputable def o406(_:Params):Obj:=.mk (.type "code") none (.fields #[(.str (ofString "writelines") 695), (.str (ofString "BytesIO.writelines") 696), (.str (ofString "/claim/cut.py") 697), (.int 240 0), (.int 2 0), (.int 2 0), (.int 0 0), (.int 3 0), (.ref 366), (.bool true), (.int 273 0), (.ref 367), .none, (.ref 368), (.ref 369), (.ref 370), (.int 700 0), (.int 240 0), (.str (ofString "/claim/cut.py") 701)]) #[]
noncomputable def o407(_:Params):Obj:=.mk (.type "function") none (.func (.mk (ofString "writelines") (ofString "BytesIO.writelines") (fP (subAt 11 29)) (.stmts (fB (subAt 11 29))) (fS (subAt 12 31)) 3 [] .none .none .none (.str (ofString "io") 346) none (.ref 371) .none 0)) #[]
noncomputable def o408(_:Params):Obj:=.mk (.type "tuple") none (.seq #[] 0) #[]
noncomputable def o409(_:Params):Obj:=.mk .none none (.fields #[]) #[]
noncomputable def o410(_:Params):Obj:=.mk (.type "tuple") none (.seq #[(.str (ofString "self") 706)] 0) #[]
noncomputable def o411(_:Params):Obj:=.mk (.type "tuple") none (.seq #[] 0) #[]
noncomputable def o412(_:Params):Obj:=.mk .none none (.func (.mk (ofString "__repr__") (ofString "BytesIO.__repr__") (fP (subAt 11 30)) (.stmts (fB (subAt 11 30))) (fS (subAt 12 32)) 0 [] .none .none .none .none none .none .none 0)) #[]
noncomputable def o413(_:Params):Obj:=.mk (.type "code") none (.fields #[(.str (ofString "__repr__") 703), (.str (ofString "BytesIO.__repr__") 704), (.str (ofString "/claim/cut.py") 705), (.int 243 0), (.int 1 0), (.int 0 0), (.int 0 0), (.int 3 0), (.ref 373), (.bool true), (.int 273 0), (.ref 374), .none, (.ref 375), (.ref 376), (.ref 377), (.int 707 0), (.int 243 0), (.str (ofString "/claim/cut.py") 708)]) #[]
noncomputable def o414(_:Params):Obj:=.mk (.type "function") none (.func (.mk (ofString "__repr__") (ofString "BytesIO.__repr__") (fP (subAt 11 30)) (.stmts (fB (subAt 11 30))) (fS (subAt 12 32)) 3 [] .none .none .none (.str (ofString "io") 346) none (.ref 378) .none 0)) #[]
noncomputable def o415(_:Params):Obj:=.mk (.type "tuple") none (.seq #[(.str (ofString "__buf") 710), (.str (ofString "__pos") 711)] 0) #[]
noncomputable def o416(P:Params):Obj:=.mk (.type "dict") none (.dict #[(.mk (keyHash P (ofString "__module__")) (.str (ofString "__module__") 461) (.str (ofString "_io") 466)), (.mk (keyHash P (ofString "__firstlineno__")) (.str (ofString "__firstlineno__") 465) (.int 75 464)), (.mk (keyHash P (ofString "__init__")) (.str (ofString "__init__") 475) (.ref 169)), (.mk (keyHash P (ofString "_BytesIO__check")) (.str (ofString "_BytesIO__check") 482) (.ref 176)), (.mk (keyHash P (ofString "_BytesIO__line")) (.str (ofString "_BytesIO__line") 493) (.ref 183)), (.mk (keyHash P (ofString "closed")) (.str (ofString "closed") 501) (.ref 191)), (.mk (keyHash P (ofString "close")) (.str (ofString "close") 508) (.ref 198)), (.mk (keyHash P (ofString "__enter__")) (.str (ofString "__enter__") 515) (.ref 205)), (.mk (keyHash P (ofString "__exit__")) (.str (ofString "__exit__") 523) (.ref 212)), (.mk (keyHash P (ofString "readable")) (.str (ofString "readable") 530) (.ref 219)), (.mk (keyHash P (ofString "writable")) (.str (ofString "writable") 537) (.ref 226)), (.mk (keyHash P (ofString "seekable")) (.str (ofString "seekable") 544) (.ref 233)), (.mk (keyHash P (ofString "isatty")) (.str (ofString "isatty") 551) (.ref 240)), (.mk (keyHash P (ofString "flush")) (.str (ofString "flush") 558) (.ref 247)), (.mk (keyHash P (ofString "fileno")) (.str (ofString "fileno") 565) (.ref 254)), (.mk (keyHash P (ofString "detach")) (.str (ofString "detach") 572) (.ref 261)), (.mk (keyHash P (ofString "getvalue")) (.str (ofString "getvalue") 579) (.ref 268)), (.mk (keyHash P (ofString "getbuffer")) (.str (ofString "getbuffer") 586) (.ref 275)), (.mk (keyHash P (ofString "tell")) (.str (ofString "tell") 593) (.ref 282)), (.mk (keyHash P (ofString "seek")) (.str (ofString "seek") 603) (.ref 290)), (.mk (keyHash P (ofString "truncate")) (.str (ofString "truncate") 611) (.ref 298)), (.mk (keyHash P (ofString "read")) (.str (ofString "read") 623) (.ref 306)), (.mk (keyHash P (ofString "read1")) (.str (ofString "read1") 633) (.ref 314)), (.mk (keyHash P (ofString "readinto")) (.str (ofString "readinto") 643) (.ref 321)), (.mk (keyHash P (ofString "readinto1")) (.str (ofString "readinto1") 651) (.ref 328)), (.mk (keyHash P (ofString "readline")) (.str (ofString "readline") 661) (.ref 336)), (.mk (keyHash P (ofString "readlines")) (.str (ofString "readlines") 669) (.ref 344)), (.mk (keyHash P (ofString "__iter__")) (.str (ofString "__iter__") 676) (.ref 351)), (.mk (keyHash P (ofString "__next__")) (.str (ofString "__next__") 684) (.ref 358)), (.mk (keyHash P (ofString "write")) (.str (ofString "write") 694) (.ref 365)), (.mk (keyHash P (ofString "writelines")) (.str (ofString "writelines") 702) (.ref 372)), (.mk (keyHash P (ofString "__repr__")) (.str (ofString "__repr__") 709) (.ref 379)), (.mk (keyHash P (ofString "__static_attributes__")) (.str (ofString "__static_attributes__") 712) (.ref 380)), (.mk (keyHash P (ofString "__doc__")) (.str (ofString "__doc__") 713) .none)] 2) #[]
noncomputable def o417(_:Params):Obj:=.mk (.type "type") none (Data.cls (ClassData.mk (ofString "BytesIO") [(.ref 140)] [(.ref 382), (.ref 140), (.ref 125), (.type "object")] 381 (ofString "BytesIO") true [] [] false none false)) #[(some (.ref 155)), none, (some (.str (ofString "BytesIO") 454)), (some (.str (ofString "BytesIO") 462)), (some .none), (some (.bool true))]
noncomputable def o418(_:Params):Obj:=.mk (.type "super") none (.fields #[(.ref 382), (.ref 382), (.ref 382)]) #[]
noncomputable def o419(_:Params):Obj:=.mk (.type "builtin_function_or_method") none (.fields #[(.builtin "object.__init_subclass__"), (.ref 382)]) #[]
noncomputable def T3 (P : Params) : BT := (.node (o29 P) (.node (o30 P) (.node (o187 P) (.node (o35 P) (.node (o42 P) (.node (o57 P) (.node (o92 P) (.node (o156 P) (.node (o290 P) .nil .nil) (.node (o418 P) .nil .nil)) (.node (o226 P) (.node (o354 P) .nil .nil) .nil)) (.node (o124 P) (.node (o194 P) (.node (o322 P) .nil .nil) .nil) (.node (o258 P) (.node (o386 P) .nil .nil) .nil))) (.node (o76 P) (.node (o108 P) (.node (o175 P) (.node (o306 P) .nil .nil) .nil) (.node (o242 P) (.node (o370 P) .nil .nil) .nil)) (.node (o140 P) (.node (o210 P) (.node (o338 P) .nil .nil) .nil) (.node (o274 P) (.node (o402 P) .nil .nil) .nil)))) (.node (o49 P) (.node (o68 P) (.node (o100 P) (.node (o164 P) (.node (o298 P) .nil .nil) .nil) (.node (o234 P) (.node (o362 P) .nil .nil) .nil)) (.node (o132 P) (.node (o202 P) (.node (o330 P) .nil .nil) .nil) (.node (o266 P) (.node (o394 P) .nil .nil) .nil))) (.node (o84 P) (.node (o116 P) (.node (o183 P) (.node (o314 P) .nil .nil) .nil) (.node (o250 P) (.node (o378 P) .nil .nil) .nil)) (.node (o148 P) (.node (o218 P) (.node (o346 P) .nil .nil) .nil) (.node (o282 P) (.node (o410 P) .nil .nil) .nil))))) (.node (o38 P) (.node (o46 P) (.node (o64 P) (.node (o96 P) (.node (o160 P) (.node (o294 P) .nil .nil) .nil) (.node (o230 P) (.node (o358 P) .nil .nil) .nil)) (.node (o128 P) (.node (o198 P) (.node (o326 P) .nil .nil) .nil) (.node (o262 P) (.node (o390 P) .nil .nil) .nil))) (.node (o80 P) (.node (o112 P) (.node (o179 P) (.node (o310 P) .nil .nil) .nil) (.node (o246 P) (.node (o374 P) .nil .nil) .nil)) (.node (o144 P) (.node (o214 P) (.node (o342 P) .nil .nil) .nil) (.node (o278 P) (.node (o406 P) .nil .nil) .nil)))) (.node (o53 P) (.node (o72 P) (.node (o104 P) (.node (o168 P) (.node (o302 P) .nil .nil) .nil) (.node (o238 P) (.node (o366 P) .nil .nil) .nil)) (.node (o136 P) (.node (o206 P) (.node (o334 P) .nil .nil) .nil) (.node (o270 P) (.node (o398 P) .nil .nil) .nil))) (.node (o88 P) (.node (o120 P) (.node (o190 P) (.node (o318 P) .nil .nil) .nil) (.node (o254 P) (.node (o382 P) .nil .nil) .nil)) (.node (o152 P) (.node (o222 P) (.node (o350 P) .nil .nil) .nil) (.node (o286 P) (.node (o414 P) .nil .nil) .nil)))))) (.node (o34 P) (.node (o36 P) (.node (o44 P) (.node (o62 P) (.node (o94 P) (.node (o158 P) (.node (o292 P) .nil .nil) .nil) (.node (o228 P) (.node (o356 P) .nil .nil) .nil)) (.node (o126 P) (.node (o196 P) (.node (o324 P) .nil .nil) .nil) (.node (o260 P) (.node (o388 P) .nil .nil) .nil))) (.node (o78 P) (.node (o110 P) (.node (o177 P) (.node (o308 P) .nil .nil) .nil) (.node (o244 P) (.node (o372 P) .nil .nil) .nil)) (.node (o142 P) (.node (o212 P) (.node (o340 P) .nil .nil) .nil) (.node (o276 P) (.node (o404 P) .nil .nil) .nil)))) (.node (o51 P) (.node (o70 P) (.node (o102 P) (.node (o166 P) (.node (o300 P) .nil .nil) .nil) (.node (o236 P) (.node (o364 P) .nil .nil) .nil)) (.node (o134 P) (.node (o204 P) (.node (o332 P) .nil .nil) .nil) (.node (o268 P) (.node (o396 P) .nil .nil) .nil))) (.node (o86 P) (.node (o118 P) (.node (o185 P) (.node (o316 P) .nil .nil) .nil) (.node (o252 P) (.node (o380 P) .nil .nil) .nil)) (.node (o150 P) (.node (o220 P) (.node (o348 P) .nil .nil) .nil) (.node (o284 P) (.node (o412 P) .nil .nil) .nil))))) (.node (o40 P) (.node (o47 P) (.node (o66 P) (.node (o98 P) (.node (o162 P) (.node (o296 P) .nil .nil) .nil) (.node (o232 P) (.node (o360 P) .nil .nil) .nil)) (.node (o130 P) (.node (o200 P) (.node (o328 P) .nil .nil) .nil) (.node (o264 P) (.node (o392 P) .nil .nil) .nil))) (.node (o82 P) (.node (o114 P) (.node (o181 P) (.node (o312 P) .nil .nil) .nil) (.node (o248 P) (.node (o376 P) .nil .nil) .nil)) (.node (o146 P) (.node (o216 P) (.node (o344 P) .nil .nil) .nil) (.node (o280 P) (.node (o408 P) .nil .nil) .nil)))) (.node (o55 P) (.node (o74 P) (.node (o106 P) (.node (o170 P) (.node (o304 P) .nil .nil) .nil) (.node (o240 P) (.node (o368 P) .nil .nil) .nil)) (.node (o138 P) (.node (o208 P) (.node (o336 P) .nil .nil) .nil) (.node (o272 P) (.node (o400 P) .nil .nil) .nil))) (.node (o90 P) (.node (o122 P) (.node (o192 P) (.node (o320 P) .nil .nil) .nil) (.node (o256 P) (.node (o384 P) .nil .nil) .nil)) (.node (o174 P) (.node (o224 P) (.node (o352 P) .nil .nil) .nil) (.node (o288 P) (.node (o416 P) .nil .nil) .nil))))))) (.node (o59 P) (.node (o33 P) (.node (o8 P) (.node (o43 P) (.node (o58 P) (.node (o93 P) (.node (o157 P) (.node (o291 P) .nil .nil) (.node (o419 P) .nil .nil)) (.node (o227 P) (.node (o355 P) .nil .nil) .nil)) (.node (o125 P) (.node (o195 P) (.node (o323 P) .nil .nil) .nil) (.node (o259 P) (.node (o387 P) .nil .nil) .nil))) (.node (o77 P) (.node (o109 P) (.node (o176 P) (.node (o307 P) .nil .nil) .nil) (.node (o243 P) (.node (o371 P) .nil .nil) .nil)) (.node (o141 P) (.node (o211 P) (.node (o339 P) .nil .nil) .nil) (.node (o275 P) (.node (o403 P) .nil .nil) .nil)))) (.node (o50 P) (.node (o69 P) (.node (o101 P) (.node (o165 P) (.node (o299 P) .nil .nil) .nil) (.node (o235 P) (.node (o363 P) .nil .nil) .nil)) (.node (o133 P) (.node (o203 P) (.node (o331 P) .nil .nil) .nil) (.node (o267 P) (.node (o395 P) .nil .nil) .nil))) (.node (o85 P) (.node (o117 P) (.node (o184 P) (.node (o315 P) .nil .nil) .nil) (.node (o251 P) (.node (o379 P) .nil .nil) .nil)) (.node (o149 P) (.node (o219 P) (.node (o347 P) .nil .nil) .nil) (.node (o283 P) (.node (o411 P) .nil .nil) .nil))))) (.node (o39 P) (.node (o20 P) (.node (o65 P) (.node (o97 P) (.node (o161 P) (.node (o295 P) .nil .nil) .nil) (.node (o231 P) (.node (o359 P) .nil .nil) .nil)) (.node (o129 P) (.node (o199 P) (.node (o327 P) .nil .nil) .nil) (.node (o263 P) (.node (o391 P) .nil .nil) .nil))) (.node (o81 P) (.node (o113 P) (.node (o180 P) (.node (o311 P) .nil .nil) .nil) (.node (o247 P) (.node (o375 P) .nil .nil) .nil)) (.node (o145 P) (.node (o215 P) (.node (o343 P) .nil .nil) .nil) (.node (o279 P) (.node (o407 P) .nil .nil) .nil)))) (.node (o54 P) (.node (o73 P) (.node (o105 P) (.node (o189 P) (.node (o303 P) .nil .nil) .nil) (.node (o239 P) (.node (o367 P) .nil .nil) .nil)) (.node (o137 P) (.node (o207 P) (.node (o335 P) .nil .nil) .nil) (.node (o271 P) (.node (o399 P) .nil .nil) .nil))) (.node (o89 P) (.node (o121 P) (.node (o191 P) (.node (o319 P) .nil .nil) .nil) (.node (o255 P) (.node (o383 P) .nil .nil) .nil)) (.node (o153 P) (.node (o223 P) (.node (o351 P) .nil .nil) .nil) (.node (o287 P) (.node (o415 P) .nil .nil) .nil)))))) (.node (o6 P) (.node (o37 P) (.node (o45 P) (.node (o63 P) (.node (o95 P) (.node (o159 P) (.node (o293 P) .nil .nil) .nil) (.node (o229 P) (.node (o357 P) .nil .nil) .nil)) (.node (o127 P) (.node (o197 P) (.node (o325 P) .nil .nil) .nil) (.node (o261 P) (.node (o389 P) .nil .nil) .nil))) (.node (o79 P) (.node (o111 P) (.node (o178 P) (.node (o309 P) .nil .nil) .nil) (.node (o245 P) (.node (o373 P) .nil .nil) .nil)) (.node (o143 P) (.node (o213 P) (.node (o341 P) .nil .nil) .nil) (.node (o277 P) (.node (o405 P) .nil .nil) .nil)))) (.node (o52 P) (.node (o71 P) (.node (o103 P) (.node (o167 P) (.node (o301 P) .nil .nil) .nil) (.node (o237 P) (.node (o365 P) .nil .nil) .nil)) (.node (o135 P) (.node (o205 P) (.node (o333 P) .nil .nil) .nil) (.node (o269 P) (.node (o397 P) .nil .nil) .nil))) (.node (o87 P) (.node (o119 P) (.node (o186 P) (.node (o317 P) .nil .nil) .nil) (.node (o253 P) (.node (o381 P) .nil .nil) .nil)) (.node (o151 P) (.node (o221 P) (.node (o349 P) .nil .nil) .nil) (.node (o285 P) (.node (o413 P) .nil .nil) .nil))))) (.node (o41 P) (.node (o48 P) (.node (o67 P) (.node (o99 P) (.node (o163 P) (.node (o297 P) .nil .nil) .nil) (.node (o233 P) (.node (o361 P) .nil .nil) .nil)) (.node (o131 P) (.node (o201 P) (.node (o329 P) .nil .nil) .nil) (.node (o265 P) (.node (o393 P) .nil .nil) .nil))) (.node (o83 P) (.node (o115 P) (.node (o182 P) (.node (o313 P) .nil .nil) .nil) (.node (o249 P) (.node (o377 P) .nil .nil) .nil)) (.node (o147 P) (.node (o217 P) (.node (o345 P) .nil .nil) .nil) (.node (o281 P) (.node (o409 P) .nil .nil) .nil)))) (.node (o188 P) (.node (o75 P) (.node (o107 P) (.node (o171 P) (.node (o305 P) .nil .nil) .nil) (.node (o241 P) (.node (o369 P) .nil .nil) .nil)) (.node (o139 P) (.node (o209 P) (.node (o337 P) .nil .nil) .nil) (.node (o273 P) (.node (o401 P) .nil .nil) .nil))) (.node (o91 P) (.node (o123 P) (.node (o193 P) (.node (o321 P) .nil .nil) .nil) (.node (o257 P) (.node (o385 P) .nil .nil) .nil)) (.node (o155 P) (.node (o225 P) (.node (o353 P) .nil .nil) .nil) (.node (o289 P) (.node (o417 P) .nil .nil) .nil))))))))
noncomputable def o420(P:Params):Obj:=.mk (.type "dict") none (.dict #[(.mk (keyHash P (ofString "__name__")) (.str (ofString "__name__") 165) (.str (ofString "io") 346)), (.mk (keyHash P (ofString "__doc__")) (.str (ofString "__doc__") 166) .none), (.mk (keyHash P (ofString "__package__")) (.str (ofString "__package__") 167) .none), (.mk (keyHash P (ofString "__loader__")) (.str (ofString "__loader__") 168) (.builtin "__main__.__loader__#opaque")), (.mk (keyHash P (ofString "__spec__")) (.str (ofString "__spec__") 169) .none), (.mk (keyHash P (ofString "__annotations__")) (.str (ofString "__annotations__") 170) (.ref 6)), (.mk (keyHash P (ofString "__builtins__")) (.str (ofString "__builtins__") 171) (.ref 4)), (.mk (keyHash P (ofString "__file__")) (.str (ofString "__file__") 173) (.str (ofString "/claim/cut.py") 172)), (.mk (keyHash P (ofString "__cached__")) (.str (ofString "__cached__") 174) .none), (.mk (keyHash P (ofString "deque")) (.str (ofString "deque") 272) (.type "collections.deque")), (.mk (keyHash P (ofString "_wall")) (.str (ofString "_wall") 285) (.ref 39)), (.mk (keyHash P (ofString "_netrclex")) (.str (ofString "_netrclex") 345) (.ref 77)), (.mk (keyHash P (ofString "_whence")) (.str (ofString "_whence") 355) (.ref 88)), (.mk (keyHash P (ofString "_index")) (.str (ofString "_index") 363) (.ref 95)), (.mk (keyHash P (ofString "UnsupportedOperation")) (.str (ofString "UnsupportedOperation") 385) (.ref 105)), (.mk (keyHash P (ofString "IOBase")) (.str (ofString "IOBase") 417) (.ref 125)), (.mk (keyHash P (ofString "BufferedIOBase")) (.str (ofString "BufferedIOBase") 435) (.ref 140)), (.mk (keyHash P (ofString "TextIOBase")) (.str (ofString "TextIOBase") 453) (.ref 152)), (.mk (keyHash P (ofString "BytesIO")) (.str (ofString "BytesIO") 715) (.ref 382)), (.mk (keyHash P (ofString "StringIO")) (.str (ofString "StringIO") 1002) (.ref 629))] 20) #[]
noncomputable def o421(_:Params):Obj:=.mk .none none (.fields #[(.int 2 0), (.int 0 0), (.ref 38), (.int 6 0), (.int 0 0), (.ref 45), (.int 50 0), (.int 0 0), (.ref 87), (.int 55 0), (.int 0 0), (.ref 94), (.int 62 0), (.int 0 0), (.ref 101), (.int 64 0), (.int 0 0), (.ref 114), (.int 71 0), (.int 0 0), (.ref 136), (.int 73 0), (.int 0 0), (.ref 148), (.int 75 0), (.int 0 0), (.ref 160), (.int 245 0), (.int 0 0), (.ref 390)]) #[]
noncomputable def o422(_:Params):Obj:=.mk (.type "type") none (Data.cls (ClassData.mk (ofString "TextIOBase") [(.ref 125)] [(.ref 152), (.ref 125), (.type "object")] 151 (ofString "TextIOBase") true [] [(.ref 629)] false none false)) #[(some (.ref 143)), none, (some (.str (ofString "TextIOBase") 436)), (some (.str (ofString "TextIOBase") 444)), (some .none), (some (.bool true))]
noncomputable def o423(_:Params):Obj:=.mk (.type "tuple") none (.seq #[(.ref 152)] 0) #[]
noncomputable def o424(_:Params):Obj:=.mk (.type "builtin_function_or_method") none (.fields #[(.builtin "type.__prepare__"), (.type "type")]) #[]
noncomputable def o425(P:Params):Obj:=.mk (.type "dict") none (.dict #[(.mk (keyHash P (ofString "__module__")) (.str (ofString "__module__") 723) (.str (ofString "_io") 728)), (.mk (keyHash P (ofString "__qualname__")) (.str (ofString "__qualname__") 725) (.str (ofString "StringIO") 724)), (.mk (keyHash P (ofString "__firstlineno__")) (.str (ofString "__firstlineno__") 727) (.int 245 726)), (.mk (keyHash P (ofString "__init__")) (.str (ofString "__init__") 740) (.ref 399)), (.mk (keyHash P (ofString "_StringIO__translated")) (.str (ofString "_StringIO__translated") 749) (.ref 406)), (.mk (keyHash P (ofString "_StringIO__check")) (.str (ofString "_StringIO__check") 756) (.ref 413)), (.mk (keyHash P (ofString "_StringIO__check_dot")) (.str (ofString "_StringIO__check_dot") 763) (.ref 420)), (.mk (keyHash P (ofString "_StringIO__line")) (.str (ofString "_StringIO__line") 778) (.ref 427)), (.mk (keyHash P (ofString "closed")) (.str (ofString "closed") 786) (.ref 435)), (.mk (keyHash P (ofString "line_buffering")) (.str (ofString "line_buffering") 794) (.ref 443)), (.mk (keyHash P (ofString "newlines")) (.str (ofString "newlines") 802) (.ref 451)), (.mk (keyHash P (ofString "encoding")) (.str (ofString "encoding") 810) (.ref 459)), (.mk (keyHash P (ofString "errors")) (.str (ofString "errors") 818) (.ref 467)), (.mk (keyHash P (ofString "close")) (.str (ofString "close") 825) (.ref 474)), (.mk (keyHash P (ofString "__enter__")) (.str (ofString "__enter__") 832) (.ref 481)), (.mk (keyHash P (ofString "__exit__")) (.str (ofString "__exit__") 840) (.ref 488)), (.mk (keyHash P (ofString "readable")) (.str (ofString "readable") 847) (.ref 495)), (.mk (keyHash P (ofString "writable")) (.str (ofString "writable") 854) (.ref 502)), (.mk (keyHash P (ofString "seekable")) (.str (ofString "seekable") 861) (.ref 509)), (.mk (keyHash P (ofString "isatty")) (.str (ofString "isatty") 868) (.ref 516)), (.mk (keyHash P (ofString "flush")) (.str (ofString "flush") 875) (.ref 523)), (.mk (keyHash P (ofString "fileno")) (.str (ofString "fileno") 882) (.ref 530)), (.mk (keyHash P (ofString "detach")) (.str (ofString "detach") 889) (.ref 537)), (.mk (keyHash P (ofString "getvalue")) (.str (ofString "getvalue") 896) (.ref 544)), (.mk (keyHash P (ofString "tell")) (.str (ofString "tell") 903) (.ref 551)), (.mk (keyHash P (ofString "seek")) (.str (ofString "seek") 913) (.ref 559)), (.mk (keyHash P (ofString "truncate")) (.str (ofString "truncate") 921) (.ref 567)), (.mk (keyHash P (ofString "read")) (.str (ofString "read") 933) (.ref 575)), (.mk (keyHash P (ofString "readline")) (.str (ofString "readline") 943) (.ref 583)), (.mk (keyHash P (ofString "readlines")) (.str (ofString "readlines") 953) (.ref 591)), (.mk (keyHash P (ofString "__iter__")) (.str (ofString "__iter__") 960) (.ref 598)), (.mk (keyHash P (ofString "__next__")) (.str (ofString "__next__") 968) (.ref 605)), (.mk (keyHash P (ofString "write")) (.str (ofString "write") 980) (.ref 612)), (.mk (keyHash P (ofString "writelines")) (.str (ofString "writelines") 988) (.ref 619)), (.mk (keyHash P (ofString "__repr__")) (.str (ofString "__repr__") 995) (.ref 626)), (.mk (keyHash P (ofString "__static_attributes__")) (.str (ofString "__static_attributes__") 999) (.ref 627))] 36) #[]
noncomputable def o426(_:Params):Obj:=.mk (.type "tuple") none (.seq #[] 0) #[]
noncomputable def o427(_:Params):Obj:=.mk .none none (.fields #[(.int 248 0), (.int 4 0), (.ref 398), (.int 261 0), (.int 4 0), (.ref 405), (.int 269 0), (.int 4 0), (.ref 412), (.int 273 0), (.int 4 0), (.ref 419), (.int 277 0), (.int 4 0), (.ref 426), (.int 310 0), (.int 4 0), (.ref 433), (.int 314 0), (.int 4 0), (.ref 441), (.int 318 0), (.int 4 0), (.ref 449), (.int 322 0), (.int 4 0), (.ref 457), (.int 326 0), (.int 4 0), (.ref 465), (.int 329 0), (.int 4 0), (.ref 473), (.int 332 0), (.int 4 0), (.ref 480), (.int 336 0), (.int 4 0), (.ref 487), (.int 339 0), (.int 4 0), (.ref 494), (.int 343 0), (.int 4 0), (.ref 501), (.int 347 0), (.int 4 0), (.ref 508), (.int 351 0), (.int 4 0), (.ref 515), (.int 355 0), (.int 4 0), (.ref 522), (.int 358 0), (.int 4 0), (.ref 529), (.int 361 0), (.int 4 0), (.ref 536), (.int 364 0), (.int 4 0), (.ref 543), (.int 367 0), (.int 4 0), (.ref 550), (.int 371 0), (.int 4 0), (.ref 558), (.int 388 0), (.int 4 0), (.ref 566), (.int 391 0), (.int 4 0), (.ref 574), (.int 405 0), (.int 4 0), (.ref 582), (.int 412 0), (.int 4 0), (.ref 590), (.int 415 0), (.int 4 0), (.ref 597), (.int 419 0), (.int 4 0), (.ref 604), (.int 426 0), (.int 4 0), (.ref 611), (.int 445 0), (.int 4 0), (.ref 618), (.int 448 0), (.int 4 0), (.ref 625)]) #[]
noncomputable def o428(_:Params):Obj:=.mk (.type "code") none (.fields #[(.str (ofString "StringIO") 718), (.str (ofString "StringIO") 719), (.str (ofString "/claim/cut.py") 720), (.int 245 0), (.int 0 0), (.int 0 0), (.int 0 0), (.int 0 0), (.ref 388), (.bool false), (.int 273 0), (.ref 389), .none, .none, .none, .none, (.int 721 0), (.int 245 0), (.str (ofString "/claim/cut.py") 722)]) #[]
noncomputable def o429(_:Params):Obj:=.mk (.type "frame") none .plain #[(some (.ref 390)), (some (.ref 3)), (some (.ref 387)), none, (some (.str (ofString "io") 346)), none, (some (.ref 0))]
noncomputable def o430(_:Params):Obj:=.mk (.type "tuple") none (.seq #[(.str (ofString "") 730), (.str (ofString "\n") 731)] 0) #[]
noncomputable def o431(_:Params):Obj:=.mk (.type "tuple") none (.seq #[] 0) #[]
noncomputable def o432(_:Params):Obj:=.mk .none none (.fields #[]) #[]
noncomputable def o433(_:Params):Obj:=.mk (.type "tuple") none (.seq #[(.str (ofString "self") 735), (.str (ofString "initial_value") 736), (.str (ofString "newline") 737)] 0) #[]
noncomputable def o434(_:Params):Obj:=.mk (.type "tuple") none (.seq #[] 0) #[]
noncomputable def o435(_:Params):Obj:=.mk .none none (.func (.mk (ofString "__init__") (ofString "StringIO.__init__") (fP (subAt 12 1)) (.stmts (fB (subAt 12 1))) (fS (subAt 12 1)) 0 [] .none .none .none .none none .none .none 0)) #[]
noncomputable def o436(_:Params):Obj:=.mk (.type "code") none (.fields #[(.str (ofString "__init__") 732), (.str (ofString "StringIO.__init__") 733), (.str (ofString "/claim/cut.py") 734), (.int 248 0), (.int 3 0), (.int 0 0), (.int 0 0), (.int 3 0), (.ref 393), (.bool true), (.int 273 0), (.ref 394), .none, (.ref 395), (.ref 396), (.ref 397), (.int 738 0), (.int 248 0), (.str (ofString "/claim/cut.py") 739)]) #[]
noncomputable def o437(_:Params):Obj:=.mk (.type "function") none (.func (.mk (ofString "__init__") (ofString "StringIO.__init__") (fP (subAt 12 1)) (.stmts (fB (subAt 12 1))) (fS (subAt 12 1)) 3 [] (.ref 392) .none .none (.str (ofString "io") 346) none (.ref 398) .none 0)) #[]
noncomputable def o438(_:Params):Obj:=.mk (.type "tuple") none (.seq #[] 0) #[]
noncomputable def o439(_:Params):Obj:=.mk .none none (.fields #[]) #[]
noncomputable def o440(_:Params):Obj:=.mk (.type "tuple") none (.seq #[(.str (ofString "self") 744), (.str (ofString "s") 745), (.str (ofString "newline") 746)] 0) #[]
noncomputable def o441(_:Params):Obj:=.mk (.type "tuple") none (.seq #[] 0) #[]
noncomputable def o442(_:Params):Obj:=.mk .none none (.func (.mk (ofString "__translated") (ofString "StringIO.__translated") (fP (subAt 12 2)) (.stmts (fB (subAt 12 2))) (fS (subAt 12 2)) 0 [] .none .none .none .none none .none .none 0)) #[]
noncomputable def o443(_:Params):Obj:=.mk (.type "code") none (.fields #[(.str (ofString "__translated") 741), (.str (ofString "StringIO.__translated") 742), (.str (ofString "/claim/cut.py") 743), (.int 261 0), (.int 2 0), (.int 0 0), (.int 0 0), (.int 3 0), (.ref 400), (.bool true), (.int 273 0), (.ref 401), .none, (.ref 402), (.ref 403), (.ref 404), (.int 747 0), (.int 261 0), (.str (ofString "/claim/cut.py") 748)]) #[]
noncomputable def o444(_:Params):Obj:=.mk (.type "function") none (.func (.mk (ofString "__translated") (ofString "StringIO.__translated") (fP (subAt 12 2)) (.stmts (fB (subAt 12 2))) (fS (subAt 12 2)) 3 [] .none .none .none (.str (ofString "io") 346) none (.ref 405) .none 0)) #[]
noncomputable def o445(_:Params):Obj:=.mk (.type "tuple") none (.seq #[] 0) #[]
noncomputable def o446(_:Params):Obj:=.mk .none none (.fields #[]) #[]
noncomputable def o447(_:Params):Obj:=.mk (.type "tuple") none (.seq #[(.str (ofString "self") 753)] 0) #[]
noncomputable def o448(_:Params):Obj:=.mk (.type "tuple") none (.seq #[] 0) #[]
noncomputable def o449(_:Params):Obj:=.mk .none none (.func (.mk (ofString "__check") (ofString "StringIO.__check") (fP (subAt 12 3)) (.stmts (fB (subAt 12 3))) (fS (subAt 12 4)) 0 [] .none .none .none .none none .none .none 0)) #[]
noncomputable def o450(_:Params):Obj:=.mk (.type "code") none (.fields #[(.str (ofString "__check") 750), (.str (ofString "StringIO.__check") 751), (.str (ofString "/claim/cut.py") 752), (.int 269 0), (.int 1 0), (.int 0 0), (.int 0 0), (.int 3 0), (.ref 407), (.bool true), (.int 273 0), (.ref 408), .none, (.ref 409), (.ref 410), (.ref 411), (.int 754 0), (.int 269 0), (.str (ofString "/claim/cut.py") 755)]) #[]
noncomputable def o451(_:Params):Obj:=.mk (.type "function") none (.func (.mk (ofString "__check") (ofString "StringIO.__check") (fP (subAt 12 3)) (.stmts (fB (subAt 12 3))) (fS (subAt 12 4)) 3 [] .none .none .none (.str (ofString "io") 346) none (.ref 412) .none 0)) #[]
noncomputable def o452(_:Params):Obj:=.mk (.type "tuple") none (.seq #[] 0) #[]
noncomputable def o453(_:Params):Obj:=.mk .none none (.fields #[]) #[]
noncomputable def o454(_:Params):Obj:=.mk (.type "tuple") none (.seq #[(.str (ofString "self") 760)] 0) #[]
noncomputable def o455(_:Params):Obj:=.mk (.type "tuple") none (.seq #[] 0) #[]
noncomputable def o456(_:Params):Obj:=.mk .none none (.func (.mk (ofString "__check_dot") (ofString "StringIO.__check_dot") (fP (subAt 12 4)) (.stmts (fB (subAt 12 4))) (fS (subAt 12 4)) 0 [] .none .none .none .none none .none .none 0)) #[]
noncomputable def o457(_:Params):Obj:=.mk (.type "code") none (.fields #[(.str (ofString "__check_dot") 757), (.str (ofString "StringIO.__check_dot") 758), (.str (ofString "/claim/cut.py") 759), (.int 273 0), (.int 1 0), (.int 0 0), (.int 0 0), (.int 3 0), (.ref 414), (.bool true), (.int 273 0), (.ref 415), .none, (.ref 416), (.ref 417), (.ref 418), (.int 761 0), (.int 273 0), (.str (ofString "/claim/cut.py") 762)]) #[]
noncomputable def o458(_:Params):Obj:=.mk (.type "function") none (.func (.mk (ofString "__check_dot") (ofString "StringIO.__check_dot") (fP (subAt 12 4)) (.stmts (fB (subAt 12 4))) (fS (subAt 12 4)) 3 [] .none .none .none (.str (ofString "io") 346) none (.ref 419) .none 0)) #[]
noncomputable def o459(_:Params):Obj:=.mk (.type "tuple") none (.seq #[] 0) #[]
noncomputable def o460(_:Params):Obj:=.mk .none none (.fields #[]) #[]
noncomputable def o461(_:Params):Obj:=.mk (.type "tuple") none (.seq #[(.str (ofString "self") 767), (.str (ofString "limit") 768), (.str (ofString "start") 769), (.str (ofString "stop") 770), (.str (ofString "cut") 771), (.str (ofString "newline") 772), (.str (ofString "i") 773), (.str (ofString "j") 774), (.str (ofString "end") 775)] 0) #[]
noncomputable def o462(_:Params):Obj:=.mk (.type "tuple") none (.seq #[] 0) #[]
noncomputable def o463(_:Params):Obj:=.mk .none none (.func (.mk (ofString "__line") (ofString "StringIO.__line") (fP (subAt 12 5)) (.stmts (fB (subAt 12 5))) (fS (subAt 12 5)) 0 [] .none .none .none .none none .none .none 0)) #[]
noncomputable def o464(_:Params):Obj:=.mk (.type "code") none (.fields #[(.str (ofString "__line") 764), (.str (ofString "StringIO.__line") 765), (.str (ofString "/claim/cut.py") 766), (.int 277 0), (.int 2 0), (.int 0 0), (.int 0 0), (.int 3 0), (.ref 421), (.bool true), (.int 273 0), (.ref 422), .none, (.ref 423), (.ref 424), (.ref 425), (.int 776 0), (.int 277 0), (.str (ofString "/claim/cut.py") 777)]) #[]
noncomputable def o465(_:Params):Obj:=.mk (.type "function") none (.func (.mk (ofString "__line") (ofString "StringIO.__line") (fP (subAt 12 5)) (.stmts (fB (subAt 12 5))) (fS (subAt 12 5)) 3 [] .none .none .none (.str (ofString "io") 346) none (.ref 426) .none 0)) #[]
noncomputable def o466(_:Params):Obj:=.mk (.type "tuple") none (.seq #[] 0) #[]
noncomputable def o467(_:Params):Obj:=.mk .none none (.fields #[]) #[]
noncomputable def o468(_:Params):Obj:=.mk (.type "tuple") none (.seq #[(.str (ofString "self") 782)] 0) #[]
noncomputable def o469(_:Params):Obj:=.mk (.type "tuple") none (.seq #[] 0) #[]
noncomputable def o470(_:Params):Obj:=.mk .none none (.func (.mk (ofString "closed") (ofString "StringIO.closed") (fP (subAt 12 6)) (.stmts (fB (subAt 12 6))) (fS (subAt 21 9)) 0 [] .none .none .none .none none .none .none 0)) #[]
noncomputable def o471(_:Params):Obj:=.mk (.type "code") none (.fields #[(.str (ofString "closed") 779), (.str (ofString "StringIO.closed") 780), (.str (ofString "/claim/cut.py") 781), (.int 309 0), (.int 1 0), (.int 0 0), (.int 0 0), (.int 3 0), (.ref 428), (.bool true), (.int 273 0), (.ref 429), .none, (.ref 430), (.ref 431), (.ref 432), (.int 783 0), (.int 309 0), (.str (ofString "/claim/cut.py") 784)]) #[]
noncomputable def o472(_:Params):Obj:=.mk (.type "function") none (.func (.mk (ofString "closed") (ofString "StringIO.closed") (fP (subAt 12 6)) (.stmts (fB (subAt 12 6))) (fS (subAt 21 9)) 3 [] .none .none .none (.str (ofString "io") 346) none (.ref 433) .none 0)) #[]
noncomputable def o473(_:Params):Obj:=.mk (.type "property") none (.fields #[(.ref 434), .none, .none, .none, (.str (ofString "closed") 786), (.bool false)]) #[]
noncomputable def o474(_:Params):Obj:=.mk (.type "tuple") none (.seq #[] 0) #[]
noncomputable def o475(_:Params):Obj:=.mk .none none (.fields #[]) #[]
noncomputable def o476(_:Params):Obj:=.mk (.type "tuple") none (.seq #[(.str (ofString "self") 790)] 0) #[]
noncomputable def o477(_:Params):Obj:=.mk (.type "tuple") none (.seq #[] 0) #[]
noncomputable def o478(_:Params):Obj:=.mk .none none (.func (.mk (ofString "line_buffering") (ofString "StringIO.line_buffering") (fP (subAt 12 7)) (.stmts (fB (subAt 12 7))) (fS (subAt 12 32)) 0 [] .none .none .none .none none .none .none 0)) #[]
noncomputable def o479(_:Params):Obj:=.mk (.type "code") none (.fields #[(.str (ofString "line_buffering") 787), (.str (ofString "StringIO.line_buffering") 788), (.str (ofString "/claim/cut.py") 789), (.int 313 0), (.int 1 0), (.int 0 0), (.int 0 0), (.int 3 0), (.ref 436), (.bool true), (.int 273 0), (.ref 437), .none, (.ref 438), (.ref 439), (.ref 440), (.int 791 0), (.int 313 0), (.str (ofString "/claim/cut.py") 792)]) #[]
noncomputable def o480(_:Params):Obj:=.mk (.type "function") none (.func (.mk (ofString "line_buffering") (ofString "StringIO.line_buffering") (fP (subAt 12 7)) (.stmts (fB (subAt 12 7))) (fS (subAt 12 32)) 3 [] .none .none .none (.str (ofString "io") 346) none (.ref 441) .none 0)) #[]
noncomputable def o481(_:Params):Obj:=.mk (.type "property") none (.fields #[(.ref 442), .none, .none, .none, (.str (ofString "line_buffering") 794), (.bool false)]) #[]
noncomputable def o482(_:Params):Obj:=.mk (.type "tuple") none (.seq #[] 0) #[]
noncomputable def o483(_:Params):Obj:=.mk .none none (.fields #[]) #[]
noncomputable def o484(_:Params):Obj:=.mk (.type "tuple") none (.seq #[(.str (ofString "self") 798)] 0) #[]
noncomputable def o485(_:Params):Obj:=.mk (.type "tuple") none (.seq #[] 0) #[]
noncomputable def o486(_:Params):Obj:=.mk .none none (.func (.mk (ofString "newlines") (ofString "StringIO.newlines") (fP (subAt 12 8)) (.stmts (fB (subAt 12 8))) (fS (subAt 12 32)) 0 [] .none .none .none .none none .none .none 0)) #[]
noncomputable def o487(_:Params):Obj:=.mk (.type "code") none (.fields #[(.str (ofString "newlines") 795), (.str (ofString "StringIO.newlines") 796), (.str (ofString "/claim/cut.py") 797), (.int 317 0), (.int 1 0), (.int 0 0), (.int 0 0), (.int 3 0), (.ref 444), (.bool true), (.int 273 0), (.ref 445), .none, (.ref 446), (.ref 447), (.ref 448), (.int 799 0), (.int 317 0), (.str (ofString "/claim/cut.py") 800)]) #[]
noncomputable def o488(_:Params):Obj:=.mk (.type "function") none (.func (.mk (ofString "newlines") (ofString "StringIO.newlines") (fP (subAt 12 8)) (.stmts (fB (subAt 12 8))) (fS (subAt 12 32)) 3 [] .none .none .none (.str (ofString "io") 346) none (.ref 449) .none 0)) #[]
noncomputable def o489(_:Params):Obj:=.mk (.type "property") none (.fields #[(.ref 450), .none, .none, .none, (.str (ofString "newlines") 802), (.bool false)]) #[]
noncomputable def o490(_:Params):Obj:=.mk (.type "tuple") none (.seq #[] 0) #[]
noncomputable def o491(_:Params):Obj:=.mk .none none (.fields #[]) #[]
noncomputable def o492(_:Params):Obj:=.mk (.type "tuple") none (.seq #[(.str (ofString "self") 806)] 0) #[]
noncomputable def o493(_:Params):Obj:=.mk (.type "tuple") none (.seq #[] 0) #[]
noncomputable def o494(_:Params):Obj:=.mk .none none (.func (.mk (ofString "encoding") (ofString "StringIO.encoding") (fP (subAt 12 9)) (.stmts (fB (subAt 12 9))) (fS (subAt 12 32)) 0 [] .none .none .none .none none .none .none 0)) #[]
noncomputable def o495(_:Params):Obj:=.mk (.type "code") none (.fields #[(.str (ofString "encoding") 803), (.str (ofString "StringIO.encoding") 804), (.str (ofString "/claim/cut.py") 805), (.int 321 0), (.int 1 0), (.int 0 0), (.int 0 0), (.int 3 0), (.ref 452), (.bool true), (.int 273 0), (.ref 453), .none, (.ref 454), (.ref 455), (.ref 456), (.int 807 0), (.int 321 0), (.str (ofString "/claim/cut.py") 808)]) #[]
noncomputable def o496(_:Params):Obj:=.mk (.type "function") none (.func (.mk (ofString "encoding") (ofString "StringIO.encoding") (fP (subAt 12 9)) (.stmts (fB (subAt 12 9))) (fS (subAt 12 32)) 3 [] .none .none .none (.str (ofString "io") 346) none (.ref 457) .none 0)) #[]
noncomputable def o497(_:Params):Obj:=.mk (.type "property") none (.fields #[(.ref 458), .none, .none, .none, (.str (ofString "encoding") 810), (.bool false)]) #[]
noncomputable def o498(_:Params):Obj:=.mk (.type "tuple") none (.seq #[] 0) #[]
noncomputable def o499(_:Params):Obj:=.mk .none none (.fields #[]) #[]
noncomputable def o500(_:Params):Obj:=.mk (.type "tuple") none (.seq #[(.str (ofString "self") 814)] 0) #[]
noncomputable def o501(_:Params):Obj:=.mk (.type "tuple") none (.seq #[] 0) #[]
noncomputable def o502(_:Params):Obj:=.mk .none none (.func (.mk (ofString "errors") (ofString "StringIO.errors") (fP (subAt 12 10)) (.stmts (fB (subAt 12 10))) (fS (subAt 12 32)) 0 [] .none .none .none .none none .none .none 0)) #[]
noncomputable def o503(_:Params):Obj:=.mk (.type "code") none (.fields #[(.str (ofString "errors") 811), (.str (ofString "StringIO.errors") 812), (.str (ofString "/claim/cut.py") 813), (.int 325 0), (.int 1 0), (.int 0 0), (.int 0 0), (.int 3 0), (.ref 460), (.bool true), (.int 273 0), (.ref 461), .none, (.ref 462), (.ref 463), (.ref 464), (.int 815 0), (.int 325 0), (.str (ofString "/claim/cut.py") 816)]) #[]
noncomputable def o504(_:Params):Obj:=.mk (.type "function") none (.func (.mk (ofString "errors") (ofString "StringIO.errors") (fP (subAt 12 10)) (.stmts (fB (subAt 12 10))) (fS (subAt 12 32)) 3 [] .none .none .none (.str (ofString "io") 346) none (.ref 465) .none 0)) #[]
noncomputable def o505(_:Params):Obj:=.mk (.type "property") none (.fields #[(.ref 466), .none, .none, .none, (.str (ofString "errors") 818), (.bool false)]) #[]
noncomputable def o506(_:Params):Obj:=.mk (.type "tuple") none (.seq #[] 0) #[]
noncomputable def o507(_:Params):Obj:=.mk .none none (.fields #[]) #[]
noncomputable def o508(_:Params):Obj:=.mk (.type "tuple") none (.seq #[(.str (ofString "self") 822)] 0) #[]
noncomputable def o509(_:Params):Obj:=.mk (.type "tuple") none (.seq #[] 0) #[]
noncomputable def o510(_:Params):Obj:=.mk .none none (.func (.mk (ofString "close") (ofString "StringIO.close") (fP (subAt 12 11)) (.stmts (fB (subAt 12 11))) (fS (subAt 21 9)) 0 [] .none .none .none .none none .none .none 0)) #[]
noncomputable def o511(_:Params):Obj:=.mk (.type "code") none (.fields #[(.str (ofString "close") 819), (.str (ofString "StringIO.close") 820), (.str (ofString "/claim/cut.py") 821), (.int 329 0), (.int 1 0), (.int 0 0), (.int 0 0), (.int 3 0), (.ref 468), (.bool true), (.int 273 0), (.ref 469), .none, (.ref 470), (.ref 471), (.ref 472), (.int 823 0), (.int 329 0), (.str (ofString "/claim/cut.py") 824)]) #[]
noncomputable def o512(_:Params):Obj:=.mk (.type "function") none (.func (.mk (ofString "close") (ofString "StringIO.close") (fP (subAt 12 11)) (.stmts (fB (subAt 12 11))) (fS (subAt 21 9)) 3 [] .none .none .none (.str (ofString "io") 346) none (.ref 473) .none 0)) #[]
noncomputable def o513(_:Params):Obj:=.mk (.type "tuple") none (.seq #[] 0) #[]
noncomputable def o514(_:Params):Obj:=.mk .none none (.fields #[]) #[]
noncomputable def o515(_:Params):Obj:=.mk (.type "tuple") none (.seq #[(.str (ofString "self") 829)] 0) #[]
noncomputable def o516(_:Params):Obj:=.mk (.type "tuple") none (.seq #[] 0) #[]
noncomputable def o517(_:Params):Obj:=.mk .none none (.func (.mk (ofString "__enter__") (ofString "StringIO.__enter__") (fP (subAt 12 12)) (.stmts (fB (subAt 12 12))) (fS (subAt 21 9)) 0 [] .none .none .none .none none .none .none 0)) #[]
noncomputable def o518(_:Params):Obj:=.mk (.type "code") none (.fields #[(.str (ofString "__enter__") 826), (.str (ofString "StringIO.__enter__") 827), (.str (ofString "/claim/cut.py") 828), (.int 332 0), (.int 1 0), (.int 0 0), (.int 0 0), (.int 3 0), (.ref 475), (.bool true), (.int 273 0), (.ref 476), .none, (.ref 477), (.ref 478), (.ref 479), (.int 830 0), (.int 332 0), (.str (ofString "/claim/cut.py") 831)]) #[]
noncomputable def o519(_:Params):Obj:=.mk (.type "function") none (.func (.mk (ofString "__enter__") (ofString "StringIO.__enter__") (fP (subAt 12 12)) (.stmts (fB (subAt 12 12))) (fS (subAt 21 9)) 3 [] .none .none .none (.str (ofString "io") 346) none (.ref 480) .none 0)) #[]
noncomputable def o520(_:Params):Obj:=.mk (.type "tuple") none (.seq #[] 0) #[]
noncomputable def o521(_:Params):Obj:=.mk .none none (.fields #[]) #[]
noncomputable def o522(_:Params):Obj:=.mk (.type "tuple") none (.seq #[(.str (ofString "self") 836), (.str (ofString "args") 837)] 0) #[]
noncomputable def o523(_:Params):Obj:=.mk (.type "tuple") none (.seq #[] 0) #[]
noncomputable def o524(_:Params):Obj:=.mk .none none (.func (.mk (ofString "__exit__") (ofString "StringIO.__exit__") (fP (subAt 12 13)) (.stmts (fB (subAt 12 13))) (fS (subAt 12 13)) 0 [] .none .none .none .none none .none .none 0)) #[]
noncomputable def o525(_:Params):Obj:=.mk (.type "code") none (.fields #[(.str (ofString "__exit__") 833), (.str (ofString "StringIO.__exit__") 834), (.str (ofString "/claim/cut.py") 835), (.int 336 0), (.int 1 0), (.int 0 0), (.int 0 0), (.int 7 0), (.ref 482), (.bool true), (.int 273 0), (.ref 483), .none, (.ref 484), (.ref 485), (.ref 486), (.int 838 0), (.int 336 0), (.str (ofString "/claim/cut.py") 839)]) #[]
noncomputable def o526(_:Params):Obj:=.mk (.type "function") none (.func (.mk (ofString "__exit__") (ofString "StringIO.__exit__") (fP (subAt 12 13)) (.stmts (fB (subAt 12 13))) (fS (subAt 12 13)) 3 [] .none .none .none (.str (ofString "io") 346) none (.ref 487) .none 0)) #[]
noncomputable def o527(_:Params):Obj:=.mk (.type "tuple") none (.seq #[] 0) #[]
noncomputable def o528(_:Params):Obj:=.mk .none none (.fields #[]) #[]
noncomputable def o529(_:Params):Obj:=.mk (.type "tuple") none (.seq #[(.str (ofString "self") 844)] 0) #[]
noncomputable def o530(_:Params):Obj:=.mk (.type "tuple") none (.seq #[] 0) #[]
noncomputable def o531(_:Params):Obj:=.mk .none none (.func (.mk (ofString "readable") (ofString "StringIO.readable") (fP (subAt 12 14)) (.stmts (fB (subAt 12 14))) (fS (subAt 21 9)) 0 [] .none .none .none .none none .none .none 0)) #[]
noncomputable def o532(_:Params):Obj:=.mk (.type "code") none (.fields #[(.str (ofString "readable") 841), (.str (ofString "StringIO.readable") 842), (.str (ofString "/claim/cut.py") 843), (.int 339 0), (.int 1 0), (.int 0 0), (.int 0 0), (.int 3 0), (.ref 489), (.bool true), (.int 273 0), (.ref 490), .none, (.ref 491), (.ref 492), (.ref 493), (.int 845 0), (.int 339 0), (.str (ofString "/claim/cut.py") 846)]) #[]
noncomputable def o533(_:Params):Obj:=.mk (.type "function") none (.func (.mk (ofString "readable") (ofString "StringIO.readable") (fP (subAt 12 14)) (.stmts (fB (subAt 12 14))) (fS (subAt 21 9)) 3 [] .none .none .none (.str (ofString "io") 346) none (.ref 494) .none 0)) #[]
noncomputable def o534(_:Params):Obj:=.mk (.type "tuple") none (.seq #[] 0) #[]
noncomputable def o535(_:Params):Obj:=.mk .none none (.fields #[]) #[]
noncomputable def o536(_:Params):Obj:=.mk (.type "tuple") none (.seq #[(.str (ofString "self") 851)] 0) #[]
noncomputable def o537(_:Params):Obj:=.mk (.type "tuple") none (.seq #[] 0) #[]
noncomputable def o538(_:Params):Obj:=.mk .none none (.func (.mk (ofString "writable") (ofString "StringIO.writable") (fP (subAt 12 15)) (.stmts (fB (subAt 12 15))) (fS (subAt 21 9)) 0 [] .none .none .none .none none .none .none 0)) #[]
noncomputable def o539(_:Params):Obj:=.mk (.type "code") none (.fields #[(.str (ofString "writable") 848), (.str (ofString "StringIO.writable") 849), (.str (ofString "/claim/cut.py") 850), (.int 343 0), (.int 1 0), (.int 0 0), (.int 0 0), (.int 3 0), (.ref 496), (.bool true), (.int 273 0), (.ref 497), .none, (.ref 498), (.ref 499), (.ref 500), (.int 852 0), (.int 343 0), (.str (ofString "/claim/cut.py") 853)]) #[]
noncomputable def o540(_:Params):Obj:=.mk (.type "function") none (.func (.mk (ofString "writable") (ofString "StringIO.writable") (fP (subAt 12 15)) (.stmts (fB (subAt 12 15))) (fS (subAt 21 9)) 3 [] .none .none .none (.str (ofString "io") 346) none (.ref 501) .none 0)) #[]
noncomputable def o541(_:Params):Obj:=.mk (.type "tuple") none (.seq #[] 0) #[]
noncomputable def o542(_:Params):Obj:=.mk .none none (.fields #[]) #[]
noncomputable def o543(_:Params):Obj:=.mk (.type "tuple") none (.seq #[(.str (ofString "self") 858)] 0) #[]
noncomputable def o544(_:Params):Obj:=.mk (.type "tuple") none (.seq #[] 0) #[]
noncomputable def o545(_:Params):Obj:=.mk .none none (.func (.mk (ofString "seekable") (ofString "StringIO.seekable") (fP (subAt 12 16)) (.stmts (fB (subAt 12 16))) (fS (subAt 21 9)) 0 [] .none .none .none .none none .none .none 0)) #[]
noncomputable def o546(_:Params):Obj:=.mk (.type "code") none (.fields #[(.str (ofString "seekable") 855), (.str (ofString "StringIO.seekable") 856), (.str (ofString "/claim/cut.py") 857), (.int 347 0), (.int 1 0), (.int 0 0), (.int 0 0), (.int 3 0), (.ref 503), (.bool true), (.int 273 0), (.ref 504), .none, (.ref 505), (.ref 506), (.ref 507), (.int 859 0), (.int 347 0), (.str (ofString "/claim/cut.py") 860)]) #[]
noncomputable def o547(_:Params):Obj:=.mk (.type "function") none (.func (.mk (ofString "seekable") (ofString "StringIO.seekable") (fP (subAt 12 16)) (.stmts (fB (subAt 12 16))) (fS (subAt 21 9)) 3 [] .none .none .none (.str (ofString "io") 346) none (.ref 508) .none 0)) #[]
noncomputable def o548(_:Params):Obj:=.mk (.type "tuple") none (.seq #[] 0) #[]
noncomputable def o549(_:Params):Obj:=.mk .none none (.fields #[]) #[]
noncomputable def o550(_:Params):Obj:=.mk (.type "tuple") none (.seq #[(.str (ofString "self") 865)] 0) #[]
noncomputable def o551(_:Params):Obj:=.mk (.type "tuple") none (.seq #[] 0) #[]
noncomputable def o552(_:Params):Obj:=.mk .none none (.func (.mk (ofString "isatty") (ofString "StringIO.isatty") (fP (subAt 12 17)) (.stmts (fB (subAt 12 17))) (fS (subAt 21 9)) 0 [] .none .none .none .none none .none .none 0)) #[]
noncomputable def o553(_:Params):Obj:=.mk (.type "code") none (.fields #[(.str (ofString "isatty") 862), (.str (ofString "StringIO.isatty") 863), (.str (ofString "/claim/cut.py") 864), (.int 351 0), (.int 1 0), (.int 0 0), (.int 0 0), (.int 3 0), (.ref 510), (.bool true), (.int 273 0), (.ref 511), .none, (.ref 512), (.ref 513), (.ref 514), (.int 866 0), (.int 351 0), (.str (ofString "/claim/cut.py") 867)]) #[]
noncomputable def o554(_:Params):Obj:=.mk (.type "function") none (.func (.mk (ofString "isatty") (ofString "StringIO.isatty") (fP (subAt 12 17)) (.stmts (fB (subAt 12 17))) (fS (subAt 21 9)) 3 [] .none .none .none (.str (ofString "io") 346) none (.ref 515) .none 0)) #[]
noncomputable def o555(_:Params):Obj:=.mk (.type "tuple") none (.seq #[] 0) #[]
noncomputable def o556(_:Params):Obj:=.mk .none none (.fields #[]) #[]
noncomputable def o557(_:Params):Obj:=.mk (.type "tuple") none (.seq #[(.str (ofString "self") 872)] 0) #[]
noncomputable def o558(_:Params):Obj:=.mk (.type "tuple") none (.seq #[] 0) #[]
noncomputable def o559(_:Params):Obj:=.mk .none none (.func (.mk (ofString "flush") (ofString "StringIO.flush") (fP (subAt 12 18)) (.stmts (fB (subAt 12 18))) (fS (subAt 21 9)) 0 [] .none .none .none .none none .none .none 0)) #[]
noncomputable def o560(_:Params):Obj:=.mk (.type "code") none (.fields #[(.str (ofString "flush") 869), (.str (ofString "StringIO.flush") 870), (.str (ofString "/claim/cut.py") 871), (.int 355 0), (.int 1 0), (.int 0 0), (.int 0 0), (.int 3 0), (.ref 517), (.bool true), (.int 273 0), (.ref 518), .none, (.ref 519), (.ref 520), (.ref 521), (.int 873 0), (.int 355 0), (.str (ofString "/claim/cut.py") 874)]) #[]
noncomputable def o561(_:Params):Obj:=.mk (.type "function") none (.func (.mk (ofString "flush") (ofString "StringIO.flush") (fP (subAt 12 18)) (.stmts (fB (subAt 12 18))) (fS (subAt 21 9)) 3 [] .none .none .none (.str (ofString "io") 346) none (.ref 522) .none 0)) #[]
noncomputable def o562(_:Params):Obj:=.mk (.type "tuple") none (.seq #[] 0) #[]
noncomputable def o563(_:Params):Obj:=.mk .none none (.fields #[]) #[]
noncomputable def o564(_:Params):Obj:=.mk (.type "tuple") none (.seq #[(.str (ofString "self") 879)] 0) #[]
noncomputable def o565(_:Params):Obj:=.mk (.type "tuple") none (.seq #[] 0) #[]
noncomputable def o566(_:Params):Obj:=.mk .none none (.func (.mk (ofString "fileno") (ofString "StringIO.fileno") (fP (subAt 12 19)) (.stmts (fB (subAt 12 19))) (fS (subAt 12 19)) 0 [] .none .none .none .none none .none .none 0)) #[]
noncomputable def o567(_:Params):Obj:=.mk (.type "code") none (.fields #[(.str (ofString "fileno") 876), (.str (ofString "StringIO.fileno") 877), (.str (ofString "/claim/cut.py") 878), (.int 358 0), (.int 1 0), (.int 0 0), (.int 0 0), (.int 3 0), (.ref 524), (.bool true), (.int 273 0), (.ref 525), .none, (.ref 526), (.ref 527), (.ref 528), (.int 880 0), (.int 358 0), (.str (ofString "/claim/cut.py") 881)]) #[]
noncomputable def o568(_:Params):Obj:=.mk (.type "function") none (.func (.mk (ofString "fileno") (ofString "StringIO.fileno") (fP (subAt 12 19)) (.stmts (fB (subAt 12 19))) (fS (subAt 12 19)) 3 [] .none .none .none (.str (ofString "io") 346) none (.ref 529) .none 0)) #[]
noncomputable def o569(_:Params):Obj:=.mk (.type "tuple") none (.seq #[] 0) #[]
noncomputable def o570(_:Params):Obj:=.mk .none none (.fields #[]) #[]
noncomputable def o571(_:Params):Obj:=.mk (.type "tuple") none (.seq #[(.str (ofString "self") 886)] 0) #[]
noncomputable def o572(_:Params):Obj:=.mk (.type "tuple") none (.seq #[] 0) #[]
noncomputable def o573(_:Params):Obj:=.mk .none none (.func (.mk (ofString "detach") (ofString "StringIO.detach") (fP (subAt 12 20)) (.stmts (fB (subAt 12 20))) (fS (subAt 12 32)) 0 [] .none .none .none .none none .none .none 0)) #[]
noncomputable def o574(_:Params):Obj:=.mk (.type "code") none (.fields #[(.str (ofString "detach") 883), (.str (ofString "StringIO.detach") 884), (.str (ofString "/claim/cut.py") 885), (.int 361 0), (.int 1 0), (.int 0 0), (.int 0 0), (.int 3 0), (.ref 531), (.bool true), (.int 273 0), (.ref 532), .none, (.ref 533), (.ref 534), (.ref 535), (.int 887 0), (.int 361 0), (.str (ofString "/claim/cut.py") 888)]) #[]
noncomputable def o575(_:Params):Obj:=.mk (.type "function") none (.func (.mk (ofString "detach") (ofString "StringIO.detach") (fP (subAt 12 20)) (.stmts (fB (subAt 12 20))) (fS (subAt 12 32)) 3 [] .none .none .none (.str (ofString "io") 346) none (.ref 536) .none 0)) #[]
noncomputable def o576(_:Params):Obj:=.mk (.type "tuple") none (.seq #[] 0) #[]
noncomputable def o577(_:Params):Obj:=.mk .none none (.fields #[]) #[]
noncomputable def o578(_:Params):Obj:=.mk (.type "tuple") none (.seq #[(.str (ofString "self") 893)] 0) #[]
noncomputable def o579(_:Params):Obj:=.mk (.type "tuple") none (.seq #[] 0) #[]
noncomputable def o580(_:Params):Obj:=.mk .none none (.func (.mk (ofString "getvalue") (ofString "StringIO.getvalue") (fP (subAt 12 21)) (.stmts (fB (subAt 12 21))) (fS (subAt 12 32)) 0 [] .none .none .none .none none .none .none 0)) #[]
noncomputable def o581(_:Params):Obj:=.mk (.type "code") none (.fields #[(.str (ofString "getvalue") 890), (.str (ofString "StringIO.getvalue") 891), (.str (ofString "/claim/cut.py") 892), (.int 364 0), (.int 1 0), (.int 0 0), (.int 0 0), (.int 3 0), (.ref 538), (.bool true), (.int 273 0), (.ref 539), .none, (.ref 540), (.ref 541), (.ref 542), (.int 894 0), (.int 364 0), (.str (ofString "/claim/cut.py") 895)]) #[]
noncomputable def o582(_:Params):Obj:=.mk (.type "function") none (.func (.mk (ofString "getvalue") (ofString "StringIO.getvalue") (fP (subAt 12 21)) (.stmts (fB (subAt 12 21))) (fS (subAt 12 32)) 3 [] .none .none .none (.str (ofString "io") 346) none (.ref 543) .none 0)) #[]
noncomputable def o583(_:Params):Obj:=.mk (.type "tuple") none (.seq #[] 0) #[]
noncomputable def o584(_:Params):Obj:=.mk .none none (.fields #[]) #[]
noncomputable def o585(_:Params):Obj:=.mk (.type "tuple") none (.seq #[(.str (ofString "self") 900)] 0) #[]
noncomputable def o586(_:Params):Obj:=.mk (.type "tuple") none (.seq #[] 0) #[]
noncomputable def o587(_:Params):Obj:=.mk .none none (.func (.mk (ofString "tell") (ofString "StringIO.tell") (fP (subAt 12 22)) (.stmts (fB (subAt 12 22))) (fS (subAt 21 9)) 0 [] .none .none .none .none none .none .none 0)) #[]
noncomputable def o588(_:Params):Obj:=.mk (.type "code") none (.fields #[(.str (ofString "tell") 897), (.str (ofString "StringIO.tell") 898), (.str (ofString "/claim/cut.py") 899), (.int 367 0), (.int 1 0), (.int 0 0), (.int 0 0), (.int 3 0), (.ref 545), (.bool true), (.int 273 0), (.ref 546), .none, (.ref 547), (.ref 548), (.ref 549), (.int 901 0), (.int 367 0), (.str (ofString "/claim/cut.py") 902)]) #[]
noncomputable def o589(_:Params):Obj:=.mk (.type "function") none (.func (.mk (ofString "tell") (ofString "StringIO.tell") (fP (subAt 12 22)) (.stmts (fB (subAt 12 22))) (fS (subAt 21 9)) 3 [] .none .none .none (.str (ofString "io") 346) none (.ref 550) .none 0)) #[]
noncomputable def o590(_:Params):Obj:=.mk (.type "tuple") none (.seq #[(.int 0 904)] 0) #[]
noncomputable def o591(_:Params):Obj:=.mk (.type "tuple") none (.seq #[] 0) #[]
noncomputable def o592(_:Params):Obj:=.mk .none none (.fields #[]) #[]
noncomputable def o593(_:Params):Obj:=.mk (.type "tuple") none (.seq #[(.str (ofString "self") 908), (.str (ofString "pos") 909), (.str (ofString "whence") 910)] 0) #[]
noncomputable def o594(_:Params):Obj:=.mk (.type "tuple") none (.seq #[] 0) #[]
noncomputable def o595(_:Params):Obj:=.mk .none none (.func (.mk (ofString "seek") (ofString "StringIO.seek") (fP (subAt 12 23)) (.stmts (fB (subAt 12 23))) (fS (subAt 12 23)) 0 [] .none .none .none .none none .none .none 0)) #[]
noncomputable def o596(_:Params):Obj:=.mk (.type "code") none (.fields #[(.str (ofString "seek") 905), (.str (ofString "StringIO.seek") 906), (.str (ofString "/claim/cut.py") 907), (.int 371 0), (.int 3 0), (.int 3 0), (.int 0 0), (.int 3 0), (.ref 553), (.bool true), (.int 273 0), (.ref 554), .none, (.ref 555), (.ref 556), (.ref 557), (.int 911 0), (.int 371 0), (.str (ofString "/claim/cut.py") 912)]) #[]
noncomputable def o597(_:Params):Obj:=.mk (.type "function") none (.func (.mk (ofString "seek") (ofString "StringIO.seek") (fP (subAt 12 23)) (.stmts (fB (subAt 12 23))) (fS (subAt 12 23)) 3 [] (.ref 552) .none .none (.str (ofString "io") 346) none (.ref 558) .none 0)) #[]
noncomputable def o598(_:Params):Obj:=.mk (.type "tuple") none (.seq #[.none] 0) #[]
noncomputable def o599(_:Params):Obj:=.mk (.type "tuple") none (.seq #[] 0) #[]
noncomputable def o600(_:Params):Obj:=.mk .none none (.fields #[]) #[]
noncomputable def o601(_:Params):Obj:=.mk (.type "tuple") none (.seq #[(.str (ofString "self") 917), (.str (ofString "pos") 918)] 0) #[]
noncomputable def o602(_:Params):Obj:=.mk (.type "tuple") none (.seq #[] 0) #[]
noncomputable def o603(_:Params):Obj:=.mk .none none (.func (.mk (ofString "truncate") (ofString "StringIO.truncate") (fP (subAt 12 24)) (.stmts (fB (subAt 12 24))) (fS (subAt 12 24)) 0 [] .none .none .none .none none .none .none 0)) #[]
noncomputable def o604(_:Params):Obj:=.mk (.type "code") none (.fields #[(.str (ofString "truncate") 914), (.str (ofString "StringIO.truncate") 915), (.str (ofString "/claim/cut.py") 916), (.int 388 0), (.int 2 0), (.int 2 0), (.int 0 0), (.int 3 0), (.ref 561), (.bool true), (.int 273 0), (.ref 562), .none, (.ref 563), (.ref 564), (.ref 565), (.int 919 0), (.int 388 0), (.str (ofString "/claim/cut.py") 920)]) #[]
noncomputable def o605(_:Params):Obj:=.mk (.type "function") none (.func (.mk (ofString "truncate") (ofString "StringIO.truncate") (fP (subAt 12 24)) (.stmts (fB (subAt 12 24))) (fS (subAt 12 24)) 3 [] (.ref 560) .none .none (.str (ofString "io") 346) none (.ref 566) .none 0)) #[]
noncomputable def o606(_:Params):Obj:=.mk (.type "tuple") none (.seq #[(.int (-1) 923)] 0) #[]
noncomputable def o607(_:Params):Obj:=.mk (.type "tuple") none (.seq #[] 0) #[]
noncomputable def o608(_:Params):Obj:=.mk .none none (.fields #[]) #[]
noncomputable def o609(_:Params):Obj:=.mk (.type "tuple") none (.seq #[(.str (ofString "self") 927), (.str (ofString "size") 928), (.str (ofString "start") 929), (.str (ofString "stop") 930)] 0) #[]
noncomputable def o610(_:Params):Obj:=.mk (.type "tuple") none (.seq #[] 0) #[]
noncomputable def o611(_:Params):Obj:=.mk .none none (.func (.mk (ofString "read") (ofString "StringIO.read") (fP (subAt 12 25)) (.stmts (fB (subAt 12 25))) (fS (subAt 12 25)) 0 [] .none .none .none .none none .none .none 0)) #[]
noncomputable def o612(_:Params):Obj:=.mk (.type "code") none (.fields #[(.str (ofString "read") 924), (.str (ofString "StringIO.read") 925), (.str (ofString "/claim/cut.py") 926), (.int 391 0), (.int 2 0), (.int 2 0), (.int 0 0), (.int 3 0), (.ref 569), (.bool true), (.int 273 0), (.ref 570), .none, (.ref 571), (.ref 572), (.ref 573), (.int 931 0), (.int 391 0), (.str (ofString "/claim/cut.py") 932)]) #[]
noncomputable def o613(_:Params):Obj:=.mk (.type "function") none (.func (.mk (ofString "read") (ofString "StringIO.read") (fP (subAt 12 25)) (.stmts (fB (subAt 12 25))) (fS (subAt 12 25)) 3 [] (.ref 568) .none .none (.str (ofString "io") 346) none (.ref 574) .none 0)) #[]
noncomputable def o614(_:Params):Obj:=.mk (.type "tuple") none (.seq #[(.int (-1) 935)] 0) #[]
noncomputable def o615(_:Params):Obj:=.mk (.type "tuple") none (.seq #[] 0) #[]
noncomputable def o616(_:Params):Obj:=.mk .none none (.fields #[]) #[]
noncomputable def o617(_:Params):Obj:=.mk (.type "tuple") none (.seq #[(.str (ofString "self") 939), (.str (ofString "size") 940)] 0) #[]
noncomputable def o618(_:Params):Obj:=.mk (.type "tuple") none (.seq #[] 0) #[]
noncomputable def o619(_:Params):Obj:=.mk .none none (.func (.mk (ofString "readline") (ofString "StringIO.readline") (fP (subAt 12 26)) (.stmts (fB (subAt 12 26))) (fS (subAt 12 26)) 0 [] .none .none .none .none none .none .none 0)) #[]
noncomputable def o620(_:Params):Obj:=.mk (.type "code") none (.fields #[(.str (ofString "readline") 936), (.str (ofString "StringIO.readline") 937), (.str (ofString "/claim/cut.py") 938), (.int 405 0), (.int 2 0), (.int 2 0), (.int 0 0), (.int 3 0), (.ref 577), (.bool true), (.int 273 0), (.ref 578), .none, (.ref 579), (.ref 580), (.ref 581), (.int 941 0), (.int 405 0), (.str (ofString "/claim/cut.py") 942)]) #[]
noncomputable def o621(_:Params):Obj:=.mk (.type "function") none (.func (.mk (ofString "readline") (ofString "StringIO.readline") (fP (subAt 12 26)) (.stmts (fB (subAt 12 26))) (fS (subAt 12 26)) 3 [] (.ref 576) .none .none (.str (ofString "io") 346) none (.ref 582) .none 0)) #[]
noncomputable def o622(_:Params):Obj:=.mk (.type "tuple") none (.seq #[(.int (-1) 945)] 0) #[]
noncomputable def o623(_:Params):Obj:=.mk (.type "tuple") none (.seq #[] 0) #[]
noncomputable def o624(_:Params):Obj:=.mk .none none (.fields #[]) #[]
noncomputable def o625(_:Params):Obj:=.mk (.type "tuple") none (.seq #[(.str (ofString "self") 949), (.str (ofString "hint") 950)] 0) #[]
noncomputable def o626(_:Params):Obj:=.mk (.type "tuple") none (.seq #[] 0) #[]
noncomputable def o627(_:Params):Obj:=.mk .none none (.func (.mk (ofString "readlines") (ofString "StringIO.readlines") (fP (subAt 12 27)) (.stmts (fB (subAt 12 27))) (fS (subAt 12 27)) 0 [] .none .none .none .none none .none .none 0)) #[]
noncomputable def o628(_:Params):Obj:=.mk (.type "code") none (.fields #[(.str (ofString "readlines") 946), (.str (ofString "StringIO.readlines") 947), (.str (ofString "/claim/cut.py") 948), (.int 412 0), (.int 2 0), (.int 2 0), (.int 0 0), (.int 3 0), (.ref 585), (.bool true), (.int 273 0), (.ref 586), .none, (.ref 587), (.ref 588), (.ref 589), (.int 951 0), (.int 412 0), (.str (ofString "/claim/cut.py") 952)]) #[]
noncomputable def o629(_:Params):Obj:=.mk (.type "function") none (.func (.mk (ofString "readlines") (ofString "StringIO.readlines") (fP (subAt 12 27)) (.stmts (fB (subAt 12 27))) (fS (subAt 12 27)) 3 [] (.ref 584) .none .none (.str (ofString "io") 346) none (.ref 590) .none 0)) #[]
noncomputable def o630(_:Params):Obj:=.mk (.type "tuple") none (.seq #[] 0) #[]
noncomputable def o631(_:Params):Obj:=.mk .none none (.fields #[]) #[]
noncomputable def o632(_:Params):Obj:=.mk (.type "tuple") none (.seq #[(.str (ofString "self") 957)] 0) #[]
noncomputable def o633(_:Params):Obj:=.mk (.type "tuple") none (.seq #[] 0) #[]
noncomputable def o634(_:Params):Obj:=.mk .none none (.func (.mk (ofString "__iter__") (ofString "StringIO.__iter__") (fP (subAt 12 28)) (.stmts (fB (subAt 12 28))) (fS (subAt 21 9)) 0 [] .none .none .none .none none .none .none 0)) #[]
noncomputable def o635(_:Params):Obj:=.mk (.type "code") none (.fields #[(.str (ofString "__iter__") 954), (.str (ofString "StringIO.__iter__") 955), (.str (ofString "/claim/cut.py") 956), (.int 415 0), (.int 1 0), (.int 0 0), (.int 0 0), (.int 3 0), (.ref 592), (.bool true), (.int 273 0), (.ref 593), .none, (.ref 594), (.ref 595), (.ref 596), (.int 958 0), (.int 415 0), (.str (ofString "/claim/cut.py") 959)]) #[]
noncomputable def o636(_:Params):Obj:=.mk (.type "function") none (.func (.mk (ofString "__iter__") (ofString "StringIO.__iter__") (fP (subAt 12 28)) (.stmts (fB (subAt 12 28))) (fS (subAt 21 9)) 3 [] .none .none .none (.str (ofString "io") 346) none (.ref 597) .none 0)) #[]
noncomputable def o637(_:Params):Obj:=.mk (.type "tuple") none (.seq #[] 0) #[]
noncomputable def o638(_:Params):Obj:=.mk .none none (.fields #[]) #[]
noncomputable def o639(_:Params):Obj:=.mk (.type "tuple") none (.seq #[(.str (ofString "self") 964), (.str (ofString "line") 965)] 0) #[]
noncomputable def o640(_:Params):Obj:=.mk (.type "tuple") none (.seq #[] 0) #[]
noncomputable def o641(_:Params):Obj:=.mk .none none (.func (.mk (ofString "__next__") (ofString "StringIO.__next__") (fP (subAt 12 29)) (.stmts (fB (subAt 12 29))) (fS (subAt 12 29)) 0 [] .none .none .none .none none .none .none 0)) #[]
noncomputable def o642(_:Params):Obj:=.mk (.type "code") none (.fields #[(.str (ofString "__next__") 961), (.str (ofString "StringIO.__next__") 962), (.str (ofString "/claim/cut.py") 963), (.int 419 0), (.int 1 0), (.int 0 0), (.int 0 0), (.int 3 0), (.ref 599), (.bool true), (.int 273 0), (.ref 600), .none, (.ref 601), (.ref 602), (.ref 603), (.int 966 0), (.int 419 0), (.str (ofString "/claim/cut.py") 967)]) #[]
noncomputable def o643(_:Params):Obj:=.mk (.type "function") none (.func (.mk (ofString "__next__") (ofString "StringIO.__next__") (fP (subAt 12 29)) (.stmts (fB (subAt 12 29))) (fS (subAt 12 29)) 3 [] .none .none .none (.str (ofString "io") 346) none (.ref 604) .none 0)) #[]
noncomputable def o644(_:Params):Obj:=.mk (.type "tuple") none (.seq #[] 0) #[]
noncomputable def o645(_:Params):Obj:=.mk .none none (.fields #[]) #[]
noncomputable def o646(_:Params):Obj:=.mk (.type "tuple") none (.seq #[(.str (ofString "self") 972), (.str (ofString "s") 973), (.str (ofString "n") 974), (.str (ofString "m") 975), (.str (ofString "start") 976), (.str (ofString "buf") 977)] 0) #[]
noncomputable def o647(_:Params):Obj:=.mk (.type "tuple") none (.seq #[] 0) #[]
noncomputable def o648(_:Params):Obj:=.mk .none none (.func (.mk (ofString "write") (ofString "StringIO.write") (fP (subAt 12 30)) (.stmts (fB (subAt 12 30))) (fS (subAt 12 30)) 0 [] .none .none .none .none none .none .none 0)) #[]
noncomputable def o649(_:Params):Obj:=.mk (.type "code") none (.fields #[(.str (ofString "write") 969), (.str (ofString "StringIO.write") 970), (.str (ofString "/claim/cut.py") 971), (.int 426 0), (.int 2 0), (.int 2 0), (.int 0 0), (.int 3 0), (.ref 606), (.bool true), (.int 273 0), (.ref 607), .none, (.ref 608), (.ref 609), (.ref 610), (.int 978 0), (.int 426 0), (.str (ofString "/claim/cut.py") 979)]) #[]
noncomputable def o650(_:Params):Obj:=.mk (.type "function") none (.func (.mk (ofString "write") (ofString "StringIO.write") (fP (subAt 12 30)) (.stmts (fB (subAt 12 30))) (fS (subAt 12 30)) 3 [] .none .none .none (.str (ofString "io") 346) none (.ref 611) .none 0)) #[]
noncomputable def o651(_:Params):Obj:=.mk (.type "tuple") none (.seq #[] 0) #[]
noncomputable def o652(_:Params):Obj:=.mk .none none (.fields #[]) #[]
noncomputable def o653(_:Params):Obj:=.mk (.type "tuple") none (.seq #[(.str (ofString "self") 984), (.str (ofString "lines") 985)] 0) #[]
noncomputable def o654(_:Params):Obj:=.mk (.type "tuple") none (.seq #[] 0) #[]
noncomputable def o655(_:Params):Obj:=.mk .none none (.func (.mk (ofString "writelines") (ofString "StringIO.writelines") (fP (subAt 12 31)) (.stmts (fB (subAt 12 31))) (fS (subAt 12 31)) 0 [] .none .none .none .none none .none .none 0)) #[]
noncomputable def o656(_:Params):Obj:=.mk (.type "code") none (.fields #[(.str (ofString "writelines") 981), (.str (ofString "StringIO.writelines") 982), (.str (ofString "/claim/cut.py") 983), (.int 445 0), (.int 2 0), (.int 2 0), (.int 0 0), (.int 3 0), (.ref 613), (.bool true), (.int 273 0), (.ref 614), .none, (.ref 615), (.ref 616), (.ref 617), (.int 986 0), (.int 445 0), (.str (ofString "/claim/cut.py") 987)]) #[]
noncomputable def o657(_:Params):Obj:=.mk (.type "function") none (.func (.mk (ofString "writelines") (ofString "StringIO.writelines") (fP (subAt 12 31)) (.stmts (fB (subAt 12 31))) (fS (subAt 12 31)) 3 [] .none .none .none (.str (ofString "io") 346) none (.ref 618) .none 0)) #[]
noncomputable def o658(_:Params):Obj:=.mk (.type "tuple") none (.seq #[] 0) #[]
noncomputable def o659(_:Params):Obj:=.mk .none none (.fields #[]) #[]
noncomputable def o660(_:Params):Obj:=.mk (.type "tuple") none (.seq #[(.str (ofString "self") 992)] 0) #[]
noncomputable def o661(_:Params):Obj:=.mk (.type "tuple") none (.seq #[] 0) #[]
noncomputable def o662(_:Params):Obj:=.mk .none none (.func (.mk (ofString "__repr__") (ofString "StringIO.__repr__") (fP (subAt 12 32)) (.stmts (fB (subAt 12 32))) (fS (subAt 12 32)) 0 [] .none .none .none .none none .none .none 0)) #[]
noncomputable def o663(_:Params):Obj:=.mk (.type "code") none (.fields #[(.str (ofString "__repr__") 989), (.str (ofString "StringIO.__repr__") 990), (.str (ofString "/claim/cut.py") 991), (.int 448 0), (.int 1 0), (.int 0 0), (.int 0 0), (.int 3 0), (.ref 620), (.bool true), (.int 273 0), (.ref 621), .none, (.ref 622), (.ref 623), (.ref 624), (.int 993 0), (.int 448 0), (.str (ofString "/claim/cut.py") 994)]) #[]
noncomputable def o664(_:Params):Obj:=.mk (.type "function") none (.func (.mk (ofString "__repr__") (ofString "StringIO.__repr__") (fP (subAt 12 32)) (.stmts (fB (subAt 12 32))) (fS (subAt 12 32)) 3 [] .none .none .none (.str (ofString "io") 346) none (.ref 625) .none 0)) #[]
noncomputable def o665(_:Params):Obj:=.mk (.type "tuple") none (.seq #[(.str (ofString "__buf") 996), (.str (ofString "__newline") 997), (.str (ofString "__pos") 998)] 0) #[]
noncomputable def o666(P:Params):Obj:=.mk (.type "dict") none (.dict #[(.mk (keyHash P (ofString "__module__")) (.str (ofString "__module__") 723) (.str (ofString "_io") 728)), (.mk (keyHash P (ofString "__firstlineno__")) (.str (ofString "__firstlineno__") 727) (.int 245 726)), (.mk (keyHash P (ofString "__init__")) (.str (ofString "__init__") 740) (.ref 399)), (.mk (keyHash P (ofString "_StringIO__translated")) (.str (ofString "_StringIO__translated") 749) (.ref 406)), (.mk (keyHash P (ofString "_StringIO__check")) (.str (ofString "_StringIO__check") 756) (.ref 413)), (.mk (keyHash P (ofString "_StringIO__check_dot")) (.str (ofString "_StringIO__check_dot") 763) (.ref 420)), (.mk (keyHash P (ofString "_StringIO__line")) (.str (ofString "_StringIO__line") 778) (.ref 427)), (.mk (keyHash P (ofString "closed")) (.str (ofString "closed") 786) (.ref 435)), (.mk (keyHash P (ofString "line_buffering")) (.str (ofString "line_buffering") 794) (.ref 443)), (.mk (keyHash P (ofString "newlines")) (.str (ofString "newlines") 802) (.ref 451)), (.mk (keyHash P (ofString "encoding")) (.str (ofString "encoding") 810) (.ref 459)), (.mk (keyHash P (ofString "errors")) (.str (ofString "errors") 818) (.ref 467)), (.mk (keyHash P (ofString "close")) (.str (ofString "close") 825) (.ref 474)), (.mk (keyHash P (ofString "__enter__")) (.str (ofString "__enter__") 832) (.ref 481)), (.mk (keyHash P (ofString "__exit__")) (.str (ofString "__exit__") 840) (.ref 488)), (.mk (keyHash P (ofString "readable")) (.str (ofString "readable") 847) (.ref 495)), (.mk (keyHash P (ofString "writable")) (.str (ofString "writable") 854) (.ref 502)), (.mk (keyHash P (ofString "seekable")) (.str (ofString "seekable") 861) (.ref 509)), (.mk (keyHash P (ofString "isatty")) (.str (ofString "isatty") 868) (.ref 516)), (.mk (keyHash P (ofString "flush")) (.str (ofString "flush") 875) (.ref 523)), (.mk (keyHash P (ofString "fileno")) (.str (ofString "fileno") 882) (.ref 530)), (.mk (keyHash P (ofString "detach")) (.str (ofString "detach") 889) (.ref 537)), (.mk (keyHash P (ofString "getvalue")) (.str (ofString "getvalue") 896) (.ref 544)), (.mk (keyHash P (ofString "tell")) (.str (ofString "tell") 903) (.ref 551)), (.mk (keyHash P (ofString "seek")) (.str (ofString "seek") 913) (.ref 559)), (.mk (keyHash P (ofString "truncate")) (.str (ofString "truncate") 921) (.ref 567)), (.mk (keyHash P (ofString "read")) (.str (ofString "read") 933) (.ref 575)), (.mk (keyHash P (ofString "readline")) (.str (ofString "readline") 943) (.ref 583)), (.mk (keyHash P (ofString "readlines")) (.str (ofString "readlines") 953) (.ref 591)), (.mk (keyHash P (ofString "__iter__")) (.str (ofString "__iter__") 960) (.ref 598)), (.mk (keyHash P (ofString "__next__")) (.str (ofString "__next__") 968) (.ref 605)), (.mk (keyHash P (ofString "write")) (.str (ofString "write") 980) (.ref 612)), (.mk (keyHash P (ofString "writelines")) (.str (ofString "writelines") 988) (.ref 619)), (.mk (keyHash P (ofString "__repr__")) (.str (ofString "__repr__") 995) (.ref 626)), (.mk (keyHash P (ofString "__static_attributes__")) (.str (ofString "__static_attributes__") 999) (.ref 627)), (.mk (keyHash P (ofString "__doc__")) (.str (ofString "__doc__") 1000) .none)] 2) #[]
noncomputable def o667(_:Params):Obj:=.mk (.type "type") none (Data.cls (ClassData.mk (ofString "StringIO") [(.ref 152)] [(.ref 629), (.ref 152), (.ref 125), (.type "object")] 628 (ofString "StringIO") true [] [] false none false)) #[(some (.ref 385)), none, (some (.str (ofString "StringIO") 716)), (some (.str (ofString "StringIO") 724)), (some .none), (some (.bool true))]
noncomputable def o668(_:Params):Obj:=.mk (.type "super") none (.fields #[(.ref 629), (.ref 629), (.ref 629)]) #[]
noncomputable def o669(_:Params):Obj:=.mk (.type "builtin_function_or_method") none (.fields #[(.builtin "object.__init_subclass__"), (.ref 629)]) #[]
noncomputable def T4 (P : Params) : BT := (.node (o29 P) (.node (o30 P) (.node (o420 P) (.node (o35 P) (.node (o42 P) (.node (o57 P) (.node (o92 P) (.node (o156 P) (.node (o290 P) (.node (o549 P) .nil .nil) .nil) (.node (o418 P) .nil .nil)) (.node (o226 P) (.node (o354 P) (.node (o613 P) .nil .nil) .nil) (.node (o485 P) .nil .nil))) (.node (o124 P) (.node (o194 P) (.node (o322 P) (.node (o581 P) .nil .nil) .nil) (.node (o453 P) .nil .nil)) (.node (o258 P) (.node (o386 P) (.node (o645 P) .nil .nil) .nil) (.node (o517 P) .nil .nil)))) (.node (o76 P) (.node (o108 P) (.node (o175 P) (.node (o306 P) (.node (o565 P) .nil .nil) .nil) (.node (o437 P) .nil .nil)) (.node (o242 P) (.node (o370 P) (.node (o629 P) .nil .nil) .nil) (.node (o501 P) .nil .nil))) (.node (o140 P) (.node (o210 P) (.node (o338 P) (.node (o597 P) .nil .nil) .nil) (.node (o469 P) .nil .nil)) (.node (o274 P) (.node (o402 P) (.node (o661 P) .nil .nil) .nil) (.node (o533 P) .nil .nil))))) (.node (o49 P) (.node (o68 P) (.node (o100 P) (.node (o164 P) (.node (o298 P) (.node (o557 P) .nil .nil) .nil) (.node (o429 P) .nil .nil)) (.node (o234 P) (.node (o362 P) (.node (o621 P) .nil .nil) .nil) (.node (o493 P) .nil .nil))) (.node (o132 P) (.node (o202 P) (.node (o330 P) (.node (o589 P) .nil .nil) .nil) (.node (o461 P) .nil .nil)) (.node (o266 P) (.node (o394 P) (.node (o653 P) .nil .nil) .nil) (.node (o525 P) .nil .nil)))) (.node (o84 P) (.node (o116 P) (.node (o183 P) (.node (o314 P) (.node (o573 P) .nil .nil) .nil) (.node (o445 P) .nil .nil)) (.node (o250 P) (.node (o378 P) (.node (o637 P) .nil .nil) .nil) (.node (o509 P) .nil .nil))) (.node (o148 P) (.node (o218 P) (.node (o346 P) (.node (o605 P) .nil .nil) .nil) (.node (o477 P) .nil .nil)) (.node (o282 P) (.node (o410 P) (.node (o669 P) .nil .nil) .nil) (.node (o541 P) .nil .nil)))))) (.node (o38 P) (.node (o46 P) (.node (o64 P) (.node (o96 P) (.node (o160 P) (.node (o294 P) (.node (o553 P) .nil .nil) .nil) (.node (o425 P) .nil .nil)) (.node (o230 P) (.node (o358 P) (.node (o617 P) .nil .nil) .nil) (.node (o489 P) .nil .nil))) (.node (o128 P) (.node (o198 P) (.node (o326 P) (.node (o585 P) .nil .nil) .nil) (.node (o457 P) .nil .nil)) (.node (o262 P) (.node (o390 P) (.node (o649 P) .nil .nil) .nil) (.node (o521 P) .nil .nil)))) (.node (o80 P) (.node (o112 P) (.node (o179 P) (.node (o310 P) (.node (o569 P) .nil .nil) .nil) (.node (o441 P) .nil .nil)) (.node (o246 P) (.node (o374 P) (.node (o633 P) .nil .nil) .nil) (.node (o505 P) .nil .nil))) (.node (o144 P) (.node (o214 P) (.node (o342 P) (.node (o601 P) .nil .nil) .nil) (.node (o473 P) .nil .nil)) (.node (o278 P) (.node (o406 P) (.node (o665 P) .nil .nil) .nil) (.node (o537 P) .nil .nil))))) (.node (o53 P) (.node (o72 P) (.node (o104 P) (.node (o168 P) (.node (o302 P) (.node (o561 P) .nil .nil) .nil) (.node (o433 P) .nil .nil)) (.node (o238 P) (.node (o366 P) (.node (o625 P) .nil .nil) .nil) (.node (o497 P) .nil .nil))) (.node (o136 P) (.node (o206 P) (.node (o334 P) (.node (o593 P) .nil .nil) .nil) (.node (o465 P) .nil .nil)) (.node (o270 P) (.node (o398 P) (.node (o657 P) .nil .nil) .nil) (.node (o529 P) .nil .nil)))) (.node (o88 P) (.node (o120 P) (.node (o190 P) (.node (o318 P) (.node (o577 P) .nil .nil) .nil) (.node (o449 P) .nil .nil)) (.node (o254 P) (.node (o382 P) (.node (o641 P) .nil .nil) .nil) (.node (o513 P) .nil .nil))) (.node (o152 P) (.node (o222 P) (.node (o350 P) (.node (o609 P) .nil .nil) .nil) (.node (o481 P) .nil .nil)) (.node (o286 P) (.node (o414 P) .nil .nil) (.node (o545 P) .nil .nil))))))) (.node (o34 P) (.node (o36 P) (.node (o44 P) (.node (o62 P) (.node (o94 P) (.node (o158 P) (.node (o292 P) (.node (o551 P) .nil .nil) .nil) (.node (o423 P) .nil .nil)) (.node (o228 P) (.node (o356 P) (.node (o615 P) .nil .nil) .nil) (.node (o487 P) .nil .nil))) (.node (o126 P) (.node (o196 P) (.node (o324 P) (.node (o583 P) .nil .nil) .nil) (.node (o455 P) .nil .nil)) (.node (o260 P) (.node (o388 P) (.node (o647 P) .nil .nil) .nil) (.node (o519 P) .nil .nil)))) (.node (o78 P) (.node (o110 P) (.node (o177 P) (.node (o308 P) (.node (o567 P) .nil .nil) .nil) (.node (o439 P) .nil .nil)) (.node (o244 P) (.node (o372 P) (.node (o631 P) .nil .nil) .nil) (.node (o503 P) .nil .nil))) (.node (o142 P) (.node (o212 P) (.node (o340 P) (.node (o599 P) .nil .nil) .nil) (.node (o471 P) .nil .nil)) (.node (o276 P) (.node (o404 P) (.node (o663 P) .nil .nil) .nil) (.node (o535 P) .nil .nil))))) (.node (o51 P) (.node (o70 P) (.node (o102 P) (.node (o166 P) (.node (o300 P) (.node (o559 P) .nil .nil) .nil) (.node (o431 P) .nil .nil)) (.node (o236 P) (.node (o364 P) (.node (o623 P) .nil .nil) .nil) (.node (o495 P) .nil .nil))) (.node (o134 P) (.node (o204 P) (.node (o332 P) (.node (o591 P) .nil .nil) .nil) (.node (o463 P) .nil .nil)) (.node (o268 P) (.node (o396 P) (.node (o655 P) .nil .nil) .nil) (.node (o527 P) .nil .nil)))) (.node (o86 P) (.node (o118 P) (.node (o185 P) (.node (o316 P) (.node (o575 P) .nil .nil) .nil) (.node (o447 P) .nil .nil)) (.node (o252 P) (.node (o380 P) (.node (o639 P) .nil .nil) .nil) (.node (o511 P) .nil .nil))) (.node (o150 P) (.node (o220 P) (.node (o348 P) (.node (o607 P) .nil .nil) .nil) (.node (o479 P) .nil .nil)) (.node (o284 P) (.node (o412 P) .nil .nil) (.node (o543 P) .nil .nil)))))) (.node (o40 P) (.node (o47 P) (.node (o66 P) (.node (o98 P) (.node (o162 P) (.node (o296 P) (.node (o555 P) .nil .nil) .nil) (.node (o427 P) .nil .nil)) (.node (o232 P) (.node (o360 P) (.node (o619 P) .nil .nil) .nil) (.node (o491 P) .nil .nil))) (.node (o130 P) (.node (o200 P) (.node (o328 P) (.node (o587 P) .nil .nil) .nil) (.node (o459 P) .nil .nil)) (.node (o264 P) (.node (o392 P) (.node (o651 P) .nil .nil) .nil) (.node (o523 P) .nil .nil)))) (.node (o82 P) (.node (o114 P) (.node (o181 P) (.node (o312 P) (.node (o571 P) .nil .nil) .nil) (.node (o443 P) .nil .nil)) (.node (o248 P) (.node (o376 P) (.node (o635 P) .nil .nil) .nil) (.node (o507 P) .nil .nil))) (.node (o146 P) (.node (o216 P) (.node (o344 P) (.node (o603 P) .nil .nil) .nil) (.node (o475 P) .nil .nil)) (.node (o280 P) (.node (o408 P) (.node (o667 P) .nil .nil) .nil) (.node (o539 P) .nil .nil))))) (.node (o55 P) (.node (o74 P) (.node (o106 P) (.node (o170 P) (.node (o304 P) (.node (o563 P) .nil .nil) .nil) (.node (o435 P) .nil .nil)) (.node (o240 P) (.node (o368 P) (.node (o627 P) .nil .nil) .nil) (.node (o499 P) .nil .nil))) (.node (o138 P) (.node (o208 P) (.node (o336 P) (.node (o595 P) .nil .nil) .nil) (.node (o467 P) .nil .nil)) (.node (o272 P) (.node (o400 P) (.node (o659 P) .nil .nil) .nil) (.node (o531 P) .nil .nil)))) (.node (o90 P) (.node (o122 P) (.node (o192 P) (.node (o320 P) (.node (o579 P) .nil .nil) .nil) (.node (o451 P) .nil .nil)) (.node (o256 P) (.node (o384 P) (.node (o643 P) .nil .nil) .nil) (.node (o515 P) .nil .nil))) (.node (o174 P) (.node (o224 P) (.node (o352 P) (.node (o611 P) .nil .nil) .nil) (.node (o483 P) .nil .nil)) (.node (o288 P) (.node (o416 P) .nil .nil) (.node (o547 P) .nil .nil)))))))) (.node (o59 P) (.node (o33 P) (.node (o8 P) (.node (o43 P) (.node (o58 P) (.node (o93 P) (.node (o157 P) (.node (o291 P) (.node (o550 P) .nil .nil) .nil) (.node (o419 P) .nil .nil)) (.node (o227 P) (.node (o355 P) (.node (o614 P) .nil .nil) .nil) (.node (o486 P) .nil .nil))) (.node (o125 P) (.node (o195 P) (.node (o323 P) (.node (o582 P) .nil .nil) .nil) (.node (o454 P) .nil .nil)) (.node (o259 P) (.node (o387 P) (.node (o646 P) .nil .nil) .nil) (.node (o518 P) .nil .nil)))) (.node (o77 P) (.node (o109 P) (.node (o176 P) (.node (o307 P) (.node (o566 P) .nil .nil) .nil) (.node (o438 P) .nil .nil)) (.node (o243 P) (.node (o371 P) (.node (o630 P) .nil .nil) .nil) (.node (o502 P) .nil .nil))) (.node (o141 P) (.node (o211 P) (.node (o339 P) (.node (o598 P) .nil .nil) .nil) (.node (o470 P) .nil .nil)) (.node (o275 P) (.node (o403 P) (.node (o662 P) .nil .nil) .nil) (.node (o534 P) .nil .nil))))) (.node (o50 P) (.node (o69 P) (.node (o101 P) (.node (o165 P) (.node (o299 P) (.node (o558 P) .nil .nil) .nil) (.node (o430 P) .nil .nil)) (.node (o235 P) (.node (o363 P) (.node (o622 P) .nil .nil) .nil) (.node (o494 P) .nil .nil))) (.node (o133 P) (.node (o203 P) (.node (o331 P) (.node (o590 P) .nil .nil) .nil) (.node (o462 P) .nil .nil)) (.node (o267 P) (.node (o395 P) (.node (o654 P) .nil .nil) .nil) (.node (o526 P) .nil .nil)))) (.node (o85 P) (.node (o117 P) (.node (o422 P) (.node (o315 P) (.node (o574 P) .nil .nil) .nil) (.node (o446 P) .nil .nil)) (.node (o251 P) (.node (o379 P) (.node (o638 P) .nil .nil) .nil) (.node (o510 P) .nil .nil))) (.node (o149 P) (.node (o219 P) (.node (o347 P) (.node (o606 P) .nil .nil) .nil) (.node (o478 P) .nil .nil)) (.node (o283 P) (.node (o411 P) .nil .nil) (.node (o542 P) .nil .nil)))))) (.node (o39 P) (.node (o20 P) (.node (o65 P) (.node (o97 P) (.node (o161 P) (.node (o295 P) (.node (o554 P) .nil .nil) .nil) (.node (o426 P) .nil .nil)) (.node (o231 P) (.node (o359 P) (.node (o618 P) .nil .nil) .nil) (.node (o490 P) .nil .nil))) (.node (o129 P) (.node (o199 P) (.node (o327 P) (.node (o586 P) .nil .nil) .nil) (.node (o458 P) .nil .nil)) (.node (o263 P) (.node (o391 P) (.node (o650 P) .nil .nil) .nil) (.node (o522 P) .nil .nil)))) (.node (o81 P) (.node (o113 P) (.node (o180 P) (.node (o311 P) (.node (o570 P) .nil .nil) .nil) (.node (o442 P) .nil .nil)) (.node (o247 P) (.node (o375 P) (.node (o634 P) .nil .nil) .nil) (.node (o506 P) .nil .nil))) (.node (o145 P) (.node (o215 P) (.node (o343 P) (.node (o602 P) .nil .nil) .nil) (.node (o474 P) .nil .nil)) (.node (o279 P) (.node (o407 P) (.node (o666 P) .nil .nil) .nil) (.node (o538 P) .nil .nil))))) (.node (o54 P) (.node (o73 P) (.node (o105 P) (.node (o189 P) (.node (o303 P) (.node (o562 P) .nil .nil) .nil) (.node (o434 P) .nil .nil)) (.node (o239 P) (.node (o367 P) (.node (o626 P) .nil .nil) .nil) (.node (o498 P) .nil .nil))) (.node (o137 P) (.node (o207 P) (.node (o335 P) (.node (o594 P) .nil .nil) .nil) (.node (o466 P) .nil .nil)) (.node (o271 P) (.node (o399 P) (.node (o658 P) .nil .nil) .nil) (.node (o530 P) .nil .nil)))) (.node (o89 P) (.node (o121 P) (.node (o191 P) (.node (o319 P) (.node (o578 P) .nil .nil) .nil) (.node (o450 P) .nil .nil)) (.node (o255 P) (.node (o383 P) (.node (o642 P) .nil .nil) .nil) (.node (o514 P) .nil .nil))) (.node (o153 P) (.node (o223 P) (.node (o351 P) (.node (o610 P) .nil .nil) .nil) (.node (o482 P) .nil .nil)) (.node (o287 P) (.node (o415 P) .nil .nil) (.node (o546 P) .nil .nil))))))) (.node (o6 P) (.node (o37 P) (.node (o45 P) (.node (o63 P) (.node (o95 P) (.node (o159 P) (.node (o293 P) (.node (o552 P) .nil .nil) .nil) (.node (o424 P) .nil .nil)) (.node (o229 P) (.node (o357 P) (.node (o616 P) .nil .nil) .nil) (.node (o488 P) .nil .nil))) (.node (o127 P) (.node (o197 P) (.node (o325 P) (.node (o584 P) .nil .nil) .nil) (.node (o456 P) .nil .nil)) (.node (o261 P) (.node (o389 P) (.node (o648 P) .nil .nil) .nil) (.node (o520 P) .nil .nil)))) (.node (o79 P) (.node (o111 P) (.node (o178 P) (.node (o309 P) (.node (o568 P) .nil .nil) .nil) (.node (o440 P) .nil .nil)) (.node (o245 P) (.node (o373 P) (.node (o632 P) .nil .nil) .nil) (.node (o504 P) .nil .nil))) (.node (o143 P) (.node (o213 P) (.node (o341 P) (.node (o600 P) .nil .nil) .nil) (.node (o472 P) .nil .nil)) (.node (o277 P) (.node (o405 P) (.node (o664 P) .nil .nil) .nil) (.node (o536 P) .nil .nil))))) (.node (o52 P) (.node (o71 P) (.node (o103 P) (.node (o167 P) (.node (o301 P) (.node (o560 P) .nil .nil) .nil) (.node (o432 P) .nil .nil)) (.node (o237 P) (.node (o365 P) (.node (o624 P) .nil .nil) .nil) (.node (o496 P) .nil .nil))) (.node (o135 P) (.node (o205 P) (.node (o333 P) (.node (o592 P) .nil .nil) .nil) (.node (o464 P) .nil .nil)) (.node (o269 P) (.node (o397 P) (.node (o656 P) .nil .nil) .nil) (.node (o528 P) .nil .nil)))) (.node (o87 P) (.node (o119 P) (.node (o186 P) (.node (o317 P) (.node (o576 P) .nil .nil) .nil) (.node (o448 P) .nil .nil)) (.node (o253 P) (.node (o381 P) (.node (o640 P) .nil .nil) .nil) (.node (o512 P) .nil .nil))) (.node (o151 P) (.node (o221 P) (.node (o349 P) (.node (o608 P) .nil .nil) .nil) (.node (o480 P) .nil .nil)) (.node (o285 P) (.node (o413 P) .nil .nil) (.node (o544 P) .nil .nil)))))) (.node (o41 P) (.node (o48 P) (.node (o67 P) (.node (o99 P) (.node (o163 P) (.node (o297 P) (.node (o556 P) .nil .nil) .nil) (.node (o428 P) .nil .nil)) (.node (o233 P) (.node (o361 P) (.node (o620 P) .nil .nil) .nil) (.node (o492 P) .nil .nil))) (.node (o131 P) (.node (o201 P) (.node (o329 P) (.node (o588 P) .nil .nil) .nil) (.node (o460 P) .nil .nil)) (.node (o265 P) (.node (o393 P) (.node (o652 P) .nil .nil) .nil) (.node (o524 P) .nil .nil)))) (.node (o83 P) (.node (o115 P) (.node (o182 P) (.node (o313 P) (.node (o572 P) .nil .nil) .nil) (.node (o444 P) .nil .nil)) (.node (o249 P) (.node (o377 P) (.node (o636 P) .nil .nil) .nil) (.node (o508 P) .nil .nil))) (.node (o147 P) (.node (o217 P) (.node (o345 P) (.node (o604 P) .nil .nil) .nil) (.node (o476 P) .nil .nil)) (.node (o281 P) (.node (o409 P) (.node (o668 P) .nil .nil) .nil) (.node (o540 P) .nil .nil))))) (.node (o421 P) (.node (o75 P) (.node (o107 P) (.node (o171 P) (.node (o305 P) (.node (o564 P) .nil .nil) .nil) (.node (o436 P) .nil .nil)) (.node (o241 P) (.node (o369 P) (.node (o628 P) .nil .nil) .nil) (.node (o500 P) .nil .nil))) (.node (o139 P) (.node (o209 P) (.node (o337 P) (.node (o596 P) .nil .nil) .nil) (.node (o468 P) .nil .nil)) (.node (o273 P) (.node (o401 P) (.node (o660 P) .nil .nil) .nil) (.node (o532 P) .nil .nil)))) (.node (o91 P) (.node (o123 P) (.node (o193 P) (.node (o321 P) (.node (o580 P) .nil .nil) .nil) (.node (o452 P) .nil .nil)) (.node (o257 P) (.node (o385 P) (.node (o644 P) .nil .nil) .nil) (.node (o516 P) .nil .nil))) (.node (o155 P) (.node (o225 P) (.node (o353 P) (.node (o612 P) .nil .nil) .nil) (.node (o484 P) .nil .nil)) (.node (o289 P) (.node (o417 P) .nil .nil) (.node (o548 P) .nil .nil)))))))))
noncomputable def o670(P:Params):Obj:=.mk (.type "dict") none (.dict #[(.mk (keyHash P (ofString "__name__")) (.str (ofString "__name__") 165) (.str (ofString "law_oy0313_02") 1212)), (.mk (keyHash P (ofString "__doc__")) (.str (ofString "__doc__") 166) .none), (.mk (keyHash P (ofString "__package__")) (.str (ofString "__package__") 167) .none), (.mk (keyHash P (ofString "__loader__")) (.str (ofString "__loader__") 168) (.builtin "__main__.__loader__#opaque")), (.mk (keyHash P (ofString "__spec__")) (.str (ofString "__spec__") 169) .none), (.mk (keyHash P (ofString "__annotations__")) (.str (ofString "__annotations__") 170) (.ref 6)), (.mk (keyHash P (ofString "__builtins__")) (.str (ofString "__builtins__") 171) (.ref 4)), (.mk (keyHash P (ofString "__file__")) (.str (ofString "__file__") 173) (.str (ofString "/claim/cut.py") 172)), (.mk (keyHash P (ofString "__cached__")) (.str (ofString "__cached__") 174) .none), (.mk (keyHash P (ofString "deque")) (.str (ofString "deque") 272) (.type "collections.deque")), (.mk (keyHash P (ofString "_wall")) (.str (ofString "_wall") 285) (.ref 39)), (.mk (keyHash P (ofString "_netrclex")) (.str (ofString "_netrclex") 345) (.ref 77)), (.mk (keyHash P (ofString "_whence")) (.str (ofString "_whence") 355) (.ref 88)), (.mk (keyHash P (ofString "_index")) (.str (ofString "_index") 363) (.ref 95)), (.mk (keyHash P (ofString "UnsupportedOperation")) (.str (ofString "UnsupportedOperation") 385) (.ref 105)), (.mk (keyHash P (ofString "IOBase")) (.str (ofString "IOBase") 417) (.ref 125)), (.mk (keyHash P (ofString "BufferedIOBase")) (.str (ofString "BufferedIOBase") 435) (.ref 140)), (.mk (keyHash P (ofString "TextIOBase")) (.str (ofString "TextIOBase") 453) (.ref 152)), (.mk (keyHash P (ofString "BytesIO")) (.str (ofString "BytesIO") 715) (.ref 382)), (.mk (keyHash P (ofString "StringIO")) (.str (ofString "StringIO") 1002) (.ref 629)), (.mk (keyHash P (ofString "_kind")) (.str (ofString "_kind") 1013) (.ref 638)), (.mk (keyHash P (ofString "_fspath")) (.str (ofString "_fspath") 1022) (.ref 645)), (.mk (keyHash P (ofString "_check_arg_types")) (.str (ofString "_check_arg_types") 1032) (.ref 652)), (.mk (keyHash P (ofString "isabs")) (.str (ofString "isabs") 1039) (.ref 659)), (.mk (keyHash P (ofString "join")) (.str (ofString "join") 1050) (.ref 666)), (.mk (keyHash P (ofString "dirname")) (.str (ofString "dirname") 1060) (.ref 673)), (.mk (keyHash P (ofString "shlex")) (.str (ofString "shlex") 1201) (.ref 764)), (.mk (keyHash P (ofString "split")) (.str (ofString "split") 1211) (.ref 776)), (.mk (keyHash P (ofString "_law_parts")) (.str (ofString "_law_parts") 1225) (.ref 783)), (.mk (keyHash P (ofString "_law_due")) (.str (ofString "_law_due") 1231) (.ref 788)), (.mk (keyHash P (ofString "_law_read")) (.str (ofString "_law_read") 1241) (.ref 795)), (.mk (keyHash P (ofString "_law_holds")) (.str (ofString "_law_holds") 1252) (.ref 802)), (.mk (keyHash P (ofString "law")) (.str (ofString "law") 1258) (.ref 807))] 33) #[]
noncomputable def o671(_:Params):Obj:=.mk .none none (.fields #[(.int 2 0), (.int 0 0), (.ref 38), (.int 6 0), (.int 0 0), (.ref 45), (.int 50 0), (.int 0 0), (.ref 87), (.int 55 0), (.int 0 0), (.ref 94), (.int 62 0), (.int 0 0), (.ref 101), (.int 64 0), (.int 0 0), (.ref 114), (.int 71 0), (.int 0 0), (.ref 136), (.int 73 0), (.int 0 0), (.ref 148), (.int 75 0), (.int 0 0), (.ref 160), (.int 245 0), (.int 0 0), (.ref 390), (.int 451 0), (.int 0 0), (.ref 637), (.int 472 0), (.int 0 0), (.ref 644), (.int 477 0), (.int 0 0), (.ref 651), (.int 482 0), (.int 0 0), (.ref 658), (.int 485 0), (.int 0 0), (.ref 665), (.int 505 0), (.int 0 0), (.ref 672), (.int 514 0), (.int 0 0), (.ref 679), (.int 766 0), (.int 0 0), (.ref 775), (.int 775 0), (.int 0 0), (.ref 782), (.int 786 0), (.int 0 0), (.ref 787), (.int 793 0), (.int 0 0), (.ref 794), (.int 801 0), (.int 0 0), (.ref 801), (.int 809 0), (.int 0 0), (.ref 806)]) #[]
noncomputable def o672(_:Params):Obj:=.mk (.type "tuple") none (.seq #[] 0) #[]
noncomputable def o673(_:Params):Obj:=.mk .none none (.fields #[]) #[]
noncomputable def o674(_:Params):Obj:=.mk (.type "tuple") none (.seq #[(.str (ofString "name") 1008), (.str (ofString "x") 1009), (.str (ofString "t") 1010)] 0) #[]
noncomputable def o675(_:Params):Obj:=.mk (.type "tuple") none (.seq #[] 0) #[]
noncomputable def o676(_:Params):Obj:=.mk .none none (.func (.mk (ofString "_kind") (ofString "_kind") (fP (stAt 14)) (.stmts (fB (stAt 14))) (fS (stAt 14)) 0 [] .none .none .none .none none .none .none 0)) #[]
noncomputable def o677(_:Params):Obj:=.mk (.type "code") none (.fields #[(.str (ofString "_kind") 1005), (.str (ofString "_kind") 1006), (.str (ofString "/claim/cut.py") 1007), (.int 451 0), (.int 2 0), (.int 0 0), (.int 0 0), (.int 3 0), (.ref 632), (.bool true), (.int 273 0), (.ref 633), .none, (.ref 634), (.ref 635), (.ref 636), (.int 1011 0), (.int 451 0), (.str (ofString "/claim/cut.py") 1012)]) #[]
noncomputable def o678(_:Params):Obj:=.mk (.type "function") none (.func (.mk (ofString "_kind") (ofString "_kind") (fP (stAt 14)) (.stmts (fB (stAt 14))) (fS (stAt 14)) 3 [] .none .none .none (.str (ofString "os.path") 1003) none (.ref 637) .none 0)) #[]
noncomputable def o679(_:Params):Obj:=.mk (.type "tuple") none (.seq #[] 0) #[]
noncomputable def o680(_:Params):Obj:=.mk .none none (.fields #[]) #[]
noncomputable def o681(_:Params):Obj:=.mk (.type "tuple") none (.seq #[(.str (ofString "name") 1017), (.str (ofString "x") 1018), (.str (ofString "k") 1019)] 0) #[]
noncomputable def o682(_:Params):Obj:=.mk (.type "tuple") none (.seq #[] 0) #[]
noncomputable def o683(_:Params):Obj:=.mk .none none (.func (.mk (ofString "_fspath") (ofString "_fspath") (fP (stAt 15)) (.stmts (fB (stAt 15))) (fS (stAt 15)) 0 [] .none .none .none .none none .none .none 0)) #[]
noncomputable def o684(_:Params):Obj:=.mk (.type "code") none (.fields #[(.str (ofString "_fspath") 1014), (.str (ofString "_fspath") 1015), (.str (ofString "/claim/cut.py") 1016), (.int 472 0), (.int 2 0), (.int 0 0), (.int 0 0), (.int 3 0), (.ref 639), (.bool true), (.int 273 0), (.ref 640), .none, (.ref 641), (.ref 642), (.ref 643), (.int 1020 0), (.int 472 0), (.str (ofString "/claim/cut.py") 1021)]) #[]
noncomputable def o685(_:Params):Obj:=.mk (.type "function") none (.func (.mk (ofString "_fspath") (ofString "_fspath") (fP (stAt 15)) (.stmts (fB (stAt 15))) (fS (stAt 15)) 3 [] .none .none .none (.str (ofString "os.path") 1003) none (.ref 644) .none 0)) #[]
noncomputable def o686(_:Params):Obj:=.mk (.type "tuple") none (.seq #[] 0) #[]
noncomputable def o687(_:Params):Obj:=.mk .none none (.fields #[]) #[]
noncomputable def o688(_:Params):Obj:=.mk (.type "tuple") none (.seq #[(.str (ofString "funcname") 1026), (.str (ofString "args") 1027), (.str (ofString "s") 1028), (.str (ofString "k") 1029)] 0) #[]
noncomputable def o689(_:Params):Obj:=.mk (.type "tuple") none (.seq #[] 0) #[]
noncomputable def o690(_:Params):Obj:=.mk .none none (.func (.mk (ofString "_check_arg_types") (ofString "_check_arg_types") (fP (stAt 16)) (.stmts (fB (stAt 16))) (fS (stAt 16)) 0 [] .none .none .none .none none .none .none 0)) #[]
noncomputable def o691(_:Params):Obj:=.mk (.type "code") none (.fields #[(.str (ofString "_check_arg_types") 1023), (.str (ofString "_check_arg_types") 1024), (.str (ofString "/claim/cut.py") 1025), (.int 477 0), (.int 1 0), (.int 0 0), (.int 0 0), (.int 7 0), (.ref 646), (.bool true), (.int 273 0), (.ref 647), .none, (.ref 648), (.ref 649), (.ref 650), (.int 1030 0), (.int 477 0), (.str (ofString "/claim/cut.py") 1031)]) #[]
noncomputable def o692(_:Params):Obj:=.mk (.type "function") none (.func (.mk (ofString "_check_arg_types") (ofString "_check_arg_types") (fP (stAt 16)) (.stmts (fB (stAt 16))) (fS (stAt 16)) 3 [] .none .none .none (.str (ofString "os.path") 1003) none (.ref 651) .none 0)) #[]
noncomputable def o693(_:Params):Obj:=.mk (.type "tuple") none (.seq #[] 0) #[]
noncomputable def o694(_:Params):Obj:=.mk .none none (.fields #[]) #[]
noncomputable def o695(_:Params):Obj:=.mk (.type "tuple") none (.seq #[(.str (ofString "s") 1036)] 0) #[]
noncomputable def o696(_:Params):Obj:=.mk (.type "tuple") none (.seq #[] 0) #[]
noncomputable def o697(_:Params):Obj:=.mk .none none (.func (.mk (ofString "isabs") (ofString "isabs") (fP (stAt 17)) (.stmts (fB (stAt 17))) (fS (stAt 17)) 0 [] .none .none .none .none none .none .none 0)) #[]
noncomputable def o698(_:Params):Obj:=.mk (.type "code") none (.fields #[(.str (ofString "isabs") 1033), (.str (ofString "isabs") 1034), (.str (ofString "/claim/cut.py") 1035), (.int 482 0), (.int 1 0), (.int 0 0), (.int 0 0), (.int 3 0), (.ref 653), (.bool true), (.int 273 0), (.ref 654), .none, (.ref 655), (.ref 656), (.ref 657), (.int 1037 0), (.int 482 0), (.str (ofString "/claim/cut.py") 1038)]) #[]
noncomputable def o699(_:Params):Obj:=.mk (.type "function") none (.func (.mk (ofString "isabs") (ofString "isabs") (fP (stAt 17)) (.stmts (fB (stAt 17))) (fS (stAt 17)) 3 [] .none .none .none (.str (ofString "os.path") 1003) none (.ref 658) .none 0)) #[]
noncomputable def o700(_:Params):Obj:=.mk (.type "tuple") none (.seq #[] 0) #[]
noncomputable def o701(_:Params):Obj:=.mk .none none (.fields #[]) #[]
noncomputable def o702(_:Params):Obj:=.mk (.type "tuple") none (.seq #[(.str (ofString "a") 1043), (.str (ofString "p") 1044), (.str (ofString "b") 1045), (.str (ofString "sep") 1046), (.str (ofString "path") 1047)] 0) #[]
noncomputable def o703(_:Params):Obj:=.mk (.type "tuple") none (.seq #[] 0) #[]
noncomputable def o704(_:Params):Obj:=.mk .none none (.func (.mk (ofString "join") (ofString "join") (fP (stAt 18)) (.stmts (fB (stAt 18))) (fS (stAt 18)) 0 [] .none .none .none .none none .none .none 0)) #[]
noncomputable def o705(_:Params):Obj:=.mk (.type "code") none (.fields #[(.str (ofString "join") 1040), (.str (ofString "join") 1041), (.str (ofString "/claim/cut.py") 1042), (.int 485 0), (.int 1 0), (.int 0 0), (.int 0 0), (.int 7 0), (.ref 660), (.bool true), (.int 273 0), (.ref 661), .none, (.ref 662), (.ref 663), (.ref 664), (.int 1048 0), (.int 485 0), (.str (ofString "/claim/cut.py") 1049)]) #[]
noncomputable def o706(_:Params):Obj:=.mk (.type "function") none (.func (.mk (ofString "join") (ofString "join") (fP (stAt 18)) (.stmts (fB (stAt 18))) (fS (stAt 18)) 3 [] .none .none .none (.str (ofString "os.path") 1003) none (.ref 665) .none 0)) #[]
noncomputable def o707(_:Params):Obj:=.mk (.type "tuple") none (.seq #[] 0) #[]
noncomputable def o708(_:Params):Obj:=.mk .none none (.fields #[]) #[]
noncomputable def o709(_:Params):Obj:=.mk (.type "tuple") none (.seq #[(.str (ofString "p") 1054), (.str (ofString "sep") 1055), (.str (ofString "i") 1056), (.str (ofString "head") 1057)] 0) #[]
noncomputable def o710(_:Params):Obj:=.mk (.type "tuple") none (.seq #[] 0) #[]
noncomputable def o711(_:Params):Obj:=.mk .none none (.func (.mk (ofString "dirname") (ofString "dirname") (fP (stAt 19)) (.stmts (fB (stAt 19))) (fS (stAt 19)) 0 [] .none .none .none .none none .none .none 0)) #[]
noncomputable def o712(_:Params):Obj:=.mk (.type "code") none (.fields #[(.str (ofString "dirname") 1051), (.str (ofString "dirname") 1052), (.str (ofString "/claim/cut.py") 1053), (.int 505 0), (.int 1 0), (.int 0 0), (.int 0 0), (.int 3 0), (.ref 667), (.bool true), (.int 273 0), (.ref 668), .none, (.ref 669), (.ref 670), (.ref 671), (.int 1058 0), (.int 505 0), (.str (ofString "/claim/cut.py") 1059)]) #[]
noncomputable def o713(_:Params):Obj:=.mk (.type "function") none (.func (.mk (ofString "dirname") (ofString "dirname") (fP (stAt 19)) (.stmts (fB (stAt 19))) (fS (stAt 19)) 3 [] .none .none .none (.str (ofString "os.path") 1003) none (.ref 672) .none 0)) #[]
noncomputable def o714(_:Params):Obj:=.mk (.type "tuple") none (.seq #[] 0) #[]
noncomputable def o715(_:Params):Obj:=.mk (.type "builtin_function_or_method") none (.fields #[(.builtin "type.__prepare__"), (.type "type")]) #[]
noncomputable def o716(P:Params):Obj:=.mk (.type "dict") none (.dict #[(.mk (keyHash P (ofString "__module__")) (.str (ofString "__module__") 1070) (.str (ofString "cpy313.shlex") 1061)), (.mk (keyHash P (ofString "__qualname__")) (.str (ofString "__qualname__") 1072) (.str (ofString "shlex") 1071)), (.mk (keyHash P (ofString "__firstlineno__")) (.str (ofString "__firstlineno__") 1074) (.int 514 1073)), (.mk (keyHash P (ofString "__init__")) (.str (ofString "__init__") 1086) (.ref 688)), (.mk (keyHash P (ofString "punctuation_chars")) (.str (ofString "punctuation_chars") 1094) (.ref 696)), (.mk (keyHash P (ofString "push_token")) (.str (ofString "push_token") 1102) (.ref 703)), (.mk (keyHash P (ofString "push_source")) (.str (ofString "push_source") 1111) (.ref 711)), (.mk (keyHash P (ofString "pop_source")) (.str (ofString "pop_source") 1118) (.ref 718)), (.mk (keyHash P (ofString "get_token")) (.str (ofString "get_token") 1130) (.ref 725)), (.mk (keyHash P (ofString "read_token")) (.str (ofString "read_token") 1141) (.ref 732)), (.mk (keyHash P (ofString "sourcehook")) (.str (ofString "sourcehook") 1149) (.ref 739)), (.mk (keyHash P (ofString "error_leader")) (.str (ofString "error_leader") 1158) (.ref 747)), (.mk (keyHash P (ofString "__iter__")) (.str (ofString "__iter__") 1165) (.ref 754)), (.mk (keyHash P (ofString "__next__")) (.str (ofString "__next__") 1173) (.ref 761)), (.mk (keyHash P (ofString "__static_attributes__")) (.str (ofString "__static_attributes__") 1194) (.ref 762))] 15) #[]
noncomputable def o717(_:Params):Obj:=.mk (.type "tuple") none (.seq #[] 0) #[]
noncomputable def o718(_:Params):Obj:=.mk .none none (.fields #[(.int 516 0), (.int 4 0), (.ref 687), (.int 558 0), (.int 4 0), (.ref 694), (.int 561 0), (.int 4 0), (.ref 702), (.int 564 0), (.int 4 0), (.ref 710), (.int 577 0), (.int 4 0), (.ref 717), (.int 584 0), (.int 4 0), (.ref 724), (.int 611 0), (.int 4 0), (.ref 731), (.int 748 0), (.int 4 0), (.ref 738), (.int 755 0), (.int 4 0), (.ref 746), (.int 758 0), (.int 4 0), (.ref 753), (.int 761 0), (.int 4 0), (.ref 760)]) #[]
noncomputable def o719(_:Params):Obj:=.mk (.type "code") none (.fields #[(.str (ofString "shlex") 1065), (.str (ofString "shlex") 1066), (.str (ofString "/claim/cut.py") 1067), (.int 514 0), (.int 0 0), (.int 0 0), (.int 0 0), (.int 0 0), (.ref 677), (.bool false), (.int 273 0), (.ref 678), .none, .none, .none, .none, (.int 1068 0), (.int 514 0), (.str (ofString "/claim/cut.py") 1069)]) #[]
noncomputable def o720(_:Params):Obj:=.mk (.type "frame") none .plain #[(some (.ref 679)), (some (.ref 3)), (some (.ref 676)), none, (some (.str (ofString "cpy313.shlex") 1061)), none, (some (.ref 0))]
noncomputable def o721(_:Params):Obj:=.mk (.type "tuple") none (.seq #[.none, .none, (.bool false), (.bool false)] 0) #[]
noncomputable def o722(_:Params):Obj:=.mk (.type "tuple") none (.seq #[] 0) #[]
noncomputable def o723(_:Params):Obj:=.mk .none none (.fields #[]) #[]
noncomputable def o724(_:Params):Obj:=.mk (.type "tuple") none (.seq #[(.str (ofString "self") 1078), (.str (ofString "instream") 1079), (.str (ofString "infile") 1080), (.str (ofString "posix") 1081), (.str (ofString "punctuation_chars") 1082), (.str (ofString "t") 1083)] 0) #[]
noncomputable def o725(_:Params):Obj:=.mk (.type "tuple") none (.seq #[] 0) #[]
noncomputable def o726(_:Params):Obj:=.mk .none none (.func (.mk (ofString "__init__") (ofString "shlex.__init__") (fP (subAt 21 0)) (.stmts (fB (subAt 21 0))) (fS (subAt 21 0)) 0 [] .none .none .none .none none .none .none 0)) #[]
noncomputable def o727(_:Params):Obj:=.mk (.type "code") none (.fields #[(.str (ofString "__init__") 1075), (.str (ofString "shlex.__init__") 1076), (.str (ofString "/claim/cut.py") 1077), (.int 516 0), (.int 5 0), (.int 0 0), (.int 0 0), (.int 3 0), (.ref 682), (.bool true), (.int 273 0), (.ref 683), .none, (.ref 684), (.ref 685), (.ref 686), (.int 1084 0), (.int 516 0), (.str (ofString "/claim/cut.py") 1085)]) #[]
noncomputable def o728(_:Params):Obj:=.mk (.type "function") none (.func (.mk (ofString "__init__") (ofString "shlex.__init__") (fP (subAt 21 0)) (.stmts (fB (subAt 21 0))) (fS (subAt 21 0)) 3 [] (.ref 681) .none .none (.str (ofString "cpy313.shlex") 1061) none (.ref 687) .none 0)) #[]
noncomputable def o729(_:Params):Obj:=.mk (.type "tuple") none (.seq #[] 0) #[]
noncomputable def o730(_:Params):Obj:=.mk .none none (.fields #[]) #[]
noncomputable def o731(_:Params):Obj:=.mk (.type "tuple") none (.seq #[(.str (ofString "self") 1090)] 0) #[]
noncomputable def o732(_:Params):Obj:=.mk (.type "tuple") none (.seq #[] 0) #[]
noncomputable def o733(_:Params):Obj:=.mk .none none (.func (.mk (ofString "punctuation_chars") (ofString "shlex.punctuation_chars") (fP (subAt 21 1)) (.stmts (fB (subAt 21 1))) (fS (subAt 21 9)) 0 [] .none .none .none .none none .none .none 0)) #[]
noncomputable def o734(_:Params):Obj:=.mk (.type "code") none (.fields #[(.str (ofString "punctuation_chars") 1087), (.str (ofString "shlex.punctuation_chars") 1088), (.str (ofString "/claim/cut.py") 1089), (.int 557 0), (.int 1 0), (.int 0 0), (.int 0 0), (.int 3 0), (.ref 689), (.bool true), (.int 273 0), (.ref 690), .none, (.ref 691), (.ref 692), (.ref 693), (.int 1091 0), (.int 557 0), (.str (ofString "/claim/cut.py") 1092)]) #[]
noncomputable def o735(_:Params):Obj:=.mk (.type "function") none (.func (.mk (ofString "punctuation_chars") (ofString "shlex.punctuation_chars") (fP (subAt 21 1)) (.stmts (fB (subAt 21 1))) (fS (subAt 21 9)) 3 [] .none .none .none (.str (ofString "cpy313.shlex") 1061) none (.ref 694) .none 0)) #[]
noncomputable def o736(_:Params):Obj:=.mk (.type "property") none (.fields #[(.ref 695), .none, .none, .none, (.str (ofString "punctuation_chars") 1094), (.bool false)]) #[]
noncomputable def o737(_:Params):Obj:=.mk (.type "tuple") none (.seq #[] 0) #[]
noncomputable def o738(_:Params):Obj:=.mk .none none (.fields #[]) #[]
noncomputable def o739(_:Params):Obj:=.mk (.type "tuple") none (.seq #[(.str (ofString "self") 1098), (.str (ofString "tok") 1099)] 0) #[]
noncomputable def o740(_:Params):Obj:=.mk (.type "tuple") none (.seq #[] 0) #[]
noncomputable def o741(_:Params):Obj:=.mk .none none (.func (.mk (ofString "push_token") (ofString "shlex.push_token") (fP (subAt 21 2)) (.stmts (fB (subAt 21 2))) (fS (subAt 21 2)) 0 [] .none .none .none .none none .none .none 0)) #[]
noncomputable def o742(_:Params):Obj:=.mk (.type "code") none (.fields #[(.str (ofString "push_token") 1095), (.str (ofString "shlex.push_token") 1096), (.str (ofString "/claim/cut.py") 1097), (.int 561 0), (.int 2 0), (.int 0 0), (.int 0 0), (.int 3 0), (.ref 697), (.bool true), (.int 273 0), (.ref 698), .none, (.ref 699), (.ref 700), (.ref 701), (.int 1100 0), (.int 561 0), (.str (ofString "/claim/cut.py") 1101)]) #[]
noncomputable def o743(_:Params):Obj:=.mk (.type "function") none (.func (.mk (ofString "push_token") (ofString "shlex.push_token") (fP (subAt 21 2)) (.stmts (fB (subAt 21 2))) (fS (subAt 21 2)) 3 [] .none .none .none (.str (ofString "cpy313.shlex") 1061) none (.ref 702) .none 0)) #[]
noncomputable def o744(_:Params):Obj:=.mk (.type "tuple") none (.seq #[.none] 0) #[]
noncomputable def o745(_:Params):Obj:=.mk (.type "tuple") none (.seq #[] 0) #[]
noncomputable def o746(_:Params):Obj:=.mk .none none (.fields #[]) #[]
noncomputable def o747(_:Params):Obj:=.mk (.type "tuple") none (.seq #[(.str (ofString "self") 1106), (.str (ofString "newstream") 1107), (.str (ofString "newfile") 1108)] 0) #[]
noncomputable def o748(_:Params):Obj:=.mk (.type "tuple") none (.seq #[] 0) #[]
noncomputable def o749(_:Params):Obj:=.mk .none none (.func (.mk (ofString "push_source") (ofString "shlex.push_source") (fP (subAt 21 3)) (.stmts (fB (subAt 21 3))) (fS (subAt 21 3)) 0 [] .none .none .none .none none .none .none 0)) #[]
noncomputable def o750(_:Params):Obj:=.mk (.type "code") none (.fields #[(.str (ofString "push_source") 1103), (.str (ofString "shlex.push_source") 1104), (.str (ofString "/claim/cut.py") 1105), (.int 564 0), (.int 3 0), (.int 0 0), (.int 0 0), (.int 3 0), (.ref 705), (.bool true), (.int 273 0), (.ref 706), .none, (.ref 707), (.ref 708), (.ref 709), (.int 1109 0), (.int 564 0), (.str (ofString "/claim/cut.py") 1110)]) #[]
noncomputable def o751(_:Params):Obj:=.mk (.type "function") none (.func (.mk (ofString "push_source") (ofString "shlex.push_source") (fP (subAt 21 3)) (.stmts (fB (subAt 21 3))) (fS (subAt 21 3)) 3 [] (.ref 704) .none .none (.str (ofString "cpy313.shlex") 1061) none (.ref 710) .none 0)) #[]
noncomputable def o752(_:Params):Obj:=.mk (.type "tuple") none (.seq #[] 0) #[]
noncomputable def o753(_:Params):Obj:=.mk .none none (.fields #[]) #[]
noncomputable def o754(_:Params):Obj:=.mk (.type "tuple") none (.seq #[(.str (ofString "self") 1115)] 0) #[]
noncomputable def o755(_:Params):Obj:=.mk (.type "tuple") none (.seq #[] 0) #[]
noncomputable def o756(_:Params):Obj:=.mk .none none (.func (.mk (ofString "pop_source") (ofString "shlex.pop_source") (fP (subAt 21 4)) (.stmts (fB (subAt 21 4))) (fS (subAt 21 4)) 0 [] .none .none .none .none none .none .none 0)) #[]
noncomputable def o757(_:Params):Obj:=.mk (.type "code") none (.fields #[(.str (ofString "pop_source") 1112), (.str (ofString "shlex.pop_source") 1113), (.str (ofString "/claim/cut.py") 1114), (.int 577 0), (.int 1 0), (.int 0 0), (.int 0 0), (.int 3 0), (.ref 712), (.bool true), (.int 273 0), (.ref 713), .none, (.ref 714), (.ref 715), (.ref 716), (.int 1116 0), (.int 577 0), (.str (ofString "/claim/cut.py") 1117)]) #[]
noncomputable def o758(_:Params):Obj:=.mk (.type "function") none (.func (.mk (ofString "pop_source") (ofString "shlex.pop_source") (fP (subAt 21 4)) (.stmts (fB (subAt 21 4))) (fS (subAt 21 4)) 3 [] .none .none .none (.str (ofString "cpy313.shlex") 1061) none (.ref 717) .none 0)) #[]
noncomputable def o759(_:Params):Obj:=.mk (.type "tuple") none (.seq #[] 0) #[]
noncomputable def o760(_:Params):Obj:=.mk .none none (.fields #[]) #[]
noncomputable def o761(_:Params):Obj:=.mk (.type "tuple") none (.seq #[(.str (ofString "self") 1122), (.str (ofString "tok") 1123), (.str (ofString "raw") 1124), (.str (ofString "spec") 1125), (.str (ofString "newfile") 1126), (.str (ofString "newstream") 1127)] 0) #[]
noncomputable def o762(_:Params):Obj:=.mk (.type "tuple") none (.seq #[] 0) #[]
noncomputable def o763(_:Params):Obj:=.mk .none none (.func (.mk (ofString "get_token") (ofString "shlex.get_token") (fP (subAt 21 5)) (.stmts (fB (subAt 21 5))) (fS (subAt 21 5)) 0 [] .none .none .none .none none .none .none 0)) #[]
noncomputable def o764(_:Params):Obj:=.mk (.type "code") none (.fields #[(.str (ofString "get_token") 1119), (.str (ofString "shlex.get_token") 1120), (.str (ofString "/claim/cut.py") 1121), (.int 584 0), (.int 1 0), (.int 0 0), (.int 0 0), (.int 3 0), (.ref 719), (.bool true), (.int 273 0), (.ref 720), .none, (.ref 721), (.ref 722), (.ref 723), (.int 1128 0), (.int 584 0), (.str (ofString "/claim/cut.py") 1129)]) #[]
noncomputable def o765(_:Params):Obj:=.mk (.type "function") none (.func (.mk (ofString "get_token") (ofString "shlex.get_token") (fP (subAt 21 5)) (.stmts (fB (subAt 21 5))) (fS (subAt 21 5)) 3 [] .none .none .none (.str (ofString "cpy313.shlex") 1061) none (.ref 724) .none 0)) #[]
noncomputable def o766(_:Params):Obj:=.mk (.type "tuple") none (.seq #[] 0) #[]
noncomputable def o767(_:Params):Obj:=.mk .none none (.fields #[]) #[]
noncomputable def o768(_:Params):Obj:=.mk (.type "tuple") none (.seq #[(.str (ofString "self") 1134), (.str (ofString "quoted") 1135), (.str (ofString "escapedstate") 1136), (.str (ofString "nextchar") 1137), (.str (ofString "result") 1138)] 0) #[]
noncomputable def o769(_:Params):Obj:=.mk (.type "tuple") none (.seq #[] 0) #[]
noncomputable def o770(_:Params):Obj:=.mk .none none (.func (.mk (ofString "read_token") (ofString "shlex.read_token") (fP (subAt 21 6)) (.stmts (fB (subAt 21 6))) (fS (subAt 21 6)) 0 [] .none .none .none .none none .none .none 0)) #[]
noncomputable def o771(_:Params):Obj:=.mk (.type "code") none (.fields #[(.str (ofString "read_token") 1131), (.str (ofString "shlex.read_token") 1132), (.str (ofString "/claim/cut.py") 1133), (.int 611 0), (.int 1 0), (.int 0 0), (.int 0 0), (.int 3 0), (.ref 726), (.bool true), (.int 273 0), (.ref 727), .none, (.ref 728), (.ref 729), (.ref 730), (.int 1139 0), (.int 611 0), (.str (ofString "/claim/cut.py") 1140)]) #[]
noncomputable def o772(_:Params):Obj:=.mk (.type "function") none (.func (.mk (ofString "read_token") (ofString "shlex.read_token") (fP (subAt 21 6)) (.stmts (fB (subAt 21 6))) (fS (subAt 21 6)) 3 [] .none .none .none (.str (ofString "cpy313.shlex") 1061) none (.ref 731) .none 0)) #[]
noncomputable def o773(_:Params):Obj:=.mk (.type "tuple") none (.seq #[] 0) #[]
noncomputable def o774(_:Params):Obj:=.mk .none none (.fields #[]) #[]
noncomputable def o775(_:Params):Obj:=.mk (.type "tuple") none (.seq #[(.str (ofString "self") 1145), (.str (ofString "newfile") 1146)] 0) #[]
noncomputable def o776(_:Params):Obj:=.mk (.type "tuple") none (.seq #[] 0) #[]
noncomputable def o777(_:Params):Obj:=.mk .none none (.func (.mk (ofString "sourcehook") (ofString "shlex.sourcehook") (fP (subAt 21 7)) (.stmts (fB (subAt 21 7))) (fS (subAt 21 7)) 0 [] .none .none .none .none none .none .none 0)) #[]
noncomputable def o778(_:Params):Obj:=.mk (.type "code") none (.fields #[(.str (ofString "sourcehook") 1142), (.str (ofString "shlex.sourcehook") 1143), (.str (ofString "/claim/cut.py") 1144), (.int 748 0), (.int 2 0), (.int 0 0), (.int 0 0), (.int 3 0), (.ref 733), (.bool true), (.int 273 0), (.ref 734), .none, (.ref 735), (.ref 736), (.ref 737), (.int 1147 0), (.int 748 0), (.str (ofString "/claim/cut.py") 1148)]) #[]
noncomputable def o779(_:Params):Obj:=.mk (.type "function") none (.func (.mk (ofString "sourcehook") (ofString "shlex.sourcehook") (fP (subAt 21 7)) (.stmts (fB (subAt 21 7))) (fS (subAt 21 7)) 3 [] .none .none .none (.str (ofString "cpy313.shlex") 1061) none (.ref 738) .none 0)) #[]
noncomputable def o780(_:Params):Obj:=.mk (.type "tuple") none (.seq #[.none, .none] 0) #[]
noncomputable def o781(_:Params):Obj:=.mk (.type "tuple") none (.seq #[] 0) #[]
noncomputable def o782(_:Params):Obj:=.mk .none none (.fields #[]) #[]
noncomputable def o783(_:Params):Obj:=.mk (.type "tuple") none (.seq #[(.str (ofString "self") 1153), (.str (ofString "infile") 1154), (.str (ofString "lineno") 1155)] 0) #[]
noncomputable def o784(_:Params):Obj:=.mk (.type "tuple") none (.seq #[] 0) #[]
noncomputable def o785(_:Params):Obj:=.mk .none none (.func (.mk (ofString "error_leader") (ofString "shlex.error_leader") (fP (subAt 21 8)) (.stmts (fB (subAt 21 8))) (fS (subAt 21 8)) 0 [] .none .none .none .none none .none .none 0)) #[]
noncomputable def o786(_:Params):Obj:=.mk (.type "code") none (.fields #[(.str (ofString "error_leader") 1150), (.str (ofString "shlex.error_leader") 1151), (.str (ofString "/claim/cut.py") 1152), (.int 755 0), (.int 3 0), (.int 0 0), (.int 0 0), (.int 3 0), (.ref 741), (.bool true), (.int 273 0), (.ref 742), .none, (.ref 743), (.ref 744), (.ref 745), (.int 1156 0), (.int 755 0), (.str (ofString "/claim/cut.py") 1157)]) #[]
noncomputable def o787(_:Params):Obj:=.mk (.type "function") none (.func (.mk (ofString "error_leader") (ofString "shlex.error_leader") (fP (subAt 21 8)) (.stmts (fB (subAt 21 8))) (fS (subAt 21 8)) 3 [] (.ref 740) .none .none (.str (ofString "cpy313.shlex") 1061) none (.ref 746) .none 0)) #[]
noncomputable def o788(_:Params):Obj:=.mk (.type "tuple") none (.seq #[] 0) #[]
noncomputable def o789(_:Params):Obj:=.mk .none none (.fields #[]) #[]
noncomputable def o790(_:Params):Obj:=.mk (.type "tuple") none (.seq #[(.str (ofString "self") 1162)] 0) #[]
noncomputable def o791(_:Params):Obj:=.mk (.type "tuple") none (.seq #[] 0) #[]
noncomputable def o792(_:Params):Obj:=.mk .none none (.func (.mk (ofString "__iter__") (ofString "shlex.__iter__") (fP (subAt 21 9)) (.stmts (fB (subAt 21 9))) (fS (subAt 21 9)) 0 [] .none .none .none .none none .none .none 0)) #[]
noncomputable def o793(_:Params):Obj:=.mk (.type "code") none (.fields #[(.str (ofString "__iter__") 1159), (.str (ofString "shlex.__iter__") 1160), (.str (ofString "/claim/cut.py") 1161), (.int 758 0), (.int 1 0), (.int 0 0), (.int 0 0), (.int 3 0), (.ref 748), (.bool true), (.int 273 0), (.ref 749), .none, (.ref 750), (.ref 751), (.ref 752), (.int 1163 0), (.int 758 0), (.str (ofString "/claim/cut.py") 1164)]) #[]
noncomputable def o794(_:Params):Obj:=.mk (.type "function") none (.func (.mk (ofString "__iter__") (ofString "shlex.__iter__") (fP (subAt 21 9)) (.stmts (fB (subAt 21 9))) (fS (subAt 21 9)) 3 [] .none .none .none (.str (ofString "cpy313.shlex") 1061) none (.ref 753) .none 0)) #[]
noncomputable def o795(_:Params):Obj:=.mk (.type "tuple") none (.seq #[] 0) #[]
noncomputable def o796(_:Params):Obj:=.mk .none none (.fields #[]) #[]
noncomputable def o797(_:Params):Obj:=.mk (.type "tuple") none (.seq #[(.str (ofString "self") 1169), (.str (ofString "token") 1170)] 0) #[]
noncomputable def o798(_:Params):Obj:=.mk (.type "tuple") none (.seq #[] 0) #[]
noncomputable def o799(_:Params):Obj:=.mk .none none (.func (.mk (ofString "__next__") (ofString "shlex.__next__") (fP (subAt 21 10)) (.stmts (fB (subAt 21 10))) (fS (subAt 21 10)) 0 [] .none .none .none .none none .none .none 0)) #[]
noncomputable def o800(_:Params):Obj:=.mk (.type "code") none (.fields #[(.str (ofString "__next__") 1166), (.str (ofString "shlex.__next__") 1167), (.str (ofString "/claim/cut.py") 1168), (.int 761 0), (.int 1 0), (.int 0 0), (.int 0 0), (.int 3 0), (.ref 755), (.bool true), (.int 273 0), (.ref 756), .none, (.ref 757), (.ref 758), (.ref 759), (.int 1171 0), (.int 761 0), (.str (ofString "/claim/cut.py") 1172)]) #[]
noncomputable def o801(_:Params):Obj:=.mk (.type "function") none (.func (.mk (ofString "__next__") (ofString "shlex.__next__") (fP (subAt 21 10)) (.stmts (fB (subAt 21 10))) (fS (subAt 21 10)) 3 [] .none .none .none (.str (ofString "cpy313.shlex") 1061) none (.ref 760) .none 0)) #[]
noncomputable def o802(_:Params):Obj:=.mk (.type "tuple") none (.seq #[(.str (ofString "_punctuation_chars") 1174), (.str (ofString "_pushback_chars") 1175), (.str (ofString "commenters") 1176), (.str (ofString "debug") 1177), (.str (ofString "eof") 1178), (.str (ofString "escape") 1179), (.str (ofString "escapedquotes") 1180), (.str (ofString "filestack") 1181), (.str (ofString "infile") 1182), (.str (ofString "instream") 1183), (.str (ofString "lineno") 1184), (.str (ofString "posix") 1185), (.str (ofString "pushback") 1186), (.str (ofString "quotes") 1187), (.str (ofString "source") 1188), (.str (ofString "state") 1189), (.str (ofString "token") 1190), (.str (ofString "whitespace") 1191), (.str (ofString "whitespace_split") 1192), (.str (ofString "wordchars") 1193)] 0) #[]
noncomputable def o803(P:Params):Obj:=.mk (.type "dict") none (.dict #[(.mk (keyHash P (ofString "__module__")) (.str (ofString "__module__") 1070) (.str (ofString "cpy313.shlex") 1061)), (.mk (keyHash P (ofString "__firstlineno__")) (.str (ofString "__firstlineno__") 1074) (.int 514 1073)), (.mk (keyHash P (ofString "__init__")) (.str (ofString "__init__") 1086) (.ref 688)), (.mk (keyHash P (ofString "punctuation_chars")) (.str (ofString "punctuation_chars") 1094) (.ref 696)), (.mk (keyHash P (ofString "push_token")) (.str (ofString "push_token") 1102) (.ref 703)), (.mk (keyHash P (ofString "push_source")) (.str (ofString "push_source") 1111) (.ref 711)), (.mk (keyHash P (ofString "pop_source")) (.str (ofString "pop_source") 1118) (.ref 718)), (.mk (keyHash P (ofString "get_token")) (.str (ofString "get_token") 1130) (.ref 725)), (.mk (keyHash P (ofString "read_token")) (.str (ofString "read_token") 1141) (.ref 732)), (.mk (keyHash P (ofString "sourcehook")) (.str (ofString "sourcehook") 1149) (.ref 739)), (.mk (keyHash P (ofString "error_leader")) (.str (ofString "error_leader") 1158) (.ref 747)), (.mk (keyHash P (ofString "__iter__")) (.str (ofString "__iter__") 1165) (.ref 754)), (.mk (keyHash P (ofString "__next__")) (.str (ofString "__next__") 1173) (.ref 761)), (.mk (keyHash P (ofString "__static_attributes__")) (.str (ofString "__static_attributes__") 1194) (.ref 762)), (.mk (keyHash P (ofString "__dict__")) (.str (ofString "__dict__") 1196) (.ref 765)), (.mk (keyHash P (ofString "__weakref__")) (.str (ofString "__weakref__") 1198) (.ref 766)), (.mk (keyHash P (ofString "__doc__")) (.str (ofString "__doc__") 1199) .none)] 4) #[]
noncomputable def o804(_:Params):Obj:=.mk (.type "type") none (Data.cls (ClassData.mk (ofString "shlex") [(.type "object")] [(.ref 764), (.type "object")] 763 (ofString "shlex") true [] [] false none false)) #[none, none, (some (.str (ofString "shlex") 1063)), (some (.str (ofString "shlex") 1071)), (some (.builtin "object.__new__")), (some (.bool true))]
noncomputable def o805(_:Params):Obj:=.mk (.type "getset_descriptor") none (.fields #[(.str (ofString "__dict__") 1195), (.ref 764), (.builtin "function.__dict__"), (.builtin "function.__dict__#set")]) #[]
noncomputable def o806(_:Params):Obj:=.mk (.type "getset_descriptor") none (.fields #[(.str (ofString "__weakref__") 1197), (.ref 764), (.builtin "ExceptionGroup.__weakref__"), .none]) #[]
noncomputable def o807(_:Params):Obj:=.mk (.type "super") none (.fields #[(.ref 764), (.ref 764), (.ref 764)]) #[]
noncomputable def o808(_:Params):Obj:=.mk (.type "builtin_function_or_method") none (.fields #[(.builtin "object.__init_subclass__"), (.ref 764)]) #[]
noncomputable def o809(_:Params):Obj:=.mk (.type "tuple") none (.seq #[(.bool false), (.bool true)] 0) #[]
noncomputable def o810(_:Params):Obj:=.mk (.type "tuple") none (.seq #[] 0) #[]
noncomputable def o811(_:Params):Obj:=.mk .none none (.fields #[]) #[]
noncomputable def o812(_:Params):Obj:=.mk (.type "tuple") none (.seq #[(.str (ofString "s") 1205), (.str (ofString "comments") 1206), (.str (ofString "posix") 1207), (.str (ofString "lex") 1208)] 0) #[]
noncomputable def o813(_:Params):Obj:=.mk (.type "tuple") none (.seq #[] 0) #[]
noncomputable def o814(_:Params):Obj:=.mk .none none (.func (.mk (ofString "split") (ofString "split") (fP (stAt 22)) (.stmts (fB (stAt 22))) (fS (stAt 22)) 0 [] .none .none .none .none none .none .none 0)) #[]
noncomputable def o815(_:Params):Obj:=.mk (.type "code") none (.fields #[(.str (ofString "split") 1202), (.str (ofString "split") 1203), (.str (ofString "/claim/cut.py") 1204), (.int 766 0), (.int 3 0), (.int 0 0), (.int 0 0), (.int 3 0), (.ref 770), (.bool true), (.int 273 0), (.ref 771), .none, (.ref 772), (.ref 773), (.ref 774), (.int 1209 0), (.int 766 0), (.str (ofString "/claim/cut.py") 1210)]) #[]
noncomputable def o816(_:Params):Obj:=.mk (.type "function") none (.func (.mk (ofString "split") (ofString "split") (fP (stAt 22)) (.stmts (fB (stAt 22))) (fS (stAt 22)) 3 [] (.ref 769) .none .none (.str (ofString "cpy313.shlex") 1061) none (.ref 775) .none 0)) #[]
noncomputable def o817(_:Params):Obj:=.mk (.type "tuple") none (.seq #[] 0) #[]
noncomputable def o818(_:Params):Obj:=.mk .none none (.fields #[]) #[]
noncomputable def o819(_:Params):Obj:=.mk (.type "tuple") none (.seq #[(.str (ofString "script") 1217), (.str (ofString "k") 1218), (.str (ofString "parts") 1219), (.str (ofString "x") 1220), (.str (ofString "sign") 1221), (.str (ofString "size") 1222)] 0) #[]
noncomputable def o820(_:Params):Obj:=.mk (.type "tuple") none (.seq #[] 0) #[]
noncomputable def o821(_:Params):Obj:=.mk .none none (.func (.mk (ofString "_law_parts") (ofString "_law_parts") (fP (stAt 24)) (.stmts (fB (stAt 24))) (fS (stAt 24)) 0 [] .none .none .none .none none .none .none 0)) #[]
noncomputable def o822(_:Params):Obj:=.mk (.type "code") none (.fields #[(.str (ofString "_law_parts") 1214), (.str (ofString "_law_parts") 1215), (.str (ofString "/claim/cut.py") 1216), (.int 775 0), (.int 2 0), (.int 0 0), (.int 0 0), (.int 3 0), (.ref 777), (.bool true), (.int 273 0), (.ref 778), .none, (.ref 779), (.ref 780), (.ref 781), (.int 1223 0), (.int 775 0), (.str (ofString "/claim/cut.py") 1224)]) #[]
noncomputable def o823(_:Params):Obj:=.mk (.type "function") none (.func (.mk (ofString "_law_parts") (ofString "_law_parts") (fP (stAt 24)) (.stmts (fB (stAt 24))) (fS (stAt 24)) 3 [] .none .none .none (.str (ofString "law_oy0313_02") 1212) none (.ref 782) .none 0)) #[]
noncomputable def o824(_:Params):Obj:=.mk (.type "tuple") none (.seq #[] 0) #[]
noncomputable def o825(_:Params):Obj:=.mk .none none (.fields #[]) #[]
noncomputable def o826(_:Params):Obj:=.mk .none none (.func (.mk (ofString "_law_due") (ofString "_law_due") (fP (stAt 25)) (.stmts (fB (stAt 25))) (fS (stAt 25)) 0 [] .none .none .none .none none .none .none 0)) #[]
noncomputable def o827(_:Params):Obj:=.mk (.type "code") none (.fields #[(.str (ofString "_law_due") 1226), (.str (ofString "_law_due") 1227), (.str (ofString "/claim/cut.py") 1228), (.int 786 0), (.int 2 0), (.int 0 0), (.int 0 0), (.int 3 0), (.ref 784), (.bool true), (.int 273 0), (.ref 785), .none, .none, .none, (.ref 786), (.int 1229 0), (.int 786 0), (.str (ofString "/claim/cut.py") 1230)]) #[]
noncomputable def o828(_:Params):Obj:=.mk (.type "function") none (.func (.mk (ofString "_law_due") (ofString "_law_due") (fP (stAt 25)) (.stmts (fB (stAt 25))) (fS (stAt 25)) 3 [] .none .none .none (.str (ofString "law_oy0313_02") 1212) none (.ref 787) .none 0)) #[]
noncomputable def o829(_:Params):Obj:=.mk (.type "tuple") none (.seq #[] 0) #[]
noncomputable def o830(_:Params):Obj:=.mk .none none (.fields #[]) #[]
noncomputable def o831(_:Params):Obj:=.mk (.type "tuple") none (.seq #[(.str (ofString "text") 1235), (.str (ofString "figure") 1236), (.str (ofString "lexer") 1237), (.str (ofString "words") 1238)] 0) #[]
noncomputable def o832(_:Params):Obj:=.mk (.type "tuple") none (.seq #[] 0) #[]
noncomputable def o833(_:Params):Obj:=.mk .none none (.func (.mk (ofString "_law_read") (ofString "_law_read") (fP (stAt 26)) (.stmts (fB (stAt 26))) (fS (stAt 26)) 0 [] .none .none .none .none none .none .none 0)) #[]
noncomputable def o834(_:Params):Obj:=.mk (.type "code") none (.fields #[(.str (ofString "_law_read") 1232), (.str (ofString "_law_read") 1233), (.str (ofString "/claim/cut.py") 1234), (.int 793 0), (.int 2 0), (.int 0 0), (.int 0 0), (.int 3 0), (.ref 789), (.bool true), (.int 273 0), (.ref 790), .none, (.ref 791), (.ref 792), (.ref 793), (.int 1239 0), (.int 793 0), (.str (ofString "/claim/cut.py") 1240)]) #[]
noncomputable def o835(_:Params):Obj:=.mk (.type "function") none (.func (.mk (ofString "_law_read") (ofString "_law_read") (fP (stAt 26)) (.stmts (fB (stAt 26))) (fS (stAt 26)) 3 [] .none .none .none (.str (ofString "law_oy0313_02") 1212) none (.ref 794) .none 0)) #[]
noncomputable def o836(_:Params):Obj:=.mk (.type "tuple") none (.seq #[] 0) #[]
noncomputable def o837(_:Params):Obj:=.mk .none none (.fields #[]) #[]
noncomputable def o838(_:Params):Obj:=.mk (.type "tuple") none (.seq #[(.str (ofString "parts") 1245), (.str (ofString "figures") 1246), (.str (ofString "text") 1247), (.str (ofString "i") 1248), (.str (ofString "words") 1249)] 0) #[]
noncomputable def o839(_:Params):Obj:=.mk (.type "tuple") none (.seq #[] 0) #[]
noncomputable def o840(_:Params):Obj:=.mk .none none (.func (.mk (ofString "_law_holds") (ofString "_law_holds") (fP (stAt 27)) (.stmts (fB (stAt 27))) (fS (stAt 27)) 0 [] .none .none .none .none none .none .none 0)) #[]
noncomputable def o841(_:Params):Obj:=.mk (.type "code") none (.fields #[(.str (ofString "_law_holds") 1242), (.str (ofString "_law_holds") 1243), (.str (ofString "/claim/cut.py") 1244), (.int 801 0), (.int 2 0), (.int 0 0), (.int 0 0), (.int 3 0), (.ref 796), (.bool true), (.int 273 0), (.ref 797), .none, (.ref 798), (.ref 799), (.ref 800), (.int 1250 0), (.int 801 0), (.str (ofString "/claim/cut.py") 1251)]) #[]
noncomputable def o842(_:Params):Obj:=.mk (.type "function") none (.func (.mk (ofString "_law_holds") (ofString "_law_holds") (fP (stAt 27)) (.stmts (fB (stAt 27))) (fS (stAt 27)) 3 [] .none .none .none (.str (ofString "law_oy0313_02") 1212) none (.ref 801) .none 0)) #[]
noncomputable def o843(_:Params):Obj:=.mk (.type "tuple") none (.seq #[] 0) #[]
noncomputable def o844(_:Params):Obj:=.mk .none none (.fields #[]) #[]
noncomputable def o845(_:Params):Obj:=.mk .none none (.func (.mk (ofString "law") (ofString "law") (fP (stAt 28)) (.stmts (fB (stAt 28))) (fS (stAt 28)) 0 [] .none .none .none .none none .none .none 0)) #[]
noncomputable def o846(_:Params):Obj:=.mk (.type "code") none (.fields #[(.str (ofString "law") 1253), (.str (ofString "law") 1254), (.str (ofString "/claim/cut.py") 1255), (.int 809 0), (.int 1 0), (.int 0 0), (.int 0 0), (.int 3 0), (.ref 803), (.bool true), (.int 273 0), (.ref 804), .none, .none, .none, (.ref 805), (.int 1256 0), (.int 809 0), (.str (ofString "/claim/cut.py") 1257)]) #[]
noncomputable def o847(_:Params):Obj:=.mk (.type "function") none (.func (.mk (ofString "law") (ofString "law") (fP (stAt 28)) (.stmts (fB (stAt 28))) (fS (stAt 28)) 3 [] .none .none .none (.str (ofString "law_oy0313_02") 1212) none (.ref 806) .none 0)) #[]
noncomputable def T5 (P : Params) : BT := (.node (o29 P) (.node (o30 P) (.node (o670 P) (.node (o35 P) (.node (o42 P) (.node (o57 P) (.node (o92 P) (.node (o156 P) (.node (o290 P) (.node (o549 P) .nil .nil) (.node (o807 P) .nil .nil)) (.node (o418 P) (.node (o679 P) .nil .nil) .nil)) (.node (o226 P) (.node (o354 P) (.node (o613 P) .nil .nil) .nil) (.node (o485 P) (.node (o743 P) .nil .nil) .nil))) (.node (o124 P) (.node (o194 P) (.node (o322 P) (.node (o581 P) .nil .nil) (.node (o839 P) .nil .nil)) (.node (o453 P) (.node (o711 P) .nil .nil) .nil)) (.node (o258 P) (.node (o386 P) (.node (o645 P) .nil .nil) .nil) (.node (o517 P) (.node (o775 P) .nil .nil) .nil)))) (.node (o76 P) (.node (o108 P) (.node (o175 P) (.node (o306 P) (.node (o565 P) .nil .nil) (.node (o823 P) .nil .nil)) (.node (o437 P) (.node (o695 P) .nil .nil) .nil)) (.node (o242 P) (.node (o370 P) (.node (o629 P) .nil .nil) .nil) (.node (o501 P) (.node (o759 P) .nil .nil) .nil))) (.node (o140 P) (.node (o210 P) (.node (o338 P) (.node (o597 P) .nil .nil) .nil) (.node (o469 P) (.node (o727 P) .nil .nil) .nil)) (.node (o274 P) (.node (o402 P) (.node (o661 P) .nil .nil) .nil) (.node (o533 P) (.node (o791 P) .nil .nil) .nil))))) (.node (o49 P) (.node (o68 P) (.node (o100 P) (.node (o164 P) (.node (o298 P) (.node (o557 P) .nil .nil) (.node (o815 P) .nil .nil)) (.node (o429 P) (.node (o687 P) .nil .nil) .nil)) (.node (o234 P) (.node (o362 P) (.node (o621 P) .nil .nil) .nil) (.node (o493 P) (.node (o751 P) .nil .nil) .nil))) (.node (o132 P) (.node (o202 P) (.node (o330 P) (.node (o589 P) .nil .nil) (.node (o847 P) .nil .nil)) (.node (o461 P) (.node (o719 P) .nil .nil) .nil)) (.node (o266 P) (.node (o394 P) (.node (o653 P) .nil .nil) .nil) (.node (o525 P) (.node (o783 P) .nil .nil) .nil)))) (.node (o84 P) (.node (o116 P) (.node (o183 P) (.node (o314 P) (.node (o573 P) .nil .nil) (.node (o831 P) .nil .nil)) (.node (o445 P) (.node (o703 P) .nil .nil) .nil)) (.node (o250 P) (.node (o378 P) (.node (o637 P) .nil .nil) .nil) (.node (o509 P) (.node (o767 P) .nil .nil) .nil))) (.node (o148 P) (.node (o218 P) (.node (o346 P) (.node (o605 P) .nil .nil) .nil) (.node (o477 P) (.node (o735 P) .nil .nil) .nil)) (.node (o282 P) (.node (o410 P) (.node (o669 P) .nil .nil) .nil) (.node (o541 P) (.node (o799 P) .nil .nil) .nil)))))) (.node (o38 P) (.node (o46 P) (.node (o64 P) (.node (o96 P) (.node (o160 P) (.node (o294 P) (.node (o553 P) .nil .nil) (.node (o811 P) .nil .nil)) (.node (o425 P) (.node (o683 P) .nil .nil) .nil)) (.node (o230 P) (.node (o358 P) (.node (o617 P) .nil .nil) .nil) (.node (o489 P) (.node (o747 P) .nil .nil) .nil))) (.node (o128 P) (.node (o198 P) (.node (o326 P) (.node (o585 P) .nil .nil) (.node (o843 P) .nil .nil)) (.node (o457 P) (.node (o715 P) .nil .nil) .nil)) (.node (o262 P) (.node (o390 P) (.node (o649 P) .nil .nil) .nil) (.node (o521 P) (.node (o779 P) .nil .nil) .nil)))) (.node (o80 P) (.node (o112 P) (.node (o179 P) (.node (o310 P) (.node (o569 P) .nil .nil) (.node (o827 P) .nil .nil)) (.node (o441 P) (.node (o699 P) .nil .nil) .nil)) (.node (o246 P) (.node (o374 P) (.node (o633 P) .nil .nil) .nil) (.node (o505 P) (.node (o763 P) .nil .nil) .nil))) (.node (o144 P) (.node (o214 P) (.node (o342 P) (.node (o601 P) .nil .nil) .nil) (.node (o473 P) (.node (o731 P) .nil .nil) .nil)) (.node (o278 P) (.node (o406 P) (.node (o665 P) .nil .nil) .nil) (.node (o537 P) (.node (o795 P) .nil .nil) .nil))))) (.node (o53 P) (.node (o72 P) (.node (o104 P) (.node (o168 P) (.node (o302 P) (.node (o561 P) .nil .nil) (.node (o819 P) .nil .nil)) (.node (o433 P) (.node (o691 P) .nil .nil) .nil)) (.node (o238 P) (.node (o366 P) (.node (o625 P) .nil .nil) .nil) (.node (o497 P) (.node (o755 P) .nil .nil) .nil))) (.node (o136 P) (.node (o206 P) (.node (o334 P) (.node (o593 P) .nil .nil) .nil) (.node (o465 P) (.node (o723 P) .nil .nil) .nil)) (.node (o270 P) (.node (o398 P) (.node (o657 P) .nil .nil) .nil) (.node (o529 P) (.node (o787 P) .nil .nil) .nil)))) (.node (o88 P) (.node (o120 P) (.node (o190 P) (.node (o318 P) (.node (o577 P) .nil .nil) (.node (o835 P) .nil .nil)) (.node (o449 P) (.node (o707 P) .nil .nil) .nil)) (.node (o254 P) (.node (o382 P) (.node (o641 P) .nil .nil) .nil) (.node (o513 P) (.node (o771 P) .nil .nil) .nil))) (.node (o152 P) (.node (o222 P) (.node (o350 P) (.node (o609 P) .nil .nil) .nil) (.node (o481 P) (.node (o739 P) .nil .nil) .nil)) (.node (o286 P) (.node (o414 P) (.node (o675 P) .nil .nil) .nil) (.node (o545 P) (.node (o803 P) .nil .nil) .nil))))))) (.node (o34 P) (.node (o36 P) (.node (o44 P) (.node (o62 P) (.node (o94 P) (.node (o158 P) (.node (o292 P) (.node (o551 P) .nil .nil) (.node (o809 P) .nil .nil)) (.node (o423 P) (.node (o681 P) .nil .nil) .nil)) (.node (o228 P) (.node (o356 P) (.node (o615 P) .nil .nil) .nil) (.node (o487 P) (.node (o745 P) .nil .nil) .nil))) (.node (o126 P) (.node (o196 P) (.node (o324 P) (.node (o583 P) .nil .nil) (.node (o841 P) .nil .nil)) (.node (o455 P) (.node (o713 P) .nil .nil) .nil)) (.node (o260 P) (.node (o388 P) (.node (o647 P) .nil .nil) .nil) (.node (o519 P) (.node (o777 P) .nil .nil) .nil)))) (.node (o78 P) (.node (o110 P) (.node (o177 P) (.node (o308 P) (.node (o567 P) .nil .nil) (.node (o825 P) .nil .nil)) (.node (o439 P) (.node (o697 P) .nil .nil) .nil)) (.node (o244 P) (.node (o372 P) (.node (o631 P) .nil .nil) .nil) (.node (o503 P) (.node (o761 P) .nil .nil) .nil))) (.node (o142 P) (.node (o212 P) (.node (o340 P) (.node (o599 P) .nil .nil) .nil) (.node (o471 P) (.node (o729 P) .nil .nil) .nil)) (.node (o276 P) (.node (o404 P) (.node (o663 P) .nil .nil) .nil) (.node (o535 P) (.node (o793 P) .nil .nil) .nil))))) (.node (o51 P) (.node (o70 P) (.node (o102 P) (.node (o166 P) (.node (o300 P) (.node (o559 P) .nil .nil) (.node (o817 P) .nil .nil)) (.node (o431 P) (.node (o689 P) .nil .nil) .nil)) (.node (o236 P) (.node (o364 P) (.node (o623 P) .nil .nil) .nil) (.node (o495 P) (.node (o753 P) .nil .nil) .nil))) (.node (o134 P) (.node (o204 P) (.node (o332 P) (.node (o591 P) .nil .nil) .nil) (.node (o463 P) (.node (o721 P) .nil .nil) .nil)) (.node (o268 P) (.node (o396 P) (.node (o655 P) .nil .nil) .nil) (.node (o527 P) (.node (o785 P) .nil .nil) .nil)))) (.node (o86 P) (.node (o118 P) (.node (o185 P) (.node (o316 P) (.node (o575 P) .nil .nil) (.node (o833 P) .nil .nil)) (.node (o447 P) (.node (o705 P) .nil .nil) .nil)) (.node (o252 P) (.node (o380 P) (.node (o639 P) .nil .nil) .nil) (.node (o511 P) (.node (o769 P) .nil .nil) .nil))) (.node (o150 P) (.node (o220 P) (.node (o348 P) (.node (o607 P) .nil .nil) .nil) (.node (o479 P) (.node (o737 P) .nil .nil) .nil)) (.node (o284 P) (.node (o412 P) (.node (o673 P) .nil .nil) .nil) (.node (o543 P) (.node (o801 P) .nil .nil) .nil)))))) (.node (o40 P) (.node (o47 P) (.node (o66 P) (.node (o98 P) (.node (o162 P) (.node (o296 P) (.node (o555 P) .nil .nil) (.node (o813 P) .nil .nil)) (.node (o427 P) (.node (o685 P) .nil .nil) .nil)) (.node (o232 P) (.node (o360 P) (.node (o619 P) .nil .nil) .nil) (.node (o491 P) (.node (o749 P) .nil .nil) .nil))) (.node (o130 P) (.node (o200 P) (.node (o328 P) (.node (o587 P) .nil .nil) (.node (o845 P) .nil .nil)) (.node (o459 P) (.node (o717 P) .nil .nil) .nil)) (.node (o264 P) (.node (o392 P) (.node (o651 P) .nil .nil) .nil) (.node (o523 P) (.node (o781 P) .nil .nil) .nil)))) (.node (o82 P) (.node (o114 P) (.node (o181 P) (.node (o312 P) (.node (o571 P) .nil .nil) (.node (o829 P) .nil .nil)) (.node (o443 P) (.node (o701 P) .nil .nil) .nil)) (.node (o248 P) (.node (o376 P) (.node (o635 P) .nil .nil) .nil) (.node (o507 P) (.node (o765 P) .nil .nil) .nil))) (.node (o146 P) (.node (o216 P) (.node (o344 P) (.node (o603 P) .nil .nil) .nil) (.node (o475 P) (.node (o733 P) .nil .nil) .nil)) (.node (o280 P) (.node (o408 P) (.node (o667 P) .nil .nil) .nil) (.node (o539 P) (.node (o797 P) .nil .nil) .nil))))) (.node (o55 P) (.node (o74 P) (.node (o106 P) (.node (o170 P) (.node (o304 P) (.node (o563 P) .nil .nil) (.node (o821 P) .nil .nil)) (.node (o435 P) (.node (o693 P) .nil .nil) .nil)) (.node (o240 P) (.node (o368 P) (.node (o627 P) .nil .nil) .nil) (.node (o499 P) (.node (o757 P) .nil .nil) .nil))) (.node (o138 P) (.node (o208 P) (.node (o336 P) (.node (o595 P) .nil .nil) .nil) (.node (o467 P) (.node (o725 P) .nil .nil) .nil)) (.node (o272 P) (.node (o400 P) (.node (o659 P) .nil .nil) .nil) (.node (o531 P) (.node (o789 P) .nil .nil) .nil)))) (.node (o90 P) (.node (o122 P) (.node (o192 P) (.node (o320 P) (.node (o579 P) .nil .nil) (.node (o837 P) .nil .nil)) (.node (o451 P) (.node (o709 P) .nil .nil) .nil)) (.node (o256 P) (.node (o384 P) (.node (o643 P) .nil .nil) .nil) (.node (o515 P) (.node (o773 P) .nil .nil) .nil))) (.node (o174 P) (.node (o224 P) (.node (o352 P) (.node (o611 P) .nil .nil) .nil) (.node (o483 P) (.node (o741 P) .nil .nil) .nil)) (.node (o288 P) (.node (o416 P) (.node (o677 P) .nil .nil) .nil) (.node (o547 P) (.node (o805 P) .nil .nil) .nil)))))))) (.node (o59 P) (.node (o33 P) (.node (o8 P) (.node (o43 P) (.node (o58 P) (.node (o93 P) (.node (o157 P) (.node (o291 P) (.node (o550 P) .nil .nil) (.node (o808 P) .nil .nil)) (.node (o419 P) (.node (o680 P) .nil .nil) .nil)) (.node (o227 P) (.node (o355 P) (.node (o614 P) .nil .nil) .nil) (.node (o486 P) (.node (o744 P) .nil .nil) .nil))) (.node (o125 P) (.node (o195 P) (.node (o323 P) (.node (o582 P) .nil .nil) (.node (o840 P) .nil .nil)) (.node (o454 P) (.node (o712 P) .nil .nil) .nil)) (.node (o259 P) (.node (o387 P) (.node (o646 P) .nil .nil) .nil) (.node (o518 P) (.node (o776 P) .nil .nil) .nil)))) (.node (o77 P) (.node (o109 P) (.node (o176 P) (.node (o307 P) (.node (o566 P) .nil .nil) (.node (o824 P) .nil .nil)) (.node (o438 P) (.node (o696 P) .nil .nil) .nil)) (.node (o243 P) (.node (o371 P) (.node (o630 P) .nil .nil) .nil) (.node (o502 P) (.node (o760 P) .nil .nil) .nil))) (.node (o141 P) (.node (o211 P) (.node (o339 P) (.node (o598 P) .nil .nil) .nil) (.node (o470 P) (.node (o728 P) .nil .nil) .nil)) (.node (o275 P) (.node (o403 P) (.node (o662 P) .nil .nil) .nil) (.node (o534 P) (.node (o792 P) .nil .nil) .nil))))) (.node (o50 P) (.node (o69 P) (.node (o101 P) (.node (o165 P) (.node (o299 P) (.node (o558 P) .nil .nil) (.node (o816 P) .nil .nil)) (.node (o430 P) (.node (o688 P) .nil .nil) .nil)) (.node (o235 P) (.node (o363 P) (.node (o622 P) .nil .nil) .nil) (.node (o494 P) (.node (o752 P) .nil .nil) .nil))) (.node (o133 P) (.node (o203 P) (.node (o331 P) (.node (o590 P) .nil .nil) .nil) (.node (o462 P) (.node (o720 P) .nil .nil) .nil)) (.node (o267 P) (.node (o395 P) (.node (o654 P) .nil .nil) .nil) (.node (o526 P) (.node (o784 P) .nil .nil) .nil)))) (.node (o85 P) (.node (o117 P) (.node (o422 P) (.node (o315 P) (.node (o574 P) .nil .nil) (.node (o832 P) .nil .nil)) (.node (o446 P) (.node (o704 P) .nil .nil) .nil)) (.node (o251 P) (.node (o379 P) (.node (o638 P) .nil .nil) .nil) (.node (o510 P) (.node (o768 P) .nil .nil) .nil))) (.node (o149 P) (.node (o219 P) (.node (o347 P) (.node (o606 P) .nil .nil) .nil) (.node (o478 P) (.node (o736 P) .nil .nil) .nil)) (.node (o283 P) (.node (o411 P) (.node (o672 P) .nil .nil) .nil) (.node (o542 P) (.node (o800 P) .nil .nil) .nil)))))) (.node (o39 P) (.node (o20 P) (.node (o65 P) (.node (o97 P) (.node (o161 P) (.node (o295 P) (.node (o554 P) .nil .nil) (.node (o812 P) .nil .nil)) (.node (o426 P) (.node (o684 P) .nil .nil) .nil)) (.node (o231 P) (.node (o359 P) (.node (o618 P) .nil .nil) .nil) (.node (o490 P) (.node (o748 P) .nil .nil) .nil))) (.node (o129 P) (.node (o199 P) (.node (o327 P) (.node (o586 P) .nil .nil) (.node (o844 P) .nil .nil)) (.node (o458 P) (.node (o716 P) .nil .nil) .nil)) (.node (o263 P) (.node (o391 P) (.node (o650 P) .nil .nil) .nil) (.node (o522 P) (.node (o780 P) .nil .nil) .nil)))) (.node (o81 P) (.node (o113 P) (.node (o180 P) (.node (o311 P) (.node (o570 P) .nil .nil) (.node (o828 P) .nil .nil)) (.node (o442 P) (.node (o700 P) .nil .nil) .nil)) (.node (o247 P) (.node (o375 P) (.node (o634 P) .nil .nil) .nil) (.node (o506 P) (.node (o764 P) .nil .nil) .nil))) (.node (o145 P) (.node (o215 P) (.node (o343 P) (.node (o602 P) .nil .nil) .nil) (.node (o474 P) (.node (o732 P) .nil .nil) .nil)) (.node (o279 P) (.node (o407 P) (.node (o666 P) .nil .nil) .nil) (.node (o538 P) (.node (o796 P) .nil .nil) .nil))))) (.node (o54 P) (.node (o73 P) (.node (o105 P) (.node (o189 P) (.node (o303 P) (.node (o562 P) .nil .nil) (.node (o820 P) .nil .nil)) (.node (o434 P) (.node (o692 P) .nil .nil) .nil)) (.node (o239 P) (.node (o367 P) (.node (o626 P) .nil .nil) .nil) (.node (o498 P) (.node (o756 P) .nil .nil) .nil))) (.node (o137 P) (.node (o207 P) (.node (o335 P) (.node (o594 P) .nil .nil) .nil) (.node (o466 P) (.node (o724 P) .nil .nil) .nil)) (.node (o271 P) (.node (o399 P) (.node (o658 P) .nil .nil) .nil) (.node (o530 P) (.node (o788 P) .nil .nil) .nil)))) (.node (o89 P) (.node (o121 P) (.node (o191 P) (.node (o319 P) (.node (o578 P) .nil .nil) (.node (o836 P) .nil .nil)) (.node (o450 P) (.node (o708 P) .nil .nil) .nil)) (.node (o255 P) (.node (o383 P) (.node (o642 P) .nil .nil) .nil) (.node (o514 P) (.node (o772 P) .nil .nil) .nil))) (.node (o153 P) (.node (o223 P) (.node (o351 P) (.node (o610 P) .nil .nil) .nil) (.node (o482 P) (.node (o740 P) .nil .nil) .nil)) (.node (o287 P) (.node (o415 P) (.node (o676 P) .nil .nil) .nil) (.node (o546 P) (.node (o804 P) .nil .nil) .nil))))))) (.node (o6 P) (.node (o37 P) (.node (o45 P) (.node (o63 P) (.node (o95 P) (.node (o159 P) (.node (o293 P) (.node (o552 P) .nil .nil) (.node (o810 P) .nil .nil)) (.node (o424 P) (.node (o682 P) .nil .nil) .nil)) (.node (o229 P) (.node (o357 P) (.node (o616 P) .nil .nil) .nil) (.node (o488 P) (.node (o746 P) .nil .nil) .nil))) (.node (o127 P) (.node (o197 P) (.node (o325 P) (.node (o584 P) .nil .nil) (.node (o842 P) .nil .nil)) (.node (o456 P) (.node (o714 P) .nil .nil) .nil)) (.node (o261 P) (.node (o389 P) (.node (o648 P) .nil .nil) .nil) (.node (o520 P) (.node (o778 P) .nil .nil) .nil)))) (.node (o79 P) (.node (o111 P) (.node (o178 P) (.node (o309 P) (.node (o568 P) .nil .nil) (.node (o826 P) .nil .nil)) (.node (o440 P) (.node (o698 P) .nil .nil) .nil)) (.node (o245 P) (.node (o373 P) (.node (o632 P) .nil .nil) .nil) (.node (o504 P) (.node (o762 P) .nil .nil) .nil))) (.node (o143 P) (.node (o213 P) (.node (o341 P) (.node (o600 P) .nil .nil) .nil) (.node (o472 P) (.node (o730 P) .nil .nil) .nil)) (.node (o277 P) (.node (o405 P) (.node (o664 P) .nil .nil) .nil) (.node (o536 P) (.node (o794 P) .nil .nil) .nil))))) (.node (o52 P) (.node (o71 P) (.node (o103 P) (.node (o167 P) (.node (o301 P) (.node (o560 P) .nil .nil) (.node (o818 P) .nil .nil)) (.node (o432 P) (.node (o690 P) .nil .nil) .nil)) (.node (o237 P) (.node (o365 P) (.node (o624 P) .nil .nil) .nil) (.node (o496 P) (.node (o754 P) .nil .nil) .nil))) (.node (o135 P) (.node (o205 P) (.node (o333 P) (.node (o592 P) .nil .nil) .nil) (.node (o464 P) (.node (o722 P) .nil .nil) .nil)) (.node (o269 P) (.node (o397 P) (.node (o656 P) .nil .nil) .nil) (.node (o528 P) (.node (o786 P) .nil .nil) .nil)))) (.node (o87 P) (.node (o119 P) (.node (o186 P) (.node (o317 P) (.node (o576 P) .nil .nil) (.node (o834 P) .nil .nil)) (.node (o448 P) (.node (o706 P) .nil .nil) .nil)) (.node (o253 P) (.node (o381 P) (.node (o640 P) .nil .nil) .nil) (.node (o512 P) (.node (o770 P) .nil .nil) .nil))) (.node (o151 P) (.node (o221 P) (.node (o349 P) (.node (o608 P) .nil .nil) .nil) (.node (o480 P) (.node (o738 P) .nil .nil) .nil)) (.node (o285 P) (.node (o413 P) (.node (o674 P) .nil .nil) .nil) (.node (o544 P) (.node (o802 P) .nil .nil) .nil)))))) (.node (o41 P) (.node (o48 P) (.node (o67 P) (.node (o99 P) (.node (o163 P) (.node (o297 P) (.node (o556 P) .nil .nil) (.node (o814 P) .nil .nil)) (.node (o428 P) (.node (o686 P) .nil .nil) .nil)) (.node (o233 P) (.node (o361 P) (.node (o620 P) .nil .nil) .nil) (.node (o492 P) (.node (o750 P) .nil .nil) .nil))) (.node (o131 P) (.node (o201 P) (.node (o329 P) (.node (o588 P) .nil .nil) (.node (o846 P) .nil .nil)) (.node (o460 P) (.node (o718 P) .nil .nil) .nil)) (.node (o265 P) (.node (o393 P) (.node (o652 P) .nil .nil) .nil) (.node (o524 P) (.node (o782 P) .nil .nil) .nil)))) (.node (o83 P) (.node (o115 P) (.node (o182 P) (.node (o313 P) (.node (o572 P) .nil .nil) (.node (o830 P) .nil .nil)) (.node (o444 P) (.node (o702 P) .nil .nil) .nil)) (.node (o249 P) (.node (o377 P) (.node (o636 P) .nil .nil) .nil) (.node (o508 P) (.node (o766 P) .nil .nil) .nil))) (.node (o147 P) (.node (o217 P) (.node (o345 P) (.node (o604 P) .nil .nil) .nil) (.node (o476 P) (.node (o734 P) .nil .nil) .nil)) (.node (o281 P) (.node (o409 P) (.node (o668 P) .nil .nil) .nil) (.node (o540 P) (.node (o798 P) .nil .nil) .nil))))) (.node (o671 P) (.node (o75 P) (.node (o107 P) (.node (o171 P) (.node (o305 P) (.node (o564 P) .nil .nil) (.node (o822 P) .nil .nil)) (.node (o436 P) (.node (o694 P) .nil .nil) .nil)) (.node (o241 P) (.node (o369 P) (.node (o628 P) .nil .nil) .nil) (.node (o500 P) (.node (o758 P) .nil .nil) .nil))) (.node (o139 P) (.node (o209 P) (.node (o337 P) (.node (o596 P) .nil .nil) .nil) (.node (o468 P) (.node (o726 P) .nil .nil) .nil)) (.node (o273 P) (.node (o401 P) (.node (o660 P) .nil .nil) .nil) (.node (o532 P) (.node (o790 P) .nil .nil) .nil)))) (.node (o91 P) (.node (o123 P) (.node (o193 P) (.node (o321 P) (.node (o580 P) .nil .nil) (.node (o838 P) .nil .nil)) (.node (o452 P) (.node (o710 P) .nil .nil) .nil)) (.node (o257 P) (.node (o385 P) (.node (o644 P) .nil .nil) .nil) (.node (o516 P) (.node (o774 P) .nil .nil) .nil))) (.node (o155 P) (.node (o225 P) (.node (o353 P) (.node (o612 P) .nil .nil) .nil) (.node (o484 P) (.node (o742 P) .nil .nil) .nil)) (.node (o289 P) (.node (o417 P) (.node (o678 P) .nil .nil) .nil) (.node (o548 P) (.node (o806 P) .nil .nil) .nil)))))))))
noncomputable def H1 (P : Params) : Heap := ⟨⟨[o29 P, o30 P, o59 P, o670 P, o33 P, o34 P, o6 P, o35 P, o8 P, o36 P, o37 P, o38 P, o39 P, o40 P, o41 P, o42 P, o43 P, o44 P, o45 P, o46 P, o20 P, o47 P, o48 P, o49 P, o50 P, o51 P, o52 P, o53 P, o54 P, o55 P, o671 P, o57 P, o58 P, o62 P, o63 P, o64 P, o65 P, o66 P, o67 P, o68 P, o69 P, o70 P, o71 P, o72 P, o73 P, o74 P, o75 P, o76 P, o77 P, o78 P, o79 P, o80 P, o81 P, o82 P, o83 P, o84 P, o85 P, o86 P, o87 P, o88 P, o89 P, o90 P, o91 P, o92 P, o93 P, o94 P, o95 P, o96 P, o97 P, o98 P, o99 P, o100 P, o101 P, o102 P, o103 P, o104 P, o105 P, o106 P, o107 P, o108 P, o109 P, o110 P, o111 P, o112 P, o113 P, o114 P, o115 P, o116 P, o117 P, o118 P, o119 P, o120 P, o121 P, o122 P, o123 P, o124 P, o125 P, o126 P, o127 P, o128 P, o129 P, o130 P, o131 P, o132 P, o133 P, o134 P, o135 P, o136 P, o137 P, o138 P, o139 P, o140 P, o141 P, o142 P, o143 P, o144 P, o145 P, o146 P, o147 P, o148 P, o149 P, o150 P, o151 P, o152 P, o153 P, o174 P, o155 P, o156 P, o157 P, o158 P, o159 P, o160 P, o161 P, o162 P, o163 P, o164 P, o165 P, o166 P, o167 P, o168 P, o189 P, o170 P, o171 P, o175 P, o176 P, o177 P, o178 P, o179 P, o180 P, o181 P, o182 P, o183 P, o422 P, o185 P, o186 P, o190 P, o191 P, o192 P, o193 P, o194 P, o195 P, o196 P, o197 P, o198 P, o199 P, o200 P, o201 P, o202 P, o203 P, o204 P, o205 P, o206 P, o207 P, o208 P, o209 P, o210 P, o211 P, o212 P, o213 P, o214 P, o215 P, o216 P, o217 P, o218 P, o219 P, o220 P, o221 P, o222 P, o223 P, o224 P, o225 P, o226 P, o227 P, o228 P, o229 P, o230 P, o231 P, o232 P, o233 P, o234 P, o235 P, o236 P, o237 P, o238 P, o239 P, o240 P, o241 P, o242 P, o243 P, o244 P, o245 P, o246 P, o247 P, o248 P, o249 P, o250 P, o251 P, o252 P, o253 P, o254 P, o255 P, o256 P, o257 P, o258 P, o259 P, o260 P, o261 P, o262 P, o263 P, o264 P, o265 P, o266 P, o267 P, o268 P, o269 P, o270 P, o271 P, o272 P, o273 P, o274 P, o275 P, o276 P, o277 P, o278 P, o279 P, o280 P, o281 P, o282 P, o283 P, o284 P, o285 P, o286 P, o287 P, o288 P, o289 P, o290 P, o291 P, o292 P, o293 P, o294 P, o295 P, o296 P, o297 P, o298 P, o299 P, o300 P, o301 P, o302 P, o303 P, o304 P, o305 P, o306 P, o307 P, o308 P, o309 P, o310 P, o311 P, o312 P, o313 P, o314 P, o315 P, o316 P, o317 P, o318 P, o319 P, o320 P, o321 P, o322 P, o323 P, o324 P, o325 P, o326 P, o327 P, o328 P, o329 P, o330 P, o331 P, o332 P, o333 P, o334 P, o335 P, o336 P, o337 P, o338 P, o339 P, o340 P, o341 P, o342 P, o343 P, o344 P, o345 P, o346 P, o347 P, o348 P, o349 P, o350 P, o351 P, o352 P, o353 P, o354 P, o355 P, o356 P, o357 P, o358 P, o359 P, o360 P, o361 P, o362 P, o363 P, o364 P, o365 P, o366 P, o367 P, o368 P, o369 P, o370 P, o371 P, o372 P, o373 P, o374 P, o375 P, o376 P, o377 P, o378 P, o379 P, o380 P, o381 P, o382 P, o383 P, o384 P, o385 P, o386 P, o387 P, o388 P, o389 P, o390 P, o391 P, o392 P, o393 P, o394 P, o395 P, o396 P, o397 P, o398 P, o399 P, o400 P, o401 P, o402 P, o403 P, o404 P, o405 P, o406 P, o407 P, o408 P, o409 P, o410 P, o411 P, o412 P, o413 P, o414 P, o415 P, o416 P, o417 P, o418 P, o419 P, o423 P, o424 P, o425 P, o426 P, o427 P, o428 P, o429 P, o430 P, o431 P, o432 P, o433 P, o434 P, o435 P, o436 P, o437 P, o438 P, o439 P, o440 P, o441 P, o442 P, o443 P, o444 P, o445 P, o446 P, o447 P, o448 P, o449 P, o450 P, o451 P, o452 P, o453 P, o454 P, o455 P, o456 P, o457 P, o458 P, o459 P, o460 P, o461 P, o462 P, o463 P, o464 P, o465 P, o466 P, o467 P, o468 P, o469 P, o470 P, o471 P, o472 P, o473 P, o474 P, o475 P, o476 P, o477 P, o478 P, o479 P, o480 P, o481 P, o482 P, o483 P, o484 P, o485 P, o486 P, o487 P, o488 P, o489 P, o490 P, o491 P, o492 P, o493 P, o494 P, o495 P, o496 P, o497 P, o498 P, o499 P, o500 P, o501 P, o502 P, o503 P, o504 P, o505 P, o506 P, o507 P, o508 P, o509 P, o510 P, o511 P, o512 P, o513 P, o514 P, o515 P, o516 P, o517 P, o518 P, o519 P, o520 P, o521 P, o522 P, o523 P, o524 P, o525 P, o526 P, o527 P, o528 P, o529 P, o530 P, o531 P, o532 P, o533 P, o534 P, o535 P, o536 P, o537 P, o538 P, o539 P, o540 P, o541 P, o542 P, o543 P, o544 P, o545 P, o546 P, o547 P, o548 P, o549 P, o550 P, o551 P, o552 P, o553 P, o554 P, o555 P, o556 P, o557 P, o558 P, o559 P, o560 P, o561 P, o562 P, o563 P, o564 P, o565 P, o566 P, o567 P, o568 P, o569 P, o570 P, o571 P, o572 P, o573 P, o574 P, o575 P, o576 P, o577 P, o578 P, o579 P, o580 P, o581 P, o582 P, o583 P, o584 P, o585 P, o586 P, o587 P, o588 P, o589 P, o590 P, o591 P, o592 P, o593 P, o594 P, o595 P, o596 P, o597 P, o598 P, o599 P, o600 P, o601 P, o602 P, o603 P, o604 P, o605 P, o606 P, o607 P, o608 P, o609 P, o610 P, o611 P, o612 P, o613 P, o614 P, o615 P, o616 P, o617 P, o618 P, o619 P, o620 P, o621 P, o622 P, o623 P, o624 P, o625 P, o626 P, o627 P, o628 P, o629 P, o630 P, o631 P, o632 P, o633 P, o634 P, o635 P, o636 P, o637 P, o638 P, o639 P, o640 P, o641 P, o642 P, o643 P, o644 P, o645 P, o646 P, o647 P, o648 P, o649 P, o650 P, o651 P, o652 P, o653 P, o654 P, o655 P, o656 P, o657 P, o658 P, o659 P, o660 P, o661 P, o662 P, o663 P, o664 P, o665 P, o666 P, o667 P, o668 P, o669 P, o672 P, o673 P, o674 P, o675 P, o676 P, o677 P, o678 P, o679 P, o680 P, o681 P, o682 P, o683 P, o684 P, o685 P, o686 P, o687 P, o688 P, o689 P, o690 P, o691 P, o692 P, o693 P, o694 P, o695 P, o696 P, o697 P, o698 P, o699 P, o700 P, o701 P, o702 P, o703 P, o704 P, o705 P, o706 P, o707 P, o708 P, o709 P, o710 P, o711 P, o712 P, o713 P, o714 P, o715 P, o716 P, o717 P, o718 P, o719 P, o720 P, o721 P, o722 P, o723 P, o724 P, o725 P, o726 P, o727 P, o728 P, o729 P, o730 P, o731 P, o732 P, o733 P, o734 P, o735 P, o736 P, o737 P, o738 P, o739 P, o740 P, o741 P, o742 P, o743 P, o744 P, o745 P, o746 P, o747 P, o748 P, o749 P, o750 P, o751 P, o752 P, o753 P, o754 P, o755 P, o756 P, o757 P, o758 P, o759 P, o760 P, o761 P, o762 P, o763 P, o764 P, o765 P, o766 P, o767 P, o768 P, o769 P, o770 P, o771 P, o772 P, o773 P, o774 P, o775 P, o776 P, o777 P, o778 P, o779 P, o780 P, o781 P, o782 P, o783 P, o784 P, o785 P, o786 P, o787 P, o788 P, o789 P, o790 P, o791 P, o792 P, o793 P, o794 P, o795 P, o796 P, o797 P, o798 P, o799 P, o800 P, o801 P, o802 P, o803 P, o804 P, o805 P, o806 P, o807 P, o808 P, o809 P, o810 P, o811 P, o812 P, o813 P, o814 P, o815 P, o816 P, o817 P, o818 P, o819 P, o820 P, o821 P, o822 P, o823 P, o824 P, o825 P, o826 P, o827 P, o828 P, o829 P, o830 P, o831 P, o832 P, o833 P, o834 P, o835 P, o836 P, o837 P, o838 P, o839 P, o840 P, o841 P, o842 P, o843 P, o844 P, o845 P, o846 P, o847 P]⟩, (Life.mk [] [] [] 0 [] [] false #[] [] 0 false false false 0 [2000, 10, 10] false 0 true [] [] 0 false)⟩
noncomputable def K (P : Params) : Frag := (nat_lit 2, o59 P) :: (nat_lit 3, o670 P) :: (nat_lit 33, o62 P) :: (nat_lit 35, o64 P) :: (nat_lit 36, o65 P) :: (nat_lit 38, o67 P) :: (nat_lit 39, o68 P) :: (nat_lit 47, o76 P) :: (nat_lit 49, o78 P) :: (nat_lit 50, o79 P) :: (nat_lit 52, o81 P) :: (nat_lit 53, o82 P) :: (nat_lit 54, o83 P) :: (nat_lit 56, o85 P) :: (nat_lit 57, o86 P) :: (nat_lit 59, o88 P) :: (nat_lit 60, o89 P) :: (nat_lit 61, o90 P) :: (nat_lit 63, o92 P) :: (nat_lit 64, o93 P) :: (nat_lit 66, o95 P) :: (nat_lit 67, o96 P) :: (nat_lit 76, o105 P) :: (nat_lit 77, o106 P) :: (nat_lit 89, o118 P) :: (nat_lit 91, o120 P) :: (nat_lit 92, o121 P) :: (nat_lit 94, o123 P) :: (nat_lit 95, o124 P) :: (nat_lit 104, o133 P) :: (nat_lit 105, o134 P) :: (nat_lit 116, o145 P) :: (nat_lit 118, o147 P) :: (nat_lit 119, o148 P) :: (nat_lit 121, o150 P) :: (nat_lit 122, o151 P) :: (nat_lit 124, o153 P) :: (nat_lit 125, o174 P) :: (nat_lit 126, o155 P) :: (nat_lit 139, o168 P) :: (nat_lit 140, o189 P) :: (nat_lit 151, o183 P) :: (nat_lit 152, o422 P) :: (nat_lit 381, o416 P) :: (nat_lit 382, o417 P) :: (nat_lit 392, o430 P) :: (nat_lit 393, o431 P) :: (nat_lit 395, o433 P) :: (nat_lit 396, o434 P) :: (nat_lit 398, o436 P) :: (nat_lit 399, o437 P) :: (nat_lit 400, o438 P) :: (nat_lit 402, o440 P) :: (nat_lit 403, o441 P) :: (nat_lit 405, o443 P) :: (nat_lit 406, o444 P) :: (nat_lit 407, o445 P) :: (nat_lit 409, o447 P) :: (nat_lit 410, o448 P) :: (nat_lit 412, o450 P) :: (nat_lit 413, o451 P) :: (nat_lit 568, o606 P) :: (nat_lit 569, o607 P) :: (nat_lit 571, o609 P) :: (nat_lit 572, o610 P) :: (nat_lit 574, o612 P) :: (nat_lit 575, o613 P) :: (nat_lit 628, o666 P) :: (nat_lit 629, o667 P) :: (nat_lit 681, o721 P) :: (nat_lit 682, o722 P) :: (nat_lit 684, o724 P) :: (nat_lit 685, o725 P) :: (nat_lit 687, o727 P) :: (nat_lit 688, o728 P) :: (nat_lit 689, o729 P) :: (nat_lit 691, o731 P) :: (nat_lit 692, o732 P) :: (nat_lit 694, o734 P) :: (nat_lit 695, o735 P) :: (nat_lit 696, o736 P) :: (nat_lit 719, o759 P) :: (nat_lit 721, o761 P) :: (nat_lit 722, o762 P) :: (nat_lit 724, o764 P) :: (nat_lit 725, o765 P) :: (nat_lit 726, o766 P) :: (nat_lit 728, o768 P) :: (nat_lit 729, o769 P) :: (nat_lit 731, o771 P) :: (nat_lit 732, o772 P) :: (nat_lit 748, o788 P) :: (nat_lit 750, o790 P) :: (nat_lit 751, o791 P) :: (nat_lit 753, o793 P) :: (nat_lit 754, o794 P) :: (nat_lit 755, o795 P) :: (nat_lit 757, o797 P) :: (nat_lit 758, o798 P) :: (nat_lit 760, o800 P) :: (nat_lit 761, o801 P) :: (nat_lit 763, o803 P) :: (nat_lit 764, o804 P) :: (nat_lit 769, o809 P) :: (nat_lit 770, o810 P) :: (nat_lit 772, o812 P) :: (nat_lit 773, o813 P) :: (nat_lit 775, o815 P) :: (nat_lit 776, o816 P) :: (nat_lit 777, o817 P) :: (nat_lit 779, o819 P) :: (nat_lit 780, o820 P) :: (nat_lit 782, o822 P) :: (nat_lit 783, o823 P) :: (nat_lit 784, o824 P) :: (nat_lit 787, o827 P) :: (nat_lit 788, o828 P) :: (nat_lit 789, o829 P) :: (nat_lit 791, o831 P) :: (nat_lit 792, o832 P) :: (nat_lit 794, o834 P) :: (nat_lit 795, o835 P) :: (nat_lit 796, o836 P) :: (nat_lit 798, o838 P) :: (nat_lit 799, o839 P) :: (nat_lit 801, o841 P) :: (nat_lit 802, o842 P) :: (nat_lit 803, o843 P) :: (nat_lit 806, o846 P) :: (nat_lit 807, o847 P) :: []
noncomputable def Kas : List Addr := [2, 3, 33, 35, 36, 38, 39, 47, 49, 50, 52, 53, 54, 56, 57, 59, 60, 61, 63, 64, 66, 67, 76, 77, 89, 91, 92, 94, 95, 104, 105, 116, 118, 119, 121, 122, 124, 125, 126, 139, 140, 151, 152, 381, 382, 392, 393, 395, 396, 398, 399, 400, 402, 403, 405, 406, 407, 409, 410, 412, 413, 568, 569, 571, 572, 574, 575, 628, 629, 681, 682, 684, 685, 687, 688, 689, 691, 692, 694, 695, 696, 719, 721, 722, 724, 725, 726, 728, 729, 731, 732, 748, 750, 751, 753, 754, 755, 757, 758, 760, 761, 763, 764, 769, 770, 772, 773, 775, 776, 777, 779, 780, 782, 783, 784, 787, 788, 789, 791, 792, 794, 795, 796, 798, 799, 801, 802, 803, 806, 807]
noncomputable def envE : Env := { scope := pE.main.scope, locals := mainNs, globals := mainNs, cells := [], code := (.ref 31), frame := some 32 }
noncomputable def bE : List Stmt := behindTheImports pE
noncomputable def cE : Code := .body bE envE
noncomputable def qPos : Pos := ⟨0, 0, 0, 0⟩
noncomputable def fr : List Frame := [topFrame qPos]
theorem open1 (w : World) : importEnds treeTable (opening pE) w 829 (start (opening pE)).1 (start (opening pE)).2 = some ⟨He w.params, [].toArray, (Drawn.mk 0 0 0 0), 273, (start (opening pE)).1.os⟩ := by
  rewrite [PySem.W.Fast.te10274390034422433532, PySem.W.Fast.te14364793385576792824, PySem.W.Fast.te1435165496053646825]; kernel_rfl
theorem fence1 (w : World) : (fun os => (fenceModules? pE ⟨He w.params, [].toArray, (Drawn.mk 0 0 0 0), 273, os⟩).map (fun s => (s.heap, s.gens, s.drawn, s.toks))) = fun _ => some (H0 w.params, [].toArray, (Drawn.mk 0 0 0 0), 273) := by
  rewrite [PySem.W.Fast.te14289696077712309145]; kernel_rfl
theorem size1 (w : World) : ((H0 w.params).isNs mainGlobals && ([].toArray : Array GenState).size == 0, (H0 w.params).objs.size, (H0 w.params).nsMap mainGlobals "__annotations__") = (true, 29, ((some (Value.ref 6)) : Option Value)) := by
  rewrite [PySem.W.Fast.te8920871248978507458]; kernel_rfl
theorem pre1 (w : World) : (fun os => topGo treeTable pE w 29 (some (Value.ref 6)) 12 ⟨H0 w.params, [].toArray, (Drawn.mk 0 0 0 0), 273, os⟩ (topStub pE)) = fun os => some ((⟨Ha w.params, [].toArray, (Drawn.mk 0 0 0 0), 279, os⟩ : Shared), (⟨denote treeTable cE, cE, ⟨0, 0, 0, 0⟩, fr⟩ : Thread)) := by
  rewrite [PySem.W.Fast.te15667345088766844465, PySem.W.Fast.te14364793385576792824, PySem.W.Fast.te11892475500146522536]; kernel_rfl
theorem block1 (w : World) : (fun os => segRun treeTable pE w 29 (some (Value.ref 6)) 1 1 ⟨Ha w.params, [].toArray, (Drawn.mk 0 0 0 0), 279, os⟩ (blockOf bE envE cE ⟨0, 0, 0, 0⟩ fr)) = fun os => some (Flow.next, (⟨T0 w.params, 33, (Life.mk [] [] [] 0 [] [] Bool.false (List.toArray []) [] 0 Bool.false Bool.false Bool.false 0 [2000, 10, 10] Bool.false 0 Bool.true [] [] 0 Bool.false), [].toArray, (Drawn.mk 0 0 0 0), 279, os⟩ : SharedT).abs, cE, ⟨0, 0, 0, 0⟩) := by
  rewrite [PySem.W.Fast.te14374325043358763698, PySem.W.Fast.te14364793385576792824]; kernel_rfl
noncomputable def g1 : List Stmt := (bE.drop 0).take 9
theorem piece1 (w : World) : (fun os => segRunT treeTable pE w 29 (some (Value.ref 6)) 1 1101 ⟨T0 w.params, 33, (Life.mk [] [] [] 0 [] [] Bool.false (List.toArray []) [] 0 Bool.false Bool.false Bool.false 0 [2000, 10, 10] Bool.false 0 Bool.true [] [] 0 Bool.false), [].toArray, (Drawn.mk 0 0 0 0), 279, os⟩ (piecesOf g1 envE cE ⟨0, 0, 0, 0⟩ fr)) = fun os => some (Flow.next, (⟨T1 w.params, 143, (Life.mk [] [] [] 0 [] [] Bool.false (List.toArray []) [] 0 Bool.false Bool.false Bool.false 0 [2000, 10, 10] Bool.false 0 Bool.true [] [] 0 Bool.false), [].toArray, (Drawn.mk 0 0 0 0), 436, os⟩ : SharedT), cE, ⟨71, 0, 72, 21⟩) := by
  rewrite [PySem.W.Fast.te10110043849684766642, PySem.W.Fast.te14364793385576792824]; kernel_rfl
noncomputable def g2 : List Stmt := (bE.drop 9).take 1
theorem piece2 (w : World) : (fun os => segRunT treeTable pE w 29 (some (Value.ref 6)) 1 224 ⟨T1 w.params, 143, (Life.mk [] [] [] 0 [] [] Bool.false (List.toArray []) [] 0 Bool.false Bool.false Bool.false 0 [2000, 10, 10] Bool.false 0 Bool.true [] [] 0 Bool.false), [].toArray, (Drawn.mk 0 0 0 0), 436, os⟩ (piecesOf g2 envE cE ⟨71, 0, 72, 21⟩ fr)) = fun os => some (Flow.next, (⟨T2 w.params, 155, (Life.mk [] [] [] 0 [] [] Bool.false (List.toArray []) [] 0 Bool.false Bool.false Bool.false 0 [2000, 10, 10] Bool.false 0 Bool.true [] [] 0 Bool.false), [].toArray, (Drawn.mk 0 0 0 0), 454, os⟩ : SharedT), cE, ⟨73, 0, 74, 21⟩) := by
  rewrite [PySem.W.Fast.te10110043849684766642, PySem.W.Fast.te14364793385576792824]; kernel_rfl
noncomputable def g3 : List Stmt := (bE.drop 10).take 1
theorem piece3 (w : World) : (fun os => segRunT treeTable pE w 29 (some (Value.ref 6)) 1 1278 ⟨T2 w.params, 155, (Life.mk [] [] [] 0 [] [] Bool.false (List.toArray []) [] 0 Bool.false Bool.false Bool.false 0 [2000, 10, 10] Bool.false 0 Bool.true [] [] 0 Bool.false), [].toArray, (Drawn.mk 0 0 0 0), 454, os⟩ (piecesOf g3 envE cE ⟨73, 0, 74, 21⟩ fr)) = fun os => some (Flow.next, (⟨T3 w.params, 385, (Life.mk [] [] [] 0 [] [] Bool.false (List.toArray []) [] 0 Bool.false Bool.false Bool.false 0 [2000, 10, 10] Bool.false 0 Bool.true [] [] 0 Bool.false), [].toArray, (Drawn.mk 0 0 0 0), 716, os⟩ : SharedT), cE, ⟨75, 0, 244, 17⟩) := by
  rewrite [PySem.W.Fast.te10110043849684766642, PySem.W.Fast.te14364793385576792824]; kernel_rfl
noncomputable def g4 : List Stmt := (bE.drop 11).take 1
theorem piece4 (w : World) : (fun os => segRunT treeTable pE w 29 (some (Value.ref 6)) 1 1578 ⟨T3 w.params, 385, (Life.mk [] [] [] 0 [] [] Bool.false (List.toArray []) [] 0 Bool.false Bool.false Bool.false 0 [2000, 10, 10] Bool.false 0 Bool.true [] [] 0 Bool.false), [].toArray, (Drawn.mk 0 0 0 0), 716, os⟩ (piecesOf g4 envE cE ⟨75, 0, 244, 17⟩ fr)) = fun os => some (Flow.next, (⟨T4 w.params, 632, (Life.mk [] [] [] 0 [] [] Bool.false (List.toArray []) [] 0 Bool.false Bool.false Bool.false 0 [2000, 10, 10] Bool.false 0 Bool.true [] [] 0 Bool.false), [].toArray, (Drawn.mk 0 0 0 0), 1003, os⟩ : SharedT), cE, ⟨245, 0, 449, 17⟩) := by
  rewrite [PySem.W.Fast.te10110043849684766642, PySem.W.Fast.te14364793385576792824]; kernel_rfl
noncomputable def g5 : List Stmt := (bE.drop 12).take 16
theorem piece5 (w : World) : (fun os => segRunT treeTable pE w 29 (some (Value.ref 6)) 1 1032 ⟨T4 w.params, 632, (Life.mk [] [] [] 0 [] [] Bool.false (List.toArray []) [] 0 Bool.false Bool.false Bool.false 0 [2000, 10, 10] Bool.false 0 Bool.true [] [] 0 Bool.false), [].toArray, (Drawn.mk 0 0 0 0), 1003, os⟩ (piecesOf g5 envE cE ⟨245, 0, 449, 17⟩ fr)) = fun os => some (Flow.next, (⟨T5 w.params, 808, (Life.mk [] [] [] 0 [] [] Bool.false (List.toArray []) [] 0 Bool.false Bool.false Bool.false 0 [2000, 10, 10] Bool.false 0 Bool.true [] [] 0 Bool.false), [].toArray, (Drawn.mk 0 0 0 0), 1259, os⟩ : SharedT), cE, ⟨809, 0, 812, 64⟩) := by
  rewrite [PySem.W.Fast.te10110043849684766642, PySem.W.Fast.te14364793385576792824]; kernel_rfl
theorem fin1 (w : World) : (fun os => topRun treeTable pE w 29 (some (Value.ref 6)) 2 (⟨T5 w.params, 808, (Life.mk [] [] [] 0 [] [] Bool.false (List.toArray []) [] 0 Bool.false Bool.false Bool.false 0 [2000, 10, 10] Bool.false 0 Bool.true [] [] 0 Bool.false), [].toArray, (Drawn.mk 0 0 0 0), 1259, os⟩ : SharedT).abs ⟨doneF .next, cE, ⟨809, 0, 812, 64⟩, fr⟩) = fun os => some ⟨H1 w.params, [].toArray, (Drawn.mk 0 0 0 0), 1259, os⟩ := by
  rewrite [PySem.W.Fast.te14082659384304107361, PySem.W.Fast.te14364793385576792824]; kernel_rfl
theorem body1 : bE = g1 ++ (g2 ++ (g3 ++ (g4 ++ (g5 ++ [])))) := by
  kernel_rfl
theorem run1 (w : World) (os : OsState) : topRun treeTable pE w 29 (some (Value.ref 6)) (12 + (1 + (1101 + (224 + (1278 + (1578 + (1032 + 2))))))) ⟨H0 w.params, [].toArray, (Drawn.mk 0 0 0 0), 273, os⟩ (topStub pE) = some ⟨H1 w.params, [].toArray, (Drawn.mk 0 0 0 0), 1259, os⟩ :=
  go_top (congrFun (pre1 w) os) (piece_block (congrFun (block1 w) os) (body1 ▸ (piece_app (segRun_of (congrFun (piece1 w) os)) (piece_app (segRun_of (congrFun (piece2 w) os)) (piece_app (segRun_of (congrFun (piece3 w) os)) (piece_app (segRun_of (congrFun (piece4 w) os)) (piece_app (segRun_of (congrFun (piece5 w) os)) (congrFun (fin1 w) os))))))))
theorem open2 : ∀ w : World, (fencedOpening treeTable pE w 10542).map (fun s => (s.heap, s.gens, s.drawn, s.toks)) = some (H0 w.params, [].toArray, (Drawn.mk 0 0 0 0), 273) := open_cut (p := pE) (N := 10542) (M := 829) (He := He) (H₀ := H0) open1 (by kernel_rfl) fence1
noncomputable def lawSt : Stmt := stAt 28
noncomputable def q : Program := { pE with main := { pE.main with body := [lawSt] } }
noncomputable def loose : List Str := [ofString "deque", ofString "_wall", ofString "_netrclex", ofString "_whence", ofString "_index", ofString "UnsupportedOperation", ofString "IOBase", ofString "BufferedIOBase", ofString "TextIOBase", ofString "BytesIO", ofString "StringIO", ofString "_kind", ofString "_fspath", ofString "_check_arg_types", ofString "isabs", ofString "join", ofString "dirname", ofString "shlex", ofString "split", ofString "_law_parts", ofString "_law_due", ofString "_law_read", ofString "_law_holds"]
noncomputable def H : Hook := kHook K Kas (fun _ => by kernel_rfl)
noncomputable abbrev Xt : Shared → Bool := fun s => xlAt q [] s && recOk ((OpenRow.toRowW (OpenLaw.row PySem.Challenge.rw_oy0313_02)).records) s
noncomputable abbrev sF (w : World) (os : OsState) : Shared := ⟨H1 w.params, [].toArray, (Drawn.mk 0 0 0 0), 1259, os⟩
theorem looks0 (w : World) : (fun os => (staticsOk (importedModules pE.main.body) (H0 w.params) (H1 w.params) && namesBound pE (H1 w.params) && gensDone (sF w os) && laidKept (H0 w.params) (H1 w.params))) = fun _ => true := by
  (try unfold sF); rewrite [PySem.W.Fast.te5923862056798008813]; kernel_rfl
theorem looks1 (w : World) : (fun os => seen ((recsOf q).map (·.name)) (ownsOf q) [] { sF w os with gens := #[] }) = fun _ => expectedOf q := by
  (try unfold sF); (try unfold Xt); rewrite [PySem.W.Fast.te5160383126252970620, PySem.W.R.mapR_eq, PySem.W.Fast.te3399658132070893891, PySem.W.Fast.te5991557255702980513]; kernel_rfl
theorem looks2 (w : World) : (fun os => (sF w os).heap.bltView) = fun _ => bltViewBooted := by
  (try unfold sF); (try unfold Xt); kernel_rfl
theorem looks3 (w : World) : (fun os => (sF w os).heap.keysOk (looseW q loose) ((recsOf q).map (·.name)) ((litsOf q).map (·.1)) ((clssOf q (looseW q loose)).map (·.name)) && (sF w os).heap.accountedOkI (importedModules pE.main.body) && (sF w os).heap.isNs mainGlobals && (sF w os).heap.isNs builtinsNs && tablesOk q (sF w os).heap && Xt (sF w os) && (sF w os).gens.size == 0) = fun _ => true := by
  (try unfold sF); (try unfold Xt); rewrite [PySem.W.Fast.te10880121769531294198, PySem.W.Fast.te821141287760084731, PySem.W.R.mapR_eq, PySem.W.Fast.te3399658132070893891, PySem.W.Fast.te7409074990110511671, PySem.W.Fast.te13664370479719496447, PySem.W.Fast.te14722251495701143533, PySem.W.Fast.te5923862056798008813, PySem.W.Fast.te10994771534591457954, PySem.W.Fast.te2368527892694137696]; kernel_rfl
theorem looks4 (w : World) : (fun os => tabsOk q (sF w os)) = fun _ => true := by
  (try unfold sF); (try unfold Xt); rewrite [PySem.W.Fast.te479339242167458305]; kernel_rfl
theorem looks5 (w : World) : (fun os => pinSeenD q (drecsOf q) (sF w os)) = fun _ => pinGoodD (drecsOf q) := by
  (try unfold sF); (try unfold Xt); rewrite [PySem.W.Fast.te16090120013241838585, PySem.W.Fast.te3247288618530077131]; kernel_rfl
theorem looks6 (w : World) : (fun os => plainSeenE q (looseW q loose) (sF w os)) = fun _ => plainGoodE q (looseW q loose) := by
  (try unfold sF); (try unfold Xt); rewrite [PySem.W.Fast.te2386780881361962483, PySem.W.Fast.te821141287760084731]; kernel_rfl
theorem looks7 (w : World) : (fun os => plainSeenD q loose (sF w os)) = fun _ => plainGoodD q loose := by
  (try unfold sF); (try unfold Xt); rewrite [PySem.W.Fast.te11698064438423848299]; kernel_rfl
theorem looks8 (w : World) : (fun os => wideSeen q (sF w os)) = fun _ => wideGood q := by
  (try unfold sF); (try unfold Xt); rewrite [PySem.W.Fast.te7317090234206586261]; kernel_rfl
theorem looks9 (w : World) : (fun os => clsSeenW q loose (sF w os)) = fun _ => clsGoodW q loose := by
  (try unfold sF); (try unfold Xt); rewrite [PySem.W.Fast.te7369524293546568484]; kernel_rfl
theorem looksK (w : World) : Kas.map (H1 w.params).get? = (K w.params).map fun p => some p.2 := by
  rewrite [PySem.W.R.mapR_eq]; kernel_rfl
theorem looksA (w : World) : (fun os => ((staticsOk (importedModules pE.main.body) (H0 w.params) (H1 w.params) && namesBound pE (H1 w.params) && gensDone (sF w os) && laidKept (H0 w.params) (H1 w.params)), openSeen q loose (importedModules pE.main.body) Xt true (sF w os), H.obs (sF w os))) = fun _ => (true, openGood q loose, H.val w) := by
  funext os
  exact looks_pair (congrFun (looks0 w) os) (looks_pair (looks_pair (congrFun (looks1 w) os) (looks_pair (congrFun (looks2 w) os) (looks_pair (congrFun (looks3 w) os) (looks_pair (congrFun (looks4 w) os) (looks_pair (congrFun (looks5 w) os) (looks_pair (congrFun (looks6 w) os) (looks_pair (congrFun (looks7 w) os) (looks_pair (congrFun (looks8 w) os) (congrFun (looks9 w) os))))))))) (looksK w))
theorem left1 : LeftO pE q loose Xt H.obs H.val 10542 :=
  LeftO.of_pieces open2 size1 run1 (by kernel_rfl) looksA
set_option maxHeartbeats 8000000
section
theorem gen_toks {M : Model} {A : Around} {α : Type} {t : Sem α} {Q : α → Shared → Prop} {E : Value → Shared → Prop} {h : Heap} {g d o} {tk : Tok} (H : ∀ tk, wpAny M A t Q E (Shared.mk h g d tk o)) : wpAny M A t Q E (Shared.mk h g d tk o) := H tk
theorem lw {n k m N : Nat} (h : n + k < N) (e : Nat.ble m k = true) : n + m < N := Nat.lt_of_le_of_lt (Nat.add_le_add_left (Nat.le_of_ble_eq_true e) n) h
theorem lw0 {n k N : Nat} (h : n + k < N := by assumption) : n < N := Nat.lt_of_le_of_lt (Nat.le_add_right n k) h
theorem lw1 {n k m N : Nat} (h : n + k < N := by assumption) (e : Nat.ble m k = true := by rfl) : n + m < N := lw h e
theorem lw2 {n k m m' N : Nat} (h : n + k < N := by assumption) (e : Nat.ble (m + m') k = true := by rfl) : n + m + m' < N := Nat.add_assoc n m m' ▸ lw h e
theorem lw3 {n k m m' m₂ N : Nat} (h : n + k < N := by assumption) (e : Nat.ble (m + m' + m₂) k = true := by rfl) : n + m + m' + m₂ < N := by rw [Nat.add_assoc n m m']; exact lw2 h e
section
variable {x d : Nat} {a b c e f : Prop}
theorem ng0 (h : x < d := by assumption) : d ≠ x := Nat.ne_of_gt h
theorem nl0 (h : x < d := by assumption) : x ≠ d := Nat.ne_of_lt h
theorem ng1 (h : x < d ∧ b := by assumption) : d ≠ x := Nat.ne_of_gt h.1
theorem nl1 (h : x < d ∧ b := by assumption) : x ≠ d := Nat.ne_of_lt h.1
theorem ng2 (h : a ∧ x < d ∧ b := by assumption) : d ≠ x := Nat.ne_of_gt h.2.1
theorem nl2 (h : a ∧ x < d ∧ b := by assumption) : x ≠ d := Nat.ne_of_lt h.2.1
theorem ng3 (h : a ∧ c ∧ x < d ∧ b := by assumption) : d ≠ x := Nat.ne_of_gt h.2.2.1
theorem nl3 (h : a ∧ c ∧ x < d ∧ b := by assumption) : x ≠ d := Nat.ne_of_lt h.2.2.1
theorem ng4 (h : a ∧ c ∧ e ∧ x < d ∧ b := by assumption) : d ≠ x := Nat.ne_of_gt h.2.2.2.1
theorem nl4 (h : a ∧ c ∧ e ∧ x < d ∧ b := by assumption) : x ≠ d := Nat.ne_of_lt h.2.2.2.1
theorem ng5 (h : a ∧ c ∧ e ∧ f ∧ x < d ∧ b := by assumption) : d ≠ x := Nat.ne_of_gt h.2.2.2.2.1
theorem nl5 (h : a ∧ c ∧ e ∧ f ∧ x < d ∧ b := by assumption) : x ≠ d := Nat.ne_of_lt h.2.2.2.2.1
end
theorem mem_pick {α : Type} {p : α} {pre rest led : List α} (f : List Nat) (e : f.filterMap (pre[·]?) ++ rest = led) (h : p ∈ led) : p ∈ pre ++ rest := by
  subst e
  rcases List.mem_append.mp h with h | h
  · obtain ⟨i, _, hi⟩ := List.mem_filterMap.mp h
    exact List.mem_append.mpr (.inl (List.mem_of_getElem? hi))
  · exact List.mem_append.mpr (.inr h)
theorem news_pick {h₀ h : Heap} {L : Addr} {pre rest led : List (Addr × Obj)} (f : List Nat) (e : f.filterMap (pre[·]?) ++ rest = led) (N : News h₀ L h (pre ++ rest)) : News h₀ L h led := fun p hp => N p (mem_pick f e hp)
theorem nW : Nonempty World := ⟨fun _ _ => 0, { strHash := fun _ => 0, shareClass := fun _ => 0, mergeTok := id, idOf := fun _ => 0, idOfShared := fun _ _ => 0, followText := fun _ => false, idOfImm := fun _ => 0 }⟩
theorem nA : Nonempty Around := ⟨{}⟩
theorem nS : Nonempty Shared := ⟨{}⟩
theorem nP {α β : Type} : Nonempty α → Nonempty β → Nonempty (α × β) := fun ⟨a⟩ ⟨b⟩ => ⟨a, b⟩
section
variable {Ta Tb Tc Td Te Tf Tg Ti Tj Tk Tl Tm Tn To Tp Tq Tr Ts Tt Tu Tv Tw Ty Tz Tα Tβ Tγ Tδ Tε Tζ Tη Tθ Tι Tκ Tμ Tν Tξ Tο Tρ Tσ : Type}
def Hd23 (P : Ta → Tb → Tc → Td → Te → Tf → Tg → Ti → Tj → Tk → Tl → Tm → Tn → To → Tp → Tq → Tr → Ts → Tt → Tu → Tv → Tw → Ty → Prop) a b c d e f g i j k l m n o p q r s t u v w y := P a b c d e f g i j k l m n o p q r s t u v w y
def hp23 (P : Ta → Tb → Tc → Td → Te → Tf → Tg → Ti → Tj → Tk → Tl → Tm → Tn → To → Tp → Tq → Tr → Ts → Tt → Tu → Tv → Tw → Ty → Prop) (x : Ta × Tb × Tc × Td × Te × Tf × Tg × Ti × Tj × Tk × Tl × Tm × Tn × To × Tp × Tq × Tr × Ts × Tt × Tu × Tv × Tw × Ty) := ¬ P x.1 x.2.1 x.2.2.1 x.2.2.2.1 x.2.2.2.2.1 x.2.2.2.2.2.1 x.2.2.2.2.2.2.1 x.2.2.2.2.2.2.2.1 x.2.2.2.2.2.2.2.2.1 x.2.2.2.2.2.2.2.2.2.1 x.2.2.2.2.2.2.2.2.2.2.1 x.2.2.2.2.2.2.2.2.2.2.2.1 x.2.2.2.2.2.2.2.2.2.2.2.2.1 x.2.2.2.2.2.2.2.2.2.2.2.2.2.1 x.2.2.2.2.2.2.2.2.2.2.2.2.2.2.1 x.2.2.2.2.2.2.2.2.2.2.2.2.2.2.2.1 x.2.2.2.2.2.2.2.2.2.2.2.2.2.2.2.2.1 x.2.2.2.2.2.2.2.2.2.2.2.2.2.2.2.2.2.1 x.2.2.2.2.2.2.2.2.2.2.2.2.2.2.2.2.2.2.1 x.2.2.2.2.2.2.2.2.2.2.2.2.2.2.2.2.2.2.2.1 x.2.2.2.2.2.2.2.2.2.2.2.2.2.2.2.2.2.2.2.2.1 x.2.2.2.2.2.2.2.2.2.2.2.2.2.2.2.2.2.2.2.2.2.1 x.2.2.2.2.2.2.2.2.2.2.2.2.2.2.2.2.2.2.2.2.2.2
noncomputable def hx23 (e : Nonempty (Ta × Tb × Tc × Td × Te × Tf × Tg × Ti × Tj × Tk × Tl × Tm × Tn × To × Tp × Tq × Tr × Ts × Tt × Tu × Tv × Tw × Ty)) (P : Ta → Tb → Tc → Td → Te → Tf → Tg → Ti → Tj → Tk → Tl → Tm → Tn → To → Tp → Tq → Tr → Ts → Tt → Tu → Tv → Tw → Ty → Prop) := @Classical.epsilon _ e (hp23 P)
theorem hk23 (e : Nonempty (Ta × Tb × Tc × Td × Te × Tf × Tg × Ti × Tj × Tk × Tl × Tm × Tn × To × Tp × Tq × Tr × Ts × Tt × Tu × Tv × Tw × Ty)) {P : Ta → Tb → Tc → Td → Te → Tf → Tg → Ti → Tj → Tk → Tl → Tm → Tn → To → Tp → Tq → Tr → Ts → Tt → Tu → Tv → Tw → Ty → Prop} (h : let x := hx23 e P; Hd23 P x.1 x.2.1 x.2.2.1 x.2.2.2.1 x.2.2.2.2.1 x.2.2.2.2.2.1 x.2.2.2.2.2.2.1 x.2.2.2.2.2.2.2.1 x.2.2.2.2.2.2.2.2.1 x.2.2.2.2.2.2.2.2.2.1 x.2.2.2.2.2.2.2.2.2.2.1 x.2.2.2.2.2.2.2.2.2.2.2.1 x.2.2.2.2.2.2.2.2.2.2.2.2.1 x.2.2.2.2.2.2.2.2.2.2.2.2.2.1 x.2.2.2.2.2.2.2.2.2.2.2.2.2.2.1 x.2.2.2.2.2.2.2.2.2.2.2.2.2.2.2.1 x.2.2.2.2.2.2.2.2.2.2.2.2.2.2.2.2.1 x.2.2.2.2.2.2.2.2.2.2.2.2.2.2.2.2.2.1 x.2.2.2.2.2.2.2.2.2.2.2.2.2.2.2.2.2.2.1 x.2.2.2.2.2.2.2.2.2.2.2.2.2.2.2.2.2.2.2.1 x.2.2.2.2.2.2.2.2.2.2.2.2.2.2.2.2.2.2.2.2.1 x.2.2.2.2.2.2.2.2.2.2.2.2.2.2.2.2.2.2.2.2.2.1 x.2.2.2.2.2.2.2.2.2.2.2.2.2.2.2.2.2.2.2.2.2.2) a b c d e f g i j k l m n o p q r s t u v w y : P a b c d e f g i j k l m n o p q r s t u v w y := Classical.byContradiction fun z0 => Classical.epsilon_spec (p := hp23 P) ⟨(a, b, c, d, e, f, g, i, j, k, l, m, n, o, p, q, r, s, t, u, v, w, y), z0⟩ h
def Hd32 (P : Ta → Tb → Tc → Td → Te → Tf → Tg → Ti → Tj → Tk → Tl → Tm → Tn → To → Tp → Tq → Tr → Ts → Tt → Tu → Tv → Tw → Ty → Tz → Tα → Tβ → Tγ → Tδ → Tε → Tζ → Tη → Tθ → Prop) a b c d e f g i j k l m n o p q r s t u v w y z α β γ δ ε ζ η θ := P a b c d e f g i j k l m n o p q r s t u v w y z α β γ δ ε ζ η θ
def hp32 (P : Ta → Tb → Tc → Td → Te → Tf → Tg → Ti → Tj → Tk → Tl → Tm → Tn → To → Tp → Tq → Tr → Ts → Tt → Tu → Tv → Tw → Ty → Tz → Tα → Tβ → Tγ → Tδ → Tε → Tζ → Tη → Tθ → Prop) (x : Ta × Tb × Tc × Td × Te × Tf × Tg × Ti × Tj × Tk × Tl × Tm × Tn × To × Tp × Tq × Tr × Ts × Tt × Tu × Tv × Tw × Ty × Tz × Tα × Tβ × Tγ × Tδ × Tε × Tζ × Tη × Tθ) := ¬ P x.1 x.2.1 x.2.2.1 x.2.2.2.1 x.2.2.2.2.1 x.2.2.2.2.2.1 x.2.2.2.2.2.2.1 x.2.2.2.2.2.2.2.1 x.2.2.2.2.2.2.2.2.1 x.2.2.2.2.2.2.2.2.2.1 x.2.2.2.2.2.2.2.2.2.2.1 x.2.2.2.2.2.2.2.2.2.2.2.1 x.2.2.2.2.2.2.2.2.2.2.2.2.1 x.2.2.2.2.2.2.2.2.2.2.2.2.2.1 x.2.2.2.2.2.2.2.2.2.2.2.2.2.2.1 x.2.2.2.2.2.2.2.2.2.2.2.2.2.2.2.1 x.2.2.2.2.2.2.2.2.2.2.2.2.2.2.2.2.1 x.2.2.2.2.2.2.2.2.2.2.2.2.2.2.2.2.2.1 x.2.2.2.2.2.2.2.2.2.2.2.2.2.2.2.2.2.2.1 x.2.2.2.2.2.2.2.2.2.2.2.2.2.2.2.2.2.2.2.1 x.2.2.2.2.2.2.2.2.2.2.2.2.2.2.2.2.2.2.2.2.1 x.2.2.2.2.2.2.2.2.2.2.2.2.2.2.2.2.2.2.2.2.2.1 x.2.2.2.2.2.2.2.2.2.2.2.2.2.2.2.2.2.2.2.2.2.2.1 x.2.2.2.2.2.2.2.2.2.2.2.2.2.2.2.2.2.2.2.2.2.2.2.1 x.2.2.2.2.2.2.2.2.2.2.2.2.2.2.2.2.2.2.2.2.2.2.2.2.1 x.2.2.2.2.2.2.2.2.2.2.2.2.2.2.2.2.2.2.2.2.2.2.2.2.2.1 x.2.2.2.2.2.2.2.2.2.2.2.2.2.2.2.2.2.2.2.2.2.2.2.2.2.2.1 x.2.2.2.2.2.2.2.2.2.2.2.2.2.2.2.2.2.2.2.2.2.2.2.2.2.2.2.1 x.2.2.2.2.2.2.2.2.2.2.2.2.2.2.2.2.2.2.2.2.2.2.2.2.2.2.2.2.1 x.2.2.2.2.2.2.2.2.2.2.2.2.2.2.2.2.2.2.2.2.2.2.2.2.2.2.2.2.2.1 x.2.2.2.2.2.2.2.2.2.2.2.2.2.2.2.2.2.2.2.2.2.2.2.2.2.2.2.2.2.2.1 x.2.2.2.2.2.2.2.2.2.2.2.2.2.2.2.2.2.2.2.2.2.2.2.2.2.2.2.2.2.2.2
noncomputable def hx32 (e : Nonempty (Ta × Tb × Tc × Td × Te × Tf × Tg × Ti × Tj × Tk × Tl × Tm × Tn × To × Tp × Tq × Tr × Ts × Tt × Tu × Tv × Tw × Ty × Tz × Tα × Tβ × Tγ × Tδ × Tε × Tζ × Tη × Tθ)) (P : Ta → Tb → Tc → Td → Te → Tf → Tg → Ti → Tj → Tk → Tl → Tm → Tn → To → Tp → Tq → Tr → Ts → Tt → Tu → Tv → Tw → Ty → Tz → Tα → Tβ → Tγ → Tδ → Tε → Tζ → Tη → Tθ → Prop) := @Classical.epsilon _ e (hp32 P)
theorem hk32 (e : Nonempty (Ta × Tb × Tc × Td × Te × Tf × Tg × Ti × Tj × Tk × Tl × Tm × Tn × To × Tp × Tq × Tr × Ts × Tt × Tu × Tv × Tw × Ty × Tz × Tα × Tβ × Tγ × Tδ × Tε × Tζ × Tη × Tθ)) {P : Ta → Tb → Tc → Td → Te → Tf → Tg → Ti → Tj → Tk → Tl → Tm → Tn → To → Tp → Tq → Tr → Ts → Tt → Tu → Tv → Tw → Ty → Tz → Tα → Tβ → Tγ → Tδ → Tε → Tζ → Tη → Tθ → Prop} (h : let x := hx32 e P; Hd32 P x.1 x.2.1 x.2.2.1 x.2.2.2.1 x.2.2.2.2.1 x.2.2.2.2.2.1 x.2.2.2.2.2.2.1 x.2.2.2.2.2.2.2.1 x.2.2.2.2.2.2.2.2.1 x.2.2.2.2.2.2.2.2.2.1 x.2.2.2.2.2.2.2.2.2.2.1 x.2.2.2.2.2.2.2.2.2.2.2.1 x.2.2.2.2.2.2.2.2.2.2.2.2.1 x.2.2.2.2.2.2.2.2.2.2.2.2.2.1 x.2.2.2.2.2.2.2.2.2.2.2.2.2.2.1 x.2.2.2.2.2.2.2.2.2.2.2.2.2.2.2.1 x.2.2.2.2.2.2.2.2.2.2.2.2.2.2.2.2.1 x.2.2.2.2.2.2.2.2.2.2.2.2.2.2.2.2.2.1 x.2.2.2.2.2.2.2.2.2.2.2.2.2.2.2.2.2.2.1 x.2.2.2.2.2.2.2.2.2.2.2.2.2.2.2.2.2.2.2.1 x.2.2.2.2.2.2.2.2.2.2.2.2.2.2.2.2.2.2.2.2.1 x.2.2.2.2.2.2.2.2.2.2.2.2.2.2.2.2.2.2.2.2.2.1 x.2.2.2.2.2.2.2.2.2.2.2.2.2.2.2.2.2.2.2.2.2.2.1 x.2.2.2.2.2.2.2.2.2.2.2.2.2.2.2.2.2.2.2.2.2.2.2.1 x.2.2.2.2.2.2.2.2.2.2.2.2.2.2.2.2.2.2.2.2.2.2.2.2.1 x.2.2.2.2.2.2.2.2.2.2.2.2.2.2.2.2.2.2.2.2.2.2.2.2.2.1 x.2.2.2.2.2.2.2.2.2.2.2.2.2.2.2.2.2.2.2.2.2.2.2.2.2.2.1 x.2.2.2.2.2.2.2.2.2.2.2.2.2.2.2.2.2.2.2.2.2.2.2.2.2.2.2.1 x.2.2.2.2.2.2.2.2.2.2.2.2.2.2.2.2.2.2.2.2.2.2.2.2.2.2.2.2.1 x.2.2.2.2.2.2.2.2.2.2.2.2.2.2.2.2.2.2.2.2.2.2.2.2.2.2.2.2.2.1 x.2.2.2.2.2.2.2.2.2.2.2.2.2.2.2.2.2.2.2.2.2.2.2.2.2.2.2.2.2.2.1 x.2.2.2.2.2.2.2.2.2.2.2.2.2.2.2.2.2.2.2.2.2.2.2.2.2.2.2.2.2.2.2) a b c d e f g i j k l m n o p q r s t u v w y z α β γ δ ε ζ η θ : P a b c d e f g i j k l m n o p q r s t u v w y z α β γ δ ε ζ η θ := Classical.byContradiction fun z0 => Classical.epsilon_spec (p := hp32 P) ⟨(a, b, c, d, e, f, g, i, j, k, l, m, n, o, p, q, r, s, t, u, v, w, y, z, α, β, γ, δ, ε, ζ, η, θ), z0⟩ h
def Hd40 (P : Ta → Tb → Tc → Td → Te → Tf → Tg → Ti → Tj → Tk → Tl → Tm → Tn → To → Tp → Tq → Tr → Ts → Tt → Tu → Tv → Tw → Ty → Tz → Tα → Tβ → Tγ → Tδ → Tε → Tζ → Tη → Tθ → Tι → Tκ → Tμ → Tν → Tξ → Tο → Tρ → Tσ → Prop) a b c d e f g i j k l m n o p q r s t u v w y z α β γ δ ε ζ η θ ι κ μ ν ξ ο ρ σ := P a b c d e f g i j k l m n o p q r s t u v w y z α β γ δ ε ζ η θ ι κ μ ν ξ ο ρ σ
def hp40 (P : Ta → Tb → Tc → Td → Te → Tf → Tg → Ti → Tj → Tk → Tl → Tm → Tn → To → Tp → Tq → Tr → Ts → Tt → Tu → Tv → Tw → Ty → Tz → Tα → Tβ → Tγ → Tδ → Tε → Tζ → Tη → Tθ → Tι → Tκ → Tμ → Tν → Tξ → Tο → Tρ → Tσ → Prop) (x : Ta × Tb × Tc × Td × Te × Tf × Tg × Ti × Tj × Tk × Tl × Tm × Tn × To × Tp × Tq × Tr × Ts × Tt × Tu × Tv × Tw × Ty × Tz × Tα × Tβ × Tγ × Tδ × Tε × Tζ × Tη × Tθ × Tι × Tκ × Tμ × Tν × Tξ × Tο × Tρ × Tσ) := ¬ P x.1 x.2.1 x.2.2.1 x.2.2.2.1 x.2.2.2.2.1 x.2.2.2.2.2.1 x.2.2.2.2.2.2.1 x.2.2.2.2.2.2.2.1 x.2.2.2.2.2.2.2.2.1 x.2.2.2.2.2.2.2.2.2.1 x.2.2.2.2.2.2.2.2.2.2.1 x.2.2.2.2.2.2.2.2.2.2.2.1 x.2.2.2.2.2.2.2.2.2.2.2.2.1 x.2.2.2.2.2.2.2.2.2.2.2.2.2.1 x.2.2.2.2.2.2.2.2.2.2.2.2.2.2.1 x.2.2.2.2.2.2.2.2.2.2.2.2.2.2.2.1 x.2.2.2.2.2.2.2.2.2.2.2.2.2.2.2.2.1 x.2.2.2.2.2.2.2.2.2.2.2.2.2.2.2.2.2.1 x.2.2.2.2.2.2.2.2.2.2.2.2.2.2.2.2.2.2.1 x.2.2.2.2.2.2.2.2.2.2.2.2.2.2.2.2.2.2.2.1 x.2.2.2.2.2.2.2.2.2.2.2.2.2.2.2.2.2.2.2.2.1 x.2.2.2.2.2.2.2.2.2.2.2.2.2.2.2.2.2.2.2.2.2.1 x.2.2.2.2.2.2.2.2.2.2.2.2.2.2.2.2.2.2.2.2.2.2.1 x.2.2.2.2.2.2.2.2.2.2.2.2.2.2.2.2.2.2.2.2.2.2.2.1 x.2.2.2.2.2.2.2.2.2.2.2.2.2.2.2.2.2.2.2.2.2.2.2.2.1 x.2.2.2.2.2.2.2.2.2.2.2.2.2.2.2.2.2.2.2.2.2.2.2.2.2.1 x.2.2.2.2.2.2.2.2.2.2.2.2.2.2.2.2.2.2.2.2.2.2.2.2.2.2.1 x.2.2.2.2.2.2.2.2.2.2.2.2.2.2.2.2.2.2.2.2.2.2.2.2.2.2.2.1 x.2.2.2.2.2.2.2.2.2.2.2.2.2.2.2.2.2.2.2.2.2.2.2.2.2.2.2.2.1 x.2.2.2.2.2.2.2.2.2.2.2.2.2.2.2.2.2.2.2.2.2.2.2.2.2.2.2.2.2.1 x.2.2.2.2.2.2.2.2.2.2.2.2.2.2.2.2.2.2.2.2.2.2.2.2.2.2.2.2.2.2.1 x.2.2.2.2.2.2.2.2.2.2.2.2.2.2.2.2.2.2.2.2.2.2.2.2.2.2.2.2.2.2.2.1 x.2.2.2.2.2.2.2.2.2.2.2.2.2.2.2.2.2.2.2.2.2.2.2.2.2.2.2.2.2.2.2.2.1 x.2.2.2.2.2.2.2.2.2.2.2.2.2.2.2.2.2.2.2.2.2.2.2.2.2.2.2.2.2.2.2.2.2.1 x.2.2.2.2.2.2.2.2.2.2.2.2.2.2.2.2.2.2.2.2.2.2.2.2.2.2.2.2.2.2.2.2.2.2.1 x.2.2.2.2.2.2.2.2.2.2.2.2.2.2.2.2.2.2.2.2.2.2.2.2.2.2.2.2.2.2.2.2.2.2.2.1 x.2.2.2.2.2.2.2.2.2.2.2.2.2.2.2.2.2.2.2.2.2.2.2.2.2.2.2.2.2.2.2.2.2.2.2.2.1 x.2.2.2.2.2.2.2.2.2.2.2.2.2.2.2.2.2.2.2.2.2.2.2.2.2.2.2.2.2.2.2.2.2.2.2.2.2.1 x.2.2.2.2.2.2.2.2.2.2.2.2.2.2.2.2.2.2.2.2.2.2.2.2.2.2.2.2.2.2.2.2.2.2.2.2.2.2.1 x.2.2.2.2.2.2.2.2.2.2.2.2.2.2.2.2.2.2.2.2.2.2.2.2.2.2.2.2.2.2.2.2.2.2.2.2.2.2.2
noncomputable def hx40 (e : Nonempty (Ta × Tb × Tc × Td × Te × Tf × Tg × Ti × Tj × Tk × Tl × Tm × Tn × To × Tp × Tq × Tr × Ts × Tt × Tu × Tv × Tw × Ty × Tz × Tα × Tβ × Tγ × Tδ × Tε × Tζ × Tη × Tθ × Tι × Tκ × Tμ × Tν × Tξ × Tο × Tρ × Tσ)) (P : Ta → Tb → Tc → Td → Te → Tf → Tg → Ti → Tj → Tk → Tl → Tm → Tn → To → Tp → Tq → Tr → Ts → Tt → Tu → Tv → Tw → Ty → Tz → Tα → Tβ → Tγ → Tδ → Tε → Tζ → Tη → Tθ → Tι → Tκ → Tμ → Tν → Tξ → Tο → Tρ → Tσ → Prop) := @Classical.epsilon _ e (hp40 P)
theorem hk40 (e : Nonempty (Ta × Tb × Tc × Td × Te × Tf × Tg × Ti × Tj × Tk × Tl × Tm × Tn × To × Tp × Tq × Tr × Ts × Tt × Tu × Tv × Tw × Ty × Tz × Tα × Tβ × Tγ × Tδ × Tε × Tζ × Tη × Tθ × Tι × Tκ × Tμ × Tν × Tξ × Tο × Tρ × Tσ)) {P : Ta → Tb → Tc → Td → Te → Tf → Tg → Ti → Tj → Tk → Tl → Tm → Tn → To → Tp → Tq → Tr → Ts → Tt → Tu → Tv → Tw → Ty → Tz → Tα → Tβ → Tγ → Tδ → Tε → Tζ → Tη → Tθ → Tι → Tκ → Tμ → Tν → Tξ → Tο → Tρ → Tσ → Prop} (h : let x := hx40 e P; Hd40 P x.1 x.2.1 x.2.2.1 x.2.2.2.1 x.2.2.2.2.1 x.2.2.2.2.2.1 x.2.2.2.2.2.2.1 x.2.2.2.2.2.2.2.1 x.2.2.2.2.2.2.2.2.1 x.2.2.2.2.2.2.2.2.2.1 x.2.2.2.2.2.2.2.2.2.2.1 x.2.2.2.2.2.2.2.2.2.2.2.1 x.2.2.2.2.2.2.2.2.2.2.2.2.1 x.2.2.2.2.2.2.2.2.2.2.2.2.2.1 x.2.2.2.2.2.2.2.2.2.2.2.2.2.2.1 x.2.2.2.2.2.2.2.2.2.2.2.2.2.2.2.1 x.2.2.2.2.2.2.2.2.2.2.2.2.2.2.2.2.1 x.2.2.2.2.2.2.2.2.2.2.2.2.2.2.2.2.2.1 x.2.2.2.2.2.2.2.2.2.2.2.2.2.2.2.2.2.2.1 x.2.2.2.2.2.2.2.2.2.2.2.2.2.2.2.2.2.2.2.1 x.2.2.2.2.2.2.2.2.2.2.2.2.2.2.2.2.2.2.2.2.1 x.2.2.2.2.2.2.2.2.2.2.2.2.2.2.2.2.2.2.2.2.2.1 x.2.2.2.2.2.2.2.2.2.2.2.2.2.2.2.2.2.2.2.2.2.2.1 x.2.2.2.2.2.2.2.2.2.2.2.2.2.2.2.2.2.2.2.2.2.2.2.1 x.2.2.2.2.2.2.2.2.2.2.2.2.2.2.2.2.2.2.2.2.2.2.2.2.1 x.2.2.2.2.2.2.2.2.2.2.2.2.2.2.2.2.2.2.2.2.2.2.2.2.2.1 x.2.2.2.2.2.2.2.2.2.2.2.2.2.2.2.2.2.2.2.2.2.2.2.2.2.2.1 x.2.2.2.2.2.2.2.2.2.2.2.2.2.2.2.2.2.2.2.2.2.2.2.2.2.2.2.1 x.2.2.2.2.2.2.2.2.2.2.2.2.2.2.2.2.2.2.2.2.2.2.2.2.2.2.2.2.1 x.2.2.2.2.2.2.2.2.2.2.2.2.2.2.2.2.2.2.2.2.2.2.2.2.2.2.2.2.2.1 x.2.2.2.2.2.2.2.2.2.2.2.2.2.2.2.2.2.2.2.2.2.2.2.2.2.2.2.2.2.2.1 x.2.2.2.2.2.2.2.2.2.2.2.2.2.2.2.2.2.2.2.2.2.2.2.2.2.2.2.2.2.2.2.1 x.2.2.2.2.2.2.2.2.2.2.2.2.2.2.2.2.2.2.2.2.2.2.2.2.2.2.2.2.2.2.2.2.1 x.2.2.2.2.2.2.2.2.2.2.2.2.2.2.2.2.2.2.2.2.2.2.2.2.2.2.2.2.2.2.2.2.2.1 x.2.2.2.2.2.2.2.2.2.2.2.2.2.2.2.2.2.2.2.2.2.2.2.2.2.2.2.2.2.2.2.2.2.2.1 x.2.2.2.2.2.2.2.2.2.2.2.2.2.2.2.2.2.2.2.2.2.2.2.2.2.2.2.2.2.2.2.2.2.2.2.1 x.2.2.2.2.2.2.2.2.2.2.2.2.2.2.2.2.2.2.2.2.2.2.2.2.2.2.2.2.2.2.2.2.2.2.2.2.1 x.2.2.2.2.2.2.2.2.2.2.2.2.2.2.2.2.2.2.2.2.2.2.2.2.2.2.2.2.2.2.2.2.2.2.2.2.2.1 x.2.2.2.2.2.2.2.2.2.2.2.2.2.2.2.2.2.2.2.2.2.2.2.2.2.2.2.2.2.2.2.2.2.2.2.2.2.2.1 x.2.2.2.2.2.2.2.2.2.2.2.2.2.2.2.2.2.2.2.2.2.2.2.2.2.2.2.2.2.2.2.2.2.2.2.2.2.2.2) a b c d e f g i j k l m n o p q r s t u v w y z α β γ δ ε ζ η θ ι κ μ ν ξ ο ρ σ : P a b c d e f g i j k l m n o p q r s t u v w y z α β γ δ ε ζ η θ ι κ μ ν ξ ο ρ σ := Classical.byContradiction fun z0 => Classical.epsilon_spec (p := hp40 P) ⟨(a, b, c, d, e, f, g, i, j, k, l, m, n, o, p, q, r, s, t, u, v, w, y, z, α, β, γ, δ, ε, ζ, η, θ, ι, κ, μ, ν, ξ, ο, ρ, σ), z0⟩ h
end
end
local macro_rules | `(tactic| k_all) => `(tactic| assumption)
local macro_rules | `(tactic| k_room) => `(tactic| ktr_room)
local macro_rules | `(tactic| k_units) => `(tactic| ktr_units)
local macro_rules | `(tactic| ktr_room) => `(tactic| ((try simp only [depth_under_make, depth_under_kw, depth_in1, depth_deeper, depth_caller]); (try dsimp only [ktrTop]); first | exact lw0 | exact lw1 | exact lw2 | exact lw3))
local macro_rules | `(tactic| ktr_units) => `(tactic| ((try simp only [units_in1, units_deeper, Around.mark_units, units_caller]); (try dsimp only [ktrTop]); first | exact lw0 | exact lw1 | exact lw2 | exact lw3))
local macro_rules | `(tactic| k_ne) => `(tactic| (refine neN ?_; (try dsimp only); first | assumption | exact ng0 | exact ng1 | exact ng2 | exact ng3 | exact ng4 | exact ng5 | exact nl0 | exact nl1 | exact nl2 | exact nl3 | exact nl4 | exact nl5))
local macro_rules | `(tactic| ktr_step) => `(tactic| ((first | (k_unfold; (try dsimp only)) | (k_end; kc_close) | walk1 | (dsimp only; walk1) | (leave1; (try dsimp only)) | fail "no step"); (try ((with_reducible show wpAny _ _ _ _ _ (Shared.mk _ _ _ (_ + _) _)); with_reducible refine gen_toks ?_; intro tk)); (try ((with_reducible show wpAny _ _ (execs _ _) _ _ _); k_fold))))
section
abbrev tx (l : List Nat) : Str := ⟨l.toArray⟩
theorem sliceIx (n a b : Nat) (ha : a ≤ n) (hb : b ≤ n) : PySem.Builtin.Str.strSliceIndices (some (a : Int)) (some (b : Int)) 1 n = (List.range (b - a)).map (a + ·) := by
  unfold PySem.Builtin.Str.strSliceIndices PySem.sliceRange
  have h1 : ¬ ((a : Int) < 0) := by omega
  have h2 : ¬ ((b : Int) < 0) := by omega
  have h3 : max (0 : Int) (min (a : Int) (n : Int)) = a := by omega
  have h4 : max (0 : Int) (min (b : Int) (n : Int)) = b := by omega
  simp only [show (1 : Int) > 0 by decide, if_true, if_neg h1, if_neg h2, h3, h4]
  by_cases hab : (a : Int) < b
  · rw [if_pos hab]
    have : (((b : Int) - a + 1 - 1) / 1).toNat = b - a := by omega
    rw [this]
    refine List.map_congr_left fun k hk => ?_
    omega
  · rw [if_neg hab]
    have : b - a = 0 := by omega
    rw [this]; rfl
theorem range_get (l : List Nat) (a : Nat) : ∀ k, a + k ≤ l.length → ((List.range k).map (a + ·)).filterMap (l.toArray[·]?) = (l.drop a).take k
  | 0, _ => by simp
  | k + 1, h => by
    rw [List.range_succ, List.map_append, List.filterMap_append, range_get l a k (by omega)]
    have hk : a + k < l.length := by omega
    simp only [List.map_cons, List.map_nil, List.filterMap_cons, List.filterMap_nil]
    rw [List.getElem?_toArray, List.getElem?_eq_getElem hk, List.take_add_one, List.getElem?_drop, List.getElem?_eq_getElem hk]
    rfl
theorem slice_tx (l : List Nat) (a b : Nat) (hab : a ≤ b) (hb : b ≤ l.length) : Txt.slice (tx l) (some (a : Int)) (some (b : Int)) = tx ((l.drop a).take (b - a)) := by
  unfold Txt.slice
  have hl : (tx l).length = l.length := by simp [PySem.Str.length]
  rw [hl, sliceIx _ _ _ (by omega) hb]
  by_cases e : b - a = l.length
  · have ha : a = 0 := by omega
    subst ha
    simp only [List.length_map, List.length_range, e, beq_self_eq_true, Bool.and_self, if_true]
    simp
  · have : ((1 : Int) == 1 && (List.map (a + ·) (List.range (b - a))).length == l.length) = false := by
      simp [e]
    rw [this]
    simp only [Bool.false_eq_true, if_false]
    have hr := range_get l a (b - a) (by omega)
    exact congrArg (fun x : List Nat => (⟨x.toArray⟩ : Str)) hr
theorem slice_one {l post : List Nat} {a c : Nat} (h : l.drop a = c :: post) : Txt.slice (tx l) (some (a : Int)) (some ((a : Int) + 1)) = tx [c] := by
  have ha : a + 1 ≤ l.length := by
    have := congrArg List.length h
    simp at this; omega
  have := slice_tx l a (a + 1) (by omega) ha
  rw [show a + 1 - a = 1 by omega, h] at this
  simpa using this
theorem slice_last {l post : List Nat} {a c : Nat} (h : l.drop a = c :: post) (hn : ¬ ((a : Int) + 1 < ((tx l).length : Int))) : Txt.slice (tx l) (some (a : Int)) (some (((tx l).length : Nat) : Int)) = tx [c] ∧ (((tx l).length : Nat) : Int) = (a : Int) + 1 := by
  have hl : (tx l).length = l.length := by simp [PySem.Str.length]
  have ha : a + 1 ≤ l.length := by
    have := congrArg List.length h
    simp at this; omega
  rw [hl] at hn ⊢
  have e : l.length = a + 1 := by omega
  refine ⟨?_, by omega⟩
  rw [e]
  exact slice_one h
theorem drop_succ {l post : List Nat} {a c : Nat} (h : l.drop a = c :: post) : l.drop (a + 1) = post := by
  rw [← List.drop_drop, h]; rfl
theorem drop_lt {l post : List Nat} {a c : Nat} (h : l.drop a = c :: post) : a < l.length := by
  have := congrArg List.length h
  simp at this; omega
theorem len_tx (l : List Nat) : (tx l).length = l.length := by simp [PySem.Str.length]
end
section
def ws (c : Nat) : Bool := c == 32 || c == 9 || c == 13 || c == 10
def fin (q : Bool) (tok : List Nat) : Option (List Nat) := if q || tok != [] then some tok else none
def qd (md : Nat) (q : Bool) : Bool := q || md == 2 || md == 3
/-- one word of the shell's reader: md 0 between words, 1 in a word, 2 and 3 in quotes, 4 and 5 behind a backslash -/
def shT : List Nat → Nat → Bool → List Nat → Option (Option (List Nat) × List Nat × Bool)
  | [], md, q, tok => if md = 0 ∨ md = 1 then some (fin q tok, [], true) else none
  | c :: r, md, q, tok =>
    if md = 0 then (if ws c then (if q || tok != [] then some (fin q tok, r, false) else shT r 0 q tok) else if c = 92 then shT r 4 q tok else if c = 34 then shT r 2 q tok else if c = 39 then shT r 3 q tok else shT r 1 q [c])
    else if md = 1 then (if ws c then (if q || tok != [] then some (fin q tok, r, false) else shT r 0 q tok) else if c = 34 then shT r 2 q tok else if c = 39 then shT r 3 q tok else if c = 92 then shT r 4 q tok else shT r 1 q (tok ++ [c]))
    else if md = 2 then (if c = 34 then shT r 1 true tok else if c = 92 then shT r 5 true tok else shT r 2 true (tok ++ [c]))
    else if md = 3 then (if c = 39 then shT r 1 true tok else shT r 3 true (tok ++ [c]))
    else if md = 4 then shT r 1 q (tok ++ [c])
    else shT r 2 q (tok ++ (if c = 92 ∨ c = 34 then [c] else [92, c]))
/-- the state's text of a mode; what the reader's «escapedstate» then holds -/
def stS (md : Nat) : Str := if md = 0 then ofString " " else if md = 1 then ofString "a" else if md = 2 then ofString "\"" else if md = 3 then ofString "'" else ofString "\\"
def esOk (md : Nat) (es : Str) : Prop := (md = 4 → es = ofString "a") ∧ (md = 5 → es = ofString "\"")
theorem tx_app (a b : List Nat) : tx a ++ tx b = tx (a ++ b) := by
  refine PySem.Str.ext' ?_
  rw [PySem.Str.cps_append]
  simp
theorem tx_inj {a b : List Nat} (h : tx a = tx b) : a = b := by
  have := congrArg (fun x : Str => x.cps.toList) h
  simpa using this
theorem tx_eqb (a b : List Nat) : ((tx a).cps.toList == (tx b).cps.toList) = decide (a = b) := by
  by_cases h : a = b
  · subst h; simp
  · simp [h]
theorem cnt (Y : Str) (ys : List Nat) (hy : Y.cps.toList = ys) (c : Nat) : Txt.contains Y (tx [c]) = decide (c ∈ ys) := by
  unfold Txt.contains
  have := StrLaws.found_one Y c
  rw [← hy]
  exact this
theorem s_nl : ofString "\n" = tx [10] := by kernel_rfl
theorem s_dq : ofString "\"" = tx [34] := by kernel_rfl
theorem s_sq : ofString "'" = tx [39] := by kernel_rfl
theorem s_bs : ofString "\\" = tx [92] := by kernel_rfl
theorem s_no : ofString "" = tx [] := by kernel_rfl
theorem s_sp : ofString " " = tx [32] := by kernel_rfl
theorem s_a : ofString "a" = tx [97] := by kernel_rfl
structure Facts (c : Nat) (x : Str) : Prop where
  nl : (x.cps.toList == (ofString "\n").cps.toList) = (c == 10)
  dq : (x.cps.toList == (ofString "\"").cps.toList) = (c == 34)
  sq : (x.cps.toList == (ofString "'").cps.toList) = (c == 39)
  bs : (x.cps.toList == (ofString "\\").cps.toList) = (c == 92)
  wt : Txt.contains (ofString " \t\x0d\n") x = ws c
  wn : Txt.contains (ofString "\n\t\x0d ") x = ws c
  no : Txt.contains (ofString "") x = false
  es : Txt.contains (ofString "\\") x = (c == 92)
  qt : Txt.contains (ofString "'\"") x = (c == 39 || c == 34)
  dn : (x.cps.toList != (ofString "\"").cps.toList) = (c != 34)
  bn : (x.cps.toList != (ofString "\\").cps.toList) = (c != 92)
theorem facts_of {c : Nat} {x : Str} (h : tx [c] = x) : Facts c x := by
  subst h
  have e (k : Nat) : decide ([c] = [k]) = (c == k) := by
    by_cases h : c = k <;> simp [h]
  refine ⟨?_, ?_, ?_, ?_, ?_, ?_, ?_, ?_, ?_, ?_, ?_⟩
  · rw [s_nl, tx_eqb, e]
  · rw [s_dq, tx_eqb, e]
  · rw [s_sq, tx_eqb, e]
  · rw [s_bs, tx_eqb, e]
  · rw [cnt _ [32, 9, 13, 10] (by kernel_rfl)]
    unfold ws
    simp only [List.mem_cons, List.not_mem_nil, or_false, Bool.decide_or, Bool.or_assoc]; rfl
  · rw [cnt _ [10, 9, 13, 32] (by kernel_rfl)]
    unfold ws
    simp only [List.mem_cons, List.not_mem_nil, or_false, Bool.decide_or]
    cases h1 : decide (c = 10) <;> cases h2 : decide (c = 9) <;> cases h3 : decide (c = 13) <;> cases h4 : decide (c = 32) <;> simp_all
  · rw [cnt _ [] (by kernel_rfl)]; simp
  · rw [cnt _ [92] (by kernel_rfl)]; simp only [List.mem_cons, List.not_mem_nil, or_false]; rfl
  · rw [cnt _ [39, 34] (by kernel_rfl)]; simp only [List.mem_cons, List.not_mem_nil, or_false, Bool.decide_or]; rfl
  · rw [bne, s_dq, tx_eqb, e]; rfl
  · rw [bne, s_bs, tx_eqb, e]; rfl
structure RtInv (l : List Nat) (R : Option (Option (List Nat) × List Nat × Bool)) (md : Nat) (q : Bool) (tok : List Nat) (pos : Nat) (ln : Int) (es : Str) : Prop where
  md5 : md ≤ 5
  sh : shT (l.drop pos) md q tok = R
  es : esOk md es
  hp : pos ≤ l.length
  hl : 0 ≤ ln ∧ ln ≤ 1000000 + pos
  tl : tok.length ≤ 2 * pos
  m0 : md = 0 → tok = [] ∧ q = false
  m1 : md = 1 → (q || tok != []) = true
theorem RtInv.go {l : List Nat} {R : Option (Option (List Nat) × List Nat × Bool)} {md : Nat} {q : Bool} {tok : List Nat} {pos : Nat} {ln : Int} {es : Str} (I : RtInv l R md q tok pos ln es) {c : Nat} {post : List Nat} (hd : l.drop pos = c :: post)
    (md' : Nat) (q' : Bool) (tok' : List Nat) (es' : Str) {ln' : Int} (hln : ln' = ln ∨ ln' = ln + 1) (h5 : md' ≤ 5) (hs : shT (c :: post) md q tok = shT post md' q' tok') (he : esOk md' es') (ht : tok'.length ≤ tok.length + 2) (h0 : md' = 0 → tok' = [] ∧ q' = false) (h1 : md' = 1 → (q' || tok' != []) = true) :
    RtInv l R md' q' tok' (pos + 1) ln' es' := by
  have hlt := drop_lt hd
  have := I.hl
  have := I.tl
  refine ⟨h5, ?_, he, hlt, ?_, by omega, h0, h1⟩
  · rw [drop_succ hd, ← hs, ← hd]; exact I.sh
  · omega
end
section
abbrev dqO : Obj := { cls := .type "collections.deque", data := .fields #[.none, .int 0 0] }
theorem slot_dq_len : Slot "collections.deque" "__len__" "collections.deque.__len__" :=
  .of (owner := "collections.deque") (n := "__len__") (by rw [typeLookup_type, builtinLookup_eq_fast]; kernel_rfl) (by decide +kernel) (by decide +kernel) (by decide +kernel)
    (by first | exact .inl (by decide +kernel) | exact .inr (by decide +kernel)) (by rw [isSubtype_type]; kernel_rfl)
theorem entry_dq_len : entryFor table "collections.deque.__len__" = some Builtin.«collections.deque.__len__» := entryFor_of_tree (by kernel_rfl)
theorem args_dq_len (a : Value) : argsOk "collections.deque.__len__" ⟨[a], []⟩ := by unfold argsOk; kernel_rfl
theorem noBool_dq : typeLookup (.type "collections.deque") "__bool__" = pure none := by rw [typeLookup_type, builtinLookup_eq_fast]; kernel_rfl
section
variable {prog : Program} {w : World} {A : Around} {E : Value → Shared → Prop} {s : Shared} {a : Addr}
theorem dq_len_body {Q : Value → Shared → Prop} (ho : s.heap.get? a = some dqO) (h : Q (.int 0 (s.toks + 1)) { s with toks := s.toks + 1 + 1 }) :
    wpAny (model prog w) A (Builtin.«len» ⟨[.ref a], []⟩) (fun fin s' => ∃ r, fin = .done (.ret r) ∧ Q r s') E s := by
  have hT : s.TypeIs (.ref a) "collections.deque" := ⟨dqO, ho, rfl⟩
  unfold Builtin.«len»
  refine wpAny_bind (m := oneArg "len" _) (wpAny_pure ?_)
  refine wpAny_bind (m := callSpecial? (.ref a) (ofString "__len__")) (wpAny_callSpecial?_slot (name := ofString "__len__") hT slot_dq_len
    (wpAny_call_entry slot_dq_len hT entry_dq_len ?_ (args_dq_len _)))
  show wpAny _ _ (do retInt (← Builtin.Deque.size (.ref a))) _ _ s
  unfold Builtin.Deque.size
  refine wpAny_bind (wpAny_bind (wpAny_fieldsOf ho rfl ?_))
  refine wpAny_pure (wpAny_bind (wpAny_mkInt (wpAny_pure ⟨_, rfl, ?_⟩)))
  refine wpAny_bind (wpAny_holding (wpAny_pure ?_))
  refine wpAny_bind (wpAny_letGo ?_)
  exact wpAny_bind (wpAny_mkInt (wpAny_pure ⟨_, rfl, h⟩))
theorem dq_truthy {Q : Bool → Shared → Prop} (ho : s.heap.get? a = some dqO) (h : ∀ k, Q false { s with toks := k }) : wpAny (model prog w) A (truthy (.ref a)) Q E s := by
  have hT : s.TypeIs (.ref a) "collections.deque" := ⟨dqO, ho, rfl⟩
  have key : wpAny (model prog w) A (runValue (.builtin "len" ⟨[.ref a], []⟩)) (fun r s' => r = .int 0 (s.toks + 1) ∧ Q false s') E s := by
    refine wpAny_runValue (codeAny_builtin entry_len ?_)
    rw [Around.under_plainId plain_len _]
    exact wpAny_mono (dq_len_body (Q := fun r s' => r = .int 0 (s.toks + 1) ∧ Q false s') ho ⟨rfl, h _⟩)
      (fun fin s' h' => by obtain ⟨r, rfl, hq⟩ := h'; exact hq) fun _ _ e => e
  unfold truthy
  first
    | refine wpAny_bind (wpAny_callSpecial?_none (name := ofString "__bool__") hT noBool_dq ?_)
    | refine wpAny_bind (wpAny_pure (wpAny_bind (wpAny_callSpecial?_none (name := ofString "__bool__") hT noBool_dq ?_)))
  first
    | refine wpAny_bind (wpAny_specialOf (name := ofString "__len__") hT slot_dq_len.lookup ?_)
    | refine wpAny_bind (wpAny_pure (wpAny_bind (wpAny_specialOf (name := ofString "__len__") hT slot_dq_len.lookup ?_)))
  first
    | exact wpAny_bind (wpAny_mono key (fun r s' h' => by obtain ⟨rfl, hq⟩ := h'; exact wpAny_pure hq) fun _ _ e => e)
    | exact wpAny_bind (wpAny_pure (wpAny_bind (wpAny_mono key (fun r s' h' => by obtain ⟨rfl, hq⟩ := h'; exact wpAny_pure hq) fun _ _ e => e)))
end
end
section
abbrev ioD (P : Params) (t1 t2 t3 u2 u3 : Tok) (nl : Value) (buf : Str) (pos : Int) : List DictEntry :=
  [⟨keyHash P (ofString "_StringIO__newline"), .str (ofString "_StringIO__newline") t1, nl⟩,
   ⟨keyHash P (ofString "_StringIO__buf"), .str (ofString "_StringIO__buf") t2, .str buf u2⟩,
   ⟨keyHash P (ofString "_StringIO__pos"), .str (ofString "_StringIO__pos") t3, .int pos u3⟩]
abbrev ioO (P : Params) (t1 t2 t3 u2 u3 : Tok) (nl : Value) (buf : Str) (pos : Int) : Obj := dictOf (ioD P t1 t2 t3 u2 u3 nl buf pos) 3
theorem Fr_cong {h₀ h : Heap} {L : Addr} {m m' : Str → Option Value} (F : Fr h₀ L h m) (e : ∀ y, m y = m' y) : Fr h₀ L h m' := (funext e : m = m') ▸ F
theorem look1 (y a : Str) (v : Value) : List.lookup y [(a, v)] = if y = a then some v else none := by
  rw [List.lookup_cons]
  by_cases h : y = a
  · subst h; simp
  · rw [if_neg h, beq_false_of_ne h]; rfl
theorem c_read0 : ∀ (w : World) (mean : ExcName → Option Value) (mg mb : Str → Option Value)
    (dp un : Nat) (gd : Option (List Code)) (cn : Str) (cs : Scope) (a : Addr) (ccd : Value) (cl : List (Str × Addr)) (outer : List Env) (A₀ : Around) (base h₀ : Heap) (L : Addr) (m : Str → Option Value) (s : Shared) (Q E : Value → Shared → Prop)
    (io d : Addr) (rest : List (Addr × Obj)) (t1 t2 t3 u2 u3 u4 : Tok) (nl : Value) (l post : List Nat) (c pos : Nat)
    (B : Below A₀ base outer h₀) (F : Fr h₀ L s.heap m) (X : (Mine.K w.params).In h₀) (T : Top Mine.q (looseW Mine.q Mine.loose) mean mg mb h₀) (hk : cs.kind = .function)
    (N : News h₀ L s.heap ((d, dictOf (ioD w.params t1 t2 t3 u2 u3 nl (tx l) pos) 3) :: (io, instObj 629 d) :: rest)) (hid : io ≠ d) (hrest : ∀ p ∈ rest, p.1 ≠ d)
    (hdp : dp + 4 < recursionLimit) (hun : un + 32 < cLine)
    (hc : l.drop pos = c :: post) (hpos : pos < (tx l).length) (hlen : (tx l).length < 100000)
    (hret : ∀ t u3 h' tk', Fr h₀ L h' m → News h₀ L h' ((d, dictOf (ioD w.params t1 t2 t3 u2 u3 nl (tx l) (pos+1)) 3) :: (io, instObj 629 d) :: rest) → Q (.str (tx [c]) t) { s with heap := h', toks := tk' }),
    wpAny (model rw_oy0313_02.row.prog w) (ktrTop dp un gd cn cs L a ccd cl outer) (call (.ref 575) [.ref io, .int 1 u4]) Q E s := by
  refine hk32 (by repeat first | exact nW | exact nA | exact nS | apply nP | infer_instance) ((?f : ∀ w mean mg mb dp un gd cn cs a ccd cl outer A₀ base h₀ L m s Q E io d rest t1 t2 t3 u2 u3 u4 nl l, Hd32 _ w mean mg mb dp un gd cn cs a ccd cl outer A₀ base h₀ L m s Q E io d rest t1 t2 t3 u2 u3 u4 nl l) _ _ _ _ _ _ _ _ _ _ _ _ _ _ _ _ _ _ _ _ _ _ _ _ _ _ _ _ _ _ _ _)
  set_option tactic.hygienic false in (intros; intro post; intros)
  revert X; k_fill; intro X
  refine wpAny_call ?_
  k_dflt (refine' code_def ?k1 ?k2 ?k3 ?k4 ?k5 ?kA ?kF ?kK ?k6 ?k7 ?k8 ?k9 ?kB ?_ ?c2 ?c3 ?c4 ?c5; (case kA => exact rfl); (case kF => exact rfl); (case kK => assumption); (case k1 => k_asm); (case k2 => k_asm); (case k3 => k_asm); (case k4 => k_asm); (case k5 => k_asm); (case k6 => k_is); (case k7 => k_is); (case k8 => ktr_room); (case k9 => first | exact BindsTo.of_eq rfl | exact binds_K (by k_in) rfl (by k_is) rfl rfl rfl); (case c5 => decide); (case kB => exact locs rfl); (case c2 => exact rfl); (case c3 => exact rfl); (case c4 => exact rfl); k_whole; intro g' L' h' FG' F' N' B' X' T'; (try dsimp only); (try k_lift B'); (try k_fold))
  k_steps
  · rw [slice_one hc]
    exact hret _ _ _ _ (by assumption) (by assumption)
  · (rename (¬ ((_ : Int) + 1 < _)) => hlt)
    obtain ⟨e1, e2⟩ := slice_last hc hlt
    rw [e1]
    rename News h₀ L _ _ => N9
    rw [e2] at N9
    exact hret _ _ _ _ (by assumption) N9
theorem c_readE0 : ∀ (w : World) (mean : ExcName → Option Value) (mg mb : Str → Option Value)
    (dp un : Nat) (gd : Option (List Code)) (cn : Str) (cs : Scope) (a : Addr) (ccd : Value) (cl : List (Str × Addr)) (outer : List Env) (A₀ : Around) (base h₀ : Heap) (L : Addr) (m : Str → Option Value) (s : Shared) (Q E : Value → Shared → Prop)
    (io d : Addr) (rest : List (Addr × Obj)) (t1 t2 t3 u2 u3 u4 : Tok) (nl : Value) (l : List Nat) (pos : Nat)
    (B : Below A₀ base outer h₀) (F : Fr h₀ L s.heap m) (X : (Mine.K w.params).In h₀) (T : Top Mine.q (looseW Mine.q Mine.loose) mean mg mb h₀) (hk : cs.kind = .function)
    (N : News h₀ L s.heap ((d, dictOf (ioD w.params t1 t2 t3 u2 u3 nl (tx l) pos) 3) :: (io, instObj 629 d) :: rest)) (hid : io ≠ d) (hrest : ∀ p ∈ rest, p.1 ≠ d)
    (hdp : dp + 4 < recursionLimit) (hun : un + 32 < cLine)
    (hpos : (tx l).length ≤ pos) (hpl : pos < 100000)
    (hret : ∀ t h' tk', Fr h₀ L h' m → News h₀ L h' ((d, dictOf (ioD w.params t1 t2 t3 u2 u3 nl (tx l) pos) 3) :: (io, instObj 629 d) :: rest) → Q (.str (ofString "") t) { s with heap := h', toks := tk' }),
    wpAny (model rw_oy0313_02.row.prog w) (ktrTop dp un gd cn cs L a ccd cl outer) (call (.ref 575) [.ref io, .int 1 u4]) Q E s := by
  refine hk32 (by repeat first | exact nW | exact nA | exact nS | apply nP | infer_instance) ((?f : ∀ w mean mg mb dp un gd cn cs a ccd cl outer A₀ base h₀ L m s Q E io d rest t1 t2 t3 u2 u3 u4 nl l, Hd32 _ w mean mg mb dp un gd cn cs a ccd cl outer A₀ base h₀ L m s Q E io d rest t1 t2 t3 u2 u3 u4 nl l) _ _ _ _ _ _ _ _ _ _ _ _ _ _ _ _ _ _ _ _ _ _ _ _ _ _ _ _ _ _ _ _)
  set_option tactic.hygienic false in (intros; intro pos; intros)
  revert X; k_fill; intro X
  refine wpAny_call ?_
  k_dflt (refine' code_def ?k1 ?k2 ?k3 ?k4 ?k5 ?kA ?kF ?kK ?k6 ?k7 ?k8 ?k9 ?kB ?_ ?c2 ?c3 ?c4 ?c5; (case kA => exact rfl); (case kF => exact rfl); (case kK => assumption); (case k1 => k_asm); (case k2 => k_asm); (case k3 => k_asm); (case k4 => k_asm); (case k5 => k_asm); (case k6 => k_is); (case k7 => k_is); (case k8 => ktr_room); (case k9 => first | exact BindsTo.of_eq rfl | exact binds_K (by k_in) rfl (by k_is) rfl rfl rfl); (case c5 => decide); (case kB => exact locs rfl); (case c2 => exact rfl); (case c3 => exact rfl); (case c4 => exact rfl); k_whole; intro g' L' h' FG' F' N' B' X' T'; (try dsimp only); (try k_lift B'); (try k_fold))
  k_steps
  exact hret _ _ _ (by assumption) (by assumption)
theorem news_ne {h₀ h : Heap} {L d : Addr} {led : List (Addr × Obj)} {a : Addr} {o o' : Obj} (N : News h₀ L h led) (h1 : (a, o) ∈ led) (h2 : (d, o') ∈ led) (ne : o ≠ o') : a ≠ d := by
  rintro rfl
  have e1 := (N _ h1).1
  have e2 := (N _ h2).1
  exact ne (Option.some.inj (e1.symm.trans e2))
theorem c_read {w : World} {mean : ExcName → Option Value} {mg mb : Str → Option Value}
    {dp un : Nat} {gd : Option (List Code)} {cn : Str} {cs : Scope} {a : Addr} {ccd : Value} {cl : List (Str × Addr)} {outer : List Env} {A₀ : Around} {base h₀ : Heap} {L : Addr} {m : Str → Option Value} {s : Shared} {Q E : Value → Shared → Prop}
    {io d : Addr} {led : List (Addr × Obj)} {g : Obj → List (Addr × Obj)} {t1 t2 t3 u2 u3 u4 : Tok} {nl : Value} {l : List Nat} {pos : Nat}
    (B : Below A₀ base outer h₀) (F : Fr h₀ L s.heap m) (X : (Mine.K w.params).In h₀) (T : Top Mine.q (looseW Mine.q Mine.loose) mean mg mb h₀) (hk : cs.kind = .function)
    (N : News h₀ L s.heap led) (hio : (io, instObj 629 d) ∈ led) (U : UpdF d (dictOf (ioD w.params t1 t2 t3 u2 u3 nl (tx l) pos) 3) led g)
    (hdp : dp + 4 < recursionLimit) (hun : un + 32 < cLine)
    (hpl : pos ≤ l.length) (hlen : l.length < 100000)
    (hret : ∀ c post, l.drop pos = c :: post → ∀ t u3 h' tk', Fr h₀ L h' m → News h₀ L h' (g (dictOf (ioD w.params t1 t2 t3 u2 u3 nl (tx l) ((pos + 1 : Nat) : Int)) 3)) → Q (.str (tx [c]) t) { s with heap := h', toks := tk' })
    (hend : l.drop pos = [] → ∀ t h' tk', Fr h₀ L h' m → News h₀ L h' (g (dictOf (ioD w.params t1 t2 t3 u2 u3 nl (tx l) pos) 3)) → Q (.str (ofString "") t) { s with heap := h', toks := tk' }) :
    wpAny (model rw_oy0313_02.row.prog w) (ktrTop dp un gd cn cs L a ccd cl outer) (call (.ref 575) [.ref io, .int 1 u4]) Q E s := by
  obtain ⟨pre, post', e1, e2, e3, e4⟩ := U.split
  subst e1
  have hm : (d, dictOf (ioD w.params t1 t2 t3 u2 u3 nl (tx l) pos) 3) ∈ pre ++ (d, dictOf (ioD w.params t1 t2 t3 u2 u3 nl (tx l) pos) 3) :: post' := List.mem_append_right _ (.head _)
  have hid : io ≠ d := news_ne N hio hm (fun e => by cases e)
  have hio' : (io, instObj 629 d) ∈ pre ++ post' := by
    rcases List.mem_append.mp hio with q | q
    · exact List.mem_append_left _ q
    · rcases List.mem_cons.mp q with q | q
      · cases q
      · exact List.mem_append_right _ q
  have N2 : News h₀ L s.heap ((d, dictOf (ioD w.params t1 t2 t3 u2 u3 nl (tx l) pos) 3) :: (io, instObj 629 d) :: (pre ++ post')) := by
    intro p hp
    rcases List.mem_cons.mp hp with rfl | hp
    · exact N _ hm
    · rcases List.mem_cons.mp hp with rfl | hp
      · exact N _ hio
      · rcases List.mem_append.mp hp with q | q
        · exact N _ (List.mem_append_left _ q)
        · exact N _ (List.mem_append_right _ (.tail _ q))
  have hrest : ∀ p ∈ pre ++ post', p.1 ≠ d := fun p hp => (List.mem_append.mp hp).elim (e3 p) (e4 p)
  have back : ∀ {h' : Heap} {o : Obj}, News h₀ L h' ((d, o) :: (io, instObj 629 d) :: (pre ++ post')) → News h₀ L h' (g o) := by
    intro h' o N3 p hp
    rw [e2] at hp
    rcases List.mem_append.mp hp with q | q
    · exact N3 p (.tail _ (.tail _ (List.mem_append_left _ q)))
    · rcases List.mem_cons.mp q with rfl | q
      · exact N3 _ (.head _)
      · exact N3 p (.tail _ (.tail _ (List.mem_append_right _ q)))
  cases hd : l.drop pos with
  | nil =>
    have hle : l.length ≤ pos := by
      have := congrArg List.length hd
      simp at this; omega
    exact c_readE0 w mean mg mb dp un gd cn cs a ccd cl outer A₀ base h₀ L m s Q E io d (pre ++ post') t1 t2 t3 u2 u3 u4 nl l pos B F X T hk N2 hid hrest hdp hun (by rw [len_tx]; exact hle) (by omega)
      (fun t h' tk' F' N' => hend hd t h' tk' F' (back N'))
  | cons c post =>
    exact c_read0 w mean mg mb dp un gd cn cs a ccd cl outer A₀ base h₀ L m s Q E io d (pre ++ post') t1 t2 t3 u2 u3 u4 nl l post c pos B F X T hk N2 hid hrest hdp hun hd (by rw [len_tx]; exact drop_lt hd) (by rw [len_tx]; exact hlen)
      (fun t u3 h' tk' F' N' => hret c post hd t u3 h' tk' F' (back N'))
end
section
abbrev lexD (P : Params) (kt vt : Nat → Tok) (io pb fs : Addr) (wc : Str) (st : Value) (ln : Int) (tl : Tok) (tok : Str) (tt : Tok) : List DictEntry :=
  [⟨keyHash P (ofString "instream"), .str (ofString "instream") (kt 0), .ref io⟩,
   ⟨keyHash P (ofString "infile"), .str (ofString "infile") (kt 1), .none⟩,
   ⟨keyHash P (ofString "posix"), .str (ofString "posix") (kt 2), .bool true⟩,
   ⟨keyHash P (ofString "eof"), .str (ofString "eof") (kt 3), .none⟩,
   ⟨keyHash P (ofString "commenters"), .str (ofString "commenters") (kt 4), .str (ofString "") (vt 4)⟩,
   ⟨keyHash P (ofString "wordchars"), .str (ofString "wordchars") (kt 5), .str wc (vt 5)⟩,
   ⟨keyHash P (ofString "whitespace"), .str (ofString "whitespace") (kt 6), .str (ofString " \t\x0d\n") (vt 6)⟩,
   ⟨keyHash P (ofString "whitespace_split"), .str (ofString "whitespace_split") (kt 7), .bool true⟩,
   ⟨keyHash P (ofString "quotes"), .str (ofString "quotes") (kt 8), .str (ofString "'\"") (vt 8)⟩,
   ⟨keyHash P (ofString "escape"), .str (ofString "escape") (kt 9), .str (ofString "\\") (vt 9)⟩,
   ⟨keyHash P (ofString "escapedquotes"), .str (ofString "escapedquotes") (kt 10), .str (ofString "\"") (vt 10)⟩,
   ⟨keyHash P (ofString "state"), .str (ofString "state") (kt 11), st⟩,
   ⟨keyHash P (ofString "pushback"), .str (ofString "pushback") (kt 12), .ref pb⟩,
   ⟨keyHash P (ofString "lineno"), .str (ofString "lineno") (kt 13), .int ln tl⟩,
   ⟨keyHash P (ofString "debug"), .str (ofString "debug") (kt 14), .int 0 (vt 14)⟩,
   ⟨keyHash P (ofString "token"), .str (ofString "token") (kt 15), .str tok tt⟩,
   ⟨keyHash P (ofString "filestack"), .str (ofString "filestack") (kt 16), .ref fs⟩,
   ⟨keyHash P (ofString "source"), .str (ofString "source") (kt 17), .none⟩,
   ⟨keyHash P (ofString "_punctuation_chars"), .str (ofString "_punctuation_chars") (kt 18), .str (ofString "") (vt 18)⟩]
theorem news_tl {h₀ h : Heap} {L : Addr} {led : List (Addr × Obj)} {e : Addr × Obj} (N : News h₀ L h (e :: led)) : News h₀ L h led := fun p hp => N p (.tail _ hp)
theorem c_readC {w : World} {mean : ExcName → Option Value} {mg mb : Str → Option Value}
    {dp un : Nat} {gd : Option (List Code)} {cn : Str} {cs : Scope} {a : Addr} {ccd : Value} {cl : List (Str × Addr)} {outer : List Env} {A₀ : Around} {base h₀ : Heap} {L : Addr} {m : Str → Option Value} {s : Shared} {Q E : Value → Shared → Prop}
    {io d : Addr} {led : List (Addr × Obj)} {g : Obj → List (Addr × Obj)} {t1 t2 t3 u2 u3 u4 : Tok} {nl : Value} {l post : List Nat} {pos c : Nat} {x : Str}
    (B : Below A₀ base outer h₀) (F : Fr h₀ L s.heap m) (X : (Mine.K w.params).In h₀) (T : Top Mine.q (looseW Mine.q Mine.loose) mean mg mb h₀) (hk : cs.kind = .function)
    (N : News h₀ L s.heap led) (hio : (io, instObj 629 d) ∈ led) (U : UpdF d (dictOf (ioD w.params t1 t2 t3 u2 u3 nl (tx l) pos) 3) led g)
    (hdp : dp + 4 < recursionLimit) (hun : un + 32 < cLine)
    (hlen : l.length < 100000) (hd : l.drop pos = c :: post) (hx : tx [c] = x)
    (hret : ∀ t u3 h' tk', Fr h₀ L h' m → News h₀ L h' (g (dictOf (ioD w.params t1 t2 t3 u2 u3 nl (tx l) ((pos + 1 : Nat) : Int)) 3)) → Q (.str x t) { s with heap := h', toks := tk' }) :
    wpAny (model rw_oy0313_02.row.prog w) (ktrTop dp un gd cn cs L a ccd cl outer) (call (.ref 575) [.ref io, .int 1 u4]) Q E s := by
  subst hx
  refine c_read B F X T hk N hio U hdp hun (Nat.le_of_lt (drop_lt hd)) hlen (fun c' post' hd' => ?_) (fun hd' => ?_)
  · obtain ⟨rfl, rfl⟩ := List.cons.inj (hd'.symm.trans hd)
    exact hret
  · rw [hd] at hd'; cases hd'
theorem c_readN {w : World} {mean : ExcName → Option Value} {mg mb : Str → Option Value}
    {dp un : Nat} {gd : Option (List Code)} {cn : Str} {cs : Scope} {a : Addr} {ccd : Value} {cl : List (Str × Addr)} {outer : List Env} {A₀ : Around} {base h₀ : Heap} {L : Addr} {m : Str → Option Value} {s : Shared} {Q E : Value → Shared → Prop}
    {io d : Addr} {led : List (Addr × Obj)} {g : Obj → List (Addr × Obj)} {t1 t2 t3 u2 u3 u4 : Tok} {nl : Value} {l : List Nat} {pos : Nat}
    (B : Below A₀ base outer h₀) (F : Fr h₀ L s.heap m) (X : (Mine.K w.params).In h₀) (T : Top Mine.q (looseW Mine.q Mine.loose) mean mg mb h₀) (hk : cs.kind = .function)
    (N : News h₀ L s.heap led) (hio : (io, instObj 629 d) ∈ led) (U : UpdF d (dictOf (ioD w.params t1 t2 t3 u2 u3 nl (tx l) pos) 3) led g)
    (hdp : dp + 4 < recursionLimit) (hun : un + 32 < cLine)
    (hlen : l.length < 100000) (hpl : pos ≤ l.length) (hd : l.drop pos = [])
    (hret : ∀ t h' tk', Fr h₀ L h' m → News h₀ L h' (g (dictOf (ioD w.params t1 t2 t3 u2 u3 nl (tx l) pos) 3)) → Q (.str (ofString "") t) { s with heap := h', toks := tk' }) :
    wpAny (model rw_oy0313_02.row.prog w) (ktrTop dp un gd cn cs L a ccd cl outer) (call (.ref 575) [.ref io, .int 1 u4]) Q E s := by
  refine c_read B F X T hk N hio U hdp hun hpl hlen (fun c' post' hd' => ?_) (fun _ => hret)
  rw [hd] at hd'; cases hd'
section
variable {prog : Program} {w : World} {A : Around} {E : Value → Shared → Prop} {s : Shared} {x y z : Str} {t u : Tok} {b : Bool}
theorem my_in {Q : Value → Shared → Prop} (hb : Txt.contains y x = b) (h : Q (.bool b) s) : wpAny (model prog w) A (compareOp .In (.str x t) (.str y u)) Q E s := by
  subst hb; exact SB.contains h
theorem my_eq {Q : Value → Shared → Prop} (hb : (x.cps.toList == y.cps.toList) = b) (h : Q (.bool b) s) : wpAny (model prog w) A (compareOp .Eq (.str x t) (.str y u)) Q E s := by
  subst hb; exact P.eq_str h
theorem my_ne {Q : Value → Shared → Prop} (hb : (x.cps.toList != y.cps.toList) = b) (h : Q (.bool b) s) : wpAny (model prog w) A (compareOp .NotEq (.str x t) (.str y u)) Q E s := by
  subst hb; exact P.ne_str h
theorem my_true {Q : Bool → Shared → Prop} (hl : x.length < 200000) (hb : ((x.length : Int) != 0) = b) (h : ∀ k, Q b { s with toks := k }) : wpAny (model prog w) A (truthy (.str x t)) Q E s := by
  subst hb; exact P.truthy_str (by omega) (h _)
theorem my_iadd {Q : Value → Shared → Prop} (hz : x ++ y = z) (hs : z.length < 400000) (h : ∀ t' k, Q (.str z t') { s with toks := k }) : wpAny (model prog w) A (inplaceOp .Add (.str x t) (.str y u)) Q E s := by
  subst hz; exact SB.iadd h (by rw [PySem.Str.length_append] at hs; exact Nat.le_trans (Nat.le_of_lt hs) (by decide))
end
theorem my_nin {prog : Program} {w : World} {A : Around} {E : Value → Shared → Prop} {s : Shared} {x y : Str} {t u : Tok} {Q : Value → Shared → Prop} (hb : Txt.contains y x = false) (h : Q (.bool true) s) : wpAny (model prog w) A (compareOp .NotIn (.str x t) (.str y u)) Q E s := by
  refine SB.notContains ?_
  rw [hb]; exact h
def rtM (lx : Addr) (nc : Option Value) (q : Bool) (es : Str) (te : Tok) : Str → Option Value := fun y =>
  if y = ofString "nextchar" then nc else if y = ofString "escapedstate" then some (.str es te) else if y = ofString "quoted" then some (.bool q) else if y = ofString "self" then some (.ref lx) else none
theorem rtM_init (lx : Addr) (q : Bool) (es : Str) (te : Tok) : (fun y => if y = ofString "escapedstate" then some (.str es te) else if y = ofString "quoted" then some (.bool q) else if y = ofString "self" then some (.ref lx) else none) = rtM lx none q es te := by
  funext y
  unfold rtM
  by_cases y1 : y = ofString "nextchar"
  · subst y1; kernel_rfl
  · simp only [y1, if_false]
theorem rtM_nc (lx : Addr) (nc : Option Value) (q : Bool) (es : Str) (te : Tok) (v : Value) : (fun y => if y = ofString "nextchar" then some v else rtM lx nc q es te y) = rtM lx (some v) q es te := by
  funext y
  unfold rtM
  by_cases y1 : y = ofString "nextchar" <;> simp only [y1, if_true, if_false]
theorem rtM_es (lx : Addr) (nc : Option Value) (q : Bool) (es : Str) (te : Tok) (es' : Str) (te' : Tok) : (fun y => if y = ofString "escapedstate" then some (.str es' te') else rtM lx nc q es te y) = rtM lx nc q es' te' := by
  funext y
  unfold rtM
  by_cases y1 : y = ofString "escapedstate"
  · subst y1; kernel_rfl
  · simp only [y1, if_false]
theorem rtM_q (lx : Addr) (nc : Option Value) (q : Bool) (es : Str) (te : Tok) (q' : Bool) : (fun y => if y = ofString "quoted" then some (.bool q') else rtM lx nc q es te y) = rtM lx nc q' es te := by
  funext y
  unfold rtM
  by_cases y1 : y = ofString "quoted"
  · subst y1; kernel_rfl
  · simp only [y1, if_false]
theorem rtM_esq (lx : Addr) (nc : Option Value) (q : Bool) (es : Str) (te : Tok) (es' : Str) (te' : Tok) (q' : Bool) : (fun y => if y = ofString "escapedstate" then some (.str es' te') else if y = ofString "quoted" then some (.bool q') else rtM lx nc q es te y) = rtM lx nc q' es' te' := by
  funext y
  rw [show (if y = ofString "quoted" then some (.bool q') else rtM lx nc q es te y) = rtM lx nc q' es te y from congrFun (rtM_q lx nc q es te q') y]
  exact congrFun (rtM_es lx nc q' es te es' te') y
end
section
/-- one word of netrc's reader: md 0 between words, 1 in marks, 2 in a word, 3 behind a backslash in marks, 4 behind one in a word -/
def ntT : List Nat → Nat → List Nat → List Nat × List Nat
  | [], _, tok => (tok, [])
  | c :: r, md, tok =>
    if md = 0 then (if ws c then ntT r 0 tok else if c = 34 then ntT r 1 tok else if c = 92 then ntT r 4 tok else ntT r 2 (tok ++ [c]))
    else if md = 1 then (if c = 34 then (tok, r) else if c = 92 then ntT r 3 tok else ntT r 1 (tok ++ [c]))
    else if md = 2 then (if ws c then (tok, r) else if c = 92 then ntT r 4 tok else ntT r 2 (tok ++ [c]))
    else if md = 3 then ntT r 1 (tok ++ [c])
    else ntT r 2 (tok ++ [c])
def lnA (l : List Nat) (pos : Nat) : Int := 1 + ((l.take pos).count 10 : Nat)
theorem lnA_succ {l post : List Nat} {pos c : Nat} (h : l.drop pos = c :: post) : lnA l (pos + 1) = if c == 10 then lnA l pos + 1 else lnA l pos := by
  have hlt := drop_lt h
  have e : l.take (pos + 1) = l.take pos ++ [c] := by
    rw [List.take_add_one]
    have : l[pos]? = some c := by
      have := congrArg (fun x : List Nat => x[0]?) h
      simpa using this
    rw [this]; rfl
  unfold lnA
  rw [e, List.count_append, List.count_singleton]
  by_cases hc : c == 10
  · simp only [hc, if_true]; omega
  · simp only [Bool.not_eq_true] at hc; simp only [hc]; simp
theorem lnA_ok (l : List Nat) (pos : Nat) : 0 ≤ lnA l pos ∧ lnA l pos ≤ 1000000 + pos := by
  have : (l.take pos).count 10 ≤ (l.take pos).length := List.count_le_length
  have h2 : (l.take pos).length ≤ pos := by simp; omega
  unfold lnA
  omega
end
theorem ring1 : True := by first | walk1 | trivial
section
local macro_rules | `(tactic| walk_at "compareOp In str str") => `(tactic| (refine' my_in ?mb ?_; (case mb => first | assumption | (refine (?_ : _ = true); kernel_rfl!) | (refine (?_ : _ = false); kernel_rfl!))))
local macro_rules | `(tactic| walk_at "compareOp Eq str str") => `(tactic| (refine' my_eq ?mb ?_; (case mb => first | assumption | (refine (?_ : _ = true); kernel_rfl!) | (refine (?_ : _ = false); kernel_rfl!))))
local macro_rules | `(tactic| walk_at "compareOp NotEq str str") => `(tactic| (refine' my_ne ?mb ?_; (case mb => first | assumption | (refine (?_ : _ = true); kernel_rfl!) | (refine (?_ : _ = false); kernel_rfl!))))
local macro_rules | `(tactic| walk_at "truthy str") => `(tactic| (refine' my_true ?ml ?mb ?_; (case ml => first | assumption | decide +kernel); (case mb => first | assumption | (refine (?_ : _ = true); kernel_rfl!) | (refine (?_ : _ = false); kernel_rfl!)); intro k9))
local macro_rules | `(tactic| walk_at "inplaceOp Add str str") => `(tactic| (refine' my_iadd ?mz ?ms ?_; (case mz => assumption); (case ms => assumption); intro t9 k9))
local macro_rules | `(tactic| walk_at "ite") => `(tactic| first | refine ite_tt ?_ | refine ite_ff ?_)
local macro_rules | `(tactic| walk_at "compareOp NotIn str str") => `(tactic| (refine' my_nin ?mb ?_; (case mb => assumption)))
local macro_rules | `(tactic| walk_at "call ref") => `(tactic| (k_here; (with_reducible show wpAny _ _ (call (Value.ref 575) [Value.ref _, Value.int 1 _]) _ _ _); k_dflt (first
  | (refine' c_readC ?k1 ?k2 ?k3 ?k4 ?k5 ?k6 ?k7 ?k8 ?kd ?ku ?kl ?kp ?kx ?_; (case k1 => k_asm); (case k2 => k_asm); (case k3 => k_asm); (case k4 => k_asm); (case k5 => first | exact rfl | assumption); (case k6 => k_asm); (case k7 => k_mem); (case k8 => k_updF); (case kd => ktr_room); (case ku => ktr_units); (case kl => assumption); (case kp => assumption); (case kx => assumption); k_whole; intro t9 u9 h9 tk9 F9 N9; (try dsimp only at N9); (try dsimp only))
  | (refine' c_readN ?k1 ?k2 ?k3 ?k4 ?k5 ?k6 ?k7 ?k8 ?kd ?ku ?kl ?kq ?kp ?_; (case k1 => k_asm); (case k2 => k_asm); (case k3 => k_asm); (case k4 => k_asm); (case k5 => first | exact rfl | assumption); (case k6 => k_asm); (case k7 => k_mem); (case k8 => k_updF); (case kd => ktr_room); (case ku => ktr_units); (case kl => assumption); (case kq => assumption); (case kp => assumption); k_whole; intro t9 h9 tk9 F9 N9; (try dsimp only at N9); (try dsimp only)))))
section
noncomputable def whB (i : Nat) (l : List Stmt) : List Stmt := match l.getD i (.Pass default) with | .While _ b _ _ => b | _ => []
noncomputable abbrev rtE (L' : Addr) : Env := envOf (ofString "shlex.read_token") (fS (subAt 21 6)) L' 732 (Value.ref 731)
noncomputable abbrev rtB : List Stmt := whB 2 (fB (subAt 21 6))
theorem rt_pre : ∀ (w : World) (mean : ExcName → Option Value) (mg mb : Str → Option Value)
    (dp un : Nat) (gd : Option (List Code)) (cn : Str) (cs : Scope) (a : Addr) (ccd : Value) (cl : List (Str × Addr)) (outer : List Env) (A₀ : Around) (base h₀ : Heap) (L : Addr) (m : Str → Option Value) (s : Shared) (Q E : Value → Shared → Prop) (g' : Heap) (L' : Addr) (W : Flow → Shared → Prop) (E' : Value → Shared → Prop)
    (lx ld io d pb fs : Addr) (rest : List (Addr × Obj)) (kt vt : Nat → Tok) (wc : Str) (t1 t2 t3 u2 : Tok) (nl : Value) (l : List Nat) (st tok : Str) (ln : Int) (tl tt ts te u3 : Tok) (pos c : Nat) (post : List Nat) (nc : Option Value) (q : Bool) (es : Str) (x : Str)
    (B : Below (ktrTop dp un gd cn cs L a ccd cl outer) base (envX cn cs L a ccd cl :: outer) g') (X : (Mine.K w.params).In g') (T : Top Mine.q (looseW Mine.q Mine.loose) mean mg mb g') (F : Fr g' L' s.heap (rtM lx nc q es te))
    (N : News g' L' s.heap ((ld, dictOf (lexD w.params kt vt io pb fs wc (.str st ts) ln tl tok tt) 19) :: (lx, instObj 764 ld) :: (d, dictOf (ioD w.params t1 t2 t3 u2 u3 nl (tx l) pos) 3) :: (io, instObj 629 d) :: rest))
    (n1 : @Ne Nat lx ld) (n2 : @Ne Nat d ld) (n3 : @Ne Nat io ld) (n4 : @Ne Nat lx d) (n5 : @Ne Nat io d) (r1 : ∀ p ∈ rest, p.1 ≠ ld) (r2 : ∀ p ∈ rest, p.1 ≠ d) (hdp : dp + 8 < recursionLimit) (hun : un + 64 < cLine) (hlen : l.length < 100000) (hln : 0 ≤ ln ∧ ln < 2000000)
    (hd : l.drop pos = c :: post) (hx : tx [c] = x)
    (f1 : (x.cps.toList == (ofString "\n").cps.toList) = (c == 10))
    (hW : ∀ (tl' u3' t' : Tok) (ln' : Int) h' tk', (ln' = ln ∨ ln' = ln + 1) → Fr g' L' h' (rtM lx (some (.str x t')) q es te) → News g' L' h' ((ld, dictOf (lexD w.params kt vt io pb fs wc (.str st ts) ln' tl' tok tt) 19) :: (lx, instObj 764 ld) :: (d, dictOf (ioD w.params t1 t2 t3 u2 u3' nl (tx l) ((pos + 1 : Nat) : Int)) 3) :: (io, instObj 629 d) :: rest) →
      wpAny (model rw_oy0313_02.row.prog w) ((ktrTop dp un gd cn cs L a ccd cl outer).deeper (rtE L')) (execs (rtB.drop 3) (rtE L')) W E' { s with heap := h', toks := tk' }),
    wpAny (model rw_oy0313_02.row.prog w) ((ktrTop dp un gd cn cs L a ccd cl outer).deeper (rtE L')) (execs rtB (rtE L')) W E' s := by
  refine hk40 (by repeat first | exact nW | exact nA | exact nS | apply nP | infer_instance) ((?f : ∀ w mean mg mb dp un gd cn cs a ccd cl outer A₀ base h₀ L m s Q E g' L' W E' lx ld io d pb fs rest kt vt wc t1 t2 t3 u2 nl, Hd40 _ w mean mg mb dp un gd cn cs a ccd cl outer A₀ base h₀ L m s Q E g' L' W E' lx ld io d pb fs rest kt vt wc t1 t2 t3 u2 nl) _ _ _ _ _ _ _ _ _ _ _ _ _ _ _ _ _ _ _ _ _ _ _ _ _ _ _ _ _ _ _ _ _ _ _ _ _ _ _ _)
  set_option tactic.hygienic false in (intros; intro l; intros)
  revert X; k_fill; intro X
  repeat' ((fail_if_success (with_reducible show wpAny _ _ (execs [_] _) W _ _)); ktr_step)
  all_goals (rename Fr g' L' _ _ => F9; rename News g' L' _ _ => N9; (try rw [rtM_nc] at F9))
  · exact hW _ _ _ _ _ _ (.inr rfl) F9 N9
  · exact hW _ _ _ _ _ _ (.inl rfl) F9 N9
theorem rt_preE : ∀ (w : World) (mean : ExcName → Option Value) (mg mb : Str → Option Value)
    (dp un : Nat) (gd : Option (List Code)) (cn : Str) (cs : Scope) (a : Addr) (ccd : Value) (cl : List (Str × Addr)) (outer : List Env) (A₀ : Around) (base h₀ : Heap) (L : Addr) (m : Str → Option Value) (s : Shared) (Q E : Value → Shared → Prop) (g' : Heap) (L' : Addr) (W : Flow → Shared → Prop) (E' : Value → Shared → Prop)
    (lx ld io d pb fs : Addr) (rest : List (Addr × Obj)) (kt vt : Nat → Tok) (wc : Str) (t1 t2 t3 u2 : Tok) (nl : Value) (l : List Nat) (st : Value) (tok : Str) (ln : Int) (tl tt te u3 : Tok) (pos : Nat) (nc : Option Value) (q : Bool) (es : Str)
    (B : Below (ktrTop dp un gd cn cs L a ccd cl outer) base (envX cn cs L a ccd cl :: outer) g') (X : (Mine.K w.params).In g') (T : Top Mine.q (looseW Mine.q Mine.loose) mean mg mb g') (F : Fr g' L' s.heap (rtM lx nc q es te))
    (N : News g' L' s.heap ((ld, dictOf (lexD w.params kt vt io pb fs wc st ln tl tok tt) 19) :: (lx, instObj 764 ld) :: (d, dictOf (ioD w.params t1 t2 t3 u2 u3 nl (tx l) pos) 3) :: (io, instObj 629 d) :: rest))
    (n1 : @Ne Nat lx ld) (n2 : @Ne Nat d ld) (n3 : @Ne Nat io ld) (n4 : @Ne Nat lx d) (n5 : @Ne Nat io d) (r1 : ∀ p ∈ rest, p.1 ≠ ld) (r2 : ∀ p ∈ rest, p.1 ≠ d) (hdp : dp + 8 < recursionLimit) (hun : un + 64 < cLine) (hlen : l.length < 100000) (hpl : pos ≤ l.length)
    (hd : l.drop pos = [])
    (hW : ∀ (t' : Tok) h' tk', Fr g' L' h' (rtM lx (some (.str (ofString "") t')) q es te) → News g' L' h' ((ld, dictOf (lexD w.params kt vt io pb fs wc st ln tl tok tt) 19) :: (lx, instObj 764 ld) :: (d, dictOf (ioD w.params t1 t2 t3 u2 u3 nl (tx l) pos) 3) :: (io, instObj 629 d) :: rest) →
      wpAny (model rw_oy0313_02.row.prog w) ((ktrTop dp un gd cn cs L a ccd cl outer).deeper (rtE L')) (execs (rtB.drop 3) (rtE L')) W E' { s with heap := h', toks := tk' }),
    wpAny (model rw_oy0313_02.row.prog w) ((ktrTop dp un gd cn cs L a ccd cl outer).deeper (rtE L')) (execs rtB (rtE L')) W E' s := by
  refine hk40 (by repeat first | exact nW | exact nA | exact nS | apply nP | infer_instance) ((?f : ∀ w mean mg mb dp un gd cn cs a ccd cl outer A₀ base h₀ L m s Q E g' L' W E' lx ld io d pb fs rest kt vt wc t1 t2 t3 u2 nl, Hd40 _ w mean mg mb dp un gd cn cs a ccd cl outer A₀ base h₀ L m s Q E g' L' W E' lx ld io d pb fs rest kt vt wc t1 t2 t3 u2 nl) _ _ _ _ _ _ _ _ _ _ _ _ _ _ _ _ _ _ _ _ _ _ _ _ _ _ _ _ _ _ _ _ _ _ _ _ _ _ _ _)
  set_option tactic.hygienic false in (intros; intro l; intros)
  revert X; k_fill; intro X
  repeat' ((fail_if_success (with_reducible show wpAny _ _ (execs [_] _) W _ _)); ktr_step)
  all_goals (rename Fr g' L' _ _ => F9; rename News g' L' _ _ => N9; (try rw [rtM_nc] at F9))
  all_goals exact hW _ _ _ F9 N9
end
section
abbrev nlD (P : Params) (k0 k1 k2 k3 : Tok) (v2 : Tok) (io pb : Addr) (ln : Int) (tl : Tok) : List DictEntry :=
  [⟨keyHash P (ofString "lineno"), .str (ofString "lineno") k0, .int ln tl⟩,
   ⟨keyHash P (ofString "instream"), .str (ofString "instream") k1, .ref io⟩,
   ⟨keyHash P (ofString "whitespace"), .str (ofString "whitespace") k2, .str (ofString "\n\t\x0d ") v2⟩,
   ⟨keyHash P (ofString "pushback"), .str (ofString "pushback") k3, .ref pb⟩]
theorem c_rchK (w : World) (mean : ExcName → Option Value) (mg mb : Str → Option Value)
    (dp un : Nat) (gd : Option (List Code)) (cn : Str) (cs : Scope) (a : Addr) (ccd : Value) (cl : List (Str × Addr)) (outer : List Env) (A₀ : Around) (base h₀ : Heap) (L : Addr) (m : Str → Option Value) (s : Shared) (Q E : Value → Shared → Prop)
    (nx nd io d pb : Addr) (rest : List (Addr × Obj)) (k0 k1 k2 k3 v2 : Tok) (t1 t2 t3 u2 u3 : Tok) (nl : Value) (l post : List Nat) (pos c : Nat) (ln : Int) (tl : Tok) (x : Str) (b : Bool)
    (B : Below A₀ base outer h₀) (F : Fr h₀ L s.heap m) (X : (Mine.K w.params).In h₀) (T : Top Mine.q (looseW Mine.q Mine.loose) mean mg mb h₀) (hk : cs.kind = .function)
    (N : News h₀ L s.heap ((nd, dictOf (nlD w.params k0 k1 k2 k3 v2 io pb ln tl) 4) :: (nx, instObj 77 nd) :: (d, dictOf (ioD w.params t1 t2 t3 u2 u3 nl (tx l) pos) 3) :: (io, instObj 629 d) :: rest))
    (n1 : @Ne Nat nx nd) (n2 : @Ne Nat d nd) (n3 : @Ne Nat io nd) (n4 : @Ne Nat nx d) (n5 : @Ne Nat io d) (r1 : ∀ p ∈ rest, p.1 ≠ nd) (r2 : ∀ p ∈ rest, p.1 ≠ d) (hdp : dp + 8 < recursionLimit) (hun : un + 64 < cLine) (hlen : l.length < 100000)
    (hd : l.drop pos = c :: post) (hx : tx [c] = x) (hb : (x.cps.toList == (ofString "\n").cps.toList) = b) (hln : 0 ≤ ln ∧ ln ≤ 1000000 + pos)
    (hret : ∀ t u3' (ln' : Int) tl' h' tk', ln' = (if b = true then ln + 1 else ln) → Fr h₀ L h' m → News h₀ L h' ((nd, dictOf (nlD w.params k0 k1 k2 k3 v2 io pb ln' tl') 4) :: (nx, instObj 77 nd) :: (d, dictOf (ioD w.params t1 t2 t3 u2 u3' nl (tx l) ((pos + 1 : Nat) : Int)) 3) :: (io, instObj 629 d) :: rest) → Q (.str x t) { s with heap := h', toks := tk' }) :
    codeAny (model rw_oy0313_02.row.prog w) (ktrTop dp un gd cn cs L a ccd cl outer) (.call (.ref 60) ⟨[.ref nx], []⟩) (fun r s' => match r with | .ok (.ret v) => Q v s' | .ok _ => False | .error e => E e s') s := by
  revert X; k_fill; intro X
  cases b
  all_goals
    k_dflt (refine' code_def ?k1 ?k2 ?k3 ?k4 ?k5 ?kA ?kF ?kK ?k6 ?k7 ?k8 ?k9 ?kB ?_ ?c2 ?c3 ?c4 ?c5; (case kA => exact rfl); (case kF => exact rfl); (case kK => assumption); (case k1 => k_asm); (case k2 => k_asm); (case k3 => k_asm); (case k4 => k_asm); (case k5 => k_asm); (case k6 => k_is); (case k7 => k_is); (case k8 => ktr_room); (case k9 => first | exact BindsTo.of_eq rfl | exact binds_K (by k_in) rfl (by k_is) rfl rfl rfl); (case c5 => decide); (case kB => exact locs rfl); (case c2 => exact rfl); (case c3 => exact rfl); (case c4 => exact rfl); k_whole; intro g' L' h' FG' F' N' B' X' T'; (try dsimp only); (try k_lift B'); (try k_fold))
    repeat' ktr_step
  · exact hret _ _ _ _ _ _ rfl (by assumption) (by assumption)
  · exact hret _ _ _ _ _ _ rfl (by assumption) (by assumption)
theorem c_rchNK (w : World) (mean : ExcName → Option Value) (mg mb : Str → Option Value)
    (dp un : Nat) (gd : Option (List Code)) (cn : Str) (cs : Scope) (a : Addr) (ccd : Value) (cl : List (Str × Addr)) (outer : List Env) (A₀ : Around) (base h₀ : Heap) (L : Addr) (m : Str → Option Value) (s : Shared) (Q E : Value → Shared → Prop)
    (nx nd io d pb : Addr) (rest : List (Addr × Obj)) (k0 k1 k2 k3 v2 : Tok) (t1 t2 t3 u2 u3 : Tok) (nl : Value) (l : List Nat) (pos : Nat) (ln : Int) (tl : Tok)
    (B : Below A₀ base outer h₀) (F : Fr h₀ L s.heap m) (X : (Mine.K w.params).In h₀) (T : Top Mine.q (looseW Mine.q Mine.loose) mean mg mb h₀) (hk : cs.kind = .function)
    (N : News h₀ L s.heap ((nd, dictOf (nlD w.params k0 k1 k2 k3 v2 io pb ln tl) 4) :: (nx, instObj 77 nd) :: (d, dictOf (ioD w.params t1 t2 t3 u2 u3 nl (tx l) pos) 3) :: (io, instObj 629 d) :: rest))
    (n1 : @Ne Nat nx nd) (n2 : @Ne Nat d nd) (n3 : @Ne Nat io nd) (n4 : @Ne Nat nx d) (n5 : @Ne Nat io d) (r1 : ∀ p ∈ rest, p.1 ≠ nd) (r2 : ∀ p ∈ rest, p.1 ≠ d) (hdp : dp + 8 < recursionLimit) (hun : un + 64 < cLine) (hlen : l.length < 100000) (hpl : pos ≤ l.length)
    (hd : l.drop pos = [])
    (hret : ∀ t h' tk', Fr h₀ L h' m → News h₀ L h' ((nd, dictOf (nlD w.params k0 k1 k2 k3 v2 io pb ln tl) 4) :: (nx, instObj 77 nd) :: (d, dictOf (ioD w.params t1 t2 t3 u2 u3 nl (tx l) pos) 3) :: (io, instObj 629 d) :: rest) → Q (.str (ofString "") t) { s with heap := h', toks := tk' }) :
    codeAny (model rw_oy0313_02.row.prog w) (ktrTop dp un gd cn cs L a ccd cl outer) (.call (.ref 60) ⟨[.ref nx], []⟩) (fun r s' => match r with | .ok (.ret v) => Q v s' | .ok _ => False | .error e => E e s') s := by
  revert X; k_fill; intro X
  k_dflt (refine' code_def ?k1 ?k2 ?k3 ?k4 ?k5 ?kA ?kF ?kK ?k6 ?k7 ?k8 ?k9 ?kB ?_ ?c2 ?c3 ?c4 ?c5; (case kA => exact rfl); (case kF => exact rfl); (case kK => assumption); (case k1 => k_asm); (case k2 => k_asm); (case k3 => k_asm); (case k4 => k_asm); (case k5 => k_asm); (case k6 => k_is); (case k7 => k_is); (case k8 => ktr_room); (case k9 => first | exact BindsTo.of_eq rfl | exact binds_K (by k_in) rfl (by k_is) rfl rfl rfl); (case c5 => decide); (case kB => exact locs rfl); (case c2 => exact rfl); (case c3 => exact rfl); (case c4 => exact rfl); k_whole; intro g' L' h' FG' F' N' B' X' T'; (try dsimp only); (try k_lift B'); (try k_fold))
  repeat' ktr_step
  exact hret _ _ _ (by assumption) (by assumption)
end
section
theorem rt_m0 : ∀ (w : World) (mean : ExcName → Option Value) (mg mb : Str → Option Value)
    (dp un : Nat) (gd : Option (List Code)) (cn : Str) (cs : Scope) (a : Addr) (ccd : Value) (cl : List (Str × Addr)) (outer : List Env) (A₀ : Around) (base h₀ : Heap) (L : Addr) (m : Str → Option Value) (s : Shared) (Q E : Value → Shared → Prop) (g' : Heap) (L' : Addr) (W : Flow → Shared → Prop) (E' : Value → Shared → Prop)
    (lx ld io d pb fs : Addr) (rest : List (Addr × Obj)) (kt vt : Nat → Tok) (wc : Str) (t1 t2 t3 u2 : Tok) (nl : Value) (l : List Nat) (ln : Int) (tl tt ts te tx' u3 : Tok) (pos : Int) (c : Nat) (es : Str) (x : Str) (bw : Bool)
    (B : Below (ktrTop dp un gd cn cs L a ccd cl outer) base (envX cn cs L a ccd cl :: outer) g') (X : (Mine.K w.params).In g') (T : Top Mine.q (looseW Mine.q Mine.loose) mean mg mb g') (F : Fr g' L' s.heap (rtM lx (some (.str x tx')) false es te))
    (N : News g' L' s.heap ((ld, dictOf (lexD w.params kt vt io pb fs wc (.str (ofString " ") ts) ln tl (ofString "") tt) 19) :: (lx, instObj 764 ld) :: (d, dictOf (ioD w.params t1 t2 t3 u2 u3 nl (tx l) pos) 3) :: (io, instObj 629 d) :: rest))
    (n1 : @Ne Nat lx ld) (n2 : @Ne Nat d ld) (n3 : @Ne Nat io ld) (n4 : @Ne Nat lx d) (n5 : @Ne Nat io d) (r1 : ∀ p ∈ rest, p.1 ≠ ld) (r2 : ∀ p ∈ rest, p.1 ≠ d) (hdp : dp + 8 < recursionLimit) (hun : un + 64 < cLine) (hx1 : x.length < 200000) (hx2 : ((x.length : Int) != 0) = true) (f5 : Txt.contains (ofString " \t\x0d\n") x = ws c) (f7 : Txt.contains (ofString "") x = false)
    (f8 : Txt.contains (ofString "\\") x = (c == 92)) (f9 : Txt.contains (ofString "'\"") x = (c == 39 || c == 34)) (fw : Txt.contains wc x = bw)
    (hws : ws c = true → ∀ h' tk', Fr g' L' h' (rtM lx (some (.str x tx')) false es te) → News g' L' h' ((ld, dictOf (lexD w.params kt vt io pb fs wc (.str (ofString " ") ts) ln tl (ofString "") tt) 19) :: (lx, instObj 764 ld) :: (d, dictOf (ioD w.params t1 t2 t3 u2 u3 nl (tx l) pos) 3) :: (io, instObj 629 d) :: rest) → W .cont { s with heap := h', toks := tk' })
    (hbs : ws c = false → (c == 92) = true → ∀ te' h' tk', Fr g' L' h' (rtM lx (some (.str x tx')) false (ofString "a") te') → News g' L' h' ((ld, dictOf (lexD w.params kt vt io pb fs wc (.str x tx') ln tl (ofString "") tt) 19) :: (lx, instObj 764 ld) :: (d, dictOf (ioD w.params t1 t2 t3 u2 u3 nl (tx l) pos) 3) :: (io, instObj 629 d) :: rest) → W .next { s with heap := h', toks := tk' })
    (hwd : ws c = false → (c == 92) = false → (bw = true ∨ (c == 39 || c == 34) = false) → ∀ ta h' tk', Fr g' L' h' (rtM lx (some (.str x tx')) false es te) → News g' L' h' ((ld, dictOf (lexD w.params kt vt io pb fs wc (.str (ofString "a") ta) ln tl x tx') 19) :: (lx, instObj 764 ld) :: (d, dictOf (ioD w.params t1 t2 t3 u2 u3 nl (tx l) pos) 3) :: (io, instObj 629 d) :: rest) → W .next { s with heap := h', toks := tk' })
    (hqt : ws c = false → (c == 92) = false → bw = false → (c == 39 || c == 34) = true → ∀ h' tk', Fr g' L' h' (rtM lx (some (.str x tx')) false es te) → News g' L' h' ((ld, dictOf (lexD w.params kt vt io pb fs wc (.str x tx') ln tl (ofString "") tt) 19) :: (lx, instObj 764 ld) :: (d, dictOf (ioD w.params t1 t2 t3 u2 u3 nl (tx l) pos) 3) :: (io, instObj 629 d) :: rest) → W .next { s with heap := h', toks := tk' }),
    wpAny (model rw_oy0313_02.row.prog w) ((ktrTop dp un gd cn cs L a ccd cl outer).deeper (rtE L')) (execs (rtB.drop 3) (rtE L')) W E' s := by
  refine hk40 (by repeat first | exact nW | exact nA | exact nS | apply nP | infer_instance) ((?f : ∀ w mean mg mb dp un gd cn cs a ccd cl outer A₀ base h₀ L m s Q E g' L' W E' lx ld io d pb fs rest kt vt wc t1 t2 t3 u2 nl, Hd40 _ w mean mg mb dp un gd cn cs a ccd cl outer A₀ base h₀ L m s Q E g' L' W E' lx ld io d pb fs rest kt vt wc t1 t2 t3 u2 nl) _ _ _ _ _ _ _ _ _ _ _ _ _ _ _ _ _ _ _ _ _ _ _ _ _ _ _ _ _ _ _ _ _ _ _ _ _ _ _ _)
  set_option tactic.hygienic false in (intros; intro l; intros)
  revert X; k_fill; intro X
  repeat' ktr_step
  all_goals (try dsimp only)
  all_goals (rename Fr g' L' _ _ => F9; rename News g' L' _ _ => N9; (try simp only [rtM_esq, rtM_es, rtM_q] at F9))
  all_goals (first
    | exact hws (by first | assumption | simp_all) _ _ F9 N9
    | exact hws (by first | assumption | simp_all) _ _ F9 (news_tl N9)
    | exact hbs (by first | assumption | simp_all) (by first | assumption | simp_all) _ _ _ F9 N9
    | exact hbs (by first | assumption | simp_all) (by first | assumption | simp_all) _ _ _ F9 (news_tl N9)
    | exact hqt (by first | assumption | simp_all) (by first | assumption | simp_all) (by first | assumption | simp_all) (by first | assumption | simp_all) _ _ F9 N9
    | exact hqt (by first | assumption | simp_all) (by first | assumption | simp_all) (by first | assumption | simp_all) (by first | assumption | simp_all) _ _ F9 (news_tl N9)
    | exact hwd (by first | assumption | simp_all) (by first | assumption | simp_all) (by first | assumption | simp_all) _ _ _ F9 N9
    | exact hwd (by first | assumption | simp_all) (by first | assumption | simp_all) (by first | assumption | simp_all) _ _ _ F9 (news_tl N9)
    | (exfalso; simp_all; done)
    | skip)
end
section
theorem rt_m1 : ∀ (w : World) (mean : ExcName → Option Value) (mg mb : Str → Option Value)
    (dp un : Nat) (gd : Option (List Code)) (cn : Str) (cs : Scope) (a : Addr) (ccd : Value) (cl : List (Str × Addr)) (outer : List Env) (A₀ : Around) (base h₀ : Heap) (L : Addr) (m : Str → Option Value) (s : Shared) (Q E : Value → Shared → Prop) (g' : Heap) (L' : Addr) (W : Flow → Shared → Prop) (E' : Value → Shared → Prop)
    (lx ld io d pb fs : Addr) (rest : List (Addr × Obj)) (kt vt : Nat → Tok) (wc : Str) (t1 t2 t3 u2 : Tok) (nl : Value) (l : List Nat) (ln : Int) (tl tt ts te tx' u3 : Tok) (pos : Int) (c : Nat) (es : Str) (x : Str) (bw bt q : Bool) (tok : List Nat)
    (B : Below (ktrTop dp un gd cn cs L a ccd cl outer) base (envX cn cs L a ccd cl :: outer) g') (X : (Mine.K w.params).In g') (T : Top Mine.q (looseW Mine.q Mine.loose) mean mg mb g') (F : Fr g' L' s.heap (rtM lx (some (.str x tx')) q es te))
    (N : News g' L' s.heap ((ld, dictOf (lexD w.params kt vt io pb fs wc (.str (ofString "a") ts) ln tl (tx tok) tt) 19) :: (lx, instObj 764 ld) :: (d, dictOf (ioD w.params t1 t2 t3 u2 u3 nl (tx l) pos) 3) :: (io, instObj 629 d) :: rest))
    (n1 : @Ne Nat lx ld) (n2 : @Ne Nat d ld) (n3 : @Ne Nat io ld) (n4 : @Ne Nat lx d) (n5 : @Ne Nat io d) (r1 : ∀ p ∈ rest, p.1 ≠ ld) (r2 : ∀ p ∈ rest, p.1 ≠ d) (hdp : dp + 8 < recursionLimit) (hun : un + 64 < cLine) (hx1 : x.length < 200000) (hx2 : ((x.length : Int) != 0) = true) (f5 : Txt.contains (ofString " \t\x0d\n") x = ws c) (f7 : Txt.contains (ofString "") x = false)
    (f8 : Txt.contains (ofString "\\") x = (c == 92)) (f9 : Txt.contains (ofString "'\"") x = (c == 39 || c == 34)) (fw : Txt.contains wc x = bw) (hcat1 : tx tok ++ x = tx (tok ++ [c])) (hz1 : (tx (tok ++ [c])).length < 400000) (hl2 : (tx tok).length < 200000) (hbt : (((tx tok).length : Int) != 0) = bt) (hbq : (bt || q) = true)
    (hws : ws c = true → ∀ ta h' tk', Fr g' L' h' (rtM lx (some (.str x tx')) q es te) → News g' L' h' ((ld, dictOf (lexD w.params kt vt io pb fs wc (.str (ofString " ") ta) ln tl (tx tok) tt) 19) :: (lx, instObj 764 ld) :: (d, dictOf (ioD w.params t1 t2 t3 u2 u3 nl (tx l) pos) 3) :: (io, instObj 629 d) :: rest) → W .brk { s with heap := h', toks := tk' })
    (hqt : ws c = false → (c == 39 || c == 34) = true → ∀ h' tk', Fr g' L' h' (rtM lx (some (.str x tx')) q es te) → News g' L' h' ((ld, dictOf (lexD w.params kt vt io pb fs wc (.str x tx') ln tl (tx tok) tt) 19) :: (lx, instObj 764 ld) :: (d, dictOf (ioD w.params t1 t2 t3 u2 u3 nl (tx l) pos) 3) :: (io, instObj 629 d) :: rest) → W .next { s with heap := h', toks := tk' })
    (hbs : ws c = false → (c == 39 || c == 34) = false → (c == 92) = true → ∀ te' h' tk', Fr g' L' h' (rtM lx (some (.str x tx')) q (ofString "a") te') → News g' L' h' ((ld, dictOf (lexD w.params kt vt io pb fs wc (.str x tx') ln tl (tx tok) tt) 19) :: (lx, instObj 764 ld) :: (d, dictOf (ioD w.params t1 t2 t3 u2 u3 nl (tx l) pos) 3) :: (io, instObj 629 d) :: rest) → W .next { s with heap := h', toks := tk' })
    (hwd : ws c = false → (c == 39 || c == 34) = false → (c == 92) = false → ∀ ta h' tk', Fr g' L' h' (rtM lx (some (.str x tx')) q es te) → News g' L' h' ((ld, dictOf (lexD w.params kt vt io pb fs wc (.str (ofString "a") ts) ln tl (tx (tok ++ [c])) ta) 19) :: (lx, instObj 764 ld) :: (d, dictOf (ioD w.params t1 t2 t3 u2 u3 nl (tx l) pos) 3) :: (io, instObj 629 d) :: rest) → W .next { s with heap := h', toks := tk' }),
    wpAny (model rw_oy0313_02.row.prog w) ((ktrTop dp un gd cn cs L a ccd cl outer).deeper (rtE L')) (execs (rtB.drop 3) (rtE L')) W E' s := by
  refine hk40 (by repeat first | exact nW | exact nA | exact nS | apply nP | infer_instance) ((?f : ∀ w mean mg mb dp un gd cn cs a ccd cl outer A₀ base h₀ L m s Q E g' L' W E' lx ld io d pb fs rest kt vt wc t1 t2 t3 u2 nl, Hd40 _ w mean mg mb dp un gd cn cs a ccd cl outer A₀ base h₀ L m s Q E g' L' W E' lx ld io d pb fs rest kt vt wc t1 t2 t3 u2 nl) _ _ _ _ _ _ _ _ _ _ _ _ _ _ _ _ _ _ _ _ _ _ _ _ _ _ _ _ _ _ _ _ _ _ _ _ _ _ _ _)
  set_option tactic.hygienic false in (intros; intro l; intros)
  revert X; k_fill; intro X
  repeat' ktr_step
  all_goals (try dsimp only)
  all_goals (rename Fr g' L' _ _ => F9; rename News g' L' _ _ => N9; (try simp only [rtM_esq, rtM_es, rtM_q] at F9))
  all_goals (first
    | exact hws (by first | assumption | simp_all) _ _ _ F9 N9
    | exact hws (by first | assumption | simp_all) _ _ _ F9 (news_tl N9)
    | exact hqt (by first | assumption | simp_all) (by first | assumption | simp_all) _ _ F9 N9
    | exact hqt (by first | assumption | simp_all) (by first | assumption | simp_all) _ _ F9 (news_tl N9)
    | exact hbs (by first | assumption | simp_all) (by first | assumption | simp_all) (by first | assumption | simp_all) _ _ _ F9 N9
    | exact hbs (by first | assumption | simp_all) (by first | assumption | simp_all) (by first | assumption | simp_all) _ _ _ F9 (news_tl N9)
    | exact hwd (by first | assumption | simp_all) (by first | assumption | simp_all) (by first | assumption | simp_all) _ _ _ F9 N9
    | exact hwd (by first | assumption | simp_all) (by first | assumption | simp_all) (by first | assumption | simp_all) _ _ _ F9 (news_tl N9)
    | (exfalso; simp_all; done)
    | skip)
end
section
theorem rt_m2 : ∀ (w : World) (mean : ExcName → Option Value) (mg mb : Str → Option Value)
    (dp un : Nat) (gd : Option (List Code)) (cn : Str) (cs : Scope) (a : Addr) (ccd : Value) (cl : List (Str × Addr)) (outer : List Env) (A₀ : Around) (base h₀ : Heap) (L : Addr) (m : Str → Option Value) (s : Shared) (Q E : Value → Shared → Prop) (g' : Heap) (L' : Addr) (W : Flow → Shared → Prop) (E' : Value → Shared → Prop)
    (lx ld io d pb fs : Addr) (rest : List (Addr × Obj)) (kt vt : Nat → Tok) (wc : Str) (t1 t2 t3 u2 : Tok) (nl : Value) (l : List Nat) (ln : Int) (tl tt ts te tx' u3 : Tok) (pos : Int) (c : Nat) (es : Str) (x : Str) (q : Bool) (tok : List Nat)
    (B : Below (ktrTop dp un gd cn cs L a ccd cl outer) base (envX cn cs L a ccd cl :: outer) g') (X : (Mine.K w.params).In g') (T : Top Mine.q (looseW Mine.q Mine.loose) mean mg mb g') (F : Fr g' L' s.heap (rtM lx (some (.str x tx')) q es te))
    (N : News g' L' s.heap ((ld, dictOf (lexD w.params kt vt io pb fs wc (.str (ofString "\"") ts) ln tl (tx tok) tt) 19) :: (lx, instObj 764 ld) :: (d, dictOf (ioD w.params t1 t2 t3 u2 u3 nl (tx l) pos) 3) :: (io, instObj 629 d) :: rest))
    (n1 : @Ne Nat lx ld) (n2 : @Ne Nat d ld) (n3 : @Ne Nat io ld) (n4 : @Ne Nat lx d) (n5 : @Ne Nat io d) (r1 : ∀ p ∈ rest, p.1 ≠ ld) (r2 : ∀ p ∈ rest, p.1 ≠ d) (hdp : dp + 8 < recursionLimit) (hun : un + 64 < cLine) (hx1 : x.length < 200000) (hx2 : ((x.length : Int) != 0) = true) (f2 : (x.cps.toList == (ofString "\"").cps.toList) = (c == 34)) (f8 : Txt.contains (ofString "\\") x = (c == 92)) (hcat1 : tx tok ++ x = tx (tok ++ [c])) (hz1 : (tx (tok ++ [c])).length < 400000)
    (hend : (c == 34) = true → ∀ ta h' tk', Fr g' L' h' (rtM lx (some (.str x tx')) true es te) → News g' L' h' ((ld, dictOf (lexD w.params kt vt io pb fs wc (.str (ofString "a") ta) ln tl (tx tok) tt) 19) :: (lx, instObj 764 ld) :: (d, dictOf (ioD w.params t1 t2 t3 u2 u3 nl (tx l) pos) 3) :: (io, instObj 629 d) :: rest) → W .next { s with heap := h', toks := tk' })
    (hbs : (c == 34) = false → (c == 92) = true → ∀ h' tk', Fr g' L' h' (rtM lx (some (.str x tx')) true (ofString "\"") ts) → News g' L' h' ((ld, dictOf (lexD w.params kt vt io pb fs wc (.str x tx') ln tl (tx tok) tt) 19) :: (lx, instObj 764 ld) :: (d, dictOf (ioD w.params t1 t2 t3 u2 u3 nl (tx l) pos) 3) :: (io, instObj 629 d) :: rest) → W .next { s with heap := h', toks := tk' })
    (hel : (c == 34) = false → (c == 92) = false → ∀ ta h' tk', Fr g' L' h' (rtM lx (some (.str x tx')) true es te) → News g' L' h' ((ld, dictOf (lexD w.params kt vt io pb fs wc (.str (ofString "\"") ts) ln tl (tx (tok ++ [c])) ta) 19) :: (lx, instObj 764 ld) :: (d, dictOf (ioD w.params t1 t2 t3 u2 u3 nl (tx l) pos) 3) :: (io, instObj 629 d) :: rest) → W .next { s with heap := h', toks := tk' }),
    wpAny (model rw_oy0313_02.row.prog w) ((ktrTop dp un gd cn cs L a ccd cl outer).deeper (rtE L')) (execs (rtB.drop 3) (rtE L')) W E' s := by
  refine hk40 (by repeat first | exact nW | exact nA | exact nS | apply nP | infer_instance) ((?f : ∀ w mean mg mb dp un gd cn cs a ccd cl outer A₀ base h₀ L m s Q E g' L' W E' lx ld io d pb fs rest kt vt wc t1 t2 t3 u2 nl, Hd40 _ w mean mg mb dp un gd cn cs a ccd cl outer A₀ base h₀ L m s Q E g' L' W E' lx ld io d pb fs rest kt vt wc t1 t2 t3 u2 nl) _ _ _ _ _ _ _ _ _ _ _ _ _ _ _ _ _ _ _ _ _ _ _ _ _ _ _ _ _ _ _ _ _ _ _ _ _ _ _ _)
  set_option tactic.hygienic false in (intros; intro l; intros)
  revert X; k_fill; intro X
  repeat' ktr_step
  all_goals (try dsimp only)
  all_goals (rename Fr g' L' _ _ => F9; rename News g' L' _ _ => N9; (try simp only [rtM_esq, rtM_es, rtM_q] at F9))
  all_goals (first
    | exact hend (by first | assumption | simp_all) _ _ _ F9 N9
    | exact hend (by first | assumption | simp_all) _ _ _ F9 (news_tl N9)
    | exact hbs (by first | assumption | simp_all) (by first | assumption | simp_all) _ _ F9 N9
    | exact hbs (by first | assumption | simp_all) (by first | assumption | simp_all) _ _ F9 (news_tl N9)
    | exact hel (by first | assumption | simp_all) (by first | assumption | simp_all) _ _ _ F9 N9
    | exact hel (by first | assumption | simp_all) (by first | assumption | simp_all) _ _ _ F9 (news_tl N9)
    | (exfalso; simp_all; done)
    | skip)
theorem rt_m3 : ∀ (w : World) (mean : ExcName → Option Value) (mg mb : Str → Option Value)
    (dp un : Nat) (gd : Option (List Code)) (cn : Str) (cs : Scope) (a : Addr) (ccd : Value) (cl : List (Str × Addr)) (outer : List Env) (A₀ : Around) (base h₀ : Heap) (L : Addr) (m : Str → Option Value) (s : Shared) (Q E : Value → Shared → Prop) (g' : Heap) (L' : Addr) (W : Flow → Shared → Prop) (E' : Value → Shared → Prop)
    (lx ld io d pb fs : Addr) (rest : List (Addr × Obj)) (kt vt : Nat → Tok) (wc : Str) (t1 t2 t3 u2 : Tok) (nl : Value) (l : List Nat) (ln : Int) (tl tt ts te tx' u3 : Tok) (pos : Int) (c : Nat) (es : Str) (x : Str) (q : Bool) (tok : List Nat)
    (B : Below (ktrTop dp un gd cn cs L a ccd cl outer) base (envX cn cs L a ccd cl :: outer) g') (X : (Mine.K w.params).In g') (T : Top Mine.q (looseW Mine.q Mine.loose) mean mg mb g') (F : Fr g' L' s.heap (rtM lx (some (.str x tx')) q es te))
    (N : News g' L' s.heap ((ld, dictOf (lexD w.params kt vt io pb fs wc (.str (ofString "'") ts) ln tl (tx tok) tt) 19) :: (lx, instObj 764 ld) :: (d, dictOf (ioD w.params t1 t2 t3 u2 u3 nl (tx l) pos) 3) :: (io, instObj 629 d) :: rest))
    (n1 : @Ne Nat lx ld) (n2 : @Ne Nat d ld) (n3 : @Ne Nat io ld) (n4 : @Ne Nat lx d) (n5 : @Ne Nat io d) (r1 : ∀ p ∈ rest, p.1 ≠ ld) (r2 : ∀ p ∈ rest, p.1 ≠ d) (hdp : dp + 8 < recursionLimit) (hun : un + 64 < cLine) (hx1 : x.length < 200000) (hx2 : ((x.length : Int) != 0) = true) (f3 : (x.cps.toList == (ofString "'").cps.toList) = (c == 39)) (f8 : Txt.contains (ofString "\\") x = (c == 92)) (hcat1 : tx tok ++ x = tx (tok ++ [c])) (hz1 : (tx (tok ++ [c])).length < 400000)
    (hend : (c == 39) = true → ∀ ta h' tk', Fr g' L' h' (rtM lx (some (.str x tx')) true es te) → News g' L' h' ((ld, dictOf (lexD w.params kt vt io pb fs wc (.str (ofString "a") ta) ln tl (tx tok) tt) 19) :: (lx, instObj 764 ld) :: (d, dictOf (ioD w.params t1 t2 t3 u2 u3 nl (tx l) pos) 3) :: (io, instObj 629 d) :: rest) → W .next { s with heap := h', toks := tk' })
    (hel : (c == 39) = false → ∀ ta h' tk', Fr g' L' h' (rtM lx (some (.str x tx')) true es te) → News g' L' h' ((ld, dictOf (lexD w.params kt vt io pb fs wc (.str (ofString "'") ts) ln tl (tx (tok ++ [c])) ta) 19) :: (lx, instObj 764 ld) :: (d, dictOf (ioD w.params t1 t2 t3 u2 u3 nl (tx l) pos) 3) :: (io, instObj 629 d) :: rest) → W .next { s with heap := h', toks := tk' }),
    wpAny (model rw_oy0313_02.row.prog w) ((ktrTop dp un gd cn cs L a ccd cl outer).deeper (rtE L')) (execs (rtB.drop 3) (rtE L')) W E' s := by
  refine hk40 (by repeat first | exact nW | exact nA | exact nS | apply nP | infer_instance) ((?f : ∀ w mean mg mb dp un gd cn cs a ccd cl outer A₀ base h₀ L m s Q E g' L' W E' lx ld io d pb fs rest kt vt wc t1 t2 t3 u2 nl, Hd40 _ w mean mg mb dp un gd cn cs a ccd cl outer A₀ base h₀ L m s Q E g' L' W E' lx ld io d pb fs rest kt vt wc t1 t2 t3 u2 nl) _ _ _ _ _ _ _ _ _ _ _ _ _ _ _ _ _ _ _ _ _ _ _ _ _ _ _ _ _ _ _ _ _ _ _ _ _ _ _ _)
  set_option tactic.hygienic false in (intros; intro l; intros)
  revert X; k_fill; intro X
  repeat' ktr_step
  all_goals (try dsimp only)
  all_goals (rename Fr g' L' _ _ => F9; rename News g' L' _ _ => N9; (try simp only [rtM_esq, rtM_es, rtM_q] at F9))
  all_goals (first
    | exact hend (by first | assumption | simp_all) _ _ _ F9 N9
    | exact hend (by first | assumption | simp_all) _ _ _ F9 (news_tl N9)
    | exact hel (by first | assumption | simp_all) _ _ _ F9 N9
    | exact hel (by first | assumption | simp_all) _ _ _ F9 (news_tl N9)
    | (exfalso; simp_all; done)
    | skip)
end
section
theorem rt_m4 (w : World) (mean : ExcName → Option Value) (mg mb : Str → Option Value)
    (dp un : Nat) (gd : Option (List Code)) (cn : Str) (cs : Scope) (a : Addr) (ccd : Value) (cl : List (Str × Addr)) (outer : List Env) (A₀ : Around) (base h₀ : Heap) (L : Addr) (m : Str → Option Value) (s : Shared) (Q E : Value → Shared → Prop) (g' : Heap) (L' : Addr) (W : Flow → Shared → Prop) (E' : Value → Shared → Prop)
    (lx ld io d pb fs : Addr) (rest : List (Addr × Obj)) (kt vt : Nat → Tok) (wc : Str) (t1 t2 t3 u2 : Tok) (nl : Value) (l : List Nat) (ln : Int) (tl tt ts te tx' u3 : Tok) (pos : Int) (c : Nat) (es : Str) (x : Str) (q : Bool) (tok : List Nat)
    (B : Below (ktrTop dp un gd cn cs L a ccd cl outer) base (envX cn cs L a ccd cl :: outer) g') (X : (Mine.K w.params).In g') (T : Top Mine.q (looseW Mine.q Mine.loose) mean mg mb g') (F : Fr g' L' s.heap (rtM lx (some (.str x tx')) q (ofString "a") te))
    (N : News g' L' s.heap ((ld, dictOf (lexD w.params kt vt io pb fs wc (.str (ofString "\\") ts) ln tl (tx tok) tt) 19) :: (lx, instObj 764 ld) :: (d, dictOf (ioD w.params t1 t2 t3 u2 u3 nl (tx l) pos) 3) :: (io, instObj 629 d) :: rest))
    (n1 : @Ne Nat lx ld) (n2 : @Ne Nat d ld) (n3 : @Ne Nat io ld) (n4 : @Ne Nat lx d) (n5 : @Ne Nat io d) (r1 : ∀ p ∈ rest, p.1 ≠ ld) (r2 : ∀ p ∈ rest, p.1 ≠ d) (hdp : dp + 8 < recursionLimit) (hun : un + 64 < cLine) (hx1 : x.length < 200000) (hx2 : ((x.length : Int) != 0) = true) (hcat1 : tx tok ++ x = tx (tok ++ [c])) (hz1 : (tx (tok ++ [c])).length < 400000)
    (hel : ∀ ta h' tk', Fr g' L' h' (rtM lx (some (.str x tx')) q (ofString "a") te) → News g' L' h' ((ld, dictOf (lexD w.params kt vt io pb fs wc (.str (ofString "a") te) ln tl (tx (tok ++ [c])) ta) 19) :: (lx, instObj 764 ld) :: (d, dictOf (ioD w.params t1 t2 t3 u2 u3 nl (tx l) pos) 3) :: (io, instObj 629 d) :: rest) → W .next { s with heap := h', toks := tk' }) :
    wpAny (model rw_oy0313_02.row.prog w) ((ktrTop dp un gd cn cs L a ccd cl outer).deeper (rtE L')) (execs (rtB.drop 3) (rtE L')) W E' s := by
  revert X; k_fill; intro X
  repeat' ktr_step
  all_goals (try dsimp only)
  all_goals (rename Fr g' L' _ _ => F9; rename News g' L' _ _ => N9; (try simp only [rtM_esq, rtM_es, rtM_q] at F9))
  all_goals (first
    | exact hel _ _ _ F9 N9
    | exact hel _ _ _ F9 (news_tl N9)
    | (exfalso; simp_all; done)
    | skip)
theorem rt_m5 : ∀ (w : World) (mean : ExcName → Option Value) (mg mb : Str → Option Value)
    (dp un : Nat) (gd : Option (List Code)) (cn : Str) (cs : Scope) (a : Addr) (ccd : Value) (cl : List (Str × Addr)) (outer : List Env) (A₀ : Around) (base h₀ : Heap) (L : Addr) (m : Str → Option Value) (s : Shared) (Q E : Value → Shared → Prop) (g' : Heap) (L' : Addr) (W : Flow → Shared → Prop) (E' : Value → Shared → Prop)
    (lx ld io d pb fs : Addr) (rest : List (Addr × Obj)) (kt vt : Nat → Tok) (wc : Str) (t1 t2 t3 u2 : Tok) (nl : Value) (l : List Nat) (ln : Int) (tl tt ts te tx' u3 : Tok) (pos : Int) (c : Nat) (es : Str) (x : Str) (q : Bool) (tok : List Nat)
    (B : Below (ktrTop dp un gd cn cs L a ccd cl outer) base (envX cn cs L a ccd cl :: outer) g') (X : (Mine.K w.params).In g') (T : Top Mine.q (looseW Mine.q Mine.loose) mean mg mb g') (F : Fr g' L' s.heap (rtM lx (some (.str x tx')) q (ofString "\"") te))
    (N : News g' L' s.heap ((ld, dictOf (lexD w.params kt vt io pb fs wc (.str (ofString "\\") ts) ln tl (tx tok) tt) 19) :: (lx, instObj 764 ld) :: (d, dictOf (ioD w.params t1 t2 t3 u2 u3 nl (tx l) pos) 3) :: (io, instObj 629 d) :: rest))
    (n1 : @Ne Nat lx ld) (n2 : @Ne Nat d ld) (n3 : @Ne Nat io ld) (n4 : @Ne Nat lx d) (n5 : @Ne Nat io d) (r1 : ∀ p ∈ rest, p.1 ≠ ld) (r2 : ∀ p ∈ rest, p.1 ≠ d) (hdp : dp + 8 < recursionLimit) (hun : un + 64 < cLine) (hx1 : x.length < 200000) (hx2 : ((x.length : Int) != 0) = true) (f11 : (x.cps.toList != (ofString "\\").cps.toList) = (c != 92)) (f10 : (x.cps.toList != (ofString "\"").cps.toList) = (c != 34)) (hcat1 : tx tok ++ x = tx (tok ++ [c])) (hz1 : (tx (tok ++ [c])).length < 400000) (hcat2 : tx tok ++ ofString "\\" = tx (tok ++ [92])) (hz2 : (tx (tok ++ [92])).length < 400000) (hcat3 : tx (tok ++ [92]) ++ x = tx (tok ++ [92, c])) (hz3 : (tx (tok ++ [92, c])).length < 400000)
    (hb : (c != 92) = true → (c != 34) = true → ∀ ta h' tk', Fr g' L' h' (rtM lx (some (.str x tx')) q (ofString "\"") te) → News g' L' h' ((ld, dictOf (lexD w.params kt vt io pb fs wc (.str (ofString "\"") te) ln tl (tx (tok ++ [92, c])) ta) 19) :: (lx, instObj 764 ld) :: (d, dictOf (ioD w.params t1 t2 t3 u2 u3 nl (tx l) pos) 3) :: (io, instObj 629 d) :: rest) → W .next { s with heap := h', toks := tk' })
    (hel : ((c != 92) = false ∨ (c != 34) = false) → ∀ ta h' tk', Fr g' L' h' (rtM lx (some (.str x tx')) q (ofString "\"") te) → News g' L' h' ((ld, dictOf (lexD w.params kt vt io pb fs wc (.str (ofString "\"") te) ln tl (tx (tok ++ [c])) ta) 19) :: (lx, instObj 764 ld) :: (d, dictOf (ioD w.params t1 t2 t3 u2 u3 nl (tx l) pos) 3) :: (io, instObj 629 d) :: rest) → W .next { s with heap := h', toks := tk' }),
    wpAny (model rw_oy0313_02.row.prog w) ((ktrTop dp un gd cn cs L a ccd cl outer).deeper (rtE L')) (execs (rtB.drop 3) (rtE L')) W E' s := by
  refine hk40 (by repeat first | exact nW | exact nA | exact nS | apply nP | infer_instance) ((?f : ∀ w mean mg mb dp un gd cn cs a ccd cl outer A₀ base h₀ L m s Q E g' L' W E' lx ld io d pb fs rest kt vt wc t1 t2 t3 u2 nl, Hd40 _ w mean mg mb dp un gd cn cs a ccd cl outer A₀ base h₀ L m s Q E g' L' W E' lx ld io d pb fs rest kt vt wc t1 t2 t3 u2 nl) _ _ _ _ _ _ _ _ _ _ _ _ _ _ _ _ _ _ _ _ _ _ _ _ _ _ _ _ _ _ _ _ _ _ _ _ _ _ _ _)
  set_option tactic.hygienic false in (intros; intro l; intros)
  revert X; k_fill; intro X
  repeat' ktr_step
  all_goals (try dsimp only)
  all_goals (rename Fr g' L' _ _ => F9; rename News g' L' _ _ => N9; (try simp only [rtM_esq, rtM_es, rtM_q] at F9))
  all_goals (first
    | exact hb (by first | assumption | simp_all) (by first | assumption | simp_all) _ _ _ F9 N9
    | exact hb (by first | assumption | simp_all) (by first | assumption | simp_all) _ _ _ F9 (news_tl N9)
    | exact hel (by first | assumption | simp_all) _ _ _ F9 N9
    | exact hel (by first | assumption | simp_all) _ _ _ F9 (news_tl N9)
    | (exfalso; simp_all; done)
    | skip)
end
section
theorem rt_e01 : ∀ (w : World) (mean : ExcName → Option Value) (mg mb : Str → Option Value)
    (dp un : Nat) (gd : Option (List Code)) (cn : Str) (cs : Scope) (a : Addr) (ccd : Value) (cl : List (Str × Addr)) (outer : List Env) (A₀ : Around) (base h₀ : Heap) (L : Addr) (m : Str → Option Value) (s : Shared) (Q E : Value → Shared → Prop) (g' : Heap) (L' : Addr) (W : Flow → Shared → Prop) (E' : Value → Shared → Prop)
    (lx ld io d pb fs : Addr) (rest : List (Addr × Obj)) (kt vt : Nat → Tok) (wc : Str) (t1 t2 t3 u2 : Tok) (nl : Value) (l : List Nat) (ln : Int) (tl tt ts te tx' u3 : Tok) (pos : Int) (es : Str) (q : Bool) (st tok : Str) (hst : st = ofString " " ∨ st = ofString "a")
    (B : Below (ktrTop dp un gd cn cs L a ccd cl outer) base (envX cn cs L a ccd cl :: outer) g') (X : (Mine.K w.params).In g') (T : Top Mine.q (looseW Mine.q Mine.loose) mean mg mb g') (F : Fr g' L' s.heap (rtM lx (some (.str (ofString "") tx')) q es te))
    (N : News g' L' s.heap ((ld, dictOf (lexD w.params kt vt io pb fs wc (.str st ts) ln tl tok tt) 19) :: (lx, instObj 764 ld) :: (d, dictOf (ioD w.params t1 t2 t3 u2 u3 nl (tx l) pos) 3) :: (io, instObj 629 d) :: rest))
    (n1 : @Ne Nat lx ld) (n2 : @Ne Nat d ld) (n3 : @Ne Nat io ld) (n4 : @Ne Nat lx d) (n5 : @Ne Nat io d) (r1 : ∀ p ∈ rest, p.1 ≠ ld) (r2 : ∀ p ∈ rest, p.1 ≠ d) (hdp : dp + 8 < recursionLimit) (hun : un + 64 < cLine)
    (hW : ∀ h' tk', Fr g' L' h' (rtM lx (some (.str (ofString "") tx')) q es te) → News g' L' h' ((ld, dictOf (lexD w.params kt vt io pb fs wc .none ln tl tok tt) 19) :: (lx, instObj 764 ld) :: (d, dictOf (ioD w.params t1 t2 t3 u2 u3 nl (tx l) pos) 3) :: (io, instObj 629 d) :: rest) → W .brk { s with heap := h', toks := tk' }),
    wpAny (model rw_oy0313_02.row.prog w) ((ktrTop dp un gd cn cs L a ccd cl outer).deeper (rtE L')) (execs (rtB.drop 3) (rtE L')) W E' s := by
  refine hk40 (by repeat first | exact nW | exact nA | exact nS | apply nP | infer_instance) ((?f : ∀ w mean mg mb dp un gd cn cs a ccd cl outer A₀ base h₀ L m s Q E g' L' W E' lx ld io d pb fs rest kt vt wc t1 t2 t3 u2 nl, Hd40 _ w mean mg mb dp un gd cn cs a ccd cl outer A₀ base h₀ L m s Q E g' L' W E' lx ld io d pb fs rest kt vt wc t1 t2 t3 u2 nl) _ _ _ _ _ _ _ _ _ _ _ _ _ _ _ _ _ _ _ _ _ _ _ _ _ _ _ _ _ _ _ _ _ _ _ _ _ _ _ _)
  set_option tactic.hygienic false in (intros; intro l; intros)
  revert X; k_fill; intro X
  rcases hst with rfl | rfl
  all_goals (repeat' ktr_step)
  all_goals (try dsimp only)
  all_goals (rename Fr g' L' _ _ => F9; rename News g' L' _ _ => N9)
  all_goals (first | exact hW _ _ F9 N9 | exact hW _ _ F9 (news_tl N9))
theorem rt_eN (w : World) (mean : ExcName → Option Value) (mg mb : Str → Option Value)
    (dp un : Nat) (gd : Option (List Code)) (cn : Str) (cs : Scope) (a : Addr) (ccd : Value) (cl : List (Str × Addr)) (outer : List Env) (A₀ : Around) (base h₀ : Heap) (L : Addr) (m : Str → Option Value) (s : Shared) (Q E : Value → Shared → Prop) (g' : Heap) (L' : Addr) (W : Flow → Shared → Prop) (E' : Value → Shared → Prop)
    (lx ld io d pb fs : Addr) (rest : List (Addr × Obj)) (kt vt : Nat → Tok) (wc : Str) (t1 t2 t3 u2 : Tok) (nl : Value) (l : List Nat) (ln : Int) (tl tt te tx' u3 : Tok) (pos : Int) (es : Str) (q : Bool) (x tok : Str)
    (B : Below (ktrTop dp un gd cn cs L a ccd cl outer) base (envX cn cs L a ccd cl :: outer) g') (X : (Mine.K w.params).In g') (T : Top Mine.q (looseW Mine.q Mine.loose) mean mg mb g') (F : Fr g' L' s.heap (rtM lx (some (.str x tx')) q es te))
    (N : News g' L' s.heap ((ld, dictOf (lexD w.params kt vt io pb fs wc .none ln tl tok tt) 19) :: (lx, instObj 764 ld) :: (d, dictOf (ioD w.params t1 t2 t3 u2 u3 nl (tx l) pos) 3) :: (io, instObj 629 d) :: rest))
    (n1 : @Ne Nat lx ld) (n2 : @Ne Nat d ld) (n3 : @Ne Nat io ld) (n4 : @Ne Nat lx d) (n5 : @Ne Nat io d) (r1 : ∀ p ∈ rest, p.1 ≠ ld) (r2 : ∀ p ∈ rest, p.1 ≠ d) (hdp : dp + 8 < recursionLimit) (hun : un + 64 < cLine)
    (hW : ∀ ta h' tk', Fr g' L' h' (rtM lx (some (.str x tx')) q es te) → News g' L' h' ((ld, dictOf (lexD w.params kt vt io pb fs wc .none ln tl (ofString "") ta) 19) :: (lx, instObj 764 ld) :: (d, dictOf (ioD w.params t1 t2 t3 u2 u3 nl (tx l) pos) 3) :: (io, instObj 629 d) :: rest) → W .brk { s with heap := h', toks := tk' }) :
    wpAny (model rw_oy0313_02.row.prog w) ((ktrTop dp un gd cn cs L a ccd cl outer).deeper (rtE L')) (execs (rtB.drop 3) (rtE L')) W E' s := by
  revert X; k_fill; intro X
  repeat' ktr_step
  all_goals (try dsimp only)
  all_goals (rename Fr g' L' _ _ => F9; rename News g' L' _ _ => N9)
  all_goals (first | exact hW _ _ _ F9 N9 | exact hW _ _ _ F9 (news_tl N9))
theorem rt_res : ∀ (w : World) (mean : ExcName → Option Value) (mg mb : Str → Option Value)
    (dp un : Nat) (gd : Option (List Code)) (cn : Str) (cs : Scope) (a : Addr) (ccd : Value) (cl : List (Str × Addr)) (outer : List Env) (A₀ : Around) (base h₀ : Heap) (L : Addr) (m : Str → Option Value) (s : Shared) (Q E : Value → Shared → Prop) (g' : Heap) (L' : Addr) (W : Flow → Shared → Prop) (E' : Value → Shared → Prop)
    (lx ld io d pb fs : Addr) (rest : List (Addr × Obj)) (kt vt : Nat → Tok) (wc : Str) (t1 t2 t3 u2 : Tok) (nl : Value) (l : List Nat) (ln : Int) (tl tt te u3 : Tok) (pos : Int) (es : Str) (q bt : Bool) (tok : Str) (st : Value) (nc : Option Value)
    (B : Below (ktrTop dp un gd cn cs L a ccd cl outer) base (envX cn cs L a ccd cl :: outer) g') (X : (Mine.K w.params).In g') (T : Top Mine.q (looseW Mine.q Mine.loose) mean mg mb g') (F : Fr g' L' s.heap (rtM lx nc q es te))
    (N : News g' L' s.heap ((ld, dictOf (lexD w.params kt vt io pb fs wc st ln tl tok tt) 19) :: (lx, instObj 764 ld) :: (d, dictOf (ioD w.params t1 t2 t3 u2 u3 nl (tx l) pos) 3) :: (io, instObj 629 d) :: rest))
    (n1 : @Ne Nat lx ld) (n2 : @Ne Nat d ld) (n3 : @Ne Nat io ld) (n4 : @Ne Nat lx d) (n5 : @Ne Nat io d) (r1 : ∀ p ∈ rest, p.1 ≠ ld) (r2 : ∀ p ∈ rest, p.1 ≠ d) (hdp : dp + 8 < recursionLimit) (hun : un + 64 < cLine) (hl2 : tok.length < 200000) (hbt : (tok.cps.toList == (ofString "").cps.toList) = bt)
    (hN : q = false → bt = true → ∀ m' ta h' tk', Fr g' L' h' m' → News g' L' h' ((ld, dictOf (lexD w.params kt vt io pb fs wc st ln tl (ofString "") ta) 19) :: (lx, instObj 764 ld) :: (d, dictOf (ioD w.params t1 t2 t3 u2 u3 nl (tx l) pos) 3) :: (io, instObj 629 d) :: rest) → W (.ret .none) { s with heap := h', toks := tk' })
    (hS : (q = true ∨ bt = false) → ∀ m' ta h' tk', Fr g' L' h' m' → News g' L' h' ((ld, dictOf (lexD w.params kt vt io pb fs wc st ln tl (ofString "") ta) 19) :: (lx, instObj 764 ld) :: (d, dictOf (ioD w.params t1 t2 t3 u2 u3 nl (tx l) pos) 3) :: (io, instObj 629 d) :: rest) → W (.ret (.str tok tt)) { s with heap := h', toks := tk' }),
    wpAny (model rw_oy0313_02.row.prog w) ((ktrTop dp un gd cn cs L a ccd cl outer).deeper (rtE L')) (execs ((fB (subAt 21 6)).drop 3) (rtE L')) W E' s := by
  refine hk40 (by repeat first | exact nW | exact nA | exact nS | apply nP | infer_instance) ((?f : ∀ w mean mg mb dp un gd cn cs a ccd cl outer A₀ base h₀ L m s Q E g' L' W E' lx ld io d pb fs rest kt vt wc t1 t2 t3 u2 nl, Hd40 _ w mean mg mb dp un gd cn cs a ccd cl outer A₀ base h₀ L m s Q E g' L' W E' lx ld io d pb fs rest kt vt wc t1 t2 t3 u2 nl) _ _ _ _ _ _ _ _ _ _ _ _ _ _ _ _ _ _ _ _ _ _ _ _ _ _ _ _ _ _ _ _ _ _ _ _ _ _ _ _)
  set_option tactic.hygienic false in (intros; intro l; intros)
  revert X; k_fill; intro X
  repeat' ktr_step
  all_goals (try dsimp only)
  all_goals (rename Fr g' L' _ _ => F9; rename News g' L' _ _ => N9)
  all_goals (first | exact hN (by first | assumption | simp_all) (by first | assumption | simp_all) _ _ _ _ F9 N9 | exact hS (by first | assumption | simp_all) _ _ _ _ F9 N9 | skip)
end
section
theorem rt_eR (w : World) (mean : ExcName → Option Value) (mg mb : Str → Option Value)
    (dp un : Nat) (gd : Option (List Code)) (cn : Str) (cs : Scope) (a : Addr) (ccd : Value) (cl : List (Str × Addr)) (outer : List Env) (A₀ : Around) (base h₀ : Heap) (L : Addr) (m : Str → Option Value) (s : Shared) (Q E : Value → Shared → Prop) (g' : Heap) (L' : Addr) (W : Flow → Shared → Prop) (E' : Value → Shared → Prop)
    (lx ld io d pb fs : Addr) (rest : List (Addr × Obj)) (kt vt : Nat → Tok) (wc : Str) (t1 t2 t3 u2 : Tok) (nl : Value) (l : List Nat) (ln : Int) (tl tt ts te tx' u3 : Tok) (pos : Int) (es : Str) (q : Bool) (st tok : Str) (hst : st = ofString "\"" ∨ st = ofString "'" ∨ st = ofString "\\")
    (B : Below (ktrTop dp un gd cn cs L a ccd cl outer) base (envX cn cs L a ccd cl :: outer) g') (X : (Mine.K w.params).In g') (T : Top Mine.q (looseW Mine.q Mine.loose) mean mg mb g') (F : Fr g' L' s.heap (rtM lx (some (.str (ofString "") tx')) q es te))
    (N : News g' L' s.heap ((ld, dictOf (lexD w.params kt vt io pb fs wc (.str st ts) ln tl tok tt) 19) :: (lx, instObj 764 ld) :: (d, dictOf (ioD w.params t1 t2 t3 u2 u3 nl (tx l) pos) 3) :: (io, instObj 629 d) :: rest))
    (n1 : @Ne Nat lx ld) (n2 : @Ne Nat d ld) (n3 : @Ne Nat io ld) (n4 : @Ne Nat lx d) (n5 : @Ne Nat io d) (r1 : ∀ p ∈ rest, p.1 ≠ ld) (r2 : ∀ p ∈ rest, p.1 ≠ d) (hdp : dp + 8 < recursionLimit) (hun : un + 64 < cLine)
    (hE : ∀ hh h' m' e v tk', Fr g' L' hh m' → News g' L' hh ((ld, dictOf (lexD w.params kt vt io pb fs wc (.str st ts) ln tl tok tt) 19) :: (lx, instObj 764 ld) :: (d, dictOf (ioD w.params t1 t2 t3 u2 u3 nl (tx l) pos) 3) :: (io, instObj 629 d) :: rest) → hh.MadeExc h' e "ValueError" [v] → E' (.ref e) { s with heap := h', toks := tk' }) :
    wpAny (model rw_oy0313_02.row.prog w) ((ktrTop dp un gd cn cs L a ccd cl outer).deeper (rtE L')) (execs (rtB.drop 3) (rtE L')) W E' s := by
  revert X; k_fill; intro X
  rcases hst with rfl | rfl | rfl
  all_goals (repeat' ktr_step)
  all_goals (try dsimp only)
  all_goals (rename Heap.MadeExc _ _ _ _ _ => hx9)
  all_goals exact hE _ _ _ _ _ _ (by assumption) (by assumption) hx9
end
section
def tokV (r : Option (List Nat)) (v : Value) : Prop := match r with | none => v = .none | some x => ∃ t, v = .str (tx x) t
def stV (en : Bool) (st : Value) : Prop := if en = true then st = .none else ∃ ts, st = .str (ofString " ") ts
theorem fin_none {q : Bool} {tok : List Nat} (h1 : q = false) (h2 : decide (tok = []) = true) : fin q tok = none := by
  have := of_decide_eq_true h2
  subst h1; subst this; rfl
theorem fin_some {q : Bool} {tok : List Nat} (h : q = true ∨ decide (tok = []) = false) : fin q tok = some tok := by
  unfold fin
  rcases h with rfl | h
  · simp
  · have := of_decide_eq_false h
    simp [this]
theorem bt_of (tok : List Nat) : ((tx tok).cps.toList == (ofString "").cps.toList) = decide (tok = []) := by rw [s_no, tx_eqb]
theorem nz_of (tok : List Nat) : (((tx tok).length : Int) != 0) = (tok != []) := by
  rw [len_tx]
  cases tok with
  | nil => rfl
  | cons a b =>
    have h1 : (((a :: b).length : Nat) : Int) ≠ 0 := by simp only [List.length_cons]; omega
    rw [show ((a :: b) != []) = true from rfl]
    exact bne_iff_ne.mpr h1
def rtJ (w : World) (lx ld io d pb fs : Addr) (rest : List (Addr × Obj)) (kt vt : Nat → Tok) (wc : Str) (t1 t2 t3 u2 : Tok) (nl : Value) (l : List Nat) (R : Option (Option (List Nat) × List Nat × Bool)) (n : Nat) (m₁ : Str → Option Value) (news₁ : List (Addr × Obj)) : Prop := ∃ (md : Nat) (q : Bool) (es : Str) (te : Tok) (nc : Option Value) (tok : List Nat) (ts tt tl : Tok) (ln : Int) (pos : Nat) (u3 : Tok),
      news₁ = ((ld, dictOf (lexD w.params kt vt io pb fs wc (.str (stS md) ts) ln tl (tx tok) tt) 19) :: (lx, instObj 764 ld) :: (d, dictOf (ioD w.params t1 t2 t3 u2 u3 nl (tx l) pos) 3) :: (io, instObj 629 d) :: rest) ∧ m₁ = rtM lx nc q es te ∧ n = l.length - pos ∧ RtInv l R md q tok pos ln es
theorem rt_go {w : World} {lx ld io d pb fs : Addr} {rest : List (Addr × Obj)} {kt vt : Nat → Tok} {wc : Str} {t1 t2 t3 u2 : Tok} {nl : Value} {l : List Nat} {R : Option (Option (List Nat) × List Nat × Bool)} {h₀ h2 : Heap} {L : Addr} {s : Shared} {tk2 : Tok} {n pos : Nat} {nw : List (Addr × Obj)} {nc : Option Value} (md : Nat) (q : Bool) (es : Str) (te : Tok) (tok : List Nat) (ts tt tl : Tok) (ln : Int) (u3 : Tok)
    (hn : n = l.length - pos) (hlt : pos + 1 ≤ l.length) (F2 : Fr h₀ L h2 (rtM lx nc q es te)) (N2 : News h₀ L h2 nw) (he : nw = ((ld, dictOf (lexD w.params kt vt io pb fs wc (.str (stS md) ts) ln tl (tx tok) tt) 19) :: (lx, instObj 764 ld) :: (d, dictOf (ioD w.params t1 t2 t3 u2 u3 nl (tx l) (((pos + 1 : Nat) : Int))) 3) :: (io, instObj 629 d) :: rest)) (I : RtInv l R md q tok (pos + 1) ln es) :
    ∃ h' tk m₂ news₂ n', (Shared.mk h2 s.gens s.drawn tk2 s.os) = { s with heap := h', toks := tk } ∧ Fr h₀ L h' m₂ ∧ News h₀ L h' news₂ ∧ n' < n ∧ rtJ w lx ld io d pb fs rest kt vt wc t1 t2 t3 u2 nl l R n' m₂ news₂ := ⟨h2, tk2, _, _, l.length - (pos + 1), rfl, F2, N2, by omega, md, q, es, te, nc, tok, ts, tt, tl, ln, pos + 1, u3, he, rfl, rfl, I⟩
theorem le5 : ∀ {md : Nat}, md ≤ 5 → md = 0 ∨ md = 1 ∨ md = 2 ∨ md = 3 ∨ md = 4 ∨ md = 5
  | 0, _ => .inl rfl
  | 1, _ => .inr (.inl rfl)
  | 2, _ => .inr (.inr (.inl rfl))
  | 3, _ => .inr (.inr (.inr (.inl rfl)))
  | 4, _ => .inr (.inr (.inr (.inr (.inl rfl))))
  | 5, _ => .inr (.inr (.inr (.inr (.inr rfl))))
  | n + 6, h => absurd h (by omega)
theorem c_rt : ∀ (w : World) (mean : ExcName → Option Value) (mg mb : Str → Option Value)
    (dp un : Nat) (gd : Option (List Code)) (cn : Str) (cs : Scope) (a : Addr) (ccd : Value) (cl : List (Str × Addr)) (outer : List Env) (A₀ : Around) (base h₀ : Heap) (L : Addr) (m : Str → Option Value) (s : Shared) (Q E : Value → Shared → Prop)
    (lx ld io d pb fs : Addr) (rest : List (Addr × Obj)) (kt vt : Nat → Tok) (wc : Str) (t1 t2 t3 u2 : Tok) (nl : Value) (l : List Nat) (ln : Int) (tl tt ts u3 : Tok) (pos : Nat)
    (B : Below A₀ base outer h₀) (F : Fr h₀ L s.heap m) (X : (Mine.K w.params).In h₀) (T : Top Mine.q (looseW Mine.q Mine.loose) mean mg mb h₀) (hk : cs.kind = .function)
    (N : News h₀ L s.heap ((ld, dictOf (lexD w.params kt vt io pb fs wc (.str (ofString " ") ts) ln tl (ofString "") tt) 19) :: (lx, instObj 764 ld) :: (d, dictOf (ioD w.params t1 t2 t3 u2 u3 nl (tx l) pos) 3) :: (io, instObj 629 d) :: rest))
    (n1 : @Ne Nat lx ld) (n2 : @Ne Nat d ld) (n3 : @Ne Nat io ld) (n4 : @Ne Nat lx d) (n5 : @Ne Nat io d) (r1 : ∀ p ∈ rest, p.1 ≠ ld) (r2 : ∀ p ∈ rest, p.1 ≠ d) (hdp : dp + 9 < recursionLimit) (hun : un + 72 < cLine) (hpl : pos ≤ l.length) (hlen : l.length < 100000) (hln : 0 ≤ ln ∧ ln ≤ 1000000 + pos)
    (hwq : ∀ c, Txt.contains wc (tx [c]) = true → (c == 39 || c == 34) = false)
    (R : Option (Option (List Nat) × List Nat × Bool)) (hR : shT (l.drop pos) 0 false [] = R)
    (hret : ∀ tokr r en, R = some (tokr, r, en) → ∀ v st' (ln' : Int) tl' tt' u3' (pos' : Nat) h' tk', Fr h₀ L h' m → News h₀ L h' ((ld, dictOf (lexD w.params kt vt io pb fs wc st' ln' tl' (ofString "") tt') 19) :: (lx, instObj 764 ld) :: (d, dictOf (ioD w.params t1 t2 t3 u2 u3' nl (tx l) pos') 3) :: (io, instObj 629 d) :: rest) →
      l.drop pos' = r → pos' ≤ l.length → (0 ≤ ln' ∧ ln' ≤ 1000000 + pos') → tokV tokr v → stV en st' → Q v { s with heap := h', toks := tk' })
    (hraise : R = none → ∀ g₂ e t v st' tok' (ln' : Int) tl' tt' u3' (pos' : Nat) h' tk', Fr h₀ L g₂ m → RaisedS base g₂ (envX cn cs L a ccd cl :: outer) e (.type "ValueError") t [v] ((ld, dictOf (lexD w.params kt vt io pb fs wc st' ln' tl' tok' tt') 19) :: (lx, instObj 764 ld) :: (d, dictOf (ioD w.params t1 t2 t3 u2 u3' nl (tx l) pos') 3) :: (io, instObj 629 d) :: rest) h' → g₂.UpToSlots h' → E (.ref e) { s with heap := h', toks := tk' }),
    wpAny (model rw_oy0313_02.row.prog w) (ktrTop dp un gd cn cs L a ccd cl outer) (call (.ref 732) [.ref lx]) Q E s := by
  refine hk40 (by repeat first | exact nW | exact nA | exact nS | apply nP | infer_instance) ((?f : ∀ w mean mg mb dp un gd cn cs a ccd cl outer A₀ base h₀ L m s Q E lx ld io d pb fs rest kt vt wc t1 t2 t3 u2 nl l ln tl tt, Hd40 _ w mean mg mb dp un gd cn cs a ccd cl outer A₀ base h₀ L m s Q E lx ld io d pb fs rest kt vt wc t1 t2 t3 u2 nl l ln tl tt) _ _ _ _ _ _ _ _ _ _ _ _ _ _ _ _ _ _ _ _ _ _ _ _ _ _ _ _ _ _ _ _ _ _ _ _ _ _ _ _)
  set_option tactic.hygienic false in (intros; intro ts; intros)
  revert X; k_fill; intro X
  refine wpAny_call ?_
  k_dflt (refine' code_def ?k1 ?k2 ?k3 ?k4 ?k5 ?kA ?kF ?kK ?k6 ?k7 ?k8 ?k9 ?kB ?_ ?c2 ?c3 ?c4 ?c5; (case kA => exact rfl); (case kF => exact rfl); (case kK => assumption); (case k1 => k_asm); (case k2 => k_asm); (case k3 => k_asm); (case k4 => k_asm); (case k5 => k_asm); (case k6 => k_is); (case k7 => k_is); (case k8 => ktr_room); (case k9 => first | exact BindsTo.of_eq rfl | exact binds_K (by k_in) rfl (by k_is) rfl rfl rfl); (case c5 => decide); (case kB => exact locs rfl); (case c2 => exact rfl); (case c3 => exact rfl); (case c4 => exact rfl); k_whole; intro g' L' h' FG' F' N' B' X' T'; (try dsimp only); (try k_lift B'); (try k_fold))
  have F2 := Fr_cong (m' := fun y => if y = ofString "self" then some (Value.ref lx) else none) F' (fun y => Eq.trans (b := List.lookup y [(ofString "self", Value.ref lx)]) (by kernel_rfl) (look1 y _ _))
  clear F'
  repeat' ((fail_if_success (with_reducible show wpAny _ _ (exec (Stmt.While _ _ _ _) _) _ _ _)); ktr_step)
  have hexit : ∀ (q : Bool) (tok : List Nat) (st' : Value) (ln : Int) (tl tt te u3 : Tok) (nc : Option Value) (es : Str) (pos : Nat) (h : Heap) (tk : Nat) (en : Bool), R = some (fin q tok, l.drop pos, en) → stV en st' → pos ≤ l.length → (0 ≤ ln ∧ ln ≤ 1000000 + pos) → tok.length ≤ 2 * pos →
      Fr g' L' h (rtM lx nc q es te) → News g' L' h ((ld, dictOf (lexD w.params kt vt io pb fs wc st' ln tl (tx tok) tt) 19) :: (lx, instObj 764 ld) :: (d, dictOf (ioD w.params t1 t2 t3 u2 u3 nl (tx l) pos) 3) :: (io, instObj 629 d) :: rest) → wpAny (model rw_oy0313_02.row.prog w) ((ktrTop dp un gd cn cs L a ccd cl outer).deeper (rtE L')) (execs ((fB (subAt 21 6)).drop 3) (rtE L')) qk ek { s with heap := h, toks := tk } := by
    intro q tok st' ln tl tt te u3 nc es pos h tk en hr hst hp hl ht F N
    refine rt_res w mean mg mb dp un gd cn cs a ccd cl outer A₀ base h₀ L m _ Q E g' L' _ _ lx ld io d pb fs rest kt vt wc t1 t2 t3 u2 nl l ln tl tt te u3 pos es q (decide (tok = [])) (tx tok) st' nc B' X' T' F N n1 n2 n3 n4 n5 r1 r2 (lw hdp rfl) (lw hun rfl) (by rw [len_tx]; omega) (bt_of tok) ?_ ?_
    · intro h1 h2 m' ta h' tk' F9 N9
      exact leaveK_ F9 N9 fun kF kN => hret _ _ _ hr .none st' ln tl ta u3 pos h' tk' kF kN rfl hp hl (by rw [fin_none h1 h2]; exact rfl) hst
    · intro h1 m' ta h' tk' F9 N9
      exact leaveK_ F9 N9 fun kF kN => hret _ _ _ hr (.str (tx tok) tt) st' ln tl ta u3 pos h' tk' kF kN rfl hp hl (by rw [fin_some h1]; exact ⟨tt, rfl⟩) hst
  rename Fr g' L' _ _ => F3
  rename News g' L' _ _ => N3
  rw [rtM_init] at F3
  refine While_inv2 (rtJ w lx ld io d pb fs rest kt vt wc t1 t2 t3 u2 nl l R) (n₀ := l.length - pos) F3 N3
    ⟨0, false, ofString " ", _, none, [], ts, tt, tl, ln, pos, u3, by rw [s_no]; rfl, rfl, rfl, ⟨Nat.zero_le _, hR, ⟨fun h => absurd h (by decide), fun h => absurd h (by decide)⟩, hpl, hln, by simp, fun _ => ⟨rfl, rfl⟩, fun h => absurd h (by decide)⟩⟩ ?_
  rintro n m₁ news₁ h₁ tk₁ F₁ N₁ ⟨md, q, es, te, nc, tok, ts, tt, tl, ln, pos, u3, hnews, hm, hn, I⟩
  subst hnews hm
  clear F3 N3 hR hln F N hpl
  repeat' ((fail_if_success (with_reducible show wpAny _ _ (execs _ _) (WhileStep2 _ _ _ _ _ _) _ _)); ktr_step)
  have hl0 := I.hl
  have hp0 := I.hp
  have ht0 := I.tl
  have hsz : ∀ k : List Nat, k.length ≤ 2 → (tx (tok ++ k)).length < 400000 := fun k hk => by rw [len_tx, List.length_append]; omega
  cases hd : l.drop pos with
  | nil =>
    have hsh := I.sh
    rw [hd] at hsh
    refine rt_preE w mean mg mb dp un gd cn cs a ccd cl outer A₀ base h₀ L m _ Q E g' L' _ _ lx ld io d pb fs rest kt vt wc t1 t2 t3 u2 nl l (.str (stS md) ts) (tx tok) ln tl tt te u3 pos nc q es B' X' T' F₁ N₁ n1 n2 n3 n4 n5 r1 r2 (lw hdp rfl) (lw hun rfl) hlen I.hp hd ?_
    intro t' h' tk' F9 N9
    by_cases h01 : md = 0 ∨ md = 1
    · have hR' : R = some (fin q tok, l.drop pos, true) := by
        rw [← hsh, hd]; simp only [shT, if_pos h01]
      refine rt_e01 w mean mg mb dp un gd cn cs a ccd cl outer A₀ base h₀ L m _ Q E g' L' _ _ lx ld io d pb fs rest kt vt wc t1 t2 t3 u2 nl l ln tl tt ts te t' u3 pos es q (stS md) (tx tok) (h01.elim (fun e => .inl (by rw [e]; rfl)) (fun e => .inr (by rw [e]; rfl))) B' X' T' F9 N9 n1 n2 n3 n4 n5 r1 r2 (lw hdp rfl) (lw hun rfl) ?_
      intro h2 tk2 F2 N2
      exact hexit q tok .none ln tl tt te u3 _ es pos h2 tk2 true hR' rfl I.hp I.hl I.tl F2 N2
    · have hRn : R = none := by
        rw [← hsh]; simp only [shT, if_neg h01]
      have h5 := I.md5
      have hst : stS md = ofString "\"" ∨ stS md = ofString "'" ∨ stS md = ofString "\\" := by
        rcases le5 h5 with h | h | rfl | rfl | rfl | rfl
        · exact absurd (.inl h) h01
        · exact absurd (.inr h) h01
        · exact .inl rfl
        · exact .inr (.inl rfl)
        · exact .inr (.inr rfl)
        · exact .inr (.inr rfl)
      refine rt_eR w mean mg mb dp un gd cn cs a ccd cl outer A₀ base h₀ L m _ Q E g' L' _ _ lx ld io d pb fs rest kt vt wc t1 t2 t3 u2 nl l ln tl tt ts te t' u3 pos es q (stS md) (tx tok) hst B' X' T' F9 N9 n1 n2 n3 n4 n5 r1 r2 (lw hdp rfl) (lw hun rfl) ?_
      intro hh h' m' e v tk' Fh Nh hx
      exact leave_raiseS B' hx.of Fh Nh (fun h2 t2 R2 _ U2 => hraise hRn g' e t2 v _ _ ln tl tt u3 pos h2 _ FG' R2 U2)
  | cons c post =>
    have f := facts_of (c := c) rfl
    have hx1 : (tx [c]).length < 200000 := by rw [len_tx]; simp
    have hx2 : (((tx [c]).length : Int) != 0) = true := by rw [len_tx]; rfl
    refine rt_pre w mean mg mb dp un gd cn cs a ccd cl outer A₀ base h₀ L m _ Q E g' L' _ _ lx ld io d pb fs rest kt vt wc t1 t2 t3 u2 nl l (stS md) (tx tok) ln tl tt ts te u3 pos c post nc q es (tx [c]) B' X' T' F₁ N₁ n1 n2 n3 n4 n5 r1 r2 (lw hdp rfl) (lw hun rfl) hlen ⟨by omega, by omega⟩ hd rfl f.nl ?_
    intro tl' u3' t' ln' h' tk' hln' F9 N9
    have hcase := le5 I.md5
    have hlt := drop_lt hd
    rcases hcase with rfl | rfl | rfl | rfl | rfl | rfl
    · obtain ⟨rfl, rfl⟩ := I.m0 rfl
      rw [← s_no] at N9
      refine rt_m0 w mean mg mb dp un gd cn cs a ccd cl outer A₀ base h₀ L m _ Q E g' L' _ _ lx ld io d pb fs rest kt vt wc t1 t2 t3 u2 nl l ln' tl' tt ts te t' u3' ((pos + 1 : Nat) : Int) c es (tx [c]) _ B' X' T' F9 N9 n1 n2 n3 n4 n5 r1 r2 (lw hdp rfl) (lw hun rfl) hx1 hx2 f.wt f.no f.es f.qt rfl ?_ ?_ ?_ ?_
      · intro hw h2 tk2 F2 N2
        exact rt_go 0 false es te [] ts tt tl' ln' u3' hn hlt F2 N2 (by rw [s_no]; rfl)
          (I.go hd 0 false [] es hln' (by decide) (by simp [shT, hw]) ⟨fun h => absurd h (by decide), fun h => absurd h (by decide)⟩ (by simp) (fun _ => ⟨rfl, rfl⟩) (fun h => absurd h (by decide)))
      · intro hw h92 te2 h2 tk2 F2 N2
        obtain rfl := eq_of_beq h92
        exact rt_go 4 false _ te2 [] t' tt tl' ln' u3' hn hlt F2 N2 (by rw [s_no, ← s_bs]; rfl)
          (I.go hd 4 false [] _ hln' (by decide) (by simp [shT, hw]) ⟨fun _ => rfl, fun h => absurd h (by decide)⟩ (by simp) (fun h => absurd h (by decide)) (fun h => absurd h (by decide)))
      · intro hw h92 hq ta h2 tk2 F2 N2
        have hq' : (c == 39 || c == 34) = false := hq.elim (hwq c) id
        simp only [Bool.or_eq_false_iff, beq_eq_false_iff_ne] at hq'
        have h92' := beq_eq_false_iff_ne.mp h92
        exact rt_go 1 false es te [c] ta t' tl' ln' u3' hn hlt F2 N2 (rfl)
          (I.go hd 1 false [c] es hln' (by decide) (by simp [shT, hw, h92', hq'.1, hq'.2]) ⟨fun h => absurd h (by decide), fun h => absurd h (by decide)⟩ (by simp) (fun h => absurd h (by decide)) (fun _ => by simp))
      · intro hw h92 _ hq h2 tk2 F2 N2
        have h92' := beq_eq_false_iff_ne.mp h92
        by_cases h34 : c = 34
        · subst h34
          exact rt_go 2 false es te [] t' tt tl' ln' u3' hn hlt F2 N2 (by rw [s_no, ← s_dq]; rfl)
            (I.go hd 2 false [] es hln' (by decide) (by simp [shT, hw]) ⟨fun h => absurd h (by decide), fun h => absurd h (by decide)⟩ (by simp) (fun h => absurd h (by decide)) (fun h => absurd h (by decide)))
        · have h39 : c = 39 := by simpa [h34] using hq
          subst h39
          exact rt_go 3 false es te [] t' tt tl' ln' u3' hn hlt F2 N2 (by rw [s_no, ← s_sq]; rfl)
            (I.go hd 3 false [] es hln' (by decide) (by simp [shT, hw]) ⟨fun h => absurd h (by decide), fun h => absurd h (by decide)⟩ (by simp) (fun h => absurd h (by decide)) (fun h => absurd h (by decide)))
    · refine rt_m1 w mean mg mb dp un gd cn cs a ccd cl outer A₀ base h₀ L m _ Q E g' L' _ _ lx ld io d pb fs rest kt vt wc t1 t2 t3 u2 nl l ln' tl' tt ts te t' u3' ((pos + 1 : Nat) : Int) c es (tx [c]) _ _ q tok B' X' T' F9 N9 n1 n2 n3 n4 n5 r1 r2 (lw hdp rfl) (lw hun rfl) hx1 hx2 f.wt f.no f.es f.qt rfl (tx_app _ _) (hsz _ (by simp)) (by rw [len_tx]; omega) (nz_of tok) (by have := I.m1 rfl; rw [Bool.or_comm]; exact this) ?_ ?_ ?_ ?_
      · intro hw ta h2 tk2 F2 N2
        have hm1 := I.m1 rfl
        refine hexit q tok _ ln' tl' tt te u3' _ es (pos + 1) h2 tk2 false ?_ ⟨ta, rfl⟩ hlt (by omega) (by omega) F2 N2
        rw [← I.sh, hd, drop_succ hd]
        simp [shT, hw, hm1]
      · intro hw hq h2 tk2 F2 N2
        by_cases h34 : c = 34
        · subst h34
          exact rt_go 2 q es te tok t' tt tl' ln' u3' hn hlt F2 N2 (by rw [← s_dq]; rfl)
            (I.go hd 2 q tok es hln' (by decide) (by simp [shT, hw]) ⟨fun h => absurd h (by decide), fun h => absurd h (by decide)⟩ (by simp) (fun h => absurd h (by decide)) (fun h => absurd h (by decide)))
        · have h39 : c = 39 := by simpa [h34] using hq
          subst h39
          exact rt_go 3 q es te tok t' tt tl' ln' u3' hn hlt F2 N2 (by rw [← s_sq]; rfl)
            (I.go hd 3 q tok es hln' (by decide) (by simp [shT, hw]) ⟨fun h => absurd h (by decide), fun h => absurd h (by decide)⟩ (by simp) (fun h => absurd h (by decide)) (fun h => absurd h (by decide)))
      · intro hw hq h92 te2 h2 tk2 F2 N2
        obtain rfl := eq_of_beq h92
        exact rt_go 4 q _ te2 tok t' tt tl' ln' u3' hn hlt F2 N2 (by rw [← s_bs]; rfl)
          (I.go hd 4 q tok _ hln' (by decide) (by simp [shT, hw]) ⟨fun _ => rfl, fun h => absurd h (by decide)⟩ (by simp) (fun h => absurd h (by decide)) (fun h => absurd h (by decide)))
      · intro hw hq h92 ta h2 tk2 F2 N2
        simp only [Bool.or_eq_false_iff, beq_eq_false_iff_ne] at hq
        have h92' := beq_eq_false_iff_ne.mp h92
        exact rt_go 1 q es te (tok ++ [c]) ts ta tl' ln' u3' hn hlt F2 N2 (rfl)
          (I.go hd 1 q (tok ++ [c]) es hln' (by decide) (by simp [shT, hw, h92', hq.1, hq.2]) ⟨fun h => absurd h (by decide), fun h => absurd h (by decide)⟩ (by simp) (fun h => absurd h (by decide)) (fun _ => by simp))
    · refine rt_m2 w mean mg mb dp un gd cn cs a ccd cl outer A₀ base h₀ L m _ Q E g' L' _ _ lx ld io d pb fs rest kt vt wc t1 t2 t3 u2 nl l ln' tl' tt ts te t' u3' ((pos + 1 : Nat) : Int) c es (tx [c]) q tok B' X' T' F9 N9 n1 n2 n3 n4 n5 r1 r2 (lw hdp rfl) (lw hun rfl) hx1 hx2 f.dq f.es (tx_app _ _) (hsz _ (by simp)) ?_ ?_ ?_
      · intro hc ta h2 tk2 F2 N2
        obtain rfl := eq_of_beq hc
        exact rt_go 1 true es te tok ta tt tl' ln' u3' hn hlt F2 N2 (rfl)
          (I.go hd 1 true tok es hln' (by decide) (by simp [shT]) ⟨fun h => absurd h (by decide), fun h => absurd h (by decide)⟩ (by simp) (fun h => absurd h (by decide)) (fun _ => by simp))
      · intro hc h92 h2 tk2 F2 N2
        obtain rfl := eq_of_beq h92
        exact rt_go 5 true _ ts tok t' tt tl' ln' u3' hn hlt F2 N2 (by rw [← s_bs]; rfl)
          (I.go hd 5 true tok _ hln' (by decide) (by simp [shT]) ⟨fun h => absurd h (by decide), fun _ => rfl⟩ (by simp) (fun h => absurd h (by decide)) (fun h => absurd h (by decide)))
      · intro hc h92 ta h2 tk2 F2 N2
        have hc' := beq_eq_false_iff_ne.mp hc
        have h92' := beq_eq_false_iff_ne.mp h92
        exact rt_go 2 true es te (tok ++ [c]) ts ta tl' ln' u3' hn hlt F2 N2 (rfl)
          (I.go hd 2 true (tok ++ [c]) es hln' (by decide) (by simp [shT, hc', h92']) ⟨fun h => absurd h (by decide), fun h => absurd h (by decide)⟩ (by simp) (fun h => absurd h (by decide)) (fun h => absurd h (by decide)))
    · refine rt_m3 w mean mg mb dp un gd cn cs a ccd cl outer A₀ base h₀ L m _ Q E g' L' _ _ lx ld io d pb fs rest kt vt wc t1 t2 t3 u2 nl l ln' tl' tt ts te t' u3' ((pos + 1 : Nat) : Int) c es (tx [c]) q tok B' X' T' F9 N9 n1 n2 n3 n4 n5 r1 r2 (lw hdp rfl) (lw hun rfl) hx1 hx2 f.sq f.es (tx_app _ _) (hsz _ (by simp)) ?_ ?_
      · intro hc ta h2 tk2 F2 N2
        obtain rfl := eq_of_beq hc
        exact rt_go 1 true es te tok ta tt tl' ln' u3' hn hlt F2 N2 (rfl)
          (I.go hd 1 true tok es hln' (by decide) (by simp [shT]) ⟨fun h => absurd h (by decide), fun h => absurd h (by decide)⟩ (by simp) (fun h => absurd h (by decide)) (fun _ => by simp))
      · intro hc ta h2 tk2 F2 N2
        have hc' := beq_eq_false_iff_ne.mp hc
        exact rt_go 3 true es te (tok ++ [c]) ts ta tl' ln' u3' hn hlt F2 N2 (rfl)
          (I.go hd 3 true (tok ++ [c]) es hln' (by decide) (by simp [shT, hc']) ⟨fun h => absurd h (by decide), fun h => absurd h (by decide)⟩ (by simp) (fun h => absurd h (by decide)) (fun h => absurd h (by decide)))
    · obtain rfl := I.es.1 rfl
      refine rt_m4 w mean mg mb dp un gd cn cs a ccd cl outer A₀ base h₀ L m _ Q E g' L' _ _ lx ld io d pb fs rest kt vt wc t1 t2 t3 u2 nl l ln' tl' tt ts te t' u3' ((pos + 1 : Nat) : Int) c (ofString "a") (tx [c]) q tok B' X' T' F9 N9 n1 n2 n3 n4 n5 r1 r2 (lw hdp rfl) (lw hun rfl) hx1 hx2 (tx_app _ _) (hsz _ (by simp)) ?_
      intro ta h2 tk2 F2 N2
      exact rt_go 1 q _ te (tok ++ [c]) te ta tl' ln' u3' hn hlt F2 N2 (rfl)
        (I.go hd 1 q (tok ++ [c]) _ hln' (by decide) (by simp [shT]) ⟨fun h => absurd h (by decide), fun h => absurd h (by decide)⟩ (by simp) (fun h => absurd h (by decide)) (fun _ => by simp))
    · obtain rfl := I.es.2 rfl
      refine rt_m5 w mean mg mb dp un gd cn cs a ccd cl outer A₀ base h₀ L m _ Q E g' L' _ _ lx ld io d pb fs rest kt vt wc t1 t2 t3 u2 nl l ln' tl' tt ts te t' u3' ((pos + 1 : Nat) : Int) c (ofString "\"") (tx [c]) q tok B' X' T' F9 N9 n1 n2 n3 n4 n5 r1 r2 (lw hdp rfl) (lw hun rfl) hx1 hx2 f.bn f.dn (tx_app _ _) (hsz _ (by simp)) (by rw [s_bs, tx_app]) (hsz _ (by simp)) (by rw [tx_app]; simp) (hsz _ (by simp)) ?_ ?_
      · intro h1 h3 ta h2 tk2 F2 N2
        have h1' : c ≠ 92 := by simpa using h1
        have h3' : c ≠ 34 := by simpa using h3
        exact rt_go 2 q _ te (tok ++ [92, c]) te ta tl' ln' u3' hn hlt F2 N2 (rfl)
          (I.go hd 2 q (tok ++ [92, c]) _ hln' (by decide) (by simp [shT, h1', h3']) ⟨fun h => absurd h (by decide), fun h => absurd h (by decide)⟩ (by simp) (fun h => absurd h (by decide)) (fun h => absurd h (by decide)))
      · intro h1 ta h2 tk2 F2 N2
        have h1' : c = 92 ∨ c = 34 := by simpa using h1
        exact rt_go 2 q _ te (tok ++ [c]) te ta tl' ln' u3' hn hlt F2 N2 (rfl)
          (I.go hd 2 q (tok ++ [c]) _ hln' (by decide) (by simp [shT, h1']) ⟨fun h => absurd h (by decide), fun h => absurd h (by decide)⟩ (by simp) (fun h => absurd h (by decide)) (fun h => absurd h (by decide)))
end
theorem ring2 : True := by first | walk1 | trivial
section
local macro_rules | `(tactic| walk_at "truthy ref") => `(tactic| (k_here; (refine' dq_truthy ?ko ?_; (case ko => exact News.get (by k_asm) (by k_mem)); intro k9)))
section
theorem c_rtN (w : World) (mean : ExcName → Option Value) (mg mb : Str → Option Value)
    (dp un : Nat) (gd : Option (List Code)) (cn : Str) (cs : Scope) (a : Addr) (ccd : Value) (cl : List (Str × Addr)) (outer : List Env) (A₀ : Around) (base h₀ : Heap) (L : Addr) (m : Str → Option Value) (s : Shared) (Q E : Value → Shared → Prop)
    (lx ld io d pb fs : Addr) (rest : List (Addr × Obj)) (kt vt : Nat → Tok) (wc : Str) (t1 t2 t3 u2 : Tok) (nl : Value) (l : List Nat) (ln : Int) (tl tt u3 : Tok) (pos : Nat)
    (B : Below A₀ base outer h₀) (F : Fr h₀ L s.heap m) (X : (Mine.K w.params).In h₀) (T : Top Mine.q (looseW Mine.q Mine.loose) mean mg mb h₀) (hk : cs.kind = .function)
    (N : News h₀ L s.heap ((ld, dictOf (lexD w.params kt vt io pb fs wc .none ln tl (ofString "") tt) 19) :: (lx, instObj 764 ld) :: (d, dictOf (ioD w.params t1 t2 t3 u2 u3 nl (tx l) pos) 3) :: (io, instObj 629 d) :: rest))
    (n1 : @Ne Nat lx ld) (n2 : @Ne Nat d ld) (n3 : @Ne Nat io ld) (n4 : @Ne Nat lx d) (n5 : @Ne Nat io d) (r1 : ∀ p ∈ rest, p.1 ≠ ld) (r2 : ∀ p ∈ rest, p.1 ≠ d) (hdp : dp + 9 < recursionLimit) (hun : un + 72 < cLine) (hpl : pos ≤ l.length) (hlen : l.length < 100000) (hd : l.drop pos = [])
    (hret : ∀ tt' h' tk', Fr h₀ L h' m → News h₀ L h' ((ld, dictOf (lexD w.params kt vt io pb fs wc .none ln tl (ofString "") tt') 19) :: (lx, instObj 764 ld) :: (d, dictOf (ioD w.params t1 t2 t3 u2 u3 nl (tx l) pos) 3) :: (io, instObj 629 d) :: rest) → Q .none { s with heap := h', toks := tk' }) :
    wpAny (model rw_oy0313_02.row.prog w) (ktrTop dp un gd cn cs L a ccd cl outer) (call (.ref 732) [.ref lx]) Q E s := by
  revert X; k_fill; intro X
  refine wpAny_call ?_
  k_dflt (refine' code_def ?k1 ?k2 ?k3 ?k4 ?k5 ?kA ?kF ?kK ?k6 ?k7 ?k8 ?k9 ?kB ?_ ?c2 ?c3 ?c4 ?c5; (case kA => exact rfl); (case kF => exact rfl); (case kK => assumption); (case k1 => k_asm); (case k2 => k_asm); (case k3 => k_asm); (case k4 => k_asm); (case k5 => k_asm); (case k6 => k_is); (case k7 => k_is); (case k8 => ktr_room); (case k9 => first | exact BindsTo.of_eq rfl | exact binds_K (by k_in) rfl (by k_is) rfl rfl rfl); (case c5 => decide); (case kB => exact locs rfl); (case c2 => exact rfl); (case c3 => exact rfl); (case c4 => exact rfl); k_whole; intro g' L' h' FG' F' N' B' X' T'; (try dsimp only); (try k_lift B'); (try k_fold))
  have F2 := Fr_cong (m' := fun y => if y = ofString "self" then some (Value.ref lx) else none) F' (fun y => Eq.trans (b := List.lookup y [(ofString "self", Value.ref lx)]) (by kernel_rfl) (look1 y _ _))
  clear F'
  repeat' ((fail_if_success (with_reducible show wpAny _ _ (exec (Stmt.While _ _ _ _) _) _ _ _)); ktr_step)
  rename Fr g' L' _ _ => F3
  rename News g' L' _ _ => N3
  rw [rtM_init] at F3
  refine While_inv2 (fun n m₁ news₁ => ∃ (te : Tok), news₁ = ((ld, dictOf (lexD w.params kt vt io pb fs wc .none ln tl (ofString "") tt) 19) :: (lx, instObj 764 ld) :: (d, dictOf (ioD w.params t1 t2 t3 u2 u3 nl (tx l) pos) 3) :: (io, instObj 629 d) :: rest) ∧ m₁ = rtM lx none false (ofString " ") te) (n₀ := 0) F3 N3 ⟨_, rfl, rfl⟩ ?_
  rintro n m₁ news₁ h₁ tk₁ F₁ N₁ ⟨te, hnews, hm⟩
  subst hnews hm
  clear F3 N3 F N
  repeat' ((fail_if_success (with_reducible show wpAny _ _ (execs _ _) (WhileStep2 _ _ _ _ _ _) _ _)); ktr_step)
  refine rt_preE w mean mg mb dp un gd cn cs a ccd cl outer A₀ base h₀ L m _ Q E g' L' _ _ lx ld io d pb fs rest kt vt wc t1 t2 t3 u2 nl l .none (ofString "") ln tl tt te u3 pos _ _ _ B' X' T' F₁ N₁ n1 n2 n3 n4 n5 r1 r2 (by omega) (by omega) hlen hpl hd ?_
  intro t' h' tk' F9 N9
  refine rt_eN w mean mg mb dp un gd cn cs a ccd cl outer A₀ base h₀ L m _ Q E g' L' _ _ lx ld io d pb fs rest kt vt wc t1 t2 t3 u2 nl l ln tl tt te t' u3 pos _ _ _ _ B' X' T' F9 N9 n1 n2 n3 n4 n5 r1 r2 (by omega) (by omega) ?_
  intro ta h2 tk2 F2 N2
  refine rt_res w mean mg mb dp un gd cn cs a ccd cl outer A₀ base h₀ L m _ Q E g' L' _ _ lx ld io d pb fs rest kt vt wc t1 t2 t3 u2 nl l ln tl ta te u3 pos _ false true (ofString "") .none _ B' X' T' F2 N2 n1 n2 n3 n4 n5 r1 r2 (by omega) (by omega) (by decide +kernel) (by kernel_rfl) ?_ ?_
  · intro _ _ m' ta h' tk' F9 N9
    exact leaveK_ F9 N9 fun kF kN => hret ta h' tk' kF kN
  · intro h1 m' ta h' tk' F9 N9
    exact (h1.elim (fun h => by cases h) (fun h => by cases h))
local macro_rules | `(tactic| k_mem) => `(tactic| assumption)
theorem c_rtI {w : World} {mean : ExcName → Option Value} {mg mb : Str → Option Value}
    {dp un : Nat} {gd : Option (List Code)} {cn : Str} {cs : Scope} {a : Addr} {ccd : Value} {cl : List (Str × Addr)} {outer : List Env} {A₀ : Around} {base h₀ : Heap} {L : Addr} {m : Str → Option Value} {s : Shared} {Q E : Value → Shared → Prop}
    {lx ld io d pb fs : Addr} {rest : List (Addr × Obj)} {kt vt : Nat → Tok} {wc : Str} {t1 t2 t3 u2 : Tok} {nl : Value} {l : List Nat} {ln : Int} {tl tt ts u3 : Tok} {pos : Nat}
    (B : Below A₀ base outer h₀) (F : Fr h₀ L s.heap m) (X : (Mine.K w.params).In h₀) (T : Top Mine.q (looseW Mine.q Mine.loose) mean mg mb h₀) (hk : cs.kind = .function)
    (N : News h₀ L s.heap ((ld, dictOf (lexD w.params kt vt io pb fs wc (.str (ofString " ") ts) ln tl (ofString "") tt) 19) :: (lx, instObj 764 ld) :: (d, dictOf (ioD w.params t1 t2 t3 u2 u3 nl (tx l) pos) 3) :: (io, instObj 629 d) :: rest))
    (n1 : @Ne Nat lx ld) (n2 : @Ne Nat d ld) (n3 : @Ne Nat io ld) (n4 : @Ne Nat lx d) (n5 : @Ne Nat io d) (r1 : ∀ p ∈ rest, p.1 ≠ ld) (r2 : ∀ p ∈ rest, p.1 ≠ d) (hdp : dp + 9 < recursionLimit) (hun : un + 72 < cLine) (hpl : pos ≤ l.length) (hlen : l.length < 100000) (hln : 0 ≤ ln ∧ ln ≤ 1000000 + pos)
    (hwq : ∀ c, Txt.contains wc (tx [c]) = true → (c == 39 || c == 34) = false)
    (hret : ∀ tokr r en, shT (l.drop pos) 0 false [] = some (tokr, r, en) → ∀ v st' (ln' : Int) tl' tt' u3' (pos' : Nat) h' tk', Fr h₀ L h' m → News h₀ L h' ((ld, dictOf (lexD w.params kt vt io pb fs wc st' ln' tl' (ofString "") tt') 19) :: (lx, instObj 764 ld) :: (d, dictOf (ioD w.params t1 t2 t3 u2 u3' nl (tx l) pos') 3) :: (io, instObj 629 d) :: rest) →
      l.drop pos' = r → pos' ≤ l.length → (0 ≤ ln' ∧ ln' ≤ 1000000 + pos') → tokV tokr v → stV en st' → Q v { s with heap := h', toks := tk' })
    (hraise : shT (l.drop pos) 0 false [] = none → ∀ g₂ e t v st' tok' (ln' : Int) tl' tt' u3' (pos' : Nat) h' tk', Fr h₀ L g₂ m → RaisedS base g₂ (envX cn cs L a ccd cl :: outer) e (.type "ValueError") t [v] ((ld, dictOf (lexD w.params kt vt io pb fs wc st' ln' tl' tok' tt') 19) :: (lx, instObj 764 ld) :: (d, dictOf (ioD w.params t1 t2 t3 u2 u3' nl (tx l) pos') 3) :: (io, instObj 629 d) :: rest) h' → g₂.UpToSlots h' → E (.ref e) { s with heap := h', toks := tk' }) :
    wpAny (model rw_oy0313_02.row.prog w) (ktrTop dp un gd cn cs L a ccd cl outer) (call (.ref 732) [.ref lx]) Q E s :=
  c_rt w mean mg mb dp un gd cn cs a ccd cl outer A₀ base h₀ L m s Q E lx ld io d pb fs rest kt vt wc t1 t2 t3 u2 nl l ln tl tt ts u3 pos B F X T hk N n1 n2 n3 n4 n5 r1 r2 hdp hun hpl hlen hln hwq _ rfl hret hraise
theorem c_gt (w : World) (mean : ExcName → Option Value) (mg mb : Str → Option Value)
    (dp un : Nat) (gd : Option (List Code)) (cn : Str) (cs : Scope) (a : Addr) (ccd : Value) (cl : List (Str × Addr)) (outer : List Env) (A₀ : Around) (base h₀ : Heap) (L : Addr) (m : Str → Option Value) (s : Shared) (Q E : Value → Shared → Prop)
    (lx ld io d pb fs : Addr) (rest : List (Addr × Obj)) (kt vt : Nat → Tok) (wc : Str) (t1 t2 t3 u2 : Tok) (nl : Value) (l : List Nat) (ln : Int) (tl tt ts u3 : Tok) (pos : Nat)
    (B : Below A₀ base outer h₀) (F : Fr h₀ L s.heap m) (X : (Mine.K w.params).In h₀) (T : Top Mine.q (looseW Mine.q Mine.loose) mean mg mb h₀) (hk : cs.kind = .function)
    (N : News h₀ L s.heap ((ld, dictOf (lexD w.params kt vt io pb fs wc (.str (ofString " ") ts) ln tl (ofString "") tt) 19) :: (lx, instObj 764 ld) :: (d, dictOf (ioD w.params t1 t2 t3 u2 u3 nl (tx l) pos) 3) :: (io, instObj 629 d) :: rest))
    (n1 : @Ne Nat lx ld) (n2 : @Ne Nat d ld) (n3 : @Ne Nat io ld) (n4 : @Ne Nat lx d) (n5 : @Ne Nat io d) (r1 : ∀ p ∈ rest, p.1 ≠ ld) (r2 : ∀ p ∈ rest, p.1 ≠ d) (hpb : (pb, dqO) ∈ rest) (hfs : (fs, dqO) ∈ rest) (hdp : dp + 11 < recursionLimit) (hun : un + 88 < cLine) (hpl : pos ≤ l.length) (hlen : l.length < 100000) (hln : 0 ≤ ln ∧ ln ≤ 1000000 + pos)
    (hwq : ∀ c, Txt.contains wc (tx [c]) = true → (c == 39 || c == 34) = false)
    (R : Option (Option (List Nat) × List Nat × Bool)) (hR : shT (l.drop pos) 0 false [] = R)
    (hret : ∀ tokr r en, R = some (tokr, r, en) → ∀ v st' (ln' : Int) tl' tt' u3' (pos' : Nat) h' tk', Fr h₀ L h' m → News h₀ L h' ((ld, dictOf (lexD w.params kt vt io pb fs wc st' ln' tl' (ofString "") tt') 19) :: (lx, instObj 764 ld) :: (d, dictOf (ioD w.params t1 t2 t3 u2 u3' nl (tx l) pos') 3) :: (io, instObj 629 d) :: rest) →
      l.drop pos' = r → pos' ≤ l.length → (0 ≤ ln' ∧ ln' ≤ 1000000 + pos') → tokV tokr v → stV en st' → Q v { s with heap := h', toks := tk' })
    (hraise : R = none → ∀ g₂ e t v st' tok' (ln' : Int) tl' tt' u3' (pos' : Nat) h' tk', Fr h₀ L g₂ m → RaisedS base g₂ (envX cn cs L a ccd cl :: outer) e (.type "ValueError") t [v] ((ld, dictOf (lexD w.params kt vt io pb fs wc st' ln' tl' tok' tt') 19) :: (lx, instObj 764 ld) :: (d, dictOf (ioD w.params t1 t2 t3 u2 u3' nl (tx l) pos') 3) :: (io, instObj 629 d) :: rest) h' → g₂.UpToSlots h' → E (.ref e) { s with heap := h', toks := tk' }) :
    wpAny (model rw_oy0313_02.row.prog w) (ktrTop dp un gd cn cs L a ccd cl outer) (call (.ref 725) [.ref lx]) Q E s := by
  revert X; k_fill; intro X
  refine wpAny_call ?_
  k_dflt (refine' code_def ?k1 ?k2 ?k3 ?k4 ?k5 ?kA ?kF ?kK ?k6 ?k7 ?k8 ?k9 ?kB ?_ ?c2 ?c3 ?c4 ?c5; (case kA => exact rfl); (case kF => exact rfl); (case kK => assumption); (case k1 => k_asm); (case k2 => k_asm); (case k3 => k_asm); (case k4 => k_asm); (case k5 => k_asm); (case k6 => k_is); (case k7 => k_is); (case k8 => ktr_room); (case k9 => first | exact BindsTo.of_eq rfl | exact binds_K (by k_in) rfl (by k_is) rfl rfl rfl); (case c5 => decide); (case kB => exact locs rfl); (case c2 => exact rfl); (case c3 => exact rfl); (case c4 => exact rfl); k_whole; intro g' L' h' FG' F' N' B' X' T'; (try dsimp only); (try k_lift B'); (try k_fold))
  repeat' ((fail_if_success (with_reducible show wpAny _ _ (call (Prod.fst _) _) _ _ _)); ktr_step)
  rename Fr g' L' _ _ => F1
  rename News g' L' _ _ => N1
  k_dflt (refine' c_rtI B' F1 X' T' rfl N1 n1 n2 n3 n4 n5 r1 r2 ?kd ?ku hpl hlen hln hwq ?_ ?_)
  (case kd => ktr_room)
  (case ku => ktr_units)
  · intro tokr r en hr v st' ln' tl' tt' u3' pos' h2 tk2 F2 N2 hp2 hpl2 hln2 hv hst
    cases tokr with
    | none =>
      obtain rfl : v = .none := hv
      repeat' ktr_step
      (try dsimp only)
      exact hret none r en (hR.symm.trans hr) .none st' ln' tl' tt' u3' pos' _ _ (by assumption) (by assumption) hp2 hpl2 hln2 rfl hst
    | some x =>
      obtain ⟨tv, rfl⟩ := hv
      repeat' ktr_step
      (try dsimp only)
      exact hret (some x) r en (hR.symm.trans hr) (.str (tx x) tv) st' ln' tl' tt' u3' pos' _ _ (by assumption) (by assumption) hp2 hpl2 hln2 ⟨tv, rfl⟩ hst
  · intro hr g₂ e t v st' tok' ln' tl' tt' u3' pos' h2 tk2 F2 R2 U2
    exact leave_onS B' F2 R2 U2 (fun h3 R3 _ U3 => hraise (hR.symm.trans hr) g' e t v st' tok' ln' tl' tt' u3' pos' h3 _ FG' R3 U3)
theorem c_gtN (w : World) (mean : ExcName → Option Value) (mg mb : Str → Option Value)
    (dp un : Nat) (gd : Option (List Code)) (cn : Str) (cs : Scope) (a : Addr) (ccd : Value) (cl : List (Str × Addr)) (outer : List Env) (A₀ : Around) (base h₀ : Heap) (L : Addr) (m : Str → Option Value) (s : Shared) (Q E : Value → Shared → Prop)
    (lx ld io d pb fs : Addr) (rest : List (Addr × Obj)) (kt vt : Nat → Tok) (wc : Str) (t1 t2 t3 u2 : Tok) (nl : Value) (l : List Nat) (ln : Int) (tl tt u3 : Tok) (pos : Nat)
    (B : Below A₀ base outer h₀) (F : Fr h₀ L s.heap m) (X : (Mine.K w.params).In h₀) (T : Top Mine.q (looseW Mine.q Mine.loose) mean mg mb h₀) (hk : cs.kind = .function)
    (N : News h₀ L s.heap ((ld, dictOf (lexD w.params kt vt io pb fs wc .none ln tl (ofString "") tt) 19) :: (lx, instObj 764 ld) :: (d, dictOf (ioD w.params t1 t2 t3 u2 u3 nl (tx l) pos) 3) :: (io, instObj 629 d) :: rest))
    (n1 : @Ne Nat lx ld) (n2 : @Ne Nat d ld) (n3 : @Ne Nat io ld) (n4 : @Ne Nat lx d) (n5 : @Ne Nat io d) (r1 : ∀ p ∈ rest, p.1 ≠ ld) (r2 : ∀ p ∈ rest, p.1 ≠ d) (hpb : (pb, dqO) ∈ rest) (hfs : (fs, dqO) ∈ rest) (hdp : dp + 11 < recursionLimit) (hun : un + 88 < cLine) (hpl : pos ≤ l.length) (hlen : l.length < 100000) (hd : l.drop pos = [])
    (hret : ∀ tt' h' tk', Fr h₀ L h' m → News h₀ L h' ((ld, dictOf (lexD w.params kt vt io pb fs wc .none ln tl (ofString "") tt') 19) :: (lx, instObj 764 ld) :: (d, dictOf (ioD w.params t1 t2 t3 u2 u3 nl (tx l) pos) 3) :: (io, instObj 629 d) :: rest) → Q .none { s with heap := h', toks := tk' }) :
    wpAny (model rw_oy0313_02.row.prog w) (ktrTop dp un gd cn cs L a ccd cl outer) (call (.ref 725) [.ref lx]) Q E s := by
  revert X; k_fill; intro X
  refine wpAny_call ?_
  k_dflt (refine' code_def ?k1 ?k2 ?k3 ?k4 ?k5 ?kA ?kF ?kK ?k6 ?k7 ?k8 ?k9 ?kB ?_ ?c2 ?c3 ?c4 ?c5; (case kA => exact rfl); (case kF => exact rfl); (case kK => assumption); (case k1 => k_asm); (case k2 => k_asm); (case k3 => k_asm); (case k4 => k_asm); (case k5 => k_asm); (case k6 => k_is); (case k7 => k_is); (case k8 => ktr_room); (case k9 => first | exact BindsTo.of_eq rfl | exact binds_K (by k_in) rfl (by k_is) rfl rfl rfl); (case c5 => decide); (case kB => exact locs rfl); (case c2 => exact rfl); (case c3 => exact rfl); (case c4 => exact rfl); k_whole; intro g' L' h' FG' F' N' B' X' T'; (try dsimp only); (try k_lift B'); (try k_fold))
  repeat' ((fail_if_success (with_reducible show wpAny _ _ (call (Prod.fst _) _) _ _ _)); ktr_step)
  rename Fr g' L' _ _ => F1
  rename News g' L' _ _ => N1
  k_dflt (refine' c_rtN w mean mg mb _ _ _ _ _ _ _ _ _ _ _ _ _ _ _ _ _ lx ld io d pb fs rest kt vt wc t1 t2 t3 u2 nl l ln tl tt u3 pos B' F1 X' T' rfl N1 n1 n2 n3 n4 n5 r1 r2 ?kd ?ku hpl hlen hd ?_)
  (case kd => ktr_room)
  (case ku => ktr_units)
  intro tt' h2 tk2 F2 N2
  repeat' ktr_step
  (try dsimp only)
  exact hret tt' _ _ (by assumption) (by assumption)
end
end
section
theorem c_nxN (w : World) (mean : ExcName → Option Value) (mg mb : Str → Option Value)
    (dp un : Nat) (gd : Option (List Code)) (cn : Str) (cs : Scope) (a : Addr) (ccd : Value) (cl : List (Str × Addr)) (outer : List Env) (A₀ : Around) (base h₀ : Heap) (L : Addr) (m : Str → Option Value) (s : Shared) (Q E : Value → Shared → Prop)
    (lx ld io d pb fs : Addr) (rest : List (Addr × Obj)) (kt vt : Nat → Tok) (wc : Str) (t1 t2 t3 u2 : Tok) (nl : Value) (l : List Nat) (ln : Int) (tl tt u3 : Tok) (pos : Nat)
    (B : Below A₀ base outer h₀) (F : Fr h₀ L s.heap m) (X : (Mine.K w.params).In h₀) (T : Top Mine.q (looseW Mine.q Mine.loose) mean mg mb h₀) (hk : cs.kind = .function)
    (N : News h₀ L s.heap ((ld, dictOf (lexD w.params kt vt io pb fs wc .none ln tl (ofString "") tt) 19) :: (lx, instObj 764 ld) :: (d, dictOf (ioD w.params t1 t2 t3 u2 u3 nl (tx l) pos) 3) :: (io, instObj 629 d) :: rest))
    (n1 : @Ne Nat lx ld) (n2 : @Ne Nat d ld) (n3 : @Ne Nat io ld) (n4 : @Ne Nat lx d) (n5 : @Ne Nat io d) (r1 : ∀ p ∈ rest, p.1 ≠ ld) (r2 : ∀ p ∈ rest, p.1 ≠ d) (hpb : (pb, dqO) ∈ rest) (hfs : (fs, dqO) ∈ rest) (hdp : dp + 13 < recursionLimit) (hun : un + 104 < cLine) (hpl : pos ≤ l.length) (hlen : l.length < 100000) (hd : l.drop pos = [])
    (hstop : ∀ g₂ e t tt' h' tk', Fr h₀ L g₂ m → RaisedS base g₂ (envX cn cs L a ccd cl :: outer) e (.type "StopIteration") t [] ((ld, dictOf (lexD w.params kt vt io pb fs wc .none ln tl (ofString "") tt') 19) :: (lx, instObj 764 ld) :: (d, dictOf (ioD w.params t1 t2 t3 u2 u3 nl (tx l) pos) 3) :: (io, instObj 629 d) :: rest) h' → g₂.UpToSlots h' → E (.ref e) { s with heap := h', toks := tk' }) :
    wpAny (model rw_oy0313_02.row.prog w) (ktrTop dp un gd cn cs L a ccd cl outer) (call (.ref 761) [.ref lx]) Q E s := by
  revert X; k_fill; intro X
  refine wpAny_call ?_
  k_dflt (refine' code_def ?k1 ?k2 ?k3 ?k4 ?k5 ?kA ?kF ?kK ?k6 ?k7 ?k8 ?k9 ?kB ?_ ?c2 ?c3 ?c4 ?c5; (case kA => exact rfl); (case kF => exact rfl); (case kK => assumption); (case k1 => k_asm); (case k2 => k_asm); (case k3 => k_asm); (case k4 => k_asm); (case k5 => k_asm); (case k6 => k_is); (case k7 => k_is); (case k8 => ktr_room); (case k9 => first | exact BindsTo.of_eq rfl | exact binds_K (by k_in) rfl (by k_is) rfl rfl rfl); (case c5 => decide); (case kB => exact locs rfl); (case c2 => exact rfl); (case c3 => exact rfl); (case c4 => exact rfl); k_whole; intro g' L' h' FG' F' N' B' X' T'; (try dsimp only); (try k_lift B'); (try k_fold))
  repeat' ((fail_if_success (with_reducible show wpAny _ _ (call (Prod.fst _) _) _ _ _)); ktr_step)
  rename Fr g' L' _ _ => F1
  rename News g' L' _ _ => N1
  k_dflt (refine' c_gtN w mean mg mb _ _ _ _ _ _ _ _ _ _ _ _ _ _ _ _ _ lx ld io d pb fs rest kt vt wc t1 t2 t3 u2 nl l ln tl tt u3 pos B' F1 X' T' rfl N1 n1 n2 n3 n4 n5 r1 r2 hpb hfs ?kd ?ku hpl hlen hd ?_)
  (case kd => ktr_room)
  (case ku => ktr_units)
  intro tt' h2 tk2 F2 N2
  repeat' ((fail_if_success (with_reducible show wpAny _ _ (leaving _ _) _ _ _)); ktr_step)
  rename Heap.MadeExc _ _ _ _ _ => hx
  exact leave_raiseS B' hx.of (by assumption) (by assumption) (fun h3 t3 R3 _ U3 => hstop g' _ t3 _ h3 _ FG' R3 U3)
theorem c_nx (w : World) (mean : ExcName → Option Value) (mg mb : Str → Option Value)
    (dp un : Nat) (gd : Option (List Code)) (cn : Str) (cs : Scope) (a : Addr) (ccd : Value) (cl : List (Str × Addr)) (outer : List Env) (A₀ : Around) (base h₀ : Heap) (L : Addr) (m : Str → Option Value) (s : Shared) (Q E : Value → Shared → Prop)
    (lx ld io d pb fs : Addr) (rest : List (Addr × Obj)) (kt vt : Nat → Tok) (wc : Str) (t1 t2 t3 u2 : Tok) (nl : Value) (l : List Nat) (ln : Int) (tl tt ts u3 : Tok) (pos : Nat)
    (B : Below A₀ base outer h₀) (F : Fr h₀ L s.heap m) (X : (Mine.K w.params).In h₀) (T : Top Mine.q (looseW Mine.q Mine.loose) mean mg mb h₀) (hk : cs.kind = .function)
    (N : News h₀ L s.heap ((ld, dictOf (lexD w.params kt vt io pb fs wc (.str (ofString " ") ts) ln tl (ofString "") tt) 19) :: (lx, instObj 764 ld) :: (d, dictOf (ioD w.params t1 t2 t3 u2 u3 nl (tx l) pos) 3) :: (io, instObj 629 d) :: rest))
    (n1 : @Ne Nat lx ld) (n2 : @Ne Nat d ld) (n3 : @Ne Nat io ld) (n4 : @Ne Nat lx d) (n5 : @Ne Nat io d) (r1 : ∀ p ∈ rest, p.1 ≠ ld) (r2 : ∀ p ∈ rest, p.1 ≠ d) (hpb : (pb, dqO) ∈ rest) (hfs : (fs, dqO) ∈ rest) (hdp : dp + 13 < recursionLimit) (hun : un + 104 < cLine) (hpl : pos ≤ l.length) (hlen : l.length < 100000) (hln : 0 ≤ ln ∧ ln ≤ 1000000 + pos)
    (hwq : ∀ c, Txt.contains wc (tx [c]) = true → (c == 39 || c == 34) = false)
    (R : Option (Option (List Nat) × List Nat × Bool)) (hR : shT (l.drop pos) 0 false [] = R)
    (hret : ∀ x r en, R = some (some x, r, en) → ∀ tv st' (ln' : Int) tl' tt' u3' (pos' : Nat) h' tk', Fr h₀ L h' m → News h₀ L h' ((ld, dictOf (lexD w.params kt vt io pb fs wc st' ln' tl' (ofString "") tt') 19) :: (lx, instObj 764 ld) :: (d, dictOf (ioD w.params t1 t2 t3 u2 u3' nl (tx l) pos') 3) :: (io, instObj 629 d) :: rest) →
      l.drop pos' = r → pos' ≤ l.length → (0 ≤ ln' ∧ ln' ≤ 1000000 + pos') → stV en st' → Q (.str (tx x) tv) { s with heap := h', toks := tk' })
    (hstop : ∀ r en, R = some (none, r, en) → ∀ g₂ e t st' (ln' : Int) tl' tt' u3' (pos' : Nat) h' tk', Fr h₀ L g₂ m → RaisedS base g₂ (envX cn cs L a ccd cl :: outer) e (.type "StopIteration") t [] ((ld, dictOf (lexD w.params kt vt io pb fs wc st' ln' tl' (ofString "") tt') 19) :: (lx, instObj 764 ld) :: (d, dictOf (ioD w.params t1 t2 t3 u2 u3' nl (tx l) pos') 3) :: (io, instObj 629 d) :: rest) h' → g₂.UpToSlots h' → E (.ref e) { s with heap := h', toks := tk' })
    (hraise : R = none → ∀ g₂ e t v st' tok' (ln' : Int) tl' tt' u3' (pos' : Nat) h' tk', Fr h₀ L g₂ m → RaisedS base g₂ (envX cn cs L a ccd cl :: outer) e (.type "ValueError") t [v] ((ld, dictOf (lexD w.params kt vt io pb fs wc st' ln' tl' tok' tt') 19) :: (lx, instObj 764 ld) :: (d, dictOf (ioD w.params t1 t2 t3 u2 u3' nl (tx l) pos') 3) :: (io, instObj 629 d) :: rest) h' → g₂.UpToSlots h' → E (.ref e) { s with heap := h', toks := tk' }) :
    wpAny (model rw_oy0313_02.row.prog w) (ktrTop dp un gd cn cs L a ccd cl outer) (call (.ref 761) [.ref lx]) Q E s := by
  revert X; k_fill; intro X
  refine wpAny_call ?_
  k_dflt (refine' code_def ?k1 ?k2 ?k3 ?k4 ?k5 ?kA ?kF ?kK ?k6 ?k7 ?k8 ?k9 ?kB ?_ ?c2 ?c3 ?c4 ?c5; (case kA => exact rfl); (case kF => exact rfl); (case kK => assumption); (case k1 => k_asm); (case k2 => k_asm); (case k3 => k_asm); (case k4 => k_asm); (case k5 => k_asm); (case k6 => k_is); (case k7 => k_is); (case k8 => ktr_room); (case k9 => first | exact BindsTo.of_eq rfl | exact binds_K (by k_in) rfl (by k_is) rfl rfl rfl); (case c5 => decide); (case kB => exact locs rfl); (case c2 => exact rfl); (case c3 => exact rfl); (case c4 => exact rfl); k_whole; intro g' L' h' FG' F' N' B' X' T'; (try dsimp only); (try k_lift B'); (try k_fold))
  repeat' ((fail_if_success (with_reducible show wpAny _ _ (call (Prod.fst _) _) _ _ _)); ktr_step)
  rename Fr g' L' _ _ => F1
  rename News g' L' _ _ => N1
  k_dflt (refine' c_gt w mean mg mb _ _ _ _ _ _ _ _ _ _ _ _ _ _ _ _ _ lx ld io d pb fs rest kt vt wc t1 t2 t3 u2 nl l ln tl tt ts u3 pos B' F1 X' T' rfl N1 n1 n2 n3 n4 n5 r1 r2 hpb hfs ?kd ?ku hpl hlen hln hwq R hR ?_ ?_)
  (case kd => ktr_room)
  (case ku => ktr_units)
  · intro tokr r en hr v st' ln' tl' tt' u3' pos' h2 tk2 F2 N2 hp2 hpl2 hln2 hv hst
    cases tokr with
    | none =>
      obtain rfl : v = .none := hv
      repeat' ((fail_if_success (with_reducible show wpAny _ _ (leaving _ _) _ _ _)); ktr_step)
      rename Heap.MadeExc _ _ _ _ _ => hx
      exact leave_raiseS B' hx.of (by assumption) (by assumption) (fun h3 t3 R3 _ U3 => hstop r en hr g' _ t3 _ ln' tl' tt' u3' pos' h3 _ FG' R3 U3)
    | some x =>
      obtain ⟨tv, rfl⟩ := hv
      repeat' ktr_step
      (try dsimp only)
      exact hret x r en hr tv st' ln' tl' tt' u3' pos' _ _ (by assumption) (by assumption) hp2 hpl2 hln2 hst
  · intro hr g₂ e t v st' tok' ln' tl' tt' u3' pos' h2 tk2 F2 R2 U2
    exact leave_onS B' F2 R2 U2 (fun h3 R3 _ U3 => hraise hr g' e t v st' tok' ln' tl' tt' u3' pos' h3 _ FG' R3 U3)
end
end
section
inductive ShW : Nat → List Nat → Option (List (List Nat)) → Prop
  | stop {n l r en} : shT l 0 false [] = some (none, r, en) → ShW n l (some [])
  | last {n l x} : shT l 0 false [] = some (some x, [], true) → ShW (n + 1) l (some [x])
  | bad {n l} : shT l 0 false [] = none → ShW n l none
  | more {n l x r o} : shT l 0 false [] = some (some x, r, false) → ShW n r o → ShW (n + 1) l (o.map (x :: ·))
def wv (x : List Nat) (v : Value) : Prop := ∃ t, v = .str (tx x) t
inductive Wvs : List (List Nat) → List Value → Prop
  | nil : Wvs [] []
  | cons {x t xs vs} : Wvs xs vs → Wvs (x :: xs) (.str (tx x) t :: vs)
theorem Wvs.app {xs ys : List (List Nat)} {vs us : List Value} (h : Wvs xs vs) (k : Wvs ys us) : Wvs (xs ++ ys) (vs ++ us) := by
  induction h with
  | nil => exact k
  | cons _ ih => exact .cons ih
theorem fr_upd {h₀ h : Heap} {L S : Addr} {o : Obj} {f : Obj → Obj} {m : Str → Option Value} (F : Fr h₀ L h m) (nL : S ≠ L) (n0 : h₀.get? S = none) : Fr h₀ L (h.update S f) m := by
  obtain ⟨oL, es, ep, hL, hLd, hLk, hLf⟩ := F.ns
  refine ⟨⟨oL, es, ep, (Heap.get?_update_other _ _ nL).trans hL, hLd, hLk, hLf⟩, fun b o e => (Heap.get?_update_other _ _ (fun q : S = b => by rw [q, e] at n0; cases n0)).trans (F.keep b o e), F.above⟩
theorem news_upd {h₀ h : Heap} {L S : Addr} {o : Obj} {f : Obj → Obj} {l : List (Addr × Obj)} (N : News h₀ L h ((S, o) :: l)) (ne : ∀ p ∈ l, p.1 ≠ S) (hf : (f o).isFreed = false) : News h₀ L (h.update S f) ((S, f o) :: l) := by
  intro p hp
  obtain ⟨a1, a2, a3⟩ := N _ (List.Mem.head _)
  rcases List.mem_cons.mp hp with rfl | hp
  · exact ⟨Heap.get?_update_self f a1 hf, a2, a3⟩
  · have := N p (List.mem_cons_of_mem _ hp)
    exact ⟨(Heap.get?_update_other _ _ (fun q => ne p hp q.symm)).trans this.1, this.2⟩
theorem RaisedS.drop {base G : Heap} {l : List Env} {e t : Addr} {cls : Value} {vs : List Value} {news news' : List (Addr × Obj)} {h : Heap} (R : RaisedS base G l e cls t vs news h) (hs : ∀ p ∈ news', p ∈ news) : RaisedS base G l e cls t vs news' h := by
  obtain ⟨⟨B, hB, h1, hl, hfl, hnew⟩, htup⟩ := R
  exact ⟨⟨B, hB, h1, fun q hq => hl q (hs q hq), hfl, hnew⟩, htup⟩
theorem owit_stopS {M : Model} {A A₀ : Around} {E : Value → Shared → Prop} {s : Shared} {L a e t : Addr} {g G base : Heap} {m : Str → Option Value} {Q : Option Value → Shared → Prop} {outer : List Env} {name : Str} {scope : Scope} {cd : Value} {vs : List Value} {news : List (Addr × Obj)} {X : String}
    (R : RaisedS base G (envOf name scope L a cd :: outer) e (.type X) t vs news s.heap) (hsm : G.UpToSlots s.heap) (F : Fr g L G m) (K : Below A₀ base outer g) (hsub : isSubtype (.type X) (.type "StopIteration") = pure true)
    (k : ∀ g', KtsTurn (outer.filterMap (·.frame)) g g' → Fr g' L s.heap m → Below A₀ base outer g' → News g' L s.heap news → Q none s) : OwitStop M A Q E (.ref e) s := by
  obtain ⟨⟨B, hB, hBG, hl, hfl, hnew⟩, _⟩ := R
  have hL : B.get? L = none := by
    obtain ⟨_, ⟨L', _, hf, hn', _⟩, _⟩ := hfl.2.2.1
    obtain rfl : L = L' := Option.some.inj hf
    exact hn'
  have hf' := flyingW_base hB hfl
  obtain ⟨ob, hob, hobc⟩ := hf'.there
  have hT : s.TypeIs (.ref e) X := (show ∃ o, s.heap.get? e = some o ∧ o.cls = .type X from ⟨ob, hob, hobc⟩)
  obtain ⟨g', T, F', K'⟩ := kts_ground K F hBG hfl.1 hsm
  unfold OwitStop
  refine wpAny_isInstance hT hsub ?_
  show (if true = true then Q none s else E (.ref e) s)
  rw [if_pos rfl]
  exact k g' T F' K' fun q hq => ⟨hfl.1 _ _ (hl q hq).1, (fun z => by have := (hl q hq).1; rw [z, hL] at this; cases this), T.none_ _ (kts_none F.keep (hl q hq).2.1)⟩
theorem owit_other {M : Model} {A : Around} {E : Value → Shared → Prop} {s : Shared} {L a e t : Addr} {G base : Heap} {Q : Option Value → Shared → Prop} {outer : List Env} {name : Str} {scope : Scope} {cd : Value} {vs : List Value} {news : List (Addr × Obj)} {X : String}
    (R : RaisedS base G (envOf name scope L a cd :: outer) e (.type X) t vs news s.heap) (hsub : isSubtype (.type X) (.type "StopIteration") = pure false)
    (k : E (.ref e) s) : OwitStop M A Q E (.ref e) s := by
  obtain ⟨⟨B, hB, hBG, hl, hfl, hnew⟩, _⟩ := R
  have hf' := flyingW_base hB hfl
  obtain ⟨ob, hob, hobc⟩ := hf'.there
  have hT : s.TypeIs (.ref e) X := (show ∃ o, s.heap.get? e = some o ∧ o.cls = .type X from ⟨ob, hob, hobc⟩)
  unfold OwitStop
  refine wpAny_isInstance hT hsub ?_
  show (if false = true then Q none s else E (.ref e) s)
  rw [if_neg Bool.false_ne_true]
  exact k
section
variable {prog : Program} {w : World} {A : Around} {R : Result → Shared → Prop} {S I : Addr} {res : Value}
def LoopAt (prog : Program) (w : World) (A : Around) (R : Result → Shared → Prop) (S I : Addr) (res : Value) : Nat → Shared → Prop
  | 0, _ => False
  | n + 1, s => wpAny (model prog w) A.in1 (pyNext (.ref I)) (fun r s₁ => match r with
    | none => R (.ok (.ret res)) s₁
    | some x => wpAny (model prog w) A.in1 (updateSeq S (·.push x)) (fun _ s₂ => LoopAt prog w A R S I res n s₂) (fun e s₂ => R (.error e) s₂) s₁) (fun e s₁ => R (.error e) s₁) s
theorem loop_code : ∀ (n : Nat) (s : Shared), LoopAt prog w A R S I res n s → codeAny (model prog w) A (.builtin "list.extend.loop" ⟨[.ref S, .ref I, res], []⟩) R s
  | 0, _, h => h.elim
  | n + 1, s, h => by
    refine codeAny_builtin F.entry_extend_loop ?_
    rw [Around.under_plainId F.plain_extend_loop _]
    show wpAny _ A.in1 (pyNext (.ref I) >>= _) _ _ s
    refine wpAny_bind (wpAny_mono h (fun r s₁ h₁ => ?_) fun _ _ z => z)
    cases r with
    | none => exact wpAny_pure h₁
    | some x =>
      show wpAny _ A.in1 (updateSeq S (·.push x) >>= _) _ _ _
      refine wpAny_bind (wpAny_mono h₁ (fun _ s₂ h₂ => ?_) fun _ _ z => z)
      exact wpAny_pure ⟨plainId_quiet F.plain_extend_loop _, loop_code n s₂ h₂⟩
theorem my_list {prog : Program} {w : World} {A : Around} {E : Value → Shared → Prop} {Q : Value → Shared → Prop} {s : Shared} {x C L : Addr} {h₀ : Heap} {m : Str → Option Value} {K : Frag} {news : List (Addr × Obj)} {ox : Obj} {od : Option Obj}
    (F : Fr h₀ L s.heap m) (X₀ : K.In h₀) (N : News h₀ L s.heap news) (I : ∀ h', News h₀ L h' news → InstAt h' x ox C od)
    (hl : findIn K (.ref C) "__len__" = some none) (hh : findIn K (.ref C) "__length_hint__" = some none)
    (hit : ∀ h₁ S c, Fr h₀ L h₁ m → News h₀ L h₁ ((S, seqObj "list" #[] c) :: news) → wpAny (model prog w) A.in1.in1 (pyIter (.ref x)) (fun it s₂ => it = .ref x ∧ ∃ h₂ tk, s₂ = { s with heap := h₂, toks := tk } ∧ Fr h₀ L h₂ m ∧ News h₀ L h₂ ((S, seqObj "list" #[] c) :: news)) E { s with heap := h₁ })
    (hgo : ∀ h₃ tk S c, Fr h₀ L h₃ m → News h₀ L h₃ ((S, seqObj "list" #[] c) :: news) → (∀ p ∈ news, p.1 ≠ S) → ∃ n, LoopAt prog w A.in1 (wants (fun r s₂ => r = .none ∧ Q (.ref S) s₂) E) S x .none n { s with heap := h₃, toks := tk }) :
    wpAny (model prog w) A (call (.type "list") [.ref x]) Q E s := by
  have hS0 : s.heap.get? s.heap.objs.size = none := by
    cases q : s.heap.get? s.heap.objs.size with
    | none => rfl
    | some o => exact absurd (Heap.lt_size q) (Nat.lt_irrefl _)
  have hne : ∀ p ∈ news, p.1 ≠ s.heap.objs.size := fun p hp q => by
    have := (N p hp).1; rw [q, hS0] at this; cases this
  have n0 : h₀.get? s.heap.objs.size = none := by
    cases q : h₀.get? s.heap.objs.size with
    | none => rfl
    | some o => have := F.keep _ _ q; rw [hS0] at this; cases this
  have nL : s.heap.objs.size ≠ L := fun q => by
    obtain ⟨oL, _, _, hL, _⟩ := F.ns
    rw [← q, hS0] at hL; cases hL
  refine callType_codes (Q₁ := fun obj s₁ => obj = .ref s.heap.objs.size ∧ s₁ = { s with heap := s.heap.push { cls := .type "list", data := .seq #[] } }) PySem.F.called_list (PySem.F.typeCall_list_1 _) PySem.F.entry_list_init
    (code_list_new _ ⟨rfl, rfl⟩) fun obj s₁ h₁ => ?_
  obtain ⟨rfl, rfl⟩ := h₁
  have hS : (s.heap.push { cls := .type "list", data := .seq #[] }).get? s.heap.objs.size = some { cls := .type "list", data := .seq #[] } := Heap.get?_push_size _ rfl
  have F1 : Fr h₀ L (s.heap.push { cls := .type "list", data := .seq #[] }) m := by
    obtain ⟨oL, es, ep, hL, hLd, hLk, hLf⟩ := F.ns
    exact ⟨⟨oL, es, ep, Heap.get?_push_of_some _ hL, hLd, hLk, hLf⟩, fun b o e => Heap.get?_push_of_some _ (F.keep b o e), F.above⟩
  have N1 : News h₀ L (s.heap.push { cls := .type "list", data := .seq #[] }) ((s.heap.objs.size, seqObj "list" #[] 0) :: news) := by
    intro p hp
    rcases List.mem_cons.mp hp with rfl | hp
    · exact ⟨hS, nL, n0⟩
    · exact ⟨Heap.get?_push_of_some _ (N p hp).1, (N p hp).2⟩
  refine ⟨⟨_, hS, rfl⟩, PySem.F.args_list_init_2 _ _, ?_⟩
  generalize hSd : s.heap.objs.size = S at *
  clear hSd hS0 hS
  generalize s.heap.push { cls := .type "list", data := .seq #[] } = h1 at *
  show wpAny _ A.in1.in1 (do let old ← Builtin.List.listItems (.ref S); Builtin.List.listUpdate (.ref S) (fun _ => #[]); letGo old.toList.reverse; Builtin.List.listExtendWith (.ref S) (.ref x) .none) _ _ _
  refine wpAny_bind ?_
  unfold Builtin.List.listItems
  refine wpAny_bind (wpAny_seqItems (N1 _ (List.Mem.head _)).1 rfl (wpAny_pure ?_))
  show wpAny _ A.in1.in1 (updateSeq S (fun _ => #[]) >>= fun _ => letGo (#[] : Array Value).toList.reverse >>= fun _ => Builtin.List.listExtendWith (.ref S) (.ref x) .none) _ _ _
  refine wpAny_bind (wpAny_updateSeq (N1 _ (List.Mem.head _)).1 rfl ?_)
  have N2 := news_upd (f := Obj.mapSeq (fun _ => (#[] : Array Value))) N1 hne rfl
  have F2 := fr_upd (f := Obj.mapSeq (fun _ => (#[] : Array Value))) (o := seqObj "list" #[] 0) F1 nL n0
  refine wpAny_bind (wpAny_letGo ?_)
  unfold Builtin.List.listExtendWith
  have Ix := I _ (fun p hp => N2 p (List.mem_cons_of_mem _ hp))
  refine wpAny_bind (Ix.type.here ?_)
  have hSx : S ≠ x := fun q => by
    have := Ix.at_
    rw [← q, (N2 _ (List.Mem.head _)).1] at this
    have hc := Ix.cls
    rw [← Option.some.inj this] at hc
    cases hc
  have h1 : Builtin.List.listSameRef (.ref S) (.ref x) = false := by simp [Builtin.List.listSameRef, hSx]
  have h2 : (Value.ref C == Value.type "list") = false := rfl
  have h3 : (Value.ref C == Value.type "tuple") = false := rfl
  simp only [h1, h2, h3, Bool.or_false, Bool.false_eq_true, if_false]
  refine wpAny_bind (wpAny_mono (hit _ S _ F2 N2) (fun it s₂ z => ?_) fun _ _ z => z)
  obtain ⟨rfl, h₂, tk, rfl, F3, N3⟩ := z
  have Iy := I _ (fun p hp => N3 p (List.mem_cons_of_mem _ hp))
  refine wpAny_bind (wpAny_holding ?_)
  unfold Builtin.List.listLengthHint
  have X := X₀.keeps F3.keep
  have nL3 : S ≠ L := nL
  refine wpAny_bind (wpAny_bind (Iy.type.here ((looks_findIn X hl).here ?_)))
  show wpAny _ A.in1.in1 (specialOf (Value.ref x) (ofString "__length_hint__") >>= _) _ _ _
  refine wpAny_bind (wpAny_bind (Iy.type.here ((looks_findIn X hh).here ?_)))
  refine wpAny_pure ?_
  show wpAny _ A.in1.in1 (rule "list.extend.makes-room" >>= fun _ => Builtin.List.listTouch (.ref S) >>= fun _ =>
    again (.builtin "list.extend.loop" ⟨[.ref S, .ref x, .none], []⟩)) _ _ _
  refine wpAny_bind (wpAny_rule ?_)
  refine wpAny_bind ?_
  show wpAny _ A.in1.in1 (updateSeq S (·.push .none) >>= fun _ => updateSeq S (·.pop)) _ _ _
  refine wpAny_bind (wpAny_updateSeq (N3 _ (List.Mem.head _)).1 rfl ?_)
  have N4 := news_upd (f := Obj.mapSeq (·.push Value.none)) N3 hne rfl
  have F4 := fr_upd (f := Obj.mapSeq (·.push Value.none)) (o := seqObj "list" #[] 0) F3 nL n0
  refine wpAny_updateSeq (N4 _ (List.Mem.head _)).1 rfl ?_ (by decide) (by decide)
  have N5 := news_upd (f := Obj.mapSeq (·.pop)) N4 hne rfl
  have F5 := fr_upd (f := Obj.mapSeq (·.pop)) (o := seqObj "list" #[] 0) F4 nL n0
  obtain ⟨n, hn⟩ := hgo _ tk S _ F5 N5 hne
  refine wpAny_pure ⟨plainId_quiet PySem.F.plain_extend_loop _, ?_⟩
  exact loop_code n _ hn
end
end
section
theorem c_iter (w : World) (mean : ExcName → Option Value) (mg mb : Str → Option Value)
    (dp un : Nat) (gd : Option (List Code)) (cn : Str) (cs : Scope) (a : Addr) (ccd : Value) (cl : List (Str × Addr)) (outer : List Env) (A₀ : Around) (base h₀ : Heap) (L : Addr) (m : Str → Option Value) (s : Shared) (Q E : Value → Shared → Prop)
    (lx ld io d pb fs : Addr) (rest : List (Addr × Obj)) (kt vt : Nat → Tok) (wc : Str) (t1 t2 t3 u2 : Tok) (nl : Value) (l : List Nat) (st : Value) (ln : Int) (tl tt u3 : Tok) (pos : Nat) (c : Nat)
    (B : Below A₀ base outer h₀) (F : Fr h₀ L s.heap m) (X : (Mine.K w.params).In h₀) (T : Top Mine.q (looseW Mine.q Mine.loose) mean mg mb h₀) (hk : cs.kind = .function)
    (S : Addr) (N : News h₀ L s.heap ((S, seqObj "list" #[] c) :: ((ld, dictOf (lexD w.params kt vt io pb fs wc st ln tl (ofString "") tt) 19) :: (lx, instObj 764 ld) :: (d, dictOf (ioD w.params t1 t2 t3 u2 u3 nl (tx l) pos) 3) :: (io, instObj 629 d) :: rest))) (hdp : dp + 3 < recursionLimit) (hun : un + 24 < cLine)
    (hret : ∀ h' tk', Fr h₀ L h' m → News h₀ L h' ((S, seqObj "list" #[] c) :: ((ld, dictOf (lexD w.params kt vt io pb fs wc st ln tl (ofString "") tt) 19) :: (lx, instObj 764 ld) :: (d, dictOf (ioD w.params t1 t2 t3 u2 u3 nl (tx l) pos) 3) :: (io, instObj 629 d) :: rest)) → Q (.ref lx) { s with heap := h', toks := tk' }) :
    wpAny (model rw_oy0313_02.row.prog w) (ktrTop dp un gd cn cs L a ccd cl outer) (pyIter (.ref lx)) Q E s := by
  revert X; k_fill; intro X
  have I : InstAt s.heap lx (instObj 764 ld) 764 (some (dictOf (lexD w.params kt vt io pb fs wc st ln tl (ofString "") tt) 19)) := InstAt.of_news N (.tail _ (.tail _ (.head _))) (.tail _ (.head _))
  k_dflt (refine' owit_iter (f := 754) F X I ?hs ?hf ?_)
  (case hs => k_is)
  (case hf => k_is)
  refine wpAny_call ?_
  k_dflt (refine' code_def ?k1 ?k2 ?k3 ?k4 ?k5 ?kA ?kF ?kK ?k6 ?k7 ?k8 ?k9 ?kB ?_ ?c2 ?c3 ?c4 ?c5; (case kA => exact rfl); (case kF => exact rfl); (case kK => assumption); (case k1 => k_asm); (case k2 => k_asm); (case k3 => k_asm); (case k4 => k_asm); (case k5 => k_asm); (case k6 => k_is); (case k7 => k_is); (case k8 => ktr_room); (case k9 => first | exact BindsTo.of_eq rfl | exact binds_K (by k_in) rfl (by k_is) rfl rfl rfl); (case c5 => decide); (case kB => exact locs rfl); (case c2 => exact rfl); (case c3 => exact rfl); (case c4 => exact rfl); k_whole; intro g' L' h' FG' F' N' B' X' T'; (try dsimp only); (try k_lift B'); (try k_fold))
  repeat' ktr_step
  exact hret _ _ (by assumption) (by assumption)
theorem wlist (vs : List Value) (v : Value) : vs.toArray.push v = (vs ++ [v]).toArray := by simp
theorem mp5 {p p1 p2 p3 p4 q : Addr × Obj} {r : List (Addr × Obj)} (h : p ∈ q :: r) : p ∈ p1 :: p2 :: p3 :: p4 :: q :: r := .tail _ (.tail _ (.tail _ (.tail _ h)))
theorem nx_any (w : World) (mean : ExcName → Option Value) (mg mb : Str → Option Value)
    (dp un : Nat) (gd : Option (List Code)) (cn : Str) (cs : Scope) (a : Addr) (ccd : Value) (outer : List Env) (A₀ : Around) (base h₀ : Heap) (L : Addr) (m : Str → Option Value) (s : Shared) (R : Result → Shared → Prop) (Post : Value → Shared → Prop)
    (lx ld io d pb fs : Addr) (rest : List (Addr × Obj)) (kt vt : Nat → Tok) (wc : Str) (t1 t2 t3 u2 : Tok) (nl : Value) (l : List Nat) (ln : Int) (tl tt ts u3 : Tok) (pos : Nat) (S : Addr) (oS : Obj)
    (B : Below A₀ base outer h₀) (F : Fr h₀ L s.heap m) (X : (Mine.K w.params).In h₀) (T : Top Mine.q (looseW Mine.q Mine.loose) mean mg mb h₀) (hk : cs.kind = .function)
    (N : News h₀ L s.heap ((S, oS) :: ((ld, dictOf (lexD w.params kt vt io pb fs wc (.str (ofString " ") ts) ln tl (ofString "") tt) 19) :: (lx, instObj 764 ld) :: (d, dictOf (ioD w.params t1 t2 t3 u2 u3 nl (tx l) pos) 3) :: (io, instObj 629 d) :: rest)))
    (nS1 : S ≠ ld) (nS2 : S ≠ d)
    (n1 : @Ne Nat lx ld) (n2 : @Ne Nat d ld) (n3 : @Ne Nat io ld) (n4 : @Ne Nat lx d) (n5 : @Ne Nat io d) (r1 : ∀ p ∈ rest, p.1 ≠ ld) (r2 : ∀ p ∈ rest, p.1 ≠ d) (hpb : (pb, dqO) ∈ rest) (hfs : (fs, dqO) ∈ rest) (hdp : dp + 13 < recursionLimit) (hun : un + 104 < cLine) (hpl : pos ≤ l.length) (hlen : l.length < 100000) (hln : 0 ≤ ln ∧ ln ≤ 1000000 + pos)
    (hwq : ∀ c, Txt.contains wc (tx [c]) = true → (c == 39 || c == 34) = false)
    (R0 : Option (Option (List Nat) × List Nat × Bool)) (hR : shT (l.drop pos) 0 false [] = R0)
    (hret : ∀ x r en, R0 = some (some x, r, en) → ∀ tv st' (ln' : Int) tl' tt' u3' (pos' : Nat) h' tk', Fr h₀ L h' m → News h₀ L h' ((S, oS) :: ((ld, dictOf (lexD w.params kt vt io pb fs wc st' ln' tl' (ofString "") tt') 19) :: (lx, instObj 764 ld) :: (d, dictOf (ioD w.params t1 t2 t3 u2 u3' nl (tx l) pos') 3) :: (io, instObj 629 d) :: rest)) →
      l.drop pos' = r → pos' ≤ l.length → (0 ≤ ln' ∧ ln' ≤ 1000000 + pos') → stV en st' → Post (.str (tx x) tv) { s with heap := h', toks := tk' })
    (hstop : ∀ r en, R0 = some (none, r, en) → ∀ g' h' tk', KtsTurn (outer.filterMap (·.frame)) h₀ g' → Fr g' L h' m → News g' L h' ((S, oS) :: rest) → Below A₀ base outer g' → R (.ok (.ret .none)) { s with heap := h', toks := tk' })
    (hraise : R0 = none → ∀ g₂ e t v h' tk', Fr h₀ L g₂ m → RaisedS base g₂ (envOf cn cs L a ccd :: outer) e (.type "ValueError") t [v] [] h' → g₂.UpToSlots h' → R (.error (.ref e)) { s with heap := h', toks := tk' }) :
    wpAny (model rw_oy0313_02.row.prog w) (ktrTop dp un gd cn cs L a ccd [] outer) (pyNext (.ref lx)) (fun r s₁ => match r with | none => R (.ok (.ret .none)) s₁ | some x => Post x s₁) (fun e s₁ => R (.error e) s₁) s := by
  have hs1 : isSubtype (.type "StopIteration") (.type "StopIteration") = pure true := by rw [isSubtype_type]; kernel_rfl
  have hs2 : isSubtype (.type "ValueError") (.type "StopIteration") = pure false := by rw [isSubtype_type]; kernel_rfl
  revert X; k_fill; intro X
  have I : InstAt s.heap lx (instObj 764 ld) 764 (some (dictOf (lexD w.params kt vt io pb fs wc (.str (ofString " ") ts) ln tl (ofString "") tt) 19)) := InstAt.of_news N (.tail _ (.tail _ (.head _))) (.tail _ (.head _))
  have perm : ∀ {g h' : Heap} {p1 p2 p3 p4 q : Addr × Obj} {r : List (Addr × Obj)}, News g L h' (p1 :: p2 :: p3 :: p4 :: q :: r) → News g L h' (q :: p1 :: p2 :: p3 :: p4 :: r) := fun {_ _ p1 p2 p3 p4 q _} N => news_pick (pre := [p1, p2, p3, p4, q]) [4, 0, 1, 2, 3] rfl N
  have mrep : ∀ {g h' : Heap} {p1 p2 p3 p4 q : Addr × Obj} {r : List (Addr × Obj)}, News g L h' (q :: p1 :: p2 :: p3 :: p4 :: r) → News g L h' (p1 :: p2 :: p3 :: p4 :: q :: r) := fun {_ _ p1 p2 p3 p4 q _} N => news_pick (pre := [q, p1, p2, p3, p4]) [1, 2, 3, 4, 0] rfl N
  k_dflt (refine' owit_next (f := 761) F X I ?hs ?hf ?_)
  (case hs => k_is)
  (case hf => k_is)
  refine c_nx w mean mg mb dp un gd cn cs a ccd [] outer A₀ base h₀ L m s _ _ lx ld io d pb fs ((S, oS) :: rest) kt vt wc t1 t2 t3 u2 nl l ln tl tt ts u3 pos B F X T hk (mrep N) n1 n2 n3 n4 n5 ?_ ?_ (.tail _ hpb) (.tail _ hfs) hdp hun hpl hlen hln hwq R0 hR ?_ ?_ ?_
  · intro p hp
    rcases List.mem_cons.mp hp with rfl | hp
    · exact nS1
    · exact r1 p hp
  · intro p hp
    rcases List.mem_cons.mp hp with rfl | hp
    · exact nS2
    · exact r2 p hp
  · intro x r en hx tv st' ln' tl' tt' u3' pos' h' tk' F' N' e1 e2 e3 e4
    exact hret x r en hx tv st' ln' tl' tt' u3' pos' h' tk' F' (perm N') e1 e2 e3 e4
  · intro r en hx g₂ e t st' ln' tl' tt' u3' pos' h' tk' F' R' U'
    refine owit_stopS R' U' F' B hs1 fun g' T' F'' B' N' => ?_
    exact hstop r en hx g' h' tk' T' F'' (fun p hp => N' p (mp5 hp)) B'
  · intro hx g₂ e t v st' tok' ln' tl' tt' u3' pos' h' tk' F' R' U'
    refine owit_other R' hs2 ?_
    exact hraise hx g₂ e t v h' tk' F' (RaisedS.drop R' (fun p hp => nomatch hp)) U'
theorem nx_none (w : World) (mean : ExcName → Option Value) (mg mb : Str → Option Value)
    (dp un : Nat) (gd : Option (List Code)) (cn : Str) (cs : Scope) (a : Addr) (ccd : Value) (outer : List Env) (A₀ : Around) (base h₀ : Heap) (L : Addr) (m : Str → Option Value) (s : Shared) (R : Result → Shared → Prop) (Post : Value → Shared → Prop)
    (lx ld io d pb fs : Addr) (rest : List (Addr × Obj)) (kt vt : Nat → Tok) (wc : Str) (t1 t2 t3 u2 : Tok) (nl : Value) (l : List Nat) (ln : Int) (tl tt u3 : Tok) (pos : Nat) (S : Addr) (oS : Obj)
    (B : Below A₀ base outer h₀) (F : Fr h₀ L s.heap m) (X : (Mine.K w.params).In h₀) (T : Top Mine.q (looseW Mine.q Mine.loose) mean mg mb h₀) (hk : cs.kind = .function)
    (N : News h₀ L s.heap ((S, oS) :: ((ld, dictOf (lexD w.params kt vt io pb fs wc .none ln tl (ofString "") tt) 19) :: (lx, instObj 764 ld) :: (d, dictOf (ioD w.params t1 t2 t3 u2 u3 nl (tx l) pos) 3) :: (io, instObj 629 d) :: rest)))
    (nS1 : S ≠ ld) (nS2 : S ≠ d)
    (n1 : @Ne Nat lx ld) (n2 : @Ne Nat d ld) (n3 : @Ne Nat io ld) (n4 : @Ne Nat lx d) (n5 : @Ne Nat io d) (r1 : ∀ p ∈ rest, p.1 ≠ ld) (r2 : ∀ p ∈ rest, p.1 ≠ d) (hpb : (pb, dqO) ∈ rest) (hfs : (fs, dqO) ∈ rest) (hdp : dp + 13 < recursionLimit) (hun : un + 104 < cLine) (hpl : pos ≤ l.length) (hlen : l.length < 100000) (hd : l.drop pos = [])
    (hstop : ∀ g' h' tk', KtsTurn (outer.filterMap (·.frame)) h₀ g' → Fr g' L h' m → News g' L h' ((S, oS) :: rest) → Below A₀ base outer g' → R (.ok (.ret .none)) { s with heap := h', toks := tk' }) :
    wpAny (model rw_oy0313_02.row.prog w) (ktrTop dp un gd cn cs L a ccd [] outer) (pyNext (.ref lx)) (fun r s₁ => match r with | none => R (.ok (.ret .none)) s₁ | some x => Post x s₁) (fun e s₁ => R (.error e) s₁) s := by
  have hs1 : isSubtype (.type "StopIteration") (.type "StopIteration") = pure true := by rw [isSubtype_type]; kernel_rfl
  revert X; k_fill; intro X
  have I : InstAt s.heap lx (instObj 764 ld) 764 (some (dictOf (lexD w.params kt vt io pb fs wc .none ln tl (ofString "") tt) 19)) := InstAt.of_news N (.tail _ (.tail _ (.head _))) (.tail _ (.head _))
  have mrep : ∀ {g h' : Heap} {p1 p2 p3 p4 q : Addr × Obj} {r : List (Addr × Obj)}, News g L h' (q :: p1 :: p2 :: p3 :: p4 :: r) → News g L h' (p1 :: p2 :: p3 :: p4 :: q :: r) := fun {_ _ p1 p2 p3 p4 q _} N => news_pick (pre := [q, p1, p2, p3, p4]) [1, 2, 3, 4, 0] rfl N
  k_dflt (refine' owit_next (f := 761) F X I ?hs ?hf ?_)
  (case hs => k_is)
  (case hf => k_is)
  refine c_nxN w mean mg mb dp un gd cn cs a ccd [] outer A₀ base h₀ L m s _ _ lx ld io d pb fs ((S, oS) :: rest) kt vt wc t1 t2 t3 u2 nl l ln tl tt u3 pos B F X T hk (mrep N) n1 n2 n3 n4 n5 ?_ ?_ (.tail _ hpb) (.tail _ hfs) hdp hun hpl hlen hd ?_
  · intro p hp
    rcases List.mem_cons.mp hp with rfl | hp
    · exact nS1
    · exact r1 p hp
  · intro p hp
    rcases List.mem_cons.mp hp with rfl | hp
    · exact nS2
    · exact r2 p hp
  · intro g₂ e t tt' h' tk' F' R' U'
    refine owit_stopS R' U' F' B hs1 fun g' T' F'' B' N' => ?_
    exact hstop g' h' tk' T' F'' (fun p hp => N' p (mp5 hp)) B'
theorem push_obj (vs : List Value) (v : Value) (c : Nat) : ∃ c', Obj.mapSeq (·.push v) (seqObj "list" vs.toArray c) = seqObj "list" (vs ++ [v]).toArray c' := ⟨_, by rw [← wlist]; rfl⟩
theorem lx_loop : ∀ (w : World) (mean : ExcName → Option Value) (mg mb : Str → Option Value)
    (dp un : Nat) (gd : Option (List Code)) (cn : Str) (cs : Scope) (a : Addr) (ccd : Value) (outer : List Env) (A₀ : Around) (base h₀ : Heap) (L : Addr) (m : Str → Option Value) (s0 : Shared) (R : Result → Shared → Prop)
    (lx ld io d pb fs : Addr) (rest : List (Addr × Obj)) (kt vt : Nat → Tok) (wc : Str) (t1 t2 t3 u2 : Tok) (nl : Value) (l : List Nat) (S : Addr)
    (B : Below A₀ base outer h₀) (X : (Mine.K w.params).In h₀) (T : Top Mine.q (looseW Mine.q Mine.loose) mean mg mb h₀) (hk : cs.kind = .function)
    (nS1 : S ≠ ld) (nS2 : S ≠ d) (nS3 : S ≠ lx) (nS4 : S ≠ io) (nr : ∀ p ∈ rest, p.1 ≠ S)
    (n1 : @Ne Nat lx ld) (n2 : @Ne Nat d ld) (n3 : @Ne Nat io ld) (n4 : @Ne Nat lx d) (n5 : @Ne Nat io d) (r1 : ∀ p ∈ rest, p.1 ≠ ld) (r2 : ∀ p ∈ rest, p.1 ≠ d) (hpb : (pb, dqO) ∈ rest) (hfs : (fs, dqO) ∈ rest) (hdp : dp + 13 < recursionLimit) (hun : un + 106 < cLine) (hlen : l.length < 100000)
    (hwq : ∀ c, Txt.contains wc (tx [c]) = true → (c == 39 || c == 34) = false), ∀ (n : Nat) (o : Option (List (List Nat))) (pos : Nat) (ln : Int) (tl tt ts u3 : Tok) (c : Nat) (acc : List (List Nat)) (vs : List Value) (h : Heap) (tk : Nat),
      ShW n (l.drop pos) o → vs.length + n ≤ 100000 → Wvs acc vs → pos ≤ l.length → (0 ≤ ln ∧ ln ≤ 1000000 + pos) → Fr h₀ L h m → News h₀ L h ((S, seqObj "list" vs.toArray c) :: ((ld, dictOf (lexD w.params kt vt io pb fs wc (.str (ofString " ") ts) ln tl (ofString "") tt) 19) :: (lx, instObj 764 ld) :: (d, dictOf (ioD w.params t1 t2 t3 u2 u3 nl (tx l) pos) 3) :: (io, instObj 629 d) :: rest)) →
      (∀ ws vs' h' tk' g' c', o = some ws → KtsTurn (outer.filterMap (·.frame)) h₀ g' → Fr g' L h' m → News g' L h' ((S, seqObj "list" vs'.toArray c') :: rest) → Below A₀ base outer g' → Wvs (acc ++ ws) vs' → vs'.length ≤ 100000 → R (.ok (.ret .none)) { s0 with heap := h', toks := tk' }) →
      (o = none → ∀ g₂ e t v h' tk', Fr h₀ L g₂ m → RaisedS base g₂ (envOf cn cs L a ccd :: outer) e (.type "ValueError") t [v] [] h' → g₂.UpToSlots h' → R (.error (.ref e)) { s0 with heap := h', toks := tk' }) →
      LoopAt rw_oy0313_02.row.prog w (ktrTop dp (un + 1) gd cn cs L a ccd [] outer) R S lx .none (n + 2) { s0 with heap := h, toks := tk } := by
  refine hk32 (by repeat first | exact nW | exact nA | exact nS | apply nP | infer_instance) ((?f : ∀ w mean mg mb dp un gd cn cs a ccd outer A₀ base h₀ L m s0 R lx ld io d pb fs rest kt vt wc t1 t2 t3, Hd32 _ w mean mg mb dp un gd cn cs a ccd outer A₀ base h₀ L m s0 R lx ld io d pb fs rest kt vt wc t1 t2 t3) _ _ _ _ _ _ _ _ _ _ _ _ _ _ _ _ _ _ _ _ _ _ _ _ _ _ _ _ _ _ _ _)
  intro w mean mg mb dp un gd cn cs a ccd outer A₀ base h₀ L m s0 R lx ld io d pb fs rest kt vt wc t1 t2 t3 u2 nl l S B X T hk nS1 nS2 nS3 nS4 nr n1 n2 n3 n4 n5 r1 r2 hpb hfs hdp hun hlen hwq
  have big : (100000 : Nat) + 1 ≤ sizeLine := by decide
  have nSl : ∀ {x1 x2 x3 x4 : Obj}, ∀ p ∈ (ld, x1) :: (lx, x2) :: (d, x3) :: (io, x4) :: rest, p.1 ≠ S := by
    intro x1 x2 x3 x4 p hp
    simp only [List.mem_cons] at hp
    rcases hp with rfl | rfl | rfl | rfl | hp
    · exact Ne.symm nS1
    · exact Ne.symm nS3
    · exact Ne.symm nS2
    · exact Ne.symm nS4
    · exact nr p hp
  intro n
  induction n with
  | zero =>
    intro o pos ln tl tt ts u3 c acc vs h tk hw hcnt hvs hpl hln F N hret hraise
    refine nx_any w mean mg mb dp (un + 2) gd cn cs a ccd outer A₀ base h₀ L m { s0 with heap := h, toks := tk } R (fun x s₁ => wpAny _ _ (updateSeq S (·.push x)) (fun _ s₂ => LoopAt _ _ (ktrTop dp (un + 1) gd cn cs L a ccd [] outer) R S lx .none 1 s₂) (fun e s₂ => R (.error e) s₂) s₁) lx ld io d pb fs rest kt vt wc t1 t2 t3 u2 nl l ln tl tt ts u3 pos S _ B F X T hk N nS1 nS2 n1 n2 n3 n4 n5 r1 r2 hpb hfs hdp (by omega) hpl hlen hln hwq _ rfl ?_ ?_ ?_
    · intro x r en hx
      cases hw with
      | stop e => rw [e] at hx; cases hx
      | bad e => rw [e] at hx; cases hx
    · intro r en hx g' h' tk' T' F' N' B'
      cases hw with
      | stop e => exact hret [] vs h' tk' g' c rfl T' F' N' B' (by rw [List.append_nil]; exact hvs) (by omega)
      | bad e => rw [e] at hx; cases hx
    · intro hx
      cases hw with
      | stop e => rw [e] at hx; cases hx
      | bad e => exact hraise rfl
  | succ n ih =>
    intro o pos ln tl tt ts u3 c acc vs h tk hw hcnt hvs hpl hln F N hret hraise
    refine nx_any w mean mg mb dp (un + 2) gd cn cs a ccd outer A₀ base h₀ L m { s0 with heap := h, toks := tk } R (fun x s₁ => wpAny _ _ (updateSeq S (·.push x)) (fun _ s₂ => LoopAt _ _ (ktrTop dp (un + 1) gd cn cs L a ccd [] outer) R S lx .none (n + 2) s₂) (fun e s₂ => R (.error e) s₂) s₁) lx ld io d pb fs rest kt vt wc t1 t2 t3 u2 nl l ln tl tt ts u3 pos S _ B F X T hk N nS1 nS2 n1 n2 n3 n4 n5 r1 r2 hpb hfs hdp (by omega) hpl hlen hln hwq _ rfl ?_ ?_ ?_
    · intro x r en hx tv st' ln' tl' tt' u3' pos' h' tk' F' N' e1 e2 e3 e4
      obtain ⟨_, nL, n0⟩ := N' _ (List.Mem.head _)
      refine wpAny_updateSeq (N' _ (List.Mem.head _)).1 rfl ?_ (by simp; omega) (by simp; omega)
      have N2 := news_upd (f := Obj.mapSeq (·.push (Value.str (tx x) tv))) N' nSl rfl
      have F2 := fr_upd (f := Obj.mapSeq (·.push (Value.str (tx x) tv))) (o := seqObj "list" #[] 0) F' nL n0
      obtain ⟨c', ec⟩ := push_obj vs (Value.str (tx x) tv) c
      rw [ec] at N2
      have hvs' : Wvs (acc ++ [x]) (vs ++ [Value.str (tx x) tv]) := hvs.app (.cons .nil)
      cases hw with
      | stop e => rw [e] at hx; cases hx
      | bad e => rw [e] at hx; cases hx
      | last e =>
        rw [e] at hx
        obtain ⟨rfl, rfl, rfl⟩ : _ = x ∧ [] = r ∧ true = en := by
          have := Option.some.inj hx
          exact ⟨Option.some.inj (congrArg Prod.fst this), congrArg (fun z => z.2.1) this, congrArg (fun z => z.2.2) this⟩
        obtain rfl : st' = .none := by simpa [stV] using e4
        refine nx_none w mean mg mb dp (un + 2) gd cn cs a ccd outer A₀ base h₀ L m { s0 with heap := _, toks := tk' } R (fun x s₁ => wpAny _ _ (updateSeq S (·.push x)) (fun _ s₂ => LoopAt _ _ (ktrTop dp (un + 1) gd cn cs L a ccd [] outer) R S lx .none (n + 1) s₂) (fun e s₂ => R (.error e) s₂) s₁) lx ld io d pb fs rest kt vt wc t1 t2 t3 u2 nl l ln' tl' tt' u3' pos' S _ B F2 X T hk N2 nS1 nS2 n1 n2 n3 n4 n5 r1 r2 hpb hfs hdp (by omega) e2 hlen e1 ?_
        intro g' h'' tk'' T' F'' N'' B'
        exact hret [_] (vs ++ [_]) h'' tk'' g' c' rfl T' F'' N'' B' hvs' (by simp; omega)
      | more e hw' =>
        rw [e] at hx
        obtain ⟨rfl, rfl, rfl⟩ : _ = x ∧ _ = r ∧ false = en := by
          have := Option.some.inj hx
          exact ⟨Option.some.inj (congrArg Prod.fst this), congrArg (fun z => z.2.1) this, congrArg (fun z => z.2.2) this⟩
        obtain ⟨ts', rfl⟩ : ∃ ts, st' = .str (ofString " ") ts := by simpa [stV] using e4
        dsimp only at e1
        rw [← e1] at hw'
        refine ih _ pos' ln' tl' tt' ts' u3' c' (acc ++ [_]) (vs ++ [_]) _ tk' hw' (by simp; omega) hvs' e2 e3 F2 N2 ?_ ?_
        · intro ws vs' h3 tk3 g' c3 ho T' F3 N3 B' hv hl3
          exact hret (_ :: ws) vs' h3 tk3 g' c3 (by rw [ho]; rfl) T' F3 N3 B' (by simpa using hv) hl3
        · intro ho
          exact hraise (by rw [ho]; rfl)
    · intro r en hx g' h' tk' T' F' N' B'
      cases hw with
      | stop e => exact hret [] vs h' tk' g' c rfl T' F' N' B' (by rw [List.append_nil]; exact hvs) (by omega)
      | bad e => rw [e] at hx; cases hx
      | last e => rw [e] at hx; cases hx
      | more e hw' => rw [e] at hx; cases hx
    · intro hx
      cases hw with
      | stop e => rw [e] at hx; cases hx
      | bad e => exact hraise rfl
      | last e => rw [e] at hx; cases hx
      | more e hw' => rw [e] at hx; cases hx
end
section
theorem mro_dq : mroOf (.type "collections.deque") = pure [.type "collections.deque", .type "object"] := by rw [mroOf_type]; kernel_rfl
theorem lookup_dq_new : typeLookup (.type "collections.deque") "__new__" = pure (some (.builtin "collections.deque.__new__")) := by rw [typeLookup_type, builtinLookup_eq_fast]; kernel_rfl
theorem slot_dq_init : Slot "collections.deque" "__init__" "collections.deque.__init__" :=
  .of (owner := "collections.deque") (n := "__init__") (by rw [typeLookup_type, builtinLookup_eq_fast]; kernel_rfl) (by decide +kernel) (by decide +kernel) (by decide +kernel)
    (by first | exact .inl (by decide +kernel) | exact .inr (by decide +kernel)) (by rw [isSubtype_type]; kernel_rfl)
theorem called_dq : TypeCalled "collections.deque" "collections.deque.__new__" "collections.deque.__init__" :=
  ⟨by decide +kernel, by decide +kernel, ⟨_, _, mro_dq⟩, madeBy_type mro_dq lookup_dq_new (by decide +kernel), by decide +kernel, by rw [isSubtype_type]; kernel_rfl, slot_dq_init⟩
theorem typeCall_dq : checkTypeCall "collections.deque" ⟨[], []⟩ = pure () := by kernel_rfl
theorem newCall_dq : checkBuiltinCall "collections.deque.__new__" ⟨[.type "collections.deque"], []⟩ = pure () := by kernel_rfl
theorem entry_dq_new : entryFor table "collections.deque.__new__" = some Builtin.«collections.deque.__new__» := entryFor_of_tree (by kernel_rfl)
theorem entry_dq_init : entryFor table "collections.deque.__init__" = some Builtin.«collections.deque.__init__» := entryFor_of_tree (by kernel_rfl)
theorem plain_dq_new : plainId "collections.deque.__new__" = true := by decide +kernel
theorem args_dq_init (a : Value) : argsOk "collections.deque.__init__" ⟨[a], []⟩ := by unfold argsOk; kernel_rfl
theorem sub_dq : isSubtype (.type "collections.deque") (.type "collections.deque") = pure true := by rw [isSubtype_type]; kernel_rfl
theorem nodict_dq : typeHasDict (.type "collections.deque") = false := by kernel_rfl
section
variable {prog : Program} {w : World} {A : Around} {E : Value → Shared → Prop} {s : Shared}
theorem code_dq_new {Q₁ : Value → Shared → Prop}
    (h : Q₁ (.ref s.heap.objs.size) { s with heap := s.heap.push dqO }) :
    codeAny (model prog w) A (.call (.builtin "collections.deque.__new__") ⟨[.type "collections.deque"], []⟩) (wants Q₁ E) s := by
  refine codeAny_of_tree ?_
  show wpAny _ A.in1 (do checkBuiltinCall "collections.deque.__new__" ⟨[.type "collections.deque"], []⟩; again (.builtin "collections.deque.__new__" ⟨[.type "collections.deque"], []⟩)) _ _ s
  refine wpAny_bind (wpAny_of_eq newCall_dq (wpAny_pure ⟨plainId_quiet plain_dq_new _, codeAny_builtin entry_dq_new ?_⟩))
  rw [Around.under_plainId plain_dq_new _]
  unfold Builtin.«collections.deque.__new__» Builtin.Deque.newArgs Builtin.Deque.new
  have hsub := sub_dq
  have hnd := nodict_dq
  obtain ⟨hp, g, d, tk, os⟩ := s
  unfold Builtin.Deque.ty
  simp only [hnd]
  wp_walk
  all_goals exact h
theorem dq_new {Q : Value → Shared → Prop} {L : Addr} {h₀ : Heap} {m : Str → Option Value} {news : List (Addr × Obj)} (F : Fr h₀ L s.heap m) (N : News h₀ L s.heap news)
    (h : ∀ D h' tk', Fr h₀ L h' m → News h₀ L h' ((D, dqO) :: news) → (∀ q ∈ news, q.1 < D) → Q (.ref D) { s with heap := h', toks := tk' }) :
    wpAny (model prog w) A (call (.type "collections.deque") []) Q E s := by
  have hS0 : s.heap.get? s.heap.objs.size = none := by
    cases q : s.heap.get? s.heap.objs.size with
    | none => rfl
    | some o => exact absurd (Heap.lt_size q) (Nat.lt_irrefl _)
  have hlt : ∀ p ∈ news, p.1 < s.heap.objs.size := fun p hp => Heap.lt_size (N p hp).1
  have n0 : h₀.get? s.heap.objs.size = none := by
    cases q : h₀.get? s.heap.objs.size with
    | none => rfl
    | some o => have := F.keep _ _ q; rw [hS0] at this; cases this
  have nL : s.heap.objs.size ≠ L := fun q => by
    obtain ⟨oL, _, _, hL, _⟩ := F.ns
    rw [← q, hS0] at hL; cases hL
  refine callType_codes (Q₁ := fun obj s₁ => obj = .ref s.heap.objs.size ∧ s₁ = { s with heap := s.heap.push dqO }) called_dq typeCall_dq entry_dq_init
    (code_dq_new ⟨rfl, rfl⟩) fun obj s₁ h₁ => ?_
  obtain ⟨rfl, rfl⟩ := h₁
  have hS : (s.heap.push dqO).get? s.heap.objs.size = some dqO := Heap.get?_push_size _ rfl
  have F1 : Fr h₀ L (s.heap.push dqO) m := by
    obtain ⟨oL, es, ep, hL, hLd, hLk, hLf⟩ := F.ns
    exact ⟨⟨oL, es, ep, Heap.get?_push_of_some _ hL, hLd, hLk, hLf⟩, fun b o e => Heap.get?_push_of_some _ (F.keep b o e), F.above⟩
  have N1 : News h₀ L (s.heap.push dqO) ((s.heap.objs.size, dqO) :: news) := by
    intro p hp
    rcases List.mem_cons.mp hp with rfl | hp
    · exact ⟨hS, nL, n0⟩
    · exact ⟨Heap.get?_push_of_some _ (N p hp).1, (N p hp).2⟩
  refine ⟨⟨_, hS, rfl⟩, args_dq_init _, ?_⟩
  have hne : ∀ p ∈ news, p.1 ≠ s.heap.objs.size := fun p hp => Nat.ne_of_lt (hlt p hp)
  have key := h s.heap.objs.size
  generalize hSd : s.heap.objs.size = S at *
  clear hSd hS0
  generalize s.heap.push dqO = h1 at *
  clear F N h
  obtain ⟨hp, g, d, tk, os⟩ := s
  unfold Builtin.«collections.deque.__init__»
  wp_walk
  all_goals exact ⟨rfl, key _ _ (fr_upd (f := Obj.mapFields fun x => x.setIfInBounds 0 Value.none) (o := dqO) F1 nL n0) (news_upd (f := Obj.mapFields fun x => x.setIfInBounds 0 Value.none) N1 hne rfl) hlt⟩
end
end
section
theorem entry_iter2 : entryFor table "iter" = some Builtin.«iter» := entryFor_of_tree (by kernel_rfl)
theorem plain_iter2 : plainId "iter" = true := by decide +kernel
theorem check_iter2 (a b : Value) : checkBuiltinCall "iter" ⟨[a, b], []⟩ = pure () := by kernel_rfl
theorem meth_call : typeLookup (.type "method") "__call__" = pure (some (.builtin "method.__call__")) := by rw [typeLookup_type, builtinLookup_eq_fast]; kernel_rfl
abbrev ciO (q : Addr) (t : Tok) (e : Bool) : Obj := { cls := .type "callable_iterator", data := .fields #[.ref q, .str (ofString "") t, .bool e] }
section
variable {prog : Program} {w : World} {A : Around} {E : Value → Shared → Prop} {s : Shared}
theorem ci_new {Q : Value → Shared → Prop} {L q : Addr} {t : Tok} {h₀ : Heap} {m : Str → Option Value} {news : List (Addr × Obj)} (F : Fr h₀ L s.heap m) (N : News h₀ L s.heap news) (hT : s.TypeIs (.ref q) "method")
    (h : ∀ D h', Fr h₀ L h' m → News h₀ L h' ((D, ciO q t false) :: news) → (∀ p ∈ news, p.1 < D) → Q (.ref D) { s with heap := h' }) :
    wpAny (model prog w) A (call (.builtin "iter") [.ref q, .str (ofString "") t]) Q E s := by
  refine wpAny_call (codeAny_of_tree ?_)
  show wpAny _ A.in1 (do checkBuiltinCall "iter" ⟨[.ref q, .str (ofString "") t], []⟩; again (.builtin "iter" ⟨[.ref q, .str (ofString "") t], []⟩)) _ _ s
  refine wpAny_bind (wpAny_of_eq (check_iter2 _ _) (wpAny_pure ⟨plainId_quiet plain_iter2 _, codeAny_builtin entry_iter2 ?_⟩))
  rw [Around.under_plainId plain_iter2 _]
  unfold Builtin.«iter» newFields
  refine wpAny_bind (m := someArgs "iter" 1 2 _) (wpAny_pure ?_)
  refine wpAny_bind (wpAny_specialOf (name := ofString "__call__") hT meth_call ?_)
  have key := h s.heap.objs.size _ (F.push (ciO q t false)) (N.push F (ciO q t false)) (fun p hp => Heap.lt_size (N p hp).1)
  obtain ⟨hp, g, d, tk, os⟩ := s
  wp_walk
  all_goals exact key
end
end
section
section
variable {prog : Program} {w : World} {A₀ A : Around} {s : Shared} {base h₀ g₀ : Heap} {outer : List Env} {L a : Addr} {m : Str → Option Value} {cn : Str} {cs : Scope} {ccd : Value} {cl : List (Str × Addr)} {news : List (Addr × Obj)} {K : Frag} {p : Program} {loose : List Str} {mean : ExcName → Option Value} {mg mb : Str → Option Value}
    {R : Result → Shared → Prop} {name qual : Str} {params : Arguments} {body : List Stmt} {scope : Scope} {dV kV doc pm cdv ct oc : Value} {an od : Option Addr} {osl : Array (Option Value)} {f : Addr} {args : Args} {binds : List (Str × Value)}
/-- the call of a def whose caller's frame has cells; the frames outside may be turned meanwhile -/
theorem code_defSX (B : Below A₀ base outer h₀) (F : Fr h₀ L s.heap m) (X₀ : K.In h₀) (N : News h₀ L s.heap news) (T : Top p loose mean mg mb h₀) (XB : K.In base) (TB : Top p loose mean mg mb base) (D : KtsDicts (outer.filterMap (·.frame)) h₀)
    (T0 : KtsTurn (outer.filterMap (·.frame)) g₀ h₀) (hA : A.frames = some (envX cn cs L a ccd cl :: outer))
    (ho : K.lookup f = some ⟨oc, od, .func (fnOf name qual params body scope dV kV doc pm an cdv ct), osl⟩) (hcd : codeIn K cdv qual = true) (hroom : A.depth < recursionLimit)
    (hbind : BindsTo s (fnOf name qual params body scope dV kV doc pm an cdv ct) args binds) (hloc : ∀ y ∈ binds, scope.names.lookup y.1 = some .local)
    (h : ∀ g L' h₁, Fr h₀ L g m → Fr g L' h₁ (fun y => binds.reverse.lookup y) → News g L' h₁ news → Below A base (envX cn cs L a ccd cl :: outer) g → K.In g → Top p loose mean mg mb g → KtsDicts ((envX cn cs L a ccd cl :: outer).filterMap (·.frame)) g →
      wpAny (model prog w) (A.deeper (envOf qual scope L' f cdv)) (execs body (envOf qual scope L' f cdv))
        (fun fl s' => LeaveS ((envX cn cs L a ccd cl :: outer).filterMap (·.frame)) A₀ base outer K p loose mean mg mb g₀ h₀ L m g R (match fl with | .ret v => v | _ => .none) s')
        (fun e s' => wpAny (model prog w) (A.deeper (envOf qual scope L' f cdv)) (leaving (envOf qual scope L' f cdv) e) (fun _ s'' => R (.error e) s'') (fun e' s'' => R (.error e') s'') s')
        { s with heap := h₁, toks := s.toks + binds.length })
    (hck : cs.kind = .function) (hco : scope.isCoroutine = false) (hgen : scope.isGenerator = false) (hk : scope.kind = .function)
    (hcell : ∀ x ∈ scope.names, x.2 ≠ .cell) : codeAny (model prog w) A (.call (.ref f) args) R s := by
  have X := X₀.keeps F.keep
  obtain ⟨FG, BG, st, -⟩ := groundX (R := R) B F N hA rfl hck
  obtain ⟨oL, es, ep, hLg, hLd, hLk, hLf⟩ := FG.ns
  have hN : ∀ (sl : Array (Option Value)) h', h'.get? L = some { oL with slots := sl } → Heap.Ns h' L m := fun sl h' e => ⟨_, es, ep, e, hLd, hLk, hLf⟩
  have mem2 : ∀ {b : Addr}, b ∈ (envX cn cs L a ccd cl :: outer).filterMap (·.frame) → b = L ∨ b ∈ outer.filterMap (·.frame) := fun hb => kts_mem (name := cn) (scope := cs) (a := a) (cd := ccd) hb
  refine codeAny_call_def (fd := fnOf name qual params body scope dV kV doc pm an cdv ct) (body := body) (binds := binds) hroom (X _ _ ho) rfl (T.nolimit.keeps F.keep) (codeRec_of X hcd) rfl hbind hcell hloc (fun h₁ hns hk₁ => ?_) hco hgen hk
  refine wpAny_mono (h _ s.heap.objs.size h₁ FG ⟨hns, fun b o e => hk₁ b o (of_hideAll _ e), Nat.le_of_eq (hideAll_size _ _)⟩
    (fun p hp => ⟨hk₁ _ _ (N p hp).1, Nat.ne_of_lt (Heap.lt_size (N p hp).1), hideAll_none _ (List.mem_map_of_mem hp)⟩) BG (X₀.keeps st) (T.keeps st) (fun b hb => by
      rcases mem2 hb with rfl | hb
      · exact ⟨oL, es, ep, hLg, hLd⟩
      · obtain ⟨o, es', n', ho', hd'⟩ := D b hb
        exact ⟨o, es', n', st b o ho', hd'⟩)) (fun fl s' hl => ?_) fun _ _ y => y
  have nL₀ : h₀.get? L = none := kts_self F
  rcases hl with ⟨L', m', news', F', N', k⟩ | ⟨g', L', m', news', T', F', N', k⟩
  · refine k ⟨hN oL.slots _ (F'.keep _ _ hLg), fun b o e => F'.keep b o (st b o e), F.above⟩ fun p hp => ⟨(N' p hp).1, fun q => ?_, ?_⟩
    · have := (N' p hp).2.2; rw [q, hLg] at this; cases this
    · cases q : h₀.get? p.1 with
      | none => rfl
      | some o => have := (N' p hp).2.2; rw [st _ _ q] at this; cases this
  · obtain ⟨sl, hs⟩ := T'.up hLg
    have noL : ∀ {b : Addr} {o : Obj}, h₀.get? b = some o → b ∉ outer.filterMap (·.frame) → b ∉ (envX cn cs L a ccd cl :: outer).filterMap (·.frame) := fun e nm q => by
      rcases mem2 q with z | z
      · rw [z, nL₀] at e; cases e
      · exact nm z
    obtain ⟨T₁, S₁⟩ := kts_turn_at (h := s'.heap) (fs := outer.filterMap (·.frame)) (g := h₀)
      (fun b hb => by
        obtain ⟨_, o, ho', _⟩ := B.frames.mem hb
        exact ⟨o, ho'⟩)
      (fun b o e nmem => F'.keep b o (T'.other b o (st b o e) (noL e nmem)))
      (fun b o e hm => by
        obtain ⟨sl', hs'⟩ := T'.up (st b o e)
        exact ⟨sl', F'.keep _ _ hs'⟩)
    have B₃ : Below A₀ base outer (ktsHeap s'.heap (outer.filterMap (·.frame)) h₀) := ⟨B.stack, fun b o e => T₁.other b o (B.stays b o e) (fun hm => by
      rw [(B.frames.mem hm).1] at e
      cases e), B.frames.of_keeps fun b o e _ => by
      obtain ⟨sl', hs'⟩ := T₁.up e
      exact ⟨_, hs', rfl⟩⟩
    refine k _ (T0.trans T₁) ⟨hN sl _ (F'.keep _ _ hs), S₁, by rw [T₁.size]; exact F.above⟩ (fun p hp => ⟨(N' p hp).1, fun q => ?_, ?_⟩) B₃ (XB.keeps B₃.stays) (TB.keeps B₃.stays) (D.turn T₁)
    · have := (N' p hp).2.2; rw [q, hs] at this; cases this
    · refine T₁.none_ _ ?_
      cases q : h₀.get? p.1 with
      | none => rfl
      | some o =>
        obtain ⟨sl', hs'⟩ := T'.up (st _ _ q)
        have := (N' p hp).2.2
        rw [hs'] at this
        cases this
/-- the call of a def with cells of its own, from the outermost frame; that frame may be turned meanwhile -/
theorem code_cellS0 (B : Below A₀ base [] h₀) (F : Fr h₀ L s.heap m) (X₀ : K.In h₀) (T : Top p loose mean mg mb h₀) (hA : A.frames = some [envX cn cs L a ccd cl])
    (ho : K.lookup f = some ⟨oc, od, .func (fnX name qual params body scope [] dV kV doc pm an cdv ct), osl⟩) (hcd : codeIn K cdv qual = true) (hroom : A.depth < recursionLimit)
    (hbind : BindsTo s (fnX name qual params body scope [] dV kV doc pm an cdv ct) args binds)
    (hkind : ∀ n, ∀ x ∈ binds, scope.names.lookup x.1 = some .local ∨ (scope.names.lookup x.1 = some .cell ∧ ((cellsFrom n scope.names []).lookup x.1).isSome = true))
    (hnd : ((cellsFrom 0 scope.names []).map (·.1)).Nodup)
    (h : ∀ g L' h₁ tk cells, Fr h₀ L g m → Fr g L' h₁ (bindL (envOfC qual scope L' f cdv).kindOf binds fun _ => none) → News g L' h₁ cells →
      CellsAre (bindC (envOfC qual scope L' f cdv).kindOf binds fun _ => none) (cellsFrom (L' + 1) scope.names []) cells → Below A base [envX cn cs L a ccd cl] g → K.In g → Top p loose mean mg mb g → KtsDicts ([envX cn cs L a ccd cl].filterMap (·.frame)) g →
      wpAny (model prog w) (A.deeper (envOfC qual scope L' f cdv)) (execs body (envOfC qual scope L' f cdv))
        (fun fl s' => LeaveS0 ([envX cn cs L a ccd cl].filterMap (·.frame)) h₀ L m g R (match fl with | .ret v => v | _ => .none) s')
        (fun e s' => wpAny (model prog w) (A.deeper (envOfC qual scope L' f cdv)) (leaving (envOfC qual scope L' f cdv) e) (fun _ s'' => R (.error e) s'') (fun e' s'' => R (.error e') s'') s')
        { s with heap := h₁, toks := tk })
    (hck : cs.kind = .function) (hco : scope.isCoroutine = false) (hgen : scope.isGenerator = false) (hk : scope.kind = .function) : codeAny (model prog w) A (.call (.ref f) args) R s := by
  have X := X₀.keeps F.keep
  obtain ⟨FG, BG, st, -⟩ := groundX (R := R) B F News.nil hA rfl hck
  obtain ⟨oL, es, ep, hLg, hLd, hLk, hLf⟩ := FG.ns
  refine codeAny_call_function hroom (X _ _ ho) rfl hco hgen rfl (codeRec_of X hcd) (hbind _ _ _ _ ?_)
  refine wpAny_newFunctionEnv_cells hk (hkind _) fun env' he s' x => ?_
  subst he
  refine ⟨((T.nolimit.keeps F.keep)).keeps x.toInCall.keep, codeAny_func ?_⟩
  obtain ⟨h₁, tk, rfl, _⟩ := x.done
  have hk₁ := x.toInCall.keep
  obtain ⟨cells, NC, Y⟩ := Cl.news (h₀ := s.heap) (Nat.le_refl _) fun n c hm => ⟨x.cell n c (lookup_of_mem_nodup (cellsFrom_names scope.names 0 (s.heap.objs.size + 1) [] [] rfl ▸ hnd) hm), x.above n c hm⟩
  refine wpAny_mono (h _ s.heap.objs.size h₁ tk cells FG ⟨x.toInCall.ns, fun b o e => hk₁ b o (of_hideAll _ e), Nat.le_of_eq (hideAll_size _ _)⟩ (fun p hp => ?_) Y BG (X₀.keeps st) (T.keeps st) (fun b hb => by
      rcases List.mem_singleton.mp hb with rfl
      exact ⟨oL, es, ep, hLg, hLd⟩)) (fun fl s' hl => ?_) fun _ _ y => y
  · refine ⟨(NC p hp).1, (NC p hp).2.1, ?_⟩
    cases q : (hideAll s.heap ([] : List Addr)).get? p.1 with
    | none => exact q
    | some o => have := of_hideAll _ q; rw [(NC p hp).2.2] at this; cases this
  · obtain ⟨g', L', m', news', T', F', N', k⟩ := hl
    have nL₀ : h₀.get? L = none := kts_self F
    obtain ⟨sl, hs⟩ := T'.up hLg
    refine k ⟨⟨_, es, ep, F'.keep _ _ hs, hLd, hLk, hLf⟩, fun b o e => F'.keep b o (T'.other b o (st b o e) (fun q => by
      rcases List.mem_singleton.mp q with rfl
      rw [nL₀] at e; cases e)), F.above⟩ fun p hp => ⟨(N' p hp).1, fun q => ?_, ?_⟩
    · have := (N' p hp).2.2; rw [q, hs] at this; cases this
    · cases q : h₀.get? p.1 with
      | none => rfl
      | some o =>
        obtain ⟨sl', hs'⟩ := T'.up (st _ _ q)
        have := (N' p hp).2.2
        rw [hs'] at this
        cases this
end
section
variable {prog : Program} {w : World} {A₀ : Around} {E : Value → Shared → Prop} {s' : Shared} {base g G : Heap} {outer : List Env} {L a e t : Addr} {m : Str → Option Value} {name : Str} {scope : Scope} {cd : Value} {cl : List (Str × Addr)}
  {vs : List Value} {b₀ : Stmt} {suite : List Stmt} {pos np : Pos} {rest : List ExceptHandler} {Q : Flow → Shared → Prop} {news : List (Addr × Obj)} {KF : Frag}
  {p : Program} {loose : List Str} {mean : ExcName → Option Value} {mg mb : Str → Option Value} {x : Str} {X T' : String}
theorem caughtX (R : RaisedS base G (envX name scope L a cd cl :: outer) e (.type X) t vs news s'.heap) (F : Fr g L G m) (K : Below A₀ base outer g) (hsm : G.UpToSlots s'.heap) (XB : KF.In base) (TB : Top p loose mean mg mb base)
    (ex : nsIn KF mainGlobals x = some none) (hv : bootBuiltins x = some (.type T')) (hn' : x ≠ "__name__")
    (hexc : isSubtype (.type T') (.type "BaseException") = pure true) (hnt : isSubtype (.type ((Manifest.find? T').elim "type" fun y => y.metatype)) (.type "tuple") = pure false) (hsub : isSubtype (.type X) (.type T') = pure true)
    (k : ∀ h' g', KtsTurn (outer.filterMap (·.frame)) g g' → Fr g' L h' m → Below A₀ base outer g' →
      wpAny (model prog w) ((A₀.deeper (envX name scope L a cd cl)).mark (some (.ref e))) (execs (b₀ :: suite) (envX name scope L a cd cl)) Q E { s' with heap := h' })
    (hk : scope.kind = .function := by rfl) (hx : (envX name scope L a cd cl).kindOf x = some .globalImplicit := by rfl) (hd : (x == ("__debug__" : Str)) = false := by decide)
    (hE : PassesOwnAt (model prog w) ((A₀.deeper (envX name scope L a cd cl)).mark (some (.ref e))) (A₀.deeper (envX name scope L a cd cl)) (envX name scope L a cd cl) E := by passes_own) :
    wpAny (model prog w) (A₀.deeper (envX name scope L a cd cl)) (noteFrame (.ref e) (envX name scope L a cd cl))
      (fun _ s₂ => wpAny (model prog w) (A₀.deeper (envX name scope L a cd cl)) (setFlight (.ref e) none) (fun _ s₃ =>
        wpAny (model prog w) (A₀.deeper (envX name scope L a cd cl)) (handleBy (.ref e) (envX name scope L a cd cl) (.ExceptHandler (some (.Name x np)) none (b₀ :: suite) pos :: rest)) Q E s₃) E s₂) E s' := by
  obtain ⟨⟨B, hB, hBG, hl, hfl, hnew⟩, htup⟩ := R
  refine wpAny_looks_onW (Around.frames_deeper K.stack) rfl hfl fun h₄ hheld₄ hsm₄ => ?_
  refine wpAny_landsW hheld₄ fun h₅ hheld hsm₅' => ?_
  have hsm₅ := hsm₄.trans hsm₅'
  obtain ⟨g₅, T₅, F₅, K₅⟩ := kts_ground (name := name) (scope := scope) (a := a) (cd := cd) K F hBG hheld.1 (hsm.trans hsm₅)
  have X₅ : KF.In g₅ := XB.keeps K₅.stays
  have P₅ : TopRead p loose mg mb g₅ := topRead_of (TB.keeps K₅.stays)
  obtain ⟨ob, hob, hobc⟩ := hheld.there
  refine wpAny_handleBy_builtin (X := X) (T := T') (b := true) hexc hnt hsub (nameX_B F₅ X₅ P₅ ex hv hn' ⟨rfl, ⟨ob, hob, hobc⟩, ?_⟩ hk hx hd)
  refine lands_againW hheld fun h₆ hfl₆ hsm₆ => ?_
  obtain ⟨g₆, T₆, F₆, K₆⟩ := kts_ground (name := name) (scope := scope) (a := a) (cd := cd) K F hBG hfl₆.1 ((hsm.trans hsm₅).trans hsm₆)
  exact wpAny_passesOwnAt hE (k h₆ g₆ T₆ F₆ K₆)
end
end
section
theorem c_list (w : World) (mean : ExcName → Option Value) (mg mb : Str → Option Value)
    (dp un : Nat) (gd : Option (List Code)) (cn : Str) (cs : Scope) (a : Addr) (ccd : Value) (outer : List Env) (A₀ : Around) (base h₀ : Heap) (L : Addr) (m : Str → Option Value) (s : Shared) (Q E : Value → Shared → Prop)
    (lx ld io d pb fs : Addr) (rest : List (Addr × Obj)) (kt vt : Nat → Tok) (wc : Str) (t1 t2 t3 u2 : Tok) (nl : Value) (l : List Nat) (ln : Int) (tl tt ts u3 : Tok)
    (B : Below A₀ base outer h₀) (F : Fr h₀ L s.heap m) (X : (Mine.K w.params).In h₀) (T : Top Mine.q (looseW Mine.q Mine.loose) mean mg mb h₀) (hk : cs.kind = .function)
    (N : News h₀ L s.heap ((ld, dictOf (lexD w.params kt vt io pb fs wc (.str (ofString " ") ts) ln tl (ofString "") tt) 19) :: (lx, instObj 764 ld) :: (d, dictOf (ioD w.params t1 t2 t3 u2 u3 nl (tx l) (0 : Nat)) 3) :: (io, instObj 629 d) :: rest))
    (n1 : @Ne Nat lx ld) (n2 : @Ne Nat d ld) (n3 : @Ne Nat io ld) (n4 : @Ne Nat lx d) (n5 : @Ne Nat io d) (r1 : ∀ p ∈ rest, p.1 ≠ ld) (r2 : ∀ p ∈ rest, p.1 ≠ d) (hpb : (pb, dqO) ∈ rest) (hfs : (fs, dqO) ∈ rest) (hdp : dp + 13 < recursionLimit) (hun : un + 108 < cLine) (hlen : l.length < 100000) (hln : 0 ≤ ln ∧ ln ≤ 1000000)
    (hwq : ∀ c, Txt.contains wc (tx [c]) = true → (c == 39 || c == 34) = false)
    (n : Nat) (o : Option (List (List Nat))) (hw : ShW n l o) (hn : n ≤ 100000)
    (hret : ∀ ws vs h' tk' g' S c, o = some ws → KtsTurn (outer.filterMap (·.frame)) h₀ g' → Fr g' L h' m → News g' L h' ((S, seqObj "list" vs.toArray c) :: rest) → Below A₀ base outer g' → Wvs ws vs → vs.length ≤ 100000 → Q (.ref S) { s with heap := h', toks := tk' })
    (hraise : o = none → ∀ g₂ e t v h' tk', Fr h₀ L g₂ m → RaisedS base g₂ (envOf cn cs L a ccd :: outer) e (.type "ValueError") t [v] [] h' → g₂.UpToSlots h' → E (.ref e) { s with heap := h', toks := tk' }) :
    wpAny (model rw_oy0313_02.row.prog w) (ktrTop dp un gd cn cs L a ccd [] outer) (call (.type "list") [.ref lx]) Q E s := by
  revert X; k_fill; intro X
  refine my_list (C := 764) (ox := instObj 764 ld) (od := some (dictOf (lexD w.params kt vt io pb fs wc (.str (ofString " ") ts) ln tl (ofString "") tt) 19)) F X N (fun h' N' => InstAt.of_news N' (.tail _ (.head _)) (.head _)) ?hl ?hh ?_ ?_
  (case hl => k_is)
  (case hh => k_is)
  · intro h₁ S c F1 N1
    refine c_iter w mean mg mb dp (un + 2) gd cn cs a ccd [] outer A₀ base h₀ L m _ _ _ lx ld io d pb fs rest kt vt wc t1 t2 t3 u2 nl l _ ln tl tt u3 _ c B F1 X T hk S N1 (by omega) (by omega) ?_
    intro h2 tk2 F2 N2
    exact ⟨rfl, h2, tk2, rfl, F2, N2⟩
  · intro h₃ tk S c F3 N3 hne
    refine ⟨n + 2, lx_loop w mean mg mb dp un gd cn cs a ccd outer A₀ base h₀ L m s _ lx ld io d pb fs rest kt vt wc t1 t2 t3 u2 nl l S B X T hk (Ne.symm (hne _ (.head _))) (Ne.symm (hne _ (.tail _ (.tail _ (.head _))))) (Ne.symm (hne _ (.tail _ (.head _)))) (Ne.symm (hne _ (.tail _ (.tail _ (.tail _ (.head _)))))) (fun p hp => hne p (.tail _ (.tail _ (.tail _ (.tail _ hp))))) n1 n2 n3 n4 n5 r1 r2 hpb hfs hdp (by omega) hlen hwq n o 0 ln tl tt ts u3 c [] [] h₃ tk hw (by simpa using hn) .nil (Nat.zero_le _) ⟨hln.1, by have := hln.2; omega⟩ F3 N3 ?_ ?_⟩
    · intro ws vs' h' tk' g' c' ho T' F' N' B' hv hl
      exact ⟨rfl, hret ws vs' h' tk' g' S c' ho T' F' N' B' hv hl⟩
    · intro ho
      exact hraise ho
end
section
section
variable {M : Model} {h : Heap} {P : Params}
set_option maxHeartbeats 400000
theorem io_made (X : (Mine.K M.w.params).In h) : Looks M h (Bind.madeBy (.ref 629)) none := Looks.of_peek X (by kernel_rfl)
theorem io_made2 (X : (Mine.K M.w.params).In h) : Looks M h (Bind.madeBy (.ref 152)) none := Looks.of_peek X (by kernel_rfl)
theorem io_made3 (X : (Mine.K M.w.params).In h) : Looks M h (Bind.madeBy (.ref 125)) none := Looks.of_peek X (by kernel_rfl)
end
section
variable {M : Model} {h : Heap} {P : Params}
set_option maxHeartbeats 4000000
theorem io_solid (X : (Mine.K M.w.params).In h) : Looks M h (Builtin.Slots.addsLayout (.ref 152)) false := Looks.of_peek X (by kernel_rfl)
end
section
variable {M : Model} {h : Heap} {P : Params}
set_option maxHeartbeats 4000000
theorem io_best (X : (Mine.K M.w.params).In h) : Looks M h (Builtin.Slots.bestBase [.ref 152]) (.ref 152) := Looks.of_peek X (by kernel_rfl)
theorem io_best2 (X : (Mine.K M.w.params).In h) : Looks M h (Builtin.Slots.bestBase [.ref 125]) (.ref 125) := Looks.of_peek X (by kernel_rfl)
theorem io_best3 (X : (Mine.K M.w.params).In h) : Looks M h (Builtin.Slots.bestBase [.type "object"]) (.type "object") := Looks.of_peek X (by kernel_rfl)
end
section
variable {M : Model} {h : Heap} {P : Params}
set_option maxHeartbeats 4000000
theorem io_base (X : (Mine.K M.w.params).In h) : Looks M h (Bind.staticBase (.ref 629)) (.type "object") := Looks.of_peek X (by kernel_rfl)
end
end
section
section
variable {w : World} {A : Around} {R : Result → Shared → Prop} {s : Shared}
theorem io_make {rest : List Value} {kw : List (Str × Value)} (X : (Mine.K w.params).In s.heap)
    (hq : wpAny (model rw_oy0313_02.row.prog w) (A.under (.builtin "type.__call__" ⟨.ref 629 :: rest, kw⟩)) (getAttr (.ref 629) (ofString "__new__")) (fun nw s₁ =>
      wpAny (model rw_oy0313_02.row.prog w) (A.under (.builtin "type.__call__" ⟨.ref 629 :: rest, kw⟩)) (call nw (.ref 629 :: rest) kw) (fun obj s₂ =>
        wpAny (model rw_oy0313_02.row.prog w) (A.under (.builtin "type.__call__" ⟨.ref 629 :: rest, kw⟩)) (isInstance obj (.ref 629)) (fun b s₃ => b = true ∧
          wpAny (model rw_oy0313_02.row.prog w) (A.under (.builtin "type.__call__" ⟨.ref 629 :: rest, kw⟩)) (callSpecial? obj (ofString "__init__") rest kw) (fun r s₄ => r = some .none ∧ R (.ok (.ret obj)) s₄) (fun e s₄ => R (.error e) s₄) s₃)
          (fun e s₃ => R (.error e) s₃) s₂) (fun e s₂ => R (.error e) s₂) s₁) (fun e s₁ => R (.error e) s₁) s) :
    codeAny (model rw_oy0313_02.row.prog w) A (.call (.ref 629) ⟨rest, kw⟩) R s := by
  have callL : Looks (model rw_oy0313_02.row.prog w) s.heap (specialOf (.ref 629) "__call__") (some (.builtin "type.__call__")) := looks_specialIn X (by kernel_rfl)
  have typ : Looks (model rw_oy0313_02.row.prog w) s.heap (isInstance (.ref 629) (.type "type")) true := looks_instIn X (by kernel_rfl)
  have hmr : Looks (model rw_oy0313_02.row.prog w) s.heap (mroOf (.ref 629)) [.ref 629, .ref 152, .ref 125, .type "object"] := Looks.of_peek X (by kernel_rfl)
  have mad : Looks (model rw_oy0313_02.row.prog w) s.heap (Bind.madeBy (.ref 629)) none := io_made X
  have hC := X 629 (Mine.o667 w.params) (by kernel_rfl)
  unfold Mine.o667 at hC
  obtain ⟨hh, g, d, t, os⟩ := s
  refine codeAny_of_tree ?_
  show wpAny _ _ (callAny (.ref 629) _) _ _ _
  refine nd_load hC ?_
  show wpAny _ _ (callAny.viaDunder (.ref 629) _) _ _ _
  unfold callAny.viaDunder
  refine wpAny_bind (callL.at ?_)
  dsimp only
  rw [tc_bind]
  refine wpAny_bind (wpAny_pure (wpAny_bind (wpAny_pure ?_)))
  refine wpAny_pure (a := Fin.again (.call (.builtin "type.__call__") ⟨.ref 629 :: rest, kw⟩)) (And.intro rfl ?_)
  refine codeAny_call_builtin_at (Code.quiet_builtin _ (by decide +kernel)) entry_typeCall (check_slot tc_kind tc_split typ (tc_args _ _ _) ?_)
  unfold Builtin.«type.__call__»
  have e4 : ([.ref 629, .ref 152, .ref 125, .type "object"] : List Value).isEmpty = false := rfl
  refine wpAny_bind (hmr.at ?_)
  simp only [List.isEmpty_cons, Bool.false_eq_true, if_false]
  refine wpAny_bind (mad.at ?_)
  dsimp only
  refine wpAny_bind (wpAny_mono hq (fun nw s₁ h₁ => ?_) fun _ _ z => z)
  refine wpAny_bind (wpAny_holding (wpAny_mono h₁ (fun obj s₂ h₂ => ?_) fun _ _ z => z))
  refine wpAny_bind (wpAny_mono h₂ (fun b s₃ h₃ => ?_) fun _ _ z => z)
  obtain ⟨rfl, h₃⟩ := h₃
  simp only [Bool.not_true, Bool.false_eq_true, if_false]
  refine wpAny_bind (wpAny_holding (wpAny_mono h₃ (fun r s₄ h₄ => ?_) fun _ _ z => z))
  obtain ⟨rfl, h₄⟩ := h₄
  exact wpAny_pure h₄
end
end
section
section
variable {w : World} {A : Around} {R : Result → Shared → Prop} {h : Heap} {g : Array GenState} {d : Drawn} {t : Nat} {os : OsState}
theorem io_obj (X : (Mine.K w.params).In h)
    (hq : R (.ok (.ret (.ref (h.objs.size + 1)))) ⟨(h.push emptyDict).push (instObj 629 h.objs.size), g, d, t, os⟩) :
    codeAny (model rw_oy0313_02.row.prog w) A (.call (.builtin "object.__new__") ⟨[.ref 629], []⟩) R ⟨h, g, d, t, os⟩ := by
  have hC := X 629 (Mine.o667 w.params) (by kernel_rfl)
  unfold Mine.o667 at hC
  have self : Looks (model rw_oy0313_02.row.prog w) h (isSubtype (.ref 629) (.ref 629)) true := Looks.of_peek X (by kernel_rfl)
  have top : Looks (model rw_oy0313_02.row.prog w) h (isSubtype (.ref 629) (.type "object")) true := Looks.of_peek X (by kernel_rfl)
  have typ : Looks (model rw_oy0313_02.row.prog w) h (isInstance (.ref 629) (.type "type")) true := looks_instIn X (by kernel_rfl)
  have isT : Looks (model rw_oy0313_02.row.prog w) h (isType (.ref 629)) true := Looks.of_peek X (by kernel_rfl)
  have base := io_base X (M := (model rw_oy0313_02.row.prog w))
  have made : Looks (model rw_oy0313_02.row.prog w) h (Bind.madeBy (.type "object")) (some "object.__new__") := Looks.of_peek X (by kernel_rfl)
  have F := PySem.F.objNew
  refine codeAny_call_builtin_code (Code.quiet_builtin _ F.quiet) ?_
  simp only [checkBuiltinCall, F.kind, F.split, F.row]
  have here : Looks (model rw_oy0313_02.row.prog w) h (Bind.madeHere "object.__new__" (.ref 629)) () := Looks.of_peek X (by kernel_rfl)
  have args : Bind.checkArgs "object.__new__" ⟨.hand, "object.__new__", "__new__", .cls, []⟩ ⟨[.ref 629], []⟩ = pure () := by kernel_rfl
  rw [args]
  repeat (first | simp only [bne_self_eq_false, Bool.false_eq_true, if_false] | lk)
  refine codeAny_builtin F.entry ?_
  unfold Builtin.«object.__new__»
  repeat (first | simp only [bne_self_eq_false, Bool.false_eq_true, if_false] | lk)
  refine nd_load (Heap.get?_push_of_some _ (Heap.get?_push_of_some _ hC)) ?_
  refine wpAny_pure ?_
  refine wpAny_pure ?_
  refine wpAny_pure ?_
  refine wpAny_pure ?_
  show R _ _
  rw [Heap.size_push]
  exact hq
end
end
section
@[reducible] def inC (A : Around) : Around := { handled := A.handled, depth := A.depth + 1, frames := A.frames, guards := A.guards, units := A.units + 1 }
theorem under_mk (A : Around) (rest : List Value) : A.under (.builtin "type.__call__" ⟨.ref 629 :: rest, []⟩) = inC A := by
  obtain ⟨a, b, c, d, e⟩ := A
  have hw : (Code.builtin "type.__call__" ⟨.ref 629 :: rest, []⟩).weight = 1 := by kernel_rfl
  have hu : (Code.builtin "type.__call__" ⟨.ref 629 :: rest, []⟩).cUnits = 1 := by kernel_rfl
  have he : (Code.builtin "type.__call__" ⟨.ref 629 :: rest, []⟩).envs = [] := by kernel_rfl
  have hg : (Code.builtin "type.__call__" ⟨.ref 629 :: rest, []⟩).guards = [] := by kernel_rfl
  unfold Around.under inC
  rw [hw, hu, he, hg]
  cases c <;> cases d <;> rfl
section
variable {w : World} {A : Around} {s : Shared} {h₀ : Heap} {L : Addr} {m : Str → Option Value} {Q E : Value → Shared → Prop}
theorem io_cls (F : Fr h₀ L s.heap m) (X₀ : (Mine.K w.params).In h₀) (h : Q (.ref 122) { s with toks := s.toks + 1 }) : wpAny (model rw_oy0313_02.row.prog w) A (getAttr (.ref 629) (ofString "__new__")) Q E s :=
  cls_sm (K := Mine.K w.params) (mc := .type "type") (p := 126) (f := .ref 122) (rest := []) F X₀ (by kernel_rfl) (by kernel_rfl) (by kernel_rfl) (by kernel_rfl) (by kernel_rfl) h
theorem io_call {rest : List Value} (F : Fr h₀ L s.heap m) (X₀ : (Mine.K w.params).In h₀)
    (hq : wpAny (model rw_oy0313_02.row.prog w) (inC A) (call (.ref 122) (.ref 629 :: rest)) (fun obj s₂ =>
        wpAny (model rw_oy0313_02.row.prog w) (inC A) (isInstance obj (.ref 629)) (fun b s₃ => b = true ∧
          wpAny (model rw_oy0313_02.row.prog w) (inC A) (callSpecial? obj (ofString "__init__") rest) (fun r s₄ => r = some .none ∧ Q obj s₄) E s₃)
          E s₂) E { s with toks := s.toks + 1 }) :
    wpAny (model rw_oy0313_02.row.prog w) A (call (.ref 629) rest) Q E s := by
  refine wpAny_call ?_
  refine io_make (X₀.keeps F.keep) ?_
  have e := under_mk A rest
  rw [e]
  exact io_cls F X₀ hq
end
section
variable {w : World} {A : Around} {s : Shared} {h₀ : Heap} {L : Addr} {m : Str → Option Value} {Q E : Value → Shared → Prop} {news : List (Addr × Obj)}
theorem io_new (F : Fr h₀ L s.heap m) (X₀ : (Mine.K w.params).In h₀) (N : News h₀ L s.heap news)
    (h : ∀ x dx h', Fr h₀ L h' m → News h₀ L h' ((x, instObj 629 dx) :: (dx, emptyDict) :: news) → (∀ p ∈ news, p.1 < dx) → dx < x → Q (.ref x) { s with heap := h' }) :
    wpAny (model rw_oy0313_02.row.prog w) A (call (.builtin "object.__new__") [.ref 629]) Q E s := by
  refine wpAny_call ?_
  obtain ⟨hh, g, d, t, os⟩ := s
  have N' := (N.push F emptyDict).push (F.push _) (instObj 629 hh.objs.size)
  rw [Heap.size_push] at N'
  exact io_obj (X₀.keeps F.keep) (h _ hh.objs.size _ ((F.push _).push _) N' (fun p hp => Heap.lt_size (N p hp).1) (Nat.lt_succ_self _))
end
section
variable {w : World} {A : Around} {s : Shared} {h₀ : Heap} {L x dx : Addr} {m : Str → Option Value} {Q E : Value → Shared → Prop} {news : List (Addr × Obj)} {rest : List Value}
theorem io_init (F : Fr h₀ L s.heap m) (X₀ : (Mine.K w.params).In h₀) (N : News h₀ L s.heap news) (h1 : (x, instObj 629 dx) ∈ news) (h2 : (dx, emptyDict) ∈ news)
    (h : wpAny (model rw_oy0313_02.row.prog w) A (call (.ref 399) (.ref x :: rest)) (fun v s₄ => v = .none ∧ Q (.ref x) s₄) E s) :
    wpAny (model rw_oy0313_02.row.prog w) A (isInstance (.ref x) (.ref 629)) (fun b s₃ => b = true ∧ wpAny (model rw_oy0313_02.row.prog w) A (callSpecial? (.ref x) (ofString "__init__") rest) (fun r s₄ => r = some .none ∧ Q (.ref x) s₄) E s₃) E s := by
  have X := X₀.keeps F.keep
  have I : InstAt s.heap x (instObj 629 dx) 629 (some emptyDict) := InstAt.of_news N h1 h2
  have self : Looks (model rw_oy0313_02.row.prog w) s.heap (isSubtype (.ref 629) (.ref 629)) true := Looks.of_peek X (by kernel_rfl)
  have t1 := I.type (M := (model rw_oy0313_02.row.prog w))
  have key : wpAny (model rw_oy0313_02.row.prog w) A (callSpecial? (.ref x) (ofString "__init__") rest) (fun r s₄ => r = some .none ∧ Q (.ref x) s₄) E s :=
    special_fn (K := Mine.K w.params) (f := 399) X I (by kernel_rfl) (by kernel_rfl) (wpAny_mono h (fun v s₄ z => ⟨congrArg some z.1, z.2⟩) fun _ _ z => z)
  unfold isInstance
  refine wpAny_bind (t1.here ?_)
  exact self.here (And.intro rfl key)
end
end
section
theorem c_sinit : ∀ (w : World) (mean : ExcName → Option Value) (mg mb : Str → Option Value)
    (dp un : Nat) (gd : Option (List Code)) (cn : Str) (cs : Scope) (a : Addr) (ccd : Value) (cl : List (Str × Addr)) (outer : List Env) (A₀ : Around) (base h₀ : Heap) (L : Addr) (m : Str → Option Value) (s : Shared) (Q E : Value → Shared → Prop)
    (rest : List (Addr × Obj)) (l : List Nat) (t0 : Tok) (io d : Addr)
    (B : Below A₀ base outer h₀) (F : Fr h₀ L s.heap m) (X : (Mine.K w.params).In h₀) (T : Top Mine.q (looseW Mine.q Mine.loose) mean mg mb h₀) (hk : cs.kind = .function)
    (N : News h₀ L s.heap ((io, instObj 629 d) :: (d, emptyDict) :: rest)) (hdp : dp + 8 < recursionLimit) (hun : un + 64 < cLine) (hlen : (tx l).length < 100000) (hid : @Ne Nat io d) (hne : ∀ p ∈ rest, p.1 ≠ d)
    (hret : ∀ t1 t2 t3 u2 u3 u4 h' tk', Fr h₀ L h' m → News h₀ L h' ((io, instObj 629 d) :: (d, dictOf (ioD w.params t1 t2 t3 u2 u3 (.str (ofString "\n") u4) (tx l) 0) 3) :: rest) → Q .none { s with heap := h', toks := tk' }),
    wpAny (model rw_oy0313_02.row.prog w) (ktrTop dp un gd cn cs L a ccd cl outer) (call (.ref 399) [.ref io, .str (tx l) t0]) Q E s := by
  refine hk23 (by repeat first | exact nW | exact nA | exact nS | apply nP | infer_instance) ((?f : ∀ w mean mg mb dp un gd cn cs a ccd cl outer A₀ base h₀ L m s Q E rest l, Hd23 _ w mean mg mb dp un gd cn cs a ccd cl outer A₀ base h₀ L m s Q E rest l) _ _ _ _ _ _ _ _ _ _ _ _ _ _ _ _ _ _ _ _ _ _ _)
  set_option tactic.hygienic false in (intros; intro t0; intros)
  revert X; k_fill; intro X
  refine wpAny_call ?_
  k_dflt (refine' code_def ?k1 ?k2 ?k3 ?k4 ?k5 ?kA ?kF ?kK ?k6 ?k7 ?k8 ?k9 ?kB ?_ ?c2 ?c3 ?c4 ?c5; (case kA => exact rfl); (case kF => exact rfl); (case kK => assumption); (case k1 => k_asm); (case k2 => k_asm); (case k3 => k_asm); (case k4 => k_asm); (case k5 => k_asm); (case k6 => k_is); (case k7 => k_is); (case k8 => ktr_room); (case k9 => first | exact BindsTo.of_eq rfl | exact binds_K (by k_in) rfl (by k_is) rfl rfl rfl); (case c5 => decide); (case kB => exact locs rfl); (case c2 => exact rfl); (case c3 => exact rfl); (case c4 => exact rfl); k_whole; intro g' L' h' FG' F' N' B' X' T'; (try dsimp only); (try k_lift B'); (try k_fold))
  repeat' ktr_step
  exact hret _ _ _ _ _ _ _ _ (by assumption) (by assumption)
end
section
theorem slot_ci_next : Slot "callable_iterator" "__next__" "callable_iterator.__next__" :=
  .of (owner := "callable_iterator") (n := "__next__") (by rw [typeLookup_type, builtinLookup_eq_fast]; kernel_rfl) (by decide +kernel) (by decide +kernel) (by decide +kernel)
    (by first | exact .inl (by decide +kernel) | exact .inr (by decide +kernel)) (by rw [isSubtype_type]; kernel_rfl)
theorem entry_ci_next : entryFor table "callable_iterator.__next__" = some Builtin.«callable_iterator.__next__» := entryFor_of_tree (by kernel_rfl)
theorem args_ci_next (a : Value) : argsOk "callable_iterator.__next__" ⟨[a], []⟩ := by unfold argsOk; kernel_rfl
theorem slot_ci_iter : Slot "callable_iterator" "__iter__" "callable_iterator.__iter__" :=
  .of (owner := "callable_iterator") (n := "__iter__") (by rw [typeLookup_type, builtinLookup_eq_fast]; kernel_rfl) (by decide +kernel) (by decide +kernel) (by decide +kernel)
    (by first | exact .inl (by decide +kernel) | exact .inr (by decide +kernel)) (by rw [isSubtype_type]; kernel_rfl)
theorem entry_ci_iter : entryFor table "callable_iterator.__iter__" = some Builtin.«dict_keyiterator.__iter__» :=
  entryFor_alias (id' := "dict_keyiterator.__iter__") (by kernel_rfl) rfl (by decide +kernel) (by kernel_rfl)
theorem args_ci_iter (a : Value) : argsOk "callable_iterator.__iter__" ⟨[a], []⟩ := by unfold argsOk; kernel_rfl
section
variable {M : Model} {A : Around} {E : Value → Shared → Prop} {s : Shared}
theorem wpAny_borrowed {f : Value} {pos : List Value} {Q : Value → Shared → Prop}
    (hc : codeAny M A (.call f ⟨pos, []⟩) (fun r s' => match r with | .ok (.ret v) => Q v s' | .ok _ => False | .error e => E e s') s) :
    wpAny M A (callBorrowed f pos) Q E s := fun Γ p hΓ => by
  unfold callBorrowed
  rw [Sem.wp_call]
  refine wpCode_mono (fun r s' h => ?_) (hc _ p rfl (hΓ.enter _ none p (by intro x; cases x)))
  cases r with
  | error e => exact h
  | ok f => cases f with
    | ret v => exact h
    | _ => exact h.elim
end
section
variable {prog : Program} {w : World} {A : Around} {E : Value → Shared → Prop} {s : Shared}
theorem ci_iter {D : Addr} {Q : Value → Shared → Prop} (hT : s.TypeIs (.ref D) "callable_iterator") (h : Q (.ref D) s) : wpAny (model prog w) A (pyIter (.ref D)) Q E s := by
  refine wpAny_pyIter_slot hT slot_ci_iter (wpAny_call_entry slot_ci_iter hT entry_ci_iter ?_ (args_ci_iter _))
  show wpAny _ _ (ret (.ref D)) _ _ s
  exact wpAny_pure ⟨_, rfl, "callable_iterator", _, hT, slot_ci_next.lookup, h⟩
abbrev ciE : Obj := { cls := .type "callable_iterator", data := .fields #[.none, .none, .bool true] }
def IsFunc (h : Heap) (f : Addr) : Prop := ∃ o fd, h.get? f = some o ∧ o.data = .func fd
theorem fn_borrows {q f x : Addr} {Q : Bool → Shared → Prop} (hq : s.heap.get? q = some (methodObj (.ref f) (.ref x))) (hf : IsFunc s.heap f) (h : Q true s) : wpAny (model prog w) A (borrowsExactly (.ref q)) Q E s := by
  obtain ⟨o, fd, ho, hd⟩ := hf
  unfold borrowsExactly
  refine wpAny_bind (wpAny_load hq ?_)
  show wpAny _ _ (load f >>= _) _ _ s
  refine wpAny_bind (wpAny_load ho ?_)
  rw [hd]
  exact wpAny_pure h
def CiPost (s : Shared) (h₀ : Heap) (L D q f x : Addr) (t : Tok) (m : Str → Option Value) (Q : Option Value → Shared → Prop) (v : Value) (s₁ : Shared) : Prop :=
  (∃ y tv, v = .str y tv ∧ y ≠ ofString "" ∧ s₁.heap.get? D = some (ciO q t false) ∧ Q (some v) s₁) ∨
  (∃ tv h1 tk1 news1, v = .str (ofString "") tv ∧ s₁ = { s with heap := h1, toks := tk1 } ∧ Fr h₀ L h1 m ∧ News h₀ L h1 ((D, ciO q t false) :: news1) ∧ (∀ p ∈ news1, p.1 ≠ D) ∧ (q, methodObj (.ref f) (.ref x)) ∈ news1 ∧ IsFunc h1 f ∧
    ∀ h2 tk2, Fr h₀ L h2 m → News h₀ L h2 ((D, ciE) :: news1) → Q none { s with heap := h2, toks := tk2 })
theorem ci_next {prog : Program} {w : World} {A : Around} {E : Value → Shared → Prop} {s : Shared} {D q f x L : Addr} {h₀ : Heap} {t : Tok} {m : Str → Option Value} {Q : Option Value → Shared → Prop} (hh : A.handled = none)
    (hD : s.heap.get? D = some (ciO q t false)) (hq : s.heap.get? q = some (methodObj (.ref f) (.ref x))) (hf : IsFunc s.heap f)
    (hc : codeAny (model prog w) A.in1 (.call (.ref f) ⟨[.ref x], []⟩) (fun r s' => match r with | .ok (.ret v) => CiPost s h₀ L D q f x t m Q v s' | .ok _ => False | .error _ => False) s) :
    wpAny (model prog w) A (pyNext (.ref D)) Q E s := by
  have hT : s.TypeIs (.ref D) "callable_iterator" := ⟨_, hD, rfl⟩
  unfold pyNext
  refine wpAny_bind (wpAny_attempt (wpAny_callSpecial?_slot (name := ofString "__next__") hT slot_ci_next
    (wpAny_call_entry slot_ci_next hT entry_ci_next ?_ (args_ci_next _))))
  show wpAny _ _ (field (.ref D) 2 >>= _) _ _ s
  refine wpAny_bind (wpAny_field hD rfl (x := .bool false) rfl ?_)
  show wpAny _ _ (field (.ref D) 0 >>= _) _ _ s
  refine wpAny_bind (wpAny_field hD rfl (x := .ref q) rfl ?_)
  refine wpAny_bind (wpAny_attempt ?_)
  unfold callOutOfASlot
  refine wpAny_bind (fn_borrows hq hf ?_)
  show wpAny _ _ (callBorrowed (.ref q) []) _ _ s
  refine wpAny_borrowed (ks_codeAny_call_bound hq (codeAny_mono hc fun r s₁ hr => ?_))
  cases r with
  | error e => exact hr.elim
  | ok fl =>
  cases fl with
  | ret v =>
    rcases hr with ⟨y, tv, rfl, hy, hD1, hQ⟩ | ⟨tv, h1, tk1, news1, rfl, rfl, F1, N1, ne, hq1, hf1, hQ⟩
    · show wpAny _ _ (field (.ref D) 2 >>= _) _ _ _
      refine wpAny_bind (wpAny_field hD1 rfl (x := .bool false) rfl ?_)
      show wpAny _ _ (field (.ref D) 1 >>= _) _ _ _
      refine wpAny_bind (wpAny_field hD1 rfl (x := .str (ofString "") t) rfl ?_)
      refine wpAny_bind (wpAny_holding (wpAny_eqBool_str ?_))
      rw [show decide (ofString "" = y) = false from decide_eq_false (fun e => hy e.symm)]
      exact wpAny_bind (wpAny_pure (wpAny_pure ⟨_, rfl, wpAny_pure hQ⟩))
    · have hD1 := (N1 _ (List.Mem.head _)).1
      have nL := (N1 _ (List.Mem.head _)).2.1
      have n0 := (N1 _ (List.Mem.head _)).2.2
      have hq1' := (N1 _ (List.Mem.tail _ hq1)).1
      show wpAny _ _ (field (.ref D) 2 >>= _) _ _ _
      refine wpAny_bind (wpAny_field hD1 rfl (x := .bool false) rfl ?_)
      show wpAny _ _ (field (.ref D) 1 >>= _) _ _ _
      refine wpAny_bind (wpAny_field hD1 rfl (x := .str (ofString "") t) rfl ?_)
      refine wpAny_bind (wpAny_holding (wpAny_eqBool_str ?_))
      rw [show decide (ofString "" = ofString "") = true from decide_eq_true rfl]
      show wpAny _ _ (rule "callable_iterator.__next__.sentinel" >>= fun _ =>
        (field (.ref D) 0 >>= fun o => slotLetsGo "callable_iterator.__next__" o _ >>= fun _ =>
          setField (.ref D) 0 .none >>= fun _ => setField (.ref D) 1 .none >>= fun _ => setField (.ref D) 2 (.bool true)) >>= fun _ => Builtin.SmallTypes.stopIteration) _ _ _
      refine wpAny_bind (wpAny_rule (wpAny_bind (wpAny_bind ?_)))
      refine wpAny_field hD1 rfl (x := .ref q) rfl ?_
      unfold slotLetsGo
      refine wpAny_bind ?_
      show wpAny _ _ (borrowsExactly (.ref q) >>= _) _ _ _
      refine wpAny_bind (fn_borrows hq1' hf1 ?_)
      refine wpAny_pure ?_
      have e1 : Obj.mapFields (·.setIfInBounds 0 Value.none) (ciO q t false) = { cls := .type "callable_iterator", data := .fields #[.none, .str (ofString "") t, .bool false] } := rfl
      have e2 : Obj.mapFields (·.setIfInBounds 1 Value.none) { cls := .type "callable_iterator", data := .fields #[.none, .str (ofString "") t, .bool false] } = { cls := .type "callable_iterator", data := .fields #[.none, .none, .bool false] } := rfl
      have e3 : Obj.mapFields (·.setIfInBounds 2 (Value.bool true)) { cls := .type "callable_iterator", data := .fields #[.none, .none, .bool false] } = ciE := rfl
      have N2 := news_upd (f := Obj.mapFields (·.setIfInBounds 0 Value.none)) N1 ne rfl
      have F2 := fr_upd (f := Obj.mapFields (·.setIfInBounds 0 Value.none)) (o := ciE) F1 nL n0
      rw [e1] at N2
      have N3 := news_upd (f := Obj.mapFields (·.setIfInBounds 1 Value.none)) N2 ne rfl
      have F3 := fr_upd (f := Obj.mapFields (·.setIfInBounds 1 Value.none)) (o := ciE) F2 nL n0
      rw [e2] at N3
      have N4 := news_upd (f := Obj.mapFields (·.setIfInBounds 2 (Value.bool true))) N3 ne rfl
      have F4 := fr_upd (f := Obj.mapFields (·.setIfInBounds 2 (Value.bool true))) (o := ciE) F3 nL n0
      rw [e3] at N4
      refine wpAny_bind (wpAny_setField hD1 rfl (by show 0 < 3; decide) ?_)
      refine wpAny_bind (wpAny_setField (N2 _ (List.Mem.head _)).1 rfl (by show 1 < 3; decide) ?_)
      refine wpAny_setField (N3 _ (List.Mem.head _)).1 rfl (by show 2 < 3; decide) ?_
      generalize ((h1.update D (Obj.mapFields (·.setIfInBounds 0 Value.none))).update D (Obj.mapFields (·.setIfInBounds 1 Value.none))).update D (Obj.mapFields (·.setIfInBounds 2 (Value.bool true))) = h4 at *
      show wpAny _ _ (newExc (.type "StopIteration") [] >>= _) _ _ _
      refine wpAny_bind ?_
      simp only [newExc, newTuple]
      refine wpAny_bind (wpAny_newObj_type ?_ (by size_fits))
      refine wpAny_bind (m := firstArgMember _ _) (wpAny_of_eq (a := Value.none) (by first | rfl | (simp only [firstArgMember]; rfl)) ?_)
      refine wpAny_newObj_type ?_ (by size_fits)
      simp only [raiseNew]
      refine wpAny_bind (wpAny_handled ?_)
      rw [show A.in1.handled = none from hh]
      refine wpAny_bind (wpAny_pure (wpAny_throw ?_))
      refine wpAny_bind (wpAny_isInstance (T := "StopIteration") (b := true) ⟨_, Heap.get?_push_size _ rfl, rfl⟩ isSubtype_stop ?_)
      exact wpAny_pure (hQ _ _ ((F4.push _).push _) ((N4.pushKeep _).pushKeep _))
  | _ => exact hr.elim
theorem ci_ended {D L : Addr} {h₀ : Heap} {m : Str → Option Value} {news : List (Addr × Obj)} {Q : Option Value → Shared → Prop} (hh : A.handled = none) (F : Fr h₀ L s.heap m) (N : News h₀ L s.heap news)
    (hD : s.heap.get? D = some ciE) (hQ : ∀ h2, Fr h₀ L h2 m → News h₀ L h2 news → Q none { s with heap := h2 }) : wpAny (model prog w) A (pyNext (.ref D)) Q E s := by
  have hT : s.TypeIs (.ref D) "callable_iterator" := ⟨_, hD, rfl⟩
  unfold pyNext
  refine wpAny_bind (wpAny_attempt (wpAny_callSpecial?_slot (name := ofString "__next__") hT slot_ci_next
    (wpAny_call_entry slot_ci_next hT entry_ci_next ?_ (args_ci_next _))))
  show wpAny _ _ (field (.ref D) 2 >>= _) _ _ s
  refine wpAny_bind (wpAny_field hD rfl (x := .bool true) rfl ?_)
  refine wpAny_bind (wpAny_rule ?_)
  show wpAny _ _ ((newExc (.type "StopIteration") [] >>= _) >>= _) _ _ _
  refine wpAny_bind (wpAny_bind ?_)
  simp only [newExc, newTuple]
  refine wpAny_bind (wpAny_newObj_type ?_ (by size_fits))
  refine wpAny_bind (m := firstArgMember _ _) (wpAny_of_eq (a := Value.none) (by first | rfl | (simp only [firstArgMember]; rfl)) ?_)
  refine wpAny_newObj_type ?_ (by size_fits)
  simp only [raiseNew]
  refine wpAny_bind (wpAny_handled ?_)
  rw [show A.in1.handled = none from hh]
  refine wpAny_bind (wpAny_pure (wpAny_throw ?_))
  refine wpAny_bind (wpAny_isInstance (T := "StopIteration") (b := true) ⟨_, Heap.get?_push_size _ rfl, rfl⟩ isSubtype_stop ?_)
  exact wpAny_pure (hQ _ ((F.push _).push _) ((N.pushKeep _).pushKeep _))
end
end
section
theorem isFuncK {K : Frag} {h : Heap} {f : Addr} (X : K.In h) (e : (K.lookup f).any (fun o => match o.data with | .func _ => true | _ => false) = true) : IsFunc h f := by
  cases hk : K.lookup f with
  | none => rw [hk] at e; cases e
  | some o =>
    rw [hk] at e
    obtain ⟨c, dd, dat, sl⟩ := o
    cases dat with
    | func fd => exact ⟨_, fd, X _ _ hk, rfl⟩
    | _ => cases e
theorem ne_tt {o o' : Obj} {x y : String} (h : o.cls = .type x) (h' : o'.cls = .type y) (hn : x ≠ y) : o ≠ o' := fun e => by
  rw [e, h'] at h; injection h with h; exact hn h.symm
theorem ne_rt {o o' : Obj} {x : Addr} {y : String} (h : o.cls = .ref x) (h' : o'.cls = .type y) : o ≠ o' := fun e => by
  rw [e, h'] at h; cases h
theorem s_noNe (c : Nat) : tx [c] ≠ ofString "" := by
  rw [s_no]; intro e; have := tx_inj e; cases this
theorem nx_ch (w : World) (mean : ExcName → Option Value) (mg mb : Str → Option Value)
    (dp un : Nat) (gd : Option (List Code)) (cn : Str) (cs : Scope) (a : Addr) (ccd : Value) (cl : List (Str × Addr)) (outer : List Env) (A₀ : Around) (base h₀ : Heap) (L : Addr) (m : Str → Option Value) (s : Shared) (Q : Option Value → Shared → Prop) (E : Value → Shared → Prop) (nx nd io d pb ci q : Addr) (tq : Tok) (rest : List (Addr × Obj)) (k0 k1 k2 k3 v2 : Tok) (t1 t2 t3 u2 : Tok) (nl : Value) (l : List Nat) (post : List Nat) (pos c : Nat) (ln : Int) (tl u3 : Tok)
    (B : Below A₀ base outer h₀) (F : Fr h₀ L s.heap m) (X : (Mine.K w.params).In h₀) (T : Top Mine.q (looseW Mine.q Mine.loose) mean mg mb h₀) (hk : cs.kind = .function)
    (N : News h₀ L s.heap ((nd, dictOf (nlD w.params k0 k1 k2 k3 v2 io pb (ln) tl) 4) :: (nx, instObj 77 nd) :: (d, dictOf (ioD w.params t1 t2 t3 u2 u3 nl (tx l) (pos)) 3) :: (io, instObj 629 d) :: (ci, ciO q tq false) :: (q, methodObj (.ref 60) (.ref nx)) :: rest)) (n1 : @Ne Nat nx nd) (n2 : @Ne Nat d nd) (n3 : @Ne Nat io nd) (n4 : @Ne Nat nx d) (n5 : @Ne Nat io d) (r1 : ∀ p ∈ rest, p.1 ≠ nd) (r2 : ∀ p ∈ rest, p.1 ≠ d) (rc : ∀ p ∈ rest, p.1 ≠ ci)
    (hdp : dp + 8 < recursionLimit) (hun : un + 66 < cLine) (hlen : l.length < 100000)
    (hd : l.drop pos = c :: post) (hln : 0 ≤ ln ∧ ln ≤ 1000000 + pos)
    (hret : ∀ t u3' (ln' : Int) tl' h' tk', ln' = (if c == 10 then ln + 1 else ln) → Fr h₀ L h' m → News h₀ L h' ((nd, dictOf (nlD w.params k0 k1 k2 k3 v2 io pb (ln') tl') 4) :: (nx, instObj 77 nd) :: (d, dictOf (ioD w.params t1 t2 t3 u2 u3' nl (tx l) (((pos + 1 : Nat) : Int))) 3) :: (io, instObj 629 d) :: (ci, ciO q tq false) :: (q, methodObj (.ref 60) (.ref nx)) :: rest) → Q (some (.str (tx [c]) t)) { s with heap := h', toks := tk' }) :
    wpAny (model rw_oy0313_02.row.prog w) (ktrTop dp un gd cn cs L a ccd cl outer) (pyNext (.ref ci)) Q E s := by
  have hD := N (ci, ciO q tq false) (.tail _ (.tail _ (.tail _ (.tail _ (.head _)))))
  have hq := N (q, methodObj (.ref 60) (.ref nx)) (.tail _ (.tail _ (.tail _ (.tail _ (.tail _ (.head _))))))
  have c1 : @Ne Nat ci nd := news_ne N (.tail _ (.tail _ (.tail _ (.tail _ (.head _))))) (.head _) (ne_tt rfl rfl (by decide))
  have c2 : @Ne Nat ci d := news_ne N (.tail _ (.tail _ (.tail _ (.tail _ (.head _))))) (.tail _ (.tail _ (.head _))) (ne_tt rfl rfl (by decide))
  have q1 : @Ne Nat q nd := news_ne N (.tail _ (.tail _ (.tail _ (.tail _ (.tail _ (.head _)))))) (.head _) (ne_tt rfl rfl (by decide))
  have q2 : @Ne Nat q d := news_ne N (.tail _ (.tail _ (.tail _ (.tail _ (.tail _ (.head _)))))) (.tail _ (.tail _ (.head _))) (ne_tt rfl rfl (by decide))
  refine ci_next (h₀ := h₀) (L := L) (m := m) (f := 60) (x := nx) rfl hD.1 hq.1 (isFuncK (X.keeps F.keep) (by kernel_rfl)) ?_
  refine codeAny_mono (c_rchK w mean mg mb dp (un + 1) gd cn cs a ccd cl outer A₀ base h₀ L m s (fun v s' => CiPost s h₀ L ci q 60 nx tq m Q v s') (fun _ _ => False) nx nd io d pb ((ci, ciO q tq false) :: (q, methodObj (.ref 60) (.ref nx)) :: rest) k0 k1 k2 k3 v2 t1 t2 t3 u2 u3 nl l post pos c ln tl (tx [c]) (c == 10) B F X T hk N n1 n2 n3 n4 n5 ?_ ?_ hdp (by omega) hlen hd rfl (facts_of rfl).nl hln ?_) ?_
  · intro p hp
    rcases List.mem_cons.mp hp with rfl | hp
    · exact c1
    · rcases List.mem_cons.mp hp with rfl | hp
      · exact q1
      · exact r1 p hp
  · intro p hp
    rcases List.mem_cons.mp hp with rfl | hp
    · exact c2
    · rcases List.mem_cons.mp hp with rfl | hp
      · exact q2
      · exact r2 p hp
  · intro t u3' ln' tl' h' tk' hl' F' N'
    exact .inl ⟨_, t, rfl, s_noNe c, (N' _ (.tail _ (.tail _ (.tail _ (.tail _ (.head _)))))).1, hret t u3' ln' tl' h' tk' hl' F' N'⟩
  · intro r s' hr
    exact hr
theorem nx_end : ∀ (w : World) (mean : ExcName → Option Value) (mg mb : Str → Option Value)
    (dp un : Nat) (gd : Option (List Code)) (cn : Str) (cs : Scope) (a : Addr) (ccd : Value) (cl : List (Str × Addr)) (outer : List Env) (A₀ : Around) (base h₀ : Heap) (L : Addr) (m : Str → Option Value) (s : Shared) (Q : Option Value → Shared → Prop) (E : Value → Shared → Prop) (nx nd io d pb ci q : Addr) (tq : Tok) (rest : List (Addr × Obj)) (k0 k1 k2 k3 v2 : Tok) (t1 t2 t3 u2 : Tok) (nl : Value) (l : List Nat) (pos : Nat) (ln : Int) (tl u3 : Tok)
    (B : Below A₀ base outer h₀) (F : Fr h₀ L s.heap m) (X : (Mine.K w.params).In h₀) (T : Top Mine.q (looseW Mine.q Mine.loose) mean mg mb h₀) (hk : cs.kind = .function)
    (N : News h₀ L s.heap ((nd, dictOf (nlD w.params k0 k1 k2 k3 v2 io pb (ln) tl) 4) :: (nx, instObj 77 nd) :: (d, dictOf (ioD w.params t1 t2 t3 u2 u3 nl (tx l) (pos)) 3) :: (io, instObj 629 d) :: (ci, ciO q tq false) :: (q, methodObj (.ref 60) (.ref nx)) :: rest)) (n1 : @Ne Nat nx nd) (n2 : @Ne Nat d nd) (n3 : @Ne Nat io nd) (n4 : @Ne Nat nx d) (n5 : @Ne Nat io d) (r1 : ∀ p ∈ rest, p.1 ≠ nd) (r2 : ∀ p ∈ rest, p.1 ≠ d) (rc : ∀ p ∈ rest, p.1 ≠ ci)
    (hdp : dp + 8 < recursionLimit) (hun : un + 66 < cLine) (hlen : l.length < 100000) (hpl : pos ≤ l.length)
    (hd : l.drop pos = [])
    (hret : ∀ h' tk', Fr h₀ L h' m → News h₀ L h' ((nd, dictOf (nlD w.params k0 k1 k2 k3 v2 io pb (ln) tl) 4) :: (nx, instObj 77 nd) :: (d, dictOf (ioD w.params t1 t2 t3 u2 u3 nl (tx l) (pos)) 3) :: (io, instObj 629 d) :: (ci, ciE) :: (q, methodObj (.ref 60) (.ref nx)) :: rest) → Q none { s with heap := h', toks := tk' }),
    wpAny (model rw_oy0313_02.row.prog w) (ktrTop dp un gd cn cs L a ccd cl outer) (pyNext (.ref ci)) Q E s := by
  refine hk40 (by repeat first | exact nW | exact nA | exact nS | apply nP | infer_instance) ((?f : ∀ w mean mg mb dp un gd cn cs a ccd cl outer A₀ base h₀ L m s Q E nx nd io d pb ci q tq rest k0 k1 k2 k3 v2 t1 t2 t3 u2 nl, Hd40 _ w mean mg mb dp un gd cn cs a ccd cl outer A₀ base h₀ L m s Q E nx nd io d pb ci q tq rest k0 k1 k2 k3 v2 t1 t2 t3 u2 nl) _ _ _ _ _ _ _ _ _ _ _ _ _ _ _ _ _ _ _ _ _ _ _ _ _ _ _ _ _ _ _ _ _ _ _ _ _ _ _ _)
  set_option tactic.hygienic false in (intros; intro l; intros)
  have mD : (ci, ciO q tq false) ∈ ((nd, dictOf (nlD w.params k0 k1 k2 k3 v2 io pb (ln) tl) 4) :: (nx, instObj 77 nd) :: (d, dictOf (ioD w.params t1 t2 t3 u2 u3 nl (tx l) (pos)) 3) :: (io, instObj 629 d) :: (ci, ciO q tq false) :: (q, methodObj (.ref 60) (.ref nx)) :: rest) := .tail _ (.tail _ (.tail _ (.tail _ (.head _))))
  have hD := N _ mD
  have hq := N (q, methodObj (.ref 60) (.ref nx)) (.tail _ (.tail _ (.tail _ (.tail _ (.tail _ (.head _))))))
  have c1 : @Ne Nat ci nd := news_ne N mD (.head _) (ne_tt rfl rfl (by decide))
  have c2 : @Ne Nat ci d := news_ne N mD (.tail _ (.tail _ (.head _))) (ne_tt rfl rfl (by decide))
  have q1 : @Ne Nat q nd := news_ne N (.tail _ (.tail _ (.tail _ (.tail _ (.tail _ (.head _)))))) (.head _) (ne_tt rfl rfl (by decide))
  have q2 : @Ne Nat q d := news_ne N (.tail _ (.tail _ (.tail _ (.tail _ (.tail _ (.head _)))))) (.tail _ (.tail _ (.head _))) (ne_tt rfl rfl (by decide))
  have c3 : @Ne Nat nx ci := news_ne N (.tail _ (.head _)) mD (ne_rt rfl rfl)
  have c4 : @Ne Nat io ci := news_ne N (.tail _ (.tail _ (.tail _ (.head _)))) mD (ne_rt rfl rfl)
  have c5 : @Ne Nat q ci := news_ne N (.tail _ (.tail _ (.tail _ (.tail _ (.tail _ (.head _)))))) mD (ne_tt rfl rfl (by decide))
  refine ci_next (h₀ := h₀) (L := L) (m := m) (f := 60) (x := nx) rfl hD.1 hq.1 (isFuncK (X.keeps F.keep) (by kernel_rfl)) ?_
  refine codeAny_mono (c_rchNK w mean mg mb dp (un + 1) gd cn cs a ccd cl outer A₀ base h₀ L m s (fun v s' => CiPost s h₀ L ci q 60 nx tq m Q v s') (fun _ _ => False) nx nd io d pb ((ci, ciO q tq false) :: (q, methodObj (.ref 60) (.ref nx)) :: rest) k0 k1 k2 k3 v2 t1 t2 t3 u2 u3 nl l pos ln tl B F X T hk N n1 n2 n3 n4 n5 ?_ ?_ hdp (by omega) hlen hpl hd ?_) ?_
  · intro p hp
    rcases List.mem_cons.mp hp with rfl | hp
    · exact c1
    · rcases List.mem_cons.mp hp with rfl | hp
      · exact q1
      · exact r1 p hp
  · intro p hp
    rcases List.mem_cons.mp hp with rfl | hp
    · exact c2
    · rcases List.mem_cons.mp hp with rfl | hp
      · exact q2
      · exact r2 p hp
  · intro t h' tk' F' N'
    refine .inr ⟨t, h', tk', (nd, dictOf (nlD w.params k0 k1 k2 k3 v2 io pb ln tl) 4) :: (nx, instObj 77 nd) :: (d, dictOf (ioD w.params t1 t2 t3 u2 u3 nl (tx l) pos) 3) :: (io, instObj 629 d) :: (q, methodObj (.ref 60) (.ref nx)) :: rest, rfl, rfl, F', ?_, ?_, ?_, isFuncK (X.keeps F'.keep) (by kernel_rfl), ?_⟩
    · exact news_pick (pre := [_, _, _, _, _, _]) [4, 0, 1, 2, 3, 5] rfl N'
    · intro p hp
      simp only [List.mem_cons] at hp
      rcases hp with rfl | rfl | rfl | rfl | rfl | hp
      · exact Ne.symm c1
      · exact c3
      · exact Ne.symm c2
      · exact c4
      · exact c5
      · exact rc p hp
    · exact .tail _ (.tail _ (.tail _ (.tail _ (.head _))))
    · intro h2 tk2 F2 N2
      exact hret h2 tk2 F2 (news_pick (pre := [_, _, _, _, _, _]) [1, 2, 3, 4, 0, 5] rfl N2)
  · intro r s' hr
    exact hr
end
section
section
variable {prog : Program} {w : World} {A : Around} {E : Value → Shared → Prop} {s : Shared} {h₀ : Heap} {L : Addr} {m : Str → Option Value} {env : Env}
theorem str_st {I : Addr} {ty : String} {x : Str} {t : Tok} : ∀ i (h h' : Heap) (o : Obj) (nw : List (Addr × Obj)), h.IsStrIter I ty x t i → h.get? I = some o → h'.get? I = some o → (∀ b o, h₀.get? b = some o → h'.get? b = some o) → News h₀ L h' nw → True → h'.IsStrIter I ty x t i :=
  fun i h h' o nw st e e' _ _ _ => by
    obtain ⟨o', q, r⟩ := st
    rw [e] at q; cases q
    exact ⟨o, e', r⟩
def SrcT (prog : Program) (w : World) (A : Around) (h₀ : Heap) (L : Addr) (m : Str → Option Value) (env : Env) (elt : PySem.Expr) (x : Str) (scope : Scope) (cl : List (Str × Addr)) (Fin : Shared → List Value → List (Addr × Obj) → Prop) (xv : Value) (s₁ : Shared) : Prop :=
  ∃ X t news, xv = .str X t ∧ A.handled = none ∧ Fr h₀ L s₁.heap m ∧ News h₀ L s₁.heap news ∧ X.cps.size ≤ sizeLine ∧
    ∀ s₂ : Shared, (∃ h, s₂ = { s₁ with heap := h }) → LCg.CompRest prog w A h₀ L m env elt x scope cl s₂ (fun _ => True) (SignAt X) (Fin s₂) X.cps.size 0 [] news
theorem Assign_ListComp_S {elt iter : PySem.Expr} {x y : Str} {px py : Pos} {scope : Scope} {cl : List (Str × Addr)} {pos spos : Pos} {Q : Flow → Shared → Prop} (_F₀ : Fr h₀ L s.heap m) (hLe : env.locals = L)
    (hsw : swapsWith (.ListComp elt [⟨.Name x px, iter, [], 0⟩] scope pos) (some (.Name y py)) spos.line env = pure true)
    (hclos : closureFor scope env = pure cl) (hcell : ∀ z ∈ scope.names, z.2 ≠ .cell) (hkind : scope.kind = .function)
    (hnames : ∀ z ∈ scope.names, z.2 = .local → scope.names.lookup z.1 = some .local) (hx : scope.names.lookup x = some .local)
    (hy : env.kindOf y = some .local) (hp : (env.scope.kind == .class || (env.scope.kind == .module && env.locals != env.globals)) = false)
    (h : wpAny (model prog w) A (eval iter env) (SrcT prog w A h₀ L m env elt x scope cl (fun s₂ => LCg.FinA h₀ L m s₂ y Q)) E s)
    (hs : ∀ x, foldedSetIterable iter env x = pure x := by intro _; rfl) :
    wpAny (model prog w) A (exec (.Assign [.Name y py] (.ListComp elt [⟨.Name x px, iter, [], 0⟩] scope pos) spos) env) Q E s := by
  subst hLe
  rw [exec_Assign_Name_used _ _ _ _ hsw]
  refine wpAny_bind (wpAny_standAt (wpAny_bind ?_))
  show wpAny _ A (do let _ ← comprehension (.ListComp elt [⟨.Name x px, iter, [], 0⟩] scope pos) scope env _ (newList []) false (eval iter env) (some (assign (.Name y py) env))) _ _ s
  refine wpAny_bind (wpAny_mono (wpAny_comprehension_free (use := some (assign (.Name y py) env)) (Q := fun _ s' => Q .next s') rfl hs hclos hkind hnames
    (wpAny_mono h (fun xv s₁ h₁ => ?_) fun _ _ e => e)) (fun _ s' hq => wpAny_pure (wpAny_pure hq)) fun _ _ e => e)
  obtain ⟨X, t, news, rfl, hh, F, N, hsz, R⟩ := h₁
  have fin : ∀ (I : Addr) (h2 : Heap) D C h' tk m' ys news', Fr h₀ env.locals h' m → News h₀ env.locals h' ((D, LCg.lst ys) :: news') → LCg.Off1 D news' → h'.Ns C m' → h₀.get? C = none → h₀.get? D = none → C ≠ env.locals → D ≠ env.locals → C ≠ D → (∀ p ∈ news', p.1 ≠ C) →
      LCg.FinA h₀ env.locals m { s₁ with heap := h2 } y Q ys news' → compPost (model prog w) A E (some (assign (.Name y py) env)) (fun _ s' => Q .next s') (.ref D) C (.ok .next) { s₁ with heap := h', toks := tk } := by
    intro I h2 D C h' tk m' ys news' F' N' o1 hn hC₀ hD₀ hCL hDL hCD offC fin
    show wpAny _ A (assign (.Name y py) env (.ref D)) _ _ _
    refine wpAny_assign_Name (wpAny_storeName_local hy F'.ns (fun h₂ hn₂ hs₂ => ?_) hp)
    have hL₀ : h₀.get? env.locals = none := Heap.get?_none_of_le F'.above
    have F₂ : Fr h₀ env.locals h₂ (fun z => if z = y then some (.ref D) else m z) := ⟨hn₂, fun b o e => hs₂.extBut b o (fun q => by rw [q, hL₀] at e; cases e) (F'.keep b o e), F'.above⟩
    refine ⟨m', hn.sameBut hs₂ hCL, fun h'' hs'' => fin D h'' _ (F₂.change hs'' hCL hC₀) (fun p hp => ?_) o1⟩
    have z : h₂.get? p.1 = some p.2 := hs₂.extBut _ _ (N' p hp).2.1 (N' p hp).1
    refine ⟨hs''.extBut _ _ ?_ z, (N' p hp).2⟩
    rcases List.mem_cons.mp hp with rfl | hp
    · exact Ne.symm hCD
    · exact offC p hp
  have up : ∀ (o : Obj) b o', s₁.heap.get? b = some o' → (s₁.heap.push o).get? b = some o' := fun o b o' e => Heap.get?_push_of_some _ e
  cases ha : X.cps.all (· < 128)
  · refine wpAny_pyIter_wide ha ?_
    refine LCg.block_U (Walks.strWide hh s₁.heap.objs.size X t) hsz (fun i h st => by obtain ⟨o, e, _⟩ := st; exact ⟨o, e⟩) str_st hcell hkind hx ⟨_, Heap.get?_push_size _ rfl, rfl, rfl⟩ (fun b hb => ?_)
      (F.keeps (up _)) (N.grown (up _)) (Nat.ne_of_lt F.ns.lt) (next_is_new F) (fun p hp => Nat.ne_of_lt (Heap.lt_size (N p hp).1)) trivial (R _ ⟨_, rfl⟩) (fin s₁.heap.objs.size _)
    rw [List.mem_singleton.mp hb]
    show s₁.heap.objs.size < (s₁.heap.push _).objs.size
    rw [Heap.size_push]; exact Nat.lt_succ_self _
  · refine wpAny_pyIter_ascii ha ?_
    refine LCg.block_U (Walks.strAscii hh s₁.heap.objs.size X t) hsz (fun i h st => by obtain ⟨o, e, _⟩ := st; exact ⟨o, e⟩) str_st hcell hkind hx ⟨_, Heap.get?_push_size _ rfl, rfl, rfl⟩ (fun b hb => ?_)
      (F.keeps (up _)) (N.grown (up _)) (Nat.ne_of_lt F.ns.lt) (next_is_new F) (fun p hp => Nat.ne_of_lt (Heap.lt_size (N p hp).1)) trivial (R _ ⟨_, rfl⟩) (fin s₁.heap.objs.size _)
    rw [List.mem_singleton.mp hb]
    show s₁.heap.objs.size < (s₁.heap.push _).objs.size
    rw [Heap.size_push]; exact Nat.lt_succ_self _
end
end
section
theorem news_updF {h₀ h : Heap} {L D : Addr} {o : Obj} {f : Obj → Obj} {news : List (Addr × Obj)} {g : Obj → List (Addr × Obj)} (N : News h₀ L h news) (U : UpdF D o news g) (hf : (f o).isFreed = false) : News h₀ L (h.update D f) (g (f o)) := by
  obtain ⟨pre, post, e1, e2, e3, e4⟩ := U.split
  subst e1
  rw [e2]
  have hm := N (D, o) (List.mem_append_right _ (.head _))
  intro p hp
  rcases List.mem_append.mp hp with q | q
  · have := N p (List.mem_append_left _ q)
    exact ⟨(Heap.get?_update_other _ _ (fun z : D = p.1 => e3 p q z.symm)).trans this.1, this.2⟩
  · rcases List.mem_cons.mp q with rfl | q
    · exact ⟨Heap.get?_update_self f hm.1 hf, hm.2⟩
    · have := N p (List.mem_append_right _ (.tail _ q))
      exact ⟨(Heap.get?_update_other _ _ (fun z : D = p.1 => e4 p q z.symm)).trans this.1, this.2⟩
theorem updF_mem {D : Addr} {o : Obj} {news : List (Addr × Obj)} {g : Obj → List (Addr × Obj)} (U : UpdF D o news g) : (D, o) ∈ news := by
  obtain ⟨pre, post, e1, e2, e3, e4⟩ := U.split
  rw [e1]; exact List.mem_append_right _ (.head _)
section
variable {prog : Program} {w : World} {A : Around} {E : Value → Shared → Prop} {s : Shared} {h₀ : Heap} {L D : Addr} {m : Str → Option Value} {news : List (Addr × Obj)} {g : Obj → List (Addr × Obj)} {vs : List Value} {x : Value} {c : Nat} {Q : Value → Shared → Prop}
theorem my_append (F : Fr h₀ L s.heap m) (N : News h₀ L s.heap news) (U : UpdF D (seqObj "list" vs.toArray c) news g) (hsz : vs.length < 400000)
    (h : ∀ h' c', Fr h₀ L h' m → News h₀ L h' (g (seqObj "list" (vs ++ [x]).toArray c')) → Q .none { s with heap := h' }) :
    wpAny (model prog w) A (call (.builtin "list.append") [.ref D, x]) Q E s := by
  have hm := N _ (updF_mem U)
  have hT : s.TypeIs (.ref D) "list" := ⟨_, hm.1, rfl⟩
  refine wpAny_call_entry slot_list_append hT entry_list_append ?_ (args_list_append _ _)
  show wpAny _ _ (updateSeq D (·.push x) >>= fun _ => ret .none) _ _ s
  have F2 := fr_upd (f := Obj.mapSeq (·.push x)) (o := seqObj "list" #[] 0) F hm.2.1 hm.2.2
  have N2 := news_updF (f := Obj.mapSeq (·.push x)) N U rfl
  have ec : ∃ c', Obj.mapSeq (·.push x) (seqObj "list" vs.toArray c) = seqObj "list" (vs ++ [x]).toArray c' := ⟨_, by
    have : vs.toArray.push x = (vs ++ [x]).toArray := by simp
    rw [← this]; rfl⟩
  obtain ⟨c', ec⟩ := ec
  rw [ec] at N2
  have big : (400000 : Nat) + 1 ≤ sizeLine := by decide
  refine wpAny_bind (wpAny_updateSeq hm.1 rfl (wpAny_pure ⟨.none, rfl, h _ c' F2 N2⟩) ?_ ?_)
  · simp; omega
  · simp; omega
end
end
section
section
variable {prog : Program} {w : World} {A : Around} {E : Value → Shared → Prop} {s : Shared} {h₀ : Heap} {L D : Addr} {m : Str → Option Value} {news : List (Addr × Obj)} {g : Obj → List (Addr × Obj)} {us : List Value} {x v : Value} {c : Nat} {t : Tok}
theorem last_ix (us : List Value) (x : Value) : (us ++ [x]).toArray[((-1 : Int) + (us ++ [x]).toArray.size).toNat]? = some x := by
  have : ((-1 : Int) + (us ++ [x]).toArray.size).toNat = us.length := by simp; omega
  rw [this]; simp
theorem my_getlast {Q : Value → Shared → Prop} (hm : s.heap.get? D = some (seqObj "list" (us ++ [x]).toArray c)) (h : Q x s) : wpAny (model prog w) A (getItem (.ref D) (.int (-1) t)) Q E s :=
  wpAny_getItem_list_neg ⟨_, hm, rfl, _, rfl⟩ (by decide) (by simp; omega) (by decide) (last_ix us x) h
theorem my_setlast {Q : Unit → Shared → Prop} (F : Fr h₀ L s.heap m) (N : News h₀ L s.heap news) (U : UpdF D (seqObj "list" (us ++ [x]).toArray c) news g)
    (h : ∀ h' c', Fr h₀ L h' m → News h₀ L h' (g (seqObj "list" (us ++ [v]).toArray c')) → Q () { s with heap := h' }) :
    wpAny (model prog w) A (setItem (.ref D) (.int (-1) t) v) Q E s := by
  have hm := N _ (updF_mem U)
  have hl : s.heap.IsList D (us ++ [x]).toArray := ⟨_, hm.1, rfl, _, rfl⟩
  have h0 : (-1 : Int) < 0 := by decide
  have h1 : -((us ++ [x]).toArray.size : Int) ≤ -1 := by simp; omega
  have hidx := seqIndex_neg h0 h1
  have hi : ((-1 : Int) + (us ++ [x]).toArray.size).toNat = us.length := by simp; omega
  rw [hi] at hidx
  unfold setItem
  try with_reducible refine wpAny_holding ?_
  first | refine wpAny_bind (wpAny_pure ?_) | skip
  refine wpAny_bind (wpAny_sequenceKey hl.typeIs (by decide) ?_)
  refine wpAny_bind (wpAny_callSpecial?_slot (name := ofString "__setitem__") hl.typeIs slot_list_setitem
    (wpAny_call_entry slot_list_setitem hl.typeIs entry_list_setitem ?_ (args_list_setitem _ _ _)))
  show wpAny _ _ (Builtin.List.listSubscript? (.int (-1) t) >>= _) _ _ s
  refine wpAny_bind (wpAny_listSubscript_int (fitsIndex_neg h0 (by decide)) ?_)
  show wpAny _ _ ((Builtin.List.listItems (.ref D) >>= fun xs => pure ((seqIndex? (-1) xs.size).bind fun i => xs[i]?.map (i, ·))) >>= _) _ _ s
  refine wpAny_bind (wpAny_bind ?_)
  show wpAny _ _ (seqItems? (.ref D) >>= _) _ _ s
  refine wpAny_bind (wpAny_seqItems hm.1 rfl (wpAny_pure (wpAny_pure ?_)))
  rw [hidx]
  have hx : (us ++ [x]).toArray[us.length]? = some x := by simp
  simp only [Option.bind_some, hx, Option.map_some]
  show wpAny _ _ (setSeqItemAt D us.length v >>= _) _ _ s
  have F2 := fr_upd (f := Obj.mapSeq (·.setIfInBounds us.length v)) (o := seqObj "list" #[] 0) F hm.2.1 hm.2.2
  have N2 := news_updF (f := Obj.mapSeq (·.setIfInBounds us.length v)) N U rfl
  have ec : ∃ c', Obj.mapSeq (·.setIfInBounds us.length v) (seqObj "list" (us ++ [x]).toArray c) = seqObj "list" (us ++ [v]).toArray c' := ⟨_, by
    have : (us ++ [x]).toArray.setIfInBounds us.length v = (us ++ [v]).toArray := by simp
    rw [← this]; rfl⟩
  obtain ⟨c', ec⟩ := ec
  rw [ec] at N2
  refine wpAny_bind (wpAny_setSeqItemAt hm.1 rfl ?_)
  first
    | exact wpAny_bind (wpAny_pure (wpAny_pure ⟨.none, rfl, wpAny_pure (h _ c' F2 N2)⟩))
    | exact wpAny_pure ⟨.none, rfl, wpAny_pure (h _ c' F2 N2)⟩
end
theorem sliceRange_nat (a b : Nat) : sliceRange (a : Int) (b : Int) 1 = (List.range (b - a)).map (a + ·) := by
  unfold sliceRange
  simp only [show (1 : Int) > 0 by decide, if_true]
  by_cases hab : (a : Int) < b
  · rw [if_pos hab]
    have : (((b : Int) - a + 1 - 1) / 1).toNat = b - a := by omega
    rw [this]
    refine List.map_congr_left fun k hk => ?_
    omega
  · rw [if_neg hab]
    have : b - a = 0 := by omega
    rw [this]; rfl
theorem range_getV (l : List Value) (a : Nat) : ∀ k, a + k ≤ l.length → ((List.range k).map (a + ·)).filterMap (l.toArray[·]?) = (l.drop a).take k
  | 0, _ => by simp
  | k + 1, h => by
    rw [List.range_succ, List.map_append, List.filterMap_append, range_getV l a k (by omega)]
    have hk : a + k < l.length := by omega
    simp only [List.map_cons, List.map_nil, List.filterMap_cons, List.filterMap_nil]
    rw [List.getElem?_toArray, List.getElem?_eq_getElem hk, List.take_add_one, List.getElem?_drop, List.getElem?_eq_getElem hk]
    rfl
theorem slice_pick (l : List Value) (lo hi : Option Int) (a b : Nat) (e : sliceBounds lo hi none l.length = ((a : Int), (b : Int), 1)) (hab : a ≤ b) (hb : b ≤ l.length) : (slicePick l.toArray lo hi none).toList = (l.drop a).take (b - a) := by
  unfold slicePick
  have : l.toArray.size = l.length := by simp
  rw [this, e, sliceRange_nat, range_getV l a (b - a) (by omega)]
theorem slice_lastA (us : List Value) (v : Value) : (slicePick (us ++ [v]).toArray (some (-1)) none none).toList = [v] := by
  have h1 : (us ++ [v]).length = us.length + 1 := by simp
  rw [slice_pick (us ++ [v]) (some (-1)) none us.length (us.length + 1) ?_ (by omega) (by omega)]
  · simp
  · rw [h1]
    unfold sliceBounds
    simp only [Option.getD_none, show (1 : Int) > 0 by decide, if_true, show (-1 : Int) < 0 by decide]
    refine Prod.ext ?_ (Prod.ext ?_ rfl)
    · show max (0 : Int) (min (-1 + ((us.length + 1 : Nat) : Int)) ((us.length + 1 : Nat) : Int)) = (us.length : Int)
      omega
    · rfl
theorem slice_last0 : (slicePick (#[] : Array Value) (some (-1)) none none).toList = [] := by kernel_rfl
/-- the slice of one place, if it is there -/
theorem slice_oneA (l : List Value) (k : Nat) : (slicePick l.toArray (some ((k : Int) + 1)) (some ((k : Int) + 2)) none).toList = (l.drop (k + 1)).take 1 := by
  by_cases hk : k + 1 < l.length
  · rw [slice_pick l _ _ (k + 1) (k + 2) ?_ (by omega) (by omega)]
    · simp
    · unfold sliceBounds
      simp only [Option.getD_none, show (1 : Int) > 0 by decide, if_true]
      refine Prod.ext ?_ (Prod.ext ?_ rfl)
      · show max (0 : Int) (min (if (k : Int) + 1 < 0 then (k : Int) + 1 + (l.length : Int) else (k : Int) + 1) (l.length : Int)) = ((k + 1 : Nat) : Int)
        rw [if_neg (by omega)]; omega
      · show max (0 : Int) (min (if (k : Int) + 2 < 0 then (k : Int) + 2 + (l.length : Int) else (k : Int) + 2) (l.length : Int)) = ((k + 2 : Nat) : Int)
        rw [if_neg (by omega)]; omega
  · rw [slice_pick l _ _ l.length l.length ?_ (by omega) (by omega)]
    · rw [List.drop_eq_nil_of_le (as := l) (i := k + 1) (by omega)]; simp
    · unfold sliceBounds
      simp only [Option.getD_none, show (1 : Int) > 0 by decide, if_true]
      refine Prod.ext ?_ (Prod.ext ?_ rfl)
      · show max (0 : Int) (min (if (k : Int) + 1 < 0 then (k : Int) + 1 + (l.length : Int) else (k : Int) + 1) (l.length : Int)) = ((l.length : Nat) : Int)
        rw [if_neg (by omega)]; omega
      · show max (0 : Int) (min (if (k : Int) + 2 < 0 then (k : Int) + 2 + (l.length : Int) else (k : Int) + 2) (l.length : Int)) = ((l.length : Nat) : Int)
        rw [if_neg (by omega)]; omega
theorem slice_takeA (l : List Value) (k : Nat) (hk : k ≤ l.length) : (slicePick l.toArray none (some (k : Int)) none).toList = l.take k := by
  rw [slice_pick l _ _ 0 k ?_ (by omega) hk]
  · simp
  · unfold sliceBounds
    simp only [Option.getD_none, show (1 : Int) > 0 by decide, if_true]
    refine Prod.ext rfl (Prod.ext ?_ rfl)
    show max (0 : Int) (min (if (k : Int) < 0 then (k : Int) + (l.length : Int) else (k : Int)) (l.length : Int)) = (k : Int)
    rw [if_neg (by omega)]; omega
end
section
section
variable {prog : Program} {w : World} {A : Around} {E : Value → Shared → Prop} {s : Shared} {h₀ : Heap} {L D : Addr} {news : List (Addr × Obj)} {vs : List Value} {c : Nat}
theorem my_len {Q : Value → Shared → Prop} (N : News h₀ L s.heap news) (hm : (D, seqObj "list" vs.toArray c) ∈ news) (hz : vs.length < 400000) (h : ∀ t k, Q (.int (vs.length : Nat) t) { s with toks := k }) :
    wpAny (model prog w) A (call (.builtin "len") [.ref D]) Q E s := by
  refine len_list ⟨_, (N _ hm).1, rfl, _, rfl⟩ ?_ ?_
  · have e : vs.toArray.size = vs.length := by simp
    rw [e]; exact Int.lt_of_lt_of_le (Int.ofNat_lt.mpr hz) (by decide)
  · have e : vs.toArray.size = vs.length := by simp
    rw [e]; exact h _ _
theorem my_item {Q : Value → Shared → Prop} {value slice : PySem.Expr} {k : Nat} {u : Tok} {x : Value} (N : News h₀ L s.heap news) (hm : (D, seqObj "list" vs.toArray c) ∈ news) (hz : vs.length < 400000) (hx : vs[k]? = some x) (h : Q x s)
    (hs : subscripted slice false (.ref D) (.int k u) = operate [.ref D, .int k u] (getItem (.ref D) (.int k u)) := by with_unfolding_all rfl) (hg : ∀ r, letTemporaryGo value (.ref D) r = pure () := by intro _; with_unfolding_all rfl) :
    wpAny (model prog w) A (subscriptTail value slice (.ref D) (.int k u)) Q E s := by
  have hk : k < vs.length := by
    rcases Nat.lt_or_ge k vs.length with q | q
    · exact q
    · rw [List.getElem?_eq_none q] at hx; cases hx
  exact item_list ⟨_, (N _ hm).1, rfl, _, rfl⟩ (Int.natCast_nonneg _) (Int.lt_of_lt_of_le (Int.ofNat_lt.mpr (Nat.lt_trans hk hz)) (by decide)) (by simpa using hx) h hs hg
end
end
section
def body (qs : List (Nat × Nat)) : List Nat := qs.flatMap fun p => List.replicate p.1 92 ++ [p.2]
def shQ (p : Nat × Nat) : Nat × Nat := (if p.2 = 34 then p.1 / 2 else (p.1 + 1) / 2, p.2)
def ntQ (p : Nat × Nat) : Nat × Nat := (p.1 / 2, p.2)
def runOk (p : Nat × Nat) : Prop := p.2 ≠ 92 ∧ (p.2 = 34 → p.1 % 2 = 1)
theorem rep_snoc (n : Nat) (tok r : List Nat) : tok ++ [92] ++ (List.replicate n 92 ++ r) = tok ++ (List.replicate (n + 1) 92 ++ r) := by
  rw [List.replicate_succ]; simp
theorem sh_run (c : Nat) (r : List Nat) (h : c ≠ 92) : ∀ (n : Nat) (q : Bool) (tok : List Nat), (c = 34 → n % 2 = 1) → shT (List.replicate n 92 ++ c :: r) 2 q tok = shT r 2 true (tok ++ (List.replicate (if c = 34 then n / 2 else (n + 1) / 2) 92 ++ [c]))
  | 0, q, tok, ho => by
    have h34 : c ≠ 34 := fun e => by have := ho e; omega
    simp [shT, h, h34]
  | 1, q, tok, ho => by
    show shT (92 :: c :: r) 2 q tok = _
    by_cases h34 : c = 34
    · subst h34; simp [shT]
    · simp [shT, h, h34]
  | n + 2, q, tok, ho => by
    rw [List.replicate_succ, List.replicate_succ]
    show shT (92 :: 92 :: (List.replicate n 92 ++ c :: r)) 2 q tok = _
    have e : shT (92 :: 92 :: (List.replicate n 92 ++ c :: r)) 2 q tok = shT (List.replicate n 92 ++ c :: r) 2 true (tok ++ [92]) := by simp [shT]
    rw [e, sh_run c r h n true (tok ++ [92]) (fun e => by have := ho e; omega), rep_snoc]
    congr 4
    by_cases h34 : c = 34
    · simp only [if_pos h34]; omega
    · simp only [if_neg h34]; omega
theorem sh_body : ∀ (qs : List (Nat × Nat)), (∀ p ∈ qs, runOk p) → ∀ (q : Bool) (tok : List Nat), shT (body qs ++ [34]) 2 q tok = some (some (tok ++ body (qs.map shQ)), [], true)
  | [], _, q, tok => by simp [body, shT, fin]
  | (n, c) :: qs, ho, q, tok => by
    have h0 := ho (n, c) (.head _)
    have e : body ((n, c) :: qs) ++ [34] = List.replicate n 92 ++ c :: (body qs ++ [34]) := by unfold body; simp
    rw [e, sh_run c _ h0.1 n q tok h0.2, sh_body qs (fun p hp => ho p (.tail _ hp))]
    unfold body shQ; simp
theorem sh_word (qs : List (Nat × Nat)) (ho : ∀ p ∈ qs, runOk p) : ShW 1 (34 :: (body qs ++ [34])) (some [body (qs.map shQ)]) := by
  refine .last (n := 0) ?_
  have e : shT (34 :: (body qs ++ [34])) 0 false [] = shT (body qs ++ [34]) 2 false [] := by simp [shT, ws]
  rw [e, sh_body qs ho]
  simp
theorem nt_run (c : Nat) (r : List Nat) (h : c ≠ 92) : ∀ (n : Nat) (tok : List Nat), (c = 34 → n % 2 = 1) → ntT (List.replicate n 92 ++ c :: r) 1 tok = ntT r 1 (tok ++ (List.replicate (n / 2) 92 ++ [c]))
  | 0, tok, ho => by
    have h34 : c ≠ 34 := fun e => by have := ho e; omega
    simp [ntT, h, h34]
  | 1, tok, ho => by
    show ntT (92 :: c :: r) 1 tok = _
    simp [ntT]
  | n + 2, tok, ho => by
    rw [List.replicate_succ, List.replicate_succ]
    show ntT (92 :: 92 :: (List.replicate n 92 ++ c :: r)) 1 tok = _
    have e : ntT (92 :: 92 :: (List.replicate n 92 ++ c :: r)) 1 tok = ntT (List.replicate n 92 ++ c :: r) 1 (tok ++ [92]) := by simp [ntT]
    rw [e, nt_run c r h n (tok ++ [92]) (fun e => by have := ho e; omega), rep_snoc]
    congr 4
    omega
theorem nt_body : ∀ (qs : List (Nat × Nat)), (∀ p ∈ qs, runOk p) → ∀ (tok : List Nat), ntT (body qs ++ [34]) 1 tok = (tok ++ body (qs.map ntQ), [])
  | [], _, tok => by simp [body, ntT]
  | (n, c) :: qs, ho, tok => by
    have h0 := ho (n, c) (.head _)
    have e : body ((n, c) :: qs) ++ [34] = List.replicate n 92 ++ c :: (body qs ++ [34]) := by unfold body; simp
    rw [e, nt_run c _ h0.1 n tok h0.2, nt_body qs (fun p hp => ho p (.tail _ hp))]
    unfold body ntQ; simp
theorem nt_word' (qs : List (Nat × Nat)) (ho : ∀ p ∈ qs, runOk p) : ntT (34 :: (body qs ++ [34])) 0 [] = (body (qs.map ntQ), []) := by
  have e : ntT (34 :: (body qs ++ [34])) 0 [] = ntT (body qs ++ [34]) 1 [] := by simp [ntT, ws]
  rw [e, nt_body qs ho]
  simp
end
section
def runQ (up i : Nat) (p : Nat × Nat) : Nat × Nat := ((p.1 + if p.2 == 34 then 0 else up) / 2 ^ i, p.2)
def partK (k : Nat) (p : Nat × Nat) : Prop := p.2 ≠ 92 ∧ (p.2 = 34 → ∃ m, 1 ≤ m ∧ p.1 + 1 = 2 ^ k * m)
theorem pred_div (b a : Nat) (hb : 1 ≤ b) (ha : 1 ≤ a) : (b * a - 1) / b = a - 1 := by
  obtain ⟨c, rfl⟩ : ∃ c, a = c + 1 := ⟨a - 1, by omega⟩
  have e : b * (c + 1) - 1 = (b - 1) + b * c := by rw [Nat.mul_add, Nat.mul_one]; omega
  rw [e, Nat.add_mul_div_left _ _ (by omega), Nat.div_eq_of_lt (by omega)]
  omega
theorem run_ok {k i up : Nat} {p : Nat × Nat} (hp : partK k p) (hi : i < k) : runOk (runQ up i p) := by
  refine ⟨hp.1, fun h => ?_⟩
  obtain ⟨m, hm, e⟩ := hp.2 h
  have h' : p.2 = 34 := h
  show (p.1 + if p.2 == 34 then 0 else up) / 2 ^ i % 2 = 1
  rw [if_pos (by rw [h']; rfl), Nat.add_zero]
  obtain ⟨j, rfl⟩ : ∃ j, k = i + 1 + j := ⟨k - (i + 1), by omega⟩
  have e2 : p.1 = 2 ^ i * (2 * (2 ^ j * m)) - 1 := by
    have : 2 ^ (i + 1 + j) * m = 2 ^ i * (2 * (2 ^ j * m)) := by rw [Nat.pow_add, Nat.pow_add, Nat.pow_one]; simp only [Nat.mul_assoc]
    omega
  have hj : 1 ≤ 2 ^ j * m := Nat.mul_pos (Nat.pow_pos (by decide)) hm
  rw [e2, pred_div _ _ (Nat.pow_pos (by decide)) (by omega)]
  omega
theorem sh_step (up i : Nat) (p : Nat × Nat) : shQ (runQ up i p) = runQ (up + 2 ^ i) (i + 1) p := by
  have h2 : 1 ≤ 2 ^ i := Nat.pow_pos (by decide)
  unfold shQ runQ
  refine Prod.ext ?_ rfl
  show (if p.2 = 34 then _ else _) = _
  by_cases h : p.2 = 34
  · rw [if_pos h, if_pos (by rw [h]; rfl), if_pos (by rw [h]; rfl), Nat.add_zero, Nat.div_div_eq_div_mul, ← Nat.pow_succ]
  · have hb : ¬ (p.2 == 34) = true := by simpa using h
    rw [if_neg h, if_neg hb, if_neg hb]
    rw [← Nat.add_assoc, Nat.pow_succ, ← Nat.div_div_eq_div_mul, Nat.add_div_right _ h2]
theorem nt_step (up i : Nat) (p : Nat × Nat) : ntQ (runQ up i p) = runQ up (i + 1) p := by
  unfold ntQ runQ
  refine Prod.ext ?_ rfl
  show (p.1 + _) / 2 ^ i / 2 = _
  rw [Nat.div_div_eq_div_mul, ← Nat.pow_succ]
theorem sh_reads {k i up : Nat} {ps : List (Nat × Nat)} (hp : ∀ p ∈ ps, partK k p) (hi : i < k) : ShW 1 (34 :: (body (ps.map (runQ up i)) ++ [34])) (some [body (ps.map (runQ (up + 2 ^ i) (i + 1)))]) := by
  have := sh_word (ps.map (runQ up i)) (fun q hq => by obtain ⟨p, hq2, rfl⟩ := List.mem_map.mp hq; exact run_ok (hp p hq2) hi)
  rw [List.map_map] at this
  rw [show (shQ ∘ runQ up i) = runQ (up + 2 ^ i) (i + 1) from funext fun p => sh_step up i p] at this
  exact this
theorem nt_reads {k i up : Nat} {ps : List (Nat × Nat)} (hp : ∀ p ∈ ps, partK k p) (hi : i < k) : ntT (34 :: (body (ps.map (runQ up i)) ++ [34])) 0 [] = (body (ps.map (runQ up (i + 1))), []) := by
  have := nt_word' (ps.map (runQ up i)) (fun q hq => by obtain ⟨p, hq2, rfl⟩ := List.mem_map.mp hq; exact run_ok (hp p hq2) hi)
  rw [List.map_map] at this
  rw [show (ntQ ∘ runQ up i) = runQ up (i + 1) from funext fun p => nt_step up i p] at this
  exact this
end
theorem ring3 : True := by first | walk1 | trivial
section
local macro_rules | `(tactic| walk_at "call builtin:object.__new__") => `(tactic| (k_here; k_dflt (refine' io_new ?F ?X ?N ?_; (case F => k_asm); (case X => k_asm); (case N => k_asm)); intro x' d' h' F' N' l1 l2; (try k_lt l1); (try k_lt2 l2); (try dsimp only); (try k_sweep)))
section
theorem of_allLt {d : Addr} : ∀ {l : List (Addr × Obj)}, AllLt d l → ∀ p ∈ l, p.1 < d
  | [], _, _, h => nomatch h
  | p :: r, ⟨a, b⟩, q, h => by
    rcases List.mem_cons.mp h with rfl | h
    · exact a
    · exact of_allLt b q h
theorem c_sio (w : World) (mean : ExcName → Option Value) (mg mb : Str → Option Value)
    (dp un : Nat) (gd : Option (List Code)) (cn : Str) (cs : Scope) (a : Addr) (ccd : Value) (cl : List (Str × Addr)) (outer : List Env) (A₀ : Around) (base h₀ : Heap) (L : Addr) (m : Str → Option Value) (s : Shared) (Q E : Value → Shared → Prop)
    (rest : List (Addr × Obj)) (l : List Nat) (t0 : Tok)
    (B : Below A₀ base outer h₀) (F : Fr h₀ L s.heap m) (X : (Mine.K w.params).In h₀) (T : Top Mine.q (looseW Mine.q Mine.loose) mean mg mb h₀) (hk : cs.kind = .function)
    (N : News h₀ L s.heap rest) (hdp : dp + 10 < recursionLimit) (hun : un + 72 < cLine) (hlen : (tx l).length < 100000)
    (hret : ∀ io d t1 t2 t3 u2 u3 u4 h' tk', Fr h₀ L h' m → News h₀ L h' ((d, dictOf (ioD w.params t1 t2 t3 u2 u3 (.str (ofString "\n") u4) (tx l) 0) 3) :: (io, instObj 629 d) :: rest) → (∀ p ∈ rest, p.1 < d) → d < io → Q (.ref io) { s with heap := h', toks := tk' }) :
    wpAny (model rw_oy0313_02.row.prog w) (ktrTop dp un gd cn cs L a ccd cl outer) (call (.ref 629) [.str (tx l) t0]) Q E s := by
  revert X; k_fill; intro X
  refine io_call F X ?_
  refine wpAny_call ?_
  k_dflt (refine' kp_both ?k1 ?k2 ?k3 ?k4 ?k5 ?kA ?kF ?kK ?k6 ?k7 ?k8 ?kV ?kX ?kQ ?kM ?kN ?kD ?kR ?kP ?kS ?kT ?kB ?_ ?c2 ?c3 ?c4 ?c5; (case kA => exact rfl); (case kF => exact rfl); (case kK => assumption); (case k1 => k_asm); (case k2 => k_asm); (case k3 => k_asm); (case k4 => k_asm); (case k5 => k_asm); (case k6 => k_is); (case k7 => k_is); (case k8 => ktr_room); (case kV => kp_lit); (case kX => kp_lit); (case kQ => exact rfl); (case kM => exact rfl); (case kN => exact rfl); (case kD => kp_flats); (case kR => exact rfl); (case kP => exact rfl); (case kS => exact fun _ => rfl); (case kT => exact fun _ _ => rfl); (case kB => exact fun _ _ => locs rfl); (case c5 => decide); (case c2 => exact rfl); (case c3 => exact rfl); (case c4 => exact rfl); k_whole; intro C' D' o' g' L' h' tk' l1 l2 lo' hs' fs' FG' F' N' B' X' T'; (try k_lt l1); (try k_lt2 l2); (try dsimp only); (try k_lift B'); (try k_fold))
  repeat' ktr_step
  rename News h₀ L _ _ => N5
  rename Fr h₀ L _ _ => F5
  k_dflt (refine' io_init (news := _) ?F ?X ?N ?h1 ?h2 ?_; (case F => exact F5); (case X => exact X); (case N => exact N5); (case h1 => k_mem); (case h2 => k_mem))
  rename (_ ∧ _ ∧ AllLt _ _) => hA
  rename (@LT.lt Nat _ _ _) => hB
  obtain ⟨hA1, hA2, hA3⟩ := hA
  k_dflt (refine' c_sinit w mean mg mb (dp + 1) (un + 1) gd cn cs a ccd cl outer A₀ base h₀ L m _ _ E rest l t0 _ _ B F5 X T hk ?N6 (by omega) (by omega) hlen ?h1 ?h2 ?_)
  (case N6 => exact fun p hp => N5 p (by rcases List.mem_cons.mp hp with rfl | hp; exact .head _; rcases List.mem_cons.mp hp with rfl | hp; exact .tail _ (.head _); exact .tail _ (.tail _ (.tail _ (.tail _ hp)))))
  (case h1 => exact Nat.ne_of_gt hB)
  (case h2 => exact fun p hp => Nat.ne_of_lt (of_allLt hA3 p hp))
  intro t1 t2 t3 u2 u3 u4 h6 tk6 F6 N6
  refine ⟨rfl, hret _ _ t1 t2 t3 u2 u3 u4 h6 tk6 F6 (fun p hp => N6 p (by simp only [List.mem_cons] at hp ⊢; rcases hp with h | h | h <;> simp [h])) (of_allLt hA3) hB⟩
end
end
theorem ring4 : True := by first | walk1 | trivial
section
local macro_rules | `(tactic| walk_at "call type:collections.deque") => `(tactic| (k_here; k_dflt (refine' dq_new ?F ?N ?_; (case F => k_asm); (case N => k_asm)); intro D' h' tk' F' N' l1; (try k_lt l1); (try k_sweep)))
section
theorem under_ty (A : Around) (C : Addr) (rest : List Value) (kw : List (Str × Value)) : A.under (.builtin "type.__call__" ⟨.ref C :: rest, kw⟩) = inC A := by
  obtain ⟨a, b, c, d, e⟩ := A
  have hw : (Code.builtin "type.__call__" ⟨.ref C :: rest, kw⟩).weight = 1 := by kernel_rfl
  have hu : (Code.builtin "type.__call__" ⟨.ref C :: rest, kw⟩).cUnits = 1 := by kernel_rfl
  have he : (Code.builtin "type.__call__" ⟨.ref C :: rest, kw⟩).envs = [] := by kernel_rfl
  have hg : (Code.builtin "type.__call__" ⟨.ref C :: rest, kw⟩).guards = [] := by kernel_rfl
  unfold Around.under inC
  rw [hw, hu, he, hg]
  cases c <;> cases d <;> rfl
local macro_rules | `(tactic| walk_at "call ref") => `(tactic| (k_here; (with_reducible show wpAny _ _ (call (Value.ref 629) [Value.str (tx _) _]) _ _ _); (try simp only [under_ty]); k_dflt (refine' c_sio _ _ _ _ _ _ _ _ _ _ _ _ _ _ _ _ _ _ _ _ _ _ _ _ ?k1 ?k2 ?k3 ?k4 ?k5 ?k6 ?kd ?ku ?kl ?_; (case k1 => k_asm); (case k2 => k_asm); (case k3 => k_asm); (case k4 => k_asm); (case k5 => first | exact rfl | assumption); (case k6 => k_asm); (case kd => ktr_room); (case ku => ktr_units); (case kl => assumption); k_whole; intro io d t1 t2 t3 u2 u3 u4 h9 tk9 F9 N9 l9 l8; (try k_lt l9); (try k_lt2 l8); (try dsimp only at N9); (try dsimp only))))
@[reducible] def lk (a0 a1 a2 a3 a4 a5 a6 a7 a8 a9 a10 a11 a12 a13 a14 a15 a16 a17 a18 : Tok) : Nat → Tok
  | 0 => a0 | 1 => a1 | 2 => a2 | 3 => a3 | 4 => a4 | 5 => a5 | 6 => a6 | 7 => a7 | 8 => a8 | 9 => a9 | 10 => a10 | 11 => a11 | 12 => a12 | 13 => a13 | 14 => a14 | 15 => a15 | 16 => a16 | 17 => a17 | _ => a18
theorem led_perm {h₀ h : Heap} {L : Addr} {a b c d e f : Addr × Obj} {r : List (Addr × Obj)} (N : News h₀ L h (a :: b :: c :: d :: e :: f :: r)) : News h₀ L h (f :: e :: c :: d :: b :: a :: r) := news_pick (pre := [a, b, c, d, e, f]) [5, 4, 2, 3, 1, 0] rfl N
theorem no_marks {wc : Str} (h1 : decide (39 ∈ wc.cps.toList) = false) (h2 : decide (34 ∈ wc.cps.toList) = false) : ∀ c, Txt.contains wc (tx [c]) = true → (c == 39 || c == 34) = false := by
  intro c h
  rw [cnt _ _ rfl] at h
  cases hc : (c == 39 || c == 34) with
  | false => rfl
  | true =>
    rcases (Bool.or_eq_true _ _).mp hc with e | e
    · rw [beq_iff_eq.mp e, h1] at h; cases h
    · rw [beq_iff_eq.mp e, h2] at h; cases h
theorem c_split : ∀ (w : World) (mean : ExcName → Option Value) (mg mb : Str → Option Value)
    (dp un : Nat) (gd : Option (List Code)) (cn : Str) (cs : Scope) (a : Addr) (ccd : Value) (cl : List (Str × Addr)) (outer : List Env) (A₀ : Around) (base h₀ : Heap) (L : Addr) (m : Str → Option Value) (s : Shared) (Q E : Value → Shared → Prop)
    (rest : List (Addr × Obj)) (l : List Nat) (tx0 : Tok)
    (B : Below A₀ base outer h₀) (F : Fr h₀ L s.heap m) (X : (Mine.K w.params).In h₀) (T : Top Mine.q (looseW Mine.q Mine.loose) mean mg mb h₀) (hk : cs.kind = .function)
    (N : News h₀ L s.heap rest) (XB : (Mine.K w.params).In base) (TB : Top Mine.q (looseW Mine.q Mine.loose) mean mg mb base) (D : KtsDicts (outer.filterMap (·.frame)) h₀) (hdp : dp + 24 < recursionLimit) (hun : un + 300 < cLine) (hlen : (tx l).length < 100000)
    (n : Nat) (o : Option (List (List Nat))) (hw : ShW n l o) (hn : n ≤ 100000)
    (hret : ∀ ws vs S c h' tk' h₀', o = some ws → KtsTurn (outer.filterMap (·.frame)) h₀ h₀' → Fr h₀' L h' m → News h₀' L h' ((S, seqObj "list" vs.toArray c) :: rest) → Below A₀ base outer h₀' → (Mine.K w.params).In h₀' → Top Mine.q (looseW Mine.q Mine.loose) mean mg mb h₀' → KtsDicts (outer.filterMap (·.frame)) h₀' → Wvs ws vs → vs.length ≤ 100000 → Q (.ref S) { s with heap := h', toks := tk' })
    (hraise : o = none → ∀ g₂ e t v h' tk', Fr h₀ L g₂ m → RaisedS base g₂ (envX cn cs L a ccd cl :: outer) e (.type "ValueError") t [v] [] h' → g₂.UpToSlots h' → E (.ref e) { s with heap := h', toks := tk' }),
    wpAny (model rw_oy0313_02.row.prog w) (ktrTop dp un gd cn cs L a ccd cl outer) (call (.ref 776) [.str (tx l) tx0]) Q E s := by
  refine hk23 (by repeat first | exact nW | exact nA | exact nS | apply nP | infer_instance) ((?f : ∀ w mean mg mb dp un gd cn cs a ccd cl outer A₀ base h₀ L m s Q E rest l, Hd23 _ w mean mg mb dp un gd cn cs a ccd cl outer A₀ base h₀ L m s Q E rest l) _ _ _ _ _ _ _ _ _ _ _ _ _ _ _ _ _ _ _ _ _ _ _)
  set_option tactic.hygienic false in (intros; intro tx0; intros)
  revert X; k_fill; intro X
  refine wpAny_call ?_
  k_dflt (refine' code_defSX ?k1 ?k2 ?k3 ?k4 ?k5 ?XB ?TB ?D ?T0 ?kA ?k6 ?k7 ?k8 ?k9 ?kB ?_ ?cK ?c2 ?c3 ?c4 ?c5; (case kA => exact rfl); (case k1 => k_asm); (case k2 => k_asm); (case XB => assumption); (case TB => assumption); (case D => assumption); (case T0 => exact KtsTurn.refl); (case k3 => k_asm); (case k4 => k_asm); (case k5 => k_asm); (case k6 => k_is); (case k7 => k_is); (case k8 => ktr_room); (case k9 => first | exact BindsTo.of_eq rfl | exact binds_K (by k_in) rfl (by k_is) rfl rfl rfl); (case kB => exact locs rfl); (case cK => assumption); (case c2 => exact rfl); (case c3 => exact rfl); (case c4 => exact rfl); (case c5 => decide); k_whole; intro g' L' h' FG' F' N' B' X' T' D'; (try dsimp only); (try k_lift B'); (try k_fold))
  repeat' ktr_step
  rename Fr g' L' _ _ => F8
  rename News g' L' _ _ => N8
  have N9 := led_perm N8
  rename (_ ∧ _ ∧ _ ∧ _ ∧ _ ∧ AllLt _ rest) => e1
  rename (_ ∧ _ ∧ _ ∧ _ ∧ AllLt _ rest) => e2
  rename (_ ∧ _ ∧ AllLt _ rest) => e3
  rename (∀ p ∈ rest, _) => e4
  have e5 := of_allLt e3.2.2
  have hl9 : l.length < 100000 := by rw [len_tx] at hlen; exact hlen
  k_dflt (refine' c_list w mean mg mb _ _ _ _ _ _ _ _ _ _ _ _ _ _ _ _ _ _ _ _ _ _ _ (lk ?a0 ?a1 ?a2 ?a3 ?a4 ?a5 ?a6 ?a7 ?a8 ?a9 ?a10 ?a11 ?a12 ?a13 ?a14 ?a15 ?a16 ?a17 ?a18) (lk 0 0 0 0 ?b4 ?b5 ?b6 0 ?b8 ?b9 ?b10 0 0 0 ?b14 0 0 0 ?b18) _ _ _ _ _ _ l 1 _ _ _ _ B' F8 X' T' rfl N9 ?n1 ?n2 ?n3 ?n4 ?n5 ?r1 ?r2 ?hpb ?hfs ?hd ?hu hl9 ?hln ?hwq n o hw hn ?_ ?_)
  (case n1 => exact Nat.ne_of_gt (by omega))
  (case n2 => exact Nat.ne_of_gt (by omega))
  (case n3 => exact Nat.ne_of_gt (by omega))
  (case n4 => exact Nat.ne_of_lt (by omega))
  (case n5 => exact Nat.ne_of_gt (by omega))
  (case r1 =>
    intro p hp
    rcases List.mem_cons.mp hp with rfl | hp
    · exact Nat.ne_of_gt (by dsimp only; omega)
    · rcases List.mem_cons.mp hp with rfl | hp
      · exact Nat.ne_of_gt (by dsimp only; omega)
      · exact Nat.ne_of_lt (e4 p hp))
  (case r2 =>
    intro p hp
    rcases List.mem_cons.mp hp with rfl | hp
    · exact Nat.ne_of_gt (by dsimp only; omega)
    · rcases List.mem_cons.mp hp with rfl | hp
      · exact Nat.ne_of_gt (by dsimp only; omega)
      · exact Nat.ne_of_lt (e5 p hp))
  (case hpb => exact .head _)
  (case hfs => exact .tail _ (.head _))
  (case hd => ktr_room)
  (case hu => ktr_units)
  (case hln => exact ⟨by decide, by decide⟩)
  (case hwq => exact no_marks (by kernel_rfl) (by kernel_rfl))
  · intro ws vs h6 tk6 g6 S c ho T6 F6 N6 B6 hv hvl
    have N7 : News g6 L' h6 ((S, seqObj "list" vs.toArray c) :: rest) := fun p hp => N6 p (by rcases List.mem_cons.mp hp with rfl | hp; exact .head _; exact .tail _ (.tail _ (.tail _ hp)))
    (first | (k_end; kc_close) | skip)
    exact leaveS_r F6 N7 T6 (fun h₀' kT kF kN kB kX kP kD => hret ws vs S c h6 _ h₀' ho kT kF kN kB kX kP kD hv hvl)
  · intro ho g₂ e t v h6 tk6 F6 R6 U6
    (first | (k_end; kc_close) | skip)
    exact leave_onS B' F6 R6 U6 (fun h7 R7 _ U7 => hraise ho g' e t v h7 _ FG' R7 U7)
end
end
section
local macro_rules | `(tactic| walk_at "compareOp In str str") => `(tactic| (refine' my_in ?mb ?_; (case mb => first | assumption | (refine (?_ : _ = true); kernel_rfl!) | (refine (?_ : _ = false); kernel_rfl!))))
local macro_rules | `(tactic| walk_at "compareOp Eq str str") => `(tactic| (refine' my_eq ?mb ?_; (case mb => first | assumption | (refine (?_ : _ = true); kernel_rfl!) | (refine (?_ : _ = false); kernel_rfl!))))
local macro_rules | `(tactic| walk_at "compareOp NotEq str str") => `(tactic| (refine' my_ne ?mb ?_; (case mb => first | assumption | (refine (?_ : _ = true); kernel_rfl!) | (refine (?_ : _ = false); kernel_rfl!))))
local macro_rules | `(tactic| walk_at "truthy str") => `(tactic| (refine' my_true ?ml ?mb ?_; (case ml => first | assumption | decide +kernel); (case mb => first | assumption | (refine (?_ : _ = true); kernel_rfl!) | (refine (?_ : _ = false); kernel_rfl!)); intro k9))
local macro_rules | `(tactic| walk_at "inplaceOp Add str str") => `(tactic| (refine' my_iadd ?mz ?ms ?_; (case mz => assumption); (case ms => assumption); intro t9 k9))
local macro_rules | `(tactic| walk_at "ite") => `(tactic| first | refine ite_tt ?_ | refine ite_ff ?_)
local macro_rules | `(tactic| walk_at "compareOp NotIn str str") => `(tactic| (refine' my_nin ?mb ?_; (case mb => assumption)))
local macro_rules | `(tactic| walk_at "call ref") => `(tactic| (k_here; (with_reducible show wpAny _ _ (call (Value.ref 575) [Value.ref _, Value.int 1 _]) _ _ _); k_dflt (first
  | (refine' c_readC ?k1 ?k2 ?k3 ?k4 ?k5 ?k6 ?k7 ?k8 ?kd ?ku ?kl ?kp ?kx ?_; (case k1 => k_asm); (case k2 => k_asm); (case k3 => k_asm); (case k4 => k_asm); (case k5 => first | exact rfl | assumption); (case k6 => k_asm); (case k7 => k_mem); (case k8 => k_updF); (case kd => ktr_room); (case ku => ktr_units); (case kl => assumption); (case kp => assumption); (case kx => assumption); k_whole; intro t9 u9 h9 tk9 F9 N9; (try dsimp only at N9); (try dsimp only))
  | (refine' c_readN ?k1 ?k2 ?k3 ?k4 ?k5 ?k6 ?k7 ?k8 ?kd ?ku ?kl ?kq ?kp ?_; (case k1 => k_asm); (case k2 => k_asm); (case k3 => k_asm); (case k4 => k_asm); (case k5 => first | exact rfl | assumption); (case k6 => k_asm); (case k7 => k_mem); (case k8 => k_updF); (case kd => ktr_room); (case ku => ktr_units); (case kl => assumption); (case kq => assumption); (case kp => assumption); k_whole; intro t9 h9 tk9 F9 N9; (try dsimp only at N9); (try dsimp only)))))
section
theorem rch_c {w : World} {mean : ExcName → Option Value} {mg mb : Str → Option Value}
    {dp un : Nat} {gd : Option (List Code)} {cn : Str} {cs : Scope} {a : Addr} {ccd : Value} {cl : List (Str × Addr)} {outer : List Env} {A₀ : Around} {base h₀ : Heap} {L : Addr} {m : Str → Option Value} {s : Shared} {Q E : Value → Shared → Prop} {nx nd io d pb ci q : Addr} {tq : Tok} {rest : List (Addr × Obj)} {k0 k1 k2 k3 v2 : Tok} {t1 t2 t3 u2 : Tok} {nl : Value} {l : List Nat} {post : List Nat} {pos c : Nat} {tl u3 : Tok}
    (B : Below A₀ base outer h₀) (F : Fr h₀ L s.heap m) (X : (Mine.K w.params).In h₀) (T : Top Mine.q (looseW Mine.q Mine.loose) mean mg mb h₀) (hk : cs.kind = .function)
    (N : News h₀ L s.heap ((nd, dictOf (nlD w.params k0 k1 k2 k3 v2 io pb (lnA l pos) tl) 4) :: (nx, instObj 77 nd) :: (d, dictOf (ioD w.params t1 t2 t3 u2 u3 nl (tx l) (pos)) 3) :: (io, instObj 629 d) :: (ci, ciO q tq false) :: (q, methodObj (.ref 60) (.ref nx)) :: rest)) (n1 : @Ne Nat nx nd) (n2 : @Ne Nat d nd) (n3 : @Ne Nat io nd) (n4 : @Ne Nat nx d) (n5 : @Ne Nat io d) (r1 : ∀ p ∈ rest, p.1 ≠ nd) (r2 : ∀ p ∈ rest, p.1 ≠ d) (rc : ∀ p ∈ rest, p.1 ≠ ci)
    (hdp : dp + 8 < recursionLimit) (hun : un + 64 < cLine) (hlen : l.length < 100000)
    (hd : l.drop pos = c :: post)
    (hret : ∀ t u3' tl' h' tk', Fr h₀ L h' m → News h₀ L h' ((nd, dictOf (nlD w.params k0 k1 k2 k3 v2 io pb (lnA l (pos+1)) tl') 4) :: (nx, instObj 77 nd) :: (d, dictOf (ioD w.params t1 t2 t3 u2 u3' nl (tx l) (((pos + 1 : Nat) : Int))) 3) :: (io, instObj 629 d) :: (ci, ciO q tq false) :: (q, methodObj (.ref 60) (.ref nx)) :: rest) → Q (.str (tx [c]) t) { s with heap := h', toks := tk' }) :
    wpAny (model rw_oy0313_02.row.prog w) (ktrTop dp un gd cn cs L a ccd cl outer) (call (.ref 60) [.ref nx]) Q E s := by
  have c1 : @Ne Nat ci nd := news_ne N (.tail _ (.tail _ (.tail _ (.tail _ (.head _))))) (.head _) (ne_tt rfl rfl (by decide))
  have c2 : @Ne Nat ci d := news_ne N (.tail _ (.tail _ (.tail _ (.tail _ (.head _))))) (.tail _ (.tail _ (.head _))) (ne_tt rfl rfl (by decide))
  have q1 : @Ne Nat q nd := news_ne N (.tail _ (.tail _ (.tail _ (.tail _ (.tail _ (.head _)))))) (.head _) (ne_tt rfl rfl (by decide))
  have q2 : @Ne Nat q d := news_ne N (.tail _ (.tail _ (.tail _ (.tail _ (.tail _ (.head _)))))) (.tail _ (.tail _ (.head _))) (ne_tt rfl rfl (by decide))
  refine wpAny_call (c_rchK w mean mg mb dp un gd cn cs a ccd cl outer A₀ base h₀ L m s Q E nx nd io d pb ((ci, ciO q tq false) :: (q, methodObj (.ref 60) (.ref nx)) :: rest) k0 k1 k2 k3 v2 t1 t2 t3 u2 u3 nl l post pos c _ tl (tx [c]) (c == 10) B F X T hk N n1 n2 n3 n4 n5 ?_ ?_ hdp hun hlen hd rfl (facts_of rfl).nl (lnA_ok l pos) ?_)
  · intro p hp
    rcases List.mem_cons.mp hp with rfl | hp
    · exact c1
    · rcases List.mem_cons.mp hp with rfl | hp
      · exact q1
      · exact r1 p hp
  · intro p hp
    rcases List.mem_cons.mp hp with rfl | hp
    · exact c2
    · rcases List.mem_cons.mp hp with rfl | hp
      · exact q2
      · exact r2 p hp
  · intro t u3' ln' tl' h' tk' hl' F' N'
    rw [hl', ← lnA_succ hd] at N'
    exact hret t u3' tl' h' tk' F' N'
theorem rch_e {w : World} {mean : ExcName → Option Value} {mg mb : Str → Option Value}
    {dp un : Nat} {gd : Option (List Code)} {cn : Str} {cs : Scope} {a : Addr} {ccd : Value} {cl : List (Str × Addr)} {outer : List Env} {A₀ : Around} {base h₀ : Heap} {L : Addr} {m : Str → Option Value} {s : Shared} {Q E : Value → Shared → Prop} {nx nd io d pb ci q : Addr} {tq : Tok} {rest : List (Addr × Obj)} {k0 k1 k2 k3 v2 : Tok} {t1 t2 t3 u2 : Tok} {nl : Value} {l : List Nat} {pos : Nat} {tl u3 : Tok}
    (B : Below A₀ base outer h₀) (F : Fr h₀ L s.heap m) (X : (Mine.K w.params).In h₀) (T : Top Mine.q (looseW Mine.q Mine.loose) mean mg mb h₀) (hk : cs.kind = .function)
    (N : News h₀ L s.heap ((nd, dictOf (nlD w.params k0 k1 k2 k3 v2 io pb (lnA l pos) tl) 4) :: (nx, instObj 77 nd) :: (d, dictOf (ioD w.params t1 t2 t3 u2 u3 nl (tx l) (pos)) 3) :: (io, instObj 629 d) :: (ci, ciO q tq false) :: (q, methodObj (.ref 60) (.ref nx)) :: rest)) (n1 : @Ne Nat nx nd) (n2 : @Ne Nat d nd) (n3 : @Ne Nat io nd) (n4 : @Ne Nat nx d) (n5 : @Ne Nat io d) (r1 : ∀ p ∈ rest, p.1 ≠ nd) (r2 : ∀ p ∈ rest, p.1 ≠ d) (rc : ∀ p ∈ rest, p.1 ≠ ci)
    (hdp : dp + 8 < recursionLimit) (hun : un + 64 < cLine) (hlen : l.length < 100000) (hpl : pos ≤ l.length)
    (hd : l.drop pos = [])
    (hret : ∀ t h' tk', Fr h₀ L h' m → News h₀ L h' ((nd, dictOf (nlD w.params k0 k1 k2 k3 v2 io pb (lnA l pos) tl) 4) :: (nx, instObj 77 nd) :: (d, dictOf (ioD w.params t1 t2 t3 u2 u3 nl (tx l) (pos)) 3) :: (io, instObj 629 d) :: (ci, ciO q tq false) :: (q, methodObj (.ref 60) (.ref nx)) :: rest) → Q (.str (ofString "") t) { s with heap := h', toks := tk' }) :
    wpAny (model rw_oy0313_02.row.prog w) (ktrTop dp un gd cn cs L a ccd cl outer) (call (.ref 60) [.ref nx]) Q E s := by
  have c1 : @Ne Nat ci nd := news_ne N (.tail _ (.tail _ (.tail _ (.tail _ (.head _))))) (.head _) (ne_tt rfl rfl (by decide))
  have c2 : @Ne Nat ci d := news_ne N (.tail _ (.tail _ (.tail _ (.tail _ (.head _))))) (.tail _ (.tail _ (.head _))) (ne_tt rfl rfl (by decide))
  have q1 : @Ne Nat q nd := news_ne N (.tail _ (.tail _ (.tail _ (.tail _ (.tail _ (.head _)))))) (.head _) (ne_tt rfl rfl (by decide))
  have q2 : @Ne Nat q d := news_ne N (.tail _ (.tail _ (.tail _ (.tail _ (.tail _ (.head _)))))) (.tail _ (.tail _ (.head _))) (ne_tt rfl rfl (by decide))
  refine wpAny_call (c_rchNK w mean mg mb dp un gd cn cs a ccd cl outer A₀ base h₀ L m s Q E nx nd io d pb ((ci, ciO q tq false) :: (q, methodObj (.ref 60) (.ref nx)) :: rest) k0 k1 k2 k3 v2 t1 t2 t3 u2 u3 nl l pos _ tl B F X T hk N n1 n2 n3 n4 n5 ?_ ?_ hdp hun hlen hpl hd hret)
  · intro p hp
    rcases List.mem_cons.mp hp with rfl | hp
    · exact c1
    · rcases List.mem_cons.mp hp with rfl | hp
      · exact q1
      · exact r1 p hp
  · intro p hp
    rcases List.mem_cons.mp hp with rfl | hp
    · exact c2
    · rcases List.mem_cons.mp hp with rfl | hp
      · exact q2
      · exact r2 p hp
noncomputable def forB (i : Nat) (l : List Stmt) : List Stmt := match l.getD i (.Pass default) with | .For _ _ b _ _ => b | _ => []
noncomputable def ifT (i : Nat) (l : List Stmt) : List Stmt := match l.getD i (.Pass default) with | .If _ b _ _ => b | _ => []
noncomputable def ifE (i : Nat) (l : List Stmt) : List Stmt := match l.getD i (.Pass default) with | .If _ _ b _ => b | _ => []
noncomputable abbrev gtE (L' : Addr) : Env := envOf (ofString "_netrclex.get_token") (fS (subAt 3 2)) L' 67 (Value.ref 66)
noncomputable abbrev gtB : List Stmt := forB 3 (fB (subAt 3 2))
noncomputable abbrev gtQ : List Stmt := forB 0 (ifT 1 gtB)
noncomputable abbrev gtW : List Stmt := forB 2 (ifE 1 gtB)
def gtM (nx ci : Addr) (tok : Str) (tt : Tok) (ch : Option Value) : Str → Option Value := fun y =>
  if y = ofString "ch" then ch else if y = ofString "token" then some (.str tok tt) else if y = ofString "fiter" then some (.ref ci) else if y = ofString "self" then some (.ref nx) else none
theorem gtM_ch (nx ci : Addr) (tok : Str) (tt : Tok) (ch : Option Value) (v : Value) : (fun y => if y = ofString "ch" then some v else gtM nx ci tok tt ch y) = gtM nx ci tok tt (some v) := by
  funext y
  unfold gtM
  by_cases y1 : y = ofString "ch" <;> simp only [y1, if_true, if_false]
theorem gtM_tok (nx ci : Addr) (tok : Str) (tt : Tok) (ch : Option Value) (tok' : Str) (tt' : Tok) : (fun y => if y = ofString "token" then some (.str tok' tt') else gtM nx ci tok tt ch y) = gtM nx ci tok' tt' ch := by
  funext y
  unfold gtM
  by_cases y1 : y = ofString "token"
  · subst y1; kernel_rfl
  · simp only [y1, if_false]
theorem gtM_tokch (nx ci : Addr) (tok : Str) (tt : Tok) (ch : Option Value) (tok' : Str) (tt' : Tok) (v : Value) : (fun y => if y = ofString "token" then some (.str tok' tt') else if y = ofString "ch" then some v else gtM nx ci tok tt ch y) = gtM nx ci tok' tt' (some v) := by
  funext y
  rw [show (if y = ofString "ch" then some v else gtM nx ci tok tt ch y) = gtM nx ci tok tt (some v) y from congrFun (gtM_ch nx ci tok tt ch v) y]
  exact congrFun (gtM_tok nx ci tok tt (some v) tok' tt') y
theorem gtM_init (nx ci : Addr) (tok : Str) (tt : Tok) : (fun y => if y = ofString "fiter" then some (.ref ci) else if y = ofString "token" then some (.str tok tt) else if y = ofString "self" then some (.ref nx) else none) = gtM nx ci tok tt none := by
  funext y
  unfold gtM
  by_cases y0 : y = ofString "ch"
  · subst y0; kernel_rfl
  · simp only [y0, if_false]
    by_cases y1 : y = ofString "fiter"
    · subst y1; kernel_rfl
    · by_cases y2 : y = ofString "token"
      · subst y2; kernel_rfl
      · simp only [y1, y2, if_false]
end
theorem ring5 : True := by first | walk1 | trivial
section
local macro_rules | `(tactic| walk_at "call ref") => `(tactic| (k_here; (first | (with_reducible show wpAny _ _ (call (Value.ref 60) _) _ _ _) | (with_reducible show wpAny _ _ (call (Prod.fst (Value.ref 60, _)) _) _ _ _)); k_dflt (show wpAny _ _ (call (Value.ref 60) [Value.ref _]) _ _ _); k_dflt (first
  | (refine' rch_c ?k1 ?k2 ?k3 ?k4 ?k5 ?k6 ?e1 ?e2 ?e3 ?e4 ?e5 ?r1 ?r2 ?rc ?kd ?ku ?kl ?kp ?_; (case k1 => k_asm); (case k2 => k_asm); (case k3 => k_asm); (case k4 => k_asm); (case k5 => first | exact rfl | assumption); (case k6 => k_asm); (case e1 => assumption); (case e2 => assumption); (case e3 => assumption); (case e4 => assumption); (case e5 => assumption); (case r1 => assumption); (case r2 => assumption); (case rc => assumption); (case kd => ktr_room); (case ku => ktr_units); (case kl => assumption); (case kp => assumption); k_whole; intro t9 u9 tl9 h9 tk9 F9 N9; (try dsimp only at N9); (try dsimp only))
  | (refine' rch_e ?k1 ?k2 ?k3 ?k4 ?k5 ?k6 ?e1 ?e2 ?e3 ?e4 ?e5 ?r1 ?r2 ?rc ?kd ?ku ?kl ?kq ?kp ?_; (case k1 => k_asm); (case k2 => k_asm); (case k3 => k_asm); (case k4 => k_asm); (case k5 => first | exact rfl | assumption); (case k6 => k_asm); (case e1 => assumption); (case e2 => assumption); (case e3 => assumption); (case e4 => assumption); (case e5 => assumption); (case r1 => assumption); (case r2 => assumption); (case rc => assumption); (case kd => ktr_room); (case ku => ktr_units); (case kl => assumption); (case kq => assumption); (case kp => assumption); k_whole; intro t9 h9 tk9 F9 N9; (try dsimp only at N9); (try dsimp only)))))
section
end
section
theorem qb_c (w : World) (mean : ExcName → Option Value) (mg mb : Str → Option Value)
    (dp un : Nat) (gd : Option (List Code)) (cn : Str) (cs : Scope) (a : Addr) (ccd : Value) (cl : List (Str × Addr)) (outer : List Env) (A₀ : Around) (base h₀ : Heap) (L : Addr) (m : Str → Option Value) (s : Shared) (Q E : Value → Shared → Prop) (g' : Heap) (L' : Addr) (W : Flow → Shared → Prop) (E' : Value → Shared → Prop)
    (nx nd io d pb ci q : Addr) (tq : Tok) (rest : List (Addr × Obj)) (k0 k1 k2 k3 v2 : Tok) (t1 t2 t3 u2 : Tok) (nl : Value) (l : List Nat) (tok : List Nat) (tt tc tl u3 : Tok) (pos c c2 : Nat) (post : List Nat)
    (x y z1 z2 : Str) (hx1 : tx tok ++ x = z1) (hx2 : tx tok ++ tx [c2] = z2) (hz1 : z1.length < 400000) (hz2 : z2.length < 400000)
    (f2 : (x.cps.toList == (ofString "\"").cps.toList) = (c == 34)) (f4 : (x.cps.toList == (ofString "\\").cps.toList) = (c == 92))
    (B : Below (ktrTop dp un gd cn cs L a ccd cl outer) base (envX cn cs L a ccd cl :: outer) g') (X : (Mine.K w.params).In g') (T : Top Mine.q (looseW Mine.q Mine.loose) mean mg mb g') (F : Fr g' L' s.heap (gtM nx ci (tx tok) tt (some (.str x tc))))
    (N : News g' L' s.heap ((nd, dictOf (nlD w.params k0 k1 k2 k3 v2 io pb (lnA l pos) tl) 4) :: (nx, instObj 77 nd) :: (d, dictOf (ioD w.params t1 t2 t3 u2 u3 nl (tx l) (pos)) 3) :: (io, instObj 629 d) :: (ci, ciO q tq false) :: (q, methodObj (.ref 60) (.ref nx)) :: rest)) (n1 : @Ne Nat nx nd) (n2 : @Ne Nat d nd) (n3 : @Ne Nat io nd) (n4 : @Ne Nat nx d) (n5 : @Ne Nat io d) (r1 : ∀ p ∈ rest, p.1 ≠ nd) (r2 : ∀ p ∈ rest, p.1 ≠ d) (rc : ∀ p ∈ rest, p.1 ≠ ci)
    (hdp : dp + 12 < recursionLimit) (hun : un + 96 < cLine) (hlen : l.length < 100000) (hd : l.drop pos = c2 :: post)
    (h34 : (c == 34) = true → ∀ h' tk', Fr g' L' h' (gtM nx ci (tx tok) tt (some (.str x tc))) → News g' L' h' ((nd, dictOf (nlD w.params k0 k1 k2 k3 v2 io pb (lnA l pos) tl) 4) :: (nx, instObj 77 nd) :: (d, dictOf (ioD w.params t1 t2 t3 u2 u3 nl (tx l) (pos)) 3) :: (io, instObj 629 d) :: (ci, ciO q tq false) :: (q, methodObj (.ref 60) (.ref nx)) :: rest) → W (.ret (.str (tx tok) tt)) { s with heap := h', toks := tk' })
    (h92 : (c == 34) = false → (c == 92) = true → ∀ tt' t' tl' u3' h' tk', Fr g' L' h' (gtM nx ci z2 tt' (some (.str (tx [c2]) t'))) → News g' L' h' ((nd, dictOf (nlD w.params k0 k1 k2 k3 v2 io pb (lnA l (pos+1)) tl') 4) :: (nx, instObj 77 nd) :: (d, dictOf (ioD w.params t1 t2 t3 u2 u3' nl (tx l) (((pos + 1 : Nat) : Int))) 3) :: (io, instObj 629 d) :: (ci, ciO q tq false) :: (q, methodObj (.ref 60) (.ref nx)) :: rest) → W .next { s with heap := h', toks := tk' })
    (hel : (c == 34) = false → (c == 92) = false → ∀ tt' h' tk', Fr g' L' h' (gtM nx ci z1 tt' (some (.str x tc))) → News g' L' h' ((nd, dictOf (nlD w.params k0 k1 k2 k3 v2 io pb (lnA l pos) tl) 4) :: (nx, instObj 77 nd) :: (d, dictOf (ioD w.params t1 t2 t3 u2 u3 nl (tx l) (pos)) 3) :: (io, instObj 629 d) :: (ci, ciO q tq false) :: (q, methodObj (.ref 60) (.ref nx)) :: rest) → W .next { s with heap := h', toks := tk' }) :
    wpAny (model rw_oy0313_02.row.prog w) ((ktrTop dp un gd cn cs L a ccd cl outer).deeper (gtE L')) (execs gtQ (gtE L')) W E' s := by
  revert X; k_fill; intro X
  repeat' ktr_step
  all_goals (try dsimp only)
  all_goals (rename Fr g' L' _ _ => F9; rename News g' L' _ _ => N9; (try simp only [gtM_tokch, gtM_ch, gtM_tok] at F9))
  all_goals (first
    | exact h34 (by assumption) _ _ F9 N9
    | exact h92 (by assumption) (by assumption) _ _ _ _ _ _ F9 N9
    | exact hel (by assumption) (by assumption) _ _ _ F9 N9
    | fail)
theorem qb_e (w : World) (mean : ExcName → Option Value) (mg mb : Str → Option Value)
    (dp un : Nat) (gd : Option (List Code)) (cn : Str) (cs : Scope) (a : Addr) (ccd : Value) (cl : List (Str × Addr)) (outer : List Env) (A₀ : Around) (base h₀ : Heap) (L : Addr) (m : Str → Option Value) (s : Shared) (Q E : Value → Shared → Prop) (g' : Heap) (L' : Addr) (W : Flow → Shared → Prop) (E' : Value → Shared → Prop)
    (nx nd io d pb ci q : Addr) (tq : Tok) (rest : List (Addr × Obj)) (k0 k1 k2 k3 v2 : Tok) (t1 t2 t3 u2 : Tok) (nl : Value) (l : List Nat) (tok : List Nat) (tt tc tl u3 : Tok) (pos c : Nat)
    (x y z1 z2 : Str) (hx1 : tx tok ++ x = z1) (hx2 : tx tok ++ ofString "" = z2) (hz1 : z1.length < 400000) (hz2 : z2.length < 400000)
    (f2 : (x.cps.toList == (ofString "\"").cps.toList) = (c == 34)) (f4 : (x.cps.toList == (ofString "\\").cps.toList) = (c == 92))
    (B : Below (ktrTop dp un gd cn cs L a ccd cl outer) base (envX cn cs L a ccd cl :: outer) g') (X : (Mine.K w.params).In g') (T : Top Mine.q (looseW Mine.q Mine.loose) mean mg mb g') (F : Fr g' L' s.heap (gtM nx ci (tx tok) tt (some (.str x tc))))
    (N : News g' L' s.heap ((nd, dictOf (nlD w.params k0 k1 k2 k3 v2 io pb (lnA l pos) tl) 4) :: (nx, instObj 77 nd) :: (d, dictOf (ioD w.params t1 t2 t3 u2 u3 nl (tx l) (pos)) 3) :: (io, instObj 629 d) :: (ci, ciO q tq false) :: (q, methodObj (.ref 60) (.ref nx)) :: rest)) (n1 : @Ne Nat nx nd) (n2 : @Ne Nat d nd) (n3 : @Ne Nat io nd) (n4 : @Ne Nat nx d) (n5 : @Ne Nat io d) (r1 : ∀ p ∈ rest, p.1 ≠ nd) (r2 : ∀ p ∈ rest, p.1 ≠ d) (rc : ∀ p ∈ rest, p.1 ≠ ci)
    (hdp : dp + 12 < recursionLimit) (hun : un + 96 < cLine) (hlen : l.length < 100000) (hpl : pos ≤ l.length) (hd : l.drop pos = [])
    (h34 : (c == 34) = true → ∀ h' tk', Fr g' L' h' (gtM nx ci (tx tok) tt (some (.str x tc))) → News g' L' h' ((nd, dictOf (nlD w.params k0 k1 k2 k3 v2 io pb (lnA l pos) tl) 4) :: (nx, instObj 77 nd) :: (d, dictOf (ioD w.params t1 t2 t3 u2 u3 nl (tx l) (pos)) 3) :: (io, instObj 629 d) :: (ci, ciO q tq false) :: (q, methodObj (.ref 60) (.ref nx)) :: rest) → W (.ret (.str (tx tok) tt)) { s with heap := h', toks := tk' })
    (h92 : (c == 34) = false → (c == 92) = true → ∀ tt' t' h' tk', Fr g' L' h' (gtM nx ci z2 tt' (some (.str (ofString "") t'))) → News g' L' h' ((nd, dictOf (nlD w.params k0 k1 k2 k3 v2 io pb (lnA l pos) tl) 4) :: (nx, instObj 77 nd) :: (d, dictOf (ioD w.params t1 t2 t3 u2 u3 nl (tx l) (pos)) 3) :: (io, instObj 629 d) :: (ci, ciO q tq false) :: (q, methodObj (.ref 60) (.ref nx)) :: rest) → W .next { s with heap := h', toks := tk' })
    (hel : (c == 34) = false → (c == 92) = false → ∀ tt' h' tk', Fr g' L' h' (gtM nx ci z1 tt' (some (.str x tc))) → News g' L' h' ((nd, dictOf (nlD w.params k0 k1 k2 k3 v2 io pb (lnA l pos) tl) 4) :: (nx, instObj 77 nd) :: (d, dictOf (ioD w.params t1 t2 t3 u2 u3 nl (tx l) (pos)) 3) :: (io, instObj 629 d) :: (ci, ciO q tq false) :: (q, methodObj (.ref 60) (.ref nx)) :: rest) → W .next { s with heap := h', toks := tk' }) :
    wpAny (model rw_oy0313_02.row.prog w) ((ktrTop dp un gd cn cs L a ccd cl outer).deeper (gtE L')) (execs gtQ (gtE L')) W E' s := by
  revert X; k_fill; intro X
  repeat' ktr_step
  all_goals (try dsimp only)
  all_goals (rename Fr g' L' _ _ => F9; rename News g' L' _ _ => N9; (try simp only [gtM_tokch, gtM_ch, gtM_tok] at F9))
  all_goals (first
    | exact h34 (by assumption) _ _ F9 N9
    | exact h92 (by assumption) (by assumption) _ _ _ _ F9 N9
    | exact hel (by assumption) (by assumption) _ _ _ F9 N9
    | fail)
theorem wb_c (w : World) (mean : ExcName → Option Value) (mg mb : Str → Option Value)
    (dp un : Nat) (gd : Option (List Code)) (cn : Str) (cs : Scope) (a : Addr) (ccd : Value) (cl : List (Str × Addr)) (outer : List Env) (A₀ : Around) (base h₀ : Heap) (L : Addr) (m : Str → Option Value) (s : Shared) (Q E : Value → Shared → Prop) (g' : Heap) (L' : Addr) (W : Flow → Shared → Prop) (E' : Value → Shared → Prop)
    (nx nd io d pb ci q : Addr) (tq : Tok) (rest : List (Addr × Obj)) (k0 k1 k2 k3 v2 : Tok) (t1 t2 t3 u2 : Tok) (nl : Value) (l : List Nat) (tok : List Nat) (tt tc tl u3 : Tok) (pos c c2 : Nat) (post : List Nat)
    (x y z1 z2 : Str) (hx1 : tx tok ++ x = z1) (hx2 : tx tok ++ tx [c2] = z2) (hz1 : z1.length < 400000) (hz2 : z2.length < 400000)
    (f6 : Txt.contains (ofString "\n\t\x0d ") x = ws c) (f4 : (x.cps.toList == (ofString "\\").cps.toList) = (c == 92))
    (B : Below (ktrTop dp un gd cn cs L a ccd cl outer) base (envX cn cs L a ccd cl :: outer) g') (X : (Mine.K w.params).In g') (T : Top Mine.q (looseW Mine.q Mine.loose) mean mg mb g') (F : Fr g' L' s.heap (gtM nx ci (tx tok) tt (some (.str x tc))))
    (N : News g' L' s.heap ((nd, dictOf (nlD w.params k0 k1 k2 k3 v2 io pb (lnA l pos) tl) 4) :: (nx, instObj 77 nd) :: (d, dictOf (ioD w.params t1 t2 t3 u2 u3 nl (tx l) (pos)) 3) :: (io, instObj 629 d) :: (ci, ciO q tq false) :: (q, methodObj (.ref 60) (.ref nx)) :: rest)) (n1 : @Ne Nat nx nd) (n2 : @Ne Nat d nd) (n3 : @Ne Nat io nd) (n4 : @Ne Nat nx d) (n5 : @Ne Nat io d) (r1 : ∀ p ∈ rest, p.1 ≠ nd) (r2 : ∀ p ∈ rest, p.1 ≠ d) (rc : ∀ p ∈ rest, p.1 ≠ ci)
    (hdp : dp + 12 < recursionLimit) (hun : un + 96 < cLine) (hlen : l.length < 100000) (hd : l.drop pos = c2 :: post)
    (h34 : ws c = true → ∀ h' tk', Fr g' L' h' (gtM nx ci (tx tok) tt (some (.str x tc))) → News g' L' h' ((nd, dictOf (nlD w.params k0 k1 k2 k3 v2 io pb (lnA l pos) tl) 4) :: (nx, instObj 77 nd) :: (d, dictOf (ioD w.params t1 t2 t3 u2 u3 nl (tx l) (pos)) 3) :: (io, instObj 629 d) :: (ci, ciO q tq false) :: (q, methodObj (.ref 60) (.ref nx)) :: rest) → W (.ret (.str (tx tok) tt)) { s with heap := h', toks := tk' })
    (h92 : ws c = false → (c == 92) = true → ∀ tt' t' tl' u3' h' tk', Fr g' L' h' (gtM nx ci z2 tt' (some (.str (tx [c2]) t'))) → News g' L' h' ((nd, dictOf (nlD w.params k0 k1 k2 k3 v2 io pb (lnA l (pos+1)) tl') 4) :: (nx, instObj 77 nd) :: (d, dictOf (ioD w.params t1 t2 t3 u2 u3' nl (tx l) (((pos + 1 : Nat) : Int))) 3) :: (io, instObj 629 d) :: (ci, ciO q tq false) :: (q, methodObj (.ref 60) (.ref nx)) :: rest) → W .next { s with heap := h', toks := tk' })
    (hel : ws c = false → (c == 92) = false → ∀ tt' h' tk', Fr g' L' h' (gtM nx ci z1 tt' (some (.str x tc))) → News g' L' h' ((nd, dictOf (nlD w.params k0 k1 k2 k3 v2 io pb (lnA l pos) tl) 4) :: (nx, instObj 77 nd) :: (d, dictOf (ioD w.params t1 t2 t3 u2 u3 nl (tx l) (pos)) 3) :: (io, instObj 629 d) :: (ci, ciO q tq false) :: (q, methodObj (.ref 60) (.ref nx)) :: rest) → W .next { s with heap := h', toks := tk' }) :
    wpAny (model rw_oy0313_02.row.prog w) ((ktrTop dp un gd cn cs L a ccd cl outer).deeper (gtE L')) (execs gtW (gtE L')) W E' s := by
  revert X; k_fill; intro X
  repeat' ktr_step
  all_goals (try dsimp only)
  all_goals (rename Fr g' L' _ _ => F9; rename News g' L' _ _ => N9; (try simp only [gtM_tokch, gtM_ch, gtM_tok] at F9))
  all_goals (first
    | exact h34 (by assumption) _ _ F9 N9
    | exact h92 (by assumption) (by assumption) _ _ _ _ _ _ F9 N9
    | exact hel (by assumption) (by assumption) _ _ _ F9 N9
    | fail)
theorem wb_e (w : World) (mean : ExcName → Option Value) (mg mb : Str → Option Value)
    (dp un : Nat) (gd : Option (List Code)) (cn : Str) (cs : Scope) (a : Addr) (ccd : Value) (cl : List (Str × Addr)) (outer : List Env) (A₀ : Around) (base h₀ : Heap) (L : Addr) (m : Str → Option Value) (s : Shared) (Q E : Value → Shared → Prop) (g' : Heap) (L' : Addr) (W : Flow → Shared → Prop) (E' : Value → Shared → Prop)
    (nx nd io d pb ci q : Addr) (tq : Tok) (rest : List (Addr × Obj)) (k0 k1 k2 k3 v2 : Tok) (t1 t2 t3 u2 : Tok) (nl : Value) (l : List Nat) (tok : List Nat) (tt tc tl u3 : Tok) (pos c : Nat)
    (x y z1 z2 : Str) (hx1 : tx tok ++ x = z1) (hx2 : tx tok ++ ofString "" = z2) (hz1 : z1.length < 400000) (hz2 : z2.length < 400000)
    (f6 : Txt.contains (ofString "\n\t\x0d ") x = ws c) (f4 : (x.cps.toList == (ofString "\\").cps.toList) = (c == 92))
    (B : Below (ktrTop dp un gd cn cs L a ccd cl outer) base (envX cn cs L a ccd cl :: outer) g') (X : (Mine.K w.params).In g') (T : Top Mine.q (looseW Mine.q Mine.loose) mean mg mb g') (F : Fr g' L' s.heap (gtM nx ci (tx tok) tt (some (.str x tc))))
    (N : News g' L' s.heap ((nd, dictOf (nlD w.params k0 k1 k2 k3 v2 io pb (lnA l pos) tl) 4) :: (nx, instObj 77 nd) :: (d, dictOf (ioD w.params t1 t2 t3 u2 u3 nl (tx l) (pos)) 3) :: (io, instObj 629 d) :: (ci, ciO q tq false) :: (q, methodObj (.ref 60) (.ref nx)) :: rest)) (n1 : @Ne Nat nx nd) (n2 : @Ne Nat d nd) (n3 : @Ne Nat io nd) (n4 : @Ne Nat nx d) (n5 : @Ne Nat io d) (r1 : ∀ p ∈ rest, p.1 ≠ nd) (r2 : ∀ p ∈ rest, p.1 ≠ d) (rc : ∀ p ∈ rest, p.1 ≠ ci)
    (hdp : dp + 12 < recursionLimit) (hun : un + 96 < cLine) (hlen : l.length < 100000) (hpl : pos ≤ l.length) (hd : l.drop pos = [])
    (h34 : ws c = true → ∀ h' tk', Fr g' L' h' (gtM nx ci (tx tok) tt (some (.str x tc))) → News g' L' h' ((nd, dictOf (nlD w.params k0 k1 k2 k3 v2 io pb (lnA l pos) tl) 4) :: (nx, instObj 77 nd) :: (d, dictOf (ioD w.params t1 t2 t3 u2 u3 nl (tx l) (pos)) 3) :: (io, instObj 629 d) :: (ci, ciO q tq false) :: (q, methodObj (.ref 60) (.ref nx)) :: rest) → W (.ret (.str (tx tok) tt)) { s with heap := h', toks := tk' })
    (h92 : ws c = false → (c == 92) = true → ∀ tt' t' h' tk', Fr g' L' h' (gtM nx ci z2 tt' (some (.str (ofString "") t'))) → News g' L' h' ((nd, dictOf (nlD w.params k0 k1 k2 k3 v2 io pb (lnA l pos) tl) 4) :: (nx, instObj 77 nd) :: (d, dictOf (ioD w.params t1 t2 t3 u2 u3 nl (tx l) (pos)) 3) :: (io, instObj 629 d) :: (ci, ciO q tq false) :: (q, methodObj (.ref 60) (.ref nx)) :: rest) → W .next { s with heap := h', toks := tk' })
    (hel : ws c = false → (c == 92) = false → ∀ tt' h' tk', Fr g' L' h' (gtM nx ci z1 tt' (some (.str x tc))) → News g' L' h' ((nd, dictOf (nlD w.params k0 k1 k2 k3 v2 io pb (lnA l pos) tl) 4) :: (nx, instObj 77 nd) :: (d, dictOf (ioD w.params t1 t2 t3 u2 u3 nl (tx l) (pos)) 3) :: (io, instObj 629 d) :: (ci, ciO q tq false) :: (q, methodObj (.ref 60) (.ref nx)) :: rest) → W .next { s with heap := h', toks := tk' }) :
    wpAny (model rw_oy0313_02.row.prog w) ((ktrTop dp un gd cn cs L a ccd cl outer).deeper (gtE L')) (execs gtW (gtE L')) W E' s := by
  revert X; k_fill; intro X
  repeat' ktr_step
  all_goals (try dsimp only)
  all_goals (rename Fr g' L' _ _ => F9; rename News g' L' _ _ => N9; (try simp only [gtM_tokch, gtM_ch, gtM_tok] at F9))
  all_goals (first
    | exact h34 (by assumption) _ _ F9 N9
    | exact h92 (by assumption) (by assumption) _ _ _ _ F9 N9
    | exact hel (by assumption) (by assumption) _ _ _ F9 N9
    | fail)
end
end
end
section
section
variable {prog : Program} {w : World} {A : Around} {E : Value → Shared → Prop} {s : Shared} {env : Env}
theorem nt_for {v : Str} {px pos : Pos} {iter : Expr} {body : List Stmt} {Q : Flow → Shared → Prop}
    (h : wpAny (model prog w) A (eval iter env) (fun xv s₁ => wpAny (model prog w) A (pyIter xv) (fun it s₂ => ∃ I n, it = .ref I ∧ OwitRest prog w A E env v body Q I n s₂) E s₁) E s)
    (hs : ∀ x, foldedSetIterable iter env x = pure x := by intro _; rfl) (hE : PassesOwn (model prog w) A env E := by passes_own) :
    wpAny (model prog w) A (exec (.For (.Name v px) iter body [] pos) env) Q E s := by
  refine wpAny_For (wpAny_mono h (fun xv s₁ h₁ => wpAny_mono h₁ (fun it s₂ h₂ => ?_) fun _ _ z => z) fun _ _ z => z) hs
  obtain ⟨I, n, rfl, h₂⟩ := h₂
  refine codeAny_forLoop (R := fun r s' => match r with | .ok f => Q f s' | .error e => cameBackBy (model prog w) A env E e s') (fun k s' => OwitRest prog w A E env v body Q I k s') ?_ n h₂
  intro k s' hk
  cases k with
  | zero => exact hk.elim
  | succ k =>
    refine wpAny_passesOwn hE (wpAny_mono (hk : wpAny (model prog w) A (pyNext (.ref I)) _ E s') (fun r s₁ hr => ?_) fun _ _ z => z)
    cases r with
    | none => exact wpAny_execs_nil hr
    | some y =>
      refine wpAny_passesOwn hE (wpAny_assign_Name (wpAny_mono hr (fun _ s₂ h₂ => ?_) fun _ _ z => z))
      refine wpAny_passesOwn hE (wpAny_mono h₂ (fun f s₃ h₃ => ?_) fun _ _ z => z)
      cases f with
      | next => exact ⟨k, Nat.lt_succ_self k, h₃⟩
      | cont => exact ⟨k, Nat.lt_succ_self k, h₃⟩
      | brk => exact h₃
      | ret _ => exact h₃
end
theorem q_rest : ∀ (w : World) (mean : ExcName → Option Value) (mg mb : Str → Option Value)
    (dp un : Nat) (gd : Option (List Code)) (cn : Str) (cs : Scope) (a : Addr) (ccd : Value) (cl : List (Str × Addr)) (outer : List Env) (A₀ : Around) (base h₀ : Heap) (L : Addr) (m : Str → Option Value) (s : Shared) (Q E : Value → Shared → Prop) (g' : Heap) (L' : Addr) (W : Flow → Shared → Prop) (E' : Value → Shared → Prop)
    (nx nd io d pb ci q : Addr) (tq : Tok) (rest : List (Addr × Obj)) (k0 k1 k2 k3 v2 : Tok) (t1 t2 t3 u2 : Tok) (nl : Value) (l : List Nat) (B : Below (ktrTop dp un gd cn cs L a ccd cl outer) base (envX cn cs L a ccd cl :: outer) g') (X : (Mine.K w.params).In g') (T : Top Mine.q (looseW Mine.q Mine.loose) mean mg mb g') (n1 : @Ne Nat nx nd) (n2 : @Ne Nat d nd) (n3 : @Ne Nat io nd) (n4 : @Ne Nat nx d) (n5 : @Ne Nat io d) (r1 : ∀ p ∈ rest, p.1 ≠ nd) (r2 : ∀ p ∈ rest, p.1 ≠ d) (rc : ∀ p ∈ rest, p.1 ≠ ci) (hdp : dp + 12 < recursionLimit) (hun : un + 96 < cLine) (hlen : l.length < 100000) (Xt Rt : List Nat)
    (hret : ∀ tt tl u3 pos ch h tk, l.drop pos = Rt → pos ≤ l.length → Fr g' L' h (gtM nx ci (tx Xt) tt ch) → News g' L' h ((nd, dictOf (nlD w.params k0 k1 k2 k3 v2 io pb (lnA l pos) tl) 4) :: (nx, instObj 77 nd) :: (d, dictOf (ioD w.params t1 t2 t3 u2 u3 nl (tx l) ((pos : Nat))) 3) :: (io, instObj 629 d) :: (ci, ciO q tq false) :: (q, methodObj (.ref 60) (.ref nx)) :: rest) → W (.ret (.str (tx Xt) tt)) { s with heap := h, toks := tk })
    (hend : ∀ tt tl u3 pos ch h tk, l.drop pos = [] → Rt = [] → pos ≤ l.length → Fr g' L' h (gtM nx ci (tx Xt) tt ch) → News g' L' h ((nd, dictOf (nlD w.params k0 k1 k2 k3 v2 io pb (lnA l pos) tl) 4) :: (nx, instObj 77 nd) :: (d, dictOf (ioD w.params t1 t2 t3 u2 u3 nl (tx l) ((pos : Nat))) 3) :: (io, instObj 629 d) :: (ci, ciE) :: (q, methodObj (.ref 60) (.ref nx)) :: rest) → W .next { s with heap := h, toks := tk }),
    ∀ (k pos : Nat) (tok : List Nat) (tt tl u3 : Tok) (ch : Option Value) (h : Heap) (tk : Nat), l.length - pos ≤ k → pos ≤ l.length → tok.length ≤ pos → ntT (l.drop pos) 1 tok = (Xt, Rt) →
      Fr g' L' h (gtM nx ci (tx tok) tt ch) → News g' L' h ((nd, dictOf (nlD w.params k0 k1 k2 k3 v2 io pb (lnA l pos) tl) 4) :: (nx, instObj 77 nd) :: (d, dictOf (ioD w.params t1 t2 t3 u2 u3 nl (tx l) ((pos : Nat))) 3) :: (io, instObj 629 d) :: (ci, ciO q tq false) :: (q, methodObj (.ref 60) (.ref nx)) :: rest) → OwitRest rw_oy0313_02.row.prog w ((ktrTop dp un gd cn cs L a ccd cl outer).deeper (gtE L')) E' (gtE L') (ofString "ch") gtQ W ci (k + 1) { s with heap := h, toks := tk } := by
  refine hk40 (by repeat first | exact nW | exact nA | exact nS | apply nP | infer_instance) ((?f : ∀ w mean mg mb dp un gd cn cs a ccd cl outer A₀ base h₀ L m s Q E g' L' W E' nx nd io d pb ci q tq rest k0 k1 k2 k3 v2 t1, Hd40 _ w mean mg mb dp un gd cn cs a ccd cl outer A₀ base h₀ L m s Q E g' L' W E' nx nd io d pb ci q tq rest k0 k1 k2 k3 v2 t1) _ _ _ _ _ _ _ _ _ _ _ _ _ _ _ _ _ _ _ _ _ _ _ _ _ _ _ _ _ _ _ _ _ _ _ _ _ _ _ _)
  intro w mean mg mb dp un gd cn cs a ccd cl outer A₀ base h₀ L m s Q E g' L' W E' nx nd io d pb ci q tq rest k0 k1 k2 k3 v2 t1 t2 t3 u2 nl l B X T n1 n2 n3 n4 n5 r1 r2 rc hdp hun hlen Xt Rt hret hend
  revert X; k_fill; intro X
  intro k
  induction k with
  | zero =>
    intro pos tok tt tl u3 ch h tk hk hpl htl hn F N
    have hd : l.drop pos = [] := List.drop_eq_nil_of_le (by omega)
    show wpAny _ _ (pyNext (.ref ci)) _ _ _
    refine nx_end w mean mg mb (dp + 1) (un + 3) gd (ofString "_netrclex.get_token") (fS (subAt 3 2)) 67 (.ref 66) [] (envX cn cs L a ccd cl :: outer) _ base g' L' _ _ _ _ nx nd io d pb ci q tq rest k0 k1 k2 k3 v2 t1 t2 t3 u2 nl l pos _ tl u3 B F X T rfl N n1 n2 n3 n4 n5 r1 r2 rc (by omega) (by omega) hlen hpl hd ?_
    intro h' tk' F' N'
    rw [hd] at hn
    obtain ⟨rfl, rfl⟩ : tok = Xt ∧ [] = Rt := by simpa [ntT] using hn
    exact hend tt tl u3 pos ch h' tk' hd rfl hpl F' N'
  | succ k ih =>
    intro pos tok tt tl u3 ch h tk hk hpl htl hn F N
    cases hd : l.drop pos with
    | nil =>
      show wpAny _ _ (pyNext (.ref ci)) _ _ _
      refine nx_end w mean mg mb (dp + 1) (un + 3) gd (ofString "_netrclex.get_token") (fS (subAt 3 2)) 67 (.ref 66) [] (envX cn cs L a ccd cl :: outer) _ base g' L' _ _ _ _ nx nd io d pb ci q tq rest k0 k1 k2 k3 v2 t1 t2 t3 u2 nl l pos _ tl u3 B F X T rfl N n1 n2 n3 n4 n5 r1 r2 rc (by omega) (by omega) hlen hpl hd ?_
      intro h' tk' F' N'
      rw [hd] at hn
      obtain ⟨rfl, rfl⟩ : tok = Xt ∧ [] = Rt := by simpa [ntT] using hn
      exact hend tt tl u3 pos ch h' tk' hd rfl hpl F' N'
    | cons c post =>
      have hlt := drop_lt hd
      have hds := drop_succ hd
      show wpAny _ _ (pyNext (.ref ci)) _ _ _
      refine nx_ch w mean mg mb (dp + 1) (un + 3) gd (ofString "_netrclex.get_token") (fS (subAt 3 2)) 67 (.ref 66) [] (envX cn cs L a ccd cl :: outer) _ base g' L' _ _ _ _ nx nd io d pb ci q tq rest k0 k1 k2 k3 v2 t1 t2 t3 u2 nl l post pos c _ tl u3 B F X T rfl N n1 n2 n3 n4 n5 r1 r2 rc (by omega) (by omega) hlen hd (lnA_ok l pos) ?_
      intro t u3' ln' tl' h' tk' hl' F' N'
      rw [hl', ← lnA_succ hd] at N'
      dsimp only [OwitTurn]
      repeat' ((fail_if_success (with_reducible show wpAny _ _ (execs _ _) _ _ _)); ktr_step)
      rename Fr g' L' _ _ => F9
      rename News g' L' _ _ => N9
      rw [gtM_ch] at F9
      have f := facts_of (c := c) rfl
      have hsz : ∀ z : List Nat, z.length ≤ 2 → (tx (tok ++ z)).length < 400000 := fun z hz => by rw [len_tx, List.length_append]; omega
      have key : ntT (c :: post) 1 tok = (Xt, Rt) := by rw [← hd]; exact hn
      cases post with
      | nil =>
        refine qb_e w mean mg mb dp un gd cn cs a ccd cl outer A₀ base h₀ L m _ Q E g' L' _ E' nx nd io d pb ci q tq rest k0 k1 k2 k3 v2 t1 t2 t3 u2 nl l tok tt t _ u3' (pos + 1) c (tx [c]) (tx []) _ _ (tx_app _ _) (by rw [s_no]; exact tx_app _ _) (hsz _ (by simp)) (hsz _ (by simp)) f.dq f.bs B X T F9 N9 n1 n2 n3 n4 n5 r1 r2 rc hdp hun hlen hlt hds ?_ ?_ ?_
        · intro h1 h2 tk2 F2 N2
          have h1' := eq_of_beq h1
          subst h1'
          obtain ⟨rfl, rfl⟩ : tok = Xt ∧ [] = Rt := by simpa [ntT] using key
          exact hret tt _ u3' (pos + 1) _ h2 tk2 hds hlt F2 N2
        · intro h1 h3 tt2 t2 h2 tk2 F2 N2
          have h3' := eq_of_beq h3
          subst h3'
          rw [List.append_nil] at F2
          refine ih (pos + 1) tok tt2 _ u3' _ h2 tk2 (by omega) hlt (by omega) ?_ F2 N2
          rw [hds]
          simpa [ntT] using key
        · intro h1 h3 tt2 h2 tk2 F2 N2
          have h1' := beq_eq_false_iff_ne.mp h1
          have h3' := beq_eq_false_iff_ne.mp h3
          refine ih (pos + 1) (tok ++ [c]) tt2 _ u3' _ h2 tk2 (by omega) hlt (by simp; omega) ?_ F2 N2
          rw [hds]
          simpa [ntT, h1', h3'] using key
      | cons c2 post =>
        have hlt2 := drop_lt hds
        have hds2 := drop_succ hds
        refine qb_c w mean mg mb dp un gd cn cs a ccd cl outer A₀ base h₀ L m _ Q E g' L' _ E' nx nd io d pb ci q tq rest k0 k1 k2 k3 v2 t1 t2 t3 u2 nl l tok tt t _ u3' (pos + 1) c c2 post (tx [c]) (tx []) _ _ (tx_app _ _) (tx_app _ _) (hsz _ (by simp)) (hsz _ (by simp)) f.dq f.bs B X T F9 N9 n1 n2 n3 n4 n5 r1 r2 rc hdp hun hlen hds ?_ ?_ ?_
        · intro h1 h2 tk2 F2 N2
          have h1' := eq_of_beq h1
          subst h1'
          obtain ⟨rfl, rfl⟩ : tok = Xt ∧ c2 :: post = Rt := by simpa [ntT] using key
          exact hret tt _ u3' (pos + 1) _ h2 tk2 hds hlt F2 N2
        · intro h1 h3 tt2 t2 tl2 u32 h2 tk2 F2 N2
          have h3' := eq_of_beq h3
          subst h3'
          refine ih (pos + 2) (tok ++ [c2]) tt2 _ u32 _ h2 tk2 (by omega) hlt2 (by simp; omega) ?_ F2 N2
          rw [hds2]
          simpa [ntT] using key
        · intro h1 h3 tt2 h2 tk2 F2 N2
          have h1' := beq_eq_false_iff_ne.mp h1
          have h3' := beq_eq_false_iff_ne.mp h3
          refine ih (pos + 1) (tok ++ [c]) tt2 _ u3' _ h2 tk2 (by omega) hlt (by simp; omega) ?_ F2 N2
          rw [hds]
          simpa [ntT, h1', h3'] using key
end
section
section
variable {prog : Program} {w : World} {A : Around} {E : Value → Shared → Prop} {s : Shared} {h₀ : Heap} {L : Addr} {env : Env}
def ForEnd (h₀ : Heap) (L I : Addr) (oI : Obj) (J : (Str → Option Value) → List (Addr × Obj) → Prop) (s₁ s₂ : Shared) : Prop :=
  ∃ h' tk' m' news', s₂ = { s₁ with heap := h', toks := tk' } ∧ Fr h₀ L h' m' ∧ News h₀ L h' ((I, oI) :: news') ∧ (∀ p ∈ news', p.1 ≠ I) ∧ J m' news'
def ForPost (h₀ : Heap) (L I : Addr) (oI : Obj) (J : (Str → Option Value) → List (Addr × Obj) → Prop) (s₁ : Shared) (Q : Flow → Shared → Prop) (f : Flow) (s₂ : Shared) : Prop :=
  match f with
  | .ret v => Q (.ret v) s₂
  | .brk => Q .next s₂
  | _ => ForEnd h₀ L I oI J s₁ s₂
theorem for_walks {I : Addr} {n : Nat} {P : Nat → Value → Prop} {St : Nat → Heap → Prop} {fp : List Addr} {x : Str} {body : List Stmt} {Q : Flow → Shared → Prop}
    (S : List (Addr × Obj) → Prop) (W : Walks prog w A I fp [I] n P St) (hIo : ∀ i h, St i h → ∃ o, h.get? I = some o)
    (hSt : ∀ i h h' o nw, St i h → h.get? I = some o → h'.get? I = some o → (∀ b o, h₀.get? b = some o → h'.get? b = some o) → News h₀ L h' nw → S nw → St i h')
    (J : Nat → (Str → Option Value) → List (Addr × Obj) → Prop) (hJS : ∀ i m nw, J i m nw → S nw) (hLe : env.locals = L) (hx : env.kindOf x = some .local) (hp : (env.scope.kind == .class || (env.scope.kind == .module && env.locals != env.globals)) = false)
    (hfpL : L ∉ fp) (hfpS : ∀ nw, S nw → ∀ b ∈ fp, b ≠ L)
    (hIL : I ≠ L) (hI₀ : h₀.get? I = none)
    (turn : ∀ i v m news h tk oI, P i v → i < n → J i m news → Fr h₀ L h (fun y => if y = x then some v else m y) → News h₀ L h ((I, oI) :: news) → (∀ p ∈ news, p.1 ≠ I) →
      wpAny (model prog w) A (execs body env) (ForPost h₀ L I oI (J (i + 1)) s Q) E { s with heap := h, toks := tk })
    (done : ∀ m news h tk, J n m news → Fr h₀ L h m → News h₀ L h news → Q .next { s with heap := h, toks := tk }) :
    ∀ (k i : Nat) (h : Heap) (tk : Nat) (m : Str → Option Value) (news : List (Addr × Obj)), i + k = n → St i h → Fr h₀ L h m → News h₀ L h news → (∀ p ∈ news, p.1 ≠ I) → J i m news →
      OwitRest prog w A E env x body Q I (k + 1) { s with heap := h, toks := tk } := by
  intro k
  induction k with
  | zero =>
    intro i h tk m news hk st F N ne j
    obtain rfl : i = n := by omega
    show wpAny _ _ (pyNext (.ref I)) _ _ _
    refine W.done _ _ _ st fun h' tk' hk' => ?_
    exact done m news h' tk' j (LCg.fr_but F hk' (Ne.symm hIL) hI₀) (LCg.news_but N hk' ne)
  | succ k ih =>
    intro i h tk m news hk st F N ne j
    show wpAny _ _ (pyNext (.ref I)) _ _ _
    refine W.item i _ _ _ (by omega) st fun v h' tk' hP st' hk' => ?_
    have F1 := LCg.fr_but F hk' (Ne.symm hIL) hI₀
    have N1 := LCg.news_but N hk' ne
    obtain ⟨oI, hoI⟩ := hIo _ _ st'
    subst hLe
    show wpAny _ _ (storeName env x v) _ _ _
    refine wpAny_storeName_local hx F1.ns (fun h2 hn2 hs2 => ?_) hp
    have F2 := F1.set hn2 hs2
    have N2 := N1.set hs2
    have hI2 : h2.get? I = some oI := hs2.extBut _ _ hIL hoI
    have NI : News h₀ env.locals h2 ((I, oI) :: news) := fun p hp => by
      rcases List.mem_cons.mp hp with rfl | hp
      · exact ⟨hI2, hIL, hI₀⟩
      · exact N2 p hp
    refine wpAny_mono (turn i v m news h2 _ oI hP (by omega) j F2 NI ne) (fun f s2 hf => ?_) fun _ _ z => z
    have st2 : St (i + 1) h2 := W.frame _ _ _ st' fun b hb o e => hs2.extBut b o (fun q : b = env.locals => hfpL (q ▸ hb)) e
    have fin : ForEnd h₀ env.locals I oI (J (i + 1)) s s2 → OwitRest prog w A E env x body Q I (k + 1) s2 := by
      rintro ⟨h3, tk3, m3, news3, rfl, F3, N3, ne3, j3⟩
      refine ih (i + 1) h3 tk3 m3 news3 (by omega) ?_ F3 (fun p hp => N3 p (.tail _ hp)) ne3 j3
      exact hSt _ _ _ _ news3 st2 hI2 (N3 _ (.head _)).1 F3.keep (fun p hp => N3 p (.tail _ hp)) (hJS _ _ _ j3)
    cases f with
    | ret v => exact hf
    | brk => exact hf
    | next => exact fin hf
    | cont => exact fin hf
/-- a loop over a text -/
theorem for_str {x : Str} {body : List Stmt} {Q : Flow → Shared → Prop} {X : Str} {t : Tok} {m₀ : Str → Option Value} {news₀ : List (Addr × Obj)} {h1 : Heap} {tk1 : Nat}
    (J : Nat → (Str → Option Value) → List (Addr × Obj) → Prop) (hh : A.handled = none) (hLe : env.locals = L) (hx : env.kindOf x = some .local) (hp : (env.scope.kind == .class || (env.scope.kind == .module && env.locals != env.globals)) = false)
    (F : Fr h₀ L h1 m₀) (N : News h₀ L h1 news₀) (j : J 0 m₀ news₀)
    (turn : ∀ I i v m news h tk oI, SignAt X i v → i < X.cps.size → J i m news → Fr h₀ L h (fun y => if y = x then some v else m y) → News h₀ L h ((I, oI) :: news) → (∀ p ∈ news, p.1 ≠ I) →
      wpAny (model prog w) A (execs body env) (ForPost h₀ L I oI (J (i + 1)) s Q) E { s with heap := h, toks := tk })
    (done : ∀ m news h tk, J X.cps.size m news → Fr h₀ L h m → News h₀ L h news → Q .next { s with heap := h, toks := tk }) :
    wpAny (model prog w) A (pyIter (.str X t)) (fun it s₂ => ∃ I n, it = .ref I ∧ OwitRest prog w A E env x body Q I n s₂) E { s with heap := h1, toks := tk1 } := by
  have up : ∀ (o : Obj) b o', h1.get? b = some o' → (h1.push o).get? b = some o' := fun o b o' e => Heap.get?_push_of_some _ e
  have hIL : h1.objs.size ≠ L := Ne.symm (Nat.ne_of_lt F.ns.lt)
  have go : ∀ ty, Walks prog w A h1.objs.size [h1.objs.size] [h1.objs.size] X.cps.size (SignAt X) (fun i h => h.IsStrIter h1.objs.size ty X t i) →
      OwitRest prog w A E env x body Q h1.objs.size (X.cps.size + 1) { s with heap := h1.push { cls := .type ty, data := .fields #[.str X t, .int 0 0] }, toks := tk1 } := by
    intro ty W
    exact for_walks (fun _ => True) W (fun i h st => by obtain ⟨o, e, _⟩ := st; exact ⟨o, e⟩) str_st J (fun _ _ _ _ => trivial) hLe hx hp (fun q => hIL (List.mem_singleton.mp q).symm) (fun _ _ b hb => by rw [List.mem_singleton.mp hb]; exact hIL) hIL (next_is_new F)
      (fun i v m news h tk oI => turn _ i v m news h tk oI) done X.cps.size 0 _ tk1 m₀ news₀ (by omega) ⟨_, Heap.get?_push_size _ rfl, rfl, rfl⟩ (F.keeps (up _)) (N.grown (up _)) (fun p hp => Nat.ne_of_lt (Heap.lt_size (N p hp).1)) j
  cases ha : X.cps.all (· < 128)
  · exact wpAny_pyIter_wide ha ⟨_, _, rfl, go _ (Walks.strWide hh _ X t)⟩
  · exact wpAny_pyIter_ascii ha ⟨_, _, rfl, go _ (Walks.strAscii hh _ X t)⟩
/-- a loop over range(n) -/
theorem for_range {x : Str} {body : List Stmt} {Q : Flow → Shared → Prop} {r : Addr} {n : Nat} {a b : Int} {t u v : Tok} {m₀ : Str → Option Value} {news₀ : List (Addr × Obj)} {h1 : Heap} {tk1 : Nat}
    (J : Nat → (Str → Option Value) → List (Addr × Obj) → Prop) (hh : A.handled = none) (hLe : env.locals = L) (hx : env.kindOf x = some .local) (hp : (env.scope.kind == .class || (env.scope.kind == .module && env.locals != env.globals)) = false)
    (F : Fr h₀ L h1 m₀) (N : News h₀ L h1 news₀) (j : J 0 m₀ news₀) (hr : IsRange h1 r a b 1 t u v) (hsm : Builtin.Range.small a b 1 = true) (hn : Builtin.Range.rangeSize a b 1 = ((n : Nat) : Int))
    (turn : ∀ I i v m news h tk oI, (∃ t, v = .int (a + (i : Int)) t) → i < n → J i m news → Fr h₀ L h (fun y => if y = x then some v else m y) → News h₀ L h ((I, oI) :: news) → (∀ p ∈ news, p.1 ≠ I) →
      wpAny (model prog w) A (execs body env) (ForPost h₀ L I oI (J (i + 1)) s Q) E { s with heap := h, toks := tk })
    (done : ∀ m news h tk, J n m news → Fr h₀ L h m → News h₀ L h news → Q .next { s with heap := h, toks := tk }) :
    wpAny (model prog w) A (pyIter (.ref r)) (fun it s₂ => ∃ I n, it = .ref I ∧ OwitRest prog w A E env x body Q I n s₂) E { s with heap := h1, toks := tk1 } := by
  have up : ∀ (o : Obj) b o', h1.get? b = some o' → (h1.push o).get? b = some o' := fun o b o' e => Heap.get?_push_of_some _ e
  have hIL : h1.objs.size ≠ L := Ne.symm (Nat.ne_of_lt F.ns.lt)
  refine wpAny_pyIter_range hr hsm ?_
  refine ⟨_, _, rfl, for_walks (fun _ => True) (LCg.range_walks hh a n) (fun i h st => ⟨_, st⟩) LCg.range_st J (fun _ _ _ _ => trivial) hLe hx hp (fun q => hIL (List.mem_singleton.mp q).symm) (fun _ _ b hb => by rw [List.mem_singleton.mp hb]; exact hIL) hIL (next_is_new F)
      (fun i v m news h tk oI => turn _ i v m news h tk oI) done n 0 _ tk1 m₀ news₀ (by omega) (by show IsRangeIter _ _ _ _ _; rw [hn]; simpa using Heap.get?_push_size _ rfl) (F.keeps (up _)) (N.grown (up _)) (fun p hp => Nat.ne_of_lt (Heap.lt_size (N p hp).1)) j⟩
end
end
section
section
variable {prog : Program} {w : World} {A : Around} {E : Value → Shared → Prop} {s : Shared} {h₀ : Heap} {L : Addr} {env : Env}
/-- a loop over a list of the call's own -/
theorem for_list {x : Str} {body : List Stmt} {Q : Flow → Shared → Prop} {ax : Addr} {its : List Value} {c : Nat} {m₀ : Str → Option Value} {news₀ : List (Addr × Obj)} {h1 : Heap} {tk1 : Nat}
    (J : Nat → (Str → Option Value) → List (Addr × Obj) → Prop) (hh : A.handled = none) (hLe : env.locals = L) (hx : env.kindOf x = some .local) (hp : (env.scope.kind == .class || (env.scope.kind == .module && env.locals != env.globals)) = false)
    (F : Fr h₀ L h1 m₀) (N : News h₀ L h1 news₀) (j : J 0 m₀ news₀) (hm : (ax, seqObj "list" its.toArray c) ∈ news₀) (hJ : ∀ i m nw, J i m nw → (ax, seqObj "list" its.toArray c) ∈ nw)
    (turn : ∀ I i v m news h tk oI, its[i]? = some v → i < its.length → J i m news → Fr h₀ L h (fun y => if y = x then some v else m y) → News h₀ L h ((I, oI) :: news) → (∀ p ∈ news, p.1 ≠ I) →
      wpAny (model prog w) A (execs body env) (ForPost h₀ L I oI (J (i + 1)) s Q) E { s with heap := h, toks := tk })
    (done : ∀ m news h tk, J its.length m news → Fr h₀ L h m → News h₀ L h news → Q .next { s with heap := h, toks := tk }) :
    wpAny (model prog w) A (pyIter (.ref ax)) (fun it s₂ => ∃ I n, it = .ref I ∧ OwitRest prog w A E env x body Q I n s₂) E { s with heap := h1, toks := tk1 } := by
  have up : ∀ (o : Obj) b o', h1.get? b = some o' → (h1.push o).get? b = some o' := fun o b o' e => Heap.get?_push_of_some _ e
  have hIL : h1.objs.size ≠ L := Ne.symm (Nat.ne_of_lt F.ns.lt)
  have haL : ax ≠ L := (N _ hm).2.1
  have hl : h1.IsList ax its.toArray := ⟨_, (N _ hm).1, rfl, _, rfl⟩
  have hlt : ax < h1.objs.size := Heap.lt_size (N _ hm).1
  have hsz : its.toArray.size = its.length := by simp
  refine wpAny_pyIter_list hl ?_
  have W := Walks.list (prog := prog) (w := w) hh h1.objs.size ax (Nat.ne_of_lt hlt) its.toArray
  rw [hsz] at W
  refine ⟨_, _, rfl, for_walks (LCg.SrcAt h₀ ax its.toArray) W (fun i h st => by obtain ⟨o, e, _⟩ := st.1; exact ⟨o, e⟩) LCg.list_st J (fun i m nw hj => .inr ⟨_, hJ i m nw hj, rfl, _, rfl⟩) hLe hx hp (fun q => ?_) (fun _ _ b hb => ?_) hIL (next_is_new F)
      (fun i v m news h tk oI hv => turn _ i v m news h tk oI (by simpa using hv)) done its.length 0 _ tk1 m₀ news₀ (by omega) ⟨⟨_, Heap.get?_push_size _ rfl, rfl, rfl⟩, hl.push _⟩ (F.keeps (up _)) (N.grown (up _)) (fun p hp => Nat.ne_of_lt (Heap.lt_size (N p hp).1)) j⟩
  · rcases List.mem_cons.mp q with q | q
    · exact hIL q.symm
    · exact haL (List.mem_singleton.mp q).symm
  · rcases List.mem_cons.mp hb with rfl | hb
    · exact hIL
    · rw [List.mem_singleton.mp hb]; exact haL
end
theorem slice_takeB (l : List Value) (k : Nat) : (slicePick l.toArray none (some (k : Int)) none).toList = l.take k := by
  by_cases hk : k ≤ l.length
  · exact slice_takeA l k hk
  · rw [slice_pick l _ _ 0 l.length ?_ (by omega) (by omega)]
    · rw [List.take_of_length_le (by simp), List.take_of_length_le (by omega)]; simp
    · unfold sliceBounds
      simp only [Option.getD_none, show (1 : Int) > 0 by decide, if_true]
      refine Prod.ext rfl (Prod.ext ?_ rfl)
      show max (0 : Int) (min (if (k : Int) < 0 then (k : Int) + (l.length : Int) else (k : Int)) (l.length : Int)) = (l.length : Int)
      rw [if_neg (by omega)]; omega
end
section
section
variable {prog : Program} {w : World} {A : Around} {E : Value → Shared → Prop} {s : Shared} {L : Addr} {env : Env}
def ForPostT (L I : Addr) (oI : Obj) (J : Heap → (Str → Option Value) → List (Addr × Obj) → Prop) (s₁ : Shared) (Q : Flow → Shared → Prop) (f : Flow) (s₂ : Shared) : Prop :=
  match f with
  | .ret v => Q (.ret v) s₂
  | .brk => Q .next s₂
  | _ => ∃ g h' tk' m' news', s₂ = { s₁ with heap := h', toks := tk' } ∧ Fr g L h' m' ∧ News g L h' ((I, oI) :: news') ∧ (∀ p ∈ news', p.1 ≠ I) ∧ J g m' news'
theorem for_walksT {I : Addr} {n : Nat} {P : Nat → Value → Prop} {St : Nat → Heap → Prop} {fp : List Addr} {x : Str} {body : List Stmt} {Q : Flow → Shared → Prop}
    (W : Walks prog w A I fp [I] n P St) (hIo : ∀ i h, St i h → ∃ o, h.get? I = some o)
    (hSt : ∀ i h h' o, St i h → h.get? I = some o → h'.get? I = some o → St i h')
    (J : Nat → Heap → (Str → Option Value) → List (Addr × Obj) → Prop) (hLe : env.locals = L) (hx : env.kindOf x = some .local) (hp : (env.scope.kind == .class || (env.scope.kind == .module && env.locals != env.globals)) = false)
    (hfpL : L ∉ fp) (hIL : I ≠ L)
    (turn : ∀ i g v m news h tk oI, P i v → i < n → J i g m news → Fr g L h (fun y => if y = x then some v else m y) → News g L h ((I, oI) :: news) → (∀ p ∈ news, p.1 ≠ I) →
      wpAny (model prog w) A (execs body env) (ForPostT L I oI (J (i + 1)) s Q) E { s with heap := h, toks := tk })
    (done : ∀ g m news h tk, J n g m news → Fr g L h m → News g L h news → Q .next { s with heap := h, toks := tk }) :
    ∀ (k i : Nat) (g h : Heap) (tk : Nat) (m : Str → Option Value) (news : List (Addr × Obj)), i + k = n → St i h → Fr g L h m → News g L h news → (∀ p ∈ news, p.1 ≠ I) → g.get? I = none → J i g m news →
      OwitRest prog w A E env x body Q I (k + 1) { s with heap := h, toks := tk } := by
  intro k
  induction k with
  | zero =>
    intro i g h tk m news hk st F N ne hI₀ j
    obtain rfl : i = n := by omega
    show wpAny _ _ (pyNext (.ref I)) _ _ _
    refine W.done _ _ _ st fun h' tk' hk' => ?_
    exact done g m news h' tk' j (LCg.fr_but F hk' (Ne.symm hIL) hI₀) (LCg.news_but N hk' ne)
  | succ k ih =>
    intro i g h tk m news hk st F N ne hI₀ j
    show wpAny _ _ (pyNext (.ref I)) _ _ _
    refine W.item i _ _ _ (by omega) st fun v h' tk' hP st' hk' => ?_
    have F1 := LCg.fr_but F hk' (Ne.symm hIL) hI₀
    have N1 := LCg.news_but N hk' ne
    obtain ⟨oI, hoI⟩ := hIo _ _ st'
    subst hLe
    show wpAny _ _ (storeName env x v) _ _ _
    refine wpAny_storeName_local hx F1.ns (fun h2 hn2 hs2 => ?_) hp
    have F2 := F1.set hn2 hs2
    have N2 := N1.set hs2
    have hI2 : h2.get? I = some oI := hs2.extBut _ _ hIL hoI
    have NI : News g env.locals h2 ((I, oI) :: news) := fun p hp => by
      rcases List.mem_cons.mp hp with rfl | hp
      · exact ⟨hI2, hIL, hI₀⟩
      · exact N2 p hp
    refine wpAny_mono (turn i g v m news h2 _ oI hP (by omega) j F2 NI ne) (fun f s2 hf => ?_) fun _ _ z => z
    have st2 : St (i + 1) h2 := W.frame _ _ _ st' fun b hb o e => hs2.extBut b o (fun q : b = env.locals => hfpL (q ▸ hb)) e
    have fin : (∃ g' h3 tk3 m3 news3, s2 = { s with heap := h3, toks := tk3 } ∧ Fr g' env.locals h3 m3 ∧ News g' env.locals h3 ((I, oI) :: news3) ∧ (∀ p ∈ news3, p.1 ≠ I) ∧ J (i + 1) g' m3 news3) → OwitRest prog w A E env x body Q I (k + 1) s2 := by
      rintro ⟨g', h3, tk3, m3, news3, rfl, F3, N3, ne3, j3⟩
      refine ih (i + 1) g' h3 tk3 m3 news3 (by omega) ?_ F3 (fun p hp => N3 p (.tail _ hp)) ne3 (N3 _ (.head _)).2.2 j3
      exact hSt _ _ _ _ st2 hI2 (N3 _ (.head _)).1
    cases f with
    | ret v => exact hf
    | brk => exact hf
    | next => exact fin hf
    | cont => exact fin hf
theorem for_rangeT {x : Str} {body : List Stmt} {Q : Flow → Shared → Prop} {r : Addr} {n : Nat} {a b : Int} {t u v : Tok} {g₀ : Heap} {m₀ : Str → Option Value} {news₀ : List (Addr × Obj)} {h1 : Heap} {tk1 : Nat}
    (J : Nat → Heap → (Str → Option Value) → List (Addr × Obj) → Prop) (hh : A.handled = none) (hLe : env.locals = L) (hx : env.kindOf x = some .local) (hp : (env.scope.kind == .class || (env.scope.kind == .module && env.locals != env.globals)) = false)
    (F : Fr g₀ L h1 m₀) (N : News g₀ L h1 news₀) (j : J 0 g₀ m₀ news₀) (hr : IsRange h1 r a b 1 t u v) (hsm : Builtin.Range.small a b 1 = true) (hn : Builtin.Range.rangeSize a b 1 = ((n : Nat) : Int))
    (turn : ∀ I i g v m news h tk oI, (∃ t, v = .int (a + (i : Int)) t) → i < n → J i g m news → Fr g L h (fun y => if y = x then some v else m y) → News g L h ((I, oI) :: news) → (∀ p ∈ news, p.1 ≠ I) →
      wpAny (model prog w) A (execs body env) (ForPostT L I oI (J (i + 1)) s Q) E { s with heap := h, toks := tk })
    (done : ∀ g m news h tk, J n g m news → Fr g L h m → News g L h news → Q .next { s with heap := h, toks := tk }) :
    wpAny (model prog w) A (pyIter (.ref r)) (fun it s₂ => ∃ I n, it = .ref I ∧ OwitRest prog w A E env x body Q I n s₂) E { s with heap := h1, toks := tk1 } := by
  have up : ∀ (o : Obj) b o', h1.get? b = some o' → (h1.push o).get? b = some o' := fun o b o' e => Heap.get?_push_of_some _ e
  have hIL : h1.objs.size ≠ L := Ne.symm (Nat.ne_of_lt F.ns.lt)
  refine wpAny_pyIter_range hr hsm ?_
  refine ⟨_, _, rfl, for_walksT (LCg.range_walks hh a n) (fun i h st => ⟨_, st⟩) (fun i h h' o st e e' => e'.trans (e.symm.trans st)) J hLe hx hp (fun q => hIL (List.mem_singleton.mp q).symm) hIL
      (fun i g v m news h tk oI => turn _ i g v m news h tk oI) done n 0 g₀ _ tk1 m₀ news₀ (by omega) (by show IsRangeIter _ _ _ _ _; rw [hn]; simpa using Heap.get?_push_size _ rfl) (F.keeps (up _)) (N.grown (up _)) (fun p hp => Nat.ne_of_lt (Heap.lt_size (N p hp).1)) (next_is_new F) j⟩
end
end
theorem ring6 : True := by first | walk1 | trivial
section
local macro_rules | `(tactic| walk_at "compareOp In str str") => `(tactic| (refine' my_in ?mb ?_; (case mb => first | assumption | (refine (?_ : _ = true); kernel_rfl!) | (refine (?_ : _ = false); kernel_rfl!))))
local macro_rules | `(tactic| walk_at "compareOp Eq str str") => `(tactic| (refine' my_eq ?mb ?_; (case mb => first | assumption | (refine (?_ : _ = true); kernel_rfl!) | (refine (?_ : _ = false); kernel_rfl!))))
local macro_rules | `(tactic| walk_at "compareOp NotEq str str") => `(tactic| (refine' my_ne ?mb ?_; (case mb => first | assumption | (refine (?_ : _ = true); kernel_rfl!) | (refine (?_ : _ = false); kernel_rfl!))))
local macro_rules | `(tactic| walk_at "truthy str") => `(tactic| (refine' my_true ?ml ?mb ?_; (case ml => first | assumption | decide +kernel); (case mb => first | assumption | (refine (?_ : _ = true); kernel_rfl!) | (refine (?_ : _ = false); kernel_rfl!)); intro k9))
local macro_rules | `(tactic| walk_at "inplaceOp Add str str") => `(tactic| (refine' my_iadd ?mz ?ms ?_; (case mz => assumption); (case ms => assumption); intro t9 k9))
local macro_rules | `(tactic| walk_at "ite") => `(tactic| first | refine ite_tt ?_ | refine ite_ff ?_)
local macro_rules | `(tactic| walk_at "compareOp NotIn str str") => `(tactic| (refine' my_nin ?mb ?_; (case mb => assumption)))
local macro_rules | `(tactic| walk_at "call ref") => `(tactic| (k_here; (with_reducible show wpAny _ _ (call (Value.ref 575) [Value.ref _, Value.int 1 _]) _ _ _); k_dflt (first
  | (refine' c_readC ?k1 ?k2 ?k3 ?k4 ?k5 ?k6 ?k7 ?k8 ?kd ?ku ?kl ?kp ?kx ?_; (case k1 => k_asm); (case k2 => k_asm); (case k3 => k_asm); (case k4 => k_asm); (case k5 => first | exact rfl | assumption); (case k6 => k_asm); (case k7 => k_mem); (case k8 => k_updF); (case kd => ktr_room); (case ku => ktr_units); (case kl => assumption); (case kp => assumption); (case kx => assumption); k_whole; intro t9 u9 h9 tk9 F9 N9; (try dsimp only at N9); (try dsimp only))
  | (refine' c_readN ?k1 ?k2 ?k3 ?k4 ?k5 ?k6 ?k7 ?k8 ?kd ?ku ?kl ?kq ?kp ?_; (case k1 => k_asm); (case k2 => k_asm); (case k3 => k_asm); (case k4 => k_asm); (case k5 => first | exact rfl | assumption); (case k6 => k_asm); (case k7 => k_mem); (case k8 => k_updF); (case kd => ktr_room); (case ku => ktr_units); (case kl => assumption); (case kq => assumption); (case kp => assumption); k_whole; intro t9 h9 tk9 F9 N9; (try dsimp only at N9); (try dsimp only)))))
section
theorem w_rest (w : World) (mean : ExcName → Option Value) (mg mb : Str → Option Value)
    (dp un : Nat) (gd : Option (List Code)) (cn : Str) (cs : Scope) (a : Addr) (ccd : Value) (cl : List (Str × Addr)) (outer : List Env) (A₀ : Around) (base h₀ : Heap) (L : Addr) (m : Str → Option Value) (s : Shared) (Q E : Value → Shared → Prop) (g' : Heap) (L' : Addr) (W : Flow → Shared → Prop) (E' : Value → Shared → Prop)
    (nx nd io d pb ci q : Addr) (tq : Tok) (rest : List (Addr × Obj)) (k0 k1 k2 k3 v2 : Tok) (t1 t2 t3 u2 : Tok) (nl : Value) (l : List Nat) (B : Below (ktrTop dp un gd cn cs L a ccd cl outer) base (envX cn cs L a ccd cl :: outer) g') (X : (Mine.K w.params).In g') (T : Top Mine.q (looseW Mine.q Mine.loose) mean mg mb g') (n1 : @Ne Nat nx nd) (n2 : @Ne Nat d nd) (n3 : @Ne Nat io nd) (n4 : @Ne Nat nx d) (n5 : @Ne Nat io d) (r1 : ∀ p ∈ rest, p.1 ≠ nd) (r2 : ∀ p ∈ rest, p.1 ≠ d) (rc : ∀ p ∈ rest, p.1 ≠ ci) (hdp : dp + 12 < recursionLimit) (hun : un + 96 < cLine) (hlen : l.length < 100000) (Xt Rt : List Nat)
    (hret : ∀ tt tl u3 pos ch h tk, l.drop pos = Rt → pos ≤ l.length → Fr g' L' h (gtM nx ci (tx Xt) tt ch) → News g' L' h ((nd, dictOf (nlD w.params k0 k1 k2 k3 v2 io pb (lnA l pos) tl) 4) :: (nx, instObj 77 nd) :: (d, dictOf (ioD w.params t1 t2 t3 u2 u3 nl (tx l) ((pos : Nat))) 3) :: (io, instObj 629 d) :: (ci, ciO q tq false) :: (q, methodObj (.ref 60) (.ref nx)) :: rest) → W (.ret (.str (tx Xt) tt)) { s with heap := h, toks := tk })
    (hend : ∀ tt tl u3 pos ch h tk, l.drop pos = [] → Rt = [] → pos ≤ l.length → Fr g' L' h (gtM nx ci (tx Xt) tt ch) → News g' L' h ((nd, dictOf (nlD w.params k0 k1 k2 k3 v2 io pb (lnA l pos) tl) 4) :: (nx, instObj 77 nd) :: (d, dictOf (ioD w.params t1 t2 t3 u2 u3 nl (tx l) ((pos : Nat))) 3) :: (io, instObj 629 d) :: (ci, ciE) :: (q, methodObj (.ref 60) (.ref nx)) :: rest) → W .next { s with heap := h, toks := tk }) :
    ∀ (k pos : Nat) (tok : List Nat) (tt tl u3 : Tok) (ch : Option Value) (h : Heap) (tk : Nat), l.length - pos ≤ k → pos ≤ l.length → tok.length ≤ pos → ntT (l.drop pos) 2 tok = (Xt, Rt) →
      Fr g' L' h (gtM nx ci (tx tok) tt ch) → News g' L' h ((nd, dictOf (nlD w.params k0 k1 k2 k3 v2 io pb (lnA l pos) tl) 4) :: (nx, instObj 77 nd) :: (d, dictOf (ioD w.params t1 t2 t3 u2 u3 nl (tx l) ((pos : Nat))) 3) :: (io, instObj 629 d) :: (ci, ciO q tq false) :: (q, methodObj (.ref 60) (.ref nx)) :: rest) → OwitRest rw_oy0313_02.row.prog w ((ktrTop dp un gd cn cs L a ccd cl outer).deeper (gtE L')) E' (gtE L') (ofString "ch") gtW W ci (k + 1) { s with heap := h, toks := tk } := by
  revert X; k_fill; intro X
  intro k
  induction k with
  | zero =>
    intro pos tok tt tl u3 ch h tk hk hpl htl hn F N
    have hd : l.drop pos = [] := List.drop_eq_nil_of_le (by omega)
    show wpAny _ _ (pyNext (.ref ci)) _ _ _
    refine nx_end w mean mg mb (dp + 1) (un + 3) gd (ofString "_netrclex.get_token") (fS (subAt 3 2)) 67 (.ref 66) [] (envX cn cs L a ccd cl :: outer) _ base g' L' _ _ _ _ nx nd io d pb ci q tq rest k0 k1 k2 k3 v2 t1 t2 t3 u2 nl l pos _ tl u3 B F X T rfl N n1 n2 n3 n4 n5 r1 r2 rc (by omega) (by omega) hlen hpl hd ?_
    intro h' tk' F' N'
    rw [hd] at hn
    obtain ⟨rfl, rfl⟩ : tok = Xt ∧ [] = Rt := by simpa [ntT] using hn
    exact hend tt tl u3 pos ch h' tk' hd rfl hpl F' N'
  | succ k ih =>
    intro pos tok tt tl u3 ch h tk hk hpl htl hn F N
    cases hd : l.drop pos with
    | nil =>
      show wpAny _ _ (pyNext (.ref ci)) _ _ _
      refine nx_end w mean mg mb (dp + 1) (un + 3) gd (ofString "_netrclex.get_token") (fS (subAt 3 2)) 67 (.ref 66) [] (envX cn cs L a ccd cl :: outer) _ base g' L' _ _ _ _ nx nd io d pb ci q tq rest k0 k1 k2 k3 v2 t1 t2 t3 u2 nl l pos _ tl u3 B F X T rfl N n1 n2 n3 n4 n5 r1 r2 rc (by omega) (by omega) hlen hpl hd ?_
      intro h' tk' F' N'
      rw [hd] at hn
      obtain ⟨rfl, rfl⟩ : tok = Xt ∧ [] = Rt := by simpa [ntT] using hn
      exact hend tt tl u3 pos ch h' tk' hd rfl hpl F' N'
    | cons c post =>
      have hlt := drop_lt hd
      have hds := drop_succ hd
      show wpAny _ _ (pyNext (.ref ci)) _ _ _
      refine nx_ch w mean mg mb (dp + 1) (un + 3) gd (ofString "_netrclex.get_token") (fS (subAt 3 2)) 67 (.ref 66) [] (envX cn cs L a ccd cl :: outer) _ base g' L' _ _ _ _ nx nd io d pb ci q tq rest k0 k1 k2 k3 v2 t1 t2 t3 u2 nl l post pos c _ tl u3 B F X T rfl N n1 n2 n3 n4 n5 r1 r2 rc (by omega) (by omega) hlen hd (lnA_ok l pos) ?_
      intro t u3' ln' tl' h' tk' hl' F' N'
      rw [hl', ← lnA_succ hd] at N'
      dsimp only [OwitTurn]
      repeat' ((fail_if_success (with_reducible show wpAny _ _ (execs _ _) _ _ _)); ktr_step)
      rename Fr g' L' _ _ => F9
      rename News g' L' _ _ => N9
      rw [gtM_ch] at F9
      have f := facts_of (c := c) rfl
      have hsz : ∀ z : List Nat, z.length ≤ 2 → (tx (tok ++ z)).length < 400000 := fun z hz => by rw [len_tx, List.length_append]; omega
      have key : ntT (c :: post) 2 tok = (Xt, Rt) := by rw [← hd]; exact hn
      cases post with
      | nil =>
        refine wb_e w mean mg mb dp un gd cn cs a ccd cl outer A₀ base h₀ L m _ Q E g' L' _ E' nx nd io d pb ci q tq rest k0 k1 k2 k3 v2 t1 t2 t3 u2 nl l tok tt t _ u3' (pos + 1) c (tx [c]) (tx []) _ _ (tx_app _ _) (by rw [s_no]; exact tx_app _ _) (hsz _ (by simp)) (hsz _ (by simp)) f.wn f.bs B X T F9 N9 n1 n2 n3 n4 n5 r1 r2 rc hdp hun hlen hlt hds ?_ ?_ ?_
        · intro h1 h2 tk2 F2 N2
          obtain ⟨rfl, rfl⟩ : tok = Xt ∧ [] = Rt := by simpa [ntT, h1] using key
          exact hret tt _ u3' (pos + 1) _ h2 tk2 hds hlt F2 N2
        · intro h1 h3 tt2 t2 h2 tk2 F2 N2
          have h3' := eq_of_beq h3
          subst h3'
          rw [List.append_nil] at F2
          refine ih (pos + 1) tok tt2 _ u3' _ h2 tk2 (by omega) hlt (by omega) ?_ F2 N2
          rw [hds]
          simpa [ntT, h1] using key
        · intro h1 h3 tt2 h2 tk2 F2 N2
          have h3' := beq_eq_false_iff_ne.mp h3
          refine ih (pos + 1) (tok ++ [c]) tt2 _ u3' _ h2 tk2 (by omega) hlt (by simp; omega) ?_ F2 N2
          rw [hds]
          simpa [ntT, h1, h3'] using key
      | cons c2 post =>
        have hlt2 := drop_lt hds
        have hds2 := drop_succ hds
        refine wb_c w mean mg mb dp un gd cn cs a ccd cl outer A₀ base h₀ L m _ Q E g' L' _ E' nx nd io d pb ci q tq rest k0 k1 k2 k3 v2 t1 t2 t3 u2 nl l tok tt t _ u3' (pos + 1) c c2 post (tx [c]) (tx []) _ _ (tx_app _ _) (tx_app _ _) (hsz _ (by simp)) (hsz _ (by simp)) f.wn f.bs B X T F9 N9 n1 n2 n3 n4 n5 r1 r2 rc hdp hun hlen hds ?_ ?_ ?_
        · intro h1 h2 tk2 F2 N2
          obtain ⟨rfl, rfl⟩ : tok = Xt ∧ c2 :: post = Rt := by simpa [ntT, h1] using key
          exact hret tt _ u3' (pos + 1) _ h2 tk2 hds hlt F2 N2
        · intro h1 h3 tt2 t2 tl2 u32 h2 tk2 F2 N2
          have h3' := eq_of_beq h3
          subst h3'
          refine ih (pos + 2) (tok ++ [c2]) tt2 _ u32 _ h2 tk2 (by omega) hlt2 (by simp; omega) ?_ F2 N2
          rw [hds2]
          simpa [ntT, h1] using key
        · intro h1 h3 tt2 h2 tk2 F2 N2
          have h3' := beq_eq_false_iff_ne.mp h3
          refine ih (pos + 1) (tok ++ [c]) tt2 _ u3' _ h2 tk2 (by omega) hlt (by simp; omega) ?_ F2 N2
          rw [hds]
          simpa [ntT, h1, h3'] using key
end
theorem ring7 : True := by first | walk1 | trivial
section
local macro_rules | `(tactic| walk_at "call ref") => `(tactic| (k_here; (first | (with_reducible show wpAny _ _ (call (Value.ref 60) _) _ _ _) | (with_reducible show wpAny _ _ (call (Prod.fst (Value.ref 60, _)) _) _ _ _)); k_dflt (show wpAny _ _ (call (Value.ref 60) [Value.ref _]) _ _ _); k_dflt (first
  | (refine' rch_c ?k1 ?k2 ?k3 ?k4 ?k5 ?k6 ?e1 ?e2 ?e3 ?e4 ?e5 ?r1 ?r2 ?rc ?kd ?ku ?kl ?kp ?_; (case k1 => k_asm); (case k2 => k_asm); (case k3 => k_asm); (case k4 => k_asm); (case k5 => first | exact rfl | assumption); (case k6 => k_asm); (case e1 => assumption); (case e2 => assumption); (case e3 => assumption); (case e4 => assumption); (case e5 => assumption); (case r1 => assumption); (case r2 => assumption); (case rc => assumption); (case kd => ktr_room); (case ku => ktr_units); (case kl => assumption); (case kp => assumption); k_whole; intro t9 u9 tl9 h9 tk9 F9 N9; (try dsimp only at N9); (try dsimp only))
  | (refine' rch_e ?k1 ?k2 ?k3 ?k4 ?k5 ?k6 ?e1 ?e2 ?e3 ?e4 ?e5 ?r1 ?r2 ?rc ?kd ?ku ?kl ?kq ?kp ?_; (case k1 => k_asm); (case k2 => k_asm); (case k3 => k_asm); (case k4 => k_asm); (case k5 => first | exact rfl | assumption); (case k6 => k_asm); (case e1 => assumption); (case e2 => assumption); (case e3 => assumption); (case e4 => assumption); (case e5 => assumption); (case r1 => assumption); (case r2 => assumption); (case rc => assumption); (case kd => ktr_room); (case ku => ktr_units); (case kl => assumption); (case kq => assumption); (case kp => assumption); k_whole; intro t9 h9 tk9 F9 N9; (try dsimp only at N9); (try dsimp only)))))
section
theorem o_body : ∀ (w : World) (mean : ExcName → Option Value) (mg mb : Str → Option Value)
    (dp un : Nat) (gd : Option (List Code)) (cn : Str) (cs : Scope) (a : Addr) (ccd : Value) (cl : List (Str × Addr)) (outer : List Env) (A₀ : Around) (base h₀ : Heap) (L : Addr) (m : Str → Option Value) (s : Shared) (Q E : Value → Shared → Prop) (g' : Heap) (L' : Addr) (W : Flow → Shared → Prop) (E' : Value → Shared → Prop)
    (nx nd io d pb ci q : Addr) (tq : Tok) (rest : List (Addr × Obj)) (k0 k1 k2 k3 v2 : Tok) (t1 t2 t3 u2 : Tok) (nl : Value) (l : List Nat) (tt tc tl u3 : Tok) (pos c : Nat) (B : Below (ktrTop dp un gd cn cs L a ccd cl outer) base (envX cn cs L a ccd cl :: outer) g') (X : (Mine.K w.params).In g') (T : Top Mine.q (looseW Mine.q Mine.loose) mean mg mb g') (F : Fr g' L' s.heap (gtM nx ci (ofString "") tt (some (.str (tx [c]) tc))))
    (N : News g' L' s.heap ((nd, dictOf (nlD w.params k0 k1 k2 k3 v2 io pb (lnA l pos) tl) 4) :: (nx, instObj 77 nd) :: (d, dictOf (ioD w.params t1 t2 t3 u2 u3 nl (tx l) ((pos : Nat))) 3) :: (io, instObj 629 d) :: (ci, ciO q tq false) :: (q, methodObj (.ref 60) (.ref nx)) :: rest)) (n1 : @Ne Nat nx nd) (n2 : @Ne Nat d nd) (n3 : @Ne Nat io nd) (n4 : @Ne Nat nx d) (n5 : @Ne Nat io d) (r1 : ∀ p ∈ rest, p.1 ≠ nd) (r2 : ∀ p ∈ rest, p.1 ≠ d) (rc : ∀ p ∈ rest, p.1 ≠ ci) (hE : PassesOwn (model rw_oy0313_02.row.prog w) ((ktrTop dp un gd cn cs L a ccd cl outer).deeper (gtE L')) (gtE L') E') (hdp : dp + 12 < recursionLimit) (hun : un + 96 < cLine) (hlen : l.length < 100000) (hpl : pos ≤ l.length) (hp0 : 1 ≤ pos) (Xt Rt : List Nat)
    (key : ntT (c :: l.drop pos) 0 [] = (Xt, Rt))
    (hws : ws c = true → ∀ h' tk', Fr g' L' h' (gtM nx ci (ofString "") tt (some (.str (tx [c]) tc))) → News g' L' h' ((nd, dictOf (nlD w.params k0 k1 k2 k3 v2 io pb (lnA l pos) tl) 4) :: (nx, instObj 77 nd) :: (d, dictOf (ioD w.params t1 t2 t3 u2 u3 nl (tx l) ((pos : Nat))) 3) :: (io, instObj 629 d) :: (ci, ciO q tq false) :: (q, methodObj (.ref 60) (.ref nx)) :: rest) → W .cont { s with heap := h', toks := tk' })
    (hret : ∀ tt tl u3 pos ch h tk, l.drop pos = Rt → pos ≤ l.length → Fr g' L' h (gtM nx ci (tx Xt) tt ch) → News g' L' h ((nd, dictOf (nlD w.params k0 k1 k2 k3 v2 io pb (lnA l pos) tl) 4) :: (nx, instObj 77 nd) :: (d, dictOf (ioD w.params t1 t2 t3 u2 u3 nl (tx l) ((pos : Nat))) 3) :: (io, instObj 629 d) :: (ci, ciO q tq false) :: (q, methodObj (.ref 60) (.ref nx)) :: rest) → W (.ret (.str (tx Xt) tt)) { s with heap := h, toks := tk })
    (hend : ∀ tt tl u3 pos ch h tk, l.drop pos = [] → Rt = [] → pos ≤ l.length → Fr g' L' h (gtM nx ci (tx Xt) tt ch) → News g' L' h ((nd, dictOf (nlD w.params k0 k1 k2 k3 v2 io pb (lnA l pos) tl) 4) :: (nx, instObj 77 nd) :: (d, dictOf (ioD w.params t1 t2 t3 u2 u3 nl (tx l) ((pos : Nat))) 3) :: (io, instObj 629 d) :: (ci, ciE) :: (q, methodObj (.ref 60) (.ref nx)) :: rest) → W .next { s with heap := h, toks := tk }),
    wpAny (model rw_oy0313_02.row.prog w) ((ktrTop dp un gd cn cs L a ccd cl outer).deeper (gtE L')) (execs gtB (gtE L')) W E' s := by
  refine hk40 (by repeat first | exact nW | exact nA | exact nS | apply nP | infer_instance) ((?f : ∀ w mean mg mb dp un gd cn cs a ccd cl outer A₀ base h₀ L m s Q E g' L' W E' nx nd io d pb ci q tq rest k0 k1 k2 k3 v2 t1, Hd40 _ w mean mg mb dp un gd cn cs a ccd cl outer A₀ base h₀ L m s Q E g' L' W E' nx nd io d pb ci q tq rest k0 k1 k2 k3 v2 t1) _ _ _ _ _ _ _ _ _ _ _ _ _ _ _ _ _ _ _ _ _ _ _ _ _ _ _ _ _ _ _ _ _ _ _ _ _ _ _ _)
  set_option tactic.hygienic false in (intros; intro t2; intros)
  revert X; k_fill; intro X
  have f := facts_of (c := c) rfl
  have fwn := f.wn
  have fdq := f.dq
  have fbs := f.bs
  clear f
  by_cases hw : ws c = true
  · rw [hw] at fwn
    repeat' ktr_step
    all_goals (try dsimp only)
    all_goals exact hws hw _ _ (by assumption) (by assumption)
  · simp only [Bool.not_eq_true] at hw
    rw [hw] at fwn
    by_cases h34 : c = 34
    · subst h34
      have fdq' : ((tx [34]).cps.toList == (ofString "\"").cps.toList) = true := fdq
      clear fdq
      repeat' ((fail_if_success (with_reducible show wpAny _ _ (exec (Stmt.For _ _ _ _ _) _) _ _ _)); ktr_step)
      rename Fr g' L' _ _ => F9
      rename News g' L' _ _ => N9
      refine nt_for ?_ (hE := hE)
      repeat' ((fail_if_success (with_reducible show wpAny _ _ (pyIter _) _ _ _)); ktr_step)
      refine ci_iter ⟨_, (N9 _ (.tail _ (.tail _ (.tail _ (.tail _ (.head _)))))).1, rfl⟩ ?_
      refine ⟨ci, _, rfl, q_rest w mean mg mb dp un gd cn cs a ccd cl outer A₀ base h₀ L m s Q E g' L' _ E' nx nd io d pb ci q tq rest k0 k1 k2 k3 v2 t1 t2 t3 u2 nl l B X T n1 n2 n3 n4 n5 r1 r2 rc hdp hun hlen Xt Rt ?_ ?_ l.length pos [] tt tl u3 _ _ _ (by omega) hpl (Nat.zero_le _) ?_ (by rw [← s_no]; exact F9) N9⟩
      · intro tt2 tl2 u32 pos2 ch2 h2 tk2 e1 e2 F2 N2
        exact hret tt2 tl2 u32 pos2 ch2 h2 tk2 e1 e2 F2 N2
      · intro tt2 tl2 u32 pos2 ch2 h2 tk2 e1 e2 e3 F2 N2
        repeat' ktr_step
        exact hend tt2 tl2 u32 pos2 ch2 _ _ e1 e2 e3 (by assumption) (by assumption)
      · simpa [ntT, hw] using key
    · have fdq' : ((tx [c]).cps.toList == (ofString "\"").cps.toList) = false := by rw [fdq]; exact beq_eq_false_iff_ne.mpr h34
      clear fdq
      by_cases h92 : c = 92
      · subst h92
        have fbs' : ((tx [92]).cps.toList == (ofString "\\").cps.toList) = true := fbs
        clear fbs
        cases hd : l.drop pos with
        | nil =>
          have hz : ofString "" ++ ofString "" = tx [] := by rw [s_no]; exact tx_app [] []
          have hzl : (tx []).length < 400000 := by rw [len_tx]; decide
          repeat' ((fail_if_success (with_reducible show wpAny _ _ (exec (Stmt.For _ _ _ _ _) _) _ _ _)); ktr_step)
          rename Fr g' L' _ _ => F9
          rename News g' L' _ _ => N9
          simp only [gtM_tokch] at F9
          refine nt_for ?_ (hE := hE)
          repeat' ((fail_if_success (with_reducible show wpAny _ _ (pyIter _) _ _ _)); ktr_step)
          refine ci_iter ⟨_, (N9 _ (.tail _ (.tail _ (.tail _ (.tail _ (.head _)))))).1, rfl⟩ ?_
          refine ⟨ci, _, rfl, w_rest w mean mg mb dp un gd cn cs a ccd cl outer A₀ base h₀ L m s Q E g' L' _ E' nx nd io d pb ci q tq rest k0 k1 k2 k3 v2 t1 t2 t3 u2 nl l B X T n1 n2 n3 n4 n5 r1 r2 rc hdp hun hlen Xt Rt ?_ ?_ l.length pos [] _ _ _ _ _ _ (by omega) hpl (Nat.zero_le _) ?_ F9 N9⟩
          · intro tt2 tl2 u32 pos2 ch2 h2 tk2 e1 e2 F2 N2
            exact hret tt2 tl2 u32 pos2 ch2 h2 tk2 e1 e2 F2 N2
          · intro tt2 tl2 u32 pos2 ch2 h2 tk2 e1 e2 e3 F2 N2
            repeat' ktr_step
            exact hend tt2 tl2 u32 pos2 ch2 _ _ e1 e2 e3 (by assumption) (by assumption)
          · rw [hd] at key ⊢
            simpa [ntT, hw] using key
        | cons c2 post =>
          have hlt := drop_lt hd
          have hds := drop_succ hd
          have hz : ofString "" ++ tx [c2] = tx [c2] := by rw [s_no]; exact tx_app [] [c2]
          have hzl : (tx [c2]).length < 400000 := by rw [len_tx]; simp
          repeat' ((fail_if_success (with_reducible show wpAny _ _ (exec (Stmt.For _ _ _ _ _) _) _ _ _)); ktr_step)
          rename Fr g' L' _ _ => F9
          rename News g' L' _ _ => N9
          simp only [gtM_tokch] at F9
          refine nt_for ?_ (hE := hE)
          repeat' ((fail_if_success (with_reducible show wpAny _ _ (pyIter _) _ _ _)); ktr_step)
          refine ci_iter ⟨_, (N9 _ (.tail _ (.tail _ (.tail _ (.tail _ (.head _)))))).1, rfl⟩ ?_
          refine ⟨ci, _, rfl, w_rest w mean mg mb dp un gd cn cs a ccd cl outer A₀ base h₀ L m s Q E g' L' _ E' nx nd io d pb ci q tq rest k0 k1 k2 k3 v2 t1 t2 t3 u2 nl l B X T n1 n2 n3 n4 n5 r1 r2 rc hdp hun hlen Xt Rt ?_ ?_ l.length (pos + 1) [c2] _ _ _ _ _ _ (by omega) hlt (by simp) ?_ F9 N9⟩
          · intro tt2 tl2 u32 pos2 ch2 h2 tk2 e1 e2 F2 N2
            exact hret tt2 tl2 u32 pos2 ch2 h2 tk2 e1 e2 F2 N2
          · intro tt2 tl2 u32 pos2 ch2 h2 tk2 e1 e2 e3 F2 N2
            repeat' ktr_step
            exact hend tt2 tl2 u32 pos2 ch2 _ _ e1 e2 e3 (by assumption) (by assumption)
          · rw [hds]
            rw [hd] at key
            simpa [ntT, hw] using key
      · have fbs' : ((tx [c]).cps.toList == (ofString "\\").cps.toList) = false := by rw [fbs]; exact beq_eq_false_iff_ne.mpr h92
        clear fbs
        have hz : ofString "" ++ tx [c] = tx [c] := by rw [s_no]; exact tx_app [] [c]
        have hzl : (tx [c]).length < 400000 := by rw [len_tx]; simp
        repeat' ((fail_if_success (with_reducible show wpAny _ _ (exec (Stmt.For _ _ _ _ _) _) _ _ _)); ktr_step)
        rename Fr g' L' _ _ => F9
        rename News g' L' _ _ => N9
        simp only [gtM_tok] at F9
        refine nt_for ?_ (hE := hE)
        repeat' ((fail_if_success (with_reducible show wpAny _ _ (pyIter _) _ _ _)); ktr_step)
        refine ci_iter ⟨_, (N9 _ (.tail _ (.tail _ (.tail _ (.tail _ (.head _)))))).1, rfl⟩ ?_
        refine ⟨ci, _, rfl, w_rest w mean mg mb dp un gd cn cs a ccd cl outer A₀ base h₀ L m s Q E g' L' _ E' nx nd io d pb ci q tq rest k0 k1 k2 k3 v2 t1 t2 t3 u2 nl l B X T n1 n2 n3 n4 n5 r1 r2 rc hdp hun hlen Xt Rt ?_ ?_ l.length pos [c] _ _ _ _ _ _ (by omega) hpl (by simp; omega) ?_ F9 N9⟩
        · intro tt2 tl2 u32 pos2 ch2 h2 tk2 e1 e2 F2 N2
          exact hret tt2 tl2 u32 pos2 ch2 h2 tk2 e1 e2 F2 N2
        · intro tt2 tl2 u32 pos2 ch2 h2 tk2 e1 e2 e3 F2 N2
          repeat' ktr_step
          exact hend tt2 tl2 u32 pos2 ch2 _ _ e1 e2 e3 (by assumption) (by assumption)
        · simpa [ntT, hw, h34, h92] using key
end
end
theorem ring8 : True := by first | walk1 | trivial
section
local macro_rules | `(tactic| walk_at "call builtin:iter") => `(tactic| (k_here; (with_reducible show wpAny _ _ (call (Value.builtin "iter") [Value.ref _, Value.str _ _]) _ _ _); k_dflt (refine' ci_new ?F ?N ?hT ?_; (case F => k_asm); (case N => k_asm); (case hT => exact ⟨_, News.get (by k_asm) (by k_mem), rfl⟩)); intro D' h' F' N' l1; (try k_lt l1); (try k_sweep)))
section
theorem o_rest (w : World) (mean : ExcName → Option Value) (mg mb : Str → Option Value)
    (dp un : Nat) (gd : Option (List Code)) (cn : Str) (cs : Scope) (a : Addr) (ccd : Value) (cl : List (Str × Addr)) (outer : List Env) (A₀ : Around) (base h₀ : Heap) (L : Addr) (m : Str → Option Value) (s : Shared) (Q E : Value → Shared → Prop) (g' : Heap) (L' : Addr) (W : Flow → Shared → Prop) (E' : Value → Shared → Prop)
    (nx nd io d pb ci q : Addr) (tq : Tok) (rest : List (Addr × Obj)) (k0 k1 k2 k3 v2 : Tok) (t1 t2 t3 u2 : Tok) (nl : Value) (l : List Nat) (B : Below (ktrTop dp un gd cn cs L a ccd cl outer) base (envX cn cs L a ccd cl :: outer) g') (X : (Mine.K w.params).In g') (T : Top Mine.q (looseW Mine.q Mine.loose) mean mg mb g') (n1 : @Ne Nat nx nd) (n2 : @Ne Nat d nd) (n3 : @Ne Nat io nd) (n4 : @Ne Nat nx d) (n5 : @Ne Nat io d) (r1 : ∀ p ∈ rest, p.1 ≠ nd) (r2 : ∀ p ∈ rest, p.1 ≠ d) (rc : ∀ p ∈ rest, p.1 ≠ ci) (hE : PassesOwn (model rw_oy0313_02.row.prog w) ((ktrTop dp un gd cn cs L a ccd cl outer).deeper (gtE L')) (gtE L') E') (hdp : dp + 12 < recursionLimit) (hun : un + 96 < cLine) (hlen : l.length < 100000) (Xt Rt : List Nat)
    (hret : ∀ tt tl u3 pos ch h tk, l.drop pos = Rt → pos ≤ l.length → Fr g' L' h (gtM nx ci (tx Xt) tt ch) → News g' L' h ((nd, dictOf (nlD w.params k0 k1 k2 k3 v2 io pb (lnA l pos) tl) 4) :: (nx, instObj 77 nd) :: (d, dictOf (ioD w.params t1 t2 t3 u2 u3 nl (tx l) ((pos : Nat))) 3) :: (io, instObj 629 d) :: (ci, ciO q tq false) :: (q, methodObj (.ref 60) (.ref nx)) :: rest) → W (.ret (.str (tx Xt) tt)) { s with heap := h, toks := tk })
    (hend : ∀ tt tl u3 pos ch h tk, l.drop pos = [] → Rt = [] → pos ≤ l.length → Fr g' L' h (gtM nx ci (tx Xt) tt ch) → News g' L' h ((nd, dictOf (nlD w.params k0 k1 k2 k3 v2 io pb (lnA l pos) tl) 4) :: (nx, instObj 77 nd) :: (d, dictOf (ioD w.params t1 t2 t3 u2 u3 nl (tx l) ((pos : Nat))) 3) :: (io, instObj 629 d) :: (ci, ciE) :: (q, methodObj (.ref 60) (.ref nx)) :: rest) → W .next { s with heap := h, toks := tk }) :
    ∀ (k pos : Nat) (tt tl u3 : Tok) (ch : Option Value) (h : Heap) (tk : Nat), l.length - pos ≤ k → pos ≤ l.length → ntT (l.drop pos) 0 [] = (Xt, Rt) →
      Fr g' L' h (gtM nx ci (ofString "") tt ch) → News g' L' h ((nd, dictOf (nlD w.params k0 k1 k2 k3 v2 io pb (lnA l pos) tl) 4) :: (nx, instObj 77 nd) :: (d, dictOf (ioD w.params t1 t2 t3 u2 u3 nl (tx l) ((pos : Nat))) 3) :: (io, instObj 629 d) :: (ci, ciO q tq false) :: (q, methodObj (.ref 60) (.ref nx)) :: rest) → OwitRest rw_oy0313_02.row.prog w ((ktrTop dp un gd cn cs L a ccd cl outer).deeper (gtE L')) E' (gtE L') (ofString "ch") gtB W ci (k + 2) { s with heap := h, toks := tk } := by
  revert X; k_fill; intro X
  intro k
  induction k with
  | zero =>
    intro pos tt tl u3 ch h tk hk hpl hn F N
    have hd : l.drop pos = [] := List.drop_eq_nil_of_le (by omega)
    show wpAny _ _ (pyNext (.ref ci)) _ _ _
    refine nx_end w mean mg mb (dp + 1) (un + 3) gd (ofString "_netrclex.get_token") (fS (subAt 3 2)) 67 (.ref 66) [] (envX cn cs L a ccd cl :: outer) _ base g' L' _ _ _ _ nx nd io d pb ci q tq rest k0 k1 k2 k3 v2 t1 t2 t3 u2 nl l pos _ tl u3 B F X T rfl N n1 n2 n3 n4 n5 r1 r2 rc (by omega) (by omega) hlen hpl hd ?_
    intro h' tk' F' N'
    rw [hd] at hn
    obtain ⟨rfl, rfl⟩ : [] = Xt ∧ [] = Rt := by simpa [ntT] using hn
    rw [s_no] at F'
    exact hend tt tl u3 pos ch h' tk' hd rfl hpl F' N'
  | succ k ih =>
    intro pos tt tl u3 ch h tk hk hpl hn F N
    cases hd : l.drop pos with
    | nil =>
      show wpAny _ _ (pyNext (.ref ci)) _ _ _
      refine nx_end w mean mg mb (dp + 1) (un + 3) gd (ofString "_netrclex.get_token") (fS (subAt 3 2)) 67 (.ref 66) [] (envX cn cs L a ccd cl :: outer) _ base g' L' _ _ _ _ nx nd io d pb ci q tq rest k0 k1 k2 k3 v2 t1 t2 t3 u2 nl l pos _ tl u3 B F X T rfl N n1 n2 n3 n4 n5 r1 r2 rc (by omega) (by omega) hlen hpl hd ?_
      intro h' tk' F' N'
      rw [hd] at hn
      obtain ⟨rfl, rfl⟩ : [] = Xt ∧ [] = Rt := by simpa [ntT] using hn
      rw [s_no] at F'
      exact hend tt tl u3 pos ch h' tk' hd rfl hpl F' N'
    | cons c post =>
      have hlt := drop_lt hd
      have hds := drop_succ hd
      show wpAny _ _ (pyNext (.ref ci)) _ _ _
      refine nx_ch w mean mg mb (dp + 1) (un + 3) gd (ofString "_netrclex.get_token") (fS (subAt 3 2)) 67 (.ref 66) [] (envX cn cs L a ccd cl :: outer) _ base g' L' _ _ _ _ nx nd io d pb ci q tq rest k0 k1 k2 k3 v2 t1 t2 t3 u2 nl l post pos c _ tl u3 B F X T rfl N n1 n2 n3 n4 n5 r1 r2 rc (by omega) (by omega) hlen hd (lnA_ok l pos) ?_
      intro t u3' ln' tl' h' tk' hl' F' N'
      rw [hl', ← lnA_succ hd] at N'
      dsimp only [OwitTurn]
      repeat' ((fail_if_success (with_reducible show wpAny _ _ (execs _ _) _ _ _)); ktr_step)
      rename Fr g' L' _ _ => F9
      rename News g' L' _ _ => N9
      rw [gtM_ch] at F9
      have key : ntT (c :: l.drop (pos + 1)) 0 [] = (Xt, Rt) := by rw [hds, ← hd]; exact hn
      refine o_body w mean mg mb dp un gd cn cs a ccd cl outer A₀ base h₀ L m _ Q E g' L' _ E' nx nd io d pb ci q tq rest k0 k1 k2 k3 v2 t1 t2 t3 u2 nl l tt t _ u3' (pos + 1) c B X T F9 N9 n1 n2 n3 n4 n5 r1 r2 rc hE hdp hun hlen hlt (by omega) Xt Rt key ?_ ?_ ?_
      · intro hw h2 tk2 F2 N2
        refine ih (pos + 1) tt _ u3' _ h2 tk2 (by omega) hlt ?_ F2 N2
        simpa [ntT, hw] using key
      · intro tt2 tl2 u32 pos2 ch2 h2 tk2 e1 e2 F2 N2
        exact hret tt2 tl2 u32 pos2 ch2 h2 tk2 e1 e2 F2 N2
      · intro tt2 tl2 u32 pos2 ch2 h2 tk2 e1 e2 e3 F2 N2
        show wpAny _ _ (pyNext (.ref ci)) _ _ _
        refine ci_ended rfl F2 N2 (N2 _ (.tail _ (.tail _ (.tail _ (.tail _ (.head _)))))).1 ?_
        intro h3 F3 N3
        exact hend tt2 tl2 u32 pos2 ch2 h3 tk2 e1 e2 e3 F3 N3
theorem allLt_mem {d : Addr} : ∀ {l : List (Addr × Obj)}, AllLt d l → ∀ p ∈ l, p.1 < d
  | [], _, _, h => nomatch h
  | p :: r, ⟨a, b⟩, q, h => by
    rcases List.mem_cons.mp h with rfl | h
    · exact a
    · exact allLt_mem b q h
theorem led_ci {h₀ h : Heap} {L : Addr} {a b c d e f g : Addr × Obj} {r : List (Addr × Obj)} (N : News h₀ L h (a :: b :: c :: d :: e :: f :: g :: r)) : News h₀ L h (c :: d :: e :: f :: a :: b :: g :: r) := news_pick (pre := [a, b, c, d, e, f]) [2, 3, 4, 5, 0, 1] rfl N
theorem led_cj {h₀ h : Heap} {L : Addr} {a b c d e f g : Addr × Obj} {r : List (Addr × Obj)} (N : News h₀ L h (c :: d :: e :: f :: a :: b :: g :: r)) : News h₀ L h (c :: d :: e :: f :: g :: r) := news_pick (pre := [c, d, e, f, a, b]) [0, 1, 2, 3] rfl N
theorem c_ntok (w : World) (mean : ExcName → Option Value) (mg mb : Str → Option Value)
    (dp un : Nat) (gd : Option (List Code)) (cn : Str) (cs : Scope) (a : Addr) (ccd : Value) (cl : List (Str × Addr)) (outer : List Env) (A₀ : Around) (base h₀ : Heap) (L : Addr) (m : Str → Option Value) (s : Shared) (Q E : Value → Shared → Prop)
    (nx nd io d pb : Addr) (rest : List (Addr × Obj)) (k0 k1 k2 k3 v2 : Tok) (t1 t2 t3 u2 : Tok) (nl : Value) (l : List Nat) (c0 : Nat) (tl u3 : Tok) (pos : Nat)
    (B : Below A₀ base outer h₀) (F : Fr h₀ L s.heap m) (X : (Mine.K w.params).In h₀) (T : Top Mine.q (looseW Mine.q Mine.loose) mean mg mb h₀) (hk : cs.kind = .function)
    (N : News h₀ L s.heap ((nd, dictOf (nlD w.params k0 k1 k2 k3 v2 io pb (lnA l pos) tl) 4) :: (nx, instObj 77 nd) :: (d, dictOf (ioD w.params t1 t2 t3 u2 u3 nl (tx l) pos) 3) :: (io, instObj 629 d) :: (pb, seqObj "list" #[] c0) :: rest))
    (n1 : @Ne Nat nx nd) (n2 : @Ne Nat d nd) (n3 : @Ne Nat io nd) (n4 : @Ne Nat nx d) (n5 : @Ne Nat io d) (r1 : ∀ p ∈ rest, p.1 ≠ nd) (r2 : ∀ p ∈ rest, p.1 ≠ d) (hdp : dp + 14 < recursionLimit) (hun : un + 110 < cLine) (hlen : l.length < 100000) (hpl : pos ≤ l.length) (Xt Rt : List Nat) (hn : ntT (l.drop pos) 0 [] = (Xt, Rt))
    (hret : ∀ tt tl u3 (pos : Nat) h tk, l.drop pos = Rt → pos ≤ l.length → Fr h₀ L h m → News h₀ L h ((nd, dictOf (nlD w.params k0 k1 k2 k3 v2 io pb (lnA l pos) tl) 4) :: (nx, instObj 77 nd) :: (d, dictOf (ioD w.params t1 t2 t3 u2 u3 nl (tx l) pos) 3) :: (io, instObj 629 d) :: (pb, seqObj "list" #[] c0) :: rest) → Q (.str (tx Xt) tt) { s with heap := h, toks := tk }) :
    wpAny (model rw_oy0313_02.row.prog w) (ktrTop dp un gd cn cs L a ccd cl outer) (call (.ref 67) [.ref nx]) Q E s := by
  revert X; k_fill; intro X
  have p1 : @Ne Nat pb nd := news_ne N (.tail _ (.tail _ (.tail _ (.tail _ (.head _))))) (.head _) (ne_tt rfl rfl (by decide))
  have p2 : @Ne Nat pb d := news_ne N (.tail _ (.tail _ (.tail _ (.tail _ (.head _))))) (.tail _ (.tail _ (.head _))) (ne_tt rfl rfl (by decide))
  refine wpAny_call ?_
  k_dflt (refine' code_def ?k1 ?k2 ?k3 ?k4 ?k5 ?kA ?kF ?kK ?k6 ?k7 ?k8 ?k9 ?kB ?_ ?c2 ?c3 ?c4 ?c5; (case kA => exact rfl); (case kF => exact rfl); (case kK => assumption); (case k1 => k_asm); (case k2 => k_asm); (case k3 => k_asm); (case k4 => k_asm); (case k5 => k_asm); (case k6 => k_is); (case k7 => k_is); (case k8 => ktr_room); (case k9 => first | exact BindsTo.of_eq rfl | exact binds_K (by k_in) rfl (by k_is) rfl rfl rfl); (case c5 => decide); (case kB => exact locs rfl); (case c2 => exact rfl); (case c3 => exact rfl); (case c4 => exact rfl); k_whole; intro g' L' h' FG' F' N' B' X' T'; (try dsimp only); (try k_lift B'); (try k_fold))
  have F2 := Fr_cong (m' := fun y => if y = ofString "self" then some (Value.ref nx) else none) F' (fun y => Eq.trans (b := List.lookup y [(ofString "self", Value.ref nx)]) (by kernel_rfl) (look1 y _ _))
  clear F'
  repeat' ((fail_if_success (with_reducible show wpAny _ _ (exec (Stmt.For _ _ _ _ _) _) _ _ _)); ktr_step)
  rename Fr g' L' _ _ => F9
  rename News g' L' _ _ => N9
  rename (_ ∧ _ ∧ _ ∧ _ ∧ _ ∧ _ ∧ AllLt _ rest) => hl9
  obtain ⟨a1, a2, a3, a4, a5, a6, a7⟩ := hl9
  have hr9 := allLt_mem a7
  refine nt_for ?_
  repeat' ((fail_if_success (with_reducible show wpAny _ _ (pyIter _) _ _ _)); ktr_step)
  rw [gtM_init] at F9
  have N8 := led_ci N9
  refine ci_iter ⟨_, (N9 _ (.head _)).1, rfl⟩ ?_
  refine ⟨_, _, rfl, o_rest w mean mg mb dp un gd cn cs a ccd cl outer A₀ base h₀ L m _ Q E g' L' _ _ nx nd io d pb _ _ _ ((pb, seqObj "list" #[] c0) :: rest) k0 k1 k2 k3 v2 t1 t2 t3 u2 nl l B' X' T' n1 n2 n3 n4 n5 ?_ ?_ ?_ ?_ (by omega) (by omega) hlen Xt Rt ?_ ?_ l.length pos _ tl u3 none _ _ (by omega) hpl hn F9 N8⟩
  · intro p hp
    rcases List.mem_cons.mp hp with rfl | hp
    · exact p1
    · exact r1 p hp
  · intro p hp
    rcases List.mem_cons.mp hp with rfl | hp
    · exact p2
    · exact r2 p hp
  · intro p hp
    rcases List.mem_cons.mp hp with rfl | hp
    · exact Nat.ne_of_lt a6
    · exact Nat.ne_of_lt (hr9 p hp)
  · passes_own
  · intro tt2 tl2 u32 pos2 ch2 h2 tk2 e1 e2 F2 N2
    exact leaveK_ F2 N2 fun kF kN => hret tt2 tl2 u32 pos2 h2 _ e1 e2 kF (led_cj kN)
  · intro tt2 tl2 u32 pos2 ch2 h2 tk2 e1 e2 e3 F2 N2
    repeat' ktr_step
    (try dsimp only)
    rename Fr h₀ L _ _ => F8
    rename News h₀ L _ _ => N7
    exact hret tt2 tl2 u32 pos2 _ _ (e1.trans e2.symm) e3 F8 (led_cj N7)
end
end
end
theorem ring9 : True := by first | walk1 | trivial
section
local macro_rules | `(tactic| walk_at "call type:collections.deque") => `(tactic| (k_here; k_dflt (refine' dq_new ?F ?N ?_; (case F => k_asm); (case N => k_asm)); intro D' h' tk' F' N' l1; (try k_lt l1); (try k_sweep)))
local macro_rules | `(tactic| walk_at "call ref") => `(tactic| (k_here; (with_reducible show wpAny _ _ (call (Value.ref 629) [Value.str (tx _) _]) _ _ _); (try simp only [under_ty]); k_dflt (refine' c_sio _ _ _ _ _ _ _ _ _ _ _ _ _ _ _ _ _ _ _ _ _ _ _ _ ?k1 ?k2 ?k3 ?k4 ?k5 ?k6 ?kd ?ku ?kl ?_; (case k1 => k_asm); (case k2 => k_asm); (case k3 => k_asm); (case k4 => k_asm); (case k5 => first | exact rfl | assumption); (case k6 => k_asm); (case kd => ktr_room); (case ku => ktr_units); (case kl => assumption); k_whole; intro io d t1 t2 t3 u2 u3 u4 h9 tk9 F9 N9 l9 l8; (try k_lt l9); (try k_lt2 l8); (try dsimp only at N9); (try dsimp only))))
section
noncomputable abbrev rdE (L : Addr) : Env := envOf (ofString "_law_read") (fS (stAt 26)) L 795 (Value.ref 794)
theorem led_rd {h₀ h : Heap} {L : Addr} {a b c e1 e2 f g h1 h2 : Addr × Obj} {r : List (Addr × Obj)} (N : News h₀ L h (a :: b :: c :: e1 :: e2 :: f :: g :: h1 :: h2 :: r)) : News h₀ L h (c :: b :: f :: g :: a :: r) := news_pick (pre := [a, b, c, e1, e2, f, g, h1, h2]) [2, 1, 5, 6, 0] rfl N
theorem rd_a : ∀ (w : World) (mean : ExcName → Option Value) (mg mb : Str → Option Value)
    (dp un : Nat) (gd : Option (List Code)) (cn : Str) (cs : Scope) (a : Addr) (ccd : Value) (cl : List (Str × Addr)) (outer : List Env) (A₀ : Around) (base h₀ : Heap) (L : Addr) (m : Str → Option Value) (s : Shared) (Q E : Value → Shared → Prop) (g' : Heap) (L' : Addr) (W : Flow → Shared → Prop) (E' : Value → Shared → Prop)
    (l : List Nat) (tx0 : Tok) (fg : Value) (rest : List (Addr × Obj))
    (B : Below (ktrTop dp un gd cn cs L a ccd cl outer) base (envX cn cs L a ccd cl :: outer) g') (X : (Mine.K w.params).In g') (T : Top Mine.q (looseW Mine.q Mine.loose) mean mg mb g') (F : Fr g' L' s.heap (fun y => if y = ofString "figure" then some fg else if y = ofString "text" then some (.str (tx l) tx0) else none)) (N : News g' L' s.heap rest)
    (hdp : dp + 40 < recursionLimit) (hun : un + 500 < cLine) (hlen : (tx l).length < 100000)
    (hW : ∀ nx nd io d pb k0 k1 k2 k3 v2 t1 t2 t3 u2 u3 nl tl h tk, Fr g' L' h (fun y => if y = ofString "lexer" then some (Value.ref nx) else if y = ofString "figure" then some fg else if y = ofString "text" then some (.str (tx l) tx0) else none) →
      News g' L' h ((nd, dictOf (nlD w.params k0 k1 k2 k3 v2 io pb (lnA l 0) tl) 4) :: (nx, instObj 77 nd) :: (d, dictOf (ioD w.params t1 t2 t3 u2 u3 nl (tx l) (0 : Nat)) 3) :: (io, instObj 629 d) :: (pb, seqObj "list" #[] 0) :: rest) →
      @Ne Nat nx nd → @Ne Nat d nd → @Ne Nat io nd → @Ne Nat nx d → @Ne Nat io d → (∀ p ∈ rest, p.1 ≠ nd) → (∀ p ∈ rest, p.1 ≠ d) →
      wpAny (model rw_oy0313_02.row.prog w) ((ktrTop dp un gd cn cs L a ccd cl outer).deeper (rdE L')) (execs ((fB (stAt 26)).drop 2) (rdE L')) W E' { s with heap := h, toks := tk }),
    wpAny (model rw_oy0313_02.row.prog w) ((ktrTop dp un gd cn cs L a ccd cl outer).deeper (rdE L')) (execs ((fB (stAt 26)).drop 1) (rdE L')) W E' s := by
  refine hk23 (by repeat first | exact nW | exact nA | exact nS | apply nP | infer_instance) ((?f : ∀ w mean mg mb dp un gd cn cs a ccd cl outer A₀ base h₀ L m s Q E g' L', Hd23 _ w mean mg mb dp un gd cn cs a ccd cl outer A₀ base h₀ L m s Q E g' L') _ _ _ _ _ _ _ _ _ _ _ _ _ _ _ _ _ _ _ _ _ _ _)
  set_option tactic.hygienic false in (intros; intro W; intros)
  revert X; k_fill; intro X
  repeat' ((fail_if_success (with_reducible show wpAny _ _ (execs (Stmt.Assign [Expr.Name _ _] (Expr.List _ _) _ :: _) _) _ _ _)); ktr_step)
  rename Fr g' L' _ _ => F8
  rename News g' L' _ _ => N8
  rename (@LT.lt Nat _ _ _ ∧ @LT.lt Nat _ _ _ ∧ @LT.lt Nat _ _ _ ∧ @LT.lt Nat _ _ _ ∧ @LT.lt Nat _ _ _ ∧ @LT.lt Nat _ _ _ ∧ AllLt _ rest) => q2
  rename (@LT.lt Nat _ _ _ ∧ @LT.lt Nat _ _ _ ∧ AllLt _ rest) => q3
  have N7 := led_rd N8
  clear N8
  refine hW _ _ _ _ _ _ _ _ _ _ _ _ _ _ _ _ _ _ _ F8 N7 (Nat.ne_of_gt ?_) (Nat.ne_of_lt q2.2.2.1) (Nat.ne_of_lt q2.2.2.2.1) (Nat.ne_of_gt ?_) (Nat.ne_of_gt ?_) (fun p hp => Nat.ne_of_lt (of_allLt q2.2.2.2.2.2.2 p hp)) (fun p hp => Nat.ne_of_lt (of_allLt q3.2.2 p hp))
  all_goals omega
end
end
theorem ring10 : True := by first | walk1 | trivial
section
local macro_rules | `(tactic| walk_at "compareOp In str str") => `(tactic| (refine' my_in ?mb ?_; (case mb => first | assumption | (refine (?_ : _ = true); kernel_rfl!) | (refine (?_ : _ = false); kernel_rfl!))))
local macro_rules | `(tactic| walk_at "compareOp Eq str str") => `(tactic| (refine' my_eq ?mb ?_; (case mb => first | assumption | (refine (?_ : _ = true); kernel_rfl!) | (refine (?_ : _ = false); kernel_rfl!))))
local macro_rules | `(tactic| walk_at "compareOp NotEq str str") => `(tactic| (refine' my_ne ?mb ?_; (case mb => first | assumption | (refine (?_ : _ = true); kernel_rfl!) | (refine (?_ : _ = false); kernel_rfl!))))
local macro_rules | `(tactic| walk_at "truthy str") => `(tactic| (refine' my_true ?ml ?mb ?_; (case ml => first | assumption | decide +kernel); (case mb => first | assumption | (refine (?_ : _ = true); kernel_rfl!) | (refine (?_ : _ = false); kernel_rfl!)); intro k9))
local macro_rules | `(tactic| walk_at "inplaceOp Add str str") => `(tactic| (refine' my_iadd ?mz ?ms ?_; (case mz => assumption); (case ms => assumption); intro t9 k9))
local macro_rules | `(tactic| walk_at "ite") => `(tactic| first | refine ite_tt ?_ | refine ite_ff ?_)
local macro_rules | `(tactic| walk_at "compareOp NotIn str str") => `(tactic| (refine' my_nin ?mb ?_; (case mb => assumption)))
local macro_rules | `(tactic| walk_at "call ref") => `(tactic| (k_here; (with_reducible show wpAny _ _ (call (Value.ref 575) [Value.ref _, Value.int 1 _]) _ _ _); k_dflt (first
  | (refine' c_readC ?k1 ?k2 ?k3 ?k4 ?k5 ?k6 ?k7 ?k8 ?kd ?ku ?kl ?kp ?kx ?_; (case k1 => k_asm); (case k2 => k_asm); (case k3 => k_asm); (case k4 => k_asm); (case k5 => first | exact rfl | assumption); (case k6 => k_asm); (case k7 => k_mem); (case k8 => k_updF); (case kd => ktr_room); (case ku => ktr_units); (case kl => assumption); (case kp => assumption); (case kx => assumption); k_whole; intro t9 u9 h9 tk9 F9 N9; (try dsimp only at N9); (try dsimp only))
  | (refine' c_readN ?k1 ?k2 ?k3 ?k4 ?k5 ?k6 ?k7 ?k8 ?kd ?ku ?kl ?kq ?kp ?_; (case k1 => k_asm); (case k2 => k_asm); (case k3 => k_asm); (case k4 => k_asm); (case k5 => first | exact rfl | assumption); (case k6 => k_asm); (case k7 => k_mem); (case k8 => k_updF); (case kd => ktr_room); (case ku => ktr_units); (case kl => assumption); (case kq => assumption); (case kp => assumption); k_whole; intro t9 h9 tk9 F9 N9; (try dsimp only at N9); (try dsimp only)))))
section
noncomputable abbrev rdM (nx : Addr) (fg : Value) (l : List Nat) (tx0 : Tok) (wd : Option Value) : Str → Option Value := fun y => if y = ofString "words" then wd else if y = ofString "lexer" then some (Value.ref nx) else if y = ofString "figure" then some fg else if y = ofString "text" then some (.str (tx l) tx0) else none
theorem same_one (a : Nat) : PySem.Spec.same (PyData.str ⟨#[a]⟩) (.str ⟨#[10]⟩) = decide (a = 10) := by
  by_cases h : a = 10
  · subst h; rfl
  · rw [decide_eq_false h]
    show (_ == _) = false
    simp [h]
theorem tcount (l : List Nat) : Txt.count (tx l) (ofString "\n") = ((l.count 10 : Nat) : Int) := by
  rw [show ofString "\n" = ⟨#[10]⟩ by kernel_rfl, PyProof.Rows.count_is]
  show PySem.Spec.countIn _ (l.map _) = _
  induction l with
  | nil => rfl
  | cons a r ih =>
    rw [List.map_cons]
    unfold PySem.Spec.countIn
    rw [ih, same_one, List.count_cons]
    by_cases h : a = 10 <;> simp [h] <;> omega
theorem rd_b (w : World) (mean : ExcName → Option Value) (mg mb : Str → Option Value)
    (dp un : Nat) (gd : Option (List Code)) (cn : Str) (cs : Scope) (a : Addr) (ccd : Value) (cl : List (Str × Addr)) (outer : List Env) (A₀ : Around) (base h₀ : Heap) (L : Addr) (m : Str → Option Value) (s : Shared) (Q E : Value → Shared → Prop) (g' : Heap) (L' : Addr) (W : Flow → Shared → Prop) (E' : Value → Shared → Prop)
    (nx nd io d pb : Addr) (rest : List (Addr × Obj)) (k0 k1 k2 k3 v2 : Tok) (t1 t2 t3 u2 : Tok) (nl : Value) (l : List Nat) (tl u3 : Tok) (l1 r1' : List Nat) (tx0 : Tok) (fg : Value)
    (B : Below (ktrTop dp un gd cn cs L a ccd cl outer) base (envX cn cs L a ccd cl :: outer) g') (X : (Mine.K w.params).In g') (T : Top Mine.q (looseW Mine.q Mine.loose) mean mg mb g') (F : Fr g' L' s.heap (fun y => if y = ofString "lexer" then some (Value.ref nx) else if y = ofString "figure" then some fg else if y = ofString "text" then some (.str (tx l) tx0) else none))
    (N : News g' L' s.heap ((nd, dictOf (nlD w.params k0 k1 k2 k3 v2 io pb (lnA l 0) tl) 4) :: (nx, instObj 77 nd) :: (d, dictOf (ioD w.params t1 t2 t3 u2 u3 nl (tx l) (0 : Nat)) 3) :: (io, instObj 629 d) :: (pb, seqObj "list" #[] 0) :: rest))
    (n1 : @Ne Nat nx nd) (n2 : @Ne Nat d nd) (n3 : @Ne Nat io nd) (n4 : @Ne Nat nx d) (n5 : @Ne Nat io d) (r1 : ∀ p ∈ rest, p.1 ≠ nd) (r2 : ∀ p ∈ rest, p.1 ≠ d) (hdp : dp + 40 < recursionLimit) (hun : un + 500 < cLine) (hlen : l.length < 100000)
    (e1 : ntT l 0 [] = (l1, r1')) (e2 : ntT r1' 0 [] = ([], []))
    (hW : ∀ S c tt h tk m, Fr g' L' h m → News g' L' h ((S, seqObj "list" #[.str (tx l1) tt] c) :: rest) → W (.ret (.ref S)) { s with heap := h, toks := tk }) :
    wpAny (model rw_oy0313_02.row.prog w) ((ktrTop dp un gd cn cs L a ccd cl outer).deeper (rdE L')) (execs ((fB (stAt 26)).drop 2) (rdE L')) W E' s := by
  revert X; k_fill; intro X
  repeat' ((fail_if_success (with_reducible show wpAny _ _ (call (Value.ref 67) _) _ _ _)); ktr_step)
  k_dflt (refine' c_ntok w mean mg mb _ _ _ _ _ _ _ _ _ _ _ _ _ _ _ _ _ nx nd io d pb _ k0 k1 k2 k3 v2 t1 t2 t3 u2 nl l 0 tl u3 0 B F X T rfl N n1 n2 n3 n4 n5 r1 r2 ?kd ?ku hlen (Nat.zero_le _) l1 r1' e1 ?_)
  (case kd => ktr_room)
  (case ku => ktr_units)
  intro tt tl2 u32 pos2 h2 tk2 e3 e4 F2 N2
  (first | (k_end; kc_close) | skip)
  repeat' ((fail_if_success (with_reducible show wpAny _ _ (call (Value.ref 67) _) _ _ _)); ktr_step)
  rename Fr g' L' _ _ => F9
  rename News g' L' _ _ => N9
  rename (@LT.lt Nat _ _ _ ∧ @LT.lt Nat _ _ _ ∧ @LT.lt Nat _ _ _ ∧ @LT.lt Nat _ _ _ ∧ @LT.lt Nat _ _ _ ∧ AllLt _ rest) => q1
  have N8 : News g' L' _ (_ :: _ :: _ :: _ :: _ :: _ :: rest) := news_pick (pre := [_, _, _, _, _, _]) [1, 2, 3, 4, 5, 0] rfl N9
  clear N9
  k_dflt (refine' c_ntok w mean mg mb _ _ _ _ _ _ _ _ _ _ _ _ _ _ _ _ _ nx nd io d pb _ k0 k1 k2 k3 v2 t1 t2 t3 u2 nl l 0 tl2 u32 pos2 B F9 X T rfl N8 n1 n2 n3 n4 n5 ?r1 ?r2 ?kd ?ku hlen e4 [] [] (by rw [e3]; exact e2) ?_)
  (case r1 => intro p hp; rcases List.mem_cons.mp hp with rfl | hp; exact Nat.ne_of_gt q1.1; exact r1 p hp)
  (case r2 => intro p hp; rcases List.mem_cons.mp hp with rfl | hp; exact Nat.ne_of_gt q1.2.2.1; exact r2 p hp)
  (case kd => ktr_room)
  (case ku => ktr_units)
  intro tt3 tl3 u33 pos3 h3 tk3 e5 e6 F3 N3
  have e7 : lnA l pos3 = 1 + (l.count 10 : Nat) := by
    have : l.length ≤ pos3 := by
      have := congrArg List.length e5
      simp only [List.length_drop, List.length_nil] at this; omega
    unfold lnA; rw [List.take_of_length_le this]
  have f0 : ((tx []).cps.toList != (ofString "").cps.toList) = false := by rw [s_no]; rfl
  (first | (k_end; kc_close) | skip)
  repeat' ktr_step
  all_goals (try dsimp only)
  · rename (lnA l pos3 ≠ _) => e8
    exact absurd (by rw [e7, tcount]) e8
  · exact hW _ _ _ _ _ _ (by assumption) (fun p hp => N3 p (by rcases List.mem_cons.mp hp with rfl | hp; exact .tail _ (.tail _ (.tail _ (.tail _ (.tail _ (.head _))))); exact .tail _ (.tail _ (.tail _ (.tail _ (.tail _ (.tail _ hp)))))))
end
end
section
theorem look2 (y a b : Str) (v u : Value) : List.lookup y [(a, v), (b, u)] = if y = a then some v else if y = b then some u else none := by
  simp only [List.lookup_cons, List.lookup_nil]
  by_cases h : y = a
  · subst h; simp
  · rw [beq_eq_false_iff_ne.mpr h, if_neg h]
    by_cases h2 : y = b
    · subst h2; simp
    · rw [beq_eq_false_iff_ne.mpr h2, if_neg h2]
theorem c_lread (w : World) (mean : ExcName → Option Value) (mg mb : Str → Option Value)
    (dp un : Nat) (gd : Option (List Code)) (cn : Str) (cs : Scope) (a : Addr) (ccd : Value) (cl : List (Str × Addr)) (outer : List Env) (A₀ : Around) (base h₀ : Heap) (L : Addr) (m : Str → Option Value) (s : Shared) (Q E : Value → Shared → Prop)
    (rest : List (Addr × Obj)) (l l1 : List Nat) (tx0 tf : Tok) (f : Int)
    (B : Below A₀ base outer h₀) (F : Fr h₀ L s.heap m) (X : (Mine.K w.params).In h₀) (T : Top Mine.q (looseW Mine.q Mine.loose) mean mg mb h₀) (hk : cs.kind = .function)
    (N : News h₀ L s.heap rest) (XB : (Mine.K w.params).In base) (TB : Top Mine.q (looseW Mine.q Mine.loose) mean mg mb base) (D : KtsDicts (outer.filterMap (·.frame)) h₀) (hdp : dp + 60 < recursionLimit) (hun : un + 700 < cLine) (hlen : l.length < 100000)
    (n : Nat) (hn : n ≤ 100000) (hsh : f = 1 → ShW n l (some [l1])) (hnt : f ≠ 1 → ∃ r1, ntT l 0 [] = (l1, r1) ∧ ntT r1 0 [] = ([], []))
    (hret : ∀ S tt c h' tk' h₀', KtsTurn (outer.filterMap (·.frame)) h₀ h₀' → Fr h₀' L h' m → News h₀' L h' ((S, seqObj "list" #[.str (tx l1) tt] c) :: rest) → Below A₀ base outer h₀' → (Mine.K w.params).In h₀' → Top Mine.q (looseW Mine.q Mine.loose) mean mg mb h₀' → KtsDicts (outer.filterMap (·.frame)) h₀' → Q (.ref S) { s with heap := h', toks := tk' }) :
    wpAny (model rw_oy0313_02.row.prog w) (ktrTop dp un gd cn cs L a ccd cl outer) (call (.ref 795) [.str (tx l) tx0, .int f tf]) Q E s := by
  revert X; k_fill; intro X
  have hlt : (tx l).length < 100000 := by rw [len_tx]; exact hlen
  refine wpAny_call ?_
  k_dflt (refine' code_defSX ?k1 ?k2 ?k3 ?k4 ?k5 ?XB ?TB ?D ?T0 ?kA ?k6 ?k7 ?k8 ?k9 ?kB ?_ ?cK ?c2 ?c3 ?c4 ?c5; (case kA => exact rfl); (case k1 => k_asm); (case k2 => k_asm); (case XB => assumption); (case TB => assumption); (case D => assumption); (case T0 => exact KtsTurn.refl); (case k3 => k_asm); (case k4 => k_asm); (case k5 => k_asm); (case k6 => k_is); (case k7 => k_is); (case k8 => ktr_room); (case k9 => first | exact BindsTo.of_eq rfl | exact binds_K (by k_in) rfl (by k_is) rfl rfl rfl); (case kB => exact locs rfl); (case cK => assumption); (case c2 => exact rfl); (case c3 => exact rfl); (case c4 => exact rfl); (case c5 => decide); k_whole; intro g' L' h' FG' F' N' B' X' T' D'; (try dsimp only))
  have F2 := Fr_cong (m' := fun y => if y = ofString "figure" then some (Value.int f tf) else if y = ofString "text" then some (.str (tx l) tx0) else none) F' (fun y => Eq.trans (b := List.lookup y [(ofString "figure", Value.int f tf), (ofString "text", .str (tx l) tx0)]) (by kernel_rfl) (look2 y _ _ _ _))
  clear F'
  repeat' ((fail_if_success (first | with_reducible show wpAny _ _ (call (Value.ref 776) _) _ _ _ | with_reducible show wpAny _ _ (execs (Stmt.Assign _ _ _ :: _) _) _ _ _)); ktr_step)
  · k_dflt (refine' c_split w mean mg mb _ _ _ _ _ _ _ _ _ _ _ _ _ _ _ _ _ _ l tx0 B' F2 X' T' rfl N' XB TB D' ?kd ?ku hlt n (some [l1]) (hsh (by assumption)) hn ?_ ?_)
    (case kd => ktr_room)
    (case ku => ktr_units)
    · intro ws vs S cS h2 tk2 h₀' ho T2 F3 N3 B3 X3 TT3 D3 hv hvl
      injection ho with ho
      subst ho
      obtain ⟨tt, rfl⟩ : ∃ tt, vs = [.str (tx l1) tt] := by
        cases hv with
        | cons hv => cases hv; exact ⟨_, rfl⟩
      (first | (k_end; kc_close) | skip)
      exact leaveS_r F3 N3 T2 (fun h₀'' kT kF kN kB kX kP kD => hret S tt cS h2 _ h₀'' kT kF kN kB kX kP kD)
    · intro ho; cases ho
  · obtain ⟨r1', e1, e2⟩ := hnt (by assumption)
    show wpAny _ _ (execs ((fB (stAt 26)).drop 1) (rdE L')) _ _ _
    k_dflt (refine rd_a w mean mg mb dp un gd cn cs a ccd cl outer A₀ base h₀ L m _ Q E g' L' _ _ l tx0 (.int f tf) rest B' X' T' F2 N' (by omega) (by omega) hlt ?_)
    intro nx nd io d pb k0 k1 k2 k3 v2 t1 t2 t3 u2 u3 nl tl h tk F3 N3 n1 n2 n3 n4 n5 r1 r2
    k_dflt (refine rd_b w mean mg mb dp un gd cn cs a ccd cl outer A₀ base h₀ L m _ Q E g' L' _ _ nx nd io d pb rest k0 k1 k2 k3 v2 t1 t2 t3 u2 nl l tl u3 l1 r1' tx0 (.int f tf) B' X' T' F3 N3 n1 n2 n3 n4 n5 r1 r2 (by omega) (by omega) hlen e1 e2 ?_)
    intro S c tt h2 tk2 m2 F5 N5
    (first | (k_end; kc_close) | skip)
    exact leaveS_r F5 N5 KtsTurn.refl (fun h₀'' kT kF kN kB kX kP kD => hret S tt c h2 _ h₀'' kT kF kN kB kX kP kD)
end
section
theorem mul_fold : ∀ (k : Nat) (a : Array Nat), (List.replicate k (#[92] : Array Nat)).foldl (· ++ ·) a = a ++ (List.replicate k 92).toArray
  | 0, a => by simp
  | k + 1, a => by
    rw [List.replicate_succ, List.foldl_cons, mul_fold k]
    rw [List.replicate_succ]
    apply Array.ext'
    simp
theorem mul_bs (k : Nat) : Txt.mul (ofString "\\") (k : Int) = tx (List.replicate k 92) := by
  rw [show ofString "\\" = (⟨#[92]⟩ : Str) by kernel_rfl]
  unfold Txt.mul
  by_cases h0 : (k : Int) < 1
  · have : k = 0 := by omega
    subst this; rfl
  · rw [if_neg h0]
    by_cases h1 : k = 1
    · subst h1; rfl
    · rw [if_neg (by
        have : ((k : Int) == 1) = false := beq_eq_false_iff_ne.mpr (by omega)
        rw [this]; decide)]
      rw [Int.toNat_natCast, mul_fold]
      simp
theorem my_mulbs {prog : Program} {w : World} {A : Around} {E : Value → Shared → Prop} {s : Shared} {Q : Value → Shared → Prop} {t u : Tok} {i : Int} (k : Nat) (hk : k ≤ 1000) (hi : i = k) (h : ∀ t' kk, Q (.str (tx (List.replicate k 92)) t') { s with toks := kk }) :
    wpAny (model prog w) A (binaryOp .Mult (.str (ofString "\\") t) (.int i u)) Q E s := by
  subst hi
  refine SB.mul (mulOk_of 16 1048576 (by first | decide | kernel_rfl | omega) (by omega) (by omega) (by decide) (by decide)) ?_
  rw [mul_bs]
  exact h
theorem my_addS {prog : Program} {w : World} {A : Around} {E : Value → Shared → Prop} {s : Shared} {Q : Value → Shared → Prop} {x y z : Str} {t u : Tok} (hz : x ++ y = z) (hs : z.length < 400000) (h : ∀ t' k, Q (.str z t') { s with toks := k }) : wpAny (model prog w) A (binaryOp .Add (.str x t) (.str y u)) Q E s := by
  subst hz; exact SB.add h (by rw [PySem.Str.length_append] at hs; exact Nat.le_trans (Nat.le_of_lt hs) (by decide))
theorem fdiv_nat (a b k : Nat) (k' : Int) (hk : k' = k) : ((a : Int) + (b : Int)).fdiv (2 ^ k'.toNat) = (((a + b) / 2 ^ k : Nat) : Int) := by
  subst hk
  rw [Int.toNat_natCast, Int.fdiv_eq_ediv_of_nonneg _ (Int.pow_nonneg (by decide))]
  norm_cast
end
section
def cpOk (l : List Nat) : Prop := ∀ c ∈ l, c < 0x110000
theorem cpOk_tx {l : List Nat} (h : cpOk l) : PyData.strOk (tx l) = true := by
  unfold PyData.strOk
  rw [Array.all_eq_true']
  intro x hx
  exact decide_eq_true (h x (by simpa using hx))
abbrev datT (x : List Nat) : Dat := .str (tx x)
theorem datT_inj {xs ys : List (List Nat)} (h : xs.map datT = ys.map datT) : xs = ys := by
  induction xs generalizing ys with
  | nil => cases ys with
    | nil => rfl
    | cons y ys => cases h
  | cons x xs ih => cases ys with
    | nil => cases h
    | cons y ys =>
      injection h with h1 h2
      injection h1 with h1
      rw [tx_inj h1, ih h2]
theorem wvs_dat {xs : List (List Nat)} {vs : List Value} {news : List (Addr × Obj)} (h : Wvs xs vs) : DatAll news vs (xs.map datT) := by
  induction h with
  | nil => exact .nil
  | cons _ ih => exact .cons (.str _ _) ih
theorem datT_ok {xs : List (List Nat)} (h : ∀ x ∈ xs, cpOk x) : ∀ d ∈ xs.map datT, kqdOk 8 d = true := by
  intro d hd
  obtain ⟨x, hx, rfl⟩ := List.mem_map.mp hd
  exact cpOk_tx (h x hx)
section
variable {prog : Program} {w : World} {A : Around} {E : Value → Shared → Prop} {s : Shared} {h₀ : Heap} {L a b : Addr} {news : List (Addr × Obj)} {us vs : List Value} {ka kb : Nat} {xs ys : List (List Nat)} {Q : Value → Shared → Prop}
open Classical in
theorem my_leq {bb : Bool} (N : News h₀ L s.heap news) (ma : (a, seqObj "list" us.toArray ka) ∈ news) (mb : (b, seqObj "list" vs.toArray kb) ∈ news) (Wa : Wvs xs us) (Wb : Wvs ys vs)
    (ha : ∀ x ∈ xs, cpOk x) (hb : ∀ x ∈ ys, cpOk x) (hu : A.units + 64 < cLine) (hbb : decide (xs = ys) = bb) (h : Q (.bool bb) s) : wpAny (model prog w) A (compareOp .Eq (.ref a) (.ref b)) Q E s := by
  subst hbb
  refine kqd_eq N ma rfl rfl (wvs_dat (news := []) Wa) (fun _ h => nomatch h) mb rfl rfl (wvs_dat (news := []) Wb) (fun _ h => nomatch h) (datT_ok ha) (datT_ok hb) hu ?_
  by_cases e : xs = ys
  · subst e
    rw [decide_eq_true rfl] at h
    rw [decide_eq_true rfl]; exact h
  · rw [decide_eq_false e] at h
    rw [decide_eq_false (fun q => e (datT_inj q))]; exact h
end
def cwB (x : List Nat) : Bool := Txt.contains (ofString " \t\x0d\n") (tx x)
theorem cwB_one (c : Nat) : cwB [c] = ws c := (facts_of rfl).wt
theorem my_nin2 {prog : Program} {w : World} {A : Around} {E : Value → Shared → Prop} {s : Shared} {x y : Str} {t u : Tok} {b : Bool} {Q : Value → Shared → Prop} (hb : (!Txt.contains y x) = b) (h : Q (.bool b) s) : wpAny (model prog w) A (compareOp .NotIn (.str x t) (.str y u)) Q E s := by
  subst hb; exact SB.notContains h
theorem Wvs.getV {xs : List (List Nat)} {vs : List Value} (h : Wvs xs vs) : ∀ {i : Nat} {v : Value}, vs[i]? = some v → ∃ x t, xs[i]? = some x ∧ v = .str (tx x) t := by
  induction h with
  | nil => intro i v h; simp at h
  | @cons x t xs vs _ ih =>
    intro i v h
    cases i with
    | zero => simp at h; exact ⟨x, t, rfl, h.symm⟩
    | succ i => simpa using ih (by simpa using h)
section
variable {prog : Program} {w : World} {A : Around} {E : Value → Shared → Prop} {s : Shared} {h₀ : Heap} {L D : Addr} {news : List (Addr × Obj)} {vs : List Value} {c : Nat}
theorem my_item0 {Q : Value → Shared → Prop} {value slice : PySem.Expr} {vs : Array Value} {u : Tok} {x : Value} {xs : List Value} (N : News h₀ L s.heap news) (hm : (D, seqObj "list" vs c) ∈ news) (hx : vs.toList = x :: xs) (h : Q x s)
    (hs : subscripted slice false (.ref D) (.int 0 u) = operate [.ref D, .int 0 u] (getItem (.ref D) (.int 0 u)) := by with_unfolding_all rfl) (hg : ∀ r, letTemporaryGo value (.ref D) r = pure () := by intro _; with_unfolding_all rfl) :
    wpAny (model prog w) A (subscriptTail value slice (.ref D) (.int 0 u)) Q E s := by
  refine item_list (k := 0) ⟨_, (N _ hm).1, rfl, _, rfl⟩ (by decide) (by decide) ?_ h hs hg
  have : vs = (x :: xs).toArray := by rw [← hx]
  rw [this]; rfl
theorem my_slast {Q : Value → Shared → Prop} {value slice : PySem.Expr} {p : List Nat} {z : Nat} {t u : Tok} (hz : p.length < 400000) (h : ∀ t' k, Q (.str (tx [z]) t') { s with toks := k })
    (hs : subscripted slice false (.str (tx (p ++ [z])) t) (.int (-1) u) = operate [.str (tx (p ++ [z])) t, .int (-1) u] (getItem (.str (tx (p ++ [z])) t) (.int (-1) u)) := by with_unfolding_all rfl) (hg : ∀ r, letTemporaryGo value (.str (tx (p ++ [z])) t) r = pure () := by intro _; with_unfolding_all rfl) :
    wpAny (model prog w) A (subscriptTail value slice (.str (tx (p ++ [z])) t) (.int (-1) u)) Q E s := by
  refine subscriptTail_builtin (typeIs_str _ _ _) slot_str_getitem.lookup (getItem_str (c := z) (by decide) ?_ ?_) hs hg
  · have hl : (tx (p ++ [z])).length = p.length + 1 := by rw [len_tx]; simp
    rw [hl, seqIndex_neg (by decide) (by omega)]
    have : ((-1 : Int) + ((p.length + 1 : Nat) : Int)).toNat = p.length := by omega
    rw [this]
    simp
  · exact h _ _
open Classical in
theorem my_lin {Q : Value → Shared → Prop} {us : Array Value} {p : List Nat} {t : Tok} {xs : List (List Nat)} {b : Bool} (N : News h₀ L s.heap news) (hm : (D, seqObj "list" us c) ∈ news) (W : Wvs xs us.toList) (hx : ∀ x ∈ xs, cpOk x) (hp : cpOk p) (hu : A.units + 64 < cLine)
    (hb : decide (p ∈ xs) = b) (h : Q (.bool b) s) : wpAny (model prog w) A (compareOp .In (.str (tx p) t) (.ref D)) Q E s := by
  subst hb
  refine kqd_isIn (ds := xs.map datT) (d := datT p) (xs := us.toList) (n₁ := []) (n₂ := []) N hm rfl rfl (wvs_dat W) (fun _ h => nomatch h) (.str _ _) (fun _ h => nomatch h) (datT_ok hx) (cpOk_tx hp) hu ?_
  by_cases e : p ∈ xs
  · rw [decide_eq_true e] at h
    rw [decide_eq_true (List.mem_map_of_mem (f := datT) e)]; exact h
  · rw [decide_eq_false e] at h
    rw [decide_eq_false (fun q => by
      obtain ⟨y, hy, q⟩ := List.mem_map.mp q
      injection q with q
      rw [tx_inj q] at hy; exact e hy)]
    exact h
open Classical in
theorem my_lnin {Q : Value → Shared → Prop} {us : Array Value} {p : List Nat} {t : Tok} {xs : List (List Nat)} {b : Bool} (N : News h₀ L s.heap news) (hm : (D, seqObj "list" us c) ∈ news) (W : Wvs xs us.toList) (hx : ∀ x ∈ xs, cpOk x) (hp : cpOk p) (hu : A.units + 64 < cLine)
    (hb : decide (p ∈ xs) = b) (h : Q (.bool (!b)) s) : wpAny (model prog w) A (compareOp .NotIn (.str (tx p) t) (.ref D)) Q E s := by
  subst hb
  refine kqd_notIn (ds := xs.map datT) (d := datT p) (xs := us.toList) (n₁ := []) (n₂ := []) N hm rfl rfl (wvs_dat W) (fun _ h => nomatch h) (.str _ _) (fun _ h => nomatch h) (datT_ok hx) (cpOk_tx hp) hu ?_
  by_cases e : p ∈ xs
  · rw [decide_eq_true e] at h
    rw [decide_eq_true (List.mem_map_of_mem (f := datT) e)]; exact h
  · rw [decide_eq_false e] at h
    rw [decide_eq_false (fun q => by
      obtain ⟨y, hy, q⟩ := List.mem_map.mp q
      injection q with q
      rw [tx_inj q] at hy; exact e hy)]
    exact h
open Classical in
theorem my_lneA {a b : Addr} {us vs : Array Value} {ka kb : Nat} {xs ys : List (List Nat)} {Q : Value → Shared → Prop}
    {bb : Bool} (N : News h₀ L s.heap news) (ma : (a, seqObj "list" us ka) ∈ news) (mb : (b, seqObj "list" vs kb) ∈ news) (Wa : Wvs xs us.toList) (Wb : Wvs ys vs.toList)
    (ha : ∀ x ∈ xs, cpOk x) (hb : ∀ x ∈ ys, cpOk x) (hu : A.units + 64 < cLine) (hbb : decide (xs = ys) = bb) (h : Q (.bool (!bb)) s) : wpAny (model prog w) A (compareOp .NotEq (.ref a) (.ref b)) Q E s := by
  subst hbb
  refine kqd_ne (ds := xs.map datT) (es := ys.map datT) (xs := us.toList) (ys := vs.toList) N ma rfl rfl (wvs_dat (news := []) Wa) (fun _ h => nomatch h) mb rfl rfl (wvs_dat (news := []) Wb) (fun _ h => nomatch h) (datT_ok ha) (datT_ok hb) hu ?_
  by_cases e : xs = ys
  · subst e
    rw [decide_eq_true rfl] at h
    rw [decide_eq_true rfl]; exact h
  · rw [decide_eq_false e] at h
    rw [decide_eq_false (fun q => e (datT_inj q))]; exact h
end
end
theorem ring11 : True := by first | walk1 | trivial
section
local macro_rules | `(tactic| walk_at "compareOp In str str") => `(tactic| (refine' my_in ?mb ?_; (case mb => first | assumption | (refine (?_ : _ = true); kernel_rfl!) | (refine (?_ : _ = false); kernel_rfl!))))
local macro_rules | `(tactic| walk_at "compareOp Eq str str") => `(tactic| (refine' my_eq ?mb ?_; (case mb => first | assumption | (refine (?_ : _ = true); kernel_rfl!) | (refine (?_ : _ = false); kernel_rfl!))))
local macro_rules | `(tactic| walk_at "compareOp NotEq str str") => `(tactic| (refine' my_ne ?mb ?_; (case mb => first | assumption | (refine (?_ : _ = true); kernel_rfl!) | (refine (?_ : _ = false); kernel_rfl!))))
local macro_rules | `(tactic| walk_at "truthy str") => `(tactic| (refine' my_true ?ml ?mb ?_; (case ml => first | assumption | decide +kernel); (case mb => first | assumption | (refine (?_ : _ = true); kernel_rfl!) | (refine (?_ : _ = false); kernel_rfl!)); intro k9))
local macro_rules | `(tactic| walk_at "inplaceOp Add str str") => `(tactic| (refine' my_iadd ?mz ?ms ?_; (case mz => assumption); (case ms => assumption); intro t9 k9))
local macro_rules | `(tactic| walk_at "ite") => `(tactic| first | refine ite_tt ?_ | refine ite_ff ?_)
local macro_rules | `(tactic| walk_at "compareOp NotIn str str") => `(tactic| (refine' my_nin ?mb ?_; (case mb => assumption)))
local macro_rules | `(tactic| walk_at "call ref") => `(tactic| (k_here; (with_reducible show wpAny _ _ (call (Value.ref 575) [Value.ref _, Value.int 1 _]) _ _ _); k_dflt (first
  | (refine' c_readC ?k1 ?k2 ?k3 ?k4 ?k5 ?k6 ?k7 ?k8 ?kd ?ku ?kl ?kp ?kx ?_; (case k1 => k_asm); (case k2 => k_asm); (case k3 => k_asm); (case k4 => k_asm); (case k5 => first | exact rfl | assumption); (case k6 => k_asm); (case k7 => k_mem); (case k8 => k_updF); (case kd => ktr_room); (case ku => ktr_units); (case kl => assumption); (case kp => assumption); (case kx => assumption); k_whole; intro t9 u9 h9 tk9 F9 N9; (try dsimp only at N9); (try dsimp only))
  | (refine' c_readN ?k1 ?k2 ?k3 ?k4 ?k5 ?k6 ?k7 ?k8 ?kd ?ku ?kl ?kq ?kp ?_; (case k1 => k_asm); (case k2 => k_asm); (case k3 => k_asm); (case k4 => k_asm); (case k5 => first | exact rfl | assumption); (case k6 => k_asm); (case k7 => k_mem); (case k8 => k_updF); (case kd => ktr_room); (case ku => ktr_units); (case kl => assumption); (case kq => assumption); (case kp => assumption); k_whole; intro t9 h9 tk9 F9 N9; (try dsimp only at N9); (try dsimp only)))))
section
local macro_rules | `(tactic| walk_at "subscriptTail Name Name ref int") => `(tactic| (k_here; (with_reducible show wpAny _ _ (subscriptTail _ _ (Value.ref _) (Value.int _ _)) _ _ _); (with_unfolding_all refine' my_item ?N ?ma ?hz ?hx ?_ ?hs ?hg; (case N => k_asm); (case ma => first | assumption | k_mem); (case hz => assumption); (case hx => assumption); (case hs => with_unfolding_all rfl); (case hg => intro _; with_unfolding_all rfl); k_whole)))
local macro_rules | `(tactic| walk_at "binaryOp Pow int int") => `(tactic| (k_here; k_dflt (refine' pow_int ?h1 ?h2 ?_; (case h1 => exact Int.natCast_nonneg _); (case h2 => assumption))))
section
noncomputable abbrev dueE (L c : Addr) : Env := envX (ofString "_law_due") (fS (stAt 25)) L 788 (Value.ref 787) [(ofString "figures", c)]
theorem due_env (L : Addr) : envOfC (ofString "_law_due") (fS (stAt 25)) L 788 (Value.ref 787) = dueE L (L + 1) := by kernel_rfl
theorem due_cells (L : Addr) : cellsFrom (L + 1) (fS (stAt 25)).names [] = [(ofString "figures", L + 1)] := by kernel_rfl
theorem due_parts (L : Addr) : (envOfC (ofString "_law_due") (fS (stAt 25)) L 788 (Value.ref 787)).kindOf (ofString "parts") = some .local := by kernel_rfl
theorem due_figs (L : Addr) : (envOfC (ofString "_law_due") (fS (stAt 25)) L 788 (Value.ref 787)).kindOf (ofString "figures") = some .cell := by kernel_rfl
/-- the powers of two that the figures write -/
def upL : List Int → Nat → List Int
  | [], _ => []
  | f :: r, i => if f = 1 then 2 ^ i :: upL r (i + 1) else upL r (i + 1)
abbrev scD : Scope := { kind := .function, names := [(ofString ".0", .local), (ofString "i", .local), (ofString "figures", .free)], isGenerator := false, isCoroutine := false }
theorem ints_at : ∀ {vs : List Value} {ns : List Int}, IntsAre vs ns → ∀ i, i < ns.length → ∃ f u, ns.drop i = f :: ns.drop (i + 1) ∧ vs[i]? = some (.int f u)
  | _, _, .nil, i, h => absurd h (Nat.not_lt_zero i)
  | _, _, .cons _ t r, 0, _ => ⟨_, t, rfl, rfl⟩
  | _, _, .cons _ _ r, i + 1, h => by
    obtain ⟨f, u, a, b⟩ := ints_at r i (Nat.lt_of_succ_lt_succ h)
    exact ⟨f, u, a, b⟩
theorem due_rest (w : World) (mean : ExcName → Option Value) (mg mb : Str → Option Value)
    (dp un : Nat) (gd : Option (List Code)) (cn : Str) (cs : Scope) (a : Addr) (ccd : Value) (cl : List (Str × Addr)) (outer : List Env) (A₀ : Around) (base h₀ : Heap) (L : Addr) (m : Str → Option Value) (s : Shared) (Q E : Value → Shared → Prop) (g' : Heap) (L' c1 : Addr) (E' : Value → Shared → Prop)
    (m1 : Str → Option Value) (B : Below (ktrTop dp un gd cn cs L a ccd cl outer) base (envX cn cs L a ccd cl :: outer) g') (X : (Mine.K w.params).In g') (T : Top Mine.q (looseW Mine.q Mine.loose) mean mg mb g')
    (hdp : dp + 20 < recursionLimit) (hun : un + 300 < cLine) (Fin : List Value → List (Addr × Obj) → Prop) (p p1 p2 p3 p4 p5 p6 p7 : Pos) (kk k2 : Nat) (fl : Addr) (fs : List Int) (vF : List Value) (cF : Nat) (IF : IntsAre vF fs) (hlF : vF.length ≤ 8) (o1 : Obj) (ho1 : o1.data = Data.cell (some (Value.ref fl))) (rest : List (Addr × Obj)) (hmF : (fl, seqObj "list" vF.toArray cF) ∈ rest) :
    ∀ (k i : Nat) (ys : List Value), i + k = fs.length → (∀ us, IntsAre us (upL (fs.drop i) i) → Fin (ys ++ us) ((c1, o1) :: rest)) →
      LCt.CompRestT rw_oy0313_02.row.prog w ((ktrTop dp un gd cn cs L a ccd cl outer).deeper (dueE L' c1)) g' L' m1 (dueE L' c1) (.Compare (.Subscript (.Name (ofString "figures") p1) (.Name (ofString "i") p2) p3) [.Eq] [.Constant (.int 1) kk p4] p5) (.BinOp (.Constant (.int 2) k2 p6) .Pow (.Name (ofString "i") p7) p) (ofString "i") scD [(ofString "figures", c1)] s (fun _ => True) (fun i v => ∃ t, v = .int (0 + (i : Int)) t) Fin k i ys ((c1, o1) :: rest) := by
  revert X; k_fill; intro X
  have hz : vF.length < 400000 := Nat.lt_of_le_of_lt hlF (by decide)
  intro k
  induction k with
  | zero =>
    intro i ys hik hfin
    have := hfin [] (by rw [List.drop_eq_nil_of_le (by omega)]; exact .nil)
    rw [List.append_nil] at this
    exact this
  | succ k ih =>
    intro i ys hik hfin
    refine LCt.CompRestT.succ ?_
    intro v I oI C oC D m₂ h tk E' hP hC hx F N off ne
    obtain ⟨ne1, ne2, ne3⟩ := ne
    obtain ⟨t, rfl⟩ := hP
    rw [Int.zero_add] at *
    obtain ⟨f, u, hd, hx9⟩ := ints_at IF i (by omega)
    rw [hd] at hfin
    have hm9 : (fl, seqObj "list" vF.toArray cF) ∈ (I, oI) :: (C, oC) :: (D, LCg.lst ys) :: (c1, o1) :: rest := .tail _ (.tail _ (.tail _ (.tail _ hmF)))
    have hi8 : i < 8 := by have := IF.length; omega
    have hp2 : ((PySem.Builtin.Int.intBits 2 : Nat) : Int) * (i : Int) ≤ 2 ^ 27 := by
      rw [show PySem.Builtin.Int.intBits 2 = 2 by decide +kernel]; omega
    repeat' ktr_step
    · rename f = 1 => f1
      refine LCg.CompEnd.intro F N ((c1, o1) :: rest) (fun p hp => hp) off trivial (ih (i + 1) _ (by omega) ?_)
      intro us hu
      rw [List.append_assoc]
      refine hfin _ ?_
      simp only [upL, if_pos f1, List.singleton_append, Int.toNat_natCast]
      exact .cons _ _ hu
    · rename f ≠ 1 => f1
      refine LCg.CompEnd.intro F N ((c1, o1) :: rest) (fun p hp => hp) off trivial (ih (i + 1) ys (by omega) ?_)
      intro us hu
      refine hfin _ ?_
      simp only [upL, if_neg f1]
      exact hu
end
end
theorem ring12 : True := by first | walk1 | trivial
section
local macro_rules | `(tactic| walk_at "call builtin:len") => `(tactic| (k_here; k_dflt (refine my_len (by k_asm) (by first | assumption | k_mem) (by assumption) ?_); intro t9 k9))
section
theorem range_size0 (n : Nat) : Builtin.Range.rangeSize 0 (n : Int) 1 = ((n : Nat) : Int) := by
  unfold Builtin.Range.rangeSize
  simp only [show (1 : Int) > 0 by decide, if_true]
  by_cases h : (0 : Int) < (n : Int)
  · first | (rw [if_pos h]; omega) | (simp; omega) | simp
  · have : n = 0 := by omega
    subst this; rfl
theorem range_small0 (n : Nat) (h : n < 100000) : Builtin.Range.small 0 (n : Int) 1 = true := by
  have hf : ∀ k : Nat, k < 200000 → Builtin.Range.rangeFitsLong (k : Int) = true := by
    intro k hk
    unfold Builtin.Range.rangeFitsLong
    simp only [Bool.and_eq_true, decide_eq_true_eq]
    omega
  unfold Builtin.Range.small
  rw [range_size0, hf n (by omega), show (n : Int) + (1 - 1) = n by omega, show (n : Int) + (1 + 1) = ((n + 2 : Nat) : Int) by omega, hf _ (by omega)]
  simp only [show (1 : Int) > 0 by decide, if_true, Bool.or_true, Bool.and_true]
  decide
end
end
section
theorem my_loadX {M : Model} {A : Around} {E : Value → Shared → Prop} {s : Shared} {h₀ : Heap} {L a : Addr} {m : Str → Option Value} {cn : Str} {cs : Scope} {ccd v : Value} {cl : List (Str × Addr)} {x : Str} {Q : Value → Shared → Prop} (F : Fr h₀ L s.heap m) (hv : m x = some v) (h : Q v s)
    (hk : cs.kind = .function := by rfl) (hx : (envX cn cs L a ccd cl).kindOf x = some .local := by rfl) :
    wpAny M A (loadName (envX cn cs L a ccd cl) x) Q E s := wpAny_loadName_local hk hx F.ns hv h
end
theorem ring13 : True := by first | walk1 | trivial
section
local macro_rules | `(tactic| walk_at "binaryOp Mult str int") => `(tactic| (k_here; k_dflt (refine' my_mulbs _ ?hk ?hi ?_; (case hi => assumption); (case hk => assumption); intro t9 k9)))
local macro_rules | `(tactic| walk_at "binaryOp Add str str") => `(tactic| (k_here; k_dflt (refine' my_addS ?mz ?ms ?_; (case mz => assumption); (case ms => assumption); intro t9 k9)))
local macro_rules | `(tactic| walk_at "call builtin:len") => `(tactic| (k_here; k_dflt (refine my_len (by k_asm) (by assumption) (by assumption) ?_); intro t9 k9))
local macro_rules | `(tactic| walk_at "loadName") => `(tactic| (k_here; k_dflt (refine' my_loadX ?F ?v ?_ ?a ?b; (case F => k_asm); (case a => rfl); (case b => rfl); (case v => rfl); k_whole)))
local macro_rules | `(tactic| walk_at "binaryOp Pow int int") => `(tactic| (k_here; k_dflt (refine' pow_int ?h1 ?h2 ?_; (case h1 => exact Int.natCast_nonneg _); (case h2 => assumption))))
section
def dueM (pl : Addr) (acc : List Nat) (t : Tok) (up : Int) (tu : Tok) (mo sg si : Option Value) : Str → Option Value := fun y => if y = ofString "text" then some (.str (tx acc) t) else if y = ofString "more" then mo else if y = ofString "sign" then sg else if y = ofString "size" then si else if y = ofString "up" then some (.int up tu) else if y = ofString "parts" then some (.ref pl) else none
theorem dueM_n (pl : Addr) (acc acc' : List Nat) (t t' : Tok) (up : Int) (tu : Tok) (mo sg si mo' sg' si' : Option Value) (y : Str) : (if y = ofString "text" then some (.str (tx acc') t') else if y = ofString "more" then mo' else if y = ofString "sign" then sg' else if y = ofString "size" then si' else dueM pl acc t up tu mo sg si y) = dueM pl acc' t' up tu mo' sg' si' y := by
  unfold dueM
  by_cases h1 : y = ofString "text"
  · simp only [h1, if_true]
  by_cases h2 : y = ofString "more"
  · simp only [if_neg h1, if_pos h2]
  by_cases h3 : y = ofString "sign"
  · simp only [if_neg h1, if_neg h2, if_pos h3]
  by_cases h4 : y = ofString "size"
  · simp only [if_neg h1, if_neg h2, if_neg h3, if_pos h4]
  simp only [if_neg h1, if_neg h2, if_neg h3, if_neg h4]
noncomputable abbrev dueLB : List Stmt := forB 2 (fB (stAt 25))
theorem due_turn (w : World) (mean : ExcName → Option Value) (mg mb : Str → Option Value)
    (dp un : Nat) (gd : Option (List Code)) (cn : Str) (cs : Scope) (a : Addr) (ccd : Value) (cl : List (Str × Addr)) (outer : List Env) (A₀ : Around) (base h₀ : Heap) (L : Addr) (m : Str → Option Value) (s : Shared) (Q E : Value → Shared → Prop) (g' : Heap) (L' c1 : Addr) (W : Flow → Shared → Prop) (E' : Value → Shared → Prop)
    (pl fl a9 : Addr) (acc : List Nat) (t tu t1 t2 : Tok) (up : Nat) (mo sg si : Option Value) (led : List (Addr × Obj)) (n c k9 : Nat) (b : Bool) (vF : List Value) (cF : Nat) (o1 : Obj) (p1 p2 p3 : Pos) (kk : Nat)
    (B : Below (ktrTop dp un gd cn cs L a ccd cl outer) base (envX cn cs L a ccd cl :: outer) g') (X : (Mine.K w.params).In g') (T : Top Mine.q (looseW Mine.q Mine.loose) mean mg mb g') (F : Fr g' L' s.heap (dueM pl acc t up tu mo sg si)) (N : News g' L' s.heap led) (hT : (a9, seqObj "tuple" #[.int (n : Nat) t1, .str (tx [c]) t2] k9) ∈ led) (hF : (fl, seqObj "list" vF.toArray cF) ∈ led) (hc : (c1, o1) ∈ led) (ho1 : o1.data = Data.cell (some (Value.ref fl)))
    (hz : vF.length < 400000) (hlF : vF.length ≤ 8) (hn : n ≤ 100) (hup : up ≤ 300) (hacc : acc.length ≤ 5000) (fb : ((tx [c]).cps.toList == (ofString "\"").cps.toList) = b)
    (hdp : dp + 20 < recursionLimit) (hun : un + 300 < cLine)
    (hW : ∀ t' mo sg si h tk, Fr g' L' h (dueM pl (acc ++ (List.replicate ((n + if b then 0 else up) / 2 ^ vF.length) 92 ++ [c])) t' up tu mo sg si) → News g' L' h led → W .next { s with heap := h, toks := tk }) :
    wpAny (model rw_oy0313_02.row.prog w) ((ktrTop dp un gd cn cs L a ccd cl outer).deeper (dueE L' c1)) (assign (.Tuple [.Name (ofString "size") p1, .Name (ofString "sign") p2] kk p3) (dueE L' c1) (.ref a9)) (fun _ s₂ => wpAny (model rw_oy0313_02.row.prog w) ((ktrTop dp un gd cn cs L a ccd cl outer).deeper (dueE L' c1)) (execs dueLB (dueE L' c1)) W E' s₂) E' s := by
  revert X; k_fill; intro X
  have hTup : s.heap.IsTuple a9 #[.int (n : Nat) t1, .str (tx [c]) t2] := ⟨_, (N _ hT).1, rfl, _, rfl⟩
  have hp2 : ((PySem.Builtin.Int.intBits 2 : Nat) : Int) * (vF.length : Int) ≤ 2 ^ 27 := by
    rw [show PySem.Builtin.Int.intBits 2 = 2 by decide +kernel]; omega
  have e0 : ((n : Int) + 0).fdiv (2 ^ (vF.length : Int).toNat) = ((n / 2 ^ vF.length : Nat) : Int) := fdiv_nat n 0 _ _ rfl
  have e1 : ((n : Int) + (up : Int)).fdiv (2 ^ (vF.length : Int).toNat) = (((n + up) / 2 ^ vF.length : Nat) : Int) := fdiv_nat n up _ _ rfl
  have g0 : n / 2 ^ vF.length ≤ 1000 := Nat.le_trans (Nat.div_le_self _ _) (by omega)
  have g1 : (n + up) / 2 ^ vF.length ≤ 1000 := Nat.le_trans (Nat.div_le_self _ _) (by omega)
  have hW' : ∀ d : Nat, d = (n + if b then 0 else up) / 2 ^ vF.length → ∀ t' mo sg si h tk, Fr g' L' h (dueM pl (acc ++ (List.replicate d 92 ++ [c])) t' up tu mo sg si) → News g' L' h led → W .next { s with heap := h, toks := tk } := fun d e => by subst e; exact hW
  clear hW
  generalize hd0 : n / 2 ^ vF.length = d0 at *
  generalize hd1 : (n + up) / 2 ^ vF.length = d1 at *
  have ha : ∀ d : Nat, tx (List.replicate d 92) ++ tx [c] = tx (List.replicate d 92 ++ [c]) := fun d => tx_app _ _
  have ha0 := ha d0
  have ha1 := ha d1
  have hs : ∀ d : Nat, d ≤ 1000 → (tx (List.replicate d 92 ++ [c])).length < 400000 := fun d hd => by rw [len_tx, List.length_append, List.length_replicate, List.length_singleton]; omega
  have hs0 := hs d0 g0
  have hs1 := hs d1 g1
  have hz0 := tx_app acc (List.replicate d0 92 ++ [c])
  have hz1 := tx_app acc (List.replicate d1 92 ++ [c])
  have hu : ∀ d : Nat, d ≤ 1000 → (tx (acc ++ (List.replicate d 92 ++ [c]))).length < 400000 := fun d hd => by rw [len_tx, List.length_append, List.length_append, List.length_replicate, List.length_singleton]; omega
  have hu0 := hu d0 g0
  have hu1 := hu d1 g1
  clear ha hs hu
  unfold dueM at F
  repeat' ktr_step
  all_goals (try dsimp only)
  all_goals (rename Fr g' L' _ _ => F9; rename News g' L' _ _ => N9)
  · rename b = true => eb
    exact hW' d0 (by rw [eb, ← hd0]; rfl) _ _ _ _ _ _ (Fr_cong F9 (dueM_n pl acc _ t _ up tu mo sg si _ _ _)) N9
  · rename b = false => eb
    exact hW' d1 (by rw [eb, ← hd1]; rfl) _ _ _ _ _ _ (Fr_cong F9 (dueM_n pl acc _ t _ up tu mo sg si _ _ _)) N9
end
end
end
section
/-- the parts of a list of tuples -/
inductive PtsIn (led : List (Addr × Obj)) : List (Nat × Nat) → List Value → Prop
  | nil : PtsIn led [] []
  | cons {n c : Nat} {a : Addr} {t u : Tok} {k : Nat} {ps : List (Nat × Nat)} {vs : List Value} : (a, seqObj "tuple" #[.int (n : Nat) t, .str (tx [c]) u] k) ∈ led → n ≤ 100 → PtsIn led ps vs → PtsIn led ((n, c) :: ps) (.ref a :: vs)
theorem PtsIn.mono {led led' : List (Addr × Obj)} (h : ∀ p ∈ led, p ∈ led') {ps : List (Nat × Nat)} {vs : List Value} (P : PtsIn led ps vs) : PtsIn led' ps vs := by
  induction P with
  | nil => exact .nil
  | cons a b _ ih => exact .cons (h _ a) b ih
def dueL (up k : Nat) (ps : List (Nat × Nat)) : List Nat := ps.flatMap fun p => List.replicate ((p.1 + if p.2 == 34 then 0 else up) / 2 ^ k) 92 ++ [p.2]
theorem due_loop (w : World) (mean : ExcName → Option Value) (mg mb : Str → Option Value)
    (dp un : Nat) (gd : Option (List Code)) (cn : Str) (cs : Scope) (a : Addr) (ccd : Value) (cl : List (Str × Addr)) (outer : List Env) (A₀ : Around) (base h₀ : Heap) (L : Addr) (m : Str → Option Value) (s : Shared) (Q E : Value → Shared → Prop) (g' : Heap) (L' c1 : Addr) (W : Flow → Shared → Prop) (E' : Value → Shared → Prop)
    (pl fl : Addr) (tu : Tok) (up : Nat) (led : List (Addr × Obj)) (vF : List Value) (cF : Nat) (o1 lo : Obj) (p1 p2 p3 : Pos) (kk : Nat) (I : Addr) (hI : ∀ p ∈ led, p.1 < I)
    (B : Below (ktrTop dp un gd cn cs L a ccd cl outer) base (envX cn cs L a ccd cl :: outer) g') (X : (Mine.K w.params).In g') (T : Top Mine.q (looseW Mine.q Mine.loose) mean mg mb g') (hF : (fl, seqObj "list" vF.toArray cF) ∈ led) (hc : (c1, o1) ∈ led) (ho1 : o1.data = Data.cell (some (Value.ref fl))) (hlo : (pl, lo) ∈ led)
    (hlF : vF.length ≤ 8) (hup : up ≤ 300) (hdp : dp + 20 < recursionLimit) (hun : un + 300 < cLine) :
    ∀ (ps : List (Nat × Nat)) (vs : List Value), PtsIn led ps vs → ∀ (acc : List Nat) (t : Tok) (mo sg si : Option Value), acc.length + 500 * ps.length ≤ 5000 →
      (∀ t' mo sg si h tk, Fr g' L' h (dueM pl (acc ++ dueL up vF.length ps) t' up tu mo sg si) → News g' L' h led → W .next { s with heap := h, toks := tk }) →
      ItemsRest rw_oy0313_02.row.prog w ((ktrTop dp un gd cn cs L a ccd cl outer).deeper (dueE L' c1)) E' g' (dueE L' c1) (.Tuple [.Name (ofString "size") p1, .Name (ofString "sign") p2] kk p3) dueLB W s [(I, "list_iterator")] [(pl, lo)] (vs.map .val) (dueM pl acc t up tu mo sg si) led := by
  intro ps vs P
  induction P with
  | nil =>
    intro acc t mo sg si _ hW
    refine ItemsRest.zero fun h tk F N => hW t mo sg si h tk ?_ N
    rw [show acc ++ dueL up vF.length [] = acc from List.append_nil _]
    exact F
  | @cons n c a9 t1 t2 k9 ps vs hT hn _ ih =>
    intro acc t mo sg si hacc hW
    rw [List.map_cons]
    refine ItemsRest.val fun h tk F => ?_
    refine AllObj.cons fun o ho => AllObj.nil fun N => ?_
    have fb : ((tx [c]).cps.toList == (ofString "\"").cps.toList) = (c == 34) := by rw [s_dq]; rw [tx_eqb]; by_cases hc : c = 34 <;> simp [hc]
    refine due_turn w mean mg mb dp un gd cn cs a ccd cl outer A₀ base h₀ L m _ Q E g' L' c1 _ E' pl fl a9 acc t tu t1 t2 up mo sg si _ n c k9 (c == 34) vF cF o1 p1 p2 p3 kk B X T F N (.tail _ hT) (.tail _ hF) (.tail _ hc) ho1 (by omega) hlF hn hup (by omega) fb hdp hun ?_
    intro t' mo' sg' si' h2 tk2 F2 N2
    refine ⟨h2, tk2, _, led, rfl, F2, N2, fun p hp q hq => ?_, ?_, ?_⟩
    · rw [List.mem_singleton.mp hq]; exact Nat.ne_of_lt (hI p hp)
    · exact ⟨hlo, trivial⟩
    · refine ih _ _ _ _ _ ?_ ?_
      · have hd : (n + if (c == 34) = true then 0 else up) / 2 ^ vF.length ≤ 400 := Nat.le_trans (Nat.div_le_self _ _) (by split <;> omega)
        rw [List.length_append, List.length_append, List.length_replicate, List.length_singleton]
        rw [List.length_cons] at hacc
        omega
      · intro t3 mo3 sg3 si3 h3 tk3 F3 N3
        refine hW t3 mo3 sg3 si3 h3 tk3 ?_ N3
        rw [show acc ++ dueL up vF.length ((n, c) :: ps) = acc ++ (List.replicate ((n + if (c == 34) = true then 0 else up) / 2 ^ vF.length) 92 ++ [c]) ++ dueL up vF.length ps by
          unfold dueL; rw [List.flatMap_cons, ← List.append_assoc acc]]
        exact F3
end
theorem ring14 : True := by first | walk1 | trivial
section
local macro_rules | `(tactic| walk_at "compareOp In str str") => `(tactic| (refine' my_in ?mb ?_; (case mb => first | assumption | (refine (?_ : _ = true); kernel_rfl!) | (refine (?_ : _ = false); kernel_rfl!))))
local macro_rules | `(tactic| walk_at "compareOp Eq str str") => `(tactic| (refine' my_eq ?mb ?_; (case mb => first | assumption | (refine (?_ : _ = true); kernel_rfl!) | (refine (?_ : _ = false); kernel_rfl!))))
local macro_rules | `(tactic| walk_at "compareOp NotEq str str") => `(tactic| (refine' my_ne ?mb ?_; (case mb => first | assumption | (refine (?_ : _ = true); kernel_rfl!) | (refine (?_ : _ = false); kernel_rfl!))))
local macro_rules | `(tactic| walk_at "truthy str") => `(tactic| (refine' my_true ?ml ?mb ?_; (case ml => first | assumption | decide +kernel); (case mb => first | assumption | (refine (?_ : _ = true); kernel_rfl!) | (refine (?_ : _ = false); kernel_rfl!)); intro k9))
local macro_rules | `(tactic| walk_at "inplaceOp Add str str") => `(tactic| (refine' my_iadd ?mz ?ms ?_; (case mz => assumption); (case ms => assumption); intro t9 k9))
local macro_rules | `(tactic| walk_at "ite") => `(tactic| first | refine ite_tt ?_ | refine ite_ff ?_)
local macro_rules | `(tactic| walk_at "compareOp NotIn str str") => `(tactic| (refine' my_nin ?mb ?_; (case mb => assumption)))
local macro_rules | `(tactic| walk_at "call ref") => `(tactic| (k_here; (with_reducible show wpAny _ _ (call (Value.ref 575) [Value.ref _, Value.int 1 _]) _ _ _); k_dflt (first
  | (refine' c_readC ?k1 ?k2 ?k3 ?k4 ?k5 ?k6 ?k7 ?k8 ?kd ?ku ?kl ?kp ?kx ?_; (case k1 => k_asm); (case k2 => k_asm); (case k3 => k_asm); (case k4 => k_asm); (case k5 => first | exact rfl | assumption); (case k6 => k_asm); (case k7 => k_mem); (case k8 => k_updF); (case kd => ktr_room); (case ku => ktr_units); (case kl => assumption); (case kp => assumption); (case kx => assumption); k_whole; intro t9 u9 h9 tk9 F9 N9; (try dsimp only at N9); (try dsimp only))
  | (refine' c_readN ?k1 ?k2 ?k3 ?k4 ?k5 ?k6 ?k7 ?k8 ?kd ?ku ?kl ?kq ?kp ?_; (case k1 => k_asm); (case k2 => k_asm); (case k3 => k_asm); (case k4 => k_asm); (case k5 => first | exact rfl | assumption); (case k6 => k_asm); (case k7 => k_mem); (case k8 => k_updF); (case kd => ktr_room); (case ku => ktr_units); (case kl => assumption); (case kq => assumption); (case kp => assumption); k_whole; intro t9 h9 tk9 F9 N9; (try dsimp only at N9); (try dsimp only)))))
section
local macro_rules | `(tactic| walk_at "call builtin:len") => `(tactic| (k_here; k_dflt (refine my_len (by k_asm) (by first | assumption | k_mem) (by assumption) ?_); intro t9 k9))
section
theorem dueM_0 (pl : Addr) (t tu : Tok) (up : Int) (y : Str) : (if y = ofString "text" then some (Value.str (ofString "") t) else if y = ofString "up" then some (Value.int up tu) else if y = ofString "parts" then some (Value.ref pl) else none) = dueM pl [] t up tu none none none y := by
  unfold dueM
  rw [s_no]
  by_cases h1 : y = ofString "text"
  · simp only [h1, if_true]
  by_cases h2 : y = ofString "more"
  · subst h2; kernel_rfl
  by_cases h3 : y = ofString "sign"
  · subst h3; kernel_rfl
  by_cases h4 : y = ofString "size"
  · subst h4; kernel_rfl
  simp only [if_neg h1, if_neg h2, if_neg h3, if_neg h4]
theorem c_due (w : World) (mean : ExcName → Option Value) (mg mb : Str → Option Value)
    (dp un : Nat) (gd : Option (List Code)) (cn : Str) (cs : Scope) (a : Addr) (ccd : Value) (cl : List (Str × Addr)) (outer : List Env) (A₀ : Around) (base h₀ : Heap) (L : Addr) (m : Str → Option Value) (s : Shared) (Q E : Value → Shared → Prop) (rest : List (Addr × Obj)) (pl fl : Addr) (vp : List Value) (cP cF : Nat) (fs : List Int) (vF : List Value) (IF : IntsAre vF fs) (hlF : vF.length ≤ 8) (ps : List (Nat × Nat)) (P : PtsIn rest ps vp) (hps : ps.length ≤ 8) (upN : Nat) (hupN : (upL fs 0).sum = (upN : Int)) (hup : upN ≤ 300)
    (B : Below A₀ base outer h₀) (F : Fr h₀ L s.heap m) (X : (Mine.K w.params).In h₀) (T : Top Mine.q (looseW Mine.q Mine.loose) mean mg mb h₀) (hk : cs.kind = .function) (N : News h₀ L s.heap rest) (hmP : (pl, seqObj "list" vp.toArray cP) ∈ rest) (hmF : (fl, seqObj "list" vF.toArray cF) ∈ rest)
    (hdp : dp + 30 < recursionLimit) (hun : un + 400 < cLine)
    (hret : ∀ t h tk, Fr h₀ L h m → News h₀ L h rest → Q (.str (tx (dueL upN fs.length ps)) t) { s with heap := h, toks := tk }) :
    wpAny (model rw_oy0313_02.row.prog w) (ktrTop dp un gd cn cs L a ccd cl outer) (call (.ref 788) [.ref pl, .ref fl]) Q E s := by
  revert X; k_fill; intro X
  have hz : vF.length < 400000 := Nat.lt_of_le_of_lt hlF (by decide)
  refine wpAny_call ?_
  k_dflt (refine' code_defC (binds := [(ofString "parts", Value.ref pl), (ofString "figures", Value.ref fl)]) ?k1 ?k2 ?k3 ?k4 ?k5 ?kA ?kF ?kK ?k6 ?k7 ?k8 ?k9 ?kB ?kD ?_ ?c2 ?c3 ?c4; (case kA => exact rfl); (case kF => exact rfl); (case kK => assumption); (case k1 => k_asm); (case k2 => k_asm); (case k3 => k_asm); (case k4 => k_asm); (case k5 => k_asm); (case k6 => k_is); (case k7 => k_is); (case k8 => ktr_room); (case k9 => first | exact BindsTo.of_eq rfl | exact binds_K (by k_in) rfl (by k_is) rfl rfl rfl); (case kB => exact rfl); (case kD => decide +kernel); (case c2 => exact rfl); (case c3 => exact rfl); (case c4 => exact rfl); k_whole; intro g' L' h' tk' cells' FG' F' N' Y' B' X' T' l1; (try dsimp only))
  rw [due_cells] at Y'
  have hb1 : (bindL (envOfC (ofString "_law_due") (fS (stAt 25)) L' 788 (Value.ref 787)).kindOf [(ofString "parts", Value.ref pl), (ofString "figures", Value.ref fl)] fun x => none) = fun y => if y = ofString "parts" then some (Value.ref pl) else none := by
    simp only [bindL, due_parts, due_figs, if_true, if_false]
    exact if_neg (by decide)
  have hb2 : (bindC (envOfC (ofString "_law_due") (fS (stAt 25)) L' 788 (Value.ref 787)).kindOf [(ofString "parts", Value.ref pl), (ofString "figures", Value.ref fl)] fun x => none) (ofString "figures") = some (Value.ref fl) := by
    simp only [bindC, due_parts, due_figs]
    rfl
  rw [hb1] at F'
  obtain ⟨o1, rfl, ho1⟩ := Y'.one
  rw [hb2] at ho1
  clear hb1 hb2 Y'
  rw [due_env]
  have N2 : News g' L' h' ((L' + 1, o1) :: rest) := N'
  clear N'
  generalize L' + 1 = c1 at *
  repeat' ((fail_if_success (with_reducible show wpAny _ _ (eval (Expr.ListComp _ _ _ _) _) _ _ _)); ktr_step)
  rename Fr g' L' _ _ => F9
  k_dflt (refine LCt.ListComp_T (cl := [(ofString "figures", c1)]) F9 (by with_unfolding_all rfl) (by decide) (by rfl) (by decide) (by rfl) ?_)
  have hmF2 : (fl, seqObj "list" vF.toArray cF) ∈ (c1, o1) :: rest := .tail _ hmF
  repeat' ((fail_if_success (with_reducible show LCt.CompSrcT _ _ _ _ _ _ _ _ _ _ _ _ _ _ _)); ktr_step)
  rename IsRange _ _ _ _ _ _ _ _ => hr
  rename IntsAre vF fs => IF
  rename Fr g' L' _ _ => F8
  rename News g' L' _ _ => N8
  have hlf : fs.length ≤ 8 := by rw [← IF.length]; exact hlF
  refine LCt.CompSrcT.range rfl F8 N8 hr (range_small0 _ (by omega)) (range_size0 _) (Nat.le_trans hlf (by decide)) ?_
  intro gh
  k_dflt (refine due_rest w mean mg mb dp un gd cn cs a ccd cl outer A₀ base h₀ L m _ Q E g' L' c1 E _ B' X' T' (by omega) (by omega) _ _ _ _ _ _ _ _ _ _ _ fl fs vF cF IF hlF o1 ho1 rest hmF fs.length 0 [] (by omega) ?_)
  intro us hu
  rw [List.drop_zero] at hu
  rw [List.nil_append]
  repeat' ((fail_if_success (with_reducible show wpAny _ _ (exec (Stmt.For _ _ _ _ _) _) _ _ _)); ktr_step)
  rename Fr g' L' _ _ => F7
  rename News g' L' _ _ => N7
  refine For_turns (h₀ := g') F7 ?_
  repeat' ((fail_if_success (with_reducible show wpAny _ _ (pyIter _) _ _ _)); ktr_step)
  rw [hupN] at F7
  have F8 := Fr_cong F7 (dueM_0 pl _ _ _)
  k_dflt (refine iter_listTurns (vs := vp) rfl F8 N7 (.tail _ (.tail _ hmP)) rfl rfl fun I hI => ?_)
  k_dflt (refine due_loop w mean mg mb dp un gd cn cs a ccd cl outer A₀ base h₀ L m _ Q E g' L' c1 _ _ pl fl _ upN _ vF cF o1 _ _ _ _ _ I hI B' X' T' (.tail _ hmF2) (.tail _ (.head _)) ho1 (.tail _ (.tail _ hmP)) hlF hup (by omega) (by omega) ps vp (P.mono fun p hp => .tail _ (.tail _ hp)) [] _ none none none (by rw [List.length_nil]; omega) ?_)
  intro t' mo sg si h tk F6 N6
  rw [List.nil_append, IF.length] at F6
  have N5 : News g' L' h rest := fun p hp => N6 p (.tail _ (.tail _ hp))
  clear N6
  unfold dueM at F6
  dsimp only
  repeat' ktr_step
  rename Fr h₀ L _ _ => FK
  rename News h₀ L _ _ => NK
  exact hret _ _ _ FK NK
end
end
section
theorem my_mod {prog : Program} {w : World} {A : Around} {E : Value → Shared → Prop} {s : Shared} {a b j : Int} {t u : Tok} {Q : Value → Shared → Prop} (hb : b ≠ 0) (hj : a.fmod b = j) (h : ∀ k t', Q (.int j t') { s with toks := k }) : wpAny (model prog w) A (binaryOp .Mod (.int a t) (.int b u)) Q E s := mod_int hb (hj ▸ h _ _)
end
theorem ring15 : True := by first | walk1 | trivial
section
local macro_rules | `(tactic| walk_at "binaryOp Mod int int") => `(tactic| (k_here; (with_reducible show wpAny _ _ (binaryOp _ _ (Value.int 6 _)) _ _ _); k_dflt (refine' my_mod ?hb ?hj ?_; (case hj => with_reducible assumption); (case hb => decide); intro k9 t9)))
local macro_rules | `(tactic| walk_at "compareOp In str ref") => `(tactic| (k_here; k_dflt (refine' my_lin ?N ?ma ?wa ?ca ?cp ?hu ?hb ?_; (case N => k_asm); (case ma => k_mem); (case wa => exact .cons (.cons .nil)); (case ca => assumption); (case cp => assumption); (case hu => ktr_units); (case hb => assumption))))
local macro_rules | `(tactic| walk_at "call builtin:list.append") => `(tactic| (k_here; k_dflt (refine' my_append ?F ?N ?U ?hz ?_; (case F => k_asm); (case N => k_asm); (case U => k_updF); (case hz => assumption)); intro h' c9' F' N'; (try dsimp only at N'); (try k_sweep)))
section
noncomputable abbrev prE (L : Addr) : Env := envOf (ofString "_law_parts") (fS (stAt 24)) L 783 (Value.ref 782)
noncomputable abbrev prB : List Stmt := forB 1 (fB (stAt 24))
def prM (sl kv : Value) (PD : Addr) (xv sg si : Option Value) : Str → Option Value := fun y => if y = ofString "size" then si else if y = ofString "sign" then sg else if y = ofString "x" then xv else if y = ofString "parts" then some (.ref PD) else if y = ofString "k" then some kv else if y = ofString "script" then some sl else none
theorem prM_F {g' h : Heap} {L' PD : Addr} {sl kv : Value} {xv sg si : Option Value} {m9 : Str → Option Value} (F : Fr g' L' h m9) (e : ∀ y, y ≠ ofString "size" → y ≠ ofString "sign" → m9 y = prM sl kv PD xv sg si y) :
    Fr g' L' h (prM sl kv PD xv (m9 (ofString "sign")) (m9 (ofString "size"))) := Fr_cong F (fun y => by
  by_cases h1 : y = ofString "size"
  · subst h1; unfold prM; rw [if_pos rfl]
  · by_cases h2 : y = ofString "sign"
    · subst h2; unfold prM; rw [if_neg h1, if_pos rfl]
    · rw [e y h1 h2]; unfold prM; simp only [if_neg h1, if_neg h2])
/-- the part that a number writes: its run and its sign -/
def partOf (k : Nat) (x : Int) : Nat × Nat :=
  if x.fmod 6 = 0 then (((x.fdiv 6).fmod 12).toNat, 97) else if x.fmod 6 = 1 then (((x.fdiv 6).fmod 12).toNat, 32)
  else if x.fmod 6 = 2 then (((x.fdiv 6).fmod 12).toNat, 10) else if x.fmod 6 = 3 then (((x.fdiv 6).fmod 12).toNat, 39)
  else if x.fmod 6 = 4 then (((x.fdiv 6).fmod 12).toNat, if ((x.fdiv 72).fmod 55296).toNat = 34 ∨ ((x.fdiv 72).fmod 55296).toNat = 92 then 98 else ((x.fdiv 72).fmod 55296).toNat)
  else (2 ^ k * (((x.fdiv 6).fmod 2).toNat + 1) - 1, 34)
def PartIs (k : Nat) (x nv : Int) (sv : Str) : Prop := nv = ((partOf k x).1 : Nat) ∧ sv = tx [(partOf k x).2]
theorem nn12 (x : Int) : (x.fdiv 6).fmod 12 = ((((x.fdiv 6).fmod 12).toNat : Nat) : Int) := (Int.toNat_of_nonneg (Int.fmod_nonneg_of_pos _ (by decide))).symm
theorem part0 {k : Nat} {x : Int} (h : x.fmod 6 = 0) : PartIs k x ((x.fdiv 6).fmod 12) (ofString "a") := ⟨by unfold partOf; rw [if_pos h]; exact nn12 x, by unfold partOf; rw [if_pos h]; kernel_rfl⟩
theorem part1 {k : Nat} {x : Int} (h : x.fmod 6 = 1) : PartIs k x ((x.fdiv 6).fmod 12) (ofString " ") := ⟨by unfold partOf; rw [if_neg (by omega), if_pos h]; exact nn12 x, by unfold partOf; rw [if_neg (by omega), if_pos h]; kernel_rfl⟩
theorem part2 {k : Nat} {x : Int} (h : x.fmod 6 = 2) : PartIs k x ((x.fdiv 6).fmod 12) (ofString "\n") := ⟨by unfold partOf; rw [if_neg (by omega), if_neg (by omega), if_pos h]; exact nn12 x, by unfold partOf; rw [if_neg (by omega), if_neg (by omega), if_pos h]; kernel_rfl⟩
theorem part3 {k : Nat} {x : Int} (h : x.fmod 6 = 3) : PartIs k x ((x.fdiv 6).fmod 12) (ofString "'") := ⟨by unfold partOf; rw [if_neg (by omega), if_neg (by omega), if_neg (by omega), if_pos h]; exact nn12 x, by unfold partOf; rw [if_neg (by omega), if_neg (by omega), if_neg (by omega), if_pos h]; kernel_rfl⟩
theorem any_qb (c : Nat) : ([ofString "\"", ofString "\\"].any fun z => z == (⟨#[c]⟩ : Str)) = decide (c = 34 ∨ c = 92) := by
  rw [s_dq, s_bs]
  by_cases h1 : c = 34
  · subst h1; rfl
  · by_cases h2 : c = 92
    · subst h2; rfl
    · rw [decide_eq_false (by omega)]
      have e1 : ((tx [34] : Str) == ⟨#[c]⟩) = false := beq_eq_false_iff_ne.mpr (fun e => h1 (by have := congrArg (fun z : Str => z.cps.toList) e; simpa using this.symm))
      have e2 : ((tx [92] : Str) == ⟨#[c]⟩) = false := beq_eq_false_iff_ne.mpr (fun e => h2 (by have := congrArg (fun z : Str => z.cps.toList) e; simpa using this.symm))
      simp only [List.any_cons, List.any_nil, e1, e2, Bool.or_false]
theorem part4 {k : Nat} {x : Int} (h : x.fmod 6 = 4) {b : Bool} (hb : ([ofString "\"", ofString "\\"].any fun z => z == (⟨#[((x.fdiv 72).fmod 55296).toNat]⟩ : Str)) = b) : PartIs k x ((x.fdiv 6).fmod 12) (if b then ofString "b" else ⟨#[((x.fdiv 72).fmod 55296).toNat]⟩) := by
  rw [any_qb] at hb
  refine ⟨by unfold partOf; rw [if_neg (by omega), if_neg (by omega), if_neg (by omega), if_neg (by omega), if_pos h]; exact nn12 x, ?_⟩
  have n0 : ¬ x.fmod 6 = 0 := by omega
  have n1 : ¬ x.fmod 6 = 1 := by omega
  have n2 : ¬ x.fmod 6 = 2 := by omega
  have n3 : ¬ x.fmod 6 = 3 := by omega
  cases b with
  | true =>
    show ofString "b" = _
    unfold partOf; rw [if_neg n0, if_neg n1, if_neg n2, if_neg n3, if_pos h, if_pos (of_decide_eq_true hb)]; kernel_rfl
  | false =>
    show (⟨#[((x.fdiv 72).fmod 55296).toNat]⟩ : Str) = _
    unfold partOf; rw [if_neg n0, if_neg n1, if_neg n2, if_neg n3, if_pos h, if_neg (of_decide_eq_false hb)]
theorem part5 {k : Nat} {x : Int} (h : x.fmod 6 = 5) : PartIs k x (2 ^ (k : Int).toNat * ((x.fdiv 6).fmod 2 + 1) - 1) (ofString "\"") := by
  refine ⟨?_, by unfold partOf; rw [if_neg (by omega), if_neg (by omega), if_neg (by omega), if_neg (by omega), if_neg (by omega)]; exact s_dq⟩
  unfold partOf; rw [if_neg (by omega), if_neg (by omega), if_neg (by omega), if_neg (by omega), if_neg (by omega)]
  have e : (x.fdiv 6).fmod 2 = ((((x.fdiv 6).fmod 2).toNat : Nat) : Int) := (Int.toNat_of_nonneg (Int.fmod_nonneg_of_pos _ (by decide))).symm
  generalize ((x.fdiv 6).fmod 2).toNat = r at *
  rw [e, Int.toNat_natCast]
  have h1 : 1 ≤ 2 ^ k * (r + 1) := Nat.mul_pos (Nat.pow_pos (by decide)) (Nat.succ_pos r)
  show _ = ((2 ^ k * (r + 1) - 1 : Nat) : Int)
  rw [Int.natCast_sub h1]
  norm_cast
theorem qb_false {c : Nat} (h1 : ([ofString "\"", ofString "\\"].any fun z => z == (⟨#[c]⟩ : Str)) = false) (h2 : ((⟨#[c]⟩ : Str) == ofString "\"") = true) : False := by
  rw [any_qb] at h1
  have h3 := eq_of_beq h2
  rw [s_dq] at h3
  have : c = 34 := by have := congrArg (fun z : Str => z.cps.toList) h3; simpa using this
  exact of_decide_eq_false h1 (.inl this)
theorem news_p1 {h₀ h : Heap} {L : Addr} {a b : Addr × Obj} {r : List (Addr × Obj)} (N : News h₀ L h (a :: b :: r)) : News h₀ L h (a :: r) := fun p hp => by
  rcases List.mem_cons.mp hp with rfl | hp
  · exact N _ (.head _)
  · exact N _ (.tail _ (.tail _ hp))
theorem pt_turn : ∀ (w : World) (mean : ExcName → Option Value) (mg mb : Str → Option Value)
    (dp un : Nat) (gd : Option (List Code)) (cn : Str) (cs : Scope) (a : Addr) (ccd : Value) (cl : List (Str × Addr)) (outer : List Env) (A₀ : Around) (base h₀ : Heap) (L : Addr) (m : Str → Option Value) (s : Shared) (Q E : Value → Shared → Prop) (g' : Heap) (L' : Addr) (W : Flow → Shared → Prop) (E' : Value → Shared → Prop)
    (sl : Value) (k : Nat) (tk t0 : Tok) (PD I : Addr) (oI : Obj) (x : Int) (sg si : Option Value) (vs : List Value) (cD : Nat) (tl : List (Addr × Obj))
    (B : Below (ktrTop dp un gd cn cs L a ccd cl outer) base (envX cn cs L a ccd cl :: outer) g') (X : (Mine.K w.params).In g') (T : Top Mine.q (looseW Mine.q Mine.loose) mean mg mb g') (F : Fr g' L' s.heap (prM sl (.int (k : Nat) tk) PD (some (.int x t0)) sg si)) (N : News g' L' s.heap ((I, oI) :: (PD, seqObj "list" vs.toArray cD) :: tl)) (nI : @Ne Nat I PD) (hne : ∀ p ∈ tl, p.1 ≠ PD)
    (hk : k ≤ 4) (hvs : vs.length < 400000) (hdp : dp + 20 < recursionLimit) (hun : un + 300 < cLine)
    (hW : ∀ (T : Addr) (nv : Int) (sv : Str) t1 t2 k1 c' sg si h tk', @Ne Nat T I → PartIs k x nv sv → Fr g' L' h (prM sl (.int (k : Nat) tk) PD (some (.int x t0)) sg si) → News g' L' h ((T, seqObj "tuple" #[.int nv t1, .str sv t2] k1) :: (I, oI) :: (PD, seqObj "list" (vs ++ [Value.ref T]).toArray c') :: tl) → W .next { s with heap := h, toks := tk' }),
    wpAny (model rw_oy0313_02.row.prog w) ((ktrTop dp un gd cn cs L a ccd cl outer).deeper (prE L')) (execs prB (prE L')) W E' s := by
  refine hk32 (by repeat first | exact nW | exact nA | exact nS | apply nP | infer_instance) ((?f : ∀ w mean mg mb dp un gd cn cs a ccd cl outer A₀ base h₀ L m s Q E g' L' W E' sl k tk t0 PD I oI, Hd32 _ w mean mg mb dp un gd cn cs a ccd cl outer A₀ base h₀ L m s Q E g' L' W E' sl k tk t0 PD I oI) _ _ _ _ _ _ _ _ _ _ _ _ _ _ _ _ _ _ _ _ _ _ _ _ _ _ _ _ _ _ _ _)
  set_option tactic.hygienic false in (intros; intro x; intros)
  revert X; k_fill; intro X
  have hq0 : 0 ≤ (x.fdiv 72).fmod 55296 := Int.fmod_nonneg_of_pos _ (by decide)
  have hq1 : (x.fdiv 72).fmod 55296 < 55296 := Int.fmod_lt_of_pos _ (by decide)
  have hj0 : 0 ≤ x.fmod 6 := Int.fmod_nonneg_of_pos _ (by decide)
  have hj6 : x.fmod 6 < 6 := Int.fmod_lt_of_pos _ (by decide)
  have hr2 : 0 ≤ (x.fdiv 6).fmod 2 := Int.fmod_nonneg_of_pos _ (by decide)
  have hr3 : (x.fdiv 6).fmod 2 < 2 := Int.fmod_lt_of_pos _ (by decide)
  have hcase : x.fmod 6 = 0 ∨ x.fmod 6 = 1 ∨ x.fmod 6 = 2 ∨ x.fmod 6 = 3 ∨ x.fmod 6 = 4 ∨ x.fmod 6 = 5 := by omega
  unfold prM at F
  repeat' ((fail_if_success (with_reducible show wpAny _ _ (subscriptTail _ _ _ _) _ _ _)); ktr_step)
  have hF : ∀ {h : Heap} {m9 : Str → Option Value}, Fr g' L' h m9 → (∀ y, y ≠ ofString "size" → y ≠ ofString "sign" → m9 y = prM sl (.int (k : Nat) tk) PD (some (.int x t0)) none none y) → Fr g' L' h (prM sl (.int (k : Nat) tk) PD (some (.int x t0)) (m9 (ofString "sign")) (m9 (ofString "size"))) := fun F e => prM_F F e
  rcases hcase with hj | hj | hj | hj | hj | hj
  all_goals (rw [hj]; repeat' ktr_step)
  all_goals (try dsimp only)
  all_goals (rename Fr g' L' _ _ => F9; rename News g' L' _ _ => N9)
  · exact hW _ _ _ _ _ _ _ _ _ _ _ (by k_ne) (part0 hj) (hF F9 (fun y h1 h2 => by unfold prM; simp only [if_neg h1, if_neg h2])) (news_p1 N9)
  · exact hW _ _ _ _ _ _ _ _ _ _ _ (by k_ne) (part1 hj) (hF F9 (fun y h1 h2 => by unfold prM; simp only [if_neg h1, if_neg h2])) (news_p1 N9)
  · exact hW _ _ _ _ _ _ _ _ _ _ _ (by k_ne) (part2 hj) (hF F9 (fun y h1 h2 => by unfold prM; simp only [if_neg h1, if_neg h2])) (news_p1 N9)
  · exact hW _ _ _ _ _ _ _ _ _ _ _ (by k_ne) (part3 hj) (hF F9 (fun y h1 h2 => by unfold prM; simp only [if_neg h1, if_neg h2])) (news_p1 N9)
  all_goals (first
    | exact absurd ‹_› (fun h => qb_false ‹_› h)
    | exact hW _ _ _ _ _ _ _ _ _ _ _ (by k_ne) (part5 hj) (hF F9 (fun y h1 h2 => by unfold prM; simp only [if_neg h1, if_neg h2])) (news_p1 N9)
    | exact hW _ _ _ _ _ _ _ _ _ _ _ (by k_ne) (part4 (b := true) hj (by assumption)) (hF F9 (fun y h1 h2 => by unfold prM; simp only [if_neg h1, if_neg h2])) (news_p1 (news_p1 N9))
    | exact hW _ _ _ _ _ _ _ _ _ _ _ (by k_ne) (part4 (b := false) hj (by assumption)) (hF F9 (fun y h1 h2 => by unfold prM; simp only [if_neg h1, if_neg h2])) (news_p1 (news_p1 N9)))
end
end
theorem ring16 : True := by first | walk1 | trivial
section
local macro_rules | `(tactic| walk_at "binaryOp Pow int int") => `(tactic| (k_here; k_dflt (refine' pow_int ?h1 ?h2 ?_; (case h1 => exact Int.natCast_nonneg _); (case h2 => assumption))))
section
noncomputable abbrev lawE (L c1 fa : Addr) (cdv : Value) : Env := envX (ofString "law") (fS (stAt 28)) L fa cdv [(ofString "first", c1)]
abbrev scF : Scope := { kind := .function, names := [(ofString ".0", .local), (ofString "i", .local), (ofString "first", .free)], isGenerator := false, isCoroutine := false }
theorem part_C {k : Nat} (hk : k ≤ 4) (x : Int) : (partOf k x).1 ≤ 100 ∧ (partOf k x).2 < 0x110000 := by
  have h12 : ((x.fdiv 6).fmod 12).toNat ≤ 100 := by
    have h0 : 0 ≤ (x.fdiv 6).fmod 12 := Int.fmod_nonneg_of_pos _ (by decide)
    have h1 : (x.fdiv 6).fmod 12 < 12 := Int.fmod_lt_of_pos _ (by decide)
    omega
  have h5 : ((x.fdiv 72).fmod 55296).toNat < 0x110000 := by
    have h0 : 0 ≤ (x.fdiv 72).fmod 55296 := Int.fmod_nonneg_of_pos _ (by decide)
    have h1 : (x.fdiv 72).fmod 55296 < 55296 := Int.fmod_lt_of_pos _ (by decide)
    omega
  unfold partOf
  split; · exact ⟨h12, show (97 : Nat) < _ by decide⟩
  split; · exact ⟨h12, show (32 : Nat) < _ by decide⟩
  split; · exact ⟨h12, show (10 : Nat) < _ by decide⟩
  split; · exact ⟨h12, show (39 : Nat) < _ by decide⟩
  split
  · refine ⟨h12, ?_⟩
    show (if _ then 98 else _) < _
    split
    · decide
    · exact h5
  · refine ⟨?_, show (34 : Nat) < _ by decide⟩
    have h0 : 0 ≤ (x.fdiv 6).fmod 2 := Int.fmod_nonneg_of_pos _ (by decide)
    have h1 : (x.fdiv 6).fmod 2 < 2 := Int.fmod_lt_of_pos _ (by decide)
    have h2 : ((x.fdiv 6).fmod 2).toNat + 1 ≤ 2 := by omega
    have h3 : (2 : Nat) ^ k ≤ 2 ^ 4 := Nat.pow_le_pow_right (by decide) hk
    have h4 := Nat.mul_le_mul h3 h2
    show 2 ^ k * (((x.fdiv 6).fmod 2).toNat + 1) - 1 ≤ 100
    omega
theorem fig_rest (w : World) (mean : ExcName → Option Value) (mg mb : Str → Option Value) (h : Heap) (L c1 fa : Addr) (cdv : Value) (s : Shared) (m1 : Str → Option Value)
    (B : Below callerA h [] h) (X : (Mine.K w.params).In h) (T : Top Mine.q (looseW Mine.q Mine.loose) mean mg mb h)
    (x : Int) (tx0 : Tok) (o1 : Obj) (ho1 : o1.data = Data.cell (some (Value.int x tx0))) (Fin : List Value → List (Addr × Obj) → Prop) (p1 p2 p3 p4 p5 p6 p7 p8 p9 : Pos) (k1 k2 k3 : Nat) :
    ∀ (k i : Nat) (ys : List Value), i + k ≤ 4 → (∀ us fs, IntsAre us fs → fs.length = k → Fin (ys ++ us) [(c1, o1)]) →
      LCg.CompRest rw_oy0313_02.row.prog w (callerA.deeper (lawE L c1 fa cdv)) h L m1 (lawE L c1 fa cdv)
        (.BinOp (.BinOp (.BinOp (.Name (ofString "first") p1) .FloorDiv (.Constant (.int 4) k1 p2) p3) .FloorDiv (.BinOp (.Constant (.int 2) k2 p4) .Pow (.Name (ofString "i") p5) p6) p7) .Mod (.Constant (.int 2) k3 p8) p9) (ofString "i") scF [(ofString "first", c1)] s (fun _ => True) (fun i v => ∃ t, v = .int (0 + (i : Int)) t) Fin k i ys [(c1, o1)] := by
  revert X; k_fill; intro X
  intro k
  induction k with
  | zero =>
    intro i ys hik hfin
    have := hfin [] [] .nil rfl
    rw [List.append_nil] at this
    exact this
  | succ k ih =>
    intro i ys hik hfin
    refine LCg.CompRest.succ ?_
    intro v I oI C oC D m₂ h tk E' hP hC hx F N off ne
    obtain ⟨ne1, ne2, ne3⟩ := ne
    obtain ⟨t, rfl⟩ := hP
    rw [Int.zero_add] at *
    have hp2 : ((PySem.Builtin.Int.intBits 2 : Nat) : Int) * (i : Int) ≤ 2 ^ 27 := by
      rw [show PySem.Builtin.Int.intBits 2 = 2 by decide +kernel]; omega
    repeat' ktr_step
    dsimp only
    refine LCg.CompEnd.intro F N [(c1, o1)] (fun p hp => hp) off trivial (ih (i + 1) _ (by omega) ?_)
    intro us fs hu hl
    rw [List.append_assoc]
    exact hfin _ _ (.cons _ _ hu) (by rw [List.length_cons, hl])
end
end
end
section
theorem partOf_le {k : Nat} (hk : k ≤ 4) (x : Int) : (partOf k x).1 ≤ 31 := by
  have h12 : (x.fdiv 6).fmod 12 < 12 := Int.fmod_lt_of_pos _ (by decide)
  have h2 : (x.fdiv 6).fmod 2 < 2 := Int.fmod_lt_of_pos _ (by decide)
  have h12' : ((x.fdiv 6).fmod 12).toNat ≤ 11 := by omega
  have h2' : ((x.fdiv 6).fmod 2).toNat ≤ 1 := by omega
  unfold partOf
  split; · exact Nat.le_trans h12' (by decide)
  split; · exact Nat.le_trans h12' (by decide)
  split; · exact Nat.le_trans h12' (by decide)
  split; · exact Nat.le_trans h12' (by decide)
  split; · exact Nat.le_trans h12' (by decide)
  have : 2 ^ k ≤ 16 := Nat.pow_le_pow_right (by decide) hk
  show 2 ^ k * (((x.fdiv 6).fmod 2).toNat + 1) - 1 ≤ 31
  have h3 : 2 ^ k * (((x.fdiv 6).fmod 2).toNat + 1) ≤ 16 * 2 := Nat.mul_le_mul this (Nat.succ_le_succ h2')
  omega
theorem prM_x (sl kv : Value) (PD : Addr) (xv sg si : Option Value) (v : Value) (y : Str) : (if y = ofString "x" then some v else prM sl kv PD xv sg si y) = prM sl kv PD (some v) sg si y := by
  unfold prM
  by_cases h1 : y = ofString "x"
  · subst h1; kernel_rfl
  · simp only [if_neg h1]
theorem PtsIn.snoc {led led' : List (Addr × Obj)} {ps : List (Nat × Nat)} {vs : List Value} (P : PtsIn led ps vs) (sub : ∀ p ∈ led, p ∈ led') {T : Addr} {n c k : Nat} {t u : Tok} (hT : (T, seqObj "tuple" #[.int (n : Nat) t, .str (tx [c]) u] k) ∈ led') (hn : n ≤ 100) : PtsIn led' (ps ++ [(n, c)]) (vs ++ [.ref T]) := by
  induction P with
  | nil => exact .cons hT hn .nil
  | cons a b _ ih => exact .cons (sub _ a) b ih
theorem PtsIn.length {led : List (Addr × Obj)} {ps : List (Nat × Nat)} {vs : List Value} (P : PtsIn led ps vs) : ps.length = vs.length := by
  induction P with
  | nil => rfl
  | cons _ _ _ ih => rw [List.length_cons, List.length_cons, ih]
theorem pt_loop (w : World) (mean : ExcName → Option Value) (mg mb : Str → Option Value)
    (dp un : Nat) (gd : Option (List Code)) (cn : Str) (cs : Scope) (a : Addr) (ccd : Value) (cl : List (Str × Addr)) (outer : List Env) (A₀ : Around) (base h₀ : Heap) (L : Addr) (m : Str → Option Value) (s : Shared) (Q E : Value → Shared → Prop) (g' : Heap) (L' : Addr) (W : Flow → Shared → Prop) (E' : Value → Shared → Prop)
    (sl : Value) (k : Nat) (tk : Tok) (PD ax : Addr) (base9 : List (Addr × Obj)) (xs : List Int) (its : List Value) (cA c0 : Nat) (h1 : Heap) (tk1 : Nat) (sg si xv : Option Value)
    (B : Below (ktrTop dp un gd cn cs L a ccd cl outer) base (envX cn cs L a ccd cl :: outer) g') (X : (Mine.K w.params).In g') (T : Top Mine.q (looseW Mine.q Mine.loose) mean mg mb g') (F : Fr g' L' h1 (prM sl (.int (k : Nat) tk) PD xv sg si)) (N : News g' L' h1 ((PD, seqObj "list" ([] : List Value).toArray c0) :: base9)) (hm : (ax, seqObj "list" its.toArray cA) ∈ base9) (hne : ∀ p ∈ base9, p.1 ≠ PD)
    (hI : IntsAre its xs) (hits : its.length ≤ 6) (hk : k ≤ 4) (hdp : dp + 20 < recursionLimit) (hun : un + 300 < cLine)
    (hgo : ∀ vs cD tups xv sg si h tk', PtsIn tups (xs.map (partOf k)) vs → Fr g' L' h (prM sl (.int (k : Nat) tk) PD xv sg si) → News g' L' h ((PD, seqObj "list" vs.toArray cD) :: (tups ++ base9)) → W .next { s with heap := h, toks := tk' }) :
    wpAny (model rw_oy0313_02.row.prog w) ((ktrTop dp un gd cn cs L a ccd cl outer).deeper (prE L')) (pyIter (.ref ax)) (fun it s₂ => ∃ I n, it = .ref I ∧ OwitRest rw_oy0313_02.row.prog w ((ktrTop dp un gd cn cs L a ccd cl outer).deeper (prE L')) E' (prE L') (ofString "x") prB W I n s₂) E' { s with heap := h1, toks := tk1 } := by
  revert X; k_fill; intro X
  k_dflt (refine for_list (its := its) (c := cA) (J := fun i m news => ∃ vs cD tups xv sg si, m = prM sl (.int (k : Nat) tk) PD xv sg si ∧ news = (PD, seqObj "list" vs.toArray cD) :: (tups ++ base9) ∧ PtsIn tups ((xs.take i).map (partOf k)) vs ∧ (∀ p ∈ tups, p.1 ≠ PD)) rfl rfl (by rfl) (by rfl) F N ⟨[], c0, [], xv, sg, si, rfl, rfl, .nil, fun _ h => nomatch h⟩ (.tail _ hm) (fun i m nw h => by obtain ⟨_, _, _, _, _, _, _, rfl, _⟩ := h; exact .tail _ (List.mem_append.mpr (.inr hm))) ?_ ?_)
  · rintro I i v m2 news h tk2 oI hv hi ⟨vs, cD, tups, xv2, sg2, si2, rfl, rfl, P, ht⟩ Fb Nb ne
    obtain ⟨f, u, hd, hx9⟩ := ints_at hI i (by rw [← hI.length]; exact hi)
    rw [hx9] at hv
    obtain rfl := Option.some.inj hv
    have Fb2 := Fr_cong Fb (prM_x sl (.int (k : Nat) tk) PD xv2 sg2 si2 _)
    have nI : @Ne Nat I PD := Ne.symm (ne _ (.head _))
    have hvl : vs.length < 400000 := by
      have := P.length
      rw [List.length_map, List.length_take] at this; omega
    refine pt_turn w mean mg mb dp un gd cn cs a ccd cl outer A₀ base h₀ L m _ Q E g' L' _ E' sl k tk u PD I oI f sg2 si2 vs cD (tups ++ base9) B X T Fb2 Nb nI (fun p hp => (List.mem_append.mp hp).elim (ht p) (hne p)) hk hvl hdp hun ?_
    intro T nv sv t1 t2 k1 c' sg3 si3 h3 tk3 hTI2 hp F3 N3
    obtain ⟨rfl, rfl⟩ := hp
    have hTI : @Ne Nat T PD := news_ne N3 (.head _) (.tail _ (.tail _ (.head _))) (ne_tt rfl rfl (by decide))
    refine ⟨h3, tk3, _, (PD, seqObj "list" (vs ++ [Value.ref T]).toArray c') :: (((T, seqObj "tuple" #[.int ((partOf k f).1 : Nat) t1, .str (tx [(partOf k f).2]) t2] k1) :: tups) ++ base9), rfl, F3, ?_, ?_, vs ++ [.ref T], c', _, _, sg3, si3, rfl, rfl, ?_, ?_⟩
    · exact news_pick (pre := [_, _, _]) [1, 2, 0] rfl N3
    · intro p hp
      rcases List.mem_cons.mp hp with rfl | hp
      · exact (ne (PD, seqObj "list" vs.toArray cD) (.head _) : PD ≠ I)
      · rcases List.mem_cons.mp hp with rfl | hp
        · exact hTI2
        · exact ne p (.tail _ hp)
    · rw [show xs.take (i + 1) = xs.take i ++ [f] by
        have : i < xs.length := by rw [← hI.length]; exact hi
        rw [List.take_add_one]
        rw [show xs[i]? = some f by have := congrArg List.head? hd; rw [List.head?_drop] at this; simpa using this]
        rfl]
      rw [List.map_append]
      exact P.snoc (fun p hp => .tail _ hp) (.head _) (Nat.le_trans (partOf_le hk f) (by decide))
    · intro p hp
      rcases List.mem_cons.mp hp with rfl | hp
      · exact hTI
      · exact ht p hp
  · rintro m2 news h tk2 ⟨vs, cD, tups, xv2, sg2, si2, rfl, rfl, P, ht⟩ Fd Nd
    rw [hI.length, List.take_length] at P
    exact hgo vs cD tups xv2 sg2 si2 h tk2 P Fd Nd
end
section
theorem slice_17 (l : List Value) : (slicePick l.toArray (some (1 : Int)) (some (7 : Int)) none).toList = (l.drop 1).take 6 := by
  rw [slice_pick l _ _ (min 1 l.length) (min 7 l.length) ?_ (by omega) (by omega)]
  · by_cases h : l.length ≤ 1
    · rw [List.drop_eq_nil_of_le (show l.length ≤ 1 from h), List.drop_eq_nil_of_le (by omega)]; simp
    · rw [show min 1 l.length = 1 by omega]
      by_cases h7 : 7 ≤ l.length
      · rw [show min 7 l.length - 1 = 6 by omega]
      · rw [List.take_of_length_le (by rw [List.length_drop]; omega), List.take_of_length_le (by rw [List.length_drop]; omega)]
  · unfold sliceBounds
    simp only [Option.getD_none, show (1 : Int) > 0 by decide, if_true]
    refine Prod.ext ?_ (Prod.ext ?_ rfl)
    · show max (0 : Int) (min (if (1 : Int) < 0 then (1 : Int) + (l.length : Int) else (1 : Int)) (l.length : Int)) = ((min 1 l.length : Nat) : Int)
      rw [if_neg (by omega)]; omega
    · show max (0 : Int) (min (if (7 : Int) < 0 then (7 : Int) + (l.length : Int) else (7 : Int)) (l.length : Int)) = ((min 7 l.length : Nat) : Int)
      rw [if_neg (by omega)]; omega
/-- the numbers that the parts are made of -/
def numsOf (ns : List Int) : List Int := if (ns.drop 1).take 6 = [] then [18, 5] else (ns.drop 1).take 6
theorem IntsAre.drop {vs : List Value} {ns : List Int} (h : IntsAre vs ns) : ∀ k, IntsAre (vs.drop k) (ns.drop k) := by
  induction h with
  | nil => intro k; simp; exact .nil
  | cons n t r ih =>
    intro k
    cases k with
    | zero => exact .cons n t r
    | succ k => exact ih k
theorem IntsAre.take {vs : List Value} {ns : List Int} (h : IntsAre vs ns) : ∀ k, IntsAre (vs.take k) (ns.take k) := by
  induction h with
  | nil => intro k; simp; exact .nil
  | cons n t r ih =>
    intro k
    cases k with
    | zero => exact .nil
    | succ k => exact .cons n t (ih k)
theorem prM_0 (sl : Addr) (kv : Value) (PD : Addr) (y : Str) : (if y = ofString "parts" then some (Value.ref PD) else if y = ofString "k" then some kv else if y = ofString "script" then some (Value.ref sl) else none) = prM (.ref sl) kv PD none none none y := by
  unfold prM
  by_cases h1 : y = ofString "size"
  · subst h1; kernel_rfl
  by_cases h2 : y = ofString "sign"
  · subst h2; kernel_rfl
  by_cases h3 : y = ofString "x"
  · subst h3; kernel_rfl
  simp only [if_neg h1, if_neg h2, if_neg h3]
theorem c_parts (w : World) (mean : ExcName → Option Value) (mg mb : Str → Option Value)
    (dp un : Nat) (gd : Option (List Code)) (cn : Str) (cs : Scope) (a : Addr) (ccd : Value) (cl : List (Str × Addr)) (outer : List Env) (A₀ : Around) (base h₀ : Heap) (L : Addr) (m : Str → Option Value) (s : Shared) (Q E : Value → Shared → Prop) (sl : Addr) (svs : List Value) (ns : List Int) (hsl : h₀.IsList sl svs.toArray) (hI : IntsAre svs ns) (hns : ns.length ≤ 63) (k : Nat) (hk4 : k ≤ 4) (tk0 : Tok) (rest : List (Addr × Obj))
    (B : Below A₀ base outer h₀) (F : Fr h₀ L s.heap m) (X : (Mine.K w.params).In h₀) (T : Top Mine.q (looseW Mine.q Mine.loose) mean mg mb h₀) (hk : cs.kind = .function) (N : News h₀ L s.heap rest) (hdp : dp + 24 < recursionLimit) (hun : un + 330 < cLine)
    (hret : ∀ PD vs c tups h tk, PtsIn tups ((numsOf ns).map (partOf k)) vs → Fr h₀ L h m → News h₀ L h ((PD, seqObj "list" vs.toArray c) :: (tups ++ rest)) → Q (.ref PD) { s with heap := h, toks := tk }) :
    wpAny (model rw_oy0313_02.row.prog w) (ktrTop dp un gd cn cs L a ccd cl outer) (call (.ref 783) [.ref sl, .int (k : Nat) tk0]) Q E s := by
  revert X; k_fill; intro X
  refine wpAny_call ?_
  k_dflt (refine' code_def ?k1 ?k2 ?k3 ?k4 ?k5 ?kA ?kF ?kK ?k6 ?k7 ?k8 ?k9 ?kB ?_ ?c2 ?c3 ?c4 ?c5; (case kA => exact rfl); (case kF => exact rfl); (case kK => assumption); (case k1 => k_asm); (case k2 => k_asm); (case k3 => k_asm); (case k4 => k_asm); (case k5 => k_asm); (case k6 => k_is); (case k7 => k_is); (case k8 => ktr_room); (case k9 => first | exact BindsTo.of_eq rfl | exact binds_K (by k_in) rfl (by k_is) rfl rfl rfl); (case c5 => decide); (case kB => exact locs rfl); (case c2 => exact rfl); (case c3 => exact rfl); (case c4 => exact rfl); k_whole; intro g' L' h' FG' F' N' B' X' T'; (try dsimp only); (try k_lift B'); (try k_fold))
  have F2 := Fr_cong (m' := fun y => if y = ofString "k" then some (Value.int (k : Nat) tk0) else if y = ofString "script" then some (Value.ref sl) else none) F' (fun y => Eq.trans (b := List.lookup y [(ofString "k", Value.int (k : Nat) tk0), (ofString "script", Value.ref sl)]) (by kernel_rfl) (look2 y _ _ _ _))
  clear F'
  repeat' ((fail_if_success (with_reducible show wpAny _ _ (exec (Stmt.For _ _ _ _ _) _) _ _ _)); ktr_step)
  refine nt_for ?_
  repeat' ((fail_if_success (with_reducible show wpAny _ _ (subscriptTail _ _ _ _) _ _ _)); ktr_step)
  rename Fr g' L' _ _ => F9
  rename News g' L' _ _ => N9
  rename Fr h₀ L g' _ => FG
  rename (∀ p ∈ rest, _) => hr9
  have F10 := Fr_cong F9 (prM_0 sl _ _)
  have hls := (hsl.at (FG.keep _)).at (F9.keep _)
  have hsz : svs.length ≤ 63 := by rw [hI.length]; exact hns
  have hcut : slicePick svs.toArray (some (1 : Int)) (some (7 : Int)) none = ((svs.drop 1).take 6).toArray := by
    rw [← slice_17, Array.toArray_toList]
  k_dflt (refine kmk_slice F10 N9 hls (.int _ _) (.int _ _) (fun D h' F8 N8 l8 => ?_) (by with_unfolding_all rfl) (by kmk_pure) (by rw [List.size_toArray, sizeLine_eq]; omega))
  rw [hcut] at N8
  have hIt := (hI.drop 1).take 6
  have hl6 : ((svs.drop 1).take 6).length ≤ 6 := by rw [List.length_take]; omega
  generalize (svs.drop 1).take 6 = its at *
  have hlt : (its.toArray.size : Int) < 2 ^ 63 := by
    rw [List.size_toArray]; omega
  have hlD : h'.IsList D its.toArray := News.isList N8 (.head _)
  dsimp only
  refine wpAny_truthy_list hlD hlt ?_
  have e9 : numsOf ns = if (ns.drop 1).take 6 = [] then [18, 5] else (ns.drop 1).take 6 := rfl
  generalize (ns.drop 1).take 6 = xs9 at *
  cases hIt with
  | nil =>
    show wpAny _ _ (eval _ _) _ _ _
    repeat' ((fail_if_success (with_reducible show wpAny _ _ (pyIter _) _ _ _)); ktr_step)
    rename Fr g' L' _ _ => F4
    rename News g' L' _ _ => N4
    rename (@LT.lt Nat _ _ _ ∧ @LT.lt Nat _ _ _ ∧ AllLt _ rest) => q4
    have N3 := news_pick (pre := [_, _, _]) [2, 0] rfl N4
    rw [if_pos rfl] at e9
    k_dflt (refine pt_loop w mean mg mb dp un gd cn cs a ccd cl outer A₀ base h₀ L m _ Q E g' L' _ _ (.ref sl) k tk0 _ _ _ [18, 5] [.int 18 _, .int 5 _] 0 0 _ _ none none none B' X' T' F4 N3 (.head _) (fun p hp => ?_) (.cons _ _ (.cons _ _ .nil)) (Nat.le_of_ble_eq_true rfl) hk4 (by omega) (by omega) ?_)
    · rcases List.mem_cons.mp hp with rfl | hp
      · exact Nat.ne_of_gt q4.2.1
      · exact Nat.ne_of_lt (hr9 p hp)
    intro vs cD tups xv sg si h tk' P F5 N5
    unfold prM at F5
    dsimp only
    repeat' ktr_step
    rename Fr h₀ L _ _ => FK
    rename News h₀ L _ _ => NK
    refine hret _ vs cD tups _ _ (by rw [e9]; exact P) FK (fun p hp => NK p ?_)
    rcases List.mem_cons.mp hp with rfl | hp
    · exact .head _
    · rcases List.mem_append.mp hp with hp | hp
      · exact .tail _ (List.mem_append.mpr (.inl hp))
      · exact .tail _ (List.mem_append.mpr (.inr (.tail _ hp)))
  | cons v0 t9 r9 =>
    show wpAny _ _ (pyIter _) _ _ _
    have N3 := news_pick (pre := [_, _]) [1, 0] rfl N8
    rw [if_neg (fun h => nomatch h)] at e9
    k_dflt (refine pt_loop w mean mg mb dp un gd cn cs a ccd cl outer A₀ base h₀ L m _ Q E g' L' _ _ (.ref sl) k tk0 _ _ _ _ _ 0 0 _ _ none none none B' X' T' F8 N3 (.head _) (fun p hp => ?_) (.cons v0 t9 r9) hl6 hk4 (by omega) (by omega) ?_)
    · rcases List.mem_cons.mp hp with rfl | hp
      · exact Nat.ne_of_gt (l8 _ (.head _))
      · exact Nat.ne_of_lt (hr9 p hp)
    intro vs cD tups xv sg si h tk' P F5 N5
    unfold prM at F5
    dsimp only
    repeat' ktr_step
    rename Fr h₀ L _ _ => FK
    rename News h₀ L _ _ => NK
    refine hret _ vs cD tups _ _ (by rw [e9]; exact P) FK (fun p hp => NK p ?_)
    rcases List.mem_cons.mp hp with rfl | hp
    · exact .head _
    · rcases List.mem_append.mp hp with hp | hp
      · exact .tail _ (List.mem_append.mpr (.inl hp))
      · exact .tail _ (List.mem_append.mpr (.inr (.tail _ hp)))
end
section
theorem due_body (up k : Nat) (ps : List (Nat × Nat)) : dueL up k ps = body (ps.map (runQ up k)) := by
  unfold dueL body runQ
  rw [List.flatMap_map]
theorem part_K {k : Nat} (hk : 1 ≤ k) (x : Int) : partK k (partOf k x) := by
  unfold partOf
  split; · exact ⟨show (97 : Nat) ≠ 92 by decide, fun h => absurd (show (97 : Nat) = 34 from h) (by decide)⟩
  split; · exact ⟨show (32 : Nat) ≠ 92 by decide, fun h => absurd (show (32 : Nat) = 34 from h) (by decide)⟩
  split; · exact ⟨show (10 : Nat) ≠ 92 by decide, fun h => absurd (show (10 : Nat) = 34 from h) (by decide)⟩
  split; · exact ⟨show (39 : Nat) ≠ 92 by decide, fun h => absurd (show (39 : Nat) = 34 from h) (by decide)⟩
  split
  · refine ⟨?_, fun h => ?_⟩
    · show (if _ then 98 else _) ≠ 92
      split
      · decide
      · rename_i h; exact fun e => h (.inr e)
    · exfalso
      revert h
      show (if _ then 98 else _) = 34 → False
      split
      · exact fun e => absurd e (by decide)
      · rename_i h; exact fun e => h (.inl e)
  · refine ⟨show (34 : Nat) ≠ 92 by decide, fun _ => ⟨((x.fdiv 6).fmod 2).toNat + 1, Nat.succ_pos _, ?_⟩⟩
    have h1 : 1 ≤ 2 ^ k * (((x.fdiv 6).fmod 2).toNat + 1) := Nat.mul_pos (Nat.pow_pos (by decide)) (Nat.succ_pos _)
    show 2 ^ k * (((x.fdiv 6).fmod 2).toNat + 1) - 1 + 1 = _
    omega
/-- the number that the first figures write -/
def upN : List Int → Nat → Nat
  | [], _ => 0
  | f :: r, i => (if f = 1 then 2 ^ i else 0) + upN r (i + 1)
theorem upN_sum : ∀ (fs : List Int) (i : Nat), (upL fs i).sum = ((upN fs i : Nat) : Int)
  | [], _ => rfl
  | f :: r, i => by
    unfold upL upN
    by_cases h : f = 1
    · rw [if_pos h, if_pos h, List.sum_cons, upN_sum r (i + 1)]; norm_cast
    · rw [if_neg h, if_neg h, upN_sum r (i + 1), Nat.zero_add]
theorem upN_snoc : ∀ (fs : List Int) (f : Int) (i : Nat), upN (fs ++ [f]) i = upN fs i + if f = 1 then 2 ^ (i + fs.length) else 0
  | [], f, i => by simp [upN]
  | g :: r, f, i => by
    show (if g = 1 then 2 ^ i else 0) + upN (r ++ [f]) (i + 1) = (if g = 1 then 2 ^ i else 0) + upN r (i + 1) + _
    rw [upN_snoc r f (i + 1), List.length_cons, show i + 1 + r.length = i + (r.length + 1) by omega, Nat.add_assoc]
theorem upN_lt : ∀ (fs : List Int) (i : Nat), upN fs i + 2 ^ i ≤ 2 ^ (i + fs.length)
  | [], i => by simp [upN]
  | f :: r, i => by
    have ih := upN_lt r (i + 1)
    have e2 : 2 ^ (i + 1) = 2 ^ i + 2 ^ i := by rw [Nat.pow_succ]; omega
    have ih2 : upN r (i + 1) + (2 ^ i + 2 ^ i) ≤ 2 ^ (i + (f :: r).length) := by
      rw [← e2, List.length_cons, show i + (r.length + 1) = i + 1 + r.length by omega]
      exact ih
    have h2 : 1 ≤ 2 ^ i := Nat.pow_pos (by decide)
    refine Nat.le_trans ?_ ih2
    show (if f = 1 then 2 ^ i else 0) + upN r (i + 1) + 2 ^ i ≤ _
    split <;> omega
/-- what a reading tells -/
theorem reads {k : Nat} {ps : List (Nat × Nat)} (hp : ∀ p ∈ ps, partK k p) (fs : List Int) (f : Int) (hi : fs.length < k) :
    (f = 1 → ShW 1 (34 :: (dueL (upN fs 0) fs.length ps ++ [34])) (some [dueL (upN (fs ++ [f]) 0) (fs ++ [f]).length ps])) ∧
    (f ≠ 1 → ∃ r1, ntT (34 :: (dueL (upN fs 0) fs.length ps ++ [34])) 0 [] = (dueL (upN (fs ++ [f]) 0) (fs ++ [f]).length ps, r1) ∧ ntT r1 0 [] = ([], [])) := by
  rw [due_body, due_body, upN_snoc, List.length_append, List.length_singleton, Nat.zero_add]
  refine ⟨fun h => ?_, fun h => ?_⟩
  · rw [if_pos h]; exact sh_reads hp hi
  · rw [if_neg h, Nat.add_zero]
    exact ⟨[], nt_reads hp hi, rfl⟩
end
theorem ring17 : True := by first | walk1 | trivial
section
local macro_rules | `(tactic| walk_at "compareOp In str str") => `(tactic| (refine' my_in ?mb ?_; (case mb => first | assumption | (refine (?_ : _ = true); kernel_rfl!) | (refine (?_ : _ = false); kernel_rfl!))))
local macro_rules | `(tactic| walk_at "compareOp Eq str str") => `(tactic| (refine' my_eq ?mb ?_; (case mb => first | assumption | (refine (?_ : _ = true); kernel_rfl!) | (refine (?_ : _ = false); kernel_rfl!))))
local macro_rules | `(tactic| walk_at "compareOp NotEq str str") => `(tactic| (refine' my_ne ?mb ?_; (case mb => first | assumption | (refine (?_ : _ = true); kernel_rfl!) | (refine (?_ : _ = false); kernel_rfl!))))
local macro_rules | `(tactic| walk_at "truthy str") => `(tactic| (refine' my_true ?ml ?mb ?_; (case ml => first | assumption | decide +kernel); (case mb => first | assumption | (refine (?_ : _ = true); kernel_rfl!) | (refine (?_ : _ = false); kernel_rfl!)); intro k9))
local macro_rules | `(tactic| walk_at "inplaceOp Add str str") => `(tactic| (refine' my_iadd ?mz ?ms ?_; (case mz => assumption); (case ms => assumption); intro t9 k9))
local macro_rules | `(tactic| walk_at "ite") => `(tactic| first | refine ite_tt ?_ | refine ite_ff ?_)
local macro_rules | `(tactic| walk_at "compareOp NotIn str str") => `(tactic| (refine' my_nin ?mb ?_; (case mb => assumption)))
local macro_rules | `(tactic| walk_at "call ref") => `(tactic| (k_here; (with_reducible show wpAny _ _ (call (Value.ref 575) [Value.ref _, Value.int 1 _]) _ _ _); k_dflt (first
  | (refine' c_readC ?k1 ?k2 ?k3 ?k4 ?k5 ?k6 ?k7 ?k8 ?kd ?ku ?kl ?kp ?kx ?_; (case k1 => k_asm); (case k2 => k_asm); (case k3 => k_asm); (case k4 => k_asm); (case k5 => first | exact rfl | assumption); (case k6 => k_asm); (case k7 => k_mem); (case k8 => k_updF); (case kd => ktr_room); (case ku => ktr_units); (case kl => assumption); (case kp => assumption); (case kx => assumption); k_whole; intro t9 u9 h9 tk9 F9 N9; (try dsimp only at N9); (try dsimp only))
  | (refine' c_readN ?k1 ?k2 ?k3 ?k4 ?k5 ?k6 ?k7 ?k8 ?kd ?ku ?kl ?kq ?kp ?_; (case k1 => k_asm); (case k2 => k_asm); (case k3 => k_asm); (case k4 => k_asm); (case k5 => first | exact rfl | assumption); (case k6 => k_asm); (case k7 => k_mem); (case k8 => k_updF); (case kd => ktr_room); (case ku => ktr_units); (case kl => assumption); (case kq => assumption); (case kp => assumption); k_whole; intro t9 h9 tk9 F9 N9; (try dsimp only at N9); (try dsimp only)))))
section
local macro_rules | `(tactic| walk_at "call builtin:len") => `(tactic| (k_here; k_dflt (refine my_len (by k_asm) (by first | assumption | k_mem) (by assumption) ?_); intro t9 k9))
local macro_rules | `(tactic| walk_at "subscriptTail Name Name ref int") => `(tactic| (k_here; (with_reducible show wpAny _ _ (subscriptTail _ _ (Value.ref _) (Value.int _ _)) _ _ _); (with_unfolding_all refine' my_item ?N ?ma ?hz ?hx ?_ ?hs ?hg; (case N => k_asm); (case ma => first | assumption | k_mem); (case hz => assumption); (case hx => assumption); (case hs => with_unfolding_all rfl); (case hg => intro _; with_unfolding_all rfl); k_whole)))
local macro_rules | `(tactic| walk_at "compareOp NotEq ref ref") => `(tactic| (k_here; k_dflt (refine' my_lneA ?N ?ma ?mb ?wa ?wb ?ca ?cb ?hu ?hbb ?_; (case N => k_asm); (case ma => k_mem); (case mb => k_mem); (case wa => exact .cons .nil); (case wb => exact .cons .nil); (case ca => assumption); (case cb => assumption); (case hu => ktr_units); (case hbb => exact decide_eq_true rfl))))
local macro_rules | `(tactic| walk_at "subscriptTail Name Constant ref int") => `(tactic| (k_here; (with_unfolding_all refine' my_item0 ?N ?ma ?hx ?_ ?hs ?hg; (case N => k_asm); (case ma => k_mem); (case hx => exact rfl); (case hs => with_unfolding_all rfl); (case hg => intro _; with_unfolding_all rfl); k_whole)))
local macro_rules | `(tactic| walk_at "binaryOp Add str str") => `(tactic| (k_here; k_dflt (refine' my_addS ?mz ?ms ?_; (case mz => assumption); (case ms => assumption); intro t9 k9)))
section
noncomputable abbrev hoE (L : Addr) : Env := envOf (ofString "_law_holds") (fS (stAt 27)) L 802 (Value.ref 801)
noncomputable abbrev hoB : List Stmt := forB 1 (fB (stAt 27))
def hoM (pl fl : Addr) (l : List Nat) (t : Tok) (iv wd : Option Value) : Str → Option Value := fun y => if y = ofString "i" then iv else if y = ofString "words" then wd else if y = ofString "text" then some (.str (tx l) t) else if y = ofString "figures" then some (.ref fl) else if y = ofString "parts" then some (.ref pl) else none
theorem ho_n (pl fl : Addr) (l l2 : List Nat) (t t' : Tok) (iv wd wd' : Option Value) (y : Str) : (if y = ofString "text" then some (Value.str (tx l2) t') else if y = ofString "words" then wd' else hoM pl fl l t iv wd y) = hoM pl fl l2 t' iv wd' y := by
  unfold hoM
  by_cases h1 : y = ofString "text"
  · subst h1; kernel_rfl
  by_cases h2 : y = ofString "words"
  · subst h2; kernel_rfl
  simp only [if_neg h1, if_neg h2]
theorem ho_turn (w : World) (mean : ExcName → Option Value) (mg mb : Str → Option Value)
    (dp un : Nat) (gd : Option (List Code)) (cn : Str) (cs : Scope) (a : Addr) (ccd : Value) (cl : List (Str × Addr)) (outer : List Env) (A₀ : Around) (base h₀ : Heap) (L : Addr) (m : Str → Option Value) (s : Shared) (Q E : Value → Shared → Prop) (g' : Heap) (L' : Addr) (W : Flow → Shared → Prop) (E' : Value → Shared → Prop)
    (pl fl : Addr) (l l2 : List Nat) (t ti : Tok) (wd : Option Value) (i : Nat) (f : Int) (uf : Tok) (led : List (Addr × Obj)) (vp vF : List Value) (cP cF : Nat)
    (B : Below (ktrTop dp un gd cn cs L a ccd cl outer) base (envX cn cs L a ccd cl :: outer) g') (X : (Mine.K w.params).In g') (T : Top Mine.q (looseW Mine.q Mine.loose) mean mg mb g') (F : Fr g' L' s.heap (hoM pl fl l t (some (.int (i : Nat) ti)) wd)) (N : News g' L' s.heap led) (hmP : (pl, seqObj "list" vp.toArray cP) ∈ led) (hmF : (fl, seqObj "list" vF.toArray cF) ∈ led)
    (XB : (Mine.K w.params).In base) (TB : Top Mine.q (looseW Mine.q Mine.loose) mean mg mb base) (D : KtsDicts ((envX cn cs L a ccd cl :: outer).filterMap (·.frame)) g')
    (hz : vF.length < 400000) (hx : vF[i]? = some (.int f uf)) (hl : l.length ≤ 6000) (fs : List Int) (IF : IntsAre vF fs) (hlF : vF.length ≤ 8) (hi : i < fs.length) (ps : List (Nat × Nat)) (P : PtsIn led ps vp) (hps : ps.length ≤ 8) (hl2 : l2 = dueL (upN (fs.take (i + 1)) 0) (fs.take (i + 1)).length ps) (cp2 : cpOk l2) (hdp : dp + 90 < recursionLimit) (hun : un + 1200 < cLine)
    (hsh : f = 1 → ShW 1 (34 :: (l ++ [34])) (some [l2])) (hnt : f ≠ 1 → ∃ r1, ntT (34 :: (l ++ [34])) 0 [] = (l2, r1) ∧ ntT r1 0 [] = ([], []))
    (hW : ∀ g2 t' iv wd h tk, KtsTurn ((envX cn cs L a ccd cl :: outer).filterMap (·.frame)) g' g2 → Fr g2 L' h (hoM pl fl l2 t' iv wd) → News g2 L' h led → Below (ktrTop dp un gd cn cs L a ccd cl outer) base (envX cn cs L a ccd cl :: outer) g2 → (Mine.K w.params).In g2 → Top Mine.q (looseW Mine.q Mine.loose) mean mg mb g2 → KtsDicts ((envX cn cs L a ccd cl :: outer).filterMap (·.frame)) g2 → W .next { s with heap := h, toks := tk }) :
    wpAny (model rw_oy0313_02.row.prog w) ((ktrTop dp un gd cn cs L a ccd cl outer).deeper (hoE L')) (execs hoB (hoE L')) W E' s := by
  revert X; k_fill; intro X
  have ha : ofString "\"" ++ tx l = tx (34 :: l) := by rw [s_dq]; exact tx_app [34] l
  have hb : tx (34 :: l) ++ ofString "\"" = tx (34 :: (l ++ [34])) := by rw [s_dq]; exact tx_app (34 :: l) [34]
  have ha2 : (tx (34 :: l)).length < 400000 := by rw [len_tx, List.length_cons]; omega
  have hb2 : (tx (34 :: (l ++ [34]))).length < 400000 := by rw [len_tx, List.length_cons, List.length_append, List.length_singleton]; omega
  unfold hoM at F
  repeat' ((fail_if_success (with_reducible show wpAny _ _ (call (Value.ref 795) _) _ _ _)); ktr_step)
  rename Fr g' L' _ _ => F9
  rename News g' L' _ _ => N9
  k_dflt (refine' c_lread w mean mg mb _ _ _ _ _ _ _ _ _ _ _ _ _ _ _ _ _ led (34 :: (l ++ [34])) l2 _ _ f B F9 X T rfl N9 XB TB D ?kd ?ku ?hl 1 (by decide) hsh hnt ?_)
  (case kd => ktr_room)
  (case ku => ktr_units)
  (case hl => rw [List.length_cons, List.length_append, List.length_singleton]; omega)
  intro S tt c h2 tk2 g2 T2 F2 N2 B2 X2 TT2 D2
  clear F9 N9 B X T D
  repeat' ((fail_if_success (with_reducible show wpAny _ _ (subscriptTail _ _ _ _) _ _ _)); ktr_step)
  rename Fr g2 L' _ _ => F7
  rename News g2 L' _ _ => N7
  have hls := News.isList N7 (.tail _ hmF)
  have hcut : slicePick vF.toArray none (some ((i : Int) + 1)) none = (vF.take (i + 1)).toArray := by
    have := slice_takeB vF (i + 1)
    rw [show ((i + 1 : Nat) : Int) = (i : Int) + 1 by omega] at this
    rw [← this, Array.toArray_toList]
  k_dflt (refine kmk_slice F7 N7 hls .none (.int _ _) (fun D h3 F8 N8 l8 => ?_) (by with_unfolding_all rfl) (by kmk_pure) (by rw [List.size_toArray, sizeLine_eq]; omega))
  rw [hcut] at N8
  dsimp only
  repeat' ((fail_if_success (with_reducible show wpAny _ _ (call (Value.ref 788) _) _ _ _)); ktr_step)
  rename Fr g2 L' _ _ => F6
  rename News g2 L' _ _ => N6
  rename IntsAre vF fs => IF
  have hul := upN_lt (fs.take (i + 1)) 0
  have hul2 : (2 : Nat) ^ (0 + (fs.take (i + 1)).length) ≤ 2 ^ 8 := Nat.pow_le_pow_right (by decide) (by rw [List.length_take, ← IF.length]; omega)
  have c2 : ∀ x ∈ [l2], cpOk x := fun x hx => by rw [List.mem_singleton.mp hx]; exact cp2
  k_dflt (refine' c_due w mean mg mb _ _ _ _ _ _ _ _ _ _ _ _ _ _ _ _ _ _ pl D vp cP 0 (fs.take (i + 1)) (vF.take (i + 1)) (IF.take (i + 1)) ?h1 ps ?P hps (upN (fs.take (i + 1)) 0) (upN_sum _ 0) ?h2 B2 F6 X2 TT2 rfl N6 ?mP ?mF ?kd ?ku ?_)
  (case h1 => rw [List.length_take]; omega)
  (case P => exact P.mono fun p hp => .tail _ (.tail _ hp))
  (case h2 => omega)
  (case mP => exact .tail _ (.tail _ hmP))
  (case mF => exact .head _)
  (case kd => ktr_room)
  (case ku => ktr_units)
  intro t4 h4 tk4 F4 N4
  rw [← hl2]
  repeat' ktr_step
  rename Fr g2 L' _ _ => F3
  rename News g2 L' _ _ => N3
  (try dsimp only)
  exact hW g2 _ _ _ _ _ T2 (Fr_cong F3 (ho_n pl fl l l2 t _ (some (.int (i : Nat) ti)) wd _)) (fun p hp => N3 p (.tail _ (.tail _ (.tail _ hp)))) B2 X2 TT2 D2
end
end
section
theorem ho_0 (pl fl : Addr) (l : List Nat) (t : Tok) (y : Str) : (if y = ofString "text" then some (Value.str (tx l) t) else if y = ofString "figures" then some (Value.ref fl) else if y = ofString "parts" then some (Value.ref pl) else none) = hoM pl fl l t none none y := by
  unfold hoM
  by_cases h1 : y = ofString "i"
  · subst h1; kernel_rfl
  by_cases h2 : y = ofString "words"
  · subst h2; kernel_rfl
  simp only [if_neg h1, if_neg h2]
theorem ho_i (pl fl : Addr) (l : List Nat) (t : Tok) (iv wd : Option Value) (v : Value) (y : Str) : (if y = ofString "i" then some v else hoM pl fl l t iv wd y) = hoM pl fl l t (some v) wd y := by
  unfold hoM
  by_cases h1 : y = ofString "i"
  · simp only [if_pos h1]
  · simp only [if_neg h1]
theorem dueL_len (up k : Nat) (hup : up ≤ 300) : ∀ (ps : List (Nat × Nat)), (∀ p ∈ ps, p.1 ≤ 100 ∧ p.2 < 0x110000) → (dueL up k ps).length ≤ 401 * ps.length ∧ cpOk (dueL up k ps)
  | [], _ => ⟨Nat.zero_le _, fun _ h => nomatch h⟩
  | p :: ps, h => by
    obtain ⟨a, b⟩ := dueL_len up k hup ps (fun q hq => h q (.tail _ hq))
    obtain ⟨h1, h2⟩ := h p (.head _)
    have hd : (p.1 + if p.2 == 34 then 0 else up) / 2 ^ k ≤ 400 := Nat.le_trans (Nat.div_le_self _ _) (by split <;> omega)
    have e : dueL up k (p :: ps) = (List.replicate ((p.1 + if p.2 == 34 then 0 else up) / 2 ^ k) 92 ++ [p.2]) ++ dueL up k ps := by unfold dueL; rw [List.flatMap_cons]
    rw [e]
    refine ⟨?_, fun x hx => ?_⟩
    · rw [List.length_append, List.length_append, List.length_replicate, List.length_singleton, List.length_cons]; omega
    · rcases List.mem_append.mp hx with hx | hx
      · rcases List.mem_append.mp hx with hx | hx
        · rw [(List.mem_replicate.mp hx).2]; decide
        · rw [List.mem_singleton.mp hx]; exact h2
      · exact b x hx
theorem c_holds (w : World) (mean : ExcName → Option Value) (mg mb : Str → Option Value)
    (dp un : Nat) (gd : Option (List Code)) (cn : Str) (cs : Scope) (a : Addr) (ccd : Value) (cl : List (Str × Addr)) (outer : List Env) (A₀ : Around) (base h₀ : Heap) (L : Addr) (m : Str → Option Value) (s : Shared) (Q E : Value → Shared → Prop)
    (rest : List (Addr × Obj)) (pl fl : Addr) (ps : List (Nat × Nat)) (vp vF : List Value) (cP cF : Nat) (fs : List Int) (IF : IntsAre vF fs) (hlF : vF.length ≤ 4) (P : PtsIn rest ps vp) (hps : ps.length ≤ 8) (hK : ∀ p ∈ ps, partK fs.length p) (hC : ∀ p ∈ ps, p.1 ≤ 100 ∧ p.2 < 0x110000)
    (B : Below A₀ base outer h₀) (F : Fr h₀ L s.heap m) (X : (Mine.K w.params).In h₀) (T : Top Mine.q (looseW Mine.q Mine.loose) mean mg mb h₀) (hk : cs.kind = .function)
    (N : News h₀ L s.heap rest) (hmP : (pl, seqObj "list" vp.toArray cP) ∈ rest) (hmF : (fl, seqObj "list" vF.toArray cF) ∈ rest) (XB : (Mine.K w.params).In base) (TB : Top Mine.q (looseW Mine.q Mine.loose) mean mg mb base) (D : KtsDicts (outer.filterMap (·.frame)) h₀) (hdp : dp + 110 < recursionLimit) (hun : un + 1500 < cLine)
    (hret : ∀ h tk h₀', KtsTurn (outer.filterMap (·.frame)) h₀ h₀' → Fr h₀' L h m → Q (.bool true) { s with heap := h, toks := tk }) :
    wpAny (model rw_oy0313_02.row.prog w) (ktrTop dp un gd cn cs L a ccd cl outer) (call (.ref 802) [.ref pl, .ref fl]) Q E s := by
  revert X; k_fill; intro X
  have hz : vF.length < 400000 := by omega
  refine wpAny_call ?_
  k_dflt (refine' code_defSX ?k1 ?k2 ?k3 ?k4 ?k5 ?XB ?TB ?D ?T0 ?kA ?k6 ?k7 ?k8 ?k9 ?kB ?_ ?cK ?c2 ?c3 ?c4 ?c5; (case kA => exact rfl); (case k1 => k_asm); (case k2 => k_asm); (case XB => assumption); (case TB => assumption); (case D => assumption); (case T0 => exact KtsTurn.refl); (case k3 => k_asm); (case k4 => k_asm); (case k5 => k_asm); (case k6 => k_is); (case k7 => k_is); (case k8 => ktr_room); (case k9 => first | exact BindsTo.of_eq rfl | exact binds_K (by k_in) rfl (by k_is) rfl rfl rfl); (case kB => exact locs rfl); (case cK => assumption); (case c2 => exact rfl); (case c3 => exact rfl); (case c4 => exact rfl); (case c5 => decide); k_whole; intro g' L' h' FG' F' N' B' X' T' D'; (try dsimp only))
  have F2 := Fr_cong (m' := fun y => if y = ofString "figures" then some (Value.ref fl) else if y = ofString "parts" then some (Value.ref pl) else none) F' (fun y => Eq.trans (b := List.lookup y [(ofString "figures", Value.ref fl), (ofString "parts", Value.ref pl)]) (by kernel_rfl) (look2 y _ _ _ _))
  clear F'
  repeat' ((fail_if_success (with_reducible show wpAny _ _ (call (Value.ref 788) _) _ _ _)); ktr_step)
  rename Fr g' L' _ _ => F9
  rename News g' L' _ _ => N9
  k_dflt (refine' c_due w mean mg mb _ _ _ _ _ _ _ _ _ _ _ _ _ _ _ _ _ _ pl _ vp cP 0 [] [] .nil ?h1 ps ?P hps 0 rfl ?h2 B' F9 X' T' rfl N9 ?mP ?mF ?kd ?ku ?_)
  (case h1 => exact Nat.zero_le _)
  (case P => exact P.mono fun p hp => .tail _ hp)
  (case h2 => omega)
  (case mP => exact .tail _ hmP)
  (case mF => exact .head _)
  (case kd => ktr_room)
  (case ku => ktr_units)
  intro t4 h4 tk4 F4 N4
  repeat' ((fail_if_success (with_reducible show wpAny _ _ (exec (Stmt.For _ _ _ _ _) _) _ _ _)); ktr_step)
  refine nt_for ?_
  repeat' ((fail_if_success (with_reducible show wpAny _ _ (call (Value.builtin "len") _) _ _ _)); ktr_step)
  rename News g' L' _ _ => N5
  k_dflt (refine my_len N5 (.tail _ hmF) hz ?_)
  intro t9 k9
  repeat' ((fail_if_success (with_reducible show wpAny _ _ (pyIter _) _ _ _)); ktr_step)
  rename IsRange _ _ _ _ _ _ _ _ => hr
  rename Fr g' L' _ _ => F6
  rename News g' L' _ _ => N6
  rename IntsAre vF fs => IF
  have F8 := Fr_cong F6 (ho_0 pl fl _ _)
  have N7 : News g' L' _ rest := fun p hp => N6 p (.tail _ hp)
  have hlf : fs.length ≤ 4 := by rw [← IF.length]; exact hlF
  have hup : ∀ j, upN (fs.take j) 0 ≤ 300 := fun j => by
    have h1 := upN_lt (fs.take j) 0
    have h2 : (2 : Nat) ^ (0 + (fs.take j).length) ≤ 2 ^ 8 := Nat.pow_le_pow_right (by decide) (by rw [List.length_take]; omega)
    omega
  k_dflt (refine for_rangeT (n := fs.length) (J := fun i g m news => ∃ t iv wd, m = hoM pl fl (dueL (upN (fs.take i) 0) (fs.take i).length ps) t iv wd ∧ news = rest ∧ KtsTurn ((envX cn cs L a ccd cl :: outer).filterMap (·.frame)) g' g ∧ Below (ktrTop dp un gd cn cs L a ccd cl outer) base (envX cn cs L a ccd cl :: outer) g ∧ (Mine.K w.params).In g ∧ Top Mine.q (looseW Mine.q Mine.loose) mean mg mb g ∧ KtsDicts ((envX cn cs L a ccd cl :: outer).filterMap (·.frame)) g) rfl rfl (by rfl) (by rfl) F8 N7 ⟨_, none, none, rfl, rfl, KtsTurn.refl, B', X', T', D'⟩ hr (range_small0 _ (by omega)) (range_size0 _) ?_ ?_)
  · rintro I i g v m2 news h tk oI ⟨tv, rfl⟩ hi ⟨t, iv, wd, rfl, rfl, KT, Bg, Xg, Tg, Dg⟩ Fb Nb ne
    rw [Int.zero_add] at Fb
    have Fb2 := Fr_cong Fb (ho_i pl fl _ t iv wd _)
    obtain ⟨f, u, hd, hx9⟩ := ints_at IF i hi
    have et : fs.take (i + 1) = fs.take i ++ [f] := by
      rw [List.take_add_one, show fs[i]? = some f by have := congrArg List.head? hd; rw [List.head?_drop] at this; simpa using this]
      rfl
    have hr2 := reads hK (fs.take i) f (by rw [List.length_take]; omega)
    rw [← et] at hr2
    have hl1 := dueL_len (upN (fs.take i) 0) (fs.take i).length (hup i) ps hC
    have hl2 := dueL_len (upN (fs.take (i + 1)) 0) (fs.take (i + 1)).length (hup (i + 1)) ps hC
    refine ho_turn w mean mg mb dp un gd cn cs a ccd cl outer A₀ base h₀ L m _ Q E g L' _ _ pl fl _ _ t tv wd i f u ((I, oI) :: news) vp vF cP cF Bg Xg Tg Fb2 Nb (.tail _ hmP) (.tail _ hmF) XB TB Dg hz hx9 (by omega) fs IF (by omega) hi ps (P.mono fun p hp => .tail _ hp) hps rfl hl2.2 (by omega) (by omega) hr2.1 hr2.2 ?_
    intro g2 t' iv2 wd2 h5 tk5 T5 F5 N5 B5 X5 TT5 D5
    exact ⟨g2, h5, tk5, _, news, rfl, F5, N5, ne, t', iv2, wd2, rfl, rfl, KT.trans T5, B5, X5, TT5, D5⟩
  · rintro g m2 news h tk ⟨t, iv, wd, rfl, rfl, KT, Bg, Xg, Tg, Dg⟩ Fd Nd
    dsimp only
    repeat' ktr_step
    first | exact hret _ _ _ (by assumption) (by assumption) | (rename KtsTurn _ h₀ _ => KT9; rename Fr _ L _ m => FK; exact hret _ _ _ KT9 FK)
end
theorem ring18 : True := by first | walk1 | trivial
section
local macro_rules | `(tactic| walk_at "call builtin:len") => `(tactic| (k_here; k_dflt (refine my_len (by k_asm) (by first | assumption | k_mem) (by assumption) ?_); intro t9 k9))
section
theorem Fr_unturn {g g' h : Heap} {L : Addr} {m : Str → Option Value} (T : KtsTurn [] g g') (F : Fr g' L h m) : Fr g L h m := ⟨F.ns, fun b o e => F.keep b o (T.other b o e (fun q => nomatch q)), by rw [← T.size]; exact F.above⟩
theorem law_b (w : World) (mean : ExcName → Option Value) (mg mb : Str → Option Value) (h : Heap) (L c1 fa : Addr) (cdv : Value) (s : Shared) (Q : Flow → Shared → Prop) (E : Value → Shared → Prop)
    (sl : Addr) (svs : List Value) (ns : List Int) (hsl : h.IsList sl svs.toArray) (hI : IntsAre svs ns) (hns : ns.length ≤ 63)
    (B : Below callerA h [] h) (X : (Mine.K w.params).In h) (T : Top Mine.q (looseW Mine.q Mine.loose) mean mg mb h)
    (x : Int) (t0 : Tok) (o1 : Obj) (ho1 : o1.data = Data.cell (some (Value.int x t0)))
    (F : Fr h L s.heap (fun y => if y = ofString "script" then some (.ref sl) else none)) (N : News h L s.heap [(c1, o1)])
    (hQ : ∀ h' tk m, Fr h L h' m → Q (.ret (.bool true)) { s with heap := h', toks := tk }) :
    wpAny (model rw_oy0313_02.row.prog w) (callerA.deeper (lawE L c1 fa cdv)) (execs ((fB (stAt 28)).drop 1) (lawE L c1 fa cdv)) Q E s := by
  revert X; k_fill; intro X
  obtain ⟨k, hk4, hk⟩ : ∃ k : Nat, k < 4 ∧ x.fmod 4 = (k : Int) := by
    have h0 : 0 ≤ x.fmod 4 := Int.fmod_nonneg_of_pos _ (by decide)
    have h1 : x.fmod 4 < 4 := Int.fmod_lt_of_pos _ (by decide)
    exact ⟨(x.fmod 4).toNat, by omega, by omega⟩
  repeat' ((fail_if_success (with_reducible show wpAny _ _ (exec (Stmt.Assign _ (Expr.ListComp _ _ _ _) _) _) _ _ _)); ktr_step)
  rename Fr h L _ _ => F9
  k_dflt (refine LCg.Assign_ListComp_U (cl := [(ofString "first", c1)]) F9 (by rfl) (by with_unfolding_all rfl) (by with_unfolding_all rfl) (by decide) (by rfl) (by decide) (by rfl) (by rfl) (by rfl) ?_)
  repeat' ((fail_if_success (with_reducible show LCg.CompSrc _ _ _ _ _ _ _ _ _ _ _ _ _ _)); ktr_step)
  rename IsRange _ _ _ _ _ _ _ _ => hr
  rename Fr h L _ _ => F8
  rename News h L _ _ => N8
  rename IntsAre svs ns => hI
  have ek : x.fmod 4 + 1 = ((k + 1 : Nat) : Int) := by omega
  rw [ek] at hr
  refine LCg.CompSrc.range (n := k + 1) rfl F8 N8 hr (range_small0 _ (by omega)) (range_size0 _) (by rw [sizeLine_eq]; omega) ?_
  intro gh
  refine fig_rest w mean mg mb h L c1 fa cdv _ _ B X T x t0 o1 ho1 _ _ _ _ _ _ _ _ _ _ _ _ _ (k + 1) 0 [] (by omega) ?_
  intro us fs IF hl
  rw [List.nil_append]
  have hul : us.length = k + 1 := by rw [IF.length, hl]
  have hz : us.length < 400000 := by omega
  unfold LCg.FinA
  intro D1 h1 tk1 F1 N1 off1
  clear F8 N8
  dsimp only
  repeat' ((fail_if_success (with_reducible show wpAny _ _ (call (Value.ref 783) _) _ _ _)); ktr_step)
  rename Fr h L _ _ => F7
  rename News h L _ _ => N7
  rename IntsAre svs ns => hI
  k_dflt (refine c_parts w mean mg mb 302 7 (some []) (ofString "law") (fS (stAt 28)) fa cdv [(ofString "first", c1)] [] callerA h h L _ _ _ _ sl svs ns hsl hI hns _ ?hk _ _ B F7 X T rfl N7 (by decide) (by decide) ?_)
  (case hk => omega)
  intro PD vs cP tups h3 tk3 P3 F3 N3
  clear F7 N7
  repeat' ((fail_if_success (with_reducible show wpAny _ _ (call (Value.ref 802) _) _ _ _)); ktr_step)
  rename Fr h L _ _ => F5
  rename News h L _ _ => N5
  rename IntsAre us fs => IF
  have hnl : (numsOf ns).length ≤ 6 := by
    unfold numsOf
    split
    · decide
    · rw [List.length_take]; omega
  have ex : us.length = fs.length := by omega
  rw [ex] at P3
  k_dflt (refine c_holds w mean mg mb 302 7 (some []) (ofString "law") (fS (stAt 28)) fa cdv [(ofString "first", c1)] [] callerA h h L _ _ _ _ _ PD D1 ((numsOf ns).map (partOf fs.length)) vs us cP us.length fs IF (by omega) (P3.mono ?hP) ?hps ?hK ?hC B F5 X T rfl N5 (.head _) ?hmF X T ?hD (by decide) (by decide) ?_)
  (case hP => exact fun p hp => .tail _ (List.mem_append.mpr (.inl hp)))
  (case hps => rw [List.length_map]; omega)
  (case hK =>
    intro p hp
    obtain ⟨y, _, rfl⟩ := List.mem_map.mp hp
    exact part_K (by omega) y)
  (case hC =>
    intro p hp
    obtain ⟨y, _, rfl⟩ := List.mem_map.mp hp
    exact part_C (by omega) y)
  (case hmF => exact .tail _ (List.mem_append.mpr (.inr (.head _))))
  (case hD => exact fun _ q => nomatch q)
  intro h5 tk5 g5 T5 F6
  exact hQ _ _ _ (Fr_unturn T5 F6)
theorem law_scr (L c1 fa : Addr) (cdv : Value) : (lawE L c1 fa cdv).kindOf (ofString "script") = some .local := by kernel_rfl
theorem law_bl (L c1 fa : Addr) (cdv v : Value) (y : Str) : bindL (lawE L c1 fa cdv).kindOf [(ofString "script", v)] (fun _ => none) y = if y = ofString "script" then some v else none := by
  simp only [bindL, law_scr, if_true]
theorem law_go (w : World) (mean : ExcName → Option Value) (mg mb : Str → Option Value) (h : Heap) (L c1 fa : Addr) (cdv : Value) (s : Shared) (Q : Flow → Shared → Prop) (E : Value → Shared → Prop)
    (sl : Addr) (svs : List Value) (ns : List Int) (hsl : h.IsList sl svs.toArray) (hI : IntsAre svs ns) (hns : ns.length ≤ 63)
    (B : Below callerA h [] h) (X : (Mine.K w.params).In h) (T : Top Mine.q (looseW Mine.q Mine.loose) mean mg mb h)
    (o1 : Obj) (ho1 : o1.data = Data.cell none)
    (F0 : Fr h L s.heap (bindL (lawE L c1 fa cdv).kindOf [(ofString "script", .ref sl)] (fun _ => none))) (N : News h L s.heap [(c1, o1)])
    (hQ : ∀ h' tk m, Fr h L h' m → Q (.ret (.bool true)) { s with heap := h', toks := tk }) :
    wpAny (model rw_oy0313_02.row.prog w) (callerA.deeper (lawE L c1 fa cdv)) (execs (fB (stAt 28)) (lawE L c1 fa cdv)) Q E s := by
  have F := Fr_cong F0 (law_bl L c1 fa cdv (.ref sl))
  clear F0
  revert X; k_fill; intro X
  have hls := hsl.at (F.keep _)
  have hlt : (svs.toArray.size : Int) < 2 ^ 63 := by
    rw [List.size_toArray, hI.length]; omega
  repeat' ((fail_if_success (with_reducible show wpAny _ _ (truthy _) _ _ _)); ktr_step)
  refine wpAny_truthy_list hls hlt ?_
  have step : ∀ v h2 tk2 (o2 : Obj) x t0, v = Value.int x t0 → o2.data = Data.cell (some v) → Fr h L h2 (fun y => if y = ofString "script" then some (.ref sl) else none) → News h L h2 [(c1, o2)] →
      wpAny (model rw_oy0313_02.row.prog w) (callerA.deeper (lawE L c1 fa cdv)) (execs ((fB (stAt 28)).drop 1) (lawE L c1 fa cdv)) Q E { s with heap := h2, toks := tk2 } := by
    intro v h2 tk2 o2 x t0 hv ho2 F2 N2
    subst hv
    exact law_b w mean mg mb h L c1 fa cdv { s with heap := h2, toks := tk2 } Q E sl svs ns hsl hI hns B X T x t0 o2 ho2 F2 N2 (fun h' tk m F => hQ h' tk m F)
  cases hI with
  | nil =>
    show wpAny _ _ (eval _ _) _ _ _
    repeat' ((fail_if_success (with_reducible show wpAny _ _ (execs (Stmt.Assign _ (Expr.ListComp _ _ _ _) _ :: _) _) _ _ _)); ktr_step)
    rename Fr h L _ _ => F2
    rename News h L _ _ => N2
    rename _ = Data.cell (some (Value.int 5 _)) => d2
    exact step _ _ _ _ _ _ rfl d2 F2 (fun p hp => N2 p (.tail _ hp))
  | cons n0 t9 r9 =>
    show wpAny _ _ (eval _ _) _ _ _
    repeat' ((fail_if_success (with_reducible show wpAny _ _ (subscriptTail _ _ _ _) _ _ _)); ktr_step)
    k_dflt (refine tail_any hls.typeIs slot_list_getitem.lookup (wpAny_getItem_list hls (by decide) (by decide) (x := .int n0 t9) (by rfl) ?_) (by with_unfolding_all rfl))
    repeat' ((fail_if_success (with_reducible show wpAny _ _ (execs (Stmt.Assign _ (Expr.ListComp _ _ _ _) _ :: _) _) _ _ _)); ktr_step)
    rename Fr h L _ _ => F2
    rename News h L _ _ => N2
    rename _ = Data.cell (some (Value.int n0 _)) => d2
    exact step _ _ _ _ _ _ rfl d2 F2 (fun p hp => N2 p hp)
end
end
end
end Mine
local macro_rules | `(tactic| k_qdec) => `(tactic| decide +kernel)
theorem PySem.Challenge.cw_oy0313_02_holds : PySem.Challenge.rw_oy0313_02.Holds := by
  w_on
  refine holds_law Mine.saidP fun said => ?_
  refine holds_open (q := Mine.q) (loose := Mine.loose) (Xt := Mine.Xt) (XP := XL Mine.q []) (Yf := Hook.obs Mine.H) (Ya := Hook.val Mine.H) (YP := Hook.says Mine.H) (N := 10542) Mine.left1 (Hook.of Mine.H) (Hook.keeps Mine.H) (fun s e => xl_of s (Bool.and_eq_true_iff.mp e).1) XL.keeps (by rfl) (by rfl) (by rfl) (fun s e => recFacts_of (Bool.and_eq_true_iff.mp e).2) (by rfl) (by first | assumption | decide +kernel) (by decide +kernel) ⟨rfl, rfl, rfl, rfl, rfl, by decide +kernel⟩ ?hw ?hc
  case hw => w_witness2
  case hc =>
    w_strict (k_go0; (rename IntsAre _ _ => hI); (rename Heap.IsList _ _ _ => hsl); (rename ¬ (_ < _) => hns); (rename Below callerA _ [] _ => K0); (rename Frag.In _ _ => KX); (rename Top _ _ _ _ _ _ => T); (rename Fr _ _ _ _ => F); (rename News _ _ _ _ => N); (rename _ = Data.cell _ => hc9); k_dflt (refine Mine.law_go _ _ _ _ _ _ _ _ _ _ _ _ _ _ _ hsl hI (by omega) K0 KX T _ (Eq.trans hc9 (by kernel_rfl)) (Mine.Fr_cong F (fun x => by kernel_rfl)) N ?_); (intro h5 tk5 m5 F5; clear F; k_steps))
